import PyProof.Rows.All
import Wide.All
import OpenK.AllK
import Wide.FinOn
import KE.KSlice
import KE.KEqDict
import KE.KxPercent
import Lean
import PySem.Challenge.RW_qb0003_02
open PySem PySem.W PySem.Calls PyProof.Rows
set_option Elab.async false
set_option maxRecDepth 100000
set_option linter.unusedVariables false

namespace Mine
open PySem.Challenge

/-! the head: the top's run, with the written part K told by projections out of the program -/
noncomputable def S (i : Nat) : Stmt := (pw_qb0003_02.main.body[i]?).getD (.Pass ⟨0, 0, 0, 0⟩)
noncomputable def SM (i j : Nat) : Stmt := match S i with
  | .ClassDef _ _ _ cb _ _ _ _ _ _ _ => (cb[j]?).getD (.Pass ⟨0, 0, 0, 0⟩)
  | _ => .Pass ⟨0, 0, 0, 0⟩
noncomputable def bodyOf : Stmt → List Stmt
  | .FunctionDef _ _ b _ _ _ _ _ _ _ => b
  | _ => []
noncomputable def argsOf : Stmt → Arguments
  | .FunctionDef _ a _ _ _ _ _ _ _ _ => a
  | _ => ⟨[], [], none, [], [], none, []⟩
noncomputable def scopeOf : Stmt → Scope
  | .FunctionDef _ _ _ _ _ _ s _ _ _ => s
  | _ => ⟨.function, [], false, false, []⟩
noncomputable def nameOf : Stmt → Str
  | .FunctionDef n _ _ _ _ _ _ _ _ _ => n
  | _ => ""
noncomputable def fo (s : Stmt) (qual : Str) (dV kV doc pm : Value) (an : Option Addr) (cdv ct : Value) : Obj :=
  ⟨.type "function", none, .func (fnOf (nameOf s) qual (argsOf s) (bodyOf s) (scopeOf s) dV kV doc pm an cdv ct), #[]⟩
def en (P : Params) (x : Str) (t : Tok) (v : Value) : DictEntry := ⟨PyData.keyHash P x, .str x t, v⟩
def cd (name : Str) (bases mro : List Value) (ns : Addr) (qual : Str) (hasDict : Bool) (slotNames : List Str) (subs : List Value) (abs : Bool) (col : Option Bool) (del : Bool) : ClassData :=
  { name := name, bases := bases, mro := mro, ns := ns, qualname := qual, hasDict := hasDict, slotNames := slotNames, subclasses := subs, abstract := abs, collection := col, hasDel := del }
noncomputable def o2 (P : Params) : Obj := ⟨.none, none, .dict [en P "type.__subclasses__.Exception.0" 212 (.int 31 0), en P "type.__subclasses__.Exception.n" 213 (.int 1 0)].toArray 2, [].toArray⟩
noncomputable def o3 (P : Params) : Obj := ⟨.type "dict", none, .dict [en P "__name__" 165 (.str "law_qb0003_02" 534), en P "__doc__" 166 (.none), en P "__package__" 167 (.none), en P "__loader__" 168 (.builtin "__main__.__loader__#opaque"), en P "__spec__" 169 (.none), en P "__annotations__" 170 (.ref 6), en P "__builtins__" 171 (.ref 4), en P "__file__" 173 (.str "/claim/cut.py" 172), en P "__cached__" 174 (.none), en P "_wall" 193 (.ref 21), en P "YaccError" 215 (.ref 31), en P "_is_identifier" 221 (.ref 39), en P "_IDENTIFIER" 223 (.str "abcdefghijklmnopqrstuvwxyzABCDEFGHIJKLMNOPQRSTUVWXYZ0123456789_-" 222), en P "_literal" 230 (.ref 46), en P "Production" 323 (.ref 100), en P "rightmost_terminal" 332 (.ref 111), en P "GrammarError" 348 (.ref 121), en P "Grammar" 533 (.ref 248), en P "_law_TOLD" 543 (.ref 253), en P "_law_GIVEN" 551 (.ref 254), en P "_law_draw" 558 (.ref 261), en P "_law_rules" 564 (.ref 266), en P "_law_read" 575 (.ref 273), en P "_law_ways" 589 (.ref 280), en P "_law_found" 595 (.ref 285), en P "law" 601 (.ref 290)].toArray 26, [].toArray⟩
noncomputable def o21 (P : Params) : Obj := fo (S 0) "_wall" (.none) (.none) (.none) (.str "__main__" 164) (none) (.ref 20) (.none)
noncomputable def o30 (P : Params) : Obj := ⟨.type "dict", none, .dict [en P "__module__" 203 (.str "ply.yacc" 194), en P "__firstlineno__" 207 (.int 5 206), en P "__static_attributes__" 208 (.ref 29), en P "__weakref__" 210 (.ref 32), en P "__doc__" 211 (.none)].toArray 3, [].toArray⟩
noncomputable def o31 (P : Params) : Obj := ⟨.type "type", none, .cls (cd "YaccError" [.type "Exception"] [.ref 31, .type "Exception", .type "BaseException", .type "object"] 30 "YaccError" true [] [.ref 121] false (none) false), [some (.ref 22), none, some (.str "YaccError" 196), some (.str "YaccError" 204), some (.builtin "Exception.__new__"), some (.bool true)].toArray⟩
noncomputable def o32 (P : Params) : Obj := ⟨.type "getset_descriptor", none, .fields [.str "__weakref__" 209, .ref 31, .builtin "ExceptionGroup.__weakref__", .none].toArray, [].toArray⟩
noncomputable def o38 (P : Params) : Obj := ⟨.type "code", none, .fields [.str "_is_identifier" 216, .str "_is_identifier" 217, .str "/claim/cut.py" 218, .int 7 0, .int 1 0, .int 0 0, .int 0 0, .int 3 0, .ref 35, .bool true, .int 181 0, .ref 36, .none, .none, .none, .ref 37, .int 219 0, .int 7 0, .str "/claim/cut.py" 220].toArray, [].toArray⟩
noncomputable def o39 (P : Params) : Obj := fo (S 3) "_is_identifier" (.none) (.none) (.none) (.str "ply.yacc" 194) (none) (.ref 38) (.none)
noncomputable def o45 (P : Params) : Obj := ⟨.type "code", none, .fields [.str "_literal" 224, .str "_literal" 225, .str "/claim/cut.py" 226, .int 10 0, .int 1 0, .int 0 0, .int 0 0, .int 3 0, .ref 40, .bool true, .int 181 0, .ref 41, .none, .ref 42, .ref 43, .ref 44, .int 228 0, .int 10 0, .str "/claim/cut.py" 229].toArray, [].toArray⟩
noncomputable def o46 (P : Params) : Obj := fo (S 5) "_literal" (.none) (.none) (.none) (.str "ply.yacc" 194) (none) (.ref 45) (.none)
noncomputable def o54 (P : Params) : Obj := ⟨.type "tuple", none, .seq [.str "right" 247, .int 0 248].toArray 0, [].toArray⟩
noncomputable def o55 (P : Params) : Obj := ⟨.type "tuple", none, .seq [.ref 54, .none, .str "" 249, .int 0 250].toArray 0, [].toArray⟩
noncomputable def o61 (P : Params) : Obj := ⟨.type "code", none, .fields [.str "__init__" 251, .str "Production.__init__" 252, .str "/claim/cut.py" 253, .int 18 0, .int 8 0, .int 0 0, .int 0 0, .int 3 0, .ref 56, .bool true, .int 181 0, .ref 57, .none, .ref 58, .ref 59, .ref 60, .int 263 0, .int 18 0, .str "/claim/cut.py" 264].toArray, [].toArray⟩
noncomputable def o62 (P : Params) : Obj := fo (SM 6 2) "Production.__init__" (.ref 55) (.none) (.none) (.str "ply.yacc" 194) (none) (.ref 61) (.none)
noncomputable def o69 (P : Params) : Obj := fo (SM 6 3) "Production.__str__" (.none) (.none) (.none) (.str "ply.yacc" 194) (none) (.ref 68) (.none)
noncomputable def o76 (P : Params) : Obj := fo (SM 6 4) "Production.__repr__" (.none) (.none) (.none) (.str "ply.yacc" 194) (none) (.ref 75) (.none)
noncomputable def o83 (P : Params) : Obj := fo (SM 6 5) "Production.__len__" (.none) (.none) (.none) (.str "ply.yacc" 194) (none) (.ref 82) (.none)
noncomputable def o90 (P : Params) : Obj := fo (SM 6 6) "Production.__getitem__" (.none) (.none) (.none) (.str "ply.yacc" 194) (none) (.ref 89) (.none)
noncomputable def o97 (P : Params) : Obj := fo (SM 6 7) "Production.bind" (.none) (.none) (.none) (.str "ply.yacc" 194) (none) (.ref 96) (.none)
noncomputable def o99 (P : Params) : Obj := ⟨.type "dict", none, .dict [en P "__module__" 238 (.str "ply.yacc" 194), en P "__firstlineno__" 242 (.int 14 241), en P "reduced" 244 (.int 0 243), en P "lr0_added" 246 (.int 0 245), en P "__init__" 265 (.ref 62), en P "__str__" 272 (.ref 69), en P "__repr__" 279 (.ref 76), en P "__len__" 286 (.ref 83), en P "__getitem__" 294 (.ref 90), en P "bind" 302 (.ref 97), en P "__static_attributes__" 316 (.ref 98), en P "__dict__" 318 (.ref 101), en P "__weakref__" 320 (.ref 102), en P "__doc__" 321 (.none)].toArray 4, [].toArray⟩
noncomputable def o100 (P : Params) : Obj := ⟨.type "type", none, .cls (cd "Production" [.type "object"] [.ref 100, .type "object"] 99 "Production" true [] [] false (none) false), [some (.ref 47), none, some (.str "Production" 231), some (.str "Production" 239), some (.builtin "object.__new__"), some (.bool true)].toArray⟩
noncomputable def o101 (P : Params) : Obj := ⟨.type "getset_descriptor", none, .fields [.str "__dict__" 317, .ref 100, .builtin "function.__dict__", .builtin "function.__dict__#set"].toArray, [].toArray⟩
noncomputable def o102 (P : Params) : Obj := ⟨.type "getset_descriptor", none, .fields [.str "__weakref__" 319, .ref 100, .builtin "ExceptionGroup.__weakref__", .none].toArray, [].toArray⟩
noncomputable def o110 (P : Params) : Obj := ⟨.type "code", none, .fields [.str "rightmost_terminal" 324, .str "rightmost_terminal" 325, .str "/claim/cut.py" 326, .int 53 0, .int 2 0, .int 0 0, .int 0 0, .int 3 0, .ref 105, .bool true, .int 181 0, .ref 106, .none, .ref 107, .ref 108, .ref 109, .int 330 0, .int 53 0, .str "/claim/cut.py" 331].toArray, [].toArray⟩
noncomputable def o111 (P : Params) : Obj := fo (S 7) "rightmost_terminal" (.none) (.none) (.none) (.str "ply.yacc" 194) (none) (.ref 110) (.none)
noncomputable def o120 (P : Params) : Obj := ⟨.type "dict", none, .dict [en P "__module__" 340 (.str "ply.yacc" 194), en P "__firstlineno__" 344 (.int 60 343), en P "__static_attributes__" 345 (.ref 119), en P "__doc__" 346 (.none)].toArray 2, [].toArray⟩
noncomputable def o121 (P : Params) : Obj := ⟨.type "type", none, .cls (cd "GrammarError" [.ref 31] [.ref 121, .ref 31, .type "Exception", .type "BaseException", .type "object"] 120 "GrammarError" true [] [] false (none) false), [some (.ref 112), none, some (.str "GrammarError" 333), some (.str "GrammarError" 341), some (.builtin "Exception.__new__"), some (.bool true)].toArray⟩
noncomputable def o136 (P : Params) : Obj := ⟨.type "code", none, .fields [.str "__init__" 361, .str "Grammar.__init__" 362, .str "/claim/cut.py" 363, .int 64 0, .int 2 0, .int 0 0, .int 0 0, .int 3 0, .ref 131, .bool true, .int 181 0, .ref 132, .none, .ref 133, .ref 134, .ref 135, .int 367 0, .int 64 0, .str "/claim/cut.py" 368].toArray, [].toArray⟩
noncomputable def o137 (P : Params) : Obj := fo (SM 9 0) "Grammar.__init__" (.none) (.none) (.none) (.str "ply.yacc" 194) (none) (.ref 136) (.none)
noncomputable def o144 (P : Params) : Obj := fo (SM 9 1) "Grammar.__len__" (.none) (.none) (.none) (.str "ply.yacc" 194) (none) (.ref 143) (.none)
noncomputable def o151 (P : Params) : Obj := fo (SM 9 2) "Grammar.__getitem__" (.none) (.none) (.none) (.str "ply.yacc" 194) (none) (.ref 150) (.none)
noncomputable def o158 (P : Params) : Obj := fo (SM 9 3) "Grammar.set_precedence" (.none) (.none) (.none) (.str "ply.yacc" 194) (none) (.ref 157) (.none)
noncomputable def o159 (P : Params) : Obj := ⟨.type "tuple", none, .seq [.none, .str "" 395, .int 0 396].toArray 0, [].toArray⟩
noncomputable def o165 (P : Params) : Obj := ⟨.type "code", none, .fields [.str "add_production" 397, .str "Grammar.add_production" 398, .str "/claim/cut.py" 399, .int 88 0, .int 6 0, .int 0 0, .int 0 0, .int 3 0, .ref 160, .bool true, .int 181 0, .ref 161, .none, .ref 162, .ref 163, .ref 164, .int 416 0, .int 88 0, .str "/claim/cut.py" 417].toArray, [].toArray⟩
noncomputable def o166 (P : Params) : Obj := fo (SM 9 4) "Grammar.add_production" (.ref 159) (.none) (.none) (.str "ply.yacc" 194) (none) (.ref 165) (.none)
noncomputable def o167 (P : Params) : Obj := ⟨.type "tuple", none, .seq [.none].toArray 0, [].toArray⟩
noncomputable def o173 (P : Params) : Obj := ⟨.type "code", none, .fields [.str "set_start" 419, .str "Grammar.set_start" 420, .str "/claim/cut.py" 421, .int 146 0, .int 2 0, .int 0 0, .int 0 0, .int 3 0, .ref 168, .bool true, .int 181 0, .ref 169, .none, .ref 170, .ref 171, .ref 172, .int 424 0, .int 146 0, .str "/claim/cut.py" 425].toArray, [].toArray⟩
noncomputable def o174 (P : Params) : Obj := fo (SM 9 5) "Grammar.set_start" (.ref 167) (.none) (.none) (.str "ply.yacc" 194) (none) (.ref 173) (.none)
noncomputable def o181 (P : Params) : Obj := fo (SM 9 6) "Grammar.find_unreachable" (.none) (.none) (.none) (.str "ply.yacc" 194) (none) (.ref 180) (.none)
noncomputable def o188 (P : Params) : Obj := fo (SM 9 7) "Grammar.infinite_cycles" (.none) (.none) (.none) (.str "ply.yacc" 194) (none) (.ref 187) (.none)
noncomputable def o195 (P : Params) : Obj := fo (SM 9 8) "Grammar.undefined_symbols" (.none) (.none) (.none) (.str "ply.yacc" 194) (none) (.ref 194) (.none)
noncomputable def o202 (P : Params) : Obj := fo (SM 9 9) "Grammar.unused_terminals" (.none) (.none) (.none) (.str "ply.yacc" 194) (none) (.ref 201) (.none)
noncomputable def o209 (P : Params) : Obj := fo (SM 9 10) "Grammar.unused_rules" (.none) (.none) (.none) (.str "ply.yacc" 194) (none) (.ref 208) (.none)
noncomputable def o216 (P : Params) : Obj := fo (SM 9 11) "Grammar.unused_precedence" (.none) (.none) (.none) (.str "ply.yacc" 194) (none) (.ref 215) (.none)
noncomputable def o222 (P : Params) : Obj := ⟨.type "code", none, .fields [.str "_first" 469, .str "Grammar._first" 470, .str "/claim/cut.py" 471, .int 173 0, .int 2 0, .int 0 0, .int 0 0, .int 3 0, .ref 217, .bool true, .int 181 0, .ref 218, .none, .ref 219, .ref 220, .ref 221, .int 478 0, .int 173 0, .str "/claim/cut.py" 479].toArray, [].toArray⟩
noncomputable def o223 (P : Params) : Obj := fo (SM 9 12) "Grammar._first" (.none) (.none) (.none) (.str "ply.yacc" 194) (none) (.ref 222) (.none)
noncomputable def o229 (P : Params) : Obj := ⟨.type "code", none, .fields [.str "compute_first" 481, .str "Grammar.compute_first" 482, .str "/claim/cut.py" 483, .int 190 0, .int 1 0, .int 0 0, .int 0 0, .int 3 0, .ref 224, .bool true, .int 181 0, .ref 225, .none, .ref 226, .ref 227, .ref 228, .int 490 0, .int 190 0, .str "/claim/cut.py" 491].toArray, [].toArray⟩
noncomputable def o230 (P : Params) : Obj := fo (SM 9 13) "Grammar.compute_first" (.none) (.none) (.none) (.str "ply.yacc" 194) (none) (.ref 229) (.none)
noncomputable def o231 (P : Params) : Obj := ⟨.type "tuple", none, .seq [.none].toArray 0, [].toArray⟩
noncomputable def o237 (P : Params) : Obj := ⟨.type "code", none, .fields [.str "compute_follow" 493, .str "Grammar.compute_follow" 494, .str "/claim/cut.py" 495, .int 210 0, .int 2 0, .int 0 0, .int 0 0, .int 3 0, .ref 232, .bool true, .int 181 0, .ref 233, .none, .ref 234, .ref 235, .ref 236, .int 506 0, .int 210 0, .str "/claim/cut.py" 507].toArray, [].toArray⟩
noncomputable def o238 (P : Params) : Obj := fo (SM 9 14) "Grammar.compute_follow" (.ref 231) (.none) (.none) (.str "ply.yacc" 194) (none) (.ref 237) (.none)
noncomputable def o245 (P : Params) : Obj := fo (SM 9 15) "Grammar.build_lritems" (.none) (.none) (.none) (.str "ply.yacc" 194) (none) (.ref 244) (.none)
noncomputable def o247 (P : Params) : Obj := ⟨.type "dict", none, .dict [en P "__module__" 356 (.str "ply.yacc" 194), en P "__firstlineno__" 360 (.int 62 359), en P "__init__" 369 (.ref 137), en P "__len__" 376 (.ref 144), en P "__getitem__" 384 (.ref 151), en P "set_precedence" 394 (.ref 158), en P "add_production" 418 (.ref 166), en P "set_start" 426 (.ref 174), en P "find_unreachable" 433 (.ref 181), en P "infinite_cycles" 440 (.ref 188), en P "undefined_symbols" 447 (.ref 195), en P "unused_terminals" 454 (.ref 202), en P "unused_rules" 461 (.ref 209), en P "unused_precedence" 468 (.ref 216), en P "_first" 480 (.ref 223), en P "compute_first" 492 (.ref 230), en P "compute_follow" 508 (.ref 238), en P "build_lritems" 515 (.ref 245), en P "__static_attributes__" 526 (.ref 246), en P "__dict__" 528 (.ref 249), en P "__weakref__" 530 (.ref 250), en P "__doc__" 531 (.none)].toArray 4, [].toArray⟩
noncomputable def o248 (P : Params) : Obj := ⟨.type "type", none, .cls (cd "Grammar" [.type "object"] [.ref 248, .type "object"] 247 "Grammar" true [] [] false (none) false), [some (.ref 124), none, some (.str "Grammar" 349), some (.str "Grammar" 357), some (.builtin "object.__new__"), some (.bool true)].toArray⟩
noncomputable def o249 (P : Params) : Obj := ⟨.type "getset_descriptor", none, .fields [.str "__dict__" 527, .ref 248, .builtin "function.__dict__", .builtin "function.__dict__#set"].toArray, [].toArray⟩
noncomputable def o250 (P : Params) : Obj := ⟨.type "getset_descriptor", none, .fields [.str "__weakref__" 529, .ref 248, .builtin "ExceptionGroup.__weakref__", .none].toArray, [].toArray⟩
noncomputable def o253 (P : Params) : Obj := ⟨.type "list", none, .seq [.str "S" 536, .str "A" 537, .str "B" 538, .str "a" 539, .str "b" 540, .str "+" 541, .str "error" 542].toArray 0, [].toArray⟩
noncomputable def o254 (P : Params) : Obj := ⟨.type "list", none, .seq [.str "S" 544, .str "A" 545, .str "B" 546, .str "a" 547, .str "b" 548, .str "'+'" 549, .str "error" 550].toArray 0, [].toArray⟩
noncomputable def o260 (P : Params) : Obj := ⟨.type "code", none, .fields [.str "_law_draw" 552, .str "_law_draw" 553, .str "/claim/cut.py" 554, .int 247 0, .int 1 0, .int 0 0, .int 0 0, .int 3 0, .ref 255, .bool true, .int 181 0, .ref 256, .none, .ref 257, .ref 258, .ref 259, .int 556 0, .int 247 0, .str "/claim/cut.py" 557].toArray, [].toArray⟩
noncomputable def o261 (P : Params) : Obj := fo (S 13) "_law_draw" (.none) (.none) (.none) (.str "law_qb0003_02" 534) (none) (.ref 260) (.none)
noncomputable def o265 (P : Params) : Obj := ⟨.type "code", none, .fields [.str "_law_rules" 559, .str "_law_rules" 560, .str "/claim/cut.py" 561, .int 249 0, .int 1 0, .int 0 0, .int 0 0, .int 3 0, .ref 262, .bool true, .int 181 0, .ref 263, .none, .none, .none, .ref 264, .int 562 0, .int 249 0, .str "/claim/cut.py" 563].toArray, [].toArray⟩
noncomputable def o266 (P : Params) : Obj := fo (S 14) "_law_rules" (.none) (.none) (.none) (.str "law_qb0003_02" 534) (none) (.ref 265) (.none)
noncomputable def o272 (P : Params) : Obj := ⟨.type "code", none, .fields [.str "_law_read" 565, .str "_law_read" 566, .str "/claim/cut.py" 567, .int 258 0, .int 3 0, .int 0 0, .int 0 0, .int 3 0, .ref 267, .bool true, .int 181 0, .ref 268, .none, .ref 269, .ref 270, .ref 271, .int 573 0, .int 258 0, .str "/claim/cut.py" 574].toArray, [].toArray⟩
noncomputable def o273 (P : Params) : Obj := fo (S 15) "_law_read" (.none) (.none) (.none) (.str "law_qb0003_02" 534) (none) (.ref 272) (.none)
noncomputable def o279 (P : Params) : Obj := ⟨.type "code", none, .fields [.str "_law_ways" 576, .str "_law_ways" 577, .str "/claim/cut.py" 578, .int 267 0, .int 2 0, .int 0 0, .int 0 0, .int 3 0, .ref 274, .bool true, .int 181 0, .ref 275, .none, .ref 276, .ref 277, .ref 278, .int 587 0, .int 267 0, .str "/claim/cut.py" 588].toArray, [].toArray⟩
noncomputable def o280 (P : Params) : Obj := fo (S 16) "_law_ways" (.none) (.none) (.none) (.str "law_qb0003_02" 534) (none) (.ref 279) (.none)
noncomputable def o284 (P : Params) : Obj := ⟨.type "code", none, .fields [.str "_law_found" 590, .str "_law_found" 591, .str "/claim/cut.py" 592, .int 280 0, .int 1 0, .int 0 0, .int 0 0, .int 3 0, .ref 281, .bool true, .int 181 0, .ref 282, .none, .none, .none, .ref 283, .int 593 0, .int 280 0, .str "/claim/cut.py" 594].toArray, [].toArray⟩
noncomputable def o285 (P : Params) : Obj := fo (S 17) "_law_found" (.none) (.none) (.none) (.str "law_qb0003_02" 534) (none) (.ref 284) (.none)
noncomputable def o289 (P : Params) : Obj := ⟨.type "code", none, .fields [.str "law" 596, .str "law" 597, .str "/claim/cut.py" 598, .int 282 0, .int 1 0, .int 0 0, .int 0 0, .int 3 0, .ref 286, .bool true, .int 181 0, .ref 287, .none, .none, .none, .ref 288, .int 599 0, .int 282 0, .str "/claim/cut.py" 600].toArray, [].toArray⟩
noncomputable def o290 (P : Params) : Obj := fo (S 18) "law" (.none) (.none) (.none) (.str "law_qb0003_02" 534) (none) (.ref 289) (.none)
noncomputable def K (P : Params) : Frag := (nat_lit 2, o2 P) :: (nat_lit 3, o3 P) :: (nat_lit 21, o21 P) :: (nat_lit 30, o30 P) :: (nat_lit 31, o31 P) :: (nat_lit 32, o32 P) :: (nat_lit 38, o38 P) :: (nat_lit 39, o39 P) :: (nat_lit 45, o45 P) :: (nat_lit 46, o46 P) :: (nat_lit 54, o54 P) :: (nat_lit 55, o55 P) :: (nat_lit 61, o61 P) :: (nat_lit 62, o62 P) :: (nat_lit 69, o69 P) :: (nat_lit 76, o76 P) :: (nat_lit 83, o83 P) :: (nat_lit 90, o90 P) :: (nat_lit 97, o97 P) :: (nat_lit 99, o99 P) :: (nat_lit 100, o100 P) :: (nat_lit 101, o101 P) :: (nat_lit 102, o102 P) :: (nat_lit 110, o110 P) :: (nat_lit 111, o111 P) :: (nat_lit 120, o120 P) :: (nat_lit 121, o121 P) :: (nat_lit 136, o136 P) :: (nat_lit 137, o137 P) :: (nat_lit 144, o144 P) :: (nat_lit 151, o151 P) :: (nat_lit 158, o158 P) :: (nat_lit 159, o159 P) :: (nat_lit 165, o165 P) :: (nat_lit 166, o166 P) :: (nat_lit 167, o167 P) :: (nat_lit 173, o173 P) :: (nat_lit 174, o174 P) :: (nat_lit 181, o181 P) :: (nat_lit 188, o188 P) :: (nat_lit 195, o195 P) :: (nat_lit 202, o202 P) :: (nat_lit 209, o209 P) :: (nat_lit 216, o216 P) :: (nat_lit 222, o222 P) :: (nat_lit 223, o223 P) :: (nat_lit 229, o229 P) :: (nat_lit 230, o230 P) :: (nat_lit 231, o231 P) :: (nat_lit 237, o237 P) :: (nat_lit 238, o238 P) :: (nat_lit 245, o245 P) :: (nat_lit 247, o247 P) :: (nat_lit 248, o248 P) :: (nat_lit 249, o249 P) :: (nat_lit 250, o250 P) :: (nat_lit 253, o253 P) :: (nat_lit 254, o254 P) :: (nat_lit 260, o260 P) :: (nat_lit 261, o261 P) :: (nat_lit 265, o265 P) :: (nat_lit 266, o266 P) :: (nat_lit 272, o272 P) :: (nat_lit 273, o273 P) :: (nat_lit 279, o279 P) :: (nat_lit 280, o280 P) :: (nat_lit 284, o284 P) :: (nat_lit 285, o285 P) :: (nat_lit 289, o289 P) :: (nat_lit 290, o290 P) :: []
def kAs : List Addr := [2, 3, 21, 30, 31, 32, 38, 39, 45, 46, 54, 55, 61, 62, 69, 76, 83, 90, 97, 99, 100, 101, 102, 110, 111, 120, 121, 136, 137, 144, 151, 158, 159, 165, 166, 167, 173, 174, 181, 188, 195, 202, 209, 216, 222, 223, 229, 230, 231, 237, 238, 245, 247, 248, 249, 250, 253, 254, 260, 261, 265, 266, 272, 273, 279, 280, 284, 285, 289, 290]
def q : Program := view pw_qb0003_02 [18]
def loose : List Str := ["_wall", "YaccError", "_is_identifier", "_IDENTIFIER", "_literal", "Production", "rightmost_terminal", "GrammarError", "Grammar", "_law_TOLD", "_law_GIVEN", "_law_draw", "_law_rules", "_law_read", "_law_ways", "_law_found"]
set_option maxHeartbeats 0 in
theorem kAs_is : ∀ P, kAs = (K P).map (·.1) := fun _ => by kernel_rfl
end Mine

namespace Mine
open PySem.Challenge
/-! the top's states at the cuts (written by GenTop.lean) -/
def bootL : Life := { debug := 0, thresholds := [2000, 10, 10] }
noncomputable def fz (c : Value) (gl bl : Addr) (o : Obj) : Obj := match o.data with
  | .func f => ⟨c, none, .func { f with globals := gl, builtins := bl }, #[]⟩
  | _ => o
noncomputable def p0 (P : Params) : Obj := ⟨.type "dict", none, .dict [en P "__name__" 1 (.str "builtins" 160), en P "__doc__" 2 (.builtin "builtins.__doc__:str#opaque"), en P "__package__" 3 (.builtin "builtins.__package__:str#opaque"), en P "__loader__" 4 (.builtin "builtins.__loader__:shared#opaque"), en P "__spec__" 5 (.builtin "builtins.__spec__#opaque"), en P "__build_class__" 6 (.builtin "__build_class__"), en P "__import__" 7 (.builtin "__import__"), en P "abs" 8 (.builtin "abs"), en P "all" 9 (.builtin "all"), en P "any" 10 (.builtin "any"), en P "ascii" 11 (.builtin "ascii"), en P "bin" 12 (.builtin "bin"), en P "breakpoint" 13 (.builtin "breakpoint"), en P "callable" 14 (.builtin "callable"), en P "chr" 15 (.builtin "chr"), en P "compile" 16 (.builtin "compile"), en P "delattr" 17 (.builtin "delattr"), en P "dir" 18 (.builtin "dir"), en P "divmod" 19 (.builtin "divmod"), en P "eval" 20 (.builtin "eval"), en P "exec" 21 (.builtin "exec"), en P "format" 22 (.builtin "format"), en P "getattr" 23 (.builtin "getattr"), en P "globals" 24 (.builtin "globals"), en P "hasattr" 25 (.builtin "hasattr"), en P "hash" 26 (.builtin "hash"), en P "hex" 27 (.builtin "hex"), en P "id" 28 (.builtin "id"), en P "input" 29 (.builtin "input"), en P "isinstance" 30 (.builtin "isinstance"), en P "issubclass" 31 (.builtin "issubclass"), en P "iter" 32 (.builtin "iter"), en P "aiter" 33 (.builtin "aiter"), en P "len" 34 (.builtin "len"), en P "locals" 35 (.builtin "locals"), en P "max" 36 (.builtin "max"), en P "min" 37 (.builtin "min"), en P "next" 38 (.builtin "next"), en P "anext" 39 (.builtin "anext"), en P "oct" 40 (.builtin "oct"), en P "ord" 41 (.builtin "ord"), en P "pow" 42 (.builtin "pow"), en P "print" 43 (.builtin "print"), en P "repr" 44 (.builtin "repr"), en P "round" 45 (.builtin "round"), en P "setattr" 46 (.builtin "setattr"), en P "sorted" 47 (.builtin "sorted"), en P "sum" 48 (.builtin "sum"), en P "vars" 49 (.builtin "vars"), en P "None" 50 (.none), en P "Ellipsis" 51 (.ellipsis), en P "NotImplemented" 52 (.notImplemented), en P "False" 53 (.bool false), en P "True" 54 (.bool true), en P "bool" 55 (.type "bool"), en P "memoryview" 56 (.type "memoryview"), en P "bytearray" 57 (.type "bytearray"), en P "bytes" 58 (.type "bytes"), en P "classmethod" 59 (.type "classmethod"), en P "complex" 60 (.type "complex"), en P "dict" 61 (.type "dict"), en P "enumerate" 62 (.type "enumerate"), en P "filter" 63 (.type "filter"), en P "float" 64 (.type "float"), en P "frozenset" 65 (.type "frozenset"), en P "property" 66 (.type "property"), en P "int" 67 (.type "int"), en P "list" 68 (.type "list"), en P "map" 69 (.type "map"), en P "object" 70 (.type "object"), en P "range" 71 (.type "range"), en P "reversed" 72 (.type "reversed"), en P "set" 73 (.type "set"), en P "slice" 74 (.type "slice"), en P "staticmethod" 75 (.type "staticmethod"), en P "str" 76 (.type "str"), en P "super" 77 (.type "super"), en P "tuple" 78 (.type "tuple"), en P "type" 79 (.type "type"), en P "zip" 80 (.type "zip"), en P "__debug__" 81 (.bool true), en P "BaseException" 82 (.type "BaseException"), en P "BaseExceptionGroup" 83 (.type "BaseExceptionGroup"), en P "Exception" 84 (.type "Exception"), en P "GeneratorExit" 85 (.type "GeneratorExit"), en P "KeyboardInterrupt" 86 (.type "KeyboardInterrupt"), en P "SystemExit" 87 (.type "SystemExit"), en P "ArithmeticError" 88 (.type "ArithmeticError"), en P "AssertionError" 89 (.type "AssertionError"), en P "AttributeError" 90 (.type "AttributeError"), en P "BufferError" 91 (.type "BufferError"), en P "EOFError" 92 (.type "EOFError"), en P "ImportError" 93 (.type "ImportError"), en P "LookupError" 94 (.type "LookupError"), en P "MemoryError" 95 (.type "MemoryError"), en P "NameError" 96 (.type "NameError"), en P "OSError" 97 (.type "OSError"), en P "ReferenceError" 98 (.type "ReferenceError"), en P "RuntimeError" 99 (.type "RuntimeError"), en P "StopAsyncIteration" 100 (.type "StopAsyncIteration"), en P "StopIteration" 101 (.type "StopIteration"), en P "SyntaxError" 102 (.type "SyntaxError"), en P "SystemError" 103 (.type "SystemError"), en P "TypeError" 104 (.type "TypeError"), en P "ValueError" 105 (.type "ValueError"), en P "Warning" 106 (.type "Warning"), en P "FloatingPointError" 107 (.type "FloatingPointError"), en P "OverflowError" 108 (.type "OverflowError"), en P "ZeroDivisionError" 109 (.type "ZeroDivisionError"), en P "BytesWarning" 110 (.type "BytesWarning"), en P "DeprecationWarning" 111 (.type "DeprecationWarning"), en P "EncodingWarning" 112 (.type "EncodingWarning"), en P "FutureWarning" 113 (.type "FutureWarning"), en P "ImportWarning" 114 (.type "ImportWarning"), en P "PendingDeprecationWarning" 115 (.type "PendingDeprecationWarning"), en P "ResourceWarning" 116 (.type "ResourceWarning"), en P "RuntimeWarning" 117 (.type "RuntimeWarning"), en P "SyntaxWarning" 118 (.type "SyntaxWarning"), en P "UnicodeWarning" 119 (.type "UnicodeWarning"), en P "UserWarning" 120 (.type "UserWarning"), en P "BlockingIOError" 121 (.type "BlockingIOError"), en P "ChildProcessError" 122 (.type "ChildProcessError"), en P "ConnectionError" 123 (.type "ConnectionError"), en P "FileExistsError" 124 (.type "FileExistsError"), en P "FileNotFoundError" 125 (.type "FileNotFoundError"), en P "InterruptedError" 126 (.type "InterruptedError"), en P "IsADirectoryError" 127 (.type "IsADirectoryError"), en P "NotADirectoryError" 128 (.type "NotADirectoryError"), en P "PermissionError" 129 (.type "PermissionError"), en P "ProcessLookupError" 130 (.type "ProcessLookupError"), en P "TimeoutError" 131 (.type "TimeoutError"), en P "IndentationError" 132 (.type "IndentationError"), en P "_IncompleteInputError" 133 (.type "_IncompleteInputError"), en P "IndexError" 134 (.type "IndexError"), en P "KeyError" 135 (.type "KeyError"), en P "ModuleNotFoundError" 136 (.type "ModuleNotFoundError"), en P "NotImplementedError" 137 (.type "NotImplementedError"), en P "PythonFinalizationError" 138 (.type "PythonFinalizationError"), en P "RecursionError" 139 (.type "RecursionError"), en P "UnboundLocalError" 140 (.type "UnboundLocalError"), en P "UnicodeError" 141 (.type "UnicodeError"), en P "BrokenPipeError" 142 (.type "BrokenPipeError"), en P "ConnectionAbortedError" 143 (.type "ConnectionAbortedError"), en P "ConnectionRefusedError" 144 (.type "ConnectionRefusedError"), en P "ConnectionResetError" 145 (.type "ConnectionResetError"), en P "TabError" 146 (.type "TabError"), en P "UnicodeDecodeError" 147 (.type "UnicodeDecodeError"), en P "UnicodeEncodeError" 148 (.type "UnicodeEncodeError"), en P "UnicodeTranslateError" 149 (.type "UnicodeTranslateError"), en P "ExceptionGroup" 150 (.type "ExceptionGroup"), en P "EnvironmentError" 151 (.type "OSError"), en P "IOError" 152 (.type "OSError"), en P "open" 153 (.builtin "open"), en P "quit" 154 (.builtin "builtins.quit#opaque"), en P "exit" 155 (.builtin "builtins.exit#opaque"), en P "copyright" 156 (.builtin "builtins.copyright#opaque"), en P "credits" 157 (.builtin "builtins.credits#opaque"), en P "license" 158 (.builtin "builtins.license#opaque"), en P "help" 159 (.builtin "builtins.help#opaque")].toArray 159, [].toArray⟩
noncomputable def p1 (P : Params) : Obj := ⟨.type "dict", none, .dict [en P "builtins" 162 (.ref 4), en P "__main__" 163 (.ref 5)].toArray 2, [].toArray⟩
noncomputable def p2 (P : Params) : Obj := ⟨.none, none, .dict [].toArray 0, [].toArray⟩
noncomputable def p3 (P : Params) : Obj := ⟨.type "dict", none, .dict [en P "__name__" 165 (.str "__main__" 164), en P "__doc__" 166 (.none), en P "__package__" 167 (.none), en P "__loader__" 168 (.builtin "__main__.__loader__#opaque"), en P "__spec__" 169 (.none), en P "__annotations__" 170 (.ref 6), en P "__builtins__" 171 (.ref 4), en P "__file__" 173 (.str "/claim/cut.py" 172), en P "__cached__" 174 (.none)].toArray 9, [].toArray⟩
noncomputable def p4 (P : Params) : Obj := ⟨.type "module", some 0, .plain, [].toArray⟩
noncomputable def p5 (P : Params) : Obj := ⟨.type "module", some 3, .plain, [].toArray⟩
noncomputable def p6 (P : Params) : Obj := ⟨.type "dict", none, .dict [].toArray 0, [].toArray⟩
noncomputable def p7 (P : Params) : Obj := ⟨.type "tuple", none, .seq [].toArray 0, [].toArray⟩
noncomputable def p8 (P : Params) : Obj := ⟨.none, none, .fields [].toArray, [].toArray⟩
noncomputable def p9 (P : Params) : Obj := ⟨.type "code", none, .fields [.str "<module>" 176, .str "<module>" 177, .str "/claim/cut.py" 178, .int 1 0, .int 0 0, .int 0 0, .int 0 0, .int 0 0, .ref 7, .bool false, .int 175 0, .ref 8, .none, .none, .none, .none, .int 179 0, .int 1 0, .str "/claim/cut.py" 180].toArray, [].toArray⟩
noncomputable def p10 (P : Params) : Obj := ⟨.type "frame", none, .plain, [some (.ref 9), some (.ref 3), some (.ref 3), none, some (.str "__main__" 164), none, some (.ref 0)].toArray⟩
noncomputable def p11 (P : Params) : Obj := ⟨.type "tuple", none, .seq [].toArray 0, [].toArray⟩
noncomputable def p12 (P : Params) : Obj := ⟨.none, none, .fields [].toArray, [].toArray⟩
noncomputable def p13 (P : Params) : Obj := ⟨.type "code", none, .fields [.str "<module>" 182, .str "<module>" 183, .str "/claim/cut.py" 184, .int 1 0, .int 0 0, .int 0 0, .int 0 0, .int 0 0, .ref 11, .bool false, .int 181 0, .ref 12, .none, .none, .none, .none, .int 185 0, .int 1 0, .str "/claim/cut.py" 186].toArray, [].toArray⟩
noncomputable def p14 (P : Params) : Obj := ⟨.type "frame", none, .plain, [some (.ref 13), some (.ref 3), some (.ref 3), none, some (.str "__main__" 164), none, some (.ref 0)].toArray⟩
noncomputable def tree0 (P : Params) : BT := .node (p0 P) (.node (p1 P) (.node (p3 P) (.node (p7 P) (.nil) (.nil)) (.node (p11 P) (.nil) (.nil))) (.node (p5 P) (.node (p9 P) (.nil) (.nil)) (.node (p13 P) (.nil) (.nil)))) (.node (p2 P) (.node (p4 P) (.node (p8 P) (.nil) (.nil)) (.node (p12 P) (.nil) (.nil))) (.node (p6 P) (.node (p10 P) (.nil) (.nil)) (.node (p14 P) (.nil) (.nil))))
noncomputable def st0 (w : World) (os : OsState) : SharedT := ⟨tree0 w.params, 15, bootL, Array.mk [], boot_drawn, 187, os⟩
noncomputable def p3v1 (P : Params) : Obj := ⟨.type "dict", none, .dict [en P "__name__" 165 (.str "ply.yacc" 194), en P "__doc__" 166 (.none), en P "__package__" 167 (.none), en P "__loader__" 168 (.builtin "__main__.__loader__#opaque"), en P "__spec__" 169 (.none), en P "__annotations__" 170 (.ref 6), en P "__builtins__" 171 (.ref 4), en P "__file__" 173 (.str "/claim/cut.py" 172), en P "__cached__" 174 (.none), en P "_wall" 193 (.ref 21), en P "YaccError" 215 (.ref 31), en P "_is_identifier" 221 (.ref 39), en P "_IDENTIFIER" 223 (.str "abcdefghijklmnopqrstuvwxyzABCDEFGHIJKLMNOPQRSTUVWXYZ0123456789_-" 222), en P "_literal" 230 (.ref 46)].toArray 14, [].toArray⟩
noncomputable def p12v1 (P : Params) : Obj := ⟨.none, none, .fields [.int 1 0, .int 0 0, .ref 20, .int 5 0, .int 0 0, .ref 27, .int 7 0, .int 0 0, .ref 38, .int 10 0, .int 0 0, .ref 45].toArray, [].toArray⟩
noncomputable def p15 (P : Params) : Obj := ⟨.type "tuple", none, .seq [].toArray 0, [].toArray⟩
noncomputable def p16 (P : Params) : Obj := ⟨.none, none, .fields [].toArray, [].toArray⟩
noncomputable def p17 (P : Params) : Obj := ⟨.type "tuple", none, .seq [.str "k" 190].toArray 0, [].toArray⟩
noncomputable def p18 (P : Params) : Obj := ⟨.type "tuple", none, .seq [].toArray 0, [].toArray⟩
noncomputable def p19 (P : Params) : Obj := fz (.none) 0 0 <| fo (S 0) "_wall" (.none) (.none) (.none) (.none) (none) (.none) (.none)
noncomputable def p20 (P : Params) : Obj := ⟨.type "code", none, .fields [.str "_wall" 187, .str "_wall" 188, .str "/claim/cut.py" 189, .int 1 0, .int 1 0, .int 0 0, .int 0 0, .int 3 0, .ref 15, .bool true, .int 181 0, .ref 16, .none, .ref 17, .ref 18, .ref 19, .int 191 0, .int 1 0, .str "/claim/cut.py" 192].toArray, [].toArray⟩
noncomputable def p22 (P : Params) : Obj := ⟨.type "tuple", none, .seq [.type "Exception"].toArray 0, [].toArray⟩
noncomputable def p23 (P : Params) : Obj := ⟨.type "builtin_function_or_method", none, .fields [.builtin "type.__prepare__", .type "type"].toArray, [].toArray⟩
noncomputable def p24 (P : Params) : Obj := ⟨.type "dict", none, .dict [en P "__module__" 203 (.str "ply.yacc" 194), en P "__qualname__" 205 (.str "YaccError" 204), en P "__firstlineno__" 207 (.int 5 206), en P "__static_attributes__" 208 (.ref 29)].toArray 4, [].toArray⟩
noncomputable def p25 (P : Params) : Obj := ⟨.type "tuple", none, .seq [].toArray 0, [].toArray⟩
noncomputable def p26 (P : Params) : Obj := ⟨.none, none, .fields [].toArray, [].toArray⟩
noncomputable def p27 (P : Params) : Obj := ⟨.type "code", none, .fields [.str "YaccError" 198, .str "YaccError" 199, .str "/claim/cut.py" 200, .int 5 0, .int 0 0, .int 0 0, .int 0 0, .int 0 0, .ref 25, .bool false, .int 181 0, .ref 26, .none, .none, .none, .none, .int 201 0, .int 5 0, .str "/claim/cut.py" 202].toArray, [].toArray⟩
noncomputable def p28 (P : Params) : Obj := ⟨.type "frame", none, .plain, [some (.ref 27), some (.ref 3), some (.ref 24), none, some (.str "ply.yacc" 194), none, some (.ref 0)].toArray⟩
noncomputable def p29 (P : Params) : Obj := ⟨.type "tuple", none, .seq [].toArray 0, [].toArray⟩
noncomputable def p31 (P : Params) : Obj := ⟨.type "type", none, .cls (cd "YaccError" [.type "Exception"] [.ref 31, .type "Exception", .type "BaseException", .type "object"] 30 "YaccError" true [] [] false (none) false), [some (.ref 22), none, some (.str "YaccError" 196), some (.str "YaccError" 204), some (.builtin "Exception.__new__"), some (.bool true)].toArray⟩
noncomputable def p33 (P : Params) : Obj := ⟨.type "super", none, .fields [.ref 31, .ref 31, .ref 31].toArray, [].toArray⟩
noncomputable def p34 (P : Params) : Obj := ⟨.type "builtin_function_or_method", none, .fields [.builtin "object.__init_subclass__", .ref 31].toArray, [].toArray⟩
noncomputable def p35 (P : Params) : Obj := ⟨.type "tuple", none, .seq [].toArray 0, [].toArray⟩
noncomputable def p36 (P : Params) : Obj := ⟨.none, none, .fields [].toArray, [].toArray⟩
noncomputable def p37 (P : Params) : Obj := fz (.none) 0 0 <| fo (S 3) "_is_identifier" (.none) (.none) (.none) (.none) (none) (.none) (.none)
noncomputable def p40 (P : Params) : Obj := ⟨.type "tuple", none, .seq [].toArray 0, [].toArray⟩
noncomputable def p41 (P : Params) : Obj := ⟨.none, none, .fields [].toArray, [].toArray⟩
noncomputable def p42 (P : Params) : Obj := ⟨.type "tuple", none, .seq [.str "s" 227].toArray 0, [].toArray⟩
noncomputable def p43 (P : Params) : Obj := ⟨.type "tuple", none, .seq [].toArray 0, [].toArray⟩
noncomputable def p44 (P : Params) : Obj := fz (.none) 0 0 <| fo (S 5) "_literal" (.none) (.none) (.none) (.none) (none) (.none) (.none)
noncomputable def tree1 (P : Params) : BT := .node (p0 P) (.node (p1 P) (.node (p3v1 P) (.node (p7 P) (.node (p15 P) (.node (p31 P) (.nil) (.nil)) (.nil)) (.node (p23 P) (.node (o39 P) (.nil) (.nil)) (.nil))) (.node (p11 P) (.node (p19 P) (.node (p35 P) (.nil) (.nil)) (.nil)) (.node (p27 P) (.node (p43 P) (.nil) (.nil)) (.nil)))) (.node (p5 P) (.node (p9 P) (.node (p17 P) (.node (p33 P) (.nil) (.nil)) (.nil)) (.node (p25 P) (.node (p41 P) (.nil) (.nil)) (.nil))) (.node (p13 P) (.node (o21 P) (.node (p37 P) (.nil) (.nil)) (.nil)) (.node (p29 P) (.node (o45 P) (.nil) (.nil)) (.nil))))) (.node (o2 P) (.node (p4 P) (.node (p8 P) (.node (p16 P) (.node (o32 P) (.nil) (.nil)) (.nil)) (.node (p24 P) (.node (p40 P) (.nil) (.nil)) (.nil))) (.node (p12v1 P) (.node (p20 P) (.node (p36 P) (.nil) (.nil)) (.nil)) (.node (p28 P) (.node (p44 P) (.nil) (.nil)) (.nil)))) (.node (p6 P) (.node (p10 P) (.node (p18 P) (.node (p34 P) (.nil) (.nil)) (.nil)) (.node (p26 P) (.node (p42 P) (.nil) (.nil)) (.nil))) (.node (p14 P) (.node (p22 P) (.node (o38 P) (.nil) (.nil)) (.nil)) (.node (o30 P) (.node (o46 P) (.nil) (.nil)) (.nil)))))
noncomputable def st1 (w : World) (os : OsState) : SharedT := ⟨tree1 w.params, 47, bootL, Array.mk [], boot_drawn, 231, os⟩
noncomputable def p3v2 (P : Params) : Obj := ⟨.type "dict", none, .dict [en P "__name__" 165 (.str "ply.yacc" 194), en P "__doc__" 166 (.none), en P "__package__" 167 (.none), en P "__loader__" 168 (.builtin "__main__.__loader__#opaque"), en P "__spec__" 169 (.none), en P "__annotations__" 170 (.ref 6), en P "__builtins__" 171 (.ref 4), en P "__file__" 173 (.str "/claim/cut.py" 172), en P "__cached__" 174 (.none), en P "_wall" 193 (.ref 21), en P "YaccError" 215 (.ref 31), en P "_is_identifier" 221 (.ref 39), en P "_IDENTIFIER" 223 (.str "abcdefghijklmnopqrstuvwxyzABCDEFGHIJKLMNOPQRSTUVWXYZ0123456789_-" 222), en P "_literal" 230 (.ref 46), en P "Production" 323 (.ref 100)].toArray 15, [].toArray⟩
noncomputable def p12v2 (P : Params) : Obj := ⟨.none, none, .fields [.int 1 0, .int 0 0, .ref 20, .int 5 0, .int 0 0, .ref 27, .int 7 0, .int 0 0, .ref 38, .int 10 0, .int 0 0, .ref 45, .int 14 0, .int 0 0, .ref 52].toArray, [].toArray⟩
noncomputable def p47 (P : Params) : Obj := ⟨.type "tuple", none, .seq [.type "object"].toArray 0, [].toArray⟩
noncomputable def p48 (P : Params) : Obj := ⟨.type "builtin_function_or_method", none, .fields [.builtin "type.__prepare__", .type "type"].toArray, [].toArray⟩
noncomputable def p49 (P : Params) : Obj := ⟨.type "dict", none, .dict [en P "__module__" 238 (.str "ply.yacc" 194), en P "__qualname__" 240 (.str "Production" 239), en P "__firstlineno__" 242 (.int 14 241), en P "reduced" 244 (.int 0 243), en P "lr0_added" 246 (.int 0 245), en P "__init__" 265 (.ref 62), en P "__str__" 272 (.ref 69), en P "__repr__" 279 (.ref 76), en P "__len__" 286 (.ref 83), en P "__getitem__" 294 (.ref 90), en P "bind" 302 (.ref 97), en P "__static_attributes__" 316 (.ref 98)].toArray 12, [].toArray⟩
noncomputable def p50 (P : Params) : Obj := ⟨.type "tuple", none, .seq [].toArray 0, [].toArray⟩
noncomputable def p51 (P : Params) : Obj := ⟨.none, none, .fields [.int 18 0, .int 4 0, .ref 61, .int 39 0, .int 4 0, .ref 68, .int 42 0, .int 4 0, .ref 75, .int 45 0, .int 4 0, .ref 82, .int 48 0, .int 4 0, .ref 89, .int 51 0, .int 4 0, .ref 96].toArray, [].toArray⟩
noncomputable def p52 (P : Params) : Obj := ⟨.type "code", none, .fields [.str "Production" 233, .str "Production" 234, .str "/claim/cut.py" 235, .int 14 0, .int 0 0, .int 0 0, .int 0 0, .int 0 0, .ref 50, .bool false, .int 181 0, .ref 51, .none, .none, .none, .none, .int 236 0, .int 14 0, .str "/claim/cut.py" 237].toArray, [].toArray⟩
noncomputable def p53 (P : Params) : Obj := ⟨.type "frame", none, .plain, [some (.ref 52), some (.ref 3), some (.ref 49), none, some (.str "ply.yacc" 194), none, some (.ref 0)].toArray⟩
noncomputable def p56 (P : Params) : Obj := ⟨.type "tuple", none, .seq [].toArray 0, [].toArray⟩
noncomputable def p57 (P : Params) : Obj := ⟨.none, none, .fields [].toArray, [].toArray⟩
noncomputable def p58 (P : Params) : Obj := ⟨.type "tuple", none, .seq [.str "self" 254, .str "number" 255, .str "name" 256, .str "prod" 257, .str "precedence" 258, .str "func" 259, .str "file" 260, .str "line" 261, .str "s" 262].toArray 0, [].toArray⟩
noncomputable def p59 (P : Params) : Obj := ⟨.type "tuple", none, .seq [].toArray 0, [].toArray⟩
noncomputable def p60 (P : Params) : Obj := fz (.none) 0 0 <| fo (SM 6 2) "Production.__init__" (.none) (.none) (.none) (.none) (none) (.none) (.none)
noncomputable def p63 (P : Params) : Obj := ⟨.type "tuple", none, .seq [].toArray 0, [].toArray⟩
noncomputable def p64 (P : Params) : Obj := ⟨.none, none, .fields [].toArray, [].toArray⟩
noncomputable def p65 (P : Params) : Obj := ⟨.type "tuple", none, .seq [.str "self" 269].toArray 0, [].toArray⟩
noncomputable def p66 (P : Params) : Obj := ⟨.type "tuple", none, .seq [].toArray 0, [].toArray⟩
noncomputable def p67 (P : Params) : Obj := fz (.none) 0 0 <| fo (SM 6 3) "Production.__str__" (.none) (.none) (.none) (.none) (none) (.none) (.none)
noncomputable def p68 (P : Params) : Obj := ⟨.type "code", none, .fields [.str "__str__" 266, .str "Production.__str__" 267, .str "/claim/cut.py" 268, .int 39 0, .int 1 0, .int 0 0, .int 0 0, .int 3 0, .ref 63, .bool true, .int 181 0, .ref 64, .none, .ref 65, .ref 66, .ref 67, .int 270 0, .int 39 0, .str "/claim/cut.py" 271].toArray, [].toArray⟩
noncomputable def p70 (P : Params) : Obj := ⟨.type "tuple", none, .seq [].toArray 0, [].toArray⟩
noncomputable def p71 (P : Params) : Obj := ⟨.none, none, .fields [].toArray, [].toArray⟩
noncomputable def p72 (P : Params) : Obj := ⟨.type "tuple", none, .seq [.str "self" 276].toArray 0, [].toArray⟩
noncomputable def p73 (P : Params) : Obj := ⟨.type "tuple", none, .seq [].toArray 0, [].toArray⟩
noncomputable def p74 (P : Params) : Obj := fz (.none) 0 0 <| fo (SM 6 4) "Production.__repr__" (.none) (.none) (.none) (.none) (none) (.none) (.none)
noncomputable def p75 (P : Params) : Obj := ⟨.type "code", none, .fields [.str "__repr__" 273, .str "Production.__repr__" 274, .str "/claim/cut.py" 275, .int 42 0, .int 1 0, .int 0 0, .int 0 0, .int 3 0, .ref 70, .bool true, .int 181 0, .ref 71, .none, .ref 72, .ref 73, .ref 74, .int 277 0, .int 42 0, .str "/claim/cut.py" 278].toArray, [].toArray⟩
noncomputable def p77 (P : Params) : Obj := ⟨.type "tuple", none, .seq [].toArray 0, [].toArray⟩
noncomputable def p78 (P : Params) : Obj := ⟨.none, none, .fields [].toArray, [].toArray⟩
noncomputable def p79 (P : Params) : Obj := ⟨.type "tuple", none, .seq [.str "self" 283].toArray 0, [].toArray⟩
noncomputable def p80 (P : Params) : Obj := ⟨.type "tuple", none, .seq [].toArray 0, [].toArray⟩
noncomputable def p81 (P : Params) : Obj := fz (.none) 0 0 <| fo (SM 6 5) "Production.__len__" (.none) (.none) (.none) (.none) (none) (.none) (.none)
noncomputable def p82 (P : Params) : Obj := ⟨.type "code", none, .fields [.str "__len__" 280, .str "Production.__len__" 281, .str "/claim/cut.py" 282, .int 45 0, .int 1 0, .int 0 0, .int 0 0, .int 3 0, .ref 77, .bool true, .int 181 0, .ref 78, .none, .ref 79, .ref 80, .ref 81, .int 284 0, .int 45 0, .str "/claim/cut.py" 285].toArray, [].toArray⟩
noncomputable def p84 (P : Params) : Obj := ⟨.type "tuple", none, .seq [].toArray 0, [].toArray⟩
noncomputable def p85 (P : Params) : Obj := ⟨.none, none, .fields [].toArray, [].toArray⟩
noncomputable def p86 (P : Params) : Obj := ⟨.type "tuple", none, .seq [.str "self" 290, .str "index" 291].toArray 0, [].toArray⟩
noncomputable def p87 (P : Params) : Obj := ⟨.type "tuple", none, .seq [].toArray 0, [].toArray⟩
noncomputable def p88 (P : Params) : Obj := fz (.none) 0 0 <| fo (SM 6 6) "Production.__getitem__" (.none) (.none) (.none) (.none) (none) (.none) (.none)
noncomputable def p89 (P : Params) : Obj := ⟨.type "code", none, .fields [.str "__getitem__" 287, .str "Production.__getitem__" 288, .str "/claim/cut.py" 289, .int 48 0, .int 2 0, .int 0 0, .int 0 0, .int 3 0, .ref 84, .bool true, .int 181 0, .ref 85, .none, .ref 86, .ref 87, .ref 88, .int 292 0, .int 48 0, .str "/claim/cut.py" 293].toArray, [].toArray⟩
noncomputable def p91 (P : Params) : Obj := ⟨.type "tuple", none, .seq [].toArray 0, [].toArray⟩
noncomputable def p92 (P : Params) : Obj := ⟨.none, none, .fields [].toArray, [].toArray⟩
noncomputable def p93 (P : Params) : Obj := ⟨.type "tuple", none, .seq [.str "self" 298, .str "pdict" 299].toArray 0, [].toArray⟩
noncomputable def p94 (P : Params) : Obj := ⟨.type "tuple", none, .seq [].toArray 0, [].toArray⟩
noncomputable def p95 (P : Params) : Obj := fz (.none) 0 0 <| fo (SM 6 7) "Production.bind" (.none) (.none) (.none) (.none) (none) (.none) (.none)
noncomputable def p96 (P : Params) : Obj := ⟨.type "code", none, .fields [.str "bind" 295, .str "Production.bind" 296, .str "/claim/cut.py" 297, .int 51 0, .int 2 0, .int 0 0, .int 0 0, .int 3 0, .ref 91, .bool true, .int 181 0, .ref 92, .none, .ref 93, .ref 94, .ref 95, .int 300 0, .int 51 0, .str "/claim/cut.py" 301].toArray, [].toArray⟩
noncomputable def p98 (P : Params) : Obj := ⟨.type "tuple", none, .seq [.str "callable" 303, .str "file" 304, .str "func" 305, .str "len" 306, .str "line" 307, .str "lr_items" 308, .str "lr_next" 309, .str "name" 310, .str "number" 311, .str "prec" 312, .str "prod" 313, .str "str" 314, .str "usyms" 315].toArray 0, [].toArray⟩
noncomputable def p103 (P : Params) : Obj := ⟨.type "super", none, .fields [.ref 100, .ref 100, .ref 100].toArray, [].toArray⟩
noncomputable def p104 (P : Params) : Obj := ⟨.type "builtin_function_or_method", none, .fields [.builtin "object.__init_subclass__", .ref 100].toArray, [].toArray⟩
noncomputable def tree2 (P : Params) : BT := .node (p0 P) (.node (p1 P) (.node (p3v2 P) (.node (p7 P) (.node (p15 P) (.node (p31 P) (.node (p63 P) (.nil) (.nil)) (.node (p95 P) (.nil) (.nil))) (.node (p47 P) (.node (p79 P) (.nil) (.nil)) (.nil))) (.node (p23 P) (.node (o39 P) (.node (p71 P) (.nil) (.nil)) (.node (p103 P) (.nil) (.nil))) (.node (o55 P) (.node (p87 P) (.nil) (.nil)) (.nil)))) (.node (p11 P) (.node (p19 P) (.node (p35 P) (.node (p67 P) (.nil) (.nil)) (.node (o99 P) (.nil) (.nil))) (.node (p51 P) (.node (o83 P) (.nil) (.nil)) (.nil))) (.node (p27 P) (.node (p43 P) (.node (p75 P) (.nil) (.nil)) (.nil)) (.node (p59 P) (.node (p91 P) (.nil) (.nil)) (.nil))))) (.node (p5 P) (.node (p9 P) (.node (p17 P) (.node (p33 P) (.node (p65 P) (.nil) (.nil)) (.node (o97 P) (.nil) (.nil))) (.node (p49 P) (.node (p81 P) (.nil) (.nil)) (.nil))) (.node (p25 P) (.node (p41 P) (.node (p73 P) (.nil) (.nil)) (.nil)) (.node (p57 P) (.node (p89 P) (.nil) (.nil)) (.nil)))) (.node (p13 P) (.node (o21 P) (.node (p37 P) (.node (o69 P) (.nil) (.nil)) (.node (o101 P) (.nil) (.nil))) (.node (p53 P) (.node (p85 P) (.nil) (.nil)) (.nil))) (.node (p29 P) (.node (o45 P) (.node (p77 P) (.nil) (.nil)) (.nil)) (.node (o61 P) (.node (p93 P) (.nil) (.nil)) (.nil)))))) (.node (o2 P) (.node (p4 P) (.node (p8 P) (.node (p16 P) (.node (o32 P) (.node (p64 P) (.nil) (.nil)) (.node (p96 P) (.nil) (.nil))) (.node (p48 P) (.node (p80 P) (.nil) (.nil)) (.nil))) (.node (p24 P) (.node (p40 P) (.node (p72 P) (.nil) (.nil)) (.node (p104 P) (.nil) (.nil))) (.node (p56 P) (.node (p88 P) (.nil) (.nil)) (.nil)))) (.node (p12v2 P) (.node (p20 P) (.node (p36 P) (.node (p68 P) (.nil) (.nil)) (.node (o100 P) (.nil) (.nil))) (.node (p52 P) (.node (p84 P) (.nil) (.nil)) (.nil))) (.node (p28 P) (.node (p44 P) (.node (o76 P) (.nil) (.nil)) (.nil)) (.node (p60 P) (.node (p92 P) (.nil) (.nil)) (.nil))))) (.node (p6 P) (.node (p10 P) (.node (p18 P) (.node (p34 P) (.node (p66 P) (.nil) (.nil)) (.node (p98 P) (.nil) (.nil))) (.node (p50 P) (.node (p82 P) (.nil) (.nil)) (.nil))) (.node (p26 P) (.node (p42 P) (.node (p74 P) (.nil) (.nil)) (.nil)) (.node (p58 P) (.node (o90 P) (.nil) (.nil)) (.nil)))) (.node (p14 P) (.node (p22 P) (.node (o38 P) (.node (p70 P) (.nil) (.nil)) (.node (o102 P) (.nil) (.nil))) (.node (o54 P) (.node (p86 P) (.nil) (.nil)) (.nil))) (.node (o30 P) (.node (o46 P) (.node (p78 P) (.nil) (.nil)) (.nil)) (.node (o62 P) (.node (p94 P) (.nil) (.nil)) (.nil))))))
noncomputable def st2 (w : World) (os : OsState) : SharedT := ⟨tree2 w.params, 105, bootL, Array.mk [], boot_drawn, 324, os⟩
noncomputable def p3v3 (P : Params) : Obj := ⟨.type "dict", none, .dict [en P "__name__" 165 (.str "ply.yacc" 194), en P "__doc__" 166 (.none), en P "__package__" 167 (.none), en P "__loader__" 168 (.builtin "__main__.__loader__#opaque"), en P "__spec__" 169 (.none), en P "__annotations__" 170 (.ref 6), en P "__builtins__" 171 (.ref 4), en P "__file__" 173 (.str "/claim/cut.py" 172), en P "__cached__" 174 (.none), en P "_wall" 193 (.ref 21), en P "YaccError" 215 (.ref 31), en P "_is_identifier" 221 (.ref 39), en P "_IDENTIFIER" 223 (.str "abcdefghijklmnopqrstuvwxyzABCDEFGHIJKLMNOPQRSTUVWXYZ0123456789_-" 222), en P "_literal" 230 (.ref 46), en P "Production" 323 (.ref 100), en P "rightmost_terminal" 332 (.ref 111), en P "GrammarError" 348 (.ref 121)].toArray 17, [].toArray⟩
noncomputable def p12v3 (P : Params) : Obj := ⟨.none, none, .fields [.int 1 0, .int 0 0, .ref 20, .int 5 0, .int 0 0, .ref 27, .int 7 0, .int 0 0, .ref 38, .int 10 0, .int 0 0, .ref 45, .int 14 0, .int 0 0, .ref 52, .int 53 0, .int 0 0, .ref 110, .int 60 0, .int 0 0, .ref 117].toArray, [].toArray⟩
noncomputable def p105 (P : Params) : Obj := ⟨.type "tuple", none, .seq [].toArray 0, [].toArray⟩
noncomputable def p106 (P : Params) : Obj := ⟨.none, none, .fields [].toArray, [].toArray⟩
noncomputable def p107 (P : Params) : Obj := ⟨.type "tuple", none, .seq [.str "symbols" 327, .str "terminals" 328, .str "i" 329].toArray 0, [].toArray⟩
noncomputable def p108 (P : Params) : Obj := ⟨.type "tuple", none, .seq [].toArray 0, [].toArray⟩
noncomputable def p109 (P : Params) : Obj := fz (.none) 0 0 <| fo (S 7) "rightmost_terminal" (.none) (.none) (.none) (.none) (none) (.none) (.none)
noncomputable def p112 (P : Params) : Obj := ⟨.type "tuple", none, .seq [.ref 31].toArray 0, [].toArray⟩
noncomputable def p113 (P : Params) : Obj := ⟨.type "builtin_function_or_method", none, .fields [.builtin "type.__prepare__", .type "type"].toArray, [].toArray⟩
noncomputable def p114 (P : Params) : Obj := ⟨.type "dict", none, .dict [en P "__module__" 340 (.str "ply.yacc" 194), en P "__qualname__" 342 (.str "GrammarError" 341), en P "__firstlineno__" 344 (.int 60 343), en P "__static_attributes__" 345 (.ref 119)].toArray 4, [].toArray⟩
noncomputable def p115 (P : Params) : Obj := ⟨.type "tuple", none, .seq [].toArray 0, [].toArray⟩
noncomputable def p116 (P : Params) : Obj := ⟨.none, none, .fields [].toArray, [].toArray⟩
noncomputable def p117 (P : Params) : Obj := ⟨.type "code", none, .fields [.str "GrammarError" 335, .str "GrammarError" 336, .str "/claim/cut.py" 337, .int 60 0, .int 0 0, .int 0 0, .int 0 0, .int 0 0, .ref 115, .bool false, .int 181 0, .ref 116, .none, .none, .none, .none, .int 338 0, .int 60 0, .str "/claim/cut.py" 339].toArray, [].toArray⟩
noncomputable def p118 (P : Params) : Obj := ⟨.type "frame", none, .plain, [some (.ref 117), some (.ref 3), some (.ref 114), none, some (.str "ply.yacc" 194), none, some (.ref 0)].toArray⟩
noncomputable def p119 (P : Params) : Obj := ⟨.type "tuple", none, .seq [].toArray 0, [].toArray⟩
noncomputable def p122 (P : Params) : Obj := ⟨.type "super", none, .fields [.ref 121, .ref 121, .ref 121].toArray, [].toArray⟩
noncomputable def p123 (P : Params) : Obj := ⟨.type "builtin_function_or_method", none, .fields [.builtin "object.__init_subclass__", .ref 121].toArray, [].toArray⟩
noncomputable def tree3 (P : Params) : BT := .node (p0 P) (.node (p1 P) (.node (p3v3 P) (.node (p7 P) (.node (p15 P) (.node (o31 P) (.node (p63 P) (.nil) (.nil)) (.node (p95 P) (.nil) (.nil))) (.node (p47 P) (.node (p79 P) (.nil) (.nil)) (.node (o111 P) (.nil) (.nil)))) (.node (p23 P) (.node (o39 P) (.node (p71 P) (.nil) (.nil)) (.node (p103 P) (.nil) (.nil))) (.node (o55 P) (.node (p87 P) (.nil) (.nil)) (.node (p119 P) (.nil) (.nil))))) (.node (p11 P) (.node (p19 P) (.node (p35 P) (.node (p67 P) (.nil) (.nil)) (.node (o99 P) (.nil) (.nil))) (.node (p51 P) (.node (o83 P) (.nil) (.nil)) (.node (p115 P) (.nil) (.nil)))) (.node (p27 P) (.node (p43 P) (.node (p75 P) (.nil) (.nil)) (.node (p107 P) (.nil) (.nil))) (.node (p59 P) (.node (p91 P) (.nil) (.nil)) (.node (p123 P) (.nil) (.nil)))))) (.node (p5 P) (.node (p9 P) (.node (p17 P) (.node (p33 P) (.node (p65 P) (.nil) (.nil)) (.node (o97 P) (.nil) (.nil))) (.node (p49 P) (.node (p81 P) (.nil) (.nil)) (.node (p113 P) (.nil) (.nil)))) (.node (p25 P) (.node (p41 P) (.node (p73 P) (.nil) (.nil)) (.node (p105 P) (.nil) (.nil))) (.node (p57 P) (.node (p89 P) (.nil) (.nil)) (.node (o121 P) (.nil) (.nil))))) (.node (p13 P) (.node (o21 P) (.node (p37 P) (.node (o69 P) (.nil) (.nil)) (.node (o101 P) (.nil) (.nil))) (.node (p53 P) (.node (p85 P) (.nil) (.nil)) (.node (p117 P) (.nil) (.nil)))) (.node (p29 P) (.node (o45 P) (.node (p77 P) (.nil) (.nil)) (.node (p109 P) (.nil) (.nil))) (.node (o61 P) (.node (p93 P) (.nil) (.nil)) (.nil)))))) (.node (o2 P) (.node (p4 P) (.node (p8 P) (.node (p16 P) (.node (o32 P) (.node (p64 P) (.nil) (.nil)) (.node (p96 P) (.nil) (.nil))) (.node (p48 P) (.node (p80 P) (.nil) (.nil)) (.node (p112 P) (.nil) (.nil)))) (.node (p24 P) (.node (p40 P) (.node (p72 P) (.nil) (.nil)) (.node (p104 P) (.nil) (.nil))) (.node (p56 P) (.node (p88 P) (.nil) (.nil)) (.node (o120 P) (.nil) (.nil))))) (.node (p12v3 P) (.node (p20 P) (.node (p36 P) (.node (p68 P) (.nil) (.nil)) (.node (o100 P) (.nil) (.nil))) (.node (p52 P) (.node (p84 P) (.nil) (.nil)) (.node (p116 P) (.nil) (.nil)))) (.node (p28 P) (.node (p44 P) (.node (o76 P) (.nil) (.nil)) (.node (p108 P) (.nil) (.nil))) (.node (p60 P) (.node (p92 P) (.nil) (.nil)) (.nil))))) (.node (p6 P) (.node (p10 P) (.node (p18 P) (.node (p34 P) (.node (p66 P) (.nil) (.nil)) (.node (p98 P) (.nil) (.nil))) (.node (p50 P) (.node (p82 P) (.nil) (.nil)) (.node (p114 P) (.nil) (.nil)))) (.node (p26 P) (.node (p42 P) (.node (p74 P) (.nil) (.nil)) (.node (p106 P) (.nil) (.nil))) (.node (p58 P) (.node (o90 P) (.nil) (.nil)) (.node (p122 P) (.nil) (.nil))))) (.node (p14 P) (.node (p22 P) (.node (o38 P) (.node (p70 P) (.nil) (.nil)) (.node (o102 P) (.nil) (.nil))) (.node (o54 P) (.node (p86 P) (.nil) (.nil)) (.node (p118 P) (.nil) (.nil)))) (.node (o30 P) (.node (o46 P) (.node (p78 P) (.nil) (.nil)) (.node (o110 P) (.nil) (.nil))) (.node (o62 P) (.node (p94 P) (.nil) (.nil)) (.nil))))))
noncomputable def st3 (w : World) (os : OsState) : SharedT := ⟨tree3 w.params, 124, bootL, Array.mk [], boot_drawn, 349, os⟩
noncomputable def p3v4 (P : Params) : Obj := ⟨.type "dict", none, .dict [en P "__name__" 165 (.str "ply.yacc" 194), en P "__doc__" 166 (.none), en P "__package__" 167 (.none), en P "__loader__" 168 (.builtin "__main__.__loader__#opaque"), en P "__spec__" 169 (.none), en P "__annotations__" 170 (.ref 6), en P "__builtins__" 171 (.ref 4), en P "__file__" 173 (.str "/claim/cut.py" 172), en P "__cached__" 174 (.none), en P "_wall" 193 (.ref 21), en P "YaccError" 215 (.ref 31), en P "_is_identifier" 221 (.ref 39), en P "_IDENTIFIER" 223 (.str "abcdefghijklmnopqrstuvwxyzABCDEFGHIJKLMNOPQRSTUVWXYZ0123456789_-" 222), en P "_literal" 230 (.ref 46), en P "Production" 323 (.ref 100), en P "rightmost_terminal" 332 (.ref 111), en P "GrammarError" 348 (.ref 121), en P "Grammar" 533 (.ref 248)].toArray 18, [].toArray⟩
noncomputable def p12v4 (P : Params) : Obj := ⟨.none, none, .fields [.int 1 0, .int 0 0, .ref 20, .int 5 0, .int 0 0, .ref 27, .int 7 0, .int 0 0, .ref 38, .int 10 0, .int 0 0, .ref 45, .int 14 0, .int 0 0, .ref 52, .int 53 0, .int 0 0, .ref 110, .int 60 0, .int 0 0, .ref 117, .int 62 0, .int 0 0, .ref 129].toArray, [].toArray⟩
noncomputable def p124 (P : Params) : Obj := ⟨.type "tuple", none, .seq [.type "object"].toArray 0, [].toArray⟩
noncomputable def p125 (P : Params) : Obj := ⟨.type "builtin_function_or_method", none, .fields [.builtin "type.__prepare__", .type "type"].toArray, [].toArray⟩
noncomputable def p126 (P : Params) : Obj := ⟨.type "dict", none, .dict [en P "__module__" 356 (.str "ply.yacc" 194), en P "__qualname__" 358 (.str "Grammar" 357), en P "__firstlineno__" 360 (.int 62 359), en P "__init__" 369 (.ref 137), en P "__len__" 376 (.ref 144), en P "__getitem__" 384 (.ref 151), en P "set_precedence" 394 (.ref 158), en P "add_production" 418 (.ref 166), en P "set_start" 426 (.ref 174), en P "find_unreachable" 433 (.ref 181), en P "infinite_cycles" 440 (.ref 188), en P "undefined_symbols" 447 (.ref 195), en P "unused_terminals" 454 (.ref 202), en P "unused_rules" 461 (.ref 209), en P "unused_precedence" 468 (.ref 216), en P "_first" 480 (.ref 223), en P "compute_first" 492 (.ref 230), en P "compute_follow" 508 (.ref 238), en P "build_lritems" 515 (.ref 245), en P "__static_attributes__" 526 (.ref 246)].toArray 20, [].toArray⟩
noncomputable def p127 (P : Params) : Obj := ⟨.type "tuple", none, .seq [].toArray 0, [].toArray⟩
noncomputable def p128 (P : Params) : Obj := ⟨.none, none, .fields [.int 64 0, .int 4 0, .ref 136, .int 79 0, .int 4 0, .ref 143, .int 82 0, .int 4 0, .ref 150, .int 85 0, .int 4 0, .ref 157, .int 88 0, .int 4 0, .ref 165, .int 146 0, .int 4 0, .ref 173, .int 155 0, .int 4 0, .ref 180, .int 158 0, .int 4 0, .ref 187, .int 161 0, .int 4 0, .ref 194, .int 164 0, .int 4 0, .ref 201, .int 167 0, .int 4 0, .ref 208, .int 170 0, .int 4 0, .ref 215, .int 173 0, .int 4 0, .ref 222, .int 190 0, .int 4 0, .ref 229, .int 210 0, .int 4 0, .ref 237, .int 242 0, .int 4 0, .ref 244].toArray, [].toArray⟩
noncomputable def p129 (P : Params) : Obj := ⟨.type "code", none, .fields [.str "Grammar" 351, .str "Grammar" 352, .str "/claim/cut.py" 353, .int 62 0, .int 0 0, .int 0 0, .int 0 0, .int 0 0, .ref 127, .bool false, .int 181 0, .ref 128, .none, .none, .none, .none, .int 354 0, .int 62 0, .str "/claim/cut.py" 355].toArray, [].toArray⟩
noncomputable def p130 (P : Params) : Obj := ⟨.type "frame", none, .plain, [some (.ref 129), some (.ref 3), some (.ref 126), none, some (.str "ply.yacc" 194), none, some (.ref 0)].toArray⟩
noncomputable def p131 (P : Params) : Obj := ⟨.type "tuple", none, .seq [].toArray 0, [].toArray⟩
noncomputable def p132 (P : Params) : Obj := ⟨.none, none, .fields [].toArray, [].toArray⟩
noncomputable def p133 (P : Params) : Obj := ⟨.type "tuple", none, .seq [.str "self" 364, .str "terminals" 365, .str "term" 366].toArray 0, [].toArray⟩
noncomputable def p134 (P : Params) : Obj := ⟨.type "tuple", none, .seq [].toArray 0, [].toArray⟩
noncomputable def p135 (P : Params) : Obj := fz (.none) 0 0 <| fo (SM 9 0) "Grammar.__init__" (.none) (.none) (.none) (.none) (none) (.none) (.none)
noncomputable def p138 (P : Params) : Obj := ⟨.type "tuple", none, .seq [].toArray 0, [].toArray⟩
noncomputable def p139 (P : Params) : Obj := ⟨.none, none, .fields [].toArray, [].toArray⟩
noncomputable def p140 (P : Params) : Obj := ⟨.type "tuple", none, .seq [.str "self" 373].toArray 0, [].toArray⟩
noncomputable def p141 (P : Params) : Obj := ⟨.type "tuple", none, .seq [].toArray 0, [].toArray⟩
noncomputable def p142 (P : Params) : Obj := fz (.none) 0 0 <| fo (SM 9 1) "Grammar.__len__" (.none) (.none) (.none) (.none) (none) (.none) (.none)
noncomputable def p143 (P : Params) : Obj := ⟨.type "code", none, .fields [.str "__len__" 370, .str "Grammar.__len__" 371, .str "/claim/cut.py" 372, .int 79 0, .int 1 0, .int 0 0, .int 0 0, .int 3 0, .ref 138, .bool true, .int 181 0, .ref 139, .none, .ref 140, .ref 141, .ref 142, .int 374 0, .int 79 0, .str "/claim/cut.py" 375].toArray, [].toArray⟩
noncomputable def p145 (P : Params) : Obj := ⟨.type "tuple", none, .seq [].toArray 0, [].toArray⟩
noncomputable def p146 (P : Params) : Obj := ⟨.none, none, .fields [].toArray, [].toArray⟩
noncomputable def p147 (P : Params) : Obj := ⟨.type "tuple", none, .seq [.str "self" 380, .str "index" 381].toArray 0, [].toArray⟩
noncomputable def p148 (P : Params) : Obj := ⟨.type "tuple", none, .seq [].toArray 0, [].toArray⟩
noncomputable def p149 (P : Params) : Obj := fz (.none) 0 0 <| fo (SM 9 2) "Grammar.__getitem__" (.none) (.none) (.none) (.none) (none) (.none) (.none)
noncomputable def p150 (P : Params) : Obj := ⟨.type "code", none, .fields [.str "__getitem__" 377, .str "Grammar.__getitem__" 378, .str "/claim/cut.py" 379, .int 82 0, .int 2 0, .int 0 0, .int 0 0, .int 3 0, .ref 145, .bool true, .int 181 0, .ref 146, .none, .ref 147, .ref 148, .ref 149, .int 382 0, .int 82 0, .str "/claim/cut.py" 383].toArray, [].toArray⟩
noncomputable def p152 (P : Params) : Obj := ⟨.type "tuple", none, .seq [].toArray 0, [].toArray⟩
noncomputable def p153 (P : Params) : Obj := ⟨.none, none, .fields [].toArray, [].toArray⟩
noncomputable def p154 (P : Params) : Obj := ⟨.type "tuple", none, .seq [.str "self" 388, .str "term" 389, .str "assoc" 390, .str "level" 391].toArray 0, [].toArray⟩
noncomputable def p155 (P : Params) : Obj := ⟨.type "tuple", none, .seq [].toArray 0, [].toArray⟩
noncomputable def p156 (P : Params) : Obj := fz (.none) 0 0 <| fo (SM 9 3) "Grammar.set_precedence" (.none) (.none) (.none) (.none) (none) (.none) (.none)
noncomputable def p157 (P : Params) : Obj := ⟨.type "code", none, .fields [.str "set_precedence" 385, .str "Grammar.set_precedence" 386, .str "/claim/cut.py" 387, .int 85 0, .int 4 0, .int 0 0, .int 0 0, .int 3 0, .ref 152, .bool true, .int 181 0, .ref 153, .none, .ref 154, .ref 155, .ref 156, .int 392 0, .int 85 0, .str "/claim/cut.py" 393].toArray, [].toArray⟩
noncomputable def p160 (P : Params) : Obj := ⟨.type "tuple", none, .seq [].toArray 0, [].toArray⟩
noncomputable def p161 (P : Params) : Obj := ⟨.none, none, .fields [].toArray, [].toArray⟩
noncomputable def p162 (P : Params) : Obj := ⟨.type "tuple", none, .seq [.str "self" 400, .str "prodname" 401, .str "syms" 402, .str "func" 403, .str "file" 404, .str "line" 405, .str "n" 406, .str "s" 407, .str "c" 408, .str "precname" 409, .str "prodprec" 410, .str "map" 411, .str "m" 412, .str "pnumber" 413, .str "t" 414, .str "p" 415].toArray 0, [].toArray⟩
noncomputable def p163 (P : Params) : Obj := ⟨.type "tuple", none, .seq [].toArray 0, [].toArray⟩
noncomputable def p164 (P : Params) : Obj := fz (.none) 0 0 <| fo (SM 9 4) "Grammar.add_production" (.none) (.none) (.none) (.none) (none) (.none) (.none)
noncomputable def p168 (P : Params) : Obj := ⟨.type "tuple", none, .seq [].toArray 0, [].toArray⟩
noncomputable def p169 (P : Params) : Obj := ⟨.none, none, .fields [].toArray, [].toArray⟩
noncomputable def p170 (P : Params) : Obj := ⟨.type "tuple", none, .seq [.str "self" 422, .str "start" 423].toArray 0, [].toArray⟩
noncomputable def p171 (P : Params) : Obj := ⟨.type "tuple", none, .seq [].toArray 0, [].toArray⟩
noncomputable def p172 (P : Params) : Obj := fz (.none) 0 0 <| fo (SM 9 5) "Grammar.set_start" (.none) (.none) (.none) (.none) (none) (.none) (.none)
noncomputable def p175 (P : Params) : Obj := ⟨.type "tuple", none, .seq [].toArray 0, [].toArray⟩
noncomputable def p176 (P : Params) : Obj := ⟨.none, none, .fields [].toArray, [].toArray⟩
noncomputable def p177 (P : Params) : Obj := ⟨.type "tuple", none, .seq [.str "self" 430].toArray 0, [].toArray⟩
noncomputable def p178 (P : Params) : Obj := ⟨.type "tuple", none, .seq [].toArray 0, [].toArray⟩
noncomputable def p179 (P : Params) : Obj := fz (.none) 0 0 <| fo (SM 9 6) "Grammar.find_unreachable" (.none) (.none) (.none) (.none) (none) (.none) (.none)
noncomputable def p180 (P : Params) : Obj := ⟨.type "code", none, .fields [.str "find_unreachable" 427, .str "Grammar.find_unreachable" 428, .str "/claim/cut.py" 429, .int 155 0, .int 1 0, .int 0 0, .int 0 0, .int 3 0, .ref 175, .bool true, .int 181 0, .ref 176, .none, .ref 177, .ref 178, .ref 179, .int 431 0, .int 155 0, .str "/claim/cut.py" 432].toArray, [].toArray⟩
noncomputable def p182 (P : Params) : Obj := ⟨.type "tuple", none, .seq [].toArray 0, [].toArray⟩
noncomputable def p183 (P : Params) : Obj := ⟨.none, none, .fields [].toArray, [].toArray⟩
noncomputable def p184 (P : Params) : Obj := ⟨.type "tuple", none, .seq [.str "self" 437].toArray 0, [].toArray⟩
noncomputable def p185 (P : Params) : Obj := ⟨.type "tuple", none, .seq [].toArray 0, [].toArray⟩
noncomputable def p186 (P : Params) : Obj := fz (.none) 0 0 <| fo (SM 9 7) "Grammar.infinite_cycles" (.none) (.none) (.none) (.none) (none) (.none) (.none)
noncomputable def p187 (P : Params) : Obj := ⟨.type "code", none, .fields [.str "infinite_cycles" 434, .str "Grammar.infinite_cycles" 435, .str "/claim/cut.py" 436, .int 158 0, .int 1 0, .int 0 0, .int 0 0, .int 3 0, .ref 182, .bool true, .int 181 0, .ref 183, .none, .ref 184, .ref 185, .ref 186, .int 438 0, .int 158 0, .str "/claim/cut.py" 439].toArray, [].toArray⟩
noncomputable def p189 (P : Params) : Obj := ⟨.type "tuple", none, .seq [].toArray 0, [].toArray⟩
noncomputable def p190 (P : Params) : Obj := ⟨.none, none, .fields [].toArray, [].toArray⟩
noncomputable def p191 (P : Params) : Obj := ⟨.type "tuple", none, .seq [.str "self" 444].toArray 0, [].toArray⟩
noncomputable def p192 (P : Params) : Obj := ⟨.type "tuple", none, .seq [].toArray 0, [].toArray⟩
noncomputable def p193 (P : Params) : Obj := fz (.none) 0 0 <| fo (SM 9 8) "Grammar.undefined_symbols" (.none) (.none) (.none) (.none) (none) (.none) (.none)
noncomputable def p194 (P : Params) : Obj := ⟨.type "code", none, .fields [.str "undefined_symbols" 441, .str "Grammar.undefined_symbols" 442, .str "/claim/cut.py" 443, .int 161 0, .int 1 0, .int 0 0, .int 0 0, .int 3 0, .ref 189, .bool true, .int 181 0, .ref 190, .none, .ref 191, .ref 192, .ref 193, .int 445 0, .int 161 0, .str "/claim/cut.py" 446].toArray, [].toArray⟩
noncomputable def p196 (P : Params) : Obj := ⟨.type "tuple", none, .seq [].toArray 0, [].toArray⟩
noncomputable def p197 (P : Params) : Obj := ⟨.none, none, .fields [].toArray, [].toArray⟩
noncomputable def p198 (P : Params) : Obj := ⟨.type "tuple", none, .seq [.str "self" 451].toArray 0, [].toArray⟩
noncomputable def p199 (P : Params) : Obj := ⟨.type "tuple", none, .seq [].toArray 0, [].toArray⟩
noncomputable def p200 (P : Params) : Obj := fz (.none) 0 0 <| fo (SM 9 9) "Grammar.unused_terminals" (.none) (.none) (.none) (.none) (none) (.none) (.none)
noncomputable def p201 (P : Params) : Obj := ⟨.type "code", none, .fields [.str "unused_terminals" 448, .str "Grammar.unused_terminals" 449, .str "/claim/cut.py" 450, .int 164 0, .int 1 0, .int 0 0, .int 0 0, .int 3 0, .ref 196, .bool true, .int 181 0, .ref 197, .none, .ref 198, .ref 199, .ref 200, .int 452 0, .int 164 0, .str "/claim/cut.py" 453].toArray, [].toArray⟩
noncomputable def p203 (P : Params) : Obj := ⟨.type "tuple", none, .seq [].toArray 0, [].toArray⟩
noncomputable def p204 (P : Params) : Obj := ⟨.none, none, .fields [].toArray, [].toArray⟩
noncomputable def p205 (P : Params) : Obj := ⟨.type "tuple", none, .seq [.str "self" 458].toArray 0, [].toArray⟩
noncomputable def p206 (P : Params) : Obj := ⟨.type "tuple", none, .seq [].toArray 0, [].toArray⟩
noncomputable def p207 (P : Params) : Obj := fz (.none) 0 0 <| fo (SM 9 10) "Grammar.unused_rules" (.none) (.none) (.none) (.none) (none) (.none) (.none)
noncomputable def p208 (P : Params) : Obj := ⟨.type "code", none, .fields [.str "unused_rules" 455, .str "Grammar.unused_rules" 456, .str "/claim/cut.py" 457, .int 167 0, .int 1 0, .int 0 0, .int 0 0, .int 3 0, .ref 203, .bool true, .int 181 0, .ref 204, .none, .ref 205, .ref 206, .ref 207, .int 459 0, .int 167 0, .str "/claim/cut.py" 460].toArray, [].toArray⟩
noncomputable def p210 (P : Params) : Obj := ⟨.type "tuple", none, .seq [].toArray 0, [].toArray⟩
noncomputable def p211 (P : Params) : Obj := ⟨.none, none, .fields [].toArray, [].toArray⟩
noncomputable def p212 (P : Params) : Obj := ⟨.type "tuple", none, .seq [.str "self" 465].toArray 0, [].toArray⟩
noncomputable def p213 (P : Params) : Obj := ⟨.type "tuple", none, .seq [].toArray 0, [].toArray⟩
noncomputable def p214 (P : Params) : Obj := fz (.none) 0 0 <| fo (SM 9 11) "Grammar.unused_precedence" (.none) (.none) (.none) (.none) (none) (.none) (.none)
noncomputable def p215 (P : Params) : Obj := ⟨.type "code", none, .fields [.str "unused_precedence" 462, .str "Grammar.unused_precedence" 463, .str "/claim/cut.py" 464, .int 170 0, .int 1 0, .int 0 0, .int 0 0, .int 3 0, .ref 210, .bool true, .int 181 0, .ref 211, .none, .ref 212, .ref 213, .ref 214, .int 466 0, .int 170 0, .str "/claim/cut.py" 467].toArray, [].toArray⟩
noncomputable def p217 (P : Params) : Obj := ⟨.type "tuple", none, .seq [].toArray 0, [].toArray⟩
noncomputable def p218 (P : Params) : Obj := ⟨.none, none, .fields [].toArray, [].toArray⟩
noncomputable def p219 (P : Params) : Obj := ⟨.type "tuple", none, .seq [.str "self" 472, .str "beta" 473, .str "result" 474, .str "x" 475, .str "x_produces_empty" 476, .str "f" 477].toArray 0, [].toArray⟩
noncomputable def p220 (P : Params) : Obj := ⟨.type "tuple", none, .seq [].toArray 0, [].toArray⟩
noncomputable def p221 (P : Params) : Obj := fz (.none) 0 0 <| fo (SM 9 12) "Grammar._first" (.none) (.none) (.none) (.none) (none) (.none) (.none)
noncomputable def p224 (P : Params) : Obj := ⟨.type "tuple", none, .seq [].toArray 0, [].toArray⟩
noncomputable def p225 (P : Params) : Obj := ⟨.none, none, .fields [].toArray, [].toArray⟩
noncomputable def p226 (P : Params) : Obj := ⟨.type "tuple", none, .seq [.str "self" 484, .str "t" 485, .str "n" 486, .str "some_change" 487, .str "p" 488, .str "f" 489].toArray 0, [].toArray⟩
noncomputable def p227 (P : Params) : Obj := ⟨.type "tuple", none, .seq [].toArray 0, [].toArray⟩
noncomputable def p228 (P : Params) : Obj := fz (.none) 0 0 <| fo (SM 9 13) "Grammar.compute_first" (.none) (.none) (.none) (.none) (none) (.none) (.none)
noncomputable def p232 (P : Params) : Obj := ⟨.type "tuple", none, .seq [].toArray 0, [].toArray⟩
noncomputable def p233 (P : Params) : Obj := ⟨.none, none, .fields [].toArray, [].toArray⟩
noncomputable def p234 (P : Params) : Obj := ⟨.type "tuple", none, .seq [.str "self" 496, .str "start" 497, .str "k" 498, .str "didadd" 499, .str "p" 500, .str "i" 501, .str "B" 502, .str "fst" 503, .str "hasempty" 504, .str "f" 505].toArray 0, [].toArray⟩
noncomputable def p235 (P : Params) : Obj := ⟨.type "tuple", none, .seq [].toArray 0, [].toArray⟩
noncomputable def p236 (P : Params) : Obj := fz (.none) 0 0 <| fo (SM 9 14) "Grammar.compute_follow" (.none) (.none) (.none) (.none) (none) (.none) (.none)
noncomputable def p239 (P : Params) : Obj := ⟨.type "tuple", none, .seq [].toArray 0, [].toArray⟩
noncomputable def p240 (P : Params) : Obj := ⟨.none, none, .fields [].toArray, [].toArray⟩
noncomputable def p241 (P : Params) : Obj := ⟨.type "tuple", none, .seq [.str "self" 512].toArray 0, [].toArray⟩
noncomputable def p242 (P : Params) : Obj := ⟨.type "tuple", none, .seq [].toArray 0, [].toArray⟩
noncomputable def p243 (P : Params) : Obj := fz (.none) 0 0 <| fo (SM 9 15) "Grammar.build_lritems" (.none) (.none) (.none) (.none) (none) (.none) (.none)
noncomputable def p244 (P : Params) : Obj := ⟨.type "code", none, .fields [.str "build_lritems" 509, .str "Grammar.build_lritems" 510, .str "/claim/cut.py" 511, .int 242 0, .int 1 0, .int 0 0, .int 0 0, .int 3 0, .ref 239, .bool true, .int 181 0, .ref 240, .none, .ref 241, .ref 242, .ref 243, .int 513 0, .int 242 0, .str "/claim/cut.py" 514].toArray, [].toArray⟩
noncomputable def p246 (P : Params) : Obj := ⟨.type "tuple", none, .seq [.str "First" 516, .str "Follow" 517, .str "Nonterminals" 518, .str "Precedence" 519, .str "Prodmap" 520, .str "Prodnames" 521, .str "Productions" 522, .str "Start" 523, .str "Terminals" 524, .str "UsedPrecedence" 525].toArray 0, [].toArray⟩
noncomputable def p251 (P : Params) : Obj := ⟨.type "super", none, .fields [.ref 248, .ref 248, .ref 248].toArray, [].toArray⟩
noncomputable def p252 (P : Params) : Obj := ⟨.type "builtin_function_or_method", none, .fields [.builtin "object.__init_subclass__", .ref 248].toArray, [].toArray⟩
noncomputable def tree4 (P : Params) : BT := .node (p0 P) (.node (p1 P) (.node (p3v4 P) (.node (p7 P) (.node (p15 P) (.node (o31 P) (.node (p63 P) (.node (p127 P) (.nil) (.nil)) (.node (p191 P) (.nil) (.nil))) (.node (p95 P) (.node (o159 P) (.nil) (.nil)) (.node (o223 P) (.nil) (.nil)))) (.node (p47 P) (.node (p79 P) (.node (p143 P) (.nil) (.nil)) (.node (p207 P) (.nil) (.nil))) (.node (o111 P) (.node (p175 P) (.nil) (.nil)) (.node (p239 P) (.nil) (.nil))))) (.node (p23 P) (.node (o39 P) (.node (p71 P) (.node (p135 P) (.nil) (.nil)) (.node (p199 P) (.nil) (.nil))) (.node (p103 P) (.node (o167 P) (.nil) (.nil)) (.node (o231 P) (.nil) (.nil)))) (.node (o55 P) (.node (p87 P) (.node (o151 P) (.nil) (.nil)) (.node (p215 P) (.nil) (.nil))) (.node (p119 P) (.node (p183 P) (.nil) (.nil)) (.node (o247 P) (.nil) (.nil)))))) (.node (p11 P) (.node (p19 P) (.node (p35 P) (.node (p67 P) (.node (p131 P) (.nil) (.nil)) (.node (o195 P) (.nil) (.nil))) (.node (o99 P) (.node (p163 P) (.nil) (.nil)) (.node (p227 P) (.nil) (.nil)))) (.node (p51 P) (.node (o83 P) (.node (p147 P) (.nil) (.nil)) (.node (p211 P) (.nil) (.nil))) (.node (p115 P) (.node (p179 P) (.nil) (.nil)) (.node (p243 P) (.nil) (.nil))))) (.node (p27 P) (.node (p43 P) (.node (p75 P) (.node (p139 P) (.nil) (.nil)) (.node (p203 P) (.nil) (.nil))) (.node (p107 P) (.node (p171 P) (.nil) (.nil)) (.node (p235 P) (.nil) (.nil)))) (.node (p59 P) (.node (p91 P) (.node (p155 P) (.nil) (.nil)) (.node (p219 P) (.nil) (.nil))) (.node (p123 P) (.node (p187 P) (.nil) (.nil)) (.node (p251 P) (.nil) (.nil))))))) (.node (p5 P) (.node (p9 P) (.node (p17 P) (.node (p33 P) (.node (p65 P) (.node (p129 P) (.nil) (.nil)) (.node (p193 P) (.nil) (.nil))) (.node (o97 P) (.node (p161 P) (.nil) (.nil)) (.node (p225 P) (.nil) (.nil)))) (.node (p49 P) (.node (p81 P) (.node (p145 P) (.nil) (.nil)) (.node (o209 P) (.nil) (.nil))) (.node (p113 P) (.node (p177 P) (.nil) (.nil)) (.node (p241 P) (.nil) (.nil))))) (.node (p25 P) (.node (p41 P) (.node (p73 P) (.node (o137 P) (.nil) (.nil)) (.node (p201 P) (.nil) (.nil))) (.node (p105 P) (.node (p169 P) (.nil) (.nil)) (.node (p233 P) (.nil) (.nil)))) (.node (p57 P) (.node (p89 P) (.node (p153 P) (.nil) (.nil)) (.node (p217 P) (.nil) (.nil))) (.node (o121 P) (.node (p185 P) (.nil) (.nil)) (.node (o249 P) (.nil) (.nil)))))) (.node (p13 P) (.node (o21 P) (.node (p37 P) (.node (o69 P) (.node (p133 P) (.nil) (.nil)) (.node (p197 P) (.nil) (.nil))) (.node (o101 P) (.node (o165 P) (.nil) (.nil)) (.node (o229 P) (.nil) (.nil)))) (.node (p53 P) (.node (p85 P) (.node (p149 P) (.nil) (.nil)) (.node (p213 P) (.nil) (.nil))) (.node (p117 P) (.node (o181 P) (.nil) (.nil)) (.node (o245 P) (.nil) (.nil))))) (.node (p29 P) (.node (o45 P) (.node (p77 P) (.node (p141 P) (.nil) (.nil)) (.node (p205 P) (.nil) (.nil))) (.node (p109 P) (.node (o173 P) (.nil) (.nil)) (.node (o237 P) (.nil) (.nil)))) (.node (o61 P) (.node (p93 P) (.node (p157 P) (.nil) (.nil)) (.node (p221 P) (.nil) (.nil))) (.node (p125 P) (.node (p189 P) (.nil) (.nil)) (.nil))))))) (.node (o2 P) (.node (p4 P) (.node (p8 P) (.node (p16 P) (.node (o32 P) (.node (p64 P) (.node (p128 P) (.nil) (.nil)) (.node (p192 P) (.nil) (.nil))) (.node (p96 P) (.node (p160 P) (.nil) (.nil)) (.node (p224 P) (.nil) (.nil)))) (.node (p48 P) (.node (p80 P) (.node (o144 P) (.nil) (.nil)) (.node (p208 P) (.nil) (.nil))) (.node (p112 P) (.node (p176 P) (.nil) (.nil)) (.node (p240 P) (.nil) (.nil))))) (.node (p24 P) (.node (p40 P) (.node (p72 P) (.node (o136 P) (.nil) (.nil)) (.node (p200 P) (.nil) (.nil))) (.node (p104 P) (.node (p168 P) (.nil) (.nil)) (.node (p232 P) (.nil) (.nil)))) (.node (p56 P) (.node (p88 P) (.node (p152 P) (.nil) (.nil)) (.node (o216 P) (.nil) (.nil))) (.node (o120 P) (.node (p184 P) (.nil) (.nil)) (.node (o248 P) (.nil) (.nil)))))) (.node (p12v4 P) (.node (p20 P) (.node (p36 P) (.node (p68 P) (.node (p132 P) (.nil) (.nil)) (.node (p196 P) (.nil) (.nil))) (.node (o100 P) (.node (p164 P) (.nil) (.nil)) (.node (p228 P) (.nil) (.nil)))) (.node (p52 P) (.node (p84 P) (.node (p148 P) (.nil) (.nil)) (.node (p212 P) (.nil) (.nil))) (.node (p116 P) (.node (p180 P) (.nil) (.nil)) (.node (p244 P) (.nil) (.nil))))) (.node (p28 P) (.node (p44 P) (.node (o76 P) (.node (p140 P) (.nil) (.nil)) (.node (p204 P) (.nil) (.nil))) (.node (p108 P) (.node (p172 P) (.nil) (.nil)) (.node (p236 P) (.nil) (.nil)))) (.node (p60 P) (.node (p92 P) (.node (p156 P) (.nil) (.nil)) (.node (p220 P) (.nil) (.nil))) (.node (p124 P) (.node (o188 P) (.nil) (.nil)) (.node (p252 P) (.nil) (.nil))))))) (.node (p6 P) (.node (p10 P) (.node (p18 P) (.node (p34 P) (.node (p66 P) (.node (p130 P) (.nil) (.nil)) (.node (p194 P) (.nil) (.nil))) (.node (p98 P) (.node (p162 P) (.nil) (.nil)) (.node (p226 P) (.nil) (.nil)))) (.node (p50 P) (.node (p82 P) (.node (p146 P) (.nil) (.nil)) (.node (p210 P) (.nil) (.nil))) (.node (p114 P) (.node (p178 P) (.nil) (.nil)) (.node (p242 P) (.nil) (.nil))))) (.node (p26 P) (.node (p42 P) (.node (p74 P) (.node (p138 P) (.nil) (.nil)) (.node (o202 P) (.nil) (.nil))) (.node (p106 P) (.node (p170 P) (.nil) (.nil)) (.node (p234 P) (.nil) (.nil)))) (.node (p58 P) (.node (o90 P) (.node (p154 P) (.nil) (.nil)) (.node (p218 P) (.nil) (.nil))) (.node (p122 P) (.node (p186 P) (.nil) (.nil)) (.node (o250 P) (.nil) (.nil)))))) (.node (p14 P) (.node (p22 P) (.node (o38 P) (.node (p70 P) (.node (p134 P) (.nil) (.nil)) (.node (p198 P) (.nil) (.nil))) (.node (o102 P) (.node (o166 P) (.nil) (.nil)) (.node (o230 P) (.nil) (.nil)))) (.node (o54 P) (.node (p86 P) (.node (p150 P) (.nil) (.nil)) (.node (p214 P) (.nil) (.nil))) (.node (p118 P) (.node (p182 P) (.nil) (.nil)) (.node (p246 P) (.nil) (.nil))))) (.node (o30 P) (.node (o46 P) (.node (p78 P) (.node (p142 P) (.nil) (.nil)) (.node (p206 P) (.nil) (.nil))) (.node (o110 P) (.node (o174 P) (.nil) (.nil)) (.node (o238 P) (.nil) (.nil)))) (.node (o62 P) (.node (p94 P) (.node (o158 P) (.nil) (.nil)) (.node (o222 P) (.nil) (.nil))) (.node (p126 P) (.node (p190 P) (.nil) (.nil)) (.nil)))))))
noncomputable def st4 (w : World) (os : OsState) : SharedT := ⟨tree4 w.params, 253, bootL, Array.mk [], boot_drawn, 534, os⟩
noncomputable def p12v5 (P : Params) : Obj := ⟨.none, none, .fields [.int 1 0, .int 0 0, .ref 20, .int 5 0, .int 0 0, .ref 27, .int 7 0, .int 0 0, .ref 38, .int 10 0, .int 0 0, .ref 45, .int 14 0, .int 0 0, .ref 52, .int 53 0, .int 0 0, .ref 110, .int 60 0, .int 0 0, .ref 117, .int 62 0, .int 0 0, .ref 129, .int 247 0, .int 0 0, .ref 260, .int 249 0, .int 0 0, .ref 265, .int 258 0, .int 0 0, .ref 272, .int 267 0, .int 0 0, .ref 279, .int 280 0, .int 0 0, .ref 284, .int 282 0, .int 0 0, .ref 289].toArray, [].toArray⟩
noncomputable def p255 (P : Params) : Obj := ⟨.type "tuple", none, .seq [].toArray 0, [].toArray⟩
noncomputable def p256 (P : Params) : Obj := ⟨.none, none, .fields [].toArray, [].toArray⟩
noncomputable def p257 (P : Params) : Obj := ⟨.type "tuple", none, .seq [.str "tape" 555].toArray 0, [].toArray⟩
noncomputable def p258 (P : Params) : Obj := ⟨.type "tuple", none, .seq [].toArray 0, [].toArray⟩
noncomputable def p259 (P : Params) : Obj := fz (.none) 0 0 <| fo (S 13) "_law_draw" (.none) (.none) (.none) (.none) (none) (.none) (.none)
noncomputable def p262 (P : Params) : Obj := ⟨.type "tuple", none, .seq [].toArray 0, [].toArray⟩
noncomputable def p263 (P : Params) : Obj := ⟨.none, none, .fields [].toArray, [].toArray⟩
noncomputable def p264 (P : Params) : Obj := fz (.none) 0 0 <| fo (S 14) "_law_rules" (.none) (.none) (.none) (.none) (none) (.none) (.none)
noncomputable def p267 (P : Params) : Obj := ⟨.type "tuple", none, .seq [].toArray 0, [].toArray⟩
noncomputable def p268 (P : Params) : Obj := ⟨.none, none, .fields [].toArray, [].toArray⟩
noncomputable def p269 (P : Params) : Obj := ⟨.type "tuple", none, .seq [.str "symbols" 568, .str "mask" 569, .str "ways" 570, .str "s" 571, .str "later" 572].toArray 0, [].toArray⟩
noncomputable def p270 (P : Params) : Obj := ⟨.type "tuple", none, .seq [].toArray 0, [].toArray⟩
noncomputable def p271 (P : Params) : Obj := fz (.none) 0 0 <| fo (S 15) "_law_read" (.none) (.none) (.none) (.none) (none) (.none) (.none)
noncomputable def p274 (P : Params) : Obj := ⟨.type "tuple", none, .seq [].toArray 0, [].toArray⟩
noncomputable def p275 (P : Params) : Obj := ⟨.none, none, .fields [].toArray, [].toArray⟩
noncomputable def p276 (P : Params) : Obj := ⟨.type "tuple", none, .seq [.str "rules" 579, .str "marked" 580, .str "ways" 581, .str "more" 582, .str "left" 583, .str "symbols" 584, .str "k" 585, .str "got" 586].toArray 0, [].toArray⟩
noncomputable def p277 (P : Params) : Obj := ⟨.type "tuple", none, .seq [].toArray 0, [].toArray⟩
noncomputable def p278 (P : Params) : Obj := fz (.none) 0 0 <| fo (S 16) "_law_ways" (.none) (.none) (.none) (.none) (none) (.none) (.none)
noncomputable def p281 (P : Params) : Obj := ⟨.type "tuple", none, .seq [].toArray 0, [].toArray⟩
noncomputable def p282 (P : Params) : Obj := ⟨.none, none, .fields [].toArray, [].toArray⟩
noncomputable def p283 (P : Params) : Obj := fz (.none) 0 0 <| fo (S 17) "_law_found" (.none) (.none) (.none) (.none) (none) (.none) (.none)
noncomputable def p286 (P : Params) : Obj := ⟨.type "tuple", none, .seq [].toArray 0, [].toArray⟩
noncomputable def p287 (P : Params) : Obj := ⟨.none, none, .fields [].toArray, [].toArray⟩
noncomputable def p288 (P : Params) : Obj := fz (.none) 0 0 <| fo (S 18) "law" (.none) (.none) (.none) (.none) (none) (.none) (.none)
noncomputable def tree5 (P : Params) : BT := .node (p0 P) (.node (p1 P) (.node (o3 P) (.node (p7 P) (.node (p15 P) (.node (o31 P) (.node (p63 P) (.node (p127 P) (.node (p255 P) (.nil) (.nil)) (.nil)) (.node (p191 P) (.nil) (.nil))) (.node (p95 P) (.node (o159 P) (.node (p287 P) (.nil) (.nil)) (.nil)) (.node (o223 P) (.nil) (.nil)))) (.node (p47 P) (.node (p79 P) (.node (p143 P) (.node (p271 P) (.nil) (.nil)) (.nil)) (.node (p207 P) (.nil) (.nil))) (.node (o111 P) (.node (p175 P) (.nil) (.nil)) (.node (p239 P) (.nil) (.nil))))) (.node (p23 P) (.node (o39 P) (.node (p71 P) (.node (p135 P) (.node (p263 P) (.nil) (.nil)) (.nil)) (.node (p199 P) (.nil) (.nil))) (.node (p103 P) (.node (o167 P) (.nil) (.nil)) (.node (o231 P) (.nil) (.nil)))) (.node (o55 P) (.node (p87 P) (.node (o151 P) (.node (o279 P) (.nil) (.nil)) (.nil)) (.node (p215 P) (.nil) (.nil))) (.node (p119 P) (.node (p183 P) (.nil) (.nil)) (.node (o247 P) (.nil) (.nil)))))) (.node (p11 P) (.node (p19 P) (.node (p35 P) (.node (p67 P) (.node (p131 P) (.node (p259 P) (.nil) (.nil)) (.nil)) (.node (o195 P) (.nil) (.nil))) (.node (o99 P) (.node (p163 P) (.nil) (.nil)) (.node (p227 P) (.nil) (.nil)))) (.node (p51 P) (.node (o83 P) (.node (p147 P) (.node (p275 P) (.nil) (.nil)) (.nil)) (.node (p211 P) (.nil) (.nil))) (.node (p115 P) (.node (p179 P) (.nil) (.nil)) (.node (p243 P) (.nil) (.nil))))) (.node (p27 P) (.node (p43 P) (.node (p75 P) (.node (p139 P) (.node (p267 P) (.nil) (.nil)) (.nil)) (.node (p203 P) (.nil) (.nil))) (.node (p107 P) (.node (p171 P) (.nil) (.nil)) (.node (p235 P) (.nil) (.nil)))) (.node (p59 P) (.node (p91 P) (.node (p155 P) (.node (p283 P) (.nil) (.nil)) (.nil)) (.node (p219 P) (.nil) (.nil))) (.node (p123 P) (.node (p187 P) (.nil) (.nil)) (.node (p251 P) (.nil) (.nil))))))) (.node (p5 P) (.node (p9 P) (.node (p17 P) (.node (p33 P) (.node (p65 P) (.node (p129 P) (.node (p257 P) (.nil) (.nil)) (.nil)) (.node (p193 P) (.nil) (.nil))) (.node (o97 P) (.node (p161 P) (.node (o289 P) (.nil) (.nil)) (.nil)) (.node (p225 P) (.nil) (.nil)))) (.node (p49 P) (.node (p81 P) (.node (p145 P) (.node (o273 P) (.nil) (.nil)) (.nil)) (.node (o209 P) (.nil) (.nil))) (.node (p113 P) (.node (p177 P) (.nil) (.nil)) (.node (p241 P) (.nil) (.nil))))) (.node (p25 P) (.node (p41 P) (.node (p73 P) (.node (o137 P) (.node (o265 P) (.nil) (.nil)) (.nil)) (.node (p201 P) (.nil) (.nil))) (.node (p105 P) (.node (p169 P) (.nil) (.nil)) (.node (p233 P) (.nil) (.nil)))) (.node (p57 P) (.node (p89 P) (.node (p153 P) (.node (p281 P) (.nil) (.nil)) (.nil)) (.node (p217 P) (.nil) (.nil))) (.node (o121 P) (.node (p185 P) (.nil) (.nil)) (.node (o249 P) (.nil) (.nil)))))) (.node (p13 P) (.node (o21 P) (.node (p37 P) (.node (o69 P) (.node (p133 P) (.node (o261 P) (.nil) (.nil)) (.nil)) (.node (p197 P) (.nil) (.nil))) (.node (o101 P) (.node (o165 P) (.nil) (.nil)) (.node (o229 P) (.nil) (.nil)))) (.node (p53 P) (.node (p85 P) (.node (p149 P) (.node (p277 P) (.nil) (.nil)) (.nil)) (.node (p213 P) (.nil) (.nil))) (.node (p117 P) (.node (o181 P) (.nil) (.nil)) (.node (o245 P) (.nil) (.nil))))) (.node (p29 P) (.node (o45 P) (.node (p77 P) (.node (p141 P) (.node (p269 P) (.nil) (.nil)) (.nil)) (.node (p205 P) (.nil) (.nil))) (.node (p109 P) (.node (o173 P) (.nil) (.nil)) (.node (o237 P) (.nil) (.nil)))) (.node (o61 P) (.node (p93 P) (.node (p157 P) (.node (o285 P) (.nil) (.nil)) (.nil)) (.node (p221 P) (.nil) (.nil))) (.node (p125 P) (.node (p189 P) (.nil) (.nil)) (.node (o253 P) (.nil) (.nil)))))))) (.node (o2 P) (.node (p4 P) (.node (p8 P) (.node (p16 P) (.node (o32 P) (.node (p64 P) (.node (p128 P) (.node (p256 P) (.nil) (.nil)) (.nil)) (.node (p192 P) (.nil) (.nil))) (.node (p96 P) (.node (p160 P) (.node (p288 P) (.nil) (.nil)) (.nil)) (.node (p224 P) (.nil) (.nil)))) (.node (p48 P) (.node (p80 P) (.node (o144 P) (.node (o272 P) (.nil) (.nil)) (.nil)) (.node (p208 P) (.nil) (.nil))) (.node (p112 P) (.node (p176 P) (.nil) (.nil)) (.node (p240 P) (.nil) (.nil))))) (.node (p24 P) (.node (p40 P) (.node (p72 P) (.node (o136 P) (.node (p264 P) (.nil) (.nil)) (.nil)) (.node (p200 P) (.nil) (.nil))) (.node (p104 P) (.node (p168 P) (.nil) (.nil)) (.node (p232 P) (.nil) (.nil)))) (.node (p56 P) (.node (p88 P) (.node (p152 P) (.node (o280 P) (.nil) (.nil)) (.nil)) (.node (o216 P) (.nil) (.nil))) (.node (o120 P) (.node (p184 P) (.nil) (.nil)) (.node (o248 P) (.nil) (.nil)))))) (.node (p12v5 P) (.node (p20 P) (.node (p36 P) (.node (p68 P) (.node (p132 P) (.node (o260 P) (.nil) (.nil)) (.nil)) (.node (p196 P) (.nil) (.nil))) (.node (o100 P) (.node (p164 P) (.nil) (.nil)) (.node (p228 P) (.nil) (.nil)))) (.node (p52 P) (.node (p84 P) (.node (p148 P) (.node (p276 P) (.nil) (.nil)) (.nil)) (.node (p212 P) (.nil) (.nil))) (.node (p116 P) (.node (p180 P) (.nil) (.nil)) (.node (p244 P) (.nil) (.nil))))) (.node (p28 P) (.node (p44 P) (.node (o76 P) (.node (p140 P) (.node (p268 P) (.nil) (.nil)) (.nil)) (.node (p204 P) (.nil) (.nil))) (.node (p108 P) (.node (p172 P) (.nil) (.nil)) (.node (p236 P) (.nil) (.nil)))) (.node (p60 P) (.node (p92 P) (.node (p156 P) (.node (o284 P) (.nil) (.nil)) (.nil)) (.node (p220 P) (.nil) (.nil))) (.node (p124 P) (.node (o188 P) (.nil) (.nil)) (.node (p252 P) (.nil) (.nil))))))) (.node (p6 P) (.node (p10 P) (.node (p18 P) (.node (p34 P) (.node (p66 P) (.node (p130 P) (.node (p258 P) (.nil) (.nil)) (.nil)) (.node (p194 P) (.nil) (.nil))) (.node (p98 P) (.node (p162 P) (.node (o290 P) (.nil) (.nil)) (.nil)) (.node (p226 P) (.nil) (.nil)))) (.node (p50 P) (.node (p82 P) (.node (p146 P) (.node (p274 P) (.nil) (.nil)) (.nil)) (.node (p210 P) (.nil) (.nil))) (.node (p114 P) (.node (p178 P) (.nil) (.nil)) (.node (p242 P) (.nil) (.nil))))) (.node (p26 P) (.node (p42 P) (.node (p74 P) (.node (p138 P) (.node (o266 P) (.nil) (.nil)) (.nil)) (.node (o202 P) (.nil) (.nil))) (.node (p106 P) (.node (p170 P) (.nil) (.nil)) (.node (p234 P) (.nil) (.nil)))) (.node (p58 P) (.node (o90 P) (.node (p154 P) (.node (p282 P) (.nil) (.nil)) (.nil)) (.node (p218 P) (.nil) (.nil))) (.node (p122 P) (.node (p186 P) (.nil) (.nil)) (.node (o250 P) (.nil) (.nil)))))) (.node (p14 P) (.node (p22 P) (.node (o38 P) (.node (p70 P) (.node (p134 P) (.node (p262 P) (.nil) (.nil)) (.nil)) (.node (p198 P) (.nil) (.nil))) (.node (o102 P) (.node (o166 P) (.nil) (.nil)) (.node (o230 P) (.nil) (.nil)))) (.node (o54 P) (.node (p86 P) (.node (p150 P) (.node (p278 P) (.nil) (.nil)) (.nil)) (.node (p214 P) (.nil) (.nil))) (.node (p118 P) (.node (p182 P) (.nil) (.nil)) (.node (p246 P) (.nil) (.nil))))) (.node (o30 P) (.node (o46 P) (.node (p78 P) (.node (p142 P) (.node (p270 P) (.nil) (.nil)) (.nil)) (.node (p206 P) (.nil) (.nil))) (.node (o110 P) (.node (o174 P) (.nil) (.nil)) (.node (o238 P) (.nil) (.nil)))) (.node (o62 P) (.node (p94 P) (.node (o158 P) (.node (p286 P) (.nil) (.nil)) (.nil)) (.node (o222 P) (.nil) (.nil))) (.node (p126 P) (.node (p190 P) (.nil) (.nil)) (.node (o254 P) (.nil) (.nil))))))))
noncomputable def st5 (w : World) (os : OsState) : SharedT := ⟨tree5 w.params, 291, bootL, Array.mk [], boot_drawn, 602, os⟩
noncomputable def envT : Env := { scope := pw_qb0003_02.main.scope, locals := mainNs, globals := mainNs, cells := [], code := .ref 13, frame := some 14 }
noncomputable def bodyT : List Stmt := behindTheImports pw_qb0003_02
noncomputable def codeT : Code := .body bodyT envT
noncomputable def sts (i n : Nat) : List Stmt := (bodyT.drop i).take n
abbrev BotT : List Frame := [topFrame ⟨0, 0, 0, 0⟩]
theorem open0 : ∀ w : World, (fencedOpening treeTable pw_qb0003_02 w 4000).map (fun s => (s.heap, s.gens, s.drawn, s.toks)) = some (boot_heap w.params, Array.mk [], boot_drawn, boot_toks) := boot_open (by kernel_rfl) (by decide) (fun s => by kernel_rfl)
theorem size0 (w : World) : ((boot_heap w.params).isNs mainGlobals && (Array.mk [] : Array GenState).size == 0, (boot_heap w.params).objs.size, (boot_heap w.params).nsMap mainGlobals "__annotations__") = (true, 11, some (.ref 6)) := by kernel_rfl
theorem pre0 (w : World) (os : OsState) : topGo treeTable pw_qb0003_02 w 11 (some (.ref 6)) 12 ⟨boot_heap w.params, Array.mk [], boot_drawn, boot_toks, os⟩ (topStub pw_qb0003_02) = some ((st0 w os).abs, ⟨denote treeTable codeT, codeT, ⟨0, 0, 0, 0⟩, BotT⟩) := by kernel_rfl
theorem block0 (w : World) (os : OsState) : segRun treeTable pw_qb0003_02 w 11 (some (.ref 6)) 1 1 (st0 w os).abs (blockOf bodyT envT codeT ⟨0, 0, 0, 0⟩ BotT) = some (.next, (st0 w os).abs, codeT, ⟨0, 0, 0, 0⟩) := by kernel_rfl
theorem run0 (w : World) (os : OsState) : segRunT treeTable pw_qb0003_02 w 11 (some (.ref 6)) 1 299 (st0 w os) (piecesOf (sts 0 6) envT codeT ⟨0, 0, 0, 0⟩ [topFrame ⟨0, 0, 0, 0⟩]) = some (.next, st1 w os, codeT, ⟨10, 0, 13, 18⟩) := by kernel_rfl
theorem run1 (w : World) (os : OsState) : segRunT treeTable pw_qb0003_02 w 11 (some (.ref 6)) 1 430 (st1 w os) (piecesOf (sts 6 1) envT codeT ⟨10, 0, 13, 18⟩ [topFrame ⟨0, 0, 0, 0⟩]) = some (.next, st2 w os, codeT, ⟨14, 0, 52, 16⟩) := by kernel_rfl
theorem run2 (w : World) (os : OsState) : segRunT treeTable pw_qb0003_02 w 11 (some (.ref 6)) 1 245 (st2 w os) (piecesOf (sts 7 2) envT codeT ⟨14, 0, 52, 16⟩ [topFrame ⟨0, 0, 0, 0⟩]) = some (.next, st3 w os, codeT, ⟨60, 0, 61, 8⟩) := by kernel_rfl
theorem run3 (w : World) (os : OsState) : segRunT treeTable pw_qb0003_02 w 11 (some (.ref 6)) 1 746 (st3 w os) (piecesOf (sts 9 1) envT codeT ⟨60, 0, 61, 8⟩ [topFrame ⟨0, 0, 0, 0⟩]) = some (.next, st4 w os, codeT, ⟨62, 0, 243, 16⟩) := by kernel_rfl
theorem run4 (w : World) (os : OsState) : segRunT treeTable pw_qb0003_02 w 11 (some (.ref 6)) 1 220 (st4 w os) (piecesOf (sts 10 9) envT codeT ⟨62, 0, 243, 16⟩ [topFrame ⟨0, 0, 0, 0⟩]) = some (.next, st5 w os, codeT, ⟨282, 0, 314, 63⟩) := by kernel_rfl
theorem fin0 (w : World) (os : OsState) : topRun treeTable pw_qb0003_02 w 11 (some (.ref 6)) 2 (st5 w os).abs ⟨doneF .next, codeT, ⟨282, 0, 314, 63⟩, BotT⟩ = some (st5 w os).abs := by kernel_rfl
theorem body0 : bodyT = sts 0 6 ++ (sts 6 1 ++ (sts 7 2 ++ (sts 9 1 ++ (sts 10 9 ++ [])))) := by kernel_rfl
noncomputable def heapT (P : Params) : Heap := absHeap (tree5 P) 291 bootL
theorem look0 (w : World) : (fun os => ((staticsOk (importedModules pw_qb0003_02.main.body) (boot_heap w.params) (heapT w.params) && namesBound pw_qb0003_02 (heapT w.params) && gensDone ⟨heapT w.params, Array.mk [], boot_drawn, 602, os⟩ && laidKept (boot_heap w.params) (heapT w.params)),
    openSeen q loose (importedModules pw_qb0003_02.main.body) (fun s => xlAt q [] s && recOk [] s) true ⟨heapT w.params, Array.mk [], boot_drawn, 602, os⟩, kAs.map (⟨heapT w.params, Array.mk [], boot_drawn, 602, os⟩ : Shared).heap.get?)) = fun _ => (true, openGood q loose, (K w.params).map fun p => some p.2) := by kernel_rfl
theorem runs (w : World) (os : OsState) : topRun treeTable pw_qb0003_02 w 11 (some (.ref 6)) (12 + (1 + (299 + (430 + (245 + (746 + (220 + 2))))))) ⟨boot_heap w.params, Array.mk [], boot_drawn, boot_toks, os⟩ (topStub pw_qb0003_02) = some ⟨heapT w.params, Array.mk [], boot_drawn, 602, os⟩ := by
  refine go_top (pre0 w os) (piece_block (block0 w os) ?_)
  rw [body0]
  exact piece_app (segRun_of (run0 w os)) (piece_app (segRun_of (run1 w os)) (piece_app (segRun_of (run2 w os)) (piece_app (segRun_of (run3 w os)) (piece_app (segRun_of (run4 w os)) (piece_nil (fin0 w os))))))
theorem left : LeftO pw_qb0003_02 q loose (fun s => xlAt q [] s && recOk [] s) (fun s => kAs.map s.heap.get?) (fun w => (K w.params).map fun p => some p.2) 4000 :=
  LeftO.of_pieces (H₀ := boot_heap) (H₁ := heapT) open0 size0 runs (by decide) look0
end Mine

namespace Mine
open PySem.Challenge
noncomputable def hook : Hook := kHook K kAs kAs_is
set_option maxHeartbeats 0 in
theorem looks : looksOpen pw_qb0003_02 = true := by
  unfold looksOpen
  repeat' with_reducible refine look_both ?_ ?_
  all_goals decide +kernel
set_option maxHeartbeats 0 in
theorem said0 : rw_qb0003_02.row.wellSaid = true := by
  unfold OpenRow.wellSaid OpenRow.partSaid
  with_reducible refine look_both (look_both ?_ ?_) ?_
  · repeat' with_reducible refine look_both ?_ ?_
    · exact looks
    all_goals decide +kernel
  · decide +kernel
  · decide +kernel
set_option maxHeartbeats 0 in
theorem said : rw_qb0003_02.wellSaid = true := by
  unfold OpenLaw.wellSaid
  repeat' with_reducible refine look_both ?_ ?_
  · exact said0
  all_goals decide +kernel
set_option maxHeartbeats 0 in
theorem wit : rw_qb0003_02.row.toRowW.promised := by w_witness2
noncomputable def lawD : DefRec := ⟨nameOf (S 18), argsOf (S 18), bodyOf (S 18), scopeOf (S 18), (S 18).pos⟩
set_option maxHeartbeats 0 in
theorem lawD_is : defOf q rw_qb0003_02.row.toRowW.name = some (lawD, []) := by kernel_rfl
set_option maxHeartbeats 0 in
theorem hd (call : WalkO q loose (XL q []) hook.says rw_qb0003_02.row.toRowW lawD [] fun f vs => PySem.call f vs) : rw_qb0003_02.Holds := by
  refine holds_law said fun said => holds_open (q := q) (loose := loose) (Xt := fun s => xlAt q [] s && recOk (RowW.records rw_qb0003_02.row.toRowW) s) (XP := XL q []) (Yf := Hook.obs hook) (Ya := Hook.val hook) (YP := Hook.says hook) (N := 4000) (d := lawD) (kwd := []) ?hl (Hook.of hook) (Hook.keeps hook) (fun s e => xl_of s (Bool.and_eq_true_iff.mp e).1) XL.keeps lawD_is (by kernel_rfl) (by rfl) (fun s e => recFacts_of (Bool.and_eq_true_iff.mp e).2) (by rfl) said (by decide +kernel) ⟨rfl, rfl, rfl, rfl, rfl, by decide +kernel⟩ wit call
  exact left
end Mine

namespace Mine
open PySem PySem.Challenge

abbrev PR : Program := pw_qb0003_02
abbrev Fm := Str → Option Value
abbrev Hp := Addr → Option Obj
abbrev lst (vs : List Value) (n : Nat) : Obj := listOf vs.toArray n
abbrev tup (vs : List Value) (n : Nat) : Obj := { cls := .type "tuple", data := .seq vs.toArray n }
def upd (N : Hp) (a : Addr) (o : Obj) : Hp := fun b => if b = a then some o else N b
def mset (m : Fm) (x : Str) (v : Value) : Fm := fun y => if y = x then some v else m y
theorem upd_self {N : Hp} {a : Addr} {o : Obj} : upd N a o a = some o := if_pos rfl
theorem upd_ne {N : Hp} {a b : Addr} {o : Obj} (h : b ≠ a) : upd N a o b = N b := if_neg h
theorem mset_self {m : Fm} {x : Str} {v : Value} : mset m x v x = some v := if_pos rfl
theorem mset_ne {m : Fm} {x y : Str} {v : Value} (h : y ≠ x) : mset m x v y = m y := if_neg h
/-- what stood stands -/
def Le (N N' : Hp) : Prop := ∀ a o, N a = some o → N' a = some o
theorem Le.refl {N : Hp} : Le N N := fun _ _ e => e
theorem Le.trans {N N' N'' : Hp} (h : Le N N') (h' : Le N' N'') : Le N N'' := fun a o e => h' a o (h a o e)
theorem Le.upd {N : Hp} {a : Addr} {o : Obj} (h : N a = none) : Le N (upd N a o) := fun b o' e => by
  rw [upd_ne fun q => by rw [q, h] at e; cases e]
  exact e

structure Cx where
  w : World
  A : Around
  env : Env
  s₀ : Shared
  h₀ : Heap
  base : Heap
  frs : List Env
  mean : ExcName → Option Value
  mg : Fm
  mb : Fm
  fms : List (Addr × Fm)

/-- m: the frame's names; N: the cells that are known and owned; R: the rest that stays -/
structure Sat (C : Cx) (m : Fm) (N R : Hp) (h : Heap) : Prop where
  ns : h.Ns C.env.locals m
  own : ∀ a o, N a = some o → h.get? a = some o ∧ a ≠ C.env.locals ∧ R a = none
  fr : ∀ a o, R a = some o → h.get? a = some o ∧ a ≠ C.env.locals
  base : ∀ a o, C.h₀.get? a = some o → R a = some o
  above : C.h₀.objs.size ≤ C.env.locals
  big : sysModules < C.h₀.objs.size
  sm : ∀ a o, N a = some o → (a == sysModules) = false
  frs : ∀ p ∈ C.fms, h.Ns p.1 p.2 ∧ p.1 ≠ C.env.locals ∧ N p.1 = none ∧ R p.1 = none

abbrev Cx.at (C : Cx) (h : Heap) (tk : Nat) : Shared := { C.s₀ with heap := h, toks := tk }
def Post {α : Type} (C : Cx) (R : Hp) (Q : α → Fm → Hp → Prop) : α → Shared → Prop := fun a s' => ∃ h' tk' m' N', s' = C.at h' tk' ∧ Sat C m' N' R h' ∧ Q a m' N'
structure Run {α : Type} (C : Cx) (t : Sem α) (m : Fm) (N : Hp) (Q : α → Fm → Hp → Prop) : Prop where
  go : ∀ R h tk, Sat C m N R h → wpAny (model PR C.w) C.A t (Post C R Q) (fun _ _ => False) (C.at h tk)

section
variable {α β : Type} {C : Cx} {m m' : Fm} {N N' R : Hp} {h h' : Heap} {a : Addr} {o o' : Obj}

theorem Post.intro {Q : α → Fm → Hp → Prop} {x : α} {tk' : Nat} (S : Sat C m' N' R h') (q : Q x m' N') : Post C R Q x (C.at h' tk') := ⟨h', tk', m', N', rfl, S, q⟩

theorem Sat.F (S : Sat C m N R h) : Fr C.h₀ C.env.locals h m := ⟨S.ns, fun b o e => (S.fr b o (S.base b o e)).1, S.above⟩
theorem Sat.lt (S : Sat C m N R h) (e : N a = some o) : a < h.objs.size := Heap.lt_size (S.own a o e).1
theorem Sat.get (S : Sat C m N R h) (e : N a = some o) : h.get? a = some o := (S.own a o e).1
theorem Sat.fresh (S : Sat C m N R h) : N h.objs.size = none := by
  cases e : N h.objs.size with
  | none => rfl
  | some o => exact absurd (S.lt e) (Nat.lt_irrefl _)
theorem Sat.weaken (S : Sat C m N R h) (l : Le N' N) : Sat C m N' R h := ⟨S.ns, fun a o e => S.own a o (l a o e), S.fr, S.base, S.above, S.big, fun a o e => S.sm a o (l a o e), fun p hp => ⟨(S.frs p hp).1, (S.frs p hp).2.1, (by
  cases q : N' p.1 with
  | none => rfl
  | some o => have := l _ _ q; rw [(S.frs p hp).2.2.1] at this; cases this), (S.frs p hp).2.2.2⟩⟩
theorem Sat.grow (S : Sat C m N R h) (hk : ∀ b o, h.get? b = some o → h'.get? b = some o) : Sat C m N R h' :=
  ⟨S.ns.keeps hk, fun a o e => ⟨hk _ _ (S.own a o e).1, (S.own a o e).2⟩, fun a o e => ⟨hk _ _ (S.fr a o e).1, (S.fr a o e).2⟩, S.base, S.above, S.big, S.sm, fun p hp => ⟨(S.frs p hp).1.keeps hk, (S.frs p hp).2⟩⟩
theorem Ns.lt {h : Heap} {a : Addr} {m : Fm} (n : h.Ns a m) : a < h.objs.size := by obtain ⟨_, _, _, hL, _⟩ := n; exact Heap.lt_size hL
theorem Sat.high (S : Sat C m N R h) : sysModules < h.objs.size := Nat.lt_of_lt_of_le (Nat.lt_of_lt_of_le S.big S.above) (Nat.le_of_lt (by obtain ⟨_, _, _, hL, _⟩ := S.ns; exact Heap.lt_size hL))
theorem Sat.add (S : Sat C m N R h) (hk : ∀ b o, h.get? b = some o → h'.get? b = some o) (hn : h.objs.size ≤ a) (ho : h'.get? a = some o) : N a = none ∧ Sat C m (upd N a o) R h' := by
  have S' := S.grow hk
  replace hn : h.get? a = none ∧ (a == sysModules) = false := ⟨by
    cases e : h.get? a with
    | none => rfl
    | some o => exact absurd (Heap.lt_size e) (Nat.not_lt.mpr hn), by
    have := S.high
    exact beq_eq_false_iff_ne.mpr fun e => by rw [e] at hn; exact absurd this (Nat.not_lt.mpr hn)⟩
  obtain ⟨hn, hsm⟩ := hn
  have fa : ∀ p ∈ C.fms, p.1 ≠ a := fun p hp z => by
    obtain ⟨oL, _, _, hL, _⟩ := (S.frs p hp).1
    rw [z, hn] at hL; cases hL
  have na : N a = none := by
    cases e : N a with
    | none => rfl
    | some o => have := S.get e; rw [hn] at this; cases this
  refine ⟨na, S'.ns, fun b ob e => ?_, S'.fr, S'.base, S'.above, S'.big, fun b ob e => ?_, fun p hp => ⟨(S'.frs p hp).1, (S'.frs p hp).2.1, by rw [upd_ne (fa p hp)]; exact (S'.frs p hp).2.2.1, (S'.frs p hp).2.2.2⟩⟩
  rotate_left
  · by_cases q : b = a
    · rw [q]; exact hsm
    · rw [upd_ne q] at e; exact S.sm b ob e
  by_cases q : b = a
  · subst q
    rw [upd_self] at e
    cases e
    refine ⟨ho, fun z => ?_, ?_⟩
    · obtain ⟨oL, _, _, hL, _⟩ := S.ns
      rw [← z, hn] at hL; cases hL
    · cases e : R b with
      | none => rfl
      | some o => have := (S.fr b o e).1; rw [hn] at this; cases this
  · rw [upd_ne q] at e
    exact S'.own b ob e
theorem get?_size_none (h : Heap) : h.get? h.objs.size = none := by
  cases e : h.get? h.objs.size with
  | none => rfl
  | some o => exact absurd (Heap.lt_size e) (Nat.lt_irrefl _)
theorem Sat.push (S : Sat C m N R h) (o : Obj) (ho : o.isFreed = false := by rfl) : N h.objs.size = none ∧ Sat C m (upd N h.objs.size o) R (h.push o) :=
  S.add (fun _ _ e => Heap.get?_push_of_some _ e) (Nat.le_refl _) (Heap.get?_push_size _ ho)
theorem Sat.write (S : Sat C m N R h) (ha : N a = some o) (hs : Heap.SameBut a h h') (ho : h'.get? a = some o') : Sat C m (upd N a o') R h' := by
  obtain ⟨e1, e2, e3⟩ := S.own a o ha
  have fa : ∀ p ∈ C.fms, p.1 ≠ a := fun p hp z => by rw [← z, (S.frs p hp).2.2.1] at ha; cases ha
  refine ⟨S.ns.sameBut hs (Ne.symm e2), fun b ob e => ?_, fun b ob e => ⟨(hs.2 b fun q => ?_).trans (S.fr b ob e).1, (S.fr b ob e).2⟩, S.base, S.above, S.big, fun b ob e => ?_, fun p hp => ⟨(S.frs p hp).1.sameBut hs (fa p hp), (S.frs p hp).2.1, by rw [upd_ne (fa p hp)]; exact (S.frs p hp).2.2.1, (S.frs p hp).2.2.2⟩⟩
  rotate_left 2
  · by_cases q : b = a
    · rw [q]; exact S.sm a o ha
    · rw [upd_ne q] at e; exact S.sm b ob e
  · by_cases q : b = a
    · subst q
      rw [upd_self] at e
      cases e
      exact ⟨ho, e2, e3⟩
    · rw [upd_ne q] at e
      have := S.own b ob e
      exact ⟨(hs.2 b q).trans this.1, this.2⟩
  · rw [q, e3] at e; cases e
theorem Sat.local (S : Sat C m N R h) (hn : h'.Ns C.env.locals m') (hs : Heap.SameBut C.env.locals h h') : Sat C m' N R h' :=
  ⟨hn, fun a o e => ⟨(hs.2 a (S.own a o e).2.1).trans (S.own a o e).1, (S.own a o e).2⟩, fun a o e => ⟨(hs.2 a (S.fr a o e).2).trans (S.fr a o e).1, (S.fr a o e).2⟩, S.base, S.above, S.big, S.sm, fun p hp => ⟨(S.frs p hp).1.sameBut hs (S.frs p hp).2.1, (S.frs p hp).2⟩⟩
/-- a cell goes into the rest -/
theorem Sat.frame (S : Sat C m (upd N a o) R h) (ha : N a = none) : Sat C m N (upd R a o) h := by
  have Sa := S.own a o upd_self
  refine ⟨S.ns, fun b ob e => ?_, fun b ob e => ?_, fun b ob e => ?_, S.above, S.big, fun b ob e => S.sm b ob (Le.upd ha b ob e), fun p hp => ?_⟩
  rotate_right
  · obtain ⟨f1, f2, f3, f4⟩ := S.frs p hp
    have q : p.1 ≠ a := fun q => by rw [q, upd_self] at f3; cases f3
    exact ⟨f1, f2, by rw [upd_ne q] at f3; exact f3, by rw [upd_ne q]; exact f4⟩
  · have q : b ≠ a := fun q => by rw [q, ha] at e; cases e
    have := S.own b ob (by rw [upd_ne q]; exact e)
    rw [upd_ne q]
    exact this
  · by_cases q : b = a
    · subst q
      rw [upd_self] at e
      cases e
      exact ⟨Sa.1, Sa.2.1⟩
    · rw [upd_ne q] at e
      exact S.fr b ob e
  · have := S.base b ob e
    rw [upd_ne fun q => by rw [q, Sa.2.2] at this; cases this]
    exact this
theorem Sat.unframe (S : Sat C m N (upd R a o) h) (hr : R a = none) (hb : C.h₀.get? a = none) : Sat C m N R h := by
  refine ⟨S.ns, fun b ob e => ?_, fun b ob e => ?_, fun b ob e => ?_, S.above, S.big, S.sm, fun p hp => ?_⟩
  rotate_right
  · obtain ⟨f1, f2, f3, f4⟩ := S.frs p hp
    have q : p.1 ≠ a := fun q => by rw [q, upd_self] at f4; cases f4
    exact ⟨f1, f2, f3, by rw [upd_ne q] at f4; exact f4⟩
  · have := S.own b ob e
    refine ⟨this.1, this.2.1, ?_⟩
    by_cases q : b = a
    · rw [q]; exact hr
    · have t := this.2.2
      rwa [upd_ne q] at t
  · refine S.fr b ob ?_
    rw [upd_ne fun q => by rw [q, hr] at e; cases e]
    exact e
  · have := S.base b ob e
    rwa [upd_ne fun q => by rw [q, hb] at e; cases e] at this

theorem r_of {t : Sem α} {Q : α → Fm → Hp → Prop} (k : ∀ R h tk, Sat C m N R h → wpAny (model PR C.w) C.A t (Post C R Q) (fun _ _ => False) (C.at h tk)) : Run C t m N Q := ⟨k⟩
theorem r_pure {x : α} {Q : α → Fm → Hp → Prop} (q : Q x m N) : Run C (pure x) m N Q := r_of fun _ _ _ S => wpAny_pure (Post.intro S q)
theorem r_bind {t : Sem α} {f : α → Sem β} {Q : β → Fm → Hp → Prop} (k : Run C t m N fun a m' N' => Run C (f a) m' N' Q) : Run C (t >>= f) m N Q := r_of fun R h tk S =>
  wpAny_bind (wpAny_mono (k.go R h tk S) (fun a s' ⟨h', tk', m', N', e, S', q⟩ => by subst e; exact q.go R h' tk' S') fun _ _ x => x)
theorem r_mono {t : Sem α} {Q Q' : α → Fm → Hp → Prop} (k : Run C t m N Q) (w : ∀ a m' N', Q a m' N' → Q' a m' N') : Run C t m N Q' := r_of fun R h tk S =>
  wpAny_mono (k.go R h tk S) (fun a s' ⟨h', tk', m', N', e, S', q⟩ => ⟨h', tk', m', N', e, S', w _ _ _ q⟩) fun _ _ x => x
theorem r_le {t : Sem α} {Q : α → Fm → Hp → Prop} (k : Run C t m N Q) (l : Le N N') : Run C t m N' Q := r_of fun R h tk S => k.go R h tk (S.weaken l)
theorem r_eq {t t' : Sem α} {Q : α → Fm → Hp → Prop} (e : t = t') (k : Run C t' m N Q) : Run C t m N Q := e ▸ k
theorem r_holding {vs : List Value} {t : Sem α} {Q : α → Fm → Hp → Prop} (k : Run C t m N Q) : Run C (PySem.holding vs t) m N Q := r_of fun R h tk S => wpAny_holding (k.go R h tk S)
theorem r_standAt {p : Pos} {Q : Unit → Fm → Hp → Prop} (k : Q () m N) : Run C (standAt p) m N Q := r_of fun _ _ _ S => wpAny_standAt (Post.intro S k)
theorem r_rule {p : String} {Q : Unit → Fm → Hp → Prop} (k : Q () m N) : Run C (rule p) m N Q := r_of fun _ _ _ S => wpAny_rule (Post.intro S k)
theorem r_point {Q : Unit → Fm → Hp → Prop} (k : Q () m N) : Run C point m N Q := r_of fun _ _ _ S => wpAny_point (Post.intro S k)
theorem r_at_bind {p : Pos} {t : Unit → Sem α} {Q : α → Fm → Hp → Prop} (k : Run C (t ()) m N Q) : Run C (PySem.standAt p >>= t) m N Q := r_bind (r_standAt k)
theorem r_operating {vs : List Value} {t : Sem Value} {Q : Value → Fm → Hp → Prop} (k : Run C t m N Q) : Run C (operate vs t) m N Q := r_of fun R h tk S => wpAny_operating (k.go R h tk S)
/-- a rule that only reads (the tokens may go on) -/
theorem r_read {t : Sem α} {x : α} {Q : α → Fm → Hp → Prop} (k : ∀ R h tk (P : α → Shared → Prop), Sat C m N R h → (∀ tk', P x (C.at h tk')) → wpAny (model PR C.w) C.A t P (fun _ _ => False) (C.at h tk)) (q : Q x m N) : Run C t m N Q :=
  r_of fun R h tk S => k R h tk _ S fun _ => Post.intro S q
end

/-- what holds around: k calls may still be made -/
structure Amb (C : Cx) (k : Nat) : Prop where
  below : ∀ m N R h, Sat C m N R h → ∀ l : List Addr, (∀ a ∈ l, N a ≠ none) → Below C.A C.base C.frs (hideAll h l)
  X : (K C.w.params).In C.h₀
  T : Top q (looseW q loose) C.mean C.mg C.mb C.h₀
  handled : C.A.handled = none
  guards : C.A.guards = some []
  dp : C.A.depth + k < recursionLimit
  un : C.A.units + 8 * k + 100 < cLine
  nb : C.base.get? C.env.locals = none ∧ ∀ p ∈ C.fms, C.base.get? p.1 = none
  cov : ∀ env ∈ C.frs, ∀ L, env.frame = some L → L = C.env.locals ∨ ∃ mm, (L, mm) ∈ C.fms

/-- what a flow gives back -/
def Ret (P : Value → Fm → Hp → Prop) : Flow → Fm → Hp → Prop := fun fl m N => P (match fl with | .ret v => v | _ => .none) m N

section
variable {C : Cx} {k : Nat} {m : Fm} {N : Hp}
def domOf (N : Hp) (h : Heap) : List Addr := (List.range h.objs.size).filter fun a => (N a).isSome
theorem mem_domOf {N : Hp} {h : Heap} {a : Addr} : a ∈ domOf N h ↔ a < h.objs.size ∧ (N a).isSome = true := by
  unfold domOf
  rw [List.mem_filter, List.mem_range]

/-- all that is hidden from a callee: what is owned, and the frames -/
def hidOf (C : Cx) (N : Hp) (h : Heap) : List Addr := domOf N h ++ C.env.locals :: C.fms.map (·.1)
theorem mem_hidOf {N : Hp} {h : Heap} {a : Addr} : a ∈ hidOf C N h ↔ (a < h.objs.size ∧ (N a).isSome = true) ∨ a = C.env.locals ∨ ∃ p ∈ C.fms, p.1 = a := by
  unfold hidOf
  rw [List.mem_append, mem_domOf, List.mem_cons, List.mem_map]
theorem funFrames_of {h h' base : Heap} : ∀ {l : List Env}, h.FunFrames base l → (∀ env ∈ l, ∀ L, env.frame = some L → ∃ o, h'.get? L = some o ∧ ∀ vs, o.data ≠ .fields vs) → h'.FunFrames base l
  | [], _, _ => trivial
  | env :: r, ⟨hk, ⟨L, o, hf, hb, _, _⟩, hr⟩, k => by
    obtain ⟨o', ho', hd'⟩ := k env (.head _) L hf
    exact ⟨hk, ⟨L, o', hf, hb, ho', hd'⟩, funFrames_of hr fun e he => k e (.tail _ he)⟩
theorem Ns.there {h : Heap} {a : Addr} {m : Fm} (n : h.Ns a m) : ∃ o, h.get? a = some o ∧ ∀ vs, o.data ≠ .fields vs := by
  obtain ⟨o, es, ep, ho, hd, _⟩ := n
  exact ⟨o, ho, fun vs z => by rw [hd] at z; cases z⟩
theorem Sat.inG {R : Hp} {h : Heap} (S : Sat C m N R h) {b : Addr} {o : Obj} (e : R b = some o) : (hideAll h (hidOf C N h)).get? b = some o := by
  refine hideAll_get _ (S.fr b o e).1 fun q => ?_
  rcases mem_hidOf.mp q with ⟨_, q⟩ | q | ⟨p, hp, q⟩
  · cases z : N b with
    | none => rw [z] at q; cases q
    | some o' => have := (S.own b o' z).2.2; rw [e] at this; cases this
  · exact (S.fr b o e).2 q
  · have := (S.frs p hp).2.2.2
    rw [q, e] at this; cases this
/-- the new ground for a callee or a comprehension of C -/
theorem ground (hC : Amb C k) {R : Hp} {h : Heap} (S : Sat C m N R h) : C.base.StaysIn (hideAll h (hidOf C N h)) ∧
    ∀ C' : Cx, C'.A.frames = some C.frs → C'.base = C.base → C'.h₀ = hideAll h (hidOf C N h) → (∀ p, p ∈ (C.env.locals, m) :: C.fms → p ∈ C'.fms) → ∀ m₁ N₁ R₁ h', Sat C' m₁ N₁ R₁ h' → ∀ l, (∀ a ∈ l, N₁ a ≠ none) → C.base.StaysIn (hideAll h' l) ∧ (hideAll h' l).FunFrames C.base C.frs := by
  have hdom : ∀ a ∈ domOf N h, N a ≠ none := fun a ha e => by have := (mem_domOf.mp ha).2; rw [e] at this; cases this
  have B := hC.below m N R h S (domOf N h) hdom
  have st : C.base.StaysIn (hideAll h (hidOf C N h)) := fun b o e => by
    have e1 := B.stays b o e
    refine hideAll_get _ (of_hideAll _ e1) fun q => ?_
    rcases mem_hidOf.mp q with q | q | ⟨p, hp, q⟩
    · have := hideAll_none (h := h) (domOf N h) (mem_domOf.mpr q); rw [e1] at this; cases this
    · rw [q, hC.nb.1] at e; cases e
    · rw [← q, hC.nb.2 p hp] at e; cases e
  refine ⟨st, fun C' _ hb h0 hf m₁ N₁ R₁ h' S₁ l hl => ⟨fun b o e => ?_, funFrames_of B.frames fun env he L hL => ?_⟩⟩
  · have r := S₁.base b o (by rw [h0]; exact st b o e)
    refine hideAll_get _ (S₁.fr b o r).1 fun q => ?_
    cases z : N₁ b with
    | none => exact hl b q z
    | some o' => have := (S₁.own b o' z).2.2; rw [r] at this; cases this
  · obtain ⟨mm, hm⟩ : ∃ mm, (L, mm) ∈ C'.fms := by
      rcases hC.cov env he L hL with q | ⟨mm, q⟩
      · exact ⟨m, hf _ (by rw [q]; exact .head _)⟩
      · exact ⟨mm, hf _ (.tail _ q)⟩
    obtain ⟨n1, _, n3, _⟩ := S₁.frs _ hm
    obtain ⟨o, ho, hd⟩ := Ns.there n1
    exact ⟨o, hideAll_get _ ho fun q => hl _ q n3, hd⟩
/-- into a new frame -/
theorem Sat.enter {C' : Cx} {m' : Fm} {R : Hp} {h h₁ : Heap} (S : Sat C m N R h) (h0 : C'.h₀ = hideAll h (hidOf C N h)) (hf : C'.fms = (C.env.locals, m) :: C.fms) (hL : h.objs.size ≤ C'.env.locals) (ns : h₁.Ns C'.env.locals m') (keep : ∀ b o, h.get? b = some o → h₁.get? b = some o) :
    Sat C' m' N (hideAll h (hidOf C N h)).get? h₁ := by
  have lt : ∀ b, b < h.objs.size → b ≠ C'.env.locals := fun b hb z => by rw [z] at hb; exact absurd hb (Nat.not_lt.mpr hL)
  refine ⟨ns, fun a o e => ⟨keep _ _ (S.get e), lt a (S.lt e), hideAll_none _ (mem_hidOf.mpr (.inl ⟨S.lt e, by rw [e]; rfl⟩))⟩, fun a o e => ⟨keep _ _ (of_hideAll _ e), lt a (Heap.lt_size (of_hideAll _ e))⟩, fun a o e => by rw [h0] at e; exact e, by rw [h0, hideAll_size]; exact hL, by rw [h0, hideAll_size]; exact S.high, S.sm, fun p hp => ?_⟩
  rw [hf] at hp
  rcases List.mem_cons.mp hp with rfl | hp
  · refine ⟨S.ns.keeps keep, lt _ (Ns.lt S.ns), ?_, hideAll_none _ (mem_hidOf.mpr (.inr (.inl rfl)))⟩
    cases z : N C.env.locals with
    | none => rfl
    | some o' => exact absurd rfl (S.own _ o' z).2.1
  · obtain ⟨f1, f2, f3, f4⟩ := S.frs p hp
    exact ⟨f1.keeps keep, lt _ (Ns.lt f1), f3, hideAll_none _ (mem_hidOf.mpr (.inr (.inr ⟨p, hp, rfl⟩)))⟩
/-- and back -/
theorem Sat.leave {C' : Cx} {m' : Fm} {N' R : Hp} {h h' : Heap} (S : Sat C m N R h) (hf : ∀ p, p ∈ (C.env.locals, m) :: C.fms → p ∈ C'.fms) (S' : Sat C' m' N' (hideAll h (hidOf C N h)).get? h') : Sat C m N' R h' := by
  obtain ⟨n1, n2, n3, n4⟩ := S'.frs _ (hf _ (.head _))
  refine ⟨n1, fun a o e => ⟨S'.get e, (fun q => by rw [q, n3] at e; cases e), ?_⟩, fun a o e => ⟨(S'.fr a o (S.inG e)).1, (S.fr a o e).2⟩, S.base, S.above, S.big, S'.sm, fun p hp => ?_⟩
  · cases z : R a with
    | none => rfl
    | some o' => have := (S'.own a o e).2.2; rw [S.inG z] at this; cases this
  · obtain ⟨f1, f2, f3, f4⟩ := S'.frs p (hf p (.tail _ hp))
    exact ⟨f1, (S.frs p hp).2.1, f3, (S.frs p hp).2.2.2⟩
theorem Sat.own1 {R : Hp} {h : Heap} {a : Addr} {o : Obj} (S : Sat C m N R h) (ha : h.get? a = some o) (hN : N a = none) (hR : R a = none) (hL : a ≠ C.env.locals) (hf : ∀ p ∈ C.fms, p.1 ≠ a) (hs : (a == sysModules) = false) : Sat C m (upd N a o) R h := by
  refine ⟨S.ns, fun b ob e => ?_, S.fr, S.base, S.above, S.big, fun b ob e => ?_, fun p hp => ⟨(S.frs p hp).1, (S.frs p hp).2.1, by rw [upd_ne (hf p hp)]; exact (S.frs p hp).2.2.1, (S.frs p hp).2.2.2⟩⟩
  · by_cases q : b = a
    · rw [q, upd_self] at e; cases e; rw [q]; exact ⟨ha, hL, hR⟩
    · rw [upd_ne q] at e; exact S.own b ob e
  · by_cases q : b = a
    · rw [q]; exact hs
    · rw [upd_ne q] at e; exact S.sm b ob e
/-- the context of a callee -/
theorem amb_callee {C' : Cx} {R : Hp} {h : Heap} (hC : Amb C (k + 1)) (S : Sat C m N R h) (hw : C'.w = C.w) (hA : C'.A = C.A.deeper C'.env) (hb : C'.base = C.base) (h0 : C'.h₀ = hideAll h (hidOf C N h)) (hfr : C'.frs = C'.env :: C.frs) (hf : C'.fms = (C.env.locals, m) :: C.fms)
    (hme : C'.mean = C.mean) (hmg : C'.mg = C.mg) (hmb : C'.mb = C.mb) (hL : h.objs.size ≤ C'.env.locals) (hk : C'.env.scope.kind = .function) (hfl : C'.env.frame = some C'.env.locals) : Amb C' k := by
  have stack := (hC.below m N R h S [] (fun _ q => nomatch q)).stack
  obtain ⟨st, gr⟩ := ground hC S
  have old : ∀ b, b < h.objs.size → C.base.get? b = none ∨ True := fun _ _ => .inr trivial
  have nbL : C.base.get? C'.env.locals = none := by
    cases z : C.base.get? C'.env.locals with
    | none => rfl
    | some o => exact absurd (Heap.lt_size (of_hideAll _ (st _ o z))) (Nat.not_lt.mpr hL)
  have stG : ∀ b o, C.h₀.get? b = some o → (hideAll h (hidOf C N h)).get? b = some o := fun b o e => S.inG (S.base b o e)
  refine ⟨fun m₁ N₁ R₁ h' S₁ l hl => ?_, by rw [hw, h0]; exact hC.X.keeps stG, by rw [hme, hmg, hmb, h0]; exact hC.T.keeps stG, by rw [hA]; exact hC.handled, by rw [hA]; exact hC.guards, ?_, ?_, ?_, ?_⟩
  · obtain ⟨g1, g2⟩ := gr { C' with A := C.A } stack hb h0 (fun p hp => by show p ∈ C'.fms; rw [hf]; exact hp) m₁ N₁ R₁ h' ⟨S₁.ns, S₁.own, S₁.fr, S₁.base, S₁.above, S₁.big, S₁.sm, S₁.frs⟩ l hl
    rw [hA, hb, hfr]
    refine ⟨Around.frames_deeper stack, g1, ?_⟩
    have hLl : C'.env.locals ∉ l := fun q => by
      cases z : N₁ C'.env.locals with
      | none => exact hl _ q z
      | some o' => exact (S₁.own _ o' z).2.1 rfl
    obtain ⟨oL, es, ep, hL', hLr⟩ := S₁.ns
    have hns' : (hideAll h' l).Ns C'.env.locals m₁ := ⟨oL, es, ep, hideAll_get _ hL' hLl, hLr⟩
    exact Heap.FunFrames.cons (by rw [hk]; decide) hfl hns' nbL g2
  · have := hC.dp
    rw [hA]
    show C.A.depth + 1 + k < _
    omega
  · have := hC.un
    rw [hA]
    show C.A.units + 3 + 8 * k + 100 < _
    omega
  · refine ⟨by rw [hb]; exact nbL, fun p hp => ?_⟩
    rw [hf] at hp
    rw [hb]
    rcases List.mem_cons.mp hp with rfl | hp
    · exact hC.nb.1
    · exact hC.nb.2 p hp
  · intro env he L hL'
    rw [hfr] at he
    rw [hf]
    rcases List.mem_cons.mp he with rfl | he
    · rw [hfl] at hL'; cases hL'; exact .inl rfl
    · rcases hC.cov env he L hL' with q | ⟨mm, q⟩
      · exact .inr ⟨m, by rw [q]; exact .head _⟩
      · exact .inr ⟨mm, .tail _ q⟩
/-- a code that gives a value back -/
def CRun (C : Cx) (c : Code) (m : Fm) (N : Hp) (Q : Value → Fm → Hp → Prop) : Prop := ∀ R h tk, Sat C m N R h → codeAny (model PR C.w) C.A c (wants (Post C R Q) fun _ _ => False) (C.at h tk)
theorem r_call {f : Value} {vs : List Value} {Q : Value → Fm → Hp → Prop} (q : CRun C (.call f ⟨vs, []⟩) m N Q) : Run C (call f vs) m N Q := r_of fun R h tk S => wpAny_call (q R h tk S)
def Callee (C : Cx) (qual : Str) (st : Stmt) (f cdA : Addr) (C' : Cx) (k : Nat) : Prop := Amb C' k ∧ C'.w = C.w ∧ ∃ L, C'.env = envOf qual (scopeOf st) L f (.ref cdA) ∧ ∃ A₀ : Around, C'.A = A₀.deeper C'.env ∧ A₀.frames = some C.frs ∧ C'.frs = C'.env :: C.frs

theorem cr_call_def {f : Addr} {vs : List Value} {P : Value → Hp → Prop} {Q : Value → Fm → Hp → Prop} (hC : Amb C (k + 1)) (st : Stmt) (qual : Str) {dV kV doc pm ct : Value} {an : Option Addr} {cdA : Addr} (binds : List (Str × Value))
    (ho : (K C.w.params).lookup f = some (fo st qual dV kV doc pm an (.ref cdA) ct)) (hcd : codeIn (K C.w.params) (.ref cdA) qual = true)
    (hbind : ∀ s : Shared, (K C.w.params).In s.heap → BindsTo s (fnOf (nameOf st) qual (argsOf st) (bodyOf st) (scopeOf st) dV kV doc pm an (.ref cdA) ct) ⟨vs, []⟩ binds)
    (hloc : ∀ y ∈ binds, (scopeOf st).names.lookup y.1 = some .local)
    (hcell : ∀ x ∈ (scopeOf st).names, x.2 ≠ .cell) (hco : (scopeOf st).isCoroutine = false) (hgen : (scopeOf st).isGenerator = false) (hk : (scopeOf st).kind = .function)
    (body : ∀ C', Callee C qual st f cdA C' k → Run C' (execs (bodyOf st) C'.env) (fun y => binds.reverse.lookup y) N (Ret fun v _ N' => P v N'))
    (hQ : ∀ v N', P v N' → Q v m N') : CRun C (.call (.ref f) ⟨vs, []⟩) m N Q := by
  intro R h tk S
  have Xh : (K C.w.params).In h := hC.X.keeps S.F.keep
  have stack := (hC.below m N R h S [] (fun _ q => nomatch q)).stack
  refine codeAny_call_def (fd := fnX (nameOf st) qual (argsOf st) (bodyOf st) (scopeOf st) [] dV kV doc pm an (.ref cdA) ct) (body := bodyOf st) (binds := binds) (by have := hC.dp; omega) (Xh _ _ ho) rfl (hC.T.nolimit.keeps S.F.keep) (codeRec_of Xh hcd) rfl (hbind _ Xh) hcell hloc (fun h₁ hns hk₁ => ?_) hco hgen hk
  let C' : Cx := { w := C.w, A := C.A.deeper (envOf qual (scopeOf st) h.objs.size f (.ref cdA)), env := envOf qual (scopeOf st) h.objs.size f (.ref cdA), s₀ := C.s₀, h₀ := hideAll h (hidOf C N h), base := C.base, frs := envOf qual (scopeOf st) h.objs.size f (.ref cdA) :: C.frs, mean := C.mean, mg := C.mg, mb := C.mb, fms := (C.env.locals, m) :: C.fms }
  have S' : Sat C' (fun y => binds.reverse.lookup y) N (hideAll h (hidOf C N h)).get? h₁ := S.enter (C' := C') rfl rfl (Nat.le_refl _) hns hk₁
  have A' : Amb C' k := amb_callee hC S rfl rfl rfl rfl rfl rfl rfl rfl rfl (Nat.le_refl _) hk rfl
  refine wpAny_mono ((body C' ⟨A', rfl, _, rfl, C.A, rfl, stack, rfl⟩).go _ h₁ (tk + binds.length) S') (fun fl s' hp => ?_) (fun _ _ z => z.elim)
  obtain ⟨h', tk', m', N', rfl, S₂, hp⟩ := hp
  exact ⟨h', tk', m, N', rfl, S.leave (C' := C') (fun p hp => hp) S₂, hQ _ _ hp⟩
end
end Mine

namespace Mine
open PySem PySem.Challenge

/-! rules for names, statements, plain expressions -/
structure FEnv (C : Cx) : Prop where
  kind : C.env.scope.kind = .function
  globals : C.env.globals = mainGlobals
  builtins : C.env.builtins = builtinsNs

section
variable {α β : Type} {C : Cx} {m m' : Fm} {N N' R : Hp} {h h' : Heap} {a : Addr} {o o' : Obj} {k : Nat}

theorem FEnv.notMod (e : FEnv C) : (C.env.scope.kind == .class || (C.env.scope.kind == .module && C.env.locals != C.env.globals)) = false := by rw [e.kind]; rfl
theorem FEnv.quiet (e : FEnv C) : interactive C.env = false := by unfold interactive; rw [e.kind]; rfl

/-! names -/
theorem r_name {x : Str} {p : Pos} {v : Value} {Q : Value → Fm → Hp → Prop} (e : FEnv C) (hx : C.env.kindOf x = some .local) (hv : m x = some v) (q : Q v m N) (hd : (x == ("__debug__" : Str)) = false := by decide) :
    Run C (eval (.Name x p) C.env) m N Q := r_of fun R h tk S => wpAny_Name (wpAny_loadName_local e.kind hx S.ns hv (Post.intro S q)) hd
theorem r_loadName {x : Str} {v : Value} {Q : Value → Fm → Hp → Prop} (e : FEnv C) (hx : C.env.kindOf x = some .local) (hv : m x = some v) (q : Q v m N) :
    Run C (loadName C.env x) m N Q := r_of fun R h tk S => wpAny_loadName_local e.kind hx S.ns hv (Post.intro S q)
theorem r_global {x : Str} {p : Pos} {v : Value} {Q : Value → Fm → Hp → Prop} (e : FEnv C) (hC : Amb C k) (hx : C.env.kindOf x = some .globalImplicit) (en : nsIn (K C.w.params) mainGlobals x = some (some v)) (q : Q v m N)
    (hd : (x == ("__debug__" : Str)) = false := by decide) : Run C (eval (.Name x p) C.env) m N Q := r_of fun R h tk S =>
  Name_function_global e.kind hx (loadGlobal_global (mg := C.mg) (by rw [e.globals]; exact hC.T.g.keeps S.F.keep) (mg_of hC.X hC.T.g en) (Post.intro S q)) hd
theorem r_builtin {x : Str} {p : Pos} {v : Value} {Q : Value → Fm → Hp → Prop} (e : FEnv C) (hC : Amb C k) (hx : C.env.kindOf x = some .globalImplicit) (en : nsIn (K C.w.params) mainGlobals x = some none) (hv : bootBuiltins x = some v) (hn : x ≠ "__name__") (q : Q v m N)
    (hd : (x == ("__debug__" : Str)) = false := by decide) : Run C (eval (.Name x p) C.env) m N Q := r_of fun R h tk S =>
  Name_function_global e.kind hx (loadGlobal_builtin (mg := C.mg) (mb := C.mb) (by rw [e.globals]; exact hC.T.g.keeps S.F.keep) (mg_none_of hC.X hC.T.g en) (by rw [e.builtins]; exact hC.T.b.keeps S.F.keep) ((hC.T.builtins x hn).trans hv) (Post.intro S q)) hd
theorem r_cell {x : Str} {p : Pos} {v : Value} {c : Addr} {Q : Value → Fm → Hp → Prop} (e : FEnv C) (hx : C.env.kindOf x = some .cell) (hc : C.env.cells.lookup x = some c) (ho : N c = some o) (hd' : o.data = .cell (some v)) (q : Q v m N)
    (hd : (x == ("__debug__" : Str)) = false := by decide) : Run C (eval (.Name x p) C.env) m N Q := r_of fun R h tk S =>
  wpAny_Name (wpAny_loadName_cell e.kind hx hc ⟨o, S.get ho, hd'⟩ (Post.intro S q)) hd

/-! stores of names -/
theorem r_store {x : Str} {v : Value} {Q : Unit → Fm → Hp → Prop} (e : FEnv C) (hx : C.env.kindOf x = some .local) (q : Q () (mset m x v) N) : Run C (storeName C.env x v) m N Q := r_of fun R h tk S =>
  wpAny_storeName_local hx S.ns (fun h' hn hs => Post.intro (S.local hn hs) q) e.notMod
theorem r_bindName {x : Str} {v : Value} {Q : Unit → Fm → Hp → Prop} (e : FEnv C) (hx : C.env.kindOf x = some .local) (q : Q () (mset m x v) N) : Run C (bindName C.env x v) m N Q := r_of fun R h tk S =>
  wpAny_bindName ((r_store e hx q).go R h tk S)

/-! constants -/
theorem r_int {i : Int} {k' : Nat} {p : Pos} {Q : Value → Fm → Hp → Prop} (q : ∀ t, Q (.int i t) m N) : Run C (eval (.Constant (.int i) k' p) C.env) m N Q := r_of fun R h tk S => wpAny_Constant_int (Post.intro (tk' := tk + 1) S (q tk))
theorem r_str {x : Str} {k' : Nat} {p : Pos} {Q : Value → Fm → Hp → Prop} (q : ∀ t, Q (.str x t) m N) : Run C (eval (.Constant (.str x) k' p) C.env) m N Q := r_of fun R h tk S => by
  rw [eval_Constant]
  exact wpAny_mkText (Post.intro (tk' := tk + 1) S (q tk))
theorem r_none {k' : Nat} {p : Pos} {Q : Value → Fm → Hp → Prop} (q : Q .none m N) : Run C (eval (.Constant .none k' p) C.env) m N Q := r_eq rfl (r_pure q)
theorem r_bool {b : Bool} {k' : Nat} {p : Pos} {Q : Value → Fm → Hp → Prop} (q : Q (.bool b) m N) : Run C (eval (.Constant (.bool b) k' p) C.env) m N Q := r_eq rfl (r_pure q)
theorem r_mkInt {i : Int} {Q : Value → Fm → Hp → Prop} (q : ∀ t, Q (.int i t) m N) : Run C (mkInt i) m N Q := r_of fun R h tk S => wpAny_mkInt (Post.intro (tk' := tk + 1) S (q tk))

/-! statements -/
theorem r_nil {Q : Flow → Fm → Hp → Prop} (q : Q .next m N) : Run C (execs [] C.env) m N Q := r_eq rfl (r_pure q)
/-- on to the rest -/
def Then (C : Cx) (rest : List Stmt) (Q : Flow → Fm → Hp → Prop) : Flow → Fm → Hp → Prop := fun f m N => match f with | .next => Run C (execs rest C.env) m N Q | f => Q f m N
theorem r_cons {st : Stmt} {rest : List Stmt} {Q : Flow → Fm → Hp → Prop} (q : Run C (exec st C.env) m N (Then C rest Q)) : Run C (execs (st :: rest) C.env) m N Q := by
  rw [arm_execs_cons]
  refine r_bind (r_mono q fun f m' N' r => ?_)
  cases f <;> first | exact r | exact r_pure r
theorem r_one {st : Stmt} {Q : Flow → Fm → Hp → Prop} (q : Run C (exec st C.env) m N Q) : Run C (execs [st] C.env) m N Q := by
  refine r_cons (r_mono q fun f m' N' r => ?_)
  cases f <;> first | exact r | exact r_nil r
theorem r_passS {p : Pos} {Q : Flow → Fm → Hp → Prop} (q : Q .next m N) : Run C (exec (.Pass p) C.env) m N Q := by rw [arm_exec_Pass]; exact r_at_bind (r_pure q)
theorem r_brkS {p : Pos} {Q : Flow → Fm → Hp → Prop} (q : Q .brk m N) : Run C (exec (.Break p) C.env) m N Q := by rw [arm_exec_Break]; exact r_at_bind (r_pure q)
theorem r_contS {p : Pos} {Q : Flow → Fm → Hp → Prop} (q : Q .cont m N) : Run C (exec (.Continue p) C.env) m N Q := by rw [arm_exec_Continue]; exact r_at_bind (r_pure q)
theorem r_ret {x : Expr} {p : Pos} {Q : Flow → Fm → Hp → Prop} (q : Run C (eval x C.env) m N fun v => Q (.ret v)) : Run C (exec (.Return (some x) p) C.env) m N Q := by
  rw [exec_Return_some]; exact r_at_bind (r_bind (r_mono q fun v m' N' r => r_pure r))
theorem r_retNone {p : Pos} {Q : Flow → Fm → Hp → Prop} (q : Q (.ret .none) m N) : Run C (exec (.Return none p) C.env) m N Q := by rw [exec_Return_none]; exact r_at_bind (r_pure q)
theorem r_ifS {test : Expr} {body orelse : List Stmt} {p : Pos} {Q : Flow → Fm → Hp → Prop} (q : Run C (isTrue test C.env (eval test C.env)) m N fun b m' N' => if b then Run C (execs body C.env) m' N' Q else Run C (execs orelse C.env) m' N' Q) :
    Run C (exec (.If test body orelse p) C.env) m N Q := by
  rw [exec_If]
  refine r_at_bind (r_bind (r_mono q fun b m' N' r => ?_))
  cases b <;> exact r
theorem r_assign {x : Str} {px p : Pos} {value : Expr} {Q : Flow → Fm → Hp → Prop} (e : FEnv C) (hx : C.env.kindOf x = some .local) (q : Run C (eval value C.env) m N fun v m' N' => Q .next (mset m' x v) N')
    (hs : swapsWith value (some (.Name x px)) p.line C.env = pure false := by rfl) : Run C (exec (.Assign [.Name x px] value p) C.env) m N Q := by
  rw [exec_Assign_Name _ _ _ _ _ hs]
  exact r_at_bind (r_bind (r_mono q fun v m' N' r => r_at_bind (r_bind (r_bindName e hx (r_pure r)))))
theorem r_aug {x : Str} {px p : Pos} {op : Operator} {value : Expr} {v₀ : Value} {Q : Flow → Fm → Hp → Prop} (e : FEnv C) (hx : C.env.kindOf x = some .local) (hv : m x = some v₀)
    (q : Run C (eval value C.env) m N fun v m' N' => Run C (inplaceOp op v₀ v) m' N' fun r m'' N'' => Q .next (mset m'' x r) N'') : Run C (exec (.AugAssign (.Name x px) op value p) C.env) m N Q := by
  rw [exec_AugAssign_Name]
  exact r_at_bind (r_bind (r_loadName e hx hv (r_bind (r_holding (r_mono q fun v m' N' r => r_at_bind (r_bind (r_operating (r_mono r fun w m'' N'' z => r_at_bind (r_bind (r_bindName e hx (r_pure z)))))))))))
theorem r_exprS {x : Expr} {p : Pos} {Q : Flow → Fm → Hp → Prop} (e : FEnv C) (q : Run C (eval x C.env) m N fun v m' N' => (∀ a, v ≠ .ref a) ∧ Q .next m' N') (hs : swapsWith x none p.line C.env = pure false := by rfl) :
    Run C (exec (.Expr x p) C.env) m N Q := by
  rw [PySem.exec_Expr _ _ _ e.quiet hs]
  refine r_at_bind (r_bind (r_mono q fun v m' N' r => ?_))
  rw [dropValue_plain r.1]
  exact r_pure r.2

/-! tests -/
theorem r_tPlain {x : Expr} {Q : Bool → Fm → Hp → Prop} (q : Run C (eval x C.env) m N fun v m' N' => Run C (truthy v) m' N' Q) (hs : ∀ (t : Sem Value), isTrue x C.env t = (do let v ← t; PySem.standAt x.pos; PySem.holding [v] (truthy v)) := by intro _; rfl) :
    Run C (isTrue x C.env (eval x C.env)) m N Q := by
  rw [hs]; exact r_bind (r_mono q fun v m' N' r => r_at_bind (r_holding r))
theorem r_tNot {x : Expr} {p : Pos} {w : Sem Value} {Q : Bool → Fm → Hp → Prop} (q : Run C (isTrue x C.env (eval x C.env)) m N fun b => Q (!b)) : Run C (isTrue (.UnaryOp .Not x p) C.env w) m N Q := by
  rw [arm_isTrue_UnaryOp]; exact r_bind (r_mono q fun b m' N' r => r_pure r)
theorem r_tAnd {x y : Expr} {p : Pos} {w : Sem Value} {Q : Bool → Fm → Hp → Prop} (q : Run C (isTrue x C.env (eval x C.env)) m N fun b m' N' => if b then Run C (isTrue y C.env (eval y C.env)) m' N' Q else Q false m' N') :
    Run C (isTrue (.BoolOp .And [x, y] p) C.env w) m N Q := by
  rw [arm_isTrue_BoolOp, arm_allTrue_cons]
  refine r_bind (r_mono q fun b m' N' r => ?_)
  cases b with
  | false => exact r_pure r
  | true =>
    dsimp only
    rw [arm_allTrue_cons]
    refine r_bind (r_mono r fun b m' N' r => ?_)
    cases b with
    | false => exact r_pure r
    | true => exact r_eq (arm_allTrue_nil _ _) (r_pure r)
theorem r_tOr {x y : Expr} {p : Pos} {w : Sem Value} {Q : Bool → Fm → Hp → Prop} (q : Run C (isTrue x C.env (eval x C.env)) m N fun b m' N' => if b then Q true m' N' else Run C (isTrue y C.env (eval y C.env)) m' N' Q) :
    Run C (isTrue (.BoolOp .Or [x, y] p) C.env w) m N Q := by
  rw [arm_isTrue_BoolOp, arm_allTrue_cons]
  refine r_bind (r_mono q fun b m' N' r => ?_)
  cases b with
  | true => exact r_pure r
  | false =>
    dsimp only
    rw [arm_allTrue_cons]
    refine r_bind (r_mono r fun b m' N' r => ?_)
    cases b with
    | true => exact r_pure r
    | false => exact r_eq (arm_allTrue_nil _ _) (r_pure r)
theorem r_tCmp {l r : Expr} {op : CmpOp} {p : Pos} {w : Sem Value} {Q : Bool → Fm → Hp → Prop}
    (q : Run C (eval l C.env) m N fun a m' N' => Run C (eval r C.env) m' N' fun b m' N' => Run C (compareOp op a b) m' N' fun c m' N' => Run C (truthy c) m' N' Q) (hm : behindInMarks op r = false := by with_unfolding_all rfl) :
    Run C (isTrue (.Compare l [op] [r] p) C.env w) m N Q := by
  rw [isTrue_Compare1, markedBehindIn_of_false hm]
  exact r_bind (r_mono q fun a m' N' r => r_bind (r_holding (r_mono r fun b m' N' r => r_at_bind (r_bind (r_operating (r_mono r fun c m' N' r => r_holding r))))))
theorem r_tBool {b : Bool} {Q : Bool → Fm → Hp → Prop} (q : Q b m N) : Run C (truthy (.bool b)) m N Q := r_of fun R h tk S => wpAny_truthy_bool (Post.intro S q)

/-! expressions -/
theorem r_cmp {l r : Expr} {op : CmpOp} {p : Pos} {Q : Value → Fm → Hp → Prop}
    (q : Run C (eval l C.env) m N fun a m' N' => Run C (eval r C.env) m' N' fun b m' N' => Run C (compareOp op a b) m' N' Q) (hm : behindInMarks op r = false := by with_unfolding_all rfl) :
    Run C (eval (.Compare l [op] [r] p) C.env) m N Q := by
  rw [eval_Compare1, markedBehindIn_of_false hm]
  exact r_bind (r_mono q fun a m' N' r => r_bind (r_holding (r_mono r fun b m' N' r => r_at_bind (r_operating r))))
theorem r_binop {l r : Expr} {op : Operator} {p : Pos} {Q : Value → Fm → Hp → Prop}
    (q : Run C (eval l C.env) m N fun a m' N' => Run C (eval r C.env) m' N' fun b m' N' => Run C (binaryOp op a b) m' N' Q) : Run C (eval (.BinOp l op r p) C.env) m N Q := by
  rw [eval_BinOp]
  exact r_bind (r_mono q fun a m' N' r => r_bind (r_holding (r_mono r fun b m' N' r => r_at_bind (r_operating r))))
theorem r_ifExp {t x y : Expr} {p : Pos} {Q : Value → Fm → Hp → Prop} (q : Run C (isTrue t C.env (eval t C.env)) m N fun b m' N' => if b then Run C (eval x C.env) m' N' Q else Run C (eval y C.env) m' N' Q) :
    Run C (eval (.IfExp t x y p) C.env) m N Q := by
  rw [arm_eval_IfExp]
  refine r_bind (r_mono q fun b m' N' r => ?_)
  cases b <;> exact r
theorem r_letGo {x : Expr} {o r : Value} {Q : Unit → Fm → Hp → Prop} (q : Q () m N) : Run C (letTemporaryGo x o r) m N Q := r_of fun R h tk S => wpAny_letTemporaryGo (Post.intro S q)
theorem r_attr {x : Expr} {n : Str} {p : Pos} {Q : Value → Fm → Hp → Prop} (q : Run C (eval x C.env) m N fun o m' N' => Run C (getAttr o n true) m' N' Q) (hb : attributeBase x n C.env (eval x C.env) = eval x C.env := by rfl) :
    Run C (eval (.Attribute x n p) C.env) m N Q := by
  rw [arm_eval_Attribute, hb]
  exact r_bind (r_mono q fun o m' N' r => r_at_bind (r_bind (r_holding (r_mono r fun v m' N' z => r_bind (r_letGo (r_pure z))))))

/-! displays, arguments -/
theorem r_splNil {Q : List Value → Fm → Hp → Prop} {p : Pos} (q : Q [] m N) : Run C (spliced (backTo p (starEach [] C.env))) m N Q := r_of fun R h tk S => Calls.spliced_nil (Post.intro S q)
theorem r_splCons {x : Expr} {rest : List Expr} {p : Pos} {Q : List Value → Fm → Hp → Prop} (q : Run C (eval x C.env) m N fun v m' N' => Run C (spliced (backTo p (starEach rest C.env))) m' N' fun vs => Q (v :: vs))
    (he : starEach (x :: rest) C.env = (false, eval x C.env) :: starEach rest C.env := by rfl) : Run C (spliced (backTo p (starEach (x :: rest) C.env))) m N Q := r_of fun R h tk S => by
  rw [he]
  refine Calls.spliced_cons (wpAny_mono (q.go R h tk S) (fun v s' hp => ?_) fun _ _ x => x)
  obtain ⟨h', tk', m', N', rfl, S', r⟩ := hp
  refine wpAny_mono (r.go R h' tk' S') (fun vs s' hp => ?_) fun _ _ x => x
  obtain ⟨h', tk', m', N', rfl, S', r⟩ := hp
  exact Post.intro S' r
theorem r_newList {vs : List Value} {Q : Value → Fm → Hp → Prop} (q : ∀ a, N a = Option.none → Q (.ref a) m (upd N a (lst vs 0))) (hz : vs.length ≤ sizeLine := by size_fits) : Run C (newList vs) m N Q := r_of fun R h tk S =>
  wpAny_newObj_type (Post.intro (S.push _).2 (q _ (S.push (lst vs 0)).1)) (by show vs.toArray.size ≤ sizeLine; rw [List.size_toArray]; exact hz)
theorem r_newTuple {vs : List Value} {Q : Value → Fm → Hp → Prop} (q : ∀ a, N a = Option.none → Q (.ref a) m (upd N a (tup vs 0))) (hz : vs.length ≤ sizeLine := by size_fits) : Run C (newTuple vs) m N Q := r_of fun R h tk S =>
  wpAny_newObj_type (Post.intro (S.push _).2 (q _ (S.push (tup vs 0)).1)) (by show vs.toArray.size ≤ sizeLine; rw [List.size_toArray]; exact hz)
theorem r_list {es : List Expr} {p : Pos} {Q : Value → Fm → Hp → Prop} (q : Run C (spliced (backTo p (starEach es C.env))) m N fun vs m' N' => Run C (PySem.newList vs) m' N' Q) : Run C (eval (.List es p) C.env) m N Q := by
  rw [arm_eval_List]; exact r_at_bind (r_bind q)
theorem r_tuple {es : List Expr} {k' : Nat} {p : Pos} {Q : Value → Fm → Hp → Prop} (q : Run C (spliced (backTo p (starEach es C.env))) m N fun vs m' N' => Run C (PySem.newTuple vs) m' N' Q) : Run C (eval (.Tuple es k' p) C.env) m N Q := by
  rw [arm_eval_Tuple]; exact r_at_bind (r_bind q)

/-! calls -/
/-- who keeps the arguments of f -/
def Keeps1 (C : Cx) (f : Value) (h : Heap) : Prop := ∃ k, (k = Keeper.frame ∨ k = Keeper.machine ∨ k = Keeper.boundFrame) ∧ Looks (model PR C.w) h (keeperOf f) k
theorem r_callWith {f : Value} {first : List Value} {es : List Expr} {p p' : Pos} {Q : Value → Fm → Hp → Prop} (hf : ∀ m N R h, Sat C m N R h → Keeps1 C f h)
    (q : Run C (spliced (backTo p (starEach es C.env))) m N fun vs m' N' => Run C (call f (first ++ vs)) m' N' Q)
    (he : (backTo p (starEach es C.env)).any (·.1) = false := by rfl) (hn : ∃ x rest, backTo p (starEach es C.env) = (false, x) :: rest := by exact ⟨_, _, rfl⟩) :
    Run C (callWith p' f first (backTo p (starEach es C.env)) []) m N Q := r_of fun R h tk S => by
  refine callWith_of (P := Keeps1 C f) (by rw [he]; rfl) (fun h k => k) ?_
  have k : wpAny (model PR C.w) C.A (spliced (backTo p (starEach es C.env))) (fun vs s₁ => Keeps1 C f s₁.heap ∧ wpAny (model PR C.w) C.A (call f (first ++ vs)) (Post C R Q) (fun _ _ => False) s₁) (fun _ _ => False) (C.at h tk) := by
    refine wpAny_mono (q.go R h tk S) (fun vs s' hp => ?_) fun _ _ x => x
    obtain ⟨h', tk', m', N', rfl, S', r⟩ := hp
    exact ⟨hf _ _ _ _ S', r.go R h' tk' S'⟩
  obtain ⟨x, rest, e⟩ := hn
  rw [e] at k ⊢
  exact evalArgs_plain k
theorem r_callWith0 {f : Value} {first : List Value} {p p' : Pos} {Q : Value → Fm → Hp → Prop} (hf : ∀ m N R h, Sat C m N R h → Keeps1 C f h)
    (q : Run C (call f first) m N Q) : Run C (callWith p' f first (backTo p (starEach [] C.env)) []) m N Q := r_of fun R h tk S =>
  callWith_of (P := Keeps1 C f) rfl (fun h k => k) (evalArgs_nil3 ⟨hf _ _ _ _ S, by rw [List.append_nil]; exact q.go R h tk S⟩)
end
end Mine

namespace Mine
open PySem PySem.Challenge

/-! the whole ledger, for the library's rules -/
theorem split_mem {α : Type} {x : Addr × α} : ∀ {l : List (Addr × α)}, (l.map (·.1)).Nodup → x ∈ l → ∃ pre post, l = pre ++ x :: post ∧ (∀ p ∈ pre, p.1 ≠ x.1) ∧ ∀ p ∈ post, p.1 ≠ x.1
  | y :: r, hn, hm => by
    rw [List.map_cons, List.nodup_cons] at hn
    rcases List.mem_cons.mp hm with rfl | hm
    · exact ⟨[], r, rfl, (fun _ h => nomatch h), fun p hp q => hn.1 (List.mem_map.mpr ⟨p, hp, q⟩)⟩
    · obtain ⟨pre, post, e, h1, h2⟩ := split_mem hn.2 hm
      refine ⟨y :: pre, post, by rw [e]; rfl, fun p hp => ?_, h2⟩
      rcases List.mem_cons.mp hp with hp | hp
      · exact fun q => hn.1 (List.mem_map.mpr ⟨x, hm, by rw [← hp]; exact q.symm⟩)
      · exact h1 p hp
def ledOf (C : Cx) (N R : Hp) (h : Heap) : List (Addr × Obj) := (List.range h.objs.size).filterMap fun a => match (N a).or (R a) with
  | some o => if (C.h₀.get? a).isSome then none else some (a, o)
  | none => none
section
variable {C : Cx} {m m' : Fm} {N R : Hp} {h h' : Heap} {a d : Addr} {o o' od : Obj}
theorem led_nodup : ((ledOf C N R h).map (·.1)).Nodup := by
  have : ∀ l : List Nat, l.Nodup → ((l.filterMap fun a => match (N a).or (R a) with
    | some o => if (C.h₀.get? a).isSome then none else some (a, o)
    | none => none).map (·.1)).Nodup ∧ ∀ b ∈ ((l.filterMap fun a => match (N a).or (R a) with
    | some o => if (C.h₀.get? a).isSome then none else some (a, o)
    | none => none).map (·.1)), b ∈ l := by
    intro l
    induction l with
    | nil => intro _; exact ⟨.nil, fun b hb => nomatch hb⟩
    | cons x r ih =>
      intro hn
      obtain ⟨i1, i2⟩ := ih (List.nodup_cons.mp hn).2
      rw [List.filterMap_cons]
      cases e : (N x).or (R x) with
      | none => dsimp only; exact ⟨i1, fun b hb => .tail _ (i2 b hb)⟩
      | some o =>
        dsimp only
        cases e2 : (C.h₀.get? x).isSome with
        | true => simp only [if_true]; exact ⟨i1, fun b hb => .tail _ (i2 b hb)⟩
        | false =>
          simp only [Bool.false_eq_true, if_false]
          rw [List.map_cons]
          refine ⟨List.nodup_cons.mpr ⟨fun q => (List.nodup_cons.mp hn).1 (i2 _ q), i1⟩, fun b hb => ?_⟩
          rcases List.mem_cons.mp hb with rfl | hb
          · exact .head _
          · exact .tail _ (i2 b hb)
  exact (this _ List.nodup_range).1
/-- the rest, with the frames as they stand -/
def RF (C : Cx) (R : Hp) (h : Heap) : Hp := fun a => if C.fms.any (fun p => p.1 == a) then h.get? a else R a
theorem rf_frame (hp : ∃ p ∈ C.fms, p.1 = a) : RF C R h a = h.get? a := by
  obtain ⟨p, hp, e⟩ := hp
  unfold RF
  rw [if_pos (List.any_eq_true.mpr ⟨p, hp, by rw [e]; exact beq_self_eq_true _⟩)]
theorem rf_rest (S : Sat C m N R h) (e : R a = some o) : RF C R h a = some o := by
  unfold RF
  rw [if_neg fun q => ?_]
  · exact e
  · obtain ⟨p, hp, z⟩ := List.any_eq_true.mp q
    have := (S.frs p hp).2.2.2
    rw [beq_iff_eq.mp z, e] at this; cases this
theorem rf_inv (S : Sat C m N R h) (e : RF C R h a = some o) : h.get? a = some o ∧ a ≠ C.env.locals ∧ N a = none ∧ (R a = some o ∨ ∃ p ∈ C.fms, p.1 = a) := by
  unfold RF at e
  split at e
  · rename_i q
    obtain ⟨p, hp, z⟩ := List.any_eq_true.mp q
    have z := beq_iff_eq.mp z
    have f := S.frs p hp
    rw [z] at f
    exact ⟨e, f.2.1, f.2.2.1, .inr ⟨p, hp, z⟩⟩
  · refine ⟨(S.fr a o e).1, (S.fr a o e).2, ?_, .inl e⟩
    cases z : N a with
    | none => rfl
    | some o' => have := (S.own a o' z).2.2; rw [e] at this; cases this
abbrev ledF (C : Cx) (N R : Hp) (h : Heap) : List (Addr × Obj) := ledOf C N (RF C R h) h
theorem led_mem (S : Sat C m N R h) : (a, o) ∈ ledF C N R h ↔ (N a = some o ∨ RF C R h a = some o) ∧ C.h₀.get? a = none := by
  unfold ledF ledOf
  rw [List.mem_filterMap]
  constructor
  · rintro ⟨b, hb, e⟩
    cases e1 : (N b).or (RF C R h b) with
    | none => rw [e1] at e; cases e
    | some x =>
      rw [e1] at e
      dsimp only at e
      cases e2 : C.h₀.get? b with
      | some y => rw [e2] at e; cases e
      | none =>
        rw [e2] at e
        cases e
        refine ⟨?_, e2⟩
        cases e3 : N a with
        | some y => rw [e3] at e1; exact .inl e1
        | none => rw [e3] at e1; exact .inr e1
  · rintro ⟨e, e2⟩
    have hlt : a < h.objs.size := e.elim (fun e => S.lt e) fun e => Heap.lt_size (rf_inv S e).1
    refine ⟨a, List.mem_range.mpr hlt, ?_⟩
    have e1 : (N a).or (RF C R h a) = some o := by
      rcases e with e | e
      · rw [e]; rfl
      · rw [(rf_inv S e).2.2.1, e]; rfl
    rw [e1, e2]
    rfl
theorem led_news (S : Sat C m N R h) : News C.h₀ C.env.locals h (ledF C N R h) := fun p hp => by
  obtain ⟨e, e2⟩ := (led_mem S).mp hp
  rcases e with e | e
  · exact ⟨(S.own _ _ e).1, (S.own _ _ e).2.1, e2⟩
  · exact ⟨(rf_inv S e).1, (rf_inv S e).2.1, e2⟩
theorem Sat.nobase (S : Sat C m N R h) (e : N a = some o) : C.h₀.get? a = none := by
  cases z : C.h₀.get? a with
  | none => rfl
  | some y => have := (S.own a o e).2.2; rw [S.base a y z] at this; cases this
theorem Sat.nobaseF (S : Sat C m N R h) {p : Addr × Fm} (hp : p ∈ C.fms) : C.h₀.get? p.1 = none := by
  cases z : C.h₀.get? p.1 with
  | none => rfl
  | some y => have := (S.frs p hp).2.2.2; rw [S.base _ y z] at this; cases this
theorem led_frame (S : Sat C m N R h) {p : Addr × Fm} (hp : p ∈ C.fms) : ∃ o, h.get? p.1 = some o ∧ (p.1, o) ∈ ledF C N R h := by
  obtain ⟨o, ho, _⟩ := Ns.there (S.frs p hp).1
  exact ⟨o, ho, (led_mem S).mpr ⟨.inr ((rf_frame ⟨p, hp, rfl⟩).trans ho), S.nobaseF hp⟩⟩
/-- a cell anew -/
theorem Sat.fresh_of (S : Sat C m N R h) (ha : h.objs.size ≤ a) (F : Fr C.h₀ C.env.locals h' m') (U : News C.h₀ C.env.locals h' ((a, o) :: ledF C N R h)) : N a = none ∧ Sat C m' (upd N a o) R h' := by
  have na : N a = none := by
    cases e : N a with
    | none => rfl
    | some o => exact absurd (S.lt e) (Nat.not_lt.mpr ha)
  have ra : R a = none := by
    cases e : R a with
    | none => rfl
    | some o => exact absurd (Heap.lt_size (S.fr a o e).1) (Nat.not_lt.mpr ha)
  refine ⟨na, F.ns, fun b ob e => ?_, fun b ob e => ?_, S.base, S.above, S.big, fun b ob e => ?_, fun p hp => ?_⟩
  · by_cases q : b = a
    · subst q
      rw [upd_self] at e
      cases e
      have := U _ (.head _)
      exact ⟨this.1, this.2.1, ra⟩
    · rw [upd_ne q] at e
      have := U _ (.tail _ ((led_mem S).mpr ⟨.inl e, S.nobase e⟩))
      exact ⟨this.1, this.2.1, (S.own b ob e).2.2⟩
  · cases z : C.h₀.get? b with
    | some y => have := S.base b y z; rw [e] at this; cases this; exact ⟨F.keep _ _ z, (S.fr b ob e).2⟩
    | none =>
      have := U _ (.tail _ ((led_mem S).mpr ⟨.inr (rf_rest S e), z⟩))
      exact ⟨this.1, this.2.1⟩
  · by_cases q : b = a
    · have := S.high
      rw [q]
      exact beq_eq_false_iff_ne.mpr fun e => by rw [e] at ha; exact absurd this (Nat.not_lt.mpr ha)
    · rw [upd_ne q] at e; exact S.sm b ob e
  · obtain ⟨of, hof, hm⟩ := led_frame S hp
    obtain ⟨f1, f2, f3, f4⟩ := S.frs p hp
    have q : p.1 ≠ a := fun q => by have := Ns.lt f1; rw [q] at this; exact absurd this (Nat.not_lt.mpr ha)
    exact ⟨f1.at' fun o e => by rw [hof] at e; cases e; exact (U _ (.tail _ hm)).1, f2, by rw [upd_ne q]; exact f3, f4⟩
/-- a cell changed -/
theorem Sat.ledger (S : Sat C m N R h) (hd : N d = some od) : ∃ pre post, News C.h₀ C.env.locals h (pre ++ (d, od) :: post) ∧ (∀ p ∈ pre, p.1 ≠ d) ∧ (∀ p ∈ post, p.1 ≠ d) ∧
    ∀ h' m' od', Fr C.h₀ C.env.locals h' m' → News C.h₀ C.env.locals h' (pre ++ (d, od') :: post) → Sat C m' (upd N d od') R h' := by
  obtain ⟨pre, post, e, h1, h2⟩ := split_mem led_nodup ((led_mem S).mpr ⟨.inl hd, S.nobase hd⟩)
  refine ⟨pre, post, e ▸ led_news S, h1, h2, fun h' m' od' F U => ?_⟩
  have there : ∀ b ob, b ≠ d → (b, ob) ∈ ledF C N R h → (b, ob) ∈ pre ++ (d, od') :: post := fun b ob q hb => by
    rw [show ledF C N R h = _ from e] at hb
    rcases List.mem_append.mp hb with hb | hb
    · exact List.mem_append_left _ hb
    · rcases List.mem_cons.mp hb with hb | hb
      · exact absurd (congrArg Prod.fst hb) q
      · exact List.mem_append_right _ (.tail _ hb)
  refine ⟨F.ns, fun b ob e => ?_, fun b ob e => ?_, S.base, S.above, S.big, fun b ob e => ?_, fun p hp => ?_⟩
  · by_cases q : b = d
    · subst q
      rw [upd_self] at e
      cases e
      have := U _ (List.mem_append_right _ (.head _))
      exact ⟨this.1, this.2.1, (S.own _ _ hd).2.2⟩
    · rw [upd_ne q] at e
      have := U _ (there b ob q ((led_mem S).mpr ⟨.inl e, S.nobase e⟩))
      exact ⟨this.1, this.2.1, (S.own b ob e).2.2⟩
  · cases z : C.h₀.get? b with
    | some y => have := S.base b y z; rw [e] at this; cases this; exact ⟨F.keep _ _ z, (S.fr b ob e).2⟩
    | none =>
      have q : b ≠ d := fun q => by have := (S.own _ _ hd).2.2; rw [← q, e] at this; cases this
      have := U _ (there b ob q ((led_mem S).mpr ⟨.inr (rf_rest S e), z⟩))
      exact ⟨this.1, this.2.1⟩
  · by_cases q : b = d
    · rw [q]; exact S.sm d od hd
    · rw [upd_ne q] at e; exact S.sm b ob e
  · obtain ⟨of, hof, hm⟩ := led_frame S hp
    obtain ⟨f1, f2, f3, f4⟩ := S.frs p hp
    have q : p.1 ≠ d := fun q => by rw [q, hd] at f3; cases f3
    exact ⟨f1.at' fun o e => by rw [hof] at e; cases e; exact (U _ (there _ _ q hm)).1, f2, by rw [upd_ne q]; exact f3, f4⟩
end

/-! truth -/
section
variable {C : Cx} {m m' : Fm} {N N' R : Hp} {h h' : Heap} {a l d x : Addr} {o o' : Obj} {k n : Nat} {vs : List Value}
theorem Sat.isList (S : Sat C m N R h) (e : N l = some (lst vs n)) : h.IsList l vs.toArray := ⟨_, S.get e, rfl, _, rfl⟩
theorem Sat.isTup (S : Sat C m N R h) (e : N l = some (tup vs n)) : IsTup h l vs.toArray := ⟨_, S.get e, rfl, _, rfl⟩
theorem r_truthList {Q : Bool → Fm → Hp → Prop} (e : N l = some (lst vs n)) (hz : vs.length ≤ 1000000) (q : Q (!vs.isEmpty) m N) : Run C (truthy (.ref l)) m N Q := r_of fun R h tk S =>
  wpAny_truthy_list (S.isList e) (by rw [List.size_toArray]; omega) (Post.intro (tk' := tk + 1 + 1) S (by rw [List.isEmpty_toArray]; exact q))
theorem r_truthTup {Q : Bool → Fm → Hp → Prop} (e : N l = some (tup vs n)) (hz : vs.length ≤ 1000000) (q : Q (!vs.isEmpty) m N) : Run C (truthy (.ref l)) m N Q := r_of fun R h tk S =>
  truthy_tuple (S.isTup e) (by rw [List.size_toArray]; omega) (Post.intro (tk' := tk + 1 + 1) S (by rw [List.isEmpty_toArray]; exact q))
theorem r_truthInt {i : Int} {t : Tok} {Q : Bool → Fm → Hp → Prop} (q : Q (i != 0) m N) : Run C (truthy (.int i t)) m N Q := r_of fun R h tk S => PyProof.Rows.truthy_int (Post.intro S q)
theorem r_truthStr {y : Str} {t : Tok} {Q : Bool → Fm → Hp → Prop} (hz : y.length ≤ 1000000) (q : Q ((y.length : Int) != 0) m N) : Run C (truthy (.str y t)) m N Q := r_of fun R h tk S =>
  PySem.P.truthy_str (by omega) (Post.intro (tk' := tk + 1 + 1) S q)
theorem r_truthNone {Q : Bool → Fm → Hp → Prop} (q : Q false m N) : Run C (truthy .none) m N Q := r_of fun R h tk S => truthy_none (Post.intro S q)

/-! dicts by strs -/
abbrev IsD (w : World) (o : Obj) (kvs : List (Str × Value)) : Prop := o.IsDictOf (strKind PR w) kvs
theorem Sat.dictOf (S : Sat C m N R h) {kvs : List (Str × Value)} (e : N d = some o) (hd : IsD C.w o kvs) : h.DictOf (strKind PR C.w) d kvs := Heap.dictOf_iff.mpr ⟨o, S.get e, hd⟩
theorem r_truthDict {kvs : List (Str × Value)} {Q : Bool → Fm → Hp → Prop} (e : N d = some o) (hd : IsD C.w o kvs) (hz : kvs.length ≤ 1000000) (q : Q (!kvs.isEmpty) m N) : Run C (truthy (.ref d)) m N Q := r_of fun R h tk S =>
  wpAny_truthy_dict (S.sm d o e) (S.dictOf e hd) (by omega) (Post.intro (tk' := tk + 1 + 1) S q)
theorem r_dictIn {kvs : List (Str × Value)} {y : Str} {t : Tok} {Q : Value → Fm → Hp → Prop} (e : N d = some o) (hd : IsD C.w o kvs) (q : Q (.bool (valueAt kvs y).isSome) m N) : Run C (compareOp .In (.str y t) (.ref d)) m N Q := r_of fun R h tk S =>
  wpAny_in_of (strKind_is PR C.w y t) (S.sm d o e) (S.dictOf e hd).mapOf (Post.intro (tk' := tk + 1) S q)
theorem r_dictNotIn {kvs : List (Str × Value)} {y : Str} {t : Tok} {Q : Value → Fm → Hp → Prop} (e : N d = some o) (hd : IsD C.w o kvs) (q : Q (.bool (!(valueAt kvs y).isSome)) m N) : Run C (compareOp .NotIn (.str y t) (.ref d)) m N Q := r_of fun R h tk S =>
  wpAny_notIn_of (strKind_is PR C.w y t) (S.sm d o e) (S.dictOf e hd).mapOf (Post.intro (tk' := tk + 1) S q)
theorem r_dictGet {kvs : List (Str × Value)} {y : Str} {t : Tok} {v : Value} {Q : Value → Fm → Hp → Prop} (e : N d = some o) (hd : IsD C.w o kvs) (hv : valueAt kvs y = some v) (q : Q v m N) : Run C (getItem (.ref d) (.str y t)) m N Q := r_of fun R h tk S =>
  wpAny_getItem_of (strKind_is PR C.w y t) (S.dictOf e hd).mapOf hv (Post.intro (tk' := tk + 1) S q)
theorem r_dictSet {kvs : List (Str × Value)} {y : Str} {t : Tok} {v : Value} {Q : Unit → Fm → Hp → Prop} (e : N d = some o) (hd : IsD C.w o kvs) (hz : kvs.length ≤ 1000000) (q : ∀ o', IsD C.w o' (stored kvs y v) → Q () m (upd N d o')) :
    Run C (setItem (.ref d) (.str y t) v) m N Q := r_of fun R h tk S =>
  wpAny_setItem_pairs (hsz := by rw [sizeLine_eq]; omega) (strKind_is PR C.w y t) (S.dictOf e hd) fun h' hm hs => by
    obtain ⟨o', ho', hd'⟩ := Heap.dictOf_iff.mp hm
    exact Post.intro (tk' := tk + 1) (S.write e hs ho') (q o' hd')

/-! lists -/
theorem r_listGet {i : Nat} {j : Int} {t : Tok} {v : Value} {Q : Value → Fm → Hp → Prop} (e : N l = some (lst vs n)) (hj : j = (i : Int)) (hv : vs[i]? = some v) (hz : i < 1000000) (q : Q v m N) : Run C (getItem (.ref l) (.int j t)) m N Q := r_of fun R h tk S => by
  subst hj
  exact wpAny_getItem_list (S.isList e) (by omega) (by omega) (by simpa using hv) (Post.intro S q)
theorem r_append {v : Value} {Q : Value → Fm → Hp → Prop} (e : N l = some (lst vs n)) (hz : vs.length ≤ 1000000) (q : ∀ n', Q .none m (upd N l (lst (vs ++ [v]) n'))) : Run C (call (.builtin "list.append") [.ref l, v]) m N Q := r_of fun R h tk S =>
  wpAny_list_append_plain (hsz := by rw [List.size_toArray, sizeLine_eq]; omega) ⟨n, S.get e⟩ fun h' hp hs => by
    obtain ⟨n', hp⟩ := hp
    refine Post.intro (S.write e hs hp) ?_
    have := q n'
    rwa [show lst (vs ++ [v]) n' = ({ cls := .type "list", data := .seq (vs.toArray.push v) n' } : Obj) by simp [W.listOf]] at this
theorem r_pop0 {v : Value} {t : Tok} {Q : Value → Fm → Hp → Prop} (e : N l = some (lst (v :: vs) n)) (hz : vs.length ≤ 1000000) (q : ∀ n', Q v m (upd N l (lst vs n'))) : Run C (call (.builtin "list.pop") [.ref l, .int 0 t]) m N Q := r_of fun R h tk S => by
  have hs1 : (v :: vs).toArray.size ≤ sizeLine := by rw [List.size_toArray, sizeLine_eq, List.length_cons]; omega
  refine call_meets PySem.F.slot_list_pop ⟨_, S.get e, rfl⟩ PySem.F.entry_list_pop (PySem.F.args_list_pop_2 _ _) (PySem.MeetsSeq.list_pop_at l (v :: vs).toArray n 0 t 0 v (by rfl) (by
    unfold seqIndex?
    simp) (by simp) hs1) ⟨S.get e, ?_⟩
  have hu := PySem.IsL.update (S.get e) (fun xs => xs.eraseIdxIfInBounds 0)
  have he : ((v :: vs).toArray.eraseIdxIfInBounds 0) = vs.toArray := by
    have := kl_erase [] vs v
    exact this
  rw [he] at hu
  exact Post.intro (S.write e (Heap.SameBut.update ..) hu) (q _)
theorem r_inStrs {ys : List Str} {y : Str} {t : Tok} {Q : Value → Fm → Hp → Prop} (e : N l = some (lst vs n)) (hs : StrsAre vs ys) (q : Q (.bool (ys.any (· == y))) m N) : Run C (compareOp .In (.str y t) (.ref l)) m N Q := r_of fun R h tk S => in_list_strs (S.isList e) hs (Post.intro S q)
theorem r_notInStrs {ys : List Str} {y : Str} {t : Tok} {Q : Value → Fm → Hp → Prop} (e : N l = some (lst vs n)) (hs : StrsAre vs ys) (q : Q (.bool (!ys.any (· == y))) m N) : Run C (compareOp .NotIn (.str y t) (.ref l)) m N Q := r_of fun R h tk S => notin_list_strs (S.isList e) hs (Post.intro S q)
theorem r_lenList {Q : Value → Fm → Hp → Prop} (e : N l = some (lst vs n)) (hz : vs.length ≤ 1000000) (q : ∀ t, Q (.int vs.length t) m N) : Run C (call (.builtin "len") [.ref l]) m N Q := r_of fun R h tk S =>
  call_len_list (S.isList e) (by rw [List.size_toArray]; omega) (Post.intro (tk' := tk + 1 + 1) S (by have := q (tk + 1); rwa [show ((vs.toArray.size : Int)) = (vs.length : Int) by rw [List.size_toArray]] ))
theorem r_lenTup {Q : Value → Fm → Hp → Prop} (e : N l = some (tup vs n)) (hz : vs.length ≤ 1000000) (q : ∀ t, Q (.int vs.length t) m N) : Run C (call (.builtin "len") [.ref l]) m N Q := r_of fun R h tk S =>
  len_tuple (S.isTup e) (by rw [List.size_toArray]; omega) (Post.intro (tk' := tk + 1 + 1) S (by have := q (tk + 1); rwa [show ((vs.toArray.size : Int)) = (vs.length : Int) by rw [List.size_toArray]] ))
theorem r_tupleOfList {Q : Value → Fm → Hp → Prop} (e : N l = some (lst vs n)) (hz : vs.length ≤ 1000000) (q : ∀ a, N a = none → Q (.ref a) m (upd N a (tup vs 0))) : Run C (call (.type "tuple") [.ref l]) m N Q := r_of fun R h tk S =>
  call_tuple_list (hsz := by rw [List.size_toArray, sizeLine_eq]; omega) (S.isList e) fun h' hk => by
    have S' := S.grow hk
    exact Post.intro (S'.push _).2 (q _ (S'.push (tup vs 0)).1)
theorem r_listAdd {l' : Addr} {vs' : List Value} {n' : Nat} {Q : Value → Fm → Hp → Prop} (e : N l = some (lst vs n)) (e' : N l' = some (lst vs' n')) (hz : vs.length + vs'.length ≤ 1000000) (q : ∀ a, N a = none → Q (.ref a) m (upd N a (lst (vs ++ vs') 0))) :
    Run C (binaryOp .Add (.ref l) (.ref l')) m N Q := r_of fun R h tk S =>
  add_arrays (hsz := by rw [List.size_toArray, List.size_toArray, sizeLine_eq]; omega) S.F (led_news S) (S.isList e) (S.isList e') fun h' F U => by
    obtain ⟨na, S'⟩ := S.fresh_of (Nat.le_refl _) F U
    exact Post.intro S' (q _ na)

/-! ints -/
theorem r_addInt {i j : Int} {t u : Tok} {Q : Value → Fm → Hp → Prop} (q : ∀ t, Q (.int (i + j) t) m N) : Run C (binaryOp .Add (.int i t) (.int j u)) m N Q := r_of fun R h tk S => add_int (Post.intro (tk' := tk + 1) S (q _))
theorem r_subInt {i j : Int} {t u : Tok} {Q : Value → Fm → Hp → Prop} (q : ∀ t, Q (.int (i - j) t) m N) : Run C (binaryOp .Sub (.int i t) (.int j u)) m N Q := r_of fun R h tk S => sub_int (Post.intro (tk' := tk + 1) S (q _))
theorem r_modInt {i j : Int} {t u : Tok} {Q : Value → Fm → Hp → Prop} (hj : j ≠ 0) (q : ∀ t, Q (.int (i.fmod j) t) m N) : Run C (binaryOp .Mod (.int i t) (.int j u)) m N Q := r_of fun R h tk S => mod_int' hj (Post.intro (tk' := tk + 1) S (q _))
theorem r_andInt {i j : Int} {t u : Tok} {Q : Value → Fm → Hp → Prop} (q : ∀ t, Q (.int (Builtin.bitAnd i j) t) m N) : Run C (binaryOp .BitAnd (.int i t) (.int j u)) m N Q := r_of fun R h tk S => and_int (Post.intro (tk' := tk + 1) S (q _))
theorem r_orInt {i j : Int} {t u : Tok} {Q : Value → Fm → Hp → Prop} (q : ∀ t, Q (.int (Builtin.bitOr i j) t) m N) : Run C (binaryOp .BitOr (.int i t) (.int j u)) m N Q := r_of fun R h tk S => or_int (Post.intro (tk' := tk + 1) S (q _))
theorem r_shlInt {i j : Int} {t u : Tok} {Q : Value → Fm → Hp → Prop} (h0 : 0 ≤ j) (h1 : j ≤ 1000) (h2 : i.natAbs < 2 ^ 64) (q : ∀ t, Q (.int (i * 2 ^ j.toNat) t) m N) : Run C (binaryOp .LShift (.int i t) (.int j u)) m N Q := r_of fun R h tk S => lshift_int_small h0 (by omega) h2 (Post.intro (tk' := tk + 1) S (q _))
theorem r_eqInt {i j : Int} {t u : Tok} {Q : Value → Fm → Hp → Prop} (q : Q (.bool (i == j)) m N) : Run C (compareOp .Eq (.int i t) (.int j u)) m N Q := r_of fun R h tk S => eq_int (Post.intro S q)
theorem r_eqStr {i j : Str} {t u : Tok} {Q : Value → Fm → Hp → Prop} (q : Q (.bool (i == j)) m N) : Run C (compareOp .Eq (.str i t) (.str j u)) m N Q := r_of fun R h tk S => eq_str (Post.intro S q)
end
end Mine

namespace Mine
open PySem PySem.Challenge

/-! loops -/
def tupled : List String := ["enumerate", "zip", "dict_itemiterator", "dict_reverseitemiterator", "odict_iterator", "itertools.zip_longest", "itertools.pairwise"]
section
variable {C : Cx} {m m' : Fm} {N N' R : Hp} {h h' : Heap} {a l d x : Addr} {o o' : Obj} {k n : Nat} {vs : List Value} {P : Nat → Value → Prop} {src : List Addr}

/-- what pyIter makes of a value: n items, the i-th is P i; src are the cells that it looks at -/
def Itb (C : Cx) (N : Hp) (xv : Value) (n : Nat) (P : Nat → Value → Prop) (src : List Addr) : Prop :=
  ∀ m R h tk (Q : Value → Shared → Prop), Sat C m N R h → (∀ oI icls St, (∀ A' : Around, A'.handled = none → Walks PR C.w A' h.objs.size (h.objs.size :: src) [h.objs.size] n P St) → St 0 (h.push oI) → oI.isFreed = false →
    (∀ i h', St i h' → ∃ o, h'.get? h.objs.size = some o ∧ o.cls = .type icls) → tupled.contains icls = false → Q (.ref h.objs.size) (C.at (h.push oI) tk)) →
    wpAny (model PR C.w) C.A (pyIter xv) Q (fun _ _ => False) (C.at h tk)

theorem itb_list (e : N l = some (lst vs n)) : Itb C N (.ref l) vs.length (fun i v => vs[i]? = some v) [l] := fun m R h tk Q S hQ => by
  refine wpAny_pyIter_list (S.isList e) (hQ _ "list_iterator" (fun i h' => h'.IsListIter h.objs.size l i ∧ h'.IsList l vs.toArray) (fun A' hA => ?_) ⟨⟨_, Heap.get?_push_size _ rfl, rfl, rfl⟩, ⟨_, Heap.get?_push_of_some _ (S.get e), rfl, _, rfl⟩⟩ rfl (fun i h' st => ?_) (by decide))
  · have W := Walks.list (prog := PR) (w := C.w) hA h.objs.size l (Nat.ne_of_lt (S.lt e)) vs.toArray
    simpa using W
  · obtain ⟨⟨o, ho, hc, _⟩, _⟩ := st
    exact ⟨o, ho, hc⟩
theorem itb_tuple (e : N l = some (tup vs n)) : Itb C N (.ref l) vs.length (fun i v => vs[i]? = some v) [l] := fun m R h tk Q S hQ => by
  have ht : h.IsTuple l vs.toArray := ⟨_, S.get e, rfl, _, rfl⟩
  refine wpAny_pyIter_tuple ht (hQ _ "tuple_iterator" (fun i h' => h'.IsTupleIter h.objs.size l i ∧ h'.IsTuple l vs.toArray) (fun A' hA => ?_) ⟨⟨_, Heap.get?_push_size _ rfl, rfl, rfl⟩, ⟨_, Heap.get?_push_of_some _ (S.get e), rfl, _, rfl⟩⟩ rfl (fun i h' st => ?_) (by decide))
  · have W := Walks.tuple (prog := PR) (w := C.w) hA h.objs.size l (Nat.ne_of_lt (S.lt e)) vs.toArray
    simpa using W
  · obtain ⟨⟨o, ho, hc, _⟩, _⟩ := st
    exact ⟨o, ho, hc⟩
theorem itb_dict {kvs : List (Str × Value)} (e : N d = some o) (hd : IsD C.w o kvs) : Itb C N (.ref d) kvs.length (fun i v => ∃ y u, (∃ t, v = .str y t) ∧ kvs[i]? = some (y, u)) [d] := fun m R h tk Q S hQ => by
  obtain ⟨ep, hat⟩ := (S.dictOf e hd).dictAt
  refine wpAny_pyIter_dict (S.sm d o e) hat (hQ _ "dict_keyiterator" (fun i h' => h'.IsKeyIter h.objs.size d i kvs.length ep ∧ h'.DictAt (strKind PR C.w) d kvs ep) (fun A' hA => ?_) ⟨⟨_, Heap.get?_push_size _ rfl, rfl, rfl⟩, hat.push _⟩ rfl (fun i h' st => ?_) (by decide))
  · have W := Walks.dictKeys (prog := PR) (w := C.w) (knd := strKind PR C.w) hA h.objs.size d (Nat.ne_of_lt (S.lt e)) kvs ep
    refine ⟨W.sub, W.frame, fun i s Q E hi st hq => W.item i s Q E hi st fun v h' tk hp => hq v h' tk ?_, W.done, W.self⟩
    obtain ⟨y, u, hk, hs⟩ := hp
    exact ⟨y, u, Value.isStrOf_shape hs, hk⟩
  · obtain ⟨⟨o, ho, hc, _⟩, _⟩ := st
    exact ⟨o, ho, hc⟩

theorem letOwned_wp {target : Expr} {I : Addr} {v : Value} {s : Shared} {A : Around} {Q : Unit → Shared → Prop} {E : Value → Shared → Prop} {icls : String} (ho : s.heap.get? I = some o) (hc : o.cls = .type icls) (hn : tupled.contains icls = false) (q : Q () s) :
    wpAny (model PR C.w) A (letOwnedTupleGo target (.ref I) v) Q E s := by
  have body : wpAny (model PR C.w) A (do
      let (.ref r, .ref a) := (Value.ref I, v) | return
      let o ← load r
      match o.cls, o.data with
      | .type n, .fields vs =>
        if ["enumerate", "zip", "dict_itemiterator", "dict_reverseitemiterator", "odict_iterator", "itertools.zip_longest", "itertools.pairwise"].contains n && vs[0]? == some (rawInt a) then
          rule "for.unpacks-the-owned-tuple"
          updateField r 0 .none
      | _, _ => pure ()) Q E s := by
    cases v with
    | ref a =>
      refine wpAny_bind (wpAny_load ho ?_)
      rw [hc]
      cases o.data with
      | fields vs =>
        dsimp only
        have hn' : (["enumerate", "zip", "dict_itemiterator", "dict_reverseitemiterator", "odict_iterator", "itertools.zip_longest", "itertools.pairwise"].contains icls) = false := hn
        rw [hn']
        exact wpAny_pure q
      | _ => exact wpAny_pure q
    | _ => exact wpAny_pure q
  unfold letOwnedTupleGo
  split
  · exact body
  · exact body
  · exact wpAny_pure q

def TurnQ (Q : Flow → Fm → Hp → Prop) (J : Fm → Hp → Prop) : Flow → Fm → Hp → Prop := fun fl m N => match fl with
  | .ret v => Q (.ret v) m N
  | .brk => Q .next m N
  | _ => J m N

/-- the sum of a for -/
def ForOver (C : Cx) (xv : Value) (target : Expr) (body orelse : List Stmt) (m : Fm) (N : Hp) (Q : Flow → Fm → Hp → Prop) : Prop :=
  ∃ n P src, Itb C N xv n P src ∧ ∃ J : Nat → Fm → Hp → Prop, J 0 m N ∧ (∀ b ∈ src, ∃ o, ∀ i m N, J i m N → N b = some o) ∧
    (∀ i v m N, i < n → P i v → J i m N → Run C (assign target C.env v) m N fun _ m' N' => Run C (execs body C.env) m' N' (TurnQ Q (J (i + 1)))) ∧
    ∀ m N, J n m N → Run C (execs orelse C.env) m N Q

theorem r_for {target iter : Expr} {body orelse : List Stmt} {p : Pos} {Q : Flow → Fm → Hp → Prop} (hA : C.A.handled = none)
    (q : Run C (eval iter C.env) m N fun xv m' N' => ForOver C xv target body orelse m' N' Q) (hf : ∀ x, foldedSetIterable iter C.env x = pure x := by intro _; rfl) :
    Run C (exec (.For target iter body orelse p) C.env) m N Q := by
  rw [arm_exec_For]
  refine r_at_bind (r_bind (r_mono q fun xv m' N' k => ?_))
  rw [hf]
  refine r_bind (r_pure (r_at_bind ?_))
  obtain ⟨n, P, src, it, J, j0, stab, turn, done⟩ := k
  refine r_of fun R h tk S => ?_
  refine wpAny_bind (wpAny_holding ?_)
  refine it _ R h tk _ S fun oI icls St W st0 hfree hIo hcls => ?_
  have W := W C.A hA
  obtain ⟨nI, S₁⟩ := S.push oI hfree
  have S₁ := S₁.frame nI
  have rI : R h.objs.size = none := by
    cases e : R h.objs.size with
    | none => rfl
    | some o => exact absurd (Heap.lt_size (S.fr _ o e).1) (Nat.lt_irrefl _)
  have bI : C.h₀.get? h.objs.size = none := by
    cases e : C.h₀.get? h.objs.size with
    | none => rfl
    | some o => exact absurd (Heap.lt_size (S.fr _ o (S.base _ o e)).1) (Nat.lt_irrefl _)
  have LI : C.env.locals ≠ h.objs.size := by
    obtain ⟨_, _, _, hL, _⟩ := S.ns
    exact Nat.ne_of_lt (Heap.lt_size hL)
  generalize h.objs.size = I at *
  refine wpAny_runOwn (h := none) ?_
  refine codeAny_forLoop_any
    (fun k s' => ∃ h' tk' m' N' oI i, s' = C.at h' tk' ∧ St i h' ∧ Sat C m' N' (upd R I oI) h' ∧ J i m' N' ∧ i ≤ n ∧ k = n + 1 - i) ?_ (n + 1)
    ⟨_, _, _, _, oI, 0, rfl, st0, S₁, j0, Nat.zero_le _, rfl⟩
  rintro k s' ⟨h', tk', m', N', oI', i, rfl, hst', S', hJ, hi, rfl⟩
  have next : ∀ h₁ : Heap, (∀ b o, b ∉ [I] → h'.get? b = some o → h₁.get? b = some o) → ∀ o, h₁.get? I = some o → Sat C m' N' (upd R I o) h₁ := fun h₁ hk₁ o ho => by
    refine ⟨S'.ns.at' fun o e => hk₁ _ o (by simpa using LI) e, fun b ob e => ?_, fun b ob e => ?_, fun b ob e => ?_, S'.above, S'.big, S'.sm, fun p hp => ?_⟩
    rotate_right
    · obtain ⟨f1, f2, f3, f4⟩ := S'.frs p hp
      have q : p.1 ≠ I := fun q => by rw [q, upd_self] at f4; cases f4
      rw [upd_ne q] at f4
      exact ⟨f1.at' fun o e => hk₁ _ o (by simpa using q) e, f2, f3, by rw [upd_ne q]; exact f4⟩
    · obtain ⟨e1, e2, e3⟩ := S'.own b ob e
      have q : b ≠ I := fun q => by rw [q, upd_self] at e3; cases e3
      rw [upd_ne q] at e3 ⊢
      exact ⟨hk₁ b ob (by simpa using q) e1, e2, e3⟩
    · by_cases q : b = I
      · subst q
        rw [upd_self] at e
        cases e
        exact ⟨ho, LI.symm⟩
      · rw [upd_ne q] at e
        have := S'.fr b ob (by rw [upd_ne q]; exact e)
        exact ⟨hk₁ b ob (by simpa using q) this.1, this.2⟩
    · have q : b ≠ I := fun q => by rw [q, bI] at e; cases e
      have := S'.base b ob e
      rw [upd_ne q] at this ⊢
      exact this
  by_cases hlt : i < n
  · refine W.item i _ _ _ hlt hst' fun v h₁ tk₁ hP hst₁ hk₁ => ?_
    obtain ⟨oI₁, hoI₁, hcI⟩ := hIo _ _ hst₁
    have S₂ := next h₁ hk₁ oI₁ hoI₁
    refine letOwned_wp (C := C) hoI₁ hcI hcls ?_
    refine wpAny_mono ((turn i v m' N' hlt hP hJ).go _ h₁ tk₁ S₂) (fun u s₂ hp => ?_) fun _ _ e => e.elim
    obtain ⟨h₂, tk₂, m₂, N₂, rfl, S₃, kk⟩ := hp
    refine wpAny_mono (kk.go _ h₂ tk₂ S₃) (fun fl s₃ hp => ?_) fun _ _ e => e.elim
    obtain ⟨h₃, tk₃, m₃, N₃, rfl, S₄, kk⟩ := hp
    have on : J (i + 1) m₃ N₃ → ∃ k, k < n + 1 - i ∧ ∃ h' tk' m' N' oI i, C.at h₃ tk₃ = C.at h' tk' ∧ St i h' ∧ Sat C m' N' (upd R I oI) h' ∧ J i m' N' ∧ i ≤ n ∧ k = n + 1 - i := fun j => by
      refine ⟨n + 1 - (i + 1), by omega, h₃, tk₃, m₃, N₃, oI₁, i + 1, rfl, ?_, S₄, j, hlt, rfl⟩
      refine W.frame _ _ _ hst₁ fun b hb o e => ?_
      rcases List.mem_cons.mp hb with rfl | hb
      · rw [hoI₁] at e
        cases e
        exact (S₄.fr _ _ upd_self).1
      · obtain ⟨ob, hob⟩ := stab b hb
        have e1 := S₂.get (hob i m' N' hJ)
        rw [e] at e1
        cases e1
        exact S₄.get (hob (i + 1) m₃ N₃ j)
    cases fl with
    | ret v => exact ⟨h₃, tk₃, m₃, N₃, rfl, S₄.unframe rI bI, kk⟩
    | brk => exact ⟨h₃, tk₃, m₃, N₃, rfl, S₄.unframe rI bI, kk⟩
    | cont => exact on kk
    | next => exact on kk
  · have hin : i = n := by omega
    subst hin
    refine W.done _ _ _ hst' fun h₁ tk₁ hk₁ => ?_
    have S₂ : Sat C m' N' R h₁ := by
      refine ⟨S'.ns.at' fun o e => hk₁ _ o (by simpa using LI) e, fun b ob e => ?_, fun b ob e => ?_, S.base, S'.above, S'.big, S'.sm, fun p hp => ?_⟩
      rotate_right
      · obtain ⟨f1, f2, f3, f4⟩ := S'.frs p hp
        have q : p.1 ≠ I := fun q => by rw [q, upd_self] at f4; cases f4
        rw [upd_ne q] at f4
        exact ⟨f1.at' fun o e => hk₁ _ o (by simpa using q) e, f2, f3, f4⟩
      · obtain ⟨e1, e2, e3⟩ := S'.own b ob e
        have q : b ≠ I := fun q => by rw [q, upd_self] at e3; cases e3
        rw [upd_ne q] at e3
        exact ⟨hk₁ b ob (by simpa using q) e1, e2, e3⟩
      · have q : b ≠ I := fun q => by rw [q, rI] at e; cases e
        have := S'.fr b ob (by rw [upd_ne q]; exact e)
        exact ⟨hk₁ b ob (by simpa using q) this.1, this.2⟩
    refine wpAny_mono ((done m' N' hJ).go R h₁ tk₁ S₂) (fun fl s₃ hp => hp) fun _ _ e => e.elim

/-! targets -/
theorem r_asName {x : Str} {px : Pos} {v : Value} {Q : Unit → Fm → Hp → Prop} (e : FEnv C) (hx : C.env.kindOf x = some .local) (q : Q () (mset m x v) N) : Run C (assign (.Name x px) C.env v) m N Q := by
  rw [arm_assign_Name]
  exact r_at_bind (r_bindName e hx q)
theorem r_asPair {x y : Str} {px py p : Pos} {k' : Nat} {t : Addr} {u v : Value} {Q : Unit → Fm → Hp → Prop} (e : FEnv C) (hA : C.A.handled = none) (hx : C.env.kindOf x = some .local) (hy : C.env.kindOf y = some .local) (ht : N t = some (tup [u, v] n))
    (q : Q () (mset (mset m x u) y v) N) : Run C (assign (.Tuple [.Name x px, .Name y py] k' p) C.env (.ref t)) m N Q := by
  rw [arm_assign_Tuple]
  refine r_at_bind (r_of fun R h tk S => ?_)
  refine wpAny_unpack_tuple (items := #[u, v]) hA ⟨_, S.get ht, rfl, _, rfl⟩ rfl rfl fun h' he => ?_
  have he' : ∀ b o, h.get? b = some o → h'.get? b = some o := fun b o e => he b o (Nat.ne_of_lt (Heap.lt_size e)) e
  have S' := S.grow he'
  show wpAny _ _ (do PySem.holding [v] (assign (.Name x px) C.env u); do PySem.holding [] (assign (.Name y py) C.env v); pure ()) _ _ _
  exact (r_bind (r_holding (r_asName e hx (r_bind (r_holding (r_asName e hy (r_pure q))))))).go R h' tk S'

/-! while -/
def WhileQ (Q : Flow → Fm → Hp → Prop) (I : Nat → Fm → Hp → Prop) (n : Nat) : Flow → Fm → Hp → Prop := fun fl m N => match fl with
  | .ret v => Q (.ret v) m N
  | .brk => Q .next m N
  | _ => ∃ k, k < n ∧ I k m N
theorem r_while {test : Expr} {body orelse : List Stmt} {p : Pos} {Q : Flow → Fm → Hp → Prop} (I : Nat → Fm → Hp → Prop) (n : Nat) (i0 : I n m N)
    (turn : ∀ n m N, I n m N → Run C (isTrue test C.env (eval test C.env)) m N fun b m' N' => if b then Run C (execs body C.env) m' N' (WhileQ Q I n) else Run C (execs orelse C.env) m' N' Q) :
    Run C (exec (.While test body orelse p) C.env) m N Q := by
  rw [arm_exec_While]
  refine r_at_bind (r_of fun R h tk S => ?_)
  refine wpAny_runOwn (h := none) ?_
  refine codeAny_whileLoop (fun k s' => ∃ h' tk' m' N', s' = C.at h' tk' ∧ Sat C m' N' R h' ∧ I k m' N') ?_ n ⟨h, tk, m, N, rfl, S, i0⟩
  rintro k s' ⟨h', tk', m', N', rfl, S', i⟩
  refine wpAny_mono ((turn k m' N' i).go R h' tk' S') (fun b s₂ hp => ?_) fun _ _ e => e.elim
  obtain ⟨h₂, tk₂, m₂, N₂, rfl, S₂, kk⟩ := hp
  cases b with
  | true =>
    replace kk : Run C (execs body C.env) m₂ N₂ (WhileQ Q I k) := kk
    refine wpAny_mono (kk.go R h₂ tk₂ S₂) (fun fl s₃ hp => ?_) fun _ _ e => e.elim
    obtain ⟨h₃, tk₃, m₃, N₃, rfl, S₃, kk⟩ := hp
    cases fl with
    | ret v => exact ⟨h₃, tk₃, m₃, N₃, rfl, S₃, kk⟩
    | brk => exact ⟨h₃, tk₃, m₃, N₃, rfl, S₃, kk⟩
    | cont => obtain ⟨j, hj, kk⟩ := kk; exact ⟨j, hj, h₃, tk₃, m₃, N₃, rfl, S₃, kk⟩
    | next => obtain ⟨j, hj, kk⟩ := kk; exact ⟨j, hj, h₃, tk₃, m₃, N₃, rfl, S₃, kk⟩
  | false =>
    replace kk : Run C (execs orelse C.env) m₂ N₂ Q := kk
    refine wpAny_mono (kk.go R h₂ tk₂ S₂) (fun fl s₃ hp => hp) fun _ _ e => e.elim
end
end Mine

namespace Mine
open PySem PySem.Challenge

section
variable {α : Type} {C : Cx} {m m' : Fm} {N N' R : Hp} {h h' : Heap} {a l d x : Addr} {o o' : Obj} {k n : Nat} {vs : List Value}

/-! a cell that is seen: owned, or of the written part -/
def Seen (C : Cx) (N : Hp) (a : Addr) (o : Obj) : Prop := ∀ m R h, Sat C m N R h → h.get? a = some o
theorem seen_own (e : N a = some o) : Seen C N a o := fun m R h S => S.get e
theorem seen_K (hC : Amb C k) (e : (K C.w.params).lookup a = some o) : Seen C N a o := fun m R h S => S.F.keep _ _ (hC.X _ _ e)

/-! subscripts -/
def HasItem (C : Cx) (N : Hp) (v : Value) : Prop := ∃ T id, typeLookup (.type T) "__getitem__" = pure (some (.builtin id)) ∧ ∀ m R h tk, Sat C m N R h → (C.at h tk).TypeIs v T
theorem hi_list (e : Seen C N l (lst vs n)) : HasItem C N (.ref l) := ⟨"list", _, slot_list_getitem.lookup, fun m R h tk S => ⟨_, e m R h S, rfl⟩⟩
theorem hi_tup (e : N l = some (tup vs n)) : HasItem C N (.ref l) := ⟨"tuple", _, slot_tuple_getitem.lookup, fun m R h tk S => ⟨_, S.get e, rfl⟩⟩
theorem hi_dict {kvs : List (Str × Value)} (e : N d = some o) (hd : IsD C.w o kvs) : HasItem C N (.ref d) := ⟨"dict", _, slot_dict_getitem.lookup, fun m R h tk S => (S.dictOf e hd).mapOf.typeIs⟩
theorem hi_str {y : Str} {t : Tok} : HasItem C N (.str y t) := ⟨"str", _, PySem.F.slot_str_getitem.lookup, fun m R h tk S => rfl⟩
theorem r_gip {v : Value} {Q : Bool → Fm → Hp → Prop} (hi : HasItem C N v) (q : Q false m N) : Run C (getitemInPython v) m N Q := by
  obtain ⟨T, id, hl, hT⟩ := hi
  refine r_of fun R h tk S => ?_
  have t := hT m R h tk S
  rw [getitemInPython_of_ne t.not_modules]
  refine wpAny_bind (wpAny_specialOf t hl ?_)
  first
    | exact wpAny_pure (Post.intro S q)
    | exact Post.intro S q
theorem r_sub {value slice : Expr} {p : Pos} {Q : Value → Fm → Hp → Prop} (q : Run C (eval value C.env) m N fun o m' N' => Run C (eval slice C.env) m' N' fun i m' N' => HasItem C N' o ∧ Run C (getItem o i) m' N' Q)
    (hs : ∀ o i, subscripted slice false o i = operate [o, i] (getItem o i) := by intro _ _; rfl) : Run C (eval (.Subscript value slice p) C.env) m N Q := by
  rw [arm_eval_Subscript]
  refine r_bind (r_mono q fun o m' N' r => r_bind (r_holding (r_mono r fun i m' N' r => r_at_bind (r_bind (r_gip r.1 ?_)))))
  rw [hs]
  exact r_bind (r_operating (r_mono r.2 fun v m' N' z => r_bind (r_letGo (r_pure z))))
theorem r_subSlice {value : Expr} {oup : Option Expr} {p p' : Pos} {olo : Option Expr} {Q : Value → Fm → Hp → Prop} (q : Run C (eval value C.env) m N fun o m' N' => Run C (eval (.Slice olo oup none p') C.env) m' N' fun i m' N' => HasItem C N' o ∧ Run C (getItem o i) m' N' Q) :
    Run C (eval (.Subscript value (.Slice olo oup none p') p) C.env) m N Q := by
  rw [arm_eval_Subscript]
  refine r_bind (r_mono q fun o m' N' r => r_bind (r_holding (r_mono r fun i m' N' r => r_at_bind (r_bind (r_gip r.1 ?_)))))
  have hs : ∀ o i, subscripted (.Slice olo oup none p') false o i = operate [i, o] (getItem o i) := by intro _ _; rfl
  rw [hs]
  exact r_bind (r_operating (r_mono r.2 fun v m' N' z => r_bind (r_letGo (r_pure z))))
theorem r_listGetS {i : Nat} {j : Int} {t : Tok} {v : Value} {Q : Value → Fm → Hp → Prop} (e : Seen C N l (lst vs n)) (hj : j = (i : Int)) (hv : vs[i]? = some v) (hz : i < 1000000) (q : Q v m N) : Run C (getItem (.ref l) (.int j t)) m N Q := r_of fun R h tk S => by
  subst hj
  exact wpAny_getItem_list ⟨_, e m R h S, rfl, _, rfl⟩ (by omega) (by omega) (by simpa using hv) (Post.intro S q)

/-! stores -/
theorem r_release {l l' : List Value} {Q : Unit → Fm → Hp → Prop} (q : Q () m N) : Run C (release l l') m N Q := r_of fun R h tk S Γ p hΓ => by
  rw [Sem.wp_release]
  exact Post.intro S q
theorem r_assignSub {ox ix value : Expr} {p p' : Pos} {Q : Flow → Fm → Hp → Prop} (q : Run C (eval value C.env) m N fun v m' N' => Run C (eval ox C.env) m' N' fun ov m' N' => Run C (eval ix C.env) m' N' fun iv m' N' => Run C (setItem ov iv v) m' N' fun _ => Q .next)
    (hs : swapsWith value (some (.Subscript ox ix p')) p.line C.env = pure false := by rfl) : Run C (exec (.Assign [.Subscript ox ix p'] value p) C.env) m N Q := by
  rw [exec_Assign_Subscript _ _ _ _ _ hs]
  refine r_at_bind (r_bind (r_mono q fun v m' N' r => r_bind ?_))
  rw [arm_assign_Subscript]
  exact r_bind (r_holding (r_mono r fun ov m' N' r => r_bind (r_holding (r_mono r fun iv m' N' r => r_at_bind (r_bind (r_holding (r_mono r fun _ m' N' r => r_release (r_pure r))))))))
theorem r_assignAttr {ox value : Expr} {n : Str} {p p' : Pos} {Q : Flow → Fm → Hp → Prop} (q : Run C (eval value C.env) m N fun v m' N' => Run C (eval ox C.env) m' N' fun ov m' N' => Run C (setAttr ov n v) m' N' fun _ => Q .next)
    (hs : swapsWith value (some (.Attribute ox n p')) p.line C.env = pure false := by rfl) : Run C (exec (.Assign [.Attribute ox n p'] value p) C.env) m N Q := by
  rw [plainObj_exec_Assign_Attribute _ _ _ _ _ hs]
  refine r_at_bind (r_bind (r_mono q fun v m' N' r => r_bind ?_))
  rw [arm_assign_Attribute]
  exact r_bind (r_holding (r_mono r fun ov m' N' r => r_at_bind (r_bind (r_holding (r_mono r fun _ m' N' r => r_release (r_pure r))))))

/-! instances -/
def Inst (N : Hp) (x dx Cl : Addr) (at' : Fm) (c : Nat) : Prop := ∃ es n, N x = some (instObj Cl dx) ∧ N dx = some (dictOf es n) ∧ es.length ≤ c ∧ ∀ y, getL y es = some (at' y)
theorem Inst.le {at' : Fm} {dx Cl : Addr} {c : Nat} (i : Inst N x dx Cl at' c) (l : Le N N') : Inst N' x dx Cl at' c := let ⟨es, n, e1, e2, r⟩ := i; ⟨es, n, l _ _ e1, l _ _ e2, r⟩
theorem Inst.at {dx Cl : Addr} {es : List DictEntry} (e1 : N x = some (instObj Cl dx)) (e2 : N dx = some (dictOf es n)) (S : Sat C m N R h) : W.InstAt h x (instObj Cl dx) Cl (some (dictOf es n)) := ⟨S.get e1, rfl, rfl, S.get e2⟩
/-- an attribute that is no descriptor's -/
def plainName (K : Frag) (Cl : Addr) (n : Str) : Bool := plainGet K Cl n && hasDictIn K Cl && (findIn K (.ref Cl) n == some none) && (findIn K (.ref Cl) "__setattr__" == some (some (.builtin "object.__setattr__"))) && plainOver K Cl
theorem r_getAttr {dx Cl : Addr} {at' : Fm} {n : Str} {v : Value} {ex : Bool} {Q : Value → Fm → Hp → Prop} {c : Nat} (hC : Amb C k) (i : Inst N x dx Cl at' c) (hp : plainName (K C.w.params) Cl n = true) (hv : at' n = some v) (hh : handedIn v = true) (q : Q v m N) :
    Run C (getAttr (.ref x) n ex) m N Q := r_of fun R h tk S => by
  obtain ⟨es, c, e1, e2, _, hg⟩ := i
  unfold plainName at hp
  simp only [Bool.and_eq_true, beq_iff_eq] at hp
  obtain ⟨⟨⟨⟨p1, p2⟩, p3⟩, p4⟩, p5⟩ := hp
  exact get_own S.F hC.X (Inst.at e1 e2 S) p1 p2 p3 rfl (by rw [hg, hv]) hh (Post.intro (tk' := tk + 1) S q)
theorem putL_get (name y : Str) (hsh : Int) (t : Tok) (v : Value) : ∀ (es : List DictEntry) (r : Option Value), getL y es = some r → getL y (putL name hsh (.str name t) v es) = some (if y = name then some v else r)
  | es, r, e => by
    have hst : ∀ (z : Str) (u : Tok), (Value.str z u).isStr y = (z == y) := fun _ _ => rfl
    have key : ∀ es : List DictEntry, (putL name hsh (.str name t) v es).find? (·.key.isStr y) = if y = name then (match es.find? (·.key.isStr y) with | some e => some ⟨e.hash, e.key, v⟩ | none => some ⟨hsh, .str name t, v⟩) else es.find? (·.key.isStr y) := by
      intro es
      induction es with
      | nil =>
        simp only [putL, List.find?_cons, List.find?_nil, hst]
        by_cases q : y = name
        · subst q; simp
        · have : (name == y) = false := beq_eq_false_iff_ne.mpr (Ne.symm q)
          simp [this, q]
      | cons e es ih =>
        simp only [putL]
        cases hn : e.key.isStr name with
        | true =>
          simp only [if_true, List.find?_cons]
          by_cases q : y = name
          · subst q; simp [hn]
          · have : e.key.isStr y = false := by
              cases hy : e.key.isStr y with
              | false => rfl
              | true =>
                exfalso
                cases hk : e.key with
                | str z u =>
                  rw [hk] at hn hy
                  have a1 : z = name := beq_iff_eq.mp hn
                  have a2 : z = y := beq_iff_eq.mp hy
                  exact q (a2.symm.trans a1)
                | _ => rw [hk] at hn; cases hn
            simp [this, q]
        | false =>
          simp only [Bool.false_eq_true, if_false, List.find?_cons]
          cases hy : e.key.isStr y with
          | true =>
            have q : y ≠ name := fun q => by rw [q] at hy; rw [hy] at hn; cases hn
            simp [q]
          | false => simp only [ih]
    have anyk : ∀ es : List DictEntry, es.any (·.refKey) = false → (putL name hsh (.str name t) v es).any (·.refKey) = false := by
      intro es
      induction es with
      | nil => intro _; rfl
      | cons e es ih =>
        intro h
        rw [List.any_cons, Bool.or_eq_false_iff] at h
        simp only [putL]
        split
        · rw [List.any_cons, h.2, Bool.or_false]; exact h.1
        · rw [List.any_cons, h.1, ih h.2]; rfl
    unfold getL at e ⊢
    rw [key]
    by_cases q : y = name
    · rw [if_pos q, if_pos q]
      cases es.find? (·.key.isStr y) <;> rfl
    · rw [if_neg q, if_neg q]
      cases hf : es.find? (·.key.isStr y) with
      | some z => rw [hf] at e; exact e
      | none =>
        rw [hf] at e
        dsimp only at e ⊢
        split at e
        · cases e
        · rename_i hr
          cases e
          rw [anyk es (by simpa using hr)]
          rfl
theorem putL_len (name : Str) (hsh : Int) (key v : Value) : ∀ es : List DictEntry, (putL name hsh key v es).length ≤ es.length + 1
  | [] => Nat.le_refl _
  | e :: r => by
    simp only [putL]
    split
    · exact Nat.le_succ _
    · exact Nat.succ_le_succ (putL_len name hsh key v r)
theorem upd_split {od : Obj} : ∀ {pre post : List (Addr × Obj)}, (∀ p ∈ pre, p.1 ≠ d) → (∀ p ∈ post, p.1 ≠ d) → Upd d o od (pre ++ (d, o) :: post) (pre ++ (d, od) :: post)
  | [], _, _, h2 => .head h2
  | p :: pre, post, h1, h2 => .tail (h1 p (.head _)) (upd_split (fun q hq => h1 q (.tail _ hq)) h2)
theorem r_setAttr {dx Cl : Addr} {at' : Fm} {n : Str} {v : Value} {Q : Unit → Fm → Hp → Prop} {c : Nat} (hC : Amb C k) (i : Inst N x dx Cl at' c) (hp : plainName (K C.w.params) Cl n = true) (hroom : c ≤ 99)
    (q : ∀ o, N dx ≠ none → Inst (upd N dx o) x dx Cl (mset at' n v) (c + 1) → Q () m (upd N dx o)) :
    Run C (setAttr (.ref x) n v) m N Q := r_of fun R h tk S => by
  obtain ⟨es, nn, e1, e2, hz, hg⟩ := i
  unfold plainName at hp
  simp only [Bool.and_eq_true, beq_iff_eq] at hp
  obtain ⟨⟨⟨⟨p1, p2⟩, p3⟩, p4⟩, p5⟩ := hp
  obtain ⟨pre, post, U, h1, h2, back⟩ := S.ledger e2
  have ne : x ≠ dx := fun z => by rw [z, e2] at e1; cases e1
  have hl := fun t => putL_len n (PyData.keyHash C.w.params n) (.str n t) v es
  refine set_dict S.F hC.X U (Inst.at e1 e2 S) rfl p4 p5 (by unfold takerIn; rw [p3]; rfl) p2 (by rw [hg]; rfl) rfl (upd_split h1 h2) (Nat.le_trans (hl _) (by omega)) fun h' F' U' => ?_
  refine Post.intro (tk' := tk + 2) (back _ _ _ F' U') (q _ (by rw [e2]; exact fun z => nomatch z) ⟨_, _, by rw [upd_ne ne]; exact e1, upd_self, Nat.le_trans (hl _) (by omega), fun y => ?_⟩)
  exact putL_get _ _ _ _ _ _ _ (hg y)

/-! calls -/
theorem keeps_type {T : String} : Keeps1 C (.type T) h := ⟨.machine, .inr (.inl rfl), Looks.of_pure rfl⟩
theorem keeps_builtin {T : String} : Keeps1 C (.builtin T) h := ⟨.machine, .inr (.inl rfl), Looks.of_pure rfl⟩
theorem keeps_ref {f : Value} (hC : Amb C k) (e : keepIn (K C.w.params) f = true) (S : Sat C m N R h) : Keeps1 C f h := keeps_K e h (hC.X.keeps S.F.keep)
def KeepsF (C : Cx) (f : Value) : Prop := ∀ m N R h, Sat C m N R h → Keeps1 C f h
theorem kf_type {T : String} : KeepsF C (.type T) := fun _ _ _ _ _ => keeps_type
theorem kf_builtin {T : String} : KeepsF C (.builtin T) := fun _ _ _ _ _ => keeps_builtin
theorem kf_ref {f : Value} (hC : Amb C k) (e : keepIn (K C.w.params) f = true) : KeepsF C f := fun _ _ _ _ S => keeps_ref hC e S
theorem r_callName {id : Str} {p p' : Pos} {e : Expr} {es : List Expr} {Q : Value → Fm → Hp → Prop} (q : Run C (eval (.Name id p) C.env) m N fun f m' N' => KeepsF C f ∧ Run C (spliced (backTo p' (starEach (e :: es) C.env))) m' N' fun vs m' N' => Run C (call f vs) m' N' Q)
    (he : (backTo p' (starEach (e :: es) C.env)).any (·.1) = false := by rfl) (hn : ∃ x rest, backTo p' (starEach (e :: es) C.env) = (false, x) :: rest := by exact ⟨_, _, rfl⟩) :
    Run C (eval (.Call (.Name id p) (e :: es) [] p') C.env) m N Q := by
  rw [arm_eval_Call_Name']
  exact r_bind (r_mono q fun f m' N' r => r_callWith r.1 r.2 he hn)
theorem r_callName0 {id : Str} {p p' : Pos} {Q : Value → Fm → Hp → Prop} (q : Run C (eval (.Name id p) C.env) m N fun f m' N' => KeepsF C f ∧ Run C (call f []) m' N' Q) : Run C (eval (.Call (.Name id p) [] [] p') C.env) m N Q := by
  rw [arm_eval_Call_Name']
  exact r_bind (r_mono q fun f m' N' r => r_callWith0 r.1 r.2)
/-- a method call: the receiver, what getMethod finds, the arguments -/
theorem r_mcall {ox e : Expr} {name : Str} {ap p : Pos} {es : List Expr} {Q : Value → Fm → Hp → Prop}
    (q : Run C (eval ox C.env) m N fun ov m' N' => ∃ f first, (∀ pl P, P (f, first) m' N' → Run C (getMethod ov name pl) m' N' P) ∧ KeepsF C f ∧ Run C (spliced (backTo p (starEach (e :: es) C.env))) m' N' fun vs m' N' => Run C (call f (first ++ vs)) m' N' Q)
    (hbase : attributeBase ox name C.env (eval ox C.env) = eval ox C.env := by rfl)
    (hform : methodCallForm ((e :: es).length + ([] : List Keyword).length) (backTo p (starEach (e :: es) C.env)) (backToKw p (keywordEach [] C.env)) = true := by rfl) (hline : (ap.endLine == p.line) = true := by rfl)
    (he : (backTo p (starEach (e :: es) C.env)).any (·.1) = false := by rfl) (hn : ∃ x rest, backTo p (starEach (e :: es) C.env) = (false, x) :: rest := by exact ⟨_, _, rfl⟩) :
    Run C (eval (.Call (.Attribute ox name ap) (e :: es) [] p) C.env) m N Q := by
  rw [arm_eval_Call, hbase]
  refine r_bind (r_mono q fun ov m' N' r => r_at_bind ?_)
  obtain ⟨f, first, gm, kf, r⟩ := r
  have hpos : methodCallPos true ox C.env ap p = pure p := by unfold methodCallPos; simp [hline]
  unfold methodCall
  rw [hform]
  refine r_bind (r_holding (gm _ _ ?_))
  dsimp only
  rw [hpos]
  exact r_bind (r_pure (r_callWith kf r he hn))
theorem r_mcall0 {ox : Expr} {name : Str} {ap p : Pos} {Q : Value → Fm → Hp → Prop}
    (q : Run C (eval ox C.env) m N fun ov m' N' => ∃ f first, (∀ pl P, P (f, first) m' N' → Run C (getMethod ov name pl) m' N' P) ∧ KeepsF C f ∧ Run C (call f first) m' N' Q)
    (hbase : attributeBase ox name C.env (eval ox C.env) = eval ox C.env := by rfl) (hline : (ap.endLine == p.line) = true := by rfl) :
    Run C (eval (.Call (.Attribute ox name ap) [] [] p) C.env) m N Q := by
  rw [arm_eval_Call, hbase]
  refine r_bind (r_mono q fun ov m' N' r => r_at_bind ?_)
  obtain ⟨f, first, gm, kf, r⟩ := r
  have hpos : methodCallPos true ox C.env ap p = pure p := by unfold methodCallPos; simp [hline]
  unfold methodCall
  rw [show methodCallForm (([] : List Expr).length + ([] : List Keyword).length) (backTo p (starEach [] C.env)) (backToKw p (keywordEach [] C.env)) = true from rfl]
  refine r_bind (r_holding (gm _ _ ?_))
  dsimp only
  rw [hpos]
  exact r_bind (r_pure (r_callWith0 kf r))
/-- a method of a built-in type -/
theorem gm_builtin {T : String} {name : Str} {id : String} {v : Value} (pa : PlainAttrs T) (slot : Slot T name id) (hty : typeOf (.builtin id) = pure (.type "method_descriptor"))
    (hT : ∀ m R h tk, Sat C m N R h → (C.at h tk).TypeIs v T) (hd : ∀ m R h, Sat C m N R h → ∀ a, v = .ref a → ∃ o, h.get? a = some o ∧ o.dict = none) :
    ∀ (pl : Sem Bool) (P : Value × List Value → Fm → Hp → Prop), P (.builtin id, [v]) m N → Run C (getMethod v name pl) m N P := fun pl P p => r_of fun R h tk S =>
  getMethod_builtin (hT _ _ _ _ S) pa slot hty (hd _ _ _ S) (Post.intro S p)
theorem gm_list {name : Str} {id : String} (e : N l = some (lst vs n)) (slot : Slot "list" name id) (hty : typeOf (.builtin id) = pure (.type "method_descriptor")) :
    ∀ (pl : Sem Bool) (P : Value × List Value → Fm → Hp → Prop), P (.builtin id, [.ref l]) m N → Run C (getMethod (.ref l) name pl) m N P :=
  gm_builtin PySem.F.plainAttrs_list slot hty (fun m R h tk S => ⟨_, S.get e, rfl⟩) fun m R h S a q => by cases q; exact ⟨_, S.get e, rfl⟩
/-- a method of an own class -/
theorem gm_own {dx Cl f : Addr} {at' : Fm} {n : Str} {c : Nat} (hC : Amb C k) (i : Inst N x dx Cl at' c) (hg : plainGet (K C.w.params) Cl n = true) (hf : findIn (K C.w.params) (.ref Cl) n = some (some (.ref f))) (ht : isFn (K C.w.params) (.ref f) = true) (hn : at' n = none) :
    ∀ (pl : Sem Bool) (P : Value × List Value → Fm → Hp → Prop), P (.ref f, [.ref x]) m N → Run C (getMethod (.ref x) n pl) m N P := fun pl P p => r_of fun R h tk S => by
  obtain ⟨es, c, e1, e2, _, hgl⟩ := i
  exact method_inst S.F hC.X (Inst.at e1 e2 S) hg hf ht (by rw [hgl, hn]) (Post.intro S p)
end
end Mine

namespace Mine
open PySem PySem.Challenge

/-! comprehensions -/
section
variable {C C₂ : Cx} {m m' : Fm} {N N' R : Hp} {h h' : Heap} {a l d x : Addr} {o o' : Obj} {k n : Nat} {vs : List Value} {P : Nat → Value → Prop} {src : List Addr}

theorem Sat.rest (S : Sat C m N (upd R a o) h) (hk : ∀ b o, b ≠ a → h.get? b = some o → h'.get? b = some o) (ho : h'.get? a = some o') (hb : C.h₀.get? a = none) : Sat C m N (upd R a o') h' := by
  have La : C.env.locals ≠ a := fun q => (S.fr a o upd_self).2 q.symm
  refine ⟨S.ns.at' fun o e => hk _ o La e, fun b ob e => ?_, fun b ob e => ?_, fun b ob e => ?_, S.above, S.big, S.sm, fun p hp => ?_⟩
  rotate_right
  · obtain ⟨f1, f2, f3, f4⟩ := S.frs p hp
    have q : p.1 ≠ a := fun q => by rw [q, upd_self] at f4; cases f4
    rw [upd_ne q] at f4
    exact ⟨f1.at' fun o e => hk _ o q e, f2, f3, by rw [upd_ne q]; exact f4⟩
  · obtain ⟨e1, e2, e3⟩ := S.own b ob e
    have q : b ≠ a := fun q => by rw [q, upd_self] at e3; cases e3
    rw [upd_ne q] at e3 ⊢
    exact ⟨hk b ob q e1, e2, e3⟩
  · by_cases q : b = a
    · subst q
      rw [upd_self] at e
      cases e
      exact ⟨ho, La.symm⟩
    · rw [upd_ne q] at e
      have := S.fr b ob (by rw [upd_ne q]; exact e)
      exact ⟨hk b ob q this.1, this.2⟩
  · have q : b ≠ a := fun q => by rw [q, hb] at e; cases e
    have := S.base b ob e
    rw [upd_ne q] at this ⊢
    exact this
theorem Sat.drop (S : Sat C m N (upd R a o) h) (hk : ∀ b o, b ≠ a → h.get? b = some o → h'.get? b = some o) (hr : R a = none) (hb : C.h₀.get? a = none) : Sat C m N R h' := by
  have La : C.env.locals ≠ a := fun q => (S.fr a o upd_self).2 q.symm
  refine ⟨S.ns.at' fun o e => hk _ o La e, fun b ob e => ?_, fun b ob e => ?_, fun b ob e => ?_, S.above, S.big, S.sm, fun p hp => ?_⟩
  rotate_right
  · obtain ⟨f1, f2, f3, f4⟩ := S.frs p hp
    have q : p.1 ≠ a := fun q => by rw [q, upd_self] at f4; cases f4
    rw [upd_ne q] at f4
    exact ⟨f1.at' fun o e => hk _ o q e, f2, f3, f4⟩
  · obtain ⟨e1, e2, e3⟩ := S.own b ob e
    have q : b ≠ a := fun q => by rw [q, upd_self] at e3; cases e3
    rw [upd_ne q] at e3
    exact ⟨hk b ob q e1, e2, e3⟩
  · have q : b ≠ a := fun q => by rw [q, hr] at e; cases e
    have := S.fr b ob (by rw [upd_ne q]; exact e)
    exact ⟨hk b ob q this.1, this.2⟩
  · have q : b ≠ a := fun q => by rw [q, hb] at e; cases e
    have := S.base b ob e
    rwa [upd_ne q] at this
theorem upd_comm {N : Hp} {a b : Addr} {o o' : Obj} (hn : a ≠ b) : upd (upd N a o) b o' = upd (upd N b o') a o := by
  funext c
  unfold upd
  by_cases h1 : c = b
  · have : c ≠ a := fun q => hn (q.symm.trans h1)
    rw [if_pos h1, if_neg this, if_pos h1]
  · rw [if_neg h1, if_neg h1]

/-- within a comprehension of C -/
def CompIn (C : Cx) (k : Nat) (C₂ : Cx) (scope : Scope) (cl : List (Str × Addr)) : Prop := Amb C₂ k ∧ C₂.w = C.w ∧ C₂.A = C.A ∧ ∃ Cc, C₂.env = compEnvC scope cl Cc C.env
def RunIfs (C : Cx) (ifs : List Expr) (m : Fm) (N : Hp) (yes : Fm → Hp → Prop) (no : Hp → Prop) : Prop := match ifs with
  | [] => yes m N
  | [c] => Run C (isTrue c C.env (eval c C.env)) m N fun b m N => if b then yes m N else no N
  | _ => False
theorem r_ifs {ifs : List Expr} {yes : Fm → Hp → Prop} {no : Hp → Prop} (q : RunIfs C ifs m N yes no) :
    Run C (forIn ifs true fun c r => if r = true then do let ok ← isTrue c C.env (eval c C.env); pure (ForInStep.yield ok) else pure (ForInStep.yield r)) m N fun b m N => if b then yes m N else no N := by
  unfold RunIfs at q
  split at q
  · refine r_of fun R h tk S => wpAny_tests_nil (Post.intro S (by rw [if_pos rfl]; exact q))
  · refine r_of fun R h tk S => wpAny_tests_one (q.go R h tk S)
  · exact q.elim

def cLoop_core {e target iter : Expr} {ifs : List Expr} {scope : Scope} {it acc : Value} {env : Env} : Prop := True

/-- what a list comprehension walks over -/
def CompOver (C : Cx) (k : Nat) (xv : Value) (target elt : Expr) (ifs : List Expr) (scope : Scope) (cl : List (Str × Addr)) (m : Fm) (N : Hp) (Q : Value → Fm → Hp → Prop) : Prop :=
  ∃ n P src, Itb C N xv n P src ∧ n ≤ 1000000 ∧ ∃ J : Nat → List Value → Hp → Prop, J 0 [] N ∧ (∀ b ∈ src, ∃ o, ∀ i ys N, J i ys N → N b = some o) ∧
    (∀ C₂, CompIn C k C₂ scope cl → ∀ i v ys m N, i < n → P i v → J i ys N → Run C₂ (assign target C₂.env v) m N fun _ m N => RunIfs C₂ ifs m N (fun m N => Run C₂ (eval elt C₂.env) m N fun y _ N => J (i + 1) (ys ++ [y]) N) (fun N => J (i + 1) ys N)) ∧
    ∀ ys N, J n ys N → ∀ D c, N D = none → Q (.ref D) m (upd N D (lst ys c))

/-- the loop, with the owned tuple -/
theorem codeAny_compLoop_own {elt target iter : Expr} {ifs : List Expr} {scope : Scope} {pos : Pos} {it acc : Value} {env : Env} {prog : Program} {w : World} {A : Around} {R : Result → Shared → Prop} {s : Shared} (I : Nat → Shared → Prop)
    (turn : ∀ n s, I n s → wpAny (model prog w) A (pyNext it) (fun r s₁ => match r with
      | none => R (.ok .next) s₁
      | some v => wpAny (model prog w) A (letOwnedTupleGo target it v) (fun _ s₁' => wpAny (model prog w) A (assign target env v) (fun _ s₂ =>
          wpAny (model prog w) A (forIn ifs true fun c r => if r = true then do let ok ← isTrue c env (eval c env); pure (ForInStep.yield ok) else pure (ForInStep.yield r)) (fun ok s₃ =>
            if ok = true then wpAny (model prog w) A (eval elt env) (fun x s₄ =>
              wpAny (model prog w) A (call (.builtin "list.append") [acc, x]) (fun _ s₅ => ∃ m, m < n ∧ I m s₅) (fun _ _ => False) s₄) (fun _ _ => False) s₃
            else ∃ m, m < n ∧ I m s₃) (fun _ _ => False) s₂) (fun _ _ => False) s₁') (fun _ _ => False) s₁) (fun _ _ => False) s)
    (n : Nat) (h : I n s) : codeAny (model prog w) A (.compLoop (.ListComp elt [⟨target, iter, ifs, 0⟩] scope pos) 0 it acc env) R s := by
  refine codeAny_loop rfl I (fun n s hI => ?_) n h
  show wpAny _ A ((compTurn (.ListComp elt [⟨target, iter, ifs, 0⟩] scope pos) 0 it acc env).onRaise (fun x => do noteFrame x env; theTreesLotGoes x)) _ _ s
  refine wpAny_noted ?_
  rw [compTurn_list]
  refine wpAny_bind (wpAny_standAt (wpAny_bind (wpAny_mono (turn n s hI) (fun r s₁ h₁ => ?_) fun _ _ h' => h'.elim)))
  cases r with
  | none => exact wpAny_pure h₁
  | some v =>
    refine wpAny_bind (wpAny_mono h₁ (fun _ s₁ h₁ => ?_) fun _ _ h' => h'.elim)
    refine wpAny_bind (wpAny_mono h₁ (fun _ s₂ h₂ => wpAny_bind (wpAny_mono h₂ (fun ok s₃ h₃ => ?_) fun _ _ h' => h'.elim)) fun _ _ h' => h'.elim)
    cases ok with
    | false => exact wpAny_pure ⟨rfl, h₃⟩
    | true =>
      exact wpAny_bind (wpAny_bind (wpAny_mono h₃ (fun x s₄ h₄ => wpAny_bind (wpAny_mono h₄ (fun _ s₅ h₅ => wpAny_pure (wpAny_pure ⟨rfl, h₅⟩)) fun _ _ h' => h'.elim)) fun _ _ h' => h'.elim))
theorem codeAny_compLoop_ownD {kx vx target iter : Expr} {ifs : List Expr} {scope : Scope} {pos : Pos} {it : Value} {D : Addr} {env : Env} {prog : Program} {w : World} {A : Around} {R : Result → Shared → Prop} {s : Shared} (I : Nat → Shared → Prop)
    (turn : ∀ n s, I n s → wpAny (model prog w) A (pyNext it) (fun r s₁ => match r with
      | none => R (.ok .next) s₁
      | some v => wpAny (model prog w) A (letOwnedTupleGo target it v) (fun _ s₁' => wpAny (model prog w) A (assign target env v) (fun _ s₂ =>
          wpAny (model prog w) A (forIn ifs true fun c r => if r = true then do let ok ← isTrue c env (eval c env); pure (ForInStep.yield ok) else pure (ForInStep.yield r)) (fun ok s₃ =>
            if ok = true then wpAny (model prog w) A (eval kx env) (fun kv s₄ => wpAny (model prog w) A (eval vx env) (fun vv s₅ =>
              wpAny (model prog w) A (dictSet D kv vv) (fun _ s₆ => ∃ m, m < n ∧ I m s₆) (fun _ _ => False) s₅) (fun _ _ => False) s₄) (fun _ _ => False) s₃
            else ∃ m, m < n ∧ I m s₃) (fun _ _ => False) s₂) (fun _ _ => False) s₁') (fun _ _ => False) s₁) (fun _ _ => False) s)
    (n : Nat) (h : I n s) : codeAny (model prog w) A (.compLoop (.DictComp kx vx [⟨target, iter, ifs, 0⟩] scope pos) 0 it (.ref D) env) R s := by
  refine codeAny_loop rfl I (fun n s hI => ?_) n h
  show wpAny _ A ((compTurn (.DictComp kx vx [⟨target, iter, ifs, 0⟩] scope pos) 0 it (.ref D) env).onRaise (fun x => do noteFrame x env; theTreesLotGoes x)) _ _ s
  refine wpAny_noted ?_
  rw [compTurn_dict]
  refine wpAny_bind (wpAny_standAt (wpAny_bind (wpAny_mono (turn n s hI) (fun r s₁ h₁ => ?_) fun _ _ h' => h'.elim)))
  cases r with
  | none => exact wpAny_pure h₁
  | some v =>
    refine wpAny_bind (wpAny_mono h₁ (fun _ s₁ h₁ => ?_) fun _ _ h' => h'.elim)
    refine wpAny_bind (wpAny_mono h₁ (fun _ s₂ h₂ => wpAny_bind (wpAny_mono h₂ (fun ok s₃ h₃ => ?_) fun _ _ h' => h'.elim)) fun _ _ h' => h'.elim)
    cases ok with
    | false => exact wpAny_pure ⟨rfl, h₃⟩
    | true =>
      exact wpAny_bind (wpAny_bind (wpAny_mono h₃ (fun kv s₄ h₄ => wpAny_bind (wpAny_holding (wpAny_mono h₄ (fun vv s₅ h₅ => wpAny_bind (wpAny_standAt (wpAny_holding (wpAny_mono h₅ (fun _ s₆ h₆ => wpAny_pure ⟨rfl, h₆⟩) fun _ _ h' => h'.elim)))) fun _ _ h' => h'.elim))) fun _ _ h' => h'.elim))

/-- the block's context: the frame stays, the names are the comprehension's own -/
theorem comp_enter {scope : Scope} {cl : List (Str × Addr)} {Cc I D : Addr} {oI oD : Obj} {h₂ : Heap} {m₂ : Fm} (hC : Amb C k) (S : Sat C m N R h) (hI : h.objs.size ≤ I) (hD : h.objs.size ≤ D) (hcc : h.objs.size ≤ Cc) (hIc : I ≠ Cc) (hDc : D ≠ Cc)
    (keep : ∀ b o, h.get? b = some o → h₂.get? b = some o) (eI : h₂.get? I = some oI) (eD : h₂.get? D = some oD) (ns : h₂.Ns Cc m₂) :
    ∃ C₂, CompIn C k C₂ scope cl ∧ C₂.s₀ = C.s₀ ∧ C₂.env = compEnvC scope cl Cc C.env ∧ C₂.h₀ = hideAll h (hidOf C N h) ∧ Sat C₂ m₂ N (upd (upd (hideAll h (hidOf C N h)).get? I oI) D oD) h₂ ∧
      ∀ m₃ N₃ oD' h₃ h₄, Sat C₂ m₃ N₃ (upd (hideAll h (hidOf C N h)).get? D oD') h₃ → Heap.SameBut Cc h₃ h₄ → N₃ D = none ∧ Sat C m (upd N₃ D oD') R h₄ := by
  obtain ⟨st, gr⟩ := ground hC S
  have stack := (hC.below m N R h S [] (fun _ q => nomatch q)).stack
  have stG : ∀ b o, C.h₀.get? b = some o → (hideAll h (hidOf C N h)).get? b = some o := fun b o e => S.inG (S.base b o e)
  have gLt : ∀ b o, (hideAll h (hidOf C N h)).get? b = some o → b < h.objs.size := fun b o e => Heap.lt_size (of_hideAll _ e)
  have old : ∀ b, b < h.objs.size → b ≠ I ∧ b ≠ D ∧ b ≠ Cc := fun b hb => ⟨fun q => by rw [q] at hb; exact absurd hb (Nat.not_lt.mpr hI), fun q => by rw [q] at hb; exact absurd hb (Nat.not_lt.mpr hD), fun q => by rw [q] at hb; exact absurd hb (Nat.not_lt.mpr hcc)⟩
  let C₂ : Cx := { C with env := compEnvC scope cl Cc C.env, h₀ := hideAll h (hidOf C N h), fms := (C.env.locals, m) :: C.fms }
  have S₂ : Sat C₂ m₂ N (hideAll h (hidOf C N h)).get? h₂ := S.enter (C' := C₂) rfl rfl hcc ns keep
  have A₂ : Amb C₂ k := by
    refine ⟨fun m₁ N₁ R₁ h' S₁ l hl => ?_, hC.X.keeps stG, hC.T.keeps stG, hC.handled, hC.guards, hC.dp, hC.un, ⟨?_, fun p hp => ?_⟩, fun env he L hL => ?_⟩
    · obtain ⟨g1, g2⟩ := gr C₂ stack rfl rfl (fun p hp => hp) m₁ N₁ R₁ h' S₁ l hl
      exact ⟨stack, g1, g2⟩
    · show C.base.get? Cc = none
      cases z : C.base.get? Cc with
      | none => rfl
      | some o => exact absurd (Heap.lt_size (of_hideAll _ (st _ o z))) (Nat.not_lt.mpr hcc)
    · rcases List.mem_cons.mp hp with rfl | hp
      · exact hC.nb.1
      · exact hC.nb.2 p hp
    · rcases hC.cov env he L hL with q | ⟨mm, q⟩
      · exact .inr ⟨m, by rw [q]; exact .head _⟩
      · exact .inr ⟨mm, .tail _ q⟩
  have gI : (hideAll h (hidOf C N h)).get? I = none := by
    cases z : (hideAll h (hidOf C N h)).get? I with
    | none => rfl
    | some o => exact absurd (gLt _ o z) (Nat.not_lt.mpr hI)
  have gD : (hideAll h (hidOf C N h)).get? D = none := by
    cases z : (hideAll h (hidOf C N h)).get? D with
    | none => rfl
    | some o => exact absurd (gLt _ o z) (Nat.not_lt.mpr hD)
  refine ⟨C₂, ⟨A₂, rfl, rfl, Cc, rfl⟩, rfl, rfl, rfl, ?_, ?_⟩
  · refine ⟨ns, fun b o e => ?_, fun b o e => ?_, fun b o e => ?_, S₂.above, S₂.big, S₂.sm, fun p hp => ?_⟩
    · obtain ⟨q1, q2, q3⟩ := old b (S.lt e)
      obtain ⟨a1, a2, a3⟩ := S₂.own b o e
      exact ⟨a1, a2, by rw [upd_ne q2, upd_ne q1]; exact a3⟩
    · by_cases q : b = D
      · subst q
        rw [upd_self] at e
        cases e
        exact ⟨eD, hDc⟩
      · rw [upd_ne q] at e
        by_cases q' : b = I
        · subst q'
          rw [upd_self] at e
          cases e
          exact ⟨eI, hIc⟩
        · rw [upd_ne q'] at e
          exact S₂.fr b o e
    · obtain ⟨q1, q2, q3⟩ := old b (gLt b o e)
      show upd (upd _ I oI) D oD b = some o
      rw [upd_ne q2, upd_ne q1]
      exact e
    · obtain ⟨f1, f2, f3, f4⟩ := S₂.frs p hp
      have lt : p.1 < h.objs.size := by
        rcases List.mem_cons.mp hp with rfl | hp
        · exact Ns.lt S.ns
        · exact Ns.lt (S.frs p hp).1
      obtain ⟨q1, q2, q3⟩ := old _ lt
      exact ⟨f1, f2, f3, by rw [upd_ne q2, upd_ne q1]; exact f4⟩
  · intro m₃ N₃ oD' h₃ h₄ S₃ hs
    have nD : N₃ D = none := by
      cases z : N₃ D with
      | none => rfl
      | some o' => have := (S₃.own _ o' z).2.2; rw [upd_self] at this; cases this
    have eD3 := S₃.fr D oD' upd_self
    -- the list goes over to the owned
    have S₄ : Sat C₂ m₃ (upd N₃ D oD') (hideAll h (hidOf C N h)).get? h₃ := by
      refine ⟨S₃.ns, fun b o e => ?_, fun b o e => ?_, fun b o e => e, S₃.above, S₃.big, fun b o e => ?_, fun p hp => ?_⟩
      · by_cases q : b = D
        · subst q
          rw [upd_self] at e
          cases e
          exact ⟨eD3.1, eD3.2, gD⟩
        · rw [upd_ne q] at e
          obtain ⟨e1, e2, e3⟩ := S₃.own b o e
          exact ⟨e1, e2, by rw [upd_ne q] at e3; exact e3⟩
      · obtain ⟨q1, q2, q3⟩ := old b (gLt b o e)
        exact S₃.fr b o (by rw [upd_ne q2]; exact e)
      · by_cases q : b = D
        · rw [q]
          have := S.high
          exact beq_eq_false_iff_ne.mpr fun e => by rw [e] at hD; exact absurd this (Nat.not_lt.mpr hD)
        · rw [upd_ne q] at e; exact S₃.sm b o e
      · obtain ⟨f1, f2, f3, f4⟩ := S₃.frs p hp
        have q : p.1 ≠ D := fun q => by rw [q, upd_self] at f4; cases f4
        exact ⟨f1, f2, by rw [upd_ne q]; exact f3, by rw [upd_ne q] at f4; exact f4⟩
    -- the comprehension's own frame goes
    have S₅ := S.leave (C' := C₂) (fun p hp => hp) S₄
    refine ⟨nD, ?_⟩
    have bs : ∀ b, b < h.objs.size → b ≠ Cc := fun b hb => (old b hb).2.2
    have up4 : ∀ b o, h₃.get? b = some o → b ≠ Cc → h₄.get? b = some o := fun b o e q => (hs.2 b q).trans e
    refine ⟨S₅.ns.at' fun o e => up4 _ o e (bs _ (Ns.lt S.ns)), fun b o e => ⟨up4 b o (S₅.own b o e).1 (fun q => ?_), (S₅.own b o e).2⟩, fun b o e => ⟨up4 b o (S₅.fr b o e).1 (bs _ (Heap.lt_size (S.fr b o e).1)), (S₅.fr b o e).2⟩, S₅.base, S₅.above, S₅.big, S₅.sm, fun p hp => ?_⟩
    · exact (S₄.own b o e).2.1 q
    · obtain ⟨f1, f2, f3, f4⟩ := S₅.frs p hp
      exact ⟨f1.at' fun o e => up4 _ o e (bs _ (Ns.lt (S.frs p hp).1)), f2, f3, f4⟩
end
end Mine

namespace Mine
open PySem PySem.Challenge

section
variable {C C₂ : Cx} {m m' : Fm} {N N' R : Hp} {h h' : Heap} {a l d x : Addr} {o o' : Obj} {k n : Nat} {vs : List Value} {P : Nat → Value → Prop} {src : List Addr}

theorem r_listComp {elt target iter : Expr} {ifs : List Expr} {scope : Scope} {cl : List (Str × Addr)} {pos : Pos} {Q : Value → Fm → Hp → Prop} (hC : Amb C k)
    (q : Run C (eval iter C.env) m N fun xv m' N' => CompOver C k xv target elt ifs scope cl m' N' Q)
    (hclos : closureFor scope C.env = pure cl) (hcell : ∀ y ∈ scope.names, y.2 ≠ .cell) (hkind : scope.kind = .function) (hnames : ∀ y ∈ scope.names, y.2 = .local → scope.names.lookup y.1 = some .local)
    (hs : ∀ x, foldedSetIterable iter C.env x = pure x := by intro _; rfl) :
    Run C (eval (.ListComp elt [⟨target, iter, ifs, 0⟩] scope pos) C.env) m N Q := r_of fun R h tk S => by
  rw [eval_ListComp]
  refine wpAny_comprehension_free (use := none) rfl hs hclos hkind hnames (wpAny_mono (q.go R h tk S) (fun xv s₁ hp => ?_) fun _ _ e => e.elim)
  obtain ⟨h₁, tk₁, m₁, N₁, rfl, S₁, n, P, src, it, hn, J, j0, stab, turn, done⟩ := hp
  refine wpAny_mono (it _ R h₁ tk₁ (fun itv s₂ => wpAny (model PR C.w) C.A (newList []) (fun acc s₃ => wpAny (model PR C.w) C.A (newFunctionEnv scope C.env.globals cl [] C.env.qual none .none (some C.env)) (fun cenv s₄ =>
      codeAny (model PR C.w) C.A (.compStart (.ListComp elt [⟨target, iter, ifs, 0⟩] scope pos) 0 itv acc { cenv with scope := relabel scope C.env }) (compPost (model PR C.w) C.A (fun _ _ => False) none (Post C R Q) acc cenv.locals) s₄) (fun _ _ => False) s₃) (fun _ _ => False) s₂) S₁ fun oI icls St W st0 hfree hIo hcls => ?_) (fun _ _ x => x) fun _ _ e => e
  have W := W C.A hC.handled
  refine wpAny_newObj_type (wpAny_newFunctionEnv hcell (by intro y hy; simp at hy) (fun h₂ hns hsb => ?_) hkind)
  dsimp only at hns hsb ⊢
  generalize hI : h₁.objs.size = I at *
  generalize hH : (h₁.push oI).push { cls := .type "list", dict := none, data := .seq ([] : List Value).toArray } = H at hns hsb ⊢
  have hsz : (h₁.push oI).objs.size = I + 1 := by rw [Heap.size_push, hI]
  have hHs : H.objs.size = I + 2 := by rw [← hH, Heap.size_push, hsz]
  generalize hD : (h₁.push oI).objs.size = D at *
  generalize hCc : H.objs.size = Cc at *
  have q1 : I ≠ Cc := by omega
  have q2 : D ≠ Cc := by omega
  have q3 : I ≠ D := by omega
  have pushed : ∀ b o, (h₁.push oI).get? b = some o → h₂.get? b = some o := fun b o e => by
    have hb := Heap.lt_size e
    rw [hD] at hb
    exact hsb.extBut b o (Nat.ne_of_lt (Nat.lt_trans hb (show D < Cc by rw [hHs, hsz]; exact Nat.lt_succ_self _))) (Heap.get?_push_of_some _ (hH ▸ Heap.get?_push_of_some _ e))
  have keep : ∀ b o, h₁.get? b = some o → h₂.get? b = some o := fun b o e => pushed b o (Heap.get?_push_of_some _ e)
  have eI : h₂.get? I = some oI := pushed I oI (hI ▸ Heap.get?_push_size _ hfree)
  have eD : h₂.get? D = some (lst [] 0) := hsb.extBut _ _ q2 (Heap.get?_push_of_some _ (hH ▸ hD ▸ Heap.get?_push_size _ rfl))
  obtain ⟨C₂, hC₂, hs₀, henv, hh₀, S₂, back⟩ := comp_enter (scope := scope) (cl := cl) (Cc := Cc) (I := I) (D := D) hC S₁ (by omega) (by omega) (by omega) q1 q2 keep eI eD hns
  obtain ⟨A₂, w₂, a₂, -⟩ := id hC₂
  have at₂ : ∀ h tk, C.at h tk = C₂.at h tk := fun h tk => by unfold Cx.at; rw [hs₀]
  have bI : C₂.h₀.get? I = none := by
    rw [hh₀]
    cases e : (hideAll h₁ (hidOf C N₁ h₁)).get? I with
    | none => rfl
    | some o => exact absurd (Heap.lt_size (of_hideAll _ e)) (by rw [hI]; exact Nat.lt_irrefl _)
  have bD : C₂.h₀.get? D = none := by
    rw [hh₀]
    cases e : (hideAll h₁ (hidOf C N₁ h₁)).get? D with
    | none => rfl
    | some o => exact absurd (Heap.lt_size (of_hideAll _ e)) (by rw [hI]; show ¬ (D < I); omega)
  generalize hg : (hideAll h₁ (hidOf C N₁ h₁)).get? = G at *
  have st₂ : St 0 h₂ := W.frame _ _ _ st0 fun b _ o e => pushed b o e
  have loop : ∀ tk, codeAny (model PR C.w) C.A (.compLoop (.ListComp elt [⟨target, iter, ifs, 0⟩] scope pos) 0 (.ref I) (.ref D) C₂.env) (compPost (model PR C.w) C.A (fun _ _ => False) none (Post C R Q) (.ref D) Cc) (C.at h₂ tk) := by
    intro tk
    refine codeAny_compLoop_own
      (fun k s' => ∃ h' tk' m' N' oI i ys c, s' = C.at h' tk' ∧ St i h' ∧ Sat C₂ m' N' (upd (upd G I oI) D (lst ys c)) h' ∧ J i ys N' ∧ ys.length ≤ i ∧ i ≤ n ∧ k = n + 1 - i) ?_ (n + 1)
      ⟨h₂, tk, _, N₁, oI, 0, [], 0, rfl, st₂, S₂, j0, Nat.le_refl _, Nat.zero_le _, rfl⟩
    rintro k' s' ⟨h', tk', m', N', oI', i, ys, c, rfl, hst', S', hJ, hy, hi, rfl⟩
    rw [← w₂, ← a₂] at W ⊢
    have next : ∀ h₁ : Heap, (∀ b o, b ∉ [I] → h'.get? b = some o → h₁.get? b = some o) → ∀ o, h₁.get? I = some o → Sat C₂ m' N' (upd (upd G I o) D (lst ys c)) h₁ := fun h₁ hk₁ o ho => by
      rw [upd_comm q3] at S' ⊢
      exact S'.rest (fun b o q e => hk₁ b o (by simpa using q) e) ho bI
    by_cases hlt : i < n
    · refine W.item i _ _ _ hlt hst' fun v h₃ tk₃ hP hst₃ hk₃ => ?_
      obtain ⟨oI₃, hoI₃, hcI⟩ := hIo _ _ hst₃
      have S₃ := next h₃ hk₃ oI₃ hoI₃
      refine letOwned_wp (C := C₂) hoI₃ hcI hcls ?_
      have tr := turn C₂ hC₂ i v ys m' N' hlt hP hJ
      rw [show ({ C.at h' tk' with heap := h₃, toks := tk₃ } : Shared) = C₂.at h₃ tk₃ from at₂ _ _]
      refine wpAny_mono (tr.go _ h₃ tk₃ S₃) (fun u s₄ hp => ?_) fun _ _ e => e.elim
      obtain ⟨h₄, tk₄, m₄, N₄, rfl, S₄, kk⟩ := hp
      refine wpAny_mono ((r_ifs kk).go _ h₄ tk₄ S₄) (fun ok s₅ hp => ?_) fun _ _ e => e.elim
      obtain ⟨h₅, tk₅, m₅, N₅, rfl, S₅, kk⟩ := hp
      have on : ∀ ys₆ c₆ h₆ m₆ N₆ tk₆, Sat C₂ m₆ N₆ (upd (upd G I oI₃) D (lst ys₆ c₆)) h₆ → J (i + 1) ys₆ N₆ → ys₆.length ≤ i + 1 → ∃ k, k < n + 1 - i ∧ ∃ h' tk' m' N' oI i ys c, C₂.at h₆ tk₆ = C.at h' tk' ∧ St i h' ∧ Sat C₂ m' N' (upd (upd G I oI) D (lst ys c)) h' ∧ J i ys N' ∧ ys.length ≤ i ∧ i ≤ n ∧ k = n + 1 - i := fun ys₆ c₆ h₆ m₆ N₆ tk₆ S₆ j hy₆ => by
        refine ⟨n + 1 - (i + 1), by omega, h₆, tk₆, m₆, N₆, oI₃, i + 1, ys₆, c₆, (at₂ _ _).symm, ?_, S₆, j, hy₆, hlt, rfl⟩
        refine W.frame _ _ _ hst₃ fun b hb o e => ?_
        rcases List.mem_cons.mp hb with rfl | hb
        · rw [hoI₃] at e
          cases e
          exact (S₆.fr _ _ (by rw [upd_ne q3]; exact upd_self)).1
        · obtain ⟨ob, hob⟩ := stab b hb
          have e1 := S₃.get (hob i ys N' hJ)
          rw [e] at e1
          cases e1
          exact S₆.get (hob (i + 1) ys₆ N₆ j)
      cases ok with
      | false =>
        simp only [Bool.false_eq_true, if_false] at kk ⊢
        exact on ys c h₅ m₅ N₅ tk₅ S₅ kk (by omega)
      | true =>
        simp only [if_true] at kk ⊢
        refine wpAny_mono (kk.go _ h₅ tk₅ S₅) (fun y s₆ hp => ?_) fun _ _ e => e.elim
        obtain ⟨h₆, tk₆, m₆, N₆, rfl, S₆, kk⟩ := hp
        refine wpAny_list_append_plain (hsz := by rw [List.size_toArray, sizeLine_eq]; omega) ⟨c, (S₆.fr _ _ upd_self).1⟩ fun h₇ hp hs₇ => ?_
        obtain ⟨c₇, hp⟩ := hp
        have e7 : lst (ys ++ [y]) c₇ = ({ cls := .type "list", data := .seq (ys.toArray.push y) c₇ } : Obj) := by simp
        refine on (ys ++ [y]) c₇ h₇ m₆ N₆ tk₆ (S₆.rest (fun b o q e => hs₇.extBut b o q e) (by rw [e7]; exact hp) bD) kk (by rw [List.length_append, List.length_singleton]; omega)
    · have hin : i = n := by omega
      subst hin
      refine W.done _ _ _ hst' fun h₃ tk₃ hk₃ => ?_
      have nI : upd G D (lst ys c) I = none := by rw [upd_ne q3, ← hg]; exact hh₀ ▸ bI
      rw [upd_comm q3] at S'
      have S₃ := S'.drop (fun b o q e => hk₃ b o (by simpa using q) e) nI bI
      have hL : C₂.env.locals = Cc := by rw [henv]; rfl
      refine ⟨m', hL ▸ S₃.ns, fun h₄ hs₄ => ?_⟩
      obtain ⟨nD, S₄⟩ := back m' N' (lst ys c) h₃ h₄ S₃ hs₄
      exact ⟨h₄, tk₃, m₁, _, rfl, S₄, done ys N' hJ D c nD⟩
  have L := loop (tk₁ + ([] : List (Str × Value)).length)
  rw [henv] at L
  exact codeAny_compStart_list L (W.self 0 _ _ _ st₂ L)
/-- what a dict comprehension walks over -/
def CompOverD (C : Cx) (k : Nat) (xv : Value) (target kx vx : Expr) (ifs : List Expr) (scope : Scope) (cl : List (Str × Addr)) (m : Fm) (N : Hp) (Q : Value → Fm → Hp → Prop) : Prop :=
  ∃ n P src, Itb C N xv n P src ∧ n ≤ 1000000 ∧ ∃ J : Nat → List (Str × Value) → Hp → Prop, J 0 [] N ∧ (∀ b ∈ src, ∃ o, ∀ i ys N, J i ys N → N b = some o) ∧
    (∀ C₂, CompIn C k C₂ scope cl → ∀ i v ys m N, i < n → P i v → J i ys N → Run C₂ (assign target C₂.env v) m N fun _ m N => RunIfs C₂ ifs m N (fun m N => Run C₂ (eval kx C₂.env) m N fun kv m N => ∃ y t, kv = .str y t ∧ Run C₂ (eval vx C₂.env) m N fun vv _ N => J (i + 1) (stored ys y vv) N) (fun N => J (i + 1) ys N)) ∧
    ∀ ys N, J n ys N → ∀ D o, IsD C.w o ys → N D = none → Q (.ref D) m (upd N D o)

theorem r_dictComp {kx vx target iter : Expr} {ifs : List Expr} {scope : Scope} {cl : List (Str × Addr)} {pos : Pos} {Q : Value → Fm → Hp → Prop} (hC : Amb C k)
    (q : Run C (eval iter C.env) m N fun xv m' N' => CompOverD C k xv target kx vx ifs scope cl m' N' Q)
    (hclos : closureFor scope C.env = pure cl) (hcell : ∀ y ∈ scope.names, y.2 ≠ .cell) (hkind : scope.kind = .function) (hnames : ∀ y ∈ scope.names, y.2 = .local → scope.names.lookup y.1 = some .local)
    (hs : ∀ x, foldedSetIterable iter C.env x = pure x := by intro _; rfl) :
    Run C (eval (.DictComp kx vx [⟨target, iter, ifs, 0⟩] scope pos) C.env) m N Q := r_of fun R h tk S => by
  rw [arm_eval_DictComp]
  refine wpAny_comprehension_free (use := none) rfl hs hclos hkind hnames (wpAny_mono (q.go R h tk S) (fun xv s₁ hp => ?_) fun _ _ e => e.elim)
  obtain ⟨h₁, tk₁, m₁, N₁, rfl, S₁, n, P, src, it, hn, J, j0, stab, turn, done⟩ := hp
  refine wpAny_mono (it _ R h₁ tk₁ (fun itv s₂ => wpAny (model PR C.w) C.A newDict (fun acc s₃ => wpAny (model PR C.w) C.A (newFunctionEnv scope C.env.globals cl [] C.env.qual none .none (some C.env)) (fun cenv s₄ =>
      codeAny (model PR C.w) C.A (.compStart (.DictComp kx vx [⟨target, iter, ifs, 0⟩] scope pos) 0 itv acc { cenv with scope := relabel scope C.env }) (compPost (model PR C.w) C.A (fun _ _ => False) none (Post C R Q) acc cenv.locals) s₄) (fun _ _ => False) s₃) (fun _ _ => False) s₂) S₁ fun oI icls St W st0 hfree hIo hcls => ?_) (fun _ _ x => x) fun _ _ e => e
  have W := W C.A hC.handled
  refine wpAny_newObj_type (wpAny_newFunctionEnv hcell (by intro y hy; simp at hy) (fun h₂ hns hsb => ?_) hkind)
  dsimp only at hns hsb ⊢
  generalize hI : h₁.objs.size = I at *
  generalize hH : (h₁.push oI).push { cls := .type "dict", dict := none, data := .dict #[] } = H at hns hsb ⊢
  have hsz : (h₁.push oI).objs.size = I + 1 := by rw [Heap.size_push, hI]
  have hHs : H.objs.size = I + 2 := by rw [← hH, Heap.size_push, hsz]
  generalize hD : (h₁.push oI).objs.size = D at *
  generalize hCc : H.objs.size = Cc at *
  have q1 : I ≠ Cc := by omega
  have q2 : D ≠ Cc := by omega
  have q3 : I ≠ D := by omega
  have pushed : ∀ b o, (h₁.push oI).get? b = some o → h₂.get? b = some o := fun b o e => by
    have hb := Heap.lt_size e
    rw [hD] at hb
    exact hsb.extBut b o (Nat.ne_of_lt (Nat.lt_trans hb (show D < Cc by rw [hHs, hsz]; exact Nat.lt_succ_self _))) (Heap.get?_push_of_some _ (hH ▸ Heap.get?_push_of_some _ e))
  have keep : ∀ b o, h₁.get? b = some o → h₂.get? b = some o := fun b o e => pushed b o (Heap.get?_push_of_some _ e)
  have eI : h₂.get? I = some oI := pushed I oI (hI ▸ Heap.get?_push_size _ hfree)
  have eD : h₂.get? D = some { cls := .type "dict", dict := none, data := .dict #[] } := hsb.extBut _ _ q2 (Heap.get?_push_of_some _ (hH ▸ hD ▸ Heap.get?_push_size _ rfl))
  have dD : IsD C.w { cls := .type "dict", dict := none, data := .dict #[] } [] := ⟨#[], 0, ⟨rfl, rfl, rfl⟩, rfl, (fun _ he => by simp at he), .nil, .nil⟩
  obtain ⟨C₂, hC₂, hs₀, henv, hh₀, S₂, back⟩ := comp_enter (scope := scope) (cl := cl) (Cc := Cc) (I := I) (D := D) hC S₁ (by omega) (by omega) (by omega) q1 q2 keep eI eD hns
  obtain ⟨A₂, w₂, a₂, -⟩ := id hC₂
  have at₂ : ∀ h tk, C.at h tk = C₂.at h tk := fun h tk => by unfold Cx.at; rw [hs₀]
  have bI : C₂.h₀.get? I = none := by
    rw [hh₀]
    cases e : (hideAll h₁ (hidOf C N₁ h₁)).get? I with
    | none => rfl
    | some o => exact absurd (Heap.lt_size (of_hideAll _ e)) (by rw [hI]; exact Nat.lt_irrefl _)
  have bD : C₂.h₀.get? D = none := by
    rw [hh₀]
    cases e : (hideAll h₁ (hidOf C N₁ h₁)).get? D with
    | none => rfl
    | some o => exact absurd (Heap.lt_size (of_hideAll _ e)) (by rw [hI]; show ¬ (D < I); omega)
  generalize hg : (hideAll h₁ (hidOf C N₁ h₁)).get? = G at *
  have st₂ : St 0 h₂ := W.frame _ _ _ st0 fun b _ o e => pushed b o e
  have loop : ∀ tk, codeAny (model PR C.w) C.A (.compLoop (.DictComp kx vx [⟨target, iter, ifs, 0⟩] scope pos) 0 (.ref I) (.ref D) C₂.env) (compPost (model PR C.w) C.A (fun _ _ => False) none (Post C R Q) (.ref D) Cc) (C.at h₂ tk) := by
    intro tk
    refine codeAny_compLoop_ownD
      (fun k s' => ∃ h' tk' m' N' oI i ys c, s' = C.at h' tk' ∧ St i h' ∧ IsD C.w c ys ∧ Sat C₂ m' N' (upd (upd G I oI) D c) h' ∧ J i ys N' ∧ ys.length ≤ i ∧ i ≤ n ∧ k = n + 1 - i) ?_ (n + 1)
      ⟨h₂, tk, _, N₁, oI, 0, [], _, rfl, st₂, dD, S₂, j0, Nat.le_refl _, Nat.zero_le _, rfl⟩
    rintro k' s' ⟨h', tk', m', N', oI', i, ys, c, rfl, hst', hc, S', hJ, hy, hi, rfl⟩
    rw [← w₂, ← a₂] at W ⊢
    have next : ∀ h₁ : Heap, (∀ b o, b ∉ [I] → h'.get? b = some o → h₁.get? b = some o) → ∀ o, h₁.get? I = some o → Sat C₂ m' N' (upd (upd G I o) D c) h₁ := fun h₁ hk₁ o ho => by
      rw [upd_comm q3] at S' ⊢
      exact S'.rest (fun b o q e => hk₁ b o (by simpa using q) e) ho bI
    by_cases hlt : i < n
    · refine W.item i _ _ _ hlt hst' fun v h₃ tk₃ hP hst₃ hk₃ => ?_
      obtain ⟨oI₃, hoI₃, hcI⟩ := hIo _ _ hst₃
      have S₃ := next h₃ hk₃ oI₃ hoI₃
      refine letOwned_wp (C := C₂) hoI₃ hcI hcls ?_
      have tr := turn C₂ hC₂ i v ys m' N' hlt hP hJ
      rw [show ({ C.at h' tk' with heap := h₃, toks := tk₃ } : Shared) = C₂.at h₃ tk₃ from at₂ _ _]
      refine wpAny_mono (tr.go _ h₃ tk₃ S₃) (fun u s₄ hp => ?_) fun _ _ e => e.elim
      obtain ⟨h₄, tk₄, m₄, N₄, rfl, S₄, kk⟩ := hp
      refine wpAny_mono ((r_ifs kk).go _ h₄ tk₄ S₄) (fun ok s₅ hp => ?_) fun _ _ e => e.elim
      obtain ⟨h₅, tk₅, m₅, N₅, rfl, S₅, kk⟩ := hp
      have on : ∀ ys₆ c₆ h₆ m₆ N₆ tk₆, IsD C₂.w c₆ ys₆ → Sat C₂ m₆ N₆ (upd (upd G I oI₃) D c₆) h₆ → J (i + 1) ys₆ N₆ → ys₆.length ≤ i + 1 → ∃ k, k < n + 1 - i ∧ ∃ h' tk' m' N' oI i ys c, C₂.at h₆ tk₆ = C.at h' tk' ∧ St i h' ∧ IsD C₂.w c ys ∧ Sat C₂ m' N' (upd (upd G I oI) D c) h' ∧ J i ys N' ∧ ys.length ≤ i ∧ i ≤ n ∧ k = n + 1 - i := fun ys₆ c₆ h₆ m₆ N₆ tk₆ hc₆ S₆ j hy₆ => by
        refine ⟨n + 1 - (i + 1), by omega, h₆, tk₆, m₆, N₆, oI₃, i + 1, ys₆, c₆, (at₂ _ _).symm, ?_, hc₆, S₆, j, hy₆, hlt, rfl⟩
        refine W.frame _ _ _ hst₃ fun b hb o e => ?_
        rcases List.mem_cons.mp hb with rfl | hb
        · rw [hoI₃] at e
          cases e
          exact (S₆.fr _ _ (by rw [upd_ne q3]; exact upd_self)).1
        · obtain ⟨ob, hob⟩ := stab b hb
          have e1 := S₃.get (hob i ys N' hJ)
          rw [e] at e1
          cases e1
          exact S₆.get (hob (i + 1) ys₆ N₆ j)
      cases ok with
      | false =>
        simp only [Bool.false_eq_true, if_false] at kk ⊢
        exact on ys c h₅ m₅ N₅ tk₅ (w₂ ▸ hc) S₅ kk (by omega)
      | true =>
        simp only [if_true] at kk ⊢
        refine wpAny_mono (kk.go _ h₅ tk₅ S₅) (fun kv s₆ hp => ?_) fun _ _ e => e.elim
        obtain ⟨h₆, tk₆, m₆, N₆, rfl, S₆, y, ty, rfl, kk⟩ := hp
        refine wpAny_mono (kk.go _ h₆ tk₆ S₆) (fun vv s₇ hp => ?_) fun _ _ e => e.elim
        obtain ⟨h₇, tk₇, m₇, N₇, rfl, S₇, kk⟩ := hp
        refine wpAny_dictSet_pairs (knd := strKind PR C₂.w) (hsz := by rw [sizeLine_eq]; omega) (strKind_is PR C₂.w y ty) (Heap.dictOf_iff.mpr ⟨c, (S₇.fr _ _ upd_self).1, w₂ ▸ hc⟩) fun h₈ hp hs₈ => ?_
        obtain ⟨o₈, ho₈, hd₈⟩ := Heap.dictOf_iff.mp hp
        exact on (stored ys y vv) o₈ h₈ m₇ N₇ (tk₇ + 1) hd₈ (S₇.rest (fun b o q e => hs₈.extBut b o q e) ho₈ bD) kk (by have := stored_length_le ys y vv; omega)
    · have hin : i = n := by omega
      subst hin
      refine W.done _ _ _ hst' fun h₃ tk₃ hk₃ => ?_
      have nI : upd G D c I = none := by rw [upd_ne q3, ← hg]; exact hh₀ ▸ bI
      rw [upd_comm q3] at S'
      have S₃ := S'.drop (fun b o q e => hk₃ b o (by simpa using q) e) nI bI
      have hL : C₂.env.locals = Cc := by rw [henv]; rfl
      refine ⟨m', hL ▸ S₃.ns, fun h₄ hs₄ => ?_⟩
      obtain ⟨nD, S₄⟩ := back m' N' c h₃ h₄ S₃ hs₄
      exact ⟨h₄, tk₃, m₁, _, rfl, S₄, done ys N' hJ D c hc nD⟩
  have L := loop (tk₁ + ([] : List (Str × Value)).length)
  rw [henv] at L
  exact codeAny_compStart_dict L (W.self 0 _ _ _ st₂ L)
end
end Mine

namespace Mine
open PySem PySem.Challenge
/-! the written part: where the defs lie -/
theorem lk39 (P : Params) : (K P).lookup 39 = some (o39 P) := by kernel_rfl
theorem lk46 (P : Params) : (K P).lookup 46 = some (o46 P) := by kernel_rfl
theorem lk62 (P : Params) : (K P).lookup 62 = some (o62 P) := by kernel_rfl
theorem lk111 (P : Params) : (K P).lookup 111 = some (o111 P) := by kernel_rfl
theorem lk137 (P : Params) : (K P).lookup 137 = some (o137 P) := by kernel_rfl
theorem lk166 (P : Params) : (K P).lookup 166 = some (o166 P) := by kernel_rfl
theorem lk174 (P : Params) : (K P).lookup 174 = some (o174 P) := by kernel_rfl
theorem lk223 (P : Params) : (K P).lookup 223 = some (o223 P) := by kernel_rfl
theorem lk230 (P : Params) : (K P).lookup 230 = some (o230 P) := by kernel_rfl
theorem lk231 (P : Params) : (K P).lookup 231 = some (o231 P) := by kernel_rfl
theorem lk55 (P : Params) : (K P).lookup 55 = some (o55 P) := by kernel_rfl
theorem lk54 (P : Params) : (K P).lookup 54 = some (o54 P) := by kernel_rfl
theorem lk159 (P : Params) : (K P).lookup 159 = some (o159 P) := by kernel_rfl
theorem lk167 (P : Params) : (K P).lookup 167 = some (o167 P) := by kernel_rfl
theorem lk238 (P : Params) : (K P).lookup 238 = some (o238 P) := by kernel_rfl
theorem lk253 (P : Params) : (K P).lookup 253 = some (o253 P) := by kernel_rfl
theorem lk254 (P : Params) : (K P).lookup 254 = some (o254 P) := by kernel_rfl
theorem lk261 (P : Params) : (K P).lookup 261 = some (o261 P) := by kernel_rfl
theorem lk266 (P : Params) : (K P).lookup 266 = some (o266 P) := by kernel_rfl
theorem lk273 (P : Params) : (K P).lookup 273 = some (o273 P) := by kernel_rfl
theorem lk280 (P : Params) : (K P).lookup 280 = some (o280 P) := by kernel_rfl
theorem lk285 (P : Params) : (K P).lookup 285 = some (o285 P) := by kernel_rfl

section
variable {C : Cx} {m m' : Fm} {N N' R : Hp} {a l d x : Addr} {k n : Nat} {vs : List Value}
theorem callee_env {C C' : Cx} {qual : Str} {st : Stmt} {f cdA : Addr} {k : Nat} (h : Callee C qual st f cdA C' k) (hk : (scopeOf st).kind = .function) : FEnv C' := by
  obtain ⟨_, _, L, e, _⟩ := h
  exact ⟨by rw [e]; exact hk, by rw [e]; rfl, by rw [e]; rfl⟩
theorem callee_kind {C C' : Cx} {qual : Str} {st : Stmt} {f cdA : Addr} {k : Nat} (h : Callee C qual st f cdA C' k) {x : Str} {r : Option NameKind} (hk : (scopeOf st).names.lookup x = r) : C'.env.kindOf x = r := by
  obtain ⟨_, _, L, e, _⟩ := h
  rw [e]; exact hk
end
end Mine

namespace Mine
open PySem PySem.Challenge

section
variable {C : Cx} {m m' : Fm} {N N' R : Hp} {a l d x : Addr} {k n : Nat} {vs : List Value}
theorem r_listSet {i : Nat} {j : Int} {t : Tok} {v : Value} {Q : Unit → Fm → Hp → Prop} (e : N l = some (lst vs n)) (hj : j = (i : Int)) (hi : i < vs.length) (hz : i < 1000000) (q : Q () m (upd N l (lst (vs.set i v) n))) : Run C (setItem (.ref l) (.int j t) v) m N Q := r_of fun R h tk S => by
  subst hj
  refine ki_setAt (S.get e) (by omega) (by omega) (by rw [List.size_toArray]; omega) ?_
  have hu := PySem.IsL.update (S.get e) (fun xs => xs.setIfInBounds ((i : Int)).toNat v)
  have he : (vs.toArray.setIfInBounds ((i : Int)).toNat v) = (vs.set i v).toArray := by simp
  rw [he] at hu
  have hs : ((vs.set i v).toArray.size == vs.toArray.size) = true := by simp
  rw [hs] at hu
  exact Post.intro (S.write e (Heap.SameBut.update ..) hu) q
theorem r_consM {st : Stmt} {rest : List Stmt} {Q : Flow → Fm → Hp → Prop} (Mid : Fm → Hp → Prop) (q : Run C (exec st C.env) m N fun fl m' N' => fl = .next ∧ Mid m' N') (k : ∀ m' N', Mid m' N' → Run C (execs rest C.env) m' N' Q) :
    Run C (execs (st :: rest) C.env) m N Q := r_cons (r_mono q fun fl m' N' ⟨e, h⟩ => by rw [e]; exact k m' N' h)
/-- forget how the names came -/
theorem r_genm {α : Type} {t : Sem α} {m₀ : Fm} {Q : α → Fm → Hp → Prop} (F : Fm → Prop) (hF : F m₀) (h : ∀ m, F m → Run C t m N Q) : Run C t m₀ N Q := h _ hF
theorem r_neInt {i j : Int} {t u : Tok} {Q : Value → Fm → Hp → Prop} (q : Q (.bool (i != j)) m N) : Run C (compareOp .NotEq (.int i t) (.int j u)) m N Q := r_of fun R h tk S => PyProof.Rows.ne_int (Post.intro S q)
theorem r_ltInt {i j : Int} {t u : Tok} {Q : Value → Fm → Hp → Prop} (q : Q (.bool (decide (i < j))) m N) : Run C (compareOp .Lt (.int i t) (.int j u)) m N Q := r_of fun R h tk S => PyProof.Rows.lt_int (Post.intro S q)
theorem r_geInt {i j : Int} {t u : Tok} {Q : Value → Fm → Hp → Prop} (q : Q (.bool (decide (i ≥ j))) m N) : Run C (compareOp .GtE (.int i t) (.int j u)) m N Q := r_of fun R h tk S => PySem.P.ge_int (Post.intro S q)
theorem r_gtInt {i j : Int} {t u : Tok} {Q : Value → Fm → Hp → Prop} (q : Q (.bool (decide (i > j))) m N) : Run C (compareOp .Gt (.int i t) (.int j u)) m N Q := r_of fun R h tk S => PySem.P.gt_int (Post.intro S q)
/-! ranges -/
abbrev rng (a b : Int) (t u v : Tok) : Obj := { cls := .type "range", dict := none, data := .fields #[.int a t, .int b u, .int 1 v], slots := #[] }
theorem r_range1 {i : Int} {t : Tok} {Q : Value → Fm → Hp → Prop} (q : ∀ r t u v, N r = none → Q (.ref r) m (upd N r (rng 0 i t u v))) : Run C (call (.type "range") [.int i t]) m N Q := r_of fun R h tk S =>
  PySem.call_range_1 (by
    have S' := S.push (rng 0 i tk t (tk + 1))
    exact Post.intro (tk' := tk + 1 + 1) S'.2 (q _ _ _ _ S'.1))
theorem r_range2 {i j : Int} {t u : Tok} {Q : Value → Fm → Hp → Prop} (q : ∀ r t u v, N r = none → Q (.ref r) m (upd N r (rng i j t u v))) : Run C (call (.type "range") [.int i t, .int j u]) m N Q := r_of fun R h tk S =>
  PySem.call_range_2 (by
    have S' := S.push (rng i j t u tk)
    exact Post.intro (tk' := tk + 1) S'.2 (q _ _ _ _ S'.1))
theorem itb_range {i j : Int} {t u v : Tok} {r : Addr} (e : N r = some (rng i j t u v)) (h1 : i ≤ j) (hs : Builtin.Range.small i j 1 = true) : Itb C N (.ref r) (j - i).toNat (fun k w => ∃ t, w = .int (i + (k : Int)) t) [] := fun m R h tk Q S hQ => by
  have hz : Builtin.Range.rangeSize i j 1 = (((j - i).toNat : Nat) : Int) := by
    unfold Builtin.Range.rangeSize
    rw [if_pos (by decide)]
    split <;> omega
  refine wpAny_pyIter_range (S.get e) hs (hQ _ "range_iterator" (fun k h' => IsRangeIter h' h.objs.size (i + (k : Nat) * 1) (((j - i).toNat : Int) - (k : Nat)) 1) (fun A' hA => by
    have W := Walks.range (prog := PR) (w := C.w) hA h.objs.size i 1 (j - i).toNat
    exact ⟨W.sub, W.frame, fun k s Q E hi st hq => W.item k s Q E hi st fun v h' tk hp => hq v h' tk (by obtain ⟨t, rfl⟩ := hp; exact ⟨t, by rw [Int.mul_one]⟩), W.done, W.self⟩) ?_ rfl (fun k h' st => ⟨_, st, rfl⟩) (by decide))
  have := Heap.get?_push_size h (o := { cls := .type "range_iterator", data := .fields #[rawInt i, rawInt (Builtin.Range.rangeSize i j 1), rawInt 1] }) rfl
  rw [hz] at this ⊢
  simpa using this
end
/-! two lists in step -/
def AllAt {α β : Type} (P : α → β → Prop) (xs : List α) (ys : List β) : Prop := xs.length = ys.length ∧ ∀ (i : Nat) x y, xs[i]? = some x → ys[i]? = some y → P x y
section
variable {α β : Type} {P P' : α → β → Prop} {xs : List α} {ys : List β}
theorem AllAt.get (h : AllAt P xs ys) {i : Nat} {x : α} (e : xs[i]? = some x) : ∃ y, ys[i]? = some y ∧ P x y := by
  have hi : i < ys.length := by rw [← h.1]; exact (List.getElem?_eq_some_iff.mp e).1
  exact ⟨ys[i], List.getElem?_eq_getElem hi, h.2 i _ _ e (List.getElem?_eq_getElem hi)⟩
theorem AllAt.get' (h : AllAt P xs ys) {i : Nat} {y : β} (e : ys[i]? = some y) : ∃ x, xs[i]? = some x ∧ P x y := by
  have hi : i < xs.length := by rw [h.1]; exact (List.getElem?_eq_some_iff.mp e).1
  exact ⟨xs[i], List.getElem?_eq_getElem hi, h.2 i _ _ (List.getElem?_eq_getElem hi) e⟩
theorem AllAt.mono (h : AllAt P xs ys) (f : ∀ x y, P x y → P' x y) : AllAt P' xs ys := ⟨h.1, fun i x y a b => f x y (h.2 i x y a b)⟩
theorem AllAt.nil : AllAt P ([] : List α) ([] : List β) := ⟨rfl, fun i x y e => by simp at e⟩
theorem AllAt.snoc (h : AllAt P xs ys) {x : α} {y : β} (p : P x y) : AllAt P (xs ++ [x]) (ys ++ [y]) := by
  refine ⟨by rw [List.length_append, List.length_append, h.1]; rfl, fun i a b ea eb => ?_⟩
  have hl := h.1
  rcases Nat.lt_or_ge i xs.length with hi | hi
  · rw [List.getElem?_append_left hi] at ea
    rw [List.getElem?_append_left (hl ▸ hi)] at eb
    exact h.2 i a b ea eb
  · rw [List.getElem?_append_right hi] at ea
    rw [List.getElem?_append_right (hl ▸ hi)] at eb
    rw [← hl] at eb
    cases hz : i - xs.length with
    | zero => rw [hz] at ea eb; cases ea; cases eb; exact p
    | succ q => rw [hz] at ea; simp at ea
theorem AllAt.cons {x : α} {y : β} (p : P x y) (h : AllAt P xs ys) : AllAt P (x :: xs) (y :: ys) := by
  refine ⟨by rw [List.length_cons, List.length_cons, h.1], fun i a b ea eb => ?_⟩
  cases i with
  | zero => simp at ea eb; rw [← ea, ← eb]; exact p
  | succ i => exact h.2 i a b (by simpa using ea) (by simpa using eb)
end

/-! masks as Nats -/
theorem bitAnd_nat (a b : Nat) : Builtin.bitAnd (a : Int) (b : Int) = ((a &&& b : Nat) : Int) := by simp [Builtin.bitAnd]
theorem bitOr_nat (a b : Nat) : Builtin.bitOr (a : Int) (b : Int) = ((a ||| b : Nat) : Int) := by
  have nn : ∀ z : Int, Builtin.bitNot (Builtin.bitNot z) = z := fun z => by unfold Builtin.bitNot; omega
  have h1 : ¬ (0 : Int) ≤ Builtin.bitNot (a : Int) := by unfold Builtin.bitNot; omega
  have h2 : ¬ (0 : Int) ≤ Builtin.bitNot (b : Int) := by unfold Builtin.bitNot; omega
  unfold Builtin.bitOr
  rw [bitAnd_nn h1 h2, nn, nn, nn]
  rfl
theorem ints_at : ∀ {vs : List Value} {ss : List Int} {i : Nat} {v : Value}, IntsAre vs ss → vs[i]? = some v → ∃ s t, v = .int s t ∧ ss[i]? = some s
  | _, _, 0, v, .cons s t h, e => ⟨s, t, (by simpa using e.symm), rfl⟩
  | _, _, i + 1, v, .cons s t h, e => by simpa using ints_at h (by simpa using e)
theorem strs_at : ∀ {vs : List Value} {ss : List Str} {i : Nat} {v : Value}, StrsAre vs ss → vs[i]? = some v → ∃ s t, v = .str s t ∧ ss[i]? = some s
  | _, _, 0, v, .cons s t h, e => ⟨s, t, (by simpa using e.symm), rfl⟩
  | _, _, i + 1, v, .cons s t h, e => by simpa using strs_at h (by simpa using e)
/-- a list of small ints told as Nats -/
abbrev NatsAre (vs : List Value) (ss : List Nat) : Prop := IntsAre vs (ss.map fun (s : Nat) => (s : Int))
theorem nats_at {vs : List Value} {ss : List Nat} {i : Nat} {v : Value} (h : NatsAre vs ss) (e : vs[i]? = some v) : ∃ (s : Nat) (t : Tok), v = .int (s : Int) t ∧ ss[i]? = some s := by
  obtain ⟨s, t, rfl, hs⟩ := ints_at h e
  rw [List.getElem?_map] at hs
  cases q : ss[i]? with
  | none => rw [q] at hs; cases hs
  | some z => rw [q] at hs; cases hs; exact ⟨z, t, rfl, rfl⟩
theorem IntsAre.snoc' : ∀ {vs : List Value} {ns : List Int} (i : Int) (t : Tok), IntsAre vs ns → IntsAre (vs ++ [.int i t]) (ns ++ [i])
  | _, _, i, t, .nil => .cons i t .nil
  | _, _, i, t, .cons a b h => .cons a b (IntsAre.snoc' i t h)
theorem StrsAre.snoc' : ∀ {vs : List Value} {ns : List Str} (i : Str) (t : Tok), StrsAre vs ns → StrsAre (vs ++ [.str i t]) (ns ++ [i])
  | _, _, i, t, .nil => .cons i t .nil
  | _, _, i, t, .cons a b h => .cons a b (StrsAre.snoc' i t h)
theorem StrsAre.len : ∀ {vs : List Value} {ns : List Str}, StrsAre vs ns → vs.length = ns.length
  | _, _, .nil => rfl
  | _, _, .cons _ _ h => congrArg Nat.succ (StrsAre.len h)
end Mine

namespace Mine
open PySem PySem.Challenge

section
variable {C : Cx} {m m' : Fm} {N N' R : Hp} {a l d x : Addr} {k n : Nat} {vs : List Value}

/-! _law_draw -/
def DrawP (N : Hp) (t : Addr) (vs : List Value) (v : Value) (N' : Hp) : Prop := (vs = [] ∧ (∃ u, v = .int 0 u) ∧ N' = N) ∨ ∃ r n', vs = v :: r ∧ N' = upd N t (lst r n')

set_option maxHeartbeats 400000 in
theorem draw_call (hC : Amb C (k + 1)) {t : Addr} (e : N t = some (lst vs n)) (hz : vs.length ≤ 1000) {Q : Value → Fm → Hp → Prop} (q : ∀ v N', DrawP N t vs v N' → Q v m N') : Run C (call (.ref 261) [.ref t]) m N Q := by
  refine r_call (cr_call_def (P := DrawP N t vs) hC (S 13) "_law_draw" [("tape", .ref t)] (lk261 _) (by kernel_rfl) (fun s _ => BindsTo.of_eq (by kernel_rfl)) (locs (by kernel_rfl)) (by decide +kernel) (by kernel_rfl) (by kernel_rfl) (by kernel_rfl) (fun C' hC' => ?_) q)
  have fe := callee_env hC' (by kernel_rfl)
  have kt : C'.env.kindOf "tape" = some .local := callee_kind hC' (by kernel_rfl)
  with_unfolding_all refine r_one (r_ret (r_ifExp (r_tPlain ?_)))
  refine r_name fe kt rfl (r_truthList e (by omega) ?_)
  cases vs with
  | nil =>
    refine r_int fun u => ?_
    exact .inl ⟨rfl, ⟨u, rfl⟩, rfl⟩
  | cons v r =>
    refine r_mcall (r_name fe kt rfl ⟨_, _, gm_list e PySem.F.slot_list_pop PySem.F.type_list_pop, kf_builtin, ?_⟩)
    refine r_splCons (r_int fun u => r_splNil ?_)
    refine r_pop0 e (by simp at hz; omega) fun n' => ?_
    exact .inr ⟨r, n', rfl, rfl⟩

/-! _law_read -/
structure WaysAt (N : Hp) (a : Addr) (ls : List Addr) (W : List (Nat × Nat)) : Prop where
  top : ∃ n, N a = some (lst (ls.map .ref) n)
  len : ls.length = W.length
  row : ∀ (i : Nat) (l : Addr) (p : Nat × Nat), ls[i]? = some l → W[i]? = some p → ∃ t u n, N l = some (lst [.int (p.1 : Int) t, .int (p.2 : Int) u] n)
  nd : ls.Nodup
  ni : a ∉ ls
def readStep (W : List (Nat × Nat)) (mask s : Nat) : Nat :=
  let l := mask &&& 60
  let l := if mask &&& 1 ≠ 0 then l ||| (W.getD s (0, 0)).1 else l
  if mask &&& 2 ≠ 0 then l ||| (W.getD s (0, 0)).2 else l
def readM (W : List (Nat × Nat)) (mask : Nat) (ss : List Nat) : Nat := ss.foldl (readStep W) mask
theorem readM_snoc (W : List (Nat × Nat)) (mask : Nat) (ss : List Nat) (s : Nat) : readM W mask (ss ++ [s]) = readStep W (readM W mask ss) s := by
  unfold readM; rw [List.foldl_append]; rfl
set_option maxHeartbeats 400000 in
theorem ways_item {C : Cx} {m : Fm} {N : Hp} {wa : Addr} {ls : List Addr} {W : List (Nat × Nat)} {s : Nat} {x y : Expr} {c : Nat} {p1 p2 p4 : Pos} {Q : Value → Fm → Hp → Prop} (fe : FEnv C) (hw : WaysAt N wa ls W) (h7 : s < W.length) (hz : W.length ≤ 7)
    (hww : C.env.kindOf "ways" = some .local) (mw : m "ways" = some (.ref wa)) (hc : c = 0 ∨ c = 1)
    (ex : ∀ P, (∀ t, P (.int (s : Int) t) m N) → Run C (eval x C.env) m N P) (hns : ∀ o i, subscripted x false o i = operate [o, i] (getItem o i))
    (ey : ∀ P, (∀ t, P (.int (c : Int) t) m N) → Run C (eval y C.env) m N P) (hny : ∀ o i, subscripted y false o i = operate [o, i] (getItem o i))
    (q : ∀ t, Q (.int ((if c = 0 then (W.getD s (0, 0)).1 else (W.getD s (0, 0)).2 : Nat) : Int) t) m N) :
    Run C (eval (.Subscript (.Subscript (.Name "ways" p1) x p2) y p4) C.env) m N Q := by
  obtain ⟨n, ht⟩ := hw.top
  have hjl : s < ls.length := by rw [hw.len]; exact h7
  have hl : ls[s]? = some ls[s] := List.getElem?_eq_getElem hjl
  have hW : W[s]? = some W[s] := List.getElem?_eq_getElem h7
  obtain ⟨t, u, n', hr⟩ := hw.row s _ _ hl hW
  have hd : W.getD s (0, 0) = W[s] := by rw [List.getD_eq_getElem?_getD, hW]; rfl
  refine r_sub (r_sub (r_name fe hww mw (ex _ fun t9 => ⟨hi_list (seen_own ht), r_listGet ht rfl (by rw [List.getElem?_map, hl]; rfl) (by omega) ?_⟩)) hns) hny
  refine ey _ fun t' => ⟨hi_list (seen_own hr), ?_⟩
  rw [hd] at q
  rcases hc with rfl | rfl
  · exact r_listGet (i := 0) hr rfl rfl (by omega) (by simpa using q t)
  · exact r_listGet (i := 1) hr rfl rfl (by omega) (by simpa using q u)

local macro_rules | `(tactic| walk_at "ms") => `(tactic| first | assumption | exact mset_self | (refine (mset_ne (by decide)).trans ?_; walk_at "ms"))

set_option maxHeartbeats 1000000 in
theorem read_call (hC : Amb C (k + 1)) {sy wa : Addr} {ss : List Nat} {mask : Nat} {t : Tok} {ls : List Addr} {W : List (Nat × Nat)} (hs : N sy = some (tup vs n)) (hi : NatsAre vs ss) (hr : ∀ s ∈ ss, s < 7) (hw : WaysAt N wa ls W) (hz : W.length = 7)
    {Q : Value → Fm → Hp → Prop} (q : ∀ t, Q (.int (readM W mask ss : Nat) t) m N) : Run C (call (.ref 273) [.ref sy, .int (mask : Int) t, .ref wa]) m N Q := by
  refine r_call (cr_call_def (P := fun v N' => (∃ t, v = .int (readM W mask ss : Nat) t) ∧ N' = N) hC (S 15) "_law_read" [("symbols", .ref sy), ("mask", .int (mask : Int) t), ("ways", .ref wa)] (lk273 _) (by kernel_rfl) (fun s _ => BindsTo.of_eq (by kernel_rfl)) (locs (by kernel_rfl)) (by decide +kernel) (by kernel_rfl) (by kernel_rfl) (by kernel_rfl) (fun C' hC' => ?_)
    (fun v N' ⟨⟨t, e⟩, e'⟩ => by rw [e, e']; exact q t))
  have fe := callee_env hC' (by kernel_rfl)
  have k1 : C'.env.kindOf "symbols" = some .local := callee_kind hC' (by kernel_rfl)
  have k2 : C'.env.kindOf "mask" = some .local := callee_kind hC' (by kernel_rfl)
  have k3 : C'.env.kindOf "ways" = some .local := callee_kind hC' (by kernel_rfl)
  have k4 : C'.env.kindOf "s" = some .local := callee_kind hC' (by kernel_rfl)
  have k5 : C'.env.kindOf "later" = some .local := callee_kind hC' (by kernel_rfl)
  have hh := hC'.1.handled
  have hlen : vs.length = ss.length := by have := hi.length; rwa [List.length_map] at this
  with_unfolding_all refine r_cons (r_for hh ?_)
  refine r_name fe k1 rfl ?_
  refine ⟨_, _, _, itb_tuple hs, fun i m N' => N' = N ∧ m "symbols" = some (.ref sy) ∧ m "ways" = some (.ref wa) ∧ ∃ t, m "mask" = some (.int (readM W mask (ss.take i) : Nat) t), ⟨rfl, rfl, rfl, t, rfl⟩, ?_, ?_, ?_⟩
  · intro b hb
    rw [List.mem_singleton.mp hb]
    exact ⟨_, fun i m N' h => h.1 ▸ hs⟩
  · rintro i v m N' hlt hv ⟨rfl, ms, mw, t', mm⟩
    obtain ⟨s, ts, rfl, hsi⟩ := nats_at hi hv
    have hsr := hr s (List.mem_of_getElem? hsi)
    have htake : ss.take (i + 1) = ss.take i ++ [s] := by rw [List.take_add_one, hsi]; rfl
    generalize hmk : readM W mask (ss.take i) = mk at mm
    refine r_asName fe k4 ?_
    refine r_cons (r_assign fe k5 (r_binop (r_name fe k2 (by walk_at "ms") (r_int fun t1 => r_andInt fun t2 => ?_))))
    rw [show (60 : Int) = ((60 : Nat) : Int) from rfl, bitAnd_nat]
    refine r_consM (fun m' N'' => N'' = N' ∧ m' "symbols" = some (.ref sy) ∧ m' "ways" = some (.ref wa) ∧ m' "mask" = some (.int (mk : Int) t') ∧ m' "s" = some (.int (s : Int) ts) ∧
      ∃ t, m' "later" = some (.int ((if mk &&& 1 ≠ 0 then (mk &&& 60) ||| (W.getD s (0, 0)).1 else mk &&& 60 : Nat) : Int) t))
      (r_ifS (r_tPlain (r_binop (r_name fe k2 (by walk_at "ms") (r_int fun t3 => r_andInt fun t4 => r_truthInt ?_))))) ?_
    · rw [show (1 : Int) = ((1 : Nat) : Int) from rfl, bitAnd_nat]
      by_cases hb : mk &&& 1 = 0
      · rw [if_neg (by rw [hb]; decide)]
        refine r_nil ⟨rfl, rfl, by walk_at "ms", by walk_at "ms", by walk_at "ms", by walk_at "ms", t2, ?_⟩
        rw [if_neg (fun q => q hb)]
        exact mset_self
      · rw [if_pos (by simp only [bne_iff_ne, ne_eq]; omega)]
        refine r_one (r_assign fe k5 (r_binop (r_name fe k5 mset_self (ways_item (s := s) (c := 0) fe hw (by omega) (by omega) k3 (by walk_at "ms") (.inl rfl) (fun P hP => r_name fe k4 (by walk_at "ms") (hP _)) (by intro _ _; rfl) (fun P hP => r_int hP) (by intro _ _; rfl) fun t5 => r_orInt fun t6 => ?_))))
        rw [bitOr_nat]
        refine ⟨rfl, rfl, by walk_at "ms", by walk_at "ms", by walk_at "ms", by walk_at "ms", t6, ?_⟩
        rw [if_pos hb]
        exact mset_self
    rintro m1 N1 ⟨rfl, ms, mw, mm, mss, t7, ml⟩
    refine r_consM (fun m' N'' => N'' = N1 ∧ m' "symbols" = some (.ref sy) ∧ m' "ways" = some (.ref wa) ∧ ∃ t, m' "later" = some (.int (readStep W mk s : Nat) t))
      (r_ifS (r_tPlain (r_binop (r_name fe k2 (by walk_at "ms") (r_int fun t3 => r_andInt fun t4 => r_truthInt ?_))))) ?_
    · rw [show (2 : Int) = ((2 : Nat) : Int) from rfl, bitAnd_nat]
      by_cases hb : mk &&& 2 = 0
      · rw [if_neg (by rw [hb]; decide)]
        refine r_nil ⟨rfl, rfl, by walk_at "ms", by walk_at "ms", t7, ?_⟩
        unfold readStep
        dsimp only
        rw [if_neg (fun q => q hb)]
        exact ml
      · rw [if_pos (by simp only [bne_iff_ne, ne_eq]; omega)]
        refine r_one (r_assign fe k5 (r_binop (r_name fe k5 ml (ways_item (s := s) (c := 1) fe hw (by omega) (by omega) k3 (by walk_at "ms") (.inr rfl) (fun P hP => r_name fe k4 (by walk_at "ms") (hP _)) (by intro _ _; rfl) (fun P hP => r_int hP) (by intro _ _; rfl) fun t5 => r_orInt fun t6 => ?_))))
        rw [bitOr_nat]
        refine ⟨rfl, rfl, by walk_at "ms", by walk_at "ms", t6, ?_⟩
        unfold readStep
        dsimp only
        rw [if_pos hb]
        exact mset_self
    rintro m2 N2 ⟨rfl, ms, mw, t8, ml⟩
    refine r_one (r_assign fe k2 (r_name fe k5 ml ?_))
    refine ⟨rfl, by walk_at "ms", by walk_at "ms", t8, ?_⟩
    rw [htake, readM_snoc, hmk]
    exact mset_self
  · rw [hlen]
    rintro m N' ⟨rfl, ms, mw, t', mm⟩
    rw [List.take_length] at mm
    refine r_nil ?_
    refine r_one (r_ret (r_name fe k2 mm ?_))
    exact ⟨⟨t', rfl⟩, rfl⟩
end
end Mine

namespace Mine
open PySem PySem.Challenge
local macro_rules | `(tactic| walk_at "ms") => `(tactic| first | assumption | exact mset_self | (refine (mset_ne (by decide)).trans ?_; walk_at "ms"))

/-! the rules, told -/
abbrev Rl := Nat × List Nat
def RowAt (N : Hp) (v : Value) (p : Rl) : Prop := ∃ r sy t c c' ss, v = .ref r ∧ N r = some (tup [.int (p.1 : Int) t, .ref sy] c) ∧ N sy = some (tup ss c') ∧ NatsAre ss p.2
def RulesAt (N : Hp) (a : Addr) (rs : List Rl) : Prop := ∃ vs n, N a = some (lst vs n) ∧ AllAt (RowAt N) vs rs
theorem RowAt.le {N N' : Hp} (l : Le N N') {v : Value} {p : Rl} (h : RowAt N v p) : RowAt N' v p :=
  let ⟨r, sy, t, c, c', ss, e, h1, h2, h3⟩ := h; ⟨r, sy, t, c, c', ss, e, l _ _ h1, l _ _ h2, h3⟩
theorem RulesAt.le {N N' : Hp} (l : Le N N') {a : Addr} {rs : List Rl} (h : RulesAt N a rs) : RulesAt N' a rs :=
  let ⟨vs, n, e, h1⟩ := h; ⟨vs, n, l _ _ e, h1.mono fun _ _ => RowAt.le l⟩
def RulesOk (rs : List Rl) : Prop := ∀ r ∈ rs, r.1 < 3 ∧ r.2.length ≤ 4 ∧ ∀ s ∈ r.2, s < 7

/-! the ways, as Nats -/
abbrev Wy := List (Nat × Nat)
def wyInit (mk : Nat) : Wy := ([(1, 0), (1, 0), (1, 0), (1, 4), (1, 8), (1, 16), (1, 32)] : Wy).set mk (3, 0)
def cellW (W : Wy) (i k : Nat) : Nat := if k = 0 then (W.getD i (0, 0)).1 else (W.getD i (0, 0)).2
def setW (W : Wy) (i k v : Nat) : Wy := if k = 0 then W.set i (v, (W.getD i (0, 0)).2) else W.set i ((W.getD i (0, 0)).1, v)
def gotW (W : Wy) (r : Rl) (k : Nat) : Nat := cellW W r.1 k ||| readM W (k + 1) r.2
inductive Reach (rs : List Rl) (mk : Nat) : Wy → Prop
  | init : Reach rs mk (wyInit mk)
  | step {W : Wy} {r : Rl} {k : Nat} : Reach rs mk W → r ∈ rs → k < 2 → gotW W r k ≠ cellW W r.1 k → Reach rs mk (setW W r.1 k (gotW W r k))
def ClosedAt (W : Wy) (r : Rl) (k : Nat) : Prop := gotW W r k = cellW W r.1 k
def SmallW (W : Wy) : Prop := W.length = 7 ∧ ∀ p ∈ W, p.1 < 64 ∧ p.2 < 64
theorem getD_small {W : Wy} (h : SmallW W) (i : Nat) : (W.getD i (0, 0)).1 < 64 ∧ (W.getD i (0, 0)).2 < 64 := by
  rw [List.getD_eq_getElem?_getD]
  cases e : W[i]? with
  | none => exact ⟨by decide, by decide⟩
  | some p => exact h.2 p (List.mem_of_getElem? e)
theorem cellW_small {W : Wy} (h : SmallW W) (i k : Nat) : cellW W i k < 64 := by
  unfold cellW
  split
  · exact (getD_small h i).1
  · exact (getD_small h i).2
theorem readStep_small {W : Wy} (h : SmallW W) (mask s : Nat) : readStep W mask s < 64 := by
  unfold readStep
  have h0 : mask &&& 60 < 64 := Nat.lt_of_le_of_lt Nat.and_le_right (by decide)
  have h1 := getD_small h s
  dsimp only
  split <;> split <;> first | exact h0 | exact Nat.or_lt_two_pow (n := 6) (Nat.or_lt_two_pow (n := 6) h0 h1.1) h1.2 | exact Nat.or_lt_two_pow (n := 6) h0 h1.1 | exact Nat.or_lt_two_pow (n := 6) h0 h1.2
theorem readM_small {W : Wy} (h : SmallW W) : ∀ (ss : List Nat) (mask : Nat), mask < 64 → readM W mask ss < 64
  | [], mask, hm => hm
  | s :: r, mask, hm => readM_small h r (readStep W mask s) (readStep_small h mask s)
theorem gotW_small {W : Wy} (h : SmallW W) (r : Rl) {k : Nat} (hk : k < 2) : gotW W r k < 64 := Nat.or_lt_two_pow (n := 6) (cellW_small h _ _) (readM_small h _ _ (by omega))
theorem setW_small {W : Wy} (h : SmallW W) (i k : Nat) {v : Nat} (hv : v < 64) : SmallW (setW W i k v) := by
  have g := getD_small h i
  unfold setW
  split
  · refine ⟨by rw [List.length_set]; exact h.1, fun p hp => ?_⟩
    rcases List.mem_or_eq_of_mem_set hp with hp | rfl
    · exact h.2 p hp
    · exact ⟨hv, g.2⟩
  · refine ⟨by rw [List.length_set]; exact h.1, fun p hp => ?_⟩
    rcases List.mem_or_eq_of_mem_set hp with hp | rfl
    · exact h.2 p hp
    · exact ⟨g.1, hv⟩
theorem wyInit_small (mk : Nat) (h : mk < 3) : SmallW (wyInit mk) := by
  have : mk = 0 ∨ mk = 1 ∨ mk = 2 := by omega
  rcases this with rfl | rfl | rfl <;> exact ⟨rfl, by decide⟩
theorem Reach.small {rs : List Rl} {mk : Nat} (hmk : mk < 3) {W : Wy} (h : Reach rs mk W) : SmallW W := by
  induction h with
  | init => exact wyInit_small mk hmk
  | step _ _ hk _ ih => exact setW_small ih _ _ (gotW_small ih _ hk)
def mea (W : Wy) : Nat := (W.map fun p => (64 - p.1) + (64 - p.2)).sum
theorem mea_set : ∀ (W : Wy) (i : Nat) (p q : Nat × Nat), W[i]? = some p → (64 - q.1) + (64 - q.2) < (64 - p.1) + (64 - p.2) → mea (W.set i q) < mea W
  | [], i, p, q, e, _ => by simp at e
  | a :: W, 0, p, q, e, h => by
    simp at e
    subst e
    simp only [mea, List.set_cons_zero, List.map_cons, List.sum_cons]
    omega
  | a :: W, i + 1, p, q, e, h => by
    have := mea_set W i p q (by simpa using e) h
    simp only [mea, List.set_cons_succ, List.map_cons, List.sum_cons] at this ⊢
    omega
theorem mea_step {W : Wy} (h : SmallW W) {i k v : Nat} (hi : i < 7) (hgt : cellW W i k < v) (hv : v < 64) : mea (setW W i k v) < mea W := by
  have hiW : i < W.length := by rw [h.1]; exact hi
  have hW : W[i]? = some W[i] := List.getElem?_eq_getElem hiW
  have hd : W.getD i (0, 0) = W[i] := by rw [List.getD_eq_getElem?_getD, hW]; rfl
  unfold cellW at hgt
  unfold setW
  rw [hd] at hgt ⊢
  split at hgt
  · rename_i e
    rw [if_pos e]
    exact mea_set W i _ _ hW (by dsimp only; omega)
  · rename_i e
    rw [if_neg e]
    exact mea_set W i _ _ hW (by dsimp only; omega)
theorem or_gt {a b : Nat} (h : a ||| b ≠ a) : a < a ||| b := Nat.lt_of_le_of_ne Nat.left_le_or (Ne.symm h)

/-! rows made one by one -/
structure RowsL (N : Hp) (ls : List Addr) (W : Wy) : Prop where
  len : ls.length = W.length
  row : ∀ (i : Nat) (l : Addr) (p : Nat × Nat), ls[i]? = some l → W[i]? = some p → ∃ t u n, N l = some (lst [.int (p.1 : Int) t, .int (p.2 : Int) u] n)
  nd : ls.Nodup
theorem RowsL.nil {N : Hp} : RowsL N [] [] := ⟨rfl, fun i l p e => by simp at e, .nil⟩
theorem RowsL.mem {N : Hp} {ls : List Addr} {W : Wy} (h : RowsL N ls W) {l : Addr} (hl : l ∈ ls) : N l ≠ none := by
  obtain ⟨i, hi, e⟩ := List.mem_iff_getElem.mp hl
  have e1 : ls[i]? = some l := by rw [List.getElem?_eq_getElem hi, e]
  have e2 : W[i]? = some (W[i]'(h.len ▸ hi)) := List.getElem?_eq_getElem _
  obtain ⟨t, u, n, q⟩ := h.row i _ _ e1 e2
  rw [q]; exact fun z => nomatch z
theorem RowsL.snoc {N : Hp} {ls : List Addr} {W : Wy} (h : RowsL N ls W) {l : Addr} (hn : N l = none) (a b : Nat) (t u : Tok) : RowsL (upd N l (lst [.int (a : Int) t, .int (b : Int) u] 0)) (ls ++ [l]) (W ++ [(a, b)]) := by
  have hl : l ∉ ls := fun q => h.mem q hn
  have hlen := h.len
  refine ⟨by rw [List.length_append, List.length_append, h.len]; rfl, fun i x p e1 e2 => ?_, ?_⟩
  · rcases Nat.lt_or_ge i ls.length with hi | hi
    · rw [List.getElem?_append_left hi] at e1
      rw [List.getElem?_append_left (hlen ▸ hi)] at e2
      obtain ⟨t', u', n, q⟩ := h.row i x p e1 e2
      refine ⟨t', u', n, ?_⟩
      rw [upd_ne (show x ≠ l from fun z => hl (by rw [← z]; exact List.mem_of_getElem? e1))]
      exact q
    · rw [List.getElem?_append_right hi] at e1
      rw [List.getElem?_append_right (hlen ▸ hi)] at e2
      rw [← hlen] at e2
      cases hz : i - ls.length with
      | zero => rw [hz] at e1 e2; cases e1; cases e2; exact ⟨t, u, 0, upd_self⟩
      | succ q => rw [hz] at e1; simp at e1
  · rw [List.nodup_append]
    exact ⟨h.nd, by simp, fun x hx y hy => by rw [List.mem_singleton.mp hy]; exact fun z => hl (z ▸ hx)⟩
theorem WaysAt.rows {N : Hp} {a : Addr} {ls : List Addr} {W : Wy} (h : WaysAt N a ls W) : RowsL N ls W := ⟨h.len, h.row, h.nd⟩
theorem RowsL.ways {N : Hp} {ls : List Addr} {W : Wy} (h : RowsL N ls W) {a : Addr} (hn : N a = none) (n : Nat) : WaysAt (upd N a (lst (ls.map .ref) n)) a ls W := by
  have ha : a ∉ ls := fun q => h.mem q hn
  refine ⟨⟨n, upd_self⟩, h.len, fun i l p e1 e2 => ?_, h.nd, ha⟩
  obtain ⟨t, u, c, q⟩ := h.row i l p e1 e2
  exact ⟨t, u, c, by rw [upd_ne (show l ≠ a from fun z => ha (by rw [← z]; exact List.mem_of_getElem? e1))]; exact q⟩
theorem WaysAt.put {N : Hp} {a : Addr} {ls : List Addr} {W : Wy} (h : WaysAt N a ls W) {i : Nat} {l : Addr} {t u : Tok} {c : Nat} {q : Nat × Nat} (hl : ls[i]? = some l) :
    WaysAt (upd N l (lst [.int (q.1 : Int) t, .int (q.2 : Int) u] c)) a ls (W.set i q) := by
  have hla : l ∈ ls := List.mem_of_getElem? hl
  obtain ⟨n, ht⟩ := h.top
  refine ⟨⟨n, by rw [upd_ne (show a ≠ l from fun z => h.ni (by rw [z]; exact hla))]; exact ht⟩, by rw [List.length_set]; exact h.len, fun j x p e1 e2 => ?_, h.nd, h.ni⟩
  by_cases hj : i = j
  · subst hj
    rw [hl] at e1
    cases e1
    rw [List.getElem?_set_self (by have := (List.getElem?_eq_some_iff.mp hl).1; rw [← h.len]; exact this)] at e2
    cases e2
    exact ⟨t, u, c, upd_self⟩
  · rw [List.getElem?_set_ne hj] at e2
    obtain ⟨t', u', c', q'⟩ := h.row j x p e1 e2
    refine ⟨t', u', c', ?_⟩
    rw [upd_ne ?_]
    · exact q'
    · intro z
      subst z
      exact hj ((List.getElem?_inj (List.getElem?_eq_some_iff.mp hl).1 h.nd).mp (hl.trans e1.symm))
theorem WaysAt.set {N : Hp} {a : Addr} {ls : List Addr} {W : Wy} (h : WaysAt N a ls W) {i : Nat} {l : Addr} {t u tv : Tok} {c v k : Nat} {p : Nat × Nat} (hl : ls[i]? = some l) (hp : W[i]? = some p) (hk : k < 2) :
    WaysAt (upd N l (lst ([Value.int (p.1 : Int) t, .int (p.2 : Int) u].set k (.int (v : Int) tv)) c)) a ls (setW W i k v) := by
  have hd : W.getD i (0, 0) = p := by rw [List.getD_eq_getElem?_getD, hp]; rfl
  have : k = 0 ∨ k = 1 := by omega
  unfold setW
  rw [hd]
  rcases this with rfl | rfl
  · rw [if_pos rfl]
    exact h.put (q := (v, p.2)) hl
  · rw [if_neg (by decide)]
    exact h.put (q := (p.1, v)) hl

section
variable {C : Cx} {m m' : Fm} {N N' R : Hp} {a l d x : Addr} {k n : Nat} {vs : List Value}
theorem le_fresh {N₀ : Hp} {o : Obj} (h : Le N₀ N) (hl : N₀ l = none) : Le N₀ (upd N l o) := fun b ob e => by
  rw [upd_ne (show b ≠ l from fun z => by rw [z, hl] at e; cases e)]
  exact h b ob e

theorem ways_row {wa : Addr} {ls : List Addr} {W : Wy} {s : Nat} {x : Expr} {p1 p2 : Pos} {Q : Value → Fm → Hp → Prop} (fe : FEnv C) (hw : WaysAt N wa ls W) (h7 : s < W.length) (hz : W.length ≤ 7)
    (hww : C.env.kindOf "ways" = some .local) (mw : m "ways" = some (.ref wa))
    (ex : ∀ P, (∀ t, P (.int (s : Int) t) m N) → Run C (eval x C.env) m N P) (hns : ∀ o i, subscripted x false o i = operate [o, i] (getItem o i))
    (q : ∀ l t u n, ls[s]? = some l → W[s]? = some (W.getD s (0, 0)) → N l = some (lst [.int ((W.getD s (0, 0)).1 : Int) t, .int ((W.getD s (0, 0)).2 : Int) u] n) → Q (.ref l) m N) :
    Run C (eval (.Subscript (.Name "ways" p1) x p2) C.env) m N Q := by
  obtain ⟨n, ht⟩ := hw.top
  have hjl : s < ls.length := by rw [hw.len]; exact h7
  have hl : ls[s]? = some ls[s] := List.getElem?_eq_getElem hjl
  have hW : W[s]? = some W[s] := List.getElem?_eq_getElem h7
  obtain ⟨t, u, n', hr⟩ := hw.row s _ _ hl hW
  have hd : W.getD s (0, 0) = W[s] := by rw [List.getD_eq_getElem?_getD, hW]; rfl
  rw [hd] at q
  exact r_sub (r_name fe hww mw (ex _ fun t9 => ⟨hi_list (seen_own ht), r_listGet ht rfl (by rw [List.getElem?_map, hl]; rfl) (by omega) (q _ t u n' hl hW hr)⟩)) hns
theorem WaysAt.le {N N' : Hp} {a : Addr} {ls : List Addr} {W : Wy} (h : WaysAt N a ls W) (l : Le N N') : WaysAt N' a ls W :=
  ⟨let ⟨n, e⟩ := h.top; ⟨n, l _ _ e⟩, h.len, fun i x p e1 e2 => let ⟨t, u, n, e⟩ := h.row i x p e1 e2; ⟨t, u, n, l _ _ e⟩, h.nd, h.ni⟩
theorem ways_at {wa : Addr} {ls : List Addr} {W : Wy} {s k : Nat} {x y : Expr} {p1 p2 p4 : Pos} {Q : Value → Fm → Hp → Prop} (fe : FEnv C) (hw : WaysAt N wa ls W) (h7 : s < W.length) (hz : W.length ≤ 7)
    (hww : C.env.kindOf "ways" = some .local) (mw : m "ways" = some (.ref wa)) (hk : k < 2)
    (ex : ∀ P, (∀ t, P (.int (s : Int) t) m N) → Run C (eval x C.env) m N P) (hns : ∀ o i, subscripted x false o i = operate [o, i] (getItem o i))
    (ey : ∀ P, (∀ t, P (.int (k : Int) t) m N) → Run C (eval y C.env) m N P) (hny : ∀ o i, subscripted y false o i = operate [o, i] (getItem o i))
    (q : ∀ t, Q (.int (cellW W s k : Nat) t) m N) :
    Run C (eval (.Subscript (.Subscript (.Name "ways" p1) x p2) y p4) C.env) m N Q := ways_item fe hw h7 hz hww mw (by omega) ex hns ey hny q
theorem row2 {Na : Hp} {ls : List Addr} {W : Wy} {p p1 p2 : Pos} {Q : Value → Fm → Hp → Prop} {a b : Nat} {c1 c2 : Nat} (R : RowsL Na ls W) (h : ∀ l Nb, Le Na Nb → Na l = none → RowsL Nb (ls ++ [l]) (W ++ [(a, b)]) → Q (.ref l) m Nb) :
    Run C (eval (.List [.Constant (.int (a : Int)) c1 p1, .Constant (.int (b : Int)) c2 p2] p) C.env) m Na Q := by
  refine r_list (r_splCons (r_int fun t1 => r_splCons (r_int fun t2 => r_splNil ?_)))
  exact r_newList (fun l hl => h l _ (Le.upd hl) hl (R.snoc hl a b t1 t2)) (by show 2 ≤ sizeLine; rw [sizeLine_eq]; omega)
def WaysP (N : Hp) (rs : List Rl) (mk : Nat) (v : Value) (N' : Hp) : Prop := ∃ wa ls W, v = .ref wa ∧ Le N N' ∧ WaysAt N' wa ls W ∧ Reach rs mk W ∧ ∀ r ∈ rs, ∀ k < 2, ClosedAt W r k
set_option maxHeartbeats 400000 in
theorem ways_call (hC : Amb C (k + 2)) {ra : Addr} {rs : List Rl} {mk : Nat} {t : Tok} (hr : RulesAt N ra rs) (ok : RulesOk rs) (hmk : mk < 3) {Q : Value → Fm → Hp → Prop}
    (q : ∀ wa ls W N', Le N N' → WaysAt N' wa ls W → Reach rs mk W → (∀ r ∈ rs, ∀ k < 2, ClosedAt W r k) → Q (.ref wa) m N') : Run C (call (.ref 280) [.ref ra, .int (mk : Int) t]) m N Q := by
  refine r_call (cr_call_def (P := WaysP N rs mk) hC (S 16) "_law_ways" [("rules", .ref ra), ("marked", .int (mk : Int) t)] (lk280 _) (by kernel_rfl) (fun s _ => BindsTo.of_eq (by kernel_rfl)) (locs (by kernel_rfl)) (by decide +kernel) (by kernel_rfl) (by kernel_rfl) (by kernel_rfl) (fun C' hC' => ?_)
    (fun v N' ⟨wa, ls, W, e, h1, h2, h3, h4⟩ => by rw [e]; exact q wa ls W N' h1 h2 h3 h4))
  have fe := callee_env hC' (by kernel_rfl)
  have k1 : C'.env.kindOf "rules" = some .local := callee_kind hC' (by kernel_rfl)
  have k2 : C'.env.kindOf "marked" = some .local := callee_kind hC' (by kernel_rfl)
  have k3 : C'.env.kindOf "ways" = some .local := callee_kind hC' (by kernel_rfl)
  have k4 : C'.env.kindOf "more" = some .local := callee_kind hC' (by kernel_rfl)
  have k5 : C'.env.kindOf "left" = some .local := callee_kind hC' (by kernel_rfl)
  have k6 : C'.env.kindOf "symbols" = some .local := callee_kind hC' (by kernel_rfl)
  have k7 : C'.env.kindOf "k" = some .local := callee_kind hC' (by kernel_rfl)
  have k8 : C'.env.kindOf "got" = some .local := callee_kind hC' (by kernel_rfl)
  have g1 : C'.env.kindOf "range" = some .globalImplicit := callee_kind hC' (by kernel_rfl)
  have g2 : C'.env.kindOf "_law_read" = some .globalImplicit := callee_kind hC' (by kernel_rfl)
  have hA := hC'.1
  have hh := hA.handled
  with_unfolding_all refine r_cons ?_
  refine r_genm (fun m => m "rules" = some (.ref ra) ∧ m "marked" = some (.int (mk : Int) t)) ⟨rfl, rfl⟩ fun m0 hm0 => ?_
  obtain ⟨e1, e2⟩ := hm0
  refine r_assign fe k3 (r_list ?_)
  refine r_splCons (row2 RowsL.nil fun l1 N1 L1 f1 R1 => ?_)
  refine r_splCons (row2 R1 fun l2 N2 L2 f2 R2 => ?_)
  refine r_splCons (row2 R2 fun l3 N3 L3 f3 R3 => ?_)
  refine r_splCons (row2 R3 fun l4 N4 L4 f4 R4 => ?_)
  refine r_splCons (row2 R4 fun l5 N5 L5 f5 R5 => ?_)
  refine r_splCons (row2 R5 fun l6 N6 L6 f6 R6 => ?_)
  refine r_splCons (row2 R6 fun l7 N7 L7 f7 R7 => r_splNil ?_)
  refine r_newList (fun wa fw => ?_) (by show 7 ≤ sizeLine; rw [sizeLine_eq]; omega)
  have LA : Le N N7 := L1.trans (L2.trans (L3.trans (L4.trans (L5.trans (L6.trans L7)))))
  have W7 := R7.ways fw 0
  have fresh : ∀ l ∈ [l1, l2, l3, l4, l5, l6, l7], N l = none := by
    have down : ∀ {Na Nb : Hp} {l : Addr}, Le Na Nb → Nb l = none → Na l = none := fun {Na Nb l} h e => by
      cases q : Na l with
      | none => rfl
      | some o => have := h _ _ q; rw [e] at this; cases this
    intro l hl
    simp only [List.mem_cons, List.not_mem_nil, or_false] at hl
    rcases hl with rfl | rfl | rfl | rfl | rfl | rfl | rfl
    · exact f1
    · exact down L1 f2
    · exact down (L1.trans L2) f3
    · exact down (L1.trans (L2.trans L3)) f4
    · exact down (L1.trans (L2.trans (L3.trans L4))) f5
    · exact down (L1.trans (L2.trans (L3.trans (L4.trans L5)))) f6
    · exact down (L1.trans (L2.trans (L3.trans (L4.trans (L5.trans L6))))) f7
  have LB := LA.trans (Le.upd (o := lst [Value.ref l1, .ref l2, .ref l3, .ref l4, .ref l5, .ref l6, .ref l7] 0) fw)
  clear R1 R2 R3 R4 R5 R6 R7 L1 L2 L3 L4 L5 L6 L7 LA fw f1 f2 f3 f4 f5 f6 f7
  replace W7 : WaysAt (upd N7 wa (lst [Value.ref l1, .ref l2, .ref l3, .ref l4, .ref l5, .ref l6, .ref l7] 0)) wa [l1, l2, l3, l4, l5, l6, l7] [(1, 0), (1, 0), (1, 0), (1, 4), (1, 8), (1, 16), (1, 32)] := W7
  generalize upd N7 wa (lst [Value.ref l1, .ref l2, .ref l3, .ref l4, .ref l5, .ref l6, .ref l7] 0) = N8 at W7 LB
  generalize [l1, l2, l3, l4, l5, l6, l7] = ls at W7 fresh
  refine r_genm (fun m => m "rules" = some (.ref ra) ∧ m "marked" = some (.int (mk : Int) t) ∧ m "ways" = some (.ref wa)) ⟨by walk_at "ms", by walk_at "ms", by walk_at "ms"⟩ fun m1 hm1 => ?_
  obtain ⟨e1, e2, e3⟩ := hm1
  have hinit : setW [(1, 0), (1, 0), (1, 0), (1, 4), (1, 8), (1, 16), (1, 32)] mk 0 3 = wyInit mk := by
    have : mk = 0 ∨ mk = 1 ∨ mk = 2 := by omega
    rcases this with rfl | rfl | rfl <;> rfl
  refine r_consM (fun m' N9 => Le N N9 ∧ WaysAt N9 wa ls (wyInit mk) ∧ m' "ways" = some (.ref wa) ∧ m' "rules" = some (.ref ra)) (r_assignSub (r_int fun t3 => ways_row (s := mk) fe W7 (by show mk < 7; omega) (by decide) k3 e3 (fun P hP => r_name fe k2 e2 (hP _)) (by intro _ _; rfl) fun l t u n hl hW hN => ?_)) ?_
  · refine r_int fun t4 => r_listSet (i := 0) hN rfl (by show 0 < 2; omega) (by omega) ?_
    refine ⟨rfl, le_fresh LB (fresh l (List.mem_of_getElem? hl)), ?_, e3, e1⟩
    have W8 := W7.set (t := t) (u := u) (c := n) (v := 3) (tv := t3) (k := 0) hl hW (by omega)
    rw [hinit] at W8
    exact W8
  rintro m2 N9 ⟨LC, W8, e3, e1⟩
  clear LB W7 hinit
  obtain ⟨vs, nn, hra, hall⟩ := hr
  refine r_cons (r_assign fe k4 (r_bool ?_))
  let Names : Fm → Prop := fun m => m "ways" = some (.ref wa) ∧ m "rules" = some (.ref ra)
  let St : Bool → Wy → Fm → Hp → Prop := fun b W m' N' => Le N N' ∧ WaysAt N' wa ls W ∧ Reach rs mk W ∧ m' "ways" = some (.ref wa) ∧ m' "rules" = some (.ref ra) ∧ m' "more" = some (.bool b)
  refine r_cons (r_while (fun n m' N' => ∃ W b, St b W m' N' ∧ n = 2 * mea W + (if b then 1 else 0) ∧ (b = false → ∀ r ∈ rs, ∀ k < 2, ClosedAt W r k)) (2 * mea (wyInit mk) + 1)
    ⟨_, true, ⟨LC, W8, .init, by walk_at "ms", by walk_at "ms", mset_self⟩, rfl, fun q => nomatch q⟩ ?_)
  rintro n1 m2 N2 ⟨W, b, ⟨L2, wt, rc, nw, nr, nm⟩, rfl, hcl⟩
  refine r_tPlain (r_name fe k4 nm (r_tBool ?_))
  cases b with
  | false =>
    refine r_nil ?_
    refine r_one (r_ret (r_name fe k3 nw ?_))
    exact ⟨wa, ls, W, rfl, L2, wt, rc, hcl rfl⟩
  | true =>
    refine r_cons (r_assign fe k4 (r_bool ?_))
    refine r_one (r_for hh (r_name fe k1 (by walk_at "ms") ?_))
    refine ⟨_, _, _, itb_list (L2 _ _ hra), fun i m' N' => ∃ W' b, St b W' m' N' ∧ (b = true → mea W' < mea W) ∧ (b = false → W' = W ∧ ∀ r ∈ rs.take i, ∀ k < 2, ClosedAt W r k),
      ⟨W, false, ⟨L2, wt, rc, by walk_at "ms", by walk_at "ms", mset_self⟩, fun q => (nomatch q), fun _ => ⟨rfl, fun r hr => by simp at hr⟩⟩, ?_, ?_, ?_⟩
    · intro b hb
      rw [List.mem_singleton.mp hb]
      exact ⟨_, fun i m N' h => by obtain ⟨W', b, h, _⟩ := h; exact h.1 _ _ hra⟩
    · rintro i v m3 N3 hlt hv ⟨W', b, ⟨L3, wt', rc', nw, nr, nm⟩, hb1, hb2⟩
      obtain ⟨p, hp, hrow⟩ := hall.get hv
      have hpm : p ∈ rs := List.mem_of_getElem? hp
      obtain ⟨hp1, hp2, hp3⟩ := ok p hpm
      have htake : rs.take (i + 1) = rs.take i ++ [p] := by rw [List.take_add_one, hp]; rfl
      obtain ⟨rr, sy, tl, c, c', ss, rfl, hrr, hsy, hns⟩ := hrow
      refine r_asPair fe hh k5 k6 (L3 _ _ hrr) ?_
      refine r_one (r_for hh (r_callName (r_builtin fe hA g1 (by kernel_rfl) PyProof.Rows.Boot.«range» (by decide) ⟨kf_type, r_splCons (r_int fun t9 => r_splNil (r_range1 fun r9 t10 u10 v10 hr9 => ?_))⟩)))
      refine ⟨_, _, _, itb_range upd_self (by decide) (by rfl), fun j m' N' => (∃ W' b, St b W' m' N' ∧ (b = true → mea W' < mea W) ∧ (b = false → W' = W ∧ (∀ r ∈ rs.take i, ∀ k < 2, ClosedAt W r k) ∧ ∀ k < j, ClosedAt W p k)) ∧
          m' "left" = some (.int (p.1 : Int) tl) ∧ m' "symbols" = some (.ref sy), ⟨⟨W', b, ⟨L3.trans (Le.upd hr9), ?_, rc', by walk_at "ms", by walk_at "ms", by walk_at "ms"⟩, hb1, fun q => ⟨(hb2 q).1, (hb2 q).2, fun k hk => absurd hk (Nat.not_lt_zero _)⟩⟩, by walk_at "ms", by walk_at "ms"⟩, ?_, ?_, ?_⟩
      · exact wt'.le (Le.upd hr9)
      · intro b hb
        exact absurd hb (List.not_mem_nil)
      · rintro j v m4 N4 hj ⟨tj, rfl⟩ ⟨⟨W'', b2, ⟨L4, wt4, rc4, nw, nr, nm⟩, hc1, hc2⟩, nl, ns⟩
        have hj2 : j < 2 := hj
        rw [Int.zero_add]
        have sm4 := rc4.small hmk
        have len4 : W''.length = 7 := sm4.1
        refine r_asName fe k7 ?_
        refine r_cons (r_assign fe k8 (r_binop (ways_at (s := p.1) (k := j) fe wt4 (by omega) (by omega) k3 (by walk_at "ms") hj2 (fun P hP => r_name fe k5 (by walk_at "ms") (hP _)) (by intro _ _; rfl) (fun P hP => r_name fe k7 mset_self (hP _)) (by intro _ _; rfl) fun t11 => ?_)))
        refine r_callName (r_global (v := .ref 273) fe hA g2 (by kernel_rfl) ⟨kf_ref hA (by kernel_rfl), r_splCons (r_name fe k6 (by walk_at "ms") (r_splCons (r_binop (r_name fe k7 mset_self (r_int fun t12 => r_addInt fun t13 => ?_)))))⟩)
        refine r_splCons (r_name fe k3 (by walk_at "ms") (r_splNil ?_))
        rw [show ((j : Int) + 1) = ((j + 1 : Nat) : Int) from rfl]
        refine read_call hA (L4 _ _ hsy) hns hp3 wt4 len4 fun t14 => r_orInt fun t15 => ?_
        rw [bitOr_nat]
        have hL : Le N N4 := L4
        have hg : cellW W'' p.1 j ||| readM W'' (j + 1) p.2 = gotW W'' p j := rfl
        rw [hg]
        refine r_one (r_ifS (r_tCmp (r_name fe k8 mset_self (ways_at (s := p.1) (k := j) fe wt4 (by omega) (by omega) k3 (by walk_at "ms") hj2 (fun P hP => r_name fe k5 (by walk_at "ms") (hP _)) (by intro _ _; rfl) (fun P hP => r_name fe k7 (by walk_at "ms") (hP _)) (by intro _ _; rfl) fun t16 => r_neInt (r_tBool ?_)))))
        by_cases he : gotW W'' p j = cellW W'' p.1 j
        · rw [if_neg (by rw [he]; simp)]
          refine r_nil ⟨⟨W'', b2, ⟨L4, wt4, rc4, by walk_at "ms", by walk_at "ms", by walk_at "ms"⟩, hc1, fun q => ?_⟩, by walk_at "ms", by walk_at "ms"⟩
          obtain ⟨rfl, h1, h2⟩ := hc2 q
          refine ⟨rfl, h1, fun k hk => ?_⟩
          rcases Nat.lt_or_ge k j with hkj | hkj
          · exact h2 k hkj
          · have : k = j := by omega
            rw [this]; exact he
        · rw [if_pos (by simp only [bne_iff_ne, ne_eq]; intro z; exact he (Int.ofNat.inj z))]
          refine r_cons (r_assignSub (r_name fe k8 (by walk_at "ms") (ways_row (s := p.1) fe wt4 (by omega) (by omega) k3 (by walk_at "ms") (fun P hP => r_name fe k5 (by walk_at "ms") (hP _)) (by intro _ _; rfl) fun l t u n hl hW hN => ?_)))
          refine r_name fe k7 (by walk_at "ms") (r_listSet (i := j) hN rfl hj2 (by omega) ?_)
          refine r_one (r_assign fe k4 (r_bool ?_))
          have hlm : l ∈ ls := List.mem_of_getElem? hl
          have hgs := gotW_small sm4 p hj2
          have hm := mea_step sm4 (i := p.1) (k := j) (by omega) (or_gt he) hgs
          refine ⟨⟨_, true, ⟨le_fresh L4 (fresh l hlm), wt4.set (v := gotW W'' p j) hl hW hj2, .step rc4 hpm hj2 he, by walk_at "ms", by walk_at "ms", mset_self⟩, fun _ => ?_, fun q => nomatch q⟩, by walk_at "ms", by walk_at "ms"⟩
          cases b2 with
          | true => exact Nat.lt_trans hm (hc1 rfl)
          | false => rw [← (hc2 rfl).1]; exact hm
      · rintro m' N' ⟨⟨W', b, hst, h1, h2⟩, nl, ns⟩
        refine r_nil ⟨W', b, hst, h1, fun q => ⟨(h2 q).1, fun r hr k hk => ?_⟩⟩
        rw [htake] at hr
        rcases List.mem_append.mp hr with hr | hr
        · exact (h2 q).2.1 r hr k hk
        · rw [List.mem_singleton.mp hr]; exact (h2 q).2.2 k hk
    · rintro m' N' ⟨W', b, hst, h1, h2⟩
      refine r_nil ?_
      refine ⟨2 * mea W' + (if b then 1 else 0), ?_, W', b, hst, rfl, fun q => ?_⟩
      · cases b with
        | true => have := h1 rfl; simp; omega
        | false => rw [(h2 rfl).1]; simp
      · rw [(h2 q).1]
        intro r hr
        refine (h2 q).2 r ?_
        rw [hall.1, List.take_length]
        exact hr
end
end Mine

namespace Mine
open PySem PySem.Challenge

section
variable {C C₂ : Cx} {m m' : Fm} {N N' R : Hp} {h h' : Heap} {a c l d : Addr} {o o' : Obj} {k n : Nat} {vs : List Value}
theorem r_free {x : Str} {p : Pos} {v : Value} {Q : Value → Fm → Hp → Prop} (hk : C.env.scope.kind = .function) (hx : C.env.kindOf x = some .free) (hc : C.env.cells.lookup x = some c) (ho : N c = some o) (hd' : o.data = .cell (some v)) (q : Q v m N)
    (hd : (x == ("__debug__" : Str)) = false := by decide) (hn : (x == ("__classdict__" : Str)) = false := by decide) : Run C (eval (.Name x p) C.env) m N Q := r_of fun R h tk S =>
  wpAny_Name (wpAny_loadName_free hk hx hc ⟨o, S.get ho, hd'⟩ (Post.intro S q) hn) hd
/-- a def with one argument that is a cell -/
def CalleeC (C : Cx) (qual : Str) (st : Stmt) (f cdA : Addr) (x : Str) (c : Addr) (C' : Cx) (k : Nat) : Prop := Amb C' k ∧ C'.w = C.w ∧ ∃ L, C'.env = envX qual (scopeOf st) L f (.ref cdA) [(x, c)]
theorem cr_call_cell1 {f : Addr} {x : Str} {v : Value} {P : Value → Hp → Prop} {Q : Value → Fm → Hp → Prop} (hC : Amb C (k + 1)) (st : Stmt) (qual : Str) {dV kV doc pm ct : Value} {an : Option Addr} {cdA : Addr}
    (ho : (K C.w.params).lookup f = some (fo st qual dV kV doc pm an (.ref cdA) ct)) (hcd : codeIn (K C.w.params) (.ref cdA) qual = true)
    (hbind : ∀ s : Shared, (K C.w.params).In s.heap → BindsTo s (fnOf (nameOf st) qual (argsOf st) (bodyOf st) (scopeOf st) dV kV doc pm an (.ref cdA) ct) ⟨[v], []⟩ [(x, v)])
    (hxk : (scopeOf st).names.lookup x = some .cell) (hcells : ∀ n, cellsFrom n (scopeOf st).names [] = [(x, n)]) (hco : (scopeOf st).isCoroutine = false) (hgen : (scopeOf st).isGenerator = false) (hk : (scopeOf st).kind = .function)
    (body : ∀ C' c oc m', CalleeC C qual st f cdA x c C' k → N c = none → oc.data = .cell (some v) → Run C' (execs (bodyOf st) C'.env) m' (upd N c oc) (Ret fun v _ N' => P v N'))
    (hQ : ∀ v N', P v N' → Q v m N') : CRun C (.call (.ref f) ⟨[v], []⟩) m N Q := by
  intro R h tk S
  have Xh : (K C.w.params).In h := hC.X.keeps S.F.keep
  have stack := (hC.below m N R h S [] (fun _ q => nomatch q)).stack
  refine codeAny_call_function (fd := fnX (nameOf st) qual (argsOf st) (bodyOf st) (scopeOf st) [] dV kV doc pm an (.ref cdA) ct) (body := bodyOf st) (by have := hC.dp; omega) (Xh _ _ ho) rfl hco hgen rfl (codeRec_of Xh hcd) (hbind _ Xh _ _ _ _ ?_)
  refine wpAny_newFunctionEnv_cells hk (fun y hy => ?_) fun env' he s' xx => ?_
  · rw [List.mem_singleton.mp hy]
    exact .inr ⟨hxk, by show ((cellsFrom (h.objs.size + 1) (scopeOf st).names []).lookup x).isSome = true; rw [hcells]; simp⟩
  subst he
  refine ⟨(hC.T.nolimit.keeps S.F.keep).keeps xx.toInCall.keep, codeAny_func ?_⟩
  obtain ⟨h₁, tk₁, rfl, _⟩ := xx.done
  have hk₁ := xx.toInCall.keep
  have hcl : cellsFrom (h.objs.size + 1) (scopeOf st).names [] = [(x, h.objs.size + 1)] := hcells _
  let C' : Cx := { w := C.w, A := C.A.deeper (envX qual (scopeOf st) h.objs.size f (.ref cdA) [(x, h.objs.size + 1)]), env := envX qual (scopeOf st) h.objs.size f (.ref cdA) [(x, h.objs.size + 1)], s₀ := C.s₀, h₀ := hideAll h (hidOf C N h), base := C.base, frs := envX qual (scopeOf st) h.objs.size f (.ref cdA) [(x, h.objs.size + 1)] :: C.frs, mean := C.mean, mg := C.mg, mb := C.mb, fms := (C.env.locals, m) :: C.fms }
  obtain ⟨m₂, hns⟩ : ∃ m₂, h₁.Ns h.objs.size m₂ := ⟨_, xx.toInCall.ns⟩
  have hcell := xx.cell x (h.objs.size + 1) (by show (cellsFrom (h.objs.size + 1) (scopeOf st).names []).lookup x = _; rw [hcl]; simp)
  have hbc : bindC (newEnv (scopeOf st) h.objs.size mainGlobals (cellsFrom (h.objs.size + 1) (scopeOf st).names []) (qual ++ ".<locals>.") (some f) (.ref cdA) none builtinsNs).kindOf [(x, v)] (fun _ => none) x = some v := by
    have : (newEnv (scopeOf st) h.objs.size mainGlobals (cellsFrom (h.objs.size + 1) (scopeOf st).names []) (qual ++ ".<locals>.") (some f) (.ref cdA) none builtinsNs).kindOf x = some .cell := hxk
    unfold bindC
    rw [this, if_neg (by decide)]
    exact if_pos rfl
  replace hcell : h₁.IsCell (h.objs.size + 1) (some v) := by rw [← hbc]; exact hcell
  obtain ⟨oc, hoc, hocd⟩ := hcell
  have S₀ : Sat C' m₂ N (hideAll h (hidOf C N h)).get? h₁ := S.enter (C' := C') rfl rfl (Nat.le_refl _) hns hk₁
  have hNc : N (h.objs.size + 1) = none := by
    cases e : N (h.objs.size + 1) with
    | none => rfl
    | some o => exact absurd (S.lt e) (Nat.not_lt.mpr (Nat.le_succ _))
  have S' : Sat C' m₂ (upd N (h.objs.size + 1) oc) (hideAll h (hidOf C N h)).get? h₁ := by
    refine S₀.own1 hoc hNc ?_ ?_ (fun p hp z => ?_) ?_
    · cases z : (hideAll h (hidOf C N h)).get? (h.objs.size + 1) with
      | none => rfl
      | some o => exact absurd (Heap.lt_size (of_hideAll _ z)) (Nat.not_lt.mpr (Nat.le_succ _))
    · show h.objs.size + 1 ≠ h.objs.size; omega
    · have lt : p.1 < h.objs.size := by
        rcases List.mem_cons.mp hp with rfl | hp
        · exact Ns.lt S.ns
        · exact Ns.lt (S.frs p hp).1
      rw [z] at lt
      exact absurd lt (Nat.not_lt.mpr (Nat.le_succ _))
    · have := S.high
      exact beq_eq_false_iff_ne.mpr fun z => by rw [← z] at this; exact absurd this (Nat.not_lt.mpr (Nat.le_succ _))
  have A' : Amb C' k := amb_callee hC S rfl rfl rfl rfl rfl rfl rfl rfl rfl (Nat.le_refl _) hk rfl
  have hb := ((body C' _ oc m₂ ⟨A', rfl, _, rfl⟩ hNc hocd)).go _ h₁ tk₁ S'
  have henv : newEnv (scopeOf st) h.objs.size mainGlobals (cellsFrom (h.objs.size + 1) (scopeOf st).names []) (qual ++ ".<locals>.") (some f) (.ref cdA) none builtinsNs = envX qual (scopeOf st) h.objs.size f (.ref cdA) [(x, h.objs.size + 1)] := by rw [hcl]; rfl
  show wpAny _ (C.A.deeper (newEnv (scopeOf st) h.objs.size mainGlobals (cellsFrom (h.objs.size + 1) (scopeOf st).names []) (qual ++ ".<locals>.") (some f) (.ref cdA) none builtinsNs)) (execs (bodyOf st) (newEnv (scopeOf st) h.objs.size mainGlobals (cellsFrom (h.objs.size + 1) (scopeOf st).names []) (qual ++ ".<locals>.") (some f) (.ref cdA) none builtinsNs)) _ _ _
  rw [henv]
  refine wpAny_mono hb (fun fl s' hp => ?_) (fun _ _ z => z.elim)
  obtain ⟨h', tk', m', N', rfl, S₂, hp⟩ := hp
  exact ⟨h', tk', m, N', rfl, S.leave (C' := C') (fun p hp => hp) S₂, hQ _ _ hp⟩
end
end Mine

namespace Mine
open PySem PySem.Challenge
local macro_rules | `(tactic| walk_at "ms") => `(tactic| first | assumption | exact mset_self | (refine (mset_ne (by decide)).trans ?_; walk_at "ms"))

/-! within a comprehension -/
section
variable {C C₂ : Cx} {k : Nat} {scope : Scope} {cl : List (Str × Addr)}
theorem comp_env (h : CompIn C k C₂ scope cl) (fe : FEnv C) (hk : scope.kind = .function) : FEnv C₂ := by
  obtain ⟨_, _, _, Cc, e⟩ := h
  exact ⟨by rw [e]; exact hk, by rw [e]; exact fe.globals, by rw [e]; exact fe.builtins⟩
theorem comp_cells (h : CompIn C k C₂ scope cl) : C₂.env.cells = cl := by
  obtain ⟨_, _, _, Cc, e⟩ := h
  rw [e]; rfl
theorem comp_kind (h : CompIn C k C₂ scope cl) {x : Str} {r : Option NameKind} (hk : (relabel scope C.env).names.lookup x = r) : C₂.env.kindOf x = r := by
  obtain ⟨_, _, _, Cc, e⟩ := h
  rw [e]; exact hk
theorem calleeC_env {C C' : Cx} {qual : Str} {st : Stmt} {f cdA : Addr} {x : Str} {c : Addr} {k : Nat} (h : CalleeC C qual st f cdA x c C' k) (hk : (scopeOf st).kind = .function) : FEnv C' := by
  obtain ⟨_, _, L, e⟩ := h
  exact ⟨by rw [e]; exact hk, by rw [e], by rw [e]⟩
theorem calleeC_kind {C C' : Cx} {qual : Str} {st : Stmt} {f cdA : Addr} {x : Str} {c : Addr} {k : Nat} (h : CalleeC C qual st f cdA x c C' k) {y : Str} {r : Option NameKind} (hk : (scopeOf st).names.lookup y = r) : C'.env.kindOf y = r := by
  obtain ⟨_, _, L, e⟩ := h
  rw [e]; exact hk
theorem calleeC_cells {C C' : Cx} {qual : Str} {st : Stmt} {f cdA : Addr} {x : Str} {c : Addr} {k : Nat} (h : CalleeC C qual st f cdA x c C' k) : C'.env.cells = [(x, c)] := by
  obtain ⟨_, _, L, e⟩ := h
  rw [e]
theorem closureFor1 {env : Env} {c : Addr} {x : Str} : ∀ {names : List (Str × NameKind)}, env.cells.lookup x = some c → names.filter (·.2 == .free) = [(x, .free)] → ∀ cs, (forIn names cs fun p r => do
    if p.2 == NameKind.free then do let a ← cellOf env p.1; pure (ForInStep.yield ((p.1, a) :: r)) else pure (ForInStep.yield r) : Sem (List (Str × Addr))) = pure ((x, c) :: cs) := by
  intro names hc
  have none_free : ∀ names : List (Str × NameKind), names.filter (·.2 == .free) = [] → ∀ cs, (forIn names cs fun p r => do
    if p.2 == NameKind.free then do let a ← cellOf env p.1; pure (ForInStep.yield ((p.1, a) :: r)) else pure (ForInStep.yield r) : Sem (List (Str × Addr))) = pure cs := by
    intro names
    induction names with
    | nil => intro _ cs; rw [List.forIn_nil]
    | cons p r ih =>
      intro h cs
      rw [List.filter_cons] at h
      cases hp : p.2 == .free with
      | true => rw [hp] at h; simp at h
      | false =>
        rw [hp] at h
        rw [List.forIn_cons, hp]
        show (pure (ForInStep.yield cs) >>= _) = _
        rw [show (pure (ForInStep.yield cs) : Sem _) >>= _ = _ from rfl]
        exact ih h cs
  induction names with
  | nil => intro h; simp at h
  | cons p r ih =>
    intro h cs
    rw [List.filter_cons] at h
    rw [List.forIn_cons]
    cases hp : p.2 == .free with
    | true =>
      rw [hp] at h
      simp at h
      obtain ⟨h1, h2⟩ := h
      have h2' : r.filter (·.2 == .free) = [] := by simpa using h2
      rw [h1]
      have hcell : cellOf env x = pure c := by unfold cellOf; rw [hc]
      show ((cellOf env x >>= fun a => pure (ForInStep.yield ((x, a) :: cs))) >>= _) = _
      rw [hcell]
      exact none_free r h2' _
    | false =>
      rw [hp] at h
      show (pure (ForInStep.yield cs) >>= _) = _
      exact ih h cs
theorem closureFor_one {scope : Scope} {env : Env} {c : Addr} {x : Str} (hc : env.cells.lookup x = some c) (hf : scope.names.filter (·.2 == .free) = [(x, .free)]) : closureFor scope env = pure [(x, c)] := by
  have := closureFor1 (names := scope.names) hc hf []
  unfold closureFor
  show (forIn scope.names [] (fun p r => if p.2 == NameKind.free then do let a ← cellOf env p.1; pure (ForInStep.yield ((p.1, a) :: r)) else pure (ForInStep.yield r)) >>= fun cs => pure cs) = (pure [(x, c)] : Sem (List (Str × Addr)))
  rw [this]
  rfl
end

/-! _law_found -/
def told : Nat → Str := fun i => (["S", "A", "B", "a", "b", "+", "error"] : List Str).getD i ""
def foundS (mask : Nat) : List Str := ([3, 4, 5, 6].filter fun s => mask &&& (2 ^ (s - 1)) ≠ 0).map told
def foundI (mask i : Nat) : List Str := (([3, 4, 5, 6].take i).filter fun s => mask &&& (2 ^ (s - 1)) ≠ 0).map told
section
variable {C : Cx} {m m' : Fm} {N N' R : Hp} {a l d x : Addr} {k n : Nat} {vs : List Value}
theorem told_at (P : Params) : ∃ us n, o253 P = lst us n ∧ ∀ i < 7, ∃ t, us[i]? = some (.str (told i) t) := by
  refine ⟨_, _, rfl, fun i hi => ?_⟩
  have : i = 0 ∨ i = 1 ∨ i = 2 ∨ i = 3 ∨ i = 4 ∨ i = 5 ∨ i = 6 := by omega
  rcases this with rfl | rfl | rfl | rfl | rfl | rfl | rfl <;> exact ⟨_, rfl⟩
set_option maxHeartbeats 400000 in
theorem found_call (hC : Amb C (k + 1)) {mask : Nat} {t : Tok} {Q : Value → Fm → Hp → Prop}
    (q : ∀ l ys n N', Le N N' → N l = none → N' l = some (lst ys n) → StrsAre ys (foundS mask) → Q (.ref l) m N') : Run C (call (.ref 285) [.int (mask : Int) t]) m N Q := by
  refine r_call (cr_call_cell1 (P := fun v N' => ∃ l ys n, v = .ref l ∧ Le N N' ∧ N l = none ∧ N' l = some (lst ys n) ∧ StrsAre ys (foundS mask)) hC (S 17) "_law_found" (x := "mask") (lk285 _) (by kernel_rfl) (fun s _ => BindsTo.of_eq (by kernel_rfl)) (by kernel_rfl) (fun n => by kernel_rfl) (by kernel_rfl) (by kernel_rfl) (by kernel_rfl) (fun C' c oc m' hC' hc hd => ?_)
    (fun v N' ⟨l, ys, n, e, h1, h2, h3, h4⟩ => by rw [e]; exact q l ys n N' h1 h2 h3 h4))
  have fe := calleeC_env hC' (by kernel_rfl)
  have g1 : C'.env.kindOf "range" = some .globalImplicit := calleeC_kind hC' (by kernel_rfl)
  have hA := hC'.1
  have hh := hA.handled
  obtain ⟨_, hw, L, henv⟩ := id hC'
  with_unfolding_all refine r_one (r_ret (r_listComp (cl := [("mask", c)]) hA ?_ (closureFor_one (by rw [calleeC_cells hC']; exact List.lookup_cons_self) (by kernel_rfl)) (by decide +kernel) (by kernel_rfl) (by decide +kernel)))
  refine r_callName (r_builtin fe hA g1 (by kernel_rfl) PyProof.Rows.Boot.«range» (by decide) ⟨kf_type, r_splCons (r_int fun t1 => r_splCons (r_int fun t2 => r_splNil (r_range2 fun r9 t10 u10 v10 hr9 => ?_)))⟩)
  refine ⟨4, _, _, itb_range upd_self (by decide) (by rfl), by decide, fun i ys N' => N' = upd (upd N c oc) r9 (rng 3 7 t10 u10 v10) ∧ StrsAre ys (foundI mask i), ⟨rfl, .nil⟩, ?_, ?_, ?_⟩
  · intro b hb
    exact absurd hb List.not_mem_nil
  · rintro C₂ h2 i v ys m N' hi ⟨tv, rfl⟩ ⟨rfl, hys⟩
    have fe2 := comp_env h2 fe (by kernel_rfl)
    have cl2 := comp_cells h2
    have c1 : C₂.env.kindOf "s" = some .local := comp_kind h2 (by rw [henv]; kernel_rfl)
    have c2 : C₂.env.kindOf "mask" = some .cell := comp_kind h2 (by rw [henv]; kernel_rfl)
    have c3 : C₂.env.kindOf "_law_TOLD" = some .globalImplicit := comp_kind h2 (by rw [henv]; kernel_rfl)
    have cc : C₂.env.cells.lookup ("mask" : Str) = some c := by rw [cl2]; exact List.lookup_cons_self
    have hA2 := h2.1
    obtain ⟨us, nu, hus, hat⟩ := told_at C₂.w.params
    refine r_asName fe2 c1 ?_
    have hcc : (upd (upd N c oc) r9 (rng 3 7 t10 u10 v10)) c = some oc := Le.upd hr9 _ _ upd_self
    refine r_tPlain (r_binop (r_cell fe2 c2 cc hcc hd (r_binop (r_int fun t3 => r_binop (r_name fe2 c1 mset_self (r_int fun t4 => r_subInt fun t5 => r_shlInt (by omega) (by omega) (by decide) fun t6 => r_andInt fun t7 => r_truthInt ?_))))))
    have hi4 : i = 0 ∨ i = 1 ∨ i = 2 ∨ i = 3 := by omega
    have hp : (1 : Int) * 2 ^ ((3 + (i : Int) - 1).toNat) = ((2 ^ (i + 3 - 1) : Nat) : Int) := by
      rcases hi4 with rfl | rfl | rfl | rfl <;> rfl
    have htk : [3, 4, 5, 6].take (i + 1) = [3, 4, 5, 6].take i ++ [i + 3] := by rcases hi4 with rfl | rfl | rfl | rfl <;> rfl
    rw [hp, bitAnd_nat]
    by_cases hb : mask &&& 2 ^ (i + 3 - 1) = 0
    · rw [if_neg (by rw [hb]; decide)]
      refine ⟨rfl, ?_⟩
      unfold foundI
      rw [htk, List.filter_append, List.filter_cons, if_neg (by simpa using hb)]
      simpa [foundI] using hys
    · rw [if_pos (by simp only [bne_iff_ne, ne_eq]; omega)]
      obtain ⟨tt, htt⟩ := hat (i + 3) (by omega)
      refine r_sub (r_global (v := .ref 253) fe2 hA2 c3 (by kernel_rfl) (r_name fe2 c1 mset_self ⟨hi_list (seen_K hA2 ((lk253 _).trans (congrArg some hus))), ?_⟩))
      refine r_listGetS (i := i + 3) (seen_K hA2 ((lk253 _).trans (congrArg some hus))) (by omega) htt (by omega) ?_
      refine ⟨rfl, ?_⟩
      unfold foundI
      rw [htk, List.filter_append, List.filter_cons, if_pos (by simpa using hb), List.map_append]
      exact StrsAre.snoc' _ tt hys
  · rintro ys N' ⟨rfl, hys⟩ D cD hD
    refine ⟨D, ys, cD, rfl, (Le.upd hc).trans ((Le.upd hr9).trans (Le.upd hD)), ?_, upd_self, hys⟩
    cases q : N D with
    | none => rfl
    | some o => have := (Le.upd (o := oc) hc).trans (Le.upd (o := rng 3 7 t10 u10 v10) hr9) _ _ q; rw [hD] at this; cases this
end
end Mine

namespace Mine
open PySem PySem.Challenge
local macro_rules | `(tactic| walk_at "ms") => `(tactic| first | assumption | exact mset_self | (refine (mset_ne (by decide)).trans ?_; walk_at "ms"))

/-! what is kept but one cell -/
def LeBut (t : Addr) (N N' : Hp) : Prop := ∀ a o, a ≠ t → N a = some o → N' a = some o
section
variable {t : Addr} {N N' N'' : Hp} {a : Addr} {o : Obj}
theorem LeBut.refl : LeBut t N N := fun _ _ _ e => e
theorem LeBut.trans (h : LeBut t N N') (h' : LeBut t N' N'') : LeBut t N N'' := fun a o n e => h' a o n (h a o n e)
theorem LeBut.of (h : Le N N') : LeBut t N N' := fun a o _ e => h a o e
theorem LeBut.upd : LeBut t N (upd N t o) := fun a o n e => by rw [upd_ne n]; exact e
theorem LeBut.put (h : LeBut t N N') (ha : N a = none) : LeBut t N (Mine.upd N' a o) := fun b ob n e => by
  rw [upd_ne (show b ≠ a from fun q => by rw [q, ha] at e; cases e)]
  exact h b ob n e
theorem LeBut.none (h : LeBut t N N') (ha : N' a = Option.none) (hn : a ≠ t) : N a = Option.none := by
  cases q : N a with
  | none => rfl
  | some o => have := h a o hn q; rw [ha] at this; cases this
end
theorem RowAt.but {N N' : Hp} {t : Addr} {vs : List Value} {n : Nat} (l : LeBut t N N') (ht : N t = some (lst vs n)) {v : Value} {p : Rl} (h : RowAt N v p) : RowAt N' v p := by
  obtain ⟨r, sy, tt, c, c', ss, e, h1, h2, h3⟩ := h
  refine ⟨r, sy, tt, c, c', ss, e, l _ _ (fun q => ?_) h1, l _ _ (fun q => ?_) h2, h3⟩
  · rw [q, ht] at h1; have := congrArg Obj.cls (Option.some.inj h1); injection this with z; exact absurd z (by decide)
  · rw [q, ht] at h2; have := congrArg Obj.cls (Option.some.inj h2); injection this with z; exact absurd z (by decide)
def TapeAt (N : Hp) (t : Addr) (L : Nat) : Prop := ∃ vs n ns, N t = some (lst vs n) ∧ IntsAre vs ns ∧ vs.length = L
theorem TapeAt.up {N N' : Hp} {t : Addr} {L : Nat} (h : TapeAt N t L) (l : Le N N') : TapeAt N' t L := let ⟨vs, n, ns, e, r⟩ := h; ⟨vs, n, ns, l _ _ e, r⟩
theorem TapeAt.put {N : Hp} {t a : Addr} {o : Obj} {L : Nat} (h : TapeAt N t L) (ha : t ≠ a) : TapeAt (upd N a o) t L := let ⟨vs, n, ns, e, r⟩ := h; ⟨vs, n, ns, by rw [upd_ne ha]; exact e, r⟩

/-! rows as data -/
def dRow (p : Rl) : PyData := .tuple [.int p.1, .tuple (p.2.map fun (s : Nat) => .int s)]
theorem readsAll_nats {h : Heap} : ∀ {vs : List Value} {ss : List Nat}, NatsAre vs ss → ReadsAll h vs (ss.map fun (s : Nat) => PyData.int s) []
  | [], [], _ => .nil
  | v :: vs, s :: ss, e => by
    cases e with
    | cons i t e => exact ReadsAll.cons (as := []) (bs := []) (.int _ _) (readsAll_nats e)
  | [], s :: ss, e => by cases e
  | v :: vs, [], e => by cases e
theorem reads_row {C : Cx} {m : Fm} {N R : Hp} {h : Heap} (S : Sat C m N R h) {v : Value} {p : Rl} (hr : RowAt N v p) : Reads h v (dRow p) [] := by
  obtain ⟨r, sy, t, c, c', ss, rfl, h1, h2, h3⟩ := hr
  refine Reads.tuple (S.get h1) rfl rfl ?_
  refine ReadsAll.cons (as := []) (bs := []) (.int _ _) (ReadsAll.cons (as := []) (bs := []) (Reads.tuple (S.get h2) rfl rfl (readsAll_nats h3)) .nil)
theorem readsAll_rows {C : Cx} {m : Fm} {N R : Hp} {h : Heap} (S : Sat C m N R h) : ∀ {vs : List Value} {rs : List Rl}, AllAt (RowAt N) vs rs → ReadsAll h vs (rs.map dRow) []
  | [], [], _ => .nil
  | v :: vs, p :: rs, e => ReadsAll.cons (as := []) (bs := []) (reads_row S (e.2 0 v p rfl rfl)) (readsAll_rows S ⟨by have := e.1; simpa using this, fun i x y a b => e.2 (i + 1) x y (by simpa using a) (by simpa using b)⟩)
  | [], p :: rs, e => by have := e.1; simp at this
  | v :: vs, [], e => by have := e.1; simp at this
theorem canAll_nats : ∀ ss : List Nat, PyData.canLayAll0 (ss.map fun (s : Nat) => PyData.int s) = true
  | [] => by simp [PyData.canLayAll0]
  | s :: ss => by simp [PyData.canLayAll0, PyData.canLay0, canAll_nats ss]
theorem can_row (p : Rl) : (dRow p).canLay0 = true := by simp [dRow, PyData.canLay0, PyData.canLayAll0, canAll_nats]
theorem canAll_rows : ∀ rs : List Rl, PyData.canLayAll0 (rs.map dRow) = true
  | [] => by simp [PyData.canLayAll0]
  | s :: ss => by simp [PyData.canLayAll0, can_row, canAll_rows ss]
theorem depth_nats : ∀ ss : List Nat, PyData.depthAll (ss.map fun (s : Nat) => PyData.int s) = 0
  | [] => by simp [PyData.depthAll]
  | s :: ss => by simp [PyData.depthAll, PyData.depth, depth_nats ss]
theorem depth_row (p : Rl) : (dRow p).depth = 2 := by simp [dRow, PyData.depth, PyData.depthAll, depth_nats]
theorem eqv_nats : ∀ ss tt : List Nat, PyData.eqvAll (ss.map fun (s : Nat) => PyData.int s) (tt.map fun (s : Nat) => PyData.int s) = (ss == tt)
  | [], [] => by simp [PyData.eqvAll]
  | [], _ :: _ => by simp [PyData.eqvAll]
  | _ :: _, [] => by simp [PyData.eqvAll]
  | s :: ss, t :: tt => by
    rw [List.map_cons, List.map_cons, PyData.eqvAll, PyData.eqv, eqv_nats ss tt, List.cons_beq_cons]
    congr 1
    rw [Bool.eq_iff_iff]; simp only [beq_iff_eq]; omega
theorem eqv_row (p q : Rl) : PyData.eqv (dRow p) (dRow q) = (p == q) := by
  unfold dRow
  rw [PyData.eqv, PyData.eqvAll, PyData.eqvAll, PyData.eqvAll, PyData.eqv, PyData.eqv, eqv_nats]
  rw [Bool.eq_iff_iff]
  simp only [Bool.and_eq_true, beq_iff_eq, Prod.ext_iff]
  constructor
  · rintro ⟨a, b, _⟩; exact ⟨by omega, b⟩
  · rintro ⟨a, b⟩; exact ⟨by omega, b, trivial⟩

section
variable {C : Cx} {m m' : Fm} {N N' R : Hp} {a l d x : Addr} {k n : Nat} {vs : List Value}
theorem r_notInRows (hC : Amb C k) {rs : List Rl} {v : Value} {p : Rl} {Q : Value → Fm → Hp → Prop} (e : N l = some (lst vs n)) (h : AllAt (RowAt N) vs rs) (hv : RowAt N v p) (q : Q (.bool (!rs.any (· == p))) m N) : Run C (compareOp .NotIn v (.ref l)) m N Q := r_of fun R h' tk S => by
  refine PySem.SeqAt.notIn_list_reads (xs := rs.map dRow) (d := dRow p) (Reads.list (S.get e) rfl rfl (readsAll_rows S h)) (reads_row S hv) (canAll_rows rs) (can_row p) ?_ ?_
  · rw [depth_row]
    have := hC.un
    have := Nat.min_le_right (PyData.depthAll (rs.map dRow)) 2
    show C.A.units + 1 + _ < _
    omega
  · rw [List.any_map]
    have : (rs.any ((fun y => PyData.eqv y (dRow p)) ∘ dRow)) = rs.any (· == p) := by
      congr 1; funext y; exact eqv_row y p
    rw [this]
    exact Post.intro S q
theorem draw_tape (hC : Amb C (k + 1)) {t : Addr} {L : Nat} (e : TapeAt N t L) (hz : L ≤ 1000) {Q : Value → Fm → Hp → Prop} (q : ∀ i u N' L', LeBut t N N' → TapeAt N' t L' → L' ≤ L → (L ≠ 0 → L' < L) → Q (.int i u) m N') : Run C (call (.ref 261) [.ref t]) m N Q := by
  obtain ⟨vs, n, ns, e, hi, rfl⟩ := e
  refine draw_call hC e hz fun v N' hd => ?_
  rcases hd with ⟨rfl, ⟨u, rfl⟩, rfl⟩ | ⟨r, n', rfl, rfl⟩
  · exact q _ _ _ 0 LeBut.refl ⟨[], n, ns, e, hi, rfl⟩ (Nat.le_refl _) fun z => absurd rfl z
  · cases hi with
    | cons i t' hi => exact q _ _ _ r.length LeBut.upd ⟨r, n', _, upd_self, hi, rfl⟩ (by simp) fun _ => by simp
theorem fmod_nat (i : Int) (j : Nat) (hj : 0 < j) : ∃ s : Nat, s < j ∧ i.fmod (j : Int) = (s : Int) := by
  have h1 : 0 ≤ i.fmod (j : Int) := Int.fmod_nonneg_of_pos i (by omega)
  have h2 : i.fmod (j : Int) < j := Int.fmod_lt_of_pos i (by omega)
  exact ⟨(i.fmod j).toNat, by omega, by omega⟩

structure RulesSt (N : Hp) (ra : Addr) (rs : List Rl) : Prop where
  at' : RulesAt N ra rs
  ok : RulesOk rs
  nd : rs.Nodup
  left : ∀ i < 3, ∀ p, rs[i]? = some p → p.1 = i
  len : rs.length ≤ 5
def RulesP (N : Hp) (ta : Addr) (v : Value) (N' : Hp) : Prop := ∃ ra rs, v = .ref ra ∧ LeBut ta N N' ∧ ra ≠ ta ∧ N ra = none ∧ RulesSt N' ra rs ∧ 3 ≤ rs.length
def meaR (L l : Nat) : Nat := 4 * L + (3 - l)
set_option maxHeartbeats 800000 in
theorem rules_call (hC : Amb C (k + 2)) {ta : Addr} {L₀ : Nat} (ht : TapeAt N ta L₀) (hz : L₀ ≤ 1000) {Q : Value → Fm → Hp → Prop}
    (q : ∀ v N', RulesP N ta v N' → Q v m N') : Run C (call (.ref 266) [.ref ta]) m N Q := by
  refine r_call (cr_call_cell1 (P := RulesP N ta) hC (S 14) "_law_rules" (x := "tape") (lk266 _) (by kernel_rfl) (fun s _ => BindsTo.of_eq (by kernel_rfl)) (by kernel_rfl) (fun n => by kernel_rfl) (by kernel_rfl) (by kernel_rfl) (by kernel_rfl) (fun C' c oc m' hC' hc hd => ?_) q)
  have fe := calleeC_env hC' (by kernel_rfl)
  have k1 : C'.env.kindOf "rules" = some .local := calleeC_kind hC' (by kernel_rfl)
  have k2 : C'.env.kindOf "left" = some .local := calleeC_kind hC' (by kernel_rfl)
  have k3 : C'.env.kindOf "size" = some .local := calleeC_kind hC' (by kernel_rfl)
  have k4 : C'.env.kindOf "row" = some .local := calleeC_kind hC' (by kernel_rfl)
  have k5 : C'.env.kindOf "tape" = some .cell := calleeC_kind hC' (by kernel_rfl)
  have g1 : C'.env.kindOf "range" = some .globalImplicit := calleeC_kind hC' (by kernel_rfl)
  have g2 : C'.env.kindOf "len" = some .globalImplicit := calleeC_kind hC' (by kernel_rfl)
  have g3 : C'.env.kindOf "tuple" = some .globalImplicit := calleeC_kind hC' (by kernel_rfl)
  have g4 : C'.env.kindOf "_law_draw" = some .globalImplicit := calleeC_kind hC' (by kernel_rfl)
  have cc : C'.env.cells.lookup ("tape" : Str) = some c := by rw [calleeC_cells hC']; exact List.lookup_cons_self
  have hA := hC'.1
  have hh := hA.handled
  obtain ⟨_, hw, L, henv⟩ := id hC'
  have hct : c ≠ ta := fun z => by obtain ⟨vs, n, ns, e, _⟩ := ht; rw [z, e] at hc; cases hc
  with_unfolding_all refine r_cons ?_
  refine r_assign fe k1 (r_list (r_splNil (r_newList fun ra hra => ?_)))
  have hrat : ra ≠ ta := fun z => by
    obtain ⟨vs, n, ns, e, _⟩ := ht
    have : upd N c oc ta = some (lst vs n) := by rw [upd_ne hct.symm]; exact e
    rw [z, this] at hra; cases hra
  have hrac : ra ≠ c := fun z => by rw [z, upd_self] at hra; cases hra
  have hraN : N ra = none := by rw [upd_ne hrac] at hra; exact hra
  let I : Nat → Fm → Hp → Prop := fun n m' N' => ∃ rs L, m' "rules" = some (.ref ra) ∧ N' c = some oc ∧ LeBut ta N N' ∧ TapeAt N' ta L ∧ L ≤ 1000 ∧ RulesSt N' ra rs ∧ n = meaR L rs.length
  refine r_cons (r_while I (meaR L₀ 0) ⟨[], L₀, mset_self, by rw [upd_ne hrac.symm]; exact upd_self, ?_, ?_, hz, ?_, rfl⟩ ?_)
  · exact (LeBut.of (Le.upd hc)).put hraN
  · exact (ht.put hct.symm).put hrat.symm
  · exact ⟨⟨[], 0, upd_self, .nil⟩, (fun r hr => by simp at hr), List.nodup_nil, (fun i _ p e => by simp at e), by simp⟩
  rintro n m1 N1 ⟨rs, L, nr, hcc, hbut, htp, hL, hst, rfl⟩
  obtain ⟨vs, nn, hra1, hall⟩ := hst.at'
  have hvl : vs.length = rs.length := hall.1
  have hrl := hst.len
  refine r_mono (Q := fun b m' N' => m' = m1 ∧ N' = N1 ∧ b = decide (rs.length < 3 ∨ (L ≠ 0 ∧ rs.length < 5))) ?_ ?_
  · refine r_tOr (r_tCmp (r_callName (r_builtin fe hA g2 (by kernel_rfl) PyProof.Rows.Boot.«len» (by decide) ⟨kf_builtin, r_splCons (r_name fe k1 nr (r_splNil (r_lenList hra1 (by omega) fun t1 => r_int fun t2 => r_ltInt (r_tBool ?_))))⟩)))
    by_cases h3 : rs.length < 3
    · rw [if_pos (by simp only [decide_eq_true_eq]; omega)]
      exact ⟨rfl, rfl, by rw [decide_eq_true (.inl h3)]⟩
    · rw [if_neg (by simp only [decide_eq_true_eq]; omega)]
      obtain ⟨tvs, tn, tns, ht1, hti, htl⟩ := htp
      refine r_tAnd (r_tPlain (r_cell fe k5 cc hcc hd (r_truthList ht1 (by omega) ?_)))
      by_cases h0 : L = 0
      · have : tvs = [] := List.length_eq_zero_iff.mp (htl.trans h0)
        subst this
        exact ⟨rfl, rfl, by rw [decide_eq_false (by omega)]⟩
      · have : tvs.isEmpty = false := by
          cases tvs with
          | nil => exact absurd htl.symm h0
          | cons _ _ => rfl
        rw [this]
        refine r_tCmp (r_callName (r_builtin fe hA g2 (by kernel_rfl) PyProof.Rows.Boot.«len» (by decide) ⟨kf_builtin, r_splCons (r_name fe k1 nr (r_splNil (r_lenList hra1 (by omega) fun t1 => r_int fun t2 => r_ltInt (r_tBool ?_))))⟩))
        refine ⟨rfl, rfl, ?_⟩
        rw [decide_eq_decide]
        omega
  rintro b m2 N2 ⟨rfl, rfl, rfl⟩
  by_cases hgo : rs.length < 3 ∨ (L ≠ 0 ∧ rs.length < 5)
  rotate_left
  · rw [decide_eq_false hgo, if_neg (by decide)]
    refine r_nil ?_
    refine r_one (r_ret (r_name fe k1 nr ?_))
    exact ⟨ra, rs, rfl, hbut, hrat, hraN, hst, by omega⟩
  rw [decide_eq_true hgo, if_pos rfl]
  have hrao : ∀ {Na Nb : Hp} {o : Obj}, LeBut ta Na Nb → Na ra = some o → Nb ra = some o := fun h e => h _ _ hrat e
  refine r_consM (fun m' N' => ∃ (lf : Nat) (tl : Tok) (L2 : Nat), m' "rules" = some (.ref ra) ∧ m' "left" = some (.int (lf : Int) tl) ∧ LeBut ta N2 N' ∧ TapeAt N' ta L2 ∧ L2 ≤ L ∧ lf < 3 ∧ (rs.length < 3 → lf = rs.length) ∧ (3 ≤ rs.length → L2 < L))
    (r_assign fe k2 (r_ifExp (r_tCmp (r_callName (r_builtin fe hA g2 (by kernel_rfl) PyProof.Rows.Boot.«len» (by decide) ⟨kf_builtin, r_splCons (r_name fe k1 nr (r_splNil (r_lenList hra1 (by omega) fun t1 => r_int fun t2 => r_ltInt (r_tBool ?_))))⟩))))) ?_
  · by_cases h3 : rs.length < 3
    · rw [if_pos (by simp only [decide_eq_true_eq]; omega)]
      refine r_callName (r_builtin fe hA g2 (by kernel_rfl) PyProof.Rows.Boot.«len» (by decide) ⟨kf_builtin, r_splCons (r_name fe k1 nr (r_splNil (r_lenList hra1 (by omega) fun t1 => ?_)))⟩)
      exact ⟨rfl, vs.length, t1, L, by walk_at "ms", mset_self, LeBut.refl, htp, Nat.le_refl _, by omega, fun _ => hvl, fun z => by omega⟩
    · rw [if_neg (by simp only [decide_eq_true_eq]; omega)]
      refine r_binop (r_callName (r_global (v := .ref 261) fe hA g4 (by kernel_rfl) ⟨kf_ref hA (by kernel_rfl), r_splCons (r_cell fe k5 cc hcc hd (r_splNil (draw_tape hA htp hL fun i u N' L' hb' ht' hl1 hl2 => r_int fun t3 => r_modInt (by decide) fun t4 => ?_)))⟩))
      obtain ⟨s, hs, es⟩ := fmod_nat i 3 (by decide)
      rw [show (3 : Int) = ((3 : Nat) : Int) from rfl, es]
      exact ⟨rfl, s, t4, L', by walk_at "ms", mset_self, hb', ht', hl1, hs, fun z => absurd z h3, fun _ => hl2 (by omega)⟩
  rintro m3 N3 ⟨lf, tl, L2, nr3, nl3, hb3, ht3, hl3, hlf, hlf1, hlf2⟩
  refine r_consM (fun m' N' => ∃ (sz : Nat) (ts : Tok) (L2 : Nat), m' "rules" = some (.ref ra) ∧ m' "left" = some (.int (lf : Int) tl) ∧ m' "size" = some (.int (sz : Int) ts) ∧ LeBut ta N2 N' ∧ TapeAt N' ta L2 ∧ L2 ≤ L ∧ sz < 5 ∧ (3 ≤ rs.length → L2 < L))
    (r_assign fe k3 (r_binop (r_callName (r_global (v := .ref 261) fe hA g4 (by kernel_rfl) ⟨kf_ref hA (by kernel_rfl), r_splCons (r_cell fe k5 cc (hb3 _ _ hct hcc) hd (r_splNil (draw_tape hA ht3 (by omega) fun i u N' L' hb' ht' hl1 hl2 => r_int fun t3 => r_modInt (by decide) fun t4 => ?_)))⟩)))) ?_
  · obtain ⟨s, hs, es⟩ := fmod_nat i 5 (by decide)
    rw [show (5 : Int) = ((5 : Nat) : Int) from rfl, es]
    exact ⟨rfl, s, t4, L', by walk_at "ms", by walk_at "ms", mset_self, hb3.trans hb', ht', by omega, hs, fun z => by have := hlf2 z; omega⟩
  rintro m4 N4 ⟨sz, ts, L4, nr4, nl4, ns4, hb4, ht4, hl4, hsz, hlf4⟩
  clear hb3 ht3 hl3 hlf2
  have hc4 : N4 c = some oc := hb4 _ _ hct hcc
  refine r_consM (fun m' N' => ∃ (row : Value) (p : Rl) (L2 : Nat), m' "rules" = some (.ref ra) ∧ m' "row" = some row ∧ RowAt N' row p ∧ p.1 = lf ∧ p.2.length ≤ 4 ∧ (∀ s ∈ p.2, s < 7) ∧ LeBut ta N2 N' ∧ TapeAt N' ta L2 ∧ L2 ≤ L ∧ (3 ≤ rs.length → L2 < L))
    (r_assign fe k4 (r_tuple (r_splCons (r_name fe k2 nl4 (r_splCons (r_callName (r_builtin fe hA g3 (by kernel_rfl) PyProof.Rows.Boot.«tuple» (by decide) ⟨kf_type, r_splCons ?_⟩)))))) ) ?_
  · refine r_listComp (cl := [("tape", c)]) hA ?_ (closureFor_one (by rw [calleeC_cells hC']; exact List.lookup_cons_self) (by kernel_rfl)) (by decide +kernel) (by kernel_rfl) (by decide +kernel)
    refine r_callName (r_builtin fe hA g1 (by kernel_rfl) PyProof.Rows.Boot.«range» (by decide) ⟨kf_type, r_splCons (r_name fe k3 ns4 (r_splNil (r_range1 fun r9 t10 u10 v10 hr9 => ?_)))⟩)
    have hsmall : Builtin.Range.small 0 (sz : Int) 1 = true := by
      have : sz = 0 ∨ sz = 1 ∨ sz = 2 ∨ sz = 3 ∨ sz = 4 := by omega
      rcases this with rfl | rfl | rfl | rfl | rfl <;> rfl
    have h9t : ta ≠ r9 := fun z => by
      obtain ⟨tvs, tn, tns, e, _⟩ := ht4
      rw [z, hr9] at e; cases e
    refine ⟨sz, _, _, (by have := itb_range (C := C') (N := upd N4 r9 (rng 0 sz t10 u10 v10)) upd_self (by omega) hsmall; simpa using this), by omega,
      fun i ys N' => ∃ ss L2, LeBut ta (upd N4 r9 (rng 0 sz t10 u10 v10)) N' ∧ TapeAt N' ta L2 ∧ L2 ≤ L4 ∧ NatsAre ys ss ∧ ss.length = i ∧ ∀ s ∈ ss, s < 7, ⟨[], L4, LeBut.refl, ht4.put h9t, Nat.le_refl _, .nil, rfl, fun s hs => by simp at hs⟩, ?_, ?_, ?_⟩
    · intro b hb
      exact absurd hb List.not_mem_nil
    · rintro C₂ h2 i v ys m N' hi ⟨tv, rfl⟩ ⟨ss, L5, hb5, ht5, hl5, hys, hssl, hss7⟩
      have fe2 := comp_env h2 fe (by kernel_rfl)
      have c1 : C₂.env.kindOf "_" = some .local := comp_kind h2 (by rw [henv]; kernel_rfl)
      have c2 : C₂.env.kindOf "tape" = some .cell := comp_kind h2 (by rw [henv]; kernel_rfl)
      have c3 : C₂.env.kindOf "_law_draw" = some .globalImplicit := comp_kind h2 (by rw [henv]; kernel_rfl)
      have cc2 : C₂.env.cells.lookup ("tape" : Str) = some c := by rw [comp_cells h2]; exact List.lookup_cons_self
      have hA2 := h2.1
      refine r_asName fe2 c1 ?_
      refine r_binop (r_callName (r_global (v := .ref 261) fe2 hA2 c3 (by kernel_rfl) ⟨kf_ref hA2 (by kernel_rfl), r_splCons (r_cell fe2 c2 cc2 (hb5 _ _ hct (Le.upd hr9 _ _ hc4)) hd (r_splNil (draw_tape hA2 ht5 (by omega) fun i u N' L' hb' ht' hl1 hl2 => r_int fun t3 => r_modInt (by decide) fun t4 => ?_)))⟩))
      obtain ⟨s, hs, es⟩ := fmod_nat i 7 (by decide)
      rw [show (7 : Int) = ((7 : Nat) : Int) from rfl, es]
      refine ⟨ss ++ [s], L', hb5.trans hb', ht', by omega, ?_, by rw [List.length_append, hssl]; rfl, fun x hx => ?_⟩
      · unfold NatsAre
        rw [List.map_append]
        exact IntsAre.snoc' _ t4 hys
      · rcases List.mem_append.mp hx with hx | hx
        · exact hss7 x hx
        · rw [List.mem_singleton.mp hx]; exact hs
    · rintro ys N' ⟨ss, L5, hb5, ht5, hl5, hys, hssl, hss7⟩ D cD hD
      have hyl : ys.length = ss.length := by have := hys.length; rwa [List.length_map] at this
      have hDt : ta ≠ D := fun z => by
        obtain ⟨tvs, tn, tns, e, _⟩ := ht5
        rw [z, hD] at e; cases e
      refine r_splNil (r_tupleOfList upd_self (by omega) fun tu htu => ?_)
      have htt : ta ≠ tu := fun z => by
        obtain ⟨tvs, tn, tns, e, _⟩ := ht5.put (o := lst ys cD) hDt
        rw [z, htu] at e; cases e
      refine r_splNil (r_newTuple (fun rw' hrw => ?_) (by show 2 ≤ sizeLine; rw [sizeLine_eq]; omega))
      have hrwt : ta ≠ rw' := fun z => by
        obtain ⟨tvs, tn, tns, e, _⟩ := (ht5.put (o := lst ys cD) hDt).put (o := tup ys 0) htt
        rw [z, hrw] at e; cases e
      refine ⟨rfl, .ref rw', (lf, ss), L5, (mset_ne (by decide)).trans nr4, mset_self, ⟨rw', tu, tl, 0, 0, ys, rfl, upd_self, ?_, hys⟩, rfl, by show ss.length ≤ 4; omega, hss7, ?_, ((ht5.put hDt).put htt).put hrwt, by omega, fun z => by have := hlf4 z; omega⟩
      · exact Le.upd hrw tu (tup ys 0) upd_self
      · exact ((hb4.trans (LeBut.of (Le.upd hr9))).trans hb5).trans (((LeBut.of (Le.upd hD)).trans (LeBut.of (Le.upd htu))).trans (LeBut.of (Le.upd hrw)))
  rintro m5 N5 ⟨row, p, L5, nr5, nrow, hrow, hp1, hp2, hp3, hb5, ht5, hl5, hlf5⟩
  obtain ⟨tvs, tn, tns, htt, hti, htl⟩ := id htp
  have hall5 : AllAt (RowAt N5) vs rs := hall.mono fun _ _ => RowAt.but hb5 htt
  have hra5 : N5 ra = some (lst vs nn) := hrao hb5 hra1
  refine r_one (r_ifS (r_tCmp (r_name fe k4 nrow (r_name fe k1 nr5 (r_notInRows hA hra5 hall5 hrow (r_tBool ?_))))))
  have hnew : rs.length < 3 → rs.any (· == p) = false := fun h3 => by
    rw [List.any_eq_false]
    intro x hx he
    rw [beq_iff_eq] at he
    obtain ⟨i, hi, e⟩ := List.mem_iff_getElem.mp hx
    have := hst.left i (by omega) x (by rw [List.getElem?_eq_getElem hi, e])
    rw [he, hp1, hlf1 h3] at this
    omega
  cases hin : rs.any (· == p) with
  | true =>
    rw [if_neg (by simp)]
    refine r_nil ⟨_, ?_, rs, L5, nr5, hb5 _ _ hct hcc, hbut.trans hb5, ht5, by omega, ⟨⟨vs, nn, hra5, hall5⟩, hst.ok, hst.nd, hst.left, hst.len⟩, rfl⟩
    have h3 : ¬ rs.length < 3 := fun z => by rw [hnew z] at hin; cases hin
    have := hlf5 (by omega)
    unfold meaR
    omega
  | false =>
    rw [if_pos (by simp)]
    refine r_one (r_exprS fe (r_mcall (r_name fe k1 nr5 ⟨_, _, gm_list hra5 PySem.F.slot_list_append PySem.F.type_list_append, kf_builtin, r_splCons (r_name fe k4 nrow (r_splNil (r_append hra5 (by omega) fun n' => ?_)))⟩)))
    have hra5' : N5 ra ≠ none := by rw [hra5]; exact fun z => nomatch z
    have hup : LeBut ra N5 (upd N5 ra (lst (vs ++ [row]) n')) := LeBut.upd
    refine ⟨fun a z => (nomatch z), _, ?_, rs ++ [p], L5, nr5, ?_, ?_, ht5.put hrat.symm, by omega, ⟨⟨_, n', upd_self, ?_⟩, ?_, ?_, ?_, ?_⟩, rfl⟩
    · rw [List.length_append]
      unfold meaR
      show 4 * L5 + (3 - (rs.length + 1)) < _
      by_cases h3 : rs.length < 3
      · omega
      · have := hlf5 (by omega); omega
    · exact hup _ _ hrac.symm (hb5 _ _ hct hcc)
    · exact (hbut.trans hb5).put hraN
    · exact (hall5.mono fun _ _ => RowAt.but hup hra5).snoc (RowAt.but hup hra5 hrow)
    · intro x hx
      rcases List.mem_append.mp hx with hx | hx
      · exact hst.ok x hx
      · rw [List.mem_singleton.mp hx]; exact ⟨by omega, hp2, hp3⟩
    · rw [List.nodup_append]
      refine ⟨hst.nd, by simp, fun x hx y hy => ?_⟩
      rw [List.mem_singleton.mp hy]
      rintro rfl
      have : rs.any (· == x) = true := List.any_eq_true.mpr ⟨x, hx, by simp⟩
      rw [hin] at this; cases this
    · intro i hi x e
      rcases Nat.lt_or_ge i rs.length with h | h
      · rw [List.getElem?_append_left h] at e; exact hst.left i hi x e
      · rw [List.getElem?_append_right h] at e
        cases hz : i - rs.length with
        | zero => rw [hz] at e; cases e; rw [hp1, hlf1 (by omega)]; omega
        | succ q => rw [hz] at e; simp at e
    · rw [List.length_append]
      show rs.length + 1 ≤ 5
      omega
end
end Mine

namespace Mine
open PySem PySem.Challenge

section
variable {C : Cx} {m m' : Fm} {N N' R : Hp} {a l d x : Addr} {k n : Nat} {vs : List Value}
theorem heapOf_at (C : Cx) (h : Heap) (tk : Nat) : C.at h tk = ⟨h, C.s₀.gens, C.s₀.drawn, tk, C.s₀.os⟩ := rfl
/-- an object of an own class -/
theorem cr_make {Cl fI : Addr} {rest : List Value} {Q : Value → Fm → Hp → Prop} (hC : Amb C (k + 1)) (hm : makesIn (K C.w.params) Cl = true) (hi : findIn (K C.w.params) (.ref Cl) "__init__" = some (some (.ref fI))) (hf : typeIn (K C.w.params) (.ref fI) = some (.type "function"))
    (h : ∀ C', Amb C' k → C'.w = C.w → ∀ x dx, N dx = none → upd N dx emptyDict x = none → CRun C' (.call (.ref fI) ⟨.ref x :: rest, []⟩) m (upd (upd N dx emptyDict) x (instObj Cl dx)) fun v m' N' => v = .none ∧ Q (.ref x) m' N') :
    CRun C (.call (.ref Cl) ⟨rest, []⟩) m N Q := by
  intro R hh tk S
  have Xh := hC.X.keeps S.F.keep
  refine make_core (C := Cl) (init := .ref fI) (makes_of Xh hm) (looks_findIn Xh hi) (fun self => bind_fn Xh self hf) (.inl rfl) ?_
  let A' := C.A.under (.builtin "type.__call__" ⟨.ref Cl :: rest, []⟩)
  let C' : Cx := { C with A := A' }
  have A'' : Amb C' k := by
    refine ⟨fun m₁ N₁ R₁ h' S₁ l hl => ?_, hC.X, hC.T, hC.handled, ?_, ?_, ?_, hC.nb, hC.cov⟩
    · have B := hC.below m₁ N₁ R₁ h' ⟨S₁.ns, S₁.own, S₁.fr, S₁.base, S₁.above, S₁.big, S₁.sm, S₁.frs⟩ l hl
      exact ⟨B.stack, B.stays, B.frames⟩
    · have hg : (Code.builtin "type.__call__" ⟨.ref Cl :: rest, []⟩).guards = [] := by
        have : (Code.builtin "type.__call__" ⟨.ref Cl :: rest, []⟩).isGuard = false := by
          show guardIds.contains "type.__call__" = false
          decide +kernel
        unfold Code.guards
        rw [this]; rfl
      have e : C'.A.guards = pushGuards (Code.builtin "type.__call__" ⟨.ref Cl :: rest, []⟩).guards C.A.guards := rfl
      rw [e, hg, hC.guards]; rfl
    · have := hC.dp
      show C.A.depth + 1 + k < _
      omega
    · have := hC.un
      show C.A.units + 1 + 8 * k + 100 < _
      omega
  have S1 := S.push emptyDict
  have S2 := S1.2.push (instObj Cl hh.objs.size)
  rw [Heap.size_push] at S2
  refine codeAny_mono (h C' A'' rfl (hh.objs.size + 1) hh.objs.size S1.1 S2.1 R _ tk ⟨S2.2.ns, S2.2.own, S2.2.fr, S2.2.base, S2.2.above, S2.2.big, S2.2.sm, S2.2.frs⟩) fun r s' z => ?_
  rcases r with e | (v | _ | _ | _)
  · exact z.elim
  all_goals first | exact z.elim | skip
  obtain ⟨h', tk', m', N', e', S', rfl, hq⟩ := z
  exact ⟨rfl, h', tk', m', N', e', ⟨S'.ns, S'.own, S'.fr, S'.base, S'.above, S'.big, S'.sm, S'.frs⟩, hq⟩
end
end Mine

namespace Mine
open PySem PySem.Challenge
local macro_rules | `(tactic| walk_at "ms") => `(tactic| first | assumption | exact mset_self | (refine (mset_ne (by decide)).trans ?_; walk_at "ms"))

/-! strs -/
theorem keptI {hp : Heap} {h' : Heap} {o : Obj} (hk : ∀ b x, b ∉ [hp.objs.size] → (hp.push o).get? b = some x → h'.get? b = some x) : ∀ b x, hp.get? b = some x → h'.get? b = some x :=
  fun b x e => hk b x (fun hm => by rw [List.mem_singleton.mp hm] at e; exact Nat.lt_irrefl _ (Heap.lt_size e)) (Heap.get?_push_of_some _ e)
theorem bools_get {vs : List Value} {bs : List Bool} (h : vs = bs.map .bool) (i : Nat) (v : Value) (e : vs[i]? = some v) : ∃ b, bs[i]? = some b ∧ v = .bool b := by
  rw [h, List.getElem?_map] at e
  cases q : bs[i]? with
  | none => rw [q] at e; cases e
  | some b => rw [q] at e; cases e; exact ⟨b, rfl, rfl⟩
theorem rangeAll (bs : List Bool) : ((List.range bs.length).all fun i => (bs[i]?).getD true) = bs.all id := by
  rw [Bool.eq_iff_iff, List.all_eq_true, List.all_eq_true]
  constructor
  · intro h b hb
    obtain ⟨i, hi, e⟩ := List.getElem_of_mem hb
    have := h i (List.mem_range.mpr hi)
    simp only [List.getElem?_eq_getElem hi, Option.getD_some, e] at this
    exact this
  · intro h i hi
    have hi' := List.mem_range.mp hi
    simp only [List.getElem?_eq_getElem hi', Option.getD_some]
    exact h _ (List.getElem_mem hi')
theorem rangeAny (bs : List Bool) : ((List.range bs.length).any fun i => (bs[i]?).getD false) = bs.any id := by
  rw [Bool.eq_iff_iff, List.any_eq_true, List.any_eq_true]
  constructor
  · rintro ⟨i, hi, e⟩
    have hi' := List.mem_range.mp hi
    simp only [List.getElem?_eq_getElem hi', Option.getD_some] at e
    exact ⟨_, List.getElem_mem hi', e⟩
  · rintro ⟨b, hb, e⟩
    obtain ⟨i, hi, q⟩ := List.getElem_of_mem hb
    refine ⟨i, List.mem_range.mpr hi, ?_⟩
    simp only [List.getElem?_eq_getElem hi, Option.getD_some, q]
    exact e
section
variable {C : Cx} {m m' : Fm} {N N' R : Hp} {a l d x : Addr} {k n : Nat} {vs : List Value}
theorem r_neStr {i j : Str} {t u : Tok} {Q : Value → Fm → Hp → Prop} (q : Q (.bool (i != j)) m N) : Run C (compareOp .NotEq (.str i t) (.str j u)) m N Q := r_of fun R h tk S => PyProof.Rows.ne_str (Post.intro S q)
theorem r_strIn {s y : Str} {t u : Tok} {Q : Value → Fm → Hp → Prop} (q : Q (.bool (Txt.contains s y)) m N) : Run C (compareOp .In (.str y u) (.str s t)) m N Q := r_of fun R h tk S => SB.contains (Post.intro S q)
theorem r_strLen {s : Str} {t : Tok} {Q : Value → Fm → Hp → Prop} (hz : s.length ≤ 1000000) (q : ∀ t, Q (.int s.length t) m N) : Run C (call (.builtin "len") [.str s t]) m N Q := r_of fun R h tk S =>
  PyProof.Rows.len_str (by omega) (Post.intro (tk' := tk + 1 + 1) S (q _))
theorem r_strItem {s : Str} {i : Int} {t u : Tok} {Q : Value → Fm → Hp → Prop} (hr : fitsSsize i = true) (hin : (Txt.charAt s i).isSome = true) (q : ∀ t, Q (.str (Txt.item s i) t) m N) : Run C (getItem (.str s t) (.int i u)) m N Q := r_of fun R h tk S =>
  SB.getItem hr hin (Post.intro (tk' := tk + 1) S (q _))
abbrev sliceObj (l u : Value) : Obj := { cls := .type "slice", data := .fields #[l, u, .none] }
theorem r_slice {olo oup : Option Expr} {p : Pos} {Q : Value → Fm → Hp → Prop} (q : Run C (evalPart olo C.env) m N fun vl m N => Run C (evalPart oup C.env) m N fun vu m N => ∀ sl, N sl = none → Q (.ref sl) m (upd N sl (sliceObj vl vu))) :
    Run C (eval (.Slice olo oup none p) C.env) m N Q := r_of fun R h tk S => wpAny_Slice (wpAny_mono (q.go R h tk S) (fun l s₁ hp => by
      obtain ⟨h', tk', m', N', rfl, S', r⟩ := hp
      refine wpAny_mono (r.go R h' tk' S') (fun u s₂ hp => ?_) fun _ _ e => e
      obtain ⟨h₂, tk₂, m₂, N₂, rfl, S₂, r⟩ := hp
      rw [evalPart_none]
      have S₃ := S₂.push (sliceObj l u)
      exact wpAny_pure (Post.intro S₃.2 (r _ S₃.1))) fun _ _ e => e)
theorem r_partNone {Q : Value → Fm → Hp → Prop} (q : Q .none m N) : Run C (evalPart none C.env) m N Q := r_eq rfl (r_pure q)
theorem r_partSome {e : Expr} {Q : Value → Fm → Hp → Prop} (q : Run C (eval e C.env) m N Q) : Run C (evalPart (some e) C.env) m N Q := q
theorem r_strSlice {s s' : Str} {t : Tok} {sl : Addr} {lo hi : Option (Int × Tok)} {Q : Value → Fm → Hp → Prop} (e : N sl = some (sliceObj (partValue lo) (partValue hi))) (hm : sliceMade s t lo hi none = .str s') (hz : s'.length ≤ 1000000) (q : ∀ t, Q (.str s' t) m N) : Run C (getItem (.str s t) (.ref sl)) m N Q := r_of fun R h tk S => by
  refine wpAny_getItem_str_slice (l := lo) (u := hi) (st := none) ⟨_, S.get e, rfl, rfl⟩ rfl ?_
  rw [hm]
  exact ⟨by rw [sizeLine_eq]; show s'.length ≤ _; omega, Post.intro (tk' := tk + 1) S (q _)⟩
theorem r_tupFrom {sl : Addr} {i : Nat} {t : Tok} {Q : Value → Fm → Hp → Prop} (e : N l = some (tup vs n)) (e' : N sl = some (sliceObj (.int (i : Int) t) .none)) (h1 : 1 ≤ i) (hi : i ≤ vs.length) (hz : vs.length ≤ 1000000)
    (q : ∀ b, N b = none → Q (.ref b) m (upd N b (tup (vs.drop i) 0))) : Run C (getItem (.ref l) (.ref sl)) m N Q := r_of fun R h tk S => by
  refine getItem_tuple_from (items := vs.toArray) ⟨_, S.get e, rfl, _, rfl⟩ ⟨_, S.get e', rfl, rfl⟩ h1 (by rw [List.size_toArray]; exact hi) ?_ (by rw [List.size_toArray, sizeLine_eq]; omega)
  have S₃ := S.push (tup (vs.drop i) 0)
  exact Post.intro S₃.2 (q _ S₃.1)
theorem r_listSlice {sl : Addr} {vl vu : Value} {lo hi : Option Int} {Q : Value → Fm → Hp → Prop} (e : N l = some (lst vs n)) (e' : N sl = some (sliceObj vl vu)) (pl : IsPart vl lo) (pu : IsPart vu hi) (hz : vs.length ≤ 1000000)
    (q : ∀ b, N b = none → Q (.ref b) m (upd N b (lst (slicePick vs.toArray lo hi none).toList 0))) : Run C (getItem (.ref l) (.ref sl)) m N Q := r_of fun R h tk S => by
  refine wpAny_getItem_list_slice (S.isList e) ⟨_, S.get e', rfl, rfl⟩ pl pu .none (by simp) ?_ (by rw [List.size_toArray, sizeLine_eq]; omega)
  have S₃ := S.push (lst (slicePick vs.toArray lo hi none).toList 0)
  exact Post.intro S₃.2 (q _ S₃.1)
theorem hi_slice_eq {value slice : Expr} : True := trivial
/-- and, as a value -/
theorem r_andE {x y : Expr} {p : Pos} {Q : Value → Fm → Hp → Prop} (q : Run C (eval x C.env) m N fun v m N => Run C (truthy v) m N fun b m N => if b then Run C (eval y C.env) m N Q else Q v m N) : Run C (eval (.BoolOp .And [x, y] p) C.env) m N Q := by
  rw [arm_eval_BoolOp]
  show Run C (eval x C.env >>= _) m N Q
  refine r_bind (r_mono q fun v m' N' r => r_at_bind (r_bind (r_holding (r_mono r fun b m' N' r => ?_))))
  cases b with
  | true => exact r
  | false => exact r_pure r
/-- the signs of a str -/
theorem itb_str {s : Str} {t : Tok} (ha : s.cps.all (· < 128) = true) : Itb C N (.str s t) s.cps.size (SignAt s) [] := fun m R h tk Q S hQ => by
  refine wpAny_pyIter_ascii ha (hQ _ "str_ascii_iterator" (fun i h' => h'.IsStrIter h.objs.size "str_ascii_iterator" s t i) (fun A' hA => ?_) ⟨_, Heap.get?_push_size _ rfl, rfl, rfl⟩ rfl (fun i h' st => ?_) (by decide))
  · have W := Walks.strAscii (prog := PR) (w := C.w) hA h.objs.size s t
    exact ⟨W.sub, W.frame, W.item, W.done, W.self⟩
  · obtain ⟨o, ho, hc, _⟩ := st
    exact ⟨o, ho, hc⟩
theorem r_all {bs : List Bool} {Q : Value → Fm → Hp → Prop} (hh : C.A.handled = none) (e : N l = some (lst vs n)) (hb : vs = bs.map .bool) (q : Q (.bool (bs.all id)) m N) : Run C (call (.builtin "all") [.ref l]) m N Q := r_of fun R h tk S => by
  refine call_all_walk (wpAny_pyIter_list (S.isList e) ?_)
  refine ⟨h.objs.size, [h.objs.size, l], [h.objs.size], vs.toArray.size, _, _, fun i => (bs[i]?).getD true, rfl, Walks.list (A := C.A.in1) hh _ l (Nat.ne_of_lt (S.lt e)) vs.toArray,
    ⟨⟨_, Heap.get?_push_size _ rfl, rfl, rfl⟩, (S.isList e).push _⟩, fun i v s' Q' E' hP hQ => ?_, fun h' tk hk => ?_⟩
  · obtain ⟨b, e, rfl⟩ := bools_get hb i v (by simpa using hP)
    simp only [e, Option.getD_some] at hQ
    exact wpAny_truthy_bool hQ
  · have e : ((List.range vs.toArray.size).all fun i => (bs[i]?).getD true) = bs.all id := by
      rw [List.size_toArray, hb, List.length_map]; exact rangeAll bs
    rw [e]
    exact Post.intro (S.grow (keptI hk)) q
theorem r_any {bs : List Bool} {Q : Value → Fm → Hp → Prop} (hh : C.A.handled = none) (e : N l = some (lst vs n)) (hb : vs = bs.map .bool) (q : Q (.bool (bs.any id)) m N) : Run C (call (.builtin "any") [.ref l]) m N Q := r_of fun R h tk S => by
  refine call_any_walk (wpAny_pyIter_list (S.isList e) ?_)
  refine ⟨h.objs.size, [h.objs.size, l], [h.objs.size], vs.toArray.size, _, _, fun i => (bs[i]?).getD false, rfl, Walks.list (A := C.A.in1) hh _ l (Nat.ne_of_lt (S.lt e)) vs.toArray,
    ⟨⟨_, Heap.get?_push_size _ rfl, rfl, rfl⟩, (S.isList e).push _⟩, fun i v s' Q' E' hP hQ => ?_, fun h' tk hk => ?_⟩
  · obtain ⟨b, e, rfl⟩ := bools_get hb i v (by simpa using hP)
    simp only [e, Option.getD_some] at hQ
    exact wpAny_truthy_bool hQ
  · have e : ((List.range vs.toArray.size).any fun i => (bs[i]?).getD false) = bs.any id := by
      rw [List.size_toArray, hb, List.length_map]; exact rangeAny bs
    rw [e]
    exact Post.intro (S.grow (keptI hk)) q
end
end Mine

namespace Mine
open PySem PySem.Challenge
local macro_rules | `(tactic| walk_at "ms") => `(tactic| first | assumption | exact mset_self | (refine (mset_ne (by decide)).trans ?_; walk_at "ms"))

section
variable {C : Cx} {m m' : Fm} {N N' R : Hp} {a l d x : Addr} {k n : Nat} {vs : List Value}
theorem r_isubInt {i j : Int} {t u : Tok} {Q : Value → Fm → Hp → Prop} (q : ∀ t, Q (.int (i - j) t) m N) : Run C (inplaceOp .Sub (.int i t) (.int j u)) m N Q := r_of fun R h tk S => PyProof.Rows.isub_int (Post.intro (tk' := tk + 1) S (q _))
theorem r_neg {x : Expr} {p : Pos} {i : Int} {Q : Value → Fm → Hp → Prop} (q : Run C (eval x C.env) m N fun v m N => ∃ i t, v = .int i t ∧ ∀ t, Q (.int (-i) t) m N) : Run C (eval (.UnaryOp .USub x p) C.env) m N Q := by
  rw [arm_eval_UnaryOp]
  refine r_bind (r_mono q fun v m' N' ⟨i, t, e, r⟩ => r_at_bind (r_holding ?_))
  subst e
  exact r_of fun R h tk S => PyProof.Rows.neg_int (Post.intro (tk' := tk + 1) S (r _))
/-- one of several tests -/
theorem r_tOrs {xs : List Expr} {p : Pos} {w : Sem Value} {Q : Bool → Fm → Hp → Prop} (q : Run C (allTrue .Or xs C.env) m N Q) : Run C (isTrue (.BoolOp .Or xs p) C.env w) m N Q := by
  rw [arm_isTrue_BoolOp]; exact q
theorem r_orNil {Q : Bool → Fm → Hp → Prop} (q : Q false m N) : Run C (allTrue .Or [] C.env) m N Q := r_eq (arm_allTrue_nil _ _) (r_pure q)
theorem r_orCons {x : Expr} {xs : List Expr} {Q : Bool → Fm → Hp → Prop} (q : Run C (isTrue x C.env (eval x C.env)) m N fun b m' N' => if b then Q true m' N' else Run C (allTrue .Or xs C.env) m' N' Q) : Run C (allTrue .Or (x :: xs) C.env) m N Q := by
  rw [arm_allTrue_cons]
  refine r_bind (r_mono q fun b m' N' r => ?_)
  cases b with
  | true => exact r_pure r
  | false => exact r

def IDENT : Str := "abcdefghijklmnopqrstuvwxyzABCDEFGHIJKLMNOPQRSTUVWXYZ0123456789_-"
def idOk (s : Str) : Bool := decide (0 < s.length ∧ s.length ≤ 1000) && s.cps.all (· < 128) && s.cps.toList.all (fun c => Txt.contains IDENT ⟨#[c]⟩)
theorem id_told : ∀ i ∈ [0, 1, 2, 3, 4, 6], idOk (told i) = true := by decide +kernel

set_option maxHeartbeats 800000 in
theorem ident_call (hC : Amb C (k + 1)) {s : Str} {t : Tok} (hs : idOk s = true) {Q : Value → Fm → Hp → Prop} (q : ∀ N', Le N N' → Q (.bool true) m N') : Run C (call (.ref 39) [.str s t]) m N Q := by
  unfold idOk at hs
  simp only [Bool.and_eq_true, decide_eq_true_eq, List.all_eq_true] at hs
  obtain ⟨⟨⟨h1, h2⟩, h3⟩, h4⟩ := hs
  refine r_call (cr_call_def (P := fun v N' => v = .bool true ∧ Le N N') hC (S 3) "_is_identifier" [("s", .str s t)] (lk39 _) (by kernel_rfl) (fun s _ => BindsTo.of_eq (by kernel_rfl)) (locs (by kernel_rfl)) (by decide +kernel) (by kernel_rfl) (by kernel_rfl) (by kernel_rfl) (fun C' hC' => ?_)
    (fun v N' ⟨e, h⟩ => by rw [e]; exact q _ h))
  have fe := callee_env hC' (by kernel_rfl)
  have k1 : C'.env.kindOf "s" = some .local := callee_kind hC' (by kernel_rfl)
  have g1 : C'.env.kindOf "len" = some .globalImplicit := callee_kind hC' (by kernel_rfl)
  have g2 : C'.env.kindOf "all" = some .globalImplicit := callee_kind hC' (by kernel_rfl)
  have hA := hC'.1
  have hh := hA.handled
  obtain ⟨_, _, L, henv, _⟩ := id hC'
  with_unfolding_all refine r_one (r_ret ?_)
  refine r_genm (fun m => m "s" = some (.str s t)) rfl fun m0 hm0 => ?_
  refine r_andE (r_cmp (r_callName (r_builtin fe hA g1 (by kernel_rfl) PyProof.Rows.Boot.«len» (by decide) ⟨kf_builtin, r_splCons (r_name fe k1 hm0 (r_splNil (r_strLen (by omega) fun t1 => r_int fun t2 => r_gtInt (r_tBool ?_))))⟩)))
  rw [if_pos (by simp only [decide_eq_true_eq]; omega)]
  refine r_callName (r_builtin fe hA g2 (by kernel_rfl) PyProof.Rows.Boot.«all» (by decide) ⟨kf_builtin, r_splCons ?_⟩)
  refine r_listComp (cl := []) hA ?_ (by rw [henv]; kernel_rfl) (by decide +kernel) (by kernel_rfl) (by decide +kernel)
  refine r_name fe k1 hm0 ?_
  have hz : s.cps.size ≤ 1000 := h2
  refine ⟨_, _, _, itb_str h3, by omega, fun i ys N' => N' = N ∧ ys = (List.replicate i true).map .bool, ⟨rfl, rfl⟩, ?_, ?_, ?_⟩
  · intro b hb
    exact absurd hb List.not_mem_nil
  · rintro C₂ h2' i v ys m N' hi ⟨c, u, hc, rfl⟩ ⟨rfl, rfl⟩
    have fe2 := comp_env h2' fe (by kernel_rfl)
    have c1 : C₂.env.kindOf "c" = some .local := comp_kind h2' (by rw [henv]; kernel_rfl)
    have c2 : C₂.env.kindOf "_IDENTIFIER" = some .globalImplicit := comp_kind h2' (by rw [henv]; kernel_rfl)
    refine r_asName fe2 c1 ?_
    refine r_cmp (r_name fe2 c1 mset_self (r_global (v := .str IDENT 222) fe2 h2'.1 c2 (by kernel_rfl) (r_strIn ?_)))
    have := h4 c (by rw [← Array.getElem?_toList] at hc; exact List.mem_of_getElem? hc)
    rw [this]
    refine ⟨rfl, ?_⟩
    rw [List.replicate_succ', List.map_append]
    rfl
  · rintro ys N' ⟨rfl, rfl⟩ D cD hD
    refine r_splNil (r_all hh upd_self rfl ?_)
    have : (List.replicate s.cps.size true).all id = true := by simp
    rw [this]
    exact ⟨rfl, Le.upd hD⟩

/-! _literal, at the one literal -/
def litS : Str := "'+'"
set_option maxHeartbeats 800000 in
theorem literal_call (hC : Amb C (k + 1)) {t : Tok} {Q : Value → Fm → Hp → Prop} (q : ∀ N' t, Le N N' → Q (.str "+" t) m N') : Run C (call (.ref 46) [.str litS t]) m N Q := by
  refine r_call (cr_call_def (P := fun v N' => (∃ t, v = .str "+" t) ∧ Le N N') hC (S 5) "_literal" [("s", .str litS t)] (lk46 _) (by kernel_rfl) (fun s _ => BindsTo.of_eq (by kernel_rfl)) (locs (by kernel_rfl)) (by decide +kernel) (by kernel_rfl) (by kernel_rfl) (by kernel_rfl) (fun C' hC' => ?_)
    (fun v N' ⟨⟨t, e⟩, h⟩ => by rw [e]; exact q _ _ h))
  have fe := callee_env hC' (by kernel_rfl)
  have k1 : C'.env.kindOf "s" = some .local := callee_kind hC' (by kernel_rfl)
  have g1 : C'.env.kindOf "len" = some .globalImplicit := callee_kind hC' (by kernel_rfl)
  have hA := hC'.1
  have hh := hA.handled
  with_unfolding_all refine r_cons ?_
  refine r_genm (fun m => m "s" = some (.str litS t)) rfl fun m0 hm0 => ?_
  refine r_ifS (r_tOrs (r_orCons (r_tCmp (r_callName (r_builtin fe hA g1 (by kernel_rfl) PyProof.Rows.Boot.«len» (by decide) ⟨kf_builtin, r_splCons (r_name fe k1 hm0 (r_splNil (r_strLen (by decide) fun t1 => r_int fun t2 => r_ltInt (r_tBool ?_))))⟩)))))
  rw [if_neg (by decide)]
  refine r_orCons (r_tCmp (r_sub (r_name fe k1 hm0 (r_int fun t3 => ⟨hi_str, r_strItem (by decide) (by decide +kernel) fun t4 => ?_⟩))))
  refine r_sub (r_name fe k1 hm0 (r_neg (i := 1) (r_int fun t5 => ⟨1, t5, rfl, fun t6 => ⟨hi_str, r_strItem (by decide) (by decide +kernel) fun t7 => r_neStr (r_tBool ?_)⟩⟩)))
  rw [if_neg (by decide +kernel)]
  refine r_orCons (r_tCmp (r_sub (r_name fe k1 hm0 (r_int fun t8 => ⟨hi_str, r_strItem (by decide) (by decide +kernel) fun t9 => ?_⟩))))
  refine r_subSlice (r_name fe k1 hm0 (r_slice (r_partSome (r_int fun t10 => r_partSome (r_neg (i := 1) (r_int fun t11 => ⟨1, t11, rfl, fun t12 sl hsl => ⟨hi_str, ?_⟩⟩))))))
  refine r_strSlice (s' := "+") (lo := some (1, t10)) (hi := some (-1, t12)) upd_self (by rfl) (by decide) fun t13 => r_strIn (r_tBool ?_)
  rw [if_neg (by decide +kernel)]
  refine r_orCons (r_tCmp (r_str fun t14 => r_name fe k1 hm0 (r_strIn (r_tBool ?_))))
  rw [if_neg (by decide +kernel)]
  refine r_orCons (r_tCmp (r_str fun t15 => r_name fe k1 hm0 (r_strIn (r_tBool ?_))))
  rw [if_neg (by decide +kernel)]
  refine r_orNil ?_
  rw [if_neg (by decide)]
  refine r_nil ?_
  refine r_one (r_ret ?_)
  refine r_subSlice (r_name fe k1 hm0 (r_slice (r_partSome (r_int fun t10 => r_partSome (r_neg (i := 1) (r_int fun t11 => ⟨1, t11, rfl, fun t12 sl' hsl' => ⟨hi_str, ?_⟩⟩))))))
  refine r_strSlice (s' := "+") (lo := some (1, t10)) (hi := some (-1, t12)) upd_self (by rfl) (by decide) fun t13 => ?_
  exact ⟨⟨t13, rfl⟩, (Le.upd hsl).trans (Le.upd hsl')⟩

/-! rightmost_terminal -/
set_option maxHeartbeats 800000 in
theorem right_call (hC : Amb C (k + 1)) {sy td : Addr} {ys : List Str} {o : Obj} {kvs : List (Str × Value)} (hs : N sy = some (lst vs n)) (hy : StrsAre vs ys) (hz : vs.length ≤ 1000) (ht : N td = some o) (hd : IsD C.w o kvs) {Q : Value → Fm → Hp → Prop}
    (q : ∀ v, (v = .none ∨ ∃ y t, v = .str y t) → Q v m N) : Run C (call (.ref 111) [.ref sy, .ref td]) m N Q := by
  refine r_call (cr_call_def (P := fun v N' => (v = .none ∨ ∃ y t, v = .str y t) ∧ N' = N) hC (S 7) "rightmost_terminal" [("symbols", .ref sy), ("terminals", .ref td)] (lk111 _) (by kernel_rfl) (fun s _ => BindsTo.of_eq (by kernel_rfl)) (locs (by kernel_rfl)) (by decide +kernel) (by kernel_rfl) (by kernel_rfl) (by kernel_rfl) (fun C' hC' => ?_)
    (fun v N' ⟨e, h⟩ => by rw [h]; exact q _ e))
  have fe := callee_env hC' (by kernel_rfl)
  have k1 : C'.env.kindOf "symbols" = some .local := callee_kind hC' (by kernel_rfl)
  have k2 : C'.env.kindOf "terminals" = some .local := callee_kind hC' (by kernel_rfl)
  have k3 : C'.env.kindOf "i" = some .local := callee_kind hC' (by kernel_rfl)
  have g1 : C'.env.kindOf "len" = some .globalImplicit := callee_kind hC' (by kernel_rfl)
  have hA := hC'.1
  have hh := hA.handled
  have hw : C'.w = C.w := hC'.2.1
  have hd' : IsD C'.w o kvs := hw ▸ hd
  with_unfolding_all refine r_cons ?_
  refine r_genm (fun m => m "symbols" = some (.ref sy) ∧ m "terminals" = some (.ref td)) ⟨rfl, rfl⟩ fun m0 ⟨e1, e2⟩ => ?_
  refine r_assign fe k3 (r_binop (r_callName (r_builtin fe hA g1 (by kernel_rfl) PyProof.Rows.Boot.«len» (by decide) ⟨kf_builtin, r_splCons (r_name fe k1 e1 (r_splNil (r_lenList hs (by omega) fun t1 => r_int fun t2 => r_subInt fun t3 => ?_)))⟩)))
  refine r_cons (r_while (fun n m' N' => N' = N ∧ m' "symbols" = some (.ref sy) ∧ m' "terminals" = some (.ref td) ∧ ∃ t, m' "i" = some (.int ((n : Int) - 1) t) ∧ n ≤ vs.length) vs.length ⟨rfl, by walk_at "ms", by walk_at "ms", t3, mset_self, Nat.le_refl _⟩ ?_)
  rintro n1 m1 N1 ⟨rfl, e1, e2, t4, e3, hn⟩
  refine r_tCmp (r_name fe k3 e3 (r_int fun t5 => r_geInt (r_tBool ?_)))
  cases n1 with
  | zero =>
    rw [if_neg (by simp)]
    exact r_nil (r_one (r_ret (r_none ⟨.inl rfl, rfl⟩)))
  | succ i =>
    rw [if_pos (by simp only [ge_iff_le, decide_eq_true_eq]; omega)]
    have hi : vs[i]? = some (vs[i]'hn) := List.getElem?_eq_getElem hn
    obtain ⟨y, ty, hyv, hyi⟩ := strs_at hy hi
    rw [hyv] at hi
    have hsi : ((i + 1 : Nat) : Int) - 1 = (i : Int) := by omega
    refine r_cons (r_ifS (r_tCmp (r_sub (r_name fe k1 e1 (r_name fe k3 e3 ⟨hi_list (seen_own hs), r_listGet hs hsi hi (by omega) (r_name fe k2 e2 (r_dictIn ht hd' (r_tBool ?_)))⟩)))))
    cases (valueAt kvs y).isSome with
    | true =>
      rw [if_pos rfl]
      refine r_one (r_ret (r_sub (r_name fe k1 e1 (r_name fe k3 e3 ⟨hi_list (seen_own hs), r_listGet hs hsi hi (by omega) ?_⟩))))
      exact ⟨.inr ⟨y, ty, rfl⟩, rfl⟩
    | false =>
      rw [if_neg (by decide)]
      refine r_nil ?_
      refine r_one (r_aug fe k3 e3 (r_int fun t6 => r_isubInt fun t7 => ?_))
      exact ⟨i, Nat.lt_succ_self _, rfl, by walk_at "ms", by walk_at "ms", t7, by rw [mset_self]; congr 2; omega, by omega⟩
end
end Mine

namespace Mine
open PySem PySem.Challenge

/-! the rules -/
def showL (ys : List Str) : Str := (PyData.list (ys.map .str)).shown
section
variable {C : Cx} {m m' : Fm} {N N' R : Hp} {a l d x b : Addr} {k n : Nat} {vs : List Value}
theorem readsAll_strs {h : Heap} : ∀ {vs : List Value} {ys : List Str}, StrsAre vs ys → ReadsAll h vs (ys.map PyData.str) []
  | _, _, .nil => .nil
  | _, _, .cons s t e => ReadsAll.cons (as := []) (bs := []) (.str _ _) (readsAll_strs e)
theorem showableAll_strs : ∀ ys : List Str, PyData.showableAll (ys.map .str) = true
  | [] => by simp [PyData.showableAll]
  | y :: ys => by simp [PyData.showableAll, PyData.showable, showableAll_strs ys]
theorem hasDictAll_strs : ∀ ys : List Str, PyData.hasDictAll (ys.map .str) = false
  | [] => by simp [PyData.hasDictAll]
  | y :: ys => by simp [PyData.hasDictAll, PyData.hasDict, hasDictAll_strs ys]
theorem depthAll_strs : ∀ ys : List Str, PyData.depthAll (ys.map .str) = 0
  | [] => by simp [PyData.depthAll]
  | y :: ys => by simp [PyData.depthAll, PyData.depth, depthAll_strs ys]
theorem r_fmtEmpty {y : Str} {t ty : Tok} {Q : Value → Fm → Hp → Prop} (hy : y.length ≤ 1000000) (q : ∀ t, Q (.str (y ++ PySem.Str.ofString " -> <empty>") t) m N) : Run C (binaryOp .Mod (.str (PySem.Str.ofString "%s -> <empty>") t) (.str y ty)) m N Q := r_of fun R h tk S => by
  refine KPc.mod_str (X' := ⟨#[37, 115, 32, 45, 62, 32, 60, 101, 109, 112, 116, 121, 62]⟩) (T := fun z => z ++ PySem.Str.ofString " -> <empty>") (by decide +kernel) hy ?_ fun t' k => Post.intro S (q t')
  kpc_run_s
theorem r_joinTup {y : Str} {ys : List Str} {t : Tok} {Q : Value → Fm → Hp → Prop} (hl : N l = some (tup vs n)) (hs : StrsAre vs ys) (hok : (ys.map (·.length)).sum + ys.length * y.length ≤ 16777216) (q : ∀ t, Q (.str (Txt.join y ys) t) m N) :
    Run C (call (.builtin "str.join") [.str y t, .ref l]) m N Q := r_of fun R h tk S =>
  PyProof.Rows.join_tuple (items := vs.toArray) ⟨_, S.get hl, rfl, _, rfl⟩ hs hok fun t' k => Post.intro S (q t')
theorem gm_strJoin {y : Str} {t : Tok} : ∀ (pl : Sem Bool) (P : Value × List Value → Fm → Hp → Prop), P (.builtin "str.join", [.str y t]) m N → Run C (getMethod (.str y t) "join" pl) m N P := fun pl P p => r_of fun R h tk S =>
  GM.join (Post.intro S p)

/-! f-strings -/
def RJ (C : Cx) : List (Sem Value) → Str → Fm → Hp → (Str → Fm → Hp → Prop) → Prop
  | [], acc, m, N, Q => Q acc m N
  | x :: rest, acc, m, N, Q => Run C x m N fun v m' N' => ∃ y t, v = .str y t ∧ (acc ++ y).length ≤ 1000000 ∧ RJ C rest (acc ++ y) m' N' Q
theorem rj_joins {Q : Str → Fm → Hp → Prop} : ∀ (parts : List (Sem Value)) (acc : Str) (m : Fm) (N R : Hp) (h : Heap) (tk : Nat), RJ C parts acc m N Q → Sat C m N R h → Joins (model PR C.w) C.A (fun _ _ => False) parts acc (fun out s' => ∃ h' tk' m' N', s' = C.at h' tk' ∧ Sat C m' N' R h' ∧ Q out m' N') (C.at h tk)
  | [], acc, m, N, R, h, tk, q, S => ⟨h, tk, m, N, rfl, S, q⟩
  | x :: rest, acc, m, N, R, h, tk, q, S => by
    refine wpAny_mono (Run.go q R h tk S) (fun v s' hp => ?_) fun _ _ e => e
    obtain ⟨h', tk', m', N', rfl, S', y, t, rfl, hz, r⟩ := hp
    exact ⟨y, t, rfl, Nat.le_trans hz (by rw [sizeLine_eq]; omega), rj_joins rest (acc ++ y) m' N' R h' tk' r S'⟩
theorem joins_mono {M : Model} {A : Around} {E : Value → Shared → Prop} {Q Q' : Str → Shared → Prop} (w : ∀ x s, Q x s → Q' x s) : ∀ (parts : List (Sem Value)) (acc : Str) (s : Shared), Joins M A E parts acc Q s → Joins M A E parts acc Q' s
  | [], acc, s, h => w _ _ h
  | x :: rest, acc, s, h => wpAny_mono h (fun v s₁ ⟨y, t, e, hz, r⟩ => ⟨y, t, e, hz, joins_mono w rest _ _ r⟩) fun _ _ e => e
theorem r_joined {v₁ v₂ : Expr} {rest : List Expr} {p : Pos} {Q : Value → Fm → Hp → Prop} (q : RJ C (evalEach (v₁ :: v₂ :: rest) C.env) Str.empty m N fun out m N => out.length ≤ 1000000 ∧ ∀ t, Q (.str out t) m N) : Run C (eval (.JoinedStr (v₁ :: v₂ :: rest) p) C.env) m N Q := r_of fun R h tk S => by
  refine wpAny_JoinedStr (joins_mono (fun out s' hp => ?_) _ _ _ (rj_joins _ _ _ _ _ _ _ q S))
  obtain ⟨h', tk', m', N', rfl, S', hz, r⟩ := hp
  exact ⟨Nat.le_trans hz (by rw [sizeLine_eq]; omega), Post.intro (tk' := tk' + 1) S' (r _)⟩
theorem rj_cons {x : Expr} {rest : List Expr} {acc : Str} {Q : Str → Fm → Hp → Prop} (q : Run C (eval x C.env) m N fun v m' N' => ∃ y t, v = .str y t ∧ (acc ++ y).length ≤ 1000000 ∧ RJ C (evalEach rest C.env) (acc ++ y) m' N' Q) : RJ C (evalEach (x :: rest) C.env) acc m N Q := q
theorem rj_nil {acc : Str} {Q : Str → Fm → Hp → Prop} (q : Q acc m N) : RJ C (evalEach [] C.env) acc m N Q := q
theorem r_fmtStr {value : Expr} {p : Pos} {Q : Value → Fm → Hp → Prop} (q : Run C (eval value C.env) m N fun v m N => ∃ x t, v = .str x t ∧ x.length ≤ 1000000 ∧ ∀ t, Q (.str x t) m N) : Run C (eval (.FormattedValue value 115 none p) C.env) m N Q := r_of fun R h tk S => by
  refine wpAny_FormattedValue_s (wpAny_mono (q.go R h tk S) (fun v s' hp => ?_) fun _ _ e => e)
  obtain ⟨h', tk', m', N', rfl, S', x, t, rfl, hz, r⟩ := hp
  have hz' : x.length ≤ sizeLine := by rw [sizeLine_eq]; omega
  exact SB.convS_str (fun t' k => SB.field_str (fun t'' k' => Post.intro (tk' := k') S' (r t'')) hz') hz'
theorem r_fmtList {value : Expr} {p : Pos} {Q : Value → Fm → Hp → Prop} (hC : Amb C k) (q : Run C (eval value C.env) m N fun v m N => ∃ l vs n ys, v = .ref l ∧ N l = some (lst vs n) ∧ StrsAre vs ys ∧ (showL ys).length ≤ 1000000 ∧ ∀ t, Q (.str (showL ys) t) m N) : Run C (eval (.FormattedValue value 115 none p) C.env) m N Q := r_of fun R h tk S => by
  refine wpAny_FormattedValue_s (wpAny_mono (q.go R h tk S) (fun v s' hp => ?_) fun _ _ e => e)
  obtain ⟨h', tk', m', N', rfl, S', l, vs, n, ys, rfl, hl, hs, hz, r⟩ := hp
  have hz' : (showL ys).length ≤ sizeLine := by rw [sizeLine_eq]; omega
  have rd : Reads h' (.ref l) (.list (ys.map .str)) [l] := Reads.list (S'.get hl) rfl rfl (readsAll_strs hs)
  have hun := hC.un
  refine convS_of_reads rd (by simp [PyData.showable, showableAll_strs]) (by simp [PyData.hasDict, hasDictAll_strs]) hC.guards ?_ (fun _ _ e => e) (fun h₂ u tk₂ hk => ?_) hz'
  · simp only [PyData.depth, depthAll_strs]
    omega
  · exact SB.field_str (fun t'' k' => Post.intro (tk' := k') (S'.grow hk) (r t'')) hz'
end
end Mine

namespace Mine
open PySem PySem.Challenge
local macro_rules | `(tactic| walk_at "ms") => `(tactic| first | assumption | exact mset_self | (refine (mset_ne (by decide)).trans ?_; walk_at "ms"))

section
variable {C : Cx} {m m' : Fm} {N N' R : Hp} {a l d x dx Cl : Addr} {k n c : Nat} {vs : List Value} {at' : Fm}
/-- self.n = value, and on -/
theorem r_setC {n : Str} {value : Expr} {p p' ps : Pos} {rest : List Stmt} {Q : Flow → Fm → Hp → Prop} (fe : FEnv C) (hA : Amb C k) (ks : C.env.kindOf "self" = some .local) (hp : plainName (K C.w.params) Cl n = true) (hc : c ≤ 99)
    (q : Run C (eval value C.env) m N fun v m' N' => m' "self" = some (.ref x) ∧ Inst N' x dx Cl at' c ∧ ∀ N'', LeBut dx N' N'' → (∀ b, N' b = none → N'' b = none) → Inst N'' x dx Cl (mset at' n v) (c + 1) → Run C (execs rest C.env) m' N'' Q)
    (hs : swapsWith value (some (.Attribute (.Name "self" ps) n p')) p.line C.env = pure false := by rfl) : Run C (execs (.Assign [.Attribute (.Name "self" ps) n p'] value p :: rest) C.env) m N Q :=
  r_cons (r_assignAttr (r_mono q fun v m' N' ⟨ms, hi, kk⟩ => r_name fe ks ms (r_setAttr hA hi hp hc fun o hn hi' => kk _ LeBut.upd (fun b hb => by rw [upd_ne (fun z => hn (by rw [← z]; exact hb))]; exact hb) hi')) hs)
/-- self.n, read -/
theorem r_selfAt {n : Str} {p ps : Pos} {v : Value} {Q : Value → Fm → Hp → Prop} (fe : FEnv C) (hA : Amb C k) (ks : C.env.kindOf "self" = some .local) (hp : plainName (K C.w.params) Cl n = true) (ms : m "self" = some (.ref x)) (hi : Inst N x dx Cl at' c) (hv : at' n = some v) (hh : handedIn v = true)
    (q : Q v m N) (hb : attributeBase (.Name "self" ps) n C.env (eval (.Name "self" ps) C.env) = eval (.Name "self" ps) C.env := by rfl) : Run C (eval (.Attribute (.Name "self" ps) n p) C.env) m N Q :=
  r_attr (r_name fe ks ms (r_getAttr hA hi hp hv hh q)) hb
theorem Inst.but {t : Addr} {vs : List Value} {n : Nat} (l : LeBut t N N') (ht : N t = some (lst vs n)) (i : Inst N x dx Cl at' c) : Inst N' x dx Cl at' c := by
  obtain ⟨es, k, e1, e2, r⟩ := i
  refine ⟨es, k, l _ _ (fun q => ?_) e1, l _ _ (fun q => ?_) e2, r⟩
  · rw [q, ht] at e1; have := congrArg Obj.cls (Option.some.inj e1); cases this
  · rw [q, ht] at e2; have := congrArg Obj.cls (Option.some.inj e2); injection this with z; exact absurd z (by decide)
theorem Inst.mono (i : Inst N x dx Cl at' c) {c' : Nat} (h : c ≤ c') : Inst N x dx Cl at' c' := let ⟨es, k, e1, e2, z, r⟩ := i; ⟨es, k, e1, e2, Nat.le_trans z h, r⟩
theorem Inst.fresh {Cl : Addr} (hd : N dx = none) (hx : upd N dx emptyDict x = none) : Inst (upd (upd N dx emptyDict) x (instObj Cl dx)) x dx Cl (fun _ => none) 0 := by
  refine ⟨[], 0, upd_self, Le.upd hx _ _ upd_self, Nat.le_refl _, fun y => rfl⟩
theorem join_len' (sep : Str) : ∀ ys : List Str, (Str.join sep ys).length ≤ (ys.map (·.length)).sum + ys.length * sep.length
  | [] => Nat.zero_le _
  | [x] => by simp only [List.map_cons, List.map_nil, List.sum_cons, List.sum_nil]; show x.length ≤ _; omega
  | x :: y :: r => by
    have ih := join_len' sep (y :: r)
    show (x ++ sep ++ Str.join sep (y :: r)).length ≤ _
    rw [Str.length_append, Str.length_append]
    simp only [List.map_cons, List.sum_cons, List.length_cons, Nat.succ_mul] at ih ⊢
    omega
theorem join_len (sep : Str) (ys : List Str) : (Txt.join sep ys).length ≤ (ys.map (·.length)).sum + ys.length * sep.length := by
  show (Builtin.Str.glued sep ys).length ≤ _
  rw [StrLaws.glued_eq_join]
  exact join_len' sep ys
/-- a production -/
def ProdAt (N : Hp) (v : Value) (nm : Str) (ys : List Str) : Prop := ∃ x dx at' c pt vs, v = .ref x ∧ Inst N x dx 100 at' c ∧ (∃ t, at' "name" = some (.str nm t)) ∧ at' "prod" = some (.ref pt) ∧ N pt = some (tup vs 0) ∧ StrsAre vs ys
/-- a production just made -/
def ProdNew (N N' : Hp) (v : Value) (nm : Str) (ys : List Str) : Prop := ∃ x dx at' c pt vs, N x = none ∧ N dx = none ∧ N pt = none ∧ v = .ref x ∧ Inst N' x dx 100 at' c ∧ (∃ t, at' "name" = some (.str nm t)) ∧ at' "prod" = some (.ref pt) ∧ N' pt = some (tup vs 0) ∧ StrsAre vs ys
theorem ProdAt.le (l : Le N N') {v : Value} {nm : Str} {ys : List Str} (h : ProdAt N v nm ys) : ProdAt N' v nm ys :=
  let ⟨x, dx, at', c, pt, vs, e, hi, h1, h2, h3, h4⟩ := h; ⟨x, dx, at', c, pt, vs, e, hi.le l, h1, h2, l _ _ h3, h4⟩
def InitP (N : Hp) (x dx : Addr) (nm : Str) (ys : List Str) (v : Value) (N' : Hp) : Prop := v = .none ∧ LeBut dx N N' ∧ ∃ at' c pt vs, N pt = none ∧ Inst N' x dx 100 at' c ∧ (∃ t, at' "name" = some (.str nm t)) ∧ at' "prod" = some (.ref pt) ∧ N' pt = some (tup vs 0) ∧ StrsAre vs ys
set_option maxHeartbeats 1600000 in
theorem init_body {C' : Cx} {qual : Str} {f cdA sy : Addr} {nm : Str} {tn : Tok} {ys : List Str} {a2 a5 a6 a7 a8 : Value} {binds : List (Str × Value)} (hC' : Callee C qual (SM 6 2) f cdA C' k) (hb : ∀ y, binds.reverse.lookup y = ([("self", .ref x), ("number", a2), ("name", .str nm tn), ("prod", .ref sy), ("precedence", a5), ("func", a6), ("file", a7), ("line", a8)] : List (Str × Value)).reverse.lookup y)
    (hi : Inst N x dx 100 (fun _ => none) 0) (hsy : N sy = some (lst vs n)) (hs : StrsAre vs ys) (hz : (ys.map (·.length)).sum + ys.length ≤ 1000) (hnm : nm.length ≤ 1000) :
    Run C' (execs (bodyOf (SM 6 2)) C'.env) (fun y => binds.reverse.lookup y) N (Ret fun v _ N' => InitP N x dx nm ys v N') := by
  have fe := callee_env hC' (by kernel_rfl)
  have k0 : C'.env.kindOf "self" = some .local := callee_kind hC' (by kernel_rfl)
  have k1 : C'.env.kindOf "number" = some .local := callee_kind hC' (by kernel_rfl)
  have k2 : C'.env.kindOf "name" = some .local := callee_kind hC' (by kernel_rfl)
  have k3 : C'.env.kindOf "prod" = some .local := callee_kind hC' (by kernel_rfl)
  have k4 : C'.env.kindOf "precedence" = some .local := callee_kind hC' (by kernel_rfl)
  have k5 : C'.env.kindOf "func" = some .local := callee_kind hC' (by kernel_rfl)
  have k6 : C'.env.kindOf "file" = some .local := callee_kind hC' (by kernel_rfl)
  have k7 : C'.env.kindOf "line" = some .local := callee_kind hC' (by kernel_rfl)
  have k8 : C'.env.kindOf "s" = some .local := callee_kind hC' (by kernel_rfl)
  have g1 : C'.env.kindOf "tuple" = some .globalImplicit := callee_kind hC' (by kernel_rfl)
  have g2 : C'.env.kindOf "len" = some .globalImplicit := callee_kind hC' (by kernel_rfl)
  have hA := hC'.1
  have hh := hA.handled
  have hvl : vs.length = ys.length := StrsAre.len hs
  refine r_genm (fun m => m "self" = some (.ref x) ∧ m "number" = some a2 ∧ m "name" = some (.str nm tn) ∧ m "prod" = some (.ref sy) ∧ m "precedence" = some a5 ∧ m "func" = some a6 ∧ m "file" = some a7 ∧ m "line" = some a8) ⟨by rw [hb]; rfl, by rw [hb]; rfl, by rw [hb]; rfl, by rw [hb]; rfl, by rw [hb]; rfl, by rw [hb]; rfl, by rw [hb]; rfl, by rw [hb]; rfl⟩ fun m0 ⟨e0, e1, e2, e3, e4, e5, e6, e7⟩ => ?_
  clear hb
  with_unfolding_all refine r_setC (at' := fun _ => none) (x := x) (dx := dx) (Cl := 100) (c := 0) fe hA k0 (by kernel_rfl) (by decide) ?_
  refine r_name fe k2 e2 ⟨e0, hi, fun N1 L1 F1 i1 => ?_⟩
  have hsd : sy ≠ dx := fun z => by
    obtain ⟨es, q, _, e, _⟩ := hi
    rw [← z, hsy] at e; have := congrArg Obj.cls (Option.some.inj e); injection this with z; exact absurd z (by decide)
  have hsy1 := L1 _ _ hsd hsy
  refine r_setC fe hA k0 (by kernel_rfl) (by decide) (r_callName (r_builtin fe hA g1 (by kernel_rfl) PyProof.Rows.Boot.«tuple» (by decide) ⟨kf_type, r_splCons (r_name fe k3 e3 (r_splNil (r_tupleOfList hsy1 (by omega) fun pt hpt => ⟨e0, i1.le (Le.upd hpt), fun N2 L2 F2 i2 => ?_⟩)))⟩))
  have hptd : pt ≠ dx := fun z => by
    obtain ⟨es, q, _, e, _⟩ := i1
    rw [← z, hpt] at e; cases e
  have p2 : N2 pt = some (tup vs 0) := L2 _ _ hptd upd_self
  have ptN : N pt = none := L1.none hpt hptd
  refine r_setC fe hA k0 (by kernel_rfl) (by decide) (r_name fe k1 e1 ⟨e0, i2, fun N3 L3 F3 i3 => ?_⟩)
  refine r_setC fe hA k0 (by kernel_rfl) (by decide) (r_name fe k5 e5 ⟨e0, i3, fun N4 L4 F4 i4 => ?_⟩)
  refine r_setC fe hA k0 (by kernel_rfl) (by decide) (r_none ⟨e0, i4, fun N5 L5 F5 i5 => ?_⟩)
  refine r_setC fe hA k0 (by kernel_rfl) (by decide) (r_name fe k6 e6 ⟨e0, i5, fun N6 L6 F6 i6 => ?_⟩)
  refine r_setC fe hA k0 (by kernel_rfl) (by decide) (r_name fe k7 e7 ⟨e0, i6, fun N7 L7 F7 i7 => ?_⟩)
  refine r_setC fe hA k0 (by kernel_rfl) (by decide) (r_name fe k4 e4 ⟨e0, i7, fun N8 L8 F8 i8 => ?_⟩)
  have L28 := L3.trans (L4.trans (L5.trans (L6.trans (L7.trans L8))))
  have p8 := L28 _ _ hptd p2
  have L08 : LeBut dx N N8 := (L1.trans (LeBut.of (Le.upd hpt))).trans (L2.trans L28)
  clear L1 L2 L3 L4 L5 L6 L7 L8 L28 i1 i2 i3 i4 i5 i6 i7 hsy1 p2 hpt
  generalize hat : mset (mset (mset (mset (mset (mset (mset (mset (fun _ => none) "name" (.str nm tn)) "prod" (.ref pt)) "number" a2) "func" a6) "callable" .none) "file" a7) "line" a8) "prec" a5 = at8 at i8
  have n8 : at8 "name" = some (.str nm tn) := by rw [← hat]; walk_at "ms"
  have q8 : at8 "prod" = some (.ref pt) := by rw [← hat]; walk_at "ms"
  clear hat
  refine r_setC fe hA k0 (by kernel_rfl) (by decide) (r_callName (r_builtin fe hA g2 (by kernel_rfl) PyProof.Rows.Boot.«len» (by decide) ⟨kf_builtin, r_splCons (r_selfAt fe hA k0 (by kernel_rfl) e0 i8 q8 rfl (r_splNil (r_lenTup p8 (by omega) fun t1 => ⟨e0, i8, fun N9 L9 F9 i9 => ?_⟩)))⟩))
  refine r_setC fe hA k0 (by kernel_rfl) (by decide) (r_list (r_splNil (r_newList fun us hus => ⟨e0, i9.le (Le.upd hus), fun N10 L10 F10 i10 => ?_⟩)))
  have hud : us ≠ dx := fun z => by
    obtain ⟨es, q, _, e, _⟩ := i9
    rw [← z, hus] at e; cases e
  have p9 := L9 _ _ hptd p8
  have huN : N us = none := (L08.trans L9).none hus hud
  have hpu : pt ≠ us := fun z => by rw [z, hus] at p9; cases p9
  have u10 : N10 us = some (lst [] 0) := L10 _ _ hud upd_self
  have p10 : N10 pt = some (tup vs 0) := L10 _ _ hptd (Le.upd hus _ _ p9)
  have L010 : LeBut dx N N10 := ((L08.trans L9).trans (LeBut.of (Le.upd hus))).trans L10
  clear L08 L9 L10 hus i8 i9 p8 p9 F9 F10
  generalize hat : mset (mset at8 "len" (.int vs.length t1)) "usyms" (.ref us) = at10 at i10
  have n10 : at10 "name" = some (.str nm tn) := by rw [← hat]; walk_at "ms"
  have q10 : at10 "prod" = some (.ref pt) := by rw [← hat]; walk_at "ms"
  have r10 : at10 "usyms" = some (.ref us) := by rw [← hat]; walk_at "ms"
  clear hat
  let J : Nat → Fm → Hp → Prop := fun i m' N' => m' "self" = some (.ref x) ∧ LeBut dx N N' ∧ Inst N' x dx 100 at10 10 ∧ N' pt = some (tup vs 0) ∧ ∃ zs us' c, N' us = some (lst us' c) ∧ StrsAre us' zs ∧ us'.length ≤ i
  refine r_consM (fun m' N' => J ys.length m' N') (r_for hh (r_selfAt fe hA k0 (by kernel_rfl) e0 i10 q10 rfl ⟨_, _, _, itb_tuple p10, J, ⟨e0, L010, i10, p10, [], [], 0, u10, .nil, Nat.le_refl _⟩, ?_, ?_, ?_⟩)) ?_
  · intro b hb
    rw [List.mem_singleton.mp hb]
    exact ⟨_, fun i m N' h => h.2.2.2.1⟩
  · rintro i v m' N' hlt hv ⟨e0, hL, hi, hp, zs, us', c', hu, hus, hul⟩
    obtain ⟨y, ty, rfl, hy⟩ := strs_at hs hv
    refine r_asName fe k8 (r_one (r_ifS (r_tCmp (r_name fe k8 mset_self (r_selfAt fe hA k0 (by kernel_rfl) (by walk_at "ms") hi r10 rfl (r_notInStrs hu hus (r_tBool ?_)))))))
    cases zs.any (· == y) with
    | true =>
      rw [if_neg (by simp)]
      exact r_nil ⟨by walk_at "ms", hL, hi, hp, zs, us', c', hu, hus, by omega⟩
    | false =>
      rw [if_pos (by simp)]
      refine r_one (r_exprS fe (r_mcall (r_selfAt fe hA k0 (by kernel_rfl) (by walk_at "ms") hi r10 rfl ⟨_, _, gm_list hu PySem.F.slot_list_append PySem.F.type_list_append, kf_builtin, r_splCons (r_name fe k8 mset_self (r_splNil (r_append hu (by omega) fun n' => ?_)))⟩)))
      exact ⟨fun a z => (nomatch z), by walk_at "ms", hL.put huN, hi.but LeBut.upd hu, by rw [upd_ne hpu]; exact hp, zs ++ [y], _, n', upd_self, StrsAre.snoc' _ _ hus, by rw [List.length_append]; show us'.length + 1 ≤ i + 1; omega⟩
  · rw [hvl]
    exact fun m' N' h => r_nil ⟨rfl, h⟩
  rintro m1 N11 ⟨e0, hL, i11, hp, _⟩
  refine r_setC fe hA k0 (by kernel_rfl) (by decide) (r_list (r_splNil (r_newList fun li hli => ⟨e0, i11.le (Le.upd hli), fun N12 L12 F12 i12 => ?_⟩)))
  refine r_setC fe hA k0 (by kernel_rfl) (by decide) (r_none ⟨e0, i12, fun N13 L13 F13 i13 => ?_⟩)
  have p13 : N13 pt = some (tup vs 0) := L13 _ _ hptd (L12 _ _ hptd (Le.upd hli _ _ hp))
  have L013 : LeBut dx N N13 := (hL.trans (LeBut.of (Le.upd hli))).trans (L12.trans L13)
  generalize hat : mset (mset at10 "lr_items" (.ref li)) "lr_next" .none = at13 at i13
  have n13 : at13 "name" = some (.str nm tn) := by rw [← hat]; walk_at "ms"
  have q13 : at13 "prod" = some (.ref pt) := by rw [← hat]; walk_at "ms"
  clear hat
  refine r_one (r_ifS (r_tPlain (r_selfAt fe hA k0 (by kernel_rfl) e0 i13 q13 rfl (r_truthTup p13 (by omega) ?_))))
  have fin : ∀ v N', LeBut dx N13 N' → Inst N' x dx 100 (mset at13 "str" v) 13 → InitP N x dx nm ys .none N' := fun v N' L' i' =>
    ⟨rfl, L013.trans L', _, _, pt, vs, ptN, i', ⟨tn, by walk_at "ms"⟩, by walk_at "ms", L' _ _ hptd p13, hs⟩
  cases hve : vs.isEmpty with
  | false =>
    rw [if_pos (by decide)]
    refine r_setC (c := 12) (x := x) (dx := dx) (Cl := 100) (at' := at13) fe hA k0 (by kernel_rfl) (by decide) (r_joined (rj_cons (r_fmtStr (r_selfAt fe hA k0 (by kernel_rfl) e0 i13 n13 rfl ⟨nm, tn, rfl, by omega, fun t2 => ?_⟩))))
    refine ⟨_, _, rfl, by rw [Str.length_append]; show 0 + nm.length ≤ _; omega, rj_cons (r_str fun t3 => ⟨_, _, rfl, by rw [Str.length_append, Str.length_append]; show 0 + nm.length + 4 ≤ _; omega, rj_cons (r_fmtStr ?_)⟩)⟩
    refine r_mcall (r_str fun t4 => ⟨_, _, gm_strJoin, kf_builtin, r_splCons (r_selfAt fe hA k0 (by kernel_rfl) e0 i13 q13 rfl (r_splNil (r_joinTup p13 hs ?_ fun t5 => ?_)))⟩)
    · show (ys.map (·.length)).sum + ys.length * 1 ≤ _
      omega
    · have hjl := join_len (Str.ofString " ") ys
      have h1 : (Str.ofString " ").length = 1 := by decide
      rw [h1] at hjl
      refine ⟨_, t5, rfl, by omega, fun t6 => ⟨_, _, rfl, ?_, rj_nil ⟨?_, fun t7 => ⟨e0, i13, fun N14 L14 F14 i14 => r_nil (fin _ _ L14 i14)⟩⟩⟩⟩
      · rw [Str.length_append, Str.length_append, Str.length_append]
        show 0 + nm.length + 4 + _ ≤ _
        omega
      · rw [Str.length_append, Str.length_append, Str.length_append]
        show 0 + nm.length + 4 + _ ≤ _
        omega
  | true =>
    rw [if_neg (by simp)]
    refine r_setC (c := 12) (x := x) (dx := dx) (Cl := 100) (at' := at13) fe hA k0 (by kernel_rfl) (by decide) (r_binop (r_str fun t2 => r_selfAt fe hA k0 (by kernel_rfl) e0 i13 n13 rfl (r_fmtEmpty (by omega) fun t3 => ⟨e0, i13, fun N14 L14 F14 i14 => r_nil (fin _ _ L14 i14)⟩)))

theorem le_of_but {o' : Obj} (hd : N dx = none) (hx : upd N dx o' x = none) {o : Obj} (L : LeBut dx (upd (upd N dx o') x o) N') : Le N N' := fun b ob e => by
  have h1 : b ≠ dx := fun z => by rw [z, hd] at e; cases e
  have h2 : b ≠ x := fun z => by
    have := Le.upd hd (o := o') b ob e
    rw [z, hx] at this; cases this
  exact L b ob h1 (by rw [upd_ne h2, upd_ne h1]; exact e)
set_option maxHeartbeats 800000 in
theorem prod_call7 (hC : Amb C (k + 2)) {sy : Addr} {nm : Str} {tn : Tok} {ys : List Str} {a2 a5 a6 a7 a8 : Value} (hsy : N sy = some (lst vs n)) (hs : StrsAre vs ys) (hz : (ys.map (·.length)).sum + ys.length ≤ 1000) (hnm : nm.length ≤ 1000)
    {Q : Value → Fm → Hp → Prop} (q : ∀ v N', Le N N' → ProdNew N N' v nm ys → Q v m N') : Run C (call (.ref 100) [a2, .str nm tn, .ref sy, a5, a6, a7, a8]) m N Q := by
  refine r_call (cr_make (fI := 62) hC (by kernel_rfl) (by kernel_rfl) (by kernel_rfl) fun C₁ hA hw x dx hdx hx => ?_)
  refine cr_call_def (P := InitP (upd (upd N dx emptyDict) x (instObj 100 dx)) x dx nm ys) hA (SM 6 2) "Production.__init__" [("self", .ref x), ("number", a2), ("name", .str nm tn), ("prod", .ref sy), ("precedence", a5), ("func", a6), ("file", a7), ("line", a8)] (lk62 _) (by kernel_rfl)
    (fun s hs => BindsTo.of_defaults rfl (hs _ _ (lk55 _)) rfl rfl rfl) (locs (by kernel_rfl)) (by decide +kernel) (by kernel_rfl) (by kernel_rfl) (by kernel_rfl) (fun C' hC' => ?_) (fun v N' h => ?_)
  · refine init_body hC' (fun y => rfl) (Inst.fresh hdx hx) (Le.upd hx _ _ (Le.upd hdx _ _ hsy)) hs hz hnm
  · obtain ⟨rfl, L, at', c, pt, vs', hpn, i, h1, h2, h3, h4⟩ := h
    have hxd : x ≠ dx := fun z => by rw [z, upd_self] at hx; cases hx
    have nx : N x = none := by rw [upd_ne hxd] at hx; exact hx
    have p1 : pt ≠ x := fun z => by rw [z, upd_self] at hpn; cases hpn
    have p2 : pt ≠ dx := fun z => by rw [z, upd_ne hxd.symm, upd_self] at hpn; cases hpn
    exact ⟨rfl, q _ _ (le_of_but hdx hx L) ⟨x, dx, at', c, pt, vs', nx, hdx, by rw [upd_ne p1, upd_ne p2] at hpn; exact hpn, rfl, i, h1, h2, h3, h4⟩⟩
set_option maxHeartbeats 800000 in
theorem prod_call3 (hC : Amb C (k + 2)) {sy : Addr} {nm : Str} {tn : Tok} {ys : List Str} {a2 : Value} (hsy : N sy = some (lst vs n)) (hs : StrsAre vs ys) (hz : (ys.map (·.length)).sum + ys.length ≤ 1000) (hnm : nm.length ≤ 1000)
    {Q : Value → Fm → Hp → Prop} (q : ∀ v N', Le N N' → ProdNew N N' v nm ys → Q v m N') : Run C (call (.ref 100) [a2, .str nm tn, .ref sy]) m N Q := by
  refine r_call (cr_make (fI := 62) hC (by kernel_rfl) (by kernel_rfl) (by kernel_rfl) fun C₁ hA hw x dx hdx hx => ?_)
  refine cr_call_def (P := InitP (upd (upd N dx emptyDict) x (instObj 100 dx)) x dx nm ys) hA (SM 6 2) "Production.__init__" [("self", .ref x), ("number", a2), ("name", .str nm tn), ("prod", .ref sy), ("precedence", .ref 54), ("func", .none), ("file", .str "" 249), ("line", .int 0 250)] (lk62 _) (by kernel_rfl)
    (fun s hs => BindsTo.of_defaults rfl (hs _ _ (lk55 _)) rfl rfl rfl) (locs (by kernel_rfl)) (by decide +kernel) (by kernel_rfl) (by kernel_rfl) (by kernel_rfl) (fun C' hC' => ?_) (fun v N' h => ?_)
  · refine init_body hC' (fun y => rfl) (Inst.fresh hdx hx) (Le.upd hx _ _ (Le.upd hdx _ _ hsy)) hs hz hnm
  · obtain ⟨rfl, L, at', c, pt, vs', hpn, i, h1, h2, h3, h4⟩ := h
    have hxd : x ≠ dx := fun z => by rw [z, upd_self] at hx; cases hx
    have nx : N x = none := by rw [upd_ne hxd] at hx; exact hx
    have p1 : pt ≠ x := fun z => by rw [z, upd_self] at hpn; cases hpn
    have p2 : pt ≠ dx := fun z => by rw [z, upd_ne hxd.symm, upd_self] at hpn; cases hpn
    exact ⟨rfl, q _ _ (le_of_but hdx hx L) ⟨x, dx, at', c, pt, vs', nx, hdx, by rw [upd_ne p1, upd_ne p2] at hpn; exact hpn, rfl, i, h1, h2, h3, h4⟩⟩
end
end Mine

namespace Mine
open PySem PySem.Challenge
local macro_rules | `(tactic| walk_at "ms") => `(tactic| first | assumption | exact mset_self | (refine (mset_ne (by decide)).trans ?_; walk_at "ms"))

/-! a statement that raises KeyError, and its except -/
structure Raises {α : Type} (C : Cx) (t : Sem α) (m : Fm) (N : Hp) (P : Fm → Hp → Prop) : Prop where
  go : ∀ R h tk, Sat C m N R h → ∀ (Q : α → Shared → Prop) (E : Value → Shared → Prop), (∀ h₁ m₁ N₁ h' e tk', Sat C m₁ N₁ R h₁ → P m₁ N₁ → Heap.NewExc h₁ h' e "KeyError" → E (.ref e) (C.at h' tk')) → wpAny (model PR C.w) C.A t Q E (C.at h tk)
section
variable {α β : Type} {C : Cx} {m m' : Fm} {N N' R : Hp} {a l d x dx Cl : Addr} {k n c : Nat} {vs : List Value} {at' : Fm} {P : Fm → Hp → Prop}
theorem x_bind {t : Sem α} {f : α → Sem β} (q : Raises C t m N P) : Raises C (t >>= f) m N P := ⟨fun R h tk S Q E hE => wpAny_bind (q.go R h tk S _ E hE)⟩
theorem x_run {t : Sem α} {f : α → Sem β} (q : Run C t m N fun v m' N' => Raises C (f v) m' N' P) : Raises C (t >>= f) m N P := ⟨fun R h tk S Q E hE => by
  refine wpAny_bind (wpAny_mono (Run.go q R h tk S) (fun v s' hp => ?_) fun _ _ e => e.elim)
  obtain ⟨h', tk', m', N', rfl, S', r⟩ := hp
  exact r.go R h' tk' S' Q E hE⟩
theorem x_holding {vs : List Value} {t : Sem α} (q : Raises C t m N P) : Raises C (PySem.holding vs t) m N P := ⟨fun R h tk S Q E hE => wpAny_holding (q.go R h tk S Q E hE)⟩
theorem x_operating {vs : List Value} {t : Sem Value} (q : Raises C t m N P) : Raises C (operate vs t) m N P := ⟨fun R h tk S Q E hE => wpAny_operating (q.go R h tk S Q E hE)⟩
theorem x_at {p : Pos} {t : Unit → Sem α} (q : Raises C (t ()) m N P) : Raises C (PySem.standAt p >>= t) m N P := x_run (r_standAt q)
theorem x_dictGet {o : Obj} {kvs : List (Str × Value)} {y : Str} {t : Tok} (hC : Amb C k) (e : N d = some o) (hd : IsD C.w o kvs) (hv : valueAt kvs y = none) (p : P m N) : Raises C (getItem (.ref d) (.str y t)) m N P := ⟨fun R h tk S Q E hE =>
  wpAny_getItem_missing_of (strKind_is PR C.w y t) (S.sm d o e) hC.handled (S.dictOf e hd).mapOf hv fun h' e' hx => hE h m N h' e' (tk + 1) S p hx⟩
theorem x_sub {value slice : Expr} {p : Pos} (q : Run C (eval value C.env) m N fun o m' N' => Run C (eval slice C.env) m' N' fun i m' N' => HasItem C N' o ∧ Raises C (getItem o i) m' N' P)
    (hs : ∀ o i, subscripted slice false o i = operate [o, i] (getItem o i) := by intro _ _; rfl) : Raises C (eval (.Subscript value slice p) C.env) m N P := by
  rw [arm_eval_Subscript]
  refine x_run (r_mono q fun o m' N' r => x_run (r_holding (r_mono r fun i m' N' r => x_at (x_run (r_gip r.1 ?_)))))
  rw [hs]
  exact x_bind (x_operating r.2)
theorem x_mcall {ox e : Expr} {name : Str} {ap p : Pos} {es : List Expr} (q : Raises C (eval ox C.env) m N P) (hbase : attributeBase ox name C.env (eval ox C.env) = eval ox C.env := by rfl) : Raises C (eval (.Call (.Attribute ox name ap) (e :: es) [] p) C.env) m N P := by
  rw [arm_eval_Call, hbase]
  exact x_bind q
theorem x_exprS {x : Expr} {p : Pos} (e : FEnv C) (q : Raises C (eval x C.env) m N P) (hs : swapsWith x none p.line C.env = pure false := by rfl) : Raises C (exec (.Expr x p) C.env) m N P := by
  rw [PySem.exec_Expr _ _ _ e.quiet hs]
  exact x_at (x_bind q)
theorem x_one {st : Stmt} (q : Raises C (exec st C.env) m N P) : Raises C (execs [st] C.env) m N P := by
  rw [arm_execs_cons]
  exact x_bind q

/-- the same context, an exception being handled -/
abbrev Cx.held (C : Cx) (e : Addr) : Cx := { C with A := C.A.mark (some (.ref e)) }
theorem Ns.slots {h h' : Heap} {a : Addr} {m : Fm} (n : h.Ns a m) (k : ∀ o, h.get? a = some o → (∀ vs, o.data ≠ .fields vs) → ∃ sl, h'.get? a = some { o with slots := sl }) : h'.Ns a m := by
  obtain ⟨o, es, ep, ho, hd, r⟩ := n
  obtain ⟨sl, hs⟩ := k o ho fun vs q => by rw [hd] at q; cases q
  exact ⟨_, es, ep, hs, hd, r⟩
theorem funFrames_base' {h h' base B : Heap} : ∀ {l : List Env}, h.FunFrames base l → (∀ env ∈ l, ∀ L, env.frame = some L → B.get? L = none ∧ ∃ o, h'.get? L = some o ∧ ∀ vs, o.data ≠ .fields vs) → h'.FunFrames B l
  | [], _, _ => trivial
  | env :: r, ⟨hk, ⟨L, o, hf, hb, _, _⟩, hr⟩, k => by
    obtain ⟨hB, o', ho', hd'⟩ := k env (.head _) L hf
    exact ⟨hk, ⟨L, o', hf, hB, ho', hd'⟩, funFrames_base' hr fun e he => k e (.tail _ he)⟩
set_option maxHeartbeats 1000000 in
theorem r_tryKey {body suite : List Stmt} {b₀ : Stmt} {np pos p : Pos} {outer : List Env} {Q : Flow → Fm → Hp → Prop} (hC : Amb C k) (fe : FEnv C) (hfr : C.frs = C.env :: outer) (hfl : C.env.frame = some C.env.locals) (hx : C.env.kindOf "KeyError" = some .globalImplicit) (en : nsIn (K C.w.params) mainGlobals "KeyError" = some none)
    (raise : Raises C (execs body C.env) m N P) (handler : ∀ e m' N', P m' N' → Run (C.held e) (execs (b₀ :: suite) C.env) m' N' Q) :
    Run C (exec (.Try body [.ExceptHandler (some (.Name "KeyError" np)) none (b₀ :: suite) pos] [] [] p) C.env) m N Q := r_of fun R h tk S => by
  refine wpAny_Try_except (raise.go R h tk S _ _ fun h₁ m₁ N₁ h' e tk' S₁ hp hxe => ?_)
  have stack := (hC.below m N R h S [] (fun _ q => nomatch q)).stack
  have B₁ := hC.below m₁ N₁ R h₁ S₁ [] (fun _ q => nomatch q)
  rw [hfr] at stack B₁
  let fl : List Addr := C.env.locals :: C.fms.map (·.1)
  let B : Heap := hideAll h₁ fl
  have notfl : ∀ {b : Addr} {o : Obj}, (N₁ b = some o ∨ R b = some o) → b ∉ fl := fun {b o} hb q => by
    rcases List.mem_cons.mp q with q | q
    · rcases hb with hb | hb
      · exact (S₁.own b o hb).2.1 q
      · exact (S₁.fr b o hb).2 q
    · obtain ⟨p, hp, q⟩ := List.mem_map.mp q
      have f := S₁.frs p hp
      rw [q] at f
      rcases hb with hb | hb
      · rw [f.2.2.1] at hb; cases hb
      · rw [f.2.2.2] at hb; cases hb
  have inB : ∀ {b : Addr} {o : Obj}, (N₁ b = some o ∨ R b = some o) → B.get? b = some o := fun {b o} hb => hideAll_get _ (hb.elim (fun q => (S₁.own b o q).1) fun q => (S₁.fr b o q).1) (notfl hb)
  obtain ⟨ob, tp, he, hcls, hd⟩ := hxe.there
  have hen : B.get? e = none := by
    cases q : B.get? e with
    | none => rfl
    | some o => have := of_hideAll _ q; rw [hxe.new] at this; cases this
  have ff : h'.FunFrames B (C.env :: outer) := funFrames_base' B₁.frames fun env he L hL => by
    have hL' : L ∈ fl ∧ ∃ mm, h₁.Ns L mm := by
      rcases hC.cov env (hfr ▸ he) L hL with q | ⟨mm, q⟩
      · rw [q]; exact ⟨.head _, _, S₁.ns⟩
      · exact ⟨.tail _ (List.mem_map.mpr ⟨_, q, rfl⟩), mm, (S₁.frs _ q).1⟩
    obtain ⟨hm, mm, hns⟩ := hL'
    obtain ⟨o, ho, hdd⟩ := Ns.there hns
    exact ⟨hideAll_none _ hm, o, hxe.keeps _ _ ho, hdd⟩
  unfold noteFrame
  simp only [hfl]
  refine wpAny_bind (wpAny_field (x := .none) he hd rfl ?_)
  rw [if_neg (by decide)]
  refine wpAny_newEntryW (s := C.at h' tk') (base := B) stack ff hfl he (fun b o hb => hxe.keeps _ _ (of_hideAll _ hb)) hen hd (show 1 < 6 by decide) rfl fun h₂ hL => ?_
  obtain ⟨k1, ⟨k2a, k2b, k2c⟩, k3, k4⟩ := hL
  -- the state from now on
  have sat : ∀ h₃, B.StaysIn h₃ → (∀ b o, h₁.get? b = some o → (∀ vs, o.data ≠ .fields vs) → ∃ sl, h₃.get? b = some { o with slots := sl }) → Sat (C.held e) m₁ N₁ R h₃ := fun h₃ st up =>
    ⟨Ns.slots S₁.ns fun o ho hn => up _ o ho hn, fun b o hb => ⟨st _ _ (inB (.inl hb)), (S₁.own b o hb).2⟩, fun b o hb => ⟨st _ _ (inB (.inr hb)), (S₁.fr b o hb).2⟩, S₁.base, S₁.above, S₁.big, S₁.sm,
      fun p hp => ⟨Ns.slots (S₁.frs p hp).1 fun o ho hn => up _ o ho hn, (S₁.frs p hp).2⟩⟩
  have up₂ : ∀ b o, h₁.get? b = some o → (∀ vs, o.data ≠ .fields vs) → ∃ sl, h₂.get? b = some { o with slots := sl } := fun b o ho hn => k4 b o (hxe.keeps _ _ ho) hn
  have S₂ := sat h₂ k1 up₂
  rw [hcls] at k3
  have hfl2 : Heap.FlyingW B (C.env :: outer) e (.type "KeyError") tp h₂ := ⟨k1, hen, ⟨k2a, k2b, k2c⟩, k3⟩
  obtain ⟨oe, hoe, hoec⟩ := hfl2.there
  have S₂' : Sat C m₁ N₁ R h₂ := ⟨S₂.ns, S₂.own, S₂.fr, S₂.base, S₂.above, S₂.big, S₂.sm, S₂.frs⟩
  refine wpAny_handleBy_builtin (X := "KeyError") (T := "KeyError") (b := true) kr_isExc_KeyError kr_notTuple_KeyError (by rw [isSubtype_type]; kernel_rfl) ?_
  refine Name_function_global fe.kind hx (loadGlobal_builtin (mg := C.mg) (mb := C.mb) (by rw [fe.globals]; exact hC.T.g.keeps S₂'.F.keep) (mg_none_of hC.X hC.T.g en) (by rw [fe.builtins]; exact hC.T.b.keeps S₂'.F.keep) ((hC.T.builtins "KeyError" (by decide)).trans PyProof.Rows.Boot.«KeyError») ⟨rfl, ⟨oe, hoe, hoec⟩, ?_⟩) (by decide)
  rw [if_pos rfl]
  refine lands_againW hfl2 fun h₃ hfl₃ hsm₃ => ?_
  have S₃ := sat h₃ hfl₃.1 fun b o ho hn => by
    obtain ⟨sl, hs⟩ := up₂ b o ho hn
    obtain ⟨sl', hs'⟩ := hsm₃ b _ hs hn
    exact ⟨sl', hs'⟩
  refine wpAny_mono (Run.go (handler e m₁ N₁ hp) R h₃ tk' S₃) (fun f s' hp => ?_) fun _ _ z => z.elim
  obtain ⟨h₄, tk₄, m₄, N₄, rfl, S₄, r⟩ := hp
  exact ⟨h₄, tk₄, m₄, N₄, rfl, ⟨S₄.ns, S₄.own, S₄.fr, S₄.base, S₄.above, S₄.big, S₄.sm, S₄.frs⟩, r⟩
/-- a try that raises nothing -/
theorem r_tryOk {body : List Stmt} {h₀ : ExceptHandler} {hs : List ExceptHandler} {p : Pos} {Q : Flow → Fm → Hp → Prop} (q : Run C (execs body C.env) m N Q) : Run C (exec (.Try body (h₀ :: hs) [] [] p) C.env) m N Q := r_of fun R h tk S => by
  refine wpAny_Try_except (wpAny_mono (Run.go q R h tk S) (fun f s' hp => ?_) fun _ _ z => z.elim)
  obtain ⟨h', tk', m', N', rfl, S', r⟩ := hp
  cases f with
  | next => exact (r_nil r).go R h' tk' S'
  | _ => exact Post.intro S' r
end
end Mine

namespace Mine
open PySem PySem.Challenge

/-! enumerate, of a list and of a tuple -/
section
variable {prog : Program} {w : World} {A : Around} {E : Value → Shared → Prop} {s : Shared}
theorem nextOf_tuple_item {it t : Addr} {i : Nat} {items} {x : Value} {Q : Value → Shared → Prop} (hit : s.heap.IsTupleIter it t i) (ht : s.heap.IsTuple t items) (hx : items[i]? = some x)
    (hQ : ∀ h', h'.IsTupleIter it t (i + 1) → Heap.SameBut it s.heap h' → Q x { s with heap := h' }) : wpAny (model prog w) A (Builtin.SmallTypes.nextOf (.ref it)) Q E s := by
  obtain ⟨o, ho, hc, hd⟩ := id hit
  obtain ⟨ol, hol, _, nl, hdl⟩ := ht
  unfold Builtin.SmallTypes.nextOf
  refine wpAny_bind (wpAny_callSpecial?_slot (name := Str.ofString "__next__") hit.typeIs PySem.F.slot_tuple_iterator_next
    (wpAny_call_entry PySem.F.slot_tuple_iterator_next hit.typeIs PySem.F.entry_tuple_iterator_next ?_ (PySem.F.args_tuple_iterator_next_1 _)))
  show wpAny _ _ (field (.ref it) 0 >>= _) _ _ s
  refine wpAny_bind (wpAny_field ho hd (x := .ref t) rfl ?_)
  show wpAny _ _ (if (Value.ref t == Value.none) = true then _ else _) _ _ s
  rw [if_neg (show ¬ ((Value.ref t == Value.none) = true) from Bool.false_ne_true)]
  show wpAny _ _ (field (.ref it) 1 >>= _) _ _ s
  refine wpAny_bind (wpAny_field ho hd (x := .int i 0) rfl ?_)
  show wpAny _ _ (seqItems? (.ref t) >>= _) _ _ s
  refine wpAny_bind (wpAny_seqItems hol hdl ?_)
  simp only [Int.toNat_natCast, hx]
  refine wpAny_bind (wpAny_setField ho hd (by simp) (wpAny_pure ⟨x, rfl, wpAny_pure (hQ _ ?_ (Heap.SameBut.update ..))⟩))
  exact ⟨_, Heap.get?_update_self _ ho (Obj.isFreed_of_fields (Obj.data_mapFields hd _)), (Obj.cls_mapFields ..).trans hc, by
    rw [Obj.data_mapFields hd]; simp [rawInt]⟩
theorem nextOf_tuple_end {it t : Addr} {i : Nat} {items} {Q : Value → Shared → Prop} (hh : A.handled = none) (hit : s.heap.IsTupleIter it t i) (ht : s.heap.IsTuple t items) (hx : items[i]? = none)
    (hE : ∀ h' e, Heap.ExtBut it s.heap h' → (∃ o, h'.get? e = some o ∧ o.cls = .type "StopIteration") → E (.ref e) { s with heap := h' }) : wpAny (model prog w) A (Builtin.SmallTypes.nextOf (.ref it)) Q E s := by
  obtain ⟨o, ho, hc, hd⟩ := id hit
  obtain ⟨ol, hol, _, nl, hdl⟩ := ht
  unfold Builtin.SmallTypes.nextOf
  refine wpAny_bind (wpAny_callSpecial?_slot (name := Str.ofString "__next__") hit.typeIs PySem.F.slot_tuple_iterator_next
    (wpAny_call_entry PySem.F.slot_tuple_iterator_next hit.typeIs PySem.F.entry_tuple_iterator_next ?_ (PySem.F.args_tuple_iterator_next_1 _)))
  show wpAny _ _ (field (.ref it) 0 >>= _) _ _ s
  refine wpAny_bind (wpAny_field ho hd (x := .ref t) rfl ?_)
  show wpAny _ _ (if (Value.ref t == Value.none) = true then _ else _) _ _ s
  rw [if_neg (show ¬ ((Value.ref t == Value.none) = true) from Bool.false_ne_true)]
  show wpAny _ _ (field (.ref it) 1 >>= _) _ _ s
  refine wpAny_bind (wpAny_field ho hd (x := .int i 0) rfl ?_)
  show wpAny _ _ (seqItems? (.ref t) >>= _) _ _ s
  refine wpAny_bind (wpAny_seqItems hol hdl ?_)
  simp only [Int.toNat_natCast, hx]
  refine wpAny_bind (wpAny_rule (wpAny_bind (wpAny_setField ho hd (by simp) ?_)))
  show wpAny _ _ (newExc (.type "StopIteration") [] >>= _) _ _ _
  refine wpAny_bind ?_
  simp only [newExc, newTuple]
  refine wpAny_bind (wpAny_newObj_type ?_ (by size_fits))
  refine wpAny_bind (m := firstArgMember _ _) (wpAny_of_eq (a := Value.none) (by first | rfl | (simp only [firstArgMember]; rfl)) ?_)
  refine wpAny_newObj_type ?_ (by size_fits)
  simp only [raiseNew]
  refine wpAny_bind (wpAny_handled ?_)
  first | rw [show A.in1.handled = none from hh] | rw [hh]
  refine wpAny_bind (wpAny_pure (wpAny_throw ?_))
  exact hE _ _ (((Heap.SameBut.update ..).extBut.push _).push _) ⟨_, Heap.get?_push_size _ rfl, rfl⟩
end
theorem draws_tuple {prog : Program} {w : World} {A : Around} (hh : A.handled = none) (it l : Addr) (hne : l ≠ it) (items : Array Value) :
    Draws prog w A it [it, l] items.size (fun i v => items[i]? = some v) (fun i h => h.IsTupleIter it l i ∧ h.IsTuple l items) where
  live := fun _ _ st => let ⟨o, ho, _⟩ := st.1; ⟨o, ho⟩
  frame := fun _ _ _ st hk => ⟨st.1.at fun o e => hk it (by simp) o e, let ⟨o, ho, r⟩ := st.2; ⟨o, hk l (by simp) o ho, r⟩⟩
  item := fun i s Q E hi st hQ => by
    refine nextOf_tuple_item st.1 st.2 (x := items[i]) (by simp [hi]) fun h' hit' hs' => ?_
    exact hQ _ h' s.toks (by simp [hi]) ⟨hit', st.2.extBut hs'.extBut hne⟩ hs'
  done := fun s Q E st hE => nextOf_tuple_end hh st.1 st.2 (by simp) hE
theorem meets_enumerate_newT (l : Addr) (items : Array Value) (n : Nat) :
    Meets (Builtin.«enumerate.__new__» ⟨[.type "enumerate", .ref l], []⟩) (fun _ R s => s.heap.get? l = some { cls := .type "tuple", data := .seq items n } ∧
      R (.ok (.ret (.ref (s.heap.push { cls := .type "tuple_iterator", data := .fields #[.ref l, .int 0 0] }).objs.size)))
        { s with heap := (s.heap.push { cls := .type "tuple_iterator", data := .fields #[.ref l, .int 0 0] }).push { cls := .type "enumerate", data := .fields #[.none, .bool false, .ref s.heap.objs.size, rawInt 0, .none, .none] } }) :=
  .of_wp fun prog w A R s h => by
    obtain ⟨hp, g, d, tk, os⟩ := s; obtain ⟨hl, h⟩ := h
    have hsub := sub_enumerate
    have hL : Heap.IsTuple (Shared.heap ⟨hp, g, d, tk, os⟩) l items := ⟨_, hl, rfl, n, rfl⟩
    wp_walk using PySem.AutoSeq1.wpAny_loadPart' hl
    refine wpAny_stack_any fun st => wpAny_pure ?_
    split
    · rename_i c _ _ _ _ _
      cases (c == Value.type "enumerate")
      · wp_walk using PySem.AutoSeq1.wpAny_loadPart' hl, wpAny_pyIter_tuple hL
        exact ⟨_, rfl, h⟩
      · wp_walk using PySem.AutoSeq1.wpAny_loadPart' hl, wpAny_pyIter_tuple hL
        exact ⟨_, rfl, h⟩
    · wp_walk using PySem.AutoSeq1.wpAny_loadPart' hl, wpAny_pyIter_tuple hL
      exact ⟨_, rfl, h⟩
theorem call_enumerate_tuple {prog : Program} {w : World} {A : Around} {E : Value → Shared → Prop} {s : Shared} {l : Addr} {items : Array Value} {n : Nat} {Q : Value → Shared → Prop} (hl : s.heap.get? l = some { cls := .type "tuple", data := .seq items n })
    (h : ∀ h', IsEnum h' (s.heap.objs.size + 1) s.heap.objs.size 0 .none → h'.IsTupleIter s.heap.objs.size l 0 → h'.objs.size = s.heap.objs.size + 2 →
      (∀ b o, s.heap.get? b = some o → h'.get? b = some o) → Q (.ref (s.heap.objs.size + 1)) { s with heap := h' }) :
    wpAny (model prog w) A (call (.type "enumerate") [.ref l]) Q E s := by
  refine callType_new PySem.F.called_enumerate (by decide) (PySem.F.typeCall_enumerate_1 _) (PySem.F.newCall_enumerate_1 _) (fun obj => PySem.F.args_object_init_2 obj _) PySem.F.entry_enumerate_new
    (meets_enumerate_newT l items n) ⟨hl, ?_⟩
  have hz : (s.heap.push { cls := .type "tuple_iterator", data := .fields #[.ref l, .int 0 0] }).objs.size = s.heap.objs.size + 1 := Heap.size_push ..
  show _ ∧ _
  rw [hz]
  have he : IsEnum ((s.heap.push { cls := .type "tuple_iterator", data := .fields #[.ref l, .int 0 0] }).push
      { cls := .type "enumerate", data := .fields #[.none, .bool false, .ref s.heap.objs.size, rawInt 0, .none, .none] }) (s.heap.objs.size + 1) s.heap.objs.size 0 .none := by
    have := Heap.get?_push_size (s.heap.push { cls := .type "tuple_iterator", data := .fields #[.ref l, .int 0 0] })
      (o := { cls := .type "enumerate", data := .fields #[.none, .bool false, .ref s.heap.objs.size, rawInt 0, .none, .none] }) rfl
    rw [hz] at this; exact this
  refine ⟨⟨_, he, rfl⟩, h _ he ⟨_, Heap.get?_push_of_some _ (Heap.get?_push_size _ rfl), rfl, rfl⟩ (by rw [Heap.size_push, hz]) fun b o x => Heap.get?_push_of_some _ (Heap.get?_push_of_some _ x)⟩

/-- a kind of sequence that enumerate walks over -/
structure EnumKind (mk : List Value → Nat → Obj) (IterO : Obj → Addr → Nat → Prop) (Is : Heap → Addr → Array Value → Prop) : Prop where
  is_of : ∀ {h : Heap} {l : Addr} {vs : List Value} {n : Nat}, h.get? l = some (mk vs n) → Is h l vs.toArray
  make : ∀ {w : World} {A : Around} {E : Value → Shared → Prop} {s : Shared} {l : Addr} {vs : List Value} {n : Nat} {Q : Value → Shared → Prop}, s.heap.get? l = some (mk vs n) →
    (∀ h', IsEnum h' (s.heap.objs.size + 1) s.heap.objs.size 0 .none → (∃ o, h'.get? s.heap.objs.size = some o ∧ IterO o l 0) → h'.objs.size = s.heap.objs.size + 2 → (∀ b o, s.heap.get? b = some o → h'.get? b = some o) → Q (.ref (s.heap.objs.size + 1)) { s with heap := h' }) →
    wpAny (model PR w) A (call (.type "enumerate") [.ref l]) Q E s
  draws : ∀ {w : World} {A : Around}, A.handled = none → ∀ it l, l ≠ it → ∀ items : Array Value, Draws PR w A it [it, l] items.size (fun i v => items[i]? = some v) (fun i h => (∃ o, h.get? it = some o ∧ IterO o l i) ∧ Is h l items)
theorem ek_list : EnumKind lst (fun o l i => o.cls = .type "list_iterator" ∧ o.data = .fields #[.ref l, .int i 0]) (fun h l its => h.IsList l its) :=
  ⟨fun e => ⟨_, e, rfl, _, rfl⟩, fun e h => call_enumerate_list ⟨_, e, rfl, _, rfl⟩ h, fun hh it l hne items => Draws.list hh it l hne items⟩
theorem ek_tup : EnumKind tup (fun o l i => o.cls = .type "tuple_iterator" ∧ o.data = .fields #[.ref l, .int i 0]) (fun h l its => h.IsTuple l its) :=
  ⟨fun e => ⟨_, e, rfl, _, rfl⟩, fun e h => call_enumerate_tuple e h, fun hh it l hne items => draws_tuple hh it l hne items⟩
abbrev enumObj (it : Addr) (i : Int) (old : Value) : Obj := { cls := .type "enumerate", dict := none, data := .fields #[.none, .bool false, .ref it, rawInt i, .none, old], slots := #[] }

section
variable {C : Cx} {m m' : Fm} {N N' R R' : Hp} {a l d x dx Cl : Addr} {k n c : Nat} {vs : List Value} {h h' : Heap} {mk : List Value → Nat → Obj} {IterO : Obj → Addr → Nat → Prop} {Is : Heap → Addr → Array Value → Prop}
theorem Sat.to (S : Sat C m N R h) (hN : ∀ a o, N a = some o → h'.get? a = some o) (hL : ∀ o, h.get? C.env.locals = some o → h'.get? C.env.locals = some o) (hF : ∀ p ∈ C.fms, ∀ o, h.get? p.1 = some o → h'.get? p.1 = some o)
    (hR : ∀ a o, R' a = some o → h'.get? a = some o ∧ a ≠ C.env.locals) (hd : ∀ a o, N a = some o → R' a = none) (hb : ∀ a o, C.h₀.get? a = some o → R' a = some o) (hf : ∀ p ∈ C.fms, R' p.1 = none) : Sat C m N R' h' :=
  ⟨S.ns.at' hL, fun a o e => ⟨hN a o e, (S.own a o e).2.1, hd a o e⟩, hR, hb, S.above, S.big, S.sm, fun p hp => ⟨(S.frs p hp).1.at' (hF p hp), (S.frs p hp).2.1, (S.frs p hp).2.2.1, hf p hp⟩⟩
theorem r_enumCall (ek : EnumKind mk IterO Is) {Q : Value → Fm → Hp → Prop} (hl : N l = some (mk vs c)) (q : ∀ It E oI, It ≠ E → N It = none → N E = none → IterO oI l 0 → Q (.ref E) m (upd (upd N It oI) E (enumObj It 0 .none))) :
    Run C (call (.type "enumerate") [.ref l]) m N Q := r_of fun R h tk S => by
  refine ek.make (S.get hl) fun h₁ hE hI hsz keep => ?_
  obtain ⟨oI, hoI, hit⟩ := hI
  have S₁ := S.add (a := h.objs.size) keep (Nat.le_refl _) hoI
  have nE : (upd N h.objs.size oI) (h.objs.size + 1) = none := by
    rw [upd_ne (Nat.succ_ne_self _)]
    cases z : N (h.objs.size + 1) with
    | none => rfl
    | some o => exact absurd (S.lt z) (Nat.not_lt.mpr (Nat.le_succ _))
  have rE : R (h.objs.size + 1) = none := by
    cases z : R (h.objs.size + 1) with
    | none => rfl
    | some o => exact absurd (Heap.lt_size (S.fr _ o z).1) (Nat.not_lt.mpr (Nat.le_succ _))
  have S₂ : Sat C m (upd (upd N h.objs.size oI) (h.objs.size + 1) (enumObj h.objs.size 0 .none)) R h₁ := by
    refine S₁.2.own1 hE nE rE (fun z => ?_) (fun p hp z => ?_) ?_
    · have := Ns.lt S.ns; rw [← z] at this; exact absurd this (Nat.not_lt.mpr (Nat.le_succ _))
    · have := Ns.lt (S.frs p hp).1; rw [z] at this; exact absurd this (Nat.not_lt.mpr (Nat.le_succ _))
    · have := S.high
      exact beq_eq_false_iff_ne.mpr fun z => by rw [← z] at this; exact absurd this (Nat.not_lt.mpr (Nat.le_succ _))
  rw [upd_ne (Nat.succ_ne_self _)] at nE
  exact Post.intro S₂ (q _ _ oI (Nat.ne_of_lt (Nat.lt_succ_self _)) S₁.1 nE hit)
/-- what a loop over enumerate walks over -/
def EnumOver (C : Cx) (mk : List Value → Nat → Obj) (xv : Value) (xi xn : Str) (body orelse : List Stmt) (m : Fm) (N : Hp) (Q : Flow → Fm → Hp → Prop) : Prop :=
  ∃ l n, xv = .ref l ∧ ∃ J : Nat → Fm → Hp → Prop, J 0 m N ∧ (∀ i m N, J i m N → ∃ vs c, N l = some (mk vs c) ∧ vs.length = n) ∧
    (∀ i v t m N, i < n → J i m N → (∃ vs c, N l = some (mk vs c) ∧ vs[i]? = some v) → Run C (execs body C.env) (mset (mset m xi (.int (i : Int) t)) xn v) N (TurnQ Q (J (i + 1)))) ∧
    ∀ m N, J n m N → Run C (execs orelse C.env) m N Q
set_option maxHeartbeats 2000000 in
theorem r_forEnum (ek : EnumKind mk IterO Is) {x : Expr} {xi xn : Str} {body orelse : List Stmt} {p pi pn pt pe pc : Pos} {kk : Nat} {Q : Flow → Fm → Hp → Prop} (fe : FEnv C) (hC : Amb C k)
    (hi : C.env.kindOf xi = some .local) (hn : C.env.kindOf xn = some .local) (ge : C.env.kindOf "enumerate" = some .globalImplicit) (en : nsIn (K C.w.params) mainGlobals "enumerate" = some none)
    (q : Run C (eval x C.env) m N fun xv m' N' => EnumOver C mk xv xi xn body orelse m' N' Q)
    (he : (backTo pc (starEach [x] C.env)).any (·.1) = false := by rfl) (hne : ∃ y rest, backTo pc (starEach [x] C.env) = (false, y) :: rest := by exact ⟨_, _, rfl⟩) (hst : starEach [x] C.env = (false, eval x C.env) :: starEach [] C.env := by rfl)
    (hfold : ∀ v, foldedSetIterable (.Call (.Name "enumerate" pe) [x] [] pc) C.env v = pure v := by intro _; rfl) :
    Run C (exec (.For (.Tuple [.Name xi pi, .Name xn pn] kk pt) (.Call (.Name "enumerate" pe) [x] [] pc) body orelse p) C.env) m N Q := by
  have hA := hC.handled
  rw [arm_exec_For]
  refine r_at_bind (r_bind ?_)
  refine r_callName (r_builtin fe hC ge en PyProof.Rows.Boot.«enumerate» (by decide) ⟨kf_type, r_splCons (r_mono q fun xv m₀ N₀ eo => r_splNil ?_) hst⟩) he hne
  obtain ⟨l, n, rfl, J, j0, len, turn, done⟩ := eo
  obtain ⟨vs₀, c₀, hl₀, hlen₀⟩ := len _ _ _ j0
  refine r_enumCall ek hl₀ fun It E oI hIE nI nE hI0 => ?_
  rw [hfold]
  refine r_bind (r_pure (r_at_bind ?_))
  refine r_of fun R h tk S => ?_
  have eE := (S.own E _ upd_self)
  have eI := (S.own It oI (by rw [upd_ne hIE]; exact upd_self))
  have bE : C.h₀.get? E = none := by
    cases z : C.h₀.get? E with
    | none => rfl
    | some o => have := S.base _ o z; rw [eE.2.2] at this; cases this
  have bI : C.h₀.get? It = none := by
    cases z : C.h₀.get? It with
    | none => rfl
    | some o => have := S.base _ o z; rw [eI.2.2] at this; cases this
  have fE : ∀ p ∈ C.fms, p.1 ≠ E ∧ p.1 ≠ It := fun p hp => by
    have f := (S.frs p hp).2.2.1
    constructor
    · intro z; rw [z, upd_self] at f; cases f
    · intro z; rw [z, upd_ne hIE, upd_self] at f; cases f
  have rE := eE.2.2
  have rI := eI.2.2
  have S₀ := (S.frame (by rw [upd_ne hIE.symm]; exact nE)).frame nI
  have lE : C.env.locals ≠ E := Ne.symm eE.2.1
  have lI : C.env.locals ≠ It := Ne.symm eI.2.1
  clear S eE eI
  -- back to the rest without them
  have away : ∀ {m N oE oI h}, Sat C m N (upd (upd R E oE) It oI) h → Sat C m N R h := fun S => (S.unframe (by rw [upd_ne hIE]; exact rI) bI).unframe rE bE
  have nN : ∀ {m N oE oI h b o}, Sat C m N (upd (upd R E oE) It oI) h → N b = some o → b ≠ E ∧ b ≠ It := fun {m N oE oI h b o} S e => by
    have := (S.own b o e).2.2
    constructor
    · intro z; rw [z, upd_ne hIE.symm, upd_self] at this; cases this
    · intro z; rw [z, upd_self] at this; cases this
  -- the next state of the two cells
  have next : ∀ {m N oE oI oE' oI' h h'}, Sat C m N (upd (upd R E oE) It oI) h → (∀ b o, b ≠ E → b ≠ It → h.get? b = some o → h'.get? b = some o) → h'.get? E = some oE' → h'.get? It = some oI' → Sat C m N (upd (upd R E oE') It oI') h' := fun {m N oE oI oE' oI' h h'} S hk h1 h2 => by
    refine S.to (fun b o e => hk b o (nN S e).1 (nN S e).2 (S.get e)) (fun o e => hk _ o lE lI e) (fun p hp o e => hk _ o (fE p hp).1 (fE p hp).2 e) (fun b o e => ?_) (fun b o e => ?_) (fun b o e => ?_) (fun p hp => ?_)
    · by_cases q : b = It
      · rw [q, upd_self] at e; cases e; rw [q]; exact ⟨h2, lI.symm⟩
      · rw [upd_ne q] at e
        by_cases q' : b = E
        · rw [q', upd_self] at e; cases e; rw [q']; exact ⟨h1, lE.symm⟩
        · rw [upd_ne q'] at e
          have := S.fr b o (by rw [upd_ne q, upd_ne q']; exact e)
          exact ⟨hk b o q' q this.1, this.2⟩
    · have := (S.own b o e).2.2
      rw [upd_ne (nN S e).2, upd_ne (nN S e).1] at this ⊢
      exact this
    · have q : b ≠ It := fun z => by rw [z, bI] at e; cases e
      have q' : b ≠ E := fun z => by rw [z, bE] at e; cases e
      have := S.base b o e
      rw [upd_ne q, upd_ne q'] at this ⊢
      exact this
    · have := (S.frs p hp).2.2.2
      rw [upd_ne (fE p hp).2, upd_ne (fE p hp).1] at this ⊢
      exact this
  have isE : ∀ {m N oE oI h}, Sat C m N (upd (upd R E oE) It oI) h → h.get? E = some oE ∧ h.get? It = some oI := fun S => ⟨(S.fr E _ (by rw [upd_ne hIE.symm]; exact upd_self)).1, (S.fr It _ upd_self).1⟩
  refine wpAny_bind (wpAny_holding ?_)
  refine wpAny_pyIter_enum (it := It) (i := 0) (old := .none) (isE S₀).1 ?_
  refine wpAny_runOwn (h := none) ?_
  refine codeAny_forLoop_any
    (fun k s' => ∃ h' tk' m' N' oI i old, s' = C.at h' tk' ∧ Sat C m' N' (upd (upd R E (enumObj It ((i : Nat) : Int) old)) It oI) h' ∧ IterO oI l i ∧ J i m' N' ∧ i ≤ n ∧ k = n + 1 - i) ?_ (n + 1)
    ⟨h, tk, _, _, oI, 0, .none, rfl, S₀, hI0, j0, Nat.zero_le _, rfl⟩
  rintro k s' ⟨h', tk', m', N', oI', i, old, rfl, S', hit, hJ, hile, rfl⟩
  obtain ⟨vs, c, hl, hlen⟩ := len _ _ _ hJ
  have hlE := nN S' hl
  have hsz : vs.toArray.size = n := by rw [List.size_toArray]; exact hlen
  by_cases hlt : i < n
  · refine wpAny_pyNext_enum_itemD (ek.draws (A := C.A.in1) hA It l hlE.2 vs.toArray) (isE S').1 ⟨⟨oI', (isE S').2, hit⟩, ek.is_of (S'.get hl)⟩ (by rw [hsz]; exact hlt) hIE.symm (by simp [hIE.symm, Ne.symm hlE.1]) fun v h₁ tk₁ hP hEO hst₁ hT hz₁ hk₁ => ?_
    obtain ⟨⟨oI₁, hoI₁, hit₁⟩, _⟩ := hst₁
    refine wpAny_letOwnedTupleGo_enum hEO fun h₂ hE₂ hs₂ => ?_
    replace hs₂ : Heap.SameBut E h₁ h₂ := hs₂
    have hEH : E < h'.objs.size := Heap.lt_size (isE S').1
    have hIH : It < h'.objs.size := Heap.lt_size (isE S').2
    have ht₂ : h₂.IsTuple h'.objs.size #[.int i tk₁, v] := ⟨_, (hs₂.2 _ (Nat.ne_of_gt hEH)).trans hT, rfl, _, rfl⟩
    have hz₂ : h₂.objs.size = h'.objs.size + 1 := hs₂.1.trans hz₁
    refine wpAny_assign_Tuple hA ht₂ rfl rfl fun h₃ hx₃ => ?_
    replace hx₃ : Heap.ExtBut h₂.objs.size h₂ h₃ := hx₃
    have old₃ : ∀ b o, b < h'.objs.size → h₂.get? b = some o → h₃.get? b = some o := fun b o hb x => hx₃ b o (by rw [hz₂]; exact Nat.ne_of_lt (Nat.lt_succ_of_lt hb)) x
    have hi1 : (((i + 1 : Nat)) : Int) = (i : Int) + 1 := by push_cast; rfl
    have S₃ : Sat C m' N' (upd (upd R E (enumObj It ((i + 1 : Nat) : Int) v)) It oI₁) h₃ := next S' (fun b o q1 q2 e => old₃ b o (Heap.lt_size e) ((hs₂.2 b q1).trans (hk₁ b o q1 q2 e))) (by rw [hi1]; exact old₃ _ _ hEH hE₂) (old₃ _ _ hIH ((hs₂.2 _ hIE).trans hoI₁))
    show wpAny _ C.A (do PySem.holding [v] (assign (.Name xi pi) C.env (.int i tk₁)); do PySem.holding [] (assign (.Name xn pn) C.env v); pure ()) _ _ _
    have tr := turn i v tk₁ m' N' hlt hJ ⟨vs, c, hl, by simpa using hP⟩
    have asg : Run C (do PySem.holding [v] (assign (.Name xi pi) C.env (.int i tk₁)); do PySem.holding [] (assign (.Name xn pn) C.env v); pure ()) m' N' fun _ m₄ N₄ => Run C (execs body C.env) m₄ N₄ (TurnQ Q (J (i + 1))) :=
      r_bind (r_holding (r_asName fe hi (r_bind (r_holding (r_asName fe hn (r_pure tr))))))
    refine wpAny_mono (asg.go _ h₃ (tk₁ + 1) S₃) (fun u s₂ hp => ?_) fun _ _ e => e.elim
    obtain ⟨h₄, tk₄, m₄, N₄, rfl, S₄, kk⟩ := hp
    refine wpAny_mono (kk.go _ h₄ tk₄ S₄) (fun fl s₃ hp => ?_) fun _ _ e => e.elim
    obtain ⟨h₅, tk₅, m₅, N₅, rfl, S₅, kk⟩ := hp
    cases fl with
    | ret v => exact ⟨h₅, tk₅, m₅, N₅, rfl, away S₅, kk⟩
    | brk => exact ⟨h₅, tk₅, m₅, N₅, rfl, away S₅, kk⟩
    | cont => exact ⟨n + 1 - (i + 1), by omega, h₅, tk₅, m₅, N₅, oI₁, i + 1, v, rfl, S₅, hit₁, kk, hlt, rfl⟩
    | next => exact ⟨n + 1 - (i + 1), by omega, h₅, tk₅, m₅, N₅, oI₁, i + 1, v, rfl, S₅, hit₁, kk, hlt, rfl⟩
  · have hin : i = n := by omega
    subst hin
    refine wpAny_pyNext_enum_endD (ek.draws (A := C.A.in1) hA It l hlE.2 vs.toArray) (isE S').1 (by rw [hsz]; exact ⟨⟨oI', (isE S').2, hit⟩, ek.is_of (S'.get hl)⟩) fun h₁ hk₁ => ?_
    have S₂ : Sat C m' N' R h₁ := by
      have SR := away S'
      refine SR.to (fun b o e => hk₁ b o (nN S' e).2 (SR.get e)) (fun o e => hk₁ _ o lI e) (fun p hp o e => hk₁ _ o (fE p hp).2 e) (fun b o e => ?_) (fun b o e => (SR.own b o e).2.2) SR.base (fun p hp => (SR.frs p hp).2.2.2)
      have q : b ≠ It := fun z => by rw [z, rI] at e; cases e
      exact ⟨hk₁ b o q (SR.fr b o e).1, (SR.fr b o e).2⟩
    exact wpAny_mono ((done m' N' hJ).go R h₁ tk' S₂) (fun fl s₃ hp => hp) fun _ _ e => e.elim
end
end Mine

namespace Mine
open PySem PySem.Challenge
local macro_rules | `(tactic| walk_at "ms") => `(tactic| first | assumption | exact mset_self | (refine (mset_ne (by decide)).trans ?_; walk_at "ms"))

/-! dicts, plainly -/
section
variable {kvs : List (Str × Value)} {k y : Str} {v : Value}
theorem keys_stored : (stored kvs k v).map (·.1) = if k ∈ kvs.map (·.1) then kvs.map (·.1) else kvs.map (·.1) ++ [k] := by
  unfold stored
  have hk : (kvs.any fun kv => decide (kv.1 = k)) = true ↔ k ∈ kvs.map (·.1) := by
    rw [List.any_eq_true, List.mem_map]
    simp only [decide_eq_true_eq]
  by_cases h : (kvs.any fun kv => decide (kv.1 = k)) = true
  · rw [if_pos h, if_pos (hk.mp h), List.map_map]
    apply List.map_congr_left
    intro a _
    simp only [Function.comp]
    split <;> rfl
  · rw [if_neg h, if_neg fun q => h (hk.mpr q), List.map_append]
    rfl
theorem valueAt_stored : valueAt (stored kvs k v) y = if y = k then some v else valueAt kvs y := by
  unfold stored valueAt
  split
  · rename_i h
    induction kvs with
    | nil => simp at h
    | cons a r ih =>
      rw [List.map_cons, List.find?_cons, List.find?_cons]
      by_cases ha : a.1 = k
      · simp only [ha, if_true]
        by_cases hy : y = k
        · simp [hy]
        · have : k ≠ y := fun q => hy q.symm
          simp only [this, decide_false, hy, if_false]
          by_cases hr : (r.any fun kv => decide (kv.1 = k)) = true
          · have := ih hr
            rw [if_neg hy] at this
            exact this
          · have hid : (r.map fun kv => if kv.1 = k then (kv.1, v) else kv) = r := by
              conv => rhs; rw [← List.map_id r]
              apply List.map_congr_left
              intro b hb
              rw [if_neg fun q => hr (List.any_eq_true.mpr ⟨b, hb, by simpa using q⟩)]
              rfl
            rw [hid]
      · have hr : (r.any fun kv => decide (kv.1 = k)) = true := by simpa [ha] using h
        simp only [ha, if_false]
        by_cases hay : a.1 = y
        · have : y ≠ k := fun q => ha (hay.trans q)
          simp [hay, this]
        · simp only [hay, decide_false]
          exact ih hr
  · rename_i h
    rw [List.find?_append]
    by_cases hy : y = k
    · subst hy
      have : kvs.find? (fun kv => decide (kv.1 = y)) = none := by
        rw [List.find?_eq_none]
        intro a ha q
        exact h (List.any_eq_true.mpr ⟨a, ha, q⟩)
      rw [this]; simp
    · have : k ≠ y := fun q => hy q.symm
      rw [if_neg hy]
      cases kvs.find? (fun kv => decide (kv.1 = y)) with
      | none => simp [this]
      | some z => rfl
theorem valueAt_some_iff : (valueAt kvs y).isSome = true ↔ y ∈ kvs.map (·.1) := by
  unfold valueAt
  rw [Option.isSome_map, List.find?_isSome, List.mem_map]
  simp only [decide_eq_true_eq]
theorem valueAt_isSome : (valueAt kvs y).isSome = decide (y ∈ kvs.map (·.1)) := by
  rw [Bool.eq_iff_iff, valueAt_some_iff, decide_eq_true_eq]
end
theorem stored_len {kvs : List (Str × Value)} {k : Str} {v : Value} : (stored kvs k v).length ≤ kvs.length + 1 := by
  have := congrArg List.length (keys_stored (kvs := kvs) (k := k) (v := v))
  rw [List.length_map] at this
  rw [this]
  split
  · rw [List.length_map]; omega
  · rw [List.length_append, List.length_map]; show kvs.length + 1 ≤ _; omega
theorem isD_empty {w : World} : IsD w emptyDict [] := ⟨#[], 0, ⟨rfl, rfl, rfl⟩, rfl, (fun _ he => by simp at he), .nil, .nil⟩

/-! kinds of cells -/
def tset (tag : Addr → Nat) (a : Addr) (t : Nat) : Addr → Nat := fun b => if b = a then t else tag b
def Cell (tag : Addr → Nat) (N : Hp) (t : Nat) (a : Addr) (o : Obj) : Prop := tag a = t ∧ N a = some o
/-- all cells but those of the kinds T stay -/
def Ext (T : Nat → Prop) (tag : Addr → Nat) (N : Hp) (tag' : Addr → Nat) (N' : Hp) : Prop := ∀ t a o, ¬ T t → Cell tag N t a o → Cell tag' N' t a o
section
variable {T T' : Nat → Prop} {tag tag' tag'' : Addr → Nat} {N N' N'' : Hp} {a b : Addr} {o o' : Obj} {t t' : Nat}
theorem Cell.put (h : Cell tag N t a o) (hb : N b = none) : Cell (tset tag b t') (upd N b o') t a o := by
  have q : a ≠ b := fun q => by have := h.2; rw [q, hb] at this; cases this
  exact ⟨(if_neg q).trans h.1, by rw [upd_ne q]; exact h.2⟩
theorem Cell.new : Cell (tset tag b t) (upd N b o) t b o := ⟨if_pos rfl, upd_self⟩
theorem Ext.refl : Ext T tag N tag N := fun _ _ _ _ h => h
theorem Ext.trans (h : Ext T tag N tag' N') (h' : Ext T tag' N' tag'' N'') : Ext T tag N tag'' N'' := fun t a o n c => h' t a o n (h t a o n c)
theorem Ext.mono (h : Ext T tag N tag' N') (w : ∀ t, T t → T' t) : Ext T' tag N tag' N' := fun t a o n c => h t a o (fun q => n (w t q)) c
theorem Ext.new (hb : N b = none) : Ext T tag N (tset tag b t) (upd N b o) := fun _ _ _ _ c => c.put hb
theorem Ext.upd (h : Cell tag N t a o) (ht : T t) : Ext T tag N tag (upd N a o') := fun t' b ob n c => by
  have q : b ≠ a := fun q => n (by rw [← c.1, q, h.1]; exact ht)
  exact ⟨c.1, by rw [upd_ne q]; exact c.2⟩
theorem Ext.of_but (h : Cell tag N t a o) (ht : T t) (L : LeBut a N N') : Ext T tag N tag N' := fun t' b ob n c => by
  have q : b ≠ a := fun q => n (by rw [← c.1, q, h.1]; exact ht)
  exact ⟨c.1, L b ob q c.2⟩
theorem Ext.le (h : Le N N') : Ext T tag N tag N' := fun _ a o _ c => ⟨c.1, h a o c.2⟩
end
/-- an object whose dict is of the kind t -/
def InstT (tag : Addr → Nat) (N : Hp) (t : Nat) (x dx Cl : Addr) (at' : Fm) (c : Nat) : Prop := tag x = 0 ∧ tag dx = t ∧ Inst N x dx Cl at' c
theorem InstT.ext {T : Nat → Prop} {tag tag' : Addr → Nat} {N N' : Hp} {t : Nat} {x dx Cl : Addr} {at' : Fm} {c : Nat} (h : InstT tag N t x dx Cl at' c) (e : Ext T tag N tag' N') (h0 : ¬ T 0) (ht : ¬ T t) : InstT tag' N' t x dx Cl at' c := by
  obtain ⟨h1, h2, es, n, e1, e2, r⟩ := h
  have c1 := e 0 x _ h0 ⟨h1, e1⟩
  have c2 := e t dx _ ht ⟨h2, e2⟩
  exact ⟨c1.1, c2.1, es, n, c1.2, c2.2, r⟩
end Mine

namespace Mine
open PySem PySem.Challenge
local macro_rules | `(tactic| walk_at "ms") => `(tactic| first | assumption | exact mset_self | (refine (mset_ne (by decide)).trans ?_; walk_at "ms"))

section
variable {C : Cx} {m m' : Fm} {N N' R : Hp} {a l d x dx Cl : Addr} {k n c : Nat} {vs : List Value} {at' : Fm} {tag tag' : Addr → Nat}
theorem r_dictNil {p : Pos} {Q : Value → Fm → Hp → Prop} (q : ∀ a, N a = none → Q (.ref a) m (upd N a emptyDict)) : Run C (eval (.Dict [] [] p) C.env) m N Q := r_of fun R h tk S =>
  wpAny_Dict_empty (by have S' := S.push emptyDict; exact Post.intro S'.2 (q _ S'.1))
theorem r_setNil {Q : Value → Fm → Hp → Prop} (q : ∀ a o, N a = none → Q (.ref a) m (upd N a o)) : Run C (call (.type "set") []) m N Q := r_of fun R h tk S =>
  call_set_0 fun led => by have S' := S.push { cls := .type "set", dict := none, data := .set #[] 0 (.fresh 0 0 led) }; exact Post.intro S'.2 (q _ _ S'.1)
theorem InstT.ext1 (h : InstT tag N k x dx Cl at' c) (L : LeBut dx N N') : Ext (· = k) tag N tag N' := by
  obtain ⟨h1, h2, es, n, e1, e2, r⟩ := h
  exact Ext.of_but ⟨h2, e2⟩ rfl L
/-- self.n = value, and on; with kinds -/
theorem r_setT {t : Nat} {n : Str} {value : Expr} {p p' ps : Pos} {rest : List Stmt} {Q : Flow → Fm → Hp → Prop} (fe : FEnv C) (hA : Amb C k) (ks : C.env.kindOf "self" = some .local) (hp : plainName (K C.w.params) Cl n = true) (hc : c ≤ 99)
    (q : Run C (eval value C.env) m N fun v m' N' => m' "self" = some (.ref x) ∧ ∃ tag', InstT tag' N' t x dx Cl at' c ∧ ∀ N'', Ext (· = t) tag' N' tag' N'' → InstT tag' N'' t x dx Cl (mset at' n v) (c + 1) → Run C (execs rest C.env) m' N'' Q)
    (hs : swapsWith value (some (.Attribute (.Name "self" ps) n p')) p.line C.env = pure false := by rfl) : Run C (execs (.Assign [.Attribute (.Name "self" ps) n p'] value p :: rest) C.env) m N Q :=
  r_setC fe hA ks hp hc (r_mono q fun v m' N' ⟨ms, tag', hi, kk⟩ => ⟨ms, hi.2.2, fun N'' L F i => kk N'' (hi.ext1 L) ⟨hi.1, hi.2.1, i⟩⟩) hs
end

/-! the grammar -/
structure Gr where
  x : Addr
  dx : Addr
  pl : Addr
  pn : Addr
  pm : Addr
  te : Addr
  nt : Addr
  fi : Addr
  fo : Addr
  pr : Addr
structure GrAt (at' : Fm) (g : Gr) : Prop where
  pl : at' "Productions" = some (.ref g.pl)
  pn : at' "Prodnames" = some (.ref g.pn)
  pm : at' "Prodmap" = some (.ref g.pm)
  te : at' "Terminals" = some (.ref g.te)
  nt : at' "Nonterminals" = some (.ref g.nt)
  fi : at' "First" = some (.ref g.fi)
  fo : at' "Follow" = some (.ref g.fo)
  pr : at' "Precedence" = some (.ref g.pr)
  m1 : at' "add_production" = none
  m2 : at' "set_start" = none
  m3 : at' "_first" = none
  m4 : at' "compute_first" = none
  m5 : at' "compute_follow" = none
theorem GrAt.set {at' : Fm} {g : Gr} (h : GrAt at' g) {n : Str} {v : Value} (hn : n ∉ (["Productions", "Prodnames", "Prodmap", "Terminals", "Nonterminals", "First", "Follow", "Precedence", "add_production", "set_start", "_first", "compute_first", "compute_follow"] : List Str)) : GrAt (mset at' n v) g := by
  simp only [List.mem_cons, List.not_mem_nil, or_false, not_or] at hn
  obtain ⟨h1, h2, h3, h4, h5, h6, h7, h8, h9, h10, h11, h12, h13⟩ := hn
  exact ⟨(mset_ne (Ne.symm h1)).trans h.pl, (mset_ne (Ne.symm h2)).trans h.pn, (mset_ne (Ne.symm h3)).trans h.pm, (mset_ne (Ne.symm h4)).trans h.te, (mset_ne (Ne.symm h5)).trans h.nt, (mset_ne (Ne.symm h6)).trans h.fi, (mset_ne (Ne.symm h7)).trans h.fo, (mset_ne (Ne.symm h8)).trans h.pr,
    (mset_ne (Ne.symm h9)).trans h.m1, (mset_ne (Ne.symm h10)).trans h.m2, (mset_ne (Ne.symm h11)).trans h.m3, (mset_ne (Ne.symm h12)).trans h.m4, (mset_ne (Ne.symm h13)).trans h.m5⟩
/-- a dict of lists that nobody reads -/
def JunkD (w : World) (tag : Addr → Nat) (N : Hp) (d : Addr) (t : Nat) (ks : List Str) (B : Nat) : Prop :=
  ∃ o kvs, Cell tag N t d o ∧ IsD w o kvs ∧ kvs.map (·.1) = ks ∧ ∀ y v, valueAt kvs y = some v → ∃ l vs n, v = .ref l ∧ Cell tag N 10 l (lst vs n) ∧ vs.length ≤ B
def ProdF (tag : Addr → Nat) (N : Hp) (v : Value) (nm : Str) (ys : List Str) : Prop :=
  ∃ x dx at' c pt vs, v = .ref x ∧ InstT tag N 0 x dx 100 at' c ∧ (∃ t, at' "name" = some (.str nm t)) ∧ at' "prod" = some (.ref pt) ∧ Cell tag N 0 pt (tup vs 0) ∧ StrsAre vs ys
def PR1 (tag : Addr → Nat) (N : Hp) (v : Value) (r : Rl) : Prop := ProdF tag N v (told r.1) (r.2.map told)
def keyS (r : Rl) : Str := Str.empty ++ told r.1 ++ Str.ofString " -> " ++ showL (r.2.map told)
def termK (rs : List Rl) : List Str := if rs.any (fun r => r.2.contains 5) then ["a", "b", "error", "+"] else ["a", "b", "error"]
structure GA (w : World) (tag : Addr → Nat) (N : Hp) (g : Gr) (rs : List Rl) (ks : List Str) (B : Nat) : Prop where
  inst : ∃ at' c, InstT tag N 1 g.x g.dx 248 at' c ∧ c ≤ B + 20 ∧ GrAt at' g
  pl : ∃ p0 ps n, Cell tag N 2 g.pl (lst (p0 :: ps) n) ∧ AllAt (PR1 tag N) ps rs
  pn : ∃ o kvs, Cell tag N 3 g.pn o ∧ IsD w o kvs ∧ kvs.length ≤ B ∧ ∀ i < 3, (rs.filter (·.1 == i) = [] ∧ valueAt kvs (told i) = none) ∨ ∃ l vs n, valueAt kvs (told i) = some (.ref l) ∧ Cell tag N (11 + i) l (lst vs n) ∧ AllAt (PR1 tag N) vs (rs.filter (·.1 == i))
  pm : ∃ o kvs, Cell tag N 4 g.pm o ∧ IsD w o kvs ∧ kvs.length ≤ B ∧ ∀ y, (valueAt kvs y).isSome = rs.any (fun r => keyS r == y)
  te : JunkD w tag N g.te 5 (termK rs) B
  nt : JunkD w tag N g.nt 6 ks B
  fi : ∃ o, Cell tag N 7 g.fi o ∧ IsD w o []
  fo : ∃ o, Cell tag N 8 g.fo o ∧ IsD w o []
  pr : ∃ o, Cell tag N 9 g.pr o ∧ IsD w o []
  rl : rs.length ≤ B
  ntnd : ks.Nodup
  ntin : ∀ y ∈ ks, ∃ i < 3, y = told i
  ntall : ∀ r ∈ rs, told r.1 ∈ ks ∧ ∀ s ∈ r.2, s < 3 → told s ∈ ks
section
variable {T : Nat → Prop} {tag tag' : Addr → Nat} {N N' : Hp} {w : World}
theorem JunkD.ext {d : Addr} {t : Nat} {ks : List Str} {B : Nat} (h : JunkD w tag N d t ks B) (e : Ext T tag N tag' N') (h1 : ¬ T t) (h2 : ¬ T 10) : JunkD w tag' N' d t ks B := by
  obtain ⟨o, kvs, c, hd, hk, hv⟩ := h
  exact ⟨o, kvs, e _ _ _ h1 c, hd, hk, fun y v q => let ⟨l, vs, n, e1, c1, z⟩ := hv y v q; ⟨l, vs, n, e1, e _ _ _ h2 c1, z⟩⟩
theorem JunkD.mono {d : Addr} {t : Nat} {ks : List Str} {B B' : Nat} (h : JunkD w tag N d t ks B) (hB : B ≤ B') : JunkD w tag N d t ks B' := by
  obtain ⟨o, kvs, c, hd, hk, hv⟩ := h
  exact ⟨o, kvs, c, hd, hk, fun y v q => let ⟨l, vs, n, e1, c1, z⟩ := hv y v q; ⟨l, vs, n, e1, c1, Nat.le_trans z hB⟩⟩
/-- one of the lists grows -/
theorem JunkD.bump {d l : Addr} {t : Nat} {ks : List Str} {B : Nat} {vs : List Value} {n n' : Nat} {v : Value} (h : JunkD w tag N d t ks B) (ht : t ≠ 10) (hl : Cell tag N 10 l (lst vs n)) (hz : vs.length ≤ B) : JunkD w tag (upd N l (lst (vs ++ [v]) n')) d t ks (B + 1) := by
  obtain ⟨o, kvs, c, hd, hk, hv⟩ := h
  have hdl : d ≠ l := fun q => ht (by rw [← c.1, q, hl.1])
  refine ⟨o, kvs, ⟨c.1, by rw [upd_ne hdl]; exact c.2⟩, hd, hk, fun y u q => ?_⟩
  obtain ⟨l', vs', k, e1, c1, z⟩ := hv y u q
  by_cases hll : l' = l
  · subst hll
    exact ⟨l', _, n', e1, ⟨c1.1, upd_self⟩, by rw [List.length_append]; show vs.length + 1 ≤ B + 1; omega⟩
  · exact ⟨l', vs', k, e1, ⟨c1.1, by rw [upd_ne hll]; exact c1.2⟩, by omega⟩
/-- a new key, with a new list -/
theorem JunkD.add {d l : Addr} {t : Nat} {ks : List Str} {B : Nat} {y : Str} {o : Obj} {kvs : List (Str × Value)} {o' : Obj} (c : Cell tag N t d o) (hk : kvs.map (·.1) = ks) (hv : ∀ y v, valueAt kvs y = some v → ∃ l vs n, v = .ref l ∧ Cell tag N 10 l (lst vs n) ∧ vs.length ≤ B)
    (ht : t ≠ 10) (hl : N l = none) (hn : y ∉ ks) (hd' : IsD w o' (stored kvs y (.ref l))) : JunkD w (tset tag l 10) (upd (upd N l (lst [] 0)) d o') d t (ks ++ [y]) B := by
  have hdl : d ≠ l := fun q => by have := c.2; rw [q, hl] at this; cases this
  refine ⟨o', _, ⟨(if_neg hdl).trans c.1, upd_self⟩, hd', ?_, fun z v q => ?_⟩
  · rw [keys_stored, hk, if_neg hn]
  · rw [valueAt_stored] at q
    by_cases hz : z = y
    · rw [if_pos hz] at q; cases q
      exact ⟨l, [], 0, rfl, ⟨if_pos rfl, by rw [upd_ne hdl.symm]; exact upd_self⟩, Nat.zero_le _⟩
    · rw [if_neg hz] at q
      obtain ⟨l', vs', k, e1, c1, z'⟩ := hv z v q
      have c2 := c1.put (t' := 10) (o' := lst [] 0) hl
      have : l' ≠ d := fun q => ht (by rw [← c.1, ← q, c1.1])
      exact ⟨l', vs', k, e1, ⟨c2.1, by rw [upd_ne this]; exact c2.2⟩, z'⟩
theorem ProdF.ext {v : Value} {nm : Str} {ys : List Str} (h : ProdF tag N v nm ys) (e : Ext T tag N tag' N') (h0 : ¬ T 0) : ProdF tag' N' v nm ys :=
  let ⟨x, dx, at', c, pt, vs, e1, i, h1, h2, h3, h4⟩ := h; ⟨x, dx, at', c, pt, vs, e1, i.ext e h0 h0, h1, h2, e _ _ _ h0 h3, h4⟩
theorem PR1.ext (e : Ext T tag N tag' N') (h0 : ¬ T 0) (v : Value) (r : Rl) (h : PR1 tag N v r) : PR1 tag' N' v r := ProdF.ext h e h0
end
end Mine

namespace Mine
open PySem PySem.Challenge
local macro_rules | `(tactic| walk_at "ms") => `(tactic| first | assumption | exact mset_self | (refine (mset_ne (by decide)).trans ?_; walk_at "ms"))

section
variable {C : Cx} {m m' : Fm} {N N' R : Hp} {a l d x dx Cl : Addr} {k n c : Nat} {vs : List Value} {at' : Fm} {tag tag' : Addr → Nat}
/-- d[y] = [] for a new key of a dict of lists -/
theorem r_addList {w : World} {t : Nat} {ks : List Str} {B : Nat} {ox ix : Expr} {p p' pl : Pos} {y : Str} {Q : Flow → Fm → Hp → Prop} (hw : C.w = w) (ht : t ≠ 10) (hj : JunkD w tag N d t ks B) (hn : y ∉ ks) (hz : ks.length ≤ 1000000)
    (eo : ∀ l N' P, N l = none → N' = upd N l (lst [] 0) → P (.ref d) m N' → Run C (eval ox C.env) m N' P) (ei : ∀ l N' P, N' = upd N l (lst [] 0) → (∀ ty, P (.str y ty) m N') → Run C (eval ix C.env) m N' P)
    (q : ∀ tag' N', JunkD w tag' N' d t (ks ++ [y]) B → Ext (· = t) tag N tag' N' → Q .next m N') (hs : swapsWith (.List [] pl) (some (.Subscript ox ix p')) p.line C.env = pure false := by rfl) :
    Run C (exec (.Assign [.Subscript ox ix p'] (.List [] pl) p) C.env) m N Q := by
  subst hw
  obtain ⟨o, kvs, c, hd, hk, hv⟩ := hj
  refine r_assignSub (r_list (r_splNil (r_newList (fun l hl => eo l _ _ hl rfl (ei l _ _ rfl fun ty => ?_)) (by show 0 ≤ sizeLine; rw [sizeLine_eq]; omega)))) hs
  have hdl : d ≠ l := fun z => by have := c.2; rw [z, hl] at this; cases this
  have hzl : kvs.length ≤ 1000000 := by have := congrArg List.length hk; rw [List.length_map] at this; omega
  refine r_dictSet (o := o) (by rw [upd_ne hdl]; exact c.2) hd hzl fun o' hd' => ?_
  refine q (tset tag l 10) _ (JunkD.add c hk hv ht hl hn hd') ?_
  have e1 : Ext (· = t) tag N (tset tag l 10) (upd N l (lst [] 0)) := Ext.new hl
  exact e1.trans (Ext.upd (c.put hl) rfl)
def InitG (w : World) (N : Hp) (x dx : Addr) (v : Value) (N' : Hp) : Prop := v = .none ∧ ∃ g tag', g.x = x ∧ GA w tag' N' g [] [] 0 ∧ Ext (· ≠ 0) (tset (fun _ => 0) dx 1) N tag' N'
set_option maxHeartbeats 3200000 in
theorem ginit_body {C' : Cx} {f cdA tl : Addr} (hC' : Callee C "Grammar.__init__" (SM 9 0) f cdA C' k) (hi : Inst N x dx 248 (fun _ => none) 0) (hxd : x ≠ dx) (htl : N tl = some (lst vs n)) (hs : StrsAre vs ["a", "b"]) :
    Run C' (execs (bodyOf (SM 9 0)) C'.env) (fun y => ([("self", .ref x), ("terminals", .ref tl)] : List (Str × Value)).reverse.lookup y) N (Ret fun v _ N' => InitG C.w N x dx v N') := by
  have fe := callee_env hC' (by kernel_rfl)
  have k0 : C'.env.kindOf "self" = some .local := callee_kind hC' (by kernel_rfl)
  have k1 : C'.env.kindOf "terminals" = some .local := callee_kind hC' (by kernel_rfl)
  have k2 : C'.env.kindOf "term" = some .local := callee_kind hC' (by kernel_rfl)
  have g1 : C'.env.kindOf "set" = some .globalImplicit := callee_kind hC' (by kernel_rfl)
  have hA := hC'.1
  have hh := hA.handled
  have hw : C'.w = C.w := hC'.2.1
  have hvl : vs.length = 2 := StrsAre.len hs
  refine r_genm (fun m => m "self" = some (.ref x) ∧ m "terminals" = some (.ref tl)) ⟨rfl, rfl⟩ fun m0 ⟨e0, e1⟩ => ?_
  have i0 : InstT (tset (fun _ => 0) dx 1) N 1 x dx 248 (fun _ => none) 0 := ⟨if_neg hxd, if_pos rfl, hi⟩
  have htd : tl ≠ dx := fun z => by
    obtain ⟨es, q, _, e, _⟩ := hi
    rw [← z, htl] at e; have := congrArg Obj.cls (Option.some.inj e); injection this with z; exact absurd z (by decide)
  have ct : Cell (tset (fun _ => 0) dx 1) N 0 tl (lst vs n) := ⟨if_neg htd, htl⟩
  generalize ht0 : tset (fun _ => 0) dx 1 = tag0 at i0 ct
  with_unfolding_all refine r_setT (at' := fun _ => none) (x := x) (dx := dx) (Cl := 248) (c := 0) (t := 1) fe hA k0 (by kernel_rfl) (by decide) ?_
  refine r_list (r_splCons (r_none (r_splNil (r_newList (fun pl hpl => ⟨e0, tset tag0 pl 2, i0.ext (T := (· = 2)) (Ext.new hpl) (by decide) (by decide), fun N1 E1 i1 => ?_⟩) (by show 1 ≤ sizeLine; rw [sizeLine_eq]; omega)))))
  have X1 : Ext (· = 1) tag0 N _ N1 := (Ext.new hpl).trans E1
  have cpl := E1 _ _ _ (by decide) (Cell.new (tag := tag0) (N := N) (b := pl) (o := lst [.none] 0) (t := 2))
  refine r_setT fe hA k0 (by kernel_rfl) (by decide) (r_dictNil fun pn hpn => ⟨e0, tset _ pn 3, i1.ext (T := (· = 3)) (Ext.new hpn) (by decide) (by decide), fun N2 E2 i2 => ?_⟩)
  have X2 : Ext (· = 1) _ N1 _ N2 := (Ext.new hpn).trans E2
  have cpn := E2 _ _ _ (by decide) (Cell.new (tag := tset tag0 pl 2) (N := N1) (b := pn) (o := emptyDict) (t := 3))
  refine r_setT fe hA k0 (by kernel_rfl) (by decide) (r_dictNil fun pm hpm => ⟨e0, tset _ pm 4, i2.ext (T := (· = 4)) (Ext.new hpm) (by decide) (by decide), fun N3 E3 i3 => ?_⟩)
  have X3 : Ext (· = 1) _ N2 _ N3 := (Ext.new hpm).trans E3
  have cpm := E3 _ _ _ (by decide) (Cell.new (tag := tset (tset tag0 pl 2) pn 3) (N := N2) (b := pm) (o := emptyDict) (t := 4))
  refine r_setT fe hA k0 (by kernel_rfl) (by decide) (r_dictNil fun te hte => ⟨e0, tset _ te 5, i3.ext (T := (· = 5)) (Ext.new hte) (by decide) (by decide), fun N4 E4 i4 => ?_⟩)
  have X4 : Ext (· = 1) _ N3 _ N4 := (Ext.new hte).trans E4
  have cte := E4 _ _ _ (by decide) (Cell.new (tag := tset (tset (tset tag0 pl 2) pn 3) pm 4) (N := N3) (b := te) (o := emptyDict) (t := 5))
  have X14 := X1.trans (X2.trans (X3.trans X4))
  replace cpl := (X2.trans (X3.trans X4)) _ _ _ (by decide) cpl
  replace cpn := (X3.trans X4) _ _ _ (by decide) cpn
  replace cpm := X4 _ _ _ (by decide) cpm
  generalize htg : tset (tset (tset (tset tag0 pl 2) pn 3) pm 4) te 5 = tag4 at X14 cpl cpn cpm cte i4
  clear htg X1 X2 X3 X4 E1 E2 E3 E4 i0 i1 i2 i3 hpl hpn hpm hte
  have jte : JunkD C.w tag4 N4 te 5 [] 0 := ⟨_, [], cte, isD_empty, rfl, fun y v q => by cases q⟩
  generalize hat : mset (mset (mset (mset (fun _ => none) "Productions" (.ref pl)) "Prodnames" (.ref pn)) "Prodmap" (.ref pm)) "Terminals" (.ref te) = at4 at i4
  have a1 : at4 "Productions" = some (.ref pl) := by rw [← hat]; walk_at "ms"
  have a2 : at4 "Prodnames" = some (.ref pn) := by rw [← hat]; walk_at "ms"
  have a3 : at4 "Prodmap" = some (.ref pm) := by rw [← hat]; walk_at "ms"
  have a4 : at4 "Terminals" = some (.ref te) := by rw [← hat]; walk_at "ms"
  have b1 : at4 "add_production" = none := by rw [← hat]; rfl
  have b2 : at4 "set_start" = none := by rw [← hat]; rfl
  have b3 : at4 "_first" = none := by rw [← hat]; rfl
  have b4 : at4 "compute_first" = none := by rw [← hat]; rfl
  have b5 : at4 "compute_follow" = none := by rw [← hat]; rfl
  clear hat cte
  let J : Nat → Fm → Hp → Prop := fun i m' N' => m' "self" = some (.ref x) ∧ ∃ tag', Ext (· = 5) tag4 N4 tag' N' ∧ JunkD C.w tag' N' te 5 ((["a", "b"] : List Str).take i) 0
  refine r_consM (fun m' N' => J 2 m' N') (r_for hh (r_name fe k1 e1 ⟨_, _, _, itb_list (X14 _ _ _ (by decide) ct).2, J, ⟨e0, tag4, Ext.refl, jte⟩, ?_, ?_, ?_⟩)) ?_
  · intro b hb
    rw [List.mem_singleton.mp hb]
    exact ⟨_, fun i m N' h => by obtain ⟨_, tag', E, _⟩ := h; exact (E _ _ _ (by decide) (X14 _ _ _ (by decide) ct)).2⟩
  · rintro i v m' N' hlt hv ⟨e0, tag', E, hj⟩
    obtain ⟨y, ty, rfl, hy⟩ := strs_at hs hv
    have i5 := i4.ext E (by decide) (by decide)
    have hi2 : i = 0 ∨ i = 1 := by omega
    have hyk : y ∉ (["a", "b"] : List Str).take i := by
      rcases hi2 with rfl | rfl
      · simp
      · simp at hy; subst hy; decide
    have htk : (["a", "b"] : List Str).take (i + 1) = (["a", "b"] : List Str).take i ++ [y] := by rw [List.take_add_one, hy]; rfl
    refine r_asName fe k2 (r_one (r_addList hw (by decide) hj hyk (by rcases hi2 with rfl | rfl <;> decide) (fun l N₁ P hl e hP => ?_) (fun l N₁ P e hP => r_name fe k2 mset_self (hP _)) fun tag₁ N₁ hj₁ E₁ => ?_))
    · subst e
      exact r_selfAt fe hA k0 (by kernel_rfl) (by walk_at "ms") (i5.2.2.le (Le.upd hl)) a4 rfl hP
    · exact ⟨by walk_at "ms", tag₁, E.trans E₁, by rw [htk]; exact hj₁⟩
  · rw [hvl]
    exact fun m' N' h => r_nil ⟨rfl, h⟩
  rintro m1 N5 ⟨e0, tag5, E5, hj5⟩
  have i5 := i4.ext E5 (by decide) (by decide)
  refine r_consM (fun m' N' => m' "self" = some (.ref x) ∧ ∃ tag', Ext (· = 5) tag4 N4 tag' N' ∧ JunkD C.w tag' N' te 5 ["a", "b", "error"] 0)
    (r_addList (y := "error") hw (by decide) hj5 (by decide) (by decide) (fun l N₁ P hl e hP => ?_) (fun l N₁ P e hP => r_str fun t => hP t) fun tag₁ N₁ hj₁ E₁ => ⟨rfl, e0, tag₁, E5.trans E₁, hj₁⟩) ?_
  · subst e
    exact r_selfAt fe hA k0 (by kernel_rfl) e0 (i5.2.2.le (Le.upd hl)) a4 rfl hP
  clear hj5 E5 i5
  rintro m2 N6 ⟨e0, tag6, E6, hj6⟩
  have i6 := i4.ext E6 (by decide) (by decide)
  replace cpl := E6 _ _ _ (by decide) cpl
  replace cpn := E6 _ _ _ (by decide) cpn
  replace cpm := E6 _ _ _ (by decide) cpm
  have X06 : Ext (· ≠ 0) tag0 N tag6 N6 := (X14.mono (by intro t h; omega)).trans (E6.mono (by intro t h; omega))
  clear E6 X14 i4
  refine r_setT fe hA k0 (by kernel_rfl) (by decide) (r_dictNil fun nt hnt => ⟨e0, tset _ nt 6, i6.ext (T := (· = 6)) (Ext.new hnt) (by decide) (by decide), fun N7 E7 i7 => ?_⟩)
  have X7 : Ext (· = 1) _ N6 _ N7 := (Ext.new hnt).trans E7
  have cnt := E7 _ _ _ (by decide) (Cell.new (tag := tag6) (N := N6) (b := nt) (o := emptyDict) (t := 6))
  refine r_setT fe hA k0 (by kernel_rfl) (by decide) (r_dictNil fun fi hfi => ⟨e0, tset _ fi 7, i7.ext (T := (· = 7)) (Ext.new hfi) (by decide) (by decide), fun N8 E8 i8 => ?_⟩)
  have X8 : Ext (· = 1) _ N7 _ N8 := (Ext.new hfi).trans E8
  have cfi := E8 _ _ _ (by decide) (Cell.new (tag := tset tag6 nt 6) (N := N7) (b := fi) (o := emptyDict) (t := 7))
  refine r_setT fe hA k0 (by kernel_rfl) (by decide) (r_dictNil fun fo hfo => ⟨e0, tset _ fo 8, i8.ext (T := (· = 8)) (Ext.new hfo) (by decide) (by decide), fun N9 E9 i9 => ?_⟩)
  have X9 : Ext (· = 1) _ N8 _ N9 := (Ext.new hfo).trans E9
  have cfo := E9 _ _ _ (by decide) (Cell.new (tag := tset (tset tag6 nt 6) fi 7) (N := N8) (b := fo) (o := emptyDict) (t := 8))
  refine r_setT fe hA k0 (by kernel_rfl) (by decide) (r_dictNil fun pr hpr => ⟨e0, tset _ pr 9, i9.ext (T := (· = 9)) (Ext.new hpr) (by decide) (by decide), fun N10 E10 i10 => ?_⟩)
  have X10 : Ext (· = 1) _ N9 _ N10 := (Ext.new hpr).trans E10
  have cpr := E10 _ _ _ (by decide) (Cell.new (tag := tset (tset (tset tag6 nt 6) fi 7) fo 8) (N := N9) (b := pr) (o := emptyDict) (t := 9))
  refine r_setT fe hA k0 (by kernel_rfl) (by decide) (r_callName0 (r_builtin fe hA g1 (by kernel_rfl) PyProof.Rows.Boot.«set» (by decide) ⟨kf_type, r_setNil fun us ous hus => ⟨e0, tset _ us 90, i10.ext (T := (· = 90)) (Ext.new hus) (by decide) (by decide), fun N11 E11 i11 => ?_⟩⟩))
  have X11 : Ext (· = 1) _ N10 _ N11 := (Ext.new hus).trans E11
  refine r_setT fe hA k0 (by kernel_rfl) (by decide) (r_none ⟨e0, _, i11, fun N12 X12 i12 => r_nil ?_⟩)
  have Y11 := X11.trans X12
  have Y10 := X10.trans Y11
  have Y9 := X9.trans Y10
  have Y8 := X8.trans Y9
  have Y7 := X7.trans Y8
  replace cnt := Y8 _ _ _ (by decide) cnt
  replace cfi := Y9 _ _ _ (by decide) cfi
  replace cfo := Y10 _ _ _ (by decide) cfo
  replace cpr := Y11 _ _ _ (by decide) cpr
  replace cpl := Y7 _ _ _ (by decide) cpl
  replace cpn := Y7 _ _ _ (by decide) cpn
  replace cpm := Y7 _ _ _ (by decide) cpm
  have jte := hj6.ext Y7 (by decide) (by decide)
  refine ⟨rfl, ⟨x, dx, pl, pn, pm, te, nt, fi, fo, pr⟩, _, rfl, ⟨⟨_, _, i12, by decide, ?_⟩, ⟨.none, [], 0, cpl, .nil⟩, ⟨_, [], cpn, isD_empty, Nat.le_refl _, fun i hi => .inl ⟨rfl, rfl⟩⟩, ⟨_, [], cpm, isD_empty, Nat.le_refl _, fun y => rfl⟩, jte,
    ⟨_, [], cnt, isD_empty, rfl, fun y v q => by cases q⟩, ⟨_, cfi, isD_empty⟩, ⟨_, cfo, isD_empty⟩, ⟨_, cpr, isD_empty⟩, Nat.le_refl _, List.nodup_nil, (fun y hy => by simp at hy), fun r hr => by simp at hr⟩, ?_⟩
  · have c1 : ∀ {n : Str}, n ≠ "Nonterminals" → n ≠ "First" → n ≠ "Follow" → n ≠ "Precedence" → n ≠ "UsedPrecedence" → n ≠ "Start" → mset (mset (mset (mset (mset (mset at4 "Nonterminals" (.ref nt)) "First" (.ref fi)) "Follow" (.ref fo)) "Precedence" (.ref pr)) "UsedPrecedence" (.ref us)) "Start" .none n = at4 n := fun h1 h2 h3 h4 h5 h6 => by
      rw [mset_ne h6, mset_ne h5, mset_ne h4, mset_ne h3, mset_ne h2, mset_ne h1]
    exact ⟨by walk_at "ms", by walk_at "ms", by walk_at "ms", by walk_at "ms", by walk_at "ms", by walk_at "ms", by walk_at "ms", by walk_at "ms",
      (c1 (by decide) (by decide) (by decide) (by decide) (by decide) (by decide)).trans b1, (c1 (by decide) (by decide) (by decide) (by decide) (by decide) (by decide)).trans b2, (c1 (by decide) (by decide) (by decide) (by decide) (by decide) (by decide)).trans b3,
      (c1 (by decide) (by decide) (by decide) (by decide) (by decide) (by decide)).trans b4, (c1 (by decide) (by decide) (by decide) (by decide) (by decide) (by decide)).trans b5⟩
  · rw [ht0]
    exact X06.trans (Y7.mono (by intro t h; omega))
set_option maxHeartbeats 800000 in
theorem gram_call (hC : Amb C (k + 2)) {tl : Addr} (htl : N tl = some (lst vs n)) (hs : StrsAre vs ["a", "b"]) {Q : Value → Fm → Hp → Prop}
    (q : ∀ g tag' N', GA C.w tag' N' g [] [] 0 → Ext (· ≠ 0) (fun _ => 0) N tag' N' → Q (.ref g.x) m N') : Run C (call (.ref 248) [.ref tl]) m N Q := by
  refine r_call (cr_make (fI := 137) hC (by kernel_rfl) (by kernel_rfl) (by kernel_rfl) fun C₁ hA hw x dx hdx hx => ?_)
  refine cr_call_def (P := InitG C₁.w (upd (upd N dx emptyDict) x (instObj 248 dx)) x dx) hA (SM 9 0) "Grammar.__init__" [("self", .ref x), ("terminals", .ref tl)] (lk137 _) (by kernel_rfl)
    (fun s _ => BindsTo.of_eq (by kernel_rfl)) (locs (by kernel_rfl)) (by decide +kernel) (by kernel_rfl) (by kernel_rfl) (by kernel_rfl) (fun C' hC' => ?_) (fun v N' h => ?_)
  · exact ginit_body hC' (Inst.fresh hdx hx) (fun z => by rw [z, upd_self] at hx; cases hx) (Le.upd hx _ _ (Le.upd hdx _ _ htl)) hs
  · obtain ⟨rfl, g, tag', rfl, hg, hE⟩ := h
    rw [hw] at hg
    refine ⟨rfl, q g tag' N' hg fun t a o ht hc => ?_⟩
    have h1 : a ≠ dx := fun z => by have := hc.2; rw [z, hdx] at this; cases this
    have h2 : a ≠ g.x := fun z => by
      have := Le.upd hdx (o := emptyDict) a o hc.2
      rw [z, hx] at this; cases this
    exact hE t a o ht ⟨(if_neg h1).trans hc.1, by rw [upd_ne h2, upd_ne h1]; exact hc.2⟩
end
end Mine

namespace Mine
open PySem PySem.Challenge
local macro_rules | `(tactic| walk_at "ms") => `(tactic| first | assumption | exact mset_self | (refine (mset_ne (by decide)).trans ?_; walk_at "ms"))

section
variable {C : Cx} {m m' : Fm} {N N' R : Hp} {a l d x dx Cl : Addr} {k n c : Nat} {vs : List Value} {at' : Fm} {tag tag' : Addr → Nat}
theorem dictGet_none {w : World} {A : Around} {E : Value → Shared → Prop} {s : Shared} {o : Obj} {ep : Nat} {Q : Option Value → Shared → Prop} (ho : s.heap.get? d = some o) (hd : o.data = .dict #[] ep) (hu : A.units + 1 < cLine) (h : ∀ tk, Q none { s with toks := tk }) :
    wpAny (model PR w) A (dictGet d .none) Q E s := by
  unfold dictGet
  refine wpAny_holding (wpAny_bind (W.pyHash_laid (w := w) (.none : WData) .none A s _ rfl .none (by show A.units + 0 < _; omega) fun tk => ?_))
  unfold dictFind
  refine wpAny_bind (wpAny_holding (wpAny_bind (wpAny_dictEntries (s := { s with toks := tk }) ho hd ?_)))
  have hp : ∀ h, placesWithHash 0 (fun i => (#[] : Array DictEntry)[i]?.map (·.hash)) h = [] := fun h => rfl
  dsimp only
  first
    | exact wpAny_pure (wpAny_pure (h tk))
    | (rw [show (#[] : Array DictEntry).size = 0 from rfl]
       simp only [hp, List.filterMap_nil, List.all_cons, List.all_nil, carriedByValue, Bool.and_self, if_true]
       unfold dictWalkPlain
       exact wpAny_bind (wpAny_pure (wpAny_pure (h tk))))
theorem r_getEmpty {o : Obj} {v df : Value} {Q : Value → Fm → Hp → Prop} (hC : Amb C k) (e : N d = some o) (hd : IsD C.w o []) (hv : v = .none ∨ ∃ y t, v = .str y t) (q : Q df m N) : Run C (call (.builtin "dict.get") [.ref d, v, df]) m N Q := r_of fun R h tk S => by
  have hsm := S.sm d o e
  have hT : (C.at h tk).TypeIs (.ref d) "dict" := (S.dictOf e hd).mapOf.typeIs
  have hun := hC.un
  refine wpAny_call_entry PySem.F.slot_dict_get hT PySem.F.entry_dict_get ?_ (PySem.F.args_dict_get_3 _ _ _)
  show wpAny _ _ (dictGet d v >>= _) _ _ _
  rcases hv with rfl | ⟨y, t, rfl⟩
  · obtain ⟨es, ep, hx, hdd, hk, hp, hn⟩ := id hd
    have hes : es = #[] := by
      have := hp.length
      rw [Array.length_toList] at this
      exact Array.eq_empty_of_size_eq_zero this
    subst hes
    refine wpAny_bind (dictGet_none (S.get e) hdd (by show C.A.units + 1 + 1 < _; omega) fun tk' => ?_)
    show wpAny _ _ (Builtin.Dict.missed d .none >>= _) _ _ _
    exact wpAny_bind (wpAny_missed_other hsm (wpAny_pure ⟨_, rfl, Post.intro (tk' := tk') S q⟩))
  · refine wpAny_bind (wpAny_dictGet_of (strKind_is PR C.w y t) (S.dictOf e hd).mapOf ?_)
    show wpAny _ _ (Builtin.Dict.missed d _ >>= _) _ _ _
    exact wpAny_bind (wpAny_missed_other hsm (wpAny_pure ⟨_, rfl, Post.intro (tk' := tk + 1) S q⟩))
theorem gm_dict {o : Obj} {kvs : List (Str × Value)} {name : Str} {id : String} (e : N d = some o) (hd : IsD C.w o kvs) (slot : Slot "dict" name id) (hty : typeOf (.builtin id) = pure (.type "method_descriptor")) :
    ∀ (pl : Sem Bool) (P : Value × List Value → Fm → Hp → Prop), P (.builtin id, [.ref d]) m N → Run C (getMethod (.ref d) name pl) m N P :=
  gm_builtin PySem.F.plainAttrs_dict slot hty (fun m R h tk S => (S.dictOf e hd).mapOf.typeIs) fun m R h S a q => by
    cases q
    obtain ⟨es, ep, hx, _⟩ := hd
    exact ⟨_, S.get e, hx.2.1⟩
end

/-! the grammar's parts, kept -/
theorem GA.keep {w : World} {tag tag' : Addr → Nat} {N N' : Hp} {g : Gr} {rs : List Rl} {ks : List Str} {B : Nat} {T : Nat → Prop} (h : GA w tag N g rs ks B) (e : Ext T tag N tag' N') (hT : ∀ t, t ≤ 13 → ¬ T t) : GA w tag' N' g rs ks B := by
  have k := fun t ht a o c => e t a o (hT t ht) c
  obtain ⟨⟨at', c, i, hc, ga⟩, ⟨p0, ps, n, cp, hp⟩, ⟨o2, kv2, c2, d2, z2, h2⟩, ⟨o3, kv3, c3, d3, z3, h3⟩, h4, h5, ⟨o6, c6, d6⟩, ⟨o7, c7, d7⟩, ⟨o8, c8, d8⟩, h9, h10, h11, h12⟩ := h
  refine ⟨⟨at', c, i.ext e (hT 0 (by omega)) (hT 1 (by omega)), hc, ga⟩, ⟨p0, ps, n, k 2 (by omega) _ _ cp, hp.mono (PR1.ext e (hT 0 (by omega)))⟩, ⟨o2, kv2, k 3 (by omega) _ _ c2, d2, z2, fun i hi => ?_⟩, ⟨o3, kv3, k 4 (by omega) _ _ c3, d3, z3, h3⟩,
    h4.ext e (hT 5 (by omega)) (hT 10 (by omega)), h5.ext e (hT 6 (by omega)) (hT 10 (by omega)), ⟨o6, k 7 (by omega) _ _ c6, d6⟩, ⟨o7, k 8 (by omega) _ _ c7, d7⟩, ⟨o8, k 9 (by omega) _ _ c8, d8⟩, h9, h10, h11, h12⟩
  rcases h2 i hi with q | ⟨l, vs, n, e1, c1, p1⟩
  · exact .inl q
  · exact .inr ⟨l, vs, n, e1, k (11 + i) (by omega) _ _ c1, p1.mono (PR1.ext e (hT 0 (by omega)))⟩
end Mine

namespace Mine
open PySem PySem.Challenge

/-! the names, as texts -/
def given : Nat → Str := fun i => (["S", "A", "B", "a", "b", "'+'", "error"] : List Str).getD i ""
theorem given_at (P : Params) : ∃ us n, o254 P = lst us n ∧ ∀ i < 7, ∃ t, us[i]? = some (.str (given i) t) := by
  refine ⟨_, _, rfl, fun i hi => ?_⟩
  have : i = 0 ∨ i = 1 ∨ i = 2 ∨ i = 3 ∨ i = 4 ∨ i = 5 ∨ i = 6 := by omega
  rcases this with rfl | rfl | rfl | rfl | rfl | rfl | rfl <;> exact ⟨_, rfl⟩
theorem lt7 {P : Nat → Prop} (h : ∀ i ∈ [0, 1, 2, 3, 4, 5, 6], P i) : ∀ i < 7, P i := fun i hi => by
  refine h i ?_
  have : i = 0 ∨ i = 1 ∨ i = 2 ∨ i = 3 ∨ i = 4 ∨ i = 5 ∨ i = 6 := by omega
  rcases this with rfl | rfl | rfl | rfl | rfl | rfl | rfl <;> simp
theorem told_inj : ∀ i < 7, ∀ j < 7, told i = told j → i = j := lt7 (by
  intro i hi
  exact lt7 (by revert i; decide +kernel))
theorem given_told : ∀ i < 7, i ≠ 5 → given i = told i := lt7 (by decide +kernel)
theorem given_quote : ∀ i < 7, Txt.contains "'\"" (Txt.item (given i) 0) = decide (i = 5) := lt7 (by decide +kernel)
theorem given_len : ∀ i < 7, (Txt.charAt (given i) 0).isSome = true := lt7 (by decide +kernel)
theorem told_len : ∀ i < 7, (told i).length ≤ 5 := lt7 (by decide +kernel)
theorem told_id : ∀ i < 7, i ≠ 5 → idOk (told i) = true := lt7 (by decide +kernel)
theorem told_prec : ∀ i < 7, told i ≠ "%prec" := lt7 (by decide +kernel)
theorem told_err : ∀ i < 3, told i ≠ "error" := fun i hi => by
  have : i = 0 ∨ i = 1 ∨ i = 2 := by omega
  rcases this with rfl | rfl | rfl <;> decide +kernel

/-! the texts of the lists -/
def jn : Bool → List (List Nat) → List Nat
  | _, [] => [93]
  | first, t :: ts => (if first then [] else [44, 32]) ++ t ++ jn false ts
theorem textFrom_jn : ∀ (ts : List Str) (k : Nat) (acc : Str), (textFrom k acc ts ++ (Str.ofString "]")).cps.toList = acc.cps.toList ++ jn (k == 0) (ts.map fun t => t.cps.toList)
  | [], k, acc => by
    show (acc ++ Str.ofString "]").cps.toList = _
    rw [Str.cps_append, Array.toList_append]
    rfl
  | t :: ts, k, acc => by
    show (textFrom (k + 1) (acc ++ (if k > 0 then ", " else "" : String) ++ t) ts ++ Str.ofString "]").cps.toList = _
    rw [textFrom_jn ts (k + 1)]
    rw [Str.cps_append, Str.cps_append, Array.toList_append, Array.toList_append, List.map_cons]
    show acc.cps.toList ++ _ ++ t.cps.toList ++ jn false _ = acc.cps.toList ++ ((if (k == 0) = true then [] else [44, 32]) ++ t.cps.toList ++ jn false _)
    cases k with
    | zero =>
      have : (Str.ofString (if 0 > 0 then ", " else "" : String)).cps.toList = [] := by decide +kernel
      rw [this]; simp
    | succ k =>
      have : (Str.ofString (if k + 1 > 0 then ", " else "" : String)).cps.toList = [44, 32] := by
        rw [if_pos (Nat.succ_pos k)]; decide +kernel
      rw [this]; simp
theorem shownAll_strs : ∀ ys : List Str, PyData.shownAll (ys.map .str) = ys.map reprText
  | [] => by simp [PyData.shownAll]
  | y :: ys => by simp [PyData.shownAll, PyData.shown, shownAll_strs ys]
theorem showL_jn (ys : List Str) : (showL ys).cps.toList = 91 :: jn true (ys.map fun y => (reprText y).cps.toList) := by
  unfold showL
  rw [PyData.shown, shownAll_strs]
  unfold listText
  have := textFrom_jn (ys.map reprText) 0 (Str.ofString "[")
  rw [List.map_map] at this
  refine this.trans ?_
  have h : (Str.ofString "[").cps.toList = [91] := by decide +kernel
  rw [h]; rfl
def qs (s : Nat) : List Nat := (reprText (told s)).cps.toList
def qc (s : Nat) : Nat := (qs s).getD 1 0
theorem qs_form : ∀ s < 7, ∃ r, qs s = 39 :: qc s :: r ∧ r.length ≤ 5 := by
  refine lt7 ?_
  have : ∀ i ∈ [0, 1, 2, 3, 4, 5, 6], qs i = 39 :: qc i :: (qs i).drop 2 ∧ ((qs i).drop 2).length ≤ 5 := by decide +kernel
  exact fun i hi => ⟨_, this i hi⟩
theorem qc_inj : ∀ s < 7, ∀ t < 7, qc s = qc t → s = t := lt7 (by
  intro i hi
  exact lt7 (by revert i; decide +kernel))
theorem jn_inj : ∀ (ss tt : List Nat) (b : Bool), (∀ s ∈ ss, s < 7) → (∀ s ∈ tt, s < 7) → jn b (ss.map qs) = jn b (tt.map qs) → ss = tt
  | [], [], _, _, _, _ => rfl
  | [], t :: tt, b, _, h2, e => by
    obtain ⟨r, hr, _⟩ := qs_form t (h2 t (.head _))
    rw [List.map_cons, List.map_nil, jn, jn, hr] at e
    cases b <;> simp at e
  | s :: ss, [], b, h1, _, e => by
    obtain ⟨r, hr, _⟩ := qs_form s (h1 s (.head _))
    rw [List.map_cons, List.map_nil, jn, jn, hr] at e
    cases b <;> simp at e
  | s :: ss, t :: tt, b, h1, h2, e => by
    obtain ⟨r, hr, _⟩ := qs_form s (h1 s (.head _))
    obtain ⟨r', hr', _⟩ := qs_form t (h2 t (.head _))
    rw [List.map_cons, List.map_cons, jn, jn, List.append_assoc, List.append_assoc] at e
    have e := List.append_cancel_left e
    have hst : s = t := by
      refine qc_inj s (h1 s (.head _)) t (h2 t (.head _)) ?_
      rw [hr, hr'] at e
      simp at e
      exact e.1
    subst hst
    have e := List.append_cancel_left e
    rw [jn_inj ss tt false (fun x hx => h1 x (.tail _ hx)) (fun x hx => h2 x (.tail _ hx)) e]
theorem jn_len : ∀ (ss : List Nat) (b : Bool), (∀ s ∈ ss, s < 7) → (jn b (ss.map qs)).length ≤ 1 + 9 * ss.length
  | [], b, _ => by simp [jn]
  | s :: ss, b, h => by
    obtain ⟨r, hr, hl⟩ := qs_form s (h s (.head _))
    have := jn_len ss false fun x hx => h x (.tail _ hx)
    rw [List.map_cons, jn, List.length_append, List.length_append, hr]
    simp only [List.length_cons]
    cases b <;> simp <;> omega
theorem showL_len {ss : List Nat} (h : ∀ s ∈ ss, s < 7) (hz : ss.length ≤ 4) : (showL (ss.map told)).length ≤ 100 := by
  have e := congrArg List.length (showL_jn (ss.map told))
  rw [List.map_map] at e
  have := jn_len ss true h
  show (showL (ss.map told)).cps.size ≤ 100
  rw [Array.length_toList] at e
  rw [e, List.length_cons]
  have h2 : (jn true (ss.map ((fun y => (reprText y).cps.toList) ∘ told))).length ≤ 1 + 9 * ss.length := this
  omega
theorem showL_inj {ss tt : List Nat} (h1 : ∀ s ∈ ss, s < 7) (h2 : ∀ s ∈ tt, s < 7) (e : showL (ss.map told) = showL (tt.map told)) : ss = tt := by
  have e1 : (showL (ss.map told)).cps.toList = (showL (tt.map told)).cps.toList := by rw [e]
  rw [showL_jn, showL_jn, List.map_map, List.map_map] at e1
  exact jn_inj ss tt true h1 h2 (List.cons.inj e1).2
theorem keyS_inj {r r' : Rl} (h1 : r.1 < 3) (h2 : r'.1 < 3) (h3 : ∀ s ∈ r.2, s < 7) (h4 : ∀ s ∈ r'.2, s < 7) (e : keyS r = keyS r') : r = r' := by
  have e1 := congrArg (fun x : Str => x.cps.toList) e
  dsimp only [keyS] at e1
  simp only [Str.cps_append, Array.toList_append] at e1
  have one : ∀ i < 3, ∃ c, (told i).cps.toList = [c] := fun i hi => by
    have : i = 0 ∨ i = 1 ∨ i = 2 := by omega
    rcases this with rfl | rfl | rfl <;> exact ⟨_, rfl⟩
  obtain ⟨c, hc⟩ := one r.1 h1
  obtain ⟨c', hc'⟩ := one r'.1 h2
  have he : Str.empty.cps.toList = [] := rfl
  rw [hc, hc', he] at e1
  simp only [List.nil_append, List.cons_append, List.cons.injEq] at e1
  obtain ⟨e2, e3⟩ := e1
  have e3 := List.append_cancel_left e3
  have hl : told r.1 = told r'.1 := by
    have : (told r.1).cps = (told r'.1).cps := by rw [← Array.toArray_toList (xs := (told r.1).cps), ← Array.toArray_toList (xs := (told r'.1).cps), hc, hc', e2]
    exact Str.ext' this
  have hL : showL (r.2.map told) = showL (r'.2.map told) := by
    refine Str.ext' ?_
    rw [← Array.toArray_toList (xs := (showL (r.2.map told)).cps), ← Array.toArray_toList (xs := (showL (r'.2.map told)).cps), e3]
  exact Prod.ext (told_inj _ (by omega) _ (by omega) hl) (showL_inj h3 h4 hL)
end Mine

namespace Mine
open PySem PySem.Challenge
local macro_rules | `(tactic| walk_at "ms") => `(tactic| first | assumption | exact mset_self | (refine (mset_ne (by decide)).trans ?_; walk_at "ms"))

/-! symbols on the way from given to told -/
def mixL (ss : List Nat) (i : Nat) : List Str := (ss.take i).map told ++ (ss.drop i).map given
theorem mixL_get {ss : List Nat} {i s : Nat} (h : ss[i]? = some s) : (mixL ss i)[i]? = some (given s) := by
  have hi := (List.getElem?_eq_some_iff.mp h).1
  unfold mixL
  rw [List.getElem?_append_right (by simp; omega)]
  simp only [List.length_map, List.length_take, Nat.min_eq_left (Nat.le_of_lt hi), Nat.sub_self, List.getElem?_map, List.getElem?_drop, Nat.add_zero, h, Option.map_some]
theorem mixL_step {ss : List Nat} {i s : Nat} (h : ss[i]? = some s) : mixL ss (i + 1) = (mixL ss i).set i (told s) := by
  have hi := (List.getElem?_eq_some_iff.mp h).1
  have hd : ss.drop i = s :: ss.drop (i + 1) := by
    rw [List.drop_eq_getElem_cons hi]
    have : ss[i] = s := by rw [List.getElem?_eq_getElem hi] at h; exact Option.some.inj h
    rw [this]
  unfold mixL
  rw [List.take_add_one, h, hd]
  simp only [Option.toList_some, List.map_append, List.map_cons, List.map_nil]
  have hl : ((ss.take i).map told).length = i := by simp; omega
  rw [List.set_append_right _ _ (by rw [hl]; exact Nat.le_refl _), hl, Nat.sub_self, List.set_cons_zero, List.append_assoc]
  rfl
theorem set_same {α : Type} : ∀ {xs : List α} {i : Nat} {x : α}, xs[i]? = some x → xs.set i x = xs
  | [], i, x, e => by simp at e
  | y :: r, 0, x, e => by simp at e; rw [e]; rfl
  | y :: r, i + 1, x, e => by rw [List.set_cons_succ, set_same (by simpa using e)]
theorem mixL_same {ss : List Nat} {i s : Nat} (h : ss[i]? = some s) (e : given s = told s) : mixL ss (i + 1) = mixL ss i := by
  rw [mixL_step h, ← e]
  exact set_same (mixL_get h)
theorem StrsAre.set' : ∀ {vs : List Value} {ys : List Str} (i : Nat) (y : Str) (t : Tok), StrsAre vs ys → StrsAre (vs.set i (.str y t)) (ys.set i y)
  | _, _, _, _, _, .nil => .nil
  | _, _, 0, y, t, .cons a b h => .cons y t h
  | _, _, i + 1, y, t, .cons a b h => .cons a b (StrsAre.set' i y t h)
theorem termK_b (rs : List Rl) (a : Nat) (ss : List Nat) : termK (rs ++ [(a, ss)]) = if (rs.any (fun r => r.2.contains 5) || ss.contains 5) = true then (["a", "b", "error", "+"] : List Str) else ["a", "b", "error"] := by
  unfold termK
  simp only [List.any_append, List.any_cons, List.any_nil, Bool.or_false]
theorem termK_no {rs : List Rl} {a : Nat} {ss : List Nat} {s : Nat} (h : s ≠ 5) : termK (rs ++ [(a, ss ++ [s])]) = termK (rs ++ [(a, ss)]) := by
  rw [termK_b, termK_b]
  have : (ss ++ [s]).contains 5 = ss.contains 5 := by
    rw [Bool.eq_iff_iff, List.contains_iff_mem, List.contains_iff_mem, List.mem_append, List.mem_singleton]
    constructor
    · rintro (q | q)
      · exact q
      · exact absurd q.symm h
    · exact .inl
  rw [this]
theorem termK_yes {rs : List Rl} {a : Nat} {ss : List Nat} : termK (rs ++ [(a, ss ++ [5])]) = if told 5 ∈ termK (rs ++ [(a, ss)]) then termK (rs ++ [(a, ss)]) else termK (rs ++ [(a, ss)]) ++ [told 5] := by
  rw [termK_b, termK_b]
  have : (ss ++ [5]).contains 5 = true := by rw [List.contains_iff_mem]; simp
  rw [this, Bool.or_true, if_pos rfl]
  cases (rs.any (fun r => r.2.contains 5) || ss.contains 5) with
  | true => rw [if_pos rfl, if_pos (by decide +kernel)]
  | false => rw [if_neg (by decide), if_neg (by decide +kernel)]; rfl
theorem termK_nil (rs : List Rl) (a : Nat) : termK (rs ++ [(a, [])]) = termK rs := by
  rw [termK_b]
  unfold termK
  rw [show ([] : List Nat).contains 5 = false from rfl, Bool.or_false]
end Mine

namespace Mine
open PySem PySem.Challenge
local macro_rules | `(tactic| walk_at "ms") => `(tactic| first | assumption | exact mset_self | (refine (mset_ne (by decide)).trans ?_; walk_at "ms"))

/-- the names that stay through add_production -/
structure AN (gx sy : Addr) (nm : Str) (tn : Tok) (m : Fm) : Prop where
  self : m "self" = some (.ref gx)
  pn : m "prodname" = some (.str nm tn)
  syms : m "syms" = some (.ref sy)
  fn : m "func" = some .none
  fl : m "file" = some (.str "" 395)
  ln : m "line" = some (.int 0 396)
theorem AN.set {gx sy : Addr} {nm : Str} {tn : Tok} {m : Fm} (h : AN gx sy nm tn m) {x : Str} {v : Value} (hx : x ∉ (["self", "prodname", "syms", "func", "file", "line"] : List Str) := by decide) : AN gx sy nm tn (mset m x v) := by
  simp only [List.mem_cons, List.not_mem_nil, or_false, not_or] at hx
  obtain ⟨h1, h2, h3, h4, h5, h6⟩ := hx
  exact ⟨(mset_ne (Ne.symm h1)).trans h.self, (mset_ne (Ne.symm h2)).trans h.pn, (mset_ne (Ne.symm h3)).trans h.syms, (mset_ne (Ne.symm h4)).trans h.fn, (mset_ne (Ne.symm h5)).trans h.fl, (mset_ne (Ne.symm h6)).trans h.ln⟩
noncomputable def stmtAt (st : Stmt) (i : Nat) : Stmt := ((bodyOf st)[i]?).getD (.Pass ⟨0, 0, 0, 0⟩)
def Ok1 (r : Rl) : Prop := r.1 < 3 ∧ r.2.length ≤ 4 ∧ ∀ s ∈ r.2, s < 7
theorem name_noterm {rs : List Rl} : ∀ i < 3, told i ∉ termK rs := fun i hi => by
  unfold termK
  have : i = 0 ∨ i = 1 ∨ i = 2 := by omega
  split <;> rcases this with rfl | rfl | rfl <;> decide +kernel

section
variable {C C' : Cx} {m m' : Fm} {N N' R : Hp} {a l d x dx Cl : Addr} {k n c : Nat} {vs : List Value} {at' : Fm} {tag tag' : Addr → Nat} {w : World} {g : Gr} {rs : List Rl} {ks : List Str} {B : Nat} {r : Rl} {sy : Addr} {tn : Tok}
/-- the loop over the given symbols -/
def AddJ (w : World) (tag : Addr → Nat) (N : Hp) (g : Gr) (rs : List Rl) (B : Nat) (r : Rl) (sy : Addr) (tn : Tok) (i : Nat) (m' : Fm) (N' : Hp) : Prop :=
  AN g.x sy (told r.1) tn m' ∧ ∃ tag' vsi ci, Ext (fun t => t = 5 ∨ t = 99) tag N tag' N' ∧ JunkD w tag' N' g.te 5 (termK (rs ++ [(r.1, r.2.take i)])) B ∧ Cell tag' N' 99 sy (lst vsi ci) ∧ StrsAre vsi (mixL r.2 i)
set_option maxHeartbeats 1600000 in
theorem add_loop {cdA f : Addr} (hC' : Callee C "Grammar.add_production" (SM 9 4) f cdA C' (k + 2)) (hg : GA C'.w tag N g rs ks B) (ok : Ok1 r) (hB : B ≤ 100000) (hm : AN g.x sy (told r.1) tn m) (hsy : Cell tag N 99 sy (lst vs n)) (hs : StrsAre vs (r.2.map given)) :
    Run C' (exec (stmtAt (SM 9 4) 3) C'.env) m N fun fl m' N' => fl = .next ∧ AddJ C'.w tag N g rs B r sy tn r.2.length m' N' := by
  have fe := callee_env hC' (by kernel_rfl)
  have k0 : C'.env.kindOf "self" = some .local := callee_kind hC' (by kernel_rfl)
  have k2 : C'.env.kindOf "syms" = some .local := callee_kind hC' (by kernel_rfl)
  have k3 : C'.env.kindOf "n" = some .local := callee_kind hC' (by kernel_rfl)
  have k4 : C'.env.kindOf "s" = some .local := callee_kind hC' (by kernel_rfl)
  have k5 : C'.env.kindOf "c" = some .local := callee_kind hC' (by kernel_rfl)
  have g1 : C'.env.kindOf "_is_identifier" = some .globalImplicit := callee_kind hC' (by kernel_rfl)
  have g2 : C'.env.kindOf "enumerate" = some .globalImplicit := callee_kind hC' (by kernel_rfl)
  have g3 : C'.env.kindOf "_literal" = some .globalImplicit := callee_kind hC' (by kernel_rfl)
  have g4 : C'.env.kindOf "len" = some .globalImplicit := callee_kind hC' (by kernel_rfl)
  have hA := hC'.1
  have hh := hA.handled
  obtain ⟨at', ca, hi, hca, hat⟩ := hg.inst
  have hvl : vs.length = r.2.length := by have := StrsAre.len hs; rwa [List.length_map] at this
  have mlen : ∀ i, (mixL r.2 i).length = r.2.length := fun i => by unfold mixL; simp; omega
  obtain ⟨ok1, ok2, ok3⟩ := ok
  with_unfolding_all refine r_forEnum ek_list fe hA k3 k4 g2 (by kernel_rfl) (r_name fe k2 hm.syms ⟨sy, r.2.length, rfl, AddJ C'.w tag N g rs B r sy tn, ⟨hm, tag, vs, n, Ext.refl, by rw [List.take_zero, termK_nil]; exact hg.te, hsy, by unfold mixL; simpa using hs⟩, ?_, ?_, ?_⟩)
  · rintro i m' N' ⟨_, tag', vsi, ci, _, _, c, h⟩
    exact ⟨vsi, ci, c.2, by have := StrsAre.len h; rw [mlen] at this; exact this⟩
  · rintro i v t m' N' hlt ⟨an, tag', vsi, ci, E, hj, cs, hsi⟩ ⟨vs', c', e1, e2⟩
    have : vs' = vsi := by
      rw [cs.2] at e1
      have := congrArg Obj.data (Option.some.inj e1)
      injection this with z _
      exact (List.toArray_inj z).symm
    subst this
    obtain ⟨y, ty, rfl, hy⟩ := strs_at hsi e2
    have hsx : r.2[i]? = some r.2[i] := List.getElem?_eq_getElem hlt
    generalize r.2[i] = s at hsx
    have hs7 := ok3 s (List.mem_of_getElem? hsx)
    have hyg : y = given s := by rw [mixL_get hsx] at hy; exact (Option.some.inj hy).symm
    subst hyg
    have hlen : vs'.length = r.2.length := by have := StrsAre.len hsi; rw [mlen] at this; exact this
    have htk : r.2.take (i + 1) = r.2.take i ++ [s] := by rw [List.take_add_one, hsx]; rfl
    have i' := hi.ext E (by decide) (by decide)
    have an' := (an.set (x := "n") (v := .int i t)).set (x := "s") (v := .str (given s) ty)
    refine r_cons (r_ifS (r_tCmp (r_sub (r_name fe k4 mset_self (r_int fun t1 => ⟨hi_str, r_strItem (by decide) (given_len s hs7) fun t2 => r_str fun t3 => r_strIn (r_tBool ?_)⟩)))))
    rw [show (Str.ofString "'\"") = ("'\"" : Str) from rfl, given_quote s hs7]
    by_cases h5 : s = 5
    · subst h5
      rw [if_pos (by decide)]
      refine r_one (r_tryOk (r_cons (r_assign fe k5 (r_callName (r_global (v := .ref 46) fe hA g3 (by kernel_rfl) ⟨kf_ref hA (by kernel_rfl), r_splCons (r_name fe k4 mset_self (r_splNil (literal_call hA fun N1 tc L1 => ?_)))⟩)))))
      have E1 : Ext (fun t => t = 5 ∨ t = 99) tag N tag' N1 := E.trans (Ext.le L1)
      have i1 := hi.ext E1 (by decide) (by decide)
      have hj1 : JunkD C'.w tag' N1 g.te 5 (termK (rs ++ [(r.1, r.2.take i)])) B := hj.ext (T := fun _ => False) (Ext.le L1) (fun q => q) (fun q => q)
      have cs1 : Cell tag' N1 99 sy (lst vs' ci) := ⟨cs.1, L1 _ _ cs.2⟩
      have an1 := an'.set (x := "c") (v := .str "+" tc)
      have hc : mset (mset (mset m' "n" (.int (i : Int) t)) "s" (.str (given 5) ty)) "c" (.str "+" tc) "c" = some (.str "+" tc) := mset_self
      have hnm : mset (mset (mset m' "n" (.int (i : Int) t)) "s" (.str (given 5) ty)) "c" (.str "+" tc) "n" = some (.int (i : Int) t) := by walk_at "ms"
      refine r_genm (fun m => AN g.x sy (told r.1) tn m ∧ m "c" = some (.str "+" tc) ∧ m "n" = some (.int (i : Int) t)) ⟨an1, hc, hnm⟩ fun m1 ⟨an1, hc, hnm⟩ => ?_
      refine r_cons (r_ifS (r_tCmp (r_callName (r_builtin fe hA g4 (by kernel_rfl) PyProof.Rows.Boot.«len» (by decide) ⟨kf_builtin, r_splCons (r_name fe k5 hc (r_splNil (r_strLen (by decide) fun t1 => r_int fun t2 => r_gtInt (r_tBool ?_))))⟩))))
      rw [if_neg (by decide)]
      refine r_nil ?_
      have hK5 : told 5 = "+" := rfl
      refine r_consM (fun m' N' => m' = m1 ∧ ∃ tag₂, Ext (fun t => t = 5 ∨ t = 99) tag N tag₂ N' ∧ JunkD C'.w tag₂ N' g.te 5 (termK (rs ++ [(r.1, r.2.take (i + 1))])) B ∧ Cell tag₂ N' 99 sy (lst vs' ci)) ?_ ?_
      · obtain ⟨ote, kte, cte, dte, hkt, hvt⟩ := id hj1
        refine r_ifS (r_tCmp (r_name fe k5 hc (r_selfAt fe hA k0 (by kernel_rfl) an1.self i1.2.2 hat.te rfl (r_dictNotIn cte.2 dte (r_tBool ?_)))))
        rw [valueAt_isSome, hkt, show Str.ofString "+" = told 5 from rfl]
        by_cases hin : told 5 ∈ termK (rs ++ [(r.1, r.2.take i)])
        · rw [if_neg (by simp only [Bool.not_eq_true']; rw [decide_eq_true hin]; decide)]
          refine r_nil ⟨rfl, rfl, tag', E1, ?_, cs1⟩
          rw [htk, termK_yes, if_pos hin]; exact hj1
        · rw [if_pos (by rw [decide_eq_false hin]; rfl)]
          refine r_one (r_addList (y := told 5) rfl (by decide) hj1 hin (by unfold termK; split <;> decide) (fun l N₁ P hl e hP => ?_) (fun l N₁ P e hP => r_name fe k5 hc (hP _)) fun tag₁ N₂ hj₁ E₁ => ⟨rfl, rfl, tag₁, E1.trans (E₁.mono fun t h => .inl h), ?_, E₁ _ _ _ (by decide) cs1⟩)
          · subst e
            exact r_selfAt fe hA k0 (by kernel_rfl) an1.self (i1.2.2.le (Le.upd hl)) hat.te rfl hP
          · rw [htk, termK_yes, if_neg hin]; exact hj₁
      rintro m2 N2 ⟨rfl, tag₂, E2, hj2, cs2⟩
      refine r_cons (r_assignSub (r_name fe k5 hc (r_name fe k2 an1.syms (r_name fe k3 hnm (r_listSet cs2.2 rfl (by omega) (by omega) ?_)))))
      refine r_one (r_contS ?_)
      refine ⟨an1, tag₂, _, ci, E2.trans (Ext.upd cs2 (.inr rfl)), hj2.ext (T := (· = 99)) (Ext.upd cs2 rfl) (by decide) (by decide), ⟨cs2.1, upd_self⟩, ?_⟩
      rw [mixL_step hsx]
      exact StrsAre.set' i (told 5) tc hsi
    · rw [if_neg (by simpa using h5)]
      refine r_nil ?_
      have hgt := given_told s hs7 h5
      refine r_one (r_ifS (r_tAnd (r_tNot (r_tPlain (r_callName (r_global (v := .ref 39) fe hA g1 (by kernel_rfl) ⟨kf_ref hA (by kernel_rfl), r_splCons (r_name fe k4 mset_self (r_splNil (ident_call hA (by rw [hgt]; exact told_id s hs7 h5) fun N1 L1 => r_tBool ?_)))⟩))))))
      rw [if_neg (by decide), if_neg (by decide)]
      refine r_nil ⟨an', tag', vs', ci, E.trans (Ext.le L1), ?_, ⟨cs.1, L1 _ _ cs.2⟩, ?_⟩
      · rw [htk, termK_no h5]
        exact hj.ext (T := fun _ => False) (Ext.le L1) (fun q => q) (fun q => q)
      · rw [mixL_same hsx hgt]; exact hsi
  · rintro m' N' h
    exact r_nil ⟨rfl, h⟩
end
end Mine

namespace Mine
open PySem PySem.Challenge
local macro_rules | `(tactic| walk_at "ms") => `(tactic| first | assumption | exact mset_self | (refine (mset_ne (by decide)).trans ?_; walk_at "ms"))

section
variable {C C' : Cx} {m m' : Fm} {N N' R : Hp} {a l d x dx Cl : Addr} {k n c : Nat} {vs : List Value} {at' : Fm} {tag tag' : Addr → Nat} {w : World} {g : Gr} {rs : List Rl} {ks : List Str} {B : Nat} {r : Rl} {sy : Addr} {tn : Tok}
theorem nodup_len {α : Type} [BEq α] [LawfulBEq α] : ∀ {l l' : List α}, l.Nodup → (∀ x ∈ l, x ∈ l') → l.length ≤ l'.length
  | [], _, _, _ => Nat.zero_le _
  | x :: r, l', hn, hs => by
    rw [List.nodup_cons] at hn
    have hx := hs x (.head _)
    have := nodup_len (l := r) (l' := l'.erase x) hn.2 fun y hy => (List.mem_erase_of_ne (show y ≠ x from fun z => hn.1 (z ▸ hy))).mpr (hs y (.tail _ hy))
    rw [List.length_erase_of_mem hx] at this
    have := List.length_pos_of_mem hx
    rw [List.length_cons]
    omega
/-- the known names only grow -/
structure KsOk (ks ks' : List Str) (ss : List Nat) : Prop where
  nd : ks'.Nodup
  inn : ∀ y ∈ ks', ∃ i < 3, y = told i
  sub : ∀ y ∈ ks, y ∈ ks'
  all : ∀ s ∈ ss, s < 3 → told s ∈ ks'
theorem KsOk.len {ks ks' : List Str} {ss : List Nat} (h : KsOk ks ks' ss) : ks'.length ≤ 3 := by
  exact nodup_len (l' := [told 0, told 1, told 2]) h.nd fun y hy => by
    obtain ⟨i, hi, rfl⟩ := h.inn y hy
    have : i = 0 ∨ i = 1 ∨ i = 2 := by omega
    rcases this with rfl | rfl | rfl <;> simp
theorem KsOk.add {ks ks' : List Str} {ss : List Nat} {s : Nat} (h : KsOk ks ks' ss) (hs : s < 3) (hn : told s ∉ ks') : KsOk ks (ks' ++ [told s]) (ss ++ [s]) := by
  refine ⟨?_, fun y hy => ?_, fun y hy => List.mem_append_left _ (h.sub y hy), fun x hx h3 => ?_⟩
  · rw [List.nodup_append]
    exact ⟨h.nd, by simp, fun x hx y hy => by rw [List.mem_singleton.mp hy]; exact fun z => hn (z ▸ hx)⟩
  · rcases List.mem_append.mp hy with hy | hy
    · exact h.inn y hy
    · exact ⟨s, hs, List.mem_singleton.mp hy⟩
  · rcases List.mem_append.mp hx with hx | hx
    · exact List.mem_append_left _ (h.all x hx h3)
    · rw [List.mem_singleton.mp hx]; simp
theorem KsOk.same {ks ks' : List Str} {ss : List Nat} {s : Nat} (h : KsOk ks ks' ss) (hn : s < 3 → told s ∈ ks') : KsOk ks ks' (ss ++ [s]) :=
  ⟨h.nd, h.inn, h.sub, fun x hx h3 => by
    rcases List.mem_append.mp hx with hx | hx
    · exact h.all x hx h3
    · rw [List.mem_singleton.mp hx] at h3 ⊢; exact hn h3⟩
def T3 (t : Nat) : Prop := t = 5 ∨ t = 6 ∨ t = 10
def SymJ (w : World) (m : Fm) (tag : Addr → Nat) (N : Hp) (g : Gr) (K : List Str) (ks : List Str) (B : Nat) (ss : List Nat) (i : Nat) (m' : Fm) (N' : Hp) : Prop :=
  (∀ y, y ≠ ("t" : Str) → m' y = m y) ∧ ∃ tag' ks', Ext T3 tag N tag' N' ∧ JunkD w tag' N' g.te 5 K (B + i) ∧ JunkD w tag' N' g.nt 6 ks' (B + i) ∧ KsOk ks ks' (ss.take i)
set_option maxHeartbeats 1600000 in
theorem sym_loop {cdA f : Addr} {ss : List Nat} {K : List Str} {pv : Value} {ca : Nat} (hC' : Callee C "Grammar.add_production" (SM 9 4) f cdA C' (k + 2)) (hi : InstT tag N 1 g.x g.dx 248 at' ca) (hat : GrAt at' g) (hte : JunkD C'.w tag N g.te 5 K B) (hnt : JunkD C'.w tag N g.nt 6 ks B) (hks : KsOk ks ks [])
    (hB : B ≤ 100000) (hss : ss.length ≤ 4) (h7 : ∀ s ∈ ss, s < 7) (hK : ∀ s ∈ ss, told s ∈ K ↔ 3 ≤ s) (e0 : m "self" = some (.ref g.x)) (e2 : m "syms" = some (.ref sy)) (e3 : m "pnumber" = some pv) (hsy : Cell tag N 99 sy (lst vs n)) (hs : StrsAre vs (ss.map told)) :
    Run C' (exec (stmtAt (SM 9 4) 9) C'.env) m N fun fl m' N' => fl = .next ∧ SymJ C'.w m tag N g K ks B ss ss.length m' N' := by
  have fe := callee_env hC' (by kernel_rfl)
  have k0 : C'.env.kindOf "self" = some .local := callee_kind hC' (by kernel_rfl)
  have k2 : C'.env.kindOf "syms" = some .local := callee_kind hC' (by kernel_rfl)
  have k3 : C'.env.kindOf "pnumber" = some .local := callee_kind hC' (by kernel_rfl)
  have k4 : C'.env.kindOf "t" = some .local := callee_kind hC' (by kernel_rfl)
  have hA := hC'.1
  have hh := hA.handled
  have hvl : vs.length = ss.length := by have := StrsAre.len hs; rwa [List.length_map] at this
  with_unfolding_all refine r_for hh (r_name fe k2 e2 ⟨_, _, _, itb_list hsy.2, SymJ C'.w m tag N g K ks B ss, ⟨fun y _ => rfl, tag, ks, Ext.refl, hte, hnt, hks⟩, ?_, ?_, ?_⟩)
  · intro b hb
    rw [List.mem_singleton.mp hb]
    exact ⟨_, fun i m N' h => by obtain ⟨_, tag', ks', E, _⟩ := h; exact (E _ _ _ (by unfold T3; decide) hsy).2⟩
  · rintro i v m' N' hlt hv ⟨hm, tag', ks', E, jte, jnt, hko⟩
    obtain ⟨y, ty, rfl, hy⟩ := strs_at hs hv
    rw [List.getElem?_map] at hy
    obtain ⟨s, hsx, rfl⟩ := Option.map_eq_some_iff.mp hy
    have hsm := List.mem_of_getElem? hsx
    have hs7 := h7 s hsm
    have htk : ss.take (i + 1) = ss.take i ++ [s] := by rw [List.take_add_one, hsx]; rfl
    have i' := hi.ext E (by unfold T3; decide) (by unfold T3; decide)
    have hm' : ∀ y, y ≠ ("t" : Str) → mset m' "t" (.str (told s) ty) y = m y := fun y hy => by rw [mset_ne hy]; exact hm y hy
    have es := (hm' "self" (by decide)).trans e0
    have ep := (hm' "pnumber" (by decide)).trans e3
    refine r_asName fe k4 ?_
    generalize hmm : mset m' "t" (.str (told s) ty) = m1 at hm' es ep
    have et : m1 "t" = some (.str (told s) ty) := by rw [← hmm]; exact mset_self
    clear hmm
    obtain ⟨ote, kte, cte, dte, hkt, hvt⟩ := id jte
    -- the appending, to any of the lists
    have app : ∀ tag₁ ks₁ N₁ l us c, Ext T3 tag N tag₁ N₁ → JunkD C'.w tag₁ N₁ g.te 5 K (B + i) → JunkD C'.w tag₁ N₁ g.nt 6 ks₁ (B + i) → KsOk ks ks₁ (ss.take (i + 1)) → Cell tag₁ N₁ 10 l (lst us c) → us.length ≤ B + i → ∀ n', SymJ C'.w m tag N g K ks B ss (i + 1) m1 (upd N₁ l (lst (us ++ [pv]) n')) :=
      fun tag₁ ks₁ N₁ l us c E₁ j₁ j₂ hk₁ cl hz n' => ⟨hm', tag₁, ks₁, E₁.trans (Ext.upd cl (by unfold T3; decide)), j₁.bump (by decide) cl hz, j₂.bump (by decide) cl hz, hk₁⟩
    refine r_one (r_ifS (r_tCmp (r_name fe k4 et (r_selfAt fe hA k0 (by kernel_rfl) es i'.2.2 hat.te rfl (r_dictIn cte.2 dte (r_tBool ?_))))))
    rw [valueAt_isSome, hkt]
    by_cases h3 : 3 ≤ s
    · have hin := (hK s hsm).mpr h3
      rw [if_pos (decide_eq_true hin)]
      obtain ⟨v, hv⟩ := Option.isSome_iff_exists.mp (valueAt_some_iff.mpr (by rw [hkt]; exact hin))
      obtain ⟨l, us, c, rfl, cl, hz⟩ := hvt _ _ hv
      refine r_one (r_exprS fe (r_mcall (r_sub (r_selfAt fe hA k0 (by kernel_rfl) es i'.2.2 hat.te rfl (r_name fe k4 et ⟨hi_dict cte.2 dte, r_dictGet cte.2 dte hv ⟨_, _, gm_list cl.2 PySem.F.slot_list_append PySem.F.type_list_append, kf_builtin, r_splCons (r_name fe k3 ep (r_splNil (r_append cl.2 (by omega) fun n' => ?_)))⟩⟩)))))
      exact ⟨fun a z => (nomatch z), app tag' ks' N' l us c E jte jnt (by rw [htk]; exact hko.same fun q => absurd q (by omega)) cl hz n'⟩
    · have hin : told s ∉ K := fun q => h3 ((hK s hsm).mp q)
      rw [if_neg (by simpa using hin)]
      obtain ⟨ont, knt, cnt, dnt, hkn, hvn⟩ := id jnt
      refine r_consM (fun m₂ N₂ => m₂ = m1 ∧ ∃ tag₁ ks₁, Ext T3 tag N tag₁ N₂ ∧ JunkD C'.w tag₁ N₂ g.te 5 K (B + i) ∧ JunkD C'.w tag₁ N₂ g.nt 6 ks₁ (B + i) ∧ KsOk ks ks₁ (ss.take (i + 1)) ∧ told s ∈ ks₁) ?_ ?_
      · refine r_ifS (r_tCmp (r_name fe k4 et (r_selfAt fe hA k0 (by kernel_rfl) es i'.2.2 hat.nt rfl (r_dictNotIn cnt.2 dnt (r_tBool ?_)))))
        rw [valueAt_isSome, hkn]
        by_cases hk : told s ∈ ks'
        · rw [if_neg (by rw [decide_eq_true hk]; decide)]
          exact r_nil ⟨rfl, rfl, tag', ks', E, jte, jnt, by rw [htk]; exact hko.same fun _ => hk, hk⟩
        · rw [if_pos (by rw [decide_eq_false hk]; rfl)]
          refine r_one (r_addList (y := told s) rfl (by decide) jnt hk (by have := hko.len; omega) (fun l N₁ P hl e hP => ?_) (fun l N₁ P e hP => r_name fe k4 et (hP _)) fun tag₁ N₂ hj₁ E₁ => ⟨rfl, rfl, tag₁, ks' ++ [told s], E.trans (E₁.mono fun t h => .inr (.inl h)), jte.ext E₁ (by decide) (by decide), hj₁, by rw [htk]; exact hko.add (by omega) hk, by simp⟩)
          subst e
          exact r_selfAt fe hA k0 (by kernel_rfl) es (i'.2.2.le (Le.upd hl)) hat.nt rfl hP
      rintro m₂ N₂ ⟨rfl, tag₁, ks₁, E₁, j₁, j₂, hk₁, hmem⟩
      have i₂ := hi.ext E₁ (by unfold T3; decide) (by unfold T3; decide)
      obtain ⟨ont, knt, cnt, dnt, hkn, hvn⟩ := id j₂
      obtain ⟨v, hv⟩ := Option.isSome_iff_exists.mp (valueAt_some_iff.mpr (by rw [hkn]; exact hmem))
      obtain ⟨l, us, c, rfl, cl, hz⟩ := hvn _ _ hv
      refine r_one (r_exprS fe (r_mcall (r_sub (r_selfAt fe hA k0 (by kernel_rfl) es i₂.2.2 hat.nt rfl (r_name fe k4 et ⟨hi_dict cnt.2 dnt, r_dictGet cnt.2 dnt hv ⟨_, _, gm_list cl.2 PySem.F.slot_list_append PySem.F.type_list_append, kf_builtin, r_splCons (r_name fe k3 ep (r_splNil (r_append cl.2 (by omega) fun n' => ?_)))⟩⟩)))))
      exact ⟨fun a z => (nomatch z), app tag₁ ks₁ N₂ l us c E₁ j₁ j₂ hk₁ cl hz n'⟩
  · rw [hvl]
    exact fun m' N' h => r_nil ⟨rfl, h⟩
end
end Mine

namespace Mine
open PySem PySem.Challenge
local macro_rules | `(tactic| walk_at "ms") => `(tactic| first | assumption | exact mset_self | (refine (mset_ne (by decide)).trans ?_; walk_at "ms"))

theorem Ext.le3 {T : Nat → Prop} {tag : Addr → Nat} {N N' : Hp} {a b c : Addr} {t : Nat} (h : Le N N') (ha : N a = none) (hb : N b = none) (hc : N c = none) : Ext T tag N (tset (tset (tset tag a t) b t) c t) N' := fun t' z o _ cz => by
  have q1 : z ≠ a := fun q => by have := cz.2; rw [q, ha] at this; cases this
  have q2 : z ≠ b := fun q => by have := cz.2; rw [q, hb] at this; cases this
  have q3 : z ≠ c := fun q => by have := cz.2; rw [q, hc] at this; cases this
  exact ⟨by unfold tset; rw [if_neg q3, if_neg q2, if_neg q1]; exact cz.1, h _ _ cz.2⟩
theorem ProdNew.at {N N' : Hp} {tag : Addr → Nat} {v : Value} {nm : Str} {ys : List Str} (hl : Le N N') (h : ProdNew N N' v nm ys) : ∃ tag', Ext (fun _ => False) tag N tag' N' ∧ ProdF tag' N' v nm ys := by
  obtain ⟨x, dx, at', c, pt, vs, h1, h2, h3, e, i, h4, h5, h6, h7⟩ := h
  have s1 : ∀ b, b = x ∨ b = dx ∨ b = pt → tset (tset (tset tag x 0) dx 0) pt 0 b = 0 := fun b hb => by
    unfold tset
    split
    · rfl
    · split
      · rfl
      · split
        · rfl
        · rename_i q1 q2 q3
          rcases hb with hb | hb | hb
          · exact absurd hb q3
          · exact absurd hb q2
          · exact absurd hb q1
  exact ⟨_, Ext.le3 hl h1 h2 h3, x, dx, at', c, pt, vs, e, ⟨s1 _ (.inl rfl), s1 _ (.inr (.inl rfl)), i⟩, h4, h5, ⟨s1 _ (.inr (.inr rfl)), h6⟩, h7⟩
theorem told_term {ss : List Nat} {rs : List Rl} {a : Nat} (h7 : ∀ s ∈ ss, s < 7) : ∀ s ∈ ss, told s ∈ termK (rs ++ [(a, ss)]) ↔ 3 ≤ s := fun s hs => by
  have h := h7 s hs
  rw [termK_b]
  have base : ∀ s < 7, s ≠ 5 → (told s ∈ (["a", "b", "error"] : List Str) ↔ 3 ≤ s) ∧ (told s ∈ (["a", "b", "error", "+"] : List Str) ↔ 3 ≤ s) := lt7 (by decide +kernel)
  by_cases h5 : s = 5
  · subst h5
    have : ss.contains 5 = true := List.contains_iff_mem.mpr hs
    rw [this, Bool.or_true, if_pos rfl]
    exact ⟨fun _ => by decide, fun _ => by decide +kernel⟩
  · split
    · exact (base s h h5).2
    · exact (base s h h5).1
section
variable {C C' : Cx} {m m' : Fm} {N N' R : Hp} {a l d x dx Cl : Addr} {k n c : Nat} {vs : List Value} {at' : Fm} {tag tag' : Addr → Nat} {w : World} {g : Gr} {rs : List Rl} {ks : List Str} {B : Nat} {r : Rl} {sy : Addr} {tn : Tok}
def AddP (w : World) (tag : Addr → Nat) (N : Hp) (g : Gr) (rs : List Rl) (B : Nat) (r : Rl) (v : Value) (N' : Hp) : Prop := v = .none ∧ ∃ tag' ks', GA w tag' N' g (rs ++ [r]) ks' (B + 10) ∧ Ext (· ≠ 0) tag N tag' N'
theorem pn_filter {rs : List Rl} {r : Rl} {i : Nat} : (rs ++ [r]).filter (·.1 == i) = rs.filter (·.1 == i) ++ (if r.1 = i then [r] else []) := by
  rw [List.filter_append]
  congr 1
  by_cases h : r.1 = i
  · rw [if_pos h, List.filter_cons, if_pos (by simpa using h)]; rfl
  · rw [if_neg h, List.filter_cons, if_neg (by simpa using h)]; rfl
theorem r_getAttrX {n : Str} {v : Value} {ex : Bool} {Q : Value → Fm → Hp → Prop} (hX : (K C.w.params).In C.h₀) (i : Inst N x dx Cl at' c) (hp : plainName (K C.w.params) Cl n = true) (hv : at' n = some v) (hh : handedIn v = true) (q : Q v m N) :
    Run C (getAttr (.ref x) n ex) m N Q := r_of fun R h tk S => by
  obtain ⟨es, c, e1, e2, _, hg⟩ := i
  unfold plainName at hp
  simp only [Bool.and_eq_true, beq_iff_eq] at hp
  obtain ⟨⟨⟨⟨p1, p2⟩, p3⟩, p4⟩, p5⟩ := hp
  exact get_own S.F hX (Inst.at e1 e2 S) p1 p2 p3 rfl (by rw [hg, hv]) hh (Post.intro (tk' := tk + 1) S q)
theorem r_selfAtX {n : Str} {p ps : Pos} {v : Value} {Q : Value → Fm → Hp → Prop} (fe : FEnv C) (hX : (K C.w.params).In C.h₀) (ks : C.env.kindOf "self" = some .local) (hp : plainName (K C.w.params) Cl n = true) (ms : m "self" = some (.ref x)) (hi : Inst N x dx Cl at' c) (hv : at' n = some v) (hh : handedIn v = true)
    (q : Q v m N) (hb : attributeBase (.Name "self" ps) n C.env (eval (.Name "self" ps) C.env) = eval (.Name "self" ps) C.env := by rfl) : Run C (eval (.Attribute (.Name "self" ps) n p) C.env) m N Q :=
  r_attr (r_name fe ks ms (r_getAttrX hX hi hp hv hh q)) hb
set_option maxHeartbeats 4000000 in
theorem add_body {cdA f : Addr} (hC' : Callee C "Grammar.add_production" (SM 9 4) f cdA C' (k + 2)) (hg : GA C'.w tag N g rs ks B) (ok : Ok1 r) (oks : ∀ r' ∈ rs, Ok1 r') (hnew : r ∉ rs) (hB : B ≤ 1000) (hm : AN g.x sy (told r.1) tn m) (hsy : Cell tag N 99 sy (lst vs n)) (hs : StrsAre vs (r.2.map given)) :
    Run C' (execs (bodyOf (SM 9 4)) C'.env) m N (Ret fun v _ N' => AddP C'.w tag N g rs B r v N') := by
  have fe := callee_env hC' (by kernel_rfl)
  have k0 : C'.env.kindOf "self" = some .local := callee_kind hC' (by kernel_rfl)
  have k1 : C'.env.kindOf "prodname" = some .local := callee_kind hC' (by kernel_rfl)
  have k2 : C'.env.kindOf "syms" = some .local := callee_kind hC' (by kernel_rfl)
  have k3 : C'.env.kindOf "pnumber" = some .local := callee_kind hC' (by kernel_rfl)
  have k4 : C'.env.kindOf "precname" = some .local := callee_kind hC' (by kernel_rfl)
  have k5 : C'.env.kindOf "prodprec" = some .local := callee_kind hC' (by kernel_rfl)
  have k6 : C'.env.kindOf "map" = some .local := callee_kind hC' (by kernel_rfl)
  have k7 : C'.env.kindOf "p" = some .local := callee_kind hC' (by kernel_rfl)
  have k8 : C'.env.kindOf "func" = some .local := callee_kind hC' (by kernel_rfl)
  have k9 : C'.env.kindOf "file" = some .local := callee_kind hC' (by kernel_rfl)
  have k10 : C'.env.kindOf "line" = some .local := callee_kind hC' (by kernel_rfl)
  have g1 : C'.env.kindOf "_is_identifier" = some .globalImplicit := callee_kind hC' (by kernel_rfl)
  have g2 : C'.env.kindOf "rightmost_terminal" = some .globalImplicit := callee_kind hC' (by kernel_rfl)
  have g3 : C'.env.kindOf "Production" = some .globalImplicit := callee_kind hC' (by kernel_rfl)
  have g4 : C'.env.kindOf "len" = some .globalImplicit := callee_kind hC' (by kernel_rfl)
  have g5 : C'.env.kindOf "KeyError" = some .globalImplicit := callee_kind hC' (by kernel_rfl)
  have hA := hC'.1
  have hh := hA.handled
  obtain ⟨at', ca, hi, hca, hat⟩ := hg.inst
  obtain ⟨ok1, ok2, ok3⟩ := id ok
  obtain ⟨ote, kte, cte, dte, hkt, hvt⟩ := id hg.te
  have hl1 := told_len r.1 (by omega)
  with_unfolding_all refine r_cons (r_ifS (r_tCmp (r_name fe k1 hm.pn (r_selfAt fe hA k0 (by kernel_rfl) hm.self hi.2.2 hat.te rfl (r_dictIn cte.2 dte (r_tBool ?_))))))
  rw [valueAt_isSome, hkt, if_neg (by simpa using name_noterm r.1 ok1)]
  refine r_nil ?_
  refine r_cons (r_ifS (r_tCmp (r_name fe k1 hm.pn (r_str fun t1 => r_eqStr (r_tBool ?_)))))
  rw [if_neg (by simpa using told_err r.1 ok1)]
  refine r_nil ?_
  refine r_cons (r_ifS (r_tNot (r_tPlain (r_callName (r_global (v := .ref 39) fe hA g1 (by kernel_rfl) ⟨kf_ref hA (by kernel_rfl), r_splCons (r_name fe k1 hm.pn (r_splNil (ident_call hA (told_id r.1 (by omega) (by omega)) fun N0 L0 => r_tBool ?_)))⟩)))))
  rw [if_neg (by decide)]
  refine r_nil ?_
  have X0 : Ext (fun _ => False) tag N tag N0 := Ext.le L0
  have hg0 := hg.keep X0 fun _ _ q => q
  have hsy0 := X0 _ _ _ (fun q => q) hsy
  refine r_cons (r_mono (add_loop hC' hg0 ok (by omega) hm hsy0 hs) ?_)
  rintro fl m1 N1 ⟨rfl, hm1, tag1, vs1, c1, E1, te1, sy1, hs1⟩
  have htake : r.2.take r.2.length = r.2 := List.take_length
  rw [htake] at te1
  have hmix : mixL r.2 r.2.length = r.2.map told := by unfold mixL; rw [htake, List.drop_length]; simp
  rw [hmix] at hs1
  have hv1 : vs1.length = r.2.length := by have := StrsAre.len hs1; rwa [List.length_map] at this
  have i1 := hi.ext X0 (fun q => q) (fun q => q) |>.ext E1 (by decide) (by decide)
  obtain ⟨opr, cpr, dpr⟩ := hg0.pr
  replace cpr := E1 _ _ _ (by decide) cpr
  obtain ⟨ote1, kte1, cte1, dte1, hkt1, hvt1⟩ := id te1
  -- the precedence
  refine r_consM (fun m' N' => AN g.x sy (told r.1) tn m' ∧ (∃ pp, m' "prodprec" = some pp) ∧ ∃ tag', Ext (fun _ => False) tag1 N1 tag' N') (r_ifS (r_tCmp (r_str fun t1 => r_name fe k2 hm1.syms (r_inStrs sy1.2 hs1 (r_tBool ?_))))) ?_
  · have : (r.2.map told).any (· == Str.ofString "%prec") = false := by
      rw [List.any_eq_false]
      intro y hy q
      obtain ⟨s, hs, rfl⟩ := List.mem_map.mp hy
      exact told_prec s (ok3 s hs) (beq_iff_eq.mp q)
    rw [this, if_neg (by decide)]
    refine r_cons (r_assign fe k4 (r_callName (r_global (v := .ref 111) fe hA g2 (by kernel_rfl) ⟨kf_ref hA (by kernel_rfl), r_splCons (r_name fe k2 hm1.syms (r_splCons (r_selfAt fe hA k0 (by kernel_rfl) hm1.self i1.2.2 hat.te rfl (r_splNil (right_call hA sy1.2 hs1 (by omega) cte1.2 dte1 fun v hv => ?_)))))⟩)))
    have hm2 := hm1.set (x := "precname") (v := v)
    refine r_one (r_assign fe k5 (r_mcall (r_selfAt fe hA k0 (by kernel_rfl) hm2.self i1.2.2 hat.pr rfl ⟨_, _, gm_dict cpr.2 dpr PySem.F.slot_dict_get PySem.F.type_dict_get, kf_builtin, r_splCons (r_name fe k4 mset_self (r_splCons (r_tuple (r_splCons (r_str fun t2 => r_splCons (r_int fun t3 => r_splNil (r_newTuple (fun tp htp => ?_) (by show 2 ≤ sizeLine; rw [sizeLine_eq]; omega))))))))⟩)))
    refine r_splNil (r_getEmpty hA (Le.upd htp _ _ cpr.2) dpr hv ?_)
    exact ⟨rfl, hm2.set, ⟨_, mset_self⟩, tset tag1 tp 0, Ext.new htp⟩
  rintro m2 N2 ⟨hm2, ⟨pp, hpp⟩, tag2, E2⟩
  have F2 : Ext (fun t => t = 5 ∨ t = 99) tag N tag2 N2 := (X0.mono (fun _ q => q.elim)).trans (E1.trans (E2.mono fun _ q => q.elim))
  have i2 := i1.ext E2 (fun q => q) (fun q => q)
  have te2 := te1.ext E2 (fun q => q) (fun q => q)
  have sy2 := E2 _ _ _ (fun q => q) sy1
  -- the key
  refine r_cons (r_assign fe k6 (r_joined (rj_cons (r_fmtStr (r_name fe k1 hm2.pn ⟨_, _, rfl, by omega, fun t2 => ?_⟩)))))
  have hsl := showL_len ok3 ok2
  refine ⟨_, _, rfl, by rw [Str.length_append]; show 0 + _ ≤ _; omega, rj_cons (r_str fun t3 => ⟨_, _, rfl, by rw [Str.length_append, Str.length_append]; show 0 + _ + 4 ≤ _; omega, rj_cons (r_fmtList hA (r_name fe k2 hm2.syms ⟨sy, vs1, c1, r.2.map told, rfl, sy2.2, hs1, by omega, fun t4 => ?_⟩))⟩)⟩
  refine ⟨_, _, rfl, by rw [Str.length_append, Str.length_append, Str.length_append]; show 0 + _ + 4 + _ ≤ _; omega, rj_nil ⟨by rw [Str.length_append, Str.length_append, Str.length_append]; show 0 + _ + 4 + _ ≤ _; omega, fun t5 => ?_⟩⟩
  have hm3 := hm2.set (x := "map") (v := .str (keyS r) t5)
  have hpp3 : mset m2 "map" (.str (keyS r) t5) "prodprec" = some pp := by walk_at "ms"
  have hmap3 : mset m2 "map" (.str (keyS r) t5) "map" = some (.str (keyS r) t5) := mset_self
  refine r_genm (fun m => AN g.x sy (told r.1) tn m ∧ m "prodprec" = some pp ∧ m "map" = some (.str (keyS r) t5)) ⟨hm3, hpp3, hmap3⟩ fun m3 ⟨hm3, hpp3, hmap3⟩ => ?_
  clear hm2 hpp hm1
  obtain ⟨opm, kpm, cpm, dpm, zpm, hpm⟩ := hg.pm
  replace cpm := F2 _ _ _ (by decide) cpm
  refine r_cons (r_ifS (r_tCmp (r_name fe k6 hmap3 (r_selfAt fe hA k0 (by kernel_rfl) hm3.self i2.2.2 hat.pm rfl (r_dictIn cpm.2 dpm (r_tBool ?_))))))
  have hnk : (valueAt kpm (keyS r)).isSome = false := by
    rw [hpm, List.any_eq_false]
    intro r' hr' q
    have o' := oks r' hr'
    exact hnew (keyS_inj o'.1 ok1 o'.2.2 ok3 (beq_iff_eq.mp q) ▸ hr')
  rw [hnk, if_neg (by decide)]
  refine r_nil ?_
  obtain ⟨p0, ps, npl, cpl, hps⟩ := hg.pl
  replace cpl := F2 _ _ _ (by decide) cpl
  have hpl : ps.length = rs.length := hps.1
  have hrl := hg.rl
  refine r_cons (r_assign fe k3 (r_callName (r_builtin fe hA g4 (by kernel_rfl) PyProof.Rows.Boot.«len» (by decide) ⟨kf_builtin, r_splCons (r_selfAt fe hA k0 (by kernel_rfl) hm3.self i2.2.2 hat.pl rfl (r_splNil (r_lenList cpl.2 (by rw [List.length_cons]; omega) fun t6 => ?_)))⟩)))
  have hm4 := hm3.set (x := "pnumber") (v := .int ((p0 :: ps).length : Int) t6)
  have hpp4 : mset m3 "pnumber" (.int ((p0 :: ps).length : Int) t6) "prodprec" = some pp := by walk_at "ms"
  have hmap4 : mset m3 "pnumber" (.int ((p0 :: ps).length : Int) t6) "map" = some (.str (keyS r) t5) := by walk_at "ms"
  have hpn4 : mset m3 "pnumber" (.int ((p0 :: ps).length : Int) t6) "pnumber" = some (.int ((p0 :: ps).length : Int) t6) := mset_self
  generalize (.int ((p0 :: ps).length : Int) t6 : Value) = pv at hm4 hpp4 hmap4 hpn4
  refine r_genm (fun m => AN g.x sy (told r.1) tn m ∧ m "prodprec" = some pp ∧ m "map" = some (.str (keyS r) t5) ∧ m "pnumber" = some pv) ⟨hm4, hpp4, hmap4, hpn4⟩ fun m4 ⟨hm4, hpp4, hmap4, hpn4⟩ => ?_
  clear hm3 hpp3 hmap3
  -- the name itself
  have nt2 := hg.nt.ext F2 (by decide) (by decide)
  obtain ⟨ont, knt, cnt, dnt, hkn, hvn⟩ := id nt2
  have hko : KsOk ks ks [] := ⟨hg.ntnd, hg.ntin, fun y h => h, fun s h => by simp at h⟩
  refine r_consM (fun m' N' => m' = m4 ∧ ∃ tag' ks', Ext (· = 6) tag2 N2 tag' N' ∧ JunkD C'.w tag' N' g.nt 6 ks' B ∧ KsOk ks ks' [r.1]) (r_ifS (r_tCmp (r_name fe k1 hm4.pn (r_selfAt fe hA k0 (by kernel_rfl) hm4.self i2.2.2 hat.nt rfl (r_dictNotIn cnt.2 dnt (r_tBool ?_)))))) ?_
  · rw [valueAt_isSome, hkn]
    by_cases hk : told r.1 ∈ ks
    · rw [if_neg (by rw [decide_eq_true hk]; decide)]
      exact r_nil ⟨rfl, rfl, tag2, ks, Ext.refl, nt2, hko.same (s := r.1) fun _ => hk⟩
    · rw [if_pos (by rw [decide_eq_false hk]; rfl)]
      refine r_one (r_addList (y := told r.1) rfl (by decide) nt2 hk (by have := hko.len; omega) (fun l N₁ P hl e hP => ?_) (fun l N₁ P e hP => r_name fe k1 hm4.pn (hP _)) fun tag₁ N₂ hj₁ E₁ => ⟨rfl, rfl, tag₁, _, E₁, hj₁, hko.add (s := r.1) ok1 hk⟩)
      subst e
      exact r_selfAt fe hA k0 (by kernel_rfl) hm4.self (i2.2.2.le (Le.upd hl)) hat.nt rfl hP
  rintro m5 N3 ⟨rfl, tag3, ks3, E3, nt3, hk3⟩
  have i3 := i2.ext E3 (by decide) (by decide)
  have te3 := te2.ext E3 (by decide) (by decide)
  have sy3 := E3 _ _ _ (by decide) sy2
  -- the symbols
  have hK : ∀ s ∈ r.2, told s ∈ termK (rs ++ [(r.1, r.2)]) ↔ 3 ≤ s := told_term ok3
  refine r_cons (r_mono (sym_loop hC' i3 hat te3 nt3 ⟨hk3.nd, hk3.inn, fun y h => h, fun s h => by simp at h⟩ (by omega) ok2 ok3 hK hm4.self hm4.syms hpn4 sy3 hs1) ?_)
  rintro fl m6 N4 ⟨rfl, hm6, tag4, ks4, E4, te4, nt4, hk4⟩
  rw [htake] at hk4
  have hm5 : AN g.x sy (told r.1) tn m6 := ⟨(hm6 _ (by decide)).trans hm4.self, (hm6 _ (by decide)).trans hm4.pn, (hm6 _ (by decide)).trans hm4.syms, (hm6 _ (by decide)).trans hm4.fn, (hm6 _ (by decide)).trans hm4.fl, (hm6 _ (by decide)).trans hm4.ln⟩
  have hpp5 := (hm6 "prodprec" (by decide)).trans hpp4
  have hmap5 := (hm6 "map" (by decide)).trans hmap4
  have hpn5 := (hm6 "pnumber" (by decide)).trans hpn4
  have i4 := i3.ext E4 (by unfold T3; decide) (by unfold T3; decide)
  have sy4 := E4 _ _ _ (by unfold T3; decide) sy3
  -- the production
  have hsum : ((r.2.map told).map (·.length)).sum + (r.2.map told).length ≤ 1000 := by
    have : ∀ ss : List Nat, (∀ s ∈ ss, s < 7) → ((ss.map told).map (·.length)).sum ≤ 5 * ss.length := by
      intro ss
      induction ss with
      | nil => intro _; simp
      | cons s ss ih =>
        intro h
        have h1 := told_len s (h s (.head _))
        have h2 := ih fun x hx => h x (.tail _ hx)
        simp only [List.map_cons, List.sum_cons, List.length_cons] at h2 ⊢
        omega
    have := this r.2 ok3
    rw [List.length_map]
    omega
  refine r_cons (r_assign fe k7 (r_callName (r_global (v := .ref 100) fe hA g3 (by kernel_rfl) ⟨kf_ref hA (by kernel_rfl), r_splCons (r_name fe k3 hpn5 (r_splCons (r_name fe k1 hm5.pn (r_splCons (r_name fe k2 hm5.syms (r_splCons (r_name fe k5 hpp5 (r_splCons (r_name fe k8 hm5.fn (r_splCons (r_name fe k9 hm5.fl (r_splCons (r_name fe k10 hm5.ln (r_splNil
    (prod_call7 (k := k) hA sy4.2 hs1 hsum (by omega) fun p N5 L5 hp => ?_)))))))))))))))⟩)))
  obtain ⟨tag5, E5, pf5⟩ := hp.at L5 (tag := tag4)
  have hm7 := hm5.set (x := "p") (v := p)
  have hp7 : mset m6 "p" p "p" = some p := mset_self
  have hmap7 : mset m6 "p" p "map" = some (.str (keyS r) t5) := by walk_at "ms"
  refine r_genm (fun m => AN g.x sy (told r.1) tn m ∧ m "p" = some p ∧ m "map" = some (.str (keyS r) t5)) ⟨hm7, hp7, hmap7⟩ fun m7 ⟨hm7, hp7, hmap7⟩ => ?_
  clear hm5 hpp5 hmap5 hpn5 hm4 hpp4 hmap4 hpn4 hm6
  have F5 : Ext (fun t => t = 5 ∨ t = 99 ∨ t = 6 ∨ t = 10) tag N tag5 N5 := (F2.mono fun t h => by omega).trans ((E3.mono fun t h => by omega).trans ((E4.mono fun t h => by unfold T3 at h; omega).trans (E5.mono fun t h => h.elim)))
  have G5 : Ext (fun t => t = 5 ∨ t = 6 ∨ t = 10) tag2 N2 tag5 N5 := (E3.mono fun t h => by omega).trans ((E4.mono fun t h => by unfold T3 at h; omega).trans (E5.mono fun t h => h.elim))
  have i5 := i4.ext E5 (fun q => q) (fun q => q)
  have te5 := te4.ext E5 (fun q => q) (fun q => q)
  have nt5 := nt4.ext E5 (fun q => q) (fun q => q)
  have cpl5 := G5 _ _ _ (by decide) cpl
  have cpm5 := G5 _ _ _ (by decide) cpm
  obtain ⟨opn, kpn, cpn, dpn, zpn, hpn⟩ := hg.pn
  have cpn5 := F5 _ _ _ (by decide) cpn
  have ps5 : AllAt (PR1 tag5 N5) ps rs := hps.mono (PR1.ext F5 (by decide))
  refine r_cons (r_exprS fe (r_mcall (r_selfAt fe hA k0 (by kernel_rfl) hm7.self i5.2.2 hat.pl rfl ⟨_, _, gm_list cpl5.2 PySem.F.slot_list_append PySem.F.type_list_append, kf_builtin, r_splCons (r_name fe k7 hp7 (r_splNil (r_append cpl5.2 (by rw [List.length_cons]; omega) fun n' => ⟨fun a z => (nomatch z), ?_⟩)))⟩)))
  have E6 : Ext (fun t => t = 2 ∨ t = 4) tag5 N5 tag5 (upd N5 g.pl (lst ((p0 :: ps) ++ [p]) n')) := Ext.upd cpl5 (.inl rfl)
  have cpl6 : Cell tag5 (upd N5 g.pl (lst ((p0 :: ps) ++ [p]) n')) 2 g.pl (lst (p0 :: (ps ++ [p])) n') := ⟨cpl5.1, upd_self⟩
  have cpm6 : Cell tag5 (upd N5 g.pl (lst ((p0 :: ps) ++ [p]) n')) 4 g.pm opm := (Ext.upd (T := (· = 2)) cpl5 rfl) _ _ _ (by decide) cpm5
  generalize upd N5 g.pl (lst ((p0 :: ps) ++ [p]) n') = N6 at E6 cpl6 cpm6
  have i6 := i5.ext (T := fun t => t = 2 ∨ t = 4) E6 (by decide) (by decide)
  refine r_cons (r_assignSub (r_name fe k7 hp7 (r_selfAt fe hA k0 (by kernel_rfl) hm7.self i6.2.2 hat.pm rfl (r_name fe k6 hmap7 (r_dictSet cpm6.2 dpm (by omega) fun o7 d7 => ?_)))))
  have E7 : Ext (fun t => t = 2 ∨ t = 4) tag5 N5 tag5 (upd N6 g.pm o7) := E6.trans (Ext.upd cpm6 (.inr rfl))
  have cpl7 : Cell tag5 (upd N6 g.pm o7) 2 g.pl (lst (p0 :: (ps ++ [p])) n') := (Ext.upd (T := (· = 4)) cpm6 rfl) _ _ _ (by decide) cpl6
  have cpm7 : Cell tag5 (upd N6 g.pm o7) 4 g.pm o7 := ⟨cpm6.1, upd_self⟩
  generalize upd N6 g.pm o7 = N7 at E7 cpl7 cpm7
  have i7 := i5.ext (T := fun t => t = 2 ∨ t = 4) E7 (by decide) (by decide)
  have cpn7 := E7 _ _ _ (by decide) cpn5
  have F7 : Ext (fun t => t = 5 ∨ t = 99 ∨ t = 6 ∨ t = 10 ∨ t = 2 ∨ t = 4) tag N tag5 N7 := (F5.mono fun t h => by omega).trans (E7.mono fun t h => by omega)
  have pf7 := pf5.ext E7 (by decide)
  -- the end: what is left to be shown, when the name's list has grown
  have fin : ∀ tag8 N8 o8 kv8, Ext (fun t => t = 3 ∨ t = 11 + r.1) tag5 N7 tag8 N8 → Cell tag8 N8 3 g.pn o8 → IsD C'.w o8 kv8 → kv8.length ≤ B + 10 → (∀ i < 3, i ≠ r.1 → valueAt kv8 (told i) = valueAt kpn (told i)) →
      (∃ l vs n, valueAt kv8 (told r.1) = some (.ref l) ∧ Cell tag8 N8 (11 + r.1) l (lst vs n) ∧ AllAt (PR1 tag8 N8) vs ((rs ++ [r]).filter (·.1 == r.1))) → AddP C'.w tag N g rs B r .none N8 := by
    intro tag8 N8 o8 kv8 E8 c8 d8 z8 hoth hown
    have F8 : Ext (fun t => t = 5 ∨ t = 99 ∨ t = 6 ∨ t = 10 ∨ t = 2 ∨ t = 4 ∨ t = 3 ∨ t = 11 + r.1) tag N tag8 N8 := (F7.mono fun t h => by omega).trans (E8.mono fun t h => by omega)
    have n0 : ¬ (0 = 3 ∨ 0 = 11 + r.1) := by omega
    obtain ⟨o6, c6, d6⟩ := hg.fi
    obtain ⟨o9, c9, d9⟩ := hg.fo
    obtain ⟨o10, c10, d10⟩ := hg.pr
    refine ⟨rfl, tag8, ks4, ⟨⟨at', ca, (i7.ext E8 n0 (by omega)), by omega, hat⟩, ⟨p0, ps ++ [p], n', E8 _ _ _ (by omega) cpl7, ((ps5.mono (PR1.ext E7 (by decide))).mono (PR1.ext E8 n0)).snoc (PR1.ext E8 n0 _ _ pf7)⟩, ⟨o8, kv8, c8, d8, z8, fun i hi => ?_⟩, ⟨o7, _, E8 _ _ _ (by omega) cpm7, d7, Nat.le_trans stored_len (by omega), fun y => ?_⟩,
      ((te5.ext E7 (by decide) (by decide)).ext E8 (by omega) (by omega)).mono (by omega), ((nt5.ext E7 (by decide) (by decide)).ext E8 (by omega) (by omega)).mono (by omega), ⟨o6, F8 _ _ _ (by omega) c6, d6⟩, ⟨o9, F8 _ _ _ (by omega) c9, d9⟩, ⟨o10, F8 _ _ _ (by omega) c10, d10⟩, by rw [List.length_append]; show rs.length + 1 ≤ _; omega, hk4.nd, hk4.inn, fun r' hr' => ?_⟩, F8.mono fun t h => by omega⟩
    · by_cases hir : i = r.1
      · subst hir
        obtain ⟨l, vs, n, e1, c1, a1⟩ := hown
        exact .inr ⟨l, vs, n, e1, c1, a1⟩
      · rw [pn_filter, if_neg (fun q => hir q.symm), List.append_nil, hoth i hi hir]
        rcases hpn i hi with q | ⟨l, vs, n, e1, c1, a1⟩
        · exact .inl q
        · exact .inr ⟨l, vs, n, e1, F8 _ _ _ (by omega) c1, a1.mono (PR1.ext F8 (by omega))⟩
    · rw [valueAt_stored, List.any_append, ← hpm]
      by_cases hy : y = keyS r
      · subst hy; simp
      · rw [if_neg hy]
        have : ([r].any fun r => keyS r == y) = false := by simp; exact fun q => hy q.symm
        rw [this, Bool.or_false]
    · rcases List.mem_append.mp hr' with hr' | hr'
      · obtain ⟨a1, a2⟩ := hg.ntall r' hr'
        exact ⟨hk4.sub _ (hk3.sub _ a1), fun s hs h3 => hk4.sub _ (hk3.sub _ (a2 s hs h3))⟩
      · rw [List.mem_singleton.mp hr']
        exact ⟨hk4.sub _ (hk3.all _ (.head _) ok1), fun s hs h3 => hk4.all s hs h3⟩
  rcases hpn r.1 ok1 with ⟨hf, hv⟩ | ⟨l, us, cu, hv, cl, hus⟩
  · -- no list yet: KeyError
    obtain ⟨_, _, L, henv, A₀, hA₀, hst, hfrs⟩ := id hC'
    refine r_one (r_tryKey (P := fun m' N' => m' = m7 ∧ N' = N7) hA fe hfrs (by rw [henv]; rfl) g5 (by kernel_rfl) (x_one (x_exprS fe (x_mcall (x_sub (r_selfAt fe hA k0 (by kernel_rfl) hm7.self i7.2.2 hat.pn rfl (r_name fe k1 hm7.pn ⟨hi_dict cpn7.2 dpn, x_dictGet hA cpn7.2 dpn hv ⟨rfl, rfl⟩⟩)))))) ?_)
    rintro e m8 N8 ⟨rfl, rfl⟩
    have fe2 : FEnv (C'.held e) := ⟨fe.kind, fe.globals, fe.builtins⟩
    refine r_one (r_assignSub (r_list (r_splCons (r_name fe2 k7 hp7 (r_splNil (r_newList (fun l hl => r_selfAtX fe2 hA.X k0 (by kernel_rfl) hm7.self (i7.2.2.le (Le.upd hl)) hat.pn rfl (r_name fe2 k1 hm7.pn (r_dictSet (C := C'.held e) (Le.upd hl _ _ cpn7.2) dpn (by omega) fun o8 d8 => ?_))) (by show 1 ≤ sizeLine; rw [sizeLine_eq]; omega)))))))
    have hlp : g.pn ≠ l := fun z => by have := cpn7.2; rw [z, hl] at this; cases this
    have EE : Ext (fun t => t = 3 ∨ t = 11 + r.1) tag5 N8 (tset tag5 l (11 + r.1)) (upd (upd N8 l (lst [p] 0)) g.pn o8) := (Ext.new hl).trans (Ext.upd (cpn7.put hl) (.inl rfl))
    refine fin _ _ o8 _ EE ⟨(if_neg hlp).trans cpn7.1, upd_self⟩ d8 (Nat.le_trans stored_len (by omega)) (fun i hi hir => ?_) ⟨l, [p], 0, ?_, ⟨if_pos rfl, by rw [upd_ne hlp.symm]; exact upd_self⟩, ?_⟩
    · rw [valueAt_stored, if_neg fun q => hir (told_inj i (by omega) r.1 (by omega) q)]
    · rw [valueAt_stored, if_pos rfl]
    · rw [pn_filter, hf, if_pos rfl]
      exact AllAt.nil.snoc (PR1.ext EE (by omega) _ _ pf7)
  · have cl7 := F7 _ _ _ (by omega) cl
    refine r_one (r_tryOk (r_one (r_exprS fe (r_mcall (r_sub (r_selfAt fe hA k0 (by kernel_rfl) hm7.self i7.2.2 hat.pn rfl (r_name fe k1 hm7.pn ⟨hi_dict cpn7.2 dpn, r_dictGet cpn7.2 dpn hv ⟨_, _, gm_list cl7.2 PySem.F.slot_list_append PySem.F.type_list_append, kf_builtin, r_splCons (r_name fe k7 hp7 (r_splNil (r_append cl7.2 ?_ fun n8 => ⟨fun a z => (nomatch z), ?_⟩)))⟩⟩)))))))
    · have h1 := hus.1
      have h2 := List.length_filter_le (fun x : Rl => x.1 == r.1) rs
      omega
    · have EE : Ext (fun t => t = 3 ∨ t = 11 + r.1) tag5 N7 tag5 (upd N7 l (lst (us ++ [p]) n8)) := Ext.upd cl7 (.inr rfl)
      refine fin tag5 _ opn kpn EE ?_ dpn (by omega) (fun i hi hir => rfl) ⟨l, us ++ [p], n8, hv, ⟨cl7.1, upd_self⟩, ?_⟩
      · exact (Ext.upd (T := fun t => t = 11 + r.1) cl7 rfl) _ _ _ (by omega) cpn7
      · rw [pn_filter, if_pos rfl]
        exact ((hus.mono (PR1.ext F7 (by omega))).mono (PR1.ext EE (by omega))).snoc (PR1.ext EE (by omega) _ _ pf7)
end
end Mine

namespace Mine
open PySem PySem.Challenge
local macro_rules | `(tactic| walk_at "ms") => `(tactic| first | assumption | exact mset_self | (refine (mset_ne (by decide)).trans ?_; walk_at "ms"))

section
variable {C C' : Cx} {m m' : Fm} {N N' R : Hp} {a l d x dx Cl : Addr} {k n c : Nat} {vs : List Value} {at' : Fm} {tag tag' : Addr → Nat} {w : World} {g : Gr} {rs : List Rl} {ks : List Str} {B : Nat} {r : Rl} {sy : Addr} {tn : Tok}
set_option maxHeartbeats 800000 in
theorem add_call (hC : Amb C (k + 3)) (hg : GA C.w tag N g rs ks B) (ok : Ok1 r) (oks : ∀ r' ∈ rs, Ok1 r') (hnew : r ∉ rs) (hB : B ≤ 1000) (hsy : Cell tag N 99 sy (lst vs n)) (hs : StrsAre vs (r.2.map given)) {Q : Value → Fm → Hp → Prop}
    (q : ∀ tag' N' ks', GA C.w tag' N' g (rs ++ [r]) ks' (B + 10) → Ext (· ≠ 0) tag N tag' N' → Q .none m N') : Run C (call (.ref 166) [.ref g.x, .str (told r.1) tn, .ref sy]) m N Q := by
  refine r_call (cr_call_def (P := AddP C.w tag N g rs B r) hC (SM 9 4) "Grammar.add_production" [("self", .ref g.x), ("prodname", .str (told r.1) tn), ("syms", .ref sy), ("func", .none), ("file", .str "" 395), ("line", .int 0 396)] (lk166 _) (by kernel_rfl)
    (fun s hs => BindsTo.of_defaults rfl (hs _ _ (lk159 _)) rfl rfl rfl) (locs (by kernel_rfl)) (by decide +kernel) (by kernel_rfl) (by kernel_rfl) (by kernel_rfl) (fun C' hC' => ?_) (fun v N' ⟨e, tag', ks', h1, h2⟩ => by rw [e]; exact q tag' N' ks' h1 h2))
  have hw : C'.w = C.w := hC'.2.1
  rw [← hw] at hg ⊢
  exact add_body hC' hg ok oks hnew hB ⟨rfl, rfl, rfl, rfl, rfl, rfl⟩ hsy hs
/-- the method of an object -/
theorem gm_gram {name : Str} {f : Addr} (hC : Amb C k) (hg : ∃ at' c, InstT tag N 1 g.x g.dx 248 at' c ∧ at' name = none) (h1 : plainGet (K C.w.params) 248 name = true) (h2 : findIn (K C.w.params) (.ref 248) name = some (some (.ref f))) (h3 : isFn (K C.w.params) (.ref f) = true) :
    ∀ (pl : Sem Bool) (P : Value × List Value → Fm → Hp → Prop), P (.ref f, [.ref g.x]) m N → Run C (getMethod (.ref g.x) name pl) m N P := by
  obtain ⟨at', c, i, hn⟩ := hg
  exact gm_own hC i.2.2 h1 h2 h3 hn

/-! set_start -/
def StartP (w : World) (tag : Addr → Nat) (N : Hp) (g : Gr) (rs : List Rl) (ks : List Str) (B : Nat) (v : Value) (N' : Hp) : Prop := v = .none ∧ ∃ tag', GA w tag' N' g rs ks (B + 1) ∧ Ext (· ≠ 0) tag N tag' N'
set_option maxHeartbeats 2000000 in
theorem start_call (hC : Amb C (k + 3)) (hg : GA C.w tag N g rs ks B) {st : Nat} (hst : st < 3) (hks : told st ∈ ks) (hB : B ≤ 70) {Q : Value → Fm → Hp → Prop}
    (q : ∀ tag' N', GA C.w tag' N' g rs ks (B + 1) → Ext (· ≠ 0) tag N tag' N' → Q .none m N') : Run C (call (.ref 174) [.ref g.x, .str (told st) tn]) m N Q := by
  refine r_call (cr_call_def (P := StartP C.w tag N g rs ks B) hC (SM 9 5) "Grammar.set_start" [("self", .ref g.x), ("start", .str (told st) tn)] (lk174 _) (by kernel_rfl)
    (fun s hs => BindsTo.of_defaults rfl (hs _ _ (lk167 _)) rfl rfl rfl) (locs (by kernel_rfl)) (by decide +kernel) (by kernel_rfl) (by kernel_rfl) (by kernel_rfl) (fun C' hC' => ?_) (fun v N' ⟨e, tag', h1, h2⟩ => by rw [e]; exact q tag' N' h1 h2))
  have hw : C'.w = C.w := hC'.2.1
  rw [← hw] at hg ⊢
  have fe := callee_env hC' (by kernel_rfl)
  have k0 : C'.env.kindOf "self" = some .local := callee_kind hC' (by kernel_rfl)
  have k1 : C'.env.kindOf "start" = some .local := callee_kind hC' (by kernel_rfl)
  have g3 : C'.env.kindOf "Production" = some .globalImplicit := callee_kind hC' (by kernel_rfl)
  have hA := hC'.1
  obtain ⟨at', ca, hi, hca, hat⟩ := hg.inst
  obtain ⟨ont, knt, cnt, dnt, hkn, hvn⟩ := id hg.nt
  obtain ⟨p0, ps, npl, cpl, hps⟩ := id hg.pl
  have hl1 := told_len st (by omega)
  have hl0 : (told st).length ≠ 0 := by
    have : st = 0 ∨ st = 1 ∨ st = 2 := by omega
    rcases this with rfl | rfl | rfl <;> decide
  with_unfolding_all refine r_cons ?_
  refine r_genm (fun m => m "self" = some (.ref g.x) ∧ m "start" = some (.str (told st) tn)) ⟨rfl, rfl⟩ fun m0 ⟨e0, e1⟩ => ?_
  refine r_ifS (r_tNot (r_tPlain (r_name fe k1 e1 (r_truthStr (by omega) ?_))))
  rw [if_neg (by simp only [Bool.not_eq_true', bne_eq_false_iff_eq]; omega)]
  refine r_nil ?_
  refine r_cons (r_ifS (r_tCmp (r_name fe k1 e1 (r_selfAt fe hA k0 (by kernel_rfl) e0 hi.2.2 hat.nt rfl (r_dictNotIn cnt.2 dnt (r_tBool ?_))))))
  rw [valueAt_isSome, hkn, if_neg (by rw [decide_eq_true hks]; decide)]
  refine r_nil ?_
  -- Productions[0]
  refine r_cons (r_assignSub (r_callName (r_global (v := .ref 100) fe hA g3 (by kernel_rfl) ⟨kf_ref hA (by kernel_rfl), r_splCons (r_int fun t1 => r_splCons (r_str fun t2 => r_splCons (r_list (r_splCons (r_name fe k1 e1 (r_splNil (r_newList (fun l hl => r_splNil ?_) (by show 1 ≤ sizeLine; rw [sizeLine_eq]; omega))))))))⟩)))
  refine prod_call3 (k := k) hA upd_self (ys := [told st]) (.cons _ _ .nil) (by simp; omega) (by decide) fun p N1 L1 hp => ?_
  have E1 : Ext (fun _ => False) tag N tag N1 := Ext.le ((Le.upd hl).trans L1)
  have cpl1 := E1 _ _ _ (fun q => q) cpl
  have i1 := hi.ext E1 (fun q => q) (fun q => q)
  refine r_selfAt fe hA k0 (by kernel_rfl) e0 i1.2.2 hat.pl rfl (r_int fun t3 => r_listSet (i := 0) cpl1.2 rfl (by simp) (by omega) ?_)
  have E2 : Ext (· = 2) tag N tag (upd N1 g.pl (lst ((p0 :: ps).set 0 p) npl)) := (E1.mono fun t q => q.elim).trans (Ext.upd cpl1 rfl)
  have cpl2 : Cell tag (upd N1 g.pl (lst ((p0 :: ps).set 0 p) npl)) 2 g.pl (lst (p :: ps) npl) := ⟨cpl1.1, upd_self⟩
  generalize upd N1 g.pl (lst ((p0 :: ps).set 0 p) npl) = N2 at E2 cpl2
  have i2 := hi.ext E2 (by decide) (by decide)
  -- Nonterminals[start].append(0)
  have nt2 := hg.nt.ext E2 (by decide) (by decide)
  obtain ⟨ont, knt, cnt, dnt, hkn, hvn⟩ := id nt2
  obtain ⟨v, hv⟩ := Option.isSome_iff_exists.mp (valueAt_some_iff.mpr (by rw [hkn]; exact hks))
  obtain ⟨l, us, cu, rfl, cl, hz⟩ := hvn _ _ hv
  refine r_cons (r_exprS fe (r_mcall (r_sub (r_selfAt fe hA k0 (by kernel_rfl) e0 i2.2.2 hat.nt rfl (r_name fe k1 e1 ⟨hi_dict cnt.2 dnt, r_dictGet cnt.2 dnt hv ⟨_, _, gm_list cl.2 PySem.F.slot_list_append PySem.F.type_list_append, kf_builtin, r_splCons (r_int fun t4 => r_splNil (r_append cl.2 (by omega) fun n' => ⟨fun a z => (nomatch z), ?_⟩))⟩⟩)))))
  have E3 : Ext (fun t => t = 2 ∨ t = 10) tag N tag (upd N2 l (lst (us ++ [.int 0 t4]) n')) := (E2.mono fun t q => .inl q).trans (Ext.upd cl (.inr rfl))
  have nt3 := nt2.bump (v := .int 0 t4) (n' := n') (by decide) cl hz
  have te3 := (hg.te.ext E2 (by decide) (by decide)).bump (v := .int 0 t4) (n' := n') (by decide) cl hz
  have cpl3 := (Ext.upd (T := (· = 10)) (o' := lst (us ++ [.int 0 t4]) n') cl rfl) _ _ _ (by decide) cpl2
  generalize upd N2 l (lst (us ++ [.int 0 t4]) n') = N3 at E3 nt3 te3 cpl3
  have i3 := hi.ext E3 (by decide) (by decide)
  -- Start
  refine r_setT (x := g.x) (dx := g.dx) (Cl := 248) (at' := at') (c := ca) (t := 1) fe hA k0 (by kernel_rfl) (by omega) (r_name fe k1 e1 ⟨e0, tag, i3, fun N4 E4 i4 => r_nil ?_⟩)
  have E5 : Ext (fun t => t = 1 ∨ t = 2 ∨ t = 10) tag N tag N4 := (E3.mono fun t h => .inr h).trans (E4.mono fun t h => .inl h)
  obtain ⟨o2, kv2, c2, d2, z2, h2⟩ := hg.pn
  obtain ⟨o3, kv3, c3, d3, z3, h3⟩ := hg.pm
  obtain ⟨o6, c6, d6⟩ := hg.fi
  obtain ⟨o7, c7, d7⟩ := hg.fo
  obtain ⟨o8, c8, d8⟩ := hg.pr
  refine ⟨rfl, tag, ⟨⟨_, _, i4, by omega, hat.set (by decide)⟩, ⟨p, ps, npl, E4 _ _ _ (by decide) cpl3, hps.mono (PR1.ext E5 (by decide))⟩, ⟨o2, kv2, E5 _ _ _ (by decide) c2, d2, by omega, fun i hi => ?_⟩, ⟨o3, kv3, E5 _ _ _ (by decide) c3, d3, by omega, h3⟩,
    te3.ext E4 (by decide) (by decide), nt3.ext E4 (by decide) (by decide), ⟨o6, E5 _ _ _ (by decide) c6, d6⟩, ⟨o7, E5 _ _ _ (by decide) c7, d7⟩, ⟨o8, E5 _ _ _ (by decide) c8, d8⟩, by have := hg.rl; omega, hg.ntnd, hg.ntin, hg.ntall⟩, E5.mono fun t h => by omega⟩
  rcases h2 i hi with q | ⟨l, vs, n, e1, c1, a1⟩
  · exact .inl q
  · exact .inr ⟨l, vs, n, e1, E5 _ _ _ (by omega) c1, a1.mono (PR1.ext E5 (by decide))⟩
end
end Mine

namespace Mine
open PySem PySem.Challenge
local macro_rules | `(tactic| walk_at "ms") => `(tactic| first | assumption | exact mset_self | (refine (mset_ne (by decide)).trans ?_; walk_at "ms"))

/-! _first -/
def EMP : Str := "<empty>"
def add1 (a : List Str) (f : Str) : List Str := if f = EMP ∨ f ∈ a then a else a ++ [f]
def addL (acc fs : List Str) : List Str := fs.foldl add1 acc
def fl (F : Nat → List Str) : List Nat → List Str → List Str
  | [], acc => acc ++ [EMP]
  | x :: r, acc => if EMP ∈ F x then fl F r (addL acc (F x)) else addL acc (F x)
theorem addL_snoc (acc fs : List Str) (f : Str) : addL acc (fs ++ [f]) = add1 (addL acc fs) f := by
  unfold addL; rw [List.foldl_append]; rfl
theorem addL_len (acc : List Str) : ∀ fs : List Str, (addL acc fs).length ≤ acc.length + fs.length := by
  intro fs
  induction fs generalizing acc with
  | nil => exact Nat.le_refl _
  | cons f r ih =>
    have := ih (add1 acc f)
    have h2 : (add1 acc f).length ≤ acc.length + 1 := by
      unfold add1
      split
      · omega
      · rw [List.length_append]; exact Nat.le_refl _
    show (addL (add1 acc f) r).length ≤ _
    rw [List.length_cons]; omega
section
variable {C C' : Cx} {m m' : Fm} {N N' R : Hp} {a l d x dx Cl fi : Addr} {k n c : Nat} {vs : List Value} {at' : Fm} {tag tag' : Addr → Nat} {w : World} {g : Gr} {rs : List Rl} {ks : List Str} {B : Nat} {r : Rl} {sy : Addr} {tn : Tok} {o : Obj} {kvs : List (Str × Value)}
/-- First, as it stands, at the symbols ss -/
def FAt (N : Hp) (kvs : List (Str × Value)) (F : Nat → List Str) (ss : List Nat) : Prop := ∀ s ∈ ss, ∃ l vs n, valueAt kvs (told s) = some (.ref l) ∧ N l = some (lst vs n) ∧ StrsAre vs (F s) ∧ (F s).length ≤ 20
def FirstP (N : Hp) (F : Nat → List Str) (ss : List Nat) (v : Value) (N' : Hp) : Prop := ∃ l ys n, v = .ref l ∧ N l = none ∧ N' = upd N l (lst ys n) ∧ StrsAre ys (fl F ss [])
set_option maxHeartbeats 2000000 in
theorem first_call (hC : Amb C (k + 1)) {bt : Addr} {ss : List Nat} {F : Nat → List Str} {ca : Nat} (hi : Inst N x dx 248 at' ca) (hat : at' "First" = some (.ref fi)) (cfi : N fi = some o) (dfi : IsD C.w o kvs) (hbt : N bt = some (tup vs n)) (hs : StrsAre vs (ss.map told)) (h7 : ∀ s ∈ ss, s < 7) (hss : ss.length ≤ 10) (hF : FAt N kvs F ss) {Q : Value → Fm → Hp → Prop}
    (q : ∀ v N', FirstP N F ss v N' → Q v m N') : Run C (call (.ref 223) [.ref x, .ref bt]) m N Q := by
  refine r_call (cr_call_def (P := FirstP N F ss) hC (SM 9 12) "Grammar._first" [("self", .ref x), ("beta", .ref bt)] (lk223 _) (by kernel_rfl) (fun s _ => BindsTo.of_eq (by kernel_rfl)) (locs (by kernel_rfl)) (by decide +kernel) (by kernel_rfl) (by kernel_rfl) (by kernel_rfl) (fun C' hC' => ?_) q)
  have hw : C'.w = C.w := hC'.2.1
  rw [← hw] at dfi
  have fe := callee_env hC' (by kernel_rfl)
  have k0 : C'.env.kindOf "self" = some .local := callee_kind hC' (by kernel_rfl)
  have k1 : C'.env.kindOf "beta" = some .local := callee_kind hC' (by kernel_rfl)
  have k2 : C'.env.kindOf "result" = some .local := callee_kind hC' (by kernel_rfl)
  have k3 : C'.env.kindOf "x" = some .local := callee_kind hC' (by kernel_rfl)
  have k4 : C'.env.kindOf "x_produces_empty" = some .local := callee_kind hC' (by kernel_rfl)
  have k5 : C'.env.kindOf "f" = some .local := callee_kind hC' (by kernel_rfl)
  have hA := hC'.1
  have hh := hA.handled
  have hvl : vs.length = ss.length := by have := StrsAre.len hs; rwa [List.length_map] at this
  with_unfolding_all refine r_cons ?_
  refine r_genm (fun m => m "self" = some (.ref x) ∧ m "beta" = some (.ref bt)) ⟨rfl, rfl⟩ fun m0 ⟨e0, e1⟩ => ?_
  refine r_assign fe k2 (r_list (r_splNil (r_newList fun l hl => ?_)))
  have ne : ∀ {b : Addr} {ob : Obj} {ys : List Value} {n : Nat}, N b = some ob → upd N l (lst ys n) b = some ob := fun {b ob ys n} hb => by
    rw [upd_ne (fun z => by rw [z, hl] at hb; cases hb)]; exact hb
  have ine : ∀ ys n, Inst (upd N l (lst ys n)) x dx 248 at' ca := fun ys n => hi.le fun b ob hb => ne hb
  let J : Nat → Fm → Hp → Prop := fun i m' N' => m' "self" = some (.ref x) ∧ m' "result" = some (.ref l) ∧ ∃ ys n acc, N' = upd N l (lst ys n) ∧ StrsAre ys acc ∧ fl F ss [] = fl F (ss.drop i) acc ∧ acc.length ≤ 20 * i
  refine r_consM (fun m' N' => m' "result" = some (.ref l) ∧ ∃ ys n, N' = upd N l (lst ys n) ∧ StrsAre ys (fl F ss [])) (r_for hh (r_name fe k1 (by walk_at "ms") ⟨_, _, _, itb_tuple (ne hbt), J, ⟨by walk_at "ms", mset_self, [], 0, [], rfl, .nil, rfl, Nat.le_refl _⟩, ?_, ?_, ?_⟩)) ?_
  · intro b hb
    rw [List.mem_singleton.mp hb]
    exact ⟨_, fun i m N' h => by obtain ⟨_, _, ys, n, acc, rfl, _⟩ := h; exact ne hbt⟩
  · rintro i v m' N' hlt hv ⟨e0, e2, ys, n', acc, rfl, hys, hfl, hal⟩
    obtain ⟨y, ty, rfl, hy⟩ := strs_at hs hv
    rw [List.getElem?_map] at hy
    obtain ⟨s, hsx, rfl⟩ := Option.map_eq_some_iff.mp hy
    have hsm := List.mem_of_getElem? hsx
    obtain ⟨lx, us, cu, hv, hlx, hus, hul⟩ := hF s hsm
    have hul' : us.length = (F s).length := StrsAre.len hus
    have hd : ss.drop i = s :: ss.drop (i + 1) := by
      have hi := (List.getElem?_eq_some_iff.mp hsx).1
      rw [List.drop_eq_getElem_cons hi]
      have : ss[i] = s := by rw [List.getElem?_eq_getElem hi] at hsx; exact Option.some.inj hsx
      rw [this]
    have hilt : i < 10 := by omega
    refine r_asName fe k3 ?_
    refine r_cons (r_assign fe k4 (r_bool ?_))
    let J2 : Nat → Fm → Hp → Prop := fun j m' N' => m' "self" = some (.ref x) ∧ m' "result" = some (.ref l) ∧ m' "x_produces_empty" = some (.bool (decide (EMP ∈ (F s).take j))) ∧ ∃ ys n, N' = upd N l (lst ys n) ∧ StrsAre ys (addL acc ((F s).take j))
    refine r_consM (fun m' N' => J2 (F s).length m' N') (r_for hh (r_sub (r_selfAt fe hA k0 (by kernel_rfl) (by walk_at "ms") (ine _ _) hat rfl (r_name fe k3 (by walk_at "ms") ⟨hi_dict (ne cfi) dfi, r_dictGet (ne cfi) dfi hv ⟨_, _, _, itb_list (ne hlx), J2, ⟨by walk_at "ms", by walk_at "ms", mset_self, ys, n', rfl, hys⟩, ?_, ?_, ?_⟩⟩)))) ?_
    · intro b hb
      rw [List.mem_singleton.mp hb]
      exact ⟨_, fun i m N' h => by obtain ⟨_, _, _, ys, n, rfl, _⟩ := h; exact ne hlx⟩
    · rintro j v m₂ N₂ hj hv2 ⟨e0, e2, e4, ys2, n2, rfl, hys2⟩
      obtain ⟨f, tf, rfl, hf⟩ := strs_at hus hv2
      have htk : (F s).take (j + 1) = (F s).take j ++ [f] := by rw [List.take_add_one, hf]; rfl
      have hlen2 : ys2.length ≤ 1000000 := by
        have h1 := StrsAre.len hys2
        have h2 := addL_len acc ((F s).take j)
        have h3 := List.length_take_le j (F s)
        have h4 := List.length_take_le' j (F s)
        omega
      refine r_asName fe k5 (r_one (r_ifS (r_tCmp (r_name fe k5 mset_self (r_str fun t1 => r_eqStr (r_tBool ?_))))))
      by_cases hfe : f = EMP
      · subst hfe
        rw [if_pos (by decide)]
        refine r_one (r_assign fe k4 (r_bool ?_))
        refine ⟨by walk_at "ms", by walk_at "ms", ?_, ys2, n2, rfl, ?_⟩
        · rw [mset_self, htk]; simp
        · rw [htk, addL_snoc]; unfold add1; rw [if_pos (.inl rfl)]; exact hys2
      · have hfe' : (f == Str.ofString "<empty>") = false := by simpa [EMP] using hfe
        rw [hfe', if_neg (by decide)]
        have hmem : decide (EMP ∈ (F s).take (j + 1)) = decide (EMP ∈ (F s).take j) := by
          rw [htk, decide_eq_decide, List.mem_append, List.mem_singleton]
          exact ⟨fun h => h.elim id fun z => absurd z.symm hfe, .inl⟩
        refine r_one (r_ifS (r_tCmp (r_name fe k5 mset_self (r_name fe k2 (by walk_at "ms") (r_notInStrs upd_self hys2 (r_tBool ?_))))))
        by_cases hin : f ∈ addL acc ((F s).take j)
        · have : (addL acc ((F s).take j)).any (· == f) = true := List.any_eq_true.mpr ⟨f, hin, by simp⟩
          rw [this, if_neg (by decide)]
          refine r_nil ⟨by walk_at "ms", by walk_at "ms", by rw [hmem]; walk_at "ms", ys2, n2, rfl, ?_⟩
          rw [htk, addL_snoc]; unfold add1; rw [if_pos (.inr hin)]; exact hys2
        · have : (addL acc ((F s).take j)).any (· == f) = false := by
            rw [List.any_eq_false]; intro z hz q; exact hin (beq_iff_eq.mp q ▸ hz)
          rw [this, if_pos (by decide)]
          refine r_one (r_exprS fe (r_mcall (r_name fe k2 (by walk_at "ms") ⟨_, _, gm_list upd_self PySem.F.slot_list_append PySem.F.type_list_append, kf_builtin, r_splCons (r_name fe k5 mset_self (r_splNil (r_append upd_self hlen2 fun n3 => ⟨fun a z => (nomatch z), ?_⟩)))⟩)))
          refine ⟨by walk_at "ms", by walk_at "ms", by rw [hmem]; walk_at "ms", ys2 ++ [.str f tf], n3, ?_, ?_⟩
          · funext b; unfold upd; split <;> rfl
          · rw [htk, addL_snoc]; unfold add1; rw [if_neg (fun q => q.elim hfe hin)]; exact StrsAre.snoc' _ _ hys2
    · rw [hul']
      exact fun m' N' h => r_nil ⟨rfl, h⟩
    rintro m3 N3 ⟨e0, e2, e4, ys3, n3, rfl, hys3⟩
    rw [List.take_length] at e4 hys3
    refine r_one (r_ifS (r_tPlain (r_name fe k4 e4 (r_tBool ?_))))
    rw [hd] at hfl
    have hfl' : fl F ss [] = if EMP ∈ F s then fl F (ss.drop (i + 1)) (addL acc (F s)) else addL acc (F s) := hfl
    by_cases he : EMP ∈ F s
    · rw [if_pos (decide_eq_true he)]
      rw [if_pos he] at hfl'
      refine r_one (r_passS ⟨e0, e2, ys3, n3, addL acc (F s), rfl, hys3, hfl', ?_⟩)
      have := addL_len acc (F s)
      omega
    · rw [if_neg (by simpa using he)]
      rw [if_neg he] at hfl'
      exact r_one (r_brkS ⟨rfl, e2, ys3, n3, rfl, by rw [hfl']; exact hys3⟩)
  · rintro m' N' ⟨e0, e2, ys, n', acc, rfl, hys, hfl, hal⟩
    rw [hvl, List.drop_length] at hfl
    rw [hvl] at hal
    have hlen : ys.length ≤ 1000000 := by have := StrsAre.len hys; omega
    refine r_one (r_exprS fe (r_mcall (r_name fe k2 e2 ⟨_, _, gm_list upd_self PySem.F.slot_list_append PySem.F.type_list_append, kf_builtin, r_splCons (r_str fun t1 => r_splNil (r_append upd_self hlen fun n3 => ⟨fun a z => (nomatch z), rfl, e2, ys ++ [.str EMP t1], n3, ?_, ?_⟩))⟩)))
    · funext b; unfold upd; split <;> rfl
    · rw [hfl]; exact StrsAre.snoc' _ _ hys
  rintro m4 N4 ⟨e2, ys, n', rfl, hys⟩
  exact r_one (r_ret (r_name fe k2 e2 ⟨l, ys, n', rfl, hl, rfl, hys⟩))
end
end Mine

namespace Mine
open PySem PySem.Challenge
local macro_rules | `(tactic| walk_at "ms") => `(tactic| first | assumption | exact mset_self | (refine (mset_ne (by decide)).trans ?_; walk_at "ms"))

/-- a dict of lists: the fixed keys Ks, each with its own list [key]; the names ks, each with F's list -/
structure LDF (w : World) (tag : Addr → Nat) (N : Hp) (d : Addr) (t tb : Nat) (Ks ks : List Str) (F : Nat → List Str) (o : Obj) (kvs : List (Str × Value)) : Prop where
  cell : Cell tag N t d o
  isd : IsD w o kvs
  keys : kvs.map (·.1) = Ks ++ ks
  fix : ∀ y ∈ Ks, ∃ l n tk, valueAt kvs y = some (.ref l) ∧ Cell tag N 30 l (lst [.str y tk] n)
  var : ∀ i < 3, told i ∈ ks → ∃ l vs n, valueAt kvs (told i) = some (.ref l) ∧ Cell tag N (tb + i) l (lst vs n) ∧ StrsAre vs (F i)
section
variable {w : World} {tag tag' : Addr → Nat} {N N' : Hp} {d l : Addr} {t tb : Nat} {Ks ks : List Str} {F : Nat → List Str} {o o' : Obj} {kvs : List (Str × Value)} {T : Nat → Prop}
theorem LDF.ext (h : LDF w tag N d t tb Ks ks F o kvs) (e : Ext T tag N tag' N') (h1 : ¬ T t) (h2 : ¬ T 30) (h3 : ∀ i < 3, ¬ T (tb + i)) : LDF w tag' N' d t tb Ks ks F o kvs :=
  ⟨e _ _ _ h1 h.cell, h.isd, h.keys, fun y hy => let ⟨l, n, tk, e1, c⟩ := h.fix y hy; ⟨l, n, tk, e1, e _ _ _ h2 c⟩, fun i hi hk => let ⟨l, vs, n, e1, c, s⟩ := h.var i hi hk; ⟨l, vs, n, e1, e _ _ _ (h3 i hi) c, s⟩⟩
/-- a new fixed key -/
theorem LDF.addK (h : LDF w tag N d t tb Ks [] F o kvs) {y : Str} {tk : Tok} (hl : N l = none) (hy : y ∉ Ks) (ht : t ≠ 30) (hd' : IsD w o' (stored kvs y (.ref l))) : LDF w (tset tag l 30) (upd (upd N l (lst [.str y tk] 0)) d o') d t tb (Ks ++ [y]) [] F o' (stored kvs y (.ref l)) := by
  have hdl : d ≠ l := fun q => by have := h.cell.2; rw [q, hl] at this; cases this
  have hk := h.keys
  rw [List.append_nil] at hk
  refine ⟨⟨(if_neg hdl).trans h.cell.1, upd_self⟩, hd', ?_, fun z hz => ?_, fun i hi hk => by simp at hk⟩
  · rw [keys_stored, hk, if_neg hy, List.append_nil]
  · rw [valueAt_stored]
    by_cases hzy : z = y
    · subst hzy
      rw [if_pos rfl]
      exact ⟨l, 0, tk, rfl, if_pos rfl, by rw [upd_ne hdl.symm]; exact upd_self⟩
    · rw [if_neg hzy]
      have hz' : z ∈ Ks := (List.mem_append.mp hz).resolve_right fun q => hzy (List.mem_singleton.mp q)
      obtain ⟨l', n, tk', e1, c1⟩ := h.fix z hz'
      have c2 := c1.put (t' := 30) (o' := lst [.str y tk] 0) hl
      have : l' ≠ d := fun q => ht (by rw [← h.cell.1, ← q, c1.1])
      exact ⟨l', n, tk', e1, c2.1, by rw [upd_ne this]; exact c2.2⟩
/-- a new name, with an empty list -/
theorem LDF.addN (h : LDF w tag N d t tb Ks ks F o kvs) {i : Nat} (hi : i < 3) (hF : F i = []) (hl : N l = none) (hy : told i ∉ Ks ++ ks) (ht : t ≠ 30 ∧ (t < tb ∨ tb + 3 ≤ t)) (hin : ∀ y ∈ ks, ∃ j < 3, y = told j) (hd' : IsD w o' (stored kvs (told i) (.ref l))) :
    LDF w (tset tag l (tb + i)) (upd (upd N l (lst [] 0)) d o') d t tb Ks (ks ++ [told i]) F o' (stored kvs (told i) (.ref l)) := by
  have hdl : d ≠ l := fun q => by have := h.cell.2; rw [q, hl] at this; cases this
  refine ⟨⟨(if_neg hdl).trans h.cell.1, upd_self⟩, hd', ?_, fun z hz => ?_, fun j hj hk => ?_⟩
  · rw [keys_stored, h.keys, if_neg hy, List.append_assoc]
  · rw [valueAt_stored, if_neg (show ¬ z = told i from fun q => hy (q ▸ List.mem_append_left _ hz))]
    obtain ⟨l', n, tk', e1, c1⟩ := h.fix z hz
    have c2 := c1.put (t' := tb + i) (o' := lst [] 0) hl
    have : l' ≠ d := fun q => ht.1 (by rw [← h.cell.1, ← q, c1.1])
    exact ⟨l', n, tk', e1, c2.1, by rw [upd_ne this]; exact c2.2⟩
  · rw [valueAt_stored]
    by_cases hji : j = i
    · subst hji
      rw [if_pos rfl, hF]
      exact ⟨l, [], 0, rfl, ⟨if_pos rfl, by rw [upd_ne hdl.symm]; exact upd_self⟩, .nil⟩
    · have hne : told j ≠ told i := fun q => hji (told_inj j (by omega) i (by omega) q)
      rw [if_neg hne]
      have hk' : told j ∈ ks := (List.mem_append.mp hk).resolve_right fun q => hne (List.mem_singleton.mp q)
      obtain ⟨l', vs, n, e1, c1, s⟩ := h.var j hj hk'
      have c2 := c1.put (t' := tb + i) (o' := lst [] 0) hl
      have : l' ≠ d := fun q => by have := h.cell.1; rw [← q, c1.1] at this; omega
      exact ⟨l', vs, n, e1, ⟨c2.1, by rw [upd_ne this]; exact c2.2⟩, s⟩
/-- one more entry in a name's list -/
def putF (F : Nat → List Str) (i : Nat) (f : Str) : Nat → List Str := fun j => if j = i then F j ++ [f] else F j
theorem LDF.app (h : LDF w tag N d t tb Ks ks F o kvs) {i : Nat} (hi : i < 3) {f : Str} {tf : Tok} {vs : List Value} {n n' : Nat} (hc : Cell tag N (tb + i) l (lst vs n)) (hv : valueAt kvs (told i) = some (.ref l)) (hs : StrsAre vs (F i)) (ht : t < tb ∨ tb + 3 ≤ t) (h30 : 30 < tb ∨ tb + 3 ≤ 30) :
    LDF w tag (upd N l (lst (vs ++ [.str f tf]) n')) d t tb Ks ks (putF F i f) o kvs := by
  have cu : Ext (· = tb + i) tag N tag (upd N l (lst (vs ++ [.str f tf]) n')) := Ext.upd hc rfl
  refine ⟨cu _ _ _ (by omega) h.cell, h.isd, h.keys, fun y hy => let ⟨l', n, tk, e1, c⟩ := h.fix y hy; ⟨l', n, tk, e1, cu _ _ _ (by omega) c⟩, fun j hj hk => ?_⟩
  by_cases hji : j = i
  · subst hji
    refine ⟨l, _, n', hv, ⟨hc.1, upd_self⟩, ?_⟩
    unfold putF; rw [if_pos rfl]
    exact StrsAre.snoc' _ _ hs
  · obtain ⟨l', vs', n2, e1, c1, s⟩ := h.var j hj hk
    refine ⟨l', vs', n2, e1, cu _ _ _ (by omega) c1, ?_⟩
    unfold putF; rw [if_neg hji]; exact s
end

/-! what compute_first may reach -/
def Fx (F : Nat → List Str) (s : Nat) : List Str := if s < 3 then F s else [told s]
inductive FReach (rs : List Rl) : (Nat → List Str) → Prop
  | init : FReach rs fun _ => []
  | step {F F₀ : Nat → List Str} {r : Rl} {f : Str} : FReach rs F → FReach rs F₀ → r ∈ rs → f ∈ fl (Fx F₀) r.2 [] → f ∉ F r.1 → FReach rs (putF F r.1 f)
def FClosed (rs : List Rl) (F : Nat → List Str) (r : Rl) : Prop := ∀ f ∈ fl (Fx F) r.2 [], f ∈ F r.1
def univ : List Str := [told 3, told 4, told 5, told 6, EMP]
theorem addL_mem {acc fs : List Str} {f : Str} : f ∈ addL acc fs ↔ f ∈ acc ∨ (f ∈ fs ∧ f ≠ EMP) := by
  induction fs generalizing acc with
  | nil => simp [addL]
  | cons g r ih =>
    show f ∈ addL (add1 acc g) r ↔ _
    rw [ih, List.mem_cons]
    unfold add1
    split
    · rename_i h
      constructor
      · rintro (q | q)
        · exact .inl q
        · exact .inr ⟨.inr q.1, q.2⟩
      · rintro (q | ⟨q | q, n⟩)
        · exact .inl q
        · subst q; exact .inl (h.resolve_left n)
        · exact .inr ⟨q, n⟩
    · rename_i h
      rw [List.mem_append, List.mem_singleton]
      constructor
      · rintro ((q | q) | q)
        · exact .inl q
        · subst q; exact .inr ⟨.inl rfl, fun z => h (.inl z)⟩
        · exact .inr ⟨.inr q.1, q.2⟩
      · rintro (q | ⟨q | q, n⟩)
        · exact .inl (.inl q)
        · exact .inl (.inr q)
        · exact .inr ⟨q, n⟩
theorem fl_mem {F : Nat → List Str} {P : Str → Prop} (hE : P EMP) : ∀ (ss : List Nat) (acc : List Str), (∀ f ∈ acc, P f) → (∀ s ∈ ss, ∀ f ∈ F s, P f) → ∀ f ∈ fl F ss acc, P f
  | [], acc, ha, _, f, hf => by
    unfold fl at hf
    rcases List.mem_append.mp hf with hf | hf
    · exact ha f hf
    · rw [List.mem_singleton.mp hf]; exact hE
  | s :: r, acc, ha, hF, f, hf => by
    have hacc : ∀ f ∈ addL acc (F s), P f := fun f hf => (addL_mem.mp hf).elim (ha f) fun q => hF s (.head _) f q.1
    unfold fl at hf
    split at hf
    · exact fl_mem hE r _ hacc (fun x hx => hF x (.tail _ hx)) f hf
    · exact hacc f hf
theorem FReach.univ {rs : List Rl} (ok : ∀ r ∈ rs, Ok1 r) {F : Nat → List Str} (h : FReach rs F) : ∀ i, ∀ f ∈ F i, f ∈ univ := by
  induction h with
  | init => intro i f hf; simp at hf
  | @step F F₀ r f _ _ hr hf _ ih ih₀ =>
    intro i g hg
    unfold putF at hg
    split at hg
    · rcases List.mem_append.mp hg with hg | hg
      · exact ih i g hg
      · rw [List.mem_singleton.mp hg]
        refine fl_mem (P := fun f => f ∈ Mine.univ) (by decide) r.2 [] (fun f hf => by simp at hf) (fun s hs f hf => ?_) f hf
        unfold Fx at hf
        split at hf
        · exact ih₀ s f hf
        · rw [List.mem_singleton.mp hf]
          have h7 := (ok r hr).2.2 s hs
          have : s = 3 ∨ s = 4 ∨ s = 5 ∨ s = 6 := by omega
          rcases this with rfl | rfl | rfl | rfl <;> decide
    · exact ih i g hg
theorem FReach.nodup {rs : List Rl} {F : Nat → List Str} (h : FReach rs F) : ∀ i, (F i).Nodup := by
  induction h with
  | init => intro i; exact List.nodup_nil
  | @step F F₀ r f _ _ hr hf hn ih ih₀ =>
    intro i
    unfold putF
    split
    · rename_i q; subst q
      rw [List.nodup_append]
      exact ⟨ih _, by simp, fun x hx y hy => by rw [List.mem_singleton.mp hy]; exact fun z => hn (z ▸ hx)⟩
    · exact ih i
theorem FReach.len {rs : List Rl} (ok : ∀ r ∈ rs, Ok1 r) {F : Nat → List Str} (h : FReach rs F) (i : Nat) : (F i).length ≤ 5 := nodup_len (h.nodup i) (h.univ ok i)
def meaF (F : Nat → List Str) : Nat := 15 - ((F 0).length + (F 1).length + (F 2).length)
theorem FReach.put_mea {rs : List Rl} (ok : ∀ r ∈ rs, Ok1 r) {F : Nat → List Str} {i : Nat} (hi : i < 3) {f : Str} (h : FReach rs (putF F i f)) : meaF (putF F i f) < meaF F := by
  have h0 := h.len ok 0
  have h1 := h.len ok 1
  have h2 := h.len ok 2
  have : i = 0 ∨ i = 1 ∨ i = 2 := by omega
  unfold meaF
  rcases this with rfl | rfl | rfl <;> simp only [putF] at h0 h1 h2 ⊢ <;> simp only [if_true, List.length_append, List.length_singleton] at * <;> simp at h0 h1 h2 ⊢ <;> omega
end Mine

namespace Mine
open PySem PySem.Challenge
local macro_rules | `(tactic| walk_at "ms") => `(tactic| first | assumption | exact mset_self | (refine (mset_ne (by decide)).trans ?_; walk_at "ms"))

/-- the grammar's parts that are only read from here on -/
structure GX (w : World) (tag : Addr → Nat) (N : Hp) (g : Gr) (rs : List Rl) (ks : List Str) (B : Nat) : Prop where
  inst : ∃ at' c, InstT tag N 1 g.x g.dx 248 at' c ∧ GrAt at' g
  pl : ∃ p0 ps n, Cell tag N 2 g.pl (lst (p0 :: ps) n) ∧ AllAt (PR1 tag N) ps rs
  pn : ∃ o kvs, Cell tag N 3 g.pn o ∧ IsD w o kvs ∧ kvs.length ≤ B ∧ ∀ i < 3, (rs.filter (·.1 == i) = [] ∧ valueAt kvs (told i) = none) ∨ ∃ l vs n, valueAt kvs (told i) = some (.ref l) ∧ Cell tag N (11 + i) l (lst vs n) ∧ AllAt (PR1 tag N) vs (rs.filter (·.1 == i))
  te : JunkD w tag N g.te 5 (termK rs) B
  nt : JunkD w tag N g.nt 6 ks B
  rl : rs.length ≤ B
  ntnd : ks.Nodup
  ntin : ∀ y ∈ ks, ∃ i < 3, y = told i
  ntall : ∀ r ∈ rs, told r.1 ∈ ks ∧ ∀ s ∈ r.2, s < 3 → told s ∈ ks
theorem GA.gx {w : World} {tag : Addr → Nat} {N : Hp} {g : Gr} {rs : List Rl} {ks : List Str} {B : Nat} (h : GA w tag N g rs ks B) : GX w tag N g rs ks B :=
  ⟨let ⟨a, c, i, _, q⟩ := h.inst; ⟨a, c, i, q⟩, h.pl, h.pn, h.te, h.nt, h.rl, h.ntnd, h.ntin, h.ntall⟩
theorem GX.ext {w : World} {tag tag' : Addr → Nat} {N N' : Hp} {g : Gr} {rs : List Rl} {ks : List Str} {B : Nat} {T : Nat → Prop} (h : GX w tag N g rs ks B) (e : Ext T tag N tag' N') (hT : ∀ t, t ≤ 13 → t ≠ 7 → t ≠ 8 → ¬ T t) : GX w tag' N' g rs ks B := by
  have k := fun t ht h7 h8 a o c => e t a o (hT t ht h7 h8) c
  have z := fun t (ht : t ≤ 13 ∧ t ≠ 7 ∧ t ≠ 8) => hT t ht.1 ht.2.1 ht.2.2
  obtain ⟨⟨at', c, i, ga⟩, ⟨p0, ps, n, cp, hp⟩, ⟨o2, kv2, c2, d2, z2, h2⟩, h4, h5, h9, h10, h11, h12⟩ := h
  refine ⟨⟨at', c, i.ext e (z 0 (by decide)) (z 1 (by decide)), ga⟩, ⟨p0, ps, n, e _ _ _ (z 2 (by decide)) cp, hp.mono (PR1.ext e (z 0 (by decide)))⟩, ⟨o2, kv2, e _ _ _ (z 3 (by decide)) c2, d2, z2, fun i hi => ?_⟩,
    h4.ext e (z 5 (by decide)) (z 10 (by decide)), h5.ext e (z 6 (by decide)) (z 10 (by decide)), h9, h10, h11, h12⟩
  rcases h2 i hi with q | ⟨l, vs, n, e1, c1, p1⟩
  · exact .inl q
  · exact .inr ⟨l, vs, n, e1, e _ _ _ (z (11 + i) (by omega)) c1, p1.mono (PR1.ext e (z 0 (by decide)))⟩
theorem nodup_take {α : Type} {l : List α} (h : l.Nodup) {i : Nat} {y : α} (e : l[i]? = some y) : y ∉ l.take i := fun hm => by
  have : (l.take (i + 1)).Nodup := h.sublist (List.take_sublist _ _)
  rw [List.take_add_one, e] at this
  exact (List.nodup_append.mp this).2.2 y hm y (by simp) rfl
theorem termK_nodup {rs : List Rl} : (termK rs).Nodup := by unfold termK; split <;> decide
theorem termK_len {rs : List Rl} : (termK rs).length ≤ 4 := by unfold termK; split <;> decide
def ENDS : Str := "$end"
theorem ends_noterm {rs : List Rl} : ENDS ∉ termK rs := by unfold termK; split <;> decide +kernel
theorem ends_noname : ∀ i < 7, told i ≠ ENDS := lt7 (by decide +kernel)
section
variable {C C' : Cx} {m m' : Fm} {N N' R : Hp} {a l d x dx Cl fi : Addr} {k n c : Nat} {vs : List Value} {at' : Fm} {tag tag' : Addr → Nat} {w : World} {g : Gr} {rs : List Rl} {ks : List Str} {B : Nat} {r : Rl} {sy : Addr} {tn : Tok} {o : Obj} {kvs : List (Str × Value)}
set_option maxHeartbeats 800000 in
theorem cf_loop1 {cdA f : Addr} (hC' : Callee C "Grammar.compute_first" (SM 9 13) f cdA C' k) (hg : GX C'.w tag N g rs ks B) (hf : LDF C'.w tag N g.fi 7 20 [] [] (fun _ => []) o []) (e0 : m "self" = some (.ref g.x)) :
    Run C' (exec (stmtAt (SM 9 13) 1) C'.env) m N fun fl m' N' => fl = .next ∧ m' "self" = some (.ref g.x) ∧ ∃ tag' o kvs, Ext (fun t => t = 7) tag N tag' N' ∧ LDF C'.w tag' N' g.fi 7 20 (termK rs) [] (fun _ => []) o kvs := by
  have fe := callee_env hC' (by kernel_rfl)
  have k0 : C'.env.kindOf "self" = some .local := callee_kind hC' (by kernel_rfl)
  have k1 : C'.env.kindOf "t" = some .local := callee_kind hC' (by kernel_rfl)
  have hA := hC'.1
  have hh := hA.handled
  obtain ⟨at', ca, hi, hat⟩ := hg.inst
  obtain ⟨ote, kte, cte, dte, hkt, hvt⟩ := id hg.te
  let J : Nat → Fm → Hp → Prop := fun i m' N' => m' "self" = some (.ref g.x) ∧ ∃ tag' o kvs, Ext (fun t => t = 7) tag N tag' N' ∧ LDF C'.w tag' N' g.fi 7 20 ((termK rs).take i) [] (fun _ => []) o kvs
  with_unfolding_all refine r_for hh (r_selfAt fe hA k0 (by kernel_rfl) e0 hi.2.2 hat.te rfl ⟨_, _, _, itb_dict cte.2 dte, J, ⟨e0, tag, o, [], Ext.refl, hf⟩, ?_, ?_, ?_⟩)
  · intro b hb
    rw [List.mem_singleton.mp hb]
    exact ⟨_, fun i m N' h => by obtain ⟨_, tag', _, _, E, _⟩ := h; exact (E _ _ _ (by decide) cte).2⟩
  · rintro i v m1 N1 hlt ⟨y, u, ⟨ty, rfl⟩, hkv⟩ ⟨e0, tag1, o1, kv1, E1, h1⟩
    have hy : (termK rs)[i]? = some y := by rw [← hkt, List.getElem?_map, hkv]; rfl
    have hyn := nodup_take termK_nodup hy
    have i1 := hi.ext E1 (by decide) (by decide)
    have hkl : kv1.length ≤ 1000000 := by
      have := congrArg List.length h1.keys
      have h2 := List.length_take_le' i (termK rs)
      have h3 := termK_len (rs := rs)
      rw [List.length_map, List.append_nil] at this; omega
    refine r_asName fe k1 (r_one (r_assignSub (r_list (r_splCons (r_name fe k1 mset_self (r_splNil (r_newList (fun l hl => ?_) (by show 1 ≤ sizeLine; rw [sizeLine_eq]; omega))))))))
    have hdl : g.fi ≠ l := fun z => by have := h1.cell.2; rw [z, hl] at this; cases this
    refine r_selfAt fe hA k0 (by kernel_rfl) (by walk_at "ms") (i1.2.2.le (Le.upd hl)) hat.fi rfl (r_name fe k1 mset_self (r_dictSet (o := o1) (by rw [upd_ne hdl]; exact h1.cell.2) h1.isd hkl fun o' hd' => ?_))
    have h2 := h1.addK (tk := ty) hl hyn (by decide) hd'
    refine ⟨by walk_at "ms", tset tag1 l 30, o', stored kv1 y (.ref l), E1.trans ((Ext.new hl).trans (Ext.upd (h1.cell.put hl) rfl)), ?_⟩
    rw [List.take_add_one, hy]
    exact h2
  · rintro m1 N1 ⟨e0, tag1, o1, kv1, E1, h1⟩
    refine r_nil ⟨rfl, e0, tag1, o1, kv1, E1, ?_⟩
    have : (termK rs).take kte.length = termK rs := by rw [← hkt, ← List.length_map (f := (·.1)), List.take_length]
    rw [this] at h1
    exact h1
set_option maxHeartbeats 800000 in
theorem cf_loop2 {cdA f : Addr} {Ks : List Str} (hC' : Callee C "Grammar.compute_first" (SM 9 13) f cdA C' k) (hg : GX C'.w tag N g rs ks B) (hf : LDF C'.w tag N g.fi 7 20 Ks [] (fun _ => []) o kvs) (hK : ∀ i < 3, told i ∉ Ks) (hKl : Ks.length ≤ 10) (e0 : m "self" = some (.ref g.x)) :
    Run C' (exec (stmtAt (SM 9 13) 3) C'.env) m N fun fl m' N' => fl = .next ∧ m' "self" = some (.ref g.x) ∧ ∃ tag' o kvs, Ext (fun t => t = 7) tag N tag' N' ∧ LDF C'.w tag' N' g.fi 7 20 Ks ks (fun _ => []) o kvs := by
  have fe := callee_env hC' (by kernel_rfl)
  have k0 : C'.env.kindOf "self" = some .local := callee_kind hC' (by kernel_rfl)
  have k1 : C'.env.kindOf "n" = some .local := callee_kind hC' (by kernel_rfl)
  have hA := hC'.1
  have hh := hA.handled
  obtain ⟨at', ca, hi, hat⟩ := hg.inst
  obtain ⟨ote, kte, cte, dte, hkt, hvt⟩ := id hg.nt
  have hksl : ks.length ≤ 3 := nodup_len (l' := [told 0, told 1, told 2]) hg.ntnd fun y hy => by
    obtain ⟨i, hi, rfl⟩ := hg.ntin y hy
    have : i = 0 ∨ i = 1 ∨ i = 2 := by omega
    rcases this with rfl | rfl | rfl <;> simp
  let J : Nat → Fm → Hp → Prop := fun i m' N' => m' "self" = some (.ref g.x) ∧ ∃ tag' o kvs, Ext (fun t => t = 7) tag N tag' N' ∧ LDF C'.w tag' N' g.fi 7 20 Ks (ks.take i) (fun _ => []) o kvs
  with_unfolding_all refine r_for hh (r_selfAt fe hA k0 (by kernel_rfl) e0 hi.2.2 hat.nt rfl ⟨_, _, _, itb_dict cte.2 dte, J, ⟨e0, tag, o, kvs, Ext.refl, hf⟩, ?_, ?_, ?_⟩)
  · intro b hb
    rw [List.mem_singleton.mp hb]
    exact ⟨_, fun i m N' h => by obtain ⟨_, tag', _, _, E, _⟩ := h; exact (E _ _ _ (by decide) cte).2⟩
  · rintro i v m1 N1 hlt ⟨y, u, ⟨ty, rfl⟩, hkv⟩ ⟨e0, tag1, o1, kv1, E1, h1⟩
    have hy : ks[i]? = some y := by rw [← hkt, List.getElem?_map, hkv]; rfl
    have hyn := nodup_take hg.ntnd hy
    obtain ⟨j, hj, rfl⟩ := hg.ntin y (List.mem_of_getElem? hy)
    have i1 := hi.ext E1 (by decide) (by decide)
    have hkl : kv1.length ≤ 1000000 := by
      have := congrArg List.length h1.keys
      have h2 := List.length_take_le' i ks
      rw [List.length_map, List.length_append] at this; omega
    refine r_asName fe k1 (r_one (r_assignSub (r_list (r_splNil (r_newList (fun l hl => ?_) (by show 0 ≤ sizeLine; rw [sizeLine_eq]; omega))))))
    have hdl : g.fi ≠ l := fun z => by have := h1.cell.2; rw [z, hl] at this; cases this
    refine r_selfAt fe hA k0 (by kernel_rfl) (by walk_at "ms") (i1.2.2.le (Le.upd hl)) hat.fi rfl (r_name fe k1 mset_self (r_dictSet (o := o1) (by rw [upd_ne hdl]; exact h1.cell.2) h1.isd hkl fun o' hd' => ?_))
    have h2 := h1.addN (l := l) hj rfl hl (fun q => (List.mem_append.mp q).elim (hK j hj) hyn) (by decide) (fun y hy => hg.ntin y (List.mem_of_mem_take hy)) hd'
    refine ⟨by walk_at "ms", tset tag1 l (20 + j), o', stored kv1 (told j) (.ref l), E1.trans ((Ext.new hl).trans (Ext.upd (h1.cell.put hl) rfl)), ?_⟩
    rw [List.take_add_one, hy]
    exact h2
  · rintro m1 N1 ⟨e0, tag1, o1, kv1, E1, h1⟩
    refine r_nil ⟨rfl, e0, tag1, o1, kv1, E1, ?_⟩
    have : ks.take kte.length = ks := by rw [← hkt, ← List.length_map (f := (·.1)), List.take_length]
    rw [this] at h1
    exact h1
end
end Mine

namespace Mine
open PySem PySem.Challenge
local macro_rules | `(tactic| walk_at "ms") => `(tactic| first | assumption | exact mset_self | (refine (mset_ne (by decide)).trans ?_; walk_at "ms"))

theorem term_of {rs : List Rl} {r : Rl} (hr : r ∈ rs) {s : Nat} (hs : s ∈ r.2) (h3 : 3 ≤ s) (h7 : s < 7) : told s ∈ termK rs := by
  unfold termK
  have : s = 3 ∨ s = 4 ∨ s = 5 ∨ s = 6 := by omega
  rcases this with rfl | rfl | rfl | rfl
  · split <;> decide +kernel
  · split <;> decide +kernel
  · rw [if_pos (List.any_eq_true.mpr ⟨r, hr, by simpa using hs⟩)]; decide +kernel
  · split <;> decide +kernel
section
variable {C C' : Cx} {m m' : Fm} {N N' R : Hp} {a l d x dx Cl fi : Addr} {k n c : Nat} {vs : List Value} {at' : Fm} {tag tag' : Addr → Nat} {w : World} {g : Gr} {rs : List Rl} {ks : List Str} {B : Nat} {r : Rl} {sy : Addr} {tn : Tok} {o : Obj} {kvs : List (Str × Value)} {F : Nat → List Str}
theorem LDF.fat {t tb : Nat} (h : LDF w tag N d t tb (termK rs ++ [ENDS]) ks F o kvs) (ok : ∀ r ∈ rs, Ok1 r) (hall : ∀ r ∈ rs, told r.1 ∈ ks ∧ ∀ s ∈ r.2, s < 3 → told s ∈ ks) (hr : r ∈ rs) (hF : ∀ i, (F i).length ≤ 20) {ss : List Nat} (hss : ∀ s ∈ ss, s ∈ r.2) : FAt N kvs (Fx F) ss := fun s hs => by
  have h7 := (ok r hr).2.2 s (hss s hs)
  unfold Fx
  by_cases h3 : s < 3
  · rw [if_pos h3]
    obtain ⟨l, vs, n, e, c, z⟩ := h.var s h3 ((hall r hr).2 s (hss s hs) h3)
    exact ⟨l, vs, n, e, c.2, z, hF s⟩
  · rw [if_neg h3]
    obtain ⟨l, n, tk, e, c⟩ := h.fix (told s) (List.mem_append_left _ (term_of hr (hss s hs) (by omega) h7))
    exact ⟨l, _, n, e, c.2, .cons _ _ .nil, (by decide : 1 ≤ 20)⟩
set_option maxHeartbeats 4000000 in
theorem cf_loop {cdA f : Addr} (hC' : Callee C "Grammar.compute_first" (SM 9 13) f cdA C' (k + 1)) (hg : GX C'.w tag N g rs ks B) (ok : ∀ r ∈ rs, Ok1 r) (h3 : ∀ i < 3, ∃ r ∈ rs, r.1 = i) (hf : LDF C'.w tag N g.fi 7 20 (termK rs ++ [ENDS]) ks (fun _ => []) o kvs) (e0 : m "self" = some (.ref g.x)) :
    Run C' (exec (stmtAt (SM 9 13) 4) C'.env) m N fun fl m' N' => fl = .next ∧ m' "self" = some (.ref g.x) ∧ ∃ tag' F, Ext (fun t => 20 ≤ t ∧ t < 23) tag N tag' N' ∧ LDF C'.w tag' N' g.fi 7 20 (termK rs ++ [ENDS]) ks F o kvs ∧ FReach rs F ∧ ∀ r ∈ rs, FClosed rs F r := by
  have fe := callee_env hC' (by kernel_rfl)
  have k0 : C'.env.kindOf "self" = some .local := callee_kind hC' (by kernel_rfl)
  have k1 : C'.env.kindOf "n" = some .local := callee_kind hC' (by kernel_rfl)
  have k2 : C'.env.kindOf "p" = some .local := callee_kind hC' (by kernel_rfl)
  have k3 : C'.env.kindOf "f" = some .local := callee_kind hC' (by kernel_rfl)
  have k4 : C'.env.kindOf "some_change" = some .local := callee_kind hC' (by kernel_rfl)
  have hA := hC'.1
  have hh := hA.handled
  obtain ⟨at', ca, hi, hat⟩ := hg.inst
  obtain ⟨ote, kte, cte, dte, hkt, hvt⟩ := id hg.nt
  obtain ⟨opn, kpn, cpn, dpn, zpn, hpn⟩ := id hg.pn
  let St : (Nat → List Str) → Fm → Hp → Prop := fun F m' N' => m' "self" = some (.ref g.x) ∧ FReach rs F ∧ ∃ tag', Ext (fun t => 20 ≤ t ∧ t < 23) tag N tag' N' ∧ LDF C'.w tag' N' g.fi 7 20 (termK rs ++ [ENDS]) ks F o kvs
  let Pr : (Nat → List Str) → Prop → Fm → Hp → Prop := fun Fw D m' N' => ∃ F b, St F m' N' ∧ m' "some_change" = some (.bool b) ∧ (b = true → meaF F < meaF Fw) ∧ (b = false → F = Fw ∧ D)
  with_unfolding_all refine r_while (fun n m' N' => ∃ F, St F m' N' ∧ n = meaF F) (meaF fun _ => []) ⟨_, ⟨e0, .init, tag, Ext.refl, hf⟩, rfl⟩ ?_
  rintro n1 m1 N1 ⟨Fw, ⟨e0, hr, tag1, E1, h1⟩, rfl⟩
  refine r_tPlain (r_bool (r_tBool ?_))
  rw [if_pos rfl]
  refine r_cons (r_assign fe k4 (r_bool ?_))
  refine r_consM (fun m' N' => Pr Fw (∀ r ∈ rs, FClosed rs Fw r) m' N') (r_for hh (r_selfAt fe hA k0 (by kernel_rfl) (by walk_at "ms") (hi.ext E1 (by decide) (by decide)).2.2 hat.nt rfl ⟨_, _, _, itb_dict (E1 _ _ _ (by decide) cte).2 dte, fun i => Pr Fw (∀ r ∈ rs, told r.1 ∈ ks.take i → FClosed rs Fw r), ⟨Fw, false, ⟨by walk_at "ms", hr, tag1, E1, h1⟩, mset_self, fun q => (nomatch q), fun _ => ⟨rfl, fun r hr z => by simp at z⟩⟩, ?_, ?_, ?_⟩)) ?_
  · intro b hb
    rw [List.mem_singleton.mp hb]
    exact ⟨_, fun i m N' h => by obtain ⟨_, _, ⟨_, _, tag', E, _⟩, _⟩ := h; exact (E _ _ _ (by decide) cte).2⟩
  · rintro i v m2 N2 hlt ⟨y, u, ⟨ty, rfl⟩, hkv⟩ ⟨F2, b2, ⟨e0, hr2, tag2, E2, h2⟩, eb, hb1, hb2⟩
    have hy : ks[i]? = some y := by rw [← hkt, List.getElem?_map, hkv]; rfl
    obtain ⟨j, hj, rfl⟩ := hg.ntin y (List.mem_of_getElem? hy)
    have htk : ks.take (i + 1) = ks.take i ++ [told j] := by rw [List.take_add_one, hy]; rfl
    refine r_asName fe k1 ?_
    rcases hpn j hj with ⟨q, _⟩ | ⟨lp, ps, np, vp, cp, ap⟩
    · obtain ⟨r, hr, hrj⟩ := h3 j hj
      have : r ∈ rs.filter (·.1 == j) := List.mem_filter.mpr ⟨hr, by simpa using hrj⟩
      rw [q] at this; exact absurd this List.not_mem_nil
    have hlp : ps.length = (rs.filter (·.1 == j)).length := ap.1
    refine r_one (r_for hh (r_sub (r_selfAt fe hA k0 (by kernel_rfl) (by walk_at "ms") (hi.ext E2 (by decide) (by decide)).2.2 hat.pn rfl (r_name fe k1 mset_self ⟨hi_dict (E2 _ _ _ (by decide) cpn).2 dpn, r_dictGet (E2 _ _ _ (by decide) cpn).2 dpn vp
      ⟨_, _, _, itb_list (E2 _ _ _ (by omega) cp).2, fun z m' N' => (∃ tn, m' "n" = some (.str (told j) tn)) ∧ Pr Fw ((∀ r ∈ rs, told r.1 ∈ ks.take i → FClosed rs Fw r) ∧ ∀ r ∈ (rs.filter (·.1 == j)).take z, FClosed rs Fw r) m' N',
        ⟨⟨ty, mset_self⟩, F2, b2, ⟨by walk_at "ms", hr2, tag2, E2, h2⟩, by walk_at "ms", hb1, fun q => ⟨(hb2 q).1, (hb2 q).2, fun r hr => by simp at hr⟩⟩, ?_, ?_, ?_⟩⟩))))
    · intro b hb
      rw [List.mem_singleton.mp hb]
      exact ⟨_, fun i m N' h => by obtain ⟨_, _, _, ⟨_, _, tag', E, _⟩, _⟩ := h; exact (E _ _ _ (by omega) cp).2⟩
    · rintro z v m3 N3 hz hv ⟨⟨tn, en⟩, F3, b3, ⟨e0, hr3, tag3, E3, h3'⟩, eb, hc1, hc2⟩
      obtain ⟨r, hrz, xp, dxp, atp, cap, pt, us, rfl, ip, _, hpr, cpt, hus⟩ := ap.get hv
      have hrf := List.mem_filter.mp (List.mem_of_getElem? hrz)
      have hrm := hrf.1
      have hrj : r.1 = j := by simpa using hrf.2
      have okr := ok r hrm
      have htz : (rs.filter (·.1 == j)).take (z + 1) = (rs.filter (·.1 == j)).take z ++ [r] := by rw [List.take_add_one, hrz]; rfl
      have hF3 : ∀ i, (F3 i).length ≤ 20 := fun i => by have := hr3.len ok i; omega
      refine r_asName fe k2 ?_
      refine r_one (r_for hh (r_mcall (r_name fe k0 (by walk_at "ms") ⟨_, _, gm_own (f := 223) hA (hi.ext E3 (by decide) (by decide)).2.2 (by kernel_rfl) (by kernel_rfl) (by kernel_rfl) hat.m3, kf_ref hA (by kernel_rfl),
        r_splCons (r_attr (r_name fe k2 mset_self (r_getAttr hA (ip.ext E3 (by decide) (by decide)).2.2 (by kernel_rfl) hpr rfl (r_splNil ?_))))⟩)))
      refine first_call hA (hi.ext E3 (by decide) (by decide)).2.2 hat.fi h3'.cell.2 h3'.isd (E3 _ _ _ (by decide) cpt).2 hus okr.2.2 (by have := okr.2.1; omega) (h3'.fat ok hg.ntall hrm hF3 fun s hs => hs) ?_
      rintro _ _ ⟨l, ys, nl, rfl, hl, rfl, hys⟩
      generalize hfs : fl (Fx F3) r.2 [] = fs at hys
      have hfl : ys.length = fs.length := StrsAre.len hys
      have E4 : Ext (fun t => 20 ≤ t ∧ t < 23) tag N (tset tag3 l 31) (upd N3 l (lst ys nl)) := E3.trans (Ext.new hl)
      have h4 := h3'.ext (Ext.new (T := fun _ => False) (t := 31) (o := lst ys nl) hl) (fun q => q) (fun q => q) (fun _ _ q => q)
      let J3 : Nat → Fm → Hp → Prop := fun q m' N' => (∃ tn, m' "n" = some (.str (told j) tn)) ∧ m' "self" = some (.ref g.x) ∧ ∃ F b tag', FReach rs F ∧ Ext (fun t => 20 ≤ t ∧ t < 23) tag N tag' N' ∧ Cell tag' N' 31 l (lst ys nl) ∧ LDF C'.w tag' N' g.fi 7 20 (termK rs ++ [ENDS]) ks F o kvs ∧ m' "some_change" = some (.bool b) ∧ (b = true → meaF F < meaF Fw) ∧ (b = false → b3 = false ∧ F = Fw ∧ ∀ f ∈ fs.take q, f ∈ Fw j)
      refine ⟨_, _, _, itb_list upd_self, J3, ⟨⟨tn, by walk_at "ms"⟩, by walk_at "ms", F3, b3, _, hr3, E4, Cell.new, h4, by walk_at "ms", hc1, fun q => ⟨q, (hc2 q).1, fun f hf => by simp at hf⟩⟩, ?_, ?_, ?_⟩
      · intro b hb
        rw [List.mem_singleton.mp hb]
        exact ⟨_, fun i m N' h => by obtain ⟨_, _, _, _, tag', _, _, c, _⟩ := h; exact c.2⟩
      · rintro q v m5 N5 hq hv5 ⟨⟨tn, en⟩, e0, F5, b5, tag5, hr5, E5, c5, h5, eb, hd1, hd2⟩
        obtain ⟨f, tf, rfl, hf⟩ := strs_at hys hv5
        have hfm := List.mem_of_getElem? hf
        have htq : fs.take (q + 1) = fs.take q ++ [f] := by rw [List.take_add_one, hf]; rfl
        obtain ⟨lj, vj, nj, ej, cj, sj⟩ := h5.var j hj (List.mem_of_getElem? hy)
        have hvl : vj.length ≤ 1000000 := by have := StrsAre.len sj; have := hr5.len ok j; omega
        refine r_asName fe k3 (r_one (r_ifS (r_tCmp (r_name fe k3 mset_self (r_sub (r_selfAt fe hA k0 (by kernel_rfl) (by walk_at "ms") (hi.ext E5 (by decide) (by decide)).2.2 hat.fi rfl (r_name fe k1 (by walk_at "ms") ⟨hi_dict h5.cell.2 h5.isd, r_dictGet h5.cell.2 h5.isd ej (r_notInStrs cj.2 sj (r_tBool ?_))⟩)))))))
        by_cases hin : f ∈ F5 j
        · rw [show (F5 j).any (· == f) = true from List.any_eq_true.mpr ⟨f, hin, by simp⟩, if_neg (by decide)]
          refine r_nil ⟨⟨tn, by walk_at "ms"⟩, by walk_at "ms", F5, b5, tag5, hr5, E5, c5, h5, by walk_at "ms", hd1, fun z => ⟨(hd2 z).1, (hd2 z).2.1, fun f' hf' => ?_⟩⟩
          rw [htq] at hf'
          rcases List.mem_append.mp hf' with hf' | hf'
          · exact (hd2 z).2.2 f' hf'
          · rw [List.mem_singleton.mp hf', ← (hd2 z).2.1]; exact hin
        · rw [show (F5 j).any (· == f) = false from by rw [List.any_eq_false]; intro z hz q; exact hin (beq_iff_eq.mp q ▸ hz), if_pos (by decide)]
          have hr6 : FReach rs (putF F5 j f) := by
            have := FReach.step (f := f) hr5 hr3 hrm (by rw [hfs]; exact hfm) (by rw [hrj]; exact hin)
            rwa [hrj] at this
          have hm6 := hr6.put_mea ok hj
          refine r_cons (r_exprS fe (r_mcall (r_sub (r_selfAt fe hA k0 (by kernel_rfl) (by walk_at "ms") (hi.ext E5 (by decide) (by decide)).2.2 hat.fi rfl (r_name fe k1 (by walk_at "ms") ⟨hi_dict h5.cell.2 h5.isd, r_dictGet h5.cell.2 h5.isd ej ⟨_, _, gm_list cj.2 PySem.F.slot_list_append PySem.F.type_list_append, kf_builtin, r_splCons (r_name fe k3 mset_self (r_splNil (r_append cj.2 hvl fun n' => ⟨fun a z => (nomatch z), ?_⟩)))⟩⟩)))))
          have h6 := h5.app (f := f) (tf := tf) (n' := n') hj cj ej sj (by decide) (by decide)
          have X : Ext (fun t => 20 ≤ t ∧ t < 23) tag5 N5 tag5 (upd N5 lj (lst (vj ++ [.str f tf]) n')) := Ext.upd cj ⟨by omega, by omega⟩
          refine r_one (r_assign fe k4 (r_bool ?_))
          refine ⟨⟨tn, by walk_at "ms"⟩, by walk_at "ms", _, true, tag5, hr6, E5.trans X, X _ _ _ (by decide) c5, h6, mset_self, fun _ => ?_, fun z => nomatch z⟩
          cases b5 with
          | true => exact Nat.lt_trans hm6 (hd1 rfl)
          | false => rw [← (hd2 rfl).2.1]; exact hm6
      · rintro m6 N6 ⟨⟨tn, en⟩, e0, F6, b6, tag6, hr6, E6, c6, h6, eb, hd1, hd2⟩
        refine r_nil ⟨⟨tn, en⟩, F6, b6, ⟨e0, hr6, tag6, E6, h6⟩, eb, hd1, fun z => ?_⟩
        obtain ⟨q1, q2, q3⟩ := hd2 z
        refine ⟨q2, (hc2 q1).2.1, fun r' hr' => ?_⟩
        rw [htz] at hr'
        rcases List.mem_append.mp hr' with hr' | hr'
        · exact (hc2 q1).2.2 r' hr'
        · rw [List.mem_singleton.mp hr']
          intro f hf
          rw [← (hc2 q1).1, hfs] at hf
          rw [hfl, List.take_length] at q3
          rw [hrj]; exact q3 f hf
    · rintro m6 N6 ⟨_, F6, b6, s6, eb, hd1, hd2⟩
      refine r_nil ⟨F6, b6, s6, eb, hd1, fun z => ⟨(hd2 z).1, fun r hr hk => ?_⟩⟩
      obtain ⟨_, q1, q2⟩ := hd2 z
      rw [hlp, List.take_length] at q2
      rw [htk] at hk
      rcases List.mem_append.mp hk with hk | hk
      · exact q1 r hr hk
      · refine q2 r (List.mem_filter.mpr ⟨hr, ?_⟩)
        have := told_inj _ (by have := (ok r hr).1; omega) _ (by omega) (List.mem_singleton.mp hk)
        simpa using this
  · rintro m6 N6 ⟨F6, b6, s6, eb, hd1, hd2⟩
    refine r_nil ⟨rfl, F6, b6, s6, eb, hd1, fun z => ⟨(hd2 z).1, fun r hr => (hd2 z).2 r hr ?_⟩⟩
    have : ks.take kte.length = ks := by rw [← hkt, ← List.length_map (f := (·.1)), List.take_length]
    rw [this]
    exact (hg.ntall r hr).1
  rintro m6 N6 ⟨F6, b6, s6, eb, hd1, hd2⟩
  refine r_one (r_ifS (r_tNot (r_tPlain (r_name fe k4 eb (r_tBool ?_)))))
  cases b6 with
  | true =>
    rw [if_neg (by decide)]
    exact r_nil ⟨_, hd1 rfl, F6, s6, rfl⟩
  | false =>
    rw [if_pos (by decide)]
    obtain ⟨e0, hr6, tag6, E6, h6⟩ := s6
    obtain ⟨q1, q2⟩ := hd2 rfl
    exact r_one (r_brkS ⟨rfl, e0, tag6, F6, E6, h6, hr6, by rw [q1]; exact q2⟩)
end
end Mine

namespace Mine
open PySem PySem.Challenge
local macro_rules | `(tactic| walk_at "ms") => `(tactic| first | assumption | exact mset_self | (refine (mset_ne (by decide)).trans ?_; walk_at "ms"))
section
variable {C C' : Cx} {m m' : Fm} {N N' R : Hp} {a l d x dx Cl fi : Addr} {k n c : Nat} {vs : List Value} {at' : Fm} {tag tag' : Addr → Nat} {w : World} {g : Gr} {rs : List Rl} {ks : List Str} {B : Nat} {r : Rl} {sy : Addr} {tn : Tok} {o : Obj} {kvs : List (Str × Value)} {F : Nat → List Str}
/-- First, done -/
def FstP (w : World) (tag : Addr → Nat) (N : Hp) (g : Gr) (rs : List Rl) (ks : List Str) (v : Value) (N' : Hp) : Prop :=
  v = .ref g.fi ∧ ∃ tag' o kvs F, Ext (fun t => t = 7 ∨ 20 ≤ t ∧ t < 23) tag N tag' N' ∧ LDF w tag' N' g.fi 7 20 (termK rs ++ [ENDS]) ks F o kvs ∧ FReach rs F ∧ ∀ r ∈ rs, FClosed rs F r
set_option maxHeartbeats 2000000 in
theorem cfirst_call (hC : Amb C (k + 2)) (hg : GX C.w tag N g rs ks B) (ok : ∀ r ∈ rs, Ok1 r) (h3 : ∀ i < 3, ∃ r ∈ rs, r.1 = i) (hf : Cell tag N 7 g.fi o) (hd : IsD C.w o []) {Q : Value → Fm → Hp → Prop}
    (q : ∀ tag' N' o kvs F, Ext (fun t => t = 7 ∨ 20 ≤ t ∧ t < 23) tag N tag' N' → LDF C.w tag' N' g.fi 7 20 (termK rs ++ [ENDS]) ks F o kvs → FReach rs F → (∀ r ∈ rs, FClosed rs F r) → Q (.ref g.fi) m N') : Run C (call (.ref 230) [.ref g.x]) m N Q := by
  refine r_call (cr_call_def (P := FstP C.w tag N g rs ks) hC (SM 9 13) "Grammar.compute_first" [("self", .ref g.x)] (lk230 _) (by kernel_rfl) (fun s _ => BindsTo.of_eq (by kernel_rfl)) (locs (by kernel_rfl)) (by decide +kernel) (by kernel_rfl) (by kernel_rfl) (by kernel_rfl) (fun C' hC' => ?_)
    (fun v N' ⟨e, tag', o, kvs, F, h1, h2, h3, h4⟩ => by rw [e]; exact q tag' N' o kvs F h1 h2 h3 h4))
  have hw : C'.w = C.w := hC'.2.1
  rw [← hw] at hg hd ⊢
  have fe := callee_env hC' (by kernel_rfl)
  have k0 : C'.env.kindOf "self" = some .local := callee_kind hC' (by kernel_rfl)
  have hA := hC'.1
  obtain ⟨at', ca, hi, hat⟩ := hg.inst
  with_unfolding_all refine r_cons ?_
  refine r_genm (fun m => m "self" = some (.ref g.x)) rfl fun m0 e0 => ?_
  refine r_ifS (r_tPlain (r_selfAt fe hA k0 (by kernel_rfl) e0 hi.2.2 hat.fi rfl (r_truthDict hf.2 hd (by simp) ?_)))
  rw [if_neg (by decide)]
  refine r_nil ?_
  have h0 : LDF C'.w tag N g.fi 7 20 [] [] (fun _ => []) o [] := ⟨hf, hd, rfl, fun y hy => by simp at hy, fun i _ hk => by simp at hk⟩
  refine r_cons (r_mono (cf_loop1 hC' hg h0 e0) ?_)
  rintro _ m1 N1 ⟨rfl, e0, tag1, o1, kv1, E1, h1⟩
  have i1 := hi.ext E1 (by decide) (by decide)
  have hkl : kv1.length ≤ 1000000 := by
    have := congrArg List.length h1.keys
    have h3 := termK_len (rs := rs)
    rw [List.length_map, List.append_nil] at this; omega
  refine r_cons (r_assignSub (r_list (r_splCons (r_str fun t1 => r_splNil (r_newList (fun l hl => ?_) (by show 1 ≤ sizeLine; rw [sizeLine_eq]; omega))))))
  have hdl : g.fi ≠ l := fun z => by have := h1.cell.2; rw [z, hl] at this; cases this
  refine r_selfAt fe hA k0 (by kernel_rfl) e0 (i1.2.2.le (Le.upd hl)) hat.fi rfl (r_str fun t2 => r_dictSet (o := o1) (by rw [upd_ne hdl]; exact h1.cell.2) h1.isd hkl fun o' hd' => ?_)
  have h2 := h1.addK (y := ENDS) (tk := t1) hl ends_noterm (by decide) hd'
  have E2 : Ext (fun t => t = 7) tag N (tset tag1 l 30) _ := E1.trans ((Ext.new (o := lst [.str ENDS t1] 0) hl).trans (Ext.upd (o' := o') (h1.cell.put hl) rfl))
  refine r_cons (r_mono (cf_loop2 hC' (hg.ext E2 (fun t _ h _ => h)) h2 (fun i hi q => ?_) ?_ e0) ?_)
  · rcases List.mem_append.mp q with q | q
    · exact name_noterm i hi q
    · exact ends_noname i (by omega) (List.mem_singleton.mp q)
  · have := termK_len (rs := rs)
    rw [List.length_append]; show _ + 1 ≤ 10; omega
  rintro _ m3 N3 ⟨rfl, e0, tag3, o3, kv3, E3, h3'⟩
  have E3' := E2.trans E3
  refine r_cons (r_mono (cf_loop hC' (hg.ext E3' (fun t _ h _ => h)) ok h3 h3' e0) ?_)
  rintro _ m4 N4 ⟨rfl, e0, tag4, F, E4, h4, hr, hc⟩
  have E : Ext (fun t => t = 7 ∨ 20 ≤ t ∧ t < 23) tag N tag4 N4 := (E3'.mono fun t h => .inl h).trans (E4.mono fun t h => .inr h)
  exact r_one (r_ret (r_selfAt fe hA k0 (by kernel_rfl) e0 (hi.ext E (by decide) (by decide)).2.2 hat.fi rfl ⟨rfl, tag4, o3, kv3, F, E, h4, hr, hc⟩))
set_option maxHeartbeats 1000000 in
/-- the second time -/
theorem cfirst_again (hC : Amb C (k + 2)) (hg : GX C.w tag N g rs ks B) (hf : Cell tag N 7 g.fi o) (hd : IsD C.w o kvs) (hz : kvs.length ≤ 1000000) (hne : kvs ≠ []) {Q : Value → Fm → Hp → Prop}
    (q : Q (.ref g.fi) m N) : Run C (call (.ref 230) [.ref g.x]) m N Q := by
  refine r_call (cr_call_def (P := fun v N' => v = .ref g.fi ∧ N' = N) hC (SM 9 13) "Grammar.compute_first" [("self", .ref g.x)] (lk230 _) (by kernel_rfl) (fun s _ => BindsTo.of_eq (by kernel_rfl)) (locs (by kernel_rfl)) (by decide +kernel) (by kernel_rfl) (by kernel_rfl) (by kernel_rfl) (fun C' hC' => ?_)
    (fun v N' ⟨e, e'⟩ => by rw [e, e']; exact q))
  have hw : C'.w = C.w := hC'.2.1
  rw [← hw] at hg hd
  have fe := callee_env hC' (by kernel_rfl)
  have k0 : C'.env.kindOf "self" = some .local := callee_kind hC' (by kernel_rfl)
  have hA := hC'.1
  obtain ⟨at', ca, hi, hat⟩ := hg.inst
  with_unfolding_all refine r_cons ?_
  refine r_genm (fun m => m "self" = some (.ref g.x)) rfl fun m0 e0 => ?_
  refine r_ifS (r_tPlain (r_selfAt fe hA k0 (by kernel_rfl) e0 hi.2.2 hat.fi rfl (r_truthDict hf.2 hd hz ?_)))
  rw [if_pos (by cases kvs with | nil => exact absurd rfl hne | cons => rfl)]
  exact r_one (r_ret (r_selfAt fe hA k0 (by kernel_rfl) e0 hi.2.2 hat.fi rfl ⟨rfl, rfl⟩))
end
end Mine

namespace Mine
open PySem PySem.Challenge
local macro_rules | `(tactic| walk_at "ms") => `(tactic| first | assumption | exact mset_self | (refine (mset_ne (by decide)).trans ?_; walk_at "ms"))

/-! what compute_follow may reach -/
def setF (F : Nat → List Str) (i : Nat) (ys : List Str) : Nat → List Str := fun j => if j = i then ys else F j
def W0 (st : Nat) : Nat → List Str := setF (fun _ => []) st [ENDS]
inductive GReach (rs : List Rl) (F : Nat → List Str) (st : Nat) : (Nat → List Str) → Prop
  | init : GReach rs F st (W0 st)
  | after {G : Nat → List Str} {r : Rl} {i b : Nat} {f : Str} : GReach rs F st G → r ∈ rs → r.2[i]? = some b → b < 3 → f ∈ fl (Fx F) (r.2.drop (i + 1)) [] → f ≠ EMP → f ∉ G b → GReach rs F st (putF G b f)
  | trail {G G₀ : Nat → List Str} {r : Rl} {i b : Nat} {f : Str} : GReach rs F st G → GReach rs F st G₀ → r ∈ rs → r.2[i]? = some b → b < 3 → EMP ∈ fl (Fx F) (r.2.drop (i + 1)) [] → f ∈ G₀ r.1 → f ∉ G b → GReach rs F st (putF G b f)
def GClosed (F G : Nat → List Str) (r : Rl) (i b : Nat) : Prop := (∀ f ∈ fl (Fx F) (r.2.drop (i + 1)) [], f ≠ EMP → f ∈ G b) ∧ (EMP ∈ fl (Fx F) (r.2.drop (i + 1)) [] → ∀ f ∈ G r.1, f ∈ G b)
def univG : List Str := [told 3, told 4, told 5, told 6, ENDS]
theorem GReach.univ {rs : List Rl} {F : Nat → List Str} {st : Nat} (ok : ∀ r ∈ rs, Ok1 r) (hF : FReach rs F) {G : Nat → List Str} (h : GReach rs F st G) : ∀ i, ∀ f ∈ G i, f ∈ univG := by
  have put : ∀ (G : Nat → List Str) b f, (∀ i, ∀ f ∈ G i, f ∈ univG) → f ∈ univG → ∀ i, ∀ g ∈ putF G b f i, g ∈ univG := fun G b f h1 h2 i g hg => by
    unfold putF at hg
    split at hg
    · rcases List.mem_append.mp hg with hg | hg
      · exact h1 i g hg
      · rw [List.mem_singleton.mp hg]; exact h2
    · exact h1 i g hg
  induction h with
  | init =>
    intro i f hf
    unfold W0 setF at hf
    split at hf
    · rw [List.mem_singleton.mp hf]; decide +kernel
    · simp at hf
  | @after G r i b f _ hr _ _ hf hn _ ih =>
    refine put _ _ _ ih ?_
    have := fl_mem (F := Fx F) (P := fun f => f ∈ Mine.univ) (by decide +kernel) (r.2.drop (i + 1)) [] (fun f hf => by simp at hf) (fun s hs f hf => ?_) f hf
    · simp only [Mine.univ, univG, List.mem_cons, List.not_mem_nil, or_false] at this ⊢
      rcases this with h | h | h | h | h
      · exact .inl h
      · exact .inr (.inl h)
      · exact .inr (.inr (.inl h))
      · exact .inr (.inr (.inr (.inl h)))
      · exact absurd h hn
    · unfold Fx at hf
      split at hf
      · exact hF.univ ok s f hf
      · rw [List.mem_singleton.mp hf]
        have h7 := (ok r hr).2.2 s (List.mem_of_mem_drop hs)
        have : s = 3 ∨ s = 4 ∨ s = 5 ∨ s = 6 := by omega
        rcases this with rfl | rfl | rfl | rfl <;> decide +kernel
  | @trail G G₀ r i b f _ _ _ _ _ _ hf _ ih ih₀ => exact put _ _ _ ih (ih₀ _ f hf)
theorem GReach.nodup {rs : List Rl} {F : Nat → List Str} {st : Nat} {G : Nat → List Str} (h : GReach rs F st G) : ∀ i, (G i).Nodup := by
  have put : ∀ (G : Nat → List Str) b f, (∀ i, (G i).Nodup) → f ∉ G b → ∀ i, (putF G b f i).Nodup := fun G b f h1 h2 i => by
    unfold putF
    split
    · rename_i q; subst q
      rw [List.nodup_append]
      exact ⟨h1 _, by simp, fun x hx y hy => by rw [List.mem_singleton.mp hy]; exact fun z => h2 (z ▸ hx)⟩
    · exact h1 i
  induction h with
  | init => intro i; unfold W0 setF; split <;> simp
  | after _ _ _ _ _ _ hn ih => exact put _ _ _ ih hn
  | trail _ _ _ _ _ _ _ hn ih _ => exact put _ _ _ ih hn
theorem GReach.len {rs : List Rl} {F : Nat → List Str} {st : Nat} (ok : ∀ r ∈ rs, Ok1 r) (hF : FReach rs F) {G : Nat → List Str} (h : GReach rs F st G) (i : Nat) : (G i).length ≤ 5 := nodup_len (h.nodup i) (h.univ ok hF i)
theorem GReach.put_mea {rs : List Rl} {F : Nat → List Str} {st : Nat} (ok : ∀ r ∈ rs, Ok1 r) (hF : FReach rs F) {G : Nat → List Str} {i : Nat} (hi : i < 3) {f : Str} (h : GReach rs F st (putF G i f)) : meaF (putF G i f) < meaF G := by
  have h0 := h.len ok hF 0
  have h1 := h.len ok hF 1
  have h2 := h.len ok hF 2
  have : i = 0 ∨ i = 1 ∨ i = 2 := by omega
  unfold meaF
  rcases this with rfl | rfl | rfl <;> simp only [putF] at h0 h1 h2 ⊢ <;> simp only [if_true, List.length_append, List.length_singleton] at * <;> simp at h0 h1 h2 ⊢ <;> omega
section
variable {C C' : Cx} {m m' : Fm} {N N' R : Hp} {a l d x dx Cl fi : Addr} {k n c : Nat} {vs : List Value} {at' : Fm} {tag tag' : Addr → Nat} {w : World} {g : Gr} {rs : List Rl} {ks : List Str} {B : Nat} {r : Rl} {sy : Addr} {tn : Tok} {o o' : Obj} {kvs : List (Str × Value)} {F : Nat → List Str}
/-- a name's list is replaced -/
theorem LDF.setN {t tb : Nat} {Ks : List Str} {ys : List Str} (h : LDF w tag N d t tb Ks ks F o kvs) {i : Nat} (hi : i < 3) (hs : StrsAre vs ys) (hl : N l = none) (hy : told i ∉ Ks) (hk : told i ∈ ks) (ht : t ≠ 30 ∧ (t < tb ∨ tb + 3 ≤ t)) (hd' : IsD w o' (stored kvs (told i) (.ref l))) :
    LDF w (tset tag l (tb + i)) (upd (upd N l (lst vs 0)) d o') d t tb Ks ks (setF F i ys) o' (stored kvs (told i) (.ref l)) := by
  have hdl : d ≠ l := fun q => by have := h.cell.2; rw [q, hl] at this; cases this
  refine ⟨⟨(if_neg hdl).trans h.cell.1, upd_self⟩, hd', ?_, fun z hz => ?_, fun j hj hkj => ?_⟩
  · rw [keys_stored, h.keys, if_pos (List.mem_append_right _ hk)]
  · rw [valueAt_stored, if_neg (show ¬ z = told i from fun q => hy (q ▸ hz))]
    obtain ⟨l', n, tk, e1, c1⟩ := h.fix z hz
    have c2 := c1.put (t' := tb + i) (o' := lst vs 0) hl
    have : l' ≠ d := fun q => ht.1 (by rw [← h.cell.1, ← q, c1.1])
    exact ⟨l', n, tk, e1, c2.1, by rw [upd_ne this]; exact c2.2⟩
  · rw [valueAt_stored]
    by_cases hji : j = i
    · subst hji
      rw [if_pos rfl]
      refine ⟨l, vs, 0, rfl, ⟨if_pos rfl, by rw [upd_ne hdl.symm]; exact upd_self⟩, ?_⟩
      unfold setF; rw [if_pos rfl]; exact hs
    · have hne : told j ≠ told i := fun q => hji (told_inj j (by omega) i (by omega) q)
      rw [if_neg hne]
      obtain ⟨l', us, n, e1, c1, s⟩ := h.var j hj hkj
      have c2 := c1.put (t' := tb + i) (o' := lst vs 0) hl
      have : l' ≠ d := fun q => by have := h.cell.1; rw [← q, c1.1] at this; omega
      refine ⟨l', us, n, e1, ⟨c2.1, by rw [upd_ne this]; exact c2.2⟩, ?_⟩
      unfold setF; rw [if_neg hji]; exact s
set_option maxHeartbeats 800000 in
theorem cw_loop1 {cdA f : Addr} (hC' : Callee C "Grammar.compute_follow" (SM 9 14) f cdA C' k) (hg : GX C'.w tag N g rs ks B) (hf : LDF C'.w tag N g.fo 8 40 [] [] (fun _ => []) o kvs) (P : Fm → Prop) (hP : ∀ m v, P m → P (mset m "k" v)) (p0 : P m) (hs : ∀ m, P m → m "self" = some (.ref g.x)) :
    Run C' (exec (stmtAt (SM 9 14) 2) C'.env) m N fun fl m' N' => fl = .next ∧ P m' ∧ ∃ tag' o kvs, Ext (fun t => t = 8) tag N tag' N' ∧ LDF C'.w tag' N' g.fo 8 40 [] ks (fun _ => []) o kvs := by
  have fe := callee_env hC' (by kernel_rfl)
  have k0 : C'.env.kindOf "self" = some .local := callee_kind hC' (by kernel_rfl)
  have k1 : C'.env.kindOf "k" = some .local := callee_kind hC' (by kernel_rfl)
  have hA := hC'.1
  have hh := hA.handled
  obtain ⟨at', ca, hi, hat⟩ := hg.inst
  obtain ⟨ote, kte, cte, dte, hkt, hvt⟩ := id hg.nt
  have hksl : ks.length ≤ 3 := nodup_len (l' := [told 0, told 1, told 2]) hg.ntnd fun y hy => by
    obtain ⟨i, hi, rfl⟩ := hg.ntin y hy
    have : i = 0 ∨ i = 1 ∨ i = 2 := by omega
    rcases this with rfl | rfl | rfl <;> simp
  let J : Nat → Fm → Hp → Prop := fun i m' N' => P m' ∧ ∃ tag' o kvs, Ext (fun t => t = 8) tag N tag' N' ∧ LDF C'.w tag' N' g.fo 8 40 [] (ks.take i) (fun _ => []) o kvs
  with_unfolding_all refine r_for hh (r_selfAt fe hA k0 (by kernel_rfl) (hs _ p0) hi.2.2 hat.nt rfl ⟨_, _, _, itb_dict cte.2 dte, J, ⟨p0, tag, o, kvs, Ext.refl, hf⟩, ?_, ?_, ?_⟩)
  · intro b hb
    rw [List.mem_singleton.mp hb]
    exact ⟨_, fun i m N' h => by obtain ⟨_, tag', _, _, E, _⟩ := h; exact (E _ _ _ (by decide) cte).2⟩
  · rintro i v m1 N1 hlt ⟨y, u, ⟨ty, rfl⟩, hkv⟩ ⟨p1, tag1, o1, kv1, E1, h1⟩
    have hy : ks[i]? = some y := by rw [← hkt, List.getElem?_map, hkv]; rfl
    have hyn := nodup_take hg.ntnd hy
    obtain ⟨j, hj, rfl⟩ := hg.ntin y (List.mem_of_getElem? hy)
    have i1 := hi.ext E1 (by decide) (by decide)
    have hkl : kv1.length ≤ 1000000 := by
      have := congrArg List.length h1.keys
      have h2 := List.length_take_le' i ks
      rw [List.length_map, List.nil_append] at this; omega
    have p2 := hP _ (.str (told j) ty) p1
    refine r_asName fe k1 (r_one (r_assignSub (r_list (r_splNil (r_newList (fun l hl => ?_) (by show 0 ≤ sizeLine; rw [sizeLine_eq]; omega))))))
    have hdl : g.fo ≠ l := fun z => by have := h1.cell.2; rw [z, hl] at this; cases this
    refine r_selfAt fe hA k0 (by kernel_rfl) (hs _ p2) (i1.2.2.le (Le.upd hl)) hat.fo rfl (r_name fe k1 mset_self (r_dictSet (o := o1) (by rw [upd_ne hdl]; exact h1.cell.2) h1.isd hkl fun o' hd' => ?_))
    have h2 := h1.addN (l := l) hj rfl hl hyn (by decide) (fun y hy => hg.ntin y (List.mem_of_mem_take hy)) hd'
    refine ⟨p2, tset tag1 l (40 + j), o', stored kv1 (told j) (.ref l), E1.trans ((Ext.new hl).trans (Ext.upd (h1.cell.put hl) rfl)), ?_⟩
    rw [List.take_add_one, hy]
    exact h2
  · rintro m1 N1 ⟨p1, tag1, o1, kv1, E1, h1⟩
    refine r_nil ⟨rfl, p1, tag1, o1, kv1, E1, ?_⟩
    have : ks.take kte.length = ks := by rw [← hkt, ← List.length_map (f := (·.1)), List.take_length]
    rw [this] at h1
    exact h1
end
end Mine

namespace Mine
open PySem PySem.Challenge
theorem slice1 (p : Value) (ps : List Value) : (slicePick (p :: ps).toArray (some 1) none none).toList = ps := by
  have e : sliceBounds (some 1) none none (p :: ps).toArray.size = (((1 : Nat) : Int), ((ps.length + 1 : Nat) : Int), 1) := by
    unfold sliceBounds
    simp only [List.size_toArray, List.length_cons, Option.getD_none]
    rw [if_pos (by decide), if_neg (by decide)]
    simp
    omega
  rw [kmk_pick_nat _ e]
  simp
end Mine

namespace Mine
open PySem PySem.Challenge
local macro_rules | `(tactic| walk_at "ms") => `(tactic| first | assumption | exact mset_self | (refine (mset_ne (by decide)).trans ?_; walk_at "ms"))
section
variable {C C' : Cx} {m m' : Fm} {N N' R : Hp} {a l d x dx Cl fi : Addr} {k n c : Nat} {vs : List Value} {at' : Fm} {tag tag' : Addr → Nat} {w : World} {g : Gr} {rs : List Rl} {ks : List Str} {B : Nat} {r : Rl} {sy : Addr} {tn : Tok} {o oF : Obj} {kvs kF : List (Str × Value)} {F : Nat → List Str} {st : Nat}
/-- the names in the loops -/
structure FNm (g : Gr) (xp : Addr) (i b : Nat) (m : Fm) : Prop where
  self : m "self" = some (.ref g.x)
  p : m "p" = some (.ref xp)
  i : ∃ t, m "i" = some (.int (i : Int) t)
  B : ∃ t, m "B" = some (.str (told b) t)
theorem FNm.set {xp : Addr} {i b : Nat} (h : FNm g xp i b m) {y : Str} {v : Value} (hy : y ∉ (["self", "p", "i", "B"] : List Str) := by decide) : FNm g xp i b (mset m y v) := by
  simp only [List.mem_cons, List.not_mem_nil, or_false, not_or] at hy
  obtain ⟨h1, h2, h3, h4⟩ := hy
  exact ⟨(mset_ne (Ne.symm h1)).trans h.self, (mset_ne (Ne.symm h2)).trans h.p, h.i.imp fun t e => (mset_ne (Ne.symm h3)).trans e, h.B.imp fun t e => (mset_ne (Ne.symm h4)).trans e⟩
/-- Follow, under way; from Gw -/
def FoSt (w : World) (tag : Addr → Nat) (N : Hp) (g : Gr) (rs : List Rl) (ks : List Str) (F : Nat → List Str) (st : Nat) (o : Obj) (kvs : List (Str × Value)) (Gw G : Nat → List Str) (b : Bool) (D : Prop) (tag' : Addr → Nat) (m' : Fm) (N' : Hp) : Prop :=
  GReach rs F st G ∧ Ext (fun t => 40 ≤ t ∧ t < 43) tag N tag' N' ∧ LDF w tag' N' g.fo 8 40 [] ks G o kvs ∧ m' "didadd" = some (.bool b) ∧ (b = true → meaF G < meaF Gw) ∧ (b = false → G = Gw ∧ D)
set_option maxHeartbeats 1600000 in
/-- if f not in self.Follow[B]: append -/
theorem fo_put {cdA f : Addr} {Gw G : Nat → List Str} {b : Bool} {D : Prop} {xp : Addr} {i j : Nat} {fs : Str} {tf : Tok} (hC' : Callee C "Grammar.compute_follow" (SM 9 14) f cdA C' (k + 1)) (hg : GX C'.w tag N g rs ks B) (ok : ∀ r ∈ rs, Ok1 r) (hF : FReach rs F) (hj : j < 3) (hk : told j ∈ ks)
    {m : Fm} {N' : Hp} {tag' : Addr → Nat} (nm : FNm g xp i j m) (ef : m "f" = some (.str fs tf)) (h : FoSt C'.w tag N g rs ks F st o kvs Gw G b D tag' m N') (hin : fs ∉ G j) (hstep : GReach rs F st (putF G j fs)) {Q : Flow → Fm → Hp → Prop}
    (q : ∀ N'', Ext (fun t => t = 40 + j) tag' N' tag' N'' → FoSt C'.w tag N g rs ks F st o kvs Gw (putF G j fs) true D tag' (mset m "didadd" (.bool true)) N'' → Q .next (mset m "didadd" (.bool true)) N'')
    {pp1 pp2 pp3 pp4 pp5 pp6 pp7 pp8 pp9 pp10 pp11 : Pos} {kk : Nat} (hline : (pp5.endLine == pp6.line) = true)
    (hb1 : attributeBase (.Subscript (.Attribute (.Name "self" pp1) "Follow" pp2) (.Name "B" pp3) pp4) "append" C'.env (eval (.Subscript (.Attribute (.Name "self" pp1) "Follow" pp2) (.Name "B" pp3) pp4) C'.env) = eval (.Subscript (.Attribute (.Name "self" pp1) "Follow" pp2) (.Name "B" pp3) pp4) C'.env := by rfl) :
    Run C' (execs [.Expr (.Call (.Attribute (.Subscript (.Attribute (.Name "self" pp1) "Follow" pp2) (.Name "B" pp3) pp4) "append" pp5) [.Name "f" pp9] [] pp6) pp10, .Assign [.Name "didadd" pp7] (.Constant (.bool true) kk pp8) pp11] C'.env) m N' Q := by
  have fe := callee_env hC' (by kernel_rfl)
  have k0 : C'.env.kindOf "self" = some .local := callee_kind hC' (by kernel_rfl)
  have k1 : C'.env.kindOf "B" = some .local := callee_kind hC' (by kernel_rfl)
  have k2 : C'.env.kindOf "f" = some .local := callee_kind hC' (by kernel_rfl)
  have k3 : C'.env.kindOf "didadd" = some .local := callee_kind hC' (by kernel_rfl)
  have hA := hC'.1
  obtain ⟨at', ca, hi, hat⟩ := hg.inst
  obtain ⟨hr, E, h5, eb, hd1, hd2⟩ := h
  obtain ⟨tB, eB⟩ := nm.B
  obtain ⟨lj, vj, nj, ej, cj, sj⟩ := h5.var j hj hk
  have hvl : vj.length ≤ 1000000 := by have := StrsAre.len sj; have := hr.len ok hF j; omega
  have hm6 := hstep.put_mea ok hF hj
  refine r_cons (r_exprS fe (r_mcall (hline := hline) (r_sub (r_selfAt fe hA k0 (by kernel_rfl) nm.self (hi.ext E (by decide) (by decide)).2.2 hat.fo rfl (r_name fe k1 eB ⟨hi_dict h5.cell.2 h5.isd, r_dictGet h5.cell.2 h5.isd ej ⟨_, _, gm_list cj.2 PySem.F.slot_list_append PySem.F.type_list_append, kf_builtin, r_splCons (r_name fe k2 ef (r_splNil (r_append cj.2 hvl fun n' => ⟨fun a z => (nomatch z), ?_⟩)))⟩⟩)))))
  have h6 := h5.app (f := fs) (tf := tf) (n' := n') hj cj ej sj (by decide) (by decide)
  have X : Ext (fun t => t = 40 + j) tag' N' tag' (upd N' lj (lst (vj ++ [.str fs tf]) n')) := Ext.upd cj rfl
  refine r_one (r_assign fe k3 (r_bool ?_))
  refine q _ X ⟨hstep, E.trans (X.mono fun t h => by omega), h6, mset_self, fun _ => ?_, fun z => nomatch z⟩
  cases b with
  | true => exact Nat.lt_trans hm6 (hd1 rfl)
  | false => rw [← (hd2 rfl).1]; exact hm6
end
end Mine

namespace Mine
open PySem PySem.Challenge
local macro_rules | `(tactic| walk_at "ms") => `(tactic| first | assumption | exact mset_self | (refine (mset_ne (by decide)).trans ?_; walk_at "ms"))
theorem FoSt.m {w : World} {tag : Addr → Nat} {N : Hp} {g : Gr} {rs : List Rl} {ks : List Str} {F : Nat → List Str} {st : Nat} {o : Obj} {kvs : List (Str × Value)} {Gw G : Nat → List Str} {b : Bool} {D D' : Prop} {tag' tag'' : Addr → Nat} {m' m'' : Fm} {N' N'' : Hp} (h : FoSt w tag N g rs ks F st o kvs Gw G b D tag' m' N')
    {T : Nat → Prop} (E : Ext T tag' N' tag'' N'') (hT : ∀ t, t ≤ 30 ∨ 40 ≤ t → ¬ T t) (E' : Ext (fun t => 40 ≤ t ∧ t < 43) tag N tag'' N'') (e : m'' "didadd" = m' "didadd") (hD : b = false → D → D') : FoSt w tag N g rs ks F st o kvs Gw G b D' tag'' m'' N'' :=
  ⟨h.1, E', h.2.2.1.ext E (hT 8 (.inl (by decide))) (hT 30 (.inl (by decide))) (fun i hi => hT (40 + i) (.inr (by omega))), e.trans h.2.2.2.1, h.2.2.2.2.1, fun z => ⟨(h.2.2.2.2.2 z).1, hD z (h.2.2.2.2.2 z).2⟩⟩
theorem r_genN {α : Type} {C : Cx} {t : Sem α} {m₀ : Fm} (N₀ : Hp) {Q : α → Fm → Hp → Prop} (F : Hp → Prop) (hF : F N₀) (h : ∀ N, F N → Run C t m₀ N Q) : Run C t m₀ N₀ Q := h _ hF
theorem StrsAre.drop' {vs : List Value} {ys : List Str} (h : StrsAre vs ys) : ∀ i, StrsAre (vs.drop i) (ys.drop i) := fun i => by
  induction i generalizing vs ys with
  | zero => exact h
  | succ i ih => cases h with
    | nil => exact .nil
    | cons y t h => exact ih h
section
variable {C C' : Cx} {m m' : Fm} {N N' R : Hp} {a l d x dx Cl fi : Addr} {k n c : Nat} {vs : List Value} {at' : Fm} {tag tag' : Addr → Nat} {w : World} {g : Gr} {rs : List Rl} {ks : List Str} {B : Nat} {r : Rl} {sy : Addr} {tn : Tok} {o oF : Obj} {kvs kF : List (Str × Value)} {F : Nat → List Str} {st : Nat}
set_option maxHeartbeats 6000000 in
theorem cw_loop {cdA f : Addr} (hC' : Callee C "Grammar.compute_follow" (SM 9 14) f cdA C' (k + 1)) (hg : GX C'.w tag N g rs ks B) (ok : ∀ r ∈ rs, Ok1 r) (hB : B ≤ 1000) (hf : LDF C'.w tag N g.fi 7 20 (termK rs ++ [ENDS]) ks F oF kF) (hF : FReach rs F) (hfo : LDF C'.w tag N g.fo 8 40 [] ks (W0 st) o kvs) (e0 : m "self" = some (.ref g.x)) :
    Run C' (exec (stmtAt (SM 9 14) 5) C'.env) m N fun fl m' N' => fl = .next ∧ m' "self" = some (.ref g.x) ∧ ∃ tag' G, Ext (fun t => 40 ≤ t ∧ t < 43) tag N tag' N' ∧ LDF C'.w tag' N' g.fo 8 40 [] ks G o kvs ∧ GReach rs F st G ∧ ∀ r ∈ rs, ∀ i b, r.2[i]? = some b → b < 3 → GClosed F G r i b := by
  have fe := callee_env hC' (by kernel_rfl)
  have k0 : C'.env.kindOf "self" = some .local := callee_kind hC' (by kernel_rfl)
  have k1 : C'.env.kindOf "p" = some .local := callee_kind hC' (by kernel_rfl)
  have k2 : C'.env.kindOf "i" = some .local := callee_kind hC' (by kernel_rfl)
  have k3 : C'.env.kindOf "B" = some .local := callee_kind hC' (by kernel_rfl)
  have k4 : C'.env.kindOf "fst" = some .local := callee_kind hC' (by kernel_rfl)
  have k5 : C'.env.kindOf "hasempty" = some .local := callee_kind hC' (by kernel_rfl)
  have k6 : C'.env.kindOf "f" = some .local := callee_kind hC' (by kernel_rfl)
  have k7 : C'.env.kindOf "didadd" = some .local := callee_kind hC' (by kernel_rfl)
  have g1 : C'.env.kindOf "enumerate" = some .globalImplicit := callee_kind hC' (by kernel_rfl)
  have g2 : C'.env.kindOf "len" = some .globalImplicit := callee_kind hC' (by kernel_rfl)
  have hA := hC'.1
  have hh := hA.handled
  obtain ⟨at', ca, hi, hat⟩ := hg.inst
  obtain ⟨ont, knt, cnt, dnt, hkt, hvt⟩ := id hg.nt
  obtain ⟨p0, ps, npl, cpl, hps⟩ := id hg.pl
  have hpsl : ps.length ≤ 1000 := by have := hps.1; have := hg.rl; omega
  have hFl : ∀ i, (F i).length ≤ 20 := fun i => by have := hF.len ok i; omega
  with_unfolding_all refine r_while (fun n m' N' => m' "self" = some (.ref g.x) ∧ ∃ G tag', GReach rs F st G ∧ Ext (fun t => 40 ≤ t ∧ t < 43) tag N tag' N' ∧ LDF C'.w tag' N' g.fo 8 40 [] ks G o kvs ∧ n = meaF G) (meaF (W0 st)) ⟨e0, _, tag, .init, Ext.refl, hfo, rfl⟩ ?_
  rintro n1 m1 N1 ⟨e0, Gw, tag1, hr, E1, h1, rfl⟩
  refine r_tPlain (r_bool (r_tBool ?_))
  rw [if_pos rfl]
  refine r_cons (r_assign fe k7 (r_bool ?_))
  let D1 : Nat → Prop := fun z => ∀ r ∈ rs.take z, ∀ i b, r.2[i]? = some b → b < 3 → GClosed F Gw r i b
  have i1 := hi.ext E1 (by decide) (by decide)
  refine r_consM (fun m' N' => m' "self" = some (.ref g.x) ∧ ∃ G b tag', FoSt C'.w tag N g rs ks F st o kvs Gw G b (D1 rs.length) tag' m' N') (r_for hh (r_subSlice (r_selfAt fe hA k0 (by kernel_rfl) (by walk_at "ms") i1.2.2 hat.pl rfl (r_slice (r_partSome (r_int fun t1 => r_partNone fun sl hsl => ⟨hi_list (seen_own (by rw [upd_ne (fun z => by have := (E1 _ _ _ (by decide) cpl).2; rw [z, hsl] at this; cases this)]; exact (E1 _ _ _ (by decide) cpl).2)), r_listSlice (by rw [upd_ne (fun z => by have := (E1 _ _ _ (by decide) cpl).2; rw [z, hsl] at this; cases this)]; exact (E1 _ _ _ (by decide) cpl).2) upd_self (.int _ _) .none (by rw [List.length_cons]; omega) fun lb hlb => ?_⟩)))))) ?_
  · have E2 : Ext (fun t => 40 ≤ t ∧ t < 43) tag1 N1 (tset (tset tag1 sl 32) lb 33) _ := (Ext.new (o := sliceObj (.int 1 t1) .none) hsl).trans (Ext.new (o := lst (slicePick (p0 :: ps).toArray (some 1) none none).toList 0) hlb)
    rw [slice1] at E2 ⊢
    have clb : Cell (tset (tset tag1 sl 32) lb 33) (upd (upd N1 sl (sliceObj (.int 1 t1) .none)) lb (lst ps 0)) 33 lb (lst ps 0) := Cell.new
    have E2' : Ext (fun _ => False) tag1 N1 (tset (tset tag1 sl 32) lb 33) (upd (upd N1 sl (sliceObj (.int 1 t1) .none)) lb (lst ps 0)) := (Ext.new hsl).trans (Ext.new hlb)
    let J : Nat → Fm → Hp → Prop := fun z m' N' => m' "self" = some (.ref g.x) ∧ ∃ G b tag', Cell tag' N' 33 lb (lst ps 0) ∧ FoSt C'.w tag N g rs ks F st o kvs Gw G b (D1 z) tag' m' N'
    refine ⟨_, _, _, itb_list upd_self, J, ⟨by walk_at "ms", Gw, false, _, clb, hr, E1.trans E2, h1.ext E2' (fun q => q) (fun q => q) (fun _ _ q => q), mset_self, fun q => (nomatch q), fun _ => ⟨rfl, fun r hr => by simp at hr⟩⟩, ?_, ?_, ?_⟩
    · intro b hb
      rw [List.mem_singleton.mp hb]
      exact ⟨_, fun i m N' h => by obtain ⟨_, _, _, tag', c, _⟩ := h; exact c.2⟩
    · rintro z v m2 N2 hz hv ⟨e0, G2, b2, tag2, c2, s2⟩
      obtain ⟨r, hrz, xp, dxp, atp, cap, pt, us, rfl, ip, ⟨tpn, hpn⟩, hpr, cpt, hus⟩ := hps.get hv
      have hrm := List.mem_of_getElem? hrz
      obtain ⟨ok1, ok2, ok3⟩ := ok r hrm
      have htz : rs.take (z + 1) = rs.take z ++ [r] := by rw [List.take_add_one, hrz]; rfl
      have husl : us.length = r.2.length := by have := StrsAre.len hus; rwa [List.length_map] at this
      refine r_asName fe k1 ?_
      let DI : Nat → Prop := fun i => D1 z ∧ ∀ i' < i, ∀ b, r.2[i']? = some b → b < 3 → GClosed F Gw r i' b
      let JI : Nat → Fm → Hp → Prop := fun i m' N' => m' "self" = some (.ref g.x) ∧ m' "p" = some (.ref xp) ∧ ∃ G b tag', Cell tag' N' 33 lb (lst ps 0) ∧ FoSt C'.w tag N g rs ks F st o kvs Gw G b (DI i) tag' m' N'
      refine r_one (r_forEnum ek_tup fe hA k2 k3 g1 (by kernel_rfl) (r_attr (r_name fe k1 mset_self (r_getAttr hA (ip.ext s2.2.1 (by decide) (by decide)).2.2 (by kernel_rfl) hpr rfl ⟨pt, r.2.length, rfl, JI, ⟨by walk_at "ms", mset_self, G2, b2, tag2, c2, s2.m (T := fun _ => False) Ext.refl (fun _ _ q => q) s2.2.1 (mset_ne (by decide)) fun _ h => ⟨h, fun i' hi' => absurd hi' (Nat.not_lt_zero _)⟩⟩, ?_, ?_, ?_⟩))))
      · rintro i m' N' ⟨_, _, G, b, tag', c, s⟩
        exact ⟨us, 0, (s.2.1 _ _ _ (by decide) cpt).2, husl⟩
      · rintro i v t m3 N3 hlt ⟨e0, ep, G3, b3, tag3, c3, s3⟩ ⟨vs', c', e1, e2⟩
        have cpt3 := s3.2.1 _ _ _ (by decide) cpt
        have : vs' = us := by
          rw [cpt3.2] at e1
          have := congrArg Obj.data (Option.some.inj e1)
          injection this with z _
          exact (List.toArray_inj z).symm
        subst this
        obtain ⟨y, ty, rfl, hy⟩ := strs_at hus e2
        rw [List.getElem?_map] at hy
        obtain ⟨s, hsx, rfl⟩ := Option.map_eq_some_iff.mp hy
        have hsm := List.mem_of_getElem? hsx
        have hs7 := ok3 s hsm
        have nm : FNm g xp i s (mset (mset m3 "i" (.int (i : Int) t)) "B" (.str (told s) ty)) := ⟨by walk_at "ms", by walk_at "ms", ⟨t, by walk_at "ms"⟩, ⟨ty, mset_self⟩⟩
        have s4 : FoSt C'.w tag N g rs ks F st o kvs Gw G3 b3 (DI i) tag3 (mset (mset m3 "i" (.int (i : Int) t)) "B" (.str (told s) ty)) N3 := s3.m (T := fun _ => False) Ext.refl (fun _ _ q => q) s3.2.1 ((mset_ne (by decide)).trans (mset_ne (by decide))) fun _ h => h
        generalize mset (mset m3 "i" (.int (i : Int) t)) "B" (.str (told s) ty) = m4 at nm s4
        obtain ⟨ti, ei⟩ := nm.i
        obtain ⟨tB, eB⟩ := nm.B
        have i3 := hi.ext s4.2.1 (by decide) (by decide)
        have cnt3 := s4.2.1 _ _ _ (by decide) cnt
        refine r_one (r_ifS (r_tCmp (r_name fe k3 eB (r_selfAt fe hA k0 (by kernel_rfl) nm.self i3.2.2 hat.nt rfl (r_dictIn cnt3.2 dnt (r_tBool ?_))))))
        rw [valueAt_isSome, hkt]
        by_cases hs3 : s < 3
        · have hsk := (hg.ntall r hrm).2 s hsm hs3
          rw [decide_eq_true hsk, if_pos rfl]
          have cp3 : N3 pt = some (tup vs' 0) := (s4.2.1 _ _ _ (by decide) cpt).2
          have dt : ∀ i, vs'.drop i = vs'.drop i := fun _ => rfl
          refine r_cons (r_assign fe k4 (r_mcall (r_name fe k0 nm.self ⟨_, _, gm_own (f := 223) hA i3.2.2 (by kernel_rfl) (by kernel_rfl) (by kernel_rfl) hat.m3, kf_ref hA (by kernel_rfl),
            r_splCons (r_subSlice (r_attr (r_name fe k1 nm.p (r_getAttr hA (ip.ext s4.2.1 (by decide) (by decide)).2.2 (by kernel_rfl) hpr rfl (r_slice (r_partSome (r_binop (r_name fe k2 ei (r_int fun t5 => r_addInt fun t6 => r_partNone fun sl2 hsl2 => ?_)))))))))⟩)))
          have cp4 : ∀ ob, upd N3 sl2 ob pt = some (tup vs' 0) := fun ob => by rw [upd_ne (fun z => by rw [z, hsl2] at cp3; cases cp3)]; exact cp3
          refine ⟨hi_tup (cp4 _), r_tupFrom (i := i + 1) (cp4 _) upd_self (by omega) (by omega) (by omega) fun bt hbt => r_splNil ?_⟩
          have E5 : Ext (fun _ => False) tag3 N3 (tset (tset tag3 sl2 34) bt 35) (upd (upd N3 sl2 (sliceObj (.int ((i : Int) + 1) t6) .none)) bt (tup (vs'.drop (i + 1)) 0)) := (Ext.new hsl2).trans (Ext.new hbt)
          have cbt : upd (upd N3 sl2 (sliceObj (.int ((i : Int) + 1) t6) .none)) bt (tup (vs'.drop (i + 1)) 0) bt = some (tup (vs'.drop (i + 1)) 0) := upd_self
          refine r_genN (upd (upd N3 sl2 (sliceObj (.int ((i : Int) + 1) t6) .none)) bt (tup (vs'.drop (i + 1)) 0)) (fun N4 => Ext (fun _ => False) tag3 N3 (tset (tset tag3 sl2 34) bt 35) N4 ∧ N4 bt = some (tup (vs'.drop (i + 1)) 0)) ⟨E5, cbt⟩ fun N4 ⟨E5, cbt⟩ => ?_
          generalize tset (tset tag3 sl2 34) bt 35 = tag4 at E5
          have hf4 := (hf.ext s4.2.1 (by decide) (by decide) (fun i hi => by omega)).ext E5 (fun q => q) (fun q => q) (fun _ _ q => q)
          refine first_call hA (i3.ext E5 (fun q => q) (fun q => q)).2.2 hat.fi hf4.cell.2 hf4.isd cbt (ss := r.2.drop (i + 1)) (by rw [List.map_drop]; exact StrsAre.drop' hus (i + 1)) (fun s hs => ok3 s (List.mem_of_mem_drop hs)) (by rw [List.length_drop]; omega) (hf4.fat ok hg.ntall hrm hFl fun s hs => List.mem_of_mem_drop hs) ?_
          rintro _ _ ⟨l, ys, nl, rfl, hl, rfl, hys⟩
          generalize hfs : fl (Fx F) (r.2.drop (i + 1)) [] = fs at hys
          have hfl : ys.length = fs.length := StrsAre.len hys
          have E6 : Ext (fun _ => False) tag3 N3 (tset tag4 l 36) (upd N4 l (lst ys nl)) := E5.trans (Ext.new hl)
          have cl6 : Cell (tset tag4 l 36) (upd N4 l (lst ys nl)) 36 l (lst ys nl) := Cell.new
          generalize tset tag4 l 36 = tag6 at E6 cl6
          generalize upd N4 l (lst ys nl) = N6 at E6 cl6 ⊢
          have s6 : FoSt C'.w tag N g rs ks F st o kvs Gw G3 b3 (DI i) tag6 (mset m4 "fst" (.ref l)) N6 := s4.m E6 (fun _ _ q => q) (s4.2.1.trans (E6.mono fun _ q => q.elim)) (mset_ne (by decide)) fun _ h => h
          have c6 := E6 _ _ _ (fun q => q) c3
          have nm6 := nm.set (y := "fst") (v := .ref l)
          refine r_cons (r_assign fe k5 (r_bool ?_))
          let JF : Nat → Fm → Hp → Prop := fun q m' N' => FNm g xp i s m' ∧ m' "hasempty" = some (.bool (decide (EMP ∈ fs.take q))) ∧ ∃ G b tag', Cell tag' N' 33 lb (lst ps 0) ∧ Cell tag' N' 36 l (lst ys nl) ∧ FoSt C'.w tag N g rs ks F st o kvs Gw G b (DI i ∧ ∀ f ∈ fs.take q, f ≠ EMP → f ∈ Gw s) tag' m' N'
          refine r_consM (JF fs.length) (r_for hh (r_name fe k4 (by walk_at "ms") ⟨_, _, _, itb_list cl6.2, JF, ⟨nm6.set, mset_self, G3, b3, tag6, c6, cl6, s6.m (T := fun _ => False) Ext.refl (fun _ _ q => q) s6.2.1 (mset_ne (by decide)) fun _ h => ⟨h, fun f hf => by simp at hf⟩⟩, ?_, ?_, ?_⟩)) ?_
          · intro b hb
            rw [List.mem_singleton.mp hb]
            exact ⟨_, fun i m N' h => by obtain ⟨_, _, _, _, tag', _, c, _⟩ := h; exact c.2⟩
          · rintro q v m7 N7 hq hv7 ⟨nm7, he7, G7, b7, tag7, c7, cl7, s7⟩
            obtain ⟨f, tf, rfl, hf⟩ := strs_at hys hv7
            have hfm := List.mem_of_getElem? hf
            have htq : fs.take (q + 1) = fs.take q ++ [f] := by rw [List.take_add_one, hf]; rfl
            have i7 := hi.ext s7.2.1 (by decide) (by decide)
            obtain ⟨lj, vj, nj, ej, cj, sj⟩ := s7.2.2.1.var s hs3 hsk
            have nm8 := nm7.set (y := "f") (v := .str f tf)
            obtain ⟨tB, eB⟩ := nm8.B
            have he8 : mset m7 "f" (.str f tf) "hasempty" = some (.bool (decide (EMP ∈ fs.take q))) := (mset_ne (by decide)).trans he7
            have ef8 : mset m7 "f" (.str f tf) "f" = some (.str f tf) := mset_self
            have s8 : FoSt C'.w tag N g rs ks F st o kvs Gw G7 b7 (DI i ∧ ∀ f ∈ fs.take q, f ≠ EMP → f ∈ Gw s) tag7 (mset m7 "f" (.str f tf)) N7 := s7.m (T := fun _ => False) Ext.refl (fun _ _ q => q) s7.2.1 (mset_ne (by decide)) fun _ h => h
            refine r_asName fe k6 ?_
            generalize mset m7 "f" (.str f tf) = m8 at nm8 eB he8 ef8 s8
            refine r_consM (fun m' N' => FNm g xp i s m' ∧ m' "f" = some (.str f tf) ∧ m' "hasempty" = some (.bool (decide (EMP ∈ fs.take q))) ∧ ∃ G b tag', Cell tag' N' 33 lb (lst ps 0) ∧ Cell tag' N' 36 l (lst ys nl) ∧ FoSt C'.w tag N g rs ks F st o kvs Gw G b (DI i ∧ ∀ f ∈ fs.take (q + 1), f ≠ EMP → f ∈ Gw s) tag' m' N') (r_ifS (r_tAnd (r_tCmp (r_name fe k6 ef8 (r_str fun t9 => r_neStr (r_tBool ?_)))))) ?_
            · by_cases hfe : f = EMP
              · rw [show (f != Str.ofString "<empty>") = false from by rw [hfe]; decide, if_neg (by decide), if_neg (by decide)]
                refine r_nil ⟨rfl, nm8, ef8, he8, G7, b7, tag7, c7, cl7, s8.m (T := fun _ => False) Ext.refl (fun _ _ q => q) s8.2.1 rfl fun _ h => ⟨h.1, fun f' hf' hn => ?_⟩⟩
                rw [htq] at hf'
                rcases List.mem_append.mp hf' with hf' | hf'
                · exact h.2 f' hf' hn
                · exact absurd ((List.mem_singleton.mp hf').trans hfe) hn
              · rw [show (f != Str.ofString "<empty>") = true from by simpa [EMP] using hfe, if_pos rfl]
                refine r_tCmp (r_name fe k6 ef8 (r_sub (r_selfAt fe hA k0 (by kernel_rfl) nm8.self i7.2.2 hat.fo rfl (r_name fe k3 eB ⟨hi_dict s7.2.2.1.cell.2 s7.2.2.1.isd, r_dictGet s7.2.2.1.cell.2 s7.2.2.1.isd ej (r_notInStrs cj.2 sj (r_tBool ?_))⟩))))
                by_cases hin : f ∈ G7 s
                · rw [show (G7 s).any (· == f) = true from List.any_eq_true.mpr ⟨f, hin, by simp⟩, if_neg (by decide)]
                  refine r_nil ⟨rfl, nm8, ef8, he8, G7, b7, tag7, c7, cl7, s8.1, s8.2.1, s8.2.2.1, s8.2.2.2.1, s8.2.2.2.2.1, fun z => ⟨(s8.2.2.2.2.2 z).1, (s8.2.2.2.2.2 z).2.1, fun f' hf' hn => ?_⟩⟩
                  rw [htq] at hf'
                  rcases List.mem_append.mp hf' with hf' | hf'
                  · exact (s8.2.2.2.2.2 z).2.2 f' hf' hn
                  · rw [List.mem_singleton.mp hf', ← (s8.2.2.2.2.2 z).1]; exact hin
                · rw [show (G7 s).any (· == f) = false from by rw [List.any_eq_false]; intro z hz q; exact hin (beq_iff_eq.mp q ▸ hz), if_pos (by decide)]
                  refine fo_put hC' hg ok hF hs3 hsk nm8 ef8 s8 hin (.after s8.1 hrm hsx hs3 (by rw [hfs]; exact hfm) hfe hin) ?_ ?_
                  · exact fun N8 X s9 => ⟨rfl, nm8.set, (mset_ne (by decide)).trans ef8, (mset_ne (by decide)).trans he8, _, true, tag7, X _ _ _ (by omega) c7, X _ _ _ (by omega) cl7, s9.1, s9.2.1, s9.2.2.1, s9.2.2.2.1, s9.2.2.2.2.1, fun z => nomatch z⟩
                  · rfl
            · rintro m9 N9 ⟨nm9, ef9, he9, G9, b9, tag9, c9, cl9, s9⟩
              refine r_one (r_ifS (r_tCmp (r_name fe k6 ef9 (r_str fun t1 => r_eqStr (r_tBool ?_)))))
              by_cases hfe : f = EMP
              · rw [show (f == Str.ofString "<empty>") = true from by rw [hfe]; decide, if_pos rfl]
                refine r_one (r_assign fe k5 (r_bool ⟨nm9.set, ?_, G9, b9, tag9, c9, cl9, s9.m (T := fun _ => False) Ext.refl (fun _ _ q => q) s9.2.1 (mset_ne (by decide)) fun _ h => h⟩))
                rw [mset_self, htq, hfe]; simp
              · rw [show (f == Str.ofString "<empty>") = false from by simpa [EMP] using hfe, if_neg (by decide)]
                refine r_nil ⟨nm9, ?_, G9, b9, tag9, c9, cl9, s9⟩
                rw [he9, htq]
                have : (EMP ∈ fs.take q ++ [f]) ↔ EMP ∈ fs.take q := by
                  rw [List.mem_append, List.mem_singleton]
                  exact ⟨fun h => h.elim id fun z => absurd z.symm hfe, .inl⟩
                rw [decide_eq_decide.mpr this]
          · rw [hfl]; exact fun m' N' h => r_nil ⟨rfl, h⟩
          · rintro m7 N7 ⟨nm7, he7, G7, b7, tag7, c7, cl7, s7⟩
            rw [List.take_length] at he7 s7
            have cp7 : N7 pt = some (tup vs' 0) := (s7.2.1 _ _ _ (by decide) cpt).2
            have i7 := hi.ext s7.2.1 (by decide) (by decide)
            have ip7 := ip.ext s7.2.1 (by decide) (by decide)
            obtain ⟨t7, ei7⟩ := nm7.i
            have close : (EMP ∈ fs → ∀ f ∈ Gw r.1, f ∈ Gw s) → (DI i ∧ ∀ f ∈ fs, f ≠ EMP → f ∈ Gw s) → DI (i + 1) := fun ht h => ⟨h.1.1, fun i' hi' b hb hb3 => by
              rcases Nat.lt_or_ge i' i with q | q
              · exact h.1.2 i' q b hb hb3
              · have : i' = i := by omega
                subst this
                rw [hsx] at hb; cases hb
                unfold GClosed
                rw [hfs]
                exact ⟨h.2, ht⟩⟩
            by_cases hE : EMP ∈ fs
            · rw [decide_eq_true hE] at he7
              obtain ⟨lp, vp, np, ep, cp, sp⟩ := s7.2.2.1.var r.1 ok1 (hg.ntall r hrm).1
              refine r_one (r_ifS (r_tOr (r_tPlain (r_name fe k5 he7 (r_tBool ?_)))))
              rw [if_pos rfl, if_pos rfl]
              have hvp : vp.length = (G7 r.1).length := StrsAre.len sp
              let DT : Nat → Prop := fun q => (DI i ∧ ∀ f ∈ fs, f ≠ EMP → f ∈ Gw s) ∧ b7 = false ∧ ∀ f ∈ (G7 r.1).take q, f ∈ Gw s
              let JT : Nat → Fm → Hp → Prop := fun q m' N' => FNm g xp i s m' ∧ ∃ G b tag', G r.1 = G7 r.1 ∧ Cell tag' N' 33 lb (lst ps 0) ∧ Cell tag' N' (40 + r.1) lp (lst vp np) ∧ FoSt C'.w tag N g rs ks F st o kvs Gw G b (DT q) tag' m' N'
              refine r_one (r_for hh (r_sub (r_selfAt fe hA k0 (by kernel_rfl) nm7.self i7.2.2 hat.fo rfl (r_attr (r_name fe k1 nm7.p (r_getAttr hA ip7.2.2 (by kernel_rfl) hpn rfl ⟨hi_dict s7.2.2.1.cell.2 s7.2.2.1.isd, r_dictGet s7.2.2.1.cell.2 s7.2.2.1.isd ep ⟨_, _, _, itb_list cp.2, JT, ⟨nm7, G7, b7, tag7, rfl, c7, cp, s7.m (T := fun _ => False) Ext.refl (fun _ _ q => q) s7.2.1 rfl fun hb h => ⟨h, hb, fun f hf => by simp at hf⟩⟩, ?_, ?_, ?_⟩⟩))))))
              · intro b hb
                rw [List.mem_singleton.mp hb]
                exact ⟨_, fun i m N' h => by obtain ⟨_, _, _, tag', _, _, c, _⟩ := h; exact c.2⟩
              · rintro q v m8 N8 hq hv8 ⟨nm8, G8, b8, tag8, hG8, c8, cp8, s8⟩
                obtain ⟨f, tf, rfl, hf⟩ := strs_at sp hv8
                have hfm := List.mem_of_getElem? hf
                have htq : (G7 r.1).take (q + 1) = (G7 r.1).take q ++ [f] := by rw [List.take_add_one, hf]; rfl
                have i8 := hi.ext s8.2.1 (by decide) (by decide)
                obtain ⟨lj, vj, nj, ej, cj, sj⟩ := s8.2.2.1.var s hs3 hsk
                have nm9 := nm8.set (y := "f") (v := .str f tf)
                obtain ⟨tB, eB⟩ := nm9.B
                have ef9 : mset m8 "f" (.str f tf) "f" = some (.str f tf) := mset_self
                have s9 : FoSt C'.w tag N g rs ks F st o kvs Gw G8 b8 (DT q) tag8 (mset m8 "f" (.str f tf)) N8 := s8.m (T := fun _ => False) Ext.refl (fun _ _ q => q) s8.2.1 (mset_ne (by decide)) fun _ h => h
                refine r_asName fe k6 ?_
                generalize mset m8 "f" (.str f tf) = m9 at nm9 eB ef9 s9
                refine r_one (r_ifS (r_tCmp (r_name fe k6 ef9 (r_sub (r_selfAt fe hA k0 (by kernel_rfl) nm9.self i8.2.2 hat.fo rfl (r_name fe k3 eB ⟨hi_dict s8.2.2.1.cell.2 s8.2.2.1.isd, r_dictGet s8.2.2.1.cell.2 s8.2.2.1.isd ej (r_notInStrs cj.2 sj (r_tBool ?_))⟩))))))
                by_cases hin : f ∈ G8 s
                · rw [show (G8 s).any (· == f) = true from List.any_eq_true.mpr ⟨f, hin, by simp⟩, if_neg (by decide)]
                  refine r_nil ⟨nm9, G8, b8, tag8, hG8, c8, cp8, s9.1, s9.2.1, s9.2.2.1, s9.2.2.2.1, s9.2.2.2.2.1, fun z => ⟨(s9.2.2.2.2.2 z).1, (s9.2.2.2.2.2 z).2.1, (s9.2.2.2.2.2 z).2.2.1, fun f' hf' => ?_⟩⟩
                  rw [htq] at hf'
                  rcases List.mem_append.mp hf' with hf' | hf'
                  · exact (s9.2.2.2.2.2 z).2.2.2 f' hf'
                  · rw [List.mem_singleton.mp hf', ← (s9.2.2.2.2.2 z).1]; exact hin
                · rw [show (G8 s).any (· == f) = false from by rw [List.any_eq_false]; intro z hz q; exact hin (beq_iff_eq.mp q ▸ hz), if_pos (by decide)]
                  have hne : r.1 ≠ s := fun z => hin (by rw [← z, hG8]; exact hfm)
                  refine fo_put hC' hg ok hF hs3 hsk nm9 ef9 s9 hin (.trail s9.1 s7.1 hrm hsx hs3 (by rw [hfs]; exact hE) hfm hin) ?_ ?_
                  · refine fun N10 X s10 => ⟨nm9.set, _, true, tag8, ?_, X _ _ _ (by omega) c8, X _ _ _ (by omega) cp8, s10.1, s10.2.1, s10.2.2.1, s10.2.2.2.1, s10.2.2.2.2.1, fun z => nomatch z⟩
                    unfold putF; rw [if_neg hne]; exact hG8
                  · rfl
              · rintro m8 N8 ⟨nm8, G8, b8, tag8, hG8, c8, cp8, s8⟩
                rw [hvp] at s8
                refine r_nil ⟨nm8.self, nm8.p, G8, b8, tag8, c8, s8.m (T := fun _ => False) Ext.refl (fun _ _ q => q) s8.2.1 rfl fun _ h => close (fun _ f hf => ?_) h.1⟩
                refine h.2.2 f ?_
                rw [List.take_length, (s7.2.2.2.2.2 h.2.1).1]; exact hf
            · rw [decide_eq_false hE] at he7
              have hil : (i : Int) ≠ (vs'.length : Int) - 1 := fun z => by
                have : r.2.drop (i + 1) = [] := List.drop_eq_nil_of_le (by omega)
                rw [this] at hfs
                exact hE (by rw [← hfs]; exact List.mem_singleton.mpr rfl)
              refine r_one (r_ifS (r_tOr (r_tPlain (r_name fe k5 he7 (r_tBool ?_)))))
              rw [if_neg (by decide)]
              refine r_tCmp (r_name fe k2 ei7 (r_binop (r_callName (r_builtin fe hA g2 (by kernel_rfl) PyProof.Rows.Boot.«len» (by decide) ⟨kf_builtin, r_splCons (r_attr (r_name fe k1 nm7.p (r_getAttr hA ip7.2.2 (by kernel_rfl) hpr rfl (r_splNil (r_lenTup cp7 (by omega) fun t8 => r_int fun t9 => r_subInt fun t10 => r_eqInt (r_tBool ?_))))))⟩))))
              rw [if_neg (by simpa using hil)]
              exact r_nil ⟨nm7.self, nm7.p, G7, b7, tag7, c7, s7.m (T := fun _ => False) Ext.refl (fun _ _ q => q) s7.2.1 rfl fun _ h => close (fun z => absurd z hE) h⟩
        · rw [decide_eq_false (fun q => ?_), if_neg (by decide)]
          · refine r_nil ⟨nm.self, nm.p, G3, b3, tag3, c3, s4.m (T := fun _ => False) Ext.refl (fun _ _ q => q) s4.2.1 rfl fun _ h => ⟨h.1, fun i' hi' b hb hb3 => ?_⟩⟩
            rcases Nat.lt_or_ge i' i with q | q
            · exact h.2 i' q b hb hb3
            · have : i' = i := by omega
              subst this; rw [hsx] at hb; cases hb; exact absurd hb3 hs3
          · obtain ⟨j, hj, e⟩ := hg.ntin _ q
            exact hs3 (told_inj s hs7 j (by omega) e ▸ hj)
      · rintro m3 N3 ⟨e0, ep, G3, b3, tag3, c3, s3⟩
        refine r_nil ⟨e0, G3, b3, tag3, c3, s3.m (T := fun _ => False) Ext.refl (fun _ _ q => q) s3.2.1 rfl fun _ h r' hr' i b hb hb3 => ?_⟩
        rw [htz] at hr'
        rcases List.mem_append.mp hr' with hr' | hr'
        · exact h.1 r' hr' i b hb hb3
        · rw [List.mem_singleton.mp hr'] at hb ⊢
          exact h.2 i (List.getElem?_eq_some_iff.mp hb).1 b hb hb3
    · rintro m2 N2 ⟨e0, G2, b2, tag2, c2, s2⟩
      have : ps.length = rs.length := hps.1
      rw [this] at s2
      exact r_nil ⟨rfl, e0, G2, b2, tag2, s2⟩
  · rintro m6 N6 ⟨e0, G6, b6, tag6, h6⟩
    obtain ⟨hr6, E6, l6, eb, hd1, hd2⟩ := id h6
    refine r_one (r_ifS (r_tNot (r_tPlain (r_name fe k7 eb (r_tBool ?_)))))
    cases b6 with
    | true =>
      rw [if_neg (by decide)]
      exact r_nil ⟨_, hd1 rfl, e0, G6, tag6, hr6, E6, l6, rfl⟩
    | false =>
      rw [if_pos (by decide)]
      obtain ⟨q1, q2⟩ := hd2 rfl
      refine r_one (r_brkS ⟨rfl, e0, tag6, G6, E6, l6, hr6, fun r hr => ?_⟩)
      rw [q1]
      exact q2 r (by rw [List.take_length]; exact hr)
end
end Mine

namespace Mine
open PySem PySem.Challenge
local macro_rules | `(tactic| walk_at "ms") => `(tactic| first | assumption | exact mset_self | (refine (mset_ne (by decide)).trans ?_; walk_at "ms"))
section
variable {C C' : Cx} {m m' : Fm} {N N' R : Hp} {a l d x dx Cl fi : Addr} {k n c : Nat} {vs : List Value} {at' : Fm} {tag tag' : Addr → Nat} {w : World} {g : Gr} {rs : List Rl} {ks : List Str} {B : Nat} {r : Rl} {sy : Addr} {tn : Tok} {o oF : Obj} {kvs kF : List (Str × Value)} {F : Nat → List Str} {st : Nat}
/-- Follow, done -/
def FowP (w : World) (tag : Addr → Nat) (N : Hp) (g : Gr) (rs : List Rl) (ks : List Str) (F : Nat → List Str) (st : Nat) (v : Value) (N' : Hp) : Prop :=
  v = .ref g.fo ∧ ∃ tag' o kvs G, Ext (fun t => t = 8 ∨ 40 ≤ t ∧ t < 43) tag N tag' N' ∧ LDF w tag' N' g.fo 8 40 [] ks G o kvs ∧ GReach rs F st G ∧ ∀ r ∈ rs, ∀ i b, r.2[i]? = some b → b < 3 → GClosed F G r i b
set_option maxHeartbeats 2000000 in
theorem cfollow_call (hC : Amb C (k + 2)) (hg : GX C.w tag N g rs ks B) (ok : ∀ r ∈ rs, Ok1 r) (hB : B ≤ 1000) (hf : LDF C.w tag N g.fi 7 20 (termK rs ++ [ENDS]) ks F oF kF) (hF : FReach rs F) (hfo : Cell tag N 8 g.fo o) (hd : IsD C.w o []) (hst : st < 3) (hks : told st ∈ ks) {Q : Value → Fm → Hp → Prop}
    (q : ∀ tag' N' o kvs G, Ext (fun t => t = 8 ∨ 40 ≤ t ∧ t < 43) tag N tag' N' → LDF C.w tag' N' g.fo 8 40 [] ks G o kvs → GReach rs F st G → (∀ r ∈ rs, ∀ i b, r.2[i]? = some b → b < 3 → GClosed F G r i b) → Q (.ref g.fo) m N') : Run C (call (.ref 238) [.ref g.x, .str (told st) tn]) m N Q := by
  refine r_call (cr_call_def (P := FowP C.w tag N g rs ks F st) hC (SM 9 14) "Grammar.compute_follow" [("self", .ref g.x), ("start", .str (told st) tn)] (lk238 _) (by kernel_rfl)
    (fun s hs => BindsTo.of_defaults rfl (hs _ _ (lk231 _)) rfl rfl rfl) (locs (by kernel_rfl)) (by decide +kernel) (by kernel_rfl) (by kernel_rfl) (by kernel_rfl) (fun C' hC' => ?_)
    (fun v N' ⟨e, tag', o, kvs, G, h1, h2, h3, h4⟩ => by rw [e]; exact q tag' N' o kvs G h1 h2 h3 h4))
  have hw : C'.w = C.w := hC'.2.1
  rw [← hw] at hg hd hf ⊢
  have fe := callee_env hC' (by kernel_rfl)
  have k0 : C'.env.kindOf "self" = some .local := callee_kind hC' (by kernel_rfl)
  have k1 : C'.env.kindOf "start" = some .local := callee_kind hC' (by kernel_rfl)
  have hA := hC'.1
  obtain ⟨at', ca, hi, hat⟩ := hg.inst
  have hl1 := told_len st (by omega)
  have hl0 : (told st).length ≠ 0 := by
    have : st = 0 ∨ st = 1 ∨ st = 2 := by omega
    rcases this with rfl | rfl | rfl <;> decide
  have hksl : ks.length ≤ 3 := nodup_len (l' := [told 0, told 1, told 2]) hg.ntnd fun y hy => by
    obtain ⟨i, hi, rfl⟩ := hg.ntin y hy
    have : i = 0 ∨ i = 1 ∨ i = 2 := by omega
    rcases this with rfl | rfl | rfl <;> simp
  have hfk : kF ≠ [] := fun z => by
    have := hf.keys
    rw [z] at this
    have := congrArg List.length this
    simp at this
  have hfkl : kF.length ≤ 1000000 := by
    have := congrArg List.length hf.keys
    have h2 := termK_len (rs := rs)
    rw [List.length_map, List.length_append, List.length_append] at this
    have : kF.length ≤ 10 := by rw [this]; show _ + 1 + _ ≤ 10; omega
    omega
  with_unfolding_all refine r_cons ?_
  refine r_genm (fun m => m "self" = some (.ref g.x) ∧ m "start" = some (.str (told st) tn)) ⟨rfl, rfl⟩ fun m0 ⟨e0, e1⟩ => ?_
  refine r_ifS (r_tPlain (r_selfAt fe hA k0 (by kernel_rfl) e0 hi.2.2 hat.fo rfl (r_truthDict hfo.2 hd (by simp) ?_)))
  rw [if_neg (by decide)]
  refine r_nil ?_
  refine r_cons (r_ifS (r_tNot (r_tPlain (r_selfAt fe hA k0 (by kernel_rfl) e0 hi.2.2 hat.fi rfl (r_truthDict hf.cell.2 hf.isd hfkl ?_)))))
  rw [if_neg (by cases kF with | nil => exact absurd rfl hfk | cons a b => simp)]
  refine r_nil ?_
  have h0 : LDF C'.w tag N g.fo 8 40 [] [] (fun _ => []) o [] := ⟨hfo, hd, rfl, fun y hy => by simp at hy, fun i _ hk => by simp at hk⟩
  refine r_cons (r_mono (cw_loop1 hC' hg h0 (fun m => m "self" = some (.ref g.x) ∧ m "start" = some (.str (told st) tn)) (fun m v h => ⟨(mset_ne (by decide)).trans h.1, (mset_ne (by decide)).trans h.2⟩) ⟨e0, e1⟩ (fun m h => h.1)) ?_)
  rintro _ m1 N1 ⟨rfl, ⟨e0, e1⟩, tag1, o1, kv1, E1, h1⟩
  have i1 := hi.ext E1 (by decide) (by decide)
  have hkl : kv1.length ≤ 1000000 := by
    have := congrArg List.length h1.keys
    rw [List.length_map, List.nil_append] at this; omega
  refine r_cons (r_ifS (r_tNot (r_tPlain (r_name fe k1 e1 (r_truthStr (by omega) ?_)))))
  rw [if_neg (by simp only [Bool.not_eq_true', bne_eq_false_iff_eq]; omega)]
  refine r_nil ?_
  refine r_cons (r_assignSub (r_list (r_splCons (r_str fun t1 => r_splNil (r_newList (fun l hl => ?_) (by show 1 ≤ sizeLine; rw [sizeLine_eq]; omega))))))
  have hdl : g.fo ≠ l := fun z => by have := h1.cell.2; rw [z, hl] at this; cases this
  refine r_selfAt fe hA k0 (by kernel_rfl) e0 (i1.2.2.le (Le.upd hl)) hat.fo rfl (r_name fe k1 e1 (r_dictSet (o := o1) (by rw [upd_ne hdl]; exact h1.cell.2) h1.isd hkl fun o' hd' => ?_))
  have h2 := h1.setN (ys := [ENDS]) hst (.cons ENDS t1 .nil) hl (by simp) hks (by decide) hd'
  have E2 : Ext (fun t => t = 8) tag N (tset tag1 l (40 + st)) _ := E1.trans ((Ext.new (o := lst [.str ENDS t1] 0) hl).trans (Ext.upd (o' := o') (h1.cell.put hl) rfl))
  refine r_cons (r_mono (cw_loop hC' (hg.ext E2 (fun t _ _ h => h)) ok hB (hf.ext E2 (by decide) (by decide) (fun i hi => by omega)) hF h2 e0) ?_)
  rintro _ m4 N4 ⟨rfl, e0, tag4, G, E4, h4, hr, hc⟩
  have E : Ext (fun t => t = 8 ∨ 40 ≤ t ∧ t < 43) tag N tag4 N4 := (E2.mono fun t h => .inl h).trans (E4.mono fun t h => .inr h)
  exact r_one (r_ret (r_selfAt fe hA k0 (by kernel_rfl) e0 (hi.ext E (by decide) (by decide)).2.2 hat.fo rfl ⟨rfl, tag4, _, _, G, E, h4, hr, hc⟩))
set_option maxHeartbeats 1000000 in
/-- the second time -/
theorem cfollow_again (hC : Amb C (k + 2)) (hg : GX C.w tag N g rs ks B) (hf : Cell tag N 8 g.fo o) (hd : IsD C.w o kvs) (hz : kvs.length ≤ 1000000) (hne : kvs ≠ []) {Q : Value → Fm → Hp → Prop}
    (q : Q (.ref g.fo) m N) : Run C (call (.ref 238) [.ref g.x, .str (told st) tn]) m N Q := by
  refine r_call (cr_call_def (P := fun v N' => v = .ref g.fo ∧ N' = N) hC (SM 9 14) "Grammar.compute_follow" [("self", .ref g.x), ("start", .str (told st) tn)] (lk238 _) (by kernel_rfl)
    (fun s hs => BindsTo.of_defaults rfl (hs _ _ (lk231 _)) rfl rfl rfl) (locs (by kernel_rfl)) (by decide +kernel) (by kernel_rfl) (by kernel_rfl) (by kernel_rfl) (fun C' hC' => ?_)
    (fun v N' ⟨e, e'⟩ => by rw [e, e']; exact q))
  have hw : C'.w = C.w := hC'.2.1
  rw [← hw] at hg hd
  have fe := callee_env hC' (by kernel_rfl)
  have k0 : C'.env.kindOf "self" = some .local := callee_kind hC' (by kernel_rfl)
  have hA := hC'.1
  obtain ⟨at', ca, hi, hat⟩ := hg.inst
  with_unfolding_all refine r_cons ?_
  refine r_genm (fun m => m "self" = some (.ref g.x)) rfl fun m0 e0 => ?_
  refine r_ifS (r_tPlain (r_selfAt fe hA k0 (by kernel_rfl) e0 hi.2.2 hat.fo rfl (r_truthDict hf.2 hd hz ?_)))
  rw [if_pos (by cases kvs with | nil => exact absurd rfl hne | cons => rfl)]
  exact r_one (r_ret (r_selfAt fe hA k0 (by kernel_rfl) e0 hi.2.2 hat.fo rfl ⟨rfl, rfl⟩))
end
end Mine

namespace Mine
open PySem PySem.Challenge
section
variable {α : Type} {C : Cx} {m m' : Fm} {N N' R : Hp} {a b l d c : Addr} {k n : Nat} {o oa ob : Obj} {vs : List Value}
/-! cells of the frame -/
theorem r_storeCell {x : Str} {v : Value} {v₀ : Option Value} {Q : Unit → Fm → Hp → Prop} (e : FEnv C) (hx : C.env.kindOf x = some .cell) (hc : C.env.cells.lookup x = some c) (ho : N c = some o) (hd : o.data = .cell v₀) (q : ∀ o', o'.data = .cell (some v) → Q () m (upd N c o')) : Run C (storeName C.env x v) m N Q := r_of fun R h tk S =>
  wpAny_storeName_cell e.kind hx hc ⟨o, S.get ho, hd⟩ fun h' hv hs => by
    obtain ⟨o', ho', hd'⟩ := hv
    exact Post.intro (S.write ho hs ho') (q o' hd')
theorem r_assignCell {x : Str} {px p : Pos} {value : Expr} {Q : Flow → Fm → Hp → Prop} (e : FEnv C) (hx : C.env.kindOf x = some .cell) (hc : C.env.cells.lookup x = some c)
    (q : Run C (eval value C.env) m N fun v m' N' => ∃ o v₀, N' c = some o ∧ o.data = .cell v₀ ∧ ∀ o', o'.data = .cell (some v) → Q .next m' (upd N' c o'))
    (hs : swapsWith value (some (.Name x px)) p.line C.env = pure false := by rfl) : Run C (exec (.Assign [.Name x px] value p) C.env) m N Q := by
  rw [exec_Assign_Name _ _ _ _ _ hs]
  refine r_at_bind (r_bind (r_mono q fun v m' N' r => r_at_bind (r_bind ?_)))
  obtain ⟨o, v₀, ho, hd, r⟩ := r
  exact r_of fun R h tk S => wpAny_bindName ((r_storeCell e hx hc ho hd (Q := fun u m N => Run C (pure .next) m N Q) (fun o' hd' => r_pure (r o' hd'))).go R h tk S)
/-! one cell aside -/
def del (N : Hp) (a : Addr) : Hp := fun b => if b = a then none else N b
theorem Sat.aside (S : Sat C m (upd N a o) R h) (ha : N a = none) : Sat C m N (upd R a o) h ∧ R a = none ∧ C.h₀.get? a = none := by
  have e := S.own a o upd_self
  refine ⟨S.frame ha, e.2.2, ?_⟩
  cases q : C.h₀.get? a with
  | none => rfl
  | some ob => have := S.base _ _ q; rw [e.2.2] at this; cases this
theorem Sat.back (S : Sat C m N (upd R a o) h) (hr : R a = none) (hb : C.h₀.get? a = none) (hsm : (a == sysModules) = false) (hf : ∀ p ∈ C.fms, p.1 ≠ a) : N a = none ∧ Sat C m (upd N a o) R h := by
  have na : N a = none := by
    cases q : N a with
    | none => rfl
    | some ob => have := (S.own _ _ q).2.2; rw [upd_self] at this; cases this
  have e := S.fr a o upd_self
  exact ⟨na, (S.unframe hr hb).own1 e.1 na hr e.2 hf hsm⟩
theorem r_frame {t : Sem α} {Q : α → Fm → Hp → Prop} (ha : N a = none) (k : Run C t m N Q) : Run C t m (upd N a o) fun v m' N'' => ∃ N', N' a = none ∧ N'' = upd N' a o ∧ Q v m' N' := r_of fun R h tk S => by
  obtain ⟨S', hr, hb⟩ := S.aside ha
  refine wpAny_mono (k.go _ h tk S') (fun v s' hp => ?_) fun _ _ e => e
  obtain ⟨h', tk', m', N', rfl, S₁, q⟩ := hp
  have hf : ∀ p ∈ C.fms, p.1 ≠ a := fun p hp z => by have := (S.frs p hp).2.2.1; rw [z, upd_self] at this; cases this
  obtain ⟨na, S₂⟩ := S₁.back hr hb (S.sm a o upd_self) hf
  exact Post.intro S₂ ⟨N', na, rfl, q⟩
/-- a statement that does not touch two cells -/
theorem r_consF {c₁ c₂ : Addr} {o₁ o₂ : Obj} {st : Stmt} {rest : List Stmt} {P : Fm → Hp → Prop} {Q : Flow → Fm → Hp → Prop} (h1 : N c₁ = none) (h2 : N c₂ = none) (hne : c₁ ≠ c₂) (q : Run C (exec st C.env) m N fun fl m' N' => fl = .next ∧ P m' N')
    (q2 : ∀ m' N', P m' N' → N' c₁ = none → N' c₂ = none → Run C (execs rest C.env) m' (upd (upd N' c₁ o₁) c₂ o₂) Q) : Run C (execs (st :: rest) C.env) m (upd (upd N c₁ o₁) c₂ o₂) Q := by
  have h3 : upd N c₁ o₁ c₂ = none := by rw [upd_ne hne.symm]; exact h2
  refine r_cons (r_mono (r_frame h3 (r_frame h1 q)) ?_)
  rintro fl m' N'' ⟨N₁, e1, rfl, N₂, e2, rfl, rfl, p⟩
  exact q2 m' N₂ p e2 (by rw [upd_ne hne.symm] at e1; exact e1)
/-! sorted, list -/
theorem r_sorted {ys : List Str} {Q : Value → Fm → Hp → Prop} (e : N l = some (lst vs n)) (hs : StrsAre vs ys) (hz : vs.length < 64) (q : ∀ a vs' ys' n', N a = none → StrsAre vs' ys' → ys'.Perm ys → sortedS ys' = true → Q (.ref a) m (upd N a (lst vs' n'))) : Run C (call (.builtin "sorted") [.ref l]) m N Q := r_of fun R h tk S =>
  sorted_strs (S.isList e) hs hz fun out ss' h1 h2 h3 => by
    obtain ⟨n', hn⟩ := sortedAll_at h vs out
    have S' := S.add (fun b o e => sortedAll_old e) (Nat.le_succ _) hn
    exact Post.intro S'.2 (q _ out.toList ss' n' S'.1 h1 h2 h3)
theorem r_listOfList {Q : Value → Fm → Hp → Prop} (e : N l = some (lst vs n)) (hz : vs.length ≤ 1000000) (q : ∀ a n', N a = none → Q (.ref a) m (upd N a (lst vs n'))) : Run C (call (.type "list") [.ref l]) m N Q := r_of fun R h tk S =>
  call_list_seq l (.inl rfl) (S.get e) rfl rfl (fun h' c' hk hn => by
    have S' := S.add hk (Nat.le_refl _) hn
    exact Post.intro S'.2 (q _ c' S'.1)) (by rw [List.size_toArray, sizeLine_eq]; omega)
/-! a dict display -/
theorem r_pairsNil {Q : List (Value × Value) → Fm → Hp → Prop} (q : Q [] m N) : Run C (evalPairs []) m N Q := r_eq rfl (r_pure q)
theorem r_pairsCons {x : Sem Value} {y : Sem Value} {rest : List (Sem Value × Sem Value)} {Q : List (Value × Value) → Fm → Hp → Prop} (q : Run C x m N fun kv m N => Run C y m N fun vv m N => Run C (evalPairs rest) m N fun vs m N => Q ((kv, vv) :: vs) m N) : Run C (evalPairs ((x, y) :: rest)) m N Q := by
  rw [evalPairs]
  exact r_bind (r_mono q fun kv m N r => r_bind (r_holding (r_mono r fun vv m N r => r_bind (r_holding (r_mono r fun vs m N r => r_pure r)))))
theorem r_dict {keys : List (Option Expr)} {values : List Expr} {p : Pos} {Q : Value → Fm → Hp → Prop} (hall : keys.all (·.isSome) = true) (hl : keys.length = values.length) (h0 : keys ≠ []) (hlen : keys.length ≤ 15)
    (q : ∀ D, N D = none → Run C (evalPairs (pairTrees keys values C.env p)) m (upd N D emptyDict) fun vs m' N' => ∃ kvs, N' D = some emptyDict ∧ vs.length ≤ 100 ∧ Carries (strKind PR C.w) vs kvs ∧ ∀ o, IsD C.w o (merged [] kvs) → Q (.ref D) m' (upd N' D o)) :
    Run C (eval (.Dict keys values p) C.env) m N Q := r_of fun R h tk S => by
  have S' := S.push emptyDict
  refine wpAny_Dict_any hall hl h0 hlen (wpAny_mono ((q _ S'.1).go R _ tk S'.2) (fun vs s₁ hp => ?_) fun _ _ e => e)
  obtain ⟨h₁, tk₁, m₁, N₁, rfl, S₁, kvs, hD, hv, hc, r⟩ := hp
  refine wpAny_storeAll vs kvs [] _ _ hc (S₁.dictOf hD isD_empty) (by rw [List.length_nil, hc.length, sizeLine_eq]; omega) fun h' hd hs => ?_
  obtain ⟨o', ho', hd'⟩ := Heap.dictOf_iff.mp hd
  exact Post.intro (S₁.write hD hs ho') (r o' hd')
/-! dicts, compared -/
def SameD (N : Hp) (ka kb : List (Str × Value)) : Prop := ka.length = kb.length ∧ ∀ p ∈ ka, ∃ l vs n l' vs' n' ss, p.2 = .ref l ∧ N l = some (lst vs n) ∧ StrsAre vs ss ∧ ss.all PyData.strOk = true ∧ valueAt kb p.1 = some (.ref l') ∧ N l' = some (lst vs' n') ∧ StrsAre vs' ss
theorem canLay_strs {ss : List Str} (h : ss.all PyData.strOk = true) : SeqAt.shaped (.list (ss.map .str)) = true := by
  have e : PyData.canLay0 (.list (ss.map .str)) = true := by simp only [PyData.canLay0, canLayAll_strs', h]
  have e2 : PyData.depth (.list (ss.map .str)) ≤ 64 := by simp only [PyData.depth, depthAll_strs']; decide
  unfold SeqAt.shaped
  rw [e, decide_eq_true e2]; rfl
theorem sameD_hits (S : Sat C m N R h) {kb : List (Str × Value)} {A : Around} {tk : Nat} (hu : A.in1.units + 64 < cLine) : ∀ ka : List (Str × Value), (∀ p ∈ ka, ∃ l vs n l' vs' n' ss, p.2 = .ref l ∧ N l = some (lst vs n) ∧ StrsAre vs ss ∧ ss.all PyData.strOk = true ∧ valueAt kb p.1 = some (.ref l') ∧ N l' = some (lst vs' n') ∧ StrsAre vs' ss) →
    KeqHits A.in1 (C.at h tk) kb ka true
  | [], _ => .nil
  | (y, v) :: r, hh => by
    obtain ⟨l, vs, n, l', vs', n', ss, e, h1, h2, h3, h4, h5, h6⟩ := hh _ (List.mem_cons_self ..)
    obtain rfl : v = .ref l := e
    have x := keq_at (A := A) (s := C.at h tk) (Reads.list (S.get h1) rfl rfl (StrsAre.reads h h2)) (Reads.list (S.get h5) rfl rfl (StrsAre.reads h h6)) (canLay_strs h3) (canLay_strs h3) hu
    rw [SeqAt.eqv_refl _ (SeqAt.canLay_of_shaped (canLay_strs h3))] at x
    exact KeqHits.hit h4 x (sameD_hits S hu r fun p hp => hh p (List.mem_cons_of_mem _ hp))
theorem r_dictEq {ka kb : List (Str × Value)} {Q : Value → Fm → Hp → Prop} (hC : Amb C k) (ea : N a = some oa) (eb : N b = some ob) (da : IsD C.w oa ka) (db : IsD C.w ob kb) (hs : SameD N ka kb) (q : Q (.bool true) m N) : Run C (compareOp .Eq (.ref a) (.ref b)) m N Q := r_of fun R h tk S => by
  have := hC.un
  refine keq_eq (S.sm _ _ ea) (S.sm _ _ eb) (S.dictOf ea da) (S.dictOf eb db) (by omega) (fun _ => sameD_hits S (by show C.A.units + 1 + 64 < cLine; omega) ka hs.2) ?_
  rw [hs.1, beq_self_eq_true]
  exact Post.intro S q
theorem r_dictNe {ka kb : List (Str × Value)} {Q : Value → Fm → Hp → Prop} (hC : Amb C k) (ea : N a = some oa) (eb : N b = some ob) (da : IsD C.w oa ka) (db : IsD C.w ob kb) (hs : SameD N ka kb) (q : Q (.bool false) m N) : Run C (compareOp .NotEq (.ref a) (.ref b)) m N Q := r_of fun R h tk S => by
  have := hC.un
  refine keq_ne (S.sm _ _ ea) (S.sm _ _ eb) (S.dictOf ea da) (S.dictOf eb db) (by omega) (fun _ => sameD_hits S (by show C.A.units + 1 + 64 < cLine; omega) ka hs.2) ?_
  rw [hs.1, beq_self_eq_true]
  exact Post.intro S q
end
end Mine

namespace Mine
open PySem PySem.Challenge
theorem lk290 (P : Params) : (K P).lookup 290 = some (o290 P) := by kernel_rfl
/-- a list of the ground -/
def SeenL (C : Cx) (l : Addr) (vs : List Value) : Prop := ∀ m N R h, Sat C m N R h → h.IsList l vs.toArray
theorem hi_listL {C : Cx} {N : Hp} {l : Addr} {vs : List Value} (e : SeenL C l vs) : HasItem C N (.ref l) := ⟨"list", _, slot_list_getitem.lookup, fun m R h tk S => by
  obtain ⟨o, ho, hc, _⟩ := e m N R h S
  exact ⟨o, ho, hc⟩⟩
theorem r_listSliceL {C : Cx} {m : Fm} {N : Hp} {l sl : Addr} {vs : List Value} {vl vu : Value} {lo hi : Option Int} {Q : Value → Fm → Hp → Prop} (e : SeenL C l vs) (e' : N sl = some (sliceObj vl vu)) (pl : IsPart vl lo) (pu : IsPart vu hi) (hz : vs.length ≤ 1000000)
    (q : ∀ b, N b = none → Q (.ref b) m (upd N b (lst (slicePick vs.toArray lo hi none).toList 0))) : Run C (getItem (.ref l) (.ref sl)) m N Q := r_of fun R h tk S => by
  refine wpAny_getItem_list_slice (e _ _ _ _ S) ⟨_, S.get e', rfl, rfl⟩ pl pu .none (by simp) ?_ (by rw [List.size_toArray, sizeLine_eq]; omega)
  have S₃ := S.push (lst (slicePick vs.toArray lo hi none).toList 0)
  exact Post.intro S₃.2 (q _ S₃.1)
/-- the frame of law -/
structure LawC (C : Cx) (w : World) (k : Nat) (c₁ c₂ : Addr) : Prop where
  amb : Amb C k
  w : C.w = w
  env : ∃ L, C.env = envX "law" (scopeOf (S 18)) L 290 (.ref 289) [("follow", c₂), ("first", c₁)]
  ne : c₁ ≠ c₂
noncomputable def lawEnv (L c₁ c₂ : Addr) : Env := envX "law" (scopeOf (S 18)) L 290 (.ref 289) [("follow", c₂), ("first", c₁)]
set_option maxHeartbeats 2000000 in
theorem law_enter {w : World} {s₁ : Shared} {mean : ExcName → Option Value} {mg mb : Str → Option Value} (X : (K w.params).In s₁.heap) (T : Top q (looseW q loose) mean mg mb s₁.heap) {l : Addr} {vs : List Value} (hl : s₁.heap.IsList l vs.toArray)
    (body : ∀ C c₁ c₂ o₁ o₂ m, LawC C w 10 c₁ c₂ → o₁.data = .cell none → o₂.data = .cell none → SeenL C l vs → m "script" = some (.ref l) → Run C (execs (bodyOf (S 18)) C.env) m (upd (upd (fun _ => none) c₁ o₁) c₂ o₂) (Ret fun v _ _ => v = .bool true)) :
    wpAny (model PR w) callerA (call (.ref 290) [.ref l]) (fun v s' => v = .bool true ∧ (∀ b o, s₁.heap.get? b = some o → s'.heap.get? b = some o) ∧ s'.os = s₁.os ∧ s'.gens = s₁.gens) (fun _ _ => False) s₁ := by
  have hsys : sysModules < s₁.heap.objs.size := Nat.lt_of_le_of_lt (by decide) (Heap.lt_size (X _ _ (lk290 _)))
  refine wpAny_call (codeAny_call_function (fd := fnX (nameOf (S 18)) "law" (argsOf (S 18)) (bodyOf (S 18)) (scopeOf (S 18)) [] .none .none .none (.str "law_qb0003_02" 534) none (.ref 289) .none) (body := bodyOf (S 18)) (by decide) (X _ _ (lk290 _)) rfl (by kernel_rfl) (by kernel_rfl) rfl (codeRec_of (cd := .ref 289) X (by kernel_rfl))
    ((BindsTo.of_eq (by kernel_rfl) : BindsTo s₁ _ ⟨[.ref l], []⟩ [("script", .ref l)]) _ _ _ _ ?_))
  refine wpAny_newFunctionEnv_cells (by kernel_rfl) (fun y hy => ?_) fun env' he s' xx => ?_
  · rw [List.mem_singleton.mp hy]
    exact .inl (by kernel_rfl)
  subst he
  refine ⟨T.nolimit.keeps xx.toInCall.keep, codeAny_func ?_⟩
  obtain ⟨h₁, tk₁, rfl, _⟩ := xx.done
  have hk₁ := xx.toInCall.keep
  have hcl : ∀ n, cellsFrom n (scopeOf (S 18)).names [] = ([("follow", n + 1), ("first", n)] : List (Str × Addr)) := fun n => by kernel_rfl
  have kscr : (scopeOf (S 18)).names.lookup ("script" : Str) = some .local := by kernel_rfl
  have kk : ∀ e : Env, e.scope = scopeOf (S 18) → e.kindOf "script" = some .local := fun e h => by unfold Env.kindOf; rw [h]; exact kscr
  generalize hL : s₁.heap.objs.size = L at *
  have henv : newEnv (scopeOf (S 18)) L mainGlobals (cellsFrom (L + 1) (scopeOf (S 18)).names []) ("law" ++ ".<locals>.") (some 290) (.ref 289) none builtinsNs = lawEnv L (L + 1) (L + 2) := by rw [hcl]; rfl
  obtain ⟨m₂, hm₂, hns⟩ : ∃ m₂ : Fm, m₂ "script" = some (.ref l) ∧ h₁.Ns L m₂ := by
    refine ⟨_, ?_, xx.toInCall.ns⟩
    unfold bindL
    rw [if_pos (kk _ rfl)]
    unfold bindL
    exact if_pos rfl
  have cells : ∀ (x : Str) c, List.lookup x ([("follow", L + 2), ("first", L + 1)] : List (Str × Addr)) = some c → h₁.IsCell c none := fun x c e => by
    have := xx.cell x c (by show (cellsFrom (L + 1) (scopeOf (S 18)).names []).lookup x = some c; rw [hcl]; exact e)
    unfold bindC at this
    rw [if_pos (kk _ rfl)] at this
    exact this
  obtain ⟨o₁, ho₁, hd₁⟩ := cells "first" (L + 1) (by rfl)
  obtain ⟨o₂, ho₂, hd₂⟩ := cells "follow" (L + 2) (by rfl)
  clear xx
  let C : Cx := { w := w, A := callerA.deeper (lawEnv L (L + 1) (L + 2)), env := lawEnv L (L + 1) (L + 2), s₀ := s₁, h₀ := s₁.heap, base := s₁.heap, frs := [lawEnv L (L + 1) (L + 2)], mean := mean, mg := mg, mb := mb, fms := [] }
  have hout : ∀ b o, s₁.heap.get? b = some o → b < L := fun b o e => hL ▸ Heap.lt_size e
  have nbase : ∀ b, L ≤ b → s₁.heap.get? b = none := fun b hb => by
    cases e : s₁.heap.get? b with
    | none => rfl
    | some o => exact absurd (hout b o e) (Nat.not_lt.mpr hb)
  have SS : Sat C m₂ (upd (upd (fun _ => none) (L + 1) o₁) (L + 2) o₂) s₁.heap.get? h₁ := by
    refine ⟨hns, fun a o e => ?_, fun a o e => ⟨hk₁ _ _ e, Nat.ne_of_lt (hout _ _ e)⟩, fun a o e => e, Nat.le_of_eq hL, ?_, fun a o e => ?_, fun p hp => nomatch hp⟩
    · unfold upd at e
      split at e
      · rename_i q; cases e; rw [q]; exact ⟨ho₂, by show L + 2 ≠ L; omega, nbase _ (by omega)⟩
      · split at e
        · rename_i q; cases e; rw [q]; exact ⟨ho₁, by show L + 1 ≠ L; omega, nbase _ (by omega)⟩
        · cases e
    · show sysModules < s₁.heap.objs.size; rw [hL]; exact hsys
    · refine beq_eq_false_iff_ne.mpr fun z => ?_
      have : sysModules < a := by
        unfold upd at e
        split at e
        · rename_i q; rw [q]; exact Nat.lt_of_lt_of_le hsys (Nat.le_add_right ..)
        · split at e
          · rename_i q; rw [q]; exact Nat.lt_of_lt_of_le hsys (Nat.le_add_right ..)
          · cases e
      exact absurd z (Nat.ne_of_gt this)
  have AA : Amb C 10 := by
    refine ⟨fun m N R h Sx l hl => ?_, X, T, rfl, rfl, (by show callerA.depth + 1 + 10 < recursionLimit; decide), (by show callerA.units + 3 + 8 * 10 + 100 < cLine; decide), ⟨nbase L (Nat.le_refl _), fun p hp => nomatch hp⟩, fun env he L' e => .inl ?_⟩
    · refine ⟨Around.frames_deeper rfl, fun b o e => ?_, ?_⟩
      · have r := Sx.base b o e
        refine hideAll_get _ (Sx.fr b o r).1 fun q => ?_
        cases z : N b with
        | none => exact hl b q z
        | some o' => have := (Sx.own b o' z).2.2; rw [r] at this; cases this
      · have hLl : C.env.locals ∉ l := fun q => by
          cases z : N C.env.locals with
          | none => exact hl _ q z
          | some o' => exact (Sx.own _ o' z).2.1 rfl
        obtain ⟨oL, es, ep, hL', hLr⟩ := Sx.ns
        exact Heap.FunFrames.cons (by show (scopeOf (S 18)).kind ≠ _; decide +kernel) rfl ⟨oL, es, ep, hideAll_get _ hL' hLl, hLr⟩ (nbase L (Nat.le_refl _)) trivial
    · have : env = C.env := List.mem_singleton.mp he
      rw [this] at e; cases e; rfl
  have LC : LawC C w 10 (L + 1) (L + 2) := ⟨AA, rfl, ⟨L, rfl⟩, Nat.ne_of_lt (Nat.lt_succ_self _)⟩
  have hb := (body C (L + 1) (L + 2) o₁ o₂ m₂ LC hd₁ hd₂ (fun m N R h S => by
    obtain ⟨o, ho, hc⟩ := hl
    exact ⟨o, (S.fr _ _ (S.base _ _ ho)).1, hc⟩) hm₂).go _ h₁ tk₁ SS
  show wpAny _ (callerA.deeper (newEnv (scopeOf (S 18)) L mainGlobals (cellsFrom (L + 1) (scopeOf (S 18)).names []) ("law" ++ ".<locals>.") (some 290) (.ref 289) none builtinsNs)) (execs (bodyOf (S 18)) (newEnv (scopeOf (S 18)) L mainGlobals (cellsFrom (L + 1) (scopeOf (S 18)).names []) ("law" ++ ".<locals>.") (some 290) (.ref 289) none builtinsNs)) _ _ _
  rw [henv]
  refine wpAny_mono hb (fun fl s' hp => ?_) (fun _ _ z => z.elim)
  obtain ⟨h', tk', m', N', rfl, S₂, hp⟩ := hp
  exact ⟨hp, fun b o e => (S₂.fr b o e).1, rfl, rfl⟩
end Mine

namespace Mine
open PySem PySem.Challenge
def LawBody : Prop := ∀ (w : World) C c₁ c₂ o₁ o₂ m l vs ws, LawC C w 10 c₁ c₂ → o₁.data = .cell none → o₂.data = .cell none → SeenL C l vs → IntsAre vs ws → vs.length ≤ 63 → m "script" = some (.ref l) →
  Run C (execs (bodyOf (S 18)) C.env) m (upd (upd (fun _ => none) c₁ o₁) c₂ o₂) (Ret fun v _ _ => v = .bool true)
set_option maxHeartbeats 2000000 in
theorem holds_of (body : LawBody) : rw_qb0003_02.Holds := by
  refine hd ?_
  intro w s₀ s₁ mg mb G Y fa o pm cd doc dV kV ho hod hcd hD hmg hg args vals as hpre hlay hrd hwl hlo
  have X := kIn_of Y
  have T := G.T
  obtain rfl : fa = 290 := by
    have := (mg_of X T.g (n := lawD.name) (by kernel_rfl : nsIn (K w.params) mainGlobals lawD.name = some (some (.ref 290)))).symm.trans hmg
    injection this with e; injection e with e; exact e.symm
  clear G Y ho hod hcd hD hmg
  wrow_args hpre hlay hrd hwl hlo
  rename_i ws _ _ _ _ _ _ _ l vs _ hL _ _ _ hI _ hlen _
  have hvl : vs.length ≤ 63 := by have := IntsAre.length hI; omega
  refine wpAny_mono (law_enter X T hL fun C c₁ c₂ o₁ o₂ m LC h1 h2 hs hm => body w C c₁ c₂ o₁ o₂ m l vs ws LC h1 h2 hs hI hvl hm) (fun v s' hp => ?_) fun _ _ e => e.elim
  obtain ⟨rfl, hk, hos, hgs⟩ := hp
  refine ⟨.inl ⟨.bool true, .bool true, [], rfl, fun cls => ?_, .bool true, ?_, fun _ => ⟨List.nodup_nil, fun a ha => nomatch ha⟩⟩, .of_keep hk, hos, ?_⟩
  · rfl
  · wrow_post
  · rw [hgs, hg]; exact .of_eq rfl
end Mine

namespace Mine
open PySem PySem.Challenge
local macro_rules | `(tactic| walk_at "ms") => `(tactic| first | assumption | exact mset_self | (refine (mset_ne (by decide)).trans ?_; walk_at "ms"))
section
variable {C C' : Cx} {m m' : Fm} {N N' R : Hp} {a l d x : Addr} {k n : Nat} {vs : List Value} {w : World} {c₁ c₂ ra : Addr} {rs : List Rl}
theorem LawC.fe (h : LawC C w k c₁ c₂) : FEnv C := by
  obtain ⟨L, e⟩ := h.env
  exact ⟨by rw [e]; show (scopeOf (S 18)).kind = _; kernel_rfl, by rw [e], by rw [e]⟩
theorem LawC.kind (h : LawC C w k c₁ c₂) {x : Str} {r : Option NameKind} (hk : (scopeOf (S 18)).names.lookup x = r) : C.env.kindOf x = r := by
  obtain ⟨L, e⟩ := h.env
  rw [e]; exact hk
theorem LawC.cells (h : LawC C w k c₁ c₂) : C.env.cells = ([("follow", c₂), ("first", c₁)] : List (Str × Addr)) := by
  obtain ⟨L, e⟩ := h.env
  rw [e]
theorem LawC.cell1 (h : LawC C w k c₁ c₂) : C.env.cells.lookup ("first" : Str) = some c₁ := by rw [h.cells]; rfl
theorem LawC.cell2 (h : LawC C w k c₁ c₂) : C.env.cells.lookup ("follow" : Str) = some c₂ := by rw [h.cells]; rfl
theorem slice28 (vs : List Value) : (slicePick vs.toArray none (some 28) none).toList = vs.take 28 := by
  have e : sliceBounds none (some 28) none vs.toArray.size = (((0 : Nat) : Int), ((min 28 vs.length : Nat) : Int), 1) := by
    unfold sliceBounds
    simp only [List.size_toArray, Option.getD_none]
    simp
    omega
  rw [kmk_pick_nat _ e]
  simp
theorem IntsAre.take' : ∀ {vs : List Value} {ns : List Int} (i : Nat), IntsAre vs ns → IntsAre (vs.take i) (ns.take i)
  | _, _, 0, _ => by rw [List.take_zero, List.take_zero]; exact .nil
  | _, _, i + 1, .nil => by rw [List.take_nil, List.take_nil]; exact .nil
  | _, _, i + 1, .cons x t h => by rw [List.take_succ_cons, List.take_succ_cons]; exact .cons x t (IntsAre.take' i h)
set_option maxHeartbeats 800000 in
theorem l0 {ws : List Int} (hL : LawC C w (k + 3) c₁ c₂) (hs : SeenL C l vs) (hi : IntsAre vs ws) (hz : vs.length ≤ 63) (e0 : m "script" = some (.ref l)) :
    Run C (exec (stmtAt (S 18) 0) C.env) m N fun fl m' N' => fl = .next ∧ ∃ ta L, m' "tape" = some (.ref ta) ∧ TapeAt N' ta L ∧ L ≤ 1000 := by
  have fe := hL.fe
  have hA := hL.amb
  have k0 : C.env.kindOf "script" = some .local := hL.kind (by kernel_rfl)
  have k1 : C.env.kindOf "tape" = some .local := hL.kind (by kernel_rfl)
  have g1 : C.env.kindOf "list" = some .globalImplicit := hL.kind (by kernel_rfl)
  with_unfolding_all refine r_assign fe k1 (r_callName (r_builtin fe hA g1 (by kernel_rfl) PyProof.Rows.Boot.«list» (by decide) ⟨kf_type, r_splCons (r_subSlice (r_name fe k0 e0 (r_slice (r_partNone (r_partSome (r_int fun t1 => fun sl hsl => ⟨hi_listL hs, r_listSliceL hs upd_self .none (.int _ _) (by omega) fun lb hlb => r_splNil ?_⟩)))))) ⟩))
  rw [slice28]
  have hlen : (vs.take 28).length ≤ 63 := by rw [List.length_take]; omega
  refine r_listOfList upd_self (by omega) fun ta n' hta => ?_
  exact ⟨rfl, ta, _, mset_self, ⟨_, _, _, upd_self, IntsAre.take' 28 hi, rfl⟩, by omega⟩
set_option maxHeartbeats 800000 in
theorem l1 {ta : Addr} {L : Nat} (hL : LawC C w (k + 3) c₁ c₂) (e0 : m "tape" = some (.ref ta)) (ht : TapeAt N ta L) (hz : L ≤ 1000) :
    Run C (exec (stmtAt (S 18) 1) C.env) m N fun fl m' N' => fl = .next ∧ ∃ ta L st t, m' "tape" = some (.ref ta) ∧ TapeAt N' ta L ∧ L ≤ 1000 ∧ m' "start" = some (.int ((st : Nat) : Int) t) ∧ st < 3 := by
  have fe := hL.fe
  have hA := hL.amb
  have k1 : C.env.kindOf "tape" = some .local := hL.kind (by kernel_rfl)
  have k2 : C.env.kindOf "start" = some .local := hL.kind (by kernel_rfl)
  have g1 : C.env.kindOf "_law_draw" = some .globalImplicit := hL.kind (by kernel_rfl)
  with_unfolding_all refine r_assign fe k2 (r_binop (r_callName (r_global (v := .ref 261) fe hA g1 (by kernel_rfl) ⟨kf_ref hA (by kernel_rfl), r_splCons (r_name fe k1 e0 (r_splNil (draw_tape (k := k + 2) hA ht hz fun i u N' L' hb' ht' hl1 hl2 => r_int fun t3 => r_modInt (by decide) fun t4 => ?_)))⟩)))
  obtain ⟨s, hs, es⟩ := fmod_nat i 3 (by decide)
  rw [show (3 : Int) = ((3 : Nat) : Int) from rfl, es]
  exact ⟨rfl, ta, L', s, t4, by walk_at "ms", ht', by omega, mset_self, hs⟩
set_option maxHeartbeats 800000 in
theorem l2 {ta : Addr} {L st : Nat} {t : Tok} (hL : LawC C w (k + 3) c₁ c₂) (e0 : m "tape" = some (.ref ta)) (ht : TapeAt N ta L) (hz : L ≤ 1000) (e1 : m "start" = some (.int (st : Int) t)) :
    Run C (exec (stmtAt (S 18) 2) C.env) m N fun fl m' N' => fl = .next ∧ ∃ ra rs, m' "start" = some (.int (st : Int) t) ∧ m' "rules" = some (.ref ra) ∧ RulesSt N' ra rs ∧ 3 ≤ rs.length := by
  have fe := hL.fe
  have hA := hL.amb
  have k1 : C.env.kindOf "tape" = some .local := hL.kind (by kernel_rfl)
  have k2 : C.env.kindOf "rules" = some .local := hL.kind (by kernel_rfl)
  have g1 : C.env.kindOf "_law_rules" = some .globalImplicit := hL.kind (by kernel_rfl)
  with_unfolding_all refine r_assign fe k2 (r_callName (r_global (v := .ref 266) fe hA g1 (by kernel_rfl) ⟨kf_ref hA (by kernel_rfl), r_splCons (r_name fe k1 e0 (r_splNil (rules_call (k := k + 1) hA ht hz fun v N' hp => ?_)))⟩))
  obtain ⟨ra, rs, rfl, _, _, _, hst, h3⟩ := hp
  exact ⟨rfl, ra, rs, by walk_at "ms", mset_self, hst, h3⟩
/-- the cells of the kind 0 -/
def Zt (tag : Addr → Nat) (N : Hp) : Hp := fun a => if tag a = 0 then N a else none
theorem Zt.le {tag : Addr → Nat} : Le (Zt tag N) N := fun a o e => by
  unfold Zt at e
  split at e
  · exact e
  · cases e
theorem Zt.ext {T : Nat → Prop} {tag tag' : Addr → Nat} (e : Ext T tag N tag' N') (h0 : ¬ T 0) : Le (Zt tag N) (Zt tag' N') := fun a o q => by
  unfold Zt at q
  split at q
  · rename_i h
    obtain ⟨h1, h2⟩ := e 0 a o h0 ⟨h, q⟩
    unfold Zt; rw [if_pos h1]; exact h2
  · cases q
theorem Zt.zero : Zt (fun _ => 0) N = N := by funext a; exact if_pos rfl
theorem gram_bs {us : List Value} {t u : Tok} : StrsAre [.str "a" t, .str "b" u] ["a", "b"] := .cons _ _ (.cons _ _ .nil)
set_option maxHeartbeats 800000 in
theorem l3 {st : Nat} {t : Tok} (hL : LawC C w (k + 3) c₁ c₂) (e1 : m "start" = some (.int (st : Int) t)) (e2 : m "rules" = some (.ref ra)) (hr : RulesAt N ra rs) :
    Run C (exec (stmtAt (S 18) 3) C.env) m N fun fl m' N' => fl = .next ∧ ∃ g tag, m' "start" = some (.int (st : Int) t) ∧ m' "rules" = some (.ref ra) ∧ m' "grammar" = some (.ref g.x) ∧ RulesAt (Zt tag N') ra rs ∧ GA C.w tag N' g [] [] 0 := by
  have fe := hL.fe
  have hA := hL.amb
  have k2 : C.env.kindOf "grammar" = some .local := hL.kind (by kernel_rfl)
  have g1 : C.env.kindOf "Grammar" = some .globalImplicit := hL.kind (by kernel_rfl)
  with_unfolding_all refine r_assign fe k2 (r_callName (r_global (v := .ref 248) fe hA g1 (by kernel_rfl) ⟨kf_ref hA (by kernel_rfl), r_splCons (r_list (r_splCons (r_str fun t1 => r_splCons (r_str fun t2 => r_splNil (r_newList (fun lb hlb => r_splNil ?_) (by show 2 ≤ sizeLine; rw [sizeLine_eq]; omega))))))⟩))
  refine gram_call (k := k + 1) hA upd_self (.cons _ _ (.cons _ _ .nil)) fun g tag' N' hg hE => ?_
  have h2 := Zt.ext hE (by decide)
  rw [Zt.zero] at h2
  exact ⟨rfl, g, tag', by walk_at "ms", by walk_at "ms", mset_self, hr.le ((Le.upd hlb).trans h2), hg⟩
end
end Mine

namespace Mine
open PySem PySem.Challenge
local macro_rules | `(tactic| walk_at "ms") => `(tactic| first | assumption | exact mset_self | (refine (mset_ne (by decide)).trans ?_; walk_at "ms"))
section
variable {C C' : Cx} {m m' : Fm} {N N' R : Hp} {a l d x : Addr} {k n : Nat} {vs : List Value} {w : World} {c₁ c₂ ra : Addr} {rs : List Rl} {g : Gr} {tag : Addr → Nat}
set_option maxHeartbeats 2000000 in
theorem l4 {st : Nat} {t : Tok} (hL : LawC C w (k + 4) c₁ c₂) (e1 : m "start" = some (.int (st : Int) t)) (e2 : m "rules" = some (.ref ra)) (e3 : m "grammar" = some (.ref g.x)) (hr : RulesAt (Zt tag N) ra rs) (ok : ∀ r ∈ rs, Ok1 r) (hnd : rs.Nodup) (hlen : rs.length ≤ 5) (hg : GA C.w tag N g [] [] 0) :
    Run C (exec (stmtAt (S 18) 4) C.env) m N fun fl m' N' => fl = .next ∧ ∃ tag' ks, m' "start" = some (.int (st : Int) t) ∧ m' "rules" = some (.ref ra) ∧ m' "grammar" = some (.ref g.x) ∧ RulesAt (Zt tag' N') ra rs ∧ GA C.w tag' N' g rs ks (10 * rs.length) := by
  have fe := hL.fe
  have hA := hL.amb
  have hh := hA.handled
  have k1 : C.env.kindOf "rules" = some .local := hL.kind (by kernel_rfl)
  have k2 : C.env.kindOf "grammar" = some .local := hL.kind (by kernel_rfl)
  have k3 : C.env.kindOf "left" = some .local := hL.kind (by kernel_rfl)
  have k4 : C.env.kindOf "symbols" = some .local := hL.kind (by kernel_rfl)
  have g1 : C.env.kindOf "_law_TOLD" = some .globalImplicit := hL.kind (by kernel_rfl)
  obtain ⟨Lf, henv⟩ := id hL.env
  obtain ⟨vs, nn, hra, hall⟩ := id hr
  have hvl : vs.length = rs.length := hall.1
  let J : Nat → Fm → Hp → Prop := fun i m' N' => m' "start" = some (.int (st : Int) t) ∧ m' "rules" = some (.ref ra) ∧ m' "grammar" = some (.ref g.x) ∧ ∃ tag' ks, Le (Zt tag N) (Zt tag' N') ∧ GA C.w tag' N' g (rs.take i) ks (10 * i)
  with_unfolding_all refine r_for hh (r_name fe k1 e2 ⟨_, _, _, itb_list (Zt.le _ _ hra), J, ⟨e1, e2, e3, tag, [], Le.refl, by rw [List.take_zero]; exact hg⟩, ?_, ?_, ?_⟩)
  · intro b hb
    rw [List.mem_singleton.mp hb]
    exact ⟨_, fun i m N' h => by obtain ⟨_, _, _, tag', _, e, _⟩ := h; exact Zt.le _ _ (e _ _ hra)⟩
  · rintro i v m1 N1 hlt hv ⟨e1, e2, e3, tag1, ks1, le1, hg1⟩
    obtain ⟨p, hp, row⟩ := hall.get hv
    obtain ⟨rr, sy, tp, c, c', ss, rfl, h1, h2, h3⟩ := row
    have hpm := List.mem_of_getElem? hp
    obtain ⟨ok1, ok2, ok3⟩ := ok p hpm
    have hh1 := Zt.le _ _ (le1 _ _ h1)
    have hh2 := Zt.le _ _ (le1 _ _ h2)
    have htk : rs.take (i + 1) = rs.take i ++ [p] := by rw [List.take_add_one, hp]; rfl
    refine r_asPair fe hh k3 k4 hh1 ?_
    have f1 : mset (mset m1 "left" (.int (p.1 : Int) tp)) "symbols" (.ref sy) "start" = some (.int (st : Int) t) := by walk_at "ms"
    have f2 : mset (mset m1 "left" (.int (p.1 : Int) tp)) "symbols" (.ref sy) "rules" = some (.ref ra) := by walk_at "ms"
    have f3 : mset (mset m1 "left" (.int (p.1 : Int) tp)) "symbols" (.ref sy) "grammar" = some (.ref g.x) := by walk_at "ms"
    have f4 : mset (mset m1 "left" (.int (p.1 : Int) tp)) "symbols" (.ref sy) "left" = some (.int (p.1 : Int) tp) := by walk_at "ms"
    have f5 : mset (mset m1 "left" (.int (p.1 : Int) tp)) "symbols" (.ref sy) "symbols" = some (.ref sy) := mset_self
    generalize mset (mset m1 "left" (.int (p.1 : Int) tp)) "symbols" (.ref sy) = m2 at f1 f2 f3 f4 f5
    obtain ⟨us, nu, hus, hat⟩ := told_at C.w.params
    obtain ⟨tt, htt⟩ := hat p.1 (by omega)
    obtain ⟨at', ca, hi, _, hgat⟩ := hg1.inst
    have hssl : ss.length = p.2.length := by have := h3.length; rwa [List.length_map] at this
    refine r_one (r_exprS fe (r_mcall (r_name fe k2 f3 ⟨_, _, gm_own (f := 166) hA hi.2.2 (by kernel_rfl) (by kernel_rfl) (by kernel_rfl) hgat.m1, kf_ref hA (by kernel_rfl),
      r_splCons (r_sub (r_global (v := .ref 253) fe hA g1 (by kernel_rfl) (r_name fe k3 f4 ⟨hi_list (seen_K hA ((lk253 _).trans (congrArg some hus))), r_listGetS (i := p.1) (seen_K hA ((lk253 _).trans (congrArg some hus))) (by omega) htt (by omega) ?_⟩)))⟩)))
    refine r_splCons (r_listComp (cl := []) hA ?_ (by rw [henv]; kernel_rfl) (by decide +kernel) (by kernel_rfl) (by decide +kernel))
    refine r_name fe k4 f5 ⟨_, _, _, itb_tuple hh2, by omega, fun j ys N' => N' = N1 ∧ StrsAre ys ((p.2.take j).map given), ⟨rfl, .nil⟩, ?_, ?_, ?_⟩
    · intro b hb
      rw [List.mem_singleton.mp hb]
      exact ⟨_, fun i ys N' h => by rw [h.1]; exact hh2⟩
    · rintro C₂ hC₂ j v ys m3 N3 hj hv3 ⟨rfl, hys⟩
      have fe2 := comp_env hC₂ fe (by kernel_rfl)
      have c1 : C₂.env.kindOf "s" = some .local := comp_kind hC₂ (by rw [henv]; kernel_rfl)
      have c3 : C₂.env.kindOf "_law_GIVEN" = some .globalImplicit := comp_kind hC₂ (by rw [henv]; kernel_rfl)
      have hA2 := hC₂.1
      obtain ⟨s, tts, rfl, hs⟩ := nats_at h3 hv3
      have hs7 := ok3 s (List.mem_of_getElem? hs)
      obtain ⟨us2, nu2, hus2, hat2⟩ := given_at C₂.w.params
      obtain ⟨tt2, htt2⟩ := hat2 s hs7
      refine r_asName fe2 c1 ?_
      refine r_sub (r_global (v := .ref 254) fe2 hA2 c3 (by kernel_rfl) (r_name fe2 c1 mset_self ⟨hi_list (seen_K hA2 ((lk254 _).trans (congrArg some hus2))), r_listGetS (i := s) (seen_K hA2 ((lk254 _).trans (congrArg some hus2))) (by omega) htt2 (by omega) ?_⟩))
      refine ⟨rfl, ?_⟩
      rw [List.take_add_one, hs, List.map_append]
      exact StrsAre.snoc' _ tt2 hys
    · rintro ys N3 ⟨rfl, hys⟩ D cD hD
      rw [hssl, List.take_length] at hys
      have E1 : Ext (fun _ => False) tag1 N3 (tset tag1 D 99) (upd N3 D (lst ys cD)) := Ext.new hD
      have hg2 := hg1.keep E1 (fun t _ q => q)
      refine r_splNil (add_call (k := k + 1) hA hg2 (ok p hpm) (fun r' hr' => ok r' (List.mem_of_mem_take hr')) (nodup_take hnd hp) (by omega) Cell.new hys fun tag3 N4 ks3 hg3 E3 => ⟨fun a z => (nomatch z), ?_⟩)
      refine ⟨f1, f2, f3, tag3, ks3, le1.trans ((Zt.ext E1 (fun q => q)).trans (Zt.ext E3 (fun q => q rfl))), ?_⟩
      rw [htk]
      exact hg3
  · rintro m1 N1 ⟨e1, e2, e3, tag1, ks1, le1, hg1⟩
    rw [hvl, List.take_length] at hg1
    exact r_nil ⟨rfl, tag1, ks1, e1, e2, e3, hr.le le1, hg1⟩
set_option maxHeartbeats 2000000 in
theorem l5 {st : Nat} {t : Tok} {ks : List Str} {B : Nat} (hL : LawC C w (k + 4) c₁ c₂) (e1 : m "start" = some (.int (st : Int) t)) (e2 : m "rules" = some (.ref ra)) (e3 : m "grammar" = some (.ref g.x)) (hr : RulesAt (Zt tag N) ra rs) (hst : st < 3) (hks : told st ∈ ks) (hB : B ≤ 70) (hg : GA C.w tag N g rs ks B) :
    Run C (exec (stmtAt (S 18) 5) C.env) m N fun fl m' N' => fl = .next ∧ ∃ tag', m' "start" = some (.int (st : Int) t) ∧ m' "rules" = some (.ref ra) ∧ m' "grammar" = some (.ref g.x) ∧ RulesAt (Zt tag' N') ra rs ∧ GA C.w tag' N' g rs ks (B + 1) := by
  have fe := hL.fe
  have hA := hL.amb
  have k2 : C.env.kindOf "grammar" = some .local := hL.kind (by kernel_rfl)
  have k3 : C.env.kindOf "start" = some .local := hL.kind (by kernel_rfl)
  have g1 : C.env.kindOf "_law_TOLD" = some .globalImplicit := hL.kind (by kernel_rfl)
  obtain ⟨us, nu, hus, hat⟩ := told_at C.w.params
  obtain ⟨tt, htt⟩ := hat st (by omega)
  obtain ⟨at', ca, hi, _, hgat⟩ := hg.inst
  with_unfolding_all refine r_exprS fe (r_mcall (r_name fe k2 e3 ⟨_, _, gm_own (f := 174) hA hi.2.2 (by kernel_rfl) (by kernel_rfl) (by kernel_rfl) hgat.m2, kf_ref hA (by kernel_rfl),
      r_splCons (r_sub (r_global (v := .ref 253) fe hA g1 (by kernel_rfl) (r_name fe k3 e1 ⟨hi_list (seen_K hA ((lk253 _).trans (congrArg some hus))), r_listGetS (i := st) (seen_K hA ((lk253 _).trans (congrArg some hus))) rfl htt (by omega) (r_splNil ?_)⟩)))⟩))
  refine start_call (k := k + 1) hA hg hst hks hB fun tag' N' hg' E => ⟨fun a z => (nomatch z), rfl, tag', e1, e2, e3, hr.le (Zt.ext E (fun q => q rfl)), hg'⟩
end
end Mine

namespace Mine
open PySem PySem.Challenge
local macro_rules | `(tactic| walk_at "ms") => `(tactic| first | assumption | exact mset_self | (refine (mset_ne (by decide)).trans ?_; walk_at "ms"))
/-! sorted lists -/
theorem pair_of_rising : ∀ (l : List Str) (p : Str), risingS p l = true → (p :: l).Pairwise (fun a b => ¬ b.cps.toList < a.cps.toList)
  | [], p, _ => List.pairwise_singleton ..
  | x :: r, p, h => by
    have h' : (!Spec.ltCps x.cps.toList p.cps.toList && risingS x r) = true := h
    rw [Bool.and_eq_true, ltCps_eq, Bool.not_eq_true', decide_eq_false_iff_not] at h'
    have ih := pair_of_rising r x h'.2
    refine List.pairwise_cons.mpr ⟨fun y hy => ?_, ih⟩
    rcases List.mem_cons.mp hy with rfl | hy
    · exact h'.1
    · have h2 := (List.pairwise_cons.mp ih).1 y hy
      exact fun z => absurd (List.le_trans (List.not_lt.mp h'.1) (List.not_lt.mp h2)) (List.not_le.mpr z)
theorem pair_of_sorted : ∀ (l : List Str), sortedS l = true → l.Pairwise (fun a b => ¬ b.cps.toList < a.cps.toList)
  | [], _ => .nil
  | x :: r, h => pair_of_rising r x h
theorem sorted_eq {l l' : List Str} (h : sortedS l = true) (h' : sortedS l' = true) (p : l.Perm l') : l = l' := by
  refine List.Perm.eq_of_pairwise (fun a b _ _ h1 h2 => ?_) (pair_of_sorted l h) (pair_of_sorted l' h') p
  have : a.cps.toList = b.cps.toList := List.le_antisymm (List.not_lt.mp h1) (List.not_lt.mp h2)
  cases a; cases b
  simp only [Str.mk.injEq]
  exact Array.toList_inj.mp this
section
variable {C C' : Cx} {m m' : Fm} {N N' R : Hp} {a l d x : Addr} {k n : Nat} {vs : List Value} {w : World} {c₁ c₂ ra : Addr} {rs : List Rl} {g : Gr} {tag tag' : Addr → Nat}
theorem r_inNats {ss : List Nat} {j : Nat} {t : Tok} {Q : Value → Fm → Hp → Prop} (e : N l = some (tup vs n)) (hs : NatsAre vs ss) (q : Q (.bool (ss.contains j)) m N) : Run C (compareOp .In (.int (j : Int) t) (.ref l)) m N Q := r_of fun R h tk S => by
  refine SeqAt.in_tupleAt (isInt j) ⟨_, S.get e, rfl, _, rfl⟩ (fun y hy => ?_) ?_
  · obtain ⟨i, hi, e⟩ := List.getElem_of_mem (show y ∈ vs by simpa using hy)
    obtain ⟨s, ts, rfl, _⟩ := nats_at hs (show vs[i]? = some y by rw [List.getElem?_eq_getElem hi, e])
    exact SeqAt.EqAt.int_int _ _ _ _
  · rw [← Array.any_toList, show vs.toArray.toList = vs from rfl, any_isInt _ hs, List.any_map]
    have : ss.any ((fun x => x == (j : Int)) ∘ fun (s : Nat) => (s : Int)) = ss.contains j := by
      rw [Bool.eq_iff_iff, List.any_eq_true, List.contains_iff_mem]
      constructor
      · rintro ⟨s, hs, e⟩
        simp only [Function.comp, beq_iff_eq] at e
        have : s = j := by omega
        exact this ▸ hs
      · exact fun h => ⟨j, h, by simp⟩
    first
      | (rw [this]; exact Post.intro S q)
      | (simp only [NatsAre] at *; rw [this]; exact Post.intro S q)
/-! pairs of a display -/
theorem r_pairE {kx vx : Expr} {ks : List (Option Expr)} {xs : List Expr} {p : Pos} {Q : List (Value × Value) → Fm → Hp → Prop} (q : Run C (eval kx C.env) m N fun kv m N => Run C (eval vx C.env) m N fun vv m N => Run C (evalPairs (pairTrees ks xs C.env p)) m N fun l m N => Q ((kv, vv) :: l) m N) : Run C (evalPairs (pairTrees (some kx :: ks) (vx :: xs) C.env p)) m N Q :=
  r_pairsCons (r_mono q fun kv m N r => r_bind (r_mono r fun vv m N r => r_at_bind (r_pure r)))
theorem r_pairE0 {p : Pos} {Q : List (Value × Value) → Fm → Hp → Prop} (q : Q [] m N) : Run C (evalPairs (pairTrees [] [] C.env p)) m N Q := r_pairsNil q
/-! what is due -/
def DueV (tag : Addr → Nat) (N : Hp) (kvs : List (Str × Value)) (Ks : List Str) (n : Nat) (P : Nat → List Str → Prop) : Prop :=
  kvs.map (·.1) = Ks ++ (List.range n).map told ∧ (∀ y ∈ Ks, ∃ l c tk, valueAt kvs y = some (.ref l) ∧ Cell tag N 0 l (lst [.str y tk] c)) ∧ ∀ i < n, ∃ l vs c ss, valueAt kvs (told i) = some (.ref l) ∧ Cell tag N 0 l (lst vs c) ∧ StrsAre vs ss ∧ P i ss
theorem DueV.nil {P : Nat → List Str → Prop} : DueV tag N [] [] 0 P := ⟨rfl, fun y hy => by simp at hy, fun i hi => absurd hi (Nat.not_lt_zero _)⟩
theorem DueV.ext {kvs : List (Str × Value)} {Ks : List Str} {P : Nat → List Str → Prop} {T : Nat → Prop} (h : DueV tag N kvs Ks n P) (e : Ext T tag N tag' N') (h0 : ¬ T 0) : DueV tag' N' kvs Ks n P :=
  ⟨h.1, fun y hy => let ⟨l, c, tk, e1, e2⟩ := h.2.1 y hy; ⟨l, c, tk, e1, e _ _ _ h0 e2⟩, fun i hi => let ⟨l, vs, c, ss, e1, e2, e3⟩ := h.2.2 i hi; ⟨l, vs, c, ss, e1, e _ _ _ h0 e2, e3⟩⟩
theorem DueV.addK {kvs : List (Str × Value)} {Ks : List Str} {P : Nat → List Str → Prop} {y : Str} {tk : Tok} {c : Nat} (h : DueV tag N kvs Ks 0 P) (hy : y ∉ Ks) (hl : Cell tag N 0 l (lst [.str y tk] c)) : DueV tag N (stored kvs y (.ref l)) (Ks ++ [y]) 0 P := by
  have hk := h.1
  rw [List.range_zero, List.map_nil, List.append_nil] at hk
  refine ⟨?_, fun z hz => ?_, fun i hi => absurd hi (Nat.not_lt_zero _)⟩
  · rw [keys_stored, hk, if_neg hy, List.range_zero, List.map_nil, List.append_nil]
  · rw [valueAt_stored]
    by_cases hzy : z = y
    · subst hzy
      rw [if_pos rfl]
      exact ⟨l, c, tk, rfl, hl⟩
    · rw [if_neg hzy]
      exact h.2.1 z ((List.mem_append.mp hz).resolve_right fun q => hzy (List.mem_singleton.mp q))
theorem DueV.addN {kvs : List (Str × Value)} {Ks : List Str} {P : Nat → List Str → Prop} {c : Nat} {ss : List Str} (h : DueV tag N kvs Ks n P) (hn : n < 3) (hK : ∀ i < 3, told i ∉ Ks) (hl : Cell tag N 0 l (lst vs c)) (hs : StrsAre vs ss) (hp : P n ss) : DueV tag N (stored kvs (told n) (.ref l)) Ks (n + 1) P := by
  have hnew : told n ∉ Ks ++ (List.range n).map told := fun q => by
    rcases List.mem_append.mp q with q | q
    · exact hK n hn q
    · obtain ⟨j, hj, e⟩ := List.mem_map.mp q
      have hj := List.mem_range.mp hj
      have := told_inj j (by omega) n (by omega) e
      omega
  refine ⟨?_, fun z hz => ?_, fun i hi => ?_⟩
  · rw [keys_stored, h.1, if_neg hnew, List.range_succ, List.map_append, List.append_assoc]; rfl
  · rw [valueAt_stored, if_neg (fun q => hK n hn (by rw [← q]; exact hz))]
    exact h.2.1 z hz
  · rw [valueAt_stored]
    by_cases hin : i = n
    · subst hin
      rw [if_pos rfl]
      exact ⟨l, vs, c, ss, rfl, hl, hs, hp⟩
    · rw [if_neg fun q => hin (told_inj i (by omega) n (by omega) q)]
      exact h.2.2 i (by omega)
/-! {x: sorted(d[x]) for x in d} -/
/-- the list at a key -/
def FV (F : Nat → List Str) (y : Str) : List Str := if y = told 0 then F 0 else if y = told 1 then F 1 else if y = told 2 then F 2 else [y]
theorem FV_told (F : Nat → List Str) : ∀ i < 3, FV F (told i) = F i := fun i hi => by
  have : i = 0 ∨ i = 1 ∨ i = 2 := by omega
  rcases this with rfl | rfl | rfl
  · unfold FV; rw [if_pos rfl]
  · unfold FV; rw [if_neg (by decide +kernel), if_pos rfl]
  · unfold FV; rw [if_neg (by decide +kernel), if_neg (by decide +kernel), if_pos rfl]
theorem FV_other (F : Nat → List Str) {y : Str} (h : ∀ i < 3, told i ≠ y) : FV F y = [y] := by
  unfold FV; rw [if_neg (h 0 (by decide)).symm, if_neg (h 1 (by decide)).symm, if_neg (h 2 (by decide)).symm]
theorem LDF.at' {t tb : Nat} {Ks ks : List Str} {F : Nat → List Str} {o : Obj} {kvs : List (Str × Value)} (h : LDF w tag N d t tb Ks ks F o kvs) (hK : ∀ i < 3, told i ∉ Ks) (hin : ∀ y ∈ ks, ∃ i < 3, y = told i) {y : Str} (hy : y ∈ Ks ++ ks) : ∃ l vs n, valueAt kvs y = some (.ref l) ∧ N l = some (lst vs n) ∧ StrsAre vs (FV F y) := by
  rcases List.mem_append.mp hy with hy | hy
  · obtain ⟨l, n, tk, e1, c⟩ := h.fix y hy
    rw [FV_other F fun i hi q => hK i hi (q ▸ hy)]
    exact ⟨l, _, n, e1, c.2, .cons _ _ .nil⟩
  · obtain ⟨i, hi, rfl⟩ := hin y hy
    obtain ⟨l, vs, n, e1, c, s⟩ := h.var i hi hy
    rw [FV_told F i hi]
    exact ⟨l, vs, n, e1, c.2, s⟩
def SortD (N : Hp) (F : Nat → List Str) (ys : List (Str × Value)) : Prop := ∀ p ∈ ys, ∃ l vs n ss, p.2 = .ref l ∧ N l = some (lst vs n) ∧ StrsAre vs ss ∧ ss.Perm (FV F p.1) ∧ sortedS ss = true
theorem SortD.le {F : Nat → List Str} {ys : List (Str × Value)} (h : SortD N F ys) (e : Le N N') : SortD N' F ys := fun p hp => let ⟨l, vs, n, ss, e1, e2, e3⟩ := h p hp; ⟨l, vs, n, ss, e1, e _ _ e2, e3⟩
theorem stored_new {kvs : List (Str × Value)} {y : Str} {v : Value} (h : y ∉ kvs.map (·.1)) : stored kvs y v = kvs ++ [(y, v)] := by
  unfold stored
  rw [if_neg]
  intro q
  obtain ⟨p, hp, e⟩ := List.any_eq_true.mp q
  exact h (List.mem_map.mpr ⟨p, hp, of_decide_eq_true e⟩)
set_option maxHeartbeats 2000000 in
theorem r_sortComp {nm : Str} {c : Addr} {scope : Scope} {oc o : Obj} {kvs : List (Str × Value)} {F : Nat → List Str} {p1 p2 p3 p4 p5 p6 p7 p8 p9 : Pos} {Q : Value → Fm → Hp → Prop} (hL : LawC C w k c₁ c₂) (kn : C.env.kindOf nm = some .cell) (hc : C.env.cells.lookup nm = some c)
    (hcn : N c = some oc) (hcd : oc.data = .cell (some (.ref d))) (hd : N d = some o) (hdd : IsD C.w o kvs) (hz : kvs.length ≤ 1000) (hnd : (kvs.map (·.1)).Nodup)
    (hv : ∀ y ∈ kvs.map (·.1), ∃ l vs n, valueAt kvs y = some (.ref l) ∧ N l = some (lst vs n) ∧ StrsAre vs (FV F y) ∧ (FV F y).length ≤ 60)
    (s1 : (relabel scope C.env).names.lookup ("x" : Str) = some .local) (s2 : (relabel scope C.env).names.lookup nm = some .cell) (s3 : (relabel scope C.env).names.lookup ("sorted" : Str) = some .globalImplicit)
    (s4 : scope.names.filter (·.2 == .free) = [(nm, .free)]) (s5 : ∀ y ∈ scope.names, y.2 ≠ .cell) (s6 : scope.kind = .function) (s7 : ∀ y ∈ scope.names, y.2 = .local → scope.names.lookup y.1 = some .local)
    (hdb : (nm == ("__debug__" : Str)) = false) (hdc : (nm == ("__classdict__" : Str)) = false) (s8 : (relabel scope C.env).kind = .function)
    (q : ∀ D o' ys N', IsD C.w o' ys → N' D = none → Le N N' → ys.map (·.1) = kvs.map (·.1) → SortD N' F ys → Q (.ref D) m (upd N' D o')) :
    Run C (eval (.DictComp (.Name "x" p1) (.Call (.Name "sorted" p2) [.Subscript (.Name nm p3) (.Name "x" p4) p5] [] p6) [⟨.Name "x" p7, .Name nm p8, [], 0⟩] scope p9) C.env) m N Q := by
  have fe := hL.fe
  have hA := hL.amb
  refine r_dictComp (cl := [(nm, c)]) hA ?_ (closureFor_one hc s4) s5 s6 s7
  refine r_cell fe kn hc hcn hcd ?_ hdb
  refine ⟨_, _, _, itb_dict hd hdd, by omega, fun i ys N' => Le N N' ∧ ys.map (·.1) = (kvs.map (·.1)).take i ∧ SortD N' F ys, ⟨Le.refl, by rw [List.take_zero]; rfl, fun p hp => by simp at hp⟩, ?_, ?_, ?_⟩
  · intro b hb
    rw [List.mem_singleton.mp hb]
    exact ⟨_, fun i ys N' h => h.1 _ _ hd⟩
  · rintro C₂ h2 i v ys m1 N1 hi ⟨y, u, ⟨ty, rfl⟩, hkv⟩ ⟨le, hk, hsd⟩
    have hyi : (kvs.map (·.1))[i]? = some y := by rw [List.getElem?_map, hkv]; rfl
    have hym := List.mem_of_getElem? hyi
    have hnew := nodup_take hnd hyi
    obtain ⟨l, vs, n, e1, e2, e3, e4⟩ := hv y hym
    have fe2 : FEnv C₂ := comp_env h2 fe s8
    have cl2 := comp_cells h2
    have n1 : C₂.env.kindOf "x" = some .local := comp_kind h2 s1
    have n2 : C₂.env.kindOf nm = some .cell := comp_kind h2 s2
    have n3 : C₂.env.kindOf "sorted" = some .globalImplicit := comp_kind h2 s3
    have cc : C₂.env.cells.lookup nm = some c := by rw [cl2]; exact List.lookup_cons_self
    have hw2 : C₂.w = C.w := h2.2.1
    have hA2 := h2.1
    refine r_asName fe2 n1 ?_
    show Run C₂ (eval (.Name "x" p1) C₂.env) _ _ _
    refine r_name fe2 n1 mset_self ⟨y, ty, rfl, ?_⟩
    refine r_callName (r_builtin fe2 hA2 n3 (by kernel_rfl) PyProof.Rows.Boot.«sorted» (by decide) ⟨kf_builtin, r_splCons (r_sub (r_cell fe2 n2 cc (le _ _ hcn) hcd (r_name fe2 n1 mset_self ⟨hi_dict (le _ _ hd) (by rw [hw2]; exact hdd), r_dictGet (le _ _ hd) (by rw [hw2]; exact hdd) e1 (r_splNil ?_)⟩) hdb))⟩)
    have hvl : vs.length < 64 := by have := StrsAre.len e3; omega
    refine r_sorted (le _ _ e2) e3 hvl fun a vs' ys' n' ha h1 h2' h3 => ⟨le.trans (Le.upd ha), ?_, ?_⟩
    · rw [keys_stored, hk, if_neg hnew, List.take_add_one, hyi]; rfl
    · rw [stored_new (by rw [hk]; exact hnew)]
      intro p hp
      rcases List.mem_append.mp hp with hp | hp
      · exact hsd.le (Le.upd ha) p hp
      · rw [List.mem_singleton.mp hp]
        exact ⟨a, vs', n', ys', rfl, upd_self, h1, h2', h3⟩
  · rintro ys N1 ⟨le, hk, hsd⟩ D o' ho' hD
    have : kvs.length = (kvs.map (·.1)).length := (List.length_map ..).symm
    rw [this, List.take_length] at hk
    exact q D o' ys N1 ho' hD le hk hsd
end
end Mine

namespace Mine
open PySem PySem.Challenge
local macro_rules | `(tactic| walk_at "ms") => `(tactic| first | assumption | exact mset_self | (refine (mset_ne (by decide)).trans ?_; walk_at "ms"))
section
variable {C C' : Cx} {m m' : Fm} {N N' R : Hp} {a l d x : Addr} {k n : Nat} {vs : List Value} {w : World} {c₁ c₂ ra : Addr} {rs : List Rl} {ks : List Str} {B : Nat} {g : Gr} {tag tag' : Addr → Nat} {o o₁ oF : Obj} {kvs kF : List (Str × Value)} {F : Nat → List Str} {st : Nat} {v₀ : Option Value}
set_option maxHeartbeats 1000000 in
theorem l6 (hL : LawC C w (k + 4) c₁ c₂) (e3 : m "grammar" = some (.ref g.x)) (hg : GX C.w tag N g rs ks B) (ok : ∀ r ∈ rs, Ok1 r) (h3 : ∀ i < 3, ∃ r ∈ rs, r.1 = i) (hf : Cell tag N 7 g.fi o) (hd : IsD C.w o []) (hc : Cell tag N 70 c₁ o₁) (hcd : o₁.data = .cell v₀) :
    Run C (exec (stmtAt (S 18) 6) C.env) m N fun fl m' N' => fl = .next ∧ m' = m ∧ ∃ tag' o₁' oF kF F, Cell tag' N' 70 c₁ o₁' ∧ o₁'.data = .cell (some (.ref g.fi)) ∧ Ext (fun t => t = 7 ∨ 20 ≤ t ∧ t < 23 ∨ t = 70) tag N tag' N' ∧ LDF C.w tag' N' g.fi 7 20 (termK rs ++ [ENDS]) ks F oF kF ∧ FReach rs F ∧ ∀ r ∈ rs, FClosed rs F r := by
  have fe := hL.fe
  have hA := hL.amb
  have k1 : C.env.kindOf "first" = some .cell := hL.kind (by kernel_rfl)
  have k2 : C.env.kindOf "grammar" = some .local := hL.kind (by kernel_rfl)
  obtain ⟨at', ca, hi, hgat⟩ := hg.inst
  with_unfolding_all refine r_assignCell fe k1 hL.cell1 (r_mcall0 (r_name fe k2 e3 ⟨_, _, gm_own (f := 230) hA hi.2.2 (by kernel_rfl) (by kernel_rfl) (by kernel_rfl) hgat.m4, kf_ref hA (by kernel_rfl), ?_⟩))
  refine cfirst_call (k := k + 2) hA hg ok h3 hf hd fun tag' N' oF kF F E h1 hr hcl => ?_
  have c1 := E 70 c₁ o₁ (by decide) hc
  refine ⟨o₁, v₀, c1.2, hcd, fun o' hd' => ⟨rfl, rfl, tag', o', oF, kF, F, ⟨c1.1, upd_self⟩, hd', ?_, ?_, hr, hcl⟩⟩
  · exact (E.mono fun t h => by omega).trans (Ext.upd c1 (by omega))
  · exact h1.ext (T := (· = 70)) (Ext.upd c1 rfl) (by decide) (by decide) (fun i hi => by omega)
set_option maxHeartbeats 1000000 in
theorem l7 {t : Tok} {o₂ : Obj} (hL : LawC C w (k + 4) c₁ c₂) (e1 : m "start" = some (.int (st : Int) t)) (e3 : m "grammar" = some (.ref g.x)) (hg : GX C.w tag N g rs ks B) (ok : ∀ r ∈ rs, Ok1 r) (hB : B ≤ 1000) (hf : LDF C.w tag N g.fi 7 20 (termK rs ++ [ENDS]) ks F oF kF) (hF : FReach rs F) (hfo : Cell tag N 8 g.fo o) (hd : IsD C.w o []) (hst : st < 3) (hks : told st ∈ ks) (hc : Cell tag N 71 c₂ o₂) (hcd : o₂.data = .cell v₀) :
    Run C (exec (stmtAt (S 18) 7) C.env) m N fun fl m' N' => fl = .next ∧ m' = m ∧ ∃ tag' o₂' o kvs G, Cell tag' N' 71 c₂ o₂' ∧ o₂'.data = .cell (some (.ref g.fo)) ∧ Ext (fun t => t = 8 ∨ 40 ≤ t ∧ t < 43 ∨ t = 71) tag N tag' N' ∧ LDF C.w tag' N' g.fo 8 40 [] ks G o kvs ∧ GReach rs F st G ∧ ∀ r ∈ rs, ∀ i b, r.2[i]? = some b → b < 3 → GClosed F G r i b := by
  have fe := hL.fe
  have hA := hL.amb
  have k1 : C.env.kindOf "follow" = some .cell := hL.kind (by kernel_rfl)
  have k2 : C.env.kindOf "grammar" = some .local := hL.kind (by kernel_rfl)
  have k3 : C.env.kindOf "start" = some .local := hL.kind (by kernel_rfl)
  have g1 : C.env.kindOf "_law_TOLD" = some .globalImplicit := hL.kind (by kernel_rfl)
  obtain ⟨at', ca, hi, hgat⟩ := hg.inst
  obtain ⟨us, nu, hus, hat⟩ := told_at C.w.params
  obtain ⟨tt, htt⟩ := hat st (by omega)
  with_unfolding_all refine r_assignCell fe k1 hL.cell2 (r_mcall (r_name fe k2 e3 ⟨_, _, gm_own (f := 238) hA hi.2.2 (by kernel_rfl) (by kernel_rfl) (by kernel_rfl) hgat.m5, kf_ref hA (by kernel_rfl),
    r_splCons (r_sub (r_global (v := .ref 253) fe hA g1 (by kernel_rfl) (r_name fe k3 e1 ⟨hi_list (seen_K hA ((lk253 _).trans (congrArg some hus))), r_listGetS (i := st) (seen_K hA ((lk253 _).trans (congrArg some hus))) rfl htt (by omega) (r_splNil ?_)⟩)))⟩))
  refine cfollow_call (k := k + 2) hA hg ok hB hf hF hfo hd hst hks fun tag' N' o kvs G E h1 hr hcl => ?_
  have c1 := E 71 c₂ o₂ (by decide) hc
  refine ⟨o₂, v₀, c1.2, hcd, fun o' hd' => ⟨rfl, rfl, tag', o', o, kvs, G, ⟨c1.1, upd_self⟩, hd', ?_, ?_, hr, hcl⟩⟩
  · exact (E.mono fun t h => by omega).trans (Ext.upd c1 (by omega))
  · exact h1.ext (T := (· = 71)) (Ext.upd c1 rfl) (by decide) (by decide) (fun i hi => by omega)
theorem LDF.ne {t tb : Nat} {Ks : List Str} (h : LDF w tag N d t tb Ks ks F o kvs) (hne : Ks ++ ks ≠ []) : kvs ≠ [] := fun z => hne (by rw [← h.keys, z]; rfl)
set_option maxHeartbeats 1000000 in
theorem l14 (hL : LawC C w (k + 4) c₁ c₂) (e3 : m "grammar" = some (.ref g.x)) (hg : GX C.w tag N g rs ks B) (hf : Cell tag N 7 g.fi o) (hd : IsD C.w o kvs) (hz : kvs.length ≤ 1000000) (hne : kvs ≠ []) (hc : Cell tag N 70 c₁ o₁) (hcd : o₁.data = .cell v₀) :
    Run C (exec (stmtAt (S 18) 14) C.env) m N fun fl m' N' => fl = .next ∧ m' = m ∧ ∃ o₁', Cell tag N' 70 c₁ o₁' ∧ o₁'.data = .cell (some (.ref g.fi)) ∧ Ext (fun t => t = 70) tag N tag N' := by
  have fe := hL.fe
  have hA := hL.amb
  have k1 : C.env.kindOf "first" = some .cell := hL.kind (by kernel_rfl)
  have k2 : C.env.kindOf "grammar" = some .local := hL.kind (by kernel_rfl)
  obtain ⟨at', ca, hi, hgat⟩ := hg.inst
  with_unfolding_all refine r_assignCell fe k1 hL.cell1 (r_mcall0 (r_name fe k2 e3 ⟨_, _, gm_own (f := 230) hA hi.2.2 (by kernel_rfl) (by kernel_rfl) (by kernel_rfl) hgat.m4, kf_ref hA (by kernel_rfl), ?_⟩))
  exact cfirst_again (k := k + 2) hA hg hf hd hz hne ⟨o₁, v₀, hc.2, hcd, fun o' hd' => ⟨rfl, rfl, o', ⟨hc.1, upd_self⟩, hd', Ext.upd hc rfl⟩⟩
set_option maxHeartbeats 1000000 in
theorem l15 {t : Tok} {o₂ : Obj} (hL : LawC C w (k + 4) c₁ c₂) (e1 : m "start" = some (.int (st : Int) t)) (e3 : m "grammar" = some (.ref g.x)) (hg : GX C.w tag N g rs ks B) (hf : Cell tag N 8 g.fo o) (hd : IsD C.w o kvs) (hz : kvs.length ≤ 1000000) (hne : kvs ≠ []) (hst : st < 3) (hc : Cell tag N 71 c₂ o₂) (hcd : o₂.data = .cell v₀) :
    Run C (exec (stmtAt (S 18) 15) C.env) m N fun fl m' N' => fl = .next ∧ m' = m ∧ ∃ o₂', Cell tag N' 71 c₂ o₂' ∧ o₂'.data = .cell (some (.ref g.fo)) ∧ Ext (fun t => t = 71) tag N tag N' := by
  have fe := hL.fe
  have hA := hL.amb
  have k1 : C.env.kindOf "follow" = some .cell := hL.kind (by kernel_rfl)
  have k2 : C.env.kindOf "grammar" = some .local := hL.kind (by kernel_rfl)
  have k3 : C.env.kindOf "start" = some .local := hL.kind (by kernel_rfl)
  have g1 : C.env.kindOf "_law_TOLD" = some .globalImplicit := hL.kind (by kernel_rfl)
  obtain ⟨at', ca, hi, hgat⟩ := hg.inst
  obtain ⟨us, nu, hus, hat⟩ := told_at C.w.params
  obtain ⟨tt, htt⟩ := hat st (by omega)
  with_unfolding_all refine r_assignCell fe k1 hL.cell2 (r_mcall (r_name fe k2 e3 ⟨_, _, gm_own (f := 238) hA hi.2.2 (by kernel_rfl) (by kernel_rfl) (by kernel_rfl) hgat.m5, kf_ref hA (by kernel_rfl),
    r_splCons (r_sub (r_global (v := .ref 253) fe hA g1 (by kernel_rfl) (r_name fe k3 e1 ⟨hi_list (seen_K hA ((lk253 _).trans (congrArg some hus))), r_listGetS (i := st) (seen_K hA ((lk253 _).trans (congrArg some hus))) rfl htt (by omega) (r_splNil ?_)⟩)))⟩))
  exact cfollow_again (k := k + 2) hA hg hf hd hz hne ⟨o₂, v₀, hc.2, hcd, fun o' hd' => ⟨rfl, rfl, o', ⟨hc.1, upd_self⟩, hd', Ext.upd hc rfl⟩⟩
end
end Mine

namespace Mine
open PySem PySem.Challenge
local macro_rules | `(tactic| walk_at "ms") => `(tactic| first | assumption | exact mset_self | (refine (mset_ne (by decide)).trans ?_; walk_at "ms"))
section
variable {C C' : Cx} {m m' : Fm} {N N' R : Hp} {a l d x : Addr} {k n : Nat} {vs : List Value} {w : World} {c₁ c₂ ra : Addr} {rs : List Rl} {ks : List Str} {B : Nat} {g : Gr} {tag tag' : Addr → Nat} {o o₁ oF : Obj} {kvs kF : List (Str × Value)} {F : Nat → List Str} {st : Nat} {v₀ : Option Value} {P : Nat → List Str → Prop}
def dueK0 : List Str := [ENDS, "a", "b", "error"]
set_option maxHeartbeats 1000000 in
theorem l8 (hL : LawC C w (k + 4) c₁ c₂) : Run C (exec (stmtAt (S 18) 8) C.env) m N fun fl m' N' => fl = .next ∧ ∃ d tag' o kvs, m' = mset m "due_first" (.ref d) ∧ Ext (fun t => t = 50) tag N tag' N' ∧ Cell tag' N' 50 d o ∧ IsD C.w o kvs ∧ DueV tag' N' kvs dueK0 0 P := by
  have fe := hL.fe
  have hA := hL.amb
  have k1 : C.env.kindOf "due_first" = some .local := hL.kind (by kernel_rfl)
  with_unfolding_all refine r_assign fe k1 (r_dict rfl rfl (by simp) (by decide) fun D hD => ?_)
  refine r_pairE (r_str fun t1 => r_list (r_splCons (r_str fun u1 => r_splNil (r_newList (fun l1 h1 => ?_) (by show 1 ≤ sizeLine; rw [sizeLine_eq]; omega)))))
  refine r_pairE (r_str fun t2 => r_list (r_splCons (r_str fun u2 => r_splNil (r_newList (fun l2 h2 => ?_) (by show 1 ≤ sizeLine; rw [sizeLine_eq]; omega)))))
  refine r_pairE (r_str fun t3 => r_list (r_splCons (r_str fun u3 => r_splNil (r_newList (fun l3 h3 => ?_) (by show 1 ≤ sizeLine; rw [sizeLine_eq]; omega)))))
  refine r_pairE (r_str fun t4 => r_list (r_splCons (r_str fun u4 => r_splNil (r_newList (fun l4 h4 => ?_) (by show 1 ≤ sizeLine; rw [sizeLine_eq]; omega)))))
  have E0 : Ext (fun t => t = 50) tag N (tset tag D 50) (upd N D emptyDict) := Ext.new hD
  have cD : Cell (tset tag D 50) (upd N D emptyDict) 50 D emptyDict := Cell.new
  have X1 : Ext (fun _ => False) (tset tag D 50) (upd N D emptyDict) (tset (tset tag D 50) l1 0) (upd (upd N D emptyDict) l1 (lst [.str ENDS u1] 0)) := Ext.new h1
  have q1 : Cell (tset (tset tag D 50) l1 0) (upd (upd N D emptyDict) l1 (lst [.str ENDS u1] 0)) 0 l1 (lst [.str ENDS u1] 0) := Cell.new
  generalize hN1 : upd (upd N D emptyDict) l1 (lst [.str ENDS u1] 0) = N1 at X1 q1
  rw [show upd (upd N D emptyDict) l1 (lst [.str (Str.ofString "$end") u1] 0) = N1 from hN1] at h2 h3 h4 ⊢
  generalize tset (tset tag D 50) l1 0 = tag1 at X1 q1
  have X2 : Ext (fun _ => False) tag1 N1 (tset tag1 l2 0) (upd N1 l2 (lst [.str "a" u2] 0)) := Ext.new h2
  have q2 : Cell (tset tag1 l2 0) (upd N1 l2 (lst [.str "a" u2] 0)) 0 l2 (lst [.str "a" u2] 0) := Cell.new
  generalize upd N1 l2 (lst [.str "a" u2] 0) = N2 at X2 q2 h3 h4 ⊢
  generalize tset tag1 l2 0 = tag2 at X2 q2
  have X3 : Ext (fun _ => False) tag2 N2 (tset tag2 l3 0) (upd N2 l3 (lst [.str "b" u3] 0)) := Ext.new h3
  have q3 : Cell (tset tag2 l3 0) (upd N2 l3 (lst [.str "b" u3] 0)) 0 l3 (lst [.str "b" u3] 0) := Cell.new
  generalize upd N2 l3 (lst [.str "b" u3] 0) = N3 at X3 q3 h4 ⊢
  generalize tset tag2 l3 0 = tag3 at X3 q3
  have X4 : Ext (fun _ => False) tag3 N3 (tset tag3 l4 0) (upd N3 l4 (lst [.str "error" u4] 0)) := Ext.new h4
  have q4 : Cell (tset tag3 l4 0) (upd N3 l4 (lst [.str "error" u4] 0)) 0 l4 (lst [.str "error" u4] 0) := Cell.new
  generalize upd N3 l4 (lst [.str "error" u4] 0) = N4 at X4 q4 ⊢
  generalize tset tag3 l4 0 = tag4 at X4 q4
  have f : ¬ False := fun q => q
  have cD4 := X4 _ _ _ f (X3 _ _ _ f (X2 _ _ _ f (X1 _ _ _ f cD)))
  have s1 := X4 _ _ _ f (X3 _ _ _ f (X2 _ _ _ f q1))
  have s2 := X4 _ _ _ f (X3 _ _ _ f q2)
  have s3 := X4 _ _ _ f q3
  refine r_pairE0 ⟨[(ENDS, .ref l1), ("a", .ref l2), ("b", .ref l3), ("error", .ref l4)], cD4.2, by simp, ⟨strKind_is PR C.w ENDS t1, rfl, strKind_is PR C.w _ t2, rfl, strKind_is PR C.w _ t3, rfl, strKind_is PR C.w _ t4, rfl, trivial⟩, fun o' hd' => ?_⟩
  have X5 : Ext (fun t => t = 50) tag4 N4 tag4 (upd N4 D o') := Ext.upd cD4 rfl
  have base : DueV tag4 (upd N4 D o') [] [] 0 P := DueV.nil
  have b1 := base.addK (y := ENDS) (by simp) (X5 _ _ _ (by decide) s1)
  have b2 := b1.addK (y := "a") (by decide +kernel) (X5 _ _ _ (by decide) s2)
  have b3 := b2.addK (y := "b") (by decide +kernel) (X5 _ _ _ (by decide) s3)
  have b4 := b3.addK (y := "error") (by decide +kernel) (X5 _ _ _ (by decide) q4)
  exact ⟨rfl, D, tag4, o', _, rfl, E0.trans (((X1.trans (X2.trans (X3.trans X4))).mono fun t q => q.elim).trans X5), ⟨cD4.1, upd_self⟩, hd', b4⟩
set_option maxHeartbeats 1000000 in
theorem l9 (hL : LawC C w (k + 4) c₁ c₂) : Run C (exec (stmtAt (S 18) 9) C.env) m N fun fl m' N' => fl = .next ∧ ∃ d tag' o, m' = mset m "due_follow" (.ref d) ∧ Ext (fun _ => False) tag N tag' N' ∧ Cell tag' N' 51 d o ∧ IsD C.w o [] := by
  have fe := hL.fe
  have hA := hL.amb
  have k1 : C.env.kindOf "due_follow" = some .local := hL.kind (by kernel_rfl)
  with_unfolding_all refine r_assign fe k1 (r_dictNil fun d hd => ⟨rfl, d, tset tag d 51, emptyDict, rfl, Ext.new hd, Cell.new, isD_empty⟩)
def dueK (rs : List Rl) : List Str := if rs.any (fun r => r.2.contains 5) then dueK0 ++ (["+"] : List Str) else dueK0
set_option maxHeartbeats 2000000 in
theorem l10 {d₁ : Addr} (hL : LawC C w (k + 4) c₁ c₂) (e2 : m "rules" = some (.ref ra)) (e4 : m "due_first" = some (.ref d₁)) (hr : RulesAt (Zt tag N) ra rs) (ok : ∀ r ∈ rs, Ok1 r) (hlen : rs.length ≤ 5) (hc : Cell tag N 50 d₁ o) (hd : IsD C.w o kvs) (hz : kvs.length ≤ 100) (hv : DueV tag N kvs dueK0 0 P) :
    Run C (exec (stmtAt (S 18) 10) C.env) m N fun fl m' N' => fl = .next ∧ m' = m ∧ ∃ tag' o kvs, Ext (fun t => t = 50) tag N tag' N' ∧ Cell tag' N' 50 d₁ o ∧ IsD C.w o kvs ∧ DueV tag' N' kvs (dueK rs) 0 P := by
  have fe := hL.fe
  have hA := hL.amb
  have hh := hA.handled
  have k1 : C.env.kindOf "due_first" = some .local := hL.kind (by kernel_rfl)
  have k2 : C.env.kindOf "rules" = some .local := hL.kind (by kernel_rfl)
  have g1 : C.env.kindOf "any" = some .globalImplicit := hL.kind (by kernel_rfl)
  obtain ⟨Lf, henv⟩ := id hL.env
  obtain ⟨vs, nn, hra, hall⟩ := id hr
  have hvl : vs.length = rs.length := hall.1
  with_unfolding_all refine r_ifS (r_tPlain (r_callName (r_builtin fe hA g1 (by kernel_rfl) PyProof.Rows.Boot.«any» (by decide) ⟨kf_builtin, r_splCons (r_listComp (cl := []) hA ?_ (by rw [henv]; kernel_rfl) (by decide +kernel) (by kernel_rfl) (by decide +kernel))⟩)))
  refine r_name fe k2 e2 ⟨_, _, _, itb_list (Zt.le _ _ hra), by omega, fun i ys N' => N' = N ∧ ys = ((rs.take i).map fun r => r.2.contains 5).map .bool, ⟨rfl, rfl⟩, ?_, ?_, ?_⟩
  · intro b hb
    rw [List.mem_singleton.mp hb]
    exact ⟨_, fun i ys N' h => by rw [h.1]; exact Zt.le _ _ hra⟩
  · rintro C₂ hC₂ i v ys m1 N1 hi hv1 ⟨rfl, rfl⟩
    obtain ⟨p, hp, row⟩ := hall.get hv1
    obtain ⟨rr, sy, tp, c, c', ss, rfl, h1, h2, h3⟩ := row
    have fe2 := comp_env hC₂ fe (by kernel_rfl)
    have n1 : C₂.env.kindOf "left" = some .local := comp_kind hC₂ (by rw [henv]; kernel_rfl)
    have n2 : C₂.env.kindOf "symbols" = some .local := comp_kind hC₂ (by rw [henv]; kernel_rfl)
    have hA2 := hC₂.1
    refine r_asPair fe2 hA2.handled n1 n2 (Zt.le _ _ h1) ?_
    refine r_cmp (r_int fun t5 => r_name fe2 n2 mset_self (r_inNats (j := 5) (Zt.le _ _ h2) h3 ⟨rfl, ?_⟩))
    rw [List.take_add_one, hp, List.map_append, List.map_append]; rfl
  · rintro ys N1 ⟨rfl, rfl⟩ D cD hD
    rw [hvl, List.take_length]
    have E1 : Ext (fun _ => False) tag N1 (tset tag D 99) (upd N1 D (lst ((rs.map fun r => r.2.contains 5).map .bool) cD)) := Ext.new hD
    refine r_splNil (r_any hh upd_self rfl (r_tBool ?_))
    have hany : ((rs.map fun r => r.2.contains 5).any id) = rs.any (fun r => r.2.contains 5) := by rw [List.any_map]; rfl
    rw [hany]
    have c1 := E1 _ _ _ (fun q => q) hc
    have v1 := hv.ext E1 (fun q => q)
    generalize upd N1 D (lst ((rs.map fun r => r.2.contains 5).map .bool) cD) = N2 at E1 c1 v1 ⊢
    generalize tset tag D 99 = tag2 at E1 c1 v1
    by_cases hb : rs.any (fun r => r.2.contains 5) = true
    · rw [if_pos hb]
      refine r_one (r_assignSub (r_list (r_splCons (r_str fun t1 => r_splNil (r_newList (fun l hl => ?_) (by show 1 ≤ sizeLine; rw [sizeLine_eq]; omega))))))
      have hdl : d₁ ≠ l := fun z => by have := c1.2; rw [z, hl] at this; cases this
      refine r_name fe k1 e4 (r_str fun t2 => r_dictSet (o := o) (by rw [upd_ne hdl]; exact c1.2) hd (by omega) fun o' hd' => ?_)
      have E2 : Ext (fun _ => False) tag2 N2 (tset tag2 l 0) (upd N2 l (lst [.str "+" t1] 0)) := Ext.new hl
      have c2 := E2 _ _ _ (fun q => q) c1
      have E3 : Ext (fun t => t = 50) (tset tag2 l 0) (upd N2 l (lst [.str "+" t1] 0)) (tset tag2 l 0) (upd (upd N2 l (lst [.str "+" t1] 0)) d₁ o') := Ext.upd c2 rfl
      refine ⟨rfl, rfl, tset tag2 l 0, o', _, ((E1.trans E2).mono fun t q => q.elim).trans E3, ⟨c2.1, upd_self⟩, hd', ?_⟩
      unfold dueK
      rw [if_pos hb]
      exact ((v1.ext E2 (fun q => q)).ext E3 (by decide)).addK (by decide +kernel) (E3 _ _ _ (by decide) Cell.new)
    · rw [if_neg hb]
      refine r_nil ⟨rfl, rfl, tag2, o, kvs, E1.mono fun t q => q.elim, c1, hd, ?_⟩
      unfold dueK
      rw [if_neg hb]
      exact v1
end
end Mine

namespace Mine
open PySem PySem.Challenge
local macro_rules | `(tactic| walk_at "ms") => `(tactic| first | assumption | exact mset_self | (refine (mset_ne (by decide)).trans ?_; walk_at "ms"))
/-- the names -/
structure LNm (g : Gr) (ra : Addr) (st : Nat) (d₁ d₂ : Addr) (m : Fm) : Prop where
  s : ∃ t, m "start" = some (.int (st : Int) t)
  r : m "rules" = some (.ref ra)
  g : m "grammar" = some (.ref g.x)
  f1 : m "due_first" = some (.ref d₁)
  f2 : m "due_follow" = some (.ref d₂)
theorem LNm.set {g : Gr} {ra : Addr} {st : Nat} {d₁ d₂ : Addr} {m : Fm} (h : LNm g ra st d₁ d₂ m) {y : Str} {v : Value} (hy : y ∉ (["start", "rules", "grammar", "due_first", "due_follow"] : List Str) := by decide) : LNm g ra st d₁ d₂ (mset m y v) := by
  simp only [List.mem_cons, List.not_mem_nil, or_false, not_or] at hy
  obtain ⟨h1, h2, h3, h4, h5⟩ := hy
  exact ⟨h.s.imp fun t e => (mset_ne (Ne.symm h1)).trans e, (mset_ne (Ne.symm h2)).trans h.r, (mset_ne (Ne.symm h3)).trans h.g, (mset_ne (Ne.symm h4)).trans h.f1, (mset_ne (Ne.symm h5)).trans h.f2⟩
def begS (W : Wy) (i : Nat) : List Str := foundS (cellW W i 1) ++ if cellW W i 1 &&& 2 ≠ 0 then [EMP] else []
def trlS (W : Wy) (st : Nat) : List Str := foundS (cellW W 0 0 ||| cellW W 1 0 ||| cellW W 2 0) ++ if cellW W st 0 &&& 2 ≠ 0 then [ENDS] else []
def PB (rs : List Rl) (i : Nat) (ss : List Str) : Prop := sortedS ss = true ∧ ∃ W, Reach rs i W ∧ (∀ r ∈ rs, ∀ k < 2, ClosedAt W r k) ∧ ss.Perm (begS W i)
def PT (rs : List Rl) (st i : Nat) (ss : List Str) : Prop := sortedS ss = true ∧ ∃ W, Reach rs i W ∧ (∀ r ∈ rs, ∀ k < 2, ClosedAt W r k) ∧ ss.Perm (trlS W st)
theorem foundS_len (mask : Nat) : (foundS mask).length ≤ 4 := by
  unfold foundS
  rw [List.length_map]
  exact List.length_filter_le ..
theorem begS_len (W : Wy) (i : Nat) : (begS W i).length ≤ 5 := by
  unfold begS
  have := foundS_len (cellW W i 1)
  rw [List.length_append]
  split
  · show _ + 1 ≤ 5; omega
  · show _ + 0 ≤ 5; omega
theorem trlS_len (W : Wy) (st : Nat) : (trlS W st).length ≤ 5 := by
  unfold trlS
  have := foundS_len (cellW W 0 0 ||| cellW W 1 0 ||| cellW W 2 0)
  rw [List.length_append]
  split
  · show _ + 1 ≤ 5; omega
  · show _ + 0 ≤ 5; omega
theorem strs_append : ∀ {vs us : List Value} {ys zs : List Str}, StrsAre vs ys → StrsAre us zs → StrsAre (vs ++ us) (ys ++ zs)
  | _, _, _, _, .nil, h => h
  | _, _, _, _, .cons y t r, h => .cons y t (strs_append r h)
theorem reach_len {rs : List Rl} {mk : Nat} {W : Wy} (h : Reach rs mk W) : W.length = 7 := by
  induction h with
  | init => unfold wyInit; rw [List.length_set]; rfl
  | step _ _ _ _ ih => unfold setW; split <;> rw [List.length_set] <;> exact ih
section
variable {C C' : Cx} {m m' : Fm} {N N' R : Hp} {a l d x : Addr} {k n : Nat} {vs : List Value} {w : World} {c₁ c₂ ra : Addr} {rs : List Rl} {ks : List Str} {B : Nat} {g : Gr} {tag tag' : Addr → Nat} {o o₁ oF : Obj} {kvs kF : List (Str × Value)} {F : Nat → List Str} {st : Nat} {v₀ : Option Value} {P : Nat → List Str → Prop}
theorem DueV.len {kvs : List (Str × Value)} {Ks : List Str} (h : DueV tag N kvs Ks n P) : kvs.length = Ks.length + n := by
  have := congrArg List.length h.1
  rwa [List.length_map, List.length_append, List.length_map, List.length_range] at this
set_option maxHeartbeats 6000000 in
theorem l11 {d₁ d₂ : Addr} {oA oB : Obj} {kA kB : List (Str × Value)} {Ks : List Str} (hL : LawC C w (k + 4) c₁ c₂) (nm : LNm g ra st d₁ d₂ m) (hr : RulesAt (Zt tag N) ra rs) (okR : RulesOk rs) (hst : st < 3) (cA : Cell tag N 50 d₁ oA) (hA1 : IsD C.w oA kA) (vA : DueV tag N kA Ks 0 (PB rs)) (hK : ∀ i < 3, told i ∉ Ks) (hKl : Ks.length ≤ 10) (cB : Cell tag N 51 d₂ oB) (hB1 : IsD C.w oB kB) (vB : DueV tag N kB [] 0 (PT rs st)) :
    Run C (exec (stmtAt (S 18) 11) C.env) m N fun fl m' N' => fl = .next ∧ LNm g ra st d₁ d₂ m' ∧ ∃ tag' oA oB kA kB, Ext (fun t => t = 50 ∨ t = 51) tag N tag' N' ∧ Cell tag' N' 50 d₁ oA ∧ IsD C.w oA kA ∧ DueV tag' N' kA Ks 3 (PB rs) ∧ Cell tag' N' 51 d₂ oB ∧ IsD C.w oB kB ∧ DueV tag' N' kB [] 3 (PT rs st) := by
  have fe := hL.fe
  have hA := hL.amb
  have hh := hA.handled
  have k1 : C.env.kindOf "due_first" = some .local := hL.kind (by kernel_rfl)
  have k2 : C.env.kindOf "rules" = some .local := hL.kind (by kernel_rfl)
  have k3 : C.env.kindOf "due_follow" = some .local := hL.kind (by kernel_rfl)
  have k4 : C.env.kindOf "name" = some .local := hL.kind (by kernel_rfl)
  have k5 : C.env.kindOf "ways" = some .local := hL.kind (by kernel_rfl)
  have k6 : C.env.kindOf "begins" = some .local := hL.kind (by kernel_rfl)
  have k7 : C.env.kindOf "trails" = some .local := hL.kind (by kernel_rfl)
  have k8 : C.env.kindOf "start" = some .local := hL.kind (by kernel_rfl)
  have g1 : C.env.kindOf "range" = some .globalImplicit := hL.kind (by kernel_rfl)
  have g2 : C.env.kindOf "_law_ways" = some .globalImplicit := hL.kind (by kernel_rfl)
  have g3 : C.env.kindOf "_law_found" = some .globalImplicit := hL.kind (by kernel_rfl)
  have g4 : C.env.kindOf "sorted" = some .globalImplicit := hL.kind (by kernel_rfl)
  have g5 : C.env.kindOf "_law_TOLD" = some .globalImplicit := hL.kind (by kernel_rfl)
  obtain ⟨us, nu, hus, hat⟩ := told_at C.w.params
  with_unfolding_all refine r_for hh (r_callName (r_builtin fe hA g1 (by kernel_rfl) PyProof.Rows.Boot.«range» (by decide) ⟨kf_type, r_splCons (r_int fun t1 => r_splNil (r_range1 fun r9 t10 u10 v10 hr9 => ?_))⟩))
  let J : Nat → Fm → Hp → Prop := fun i m' N' => LNm g ra st d₁ d₂ m' ∧ ∃ tag' oA oB kA kB, Ext (fun t => t = 50 ∨ t = 51) tag N tag' N' ∧ Cell tag' N' 50 d₁ oA ∧ IsD C.w oA kA ∧ DueV tag' N' kA Ks i (PB rs) ∧ Cell tag' N' 51 d₂ oB ∧ IsD C.w oB kB ∧ DueV tag' N' kB [] i (PT rs st)
  have E0 : Ext (fun t => t = 50 ∨ t = 51) tag N tag (upd N r9 (rng 0 3 t10 u10 v10)) := Ext.le (Le.upd hr9)
  have E0' : Ext (fun _ => False) tag N tag (upd N r9 (rng 0 3 t10 u10 v10)) := Ext.le (Le.upd hr9)
  refine ⟨3, _, _, itb_range upd_self (by decide) (by rfl), J, ⟨nm, tag, oA, oB, kA, kB, E0, E0' _ _ _ (fun q => q) cA, hA1, vA.ext E0' (fun q => q), E0' _ _ _ (fun q => q) cB, hB1, vB.ext E0' (fun q => q)⟩, ?_, ?_, ?_⟩
  · intro b hb
    exact absurd hb List.not_mem_nil
  · rintro i v m1 N1 hi ⟨tv, rfl⟩ ⟨nm1, tag1, oA1, oB1, kA1, kB1, E1, cA1, hA1', vA1, cB1, hB1', vB1⟩
    rw [Int.zero_add]
    refine r_asName fe k4 ?_
    have hr1 := hr.le ((Zt.ext E1 (by decide)).trans Zt.le)
    have nm2 := nm1.set (y := "name") (v := .int (i : Int) tv)
    have en : mset m1 "name" (.int (i : Int) tv) "name" = some (.int (i : Int) tv) := mset_self
    generalize mset m1 "name" (.int (i : Int) tv) = m2 at nm2 en
    -- ways
    refine r_consM (fun m' N' => LNm g ra st d₁ d₂ m' ∧ m' "name" = some (.int (i : Int) tv) ∧ ∃ wa ls W, m' "ways" = some (.ref wa) ∧ Le N1 N' ∧ WaysAt N' wa ls W ∧ Reach rs i W ∧ ∀ r ∈ rs, ∀ k < 2, ClosedAt W r k)
      (r_assign fe k5 (r_callName (r_global (v := .ref 280) fe hA g2 (by kernel_rfl) ⟨kf_ref hA (by kernel_rfl), r_splCons (r_name fe k2 nm2.r (r_splCons (r_name fe k4 en (r_splNil (ways_call (k := k + 2) hA hr1 okR (by omega) fun wa ls W N' le hw hre hcl => ⟨rfl, nm2.set, (mset_ne (by decide)).trans en, wa, ls, W, mset_self, le, hw, hre, hcl⟩)))))⟩))) ?_
    rintro m3 N3 ⟨nm3, en3, wa, ls, W, ew3, le3, hw3, hre, hcl⟩
    have hW7 := reach_len hre
    have wi : ∀ {m : Fm} {N : Hp} {s c : Nat} {x y : Expr} {p1 p2 p4 : Pos} {Q : Value → Fm → Hp → Prop}, m "ways" = some (.ref wa) → Le N3 N → s < 7 → c < 2 → (∀ P : Value → Fm → Hp → Prop, (∀ t, P (.int (s : Int) t) m N) → Run C (eval x C.env) m N P) → (∀ o i, subscripted x false o i = operate [o, i] (getItem o i)) → (∀ P : Value → Fm → Hp → Prop, (∀ t, P (.int (c : Int) t) m N) → Run C (eval y C.env) m N P) → (∀ o i, subscripted y false o i = operate [o, i] (getItem o i)) → (∀ t, Q (.int ((cellW W s c : Nat) : Int) t) m N) → Run C (eval (.Subscript (.Subscript (.Name "ways" p1) x p2) y p4) C.env) m N Q := fun {m N s c x y p1 p2 p4 Q} e le hs hc ex hx ey hy q =>
      ways_item fe (hw3.le le) (by omega) (by omega) k5 e (by omega) ex hx ey hy q
    -- begins
    refine r_consM (fun m' N' => LNm g ra st d₁ d₂ m' ∧ m' "name" = some (.int (i : Int) tv) ∧ m' "ways" = some (.ref wa) ∧ ∃ lb ys n, m' "begins" = some (.ref lb) ∧ Le N3 N' ∧ N' lb = some (lst ys n) ∧ StrsAre ys (foundS (cellW W i 1)))
      (r_assign fe k6 (r_callName (r_global (v := .ref 285) fe hA g3 (by kernel_rfl) ⟨kf_ref hA (by kernel_rfl), r_splCons (wi (s := i) (c := 1) ew3 Le.refl (by omega) (by omega) (fun P hP => r_name fe k4 en3 (hP _)) (by intro _ _; rfl) (fun P hP => r_int hP) (by intro _ _; rfl) fun t5 => r_splNil (found_call (k := k + 3) hA fun l ys n N' le hl hl' hs => ?_))⟩))) ?_
    · exact ⟨rfl, nm3.set, (mset_ne (by decide)).trans en3, (mset_ne (by decide)).trans ew3, l, ys, n, mset_self, le, hl', hs⟩
    rintro m4 N4 ⟨nm4, en4, ew4, lb, ys, nb, eb4, le4, hb4, hs4⟩
    refine r_consM (fun m' N' => LNm g ra st d₁ d₂ m' ∧ m' "name" = some (.int (i : Int) tv) ∧ m' "ways" = some (.ref wa) ∧ ∃ lb ys n, m' "begins" = some (.ref lb) ∧ Le N3 N' ∧ N' lb = some (lst ys n) ∧ StrsAre ys (begS W i))
      (r_ifS (r_tPlain (r_binop (wi (s := i) (c := 1) ew4 le4 (by omega) (by omega) (fun P hP => r_name fe k4 en4 (hP _)) (by intro _ _; rfl) (fun P hP => r_int hP) (by intro _ _; rfl) fun t5 => r_int fun t6 => r_andInt fun t7 => r_truthInt ?_)))) ?_
    · rw [show (2 : Int) = ((2 : Nat) : Int) from rfl, bitAnd_nat]
      have hyl : ys.length ≤ 4 := by have := StrsAre.len hs4; have := foundS_len (cellW W i 1); omega
      by_cases hb : cellW W i 1 &&& 2 = 0
      · rw [if_neg (by rw [hb]; decide)]
        refine r_nil ⟨rfl, nm4, en4, ew4, lb, ys, nb, eb4, le4, hb4, ?_⟩
        unfold begS; rw [if_neg (fun q => q hb), List.append_nil]; exact hs4
      · rw [if_pos (by simp only [bne_iff_ne, ne_eq]; omega)]
        refine r_one (r_assign fe k6 (r_binop (r_name fe k6 eb4 (r_list (r_splCons (r_str fun t8 => r_splNil (r_newList (fun l2 hl2 => ?_) (by show 1 ≤ sizeLine; rw [sizeLine_eq]; omega))))))))
        refine r_listAdd (Le.upd hl2 _ _ hb4) upd_self (by simp; omega) fun l3 hl3 => ?_
        refine ⟨rfl, nm4.set, (mset_ne (by decide)).trans en4, (mset_ne (by decide)).trans ew4, l3, _, 0, mset_self, le4.trans ((Le.upd hl2).trans (Le.upd hl3)), upd_self, ?_⟩
        unfold begS; rw [if_pos hb]
        exact strs_append hs4 (.cons _ _ .nil)
    clear hb4 hs4 eb4 le4 nm4 en4 ew4
    rintro m5 N5 ⟨nm5, en5, ew5, lb, ys, nb, eb5, le5, hb5, hs5⟩
    -- trails
    refine r_consM (fun m' N' => LNm g ra st d₁ d₂ m' ∧ m' "name" = some (.int (i : Int) tv) ∧ m' "ways" = some (.ref wa) ∧ m' "begins" = some (.ref lb) ∧ ∃ lt zs n, m' "trails" = some (.ref lt) ∧ Le N5 N' ∧ N' lt = some (lst zs n) ∧ StrsAre zs (foundS (cellW W 0 0 ||| cellW W 1 0 ||| cellW W 2 0)))
      (r_assign fe k7 (r_callName (r_global (v := .ref 285) fe hA g3 (by kernel_rfl) ⟨kf_ref hA (by kernel_rfl), r_splCons (r_binop (r_binop (wi (s := 0) (c := 0) ew5 le5 (by omega) (by omega) (fun P hP => r_int hP) (by intro _ _; rfl) (fun P hP => r_int hP) (by intro _ _; rfl) fun t5 =>
        wi (s := 1) (c := 0) ew5 le5 (by omega) (by omega) (fun P hP => r_int hP) (by intro _ _; rfl) (fun P hP => r_int hP) (by intro _ _; rfl) fun t6 => r_orInt fun t7 =>
        wi (s := 2) (c := 0) ew5 le5 (by omega) (by omega) (fun P hP => r_int hP) (by intro _ _; rfl) (fun P hP => r_int hP) (by intro _ _; rfl) fun t8 => r_orInt fun t9 => ?_)))⟩))) ?_
    · rw [bitOr_nat, bitOr_nat]
      exact r_splNil (found_call (k := k + 3) hA fun l zs n N' le hl hl' hs => ⟨rfl, nm5.set, (mset_ne (by decide)).trans en5, (mset_ne (by decide)).trans ew5, (mset_ne (by decide)).trans eb5, l, zs, n, mset_self, le, hl', hs⟩)
    rintro m6 N6 ⟨nm6, en6, ew6, eb6, lt, zs, nz, ez6, le6, hz6, hs6⟩
    refine r_consM (fun m' N' => LNm g ra st d₁ d₂ m' ∧ m' "name" = some (.int (i : Int) tv) ∧ m' "begins" = some (.ref lb) ∧ ∃ lt zs n, m' "trails" = some (.ref lt) ∧ Le N5 N' ∧ N' lt = some (lst zs n) ∧ StrsAre zs (trlS W st))
      (r_ifS (r_tPlain (r_binop (wi (s := st) (c := 0) ew6 (le5.trans le6) (by omega) (by omega) (fun P hP => nm6.s.elim fun t e => r_name fe k8 e (hP _)) (by intro _ _; rfl) (fun P hP => r_int hP) (by intro _ _; rfl) fun t5 => r_int fun t6 => r_andInt fun t7 => r_truthInt ?_)))) ?_
    · rw [show (2 : Int) = ((2 : Nat) : Int) from rfl, bitAnd_nat]
      have hyl : zs.length ≤ 4 := by have := StrsAre.len hs6; have := foundS_len (cellW W 0 0 ||| cellW W 1 0 ||| cellW W 2 0); omega
      by_cases hb : cellW W st 0 &&& 2 = 0
      · rw [if_neg (by rw [hb]; decide)]
        refine r_nil ⟨rfl, nm6, en6, eb6, lt, zs, nz, ez6, le6, hz6, ?_⟩
        unfold trlS; rw [if_neg (fun q => q hb), List.append_nil]; exact hs6
      · rw [if_pos (by simp only [bne_iff_ne, ne_eq]; omega)]
        refine r_one (r_assign fe k7 (r_binop (r_name fe k7 ez6 (r_list (r_splCons (r_str fun t8 => r_splNil (r_newList (fun l2 hl2 => ?_) (by show 1 ≤ sizeLine; rw [sizeLine_eq]; omega))))))))
        refine r_listAdd (Le.upd hl2 _ _ hz6) upd_self (by simp; omega) fun l3 hl3 => ?_
        refine ⟨rfl, nm6.set, (mset_ne (by decide)).trans en6, (mset_ne (by decide)).trans eb6, l3, _, 0, mset_self, le6.trans ((Le.upd hl2).trans (Le.upd hl3)), upd_self, ?_⟩
        unfold trlS; rw [if_pos hb]
        exact strs_append hs6 (.cons _ _ .nil)
    clear hz6 hs6 ez6 le6 nm6 en6 ew6 eb6
    rintro m7 N7 ⟨nm7, en7, eb7, lt, zs, nz, ez7, le7, hz7, hs7⟩
    obtain ⟨tt, htt⟩ := hat i (by omega)
    have hys : ys.length < 64 := by have := StrsAre.len hs5; have := begS_len W i; omega
    have hzs : zs.length < 64 := by have := StrsAre.len hs7; have := trlS_len W st; omega
    have F7 : Ext (fun _ => False) tag1 N1 tag1 N7 := Ext.le (le3.trans (le5.trans le7))
    have cA7 := F7 _ _ _ (fun q => q) cA1
    have cB7 := F7 _ _ _ (fun q => q) cB1
    have kl1 := vA1.len
    have kl2 : kB1.length = 0 + i := vB1.len
    -- due_first[..]
    refine r_consM (fun m' N' => m' = m7 ∧ ∃ tag' o' kv', Ext (fun t => t = 50) tag1 N7 tag' N' ∧ Cell tag' N' 50 d₁ o' ∧ IsD C.w o' kv' ∧ DueV tag' N' kv' Ks (i + 1) (PB rs) ∧ LeBut d₁ N7 N')
      (r_assignSub (r_callName (r_builtin fe hA g4 (by kernel_rfl) PyProof.Rows.Boot.«sorted» (by decide) ⟨kf_builtin, r_splCons (r_name fe k6 eb7 (r_splNil (r_sorted (le7 _ _ hb5) hs5 hys fun la us' ss n' hla h1 h2 h3 => ?_)))⟩))) ?_
    · have G1 : Ext (fun _ => False) tag1 N7 (tset tag1 la 0) (upd N7 la (lst us' n')) := Ext.new hla
      have c1 := G1 _ _ _ (fun q => q) cA7
      refine r_name fe k1 nm7.f1 (r_sub (r_global (v := .ref 253) fe hA g5 (by kernel_rfl) (r_name fe k4 en7 ⟨hi_list (seen_K hA ((lk253 _).trans (congrArg some hus))), r_listGetS (i := i) (seen_K hA ((lk253 _).trans (congrArg some hus))) rfl htt (by omega) (r_dictSet c1.2 hA1' (by omega) fun o' hd' => ?_)⟩)))
      have G2 : Ext (fun t => t = 50) (tset tag1 la 0) (upd N7 la (lst us' n')) (tset tag1 la 0) (upd (upd N7 la (lst us' n')) d₁ o') := Ext.upd c1 rfl
      refine ⟨rfl, rfl, tset tag1 la 0, o', _, (G1.mono fun t q => q.elim).trans G2, ⟨c1.1, upd_self⟩, hd', ?_, (LeBut.of (Le.upd hla)).trans LeBut.upd⟩
      exact (((vA1.ext F7 (fun q => q)).ext G1 (fun q => q)).ext G2 (by decide)).addN hi hK (G2 _ _ _ (by decide) Cell.new) h1 ⟨h3, W, hre, hcl, h2⟩
    rintro _ N8 ⟨rfl, tag8, oA8, kA8, X8, cA8, hA8, vA8, L8⟩
    have cB8 := X8 _ _ _ (by decide) cB7
    have hlt : lt ≠ d₁ := fun q => by
      rw [q, cA7.2] at hz7
      obtain ⟨es, ep, _, hdd, _⟩ := hA1'
      rw [Option.some.inj hz7] at hdd
      cases hdd
    have hz8 := L8 _ _ hlt hz7
    have vB8 := (vB1.ext F7 (fun q => q)).ext X8 (by decide)
    -- due_follow[..]
    refine r_one (r_assignSub (r_callName (r_builtin fe hA g4 (by kernel_rfl) PyProof.Rows.Boot.«sorted» (by decide) ⟨kf_builtin, r_splCons (r_name fe k7 ez7 (r_splNil (r_sorted hz8 hs7 hzs fun la us' ss n' hla h1 h2 h3 => ?_)))⟩)))
    have G1 : Ext (fun _ => False) tag8 N8 (tset tag8 la 0) (upd N8 la (lst us' n')) := Ext.new hla
    have c1 := G1 _ _ _ (fun q => q) cB8
    refine r_name fe k3 nm7.f2 (r_sub (r_global (v := .ref 253) fe hA g5 (by kernel_rfl) (r_name fe k4 en7 ⟨hi_list (seen_K hA ((lk253 _).trans (congrArg some hus))), r_listGetS (i := i) (seen_K hA ((lk253 _).trans (congrArg some hus))) rfl htt (by omega) (r_dictSet c1.2 hB1' (by omega) fun o' hd' => ?_)⟩)))
    have G2 : Ext (fun t => t = 51) (tset tag8 la 0) (upd N8 la (lst us' n')) (tset tag8 la 0) (upd (upd N8 la (lst us' n')) d₂ o') := Ext.upd c1 rfl
    refine ⟨nm7, tset tag8 la 0, oA8, o', kA8, _, E1.trans ((F7.mono fun t q => q.elim).trans ((X8.mono fun t q => .inl q).trans ((G1.mono fun t q => q.elim).trans (G2.mono fun t q => .inr q)))), G2 _ _ _ (by decide) (G1 _ _ _ (fun q => q) cA8), hA8, (vA8.ext G1 (fun q => q)).ext G2 (by decide), ⟨c1.1, upd_self⟩, hd', ?_⟩
    exact ((vB8.ext G1 (fun q => q)).ext G2 (by decide)).addN hi (fun i hi q => by simp at q) (G2 _ _ _ (by decide) Cell.new) h1 ⟨h3, W, hre, hcl, h2⟩
  · rintro m1 N1 ⟨nm1, tag1, oA1, oB1, kA1, kB1, E1, cA1, hA1', vA1, cB1, hB1', vB1⟩
    exact r_nil ⟨rfl, nm1, tag1, oA1, oB1, kA1, kB1, E1, cA1, hA1', vA1, cB1, hB1', vB1⟩
end
end Mine

namespace Mine
open PySem PySem.Challenge
local macro_rules | `(tactic| walk_at "ms") => `(tactic| first | assumption | exact mset_self | (refine (mset_ne (by decide)).trans ?_; walk_at "ms"))
section
variable {C C' : Cx} {m m' : Fm} {N N' R : Hp} {a l d x d₁ : Addr} {k n : Nat} {vs : List Value} {w : World} {c₁ c₂ ra : Addr} {rs : List Rl} {ks : List Str} {B : Nat} {g : Gr} {tag tag' : Addr → Nat} {o o₁ oA : Obj} {kvs kA : List (Str × Value)} {F : Nat → List Str} {st : Nat} {v₀ : Option Value} {P : Nat → List Str → Prop}
theorem SameD.le {ka kb : List (Str × Value)} (h : SameD N ka kb) (e : Le N N') : SameD N' ka kb := ⟨h.1, fun p hp => let ⟨l, vs, n, l', vs', n', ss, h1, h2, h3, h4, h5, h6, h7⟩ := h.2 p hp; ⟨l, vs, n, l', vs', n', ss, h1, e _ _ h2, h3, h4, h5, e _ _ h6, h7⟩⟩
theorem sameD_of {ys kb : List (Str × Value)} {keys Ks : List Str} (hy : ys.map (·.1) = keys) (hsd : SortD N F ys) (hdv : DueV tag N kb Ks 3 P) (hlen : keys.length = Ks.length + 3) (hsub : ∀ y ∈ keys, y ∈ Ks ∨ ∃ i < 3, y = told i) (hK : ∀ i < 3, told i ∉ Ks)
    (hP : ∀ i < 3, ∀ ss, P i ss → sortedS ss = true ∧ ss.Perm (F i)) (hok : ∀ y ∈ keys, (FV F y).all PyData.strOk = true) : SameD N ys kb := by
  refine ⟨by rw [← hdv.len.symm.trans (by rfl : kb.length = kb.length)]; rw [← List.length_map (as := ys) (f := (·.1)), hy, hlen], fun p hp => ?_⟩
  have hpk : p.1 ∈ keys := hy ▸ List.mem_map_of_mem hp
  obtain ⟨l, vs, n, ss, e1, e2, e3, e4, e5⟩ := hsd p hp
  have hss : ss.all PyData.strOk = true := by rw [all_perm' e4]; exact hok _ hpk
  rcases hsub _ hpk with q | ⟨i, hi, q⟩
  · obtain ⟨l', c, tk, v1, cc⟩ := hdv.2.1 _ q
    rw [FV_other F fun i hi z => hK i hi (z ▸ q)] at e4
    have : ss = [p.1] := List.perm_singleton.mp e4
    rw [this] at e3 hss
    exact ⟨l, vs, n, l', _, c, _, e1, e2, e3, hss, v1, cc.2, .cons _ _ .nil⟩
  · obtain ⟨l', vs', c, ss', v1, cc, s', hp'⟩ := hdv.2.2 i hi
    obtain ⟨h1, h2⟩ := hP i hi ss' hp'
    rw [q, FV_told F i hi] at e4
    have : ss = ss' := sorted_eq e5 h1 (e4.trans h2.symm)
    subst this
    exact ⟨l, vs, n, l', vs', c, ss, e1, e2, e3, hss, by rw [q]; exact v1, cc.2, s'⟩
set_option maxHeartbeats 2000000 in
theorem l12 (hL : LawC C w (k + 4) c₁ c₂) (e4 : m "due_first" = some (.ref d₁)) (hcn : N c₁ = some o₁) (hcd : o₁.data = .cell (some (.ref d))) (hd : N d = some o) (hdd : IsD C.w o kvs) (hz : kvs.length ≤ 1000) (hnd : (kvs.map (·.1)).Nodup)
    (hv : ∀ y ∈ kvs.map (·.1), ∃ l vs n, valueAt kvs y = some (.ref l) ∧ N l = some (lst vs n) ∧ StrsAre vs (FV F y) ∧ (FV F y).length ≤ 60) (hdu : N d₁ = some oA) (hdu2 : IsD C.w oA kA) (hs : ∀ N' ys, Le N N' → ys.map (·.1) = kvs.map (·.1) → SortD N' F ys → SameD N' ys kA) :
    Run C (exec (stmtAt (S 18) 12) C.env) m N fun fl m' N' => fl = .next ∧ m' = m ∧ Le N N' := by
  have fe := hL.fe
  have hA := hL.amb
  have k1 : C.env.kindOf "due_first" = some .local := hL.kind (by kernel_rfl)
  have k2 : C.env.kindOf "first" = some .cell := hL.kind (by kernel_rfl)
  obtain ⟨Lf, henv⟩ := id hL.env
  with_unfolding_all refine r_ifS (r_tCmp (r_sortComp (F := F) hL k2 hL.cell1 hcn hcd hd hdd hz hnd hv (by rw [henv]; kernel_rfl) (by rw [henv]; kernel_rfl) (by rw [henv]; kernel_rfl) (by kernel_rfl) (by decide +kernel) (by kernel_rfl) (by decide +kernel) (by decide) (by decide) (by rw [henv]; kernel_rfl) fun D o' ys N' ho' hD le hk hsd => r_name fe k1 e4 (r_dictNe hA upd_self (Le.upd hD _ _ (le _ _ hdu)) ho' hdu2 ((hs N' ys le hk hsd).le (Le.upd hD)) (r_tBool ?_))))
  rw [if_neg (by decide)]
  exact r_nil ⟨rfl, rfl, le.trans (Le.upd hD)⟩
set_option maxHeartbeats 2000000 in
theorem l13 (hL : LawC C w (k + 4) c₁ c₂) (e4 : m "due_follow" = some (.ref d₁)) (hcn : N c₂ = some o₁) (hcd : o₁.data = .cell (some (.ref d))) (hd : N d = some o) (hdd : IsD C.w o kvs) (hz : kvs.length ≤ 1000) (hnd : (kvs.map (·.1)).Nodup)
    (hv : ∀ y ∈ kvs.map (·.1), ∃ l vs n, valueAt kvs y = some (.ref l) ∧ N l = some (lst vs n) ∧ StrsAre vs (FV F y) ∧ (FV F y).length ≤ 60) (hdu : N d₁ = some oA) (hdu2 : IsD C.w oA kA) (hs : ∀ N' ys, Le N N' → ys.map (·.1) = kvs.map (·.1) → SortD N' F ys → SameD N' ys kA) :
    Run C (exec (stmtAt (S 18) 13) C.env) m N fun fl m' N' => fl = .next ∧ m' = m ∧ Le N N' := by
  have fe := hL.fe
  have hA := hL.amb
  have k1 : C.env.kindOf "due_follow" = some .local := hL.kind (by kernel_rfl)
  have k2 : C.env.kindOf "follow" = some .cell := hL.kind (by kernel_rfl)
  obtain ⟨Lf, henv⟩ := id hL.env
  with_unfolding_all refine r_ifS (r_tCmp (r_sortComp (F := F) hL k2 hL.cell2 hcn hcd hd hdd hz hnd hv (by rw [henv]; kernel_rfl) (by rw [henv]; kernel_rfl) (by rw [henv]; kernel_rfl) (by kernel_rfl) (by decide +kernel) (by kernel_rfl) (by decide +kernel) (by decide) (by decide) (by rw [henv]; kernel_rfl) fun D o' ys N' ho' hD le hk hsd => r_name fe k1 e4 (r_dictNe hA upd_self (Le.upd hD _ _ (le _ _ hdu)) ho' hdu2 ((hs N' ys le hk hsd).le (Le.upd hD)) (r_tBool ?_))))
  rw [if_neg (by decide)]
  exact r_nil ⟨rfl, rfl, le.trans (Le.upd hD)⟩
set_option maxHeartbeats 2000000 in
theorem l16 (hL : LawC C w (k + 4) c₁ c₂) (e4 : m "due_first" = some (.ref d₁)) (hcn : N c₁ = some o₁) (hcd : o₁.data = .cell (some (.ref d))) (hd : N d = some o) (hdd : IsD C.w o kvs) (hz : kvs.length ≤ 1000) (hnd : (kvs.map (·.1)).Nodup)
    (hv : ∀ y ∈ kvs.map (·.1), ∃ l vs n, valueAt kvs y = some (.ref l) ∧ N l = some (lst vs n) ∧ StrsAre vs (FV F y) ∧ (FV F y).length ≤ 60) (hdu : N d₁ = some oA) (hdu2 : IsD C.w oA kA) (hs : ∀ N' ys, Le N N' → ys.map (·.1) = kvs.map (·.1) → SortD N' F ys → SameD N' ys kA) :
    Run C (exec (stmtAt (S 18) 16) C.env) m N fun fl m' N' => fl = .next ∧ m' = m ∧ Le N N' := by
  have fe := hL.fe
  have hA := hL.amb
  have k1 : C.env.kindOf "due_first" = some .local := hL.kind (by kernel_rfl)
  have k2 : C.env.kindOf "first" = some .cell := hL.kind (by kernel_rfl)
  obtain ⟨Lf, henv⟩ := id hL.env
  with_unfolding_all refine r_ifS (r_tCmp (r_sortComp (F := F) hL k2 hL.cell1 hcn hcd hd hdd hz hnd hv (by rw [henv]; kernel_rfl) (by rw [henv]; kernel_rfl) (by rw [henv]; kernel_rfl) (by kernel_rfl) (by decide +kernel) (by kernel_rfl) (by decide +kernel) (by decide) (by decide) (by rw [henv]; kernel_rfl) fun D o' ys N' ho' hD le hk hsd => r_name fe k1 e4 (r_dictNe hA upd_self (Le.upd hD _ _ (le _ _ hdu)) ho' hdu2 ((hs N' ys le hk hsd).le (Le.upd hD)) (r_tBool ?_))))
  rw [if_neg (by decide)]
  exact r_nil ⟨rfl, rfl, le.trans (Le.upd hD)⟩
set_option maxHeartbeats 2000000 in
theorem l17 (hL : LawC C w (k + 4) c₁ c₂) (e4 : m "due_follow" = some (.ref d₁)) (hcn : N c₂ = some o₁) (hcd : o₁.data = .cell (some (.ref d))) (hd : N d = some o) (hdd : IsD C.w o kvs) (hz : kvs.length ≤ 1000) (hnd : (kvs.map (·.1)).Nodup)
    (hv : ∀ y ∈ kvs.map (·.1), ∃ l vs n, valueAt kvs y = some (.ref l) ∧ N l = some (lst vs n) ∧ StrsAre vs (FV F y) ∧ (FV F y).length ≤ 60) (hdu : N d₁ = some oA) (hdu2 : IsD C.w oA kA) (hs : ∀ N' ys, Le N N' → ys.map (·.1) = kvs.map (·.1) → SortD N' F ys → SameD N' ys kA) :
    Run C (exec (stmtAt (S 18) 17) C.env) m N fun fl m' N' => fl = .ret (.bool true) := by
  have fe := hL.fe
  have hA := hL.amb
  have k1 : C.env.kindOf "due_follow" = some .local := hL.kind (by kernel_rfl)
  have k2 : C.env.kindOf "follow" = some .cell := hL.kind (by kernel_rfl)
  obtain ⟨Lf, henv⟩ := id hL.env
  with_unfolding_all refine r_ret (r_cmp (r_sortComp (F := F) hL k2 hL.cell2 hcn hcd hd hdd hz hnd hv (by rw [henv]; kernel_rfl) (by rw [henv]; kernel_rfl) (by rw [henv]; kernel_rfl) (by kernel_rfl) (by decide +kernel) (by kernel_rfl) (by decide +kernel) (by decide) (by decide) (by rw [henv]; kernel_rfl) fun D o' ys N' ho' hD le hk hsd => r_name fe k1 e4 (r_dictEq hA upd_self (Le.upd hD _ _ (le _ _ hdu)) ho' hdu2 ((hs N' ys le hk hsd).le (Le.upd hD)) ?_)))
  exact rfl
end
end Mine

namespace Mine
open PySem PySem.Challenge
local macro_rules | `(tactic| walk_at "ms") => `(tactic| first | assumption | exact mset_self | (refine (mset_ne (by decide)).trans ?_; walk_at "ms"))
def Plain1 : Prop := ∀ (rs : List Rl) (F : Nat → List Str) (i : Nat) (W : Wy), (∀ r ∈ rs, Ok1 r) → FReach rs F → (∀ r ∈ rs, FClosed rs F r) → i < 3 → Reach rs i W → (∀ r ∈ rs, ∀ k < 2, ClosedAt W r k) → (begS W i).Perm (F i)
def Plain2 : Prop := ∀ (rs : List Rl) (F G : Nat → List Str) (st i : Nat) (W : Wy), (∀ r ∈ rs, Ok1 r) → FReach rs F → (∀ r ∈ rs, FClosed rs F r) → GReach rs F st G → (∀ r ∈ rs, ∀ i b, r.2[i]? = some b → b < 3 → GClosed F G r i b) → (∀ j < 3, ∃ r ∈ rs, r.1 = j) → st < 3 → i < 3 → Reach rs i W → (∀ r ∈ rs, ∀ k < 2, ClosedAt W r k) → (trlS W st).Perm (G i)
theorem dueK_noname {rs : List Rl} : ∀ i < 3, told i ∉ dueK rs := fun i hi => by
  have : i = 0 ∨ i = 1 ∨ i = 2 := by omega
  unfold dueK
  split <;> rcases this with rfl | rfl | rfl <;> decide +kernel
theorem termK_sub {rs : List Rl} : ∀ y ∈ termK rs ++ [ENDS], y ∈ dueK rs := by
  unfold termK dueK
  split <;> decide +kernel
theorem termK_due {rs : List Rl} : (termK rs ++ [ENDS]).length = (dueK rs).length := by unfold termK dueK; split <;> decide +kernel
theorem termK_nd {rs : List Rl} : (termK rs ++ [ENDS]).Nodup := by unfold termK; split <;> decide +kernel
theorem termK_ok {rs : List Rl} : ∀ y ∈ termK rs ++ [ENDS], PyData.strOk y = true := by unfold termK; split <;> decide +kernel
theorem univ_ok : ∀ y ∈ Mine.univ, PyData.strOk y = true := by decide +kernel
theorem univG_ok : ∀ y ∈ univG, PyData.strOk y = true := by decide +kernel
theorem fv_all {F : Nat → List Str} {U Ks ks : List Str} (hU : ∀ y ∈ U, PyData.strOk y = true) (hF : ∀ i, ∀ f ∈ F i, f ∈ U) (hK : ∀ y ∈ Ks, PyData.strOk y = true) (hKn : ∀ i < 3, told i ∉ Ks) (hin : ∀ y ∈ ks, ∃ i < 3, y = told i) : ∀ y ∈ Ks ++ ks, (FV F y).all PyData.strOk = true := fun y hy => by
  rcases List.mem_append.mp hy with hy | hy
  · rw [FV_other F fun i hi q => hKn i hi (q ▸ hy)]
    simpa using hK y hy
  · obtain ⟨i, hi, rfl⟩ := hin y hy
    rw [FV_told F i hi, List.all_eq_true]
    exact fun f hf => hU f (hF i f hf)
theorem fv_len {F : Nat → List Str} {Ks ks : List Str} (hF : ∀ i, (F i).length ≤ 5) (hKn : ∀ i < 3, told i ∉ Ks) (hin : ∀ y ∈ ks, ∃ i < 3, y = told i) : ∀ y ∈ Ks ++ ks, (FV F y).length ≤ 60 := fun y hy => by
  rcases List.mem_append.mp hy with hy | hy
  · rw [FV_other F fun i hi q => hKn i hi (q ▸ hy)]; show 1 ≤ 60; omega
  · obtain ⟨i, hi, rfl⟩ := hin y hy
    rw [FV_told F i hi]
    have := hF i
    omega
set_option maxHeartbeats 6000000 in
theorem law_body (p1 : Plain1) (p2 : Plain2) : LawBody := by
  intro w C c₁ c₂ o₁ o₂ m l vs ws LC h1 h2 hs hi hz e0
  have hA := LC.amb
  with_unfolding_all refine r_consF rfl rfl LC.ne (l0 (k := 7) LC hs hi hz e0) ?_
  rintro m1 N1 ⟨ta, L, e1, ht, hL⟩ n1 n2
  refine r_consF n1 n2 LC.ne (l1 (k := 7) LC e1 ht hL) ?_
  clear e1 ht hL n1 n2 e0
  rintro m2 N2 ⟨ta, L, st, t, e1, ht, hL, e2, hst⟩ n1 n2
  refine r_consF n1 n2 LC.ne (l2 (k := 7) LC e1 ht hL e2) ?_
  clear e1 ht hL n1 n2 e2
  rintro m3 N3 ⟨ra, rs, e2, e3, hR, hl3⟩ n1 n2
  have ok : ∀ r ∈ rs, Ok1 r := hR.ok
  have hlen := hR.len
  have h3 : ∀ i < 3, ∃ r ∈ rs, r.1 = i := fun i hi => by
    have hil : i < rs.length := by omega
    exact ⟨rs[i], List.getElem_mem hil, hR.left i hi _ (List.getElem?_eq_getElem hil)⟩
  refine r_consF n1 n2 LC.ne (l3 (k := 7) LC e2 e3 hR.at') ?_
  clear n1 n2 e2 e3
  rintro m4 N4 ⟨g, tag, e2, e3, e4, hr, hg⟩ n1 n2
  refine r_consF n1 n2 LC.ne (l4 (k := 6) LC e2 e3 e4 hr ok hR.nd hlen hg) ?_
  clear n1 n2 e2 e3 e4 hr hg
  rintro m5 N5 ⟨tag, ks, e2, e3, e4, hr, hg⟩ n1 n2
  have hks : ∀ i < 3, told i ∈ ks := fun i hi => by
    obtain ⟨r, hr, rfl⟩ := h3 i hi
    exact (hg.ntall r hr).1
  have hin := hg.ntin
  have hnd := hg.ntnd
  have hksl : ks.length = 3 := by
    have u1 : ks.length ≤ 3 := nodup_len (l' := [told 0, told 1, told 2]) hnd fun y hy => by
      obtain ⟨i, hi, rfl⟩ := hin y hy
      have : i = 0 ∨ i = 1 ∨ i = 2 := by omega
      rcases this with rfl | rfl | rfl <;> simp
    have u2 : [told 0, told 1, told 2].length ≤ ks.length := nodup_len (by decide +kernel) fun y hy => by
      simp only [List.mem_cons, List.not_mem_nil, or_false] at hy
      rcases hy with rfl | rfl | rfl
      · exact hks 0 (by decide)
      · exact hks 1 (by decide)
      · exact hks 2 (by decide)
    have : [told 0, told 1, told 2].length = 3 := rfl
    omega
  refine r_consF n1 n2 LC.ne (l5 (k := 6) LC e2 e3 e4 hr hst (hks st hst) (by omega) hg) ?_
  clear n1 n2 e2 e3 e4 hr hg
  rintro m6 N6 ⟨tag, e2, e3, e4, hr, hg⟩ n1 n2
  have n2' : upd N6 c₁ o₁ c₂ = none := by rw [upd_ne LC.ne.symm]; exact n2
  have E6 : Ext (fun _ => False) tag N6 (tset (tset tag c₁ 70) c₂ 71) (upd (upd N6 c₁ o₁) c₂ o₂) := (Ext.new n1).trans (Ext.new n2')
  have x1 : Cell (tset (tset tag c₁ 70) c₂ 71) (upd (upd N6 c₁ o₁) c₂ o₂) 70 c₁ o₁ := Cell.put Cell.new n2'
  have x2 : Cell (tset (tset tag c₁ 70) c₂ 71) (upd (upd N6 c₁ o₁) c₂ o₂) 71 c₂ o₂ := Cell.new
  have hr6 := hr.le (Zt.ext E6 (fun q => q))
  have gx6 := hg.gx.ext E6 (fun t _ _ _ q => q)
  obtain ⟨oi, ci, di⟩ := hg.fi
  obtain ⟨oo, co, do'⟩ := hg.fo
  have ci6 := E6 _ _ _ (fun q => q) ci
  have co6 := E6 _ _ _ (fun q => q) co
  generalize upd (upd N6 c₁ o₁) c₂ o₂ = N7 at x1 x2 hr6 gx6 ci6 co6 ⊢
  generalize tset (tset tag c₁ 70) c₂ 71 = tag7 at x1 x2 hr6 gx6 ci6 co6
  clear E6 hg ci co hr n1 n2 n2'
  refine r_consM _ (l6 (k := 6) LC e4 gx6 ok h3 ci6 di x1 h1) ?_
  rintro m6 N8 ⟨rfl, tag8, o₁', oF, kF, F, y1, yd1, E8, hf, hF, hFc⟩
  have gx8 := gx6.ext E8 (fun t h1 h2 h3 => by omega)
  have hr8 := hr6.le (Zt.ext E8 (by omega))
  refine r_consM _ (l7 (k := 6) LC e2 e4 gx8 ok (by omega) hf hF (E8 _ _ _ (by omega) co6) do' hst (hks st hst) (E8 _ _ _ (by omega) x2) h2) ?_
  rintro m6 N9 ⟨rfl, tag9, o₂', oG, kG, G, y2, yd2, E9, hfo, hG, hGc⟩
  have gx9 := gx8.ext E9 (fun t h1 h2 h3 => by omega)
  have hr9 := hr8.le (Zt.ext E9 (by omega))
  have hf9 := hf.ext E9 (by omega) (by omega) (fun i hi => by omega)
  have y19 := E9 _ _ _ (by omega) y1
  refine r_consM _ (l8 (k := 6) (tag := tag9) (P := PB rs) LC) ?_
  rintro _ N10 ⟨d₁, tag10, oA, kA, rfl, E10, cA, hdA, vA⟩
  refine r_consM _ (l9 (k := 6) (tag := tag10) LC) ?_
  rintro _ N11 ⟨d₂, tag11, oB, rfl, E11, cB, hdB⟩
  have nm : LNm g ra st d₁ d₂ (mset (mset m6 "due_first" (.ref d₁)) "due_follow" (.ref d₂)) := ⟨⟨t, by walk_at "ms"⟩, by walk_at "ms", by walk_at "ms", by walk_at "ms", mset_self⟩
  generalize mset (mset m6 "due_first" (.ref d₁)) "due_follow" (.ref d₂) = m11 at nm
  have E911 : Ext (fun t => t = 50) tag9 N9 tag11 N11 := E10.trans (E11.mono fun t q => q.elim)
  refine r_consM _ (l10 (k := 6) LC nm.r nm.f1 (hr9.le (Zt.ext E911 (by decide))) ok hlen (E11 _ _ _ (fun q => q) cA) hdA (by have := vA.len; have : dueK0.length = 4 := rfl; omega) (vA.ext E11 (fun q => q))) ?_
  rintro _ N12 ⟨rfl, tag12, oA, kA, E12, cA, hdA, vA⟩
  have E912 : Ext (fun t => t = 50) tag9 N9 tag12 N12 := E911.trans E12
  refine r_consM _ (l11 (k := 6) LC nm (hr9.le (Zt.ext E912 (by decide))) hR.ok hst cA hdA vA dueK_noname (by have := termK_due (rs := rs); have := termK_len (rs := rs); rw [List.length_append] at *; simp at *; omega) (E12 _ _ _ (by decide) cB) hdB DueV.nil) ?_
  rintro m13 N13 ⟨nm, tag13, oA, oB, kA, kB, E13, cA, hdA, vA, cB, hdB, vB⟩
  have E913 : Ext (fun t => t = 50 ∨ t = 51) tag9 N9 tag13 N13 := (E912.mono fun t q => .inl q).trans E13
  have gx13 := gx9.ext E913 (fun t h1 h2 h3 => by omega)
  have hf13 := hf9.ext E913 (by omega) (by omega) (fun i hi => by omega)
  have hfo13 := hfo.ext E913 (by omega) (by omega) (fun i hi => by omega)
  have y113 := E913 _ _ _ (by omega) y19
  have y213 := E913 _ _ _ (by omega) y2
  have hFk : kF.map (·.1) = (termK rs ++ [ENDS]) ++ ks := hf13.keys
  have hGk : kG.map (·.1) = [] ++ ks := hfo13.keys
  have hnoT : ∀ i < 3, told i ∉ termK rs ++ [ENDS] := fun i hi q => by
    rcases List.mem_append.mp q with q | q
    · exact name_noterm i hi q
    · exact ends_noname i (by omega) (List.mem_singleton.mp q)
  have hkFl : kF.length ≤ 8 := by
    have := congrArg List.length hFk
    have h4 := termK_len (rs := rs)
    rw [List.length_map, List.length_append, List.length_append] at this
    have e : [ENDS].length = 1 := rfl
    omega
  have hkGl : kG.length ≤ 8 := by
    have := congrArg List.length hGk
    rw [List.length_map, List.nil_append] at this
    omega
  have hFnd : (kF.map (·.1)).Nodup := by
    rw [hFk, List.nodup_append]
    refine ⟨termK_nd, hnd, fun x hx y hy z => ?_⟩
    obtain ⟨i, hi, rfl⟩ := hin y hy
    exact hnoT i hi (z ▸ hx)
  have hGnd : (kG.map (·.1)).Nodup := by rw [hGk, List.nil_append]; exact hnd
  have hFv : ∀ {N : Hp}, LDF C.w tag13 N g.fi 7 20 (termK rs ++ [ENDS]) ks F oF kF → ∀ y ∈ kF.map (·.1), ∃ l vs n, valueAt kF y = some (.ref l) ∧ N l = some (lst vs n) ∧ StrsAre vs (FV F y) ∧ (FV F y).length ≤ 60 := fun h y hy => by
    rw [hFk] at hy
    obtain ⟨l, vs, n, q1, q2, q3⟩ := h.at' hnoT hin hy
    exact ⟨l, vs, n, q1, q2, q3, fv_len (fun i => hF.len ok i) hnoT hin y hy⟩
  have hGv : ∀ {N : Hp}, LDF C.w tag13 N g.fo 8 40 [] ks G oG kG → ∀ y ∈ kG.map (·.1), ∃ l vs n, valueAt kG y = some (.ref l) ∧ N l = some (lst vs n) ∧ StrsAre vs (FV G y) ∧ (FV G y).length ≤ 60 := fun h y hy => by
    rw [hGk] at hy
    obtain ⟨l, vs, n, q1, q2, q3⟩ := h.at' (by simp) hin hy
    exact ⟨l, vs, n, q1, q2, q3, fv_len (fun i => hG.len ok hF i) (by simp) hin y hy⟩
  have sF : ∀ {N : Hp}, DueV tag13 N kA (dueK rs) 3 (PB rs) → ∀ N' ys, Le N N' → ys.map (·.1) = kF.map (·.1) → SortD N' F ys → SameD N' ys kA := fun {N} vA N' ys le hk hsd => by
    rw [hFk] at hk
    refine sameD_of hk hsd (vA.ext (Ext.le le : Ext (fun _ => False) tag13 N tag13 N') (fun q => q)) ?_ (fun y hy => ?_) dueK_noname (fun i hi ss hp => ?_) (fv_all univ_ok (fun i => hF.univ ok i) termK_ok hnoT hin)
    · rw [List.length_append, termK_due, hksl]
    · rcases List.mem_append.mp hy with hy | hy
      · exact .inl (termK_sub y hy)
      · exact .inr (hin y hy)
    · obtain ⟨q1, W, q2, q3, q4⟩ := hp
      exact ⟨q1, q4.trans (p1 rs F i W ok hF hFc hi q2 q3)⟩
  have sG : ∀ {N : Hp}, DueV tag13 N kB [] 3 (PT rs st) → ∀ N' ys, Le N N' → ys.map (·.1) = kG.map (·.1) → SortD N' G ys → SameD N' ys kB := fun {N} vB N' ys le hk hsd => by
    rw [hGk] at hk
    refine sameD_of hk hsd (vB.ext (Ext.le le : Ext (fun _ => False) tag13 N tag13 N') (fun q => q)) ?_ (fun y hy => ?_) (by simp) (fun i hi ss hp => ?_) (fv_all univG_ok (fun i => hG.univ ok hF i) (by simp) (by simp) hin)
    · rw [List.nil_append, hksl]; rfl
    · exact .inr (hin y (by simpa using hy))
    · obtain ⟨q1, W, q2, q3, q4⟩ := hp
      exact ⟨q1, q4.trans (p2 rs F G st i W ok hF hFc hG hGc h3 hst hi q2 q3)⟩
  have f : ¬ False := fun q => q
  refine r_consM _ (l12 (k := 6) LC nm.f1 y113.2 yd1 hf13.cell.2 hf13.isd (by omega) hFnd (hFv hf13) cA.2 hdA (sF vA)) ?_
  rintro m13 N14 ⟨rfl, le14⟩
  have X14 : Ext (fun _ => False) tag13 N13 tag13 N14 := Ext.le le14
  have hfo14 := hfo13.ext X14 f f (fun _ _ q => q)
  refine r_consM _ (l13 (k := 6) LC nm.f2 (le14 _ _ y213.2) yd2 hfo14.cell.2 hfo14.isd (by omega) hGnd (hGv hfo14) (le14 _ _ cB.2) hdB (sG (vB.ext X14 f))) ?_
  rintro m13 N15 ⟨rfl, le15⟩
  have X15 : Ext (fun _ => False) tag13 N13 tag13 N15 := Ext.le (le14.trans le15)
  have gx15 := gx13.ext X15 (fun t _ _ _ q => q)
  have hf15 := hf13.ext X15 f f (fun _ _ q => q)
  have hfo15 := hfo13.ext X15 f f (fun _ _ q => q)
  obtain ⟨t, et⟩ := nm.s
  refine r_consM _ (l14 (k := 6) LC nm.g gx15 hf15.cell hf15.isd (by omega) (hf15.ne (by simp)) (X15 _ _ _ f y113) yd1) ?_
  rintro m13 N16 ⟨rfl, o₁'', z1, zd1, E16⟩
  have gx16 := gx15.ext E16 (fun t h1 h2 h3 => by omega)
  have hf16 := hf15.ext E16 (by decide) (by decide) (fun i hi => by omega)
  have hfo16 := hfo15.ext E16 (by decide) (by decide) (fun i hi => by omega)
  refine r_consM _ (l15 (k := 6) LC et nm.g gx16 hfo16.cell hfo16.isd (by omega) (hfo16.ne (by rw [List.nil_append]; intro z; rw [z] at hksl; cases hksl)) hst (E16 _ _ _ (by decide) (X15 _ _ _ f y213)) yd2) ?_
  rintro m13 N17 ⟨rfl, o₂'', z2, zd2, E17⟩
  have E1517 : Ext (fun t => t = 70 ∨ t = 71) tag13 N15 tag13 N17 := (E16.mono fun t q => .inl q).trans (E17.mono fun t q => .inr q)
  have hf17 := hf15.ext E1517 (by decide) (by decide) (fun i hi => by omega)
  have hfo17 := hfo15.ext E1517 (by decide) (by decide) (fun i hi => by omega)
  have cA17 := E1517 _ _ _ (by decide) (X15 _ _ _ f cA)
  have cB17 := E1517 _ _ _ (by decide) (X15 _ _ _ f cB)
  have vA17 := (vA.ext X15 f).ext E1517 (by decide)
  have vB17 := (vB.ext X15 f).ext E1517 (by decide)
  have z117 := E17 _ _ _ (by decide) z1
  refine r_consM _ (l16 (k := 6) LC nm.f1 z117.2 zd1 hf17.cell.2 hf17.isd (by omega) hFnd (hFv hf17) cA17.2 hdA (sF vA17)) ?_
  rintro m13 N18 ⟨rfl, le18⟩
  have X18 : Ext (fun _ => False) tag13 N17 tag13 N18 := Ext.le le18
  have hfo18 := hfo17.ext X18 f f (fun _ _ q => q)
  refine r_one (r_mono (l17 (k := 6) LC nm.f2 (le18 _ _ z2.2) zd2 hfo18.cell.2 hfo18.isd (by omega) hGnd (hGv hfo18) (le18 _ _ cB17.2) hdB (sG (vB17.ext X18 f))) ?_)
  rintro fl m' N' rfl
  rfl
end Mine

namespace Mine
open PySem PySem.Challenge
/-! the grammar, as meant -/
inductive Null (rs : List Rl) : Nat → Prop
  | mk {r : Rl} : r ∈ rs → (∀ s ∈ r.2, Null rs s) → Null rs r.1
def NullL (rs : List Rl) (l : List Nat) : Prop := ∀ s ∈ l, Null rs s
inductive Fst (rs : List Rl) (t : Nat) : Nat → Prop
  | term : 3 ≤ t → t < 7 → Fst rs t t
  | rule {r : Rl} {pre post : List Nat} {s : Nat} : r ∈ rs → r.2 = pre ++ s :: post → NullL rs pre → Fst rs t s → Fst rs t r.1
def FstL (rs : List Rl) (t : Nat) (l : List Nat) : Prop := ∃ pre s post, l = pre ++ s :: post ∧ NullL rs pre ∧ Fst rs t s
inductive Tail (rs : List Rl) (m : Nat) : Nat → Prop
  | self : Tail rs m m
  | rule {r : Rl} {pre post : List Nat} {s : Nat} : r ∈ rs → r.2 = pre ++ s :: post → NullL rs post → Tail rs m s → Tail rs m r.1
def TailL (rs : List Rl) (m : Nat) (l : List Nat) : Prop := ∃ pre s post, l = pre ++ s :: post ∧ Tail rs m s ∧ NullL rs post
inductive Dir (rs : List Rl) (m t : Nat) : Nat → Prop
  | here {r : Rl} {pre post : List Nat} {s : Nat} : r ∈ rs → r.2 = pre ++ s :: post → Tail rs m s → FstL rs t post → Dir rs m t r.1
  | inside {r : Rl} {pre post : List Nat} {s : Nat} : r ∈ rs → r.2 = pre ++ s :: post → Dir rs m t s → Dir rs m t r.1
def DirL (rs : List Rl) (m t : Nat) (l : List Nat) : Prop := (∃ pre s post, l = pre ++ s :: post ∧ Dir rs m t s) ∨ ∃ pre s post, l = pre ++ s :: post ∧ Tail rs m s ∧ FstL rs t post
section
variable {rs : List Rl} {m t s b : Nat} {p q l : List Nat}
theorem NullL.append (h : NullL rs p) (h' : NullL rs q) : NullL rs (p ++ q) := fun x hx => (List.mem_append.mp hx).elim (h x) (h' x)
theorem NullL.left (h : NullL rs (p ++ q)) : NullL rs p := fun x hx => h x (List.mem_append_left _ hx)
theorem FstL.snoc (h : FstL rs t p) : FstL rs t (p ++ [s]) := by
  obtain ⟨pre, x, post, rfl, h1, h2⟩ := h
  exact ⟨pre, x, post ++ [s], by simp, h1, h2⟩
theorem FstL.last (h : NullL rs p) (h' : Fst rs t s) : FstL rs t (p ++ [s]) := ⟨p, s, [], rfl, h, h'⟩
theorem TailL.snoc (h : TailL rs m p) (hs : Null rs s) : TailL rs m (p ++ [s]) := by
  obtain ⟨pre, x, post, rfl, h1, h2⟩ := h
  exact ⟨pre, x, post ++ [s], by simp, h1, h2.append fun y hy => by rw [List.mem_singleton.mp hy]; exact hs⟩
theorem DirL.snoc (h : DirL rs m t p) : DirL rs m t (p ++ [s]) := by
  rcases h with ⟨pre, x, post, rfl, h1⟩ | ⟨pre, x, post, rfl, h1, h2⟩
  · exact .inl ⟨pre, x, post ++ [s], by simp, h1⟩
  · exact .inr ⟨pre, x, post ++ [s], by simp, h1, h2.snoc⟩
theorem DirL.tail (h : TailL rs m p) (h' : Fst rs t s) : DirL rs m t (p ++ [s]) := by
  obtain ⟨pre, x, post, rfl, h1, h2⟩ := h
  exact .inr ⟨pre, x, post ++ [s], by simp, h1, FstL.last h2 h'⟩
theorem Null.lt (ok : ∀ r ∈ rs, Ok1 r) (h : Null rs s) : s < 3 := by
  cases h with
  | mk hr _ => exact (ok _ hr).1
theorem Tail.lt (ok : ∀ r ∈ rs, Ok1 r) (hm : m < 3) (h : Tail rs m s) : s < 3 := by
  cases h with
  | self => exact hm
  | rule hr _ _ _ => exact (ok _ hr).1
theorem Dir.lt (ok : ∀ r ∈ rs, Ok1 r) (h : Dir rs m t s) : s < 3 := by
  cases h with
  | here hr _ _ _ => exact (ok _ hr).1
  | inside hr _ _ => exact (ok _ hr).1
theorem Tail.trans (h : Tail rs s b) (h' : Tail rs m s) : Tail rs m b := by
  induction h with
  | self => exact h'
  | rule hr e hn _ ih => exact .rule hr e hn ih
theorem Dir.trans (h : Dir rs s t b) (h' : Tail rs m s) : Dir rs m t b := by
  induction h with
  | here hr e ht hf => exact .here hr e (ht.trans h') hf
  | inside hr e _ ih => exact .inside hr e ih
end
/-! bits -/
theorem bit_ne {a k : Nat} : a &&& 2 ^ k ≠ 0 ↔ a.testBit k = true := by
  constructor
  · intro h
    cases q : a.testBit k with
    | true => rfl
    | false =>
      refine absurd (Nat.eq_of_testBit_eq fun i => ?_) h
      rw [Nat.testBit_and, Nat.testBit_two_pow, Nat.zero_testBit]
      by_cases e : k = i
      · subst e; rw [q]; rfl
      · simp [e]
  · intro h z
    have : (a &&& 2 ^ k).testBit k = true := by rw [Nat.testBit_and, Nat.testBit_two_pow, h]; simp
    rw [z, Nat.zero_testBit] at this
    cases this
theorem bit1_ne {a : Nat} : a &&& 1 ≠ 0 ↔ a.testBit 0 = true := bit_ne (k := 0)
theorem bit2_ne {a : Nat} : a &&& 2 ≠ 0 ↔ a.testBit 1 = true := bit_ne (k := 1)
theorem bit60 {j : Nat} : Nat.testBit 60 j = true ↔ 2 ≤ j ∧ j ≤ 5 := by
  rcases Nat.lt_or_ge j 6 with h | h
  · have : j = 0 ∨ j = 1 ∨ j = 2 ∨ j = 3 ∨ j = 4 ∨ j = 5 := by omega
    rcases this with rfl | rfl | rfl | rfl | rfl | rfl <;> decide
  · have : Nat.testBit 60 j = false := Nat.testBit_lt_two_pow (Nat.lt_of_lt_of_le (by decide : 60 < 2 ^ 6) (Nat.pow_le_pow_right (by decide) h))
    rw [this]; simp; omega
theorem step_bit {W : Wy} {mask s j : Nat} : (readStep W mask s).testBit j = true ↔ (mask.testBit j = true ∧ 2 ≤ j ∧ j ≤ 5) ∨ (mask.testBit 0 = true ∧ (cellW W s 0).testBit j = true) ∨ (mask.testBit 1 = true ∧ (cellW W s 1).testBit j = true) := by
  have c0 : cellW W s 0 = (W.getD s (0, 0)).1 := rfl
  have c1 : cellW W s 1 = (W.getD s (0, 0)).2 := rfl
  unfold readStep
  rw [c0, c1]
  dsimp only
  have h0 : (mask &&& 60).testBit j = true ↔ mask.testBit j = true ∧ 2 ≤ j ∧ j ≤ 5 := by rw [Nat.testBit_and, Bool.and_eq_true, bit60]
  by_cases h1 : mask &&& 1 ≠ 0
  · rw [if_pos h1]
    have b1 := bit1_ne.mp h1
    by_cases h2 : mask &&& 2 ≠ 0
    · rw [if_pos h2, Nat.testBit_or, Nat.testBit_or, Bool.or_eq_true, Bool.or_eq_true, h0]
      have b2 := bit2_ne.mp h2
      simp only [b1, b2, true_and, or_assoc]
    · rw [if_neg h2, Nat.testBit_or, Bool.or_eq_true, h0]
      have b2 : ¬ mask.testBit 1 = true := fun q => h2 (bit2_ne.mpr q)
      simp only [b1, b2, true_and, false_and, or_false, Bool.false_eq_true]
  · rw [if_neg h1]
    have b1 : ¬ mask.testBit 0 = true := fun q => h1 (bit1_ne.mpr q)
    by_cases h2 : mask &&& 2 ≠ 0
    · rw [if_pos h2, Nat.testBit_or, Bool.or_eq_true, h0]
      have b2 := bit2_ne.mp h2
      simp only [b1, b2, true_and, false_and, false_or, Bool.false_eq_true]
    · rw [if_neg h2, h0]
      have b2 : ¬ mask.testBit 1 = true := fun q => h2 (bit2_ne.mpr q)
      simp only [b1, b2, false_and, or_false, Bool.false_eq_true]
theorem readM_append {W : Wy} {mask : Nat} (p q : List Nat) : readM W mask (p ++ q) = readM W (readM W mask p) q := by unfold readM; rw [List.foldl_append]
theorem read_keep {W : Wy} {j : Nat} (hj : 2 ≤ j ∧ j ≤ 5) : ∀ (p : List Nat) (mask : Nat), mask.testBit j = true → (readM W mask p).testBit j = true
  | [], mask, h => h
  | s :: p, mask, h => read_keep hj p (readStep W mask s) (step_bit.mpr (.inl ⟨h, hj⟩))
theorem read_keep0 {W : Wy} : ∀ (p : List Nat) (mask : Nat), (∀ s ∈ p, (cellW W s 0).testBit 0 = true) → mask.testBit 0 = true → (readM W mask p).testBit 0 = true
  | [], mask, _, h => h
  | s :: p, mask, hp, h => read_keep0 p (readStep W mask s) (fun x hx => hp x (.tail _ hx)) (step_bit.mpr (.inr (.inl ⟨h, hp s (.head _)⟩)))
theorem read_keep1 {W : Wy} : ∀ (p : List Nat) (mask : Nat), (∀ s ∈ p, (cellW W s 1).testBit 1 = true) → mask.testBit 1 = true → (readM W mask p).testBit 1 = true
  | [], mask, _, h => h
  | s :: p, mask, hp, h => read_keep1 p (readStep W mask s) (fun x hx => hp x (.tail _ hx)) (step_bit.mpr (.inr (.inr ⟨h, hp s (.head _)⟩)))
/-! the ways are sound -/
def A1 (rs : List Rl) (s j : Nat) : Prop := (j = 1 ∧ Null rs s) ∨ (2 ≤ j ∧ j ≤ 5 ∧ Fst rs (j + 1) s)
def A0 (rs : List Rl) (m s j : Nat) : Prop := j = 0 ∨ (j = 1 ∧ Tail rs m s) ∨ (2 ≤ j ∧ j ≤ 5 ∧ Dir rs m (j + 1) s)
def SoundW (rs : List Rl) (m : Nat) (W : Wy) : Prop := ∀ s < 7, ∀ j, ((cellW W s 1).testBit j = true → A1 rs s j) ∧ ((cellW W s 0).testBit j = true → A0 rs m s j)
section
variable {rs : List Rl} {m t s b : Nat} {p q l : List Nat} {W : Wy}
theorem read1_sound (h : SoundW rs m W) : ∀ (p pre : List Nat) (mask : Nat), (∀ s ∈ p, s < 7) → (∀ j, mask.testBit j = true → (j = 1 ∧ NullL rs pre) ∨ (2 ≤ j ∧ j ≤ 5 ∧ FstL rs (j + 1) pre)) →
    ∀ j, (readM W mask p).testBit j = true → (j = 1 ∧ NullL rs (pre ++ p)) ∨ (2 ≤ j ∧ j ≤ 5 ∧ FstL rs (j + 1) (pre ++ p))
  | [], pre, mask, _, hm, j, hj => by rw [List.append_nil]; exact hm j hj
  | s :: p, pre, mask, h7, hm, j, hj => by
    have e : pre ++ s :: p = (pre ++ [s]) ++ p := by simp
    rw [e]
    refine read1_sound h p (pre ++ [s]) (readStep W mask s) (fun x hx => h7 x (.tail _ hx)) (fun i hi => ?_) j hj
    rcases step_bit.mp hi with ⟨q, hi⟩ | ⟨q, _⟩ | ⟨q, q2⟩
    · rcases hm i q with ⟨z, _⟩ | ⟨_, _, z⟩
      · omega
      · exact .inr ⟨hi.1, hi.2, z.snoc⟩
    · rcases hm 0 q with ⟨z, _⟩ | ⟨z, _⟩ <;> omega
    · have hn : NullL rs pre := by
        rcases hm 1 q with ⟨_, z⟩ | ⟨z, _⟩
        · exact z
        · omega
      rcases (h s (h7 s (.head _)) i).1 q2 with ⟨rfl, z⟩ | ⟨z1, z2, z⟩
      · exact .inl ⟨rfl, hn.append fun y hy => by rw [List.mem_singleton.mp hy]; exact z⟩
      · exact .inr ⟨z1, z2, .last hn z⟩
theorem read0_sound (h : SoundW rs m W) : ∀ (p pre : List Nat) (mask : Nat), (∀ s ∈ p, s < 7) → (∀ j, mask.testBit j = true → j = 0 ∨ (j = 1 ∧ TailL rs m pre) ∨ (2 ≤ j ∧ j ≤ 5 ∧ DirL rs m (j + 1) pre)) →
    ∀ j, (readM W mask p).testBit j = true → j = 0 ∨ (j = 1 ∧ TailL rs m (pre ++ p)) ∨ (2 ≤ j ∧ j ≤ 5 ∧ DirL rs m (j + 1) (pre ++ p))
  | [], pre, mask, _, hm, j, hj => by rw [List.append_nil]; exact hm j hj
  | s :: p, pre, mask, h7, hm, j, hj => by
    have e : pre ++ s :: p = (pre ++ [s]) ++ p := by simp
    rw [e]
    refine read0_sound h p (pre ++ [s]) (readStep W mask s) (fun x hx => h7 x (.tail _ hx)) (fun i hi => ?_) j hj
    rcases step_bit.mp hi with ⟨q, hi⟩ | ⟨q, q2⟩ | ⟨q, q2⟩
    · rcases hm i q with z | ⟨z, _⟩ | ⟨_, _, z⟩
      · omega
      · omega
      · exact .inr (.inr ⟨hi.1, hi.2, z.snoc⟩)
    · rcases (h s (h7 s (.head _)) i).2 q2 with z | ⟨z, z2⟩ | ⟨z1, z2, z⟩
      · exact .inl z
      · exact .inr (.inl ⟨z, pre, s, [], rfl, z2, fun y hy => by simp at hy⟩)
      · exact .inr (.inr ⟨z1, z2, .inl ⟨pre, s, [], rfl, z⟩⟩)
    · have ht : TailL rs m pre := by
        rcases hm 1 q with z | ⟨_, z⟩ | ⟨z, _⟩
        · omega
        · exact z
        · omega
      rcases (h s (h7 s (.head _)) i).1 q2 with ⟨rfl, z⟩ | ⟨z1, z2, z⟩
      · exact .inr (.inl ⟨rfl, ht.snoc z⟩)
      · exact .inr (.inr ⟨z1, z2, .tail ht z⟩)
theorem cellW_set {i k v s k' : Nat} (hl : W.length = 7) (hi : i < 7) (hk : k < 2) (hk' : k' < 2) : cellW (setW W i k v) s k' = if s = i ∧ k' = k then v else cellW W s k' := by
  have key : ∀ (x : Nat × Nat), (W.set i x).getD s (0, 0) = if s = i then x else W.getD s (0, 0) := fun x => by
    rw [List.getD_eq_getElem?_getD, List.getD_eq_getElem?_getD, List.getElem?_set]
    by_cases h : i = s
    · subst h; rw [if_pos rfl, if_pos (by omega), if_pos rfl]; rfl
    · rw [if_neg h, if_neg (Ne.symm h)]
  have hk2 : k = 0 ∨ k = 1 := by omega
  have hk2' : k' = 0 ∨ k' = 1 := by omega
  unfold cellW setW
  rcases hk2 with rfl | rfl <;> rcases hk2' with rfl | rfl <;> simp only [key, if_true, if_false, Nat.one_ne_zero] <;> by_cases h : s = i <;> simp [h]
theorem wy_init0 : ∀ mk < 3, ∀ s < 7, cellW (wyInit mk) s 0 = if s = mk then 3 else 1 := by decide
theorem wy_init1 : ∀ mk < 3, ∀ s < 7, cellW (wyInit mk) s 1 = if s < 3 then 0 else 2 ^ (s - 1) := by decide
theorem testBit3 {j : Nat} (h : Nat.testBit 3 j = true) : j = 0 ∨ j = 1 := by
  rcases Nat.lt_or_ge j 2 with q | q
  · omega
  · have : Nat.testBit 3 j = false := Nat.testBit_lt_two_pow (Nat.lt_of_lt_of_le (by decide : 3 < 2 ^ 2) (Nat.pow_le_pow_right (by decide) q))
    rw [this] at h; cases h
theorem reach_sound (ok : ∀ r ∈ rs, Ok1 r) (hm : m < 3) (h : Reach rs m W) : SoundW rs m W := by
  induction h with
  | init =>
    intro s hs j
    rw [wy_init0 m hm s hs, wy_init1 m hm s hs]
    refine ⟨fun h => ?_, fun h => ?_⟩
    · by_cases h3 : s < 3
      · rw [if_pos h3] at h; simp at h
      · rw [if_neg h3, Nat.testBit_two_pow] at h
        have : s - 1 = j := by simpa using h
        have e : s = j + 1 := by omega
        rw [e]
        exact .inr ⟨by omega, by omega, .term (by omega) (by omega)⟩
    · by_cases hsm : s = m
      · rw [if_pos hsm] at h
        rcases testBit3 h with q | q
        · exact .inl q
        · exact .inr (.inl ⟨q, hsm ▸ .self⟩)
      · rw [if_neg hsm] at h
        have : j = 0 := by
          have h2 : Nat.testBit (2 ^ 0) j = true := h
          rw [Nat.testBit_two_pow] at h2
          have : 0 = j := by simpa using h2
          omega
        exact .inl this
  | @step W r k hW hr hk _ ih =>
    have hl := reach_len hW
    obtain ⟨o1, o2, o3⟩ := ok r hr
    intro s hs j
    rw [cellW_set hl (by omega) hk (by decide), cellW_set hl (by omega) hk (by decide)]
    have hk2 : k = 0 ∨ k = 1 := by omega
    refine ⟨fun h => ?_, fun h => ?_⟩
    · by_cases q : s = r.1 ∧ 1 = k
      · rw [if_pos q] at h
        obtain ⟨rfl, rfl⟩ := q
        unfold gotW at h
        rw [Nat.testBit_or, Bool.or_eq_true] at h
        rcases h with h | h
        · exact (ih _ hs j).1 h
        · have hm0 : ∀ i, Nat.testBit 2 i = true → (i = 1 ∧ NullL rs []) ∨ (2 ≤ i ∧ i ≤ 5 ∧ FstL rs (i + 1) []) := fun i hi => by
            have h2 : Nat.testBit (2 ^ 1) i = true := hi
            rw [Nat.testBit_two_pow] at h2
            have : 1 = i := by simpa using h2
            exact .inl ⟨this.symm, fun y hy => by simp at hy⟩
          rcases read1_sound ih r.2 [] 2 o3 hm0 j h with ⟨rfl, z⟩ | ⟨z1, z2, pre, x, post, e, z3, z4⟩
          · exact .inl ⟨rfl, .mk hr z⟩
          · exact .inr ⟨z1, z2, .rule hr e z3 z4⟩
      · rw [if_neg q] at h
        exact (ih s hs j).1 h
    · by_cases q : s = r.1 ∧ 0 = k
      · rw [if_pos q] at h
        obtain ⟨rfl, rfl⟩ := q
        unfold gotW at h
        rw [Nat.testBit_or, Bool.or_eq_true] at h
        rcases h with h | h
        · exact (ih _ hs j).2 h
        · have hm0 : ∀ i, Nat.testBit 1 i = true → i = 0 ∨ (i = 1 ∧ TailL rs m []) ∨ (2 ≤ i ∧ i ≤ 5 ∧ DirL rs m (i + 1) []) := fun i hi => by
            have h2 : Nat.testBit (2 ^ 0) i = true := hi
            rw [Nat.testBit_two_pow] at h2
            have : 0 = i := by simpa using h2
            exact .inl this.symm
          rcases read0_sound ih r.2 [] 1 o3 hm0 j h with z | ⟨rfl, pre, x, post, e, z3, z4⟩ | ⟨z1, z2, z⟩
          · exact .inl z
          · exact .inr (.inl ⟨rfl, .rule hr e z4 z3⟩)
          · refine .inr (.inr ⟨z1, z2, ?_⟩)
            rcases z with ⟨pre, x, post, e, z⟩ | ⟨pre, x, post, e, z3, z4⟩
            · exact .inside hr e z
            · exact .here hr e z3 z4
      · rw [if_neg q] at h
        exact (ih s hs j).2 h
/-! and complete -/
theorem reach_mono (ok : ∀ r ∈ rs, Ok1 r) (h : Reach rs m W) : ∀ s k j, k < 2 → (cellW (wyInit m) s k).testBit j = true → (cellW W s k).testBit j = true := by
  induction h with
  | init => exact fun s k j _ h => h
  | @step W r k hW hr hk _ ih =>
    intro s k' j hk' h
    rw [cellW_set (reach_len hW) (by have := (ok r hr).1; omega) hk hk']
    split
    · rename_i q
      obtain ⟨rfl, rfl⟩ := q
      unfold gotW
      rw [Nat.testBit_or, Bool.or_eq_true]
      exact .inl (ih _ _ _ hk' h)
    · exact ih _ _ _ hk' h
theorem reach_bit0 (ok : ∀ r ∈ rs, Ok1 r) (hm : m < 3) (h : Reach rs m W) (s : Nat) (hs : s < 7) : (cellW W s 0).testBit 0 = true := by
  refine reach_mono ok h s 0 0 (by decide) ?_
  rw [wy_init0 m hm s hs]
  split <;> rfl
theorem closed_bit {r : Rl} {k j : Nat} (hc : ClosedAt W r k) (h : (readM W (k + 1) r.2).testBit j = true) : (cellW W r.1 k).testBit j = true := by
  unfold ClosedAt gotW at hc
  rw [← hc, Nat.testBit_or, Bool.or_eq_true]
  exact .inr h
theorem null_bit (hc : ∀ r ∈ rs, ∀ k < 2, ClosedAt W r k) (h : Null rs s) : (cellW W s 1).testBit 1 = true := by
  induction h with
  | mk hr _ ih => exact closed_bit (hc _ hr 1 (by decide)) (read_keep1 _ _ ih (by decide))
theorem nullL_bit (hc : ∀ r ∈ rs, ∀ k < 2, ClosedAt W r k) (h : NullL rs p) {mask : Nat} (hm : mask.testBit 1 = true) : (readM W mask p).testBit 1 = true := read_keep1 _ _ (fun s hs => null_bit hc (h s hs)) hm
theorem fst_bit (ok : ∀ r ∈ rs, Ok1 r) (hR : Reach rs m W) (hm : m < 3) (hc : ∀ r ∈ rs, ∀ k < 2, ClosedAt W r k) (ht : 3 ≤ t ∧ t < 7) (h : Fst rs t s) : (cellW W s 1).testBit (t - 1) = true := by
  induction h with
  | term _ _ =>
    refine reach_mono ok hR t 1 (t - 1) (by decide) ?_
    rw [wy_init1 m hm t ht.2, if_neg (by omega), Nat.testBit_two_pow]
    simp
  | @rule r pre post s hr e hn _ ih =>
    refine closed_bit (hc r hr 1 (by decide)) ?_
    rw [e, readM_append]
    have h1 := nullL_bit hc hn (mask := 1 + 1) (by decide)
    exact read_keep (by omega) post (readStep W (readM W (1 + 1) pre) s) (step_bit.mpr (.inr (.inr ⟨h1, ih⟩)))
theorem fstL_bit (ok : ∀ r ∈ rs, Ok1 r) (hR : Reach rs m W) (hm : m < 3) (hc : ∀ r ∈ rs, ∀ k < 2, ClosedAt W r k) (ht : 3 ≤ t ∧ t < 7) (h : FstL rs t p) {mask : Nat} (hb : mask.testBit 1 = true) : (readM W mask p).testBit (t - 1) = true := by
  obtain ⟨pre, x, post, rfl, h1, h2⟩ := h
  rw [readM_append]
  exact read_keep (by omega) post (readStep W (readM W mask pre) x) (step_bit.mpr (.inr (.inr ⟨nullL_bit hc h1 hb, fst_bit ok hR hm hc ht h2⟩)))
theorem tail_bit (ok : ∀ r ∈ rs, Ok1 r) (hR : Reach rs m W) (hm : m < 3) (hc : ∀ r ∈ rs, ∀ k < 2, ClosedAt W r k) (h : Tail rs m s) : (cellW W s 0).testBit 1 = true := by
  induction h with
  | self =>
    refine reach_mono ok hR m 0 1 (by decide) ?_
    rw [wy_init0 m hm m (by omega), if_pos rfl]; rfl
  | @rule r pre post s hr e hn _ ih =>
    refine closed_bit (hc r hr 0 (by decide)) ?_
    have o3 := (ok r hr).2.2
    rw [e] at o3 ⊢
    rw [readM_append]
    have h0 := read_keep0 (W := W) pre (0 + 1) (fun x hx => reach_bit0 ok hm hR x (o3 x (List.mem_append_left _ hx))) (by decide)
    exact nullL_bit hc hn (mask := readStep W (readM W (0 + 1) pre) s) (step_bit.mpr (.inr (.inl ⟨h0, ih⟩)))
theorem dir_bit (ok : ∀ r ∈ rs, Ok1 r) (hR : Reach rs m W) (hm : m < 3) (hc : ∀ r ∈ rs, ∀ k < 2, ClosedAt W r k) (ht : 3 ≤ t ∧ t < 7) (h : Dir rs m t s) : (cellW W s 0).testBit (t - 1) = true := by
  induction h with
  | @here r pre post s hr e htl hf =>
    refine closed_bit (hc r hr 0 (by decide)) ?_
    have o3 := (ok r hr).2.2
    rw [e] at o3 ⊢
    rw [readM_append]
    have h0 := read_keep0 (W := W) pre (0 + 1) (fun x hx => reach_bit0 ok hm hR x (o3 x (List.mem_append_left _ hx))) (by decide)
    exact fstL_bit ok hR hm hc ht hf (mask := readStep W (readM W (0 + 1) pre) s) (step_bit.mpr (.inr (.inl ⟨h0, tail_bit ok hR hm hc htl⟩)))
  | @inside r pre post s hr e _ ih =>
    refine closed_bit (hc r hr 0 (by decide)) ?_
    have o3 := (ok r hr).2.2
    rw [e] at o3 ⊢
    rw [readM_append]
    have h0 := read_keep0 (W := W) pre (0 + 1) (fun x hx => reach_bit0 ok hm hR x (o3 x (List.mem_append_left _ hx))) (by decide)
    exact read_keep (by omega) post (readStep W (readM W (0 + 1) pre) s) (step_bit.mpr (.inr (.inl ⟨h0, ih⟩)))
end
end Mine

namespace Mine
open PySem PySem.Challenge
theorem told_ne_emp : ∀ i < 7, told i ≠ EMP := lt7 (by decide +kernel)
theorem told_ne_ends : ∀ i < 7, told i ≠ ENDS := ends_noname
theorem ends_ne_emp : ENDS ≠ EMP := by decide +kernel
/-! what fl gives -/
theorem fl_iff {F : Nat → List Str} {f : Str} : ∀ (l : List Nat) (acc : List Str), f ∈ fl F l acc ↔ f ∈ acc ∨ (f = EMP ∧ ∀ s ∈ l, EMP ∈ F s) ∨ (f ≠ EMP ∧ ∃ pre s post, l = pre ++ s :: post ∧ (∀ x ∈ pre, EMP ∈ F x) ∧ f ∈ F s)
  | [], acc => by
    unfold fl
    rw [List.mem_append, List.mem_singleton]
    constructor
    · rintro (h | h)
      · exact .inl h
      · exact .inr (.inl ⟨h, fun s hs => by simp at hs⟩)
    · rintro (h | ⟨h, _⟩ | ⟨_, pre, s, post, e, _⟩)
      · exact .inl h
      · exact .inr h
      · simp at e
  | x :: r, acc => by
    unfold fl
    by_cases he : EMP ∈ F x
    · rw [if_pos he, fl_iff r, addL_mem]
      constructor
      · rintro ((h | ⟨h, n⟩) | ⟨h, a⟩ | ⟨n, pre, s, post, e, a, b⟩)
        · exact .inl h
        · exact .inr (.inr ⟨n, [], x, r, rfl, fun y hy => by simp at hy, h⟩)
        · exact .inr (.inl ⟨h, fun s hs => (List.mem_cons.mp hs).elim (fun q => q ▸ he) (a s)⟩)
        · exact .inr (.inr ⟨n, x :: pre, s, post, by rw [e]; rfl, fun y hy => (List.mem_cons.mp hy).elim (fun q => q ▸ he) (a y), b⟩)
      · rintro (h | ⟨h, a⟩ | ⟨n, pre, s, post, e, a, b⟩)
        · exact .inl (.inl h)
        · exact .inr (.inl ⟨h, fun s hs => a s (.tail _ hs)⟩)
        · cases pre with
          | nil =>
            rw [List.nil_append] at e
            injection e with e1 e2
            subst e1
            exact .inl (.inr ⟨b, n⟩)
          | cons y pre =>
            rw [List.cons_append] at e
            injection e with e1 e2
            exact .inr (.inr ⟨n, pre, s, post, e2, fun z hz => a z (.tail _ hz), b⟩)
    · rw [if_neg he, addL_mem]
      constructor
      · rintro (h | ⟨h, n⟩)
        · exact .inl h
        · exact .inr (.inr ⟨n, [], x, r, rfl, fun y hy => by simp at hy, h⟩)
      · rintro (h | ⟨h, a⟩ | ⟨n, pre, s, post, e, a, b⟩)
        · exact .inl h
        · exact absurd (a x (.head _)) he
        · cases pre with
          | nil =>
            rw [List.nil_append] at e
            injection e with e1 e2
            subst e1
            exact .inr ⟨b, n⟩
          | cons y pre =>
            rw [List.cons_append] at e
            injection e with e1 e2
            exact absurd (e1 ▸ a y (.head _)) he
/-! FIRST -/
def SF (rs : List Rl) (s : Nat) (f : Str) : Prop := (f = EMP ∧ Null rs s) ∨ ∃ t, 3 ≤ t ∧ t < 7 ∧ f = told t ∧ Fst rs t s
def SFL (rs : List Rl) (l : List Nat) (f : Str) : Prop := (f = EMP ∧ NullL rs l) ∨ ∃ t, 3 ≤ t ∧ t < 7 ∧ f = told t ∧ FstL rs t l
section
variable {rs : List Rl} {F G : Nat → List Str} {m t s b st : Nat} {p q l : List Nat} {W : Wy} {f : Str}
theorem fx_sound (h : ∀ i, ∀ f ∈ F i, SF rs i f) (hs : s < 7) (hf : f ∈ Fx F s) : SF rs s f := by
  unfold Fx at hf
  split at hf
  · exact h s f hf
  · rw [List.mem_singleton.mp hf]
    exact .inr ⟨s, by omega, hs, rfl, .term (by omega) hs⟩
theorem emp_sound (h : SF rs s EMP) : Null rs s := by
  rcases h with ⟨_, q⟩ | ⟨t, h1, h2, h3, _⟩
  · exact q
  · exact absurd h3.symm (told_ne_emp t h2)
theorem fl_sound (h : ∀ i, ∀ f ∈ F i, SF rs i f) (h7 : ∀ s ∈ l, s < 7) (hf : f ∈ fl (Fx F) l []) : SFL rs l f := by
  rcases (fl_iff l []).mp hf with q | ⟨q, a⟩ | ⟨n, pre, s, post, e, a, b⟩
  · simp at q
  · exact .inl ⟨q, fun s hs => emp_sound (fx_sound h (h7 s hs) (a s hs))⟩
  · subst e
    rcases fx_sound h (h7 s (by simp)) b with ⟨z, _⟩ | ⟨t, h1, h2, h3, h4⟩
    · exact absurd z n
    · exact .inr ⟨t, h1, h2, h3, pre, s, post, rfl, fun x hx => emp_sound (fx_sound h (h7 x (by simp [hx])) (a x hx)), h4⟩
theorem first_sound (ok : ∀ r ∈ rs, Ok1 r) (h : FReach rs F) : ∀ i, ∀ f ∈ F i, SF rs i f := by
  induction h with
  | init => intro i f hf; simp at hf
  | @step F F₀ r f _ _ hr hf _ ih ih₀ =>
    intro i g hg
    unfold putF at hg
    split at hg
    · rename_i q; subst q
      rcases List.mem_append.mp hg with hg | hg
      · exact ih _ g hg
      · rw [List.mem_singleton.mp hg]
        rcases fl_sound ih₀ (ok r hr).2.2 hf with ⟨z, hn⟩ | ⟨t, h1, h2, h3, pre, x, post, e, h4, h5⟩
        · exact .inl ⟨z, .mk hr hn⟩
        · exact .inr ⟨t, h1, h2, h3, .rule hr e h4 h5⟩
    · exact ih i g hg
theorem null_fx (ok : ∀ r ∈ rs, Ok1 r) (hc : ∀ r ∈ rs, FClosed rs F r) (h : Null rs s) : EMP ∈ Fx F s := by
  induction h with
  | @mk r hr _ ih =>
    unfold Fx
    rw [if_pos (ok r hr).1]
    exact hc r hr EMP ((fl_iff _ _).mpr (.inr (.inl ⟨rfl, ih⟩)))
theorem fst_fx (ok : ∀ r ∈ rs, Ok1 r) (hc : ∀ r ∈ rs, FClosed rs F r) (ht : 3 ≤ t ∧ t < 7) (h : Fst rs t s) : told t ∈ Fx F s := by
  induction h with
  | term _ _ => unfold Fx; rw [if_neg (by omega)]; exact List.mem_singleton.mpr rfl
  | @rule r pre post s hr e hn _ ih =>
    unfold Fx
    rw [if_pos (ok r hr).1]
    exact hc r hr _ ((fl_iff _ _).mpr (.inr (.inr ⟨told_ne_emp t ht.2, pre, s, post, e, fun x hx => null_fx ok hc (hn x hx), ih⟩)))
theorem fl_complete (ok : ∀ r ∈ rs, Ok1 r) (hc : ∀ r ∈ rs, FClosed rs F r) (h : SFL rs l f) : f ∈ fl (Fx F) l [] := by
  rcases h with ⟨rfl, h⟩ | ⟨t, h1, h2, rfl, pre, s, post, e, h4, h5⟩
  · exact (fl_iff _ _).mpr (.inr (.inl ⟨rfl, fun s hs => null_fx ok hc (h s hs)⟩))
  · exact (fl_iff _ _).mpr (.inr (.inr ⟨told_ne_emp t h2, pre, s, post, e, fun x hx => null_fx ok hc (h4 x hx), fst_fx ok hc ⟨h1, h2⟩ h5⟩))
theorem first_iff (ok : ∀ r ∈ rs, Ok1 r) (h : FReach rs F) (hc : ∀ r ∈ rs, FClosed rs F r) (hs : s < 3) : f ∈ F s ↔ SF rs s f := by
  refine ⟨first_sound ok h s f, fun q => ?_⟩
  have e : Fx F s = F s := if_pos hs
  rcases q with ⟨rfl, q⟩ | ⟨t, h1, h2, rfl, q⟩
  · exact e ▸ null_fx ok hc q
  · exact e ▸ fst_fx ok hc ⟨h1, h2⟩ q
/-! FOLLOW -/
def SG (rs : List Rl) (st b : Nat) (f : Str) : Prop := (f = ENDS ∧ Tail rs b st) ∨ ∃ t X, 3 ≤ t ∧ t < 7 ∧ f = told t ∧ Dir rs b t X
theorem split_at {r : Rl} {i : Nat} (h : r.2[i]? = some b) : r.2 = r.2.take i ++ b :: r.2.drop (i + 1) := by
  have hi := (List.getElem?_eq_some_iff.mp h).1
  have e : r.2[i] = b := (List.getElem?_eq_some_iff.mp h).2
  conv => lhs; rw [← List.take_append_drop i r.2, List.drop_eq_getElem_cons hi, e]
theorem follow_sound (ok : ∀ r ∈ rs, Ok1 r) (hF : FReach rs F) (h : GReach rs F st G) : ∀ i, ∀ f ∈ G i, SG rs st i f := by
  have hfs := first_sound ok hF
  have put : ∀ (G : Nat → List Str) b f, (∀ i, ∀ f ∈ G i, SG rs st i f) → SG rs st b f → ∀ i, ∀ g ∈ putF G b f i, SG rs st i g := fun G b f h1 h2 i g hg => by
    unfold putF at hg
    split at hg
    · rename_i q; subst q
      rcases List.mem_append.mp hg with hg | hg
      · exact h1 _ g hg
      · rw [List.mem_singleton.mp hg]; exact h2
    · exact h1 i g hg
  have h7 : ∀ r ∈ rs, ∀ i, ∀ s ∈ r.2.drop i, s < 7 := fun r hr i s hs => (ok r hr).2.2 s (List.mem_of_mem_drop hs)
  induction h with
  | init =>
    intro i f hf
    unfold W0 setF at hf
    split at hf
    · rename_i q
      rw [List.mem_singleton.mp hf]
      exact .inl ⟨rfl, q ▸ .self⟩
    · simp at hf
  | @after G r i b f _ hr e hb hf hn _ ih =>
    refine put _ _ _ ih ?_
    rcases fl_sound hfs (h7 r hr _) hf with ⟨z, _⟩ | ⟨t, h1, h2, h3, h4⟩
    · exact absurd z hn
    · exact .inr ⟨t, r.1, h1, h2, h3, .here hr (split_at e) .self h4⟩
  | @trail G G₀ r i b f _ _ hr e hb he hf _ ih ih₀ =>
    refine put _ _ _ ih ?_
    have hnl : NullL rs (r.2.drop (i + 1)) := by
      rcases fl_sound hfs (h7 r hr _) he with ⟨_, z⟩ | ⟨t, h1, h2, h3, _⟩
      · exact z
      · exact absurd h3.symm (told_ne_emp t h2)
    have htl : Tail rs b r.1 := .rule hr (split_at e) hnl .self
    rcases ih₀ _ f hf with ⟨z, q⟩ | ⟨t, X, h1, h2, h3, q⟩
    · exact .inl ⟨z, q.trans htl⟩
    · exact .inr ⟨t, X, h1, h2, h3, q.trans htl⟩
theorem at_split {pre post : List Nat} {r : Rl} (e : r.2 = pre ++ s :: post) : r.2[pre.length]? = some s ∧ r.2.drop (pre.length + 1) = post := by
  rw [e]
  exact ⟨by simp, by simp⟩
theorem follow_tail (ok : ∀ r ∈ rs, Ok1 r) (hc : ∀ r ∈ rs, FClosed rs F r) (hg : ∀ r ∈ rs, ∀ i b, r.2[i]? = some b → b < 3 → GClosed F G r i b) (hb : b < 3) (h : Tail rs b s) : ∀ f ∈ G s, f ∈ G b := by
  induction h with
  | self => exact fun f hf => hf
  | @rule r pre post s hr e hn ht ih =>
    intro f hf
    obtain ⟨e1, e2⟩ := at_split e
    have := (hg r hr pre.length s e1 (ht.lt ok hb)).2
    rw [e2] at this
    exact ih f (this (fl_complete ok hc (.inl ⟨rfl, hn⟩)) f hf)
theorem follow_dir (ok : ∀ r ∈ rs, Ok1 r) (hc : ∀ r ∈ rs, FClosed rs F r) (hg : ∀ r ∈ rs, ∀ i b, r.2[i]? = some b → b < 3 → GClosed F G r i b) (hb : b < 3) (ht : 3 ≤ t ∧ t < 7) (h : Dir rs b t s) : told t ∈ G b := by
  induction h with
  | @here r pre post s hr e htl hf =>
    obtain ⟨e1, e2⟩ := at_split e
    have := (hg r hr pre.length s e1 (htl.lt ok hb)).1
    rw [e2] at this
    exact follow_tail ok hc hg hb htl _ (this _ (fl_complete ok hc (.inr ⟨t, ht.1, ht.2, rfl, hf⟩)) (told_ne_emp t ht.2))
  | inside _ _ _ ih => exact ih
theorem follow_start (h : GReach rs F st G) : ENDS ∈ G st := by
  have put : ∀ (G : Nat → List Str) b f, ENDS ∈ G st → ENDS ∈ putF G b f st := fun G b f h => by
    unfold putF
    split
    · exact List.mem_append_left _ h
    · exact h
  induction h with
  | init => unfold W0 setF; rw [if_pos rfl]; exact List.mem_singleton.mpr rfl
  | after _ _ _ _ _ _ _ ih => exact put _ _ _ ih
  | trail _ _ _ _ _ _ _ _ ih _ => exact put _ _ _ ih
theorem follow_iff (ok : ∀ r ∈ rs, Ok1 r) (hF : FReach rs F) (hc : ∀ r ∈ rs, FClosed rs F r) (h : GReach rs F st G) (hg : ∀ r ∈ rs, ∀ i b, r.2[i]? = some b → b < 3 → GClosed F G r i b) (hb : b < 3) : f ∈ G b ↔ SG rs st b f := by
  refine ⟨follow_sound ok hF h b f, fun q => ?_⟩
  rcases q with ⟨rfl, q⟩ | ⟨t, X, h1, h2, rfl, q⟩
  · exact follow_tail ok hc hg hb q _ (follow_start h)
  · exact follow_dir ok hc hg hb ⟨h1, h2⟩ q
/-! what is found -/
theorem foundS_iff {mask : Nat} : f ∈ foundS mask ↔ ∃ t, 3 ≤ t ∧ t < 7 ∧ f = told t ∧ mask.testBit (t - 1) = true := by
  unfold foundS
  rw [List.mem_map]
  constructor
  · rintro ⟨t, h, rfl⟩
    obtain ⟨h1, h2⟩ := List.mem_filter.mp h
    have h3 : 3 ≤ t ∧ t < 7 := by
      simp only [List.mem_cons, List.not_mem_nil, or_false] at h1
      omega
    exact ⟨t, h3.1, h3.2, rfl, bit_ne.mp (by simpa using h2)⟩
  · rintro ⟨t, h1, h2, rfl, h3⟩
    refine ⟨t, List.mem_filter.mpr ⟨?_, by simpa using bit_ne.mpr h3⟩, rfl⟩
    simp only [List.mem_cons, List.not_mem_nil, or_false]
    omega
theorem nodup_told : ∀ l : List Nat, l.Nodup → (∀ i ∈ l, i < 7) → (l.map told).Nodup
  | [], _, _ => List.nodup_nil
  | i :: l, hn, h7 => by
    rw [List.map_cons, List.nodup_cons]
    obtain ⟨h1, h2⟩ := List.nodup_cons.mp hn
    refine ⟨fun q => ?_, nodup_told l h2 fun j hj => h7 j (.tail _ hj)⟩
    obtain ⟨j, hj, e⟩ := List.mem_map.mp q
    exact h1 (told_inj j (h7 j (.tail _ hj)) i (h7 i (.head _)) e ▸ hj)
theorem foundS_nodup {mask : Nat} : (foundS mask).Nodup := by
  unfold foundS
  refine nodup_told _ (List.Nodup.sublist (List.filter_sublist ..) (by decide : ([3, 4, 5, 6] : List Nat).Nodup)) fun i hi => ?_
  have := (List.mem_filter.mp hi).1
  simp only [List.mem_cons, List.not_mem_nil, or_false] at this
  omega
theorem add_nodup {mask : Nat} {c : Prop} [Decidable c] {x : Str} (hx : ∀ t < 7, told t ≠ x) : (foundS mask ++ if c then [x] else []).Nodup := by
  rw [List.nodup_append]
  refine ⟨foundS_nodup, by split <;> simp, fun y hy z hz e => ?_⟩
  obtain ⟨t, _, h2, rfl, _⟩ := foundS_iff.mp hy
  split at hz
  · exact hx t h2 (e.trans (List.mem_singleton.mp hz))
  · simp at hz
end
theorem plain1 : Plain1 := by
  intro rs F i W ok hF hc hi hR hcl
  refine (List.perm_ext_iff_of_nodup (add_nodup told_ne_emp) (hF.nodup i)).mpr fun f => ?_
  have snd := reach_sound ok hi hR
  rw [first_iff ok hF hc hi, List.mem_append, foundS_iff]
  constructor
  · rintro (⟨t, h1, h2, rfl, h3⟩ | h)
    · rcases (snd i (by omega) (t - 1)).1 h3 with ⟨z, _⟩ | ⟨_, _, z⟩
      · omega
      · exact .inr ⟨t, h1, h2, rfl, by rwa [show t - 1 + 1 = t by omega] at z⟩
    · split at h
      · rename_i hb
        rcases (snd i (by omega) 1).1 (bit2_ne.mp hb) with ⟨_, z⟩ | ⟨z, _⟩
        · exact .inl ⟨List.mem_singleton.mp h, z⟩
        · omega
      · simp at h
  · rintro (⟨rfl, h⟩ | ⟨t, h1, h2, rfl, h⟩)
    · rw [if_pos (bit2_ne.mpr (null_bit hcl h))]
      exact .inr (List.mem_singleton.mpr rfl)
    · exact .inl ⟨t, h1, h2, rfl, fst_bit ok hR hi hcl ⟨h1, h2⟩ h⟩
theorem plain2 : Plain2 := by
  intro rs F G st i W ok hF hc hG hgc h3 hst hi hR hcl
  refine (List.perm_ext_iff_of_nodup (add_nodup told_ne_ends) (hG.nodup i)).mpr fun f => ?_
  have snd := reach_sound ok hi hR
  rw [follow_iff ok hF hc hG hgc hi, List.mem_append, foundS_iff]
  have bits : ∀ {t : Nat}, 3 ≤ t → t < 7 → ((cellW W 0 0 ||| cellW W 1 0 ||| cellW W 2 0).testBit (t - 1) = true ↔ ∃ X < 3, (cellW W X 0).testBit (t - 1) = true) := fun {t} _ _ => by
    rw [Nat.testBit_or, Nat.testBit_or, Bool.or_eq_true, Bool.or_eq_true]
    constructor
    · rintro ((h | h) | h)
      · exact ⟨0, by decide, h⟩
      · exact ⟨1, by decide, h⟩
      · exact ⟨2, by decide, h⟩
    · rintro ⟨X, hX, h⟩
      have : X = 0 ∨ X = 1 ∨ X = 2 := by omega
      rcases this with rfl | rfl | rfl
      · exact .inl (.inl h)
      · exact .inl (.inr h)
      · exact .inr h
  constructor
  · rintro (⟨t, h1, h2, rfl, h3⟩ | h)
    · obtain ⟨X, hX, h3⟩ := (bits h1 h2).mp h3
      rcases (snd X (by omega) (t - 1)).2 h3 with z | ⟨z, _⟩ | ⟨_, _, z⟩
      · omega
      · omega
      · exact .inr ⟨t, X, h1, h2, rfl, by rwa [show t - 1 + 1 = t by omega] at z⟩
    · split at h
      · rename_i hb
        rcases (snd st (by omega) 1).2 (bit2_ne.mp hb) with z | ⟨_, z⟩ | ⟨z, _⟩
        · omega
        · exact .inl ⟨List.mem_singleton.mp h, z⟩
        · omega
      · simp at h
  · rintro (⟨rfl, h⟩ | ⟨t, X, h1, h2, rfl, h⟩)
    · rw [if_pos (bit2_ne.mpr (tail_bit ok hR hi hcl h))]
      exact .inr (List.mem_singleton.mpr rfl)
    · exact .inl ⟨t, h1, h2, rfl, (bits h1 h2).mpr ⟨X, h.lt ok, dir_bit ok hR hi hcl ⟨h1, h2⟩ h⟩⟩
theorem cw : rw_qb0003_02.Holds := holds_of (law_body plain1 plain2)
end Mine

theorem PySem.Challenge.cw_qb0003_02_holds : PySem.Challenge.rw_qb0003_02.Holds := by
  exact Mine.cw

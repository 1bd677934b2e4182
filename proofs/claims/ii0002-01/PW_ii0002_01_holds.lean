import PyProof.Rows.All
import Wide.All
import OpenK.AllK
import Wide.FinOn
import PySem.Challenge.RW_ii0002_01
open PySem PySem.W PyProof.Rows PySem.Challenge
set_option Elab.async false
set_option linter.unusedVariables false
set_option maxRecDepth 100000
set_option maxHeartbeats 8000000
/- MBase -/
namespace Mine

def noSt : Stmt := .Pass ⟨0, 0, 0, 0⟩
def topSt (i : Nat) : Stmt := pw_ii0002_01.main.body.getD i noSt
def clsBody : Stmt → List Stmt
  | .ClassDef _ _ _ b _ _ _ _ _ _ _ => b
  | _ => []
def clsSt (i j : Nat) : Stmt := (clsBody (topSt i)).getD j noSt
def fnArgs : Stmt → Arguments
  | .FunctionDef _ a _ _ _ _ _ _ _ _ => a
  | _ => ⟨[], [], none, [], [], none, []⟩
def fnBody : Stmt → List Stmt
  | .FunctionDef _ _ b _ _ _ _ _ _ _ => b
  | _ => []
def fnScope : Stmt → Scope
  | .FunctionDef _ _ _ _ _ _ s _ _ _ => s
  | _ => ⟨.function, [], false, false, []⟩
def ek (P : Params) (x : Str) (t : Tok) (v : Value) : DictEntry := ⟨PyData.keyHash P x, .str x t, v⟩
noncomputable def ob_2 (P : Params) : Obj := ⟨.none, none, (.dict #[] 0), #[]⟩
noncomputable def ob_3 (P : Params) : Obj := ⟨(.type "dict"), none, (.dict #[ek P (Str.ofString "__name__") 165 (.str (Str.ofString "law_ii0002_01") 2715), ek P (Str.ofString "__doc__") 166 .none, ek P (Str.ofString "__package__") 167 .none, ek P (Str.ofString "__loader__") 168 (.builtin "__main__.__loader__#opaque"), ek P (Str.ofString "__spec__") 169 .none, ek P (Str.ofString "__annotations__") 170 (.ref 6), ek P (Str.ofString "__builtins__") 171 (.ref 4), ek P (Str.ofString "__file__") 173 (.str (Str.ofString "/claim/cut.py") 172), ek P (Str.ofString "__cached__") 174 .none, ek P (Str.ofString "_wall") 193 (.ref 21), ek P (Str.ofString "BaseStemmer") 436 (.ref 199), ek P (Str.ofString "Among") 471 (.ref 220), ek P (Str.ofString "PorterStemmer") 1542 (.ref 527), ek P (Str.ofString "IrishStemmer") 2714 (.ref 832), ek P (Str.ofString "_law_letters") 2718 (.str (Str.ofString "abcdefghijklmnopqrstuvwxyz") 2717), ek P (Str.ofString "_law_longest") 2731 (.ref 841), ek P (Str.ofString "law") 2751 (.ref 848)] 17), #[]⟩
noncomputable def ob_34 (P : Params) : Obj := ⟨(.type "code"), none, (.fields #[(.str (Str.ofString "__init__") 208), (.str (Str.ofString "BaseStemmer.__init__") 209), (.str (Str.ofString "/claim/cut.py") 210), (.int 7 0), (.int 1 0), (.int 0 0), (.int 0 0), (.int 3 0), (.ref 29), (.bool true), (.int 181 0), (.ref 30), .none, (.ref 31), (.ref 32), (.ref 33), (.int 212 0), (.int 7 0), (.str (Str.ofString "/claim/cut.py") 213)]), #[]⟩
noncomputable def ob_35 (P : Params) : Obj := ⟨(.type "function"), none, (.func { name := (Str.ofString "__init__"), qualname := (Str.ofString "BaseStemmer.__init__"), params := fnArgs (clsSt 2 0), body := .stmts (fnBody (clsSt 2 0)), scope := fnScope (clsSt 2 0), globals := 3, closure := [], defaults := .none, kwdefaults := .none, doc := .none, pyModule := (.str (Str.ofString "snowballstemmer.basestemmer") 194), annotations := none, code := (.ref 34), closureTuple := .none, builtins := 0 }), #[]⟩
noncomputable def ob_41 (P : Params) : Obj := ⟨(.type "code"), none, (.fields #[(.str (Str.ofString "set_current") 215), (.str (Str.ofString "BaseStemmer.set_current") 216), (.str (Str.ofString "/claim/cut.py") 217), (.int 10 0), (.int 2 0), (.int 0 0), (.int 0 0), (.int 3 0), (.ref 36), (.bool true), (.int 181 0), (.ref 37), .none, (.ref 38), (.ref 39), (.ref 40), (.int 220 0), (.int 10 0), (.str (Str.ofString "/claim/cut.py") 221)]), #[]⟩
noncomputable def ob_42 (P : Params) : Obj := ⟨(.type "function"), none, (.func { name := (Str.ofString "set_current"), qualname := (Str.ofString "BaseStemmer.set_current"), params := fnArgs (clsSt 2 1), body := .stmts (fnBody (clsSt 2 1)), scope := fnScope (clsSt 2 1), globals := 3, closure := [], defaults := .none, kwdefaults := .none, doc := .none, pyModule := (.str (Str.ofString "snowballstemmer.basestemmer") 194), annotations := none, code := (.ref 41), closureTuple := .none, builtins := 0 }), #[]⟩
noncomputable def ob_48 (P : Params) : Obj := ⟨(.type "code"), none, (.fields #[(.str (Str.ofString "get_current") 223), (.str (Str.ofString "BaseStemmer.get_current") 224), (.str (Str.ofString "/claim/cut.py") 225), (.int 18 0), (.int 1 0), (.int 0 0), (.int 0 0), (.int 3 0), (.ref 43), (.bool true), (.int 181 0), (.ref 44), .none, (.ref 45), (.ref 46), (.ref 47), (.int 227 0), (.int 18 0), (.str (Str.ofString "/claim/cut.py") 228)]), #[]⟩
noncomputable def ob_49 (P : Params) : Obj := ⟨(.type "function"), none, (.func { name := (Str.ofString "get_current"), qualname := (Str.ofString "BaseStemmer.get_current"), params := fnArgs (clsSt 2 2), body := .stmts (fnBody (clsSt 2 2)), scope := fnScope (clsSt 2 2), globals := 3, closure := [], defaults := .none, kwdefaults := .none, doc := .none, pyModule := (.str (Str.ofString "snowballstemmer.basestemmer") 194), annotations := none, code := (.ref 48), closureTuple := .none, builtins := 0 }), #[]⟩
noncomputable def ob_132 (P : Params) : Obj := ⟨(.type "code"), none, (.fields #[(.str (Str.ofString "find_among") 318), (.str (Str.ofString "BaseStemmer.find_among") 319), (.str (Str.ofString "/claim/cut.py") 320), (.int 54 0), (.int 2 0), (.int 0 0), (.int 0 0), (.int 3 0), (.ref 127), (.bool true), (.int 181 0), (.ref 128), .none, (.ref 129), (.ref 130), (.ref 131), (.int 335 0), (.int 54 0), (.str (Str.ofString "/claim/cut.py") 336)]), #[]⟩
noncomputable def ob_133 (P : Params) : Obj := ⟨(.type "function"), none, (.func { name := (Str.ofString "find_among"), qualname := (Str.ofString "BaseStemmer.find_among"), params := fnArgs (clsSt 2 14), body := .stmts (fnBody (clsSt 2 14)), scope := fnScope (clsSt 2 14), globals := 3, closure := [], defaults := .none, kwdefaults := .none, doc := .none, pyModule := (.str (Str.ofString "snowballstemmer.basestemmer") 194), annotations := none, code := (.ref 132), closureTuple := .none, builtins := 0 }), #[]⟩
noncomputable def ob_139 (P : Params) : Obj := ⟨(.type "code"), none, (.fields #[(.str (Str.ofString "find_among_b") 338), (.str (Str.ofString "BaseStemmer.find_among_b") 339), (.str (Str.ofString "/claim/cut.py") 340), (.int 99 0), (.int 2 0), (.int 0 0), (.int 0 0), (.int 3 0), (.ref 134), (.bool true), (.int 181 0), (.ref 135), .none, (.ref 136), (.ref 137), (.ref 138), (.int 355 0), (.int 99 0), (.str (Str.ofString "/claim/cut.py") 356)]), #[]⟩
noncomputable def ob_140 (P : Params) : Obj := ⟨(.type "function"), none, (.func { name := (Str.ofString "find_among_b"), qualname := (Str.ofString "BaseStemmer.find_among_b"), params := fnArgs (clsSt 2 15), body := .stmts (fnBody (clsSt 2 15)), scope := fnScope (clsSt 2 15), globals := 3, closure := [], defaults := .none, kwdefaults := .none, doc := .none, pyModule := (.str (Str.ofString "snowballstemmer.basestemmer") 194), annotations := none, code := (.ref 139), closureTuple := .none, builtins := 0 }), #[]⟩
noncomputable def ob_198 (P : Params) : Obj := ⟨(.type "dict"), none, (.dict #[ek P (Str.ofString "__module__") 203 (.str (Str.ofString "snowballstemmer.basestemmer") 194), ek P (Str.ofString "__firstlineno__") 207 (.int 5 206), ek P (Str.ofString "__init__") 214 (.ref 35), ek P (Str.ofString "set_current") 222 (.ref 42), ek P (Str.ofString "get_current") 229 (.ref 49), ek P (Str.ofString "copy_from") 237 (.ref 56), ek P (Str.ofString "in_grouping") 245 (.ref 63), ek P (Str.ofString "go_in_grouping") 253 (.ref 70), ek P (Str.ofString "in_grouping_b") 261 (.ref 77), ek P (Str.ofString "go_in_grouping_b") 269 (.ref 84), ek P (Str.ofString "out_grouping") 277 (.ref 91), ek P (Str.ofString "go_out_grouping") 285 (.ref 98), ek P (Str.ofString "out_grouping_b") 293 (.ref 105), ek P (Str.ofString "go_out_grouping_b") 301 (.ref 112), ek P (Str.ofString "eq_s") 309 (.ref 119), ek P (Str.ofString "eq_s_b") 317 (.ref 126), ek P (Str.ofString "find_among") 337 (.ref 133), ek P (Str.ofString "find_among_b") 357 (.ref 140), ek P (Str.ofString "replace_s") 367 (.ref 147), ek P (Str.ofString "slice_from") 375 (.ref 154), ek P (Str.ofString "slice_del") 382 (.ref 161), ek P (Str.ofString "insert") 392 (.ref 168), ek P (Str.ofString "slice_to") 399 (.ref 175), ek P (Str.ofString "assign_to") 406 (.ref 182), ek P (Str.ofString "stemWord") 414 (.ref 189), ek P (Str.ofString "stemWords") 422 (.ref 196), ek P (Str.ofString "__static_attributes__") 429 (.ref 197), ek P (Str.ofString "__dict__") 431 (.ref 200), ek P (Str.ofString "__weakref__") 433 (.ref 201), ek P (Str.ofString "__doc__") 434 .none] 4), #[]⟩
noncomputable def ob_199 (P : Params) : Obj := ⟨(.type "type"), none, (.cls { name := (Str.ofString "BaseStemmer"), bases := [(.type "object")], mro := [(.ref 199), (.type "object")], ns := 198, qualname := (Str.ofString "BaseStemmer"), hasDict := true, slotNames := [], subclasses := [(.ref 527), (.ref 832)], abstract := false, collection := none, hasDel := false }), #[none, none, (some (.str (Str.ofString "BaseStemmer") 196)), (some (.str (Str.ofString "BaseStemmer") 204)), (some (.builtin "object.__new__")), (some (.bool true))]⟩
noncomputable def ob_219 (P : Params) : Obj := ⟨(.type "dict"), none, (.dict #[ek P (Str.ofString "__module__") 446 (.str (Str.ofString "snowballstemmer.among") 437), ek P (Str.ofString "__firstlineno__") 450 (.int 168 449), ek P (Str.ofString "__init__") 460 (.ref 217), ek P (Str.ofString "__static_attributes__") 464 (.ref 218), ek P (Str.ofString "__dict__") 466 (.ref 221), ek P (Str.ofString "__weakref__") 468 (.ref 222), ek P (Str.ofString "__doc__") 469 .none] 4), #[]⟩
noncomputable def ob_220 (P : Params) : Obj := ⟨(.type "type"), none, (.cls { name := (Str.ofString "Among"), bases := [(.type "object")], mro := [(.ref 220), (.type "object")], ns := 219, qualname := (Str.ofString "Among"), hasDict := true, slotNames := [], subclasses := [], abstract := false, collection := none, hasDel := false }), #[none, none, (some (.str (Str.ofString "Among") 439)), (some (.str (Str.ofString "Among") 447)), (some (.builtin "object.__new__")), (some (.bool true))]⟩
noncomputable def ob_330 (P : Params) : Obj := ⟨(.type "list"), none, (.seq #[(.ref 319), (.ref 322), (.ref 325), (.ref 328)] 0), #[]⟩
noncomputable def ob_371 (P : Params) : Obj := ⟨(.type "list"), none, (.seq #[(.ref 333), (.ref 336), (.ref 339), (.ref 342), (.ref 345), (.ref 348), (.ref 351), (.ref 354), (.ref 357), (.ref 360), (.ref 363), (.ref 366), (.ref 369)] 0), #[]⟩
noncomputable def ob_381 (P : Params) : Obj := ⟨(.type "list"), none, (.seq #[(.ref 373), (.ref 376), (.ref 379)] 0), #[]⟩
noncomputable def ob_442 (P : Params) : Obj := ⟨(.type "list"), none, (.seq #[(.ref 383), (.ref 386), (.ref 389), (.ref 392), (.ref 395), (.ref 398), (.ref 401), (.ref 404), (.ref 407), (.ref 410), (.ref 413), (.ref 416), (.ref 419), (.ref 422), (.ref 425), (.ref 428), (.ref 431), (.ref 434), (.ref 437), (.ref 440)] 0), #[]⟩
noncomputable def ob_465 (P : Params) : Obj := ⟨(.type "list"), none, (.seq #[(.ref 445), (.ref 448), (.ref 451), (.ref 454), (.ref 457), (.ref 460), (.ref 463)] 0), #[]⟩
noncomputable def ob_524 (P : Params) : Obj := ⟨(.type "list"), none, (.seq #[(.ref 468), (.ref 471), (.ref 474), (.ref 477), (.ref 480), (.ref 483), (.ref 486), (.ref 489), (.ref 492), (.ref 495), (.ref 498), (.ref 501), (.ref 504), (.ref 507), (.ref 510), (.ref 513), (.ref 516), (.ref 519), (.ref 522)] 0), #[]⟩
noncomputable def ob_526 (P : Params) : Obj := ⟨(.type "dict"), none, (.dict #[ek P (Str.ofString "__module__") 481 (.str (Str.ofString "snowballstemmer.porter_stemmer") 472), ek P (Str.ofString "__firstlineno__") 485 (.int 175 484), ek P (Str.ofString "g_v") 498 (.ref 232), ek P (Str.ofString "g_v_WXY") 517 (.ref 233), ek P (Str.ofString "I_p2") 519 (.int 0 518), ek P (Str.ofString "I_p1") 521 (.int 0 520), ek P (Str.ofString "r_shortv") 528 (.ref 240), ek P (Str.ofString "r_R1") 535 (.ref 247), ek P (Str.ofString "r_R2") 542 (.ref 254), ek P (Str.ofString "r_Step_1a") 549 (.ref 261), ek P (Str.ofString "r_Step_1b") 556 (.ref 268), ek P (Str.ofString "r_Step_1c") 563 (.ref 275), ek P (Str.ofString "r_Step_2") 570 (.ref 282), ek P (Str.ofString "r_Step_3") 577 (.ref 289), ek P (Str.ofString "r_Step_4") 584 (.ref 296), ek P (Str.ofString "r_Step_5a") 591 (.ref 303), ek P (Str.ofString "r_Step_5b") 598 (.ref 310), ek P (Str.ofString "_stem") 605 (.ref 317), ek P (Str.ofString "a_0") 660 (.ref 330), ek P (Str.ofString "as_0") 664 (.ref 331), ek P (Str.ofString "a_1") 835 (.ref 371), ek P (Str.ofString "a_2") 877 (.ref 381), ek P (Str.ofString "a_3") 1156 (.ref 442), ek P (Str.ofString "as_3") 1170 (.ref 443), ek P (Str.ofString "a_4") 1269 (.ref 465), ek P (Str.ofString "as_4") 1273 (.ref 466), ek P (Str.ofString "a_5") 1538 (.ref 524), ek P (Str.ofString "__static_attributes__") 1539 (.ref 525), ek P (Str.ofString "__doc__") 1540 .none] 2), #[]⟩
noncomputable def ob_527 (P : Params) : Obj := ⟨(.type "type"), none, (.cls { name := (Str.ofString "PorterStemmer"), bases := [(.ref 199)], mro := [(.ref 527), (.ref 199), (.type "object")], ns := 526, qualname := (Str.ofString "PorterStemmer"), hasDict := true, slotNames := [], subclasses := [], abstract := false, collection := none, hasDel := false }), #[(some (.ref 225)), none, (some (.str (Str.ofString "PorterStemmer") 474)), (some (.str (Str.ofString "PorterStemmer") 482)), (some (.builtin "object.__new__")), (some (.bool true))]⟩
noncomputable def ob_666 (P : Params) : Obj := ⟨(.type "list"), none, (.seq #[(.ref 595), (.ref 598), (.ref 601), (.ref 604), (.ref 607), (.ref 610), (.ref 613), (.ref 616), (.ref 619), (.ref 622), (.ref 625), (.ref 628), (.ref 631), (.ref 634), (.ref 637), (.ref 640), (.ref 643), (.ref 646), (.ref 649), (.ref 652), (.ref 655), (.ref 658), (.ref 661), (.ref 664)] 0), #[]⟩
noncomputable def ob_831 (P : Params) : Obj := ⟨(.type "dict"), none, (.dict #[ek P (Str.ofString "__module__") 1552 (.str (Str.ofString "snowballstemmer.irish_stemmer") 1543), ek P (Str.ofString "__firstlineno__") 1556 (.int 226 1555), ek P (Str.ofString "g_v") 1577 (.ref 537), ek P (Str.ofString "I_p2") 1579 (.int 0 1578), ek P (Str.ofString "I_p1") 1581 (.int 0 1580), ek P (Str.ofString "I_pV") 1583 (.int 0 1582), ek P (Str.ofString "r_mark_regions") 1590 (.ref 544), ek P (Str.ofString "r_initial_morph") 1597 (.ref 551), ek P (Str.ofString "r_R1") 1604 (.ref 558), ek P (Str.ofString "r_R2") 1611 (.ref 565), ek P (Str.ofString "r_noun_sfx") 1618 (.ref 572), ek P (Str.ofString "r_deriv") 1625 (.ref 579), ek P (Str.ofString "r_verb_sfx") 1632 (.ref 586), ek P (Str.ofString "_stem") 1639 (.ref 593), ek P (Str.ofString "a_0") 1974 (.ref 666), ek P (Str.ofString "as_0") 1985 (.ref 667), ek P (Str.ofString "a_1") 2202 (.ref 716), ek P (Str.ofString "a_2") 2544 (.ref 792), ek P (Str.ofString "a_3") 2710 (.ref 829), ek P (Str.ofString "__static_attributes__") 2711 (.ref 830), ek P (Str.ofString "__doc__") 2712 .none] 2), #[]⟩
noncomputable def ob_832 (P : Params) : Obj := ⟨(.type "type"), none, (.cls { name := (Str.ofString "IrishStemmer"), bases := [(.ref 199)], mro := [(.ref 832), (.ref 199), (.type "object")], ns := 831, qualname := (Str.ofString "IrishStemmer"), hasDict := true, slotNames := [], subclasses := [], abstract := false, collection := none, hasDel := false }), #[(some (.ref 530)), none, (some (.str (Str.ofString "IrishStemmer") 1545)), (some (.str (Str.ofString "IrishStemmer") 1553)), (some (.builtin "object.__new__")), (some (.bool true))]⟩
noncomputable def ob_840 (P : Params) : Obj := ⟨(.type "code"), none, (.fields #[(.str (Str.ofString "_law_longest") 2719), (.str (Str.ofString "_law_longest") 2720), (.str (Str.ofString "/claim/cut.py") 2721), (.int 262 0), (.int 3 0), (.int 0 0), (.int 0 0), (.int 3 0), (.ref 835), (.bool true), (.int 181 0), (.ref 836), .none, (.ref 837), (.ref 838), (.ref 839), (.int 2729 0), (.int 262 0), (.str (Str.ofString "/claim/cut.py") 2730)]), #[]⟩
noncomputable def ob_841 (P : Params) : Obj := ⟨(.type "function"), none, (.func { name := (Str.ofString "_law_longest"), qualname := (Str.ofString "_law_longest"), params := fnArgs (topSt 11), body := .stmts (fnBody (topSt 11)), scope := fnScope (topSt 11), globals := 3, closure := [], defaults := .none, kwdefaults := .none, doc := .none, pyModule := (.str (Str.ofString "law_ii0002_01") 2715), annotations := none, code := (.ref 840), closureTuple := .none, builtins := 0 }), #[]⟩
noncomputable def ob_847 (P : Params) : Obj := ⟨(.type "code"), none, (.fields #[(.str (Str.ofString "law") 2732), (.str (Str.ofString "law") 2733), (.str (Str.ofString "/claim/cut.py") 2734), (.int 271 0), (.int 1 0), (.int 0 0), (.int 0 0), (.int 3 0), (.ref 842), (.bool true), (.int 181 0), (.ref 843), .none, (.ref 844), (.ref 845), (.ref 846), (.int 2749 0), (.int 271 0), (.str (Str.ofString "/claim/cut.py") 2750)]), #[]⟩
noncomputable def ob_848 (P : Params) : Obj := ⟨(.type "function"), none, (.func { name := (Str.ofString "law"), qualname := (Str.ofString "law"), params := fnArgs (topSt 12), body := .stmts (fnBody (topSt 12)), scope := fnScope (topSt 12), globals := 3, closure := [], defaults := .none, kwdefaults := .none, doc := .none, pyModule := (.str (Str.ofString "law_ii0002_01") 2715), annotations := none, code := (.ref 847), closureTuple := .none, builtins := 0 }), #[]⟩
noncomputable def K1 (P : Params) : Frag := [(nat_lit 2, ob_2 P), (nat_lit 3, ob_3 P), (nat_lit 34, ob_34 P), (nat_lit 35, ob_35 P), (nat_lit 41, ob_41 P), (nat_lit 42, ob_42 P), (nat_lit 48, ob_48 P), (nat_lit 49, ob_49 P), (nat_lit 132, ob_132 P), (nat_lit 133, ob_133 P), (nat_lit 139, ob_139 P), (nat_lit 140, ob_140 P), (nat_lit 198, ob_198 P), (nat_lit 199, ob_199 P), (nat_lit 219, ob_219 P), (nat_lit 220, ob_220 P), (nat_lit 330, ob_330 P), (nat_lit 371, ob_371 P), (nat_lit 381, ob_381 P), (nat_lit 442, ob_442 P), (nat_lit 465, ob_465 P), (nat_lit 524, ob_524 P), (nat_lit 526, ob_526 P), (nat_lit 527, ob_527 P), (nat_lit 666, ob_666 P), (nat_lit 831, ob_831 P), (nat_lit 832, ob_832 P), (nat_lit 840, ob_840 P), (nat_lit 841, ob_841 P), (nat_lit 847, ob_847 P), (nat_lit 848, ob_848 P)]

def qv : Program := view pw_ii0002_01 [0, 2, 4, 6, 8, 10, 11, 12]
def as1 : List Addr := [(nat_lit 2), (nat_lit 3), (nat_lit 34), (nat_lit 35), (nat_lit 41), (nat_lit 42), (nat_lit 48), (nat_lit 49), (nat_lit 132), (nat_lit 133), (nat_lit 139), (nat_lit 140), (nat_lit 198), (nat_lit 199), (nat_lit 219), (nat_lit 220), (nat_lit 330), (nat_lit 371), (nat_lit 381), (nat_lit 442), (nat_lit 465), (nat_lit 524), (nat_lit 526), (nat_lit 527), (nat_lit 666), (nat_lit 831), (nat_lit 832), (nat_lit 840), (nat_lit 841), (nat_lit 847), (nat_lit 848)]
theorem as1_eq : ∀ P, as1 = (K1 P).map (·.1) := fun _ => rfl
def loose1 : List Str := [Str.ofString "PorterStemmer", Str.ofString "IrishStemmer"]
end Mine
/- MWalk -/
namespace Mine
theorem reg_K : rw_ii0002_01 = rw_ii0002_01 ∧ K1 = K1 := by
  k_fill
  exact ⟨rfl, rfl⟩
abbrev so (x : String) : Str := Str.ofString x
def whBody : Stmt → List Stmt
  | .While _ b _ _ => b
  | .For _ _ b _ _ => b
  | .If _ b _ _ => b
  | _ => []
def forIter : Stmt → PySem.Expr
  | .For _ i _ _ _ => i
  | _ => .Name (Str.ofString "") ⟨0,0,0,0⟩
def ixSt (l : List Stmt) (i : Nat) : Stmt := l.getD i noSt
/-- a fact about the end of a walk: only the heap and the tokens have turned -/
def EndV {α : Type} (s : Shared) (R : α → Heap → Prop) (v : α) (s' : Shared) : Prop := ∃ h' tk, s' = { s with heap := h', toks := tk } ∧ R v h'
theorem EndV.intro {α : Type} {s : Shared} {R : α → Heap → Prop} {v : α} {h' : Heap} {tk : Nat} (h : R v h') : EndV s R v { s with heap := h', toks := tk } := ⟨h', tk, rfl, h⟩

abbrev amD (P : Params) (t : Str) (sub res : Int) (u : Nat → Tok) : List DictEntry :=
  [⟨PyData.keyHash P (Str.ofString "s"), .str (Str.ofString "s") (u 0), .str t (u 1)⟩, ⟨PyData.keyHash P (Str.ofString "substring_i"), .str (Str.ofString "substring_i") (u 2), .int sub (u 3)⟩, ⟨PyData.keyHash P (Str.ofString "result"), .str (Str.ofString "result") (u 4), .int res (u 5)⟩]
abbrev amO (dw : Addr) : Obj := ⟨.ref 220, some dw, .plain, #[]⟩
abbrev selfD (P : Params) (q : Nat → Tok) (cu cr li lb br ke : Value) : List DictEntry :=
  [⟨PyData.keyHash P (Str.ofString "current"), .str (Str.ofString "current") (q 0), cu⟩, ⟨PyData.keyHash P (Str.ofString "cursor"), .str (Str.ofString "cursor") (q 1), cr⟩,
   ⟨PyData.keyHash P (Str.ofString "limit"), .str (Str.ofString "limit") (q 2), li⟩, ⟨PyData.keyHash P (Str.ofString "limit_backward"), .str (Str.ofString "limit_backward") (q 3), lb⟩,
   ⟨PyData.keyHash P (Str.ofString "bra"), .str (Str.ofString "bra") (q 4), br⟩, ⟨PyData.keyHash P (Str.ofString "ket"), .str (Str.ofString "ket") (q 5), ke⟩]

theorem inst_up {h₀ h : Heap} {L : Addr} {m : Str → Option Value} {x C : Addr} {ox : Obj} {od : Option Obj} (I : W.InstAt h₀ x ox C od) (F : Fr h₀ L h m) : W.InstAt h x ox C od := by
  obtain ⟨a, b, c, d⟩ := I
  refine ⟨F.keep _ _ a, b, c, ?_⟩
  revert d
  cases ox.dict <;> cases od <;> intro d <;> first | exact d | exact F.keep _ _ d
theorem kstB_norm {m : Str → Option Value} {h₀ h : Heap} {L : Addr} (ps : List (Str × Value)) (hp : ∀ p ∈ ps, m p.1 = some p.2) (F : Fr h₀ L h m) : Fr h₀ L h (kstB m ps) := by
  have : kstB m ps = m := funext fun z => kstB_eq hp fun _ => rfl
  rw [this]; exact F
end Mine
/- MPure -/
namespace Mine
/-- the first n letters agree -/
def Agree (U R : List Nat) (n : Nat) : Prop := n ≤ U.length ∧ n ≤ R.length ∧ U.take n = R.take n
/-- how a comparison of the window U with the entry R ends -/
def Scan (U R : List Nat) (n : Nat) (d : Int) : Prop :=
  Agree U R n ∧ ((n = R.length ∧ d = 0) ∨ (n < R.length ∧ n = U.length ∧ d = -1) ∨ (∃ a b, U[n]? = some a ∧ R[n]? = some b ∧ a ≠ b ∧ d = (a : Int) - (b : Int)))
theorem Agree.succ {U R : List Nat} {n a : Nat} (h : Agree U R n) (hu : U[n]? = some a) (hr : R[n]? = some a) : Agree U R (n + 1) := by
  obtain ⟨h1, h2, h3⟩ := h
  obtain ⟨l1, e1⟩ := List.getElem?_eq_some_iff.mp hu
  obtain ⟨l2, e2⟩ := List.getElem?_eq_some_iff.mp hr
  refine ⟨l1, l2, ?_⟩
  rw [List.take_add_one, List.take_add_one, h3, hu, hr]
/-- the window before the place c, from behind -/
def winB (wd : Str) (c lb : Int) : List Nat := ((wd.cps.toList.take c.toNat).drop lb.toNat).reverse
def winF (wd : Str) (c l : Int) : List Nat := (wd.cps.toList.take l.toNat).drop c.toNat
theorem winB_length {wd : Str} {c lb : Int} (h0 : 0 ≤ lb) (h1 : lb ≤ c) (h2 : c ≤ wd.length) : ((winB wd c lb).length : Int) = c - lb := by
  unfold winB
  have : wd.cps.toList.length = wd.length := by simp [Str.length]
  rw [List.length_reverse, List.length_drop, List.length_take, this]
  omega
theorem winF_length {wd : Str} {c l : Int} (h0 : 0 ≤ c) (h1 : c ≤ l) (h2 : l ≤ wd.length) : ((winF wd c l).length : Int) = l - c := by
  unfold winF
  have : wd.cps.toList.length = wd.length := by simp [Str.length]
  rw [List.length_drop, List.length_take, this]
  omega
theorem item_get {x : Str} {i : Int} (h0 : 0 ≤ i) (h1 : i < x.length) : x.cps.toList[i.toNat]? = some ((Txt.item x i).cps.getD 0 0) := by
  rw [item_meets ⟨h0, h1⟩]
  have hl : i.toNat < x.cps.size := by have : x.length = x.cps.size := rfl; omega
  simp [hl]
theorem winB_get {wd : Str} {c lb : Int} {n : Nat} (h0 : 0 ≤ lb) (h1 : lb ≤ c) (h2 : c ≤ wd.length) (hn : (n : Int) < c - lb) : (winB wd c lb)[n]? = some ((Txt.item wd (c - 1 - n)).cps.getD 0 0) := by
  have hl := winB_length h0 h1 h2
  rw [← item_get (by omega) (by omega)]
  have hw : wd.cps.toList.length = wd.length := by simp [Str.length]
  have hd : ((wd.cps.toList.take c.toNat).drop lb.toNat).length = (c - lb).toNat := by rw [List.length_drop, List.length_take, hw]; omega
  unfold winB
  rw [List.getElem?_reverse (by rw [hd]; omega), List.getElem?_drop, List.getElem?_take, hd]
  rw [if_pos (by omega)]
  congr 1
  omega
theorem winF_get {wd : Str} {c l : Int} {n : Nat} (h0 : 0 ≤ c) (h1 : c ≤ l) (h2 : l ≤ wd.length) (hn : (n : Int) < l - c) : (winF wd c l)[n]? = some ((Txt.item wd (c + n)).cps.getD 0 0) := by
  rw [← item_get (by omega) (by omega)]
  have hw : wd.cps.toList.length = wd.length := by simp [Str.length]
  unfold winF
  rw [List.getElem?_drop, List.getElem?_take, if_pos (by omega)]
  congr 1
  omega
theorem txtB_get {x : Str} {n : Nat} (hn : n < x.length) : x.cps.toList.reverse[n]? = some ((Txt.item x ((x.length : Int) - 1 - n)).cps.getD 0 0) := by
  rw [← item_get (by omega) (by omega)]
  have hw : x.cps.toList.length = x.length := by simp [Str.length]
  rw [List.getElem?_reverse (by omega), hw]
  congr 1
  omega
theorem txtF_get {x : Str} {n : Nat} (hn : n < x.length) : x.cps.toList[n]? = some ((Txt.item x (n : Int)).cps.getD 0 0) := by
  rw [← item_get (by omega) (by omega)]; simp
theorem txt_len (x : Str) : x.cps.toList.length = x.length := by simp [Str.length]
theorem txtB_len (x : Str) : x.cps.toList.reverse.length = x.length := by simp [Str.length]
end Mine
/- MFB -/
namespace Mine
theorem tick_MFB {M : Model} {A : Around} {env : Env} {p : Pos} {Q : Bool → Shared → Prop} {E : Value → Shared → Prop} {s : Shared} (h : Q true s) : wpAny M A (isTrue (.Constant (.bool true) 0 p) env (eval (.Constant (.bool true) 0 p) env)) Q E s := by
  all_goals (try k_fold)
  k_steps
  exact h
theorem reg_K2 : rw_ii0002_01 = rw_ii0002_01 ∧ K1 = K1 := by
  k_fill
  exact ⟨rfl, rfl⟩
def fbW1 : Stmt := ixSt (fnBody (clsSt 2 15)) 7
def fbFor : Stmt := ixSt (whBody fbW1) 4
abbrev envFB (L : Addr) : Env := envOf (Str.ofString "BaseStemmer.find_among_b") (fnScope (clsSt 2 15)) L 140 (.ref 139)
local macro_rules | `(tactic| walk_at "getAttr ref") => `(tactic| (k_here; k_dflt (refine' get_own ?k1 ?k2 ?k3 ?k4 ?k5 ?k6 ?k7 ?k8 ?k9 ?_; (case k1 => k_asm); (case k2 => k_asm); (case k3 => exact inst_up (by assumption) (by k_asm)); (case k4 => k_is); (case k5 => k_is); (case k6 => k_is); (case k7 => k_is); (case k8 => k_get); (case k9 => k_handed); k_whole)))

section
variable {w : World} {A : Around} {h₀ : Heap} {L : Addr} {s : Shared} {m : Str → Option Value} {news : List (Addr × Obj)} {mean : ExcName → Option Value} {mg mb : Str → Option Value} {loose : List Str} {Q : Flow → Shared → Prop}
  {x dx xw dw : Addr} {wd txt : Str} {sub res : Int} {u q : Nat → Tok} {c lb cm df : Int} {tc tl tk tcm tdf t1 : Tok} {cr li lbv bra ket : Value} {n : Nat}

def FbIterP (h₀ : Heap) (L : Addr) (m : Str → Option Value) (news : List (Addr × Obj)) (a : Int) (v : Value) (h' : Heap) : Prop :=
  ∃ r t1 t2 t3, v = .ref r ∧ Fr h₀ L h' m ∧ News h₀ L h' news ∧ IsRange h' r a (-1) (-1) t1 t2 t3
theorem fb_iter (hh : A.handled = none) (X₀ : (K1 w.params).In h₀) (T : Top qv loose mean mg mb h₀) 
  (F : Fr h₀ L s.heap m) (f1 : m (Str.ofString "common") = some (.int cm tcm)) (f2 : m (Str.ofString "w") = some (.ref xw))
  (hcm : 0 ≤ cm ∧ cm ≤ 1000) (ht : txt.length ≤ 1000)
  (N : News h₀ L s.heap news)
  (I : W.InstAt h₀ xw (amO dw) 220 (some (dictOf (amD w.params txt sub res u) 3)))
  : wpAny (model pw_ii0002_01 w) A (eval (forIter fbFor) (envFB L)) (EndV s (FbIterP h₀ L m news ((txt.length : Int) - 1 - cm))) (fun _ _ => False) s := by
  have e : kstB m [(Str.ofString "common", .int cm tcm), (Str.ofString "w", .ref xw)] = m := funext fun z => kstB_eq (List.forall_mem_cons.mpr ⟨f1, List.forall_mem_cons.mpr ⟨f2, List.forall_mem_nil _⟩⟩) fun _ => rfl
  rw [← e] at F
  conv =>
    arg 3
    arg 1
    whnf
  all_goals (try k_fold)
  k_steps
  rename Fr _ _ _ _ => F'
  rename News _ _ _ _ => N'
  rename IsRange _ _ _ _ _ _ _ _ => hR
  rw [e] at F'
  exact EndV.intro ⟨_, _, _, _, rfl, F', N', hR⟩

def FbTurnP (h₀ : Heap) (L : Addr) (m : Str → Option Value) (news : List (Addr × Obj)) (cm a b : Int) (c lb : Int) (f : Flow) (h' : Heap) : Prop :=
  ∃ m' tcm, Fr h₀ L h' m' ∧ News h₀ L h' news ∧ (∀ y, y ≠ Str.ofString "common" → y ≠ Str.ofString "diff" → m' y = m y) ∧
   ((f = .brk ∧ c - cm = lb ∧ m' (Str.ofString "common") = some (.int cm tcm) ∧ ∃ t, m' (Str.ofString "diff") = some (.int (-1) t)) ∨
    (f = .brk ∧ c - cm ≠ lb ∧ a ≠ b ∧ m' (Str.ofString "common") = some (.int cm tcm) ∧ ∃ t, m' (Str.ofString "diff") = some (.int (a - b) t)) ∨
    (f = .next ∧ c - cm ≠ lb ∧ a = b ∧ m' (Str.ofString "common") = some (.int (cm + 1) tcm) ∧ ∃ t, m' (Str.ofString "diff") = some (.int 0 t)))

theorem fb_turn (X₀ : (K1 w.params).In h₀) (T : Top qv loose mean mg mb h₀) {k : Int} {own : List (Addr × Obj)}
  (F : Fr h₀ L s.heap m) (f0 : m (Str.ofString "i2") = some (.int k tk)) (f1 : m (Str.ofString "common") = some (.int cm tcm)) (f2 : m (Str.ofString "diff") = some (.int df tdf))
  (f3 : m (Str.ofString "self") = some (.ref x)) (f4 : m (Str.ofString "w") = some (.ref xw)) (f5 : m (Str.ofString "c") = some (.int c tc)) (f6 : m (Str.ofString "lb") = some (.int lb tl))
  (hc0 : 0 ≤ c) (hc1 : c ≤ 1000) (hl0 : 0 ≤ lb) (hl1 : lb ≤ c) (hcm : 0 ≤ cm ∧ cm ≤ c - lb) (hk : 0 ≤ k ∧ k < (txt.length : Int)) (hk2 : txt.length ≤ 1000)
  (hwd : (c : Int) ≤ wd.length)
  (N : News h₀ L s.heap ((x, instObj 527 dx) :: (dx, dictOf (selfD w.params q (.str wd t1) cr li lbv bra ket) n) :: own))
  (I : W.InstAt h₀ xw (amO dw) 220 (some (dictOf (amD w.params txt sub res u) 3)))
  : wpAny (model pw_ii0002_01 w) A (execs (whBody fbFor) (envFB L)) (EndV s (FbTurnP h₀ L m ((x, instObj 527 dx) :: (dx, dictOf (selfD w.params q (.str wd t1) cr li lbv bra ket) n) :: own) cm (((Txt.item wd (c - 1 - cm)).cps.getD 0 0 : Nat) : Int) (((Txt.item txt k).cps.getD 0 0 : Nat) : Int) c lb)) (fun _ _ => False) s := by
  have e : kstB m [(Str.ofString "i2", .int k tk), (Str.ofString "common", .int cm tcm), (Str.ofString "diff", .int df tdf), (Str.ofString "self", .ref x), (Str.ofString "w", .ref xw), (Str.ofString "c", .int c tc), (Str.ofString "lb", .int lb tl)] = m := 
    funext fun z => kstB_eq (by simp only [List.forall_mem_cons, List.not_mem_nil, false_implies, implies_true, and_true]; exact ⟨f0, f1, f2, f3, f4, f5, f6⟩) fun _ => rfl
  rw [← e] at F
  conv =>
    arg 3
    arg 1
    whnf
  all_goals (try k_fold)
  k_steps
  all_goals (try dsimp only)
  · rename Fr _ _ _ _ => F'
    rename News _ _ _ _ => N'
    refine EndV.intro ⟨_, _, F', N', fun y h1 h2 => ?_, .inl ⟨rfl, by assumption, rfl, _, rfl⟩⟩
    rw [if_neg h2, e]
  · rename Fr _ _ _ _ => F'
    rename News _ _ _ _ => N'
    refine EndV.intro ⟨_, _, F', N', fun y h1 h2 => ?_, .inr (.inl ⟨rfl, by assumption, by omega, rfl, _, rfl⟩)⟩
    rw [if_neg h2, e]
  · rename Fr _ _ _ _ => F'
    rename News _ _ _ _ => N'
    rename _ - _ = 0 => h0
    rw [h0] at F'
    refine EndV.intro ⟨_, _, F', N', fun y h1 h2 => ?_, .inr (.inr ⟨rfl, by assumption, by omega, rfl, _, rfl⟩)⟩
    rw [if_neg h1, if_neg h2, e]
end
end Mine
/- MFB2 -/
namespace Mine
section
variable {w : World} {A : Around} {h₀ : Heap} {L : Addr} {s : Shared} {m : Str → Option Value} {news : List (Addr × Obj)} {mean : ExcName → Option Value} {mg mb : Str → Option Value} {loose : List Str} {Q : Flow → Shared → Prop}
  {x dx xw dw : Addr} {wd txt : Str} {sub res : Int} {u q : Nat → Tok} {c lb cm df : Int} {tc tl tk tcm tdf t1 : Tok} {cr li lbv bra ket : Value} {n : Nat} {rest : List (Addr × Obj)}

def FbForP (h₀ : Heap) (L : Addr) (m : Str → Option Value) (news : List (Addr × Obj)) (U R : List Nat) (f : Flow) (h' : Heap) : Prop :=
  f = .next ∧ ∃ m' n' d t t', Fr h₀ L h' m' ∧ News h₀ L h' news ∧ (∀ y, y ≠ Str.ofString "common" → y ≠ Str.ofString "diff" → y ≠ Str.ofString "i2" → m' y = m y) ∧
    m' (Str.ofString "common") = some (.int (n' : Nat) t) ∧ m' (Str.ofString "diff") = some (.int d t') ∧ Scan U R n' d

theorem fb_for (hh : A.handled = none) (X₀ : (K1 w.params).In h₀) (T : Top qv loose mean mg mb h₀) {cn : Nat}
  (F : Fr h₀ L s.heap m) (f1 : m (Str.ofString "common") = some (.int (cn : Nat) tcm)) (f2 : m (Str.ofString "diff") = some (.int 0 tdf))
  (f3 : m (Str.ofString "self") = some (.ref x)) (f4 : m (Str.ofString "w") = some (.ref xw)) (f5 : m (Str.ofString "c") = some (.int c tc)) (f6 : m (Str.ofString "lb") = some (.int lb tl))
  (hc0 : 0 ≤ c) (hc1 : c ≤ 1000) (hl0 : 0 ≤ lb) (hl1 : lb ≤ c) (hk2 : txt.length ≤ 1000)
  (hwd : (c : Int) ≤ wd.length)
  (hag : Agree (winB wd c lb) txt.cps.toList.reverse cn)
  (N : News h₀ L s.heap ((x, instObj 527 dx) :: (dx, dictOf (selfD w.params q (.str wd t1) cr li lbv bra ket) n) :: rest))
  (I : W.InstAt h₀ xw (amO dw) 220 (some (dictOf (amD w.params txt sub res u) 3)))
  : wpAny (model pw_ii0002_01 w) A (exec fbFor (envFB L)) (EndV s (FbForP h₀ L m ((x, instObj 527 dx) :: (dx, dictOf (selfD w.params q (.str wd t1) cr li lbv bra ket) n) :: rest) (winB wd c lb) txt.cps.toList.reverse)) (fun _ _ => False) s := by
  have hlen := winB_length (wd := wd) hl0 hl1 hwd
  have hrl := txtB_len txt
  have hcn1 := hag.1
  have hcn2 := hag.2.1
  have it := fb_iter (u := u) (sub := sub) (res := res) (txt := txt) (dw := dw) hh X₀ T F f1 f4 ⟨by omega, by omega⟩ hk2 N I
  have e0 : ∃ p1 p2, fbFor = .For (.Name (Str.ofString "i2") p1) (forIter fbFor) (whBody fbFor) [] p2 := ⟨_, _, rfl⟩
  obtain ⟨p1, p2, e0⟩ := e0
  rw [e0]
  refine For_invV h₀ rfl rfl (wpAny_mono it (fun v s₁ h1 => ?_) fun _ _ e => e)
  obtain ⟨h', tk1, rfl, r, ta, tb, td, rfl, F1, N1, hR⟩ := h1
  refine kst_rangeD (σ := Nat × Tok × Tok) (n := txt.length - cn) (fun _ => ((x, instObj 527 dx) :: (dx, dictOf (selfD w.params q (.str wd t1) cr li lbv bra ket) n) :: rest))
    (fun σ => [(Str.ofString "common", .int (σ.1 : Nat) σ.2.1), (Str.ofString "diff", .int 0 σ.2.2)]) (fun _ => True) []
    (fun pre σ => σ.1 = cn + pre.length ∧ Agree (winB wd c lb) txt.cps.toList.reverse σ.1) (cn, tcm, tdf) hh hR
    (small_down (by omega) (by omega) (by omega) (by omega)) ?_ F1 N1 trivial ?_ ⟨rfl, hag⟩ ?_ ?_
  · rw [rangeSize_downNat]; omega
  · intro p hp
    simp only [List.mem_cons, List.not_mem_nil, or_false] at hp
    rcases hp with rfl | rfl
    · exact f1
    · exact f2
  · rintro ⟨cm, t2, t3⟩ pre k tk uu h tk2 own hk hpre hoff _ ⟨hcm, hag'⟩ F2 N2
    dsimp only at hcm hag' F2
    have hb := hag'.1
    have hd := hag'.2.1
    have tn := fb_turn (A := A) (s := { s with heap := h, toks := tk2 }) (txt := txt) (sub := sub) (res := res) (u := u) (q := q) (c := c) (lb := lb) (wd := wd) (t1 := t1) (cr := cr) (li := li) (lbv := lbv) (bra := bra) (ket := ket) (n := n) (x := x) (dx := dx) (own := rest ++ own) (xw := xw) (dw := dw) X₀ T F2 rfl rfl rfl f3 f4 f5 f6 hc0 hc1 hl0 hl1 (by omega) (by omega) hk2 hwd (fun p hp => N2 p (by simpa using hp)) I
    refine wpAny_mono tn (fun f s₃ h3 => ?_) fun _ _ e => e
    obtain ⟨h3', tk3, rfl, m', tcm', F3, N3, hm, hcase⟩ := h3
    have hk' : k = (txt.length : Int) - 1 - cm := by omega
    have gu : cm < (winB wd c lb).length → (winB wd c lb)[cm]? = some ((Txt.item wd (c - 1 - cm)).cps.getD 0 0) := fun hlt => winB_get hl0 hl1 hwd (by omega)
    have gr : txt.cps.toList.reverse[cm]? = some ((Txt.item txt k).cps.getD 0 0) := by rw [hk']; exact txtB_get (by omega)
    have hm' : ∀ y, y ≠ Str.ofString "common" → y ≠ Str.ofString "diff" → y ≠ Str.ofString "i2" → m' y = m y := fun y a b d => by
      refine (hm y a b).trans ?_
      dsimp only
      rw [if_neg d]
      simp only [kstB, if_neg a, if_neg b]
      simp
    rcases hcase with ⟨rfl, hc, g1, t4, g2⟩ | ⟨rfl, hc, hne, g1, t4, g2⟩ | ⟨rfl, hc, heq, g1, t4, g2⟩
    · refine ⟨_, tk3, rfl, rfl, m', cm, -1, _, _, F3, fun p hp => N3 p (by simp only [List.mem_cons, List.mem_append] at hp ⊢; rcases hp with h | h | h <;> simp [h]), hm', g1, g2, hag', .inr (.inl ⟨by omega, by omega, rfl⟩)⟩
    · refine ⟨_, tk3, rfl, rfl, m', cm, _, _, _, F3, fun p hp => N3 p (by simp only [List.mem_cons, List.mem_append] at hp ⊢; rcases hp with h | h | h <;> simp [h]), hm', g1, g2, hag', .inr (.inr ⟨_, _, gu (by omega), gr, by omega, rfl⟩)⟩
    · refine ⟨_, tk3, m', _, ((x, instObj 527 dx) :: (dx, dictOf (selfD w.params q (.str wd t1) cr li lbv bra ket) n) :: rest), rfl, F3, N3, ?_, ?_, rfl, ⟨cm + 1, tcm', t4⟩, rfl, trivial, ?_, ?_, ?_, ?_⟩
      · intro p hp; simp only [List.mem_cons] at hp; rcases hp with h | h | h <;> simp [h]
      · intro p hp; simp [hp]
      · intro p hp
        simp only [List.mem_cons, List.not_mem_nil, or_false] at hp
        rcases hp with rfl | rfl
        · exact g1
        · exact g2
      · intro z hz hps _
        exact hm' z (hps _ (.head _)) (hps _ (.tail _ (.head _))) hz
      · dsimp only; rw [List.length_append]; simp; omega
      · dsimp only
        refine hag'.succ (a := (Txt.item txt k).cps.getD 0 0) ?_ gr
        rw [gu (by omega)]
        have : (Txt.item wd (c - 1 - cm)).cps.getD 0 0 = (Txt.item txt k).cps.getD 0 0 := by omega
        rw [this]
  · rintro ⟨cm, t2, t3⟩ uu h tk2 _ ⟨hcm, hag'⟩ F2 N2
    dsimp only at hcm hag' F2
    rw [downKs_length] at hcm
    refine ⟨_, tk2, rfl, rfl, _, cm, 0, _, _, F2, N2, ?_, rfl, rfl, hag', .inl ⟨by omega, rfl⟩⟩
    intro y a b d
    rw [if_neg d]
    show kstB _ [_, _] y = _
    simp only [kstB, if_neg a, if_neg b]
    simp
end
end Mine
/- MOrd -/
namespace Mine
/-- the order of the tables -/
def ltL : List Nat → List Nat → Bool
  | _, [] => false
  | [], _ :: _ => true
  | a :: x, b :: y => decide (a < b) || (decide (a = b) && ltL x y)
theorem ltL_nil_r (x : List Nat) : ltL x [] = false := by cases x <;> rfl
theorem ltL_cons {a b : Nat} {x y : List Nat} : ltL (a :: x) (b :: y) = true ↔ a < b ∨ (a = b ∧ ltL x y = true) := by simp [ltL]
theorem ltL_irrefl : ∀ x, ltL x x = false
  | [] => rfl
  | a :: x => by simp [ltL, ltL_irrefl x]
theorem ltL_trans : ∀ {x y z : List Nat}, ltL x y = true → ltL y z = true → ltL x z = true
  | _, [], _, h, _ => by rw [ltL_nil_r] at h; cases h
  | _, _ :: _, [], _, h => by rw [ltL_nil_r] at h; cases h
  | [], _ :: _, _ :: _, _, _ => rfl
  | a :: x, b :: y, c :: z, h1, h2 => by
    rw [ltL_cons] at h1 h2 ⊢
    rcases h1 with h1 | ⟨rfl, h1⟩ <;> rcases h2 with h2 | ⟨rfl, h2⟩
    · left; omega
    · left; exact h1
    · left; exact h2
    · right; exact ⟨rfl, ltL_trans h1 h2⟩
theorem ltL_total : ∀ {x y : List Nat}, ltL x y = false → ltL y x = true ∨ x = y
  | [], [], _ => .inr rfl
  | [], _ :: _, h => by cases h
  | _ :: _, [], _ => .inl rfl
  | a :: x, b :: y, h => by
    have h' : ¬ ltL (a :: x) (b :: y) = true := by rw [h]; decide
    rw [ltL_cons] at h'
    rcases Nat.lt_trichotomy a b with q | rfl | q
    · exact absurd (.inl q) h'
    · have : ltL x y = false := by
        cases e : ltL x y with
        | false => rfl
        | true => exact absurd (.inr ⟨rfl, e⟩) h'
      rcases ltL_total this with q | rfl
      · left; exact ltL_cons.mpr (.inr ⟨rfl, q⟩)
      · right; rfl
    · left; exact ltL_cons.mpr (.inl q)
/-- x ≤ y -/
theorem le_trans' {x y z : List Nat} (h1 : ltL y x = false) (h2 : ltL z y = false) : ltL z x = false := by
  cases e : ltL z x with
  | false => rfl
  | true =>
    rcases ltL_total h1 with q | rfl
    · rw [ltL_trans e q] at h2; cases h2
    · rw [e] at h2; cases h2
theorem lt_asymm' {x y : List Nat} (h : ltL x y = true) : ltL y x = false := by
  cases e : ltL y x with
  | false => rfl
  | true => have := ltL_trans h e; rw [ltL_irrefl] at this; cases this
theorem prefix_le : ∀ {x y : List Nat}, x <+: y → ltL y x = false
  | [], y, _ => ltL_nil_r y
  | a :: x, [], h => by have := h.length_le; simp at this
  | a :: x, b :: y, h => by
    obtain ⟨t, e⟩ := h
    rw [List.cons_append, List.cons.injEq] at e
    obtain ⟨rfl, e⟩ := e
    have := prefix_le (x := x) (y := y) ⟨t, e⟩
    cases q : ltL (a :: y) (a :: x) with
    | false => rfl
    | true =>
      rw [ltL_cons] at q
      rcases q with q | ⟨_, q⟩
      · omega
      · rw [this] at q; cases q
/-- between x and z that begin alike lies nothing that begins otherwise -/
theorem squeeze : ∀ (m : Nat) {x y z : List Nat}, ltL y x = false → ltL z y = false → x.take m = z.take m → m ≤ x.length → m ≤ z.length → m ≤ y.length ∧ y.take m = x.take m
  | 0, _, _, _, _, _, _, _, _ => by simp
  | m + 1, [], _, _, _, _, _, h, _ => by simp at h
  | m + 1, _ :: _, _, [], _, _, _, _, h => by simp at h
  | m + 1, a :: x, [], c :: z, h1, _, _, _, _ => by simp [ltL] at h1
  | m + 1, a :: x, b :: y, c :: z, h1, h2, h3, h4, h5 => by
    simp only [List.take_succ_cons, List.cons.injEq] at h3
    obtain ⟨rfl, h3⟩ := h3
    have n1 : ¬ (b < a ∨ (b = a ∧ ltL y x = true)) := fun q => by rw [ltL_cons.mpr q] at h1; cases h1
    have n2 : ¬ (a < b ∨ (a = b ∧ ltL z y = true)) := fun q => by rw [ltL_cons.mpr q] at h2; cases h2
    have : a = b := by omega
    subst this
    have e1 : ltL y x = false := by cases e : ltL y x with | false => rfl | true => exact absurd (.inr ⟨rfl, e⟩) n1
    have e2 : ltL z y = false := by cases e : ltL z y with | false => rfl | true => exact absurd (.inr ⟨rfl, e⟩) n2
    obtain ⟨l, t⟩ := squeeze m e1 e2 h3 (by simpa using h4) (by simpa using h5)
    exact ⟨by simpa using l, by simp [t]⟩
theorem scan_lt : ∀ {U R : List Nat} {n : Nat} {d : Int}, Scan U R n d → (d < 0 ↔ ltL U R = true)
  | U, [], n, d, h => by
    obtain ⟨⟨h1, h2, h3⟩, h⟩ := h
    have hn : n = 0 := by simpa using h2
    subst hn
    rw [ltL_nil_r]
    rcases h with ⟨_, rfl⟩ | ⟨h, _⟩ | ⟨a, b, _, h, _⟩
    · simp
    · simp at h
    · simp at h
  | [], b :: R, n, d, h => by
    obtain ⟨⟨h1, h2, h3⟩, h⟩ := h
    have hn : n = 0 := by simpa using h1
    subst hn
    rcases h with ⟨h, rfl⟩ | ⟨_, _, rfl⟩ | ⟨a, b', h, _⟩
    · simp at h
    · simp [ltL]
    · simp at h
  | a :: U, b :: R, 0, d, h => by
    obtain ⟨⟨h1, h2, h3⟩, h⟩ := h
    rw [ltL_cons]
    rcases h with ⟨h, rfl⟩ | ⟨_, h, _⟩ | ⟨a', b', e1, e2, hne, rfl⟩
    · simp at h
    · simp at h
    · simp at e1 e2
      subst e1 e2
      constructor
      · intro q; left; omega
      · rintro (q | ⟨q, _⟩)
        · omega
        · exact absurd q hne
  | a :: U, b :: R, n + 1, d, h => by
    obtain ⟨⟨h1, h2, h3⟩, h⟩ := h
    simp only [List.take_succ_cons, List.cons.injEq] at h3
    obtain ⟨rfl, h3⟩ := h3
    have s : Scan U R n d := ⟨⟨by simpa using h1, by simpa using h2, h3⟩, by simpa using h⟩
    rw [scan_lt s, ltL_cons]
    constructor
    · intro q; exact .inr ⟨rfl, q⟩
    · rintro (q | ⟨_, q⟩)
      · omega
      · exact q
theorem scan_prefix {U R x : List Nat} {n : Nat} {d : Int} (h : Scan U R n d) (hx : x <+: R) : x <+: U ↔ x.length ≤ n := by
  obtain ⟨⟨h1, h2, h3⟩, h⟩ := h
  rw [List.prefix_iff_eq_take] at hx ⊢
  constructor
  · intro e
    rcases Nat.lt_or_ge n x.length with q | q
    · exfalso
      have l1 : x.length ≤ U.length := by have := congrArg List.length e; rw [List.length_take] at this; omega
      have l2 : x.length ≤ R.length := by have := congrArg List.length hx; rw [List.length_take] at this; omega
      rcases h with ⟨h, _⟩ | ⟨_, h, _⟩ | ⟨a, b, ea, eb, hne, _⟩
      · omega
      · omega
      · have e1 : x[n]? = some a := by rw [e, List.getElem?_take, if_pos q, ea]
        have e2 : x[n]? = some b := by rw [hx, List.getElem?_take, if_pos q, eb]
        exact hne (Option.some.inj (e1.symm.trans e2))
    · exact q
  · intro q
    have : (U.take n).take x.length = (R.take n).take x.length := by rw [h3]
    rw [List.take_take, List.take_take, Nat.min_eq_left q] at this
    rw [this, ← hx]
/-- the keys of a table -/
abbrev key (K : List (List Nat)) (i : Nat) : List Nat := K.getD i []
def Sorted (K : List (List Nat)) : Prop := ∀ i j, i < j → j < K.length → ltL (key K i) (key K j) = true
theorem Sorted.le {K : List (List Nat)} (S : Sorted K) {i j : Nat} (h : i ≤ j) (hj : j < K.length) : ltL (key K j) (key K i) = false := by
  rcases Nat.lt_or_eq_of_le h with h | rfl
  · exact lt_asymm' (S i j h hj)
  · exact ltL_irrefl _
/-- what holds at the head of the search's turns -/
structure Inv (U : List Nat) (K : List (List Nat)) (i j ci cj : Nat) : Prop where
  lt : i < j
  le : j ≤ K.length
  room : 1 < j - i ∨ (i = 0 ∧ j = 1)
  lo : (i = 0 ∧ ci = 0) ∨ ∃ d, 0 ≤ d ∧ Scan U (key K i) ci d
  hi : (j = K.length ∧ cj = 0) ∨ (j < K.length ∧ ∃ d, d < 0 ∧ Scan U (key K j) cj d)
def Fin (U : List Nat) (K : List (List Nat)) (i ci : Nat) : Prop :=
  i < K.length ∧ (((∃ d, 0 ≤ d ∧ Scan U (key K i) ci d) ∧ (i + 1 < K.length → ltL U (key K (i + 1)) = true)) ∨ (i = 0 ∧ ci = 0 ∧ ltL U (key K 0) = true))
theorem Inv.agree {U : List Nat} {K : List (List Nat)} {i j ci cj k : Nat} (S : Sorted K) (I : Inv U K i j ci cj) (h1 : i ≤ k) (h2 : k < j) : Agree U (key K k) (min ci cj) := by
  rcases I.lo with ⟨_, rfl⟩ | ⟨d, hd, s⟩
  · simp [Agree]
  rcases I.hi with ⟨_, rfl⟩ | ⟨hj, d', hd', s'⟩
  · simp [Agree]
  have a := s.1
  have a' := s'.1
  have m1 : (key K i).take (min ci cj) = U.take (min ci cj) := by
    have := congrArg (List.take (min ci cj)) a.2.2
    rw [List.take_take, List.take_take, Nat.min_eq_left (Nat.min_le_left _ _)] at this
    exact this.symm
  have m2 : (key K j).take (min ci cj) = U.take (min ci cj) := by
    have := congrArg (List.take (min ci cj)) a'.2.2
    rw [List.take_take, List.take_take, Nat.min_eq_left (Nat.min_le_right _ _)] at this
    exact this.symm
  have l1 := a.1
  have l2 := a.2.1
  have l3 := a'.2.1
  obtain ⟨p, q⟩ := squeeze (min ci cj) (x := key K i) (y := key K k) (z := key K j) (S.le h1 (by omega)) (S.le (by omega) hj) (m1.trans m2.symm) (by omega) (by omega)
  exact ⟨by omega, p, by rw [q, m1]⟩
theorem key_oob {K : List (List Nat)} {i : Nat} (h : K.length ≤ i) : key K i = [] := by unfold key; simp [h]
/-- one turn of the search -/
theorem Inv.turn {U : List Nat} {K : List (List Nat)} {i j ci cj k cm : Nat} {d : Int} (S : Sorted K) (I : Inv U K i j ci cj) (hk : k = i + (j - i) / 2) (s : Scan U (key K k) cm d) :
    (d < 0 → (1 < k - i → Inv U K i k ci cm) ∧ (i < k → k - i ≤ 1 → (0 < i → Fin U K i ci) ∧ (i = 0 → Inv U K i k ci cm)) ∧ (k = i → Fin U K i ci)) ∧
    (¬ d < 0 → (1 < j - k → Inv U K k j cm cj) ∧ (j - k ≤ 1 → (Fin U K k cm) ∧ (k = 0 → Inv U K k j cm cj))) := by
  have l1 := I.lt
  have l2 := I.le
  have r := I.room
  refine ⟨fun hd => ⟨fun h => ⟨by omega, by omega, .inl h, I.lo, .inr ⟨by omega, d, hd, s⟩⟩, fun h1 h2 => ⟨fun h0 => ⟨by omega, .inl ⟨?_, fun _ => ?_⟩⟩, fun h0 => ⟨h1, by omega, .inr ⟨h0, by omega⟩, I.lo, .inr ⟨by omega, d, hd, s⟩⟩⟩, fun h => ⟨by omega, ?_⟩⟩,
    fun hd => ⟨fun h => ⟨by omega, l2, .inl h, .inr ⟨d, by omega, s⟩, I.hi⟩, fun h => ⟨⟨by omega, .inl ⟨⟨d, by omega, s⟩, fun h' => ?_⟩⟩, fun h0 => ⟨by omega, l2, .inr ⟨h0, by omega⟩, .inr ⟨d, by omega, s⟩, I.hi⟩⟩⟩⟩
  · rcases I.lo with ⟨h, _⟩ | h
    · omega
    · exact h
  · have : k = i + 1 := by omega
    rw [← this]
    exact (scan_lt s).mp hd
  · have hlt := (scan_lt s).mp hd
    have h0 : i = 0 := by omega
    subst h0
    rw [h] at hlt
    rcases I.lo with ⟨_, h2⟩ | ⟨d', hd', s'⟩
    · exact .inr ⟨rfl, h2, hlt⟩
    · exfalso
      have := (scan_lt s').mpr hlt
      omega
  · have hj : j = k + 1 := by omega
    rcases I.hi with ⟨e, _⟩ | ⟨_, d', hd', s'⟩
    · omega
    · rw [← hj]; exact (scan_lt s').mp hd'
/-- the links of a table -/
def Links (K : List (List Nat)) (sub : Nat → Int) : Prop := ∀ i, i < K.length →
  (sub i < 0 → ∀ p, p < K.length → key K p <+: key K i → p = i) ∧
  (0 ≤ sub i → (sub i).toNat < i ∧ key K (sub i).toNat <+: key K i ∧ ∀ p, p < K.length → key K p <+: key K i → p = i ∨ key K p <+: key K (sub i).toNat)
/-- what holds on the way down the links -/
structure Down (U : List Nat) (K : List (List Nat)) (ci i : Nat) : Prop where
  lt : i < K.length
  all : ∀ p, p < K.length → key K p <+: U → key K p <+: key K i
  iff : ∀ p, p < K.length → key K p <+: key K i → (key K p <+: U ↔ (key K p).length ≤ ci)
theorem Fin.down {U : List Nat} {K : List (List Nat)} {i ci : Nat} (S : Sorted K) (h : Fin U K i ci) : Down U K ci i := by
  obtain ⟨hi, h⟩ := h
  rcases h with ⟨⟨d, hd, s⟩, hn⟩ | ⟨rfl, rfl, hl⟩
  · refine ⟨hi, fun p hp hpu => ?_, fun p hp hpi => scan_prefix s hpi⟩
    have le1 := prefix_le hpu
    have hpi : p ≤ i := by
      rcases Nat.lt_or_ge i p with q | q
      · exfalso
        have h1 := hn (by omega)
        rcases Nat.lt_or_eq_of_le (show i + 1 ≤ p by omega) with q' | q'
        · rw [ltL_trans h1 (S _ _ q' hp)] at le1; cases le1
        · rw [← q', h1] at le1; cases le1
      · exact q
    have le2 : ltL U (key K i) = false := by
      cases e : ltL U (key K i) with
      | false => rfl
      | true => have := (scan_lt s).mpr e; omega
    obtain ⟨t, ht⟩ := hpu
    have := squeeze (key K p).length (x := key K p) (y := key K i) (z := U) (S.le hpi hi) le2 (by rw [← ht]; simp) (Nat.le_refl _) (by rw [← ht]; simp)
    rw [List.prefix_iff_eq_take, this.2, List.take_length]
  · have none : ∀ p, p < K.length → ¬ key K p <+: U := fun p hp hpu => by
      have le1 := prefix_le hpu
      rcases Nat.eq_zero_or_pos p with rfl | q
      · rw [hl] at le1; cases le1
      · rw [ltL_trans hl (S _ _ q hp)] at le1; cases le1
    refine ⟨hi, fun p hp hpu => absurd hpu (none p hp), fun p hp _ => ⟨fun hpu => absurd hpu (none p hp), fun h0 => ?_⟩⟩
    have : key K p = [] := by simpa using h0
    rw [this]; exact List.nil_prefix
/-- the longest entry that begins U -/
def Best (U : List Nat) (K : List (List Nat)) : Option Nat → Prop
  | some p => p < K.length ∧ key K p <+: U ∧ ∀ p', p' < K.length → key K p' <+: U → (key K p').length ≤ (key K p).length
  | none => ∀ p, p < K.length → ¬ key K p <+: U
theorem Down.here {U : List Nat} {K : List (List Nat)} {ci i : Nat} (D : Down U K ci i) (h : (key K i).length ≤ ci) : Best U K (some i) :=
  ⟨D.lt, (D.iff i D.lt (List.prefix_refl _)).mpr h, fun p hp hpu => (D.all p hp hpu).length_le⟩
theorem Down.stop {U : List Nat} {K : List (List Nat)} {ci i : Nat} {sub : Nat → Int} (L : Links K sub) (D : Down U K ci i) (h : ¬ (key K i).length ≤ ci) (hs : sub i < 0) : Best U K none := fun p hp hpu => by
  have := (L i D.lt).1 hs p hp (D.all p hp hpu)
  subst this
  exact h ((D.iff p hp (List.prefix_refl _)).mp hpu)
theorem Down.next {U : List Nat} {K : List (List Nat)} {ci i : Nat} {sub : Nat → Int} (L : Links K sub) (D : Down U K ci i) (h : ¬ (key K i).length ≤ ci) (hs : 0 ≤ sub i) : Down U K ci (sub i).toNat ∧ (sub i).toNat < i := by
  obtain ⟨l, pr, al⟩ := (L i D.lt).2 hs
  refine ⟨⟨Nat.lt_trans l D.lt, fun p hp hpu => ?_, fun p hp hpi => D.iff p hp (hpi.trans pr)⟩, l⟩
  rcases al p hp (D.all p hp hpu) with rfl | q
  · exact absurd ((D.iff p hp (List.prefix_refl _)).mp hpu) h
  · exact q
theorem Best.unique {U : List Nat} {K : List (List Nat)} (S : Sorted K) {a b : Option Nat} (ha : Best U K a) (hb : Best U K b) : a = b := by
  cases a with
  | none =>
    cases b with
    | none => rfl
    | some q => exact absurd hb.2.1 (ha q hb.1)
  | some p =>
    cases b with
    | none => exact absurd ha.2.1 (hb p ha.1)
    | some q =>
      have e : (key K p).length = (key K q).length := Nat.le_antisymm (hb.2.2 p ha.1 ha.2.1) (ha.2.2 q hb.1 hb.2.1)
      have k : key K p = key K q := by
        have h1 := List.prefix_iff_eq_take.mp ha.2.1
        have h2 := List.prefix_iff_eq_take.mp hb.2.1
        rw [h1, h2, e]
      rcases Nat.lt_trichotomy p q with h | rfl | h
      · have := S p q h hb.1; rw [k, ltL_irrefl] at this; cases this
      · rfl
      · have := S q p h ha.1; rw [k, ltL_irrefl] at this; cases this
/-- decidable looks -/
def sortedB : List (List Nat) → Bool
  | [] => true
  | [_] => true
  | a :: b :: r => ltL a b && sortedB (b :: r)
theorem sortedB_head : ∀ {a : List Nat} {r : List (List Nat)}, sortedB (a :: r) = true → ∀ j, j < r.length → ltL a (key r j) = true
  | a, [], _, j, hj => by simp at hj
  | a, b :: r, h, 0, _ => by simp only [sortedB, Bool.and_eq_true] at h; exact h.1
  | a, b :: r, h, j + 1, hj => by
    simp only [sortedB, Bool.and_eq_true] at h
    exact ltL_trans h.1 (sortedB_head h.2 j (by simpa using hj))
theorem sortedB_tail {a : List Nat} {r : List (List Nat)} (h : sortedB (a :: r) = true) : sortedB r = true := by
  cases r with
  | nil => rfl
  | cons b r => simp only [sortedB, Bool.and_eq_true] at h; exact h.2
theorem sorted_of : ∀ {K : List (List Nat)}, sortedB K = true → Sorted K
  | [], _ => fun i j _ hj => by simp at hj
  | a :: r, h => fun i j hij hj => by
    cases j with
    | zero => omega
    | succ j =>
      cases i with
      | zero => exact sortedB_head h j (by simpa using hj)
      | succ i => exact sorted_of (sortedB_tail h) i j (by omega) (by simpa using hj)
def linksB (K : List (List Nat)) (sub : Nat → Int) : Bool := (List.range K.length).all fun i =>
  if sub i < 0 then (List.range K.length).all fun p => !(key K p).isPrefixOf (key K i) || p == i
  else decide ((sub i).toNat < i) && (key K (sub i).toNat).isPrefixOf (key K i) && (List.range K.length).all fun p => !(key K p).isPrefixOf (key K i) || p == i || (key K p).isPrefixOf (key K (sub i).toNat)
theorem links_of {K : List (List Nat)} {sub : Nat → Int} (h : linksB K sub = true) : Links K sub := fun i hi => by
  have h := List.all_eq_true.mp h i (List.mem_range.mpr hi)
  refine ⟨fun hs p hp hpr => ?_, fun hs => ?_⟩
  · rw [if_pos hs] at h
    have := List.all_eq_true.mp h p (List.mem_range.mpr hp)
    simp only [Bool.or_eq_true, Bool.not_eq_true', beq_iff_eq] at this
    rcases this with q | q
    · rw [List.isPrefixOf_iff_prefix.mpr hpr] at q; cases q
    · exact q
  · rw [if_neg (by omega)] at h
    simp only [Bool.and_eq_true, decide_eq_true_eq, List.isPrefixOf_iff_prefix] at h
    refine ⟨h.1.1, h.1.2, fun p hp hpr => ?_⟩
    have := List.all_eq_true.mp h.2 p (List.mem_range.mpr hp)
    simp only [Bool.or_eq_true, Bool.not_eq_true', beq_iff_eq, List.isPrefixOf_iff_prefix] at this
    rcases this with (q | q) | q
    · rw [List.isPrefixOf_iff_prefix.mpr hpr] at q; cases q
    · exact .inl q
    · exact .inr q
end Mine
/- MTab -/
namespace Mine
theorem tick_MTab {M : Model} {A : Around} {env : Env} {p : Pos} {Q : Bool → Shared → Prop} {E : Value → Shared → Prop} {s : Shared} (h : Q true s) : wpAny M A (isTrue (.Constant (.bool true) 0 p) env (eval (.Constant (.bool true) 0 p) env)) Q E s := by
  all_goals (try k_fold)
  k_steps
  exact h
structure Ent where
  txt : Str
  sub : Int
  res : Int
structure TabIs (P : Params) (h : Heap) (tb : Addr) (vs : List Value) (T : List Ent) : Prop where
  list : h.IsList tb vs.toArray
  len : vs.length = T.length
  item : ∀ (i : Nat) (e : Ent), T[i]? = Option.some e → ∃ x dw u, vs[i]? = Option.some (Value.ref x) ∧ W.InstAt h x (amO dw) 220 (some (dictOf (amD P e.txt e.sub e.res u) 3))
  few : T.length ≤ 100
  pos : 0 < T.length
  small : ∀ e ∈ T, e.txt.length ≤ 100
  subs : ∀ e ∈ T, e.sub < 100
theorem TabIs.keeps {P : Params} {h h' : Heap} {tb : Addr} {vs : List Value} {T : List Ent} (t : TabIs P h tb vs T) (k : ∀ b o, h.get? b = some o → h'.get? b = some o) : TabIs P h' tb vs T := by
  refine ⟨?_, t.len, fun i e he => ?_, t.few, t.pos, t.small, t.subs⟩
  · obtain ⟨o, ho, r⟩ := t.list; exact ⟨o, k _ _ ho, r⟩
  · obtain ⟨x, dw, u, a, b, c, d, f⟩ := t.item i e he
    exact ⟨x, dw, u, a, k _ _ b, c, d, k _ _ f⟩
def keysB (T : List Ent) : List (List Nat) := T.map fun e => e.txt.cps.toList.reverse
def keysF (T : List Ent) : List (List Nat) := T.map fun e => e.txt.cps.toList
theorem keysB_get {T : List Ent} {i : Nat} {e : Ent} (h : T[i]? = some e) : key (keysB T) i = e.txt.cps.toList.reverse := by
  simp [key, keysB, List.getElem?_map, h]
theorem keysF_get {T : List Ent} {i : Nat} {e : Ent} (h : T[i]? = some e) : key (keysF T) i = e.txt.cps.toList := by
  simp [key, keysF, List.getElem?_map, h]
theorem keysB_len (T : List Ent) : (keysB T).length = T.length := by simp [keysB]
theorem keysF_len (T : List Ent) : (keysF T).length = T.length := by simp [keysF]
def subOf (T : List Ent) (i : Nat) : Int := (T[i]?.map (·.sub)).getD (-1)
theorem wTrue {M : Model} {A : Around} {env : Env} {p : Pos} {Q : Bool → Shared → Prop} {E : Value → Shared → Prop} {s : Shared} (h : Q true s) : wpAny M A (isTrue (.Constant (.bool true) 0 p) env (eval (.Constant (.bool true) 0 p) env)) Q E s := by
  all_goals (try k_fold)
  k_steps
  exact h
end Mine
/- MFB3 -/
namespace Mine
theorem tick_MFB3 {M : Model} {A : Around} {env : Env} {p : Pos} {Q : Bool → Shared → Prop} {E : Value → Shared → Prop} {s : Shared} (h : Q true s) : wpAny M A (isTrue (.Constant (.bool true) 0 p) env (eval (.Constant (.bool true) 0 p) env)) Q E s := by
  all_goals (try k_fold)
  k_steps
  exact h
theorem reg_K3 : rw_ii0002_01 = rw_ii0002_01 ∧ K1 = K1 := by
  k_fill
  exact ⟨rfl, rfl⟩
theorem execs_app {M : Model} {A : Around} {E : Value → Shared → Prop} {env : Env} {Q : Flow → Shared → Prop} : ∀ (l : List Stmt) {rest : List Stmt} {s : Shared},
    wpAny M A (execs l env) (fun f s' => match f with | .next => wpAny M A (execs rest env) Q E s' | f => Q f s') E s → wpAny M A (execs (l ++ rest) env) Q E s := by
  have key : ∀ (l rest : List Stmt), execs (l ++ rest) env = (execs l env).bind fun f => match f with | .next => execs rest env | f => pure f := by
    intro l rest
    induction l with
    | nil => rfl
    | cons a l ih =>
      rw [List.cons_append, execs_cons, execs_cons, ih]
      show (exec a env).bind _ = ((exec a env).bind _).bind _
      rw [Sem.bind_assoc]
      congr 1
      funext f
      cases f <;> rfl
  intro l rest s h
  rw [key]
  exact wpAny_bind (wpAny_mono h (fun f s' h' => by cases f <;> first | exact h' | exact wpAny_pure h') fun _ _ e => e)
theorem item_tab {prog : Program} {w : World} {A : Around} {E : Value → Shared → Prop} {s : Shared} {value slice : PySem.Expr} {h₀ : Heap} {L : Addr} {m : Str → Option Value} {l : Addr} {vs : List Value} {k : Int} {u : Tok} {Q : Value → Shared → Prop}
    (hl : h₀.IsList l vs.toArray) (F : Fr h₀ L s.heap m) (h0 : 0 ≤ k) (hhi : k < (vs.length : Int)) (hb : vs.length ≤ 1000) (h : ∀ v, vs[k.toNat]? = some v → Q v s)
    (hs : subscripted slice false (.ref l) (.int k u) = operate [.ref l, .int k u] (getItem (.ref l) (.int k u)) := by with_unfolding_all rfl) :
    wpAny (model prog w) A (subscriptTail value slice (.ref l) (.int k u)) Q E s := by
  obtain ⟨v, hv⟩ : ∃ v, vs[k.toNat]? = some v := ⟨vs[k.toNat]'(by omega), by simp⟩
  have hl' : s.heap.IsList l vs.toArray := by obtain ⟨o, ho, r⟩ := hl; exact ⟨o, F.keep _ _ ho, r⟩
  exact tail_any hl'.typeIs slot_list_getitem.lookup (wpAny_getItem_list hl' h0 (by omega) (by simpa using hv) (h v hv)) hs
local macro_rules | `(tactic| walk_at "getAttr ref") => `(tactic| (k_here; k_dflt (refine' get_own ?k1 ?k2 ?k3 ?k4 ?k5 ?k6 ?k7 ?k8 ?k9 ?_; (case k1 => k_asm); (case k2 => k_asm); (case k3 => exact inst_up (by assumption) (by k_asm)); (case k4 => k_is); (case k5 => k_is); (case k6 => k_is); (case k7 => k_is); (case k8 => k_get); (case k9 => k_handed); k_whole)))
theorem fdiv2 (a : Int) : a.fdiv (2 ^ (1 : Int).toNat) = a / 2 := by
  show a.fdiv 2 = a / 2
  exact Int.fdiv_eq_ediv_of_nonneg a (by decide)
local macro_rules | `(tactic| walk_at "subscriptTail") => `(tactic| (k_here; (with_reducible show wpAny _ _ (subscriptTail _ _ (Value.ref _) (Value.int _ _)) _ _ _); (with_unfolding_all refine' item_tab ?k1 ?k2 ?k3 ?k4 ?k5 ?_ ?k6; (case k1 => assumption); (case k2 => k_asm); (case k3 => simp only [fdiv2]; omega); (case k4 => simp only [fdiv2]; omega); (case k5 => assumption); (case k6 => with_unfolding_all rfl); k_whole; intro v' hv')))
local macro_rules | `(tactic| walk_at "call builtin:min") => `(tactic| (k_here; refine' min_two_N (by assumption) (by k_asm) (by k_asm) ?_; intro h' tk' F' N'))

def fbA : List Stmt := (whBody fbW1).take 4
section
variable {w : World} {A : Around} {h₀ : Heap} {L : Addr} {s : Shared} {m : Str → Option Value} {news : List (Addr × Obj)} {mean : ExcName → Option Value} {mg mb : Str → Option Value} {loose : List Str} {Q : Flow → Shared → Prop}
  {x dx xw dw tb : Addr} {wd txt : Str} {sub res : Int} {u q : Nat → Tok} {c lb cm df i j ci cj : Int} {tc tl tk tcm tdf t1 ti tj tci tcj : Tok} {cr li lbv bra ket : Value} {n : Nat} {vs : List Value}

def FbHeadP (h₀ : Heap) (L : Addr) (m : Str → Option Value) (news : List (Addr × Obj)) (i j ci cj : Int) (vs : List Value) (f : Flow) (h' : Heap) : Prop :=
  f = .next ∧ ∃ m' v t1 t2 t3, Fr h₀ L h' m' ∧ News h₀ L h' news ∧ (∀ y, y ≠ Str.ofString "common" → y ≠ Str.ofString "diff" → y ≠ Str.ofString "k" → y ≠ Str.ofString "w" → m' y = m y) ∧
    m' (Str.ofString "k") = some (.int (i + (j - i) / 2) t1) ∧ m' (Str.ofString "diff") = some (.int 0 t2) ∧ m' (Str.ofString "common") = some (.int (if cj < ci then cj else ci) t3) ∧ m' (Str.ofString "w") = some v ∧ vs[(i + (j - i) / 2).toNat]? = some v

theorem fb_head (hh : A.handled = none) (X₀ : (K1 w.params).In h₀) (T : Top qv loose mean mg mb h₀)
  (F : Fr h₀ L s.heap m) (f1 : m (Str.ofString "i") = some (.int i ti)) (f2 : m (Str.ofString "j") = some (.int j tj)) (f3 : m (Str.ofString "common_i") = some (.int ci tci)) (f4 : m (Str.ofString "common_j") = some (.int cj tcj)) (f5 : m (Str.ofString "v") = some (.ref tb))
  (hl : h₀.IsList tb vs.toArray) (hn : vs.length ≤ 1000) (h0 : 0 ≤ i) (h1 : i < j) (h2 : j ≤ vs.length) (h3 : 0 ≤ ci ∧ ci ≤ 1000) (h4 : 0 ≤ cj ∧ cj ≤ 1000)
  (N : News h₀ L s.heap news)
  : wpAny (model pw_ii0002_01 w) A (execs fbA (envFB L)) (EndV s (FbHeadP h₀ L m news i j ci cj vs)) (fun _ _ => False) s := by
  have e : kstB m [(Str.ofString "i", .int i ti), (Str.ofString "j", .int j tj), (Str.ofString "common_i", .int ci tci), (Str.ofString "common_j", .int cj tcj), (Str.ofString "v", .ref tb)] = m := 
    funext fun z => kstB_eq (by simp only [List.forall_mem_cons, List.not_mem_nil, false_implies, implies_true, and_true]; exact ⟨f1, f2, f3, f4, f5⟩) fun _ => rfl
  rw [← e] at F
  conv =>
    arg 3
    arg 1
    whnf
  simp only [List.take_succ_cons, List.take_zero]
  all_goals (try k_fold)
  k_steps
  rename Fr _ _ _ _ => F'
  rename News _ _ _ _ => N'
  rename _ = some _ => hv
  rw [fdiv2] at F' hv
  refine EndV.intro ⟨rfl, _, _, _, _, _, F', N', fun y a1 a2 a3 a4 => ?_, rfl, rfl, rfl, rfl, hv⟩
  dsimp only
  rw [if_neg a4, if_neg a1, if_neg a2, if_neg a3, e]

/-- the two ifs behind the inner loop -/
def fbB : List Stmt := (whBody fbW1).drop 5
def FbTailP (h₀ : Heap) (L : Addr) (m : Str → Option Value) (news : List (Addr × Obj)) (i j k cm d ci cj : Int) (b : Bool) (f : Flow) (h' : Heap) : Prop :=
  ∃ m' i' j' ci' cj' b' t1 t2 t3 t4, Fr h₀ L h' m' ∧ News h₀ L h' news ∧ (∀ y, y ≠ Str.ofString "i" → y ≠ Str.ofString "j" → y ≠ Str.ofString "common_i" → y ≠ Str.ofString "common_j" → y ≠ Str.ofString "first_key_inspected" → m' y = m y) ∧
    m' (Str.ofString "i") = some (.int i' t1) ∧ m' (Str.ofString "j") = some (.int j' t2) ∧ m' (Str.ofString "common_i") = some (.int ci' t3) ∧ m' (Str.ofString "common_j") = some (.int cj' t4) ∧ m' (Str.ofString "first_key_inspected") = some (.bool b') ∧
    ((d < 0 ∧ i' = i ∧ j' = k ∧ ci' = ci ∧ cj' = cm) ∨ (¬ d < 0 ∧ i' = k ∧ j' = j ∧ ci' = cm ∧ cj' = cj)) ∧
    ((f = .brk ∧ j' - i' ≤ 1 ∧ (0 < i' ∨ j' = i' ∨ b = true)) ∨ (f = .next ∧ j' - i' ≤ 1 ∧ i' ≤ 0 ∧ j' ≠ i' ∧ b = false ∧ b' = true) ∨ (f = .next ∧ 1 < j' - i' ∧ b' = b))
theorem fb_tail (hh : A.handled = none) (X₀ : (K1 w.params).In h₀) (T : Top qv loose mean mg mb h₀) {k : Int} {b : Bool}
  (F : Fr h₀ L s.heap m) (f1 : m (Str.ofString "i") = some (.int i ti)) (f2 : m (Str.ofString "j") = some (.int j tj)) (f3 : m (Str.ofString "common_i") = some (.int ci tci)) (f4 : m (Str.ofString "common_j") = some (.int cj tcj))
  (f6 : m (Str.ofString "k") = some (.int k tk)) (f7 : m (Str.ofString "diff") = some (.int df tdf)) (f8 : m (Str.ofString "common") = some (.int cm tcm)) (f9 : m (Str.ofString "first_key_inspected") = some (.bool b)) 
  (h0 : 0 ≤ i) (h1 : i < j) (h2 : j ≤ 1000) (h3 : 0 ≤ ci ∧ ci ≤ 1000) (h4 : 0 ≤ cj ∧ cj ≤ 1000) (h5 : i ≤ k ∧ k < j)
  (N : News h₀ L s.heap news)
  : wpAny (model pw_ii0002_01 w) A (execs fbB (envFB L)) (EndV s (FbTailP h₀ L m news i j k cm df ci cj b)) (fun _ _ => False) s := by
  have e : kstB m [(Str.ofString "i", .int i ti), (Str.ofString "j", .int j tj), (Str.ofString "common_i", .int ci tci), (Str.ofString "common_j", .int cj tcj), (Str.ofString "k", .int k tk), (Str.ofString "diff", .int df tdf), (Str.ofString "common", .int cm tcm), (Str.ofString "first_key_inspected", .bool b)] = m := 
    funext fun z => kstB_eq (by simp only [List.forall_mem_cons, List.not_mem_nil, false_implies, implies_true, and_true]; exact ⟨f1, f2, f3, f4, f6, f7, f8, f9⟩) fun _ => rfl
  rw [← e] at F
  conv =>
    arg 3
    arg 1
    whnf
  all_goals (try k_fold)
  k_steps
  all_goals (try dsimp only)
  all_goals (
    show EndV s _ _ _
    rename Fr _ _ _ _ => F'
    rename News _ _ _ _ => N'
    refine EndV.intro ⟨_, _, _, _, _, _, _, _, _, _, F', N', fun y a1 a2 a3 a4 a5 => ?_, rfl, rfl, rfl, rfl, rfl, ?_, ?_⟩)
  all_goals first
    | ((try dsimp only); simp only [if_neg a1, if_neg a2, if_neg a3, if_neg a4, if_neg a5]; rw [e])
    | exact .inl ⟨by assumption, rfl, rfl, rfl, rfl⟩
    | exact .inr ⟨by assumption, rfl, rfl, rfl, rfl⟩
    | exact .inl ⟨rfl, by assumption, .inl (by assumption)⟩
    | exact .inl ⟨rfl, by assumption, .inr (.inl (by assumption))⟩
    | exact .inl ⟨rfl, by assumption, .inr (.inr (by assumption))⟩
    | exact .inr (.inl ⟨rfl, by assumption, by omega, by assumption, by simpa using (by assumption), rfl⟩)
    | exact .inr (.inr ⟨rfl, by omega, rfl⟩)
end
end Mine
/- MFB4 -/
namespace Mine
structure Sg where
  i : Nat
  j : Nat
  ci : Nat
  cj : Nat
  ti : Tok
  tj : Tok
  tci : Tok
  tcj : Tok
  b : Bool
def Sg.ps (g : Sg) : List (Str × Value) := [(Str.ofString "i", .int (g.i : Nat) g.ti), (Str.ofString "j", .int (g.j : Nat) g.tj), (Str.ofString "common_i", .int (g.ci : Nat) g.tci), (Str.ofString "common_j", .int (g.cj : Nat) g.tcj), (Str.ofString "first_key_inspected", .bool g.b)]
def Sg.mu (g : Sg) : Nat := 2 * (g.j - g.i) + (if g.b then 0 else 1)
def w1Names : List Str := [Str.ofString "k", Str.ofString "diff", Str.ofString "common", Str.ofString "w", Str.ofString "i2"]
section
variable {w : World} {A : Around} {h₀ : Heap} {L : Addr} {s : Shared} {m : Str → Option Value} {news : List (Addr × Obj)} {mean : ExcName → Option Value} {mg mb : Str → Option Value} {loose : List Str} {Q : Flow → Shared → Prop}
  {x dx xw dw tb : Addr} {wd txt : Str} {sub res : Int} {u q : Nat → Tok} {c lb cm df i j ci cj : Int} {tc tl tk tcm tdf t1 ti tj tci tcj tb1 : Tok} {cr li lbv bra ket : Value} {n : Nat} {rest : List (Addr × Obj)} {vs : List Value} {Ts : List Ent}

def FbLoop1P (h₀ : Heap) (L : Addr) (m : Str → Option Value) (news : List (Addr × Obj)) (U : List Nat) (K : List (List Nat)) (f : Flow) (h' : Heap) : Prop :=
  f = .next ∧ ∃ m' i ci t1 t2, Fr h₀ L h' m' ∧ News h₀ L h' news ∧ (∀ y, y ≠ Str.ofString "i" → y ≠ Str.ofString "j" → y ≠ Str.ofString "common_i" → y ≠ Str.ofString "common_j" → y ≠ Str.ofString "first_key_inspected" → w1Names.contains y = false → m' y = m y) ∧
    m' (Str.ofString "i") = some (.int (i : Nat) t1) ∧ m' (Str.ofString "common_i") = some (.int (ci : Nat) t2) ∧ Fin U K i ci

theorem fb_w1_split : whBody fbW1 = fbA ++ fbFor :: fbB := by rfl
theorem fb_w1_is : ∃ p1 p2, fbW1 = .While (.Constant (.bool true) 0 p1) (whBody fbW1) [] p2 := ⟨_, _, rfl⟩

theorem mu_up0 {i j k : Nat} (hk : i + (j - i) / 2 = k) : 2 * (j - k) < 2 * (j - i) + 1 := by omega
theorem mu_dn0 {i j k : Nat} (hk : i + (j - i) / 2 = k) : 2 * (k - i) < 2 * (j - i) + 1 := by omega
theorem mu_dn {i j k : Nat} {c : Nat} (hk : i + (j - i) / 2 = k) (h : (1 : Int) < (k : Int) - i) : 2 * (k - i) + c < 2 * (j - i) + c := by omega
theorem mu_up {i j k : Nat} {c : Nat} (hk : i + (j - i) / 2 = k) (h : (1 : Int) < (j : Int) - k) : 2 * (j - k) + c < 2 * (j - i) + c := by omega
theorem fb_loop1 (hh : A.handled = none) (X₀ : (K1 w.params).In h₀) (T : Top qv loose mean mg mb h₀) (Tb : TabIs w.params h₀ tb vs Ts) (S : Sorted (keysB Ts))
  (F : Fr h₀ L s.heap m) (f1 : m (Str.ofString "i") = some (.int 0 ti)) (f2 : m (Str.ofString "j") = some (.int (Ts.length : Nat) tj)) (f3 : m (Str.ofString "common_i") = some (.int 0 tci)) (f4 : m (Str.ofString "common_j") = some (.int 0 tcj)) (f5 : m (Str.ofString "first_key_inspected") = some (.bool false))
  (f6 : m (Str.ofString "self") = some (.ref x)) (f7 : m (Str.ofString "v") = some (.ref tb)) (f8 : m (Str.ofString "c") = some (.int c tc)) (f9 : m (Str.ofString "lb") = some (.int lb tl))
  (hc0 : 0 ≤ c) (hc1 : c ≤ 1000) (hl0 : 0 ≤ lb) (hl1 : lb ≤ c) (hwd : (c : Int) ≤ wd.length)
  (N : News h₀ L s.heap ((x, instObj 527 dx) :: (dx, dictOf (selfD w.params q (.str wd t1) cr li lbv bra ket) n) :: rest))
  : wpAny (model pw_ii0002_01 w) A (exec fbW1 (envFB L)) (EndV s (FbLoop1P h₀ L m ((x, instObj 527 dx) :: (dx, dictOf (selfD w.params q (.str wd t1) cr li lbv bra ket) n) :: rest) (winB wd c lb) (keysB Ts))) (fun _ _ => False) s := by
  obtain ⟨p1, p2, e0⟩ := fb_w1_is
  rw [e0]
  have hvl := Tb.len
  have hfew := Tb.few
  have hpos := Tb.pos
  have kl := keysB_len Ts
  refine ksw_while (σ := Sg) (fun _ => ((x, instObj 527 dx) :: (dx, dictOf (selfD w.params q (.str wd t1) cr li lbv bra ket) n) :: rest)) Sg.ps (fun _ => True) w1Names
    (fun g => Inv (winB wd c lb) (keysB Ts) g.i g.j g.ci g.cj ∧ (g.b = true → g.i = 0 ∧ g.j = 1)) Sg.mu ⟨0, Ts.length, 0, 0, ti, tj, tci, tcj, false⟩ F N trivial ?_ ?_ ?_
  · intro p hp
    simp only [Sg.ps, List.mem_cons, List.not_mem_nil, or_false] at hp
    rcases hp with rfl | rfl | rfl | rfl | rfl
    · exact f1
    · exact f2
    · exact f3
    · exact f4
    · exact f5
  · exact ⟨⟨hpos, by show Ts.length ≤ _; omega, by dsimp only; omega, .inl ⟨rfl, rfl⟩, .inl ⟨kl.symm, rfl⟩⟩, fun e => by cases e⟩
  · rintro ⟨i, j, ci, cj, ti, tj, tci, tcj, b⟩ uu h tk _ ⟨hI, hB⟩ F1 N1
    dsimp only at hI hB F1
    refine wTrue ?_
    rw [if_pos rfl, fb_w1_split]
    refine execs_app fbA ?_
    have I1 := hI.lt
    have I2 := hI.le
    have lo : ci ≤ 100 := by
      rcases hI.lo with ⟨_, e⟩ | ⟨d, _, s'⟩
      · omega
      · have h1 := s'.1.2.1
        obtain ⟨e, he⟩ : ∃ e, Ts[i]? = some e := ⟨_, List.getElem?_eq_getElem (by omega)⟩
        rw [keysB_get he, txtB_len] at h1
        have := Tb.small e (List.mem_of_getElem? he)
        omega
    have hi : cj ≤ 100 := by
      rcases hI.hi with ⟨_, e⟩ | ⟨hj, d, _, s'⟩
      · omega
      · have h1 := s'.1.2.1
        obtain ⟨e, he⟩ : ∃ e, Ts[j]? = some e := ⟨_, List.getElem?_eq_getElem (by omega)⟩
        rw [keysB_get he, txtB_len] at h1
        have := Tb.small e (List.mem_of_getElem? he)
        omega
    have hd := fb_head (A := A) (s := { s with heap := h, toks := tk }) (i := (i : Nat)) (j := (j : Nat)) (ci := (ci : Nat)) (cj := (cj : Nat)) (vs := vs) (tb := tb) hh X₀ T F1 rfl rfl rfl rfl f7 Tb.list (by omega) (by omega) (by omega) (by omega) (by omega) (by omega) N1
    refine wpAny_mono hd (fun f s₂ h2 => ?_) fun _ _ e => e.elim
    obtain ⟨h', tk', rfl, rfl, m', v, t2, t3, t4, F2, N2, hm2, g1, g2, g3, g4, g5⟩ := h2
    dsimp only
    generalize hk : i + (j - i) / 2 = k at *
    have ek : ((i : Int) + ((j : Int) - (i : Int)) / 2) = (k : Int) := by omega
    rw [ek] at g1 g5
    obtain ⟨e, he⟩ : ∃ e, Ts[k]? = some e := ⟨_, List.getElem?_eq_getElem (by omega)⟩
    obtain ⟨xw, dw, u, hv, hI2⟩ := Tb.item k e he
    rw [Int.toNat_natCast, hv] at g5
    cases g5
    have em : (if (cj : Int) < (ci : Int) then (cj : Int) else (ci : Int)) = ((min ci cj : Nat) : Int) := by
      rw [Nat.min_def]; split <;> split <;> omega
    rw [em] at g3
    have ag : Agree (winB wd c lb) (key (keysB Ts) k) (min ci cj) := hI.agree S (by omega) (by omega)
    rw [keysB_get he] at ag
    have hsm := Tb.small e (List.mem_of_getElem? he)
    refine wpAny_execs_cons ?_
    have ff := fb_for (A := A) (s := { s with heap := h', toks := tk' }) (txt := e.txt) (sub := e.sub) (res := e.res) (u := u) (q := q) (c := c) (lb := lb) (wd := wd) (t1 := t1) (cr := cr) (li := li) (lbv := lbv) (bra := bra) (ket := ket) (n := n) (x := x) (dx := dx) (xw := xw) (dw := dw) hh X₀ T F2 g3 g2
      ((hm2 _ (by decide) (by decide) (by decide) (by decide)).trans f6) g4 ((hm2 _ (by decide) (by decide) (by decide) (by decide)).trans f8) ((hm2 _ (by decide) (by decide) (by decide) (by decide)).trans f9) hc0 hc1 hl0 hl1 (by omega) hwd ag N2 hI2
    refine wpAny_mono ff (fun f s₃ h3 => ?_) fun _ _ e => e.elim
    obtain ⟨h3', tk3, rfl, rfl, m3, n', d, t5, t6, F3, N3, hm3, k1, k2, sc⟩ := h3
    dsimp only
    rw [← keysB_get he] at sc
    have c1 : m3 (Str.ofString "i") = some (.int (i : Nat) ti) := (hm3 _ (by decide) (by decide) (by decide)).trans ((hm2 _ (by decide) (by decide) (by decide) (by decide)).trans rfl)
    have c2 : m3 (Str.ofString "j") = some (.int (j : Nat) tj) := (hm3 _ (by decide) (by decide) (by decide)).trans ((hm2 _ (by decide) (by decide) (by decide) (by decide)).trans rfl)
    have c3 : m3 (Str.ofString "common_i") = some (.int (ci : Nat) tci) := (hm3 _ (by decide) (by decide) (by decide)).trans ((hm2 _ (by decide) (by decide) (by decide) (by decide)).trans rfl)
    have c4 : m3 (Str.ofString "common_j") = some (.int (cj : Nat) tcj) := (hm3 _ (by decide) (by decide) (by decide)).trans ((hm2 _ (by decide) (by decide) (by decide) (by decide)).trans rfl)
    have c5 : m3 (Str.ofString "first_key_inspected") = some (.bool b) := (hm3 _ (by decide) (by decide) (by decide)).trans ((hm2 _ (by decide) (by decide) (by decide) (by decide)).trans rfl)
    have c6 : m3 (Str.ofString "k") = some (.int (k : Nat) t2) := (hm3 _ (by decide) (by decide) (by decide)).trans g1
    have tl' := fb_tail (A := A) (s := { s with heap := h3', toks := tk3 }) (i := (i : Nat)) (j := (j : Nat)) (ci := (ci : Nat)) (cj := (cj : Nat)) (k := (k : Nat)) (cm := (n' : Nat)) (df := d) (b := b) hh X₀ T F3 c1 c2 c3 c4 c6 k2 k1 c5 (by omega) (by omega) (by omega) (by omega) (by omega) (by omega) N3
    refine wpAny_mono tl' (fun f s₄ h4 => ?_) fun _ _ e => e.elim
    obtain ⟨h4', tk4, rfl, m4, i', j', ci', cj', b', z1, z2, z3, z4, F4, N4, hm4, d1, d2, d3, d4, d5, hcase, hflow⟩ := h4
    have tr := hI.turn S hk.symm sc
    have hall : ∀ y, y ≠ Str.ofString "i" → y ≠ Str.ofString "j" → y ≠ Str.ofString "common_i" → y ≠ Str.ofString "common_j" → y ≠ Str.ofString "first_key_inspected" → w1Names.contains y = false → m4 y = m y := by
      intro y a1 a2 a3 a4 a5 a6
      have b6 : ¬ (y = Str.ofString "k") ∧ ¬ (y = Str.ofString "diff") ∧ ¬ (y = Str.ofString "common") ∧ ¬ (y = Str.ofString "w") ∧ ¬ (y = Str.ofString "i2") := by
        simp only [w1Names, List.contains_cons, List.contains_nil, Bool.or_false, Bool.or_eq_false_iff, beq_eq_false_iff_ne, ne_eq] at a6
        exact a6
      rw [hm4 y a1 a2 a3 a4 a5, hm3 y b6.2.2.1 b6.2.1 b6.2.2.2.2, hm2 y b6.2.2.1 b6.2.1 b6.1 b6.2.2.2.1]
      simp only [Sg.ps, kstB, if_neg a1, if_neg a2, if_neg a3, if_neg a4, if_neg a5]
      rw [if_neg (by rw [a6]; decide)]
    have brk : ∀ i'' ci'' : Nat, i' = i'' → ci' = ci'' → Fin (winB wd c lb) (keysB Ts) i'' ci'' → EndV s (FbLoop1P h₀ L m ((x, instObj 527 dx) :: (dx, dictOf (selfD w.params q (.str wd t1) cr li lbv bra ket) n) :: rest) (winB wd c lb) (keysB Ts)) .next { s with heap := h4', toks := tk4 } := by
      rintro i'' ci'' rfl rfl hF
      exact EndV.intro ⟨rfl, m4, i'', ci'', z1, z3, F4, N4, hall, d1, d3, hF⟩
    have nxt : ∀ g : Sg, i' = g.i → j' = g.j → ci' = g.ci → cj' = g.cj → z1 = g.ti → z2 = g.tj → z3 = g.tci → z4 = g.tcj → b' = g.b → (Inv (winB wd c lb) (keysB Ts) g.i g.j g.ci g.cj ∧ (g.b = true → g.i = 0 ∧ g.j = 1)) → g.mu < (Sg.mu ⟨i, j, ci, cj, ti, tj, tci, tcj, b⟩) →
        KswEnd h₀ L s (fun _ => ((x, instObj 527 dx) :: (dx, dictOf (selfD w.params q (.str wd t1) cr li lbv bra ket) n) :: rest)) Sg.ps (fun _ => True) w1Names m (fun g => Inv (winB wd c lb) (keysB Ts) g.i g.j g.ci g.cj ∧ (g.b = true → g.i = 0 ∧ g.j = 1)) Sg.mu ⟨i, j, ci, cj, ti, tj, tci, tcj, b⟩ { s with heap := h4', toks := tk4 } := by
      rintro g rfl rfl rfl rfl rfl rfl rfl rfl rfl hI' hmu
      refine ksw_end g F4 N4 (fun p hp => hp) trivial ?_ (fun z hz hs => ?_) hI' hmu
      · intro p hp
        simp only [Sg.ps, List.mem_cons, List.not_mem_nil, or_false] at hp
        rcases hp with rfl | rfl | rfl | rfl | rfl
        · exact d1
        · exact d2
        · exact d3
        · exact d4
        · exact d5
      · exact hall z (hz _ (.head _)) (hz _ (.tail _ (.head _))) (hz _ (.tail _ (.tail _ (.head _)))) (hz _ (.tail _ (.tail _ (.tail _ (.head _))))) (hz _ (.tail _ (.tail _ (.tail _ (.tail _ (.head _)))))) hs
    rcases hcase with ⟨hd, rfl, rfl, rfl, rfl⟩ | ⟨hd, rfl, rfl, rfl, rfl⟩
    · obtain ⟨t1', t2', t3'⟩ := tr.1 hd
      rcases hflow with ⟨rfl, q1, q2⟩ | ⟨rfl, q1, q2, q3, q4, q5⟩ | ⟨rfl, q1, q2⟩
      · refine brk i ci rfl rfl ?_
        rcases Nat.lt_or_ge i k with q | q
        · refine (t2' q (by omega)).1 ?_
          rcases q2 with q2 | q2 | q2
          · omega
          · omega
          · have := hB q2; omega
        · exact t3' (by omega)
      · refine nxt ⟨i, k, ci, n', z1, z2, z3, z4, b'⟩ rfl rfl rfl rfl rfl rfl rfl rfl rfl ⟨(t2' (by omega) (by omega)).2 (by omega), fun _ => ⟨by dsimp only; omega, by dsimp only; omega⟩⟩ ?_
        subst q4 q5
        simp only [Sg.mu]
        simp
        first | exact mu_up0 hk | exact mu_dn0 hk | omega
      · subst q2
        refine nxt ⟨i, k, ci, n', z1, z2, z3, z4, b'⟩ rfl rfl rfl rfl rfl rfl rfl rfl rfl ⟨t1' (by omega), fun e => ?_⟩ ?_
        · have := hB e; omega
        · simp only [Sg.mu]
          first | exact mu_dn hk (by assumption) | omega
    · obtain ⟨t1', t2'⟩ := tr.2 hd
      rcases hflow with ⟨rfl, q1, q2⟩ | ⟨rfl, q1, q2, q3, q4, q5⟩ | ⟨rfl, q1, q2⟩
      · exact brk k n' rfl rfl (t2' (by omega)).1
      · refine nxt ⟨k, j, n', cj, z1, z2, z3, z4, b'⟩ rfl rfl rfl rfl rfl rfl rfl rfl rfl ⟨(t2' (by omega)).2 (by omega), fun _ => ⟨by dsimp only; omega, by dsimp only; omega⟩⟩ ?_
        subst q4 q5
        simp only [Sg.mu]
        simp
        first | exact mu_up0 hk | exact mu_dn0 hk | omega
      · subst q2
        refine nxt ⟨k, j, n', cj, z1, z2, z3, z4, b'⟩ rfl rfl rfl rfl rfl rfl rfl rfl rfl ⟨t1' (by omega), fun e => ?_⟩ ?_
        · have := hB e; omega
        · simp only [Sg.mu]
          exact mu_up hk (by assumption)
end
end Mine
/- MFB5 -/
namespace Mine
theorem tick_MFB5 {M : Model} {A : Around} {env : Env} {p : Pos} {Q : Bool → Shared → Prop} {E : Value → Shared → Prop} {s : Shared} (h : Q true s) : wpAny M A (isTrue (.Constant (.bool true) 0 p) env (eval (.Constant (.bool true) 0 p) env)) Q E s := by
  all_goals (try k_fold)
  k_steps
  exact h
theorem reg_K5 : rw_ii0002_01 = rw_ii0002_01 ∧ K1 = K1 := by
  k_fill
  exact ⟨rfl, rfl⟩
theorem item_tab2 {prog : Program} {w : World} {A : Around} {E : Value → Shared → Prop} {s : Shared} {value slice : PySem.Expr} {h₀ : Heap} {L : Addr} {m : Str → Option Value} {l : Addr} {vs : List Value} {k : Int} {u : Tok} {v : Value} {Q : Value → Shared → Prop}
    (hl : h₀.IsList l vs.toArray) (F : Fr h₀ L s.heap m) (h0 : 0 ≤ k) (hhi : k < 2 ^ 63) (hx : vs[k.toNat]? = some v) (h : Q v s)
    (hs : subscripted slice false (.ref l) (.int k u) = operate [.ref l, .int k u] (getItem (.ref l) (.int k u)) := by with_unfolding_all rfl) :
    wpAny (model prog w) A (subscriptTail value slice (.ref l) (.int k u)) Q E s := by
  have hl' : s.heap.IsList l vs.toArray := by obtain ⟨o, ho, r⟩ := hl; exact ⟨o, F.keep _ _ ho, r⟩
  exact tail_any hl'.typeIs slot_list_getitem.lookup (wpAny_getItem_list hl' h0 hhi (by simpa using hx) h) hs
local macro_rules | `(tactic| walk_at "getAttr ref") => `(tactic| (k_here; k_dflt (refine' get_own ?k1 ?k2 ?k3 ?k4 ?k5 ?k6 ?k7 ?k8 ?k9 ?_; (case k1 => k_asm); (case k2 => k_asm); (case k3 => exact inst_up (by assumption) (by k_asm)); (case k4 => k_is); (case k5 => k_is); (case k6 => k_is); (case k7 => k_is); (case k8 => k_get); (case k9 => k_handed); k_whole)))
local macro_rules | `(tactic| walk_at "subscriptTail") => `(tactic| (k_here; (with_reducible show wpAny _ _ (subscriptTail _ _ (Value.ref _) (Value.int _ _)) _ _ _); (with_unfolding_all refine' item_tab2 ?k1 ?k2 ?k3 ?k4 ?k5 ?_ ?k6; (case k1 => assumption); (case k2 => k_asm); (case k3 => omega); (case k4 => omega); (case k5 => assumption); (case k6 => with_unfolding_all rfl); k_whole)))
def fbW2 : Stmt := ixSt (fnBody (clsSt 2 15)) 8
section
variable {w : World} {A : Around} {h₀ : Heap} {L : Addr} {s : Shared} {m : Str → Option Value} {news : List (Addr × Obj)} {mean : ExcName → Option Value} {mg mb : Str → Option Value} {loose : List Str} {Q : Flow → Shared → Prop}
  {x dx xw dw tb : Addr} {wd txt : Str} {sub res : Int} {u q : Nat → Tok} {c lb cm df i j ci cj : Int} {tc tl tk tcm tdf t1 ti tj tci tcj tb1 : Tok} {cr li lbv bra ket : Value} {n : Nat} {rest : List (Addr × Obj)} {vs : List Value} {Ts : List Ent}

def FbTurn2P (P : Params) (h₀ : Heap) (L : Addr) (m : Str → Option Value) (rest : List (Addr × Obj)) (x dx : Addr) (q : Nat → Tok) (cu cr li lbv bra ket : Value) (c ci : Int) (txt : Str) (sub res : Int) (f : Flow) (h' : Heap) : Prop :=
  ∃ m', Fr h₀ L h' m' ∧
    (((txt.length : Int) ≤ ci ∧ (∃ t t', f = .ret (.int res t) ∧ News h₀ L h' ((x, instObj 527 dx) :: (dx, dictOf (selfD P q cu (.int (c - txt.length) t') li lbv bra ket) 6) :: rest))) ∨
     (¬ (txt.length : Int) ≤ ci ∧ News h₀ L h' ((x, instObj 527 dx) :: (dx, dictOf (selfD P q cu cr li lbv bra ket) 6) :: rest) ∧ ((sub < 0 ∧ ∃ t, f = .ret (.int 0 t)) ∨ (¬ sub < 0 ∧ f = .next ∧ (∃ t, m' (Str.ofString "i") = some (.int sub t)) ∧ ∀ y, y ≠ Str.ofString "i" → y ≠ Str.ofString "w" → m' y = m y))))

theorem fb_turn2 (hh : A.handled = none) (X₀ : (K1 w.params).In h₀) (T : Top qv loose mean mg mb h₀)
  (F : Fr h₀ L s.heap m) (f1 : m (Str.ofString "i") = some (.int i ti)) (f3 : m (Str.ofString "common_i") = some (.int ci tci)) (f7 : m (Str.ofString "v") = some (.ref tb)) (f6 : m (Str.ofString "self") = some (.ref x)) (f8 : m (Str.ofString "c") = some (.int c tc))
  (hl : h₀.IsList tb vs.toArray) (h0 : 0 ≤ i) (h1 : i < 1000) (hx : vs[i.toNat]? = some (.ref xw))
  (hc0 : 0 ≤ c) (hc1 : c ≤ 1000) (ht : txt.length ≤ 100) (hci : 0 ≤ ci ∧ ci ≤ 1000) (hne : @LT.lt Nat _ dx x) (hoff : OwnOff rest [x, dx])
  (N : News h₀ L s.heap ((x, instObj 527 dx) :: (dx, dictOf (selfD w.params q (.str wd t1) cr li lbv bra ket) 6) :: rest))
  (I : W.InstAt h₀ xw (amO dw) 220 (some (dictOf (amD w.params txt sub res u) 3)))
  : wpAny (model pw_ii0002_01 w) A (execs (whBody fbW2) (envFB L)) (EndV s (FbTurn2P w.params h₀ L m rest x dx q (.str wd t1) cr li lbv bra ket c ci txt sub res)) (fun _ _ => False) s := by
  have e : kstB m [(Str.ofString "i", .int i ti), (Str.ofString "common_i", .int ci tci), (Str.ofString "v", .ref tb), (Str.ofString "self", .ref x), (Str.ofString "c", .int c tc)] = m := 
    funext fun z => kstB_eq (by simp only [List.forall_mem_cons, List.not_mem_nil, false_implies, implies_true, and_true]; exact ⟨f1, f3, f7, f6, f8⟩) fun _ => rfl
  rw [← e] at F
  conv =>
    arg 3
    arg 1
    whnf
  all_goals (try k_fold)
  k_steps
  all_goals (try dsimp only)
  all_goals (
    show EndV s _ _ _
    rename Fr _ _ _ _ => F'
    rename News _ _ _ _ => N')
  · exact EndV.intro ⟨_, F', .inl ⟨by omega, _, _, rfl, N'⟩⟩
  · exact EndV.intro ⟨_, F', .inr ⟨by omega, N', .inl ⟨by assumption, _, rfl⟩⟩⟩
  · refine EndV.intro ⟨_, F', .inr ⟨by omega, N', .inr ⟨by assumption, rfl, ⟨_, rfl⟩, fun y a1 a2 => ?_⟩⟩⟩
    (try dsimp only)
    rw [if_neg a1, if_neg a2, e]

/-- how a search ends: the number told, and the place -/
def Told (P : Params) (h₀ : Heap) (L : Addr) (rest : List (Addr × Obj)) (C : Addr) (x dx : Addr) (q : Nat → Tok) (cu cr li lbv bra ket : Value) (Ts : List Ent) (K : List (List Nat)) (U : List Nat) (pl : Int → Int) (f : Flow) (h' : Heap) : Prop :=
  ∃ m' r, Fr h₀ L h' m' ∧ Best U K r ∧
    ((r = none ∧ (∃ t, f = .ret (.int 0 t)) ∧ News h₀ L h' ((x, instObj C dx) :: (dx, dictOf (selfD P q cu cr li lbv bra ket) 6) :: rest)) ∨
     (∃ p e t t', r = some p ∧ Ts[p]? = some e ∧ f = .ret (.int e.res t) ∧ News h₀ L h' ((x, instObj C dx) :: (dx, dictOf (selfD P q cu (.int (pl e.txt.length) t') li lbv bra ket) 6) :: rest)))
theorem fb_w2_is : ∃ p1 p2, fbW2 = .While (.Constant (.bool true) 0 p1) (whBody fbW2) [] p2 := ⟨_, _, rfl⟩
theorem fb_loop2 {i ci : Nat} (hh : A.handled = none) (X₀ : (K1 w.params).In h₀) (T : Top qv loose mean mg mb h₀) (Tb : TabIs w.params h₀ tb vs Ts) (Lk : Links (keysB Ts) (subOf Ts)) {U : List Nat}
  (F : Fr h₀ L s.heap m) (f1 : m (Str.ofString "i") = some (.int (i : Nat) ti)) (f3 : m (Str.ofString "common_i") = some (.int (ci : Nat) tci)) (f7 : m (Str.ofString "v") = some (.ref tb)) (f6 : m (Str.ofString "self") = some (.ref x)) (f8 : m (Str.ofString "c") = some (.int c tc))
  (D : Down U (keysB Ts) ci i) (hci : ci ≤ 1000)
  (hc0 : 0 ≤ c) (hc1 : c ≤ 1000) (hne : @LT.lt Nat _ dx x) (hoff : OwnOff rest [x, dx])
  (N : News h₀ L s.heap ((x, instObj 527 dx) :: (dx, dictOf (selfD w.params q (.str wd t1) cr li lbv bra ket) 6) :: rest))
  : wpAny (model pw_ii0002_01 w) A (exec fbW2 (envFB L)) (EndV s (Told w.params h₀ L rest 527 x dx q (.str wd t1) cr li lbv bra ket Ts (keysB Ts) U fun n => c - n)) (fun _ _ => False) s := by
  obtain ⟨p1, p2, e0⟩ := fb_w2_is
  rw [e0]
  have hvl := Tb.len
  have hfew := Tb.few
  have kl := keysB_len Ts
  refine ksw_while (σ := Nat × Tok) (fun _ => ((x, instObj 527 dx) :: (dx, dictOf (selfD w.params q (.str wd t1) cr li lbv bra ket) 6) :: rest)) (fun g => [(Str.ofString "i", .int (g.1 : Nat) g.2)]) (fun _ => True) [Str.ofString "w"]
    (fun g => Down U (keysB Ts) ci g.1) (fun g => g.1) (i, ti) F N trivial ?_ D ?_
  · intro p hp
    simp only [List.mem_cons, List.not_mem_nil, or_false] at hp
    subst hp
    exact f1
  · rintro ⟨i, ti⟩ uu h tk _ hD F1 N1
    dsimp only at hD F1
    refine wTrue ?_
    rw [if_pos rfl]
    have hlt := hD.lt
    obtain ⟨e, he⟩ : ∃ e, Ts[i]? = some e := ⟨_, List.getElem?_eq_getElem (by omega)⟩
    obtain ⟨xw, dw, u, hv, hI⟩ := Tb.item i e he
    have hsm := Tb.small e (List.mem_of_getElem? he)
    have hsub : subOf Ts i = e.sub := by simp [subOf, he]
    have hkl : (key (keysB Ts) i).length = e.txt.length := by rw [keysB_get he, txtB_len]
    have tn := fb_turn2 (A := A) (s := { s with heap := h, toks := tk }) (i := (i : Nat)) (ci := (ci : Nat)) (txt := e.txt) (sub := e.sub) (res := e.res) (u := u) (q := q) (c := c) (wd := wd) (t1 := t1) (cr := cr) (li := li) (lbv := lbv) (bra := bra) (ket := ket) (x := x) (dx := dx) (xw := xw) (dw := dw) (tb := tb) (vs := vs) hh X₀ T F1 rfl f3 f7 f6 f8 Tb.list (by omega) (by omega) (by simpa using hv) hc0 hc1 hsm (by omega) hne hoff N1 hI
    refine wpAny_mono tn (fun f s₂ h2 => ?_) fun _ _ e => e.elim
    obtain ⟨h', tk', rfl, m', F2, hcase⟩ := h2
    rcases hcase with ⟨hle, t, t', rfl, N2⟩ | ⟨hle, N2, ⟨hs, t, rfl⟩ | ⟨hs, rfl, ⟨t, g1⟩, hm⟩⟩
    · exact EndV.intro ⟨m', some i, F2, hD.here (by rw [hkl]; omega), .inr ⟨i, e, t, t', rfl, he, rfl, N2⟩⟩
    · exact EndV.intro ⟨m', none, F2, hD.stop Lk (by rw [hkl]; omega) (by rw [hsub]; exact hs), .inl ⟨rfl, ⟨t, rfl⟩, N2⟩⟩
    · obtain ⟨D', lt'⟩ := hD.next Lk (by rw [hkl]; omega) (by rw [hsub]; omega)
      rw [hsub] at D' lt'
      refine ksw_end ((e.sub).toNat, t) F2 N2 (fun p hp => hp) trivial ?_ (fun z hz hs' => ?_) D' lt'
      · intro p hp
        simp only [List.mem_cons, List.not_mem_nil, or_false] at hp
        subst hp
        rw [g1]
        have : ((e.sub.toNat : Nat) : Int) = e.sub := by omega
        dsimp only
        rw [this]
      · have a1 := hz _ (.head _)
        have a2 : z ≠ Str.ofString "w" := by
          simp only [List.contains_cons, List.contains_nil, Bool.or_false, beq_eq_false_iff_ne, ne_eq] at hs'
          exact hs'
        rw [hm z a1 a2]
        dsimp only at a1
        simp only [kstB, if_neg a1]
        rw [if_neg (by rw [hs']; decide)]
end
end Mine
/- MFB6 -/
namespace Mine
theorem tick_MFB6 {M : Model} {A : Around} {env : Env} {p : Pos} {Q : Bool → Shared → Prop} {E : Value → Shared → Prop} {s : Shared} (h : Q true s) : wpAny M A (isTrue (.Constant (.bool true) 0 p) env (eval (.Constant (.bool true) 0 p) env)) Q E s := by
  all_goals (try k_fold)
  k_steps
  exact h
theorem reg_K6 : rw_ii0002_01 = rw_ii0002_01 ∧ K1 = K1 := by
  k_fill
  exact ⟨rfl, rfl⟩
theorem len_tab {prog : Program} {w : World} {A : Around} {E : Value → Shared → Prop} {s : Shared} {h₀ : Heap} {L : Addr} {m : Str → Option Value} {l : Addr} {vs : List Value} {Q : Value → Shared → Prop}
    (hl : h₀.IsList l vs.toArray) (F : Fr h₀ L s.heap m) (hb : vs.length ≤ 1000) (h : Q (.int vs.length (s.toks + 1)) { s with toks := s.toks + 1 + 1 }) :
    wpAny (model prog w) A (call (.builtin "len") [.ref l]) Q E s := by
  have hl' : s.heap.IsList l vs.toArray := by obtain ⟨o, ho, r⟩ := hl; exact ⟨o, F.keep _ _ ho, r⟩
  exact PyProof.Rows.len_list hl' (by simp; omega) (by simpa using h)
local macro_rules | `(tactic| walk_at "call builtin:len") => `(tactic| (k_here; (with_reducible show wpAny _ _ (call (Value.builtin "len") [Value.ref _]) _ _ _); refine' len_tab ?k1 ?k2 ?k3 ?_; (case k1 => assumption); (case k2 => k_asm); (case k3 => assumption); k_whole))
def fbPre : List Stmt := (fnBody (clsSt 2 15)).take 7
theorem fb_split : fnBody (clsSt 2 15) = fbPre ++ fbW1 :: fbW2 :: (fnBody (clsSt 2 15)).drop 9 := by rfl
section
variable {w : World} {A A₀ : Around} {h₀ base : Heap} {L : Addr} {s : Shared} {m : Str → Option Value} {news : List (Addr × Obj)} {mean : ExcName → Option Value} {mg mb : Str → Option Value} {loose : List Str} {Q : Flow → Shared → Prop}
  {x dx xw dw tb : Addr} {wd txt : Str} {sub res : Int} {u q : Nat → Tok} {c lb cm df i j ci cj : Int} {tc tl tk tcm tdf t1 ti tj tci tcj tb1 : Tok} {cr li lbv bra ket : Value} {n : Nat} {rest : List (Addr × Obj)} {vs : List Value} {Ts : List Ent} {env : Env} {outer : List Env} {R : Result → Shared → Prop}
def FbPreP (h₀ : Heap) (L : Addr) (m : Str → Option Value) (news : List (Addr × Obj)) (c lb : Int) (nv : Nat) (f : Flow) (h' : Heap) : Prop :=
  f = .next ∧ ∃ m' ti tj tci tcj tc tl, Fr h₀ L h' m' ∧ News h₀ L h' news ∧ m' (Str.ofString "self") = m (Str.ofString "self") ∧ m' (Str.ofString "v") = m (Str.ofString "v") ∧ m' (Str.ofString "i") = some (.int 0 ti) ∧ m' (Str.ofString "j") = some (.int (nv : Nat) tj) ∧ m' (Str.ofString "common_i") = some (.int 0 tci) ∧ m' (Str.ofString "common_j") = some (.int 0 tcj) ∧
    m' (Str.ofString "first_key_inspected") = some (.bool false) ∧ m' (Str.ofString "c") = some (.int c tc) ∧ m' (Str.ofString "lb") = some (.int lb tl)
theorem fb_pre (hh : A.handled = none) (X₀ : (K1 w.params).In h₀) (T : Top qv loose mean mg mb h₀)
  (F : Fr h₀ L s.heap m) (f6 : m (Str.ofString "self") = some (.ref x)) (f7 : m (Str.ofString "v") = some (.ref tb)) (hl : h₀.IsList tb vs.toArray) (hb : vs.length ≤ 1000)
  (N : News h₀ L s.heap ((x, instObj 527 dx) :: (dx, dictOf (selfD w.params q (.str wd t1) (.int c tc) li (.int lb tl) bra ket) 6) :: rest))
  : wpAny (model pw_ii0002_01 w) A (execs fbPre (envFB L)) (EndV s (FbPreP h₀ L m ((x, instObj 527 dx) :: (dx, dictOf (selfD w.params q (.str wd t1) (.int c tc) li (.int lb tl) bra ket) 6) :: rest) c lb vs.length)) (fun _ _ => False) s := by
  have e : kstB m [(Str.ofString "v", .ref tb), (Str.ofString "self", .ref x)] = m := 
    funext fun z => kstB_eq (by simp only [List.forall_mem_cons, List.not_mem_nil, false_implies, implies_true, and_true]; exact ⟨f7, f6⟩) fun _ => rfl
  rw [← e] at F
  conv =>
    arg 3
    arg 1
    whnf
  simp only [List.take_succ_cons, List.take_zero]
  all_goals (try k_fold)
  k_steps
  rename Fr _ _ _ _ => F'
  rename News _ _ _ _ => N'
  exact EndV.intro ⟨rfl, _, _, _, _, _, _, _, F', N', f6.symm, f7.symm, rfl, rfl, rfl, rfl, rfl, rfl, rfl⟩
theorem fb_code (B : Below A₀ base outer h₀) (F : Fr h₀ L s.heap m) (X₀ : (K1 w.params).In h₀) (T : Top qv loose mean mg mb h₀) (hA : A.frames = some (env :: outer)) (hf : env.frame = some L) (hke : env.scope.kind = .function)
  (hroom : A.depth < recursionLimit) (hh : A.handled = none) (Tb : TabIs w.params h₀ tb vs Ts) (S : Sorted (keysB Ts)) (Lk : Links (keysB Ts) (subOf Ts))
  (hc0 : 0 ≤ c) (hc1 : c ≤ 1000) (hl0 : 0 ≤ lb) (hl1 : lb ≤ c) (hwd : (c : Int) ≤ wd.length) (hne : @LT.lt Nat _ dx x) (hoff : OwnOff rest [x, dx])
  (N : News h₀ L s.heap ((x, instObj 527 dx) :: (dx, dictOf (selfD w.params q (.str wd t1) (.int c tc) li (.int lb tl) bra ket) 6) :: rest))
  (h : ∀ v h' tk r, Fr h₀ L h' m → Best (winB wd c lb) (keysB Ts) r →
    ((r = none ∧ (∃ t, v = .int 0 t) ∧ News h₀ L h' ((x, instObj 527 dx) :: (dx, dictOf (selfD w.params q (.str wd t1) (.int c tc) li (.int lb tl) bra ket) 6) :: rest)) ∨
     (∃ p e t t', r = some p ∧ Ts[p]? = some e ∧ v = .int e.res t ∧ News h₀ L h' ((x, instObj 527 dx) :: (dx, dictOf (selfD w.params q (.str wd t1) (.int (c - e.txt.length) t') li (.int lb tl) bra ket) 6) :: rest))) →
    R (.ok (.ret v)) { s with heap := h', toks := tk }) :
  codeAny (model pw_ii0002_01 w) A (.call (.ref 140) ⟨[.ref x, .ref tb], []⟩) R s := by
  refine code_def (K := K1 w.params) B F X₀ N T hA hf hke (by k_is) (by k_is) hroom (BindsTo.of_eq rfl) (locs rfl) ?_ rfl rfl rfl (by decide)
  intro g L' h₁ FG F1 N1 B1 X1 T1
  rw [fb_split]
  refine execs_app fbPre ?_
  have hh' : (A.deeper (envFB L')).handled = none := hh
  have Tb1 := Tb.keeps FG.keep
  have pre := fb_pre (A := A.deeper (envFB L')) (s := { s with heap := h₁, toks := s.toks + 2 }) (x := x) (dx := dx) (q := q) (wd := wd) (t1 := t1) (c := c) (tc := tc) (li := li) (lb := lb) (tl := tl) (bra := bra) (ket := ket) (tb := tb) (vs := vs) hh' X1 T1 F1 rfl rfl Tb1.list (by have := Tb1.few; have := Tb1.len; omega) N1
  refine wpAny_mono pre (fun f s₂ h2 => ?_) fun _ _ e => e.elim
  obtain ⟨h2', tk2, rfl, rfl, m2, ti, tj, tci, tcj, tc2, tl2, F2, N2, g1, g2, g3, g4, g5, g6, g7, g8, g9⟩ := h2
  dsimp only
  refine wpAny_execs_cons ?_
  have l1 := fb_loop1 (A := A.deeper (envFB L')) (s := { s with heap := h2', toks := tk2 }) (x := x) (dx := dx) (q := q) (wd := wd) (t1 := t1) (c := c) (cr := .int c tc) (li := li) (lbv := .int lb tl) (bra := bra) (ket := ket) (n := 6) (lb := lb) hh' X1 T1 Tb1 S F2 g3 (by rw [Tb1.len] at g4; exact g4) g5 g6 g7 (g1.trans rfl) (g2.trans rfl) g8 g9 hc0 hc1 hl0 hl1 hwd N2
  refine wpAny_mono l1 (fun f s₃ h3 => ?_) fun _ _ e => e.elim
  obtain ⟨h3', tk3, rfl, rfl, m3, i, ci, t5, t6, F3, N3, hm3, k1, k2, hF⟩ := h3
  dsimp only
  refine wpAny_execs_cons ?_
  have D := hF.down S
  have hci : ci ≤ 1000 := by
    obtain ⟨hi, hF | hF⟩ := hF
    · obtain ⟨⟨d, _, sc⟩, _⟩ := hF
      have := sc.1.1
      have := winB_length (wd := wd) hl0 hl1 hwd
      omega
    · omega
  have l2 := fb_loop2 (A := A.deeper (envFB L')) (s := { s with heap := h3', toks := tk3 }) (x := x) (dx := dx) (q := q) (wd := wd) (t1 := t1) (c := c) (cr := .int c tc) (li := li) (lbv := .int lb tl) (bra := bra) (ket := ket) hh' X1 T1 Tb1 Lk F3 k1 k2 ((hm3 _ (by decide) (by decide) (by decide) (by decide) (by decide) (by decide)).trans (g2.trans rfl)) ((hm3 _ (by decide) (by decide) (by decide) (by decide) (by decide) (by decide)).trans (g1.trans rfl)) ((hm3 _ (by decide) (by decide) (by decide) (by decide) (by decide) (by decide)).trans g8) D hci hc0 hc1 hne hoff N3
  refine wpAny_mono l2 (fun f s₄ h4 => ?_) fun _ _ e => e.elim
  obtain ⟨h4', tk4, rfl, m4, r, F4, hb, hcase⟩ := h4
  rcases hcase with ⟨rfl, ⟨t, rfl⟩, N4⟩ | ⟨p, e, t, t', rfl, he, rfl, N4⟩
  · exact leaveK_ F4 N4 fun Fb Nb => h _ _ _ _ Fb hb (.inl ⟨rfl, ⟨t, rfl⟩, Nb⟩)
  · exact leaveK_ F4 N4 fun Fb Nb => h _ _ _ _ Fb hb (.inr ⟨p, e, t, t', rfl, he, rfl, Nb⟩)
end
end Mine
/- MFF -/
namespace Mine
theorem tick_MFF {M : Model} {A : Around} {env : Env} {p : Pos} {Q : Bool → Shared → Prop} {E : Value → Shared → Prop} {s : Shared} (h : Q true s) : wpAny M A (isTrue (.Constant (.bool true) 0 p) env (eval (.Constant (.bool true) 0 p) env)) Q E s := by
  all_goals (try k_fold)
  k_steps
  exact h
theorem reg_KF : rw_ii0002_01 = rw_ii0002_01 ∧ K1 = K1 := by
  k_fill
  exact ⟨rfl, rfl⟩
def ffW1 : Stmt := ixSt (fnBody (clsSt 2 14)) 7
def ffFor : Stmt := ixSt (whBody ffW1) 4
abbrev envFF (L : Addr) : Env := envOf (Str.ofString "BaseStemmer.find_among") (fnScope (clsSt 2 14)) L 133 (.ref 132)
local macro_rules | `(tactic| walk_at "getAttr ref") => `(tactic| (k_here; k_dflt (refine' get_own ?k1 ?k2 ?k3 ?k4 ?k5 ?k6 ?k7 ?k8 ?k9 ?_; (case k1 => k_asm); (case k2 => k_asm); (case k3 => exact inst_up (by assumption) (by k_asm)); (case k4 => k_is); (case k5 => k_is); (case k6 => k_is); (case k7 => k_is); (case k8 => k_get); (case k9 => k_handed); k_whole)))

section
variable {w : World} {A : Around} {h₀ : Heap} {L : Addr} {s : Shared} {m : Str → Option Value} {news : List (Addr × Obj)} {mean : ExcName → Option Value} {mg mb : Str → Option Value} {loose : List Str} {Q : Flow → Shared → Prop}
  {x dx xw dw : Addr} {wd txt : Str} {sub res : Int} {u q : Nat → Tok} {c lb cm df : Int} {tc tl tk tcm tdf t1 : Tok} {cr li lbv bra ket : Value} {n : Nat}

def FfIterP (h₀ : Heap) (L : Addr) (m : Str → Option Value) (news : List (Addr × Obj)) (a b : Int) (v : Value) (h' : Heap) : Prop :=
  ∃ r t1 t2 t3, v = .ref r ∧ Fr h₀ L h' m ∧ News h₀ L h' news ∧ IsRange h' r a b 1 t1 t2 t3
theorem ff_iter (hh : A.handled = none) (X₀ : (K1 w.params).In h₀) (T : Top qv loose mean mg mb h₀) 
  (F : Fr h₀ L s.heap m) (f1 : m (Str.ofString "common") = some (.int cm tcm)) (f2 : m (Str.ofString "w") = some (.ref xw))
  (hcm : 0 ≤ cm ∧ cm ≤ 1000) (ht : txt.length ≤ 1000)
  (N : News h₀ L s.heap news)
  (I : W.InstAt h₀ xw (amO dw) 220 (some (dictOf (amD w.params txt sub res u) 3)))
  : wpAny (model pw_ii0002_01 w) A (eval (forIter ffFor) (envFF L)) (EndV s (FfIterP h₀ L m news cm (txt.length : Int))) (fun _ _ => False) s := by
  have e : kstB m [(Str.ofString "common", .int cm tcm), (Str.ofString "w", .ref xw)] = m := funext fun z => kstB_eq (List.forall_mem_cons.mpr ⟨f1, List.forall_mem_cons.mpr ⟨f2, List.forall_mem_nil _⟩⟩) fun _ => rfl
  rw [← e] at F
  conv =>
    arg 3
    arg 1
    whnf
  all_goals (try k_fold)
  k_steps
  rename Fr _ _ _ _ => F'
  rename News _ _ _ _ => N'
  rename IsRange _ _ _ _ _ _ _ _ => hR
  rw [e] at F'
  exact EndV.intro ⟨_, _, _, _, rfl, F', N', hR⟩

def FfTurnP (h₀ : Heap) (L : Addr) (m : Str → Option Value) (news : List (Addr × Obj)) (cm a b : Int) (c lb : Int) (f : Flow) (h' : Heap) : Prop :=
  ∃ m' tcm, Fr h₀ L h' m' ∧ News h₀ L h' news ∧ (∀ y, y ≠ Str.ofString "common" → y ≠ Str.ofString "diff" → m' y = m y) ∧
   ((f = .brk ∧ c + cm = lb ∧ m' (Str.ofString "common") = some (.int cm tcm) ∧ ∃ t, m' (Str.ofString "diff") = some (.int (-1) t)) ∨
    (f = .brk ∧ c + cm ≠ lb ∧ a ≠ b ∧ m' (Str.ofString "common") = some (.int cm tcm) ∧ ∃ t, m' (Str.ofString "diff") = some (.int (a - b) t)) ∨
    (f = .next ∧ c + cm ≠ lb ∧ a = b ∧ m' (Str.ofString "common") = some (.int (cm + 1) tcm) ∧ ∃ t, m' (Str.ofString "diff") = some (.int 0 t)))

theorem ff_turn (X₀ : (K1 w.params).In h₀) (T : Top qv loose mean mg mb h₀) {k : Int} {own : List (Addr × Obj)}
  (F : Fr h₀ L s.heap m) (f0 : m (Str.ofString "i2") = some (.int k tk)) (f1 : m (Str.ofString "common") = some (.int cm tcm)) (f2 : m (Str.ofString "diff") = some (.int df tdf))
  (f3 : m (Str.ofString "self") = some (.ref x)) (f4 : m (Str.ofString "w") = some (.ref xw)) (f5 : m (Str.ofString "c") = some (.int c tc)) (f6 : m (Str.ofString "l") = some (.int lb tl))
  (hc0 : 0 ≤ c) (hc1 : c ≤ 1000) (hl0 : lb ≤ 1000) (hl1 : c ≤ lb) (hcm : 0 ≤ cm ∧ cm ≤ lb - c) (hk : 0 ≤ k ∧ k < (txt.length : Int)) (hk2 : txt.length ≤ 1000)
  (hwd : lb ≤ (wd.length : Int))
  (N : News h₀ L s.heap ((x, instObj 832 dx) :: (dx, dictOf (selfD w.params q (.str wd t1) cr li lbv bra ket) n) :: own))
  (I : W.InstAt h₀ xw (amO dw) 220 (some (dictOf (amD w.params txt sub res u) 3)))
  : wpAny (model pw_ii0002_01 w) A (execs (whBody ffFor) (envFF L)) (EndV s (FfTurnP h₀ L m ((x, instObj 832 dx) :: (dx, dictOf (selfD w.params q (.str wd t1) cr li lbv bra ket) n) :: own) cm (((Txt.item wd (c + cm)).cps.getD 0 0 : Nat) : Int) (((Txt.item txt k).cps.getD 0 0 : Nat) : Int) c lb)) (fun _ _ => False) s := by
  have e : kstB m [(Str.ofString "i2", .int k tk), (Str.ofString "common", .int cm tcm), (Str.ofString "diff", .int df tdf), (Str.ofString "self", .ref x), (Str.ofString "w", .ref xw), (Str.ofString "c", .int c tc), (Str.ofString "l", .int lb tl)] = m := 
    funext fun z => kstB_eq (by simp only [List.forall_mem_cons, List.not_mem_nil, false_implies, implies_true, and_true]; exact ⟨f0, f1, f2, f3, f4, f5, f6⟩) fun _ => rfl
  rw [← e] at F
  conv =>
    arg 3
    arg 1
    whnf
  all_goals (try k_fold)
  k_steps
  all_goals (try dsimp only)
  · rename Fr _ _ _ _ => F'
    rename News _ _ _ _ => N'
    refine EndV.intro ⟨_, _, F', N', fun y h1 h2 => ?_, .inl ⟨rfl, by assumption, rfl, _, rfl⟩⟩
    rw [if_neg h2, e]
  · rename Fr _ _ _ _ => F'
    rename News _ _ _ _ => N'
    refine EndV.intro ⟨_, _, F', N', fun y h1 h2 => ?_, .inr (.inl ⟨rfl, by assumption, by omega, rfl, _, rfl⟩)⟩
    rw [if_neg h2, e]
  · rename Fr _ _ _ _ => F'
    rename News _ _ _ _ => N'
    rename _ - _ = 0 => h0
    rw [h0] at F'
    refine EndV.intro ⟨_, _, F', N', fun y h1 h2 => ?_, .inr (.inr ⟨rfl, by assumption, by omega, rfl, _, rfl⟩)⟩
    rw [if_neg h1, if_neg h2, e]
end

section
variable {w : World} {A : Around} {h₀ : Heap} {L : Addr} {s : Shared} {m : Str → Option Value} {news : List (Addr × Obj)} {mean : ExcName → Option Value} {mg mb : Str → Option Value} {loose : List Str} {Q : Flow → Shared → Prop}
  {x dx xw dw : Addr} {wd txt : Str} {sub res : Int} {u q : Nat → Tok} {c lb cm df : Int} {tc tl tk tcm tdf t1 : Tok} {cr li lbv bra ket : Value} {n : Nat} {rest : List (Addr × Obj)}

def FfForP (h₀ : Heap) (L : Addr) (m : Str → Option Value) (news : List (Addr × Obj)) (U R : List Nat) (f : Flow) (h' : Heap) : Prop :=
  f = .next ∧ ∃ m' n' d t t', Fr h₀ L h' m' ∧ News h₀ L h' news ∧ (∀ y, y ≠ Str.ofString "common" → y ≠ Str.ofString "diff" → y ≠ Str.ofString "i2" → m' y = m y) ∧
    m' (Str.ofString "common") = some (.int (n' : Nat) t) ∧ m' (Str.ofString "diff") = some (.int d t') ∧ Scan U R n' d

theorem ff_for (hh : A.handled = none) (X₀ : (K1 w.params).In h₀) (T : Top qv loose mean mg mb h₀) {cn : Nat}
  (F : Fr h₀ L s.heap m) (f1 : m (Str.ofString "common") = some (.int (cn : Nat) tcm)) (f2 : m (Str.ofString "diff") = some (.int 0 tdf))
  (f3 : m (Str.ofString "self") = some (.ref x)) (f4 : m (Str.ofString "w") = some (.ref xw)) (f5 : m (Str.ofString "c") = some (.int c tc)) (f6 : m (Str.ofString "l") = some (.int lb tl))
  (hc0 : 0 ≤ c) (hc1 : c ≤ 1000) (hl0 : lb ≤ 1000) (hl1 : c ≤ lb) (hk2 : txt.length ≤ 1000)
  (hwd : lb ≤ (wd.length : Int))
  (hag : Agree (winF wd c lb) txt.cps.toList cn)
  (N : News h₀ L s.heap ((x, instObj 832 dx) :: (dx, dictOf (selfD w.params q (.str wd t1) cr li lbv bra ket) n) :: rest))
  (I : W.InstAt h₀ xw (amO dw) 220 (some (dictOf (amD w.params txt sub res u) 3)))
  : wpAny (model pw_ii0002_01 w) A (exec ffFor (envFF L)) (EndV s (FfForP h₀ L m ((x, instObj 832 dx) :: (dx, dictOf (selfD w.params q (.str wd t1) cr li lbv bra ket) n) :: rest) (winF wd c lb) txt.cps.toList)) (fun _ _ => False) s := by
  have hlen := winF_length (wd := wd) hc0 hl1 hwd
  have hrl := txt_len txt
  have hcn1 := hag.1
  have hcn2 := hag.2.1
  have it := ff_iter (u := u) (sub := sub) (res := res) (txt := txt) (dw := dw) hh X₀ T F f1 f4 ⟨by omega, by omega⟩ hk2 N I
  have e0 : ∃ p1 p2, ffFor = .For (.Name (Str.ofString "i2") p1) (forIter ffFor) (whBody ffFor) [] p2 := ⟨_, _, rfl⟩
  obtain ⟨p1, p2, e0⟩ := e0
  rw [e0]
  refine For_invV h₀ rfl rfl (wpAny_mono it (fun v s₁ h1 => ?_) fun _ _ e => e)
  obtain ⟨h', tk1, rfl, r, ta, tb, td, rfl, F1, N1, hR⟩ := h1
  refine kst_range (σ := Nat × Tok × Tok) (n := txt.length - cn) (fun _ => ((x, instObj 832 dx) :: (dx, dictOf (selfD w.params q (.str wd t1) cr li lbv bra ket) n) :: rest))
    (fun σ => [(Str.ofString "common", .int (σ.1 : Nat) σ.2.1), (Str.ofString "diff", .int 0 σ.2.2)]) (fun _ => True) []
    (fun pre σ => σ.1 = cn + pre.length ∧ Agree (winF wd c lb) txt.cps.toList σ.1) (cn, tcm, tdf) hh hR
    (small_one (by omega) (by omega) (by omega) (by omega)) ?_ F1 N1 trivial ?_ ⟨rfl, hag⟩ ?_ ?_
  · rw [rangeSize_nat]; omega
  · intro p hp
    simp only [List.mem_cons, List.not_mem_nil, or_false] at hp
    rcases hp with rfl | rfl
    · exact f1
    · exact f2
  · rintro ⟨cm, t2, t3⟩ pre k tk uu h tk2 own hk hpre hoff _ ⟨hcm, hag'⟩ F2 N2
    dsimp only at hcm hag' F2
    have hb := hag'.1
    have hd := hag'.2.1
    have tn := ff_turn (A := A) (s := { s with heap := h, toks := tk2 }) (txt := txt) (sub := sub) (res := res) (u := u) (q := q) (c := c) (lb := lb) (wd := wd) (t1 := t1) (cr := cr) (li := li) (lbv := lbv) (bra := bra) (ket := ket) (n := n) (x := x) (dx := dx) (own := rest ++ own) (xw := xw) (dw := dw) X₀ T F2 rfl rfl rfl f3 f4 f5 f6 hc0 hc1 hl0 hl1 (by omega) (by omega) hk2 hwd (fun p hp => N2 p (by simpa using hp)) I
    refine wpAny_mono tn (fun f s₃ h3 => ?_) fun _ _ e => e
    obtain ⟨h3', tk3, rfl, m', tcm', F3, N3, hm, hcase⟩ := h3
    have hk' : k = (cm : Nat) := by omega
    have gu : cm < (winF wd c lb).length → (winF wd c lb)[cm]? = some ((Txt.item wd (c + cm)).cps.getD 0 0) := fun hlt => winF_get hc0 hl1 hwd (by omega)
    have gr : txt.cps.toList[cm]? = some ((Txt.item txt k).cps.getD 0 0) := by rw [hk']; exact txtF_get (by omega)
    have hm' : ∀ y, y ≠ Str.ofString "common" → y ≠ Str.ofString "diff" → y ≠ Str.ofString "i2" → m' y = m y := fun y a b d => by
      refine (hm y a b).trans ?_
      dsimp only
      rw [if_neg d]
      simp only [kstB, if_neg a, if_neg b]
      simp
    rcases hcase with ⟨rfl, hc, g1, t4, g2⟩ | ⟨rfl, hc, hne, g1, t4, g2⟩ | ⟨rfl, hc, heq, g1, t4, g2⟩
    · refine ⟨_, tk3, rfl, rfl, m', cm, -1, _, _, F3, fun p hp => N3 p (by simp only [List.mem_cons, List.mem_append] at hp ⊢; rcases hp with h | h | h <;> simp [h]), hm', g1, g2, hag', .inr (.inl ⟨by omega, by omega, rfl⟩)⟩
    · refine ⟨_, tk3, rfl, rfl, m', cm, _, _, _, F3, fun p hp => N3 p (by simp only [List.mem_cons, List.mem_append] at hp ⊢; rcases hp with h | h | h <;> simp [h]), hm', g1, g2, hag', .inr (.inr ⟨_, _, gu (by omega), gr, by omega, rfl⟩)⟩
    · refine ⟨_, tk3, m', _, ((x, instObj 832 dx) :: (dx, dictOf (selfD w.params q (.str wd t1) cr li lbv bra ket) n) :: rest), rfl, F3, N3, ?_, ?_, rfl, ⟨cm + 1, tcm', t4⟩, rfl, trivial, ?_, ?_, ?_, ?_⟩
      · intro p hp; simp only [List.mem_cons] at hp; rcases hp with h | h | h <;> simp [h]
      · intro p hp; simp [hp]
      · intro p hp
        simp only [List.mem_cons, List.not_mem_nil, or_false] at hp
        rcases hp with rfl | rfl
        · exact g1
        · exact g2
      · intro z hz hps _
        exact hm' z (hps _ (.head _)) (hps _ (.tail _ (.head _))) hz
      · dsimp only; rw [List.length_append]; simp; omega
      · dsimp only
        refine hag'.succ (a := (Txt.item txt k).cps.getD 0 0) ?_ gr
        rw [gu (by omega)]
        have : (Txt.item wd (c + cm)).cps.getD 0 0 = (Txt.item txt k).cps.getD 0 0 := by omega
        rw [this]
  · rintro ⟨cm, t2, t3⟩ uu h tk2 _ ⟨hcm, hag'⟩ F2 N2
    dsimp only at hcm hag' F2
    rw [rangeKs_length] at hcm
    refine ⟨_, tk2, rfl, rfl, _, cm, 0, _, _, F2, N2, ?_, rfl, rfl, hag', .inl ⟨by omega, rfl⟩⟩
    intro y a b d
    rw [if_neg d]
    show kstB _ [_, _] y = _
    simp only [kstB, if_neg a, if_neg b]
    simp
end

local macro_rules | `(tactic| walk_at "subscriptTail") => `(tactic| (k_here; (with_reducible show wpAny _ _ (subscriptTail _ _ (Value.ref _) (Value.int _ _)) _ _ _); (with_unfolding_all refine' item_tab ?k1 ?k2 ?k3 ?k4 ?k5 ?_ ?k6; (case k1 => assumption); (case k2 => k_asm); (case k3 => simp only [fdiv2]; omega); (case k4 => simp only [fdiv2]; omega); (case k5 => assumption); (case k6 => with_unfolding_all rfl); k_whole; intro v' hv')))
local macro_rules | `(tactic| walk_at "call builtin:min") => `(tactic| (k_here; refine' min_two_N (by assumption) (by k_asm) (by k_asm) ?_; intro h' tk' F' N'))

def ffA : List Stmt := (whBody ffW1).take 4
section
variable {w : World} {A : Around} {h₀ : Heap} {L : Addr} {s : Shared} {m : Str → Option Value} {news : List (Addr × Obj)} {mean : ExcName → Option Value} {mg mb : Str → Option Value} {loose : List Str} {Q : Flow → Shared → Prop}
  {x dx xw dw tb : Addr} {wd txt : Str} {sub res : Int} {u q : Nat → Tok} {c lb cm df i j ci cj : Int} {tc tl tk tcm tdf t1 ti tj tci tcj : Tok} {cr li lbv bra ket : Value} {n : Nat} {vs : List Value}

def FfHeadP (h₀ : Heap) (L : Addr) (m : Str → Option Value) (news : List (Addr × Obj)) (i j ci cj : Int) (vs : List Value) (f : Flow) (h' : Heap) : Prop :=
  f = .next ∧ ∃ m' v t1 t2 t3, Fr h₀ L h' m' ∧ News h₀ L h' news ∧ (∀ y, y ≠ Str.ofString "common" → y ≠ Str.ofString "diff" → y ≠ Str.ofString "k" → y ≠ Str.ofString "w" → m' y = m y) ∧
    m' (Str.ofString "k") = some (.int (i + (j - i) / 2) t1) ∧ m' (Str.ofString "diff") = some (.int 0 t2) ∧ m' (Str.ofString "common") = some (.int (if cj < ci then cj else ci) t3) ∧ m' (Str.ofString "w") = some v ∧ vs[(i + (j - i) / 2).toNat]? = some v

theorem ff_head (hh : A.handled = none) (X₀ : (K1 w.params).In h₀) (T : Top qv loose mean mg mb h₀)
  (F : Fr h₀ L s.heap m) (f1 : m (Str.ofString "i") = some (.int i ti)) (f2 : m (Str.ofString "j") = some (.int j tj)) (f3 : m (Str.ofString "common_i") = some (.int ci tci)) (f4 : m (Str.ofString "common_j") = some (.int cj tcj)) (f5 : m (Str.ofString "v") = some (.ref tb))
  (hl : h₀.IsList tb vs.toArray) (hn : vs.length ≤ 1000) (h0 : 0 ≤ i) (h1 : i < j) (h2 : j ≤ vs.length) (h3 : 0 ≤ ci ∧ ci ≤ 1000) (h4 : 0 ≤ cj ∧ cj ≤ 1000)
  (N : News h₀ L s.heap news)
  : wpAny (model pw_ii0002_01 w) A (execs ffA (envFF L)) (EndV s (FfHeadP h₀ L m news i j ci cj vs)) (fun _ _ => False) s := by
  have e : kstB m [(Str.ofString "i", .int i ti), (Str.ofString "j", .int j tj), (Str.ofString "common_i", .int ci tci), (Str.ofString "common_j", .int cj tcj), (Str.ofString "v", .ref tb)] = m := 
    funext fun z => kstB_eq (by simp only [List.forall_mem_cons, List.not_mem_nil, false_implies, implies_true, and_true]; exact ⟨f1, f2, f3, f4, f5⟩) fun _ => rfl
  rw [← e] at F
  conv =>
    arg 3
    arg 1
    whnf
  simp only [List.take_succ_cons, List.take_zero]
  all_goals (try k_fold)
  k_steps
  rename Fr _ _ _ _ => F'
  rename News _ _ _ _ => N'
  rename _ = some _ => hv
  rw [fdiv2] at F' hv
  refine EndV.intro ⟨rfl, _, _, _, _, _, F', N', fun y a1 a2 a3 a4 => ?_, rfl, rfl, rfl, rfl, hv⟩
  dsimp only
  rw [if_neg a4, if_neg a1, if_neg a2, if_neg a3, e]

/-- the two ifs behind the inner loop -/
def ffB : List Stmt := (whBody ffW1).drop 5
def FfTailP (h₀ : Heap) (L : Addr) (m : Str → Option Value) (news : List (Addr × Obj)) (i j k cm d ci cj : Int) (b : Bool) (f : Flow) (h' : Heap) : Prop :=
  ∃ m' i' j' ci' cj' b' t1 t2 t3 t4, Fr h₀ L h' m' ∧ News h₀ L h' news ∧ (∀ y, y ≠ Str.ofString "i" → y ≠ Str.ofString "j" → y ≠ Str.ofString "common_i" → y ≠ Str.ofString "common_j" → y ≠ Str.ofString "first_key_inspected" → m' y = m y) ∧
    m' (Str.ofString "i") = some (.int i' t1) ∧ m' (Str.ofString "j") = some (.int j' t2) ∧ m' (Str.ofString "common_i") = some (.int ci' t3) ∧ m' (Str.ofString "common_j") = some (.int cj' t4) ∧ m' (Str.ofString "first_key_inspected") = some (.bool b') ∧
    ((d < 0 ∧ i' = i ∧ j' = k ∧ ci' = ci ∧ cj' = cm) ∨ (¬ d < 0 ∧ i' = k ∧ j' = j ∧ ci' = cm ∧ cj' = cj)) ∧
    ((f = .brk ∧ j' - i' ≤ 1 ∧ (0 < i' ∨ j' = i' ∨ b = true)) ∨ (f = .next ∧ j' - i' ≤ 1 ∧ i' ≤ 0 ∧ j' ≠ i' ∧ b = false ∧ b' = true) ∨ (f = .next ∧ 1 < j' - i' ∧ b' = b))
theorem ff_tail (hh : A.handled = none) (X₀ : (K1 w.params).In h₀) (T : Top qv loose mean mg mb h₀) {k : Int} {b : Bool}
  (F : Fr h₀ L s.heap m) (f1 : m (Str.ofString "i") = some (.int i ti)) (f2 : m (Str.ofString "j") = some (.int j tj)) (f3 : m (Str.ofString "common_i") = some (.int ci tci)) (f4 : m (Str.ofString "common_j") = some (.int cj tcj))
  (f6 : m (Str.ofString "k") = some (.int k tk)) (f7 : m (Str.ofString "diff") = some (.int df tdf)) (f8 : m (Str.ofString "common") = some (.int cm tcm)) (f9 : m (Str.ofString "first_key_inspected") = some (.bool b)) 
  (h0 : 0 ≤ i) (h1 : i < j) (h2 : j ≤ 1000) (h3 : 0 ≤ ci ∧ ci ≤ 1000) (h4 : 0 ≤ cj ∧ cj ≤ 1000) (h5 : i ≤ k ∧ k < j)
  (N : News h₀ L s.heap news)
  : wpAny (model pw_ii0002_01 w) A (execs ffB (envFF L)) (EndV s (FfTailP h₀ L m news i j k cm df ci cj b)) (fun _ _ => False) s := by
  have e : kstB m [(Str.ofString "i", .int i ti), (Str.ofString "j", .int j tj), (Str.ofString "common_i", .int ci tci), (Str.ofString "common_j", .int cj tcj), (Str.ofString "k", .int k tk), (Str.ofString "diff", .int df tdf), (Str.ofString "common", .int cm tcm), (Str.ofString "first_key_inspected", .bool b)] = m := 
    funext fun z => kstB_eq (by simp only [List.forall_mem_cons, List.not_mem_nil, false_implies, implies_true, and_true]; exact ⟨f1, f2, f3, f4, f6, f7, f8, f9⟩) fun _ => rfl
  rw [← e] at F
  conv =>
    arg 3
    arg 1
    whnf
  all_goals (try k_fold)
  k_steps
  all_goals (try dsimp only)
  all_goals (
    show EndV s _ _ _
    rename Fr _ _ _ _ => F'
    rename News _ _ _ _ => N'
    refine EndV.intro ⟨_, _, _, _, _, _, _, _, _, _, F', N', fun y a1 a2 a3 a4 a5 => ?_, rfl, rfl, rfl, rfl, rfl, ?_, ?_⟩)
  all_goals first
    | ((try dsimp only); simp only [if_neg a1, if_neg a2, if_neg a3, if_neg a4, if_neg a5]; rw [e])
    | exact .inl ⟨by assumption, rfl, rfl, rfl, rfl⟩
    | exact .inr ⟨by assumption, rfl, rfl, rfl, rfl⟩
    | exact .inl ⟨rfl, by assumption, .inl (by assumption)⟩
    | exact .inl ⟨rfl, by assumption, .inr (.inl (by assumption))⟩
    | exact .inl ⟨rfl, by assumption, .inr (.inr (by assumption))⟩
    | exact .inr (.inl ⟨rfl, by assumption, by omega, by assumption, by simpa using (by assumption), rfl⟩)
    | exact .inr (.inr ⟨rfl, by omega, rfl⟩)
end

section
variable {w : World} {A : Around} {h₀ : Heap} {L : Addr} {s : Shared} {m : Str → Option Value} {news : List (Addr × Obj)} {mean : ExcName → Option Value} {mg mb : Str → Option Value} {loose : List Str} {Q : Flow → Shared → Prop}
  {x dx xw dw tb : Addr} {wd txt : Str} {sub res : Int} {u q : Nat → Tok} {c lb cm df i j ci cj : Int} {tc tl tk tcm tdf t1 ti tj tci tcj tb1 : Tok} {cr li lbv bra ket : Value} {n : Nat} {rest : List (Addr × Obj)} {vs : List Value} {Ts : List Ent}

def FfLoop1P (h₀ : Heap) (L : Addr) (m : Str → Option Value) (news : List (Addr × Obj)) (U : List Nat) (K : List (List Nat)) (f : Flow) (h' : Heap) : Prop :=
  f = .next ∧ ∃ m' i ci t1 t2, Fr h₀ L h' m' ∧ News h₀ L h' news ∧ (∀ y, y ≠ Str.ofString "i" → y ≠ Str.ofString "j" → y ≠ Str.ofString "common_i" → y ≠ Str.ofString "common_j" → y ≠ Str.ofString "first_key_inspected" → w1Names.contains y = false → m' y = m y) ∧
    m' (Str.ofString "i") = some (.int (i : Nat) t1) ∧ m' (Str.ofString "common_i") = some (.int (ci : Nat) t2) ∧ Fin U K i ci

theorem ff_w1_split : whBody ffW1 = ffA ++ ffFor :: ffB := by rfl
theorem ff_w1_is : ∃ p1 p2, ffW1 = .While (.Constant (.bool true) 0 p1) (whBody ffW1) [] p2 := ⟨_, _, rfl⟩

theorem muf_up0 {i j k : Nat} (hk : i + (j - i) / 2 = k) : 2 * (j - k) < 2 * (j - i) + 1 := by omega
theorem muf_dn0 {i j k : Nat} (hk : i + (j - i) / 2 = k) : 2 * (k - i) < 2 * (j - i) + 1 := by omega
theorem muf_dn {i j k : Nat} {c : Nat} (hk : i + (j - i) / 2 = k) (h : (1 : Int) < (k : Int) - i) : 2 * (k - i) + c < 2 * (j - i) + c := by omega
theorem muf_up {i j k : Nat} {c : Nat} (hk : i + (j - i) / 2 = k) (h : (1 : Int) < (j : Int) - k) : 2 * (j - k) + c < 2 * (j - i) + c := by omega
theorem ff_loop1 (hh : A.handled = none) (X₀ : (K1 w.params).In h₀) (T : Top qv loose mean mg mb h₀) (Tb : TabIs w.params h₀ tb vs Ts) (S : Sorted (keysF Ts))
  (F : Fr h₀ L s.heap m) (f1 : m (Str.ofString "i") = some (.int 0 ti)) (f2 : m (Str.ofString "j") = some (.int (Ts.length : Nat) tj)) (f3 : m (Str.ofString "common_i") = some (.int 0 tci)) (f4 : m (Str.ofString "common_j") = some (.int 0 tcj)) (f5 : m (Str.ofString "first_key_inspected") = some (.bool false))
  (f6 : m (Str.ofString "self") = some (.ref x)) (f7 : m (Str.ofString "v") = some (.ref tb)) (f8 : m (Str.ofString "c") = some (.int c tc)) (f9 : m (Str.ofString "l") = some (.int lb tl))
  (hc0 : 0 ≤ c) (hc1 : c ≤ 1000) (hl0 : lb ≤ 1000) (hl1 : c ≤ lb) (hwd : lb ≤ (wd.length : Int))
  (N : News h₀ L s.heap ((x, instObj 832 dx) :: (dx, dictOf (selfD w.params q (.str wd t1) cr li lbv bra ket) n) :: rest))
  : wpAny (model pw_ii0002_01 w) A (exec ffW1 (envFF L)) (EndV s (FfLoop1P h₀ L m ((x, instObj 832 dx) :: (dx, dictOf (selfD w.params q (.str wd t1) cr li lbv bra ket) n) :: rest) (winF wd c lb) (keysF Ts))) (fun _ _ => False) s := by
  obtain ⟨p1, p2, e0⟩ := ff_w1_is
  rw [e0]
  have hvl := Tb.len
  have hfew := Tb.few
  have hpos := Tb.pos
  have kl := keysF_len Ts
  refine ksw_while (σ := Sg) (fun _ => ((x, instObj 832 dx) :: (dx, dictOf (selfD w.params q (.str wd t1) cr li lbv bra ket) n) :: rest)) Sg.ps (fun _ => True) w1Names
    (fun g => Inv (winF wd c lb) (keysF Ts) g.i g.j g.ci g.cj ∧ (g.b = true → g.i = 0 ∧ g.j = 1)) Sg.mu ⟨0, Ts.length, 0, 0, ti, tj, tci, tcj, false⟩ F N trivial ?_ ?_ ?_
  · intro p hp
    simp only [Sg.ps, List.mem_cons, List.not_mem_nil, or_false] at hp
    rcases hp with rfl | rfl | rfl | rfl | rfl
    · exact f1
    · exact f2
    · exact f3
    · exact f4
    · exact f5
  · exact ⟨⟨hpos, by show Ts.length ≤ _; omega, by dsimp only; omega, .inl ⟨rfl, rfl⟩, .inl ⟨kl.symm, rfl⟩⟩, fun e => by cases e⟩
  · rintro ⟨i, j, ci, cj, ti, tj, tci, tcj, b⟩ uu h tk _ ⟨hI, hB⟩ F1 N1
    dsimp only at hI hB F1
    refine wTrue ?_
    rw [if_pos rfl, ff_w1_split]
    refine execs_app ffA ?_
    have I1 := hI.lt
    have I2 := hI.le
    have lo : ci ≤ 100 := by
      rcases hI.lo with ⟨_, e⟩ | ⟨d, _, s'⟩
      · omega
      · have h1 := s'.1.2.1
        obtain ⟨e, he⟩ : ∃ e, Ts[i]? = some e := ⟨_, List.getElem?_eq_getElem (by omega)⟩
        rw [keysF_get he, txt_len] at h1
        have := Tb.small e (List.mem_of_getElem? he)
        omega
    have hi : cj ≤ 100 := by
      rcases hI.hi with ⟨_, e⟩ | ⟨hj, d, _, s'⟩
      · omega
      · have h1 := s'.1.2.1
        obtain ⟨e, he⟩ : ∃ e, Ts[j]? = some e := ⟨_, List.getElem?_eq_getElem (by omega)⟩
        rw [keysF_get he, txt_len] at h1
        have := Tb.small e (List.mem_of_getElem? he)
        omega
    have hd := ff_head (A := A) (s := { s with heap := h, toks := tk }) (i := (i : Nat)) (j := (j : Nat)) (ci := (ci : Nat)) (cj := (cj : Nat)) (vs := vs) (tb := tb) hh X₀ T F1 rfl rfl rfl rfl f7 Tb.list (by omega) (by omega) (by omega) (by omega) (by omega) (by omega) N1
    refine wpAny_mono hd (fun f s₂ h2 => ?_) fun _ _ e => e.elim
    obtain ⟨h', tk', rfl, rfl, m', v, t2, t3, t4, F2, N2, hm2, g1, g2, g3, g4, g5⟩ := h2
    dsimp only
    generalize hk : i + (j - i) / 2 = k at *
    have ek : ((i : Int) + ((j : Int) - (i : Int)) / 2) = (k : Int) := by omega
    rw [ek] at g1 g5
    obtain ⟨e, he⟩ : ∃ e, Ts[k]? = some e := ⟨_, List.getElem?_eq_getElem (by omega)⟩
    obtain ⟨xw, dw, u, hv, hI2⟩ := Tb.item k e he
    rw [Int.toNat_natCast, hv] at g5
    cases g5
    have em : (if (cj : Int) < (ci : Int) then (cj : Int) else (ci : Int)) = ((min ci cj : Nat) : Int) := by
      rw [Nat.min_def]; split <;> split <;> omega
    rw [em] at g3
    have ag : Agree (winF wd c lb) (key (keysF Ts) k) (min ci cj) := hI.agree S (by omega) (by omega)
    rw [keysF_get he] at ag
    have hsm := Tb.small e (List.mem_of_getElem? he)
    refine wpAny_execs_cons ?_
    have ff := ff_for (A := A) (s := { s with heap := h', toks := tk' }) (txt := e.txt) (sub := e.sub) (res := e.res) (u := u) (q := q) (c := c) (lb := lb) (wd := wd) (t1 := t1) (cr := cr) (li := li) (lbv := lbv) (bra := bra) (ket := ket) (n := n) (x := x) (dx := dx) (xw := xw) (dw := dw) hh X₀ T F2 g3 g2
      ((hm2 _ (by decide) (by decide) (by decide) (by decide)).trans f6) g4 ((hm2 _ (by decide) (by decide) (by decide) (by decide)).trans f8) ((hm2 _ (by decide) (by decide) (by decide) (by decide)).trans f9) hc0 hc1 hl0 hl1 (by omega) hwd ag N2 hI2
    refine wpAny_mono ff (fun f s₃ h3 => ?_) fun _ _ e => e.elim
    obtain ⟨h3', tk3, rfl, rfl, m3, n', d, t5, t6, F3, N3, hm3, k1, k2, sc⟩ := h3
    dsimp only
    rw [← keysF_get he] at sc
    have c1 : m3 (Str.ofString "i") = some (.int (i : Nat) ti) := (hm3 _ (by decide) (by decide) (by decide)).trans ((hm2 _ (by decide) (by decide) (by decide) (by decide)).trans rfl)
    have c2 : m3 (Str.ofString "j") = some (.int (j : Nat) tj) := (hm3 _ (by decide) (by decide) (by decide)).trans ((hm2 _ (by decide) (by decide) (by decide) (by decide)).trans rfl)
    have c3 : m3 (Str.ofString "common_i") = some (.int (ci : Nat) tci) := (hm3 _ (by decide) (by decide) (by decide)).trans ((hm2 _ (by decide) (by decide) (by decide) (by decide)).trans rfl)
    have c4 : m3 (Str.ofString "common_j") = some (.int (cj : Nat) tcj) := (hm3 _ (by decide) (by decide) (by decide)).trans ((hm2 _ (by decide) (by decide) (by decide) (by decide)).trans rfl)
    have c5 : m3 (Str.ofString "first_key_inspected") = some (.bool b) := (hm3 _ (by decide) (by decide) (by decide)).trans ((hm2 _ (by decide) (by decide) (by decide) (by decide)).trans rfl)
    have c6 : m3 (Str.ofString "k") = some (.int (k : Nat) t2) := (hm3 _ (by decide) (by decide) (by decide)).trans g1
    have tl' := ff_tail (A := A) (s := { s with heap := h3', toks := tk3 }) (i := (i : Nat)) (j := (j : Nat)) (ci := (ci : Nat)) (cj := (cj : Nat)) (k := (k : Nat)) (cm := (n' : Nat)) (df := d) (b := b) hh X₀ T F3 c1 c2 c3 c4 c6 k2 k1 c5 (by omega) (by omega) (by omega) (by omega) (by omega) (by omega) N3
    refine wpAny_mono tl' (fun f s₄ h4 => ?_) fun _ _ e => e.elim
    obtain ⟨h4', tk4, rfl, m4, i', j', ci', cj', b', z1, z2, z3, z4, F4, N4, hm4, d1, d2, d3, d4, d5, hcase, hflow⟩ := h4
    have tr := hI.turn S hk.symm sc
    have hall : ∀ y, y ≠ Str.ofString "i" → y ≠ Str.ofString "j" → y ≠ Str.ofString "common_i" → y ≠ Str.ofString "common_j" → y ≠ Str.ofString "first_key_inspected" → w1Names.contains y = false → m4 y = m y := by
      intro y a1 a2 a3 a4 a5 a6
      have b6 : ¬ (y = Str.ofString "k") ∧ ¬ (y = Str.ofString "diff") ∧ ¬ (y = Str.ofString "common") ∧ ¬ (y = Str.ofString "w") ∧ ¬ (y = Str.ofString "i2") := by
        simp only [w1Names, List.contains_cons, List.contains_nil, Bool.or_false, Bool.or_eq_false_iff, beq_eq_false_iff_ne, ne_eq] at a6
        exact a6
      rw [hm4 y a1 a2 a3 a4 a5, hm3 y b6.2.2.1 b6.2.1 b6.2.2.2.2, hm2 y b6.2.2.1 b6.2.1 b6.1 b6.2.2.2.1]
      simp only [Sg.ps, kstB, if_neg a1, if_neg a2, if_neg a3, if_neg a4, if_neg a5]
      rw [if_neg (by rw [a6]; decide)]
    have brk : ∀ i'' ci'' : Nat, i' = i'' → ci' = ci'' → Fin (winF wd c lb) (keysF Ts) i'' ci'' → EndV s (FfLoop1P h₀ L m ((x, instObj 832 dx) :: (dx, dictOf (selfD w.params q (.str wd t1) cr li lbv bra ket) n) :: rest) (winF wd c lb) (keysF Ts)) .next { s with heap := h4', toks := tk4 } := by
      rintro i'' ci'' rfl rfl hF
      exact EndV.intro ⟨rfl, m4, i'', ci'', z1, z3, F4, N4, hall, d1, d3, hF⟩
    have nxt : ∀ g : Sg, i' = g.i → j' = g.j → ci' = g.ci → cj' = g.cj → z1 = g.ti → z2 = g.tj → z3 = g.tci → z4 = g.tcj → b' = g.b → (Inv (winF wd c lb) (keysF Ts) g.i g.j g.ci g.cj ∧ (g.b = true → g.i = 0 ∧ g.j = 1)) → g.mu < (Sg.mu ⟨i, j, ci, cj, ti, tj, tci, tcj, b⟩) →
        KswEnd h₀ L s (fun _ => ((x, instObj 832 dx) :: (dx, dictOf (selfD w.params q (.str wd t1) cr li lbv bra ket) n) :: rest)) Sg.ps (fun _ => True) w1Names m (fun g => Inv (winF wd c lb) (keysF Ts) g.i g.j g.ci g.cj ∧ (g.b = true → g.i = 0 ∧ g.j = 1)) Sg.mu ⟨i, j, ci, cj, ti, tj, tci, tcj, b⟩ { s with heap := h4', toks := tk4 } := by
      rintro g rfl rfl rfl rfl rfl rfl rfl rfl rfl hI' hmu
      refine ksw_end g F4 N4 (fun p hp => hp) trivial ?_ (fun z hz hs => ?_) hI' hmu
      · intro p hp
        simp only [Sg.ps, List.mem_cons, List.not_mem_nil, or_false] at hp
        rcases hp with rfl | rfl | rfl | rfl | rfl
        · exact d1
        · exact d2
        · exact d3
        · exact d4
        · exact d5
      · exact hall z (hz _ (.head _)) (hz _ (.tail _ (.head _))) (hz _ (.tail _ (.tail _ (.head _)))) (hz _ (.tail _ (.tail _ (.tail _ (.head _))))) (hz _ (.tail _ (.tail _ (.tail _ (.tail _ (.head _)))))) hs
    rcases hcase with ⟨hd, rfl, rfl, rfl, rfl⟩ | ⟨hd, rfl, rfl, rfl, rfl⟩
    · obtain ⟨t1', t2', t3'⟩ := tr.1 hd
      rcases hflow with ⟨rfl, q1, q2⟩ | ⟨rfl, q1, q2, q3, q4, q5⟩ | ⟨rfl, q1, q2⟩
      · refine brk i ci rfl rfl ?_
        rcases Nat.lt_or_ge i k with q | q
        · refine (t2' q (by omega)).1 ?_
          rcases q2 with q2 | q2 | q2
          · omega
          · omega
          · have := hB q2; omega
        · exact t3' (by omega)
      · refine nxt ⟨i, k, ci, n', z1, z2, z3, z4, b'⟩ rfl rfl rfl rfl rfl rfl rfl rfl rfl ⟨(t2' (by omega) (by omega)).2 (by omega), fun _ => ⟨by dsimp only; omega, by dsimp only; omega⟩⟩ ?_
        subst q4 q5
        simp only [Sg.mu]
        simp
        first | exact muf_up0 hk | exact muf_dn0 hk | omega
      · subst q2
        refine nxt ⟨i, k, ci, n', z1, z2, z3, z4, b'⟩ rfl rfl rfl rfl rfl rfl rfl rfl rfl ⟨t1' (by omega), fun e => ?_⟩ ?_
        · have := hB e; omega
        · simp only [Sg.mu]
          first | exact muf_dn hk (by assumption) | omega
    · obtain ⟨t1', t2'⟩ := tr.2 hd
      rcases hflow with ⟨rfl, q1, q2⟩ | ⟨rfl, q1, q2, q3, q4, q5⟩ | ⟨rfl, q1, q2⟩
      · exact brk k n' rfl rfl (t2' (by omega)).1
      · refine nxt ⟨k, j, n', cj, z1, z2, z3, z4, b'⟩ rfl rfl rfl rfl rfl rfl rfl rfl rfl ⟨(t2' (by omega)).2 (by omega), fun _ => ⟨by dsimp only; omega, by dsimp only; omega⟩⟩ ?_
        subst q4 q5
        simp only [Sg.mu]
        simp
        first | exact muf_up0 hk | exact muf_dn0 hk | omega
      · subst q2
        refine nxt ⟨k, j, n', cj, z1, z2, z3, z4, b'⟩ rfl rfl rfl rfl rfl rfl rfl rfl rfl ⟨t1' (by omega), fun e => ?_⟩ ?_
        · have := hB e; omega
        · simp only [Sg.mu]
          exact muf_up hk (by assumption)
end

local macro_rules | `(tactic| walk_at "subscriptTail") => `(tactic| (k_here; (with_reducible show wpAny _ _ (subscriptTail _ _ (Value.ref _) (Value.int _ _)) _ _ _); (with_unfolding_all refine' item_tab2 ?k1 ?k2 ?k3 ?k4 ?k5 ?_ ?k6; (case k1 => assumption); (case k2 => k_asm); (case k3 => omega); (case k4 => omega); (case k5 => assumption); (case k6 => with_unfolding_all rfl); k_whole)))
def ffW2 : Stmt := ixSt (fnBody (clsSt 2 14)) 8
section
variable {w : World} {A : Around} {h₀ : Heap} {L : Addr} {s : Shared} {m : Str → Option Value} {news : List (Addr × Obj)} {mean : ExcName → Option Value} {mg mb : Str → Option Value} {loose : List Str} {Q : Flow → Shared → Prop}
  {x dx xw dw tb : Addr} {wd txt : Str} {sub res : Int} {u q : Nat → Tok} {c lb cm df i j ci cj : Int} {tc tl tk tcm tdf t1 ti tj tci tcj tb1 : Tok} {cr li lbv bra ket : Value} {n : Nat} {rest : List (Addr × Obj)} {vs : List Value} {Ts : List Ent}

def FfTurn2P (P : Params) (h₀ : Heap) (L : Addr) (m : Str → Option Value) (rest : List (Addr × Obj)) (x dx : Addr) (q : Nat → Tok) (cu cr li lbv bra ket : Value) (c ci : Int) (txt : Str) (sub res : Int) (f : Flow) (h' : Heap) : Prop :=
  ∃ m', Fr h₀ L h' m' ∧
    (((txt.length : Int) ≤ ci ∧ (∃ t t', f = .ret (.int res t) ∧ News h₀ L h' ((x, instObj 832 dx) :: (dx, dictOf (selfD P q cu (.int (c + txt.length) t') li lbv bra ket) 6) :: rest))) ∨
     (¬ (txt.length : Int) ≤ ci ∧ News h₀ L h' ((x, instObj 832 dx) :: (dx, dictOf (selfD P q cu cr li lbv bra ket) 6) :: rest) ∧ ((sub < 0 ∧ ∃ t, f = .ret (.int 0 t)) ∨ (¬ sub < 0 ∧ f = .next ∧ (∃ t, m' (Str.ofString "i") = some (.int sub t)) ∧ ∀ y, y ≠ Str.ofString "i" → y ≠ Str.ofString "w" → m' y = m y))))

theorem ff_turn2 (hh : A.handled = none) (X₀ : (K1 w.params).In h₀) (T : Top qv loose mean mg mb h₀)
  (F : Fr h₀ L s.heap m) (f1 : m (Str.ofString "i") = some (.int i ti)) (f3 : m (Str.ofString "common_i") = some (.int ci tci)) (f7 : m (Str.ofString "v") = some (.ref tb)) (f6 : m (Str.ofString "self") = some (.ref x)) (f8 : m (Str.ofString "c") = some (.int c tc))
  (hl : h₀.IsList tb vs.toArray) (h0 : 0 ≤ i) (h1 : i < 1000) (hx : vs[i.toNat]? = some (.ref xw))
  (hc0 : 0 ≤ c) (hc1 : c ≤ 1000) (ht : txt.length ≤ 100) (hci : 0 ≤ ci ∧ ci ≤ 1000) (hne : @LT.lt Nat _ dx x) (hoff : OwnOff rest [x, dx])
  (N : News h₀ L s.heap ((x, instObj 832 dx) :: (dx, dictOf (selfD w.params q (.str wd t1) cr li lbv bra ket) 6) :: rest))
  (I : W.InstAt h₀ xw (amO dw) 220 (some (dictOf (amD w.params txt sub res u) 3)))
  : wpAny (model pw_ii0002_01 w) A (execs (whBody ffW2) (envFF L)) (EndV s (FfTurn2P w.params h₀ L m rest x dx q (.str wd t1) cr li lbv bra ket c ci txt sub res)) (fun _ _ => False) s := by
  have e : kstB m [(Str.ofString "i", .int i ti), (Str.ofString "common_i", .int ci tci), (Str.ofString "v", .ref tb), (Str.ofString "self", .ref x), (Str.ofString "c", .int c tc)] = m := 
    funext fun z => kstB_eq (by simp only [List.forall_mem_cons, List.not_mem_nil, false_implies, implies_true, and_true]; exact ⟨f1, f3, f7, f6, f8⟩) fun _ => rfl
  rw [← e] at F
  conv =>
    arg 3
    arg 1
    whnf
  all_goals (try k_fold)
  k_steps
  all_goals (try dsimp only)
  all_goals (
    show EndV s _ _ _
    rename Fr _ _ _ _ => F'
    rename News _ _ _ _ => N')
  · exact EndV.intro ⟨_, F', .inl ⟨by omega, _, _, rfl, N'⟩⟩
  · exact EndV.intro ⟨_, F', .inr ⟨by omega, N', .inl ⟨by assumption, _, rfl⟩⟩⟩
  · refine EndV.intro ⟨_, F', .inr ⟨by omega, N', .inr ⟨by assumption, rfl, ⟨_, rfl⟩, fun y a1 a2 => ?_⟩⟩⟩
    (try dsimp only)
    rw [if_neg a1, if_neg a2, e]

theorem ff_w2_is : ∃ p1 p2, ffW2 = .While (.Constant (.bool true) 0 p1) (whBody ffW2) [] p2 := ⟨_, _, rfl⟩
theorem ff_loop2 {i ci : Nat} (hh : A.handled = none) (X₀ : (K1 w.params).In h₀) (T : Top qv loose mean mg mb h₀) (Tb : TabIs w.params h₀ tb vs Ts) (Lk : Links (keysF Ts) (subOf Ts)) {U : List Nat}
  (F : Fr h₀ L s.heap m) (f1 : m (Str.ofString "i") = some (.int (i : Nat) ti)) (f3 : m (Str.ofString "common_i") = some (.int (ci : Nat) tci)) (f7 : m (Str.ofString "v") = some (.ref tb)) (f6 : m (Str.ofString "self") = some (.ref x)) (f8 : m (Str.ofString "c") = some (.int c tc))
  (D : Down U (keysF Ts) ci i) (hci : ci ≤ 1000)
  (hc0 : 0 ≤ c) (hc1 : c ≤ 1000) (hne : @LT.lt Nat _ dx x) (hoff : OwnOff rest [x, dx])
  (N : News h₀ L s.heap ((x, instObj 832 dx) :: (dx, dictOf (selfD w.params q (.str wd t1) cr li lbv bra ket) 6) :: rest))
  : wpAny (model pw_ii0002_01 w) A (exec ffW2 (envFF L)) (EndV s (Told w.params h₀ L rest 832 x dx q (.str wd t1) cr li lbv bra ket Ts (keysF Ts) U fun n => c + n)) (fun _ _ => False) s := by
  obtain ⟨p1, p2, e0⟩ := ff_w2_is
  rw [e0]
  have hvl := Tb.len
  have hfew := Tb.few
  have kl := keysF_len Ts
  refine ksw_while (σ := Nat × Tok) (fun _ => ((x, instObj 832 dx) :: (dx, dictOf (selfD w.params q (.str wd t1) cr li lbv bra ket) 6) :: rest)) (fun g => [(Str.ofString "i", .int (g.1 : Nat) g.2)]) (fun _ => True) [Str.ofString "w"]
    (fun g => Down U (keysF Ts) ci g.1) (fun g => g.1) (i, ti) F N trivial ?_ D ?_
  · intro p hp
    simp only [List.mem_cons, List.not_mem_nil, or_false] at hp
    subst hp
    exact f1
  · rintro ⟨i, ti⟩ uu h tk _ hD F1 N1
    dsimp only at hD F1
    refine wTrue ?_
    rw [if_pos rfl]
    have hlt := hD.lt
    obtain ⟨e, he⟩ : ∃ e, Ts[i]? = some e := ⟨_, List.getElem?_eq_getElem (by omega)⟩
    obtain ⟨xw, dw, u, hv, hI⟩ := Tb.item i e he
    have hsm := Tb.small e (List.mem_of_getElem? he)
    have hsub : subOf Ts i = e.sub := by simp [subOf, he]
    have hkl : (key (keysF Ts) i).length = e.txt.length := by rw [keysF_get he, txt_len]
    have tn := ff_turn2 (A := A) (s := { s with heap := h, toks := tk }) (i := (i : Nat)) (ci := (ci : Nat)) (txt := e.txt) (sub := e.sub) (res := e.res) (u := u) (q := q) (c := c) (wd := wd) (t1 := t1) (cr := cr) (li := li) (lbv := lbv) (bra := bra) (ket := ket) (x := x) (dx := dx) (xw := xw) (dw := dw) (tb := tb) (vs := vs) hh X₀ T F1 rfl f3 f7 f6 f8 Tb.list (by omega) (by omega) (by simpa using hv) hc0 hc1 hsm (by omega) hne hoff N1 hI
    refine wpAny_mono tn (fun f s₂ h2 => ?_) fun _ _ e => e.elim
    obtain ⟨h', tk', rfl, m', F2, hcase⟩ := h2
    rcases hcase with ⟨hle, t, t', rfl, N2⟩ | ⟨hle, N2, ⟨hs, t, rfl⟩ | ⟨hs, rfl, ⟨t, g1⟩, hm⟩⟩
    · exact EndV.intro ⟨m', some i, F2, hD.here (by rw [hkl]; omega), .inr ⟨i, e, t, t', rfl, he, rfl, N2⟩⟩
    · exact EndV.intro ⟨m', none, F2, hD.stop Lk (by rw [hkl]; omega) (by rw [hsub]; exact hs), .inl ⟨rfl, ⟨t, rfl⟩, N2⟩⟩
    · obtain ⟨D', lt'⟩ := hD.next Lk (by rw [hkl]; omega) (by rw [hsub]; omega)
      rw [hsub] at D' lt'
      refine ksw_end ((e.sub).toNat, t) F2 N2 (fun p hp => hp) trivial ?_ (fun z hz hs' => ?_) D' lt'
      · intro p hp
        simp only [List.mem_cons, List.not_mem_nil, or_false] at hp
        subst hp
        rw [g1]
        have : ((e.sub.toNat : Nat) : Int) = e.sub := by omega
        dsimp only
        rw [this]
      · have a1 := hz _ (.head _)
        have a2 : z ≠ Str.ofString "w" := by
          simp only [List.contains_cons, List.contains_nil, Bool.or_false, beq_eq_false_iff_ne, ne_eq] at hs'
          exact hs'
        rw [hm z a1 a2]
        dsimp only at a1
        simp only [kstB, if_neg a1]
        rw [if_neg (by rw [hs']; decide)]
end

local macro_rules | `(tactic| walk_at "call builtin:len") => `(tactic| (k_here; (with_reducible show wpAny _ _ (call (Value.builtin "len") [Value.ref _]) _ _ _); refine' len_tab ?k1 ?k2 ?k3 ?_; (case k1 => assumption); (case k2 => k_asm); (case k3 => assumption); k_whole))
def ffPre : List Stmt := (fnBody (clsSt 2 14)).take 7
theorem ff_split : fnBody (clsSt 2 14) = ffPre ++ ffW1 :: ffW2 :: (fnBody (clsSt 2 14)).drop 9 := by rfl
section
variable {w : World} {A A₀ : Around} {h₀ base : Heap} {L : Addr} {s : Shared} {m : Str → Option Value} {news : List (Addr × Obj)} {mean : ExcName → Option Value} {mg mb : Str → Option Value} {loose : List Str} {Q : Flow → Shared → Prop}
  {x dx xw dw tb : Addr} {wd txt : Str} {sub res : Int} {u q : Nat → Tok} {c lb cm df i j ci cj : Int} {tc tl tk tcm tdf t1 ti tj tci tcj tb1 : Tok} {cr li lbv bra ket : Value} {n : Nat} {rest : List (Addr × Obj)} {vs : List Value} {Ts : List Ent} {env : Env} {outer : List Env} {R : Result → Shared → Prop}
def FfPreP (h₀ : Heap) (L : Addr) (m : Str → Option Value) (news : List (Addr × Obj)) (c lb : Int) (nv : Nat) (f : Flow) (h' : Heap) : Prop :=
  f = .next ∧ ∃ m' ti tj tci tcj tc tl, Fr h₀ L h' m' ∧ News h₀ L h' news ∧ m' (Str.ofString "self") = m (Str.ofString "self") ∧ m' (Str.ofString "v") = m (Str.ofString "v") ∧ m' (Str.ofString "i") = some (.int 0 ti) ∧ m' (Str.ofString "j") = some (.int (nv : Nat) tj) ∧ m' (Str.ofString "common_i") = some (.int 0 tci) ∧ m' (Str.ofString "common_j") = some (.int 0 tcj) ∧
    m' (Str.ofString "first_key_inspected") = some (.bool false) ∧ m' (Str.ofString "c") = some (.int c tc) ∧ m' (Str.ofString "l") = some (.int lb tl)
theorem ff_pre (hh : A.handled = none) (X₀ : (K1 w.params).In h₀) (T : Top qv loose mean mg mb h₀)
  (F : Fr h₀ L s.heap m) (f6 : m (Str.ofString "self") = some (.ref x)) (f7 : m (Str.ofString "v") = some (.ref tb)) (hl : h₀.IsList tb vs.toArray) (hb : vs.length ≤ 1000)
  (N : News h₀ L s.heap ((x, instObj 832 dx) :: (dx, dictOf (selfD w.params q (.str wd t1) (.int c tc) (.int lb tl) lbv bra ket) 6) :: rest))
  : wpAny (model pw_ii0002_01 w) A (execs ffPre (envFF L)) (EndV s (FfPreP h₀ L m ((x, instObj 832 dx) :: (dx, dictOf (selfD w.params q (.str wd t1) (.int c tc) (.int lb tl) lbv bra ket) 6) :: rest) c lb vs.length)) (fun _ _ => False) s := by
  have e : kstB m [(Str.ofString "v", .ref tb), (Str.ofString "self", .ref x)] = m := 
    funext fun z => kstB_eq (by simp only [List.forall_mem_cons, List.not_mem_nil, false_implies, implies_true, and_true]; exact ⟨f7, f6⟩) fun _ => rfl
  rw [← e] at F
  conv =>
    arg 3
    arg 1
    whnf
  simp only [List.take_succ_cons, List.take_zero]
  all_goals (try k_fold)
  k_steps
  rename Fr _ _ _ _ => F'
  rename News _ _ _ _ => N'
  exact EndV.intro ⟨rfl, _, _, _, _, _, _, _, F', N', f6.symm, f7.symm, rfl, rfl, rfl, rfl, rfl, rfl, rfl⟩
theorem ff_code (B : Below A₀ base outer h₀) (F : Fr h₀ L s.heap m) (X₀ : (K1 w.params).In h₀) (T : Top qv loose mean mg mb h₀) (hA : A.frames = some (env :: outer)) (hf : env.frame = some L) (hke : env.scope.kind = .function)
  (hroom : A.depth < recursionLimit) (hh : A.handled = none) (Tb : TabIs w.params h₀ tb vs Ts) (S : Sorted (keysF Ts)) (Lk : Links (keysF Ts) (subOf Ts))
  (hc0 : 0 ≤ c) (hc1 : c ≤ 1000) (hl0 : lb ≤ 1000) (hl1 : c ≤ lb) (hwd : lb ≤ (wd.length : Int)) (hne : @LT.lt Nat _ dx x) (hoff : OwnOff rest [x, dx])
  (N : News h₀ L s.heap ((x, instObj 832 dx) :: (dx, dictOf (selfD w.params q (.str wd t1) (.int c tc) (.int lb tl) lbv bra ket) 6) :: rest))
  (h : ∀ v h' tk r, Fr h₀ L h' m → Best (winF wd c lb) (keysF Ts) r →
    ((r = none ∧ (∃ t, v = .int 0 t) ∧ News h₀ L h' ((x, instObj 832 dx) :: (dx, dictOf (selfD w.params q (.str wd t1) (.int c tc) (.int lb tl) lbv bra ket) 6) :: rest)) ∨
     (∃ p e t t', r = some p ∧ Ts[p]? = some e ∧ v = .int e.res t ∧ News h₀ L h' ((x, instObj 832 dx) :: (dx, dictOf (selfD w.params q (.str wd t1) (.int (c + e.txt.length) t') (.int lb tl) lbv bra ket) 6) :: rest))) →
    R (.ok (.ret v)) { s with heap := h', toks := tk }) :
  codeAny (model pw_ii0002_01 w) A (.call (.ref 133) ⟨[.ref x, .ref tb], []⟩) R s := by
  refine code_def (K := K1 w.params) B F X₀ N T hA hf hke (by k_is) (by k_is) hroom (BindsTo.of_eq rfl) (locs rfl) ?_ rfl rfl rfl (by decide)
  intro g L' h₁ FG F1 N1 B1 X1 T1
  rw [ff_split]
  refine execs_app ffPre ?_
  have hh' : (A.deeper (envFF L')).handled = none := hh
  have Tb1 := Tb.keeps FG.keep
  have pre := ff_pre (A := A.deeper (envFF L')) (s := { s with heap := h₁, toks := s.toks + 2 }) (x := x) (dx := dx) (q := q) (wd := wd) (t1 := t1) (c := c) (tc := tc) (lbv := lbv) (lb := lb) (tl := tl) (bra := bra) (ket := ket) (tb := tb) (vs := vs) hh' X1 T1 F1 rfl rfl Tb1.list (by have := Tb1.few; have := Tb1.len; omega) N1
  refine wpAny_mono pre (fun f s₂ h2 => ?_) fun _ _ e => e.elim
  obtain ⟨h2', tk2, rfl, rfl, m2, ti, tj, tci, tcj, tc2, tl2, F2, N2, g1, g2, g3, g4, g5, g6, g7, g8, g9⟩ := h2
  dsimp only
  refine wpAny_execs_cons ?_
  have l1 := ff_loop1 (A := A.deeper (envFF L')) (s := { s with heap := h2', toks := tk2 }) (x := x) (dx := dx) (q := q) (wd := wd) (t1 := t1) (c := c) (cr := .int c tc) (li := .int lb tl) (lbv := lbv) (bra := bra) (ket := ket) (n := 6) (lb := lb) hh' X1 T1 Tb1 S F2 g3 (by rw [Tb1.len] at g4; exact g4) g5 g6 g7 (g1.trans rfl) (g2.trans rfl) g8 g9 hc0 hc1 hl0 hl1 hwd N2
  refine wpAny_mono l1 (fun f s₃ h3 => ?_) fun _ _ e => e.elim
  obtain ⟨h3', tk3, rfl, rfl, m3, i, ci, t5, t6, F3, N3, hm3, k1, k2, hF⟩ := h3
  dsimp only
  refine wpAny_execs_cons ?_
  have D := hF.down S
  have hci : ci ≤ 1000 := by
    obtain ⟨hi, hF | hF⟩ := hF
    · obtain ⟨⟨d, _, sc⟩, _⟩ := hF
      have := sc.1.1
      have := winF_length (wd := wd) hc0 hl1 hwd
      omega
    · omega
  have l2 := ff_loop2 (A := A.deeper (envFF L')) (s := { s with heap := h3', toks := tk3 }) (x := x) (dx := dx) (q := q) (wd := wd) (t1 := t1) (c := c) (cr := .int c tc) (li := .int lb tl) (lbv := lbv) (bra := bra) (ket := ket) hh' X1 T1 Tb1 Lk F3 k1 k2 ((hm3 _ (by decide) (by decide) (by decide) (by decide) (by decide) (by decide)).trans (g2.trans rfl)) ((hm3 _ (by decide) (by decide) (by decide) (by decide) (by decide) (by decide)).trans (g1.trans rfl)) ((hm3 _ (by decide) (by decide) (by decide) (by decide) (by decide) (by decide)).trans g8) D hci hc0 hc1 hne hoff N3
  refine wpAny_mono l2 (fun f s₄ h4 => ?_) fun _ _ e => e.elim
  obtain ⟨h4', tk4, rfl, m4, r, F4, hb, hcase⟩ := h4
  rcases hcase with ⟨rfl, ⟨t, rfl⟩, N4⟩ | ⟨p, e, t, t', rfl, he, rfl, N4⟩
  · exact leaveK_ F4 N4 fun Ff Nb => h _ _ _ _ Ff hb (.inl ⟨rfl, ⟨t, rfl⟩, Nb⟩)
  · exact leaveK_ F4 N4 fun Ff Nb => h _ _ _ _ Ff hb (.inr ⟨p, e, t, t', rfl, he, rfl, Nb⟩)
end
end Mine
/- MLL -/
namespace Mine
theorem tick_MLL {M : Model} {A : Around} {env : Env} {p : Pos} {Q : Bool → Shared → Prop} {E : Value → Shared → Prop} {s : Shared} (h : Q true s) : wpAny M A (isTrue (.Constant (.bool true) 0 p) env (eval (.Constant (.bool true) 0 p) env)) Q E s := by
  all_goals (try k_fold)
  k_steps
  exact h
theorem reg_KL : rw_ii0002_01 = rw_ii0002_01 ∧ K1 = K1 := by
  k_fill
  exact ⟨rfl, rfl⟩
/-- a loop over the values of a list that stood before the call -/
theorem iter_vals {prog : Program} {w : World} {A : Around} {E : Value → Shared → Prop} {s : Shared} {env : Env} {h₀ : Heap} {x : Str} {body : List Stmt} {Q : Flow → Shared → Prop} {l : Addr} {vs : List Value} {m₀ : Str → Option Value} {news : List (Addr × Obj)} (J : Nat → (Str → Option Value) → Prop)
    (hh : A.handled = none) (hl : h₀.IsList l vs.toArray) (F : Fr h₀ env.locals s.heap m₀) (N : News h₀ env.locals s.heap news) (hj : J 0 m₀)
    (turn : ∀ i v m₁ h tk own, vs[i]? = some v → OwnOff own (news.map (·.1)) → J i m₁ → Fr h₀ env.locals h (fun y => if y = x then some v else m₁ y) → News h₀ env.locals h (news ++ own) →
      wpAny (model prog w) A (execs body env) (InvPostN h₀ env.locals (fun m nx => nx = news ∧ J (i + 1) m) own (news.map (·.1)) { s with heap := h, toks := tk } Q) E { s with heap := h, toks := tk })
    (done : ∀ m₁ h tk, J vs.length m₁ → Fr h₀ env.locals h m₁ → News h₀ env.locals h news → Q .next { s with heap := h, toks := tk }) :
    wpAny (model prog w) A (pyIter (.ref l)) (fun it s₂ => LoopAtV prog w A h₀ env x body Q E it s₂) E s := by
  have hls : s.heap.IsList l vs.toArray := hl.at fun o e => F.keep l o e
  obtain ⟨ol, hol, _⟩ := id hl
  have hlt : l < h₀.objs.size := Heap.lt_size hol
  have hne : l ≠ s.heap.objs.size := Nat.ne_of_lt (Nat.lt_trans (Nat.lt_of_lt_of_le hlt F.above) F.ns.lt)
  refine wpAny_pyIter_list hls ?_
  have W := Walks.list (prog := prog) (w := w) hh s.heap.objs.size l hne vs.toArray
  have hlen : vs.toArray.size = vs.length := by simp
  rw [hlen] at W
  refine loop_invN (fun i m nx => nx = news ∧ J i m) W ?_ ?_ ?_ ?_ ⟨⟨_, Heap.get?_push_size _ rfl, rfl, rfl⟩, hls.at fun o e => Heap.get?_push_of_some _ e⟩ (F.push _) (fun p hp => ⟨Heap.get?_push_of_some _ (N p hp).1, (N p hp).2⟩) ⟨rfl, hj⟩ ?_ ?_
  · intro hm
    rcases List.mem_cons.mp hm with e | hm
    · exact absurd F.ns.lt (e ▸ Nat.lt_irrefl _)
    · exact absurd (Nat.lt_of_lt_of_le hlt F.above) ((List.mem_singleton.mp hm) ▸ Nat.lt_irrefl _)
  · intro b hb
    rw [List.mem_singleton.mp hb]
    exact next_is_new F
  · intro p hp hI
    exact absurd (Heap.lt_size (N p hp).1) ((List.mem_singleton.mp hI) ▸ Nat.lt_irrefl _)
  · intro p hp hI
    rcases List.mem_cons.mp hI with e | hI
    · exact absurd (Heap.lt_size (N p hp).1) (by rw [e]; exact Nat.lt_irrefl _)
    · have h3 := (N p hp).2.2
      rw [List.mem_singleton.mp hI, hol] at h3
      cases h3
  · rintro i v m₁ nx h tk own hi hP hadr hoff ⟨rfl, hJ⟩ F₁ N₁
    exact turn i v m₁ h tk own (by simpa using hP) hoff hJ F₁ N₁
  · rintro m₁ nx h tk ⟨rfl, hJ⟩ F₁ N₁
    exact done m₁ h tk hJ F₁ N₁
abbrev envLL (L : Addr) : Env := envOf (Str.ofString "_law_longest") (fnScope (topSt 11)) L 841 (.ref 840)
def llFor : Stmt := ixSt (fnBody (topSt 11)) 1
local macro_rules | `(tactic| walk_at "getAttr ref") => `(tactic| (k_here; k_dflt (refine' get_own ?k1 ?k2 ?k3 ?k4 ?k5 ?k6 ?k7 ?k8 ?k9 ?_; (case k1 => k_asm); (case k2 => k_asm); (case k3 => exact inst_up (by assumption) (by k_asm)); (case k4 => k_is); (case k5 => k_is); (case k6 => k_is); (case k7 => k_is); (case k8 => k_get); (case k9 => k_handed); k_whole)))
def keyOf (b : Bool) (t : Str) : List Nat := if b then t.cps.toList.reverse else t.cps.toList
def keysOf (b : Bool) (T : List Ent) : List (List Nat) := T.map fun e => keyOf b e.txt
theorem keysOf_get {b : Bool} {T : List Ent} {i : Nat} {e : Ent} (h : T[i]? = some e) : key (keysOf b T) i = keyOf b e.txt := by
  simp [key, keysOf, List.getElem?_map, h]
theorem keysOf_len (b : Bool) (T : List Ent) : (keysOf b T).length = T.length := by simp [keysOf]
theorem keyOf_len (b : Bool) (t : Str) : (keyOf b t).length = t.length := by cases b <;> simp [keyOf, Str.length]
theorem slice_from' {x : Str} {k : Nat} (h : k ≤ x.length) : Txt.slice x (some ((x.length : Int) - k)) none = ⟨(x.cps.toList.drop (x.length - k)).toArray⟩ := by
  rw [slice_from_eq (by omega) (by omega) rfl]
  have e1 : ((x.length : Int) - (k : Int)).toNat = x.length - k := by omega
  rw [e1, List.take_of_length_le]
  rw [List.length_drop, txt_len]
  omega
theorem slice_to' {x : Str} {k : Nat} (h : k ≤ x.length) : Txt.slice x none (some (k : Int)) = ⟨(x.cps.toList.take k).toArray⟩ := by
  have := beq_iff_eq.mp (slice_closes_to (x := x) (j := (k : Int)) (by rw [txt_len]; omega))
  rw [this]
  congr 2
theorem str_ext {a b : Str} : a = b ↔ a.cps.toList = b.cps.toList := by
  constructor
  · rintro rfl; rfl
  · intro h; cases a; cases b; simp only [Str.mk.injEq]; exact Array.toList_inj.mp h
theorem hitB {x t : Str} {v : Bool} (hk : t.length ≤ x.length) (h : (Txt.slice x (some ((x.length : Int) - (t.length : Int))) none == t) = v) : keyOf true t <+: keyOf true x ↔ v = true := by
  rw [slice_from' hk] at h
  subst h
  simp only [keyOf, if_true, List.reverse_prefix, beq_iff_eq]
  rw [str_ext, List.suffix_iff_eq_drop, txt_len, txt_len]
  exact eq_comm
theorem hitF {x t : Str} {v : Bool} (hk : t.length ≤ x.length) (h : (Txt.slice x none (some (t.length : Int)) == t) = v) : keyOf false t <+: keyOf false x ↔ v = true := by
  rw [slice_to' hk] at h
  subst h
  simp only [keyOf, Bool.false_eq_true, if_false, beq_iff_eq]
  rw [str_ext, List.prefix_iff_eq_take, txt_len]
  exact eq_comm
theorem hit_len {b : Bool} {x t : Str} (h : keyOf b t <+: keyOf b x) : t.length ≤ x.length := by
  have := h.length_le
  rwa [keyOf_len, keyOf_len] at this
section
variable {w : World} {A A₀ : Around} {h₀ base : Heap} {L : Addr} {s : Shared} {m : Str → Option Value} {news : List (Addr × Obj)} {mean : ExcName → Option Value} {mg mb : Str → Option Value} {loose : List Str} {Q : Flow → Shared → Prop}
  {x dx xw dw tb xf df : Addr} {wd txt : Str} {sub res fsub fres : Int} {u q uf : Nat → Tok} {c lb cm i j ci cj : Int} {tc tl tk tcm tdf t1 ti tj tci tcj tb1 : Tok} {cr li lbv bra ket : Value} {n : Nat} {vs : List Value} {Ts : List Ent} {env : Env} {outer : List Env} {R : Result → Shared → Prop} {text ftxt : Str} {b : Bool}
def LlTurnP (h₀ : Heap) (L : Addr) (m : Str → Option Value) (news : List (Addr × Obj)) (b : Bool) (text txt : Str) (xw : Addr) (fl : Option Nat) (f : Flow) (h' : Heap) : Prop :=
  f = .next ∧ ∃ m', Fr h₀ L h' m' ∧ News h₀ L h' news ∧ (∀ y, y ≠ Str.ofString "size" → y ≠ Str.ofString "part" → y ≠ Str.ofString "found" → m' y = m y) ∧
    ((keyOf b txt <+: keyOf b text ∧ (∀ n ∈ fl, n < txt.length) ∧ m' (Str.ofString "found") = some (.ref xw)) ∨
     (¬ (keyOf b txt <+: keyOf b text ∧ ∀ n ∈ fl, n < txt.length) ∧ m' (Str.ofString "found") = m (Str.ofString "found")))
theorem ll_turn0 (hh : A.handled = none) (X₀ : (K1 w.params).In h₀) (T : Top qv loose mean mg mb h₀)
  (F : Fr h₀ L s.heap m) (f1 : m (Str.ofString "entry") = some (.ref xw)) (f2 : m (Str.ofString "text") = some (.str text t1)) (f3 : m (Str.ofString "behind") = some (.bool b)) (f4 : m (Str.ofString "found") = some .none)
  (ht : txt.length ≤ 100) (hx : text.length ≤ 100)
  (N : News h₀ L s.heap news)
  (I : W.InstAt h₀ xw (amO dw) 220 (some (dictOf (amD w.params txt sub res u) 3)))
  : wpAny (model pw_ii0002_01 w) A (execs (whBody llFor) (envLL L)) (EndV s (LlTurnP h₀ L m news b text txt xw none)) (fun _ _ => False) s := by
  have e : kstB m [(Str.ofString "entry", .ref xw), (Str.ofString "text", .str text t1), (Str.ofString "behind", .bool b), (Str.ofString "found", .none)] = m := 
    funext fun z => kstB_eq (by simp only [List.forall_mem_cons, List.not_mem_nil, false_implies, implies_true, and_true]; exact ⟨f1, f2, f3, f4⟩) fun _ => rfl
  rw [← e] at F
  conv =>
    arg 3
    arg 1
    whnf
  all_goals (try k_fold)
  k_steps
  all_goals (try dsimp only)
  all_goals (
    rename Fr _ _ _ _ => F'
    rename News _ _ _ _ => N'
    (try subst b)
    refine EndV.intro ⟨rfl, _, F', N', fun y a1 a2 a3 => ?_, ?_⟩
    · (try dsimp only)
      simp only [if_neg a1, if_neg a2, if_neg a3]
      rw [e])
  · exact .inl ⟨(hitB (by omega) (by assumption)).mpr rfl, fun _ h => (nomatch h), rfl⟩
  · exact .inr ⟨fun q => Bool.false_ne_true ((hitB (by omega) (by assumption)).mp q.1), f4.symm⟩
  · exact .inl ⟨(hitF (by omega) (by assumption)).mpr rfl, fun _ h => (nomatch h), rfl⟩
  · exact .inr ⟨fun q => Bool.false_ne_true ((hitF (by omega) (by assumption)).mp q.1), f4.symm⟩
  · exact .inr ⟨fun q => by have := hit_len q.1; omega, f4.symm⟩
theorem ll_turn1 (hh : A.handled = none) (X₀ : (K1 w.params).In h₀) (T : Top qv loose mean mg mb h₀)
  (F : Fr h₀ L s.heap m) (f1 : m (Str.ofString "entry") = some (.ref xw)) (f2 : m (Str.ofString "text") = some (.str text t1)) (f3 : m (Str.ofString "behind") = some (.bool b)) (f4 : m (Str.ofString "found") = some (.ref xf))
  (ht : txt.length ≤ 100) (hx : text.length ≤ 100) (hf : ftxt.length ≤ 100)
  (N : News h₀ L s.heap news)
  (I' : W.InstAt h₀ xf (amO df) 220 (some (dictOf (amD w.params ftxt fsub fres uf) 3)))
  (I : W.InstAt h₀ xw (amO dw) 220 (some (dictOf (amD w.params txt sub res u) 3)))
  : wpAny (model pw_ii0002_01 w) A (execs (whBody llFor) (envLL L)) (EndV s (LlTurnP h₀ L m news b text txt xw (some ftxt.length))) (fun _ _ => False) s := by
  have e : kstB m [(Str.ofString "entry", .ref xw), (Str.ofString "text", .str text t1), (Str.ofString "behind", .bool b), (Str.ofString "found", .ref xf)] = m := 
    funext fun z => kstB_eq (by simp only [List.forall_mem_cons, List.not_mem_nil, false_implies, implies_true, and_true]; exact ⟨f1, f2, f3, f4⟩) fun _ => rfl
  rw [← e] at F
  conv =>
    arg 3
    arg 1
    whnf
  all_goals (try k_fold)
  k_steps
  all_goals (try dsimp only)
  all_goals (
    rename Fr _ _ _ _ => F'
    rename News _ _ _ _ => N'
    (try subst b)
    refine EndV.intro ⟨rfl, _, F', N', fun y a1 a2 a3 => ?_, ?_⟩
    · (try dsimp only)
      simp only [if_neg a1, if_neg a2, if_neg a3]
      rw [e])
  all_goals first
    | exact .inl ⟨(hitB (by omega) (by assumption)).mpr rfl, fun n hn => (by cases hn; omega), rfl⟩
    | exact .inl ⟨(hitF (by omega) (by assumption)).mpr rfl, fun n hn => (by cases hn; omega), rfl⟩
    | exact .inr ⟨fun q => Bool.false_ne_true ((hitB (by omega) (by assumption)).mp q.1), f4.symm⟩
    | exact .inr ⟨fun q => Bool.false_ne_true ((hitF (by omega) (by assumption)).mp q.1), f4.symm⟩
    | exact .inr ⟨fun q => (by have := q.2 _ rfl; omega), f4.symm⟩
    | exact .inr ⟨fun q => (by have := hit_len q.1; omega), f4.symm⟩

/-- the longest hit among the first n entries -/
def Upto (U : List Nat) (K : List (List Nat)) (n : Nat) : Option Nat → Prop
  | some p => p < n ∧ key K p <+: U ∧ ∀ p', p' < n → key K p' <+: U → (key K p').length ≤ (key K p).length
  | none => ∀ p, p < n → ¬ key K p <+: U
theorem Upto.best {U : List Nat} {K : List (List Nat)} {r : Option Nat} (h : Upto U K K.length r) : Best U K r := by cases r <;> exact h
/-- what the name found holds -/
def Holds1 (P : Params) (h₀ : Heap) (Ts : List Ent) (vs : List Value) (r : Option Nat) (v : Value) : Prop :=
  (r = none ∧ v = .none) ∨ ∃ p e x dw u, r = some p ∧ Ts[p]? = some e ∧ vs[p]? = some (.ref x) ∧ v = .ref x ∧ W.InstAt h₀ x (amO dw) 220 (some (dictOf (amD P e.txt e.sub e.res u) 3))
def LlForP (P : Params) (h₀ : Heap) (L : Addr) (m : Str → Option Value) (news : List (Addr × Obj)) (b : Bool) (text : Str) (Ts : List Ent) (vs : List Value) (f : Flow) (h' : Heap) : Prop :=
  f = .next ∧ ∃ m' r v, Fr h₀ L h' m' ∧ News h₀ L h' news ∧ Best (keyOf b text) (keysOf b Ts) r ∧ m' (Str.ofString "found") = some v ∧ Holds1 P h₀ Ts vs r v
theorem ll_for_is : ∃ p1 p2 p3, llFor = .For (.Name (Str.ofString "entry") p1) (.Name (Str.ofString "table") p3) (whBody llFor) [] p2 := ⟨_, _, _, rfl⟩
theorem ll_for (hh : A.handled = none) (X₀ : (K1 w.params).In h₀) (T : Top qv loose mean mg mb h₀) (Tb : TabIs w.params h₀ tb vs Ts)
  (F : Fr h₀ L s.heap m) (f1 : m (Str.ofString "table") = some (.ref tb)) (f2 : m (Str.ofString "text") = some (.str text t1)) (f3 : m (Str.ofString "behind") = some (.bool b)) (f4 : m (Str.ofString "found") = some .none)
  (hx : text.length ≤ 100) (N : News h₀ L s.heap news)
  : wpAny (model pw_ii0002_01 w) A (exec llFor (envLL L)) (EndV s (LlForP w.params h₀ L m news b text Ts vs)) (fun _ _ => False) s := by
  obtain ⟨p1, p2, p3, e0⟩ := ll_for_is
  rw [e0]
  refine For_invV h₀ rfl rfl (ld F f1 ?_)
  refine iter_vals (news := news) (fun i m' => (∀ y, y ≠ Str.ofString "size" → y ≠ Str.ofString "part" → y ≠ Str.ofString "found" → y ≠ Str.ofString "entry" → m' y = m y) ∧ ∃ r v, Upto (keyOf b text) (keysOf b Ts) i r ∧ m' (Str.ofString "found") = some v ∧ Holds1 w.params h₀ Ts vs r v)
    hh Tb.list F N ⟨fun _ _ _ _ _ => rfl, none, .none, fun p hp => absurd hp (Nat.not_lt_zero _), f4, .inl ⟨rfl, rfl⟩⟩ ?_ ?_
  · rintro i v m₁ h tk own hv hoff ⟨hm, r, fv, hU, hf, hH⟩ F1 N1
    have hi : i < Ts.length := by rw [← Tb.len]; exact (List.getElem?_eq_some_iff.mp hv).1
    obtain ⟨e, he⟩ : ∃ e, Ts[i]? = some e := ⟨_, List.getElem?_eq_getElem hi⟩
    obtain ⟨xw, dw, u, hv', hI⟩ := Tb.item i e he
    rw [hv'] at hv
    cases hv
    have hsm := Tb.small e (List.mem_of_getElem? he)
    have g2 : m₁ (Str.ofString "text") = some (.str text t1) := (hm _ (by decide) (by decide) (by decide) (by decide)).trans f2
    have g3 : m₁ (Str.ofString "behind") = some (.bool b) := (hm _ (by decide) (by decide) (by decide) (by decide)).trans f3
    have fin : ∀ (fl : Option Nat) (f : Flow) (s₂ : Shared), (∀ p, r = some p → fl = some (key (keysOf b Ts) p).length) → (r = none → fl = none) →
        EndV { s with heap := h, toks := tk } (LlTurnP h₀ (envLL L).locals (fun y => if y = Str.ofString "entry" then some (.ref xw) else m₁ y) (news ++ own) b text e.txt xw fl) f s₂ →
        InvPostN h₀ (envLL L).locals (fun m' nx => nx = news ∧ ((∀ y, y ≠ Str.ofString "size" → y ≠ Str.ofString "part" → y ≠ Str.ofString "found" → y ≠ Str.ofString "entry" → m' y = m y) ∧ ∃ r v, Upto (keyOf b text) (keysOf b Ts) (i + 1) r ∧ m' (Str.ofString "found") = some v ∧ Holds1 w.params h₀ Ts vs r v)) own (news.map (·.1)) { s with heap := h, toks := tk } (EndV s (LlForP w.params h₀ L m news b text Ts vs)) f s₂ := by
      rintro fl f s₂ q1 q2 ⟨h', tk', rfl, rfl, m', F2, N2, hm2, hc⟩
      refine ⟨h', tk', m', _, news, rfl, F2, N2, fun p hp => List.mem_append_left _ hp, fun p hp => List.mem_append_right _ hp, rfl, rfl, fun y a1 a2 a3 a4 => ?_, ?_⟩
      · rw [hm2 y a1 a2 a3]
        dsimp only
        rw [if_neg a4]
        exact hm y a1 a2 a3 a4
      · have hk : key (keysOf b Ts) i = keyOf b e.txt := keysOf_get he
        rcases hc with ⟨c1, c2, c3⟩ | ⟨c1, c3⟩
        · refine ⟨some i, _, ?_, c3, .inr ⟨i, e, xw, dw, u, rfl, he, hv', rfl, hI⟩⟩
          refine ⟨Nat.lt_succ_self i, by rw [hk]; exact c1, fun p' hp' hpu => ?_⟩
          rcases Nat.lt_or_eq_of_le (Nat.le_of_lt_succ hp') with q | rfl
          · cases r with
            | none => exact absurd hpu (hU p' q)
            | some p =>
              have l1 := hU.2.2 p' q hpu
              have l2 := c2 _ (q1 p rfl)
              rw [hk, keyOf_len]
              omega
          · exact Nat.le_refl _
        · refine ⟨r, fv, ?_, c3.trans ?_, hH⟩
          · cases r with
            | none =>
              intro p' hp' hpu
              rcases Nat.lt_or_eq_of_le (Nat.le_of_lt_succ hp') with q | rfl
              · exact hU p' q hpu
              · refine c1 ⟨hk ▸ hpu, ?_⟩
                rw [q2 rfl]
                exact fun _ hn => (nomatch hn)
            | some p =>
              refine ⟨Nat.lt_succ_of_lt hU.1, hU.2.1, fun p' hp' hpu => ?_⟩
              rcases Nat.lt_or_eq_of_le (Nat.le_of_lt_succ hp') with q | rfl
              · exact hU.2.2 p' q hpu
              · have : ¬ ∀ n ∈ fl, n < e.txt.length := fun hn => c1 ⟨hk ▸ hpu, hn⟩
                rw [q1 p rfl] at this
                rw [hk, keyOf_len]
                exact Nat.le_of_not_lt fun hn => this fun n hn' => by cases hn'; exact hn
          · dsimp only
            rw [if_neg (by decide)]
            exact hf
    rcases hH with ⟨hr, hvn⟩ | ⟨p, e', xf, df, uf, hr, hp, hpx, hvr, hI'⟩
    · subst hr hvn
      have tn := ll_turn0 (A := A) (s := { s with heap := h, toks := tk }) (xw := xw) (dw := dw) (txt := e.txt) (sub := e.sub) (res := e.res) (u := u) (text := text) (t1 := t1) (b := b) hh X₀ T F1 rfl ((if_neg (by decide)).trans g2) ((if_neg (by decide)).trans g3) ((if_neg (by decide)).trans hf) hsm hx N1 hI
      exact wpAny_mono tn (fun f s₂ h2 => fin none f s₂ (fun p hp => (nomatch hp)) (fun _ => rfl) h2) fun _ _ e => e.elim
    · subst hr hvr
      have hsm' := Tb.small e' (List.mem_of_getElem? hp)
      have tn := ll_turn1 (A := A) (s := { s with heap := h, toks := tk }) (xw := xw) (dw := dw) (txt := e.txt) (sub := e.sub) (res := e.res) (u := u) (text := text) (t1 := t1) (b := b) (xf := xf) (df := df) (ftxt := e'.txt) (fsub := e'.sub) (fres := e'.res) (uf := uf) hh X₀ T F1 rfl ((if_neg (by decide)).trans g2) ((if_neg (by decide)).trans g3) ((if_neg (by decide)).trans hf) hsm hx hsm' N1 hI' hI
      exact wpAny_mono tn (fun f s₂ h2 => fin (some e'.txt.length) f s₂ (fun p' hp' => by cases hp'; rw [keysOf_get hp, keyOf_len]) (fun q => nomatch q) h2) fun _ _ e => e.elim
  · rintro m₁ h tk ⟨hm, r, fv, hU, hf, hH⟩ F1 N1
    refine EndV.intro ⟨rfl, m₁, r, fv, F1, N1, ?_, hf, hH⟩
    rw [Tb.len, ← keysOf_len b Ts] at hU
    exact hU.best
theorem holds1_base {P : Params} {h₀ g : Heap} {Ts : List Ent} {vs : List Value} {r : Option Nat} {v : Value} (Tb : TabIs P h₀ tb vs Ts) (H : Holds1 P g Ts vs r v) : Holds1 P h₀ Ts vs r v := by
  rcases H with H | ⟨p, e, x, dw, u, rfl, hp, hx, rfl, _⟩
  · exact .inl H
  · obtain ⟨x', dw', u', hx', I⟩ := Tb.item p e hp
    rw [hx] at hx'
    cases hx'
    exact .inr ⟨p, e, x, dw', u', rfl, hp, hx, rfl, I⟩
def LlPreP (h₀ : Heap) (L : Addr) (m : Str → Option Value) (news : List (Addr × Obj)) (f : Flow) (h' : Heap) : Prop :=
  f = .next ∧ ∃ m', Fr h₀ L h' m' ∧ News h₀ L h' news ∧ (∀ y, y ≠ Str.ofString "found" → m' y = m y) ∧ m' (Str.ofString "found") = some .none
theorem ll_pre (F : Fr h₀ L s.heap m) (N : News h₀ L s.heap news) (X₀ : (K1 w.params).In h₀) (T : Top qv loose mean mg mb h₀) :
    wpAny (model pw_ii0002_01 w) A (exec (ixSt (fnBody (topSt 11)) 0) (envLL L)) (EndV s (LlPreP h₀ L m news)) (fun _ _ => False) s := by
  conv =>
    arg 3
    arg 1
    whnf
  all_goals (try k_fold)
  k_steps
  rename Fr _ _ _ _ => F'
  rename News _ _ _ _ => N'
  exact EndV.intro ⟨rfl, _, F', N', fun y a => if_neg a, rfl⟩
def LlRetP (h₀ : Heap) (L : Addr) (m : Str → Option Value) (news : List (Addr × Obj)) (v : Value) (f : Flow) (h' : Heap) : Prop :=
  f = .ret v ∧ Fr h₀ L h' m ∧ News h₀ L h' news
theorem ll_ret {v : Value} (F : Fr h₀ L s.heap m) (f1 : m (Str.ofString "found") = some v) (N : News h₀ L s.heap news) (X₀ : (K1 w.params).In h₀) (T : Top qv loose mean mg mb h₀) :
    wpAny (model pw_ii0002_01 w) A (execs ((fnBody (topSt 11)).drop 2) (envLL L)) (EndV s (LlRetP h₀ L m news v)) (fun _ _ => False) s := by
  have e : kstB m [(Str.ofString "found", v)] = m := 
    funext fun z => kstB_eq (by simp only [List.forall_mem_cons, List.not_mem_nil, false_implies, implies_true, and_true]; exact f1) fun _ => rfl
  rw [← e] at F
  conv =>
    arg 3
    arg 1
    whnf
  all_goals (try k_fold)
  k_steps
  rename Fr _ _ _ _ => F'
  rename News _ _ _ _ => N'
  rw [e] at F'
  exact EndV.intro ⟨rfl, F', N'⟩
theorem ll_code (B : Below A₀ base outer h₀) (F : Fr h₀ L s.heap m) (X₀ : (K1 w.params).In h₀) (T : Top qv loose mean mg mb h₀) (hA : A.frames = some (env :: outer)) (hf : env.frame = some L) (hke : env.scope.kind = .function)
  (hroom : A.depth < recursionLimit) (hh : A.handled = none) (Tb : TabIs w.params h₀ tb vs Ts) (hx : text.length ≤ 100)
  (N : News h₀ L s.heap news)
  (h : ∀ v h' tk r, Fr h₀ L h' m → News h₀ L h' news → Best (keyOf b text) (keysOf b Ts) r → Holds1 w.params h₀ Ts vs r v → R (.ok (.ret v)) { s with heap := h', toks := tk }) :
  codeAny (model pw_ii0002_01 w) A (.call (.ref 841) ⟨[.ref tb, .str text t1, .bool b], []⟩) R s := by
  refine code_def (K := K1 w.params) B F X₀ N T hA hf hke (by k_is) (by k_is) hroom (BindsTo.of_eq rfl) (locs rfl) ?_ rfl rfl rfl (by decide)
  intro g L' h₁ FG F1 N1 B1 X1 T1
  have hh' : (A.deeper (envLL L')).handled = none := hh
  have Tb1 := Tb.keeps FG.keep
  have e1 : fnBody (topSt 11) = ixSt (fnBody (topSt 11)) 0 :: llFor :: (fnBody (topSt 11)).drop 2 := by rfl
  rw [e1]
  refine wpAny_execs_cons ?_
  have p0 := ll_pre (A := A.deeper (envLL L')) (s := { s with heap := h₁, toks := s.toks + 3 }) F1 N1 X1 T1
  refine wpAny_mono p0 (fun f s₂ h2 => ?_) fun _ _ e => e.elim
  obtain ⟨h2', tk2, rfl, rfl, m2, F2, N2, hm2, g2⟩ := h2
  dsimp only
  refine wpAny_execs_cons ?_
  have p1 := ll_for (A := A.deeper (envLL L')) (s := { s with heap := h2', toks := tk2 }) (tb := tb) (text := text) (t1 := t1) (b := b) hh' X1 T1 Tb1 F2 ((hm2 _ (by decide)).trans rfl) ((hm2 _ (by decide)).trans rfl) ((hm2 _ (by decide)).trans rfl) g2 hx N2
  refine wpAny_mono p1 (fun f s₃ h3 => ?_) fun _ _ e => e.elim
  obtain ⟨h3', tk3, rfl, rfl, m3, r, v, F3, N3, hB, g3, hH⟩ := h3
  dsimp only
  have p2 := ll_ret (A := A.deeper (envLL L')) (s := { s with heap := h3', toks := tk3 }) F3 g3 N3 X1 T1
  refine wpAny_mono p2 (fun f s₄ h4 => ?_) fun _ _ e => e.elim
  obtain ⟨h4', tk4, rfl, rfl, F4, N4⟩ := h4
  exact leaveK_ F4 N4 fun Fb Nb => h _ _ _ _ Fb Nb hB (holds1_base Tb hH)
end
end Mine
/- MLaw -/
namespace Mine
theorem tick_MLaw {M : Model} {A : Around} {env : Env} {p : Pos} {Q : Bool → Shared → Prop} {E : Value → Shared → Prop} {s : Shared} (h : Q true s) : wpAny M A (isTrue (.Constant (.bool true) 0 p) env (eval (.Constant (.bool true) 0 p) env)) Q E s := by
  all_goals (try k_fold)
  k_steps
  exact h
theorem reg_KLaw : rw_ii0002_01 = rw_ii0002_01 ∧ K1 = K1 := by
  k_fill
  exact ⟨rfl, rfl⟩
abbrev envLaw (L a : Addr) (cd : Value) : Env := envOf (Str.ofString "law") (fnScope (topSt 12)) L a cd
def lawBody : List Stmt := fnBody (topSt 12)
local macro_rules | `(tactic| walk_at "getAttr ref") => `(tactic| (k_here; k_dflt (refine' get_own ?k1 ?k2 ?k3 ?k4 ?k5 ?k6 ?k7 ?k8 ?k9 ?_; (case k1 => k_asm); (case k2 => k_asm); (case k3 => exact inst_up (by assumption) (by k_asm)); (case k4 => k_is); (case k5 => k_is); (case k6 => k_is); (case k7 => k_is); (case k8 => k_get); (case k9 => k_handed); k_whole)))
local macro_rules | `(tactic| walk_at "call builtin:len") => `(tactic| (k_here; (with_reducible show wpAny _ _ (call (Value.builtin "len") [Value.ref _]) _ _ _); refine' len_tab ?k1 ?k2 ?k3 ?_; (case k1 => assumption); (case k2 => k_asm); (case k3 => assumption); k_whole))
theorem item_ent {prog : Program} {w : World} {A : Around} {E : Value → Shared → Prop} {s : Shared} {value slice : PySem.Expr} {h₀ : Heap} {L : Addr} {m : Str → Option Value} {l : Addr} {vs : List Value} {Ts : List Ent} {k : Int} {u : Tok} {Q : Value → Shared → Prop} {P : Params}
    (Tb : TabIs P h₀ l vs Ts) (F : Fr h₀ L s.heap m) (h0 : 0 ≤ k) (hhi : k < (vs.length : Int)) (h : ∀ x dw u (e : Ent), W.InstAt h₀ x (amO dw) 220 (some (dictOf (amD P e.txt e.sub e.res u) 3)) → e.txt.length ≤ 100 → Q (.ref x) s)
    (hs : subscripted slice false (.ref l) (.int k u) = operate [.ref l, .int k u] (getItem (.ref l) (.int k u)) := by with_unfolding_all rfl) :
    wpAny (model prog w) A (subscriptTail value slice (.ref l) (.int k u)) Q E s := by
  have h1 := Tb.len
  have h2 := Tb.few
  obtain ⟨e, he⟩ : ∃ e, Ts[k.toNat]? = some e := ⟨_, List.getElem?_eq_getElem (by omega)⟩
  obtain ⟨x, dw, u', hv, I⟩ := Tb.item _ e he
  exact item_tab2 Tb.list F h0 (by omega) hv (h x dw u' e I (Tb.small e (List.mem_of_getElem? he))) hs
local macro_rules | `(tactic| walk_at "subscriptTail") => `(tactic| (k_here; (with_reducible show wpAny _ _ (subscriptTail _ _ (Value.ref _) (Value.int _ _)) _ _ _); (with_unfolding_all refine' item_ent ?k1 ?k2 ?k3 ?k4 ?_ ?k6; (case k1 => assumption); (case k2 => k_asm); (case k3 => omega); (case k4 => omega); (case k6 => with_unfolding_all rfl); k_whole; intro x' dw' u' e' I' l')))
section
variable {w : World} {A A₀ : Around} {h₀ base : Heap} {L a : Addr} {cd : Value} {s : Shared} {m : Str → Option Value} {news : List (Addr × Obj)} {mean : ExcName → Option Value} {mg mb : Str → Option Value} {loose : List Str} {Q : Flow → Shared → Prop}
  {l tb : Addr} {vsS vs : List Value} {ns : List Int} {p : Int} {t1 t2 t3 : Tok} {Ts : List Ent} {outer : List Env}
def LawP0 (h₀ : Heap) (L : Addr) (m : Str → Option Value) (f : Flow) (h' : Heap) : Prop :=
  f = .next ∧ ∃ m' p t, Fr h₀ L h' m' ∧ News h₀ L h' [] ∧ (∀ y, y ≠ Str.ofString "pick" → m' y = m y) ∧ m' (Str.ofString "pick") = some (.int p t) ∧ 0 ≤ p ∧ p < 7
theorem law0 (hh : A.handled = none) (X₀ : (K1 w.params).In h₀) (T : Top qv loose mean mg mb h₀) (F : Fr h₀ L s.heap m) (N : News h₀ L s.heap [])
   (hl : h₀.IsList l vsS.toArray) (hi : IntsAre vsS ns) (hn : ns.length ≤ 63) (f1 : m (Str.ofString "script") = some (.ref l)) :
   wpAny (model pw_ii0002_01 w) A (exec (ixSt lawBody 0) (envLaw L a cd)) (EndV s (LawP0 h₀ L m)) (fun _ _ => False) s := by
  have e : kstB m [(Str.ofString "script", .ref l)] = m := 
    funext fun z => kstB_eq (by simp only [List.forall_mem_cons, List.not_mem_nil, false_implies, implies_true, and_true]; exact f1) fun _ => rfl
  rw [← e] at F
  conv =>
    arg 3
    arg 1
    whnf
  all_goals (try k_fold)
  k_steps
  all_goals (
    rename Fr _ _ _ _ => F'
    rename News _ _ _ _ => N'
    refine EndV.intro ⟨rfl, _, _, _, F', N', fun y a1 => ?_, rfl, ?_, ?_⟩
    · (try dsimp only)
      rw [if_neg a1, e])
  all_goals first | omega | exact Int.fmod_nonneg_of_pos _ (by decide) | exact Int.fmod_lt_of_pos _ (by decide)
def LawP1 (h₀ : Heap) (L : Addr) (m : Str → Option Value) (p : Int) (f : Flow) (h' : Heap) : Prop :=
  f = .next ∧ ∃ m' tb, Fr h₀ L h' m' ∧ News h₀ L h' [] ∧ (∀ y, y ≠ Str.ofString "table" → m' y = m y) ∧ m' (Str.ofString "table") = some (.ref tb) ∧ (p, tb) ∈ ([(0, 330), (1, 371), (2, 381), (3, 442), (4, 465), (5, 524), (6, 666)] : List (Int × Nat))
theorem law1 (hh : A.handled = none) (X₀ : (K1 w.params).In h₀) (T : Top qv loose mean mg mb h₀) (F : Fr h₀ L s.heap m) (N : News h₀ L s.heap [])
   (f1 : m (Str.ofString "pick") = some (.int p t1)) (h0 : 0 ≤ p) (h1 : p < 7) :
   wpAny (model pw_ii0002_01 w) A (exec (ixSt lawBody 1) (envLaw L a cd)) (EndV s (LawP1 h₀ L m p)) (fun _ _ => False) s := by
  have e : kstB m [(Str.ofString "pick", .int p t1)] = m := 
    funext fun z => kstB_eq (by simp only [List.forall_mem_cons, List.not_mem_nil, false_implies, implies_true, and_true]; exact f1) fun _ => rfl
  rw [← e] at F
  conv =>
    arg 3
    arg 1
    whnf
  all_goals (try k_fold)
  k_steps
  all_goals (
    rename Fr _ _ _ _ => F'
    rename News _ _ _ _ => N'
    refine EndV.intro ⟨rfl, _, _, F', fun _ hp => (nomatch hp), fun y a1 => ?_, rfl, ?_⟩
    · (try dsimp only)
      rw [if_neg a1, e])
  all_goals (subst p; decide)
def LawP2 (h₀ : Heap) (L : Addr) (m : Str → Option Value) (f : Flow) (h' : Heap) : Prop :=
  f = .next ∧ ∃ m' t, Fr h₀ L h' m' ∧ News h₀ L h' [] ∧ (∀ y, y ≠ Str.ofString "word" → m' y = m y) ∧ m' (Str.ofString "word") = some (.str (Str.ofString "") t)
theorem law2 (X₀ : (K1 w.params).In h₀) (T : Top qv loose mean mg mb h₀) (F : Fr h₀ L s.heap m) (N : News h₀ L s.heap []) :
   wpAny (model pw_ii0002_01 w) A (exec (ixSt lawBody 2) (envLaw L a cd)) (EndV s (LawP2 h₀ L m)) (fun _ _ => False) s := by
  conv =>
    arg 3
    arg 1
    whnf
  all_goals (try k_fold)
  k_steps
  rename Fr _ _ _ _ => F'
  rename News _ _ _ _ => N'
  exact EndV.intro ⟨rfl, _, _, F', N', fun y a1 => if_neg a1, rfl⟩
def lawFor : Stmt := ixSt lawBody 3
def LawIterP (h₀ : Heap) (L : Addr) (m : Str → Option Value) (v : Value) (h' : Heap) : Prop :=
  ∃ D ws zs, v = .ref D ∧ Fr h₀ L h' m ∧ News h₀ L h' [(D, listOf (List.toArray ws) 0)] ∧ IntsAre ws zs ∧ zs.length ≤ 11
theorem law3_iter (hh : A.handled = none) (X₀ : (K1 w.params).In h₀) (T : Top qv loose mean mg mb h₀) (F : Fr h₀ L s.heap m) (N : News h₀ L s.heap [])
   (hl : h₀.IsList l vsS.toArray) (hi : IntsAre vsS ns) (hn : ns.length ≤ 63) (f1 : m (Str.ofString "script") = some (.ref l)) :
   wpAny (model pw_ii0002_01 w) A (eval (forIter lawFor) (envLaw L a cd)) (EndV s (LawIterP h₀ L m)) (fun _ _ => False) s := by
  have e : kstB m [(Str.ofString "script", .ref l)] = m := 
    funext fun z => kstB_eq (by simp only [List.forall_mem_cons, List.not_mem_nil, false_implies, implies_true, and_true]; exact f1) fun _ => rfl
  rw [← e] at F
  conv =>
    arg 3
    arg 1
    whnf
  all_goals (try k_fold)
  k_steps
  rename Fr _ _ _ _ => F'
  rename News _ _ _ _ => N'
  rename IntsAre _ _ => hI
  show EndV s _ _ _
  rw [e] at F'
  exact EndV.intro ⟨_, _, _, rfl, F', N', hI, by rw [List.length_take]; omega⟩
def LawTurnP (h₀ : Heap) (L : Addr) (m : Str → Option Value) (news : List (Addr × Obj)) (n : Nat) (f : Flow) (h' : Heap) : Prop :=
  f = .next ∧ ∃ m' wd t, Fr h₀ L h' m' ∧ News h₀ L h' news ∧ (∀ y, y ≠ Str.ofString "word" → y ≠ Str.ofString "k" → m' y = m y) ∧ m' (Str.ofString "word") = some (.str wd t) ∧ wd.length ≤ n + 100
theorem law3_turn (hh : A.handled = none) (X₀ : (K1 w.params).In h₀) (T : Top qv loose mean mg mb h₀) (Tb : TabIs w.params h₀ tb vs Ts) {number : Int} {wd : Str} {own : List (Addr × Obj)} (F : Fr h₀ L s.heap m) (N : News h₀ L s.heap own)
   (f1 : m (Str.ofString "number") = some (.int number t1)) (f2 : m (Str.ofString "table") = some (.ref tb)) (f3 : m (Str.ofString "word") = some (.str wd t2)) (hw : wd.length ≤ 2000) :
   wpAny (model pw_ii0002_01 w) A (execs (whBody lawFor) (envLaw L a cd)) (EndV s (LawTurnP h₀ L m own wd.length)) (fun _ _ => False) s := by
  have e : kstB m [(Str.ofString "number", .int number t1), (Str.ofString "table", .ref tb), (Str.ofString "word", .str wd t2)] = m := 
    funext fun z => kstB_eq (by simp only [List.forall_mem_cons, List.not_mem_nil, false_implies, implies_true, and_true]; exact ⟨f1, f2, f3⟩) fun _ => rfl
  rw [← e] at F
  have hl := Tb.list
  have hb : vs.length ≤ 1000 := by have := Tb.len; have := Tb.few; omega
  have hb1 : 0 < vs.length := by have := Tb.len; have := Tb.pos; omega
  have g0 : 0 ≤ number.fmod (26 + (vs.length : Int)) := Int.fmod_nonneg_of_pos _ (by omega)
  have g1 : number.fmod (26 + (vs.length : Int)) < 26 + (vs.length : Int) := Int.fmod_lt_of_pos _ (by omega)
  conv =>
    arg 3
    arg 1
    whnf
  all_goals (try k_fold)
  k_steps
  all_goals (
    rename Fr _ _ _ _ => F'
    rename News _ _ _ _ => N'
    refine EndV.intro ⟨rfl, _, _, _, F', N', fun y a1 a2 => ?_, rfl, ?_⟩
    · (try dsimp only)
      rw [if_neg a1, if_neg a2, e])
  · have : ∀ x i, (Txt.item x i).length = 1 := fun _ _ => rfl
    rw [Str.length_append, this]; omega
  · rw [Str.length_append]; omega
theorem lawFor_is : ∃ p1 p2, lawFor = .For (.Name (Str.ofString "number") p1) (forIter lawFor) (whBody lawFor) [] p2 := ⟨_, _, rfl⟩
def LawP3 (h₀ : Heap) (L : Addr) (m : Str → Option Value) (n : Nat) (f : Flow) (h' : Heap) : Prop :=
  f = .next ∧ ∃ m' wd t, Fr h₀ L h' m' ∧ News h₀ L h' [] ∧ (∀ y, y ≠ Str.ofString "word" → y ≠ Str.ofString "k" → y ≠ Str.ofString "number" → m' y = m y) ∧ m' (Str.ofString "word") = some (.str wd t) ∧ wd.length ≤ n
theorem law3 (hh : A.handled = none) (X₀ : (K1 w.params).In h₀) (T : Top qv loose mean mg mb h₀) (Tb : TabIs w.params h₀ tb vs Ts) (F : Fr h₀ L s.heap m) (N : News h₀ L s.heap [])
   (hl : h₀.IsList l vsS.toArray) (hi : IntsAre vsS ns) (hn : ns.length ≤ 63) (f1 : m (Str.ofString "script") = some (.ref l)) (f2 : m (Str.ofString "table") = some (.ref tb)) (f3 : m (Str.ofString "word") = some (.str (Str.ofString "") t2)) :
   wpAny (model pw_ii0002_01 w) A (exec lawFor (envLaw L a cd)) (EndV s (LawP3 h₀ L m 1100)) (fun _ _ => False) s := by
  obtain ⟨p1, p2, e0⟩ := lawFor_is
  rw [e0]
  refine For_invV h₀ rfl rfl (wpAny_mono (law3_iter hh X₀ T F N hl hi hn f1) (fun v s₁ h1 => ?_) fun _ _ e => e)
  obtain ⟨h', tk1, rfl, D, ws, zs, rfl, F1, N1, hI, hz⟩ := h1
  refine kst_listL (σ := Str × Tok) (nn := 0) (fun _ => [(D, listOf (List.toArray ws) 0)]) (fun g => [(Str.ofString "word", .str g.1 g.2)]) (fun _ => True) [Str.ofString "k"] (fun pre g => g.1.length ≤ 100 * pre.length) (Str.ofString "", t2) hh (fun _ => .head _) hI F1 N1 trivial ?_ (by show (Str.ofString "").length ≤ 0; decide) ?_ ?_
  · intro p hp
    simp only [List.mem_cons, List.not_mem_nil, or_false] at hp
    subst hp
    exact f3
  · rintro ⟨wd, t⟩ pre post n t' uu h tk own hns _ hoff _ hP F2 N2
    dsimp only at hP F2
    have hlen : pre.length ≤ 10 := by
      have := congrArg List.length hns
      rw [List.length_append, List.length_cons] at this
      omega
    have tn := law3_turn (A := A) (a := a) (cd := cd) (s := { s with heap := h, toks := tk }) (number := n) (wd := wd) (tb := tb) (own := [(D, listOf (List.toArray ws) 0)] ++ own) hh X₀ T Tb F2 N2 rfl f2 rfl (by omega)
    refine wpAny_mono tn (fun f s₂ h2 => ?_) fun _ _ e => e.elim
    obtain ⟨h2', tk2, rfl, rfl, m2, wd2, t4, F3, N3, hm2, g2, hl2⟩ := h2
    refine ⟨h2', tk2, m2, _, [(D, listOf (List.toArray ws) 0)], rfl, F3, N3, fun p hp => List.mem_append_left _ hp, fun p hp => List.mem_append_right _ hp, rfl, (wd2, t4), rfl, trivial, ?_, ?_, ?_⟩
    · intro p hp
      simp only [List.mem_cons, List.not_mem_nil, or_false] at hp
      subst hp
      exact g2
    · intro z hz hps hs'
      have a1 := hps _ (.head _)
      have a2 : z ≠ Str.ofString "k" := by
        simp only [List.contains_cons, List.contains_nil, Bool.or_false, beq_eq_false_iff_ne, ne_eq] at hs'
        exact hs'
      dsimp only at a1
      rw [hm2 z a1 a2]
      dsimp only
      rw [if_neg hz]
      simp only [kstB, if_neg a1]
      rw [if_neg (by rw [hs']; decide)]
    · dsimp only
      rw [List.length_append]
      simp only [List.length_cons, List.length_nil]
      omega
  · rintro ⟨wd, t⟩ uu h tk _ hP F2 N2
    dsimp only at hP F2
    refine EndV.intro ⟨rfl, _, wd, t, F2, fun _ hp => (nomatch hp), fun y a1 a2 a3 => ?_, rfl, by omega⟩
    rw [if_neg a3]
    simp only [kstB, if_neg a1]
    rw [if_neg]
    simp only [List.contains_cons, List.contains_nil, Bool.or_false, beq_iff_eq]
    exact a2
theorem slice18 (x : Str) : (Txt.slice x none (some 18)).length ≤ 18 := by
  rcases Nat.lt_or_ge x.length 18 with h | h
  · exact Nat.le_trans (PyProof.Txt.length_slice_le x _ _) (by omega)
  · have := slice_to' (x := x) (k := 18) h
    rw [show ((18 : Nat) : Int) = (18 : Int) from rfl] at this
    rw [this]
    show (List.toArray _).size ≤ 18
    simp
    exact Nat.min_le_left _ _
def LawP4 (h₀ : Heap) (L : Addr) (m : Str → Option Value) (f : Flow) (h' : Heap) : Prop :=
  f = .next ∧ ∃ m' wd t, Fr h₀ L h' m' ∧ News h₀ L h' [] ∧ (∀ y, y ≠ Str.ofString "word" → m' y = m y) ∧ m' (Str.ofString "word") = some (.str wd t) ∧ wd.length ≤ 18
theorem law4 {wd : Str} (X₀ : (K1 w.params).In h₀) (T : Top qv loose mean mg mb h₀) (F : Fr h₀ L s.heap m) (N : News h₀ L s.heap [])
   (f3 : m (Str.ofString "word") = some (.str wd t2)) (hw : wd.length ≤ 2000) :
   wpAny (model pw_ii0002_01 w) A (exec (ixSt lawBody 4) (envLaw L a cd)) (EndV s (LawP4 h₀ L m)) (fun _ _ => False) s := by
  have e : kstB m [(Str.ofString "word", .str wd t2)] = m := 
    funext fun z => kstB_eq (by simp only [List.forall_mem_cons, List.not_mem_nil, false_implies, implies_true, and_true]; exact f3) fun _ => rfl
  rw [← e] at F
  conv =>
    arg 3
    arg 1
    whnf
  all_goals (try k_fold)
  k_steps
  rename Fr _ _ _ _ => F'
  rename News _ _ _ _ => N'
  refine EndV.intro ⟨rfl, _, _, _, F', N', fun y a1 => ?_, rfl, slice18 _⟩
  (try dsimp only)
  rw [if_neg a1, e]
def LawP5 (h₀ : Heap) (L : Addr) (m : Str → Option Value) (n : Int) (f : Flow) (h' : Heap) : Prop :=
  f = .next ∧ ∃ m' lo t, Fr h₀ L h' m' ∧ News h₀ L h' [] ∧ (∀ y, y ≠ Str.ofString "low" → m' y = m y) ∧ m' (Str.ofString "low") = some (.int lo t) ∧ 0 ≤ lo ∧ lo ≤ n
theorem law5 {wd : Str} (hh : A.handled = none) (X₀ : (K1 w.params).In h₀) (T : Top qv loose mean mg mb h₀) (F : Fr h₀ L s.heap m) (N : News h₀ L s.heap [])
   (hl : h₀.IsList l vsS.toArray) (hi : IntsAre vsS ns) (hn : ns.length ≤ 63) (f1 : m (Str.ofString "script") = some (.ref l)) (f3 : m (Str.ofString "word") = some (.str wd t2)) (hw : wd.length ≤ 18) :
   wpAny (model pw_ii0002_01 w) A (exec (ixSt lawBody 5) (envLaw L a cd)) (EndV s (LawP5 h₀ L m wd.length)) (fun _ _ => False) s := by
  have e : kstB m [(Str.ofString "script", .ref l), (Str.ofString "word", .str wd t2)] = m := 
    funext fun z => kstB_eq (by simp only [List.forall_mem_cons, List.not_mem_nil, false_implies, implies_true, and_true]; exact ⟨f1, f3⟩) fun _ => rfl
  rw [← e] at F
  conv =>
    arg 3
    arg 1
    whnf
  all_goals (try k_fold)
  k_steps
  all_goals (
    rename Fr _ _ _ _ => F'
    rename News _ _ _ _ => N'
    refine EndV.intro ⟨rfl, _, _, _, F', N', fun y a1 => ?_, rfl, ?_, ?_⟩
    · (try dsimp only)
      rw [if_neg a1, e])
  · exact Int.fmod_nonneg_of_pos _ (by omega)
  · exact Int.le_of_lt_add_one (Int.fmod_lt_of_pos _ (by omega))
  · omega
  · omega
def LawP6 (h₀ : Heap) (L : Addr) (m : Str → Option Value) (lo n : Int) (f : Flow) (h' : Heap) : Prop :=
  f = .next ∧ ∃ m' hi t, Fr h₀ L h' m' ∧ News h₀ L h' [] ∧ (∀ y, y ≠ Str.ofString "high" → m' y = m y) ∧ m' (Str.ofString "high") = some (.int hi t) ∧ lo ≤ hi ∧ hi ≤ n
theorem law6 {wd : Str} {lo : Int} (hh : A.handled = none) (X₀ : (K1 w.params).In h₀) (T : Top qv loose mean mg mb h₀) (F : Fr h₀ L s.heap m) (N : News h₀ L s.heap [])
   (hl : h₀.IsList l vsS.toArray) (hi : IntsAre vsS ns) (hn : ns.length ≤ 63) (f1 : m (Str.ofString "script") = some (.ref l)) (f3 : m (Str.ofString "word") = some (.str wd t2)) (f4 : m (Str.ofString "low") = some (.int lo t3)) (hw : wd.length ≤ 18) (h0 : 0 ≤ lo) (h1 : lo ≤ wd.length) :
   wpAny (model pw_ii0002_01 w) A (exec (ixSt lawBody 6) (envLaw L a cd)) (EndV s (LawP6 h₀ L m lo wd.length)) (fun _ _ => False) s := by
  have e : kstB m [(Str.ofString "script", .ref l), (Str.ofString "word", .str wd t2), (Str.ofString "low", .int lo t3)] = m := 
    funext fun z => kstB_eq (by simp only [List.forall_mem_cons, List.not_mem_nil, false_implies, implies_true, and_true]; exact ⟨f1, f3, f4⟩) fun _ => rfl
  rw [← e] at F
  conv =>
    arg 3
    arg 1
    whnf
  all_goals (try k_fold)
  k_steps
  all_goals (
    rename Fr _ _ _ _ => F'
    rename News _ _ _ _ => N'
    refine EndV.intro ⟨rfl, _, _, _, F', N', fun y a1 => ?_, rfl, ?_, ?_⟩
    · (try dsimp only)
      rw [if_neg a1, e])
  · exact Int.le_add_of_nonneg_right (Int.fmod_nonneg_of_pos _ (by omega))
  · have := Int.fmod_lt_of_pos (if ns.getD (Int.toNat 2) 0 < 0 then -ns.getD (Int.toNat 2) 0 else ns.getD (Int.toNat 2) 0) (show (0 : Int) < (wd.length : Int) - lo + 1 by omega)
    omega
  · omega
  · omega
def LawP7 (P : Params) (h₀ : Heap) (L : Addr) (m : Str → Option Value) (C : Addr) (f : Flow) (h' : Heap) : Prop :=
  f = .next ∧ ∃ m' x dx q cu cr li lb br ke, @LT.lt Nat _ dx x ∧ Fr h₀ L h' m' ∧ News h₀ L h' [(x, instObj C dx), (dx, dictOf (selfD P q cu cr li lb br ke) 6)] ∧ (∀ y, y ≠ Str.ofString "stemmer" → m' y = m y) ∧ m' (Str.ofString "stemmer") = some (.ref x)
theorem news_self {P : Params} {h₀ h : Heap} {L x dx C : Addr} {t0 t1 t2 t3 t4 t5 : Tok} {cu cr li lb br ke : Value} {rest : List (Addr × Obj)} (N : News h₀ L h ((x, instObj C dx) :: (dx, dictOf [⟨PyData.keyHash P (Str.ofString "current"), .str (Str.ofString "current") t0, cu⟩, ⟨PyData.keyHash P (Str.ofString "cursor"), .str (Str.ofString "cursor") t1, cr⟩,
   ⟨PyData.keyHash P (Str.ofString "limit"), .str (Str.ofString "limit") t2, li⟩, ⟨PyData.keyHash P (Str.ofString "limit_backward"), .str (Str.ofString "limit_backward") t3, lb⟩,
   ⟨PyData.keyHash P (Str.ofString "bra"), .str (Str.ofString "bra") t4, br⟩, ⟨PyData.keyHash P (Str.ofString "ket"), .str (Str.ofString "ket") t5, ke⟩] 6) :: rest)) :
   ∃ q, News h₀ L h ((x, instObj C dx) :: (dx, dictOf (selfD P q cu cr li lb br ke) 6) :: rest) :=
  ⟨fun n => match n with | 0 => t0 | 1 => t1 | 2 => t2 | 3 => t3 | 4 => t4 | _ => t5, N⟩
theorem law7P (B : Below callerA h₀ [] h₀) (X₀ : (K1 w.params).In h₀) (T : Top qv loose mean mg mb h₀) (F : Fr h₀ L s.heap m) (N : News h₀ L s.heap [])
   (f1 : m (Str.ofString "pick") = some (.int p t1)) (h0 : 0 ≤ p) (h1 : p < 6) :
   wpAny (model pw_ii0002_01 w) (callerA.deeper (envLaw L a cd)) (exec (ixSt lawBody 7) (envLaw L a cd)) (EndV s (LawP7 w.params h₀ L m 527)) (fun _ _ => False) s := by
  have e : kstB m [(Str.ofString "pick", .int p t1)] = m := 
    funext fun z => kstB_eq (by simp only [List.forall_mem_cons, List.not_mem_nil, false_implies, implies_true, and_true]; exact f1) fun _ => rfl
  rw [← e] at F
  conv =>
    arg 3
    arg 1
    whnf
  all_goals (try k_fold)
  k_steps
  rename Fr _ _ _ _ => F'
  rename News _ _ _ _ => N'
  obtain ⟨q, N2⟩ := news_self N'
  refine EndV.intro ⟨rfl, _, _, _, q, _, _, _, _, _, _, by assumption, F', N2, fun y a1 => ?_, rfl⟩
  (try dsimp only)
  rw [if_neg a1, e]
theorem law7I (B : Below callerA h₀ [] h₀) (X₀ : (K1 w.params).In h₀) (T : Top qv loose mean mg mb h₀) (F : Fr h₀ L s.heap m) (N : News h₀ L s.heap [])
   (f1 : m (Str.ofString "pick") = some (.int p t1)) (h1 : p = 6) :
   wpAny (model pw_ii0002_01 w) (callerA.deeper (envLaw L a cd)) (exec (ixSt lawBody 7) (envLaw L a cd)) (EndV s (LawP7 w.params h₀ L m 832)) (fun _ _ => False) s := by
  have e : kstB m [(Str.ofString "pick", .int p t1)] = m := 
    funext fun z => kstB_eq (by simp only [List.forall_mem_cons, List.not_mem_nil, false_implies, implies_true, and_true]; exact f1) fun _ => rfl
  rw [← e] at F
  conv =>
    arg 3
    arg 1
    whnf
  all_goals (try k_fold)
  k_steps
  rename Fr _ _ _ _ => F'
  rename News _ _ _ _ => N'
  obtain ⟨q, N2⟩ := news_self N'
  refine EndV.intro ⟨rfl, _, _, _, q, _, _, _, _, _, _, by assumption, F', N2, fun y a1 => ?_, rfl⟩
  (try dsimp only)
  rw [if_neg a1, e]
end
end Mine
/- MTurn -/
namespace Mine
theorem tick_MTurn {M : Model} {A : Around} {env : Env} {p : Pos} {Q : Bool → Shared → Prop} {E : Value → Shared → Prop} {s : Shared} (h : Q true s) : wpAny M A (isTrue (.Constant (.bool true) 0 p) env (eval (.Constant (.bool true) 0 p) env)) Q E s := by
  all_goals (try k_fold)
  k_steps
  exact h
theorem reg_KT : rw_ii0002_01 = rw_ii0002_01 ∧ K1 = K1 := by
  k_fill
  exact ⟨rfl, rfl⟩
def lawLast : Stmt := ixSt lawBody 8
local macro_rules | `(tactic| walk_at "getAttr ref") => `(tactic| (k_here; k_dflt (refine' get_own ?k1 ?k2 ?k3 ?k4 ?k5 ?k6 ?k7 ?k8 ?k9 ?_; (case k1 => k_asm); (case k2 => k_asm); (case k3 => exact inst_up (by assumption) (by k_asm)); (case k4 => k_is); (case k5 => k_is); (case k6 => k_is); (case k7 => k_is); (case k8 => k_get); (case k9 => k_handed); k_whole)))
local macro_rules | `(tactic| walk_at "call ref") => `(tactic| (k_here; (with_reducible show wpAny _ _ (call (Value.ref 841) _ _) _ _ _); k_dflt (refine wpAny_call ?_; refine' ll_code ?B ?F ?X ?T ?hA ?hf ?hk ?room ?hh ?Tb ?hx ?N ?_; (case B => k_asm); (case F => k_asm); (case X => k_asm); (case T => k_asm); (case hA => exact rfl); (case hf => exact rfl); (case hk => exact rfl); (case room => k_room); (case hh => exact rfl); (case Tb => assumption); (case hx => assumption); (case N => k_asm); (intro v' h' tk' r' F' N' hB' hH'); dsimp only)))
section
variable {w : World} {h₀ base : Heap} {L a : Addr} {cd : Value} {s : Shared} {m : Str → Option Value} {rest : List (Addr × Obj)} {mean : ExcName → Option Value} {mg mb : Str → Option Value} {loose : List Str}
  {x dx tb : Addr} {vs : List Value} {p A1 B1 : Int} {t1 t2 t3 t4 t5 : Tok} {Ts : List Ent} {wd : Str} {q : Nat → Tok} {cu cr li lb br ke : Value} {r : Option Nat} {v : Value}
def TP0 (P : Params) (h₀ : Heap) (L : Addr) (m : Str → Option Value) (rest : List (Addr × Obj)) (C x dx : Addr) (wd : Str) (t2 : Tok) (f : Flow) (h' : Heap) : Prop :=
  f = .next ∧ ∃ q tl br ke cr lb, Fr h₀ L h' m ∧ News h₀ L h' ((x, instObj C dx) :: (dx, dictOf (selfD P q (.str wd t2) cr (.int wd.length tl) (.int 0 lb) br ke) 6) :: rest)
theorem turn0P (B : Below callerA h₀ [] h₀) (X₀ : (K1 w.params).In h₀) (T : Top qv loose mean mg mb h₀) (F : Fr h₀ L s.heap m) (hne : @LT.lt Nat _ dx x) (hoff : OwnOff rest [x, dx])
   (N : News h₀ L s.heap ((x, instObj 527 dx) :: (dx, dictOf (selfD w.params q cu cr li lb br ke) 6) :: rest))
   (f1 : m (Str.ofString "stemmer") = some (.ref x)) (f2 : m (Str.ofString "word") = some (.str wd t2)) (hw : wd.length ≤ 18) :
   wpAny (model pw_ii0002_01 w) (callerA.deeper (envLaw L a cd)) (exec (ixSt (whBody lawLast) 0) (envLaw L a cd)) (EndV s (TP0 w.params h₀ L m rest 527 x dx wd t2)) (fun _ _ => False) s := by
  have e : kstB m [(Str.ofString "stemmer", .ref x), (Str.ofString "word", .str wd t2)] = m := 
    funext fun z => kstB_eq (by simp only [List.forall_mem_cons, List.not_mem_nil, false_implies, implies_true, and_true]; exact ⟨f1, f2⟩) fun _ => rfl
  rw [← e] at F
  conv =>
    arg 3
    arg 1
    whnf
  all_goals (try k_fold)
  k_steps
  rename Fr _ _ _ _ => F'
  rename News _ _ _ _ => N'
  show EndV s _ _ _
  rw [e] at F'
  obtain ⟨q', N2⟩ := news_self N'
  exact EndV.intro ⟨rfl, q', _, _, _, _, _, F', N2⟩
def TP1 (P : Params) (h₀ : Heap) (L : Addr) (m : Str → Option Value) (news : List (Addr × Obj)) (b : Bool) (text : Str) (Ts : List Ent) (vs : List Value) (f : Flow) (h' : Heap) : Prop :=
  f = .next ∧ ∃ m' v r, Fr h₀ L h' m' ∧ News h₀ L h' news ∧ (∀ y, y ≠ Str.ofString "due" → m' y = m y) ∧ m' (Str.ofString "due") = some v ∧ Best (keyOf b text) (keysOf b Ts) r ∧ Holds1 P h₀ Ts vs r v
theorem turn1 (B : Below callerA h₀ [] h₀) (X₀ : (K1 w.params).In h₀) (T : Top qv loose mean mg mb h₀) (Tb : TabIs w.params h₀ tb vs Ts) {news : List (Addr × Obj)} (F : Fr h₀ L s.heap m)
   (N : News h₀ L s.heap news)
   (f1 : m (Str.ofString "table") = some (.ref tb)) (f2 : m (Str.ofString "word") = some (.str wd t2)) (f3 : m (Str.ofString "a") = some (.int A1 t3)) (f4 : m (Str.ofString "b") = some (.int B1 t4)) (f5 : m (Str.ofString "pick") = some (.int p t5)) (hw : wd.length ≤ 18) (h0 : 0 ≤ A1) (h1 : A1 ≤ B1) (h2 : B1 ≤ wd.length) :
   wpAny (model pw_ii0002_01 w) (callerA.deeper (envLaw L a cd)) (exec (ixSt (whBody lawLast) 1) (envLaw L a cd)) (EndV s (TP1 w.params h₀ L m news (decide (p < 6)) (Txt.slice wd (some A1) (some B1)) Ts vs)) (fun _ _ => False) s := by
  have e : kstB m [(Str.ofString "table", .ref tb), (Str.ofString "word", .str wd t2), (Str.ofString "a", .int A1 t3), (Str.ofString "b", .int B1 t4), (Str.ofString "pick", .int p t5)] = m := 
    funext fun z => kstB_eq (by simp only [List.forall_mem_cons, List.not_mem_nil, false_implies, implies_true, and_true]; exact ⟨f1, f2, f3, f4, f5⟩) fun _ => rfl
  rw [← e] at F
  have hsl : (Txt.slice wd (some A1) (some B1)).length ≤ 100 := Nat.le_trans (PyProof.Txt.length_slice_le _ _ _) (by omega)
  conv =>
    arg 3
    arg 1
    whnf
  all_goals (try k_fold)
  k_steps
  rename Fr _ _ _ _ => F'
  rename News _ _ _ _ => N'
  rename Best _ _ _ => hB
  rename Holds1 _ _ _ _ _ _ => hH
  refine EndV.intro ⟨rfl, _, _, _, F', N', fun y a1 => ?_, rfl, hB, hH⟩
  (try dsimp only)
  rw [if_neg a1, e]
/-- the window of a slice -/
theorem slice_ab {x : Str} {A1 B1 : Int} (h0 : 0 ≤ A1) (h1 : A1 ≤ B1) (h2 : B1 ≤ x.length) : (Txt.slice x (some A1) (some B1)).cps.toList = (x.cps.toList.take B1.toNat).drop A1.toNat := by
  have := beq_iff_eq.mp (slice_closes (x := x) (i := A1) (j := B1) ⟨h0, h1, by rw [txt_len]; omega⟩)
  rw [this]
  show (List.toArray _).toList = _
  rw [List.drop_take, show (B1 - A1).toNat = B1.toNat - A1.toNat by omega]
theorem slice_winB {x : Str} {A1 B1 : Int} (h0 : 0 ≤ A1) (h1 : A1 ≤ B1) (h2 : B1 ≤ x.length) : keyOf true (Txt.slice x (some A1) (some B1)) = winB x B1 A1 := by
  unfold keyOf winB
  rw [if_pos rfl, slice_ab h0 h1 h2]
theorem slice_winF {x : Str} {A1 B1 : Int} (h0 : 0 ≤ A1) (h1 : A1 ≤ B1) (h2 : B1 ≤ x.length) : keyOf false (Txt.slice x (some A1) (some B1)) = winF x A1 B1 := by
  unfold keyOf winF
  rw [if_neg (by decide), slice_ab h0 h1 h2]
theorem keysOf_B (Ts : List Ent) : keysOf true Ts = keysB Ts := rfl
theorem keysOf_F (Ts : List Ent) : keysOf false Ts = keysF Ts := rfl
local macro_rules | `(tactic| walk_at "call ref") => `(tactic| (k_here; (with_reducible show wpAny _ _ (call (Value.ref 140) _ _) _ _ _); k_dflt (refine wpAny_call ?_; refine' fb_code ?B ?F ?X ?T ?hA ?hf ?hk ?room ?hh ?Tb ?S ?Lk ?g0 ?g1 ?g2 ?g3 ?g4 ?hne ?hoff ?N ?_; (case B => k_asm); (case F => k_asm); (case X => k_asm); (case T => k_asm); (case hA => exact rfl); (case hf => exact rfl); (case hk => exact rfl); (case room => k_room); (case hh => exact rfl); (case Tb => assumption); (case S => assumption); (case Lk => assumption); (case hne => assumption); (case hoff => assumption); (case N => k_asm); (case g0 => omega); (case g1 => omega); (case g2 => omega); (case g3 => omega); (case g4 => omega); (intro v' h' tk' r' F' hB' hC'); dsimp only; (rcases hC' with ⟨hr', ⟨tv', hv'⟩, N'⟩ | ⟨p', e', tv', tw', hr', he', hv', N'⟩) <;> (subst hr' hv'; try dsimp only))))
def DueIs (Ts : List Ent) (r : Option Nat) (res : Int) : Prop := (r = none ∧ res = 0) ∨ ∃ p e, r = some p ∧ Ts[p]? = some e ∧ res = e.res
def TP2 (P : Params) (h₀ : Heap) (L : Addr) (m : Str → Option Value) (rest : List (Addr × Obj)) (C x dx : Addr) (wd : Str) (t2 : Tok) (Ts : List Ent) (r : Option Nat) (f : Flow) (h' : Heap) : Prop :=
  f = .next ∧ ∃ m' q res pl t t' t'' li lb br ke, Fr h₀ L h' m' ∧ News h₀ L h' ((x, instObj C dx) :: (dx, dictOf (selfD P q (.str wd t2) (.int pl t'') li lb br ke) 6) :: rest) ∧ (∀ y, y ≠ Str.ofString "told" → y ≠ Str.ofString "place" → m' y = m y) ∧
    m' (Str.ofString "told") = some (.int res t) ∧ m' (Str.ofString "place") = some (.int pl t') ∧ DueIs Ts r res
theorem turn2P (B : Below callerA h₀ [] h₀) (X₀ : (K1 w.params).In h₀) (T : Top qv loose mean mg mb h₀) (Tb : TabIs w.params h₀ tb vs Ts) (S : Sorted (keysB Ts)) (Lk : Links (keysB Ts) (subOf Ts)) (F : Fr h₀ L s.heap m) (hne : @LT.lt Nat _ dx x) (hoff : OwnOff rest [x, dx])
   (N : News h₀ L s.heap ((x, instObj 527 dx) :: (dx, dictOf (selfD w.params q (.str wd t2) cr li lb br ke) 6) :: rest))
   (f0 : m (Str.ofString "stemmer") = some (.ref x)) (f1 : m (Str.ofString "table") = some (.ref tb)) (f3 : m (Str.ofString "a") = some (.int A1 t3)) (f4 : m (Str.ofString "b") = some (.int B1 t4)) (f5 : m (Str.ofString "pick") = some (.int p t5)) (f6 : m (Str.ofString "due") = some v) (hp : p < 6) (hw : wd.length ≤ 18) (h0 : 0 ≤ A1) (h1 : A1 ≤ B1) (h2 : B1 ≤ wd.length)
   (hB : Best (winB wd B1 A1) (keysB Ts) r) (hH : Holds1 w.params h₀ Ts vs r v) :
   wpAny (model pw_ii0002_01 w) (callerA.deeper (envLaw L a cd)) (exec (ixSt (whBody lawLast) 2) (envLaw L a cd)) (EndV s (TP2 w.params h₀ L m rest 527 x dx wd t2 Ts r)) (fun _ _ => False) s := by
  have e : kstB m [(Str.ofString "stemmer", .ref x), (Str.ofString "table", .ref tb), (Str.ofString "a", .int A1 t3), (Str.ofString "b", .int B1 t4), (Str.ofString "pick", .int p t5), (Str.ofString "due", v)] = m := 
    funext fun z => kstB_eq (by simp only [List.forall_mem_cons, List.not_mem_nil, false_implies, implies_true, and_true]; exact ⟨f0, f1, f3, f4, f5, f6⟩) fun _ => rfl
  rw [← e] at F
  rcases hH with ⟨rfl, rfl⟩ | ⟨pr, er, xr, dr, ur, rfl, hpr, hxr, rfl, I⟩
  · conv =>
      arg 3
      arg 1
      whnf
    all_goals (try k_fold)
    k_steps
    all_goals (
      rename Best _ _ _ => hB2
      have hu := Best.unique S hB2 hB)
    · rename Fr _ _ _ _ => F'
      rename News _ _ _ _ => N'
      refine EndV.intro ⟨rfl, _, q, 0, B1, _, _, _, _, _, _, _, F', N', fun y a1 a2 => ?_, rfl, rfl, .inl ⟨rfl, rfl⟩⟩
      (try dsimp only)
      simp only [if_neg a1, if_neg a2]
      rw [e]
    · cases hu
  · conv =>
      arg 3
      arg 1
      whnf
    have hsm := Tb.small er (List.mem_of_getElem? hpr)
    all_goals (try k_fold)
    k_steps
    all_goals (
      rename Best _ _ _ => hB2
      have hu := Best.unique S hB2 hB)
    · cases hu
    · cases hu
      rename Ts[pr]? = some _ => he'
      rw [hpr] at he'
      cases he'
      rename Fr _ _ _ _ => F'
      rename News _ _ _ _ => N'
      refine EndV.intro ⟨rfl, _, q, er.res, B1 - er.txt.length, _, _, _, _, _, _, _, F', N', fun y a1 a2 => ?_, rfl, rfl, .inr ⟨pr, er, rfl, hpr, rfl⟩⟩
      (try dsimp only)
      simp only [if_neg a1, if_neg a2]
      rw [e]
def TP3 (h₀ : Heap) (L : Addr) (m : Str → Option Value) (news : List (Addr × Obj)) (f : Flow) (h' : Heap) : Prop := f = .next ∧ Fr h₀ L h' m ∧ News h₀ L h' news
theorem turn3P {res pl : Int} (B : Below callerA h₀ [] h₀) (X₀ : (K1 w.params).In h₀) (T : Top qv loose mean mg mb h₀) (F : Fr h₀ L s.heap m)
   (N : News h₀ L s.heap ((x, instObj 527 dx) :: (dx, dictOf (selfD w.params q cu (.int pl t2) li lb br ke) 6) :: rest))
   (f0 : m (Str.ofString "stemmer") = some (.ref x)) (f1 : m (Str.ofString "told") = some (.int res t3)) (f2 : m (Str.ofString "place") = some (.int pl t4)) (f3 : m (Str.ofString "due") = some v)
   (hD : DueIs Ts r res) (hH : Holds1 w.params h₀ Ts vs r v) :
   wpAny (model pw_ii0002_01 w) (callerA.deeper (envLaw L a cd)) (exec (ixSt (whBody lawLast) 3) (envLaw L a cd)) (EndV s (TP3 h₀ L m ((x, instObj 527 dx) :: (dx, dictOf (selfD w.params q cu (.int pl t2) li lb br ke) 6) :: rest))) (fun _ _ => False) s := by
  have e : kstB m [(Str.ofString "stemmer", .ref x), (Str.ofString "told", .int res t3), (Str.ofString "place", .int pl t4), (Str.ofString "due", v)] = m := 
    funext fun z => kstB_eq (by simp only [List.forall_mem_cons, List.not_mem_nil, false_implies, implies_true, and_true]; exact ⟨f0, f1, f2, f3⟩) fun _ => rfl
  rw [← e] at F
  rcases hH with ⟨hr, rfl⟩ | ⟨pr, er, xr, dr, ur, hr, hpr, hxr, rfl, I⟩
  · have hres : res = 0 := by
      rcases hD with ⟨_, h⟩ | ⟨p, e, h, _⟩
      · exact h
      · rw [hr] at h; cases h
    conv =>
      arg 3
      arg 1
      whnf
    all_goals (try k_fold)
    k_steps
    all_goals (try dsimp only)
    all_goals first
      | (exfalso; omega)
      | (rename Fr _ _ _ _ => F'
         rename News _ _ _ _ => N'
         show EndV s _ _ _
         rw [e] at F'
         exact EndV.intro ⟨rfl, F', N'⟩)
  · have hres : res = er.res := by
      rcases hD with ⟨h, _⟩ | ⟨p, e, h, he, h'⟩
      · rw [hr] at h; cases h
      · rw [hr] at h; cases h
        rw [hpr] at he; cases he
        exact h'
    conv =>
      arg 3
      arg 1
      whnf
    all_goals (try k_fold)
    k_steps
    all_goals (try dsimp only)
    all_goals first
      | (exfalso; omega)
      | (rename Fr _ _ _ _ => F'
         rename News _ _ _ _ => N'
         show EndV s _ _ _
         rw [e] at F'
         exact EndV.intro ⟨rfl, F', N'⟩)
theorem turn4P (B : Below callerA h₀ [] h₀) (X₀ : (K1 w.params).In h₀) (T : Top qv loose mean mg mb h₀) (F : Fr h₀ L s.heap m)
   (N : News h₀ L s.heap ((x, instObj 527 dx) :: (dx, dictOf (selfD w.params q (.str wd t1) cr li lb br ke) 6) :: rest))
   (f0 : m (Str.ofString "stemmer") = some (.ref x)) (f1 : m (Str.ofString "word") = some (.str wd t2)) (hw : wd.length ≤ 18) :
   wpAny (model pw_ii0002_01 w) (callerA.deeper (envLaw L a cd)) (exec (ixSt (whBody lawLast) 4) (envLaw L a cd)) (EndV s (TP3 h₀ L m ((x, instObj 527 dx) :: (dx, dictOf (selfD w.params q (.str wd t1) cr li lb br ke) 6) :: rest))) (fun _ _ => False) s := by
  have e : kstB m [(Str.ofString "stemmer", .ref x), (Str.ofString "word", .str wd t2)] = m := 
    funext fun z => kstB_eq (by simp only [List.forall_mem_cons, List.not_mem_nil, false_implies, implies_true, and_true]; exact ⟨f0, f1⟩) fun _ => rfl
  rw [← e] at F
  conv =>
    arg 3
    arg 1
    whnf
  all_goals (try k_fold)
  k_steps
  all_goals (try dsimp only)
  all_goals first
    | (exfalso; rename (_ != _) = true => hx; simp at hx; done)
    | (rename Fr _ _ _ _ => F'
       rename News _ _ _ _ => N'
       show EndV s _ _ _
       rw [e] at F'
       exact EndV.intro ⟨rfl, F', N'⟩)
def TurnP (P : Params) (h₀ : Heap) (L : Addr) (m : Str → Option Value) (rest : List (Addr × Obj)) (C x dx : Addr) (f : Flow) (h' : Heap) : Prop :=
  f = .next ∧ ∃ m' q cu cr li lb br ke, Fr h₀ L h' m' ∧ News h₀ L h' ((x, instObj C dx) :: (dx, dictOf (selfD P q cu cr li lb br ke) 6) :: rest) ∧ (∀ y, y ≠ Str.ofString "told" → y ≠ Str.ofString "place" → y ≠ Str.ofString "due" → m' y = m y)
theorem last_split : whBody lawLast = [ixSt (whBody lawLast) 0, ixSt (whBody lawLast) 1, ixSt (whBody lawLast) 2, ixSt (whBody lawLast) 3, ixSt (whBody lawLast) 4] := by rfl
theorem turnP (B : Below callerA h₀ [] h₀) (X₀ : (K1 w.params).In h₀) (T : Top qv loose mean mg mb h₀) (Tb : TabIs w.params h₀ tb vs Ts) (S : Sorted (keysB Ts)) (Lk : Links (keysB Ts) (subOf Ts)) (F : Fr h₀ L s.heap m) (hne : @LT.lt Nat _ dx x) (hoff : OwnOff rest [x, dx])
   (N : News h₀ L s.heap ((x, instObj 527 dx) :: (dx, dictOf (selfD w.params q cu cr li lb br ke) 6) :: rest))
   (f0 : m (Str.ofString "stemmer") = some (.ref x)) (f1 : m (Str.ofString "table") = some (.ref tb)) (f2 : m (Str.ofString "word") = some (.str wd t2)) (f3 : m (Str.ofString "a") = some (.int A1 t3)) (f4 : m (Str.ofString "b") = some (.int B1 t4)) (f5 : m (Str.ofString "pick") = some (.int p t5)) (hp : p < 6) (hw : wd.length ≤ 18) (h0 : 0 ≤ A1) (h1 : A1 ≤ B1) (h2 : B1 ≤ wd.length) :
   wpAny (model pw_ii0002_01 w) (callerA.deeper (envLaw L a cd)) (execs (whBody lawLast) (envLaw L a cd)) (EndV s (TurnP w.params h₀ L m rest 527 x dx)) (fun _ _ => False) s := by
  rw [last_split]
  refine wpAny_execs_cons (wpAny_mono (turn0P B X₀ T F hne hoff N f0 f2 hw) (fun f s₁ hx => ?_) fun _ _ e => e)
  obtain ⟨h', tk1, rfl, rfl, q1, tl, br1, ke1, cr1, lb1, F1, N1⟩ := hx
  dsimp only
  refine wpAny_execs_cons (wpAny_mono (turn1 (s := { s with heap := h', toks := tk1 }) B X₀ T Tb F1 N1 f1 f2 f3 f4 f5 hw h0 h1 h2) (fun f s₁ hx => ?_) fun _ _ e => e)
  obtain ⟨h2', tk2, rfl, rfl, m2, v, r, F2, N2, hm2, g2, hB, hH⟩ := hx
  dsimp only
  have hpb : decide (p < 6) = true := decide_eq_true hp
  rw [hpb, slice_winB h0 h1 h2, keysOf_B] at hB
  have on : ∀ y, y ≠ Str.ofString "due" → ∀ z, m y = z → m2 y = z := fun y hy z hz => (hm2 y hy).trans hz
  refine wpAny_execs_cons (wpAny_mono (turn2P (s := { s with heap := h2', toks := tk2 }) B X₀ T Tb S Lk F2 hne hoff N2 (on _ (by decide) _ f0) (on _ (by decide) _ f1) (on _ (by decide) _ f3) (on _ (by decide) _ f4) (on _ (by decide) _ f5) g2 hp hw h0 h1 h2 hB hH) (fun f s₁ hx => ?_) fun _ _ e => e)
  obtain ⟨h3', tk3, rfl, rfl, m3, q3, res, pl, t, t', t'', li3, lb3, br3, ke3, F3, N3, hm3, k1, k2, hD⟩ := hx
  dsimp only
  have on3 : ∀ y, y ≠ Str.ofString "due" → y ≠ Str.ofString "told" → y ≠ Str.ofString "place" → ∀ z, m y = z → m3 y = z := fun y hy h1 h2 z hz => (hm3 y h1 h2).trans ((hm2 y hy).trans hz)
  refine wpAny_execs_cons (wpAny_mono (turn3P (s := { s with heap := h3', toks := tk3 }) B X₀ T F3 N3 (on3 _ (by decide) (by decide) (by decide) _ f0) k1 k2 ((hm3 _ (by decide) (by decide)).trans g2) hD hH) (fun f s₁ hx => ?_) fun _ _ e => e)
  obtain ⟨h4', tk4, rfl, rfl, F4, N4⟩ := hx
  dsimp only
  refine wpAny_execs_cons (wpAny_mono (turn4P (s := { s with heap := h4', toks := tk4 }) B X₀ T F4 N4 (on3 _ (by decide) (by decide) (by decide) _ f0) (on3 _ (by decide) (by decide) (by decide) _ f2) hw) (fun f s₁ hx => ?_) fun _ _ e => e)
  obtain ⟨h5', tk5, rfl, rfl, F5, N5⟩ := hx
  dsimp only
  refine wpAny_execs_nil ?_
  exact EndV.intro ⟨rfl, m3, q3, _, _, _, _, _, _, F5, N5, fun y a1 a2 a3 => (hm3 y a1 a2).trans (hm2 y a3)⟩
end
end Mine
/- MTurnI -/
namespace Mine
theorem tick_MTurnI {M : Model} {A : Around} {env : Env} {p : Pos} {Q : Bool → Shared → Prop} {E : Value → Shared → Prop} {s : Shared} (h : Q true s) : wpAny M A (isTrue (.Constant (.bool true) 0 p) env (eval (.Constant (.bool true) 0 p) env)) Q E s := by
  all_goals (try k_fold)
  k_steps
  exact h
theorem reg_KTI : rw_ii0002_01 = rw_ii0002_01 ∧ K1 = K1 := by
  k_fill
  exact ⟨rfl, rfl⟩
local macro_rules | `(tactic| walk_at "getAttr ref") => `(tactic| (k_here; k_dflt (refine' get_own ?k1 ?k2 ?k3 ?k4 ?k5 ?k6 ?k7 ?k8 ?k9 ?_; (case k1 => k_asm); (case k2 => k_asm); (case k3 => exact inst_up (by assumption) (by k_asm)); (case k4 => k_is); (case k5 => k_is); (case k6 => k_is); (case k7 => k_is); (case k8 => k_get); (case k9 => k_handed); k_whole)))
section
variable {w : World} {h₀ base : Heap} {L a : Addr} {cd : Value} {s : Shared} {m : Str → Option Value} {rest : List (Addr × Obj)} {mean : ExcName → Option Value} {mg mb : Str → Option Value} {loose : List Str}
  {x dx tb : Addr} {vs : List Value} {p A1 B1 : Int} {t1 t2 t3 t4 t5 : Tok} {Ts : List Ent} {wd : Str} {q : Nat → Tok} {cu cr li lb br ke : Value} {r : Option Nat} {v : Value}
theorem turn0I (B : Below callerA h₀ [] h₀) (X₀ : (K1 w.params).In h₀) (T : Top qv loose mean mg mb h₀) (F : Fr h₀ L s.heap m) (hne : @LT.lt Nat _ dx x) (hoff : OwnOff rest [x, dx])
   (N : News h₀ L s.heap ((x, instObj 832 dx) :: (dx, dictOf (selfD w.params q cu cr li lb br ke) 6) :: rest))
   (f1 : m (Str.ofString "stemmer") = some (.ref x)) (f2 : m (Str.ofString "word") = some (.str wd t2)) (hw : wd.length ≤ 18) :
   wpAny (model pw_ii0002_01 w) (callerA.deeper (envLaw L a cd)) (exec (ixSt (whBody lawLast) 0) (envLaw L a cd)) (EndV s (TP0 w.params h₀ L m rest 832 x dx wd t2)) (fun _ _ => False) s := by
  have e : kstB m [(Str.ofString "stemmer", .ref x), (Str.ofString "word", .str wd t2)] = m := 
    funext fun z => kstB_eq (by simp only [List.forall_mem_cons, List.not_mem_nil, false_implies, implies_true, and_true]; exact ⟨f1, f2⟩) fun _ => rfl
  rw [← e] at F
  conv =>
    arg 3
    arg 1
    whnf
  all_goals (try k_fold)
  k_steps
  rename Fr _ _ _ _ => F'
  rename News _ _ _ _ => N'
  show EndV s _ _ _
  rw [e] at F'
  obtain ⟨q', N2⟩ := news_self N'
  exact EndV.intro ⟨rfl, q', _, _, _, _, _, F', N2⟩
local macro_rules | `(tactic| walk_at "call ref") => `(tactic| (k_here; (with_reducible show wpAny _ _ (call (Value.ref 133) _ _) _ _ _); k_dflt (refine wpAny_call ?_; refine' ff_code ?B ?F ?X ?T ?hA ?hf ?hk ?room ?hh ?Tb ?S ?Lk ?g0 ?g1 ?g2 ?g3 ?g4 ?hne ?hoff ?N ?_; (case B => k_asm); (case F => k_asm); (case X => k_asm); (case T => k_asm); (case hA => exact rfl); (case hf => exact rfl); (case hk => exact rfl); (case room => k_room); (case hh => exact rfl); (case Tb => assumption); (case S => assumption); (case Lk => assumption); (case hne => assumption); (case hoff => assumption); (case N => k_asm); (case g0 => omega); (case g1 => omega); (case g2 => omega); (case g3 => omega); (case g4 => omega); (intro v' h' tk' r' F' hB' hC'); dsimp only; (rcases hC' with ⟨hr', ⟨tv', hv'⟩, N'⟩ | ⟨p', e', tv', tw', hr', he', hv', N'⟩) <;> (subst hr' hv'; try dsimp only))))
theorem turn2I (B : Below callerA h₀ [] h₀) (X₀ : (K1 w.params).In h₀) (T : Top qv loose mean mg mb h₀) (Tb : TabIs w.params h₀ tb vs Ts) (S : Sorted (keysF Ts)) (Lk : Links (keysF Ts) (subOf Ts)) (F : Fr h₀ L s.heap m) (hne : @LT.lt Nat _ dx x) (hoff : OwnOff rest [x, dx])
   (N : News h₀ L s.heap ((x, instObj 832 dx) :: (dx, dictOf (selfD w.params q (.str wd t2) cr li lb br ke) 6) :: rest))
   (f0 : m (Str.ofString "stemmer") = some (.ref x)) (f1 : m (Str.ofString "table") = some (.ref tb)) (f3 : m (Str.ofString "a") = some (.int A1 t3)) (f4 : m (Str.ofString "b") = some (.int B1 t4)) (f5 : m (Str.ofString "pick") = some (.int p t5)) (f6 : m (Str.ofString "due") = some v) (hp : p = 6) (hw : wd.length ≤ 18) (h0 : 0 ≤ A1) (h1 : A1 ≤ B1) (h2 : B1 ≤ wd.length)
   (hB : Best (winF wd A1 B1) (keysF Ts) r) (hH : Holds1 w.params h₀ Ts vs r v) :
   wpAny (model pw_ii0002_01 w) (callerA.deeper (envLaw L a cd)) (exec (ixSt (whBody lawLast) 2) (envLaw L a cd)) (EndV s (TP2 w.params h₀ L m rest 832 x dx wd t2 Ts r)) (fun _ _ => False) s := by
  have e : kstB m [(Str.ofString "stemmer", .ref x), (Str.ofString "table", .ref tb), (Str.ofString "a", .int A1 t3), (Str.ofString "b", .int B1 t4), (Str.ofString "pick", .int p t5), (Str.ofString "due", v)] = m := 
    funext fun z => kstB_eq (by simp only [List.forall_mem_cons, List.not_mem_nil, false_implies, implies_true, and_true]; exact ⟨f0, f1, f3, f4, f5, f6⟩) fun _ => rfl
  rw [← e] at F
  rcases hH with ⟨rfl, rfl⟩ | ⟨pr, er, xr, dr, ur, rfl, hpr, hxr, rfl, I⟩
  · conv =>
      arg 3
      arg 1
      whnf
    all_goals (try k_fold)
    k_steps
    all_goals (
      rename Best _ _ _ => hB2
      have hu := Best.unique S hB2 hB)
    · rename Fr _ _ _ _ => F'
      rename News _ _ _ _ => N'
      refine EndV.intro ⟨rfl, _, q, 0, A1, _, _, _, _, _, _, _, F', N', fun y a1 a2 => ?_, rfl, rfl, .inl ⟨rfl, rfl⟩⟩
      (try dsimp only)
      simp only [if_neg a1, if_neg a2]
      rw [e]
    · cases hu
  · conv =>
      arg 3
      arg 1
      whnf
    have hsm := Tb.small er (List.mem_of_getElem? hpr)
    all_goals (try k_fold)
    k_steps
    all_goals (
      rename Best _ _ _ => hB2
      have hu := Best.unique S hB2 hB)
    · cases hu
    · cases hu
      rename Ts[pr]? = some _ => he'
      rw [hpr] at he'
      cases he'
      rename Fr _ _ _ _ => F'
      rename News _ _ _ _ => N'
      refine EndV.intro ⟨rfl, _, q, er.res, A1 + er.txt.length, _, _, _, _, _, _, _, F', N', fun y a1 a2 => ?_, rfl, rfl, .inr ⟨pr, er, rfl, hpr, rfl⟩⟩
      (try dsimp only)
      simp only [if_neg a1, if_neg a2]
      rw [e]
theorem turn3I {res pl : Int} (B : Below callerA h₀ [] h₀) (X₀ : (K1 w.params).In h₀) (T : Top qv loose mean mg mb h₀) (F : Fr h₀ L s.heap m)
   (N : News h₀ L s.heap ((x, instObj 832 dx) :: (dx, dictOf (selfD w.params q cu (.int pl t2) li lb br ke) 6) :: rest))
   (f0 : m (Str.ofString "stemmer") = some (.ref x)) (f1 : m (Str.ofString "told") = some (.int res t3)) (f2 : m (Str.ofString "place") = some (.int pl t4)) (f3 : m (Str.ofString "due") = some v)
   (hD : DueIs Ts r res) (hH : Holds1 w.params h₀ Ts vs r v) :
   wpAny (model pw_ii0002_01 w) (callerA.deeper (envLaw L a cd)) (exec (ixSt (whBody lawLast) 3) (envLaw L a cd)) (EndV s (TP3 h₀ L m ((x, instObj 832 dx) :: (dx, dictOf (selfD w.params q cu (.int pl t2) li lb br ke) 6) :: rest))) (fun _ _ => False) s := by
  have e : kstB m [(Str.ofString "stemmer", .ref x), (Str.ofString "told", .int res t3), (Str.ofString "place", .int pl t4), (Str.ofString "due", v)] = m := 
    funext fun z => kstB_eq (by simp only [List.forall_mem_cons, List.not_mem_nil, false_implies, implies_true, and_true]; exact ⟨f0, f1, f2, f3⟩) fun _ => rfl
  rw [← e] at F
  rcases hH with ⟨hr, rfl⟩ | ⟨pr, er, xr, dr, ur, hr, hpr, hxr, rfl, I⟩
  · have hres : res = 0 := by
      rcases hD with ⟨_, h⟩ | ⟨p, e, h, _⟩
      · exact h
      · rw [hr] at h; cases h
    conv =>
      arg 3
      arg 1
      whnf
    all_goals (try k_fold)
    k_steps
    all_goals (try dsimp only)
    all_goals first
      | (exfalso; omega)
      | (rename Fr _ _ _ _ => F'
         rename News _ _ _ _ => N'
         show EndV s _ _ _
         rw [e] at F'
         exact EndV.intro ⟨rfl, F', N'⟩)
  · have hres : res = er.res := by
      rcases hD with ⟨h, _⟩ | ⟨p, e, h, he, h'⟩
      · rw [hr] at h; cases h
      · rw [hr] at h; cases h
        rw [hpr] at he; cases he
        exact h'
    conv =>
      arg 3
      arg 1
      whnf
    all_goals (try k_fold)
    k_steps
    all_goals (try dsimp only)
    all_goals first
      | (exfalso; omega)
      | (rename Fr _ _ _ _ => F'
         rename News _ _ _ _ => N'
         show EndV s _ _ _
         rw [e] at F'
         exact EndV.intro ⟨rfl, F', N'⟩)
theorem turn4I (B : Below callerA h₀ [] h₀) (X₀ : (K1 w.params).In h₀) (T : Top qv loose mean mg mb h₀) (F : Fr h₀ L s.heap m)
   (N : News h₀ L s.heap ((x, instObj 832 dx) :: (dx, dictOf (selfD w.params q (.str wd t1) cr li lb br ke) 6) :: rest))
   (f0 : m (Str.ofString "stemmer") = some (.ref x)) (f1 : m (Str.ofString "word") = some (.str wd t2)) (hw : wd.length ≤ 18) :
   wpAny (model pw_ii0002_01 w) (callerA.deeper (envLaw L a cd)) (exec (ixSt (whBody lawLast) 4) (envLaw L a cd)) (EndV s (TP3 h₀ L m ((x, instObj 832 dx) :: (dx, dictOf (selfD w.params q (.str wd t1) cr li lb br ke) 6) :: rest))) (fun _ _ => False) s := by
  have e : kstB m [(Str.ofString "stemmer", .ref x), (Str.ofString "word", .str wd t2)] = m := 
    funext fun z => kstB_eq (by simp only [List.forall_mem_cons, List.not_mem_nil, false_implies, implies_true, and_true]; exact ⟨f0, f1⟩) fun _ => rfl
  rw [← e] at F
  conv =>
    arg 3
    arg 1
    whnf
  all_goals (try k_fold)
  k_steps
  all_goals (try dsimp only)
  all_goals first
    | (exfalso; rename (_ != _) = true => hx; simp at hx; done)
    | (rename Fr _ _ _ _ => F'
       rename News _ _ _ _ => N'
       show EndV s _ _ _
       rw [e] at F'
       exact EndV.intro ⟨rfl, F', N'⟩)
theorem turnI (B : Below callerA h₀ [] h₀) (X₀ : (K1 w.params).In h₀) (T : Top qv loose mean mg mb h₀) (Tb : TabIs w.params h₀ tb vs Ts) (S : Sorted (keysF Ts)) (Lk : Links (keysF Ts) (subOf Ts)) (F : Fr h₀ L s.heap m) (hne : @LT.lt Nat _ dx x) (hoff : OwnOff rest [x, dx])
   (N : News h₀ L s.heap ((x, instObj 832 dx) :: (dx, dictOf (selfD w.params q cu cr li lb br ke) 6) :: rest))
   (f0 : m (Str.ofString "stemmer") = some (.ref x)) (f1 : m (Str.ofString "table") = some (.ref tb)) (f2 : m (Str.ofString "word") = some (.str wd t2)) (f3 : m (Str.ofString "a") = some (.int A1 t3)) (f4 : m (Str.ofString "b") = some (.int B1 t4)) (f5 : m (Str.ofString "pick") = some (.int p t5)) (hp : p = 6) (hw : wd.length ≤ 18) (h0 : 0 ≤ A1) (h1 : A1 ≤ B1) (h2 : B1 ≤ wd.length) :
   wpAny (model pw_ii0002_01 w) (callerA.deeper (envLaw L a cd)) (execs (whBody lawLast) (envLaw L a cd)) (EndV s (TurnP w.params h₀ L m rest 832 x dx)) (fun _ _ => False) s := by
  rw [last_split]
  refine wpAny_execs_cons (wpAny_mono (turn0I B X₀ T F hne hoff N f0 f2 hw) (fun f s₁ hx => ?_) fun _ _ e => e)
  obtain ⟨h', tk1, rfl, rfl, q1, tl, br1, ke1, cr1, lb1, F1, N1⟩ := hx
  dsimp only
  refine wpAny_execs_cons (wpAny_mono (turn1 (s := { s with heap := h', toks := tk1 }) B X₀ T Tb F1 N1 f1 f2 f3 f4 f5 hw h0 h1 h2) (fun f s₁ hx => ?_) fun _ _ e => e)
  obtain ⟨h2', tk2, rfl, rfl, m2, v, r, F2, N2, hm2, g2, hB, hH⟩ := hx
  dsimp only
  have hpb : decide (p < 6) = false := decide_eq_false (by omega)
  rw [hpb, slice_winF h0 h1 h2, keysOf_F] at hB
  have on : ∀ y, y ≠ Str.ofString "due" → ∀ z, m y = z → m2 y = z := fun y hy z hz => (hm2 y hy).trans hz
  refine wpAny_execs_cons (wpAny_mono (turn2I (s := { s with heap := h2', toks := tk2 }) B X₀ T Tb S Lk F2 hne hoff N2 (on _ (by decide) _ f0) (on _ (by decide) _ f1) (on _ (by decide) _ f3) (on _ (by decide) _ f4) (on _ (by decide) _ f5) g2 hp hw h0 h1 h2 hB hH) (fun f s₁ hx => ?_) fun _ _ e => e)
  obtain ⟨h3', tk3, rfl, rfl, m3, q3, res, pl, t, t', t'', li3, lb3, br3, ke3, F3, N3, hm3, k1, k2, hD⟩ := hx
  dsimp only
  have on3 : ∀ y, y ≠ Str.ofString "due" → y ≠ Str.ofString "told" → y ≠ Str.ofString "place" → ∀ z, m y = z → m3 y = z := fun y hy h1 h2 z hz => (hm3 y h1 h2).trans ((hm2 y hy).trans hz)
  refine wpAny_execs_cons (wpAny_mono (turn3I (s := { s with heap := h3', toks := tk3 }) B X₀ T F3 N3 (on3 _ (by decide) (by decide) (by decide) _ f0) k1 k2 ((hm3 _ (by decide) (by decide)).trans g2) hD hH) (fun f s₁ hx => ?_) fun _ _ e => e)
  obtain ⟨h4', tk4, rfl, rfl, F4, N4⟩ := hx
  dsimp only
  refine wpAny_execs_cons (wpAny_mono (turn4I (s := { s with heap := h4', toks := tk4 }) B X₀ T F4 N4 (on3 _ (by decide) (by decide) (by decide) _ f0) (on3 _ (by decide) (by decide) (by decide) _ f2) hw) (fun f s₁ hx => ?_) fun _ _ e => e)
  obtain ⟨h5', tk5, rfl, rfl, F5, N5⟩ := hx
  dsimp only
  refine wpAny_execs_nil ?_
  exact EndV.intro ⟨rfl, m3, q3, _, _, _, _, _, _, F5, N5, fun y a1 a2 a3 => (hm3 y a1 a2).trans (hm2 y a3)⟩
end
end Mine
/- MLastX -/
namespace Mine
theorem tick_MLastX {M : Model} {A : Around} {env : Env} {p : Pos} {Q : Bool → Shared → Prop} {E : Value → Shared → Prop} {s : Shared} (h : Q true s) : wpAny M A (isTrue (.Constant (.bool true) 0 p) env (eval (.Constant (.bool true) 0 p) env)) Q E s := by
  all_goals (try k_fold)
  k_steps
  exact h
theorem reg_KL8 : rw_ii0002_01 = rw_ii0002_01 ∧ K1 = K1 := by
  k_fill
  exact ⟨rfl, rfl⟩
def LawP8 (h₀ : Heap) (L : Addr) (f : Flow) (h' : Heap) : Prop := f = .next ∧ ∃ m' news', Fr h₀ L h' m' ∧ News h₀ L h' news'
section
variable {w : World} {h₀ base : Heap} {L a : Addr} {cd : Value} {s : Shared} {m : Str → Option Value} {rest : List (Addr × Obj)} {mean : ExcName → Option Value} {mg mb : Str → Option Value} {loose : List Str}
  {x dx tb : Addr} {vs : List Value} {p A1 B1 lo hi : Int} {t1 t2 t3 t4 t5 t6 t7 : Tok} {Ts : List Ent} {wd : Str} {q : Nat → Tok} {cu cr li lb br ke : Value} {r : Option Nat} {v : Value}
theorem turnP_at {p1 p2 p3 p4 p5 p6 : Addr × Obj} {Q : Flow → Shared → Prop} {E : Value → Shared → Prop} (B : Below callerA h₀ [] h₀) (X₀ : (K1 w.params).In h₀) (T : Top qv loose mean mg mb h₀) (Tb : TabIs w.params h₀ tb vs Ts) (S : Sorted (keysB Ts)) (Lk : Links (keysB Ts) (subOf Ts)) (F : Fr h₀ L s.heap m) (hne : @LT.lt Nat _ dx x) (c1 : p1.2.cls = .type "tuple_iterator") (c2 : p2.2.cls = .type "tuple") (c3 : p3.2.cls = .type "tuple") (c4 : p4.2.cls = .type "tuple") (c5 : p5.2.cls = .type "tuple") (c6 : p6.2.cls = .type "tuple")
   (N : News h₀ L s.heap [p1, p2, p3, p4, p5, p6, (x, instObj 527 dx), (dx, dictOf (selfD w.params q cu cr li lb br ke) 6)])
   (f0 : m (Str.ofString "stemmer") = some (.ref x)) (f1 : m (Str.ofString "table") = some (.ref tb)) (f2 : m (Str.ofString "word") = some (.str wd t2)) (f3 : m (Str.ofString "a") = some (.int A1 t3)) (f4 : m (Str.ofString "b") = some (.int B1 t4)) (f5 : m (Str.ofString "pick") = some (.int p t5)) (f6 : m (Str.ofString "low") = some (.int lo t6)) (f7 : m (Str.ofString "high") = some (.int hi t7)) (hp : p < 6) (hw : wd.length ≤ 18) (h0 : 0 ≤ A1) (h1 : A1 ≤ B1) (h2 : B1 ≤ wd.length)
   (k : ∀ h' tk m' q cu cr li lb br ke, Fr h₀ L h' (kstB m' [(Str.ofString "stemmer", .ref x), (Str.ofString "table", .ref tb), (Str.ofString "word", .str wd t2), (Str.ofString "low", .int lo t6), (Str.ofString "high", .int hi t7), (Str.ofString "pick", .int p t5)]) → News h₀ L h' [p1, p2, p3, p4, p5, p6, (x, instObj 527 dx), (dx, dictOf (selfD w.params q cu cr li lb br ke) 6)] → Q .next { s with heap := h', toks := tk }) :
   wpAny (model pw_ii0002_01 w) (callerA.deeper (envLaw L a cd)) (execs (whBody lawLast) (envLaw L a cd)) Q E s := by
  have hoff : OwnOff [p1, p2, p3, p4, p5, p6] [x, dx] := by
    have gx := (N (x, instObj 527 dx) (by simp)).1
    have gd := (N (dx, dictOf (selfD w.params q cu cr li lb br ke) 6) (by simp)).1
    intro p hp b hb e0
    have hpc : p.2.cls = .type "tuple_iterator" ∨ p.2.cls = .type "tuple" := by
      simp only [List.mem_cons, List.not_mem_nil, or_false] at hp
      rcases hp with rfl | rfl | rfl | rfl | rfl | rfl
      · exact .inl c1
      · exact .inr c2
      · exact .inr c3
      · exact .inr c4
      · exact .inr c5
      · exact .inr c6
    have gp := (N p (by simp only [List.mem_cons, List.not_mem_nil, or_false] at hp ⊢; rcases hp with h | h | h | h | h | h <;> simp [h])).1
    simp only [List.mem_cons, List.not_mem_nil, or_false] at hb
    rw [e0] at gp
    rcases hb with rfl | rfl
    · rw [gx] at gp
      rw [← Option.some.inj gp] at hpc
      rcases hpc with h | h <;> cases h
    · rw [gd] at gp
      rw [← Option.some.inj gp] at hpc
      rcases hpc with h | h <;> (exact absurd (Value.type.inj h) (by decide))
  have N1 : News h₀ L s.heap ((x, instObj 527 dx) :: (dx, dictOf (selfD w.params q cu cr li lb br ke) 6) :: [p1, p2, p3, p4, p5, p6]) := fun z hz => N z (by
    simp only [List.mem_cons, List.not_mem_nil, or_false] at hz ⊢
    rcases hz with h | h | h | h | h | h | h | h <;> simp [h])
  refine wpAny_mono (turnP B X₀ T Tb S Lk F hne hoff N1 f0 f1 f2 f3 f4 f5 hp hw h0 h1 h2) (fun f s₁ hx => ?_) fun _ _ e => e.elim
  obtain ⟨h', tk1, rfl, rfl, m', q', cu', cr', li', lb', br', ke', F1, N2, hm⟩ := hx
  have e : kstB m' [(Str.ofString "stemmer", .ref x), (Str.ofString "table", .ref tb), (Str.ofString "word", .str wd t2), (Str.ofString "low", .int lo t6), (Str.ofString "high", .int hi t7), (Str.ofString "pick", .int p t5)] = m' := 
    funext fun z => kstB_eq (by simp only [List.forall_mem_cons, List.not_mem_nil, false_implies, implies_true, and_true]; exact ⟨(hm _ (by decide) (by decide) (by decide)).trans f0, (hm _ (by decide) (by decide) (by decide)).trans f1, (hm _ (by decide) (by decide) (by decide)).trans f2, (hm _ (by decide) (by decide) (by decide)).trans f6, (hm _ (by decide) (by decide) (by decide)).trans f7, (hm _ (by decide) (by decide) (by decide)).trans f5⟩) fun _ => rfl
  rw [← e] at F1
  refine k h' tk1 m' q' cu' cr' li' lb' br' ke' F1 fun z hz => N2 z (by
    simp only [List.mem_cons, List.not_mem_nil, or_false] at hz ⊢
    rcases hz with h | h | h | h | h | h | h | h <;> simp [h])
theorem turnI_at {p1 p2 p3 p4 p5 p6 : Addr × Obj} {Q : Flow → Shared → Prop} {E : Value → Shared → Prop} (B : Below callerA h₀ [] h₀) (X₀ : (K1 w.params).In h₀) (T : Top qv loose mean mg mb h₀) (Tb : TabIs w.params h₀ tb vs Ts) (S : Sorted (keysF Ts)) (Lk : Links (keysF Ts) (subOf Ts)) (F : Fr h₀ L s.heap m) (hne : @LT.lt Nat _ dx x) (c1 : p1.2.cls = .type "tuple_iterator") (c2 : p2.2.cls = .type "tuple") (c3 : p3.2.cls = .type "tuple") (c4 : p4.2.cls = .type "tuple") (c5 : p5.2.cls = .type "tuple") (c6 : p6.2.cls = .type "tuple")
   (N : News h₀ L s.heap [p1, p2, p3, p4, p5, p6, (x, instObj 832 dx), (dx, dictOf (selfD w.params q cu cr li lb br ke) 6)])
   (f0 : m (Str.ofString "stemmer") = some (.ref x)) (f1 : m (Str.ofString "table") = some (.ref tb)) (f2 : m (Str.ofString "word") = some (.str wd t2)) (f3 : m (Str.ofString "a") = some (.int A1 t3)) (f4 : m (Str.ofString "b") = some (.int B1 t4)) (f5 : m (Str.ofString "pick") = some (.int p t5)) (f6 : m (Str.ofString "low") = some (.int lo t6)) (f7 : m (Str.ofString "high") = some (.int hi t7)) (hp : p = 6) (hw : wd.length ≤ 18) (h0 : 0 ≤ A1) (h1 : A1 ≤ B1) (h2 : B1 ≤ wd.length)
   (k : ∀ h' tk m' q cu cr li lb br ke, Fr h₀ L h' (kstB m' [(Str.ofString "stemmer", .ref x), (Str.ofString "table", .ref tb), (Str.ofString "word", .str wd t2), (Str.ofString "low", .int lo t6), (Str.ofString "high", .int hi t7), (Str.ofString "pick", .int p t5)]) → News h₀ L h' [p1, p2, p3, p4, p5, p6, (x, instObj 832 dx), (dx, dictOf (selfD w.params q cu cr li lb br ke) 6)] → Q .next { s with heap := h', toks := tk }) :
   wpAny (model pw_ii0002_01 w) (callerA.deeper (envLaw L a cd)) (execs (whBody lawLast) (envLaw L a cd)) Q E s := by
  have hoff : OwnOff [p1, p2, p3, p4, p5, p6] [x, dx] := by
    have gx := (N (x, instObj 832 dx) (by simp)).1
    have gd := (N (dx, dictOf (selfD w.params q cu cr li lb br ke) 6) (by simp)).1
    intro p hp b hb e0
    have hpc : p.2.cls = .type "tuple_iterator" ∨ p.2.cls = .type "tuple" := by
      simp only [List.mem_cons, List.not_mem_nil, or_false] at hp
      rcases hp with rfl | rfl | rfl | rfl | rfl | rfl
      · exact .inl c1
      · exact .inr c2
      · exact .inr c3
      · exact .inr c4
      · exact .inr c5
      · exact .inr c6
    have gp := (N p (by simp only [List.mem_cons, List.not_mem_nil, or_false] at hp ⊢; rcases hp with h | h | h | h | h | h <;> simp [h])).1
    simp only [List.mem_cons, List.not_mem_nil, or_false] at hb
    rw [e0] at gp
    rcases hb with rfl | rfl
    · rw [gx] at gp
      rw [← Option.some.inj gp] at hpc
      rcases hpc with h | h <;> cases h
    · rw [gd] at gp
      rw [← Option.some.inj gp] at hpc
      rcases hpc with h | h <;> (exact absurd (Value.type.inj h) (by decide))
  have N1 : News h₀ L s.heap ((x, instObj 832 dx) :: (dx, dictOf (selfD w.params q cu cr li lb br ke) 6) :: [p1, p2, p3, p4, p5, p6]) := fun z hz => N z (by
    simp only [List.mem_cons, List.not_mem_nil, or_false] at hz ⊢
    rcases hz with h | h | h | h | h | h | h | h <;> simp [h])
  refine wpAny_mono (turnI B X₀ T Tb S Lk F hne hoff N1 f0 f1 f2 f3 f4 f5 hp hw h0 h1 h2) (fun f s₁ hx => ?_) fun _ _ e => e.elim
  obtain ⟨h', tk1, rfl, rfl, m', q', cu', cr', li', lb', br', ke', F1, N2, hm⟩ := hx
  have e : kstB m' [(Str.ofString "stemmer", .ref x), (Str.ofString "table", .ref tb), (Str.ofString "word", .str wd t2), (Str.ofString "low", .int lo t6), (Str.ofString "high", .int hi t7), (Str.ofString "pick", .int p t5)] = m' := 
    funext fun z => kstB_eq (by simp only [List.forall_mem_cons, List.not_mem_nil, false_implies, implies_true, and_true]; exact ⟨(hm _ (by decide) (by decide) (by decide)).trans f0, (hm _ (by decide) (by decide) (by decide)).trans f1, (hm _ (by decide) (by decide) (by decide)).trans f2, (hm _ (by decide) (by decide) (by decide)).trans f6, (hm _ (by decide) (by decide) (by decide)).trans f7, (hm _ (by decide) (by decide) (by decide)).trans f5⟩) fun _ => rfl
  rw [← e] at F1
  refine k h' tk1 m' q' cu' cr' li' lb' br' ke' F1 fun z hz => N2 z (by
    simp only [List.mem_cons, List.not_mem_nil, or_false] at hz ⊢
    rcases hz with h | h | h | h | h | h | h | h <;> simp [h])
end
section
variable {w : World} {h₀ base : Heap} {L a : Addr} {cd : Value} {s : Shared} {m : Str → Option Value} {rest : List (Addr × Obj)} {mean : ExcName → Option Value} {mg mb : Str → Option Value} {loose : List Str}
  {x dx tb : Addr} {vs : List Value} {p A1 B1 lo hi : Int} {t1 t2 t3 t4 t5 t6 t7 : Tok} {Ts : List Ent} {wd : Str} {q : Nat → Tok} {cu cr li lb br ke : Value} {r : Option Nat} {v : Value}
local macro_rules | `(tactic| walk_at "execs cons") => `(tactic| (k_here; (with_reducible show wpAny _ _ (execs (_ :: _ :: _ :: _ :: _ :: []) _) _ _ _); k_dflt ((with_unfolding_all refine' turnP_at ?B ?X0 ?T ?Tb ?S ?Lk ?F ?hne ?c1 ?c2 ?c3 ?c4 ?c5 ?c6 ?N ?f0 ?f1 ?f2 ?f3 ?f4 ?f5 ?f6 ?f7 ?hp ?hw ?g0 ?g1 ?g2 ?_); (case B => k_asm); (case X0 => k_asm); (case T => k_asm); (case Tb => assumption); (case S => assumption); (case Lk => assumption); (case F => k_asm); (case hne => assumption); (case N => k_asm); (case f0 => exact rfl); (case f1 => exact rfl); (case f2 => exact rfl); (case f3 => exact rfl); (case f4 => exact rfl); (case f5 => exact rfl); (case f6 => exact rfl); (case f7 => exact rfl); (case hp => assumption); (case hw => assumption); (case g0 => omega); (case g1 => omega); (case g2 => omega); (case c1 => first | assumption | exact rfl); (case c2 => exact rfl); (case c3 => exact rfl); (case c4 => exact rfl); (case c5 => exact rfl); (case c6 => exact rfl); (intro h' tk' m' q' cu' cr' li' lb' br' ke' F' N'); (try dsimp only))))
theorem law8P (B : Below callerA h₀ [] h₀) (X₀ : (K1 w.params).In h₀) (T : Top qv loose mean mg mb h₀) (Tb : TabIs w.params h₀ tb vs Ts) (S : Sorted (keysB Ts)) (Lk : Links (keysB Ts) (subOf Ts)) (F : Fr h₀ L s.heap m) (hne : @LT.lt Nat _ dx x)
   (N : News h₀ L s.heap [(x, instObj 527 dx), (dx, dictOf (selfD w.params q cu cr li lb br ke) 6)])
   (f0 : m (Str.ofString "stemmer") = some (.ref x)) (f1 : m (Str.ofString "table") = some (.ref tb)) (f2 : m (Str.ofString "word") = some (.str wd t2)) (f3 : m (Str.ofString "low") = some (.int lo t3)) (f4 : m (Str.ofString "high") = some (.int hi t4)) (f5 : m (Str.ofString "pick") = some (.int p t5)) (hp : p < 6) (hw : wd.length ≤ 18) (h0 : 0 ≤ lo) (h1 : lo ≤ hi) (h2 : hi ≤ wd.length) :
   wpAny (model pw_ii0002_01 w) (callerA.deeper (envLaw L a cd)) (exec lawLast (envLaw L a cd)) (EndV s (LawP8 h₀ L)) (fun _ _ => False) s := by
  have e : kstB m [(Str.ofString "stemmer", .ref x), (Str.ofString "table", .ref tb), (Str.ofString "word", .str wd t2), (Str.ofString "low", .int lo t3), (Str.ofString "high", .int hi t4), (Str.ofString "pick", .int p t5)] = m := 
    funext fun z => kstB_eq (by simp only [List.forall_mem_cons, List.not_mem_nil, false_implies, implies_true, and_true]; exact ⟨f0, f1, f2, f3, f4, f5⟩) fun _ => rfl
  rw [← e] at F
  conv =>
    arg 3
    arg 1
    whnf
  all_goals (try k_fold)
  k_steps
  all_goals (
    rename Fr _ _ _ _ => F'
    rename News _ _ _ _ => N'
    show EndV s _ _ _
    exact EndV.intro ⟨rfl, _, _, F', N'⟩)
end
end Mine
/- MLastXI -/
namespace Mine
theorem tick_MLastXI {M : Model} {A : Around} {env : Env} {p : Pos} {Q : Bool → Shared → Prop} {E : Value → Shared → Prop} {s : Shared} (h : Q true s) : wpAny M A (isTrue (.Constant (.bool true) 0 p) env (eval (.Constant (.bool true) 0 p) env)) Q E s := by
  all_goals (try k_fold)
  k_steps
  exact h
theorem reg_KL8I : rw_ii0002_01 = rw_ii0002_01 ∧ K1 = K1 := by
  k_fill
  exact ⟨rfl, rfl⟩
section
variable {w : World} {h₀ base : Heap} {L a : Addr} {cd : Value} {s : Shared} {m : Str → Option Value} {rest : List (Addr × Obj)} {mean : ExcName → Option Value} {mg mb : Str → Option Value} {loose : List Str}
  {x dx tb : Addr} {vs : List Value} {p A1 B1 lo hi : Int} {t1 t2 t3 t4 t5 t6 t7 : Tok} {Ts : List Ent} {wd : Str} {q : Nat → Tok} {cu cr li lb br ke : Value} {r : Option Nat} {v : Value}
local macro_rules | `(tactic| walk_at "execs cons") => `(tactic| (k_here; (with_reducible show wpAny _ _ (execs (_ :: _ :: _ :: _ :: _ :: []) _) _ _ _); k_dflt ((with_unfolding_all refine' turnI_at ?B ?X0 ?T ?Tb ?S ?Lk ?F ?hne ?c1 ?c2 ?c3 ?c4 ?c5 ?c6 ?N ?f0 ?f1 ?f2 ?f3 ?f4 ?f5 ?f6 ?f7 ?hp ?hw ?g0 ?g1 ?g2 ?_); (case B => k_asm); (case X0 => k_asm); (case T => k_asm); (case Tb => assumption); (case S => assumption); (case Lk => assumption); (case F => k_asm); (case hne => assumption); (case N => k_asm); (case f0 => exact rfl); (case f1 => exact rfl); (case f2 => exact rfl); (case f3 => exact rfl); (case f4 => exact rfl); (case f5 => exact rfl); (case f6 => exact rfl); (case f7 => exact rfl); (case hp => assumption); (case hw => assumption); (case g0 => omega); (case g1 => omega); (case g2 => omega); (case c1 => first | assumption | exact rfl); (case c2 => exact rfl); (case c3 => exact rfl); (case c4 => exact rfl); (case c5 => exact rfl); (case c6 => exact rfl); (intro h' tk' m' q' cu' cr' li' lb' br' ke' F' N'); (try dsimp only))))
theorem law8I (B : Below callerA h₀ [] h₀) (X₀ : (K1 w.params).In h₀) (T : Top qv loose mean mg mb h₀) (Tb : TabIs w.params h₀ tb vs Ts) (S : Sorted (keysF Ts)) (Lk : Links (keysF Ts) (subOf Ts)) (F : Fr h₀ L s.heap m) (hne : @LT.lt Nat _ dx x)
   (N : News h₀ L s.heap [(x, instObj 832 dx), (dx, dictOf (selfD w.params q cu cr li lb br ke) 6)])
   (f0 : m (Str.ofString "stemmer") = some (.ref x)) (f1 : m (Str.ofString "table") = some (.ref tb)) (f2 : m (Str.ofString "word") = some (.str wd t2)) (f3 : m (Str.ofString "low") = some (.int lo t3)) (f4 : m (Str.ofString "high") = some (.int hi t4)) (f5 : m (Str.ofString "pick") = some (.int p t5)) (hp : p = 6) (hw : wd.length ≤ 18) (h0 : 0 ≤ lo) (h1 : lo ≤ hi) (h2 : hi ≤ wd.length) :
   wpAny (model pw_ii0002_01 w) (callerA.deeper (envLaw L a cd)) (exec lawLast (envLaw L a cd)) (EndV s (LawP8 h₀ L)) (fun _ _ => False) s := by
  have e : kstB m [(Str.ofString "stemmer", .ref x), (Str.ofString "table", .ref tb), (Str.ofString "word", .str wd t2), (Str.ofString "low", .int lo t3), (Str.ofString "high", .int hi t4), (Str.ofString "pick", .int p t5)] = m := 
    funext fun z => kstB_eq (by simp only [List.forall_mem_cons, List.not_mem_nil, false_implies, implies_true, and_true]; exact ⟨f0, f1, f2, f3, f4, f5⟩) fun _ => rfl
  rw [← e] at F
  conv =>
    arg 3
    arg 1
    whnf
  all_goals (try k_fold)
  k_steps
  all_goals (
    rename Fr _ _ _ _ => F'
    rename News _ _ _ _ => N'
    show EndV s _ _ _
    exact EndV.intro ⟨rfl, _, _, F', N'⟩)
end
end Mine
/- MJoin -/
namespace Mine
theorem tick_MJoin {M : Model} {A : Around} {env : Env} {p : Pos} {Q : Bool → Shared → Prop} {E : Value → Shared → Prop} {s : Shared} (h : Q true s) : wpAny M A (isTrue (.Constant (.bool true) 0 p) env (eval (.Constant (.bool true) 0 p) env)) Q E s := by
  all_goals (try k_fold)
  k_steps
  exact h
theorem reg_KJ : rw_ii0002_01 = rw_ii0002_01 ∧ K1 = K1 := by
  k_fill
  exact ⟨rfl, rfl⟩
section
variable {w : World} {A A₀ : Around} {h₀ base : Heap} {L a : Addr} {cd : Value} {s : Shared} {m : Str → Option Value} {news : List (Addr × Obj)} {mean : ExcName → Option Value} {mg mb : Str → Option Value} {loose : List Str} {Q : Flow → Shared → Prop}
  {l tb : Addr} {vsS vs : List Value} {ns : List Int} {p : Int} {t1 t2 t3 : Tok} {Ts : List Ent} {outer : List Env}
def LawP9 (h₀ : Heap) (L : Addr) (f : Flow) (h' : Heap) : Prop := f = .ret (.bool true) ∧ ∃ m' news', Fr h₀ L h' m' ∧ News h₀ L h' news'
theorem law9 (F : Fr h₀ L s.heap m) (N : News h₀ L s.heap news) :
   wpAny (model pw_ii0002_01 w) A (exec (ixSt lawBody 9) (envLaw L a cd)) (EndV s (LawP9 h₀ L)) (fun _ _ => False) s := by
  conv =>
    arg 3
    arg 1
    whnf
  all_goals (try k_fold)
  k_steps
  all_goals (
    rename Fr _ _ _ _ => F'
    rename News _ _ _ _ => N'
    show EndV s _ _ _
    exact EndV.intro ⟨rfl, _, _, F', N'⟩)
def TabsIn (P : Params) (h : Heap) : Prop := ∀ (p : Int) (tb : Nat), (p, tb) ∈ ([(0, 330), (1, 371), (2, 381), (3, 442), (4, 465), (5, 524), (6, 666)] : List (Int × Nat)) →
  ∃ vs Ts, TabIs P h tb vs Ts ∧ (p < 6 → Sorted (keysB Ts) ∧ Links (keysB Ts) (subOf Ts)) ∧ (p = 6 → Sorted (keysF Ts) ∧ Links (keysF Ts) (subOf Ts))
theorem lawBody_split : lawBody = [ixSt lawBody 0, ixSt lawBody 1, ixSt lawBody 2, lawFor, ixSt lawBody 4, ixSt lawBody 5, ixSt lawBody 6, ixSt lawBody 7, lawLast, ixSt lawBody 9] := by rfl
theorem law_all (B : Below callerA h₀ [] h₀) (X₀ : (K1 w.params).In h₀) (T : Top qv loose mean mg mb h₀) (TS : TabsIn w.params h₀) (F : Fr h₀ L s.heap m) (N : News h₀ L s.heap [])
   (hl : h₀.IsList l vsS.toArray) (hi : IntsAre vsS ns) (hn : ns.length ≤ 63) (f1 : m (Str.ofString "script") = some (.ref l)) :
   wpAny (model pw_ii0002_01 w) (callerA.deeper (envLaw L a cd)) (execs lawBody (envLaw L a cd)) (EndV s (LawP9 h₀ L)) (fun _ _ => False) s := by
  have hh : (callerA.deeper (envLaw L a cd)).handled = none := rfl
  rw [lawBody_split]
  refine wpAny_execs_cons (wpAny_mono (law0 hh X₀ T F N hl hi hn f1) (fun f s₁ hx => ?_) fun _ _ e => e)
  obtain ⟨h0', tk0, rfl, rfl, m0, p, tp, F0, N0, hm0, gp, p0, p7⟩ := hx
  dsimp only
  refine wpAny_execs_cons (wpAny_mono (law1 (s := { s with heap := h0', toks := tk0 }) hh X₀ T F0 N0 gp p0 p7) (fun f s₁ hx => ?_) fun _ _ e => e)
  obtain ⟨h1', tk1, rfl, rfl, m1, tb, F1, N1, hm1, gt, hmem⟩ := hx
  dsimp only
  obtain ⟨vs, Ts, Tb, SP, SI⟩ := TS p tb hmem
  refine wpAny_execs_cons (wpAny_mono (law2 (s := { s with heap := h1', toks := tk1 }) X₀ T F1 N1) (fun f s₁ hx => ?_) fun _ _ e => e)
  obtain ⟨h2', tk2, rfl, rfl, m2, tw, F2, N2, hm2, gw⟩ := hx
  dsimp only
  have c2 : ∀ y, y ≠ Str.ofString "pick" → y ≠ Str.ofString "table" → y ≠ Str.ofString "word" → ∀ z, m y = z → m2 y = z := fun y a b c z hz => (hm2 y c).trans ((hm1 y b).trans ((hm0 y a).trans hz))
  have s2 := c2 _ (by decide) (by decide) (by decide) _ f1
  have t2' := (hm2 (Str.ofString "table") (by decide)).trans gt
  have p2' := (hm2 (Str.ofString "pick") (by decide)).trans ((hm1 _ (by decide)).trans gp)
  refine wpAny_execs_cons (wpAny_mono (law3 (s := { s with heap := h2', toks := tk2 }) hh X₀ T Tb F2 N2 hl hi hn s2 t2' gw) (fun f s₁ hx => ?_) fun _ _ e => e)
  obtain ⟨h3', tk3, rfl, rfl, m3, wd3, tw3, F3, N3, hm3, gw3, hw3⟩ := hx
  dsimp only
  have s3 := (hm3 _ (by decide) (by decide) (by decide)).trans s2
  have t3' := (hm3 _ (by decide) (by decide) (by decide)).trans t2'
  have p3' := (hm3 _ (by decide) (by decide) (by decide)).trans p2'
  refine wpAny_execs_cons (wpAny_mono (law4 (s := { s with heap := h3', toks := tk3 }) X₀ T F3 N3 gw3 (by omega)) (fun f s₁ hx => ?_) fun _ _ e => e)
  obtain ⟨h4', tk4, rfl, rfl, m4, wd, tw4, F4, N4, hm4, gw4, hw⟩ := hx
  dsimp only
  have s4 := (hm4 _ (by decide)).trans s3
  have t4' := (hm4 _ (by decide)).trans t3'
  have p4' := (hm4 _ (by decide)).trans p3'
  refine wpAny_execs_cons (wpAny_mono (law5 (s := { s with heap := h4', toks := tk4 }) hh X₀ T F4 N4 hl hi hn s4 gw4 hw) (fun f s₁ hx => ?_) fun _ _ e => e)
  obtain ⟨h5', tk5, rfl, rfl, m5, lo, tl, F5, N5, hm5, gl5, l0, l1⟩ := hx
  dsimp only
  have s5 := (hm5 _ (by decide)).trans s4
  have t5' := (hm5 _ (by decide)).trans t4'
  have p5' := (hm5 _ (by decide)).trans p4'
  have w5' := (hm5 _ (by decide)).trans gw4
  refine wpAny_execs_cons (wpAny_mono (law6 (s := { s with heap := h5', toks := tk5 }) hh X₀ T F5 N5 hl hi hn s5 w5' gl5 hw l0 l1) (fun f s₁ hx => ?_) fun _ _ e => e)
  obtain ⟨h6', tk6, rfl, rfl, m6, hi6, th, F6, N6, hm6, gh6, i0, i1⟩ := hx
  dsimp only
  have t6' := (hm6 _ (by decide)).trans t5'
  have p6' := (hm6 _ (by decide)).trans p5'
  have w6' := (hm6 _ (by decide)).trans w5'
  have l6' := (hm6 _ (by decide)).trans gl5
  by_cases hp : p < 6
  · obtain ⟨S, Lk⟩ := SP hp
    refine wpAny_execs_cons (wpAny_mono (law7P (s := { s with heap := h6', toks := tk6 }) B X₀ T F6 N6 p6' p0 hp) (fun f s₁ hx => ?_) fun _ _ e => e)
    obtain ⟨h7', tk7, rfl, rfl, m7, x, dx, q, cu, cr, li, lb, br, ke, hne, F7, N7, hm7, gs⟩ := hx
    dsimp only
    have c7 : ∀ y, y ≠ Str.ofString "stemmer" → ∀ z, m6 y = z → m7 y = z := fun y a z hz => (hm7 y a).trans hz
    refine wpAny_execs_cons (wpAny_mono (law8P (s := { s with heap := h7', toks := tk7 }) B X₀ T Tb S Lk F7 hne N7 gs (c7 _ (by decide) _ t6') (c7 _ (by decide) _ w6') (c7 _ (by decide) _ l6') (c7 _ (by decide) _ gh6) (c7 _ (by decide) _ p6') hp hw l0 i0 i1) (fun f s₁ hx => ?_) fun _ _ e => e)
    obtain ⟨h8', tk8, rfl, rfl, m8, news8, F8, N8⟩ := hx
    dsimp only
    refine wpAny_execs_cons (wpAny_mono (law9 (s := { s with heap := h8', toks := tk8 }) F8 N8) (fun f s₁ hx => ?_) fun _ _ e => e)
    obtain ⟨h9', tk9, rfl, rfl, m9, news9, F9, N9⟩ := hx
    exact EndV.intro ⟨rfl, m9, news9, F9, N9⟩
  · have hp6 : p = 6 := by omega
    obtain ⟨S, Lk⟩ := SI hp6
    refine wpAny_execs_cons (wpAny_mono (law7I (s := { s with heap := h6', toks := tk6 }) B X₀ T F6 N6 p6' hp6) (fun f s₁ hx => ?_) fun _ _ e => e)
    obtain ⟨h7', tk7, rfl, rfl, m7, x, dx, q, cu, cr, li, lb, br, ke, hne, F7, N7, hm7, gs⟩ := hx
    dsimp only
    have c7 : ∀ y, y ≠ Str.ofString "stemmer" → ∀ z, m6 y = z → m7 y = z := fun y a z hz => (hm7 y a).trans hz
    refine wpAny_execs_cons (wpAny_mono (law8I (s := { s with heap := h7', toks := tk7 }) B X₀ T Tb S Lk F7 hne N7 gs (c7 _ (by decide) _ t6') (c7 _ (by decide) _ w6') (c7 _ (by decide) _ l6') (c7 _ (by decide) _ gh6) (c7 _ (by decide) _ p6') hp6 hw l0 i0 i1) (fun f s₁ hx => ?_) fun _ _ e => e)
    obtain ⟨h8', tk8, rfl, rfl, m8, news8, F8, N8⟩ := hx
    dsimp only
    refine wpAny_execs_cons (wpAny_mono (law9 (s := { s with heap := h8', toks := tk8 }) F8 N8) (fun f s₁ hx => ?_) fun _ _ e => e)
    obtain ⟨h9', tk9, rfl, rfl, m9, news9, F9, N9⟩ := hx
    exact EndV.intro ⟨rfl, m9, news9, F9, N9⟩
end
end Mine
/- MTabs -/
namespace Mine
abbrev TRow := Nat × Nat × Str × Int × Int × List Nat
noncomputable def R0 : List TRow := [(319, 318, (Str.ofString "s"), (-1), 3, [615, 606, 617, 608, 619, 609]), (322, 321, (Str.ofString "ies"), 0, 2, [628, 620, 630, 621, 632, 622]), (325, 324, (Str.ofString "sses"), 0, 1, [641, 633, 643, 634, 645, 635]), (328, 327, (Str.ofString "ss"), 0, (-1), [655, 646, 657, 647, 659, 649])]
noncomputable def R1 : List TRow := [(333, 332, (Str.ofString ""), (-1), 3, [674, 665, 676, 667, 678, 668]), (336, 335, (Str.ofString "bb"), 0, 2, [687, 679, 689, 680, 691, 681]), (339, 338, (Str.ofString "dd"), 0, 2, [700, 692, 702, 693, 704, 694]), (342, 341, (Str.ofString "ff"), 0, 2, [713, 705, 715, 706, 717, 707]), (345, 344, (Str.ofString "gg"), 0, 2, [726, 718, 728, 719, 730, 720]), (348, 347, (Str.ofString "bl"), 0, 1, [739, 731, 741, 732, 743, 733]), (351, 350, (Str.ofString "mm"), 0, 2, [752, 744, 754, 745, 756, 746]), (354, 353, (Str.ofString "nn"), 0, 2, [765, 757, 767, 758, 769, 759]), (357, 356, (Str.ofString "pp"), 0, 2, [778, 770, 780, 771, 782, 772]), (360, 359, (Str.ofString "rr"), 0, 2, [791, 783, 793, 784, 795, 785]), (363, 362, (Str.ofString "at"), 0, 1, [804, 796, 806, 797, 808, 798]), (366, 365, (Str.ofString "tt"), 0, 2, [817, 809, 819, 810, 821, 811]), (369, 368, (Str.ofString "iz"), 0, 1, [830, 822, 832, 823, 834, 824])]
noncomputable def R2 : List TRow := [(373, 372, (Str.ofString "ed"), (-1), 2, [845, 836, 847, 838, 849, 839]), (376, 375, (Str.ofString "eed"), 0, 1, [858, 850, 860, 851, 862, 852]), (379, 378, (Str.ofString "ing"), (-1), 2, [872, 863, 874, 865, 876, 866])]
noncomputable def R3 : List TRow := [(383, 382, (Str.ofString "anci"), (-1), 3, [887, 878, 889, 880, 891, 881]), (386, 385, (Str.ofString "enci"), (-1), 2, [901, 892, 903, 894, 905, 895]), (389, 388, (Str.ofString "abli"), (-1), 4, [915, 906, 917, 908, 919, 909]), (392, 391, (Str.ofString "eli"), (-1), 6, [929, 920, 931, 922, 933, 923]), (395, 394, (Str.ofString "alli"), (-1), 9, [943, 934, 945, 936, 947, 937]), (398, 397, (Str.ofString "ousli"), (-1), 11, [957, 948, 959, 950, 961, 951]), (401, 400, (Str.ofString "entli"), (-1), 5, [971, 962, 973, 964, 975, 965]), (404, 403, (Str.ofString "aliti"), (-1), 9, [985, 976, 987, 978, 989, 979]), (407, 406, (Str.ofString "biliti"), (-1), 13, [999, 990, 1001, 992, 1003, 993]), (410, 409, (Str.ofString "iviti"), (-1), 12, [1013, 1004, 1015, 1006, 1017, 1007]), (413, 412, (Str.ofString "tional"), (-1), 1, [1027, 1018, 1029, 1020, 1031, 1021]), (416, 415, (Str.ofString "ational"), 10, 8, [1040, 1032, 1042, 1033, 1044, 1034]), (419, 418, (Str.ofString "alism"), (-1), 9, [1054, 1045, 1056, 1047, 1058, 1048]), (422, 421, (Str.ofString "ation"), (-1), 8, [1068, 1059, 1070, 1061, 1072, 1062]), (425, 424, (Str.ofString "ization"), 13, 7, [1081, 1073, 1083, 1074, 1085, 1075]), (428, 427, (Str.ofString "izer"), (-1), 7, [1095, 1086, 1097, 1088, 1099, 1089]), (431, 430, (Str.ofString "ator"), (-1), 8, [1109, 1100, 1111, 1102, 1113, 1103]), (434, 433, (Str.ofString "iveness"), (-1), 12, [1123, 1114, 1125, 1116, 1127, 1117]), (437, 436, (Str.ofString "fulness"), (-1), 10, [1137, 1128, 1139, 1130, 1141, 1131]), (440, 439, (Str.ofString "ousness"), (-1), 11, [1151, 1142, 1153, 1144, 1155, 1145])]
noncomputable def R4 : List TRow := [(445, 444, (Str.ofString "icate"), (-1), 2, [1180, 1171, 1182, 1173, 1184, 1174]), (448, 447, (Str.ofString "ative"), (-1), 3, [1194, 1185, 1196, 1187, 1198, 1188]), (451, 450, (Str.ofString "alize"), (-1), 1, [1208, 1199, 1210, 1201, 1212, 1202]), (454, 453, (Str.ofString "iciti"), (-1), 2, [1222, 1213, 1224, 1215, 1226, 1216]), (457, 456, (Str.ofString "ical"), (-1), 2, [1236, 1227, 1238, 1229, 1240, 1230]), (460, 459, (Str.ofString "ful"), (-1), 3, [1250, 1241, 1252, 1243, 1254, 1244]), (463, 462, (Str.ofString "ness"), (-1), 3, [1264, 1255, 1266, 1257, 1268, 1258])]
noncomputable def R5 : List TRow := [(468, 467, (Str.ofString "ic"), (-1), 1, [1283, 1274, 1285, 1276, 1287, 1277]), (471, 470, (Str.ofString "ance"), (-1), 1, [1297, 1288, 1299, 1290, 1301, 1291]), (474, 473, (Str.ofString "ence"), (-1), 1, [1311, 1302, 1313, 1304, 1315, 1305]), (477, 476, (Str.ofString "able"), (-1), 1, [1325, 1316, 1327, 1318, 1329, 1319]), (480, 479, (Str.ofString "ible"), (-1), 1, [1339, 1330, 1341, 1332, 1343, 1333]), (483, 482, (Str.ofString "ate"), (-1), 1, [1353, 1344, 1355, 1346, 1357, 1347]), (486, 485, (Str.ofString "ive"), (-1), 1, [1367, 1358, 1369, 1360, 1371, 1361]), (489, 488, (Str.ofString "ize"), (-1), 1, [1381, 1372, 1383, 1374, 1385, 1375]), (492, 491, (Str.ofString "iti"), (-1), 1, [1395, 1386, 1397, 1388, 1399, 1389]), (495, 494, (Str.ofString "al"), (-1), 1, [1409, 1400, 1411, 1402, 1413, 1403]), (498, 497, (Str.ofString "ism"), (-1), 1, [1423, 1414, 1425, 1416, 1427, 1417]), (501, 500, (Str.ofString "ion"), (-1), 2, [1437, 1428, 1439, 1430, 1441, 1431]), (504, 503, (Str.ofString "er"), (-1), 1, [1451, 1442, 1453, 1444, 1455, 1445]), (507, 506, (Str.ofString "ous"), (-1), 1, [1465, 1456, 1467, 1458, 1469, 1459]), (510, 509, (Str.ofString "ant"), (-1), 1, [1479, 1470, 1481, 1472, 1483, 1473]), (513, 512, (Str.ofString "ent"), (-1), 1, [1493, 1484, 1495, 1486, 1497, 1487]), (516, 515, (Str.ofString "ment"), 15, 1, [1506, 1498, 1508, 1499, 1510, 1500]), (519, 518, (Str.ofString "ement"), 16, 1, [1519, 1511, 1521, 1512, 1523, 1513]), (522, 521, (Str.ofString "ou"), (-1), 1, [1533, 1524, 1535, 1526, 1537, 1527])]
noncomputable def R6 : List TRow := [(595, 594, (Str.ofString "b'"), (-1), 1, [1649, 1640, 1651, 1642, 1653, 1643]), (598, 597, (Str.ofString "bh"), (-1), 4, [1663, 1654, 1665, 1656, 1667, 1657]), (601, 600, (Str.ofString "bhf"), 1, 2, [1676, 1668, 1678, 1669, 1680, 1670]), (604, 603, (Str.ofString "bp"), (-1), 8, [1690, 1681, 1692, 1683, 1694, 1684]), (607, 606, (Str.ofString "ch"), (-1), 5, [1704, 1695, 1706, 1697, 1708, 1698]), (610, 609, (Str.ofString "d'"), (-1), 1, [1718, 1709, 1720, 1711, 1722, 1712]), (613, 612, (Str.ofString "d'fh"), 5, 2, [1731, 1723, 1733, 1724, 1735, 1725]), (616, 615, (Str.ofString "dh"), (-1), 6, [1745, 1736, 1747, 1738, 1749, 1739]), (619, 618, (Str.ofString "dt"), (-1), 9, [1759, 1750, 1761, 1752, 1763, 1753]), (622, 621, (Str.ofString "fh"), (-1), 2, [1773, 1764, 1775, 1766, 1777, 1767]), (625, 624, (Str.ofString "gc"), (-1), 5, [1787, 1778, 1789, 1780, 1791, 1781]), (628, 627, (Str.ofString "gh"), (-1), 7, [1801, 1792, 1803, 1794, 1805, 1795]), (631, 630, (Str.ofString "h-"), (-1), 1, [1815, 1806, 1817, 1808, 1819, 1809]), (634, 633, (Str.ofString "m'"), (-1), 1, [1829, 1820, 1831, 1822, 1833, 1823]), (637, 636, (Str.ofString "mb"), (-1), 4, [1843, 1834, 1845, 1836, 1847, 1837]), (640, 639, (Str.ofString "mh"), (-1), 10, [1857, 1848, 1859, 1850, 1861, 1851]), (643, 642, (Str.ofString "n-"), (-1), 1, [1871, 1862, 1873, 1864, 1875, 1865]), (646, 645, (Str.ofString "nd"), (-1), 6, [1885, 1876, 1887, 1878, 1889, 1879]), (649, 648, (Str.ofString "ng"), (-1), 7, [1899, 1890, 1901, 1892, 1903, 1893]), (652, 651, (Str.ofString "ph"), (-1), 8, [1913, 1904, 1915, 1906, 1917, 1907]), (655, 654, (Str.ofString "sh"), (-1), 3, [1927, 1918, 1929, 1920, 1931, 1921]), (658, 657, (Str.ofString "t-"), (-1), 1, [1941, 1932, 1943, 1934, 1945, 1935]), (661, 660, (Str.ofString "th"), (-1), 9, [1955, 1946, 1957, 1948, 1959, 1949]), (664, 663, (Str.ofString "ts"), (-1), 3, [1969, 1960, 1971, 1962, 1973, 1963])]
noncomputable def rTok (l : List Nat) (n : Nat) : Tok := l.getD n 0
noncomputable def rowsObj (P : Params) (tb : Nat) (R : List TRow) : Frag := (tb, ⟨.type "list", none, .seq (R.map fun r => Value.ref r.1).toArray 0, #[]⟩) :: R.flatMap fun r => [(r.1, amO r.2.1), (r.2.1, dictOf (amD P r.2.2.1 r.2.2.2.1 r.2.2.2.2.1 (rTok r.2.2.2.2.2)) 3)]
noncomputable def rowsAs (tb : Nat) (R : List TRow) : List Addr := tb :: R.flatMap fun r => [r.1, r.2.1]
noncomputable def entOf (r : TRow) : Ent := ⟨r.2.2.1, r.2.2.2.1, r.2.2.2.2.1⟩
theorem rowsAs_eq (P : Params) (tb : Nat) (R : List TRow) : rowsAs tb R = (rowsObj P tb R).map (·.1) := by
  unfold rowsAs rowsObj
  rw [List.map_cons, List.map_flatMap]
  rfl
theorem tab_of {P : Params} {h : Heap} {tb : Nat} {R : List TRow} (hK : ∀ q ∈ rowsObj P tb R, h.get? q.1 = some q.2) (l1 : R.length ≤ 100) (l0 : 0 < R.length) (l2 : ∀ e ∈ R.map entOf, e.txt.length ≤ 100) (l3 : ∀ e ∈ R.map entOf, e.sub < 100) :
   TabIs P h tb (R.map fun r => Value.ref r.1) (R.map entOf) := by
  refine ⟨?_, by simp, fun i e he => ?_, by simpa using l1, by simpa using l0, l2, l3⟩
  · exact ⟨_, hK _ (List.mem_cons_self), rfl, 0, rfl⟩
  · rw [List.getElem?_map] at he
    cases hr : R[i]? with
    | none => rw [hr] at he; cases he
    | some r =>
      rw [hr] at he
      cases he
      have hm : r ∈ R := List.mem_of_getElem? hr
      refine ⟨r.1, r.2.1, rTok r.2.2.2.2.2, by rw [List.getElem?_map, hr]; rfl, hK (r.1, _) ?_, rfl, rfl, hK (r.2.1, _) ?_⟩
      · exact List.mem_cons_of_mem _ (List.mem_flatMap.mpr ⟨r, hm, List.mem_cons_self⟩)
      · exact List.mem_cons_of_mem _ (List.mem_flatMap.mpr ⟨r, hm, List.mem_cons_of_mem _ List.mem_cons_self⟩)
noncomputable def tabLooks (back : Bool) (R : List TRow) : Bool := Nat.ble R.length 100 && Nat.ble 1 R.length && (R.map entOf).all (fun e => Nat.ble e.txt.length 100) && (R.map entOf).all (fun e => decide (e.sub < 100)) && sortedB (if back then keysB (R.map entOf) else keysF (R.map entOf)) && linksB (if back then keysB (R.map entOf) else keysF (R.map entOf)) (subOf (R.map entOf))
theorem look0 : tabLooks true R0 = true := by decide +kernel
theorem look1 : tabLooks true R1 = true := by decide +kernel
theorem look2 : tabLooks true R2 = true := by decide +kernel
theorem look3 : tabLooks true R3 = true := by decide +kernel
theorem look4 : tabLooks true R4 = true := by decide +kernel
theorem look5 : tabLooks true R5 = true := by decide +kernel
theorem look6 : tabLooks false R6 = true := by decide +kernel
theorem tab_all {P : Params} {h : Heap} {tb : Nat} {R : List TRow} {back : Bool} (hK : ∀ q ∈ rowsObj P tb R, h.get? q.1 = some q.2) (lk : tabLooks back R = true) :
   TabIs P h tb (R.map fun r => Value.ref r.1) (R.map entOf) ∧ (back = true → Sorted (keysB (R.map entOf)) ∧ Links (keysB (R.map entOf)) (subOf (R.map entOf))) ∧ (back = false → Sorted (keysF (R.map entOf)) ∧ Links (keysF (R.map entOf)) (subOf (R.map entOf))) := by
  simp only [tabLooks, Bool.and_eq_true, Nat.ble_eq, List.all_eq_true, decide_eq_true_eq] at lk
  obtain ⟨⟨⟨⟨⟨a, b⟩, c⟩, d⟩, e⟩, f⟩ := lk
  refine ⟨tab_of hK a b c d, fun hb => ?_, fun hb => ?_⟩
  · subst hb; exact ⟨sorted_of e, links_of f⟩
  · subst hb; exact ⟨sorted_of e, links_of f⟩
noncomputable def K2 (P : Params) : Frag := rowsObj P 330 R0 ++ (rowsObj P 371 R1 ++ (rowsObj P 381 R2 ++ (rowsObj P 442 R3 ++ (rowsObj P 465 R4 ++ (rowsObj P 524 R5 ++ (rowsObj P 666 R6))))))
noncomputable def as2 : List Addr := rowsAs 330 R0 ++ (rowsAs 371 R1 ++ (rowsAs 381 R2 ++ (rowsAs 442 R3 ++ (rowsAs 465 R4 ++ (rowsAs 524 R5 ++ (rowsAs 666 R6))))))
theorem as2_eq (P : Params) : as2 = (K2 P).map (·.1) := by
  unfold as2 K2
  simp only [List.map_append, rowsAs_eq P]
noncomputable def K2In (P : Params) (h : Heap) : Prop := ∀ q ∈ K2 P, h.get? q.1 = some q.2
theorem tabs_in {P : Params} {h : Heap} (H : K2In P h) : TabsIn P h := by
  unfold K2In K2 at H
  simp only [List.mem_append] at H
  intro p tb hm
  simp only [List.mem_cons, List.not_mem_nil, or_false, Prod.mk.injEq] at hm
  rcases hm with ⟨rfl, rfl⟩ | ⟨rfl, rfl⟩ | ⟨rfl, rfl⟩ | ⟨rfl, rfl⟩ | ⟨rfl, rfl⟩ | ⟨rfl, rfl⟩ | ⟨rfl, rfl⟩
  · obtain ⟨a, b, c⟩ := tab_all (fun q hq => H q (.inl hq)) look0
    exact ⟨_, _, a, fun _ => b rfl, fun h => absurd h (by decide)⟩
  · obtain ⟨a, b, c⟩ := tab_all (fun q hq => H q (.inr (.inl hq))) look1
    exact ⟨_, _, a, fun _ => b rfl, fun h => absurd h (by decide)⟩
  · obtain ⟨a, b, c⟩ := tab_all (fun q hq => H q (.inr (.inr (.inl hq)))) look2
    exact ⟨_, _, a, fun _ => b rfl, fun h => absurd h (by decide)⟩
  · obtain ⟨a, b, c⟩ := tab_all (fun q hq => H q (.inr (.inr (.inr (.inl hq))))) look3
    exact ⟨_, _, a, fun _ => b rfl, fun h => absurd h (by decide)⟩
  · obtain ⟨a, b, c⟩ := tab_all (fun q hq => H q (.inr (.inr (.inr (.inr (.inl hq)))))) look4
    exact ⟨_, _, a, fun _ => b rfl, fun h => absurd h (by decide)⟩
  · obtain ⟨a, b, c⟩ := tab_all (fun q hq => H q (.inr (.inr (.inr (.inr (.inr (.inl hq))))))) look5
    exact ⟨_, _, a, fun _ => b rfl, fun h => absurd h (by decide)⟩
  · obtain ⟨a, b, c⟩ := tab_all (fun q hq => H q (.inr (.inr (.inr (.inr (.inr (.inr hq))))))) look6
    exact ⟨_, _, a, fun h => absurd h (by decide), fun _ => c rfl⟩
/-- what the head hands to the walk: the written objects and the seven tables -/
noncomputable def myHook : Hook :=
  ⟨List (Option Obj), fun s => (as1 ++ as2).map s.heap.get?, fun w => (K1 w.params ++ K2 w.params).map fun p => some p.2, fun w h => (K1 w.params).In h ∧ TabsIn w.params h,
   fun w s e => by
     rw [List.map_append, List.map_append] at e
     have hl : (as1.map s.heap.get?).length = ((K1 w.params).map fun p => some p.2).length := by
       rw [List.length_map, List.length_map, as1_eq w.params, List.length_map]
     obtain ⟨e1, e2⟩ := List.append_inj e hl
     refine ⟨InK.of as1_eq w s e1, tabs_in fun q hq => ?_⟩
     rw [as2_eq w.params, List.map_map] at e2
     obtain ⟨i, hi, rfl⟩ := List.getElem_of_mem hq
     have := congrArg (fun l => l[i]?) e2
     simp only [List.getElem?_map, List.getElem?_eq_getElem hi, Option.map_some, Function.comp_apply] at this
     exact Option.some.inj this,
   fun w h h' Y k => ⟨InK.keeps w h h' Y.1 k, fun p tb hm => by
     obtain ⟨vs, Ts, T, r⟩ := Y.2 p tb hm
     exact ⟨vs, Ts, T.keeps k, r⟩⟩⟩
end Mine
/- MEnd -/
namespace Mine
theorem the_walk : ∃ d kwd, defOf qv (Str.ofString "law") = some (d, kwd) ∧ 
   WalkO qv loose1 (XL qv []) myHook.says rw_ii0002_01.row.toRowW d kwd fun f vs => PySem.call f vs := by
  refine ⟨_, _, by rfl, ?_⟩
  k_fill
  intro w s₀ s₁ mg mb G Y fa o pm cd doc dV kV ho hd hcd hD hmg hg args vals as hpre hlay hrd hwl hlo
  have KX := kIn_of (K := K1) (as := as1) (e := as1_eq) Y.1
  have TS := Y.2
  k_behind G ho hd hcd hD hmg hpre hlay hrd hwl hlo cd
  all_goals (try k_fold)
  rename Fr _ _ _ _ => F
  rename News _ _ _ _ => N
  rename Heap.IsList _ _ _ => hL
  rename IntsAre _ _ => hI
  rename Below _ _ _ _ => K0
  rename ¬ _ < _ => hn
  rename Top _ _ _ _ _ _ => T
  refine wpAny_mono (law_all K0 KX T TS F N hL hI (by omega) rfl) ?_ ?_
  case refine_2 =>
    intro e s h
    exact h.elim
  intro f s h
  clear hcd hD
  obtain ⟨h', tk, rfl, rfl, m', news', F', N'⟩ := h
  first
    | (wrow_close; done)
    | (dsimp only; wrow_close; done)
    | (k_end; wrow_close; done)

end Mine
/- MSet -/
namespace Mine
section
variable {tb : String → Option Builtin} {p : Program} {w : World} {n₀ : Nat} {ann : Option Value}
def Go (tb : String → Option Builtin) (p : Program) (w : World) (n₀ : Nat) (ann : Option Value) (N : Nat) (s : Shared) (t : Thread) (s' : Shared) (t' : Thread) : Prop :=
  ∃ k, k ≤ N ∧ topGo tb p w n₀ ann k s t = some (s', t')
theorem topGo_add : ∀ {k k' : Nat} {s s1 s2 : Shared} {t t1 t2 : Thread}, topGo tb p w n₀ ann k s t = some (s1, t1) → topGo tb p w n₀ ann k' s1 t1 = some (s2, t2) → topGo tb p w n₀ ann (k + k') s t = some (s2, t2)
  | 0, k', s, s1, s2, t, t1, t2, h, h' => by
    obtain ⟨rfl, rfl⟩ : s = s1 ∧ t = t1 := by simpa [topGo] using h
    rw [Nat.zero_add]; exact h'
  | k + 1, k', s, s1, s2, t, t1, t2, h, h' => by
    rw [show k + 1 + k' = k + k' + 1 by omega]
    unfold topGo at h ⊢
    cases ht : through t with
    | true => rw [ht] at h; cases h
    | false =>
      rw [ht] at h
      cases hk : stepOk n₀ ann t with
      | false => rw [hk] at h; cases h
      | true =>
        rw [hk] at h
        cases hs : step (denote tb) p w s t with
        | halt o s₂ => rw [hs] at h; cases h
        | go s₂ t₂ => rw [hs] at h; exact topGo_add (k := k) h h'
theorem Go.of {k N : Nat} {s s' : Shared} {t t' : Thread} (h : topGo tb p w n₀ ann k s t = some (s', t')) (hk : k ≤ N := by exact Nat.le_refl _) : Go tb p w n₀ ann N s t s' t' := ⟨k, hk, h⟩
theorem Go.trans {N N' : Nat} {s s1 s2 : Shared} {t t1 t2 : Thread} (a : Go tb p w n₀ ann N s t s1 t1) (b : Go tb p w n₀ ann N' s1 t1 s2 t2) : Go tb p w n₀ ann (N + N') s t s2 t2 := by
  obtain ⟨k, hk, h⟩ := a
  obtain ⟨k', hk', h'⟩ := b
  exact ⟨k + k', by omega, topGo_add h h'⟩
theorem Go.top {N M : Nat} {s s1 r : Shared} {t t1 : Thread} (a : Go tb p w n₀ ann N s t s1 t1) (b : topRun tb p w n₀ ann M s1 t1 = some r) : topRun tb p w n₀ ann (N + M) s t = some r := by
  obtain ⟨k, hk, h⟩ := a
  have := topRun_mono (N - k) _ _ _ _ (go_top h b)
  rwa [show k + M + (N - k) = N + M by omega] at this
theorem Go.mono {N N' : Nat} {s s1 : Shared} {t t1 : Thread} (a : Go tb p w n₀ ann N s t s1 t1) (h : N ≤ N') : Go tb p w n₀ ann N' s t s1 t1 := by
  obtain ⟨k, hk, e⟩ := a
  exact ⟨k, by omega, e⟩
theorem Go.one {s s' : Shared} {t t' : Thread} (ht : through t = false) (hk : stepOk n₀ ann t = true) (hs : step (denote tb) p w s t = .go s' t') : Go tb p w n₀ ann 1 s t s' t' :=
  ⟨1, Nat.le_refl _, by unfold topGo; rw [ht, hk, hs]; rfl⟩
def St (tb : String → Option Builtin) (p : Program) (w : World) (n₀ : Nat) (ann : Option Value) (N : Nat) {α : Type} (m : Sem α) (s : Shared) (a : α) (s' : Shared) : Prop :=
  ∀ (K : α → Sem PySem.Fin) (H : Value → Sem PySem.Fin) (gd : Bool → Bool) (lv : List Value → List Value) (c : Code) (pos : Pos) (F : Frame) (B : List Frame), Go tb p w n₀ ann N s ⟨m.wrap K H gd lv, c, pos, F :: B⟩ s' ⟨K a, c, pos, F :: B⟩
section
variable {α β : Type} {N N' : Nat} {m : Sem α} {s s1 s2 : Shared} {a : α} {b : β}
theorem St.pure : St tb p w n₀ ann 0 (Sem.pure a) s a s := fun K H gd lv c pos F B => ⟨0, Nat.le_refl _, rfl⟩
theorem St.pure' : St tb p w n₀ ann 0 (Pure.pure a) s a s := fun K H gd lv c pos F B => ⟨0, Nat.le_refl _, rfl⟩
theorem St.mono (h : St tb p w n₀ ann N m s a s1) (hn : N ≤ N') : St tb p w n₀ ann N' m s a s1 := fun K H gd lv c pos F B => (h K H gd lv c pos F B).mono hn
theorem St.bind {f : α → Sem β} (h1 : St tb p w n₀ ann N m s a s1) (h2 : St tb p w n₀ ann N' (f a) s1 b s2) : St tb p w n₀ ann (N + N') (m >>= f) s b s2 := fun K H gd lv c pos F B => by
  rw [Sem.bind_eq_wrap', Sem.wrap_wrap]
  exact (h1 _ _ _ _ c pos F B).trans (h2 K H gd lv c pos F B)
theorem St.holding {vs : List Value} (h : St tb p w n₀ ann N m s a s1) : St tb p w n₀ ann N (PySem.holding vs m) s a s1 := fun K H gd lv c pos F B => by
  unfold PySem.holding
  split
  · exact h K H gd lv c pos F B
  · rw [Sem.keep_eq_wrap, Sem.wrap_wrap]
    exact h _ _ _ _ c pos F B
end
section
variable {s : Shared}
theorem St.load {a : Addr} {o : Obj} (h : s.heap.get? a = some o) : St tb p w n₀ ann 1 (PySem.load a) s o s := fun K H gd lv c pos F B => by
  obtain ⟨heap, gens, drawn, toks, os⟩ := s
  refine Go.one (by simp only [PySem.load, Sem.wrap, through, Bool.and_false]) rfl ?_
  simp only at h
  simp only [PySem.load, Sem.wrap, step, h]
theorem St.rule {tag : String} : St tb p w n₀ ann 1 (PySem.rule tag) s () s := fun K H gd lv c pos F B => by
  obtain ⟨heap, gens, drawn, toks, os⟩ := s
  exact Go.one (by simp only [PySem.rule, Sem.wrap, through, Bool.and_false]) rfl rfl
theorem St.ask : St tb p w n₀ ann 1 PySem.ask s ⟨p, w.params⟩ s := fun K H gd lv c pos F B => by
  obtain ⟨heap, gens, drawn, toks, os⟩ := s
  exact Go.one (by simp only [PySem.ask, Sem.wrap, through, Bool.and_false]) rfl rfl
theorem St.alloc {o : Obj} : St tb p w n₀ ann 1 (PySem.alloc o) s s.heap.objs.size { s with heap := s.heap.push o } := fun K H gd lv c pos F B => by
  obtain ⟨heap, gens, drawn, toks, os⟩ := s
  exact Go.one (by simp only [PySem.alloc, Sem.wrap, through, Bool.and_false]) rfl rfl
theorem St.update {a : Addr} {f : Obj → Obj} (h : (s.heap.get? a).isSome = true) (ha : n₀ ≤ a) : St tb p w n₀ ann 1 (PySem.update a f) s () { s with heap := s.heap.update a f } := fun K H gd lv c pos F B => by
  obtain ⟨heap, gens, drawn, toks, os⟩ := s
  simp only at h
  refine Go.one (by simp only [PySem.update, Sem.wrap, through, Bool.and_false]) ?_ ?_
  · show (true && (Nat.ble n₀ a || _ || _ || _)) = true
    simp [Nat.ble_eq.mpr ha]
  · simp only [PySem.update, Sem.wrap, step, h, if_true]
end
end
def hashOf (w : World) (x : Str) : Int := if x.cps.isEmpty then 0 else reduceHash (w.params.strHash x.cps)
theorem hash_run' (w : World) (b : Bool) (n₀ : Nat) (ann : Option Value) (heap : Heap) (gens : Array GenState) (drawn : Drawn) (toks : Nat) (os : OsState) (x : Str) (tok : Tok) (K : Int → Sem PySem.Fin) (H : Value → Sem PySem.Fin) (gd : Bool → Bool) (lv : List Value → List Value) (c : Code) (pos : Pos) (F : Frame) (B : List Frame) :
    (fun b => topGo treeTable pw_ii0002_01 (w.withFollow "special-get-raises" b) n₀ ann 7 ⟨heap, gens, drawn, toks, os⟩ ⟨(pyHash (.str x tok)).wrap K H gd lv, c, pos, F :: B⟩ = some (⟨heap, gens, drawn, toks + 1, os⟩, ⟨K (hashOf w x), c, pos, F :: B⟩)) b := by
  cases b
  · kernel_rfl
  · kernel_rfl
theorem St.hash {w : World} {n₀ : Nat} {ann : Option Value} {s : Shared} {x : Str} {tok : Tok} : St treeTable pw_ii0002_01 w n₀ ann 7 (pyHash (.str x tok)) s (hashOf w x) { s with toks := s.toks + 1 } := fun K H gd lv c pos F B => by
  obtain ⟨heap, gens, drawn, toks, os⟩ := s
  have h := hash_run' w (w.params.followText "special-get-raises") n₀ ann heap gens drawn toks os x tok K H gd lv c pos F B
  dsimp only at h
  rw [World.withFollow_self w "special-get-raises"] at h
  exact .of h
section
variable {p : Program} {tb : String → Option Builtin} {w : World} {n₀ : Nat} {ann : Option Value} {s : Shared} {a : Addr} {o : Obj} {es : Array (Int × Value)} {ep : Nat} {t : SetTable}
theorem St.setState (h : s.heap.get? a = some o) (ho : o.data = .set es ep t) (hf : t.fits es.size = true) : St tb p w n₀ ann 1 (PySem.setState a) s (es, ep, t) s := by
  unfold PySem.setState
  refine St.mono (N := 1 + 0) (St.bind (St.load h) ?_) (by omega)
  rw [ho]
  have hc : (t.place.size != es.size || decide (t.fill > t.mask)) = false := by
    simp only [SetTable.fits, Bool.and_eq_true, beq_iff_eq, decide_eq_true_eq] at hf
    simp only [Bool.or_eq_false_iff, bne_eq_false_iff_eq, decide_eq_false_iff_not]
    omega
  simp only [hc, Bool.false_eq_true, if_false]
  exact St.pure'
theorem St.storeSet {es' : Array (Int × Value)} {t' : SetTable} (h : s.heap.get? a = some o) (ho : o.data = .set es ep t) (hb : es'.size ≤ sizeLine) (ha : n₀ ≤ a) : St tb p w n₀ ann 2 (PySem.storeSet a es' t') s () { s with heap := s.heap.update a (Obj.putSet es' t') } := by
  unfold PySem.storeSet
  refine St.mono (N := 1 + 1) (St.bind (St.load h) ?_) (by omega)
  rw [ho]
  have hc : ¬ (es'.size > sizeLine) := by omega
  simp only [hc, if_false]
  exact St.update (by rw [h]; rfl) ha
def SetIs (xs : List Str) (o : Obj) : Prop := ∃ es ep t, o = { cls := .type "set", dict := none, data := .set es ep t } ∧ t.fits es.size = true ∧ es.size = xs.length ∧ ∀ q ∈ es, ∃ y ∈ xs, ∃ tk, q.2 = .str y tk
end
theorem push_get {h : Heap} {o : Obj} (hf : ∀ x y z, o ≠ ⟨x, y, .freed, z⟩) : (h.push o).get? h.objs.size = some o := by
  obtain ⟨objs, l⟩ := h
  simp only [Heap.push, Heap.get?, Array.getElem?_push_size]
  obtain ⟨c, d, dt, sl⟩ := o
  cases dt <;> first | rfl | exact absurd rfl (hf _ _ _)
theorem push_update {h : Heap} {o : Obj} {f : Obj → Obj} : (h.push o).update h.objs.size f = h.push (f o) := by
  obtain ⟨objs, l⟩ := h
  simp only [Heap.push, Heap.update, Heap.mk.injEq, and_true]
  apply Array.ext
  · simp
  · intro i h1 h2
    simp only [Array.getElem_modify, Array.getElem_push]
    simp at h1
    split
    · rename_i e; subst e; simp
    · split
      · rfl
      · omega
section
variable {p : Program} {tb : String → Option Builtin} {w : World} {n₀ : Nat} {ann : Option Value} {s : Shared} {h₀ : Heap} {gens : Array GenState} {drawn : Drawn} {toks : Nat} {os : OsState} {es : Array (Int × Value)} {ep : Nat} {t : SetTable} {x : Str} {tok : Tok} {xs : List Str}
abbrev setObj (es : Array (Int × Value)) (ep : Nat) (t : SetTable) : Obj := { cls := .type "set", dict := none, data := .set es ep t }
theorem setObj_get : (h₀.push (setObj es ep t)).get? h₀.objs.size = some (setObj es ep t) := push_get (fun _ _ _ e => by cases e)
theorem St.storeSet' {es' : Array (Int × Value)} {t' : SetTable} (hb : es'.size ≤ sizeLine) (ha : n₀ ≤ h₀.objs.size) :
    St tb p w n₀ ann 2 (PySem.storeSet h₀.objs.size es' t') ⟨h₀.push (setObj es ep t), gens, drawn, toks, os⟩ () ⟨h₀.push (setObj es' (ep + 1) t'), gens, drawn, toks, os⟩ := by
  have := St.storeSet (tb := tb) (p := p) (w := w) (n₀ := n₀) (ann := ann) (s := ⟨h₀.push (setObj es ep t), gens, drawn, toks, os⟩) (es' := es') (t' := t') setObj_get rfl hb ha
  rw [push_update] at this
  exact this
theorem St.gave {α : Type} {b : Bool} {f : Unit → Sem α} {β : α} {s s' : Shared} {N : Nat} {g : Bool → Sem Unit} (g1 : g true = PySem.rule "set.scan.the-table-gave-way") (g2 : g false = Sem.pure ()) (h : St tb p w n₀ ann N (f ()) s β s') : St tb p w n₀ ann (1 + N) (g b >>= f) s β s' := by
  cases b
  · rw [g2]; exact St.mono (N := 0 + N) (St.bind St.pure h) (by omega)
  · rw [g1]; exact St.bind St.rule h
theorem scan_none (hall : ∀ q ∈ es, ∃ y ∈ xs, ∃ tk, q.2 = Value.str y tk) (hx : x ∉ xs) : es.findIdx? (fun q => q.2.isStr x) = none := by
  refine Array.findIdx?_eq_none_iff.mpr fun q hq => ?_
  obtain ⟨y, hy, tk, e⟩ := hall q hq
  rw [e]
  have : y ≠ x := fun e => hx (e ▸ hy)
  simpa [Value.isStr] using this
theorem St.scan {a : Addr} {h : Int} {s : Shared} (hall : ∀ q ∈ es, ∃ y ∈ xs, ∃ tk, q.2 = Value.str y tk) (hx : x ∉ xs) : St tb p w n₀ ann 0 (PySem.setScan a (.str x tok) h true es) s .absent s := by
  unfold PySem.setScan
  have h1 : es.all (fun e => isExactStrKey e.2) = true := by
    refine Array.all_eq_true'.mpr fun q hq => ?_
    obtain ⟨y, hy, tk, e⟩ := hall q hq
    rw [e]; rfl
  simp only [h1, if_true]
  unfold PySem.setScanStrs
  rw [scan_none hall hx]
  exact St.pure'
theorem St.tail {t2 : SetTable} {es1 : Array (Int × Value)} {wd : Bool} {g : Bool → Sem Unit} (g1 : g true = PySem.rule "set.scan.the-table-gave-way") (g2 : g false = Sem.pure ()) (hall1 : ∀ q ∈ es1, ∃ y ∈ xs, ∃ tk, q.2 = Value.str y tk) (hs1 : es1.size = xs.length) (hn : xs.length ≤ 30) (ha : n₀ ≤ h₀.objs.size) (hf2 : t2.fits es1.size = true) :
    ∃ o', SetIs xs o' ∧ St tb p w n₀ ann 6 (do
          PySem.storeSet h₀.objs.size es1 t2
          if (!wd && t2.tooFull) = true then
              match relayAll t2 es1 (SetTable.grown es1.size) with
              | (es, t, gave) => do
                g gave
                let __r ← PySem.storeSet h₀.objs.size es t
                Pure.pure (some true)
            else Pure.pure (some true)) ⟨h₀.push (setObj es ep t), gens, drawn, toks, os⟩ (some true) ⟨h₀.push o', gens, drawn, toks, os⟩ := by
  have big : sizeLine = 16777216 := by decide
  cases hw : (!wd && t2.tooFull)
  · refine ⟨setObj es1 (ep + 1) t2, ⟨es1, ep + 1, t2, rfl, hf2, hs1, hall1⟩, ?_⟩
    refine St.mono (N := 2 + 0) (St.bind (St.storeSet' (by omega) ha) ?_) (by omega)
    simp only [Bool.false_eq_true, if_false]
    exact St.pure'
  · have hp := relayAll_perm t2 es1 (SetTable.grown es1.size)
    have hfit := relayAll_fits t2 es1 (SetTable.grown es1.size)
    generalize hL : relayAll t2 es1 (SetTable.grown es1.size) = L at hp hfit
    obtain ⟨es3, t3, gv⟩ := L
    dsimp only at hp hfit
    have hs3 : es3.size = xs.length := by have := hp.length_eq; simp at this; omega
    refine ⟨setObj es3 (ep + 1 + 1) t3, ⟨es3, ep + 1 + 1, t3, rfl, hfit, hs3, fun q hq => hall1 q (by
      have := hp.mem_iff.mp (Array.mem_toList_iff.mpr hq)
      rwa [Array.mem_toList_iff] at this)⟩, ?_⟩
    refine St.mono (N := 2 + (1 + (2 + 0))) (St.bind (St.storeSet' (by omega) ha) ?_) (by omega)
    simp only [if_true]
    exact St.gave g1 g2 (St.bind (St.storeSet' (by omega) ha) St.pure')
theorem St.addScan (hall : ∀ q ∈ es, ∃ y ∈ xs, ∃ tk, q.2 = Value.str y tk) (hsz : es.size = xs.length) (hn : xs.length ≤ 20) (hx : x ∉ xs) (ha : n₀ ≤ h₀.objs.size) (h : Int) :
    ∃ o', SetIs (x :: xs) o' ∧ St tb p w n₀ ann 10 (PySem.setAddByScan h₀.objs.size (.str x tok) h es t) ⟨h₀.push (setObj es ep t), gens, drawn, toks, os⟩ (some true) ⟨h₀.push o', gens, drawn, toks, os⟩ := by
  have hp := layNew_perm t es h (.str x tok)
  have hfit := layNew_fits t es h (.str x tok)
  unfold PySem.setAddByScan
  generalize hL : layNew t es h (.str x tok) = L at hp hfit ⊢
  obtain ⟨es1, t1, wd, gv⟩ := L
  dsimp only at hp hfit
  have hs1 : es1.size = xs.length + 1 := by have := hp.length_eq; simp at this; omega
  have hall1 : ∀ q ∈ es1, ∃ y ∈ x :: xs, ∃ tk, q.2 = Value.str y tk := fun q hq => by
    have := hp.mem_iff.mp (Array.mem_toList_iff.mpr hq)
    rw [Array.mem_toList_iff, Array.mem_push] at this
    rcases this with h' | rfl
    · obtain ⟨y, hy, r⟩ := hall q h'
      exact ⟨y, List.mem_cons_of_mem _ hy, r⟩
    · exact ⟨x, List.mem_cons_self, tok, rfl⟩
  cases hpl : t1.plain
  · obtain ⟨o', S, T⟩ := St.tail (tb := tb) (p := p) (w := w) (n₀ := n₀) (ann := ann) (h₀ := h₀) (gens := gens) (drawn := drawn) (toks := toks) (os := os) (es := es) (ep := ep) (t := t) (xs := x :: xs) (wd := wd) (t2 := t1) (g := fun b => match b with | true => PySem.rule "set.scan.the-table-gave-way" | false => Sem.pure ()) rfl rfl hall1 (by simpa using hs1) (by simp; omega) ha hfit
    refine ⟨o', S, ?_⟩
    refine St.mono (N := 1 + (0 + (1 + (0 + 6)))) (St.bind St.rule (St.bind (St.scan hall hx) ?_)) (by omega)
    dsimp only
    refine St.gave rfl rfl ?_
    rw [hpl]
    exact St.bind St.pure' T
  · obtain ⟨o', S, T⟩ := St.tail (tb := tb) (p := p) (w := w) (n₀ := n₀) (ann := ann) (h₀ := h₀) (gens := gens) (drawn := drawn) (toks := toks) (os := os) (es := es) (ep := ep) (t := t) (xs := x :: xs) (wd := wd) (t2 := { t1 with plain := false }) (g := fun b => match b with | true => PySem.rule "set.scan.the-table-gave-way" | false => Sem.pure ()) rfl rfl hall1 (by simpa using hs1) (by simp; omega) ha hfit
    refine ⟨o', S, ?_⟩
    refine St.mono (N := 1 + (0 + (1 + (0 + 6)))) (St.bind St.rule (St.bind (St.scan hall hx) ?_)) (by omega)
    dsimp only
    refine St.gave rfl rfl ?_
    rw [hpl]
    exact St.bind St.pure' T
theorem St.add {o : Obj} (hs : SetIs xs o) (hn : xs.length ≤ 20) (hx : x ∉ xs) (ha : n₀ ≤ h₀.objs.size) :
    ∃ o', SetIs (x :: xs) o' ∧ St treeTable pw_ii0002_01 w n₀ ann 18 (PySem.setAdd h₀.objs.size (.str x tok)) ⟨h₀.push o, gens, drawn, toks, os⟩ true ⟨h₀.push o', gens, drawn, toks + 1, os⟩ := by
  obtain ⟨es, ep, t, rfl, hf, hsz, hall⟩ := hs
  obtain ⟨o', S, T⟩ := St.addScan (tb := treeTable) (p := pw_ii0002_01) (w := w) (n₀ := n₀) (ann := ann) (h₀ := h₀) (gens := gens) (drawn := drawn) (toks := toks + 1) (os := os) (es := es) (ep := ep) (t := t) (x := x) (tok := tok) (xs := xs) hall hsz hn hx ha (hashOf w x)
  refine ⟨o', S, ?_⟩
  unfold PySem.setAdd
  refine St.holding (St.mono (N := 7 + 11) (St.bind St.hash ?_) (by omega))
  unfold PySem.setAddHashed
  refine St.holding ?_
  show St _ _ _ _ _ _ (PySem.setAddHashedIn _ _ _ (99999 + 1)) _ _ _
  unfold PySem.setAddHashedIn
  refine St.mono (N := 1 + (10 + 0)) (St.bind (St.setState setObj_get rfl hf) ?_) (by omega)
  have hsc : PySem.byScan (.str x tok) es = true := by
    unfold PySem.byScan
    have hb : scanBound = 4096 := by decide
    simp only [Bool.and_eq_true, decide_eq_true_eq, Array.all_eq_true']
    refine ⟨⟨rfl, by omega⟩, fun q hq => ?_⟩
    obtain ⟨y, hy, tk, e⟩ := hall q hq
    rw [e]; rfl
  dsimp only
  rw [hsc]
  exact St.bind T St.pure'
end
end Mine
/- MSet2 -/
namespace Mine
def StP (tb : String → Option Builtin) (p : Program) (w : World) (n₀ : Nat) (ann : Option Value) (N : Nat) {α : Type} (m : Sem α) (s : Shared) (a : α) (s' : Shared) (q : Pos) : Prop :=
  ∀ (K : α → Sem PySem.Fin) (H : Value → Sem PySem.Fin) (gd : Bool → Bool) (lv : List Value → List Value) (c : Code) (pos : Pos) (F : Frame) (B : List Frame), Go tb p w n₀ ann N s ⟨m.wrap K H gd lv, c, pos, F :: B⟩ s' ⟨K a, c, q, F :: B⟩
section
variable {tb : String → Option Builtin} {p : Program} {w : World} {n₀ : Nat} {ann : Option Value} {α β : Type} {N N' : Nat} {m : Sem α} {s s1 s2 : Shared} {a : α} {b : β} {q q' : Pos}
theorem StP.bind {f : α → Sem β} (h1 : StP tb p w n₀ ann N m s a s1 q) (h2 : St tb p w n₀ ann N' (f a) s1 b s2) : StP tb p w n₀ ann (N + N') (m >>= f) s b s2 q := fun K H gd lv c pos F B => by
  rw [Sem.bind_eq_wrap', Sem.wrap_wrap]
  exact (h1 _ _ _ _ c pos F B).trans (h2 K H gd lv c q F B)
theorem StP.bindS {f : α → Sem β} (h1 : St tb p w n₀ ann N m s a s1) (h2 : StP tb p w n₀ ann N' (f a) s1 b s2 q) : StP tb p w n₀ ann (N + N') (m >>= f) s b s2 q := fun K H gd lv c pos F B => by
  rw [Sem.bind_eq_wrap', Sem.wrap_wrap]
  exact (h1 _ _ _ _ c pos F B).trans (h2 K H gd lv c pos F B)
theorem StP.bindP {f : α → Sem β} (h1 : StP tb p w n₀ ann N m s a s1 q) (h2 : StP tb p w n₀ ann N' (f a) s1 b s2 q') : StP tb p w n₀ ann (N + N') (m >>= f) s b s2 q' := fun K H gd lv c pos F B => by
  rw [Sem.bind_eq_wrap', Sem.wrap_wrap]
  exact (h1 _ _ _ _ c pos F B).trans (h2 K H gd lv c q F B)
theorem StP.holding {vs : List Value} (h : StP tb p w n₀ ann N m s a s1 q) : StP tb p w n₀ ann N (PySem.holding vs m) s a s1 q := fun K H gd lv c pos F B => by
  unfold PySem.holding
  split
  · exact h K H gd lv c pos F B
  · rw [Sem.keep_eq_wrap, Sem.wrap_wrap]
    exact h _ _ _ _ c pos F B
theorem StP.mono (h : StP tb p w n₀ ann N m s a s1 q) (hn : N ≤ N') : StP tb p w n₀ ann N' m s a s1 q := fun K H gd lv c pos F B => (h K H gd lv c pos F B).mono hn
theorem StP.standAt {s : Shared} : StP tb p w n₀ ann 1 (PySem.standAt q) s () s q := fun K H gd lv c pos F B => by
  obtain ⟨heap, gens, drawn, toks, os⟩ := s
  exact Go.one (by simp only [PySem.standAt, Sem.wrap, through, Bool.and_false]) rfl rfl
end
def fresh0 (w : World) : Obj := setObj #[] 0 (.fresh (finger := 0) (moves := 0) (led := !w.params.followText "set-order"))
theorem newSet_run (w : World) (n₀ : Nat) (ann : Option Value) (heap : Heap) (gens : Array GenState) (drawn : Drawn) (toks : Nat) (os : OsState) (K : Value → Sem PySem.Fin) (H : Value → Sem PySem.Fin) (gd : Bool → Bool) (lv : List Value → List Value) (c : Code) (pos : Pos) (F : Frame) (B : List Frame) :
    topGo treeTable pw_ii0002_01 w n₀ ann 2 ⟨heap, gens, drawn, toks, os⟩ ⟨(newSet (.type "set")).wrap K H gd lv, c, pos, F :: B⟩ = some (⟨heap.push (fresh0 w), gens, drawn, toks, os⟩, ⟨K (.ref heap.objs.size), c, pos, F :: B⟩) := by
  kernel_rfl
theorem fresh0_is (w : World) : SetIs [] (fresh0 w) := ⟨#[], 0, _, rfl, by rfl, rfl, by simp⟩
section
variable {w : World} {n₀ : Nat} {ann : Option Value} {h₀ : Heap} {gens : Array GenState} {drawn : Drawn} {toks toks' : Nat} {os : OsState} {q : Pos}
theorem St.unled {xs : List Str} {o : Obj} (hs : SetIs xs o) (hn : xs.length ≤ 20) (ha : n₀ ≤ h₀.objs.size) :
    ∃ o', SetIs xs o' ∧ St treeTable pw_ii0002_01 w n₀ ann 3 (PySem.setUnled h₀.objs.size) ⟨h₀.push o, gens, drawn, toks, os⟩ () ⟨h₀.push o', gens, drawn, toks, os⟩ := by
  obtain ⟨es, ep, t, rfl, hf, hsz, hall⟩ := hs
  have big : sizeLine = 16777216 := by decide
  refine ⟨setObj es (ep + 1) { t with led := false }, ⟨es, ep + 1, _, rfl, hf, hsz, hall⟩, ?_⟩
  unfold PySem.setUnled
  exact St.mono (N := 1 + 2) (St.bind (St.setState setObj_get rfl hf) (St.storeSet' (by omega) ha)) (by omega)
theorem St.fill : ∀ {vs : List (Str × Tok)} {xs : List Str} {o : Obj} {toks : Nat} {f : Value → PUnit → Sem (ForInStep PUnit)} (hfe : ∀ x, f x PUnit.unit = (PySem.setAdd h₀.objs.size x >>= fun _ => Pure.pure (ForInStep.yield PUnit.unit))) (hs : SetIs xs o) (hn : xs.length + vs.length ≤ 20) (hnd : (vs.map (·.1)).Nodup) (hx : ∀ v ∈ vs, v.1 ∉ xs) (ha : n₀ ≤ h₀.objs.size),
    ∃ o' ys, ys.length = xs.length + vs.length ∧ SetIs ys o' ∧ St treeTable pw_ii0002_01 w n₀ ann (18 * vs.length) (forIn (vs.map fun v => Value.str v.1 v.2) PUnit.unit f) ⟨h₀.push o, gens, drawn, toks, os⟩ PUnit.unit ⟨h₀.push o', gens, drawn, toks + vs.length, os⟩
  | [], xs, o, toks, f, hfe, hs, hn, hnd, hx, ha => ⟨o, xs, rfl, hs, by rw [List.map_nil, List.forIn_nil]; exact St.pure'⟩
  | v :: vs, xs, o, toks, f, hfe, hs, hn, hnd, hx, ha => by
    simp only [List.length_cons] at hn
    obtain ⟨o1, S1, T1⟩ := St.add (w := w) (n₀ := n₀) (ann := ann) (h₀ := h₀) (gens := gens) (drawn := drawn) (toks := toks) (os := os) (tok := v.2) hs (by omega) (hx v List.mem_cons_self) ha
    rw [List.map_cons, List.nodup_cons] at hnd
    obtain ⟨o2, ys, hy, S2, T2⟩ := St.fill (vs := vs) (xs := v.1 :: xs) (o := o1) (toks := toks + 1) (f := f) hfe S1 (by simp only [List.length_cons]; omega) hnd.2 (fun u hu => by
      rw [List.mem_cons, not_or]
      exact ⟨fun e => hnd.1 (List.mem_map.mpr ⟨u, hu, e⟩), hx u (List.mem_cons_of_mem _ hu)⟩) ha
    refine ⟨o2, ys, by simp only [List.length_cons] at hy ⊢; omega, S2, ?_⟩
    rw [List.map_cons, List.forIn_cons, hfe]
    have e : toks + (v :: vs).length = toks + 1 + vs.length := by simp only [List.length_cons]; omega
    rw [e]
    exact St.mono (N := 18 + 0 + 18 * vs.length) (St.bind (St.bind T1 St.pure') T2) (by simp only [List.length_cons]; omega)
theorem St.display {road : DisplayRoad} {b : Bool} {elts : List (Bool × Sem Value)} {vs : List (Str × Tok)} {N : Nat} (hroad : road = .unsure) (hs : elts.findIdx? (·.1) = none) (hlen : elts.length ≤ 20) (hvs : vs.length ≤ 20) (hnd : (vs.map (·.1)).Nodup) (ha : n₀ ≤ h₀.objs.size)
    (hev : ∀ o, StP treeTable pw_ii0002_01 w n₀ ann N (evalAll (elts.map (·.2))) ⟨h₀.push o, gens, drawn, toks, os⟩ (vs.map fun v => Value.str v.1 v.2) ⟨h₀.push o, gens, drawn, toks', os⟩ q) :
    ∃ o' ys, SetIs ys o' ∧ StP treeTable pw_ii0002_01 w n₀ ann (N + 370) (setDisplay road b elts) ⟨h₀, gens, drawn, toks, os⟩ (.ref h₀.objs.size) ⟨h₀.push o', gens, drawn, toks' + vs.length, os⟩ q := by
  have hn : (if elts.length > 30 then 0 else (elts.findIdx? (·.1)).getD elts.length) = elts.length := by rw [if_neg (by omega), hs]; rfl
  subst hroad
  obtain ⟨o1, ys, hy, S1, T1⟩ := St.fill (w := w) (n₀ := n₀) (ann := ann) (h₀ := h₀) (gens := gens) (drawn := drawn) (os := os) (vs := vs) (xs := []) (o := fresh0 w) (toks := toks') (f := fun x _ => PySem.setAdd h₀.objs.size x >>= fun _ => Pure.pure (ForInStep.yield PUnit.unit)) (fun _ => rfl) (fresh0_is w) (by simpa using hvs) hnd (by simp) ha
  obtain ⟨o2, S2, T2⟩ := St.unled (w := w) (n₀ := n₀) (ann := ann) (h₀ := h₀) (gens := gens) (drawn := drawn) (toks := toks' + vs.length) (os := os) S1 (by simp at hy; omega) ha
  refine ⟨o2, ys, S2, ?_⟩
  unfold setDisplay
  dsimp only
  rw [if_neg (by decide)]
  have hnew : St treeTable pw_ii0002_01 w n₀ ann 2 (newSet (.type "set")) ⟨h₀, gens, drawn, toks, os⟩ (.ref h₀.objs.size) ⟨h₀.push (fresh0 w), gens, drawn, toks, os⟩ := fun K H gd lv c pos F B => .of (newSet_run w n₀ ann h₀ gens drawn toks os K H gd lv c pos F B)
  refine StP.mono (N := 2 + (N + (18 * vs.length + (1 + 3) + 0) + 0)) (StP.bindS hnew ?_) (by omega)
  dsimp only
  rw [hn, List.take_length, List.drop_length]
  refine StP.bind (a := ()) (N' := 0) (StP.holding (StP.bind (hev _) ?_)) St.pure'
  refine St.bind (a := ()) (s1 := ⟨h₀.push o2, gens, drawn, toks' + vs.length, os⟩) (N' := 0) (St.holding (St.bind T1 ?_)) ?_
  · rw [if_pos (by decide)]
    exact St.mono (N := 1 + 3) (St.bind St.rule T2) (by omega)
  · rw [List.forIn_nil]
    exact St.mono (N := 0 + 0) (St.bind St.pure' St.pure') (by omega)
theorem St.inMain {env : Env} {s : Shared} {ca : Addr} {oc : Obj} {vals : Array Value} (hc : env.code = .ref ca) (h : s.heap.get? ca = some oc) (hd : oc.data = .fields vals) : ∃ b, St treeTable pw_ii0002_01 w n₀ ann 2 (inMainModule env) s b s := by
  unfold inMainModule
  dsimp only
  rw [hc]
  have hne : (Value.ref ca == Value.none) = false := rfl
  rw [hne, if_neg Bool.false_ne_true]
  have hf : St treeTable pw_ii0002_01 w n₀ ann 1 (fieldsOf (.ref ca)) s vals s := by
    unfold fieldsOf
    refine St.mono (N := 1 + 0) (St.bind (St.load h) ?_) (by omega)
    rw [hd]
    exact St.pure'
  cases hv : vals.getD 18 .none
  case str f tk =>
    refine ⟨!pw_ii0002_01.modules.any fun x => x.2.2.file == f, St.mono (N := 1 + (1 + 0)) (St.bind hf ?_) (by omega)⟩
    rw [hv]
    exact St.bind St.ask St.pure'
  all_goals (
    refine ⟨false, St.mono (N := 1 + 0) (St.bind hf ?_) (by omega)⟩
    rw [hv]
    exact St.pure')
/-- the evaluation of a set display of strs -/
theorem StP.evalSet {env : Env} {elts : List PySem.Expr} {ca : Addr} {oc : Obj} {vals : Array Value} {vs : List (Str × Tok)} {N : Nat} (hc : env.code = .ref ca) (hg : h₀.get? ca = some oc) (hd : oc.data = .fields vals)
    (hroad : displayRoad 0 elts = .unsure) (hs : ((starEach elts env).map fun (star, t) => (star, do let v ← t; PySem.standAt q; pure v)).findIdx? (·.1) = none) (hlen : (starEach elts env).length ≤ 20) (hvs : vs.length ≤ 20) (hnd : (vs.map (·.1)).Nodup) (ha : n₀ ≤ h₀.objs.size)
    (hev : ∀ o, StP treeTable pw_ii0002_01 w n₀ ann N (evalAll (((starEach elts env).map fun (star, t) => (star, do let v ← t; PySem.standAt q; pure v)).map (·.2))) ⟨h₀.push o, gens, drawn, toks, os⟩ (vs.map fun v => Value.str v.1 v.2) ⟨h₀.push o, gens, drawn, toks', os⟩ q) :
    ∃ o' ys, SetIs ys o' ∧ StP treeTable pw_ii0002_01 w n₀ ann (N + 373) (eval (.Set elts 0 q) env) ⟨h₀, gens, drawn, toks, os⟩ (.ref h₀.objs.size) ⟨h₀.push o', gens, drawn, toks' + vs.length, os⟩ q := by
  obtain ⟨b, hb⟩ := St.inMain (w := w) (n₀ := n₀) (ann := ann) (env := env) (s := ⟨h₀, gens, drawn, toks, os⟩) hc hg hd
  obtain ⟨o', ys, S, T⟩ := St.display (w := w) (n₀ := n₀) (ann := ann) (h₀ := h₀) (gens := gens) (drawn := drawn) (toks := toks) (toks' := toks') (os := os) (q := q) (b := b) (N := N) hroad hs (by rw [List.length_map]; exact hlen) hvs hnd ha hev
  refine ⟨o', ys, S, ?_⟩
  rw [arm_eval_Set]
  exact StP.mono (N := 1 + (2 + (N + 370))) (StP.bindP StP.standAt (StP.bindS hb T)) (by omega)
abbrev afterSet (env : Env) (t : PySem.Expr) (value : PySem.Expr) (rest : List Stmt) (v : Value) (K : Flow → Sem PySem.Fin) (H : Value → Sem PySem.Fin) (gd : Bool → Bool) (lv : List Value → List Value) : Sem PySem.Fin :=
  (swappedStores [t] value env >>= fun b => assignStores env v b ((assignEach [t] env).map (·.2))).wrap (fun f => match f with | .next => (execs rest env).wrap K H gd lv | f => K f) H gd lv
theorem Go.setStmt {env : Env} {elts : List PySem.Expr} {t : PySem.Expr} {ca : Addr} {oc : Obj} {vals : Array Value} {vs : List (Str × Tok)} {N : Nat} {ps : Pos} {rest : List Stmt} (hsw : swapsWithSole [t] (.Set elts 0 q) ps.line env = pure false) (hc : env.code = .ref ca) (hg : h₀.get? ca = some oc) (hd : oc.data = .fields vals)
    (hroad : displayRoad 0 elts = .unsure) (hs : ((starEach elts env).map fun (star, t) => (star, do let v ← t; PySem.standAt q; pure v)).findIdx? (·.1) = none) (hlen : (starEach elts env).length ≤ 20) (hvs : vs.length ≤ 20) (hnd : (vs.map (·.1)).Nodup) (ha : n₀ ≤ h₀.objs.size)
    (hev : ∀ o, StP treeTable pw_ii0002_01 w n₀ ann N (evalAll (((starEach elts env).map fun (star, t) => (star, do let v ← t; PySem.standAt q; pure v)).map (·.2))) ⟨h₀.push o, gens, drawn, toks, os⟩ (vs.map fun v => Value.str v.1 v.2) ⟨h₀.push o, gens, drawn, toks', os⟩ q)
    (K : Flow → Sem PySem.Fin) (H : Value → Sem PySem.Fin) (gd : Bool → Bool) (lv : List Value → List Value) (c : Code) (pos : Pos) (F : Frame) (B : List Frame) :
    ∃ o' ys, SetIs ys o' ∧ Go treeTable pw_ii0002_01 w n₀ ann (N + 374) ⟨h₀, gens, drawn, toks, os⟩ ⟨(execs (.Assign [t] (.Set elts 0 q) ps :: rest) env).wrap K H gd lv, c, pos, F :: B⟩
      ⟨h₀.push o', gens, drawn, toks' + vs.length, os⟩ ⟨afterSet env t (.Set elts 0 q) rest (.ref h₀.objs.size) K H gd lv, c, q, F :: B⟩ := by
  obtain ⟨o', ys, S, T⟩ := StP.evalSet (w := w) (n₀ := n₀) (ann := ann) (h₀ := h₀) (gens := gens) (drawn := drawn) (toks := toks) (toks' := toks') (os := os) (q := q) (N := N) hc hg hd hroad hs hlen hvs hnd ha hev
  refine ⟨o', ys, S, ?_⟩
  rw [execs_cons_wrap, arm_exec_Assign]
  rw [Sem.bind_eq_wrap', Sem.wrap_wrap]
  have h1 := (StP.standAt (tb := treeTable) (p := pw_ii0002_01) (w := w) (n₀ := n₀) (ann := ann) (q := ps) (s := ⟨h₀, gens, drawn, toks, os⟩)) 
  refine Go.mono (N := 1 + (N + 373)) ((h1 _ _ _ _ c pos F B).trans ?_) (by omega)
  rw [hsw]
  show Go _ _ _ _ _ _ _ ⟨Sem.wrap _ _ _ _ (eval (.Set elts 0 q) env >>= _), _, _, _⟩ _ _
  rw [Sem.bind_eq_wrap', Sem.wrap_wrap]
  exact T _ _ _ _ c ps F B
end
end Mine
/- MHead -/
namespace Mine
def topGoT (tb : String → Option Builtin) (p : Program) (w : World) (n₀ : Nat) (ann : Option Value) : Nat → SharedT → Thread → Option (SharedT × Thread)
  | 0, s, t => some (s, t)
  | n + 1, s, t => match through t with
    | true => none
    | false => match stepOk n₀ ann t with
      | false => none
      | true => match stepT (denote tb) p w s t with
        | some (s', t') => topGoT tb p w n₀ ann n s' t'
        | none => none
theorem topGo_ofT {tb : String → Option Builtin} {p : Program} {w : World} {n₀ : Nat} {ann : Option Value} : ∀ {n : Nat} {s s' : SharedT} {t t' : Thread}, topGoT tb p w n₀ ann n s t = some (s', t') → topGo tb p w n₀ ann n s.abs t = some (s'.abs, t')
  | 0, _, _, _, _, h => by cases h; rfl
  | n + 1, s, s', t, t', h => by
    unfold topGoT at h
    unfold topGo
    cases ht : through t with
    | true => rw [ht] at h; cases h
    | false =>
      rw [ht] at h
      cases hk : stepOk n₀ ann t with
      | false => rw [hk] at h; cases h
      | true =>
        rw [hk] at h
        cases hs : stepT (denote tb) p w s t with
        | none => rw [hs] at h; cases h
        | some r => obtain ⟨s₂, t₂⟩ := r; rw [hs] at h; rw [stepT_spec hs]; exact topGo_ofT h
noncomputable def S0T (w : World) (os : OsState) : SharedT := ⟨(boot_heap w.params).objs.toList.foldl (fun (p : BT × Nat) o => (p.1.ins p.2 o, p.2+1)) (BT.nil, 0) |>.1, 11, (boot_heap w.params).life, #[], boot_drawn, boot_toks, os⟩
abbrev goP (w : World) (n : Nat) (s : SharedT) (t : Thread) := topGoT treeTable pw_ii0002_01 w 11 none n s t
theorem S0T_abs (w : World) (os : OsState) : (S0T w os).abs = ⟨boot_heap w.params, #[], boot_drawn, boot_toks, os⟩ := by kernel_rfl
abbrev bodyP : List Stmt := clsBody (topSt 6)
abbrev bodyCur (b : List Stmt) (env : Env) : Sem PySem.Fin := ((execs b env).onRaise (leaving env)).bind fun f => (Sem.pure (PySem.Fin.done f) : Sem PySem.Fin)
theorem bodyCur_wrap (b : List Stmt) (env : Env) : bodyCur b env = (execs b env).wrap doneF (leaveH env) id id := by
  unfold bodyCur
  rw [Sem.bind_eq_wrap, Sem.onRaise_eq_wrap, Sem.wrap_wrap]
  rfl
end Mine
/- MHeadS -/
namespace Mine
def noE : PySem.Expr := .Name (Str.ofString "") ⟨0, 0, 0, 0⟩
def asgT (s : Stmt) : PySem.Expr := match s with | .Assign (t :: _) _ _ => t | _ => noE
def asgV (s : Stmt) : PySem.Expr := match s with | .Assign _ v _ => v | _ => noE
def asgP (s : Stmt) : Pos := match s with | .Assign _ _ p => p | _ => ⟨0, 0, 0, 0⟩
def setElts (e : PySem.Expr) : List PySem.Expr := match e with | .Set l _ _ => l | _ => []
def setPos (e : PySem.Expr) : Pos := match e with | .Set _ _ p => p | _ => ⟨0, 0, 0, 0⟩
def sE (s : Stmt) : List PySem.Expr := setElts (asgV s)
def sQ (s : Stmt) : Pos := setPos (asgV s)
def strsAt : List PySem.Expr → Nat → List (Str × Tok)
  | .Constant (.str x) _ _ :: r, n => (x, n) :: strsAt r (n + 1)
  | _, _ => []
abbrev theSet (s : Stmt) : Stmt := .Assign [asgT s] (.Set (sE s) 0 (sQ s)) (asgP s)
theorem is_60 : clsSt 6 0 = theSet (clsSt 6 0) := by kernel_rfl
theorem is_61 : clsSt 6 1 = theSet (clsSt 6 1) := by kernel_rfl
theorem is_80 : clsSt 8 0 = theSet (clsSt 8 0) := by kernel_rfl
abbrev evS (s : Stmt) (env : Env) : Sem (List Value) := evalAll (((starEach (sE s) env).map fun (star, t) => (star, do let v ← t; PySem.standAt (sQ s); pure v)).map (·.2))
theorem ev_60 (w : World) (n₀ : Nat) (ann : Option Value) (heap : Heap) (gens : Array GenState) (drawn : Drawn) (toks : Nat) (os : OsState) (env : Env) (K : List Value → Sem PySem.Fin) (H : Value → Sem PySem.Fin) (gd : Bool → Bool) (lv : List Value → List Value) (c : Code) (pos : Pos) (F : Frame) (B : List Frame) :
    topGo treeTable pw_ii0002_01 w n₀ ann 12 ⟨heap, gens, drawn, toks, os⟩ ⟨(evS (clsSt 6 0) env).wrap K H gd lv, c, pos, F :: B⟩ = some (⟨heap, gens, drawn, toks + 6, os⟩, ⟨K ((strsAt (sE (clsSt 6 0)) toks).map fun v => Value.str v.1 v.2), c, sQ (clsSt 6 0), F :: B⟩) := by
  kernel_rfl
theorem ev_61 (w : World) (n₀ : Nat) (ann : Option Value) (heap : Heap) (gens : Array GenState) (drawn : Drawn) (toks : Nat) (os : OsState) (env : Env) (K : List Value → Sem PySem.Fin) (H : Value → Sem PySem.Fin) (gd : Bool → Bool) (lv : List Value → List Value) (c : Code) (pos : Pos) (F : Frame) (B : List Frame) :
    topGo treeTable pw_ii0002_01 w n₀ ann 18 ⟨heap, gens, drawn, toks, os⟩ ⟨(evS (clsSt 6 1) env).wrap K H gd lv, c, pos, F :: B⟩ = some (⟨heap, gens, drawn, toks + 9, os⟩, ⟨K ((strsAt (sE (clsSt 6 1)) toks).map fun v => Value.str v.1 v.2), c, sQ (clsSt 6 1), F :: B⟩) := by
  kernel_rfl
theorem ev_80 (w : World) (n₀ : Nat) (ann : Option Value) (heap : Heap) (gens : Array GenState) (drawn : Drawn) (toks : Nat) (os : OsState) (env : Env) (K : List Value → Sem PySem.Fin) (H : Value → Sem PySem.Fin) (gd : Bool → Bool) (lv : List Value → List Value) (c : Code) (pos : Pos) (F : Frame) (B : List Frame) :
    topGo treeTable pw_ii0002_01 w n₀ ann 20 ⟨heap, gens, drawn, toks, os⟩ ⟨(evS (clsSt 8 0) env).wrap K H gd lv, c, pos, F :: B⟩ = some (⟨heap, gens, drawn, toks + 10, os⟩, ⟨K ((strsAt (sE (clsSt 8 0)) toks).map fun v => Value.str v.1 v.2), c, sQ (clsSt 8 0), F :: B⟩) := by
  kernel_rfl
/-- the looks that a set statement needs -/
def setLooks (s : Stmt) : Bool := decide (displayRoad 0 (sE s) = .unsure) && (sE s).all kdsPlain && Nat.ble (sE s).length 20 && decide (((strsAt (sE s) 0).map (·.1)).Nodup) && Nat.ble (strsAt (sE s) 0).length 20
theorem looks_60 : setLooks (clsSt 6 0) = true := by kernel_rfl
theorem looks_61 : setLooks (clsSt 6 1) = true := by kernel_rfl
theorem looks_80 : setLooks (clsSt 8 0) = true := by kernel_rfl
theorem strsAt_names : ∀ (l : List PySem.Expr) (n m : Nat), (strsAt l n).map (·.1) = (strsAt l m).map (·.1)
  | [], _, _ => rfl
  | e :: l, n, m => by
    unfold strsAt
    split
    · rename_i h; cases h; simp only [List.map_cons]; rw [strsAt_names l _ (m + 1)]
    · rfl
theorem strsAt_len (l : List PySem.Expr) (n m : Nat) : (strsAt l n).length = (strsAt l m).length := by
  have := congrArg List.length (strsAt_names l n m)
  simpa using this
/-- a set statement, from its beginning to the store of its value -/
theorem Go.setAt {w : World} {n₀ : Nat} {ann : Option Value} {h₀ : Heap} {gens : Array GenState} {drawn : Drawn} {toks k n : Nat} {os : OsState} {s : Stmt} {env : Env} {ca : Addr} {oc : Obj} {vals : Array Value} {rest : List Stmt} (lk : setLooks s = true) (hn : (strsAt (sE s) 0).length = n)
    (ev : ∀ (heap : Heap) (K : List Value → Sem PySem.Fin) (H : Value → Sem PySem.Fin) (gd : Bool → Bool) (lv : List Value → List Value) (c : Code) (pos : Pos) (F : Frame) (B : List Frame),
      topGo treeTable pw_ii0002_01 w n₀ ann k ⟨heap, gens, drawn, toks, os⟩ ⟨(evS s env).wrap K H gd lv, c, pos, F :: B⟩ = some (⟨heap, gens, drawn, toks + n, os⟩, ⟨K ((strsAt (sE s) toks).map fun v => Value.str v.1 v.2), c, sQ s, F :: B⟩))
    (hsw : swapsWithSole [asgT s] (.Set (sE s) 0 (sQ s)) (asgP s).line env = pure false) (hc : env.code = .ref ca) (hg : h₀.get? ca = some oc) (hd : oc.data = .fields vals) (ha : n₀ ≤ h₀.objs.size)
    (K : Flow → Sem PySem.Fin) (H : Value → Sem PySem.Fin) (gd : Bool → Bool) (lv : List Value → List Value) (c : Code) (pos : Pos) (F : Frame) (B : List Frame) :
    ∃ o' ys, SetIs ys o' ∧ Go treeTable pw_ii0002_01 w n₀ ann (k + 374) ⟨h₀, gens, drawn, toks, os⟩ ⟨(execs (theSet s :: rest) env).wrap K H gd lv, c, pos, F :: B⟩
      ⟨h₀.push o', gens, drawn, toks + n + n, os⟩ ⟨afterSet env (asgT s) (.Set (sE s) 0 (sQ s)) rest (.ref h₀.objs.size) K H gd lv, c, sQ s, F :: B⟩ := by
  simp only [setLooks, Bool.and_eq_true, decide_eq_true_eq, Nat.ble_eq] at lk
  obtain ⟨⟨⟨⟨l1, l2⟩, l3⟩, l4⟩, l5⟩ := lk
  have hl : (strsAt (sE s) toks).length = n := (strsAt_len _ _ _).trans hn
  have := Go.setStmt (w := w) (n₀ := n₀) (ann := ann) (h₀ := h₀) (gens := gens) (drawn := drawn) (toks := toks) (toks' := toks + n) (os := os) (env := env) (elts := sE s) (t := asgT s) (vs := strsAt (sE s) toks) (N := k) (rest := rest) hsw hc hg hd l1 (by
      refine List.findIdx?_eq_none_iff.mpr fun x hx => ?_
      rw [kds_star _ l2, List.map_map] at hx
      obtain ⟨t, _, rfl⟩ := List.mem_map.mp hx
      rfl) (by rw [kds_star _ l2, List.length_map, kds_len]; exact l3) (by rw [hl, ← hn]; exact l5) (by rw [strsAt_names _ toks 0]; exact l4) ha (fun o K H gd lv c pos F B => .of (ev _ K H gd lv c pos F B)) K H gd lv c pos F B
  rwa [hl] at this
end Mine
/- MHeap -/
namespace Mine
structure SO where
  es : Array (Int × Value)
  ep : Nat
  t : SetTable
abbrev SO.obj (o : SO) : Obj := setObj o.es o.ep o.t
noncomputable def clsScope : Stmt → Scope
  | .ClassDef _ _ _ _ _ _ s _ _ _ _ => s
  | _ => ⟨.function, [], false, false, []⟩
noncomputable def x0 (P : Params) : Obj := ⟨(.type "dict"), none, (.dict #[ek P (Str.ofString "__name__") 1 (.str (Str.ofString "builtins") 160), ek P (Str.ofString "__doc__") 2 (.builtin "builtins.__doc__:str#opaque"), ek P (Str.ofString "__package__") 3 (.builtin "builtins.__package__:str#opaque"), ek P (Str.ofString "__loader__") 4 (.builtin "builtins.__loader__:shared#opaque"), ek P (Str.ofString "__spec__") 5 (.builtin "builtins.__spec__#opaque"), ek P (Str.ofString "__build_class__") 6 (.builtin "__build_class__"), ek P (Str.ofString "__import__") 7 (.builtin "__import__"), ek P (Str.ofString "abs") 8 (.builtin "abs"), ek P (Str.ofString "all") 9 (.builtin "all"), ek P (Str.ofString "any") 10 (.builtin "any"), ek P (Str.ofString "ascii") 11 (.builtin "ascii"), ek P (Str.ofString "bin") 12 (.builtin "bin"), ek P (Str.ofString "breakpoint") 13 (.builtin "breakpoint"), ek P (Str.ofString "callable") 14 (.builtin "callable"), ek P (Str.ofString "chr") 15 (.builtin "chr"), ek P (Str.ofString "compile") 16 (.builtin "compile"), ek P (Str.ofString "delattr") 17 (.builtin "delattr"), ek P (Str.ofString "dir") 18 (.builtin "dir"), ek P (Str.ofString "divmod") 19 (.builtin "divmod"), ek P (Str.ofString "eval") 20 (.builtin "eval"), ek P (Str.ofString "exec") 21 (.builtin "exec"), ek P (Str.ofString "format") 22 (.builtin "format"), ek P (Str.ofString "getattr") 23 (.builtin "getattr"), ek P (Str.ofString "globals") 24 (.builtin "globals"), ek P (Str.ofString "hasattr") 25 (.builtin "hasattr"), ek P (Str.ofString "hash") 26 (.builtin "hash"), ek P (Str.ofString "hex") 27 (.builtin "hex"), ek P (Str.ofString "id") 28 (.builtin "id"), ek P (Str.ofString "input") 29 (.builtin "input"), ek P (Str.ofString "isinstance") 30 (.builtin "isinstance"), ek P (Str.ofString "issubclass") 31 (.builtin "issubclass"), ek P (Str.ofString "iter") 32 (.builtin "iter"), ek P (Str.ofString "aiter") 33 (.builtin "aiter"), ek P (Str.ofString "len") 34 (.builtin "len"), ek P (Str.ofString "locals") 35 (.builtin "locals"), ek P (Str.ofString "max") 36 (.builtin "max"), ek P (Str.ofString "min") 37 (.builtin "min"), ek P (Str.ofString "next") 38 (.builtin "next"), ek P (Str.ofString "anext") 39 (.builtin "anext"), ek P (Str.ofString "oct") 40 (.builtin "oct"), ek P (Str.ofString "ord") 41 (.builtin "ord"), ek P (Str.ofString "pow") 42 (.builtin "pow"), ek P (Str.ofString "print") 43 (.builtin "print"), ek P (Str.ofString "repr") 44 (.builtin "repr"), ek P (Str.ofString "round") 45 (.builtin "round"), ek P (Str.ofString "setattr") 46 (.builtin "setattr"), ek P (Str.ofString "sorted") 47 (.builtin "sorted"), ek P (Str.ofString "sum") 48 (.builtin "sum"), ek P (Str.ofString "vars") 49 (.builtin "vars"), ek P (Str.ofString "None") 50 .none, ek P (Str.ofString "Ellipsis") 51 .ellipsis, ek P (Str.ofString "NotImplemented") 52 .notImplemented, ek P (Str.ofString "False") 53 (.bool false), ek P (Str.ofString "True") 54 (.bool true), ek P (Str.ofString "bool") 55 (.type "bool"), ek P (Str.ofString "memoryview") 56 (.type "memoryview"), ek P (Str.ofString "bytearray") 57 (.type "bytearray"), ek P (Str.ofString "bytes") 58 (.type "bytes"), ek P (Str.ofString "classmethod") 59 (.type "classmethod"), ek P (Str.ofString "complex") 60 (.type "complex"), ek P (Str.ofString "dict") 61 (.type "dict"), ek P (Str.ofString "enumerate") 62 (.type "enumerate"), ek P (Str.ofString "filter") 63 (.type "filter"), ek P (Str.ofString "float") 64 (.type "float"), ek P (Str.ofString "frozenset") 65 (.type "frozenset"), ek P (Str.ofString "property") 66 (.type "property"), ek P (Str.ofString "int") 67 (.type "int"), ek P (Str.ofString "list") 68 (.type "list"), ek P (Str.ofString "map") 69 (.type "map"), ek P (Str.ofString "object") 70 (.type "object"), ek P (Str.ofString "range") 71 (.type "range"), ek P (Str.ofString "reversed") 72 (.type "reversed"), ek P (Str.ofString "set") 73 (.type "set"), ek P (Str.ofString "slice") 74 (.type "slice"), ek P (Str.ofString "staticmethod") 75 (.type "staticmethod"), ek P (Str.ofString "str") 76 (.type "str"), ek P (Str.ofString "super") 77 (.type "super"), ek P (Str.ofString "tuple") 78 (.type "tuple"), ek P (Str.ofString "type") 79 (.type "type"), ek P (Str.ofString "zip") 80 (.type "zip"), ek P (Str.ofString "__debug__") 81 (.bool true), ek P (Str.ofString "BaseException") 82 (.type "BaseException"), ek P (Str.ofString "BaseExceptionGroup") 83 (.type "BaseExceptionGroup"), ek P (Str.ofString "Exception") 84 (.type "Exception"), ek P (Str.ofString "GeneratorExit") 85 (.type "GeneratorExit"), ek P (Str.ofString "KeyboardInterrupt") 86 (.type "KeyboardInterrupt"), ek P (Str.ofString "SystemExit") 87 (.type "SystemExit"), ek P (Str.ofString "ArithmeticError") 88 (.type "ArithmeticError"), ek P (Str.ofString "AssertionError") 89 (.type "AssertionError"), ek P (Str.ofString "AttributeError") 90 (.type "AttributeError"), ek P (Str.ofString "BufferError") 91 (.type "BufferError"), ek P (Str.ofString "EOFError") 92 (.type "EOFError"), ek P (Str.ofString "ImportError") 93 (.type "ImportError"), ek P (Str.ofString "LookupError") 94 (.type "LookupError"), ek P (Str.ofString "MemoryError") 95 (.type "MemoryError"), ek P (Str.ofString "NameError") 96 (.type "NameError"), ek P (Str.ofString "OSError") 97 (.type "OSError"), ek P (Str.ofString "ReferenceError") 98 (.type "ReferenceError"), ek P (Str.ofString "RuntimeError") 99 (.type "RuntimeError"), ek P (Str.ofString "StopAsyncIteration") 100 (.type "StopAsyncIteration"), ek P (Str.ofString "StopIteration") 101 (.type "StopIteration"), ek P (Str.ofString "SyntaxError") 102 (.type "SyntaxError"), ek P (Str.ofString "SystemError") 103 (.type "SystemError"), ek P (Str.ofString "TypeError") 104 (.type "TypeError"), ek P (Str.ofString "ValueError") 105 (.type "ValueError"), ek P (Str.ofString "Warning") 106 (.type "Warning"), ek P (Str.ofString "FloatingPointError") 107 (.type "FloatingPointError"), ek P (Str.ofString "OverflowError") 108 (.type "OverflowError"), ek P (Str.ofString "ZeroDivisionError") 109 (.type "ZeroDivisionError"), ek P (Str.ofString "BytesWarning") 110 (.type "BytesWarning"), ek P (Str.ofString "DeprecationWarning") 111 (.type "DeprecationWarning"), ek P (Str.ofString "EncodingWarning") 112 (.type "EncodingWarning"), ek P (Str.ofString "FutureWarning") 113 (.type "FutureWarning"), ek P (Str.ofString "ImportWarning") 114 (.type "ImportWarning"), ek P (Str.ofString "PendingDeprecationWarning") 115 (.type "PendingDeprecationWarning"), ek P (Str.ofString "ResourceWarning") 116 (.type "ResourceWarning"), ek P (Str.ofString "RuntimeWarning") 117 (.type "RuntimeWarning"), ek P (Str.ofString "SyntaxWarning") 118 (.type "SyntaxWarning"), ek P (Str.ofString "UnicodeWarning") 119 (.type "UnicodeWarning"), ek P (Str.ofString "UserWarning") 120 (.type "UserWarning"), ek P (Str.ofString "BlockingIOError") 121 (.type "BlockingIOError"), ek P (Str.ofString "ChildProcessError") 122 (.type "ChildProcessError"), ek P (Str.ofString "ConnectionError") 123 (.type "ConnectionError"), ek P (Str.ofString "FileExistsError") 124 (.type "FileExistsError"), ek P (Str.ofString "FileNotFoundError") 125 (.type "FileNotFoundError"), ek P (Str.ofString "InterruptedError") 126 (.type "InterruptedError"), ek P (Str.ofString "IsADirectoryError") 127 (.type "IsADirectoryError"), ek P (Str.ofString "NotADirectoryError") 128 (.type "NotADirectoryError"), ek P (Str.ofString "PermissionError") 129 (.type "PermissionError"), ek P (Str.ofString "ProcessLookupError") 130 (.type "ProcessLookupError"), ek P (Str.ofString "TimeoutError") 131 (.type "TimeoutError"), ek P (Str.ofString "IndentationError") 132 (.type "IndentationError"), ek P (Str.ofString "_IncompleteInputError") 133 (.type "_IncompleteInputError"), ek P (Str.ofString "IndexError") 134 (.type "IndexError"), ek P (Str.ofString "KeyError") 135 (.type "KeyError"), ek P (Str.ofString "ModuleNotFoundError") 136 (.type "ModuleNotFoundError"), ek P (Str.ofString "NotImplementedError") 137 (.type "NotImplementedError"), ek P (Str.ofString "PythonFinalizationError") 138 (.type "PythonFinalizationError"), ek P (Str.ofString "RecursionError") 139 (.type "RecursionError"), ek P (Str.ofString "UnboundLocalError") 140 (.type "UnboundLocalError"), ek P (Str.ofString "UnicodeError") 141 (.type "UnicodeError"), ek P (Str.ofString "BrokenPipeError") 142 (.type "BrokenPipeError"), ek P (Str.ofString "ConnectionAbortedError") 143 (.type "ConnectionAbortedError"), ek P (Str.ofString "ConnectionRefusedError") 144 (.type "ConnectionRefusedError"), ek P (Str.ofString "ConnectionResetError") 145 (.type "ConnectionResetError"), ek P (Str.ofString "TabError") 146 (.type "TabError"), ek P (Str.ofString "UnicodeDecodeError") 147 (.type "UnicodeDecodeError"), ek P (Str.ofString "UnicodeEncodeError") 148 (.type "UnicodeEncodeError"), ek P (Str.ofString "UnicodeTranslateError") 149 (.type "UnicodeTranslateError"), ek P (Str.ofString "ExceptionGroup") 150 (.type "ExceptionGroup"), ek P (Str.ofString "EnvironmentError") 151 (.type "OSError"), ek P (Str.ofString "IOError") 152 (.type "OSError"), ek P (Str.ofString "open") 153 (.builtin "open"), ek P (Str.ofString "quit") 154 (.builtin "builtins.quit#opaque"), ek P (Str.ofString "exit") 155 (.builtin "builtins.exit#opaque"), ek P (Str.ofString "copyright") 156 (.builtin "builtins.copyright#opaque"), ek P (Str.ofString "credits") 157 (.builtin "builtins.credits#opaque"), ek P (Str.ofString "license") 158 (.builtin "builtins.license#opaque"), ek P (Str.ofString "help") 159 (.builtin "builtins.help#opaque")] 159), #[]⟩
noncomputable def x1 (P : Params) : Obj := ⟨(.type "dict"), none, (.dict #[ek P (Str.ofString "builtins") 162 (.ref 4), ek P (Str.ofString "__main__") 163 (.ref 5)] 2), #[]⟩
noncomputable def x2 (P : Params) : Obj := ⟨.none, none, (.dict #[] 0), #[]⟩
noncomputable def x3 (P : Params) : Obj := ⟨(.type "dict"), none, (.dict #[ek P (Str.ofString "__name__") 165 (.str (Str.ofString "snowballstemmer.basestemmer") 194), ek P (Str.ofString "__doc__") 166 .none, ek P (Str.ofString "__package__") 167 .none, ek P (Str.ofString "__loader__") 168 (.builtin "__main__.__loader__#opaque"), ek P (Str.ofString "__spec__") 169 .none, ek P (Str.ofString "__annotations__") 170 (.ref 6), ek P (Str.ofString "__builtins__") 171 (.ref 4), ek P (Str.ofString "__file__") 173 (.str (Str.ofString "/claim/cut.py") 172), ek P (Str.ofString "__cached__") 174 .none, ek P (Str.ofString "_wall") 193 (.ref 21), ek P (Str.ofString "BaseStemmer") 436 (.ref 199)] 11), #[]⟩
noncomputable def x4 (P : Params) : Obj := ⟨(.type "module"), (some 0), .plain, #[]⟩
noncomputable def x5 (P : Params) : Obj := ⟨(.type "module"), (some 3), .plain, #[]⟩
noncomputable def x6 (P : Params) : Obj := ⟨(.type "dict"), none, (.dict #[] 0), #[]⟩
noncomputable def x7 (P : Params) : Obj := ⟨(.type "tuple"), none, (.seq #[] 0), #[]⟩
noncomputable def x8 (P : Params) : Obj := ⟨.none, none, (.fields #[]), #[]⟩
noncomputable def x9 (P : Params) : Obj := ⟨(.type "code"), none, (.fields #[(.str (Str.ofString "<module>") 176), (.str (Str.ofString "<module>") 177), (.str (Str.ofString "/claim/cut.py") 178), (.int 1 0), (.int 0 0), (.int 0 0), (.int 0 0), (.int 0 0), (.ref 7), (.bool false), (.int 175 0), (.ref 8), .none, .none, .none, .none, (.int 179 0), (.int 1 0), (.str (Str.ofString "/claim/cut.py") 180)]), #[]⟩
noncomputable def x10 (P : Params) : Obj := ⟨(.type "frame"), none, .plain, #[(some (.ref 9)), (some (.ref 3)), (some (.ref 3)), none, (some (.str (Str.ofString "__main__") 164)), none, (some (.ref 0))]⟩
noncomputable def x11 (P : Params) : Obj := ⟨(.type "tuple"), none, (.seq #[] 0), #[]⟩
noncomputable def x12 (P : Params) : Obj := ⟨.none, none, (.fields #[(.int 1 0), (.int 0 0), (.ref 20), (.int 5 0), (.int 0 0), (.ref 27)]), #[]⟩
noncomputable def x13 (P : Params) : Obj := ⟨(.type "code"), none, (.fields #[(.str (Str.ofString "<module>") 182), (.str (Str.ofString "<module>") 183), (.str (Str.ofString "/claim/cut.py") 184), (.int 1 0), (.int 0 0), (.int 0 0), (.int 0 0), (.int 0 0), (.ref 11), (.bool false), (.int 181 0), (.ref 12), .none, .none, .none, .none, (.int 185 0), (.int 1 0), (.str (Str.ofString "/claim/cut.py") 186)]), #[]⟩
noncomputable def x14 (P : Params) : Obj := ⟨(.type "frame"), none, .plain, #[(some (.ref 13)), (some (.ref 3)), (some (.ref 3)), none, (some (.str (Str.ofString "__main__") 164)), none, (some (.ref 0))]⟩
noncomputable def x15 (P : Params) : Obj := ⟨(.type "tuple"), none, (.seq #[] 0), #[]⟩
noncomputable def x16 (P : Params) : Obj := ⟨.none, none, (.fields #[]), #[]⟩
noncomputable def x17 (P : Params) : Obj := ⟨(.type "tuple"), none, (.seq #[(.str (Str.ofString "k") 190)] 0), #[]⟩
noncomputable def x18 (P : Params) : Obj := ⟨(.type "tuple"), none, (.seq #[] 0), #[]⟩
noncomputable def x19 (P : Params) : Obj := ⟨.none, none, (.func { name := (Str.ofString "_wall"), qualname := (Str.ofString "_wall"), params := fnArgs (topSt 0), body := .stmts (fnBody (topSt 0)), scope := fnScope (topSt 0), globals := 0, closure := [], defaults := .none, kwdefaults := .none, doc := .none, pyModule := .none, annotations := none, code := .none, closureTuple := .none, builtins := 0 }), #[]⟩
noncomputable def x20 (P : Params) : Obj := ⟨(.type "code"), none, (.fields #[(.str (Str.ofString "_wall") 187), (.str (Str.ofString "_wall") 188), (.str (Str.ofString "/claim/cut.py") 189), (.int 1 0), (.int 1 0), (.int 0 0), (.int 0 0), (.int 3 0), (.ref 15), (.bool true), (.int 181 0), (.ref 16), .none, (.ref 17), (.ref 18), (.ref 19), (.int 191 0), (.int 1 0), (.str (Str.ofString "/claim/cut.py") 192)]), #[]⟩
noncomputable def x21 (P : Params) : Obj := ⟨(.type "function"), none, (.func { name := (Str.ofString "_wall"), qualname := (Str.ofString "_wall"), params := fnArgs (topSt 0), body := .stmts (fnBody (topSt 0)), scope := fnScope (topSt 0), globals := 3, closure := [], defaults := .none, kwdefaults := .none, doc := .none, pyModule := (.str (Str.ofString "__main__") 164), annotations := none, code := (.ref 20), closureTuple := .none, builtins := 0 }), #[]⟩
noncomputable def x22 (P : Params) : Obj := ⟨(.type "tuple"), none, (.seq #[] 0), #[]⟩
noncomputable def x23 (P : Params) : Obj := ⟨(.type "builtin_function_or_method"), none, (.fields #[(.builtin "type.__prepare__"), (.type "type")]), #[]⟩
noncomputable def x24 (P : Params) : Obj := ⟨(.type "dict"), none, (.dict #[ek P (Str.ofString "__module__") 203 (.str (Str.ofString "snowballstemmer.basestemmer") 194), ek P (Str.ofString "__qualname__") 205 (.str (Str.ofString "BaseStemmer") 204), ek P (Str.ofString "__firstlineno__") 207 (.int 5 206), ek P (Str.ofString "__init__") 214 (.ref 35), ek P (Str.ofString "set_current") 222 (.ref 42), ek P (Str.ofString "get_current") 229 (.ref 49), ek P (Str.ofString "copy_from") 237 (.ref 56), ek P (Str.ofString "in_grouping") 245 (.ref 63), ek P (Str.ofString "go_in_grouping") 253 (.ref 70), ek P (Str.ofString "in_grouping_b") 261 (.ref 77), ek P (Str.ofString "go_in_grouping_b") 269 (.ref 84), ek P (Str.ofString "out_grouping") 277 (.ref 91), ek P (Str.ofString "go_out_grouping") 285 (.ref 98), ek P (Str.ofString "out_grouping_b") 293 (.ref 105), ek P (Str.ofString "go_out_grouping_b") 301 (.ref 112), ek P (Str.ofString "eq_s") 309 (.ref 119), ek P (Str.ofString "eq_s_b") 317 (.ref 126), ek P (Str.ofString "find_among") 337 (.ref 133), ek P (Str.ofString "find_among_b") 357 (.ref 140), ek P (Str.ofString "replace_s") 367 (.ref 147), ek P (Str.ofString "slice_from") 375 (.ref 154), ek P (Str.ofString "slice_del") 382 (.ref 161), ek P (Str.ofString "insert") 392 (.ref 168), ek P (Str.ofString "slice_to") 399 (.ref 175), ek P (Str.ofString "assign_to") 406 (.ref 182), ek P (Str.ofString "stemWord") 414 (.ref 189), ek P (Str.ofString "stemWords") 422 (.ref 196), ek P (Str.ofString "__static_attributes__") 429 (.ref 197)] 28), #[]⟩
noncomputable def x25 (P : Params) : Obj := ⟨(.type "tuple"), none, (.seq #[] 0), #[]⟩
noncomputable def x26 (P : Params) : Obj := ⟨.none, none, (.fields #[(.int 7 0), (.int 4 0), (.ref 34), (.int 10 0), (.int 4 0), (.ref 41), (.int 18 0), (.int 4 0), (.ref 48), (.int 21 0), (.int 4 0), (.ref 55), (.int 24 0), (.int 4 0), (.ref 62), (.int 27 0), (.int 4 0), (.ref 69), (.int 30 0), (.int 4 0), (.ref 76), (.int 33 0), (.int 4 0), (.ref 83), (.int 36 0), (.int 4 0), (.ref 90), (.int 39 0), (.int 4 0), (.ref 97), (.int 42 0), (.int 4 0), (.ref 104), (.int 45 0), (.int 4 0), (.ref 111), (.int 48 0), (.int 4 0), (.ref 118), (.int 51 0), (.int 4 0), (.ref 125), (.int 54 0), (.int 4 0), (.ref 132), (.int 99 0), (.int 4 0), (.ref 139), (.int 144 0), (.int 4 0), (.ref 146), (.int 147 0), (.int 4 0), (.ref 153), (.int 150 0), (.int 4 0), (.ref 160), (.int 153 0), (.int 4 0), (.ref 167), (.int 156 0), (.int 4 0), (.ref 174), (.int 159 0), (.int 4 0), (.ref 181), (.int 162 0), (.int 4 0), (.ref 188), (.int 165 0), (.int 4 0), (.ref 195)]), #[]⟩
noncomputable def x27 (P : Params) : Obj := ⟨(.type "code"), none, (.fields #[(.str (Str.ofString "BaseStemmer") 198), (.str (Str.ofString "BaseStemmer") 199), (.str (Str.ofString "/claim/cut.py") 200), (.int 5 0), (.int 0 0), (.int 0 0), (.int 0 0), (.int 0 0), (.ref 25), (.bool false), (.int 181 0), (.ref 26), .none, .none, .none, .none, (.int 201 0), (.int 5 0), (.str (Str.ofString "/claim/cut.py") 202)]), #[]⟩
noncomputable def x28 (P : Params) : Obj := ⟨(.type "frame"), none, .plain, #[(some (.ref 27)), (some (.ref 3)), (some (.ref 24)), none, (some (.str (Str.ofString "snowballstemmer.basestemmer") 194)), none, (some (.ref 0))]⟩
noncomputable def x29 (P : Params) : Obj := ⟨(.type "tuple"), none, (.seq #[] 0), #[]⟩
noncomputable def x30 (P : Params) : Obj := ⟨.none, none, (.fields #[]), #[]⟩
noncomputable def x31 (P : Params) : Obj := ⟨(.type "tuple"), none, (.seq #[(.str (Str.ofString "self") 211)] 0), #[]⟩
noncomputable def x32 (P : Params) : Obj := ⟨(.type "tuple"), none, (.seq #[] 0), #[]⟩
noncomputable def x33 (P : Params) : Obj := ⟨.none, none, (.func { name := (Str.ofString "__init__"), qualname := (Str.ofString "BaseStemmer.__init__"), params := fnArgs (clsSt 2 0), body := .stmts (fnBody (clsSt 2 0)), scope := fnScope (clsSt 2 0), globals := 0, closure := [], defaults := .none, kwdefaults := .none, doc := .none, pyModule := .none, annotations := none, code := .none, closureTuple := .none, builtins := 0 }), #[]⟩
noncomputable def x34 (P : Params) : Obj := ⟨(.type "code"), none, (.fields #[(.str (Str.ofString "__init__") 208), (.str (Str.ofString "BaseStemmer.__init__") 209), (.str (Str.ofString "/claim/cut.py") 210), (.int 7 0), (.int 1 0), (.int 0 0), (.int 0 0), (.int 3 0), (.ref 29), (.bool true), (.int 181 0), (.ref 30), .none, (.ref 31), (.ref 32), (.ref 33), (.int 212 0), (.int 7 0), (.str (Str.ofString "/claim/cut.py") 213)]), #[]⟩
noncomputable def x35 (P : Params) : Obj := ⟨(.type "function"), none, (.func { name := (Str.ofString "__init__"), qualname := (Str.ofString "BaseStemmer.__init__"), params := fnArgs (clsSt 2 0), body := .stmts (fnBody (clsSt 2 0)), scope := fnScope (clsSt 2 0), globals := 3, closure := [], defaults := .none, kwdefaults := .none, doc := .none, pyModule := (.str (Str.ofString "snowballstemmer.basestemmer") 194), annotations := none, code := (.ref 34), closureTuple := .none, builtins := 0 }), #[]⟩
noncomputable def x36 (P : Params) : Obj := ⟨(.type "tuple"), none, (.seq #[] 0), #[]⟩
noncomputable def x37 (P : Params) : Obj := ⟨.none, none, (.fields #[]), #[]⟩
noncomputable def x38 (P : Params) : Obj := ⟨(.type "tuple"), none, (.seq #[(.str (Str.ofString "self") 218), (.str (Str.ofString "value") 219)] 0), #[]⟩
noncomputable def x39 (P : Params) : Obj := ⟨(.type "tuple"), none, (.seq #[] 0), #[]⟩
noncomputable def x40 (P : Params) : Obj := ⟨.none, none, (.func { name := (Str.ofString "set_current"), qualname := (Str.ofString "BaseStemmer.set_current"), params := fnArgs (clsSt 2 1), body := .stmts (fnBody (clsSt 2 1)), scope := fnScope (clsSt 2 1), globals := 0, closure := [], defaults := .none, kwdefaults := .none, doc := .none, pyModule := .none, annotations := none, code := .none, closureTuple := .none, builtins := 0 }), #[]⟩
noncomputable def x41 (P : Params) : Obj := ⟨(.type "code"), none, (.fields #[(.str (Str.ofString "set_current") 215), (.str (Str.ofString "BaseStemmer.set_current") 216), (.str (Str.ofString "/claim/cut.py") 217), (.int 10 0), (.int 2 0), (.int 0 0), (.int 0 0), (.int 3 0), (.ref 36), (.bool true), (.int 181 0), (.ref 37), .none, (.ref 38), (.ref 39), (.ref 40), (.int 220 0), (.int 10 0), (.str (Str.ofString "/claim/cut.py") 221)]), #[]⟩
noncomputable def x42 (P : Params) : Obj := ⟨(.type "function"), none, (.func { name := (Str.ofString "set_current"), qualname := (Str.ofString "BaseStemmer.set_current"), params := fnArgs (clsSt 2 1), body := .stmts (fnBody (clsSt 2 1)), scope := fnScope (clsSt 2 1), globals := 3, closure := [], defaults := .none, kwdefaults := .none, doc := .none, pyModule := (.str (Str.ofString "snowballstemmer.basestemmer") 194), annotations := none, code := (.ref 41), closureTuple := .none, builtins := 0 }), #[]⟩
noncomputable def x43 (P : Params) : Obj := ⟨(.type "tuple"), none, (.seq #[] 0), #[]⟩
noncomputable def x44 (P : Params) : Obj := ⟨.none, none, (.fields #[]), #[]⟩
noncomputable def x45 (P : Params) : Obj := ⟨(.type "tuple"), none, (.seq #[(.str (Str.ofString "self") 226)] 0), #[]⟩
noncomputable def x46 (P : Params) : Obj := ⟨(.type "tuple"), none, (.seq #[] 0), #[]⟩
noncomputable def x47 (P : Params) : Obj := ⟨.none, none, (.func { name := (Str.ofString "get_current"), qualname := (Str.ofString "BaseStemmer.get_current"), params := fnArgs (clsSt 2 2), body := .stmts (fnBody (clsSt 2 2)), scope := fnScope (clsSt 2 2), globals := 0, closure := [], defaults := .none, kwdefaults := .none, doc := .none, pyModule := .none, annotations := none, code := .none, closureTuple := .none, builtins := 0 }), #[]⟩
noncomputable def x48 (P : Params) : Obj := ⟨(.type "code"), none, (.fields #[(.str (Str.ofString "get_current") 223), (.str (Str.ofString "BaseStemmer.get_current") 224), (.str (Str.ofString "/claim/cut.py") 225), (.int 18 0), (.int 1 0), (.int 0 0), (.int 0 0), (.int 3 0), (.ref 43), (.bool true), (.int 181 0), (.ref 44), .none, (.ref 45), (.ref 46), (.ref 47), (.int 227 0), (.int 18 0), (.str (Str.ofString "/claim/cut.py") 228)]), #[]⟩
noncomputable def x49 (P : Params) : Obj := ⟨(.type "function"), none, (.func { name := (Str.ofString "get_current"), qualname := (Str.ofString "BaseStemmer.get_current"), params := fnArgs (clsSt 2 2), body := .stmts (fnBody (clsSt 2 2)), scope := fnScope (clsSt 2 2), globals := 3, closure := [], defaults := .none, kwdefaults := .none, doc := .none, pyModule := (.str (Str.ofString "snowballstemmer.basestemmer") 194), annotations := none, code := (.ref 48), closureTuple := .none, builtins := 0 }), #[]⟩
noncomputable def x50 (P : Params) : Obj := ⟨(.type "tuple"), none, (.seq #[] 0), #[]⟩
noncomputable def x51 (P : Params) : Obj := ⟨.none, none, (.fields #[]), #[]⟩
noncomputable def x52 (P : Params) : Obj := ⟨(.type "tuple"), none, (.seq #[(.str (Str.ofString "self") 233), (.str (Str.ofString "other") 234)] 0), #[]⟩
noncomputable def x53 (P : Params) : Obj := ⟨(.type "tuple"), none, (.seq #[] 0), #[]⟩
noncomputable def x54 (P : Params) : Obj := ⟨.none, none, (.func { name := (Str.ofString "copy_from"), qualname := (Str.ofString "BaseStemmer.copy_from"), params := fnArgs (clsSt 2 3), body := .stmts (fnBody (clsSt 2 3)), scope := fnScope (clsSt 2 3), globals := 0, closure := [], defaults := .none, kwdefaults := .none, doc := .none, pyModule := .none, annotations := none, code := .none, closureTuple := .none, builtins := 0 }), #[]⟩
noncomputable def x55 (P : Params) : Obj := ⟨(.type "code"), none, (.fields #[(.str (Str.ofString "copy_from") 230), (.str (Str.ofString "BaseStemmer.copy_from") 231), (.str (Str.ofString "/claim/cut.py") 232), (.int 21 0), (.int 2 0), (.int 0 0), (.int 0 0), (.int 3 0), (.ref 50), (.bool true), (.int 181 0), (.ref 51), .none, (.ref 52), (.ref 53), (.ref 54), (.int 235 0), (.int 21 0), (.str (Str.ofString "/claim/cut.py") 236)]), #[]⟩
noncomputable def x56 (P : Params) : Obj := ⟨(.type "function"), none, (.func { name := (Str.ofString "copy_from"), qualname := (Str.ofString "BaseStemmer.copy_from"), params := fnArgs (clsSt 2 3), body := .stmts (fnBody (clsSt 2 3)), scope := fnScope (clsSt 2 3), globals := 3, closure := [], defaults := .none, kwdefaults := .none, doc := .none, pyModule := (.str (Str.ofString "snowballstemmer.basestemmer") 194), annotations := none, code := (.ref 55), closureTuple := .none, builtins := 0 }), #[]⟩
noncomputable def x57 (P : Params) : Obj := ⟨(.type "tuple"), none, (.seq #[] 0), #[]⟩
noncomputable def x58 (P : Params) : Obj := ⟨.none, none, (.fields #[]), #[]⟩
noncomputable def x59 (P : Params) : Obj := ⟨(.type "tuple"), none, (.seq #[(.str (Str.ofString "self") 241), (.str (Str.ofString "s") 242)] 0), #[]⟩
noncomputable def x60 (P : Params) : Obj := ⟨(.type "tuple"), none, (.seq #[] 0), #[]⟩
noncomputable def x61 (P : Params) : Obj := ⟨.none, none, (.func { name := (Str.ofString "in_grouping"), qualname := (Str.ofString "BaseStemmer.in_grouping"), params := fnArgs (clsSt 2 4), body := .stmts (fnBody (clsSt 2 4)), scope := fnScope (clsSt 2 4), globals := 0, closure := [], defaults := .none, kwdefaults := .none, doc := .none, pyModule := .none, annotations := none, code := .none, closureTuple := .none, builtins := 0 }), #[]⟩
noncomputable def x62 (P : Params) : Obj := ⟨(.type "code"), none, (.fields #[(.str (Str.ofString "in_grouping") 238), (.str (Str.ofString "BaseStemmer.in_grouping") 239), (.str (Str.ofString "/claim/cut.py") 240), (.int 24 0), (.int 2 0), (.int 0 0), (.int 0 0), (.int 3 0), (.ref 57), (.bool true), (.int 181 0), (.ref 58), .none, (.ref 59), (.ref 60), (.ref 61), (.int 243 0), (.int 24 0), (.str (Str.ofString "/claim/cut.py") 244)]), #[]⟩
noncomputable def x63 (P : Params) : Obj := ⟨(.type "function"), none, (.func { name := (Str.ofString "in_grouping"), qualname := (Str.ofString "BaseStemmer.in_grouping"), params := fnArgs (clsSt 2 4), body := .stmts (fnBody (clsSt 2 4)), scope := fnScope (clsSt 2 4), globals := 3, closure := [], defaults := .none, kwdefaults := .none, doc := .none, pyModule := (.str (Str.ofString "snowballstemmer.basestemmer") 194), annotations := none, code := (.ref 62), closureTuple := .none, builtins := 0 }), #[]⟩
noncomputable def x64 (P : Params) : Obj := ⟨(.type "tuple"), none, (.seq #[] 0), #[]⟩
noncomputable def x65 (P : Params) : Obj := ⟨.none, none, (.fields #[]), #[]⟩
noncomputable def x66 (P : Params) : Obj := ⟨(.type "tuple"), none, (.seq #[(.str (Str.ofString "self") 249), (.str (Str.ofString "s") 250)] 0), #[]⟩
noncomputable def x67 (P : Params) : Obj := ⟨(.type "tuple"), none, (.seq #[] 0), #[]⟩
noncomputable def x68 (P : Params) : Obj := ⟨.none, none, (.func { name := (Str.ofString "go_in_grouping"), qualname := (Str.ofString "BaseStemmer.go_in_grouping"), params := fnArgs (clsSt 2 5), body := .stmts (fnBody (clsSt 2 5)), scope := fnScope (clsSt 2 5), globals := 0, closure := [], defaults := .none, kwdefaults := .none, doc := .none, pyModule := .none, annotations := none, code := .none, closureTuple := .none, builtins := 0 }), #[]⟩
noncomputable def x69 (P : Params) : Obj := ⟨(.type "code"), none, (.fields #[(.str (Str.ofString "go_in_grouping") 246), (.str (Str.ofString "BaseStemmer.go_in_grouping") 247), (.str (Str.ofString "/claim/cut.py") 248), (.int 27 0), (.int 2 0), (.int 0 0), (.int 0 0), (.int 3 0), (.ref 64), (.bool true), (.int 181 0), (.ref 65), .none, (.ref 66), (.ref 67), (.ref 68), (.int 251 0), (.int 27 0), (.str (Str.ofString "/claim/cut.py") 252)]), #[]⟩
noncomputable def x70 (P : Params) : Obj := ⟨(.type "function"), none, (.func { name := (Str.ofString "go_in_grouping"), qualname := (Str.ofString "BaseStemmer.go_in_grouping"), params := fnArgs (clsSt 2 5), body := .stmts (fnBody (clsSt 2 5)), scope := fnScope (clsSt 2 5), globals := 3, closure := [], defaults := .none, kwdefaults := .none, doc := .none, pyModule := (.str (Str.ofString "snowballstemmer.basestemmer") 194), annotations := none, code := (.ref 69), closureTuple := .none, builtins := 0 }), #[]⟩
noncomputable def x71 (P : Params) : Obj := ⟨(.type "tuple"), none, (.seq #[] 0), #[]⟩
noncomputable def x72 (P : Params) : Obj := ⟨.none, none, (.fields #[]), #[]⟩
noncomputable def x73 (P : Params) : Obj := ⟨(.type "tuple"), none, (.seq #[(.str (Str.ofString "self") 257), (.str (Str.ofString "s") 258)] 0), #[]⟩
noncomputable def x74 (P : Params) : Obj := ⟨(.type "tuple"), none, (.seq #[] 0), #[]⟩
noncomputable def x75 (P : Params) : Obj := ⟨.none, none, (.func { name := (Str.ofString "in_grouping_b"), qualname := (Str.ofString "BaseStemmer.in_grouping_b"), params := fnArgs (clsSt 2 6), body := .stmts (fnBody (clsSt 2 6)), scope := fnScope (clsSt 2 6), globals := 0, closure := [], defaults := .none, kwdefaults := .none, doc := .none, pyModule := .none, annotations := none, code := .none, closureTuple := .none, builtins := 0 }), #[]⟩
noncomputable def x76 (P : Params) : Obj := ⟨(.type "code"), none, (.fields #[(.str (Str.ofString "in_grouping_b") 254), (.str (Str.ofString "BaseStemmer.in_grouping_b") 255), (.str (Str.ofString "/claim/cut.py") 256), (.int 30 0), (.int 2 0), (.int 0 0), (.int 0 0), (.int 3 0), (.ref 71), (.bool true), (.int 181 0), (.ref 72), .none, (.ref 73), (.ref 74), (.ref 75), (.int 259 0), (.int 30 0), (.str (Str.ofString "/claim/cut.py") 260)]), #[]⟩
noncomputable def x77 (P : Params) : Obj := ⟨(.type "function"), none, (.func { name := (Str.ofString "in_grouping_b"), qualname := (Str.ofString "BaseStemmer.in_grouping_b"), params := fnArgs (clsSt 2 6), body := .stmts (fnBody (clsSt 2 6)), scope := fnScope (clsSt 2 6), globals := 3, closure := [], defaults := .none, kwdefaults := .none, doc := .none, pyModule := (.str (Str.ofString "snowballstemmer.basestemmer") 194), annotations := none, code := (.ref 76), closureTuple := .none, builtins := 0 }), #[]⟩
noncomputable def x78 (P : Params) : Obj := ⟨(.type "tuple"), none, (.seq #[] 0), #[]⟩
noncomputable def x79 (P : Params) : Obj := ⟨.none, none, (.fields #[]), #[]⟩
noncomputable def x80 (P : Params) : Obj := ⟨(.type "tuple"), none, (.seq #[(.str (Str.ofString "self") 265), (.str (Str.ofString "s") 266)] 0), #[]⟩
noncomputable def x81 (P : Params) : Obj := ⟨(.type "tuple"), none, (.seq #[] 0), #[]⟩
noncomputable def x82 (P : Params) : Obj := ⟨.none, none, (.func { name := (Str.ofString "go_in_grouping_b"), qualname := (Str.ofString "BaseStemmer.go_in_grouping_b"), params := fnArgs (clsSt 2 7), body := .stmts (fnBody (clsSt 2 7)), scope := fnScope (clsSt 2 7), globals := 0, closure := [], defaults := .none, kwdefaults := .none, doc := .none, pyModule := .none, annotations := none, code := .none, closureTuple := .none, builtins := 0 }), #[]⟩
noncomputable def x83 (P : Params) : Obj := ⟨(.type "code"), none, (.fields #[(.str (Str.ofString "go_in_grouping_b") 262), (.str (Str.ofString "BaseStemmer.go_in_grouping_b") 263), (.str (Str.ofString "/claim/cut.py") 264), (.int 33 0), (.int 2 0), (.int 0 0), (.int 0 0), (.int 3 0), (.ref 78), (.bool true), (.int 181 0), (.ref 79), .none, (.ref 80), (.ref 81), (.ref 82), (.int 267 0), (.int 33 0), (.str (Str.ofString "/claim/cut.py") 268)]), #[]⟩
noncomputable def x84 (P : Params) : Obj := ⟨(.type "function"), none, (.func { name := (Str.ofString "go_in_grouping_b"), qualname := (Str.ofString "BaseStemmer.go_in_grouping_b"), params := fnArgs (clsSt 2 7), body := .stmts (fnBody (clsSt 2 7)), scope := fnScope (clsSt 2 7), globals := 3, closure := [], defaults := .none, kwdefaults := .none, doc := .none, pyModule := (.str (Str.ofString "snowballstemmer.basestemmer") 194), annotations := none, code := (.ref 83), closureTuple := .none, builtins := 0 }), #[]⟩
noncomputable def x85 (P : Params) : Obj := ⟨(.type "tuple"), none, (.seq #[] 0), #[]⟩
noncomputable def x86 (P : Params) : Obj := ⟨.none, none, (.fields #[]), #[]⟩
noncomputable def x87 (P : Params) : Obj := ⟨(.type "tuple"), none, (.seq #[(.str (Str.ofString "self") 273), (.str (Str.ofString "s") 274)] 0), #[]⟩
noncomputable def x88 (P : Params) : Obj := ⟨(.type "tuple"), none, (.seq #[] 0), #[]⟩
noncomputable def x89 (P : Params) : Obj := ⟨.none, none, (.func { name := (Str.ofString "out_grouping"), qualname := (Str.ofString "BaseStemmer.out_grouping"), params := fnArgs (clsSt 2 8), body := .stmts (fnBody (clsSt 2 8)), scope := fnScope (clsSt 2 8), globals := 0, closure := [], defaults := .none, kwdefaults := .none, doc := .none, pyModule := .none, annotations := none, code := .none, closureTuple := .none, builtins := 0 }), #[]⟩
noncomputable def x90 (P : Params) : Obj := ⟨(.type "code"), none, (.fields #[(.str (Str.ofString "out_grouping") 270), (.str (Str.ofString "BaseStemmer.out_grouping") 271), (.str (Str.ofString "/claim/cut.py") 272), (.int 36 0), (.int 2 0), (.int 0 0), (.int 0 0), (.int 3 0), (.ref 85), (.bool true), (.int 181 0), (.ref 86), .none, (.ref 87), (.ref 88), (.ref 89), (.int 275 0), (.int 36 0), (.str (Str.ofString "/claim/cut.py") 276)]), #[]⟩
noncomputable def x91 (P : Params) : Obj := ⟨(.type "function"), none, (.func { name := (Str.ofString "out_grouping"), qualname := (Str.ofString "BaseStemmer.out_grouping"), params := fnArgs (clsSt 2 8), body := .stmts (fnBody (clsSt 2 8)), scope := fnScope (clsSt 2 8), globals := 3, closure := [], defaults := .none, kwdefaults := .none, doc := .none, pyModule := (.str (Str.ofString "snowballstemmer.basestemmer") 194), annotations := none, code := (.ref 90), closureTuple := .none, builtins := 0 }), #[]⟩
noncomputable def x92 (P : Params) : Obj := ⟨(.type "tuple"), none, (.seq #[] 0), #[]⟩
noncomputable def x93 (P : Params) : Obj := ⟨.none, none, (.fields #[]), #[]⟩
noncomputable def x94 (P : Params) : Obj := ⟨(.type "tuple"), none, (.seq #[(.str (Str.ofString "self") 281), (.str (Str.ofString "s") 282)] 0), #[]⟩
noncomputable def x95 (P : Params) : Obj := ⟨(.type "tuple"), none, (.seq #[] 0), #[]⟩
noncomputable def x96 (P : Params) : Obj := ⟨.none, none, (.func { name := (Str.ofString "go_out_grouping"), qualname := (Str.ofString "BaseStemmer.go_out_grouping"), params := fnArgs (clsSt 2 9), body := .stmts (fnBody (clsSt 2 9)), scope := fnScope (clsSt 2 9), globals := 0, closure := [], defaults := .none, kwdefaults := .none, doc := .none, pyModule := .none, annotations := none, code := .none, closureTuple := .none, builtins := 0 }), #[]⟩
noncomputable def x97 (P : Params) : Obj := ⟨(.type "code"), none, (.fields #[(.str (Str.ofString "go_out_grouping") 278), (.str (Str.ofString "BaseStemmer.go_out_grouping") 279), (.str (Str.ofString "/claim/cut.py") 280), (.int 39 0), (.int 2 0), (.int 0 0), (.int 0 0), (.int 3 0), (.ref 92), (.bool true), (.int 181 0), (.ref 93), .none, (.ref 94), (.ref 95), (.ref 96), (.int 283 0), (.int 39 0), (.str (Str.ofString "/claim/cut.py") 284)]), #[]⟩
noncomputable def x98 (P : Params) : Obj := ⟨(.type "function"), none, (.func { name := (Str.ofString "go_out_grouping"), qualname := (Str.ofString "BaseStemmer.go_out_grouping"), params := fnArgs (clsSt 2 9), body := .stmts (fnBody (clsSt 2 9)), scope := fnScope (clsSt 2 9), globals := 3, closure := [], defaults := .none, kwdefaults := .none, doc := .none, pyModule := (.str (Str.ofString "snowballstemmer.basestemmer") 194), annotations := none, code := (.ref 97), closureTuple := .none, builtins := 0 }), #[]⟩
noncomputable def x99 (P : Params) : Obj := ⟨(.type "tuple"), none, (.seq #[] 0), #[]⟩
noncomputable def x100 (P : Params) : Obj := ⟨.none, none, (.fields #[]), #[]⟩
noncomputable def x101 (P : Params) : Obj := ⟨(.type "tuple"), none, (.seq #[(.str (Str.ofString "self") 289), (.str (Str.ofString "s") 290)] 0), #[]⟩
noncomputable def x102 (P : Params) : Obj := ⟨(.type "tuple"), none, (.seq #[] 0), #[]⟩
noncomputable def x103 (P : Params) : Obj := ⟨.none, none, (.func { name := (Str.ofString "out_grouping_b"), qualname := (Str.ofString "BaseStemmer.out_grouping_b"), params := fnArgs (clsSt 2 10), body := .stmts (fnBody (clsSt 2 10)), scope := fnScope (clsSt 2 10), globals := 0, closure := [], defaults := .none, kwdefaults := .none, doc := .none, pyModule := .none, annotations := none, code := .none, closureTuple := .none, builtins := 0 }), #[]⟩
noncomputable def x104 (P : Params) : Obj := ⟨(.type "code"), none, (.fields #[(.str (Str.ofString "out_grouping_b") 286), (.str (Str.ofString "BaseStemmer.out_grouping_b") 287), (.str (Str.ofString "/claim/cut.py") 288), (.int 42 0), (.int 2 0), (.int 0 0), (.int 0 0), (.int 3 0), (.ref 99), (.bool true), (.int 181 0), (.ref 100), .none, (.ref 101), (.ref 102), (.ref 103), (.int 291 0), (.int 42 0), (.str (Str.ofString "/claim/cut.py") 292)]), #[]⟩
noncomputable def x105 (P : Params) : Obj := ⟨(.type "function"), none, (.func { name := (Str.ofString "out_grouping_b"), qualname := (Str.ofString "BaseStemmer.out_grouping_b"), params := fnArgs (clsSt 2 10), body := .stmts (fnBody (clsSt 2 10)), scope := fnScope (clsSt 2 10), globals := 3, closure := [], defaults := .none, kwdefaults := .none, doc := .none, pyModule := (.str (Str.ofString "snowballstemmer.basestemmer") 194), annotations := none, code := (.ref 104), closureTuple := .none, builtins := 0 }), #[]⟩
noncomputable def x106 (P : Params) : Obj := ⟨(.type "tuple"), none, (.seq #[] 0), #[]⟩
noncomputable def x107 (P : Params) : Obj := ⟨.none, none, (.fields #[]), #[]⟩
noncomputable def x108 (P : Params) : Obj := ⟨(.type "tuple"), none, (.seq #[(.str (Str.ofString "self") 297), (.str (Str.ofString "s") 298)] 0), #[]⟩
noncomputable def x109 (P : Params) : Obj := ⟨(.type "tuple"), none, (.seq #[] 0), #[]⟩
noncomputable def x110 (P : Params) : Obj := ⟨.none, none, (.func { name := (Str.ofString "go_out_grouping_b"), qualname := (Str.ofString "BaseStemmer.go_out_grouping_b"), params := fnArgs (clsSt 2 11), body := .stmts (fnBody (clsSt 2 11)), scope := fnScope (clsSt 2 11), globals := 0, closure := [], defaults := .none, kwdefaults := .none, doc := .none, pyModule := .none, annotations := none, code := .none, closureTuple := .none, builtins := 0 }), #[]⟩
noncomputable def x111 (P : Params) : Obj := ⟨(.type "code"), none, (.fields #[(.str (Str.ofString "go_out_grouping_b") 294), (.str (Str.ofString "BaseStemmer.go_out_grouping_b") 295), (.str (Str.ofString "/claim/cut.py") 296), (.int 45 0), (.int 2 0), (.int 0 0), (.int 0 0), (.int 3 0), (.ref 106), (.bool true), (.int 181 0), (.ref 107), .none, (.ref 108), (.ref 109), (.ref 110), (.int 299 0), (.int 45 0), (.str (Str.ofString "/claim/cut.py") 300)]), #[]⟩
noncomputable def x112 (P : Params) : Obj := ⟨(.type "function"), none, (.func { name := (Str.ofString "go_out_grouping_b"), qualname := (Str.ofString "BaseStemmer.go_out_grouping_b"), params := fnArgs (clsSt 2 11), body := .stmts (fnBody (clsSt 2 11)), scope := fnScope (clsSt 2 11), globals := 3, closure := [], defaults := .none, kwdefaults := .none, doc := .none, pyModule := (.str (Str.ofString "snowballstemmer.basestemmer") 194), annotations := none, code := (.ref 111), closureTuple := .none, builtins := 0 }), #[]⟩
noncomputable def x113 (P : Params) : Obj := ⟨(.type "tuple"), none, (.seq #[] 0), #[]⟩
noncomputable def x114 (P : Params) : Obj := ⟨.none, none, (.fields #[]), #[]⟩
noncomputable def x115 (P : Params) : Obj := ⟨(.type "tuple"), none, (.seq #[(.str (Str.ofString "self") 305), (.str (Str.ofString "s") 306)] 0), #[]⟩
noncomputable def x116 (P : Params) : Obj := ⟨(.type "tuple"), none, (.seq #[] 0), #[]⟩
noncomputable def x117 (P : Params) : Obj := ⟨.none, none, (.func { name := (Str.ofString "eq_s"), qualname := (Str.ofString "BaseStemmer.eq_s"), params := fnArgs (clsSt 2 12), body := .stmts (fnBody (clsSt 2 12)), scope := fnScope (clsSt 2 12), globals := 0, closure := [], defaults := .none, kwdefaults := .none, doc := .none, pyModule := .none, annotations := none, code := .none, closureTuple := .none, builtins := 0 }), #[]⟩
noncomputable def x118 (P : Params) : Obj := ⟨(.type "code"), none, (.fields #[(.str (Str.ofString "eq_s") 302), (.str (Str.ofString "BaseStemmer.eq_s") 303), (.str (Str.ofString "/claim/cut.py") 304), (.int 48 0), (.int 2 0), (.int 0 0), (.int 0 0), (.int 3 0), (.ref 113), (.bool true), (.int 181 0), (.ref 114), .none, (.ref 115), (.ref 116), (.ref 117), (.int 307 0), (.int 48 0), (.str (Str.ofString "/claim/cut.py") 308)]), #[]⟩
noncomputable def x119 (P : Params) : Obj := ⟨(.type "function"), none, (.func { name := (Str.ofString "eq_s"), qualname := (Str.ofString "BaseStemmer.eq_s"), params := fnArgs (clsSt 2 12), body := .stmts (fnBody (clsSt 2 12)), scope := fnScope (clsSt 2 12), globals := 3, closure := [], defaults := .none, kwdefaults := .none, doc := .none, pyModule := (.str (Str.ofString "snowballstemmer.basestemmer") 194), annotations := none, code := (.ref 118), closureTuple := .none, builtins := 0 }), #[]⟩
noncomputable def x120 (P : Params) : Obj := ⟨(.type "tuple"), none, (.seq #[] 0), #[]⟩
noncomputable def x121 (P : Params) : Obj := ⟨.none, none, (.fields #[]), #[]⟩
noncomputable def x122 (P : Params) : Obj := ⟨(.type "tuple"), none, (.seq #[(.str (Str.ofString "self") 313), (.str (Str.ofString "s") 314)] 0), #[]⟩
noncomputable def x123 (P : Params) : Obj := ⟨(.type "tuple"), none, (.seq #[] 0), #[]⟩
noncomputable def x124 (P : Params) : Obj := ⟨.none, none, (.func { name := (Str.ofString "eq_s_b"), qualname := (Str.ofString "BaseStemmer.eq_s_b"), params := fnArgs (clsSt 2 13), body := .stmts (fnBody (clsSt 2 13)), scope := fnScope (clsSt 2 13), globals := 0, closure := [], defaults := .none, kwdefaults := .none, doc := .none, pyModule := .none, annotations := none, code := .none, closureTuple := .none, builtins := 0 }), #[]⟩
noncomputable def x125 (P : Params) : Obj := ⟨(.type "code"), none, (.fields #[(.str (Str.ofString "eq_s_b") 310), (.str (Str.ofString "BaseStemmer.eq_s_b") 311), (.str (Str.ofString "/claim/cut.py") 312), (.int 51 0), (.int 2 0), (.int 0 0), (.int 0 0), (.int 3 0), (.ref 120), (.bool true), (.int 181 0), (.ref 121), .none, (.ref 122), (.ref 123), (.ref 124), (.int 315 0), (.int 51 0), (.str (Str.ofString "/claim/cut.py") 316)]), #[]⟩
noncomputable def x126 (P : Params) : Obj := ⟨(.type "function"), none, (.func { name := (Str.ofString "eq_s_b"), qualname := (Str.ofString "BaseStemmer.eq_s_b"), params := fnArgs (clsSt 2 13), body := .stmts (fnBody (clsSt 2 13)), scope := fnScope (clsSt 2 13), globals := 3, closure := [], defaults := .none, kwdefaults := .none, doc := .none, pyModule := (.str (Str.ofString "snowballstemmer.basestemmer") 194), annotations := none, code := (.ref 125), closureTuple := .none, builtins := 0 }), #[]⟩
noncomputable def x127 (P : Params) : Obj := ⟨(.type "tuple"), none, (.seq #[] 0), #[]⟩
noncomputable def x128 (P : Params) : Obj := ⟨.none, none, (.fields #[]), #[]⟩
noncomputable def x129 (P : Params) : Obj := ⟨(.type "tuple"), none, (.seq #[(.str (Str.ofString "self") 321), (.str (Str.ofString "v") 322), (.str (Str.ofString "i") 323), (.str (Str.ofString "j") 324), (.str (Str.ofString "c") 325), (.str (Str.ofString "l") 326), (.str (Str.ofString "common_i") 327), (.str (Str.ofString "common_j") 328), (.str (Str.ofString "first_key_inspected") 329), (.str (Str.ofString "k") 330), (.str (Str.ofString "diff") 331), (.str (Str.ofString "common") 332), (.str (Str.ofString "w") 333), (.str (Str.ofString "i2") 334)] 0), #[]⟩
noncomputable def x130 (P : Params) : Obj := ⟨(.type "tuple"), none, (.seq #[] 0), #[]⟩
noncomputable def x131 (P : Params) : Obj := ⟨.none, none, (.func { name := (Str.ofString "find_among"), qualname := (Str.ofString "BaseStemmer.find_among"), params := fnArgs (clsSt 2 14), body := .stmts (fnBody (clsSt 2 14)), scope := fnScope (clsSt 2 14), globals := 0, closure := [], defaults := .none, kwdefaults := .none, doc := .none, pyModule := .none, annotations := none, code := .none, closureTuple := .none, builtins := 0 }), #[]⟩
noncomputable def x132 (P : Params) : Obj := ⟨(.type "code"), none, (.fields #[(.str (Str.ofString "find_among") 318), (.str (Str.ofString "BaseStemmer.find_among") 319), (.str (Str.ofString "/claim/cut.py") 320), (.int 54 0), (.int 2 0), (.int 0 0), (.int 0 0), (.int 3 0), (.ref 127), (.bool true), (.int 181 0), (.ref 128), .none, (.ref 129), (.ref 130), (.ref 131), (.int 335 0), (.int 54 0), (.str (Str.ofString "/claim/cut.py") 336)]), #[]⟩
noncomputable def x133 (P : Params) : Obj := ⟨(.type "function"), none, (.func { name := (Str.ofString "find_among"), qualname := (Str.ofString "BaseStemmer.find_among"), params := fnArgs (clsSt 2 14), body := .stmts (fnBody (clsSt 2 14)), scope := fnScope (clsSt 2 14), globals := 3, closure := [], defaults := .none, kwdefaults := .none, doc := .none, pyModule := (.str (Str.ofString "snowballstemmer.basestemmer") 194), annotations := none, code := (.ref 132), closureTuple := .none, builtins := 0 }), #[]⟩
noncomputable def x134 (P : Params) : Obj := ⟨(.type "tuple"), none, (.seq #[] 0), #[]⟩
noncomputable def x135 (P : Params) : Obj := ⟨.none, none, (.fields #[]), #[]⟩
noncomputable def x136 (P : Params) : Obj := ⟨(.type "tuple"), none, (.seq #[(.str (Str.ofString "self") 341), (.str (Str.ofString "v") 342), (.str (Str.ofString "i") 343), (.str (Str.ofString "j") 344), (.str (Str.ofString "c") 345), (.str (Str.ofString "lb") 346), (.str (Str.ofString "common_i") 347), (.str (Str.ofString "common_j") 348), (.str (Str.ofString "first_key_inspected") 349), (.str (Str.ofString "k") 350), (.str (Str.ofString "diff") 351), (.str (Str.ofString "common") 352), (.str (Str.ofString "w") 353), (.str (Str.ofString "i2") 354)] 0), #[]⟩
noncomputable def x137 (P : Params) : Obj := ⟨(.type "tuple"), none, (.seq #[] 0), #[]⟩
noncomputable def x138 (P : Params) : Obj := ⟨.none, none, (.func { name := (Str.ofString "find_among_b"), qualname := (Str.ofString "BaseStemmer.find_among_b"), params := fnArgs (clsSt 2 15), body := .stmts (fnBody (clsSt 2 15)), scope := fnScope (clsSt 2 15), globals := 0, closure := [], defaults := .none, kwdefaults := .none, doc := .none, pyModule := .none, annotations := none, code := .none, closureTuple := .none, builtins := 0 }), #[]⟩
noncomputable def x139 (P : Params) : Obj := ⟨(.type "code"), none, (.fields #[(.str (Str.ofString "find_among_b") 338), (.str (Str.ofString "BaseStemmer.find_among_b") 339), (.str (Str.ofString "/claim/cut.py") 340), (.int 99 0), (.int 2 0), (.int 0 0), (.int 0 0), (.int 3 0), (.ref 134), (.bool true), (.int 181 0), (.ref 135), .none, (.ref 136), (.ref 137), (.ref 138), (.int 355 0), (.int 99 0), (.str (Str.ofString "/claim/cut.py") 356)]), #[]⟩
noncomputable def x140 (P : Params) : Obj := ⟨(.type "function"), none, (.func { name := (Str.ofString "find_among_b"), qualname := (Str.ofString "BaseStemmer.find_among_b"), params := fnArgs (clsSt 2 15), body := .stmts (fnBody (clsSt 2 15)), scope := fnScope (clsSt 2 15), globals := 3, closure := [], defaults := .none, kwdefaults := .none, doc := .none, pyModule := (.str (Str.ofString "snowballstemmer.basestemmer") 194), annotations := none, code := (.ref 139), closureTuple := .none, builtins := 0 }), #[]⟩
noncomputable def x141 (P : Params) : Obj := ⟨(.type "tuple"), none, (.seq #[] 0), #[]⟩
noncomputable def x142 (P : Params) : Obj := ⟨.none, none, (.fields #[]), #[]⟩
noncomputable def x143 (P : Params) : Obj := ⟨(.type "tuple"), none, (.seq #[(.str (Str.ofString "self") 361), (.str (Str.ofString "c_bra") 362), (.str (Str.ofString "c_ket") 363), (.str (Str.ofString "s") 364)] 0), #[]⟩
noncomputable def x144 (P : Params) : Obj := ⟨(.type "tuple"), none, (.seq #[] 0), #[]⟩
noncomputable def x145 (P : Params) : Obj := ⟨.none, none, (.func { name := (Str.ofString "replace_s"), qualname := (Str.ofString "BaseStemmer.replace_s"), params := fnArgs (clsSt 2 16), body := .stmts (fnBody (clsSt 2 16)), scope := fnScope (clsSt 2 16), globals := 0, closure := [], defaults := .none, kwdefaults := .none, doc := .none, pyModule := .none, annotations := none, code := .none, closureTuple := .none, builtins := 0 }), #[]⟩
noncomputable def x146 (P : Params) : Obj := ⟨(.type "code"), none, (.fields #[(.str (Str.ofString "replace_s") 358), (.str (Str.ofString "BaseStemmer.replace_s") 359), (.str (Str.ofString "/claim/cut.py") 360), (.int 144 0), (.int 4 0), (.int 0 0), (.int 0 0), (.int 3 0), (.ref 141), (.bool true), (.int 181 0), (.ref 142), .none, (.ref 143), (.ref 144), (.ref 145), (.int 365 0), (.int 144 0), (.str (Str.ofString "/claim/cut.py") 366)]), #[]⟩
noncomputable def x147 (P : Params) : Obj := ⟨(.type "function"), none, (.func { name := (Str.ofString "replace_s"), qualname := (Str.ofString "BaseStemmer.replace_s"), params := fnArgs (clsSt 2 16), body := .stmts (fnBody (clsSt 2 16)), scope := fnScope (clsSt 2 16), globals := 3, closure := [], defaults := .none, kwdefaults := .none, doc := .none, pyModule := (.str (Str.ofString "snowballstemmer.basestemmer") 194), annotations := none, code := (.ref 146), closureTuple := .none, builtins := 0 }), #[]⟩
noncomputable def x148 (P : Params) : Obj := ⟨(.type "tuple"), none, (.seq #[] 0), #[]⟩
noncomputable def x149 (P : Params) : Obj := ⟨.none, none, (.fields #[]), #[]⟩
noncomputable def x150 (P : Params) : Obj := ⟨(.type "tuple"), none, (.seq #[(.str (Str.ofString "self") 371), (.str (Str.ofString "s") 372)] 0), #[]⟩
noncomputable def x151 (P : Params) : Obj := ⟨(.type "tuple"), none, (.seq #[] 0), #[]⟩
noncomputable def x152 (P : Params) : Obj := ⟨.none, none, (.func { name := (Str.ofString "slice_from"), qualname := (Str.ofString "BaseStemmer.slice_from"), params := fnArgs (clsSt 2 17), body := .stmts (fnBody (clsSt 2 17)), scope := fnScope (clsSt 2 17), globals := 0, closure := [], defaults := .none, kwdefaults := .none, doc := .none, pyModule := .none, annotations := none, code := .none, closureTuple := .none, builtins := 0 }), #[]⟩
noncomputable def x153 (P : Params) : Obj := ⟨(.type "code"), none, (.fields #[(.str (Str.ofString "slice_from") 368), (.str (Str.ofString "BaseStemmer.slice_from") 369), (.str (Str.ofString "/claim/cut.py") 370), (.int 147 0), (.int 2 0), (.int 0 0), (.int 0 0), (.int 3 0), (.ref 148), (.bool true), (.int 181 0), (.ref 149), .none, (.ref 150), (.ref 151), (.ref 152), (.int 373 0), (.int 147 0), (.str (Str.ofString "/claim/cut.py") 374)]), #[]⟩
noncomputable def x154 (P : Params) : Obj := ⟨(.type "function"), none, (.func { name := (Str.ofString "slice_from"), qualname := (Str.ofString "BaseStemmer.slice_from"), params := fnArgs (clsSt 2 17), body := .stmts (fnBody (clsSt 2 17)), scope := fnScope (clsSt 2 17), globals := 3, closure := [], defaults := .none, kwdefaults := .none, doc := .none, pyModule := (.str (Str.ofString "snowballstemmer.basestemmer") 194), annotations := none, code := (.ref 153), closureTuple := .none, builtins := 0 }), #[]⟩
noncomputable def x155 (P : Params) : Obj := ⟨(.type "tuple"), none, (.seq #[] 0), #[]⟩
noncomputable def x156 (P : Params) : Obj := ⟨.none, none, (.fields #[]), #[]⟩
noncomputable def x157 (P : Params) : Obj := ⟨(.type "tuple"), none, (.seq #[(.str (Str.ofString "self") 379)] 0), #[]⟩
noncomputable def x158 (P : Params) : Obj := ⟨(.type "tuple"), none, (.seq #[] 0), #[]⟩
noncomputable def x159 (P : Params) : Obj := ⟨.none, none, (.func { name := (Str.ofString "slice_del"), qualname := (Str.ofString "BaseStemmer.slice_del"), params := fnArgs (clsSt 2 18), body := .stmts (fnBody (clsSt 2 18)), scope := fnScope (clsSt 2 18), globals := 0, closure := [], defaults := .none, kwdefaults := .none, doc := .none, pyModule := .none, annotations := none, code := .none, closureTuple := .none, builtins := 0 }), #[]⟩
noncomputable def x160 (P : Params) : Obj := ⟨(.type "code"), none, (.fields #[(.str (Str.ofString "slice_del") 376), (.str (Str.ofString "BaseStemmer.slice_del") 377), (.str (Str.ofString "/claim/cut.py") 378), (.int 150 0), (.int 1 0), (.int 0 0), (.int 0 0), (.int 3 0), (.ref 155), (.bool true), (.int 181 0), (.ref 156), .none, (.ref 157), (.ref 158), (.ref 159), (.int 380 0), (.int 150 0), (.str (Str.ofString "/claim/cut.py") 381)]), #[]⟩
noncomputable def x161 (P : Params) : Obj := ⟨(.type "function"), none, (.func { name := (Str.ofString "slice_del"), qualname := (Str.ofString "BaseStemmer.slice_del"), params := fnArgs (clsSt 2 18), body := .stmts (fnBody (clsSt 2 18)), scope := fnScope (clsSt 2 18), globals := 3, closure := [], defaults := .none, kwdefaults := .none, doc := .none, pyModule := (.str (Str.ofString "snowballstemmer.basestemmer") 194), annotations := none, code := (.ref 160), closureTuple := .none, builtins := 0 }), #[]⟩
noncomputable def x162 (P : Params) : Obj := ⟨(.type "tuple"), none, (.seq #[] 0), #[]⟩
noncomputable def x163 (P : Params) : Obj := ⟨.none, none, (.fields #[]), #[]⟩
noncomputable def x164 (P : Params) : Obj := ⟨(.type "tuple"), none, (.seq #[(.str (Str.ofString "self") 386), (.str (Str.ofString "c_bra") 387), (.str (Str.ofString "c_ket") 388), (.str (Str.ofString "s") 389)] 0), #[]⟩
noncomputable def x165 (P : Params) : Obj := ⟨(.type "tuple"), none, (.seq #[] 0), #[]⟩
noncomputable def x166 (P : Params) : Obj := ⟨.none, none, (.func { name := (Str.ofString "insert"), qualname := (Str.ofString "BaseStemmer.insert"), params := fnArgs (clsSt 2 19), body := .stmts (fnBody (clsSt 2 19)), scope := fnScope (clsSt 2 19), globals := 0, closure := [], defaults := .none, kwdefaults := .none, doc := .none, pyModule := .none, annotations := none, code := .none, closureTuple := .none, builtins := 0 }), #[]⟩
noncomputable def x167 (P : Params) : Obj := ⟨(.type "code"), none, (.fields #[(.str (Str.ofString "insert") 383), (.str (Str.ofString "BaseStemmer.insert") 384), (.str (Str.ofString "/claim/cut.py") 385), (.int 153 0), (.int 4 0), (.int 0 0), (.int 0 0), (.int 3 0), (.ref 162), (.bool true), (.int 181 0), (.ref 163), .none, (.ref 164), (.ref 165), (.ref 166), (.int 390 0), (.int 153 0), (.str (Str.ofString "/claim/cut.py") 391)]), #[]⟩
noncomputable def x168 (P : Params) : Obj := ⟨(.type "function"), none, (.func { name := (Str.ofString "insert"), qualname := (Str.ofString "BaseStemmer.insert"), params := fnArgs (clsSt 2 19), body := .stmts (fnBody (clsSt 2 19)), scope := fnScope (clsSt 2 19), globals := 3, closure := [], defaults := .none, kwdefaults := .none, doc := .none, pyModule := (.str (Str.ofString "snowballstemmer.basestemmer") 194), annotations := none, code := (.ref 167), closureTuple := .none, builtins := 0 }), #[]⟩
noncomputable def x169 (P : Params) : Obj := ⟨(.type "tuple"), none, (.seq #[] 0), #[]⟩
noncomputable def x170 (P : Params) : Obj := ⟨.none, none, (.fields #[]), #[]⟩
noncomputable def x171 (P : Params) : Obj := ⟨(.type "tuple"), none, (.seq #[(.str (Str.ofString "self") 396)] 0), #[]⟩
noncomputable def x172 (P : Params) : Obj := ⟨(.type "tuple"), none, (.seq #[] 0), #[]⟩
noncomputable def x173 (P : Params) : Obj := ⟨.none, none, (.func { name := (Str.ofString "slice_to"), qualname := (Str.ofString "BaseStemmer.slice_to"), params := fnArgs (clsSt 2 20), body := .stmts (fnBody (clsSt 2 20)), scope := fnScope (clsSt 2 20), globals := 0, closure := [], defaults := .none, kwdefaults := .none, doc := .none, pyModule := .none, annotations := none, code := .none, closureTuple := .none, builtins := 0 }), #[]⟩
noncomputable def x174 (P : Params) : Obj := ⟨(.type "code"), none, (.fields #[(.str (Str.ofString "slice_to") 393), (.str (Str.ofString "BaseStemmer.slice_to") 394), (.str (Str.ofString "/claim/cut.py") 395), (.int 156 0), (.int 1 0), (.int 0 0), (.int 0 0), (.int 3 0), (.ref 169), (.bool true), (.int 181 0), (.ref 170), .none, (.ref 171), (.ref 172), (.ref 173), (.int 397 0), (.int 156 0), (.str (Str.ofString "/claim/cut.py") 398)]), #[]⟩
noncomputable def x175 (P : Params) : Obj := ⟨(.type "function"), none, (.func { name := (Str.ofString "slice_to"), qualname := (Str.ofString "BaseStemmer.slice_to"), params := fnArgs (clsSt 2 20), body := .stmts (fnBody (clsSt 2 20)), scope := fnScope (clsSt 2 20), globals := 3, closure := [], defaults := .none, kwdefaults := .none, doc := .none, pyModule := (.str (Str.ofString "snowballstemmer.basestemmer") 194), annotations := none, code := (.ref 174), closureTuple := .none, builtins := 0 }), #[]⟩
noncomputable def x176 (P : Params) : Obj := ⟨(.type "tuple"), none, (.seq #[] 0), #[]⟩
noncomputable def x177 (P : Params) : Obj := ⟨.none, none, (.fields #[]), #[]⟩
noncomputable def x178 (P : Params) : Obj := ⟨(.type "tuple"), none, (.seq #[(.str (Str.ofString "self") 403)] 0), #[]⟩
noncomputable def x179 (P : Params) : Obj := ⟨(.type "tuple"), none, (.seq #[] 0), #[]⟩
noncomputable def x180 (P : Params) : Obj := ⟨.none, none, (.func { name := (Str.ofString "assign_to"), qualname := (Str.ofString "BaseStemmer.assign_to"), params := fnArgs (clsSt 2 21), body := .stmts (fnBody (clsSt 2 21)), scope := fnScope (clsSt 2 21), globals := 0, closure := [], defaults := .none, kwdefaults := .none, doc := .none, pyModule := .none, annotations := none, code := .none, closureTuple := .none, builtins := 0 }), #[]⟩
noncomputable def x181 (P : Params) : Obj := ⟨(.type "code"), none, (.fields #[(.str (Str.ofString "assign_to") 400), (.str (Str.ofString "BaseStemmer.assign_to") 401), (.str (Str.ofString "/claim/cut.py") 402), (.int 159 0), (.int 1 0), (.int 0 0), (.int 0 0), (.int 3 0), (.ref 176), (.bool true), (.int 181 0), (.ref 177), .none, (.ref 178), (.ref 179), (.ref 180), (.int 404 0), (.int 159 0), (.str (Str.ofString "/claim/cut.py") 405)]), #[]⟩
noncomputable def x182 (P : Params) : Obj := ⟨(.type "function"), none, (.func { name := (Str.ofString "assign_to"), qualname := (Str.ofString "BaseStemmer.assign_to"), params := fnArgs (clsSt 2 21), body := .stmts (fnBody (clsSt 2 21)), scope := fnScope (clsSt 2 21), globals := 3, closure := [], defaults := .none, kwdefaults := .none, doc := .none, pyModule := (.str (Str.ofString "snowballstemmer.basestemmer") 194), annotations := none, code := (.ref 181), closureTuple := .none, builtins := 0 }), #[]⟩
noncomputable def x183 (P : Params) : Obj := ⟨(.type "tuple"), none, (.seq #[] 0), #[]⟩
noncomputable def x184 (P : Params) : Obj := ⟨.none, none, (.fields #[]), #[]⟩
noncomputable def x185 (P : Params) : Obj := ⟨(.type "tuple"), none, (.seq #[(.str (Str.ofString "self") 410), (.str (Str.ofString "word") 411)] 0), #[]⟩
noncomputable def x186 (P : Params) : Obj := ⟨(.type "tuple"), none, (.seq #[] 0), #[]⟩
noncomputable def x187 (P : Params) : Obj := ⟨.none, none, (.func { name := (Str.ofString "stemWord"), qualname := (Str.ofString "BaseStemmer.stemWord"), params := fnArgs (clsSt 2 22), body := .stmts (fnBody (clsSt 2 22)), scope := fnScope (clsSt 2 22), globals := 0, closure := [], defaults := .none, kwdefaults := .none, doc := .none, pyModule := .none, annotations := none, code := .none, closureTuple := .none, builtins := 0 }), #[]⟩
noncomputable def x188 (P : Params) : Obj := ⟨(.type "code"), none, (.fields #[(.str (Str.ofString "stemWord") 407), (.str (Str.ofString "BaseStemmer.stemWord") 408), (.str (Str.ofString "/claim/cut.py") 409), (.int 162 0), (.int 2 0), (.int 0 0), (.int 0 0), (.int 3 0), (.ref 183), (.bool true), (.int 181 0), (.ref 184), .none, (.ref 185), (.ref 186), (.ref 187), (.int 412 0), (.int 162 0), (.str (Str.ofString "/claim/cut.py") 413)]), #[]⟩
noncomputable def x189 (P : Params) : Obj := ⟨(.type "function"), none, (.func { name := (Str.ofString "stemWord"), qualname := (Str.ofString "BaseStemmer.stemWord"), params := fnArgs (clsSt 2 22), body := .stmts (fnBody (clsSt 2 22)), scope := fnScope (clsSt 2 22), globals := 3, closure := [], defaults := .none, kwdefaults := .none, doc := .none, pyModule := (.str (Str.ofString "snowballstemmer.basestemmer") 194), annotations := none, code := (.ref 188), closureTuple := .none, builtins := 0 }), #[]⟩
noncomputable def x190 (P : Params) : Obj := ⟨(.type "tuple"), none, (.seq #[] 0), #[]⟩
noncomputable def x191 (P : Params) : Obj := ⟨.none, none, (.fields #[]), #[]⟩
noncomputable def x192 (P : Params) : Obj := ⟨(.type "tuple"), none, (.seq #[(.str (Str.ofString "self") 418), (.str (Str.ofString "words") 419)] 0), #[]⟩
noncomputable def x193 (P : Params) : Obj := ⟨(.type "tuple"), none, (.seq #[] 0), #[]⟩
noncomputable def x194 (P : Params) : Obj := ⟨.none, none, (.func { name := (Str.ofString "stemWords"), qualname := (Str.ofString "BaseStemmer.stemWords"), params := fnArgs (clsSt 2 23), body := .stmts (fnBody (clsSt 2 23)), scope := fnScope (clsSt 2 23), globals := 0, closure := [], defaults := .none, kwdefaults := .none, doc := .none, pyModule := .none, annotations := none, code := .none, closureTuple := .none, builtins := 0 }), #[]⟩
noncomputable def x195 (P : Params) : Obj := ⟨(.type "code"), none, (.fields #[(.str (Str.ofString "stemWords") 415), (.str (Str.ofString "BaseStemmer.stemWords") 416), (.str (Str.ofString "/claim/cut.py") 417), (.int 165 0), (.int 2 0), (.int 0 0), (.int 0 0), (.int 3 0), (.ref 190), (.bool true), (.int 181 0), (.ref 191), .none, (.ref 192), (.ref 193), (.ref 194), (.int 420 0), (.int 165 0), (.str (Str.ofString "/claim/cut.py") 421)]), #[]⟩
noncomputable def x196 (P : Params) : Obj := ⟨(.type "function"), none, (.func { name := (Str.ofString "stemWords"), qualname := (Str.ofString "BaseStemmer.stemWords"), params := fnArgs (clsSt 2 23), body := .stmts (fnBody (clsSt 2 23)), scope := fnScope (clsSt 2 23), globals := 3, closure := [], defaults := .none, kwdefaults := .none, doc := .none, pyModule := (.str (Str.ofString "snowballstemmer.basestemmer") 194), annotations := none, code := (.ref 195), closureTuple := .none, builtins := 0 }), #[]⟩
noncomputable def x197 (P : Params) : Obj := ⟨(.type "tuple"), none, (.seq #[(.str (Str.ofString "bra") 423), (.str (Str.ofString "current") 424), (.str (Str.ofString "cursor") 425), (.str (Str.ofString "ket") 426), (.str (Str.ofString "limit") 427), (.str (Str.ofString "limit_backward") 428)] 0), #[]⟩
noncomputable def x198 (P : Params) : Obj := ⟨(.type "dict"), none, (.dict #[ek P (Str.ofString "__module__") 203 (.str (Str.ofString "snowballstemmer.basestemmer") 194), ek P (Str.ofString "__firstlineno__") 207 (.int 5 206), ek P (Str.ofString "__init__") 214 (.ref 35), ek P (Str.ofString "set_current") 222 (.ref 42), ek P (Str.ofString "get_current") 229 (.ref 49), ek P (Str.ofString "copy_from") 237 (.ref 56), ek P (Str.ofString "in_grouping") 245 (.ref 63), ek P (Str.ofString "go_in_grouping") 253 (.ref 70), ek P (Str.ofString "in_grouping_b") 261 (.ref 77), ek P (Str.ofString "go_in_grouping_b") 269 (.ref 84), ek P (Str.ofString "out_grouping") 277 (.ref 91), ek P (Str.ofString "go_out_grouping") 285 (.ref 98), ek P (Str.ofString "out_grouping_b") 293 (.ref 105), ek P (Str.ofString "go_out_grouping_b") 301 (.ref 112), ek P (Str.ofString "eq_s") 309 (.ref 119), ek P (Str.ofString "eq_s_b") 317 (.ref 126), ek P (Str.ofString "find_among") 337 (.ref 133), ek P (Str.ofString "find_among_b") 357 (.ref 140), ek P (Str.ofString "replace_s") 367 (.ref 147), ek P (Str.ofString "slice_from") 375 (.ref 154), ek P (Str.ofString "slice_del") 382 (.ref 161), ek P (Str.ofString "insert") 392 (.ref 168), ek P (Str.ofString "slice_to") 399 (.ref 175), ek P (Str.ofString "assign_to") 406 (.ref 182), ek P (Str.ofString "stemWord") 414 (.ref 189), ek P (Str.ofString "stemWords") 422 (.ref 196), ek P (Str.ofString "__static_attributes__") 429 (.ref 197), ek P (Str.ofString "__dict__") 431 (.ref 200), ek P (Str.ofString "__weakref__") 433 (.ref 201), ek P (Str.ofString "__doc__") 434 .none] 4), #[]⟩
noncomputable def x199 (P : Params) : Obj := ⟨(.type "type"), none, (.cls { name := (Str.ofString "BaseStemmer"), bases := [(.type "object")], mro := [(.ref 199), (.type "object")], ns := 198, qualname := (Str.ofString "BaseStemmer"), hasDict := true, slotNames := [], subclasses := [], abstract := false, collection := none, hasDel := false }), #[none, none, (some (.str (Str.ofString "BaseStemmer") 196)), (some (.str (Str.ofString "BaseStemmer") 204)), (some (.builtin "object.__new__")), (some (.bool true))]⟩
noncomputable def x200 (P : Params) : Obj := ⟨(.type "getset_descriptor"), none, (.fields #[(.str (Str.ofString "__dict__") 430), (.ref 199), (.builtin "function.__dict__"), (.builtin "function.__dict__#set")]), #[]⟩
noncomputable def x201 (P : Params) : Obj := ⟨(.type "getset_descriptor"), none, (.fields #[(.str (Str.ofString "__weakref__") 432), (.ref 199), (.builtin "ExceptionGroup.__weakref__"), .none]), #[]⟩
noncomputable def x202 (P : Params) : Obj := ⟨(.type "super"), none, (.fields #[(.ref 199), (.ref 199), (.ref 199)]), #[]⟩
noncomputable def x203 (P : Params) : Obj := ⟨(.type "builtin_function_or_method"), none, (.fields #[(.builtin "object.__init_subclass__"), (.ref 199)]), #[]⟩
noncomputable def HM3 (P : Params) : List Obj := [x0 P, x1 P, x2 P, x3 P, x4 P, x5 P, x6 P, x7 P, x8 P, x9 P, x10 P, x11 P, x12 P, x13 P, x14 P, x15 P, x16 P, x17 P, x18 P, x19 P, x20 P, x21 P, x22 P, x23 P, x24 P, x25 P, x26 P, x27 P, x28 P, x29 P, x30 P, x31 P, x32 P, x33 P, x34 P, x35 P, x36 P, x37 P, x38 P, x39 P, x40 P, x41 P, x42 P, x43 P, x44 P, x45 P, x46 P, x47 P, x48 P, x49 P, x50 P, x51 P, x52 P, x53 P, x54 P, x55 P, x56 P, x57 P, x58 P, x59 P, x60 P, x61 P, x62 P, x63 P, x64 P, x65 P, x66 P, x67 P, x68 P, x69 P, x70 P, x71 P, x72 P, x73 P, x74 P, x75 P, x76 P, x77 P, x78 P, x79 P, x80 P, x81 P, x82 P, x83 P, x84 P, x85 P, x86 P, x87 P, x88 P, x89 P, x90 P, x91 P, x92 P, x93 P, x94 P, x95 P, x96 P, x97 P, x98 P, x99 P, x100 P, x101 P, x102 P, x103 P, x104 P, x105 P, x106 P, x107 P, x108 P, x109 P, x110 P, x111 P, x112 P, x113 P, x114 P, x115 P, x116 P, x117 P, x118 P, x119 P, x120 P, x121 P, x122 P, x123 P, x124 P, x125 P, x126 P, x127 P, x128 P, x129 P, x130 P, x131 P, x132 P, x133 P, x134 P, x135 P, x136 P, x137 P, x138 P, x139 P, x140 P, x141 P, x142 P, x143 P, x144 P, x145 P, x146 P, x147 P, x148 P, x149 P, x150 P, x151 P, x152 P, x153 P, x154 P, x155 P, x156 P, x157 P, x158 P, x159 P, x160 P, x161 P, x162 P, x163 P, x164 P, x165 P, x166 P, x167 P, x168 P, x169 P, x170 P, x171 P, x172 P, x173 P, x174 P, x175 P, x176 P, x177 P, x178 P, x179 P, x180 P, x181 P, x182 P, x183 P, x184 P, x185 P, x186 P, x187 P, x188 P, x189 P, x190 P, x191 P, x192 P, x193 P, x194 P, x195 P, x196 P, x197 P, x198 P, x199 P, x200 P, x201 P, x202 P, x203 P]
abbrev posM3 : Pos := ⟨5, 0, 166, 17⟩
noncomputable def x3_1 (P : Params) : Obj := ⟨(.type "dict"), none, (.dict #[ek P (Str.ofString "__name__") 165 (.str (Str.ofString "snowballstemmer.porter_stemmer") 472), ek P (Str.ofString "__doc__") 166 .none, ek P (Str.ofString "__package__") 167 .none, ek P (Str.ofString "__loader__") 168 (.builtin "__main__.__loader__#opaque"), ek P (Str.ofString "__spec__") 169 .none, ek P (Str.ofString "__annotations__") 170 (.ref 6), ek P (Str.ofString "__builtins__") 171 (.ref 4), ek P (Str.ofString "__file__") 173 (.str (Str.ofString "/claim/cut.py") 172), ek P (Str.ofString "__cached__") 174 .none, ek P (Str.ofString "_wall") 193 (.ref 21), ek P (Str.ofString "BaseStemmer") 436 (.ref 199), ek P (Str.ofString "Among") 471 (.ref 220)] 12), #[]⟩
noncomputable def x12_1 (P : Params) : Obj := ⟨.none, none, (.fields #[(.int 1 0), (.int 0 0), (.ref 20), (.int 5 0), (.int 0 0), (.ref 27), (.int 168 0), (.int 0 0), (.ref 209)]), #[]⟩
noncomputable def x204 (P : Params) : Obj := ⟨(.type "tuple"), none, (.seq #[] 0), #[]⟩
noncomputable def x205 (P : Params) : Obj := ⟨(.type "builtin_function_or_method"), none, (.fields #[(.builtin "type.__prepare__"), (.type "type")]), #[]⟩
noncomputable def x206 (P : Params) : Obj := ⟨(.type "dict"), none, (.dict #[ek P (Str.ofString "__module__") 446 (.str (Str.ofString "snowballstemmer.among") 437), ek P (Str.ofString "__qualname__") 448 (.str (Str.ofString "Among") 447), ek P (Str.ofString "__firstlineno__") 450 (.int 168 449), ek P (Str.ofString "__init__") 460 (.ref 217), ek P (Str.ofString "__static_attributes__") 464 (.ref 218)] 5), #[]⟩
noncomputable def x207 (P : Params) : Obj := ⟨(.type "tuple"), none, (.seq #[] 0), #[]⟩
noncomputable def x208 (P : Params) : Obj := ⟨.none, none, (.fields #[(.int 170 0), (.int 4 0), (.ref 216)]), #[]⟩
noncomputable def x209 (P : Params) : Obj := ⟨(.type "code"), none, (.fields #[(.str (Str.ofString "Among") 441), (.str (Str.ofString "Among") 442), (.str (Str.ofString "/claim/cut.py") 443), (.int 168 0), (.int 0 0), (.int 0 0), (.int 0 0), (.int 0 0), (.ref 207), (.bool false), (.int 181 0), (.ref 208), .none, .none, .none, .none, (.int 444 0), (.int 168 0), (.str (Str.ofString "/claim/cut.py") 445)]), #[]⟩
noncomputable def x210 (P : Params) : Obj := ⟨(.type "frame"), none, .plain, #[(some (.ref 209)), (some (.ref 3)), (some (.ref 206)), none, (some (.str (Str.ofString "snowballstemmer.among") 437)), none, (some (.ref 0))]⟩
noncomputable def x211 (P : Params) : Obj := ⟨(.type "tuple"), none, (.seq #[] 0), #[]⟩
noncomputable def x212 (P : Params) : Obj := ⟨.none, none, (.fields #[]), #[]⟩
noncomputable def x213 (P : Params) : Obj := ⟨(.type "tuple"), none, (.seq #[(.str (Str.ofString "self") 454), (.str (Str.ofString "s") 455), (.str (Str.ofString "substring_i") 456), (.str (Str.ofString "result") 457)] 0), #[]⟩
noncomputable def x214 (P : Params) : Obj := ⟨(.type "tuple"), none, (.seq #[] 0), #[]⟩
noncomputable def x215 (P : Params) : Obj := ⟨.none, none, (.func { name := (Str.ofString "__init__"), qualname := (Str.ofString "Among.__init__"), params := fnArgs (clsSt 4 0), body := .stmts (fnBody (clsSt 4 0)), scope := fnScope (clsSt 4 0), globals := 0, closure := [], defaults := .none, kwdefaults := .none, doc := .none, pyModule := .none, annotations := none, code := .none, closureTuple := .none, builtins := 0 }), #[]⟩
noncomputable def x216 (P : Params) : Obj := ⟨(.type "code"), none, (.fields #[(.str (Str.ofString "__init__") 451), (.str (Str.ofString "Among.__init__") 452), (.str (Str.ofString "/claim/cut.py") 453), (.int 170 0), (.int 4 0), (.int 0 0), (.int 0 0), (.int 3 0), (.ref 211), (.bool true), (.int 181 0), (.ref 212), .none, (.ref 213), (.ref 214), (.ref 215), (.int 458 0), (.int 170 0), (.str (Str.ofString "/claim/cut.py") 459)]), #[]⟩
noncomputable def x217 (P : Params) : Obj := ⟨(.type "function"), none, (.func { name := (Str.ofString "__init__"), qualname := (Str.ofString "Among.__init__"), params := fnArgs (clsSt 4 0), body := .stmts (fnBody (clsSt 4 0)), scope := fnScope (clsSt 4 0), globals := 3, closure := [], defaults := .none, kwdefaults := .none, doc := .none, pyModule := (.str (Str.ofString "snowballstemmer.among") 437), annotations := none, code := (.ref 216), closureTuple := .none, builtins := 0 }), #[]⟩
noncomputable def x218 (P : Params) : Obj := ⟨(.type "tuple"), none, (.seq #[(.str (Str.ofString "result") 461), (.str (Str.ofString "s") 462), (.str (Str.ofString "substring_i") 463)] 0), #[]⟩
noncomputable def x219 (P : Params) : Obj := ⟨(.type "dict"), none, (.dict #[ek P (Str.ofString "__module__") 446 (.str (Str.ofString "snowballstemmer.among") 437), ek P (Str.ofString "__firstlineno__") 450 (.int 168 449), ek P (Str.ofString "__init__") 460 (.ref 217), ek P (Str.ofString "__static_attributes__") 464 (.ref 218), ek P (Str.ofString "__dict__") 466 (.ref 221), ek P (Str.ofString "__weakref__") 468 (.ref 222), ek P (Str.ofString "__doc__") 469 .none] 4), #[]⟩
noncomputable def x220 (P : Params) : Obj := ⟨(.type "type"), none, (.cls { name := (Str.ofString "Among"), bases := [(.type "object")], mro := [(.ref 220), (.type "object")], ns := 219, qualname := (Str.ofString "Among"), hasDict := true, slotNames := [], subclasses := [], abstract := false, collection := none, hasDel := false }), #[none, none, (some (.str (Str.ofString "Among") 439)), (some (.str (Str.ofString "Among") 447)), (some (.builtin "object.__new__")), (some (.bool true))]⟩
noncomputable def x221 (P : Params) : Obj := ⟨(.type "getset_descriptor"), none, (.fields #[(.str (Str.ofString "__dict__") 465), (.ref 220), (.builtin "function.__dict__"), (.builtin "function.__dict__#set")]), #[]⟩
noncomputable def x222 (P : Params) : Obj := ⟨(.type "getset_descriptor"), none, (.fields #[(.str (Str.ofString "__weakref__") 467), (.ref 220), (.builtin "ExceptionGroup.__weakref__"), .none]), #[]⟩
noncomputable def x223 (P : Params) : Obj := ⟨(.type "super"), none, (.fields #[(.ref 220), (.ref 220), (.ref 220)]), #[]⟩
noncomputable def x224 (P : Params) : Obj := ⟨(.type "builtin_function_or_method"), none, (.fields #[(.builtin "object.__init_subclass__"), (.ref 220)]), #[]⟩
noncomputable def HC0 (P : Params) : List Obj := [x0 P, x1 P, x2 P, x3_1 P, x4 P, x5 P, x6 P, x7 P, x8 P, x9 P, x10 P, x11 P, x12_1 P, x13 P, x14 P, x15 P, x16 P, x17 P, x18 P, x19 P, x20 P, x21 P, x22 P, x23 P, x24 P, x25 P, x26 P, x27 P, x28 P, x29 P, x30 P, x31 P, x32 P, x33 P, x34 P, x35 P, x36 P, x37 P, x38 P, x39 P, x40 P, x41 P, x42 P, x43 P, x44 P, x45 P, x46 P, x47 P, x48 P, x49 P, x50 P, x51 P, x52 P, x53 P, x54 P, x55 P, x56 P, x57 P, x58 P, x59 P, x60 P, x61 P, x62 P, x63 P, x64 P, x65 P, x66 P, x67 P, x68 P, x69 P, x70 P, x71 P, x72 P, x73 P, x74 P, x75 P, x76 P, x77 P, x78 P, x79 P, x80 P, x81 P, x82 P, x83 P, x84 P, x85 P, x86 P, x87 P, x88 P, x89 P, x90 P, x91 P, x92 P, x93 P, x94 P, x95 P, x96 P, x97 P, x98 P, x99 P, x100 P, x101 P, x102 P, x103 P, x104 P, x105 P, x106 P, x107 P, x108 P, x109 P, x110 P, x111 P, x112 P, x113 P, x114 P, x115 P, x116 P, x117 P, x118 P, x119 P, x120 P, x121 P, x122 P, x123 P, x124 P, x125 P, x126 P, x127 P, x128 P, x129 P, x130 P, x131 P, x132 P, x133 P, x134 P, x135 P, x136 P, x137 P, x138 P, x139 P, x140 P, x141 P, x142 P, x143 P, x144 P, x145 P, x146 P, x147 P, x148 P, x149 P, x150 P, x151 P, x152 P, x153 P, x154 P, x155 P, x156 P, x157 P, x158 P, x159 P, x160 P, x161 P, x162 P, x163 P, x164 P, x165 P, x166 P, x167 P, x168 P, x169 P, x170 P, x171 P, x172 P, x173 P, x174 P, x175 P, x176 P, x177 P, x178 P, x179 P, x180 P, x181 P, x182 P, x183 P, x184 P, x185 P, x186 P, x187 P, x188 P, x189 P, x190 P, x191 P, x192 P, x193 P, x194 P, x195 P, x196 P, x197 P, x198 P, x199 P, x200 P, x201 P, x202 P, x203 P, x204 P, x205 P, x206 P, x207 P, x208 P, x209 P, x210 P, x211 P, x212 P, x213 P, x214 P, x215 P, x216 P, x217 P, x218 P, x219 P, x220 P, x221 P, x222 P, x223 P, x224 P]
abbrev posC0 : Pos := ⟨174, 0, 174, 8⟩
noncomputable def x12_2 (P : Params) : Obj := ⟨.none, none, (.fields #[(.int 1 0), (.int 0 0), (.ref 20), (.int 5 0), (.int 0 0), (.ref 27), (.int 168 0), (.int 0 0), (.ref 209), (.int 175 0), (.int 0 0), (.ref 230)]), #[]⟩
noncomputable def x225 (P : Params) : Obj := ⟨(.type "tuple"), none, (.seq #[(.ref 199)] 0), #[]⟩
noncomputable def x226 (P : Params) : Obj := ⟨(.type "builtin_function_or_method"), none, (.fields #[(.builtin "type.__prepare__"), (.type "type")]), #[]⟩
noncomputable def x227 (P : Params) : Obj := ⟨(.type "dict"), none, (.dict #[ek P (Str.ofString "__module__") 481 (.str (Str.ofString "snowballstemmer.porter_stemmer") 472), ek P (Str.ofString "__qualname__") 483 (.str (Str.ofString "PorterStemmer") 482), ek P (Str.ofString "__firstlineno__") 485 (.int 175 484)] 3), #[]⟩
noncomputable def x228 (P : Params) : Obj := ⟨(.type "tuple"), none, (.seq #[] 0), #[]⟩
noncomputable def x229 (P : Params) : Obj := ⟨.none, none, (.fields #[]), #[]⟩
noncomputable def x230 (P : Params) : Obj := ⟨(.type "code"), none, (.fields #[(.str (Str.ofString "PorterStemmer") 476), (.str (Str.ofString "PorterStemmer") 477), (.str (Str.ofString "/claim/cut.py") 478), (.int 175 0), (.int 0 0), (.int 0 0), (.int 0 0), (.int 0 0), (.ref 228), (.bool false), (.int 181 0), (.ref 229), .none, .none, .none, .none, (.int 479 0), (.int 175 0), (.str (Str.ofString "/claim/cut.py") 480)]), #[]⟩
noncomputable def x231 (P : Params) : Obj := ⟨(.type "frame"), none, .plain, #[(some (.ref 230)), (some (.ref 3)), (some (.ref 227)), none, (some (.str (Str.ofString "snowballstemmer.porter_stemmer") 472)), none, (some (.ref 0))]⟩
noncomputable def HP0 (P : Params) : List Obj := [x0 P, x1 P, x2 P, x3_1 P, x4 P, x5 P, x6 P, x7 P, x8 P, x9 P, x10 P, x11 P, x12_2 P, x13 P, x14 P, x15 P, x16 P, x17 P, x18 P, x19 P, x20 P, x21 P, x22 P, x23 P, x24 P, x25 P, x26 P, x27 P, x28 P, x29 P, x30 P, x31 P, x32 P, x33 P, x34 P, x35 P, x36 P, x37 P, x38 P, x39 P, x40 P, x41 P, x42 P, x43 P, x44 P, x45 P, x46 P, x47 P, x48 P, x49 P, x50 P, x51 P, x52 P, x53 P, x54 P, x55 P, x56 P, x57 P, x58 P, x59 P, x60 P, x61 P, x62 P, x63 P, x64 P, x65 P, x66 P, x67 P, x68 P, x69 P, x70 P, x71 P, x72 P, x73 P, x74 P, x75 P, x76 P, x77 P, x78 P, x79 P, x80 P, x81 P, x82 P, x83 P, x84 P, x85 P, x86 P, x87 P, x88 P, x89 P, x90 P, x91 P, x92 P, x93 P, x94 P, x95 P, x96 P, x97 P, x98 P, x99 P, x100 P, x101 P, x102 P, x103 P, x104 P, x105 P, x106 P, x107 P, x108 P, x109 P, x110 P, x111 P, x112 P, x113 P, x114 P, x115 P, x116 P, x117 P, x118 P, x119 P, x120 P, x121 P, x122 P, x123 P, x124 P, x125 P, x126 P, x127 P, x128 P, x129 P, x130 P, x131 P, x132 P, x133 P, x134 P, x135 P, x136 P, x137 P, x138 P, x139 P, x140 P, x141 P, x142 P, x143 P, x144 P, x145 P, x146 P, x147 P, x148 P, x149 P, x150 P, x151 P, x152 P, x153 P, x154 P, x155 P, x156 P, x157 P, x158 P, x159 P, x160 P, x161 P, x162 P, x163 P, x164 P, x165 P, x166 P, x167 P, x168 P, x169 P, x170 P, x171 P, x172 P, x173 P, x174 P, x175 P, x176 P, x177 P, x178 P, x179 P, x180 P, x181 P, x182 P, x183 P, x184 P, x185 P, x186 P, x187 P, x188 P, x189 P, x190 P, x191 P, x192 P, x193 P, x194 P, x195 P, x196 P, x197 P, x198 P, x199 P, x200 P, x201 P, x202 P, x203 P, x204 P, x205 P, x206 P, x207 P, x208 P, x209 P, x210 P, x211 P, x212 P, x213 P, x214 P, x215 P, x216 P, x217 P, x218 P, x219 P, x220 P, x221 P, x222 P, x223 P, x224 P, x225 P, x226 P, x227 P, x228 P, x229 P, x230 P, x231 P]
abbrev posP0 : Pos := ⟨175, 0, 224, 412⟩
noncomputable def x227_1 (P : Params) : Obj := ⟨(.type "dict"), none, (.dict #[ek P (Str.ofString "__module__") 481 (.str (Str.ofString "snowballstemmer.porter_stemmer") 472), ek P (Str.ofString "__qualname__") 483 (.str (Str.ofString "PorterStemmer") 482), ek P (Str.ofString "__firstlineno__") 485 (.int 175 484), ek P (Str.ofString "g_v") 498 (.ref 232)] 4), #[]⟩
noncomputable def HP1 (P : Params) (o1 : SO) : List Obj := [x0 P, x1 P, x2 P, x3_1 P, x4 P, x5 P, x6 P, x7 P, x8 P, x9 P, x10 P, x11 P, x12_2 P, x13 P, x14 P, x15 P, x16 P, x17 P, x18 P, x19 P, x20 P, x21 P, x22 P, x23 P, x24 P, x25 P, x26 P, x27 P, x28 P, x29 P, x30 P, x31 P, x32 P, x33 P, x34 P, x35 P, x36 P, x37 P, x38 P, x39 P, x40 P, x41 P, x42 P, x43 P, x44 P, x45 P, x46 P, x47 P, x48 P, x49 P, x50 P, x51 P, x52 P, x53 P, x54 P, x55 P, x56 P, x57 P, x58 P, x59 P, x60 P, x61 P, x62 P, x63 P, x64 P, x65 P, x66 P, x67 P, x68 P, x69 P, x70 P, x71 P, x72 P, x73 P, x74 P, x75 P, x76 P, x77 P, x78 P, x79 P, x80 P, x81 P, x82 P, x83 P, x84 P, x85 P, x86 P, x87 P, x88 P, x89 P, x90 P, x91 P, x92 P, x93 P, x94 P, x95 P, x96 P, x97 P, x98 P, x99 P, x100 P, x101 P, x102 P, x103 P, x104 P, x105 P, x106 P, x107 P, x108 P, x109 P, x110 P, x111 P, x112 P, x113 P, x114 P, x115 P, x116 P, x117 P, x118 P, x119 P, x120 P, x121 P, x122 P, x123 P, x124 P, x125 P, x126 P, x127 P, x128 P, x129 P, x130 P, x131 P, x132 P, x133 P, x134 P, x135 P, x136 P, x137 P, x138 P, x139 P, x140 P, x141 P, x142 P, x143 P, x144 P, x145 P, x146 P, x147 P, x148 P, x149 P, x150 P, x151 P, x152 P, x153 P, x154 P, x155 P, x156 P, x157 P, x158 P, x159 P, x160 P, x161 P, x162 P, x163 P, x164 P, x165 P, x166 P, x167 P, x168 P, x169 P, x170 P, x171 P, x172 P, x173 P, x174 P, x175 P, x176 P, x177 P, x178 P, x179 P, x180 P, x181 P, x182 P, x183 P, x184 P, x185 P, x186 P, x187 P, x188 P, x189 P, x190 P, x191 P, x192 P, x193 P, x194 P, x195 P, x196 P, x197 P, x198 P, x199 P, x200 P, x201 P, x202 P, x203 P, x204 P, x205 P, x206 P, x207 P, x208 P, x209 P, x210 P, x211 P, x212 P, x213 P, x214 P, x215 P, x216 P, x217 P, x218 P, x219 P, x220 P, x221 P, x222 P, x223 P, x224 P, x225 P, x226 P, x227_1 P, x228 P, x229 P, x230 P, x231 P, o1.obj]
abbrev posP1 : Pos := ⟨176, 4, 176, 7⟩
noncomputable def x227_2 (P : Params) : Obj := ⟨(.type "dict"), none, (.dict #[ek P (Str.ofString "__module__") 481 (.str (Str.ofString "snowballstemmer.porter_stemmer") 472), ek P (Str.ofString "__qualname__") 483 (.str (Str.ofString "PorterStemmer") 482), ek P (Str.ofString "__firstlineno__") 485 (.int 175 484), ek P (Str.ofString "g_v") 498 (.ref 232), ek P (Str.ofString "g_v_WXY") 517 (.ref 233), ek P (Str.ofString "I_p2") 519 (.int 0 518), ek P (Str.ofString "I_p1") 521 (.int 0 520), ek P (Str.ofString "r_shortv") 528 (.ref 240), ek P (Str.ofString "r_R1") 535 (.ref 247), ek P (Str.ofString "r_R2") 542 (.ref 254), ek P (Str.ofString "r_Step_1a") 549 (.ref 261), ek P (Str.ofString "r_Step_1b") 556 (.ref 268), ek P (Str.ofString "r_Step_1c") 563 (.ref 275), ek P (Str.ofString "r_Step_2") 570 (.ref 282), ek P (Str.ofString "r_Step_3") 577 (.ref 289), ek P (Str.ofString "r_Step_4") 584 (.ref 296), ek P (Str.ofString "r_Step_5a") 591 (.ref 303), ek P (Str.ofString "r_Step_5b") 598 (.ref 310), ek P (Str.ofString "_stem") 605 (.ref 317), ek P (Str.ofString "a_0") 660 (.ref 330), ek P (Str.ofString "as_0") 664 (.ref 331)] 21), #[]⟩
noncomputable def x229_1 (P : Params) : Obj := ⟨.none, none, (.fields #[(.int 181 0), (.int 4 0), (.ref 239), (.int 184 0), (.int 4 0), (.ref 246), (.int 187 0), (.int 4 0), (.ref 253), (.int 190 0), (.int 4 0), (.ref 260), (.int 193 0), (.int 4 0), (.ref 267), (.int 196 0), (.int 4 0), (.ref 274), (.int 199 0), (.int 4 0), (.ref 281), (.int 202 0), (.int 4 0), (.ref 288), (.int 205 0), (.int 4 0), (.ref 295), (.int 208 0), (.int 4 0), (.ref 302), (.int 211 0), (.int 4 0), (.ref 309), (.int 214 0), (.int 4 0), (.ref 316)]), #[]⟩
noncomputable def x234 (P : Params) : Obj := ⟨(.type "tuple"), none, (.seq #[] 0), #[]⟩
noncomputable def x235 (P : Params) : Obj := ⟨.none, none, (.fields #[]), #[]⟩
noncomputable def x236 (P : Params) : Obj := ⟨(.type "tuple"), none, (.seq #[(.str (Str.ofString "self") 525)] 0), #[]⟩
noncomputable def x237 (P : Params) : Obj := ⟨(.type "tuple"), none, (.seq #[] 0), #[]⟩
noncomputable def x238 (P : Params) : Obj := ⟨.none, none, (.func { name := (Str.ofString "r_shortv"), qualname := (Str.ofString "PorterStemmer.r_shortv"), params := fnArgs (clsSt 6 4), body := .stmts (fnBody (clsSt 6 4)), scope := fnScope (clsSt 6 4), globals := 0, closure := [], defaults := .none, kwdefaults := .none, doc := .none, pyModule := .none, annotations := none, code := .none, closureTuple := .none, builtins := 0 }), #[]⟩
noncomputable def x239 (P : Params) : Obj := ⟨(.type "code"), none, (.fields #[(.str (Str.ofString "r_shortv") 522), (.str (Str.ofString "PorterStemmer.r_shortv") 523), (.str (Str.ofString "/claim/cut.py") 524), (.int 181 0), (.int 1 0), (.int 0 0), (.int 0 0), (.int 3 0), (.ref 234), (.bool true), (.int 181 0), (.ref 235), .none, (.ref 236), (.ref 237), (.ref 238), (.int 526 0), (.int 181 0), (.str (Str.ofString "/claim/cut.py") 527)]), #[]⟩
noncomputable def x240 (P : Params) : Obj := ⟨(.type "function"), none, (.func { name := (Str.ofString "r_shortv"), qualname := (Str.ofString "PorterStemmer.r_shortv"), params := fnArgs (clsSt 6 4), body := .stmts (fnBody (clsSt 6 4)), scope := fnScope (clsSt 6 4), globals := 3, closure := [], defaults := .none, kwdefaults := .none, doc := .none, pyModule := (.str (Str.ofString "snowballstemmer.porter_stemmer") 472), annotations := none, code := (.ref 239), closureTuple := .none, builtins := 0 }), #[]⟩
noncomputable def x241 (P : Params) : Obj := ⟨(.type "tuple"), none, (.seq #[] 0), #[]⟩
noncomputable def x242 (P : Params) : Obj := ⟨.none, none, (.fields #[]), #[]⟩
noncomputable def x243 (P : Params) : Obj := ⟨(.type "tuple"), none, (.seq #[(.str (Str.ofString "self") 532)] 0), #[]⟩
noncomputable def x244 (P : Params) : Obj := ⟨(.type "tuple"), none, (.seq #[] 0), #[]⟩
noncomputable def x245 (P : Params) : Obj := ⟨.none, none, (.func { name := (Str.ofString "r_R1"), qualname := (Str.ofString "PorterStemmer.r_R1"), params := fnArgs (clsSt 6 5), body := .stmts (fnBody (clsSt 6 5)), scope := fnScope (clsSt 6 5), globals := 0, closure := [], defaults := .none, kwdefaults := .none, doc := .none, pyModule := .none, annotations := none, code := .none, closureTuple := .none, builtins := 0 }), #[]⟩
noncomputable def x246 (P : Params) : Obj := ⟨(.type "code"), none, (.fields #[(.str (Str.ofString "r_R1") 529), (.str (Str.ofString "PorterStemmer.r_R1") 530), (.str (Str.ofString "/claim/cut.py") 531), (.int 184 0), (.int 1 0), (.int 0 0), (.int 0 0), (.int 3 0), (.ref 241), (.bool true), (.int 181 0), (.ref 242), .none, (.ref 243), (.ref 244), (.ref 245), (.int 533 0), (.int 184 0), (.str (Str.ofString "/claim/cut.py") 534)]), #[]⟩
noncomputable def x247 (P : Params) : Obj := ⟨(.type "function"), none, (.func { name := (Str.ofString "r_R1"), qualname := (Str.ofString "PorterStemmer.r_R1"), params := fnArgs (clsSt 6 5), body := .stmts (fnBody (clsSt 6 5)), scope := fnScope (clsSt 6 5), globals := 3, closure := [], defaults := .none, kwdefaults := .none, doc := .none, pyModule := (.str (Str.ofString "snowballstemmer.porter_stemmer") 472), annotations := none, code := (.ref 246), closureTuple := .none, builtins := 0 }), #[]⟩
noncomputable def x248 (P : Params) : Obj := ⟨(.type "tuple"), none, (.seq #[] 0), #[]⟩
noncomputable def x249 (P : Params) : Obj := ⟨.none, none, (.fields #[]), #[]⟩
noncomputable def x250 (P : Params) : Obj := ⟨(.type "tuple"), none, (.seq #[(.str (Str.ofString "self") 539)] 0), #[]⟩
noncomputable def x251 (P : Params) : Obj := ⟨(.type "tuple"), none, (.seq #[] 0), #[]⟩
noncomputable def x252 (P : Params) : Obj := ⟨.none, none, (.func { name := (Str.ofString "r_R2"), qualname := (Str.ofString "PorterStemmer.r_R2"), params := fnArgs (clsSt 6 6), body := .stmts (fnBody (clsSt 6 6)), scope := fnScope (clsSt 6 6), globals := 0, closure := [], defaults := .none, kwdefaults := .none, doc := .none, pyModule := .none, annotations := none, code := .none, closureTuple := .none, builtins := 0 }), #[]⟩
noncomputable def x253 (P : Params) : Obj := ⟨(.type "code"), none, (.fields #[(.str (Str.ofString "r_R2") 536), (.str (Str.ofString "PorterStemmer.r_R2") 537), (.str (Str.ofString "/claim/cut.py") 538), (.int 187 0), (.int 1 0), (.int 0 0), (.int 0 0), (.int 3 0), (.ref 248), (.bool true), (.int 181 0), (.ref 249), .none, (.ref 250), (.ref 251), (.ref 252), (.int 540 0), (.int 187 0), (.str (Str.ofString "/claim/cut.py") 541)]), #[]⟩
noncomputable def x254 (P : Params) : Obj := ⟨(.type "function"), none, (.func { name := (Str.ofString "r_R2"), qualname := (Str.ofString "PorterStemmer.r_R2"), params := fnArgs (clsSt 6 6), body := .stmts (fnBody (clsSt 6 6)), scope := fnScope (clsSt 6 6), globals := 3, closure := [], defaults := .none, kwdefaults := .none, doc := .none, pyModule := (.str (Str.ofString "snowballstemmer.porter_stemmer") 472), annotations := none, code := (.ref 253), closureTuple := .none, builtins := 0 }), #[]⟩
noncomputable def x255 (P : Params) : Obj := ⟨(.type "tuple"), none, (.seq #[] 0), #[]⟩
noncomputable def x256 (P : Params) : Obj := ⟨.none, none, (.fields #[]), #[]⟩
noncomputable def x257 (P : Params) : Obj := ⟨(.type "tuple"), none, (.seq #[(.str (Str.ofString "self") 546)] 0), #[]⟩
noncomputable def x258 (P : Params) : Obj := ⟨(.type "tuple"), none, (.seq #[] 0), #[]⟩
noncomputable def x259 (P : Params) : Obj := ⟨.none, none, (.func { name := (Str.ofString "r_Step_1a"), qualname := (Str.ofString "PorterStemmer.r_Step_1a"), params := fnArgs (clsSt 6 7), body := .stmts (fnBody (clsSt 6 7)), scope := fnScope (clsSt 6 7), globals := 0, closure := [], defaults := .none, kwdefaults := .none, doc := .none, pyModule := .none, annotations := none, code := .none, closureTuple := .none, builtins := 0 }), #[]⟩
noncomputable def x260 (P : Params) : Obj := ⟨(.type "code"), none, (.fields #[(.str (Str.ofString "r_Step_1a") 543), (.str (Str.ofString "PorterStemmer.r_Step_1a") 544), (.str (Str.ofString "/claim/cut.py") 545), (.int 190 0), (.int 1 0), (.int 0 0), (.int 0 0), (.int 3 0), (.ref 255), (.bool true), (.int 181 0), (.ref 256), .none, (.ref 257), (.ref 258), (.ref 259), (.int 547 0), (.int 190 0), (.str (Str.ofString "/claim/cut.py") 548)]), #[]⟩
noncomputable def x261 (P : Params) : Obj := ⟨(.type "function"), none, (.func { name := (Str.ofString "r_Step_1a"), qualname := (Str.ofString "PorterStemmer.r_Step_1a"), params := fnArgs (clsSt 6 7), body := .stmts (fnBody (clsSt 6 7)), scope := fnScope (clsSt 6 7), globals := 3, closure := [], defaults := .none, kwdefaults := .none, doc := .none, pyModule := (.str (Str.ofString "snowballstemmer.porter_stemmer") 472), annotations := none, code := (.ref 260), closureTuple := .none, builtins := 0 }), #[]⟩
noncomputable def x262 (P : Params) : Obj := ⟨(.type "tuple"), none, (.seq #[] 0), #[]⟩
noncomputable def x263 (P : Params) : Obj := ⟨.none, none, (.fields #[]), #[]⟩
noncomputable def x264 (P : Params) : Obj := ⟨(.type "tuple"), none, (.seq #[(.str (Str.ofString "self") 553)] 0), #[]⟩
noncomputable def x265 (P : Params) : Obj := ⟨(.type "tuple"), none, (.seq #[] 0), #[]⟩
noncomputable def x266 (P : Params) : Obj := ⟨.none, none, (.func { name := (Str.ofString "r_Step_1b"), qualname := (Str.ofString "PorterStemmer.r_Step_1b"), params := fnArgs (clsSt 6 8), body := .stmts (fnBody (clsSt 6 8)), scope := fnScope (clsSt 6 8), globals := 0, closure := [], defaults := .none, kwdefaults := .none, doc := .none, pyModule := .none, annotations := none, code := .none, closureTuple := .none, builtins := 0 }), #[]⟩
noncomputable def x267 (P : Params) : Obj := ⟨(.type "code"), none, (.fields #[(.str (Str.ofString "r_Step_1b") 550), (.str (Str.ofString "PorterStemmer.r_Step_1b") 551), (.str (Str.ofString "/claim/cut.py") 552), (.int 193 0), (.int 1 0), (.int 0 0), (.int 0 0), (.int 3 0), (.ref 262), (.bool true), (.int 181 0), (.ref 263), .none, (.ref 264), (.ref 265), (.ref 266), (.int 554 0), (.int 193 0), (.str (Str.ofString "/claim/cut.py") 555)]), #[]⟩
noncomputable def x268 (P : Params) : Obj := ⟨(.type "function"), none, (.func { name := (Str.ofString "r_Step_1b"), qualname := (Str.ofString "PorterStemmer.r_Step_1b"), params := fnArgs (clsSt 6 8), body := .stmts (fnBody (clsSt 6 8)), scope := fnScope (clsSt 6 8), globals := 3, closure := [], defaults := .none, kwdefaults := .none, doc := .none, pyModule := (.str (Str.ofString "snowballstemmer.porter_stemmer") 472), annotations := none, code := (.ref 267), closureTuple := .none, builtins := 0 }), #[]⟩
noncomputable def x269 (P : Params) : Obj := ⟨(.type "tuple"), none, (.seq #[] 0), #[]⟩
noncomputable def x270 (P : Params) : Obj := ⟨.none, none, (.fields #[]), #[]⟩
noncomputable def x271 (P : Params) : Obj := ⟨(.type "tuple"), none, (.seq #[(.str (Str.ofString "self") 560)] 0), #[]⟩
noncomputable def x272 (P : Params) : Obj := ⟨(.type "tuple"), none, (.seq #[] 0), #[]⟩
noncomputable def x273 (P : Params) : Obj := ⟨.none, none, (.func { name := (Str.ofString "r_Step_1c"), qualname := (Str.ofString "PorterStemmer.r_Step_1c"), params := fnArgs (clsSt 6 9), body := .stmts (fnBody (clsSt 6 9)), scope := fnScope (clsSt 6 9), globals := 0, closure := [], defaults := .none, kwdefaults := .none, doc := .none, pyModule := .none, annotations := none, code := .none, closureTuple := .none, builtins := 0 }), #[]⟩
noncomputable def x274 (P : Params) : Obj := ⟨(.type "code"), none, (.fields #[(.str (Str.ofString "r_Step_1c") 557), (.str (Str.ofString "PorterStemmer.r_Step_1c") 558), (.str (Str.ofString "/claim/cut.py") 559), (.int 196 0), (.int 1 0), (.int 0 0), (.int 0 0), (.int 3 0), (.ref 269), (.bool true), (.int 181 0), (.ref 270), .none, (.ref 271), (.ref 272), (.ref 273), (.int 561 0), (.int 196 0), (.str (Str.ofString "/claim/cut.py") 562)]), #[]⟩
noncomputable def x275 (P : Params) : Obj := ⟨(.type "function"), none, (.func { name := (Str.ofString "r_Step_1c"), qualname := (Str.ofString "PorterStemmer.r_Step_1c"), params := fnArgs (clsSt 6 9), body := .stmts (fnBody (clsSt 6 9)), scope := fnScope (clsSt 6 9), globals := 3, closure := [], defaults := .none, kwdefaults := .none, doc := .none, pyModule := (.str (Str.ofString "snowballstemmer.porter_stemmer") 472), annotations := none, code := (.ref 274), closureTuple := .none, builtins := 0 }), #[]⟩
noncomputable def x276 (P : Params) : Obj := ⟨(.type "tuple"), none, (.seq #[] 0), #[]⟩
noncomputable def x277 (P : Params) : Obj := ⟨.none, none, (.fields #[]), #[]⟩
noncomputable def x278 (P : Params) : Obj := ⟨(.type "tuple"), none, (.seq #[(.str (Str.ofString "self") 567)] 0), #[]⟩
noncomputable def x279 (P : Params) : Obj := ⟨(.type "tuple"), none, (.seq #[] 0), #[]⟩
noncomputable def x280 (P : Params) : Obj := ⟨.none, none, (.func { name := (Str.ofString "r_Step_2"), qualname := (Str.ofString "PorterStemmer.r_Step_2"), params := fnArgs (clsSt 6 10), body := .stmts (fnBody (clsSt 6 10)), scope := fnScope (clsSt 6 10), globals := 0, closure := [], defaults := .none, kwdefaults := .none, doc := .none, pyModule := .none, annotations := none, code := .none, closureTuple := .none, builtins := 0 }), #[]⟩
noncomputable def x281 (P : Params) : Obj := ⟨(.type "code"), none, (.fields #[(.str (Str.ofString "r_Step_2") 564), (.str (Str.ofString "PorterStemmer.r_Step_2") 565), (.str (Str.ofString "/claim/cut.py") 566), (.int 199 0), (.int 1 0), (.int 0 0), (.int 0 0), (.int 3 0), (.ref 276), (.bool true), (.int 181 0), (.ref 277), .none, (.ref 278), (.ref 279), (.ref 280), (.int 568 0), (.int 199 0), (.str (Str.ofString "/claim/cut.py") 569)]), #[]⟩
noncomputable def x282 (P : Params) : Obj := ⟨(.type "function"), none, (.func { name := (Str.ofString "r_Step_2"), qualname := (Str.ofString "PorterStemmer.r_Step_2"), params := fnArgs (clsSt 6 10), body := .stmts (fnBody (clsSt 6 10)), scope := fnScope (clsSt 6 10), globals := 3, closure := [], defaults := .none, kwdefaults := .none, doc := .none, pyModule := (.str (Str.ofString "snowballstemmer.porter_stemmer") 472), annotations := none, code := (.ref 281), closureTuple := .none, builtins := 0 }), #[]⟩
noncomputable def x283 (P : Params) : Obj := ⟨(.type "tuple"), none, (.seq #[] 0), #[]⟩
noncomputable def x284 (P : Params) : Obj := ⟨.none, none, (.fields #[]), #[]⟩
noncomputable def x285 (P : Params) : Obj := ⟨(.type "tuple"), none, (.seq #[(.str (Str.ofString "self") 574)] 0), #[]⟩
noncomputable def x286 (P : Params) : Obj := ⟨(.type "tuple"), none, (.seq #[] 0), #[]⟩
noncomputable def x287 (P : Params) : Obj := ⟨.none, none, (.func { name := (Str.ofString "r_Step_3"), qualname := (Str.ofString "PorterStemmer.r_Step_3"), params := fnArgs (clsSt 6 11), body := .stmts (fnBody (clsSt 6 11)), scope := fnScope (clsSt 6 11), globals := 0, closure := [], defaults := .none, kwdefaults := .none, doc := .none, pyModule := .none, annotations := none, code := .none, closureTuple := .none, builtins := 0 }), #[]⟩
noncomputable def x288 (P : Params) : Obj := ⟨(.type "code"), none, (.fields #[(.str (Str.ofString "r_Step_3") 571), (.str (Str.ofString "PorterStemmer.r_Step_3") 572), (.str (Str.ofString "/claim/cut.py") 573), (.int 202 0), (.int 1 0), (.int 0 0), (.int 0 0), (.int 3 0), (.ref 283), (.bool true), (.int 181 0), (.ref 284), .none, (.ref 285), (.ref 286), (.ref 287), (.int 575 0), (.int 202 0), (.str (Str.ofString "/claim/cut.py") 576)]), #[]⟩
noncomputable def x289 (P : Params) : Obj := ⟨(.type "function"), none, (.func { name := (Str.ofString "r_Step_3"), qualname := (Str.ofString "PorterStemmer.r_Step_3"), params := fnArgs (clsSt 6 11), body := .stmts (fnBody (clsSt 6 11)), scope := fnScope (clsSt 6 11), globals := 3, closure := [], defaults := .none, kwdefaults := .none, doc := .none, pyModule := (.str (Str.ofString "snowballstemmer.porter_stemmer") 472), annotations := none, code := (.ref 288), closureTuple := .none, builtins := 0 }), #[]⟩
noncomputable def x290 (P : Params) : Obj := ⟨(.type "tuple"), none, (.seq #[] 0), #[]⟩
noncomputable def x291 (P : Params) : Obj := ⟨.none, none, (.fields #[]), #[]⟩
noncomputable def x292 (P : Params) : Obj := ⟨(.type "tuple"), none, (.seq #[(.str (Str.ofString "self") 581)] 0), #[]⟩
noncomputable def x293 (P : Params) : Obj := ⟨(.type "tuple"), none, (.seq #[] 0), #[]⟩
noncomputable def x294 (P : Params) : Obj := ⟨.none, none, (.func { name := (Str.ofString "r_Step_4"), qualname := (Str.ofString "PorterStemmer.r_Step_4"), params := fnArgs (clsSt 6 12), body := .stmts (fnBody (clsSt 6 12)), scope := fnScope (clsSt 6 12), globals := 0, closure := [], defaults := .none, kwdefaults := .none, doc := .none, pyModule := .none, annotations := none, code := .none, closureTuple := .none, builtins := 0 }), #[]⟩
noncomputable def x295 (P : Params) : Obj := ⟨(.type "code"), none, (.fields #[(.str (Str.ofString "r_Step_4") 578), (.str (Str.ofString "PorterStemmer.r_Step_4") 579), (.str (Str.ofString "/claim/cut.py") 580), (.int 205 0), (.int 1 0), (.int 0 0), (.int 0 0), (.int 3 0), (.ref 290), (.bool true), (.int 181 0), (.ref 291), .none, (.ref 292), (.ref 293), (.ref 294), (.int 582 0), (.int 205 0), (.str (Str.ofString "/claim/cut.py") 583)]), #[]⟩
noncomputable def x296 (P : Params) : Obj := ⟨(.type "function"), none, (.func { name := (Str.ofString "r_Step_4"), qualname := (Str.ofString "PorterStemmer.r_Step_4"), params := fnArgs (clsSt 6 12), body := .stmts (fnBody (clsSt 6 12)), scope := fnScope (clsSt 6 12), globals := 3, closure := [], defaults := .none, kwdefaults := .none, doc := .none, pyModule := (.str (Str.ofString "snowballstemmer.porter_stemmer") 472), annotations := none, code := (.ref 295), closureTuple := .none, builtins := 0 }), #[]⟩
noncomputable def x297 (P : Params) : Obj := ⟨(.type "tuple"), none, (.seq #[] 0), #[]⟩
noncomputable def x298 (P : Params) : Obj := ⟨.none, none, (.fields #[]), #[]⟩
noncomputable def x299 (P : Params) : Obj := ⟨(.type "tuple"), none, (.seq #[(.str (Str.ofString "self") 588)] 0), #[]⟩
noncomputable def x300 (P : Params) : Obj := ⟨(.type "tuple"), none, (.seq #[] 0), #[]⟩
noncomputable def x301 (P : Params) : Obj := ⟨.none, none, (.func { name := (Str.ofString "r_Step_5a"), qualname := (Str.ofString "PorterStemmer.r_Step_5a"), params := fnArgs (clsSt 6 13), body := .stmts (fnBody (clsSt 6 13)), scope := fnScope (clsSt 6 13), globals := 0, closure := [], defaults := .none, kwdefaults := .none, doc := .none, pyModule := .none, annotations := none, code := .none, closureTuple := .none, builtins := 0 }), #[]⟩
noncomputable def x302 (P : Params) : Obj := ⟨(.type "code"), none, (.fields #[(.str (Str.ofString "r_Step_5a") 585), (.str (Str.ofString "PorterStemmer.r_Step_5a") 586), (.str (Str.ofString "/claim/cut.py") 587), (.int 208 0), (.int 1 0), (.int 0 0), (.int 0 0), (.int 3 0), (.ref 297), (.bool true), (.int 181 0), (.ref 298), .none, (.ref 299), (.ref 300), (.ref 301), (.int 589 0), (.int 208 0), (.str (Str.ofString "/claim/cut.py") 590)]), #[]⟩
noncomputable def x303 (P : Params) : Obj := ⟨(.type "function"), none, (.func { name := (Str.ofString "r_Step_5a"), qualname := (Str.ofString "PorterStemmer.r_Step_5a"), params := fnArgs (clsSt 6 13), body := .stmts (fnBody (clsSt 6 13)), scope := fnScope (clsSt 6 13), globals := 3, closure := [], defaults := .none, kwdefaults := .none, doc := .none, pyModule := (.str (Str.ofString "snowballstemmer.porter_stemmer") 472), annotations := none, code := (.ref 302), closureTuple := .none, builtins := 0 }), #[]⟩
noncomputable def x304 (P : Params) : Obj := ⟨(.type "tuple"), none, (.seq #[] 0), #[]⟩
noncomputable def x305 (P : Params) : Obj := ⟨.none, none, (.fields #[]), #[]⟩
noncomputable def x306 (P : Params) : Obj := ⟨(.type "tuple"), none, (.seq #[(.str (Str.ofString "self") 595)] 0), #[]⟩
noncomputable def x307 (P : Params) : Obj := ⟨(.type "tuple"), none, (.seq #[] 0), #[]⟩
noncomputable def x308 (P : Params) : Obj := ⟨.none, none, (.func { name := (Str.ofString "r_Step_5b"), qualname := (Str.ofString "PorterStemmer.r_Step_5b"), params := fnArgs (clsSt 6 14), body := .stmts (fnBody (clsSt 6 14)), scope := fnScope (clsSt 6 14), globals := 0, closure := [], defaults := .none, kwdefaults := .none, doc := .none, pyModule := .none, annotations := none, code := .none, closureTuple := .none, builtins := 0 }), #[]⟩
noncomputable def x309 (P : Params) : Obj := ⟨(.type "code"), none, (.fields #[(.str (Str.ofString "r_Step_5b") 592), (.str (Str.ofString "PorterStemmer.r_Step_5b") 593), (.str (Str.ofString "/claim/cut.py") 594), (.int 211 0), (.int 1 0), (.int 0 0), (.int 0 0), (.int 3 0), (.ref 304), (.bool true), (.int 181 0), (.ref 305), .none, (.ref 306), (.ref 307), (.ref 308), (.int 596 0), (.int 211 0), (.str (Str.ofString "/claim/cut.py") 597)]), #[]⟩
noncomputable def x310 (P : Params) : Obj := ⟨(.type "function"), none, (.func { name := (Str.ofString "r_Step_5b"), qualname := (Str.ofString "PorterStemmer.r_Step_5b"), params := fnArgs (clsSt 6 14), body := .stmts (fnBody (clsSt 6 14)), scope := fnScope (clsSt 6 14), globals := 3, closure := [], defaults := .none, kwdefaults := .none, doc := .none, pyModule := (.str (Str.ofString "snowballstemmer.porter_stemmer") 472), annotations := none, code := (.ref 309), closureTuple := .none, builtins := 0 }), #[]⟩
noncomputable def x311 (P : Params) : Obj := ⟨(.type "tuple"), none, (.seq #[] 0), #[]⟩
noncomputable def x312 (P : Params) : Obj := ⟨.none, none, (.fields #[]), #[]⟩
noncomputable def x313 (P : Params) : Obj := ⟨(.type "tuple"), none, (.seq #[(.str (Str.ofString "self") 602)] 0), #[]⟩
noncomputable def x314 (P : Params) : Obj := ⟨(.type "tuple"), none, (.seq #[] 0), #[]⟩
noncomputable def x315 (P : Params) : Obj := ⟨.none, none, (.func { name := (Str.ofString "_stem"), qualname := (Str.ofString "PorterStemmer._stem"), params := fnArgs (clsSt 6 15), body := .stmts (fnBody (clsSt 6 15)), scope := fnScope (clsSt 6 15), globals := 0, closure := [], defaults := .none, kwdefaults := .none, doc := .none, pyModule := .none, annotations := none, code := .none, closureTuple := .none, builtins := 0 }), #[]⟩
noncomputable def x316 (P : Params) : Obj := ⟨(.type "code"), none, (.fields #[(.str (Str.ofString "_stem") 599), (.str (Str.ofString "PorterStemmer._stem") 600), (.str (Str.ofString "/claim/cut.py") 601), (.int 214 0), (.int 1 0), (.int 0 0), (.int 0 0), (.int 3 0), (.ref 311), (.bool true), (.int 181 0), (.ref 312), .none, (.ref 313), (.ref 314), (.ref 315), (.int 603 0), (.int 214 0), (.str (Str.ofString "/claim/cut.py") 604)]), #[]⟩
noncomputable def x317 (P : Params) : Obj := ⟨(.type "function"), none, (.func { name := (Str.ofString "_stem"), qualname := (Str.ofString "PorterStemmer._stem"), params := fnArgs (clsSt 6 15), body := .stmts (fnBody (clsSt 6 15)), scope := fnScope (clsSt 6 15), globals := 3, closure := [], defaults := .none, kwdefaults := .none, doc := .none, pyModule := (.str (Str.ofString "snowballstemmer.porter_stemmer") 472), annotations := none, code := (.ref 316), closureTuple := .none, builtins := 0 }), #[]⟩
noncomputable def x318 (P : Params) : Obj := ⟨(.type "dict"), none, (.dict #[ek P (Str.ofString "s") 615 (.str (Str.ofString "s") 606), ek P (Str.ofString "substring_i") 617 (.int (-1) 608), ek P (Str.ofString "result") 619 (.int 3 609)] 3), #[]⟩
noncomputable def x319 (P : Params) : Obj := ⟨(.ref 220), (some 318), .plain, #[]⟩
noncomputable def x320 (P : Params) : Obj := ⟨(.type "frame"), none, (.dict #[ek P (Str.ofString "self") 610 (.ref 319), ek P (Str.ofString "s") 611 (.str (Str.ofString "s") 606), ek P (Str.ofString "substring_i") 612 (.int (-1) 608), ek P (Str.ofString "result") 613 (.int 3 609)] 4), #[]⟩
noncomputable def x321 (P : Params) : Obj := ⟨(.type "dict"), none, (.dict #[ek P (Str.ofString "s") 628 (.str (Str.ofString "ies") 620), ek P (Str.ofString "substring_i") 630 (.int 0 621), ek P (Str.ofString "result") 632 (.int 2 622)] 3), #[]⟩
noncomputable def x322 (P : Params) : Obj := ⟨(.ref 220), (some 321), .plain, #[]⟩
noncomputable def x323 (P : Params) : Obj := ⟨(.type "frame"), none, (.dict #[ek P (Str.ofString "self") 623 (.ref 322), ek P (Str.ofString "s") 624 (.str (Str.ofString "ies") 620), ek P (Str.ofString "substring_i") 625 (.int 0 621), ek P (Str.ofString "result") 626 (.int 2 622)] 4), #[]⟩
noncomputable def x324 (P : Params) : Obj := ⟨(.type "dict"), none, (.dict #[ek P (Str.ofString "s") 641 (.str (Str.ofString "sses") 633), ek P (Str.ofString "substring_i") 643 (.int 0 634), ek P (Str.ofString "result") 645 (.int 1 635)] 3), #[]⟩
noncomputable def x325 (P : Params) : Obj := ⟨(.ref 220), (some 324), .plain, #[]⟩
noncomputable def x326 (P : Params) : Obj := ⟨(.type "frame"), none, (.dict #[ek P (Str.ofString "self") 636 (.ref 325), ek P (Str.ofString "s") 637 (.str (Str.ofString "sses") 633), ek P (Str.ofString "substring_i") 638 (.int 0 634), ek P (Str.ofString "result") 639 (.int 1 635)] 4), #[]⟩
noncomputable def x327 (P : Params) : Obj := ⟨(.type "dict"), none, (.dict #[ek P (Str.ofString "s") 655 (.str (Str.ofString "ss") 646), ek P (Str.ofString "substring_i") 657 (.int 0 647), ek P (Str.ofString "result") 659 (.int (-1) 649)] 3), #[]⟩
noncomputable def x328 (P : Params) : Obj := ⟨(.ref 220), (some 327), .plain, #[]⟩
noncomputable def x329 (P : Params) : Obj := ⟨(.type "frame"), none, (.dict #[ek P (Str.ofString "self") 650 (.ref 328), ek P (Str.ofString "s") 651 (.str (Str.ofString "ss") 646), ek P (Str.ofString "substring_i") 652 (.int 0 647), ek P (Str.ofString "result") 653 (.int (-1) 649)] 4), #[]⟩
noncomputable def x330 (P : Params) : Obj := ⟨(.type "list"), none, (.seq #[(.ref 319), (.ref 322), (.ref 325), (.ref 328)] 0), #[]⟩
noncomputable def x331 (P : Params) : Obj := ⟨(.type "tuple"), none, (.seq #[(.str (Str.ofString "ss") 661), (.str (Str.ofString "i") 662), (.str (Str.ofString "") 663)] 0), #[]⟩
noncomputable def HP18 (P : Params) (o1 o2 : SO) : List Obj := [x0 P, x1 P, x2 P, x3_1 P, x4 P, x5 P, x6 P, x7 P, x8 P, x9 P, x10 P, x11 P, x12_2 P, x13 P, x14 P, x15 P, x16 P, x17 P, x18 P, x19 P, x20 P, x21 P, x22 P, x23 P, x24 P, x25 P, x26 P, x27 P, x28 P, x29 P, x30 P, x31 P, x32 P, x33 P, x34 P, x35 P, x36 P, x37 P, x38 P, x39 P, x40 P, x41 P, x42 P, x43 P, x44 P, x45 P, x46 P, x47 P, x48 P, x49 P, x50 P, x51 P, x52 P, x53 P, x54 P, x55 P, x56 P, x57 P, x58 P, x59 P, x60 P, x61 P, x62 P, x63 P, x64 P, x65 P, x66 P, x67 P, x68 P, x69 P, x70 P, x71 P, x72 P, x73 P, x74 P, x75 P, x76 P, x77 P, x78 P, x79 P, x80 P, x81 P, x82 P, x83 P, x84 P, x85 P, x86 P, x87 P, x88 P, x89 P, x90 P, x91 P, x92 P, x93 P, x94 P, x95 P, x96 P, x97 P, x98 P, x99 P, x100 P, x101 P, x102 P, x103 P, x104 P, x105 P, x106 P, x107 P, x108 P, x109 P, x110 P, x111 P, x112 P, x113 P, x114 P, x115 P, x116 P, x117 P, x118 P, x119 P, x120 P, x121 P, x122 P, x123 P, x124 P, x125 P, x126 P, x127 P, x128 P, x129 P, x130 P, x131 P, x132 P, x133 P, x134 P, x135 P, x136 P, x137 P, x138 P, x139 P, x140 P, x141 P, x142 P, x143 P, x144 P, x145 P, x146 P, x147 P, x148 P, x149 P, x150 P, x151 P, x152 P, x153 P, x154 P, x155 P, x156 P, x157 P, x158 P, x159 P, x160 P, x161 P, x162 P, x163 P, x164 P, x165 P, x166 P, x167 P, x168 P, x169 P, x170 P, x171 P, x172 P, x173 P, x174 P, x175 P, x176 P, x177 P, x178 P, x179 P, x180 P, x181 P, x182 P, x183 P, x184 P, x185 P, x186 P, x187 P, x188 P, x189 P, x190 P, x191 P, x192 P, x193 P, x194 P, x195 P, x196 P, x197 P, x198 P, x199 P, x200 P, x201 P, x202 P, x203 P, x204 P, x205 P, x206 P, x207 P, x208 P, x209 P, x210 P, x211 P, x212 P, x213 P, x214 P, x215 P, x216 P, x217 P, x218 P, x219 P, x220 P, x221 P, x222 P, x223 P, x224 P, x225 P, x226 P, x227_2 P, x228 P, x229_1 P, x230 P, x231 P, o1.obj, o2.obj, x234 P, x235 P, x236 P, x237 P, x238 P, x239 P, x240 P, x241 P, x242 P, x243 P, x244 P, x245 P, x246 P, x247 P, x248 P, x249 P, x250 P, x251 P, x252 P, x253 P, x254 P, x255 P, x256 P, x257 P, x258 P, x259 P, x260 P, x261 P, x262 P, x263 P, x264 P, x265 P, x266 P, x267 P, x268 P, x269 P, x270 P, x271 P, x272 P, x273 P, x274 P, x275 P, x276 P, x277 P, x278 P, x279 P, x280 P, x281 P, x282 P, x283 P, x284 P, x285 P, x286 P, x287 P, x288 P, x289 P, x290 P, x291 P, x292 P, x293 P, x294 P, x295 P, x296 P, x297 P, x298 P, x299 P, x300 P, x301 P, x302 P, x303 P, x304 P, x305 P, x306 P, x307 P, x308 P, x309 P, x310 P, x311 P, x312 P, x313 P, x314 P, x315 P, x316 P, x317 P, x318 P, x319 P, x320 P, x321 P, x322 P, x323 P, x324 P, x325 P, x326 P, x327 P, x328 P, x329 P, x330 P, x331 P]
abbrev posP18 : Pos := ⟨217, 4, 217, 8⟩
noncomputable def x227_3 (P : Params) : Obj := ⟨(.type "dict"), none, (.dict #[ek P (Str.ofString "__module__") 481 (.str (Str.ofString "snowballstemmer.porter_stemmer") 472), ek P (Str.ofString "__qualname__") 483 (.str (Str.ofString "PorterStemmer") 482), ek P (Str.ofString "__firstlineno__") 485 (.int 175 484), ek P (Str.ofString "g_v") 498 (.ref 232), ek P (Str.ofString "g_v_WXY") 517 (.ref 233), ek P (Str.ofString "I_p2") 519 (.int 0 518), ek P (Str.ofString "I_p1") 521 (.int 0 520), ek P (Str.ofString "r_shortv") 528 (.ref 240), ek P (Str.ofString "r_R1") 535 (.ref 247), ek P (Str.ofString "r_R2") 542 (.ref 254), ek P (Str.ofString "r_Step_1a") 549 (.ref 261), ek P (Str.ofString "r_Step_1b") 556 (.ref 268), ek P (Str.ofString "r_Step_1c") 563 (.ref 275), ek P (Str.ofString "r_Step_2") 570 (.ref 282), ek P (Str.ofString "r_Step_3") 577 (.ref 289), ek P (Str.ofString "r_Step_4") 584 (.ref 296), ek P (Str.ofString "r_Step_5a") 591 (.ref 303), ek P (Str.ofString "r_Step_5b") 598 (.ref 310), ek P (Str.ofString "_stem") 605 (.ref 317), ek P (Str.ofString "a_0") 660 (.ref 330), ek P (Str.ofString "as_0") 664 (.ref 331), ek P (Str.ofString "a_1") 835 (.ref 371), ek P (Str.ofString "a_2") 877 (.ref 381)] 23), #[]⟩
noncomputable def x332 (P : Params) : Obj := ⟨(.type "dict"), none, (.dict #[ek P (Str.ofString "s") 674 (.str (Str.ofString "") 665), ek P (Str.ofString "substring_i") 676 (.int (-1) 667), ek P (Str.ofString "result") 678 (.int 3 668)] 3), #[]⟩
noncomputable def x333 (P : Params) : Obj := ⟨(.ref 220), (some 332), .plain, #[]⟩
noncomputable def x334 (P : Params) : Obj := ⟨(.type "frame"), none, (.dict #[ek P (Str.ofString "self") 669 (.ref 333), ek P (Str.ofString "s") 670 (.str (Str.ofString "") 665), ek P (Str.ofString "substring_i") 671 (.int (-1) 667), ek P (Str.ofString "result") 672 (.int 3 668)] 4), #[]⟩
noncomputable def x335 (P : Params) : Obj := ⟨(.type "dict"), none, (.dict #[ek P (Str.ofString "s") 687 (.str (Str.ofString "bb") 679), ek P (Str.ofString "substring_i") 689 (.int 0 680), ek P (Str.ofString "result") 691 (.int 2 681)] 3), #[]⟩
noncomputable def x336 (P : Params) : Obj := ⟨(.ref 220), (some 335), .plain, #[]⟩
noncomputable def x337 (P : Params) : Obj := ⟨(.type "frame"), none, (.dict #[ek P (Str.ofString "self") 682 (.ref 336), ek P (Str.ofString "s") 683 (.str (Str.ofString "bb") 679), ek P (Str.ofString "substring_i") 684 (.int 0 680), ek P (Str.ofString "result") 685 (.int 2 681)] 4), #[]⟩
noncomputable def x338 (P : Params) : Obj := ⟨(.type "dict"), none, (.dict #[ek P (Str.ofString "s") 700 (.str (Str.ofString "dd") 692), ek P (Str.ofString "substring_i") 702 (.int 0 693), ek P (Str.ofString "result") 704 (.int 2 694)] 3), #[]⟩
noncomputable def x339 (P : Params) : Obj := ⟨(.ref 220), (some 338), .plain, #[]⟩
noncomputable def x340 (P : Params) : Obj := ⟨(.type "frame"), none, (.dict #[ek P (Str.ofString "self") 695 (.ref 339), ek P (Str.ofString "s") 696 (.str (Str.ofString "dd") 692), ek P (Str.ofString "substring_i") 697 (.int 0 693), ek P (Str.ofString "result") 698 (.int 2 694)] 4), #[]⟩
noncomputable def x341 (P : Params) : Obj := ⟨(.type "dict"), none, (.dict #[ek P (Str.ofString "s") 713 (.str (Str.ofString "ff") 705), ek P (Str.ofString "substring_i") 715 (.int 0 706), ek P (Str.ofString "result") 717 (.int 2 707)] 3), #[]⟩
noncomputable def x342 (P : Params) : Obj := ⟨(.ref 220), (some 341), .plain, #[]⟩
noncomputable def x343 (P : Params) : Obj := ⟨(.type "frame"), none, (.dict #[ek P (Str.ofString "self") 708 (.ref 342), ek P (Str.ofString "s") 709 (.str (Str.ofString "ff") 705), ek P (Str.ofString "substring_i") 710 (.int 0 706), ek P (Str.ofString "result") 711 (.int 2 707)] 4), #[]⟩
noncomputable def x344 (P : Params) : Obj := ⟨(.type "dict"), none, (.dict #[ek P (Str.ofString "s") 726 (.str (Str.ofString "gg") 718), ek P (Str.ofString "substring_i") 728 (.int 0 719), ek P (Str.ofString "result") 730 (.int 2 720)] 3), #[]⟩
noncomputable def x345 (P : Params) : Obj := ⟨(.ref 220), (some 344), .plain, #[]⟩
noncomputable def x346 (P : Params) : Obj := ⟨(.type "frame"), none, (.dict #[ek P (Str.ofString "self") 721 (.ref 345), ek P (Str.ofString "s") 722 (.str (Str.ofString "gg") 718), ek P (Str.ofString "substring_i") 723 (.int 0 719), ek P (Str.ofString "result") 724 (.int 2 720)] 4), #[]⟩
noncomputable def x347 (P : Params) : Obj := ⟨(.type "dict"), none, (.dict #[ek P (Str.ofString "s") 739 (.str (Str.ofString "bl") 731), ek P (Str.ofString "substring_i") 741 (.int 0 732), ek P (Str.ofString "result") 743 (.int 1 733)] 3), #[]⟩
noncomputable def x348 (P : Params) : Obj := ⟨(.ref 220), (some 347), .plain, #[]⟩
noncomputable def x349 (P : Params) : Obj := ⟨(.type "frame"), none, (.dict #[ek P (Str.ofString "self") 734 (.ref 348), ek P (Str.ofString "s") 735 (.str (Str.ofString "bl") 731), ek P (Str.ofString "substring_i") 736 (.int 0 732), ek P (Str.ofString "result") 737 (.int 1 733)] 4), #[]⟩
noncomputable def x350 (P : Params) : Obj := ⟨(.type "dict"), none, (.dict #[ek P (Str.ofString "s") 752 (.str (Str.ofString "mm") 744), ek P (Str.ofString "substring_i") 754 (.int 0 745), ek P (Str.ofString "result") 756 (.int 2 746)] 3), #[]⟩
noncomputable def x351 (P : Params) : Obj := ⟨(.ref 220), (some 350), .plain, #[]⟩
noncomputable def x352 (P : Params) : Obj := ⟨(.type "frame"), none, (.dict #[ek P (Str.ofString "self") 747 (.ref 351), ek P (Str.ofString "s") 748 (.str (Str.ofString "mm") 744), ek P (Str.ofString "substring_i") 749 (.int 0 745), ek P (Str.ofString "result") 750 (.int 2 746)] 4), #[]⟩
noncomputable def x353 (P : Params) : Obj := ⟨(.type "dict"), none, (.dict #[ek P (Str.ofString "s") 765 (.str (Str.ofString "nn") 757), ek P (Str.ofString "substring_i") 767 (.int 0 758), ek P (Str.ofString "result") 769 (.int 2 759)] 3), #[]⟩
noncomputable def x354 (P : Params) : Obj := ⟨(.ref 220), (some 353), .plain, #[]⟩
noncomputable def x355 (P : Params) : Obj := ⟨(.type "frame"), none, (.dict #[ek P (Str.ofString "self") 760 (.ref 354), ek P (Str.ofString "s") 761 (.str (Str.ofString "nn") 757), ek P (Str.ofString "substring_i") 762 (.int 0 758), ek P (Str.ofString "result") 763 (.int 2 759)] 4), #[]⟩
noncomputable def x356 (P : Params) : Obj := ⟨(.type "dict"), none, (.dict #[ek P (Str.ofString "s") 778 (.str (Str.ofString "pp") 770), ek P (Str.ofString "substring_i") 780 (.int 0 771), ek P (Str.ofString "result") 782 (.int 2 772)] 3), #[]⟩
noncomputable def x357 (P : Params) : Obj := ⟨(.ref 220), (some 356), .plain, #[]⟩
noncomputable def x358 (P : Params) : Obj := ⟨(.type "frame"), none, (.dict #[ek P (Str.ofString "self") 773 (.ref 357), ek P (Str.ofString "s") 774 (.str (Str.ofString "pp") 770), ek P (Str.ofString "substring_i") 775 (.int 0 771), ek P (Str.ofString "result") 776 (.int 2 772)] 4), #[]⟩
noncomputable def x359 (P : Params) : Obj := ⟨(.type "dict"), none, (.dict #[ek P (Str.ofString "s") 791 (.str (Str.ofString "rr") 783), ek P (Str.ofString "substring_i") 793 (.int 0 784), ek P (Str.ofString "result") 795 (.int 2 785)] 3), #[]⟩
noncomputable def x360 (P : Params) : Obj := ⟨(.ref 220), (some 359), .plain, #[]⟩
noncomputable def x361 (P : Params) : Obj := ⟨(.type "frame"), none, (.dict #[ek P (Str.ofString "self") 786 (.ref 360), ek P (Str.ofString "s") 787 (.str (Str.ofString "rr") 783), ek P (Str.ofString "substring_i") 788 (.int 0 784), ek P (Str.ofString "result") 789 (.int 2 785)] 4), #[]⟩
noncomputable def x362 (P : Params) : Obj := ⟨(.type "dict"), none, (.dict #[ek P (Str.ofString "s") 804 (.str (Str.ofString "at") 796), ek P (Str.ofString "substring_i") 806 (.int 0 797), ek P (Str.ofString "result") 808 (.int 1 798)] 3), #[]⟩
noncomputable def x363 (P : Params) : Obj := ⟨(.ref 220), (some 362), .plain, #[]⟩
noncomputable def x364 (P : Params) : Obj := ⟨(.type "frame"), none, (.dict #[ek P (Str.ofString "self") 799 (.ref 363), ek P (Str.ofString "s") 800 (.str (Str.ofString "at") 796), ek P (Str.ofString "substring_i") 801 (.int 0 797), ek P (Str.ofString "result") 802 (.int 1 798)] 4), #[]⟩
noncomputable def x365 (P : Params) : Obj := ⟨(.type "dict"), none, (.dict #[ek P (Str.ofString "s") 817 (.str (Str.ofString "tt") 809), ek P (Str.ofString "substring_i") 819 (.int 0 810), ek P (Str.ofString "result") 821 (.int 2 811)] 3), #[]⟩
noncomputable def x366 (P : Params) : Obj := ⟨(.ref 220), (some 365), .plain, #[]⟩
noncomputable def x367 (P : Params) : Obj := ⟨(.type "frame"), none, (.dict #[ek P (Str.ofString "self") 812 (.ref 366), ek P (Str.ofString "s") 813 (.str (Str.ofString "tt") 809), ek P (Str.ofString "substring_i") 814 (.int 0 810), ek P (Str.ofString "result") 815 (.int 2 811)] 4), #[]⟩
noncomputable def x368 (P : Params) : Obj := ⟨(.type "dict"), none, (.dict #[ek P (Str.ofString "s") 830 (.str (Str.ofString "iz") 822), ek P (Str.ofString "substring_i") 832 (.int 0 823), ek P (Str.ofString "result") 834 (.int 1 824)] 3), #[]⟩
noncomputable def x369 (P : Params) : Obj := ⟨(.ref 220), (some 368), .plain, #[]⟩
noncomputable def x370 (P : Params) : Obj := ⟨(.type "frame"), none, (.dict #[ek P (Str.ofString "self") 825 (.ref 369), ek P (Str.ofString "s") 826 (.str (Str.ofString "iz") 822), ek P (Str.ofString "substring_i") 827 (.int 0 823), ek P (Str.ofString "result") 828 (.int 1 824)] 4), #[]⟩
noncomputable def x371 (P : Params) : Obj := ⟨(.type "list"), none, (.seq #[(.ref 333), (.ref 336), (.ref 339), (.ref 342), (.ref 345), (.ref 348), (.ref 351), (.ref 354), (.ref 357), (.ref 360), (.ref 363), (.ref 366), (.ref 369)] 0), #[]⟩
noncomputable def x372 (P : Params) : Obj := ⟨(.type "dict"), none, (.dict #[ek P (Str.ofString "s") 845 (.str (Str.ofString "ed") 836), ek P (Str.ofString "substring_i") 847 (.int (-1) 838), ek P (Str.ofString "result") 849 (.int 2 839)] 3), #[]⟩
noncomputable def x373 (P : Params) : Obj := ⟨(.ref 220), (some 372), .plain, #[]⟩
noncomputable def x374 (P : Params) : Obj := ⟨(.type "frame"), none, (.dict #[ek P (Str.ofString "self") 840 (.ref 373), ek P (Str.ofString "s") 841 (.str (Str.ofString "ed") 836), ek P (Str.ofString "substring_i") 842 (.int (-1) 838), ek P (Str.ofString "result") 843 (.int 2 839)] 4), #[]⟩
noncomputable def x375 (P : Params) : Obj := ⟨(.type "dict"), none, (.dict #[ek P (Str.ofString "s") 858 (.str (Str.ofString "eed") 850), ek P (Str.ofString "substring_i") 860 (.int 0 851), ek P (Str.ofString "result") 862 (.int 1 852)] 3), #[]⟩
noncomputable def x376 (P : Params) : Obj := ⟨(.ref 220), (some 375), .plain, #[]⟩
noncomputable def x377 (P : Params) : Obj := ⟨(.type "frame"), none, (.dict #[ek P (Str.ofString "self") 853 (.ref 376), ek P (Str.ofString "s") 854 (.str (Str.ofString "eed") 850), ek P (Str.ofString "substring_i") 855 (.int 0 851), ek P (Str.ofString "result") 856 (.int 1 852)] 4), #[]⟩
noncomputable def x378 (P : Params) : Obj := ⟨(.type "dict"), none, (.dict #[ek P (Str.ofString "s") 872 (.str (Str.ofString "ing") 863), ek P (Str.ofString "substring_i") 874 (.int (-1) 865), ek P (Str.ofString "result") 876 (.int 2 866)] 3), #[]⟩
noncomputable def x379 (P : Params) : Obj := ⟨(.ref 220), (some 378), .plain, #[]⟩
noncomputable def x380 (P : Params) : Obj := ⟨(.type "frame"), none, (.dict #[ek P (Str.ofString "self") 867 (.ref 379), ek P (Str.ofString "s") 868 (.str (Str.ofString "ing") 863), ek P (Str.ofString "substring_i") 869 (.int (-1) 865), ek P (Str.ofString "result") 870 (.int 2 866)] 4), #[]⟩
noncomputable def x381 (P : Params) : Obj := ⟨(.type "list"), none, (.seq #[(.ref 373), (.ref 376), (.ref 379)] 0), #[]⟩
noncomputable def HP20 (P : Params) (o1 o2 : SO) : List Obj := [x0 P, x1 P, x2 P, x3_1 P, x4 P, x5 P, x6 P, x7 P, x8 P, x9 P, x10 P, x11 P, x12_2 P, x13 P, x14 P, x15 P, x16 P, x17 P, x18 P, x19 P, x20 P, x21 P, x22 P, x23 P, x24 P, x25 P, x26 P, x27 P, x28 P, x29 P, x30 P, x31 P, x32 P, x33 P, x34 P, x35 P, x36 P, x37 P, x38 P, x39 P, x40 P, x41 P, x42 P, x43 P, x44 P, x45 P, x46 P, x47 P, x48 P, x49 P, x50 P, x51 P, x52 P, x53 P, x54 P, x55 P, x56 P, x57 P, x58 P, x59 P, x60 P, x61 P, x62 P, x63 P, x64 P, x65 P, x66 P, x67 P, x68 P, x69 P, x70 P, x71 P, x72 P, x73 P, x74 P, x75 P, x76 P, x77 P, x78 P, x79 P, x80 P, x81 P, x82 P, x83 P, x84 P, x85 P, x86 P, x87 P, x88 P, x89 P, x90 P, x91 P, x92 P, x93 P, x94 P, x95 P, x96 P, x97 P, x98 P, x99 P, x100 P, x101 P, x102 P, x103 P, x104 P, x105 P, x106 P, x107 P, x108 P, x109 P, x110 P, x111 P, x112 P, x113 P, x114 P, x115 P, x116 P, x117 P, x118 P, x119 P, x120 P, x121 P, x122 P, x123 P, x124 P, x125 P, x126 P, x127 P, x128 P, x129 P, x130 P, x131 P, x132 P, x133 P, x134 P, x135 P, x136 P, x137 P, x138 P, x139 P, x140 P, x141 P, x142 P, x143 P, x144 P, x145 P, x146 P, x147 P, x148 P, x149 P, x150 P, x151 P, x152 P, x153 P, x154 P, x155 P, x156 P, x157 P, x158 P, x159 P, x160 P, x161 P, x162 P, x163 P, x164 P, x165 P, x166 P, x167 P, x168 P, x169 P, x170 P, x171 P, x172 P, x173 P, x174 P, x175 P, x176 P, x177 P, x178 P, x179 P, x180 P, x181 P, x182 P, x183 P, x184 P, x185 P, x186 P, x187 P, x188 P, x189 P, x190 P, x191 P, x192 P, x193 P, x194 P, x195 P, x196 P, x197 P, x198 P, x199 P, x200 P, x201 P, x202 P, x203 P, x204 P, x205 P, x206 P, x207 P, x208 P, x209 P, x210 P, x211 P, x212 P, x213 P, x214 P, x215 P, x216 P, x217 P, x218 P, x219 P, x220 P, x221 P, x222 P, x223 P, x224 P, x225 P, x226 P, x227_3 P, x228 P, x229_1 P, x230 P, x231 P, o1.obj, o2.obj, x234 P, x235 P, x236 P, x237 P, x238 P, x239 P, x240 P, x241 P, x242 P, x243 P, x244 P, x245 P, x246 P, x247 P, x248 P, x249 P, x250 P, x251 P, x252 P, x253 P, x254 P, x255 P, x256 P, x257 P, x258 P, x259 P, x260 P, x261 P, x262 P, x263 P, x264 P, x265 P, x266 P, x267 P, x268 P, x269 P, x270 P, x271 P, x272 P, x273 P, x274 P, x275 P, x276 P, x277 P, x278 P, x279 P, x280 P, x281 P, x282 P, x283 P, x284 P, x285 P, x286 P, x287 P, x288 P, x289 P, x290 P, x291 P, x292 P, x293 P, x294 P, x295 P, x296 P, x297 P, x298 P, x299 P, x300 P, x301 P, x302 P, x303 P, x304 P, x305 P, x306 P, x307 P, x308 P, x309 P, x310 P, x311 P, x312 P, x313 P, x314 P, x315 P, x316 P, x317 P, x318 P, x319 P, x320 P, x321 P, x322 P, x323 P, x324 P, x325 P, x326 P, x327 P, x328 P, x329 P, x330 P, x331 P, x332 P, x333 P, x334 P, x335 P, x336 P, x337 P, x338 P, x339 P, x340 P, x341 P, x342 P, x343 P, x344 P, x345 P, x346 P, x347 P, x348 P, x349 P, x350 P, x351 P, x352 P, x353 P, x354 P, x355 P, x356 P, x357 P, x358 P, x359 P, x360 P, x361 P, x362 P, x363 P, x364 P, x365 P, x366 P, x367 P, x368 P, x369 P, x370 P, x371 P, x372 P, x373 P, x374 P, x375 P, x376 P, x377 P, x378 P, x379 P, x380 P, x381 P]
abbrev posP20 : Pos := ⟨219, 4, 219, 7⟩
noncomputable def x227_4 (P : Params) : Obj := ⟨(.type "dict"), none, (.dict #[ek P (Str.ofString "__module__") 481 (.str (Str.ofString "snowballstemmer.porter_stemmer") 472), ek P (Str.ofString "__qualname__") 483 (.str (Str.ofString "PorterStemmer") 482), ek P (Str.ofString "__firstlineno__") 485 (.int 175 484), ek P (Str.ofString "g_v") 498 (.ref 232), ek P (Str.ofString "g_v_WXY") 517 (.ref 233), ek P (Str.ofString "I_p2") 519 (.int 0 518), ek P (Str.ofString "I_p1") 521 (.int 0 520), ek P (Str.ofString "r_shortv") 528 (.ref 240), ek P (Str.ofString "r_R1") 535 (.ref 247), ek P (Str.ofString "r_R2") 542 (.ref 254), ek P (Str.ofString "r_Step_1a") 549 (.ref 261), ek P (Str.ofString "r_Step_1b") 556 (.ref 268), ek P (Str.ofString "r_Step_1c") 563 (.ref 275), ek P (Str.ofString "r_Step_2") 570 (.ref 282), ek P (Str.ofString "r_Step_3") 577 (.ref 289), ek P (Str.ofString "r_Step_4") 584 (.ref 296), ek P (Str.ofString "r_Step_5a") 591 (.ref 303), ek P (Str.ofString "r_Step_5b") 598 (.ref 310), ek P (Str.ofString "_stem") 605 (.ref 317), ek P (Str.ofString "a_0") 660 (.ref 330), ek P (Str.ofString "as_0") 664 (.ref 331), ek P (Str.ofString "a_1") 835 (.ref 371), ek P (Str.ofString "a_2") 877 (.ref 381), ek P (Str.ofString "a_3") 1156 (.ref 442), ek P (Str.ofString "as_3") 1170 (.ref 443)] 25), #[]⟩
noncomputable def x382 (P : Params) : Obj := ⟨(.type "dict"), none, (.dict #[ek P (Str.ofString "s") 887 (.str (Str.ofString "anci") 878), ek P (Str.ofString "substring_i") 889 (.int (-1) 880), ek P (Str.ofString "result") 891 (.int 3 881)] 3), #[]⟩
noncomputable def x383 (P : Params) : Obj := ⟨(.ref 220), (some 382), .plain, #[]⟩
noncomputable def x384 (P : Params) : Obj := ⟨(.type "frame"), none, (.dict #[ek P (Str.ofString "self") 882 (.ref 383), ek P (Str.ofString "s") 883 (.str (Str.ofString "anci") 878), ek P (Str.ofString "substring_i") 884 (.int (-1) 880), ek P (Str.ofString "result") 885 (.int 3 881)] 4), #[]⟩
noncomputable def x385 (P : Params) : Obj := ⟨(.type "dict"), none, (.dict #[ek P (Str.ofString "s") 901 (.str (Str.ofString "enci") 892), ek P (Str.ofString "substring_i") 903 (.int (-1) 894), ek P (Str.ofString "result") 905 (.int 2 895)] 3), #[]⟩
noncomputable def x386 (P : Params) : Obj := ⟨(.ref 220), (some 385), .plain, #[]⟩
noncomputable def x387 (P : Params) : Obj := ⟨(.type "frame"), none, (.dict #[ek P (Str.ofString "self") 896 (.ref 386), ek P (Str.ofString "s") 897 (.str (Str.ofString "enci") 892), ek P (Str.ofString "substring_i") 898 (.int (-1) 894), ek P (Str.ofString "result") 899 (.int 2 895)] 4), #[]⟩
noncomputable def x388 (P : Params) : Obj := ⟨(.type "dict"), none, (.dict #[ek P (Str.ofString "s") 915 (.str (Str.ofString "abli") 906), ek P (Str.ofString "substring_i") 917 (.int (-1) 908), ek P (Str.ofString "result") 919 (.int 4 909)] 3), #[]⟩
noncomputable def x389 (P : Params) : Obj := ⟨(.ref 220), (some 388), .plain, #[]⟩
noncomputable def x390 (P : Params) : Obj := ⟨(.type "frame"), none, (.dict #[ek P (Str.ofString "self") 910 (.ref 389), ek P (Str.ofString "s") 911 (.str (Str.ofString "abli") 906), ek P (Str.ofString "substring_i") 912 (.int (-1) 908), ek P (Str.ofString "result") 913 (.int 4 909)] 4), #[]⟩
noncomputable def x391 (P : Params) : Obj := ⟨(.type "dict"), none, (.dict #[ek P (Str.ofString "s") 929 (.str (Str.ofString "eli") 920), ek P (Str.ofString "substring_i") 931 (.int (-1) 922), ek P (Str.ofString "result") 933 (.int 6 923)] 3), #[]⟩
noncomputable def x392 (P : Params) : Obj := ⟨(.ref 220), (some 391), .plain, #[]⟩
noncomputable def x393 (P : Params) : Obj := ⟨(.type "frame"), none, (.dict #[ek P (Str.ofString "self") 924 (.ref 392), ek P (Str.ofString "s") 925 (.str (Str.ofString "eli") 920), ek P (Str.ofString "substring_i") 926 (.int (-1) 922), ek P (Str.ofString "result") 927 (.int 6 923)] 4), #[]⟩
noncomputable def x394 (P : Params) : Obj := ⟨(.type "dict"), none, (.dict #[ek P (Str.ofString "s") 943 (.str (Str.ofString "alli") 934), ek P (Str.ofString "substring_i") 945 (.int (-1) 936), ek P (Str.ofString "result") 947 (.int 9 937)] 3), #[]⟩
noncomputable def x395 (P : Params) : Obj := ⟨(.ref 220), (some 394), .plain, #[]⟩
noncomputable def x396 (P : Params) : Obj := ⟨(.type "frame"), none, (.dict #[ek P (Str.ofString "self") 938 (.ref 395), ek P (Str.ofString "s") 939 (.str (Str.ofString "alli") 934), ek P (Str.ofString "substring_i") 940 (.int (-1) 936), ek P (Str.ofString "result") 941 (.int 9 937)] 4), #[]⟩
noncomputable def x397 (P : Params) : Obj := ⟨(.type "dict"), none, (.dict #[ek P (Str.ofString "s") 957 (.str (Str.ofString "ousli") 948), ek P (Str.ofString "substring_i") 959 (.int (-1) 950), ek P (Str.ofString "result") 961 (.int 11 951)] 3), #[]⟩
noncomputable def x398 (P : Params) : Obj := ⟨(.ref 220), (some 397), .plain, #[]⟩
noncomputable def x399 (P : Params) : Obj := ⟨(.type "frame"), none, (.dict #[ek P (Str.ofString "self") 952 (.ref 398), ek P (Str.ofString "s") 953 (.str (Str.ofString "ousli") 948), ek P (Str.ofString "substring_i") 954 (.int (-1) 950), ek P (Str.ofString "result") 955 (.int 11 951)] 4), #[]⟩
noncomputable def x400 (P : Params) : Obj := ⟨(.type "dict"), none, (.dict #[ek P (Str.ofString "s") 971 (.str (Str.ofString "entli") 962), ek P (Str.ofString "substring_i") 973 (.int (-1) 964), ek P (Str.ofString "result") 975 (.int 5 965)] 3), #[]⟩
noncomputable def x401 (P : Params) : Obj := ⟨(.ref 220), (some 400), .plain, #[]⟩
noncomputable def x402 (P : Params) : Obj := ⟨(.type "frame"), none, (.dict #[ek P (Str.ofString "self") 966 (.ref 401), ek P (Str.ofString "s") 967 (.str (Str.ofString "entli") 962), ek P (Str.ofString "substring_i") 968 (.int (-1) 964), ek P (Str.ofString "result") 969 (.int 5 965)] 4), #[]⟩
noncomputable def x403 (P : Params) : Obj := ⟨(.type "dict"), none, (.dict #[ek P (Str.ofString "s") 985 (.str (Str.ofString "aliti") 976), ek P (Str.ofString "substring_i") 987 (.int (-1) 978), ek P (Str.ofString "result") 989 (.int 9 979)] 3), #[]⟩
noncomputable def x404 (P : Params) : Obj := ⟨(.ref 220), (some 403), .plain, #[]⟩
noncomputable def x405 (P : Params) : Obj := ⟨(.type "frame"), none, (.dict #[ek P (Str.ofString "self") 980 (.ref 404), ek P (Str.ofString "s") 981 (.str (Str.ofString "aliti") 976), ek P (Str.ofString "substring_i") 982 (.int (-1) 978), ek P (Str.ofString "result") 983 (.int 9 979)] 4), #[]⟩
noncomputable def x406 (P : Params) : Obj := ⟨(.type "dict"), none, (.dict #[ek P (Str.ofString "s") 999 (.str (Str.ofString "biliti") 990), ek P (Str.ofString "substring_i") 1001 (.int (-1) 992), ek P (Str.ofString "result") 1003 (.int 13 993)] 3), #[]⟩
noncomputable def x407 (P : Params) : Obj := ⟨(.ref 220), (some 406), .plain, #[]⟩
noncomputable def x408 (P : Params) : Obj := ⟨(.type "frame"), none, (.dict #[ek P (Str.ofString "self") 994 (.ref 407), ek P (Str.ofString "s") 995 (.str (Str.ofString "biliti") 990), ek P (Str.ofString "substring_i") 996 (.int (-1) 992), ek P (Str.ofString "result") 997 (.int 13 993)] 4), #[]⟩
noncomputable def x409 (P : Params) : Obj := ⟨(.type "dict"), none, (.dict #[ek P (Str.ofString "s") 1013 (.str (Str.ofString "iviti") 1004), ek P (Str.ofString "substring_i") 1015 (.int (-1) 1006), ek P (Str.ofString "result") 1017 (.int 12 1007)] 3), #[]⟩
noncomputable def x410 (P : Params) : Obj := ⟨(.ref 220), (some 409), .plain, #[]⟩
noncomputable def x411 (P : Params) : Obj := ⟨(.type "frame"), none, (.dict #[ek P (Str.ofString "self") 1008 (.ref 410), ek P (Str.ofString "s") 1009 (.str (Str.ofString "iviti") 1004), ek P (Str.ofString "substring_i") 1010 (.int (-1) 1006), ek P (Str.ofString "result") 1011 (.int 12 1007)] 4), #[]⟩
noncomputable def x412 (P : Params) : Obj := ⟨(.type "dict"), none, (.dict #[ek P (Str.ofString "s") 1027 (.str (Str.ofString "tional") 1018), ek P (Str.ofString "substring_i") 1029 (.int (-1) 1020), ek P (Str.ofString "result") 1031 (.int 1 1021)] 3), #[]⟩
noncomputable def x413 (P : Params) : Obj := ⟨(.ref 220), (some 412), .plain, #[]⟩
noncomputable def x414 (P : Params) : Obj := ⟨(.type "frame"), none, (.dict #[ek P (Str.ofString "self") 1022 (.ref 413), ek P (Str.ofString "s") 1023 (.str (Str.ofString "tional") 1018), ek P (Str.ofString "substring_i") 1024 (.int (-1) 1020), ek P (Str.ofString "result") 1025 (.int 1 1021)] 4), #[]⟩
noncomputable def x415 (P : Params) : Obj := ⟨(.type "dict"), none, (.dict #[ek P (Str.ofString "s") 1040 (.str (Str.ofString "ational") 1032), ek P (Str.ofString "substring_i") 1042 (.int 10 1033), ek P (Str.ofString "result") 1044 (.int 8 1034)] 3), #[]⟩
noncomputable def x416 (P : Params) : Obj := ⟨(.ref 220), (some 415), .plain, #[]⟩
noncomputable def x417 (P : Params) : Obj := ⟨(.type "frame"), none, (.dict #[ek P (Str.ofString "self") 1035 (.ref 416), ek P (Str.ofString "s") 1036 (.str (Str.ofString "ational") 1032), ek P (Str.ofString "substring_i") 1037 (.int 10 1033), ek P (Str.ofString "result") 1038 (.int 8 1034)] 4), #[]⟩
noncomputable def x418 (P : Params) : Obj := ⟨(.type "dict"), none, (.dict #[ek P (Str.ofString "s") 1054 (.str (Str.ofString "alism") 1045), ek P (Str.ofString "substring_i") 1056 (.int (-1) 1047), ek P (Str.ofString "result") 1058 (.int 9 1048)] 3), #[]⟩
noncomputable def x419 (P : Params) : Obj := ⟨(.ref 220), (some 418), .plain, #[]⟩
noncomputable def x420 (P : Params) : Obj := ⟨(.type "frame"), none, (.dict #[ek P (Str.ofString "self") 1049 (.ref 419), ek P (Str.ofString "s") 1050 (.str (Str.ofString "alism") 1045), ek P (Str.ofString "substring_i") 1051 (.int (-1) 1047), ek P (Str.ofString "result") 1052 (.int 9 1048)] 4), #[]⟩
noncomputable def x421 (P : Params) : Obj := ⟨(.type "dict"), none, (.dict #[ek P (Str.ofString "s") 1068 (.str (Str.ofString "ation") 1059), ek P (Str.ofString "substring_i") 1070 (.int (-1) 1061), ek P (Str.ofString "result") 1072 (.int 8 1062)] 3), #[]⟩
noncomputable def x422 (P : Params) : Obj := ⟨(.ref 220), (some 421), .plain, #[]⟩
noncomputable def x423 (P : Params) : Obj := ⟨(.type "frame"), none, (.dict #[ek P (Str.ofString "self") 1063 (.ref 422), ek P (Str.ofString "s") 1064 (.str (Str.ofString "ation") 1059), ek P (Str.ofString "substring_i") 1065 (.int (-1) 1061), ek P (Str.ofString "result") 1066 (.int 8 1062)] 4), #[]⟩
noncomputable def x424 (P : Params) : Obj := ⟨(.type "dict"), none, (.dict #[ek P (Str.ofString "s") 1081 (.str (Str.ofString "ization") 1073), ek P (Str.ofString "substring_i") 1083 (.int 13 1074), ek P (Str.ofString "result") 1085 (.int 7 1075)] 3), #[]⟩
noncomputable def x425 (P : Params) : Obj := ⟨(.ref 220), (some 424), .plain, #[]⟩
noncomputable def x426 (P : Params) : Obj := ⟨(.type "frame"), none, (.dict #[ek P (Str.ofString "self") 1076 (.ref 425), ek P (Str.ofString "s") 1077 (.str (Str.ofString "ization") 1073), ek P (Str.ofString "substring_i") 1078 (.int 13 1074), ek P (Str.ofString "result") 1079 (.int 7 1075)] 4), #[]⟩
noncomputable def x427 (P : Params) : Obj := ⟨(.type "dict"), none, (.dict #[ek P (Str.ofString "s") 1095 (.str (Str.ofString "izer") 1086), ek P (Str.ofString "substring_i") 1097 (.int (-1) 1088), ek P (Str.ofString "result") 1099 (.int 7 1089)] 3), #[]⟩
noncomputable def x428 (P : Params) : Obj := ⟨(.ref 220), (some 427), .plain, #[]⟩
noncomputable def x429 (P : Params) : Obj := ⟨(.type "frame"), none, (.dict #[ek P (Str.ofString "self") 1090 (.ref 428), ek P (Str.ofString "s") 1091 (.str (Str.ofString "izer") 1086), ek P (Str.ofString "substring_i") 1092 (.int (-1) 1088), ek P (Str.ofString "result") 1093 (.int 7 1089)] 4), #[]⟩
noncomputable def x430 (P : Params) : Obj := ⟨(.type "dict"), none, (.dict #[ek P (Str.ofString "s") 1109 (.str (Str.ofString "ator") 1100), ek P (Str.ofString "substring_i") 1111 (.int (-1) 1102), ek P (Str.ofString "result") 1113 (.int 8 1103)] 3), #[]⟩
noncomputable def x431 (P : Params) : Obj := ⟨(.ref 220), (some 430), .plain, #[]⟩
noncomputable def x432 (P : Params) : Obj := ⟨(.type "frame"), none, (.dict #[ek P (Str.ofString "self") 1104 (.ref 431), ek P (Str.ofString "s") 1105 (.str (Str.ofString "ator") 1100), ek P (Str.ofString "substring_i") 1106 (.int (-1) 1102), ek P (Str.ofString "result") 1107 (.int 8 1103)] 4), #[]⟩
noncomputable def x433 (P : Params) : Obj := ⟨(.type "dict"), none, (.dict #[ek P (Str.ofString "s") 1123 (.str (Str.ofString "iveness") 1114), ek P (Str.ofString "substring_i") 1125 (.int (-1) 1116), ek P (Str.ofString "result") 1127 (.int 12 1117)] 3), #[]⟩
noncomputable def x434 (P : Params) : Obj := ⟨(.ref 220), (some 433), .plain, #[]⟩
noncomputable def x435 (P : Params) : Obj := ⟨(.type "frame"), none, (.dict #[ek P (Str.ofString "self") 1118 (.ref 434), ek P (Str.ofString "s") 1119 (.str (Str.ofString "iveness") 1114), ek P (Str.ofString "substring_i") 1120 (.int (-1) 1116), ek P (Str.ofString "result") 1121 (.int 12 1117)] 4), #[]⟩
noncomputable def x436 (P : Params) : Obj := ⟨(.type "dict"), none, (.dict #[ek P (Str.ofString "s") 1137 (.str (Str.ofString "fulness") 1128), ek P (Str.ofString "substring_i") 1139 (.int (-1) 1130), ek P (Str.ofString "result") 1141 (.int 10 1131)] 3), #[]⟩
noncomputable def x437 (P : Params) : Obj := ⟨(.ref 220), (some 436), .plain, #[]⟩
noncomputable def x438 (P : Params) : Obj := ⟨(.type "frame"), none, (.dict #[ek P (Str.ofString "self") 1132 (.ref 437), ek P (Str.ofString "s") 1133 (.str (Str.ofString "fulness") 1128), ek P (Str.ofString "substring_i") 1134 (.int (-1) 1130), ek P (Str.ofString "result") 1135 (.int 10 1131)] 4), #[]⟩
noncomputable def x439 (P : Params) : Obj := ⟨(.type "dict"), none, (.dict #[ek P (Str.ofString "s") 1151 (.str (Str.ofString "ousness") 1142), ek P (Str.ofString "substring_i") 1153 (.int (-1) 1144), ek P (Str.ofString "result") 1155 (.int 11 1145)] 3), #[]⟩
noncomputable def x440 (P : Params) : Obj := ⟨(.ref 220), (some 439), .plain, #[]⟩
noncomputable def x441 (P : Params) : Obj := ⟨(.type "frame"), none, (.dict #[ek P (Str.ofString "self") 1146 (.ref 440), ek P (Str.ofString "s") 1147 (.str (Str.ofString "ousness") 1142), ek P (Str.ofString "substring_i") 1148 (.int (-1) 1144), ek P (Str.ofString "result") 1149 (.int 11 1145)] 4), #[]⟩
noncomputable def x442 (P : Params) : Obj := ⟨(.type "list"), none, (.seq #[(.ref 383), (.ref 386), (.ref 389), (.ref 392), (.ref 395), (.ref 398), (.ref 401), (.ref 404), (.ref 407), (.ref 410), (.ref 413), (.ref 416), (.ref 419), (.ref 422), (.ref 425), (.ref 428), (.ref 431), (.ref 434), (.ref 437), (.ref 440)] 0), #[]⟩
noncomputable def x443 (P : Params) : Obj := ⟨(.type "tuple"), none, (.seq #[(.str (Str.ofString "tion") 1157), (.str (Str.ofString "ence") 1158), (.str (Str.ofString "ance") 1159), (.str (Str.ofString "able") 1160), (.str (Str.ofString "ent") 1161), (.str (Str.ofString "e") 1162), (.str (Str.ofString "ize") 1163), (.str (Str.ofString "ate") 1164), (.str (Str.ofString "al") 1165), (.str (Str.ofString "ful") 1166), (.str (Str.ofString "ous") 1167), (.str (Str.ofString "ive") 1168), (.str (Str.ofString "ble") 1169)] 0), #[]⟩
noncomputable def HP22 (P : Params) (o1 o2 : SO) : List Obj := [x0 P, x1 P, x2 P, x3_1 P, x4 P, x5 P, x6 P, x7 P, x8 P, x9 P, x10 P, x11 P, x12_2 P, x13 P, x14 P, x15 P, x16 P, x17 P, x18 P, x19 P, x20 P, x21 P, x22 P, x23 P, x24 P, x25 P, x26 P, x27 P, x28 P, x29 P, x30 P, x31 P, x32 P, x33 P, x34 P, x35 P, x36 P, x37 P, x38 P, x39 P, x40 P, x41 P, x42 P, x43 P, x44 P, x45 P, x46 P, x47 P, x48 P, x49 P, x50 P, x51 P, x52 P, x53 P, x54 P, x55 P, x56 P, x57 P, x58 P, x59 P, x60 P, x61 P, x62 P, x63 P, x64 P, x65 P, x66 P, x67 P, x68 P, x69 P, x70 P, x71 P, x72 P, x73 P, x74 P, x75 P, x76 P, x77 P, x78 P, x79 P, x80 P, x81 P, x82 P, x83 P, x84 P, x85 P, x86 P, x87 P, x88 P, x89 P, x90 P, x91 P, x92 P, x93 P, x94 P, x95 P, x96 P, x97 P, x98 P, x99 P, x100 P, x101 P, x102 P, x103 P, x104 P, x105 P, x106 P, x107 P, x108 P, x109 P, x110 P, x111 P, x112 P, x113 P, x114 P, x115 P, x116 P, x117 P, x118 P, x119 P, x120 P, x121 P, x122 P, x123 P, x124 P, x125 P, x126 P, x127 P, x128 P, x129 P, x130 P, x131 P, x132 P, x133 P, x134 P, x135 P, x136 P, x137 P, x138 P, x139 P, x140 P, x141 P, x142 P, x143 P, x144 P, x145 P, x146 P, x147 P, x148 P, x149 P, x150 P, x151 P, x152 P, x153 P, x154 P, x155 P, x156 P, x157 P, x158 P, x159 P, x160 P, x161 P, x162 P, x163 P, x164 P, x165 P, x166 P, x167 P, x168 P, x169 P, x170 P, x171 P, x172 P, x173 P, x174 P, x175 P, x176 P, x177 P, x178 P, x179 P, x180 P, x181 P, x182 P, x183 P, x184 P, x185 P, x186 P, x187 P, x188 P, x189 P, x190 P, x191 P, x192 P, x193 P, x194 P, x195 P, x196 P, x197 P, x198 P, x199 P, x200 P, x201 P, x202 P, x203 P, x204 P, x205 P, x206 P, x207 P, x208 P, x209 P, x210 P, x211 P, x212 P, x213 P, x214 P, x215 P, x216 P, x217 P, x218 P, x219 P, x220 P, x221 P, x222 P, x223 P, x224 P, x225 P, x226 P, x227_4 P, x228 P, x229_1 P, x230 P, x231 P, o1.obj, o2.obj, x234 P, x235 P, x236 P, x237 P, x238 P, x239 P, x240 P, x241 P, x242 P, x243 P, x244 P, x245 P, x246 P, x247 P, x248 P, x249 P, x250 P, x251 P, x252 P, x253 P, x254 P, x255 P, x256 P, x257 P, x258 P, x259 P, x260 P, x261 P, x262 P, x263 P, x264 P, x265 P, x266 P, x267 P, x268 P, x269 P, x270 P, x271 P, x272 P, x273 P, x274 P, x275 P, x276 P, x277 P, x278 P, x279 P, x280 P, x281 P, x282 P, x283 P, x284 P, x285 P, x286 P, x287 P, x288 P, x289 P, x290 P, x291 P, x292 P, x293 P, x294 P, x295 P, x296 P, x297 P, x298 P, x299 P, x300 P, x301 P, x302 P, x303 P, x304 P, x305 P, x306 P, x307 P, x308 P, x309 P, x310 P, x311 P, x312 P, x313 P, x314 P, x315 P, x316 P, x317 P, x318 P, x319 P, x320 P, x321 P, x322 P, x323 P, x324 P, x325 P, x326 P, x327 P, x328 P, x329 P, x330 P, x331 P, x332 P, x333 P, x334 P, x335 P, x336 P, x337 P, x338 P, x339 P, x340 P, x341 P, x342 P, x343 P, x344 P, x345 P, x346 P, x347 P, x348 P, x349 P, x350 P, x351 P, x352 P, x353 P, x354 P, x355 P, x356 P, x357 P, x358 P, x359 P, x360 P, x361 P, x362 P, x363 P, x364 P, x365 P, x366 P, x367 P, x368 P, x369 P, x370 P, x371 P, x372 P, x373 P, x374 P, x375 P, x376 P, x377 P, x378 P, x379 P, x380 P, x381 P, x382 P, x383 P, x384 P, x385 P, x386 P, x387 P, x388 P, x389 P, x390 P, x391 P, x392 P, x393 P, x394 P, x395 P, x396 P, x397 P, x398 P, x399 P, x400 P, x401 P, x402 P, x403 P, x404 P, x405 P, x406 P, x407 P, x408 P, x409 P, x410 P, x411 P, x412 P, x413 P, x414 P, x415 P, x416 P, x417 P, x418 P, x419 P, x420 P, x421 P, x422 P, x423 P, x424 P, x425 P, x426 P, x427 P, x428 P, x429 P, x430 P, x431 P, x432 P, x433 P, x434 P, x435 P, x436 P, x437 P, x438 P, x439 P, x440 P, x441 P, x442 P, x443 P]
abbrev posP22 : Pos := ⟨221, 4, 221, 8⟩
noncomputable def x227_5 (P : Params) : Obj := ⟨(.type "dict"), none, (.dict #[ek P (Str.ofString "__module__") 481 (.str (Str.ofString "snowballstemmer.porter_stemmer") 472), ek P (Str.ofString "__qualname__") 483 (.str (Str.ofString "PorterStemmer") 482), ek P (Str.ofString "__firstlineno__") 485 (.int 175 484), ek P (Str.ofString "g_v") 498 (.ref 232), ek P (Str.ofString "g_v_WXY") 517 (.ref 233), ek P (Str.ofString "I_p2") 519 (.int 0 518), ek P (Str.ofString "I_p1") 521 (.int 0 520), ek P (Str.ofString "r_shortv") 528 (.ref 240), ek P (Str.ofString "r_R1") 535 (.ref 247), ek P (Str.ofString "r_R2") 542 (.ref 254), ek P (Str.ofString "r_Step_1a") 549 (.ref 261), ek P (Str.ofString "r_Step_1b") 556 (.ref 268), ek P (Str.ofString "r_Step_1c") 563 (.ref 275), ek P (Str.ofString "r_Step_2") 570 (.ref 282), ek P (Str.ofString "r_Step_3") 577 (.ref 289), ek P (Str.ofString "r_Step_4") 584 (.ref 296), ek P (Str.ofString "r_Step_5a") 591 (.ref 303), ek P (Str.ofString "r_Step_5b") 598 (.ref 310), ek P (Str.ofString "_stem") 605 (.ref 317), ek P (Str.ofString "a_0") 660 (.ref 330), ek P (Str.ofString "as_0") 664 (.ref 331), ek P (Str.ofString "a_1") 835 (.ref 371), ek P (Str.ofString "a_2") 877 (.ref 381), ek P (Str.ofString "a_3") 1156 (.ref 442), ek P (Str.ofString "as_3") 1170 (.ref 443), ek P (Str.ofString "a_4") 1269 (.ref 465), ek P (Str.ofString "as_4") 1273 (.ref 466)] 27), #[]⟩
noncomputable def x444 (P : Params) : Obj := ⟨(.type "dict"), none, (.dict #[ek P (Str.ofString "s") 1180 (.str (Str.ofString "icate") 1171), ek P (Str.ofString "substring_i") 1182 (.int (-1) 1173), ek P (Str.ofString "result") 1184 (.int 2 1174)] 3), #[]⟩
noncomputable def x445 (P : Params) : Obj := ⟨(.ref 220), (some 444), .plain, #[]⟩
noncomputable def x446 (P : Params) : Obj := ⟨(.type "frame"), none, (.dict #[ek P (Str.ofString "self") 1175 (.ref 445), ek P (Str.ofString "s") 1176 (.str (Str.ofString "icate") 1171), ek P (Str.ofString "substring_i") 1177 (.int (-1) 1173), ek P (Str.ofString "result") 1178 (.int 2 1174)] 4), #[]⟩
noncomputable def x447 (P : Params) : Obj := ⟨(.type "dict"), none, (.dict #[ek P (Str.ofString "s") 1194 (.str (Str.ofString "ative") 1185), ek P (Str.ofString "substring_i") 1196 (.int (-1) 1187), ek P (Str.ofString "result") 1198 (.int 3 1188)] 3), #[]⟩
noncomputable def x448 (P : Params) : Obj := ⟨(.ref 220), (some 447), .plain, #[]⟩
noncomputable def x449 (P : Params) : Obj := ⟨(.type "frame"), none, (.dict #[ek P (Str.ofString "self") 1189 (.ref 448), ek P (Str.ofString "s") 1190 (.str (Str.ofString "ative") 1185), ek P (Str.ofString "substring_i") 1191 (.int (-1) 1187), ek P (Str.ofString "result") 1192 (.int 3 1188)] 4), #[]⟩
noncomputable def x450 (P : Params) : Obj := ⟨(.type "dict"), none, (.dict #[ek P (Str.ofString "s") 1208 (.str (Str.ofString "alize") 1199), ek P (Str.ofString "substring_i") 1210 (.int (-1) 1201), ek P (Str.ofString "result") 1212 (.int 1 1202)] 3), #[]⟩
noncomputable def x451 (P : Params) : Obj := ⟨(.ref 220), (some 450), .plain, #[]⟩
noncomputable def x452 (P : Params) : Obj := ⟨(.type "frame"), none, (.dict #[ek P (Str.ofString "self") 1203 (.ref 451), ek P (Str.ofString "s") 1204 (.str (Str.ofString "alize") 1199), ek P (Str.ofString "substring_i") 1205 (.int (-1) 1201), ek P (Str.ofString "result") 1206 (.int 1 1202)] 4), #[]⟩
noncomputable def x453 (P : Params) : Obj := ⟨(.type "dict"), none, (.dict #[ek P (Str.ofString "s") 1222 (.str (Str.ofString "iciti") 1213), ek P (Str.ofString "substring_i") 1224 (.int (-1) 1215), ek P (Str.ofString "result") 1226 (.int 2 1216)] 3), #[]⟩
noncomputable def x454 (P : Params) : Obj := ⟨(.ref 220), (some 453), .plain, #[]⟩
noncomputable def x455 (P : Params) : Obj := ⟨(.type "frame"), none, (.dict #[ek P (Str.ofString "self") 1217 (.ref 454), ek P (Str.ofString "s") 1218 (.str (Str.ofString "iciti") 1213), ek P (Str.ofString "substring_i") 1219 (.int (-1) 1215), ek P (Str.ofString "result") 1220 (.int 2 1216)] 4), #[]⟩
noncomputable def x456 (P : Params) : Obj := ⟨(.type "dict"), none, (.dict #[ek P (Str.ofString "s") 1236 (.str (Str.ofString "ical") 1227), ek P (Str.ofString "substring_i") 1238 (.int (-1) 1229), ek P (Str.ofString "result") 1240 (.int 2 1230)] 3), #[]⟩
noncomputable def x457 (P : Params) : Obj := ⟨(.ref 220), (some 456), .plain, #[]⟩
noncomputable def x458 (P : Params) : Obj := ⟨(.type "frame"), none, (.dict #[ek P (Str.ofString "self") 1231 (.ref 457), ek P (Str.ofString "s") 1232 (.str (Str.ofString "ical") 1227), ek P (Str.ofString "substring_i") 1233 (.int (-1) 1229), ek P (Str.ofString "result") 1234 (.int 2 1230)] 4), #[]⟩
noncomputable def x459 (P : Params) : Obj := ⟨(.type "dict"), none, (.dict #[ek P (Str.ofString "s") 1250 (.str (Str.ofString "ful") 1241), ek P (Str.ofString "substring_i") 1252 (.int (-1) 1243), ek P (Str.ofString "result") 1254 (.int 3 1244)] 3), #[]⟩
noncomputable def x460 (P : Params) : Obj := ⟨(.ref 220), (some 459), .plain, #[]⟩
noncomputable def x461 (P : Params) : Obj := ⟨(.type "frame"), none, (.dict #[ek P (Str.ofString "self") 1245 (.ref 460), ek P (Str.ofString "s") 1246 (.str (Str.ofString "ful") 1241), ek P (Str.ofString "substring_i") 1247 (.int (-1) 1243), ek P (Str.ofString "result") 1248 (.int 3 1244)] 4), #[]⟩
noncomputable def x462 (P : Params) : Obj := ⟨(.type "dict"), none, (.dict #[ek P (Str.ofString "s") 1264 (.str (Str.ofString "ness") 1255), ek P (Str.ofString "substring_i") 1266 (.int (-1) 1257), ek P (Str.ofString "result") 1268 (.int 3 1258)] 3), #[]⟩
noncomputable def x463 (P : Params) : Obj := ⟨(.ref 220), (some 462), .plain, #[]⟩
noncomputable def x464 (P : Params) : Obj := ⟨(.type "frame"), none, (.dict #[ek P (Str.ofString "self") 1259 (.ref 463), ek P (Str.ofString "s") 1260 (.str (Str.ofString "ness") 1255), ek P (Str.ofString "substring_i") 1261 (.int (-1) 1257), ek P (Str.ofString "result") 1262 (.int 3 1258)] 4), #[]⟩
noncomputable def x465 (P : Params) : Obj := ⟨(.type "list"), none, (.seq #[(.ref 445), (.ref 448), (.ref 451), (.ref 454), (.ref 457), (.ref 460), (.ref 463)] 0), #[]⟩
noncomputable def x466 (P : Params) : Obj := ⟨(.type "tuple"), none, (.seq #[(.str (Str.ofString "al") 1270), (.str (Str.ofString "ic") 1271), (.str (Str.ofString "") 1272)] 0), #[]⟩
noncomputable def HP24 (P : Params) (o1 o2 : SO) : List Obj := [x0 P, x1 P, x2 P, x3_1 P, x4 P, x5 P, x6 P, x7 P, x8 P, x9 P, x10 P, x11 P, x12_2 P, x13 P, x14 P, x15 P, x16 P, x17 P, x18 P, x19 P, x20 P, x21 P, x22 P, x23 P, x24 P, x25 P, x26 P, x27 P, x28 P, x29 P, x30 P, x31 P, x32 P, x33 P, x34 P, x35 P, x36 P, x37 P, x38 P, x39 P, x40 P, x41 P, x42 P, x43 P, x44 P, x45 P, x46 P, x47 P, x48 P, x49 P, x50 P, x51 P, x52 P, x53 P, x54 P, x55 P, x56 P, x57 P, x58 P, x59 P, x60 P, x61 P, x62 P, x63 P, x64 P, x65 P, x66 P, x67 P, x68 P, x69 P, x70 P, x71 P, x72 P, x73 P, x74 P, x75 P, x76 P, x77 P, x78 P, x79 P, x80 P, x81 P, x82 P, x83 P, x84 P, x85 P, x86 P, x87 P, x88 P, x89 P, x90 P, x91 P, x92 P, x93 P, x94 P, x95 P, x96 P, x97 P, x98 P, x99 P, x100 P, x101 P, x102 P, x103 P, x104 P, x105 P, x106 P, x107 P, x108 P, x109 P, x110 P, x111 P, x112 P, x113 P, x114 P, x115 P, x116 P, x117 P, x118 P, x119 P, x120 P, x121 P, x122 P, x123 P, x124 P, x125 P, x126 P, x127 P, x128 P, x129 P, x130 P, x131 P, x132 P, x133 P, x134 P, x135 P, x136 P, x137 P, x138 P, x139 P, x140 P, x141 P, x142 P, x143 P, x144 P, x145 P, x146 P, x147 P, x148 P, x149 P, x150 P, x151 P, x152 P, x153 P, x154 P, x155 P, x156 P, x157 P, x158 P, x159 P, x160 P, x161 P, x162 P, x163 P, x164 P, x165 P, x166 P, x167 P, x168 P, x169 P, x170 P, x171 P, x172 P, x173 P, x174 P, x175 P, x176 P, x177 P, x178 P, x179 P, x180 P, x181 P, x182 P, x183 P, x184 P, x185 P, x186 P, x187 P, x188 P, x189 P, x190 P, x191 P, x192 P, x193 P, x194 P, x195 P, x196 P, x197 P, x198 P, x199 P, x200 P, x201 P, x202 P, x203 P, x204 P, x205 P, x206 P, x207 P, x208 P, x209 P, x210 P, x211 P, x212 P, x213 P, x214 P, x215 P, x216 P, x217 P, x218 P, x219 P, x220 P, x221 P, x222 P, x223 P, x224 P, x225 P, x226 P, x227_5 P, x228 P, x229_1 P, x230 P, x231 P, o1.obj, o2.obj, x234 P, x235 P, x236 P, x237 P, x238 P, x239 P, x240 P, x241 P, x242 P, x243 P, x244 P, x245 P, x246 P, x247 P, x248 P, x249 P, x250 P, x251 P, x252 P, x253 P, x254 P, x255 P, x256 P, x257 P, x258 P, x259 P, x260 P, x261 P, x262 P, x263 P, x264 P, x265 P, x266 P, x267 P, x268 P, x269 P, x270 P, x271 P, x272 P, x273 P, x274 P, x275 P, x276 P, x277 P, x278 P, x279 P, x280 P, x281 P, x282 P, x283 P, x284 P, x285 P, x286 P, x287 P, x288 P, x289 P, x290 P, x291 P, x292 P, x293 P, x294 P, x295 P, x296 P, x297 P, x298 P, x299 P, x300 P, x301 P, x302 P, x303 P, x304 P, x305 P, x306 P, x307 P, x308 P, x309 P, x310 P, x311 P, x312 P, x313 P, x314 P, x315 P, x316 P, x317 P, x318 P, x319 P, x320 P, x321 P, x322 P, x323 P, x324 P, x325 P, x326 P, x327 P, x328 P, x329 P, x330 P, x331 P, x332 P, x333 P, x334 P, x335 P, x336 P, x337 P, x338 P, x339 P, x340 P, x341 P, x342 P, x343 P, x344 P, x345 P, x346 P, x347 P, x348 P, x349 P, x350 P, x351 P, x352 P, x353 P, x354 P, x355 P, x356 P, x357 P, x358 P, x359 P, x360 P, x361 P, x362 P, x363 P, x364 P, x365 P, x366 P, x367 P, x368 P, x369 P, x370 P, x371 P, x372 P, x373 P, x374 P, x375 P, x376 P, x377 P, x378 P, x379 P, x380 P, x381 P, x382 P, x383 P, x384 P, x385 P, x386 P, x387 P, x388 P, x389 P, x390 P, x391 P, x392 P, x393 P, x394 P, x395 P, x396 P, x397 P, x398 P, x399 P, x400 P, x401 P, x402 P, x403 P, x404 P, x405 P, x406 P, x407 P, x408 P, x409 P, x410 P, x411 P, x412 P, x413 P, x414 P, x415 P, x416 P, x417 P, x418 P, x419 P, x420 P, x421 P, x422 P, x423 P, x424 P, x425 P, x426 P, x427 P, x428 P, x429 P, x430 P, x431 P, x432 P, x433 P, x434 P, x435 P, x436 P, x437 P, x438 P, x439 P, x440 P, x441 P, x442 P, x443 P, x444 P, x445 P, x446 P, x447 P, x448 P, x449 P, x450 P, x451 P, x452 P, x453 P, x454 P, x455 P, x456 P, x457 P, x458 P, x459 P, x460 P, x461 P, x462 P, x463 P, x464 P, x465 P, x466 P]
abbrev posP24 : Pos := ⟨223, 4, 223, 8⟩
noncomputable def x227_6 (P : Params) : Obj := ⟨(.type "dict"), none, (.dict #[ek P (Str.ofString "__module__") 481 (.str (Str.ofString "snowballstemmer.porter_stemmer") 472), ek P (Str.ofString "__qualname__") 483 (.str (Str.ofString "PorterStemmer") 482), ek P (Str.ofString "__firstlineno__") 485 (.int 175 484), ek P (Str.ofString "g_v") 498 (.ref 232), ek P (Str.ofString "g_v_WXY") 517 (.ref 233), ek P (Str.ofString "I_p2") 519 (.int 0 518), ek P (Str.ofString "I_p1") 521 (.int 0 520), ek P (Str.ofString "r_shortv") 528 (.ref 240), ek P (Str.ofString "r_R1") 535 (.ref 247), ek P (Str.ofString "r_R2") 542 (.ref 254), ek P (Str.ofString "r_Step_1a") 549 (.ref 261), ek P (Str.ofString "r_Step_1b") 556 (.ref 268), ek P (Str.ofString "r_Step_1c") 563 (.ref 275), ek P (Str.ofString "r_Step_2") 570 (.ref 282), ek P (Str.ofString "r_Step_3") 577 (.ref 289), ek P (Str.ofString "r_Step_4") 584 (.ref 296), ek P (Str.ofString "r_Step_5a") 591 (.ref 303), ek P (Str.ofString "r_Step_5b") 598 (.ref 310), ek P (Str.ofString "_stem") 605 (.ref 317), ek P (Str.ofString "a_0") 660 (.ref 330), ek P (Str.ofString "as_0") 664 (.ref 331), ek P (Str.ofString "a_1") 835 (.ref 371), ek P (Str.ofString "a_2") 877 (.ref 381), ek P (Str.ofString "a_3") 1156 (.ref 442), ek P (Str.ofString "as_3") 1170 (.ref 443), ek P (Str.ofString "a_4") 1269 (.ref 465), ek P (Str.ofString "as_4") 1273 (.ref 466), ek P (Str.ofString "a_5") 1538 (.ref 524)] 28), #[]⟩
noncomputable def x467 (P : Params) : Obj := ⟨(.type "dict"), none, (.dict #[ek P (Str.ofString "s") 1283 (.str (Str.ofString "ic") 1274), ek P (Str.ofString "substring_i") 1285 (.int (-1) 1276), ek P (Str.ofString "result") 1287 (.int 1 1277)] 3), #[]⟩
noncomputable def x468 (P : Params) : Obj := ⟨(.ref 220), (some 467), .plain, #[]⟩
noncomputable def x469 (P : Params) : Obj := ⟨(.type "frame"), none, (.dict #[ek P (Str.ofString "self") 1278 (.ref 468), ek P (Str.ofString "s") 1279 (.str (Str.ofString "ic") 1274), ek P (Str.ofString "substring_i") 1280 (.int (-1) 1276), ek P (Str.ofString "result") 1281 (.int 1 1277)] 4), #[]⟩
noncomputable def x470 (P : Params) : Obj := ⟨(.type "dict"), none, (.dict #[ek P (Str.ofString "s") 1297 (.str (Str.ofString "ance") 1288), ek P (Str.ofString "substring_i") 1299 (.int (-1) 1290), ek P (Str.ofString "result") 1301 (.int 1 1291)] 3), #[]⟩
noncomputable def x471 (P : Params) : Obj := ⟨(.ref 220), (some 470), .plain, #[]⟩
noncomputable def x472 (P : Params) : Obj := ⟨(.type "frame"), none, (.dict #[ek P (Str.ofString "self") 1292 (.ref 471), ek P (Str.ofString "s") 1293 (.str (Str.ofString "ance") 1288), ek P (Str.ofString "substring_i") 1294 (.int (-1) 1290), ek P (Str.ofString "result") 1295 (.int 1 1291)] 4), #[]⟩
noncomputable def x473 (P : Params) : Obj := ⟨(.type "dict"), none, (.dict #[ek P (Str.ofString "s") 1311 (.str (Str.ofString "ence") 1302), ek P (Str.ofString "substring_i") 1313 (.int (-1) 1304), ek P (Str.ofString "result") 1315 (.int 1 1305)] 3), #[]⟩
noncomputable def x474 (P : Params) : Obj := ⟨(.ref 220), (some 473), .plain, #[]⟩
noncomputable def x475 (P : Params) : Obj := ⟨(.type "frame"), none, (.dict #[ek P (Str.ofString "self") 1306 (.ref 474), ek P (Str.ofString "s") 1307 (.str (Str.ofString "ence") 1302), ek P (Str.ofString "substring_i") 1308 (.int (-1) 1304), ek P (Str.ofString "result") 1309 (.int 1 1305)] 4), #[]⟩
noncomputable def x476 (P : Params) : Obj := ⟨(.type "dict"), none, (.dict #[ek P (Str.ofString "s") 1325 (.str (Str.ofString "able") 1316), ek P (Str.ofString "substring_i") 1327 (.int (-1) 1318), ek P (Str.ofString "result") 1329 (.int 1 1319)] 3), #[]⟩
noncomputable def x477 (P : Params) : Obj := ⟨(.ref 220), (some 476), .plain, #[]⟩
noncomputable def x478 (P : Params) : Obj := ⟨(.type "frame"), none, (.dict #[ek P (Str.ofString "self") 1320 (.ref 477), ek P (Str.ofString "s") 1321 (.str (Str.ofString "able") 1316), ek P (Str.ofString "substring_i") 1322 (.int (-1) 1318), ek P (Str.ofString "result") 1323 (.int 1 1319)] 4), #[]⟩
noncomputable def x479 (P : Params) : Obj := ⟨(.type "dict"), none, (.dict #[ek P (Str.ofString "s") 1339 (.str (Str.ofString "ible") 1330), ek P (Str.ofString "substring_i") 1341 (.int (-1) 1332), ek P (Str.ofString "result") 1343 (.int 1 1333)] 3), #[]⟩
noncomputable def x480 (P : Params) : Obj := ⟨(.ref 220), (some 479), .plain, #[]⟩
noncomputable def x481 (P : Params) : Obj := ⟨(.type "frame"), none, (.dict #[ek P (Str.ofString "self") 1334 (.ref 480), ek P (Str.ofString "s") 1335 (.str (Str.ofString "ible") 1330), ek P (Str.ofString "substring_i") 1336 (.int (-1) 1332), ek P (Str.ofString "result") 1337 (.int 1 1333)] 4), #[]⟩
noncomputable def x482 (P : Params) : Obj := ⟨(.type "dict"), none, (.dict #[ek P (Str.ofString "s") 1353 (.str (Str.ofString "ate") 1344), ek P (Str.ofString "substring_i") 1355 (.int (-1) 1346), ek P (Str.ofString "result") 1357 (.int 1 1347)] 3), #[]⟩
noncomputable def x483 (P : Params) : Obj := ⟨(.ref 220), (some 482), .plain, #[]⟩
noncomputable def x484 (P : Params) : Obj := ⟨(.type "frame"), none, (.dict #[ek P (Str.ofString "self") 1348 (.ref 483), ek P (Str.ofString "s") 1349 (.str (Str.ofString "ate") 1344), ek P (Str.ofString "substring_i") 1350 (.int (-1) 1346), ek P (Str.ofString "result") 1351 (.int 1 1347)] 4), #[]⟩
noncomputable def x485 (P : Params) : Obj := ⟨(.type "dict"), none, (.dict #[ek P (Str.ofString "s") 1367 (.str (Str.ofString "ive") 1358), ek P (Str.ofString "substring_i") 1369 (.int (-1) 1360), ek P (Str.ofString "result") 1371 (.int 1 1361)] 3), #[]⟩
noncomputable def x486 (P : Params) : Obj := ⟨(.ref 220), (some 485), .plain, #[]⟩
noncomputable def x487 (P : Params) : Obj := ⟨(.type "frame"), none, (.dict #[ek P (Str.ofString "self") 1362 (.ref 486), ek P (Str.ofString "s") 1363 (.str (Str.ofString "ive") 1358), ek P (Str.ofString "substring_i") 1364 (.int (-1) 1360), ek P (Str.ofString "result") 1365 (.int 1 1361)] 4), #[]⟩
noncomputable def x488 (P : Params) : Obj := ⟨(.type "dict"), none, (.dict #[ek P (Str.ofString "s") 1381 (.str (Str.ofString "ize") 1372), ek P (Str.ofString "substring_i") 1383 (.int (-1) 1374), ek P (Str.ofString "result") 1385 (.int 1 1375)] 3), #[]⟩
noncomputable def x489 (P : Params) : Obj := ⟨(.ref 220), (some 488), .plain, #[]⟩
noncomputable def x490 (P : Params) : Obj := ⟨(.type "frame"), none, (.dict #[ek P (Str.ofString "self") 1376 (.ref 489), ek P (Str.ofString "s") 1377 (.str (Str.ofString "ize") 1372), ek P (Str.ofString "substring_i") 1378 (.int (-1) 1374), ek P (Str.ofString "result") 1379 (.int 1 1375)] 4), #[]⟩
noncomputable def x491 (P : Params) : Obj := ⟨(.type "dict"), none, (.dict #[ek P (Str.ofString "s") 1395 (.str (Str.ofString "iti") 1386), ek P (Str.ofString "substring_i") 1397 (.int (-1) 1388), ek P (Str.ofString "result") 1399 (.int 1 1389)] 3), #[]⟩
noncomputable def x492 (P : Params) : Obj := ⟨(.ref 220), (some 491), .plain, #[]⟩
noncomputable def x493 (P : Params) : Obj := ⟨(.type "frame"), none, (.dict #[ek P (Str.ofString "self") 1390 (.ref 492), ek P (Str.ofString "s") 1391 (.str (Str.ofString "iti") 1386), ek P (Str.ofString "substring_i") 1392 (.int (-1) 1388), ek P (Str.ofString "result") 1393 (.int 1 1389)] 4), #[]⟩
noncomputable def x494 (P : Params) : Obj := ⟨(.type "dict"), none, (.dict #[ek P (Str.ofString "s") 1409 (.str (Str.ofString "al") 1400), ek P (Str.ofString "substring_i") 1411 (.int (-1) 1402), ek P (Str.ofString "result") 1413 (.int 1 1403)] 3), #[]⟩
noncomputable def x495 (P : Params) : Obj := ⟨(.ref 220), (some 494), .plain, #[]⟩
noncomputable def x496 (P : Params) : Obj := ⟨(.type "frame"), none, (.dict #[ek P (Str.ofString "self") 1404 (.ref 495), ek P (Str.ofString "s") 1405 (.str (Str.ofString "al") 1400), ek P (Str.ofString "substring_i") 1406 (.int (-1) 1402), ek P (Str.ofString "result") 1407 (.int 1 1403)] 4), #[]⟩
noncomputable def x497 (P : Params) : Obj := ⟨(.type "dict"), none, (.dict #[ek P (Str.ofString "s") 1423 (.str (Str.ofString "ism") 1414), ek P (Str.ofString "substring_i") 1425 (.int (-1) 1416), ek P (Str.ofString "result") 1427 (.int 1 1417)] 3), #[]⟩
noncomputable def x498 (P : Params) : Obj := ⟨(.ref 220), (some 497), .plain, #[]⟩
noncomputable def x499 (P : Params) : Obj := ⟨(.type "frame"), none, (.dict #[ek P (Str.ofString "self") 1418 (.ref 498), ek P (Str.ofString "s") 1419 (.str (Str.ofString "ism") 1414), ek P (Str.ofString "substring_i") 1420 (.int (-1) 1416), ek P (Str.ofString "result") 1421 (.int 1 1417)] 4), #[]⟩
noncomputable def x500 (P : Params) : Obj := ⟨(.type "dict"), none, (.dict #[ek P (Str.ofString "s") 1437 (.str (Str.ofString "ion") 1428), ek P (Str.ofString "substring_i") 1439 (.int (-1) 1430), ek P (Str.ofString "result") 1441 (.int 2 1431)] 3), #[]⟩
noncomputable def x501 (P : Params) : Obj := ⟨(.ref 220), (some 500), .plain, #[]⟩
noncomputable def x502 (P : Params) : Obj := ⟨(.type "frame"), none, (.dict #[ek P (Str.ofString "self") 1432 (.ref 501), ek P (Str.ofString "s") 1433 (.str (Str.ofString "ion") 1428), ek P (Str.ofString "substring_i") 1434 (.int (-1) 1430), ek P (Str.ofString "result") 1435 (.int 2 1431)] 4), #[]⟩
noncomputable def x503 (P : Params) : Obj := ⟨(.type "dict"), none, (.dict #[ek P (Str.ofString "s") 1451 (.str (Str.ofString "er") 1442), ek P (Str.ofString "substring_i") 1453 (.int (-1) 1444), ek P (Str.ofString "result") 1455 (.int 1 1445)] 3), #[]⟩
noncomputable def x504 (P : Params) : Obj := ⟨(.ref 220), (some 503), .plain, #[]⟩
noncomputable def x505 (P : Params) : Obj := ⟨(.type "frame"), none, (.dict #[ek P (Str.ofString "self") 1446 (.ref 504), ek P (Str.ofString "s") 1447 (.str (Str.ofString "er") 1442), ek P (Str.ofString "substring_i") 1448 (.int (-1) 1444), ek P (Str.ofString "result") 1449 (.int 1 1445)] 4), #[]⟩
noncomputable def x506 (P : Params) : Obj := ⟨(.type "dict"), none, (.dict #[ek P (Str.ofString "s") 1465 (.str (Str.ofString "ous") 1456), ek P (Str.ofString "substring_i") 1467 (.int (-1) 1458), ek P (Str.ofString "result") 1469 (.int 1 1459)] 3), #[]⟩
noncomputable def x507 (P : Params) : Obj := ⟨(.ref 220), (some 506), .plain, #[]⟩
noncomputable def x508 (P : Params) : Obj := ⟨(.type "frame"), none, (.dict #[ek P (Str.ofString "self") 1460 (.ref 507), ek P (Str.ofString "s") 1461 (.str (Str.ofString "ous") 1456), ek P (Str.ofString "substring_i") 1462 (.int (-1) 1458), ek P (Str.ofString "result") 1463 (.int 1 1459)] 4), #[]⟩
noncomputable def x509 (P : Params) : Obj := ⟨(.type "dict"), none, (.dict #[ek P (Str.ofString "s") 1479 (.str (Str.ofString "ant") 1470), ek P (Str.ofString "substring_i") 1481 (.int (-1) 1472), ek P (Str.ofString "result") 1483 (.int 1 1473)] 3), #[]⟩
noncomputable def x510 (P : Params) : Obj := ⟨(.ref 220), (some 509), .plain, #[]⟩
noncomputable def x511 (P : Params) : Obj := ⟨(.type "frame"), none, (.dict #[ek P (Str.ofString "self") 1474 (.ref 510), ek P (Str.ofString "s") 1475 (.str (Str.ofString "ant") 1470), ek P (Str.ofString "substring_i") 1476 (.int (-1) 1472), ek P (Str.ofString "result") 1477 (.int 1 1473)] 4), #[]⟩
noncomputable def x512 (P : Params) : Obj := ⟨(.type "dict"), none, (.dict #[ek P (Str.ofString "s") 1493 (.str (Str.ofString "ent") 1484), ek P (Str.ofString "substring_i") 1495 (.int (-1) 1486), ek P (Str.ofString "result") 1497 (.int 1 1487)] 3), #[]⟩
noncomputable def x513 (P : Params) : Obj := ⟨(.ref 220), (some 512), .plain, #[]⟩
noncomputable def x514 (P : Params) : Obj := ⟨(.type "frame"), none, (.dict #[ek P (Str.ofString "self") 1488 (.ref 513), ek P (Str.ofString "s") 1489 (.str (Str.ofString "ent") 1484), ek P (Str.ofString "substring_i") 1490 (.int (-1) 1486), ek P (Str.ofString "result") 1491 (.int 1 1487)] 4), #[]⟩
noncomputable def x515 (P : Params) : Obj := ⟨(.type "dict"), none, (.dict #[ek P (Str.ofString "s") 1506 (.str (Str.ofString "ment") 1498), ek P (Str.ofString "substring_i") 1508 (.int 15 1499), ek P (Str.ofString "result") 1510 (.int 1 1500)] 3), #[]⟩
noncomputable def x516 (P : Params) : Obj := ⟨(.ref 220), (some 515), .plain, #[]⟩
noncomputable def x517 (P : Params) : Obj := ⟨(.type "frame"), none, (.dict #[ek P (Str.ofString "self") 1501 (.ref 516), ek P (Str.ofString "s") 1502 (.str (Str.ofString "ment") 1498), ek P (Str.ofString "substring_i") 1503 (.int 15 1499), ek P (Str.ofString "result") 1504 (.int 1 1500)] 4), #[]⟩
noncomputable def x518 (P : Params) : Obj := ⟨(.type "dict"), none, (.dict #[ek P (Str.ofString "s") 1519 (.str (Str.ofString "ement") 1511), ek P (Str.ofString "substring_i") 1521 (.int 16 1512), ek P (Str.ofString "result") 1523 (.int 1 1513)] 3), #[]⟩
noncomputable def x519 (P : Params) : Obj := ⟨(.ref 220), (some 518), .plain, #[]⟩
noncomputable def x520 (P : Params) : Obj := ⟨(.type "frame"), none, (.dict #[ek P (Str.ofString "self") 1514 (.ref 519), ek P (Str.ofString "s") 1515 (.str (Str.ofString "ement") 1511), ek P (Str.ofString "substring_i") 1516 (.int 16 1512), ek P (Str.ofString "result") 1517 (.int 1 1513)] 4), #[]⟩
noncomputable def x521 (P : Params) : Obj := ⟨(.type "dict"), none, (.dict #[ek P (Str.ofString "s") 1533 (.str (Str.ofString "ou") 1524), ek P (Str.ofString "substring_i") 1535 (.int (-1) 1526), ek P (Str.ofString "result") 1537 (.int 1 1527)] 3), #[]⟩
noncomputable def x522 (P : Params) : Obj := ⟨(.ref 220), (some 521), .plain, #[]⟩
noncomputable def x523 (P : Params) : Obj := ⟨(.type "frame"), none, (.dict #[ek P (Str.ofString "self") 1528 (.ref 522), ek P (Str.ofString "s") 1529 (.str (Str.ofString "ou") 1524), ek P (Str.ofString "substring_i") 1530 (.int (-1) 1526), ek P (Str.ofString "result") 1531 (.int 1 1527)] 4), #[]⟩
noncomputable def x524 (P : Params) : Obj := ⟨(.type "list"), none, (.seq #[(.ref 468), (.ref 471), (.ref 474), (.ref 477), (.ref 480), (.ref 483), (.ref 486), (.ref 489), (.ref 492), (.ref 495), (.ref 498), (.ref 501), (.ref 504), (.ref 507), (.ref 510), (.ref 513), (.ref 516), (.ref 519), (.ref 522)] 0), #[]⟩
noncomputable def HP25 (P : Params) (o1 o2 : SO) : List Obj := [x0 P, x1 P, x2 P, x3_1 P, x4 P, x5 P, x6 P, x7 P, x8 P, x9 P, x10 P, x11 P, x12_2 P, x13 P, x14 P, x15 P, x16 P, x17 P, x18 P, x19 P, x20 P, x21 P, x22 P, x23 P, x24 P, x25 P, x26 P, x27 P, x28 P, x29 P, x30 P, x31 P, x32 P, x33 P, x34 P, x35 P, x36 P, x37 P, x38 P, x39 P, x40 P, x41 P, x42 P, x43 P, x44 P, x45 P, x46 P, x47 P, x48 P, x49 P, x50 P, x51 P, x52 P, x53 P, x54 P, x55 P, x56 P, x57 P, x58 P, x59 P, x60 P, x61 P, x62 P, x63 P, x64 P, x65 P, x66 P, x67 P, x68 P, x69 P, x70 P, x71 P, x72 P, x73 P, x74 P, x75 P, x76 P, x77 P, x78 P, x79 P, x80 P, x81 P, x82 P, x83 P, x84 P, x85 P, x86 P, x87 P, x88 P, x89 P, x90 P, x91 P, x92 P, x93 P, x94 P, x95 P, x96 P, x97 P, x98 P, x99 P, x100 P, x101 P, x102 P, x103 P, x104 P, x105 P, x106 P, x107 P, x108 P, x109 P, x110 P, x111 P, x112 P, x113 P, x114 P, x115 P, x116 P, x117 P, x118 P, x119 P, x120 P, x121 P, x122 P, x123 P, x124 P, x125 P, x126 P, x127 P, x128 P, x129 P, x130 P, x131 P, x132 P, x133 P, x134 P, x135 P, x136 P, x137 P, x138 P, x139 P, x140 P, x141 P, x142 P, x143 P, x144 P, x145 P, x146 P, x147 P, x148 P, x149 P, x150 P, x151 P, x152 P, x153 P, x154 P, x155 P, x156 P, x157 P, x158 P, x159 P, x160 P, x161 P, x162 P, x163 P, x164 P, x165 P, x166 P, x167 P, x168 P, x169 P, x170 P, x171 P, x172 P, x173 P, x174 P, x175 P, x176 P, x177 P, x178 P, x179 P, x180 P, x181 P, x182 P, x183 P, x184 P, x185 P, x186 P, x187 P, x188 P, x189 P, x190 P, x191 P, x192 P, x193 P, x194 P, x195 P, x196 P, x197 P, x198 P, x199 P, x200 P, x201 P, x202 P, x203 P, x204 P, x205 P, x206 P, x207 P, x208 P, x209 P, x210 P, x211 P, x212 P, x213 P, x214 P, x215 P, x216 P, x217 P, x218 P, x219 P, x220 P, x221 P, x222 P, x223 P, x224 P, x225 P, x226 P, x227_6 P, x228 P, x229_1 P, x230 P, x231 P, o1.obj, o2.obj, x234 P, x235 P, x236 P, x237 P, x238 P, x239 P, x240 P, x241 P, x242 P, x243 P, x244 P, x245 P, x246 P, x247 P, x248 P, x249 P, x250 P, x251 P, x252 P, x253 P, x254 P, x255 P, x256 P, x257 P, x258 P, x259 P, x260 P, x261 P, x262 P, x263 P, x264 P, x265 P, x266 P, x267 P, x268 P, x269 P, x270 P, x271 P, x272 P, x273 P, x274 P, x275 P, x276 P, x277 P, x278 P, x279 P, x280 P, x281 P, x282 P, x283 P, x284 P, x285 P, x286 P, x287 P, x288 P, x289 P, x290 P, x291 P, x292 P, x293 P, x294 P, x295 P, x296 P, x297 P, x298 P, x299 P, x300 P, x301 P, x302 P, x303 P, x304 P, x305 P, x306 P, x307 P, x308 P, x309 P, x310 P, x311 P, x312 P, x313 P, x314 P, x315 P, x316 P, x317 P, x318 P, x319 P, x320 P, x321 P, x322 P, x323 P, x324 P, x325 P, x326 P, x327 P, x328 P, x329 P, x330 P, x331 P, x332 P, x333 P, x334 P, x335 P, x336 P, x337 P, x338 P, x339 P, x340 P, x341 P, x342 P, x343 P, x344 P, x345 P, x346 P, x347 P, x348 P, x349 P, x350 P, x351 P, x352 P, x353 P, x354 P, x355 P, x356 P, x357 P, x358 P, x359 P, x360 P, x361 P, x362 P, x363 P, x364 P, x365 P, x366 P, x367 P, x368 P, x369 P, x370 P, x371 P, x372 P, x373 P, x374 P, x375 P, x376 P, x377 P, x378 P, x379 P, x380 P, x381 P, x382 P, x383 P, x384 P, x385 P, x386 P, x387 P, x388 P, x389 P, x390 P, x391 P, x392 P, x393 P, x394 P, x395 P, x396 P, x397 P, x398 P, x399 P, x400 P, x401 P, x402 P, x403 P, x404 P, x405 P, x406 P, x407 P, x408 P, x409 P, x410 P, x411 P, x412 P, x413 P, x414 P, x415 P, x416 P, x417 P, x418 P, x419 P, x420 P, x421 P, x422 P, x423 P, x424 P, x425 P, x426 P, x427 P, x428 P, x429 P, x430 P, x431 P, x432 P, x433 P, x434 P, x435 P, x436 P, x437 P, x438 P, x439 P, x440 P, x441 P, x442 P, x443 P, x444 P, x445 P, x446 P, x447 P, x448 P, x449 P, x450 P, x451 P, x452 P, x453 P, x454 P, x455 P, x456 P, x457 P, x458 P, x459 P, x460 P, x461 P, x462 P, x463 P, x464 P, x465 P, x466 P, x467 P, x468 P, x469 P, x470 P, x471 P, x472 P, x473 P, x474 P, x475 P, x476 P, x477 P, x478 P, x479 P, x480 P, x481 P, x482 P, x483 P, x484 P, x485 P, x486 P, x487 P, x488 P, x489 P, x490 P, x491 P, x492 P, x493 P, x494 P, x495 P, x496 P, x497 P, x498 P, x499 P, x500 P, x501 P, x502 P, x503 P, x504 P, x505 P, x506 P, x507 P, x508 P, x509 P, x510 P, x511 P, x512 P, x513 P, x514 P, x515 P, x516 P, x517 P, x518 P, x519 P, x520 P, x521 P, x522 P, x523 P, x524 P]
abbrev posP25 : Pos := ⟨224, 4, 224, 7⟩
noncomputable def x3_2 (P : Params) : Obj := ⟨(.type "dict"), none, (.dict #[ek P (Str.ofString "__name__") 165 (.str (Str.ofString "snowballstemmer.irish_stemmer") 1543), ek P (Str.ofString "__doc__") 166 .none, ek P (Str.ofString "__package__") 167 .none, ek P (Str.ofString "__loader__") 168 (.builtin "__main__.__loader__#opaque"), ek P (Str.ofString "__spec__") 169 .none, ek P (Str.ofString "__annotations__") 170 (.ref 6), ek P (Str.ofString "__builtins__") 171 (.ref 4), ek P (Str.ofString "__file__") 173 (.str (Str.ofString "/claim/cut.py") 172), ek P (Str.ofString "__cached__") 174 .none, ek P (Str.ofString "_wall") 193 (.ref 21), ek P (Str.ofString "BaseStemmer") 436 (.ref 199), ek P (Str.ofString "Among") 471 (.ref 220), ek P (Str.ofString "PorterStemmer") 1542 (.ref 527)] 13), #[]⟩
noncomputable def x199_1 (P : Params) : Obj := ⟨(.type "type"), none, (.cls { name := (Str.ofString "BaseStemmer"), bases := [(.type "object")], mro := [(.ref 199), (.type "object")], ns := 198, qualname := (Str.ofString "BaseStemmer"), hasDict := true, slotNames := [], subclasses := [(.ref 527)], abstract := false, collection := none, hasDel := false }), #[none, none, (some (.str (Str.ofString "BaseStemmer") 196)), (some (.str (Str.ofString "BaseStemmer") 204)), (some (.builtin "object.__new__")), (some (.bool true))]⟩
noncomputable def x227_7 (P : Params) : Obj := ⟨(.type "dict"), none, (.dict #[ek P (Str.ofString "__module__") 481 (.str (Str.ofString "snowballstemmer.porter_stemmer") 472), ek P (Str.ofString "__qualname__") 483 (.str (Str.ofString "PorterStemmer") 482), ek P (Str.ofString "__firstlineno__") 485 (.int 175 484), ek P (Str.ofString "g_v") 498 (.ref 232), ek P (Str.ofString "g_v_WXY") 517 (.ref 233), ek P (Str.ofString "I_p2") 519 (.int 0 518), ek P (Str.ofString "I_p1") 521 (.int 0 520), ek P (Str.ofString "r_shortv") 528 (.ref 240), ek P (Str.ofString "r_R1") 535 (.ref 247), ek P (Str.ofString "r_R2") 542 (.ref 254), ek P (Str.ofString "r_Step_1a") 549 (.ref 261), ek P (Str.ofString "r_Step_1b") 556 (.ref 268), ek P (Str.ofString "r_Step_1c") 563 (.ref 275), ek P (Str.ofString "r_Step_2") 570 (.ref 282), ek P (Str.ofString "r_Step_3") 577 (.ref 289), ek P (Str.ofString "r_Step_4") 584 (.ref 296), ek P (Str.ofString "r_Step_5a") 591 (.ref 303), ek P (Str.ofString "r_Step_5b") 598 (.ref 310), ek P (Str.ofString "_stem") 605 (.ref 317), ek P (Str.ofString "a_0") 660 (.ref 330), ek P (Str.ofString "as_0") 664 (.ref 331), ek P (Str.ofString "a_1") 835 (.ref 371), ek P (Str.ofString "a_2") 877 (.ref 381), ek P (Str.ofString "a_3") 1156 (.ref 442), ek P (Str.ofString "as_3") 1170 (.ref 443), ek P (Str.ofString "a_4") 1269 (.ref 465), ek P (Str.ofString "as_4") 1273 (.ref 466), ek P (Str.ofString "a_5") 1538 (.ref 524), ek P (Str.ofString "__static_attributes__") 1539 (.ref 525)] 29), #[]⟩
noncomputable def x525 (P : Params) : Obj := ⟨(.type "tuple"), none, (.seq #[] 0), #[]⟩
noncomputable def x526 (P : Params) : Obj := ⟨(.type "dict"), none, (.dict #[ek P (Str.ofString "__module__") 481 (.str (Str.ofString "snowballstemmer.porter_stemmer") 472), ek P (Str.ofString "__firstlineno__") 485 (.int 175 484), ek P (Str.ofString "g_v") 498 (.ref 232), ek P (Str.ofString "g_v_WXY") 517 (.ref 233), ek P (Str.ofString "I_p2") 519 (.int 0 518), ek P (Str.ofString "I_p1") 521 (.int 0 520), ek P (Str.ofString "r_shortv") 528 (.ref 240), ek P (Str.ofString "r_R1") 535 (.ref 247), ek P (Str.ofString "r_R2") 542 (.ref 254), ek P (Str.ofString "r_Step_1a") 549 (.ref 261), ek P (Str.ofString "r_Step_1b") 556 (.ref 268), ek P (Str.ofString "r_Step_1c") 563 (.ref 275), ek P (Str.ofString "r_Step_2") 570 (.ref 282), ek P (Str.ofString "r_Step_3") 577 (.ref 289), ek P (Str.ofString "r_Step_4") 584 (.ref 296), ek P (Str.ofString "r_Step_5a") 591 (.ref 303), ek P (Str.ofString "r_Step_5b") 598 (.ref 310), ek P (Str.ofString "_stem") 605 (.ref 317), ek P (Str.ofString "a_0") 660 (.ref 330), ek P (Str.ofString "as_0") 664 (.ref 331), ek P (Str.ofString "a_1") 835 (.ref 371), ek P (Str.ofString "a_2") 877 (.ref 381), ek P (Str.ofString "a_3") 1156 (.ref 442), ek P (Str.ofString "as_3") 1170 (.ref 443), ek P (Str.ofString "a_4") 1269 (.ref 465), ek P (Str.ofString "as_4") 1273 (.ref 466), ek P (Str.ofString "a_5") 1538 (.ref 524), ek P (Str.ofString "__static_attributes__") 1539 (.ref 525), ek P (Str.ofString "__doc__") 1540 .none] 2), #[]⟩
noncomputable def x527 (P : Params) : Obj := ⟨(.type "type"), none, (.cls { name := (Str.ofString "PorterStemmer"), bases := [(.ref 199)], mro := [(.ref 527), (.ref 199), (.type "object")], ns := 526, qualname := (Str.ofString "PorterStemmer"), hasDict := true, slotNames := [], subclasses := [], abstract := false, collection := none, hasDel := false }), #[(some (.ref 225)), none, (some (.str (Str.ofString "PorterStemmer") 474)), (some (.str (Str.ofString "PorterStemmer") 482)), (some (.builtin "object.__new__")), (some (.bool true))]⟩
noncomputable def x528 (P : Params) : Obj := ⟨(.type "super"), none, (.fields #[(.ref 527), (.ref 527), (.ref 527)]), #[]⟩
noncomputable def x529 (P : Params) : Obj := ⟨(.type "builtin_function_or_method"), none, (.fields #[(.builtin "object.__init_subclass__"), (.ref 527)]), #[]⟩
noncomputable def HC1 (P : Params) (o1 o2 : SO) : List Obj := [x0 P, x1 P, x2 P, x3_2 P, x4 P, x5 P, x6 P, x7 P, x8 P, x9 P, x10 P, x11 P, x12_2 P, x13 P, x14 P, x15 P, x16 P, x17 P, x18 P, x19 P, x20 P, x21 P, x22 P, x23 P, x24 P, x25 P, x26 P, x27 P, x28 P, x29 P, x30 P, x31 P, x32 P, x33 P, x34 P, x35 P, x36 P, x37 P, x38 P, x39 P, x40 P, x41 P, x42 P, x43 P, x44 P, x45 P, x46 P, x47 P, x48 P, x49 P, x50 P, x51 P, x52 P, x53 P, x54 P, x55 P, x56 P, x57 P, x58 P, x59 P, x60 P, x61 P, x62 P, x63 P, x64 P, x65 P, x66 P, x67 P, x68 P, x69 P, x70 P, x71 P, x72 P, x73 P, x74 P, x75 P, x76 P, x77 P, x78 P, x79 P, x80 P, x81 P, x82 P, x83 P, x84 P, x85 P, x86 P, x87 P, x88 P, x89 P, x90 P, x91 P, x92 P, x93 P, x94 P, x95 P, x96 P, x97 P, x98 P, x99 P, x100 P, x101 P, x102 P, x103 P, x104 P, x105 P, x106 P, x107 P, x108 P, x109 P, x110 P, x111 P, x112 P, x113 P, x114 P, x115 P, x116 P, x117 P, x118 P, x119 P, x120 P, x121 P, x122 P, x123 P, x124 P, x125 P, x126 P, x127 P, x128 P, x129 P, x130 P, x131 P, x132 P, x133 P, x134 P, x135 P, x136 P, x137 P, x138 P, x139 P, x140 P, x141 P, x142 P, x143 P, x144 P, x145 P, x146 P, x147 P, x148 P, x149 P, x150 P, x151 P, x152 P, x153 P, x154 P, x155 P, x156 P, x157 P, x158 P, x159 P, x160 P, x161 P, x162 P, x163 P, x164 P, x165 P, x166 P, x167 P, x168 P, x169 P, x170 P, x171 P, x172 P, x173 P, x174 P, x175 P, x176 P, x177 P, x178 P, x179 P, x180 P, x181 P, x182 P, x183 P, x184 P, x185 P, x186 P, x187 P, x188 P, x189 P, x190 P, x191 P, x192 P, x193 P, x194 P, x195 P, x196 P, x197 P, x198 P, x199_1 P, x200 P, x201 P, x202 P, x203 P, x204 P, x205 P, x206 P, x207 P, x208 P, x209 P, x210 P, x211 P, x212 P, x213 P, x214 P, x215 P, x216 P, x217 P, x218 P, x219 P, x220 P, x221 P, x222 P, x223 P, x224 P, x225 P, x226 P, x227_7 P, x228 P, x229_1 P, x230 P, x231 P, o1.obj, o2.obj, x234 P, x235 P, x236 P, x237 P, x238 P, x239 P, x240 P, x241 P, x242 P, x243 P, x244 P, x245 P, x246 P, x247 P, x248 P, x249 P, x250 P, x251 P, x252 P, x253 P, x254 P, x255 P, x256 P, x257 P, x258 P, x259 P, x260 P, x261 P, x262 P, x263 P, x264 P, x265 P, x266 P, x267 P, x268 P, x269 P, x270 P, x271 P, x272 P, x273 P, x274 P, x275 P, x276 P, x277 P, x278 P, x279 P, x280 P, x281 P, x282 P, x283 P, x284 P, x285 P, x286 P, x287 P, x288 P, x289 P, x290 P, x291 P, x292 P, x293 P, x294 P, x295 P, x296 P, x297 P, x298 P, x299 P, x300 P, x301 P, x302 P, x303 P, x304 P, x305 P, x306 P, x307 P, x308 P, x309 P, x310 P, x311 P, x312 P, x313 P, x314 P, x315 P, x316 P, x317 P, x318 P, x319 P, x320 P, x321 P, x322 P, x323 P, x324 P, x325 P, x326 P, x327 P, x328 P, x329 P, x330 P, x331 P, x332 P, x333 P, x334 P, x335 P, x336 P, x337 P, x338 P, x339 P, x340 P, x341 P, x342 P, x343 P, x344 P, x345 P, x346 P, x347 P, x348 P, x349 P, x350 P, x351 P, x352 P, x353 P, x354 P, x355 P, x356 P, x357 P, x358 P, x359 P, x360 P, x361 P, x362 P, x363 P, x364 P, x365 P, x366 P, x367 P, x368 P, x369 P, x370 P, x371 P, x372 P, x373 P, x374 P, x375 P, x376 P, x377 P, x378 P, x379 P, x380 P, x381 P, x382 P, x383 P, x384 P, x385 P, x386 P, x387 P, x388 P, x389 P, x390 P, x391 P, x392 P, x393 P, x394 P, x395 P, x396 P, x397 P, x398 P, x399 P, x400 P, x401 P, x402 P, x403 P, x404 P, x405 P, x406 P, x407 P, x408 P, x409 P, x410 P, x411 P, x412 P, x413 P, x414 P, x415 P, x416 P, x417 P, x418 P, x419 P, x420 P, x421 P, x422 P, x423 P, x424 P, x425 P, x426 P, x427 P, x428 P, x429 P, x430 P, x431 P, x432 P, x433 P, x434 P, x435 P, x436 P, x437 P, x438 P, x439 P, x440 P, x441 P, x442 P, x443 P, x444 P, x445 P, x446 P, x447 P, x448 P, x449 P, x450 P, x451 P, x452 P, x453 P, x454 P, x455 P, x456 P, x457 P, x458 P, x459 P, x460 P, x461 P, x462 P, x463 P, x464 P, x465 P, x466 P, x467 P, x468 P, x469 P, x470 P, x471 P, x472 P, x473 P, x474 P, x475 P, x476 P, x477 P, x478 P, x479 P, x480 P, x481 P, x482 P, x483 P, x484 P, x485 P, x486 P, x487 P, x488 P, x489 P, x490 P, x491 P, x492 P, x493 P, x494 P, x495 P, x496 P, x497 P, x498 P, x499 P, x500 P, x501 P, x502 P, x503 P, x504 P, x505 P, x506 P, x507 P, x508 P, x509 P, x510 P, x511 P, x512 P, x513 P, x514 P, x515 P, x516 P, x517 P, x518 P, x519 P, x520 P, x521 P, x522 P, x523 P, x524 P, x525 P, x526 P, x527 P, x528 P, x529 P]
abbrev posC1 : Pos := ⟨225, 0, 225, 8⟩
noncomputable def x12_3 (P : Params) : Obj := ⟨.none, none, (.fields #[(.int 1 0), (.int 0 0), (.ref 20), (.int 5 0), (.int 0 0), (.ref 27), (.int 168 0), (.int 0 0), (.ref 209), (.int 175 0), (.int 0 0), (.ref 230), (.int 226 0), (.int 0 0), (.ref 535)]), #[]⟩
noncomputable def x530 (P : Params) : Obj := ⟨(.type "tuple"), none, (.seq #[(.ref 199)] 0), #[]⟩
noncomputable def x531 (P : Params) : Obj := ⟨(.type "builtin_function_or_method"), none, (.fields #[(.builtin "type.__prepare__"), (.type "type")]), #[]⟩
noncomputable def x532 (P : Params) : Obj := ⟨(.type "dict"), none, (.dict #[ek P (Str.ofString "__module__") 1552 (.str (Str.ofString "snowballstemmer.irish_stemmer") 1543), ek P (Str.ofString "__qualname__") 1554 (.str (Str.ofString "IrishStemmer") 1553), ek P (Str.ofString "__firstlineno__") 1556 (.int 226 1555)] 3), #[]⟩
noncomputable def x533 (P : Params) : Obj := ⟨(.type "tuple"), none, (.seq #[] 0), #[]⟩
noncomputable def x534 (P : Params) : Obj := ⟨.none, none, (.fields #[]), #[]⟩
noncomputable def x535 (P : Params) : Obj := ⟨(.type "code"), none, (.fields #[(.str (Str.ofString "IrishStemmer") 1547), (.str (Str.ofString "IrishStemmer") 1548), (.str (Str.ofString "/claim/cut.py") 1549), (.int 226 0), (.int 0 0), (.int 0 0), (.int 0 0), (.int 0 0), (.ref 533), (.bool false), (.int 181 0), (.ref 534), .none, .none, .none, .none, (.int 1550 0), (.int 226 0), (.str (Str.ofString "/claim/cut.py") 1551)]), #[]⟩
noncomputable def x536 (P : Params) : Obj := ⟨(.type "frame"), none, .plain, #[(some (.ref 535)), (some (.ref 3)), (some (.ref 532)), none, (some (.str (Str.ofString "snowballstemmer.irish_stemmer") 1543)), none, (some (.ref 0))]⟩
noncomputable def HI0 (P : Params) (o1 o2 : SO) : List Obj := [x0 P, x1 P, x2 P, x3_2 P, x4 P, x5 P, x6 P, x7 P, x8 P, x9 P, x10 P, x11 P, x12_3 P, x13 P, x14 P, x15 P, x16 P, x17 P, x18 P, x19 P, x20 P, x21 P, x22 P, x23 P, x24 P, x25 P, x26 P, x27 P, x28 P, x29 P, x30 P, x31 P, x32 P, x33 P, x34 P, x35 P, x36 P, x37 P, x38 P, x39 P, x40 P, x41 P, x42 P, x43 P, x44 P, x45 P, x46 P, x47 P, x48 P, x49 P, x50 P, x51 P, x52 P, x53 P, x54 P, x55 P, x56 P, x57 P, x58 P, x59 P, x60 P, x61 P, x62 P, x63 P, x64 P, x65 P, x66 P, x67 P, x68 P, x69 P, x70 P, x71 P, x72 P, x73 P, x74 P, x75 P, x76 P, x77 P, x78 P, x79 P, x80 P, x81 P, x82 P, x83 P, x84 P, x85 P, x86 P, x87 P, x88 P, x89 P, x90 P, x91 P, x92 P, x93 P, x94 P, x95 P, x96 P, x97 P, x98 P, x99 P, x100 P, x101 P, x102 P, x103 P, x104 P, x105 P, x106 P, x107 P, x108 P, x109 P, x110 P, x111 P, x112 P, x113 P, x114 P, x115 P, x116 P, x117 P, x118 P, x119 P, x120 P, x121 P, x122 P, x123 P, x124 P, x125 P, x126 P, x127 P, x128 P, x129 P, x130 P, x131 P, x132 P, x133 P, x134 P, x135 P, x136 P, x137 P, x138 P, x139 P, x140 P, x141 P, x142 P, x143 P, x144 P, x145 P, x146 P, x147 P, x148 P, x149 P, x150 P, x151 P, x152 P, x153 P, x154 P, x155 P, x156 P, x157 P, x158 P, x159 P, x160 P, x161 P, x162 P, x163 P, x164 P, x165 P, x166 P, x167 P, x168 P, x169 P, x170 P, x171 P, x172 P, x173 P, x174 P, x175 P, x176 P, x177 P, x178 P, x179 P, x180 P, x181 P, x182 P, x183 P, x184 P, x185 P, x186 P, x187 P, x188 P, x189 P, x190 P, x191 P, x192 P, x193 P, x194 P, x195 P, x196 P, x197 P, x198 P, x199_1 P, x200 P, x201 P, x202 P, x203 P, x204 P, x205 P, x206 P, x207 P, x208 P, x209 P, x210 P, x211 P, x212 P, x213 P, x214 P, x215 P, x216 P, x217 P, x218 P, x219 P, x220 P, x221 P, x222 P, x223 P, x224 P, x225 P, x226 P, x227_7 P, x228 P, x229_1 P, x230 P, x231 P, o1.obj, o2.obj, x234 P, x235 P, x236 P, x237 P, x238 P, x239 P, x240 P, x241 P, x242 P, x243 P, x244 P, x245 P, x246 P, x247 P, x248 P, x249 P, x250 P, x251 P, x252 P, x253 P, x254 P, x255 P, x256 P, x257 P, x258 P, x259 P, x260 P, x261 P, x262 P, x263 P, x264 P, x265 P, x266 P, x267 P, x268 P, x269 P, x270 P, x271 P, x272 P, x273 P, x274 P, x275 P, x276 P, x277 P, x278 P, x279 P, x280 P, x281 P, x282 P, x283 P, x284 P, x285 P, x286 P, x287 P, x288 P, x289 P, x290 P, x291 P, x292 P, x293 P, x294 P, x295 P, x296 P, x297 P, x298 P, x299 P, x300 P, x301 P, x302 P, x303 P, x304 P, x305 P, x306 P, x307 P, x308 P, x309 P, x310 P, x311 P, x312 P, x313 P, x314 P, x315 P, x316 P, x317 P, x318 P, x319 P, x320 P, x321 P, x322 P, x323 P, x324 P, x325 P, x326 P, x327 P, x328 P, x329 P, x330 P, x331 P, x332 P, x333 P, x334 P, x335 P, x336 P, x337 P, x338 P, x339 P, x340 P, x341 P, x342 P, x343 P, x344 P, x345 P, x346 P, x347 P, x348 P, x349 P, x350 P, x351 P, x352 P, x353 P, x354 P, x355 P, x356 P, x357 P, x358 P, x359 P, x360 P, x361 P, x362 P, x363 P, x364 P, x365 P, x366 P, x367 P, x368 P, x369 P, x370 P, x371 P, x372 P, x373 P, x374 P, x375 P, x376 P, x377 P, x378 P, x379 P, x380 P, x381 P, x382 P, x383 P, x384 P, x385 P, x386 P, x387 P, x388 P, x389 P, x390 P, x391 P, x392 P, x393 P, x394 P, x395 P, x396 P, x397 P, x398 P, x399 P, x400 P, x401 P, x402 P, x403 P, x404 P, x405 P, x406 P, x407 P, x408 P, x409 P, x410 P, x411 P, x412 P, x413 P, x414 P, x415 P, x416 P, x417 P, x418 P, x419 P, x420 P, x421 P, x422 P, x423 P, x424 P, x425 P, x426 P, x427 P, x428 P, x429 P, x430 P, x431 P, x432 P, x433 P, x434 P, x435 P, x436 P, x437 P, x438 P, x439 P, x440 P, x441 P, x442 P, x443 P, x444 P, x445 P, x446 P, x447 P, x448 P, x449 P, x450 P, x451 P, x452 P, x453 P, x454 P, x455 P, x456 P, x457 P, x458 P, x459 P, x460 P, x461 P, x462 P, x463 P, x464 P, x465 P, x466 P, x467 P, x468 P, x469 P, x470 P, x471 P, x472 P, x473 P, x474 P, x475 P, x476 P, x477 P, x478 P, x479 P, x480 P, x481 P, x482 P, x483 P, x484 P, x485 P, x486 P, x487 P, x488 P, x489 P, x490 P, x491 P, x492 P, x493 P, x494 P, x495 P, x496 P, x497 P, x498 P, x499 P, x500 P, x501 P, x502 P, x503 P, x504 P, x505 P, x506 P, x507 P, x508 P, x509 P, x510 P, x511 P, x512 P, x513 P, x514 P, x515 P, x516 P, x517 P, x518 P, x519 P, x520 P, x521 P, x522 P, x523 P, x524 P, x525 P, x526 P, x527 P, x528 P, x529 P, x530 P, x531 P, x532 P, x533 P, x534 P, x535 P, x536 P]
abbrev posI0 : Pos := ⟨226, 0, 259, 273⟩
noncomputable def x532_1 (P : Params) : Obj := ⟨(.type "dict"), none, (.dict #[ek P (Str.ofString "__module__") 1552 (.str (Str.ofString "snowballstemmer.irish_stemmer") 1543), ek P (Str.ofString "__qualname__") 1554 (.str (Str.ofString "IrishStemmer") 1553), ek P (Str.ofString "__firstlineno__") 1556 (.int 226 1555), ek P (Str.ofString "g_v") 1577 (.ref 537), ek P (Str.ofString "I_p2") 1579 (.int 0 1578), ek P (Str.ofString "I_p1") 1581 (.int 0 1580), ek P (Str.ofString "I_pV") 1583 (.int 0 1582), ek P (Str.ofString "r_mark_regions") 1590 (.ref 544), ek P (Str.ofString "r_initial_morph") 1597 (.ref 551), ek P (Str.ofString "r_R1") 1604 (.ref 558), ek P (Str.ofString "r_R2") 1611 (.ref 565), ek P (Str.ofString "r_noun_sfx") 1618 (.ref 572), ek P (Str.ofString "r_deriv") 1625 (.ref 579), ek P (Str.ofString "r_verb_sfx") 1632 (.ref 586), ek P (Str.ofString "_stem") 1639 (.ref 593)] 15), #[]⟩
noncomputable def x534_1 (P : Params) : Obj := ⟨.none, none, (.fields #[(.int 232 0), (.int 4 0), (.ref 543), (.int 235 0), (.int 4 0), (.ref 550), (.int 238 0), (.int 4 0), (.ref 557), (.int 241 0), (.int 4 0), (.ref 564), (.int 244 0), (.int 4 0), (.ref 571), (.int 247 0), (.int 4 0), (.ref 578), (.int 250 0), (.int 4 0), (.ref 585), (.int 253 0), (.int 4 0), (.ref 592)]), #[]⟩
noncomputable def x538 (P : Params) : Obj := ⟨(.type "tuple"), none, (.seq #[] 0), #[]⟩
noncomputable def x539 (P : Params) : Obj := ⟨.none, none, (.fields #[]), #[]⟩
noncomputable def x540 (P : Params) : Obj := ⟨(.type "tuple"), none, (.seq #[(.str (Str.ofString "self") 1587)] 0), #[]⟩
noncomputable def x541 (P : Params) : Obj := ⟨(.type "tuple"), none, (.seq #[] 0), #[]⟩
noncomputable def x542 (P : Params) : Obj := ⟨.none, none, (.func { name := (Str.ofString "r_mark_regions"), qualname := (Str.ofString "IrishStemmer.r_mark_regions"), params := fnArgs (clsSt 8 4), body := .stmts (fnBody (clsSt 8 4)), scope := fnScope (clsSt 8 4), globals := 0, closure := [], defaults := .none, kwdefaults := .none, doc := .none, pyModule := .none, annotations := none, code := .none, closureTuple := .none, builtins := 0 }), #[]⟩
noncomputable def x543 (P : Params) : Obj := ⟨(.type "code"), none, (.fields #[(.str (Str.ofString "r_mark_regions") 1584), (.str (Str.ofString "IrishStemmer.r_mark_regions") 1585), (.str (Str.ofString "/claim/cut.py") 1586), (.int 232 0), (.int 1 0), (.int 0 0), (.int 0 0), (.int 3 0), (.ref 538), (.bool true), (.int 181 0), (.ref 539), .none, (.ref 540), (.ref 541), (.ref 542), (.int 1588 0), (.int 232 0), (.str (Str.ofString "/claim/cut.py") 1589)]), #[]⟩
noncomputable def x544 (P : Params) : Obj := ⟨(.type "function"), none, (.func { name := (Str.ofString "r_mark_regions"), qualname := (Str.ofString "IrishStemmer.r_mark_regions"), params := fnArgs (clsSt 8 4), body := .stmts (fnBody (clsSt 8 4)), scope := fnScope (clsSt 8 4), globals := 3, closure := [], defaults := .none, kwdefaults := .none, doc := .none, pyModule := (.str (Str.ofString "snowballstemmer.irish_stemmer") 1543), annotations := none, code := (.ref 543), closureTuple := .none, builtins := 0 }), #[]⟩
noncomputable def x545 (P : Params) : Obj := ⟨(.type "tuple"), none, (.seq #[] 0), #[]⟩
noncomputable def x546 (P : Params) : Obj := ⟨.none, none, (.fields #[]), #[]⟩
noncomputable def x547 (P : Params) : Obj := ⟨(.type "tuple"), none, (.seq #[(.str (Str.ofString "self") 1594)] 0), #[]⟩
noncomputable def x548 (P : Params) : Obj := ⟨(.type "tuple"), none, (.seq #[] 0), #[]⟩
noncomputable def x549 (P : Params) : Obj := ⟨.none, none, (.func { name := (Str.ofString "r_initial_morph"), qualname := (Str.ofString "IrishStemmer.r_initial_morph"), params := fnArgs (clsSt 8 5), body := .stmts (fnBody (clsSt 8 5)), scope := fnScope (clsSt 8 5), globals := 0, closure := [], defaults := .none, kwdefaults := .none, doc := .none, pyModule := .none, annotations := none, code := .none, closureTuple := .none, builtins := 0 }), #[]⟩
noncomputable def x550 (P : Params) : Obj := ⟨(.type "code"), none, (.fields #[(.str (Str.ofString "r_initial_morph") 1591), (.str (Str.ofString "IrishStemmer.r_initial_morph") 1592), (.str (Str.ofString "/claim/cut.py") 1593), (.int 235 0), (.int 1 0), (.int 0 0), (.int 0 0), (.int 3 0), (.ref 545), (.bool true), (.int 181 0), (.ref 546), .none, (.ref 547), (.ref 548), (.ref 549), (.int 1595 0), (.int 235 0), (.str (Str.ofString "/claim/cut.py") 1596)]), #[]⟩
noncomputable def x551 (P : Params) : Obj := ⟨(.type "function"), none, (.func { name := (Str.ofString "r_initial_morph"), qualname := (Str.ofString "IrishStemmer.r_initial_morph"), params := fnArgs (clsSt 8 5), body := .stmts (fnBody (clsSt 8 5)), scope := fnScope (clsSt 8 5), globals := 3, closure := [], defaults := .none, kwdefaults := .none, doc := .none, pyModule := (.str (Str.ofString "snowballstemmer.irish_stemmer") 1543), annotations := none, code := (.ref 550), closureTuple := .none, builtins := 0 }), #[]⟩
noncomputable def x552 (P : Params) : Obj := ⟨(.type "tuple"), none, (.seq #[] 0), #[]⟩
noncomputable def x553 (P : Params) : Obj := ⟨.none, none, (.fields #[]), #[]⟩
noncomputable def x554 (P : Params) : Obj := ⟨(.type "tuple"), none, (.seq #[(.str (Str.ofString "self") 1601)] 0), #[]⟩
noncomputable def x555 (P : Params) : Obj := ⟨(.type "tuple"), none, (.seq #[] 0), #[]⟩
noncomputable def x556 (P : Params) : Obj := ⟨.none, none, (.func { name := (Str.ofString "r_R1"), qualname := (Str.ofString "IrishStemmer.r_R1"), params := fnArgs (clsSt 8 6), body := .stmts (fnBody (clsSt 8 6)), scope := fnScope (clsSt 8 6), globals := 0, closure := [], defaults := .none, kwdefaults := .none, doc := .none, pyModule := .none, annotations := none, code := .none, closureTuple := .none, builtins := 0 }), #[]⟩
noncomputable def x557 (P : Params) : Obj := ⟨(.type "code"), none, (.fields #[(.str (Str.ofString "r_R1") 1598), (.str (Str.ofString "IrishStemmer.r_R1") 1599), (.str (Str.ofString "/claim/cut.py") 1600), (.int 238 0), (.int 1 0), (.int 0 0), (.int 0 0), (.int 3 0), (.ref 552), (.bool true), (.int 181 0), (.ref 553), .none, (.ref 554), (.ref 555), (.ref 556), (.int 1602 0), (.int 238 0), (.str (Str.ofString "/claim/cut.py") 1603)]), #[]⟩
noncomputable def x558 (P : Params) : Obj := ⟨(.type "function"), none, (.func { name := (Str.ofString "r_R1"), qualname := (Str.ofString "IrishStemmer.r_R1"), params := fnArgs (clsSt 8 6), body := .stmts (fnBody (clsSt 8 6)), scope := fnScope (clsSt 8 6), globals := 3, closure := [], defaults := .none, kwdefaults := .none, doc := .none, pyModule := (.str (Str.ofString "snowballstemmer.irish_stemmer") 1543), annotations := none, code := (.ref 557), closureTuple := .none, builtins := 0 }), #[]⟩
noncomputable def x559 (P : Params) : Obj := ⟨(.type "tuple"), none, (.seq #[] 0), #[]⟩
noncomputable def x560 (P : Params) : Obj := ⟨.none, none, (.fields #[]), #[]⟩
noncomputable def x561 (P : Params) : Obj := ⟨(.type "tuple"), none, (.seq #[(.str (Str.ofString "self") 1608)] 0), #[]⟩
noncomputable def x562 (P : Params) : Obj := ⟨(.type "tuple"), none, (.seq #[] 0), #[]⟩
noncomputable def x563 (P : Params) : Obj := ⟨.none, none, (.func { name := (Str.ofString "r_R2"), qualname := (Str.ofString "IrishStemmer.r_R2"), params := fnArgs (clsSt 8 7), body := .stmts (fnBody (clsSt 8 7)), scope := fnScope (clsSt 8 7), globals := 0, closure := [], defaults := .none, kwdefaults := .none, doc := .none, pyModule := .none, annotations := none, code := .none, closureTuple := .none, builtins := 0 }), #[]⟩
noncomputable def x564 (P : Params) : Obj := ⟨(.type "code"), none, (.fields #[(.str (Str.ofString "r_R2") 1605), (.str (Str.ofString "IrishStemmer.r_R2") 1606), (.str (Str.ofString "/claim/cut.py") 1607), (.int 241 0), (.int 1 0), (.int 0 0), (.int 0 0), (.int 3 0), (.ref 559), (.bool true), (.int 181 0), (.ref 560), .none, (.ref 561), (.ref 562), (.ref 563), (.int 1609 0), (.int 241 0), (.str (Str.ofString "/claim/cut.py") 1610)]), #[]⟩
noncomputable def x565 (P : Params) : Obj := ⟨(.type "function"), none, (.func { name := (Str.ofString "r_R2"), qualname := (Str.ofString "IrishStemmer.r_R2"), params := fnArgs (clsSt 8 7), body := .stmts (fnBody (clsSt 8 7)), scope := fnScope (clsSt 8 7), globals := 3, closure := [], defaults := .none, kwdefaults := .none, doc := .none, pyModule := (.str (Str.ofString "snowballstemmer.irish_stemmer") 1543), annotations := none, code := (.ref 564), closureTuple := .none, builtins := 0 }), #[]⟩
noncomputable def x566 (P : Params) : Obj := ⟨(.type "tuple"), none, (.seq #[] 0), #[]⟩
noncomputable def x567 (P : Params) : Obj := ⟨.none, none, (.fields #[]), #[]⟩
noncomputable def x568 (P : Params) : Obj := ⟨(.type "tuple"), none, (.seq #[(.str (Str.ofString "self") 1615)] 0), #[]⟩
noncomputable def x569 (P : Params) : Obj := ⟨(.type "tuple"), none, (.seq #[] 0), #[]⟩
noncomputable def x570 (P : Params) : Obj := ⟨.none, none, (.func { name := (Str.ofString "r_noun_sfx"), qualname := (Str.ofString "IrishStemmer.r_noun_sfx"), params := fnArgs (clsSt 8 8), body := .stmts (fnBody (clsSt 8 8)), scope := fnScope (clsSt 8 8), globals := 0, closure := [], defaults := .none, kwdefaults := .none, doc := .none, pyModule := .none, annotations := none, code := .none, closureTuple := .none, builtins := 0 }), #[]⟩
noncomputable def x571 (P : Params) : Obj := ⟨(.type "code"), none, (.fields #[(.str (Str.ofString "r_noun_sfx") 1612), (.str (Str.ofString "IrishStemmer.r_noun_sfx") 1613), (.str (Str.ofString "/claim/cut.py") 1614), (.int 244 0), (.int 1 0), (.int 0 0), (.int 0 0), (.int 3 0), (.ref 566), (.bool true), (.int 181 0), (.ref 567), .none, (.ref 568), (.ref 569), (.ref 570), (.int 1616 0), (.int 244 0), (.str (Str.ofString "/claim/cut.py") 1617)]), #[]⟩
noncomputable def x572 (P : Params) : Obj := ⟨(.type "function"), none, (.func { name := (Str.ofString "r_noun_sfx"), qualname := (Str.ofString "IrishStemmer.r_noun_sfx"), params := fnArgs (clsSt 8 8), body := .stmts (fnBody (clsSt 8 8)), scope := fnScope (clsSt 8 8), globals := 3, closure := [], defaults := .none, kwdefaults := .none, doc := .none, pyModule := (.str (Str.ofString "snowballstemmer.irish_stemmer") 1543), annotations := none, code := (.ref 571), closureTuple := .none, builtins := 0 }), #[]⟩
noncomputable def x573 (P : Params) : Obj := ⟨(.type "tuple"), none, (.seq #[] 0), #[]⟩
noncomputable def x574 (P : Params) : Obj := ⟨.none, none, (.fields #[]), #[]⟩
noncomputable def x575 (P : Params) : Obj := ⟨(.type "tuple"), none, (.seq #[(.str (Str.ofString "self") 1622)] 0), #[]⟩
noncomputable def x576 (P : Params) : Obj := ⟨(.type "tuple"), none, (.seq #[] 0), #[]⟩
noncomputable def x577 (P : Params) : Obj := ⟨.none, none, (.func { name := (Str.ofString "r_deriv"), qualname := (Str.ofString "IrishStemmer.r_deriv"), params := fnArgs (clsSt 8 9), body := .stmts (fnBody (clsSt 8 9)), scope := fnScope (clsSt 8 9), globals := 0, closure := [], defaults := .none, kwdefaults := .none, doc := .none, pyModule := .none, annotations := none, code := .none, closureTuple := .none, builtins := 0 }), #[]⟩
noncomputable def x578 (P : Params) : Obj := ⟨(.type "code"), none, (.fields #[(.str (Str.ofString "r_deriv") 1619), (.str (Str.ofString "IrishStemmer.r_deriv") 1620), (.str (Str.ofString "/claim/cut.py") 1621), (.int 247 0), (.int 1 0), (.int 0 0), (.int 0 0), (.int 3 0), (.ref 573), (.bool true), (.int 181 0), (.ref 574), .none, (.ref 575), (.ref 576), (.ref 577), (.int 1623 0), (.int 247 0), (.str (Str.ofString "/claim/cut.py") 1624)]), #[]⟩
noncomputable def x579 (P : Params) : Obj := ⟨(.type "function"), none, (.func { name := (Str.ofString "r_deriv"), qualname := (Str.ofString "IrishStemmer.r_deriv"), params := fnArgs (clsSt 8 9), body := .stmts (fnBody (clsSt 8 9)), scope := fnScope (clsSt 8 9), globals := 3, closure := [], defaults := .none, kwdefaults := .none, doc := .none, pyModule := (.str (Str.ofString "snowballstemmer.irish_stemmer") 1543), annotations := none, code := (.ref 578), closureTuple := .none, builtins := 0 }), #[]⟩
noncomputable def x580 (P : Params) : Obj := ⟨(.type "tuple"), none, (.seq #[] 0), #[]⟩
noncomputable def x581 (P : Params) : Obj := ⟨.none, none, (.fields #[]), #[]⟩
noncomputable def x582 (P : Params) : Obj := ⟨(.type "tuple"), none, (.seq #[(.str (Str.ofString "self") 1629)] 0), #[]⟩
noncomputable def x583 (P : Params) : Obj := ⟨(.type "tuple"), none, (.seq #[] 0), #[]⟩
noncomputable def x584 (P : Params) : Obj := ⟨.none, none, (.func { name := (Str.ofString "r_verb_sfx"), qualname := (Str.ofString "IrishStemmer.r_verb_sfx"), params := fnArgs (clsSt 8 10), body := .stmts (fnBody (clsSt 8 10)), scope := fnScope (clsSt 8 10), globals := 0, closure := [], defaults := .none, kwdefaults := .none, doc := .none, pyModule := .none, annotations := none, code := .none, closureTuple := .none, builtins := 0 }), #[]⟩
noncomputable def x585 (P : Params) : Obj := ⟨(.type "code"), none, (.fields #[(.str (Str.ofString "r_verb_sfx") 1626), (.str (Str.ofString "IrishStemmer.r_verb_sfx") 1627), (.str (Str.ofString "/claim/cut.py") 1628), (.int 250 0), (.int 1 0), (.int 0 0), (.int 0 0), (.int 3 0), (.ref 580), (.bool true), (.int 181 0), (.ref 581), .none, (.ref 582), (.ref 583), (.ref 584), (.int 1630 0), (.int 250 0), (.str (Str.ofString "/claim/cut.py") 1631)]), #[]⟩
noncomputable def x586 (P : Params) : Obj := ⟨(.type "function"), none, (.func { name := (Str.ofString "r_verb_sfx"), qualname := (Str.ofString "IrishStemmer.r_verb_sfx"), params := fnArgs (clsSt 8 10), body := .stmts (fnBody (clsSt 8 10)), scope := fnScope (clsSt 8 10), globals := 3, closure := [], defaults := .none, kwdefaults := .none, doc := .none, pyModule := (.str (Str.ofString "snowballstemmer.irish_stemmer") 1543), annotations := none, code := (.ref 585), closureTuple := .none, builtins := 0 }), #[]⟩
noncomputable def x587 (P : Params) : Obj := ⟨(.type "tuple"), none, (.seq #[] 0), #[]⟩
noncomputable def x588 (P : Params) : Obj := ⟨.none, none, (.fields #[]), #[]⟩
noncomputable def x589 (P : Params) : Obj := ⟨(.type "tuple"), none, (.seq #[(.str (Str.ofString "self") 1636)] 0), #[]⟩
noncomputable def x590 (P : Params) : Obj := ⟨(.type "tuple"), none, (.seq #[] 0), #[]⟩
noncomputable def x591 (P : Params) : Obj := ⟨.none, none, (.func { name := (Str.ofString "_stem"), qualname := (Str.ofString "IrishStemmer._stem"), params := fnArgs (clsSt 8 11), body := .stmts (fnBody (clsSt 8 11)), scope := fnScope (clsSt 8 11), globals := 0, closure := [], defaults := .none, kwdefaults := .none, doc := .none, pyModule := .none, annotations := none, code := .none, closureTuple := .none, builtins := 0 }), #[]⟩
noncomputable def x592 (P : Params) : Obj := ⟨(.type "code"), none, (.fields #[(.str (Str.ofString "_stem") 1633), (.str (Str.ofString "IrishStemmer._stem") 1634), (.str (Str.ofString "/claim/cut.py") 1635), (.int 253 0), (.int 1 0), (.int 0 0), (.int 0 0), (.int 3 0), (.ref 587), (.bool true), (.int 181 0), (.ref 588), .none, (.ref 589), (.ref 590), (.ref 591), (.int 1637 0), (.int 253 0), (.str (Str.ofString "/claim/cut.py") 1638)]), #[]⟩
noncomputable def x593 (P : Params) : Obj := ⟨(.type "function"), none, (.func { name := (Str.ofString "_stem"), qualname := (Str.ofString "IrishStemmer._stem"), params := fnArgs (clsSt 8 11), body := .stmts (fnBody (clsSt 8 11)), scope := fnScope (clsSt 8 11), globals := 3, closure := [], defaults := .none, kwdefaults := .none, doc := .none, pyModule := (.str (Str.ofString "snowballstemmer.irish_stemmer") 1543), annotations := none, code := (.ref 592), closureTuple := .none, builtins := 0 }), #[]⟩
noncomputable def HI12 (P : Params) (o1 o2 o3 : SO) : List Obj := [x0 P, x1 P, x2 P, x3_2 P, x4 P, x5 P, x6 P, x7 P, x8 P, x9 P, x10 P, x11 P, x12_3 P, x13 P, x14 P, x15 P, x16 P, x17 P, x18 P, x19 P, x20 P, x21 P, x22 P, x23 P, x24 P, x25 P, x26 P, x27 P, x28 P, x29 P, x30 P, x31 P, x32 P, x33 P, x34 P, x35 P, x36 P, x37 P, x38 P, x39 P, x40 P, x41 P, x42 P, x43 P, x44 P, x45 P, x46 P, x47 P, x48 P, x49 P, x50 P, x51 P, x52 P, x53 P, x54 P, x55 P, x56 P, x57 P, x58 P, x59 P, x60 P, x61 P, x62 P, x63 P, x64 P, x65 P, x66 P, x67 P, x68 P, x69 P, x70 P, x71 P, x72 P, x73 P, x74 P, x75 P, x76 P, x77 P, x78 P, x79 P, x80 P, x81 P, x82 P, x83 P, x84 P, x85 P, x86 P, x87 P, x88 P, x89 P, x90 P, x91 P, x92 P, x93 P, x94 P, x95 P, x96 P, x97 P, x98 P, x99 P, x100 P, x101 P, x102 P, x103 P, x104 P, x105 P, x106 P, x107 P, x108 P, x109 P, x110 P, x111 P, x112 P, x113 P, x114 P, x115 P, x116 P, x117 P, x118 P, x119 P, x120 P, x121 P, x122 P, x123 P, x124 P, x125 P, x126 P, x127 P, x128 P, x129 P, x130 P, x131 P, x132 P, x133 P, x134 P, x135 P, x136 P, x137 P, x138 P, x139 P, x140 P, x141 P, x142 P, x143 P, x144 P, x145 P, x146 P, x147 P, x148 P, x149 P, x150 P, x151 P, x152 P, x153 P, x154 P, x155 P, x156 P, x157 P, x158 P, x159 P, x160 P, x161 P, x162 P, x163 P, x164 P, x165 P, x166 P, x167 P, x168 P, x169 P, x170 P, x171 P, x172 P, x173 P, x174 P, x175 P, x176 P, x177 P, x178 P, x179 P, x180 P, x181 P, x182 P, x183 P, x184 P, x185 P, x186 P, x187 P, x188 P, x189 P, x190 P, x191 P, x192 P, x193 P, x194 P, x195 P, x196 P, x197 P, x198 P, x199_1 P, x200 P, x201 P, x202 P, x203 P, x204 P, x205 P, x206 P, x207 P, x208 P, x209 P, x210 P, x211 P, x212 P, x213 P, x214 P, x215 P, x216 P, x217 P, x218 P, x219 P, x220 P, x221 P, x222 P, x223 P, x224 P, x225 P, x226 P, x227_7 P, x228 P, x229_1 P, x230 P, x231 P, o1.obj, o2.obj, x234 P, x235 P, x236 P, x237 P, x238 P, x239 P, x240 P, x241 P, x242 P, x243 P, x244 P, x245 P, x246 P, x247 P, x248 P, x249 P, x250 P, x251 P, x252 P, x253 P, x254 P, x255 P, x256 P, x257 P, x258 P, x259 P, x260 P, x261 P, x262 P, x263 P, x264 P, x265 P, x266 P, x267 P, x268 P, x269 P, x270 P, x271 P, x272 P, x273 P, x274 P, x275 P, x276 P, x277 P, x278 P, x279 P, x280 P, x281 P, x282 P, x283 P, x284 P, x285 P, x286 P, x287 P, x288 P, x289 P, x290 P, x291 P, x292 P, x293 P, x294 P, x295 P, x296 P, x297 P, x298 P, x299 P, x300 P, x301 P, x302 P, x303 P, x304 P, x305 P, x306 P, x307 P, x308 P, x309 P, x310 P, x311 P, x312 P, x313 P, x314 P, x315 P, x316 P, x317 P, x318 P, x319 P, x320 P, x321 P, x322 P, x323 P, x324 P, x325 P, x326 P, x327 P, x328 P, x329 P, x330 P, x331 P, x332 P, x333 P, x334 P, x335 P, x336 P, x337 P, x338 P, x339 P, x340 P, x341 P, x342 P, x343 P, x344 P, x345 P, x346 P, x347 P, x348 P, x349 P, x350 P, x351 P, x352 P, x353 P, x354 P, x355 P, x356 P, x357 P, x358 P, x359 P, x360 P, x361 P, x362 P, x363 P, x364 P, x365 P, x366 P, x367 P, x368 P, x369 P, x370 P, x371 P, x372 P, x373 P, x374 P, x375 P, x376 P, x377 P, x378 P, x379 P, x380 P, x381 P, x382 P, x383 P, x384 P, x385 P, x386 P, x387 P, x388 P, x389 P, x390 P, x391 P, x392 P, x393 P, x394 P, x395 P, x396 P, x397 P, x398 P, x399 P, x400 P, x401 P, x402 P, x403 P, x404 P, x405 P, x406 P, x407 P, x408 P, x409 P, x410 P, x411 P, x412 P, x413 P, x414 P, x415 P, x416 P, x417 P, x418 P, x419 P, x420 P, x421 P, x422 P, x423 P, x424 P, x425 P, x426 P, x427 P, x428 P, x429 P, x430 P, x431 P, x432 P, x433 P, x434 P, x435 P, x436 P, x437 P, x438 P, x439 P, x440 P, x441 P, x442 P, x443 P, x444 P, x445 P, x446 P, x447 P, x448 P, x449 P, x450 P, x451 P, x452 P, x453 P, x454 P, x455 P, x456 P, x457 P, x458 P, x459 P, x460 P, x461 P, x462 P, x463 P, x464 P, x465 P, x466 P, x467 P, x468 P, x469 P, x470 P, x471 P, x472 P, x473 P, x474 P, x475 P, x476 P, x477 P, x478 P, x479 P, x480 P, x481 P, x482 P, x483 P, x484 P, x485 P, x486 P, x487 P, x488 P, x489 P, x490 P, x491 P, x492 P, x493 P, x494 P, x495 P, x496 P, x497 P, x498 P, x499 P, x500 P, x501 P, x502 P, x503 P, x504 P, x505 P, x506 P, x507 P, x508 P, x509 P, x510 P, x511 P, x512 P, x513 P, x514 P, x515 P, x516 P, x517 P, x518 P, x519 P, x520 P, x521 P, x522 P, x523 P, x524 P, x525 P, x526 P, x527 P, x528 P, x529 P, x530 P, x531 P, x532_1 P, x533 P, x534_1 P, x535 P, x536 P, o3.obj, x538 P, x539 P, x540 P, x541 P, x542 P, x543 P, x544 P, x545 P, x546 P, x547 P, x548 P, x549 P, x550 P, x551 P, x552 P, x553 P, x554 P, x555 P, x556 P, x557 P, x558 P, x559 P, x560 P, x561 P, x562 P, x563 P, x564 P, x565 P, x566 P, x567 P, x568 P, x569 P, x570 P, x571 P, x572 P, x573 P, x574 P, x575 P, x576 P, x577 P, x578 P, x579 P, x580 P, x581 P, x582 P, x583 P, x584 P, x585 P, x586 P, x587 P, x588 P, x589 P, x590 P, x591 P, x592 P, x593 P]
abbrev posI12 : Pos := ⟨253, 4, 254, 17⟩
noncomputable def x532_2 (P : Params) : Obj := ⟨(.type "dict"), none, (.dict #[ek P (Str.ofString "__module__") 1552 (.str (Str.ofString "snowballstemmer.irish_stemmer") 1543), ek P (Str.ofString "__qualname__") 1554 (.str (Str.ofString "IrishStemmer") 1553), ek P (Str.ofString "__firstlineno__") 1556 (.int 226 1555), ek P (Str.ofString "g_v") 1577 (.ref 537), ek P (Str.ofString "I_p2") 1579 (.int 0 1578), ek P (Str.ofString "I_p1") 1581 (.int 0 1580), ek P (Str.ofString "I_pV") 1583 (.int 0 1582), ek P (Str.ofString "r_mark_regions") 1590 (.ref 544), ek P (Str.ofString "r_initial_morph") 1597 (.ref 551), ek P (Str.ofString "r_R1") 1604 (.ref 558), ek P (Str.ofString "r_R2") 1611 (.ref 565), ek P (Str.ofString "r_noun_sfx") 1618 (.ref 572), ek P (Str.ofString "r_deriv") 1625 (.ref 579), ek P (Str.ofString "r_verb_sfx") 1632 (.ref 586), ek P (Str.ofString "_stem") 1639 (.ref 593), ek P (Str.ofString "a_0") 1974 (.ref 666), ek P (Str.ofString "as_0") 1985 (.ref 667)] 17), #[]⟩
noncomputable def x594 (P : Params) : Obj := ⟨(.type "dict"), none, (.dict #[ek P (Str.ofString "s") 1649 (.str (Str.ofString "b'") 1640), ek P (Str.ofString "substring_i") 1651 (.int (-1) 1642), ek P (Str.ofString "result") 1653 (.int 1 1643)] 3), #[]⟩
noncomputable def x595 (P : Params) : Obj := ⟨(.ref 220), (some 594), .plain, #[]⟩
noncomputable def x596 (P : Params) : Obj := ⟨(.type "frame"), none, (.dict #[ek P (Str.ofString "self") 1644 (.ref 595), ek P (Str.ofString "s") 1645 (.str (Str.ofString "b'") 1640), ek P (Str.ofString "substring_i") 1646 (.int (-1) 1642), ek P (Str.ofString "result") 1647 (.int 1 1643)] 4), #[]⟩
noncomputable def x597 (P : Params) : Obj := ⟨(.type "dict"), none, (.dict #[ek P (Str.ofString "s") 1663 (.str (Str.ofString "bh") 1654), ek P (Str.ofString "substring_i") 1665 (.int (-1) 1656), ek P (Str.ofString "result") 1667 (.int 4 1657)] 3), #[]⟩
noncomputable def x598 (P : Params) : Obj := ⟨(.ref 220), (some 597), .plain, #[]⟩
noncomputable def x599 (P : Params) : Obj := ⟨(.type "frame"), none, (.dict #[ek P (Str.ofString "self") 1658 (.ref 598), ek P (Str.ofString "s") 1659 (.str (Str.ofString "bh") 1654), ek P (Str.ofString "substring_i") 1660 (.int (-1) 1656), ek P (Str.ofString "result") 1661 (.int 4 1657)] 4), #[]⟩
noncomputable def x600 (P : Params) : Obj := ⟨(.type "dict"), none, (.dict #[ek P (Str.ofString "s") 1676 (.str (Str.ofString "bhf") 1668), ek P (Str.ofString "substring_i") 1678 (.int 1 1669), ek P (Str.ofString "result") 1680 (.int 2 1670)] 3), #[]⟩
noncomputable def x601 (P : Params) : Obj := ⟨(.ref 220), (some 600), .plain, #[]⟩
noncomputable def x602 (P : Params) : Obj := ⟨(.type "frame"), none, (.dict #[ek P (Str.ofString "self") 1671 (.ref 601), ek P (Str.ofString "s") 1672 (.str (Str.ofString "bhf") 1668), ek P (Str.ofString "substring_i") 1673 (.int 1 1669), ek P (Str.ofString "result") 1674 (.int 2 1670)] 4), #[]⟩
noncomputable def x603 (P : Params) : Obj := ⟨(.type "dict"), none, (.dict #[ek P (Str.ofString "s") 1690 (.str (Str.ofString "bp") 1681), ek P (Str.ofString "substring_i") 1692 (.int (-1) 1683), ek P (Str.ofString "result") 1694 (.int 8 1684)] 3), #[]⟩
noncomputable def x604 (P : Params) : Obj := ⟨(.ref 220), (some 603), .plain, #[]⟩
noncomputable def x605 (P : Params) : Obj := ⟨(.type "frame"), none, (.dict #[ek P (Str.ofString "self") 1685 (.ref 604), ek P (Str.ofString "s") 1686 (.str (Str.ofString "bp") 1681), ek P (Str.ofString "substring_i") 1687 (.int (-1) 1683), ek P (Str.ofString "result") 1688 (.int 8 1684)] 4), #[]⟩
noncomputable def x606 (P : Params) : Obj := ⟨(.type "dict"), none, (.dict #[ek P (Str.ofString "s") 1704 (.str (Str.ofString "ch") 1695), ek P (Str.ofString "substring_i") 1706 (.int (-1) 1697), ek P (Str.ofString "result") 1708 (.int 5 1698)] 3), #[]⟩
noncomputable def x607 (P : Params) : Obj := ⟨(.ref 220), (some 606), .plain, #[]⟩
noncomputable def x608 (P : Params) : Obj := ⟨(.type "frame"), none, (.dict #[ek P (Str.ofString "self") 1699 (.ref 607), ek P (Str.ofString "s") 1700 (.str (Str.ofString "ch") 1695), ek P (Str.ofString "substring_i") 1701 (.int (-1) 1697), ek P (Str.ofString "result") 1702 (.int 5 1698)] 4), #[]⟩
noncomputable def x609 (P : Params) : Obj := ⟨(.type "dict"), none, (.dict #[ek P (Str.ofString "s") 1718 (.str (Str.ofString "d'") 1709), ek P (Str.ofString "substring_i") 1720 (.int (-1) 1711), ek P (Str.ofString "result") 1722 (.int 1 1712)] 3), #[]⟩
noncomputable def x610 (P : Params) : Obj := ⟨(.ref 220), (some 609), .plain, #[]⟩
noncomputable def x611 (P : Params) : Obj := ⟨(.type "frame"), none, (.dict #[ek P (Str.ofString "self") 1713 (.ref 610), ek P (Str.ofString "s") 1714 (.str (Str.ofString "d'") 1709), ek P (Str.ofString "substring_i") 1715 (.int (-1) 1711), ek P (Str.ofString "result") 1716 (.int 1 1712)] 4), #[]⟩
noncomputable def x612 (P : Params) : Obj := ⟨(.type "dict"), none, (.dict #[ek P (Str.ofString "s") 1731 (.str (Str.ofString "d'fh") 1723), ek P (Str.ofString "substring_i") 1733 (.int 5 1724), ek P (Str.ofString "result") 1735 (.int 2 1725)] 3), #[]⟩
noncomputable def x613 (P : Params) : Obj := ⟨(.ref 220), (some 612), .plain, #[]⟩
noncomputable def x614 (P : Params) : Obj := ⟨(.type "frame"), none, (.dict #[ek P (Str.ofString "self") 1726 (.ref 613), ek P (Str.ofString "s") 1727 (.str (Str.ofString "d'fh") 1723), ek P (Str.ofString "substring_i") 1728 (.int 5 1724), ek P (Str.ofString "result") 1729 (.int 2 1725)] 4), #[]⟩
noncomputable def x615 (P : Params) : Obj := ⟨(.type "dict"), none, (.dict #[ek P (Str.ofString "s") 1745 (.str (Str.ofString "dh") 1736), ek P (Str.ofString "substring_i") 1747 (.int (-1) 1738), ek P (Str.ofString "result") 1749 (.int 6 1739)] 3), #[]⟩
noncomputable def x616 (P : Params) : Obj := ⟨(.ref 220), (some 615), .plain, #[]⟩
noncomputable def x617 (P : Params) : Obj := ⟨(.type "frame"), none, (.dict #[ek P (Str.ofString "self") 1740 (.ref 616), ek P (Str.ofString "s") 1741 (.str (Str.ofString "dh") 1736), ek P (Str.ofString "substring_i") 1742 (.int (-1) 1738), ek P (Str.ofString "result") 1743 (.int 6 1739)] 4), #[]⟩
noncomputable def x618 (P : Params) : Obj := ⟨(.type "dict"), none, (.dict #[ek P (Str.ofString "s") 1759 (.str (Str.ofString "dt") 1750), ek P (Str.ofString "substring_i") 1761 (.int (-1) 1752), ek P (Str.ofString "result") 1763 (.int 9 1753)] 3), #[]⟩
noncomputable def x619 (P : Params) : Obj := ⟨(.ref 220), (some 618), .plain, #[]⟩
noncomputable def x620 (P : Params) : Obj := ⟨(.type "frame"), none, (.dict #[ek P (Str.ofString "self") 1754 (.ref 619), ek P (Str.ofString "s") 1755 (.str (Str.ofString "dt") 1750), ek P (Str.ofString "substring_i") 1756 (.int (-1) 1752), ek P (Str.ofString "result") 1757 (.int 9 1753)] 4), #[]⟩
noncomputable def x621 (P : Params) : Obj := ⟨(.type "dict"), none, (.dict #[ek P (Str.ofString "s") 1773 (.str (Str.ofString "fh") 1764), ek P (Str.ofString "substring_i") 1775 (.int (-1) 1766), ek P (Str.ofString "result") 1777 (.int 2 1767)] 3), #[]⟩
noncomputable def x622 (P : Params) : Obj := ⟨(.ref 220), (some 621), .plain, #[]⟩
noncomputable def x623 (P : Params) : Obj := ⟨(.type "frame"), none, (.dict #[ek P (Str.ofString "self") 1768 (.ref 622), ek P (Str.ofString "s") 1769 (.str (Str.ofString "fh") 1764), ek P (Str.ofString "substring_i") 1770 (.int (-1) 1766), ek P (Str.ofString "result") 1771 (.int 2 1767)] 4), #[]⟩
noncomputable def x624 (P : Params) : Obj := ⟨(.type "dict"), none, (.dict #[ek P (Str.ofString "s") 1787 (.str (Str.ofString "gc") 1778), ek P (Str.ofString "substring_i") 1789 (.int (-1) 1780), ek P (Str.ofString "result") 1791 (.int 5 1781)] 3), #[]⟩
noncomputable def x625 (P : Params) : Obj := ⟨(.ref 220), (some 624), .plain, #[]⟩
noncomputable def x626 (P : Params) : Obj := ⟨(.type "frame"), none, (.dict #[ek P (Str.ofString "self") 1782 (.ref 625), ek P (Str.ofString "s") 1783 (.str (Str.ofString "gc") 1778), ek P (Str.ofString "substring_i") 1784 (.int (-1) 1780), ek P (Str.ofString "result") 1785 (.int 5 1781)] 4), #[]⟩
noncomputable def x627 (P : Params) : Obj := ⟨(.type "dict"), none, (.dict #[ek P (Str.ofString "s") 1801 (.str (Str.ofString "gh") 1792), ek P (Str.ofString "substring_i") 1803 (.int (-1) 1794), ek P (Str.ofString "result") 1805 (.int 7 1795)] 3), #[]⟩
noncomputable def x628 (P : Params) : Obj := ⟨(.ref 220), (some 627), .plain, #[]⟩
noncomputable def x629 (P : Params) : Obj := ⟨(.type "frame"), none, (.dict #[ek P (Str.ofString "self") 1796 (.ref 628), ek P (Str.ofString "s") 1797 (.str (Str.ofString "gh") 1792), ek P (Str.ofString "substring_i") 1798 (.int (-1) 1794), ek P (Str.ofString "result") 1799 (.int 7 1795)] 4), #[]⟩
noncomputable def x630 (P : Params) : Obj := ⟨(.type "dict"), none, (.dict #[ek P (Str.ofString "s") 1815 (.str (Str.ofString "h-") 1806), ek P (Str.ofString "substring_i") 1817 (.int (-1) 1808), ek P (Str.ofString "result") 1819 (.int 1 1809)] 3), #[]⟩
noncomputable def x631 (P : Params) : Obj := ⟨(.ref 220), (some 630), .plain, #[]⟩
noncomputable def x632 (P : Params) : Obj := ⟨(.type "frame"), none, (.dict #[ek P (Str.ofString "self") 1810 (.ref 631), ek P (Str.ofString "s") 1811 (.str (Str.ofString "h-") 1806), ek P (Str.ofString "substring_i") 1812 (.int (-1) 1808), ek P (Str.ofString "result") 1813 (.int 1 1809)] 4), #[]⟩
noncomputable def x633 (P : Params) : Obj := ⟨(.type "dict"), none, (.dict #[ek P (Str.ofString "s") 1829 (.str (Str.ofString "m'") 1820), ek P (Str.ofString "substring_i") 1831 (.int (-1) 1822), ek P (Str.ofString "result") 1833 (.int 1 1823)] 3), #[]⟩
noncomputable def x634 (P : Params) : Obj := ⟨(.ref 220), (some 633), .plain, #[]⟩
noncomputable def x635 (P : Params) : Obj := ⟨(.type "frame"), none, (.dict #[ek P (Str.ofString "self") 1824 (.ref 634), ek P (Str.ofString "s") 1825 (.str (Str.ofString "m'") 1820), ek P (Str.ofString "substring_i") 1826 (.int (-1) 1822), ek P (Str.ofString "result") 1827 (.int 1 1823)] 4), #[]⟩
noncomputable def x636 (P : Params) : Obj := ⟨(.type "dict"), none, (.dict #[ek P (Str.ofString "s") 1843 (.str (Str.ofString "mb") 1834), ek P (Str.ofString "substring_i") 1845 (.int (-1) 1836), ek P (Str.ofString "result") 1847 (.int 4 1837)] 3), #[]⟩
noncomputable def x637 (P : Params) : Obj := ⟨(.ref 220), (some 636), .plain, #[]⟩
noncomputable def x638 (P : Params) : Obj := ⟨(.type "frame"), none, (.dict #[ek P (Str.ofString "self") 1838 (.ref 637), ek P (Str.ofString "s") 1839 (.str (Str.ofString "mb") 1834), ek P (Str.ofString "substring_i") 1840 (.int (-1) 1836), ek P (Str.ofString "result") 1841 (.int 4 1837)] 4), #[]⟩
noncomputable def x639 (P : Params) : Obj := ⟨(.type "dict"), none, (.dict #[ek P (Str.ofString "s") 1857 (.str (Str.ofString "mh") 1848), ek P (Str.ofString "substring_i") 1859 (.int (-1) 1850), ek P (Str.ofString "result") 1861 (.int 10 1851)] 3), #[]⟩
noncomputable def x640 (P : Params) : Obj := ⟨(.ref 220), (some 639), .plain, #[]⟩
noncomputable def x641 (P : Params) : Obj := ⟨(.type "frame"), none, (.dict #[ek P (Str.ofString "self") 1852 (.ref 640), ek P (Str.ofString "s") 1853 (.str (Str.ofString "mh") 1848), ek P (Str.ofString "substring_i") 1854 (.int (-1) 1850), ek P (Str.ofString "result") 1855 (.int 10 1851)] 4), #[]⟩
noncomputable def x642 (P : Params) : Obj := ⟨(.type "dict"), none, (.dict #[ek P (Str.ofString "s") 1871 (.str (Str.ofString "n-") 1862), ek P (Str.ofString "substring_i") 1873 (.int (-1) 1864), ek P (Str.ofString "result") 1875 (.int 1 1865)] 3), #[]⟩
noncomputable def x643 (P : Params) : Obj := ⟨(.ref 220), (some 642), .plain, #[]⟩
noncomputable def x644 (P : Params) : Obj := ⟨(.type "frame"), none, (.dict #[ek P (Str.ofString "self") 1866 (.ref 643), ek P (Str.ofString "s") 1867 (.str (Str.ofString "n-") 1862), ek P (Str.ofString "substring_i") 1868 (.int (-1) 1864), ek P (Str.ofString "result") 1869 (.int 1 1865)] 4), #[]⟩
noncomputable def x645 (P : Params) : Obj := ⟨(.type "dict"), none, (.dict #[ek P (Str.ofString "s") 1885 (.str (Str.ofString "nd") 1876), ek P (Str.ofString "substring_i") 1887 (.int (-1) 1878), ek P (Str.ofString "result") 1889 (.int 6 1879)] 3), #[]⟩
noncomputable def x646 (P : Params) : Obj := ⟨(.ref 220), (some 645), .plain, #[]⟩
noncomputable def x647 (P : Params) : Obj := ⟨(.type "frame"), none, (.dict #[ek P (Str.ofString "self") 1880 (.ref 646), ek P (Str.ofString "s") 1881 (.str (Str.ofString "nd") 1876), ek P (Str.ofString "substring_i") 1882 (.int (-1) 1878), ek P (Str.ofString "result") 1883 (.int 6 1879)] 4), #[]⟩
noncomputable def x648 (P : Params) : Obj := ⟨(.type "dict"), none, (.dict #[ek P (Str.ofString "s") 1899 (.str (Str.ofString "ng") 1890), ek P (Str.ofString "substring_i") 1901 (.int (-1) 1892), ek P (Str.ofString "result") 1903 (.int 7 1893)] 3), #[]⟩
noncomputable def x649 (P : Params) : Obj := ⟨(.ref 220), (some 648), .plain, #[]⟩
noncomputable def x650 (P : Params) : Obj := ⟨(.type "frame"), none, (.dict #[ek P (Str.ofString "self") 1894 (.ref 649), ek P (Str.ofString "s") 1895 (.str (Str.ofString "ng") 1890), ek P (Str.ofString "substring_i") 1896 (.int (-1) 1892), ek P (Str.ofString "result") 1897 (.int 7 1893)] 4), #[]⟩
noncomputable def x651 (P : Params) : Obj := ⟨(.type "dict"), none, (.dict #[ek P (Str.ofString "s") 1913 (.str (Str.ofString "ph") 1904), ek P (Str.ofString "substring_i") 1915 (.int (-1) 1906), ek P (Str.ofString "result") 1917 (.int 8 1907)] 3), #[]⟩
noncomputable def x652 (P : Params) : Obj := ⟨(.ref 220), (some 651), .plain, #[]⟩
noncomputable def x653 (P : Params) : Obj := ⟨(.type "frame"), none, (.dict #[ek P (Str.ofString "self") 1908 (.ref 652), ek P (Str.ofString "s") 1909 (.str (Str.ofString "ph") 1904), ek P (Str.ofString "substring_i") 1910 (.int (-1) 1906), ek P (Str.ofString "result") 1911 (.int 8 1907)] 4), #[]⟩
noncomputable def x654 (P : Params) : Obj := ⟨(.type "dict"), none, (.dict #[ek P (Str.ofString "s") 1927 (.str (Str.ofString "sh") 1918), ek P (Str.ofString "substring_i") 1929 (.int (-1) 1920), ek P (Str.ofString "result") 1931 (.int 3 1921)] 3), #[]⟩
noncomputable def x655 (P : Params) : Obj := ⟨(.ref 220), (some 654), .plain, #[]⟩
noncomputable def x656 (P : Params) : Obj := ⟨(.type "frame"), none, (.dict #[ek P (Str.ofString "self") 1922 (.ref 655), ek P (Str.ofString "s") 1923 (.str (Str.ofString "sh") 1918), ek P (Str.ofString "substring_i") 1924 (.int (-1) 1920), ek P (Str.ofString "result") 1925 (.int 3 1921)] 4), #[]⟩
noncomputable def x657 (P : Params) : Obj := ⟨(.type "dict"), none, (.dict #[ek P (Str.ofString "s") 1941 (.str (Str.ofString "t-") 1932), ek P (Str.ofString "substring_i") 1943 (.int (-1) 1934), ek P (Str.ofString "result") 1945 (.int 1 1935)] 3), #[]⟩
noncomputable def x658 (P : Params) : Obj := ⟨(.ref 220), (some 657), .plain, #[]⟩
noncomputable def x659 (P : Params) : Obj := ⟨(.type "frame"), none, (.dict #[ek P (Str.ofString "self") 1936 (.ref 658), ek P (Str.ofString "s") 1937 (.str (Str.ofString "t-") 1932), ek P (Str.ofString "substring_i") 1938 (.int (-1) 1934), ek P (Str.ofString "result") 1939 (.int 1 1935)] 4), #[]⟩
noncomputable def x660 (P : Params) : Obj := ⟨(.type "dict"), none, (.dict #[ek P (Str.ofString "s") 1955 (.str (Str.ofString "th") 1946), ek P (Str.ofString "substring_i") 1957 (.int (-1) 1948), ek P (Str.ofString "result") 1959 (.int 9 1949)] 3), #[]⟩
noncomputable def x661 (P : Params) : Obj := ⟨(.ref 220), (some 660), .plain, #[]⟩
noncomputable def x662 (P : Params) : Obj := ⟨(.type "frame"), none, (.dict #[ek P (Str.ofString "self") 1950 (.ref 661), ek P (Str.ofString "s") 1951 (.str (Str.ofString "th") 1946), ek P (Str.ofString "substring_i") 1952 (.int (-1) 1948), ek P (Str.ofString "result") 1953 (.int 9 1949)] 4), #[]⟩
noncomputable def x663 (P : Params) : Obj := ⟨(.type "dict"), none, (.dict #[ek P (Str.ofString "s") 1969 (.str (Str.ofString "ts") 1960), ek P (Str.ofString "substring_i") 1971 (.int (-1) 1962), ek P (Str.ofString "result") 1973 (.int 3 1963)] 3), #[]⟩
noncomputable def x664 (P : Params) : Obj := ⟨(.ref 220), (some 663), .plain, #[]⟩
noncomputable def x665 (P : Params) : Obj := ⟨(.type "frame"), none, (.dict #[ek P (Str.ofString "self") 1964 (.ref 664), ek P (Str.ofString "s") 1965 (.str (Str.ofString "ts") 1960), ek P (Str.ofString "substring_i") 1966 (.int (-1) 1962), ek P (Str.ofString "result") 1967 (.int 3 1963)] 4), #[]⟩
noncomputable def x666 (P : Params) : Obj := ⟨(.type "list"), none, (.seq #[(.ref 595), (.ref 598), (.ref 601), (.ref 604), (.ref 607), (.ref 610), (.ref 613), (.ref 616), (.ref 619), (.ref 622), (.ref 625), (.ref 628), (.ref 631), (.ref 634), (.ref 637), (.ref 640), (.ref 643), (.ref 646), (.ref 649), (.ref 652), (.ref 655), (.ref 658), (.ref 661), (.ref 664)] 0), #[]⟩
noncomputable def x667 (P : Params) : Obj := ⟨(.type "tuple"), none, (.seq #[(.str (Str.ofString "") 1975), (.str (Str.ofString "f") 1976), (.str (Str.ofString "s") 1977), (.str (Str.ofString "b") 1978), (.str (Str.ofString "c") 1979), (.str (Str.ofString "d") 1980), (.str (Str.ofString "g") 1981), (.str (Str.ofString "p") 1982), (.str (Str.ofString "t") 1983), (.str (Str.ofString "m") 1984)] 0), #[]⟩
noncomputable def HI14 (P : Params) (o1 o2 o3 : SO) : List Obj := [x0 P, x1 P, x2 P, x3_2 P, x4 P, x5 P, x6 P, x7 P, x8 P, x9 P, x10 P, x11 P, x12_3 P, x13 P, x14 P, x15 P, x16 P, x17 P, x18 P, x19 P, x20 P, x21 P, x22 P, x23 P, x24 P, x25 P, x26 P, x27 P, x28 P, x29 P, x30 P, x31 P, x32 P, x33 P, x34 P, x35 P, x36 P, x37 P, x38 P, x39 P, x40 P, x41 P, x42 P, x43 P, x44 P, x45 P, x46 P, x47 P, x48 P, x49 P, x50 P, x51 P, x52 P, x53 P, x54 P, x55 P, x56 P, x57 P, x58 P, x59 P, x60 P, x61 P, x62 P, x63 P, x64 P, x65 P, x66 P, x67 P, x68 P, x69 P, x70 P, x71 P, x72 P, x73 P, x74 P, x75 P, x76 P, x77 P, x78 P, x79 P, x80 P, x81 P, x82 P, x83 P, x84 P, x85 P, x86 P, x87 P, x88 P, x89 P, x90 P, x91 P, x92 P, x93 P, x94 P, x95 P, x96 P, x97 P, x98 P, x99 P, x100 P, x101 P, x102 P, x103 P, x104 P, x105 P, x106 P, x107 P, x108 P, x109 P, x110 P, x111 P, x112 P, x113 P, x114 P, x115 P, x116 P, x117 P, x118 P, x119 P, x120 P, x121 P, x122 P, x123 P, x124 P, x125 P, x126 P, x127 P, x128 P, x129 P, x130 P, x131 P, x132 P, x133 P, x134 P, x135 P, x136 P, x137 P, x138 P, x139 P, x140 P, x141 P, x142 P, x143 P, x144 P, x145 P, x146 P, x147 P, x148 P, x149 P, x150 P, x151 P, x152 P, x153 P, x154 P, x155 P, x156 P, x157 P, x158 P, x159 P, x160 P, x161 P, x162 P, x163 P, x164 P, x165 P, x166 P, x167 P, x168 P, x169 P, x170 P, x171 P, x172 P, x173 P, x174 P, x175 P, x176 P, x177 P, x178 P, x179 P, x180 P, x181 P, x182 P, x183 P, x184 P, x185 P, x186 P, x187 P, x188 P, x189 P, x190 P, x191 P, x192 P, x193 P, x194 P, x195 P, x196 P, x197 P, x198 P, x199_1 P, x200 P, x201 P, x202 P, x203 P, x204 P, x205 P, x206 P, x207 P, x208 P, x209 P, x210 P, x211 P, x212 P, x213 P, x214 P, x215 P, x216 P, x217 P, x218 P, x219 P, x220 P, x221 P, x222 P, x223 P, x224 P, x225 P, x226 P, x227_7 P, x228 P, x229_1 P, x230 P, x231 P, o1.obj, o2.obj, x234 P, x235 P, x236 P, x237 P, x238 P, x239 P, x240 P, x241 P, x242 P, x243 P, x244 P, x245 P, x246 P, x247 P, x248 P, x249 P, x250 P, x251 P, x252 P, x253 P, x254 P, x255 P, x256 P, x257 P, x258 P, x259 P, x260 P, x261 P, x262 P, x263 P, x264 P, x265 P, x266 P, x267 P, x268 P, x269 P, x270 P, x271 P, x272 P, x273 P, x274 P, x275 P, x276 P, x277 P, x278 P, x279 P, x280 P, x281 P, x282 P, x283 P, x284 P, x285 P, x286 P, x287 P, x288 P, x289 P, x290 P, x291 P, x292 P, x293 P, x294 P, x295 P, x296 P, x297 P, x298 P, x299 P, x300 P, x301 P, x302 P, x303 P, x304 P, x305 P, x306 P, x307 P, x308 P, x309 P, x310 P, x311 P, x312 P, x313 P, x314 P, x315 P, x316 P, x317 P, x318 P, x319 P, x320 P, x321 P, x322 P, x323 P, x324 P, x325 P, x326 P, x327 P, x328 P, x329 P, x330 P, x331 P, x332 P, x333 P, x334 P, x335 P, x336 P, x337 P, x338 P, x339 P, x340 P, x341 P, x342 P, x343 P, x344 P, x345 P, x346 P, x347 P, x348 P, x349 P, x350 P, x351 P, x352 P, x353 P, x354 P, x355 P, x356 P, x357 P, x358 P, x359 P, x360 P, x361 P, x362 P, x363 P, x364 P, x365 P, x366 P, x367 P, x368 P, x369 P, x370 P, x371 P, x372 P, x373 P, x374 P, x375 P, x376 P, x377 P, x378 P, x379 P, x380 P, x381 P, x382 P, x383 P, x384 P, x385 P, x386 P, x387 P, x388 P, x389 P, x390 P, x391 P, x392 P, x393 P, x394 P, x395 P, x396 P, x397 P, x398 P, x399 P, x400 P, x401 P, x402 P, x403 P, x404 P, x405 P, x406 P, x407 P, x408 P, x409 P, x410 P, x411 P, x412 P, x413 P, x414 P, x415 P, x416 P, x417 P, x418 P, x419 P, x420 P, x421 P, x422 P, x423 P, x424 P, x425 P, x426 P, x427 P, x428 P, x429 P, x430 P, x431 P, x432 P, x433 P, x434 P, x435 P, x436 P, x437 P, x438 P, x439 P, x440 P, x441 P, x442 P, x443 P, x444 P, x445 P, x446 P, x447 P, x448 P, x449 P, x450 P, x451 P, x452 P, x453 P, x454 P, x455 P, x456 P, x457 P, x458 P, x459 P, x460 P, x461 P, x462 P, x463 P, x464 P, x465 P, x466 P, x467 P, x468 P, x469 P, x470 P, x471 P, x472 P, x473 P, x474 P, x475 P, x476 P, x477 P, x478 P, x479 P, x480 P, x481 P, x482 P, x483 P, x484 P, x485 P, x486 P, x487 P, x488 P, x489 P, x490 P, x491 P, x492 P, x493 P, x494 P, x495 P, x496 P, x497 P, x498 P, x499 P, x500 P, x501 P, x502 P, x503 P, x504 P, x505 P, x506 P, x507 P, x508 P, x509 P, x510 P, x511 P, x512 P, x513 P, x514 P, x515 P, x516 P, x517 P, x518 P, x519 P, x520 P, x521 P, x522 P, x523 P, x524 P, x525 P, x526 P, x527 P, x528 P, x529 P, x530 P, x531 P, x532_2 P, x533 P, x534_1 P, x535 P, x536 P, o3.obj, x538 P, x539 P, x540 P, x541 P, x542 P, x543 P, x544 P, x545 P, x546 P, x547 P, x548 P, x549 P, x550 P, x551 P, x552 P, x553 P, x554 P, x555 P, x556 P, x557 P, x558 P, x559 P, x560 P, x561 P, x562 P, x563 P, x564 P, x565 P, x566 P, x567 P, x568 P, x569 P, x570 P, x571 P, x572 P, x573 P, x574 P, x575 P, x576 P, x577 P, x578 P, x579 P, x580 P, x581 P, x582 P, x583 P, x584 P, x585 P, x586 P, x587 P, x588 P, x589 P, x590 P, x591 P, x592 P, x593 P, x594 P, x595 P, x596 P, x597 P, x598 P, x599 P, x600 P, x601 P, x602 P, x603 P, x604 P, x605 P, x606 P, x607 P, x608 P, x609 P, x610 P, x611 P, x612 P, x613 P, x614 P, x615 P, x616 P, x617 P, x618 P, x619 P, x620 P, x621 P, x622 P, x623 P, x624 P, x625 P, x626 P, x627 P, x628 P, x629 P, x630 P, x631 P, x632 P, x633 P, x634 P, x635 P, x636 P, x637 P, x638 P, x639 P, x640 P, x641 P, x642 P, x643 P, x644 P, x645 P, x646 P, x647 P, x648 P, x649 P, x650 P, x651 P, x652 P, x653 P, x654 P, x655 P, x656 P, x657 P, x658 P, x659 P, x660 P, x661 P, x662 P, x663 P, x664 P, x665 P, x666 P, x667 P]
abbrev posI14 : Pos := ⟨256, 4, 256, 8⟩
noncomputable def x532_3 (P : Params) : Obj := ⟨(.type "dict"), none, (.dict #[ek P (Str.ofString "__module__") 1552 (.str (Str.ofString "snowballstemmer.irish_stemmer") 1543), ek P (Str.ofString "__qualname__") 1554 (.str (Str.ofString "IrishStemmer") 1553), ek P (Str.ofString "__firstlineno__") 1556 (.int 226 1555), ek P (Str.ofString "g_v") 1577 (.ref 537), ek P (Str.ofString "I_p2") 1579 (.int 0 1578), ek P (Str.ofString "I_p1") 1581 (.int 0 1580), ek P (Str.ofString "I_pV") 1583 (.int 0 1582), ek P (Str.ofString "r_mark_regions") 1590 (.ref 544), ek P (Str.ofString "r_initial_morph") 1597 (.ref 551), ek P (Str.ofString "r_R1") 1604 (.ref 558), ek P (Str.ofString "r_R2") 1611 (.ref 565), ek P (Str.ofString "r_noun_sfx") 1618 (.ref 572), ek P (Str.ofString "r_deriv") 1625 (.ref 579), ek P (Str.ofString "r_verb_sfx") 1632 (.ref 586), ek P (Str.ofString "_stem") 1639 (.ref 593), ek P (Str.ofString "a_0") 1974 (.ref 666), ek P (Str.ofString "as_0") 1985 (.ref 667), ek P (Str.ofString "a_1") 2202 (.ref 716)] 18), #[]⟩
noncomputable def x668 (P : Params) : Obj := ⟨(.type "dict"), none, (.dict #[ek P (Str.ofString "s") 1995 (.str (Str.ofString "íochta") 1986), ek P (Str.ofString "substring_i") 1997 (.int (-1) 1988), ek P (Str.ofString "result") 1999 (.int 1 1989)] 3), #[]⟩
noncomputable def x669 (P : Params) : Obj := ⟨(.ref 220), (some 668), .plain, #[]⟩
noncomputable def x670 (P : Params) : Obj := ⟨(.type "frame"), none, (.dict #[ek P (Str.ofString "self") 1990 (.ref 669), ek P (Str.ofString "s") 1991 (.str (Str.ofString "íochta") 1986), ek P (Str.ofString "substring_i") 1992 (.int (-1) 1988), ek P (Str.ofString "result") 1993 (.int 1 1989)] 4), #[]⟩
noncomputable def x671 (P : Params) : Obj := ⟨(.type "dict"), none, (.dict #[ek P (Str.ofString "s") 2008 (.str (Str.ofString "aíochta") 2000), ek P (Str.ofString "substring_i") 2010 (.int 0 2001), ek P (Str.ofString "result") 2012 (.int 1 2002)] 3), #[]⟩
noncomputable def x672 (P : Params) : Obj := ⟨(.ref 220), (some 671), .plain, #[]⟩
noncomputable def x673 (P : Params) : Obj := ⟨(.type "frame"), none, (.dict #[ek P (Str.ofString "self") 2003 (.ref 672), ek P (Str.ofString "s") 2004 (.str (Str.ofString "aíochta") 2000), ek P (Str.ofString "substring_i") 2005 (.int 0 2001), ek P (Str.ofString "result") 2006 (.int 1 2002)] 4), #[]⟩
noncomputable def x674 (P : Params) : Obj := ⟨(.type "dict"), none, (.dict #[ek P (Str.ofString "s") 2022 (.str (Str.ofString "ire") 2013), ek P (Str.ofString "substring_i") 2024 (.int (-1) 2015), ek P (Str.ofString "result") 2026 (.int 2 2016)] 3), #[]⟩
noncomputable def x675 (P : Params) : Obj := ⟨(.ref 220), (some 674), .plain, #[]⟩
noncomputable def x676 (P : Params) : Obj := ⟨(.type "frame"), none, (.dict #[ek P (Str.ofString "self") 2017 (.ref 675), ek P (Str.ofString "s") 2018 (.str (Str.ofString "ire") 2013), ek P (Str.ofString "substring_i") 2019 (.int (-1) 2015), ek P (Str.ofString "result") 2020 (.int 2 2016)] 4), #[]⟩
noncomputable def x677 (P : Params) : Obj := ⟨(.type "dict"), none, (.dict #[ek P (Str.ofString "s") 2035 (.str (Str.ofString "aire") 2027), ek P (Str.ofString "substring_i") 2037 (.int 2 2028), ek P (Str.ofString "result") 2039 (.int 2 2029)] 3), #[]⟩
noncomputable def x678 (P : Params) : Obj := ⟨(.ref 220), (some 677), .plain, #[]⟩
noncomputable def x679 (P : Params) : Obj := ⟨(.type "frame"), none, (.dict #[ek P (Str.ofString "self") 2030 (.ref 678), ek P (Str.ofString "s") 2031 (.str (Str.ofString "aire") 2027), ek P (Str.ofString "substring_i") 2032 (.int 2 2028), ek P (Str.ofString "result") 2033 (.int 2 2029)] 4), #[]⟩
noncomputable def x680 (P : Params) : Obj := ⟨(.type "dict"), none, (.dict #[ek P (Str.ofString "s") 2049 (.str (Str.ofString "abh") 2040), ek P (Str.ofString "substring_i") 2051 (.int (-1) 2042), ek P (Str.ofString "result") 2053 (.int 1 2043)] 3), #[]⟩
noncomputable def x681 (P : Params) : Obj := ⟨(.ref 220), (some 680), .plain, #[]⟩
noncomputable def x682 (P : Params) : Obj := ⟨(.type "frame"), none, (.dict #[ek P (Str.ofString "self") 2044 (.ref 681), ek P (Str.ofString "s") 2045 (.str (Str.ofString "abh") 2040), ek P (Str.ofString "substring_i") 2046 (.int (-1) 2042), ek P (Str.ofString "result") 2047 (.int 1 2043)] 4), #[]⟩
noncomputable def x683 (P : Params) : Obj := ⟨(.type "dict"), none, (.dict #[ek P (Str.ofString "s") 2062 (.str (Str.ofString "eabh") 2054), ek P (Str.ofString "substring_i") 2064 (.int 4 2055), ek P (Str.ofString "result") 2066 (.int 1 2056)] 3), #[]⟩
noncomputable def x684 (P : Params) : Obj := ⟨(.ref 220), (some 683), .plain, #[]⟩
noncomputable def x685 (P : Params) : Obj := ⟨(.type "frame"), none, (.dict #[ek P (Str.ofString "self") 2057 (.ref 684), ek P (Str.ofString "s") 2058 (.str (Str.ofString "eabh") 2054), ek P (Str.ofString "substring_i") 2059 (.int 4 2055), ek P (Str.ofString "result") 2060 (.int 1 2056)] 4), #[]⟩
noncomputable def x686 (P : Params) : Obj := ⟨(.type "dict"), none, (.dict #[ek P (Str.ofString "s") 2076 (.str (Str.ofString "ibh") 2067), ek P (Str.ofString "substring_i") 2078 (.int (-1) 2069), ek P (Str.ofString "result") 2080 (.int 1 2070)] 3), #[]⟩
noncomputable def x687 (P : Params) : Obj := ⟨(.ref 220), (some 686), .plain, #[]⟩
noncomputable def x688 (P : Params) : Obj := ⟨(.type "frame"), none, (.dict #[ek P (Str.ofString "self") 2071 (.ref 687), ek P (Str.ofString "s") 2072 (.str (Str.ofString "ibh") 2067), ek P (Str.ofString "substring_i") 2073 (.int (-1) 2069), ek P (Str.ofString "result") 2074 (.int 1 2070)] 4), #[]⟩
noncomputable def x689 (P : Params) : Obj := ⟨(.type "dict"), none, (.dict #[ek P (Str.ofString "s") 2089 (.str (Str.ofString "aibh") 2081), ek P (Str.ofString "substring_i") 2091 (.int 6 2082), ek P (Str.ofString "result") 2093 (.int 1 2083)] 3), #[]⟩
noncomputable def x690 (P : Params) : Obj := ⟨(.ref 220), (some 689), .plain, #[]⟩
noncomputable def x691 (P : Params) : Obj := ⟨(.type "frame"), none, (.dict #[ek P (Str.ofString "self") 2084 (.ref 690), ek P (Str.ofString "s") 2085 (.str (Str.ofString "aibh") 2081), ek P (Str.ofString "substring_i") 2086 (.int 6 2082), ek P (Str.ofString "result") 2087 (.int 1 2083)] 4), #[]⟩
noncomputable def x692 (P : Params) : Obj := ⟨(.type "dict"), none, (.dict #[ek P (Str.ofString "s") 2103 (.str (Str.ofString "amh") 2094), ek P (Str.ofString "substring_i") 2105 (.int (-1) 2096), ek P (Str.ofString "result") 2107 (.int 1 2097)] 3), #[]⟩
noncomputable def x693 (P : Params) : Obj := ⟨(.ref 220), (some 692), .plain, #[]⟩
noncomputable def x694 (P : Params) : Obj := ⟨(.type "frame"), none, (.dict #[ek P (Str.ofString "self") 2098 (.ref 693), ek P (Str.ofString "s") 2099 (.str (Str.ofString "amh") 2094), ek P (Str.ofString "substring_i") 2100 (.int (-1) 2096), ek P (Str.ofString "result") 2101 (.int 1 2097)] 4), #[]⟩
noncomputable def x695 (P : Params) : Obj := ⟨(.type "dict"), none, (.dict #[ek P (Str.ofString "s") 2116 (.str (Str.ofString "eamh") 2108), ek P (Str.ofString "substring_i") 2118 (.int 8 2109), ek P (Str.ofString "result") 2120 (.int 1 2110)] 3), #[]⟩
noncomputable def x696 (P : Params) : Obj := ⟨(.ref 220), (some 695), .plain, #[]⟩
noncomputable def x697 (P : Params) : Obj := ⟨(.type "frame"), none, (.dict #[ek P (Str.ofString "self") 2111 (.ref 696), ek P (Str.ofString "s") 2112 (.str (Str.ofString "eamh") 2108), ek P (Str.ofString "substring_i") 2113 (.int 8 2109), ek P (Str.ofString "result") 2114 (.int 1 2110)] 4), #[]⟩
noncomputable def x698 (P : Params) : Obj := ⟨(.type "dict"), none, (.dict #[ek P (Str.ofString "s") 2130 (.str (Str.ofString "imh") 2121), ek P (Str.ofString "substring_i") 2132 (.int (-1) 2123), ek P (Str.ofString "result") 2134 (.int 1 2124)] 3), #[]⟩
noncomputable def x699 (P : Params) : Obj := ⟨(.ref 220), (some 698), .plain, #[]⟩
noncomputable def x700 (P : Params) : Obj := ⟨(.type "frame"), none, (.dict #[ek P (Str.ofString "self") 2125 (.ref 699), ek P (Str.ofString "s") 2126 (.str (Str.ofString "imh") 2121), ek P (Str.ofString "substring_i") 2127 (.int (-1) 2123), ek P (Str.ofString "result") 2128 (.int 1 2124)] 4), #[]⟩
noncomputable def x701 (P : Params) : Obj := ⟨(.type "dict"), none, (.dict #[ek P (Str.ofString "s") 2143 (.str (Str.ofString "aimh") 2135), ek P (Str.ofString "substring_i") 2145 (.int 10 2136), ek P (Str.ofString "result") 2147 (.int 1 2137)] 3), #[]⟩
noncomputable def x702 (P : Params) : Obj := ⟨(.ref 220), (some 701), .plain, #[]⟩
noncomputable def x703 (P : Params) : Obj := ⟨(.type "frame"), none, (.dict #[ek P (Str.ofString "self") 2138 (.ref 702), ek P (Str.ofString "s") 2139 (.str (Str.ofString "aimh") 2135), ek P (Str.ofString "substring_i") 2140 (.int 10 2136), ek P (Str.ofString "result") 2141 (.int 1 2137)] 4), #[]⟩
noncomputable def x704 (P : Params) : Obj := ⟨(.type "dict"), none, (.dict #[ek P (Str.ofString "s") 2157 (.str (Str.ofString "íocht") 2148), ek P (Str.ofString "substring_i") 2159 (.int (-1) 2150), ek P (Str.ofString "result") 2161 (.int 1 2151)] 3), #[]⟩
noncomputable def x705 (P : Params) : Obj := ⟨(.ref 220), (some 704), .plain, #[]⟩
noncomputable def x706 (P : Params) : Obj := ⟨(.type "frame"), none, (.dict #[ek P (Str.ofString "self") 2152 (.ref 705), ek P (Str.ofString "s") 2153 (.str (Str.ofString "íocht") 2148), ek P (Str.ofString "substring_i") 2154 (.int (-1) 2150), ek P (Str.ofString "result") 2155 (.int 1 2151)] 4), #[]⟩
noncomputable def x707 (P : Params) : Obj := ⟨(.type "dict"), none, (.dict #[ek P (Str.ofString "s") 2170 (.str (Str.ofString "aíocht") 2162), ek P (Str.ofString "substring_i") 2172 (.int 12 2163), ek P (Str.ofString "result") 2174 (.int 1 2164)] 3), #[]⟩
noncomputable def x708 (P : Params) : Obj := ⟨(.ref 220), (some 707), .plain, #[]⟩
noncomputable def x709 (P : Params) : Obj := ⟨(.type "frame"), none, (.dict #[ek P (Str.ofString "self") 2165 (.ref 708), ek P (Str.ofString "s") 2166 (.str (Str.ofString "aíocht") 2162), ek P (Str.ofString "substring_i") 2167 (.int 12 2163), ek P (Str.ofString "result") 2168 (.int 1 2164)] 4), #[]⟩
noncomputable def x710 (P : Params) : Obj := ⟨(.type "dict"), none, (.dict #[ek P (Str.ofString "s") 2184 (.str (Str.ofString "irí") 2175), ek P (Str.ofString "substring_i") 2186 (.int (-1) 2177), ek P (Str.ofString "result") 2188 (.int 2 2178)] 3), #[]⟩
noncomputable def x711 (P : Params) : Obj := ⟨(.ref 220), (some 710), .plain, #[]⟩
noncomputable def x712 (P : Params) : Obj := ⟨(.type "frame"), none, (.dict #[ek P (Str.ofString "self") 2179 (.ref 711), ek P (Str.ofString "s") 2180 (.str (Str.ofString "irí") 2175), ek P (Str.ofString "substring_i") 2181 (.int (-1) 2177), ek P (Str.ofString "result") 2182 (.int 2 2178)] 4), #[]⟩
noncomputable def x713 (P : Params) : Obj := ⟨(.type "dict"), none, (.dict #[ek P (Str.ofString "s") 2197 (.str (Str.ofString "airí") 2189), ek P (Str.ofString "substring_i") 2199 (.int 14 2190), ek P (Str.ofString "result") 2201 (.int 2 2191)] 3), #[]⟩
noncomputable def x714 (P : Params) : Obj := ⟨(.ref 220), (some 713), .plain, #[]⟩
noncomputable def x715 (P : Params) : Obj := ⟨(.type "frame"), none, (.dict #[ek P (Str.ofString "self") 2192 (.ref 714), ek P (Str.ofString "s") 2193 (.str (Str.ofString "airí") 2189), ek P (Str.ofString "substring_i") 2194 (.int 14 2190), ek P (Str.ofString "result") 2195 (.int 2 2191)] 4), #[]⟩
noncomputable def x716 (P : Params) : Obj := ⟨(.type "list"), none, (.seq #[(.ref 669), (.ref 672), (.ref 675), (.ref 678), (.ref 681), (.ref 684), (.ref 687), (.ref 690), (.ref 693), (.ref 696), (.ref 699), (.ref 702), (.ref 705), (.ref 708), (.ref 711), (.ref 714)] 0), #[]⟩
noncomputable def HI15 (P : Params) (o1 o2 o3 : SO) : List Obj := [x0 P, x1 P, x2 P, x3_2 P, x4 P, x5 P, x6 P, x7 P, x8 P, x9 P, x10 P, x11 P, x12_3 P, x13 P, x14 P, x15 P, x16 P, x17 P, x18 P, x19 P, x20 P, x21 P, x22 P, x23 P, x24 P, x25 P, x26 P, x27 P, x28 P, x29 P, x30 P, x31 P, x32 P, x33 P, x34 P, x35 P, x36 P, x37 P, x38 P, x39 P, x40 P, x41 P, x42 P, x43 P, x44 P, x45 P, x46 P, x47 P, x48 P, x49 P, x50 P, x51 P, x52 P, x53 P, x54 P, x55 P, x56 P, x57 P, x58 P, x59 P, x60 P, x61 P, x62 P, x63 P, x64 P, x65 P, x66 P, x67 P, x68 P, x69 P, x70 P, x71 P, x72 P, x73 P, x74 P, x75 P, x76 P, x77 P, x78 P, x79 P, x80 P, x81 P, x82 P, x83 P, x84 P, x85 P, x86 P, x87 P, x88 P, x89 P, x90 P, x91 P, x92 P, x93 P, x94 P, x95 P, x96 P, x97 P, x98 P, x99 P, x100 P, x101 P, x102 P, x103 P, x104 P, x105 P, x106 P, x107 P, x108 P, x109 P, x110 P, x111 P, x112 P, x113 P, x114 P, x115 P, x116 P, x117 P, x118 P, x119 P, x120 P, x121 P, x122 P, x123 P, x124 P, x125 P, x126 P, x127 P, x128 P, x129 P, x130 P, x131 P, x132 P, x133 P, x134 P, x135 P, x136 P, x137 P, x138 P, x139 P, x140 P, x141 P, x142 P, x143 P, x144 P, x145 P, x146 P, x147 P, x148 P, x149 P, x150 P, x151 P, x152 P, x153 P, x154 P, x155 P, x156 P, x157 P, x158 P, x159 P, x160 P, x161 P, x162 P, x163 P, x164 P, x165 P, x166 P, x167 P, x168 P, x169 P, x170 P, x171 P, x172 P, x173 P, x174 P, x175 P, x176 P, x177 P, x178 P, x179 P, x180 P, x181 P, x182 P, x183 P, x184 P, x185 P, x186 P, x187 P, x188 P, x189 P, x190 P, x191 P, x192 P, x193 P, x194 P, x195 P, x196 P, x197 P, x198 P, x199_1 P, x200 P, x201 P, x202 P, x203 P, x204 P, x205 P, x206 P, x207 P, x208 P, x209 P, x210 P, x211 P, x212 P, x213 P, x214 P, x215 P, x216 P, x217 P, x218 P, x219 P, x220 P, x221 P, x222 P, x223 P, x224 P, x225 P, x226 P, x227_7 P, x228 P, x229_1 P, x230 P, x231 P, o1.obj, o2.obj, x234 P, x235 P, x236 P, x237 P, x238 P, x239 P, x240 P, x241 P, x242 P, x243 P, x244 P, x245 P, x246 P, x247 P, x248 P, x249 P, x250 P, x251 P, x252 P, x253 P, x254 P, x255 P, x256 P, x257 P, x258 P, x259 P, x260 P, x261 P, x262 P, x263 P, x264 P, x265 P, x266 P, x267 P, x268 P, x269 P, x270 P, x271 P, x272 P, x273 P, x274 P, x275 P, x276 P, x277 P, x278 P, x279 P, x280 P, x281 P, x282 P, x283 P, x284 P, x285 P, x286 P, x287 P, x288 P, x289 P, x290 P, x291 P, x292 P, x293 P, x294 P, x295 P, x296 P, x297 P, x298 P, x299 P, x300 P, x301 P, x302 P, x303 P, x304 P, x305 P, x306 P, x307 P, x308 P, x309 P, x310 P, x311 P, x312 P, x313 P, x314 P, x315 P, x316 P, x317 P, x318 P, x319 P, x320 P, x321 P, x322 P, x323 P, x324 P, x325 P, x326 P, x327 P, x328 P, x329 P, x330 P, x331 P, x332 P, x333 P, x334 P, x335 P, x336 P, x337 P, x338 P, x339 P, x340 P, x341 P, x342 P, x343 P, x344 P, x345 P, x346 P, x347 P, x348 P, x349 P, x350 P, x351 P, x352 P, x353 P, x354 P, x355 P, x356 P, x357 P, x358 P, x359 P, x360 P, x361 P, x362 P, x363 P, x364 P, x365 P, x366 P, x367 P, x368 P, x369 P, x370 P, x371 P, x372 P, x373 P, x374 P, x375 P, x376 P, x377 P, x378 P, x379 P, x380 P, x381 P, x382 P, x383 P, x384 P, x385 P, x386 P, x387 P, x388 P, x389 P, x390 P, x391 P, x392 P, x393 P, x394 P, x395 P, x396 P, x397 P, x398 P, x399 P, x400 P, x401 P, x402 P, x403 P, x404 P, x405 P, x406 P, x407 P, x408 P, x409 P, x410 P, x411 P, x412 P, x413 P, x414 P, x415 P, x416 P, x417 P, x418 P, x419 P, x420 P, x421 P, x422 P, x423 P, x424 P, x425 P, x426 P, x427 P, x428 P, x429 P, x430 P, x431 P, x432 P, x433 P, x434 P, x435 P, x436 P, x437 P, x438 P, x439 P, x440 P, x441 P, x442 P, x443 P, x444 P, x445 P, x446 P, x447 P, x448 P, x449 P, x450 P, x451 P, x452 P, x453 P, x454 P, x455 P, x456 P, x457 P, x458 P, x459 P, x460 P, x461 P, x462 P, x463 P, x464 P, x465 P, x466 P, x467 P, x468 P, x469 P, x470 P, x471 P, x472 P, x473 P, x474 P, x475 P, x476 P, x477 P, x478 P, x479 P, x480 P, x481 P, x482 P, x483 P, x484 P, x485 P, x486 P, x487 P, x488 P, x489 P, x490 P, x491 P, x492 P, x493 P, x494 P, x495 P, x496 P, x497 P, x498 P, x499 P, x500 P, x501 P, x502 P, x503 P, x504 P, x505 P, x506 P, x507 P, x508 P, x509 P, x510 P, x511 P, x512 P, x513 P, x514 P, x515 P, x516 P, x517 P, x518 P, x519 P, x520 P, x521 P, x522 P, x523 P, x524 P, x525 P, x526 P, x527 P, x528 P, x529 P, x530 P, x531 P, x532_3 P, x533 P, x534_1 P, x535 P, x536 P, o3.obj, x538 P, x539 P, x540 P, x541 P, x542 P, x543 P, x544 P, x545 P, x546 P, x547 P, x548 P, x549 P, x550 P, x551 P, x552 P, x553 P, x554 P, x555 P, x556 P, x557 P, x558 P, x559 P, x560 P, x561 P, x562 P, x563 P, x564 P, x565 P, x566 P, x567 P, x568 P, x569 P, x570 P, x571 P, x572 P, x573 P, x574 P, x575 P, x576 P, x577 P, x578 P, x579 P, x580 P, x581 P, x582 P, x583 P, x584 P, x585 P, x586 P, x587 P, x588 P, x589 P, x590 P, x591 P, x592 P, x593 P, x594 P, x595 P, x596 P, x597 P, x598 P, x599 P, x600 P, x601 P, x602 P, x603 P, x604 P, x605 P, x606 P, x607 P, x608 P, x609 P, x610 P, x611 P, x612 P, x613 P, x614 P, x615 P, x616 P, x617 P, x618 P, x619 P, x620 P, x621 P, x622 P, x623 P, x624 P, x625 P, x626 P, x627 P, x628 P, x629 P, x630 P, x631 P, x632 P, x633 P, x634 P, x635 P, x636 P, x637 P, x638 P, x639 P, x640 P, x641 P, x642 P, x643 P, x644 P, x645 P, x646 P, x647 P, x648 P, x649 P, x650 P, x651 P, x652 P, x653 P, x654 P, x655 P, x656 P, x657 P, x658 P, x659 P, x660 P, x661 P, x662 P, x663 P, x664 P, x665 P, x666 P, x667 P, x668 P, x669 P, x670 P, x671 P, x672 P, x673 P, x674 P, x675 P, x676 P, x677 P, x678 P, x679 P, x680 P, x681 P, x682 P, x683 P, x684 P, x685 P, x686 P, x687 P, x688 P, x689 P, x690 P, x691 P, x692 P, x693 P, x694 P, x695 P, x696 P, x697 P, x698 P, x699 P, x700 P, x701 P, x702 P, x703 P, x704 P, x705 P, x706 P, x707 P, x708 P, x709 P, x710 P, x711 P, x712 P, x713 P, x714 P, x715 P, x716 P]
abbrev posI15 : Pos := ⟨257, 4, 257, 7⟩
noncomputable def x532_4 (P : Params) : Obj := ⟨(.type "dict"), none, (.dict #[ek P (Str.ofString "__module__") 1552 (.str (Str.ofString "snowballstemmer.irish_stemmer") 1543), ek P (Str.ofString "__qualname__") 1554 (.str (Str.ofString "IrishStemmer") 1553), ek P (Str.ofString "__firstlineno__") 1556 (.int 226 1555), ek P (Str.ofString "g_v") 1577 (.ref 537), ek P (Str.ofString "I_p2") 1579 (.int 0 1578), ek P (Str.ofString "I_p1") 1581 (.int 0 1580), ek P (Str.ofString "I_pV") 1583 (.int 0 1582), ek P (Str.ofString "r_mark_regions") 1590 (.ref 544), ek P (Str.ofString "r_initial_morph") 1597 (.ref 551), ek P (Str.ofString "r_R1") 1604 (.ref 558), ek P (Str.ofString "r_R2") 1611 (.ref 565), ek P (Str.ofString "r_noun_sfx") 1618 (.ref 572), ek P (Str.ofString "r_deriv") 1625 (.ref 579), ek P (Str.ofString "r_verb_sfx") 1632 (.ref 586), ek P (Str.ofString "_stem") 1639 (.ref 593), ek P (Str.ofString "a_0") 1974 (.ref 666), ek P (Str.ofString "as_0") 1985 (.ref 667), ek P (Str.ofString "a_1") 2202 (.ref 716), ek P (Str.ofString "a_2") 2544 (.ref 792)] 19), #[]⟩
noncomputable def x717 (P : Params) : Obj := ⟨(.type "dict"), none, (.dict #[ek P (Str.ofString "s") 2212 (.str (Str.ofString "óideacha") 2203), ek P (Str.ofString "substring_i") 2214 (.int (-1) 2205), ek P (Str.ofString "result") 2216 (.int 6 2206)] 3), #[]⟩
noncomputable def x718 (P : Params) : Obj := ⟨(.ref 220), (some 717), .plain, #[]⟩
noncomputable def x719 (P : Params) : Obj := ⟨(.type "frame"), none, (.dict #[ek P (Str.ofString "self") 2207 (.ref 718), ek P (Str.ofString "s") 2208 (.str (Str.ofString "óideacha") 2203), ek P (Str.ofString "substring_i") 2209 (.int (-1) 2205), ek P (Str.ofString "result") 2210 (.int 6 2206)] 4), #[]⟩
noncomputable def x720 (P : Params) : Obj := ⟨(.type "dict"), none, (.dict #[ek P (Str.ofString "s") 2226 (.str (Str.ofString "patacha") 2217), ek P (Str.ofString "substring_i") 2228 (.int (-1) 2219), ek P (Str.ofString "result") 2230 (.int 5 2220)] 3), #[]⟩
noncomputable def x721 (P : Params) : Obj := ⟨(.ref 220), (some 720), .plain, #[]⟩
noncomputable def x722 (P : Params) : Obj := ⟨(.type "frame"), none, (.dict #[ek P (Str.ofString "self") 2221 (.ref 721), ek P (Str.ofString "s") 2222 (.str (Str.ofString "patacha") 2217), ek P (Str.ofString "substring_i") 2223 (.int (-1) 2219), ek P (Str.ofString "result") 2224 (.int 5 2220)] 4), #[]⟩
noncomputable def x723 (P : Params) : Obj := ⟨(.type "dict"), none, (.dict #[ek P (Str.ofString "s") 2240 (.str (Str.ofString "achta") 2231), ek P (Str.ofString "substring_i") 2242 (.int (-1) 2233), ek P (Str.ofString "result") 2244 (.int 1 2234)] 3), #[]⟩
noncomputable def x724 (P : Params) : Obj := ⟨(.ref 220), (some 723), .plain, #[]⟩
noncomputable def x725 (P : Params) : Obj := ⟨(.type "frame"), none, (.dict #[ek P (Str.ofString "self") 2235 (.ref 724), ek P (Str.ofString "s") 2236 (.str (Str.ofString "achta") 2231), ek P (Str.ofString "substring_i") 2237 (.int (-1) 2233), ek P (Str.ofString "result") 2238 (.int 1 2234)] 4), #[]⟩
noncomputable def x726 (P : Params) : Obj := ⟨(.type "dict"), none, (.dict #[ek P (Str.ofString "s") 2253 (.str (Str.ofString "arcachta") 2245), ek P (Str.ofString "substring_i") 2255 (.int 2 2246), ek P (Str.ofString "result") 2257 (.int 2 2247)] 3), #[]⟩
noncomputable def x727 (P : Params) : Obj := ⟨(.ref 220), (some 726), .plain, #[]⟩
noncomputable def x728 (P : Params) : Obj := ⟨(.type "frame"), none, (.dict #[ek P (Str.ofString "self") 2248 (.ref 727), ek P (Str.ofString "s") 2249 (.str (Str.ofString "arcachta") 2245), ek P (Str.ofString "substring_i") 2250 (.int 2 2246), ek P (Str.ofString "result") 2251 (.int 2 2247)] 4), #[]⟩
noncomputable def x729 (P : Params) : Obj := ⟨(.type "dict"), none, (.dict #[ek P (Str.ofString "s") 2266 (.str (Str.ofString "eachta") 2258), ek P (Str.ofString "substring_i") 2268 (.int 2 2259), ek P (Str.ofString "result") 2270 (.int 1 2260)] 3), #[]⟩
noncomputable def x730 (P : Params) : Obj := ⟨(.ref 220), (some 729), .plain, #[]⟩
noncomputable def x731 (P : Params) : Obj := ⟨(.type "frame"), none, (.dict #[ek P (Str.ofString "self") 2261 (.ref 730), ek P (Str.ofString "s") 2262 (.str (Str.ofString "eachta") 2258), ek P (Str.ofString "substring_i") 2263 (.int 2 2259), ek P (Str.ofString "result") 2264 (.int 1 2260)] 4), #[]⟩
noncomputable def x732 (P : Params) : Obj := ⟨(.type "dict"), none, (.dict #[ek P (Str.ofString "s") 2280 (.str (Str.ofString "grafaíochta") 2271), ek P (Str.ofString "substring_i") 2282 (.int (-1) 2273), ek P (Str.ofString "result") 2284 (.int 4 2274)] 3), #[]⟩
noncomputable def x733 (P : Params) : Obj := ⟨(.ref 220), (some 732), .plain, #[]⟩
noncomputable def x734 (P : Params) : Obj := ⟨(.type "frame"), none, (.dict #[ek P (Str.ofString "self") 2275 (.ref 733), ek P (Str.ofString "s") 2276 (.str (Str.ofString "grafaíochta") 2271), ek P (Str.ofString "substring_i") 2277 (.int (-1) 2273), ek P (Str.ofString "result") 2278 (.int 4 2274)] 4), #[]⟩
noncomputable def x735 (P : Params) : Obj := ⟨(.type "dict"), none, (.dict #[ek P (Str.ofString "s") 2294 (.str (Str.ofString "paite") 2285), ek P (Str.ofString "substring_i") 2296 (.int (-1) 2287), ek P (Str.ofString "result") 2298 (.int 5 2288)] 3), #[]⟩
noncomputable def x736 (P : Params) : Obj := ⟨(.ref 220), (some 735), .plain, #[]⟩
noncomputable def x737 (P : Params) : Obj := ⟨(.type "frame"), none, (.dict #[ek P (Str.ofString "self") 2289 (.ref 736), ek P (Str.ofString "s") 2290 (.str (Str.ofString "paite") 2285), ek P (Str.ofString "substring_i") 2291 (.int (-1) 2287), ek P (Str.ofString "result") 2292 (.int 5 2288)] 4), #[]⟩
noncomputable def x738 (P : Params) : Obj := ⟨(.type "dict"), none, (.dict #[ek P (Str.ofString "s") 2308 (.str (Str.ofString "ach") 2299), ek P (Str.ofString "substring_i") 2310 (.int (-1) 2301), ek P (Str.ofString "result") 2312 (.int 1 2302)] 3), #[]⟩
noncomputable def x739 (P : Params) : Obj := ⟨(.ref 220), (some 738), .plain, #[]⟩
noncomputable def x740 (P : Params) : Obj := ⟨(.type "frame"), none, (.dict #[ek P (Str.ofString "self") 2303 (.ref 739), ek P (Str.ofString "s") 2304 (.str (Str.ofString "ach") 2299), ek P (Str.ofString "substring_i") 2305 (.int (-1) 2301), ek P (Str.ofString "result") 2306 (.int 1 2302)] 4), #[]⟩
noncomputable def x741 (P : Params) : Obj := ⟨(.type "dict"), none, (.dict #[ek P (Str.ofString "s") 2321 (.str (Str.ofString "each") 2313), ek P (Str.ofString "substring_i") 2323 (.int 7 2314), ek P (Str.ofString "result") 2325 (.int 1 2315)] 3), #[]⟩
noncomputable def x742 (P : Params) : Obj := ⟨(.ref 220), (some 741), .plain, #[]⟩
noncomputable def x743 (P : Params) : Obj := ⟨(.type "frame"), none, (.dict #[ek P (Str.ofString "self") 2316 (.ref 742), ek P (Str.ofString "s") 2317 (.str (Str.ofString "each") 2313), ek P (Str.ofString "substring_i") 2318 (.int 7 2314), ek P (Str.ofString "result") 2319 (.int 1 2315)] 4), #[]⟩
noncomputable def x744 (P : Params) : Obj := ⟨(.type "dict"), none, (.dict #[ek P (Str.ofString "s") 2334 (.str (Str.ofString "óideach") 2326), ek P (Str.ofString "substring_i") 2336 (.int 8 2327), ek P (Str.ofString "result") 2338 (.int 6 2328)] 3), #[]⟩
noncomputable def x745 (P : Params) : Obj := ⟨(.ref 220), (some 744), .plain, #[]⟩
noncomputable def x746 (P : Params) : Obj := ⟨(.type "frame"), none, (.dict #[ek P (Str.ofString "self") 2329 (.ref 745), ek P (Str.ofString "s") 2330 (.str (Str.ofString "óideach") 2326), ek P (Str.ofString "substring_i") 2331 (.int 8 2327), ek P (Str.ofString "result") 2332 (.int 6 2328)] 4), #[]⟩
noncomputable def x747 (P : Params) : Obj := ⟨(.type "dict"), none, (.dict #[ek P (Str.ofString "s") 2347 (.str (Str.ofString "gineach") 2339), ek P (Str.ofString "substring_i") 2349 (.int 8 2340), ek P (Str.ofString "result") 2351 (.int 3 2341)] 3), #[]⟩
noncomputable def x748 (P : Params) : Obj := ⟨(.ref 220), (some 747), .plain, #[]⟩
noncomputable def x749 (P : Params) : Obj := ⟨(.type "frame"), none, (.dict #[ek P (Str.ofString "self") 2342 (.ref 748), ek P (Str.ofString "s") 2343 (.str (Str.ofString "gineach") 2339), ek P (Str.ofString "substring_i") 2344 (.int 8 2340), ek P (Str.ofString "result") 2345 (.int 3 2341)] 4), #[]⟩
noncomputable def x750 (P : Params) : Obj := ⟨(.type "dict"), none, (.dict #[ek P (Str.ofString "s") 2360 (.str (Str.ofString "patach") 2352), ek P (Str.ofString "substring_i") 2362 (.int 7 2353), ek P (Str.ofString "result") 2364 (.int 5 2354)] 3), #[]⟩
noncomputable def x751 (P : Params) : Obj := ⟨(.ref 220), (some 750), .plain, #[]⟩
noncomputable def x752 (P : Params) : Obj := ⟨(.type "frame"), none, (.dict #[ek P (Str.ofString "self") 2355 (.ref 751), ek P (Str.ofString "s") 2356 (.str (Str.ofString "patach") 2352), ek P (Str.ofString "substring_i") 2357 (.int 7 2353), ek P (Str.ofString "result") 2358 (.int 5 2354)] 4), #[]⟩
noncomputable def x753 (P : Params) : Obj := ⟨(.type "dict"), none, (.dict #[ek P (Str.ofString "s") 2374 (.str (Str.ofString "grafaíoch") 2365), ek P (Str.ofString "substring_i") 2376 (.int (-1) 2367), ek P (Str.ofString "result") 2378 (.int 4 2368)] 3), #[]⟩
noncomputable def x754 (P : Params) : Obj := ⟨(.ref 220), (some 753), .plain, #[]⟩
noncomputable def x755 (P : Params) : Obj := ⟨(.type "frame"), none, (.dict #[ek P (Str.ofString "self") 2369 (.ref 754), ek P (Str.ofString "s") 2370 (.str (Str.ofString "grafaíoch") 2365), ek P (Str.ofString "substring_i") 2371 (.int (-1) 2367), ek P (Str.ofString "result") 2372 (.int 4 2368)] 4), #[]⟩
noncomputable def x756 (P : Params) : Obj := ⟨(.type "dict"), none, (.dict #[ek P (Str.ofString "s") 2388 (.str (Str.ofString "pataigh") 2379), ek P (Str.ofString "substring_i") 2390 (.int (-1) 2381), ek P (Str.ofString "result") 2392 (.int 5 2382)] 3), #[]⟩
noncomputable def x757 (P : Params) : Obj := ⟨(.ref 220), (some 756), .plain, #[]⟩
noncomputable def x758 (P : Params) : Obj := ⟨(.type "frame"), none, (.dict #[ek P (Str.ofString "self") 2383 (.ref 757), ek P (Str.ofString "s") 2384 (.str (Str.ofString "pataigh") 2379), ek P (Str.ofString "substring_i") 2385 (.int (-1) 2381), ek P (Str.ofString "result") 2386 (.int 5 2382)] 4), #[]⟩
noncomputable def x759 (P : Params) : Obj := ⟨(.type "dict"), none, (.dict #[ek P (Str.ofString "s") 2402 (.str (Str.ofString "óidigh") 2393), ek P (Str.ofString "substring_i") 2404 (.int (-1) 2395), ek P (Str.ofString "result") 2406 (.int 6 2396)] 3), #[]⟩
noncomputable def x760 (P : Params) : Obj := ⟨(.ref 220), (some 759), .plain, #[]⟩
noncomputable def x761 (P : Params) : Obj := ⟨(.type "frame"), none, (.dict #[ek P (Str.ofString "self") 2397 (.ref 760), ek P (Str.ofString "s") 2398 (.str (Str.ofString "óidigh") 2393), ek P (Str.ofString "substring_i") 2399 (.int (-1) 2395), ek P (Str.ofString "result") 2400 (.int 6 2396)] 4), #[]⟩
noncomputable def x762 (P : Params) : Obj := ⟨(.type "dict"), none, (.dict #[ek P (Str.ofString "s") 2416 (.str (Str.ofString "achtúil") 2407), ek P (Str.ofString "substring_i") 2418 (.int (-1) 2409), ek P (Str.ofString "result") 2420 (.int 1 2410)] 3), #[]⟩
noncomputable def x763 (P : Params) : Obj := ⟨(.ref 220), (some 762), .plain, #[]⟩
noncomputable def x764 (P : Params) : Obj := ⟨(.type "frame"), none, (.dict #[ek P (Str.ofString "self") 2411 (.ref 763), ek P (Str.ofString "s") 2412 (.str (Str.ofString "achtúil") 2407), ek P (Str.ofString "substring_i") 2413 (.int (-1) 2409), ek P (Str.ofString "result") 2414 (.int 1 2410)] 4), #[]⟩
noncomputable def x765 (P : Params) : Obj := ⟨(.type "dict"), none, (.dict #[ek P (Str.ofString "s") 2429 (.str (Str.ofString "eachtúil") 2421), ek P (Str.ofString "substring_i") 2431 (.int 15 2422), ek P (Str.ofString "result") 2433 (.int 1 2423)] 3), #[]⟩
noncomputable def x766 (P : Params) : Obj := ⟨(.ref 220), (some 765), .plain, #[]⟩
noncomputable def x767 (P : Params) : Obj := ⟨(.type "frame"), none, (.dict #[ek P (Str.ofString "self") 2424 (.ref 766), ek P (Str.ofString "s") 2425 (.str (Str.ofString "eachtúil") 2421), ek P (Str.ofString "substring_i") 2426 (.int 15 2422), ek P (Str.ofString "result") 2427 (.int 1 2423)] 4), #[]⟩
noncomputable def x768 (P : Params) : Obj := ⟨(.type "dict"), none, (.dict #[ek P (Str.ofString "s") 2443 (.str (Str.ofString "gineas") 2434), ek P (Str.ofString "substring_i") 2445 (.int (-1) 2436), ek P (Str.ofString "result") 2447 (.int 3 2437)] 3), #[]⟩
noncomputable def x769 (P : Params) : Obj := ⟨(.ref 220), (some 768), .plain, #[]⟩
noncomputable def x770 (P : Params) : Obj := ⟨(.type "frame"), none, (.dict #[ek P (Str.ofString "self") 2438 (.ref 769), ek P (Str.ofString "s") 2439 (.str (Str.ofString "gineas") 2434), ek P (Str.ofString "substring_i") 2440 (.int (-1) 2436), ek P (Str.ofString "result") 2441 (.int 3 2437)] 4), #[]⟩
noncomputable def x771 (P : Params) : Obj := ⟨(.type "dict"), none, (.dict #[ek P (Str.ofString "s") 2457 (.str (Str.ofString "ginis") 2448), ek P (Str.ofString "substring_i") 2459 (.int (-1) 2450), ek P (Str.ofString "result") 2461 (.int 3 2451)] 3), #[]⟩
noncomputable def x772 (P : Params) : Obj := ⟨(.ref 220), (some 771), .plain, #[]⟩
noncomputable def x773 (P : Params) : Obj := ⟨(.type "frame"), none, (.dict #[ek P (Str.ofString "self") 2452 (.ref 772), ek P (Str.ofString "s") 2453 (.str (Str.ofString "ginis") 2448), ek P (Str.ofString "substring_i") 2454 (.int (-1) 2450), ek P (Str.ofString "result") 2455 (.int 3 2451)] 4), #[]⟩
noncomputable def x774 (P : Params) : Obj := ⟨(.type "dict"), none, (.dict #[ek P (Str.ofString "s") 2471 (.str (Str.ofString "acht") 2462), ek P (Str.ofString "substring_i") 2473 (.int (-1) 2464), ek P (Str.ofString "result") 2475 (.int 1 2465)] 3), #[]⟩
noncomputable def x775 (P : Params) : Obj := ⟨(.ref 220), (some 774), .plain, #[]⟩
noncomputable def x776 (P : Params) : Obj := ⟨(.type "frame"), none, (.dict #[ek P (Str.ofString "self") 2466 (.ref 775), ek P (Str.ofString "s") 2467 (.str (Str.ofString "acht") 2462), ek P (Str.ofString "substring_i") 2468 (.int (-1) 2464), ek P (Str.ofString "result") 2469 (.int 1 2465)] 4), #[]⟩
noncomputable def x777 (P : Params) : Obj := ⟨(.type "dict"), none, (.dict #[ek P (Str.ofString "s") 2484 (.str (Str.ofString "arcacht") 2476), ek P (Str.ofString "substring_i") 2486 (.int 19 2477), ek P (Str.ofString "result") 2488 (.int 2 2478)] 3), #[]⟩
noncomputable def x778 (P : Params) : Obj := ⟨(.ref 220), (some 777), .plain, #[]⟩
noncomputable def x779 (P : Params) : Obj := ⟨(.type "frame"), none, (.dict #[ek P (Str.ofString "self") 2479 (.ref 778), ek P (Str.ofString "s") 2480 (.str (Str.ofString "arcacht") 2476), ek P (Str.ofString "substring_i") 2481 (.int 19 2477), ek P (Str.ofString "result") 2482 (.int 2 2478)] 4), #[]⟩
noncomputable def x780 (P : Params) : Obj := ⟨(.type "dict"), none, (.dict #[ek P (Str.ofString "s") 2497 (.str (Str.ofString "eacht") 2489), ek P (Str.ofString "substring_i") 2499 (.int 19 2490), ek P (Str.ofString "result") 2501 (.int 1 2491)] 3), #[]⟩
noncomputable def x781 (P : Params) : Obj := ⟨(.ref 220), (some 780), .plain, #[]⟩
noncomputable def x782 (P : Params) : Obj := ⟨(.type "frame"), none, (.dict #[ek P (Str.ofString "self") 2492 (.ref 781), ek P (Str.ofString "s") 2493 (.str (Str.ofString "eacht") 2489), ek P (Str.ofString "substring_i") 2494 (.int 19 2490), ek P (Str.ofString "result") 2495 (.int 1 2491)] 4), #[]⟩
noncomputable def x783 (P : Params) : Obj := ⟨(.type "dict"), none, (.dict #[ek P (Str.ofString "s") 2511 (.str (Str.ofString "grafaíocht") 2502), ek P (Str.ofString "substring_i") 2513 (.int (-1) 2504), ek P (Str.ofString "result") 2515 (.int 4 2505)] 3), #[]⟩
noncomputable def x784 (P : Params) : Obj := ⟨(.ref 220), (some 783), .plain, #[]⟩
noncomputable def x785 (P : Params) : Obj := ⟨(.type "frame"), none, (.dict #[ek P (Str.ofString "self") 2506 (.ref 784), ek P (Str.ofString "s") 2507 (.str (Str.ofString "grafaíocht") 2502), ek P (Str.ofString "substring_i") 2508 (.int (-1) 2504), ek P (Str.ofString "result") 2509 (.int 4 2505)] 4), #[]⟩
noncomputable def x786 (P : Params) : Obj := ⟨(.type "dict"), none, (.dict #[ek P (Str.ofString "s") 2525 (.str (Str.ofString "arcachtaí") 2516), ek P (Str.ofString "substring_i") 2527 (.int (-1) 2518), ek P (Str.ofString "result") 2529 (.int 2 2519)] 3), #[]⟩
noncomputable def x787 (P : Params) : Obj := ⟨(.ref 220), (some 786), .plain, #[]⟩
noncomputable def x788 (P : Params) : Obj := ⟨(.type "frame"), none, (.dict #[ek P (Str.ofString "self") 2520 (.ref 787), ek P (Str.ofString "s") 2521 (.str (Str.ofString "arcachtaí") 2516), ek P (Str.ofString "substring_i") 2522 (.int (-1) 2518), ek P (Str.ofString "result") 2523 (.int 2 2519)] 4), #[]⟩
noncomputable def x789 (P : Params) : Obj := ⟨(.type "dict"), none, (.dict #[ek P (Str.ofString "s") 2539 (.str (Str.ofString "grafaíochtaí") 2530), ek P (Str.ofString "substring_i") 2541 (.int (-1) 2532), ek P (Str.ofString "result") 2543 (.int 4 2533)] 3), #[]⟩
noncomputable def x790 (P : Params) : Obj := ⟨(.ref 220), (some 789), .plain, #[]⟩
noncomputable def x791 (P : Params) : Obj := ⟨(.type "frame"), none, (.dict #[ek P (Str.ofString "self") 2534 (.ref 790), ek P (Str.ofString "s") 2535 (.str (Str.ofString "grafaíochtaí") 2530), ek P (Str.ofString "substring_i") 2536 (.int (-1) 2532), ek P (Str.ofString "result") 2537 (.int 4 2533)] 4), #[]⟩
noncomputable def x792 (P : Params) : Obj := ⟨(.type "list"), none, (.seq #[(.ref 718), (.ref 721), (.ref 724), (.ref 727), (.ref 730), (.ref 733), (.ref 736), (.ref 739), (.ref 742), (.ref 745), (.ref 748), (.ref 751), (.ref 754), (.ref 757), (.ref 760), (.ref 763), (.ref 766), (.ref 769), (.ref 772), (.ref 775), (.ref 778), (.ref 781), (.ref 784), (.ref 787), (.ref 790)] 0), #[]⟩
noncomputable def HI16 (P : Params) (o1 o2 o3 : SO) : List Obj := [x0 P, x1 P, x2 P, x3_2 P, x4 P, x5 P, x6 P, x7 P, x8 P, x9 P, x10 P, x11 P, x12_3 P, x13 P, x14 P, x15 P, x16 P, x17 P, x18 P, x19 P, x20 P, x21 P, x22 P, x23 P, x24 P, x25 P, x26 P, x27 P, x28 P, x29 P, x30 P, x31 P, x32 P, x33 P, x34 P, x35 P, x36 P, x37 P, x38 P, x39 P, x40 P, x41 P, x42 P, x43 P, x44 P, x45 P, x46 P, x47 P, x48 P, x49 P, x50 P, x51 P, x52 P, x53 P, x54 P, x55 P, x56 P, x57 P, x58 P, x59 P, x60 P, x61 P, x62 P, x63 P, x64 P, x65 P, x66 P, x67 P, x68 P, x69 P, x70 P, x71 P, x72 P, x73 P, x74 P, x75 P, x76 P, x77 P, x78 P, x79 P, x80 P, x81 P, x82 P, x83 P, x84 P, x85 P, x86 P, x87 P, x88 P, x89 P, x90 P, x91 P, x92 P, x93 P, x94 P, x95 P, x96 P, x97 P, x98 P, x99 P, x100 P, x101 P, x102 P, x103 P, x104 P, x105 P, x106 P, x107 P, x108 P, x109 P, x110 P, x111 P, x112 P, x113 P, x114 P, x115 P, x116 P, x117 P, x118 P, x119 P, x120 P, x121 P, x122 P, x123 P, x124 P, x125 P, x126 P, x127 P, x128 P, x129 P, x130 P, x131 P, x132 P, x133 P, x134 P, x135 P, x136 P, x137 P, x138 P, x139 P, x140 P, x141 P, x142 P, x143 P, x144 P, x145 P, x146 P, x147 P, x148 P, x149 P, x150 P, x151 P, x152 P, x153 P, x154 P, x155 P, x156 P, x157 P, x158 P, x159 P, x160 P, x161 P, x162 P, x163 P, x164 P, x165 P, x166 P, x167 P, x168 P, x169 P, x170 P, x171 P, x172 P, x173 P, x174 P, x175 P, x176 P, x177 P, x178 P, x179 P, x180 P, x181 P, x182 P, x183 P, x184 P, x185 P, x186 P, x187 P, x188 P, x189 P, x190 P, x191 P, x192 P, x193 P, x194 P, x195 P, x196 P, x197 P, x198 P, x199_1 P, x200 P, x201 P, x202 P, x203 P, x204 P, x205 P, x206 P, x207 P, x208 P, x209 P, x210 P, x211 P, x212 P, x213 P, x214 P, x215 P, x216 P, x217 P, x218 P, x219 P, x220 P, x221 P, x222 P, x223 P, x224 P, x225 P, x226 P, x227_7 P, x228 P, x229_1 P, x230 P, x231 P, o1.obj, o2.obj, x234 P, x235 P, x236 P, x237 P, x238 P, x239 P, x240 P, x241 P, x242 P, x243 P, x244 P, x245 P, x246 P, x247 P, x248 P, x249 P, x250 P, x251 P, x252 P, x253 P, x254 P, x255 P, x256 P, x257 P, x258 P, x259 P, x260 P, x261 P, x262 P, x263 P, x264 P, x265 P, x266 P, x267 P, x268 P, x269 P, x270 P, x271 P, x272 P, x273 P, x274 P, x275 P, x276 P, x277 P, x278 P, x279 P, x280 P, x281 P, x282 P, x283 P, x284 P, x285 P, x286 P, x287 P, x288 P, x289 P, x290 P, x291 P, x292 P, x293 P, x294 P, x295 P, x296 P, x297 P, x298 P, x299 P, x300 P, x301 P, x302 P, x303 P, x304 P, x305 P, x306 P, x307 P, x308 P, x309 P, x310 P, x311 P, x312 P, x313 P, x314 P, x315 P, x316 P, x317 P, x318 P, x319 P, x320 P, x321 P, x322 P, x323 P, x324 P, x325 P, x326 P, x327 P, x328 P, x329 P, x330 P, x331 P, x332 P, x333 P, x334 P, x335 P, x336 P, x337 P, x338 P, x339 P, x340 P, x341 P, x342 P, x343 P, x344 P, x345 P, x346 P, x347 P, x348 P, x349 P, x350 P, x351 P, x352 P, x353 P, x354 P, x355 P, x356 P, x357 P, x358 P, x359 P, x360 P, x361 P, x362 P, x363 P, x364 P, x365 P, x366 P, x367 P, x368 P, x369 P, x370 P, x371 P, x372 P, x373 P, x374 P, x375 P, x376 P, x377 P, x378 P, x379 P, x380 P, x381 P, x382 P, x383 P, x384 P, x385 P, x386 P, x387 P, x388 P, x389 P, x390 P, x391 P, x392 P, x393 P, x394 P, x395 P, x396 P, x397 P, x398 P, x399 P, x400 P, x401 P, x402 P, x403 P, x404 P, x405 P, x406 P, x407 P, x408 P, x409 P, x410 P, x411 P, x412 P, x413 P, x414 P, x415 P, x416 P, x417 P, x418 P, x419 P, x420 P, x421 P, x422 P, x423 P, x424 P, x425 P, x426 P, x427 P, x428 P, x429 P, x430 P, x431 P, x432 P, x433 P, x434 P, x435 P, x436 P, x437 P, x438 P, x439 P, x440 P, x441 P, x442 P, x443 P, x444 P, x445 P, x446 P, x447 P, x448 P, x449 P, x450 P, x451 P, x452 P, x453 P, x454 P, x455 P, x456 P, x457 P, x458 P, x459 P, x460 P, x461 P, x462 P, x463 P, x464 P, x465 P, x466 P, x467 P, x468 P, x469 P, x470 P, x471 P, x472 P, x473 P, x474 P, x475 P, x476 P, x477 P, x478 P, x479 P, x480 P, x481 P, x482 P, x483 P, x484 P, x485 P, x486 P, x487 P, x488 P, x489 P, x490 P, x491 P, x492 P, x493 P, x494 P, x495 P, x496 P, x497 P, x498 P, x499 P, x500 P, x501 P, x502 P, x503 P, x504 P, x505 P, x506 P, x507 P, x508 P, x509 P, x510 P, x511 P, x512 P, x513 P, x514 P, x515 P, x516 P, x517 P, x518 P, x519 P, x520 P, x521 P, x522 P, x523 P, x524 P, x525 P, x526 P, x527 P, x528 P, x529 P, x530 P, x531 P, x532_4 P, x533 P, x534_1 P, x535 P, x536 P, o3.obj, x538 P, x539 P, x540 P, x541 P, x542 P, x543 P, x544 P, x545 P, x546 P, x547 P, x548 P, x549 P, x550 P, x551 P, x552 P, x553 P, x554 P, x555 P, x556 P, x557 P, x558 P, x559 P, x560 P, x561 P, x562 P, x563 P, x564 P, x565 P, x566 P, x567 P, x568 P, x569 P, x570 P, x571 P, x572 P, x573 P, x574 P, x575 P, x576 P, x577 P, x578 P, x579 P, x580 P, x581 P, x582 P, x583 P, x584 P, x585 P, x586 P, x587 P, x588 P, x589 P, x590 P, x591 P, x592 P, x593 P, x594 P, x595 P, x596 P, x597 P, x598 P, x599 P, x600 P, x601 P, x602 P, x603 P, x604 P, x605 P, x606 P, x607 P, x608 P, x609 P, x610 P, x611 P, x612 P, x613 P, x614 P, x615 P, x616 P, x617 P, x618 P, x619 P, x620 P, x621 P, x622 P, x623 P, x624 P, x625 P, x626 P, x627 P, x628 P, x629 P, x630 P, x631 P, x632 P, x633 P, x634 P, x635 P, x636 P, x637 P, x638 P, x639 P, x640 P, x641 P, x642 P, x643 P, x644 P, x645 P, x646 P, x647 P, x648 P, x649 P, x650 P, x651 P, x652 P, x653 P, x654 P, x655 P, x656 P, x657 P, x658 P, x659 P, x660 P, x661 P, x662 P, x663 P, x664 P, x665 P, x666 P, x667 P, x668 P, x669 P, x670 P, x671 P, x672 P, x673 P, x674 P, x675 P, x676 P, x677 P, x678 P, x679 P, x680 P, x681 P, x682 P, x683 P, x684 P, x685 P, x686 P, x687 P, x688 P, x689 P, x690 P, x691 P, x692 P, x693 P, x694 P, x695 P, x696 P, x697 P, x698 P, x699 P, x700 P, x701 P, x702 P, x703 P, x704 P, x705 P, x706 P, x707 P, x708 P, x709 P, x710 P, x711 P, x712 P, x713 P, x714 P, x715 P, x716 P, x717 P, x718 P, x719 P, x720 P, x721 P, x722 P, x723 P, x724 P, x725 P, x726 P, x727 P, x728 P, x729 P, x730 P, x731 P, x732 P, x733 P, x734 P, x735 P, x736 P, x737 P, x738 P, x739 P, x740 P, x741 P, x742 P, x743 P, x744 P, x745 P, x746 P, x747 P, x748 P, x749 P, x750 P, x751 P, x752 P, x753 P, x754 P, x755 P, x756 P, x757 P, x758 P, x759 P, x760 P, x761 P, x762 P, x763 P, x764 P, x765 P, x766 P, x767 P, x768 P, x769 P, x770 P, x771 P, x772 P, x773 P, x774 P, x775 P, x776 P, x777 P, x778 P, x779 P, x780 P, x781 P, x782 P, x783 P, x784 P, x785 P, x786 P, x787 P, x788 P, x789 P, x790 P, x791 P, x792 P]
abbrev posI16 : Pos := ⟨258, 4, 258, 7⟩
noncomputable def x532_5 (P : Params) : Obj := ⟨(.type "dict"), none, (.dict #[ek P (Str.ofString "__module__") 1552 (.str (Str.ofString "snowballstemmer.irish_stemmer") 1543), ek P (Str.ofString "__qualname__") 1554 (.str (Str.ofString "IrishStemmer") 1553), ek P (Str.ofString "__firstlineno__") 1556 (.int 226 1555), ek P (Str.ofString "g_v") 1577 (.ref 537), ek P (Str.ofString "I_p2") 1579 (.int 0 1578), ek P (Str.ofString "I_p1") 1581 (.int 0 1580), ek P (Str.ofString "I_pV") 1583 (.int 0 1582), ek P (Str.ofString "r_mark_regions") 1590 (.ref 544), ek P (Str.ofString "r_initial_morph") 1597 (.ref 551), ek P (Str.ofString "r_R1") 1604 (.ref 558), ek P (Str.ofString "r_R2") 1611 (.ref 565), ek P (Str.ofString "r_noun_sfx") 1618 (.ref 572), ek P (Str.ofString "r_deriv") 1625 (.ref 579), ek P (Str.ofString "r_verb_sfx") 1632 (.ref 586), ek P (Str.ofString "_stem") 1639 (.ref 593), ek P (Str.ofString "a_0") 1974 (.ref 666), ek P (Str.ofString "as_0") 1985 (.ref 667), ek P (Str.ofString "a_1") 2202 (.ref 716), ek P (Str.ofString "a_2") 2544 (.ref 792), ek P (Str.ofString "a_3") 2710 (.ref 829)] 20), #[]⟩
noncomputable def x793 (P : Params) : Obj := ⟨(.type "dict"), none, (.dict #[ek P (Str.ofString "s") 2554 (.str (Str.ofString "imid") 2545), ek P (Str.ofString "substring_i") 2556 (.int (-1) 2547), ek P (Str.ofString "result") 2558 (.int 1 2548)] 3), #[]⟩
noncomputable def x794 (P : Params) : Obj := ⟨(.ref 220), (some 793), .plain, #[]⟩
noncomputable def x795 (P : Params) : Obj := ⟨(.type "frame"), none, (.dict #[ek P (Str.ofString "self") 2549 (.ref 794), ek P (Str.ofString "s") 2550 (.str (Str.ofString "imid") 2545), ek P (Str.ofString "substring_i") 2551 (.int (-1) 2547), ek P (Str.ofString "result") 2552 (.int 1 2548)] 4), #[]⟩
noncomputable def x796 (P : Params) : Obj := ⟨(.type "dict"), none, (.dict #[ek P (Str.ofString "s") 2567 (.str (Str.ofString "aimid") 2559), ek P (Str.ofString "substring_i") 2569 (.int 0 2560), ek P (Str.ofString "result") 2571 (.int 1 2561)] 3), #[]⟩
noncomputable def x797 (P : Params) : Obj := ⟨(.ref 220), (some 796), .plain, #[]⟩
noncomputable def x798 (P : Params) : Obj := ⟨(.type "frame"), none, (.dict #[ek P (Str.ofString "self") 2562 (.ref 797), ek P (Str.ofString "s") 2563 (.str (Str.ofString "aimid") 2559), ek P (Str.ofString "substring_i") 2564 (.int 0 2560), ek P (Str.ofString "result") 2565 (.int 1 2561)] 4), #[]⟩
noncomputable def x799 (P : Params) : Obj := ⟨(.type "dict"), none, (.dict #[ek P (Str.ofString "s") 2581 (.str (Str.ofString "ímid") 2572), ek P (Str.ofString "substring_i") 2583 (.int (-1) 2574), ek P (Str.ofString "result") 2585 (.int 1 2575)] 3), #[]⟩
noncomputable def x800 (P : Params) : Obj := ⟨(.ref 220), (some 799), .plain, #[]⟩
noncomputable def x801 (P : Params) : Obj := ⟨(.type "frame"), none, (.dict #[ek P (Str.ofString "self") 2576 (.ref 800), ek P (Str.ofString "s") 2577 (.str (Str.ofString "ímid") 2572), ek P (Str.ofString "substring_i") 2578 (.int (-1) 2574), ek P (Str.ofString "result") 2579 (.int 1 2575)] 4), #[]⟩
noncomputable def x802 (P : Params) : Obj := ⟨(.type "dict"), none, (.dict #[ek P (Str.ofString "s") 2594 (.str (Str.ofString "aímid") 2586), ek P (Str.ofString "substring_i") 2596 (.int 2 2587), ek P (Str.ofString "result") 2598 (.int 1 2588)] 3), #[]⟩
noncomputable def x803 (P : Params) : Obj := ⟨(.ref 220), (some 802), .plain, #[]⟩
noncomputable def x804 (P : Params) : Obj := ⟨(.type "frame"), none, (.dict #[ek P (Str.ofString "self") 2589 (.ref 803), ek P (Str.ofString "s") 2590 (.str (Str.ofString "aímid") 2586), ek P (Str.ofString "substring_i") 2591 (.int 2 2587), ek P (Str.ofString "result") 2592 (.int 1 2588)] 4), #[]⟩
noncomputable def x805 (P : Params) : Obj := ⟨(.type "dict"), none, (.dict #[ek P (Str.ofString "s") 2608 (.str (Str.ofString "adh") 2599), ek P (Str.ofString "substring_i") 2610 (.int (-1) 2601), ek P (Str.ofString "result") 2612 (.int 2 2602)] 3), #[]⟩
noncomputable def x806 (P : Params) : Obj := ⟨(.ref 220), (some 805), .plain, #[]⟩
noncomputable def x807 (P : Params) : Obj := ⟨(.type "frame"), none, (.dict #[ek P (Str.ofString "self") 2603 (.ref 806), ek P (Str.ofString "s") 2604 (.str (Str.ofString "adh") 2599), ek P (Str.ofString "substring_i") 2605 (.int (-1) 2601), ek P (Str.ofString "result") 2606 (.int 2 2602)] 4), #[]⟩
noncomputable def x808 (P : Params) : Obj := ⟨(.type "dict"), none, (.dict #[ek P (Str.ofString "s") 2621 (.str (Str.ofString "eadh") 2613), ek P (Str.ofString "substring_i") 2623 (.int 4 2614), ek P (Str.ofString "result") 2625 (.int 2 2615)] 3), #[]⟩
noncomputable def x809 (P : Params) : Obj := ⟨(.ref 220), (some 808), .plain, #[]⟩
noncomputable def x810 (P : Params) : Obj := ⟨(.type "frame"), none, (.dict #[ek P (Str.ofString "self") 2616 (.ref 809), ek P (Str.ofString "s") 2617 (.str (Str.ofString "eadh") 2613), ek P (Str.ofString "substring_i") 2618 (.int 4 2614), ek P (Str.ofString "result") 2619 (.int 2 2615)] 4), #[]⟩
noncomputable def x811 (P : Params) : Obj := ⟨(.type "dict"), none, (.dict #[ek P (Str.ofString "s") 2635 (.str (Str.ofString "faidh") 2626), ek P (Str.ofString "substring_i") 2637 (.int (-1) 2628), ek P (Str.ofString "result") 2639 (.int 1 2629)] 3), #[]⟩
noncomputable def x812 (P : Params) : Obj := ⟨(.ref 220), (some 811), .plain, #[]⟩
noncomputable def x813 (P : Params) : Obj := ⟨(.type "frame"), none, (.dict #[ek P (Str.ofString "self") 2630 (.ref 812), ek P (Str.ofString "s") 2631 (.str (Str.ofString "faidh") 2626), ek P (Str.ofString "substring_i") 2632 (.int (-1) 2628), ek P (Str.ofString "result") 2633 (.int 1 2629)] 4), #[]⟩
noncomputable def x814 (P : Params) : Obj := ⟨(.type "dict"), none, (.dict #[ek P (Str.ofString "s") 2649 (.str (Str.ofString "fidh") 2640), ek P (Str.ofString "substring_i") 2651 (.int (-1) 2642), ek P (Str.ofString "result") 2653 (.int 1 2643)] 3), #[]⟩
noncomputable def x815 (P : Params) : Obj := ⟨(.ref 220), (some 814), .plain, #[]⟩
noncomputable def x816 (P : Params) : Obj := ⟨(.type "frame"), none, (.dict #[ek P (Str.ofString "self") 2644 (.ref 815), ek P (Str.ofString "s") 2645 (.str (Str.ofString "fidh") 2640), ek P (Str.ofString "substring_i") 2646 (.int (-1) 2642), ek P (Str.ofString "result") 2647 (.int 1 2643)] 4), #[]⟩
noncomputable def x817 (P : Params) : Obj := ⟨(.type "dict"), none, (.dict #[ek P (Str.ofString "s") 2663 (.str (Str.ofString "áil") 2654), ek P (Str.ofString "substring_i") 2665 (.int (-1) 2656), ek P (Str.ofString "result") 2667 (.int 2 2657)] 3), #[]⟩
noncomputable def x818 (P : Params) : Obj := ⟨(.ref 220), (some 817), .plain, #[]⟩
noncomputable def x819 (P : Params) : Obj := ⟨(.type "frame"), none, (.dict #[ek P (Str.ofString "self") 2658 (.ref 818), ek P (Str.ofString "s") 2659 (.str (Str.ofString "áil") 2654), ek P (Str.ofString "substring_i") 2660 (.int (-1) 2656), ek P (Str.ofString "result") 2661 (.int 2 2657)] 4), #[]⟩
noncomputable def x820 (P : Params) : Obj := ⟨(.type "dict"), none, (.dict #[ek P (Str.ofString "s") 2677 (.str (Str.ofString "ain") 2668), ek P (Str.ofString "substring_i") 2679 (.int (-1) 2670), ek P (Str.ofString "result") 2681 (.int 2 2671)] 3), #[]⟩
noncomputable def x821 (P : Params) : Obj := ⟨(.ref 220), (some 820), .plain, #[]⟩
noncomputable def x822 (P : Params) : Obj := ⟨(.type "frame"), none, (.dict #[ek P (Str.ofString "self") 2672 (.ref 821), ek P (Str.ofString "s") 2673 (.str (Str.ofString "ain") 2668), ek P (Str.ofString "substring_i") 2674 (.int (-1) 2670), ek P (Str.ofString "result") 2675 (.int 2 2671)] 4), #[]⟩
noncomputable def x823 (P : Params) : Obj := ⟨(.type "dict"), none, (.dict #[ek P (Str.ofString "s") 2691 (.str (Str.ofString "tear") 2682), ek P (Str.ofString "substring_i") 2693 (.int (-1) 2684), ek P (Str.ofString "result") 2695 (.int 2 2685)] 3), #[]⟩
noncomputable def x824 (P : Params) : Obj := ⟨(.ref 220), (some 823), .plain, #[]⟩
noncomputable def x825 (P : Params) : Obj := ⟨(.type "frame"), none, (.dict #[ek P (Str.ofString "self") 2686 (.ref 824), ek P (Str.ofString "s") 2687 (.str (Str.ofString "tear") 2682), ek P (Str.ofString "substring_i") 2688 (.int (-1) 2684), ek P (Str.ofString "result") 2689 (.int 2 2685)] 4), #[]⟩
noncomputable def x826 (P : Params) : Obj := ⟨(.type "dict"), none, (.dict #[ek P (Str.ofString "s") 2705 (.str (Str.ofString "tar") 2696), ek P (Str.ofString "substring_i") 2707 (.int (-1) 2698), ek P (Str.ofString "result") 2709 (.int 2 2699)] 3), #[]⟩
noncomputable def x827 (P : Params) : Obj := ⟨(.ref 220), (some 826), .plain, #[]⟩
noncomputable def x828 (P : Params) : Obj := ⟨(.type "frame"), none, (.dict #[ek P (Str.ofString "self") 2700 (.ref 827), ek P (Str.ofString "s") 2701 (.str (Str.ofString "tar") 2696), ek P (Str.ofString "substring_i") 2702 (.int (-1) 2698), ek P (Str.ofString "result") 2703 (.int 2 2699)] 4), #[]⟩
noncomputable def x829 (P : Params) : Obj := ⟨(.type "list"), none, (.seq #[(.ref 794), (.ref 797), (.ref 800), (.ref 803), (.ref 806), (.ref 809), (.ref 812), (.ref 815), (.ref 818), (.ref 821), (.ref 824), (.ref 827)] 0), #[]⟩
noncomputable def HI17 (P : Params) (o1 o2 o3 : SO) : List Obj := [x0 P, x1 P, x2 P, x3_2 P, x4 P, x5 P, x6 P, x7 P, x8 P, x9 P, x10 P, x11 P, x12_3 P, x13 P, x14 P, x15 P, x16 P, x17 P, x18 P, x19 P, x20 P, x21 P, x22 P, x23 P, x24 P, x25 P, x26 P, x27 P, x28 P, x29 P, x30 P, x31 P, x32 P, x33 P, x34 P, x35 P, x36 P, x37 P, x38 P, x39 P, x40 P, x41 P, x42 P, x43 P, x44 P, x45 P, x46 P, x47 P, x48 P, x49 P, x50 P, x51 P, x52 P, x53 P, x54 P, x55 P, x56 P, x57 P, x58 P, x59 P, x60 P, x61 P, x62 P, x63 P, x64 P, x65 P, x66 P, x67 P, x68 P, x69 P, x70 P, x71 P, x72 P, x73 P, x74 P, x75 P, x76 P, x77 P, x78 P, x79 P, x80 P, x81 P, x82 P, x83 P, x84 P, x85 P, x86 P, x87 P, x88 P, x89 P, x90 P, x91 P, x92 P, x93 P, x94 P, x95 P, x96 P, x97 P, x98 P, x99 P, x100 P, x101 P, x102 P, x103 P, x104 P, x105 P, x106 P, x107 P, x108 P, x109 P, x110 P, x111 P, x112 P, x113 P, x114 P, x115 P, x116 P, x117 P, x118 P, x119 P, x120 P, x121 P, x122 P, x123 P, x124 P, x125 P, x126 P, x127 P, x128 P, x129 P, x130 P, x131 P, x132 P, x133 P, x134 P, x135 P, x136 P, x137 P, x138 P, x139 P, x140 P, x141 P, x142 P, x143 P, x144 P, x145 P, x146 P, x147 P, x148 P, x149 P, x150 P, x151 P, x152 P, x153 P, x154 P, x155 P, x156 P, x157 P, x158 P, x159 P, x160 P, x161 P, x162 P, x163 P, x164 P, x165 P, x166 P, x167 P, x168 P, x169 P, x170 P, x171 P, x172 P, x173 P, x174 P, x175 P, x176 P, x177 P, x178 P, x179 P, x180 P, x181 P, x182 P, x183 P, x184 P, x185 P, x186 P, x187 P, x188 P, x189 P, x190 P, x191 P, x192 P, x193 P, x194 P, x195 P, x196 P, x197 P, x198 P, x199_1 P, x200 P, x201 P, x202 P, x203 P, x204 P, x205 P, x206 P, x207 P, x208 P, x209 P, x210 P, x211 P, x212 P, x213 P, x214 P, x215 P, x216 P, x217 P, x218 P, x219 P, x220 P, x221 P, x222 P, x223 P, x224 P, x225 P, x226 P, x227_7 P, x228 P, x229_1 P, x230 P, x231 P, o1.obj, o2.obj, x234 P, x235 P, x236 P, x237 P, x238 P, x239 P, x240 P, x241 P, x242 P, x243 P, x244 P, x245 P, x246 P, x247 P, x248 P, x249 P, x250 P, x251 P, x252 P, x253 P, x254 P, x255 P, x256 P, x257 P, x258 P, x259 P, x260 P, x261 P, x262 P, x263 P, x264 P, x265 P, x266 P, x267 P, x268 P, x269 P, x270 P, x271 P, x272 P, x273 P, x274 P, x275 P, x276 P, x277 P, x278 P, x279 P, x280 P, x281 P, x282 P, x283 P, x284 P, x285 P, x286 P, x287 P, x288 P, x289 P, x290 P, x291 P, x292 P, x293 P, x294 P, x295 P, x296 P, x297 P, x298 P, x299 P, x300 P, x301 P, x302 P, x303 P, x304 P, x305 P, x306 P, x307 P, x308 P, x309 P, x310 P, x311 P, x312 P, x313 P, x314 P, x315 P, x316 P, x317 P, x318 P, x319 P, x320 P, x321 P, x322 P, x323 P, x324 P, x325 P, x326 P, x327 P, x328 P, x329 P, x330 P, x331 P, x332 P, x333 P, x334 P, x335 P, x336 P, x337 P, x338 P, x339 P, x340 P, x341 P, x342 P, x343 P, x344 P, x345 P, x346 P, x347 P, x348 P, x349 P, x350 P, x351 P, x352 P, x353 P, x354 P, x355 P, x356 P, x357 P, x358 P, x359 P, x360 P, x361 P, x362 P, x363 P, x364 P, x365 P, x366 P, x367 P, x368 P, x369 P, x370 P, x371 P, x372 P, x373 P, x374 P, x375 P, x376 P, x377 P, x378 P, x379 P, x380 P, x381 P, x382 P, x383 P, x384 P, x385 P, x386 P, x387 P, x388 P, x389 P, x390 P, x391 P, x392 P, x393 P, x394 P, x395 P, x396 P, x397 P, x398 P, x399 P, x400 P, x401 P, x402 P, x403 P, x404 P, x405 P, x406 P, x407 P, x408 P, x409 P, x410 P, x411 P, x412 P, x413 P, x414 P, x415 P, x416 P, x417 P, x418 P, x419 P, x420 P, x421 P, x422 P, x423 P, x424 P, x425 P, x426 P, x427 P, x428 P, x429 P, x430 P, x431 P, x432 P, x433 P, x434 P, x435 P, x436 P, x437 P, x438 P, x439 P, x440 P, x441 P, x442 P, x443 P, x444 P, x445 P, x446 P, x447 P, x448 P, x449 P, x450 P, x451 P, x452 P, x453 P, x454 P, x455 P, x456 P, x457 P, x458 P, x459 P, x460 P, x461 P, x462 P, x463 P, x464 P, x465 P, x466 P, x467 P, x468 P, x469 P, x470 P, x471 P, x472 P, x473 P, x474 P, x475 P, x476 P, x477 P, x478 P, x479 P, x480 P, x481 P, x482 P, x483 P, x484 P, x485 P, x486 P, x487 P, x488 P, x489 P, x490 P, x491 P, x492 P, x493 P, x494 P, x495 P, x496 P, x497 P, x498 P, x499 P, x500 P, x501 P, x502 P, x503 P, x504 P, x505 P, x506 P, x507 P, x508 P, x509 P, x510 P, x511 P, x512 P, x513 P, x514 P, x515 P, x516 P, x517 P, x518 P, x519 P, x520 P, x521 P, x522 P, x523 P, x524 P, x525 P, x526 P, x527 P, x528 P, x529 P, x530 P, x531 P, x532_5 P, x533 P, x534_1 P, x535 P, x536 P, o3.obj, x538 P, x539 P, x540 P, x541 P, x542 P, x543 P, x544 P, x545 P, x546 P, x547 P, x548 P, x549 P, x550 P, x551 P, x552 P, x553 P, x554 P, x555 P, x556 P, x557 P, x558 P, x559 P, x560 P, x561 P, x562 P, x563 P, x564 P, x565 P, x566 P, x567 P, x568 P, x569 P, x570 P, x571 P, x572 P, x573 P, x574 P, x575 P, x576 P, x577 P, x578 P, x579 P, x580 P, x581 P, x582 P, x583 P, x584 P, x585 P, x586 P, x587 P, x588 P, x589 P, x590 P, x591 P, x592 P, x593 P, x594 P, x595 P, x596 P, x597 P, x598 P, x599 P, x600 P, x601 P, x602 P, x603 P, x604 P, x605 P, x606 P, x607 P, x608 P, x609 P, x610 P, x611 P, x612 P, x613 P, x614 P, x615 P, x616 P, x617 P, x618 P, x619 P, x620 P, x621 P, x622 P, x623 P, x624 P, x625 P, x626 P, x627 P, x628 P, x629 P, x630 P, x631 P, x632 P, x633 P, x634 P, x635 P, x636 P, x637 P, x638 P, x639 P, x640 P, x641 P, x642 P, x643 P, x644 P, x645 P, x646 P, x647 P, x648 P, x649 P, x650 P, x651 P, x652 P, x653 P, x654 P, x655 P, x656 P, x657 P, x658 P, x659 P, x660 P, x661 P, x662 P, x663 P, x664 P, x665 P, x666 P, x667 P, x668 P, x669 P, x670 P, x671 P, x672 P, x673 P, x674 P, x675 P, x676 P, x677 P, x678 P, x679 P, x680 P, x681 P, x682 P, x683 P, x684 P, x685 P, x686 P, x687 P, x688 P, x689 P, x690 P, x691 P, x692 P, x693 P, x694 P, x695 P, x696 P, x697 P, x698 P, x699 P, x700 P, x701 P, x702 P, x703 P, x704 P, x705 P, x706 P, x707 P, x708 P, x709 P, x710 P, x711 P, x712 P, x713 P, x714 P, x715 P, x716 P, x717 P, x718 P, x719 P, x720 P, x721 P, x722 P, x723 P, x724 P, x725 P, x726 P, x727 P, x728 P, x729 P, x730 P, x731 P, x732 P, x733 P, x734 P, x735 P, x736 P, x737 P, x738 P, x739 P, x740 P, x741 P, x742 P, x743 P, x744 P, x745 P, x746 P, x747 P, x748 P, x749 P, x750 P, x751 P, x752 P, x753 P, x754 P, x755 P, x756 P, x757 P, x758 P, x759 P, x760 P, x761 P, x762 P, x763 P, x764 P, x765 P, x766 P, x767 P, x768 P, x769 P, x770 P, x771 P, x772 P, x773 P, x774 P, x775 P, x776 P, x777 P, x778 P, x779 P, x780 P, x781 P, x782 P, x783 P, x784 P, x785 P, x786 P, x787 P, x788 P, x789 P, x790 P, x791 P, x792 P, x793 P, x794 P, x795 P, x796 P, x797 P, x798 P, x799 P, x800 P, x801 P, x802 P, x803 P, x804 P, x805 P, x806 P, x807 P, x808 P, x809 P, x810 P, x811 P, x812 P, x813 P, x814 P, x815 P, x816 P, x817 P, x818 P, x819 P, x820 P, x821 P, x822 P, x823 P, x824 P, x825 P, x826 P, x827 P, x828 P, x829 P]
abbrev posI17 : Pos := ⟨259, 4, 259, 7⟩
noncomputable def x3_3 (P : Params) : Obj := ⟨(.type "dict"), none, (.dict #[ek P (Str.ofString "__name__") 165 (.str (Str.ofString "law_ii0002_01") 2715), ek P (Str.ofString "__doc__") 166 .none, ek P (Str.ofString "__package__") 167 .none, ek P (Str.ofString "__loader__") 168 (.builtin "__main__.__loader__#opaque"), ek P (Str.ofString "__spec__") 169 .none, ek P (Str.ofString "__annotations__") 170 (.ref 6), ek P (Str.ofString "__builtins__") 171 (.ref 4), ek P (Str.ofString "__file__") 173 (.str (Str.ofString "/claim/cut.py") 172), ek P (Str.ofString "__cached__") 174 .none, ek P (Str.ofString "_wall") 193 (.ref 21), ek P (Str.ofString "BaseStemmer") 436 (.ref 199), ek P (Str.ofString "Among") 471 (.ref 220), ek P (Str.ofString "PorterStemmer") 1542 (.ref 527), ek P (Str.ofString "IrishStemmer") 2714 (.ref 832), ek P (Str.ofString "_law_letters") 2718 (.str (Str.ofString "abcdefghijklmnopqrstuvwxyz") 2717), ek P (Str.ofString "_law_longest") 2731 (.ref 841), ek P (Str.ofString "law") 2751 (.ref 848)] 17), #[]⟩
noncomputable def x12_4 (P : Params) : Obj := ⟨.none, none, (.fields #[(.int 1 0), (.int 0 0), (.ref 20), (.int 5 0), (.int 0 0), (.ref 27), (.int 168 0), (.int 0 0), (.ref 209), (.int 175 0), (.int 0 0), (.ref 230), (.int 226 0), (.int 0 0), (.ref 535), (.int 262 0), (.int 0 0), (.ref 840), (.int 271 0), (.int 0 0), (.ref 847)]), #[]⟩
noncomputable def x199_2 (P : Params) : Obj := ⟨(.type "type"), none, (.cls { name := (Str.ofString "BaseStemmer"), bases := [(.type "object")], mro := [(.ref 199), (.type "object")], ns := 198, qualname := (Str.ofString "BaseStemmer"), hasDict := true, slotNames := [], subclasses := [(.ref 527), (.ref 832)], abstract := false, collection := none, hasDel := false }), #[none, none, (some (.str (Str.ofString "BaseStemmer") 196)), (some (.str (Str.ofString "BaseStemmer") 204)), (some (.builtin "object.__new__")), (some (.bool true))]⟩
noncomputable def x532_6 (P : Params) : Obj := ⟨(.type "dict"), none, (.dict #[ek P (Str.ofString "__module__") 1552 (.str (Str.ofString "snowballstemmer.irish_stemmer") 1543), ek P (Str.ofString "__qualname__") 1554 (.str (Str.ofString "IrishStemmer") 1553), ek P (Str.ofString "__firstlineno__") 1556 (.int 226 1555), ek P (Str.ofString "g_v") 1577 (.ref 537), ek P (Str.ofString "I_p2") 1579 (.int 0 1578), ek P (Str.ofString "I_p1") 1581 (.int 0 1580), ek P (Str.ofString "I_pV") 1583 (.int 0 1582), ek P (Str.ofString "r_mark_regions") 1590 (.ref 544), ek P (Str.ofString "r_initial_morph") 1597 (.ref 551), ek P (Str.ofString "r_R1") 1604 (.ref 558), ek P (Str.ofString "r_R2") 1611 (.ref 565), ek P (Str.ofString "r_noun_sfx") 1618 (.ref 572), ek P (Str.ofString "r_deriv") 1625 (.ref 579), ek P (Str.ofString "r_verb_sfx") 1632 (.ref 586), ek P (Str.ofString "_stem") 1639 (.ref 593), ek P (Str.ofString "a_0") 1974 (.ref 666), ek P (Str.ofString "as_0") 1985 (.ref 667), ek P (Str.ofString "a_1") 2202 (.ref 716), ek P (Str.ofString "a_2") 2544 (.ref 792), ek P (Str.ofString "a_3") 2710 (.ref 829), ek P (Str.ofString "__static_attributes__") 2711 (.ref 830)] 21), #[]⟩
noncomputable def x830 (P : Params) : Obj := ⟨(.type "tuple"), none, (.seq #[] 0), #[]⟩
noncomputable def x831 (P : Params) : Obj := ⟨(.type "dict"), none, (.dict #[ek P (Str.ofString "__module__") 1552 (.str (Str.ofString "snowballstemmer.irish_stemmer") 1543), ek P (Str.ofString "__firstlineno__") 1556 (.int 226 1555), ek P (Str.ofString "g_v") 1577 (.ref 537), ek P (Str.ofString "I_p2") 1579 (.int 0 1578), ek P (Str.ofString "I_p1") 1581 (.int 0 1580), ek P (Str.ofString "I_pV") 1583 (.int 0 1582), ek P (Str.ofString "r_mark_regions") 1590 (.ref 544), ek P (Str.ofString "r_initial_morph") 1597 (.ref 551), ek P (Str.ofString "r_R1") 1604 (.ref 558), ek P (Str.ofString "r_R2") 1611 (.ref 565), ek P (Str.ofString "r_noun_sfx") 1618 (.ref 572), ek P (Str.ofString "r_deriv") 1625 (.ref 579), ek P (Str.ofString "r_verb_sfx") 1632 (.ref 586), ek P (Str.ofString "_stem") 1639 (.ref 593), ek P (Str.ofString "a_0") 1974 (.ref 666), ek P (Str.ofString "as_0") 1985 (.ref 667), ek P (Str.ofString "a_1") 2202 (.ref 716), ek P (Str.ofString "a_2") 2544 (.ref 792), ek P (Str.ofString "a_3") 2710 (.ref 829), ek P (Str.ofString "__static_attributes__") 2711 (.ref 830), ek P (Str.ofString "__doc__") 2712 .none] 2), #[]⟩
noncomputable def x832 (P : Params) : Obj := ⟨(.type "type"), none, (.cls { name := (Str.ofString "IrishStemmer"), bases := [(.ref 199)], mro := [(.ref 832), (.ref 199), (.type "object")], ns := 831, qualname := (Str.ofString "IrishStemmer"), hasDict := true, slotNames := [], subclasses := [], abstract := false, collection := none, hasDel := false }), #[(some (.ref 530)), none, (some (.str (Str.ofString "IrishStemmer") 1545)), (some (.str (Str.ofString "IrishStemmer") 1553)), (some (.builtin "object.__new__")), (some (.bool true))]⟩
noncomputable def x833 (P : Params) : Obj := ⟨(.type "super"), none, (.fields #[(.ref 832), (.ref 832), (.ref 832)]), #[]⟩
noncomputable def x834 (P : Params) : Obj := ⟨(.type "builtin_function_or_method"), none, (.fields #[(.builtin "object.__init_subclass__"), (.ref 832)]), #[]⟩
noncomputable def x835 (P : Params) : Obj := ⟨(.type "tuple"), none, (.seq #[] 0), #[]⟩
noncomputable def x836 (P : Params) : Obj := ⟨.none, none, (.fields #[]), #[]⟩
noncomputable def x837 (P : Params) : Obj := ⟨(.type "tuple"), none, (.seq #[(.str (Str.ofString "table") 2722), (.str (Str.ofString "text") 2723), (.str (Str.ofString "behind") 2724), (.str (Str.ofString "found") 2725), (.str (Str.ofString "entry") 2726), (.str (Str.ofString "size") 2727), (.str (Str.ofString "part") 2728)] 0), #[]⟩
noncomputable def x838 (P : Params) : Obj := ⟨(.type "tuple"), none, (.seq #[] 0), #[]⟩
noncomputable def x839 (P : Params) : Obj := ⟨.none, none, (.func { name := (Str.ofString "_law_longest"), qualname := (Str.ofString "_law_longest"), params := fnArgs (topSt 11), body := .stmts (fnBody (topSt 11)), scope := fnScope (topSt 11), globals := 0, closure := [], defaults := .none, kwdefaults := .none, doc := .none, pyModule := .none, annotations := none, code := .none, closureTuple := .none, builtins := 0 }), #[]⟩
noncomputable def x840 (P : Params) : Obj := ⟨(.type "code"), none, (.fields #[(.str (Str.ofString "_law_longest") 2719), (.str (Str.ofString "_law_longest") 2720), (.str (Str.ofString "/claim/cut.py") 2721), (.int 262 0), (.int 3 0), (.int 0 0), (.int 0 0), (.int 3 0), (.ref 835), (.bool true), (.int 181 0), (.ref 836), .none, (.ref 837), (.ref 838), (.ref 839), (.int 2729 0), (.int 262 0), (.str (Str.ofString "/claim/cut.py") 2730)]), #[]⟩
noncomputable def x841 (P : Params) : Obj := ⟨(.type "function"), none, (.func { name := (Str.ofString "_law_longest"), qualname := (Str.ofString "_law_longest"), params := fnArgs (topSt 11), body := .stmts (fnBody (topSt 11)), scope := fnScope (topSt 11), globals := 3, closure := [], defaults := .none, kwdefaults := .none, doc := .none, pyModule := (.str (Str.ofString "law_ii0002_01") 2715), annotations := none, code := (.ref 840), closureTuple := .none, builtins := 0 }), #[]⟩
noncomputable def x842 (P : Params) : Obj := ⟨(.type "tuple"), none, (.seq #[] 0), #[]⟩
noncomputable def x843 (P : Params) : Obj := ⟨.none, none, (.fields #[]), #[]⟩
noncomputable def x844 (P : Params) : Obj := ⟨(.type "tuple"), none, (.seq #[(.str (Str.ofString "script") 2735), (.str (Str.ofString "pick") 2736), (.str (Str.ofString "table") 2737), (.str (Str.ofString "word") 2738), (.str (Str.ofString "number") 2739), (.str (Str.ofString "k") 2740), (.str (Str.ofString "low") 2741), (.str (Str.ofString "high") 2742), (.str (Str.ofString "stemmer") 2743), (.str (Str.ofString "a") 2744), (.str (Str.ofString "b") 2745), (.str (Str.ofString "due") 2746), (.str (Str.ofString "told") 2747), (.str (Str.ofString "place") 2748)] 0), #[]⟩
noncomputable def x845 (P : Params) : Obj := ⟨(.type "tuple"), none, (.seq #[] 0), #[]⟩
noncomputable def x846 (P : Params) : Obj := ⟨.none, none, (.func { name := (Str.ofString "law"), qualname := (Str.ofString "law"), params := fnArgs (topSt 12), body := .stmts (fnBody (topSt 12)), scope := fnScope (topSt 12), globals := 0, closure := [], defaults := .none, kwdefaults := .none, doc := .none, pyModule := .none, annotations := none, code := .none, closureTuple := .none, builtins := 0 }), #[]⟩
noncomputable def x847 (P : Params) : Obj := ⟨(.type "code"), none, (.fields #[(.str (Str.ofString "law") 2732), (.str (Str.ofString "law") 2733), (.str (Str.ofString "/claim/cut.py") 2734), (.int 271 0), (.int 1 0), (.int 0 0), (.int 0 0), (.int 3 0), (.ref 842), (.bool true), (.int 181 0), (.ref 843), .none, (.ref 844), (.ref 845), (.ref 846), (.int 2749 0), (.int 271 0), (.str (Str.ofString "/claim/cut.py") 2750)]), #[]⟩
noncomputable def x848 (P : Params) : Obj := ⟨(.type "function"), none, (.func { name := (Str.ofString "law"), qualname := (Str.ofString "law"), params := fnArgs (topSt 12), body := .stmts (fnBody (topSt 12)), scope := fnScope (topSt 12), globals := 3, closure := [], defaults := .none, kwdefaults := .none, doc := .none, pyModule := (.str (Str.ofString "law_ii0002_01") 2715), annotations := none, code := (.ref 847), closureTuple := .none, builtins := 0 }), #[]⟩
noncomputable def HE (P : Params) (o1 o2 o3 : SO) : List Obj := [x0 P, x1 P, x2 P, x3_3 P, x4 P, x5 P, x6 P, x7 P, x8 P, x9 P, x10 P, x11 P, x12_4 P, x13 P, x14 P, x15 P, x16 P, x17 P, x18 P, x19 P, x20 P, x21 P, x22 P, x23 P, x24 P, x25 P, x26 P, x27 P, x28 P, x29 P, x30 P, x31 P, x32 P, x33 P, x34 P, x35 P, x36 P, x37 P, x38 P, x39 P, x40 P, x41 P, x42 P, x43 P, x44 P, x45 P, x46 P, x47 P, x48 P, x49 P, x50 P, x51 P, x52 P, x53 P, x54 P, x55 P, x56 P, x57 P, x58 P, x59 P, x60 P, x61 P, x62 P, x63 P, x64 P, x65 P, x66 P, x67 P, x68 P, x69 P, x70 P, x71 P, x72 P, x73 P, x74 P, x75 P, x76 P, x77 P, x78 P, x79 P, x80 P, x81 P, x82 P, x83 P, x84 P, x85 P, x86 P, x87 P, x88 P, x89 P, x90 P, x91 P, x92 P, x93 P, x94 P, x95 P, x96 P, x97 P, x98 P, x99 P, x100 P, x101 P, x102 P, x103 P, x104 P, x105 P, x106 P, x107 P, x108 P, x109 P, x110 P, x111 P, x112 P, x113 P, x114 P, x115 P, x116 P, x117 P, x118 P, x119 P, x120 P, x121 P, x122 P, x123 P, x124 P, x125 P, x126 P, x127 P, x128 P, x129 P, x130 P, x131 P, x132 P, x133 P, x134 P, x135 P, x136 P, x137 P, x138 P, x139 P, x140 P, x141 P, x142 P, x143 P, x144 P, x145 P, x146 P, x147 P, x148 P, x149 P, x150 P, x151 P, x152 P, x153 P, x154 P, x155 P, x156 P, x157 P, x158 P, x159 P, x160 P, x161 P, x162 P, x163 P, x164 P, x165 P, x166 P, x167 P, x168 P, x169 P, x170 P, x171 P, x172 P, x173 P, x174 P, x175 P, x176 P, x177 P, x178 P, x179 P, x180 P, x181 P, x182 P, x183 P, x184 P, x185 P, x186 P, x187 P, x188 P, x189 P, x190 P, x191 P, x192 P, x193 P, x194 P, x195 P, x196 P, x197 P, x198 P, x199_2 P, x200 P, x201 P, x202 P, x203 P, x204 P, x205 P, x206 P, x207 P, x208 P, x209 P, x210 P, x211 P, x212 P, x213 P, x214 P, x215 P, x216 P, x217 P, x218 P, x219 P, x220 P, x221 P, x222 P, x223 P, x224 P, x225 P, x226 P, x227_7 P, x228 P, x229_1 P, x230 P, x231 P, o1.obj, o2.obj, x234 P, x235 P, x236 P, x237 P, x238 P, x239 P, x240 P, x241 P, x242 P, x243 P, x244 P, x245 P, x246 P, x247 P, x248 P, x249 P, x250 P, x251 P, x252 P, x253 P, x254 P, x255 P, x256 P, x257 P, x258 P, x259 P, x260 P, x261 P, x262 P, x263 P, x264 P, x265 P, x266 P, x267 P, x268 P, x269 P, x270 P, x271 P, x272 P, x273 P, x274 P, x275 P, x276 P, x277 P, x278 P, x279 P, x280 P, x281 P, x282 P, x283 P, x284 P, x285 P, x286 P, x287 P, x288 P, x289 P, x290 P, x291 P, x292 P, x293 P, x294 P, x295 P, x296 P, x297 P, x298 P, x299 P, x300 P, x301 P, x302 P, x303 P, x304 P, x305 P, x306 P, x307 P, x308 P, x309 P, x310 P, x311 P, x312 P, x313 P, x314 P, x315 P, x316 P, x317 P, x318 P, x319 P, x320 P, x321 P, x322 P, x323 P, x324 P, x325 P, x326 P, x327 P, x328 P, x329 P, x330 P, x331 P, x332 P, x333 P, x334 P, x335 P, x336 P, x337 P, x338 P, x339 P, x340 P, x341 P, x342 P, x343 P, x344 P, x345 P, x346 P, x347 P, x348 P, x349 P, x350 P, x351 P, x352 P, x353 P, x354 P, x355 P, x356 P, x357 P, x358 P, x359 P, x360 P, x361 P, x362 P, x363 P, x364 P, x365 P, x366 P, x367 P, x368 P, x369 P, x370 P, x371 P, x372 P, x373 P, x374 P, x375 P, x376 P, x377 P, x378 P, x379 P, x380 P, x381 P, x382 P, x383 P, x384 P, x385 P, x386 P, x387 P, x388 P, x389 P, x390 P, x391 P, x392 P, x393 P, x394 P, x395 P, x396 P, x397 P, x398 P, x399 P, x400 P, x401 P, x402 P, x403 P, x404 P, x405 P, x406 P, x407 P, x408 P, x409 P, x410 P, x411 P, x412 P, x413 P, x414 P, x415 P, x416 P, x417 P, x418 P, x419 P, x420 P, x421 P, x422 P, x423 P, x424 P, x425 P, x426 P, x427 P, x428 P, x429 P, x430 P, x431 P, x432 P, x433 P, x434 P, x435 P, x436 P, x437 P, x438 P, x439 P, x440 P, x441 P, x442 P, x443 P, x444 P, x445 P, x446 P, x447 P, x448 P, x449 P, x450 P, x451 P, x452 P, x453 P, x454 P, x455 P, x456 P, x457 P, x458 P, x459 P, x460 P, x461 P, x462 P, x463 P, x464 P, x465 P, x466 P, x467 P, x468 P, x469 P, x470 P, x471 P, x472 P, x473 P, x474 P, x475 P, x476 P, x477 P, x478 P, x479 P, x480 P, x481 P, x482 P, x483 P, x484 P, x485 P, x486 P, x487 P, x488 P, x489 P, x490 P, x491 P, x492 P, x493 P, x494 P, x495 P, x496 P, x497 P, x498 P, x499 P, x500 P, x501 P, x502 P, x503 P, x504 P, x505 P, x506 P, x507 P, x508 P, x509 P, x510 P, x511 P, x512 P, x513 P, x514 P, x515 P, x516 P, x517 P, x518 P, x519 P, x520 P, x521 P, x522 P, x523 P, x524 P, x525 P, x526 P, x527 P, x528 P, x529 P, x530 P, x531 P, x532_6 P, x533 P, x534_1 P, x535 P, x536 P, o3.obj, x538 P, x539 P, x540 P, x541 P, x542 P, x543 P, x544 P, x545 P, x546 P, x547 P, x548 P, x549 P, x550 P, x551 P, x552 P, x553 P, x554 P, x555 P, x556 P, x557 P, x558 P, x559 P, x560 P, x561 P, x562 P, x563 P, x564 P, x565 P, x566 P, x567 P, x568 P, x569 P, x570 P, x571 P, x572 P, x573 P, x574 P, x575 P, x576 P, x577 P, x578 P, x579 P, x580 P, x581 P, x582 P, x583 P, x584 P, x585 P, x586 P, x587 P, x588 P, x589 P, x590 P, x591 P, x592 P, x593 P, x594 P, x595 P, x596 P, x597 P, x598 P, x599 P, x600 P, x601 P, x602 P, x603 P, x604 P, x605 P, x606 P, x607 P, x608 P, x609 P, x610 P, x611 P, x612 P, x613 P, x614 P, x615 P, x616 P, x617 P, x618 P, x619 P, x620 P, x621 P, x622 P, x623 P, x624 P, x625 P, x626 P, x627 P, x628 P, x629 P, x630 P, x631 P, x632 P, x633 P, x634 P, x635 P, x636 P, x637 P, x638 P, x639 P, x640 P, x641 P, x642 P, x643 P, x644 P, x645 P, x646 P, x647 P, x648 P, x649 P, x650 P, x651 P, x652 P, x653 P, x654 P, x655 P, x656 P, x657 P, x658 P, x659 P, x660 P, x661 P, x662 P, x663 P, x664 P, x665 P, x666 P, x667 P, x668 P, x669 P, x670 P, x671 P, x672 P, x673 P, x674 P, x675 P, x676 P, x677 P, x678 P, x679 P, x680 P, x681 P, x682 P, x683 P, x684 P, x685 P, x686 P, x687 P, x688 P, x689 P, x690 P, x691 P, x692 P, x693 P, x694 P, x695 P, x696 P, x697 P, x698 P, x699 P, x700 P, x701 P, x702 P, x703 P, x704 P, x705 P, x706 P, x707 P, x708 P, x709 P, x710 P, x711 P, x712 P, x713 P, x714 P, x715 P, x716 P, x717 P, x718 P, x719 P, x720 P, x721 P, x722 P, x723 P, x724 P, x725 P, x726 P, x727 P, x728 P, x729 P, x730 P, x731 P, x732 P, x733 P, x734 P, x735 P, x736 P, x737 P, x738 P, x739 P, x740 P, x741 P, x742 P, x743 P, x744 P, x745 P, x746 P, x747 P, x748 P, x749 P, x750 P, x751 P, x752 P, x753 P, x754 P, x755 P, x756 P, x757 P, x758 P, x759 P, x760 P, x761 P, x762 P, x763 P, x764 P, x765 P, x766 P, x767 P, x768 P, x769 P, x770 P, x771 P, x772 P, x773 P, x774 P, x775 P, x776 P, x777 P, x778 P, x779 P, x780 P, x781 P, x782 P, x783 P, x784 P, x785 P, x786 P, x787 P, x788 P, x789 P, x790 P, x791 P, x792 P, x793 P, x794 P, x795 P, x796 P, x797 P, x798 P, x799 P, x800 P, x801 P, x802 P, x803 P, x804 P, x805 P, x806 P, x807 P, x808 P, x809 P, x810 P, x811 P, x812 P, x813 P, x814 P, x815 P, x816 P, x817 P, x818 P, x819 P, x820 P, x821 P, x822 P, x823 P, x824 P, x825 P, x826 P, x827 P, x828 P, x829 P, x830 P, x831 P, x832 P, x833 P, x834 P, x835 P, x836 P, x837 P, x838 P, x839 P, x840 P, x841 P, x842 P, x843 P, x844 P, x845 P, x846 P, x847 P, x848 P]
abbrev posE : Pos := ⟨0, 0, 0, 0⟩

noncomputable def treeOf (l : List Obj) : BT := (l.foldl (fun (p : BT × Nat) o => (p.1.ins p.2 o, p.2 + 1)) (BT.nil, 0)).1
noncomputable def envM : Env := { scope := pw_ii0002_01.main.scope, locals := 3, globals := 3, cells := [], qual := (Str.ofString ""), func := none, code := (.ref 13), frame := (some 14), builtins := 0 }
noncomputable def envP : Env := { scope := clsScope (topSt 6), locals := 227, globals := 3, cells := [], qual := (Str.ofString "PorterStemmer."), func := none, code := (.ref 230), frame := (some 231), builtins := 0 }
noncomputable def envI : Env := { scope := clsScope (topSt 8), locals := 532, globals := 3, cells := [], qual := (Str.ofString "IrishStemmer."), func := none, code := (.ref 535), frame := (some 536), builtins := 0 }
end Mine
/- XSeg -/
namespace Mine
noncomputable section
abbrev mainB : List Stmt := pw_ii0002_01.main.body
abbrev bodyI : List Stmt := clsBody (topSt 8)
abbrev stOf (w : World) (os : OsState) (H : List Obj) (n toks : Nat) : SharedT := ⟨treeOf H, n, (boot_heap w.params).life, #[], boot_drawn, toks, os⟩
abbrev frP (K : Result → Sem PySem.Fin) : Frame := .ret K none false [.ref 199, .ref 225, .ref 225, .ref 227, .ref 231] (.body mainB envM) posP0 []
abbrev frI (K : Result → Sem PySem.Fin) : Frame := .ret K none false [.ref 199, .ref 530, .ref 530, .ref 532, .ref 536] (.body mainB envM) posI0 []
def kOf (r : Option (SharedT × Thread)) : Result → Sem PySem.Fin := match r with
  | some (_, t) => (match t.stack with
    | .ret k _ _ _ _ _ _ :: _ => k
    | _ => fun _ => Sem.pure (PySem.Fin.done .next))
  | none => fun _ => Sem.pure (PySem.Fin.done .next)
abbrev frT : Frame := topFrame ⟨0, 0, 0, 0⟩
abbrev thM3 : Thread := ⟨bodyCur (mainB.drop 3) envM, .body mainB envM, posM3, [frT]⟩
abbrev thC0 : Thread := ⟨bodyCur (mainB.drop 6) envM, .body mainB envM, posC0, [frT]⟩
def rP0 (w : World) (os : OsState) : Option (SharedT × Thread) := goP w 64 (stOf w os (HC0 w.params) 225 474) thC0
def KP (w : World) (os : OsState) : Result → Sem PySem.Fin := kOf (rP0 w os)
abbrev thP (K : Result → Sem PySem.Fin) (j : Nat) (q : Pos) : Thread := ⟨(execs (bodyP.drop j) envP).wrap doneF (leaveH envP) id id, .body bodyP envP, q, [frP K, frT]⟩
abbrev thPs (K : Result → Sem PySem.Fin) (j a : Nat) : Thread := ⟨afterSet envP (asgT (clsSt 6 j)) (.Set (sE (clsSt 6 j)) 0 (sQ (clsSt 6 j))) (bodyP.drop (j + 1)) (.ref a) doneF (leaveH envP) id id, .body bodyP envP, sQ (clsSt 6 j), [frP K, frT]⟩
abbrev inS (w : World) (os : OsState) (H : List Obj) (n toks : Nat) (o : SO) : SharedT := ⟨(treeOf H).ins n o.obj, n + 1, (boot_heap w.params).life, #[], boot_drawn, toks, os⟩
abbrev thC1 : Thread := ⟨bodyCur (mainB.drop 8) envM, .body mainB envM, posC1, [frT]⟩
def rI0 (w : World) (os : OsState) (o1 o2 : SO) : Option (SharedT × Thread) := goP w 64 (stOf w os (HC1 w.params o1 o2) 530 1545) thC1
def KI (w : World) (os : OsState) (o1 o2 : SO) : Result → Sem PySem.Fin := kOf (rI0 w os o1 o2)
abbrev thI (K : Result → Sem PySem.Fin) (j : Nat) (q : Pos) : Thread := ⟨(execs (bodyI.drop j) envI).wrap doneF (leaveH envI) id id, .body bodyI envI, q, [frI K, frT]⟩
abbrev thIs (K : Result → Sem PySem.Fin) (j a : Nat) : Thread := ⟨afterSet envI (asgT (clsSt 8 j)) (.Set (sE (clsSt 8 j)) 0 (sQ (clsSt 8 j))) (bodyI.drop (j + 1)) (.ref a) doneF (leaveH envI) id id, .body bodyI envI, sQ (clsSt 8 j), [frI K, frT]⟩
end
end Mine
/- XSeg1 -/
namespace Mine
theorem segM3 (w : World) (os : OsState) : goP w 1036 (S0T w os) (topStub pw_ii0002_01) = some (stOf w os (HM3 w.params) 204 437, thM3) := by kernel_rfl
theorem segC0 (w : World) (os : OsState) : goP w 244 (stOf w os (HM3 w.params) 204 437) thM3 = some (stOf w os (HC0 w.params) 225 474, thC0) := by kernel_rfl
theorem segP0 (w : World) (os : OsState) : goP w 64 (stOf w os (HC0 w.params) 225 474) thC0 = some (stOf w os (HP0 w.params) 232 486, ⟨bodyCur bodyP envP, .body bodyP envP, posP0, [frP (KP w os), frT]⟩) := by kernel_rfl
theorem segP1 (w : World) (os : OsState) (K : Result → Sem PySem.Fin) (o1 : SO) : goP w 8 (inS w os (HP0 w.params) 232 498 o1) (thPs K 0 232) = some (stOf w os (HP1 w.params o1) 233 499, thP K 1 posP1) := by kernel_rfl
end Mine
/- XSeg2 -/
namespace Mine
theorem segP18 (w : World) (os : OsState) (K : Result → Sem PySem.Fin) (o1 o2 : SO) : goP w 1083 (inS w os (HP1 w.params o1) 233 517 o2) (thPs K 1 233) = some (stOf w os (HP18 w.params o1 o2) 332 665, thP K 18 posP18) := by kernel_rfl
end Mine
/- XSegMid -/
namespace Mine
noncomputable section
def lstElts (e : PySem.Expr) : List PySem.Expr := match e with | .List l _ => l | _ => []
def lstPos (e : PySem.Expr) : Pos := match e with | .List _ p => p | _ => ⟨0, 0, 0, 0⟩
def nest : List Value → Sem (List Value) → Sem (List Value)
  | [], m => m
  | v :: vs, m => holding [v] (nest vs m) >>= fun r => pure ([v] ++ r)
abbrev midCur (s : Stmt) (env : Env) (rest : List Stmt) (vs : List Value) : Sem PySem.Fin :=
  ((((nest vs (spliced (backTo (lstPos (asgV s)) (starEach ((lstElts (asgV s)).drop vs.length) env))) >>= fun xs => newList xs) >>= fun v => swappedStores [asgT s] (asgV s) env >>= fun b => assignStores env v b ((assignEach [asgT s] env).map (·.2)))) >>= fun f => match f with | .next => execs rest env | f => Pure.pure f).wrap doneF (leaveH env) id id
def vsFrom (a n : Nat) : List Value := (List.range n).map fun i => .ref (a + 3 * i)
abbrev thPm (K : Result → Sem PySem.Fin) (j a n : Nat) (q : Pos) : Thread := ⟨midCur (clsSt 6 j) envP (bodyP.drop (j + 1)) (vsFrom a n), .body bodyP envP, q, [frP K, frT]⟩
abbrev thIm (K : Result → Sem PySem.Fin) (j a n : Nat) (q : Pos) : Thread := ⟨midCur (clsSt 8 j) envI (bodyI.drop (j + 1)) (vsFrom a n), .body bodyI envI, q, [frI K, frT]⟩
abbrev HP18m (P : Params) (o1 o2 : SO) : List Obj := HP18 P o1 o2 ++ ((HP20 P o1 o2).drop 332).take 18
abbrev HP20m (P : Params) (o1 o2 : SO) : List Obj := HP20 P o1 o2 ++ ((HP22 P o1 o2).drop 382).take 30
abbrev HP24m (P : Params) (o1 o2 : SO) : List Obj := HP24 P o1 o2 ++ ((HC1 P o1 o2).drop 467).take 27
abbrev HI12m (P : Params) (o1 o2 o3 : SO) : List Obj := HI12 P o1 o2 o3 ++ ((HI14 P o1 o2 o3).drop 594).take 36
abbrev HI14m (P : Params) (o1 o2 o3 : SO) : List Obj := HI14 P o1 o2 o3 ++ ((HI15 P o1 o2 o3).drop 668).take 24
abbrev HI15m (P : Params) (o1 o2 o3 : SO) : List Obj := HI15 P o1 o2 o3 ++ ((HI16 P o1 o2 o3).drop 717).take 36
abbrev HI16m (P : Params) (o1 o2 o3 : SO) : List Obj := HI16 P o1 o2 o3 ++ ((HE P o1 o2 o3).drop 793).take 18
end
end Mine
/- XSmP20a -/
namespace Mine
theorem segP20a (w : World) (os : OsState) (K : Result → Sem PySem.Fin) (o1 o2 : SO) : goP w 997 (stOf w os (HP18 w.params o1 o2) 332 665) (thP K 18 posP18) = some ((stOf w os (HP18m w.params o1 o2) 350 744), thPm K 18 333 6 ⟨218, 105, 218, 122⟩) := by kernel_rfl
end Mine
/- XSmP20b -/
namespace Mine
theorem segP20b (w : World) (os : OsState) (K : Result → Sem PySem.Fin) (o1 o2 : SO) : goP w 1680 (stOf w os (HP18m w.params o1 o2) 350 744) (thPm K 18 333 6 ⟨218, 105, 218, 122⟩) = some ((stOf w os (HP20 w.params o1 o2) 382 878), thP K 20 posP20) := by kernel_rfl
end Mine
/- XSmP22a -/
namespace Mine
theorem segP22a (w : World) (os : OsState) (K : Result → Sem PySem.Fin) (o1 o2 : SO) : goP w 1702 (stOf w os (HP20 w.params o1 o2) 382 878) (thP K 20 posP20) = some ((stOf w os (HP20m w.params o1 o2) 412 1018), thPm K 20 383 10 ⟨220, 215, 220, 237⟩) := by kernel_rfl
end Mine
/- XSmP22b -/
namespace Mine
theorem segP22b (w : World) (os : OsState) (K : Result → Sem PySem.Fin) (o1 o2 : SO) : goP w 1723 (stOf w os (HP20m w.params o1 o2) 412 1018) (thPm K 20 383 10 ⟨220, 215, 220, 237⟩) = some ((stOf w os (HP22 w.params o1 o2) 444 1171), thP K 22 posP22) := by kernel_rfl
end Mine
/- XSeg5 -/
namespace Mine
theorem segP24 (w : World) (os : OsState) (K : Result → Sem PySem.Fin) (o1 o2 : SO) : goP w 1215 (stOf w os (HP22 w.params o1 o2) 444 1171) (thP K 22 posP22) = some (stOf w os (HP24 w.params o1 o2) 467 1274, thP K 24 posP24) := by kernel_rfl
theorem segI0 (w : World) (os : OsState) (o1 o2 : SO) : goP w 64 (stOf w os (HC1 w.params o1 o2) 530 1545) thC1 = some (stOf w os (HI0 w.params o1 o2) 537 1557, ⟨bodyCur bodyI envI, .body bodyI envI, posI0, [frI (KI w os o1 o2), frT]⟩) := by kernel_rfl
theorem segI12 (w : World) (os : OsState) (K : Result → Sem PySem.Fin) (o1 o2 o3 : SO) : goP w 278 (inS w os (HI0 w.params o1 o2) 537 1577 o3) (thIs K 0 537) = some (stOf w os (HI12 w.params o1 o2 o3) 594 1640, thI K 12 posI12) := by kernel_rfl
end Mine
/- XSmC1a -/
namespace Mine
theorem segC1a (w : World) (os : OsState) (K : Result → Sem PySem.Fin) (o1 o2 : SO) : goP w 1532 (stOf w os (HP24 w.params o1 o2) 467 1274) (thP K 24 posP24) = some ((stOf w os (HP24m w.params o1 o2) 494 1400), thPm K 24 468 9 ⟨224, 182, 224, 201⟩) := by kernel_rfl
end Mine
/- XSmC1b -/
namespace Mine
theorem segC1b (w : World) (os : OsState) (K : Result → Sem PySem.Fin) (o1 o2 : SO) : goP w 1699 (stOf w os (HP24m w.params o1 o2) 494 1400) (thPm K 24 468 9 ⟨224, 182, 224, 201⟩) = some ((stOf w os (HP25 w.params o1 o2) 525 1539), thP K 25 posP25) := by kernel_rfl
end Mine
/- XSmC1c -/
namespace Mine
theorem segC1c (w : World) (os : OsState) (o1 o2 : SO) : goP w 180 (stOf w os (HP25 w.params o1 o2) 525 1539) (thP (KP w os) 25 posP25) = some (stOf w os (HC1 w.params o1 o2) 530 1545, thC1) := by kernel_rfl
end Mine
/- XSmI14a -/
namespace Mine
theorem segI14a (w : World) (os : OsState) (K : Result → Sem PySem.Fin) (o1 o2 o3 : SO) : goP w 2032 (stOf w os (HI12 w.params o1 o2 o3) 594 1640) (thI K 12 posI12) = some ((stOf w os (HI12m w.params o1 o2 o3) 630 1806), thIm K 12 595 12 ⟨255, 232, 255, 250⟩) := by kernel_rfl
end Mine
/- XSmI14b -/
namespace Mine
theorem segI14b (w : World) (os : OsState) (K : Result → Sem PySem.Fin) (o1 o2 o3 : SO) : goP w 2070 (stOf w os (HI12m w.params o1 o2 o3) 630 1806) (thIm K 12 595 12 ⟨255, 232, 255, 250⟩) = some ((stOf w os (HI14 w.params o1 o2 o3) 668 1986), thI K 14 posI14) := by kernel_rfl
end Mine
/- XSmI15a -/
namespace Mine
theorem segI15a (w : World) (os : OsState) (K : Result → Sem PySem.Fin) (o1 o2 o3 : SO) : goP w 1342 (stOf w os (HI14 w.params o1 o2 o3) 668 1986) (thI K 14 posI14) = some ((stOf w os (HI14m w.params o1 o2 o3) 692 2094), thIm K 14 669 8 ⟨257, 166, 257, 185⟩) := by kernel_rfl
end Mine
/- XSmI15b -/
namespace Mine
theorem segI15b (w : World) (os : OsState) (K : Result → Sem PySem.Fin) (o1 o2 o3 : SO) : goP w 1349 (stOf w os (HI14m w.params o1 o2 o3) 692 2094) (thIm K 14 669 8 ⟨257, 166, 257, 185⟩) = some ((stOf w os (HI15 w.params o1 o2 o3) 717 2203), thI K 15 posI15) := by kernel_rfl
end Mine
/- XSmI16a -/
namespace Mine
theorem segI16a (w : World) (os : OsState) (K : Result → Sem PySem.Fin) (o1 o2 o3 : SO) : goP w 2012 (stOf w os (HI15 w.params o1 o2 o3) 717 2203) (thI K 15 posI15) = some ((stOf w os (HI15m w.params o1 o2 o3) 753 2365), thIm K 15 718 12 ⟨258, 278, 258, 299⟩) := by kernel_rfl
end Mine
/- XSmI16b -/
namespace Mine
theorem segI16b (w : World) (os : OsState) (K : Result → Sem PySem.Fin) (o1 o2 o3 : SO) : goP w 2204 (stOf w os (HI15m w.params o1 o2 o3) 753 2365) (thIm K 15 718 12 ⟨258, 278, 258, 299⟩) = some ((stOf w os (HI16 w.params o1 o2 o3) 793 2545), thI K 16 posI16) := by kernel_rfl
end Mine
/- XSmEa -/
namespace Mine
theorem segEa (w : World) (os : OsState) (K : Result → Sem PySem.Fin) (o1 o2 o3 : SO) : goP w 1007 (stOf w os (HI16 w.params o1 o2 o3) 793 2545) (thI K 16 posI16) = some ((stOf w os (HI16m w.params o1 o2 o3) 811 2626), thIm K 16 794 6 ⟨259, 122, 259, 141⟩) := by kernel_rfl
end Mine
/- XSmEb -/
namespace Mine
theorem segEb (w : World) (os : OsState) (K : Result → Sem PySem.Fin) (o1 o2 o3 : SO) : goP w 1029 (stOf w os (HI16m w.params o1 o2 o3) 811 2626) (thIm K 16 794 6 ⟨259, 122, 259, 141⟩) = some (stOf w os (HI17 w.params o1 o2 o3) 830 2711, thI K 17 posI17) := by kernel_rfl
end Mine
/- XSmEc -/
namespace Mine
theorem segEc (w : World) (os : OsState) (o1 o2 o3 : SO) : (goP w 258 (stOf w os (HI17 w.params o1 o2 o3) 830 2711) (thI (KI w os o1 o2) 17 posI17)).map (fun r => (r.1, through r.2)) = some (stOf w os (HE w.params o1 o2 o3) 849 2752, true) := by kernel_rfl
end Mine
/- MLook -/
namespace Mine
noncomputable section
abbrev finH (w : World) (o1 o2 o3 : SO) : Heap := ⟨(HE w.params o1 o2 o3).toArray, (boot_heap w.params).life⟩
abbrev finS (w : World) (os : OsState) (o1 o2 o3 : SO) : Shared := ⟨finH w o1 o2 o3, #[], boot_drawn, 2752, os⟩
abbrev XtL (s : Shared) : Bool := xlAt qv [] s && recOk (RowW.records rw_ii0002_01.row.toRowW) s
theorem L1 (w : World) (o1 o2 o3 : SO) : absHeap (treeOf (HE w.params o1 o2 o3)) 849 (boot_heap w.params).life = finH w o1 o2 o3 := by kernel_rfl
theorem L2 (w : World) (o1 o2 o3 : SO) : staticsOk (importedModules pw_ii0002_01.main.body) (boot_heap w.params) (finH w o1 o2 o3) = true := by kernel_rfl
theorem L3 (w : World) (o1 o2 o3 : SO) : namesBound pw_ii0002_01 (finH w o1 o2 o3) = true := by kernel_rfl
theorem L4 (w : World) (os : OsState) (o1 o2 o3 : SO) : gensDone (finS w os o1 o2 o3) = true := by kernel_rfl
theorem L5 (w : World) (o1 o2 o3 : SO) : laidKept (boot_heap w.params) (finH w o1 o2 o3) = true := by kernel_rfl
theorem L7 (w : World) (os : OsState) (o1 o2 o3 : SO) : myHook.obs (finS w os o1 o2 o3) = myHook.val w := by kernel_rfl
end
end Mine
/- MLook2 -/
namespace Mine
theorem L6 (w : World) (os : OsState) (o1 o2 o3 : SO) : openSeen qv loose1 (importedModules pw_ii0002_01.main.body) XtL true (finS w os o1 o2 o3) = openGood qv loose1 := by kernel_rfl
end Mine
/- XFin -/
namespace Mine
theorem set_seg {w : World} {os : OsState} {T : BT} {n toks k m : Nat} {s : Stmt} {env : Env} {ca : Addr} {oc : Obj} {vals : Array Value} {rest : List Stmt} {life : Life} {drawn : Drawn} {c : Code} {pos : Pos} {F : Frame} {B : List Frame}
    (lk : setLooks s = true) (hm : (strsAt (sE s) 0).length = m)
    (ev : ∀ (heap : Heap) (K : List Value → Sem PySem.Fin) (H : Value → Sem PySem.Fin) (gd : Bool → Bool) (lv : List Value → List Value) (c : Code) (pos : Pos) (F : Frame) (B : List Frame),
      topGo treeTable pw_ii0002_01 w 11 none k ⟨heap, #[], drawn, toks, os⟩ ⟨(evS s env).wrap K H gd lv, c, pos, F :: B⟩ = some (⟨heap, #[], drawn, toks + m, os⟩, ⟨K ((strsAt (sE s) toks).map fun v => Value.str v.1 v.2), c, sQ s, F :: B⟩))
    (hsw : swapsWithSole [asgT s] (.Set (sE s) 0 (sQ s)) (asgP s).line env = pure false) (hc : env.code = .ref ca) (hg : T.get ca = some oc) (hal : alive oc = some oc) (hca : ca < n) (hd : oc.data = .fields vals) (ha : 11 ≤ n)
    (hins : ∀ o : SO, ((T.ins n o.obj).get n).isSome = true) :
    ∃ o : SO, Go treeTable pw_ii0002_01 w 11 none (k + 374) (⟨T, n, life, #[], drawn, toks, os⟩ : SharedT).abs ⟨(execs (theSet s :: rest) env).wrap doneF (leaveH env) id id, c, pos, F :: B⟩
      (⟨T.ins n o.obj, n + 1, life, #[], drawn, toks + m + m, os⟩ : SharedT).abs ⟨afterSet env (asgT s) (.Set (sE s) 0 (sQ s)) rest (.ref n) doneF (leaveH env) id id, c, sQ s, F :: B⟩ := by
  obtain ⟨o', ys, ⟨es, ep, t, rfl, _⟩, g⟩ := Go.setAt (w := w) (n₀ := 11) (ann := none) (h₀ := absHeap T n life) (gens := #[]) (drawn := drawn) (toks := toks) (k := k) (n := m) (os := os) (s := s) (env := env) (ca := ca) (oc := oc) (vals := vals) (rest := rest) lk hm ev hsw hc ((abs_get hca hg).trans hal) hd (by rw [absHeap_size]; exact ha) doneF (leaveH env) id id c pos F B
  refine ⟨⟨es, ep, t⟩, ?_⟩
  rw [absHeap_size, ← absHeap_ins (o := setObj es ep t) (hins ⟨es, ep, t⟩)] at g
  exact g
theorem set_seg' {w : World} {os : OsState} {T : BT} {n n' toks toks' k m : Nat} {s : Stmt} {env : Env} {ca : Addr} {oc : Obj} {vals : Array Value} {body rest : List Stmt} {life : Life} {drawn : Drawn} {c : Code} {pos : Pos} {F : Frame} {B : List Frame}
    (hb : body = theSet s :: rest) (hn' : n' = n + 1) (ht' : toks' = toks + m + m) (lk : setLooks s = true) (hm : (strsAt (sE s) 0).length = m)
    (ev : ∀ (heap : Heap) (K : List Value → Sem PySem.Fin) (H : Value → Sem PySem.Fin) (gd : Bool → Bool) (lv : List Value → List Value) (c : Code) (pos : Pos) (F : Frame) (B : List Frame),
      topGo treeTable pw_ii0002_01 w 11 none k ⟨heap, #[], drawn, toks, os⟩ ⟨(evS s env).wrap K H gd lv, c, pos, F :: B⟩ = some (⟨heap, #[], drawn, toks + m, os⟩, ⟨K ((strsAt (sE s) toks).map fun v => Value.str v.1 v.2), c, sQ s, F :: B⟩))
    (hsw : swapsWithSole [asgT s] (.Set (sE s) 0 (sQ s)) (asgP s).line env = pure false) (hc : env.code = .ref ca) (hg : T.get ca = some oc) (hal : alive oc = some oc) (hca : ca < n) (hd : oc.data = .fields vals) (ha : 11 ≤ n)
    (hins : ∀ o : SO, ((T.ins n o.obj).get n).isSome = true) :
    ∃ o : SO, Go treeTable pw_ii0002_01 w 11 none (k + 374) (⟨T, n, life, #[], drawn, toks, os⟩ : SharedT).abs ⟨(execs body env).wrap doneF (leaveH env) id id, c, pos, F :: B⟩
      (⟨T.ins n o.obj, n', life, #[], drawn, toks', os⟩ : SharedT).abs ⟨afterSet env (asgT s) (.Set (sE s) 0 (sQ s)) rest (.ref n) doneF (leaveH env) id id, c, sQ s, F :: B⟩ := by
  subst hb hn' ht'
  exact set_seg lk hm ev hsw hc hg hal hca hd ha hins
theorem splitP0 : bodyP = theSet (clsSt 6 0) :: bodyP.drop 1 := by kernel_rfl
theorem splitP1 : bodyP.drop 1 = theSet (clsSt 6 1) :: bodyP.drop 2 := by kernel_rfl
theorem splitI0 : bodyI = theSet (clsSt 8 0) :: bodyI.drop 1 := by kernel_rfl
theorem swP0 : swapsWithSole [asgT (clsSt 6 0)] (.Set (sE (clsSt 6 0)) 0 (sQ (clsSt 6 0))) (asgP (clsSt 6 0)).line envP = pure false := by kernel_rfl
theorem swP1 : swapsWithSole [asgT (clsSt 6 1)] (.Set (sE (clsSt 6 1)) 0 (sQ (clsSt 6 1))) (asgP (clsSt 6 1)).line envP = pure false := by kernel_rfl
theorem swI0 : swapsWithSole [asgT (clsSt 8 0)] (.Set (sE (clsSt 8 0)) 0 (sQ (clsSt 8 0))) (asgP (clsSt 8 0)).line envI = pure false := by kernel_rfl
theorem lenP0 : (strsAt (sE (clsSt 6 0)) 0).length = 6 := by kernel_rfl
theorem lenP1 : (strsAt (sE (clsSt 6 1)) 0).length = 9 := by kernel_rfl
theorem lenI0 : (strsAt (sE (clsSt 8 0)) 0).length = 10 := by kernel_rfl
theorem codeP : envP.code = .ref 230 := by kernel_rfl
theorem codeI : envI.code = .ref 535 := by kernel_rfl
theorem getP0 (w : World) : (treeOf (HP0 w.params)).get 230 = some (x230 w.params) := by kernel_rfl
theorem getP1 (w : World) (o1 : SO) : (treeOf (HP1 w.params o1)).get 230 = some (x230 w.params) := by kernel_rfl
theorem getI0 (w : World) (o1 o2 : SO) : (treeOf (HI0 w.params o1 o2)).get 535 = some (x535 w.params) := by kernel_rfl
theorem aliveP (w : World) : alive (x230 w.params) = some (x230 w.params) := by kernel_rfl
theorem aliveI (w : World) : alive (x535 w.params) = some (x535 w.params) := by kernel_rfl
theorem fieldsP (w : World) : ∃ vals, (x230 w.params).data = .fields vals := ⟨_, rfl⟩
theorem fieldsI (w : World) : ∃ vals, (x535 w.params).data = .fields vals := ⟨_, rfl⟩
theorem insP0 (w : World) (o : SO) : (((treeOf (HP0 w.params)).ins 232 o.obj).get 232).isSome = true := by kernel_rfl
theorem insP1 (w : World) (o1 o : SO) : (((treeOf (HP1 w.params o1)).ins 233 o.obj).get 233).isSome = true := by kernel_rfl
theorem insI0 (w : World) (o1 o2 o : SO) : (((treeOf (HI0 w.params o1 o2)).ins 537 o.obj).get 537).isSome = true := by kernel_rfl
theorem set1 (w : World) (os : OsState) : ∃ o1 : SO, Go treeTable pw_ii0002_01 w 11 none 386 (stOf w os (HP0 w.params) 232 486).abs ⟨bodyCur bodyP envP, .body bodyP envP, posP0, [frP (KP w os), frT]⟩ (inS w os (HP0 w.params) 232 498 o1).abs (thPs (KP w os) 0 232) := by
  obtain ⟨vals, hd⟩ := fieldsP w
  rw [bodyCur_wrap]
  exact set_seg' (k := 12) (m := 6) splitP0 (by decide) (by decide) looks_60 lenP0 (fun heap K H gd lv c pos F B => ev_60 w 11 none heap #[] boot_drawn 486 os envP K H gd lv c pos F B) swP0 codeP (getP0 w) (aliveP w) (by decide) hd (by decide) (insP0 w)
theorem set2 (w : World) (os : OsState) (o1 : SO) : ∃ o2 : SO, Go treeTable pw_ii0002_01 w 11 none 392 (stOf w os (HP1 w.params o1) 233 499).abs (thP (KP w os) 1 posP1) (inS w os (HP1 w.params o1) 233 517 o2).abs (thPs (KP w os) 1 233) := by
  obtain ⟨vals, hd⟩ := fieldsP w
  exact set_seg' (k := 18) (m := 9) splitP1 (by decide) (by decide) looks_61 lenP1 (fun heap K H gd lv c pos F B => ev_61 w 11 none heap #[] boot_drawn 499 os envP K H gd lv c pos F B) swP1 codeP (getP1 w o1) (aliveP w) (by decide) hd (by decide) (insP1 w o1)
theorem set3 (w : World) (os : OsState) (o1 o2 : SO) : ∃ o3 : SO, Go treeTable pw_ii0002_01 w 11 none 394 (stOf w os (HI0 w.params o1 o2) 537 1557).abs ⟨bodyCur bodyI envI, .body bodyI envI, posI0, [frI (KI w os o1 o2), frT]⟩ (inS w os (HI0 w.params o1 o2) 537 1577 o3).abs (thIs (KI w os o1 o2) 0 537) := by
  obtain ⟨vals, hd⟩ := fieldsI w
  rw [bodyCur_wrap]
  exact set_seg' (k := 20) (m := 10) splitI0 (by decide) (by decide) looks_80 lenI0 (fun heap K H gd lv c pos F B => ev_80 w 11 none heap #[] boot_drawn 1557 os envI K H gd lv c pos F B) swI0 codeI (getI0 w o1 o2) (aliveI w) (by decide) hd (by decide) (insI0 w o1 o2)
theorem left_of {X : Type} {p q : Program} {loose : List Str} {Xt : Shared → Bool} {α : Type} {Yf : Shared → α} {Ya : World → α} {N : Nat} {g0 : Bool} {H₀ : Params → Heap} {gs₀ : Array GenState} {d₀ : Drawn} {k₀ m₀ : Nat} {ann : Option Value} {F : World → OsState → X → Shared}
    (open_ : ∀ w : World, (fencedOpening treeTable p w N).map (fun s => (s.heap, s.gens, s.drawn, s.toks)) = some (H₀ w.params, gs₀, d₀, k₀))
    (size : ∀ w : World, ((H₀ w.params).isNs mainGlobals && gs₀.size == 0, (H₀ w.params).objs.size, (H₀ w.params).nsMap mainGlobals "__annotations__") = (true, m₀, ann))
    (run : ∀ (w : World) (os : OsState), ∃ x : X, topRun treeTable p w m₀ ann N ⟨H₀ w.params, gs₀, d₀, k₀, os⟩ (topStub p) = some (F w os x))
    (look1 : ∀ w os x, (staticsOk (importedModules p.main.body) (H₀ w.params) (F w os x).heap && namesBound p (F w os x).heap && gensDone (F w os x) && laidKept (H₀ w.params) (F w os x).heap) = true)
    (look2 : ∀ w os x, openSeen q loose (importedModules p.main.body) Xt g0 (F w os x) = openGood q loose) (look3 : ∀ w os x, Yf (F w os x) = Ya w) : LeftO p q loose Xt Yf Ya N g0 := fun w => by
  obtain ⟨⟨h, gs, d, k, os⟩, e, e'⟩ := Option.map_eq_some_iff.mp (open_ w)
  obtain ⟨rfl, rfl, rfl, rfl⟩ : h = H₀ w.params ∧ gs = gs₀ ∧ d = d₀ ∧ k = k₀ := by simpa using e'
  obtain ⟨z1, z2, z3⟩ : _ ∧ _ ∧ _ := by simpa only [Prod.mk.injEq] using size w
  obtain ⟨x, r⟩ := run w os
  have t : topFrom treeTable p w N ⟨H₀ w.params, gs, d, k, os⟩ = some (F w os x) := by
    unfold topFrom
    dsimp only
    rw [z1, z2, z3, r]
    show (match staticsOk (importedModules p.main.body) (H₀ w.params) (F w os x).heap && namesBound p (F w os x).heap && gensDone (F w os x) && laidKept (H₀ w.params) (F w os x).heap with | true => _ | false => _) = _
    rw [look1]
  unfold openEnds
  rw [e]
  show (topFrom treeTable p w N _).map _ = _
  rw [t]
  exact congrArg some (Prod.ext (look2 w os x) (look3 w os x))
theorem chain17 {tb : String → Option Builtin} {p : Program} {w : World} {n₀ : Nat} {ann : Option Value} {N : Nat} {k0 k1 k2 k3 k4 k5 k6 k7 k8 k9 k10 k11 k12 k13 k14 k15 k16 : Nat} {s0 s1 s2 s3 s4 s5 s6 s7 s8 s9 s10 s11 s12 s13 s14 s15 s16 s17 : Shared} {t0 t1 t2 t3 t4 t5 t6 t7 t8 t9 t10 t11 t12 t13 t14 t15 t16 t17 : Thread}
    (g0 : Go tb p w n₀ ann k0 s0 t0 s1 t1) (g1 : Go tb p w n₀ ann k1 s1 t1 s2 t2) (g2 : Go tb p w n₀ ann k2 s2 t2 s3 t3) (g3 : Go tb p w n₀ ann k3 s3 t3 s4 t4) (g4 : Go tb p w n₀ ann k4 s4 t4 s5 t5) (g5 : Go tb p w n₀ ann k5 s5 t5 s6 t6) (g6 : Go tb p w n₀ ann k6 s6 t6 s7 t7) (g7 : Go tb p w n₀ ann k7 s7 t7 s8 t8)
    (g8 : Go tb p w n₀ ann k8 s8 t8 s9 t9) (g9 : Go tb p w n₀ ann k9 s9 t9 s10 t10) (g10 : Go tb p w n₀ ann k10 s10 t10 s11 t11) (g11 : Go tb p w n₀ ann k11 s11 t11 s12 t12) (g12 : Go tb p w n₀ ann k12 s12 t12 s13 t13) (g13 : Go tb p w n₀ ann k13 s13 t13 s14 t14) (g14 : Go tb p w n₀ ann k14 s14 t14 s15 t15) (g15 : Go tb p w n₀ ann k15 s15 t15 s16 t16) (g16 : Go tb p w n₀ ann k16 s16 t16 s17 t17)
    (hN : k0 + k1 + k2 + k3 + k4 + k5 + k6 + k7 + k8 + k9 + k10 + k11 + k12 + k13 + k14 + k15 + k16 + 1 ≤ N) (ht : through t17 = true) : topRun tb p w n₀ ann N s0 t0 = some s17 := by
  have g := (((((((((((((((g0.trans g1).trans g2).trans g3).trans g4).trans g5).trans g6).trans g7).trans g8).trans g9).trans g10).trans g11).trans g12).trans g13).trans g14).trans g15).trans g16
  have fin : topRun tb p w n₀ ann 1 s17 t17 = some s17 := by
    unfold topRun
    rw [ht]
  have r := topRun_mono (N - (k0 + k1 + k2 + k3 + k4 + k5 + k6 + k7 + k8 + k9 + k10 + k11 + k12 + k13 + k14 + k15 + k16 + 1)) _ _ _ _ (g.top fin)
  rwa [show k0 + k1 + k2 + k3 + k4 + k5 + k6 + k7 + k8 + k9 + k10 + k11 + k12 + k13 + k14 + k15 + k16 + 1 + (N - (k0 + k1 + k2 + k3 + k4 + k5 + k6 + k7 + k8 + k9 + k10 + k11 + k12 + k13 + k14 + k15 + k16 + 1)) = N by omega] at r
theorem Go.ofT {w : World} {k : Nat} {s s' : SharedT} {t t' : Thread} (h : topGoT treeTable pw_ii0002_01 w 11 none k s t = some (s', t')) : Go treeTable pw_ii0002_01 w 11 none k s.abs t s'.abs t' := .of (topGo_ofT h)
theorem of_map {x : Option (SharedT × Thread)} {s : SharedT} (h : x.map (fun r => (r.1, through r.2)) = some (s, true)) : ∃ tE, x = some (s, tE) ∧ through tE = true := by
  cases x with
  | none => cases h
  | some r =>
    obtain ⟨a, b⟩ := r
    simp only [Option.map_some, Option.some.injEq, Prod.mk.injEq] at h
    exact ⟨b, by rw [h.1], h.2⟩
theorem segE' (w : World) (os : OsState) (o1 o2 o3 : SO) : ∃ tE, goP w 258 (stOf w os (HI17 w.params o1 o2 o3) 830 2711) (thI (KI w os o1 o2) 17 posI17) = some (stOf w os (HE w.params o1 o2 o3) 849 2752, tE) ∧ through tE = true := of_map (segEc w os o1 o2 o3)
theorem finS_abs (w : World) (os : OsState) (o1 o2 o3 : SO) : (stOf w os (HE w.params o1 o2 o3) 849 2752).abs = finS w os o1 o2 o3 := by kernel_rfl
theorem run_all (w : World) (os : OsState) : ∃ x : SO × SO × SO, topRun treeTable pw_ii0002_01 w 11 none 40000 (S0T w os).abs (topStub pw_ii0002_01) = some (stOf w os (HE w.params x.1 x.2.1 x.2.2) 849 2752).abs := by
  obtain ⟨o1, g1⟩ := set1 w os
  obtain ⟨o2, g2⟩ := set2 w os o1
  obtain ⟨o3, g3⟩ := set3 w os o1 o2
  obtain ⟨tE, hE, ht⟩ := segE' w os o1 o2 o3
  exact ⟨(o1, o2, o3), chain17 ((Go.ofT (segM3 w os)).trans (Go.ofT (segC0 w os))) (Go.ofT (segP0 w os)) g1 (Go.ofT (segP1 w os (KP w os) o1)) g2 (Go.ofT (segP18 w os (KP w os) o1 o2)) ((Go.ofT (segP20a w os (KP w os) o1 o2)).trans (Go.ofT (segP20b w os (KP w os) o1 o2))) ((Go.ofT (segP22a w os (KP w os) o1 o2)).trans (Go.ofT (segP22b w os (KP w os) o1 o2))) (Go.ofT (segP24 w os (KP w os) o1 o2)) ((Go.ofT (segC1a w os (KP w os) o1 o2)).trans ((Go.ofT (segC1b w os (KP w os) o1 o2)).trans (Go.ofT (segC1c w os o1 o2)))) (Go.ofT (segI0 w os o1 o2)) g3 (Go.ofT (segI12 w os (KI w os o1 o2) o1 o2 o3)) ((Go.ofT (segI14a w os (KI w os o1 o2) o1 o2 o3)).trans (Go.ofT (segI14b w os (KI w os o1 o2) o1 o2 o3))) ((Go.ofT (segI15a w os (KI w os o1 o2) o1 o2 o3)).trans (Go.ofT (segI15b w os (KI w os o1 o2) o1 o2 o3))) ((Go.ofT (segI16a w os (KI w os o1 o2) o1 o2 o3)).trans (Go.ofT (segI16b w os (KI w os o1 o2) o1 o2 o3))) ((Go.ofT (segEa w os (KI w os o1 o2) o1 o2 o3)).trans ((Go.ofT (segEb w os (KI w os o1 o2) o1 o2 o3)).trans (Go.ofT hE))) (by decide) ht⟩
end Mine
/- MLeft -/
namespace Mine
theorem openL : ∀ w : World, (fencedOpening treeTable pw_ii0002_01 w 40000).map (fun s => (s.heap, s.gens, s.drawn, s.toks)) = some (boot_heap w.params, Array.mk [], boot_drawn, boot_toks) := boot_open (by kernel_rfl) (by decide) (fun s => by kernel_rfl)
theorem sizeL : ∀ w : World, ((boot_heap w.params).isNs mainGlobals && (Array.mk [] : Array GenState).size == 0, (boot_heap w.params).objs.size, (boot_heap w.params).nsMap mainGlobals "__annotations__") = (true, 11, some (.ref 6)) := fun w => by kernel_rfl
theorem S0T_abs' (w : World) (os : OsState) : (S0T w os).abs = ⟨boot_heap w.params, Array.mk [], boot_drawn, boot_toks, os⟩ := by kernel_rfl
theorem stepOk_none {n₀ : Nat} {ann : Option Value} {t : Thread} (h : stepOk n₀ none t = true) : stepOk n₀ ann t = true := by
  obtain ⟨cur, code, pos, stack⟩ := t
  cases cur with
  | update a q f k =>
    simp only [stepOk, Bool.and_eq_true, Bool.or_eq_true] at h ⊢
    refine ⟨h.1, ?_⟩
    rcases h.2 with h | h
    · exact .inl h
    · cases h
  | _ => exact h
theorem topRun_ann {tb : String → Option Builtin} {p : Program} {w : World} {n₀ : Nat} {ann : Option Value} : ∀ {N : Nat} {s : Shared} {t : Thread} {r : Shared}, topRun tb p w n₀ none N s t = some r → topRun tb p w n₀ ann N s t = some r
  | 0, _, _, _, h => by cases h
  | n + 1, s, t, r, h => by
    unfold topRun at h ⊢
    cases ht : through t with
    | true => rw [ht] at h; exact h
    | false =>
      rw [ht] at h
      cases hk : stepOk n₀ none t with
      | false => rw [hk] at h; cases h
      | true =>
        rw [hk] at h
        rw [stepOk_none hk]
        cases hs : step (denote tb) p w s t with
        | halt o s₂ => rw [hs] at h; cases h
        | go s₂ t₂ => rw [hs] at h; exact topRun_ann h
theorem runL : ∀ (w : World) (os : OsState), ∃ x : SO × SO × SO, topRun treeTable pw_ii0002_01 w 11 (some (.ref 6)) 40000 ⟨boot_heap w.params, Array.mk [], boot_drawn, boot_toks, os⟩ (topStub pw_ii0002_01) = some (finS w os x.1 x.2.1 x.2.2) := fun w os => by
  obtain ⟨x, h⟩ := run_all w os
  refine ⟨x, ?_⟩
  rw [S0T_abs', finS_abs] at h
  exact topRun_ann h
theorem and4 {a b c d : Bool} (ha : a = true) (hb : b = true) (hc : c = true) (hd : d = true) : (a && b && c && d) = true := by rw [ha, hb, hc, hd]; rfl
theorem left : LeftO pw_ii0002_01 qv loose1 XtL myHook.obs myHook.val 40000 :=
  left_of (X := SO × SO × SO) (H₀ := boot_heap) (gs₀ := Array.mk []) (d₀ := boot_drawn) (k₀ := boot_toks) (m₀ := 11) (ann := some (.ref 6)) (F := fun w os x => finS w os x.1 x.2.1 x.2.2) openL sizeL runL
    (fun w os x => and4 (L2 w x.1 x.2.1 x.2.2) (L3 w x.1 x.2.1 x.2.2) (L4 w os x.1 x.2.1 x.2.2) (L5 w x.1 x.2.1 x.2.2)) (fun w os x => L6 w os x.1 x.2.1 x.2.2) (fun w os x => L7 w os x.1 x.2.1 x.2.2)
end Mine
/- MG2 -/
namespace Mine
theorem left2 : LeftO rw_ii0002_01.row.prog Mine.qv Mine.loose1 Mine.XtL Mine.myHook.obs Mine.myHook.val 40000 := Mine.left
theorem hp2 {d : DefRec} {kwd : List (Str × PySem.Expr)} (hdef : defOf Mine.qv rw_ii0002_01.row.name = some (d, kwd)) : rw_ii0002_01.row.prog.theDef rw_ii0002_01.row.name = some (d.params, d.body, d.scope) := by
  have h : (defOf Mine.qv rw_ii0002_01.row.name).map (fun x => (x.1.params, x.1.body, x.1.scope)) = rw_ii0002_01.row.prog.theDef rw_ii0002_01.row.name := by kernel_rfl
  rw [← h, hdef]
  rfl
theorem hk2 {d : DefRec} {kwd : List (Str × PySem.Expr)} (hdef : defOf Mine.qv rw_ii0002_01.row.name = some (d, kwd)) : kwWritten? d.params.kwonlyargs d.params.kw_defaults = some kwd := by
  have h : (defOf Mine.qv rw_ii0002_01.row.name).map (fun x => kwWritten? x.1.params.kwonlyargs x.1.params.kw_defaults) = (defOf Mine.qv rw_ii0002_01.row.name).map (fun x => some x.2) := by kernel_rfl
  rw [hdef] at h
  exact Option.some.inj h
theorem k1 : rw_ii0002_01.row.wellSaid = true := by kernel_rfl
theorem ok2 : (chainsOk Mine.qv && opensWell rw_ii0002_01.row.prog && (frees rw_ii0002_01.row.toRowW && rw_ii0002_01.row.within.isEmpty)) = true := by kernel_rfl
theorem hwr2 : (!rw_ii0002_01.row.writes || rw_ii0002_01.row.records.isEmpty) = true := by kernel_rfl
theorem bare2 : rw_ii0002_01.row.prog.bare := ⟨rfl, rfl, rfl, rfl, rfl, by decide +kernel⟩
theorem name2 : rw_ii0002_01.row.name = Str.ofString "law" := by kernel_rfl
end Mine
/- MG3 -/
namespace Mine
theorem hw2 : rw_ii0002_01.row.toRowW.promised := by w_witness2
end Mine
/- MG4 -/
namespace Mine
theorem row_holds (said : rw_ii0002_01.row.wellSaid = true) (hw : rw_ii0002_01.row.toRowW.promised) : rw_ii0002_01.row.Holds := by
  obtain ⟨d, kwd, hdef, walk⟩ := Mine.the_walk
  rw [← name2] at hdef
  exact holds_open (r := rw_ii0002_01.row) (q := Mine.qv) (loose := Mine.loose1) (Xt := Mine.XtL) (XP := XL Mine.qv []) (Yf := Mine.myHook.obs) (Ya := Mine.myHook.val) (YP := Mine.myHook.says) (N := 40000) left2 Mine.myHook.of Mine.myHook.keeps (fun s e => xl_of s (Bool.and_eq_true_iff.mp e).1) XL.keeps hdef (hp2 hdef) (hk2 hdef) (fun s e => recFacts_of (Bool.and_eq_true_iff.mp e).2) hwr2 said ok2 bare2 hw walk
end Mine
theorem PySem.Challenge.cw_ii0002_01_holds : PySem.Challenge.rw_ii0002_01.Holds := by
  w_on
  o_law
  exact Mine.row_holds (by assumption) Mine.hw2

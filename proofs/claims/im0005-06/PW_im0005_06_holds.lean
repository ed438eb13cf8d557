import PyProof.Rows.All
import Wide.All
import OpenK.AllK
import Wide.FinOn
import PySem.Challenge.RW_im0005_06
set_option Elab.async false
set_option linter.all false
set_option compiler.extract_closed false
set_option genSizeOf false
set_option genInjectivity false
open PySem PySem.W PyProof.Rows PySem.Calls
set_option maxRecDepth 100000
set_option maxHeartbeats 8000000
namespace Mine
noncomputable def kB : List Stmt := Challenge.pw_im0005_06.main.body
noncomputable def kC : List Stmt := match (kB[2]? : Option Stmt) with | some (.ClassDef _ _ _ b ..) => b | _ => []
noncomputable def kO (l : List Stmt) (m : Str) (k : Nat) (q : Str) (c i : Nat) (d : Value := .none) (an : Option Addr := none) : Obj := match (l[i]? : Option Stmt) with
 | some (.FunctionDef n p b _ _ _ s ..) => ⟨.type "function", none, .func { name := n, qualname := q, params := p, body := .stmts b, scope := s, globals := 3, closure := [], defaults := d, kwdefaults := .none, pyModule := .str m k, annotations := an, code := .ref c }, #[]⟩
 | _ => default
noncomputable abbrev kM (q : Str) (c i : Nat) (d : Value := .none) (an : Option Addr := none) : Obj := kO kC "dd.bdd" 194 q c i d an
noncomputable abbrev kL (q : Str) (c i : Nat) : Obj := kO kB "law_im0005_06" 877 q c i
noncomputable def kD (n q : Str) (b i : Nat) (l a : Int) (j : Nat) (x : Bool) : Obj := ⟨.type "code", none, .fields (List.toArray [.str n i, .str q (i + 1), .str "/claim/cut.py" (i + 2), .int l 0, .int a 0, .int 0 0, .int 0 0, .int 3 0, .ref b, .bool true, .int 181 0, .ref (b + 1), .none, if x then .ref (b + 2) else .none, if x then .ref (b + 3) else .none, .ref (if x then b + 4 else b + 2), .int (Int.ofNat j) 0, .int l 0, .str "/claim/cut.py" (j + 1)]), #[]⟩
noncomputable def kE (P : Params) (k : Str) (i : Nat) (v : Value) : DictEntry := ⟨PyData.keyHash P k, .str k i, v⟩
noncomputable def hK (P : Params) : Frag := (nat_lit 2, ⟨.none, none, .dict #[], #[]⟩) ::
 (nat_lit 3, ⟨.type "dict", none, .dict #[kE P "__name__" 165 (.str "law_im0005_06" 877), kE P "__doc__" 166 .none, kE P "__package__" 167 .none, kE P "__loader__" 168 (.builtin "__main__.__loader__#opaque"), kE P "__spec__" 169 .none, kE P "__annotations__" 170 (.ref 6), kE P "__builtins__" 171 (.ref 4), kE P "__file__" 173 (.str "/claim/cut.py" 172), kE P "__cached__" 174 .none, kE P "_wall" 193 (.ref 21), kE P "BDD" 866 (.ref 495), kE P "_assert_valid_ordering" 876 (.ref 506), kE P "_law_ones" 884 (.ref 513), kE P "_law_all" 886 (.int 4294967295 885), kE P "_law_met" 892 (.ref 518), kE P "_law_table" 905 (.ref 525), kE P "_law_thrown" 916 (.ref 532), kE P "_law_holds" 929 (.ref 539), kE P "_law_won" 946 (.ref 546), kE P "law" 952 (.ref 551)] 20, #[]⟩) ::
 (nat_lit 29, ⟨.type "tuple", none, .seq #[.none], #[]⟩) ::
 (nat_lit 35, kD "__init__" "BDD.__init__" 30 208 7 2 215 true) ::
 (nat_lit 36, kM "BDD.__init__" 35 0 (.ref 29)) ::
 (nat_lit 56, kD "__contains__" "BDD.__contains__" 51 233 39 2 238 true) ::
 (nat_lit 57, kM "BDD.__contains__" 56 3) ::
 (nat_lit 85, kD "_init_terminal" "BDD._init_terminal" 80 264 52 2 272 true) ::
 (nat_lit 86, kM "BDD._init_terminal" 85 7) ::
 (nat_lit 92, kD "succ" "BDD.succ" 87 275 61 2 280 true) ::
 (nat_lit 93, kM "BDD.succ" 92 8) ::
 (nat_lit 99, kD "incref" "BDD.incref" 94 283 64 2 288 true) ::
 (nat_lit 100, kM "BDD.incref" 99 9) ::
 (nat_lit 122, ⟨.type "tuple", none, .seq #[.none], #[]⟩) ::
 (nat_lit 128, kD "add_var" "BDD.add_var" 123 315 76 3 321 true) ::
 (nat_lit 129, kM "BDD.add_var" 128 13 (.ref 122)) ::
 (nat_lit 142, kD "_next_free_level" "BDD._next_free_level" 137 334 95 3 341 true) ::
 (nat_lit 143, kM "BDD._next_free_level" 142 15) ::
 (nat_lit 149, kD "var" "BDD.var" 144 344 105 2 351 true) ::
 (nat_lit 150, kM "BDD.var" 149 16) ::
 (nat_lit 156, kD "var_at_level" "BDD.var_at_level" 151 354 112 2 359 true) ::
 (nat_lit 157, kM "BDD.var_at_level" 156 17) ::
 (nat_lit 163, kD "level_of_var" "BDD.level_of_var" 158 362 117 2 367 true) ::
 (nat_lit 164, kM "BDD.level_of_var" 163 18) ::
 (nat_lit 176, kD "_map_to_level" "BDD._map_to_level" 173 378 126 2 381 false) ::
 (nat_lit 177, kM "BDD._map_to_level" 176 20) ::
 (nat_lit 220, ⟨.type "tuple", none, .seq #[.bool false], #[]⟩) ::
 (nat_lit 224, kD "support" "BDD.support" 221 441 186 3 444 false) ::
 (nat_lit 225, kM "BDD.support" 224 27 (.ref 220)) ::
 (nat_lit 231, kD "_support" "BDD._support" 226 447 194 4 458 true) ::
 (nat_lit 232, kM "BDD._support" 231 28) ::
 (nat_lit 302, kD "_top_cofactor" "BDD._top_cofactor" 297 545 247 3 554 true) ::
 (nat_lit 303, kM "BDD._top_cofactor" 302 38) ::
 (nat_lit 318, ⟨.type "tuple", none, .seq #[.bool false], #[]⟩) ::
 (nat_lit 324, kD "quantify" "BDD.quantify" 319 590 306 4 600 true) ::
 (nat_lit 325, kM "BDD.quantify" 324 41 (.ref 318)) ::
 (nat_lit 331, kD "_quantify" "BDD._quantify" 326 603 313 7 620 true) ::
 (nat_lit 332, kM "BDD._quantify" 331 42) ::
 (nat_lit 338, kD "forall" "BDD.forall" 333 623 345 3 629 true) ::
 (nat_lit 339, kM "BDD.forall" 338 43) ::
 (nat_lit 345, kD "exist" "BDD.exist" 340 632 348 3 638 true) ::
 (nat_lit 346, kM "BDD.exist" 345 44) ::
 (nat_lit 352, kD "ite" "BDD.ite" 347 641 351 4 648 true) ::
 (nat_lit 353, kM "BDD.ite" 352 45) ::
 (nat_lit 359, kD "_ite" "BDD._ite" 354 651 354 4 669 true) ::
 (nat_lit 360, kM "BDD._ite" 359 46) ::
 (nat_lit 366, kD "find_or_add" "BDD.find_or_add" 361 672 373 4 682 true) ::
 (nat_lit 367, kM "BDD.find_or_add" 366 47) ::
 (nat_lit 373, kD "_next_free_int" "BDD._next_free_int" 368 685 406 2 691 true) ::
 (nat_lit 374, kM "BDD._next_free_int" 373 48) ::
 (nat_lit 412, ⟨.type "tuple", none, .seq #[.none], #[]⟩) ::
 (nat_lit 416, kD "count" "BDD.count" 413 736 429 3 739 false) ::
 (nat_lit 417, kM "BDD.count" 416 54 (.ref 412)) ::
 (nat_lit 423, kD "_assert_int" "BDD._assert_int" 418 742 452 1 746 true) ::
 (nat_lit 424, kM "BDD._assert_int" 423 55 .none (some 427)) ::
 (nat_lit 426, ⟨.type "staticmethod", some 425, .fields #[.ref 424, .bool false], #[]⟩) ::
 (nat_lit 433, kD "_sat_len" "BDD._sat_len" 428 761 458 4 777 true) ::
 (nat_lit 434, kM "BDD._sat_len" 433 56) ::
 (nat_lit 457, ⟨.type "tuple", none, .seq #[.none, .none], #[]⟩) ::
 (nat_lit 463, kD "apply" "BDD.apply" 458 806 495 5 815 true) ::
 (nat_lit 464, kM "BDD.apply" 463 60 (.ref 457)) ::
 (nat_lit 475, kD "cube" "BDD.cube" 472 826 533 2 829 false) ::
 (nat_lit 476, kM "BDD.cube" 475 62) ::
 (nat_lit 490, kD "true" "BDD.true" 485 840 547 1 844 true) ::
 (nat_lit 491, kM "BDD.true" 490 64) ::
 (nat_lit 492, ⟨.type "property", none, .fields #[.ref 491, .none, .none, .none, .str "true" 847, .bool false], #[]⟩) ::
 (nat_lit 494, ⟨.type "dict", none, .dict #[kE P "__module__" 203 (.str "dd.bdd" 194), kE P "__firstlineno__" 207 (.int 5 206), kE P "__init__" 217 (.ref 36), kE P "__copy__" 225 (.ref 43), kE P "__len__" 232 (.ref 50), kE P "__contains__" 240 (.ref 57), kE P "__iter__" 247 (.ref 64), kE P "configure" 255 (.ref 71), kE P "ordering" 263 (.ref 79), kE P "_init_terminal" 274 (.ref 86), kE P "succ" 282 (.ref 93), kE P "incref" 290 (.ref 100), kE P "decref" 298 (.ref 107), kE P "ref" 306 (.ref 114), kE P "declare" 314 (.ref 121), kE P "add_var" 323 (.ref 129), kE P "_check_var" 333 (.ref 136), kE P "_next_free_level" 343 (.ref 143), kE P "var" 353 (.ref 150), kE P "var_at_level" 361 (.ref 157), kE P "level_of_var" 369 (.ref 164), kE P "var_levels" 377 (.ref 172), kE P "_map_to_level" 383 (.ref 177), kE P "_assert_keys_are_levels" 397 (.ref 184), kE P "_top_var" 405 (.ref 191), kE P "copy" 414 (.ref 198), kE P "descendants" 422 (.ref 205), kE P "_descendants" 431 (.ref 212), kE P "is_essential" 440 (.ref 219), kE P "support" 446 (.ref 225), kE P "_support" 460 (.ref 232), kE P "levels" 474 (.ref 240), kE P "_levels" 481 (.ref 247), kE P "reduction" 488 (.ref 254), kE P "undeclare_vars" 496 (.ref 261), kE P "let" 505 (.ref 268), kE P "compose" 514 (.ref 275), kE P "_compose" 525 (.ref 282), kE P "_vector_compose" 535 (.ref 289), kE P "rename" 544 (.ref 296), kE P "_top_cofactor" 556 (.ref 303), kE P "cofactor" 569 (.ref 310), kE P "_cofactor" 589 (.ref 317), kE P "quantify" 602 (.ref 325), kE P "_quantify" 622 (.ref 332), kE P "forall" 631 (.ref 339), kE P "exist" 640 (.ref 346), kE P "ite" 650 (.ref 353), kE P "_ite" 671 (.ref 360), kE P "find_or_add" 684 (.ref 367), kE P "_next_free_int" 693 (.ref 374), kE P "collect_garbage" 701 (.ref 382), kE P "update_predecessors" 708 (.ref 389), kE P "swap" 718 (.ref 397), kE P "_low_high" 726 (.ref 404), kE P "_swap_cofactor" 735 (.ref 411), kE P "count" 741 (.ref 417), kE P "_assert_int" 760 (.ref 426), kE P "_sat_len" 779 (.ref 434), kE P "pick_iter" 788 (.ref 442), kE P "_sat_iter" 798 (.ref 449), kE P "assert_consistent" 805 (.ref 456), kE P "apply" 817 (.ref 464), kE P "_add_int" 825 (.ref 471), kE P "cube" 831 (.ref 476), kE P "false" 839 (.ref 484), kE P "true" 847 (.ref 492), kE P "__static_attributes__" 859 (.ref 493), kE P "__dict__" 861 (.ref 496), kE P "__weakref__" 863 (.ref 497), kE P "__doc__" 864 .none] 4, #[]⟩) ::
 (nat_lit 495, ⟨.type "type", none, .cls { name := "BDD", bases := [.type "object"], mro := [.ref 495, .type "object"], ns := 494, qualname := "BDD" }, #[none, none, some (.str "BDD" 196), some (.str "BDD" 204), some (.builtin "object.__new__"), some (.bool true)]⟩) ::
 (nat_lit 505, kD "_assert_valid_ordering" "_assert_valid_ordering" 500 867 550 1 874 true) ::
 (nat_lit 506, kO kB "dd.bdd" 194 "_assert_valid_ordering" 505 3) ::
 (nat_lit 512, kD "_law_ones" "_law_ones" 507 879 559 0 882 true) ::
 (nat_lit 513, kL "_law_ones" 512 5) ::
 (nat_lit 517, kD "_law_met" "_law_met" 514 887 562 2 890 false) ::
 (nat_lit 518, kL "_law_met" 517 7) ::
 (nat_lit 524, kD "_law_table" "_law_table" 519 893 568 3 903 true) ::
 (nat_lit 525, kL "_law_table" 524 8) ::
 (nat_lit 531, kD "_law_thrown" "_law_thrown" 526 906 574 3 914 true) ::
 (nat_lit 532, kL "_law_thrown" 531 9) ::
 (nat_lit 538, kD "_law_holds" "_law_holds" 533 917 578 3 927 true) ::
 (nat_lit 539, kL "_law_holds" 538 10) ::
 (nat_lit 545, kD "_law_won" "_law_won" 540 930 585 5 944 true) ::
 (nat_lit 546, kL "_law_won" 545 11) ::
 (nat_lit 550, kD "law" "law" 547 947 595 1 950 false) ::
 (nat_lit 551, kL "law" 550 12) :: []
end Mine
set_option hygiene false
local macro_rules | `(tactic| kcj_m) => `(tactic| refine cutN fun k9 => ?_)
local macro_rules | `(tactic| kd_p1) => `(tactic| refine k9 ?_)
set_option hygiene true
local macro_rules | `(tactic| kcf_m) => `(tactic| kernel_rfl!)
local macro_rules | `(tactic| kd_p) => `(tactic| first | decide | lia | omega)
section
set_option genSizeOf false
set_option genInjectivity false
namespace Mine
inductive Ex2 {α0 α1 : Type} (P : α0 → α1 → Prop) : Prop
 | mk (x0 : α0) (x1 : α1) (h : P x0 x1) : Ex2 P
inductive Ex3 {α0 α1 α2 : Type} (P : α0 → α1 → α2 → Prop) : Prop
 | mk (x0 : α0) (x1 : α1) (x2 : α2) (h : P x0 x1 x2) : Ex3 P
inductive Ex4 {α0 α1 α2 α3 : Type} (P : α0 → α1 → α2 → α3 → Prop) : Prop
 | mk (x0 : α0) (x1 : α1) (x2 : α2) (x3 : α3) (h : P x0 x1 x2 x3) : Ex4 P
inductive Ex5 {α0 α1 α2 α3 α4 : Type} (P : α0 → α1 → α2 → α3 → α4 → Prop) : Prop
 | mk (x0 : α0) (x1 : α1) (x2 : α2) (x3 : α3) (x4 : α4) (h : P x0 x1 x2 x3 x4) : Ex5 P
inductive Ex6 {α0 α1 α2 α3 α4 α5 : Type} (P : α0 → α1 → α2 → α3 → α4 → α5 → Prop) : Prop
 | mk (x0 : α0) (x1 : α1) (x2 : α2) (x3 : α3) (x4 : α4) (x5 : α5) (h : P x0 x1 x2 x3 x4 x5) : Ex6 P
inductive Ex7 {α0 α1 α2 α3 α4 α5 α6 : Type} (P : α0 → α1 → α2 → α3 → α4 → α5 → α6 → Prop) : Prop
 | mk (x0 : α0) (x1 : α1) (x2 : α2) (x3 : α3) (x4 : α4) (x5 : α5) (x6 : α6) (h : P x0 x1 x2 x3 x4 x5 x6) : Ex7 P
inductive Ex8 {α0 α1 α2 α3 α4 α5 α6 α7 : Type} (P : α0 → α1 → α2 → α3 → α4 → α5 → α6 → α7 → Prop) : Prop
 | mk (x0 : α0) (x1 : α1) (x2 : α2) (x3 : α3) (x4 : α4) (x5 : α5) (x6 : α6) (x7 : α7) (h : P x0 x1 x2 x3 x4 x5 x6 x7) : Ex8 P
inductive Ex9 {α0 α1 α2 α3 α4 α5 α6 α7 α8 : Type} (P : α0 → α1 → α2 → α3 → α4 → α5 → α6 → α7 → α8 → Prop) : Prop
 | mk (x0 : α0) (x1 : α1) (x2 : α2) (x3 : α3) (x4 : α4) (x5 : α5) (x6 : α6) (x7 : α7) (x8 : α8) (h : P x0 x1 x2 x3 x4 x5 x6 x7 x8) : Ex9 P
inductive Ex10 {α0 α1 α2 α3 α4 α5 α6 α7 α8 α9 : Type} (P : α0 → α1 → α2 → α3 → α4 → α5 → α6 → α7 → α8 → α9 → Prop) : Prop
 | mk (x0 : α0) (x1 : α1) (x2 : α2) (x3 : α3) (x4 : α4) (x5 : α5) (x6 : α6) (x7 : α7) (x8 : α8) (x9 : α9) (h : P x0 x1 x2 x3 x4 x5 x6 x7 x8 x9) : Ex10 P
inductive Ex11 {α0 α1 α2 α3 α4 α5 α6 α7 α8 α9 α10 : Type} (P : α0 → α1 → α2 → α3 → α4 → α5 → α6 → α7 → α8 → α9 → α10 → Prop) : Prop
 | mk (x0 : α0) (x1 : α1) (x2 : α2) (x3 : α3) (x4 : α4) (x5 : α5) (x6 : α6) (x7 : α7) (x8 : α8) (x9 : α9) (x10 : α10) (h : P x0 x1 x2 x3 x4 x5 x6 x7 x8 x9 x10) : Ex11 P
inductive Ex14 {α0 α1 α2 α3 α4 α5 α6 α7 α8 α9 α10 α11 α12 α13 : Type} (P : α0 → α1 → α2 → α3 → α4 → α5 → α6 → α7 → α8 → α9 → α10 → α11 → α12 → α13 → Prop) : Prop
 | mk (x0 : α0) (x1 : α1) (x2 : α2) (x3 : α3) (x4 : α4) (x5 : α5) (x6 : α6) (x7 : α7) (x8 : α8) (x9 : α9) (x10 : α10) (x11 : α11) (x12 : α12) (x13 : α13) (h : P x0 x1 x2 x3 x4 x5 x6 x7 x8 x9 x10 x11 x12 x13) : Ex14 P
inductive Ex15 {α0 α1 α2 α3 α4 α5 α6 α7 α8 α9 α10 α11 α12 α13 α14 : Type} (P : α0 → α1 → α2 → α3 → α4 → α5 → α6 → α7 → α8 → α9 → α10 → α11 → α12 → α13 → α14 → Prop) : Prop
 | mk (x0 : α0) (x1 : α1) (x2 : α2) (x3 : α3) (x4 : α4) (x5 : α5) (x6 : α6) (x7 : α7) (x8 : α8) (x9 : α9) (x10 : α10) (x11 : α11) (x12 : α12) (x13 : α13) (x14 : α14) (h : P x0 x1 x2 x3 x4 x5 x6 x7 x8 x9 x10 x11 x12 x13 x14) : Ex15 P
inductive An3 (p0 p1 p2 : Prop) : Prop
 | mk (_ : p0) (_ : p1) (_ : p2) : An3 p0 p1 p2
inductive An5 (p0 p1 p2 p3 p4 : Prop) : Prop
 | mk (_ : p0) (_ : p1) (_ : p2) (_ : p3) (_ : p4) : An5 p0 p1 p2 p3 p4
inductive An6 (p0 p1 p2 p3 p4 p5 : Prop) : Prop
 | mk (_ : p0) (_ : p1) (_ : p2) (_ : p3) (_ : p4) (_ : p5) : An6 p0 p1 p2 p3 p4 p5
inductive An7 (p0 p1 p2 p3 p4 p5 p6 : Prop) : Prop
 | mk (_ : p0) (_ : p1) (_ : p2) (_ : p3) (_ : p4) (_ : p5) (_ : p6) : An7 p0 p1 p2 p3 p4 p5 p6
inductive An8 (p0 p1 p2 p3 p4 p5 p6 p7 : Prop) : Prop
 | mk (_ : p0) (_ : p1) (_ : p2) (_ : p3) (_ : p4) (_ : p5) (_ : p6) (_ : p7) : An8 p0 p1 p2 p3 p4 p5 p6 p7
inductive An9 (p0 p1 p2 p3 p4 p5 p6 p7 p8 : Prop) : Prop
 | mk (_ : p0) (_ : p1) (_ : p2) (_ : p3) (_ : p4) (_ : p5) (_ : p6) (_ : p7) (_ : p8) : An9 p0 p1 p2 p3 p4 p5 p6 p7 p8
inductive An12 (p0 p1 p2 p3 p4 p5 p6 p7 p8 p9 p10 p11 : Prop) : Prop
 | mk (_ : p0) (_ : p1) (_ : p2) (_ : p3) (_ : p4) (_ : p5) (_ : p6) (_ : p7) (_ : p8) (_ : p9) (_ : p10) (_ : p11) : An12 p0 p1 p2 p3 p4 p5 p6 p7 p8 p9 p10 p11
inductive An13 (p0 p1 p2 p3 p4 p5 p6 p7 p8 p9 p10 p11 p12 : Prop) : Prop
 | mk (_ : p0) (_ : p1) (_ : p2) (_ : p3) (_ : p4) (_ : p5) (_ : p6) (_ : p7) (_ : p8) (_ : p9) (_ : p10) (_ : p11) (_ : p12) : An13 p0 p1 p2 p3 p4 p5 p6 p7 p8 p9 p10 p11 p12
inductive An15 (p0 p1 p2 p3 p4 p5 p6 p7 p8 p9 p10 p11 p12 p13 p14 : Prop) : Prop
 | mk (_ : p0) (_ : p1) (_ : p2) (_ : p3) (_ : p4) (_ : p5) (_ : p6) (_ : p7) (_ : p8) (_ : p9) (_ : p10) (_ : p11) (_ : p12) (_ : p13) (_ : p14) : An15 p0 p1 p2 p3 p4 p5 p6 p7 p8 p9 p10 p11 p12 p13 p14
end Mine
end
section
namespace Mine
theorem cutN {G : Prop} (h : ¬ G → False) : G := Classical.byContradiction h
theorem akA {a b c : Nat} (h : a ≤ b - c) (p : 0 < a) : a + c ≤ b := Nat.add_le_of_le_sub (Nat.le_of_lt (Nat.lt_of_sub_pos (Nat.lt_of_lt_of_le p h))) h
theorem akB {a b c : Nat} (h : a ≤ b - c) (p : 0 < a) : c ≤ b - a := Nat.le_sub_of_add_le (le_of_eq_of_le (Nat.add_comm c a) (akA h p))
theorem akC {a b d : Int} {c : Nat} (h0 : Int.toNat (a - b) ≤ c) (h1 : b ≤ d) (h2 : d < a) : Int.toNat (a - (d + 1)) < c := Nat.lt_of_lt_of_le ((Int.toNat_lt_toNat (Int.sub_pos_of_lt (Int.lt_of_le_of_lt h1 h2))).mpr (Int.sub_lt_sub_left (Int.lt_add_one_of_le h1) a)) h0
theorem akD {a b d : Int} {c : Nat} (h0 : Int.toNat (a - b) ≤ c + 1) (h1 : b ≤ d) : Int.toNat (a - (d + 1)) ≤ c := by
 by_cases k : d < a
 ·exact Nat.le_of_lt_succ (akC h0 h1 k)
 ·rw [Int.toNat_of_nonpos (Int.sub_nonpos_of_le (Int.le_trans (Int.not_lt.mp k) (Int.le_of_lt (Int.lt_add_one_of_le (Int.le_refl d)))))]; exact Nat.zero_le c
theorem akE {a : Int} : (a = 101 ∨ a = 102 ∨ a = 103 ∨ a = 104 ∨ a = 105) ↔ (101 : Int) ≤ a ∧ a < 101 + ((5 : Nat) : Int) := by
 refine ⟨fun h => ?_, fun p => ?_⟩
 ·rcases h with h | h | h | h | h <;> subst h <;> exact ⟨by decide, by decide⟩
 ·obtain ⟨n, rfl⟩ := Int.le.dest p.1
  have q : n < 5 := Int.ofNat_lt.mp (Int.lt_of_add_lt_add_left p.2)
  clear p; revert n; decide
section
variable {a b c d e f g : Nat} {u v w x y z s : Int}
theorem ar0 (h0 : a + (b + 1) < c) : (a + 1) + b < c := by kd_p
theorem ar1 (h0 : a + (8 * (b + 1)) < c) : (a + 3) + (8 * b) < c := by lia
theorem ar2 (h0 : a ≤ b) (h1 : c + b < d) : c + a < d := Nat.lt_of_le_of_lt (Nat.add_le_add_left h0 c) h1
theorem ar3 (h0 : a ≤ b) (h1 : c + (8 * b) < d) : c + (8 * a) < d := Nat.lt_of_le_of_lt (Nat.add_le_add_left (Nat.mul_le_mul_left 8 h0) c) h1
theorem ar4 (h0 : a ≤ 900) : a ≤ 1000 := by lia
theorem ar5 (h0 : a < (2 ^ 63)) : (a : Int) < (2 ^ 63) := by kd_p
theorem ar6 {n0 n1 n2 : Nat} (h0 : ((n0 + (n1 + 1)) : Nat) < n2) : n0 < n2 := by exact Nat.lt_of_add_right_lt h0
theorem ar7 (h0 : Int.toNat (u - 2) < b) : u < ((b : Int) + 2) := Int.lt_add_of_sub_right_lt (Int.lt_of_toNat_lt h0)
theorem ar8 (h0 : (a : Int) + 2 ≤ u) : ¬ (u = 1) := by lia
theorem ar9 (h0 : (a : Int) + 2 ≤ u) : (2 : Int) ≤ u := Int.le_trans (Int.le_add_of_nonneg_left (Int.natCast_nonneg a)) h0
theorem Q8w (h0 : (a : Int) + 2 ≤ u) : a ≤ (Int.toNat (u - 2)) := Int.ofNat_le.mp (Int.le_trans (Int.le_sub_right_of_add_le h0) (Int.self_le_toNat _))
theorem Q8v (h0 : u = ((b : Int) + 2)) : Int.toNat (u - 2) = b := by rw [h0, Int.add_sub_cancel]; rfl
theorem Q8u (h0 : (2 : Int) ≤ u) (h1 : ¬ (u = ((b : Int) + 2))) (h2 : ¬ (Int.toNat (u - 2) < b)) : b + 1 ≤ (Int.toNat (u - 2)) := Nat.lt_of_le_of_ne (Nat.le_of_not_lt h2) (fun e => h1 (by rw [e, Int.toNat_of_nonneg (Int.sub_nonneg_of_le h0), Int.sub_add_cancel]))
theorem Q8t {z0 : Int} {n1 : Nat} (h0 : ¬ (((Int.toNat (z0 - 2)) : Nat) < n1)) : n1 ≤ (Int.toNat (z0 - 2)) := by exact Nat.le_of_not_lt h0
theorem Q8s (h0 : ¬ ((2 : Int) ≤ u)) : ¬ (u = ((b : Int) + 2)) := by kd_p
theorem Q8r {n0 : Nat} : ¬ ((1 : Int) = ((n0 : Int) + 2)) := by exact not_eq_of_beq_eq_false rfl
theorem Q8q {n0 : Nat} : ((((n0 : Int) + 2) + 1) : Int) = ((((n0 + 1) : Nat) : Int) + 2) := by exact Int.neg_inj.mp rfl
theorem Q8p {n0 n1 : Nat} (h0 : n0 ≤ (n1 + 1)) : ((n0 + 1) : Nat) ≤ ((n1 + 1) + 1) := by exact Nat.add_le_add_right h0 1
theorem Q8o (h0 : a ≤ (b + 1)) (h1 : b ≤ (c + 1)) : a ≤ ((c + 1) + 1) := Nat.le_trans h0 (Nat.succ_le_succ h1)
theorem Q8n (h0 : (((2 : Int) ≤ u) ∧ (u < v))) : (0 : Int) < u := Int.lt_of_lt_of_le (by decide) h0.1
theorem Q8m (h0 : u ≤ v) (h1 : v < (c : Int)) : u ≤ (c : Int) := Int.le_of_lt (Int.lt_of_le_of_lt h0 h1)
theorem Q8l (h0 : u = 1) (h1 : v = u) : v = 1 := by lia
theorem Q8k (h0 : u = 1) (h1 : v = (-u)) : v = (-1) := by lia
theorem Q8j (h0 : (2 : Int) ≤ u) : u ≠ 0 := by kd_p
theorem Q8i (h0 : (0 : Int) < u) : -u ≠ 0 := by kd_p
theorem Q63 {z0 z1 : Int} (h0 : ((-z0) : Int) = (-z1)) : z0 = z1 := by exact Int.neg_inj.mp h0
theorem Qtp {z0 : Int} (h0 : z0 < 0) : (0 : Int) < (-z0) := by exact Int.neg_pos_of_neg h0
theorem Q62 (h0 : Int.toNat ((a : Int) - u) ≤ (c + 1)) (h1 : u ≤ v) : Int.toNat ((a : Int) - (v + 1)) ≤ c := akD h0 h1
theorem Qdc {n0 : Nat} : (0 : Int) ≤ (n0 : Int) := by exact Int.natCast_nonneg n0
theorem Qpg (h0 : (2 : Int) ≤ u) : (0 : Int) < u := by lia
theorem Q8h (h0 : (2 : Int) ≤ u) (h1 : u = 1) : v ≤ w := by kd_p
theorem Q61 (h0 : u ≤ v) (h1 : v + 1 ≤ w) : u ≤ w := Int.le_trans h0 (Int.le_trans (Int.le_of_lt (Int.lt_add_one_of_le (Int.le_refl v))) h1)
theorem Q8g (h0 : (2 : Int) ≤ u) (h1 : (0 : Int) < v) : (((0 : Int) < v) ↔ ((0 : Int) < u)) := ⟨fun _ => Int.lt_of_lt_of_le (by decide) h0, fun _ => h1⟩
theorem Q8f (h0 : (0 : Int) < u) : ¬ ((0 : Int) < (-u)) := by kd_p
theorem Q8e {z0 z1 : Int} (h0 : ((z0 + 1) : Int) ≤ z1) : z1 ≠ z0 := by exact Ne.symm (Int.ne_of_lt h0)
theorem Q8d (h0 : u = 1) (h1 : (2 : Int) ≤ u) : v ≤ w := by lia
theorem Q8c (h0 : Int.toNat ((a : Int) - u) ≤ c) (h1 : u ≤ v) : ((Int.toNat ((a : Int) - (v + 1)) < c) ∨ (c = 0)) := by cases c with | zero => exact .inr rfl | succ c => exact .inl (Nat.lt_succ_of_le (akD h0 h1))
theorem Q60 (h0 : Int.toNat ((a : Int) - u) ≤ c) (h1 : u ≤ v) (h2 : v < (a : Int)) : Int.toNat ((a : Int) - (v + 1)) < c := akC h0 h1 h2
theorem Q6z {z0 : Int} {n1 : Nat} (h0 : z0 < (n1 : Int)) : ((z0 + 1) : Int) ≤ (n1 : Int) := by exact Int.add_one_le_of_lt h0
theorem Q8b (h0 : (0 : Int) < (-1)) : u = (-1) := by lia
theorem Qz2 {z0 z1 : Int} (h0 : z0 < z1) : ((z0 + 1) : Int) ≤ z1 := by exact Int.add_one_le_of_lt h0
theorem Q8a {z0 z1 : Int} (h0 : z0 ≤ z1) (h1 : z1 ≤ z0) : z1 = z0 := by exact Int.le_antisymm h1 h0
theorem Q79 (h0 : (0 : Int) < (-1)) : ((-1) : Int) = u := by kd_p
theorem Q78 (h0 : (((0 : Int) < u) ↔ ((0 : Int) < v))) (h1 : u < 0) (h2 : v ≠ 0) : v < 0 := Int.lt_of_not_ge fun k => Int.lt_irrefl 0 (Int.lt_trans (h0.mpr (Int.lt_iff_le_and_ne.mpr ⟨k, h2.symm⟩)) h1)
theorem Q77 (h0 : (((2 : Int) ≤ u) ∧ (u < v))) : ¬ (u = v) := by lia
theorem Qyx {z0 : Int} : z0 ≤ (z0 + 1) := by exact Int.le.intro 1 rfl
theorem Qsy {n0 : Nat} : n0 ≤ (n0 + 1) := by exact Nat.le_add_right n0 1
theorem Qyj (h0 : ¬ (u < 0)) (h1 : u ≠ 0) : (0 : Int) < u := by lia
theorem Qyd (h0 : (2 : Int) ≤ u) : ¬ (u = 1) := by kd_p
theorem Q76 {z0 : Int} {n1 : Nat} (h0 : z0 < (n1 : Int)) : z0 ≤ (n1 : Int) := by exact Int.le_of_lt h0
theorem Q75 (h0 : u < v) (h1 : w < u) : w ≤ v := by lia
theorem Qu4 {z0 z1 : Int} (h0 : z0 < z1) : z0 ≤ z1 := by exact Int.le_of_lt h0
theorem Qu3 {z0 : Int} : z0 ≤ z0 := by exact Int.le_refl z0
theorem Qu2 {z0 z1 : Int} (h0 : ¬ (z0 < z1)) : z1 ≤ z0 := by exact Int.not_lt.mp h0
theorem Q74 (h0 : ¬ (u < v)) (h1 : w < v) : w ≤ u := Int.le_trans (Int.le_of_lt h1) (Int.not_lt.mp h0)
theorem Q6y {n0 : Nat} : ((n0 + 1) : Nat) ≤ (n0 + 1) := by exact Nat.le_refl (n0 + 1)
theorem Qxk (h0 : a < (2 ^ 60)) : (a : Int) < (2 ^ 63) := by kd_p
theorem Q6x (h0 : ((u + 1 ≤ v) ∧ (v < (c : Int)))) (h1 : w ≤ u) : w ≤ v := Int.le_trans h1 (Int.le_trans (Int.le_of_lt (Int.lt_add_one_of_le (Int.le_refl u))) h0.1)
theorem Q6w {z0 z1 : Int} (h0 : ((z0 + 1) : Int) ≤ z1) : z0 ≠ z1 := by exact Int.ne_of_lt h0
theorem Q73 (h0 : a ≤ b) (h1 : c ≤ b) : a + c ≤ (b * 2) := by rw [Nat.mul_two]; exact Nat.add_le_add h0 h1
theorem Q72 {n0 : Nat} : ((n0 + n0) : Nat) = (2 * n0) := by exact Eq.symm (Nat.two_mul n0)
theorem Q71 (h0 : a + b = c) (h1 : d + e = c) : (a + d) + (b + e) = (c * 2) := by rw [Nat.add_add_add_comm, h0, h1, Nat.mul_two]
theorem Q70 {n0 n1 n2 n3 : Nat} : (((n0 + n1) + (n2 + n3)) : Nat) = ((n0 + n2) + (n1 + n3)) := by exact Nat.add_add_add_comm n0 n1 n2 n3
theorem Qxj (h0 : ¬ (u < v)) (h1 : u < w) : v ≤ w := Int.le_trans (Int.not_lt.mp h0) (Int.le_of_lt h1)
theorem Q7z {z0 z1 z2 : Int} (h0 : z0 ≤ z1) (h1 : z2 < z0) : z2 < z1 := by exact Int.lt_of_lt_of_le h1 h0
theorem Q7y {n0 n1 : Nat} (h0 : n0 ≤ n1) : ((n0 + 1) : Nat) ≤ (n1 + 1) := by exact Nat.add_le_add_right h0 1
theorem Qqc {n0 n1 : Nat} (h0 : n0 ≤ n1) : n0 ≤ (n1 + 1) := by exact Nat.le_add_right_of_le h0
theorem Q7x (h0 : a = b) (h1 : ¬ (a < c)) (h2 : a ≤ c) : c = b := by lia
theorem Q7w {n0 n1 : Nat} (h0 : n0 < n1) : (0 : Nat) < (n1 - n0) := by exact Nat.zero_lt_sub_of_lt h0
theorem Qxi (h0 : u < v) (h1 : v ≤ u) : False := by lia
theorem Q7v (h0 : u ≤ (2 ^ 24)) : u < ((2 ^ 63) - 1) := by kd_p
theorem Q7u (h0 : u ≤ (2 ^ 24)) : (0 : Int) < (((2 ^ 63) - 1) - u) := Int.sub_pos_of_lt (Int.lt_of_le_of_lt h0 (by decide))
theorem Q7t (h0 : u ≤ (2 ^ 24)) : (0 : Int) < ((((2 ^ 63) - 1) - u) - 1) := by kd_p
theorem Q7s (h0 : ((u = 1) ∨ (u = (-1)))) : ((-(2 ^ 64)) : Int) < u := by kd_p
theorem Q7r (h0 : ((u = 1) ∨ (u = (-1)))) : u < (2 ^ 64) := by kd_p
theorem Q7q (h0 : a + (8 * 2) < b) : a + 1 < b := Nat.lt_of_le_of_lt (Nat.add_le_add_left (by decide) a) h0
theorem Qxh (h0 : a ≤ 1000) : a < (2 ^ 63) := by kd_p
theorem Q6v (h0 : a + 4 ≤ 16777216) (h1 : b ≤ (a + 1)) : b ≤ 16777216 := by lia
theorem Q7p (h0 : a + 4 ≤ 16777216) : a + 1 ≤ 16777216 := by lia
theorem Q7o : (1 : Int) ≤ ((a : Int) + 2) := by lia
theorem Q7n (h0 : a + 4 ≤ 16777216) : (a : Int) + 2 ≤ (2 ^ 24) := by kd_p
theorem Q7m : ¬ (u + 1 = u) := by lia
theorem Q7l {n0 : Nat} : (((n0 : Int) + 2) : Int) ≤ (((n0 : Int) + 2) + 1) := by exact Int.le.intro 1 rfl
theorem Q6u (h0 : a + 4 ≤ 16777216) (h1 : b ≤ (c + 1)) (h2 : c ≤ (a + 1)) : b ≤ 16777216 := by lia
theorem Q7k (h0 : u ≤ v) (h1 : ¬ (u < v)) : v = u := by lia
theorem Q7j (h0 : u ≠ 0) (h1 : ¬ (u < 0)) : (0 : Int) < u := Int.lt_iff_le_and_ne.mpr ⟨Int.not_lt.mp h1, h0.symm⟩
theorem Qrf {n0 : Nat} : ((n0 * 2) : Nat) = (2 * n0) := by exact Nat.mul_comm n0 2
theorem Qre (h0 : (1 : Nat) ≤ a) (h1 : b = (2 * a)) : c + 1 ≤ (c + b) := by lia
theorem Q7i (h0 : a + (8 * ((2 * b) + 4)) < c) : a + 1 < c := by lia
theorem Q6t (h0 : ((u = v) ∨ (((u = w) ∨ (u = x))))) (h1 : y ≤ v) (h2 : y ≤ w) (h3 : y ≤ x) : y ≤ u := by rcases h0 with h | h | h <;> rw [h] <;> assumption
theorem Q7h {z0 z1 : Int} {n2 : Nat} (h0 : z0 ≤ z1) (h1 : z1 < (n2 : Int)) : z0 < (n2 : Int) := by exact Int.lt_of_le_of_lt h0 h1
theorem Q7g {n0 : Nat} : (2 : Nat) ≤ ((2 * n0) + 4) := by exact Nat.le_add_left 2 (2 * n0 + 2)
theorem Qsj (h0 : Int.toNat ((a : Int) - u) ≤ c) (h1 : u ≤ v) (h2 : v < (a : Int)) : c = ((c - 1) + 1) := (Nat.sub_add_cancel (Nat.lt_of_le_of_lt (Nat.zero_le _) (akC h0 h1 h2))).symm
theorem Q7f {n0 : Nat} : (((2 * n0) + 5) : Nat) ≤ ((2 * (n0 + 1)) + 4) := by exact Nat.le_succ (2 * n0 + 5)
theorem Qrd (h0 : u ≤ v) (h1 : Int.toNat ((c : Int) - u) ≤ (d + 1)) : Int.toNat ((c : Int) - (v + 1)) ≤ d := akD h1 h0
theorem Ql7 {n0 : Nat} : n0 < (n0 + 1) := by exact Nat.lt_add_one n0
theorem Qoh (h0 : (0 : Int) ≤ u) (h1 : u ≤ v) : (0 : Int) ≤ (v + 1) := by lia
theorem Q6o (h0 : (a + b) + 4 ≤ 16777216) (h1 : b = (2 * c)) : (a + c) + 4 ≤ 16777216 := by refine Nat.le_trans (Nat.add_le_add_right (Nat.add_le_add_left ?_ a) 4) h0; rw [h1]; exact Nat.le_mul_of_pos_left c (by decide)
theorem Qup (h0 : a + b ≤ 16777216) (h1 : b = (2 * c)) : a + c ≤ 16777216 := by lia
theorem Q6n (h0 : (a + b) + 4 ≤ 16777216) (h1 : b = (2 * c)) (h2 : d + 1 ≤ (a + c)) : (d + c) + 4 ≤ 16777216 := by lia
theorem Quo (h0 : a + b ≤ 16777216) (h1 : b = (2 * c)) (h2 : d + 1 ≤ (a + c)) : d + c ≤ 16777216 := by lia
theorem Q6m {n0 : Nat} : (3 : Nat) ≤ ((2 * (n0 + 1)) + 4) := by exact Nat.le_add_left 3 (2 * (n0 + 1) + 1)
theorem Qun {z0 z1 : Int} (h0 : (0 : Int) ≤ z0) (h1 : z0 ≤ z1) : (0 : Int) ≤ z1 := by exact Int.le_trans h0 h1
theorem Q6l (h0 : (a + b) + 4 ≤ 16777216) (h1 : b = (2 * c)) (h2 : d + 1 ≤ (a + c)) (h3 : e + 1 ≤ (d + c)) : e + 4 ≤ 16777216 := by lia
theorem Q6k (h0 : a + b ≤ 16777216) (h1 : b = (2 * c)) (h2 : d + 1 ≤ (a + c)) (h3 : e + 1 ≤ (d + c)) (h4 : f ≤ g) (h5 : g = e) : f ≤ 16777216 := by refine Nat.le_trans h4 (h5 ▸ Nat.le_trans (Nat.le_of_succ_le h3) (Nat.le_trans (Nat.add_le_add_right (Nat.le_of_succ_le h2) c) (Nat.le_trans (Nat.le_of_eq ?_) h0))); rw [h1, Nat.two_mul, Nat.add_assoc]
theorem Qqt (h0 : a = (2 * b)) (h1 : c + 1 ≤ (d + b)) (h2 : e + 1 ≤ (c + b)) (h3 : f ≤ (e + 1)) : f + 1 ≤ (d + a) := by rw [h0, Nat.two_mul, ← Nat.add_assoc]; exact Nat.le_trans (Nat.succ_le_succ h3) (Nat.le_trans (Nat.succ_le_succ h2) (Nat.le_trans (Nat.le_of_eq (Nat.add_right_comm c b 1)) (Nat.add_le_add_right h1 b)))
theorem Q6j (h0 : a = (2 * b)) (h1 : c + 1 ≤ (d + b)) (h2 : e + 1 ≤ (c + b)) (h3 : f = e) : (f + 1) + 1 ≤ (d + a) := by rw [h0, h3, Nat.two_mul, ← Nat.add_assoc]; exact Nat.le_trans (Nat.succ_le_succ h2) (Nat.le_trans (Nat.le_of_eq (Nat.add_right_comm c b 1)) (Nat.add_le_add_right h1 b))
theorem Qum {n0 : Nat} : n0 ≤ (n0 + 0) := by exact Nat.le_add_right n0 0
theorem Qul (h0 : a ≤ b) (h1 : c ≤ (d + a)) : c ≤ (d + b) := Nat.le_trans h1 (Nat.add_le_add_left h0 d)
theorem Quk (h0 : a ≤ (b + c)) (h1 : d ≤ (a + e)) : d ≤ (b + (c + e)) := by lia
theorem Quj (h0 : (a + (b + c)) + 8 ≤ 16777216) (h1 : d ≤ (a + b)) : (d + c) + 8 ≤ 16777216 := Nat.le_trans (Nat.add_le_add_right (Nat.le_trans (Nat.add_le_add_right h1 c) (Nat.le_of_eq (Nat.add_assoc a b c))) 8) h0
theorem Qui (h0 : a ≤ b) (h1 : (c + b) + 8 ≤ 16777216) : (c + a) + 8 ≤ 16777216 := Nat.le_trans (Nat.add_le_add_right (Nat.add_le_add_left h0 c) 8) h1
theorem Q6i {n0 : Nat} (h0 : n0 ≤ 5) : ((n0 + 1) : Nat) ≤ 6 := by exact Nat.succ_le_succ h0
theorem Q6h (h0 : a ≤ 5) : (2 * a) + 5 ≤ 15 := by lia
theorem Q6g (h0 : (0 : Int) ≤ u) : Int.toNat ((b : Int) - u) ≤ b := Int.toNat_le.mpr (Int.sub_le_self _ h0)
theorem Q6f (h0 : (a + 64) + 8 ≤ 16777216) (h1 : b ≤ 64) : (a + b) + 4 ≤ 16777216 := Nat.le_trans (Nat.add_le_add (Nat.add_le_add_left h1 a) (by decide)) h0
theorem Q6e (h0 : (a + 64) + 8 ≤ 16777216) (h1 : b ≤ 64) : a + b ≤ 16777216 := by lia
theorem Quh (h0 : a ≤ 64) (h1 : b + 1 ≤ (c + a)) : b ≤ (c + 64) := Nat.le_trans (Nat.le_of_succ_le h1) (Nat.add_le_add_left h0 c)
theorem Q6d (h0 : (a + 1) + 8 ≤ 16777216) : a + 4 ≤ 16777216 := by lia
theorem Qis {n0 n1 : Nat} (h0 : (1 : Nat) ≤ n0) : ((n1 + 1) : Nat) ≤ (n1 + n0) := by exact Nat.add_le_add_iff_left.mpr h0
theorem Q6c (h0 : a ≤ 1000) (h1 : b = a) : b < (2 ^ 60) := by kd_p
theorem Q6b (h0 : a ≤ 1000) (h1 : b < a) : (b : Int) < (2 ^ 63) := by kd_p
theorem Qdy (h0 : a = (b - c)) (h1 : c < b) : b - (c + 1) < a := by rw [h0]; exact Nat.sub_lt_sub_left h1 (Nat.lt_succ_self c)
theorem Q6a {n0 : Nat} : (((n0 : Int) + 1) : Int) = (((n0 + 1) : Nat) : Int) := by exact Int.ofNat_add_one_out n0
theorem Qdg {n0 n1 : Nat} (h0 : n0 < n1) : ((n0 + 1) : Nat) ≤ n1 := by exact Nat.succ_le_of_lt h0
theorem Qug (h0 : a < (b + 1)) (h1 : ¬ (a = b)) : a < b := by lia
theorem Q59 {n0 : Nat} : ((n0 + 18) : Nat) ≤ ((n0 + 1) + 17) := by exact Nat.le_refl (n0 + 18)
theorem Q58 (h0 : a = (2 * b)) : 64 * b ≤ (64 * a) := by rw [h0]; exact Nat.mul_le_mul_left 64 (Nat.le_mul_of_pos_left b (by decide))
theorem Qkk (h0 : (0 : Int) ≤ u) : (0 : Int) ≤ (u + 1) := by kd_p
theorem Quf (h0 : u < v) : u < (v + 1) := by lia
theorem Q57 (h0 : a = (2 * b)) : ((64 * b) - 64) + (64 * b) ≤ (64 * a) := by rw [h0, Nat.two_mul, Nat.mul_add]; exact Nat.add_le_add_right (Nat.sub_le ..) _
theorem Q56 (h0 : a = (2 * b)) (h1 : (1 : Nat) ≤ b) : (((64 * b) - 64) + ((64 * b) - 64)) + 64 ≤ (64 * a) := by obtain ⟨k, rfl⟩ : ∃ k, b = k + 1 := ⟨b - 1, (Nat.sub_add_cancel h1).symm⟩; rw [Nat.mul_succ, Nat.add_sub_cancel, h0, Nat.two_mul, Nat.mul_add, Nat.mul_succ, Nat.add_assoc]; exact Nat.add_le_add_right (Nat.le_add_right ..) _
theorem Q55 (h0 : a = (2 * b)) (h1 : (1 : Nat) ≤ b) : (((64 * b) - 64) + ((64 * b) - 64)) + 64 ≤ ((64 * a) - 64) := by obtain ⟨k, rfl⟩ : ∃ k, b = k + 1 := ⟨b - 1, (Nat.sub_add_cancel h1).symm⟩; rw [Nat.mul_succ, Nat.add_sub_cancel, h0, Nat.two_mul, Nat.mul_add, Nat.mul_succ]; exact Nat.le_sub_of_add_le (Nat.le_of_eq ((Nat.add_assoc (64 * k + 64 * k) 64 64).trans (Nat.add_add_add_comm (64 * k) (64 * k) 64 64)))
theorem Q54 {n0 : Nat} : (16 : Nat) ≤ ((n0 + 1) + 17) := by exact Nat.le_add_left 16 (n0 + 2)
theorem Que (h0 : (0 : Int) ≤ u) : (0 : Int) ≤ u := by kd_p
theorem Q53 {n0 : Nat} : (3 : Nat) ≤ ((n0 + 1) + 17) := by exact Nat.le_add_left 3 (n0 + 15)
theorem Q52 (h0 : a + b ≤ 16777216) (h1 : b = (2 * c)) (h2 : d + 1 ≤ (a + c)) (h3 : e + 1 ≤ (d + c)) : e ≤ 16777216 := by refine Nat.le_trans (Nat.le_of_succ_le h3) (Nat.le_trans (Nat.add_le_add_right (Nat.le_of_succ_le h2) c) (Nat.le_trans (Nat.le_of_eq ?_) h0)); rw [h1, Nat.two_mul, Nat.add_assoc]
theorem Q51 (h0 : ¬ (a < b)) (h1 : c < b) : c < a := by lia
theorem Qgr {n0 n1 : Nat} (h0 : n0 = n1) : n0 ≤ n1 := by exact Nat.le_of_eq h0
theorem Q50 {n0 n1 : Nat} (h0 : n0 = (n1 + 1)) : (0 : Nat) < n0 := by exact Nat.lt_of_sub_eq_succ h0
theorem Q5z {n0 n1 : Nat} (h0 : n0 = (n1 + 1)) : ((n0 - 1) : Nat) = n1 := by exact Eq.symm (Nat.eq_sub_of_add_eq (id (Eq.symm h0)))
theorem Q5y (h0 : a < 64) : a ≤ 16777216 := by lia
theorem Qog {n0 n1 n2 : Nat} (h0 : n0 = n1) (h1 : n2 < n0) : n2 < n1 := by exact Nat.lt_of_lt_of_eq h1 h0
theorem Q5x {n0 n1 n2 : Nat} (h0 : n0 = n1) (h1 : n1 ≤ n2) : n0 ≤ n2 := by exact le_of_eq_of_le h0 h1
theorem Q5w (h0 : a + 1 < b) (h1 : c = a) : c < b := by lia
theorem Qud : (min a b) + ((b - a) + 1) = (b + 1) := by rcases Nat.le_total a b with h | h; { rw [Nat.min_eq_left h, ← Nat.add_assoc, Nat.add_sub_cancel' h] }; { rw [Nat.min_eq_right h, Nat.sub_eq_zero_of_le h] }
theorem Q5v (h0 : a + 1 < b) (h1 : c = a) (h2 : d = (c + 1)) : d < b := by rw [h2, h1]; exact h0
theorem Q5u {n0 n1 n2 : Nat} (h0 : n0 < n1) (h1 : n2 = n0) : n2 < n1 := by exact lt_of_eq_of_lt h1 h0
theorem Q5t (h0 : a - b = 0) (h1 : b ≤ a) : b = a := Nat.le_antisymm h1 (Nat.le_of_sub_eq_zero h0)
theorem Q5s {n0 n1 n2 : Nat} (h0 : ((n0 - n1) : Nat) = (n2 + 1)) : n1 < n0 := by exact Nat.lt_of_sub_eq_succ h0
theorem Qdx {n0 n1 n2 : Nat} (h0 : n0 = n1) (h1 : n2 < n1) : n2 < n0 := by exact Nat.lt_of_lt_of_eq h1 (id (Eq.symm h0))
theorem Q5r (h0 : (a + (b + 1)) + 1 < c) : a < c := Nat.lt_of_le_of_lt (Nat.le_trans (Nat.le_add_right a (b + 1)) (Nat.le_succ _)) h0
theorem Quc (h0 : a - b = (c + 1)) : a - (b + 1) = c := by rw [← Nat.sub_sub, h0]; rfl
theorem Q5q {n0 n1 n2 : Nat} (h0 : (((n0 + (n1 + 1)) + 1) : Nat) < n2) : (((n0 + n1) + 1) : Nat) < n2 := by exact Nat.lt_of_succ_lt h0
theorem Q5p (h0 : (a + (b + 1)) + 1 < c) : a + 1 < c := Nat.lt_of_le_of_lt (Nat.succ_le_succ (Nat.le_add_right a (b + 1))) h0
theorem Q5o (h0 : (a + (b + 1)) + 1 < c) (h1 : d = (a + 1)) : (d + b) + 1 < c := by rw [h1, Nat.add_right_comm a 1 b]; exact h0
theorem Q5n {n0 : Nat} : ((n0 - 0) : Nat) = n0 := by exact Nat.sub_zero n0
theorem Q5m (h0 : a ≤ 1000) (h1 : a = b) : b + 1 < 4096 := by lia
theorem Q5l (h0 : a ≤ 5) (h1 : ¬ (a = 5)) : a * 5 < 21 := by have h := Nat.lt_of_le_of_ne h0 h1; clear h0 h1; revert a; decide
theorem Q5k (h0 : a ≤ 5) : a ≤ 16777216 := by lia
theorem Qub {n0 n1 : Nat} (h0 : n0 ≤ 5) (h1 : n1 = n0) : n1 ≤ 5 := by exact le_of_eq_of_le h1 h0
theorem Q5j (h0 : a ≤ 5) (h1 : b = a) (h2 : c = b) : c ≤ 5 := by lia
theorem Q5i {n0 : Nat} : ¬ ((((n0 : Int) + 1) : Int) = 0) := by exact not_eq_of_beq_eq_false rfl
theorem Q5h (h0 : a ≤ 1000) (h1 : b = a) : (b : Int) < (2 ^ 63) := by kd_p
theorem Q5g {n0 n1 n2 : Nat} (h0 : n0 = n1) (h1 : n2 ≤ n0) : n2 ≤ n1 := by exact le_of_le_of_eq h1 h0
theorem Q5f {n0 n1 : Nat} (h0 : n0 ≤ n1) : n0 < (n1 + 1) := by exact Nat.lt_succ_of_le h0
theorem Q5e {n0 n1 : Nat} (h0 : ((n0 + 1) : Nat) < n1) : n0 < n1 := by exact Nat.lt_of_succ_lt h0
theorem Q5d (h0 : a < 4096) : (a : Int) < (2 ^ 63) := by kd_p
theorem Qkj (h0 : a ≤ 5) : a < 4096 := by kd_p
theorem Q5c (h0 : a ≤ 5) : a + 1 < 4096 := by kd_p
theorem Qua (h0 : a ≤ 5) : a ≤ 1000 := by lia
theorem Qek {n0 n1 : Nat} (h0 : n0 ≤ n1) (h1 : ¬ (n0 = n1)) : n0 < n1 := by exact Nat.lt_of_le_of_ne h0 h1
theorem Qir {z0 : Int} (h0 : (0 : Int) ≤ z0) : ((((Int.toNat z0) : Nat) : Int) : Int) = z0 := by exact Int.toNat_of_nonneg h0
theorem Q5b (h0 : a ≤ 100) : a ≤ 1000 := by lia
theorem Q5a (h0 : a < 5) : (((a : Int) = 0) ∨ ((((a : Int) = 1) ∨ ((((a : Int) = 2) ∨ ((((a : Int) = 3) ∨ ((a : Int) = 4)))))))) := by revert a; decide
theorem Qt9 (h0 : a ≤ 5) (h1 : b = a) : b < 64 := by kd_p
theorem Q49 (h0 : a = 5) : a + 18 ≤ 26 := by lia
theorem Q48 : Int.toNat ((a : Int) - 0) ≤ a := by exact Nat.le_of_eq (by rw [Int.sub_zero]; rfl)
theorem Qt8 {n0 n1 : Nat} (h0 : n0 < n1) : ((n0 : Int) : Int) < (n1 : Int) := by exact Int.ofNat_lt.mpr h0
theorem Qt7 {n0 n1 : Nat} (h0 : n0 < n1) : (((n0 : Int) + 1) : Int) ≤ (n1 : Int) := by exact Int.toNat_le.mp h0
theorem Q47 {n0 : Nat} (h0 : (1 : Nat) ≤ n0) : (2 : Nat) ≤ (n0 * 2) := by exact Nat.le_mul_of_pos_left 2 h0
theorem Q46 {n0 : Nat} (h0 : n0 = 5) : ((n0 : Int) : Int) = 5 := by exact Int.neg_inj.mp (congrArg Neg.neg (congrArg Nat.cast h0))
theorem Q45 {n0 : Nat} (h0 : ((n0 : Int) : Int) = 5) : n0 = 5 := by exact Eq.symm ((fun {m n} => Int.ofNat_inj.mp) (id (Eq.symm h0)))
theorem Q44 (h0 : a = 5) (h1 : (0 : Int) ≤ u) (h2 : ((u ≤ v) ∧ (v < (a : Int)))) : ((v = 0) ∨ (((v = 1) ∨ (((v = 2) ∨ (((v = 3) ∨ (v = 4)))))))) := by subst h0; obtain ⟨n, rfl⟩ := Int.eq_ofNat_of_zero_le (Int.le_trans h1 h2.1); have k : n < 5 := Int.ofNat_lt.mp h2.2; clear h1 h2; revert n; decide
theorem Qt6 (h0 : (2 : Nat) ≤ a) : b + 1 ≤ (b + a) := by lia
theorem Qt5 (h0 : a + b ≤ 4000) : a < 4096 := by lia
theorem Q43 (h0 : a + b ≤ 4000) : a + 1 < 4096 := by lia
theorem Q42 (h0 : (2 : Nat) ≤ a) : (b + 1) + 1 ≤ (b + a) := by lia
theorem Q41 {n0 : Nat} {z1 : Int} (h0 : n0 = 5) (h1 : z1 < (n0 : Int)) : z1 < 5 := by exact lt_of_lt_of_eq h1 (congrArg Nat.cast h0)
theorem Qt4 : a + 4 ≤ ((a + 1) + 3) := by lia
theorem Q40 (h0 : (0 : Int) ≤ u) (h1 : u < 5) : ((u = 0) ∨ (((u = 1) ∨ (((u = 2) ∨ (((u = 3) ∨ (u = 4)))))))) := by obtain ⟨n, rfl⟩ := Int.eq_ofNat_of_zero_le h0; have k : n < 5 := Int.ofNat_lt.mp h1; clear h0 h1; revert n; decide
theorem Qqs {z0 z1 : Int} (h0 : z0 ≤ z1) : z0 ≤ (z1 + 1) := by exact Int.le_add_one h0
theorem Q4z (h0 : a + b ≤ 4000) (h1 : b = (2 * c)) (h2 : (1 : Nat) ≤ c) : (a + 1) + c ≤ 4000 := by lia
theorem Q4y (h0 : a + b ≤ 4000) (h1 : b = (2 * c)) (h2 : d + 1 ≤ ((a + 1) + c)) : d + c ≤ 4000 := by refine Nat.le_trans (Nat.add_le_add_right (Nat.le_of_succ_le_succ (Nat.le_trans h2 (Nat.le_of_eq (Nat.add_right_comm a 1 c)))) c) (Nat.le_trans (Nat.le_of_eq ?_) h0); rw [h1, Nat.two_mul, Nat.add_assoc]
theorem Q4x (h0 : a = (2 * b)) (h1 : c + 1 ≤ ((d + 1) + b)) (h2 : e + 1 ≤ (c + b)) : e + 1 ≤ (d + a) := by lia
theorem Qt3 (h0 : a = 5) : Int.toNat ((a : Int) - 0) ≤ 5 := by rw [h0]; decide
theorem Qt2 (h0 : a = 5) (h1 : (((0 : Int) ≤ u) ∧ (u < (a : Int)))) : (((0 : Int) ≤ u) ∧ (u < 5)) := by subst h0; exact h1
theorem Q4w (h0 : (((0 : Int) ≤ u) ∧ (u < 5))) : Int.toNat u < 5 := (Int.toNat_lt' (by decide)).mpr h0.2
theorem Q4v {z0 z1 : Int} (h0 : ((((Int.toNat z0) : Nat) : Int) : Int) = (((Int.toNat z1) : Nat) : Int)) : ((Int.toNat z0) : Nat) = (Int.toNat z1) := by exact Int.ofNat_inj.mp h0
theorem Q4u (h0 : (0 : Int) ≤ u) (h1 : (0 : Int) ≤ v) (h2 : Int.toNat u = (Int.toNat v)) : u = v := by rw [← Int.toNat_of_nonneg h0, h2, Int.toNat_of_nonneg h1]
theorem Qt1 (h0 : (((0 : Int) ≤ u) ∧ (u < (b : Int)))) : Int.toNat u < b := (Int.toNat_lt h0.1).mpr h0.2
theorem Q4t {n0 : Nat} (h0 : n0 = 1) : ((n0 - 1) : Nat) = 0 := by exact Eq.symm (Nat.eq_sub_of_add_eq' (id (Eq.symm h0)))
theorem Q4s {n0 : Nat} (h0 : ¬ ((0 : Nat) < n0)) : n0 = 0 := by exact Nat.eq_zero_of_not_pos h0
theorem Q4r (h0 : a + (8 * 1) < b) : a + 1 < b := by lia
theorem Q4q {n0 : Nat} : ¬ ((((n0 + 1) + 1) : Nat) ≤ 1) := by exact Std.LawfulOrderOrd.isLE_compare_eq_false.mp rfl
theorem Qki {n0 n1 : Nat} (h0 : ¬ (n0 < n1)) : n1 ≤ n0 := by exact Nat.le_of_not_lt h0
theorem Qt0 {n0 n1 : Nat} (h0 : ((n0 - n1) : Nat) > 0) : (1 : Nat) ≤ (n0 - n1) := by exact Nat.one_le_of_lt h0
theorem Q4p (h0 : ¬ (a < b)) (h1 : a - b = 0) : (b : Int) = (a : Int) := congrArg Int.ofNat (Nat.le_antisymm (Nat.le_of_not_lt h0) (Nat.le_of_sub_eq_zero h1))
theorem Q4o (h0 : a ≤ 10) : a + 1 ≤ 1000 := by lia
theorem Q4n (h0 : a < b) : ¬ ((a : Int) = (b : Int)) := by kd_p
theorem Q4m (h0 : ¬ (a < b)) (h1 : a - b = 0) : (a : Int) = (b : Int) := congrArg Int.ofNat (Nat.le_antisymm (Nat.le_of_sub_eq_zero h1) (Nat.le_of_not_lt h0))
theorem Q4l (h0 : ((u < 0) ∨ ((((b + 1) : Nat) : Int) ≤ u))) : ¬ (u = (b : Int)) := fun e => h0.elim (fun h => absurd (e ▸ h) (Int.not_lt.mpr (Int.natCast_nonneg b))) (fun h => absurd (Int.ofNat_le.mp (e ▸ h)) (Nat.not_succ_le_self b))
theorem Q4k (h0 : ((u < 0) ∨ ((((b + 1) : Nat) : Int) ≤ u))) : ((u < 0) ∨ ((b : Int) ≤ u)) := h0.imp_right (Int.le_trans (Int.ofNat_le.mpr (Nat.le_succ b)))
theorem Qtz (h0 : a ≤ 10) : a ≤ 16777216 := by lia
theorem Q4j (h0 : a ≤ 10) : a + 1 < (2 ^ 63) := by kd_p
theorem Q4i (h0 : u ≤ 1000) : u ≤ 1000000 := by lia
theorem Q4h (h0 : a + (b + 2) < c) : ((a + 1) + 1) + b < c := Nat.lt_of_le_of_lt (Nat.le_of_eq (by rw [Nat.add_assoc a 1 1, Nat.add_assoc, Nat.add_comm (1 + 1) b])) h0
theorem Q4g (h0 : a + (8 * (b + 2)) < c) : ((a + 1) + 3) + (8 * b) < c := by lia
theorem Q4f (h0 : a + (b + 2) < c) : a + 1 < c := by lia
theorem Q4e (h0 : a ≤ 20) : a ≤ 900 := by lia
theorem Q4d (h0 : a ≤ 20) : a + 1 ≤ 900 := by lia
theorem Qme (h0 : a ≤ 1000000) : a ≤ 16777216 := by lia
theorem Q4c (h0 : a ≤ 1000000) (h1 : b < a) : ((((-(2 ^ 63)) : Int) ≤ (b : Int)) ∧ ((b : Int) < (2 ^ 63))) := by kd_p
theorem Q4b {n0 : Nat} : ¬ (((n0 : Int) : Int) < 0) := by exact Int.not_ofNat_neg n0
theorem Q4a (h0 : a + b ≤ 1000000) : a + b ≤ 16777216 := by lia
theorem Q39 {n0 n1 : Nat} (h0 : ((n0 + 3) : Nat) < n1) : n0 < n1 := by exact Nat.lt_of_add_right_lt h0
theorem Q38 {n0 n1 : Nat} (h0 : ((n0 : Int) : Int) = (n1 : Int)) : n0 = n1 := by exact Int.ofNat_inj.mp h0
theorem Q37 (h0 : a ≤ 5) : 65 * a ≤ 512 := by lia
theorem Q36 (h0 : a ≤ 5) (h1 : b < a) : (65 * b) + 1 ≤ 512 := by lia
theorem Q35 (h0 : a ≤ 5) (h1 : b < a) : ((65 * b) + 1) + 64 ≤ 512 := by lia
theorem Qty : ((65 * a) + 1) + 64 ≤ (65 * (a + 1)) := by lia
theorem Q34 (h0 : a ≤ 5) : min b a ≤ 16777216 := Nat.le_trans (Nat.min_le_right b a) (Nat.le_trans h0 (by decide))
theorem Q33 (h0 : a < (min b c)) (h1 : a = b) : False := absurd (h1 ▸ h0) (Nat.not_lt_of_ge (Nat.min_le_left b c))
theorem Qtx {n0 n1 : Nat} (h0 : n0 ≤ n1) : ((n0 + (n1 - n0)) : Nat) = n1 := by exact Nat.add_sub_of_le h0
theorem Q32 (h0 : a ≤ b) : min (a - c) (b - c) = (a - c) := Nat.min_eq_left (Nat.sub_le_sub_right h0 c)
theorem Qqr {z0 z1 : Int} (h0 : ((z0 + 1) : Int) ≤ z1) : z0 < z1 := by exact Int.lt_of_add_one_le h0
theorem Q31 {n0 n1 n2 : Nat} (h0 : n0 = n1) (h1 : n0 < n2) : ((n1 + 1) : Nat) ≤ n2 := by exact le_of_eq_of_le (congrFun (congrArg HAdd.hAdd (id (Eq.symm h0))) 1) h1
theorem Q30 (h0 : a = b) : Int.toNat ((((c : Int) + (d : Int)) - ((a : Int) + (d : Int))) - 1) = (c - (b + 1)) := by rw [h0, Int.add_sub_add_right, Int.sub_sub]; exact Int.toNat_sub c (b + 1)
theorem Qtw {z0 : Int} : z0 = (-(-z0)) := by exact Int.eq_neg_comm.mp rfl
theorem Q3z : Int.toNat (((a : Int) + (b : Int)) - ((c : Int) + (b : Int))) = (a - c) := by rw [Int.add_sub_add_right]; exact Int.toNat_sub a c
theorem Q3y : ((a : Int) + (b : Int)) - (b : Int) = (a : Int) := by lia
theorem Q3x (h0 : a ≤ b) : (0 : Int) ≤ (((b : Int) + (c : Int)) - ((a : Int) + (c : Int))) := by lia
theorem Qtv (h0 : a ≤ 5) : ((a : Int) + (b : Int)) - ((c : Int) + (b : Int)) ≤ 1000 := by lia
theorem Qtu {n0 : Nat} : (2 : Nat) ≤ (n0 + 3) := by exact Nat.le_add_left 2 (n0 + 1)
theorem Q3w (h0 : a + b ≤ 5000) (h1 : b = (2 * c)) : a + c ≤ 5000 := by lia
theorem Q3v (h0 : a + b ≤ 5000) (h1 : b = (2 * c)) (h2 : d + 1 ≤ (a + c)) : d + c ≤ 5000 := by lia
theorem Qqq (h0 : a ≤ 5) : a - b ≤ 5 := Nat.le_trans (Nat.sub_le a b) h0
theorem Qtt (h0 : a < b) : (0 : Int) ≤ ((((b : Int) + (c : Int)) - ((a : Int) + (c : Int))) - 1) := by lia
theorem Qts (h0 : a ≤ 5) (h1 : b ≤ a) : (((b : Int) + (c : Int)) - ((d : Int) + (c : Int))) - 1 ≤ 1000 := by lia
theorem Qqp : ((-(2 ^ 64)) : Int) < (a : Int) := by kd_p
theorem Qqo (h0 : a ≤ 32) : (a : Int) < (2 ^ 64) := by kd_p
theorem Qqn : (2 : Nat) ≤ ((a + 1) + 3) := by lia
theorem Q3u (h0 : a + b ≤ 5000) (h1 : b = (2 * c)) (h2 : d + 1 ≤ (a + c)) (h3 : e + 1 ≤ (d + c)) : e ≤ 16777216 := by lia
theorem Q3t (h0 : a < b) (h1 : b ≤ c) : (0 : Int) ≤ (((c : Int) + (d : Int)) - ((a : Int) + (d : Int))) := by lia
theorem Qtr {n0 : Nat} (h0 : n0 ≤ 1) (h1 : (0 : Nat) < n0) : n0 = 1 := by exact Eq.symm (Nat.le_antisymm h1 h0)
theorem Q3s (h0 : a = 1) (h1 : b = 1) (h2 : c = 0) : a = (c + b) := by rw [h0, h1, h2]
theorem Q3r : a = (a + 0) := by lia
theorem Q3q (h0 : a = (b + c)) : c ≤ a := by lia
theorem Q3p {n0 n1 n2 : Nat} (h0 : n0 = (n1 + n2)) : n1 = (n0 - n2) := by exact Nat.eq_sub_of_add_eq (id (Eq.symm h0))
theorem Q3o : Int.toNat ((a : Int) + (((b - c) : Nat) : Int)) = ((b - c) + a) := (Int.toNat_natCast (a + (b - c))).trans (Nat.add_comm ..)
theorem Q3n (h0 : (0 : Int) ≤ u) (h1 : b = (Int.toNat u)) : u = (b : Int) := by rw [h1]; exact (Int.toNat_of_nonneg h0).symm
theorem Q3m (h0 : (((0 : Int) ≤ u) ∧ (u < (b : Int)))) : u = (((Int.toNat u) : Nat) : Int) := (Int.toNat_of_nonneg h0.1).symm
theorem Q3l {z0 z1 : Int} (h0 : z0 ≤ z1) (h1 : z0 ≠ z1) : z0 < z1 := by exact Std.lt_of_le_of_ne h0 h1
theorem Q3k (h0 : a ≤ 5) (h1 : b = (a - c)) : b ≤ 5 := by rw [h1]; exact Nat.le_trans (Nat.sub_le a c) h0
theorem Q3j (h0 : a ≤ b) (h1 : c = (b - a)) : (b : Int) - (a : Int) = (c : Int) := by rw [h1]; exact (Int.ofNat_sub h0).symm
theorem Q3i (h0 : a ≤ 5) (h1 : b = a) (h2 : c ≤ b) : c ≤ 16777216 := by lia
theorem Q3h (h0 : a ≤ 5) (h1 : b = a) (h2 : c ≤ b) (h3 : d ≤ (c + 1)) : d ≤ 16777216 := by rw [h1] at h2; exact Nat.le_trans h3 (Nat.le_trans (Nat.succ_le_succ (Nat.le_trans h2 h0)) (by decide))
theorem Qtq (h0 : a = b) (h1 : (c : Int) - (b : Int) = (d : Int)) : (c : Int) = ((a : Int) + (d : Int)) := by rw [← h1, h0, Int.add_comm, Int.sub_add_cancel]
theorem Q3g (h0 : a ≤ 5) (h1 : b = a) : b - c ≤ 5 := Nat.le_trans (Nat.sub_le b c) (h1 ▸ h0)
theorem Q3f {n0 n1 : Nat} : (0 : Int) ≤ ((n0 : Int) + (n1 : Int)) := by exact Int.zero_le_ofNat (n0 + n1)
theorem Q3e (h0 : a ≤ 5) (h1 : b = a) (h2 : c ≤ 5) (h3 : d ≤ b) : (d : Int) + (c : Int) ≤ 1000 := Int.ofNat_le.mpr (Nat.le_trans (Nat.add_le_add (Nat.le_trans h3 (h1 ▸ h0)) h2) (by decide))
theorem Q3d (h0 : a = b) (h1 : (c : Int) - (b : Int) = (d : Int)) : (e : Int) + (d : Int) = ((e : Int) + (((c - a) : Nat) : Int)) := by rw [h0, ← h1, Int.ofNat_sub (Int.ofNat_le.mp (Int.le_of_sub_nonneg (h1 ▸ Int.natCast_nonneg d)))]
theorem Q3c (h0 : a ≤ 5) (h1 : b = a) (h2 : c ≤ d) (h3 : d < b) : c ≤ 16777216 := Nat.le_trans h2 (Nat.le_trans (Nat.le_of_lt h3) (h1 ▸ Nat.le_trans h0 (by decide)))
theorem Q3b (h0 : a ≤ b) (h1 : c ≤ (a + 1)) : c ≤ (b + 1) := by lia
theorem Q3a (h0 : a = 5) (h1 : (((0 : Int) ≤ u) ∧ (u < (a : Int)))) : (((((Int.toNat u) : Nat) : Int) = 0) ∨ ((((((Int.toNat u) : Nat) : Int) = 1) ∨ ((((((Int.toNat u) : Nat) : Int) = 2) ∨ ((((((Int.toNat u) : Nat) : Int) = 3) ∨ ((((Int.toNat u) : Nat) : Int) = 4)))))))) := by obtain ⟨n, rfl⟩ := Int.eq_ofNat_of_zero_le h1.1; have k : n < 5 := Int.ofNat_lt.mp (h0 ▸ h1.2); clear h0 h1; revert n; decide
theorem Q29 (h0 : a + (8 * 1) < b) : a < b := by lia
theorem Q28 {n0 : Nat} (h0 : n0 ≤ 0) : n0 = 0 := by exact Nat.eq_zero_of_le_zero h0
theorem Q27 (h0 : a ≤ (b + 1)) : a / 2 ≤ b := by lia
theorem Q26 (h0 : ((a % 2 = 1) ↔ (((b % 2 = 1) ∨ (c % 2 = 1))))) (h1 : ¬ (((b % 2 = 1) ∧ (c % 2 = 1)))) (h2 : (2 * ((b / 2) + (c / 2))) + (a % 2) = a) : b + c = a := by exact (congr (congrArg Nat.add (Nat.div_add_mod b 2).symm) (Nat.div_add_mod c 2).symm).trans ((Nat.add_add_add_comm ..).trans ((congr (congrArg Nat.add (Nat.mul_add ..).symm) (show b % 2 + c % 2 = a % 2 from by rcases Nat.mod_two_eq_zero_or_one b with hb | hb <;> rcases Nat.mod_two_eq_zero_or_one c with hc | hc <;> rw [hb, hc] at h0 h1 ⊢; rotate_left; { exact (h0.mpr (.inr rfl)).symm }; { exact (h0.mpr (.inl rfl)).symm }; { exact absurd ⟨rfl, rfl⟩ h1 }; rcases Nat.mod_two_eq_zero_or_one a with ha | ha <;> rw [ha] <;> cases h0.mp ha <;> contradiction)).trans h2))
theorem Q25 (h0 : ¬ (a = b)) : ((b < a) ↔ (b < (a + 1))) := ⟨Nat.lt_succ_of_lt, fun h => Nat.lt_of_le_of_ne (Nat.le_of_lt_succ h) (Ne.symm h0)⟩
theorem Q24 (h0 : ¬ (a = b)) : ((a < b) ↔ (a < (b + 1))) := ⟨Nat.lt_succ_of_lt, fun h => Nat.lt_of_le_of_ne (Nat.le_of_lt_succ h) h0⟩
theorem Q23 {n0 : Nat} : (101 : Int) ≤ (101 + (n0 : Int)) := by exact Int.le.intro n0 rfl
theorem Q22 (h0 : a < b) : 101 + (a : Int) < (101 + (b : Int)) := by lia
theorem Q21 : Int.toNat ((101 + (a : Int)) - 101) = a := by rw [Int.add_comm, Int.add_sub_cancel]; rfl
theorem Q20 {z0 : Int} {n1 : Nat} (h0 : (0 : Int) ≤ z0) (h1 : z0 < (n1 : Int)) : ((Int.toNat z0) : Nat) < n1 := by exact (Int.toNat_lt h0).mpr h1
theorem Q2z (h0 : (((101 : Int) ≤ u) ∧ (u < (101 + (b : Int))))) : 101 + (((Int.toNat (u - 101)) : Nat) : Int) = u := by rw [Int.toNat_of_nonneg (Int.sub_nonneg_of_le h0.1), Int.add_comm, Int.sub_add_cancel]
theorem Q2y (h0 : (((101 : Int) ≤ u) ∧ (u < (101 + (b : Int))))) : Int.toNat (u - 101) < b := (Int.toNat_lt (Int.sub_nonneg_of_le h0.1)).mpr (Int.sub_left_lt_of_lt_add h0.2)
theorem Q2x {n0 n1 : Nat} (h0 : n0 < n1) : (((n1 - 1) - n0) : Nat) < n1 := by exact Nat.sub_one_sub_lt_of_lt h0
theorem Q2w : (a - 1) - b = (a - (b + 1)) := by lia
theorem Q2v (h0 : (0 : Nat) < a) : a - 1 < a := Nat.sub_lt h0 (by decide)
theorem Q2u {n0 n1 : Nat} (h0 : n0 ≥ n1) : ((n1 + (n0 - n1)) : Nat) = n0 := by exact Nat.add_sub_of_le h0
theorem Q2t (h0 : a < b) (h1 : c ≥ b) : ¬ (c = a) := by lia
theorem Qqm (h0 : a ≤ b) : (b - a) + a = b := Nat.sub_add_cancel h0
theorem Q2s (h0 : ¬ (a < b)) : ¬ (a + c < b) := fun h => h0 (Nat.lt_of_le_of_lt (Nat.le_add_right a c) h)
theorem Q2r {n0 n1 n2 : Nat} (h0 : n0 < n1) : ((n0 - n2) : Nat) < n1 := by exact Nat.sub_lt_of_lt h0
theorem Qql (h0 : 101 + (a : Int) = (101 + (b : Int))) : a = b := by lia
theorem Q2q (h0 : a < b) (h1 : a = b) : False := by kd_p
theorem Q2p : ((((u = 104) ∨ (((u = 105) ∨ (((u = 101) ∨ (((u = 102) ∨ (u = 103))))))))) ↔ ((((101 : Int) ≤ u) ∧ (u < (101 + ((5 : Nat) : Int)))))) := (or_assoc.symm.trans (or_comm.trans (or_assoc.trans (or_congr_right or_assoc)))).trans akE
theorem Qto : ¬ ((0 : Int) ≤ ((-(a : Int)) - 1)) := by lia
theorem Q2o : (-((-u) - 1)) - 1 = u := by lia
theorem Q2n (h0 : a ≤ 4294967295) : 4294967295 - (a : Int) = (((4294967295 - a) : Nat) : Int) := (Int.ofNat_sub h0).symm
theorem Qmd {n0 : Nat} {z1 : Int} (h0 : n0 = 5) (h1 : z1 < (n0 : Int)) : z1 < ((5 : Nat) : Int) := by exact lt_of_lt_of_eq h1 (congrArg Nat.cast h0)
theorem Qqk {n0 : Nat} : (2 : Nat) ≤ ((n0 + 1) + 5) := by exact Nat.le_add_left 2 (n0 + 4)
theorem Qmc {n0 : Nat} : (((101 + (n0 : Int)) - 101) : Int) = (n0 : Int) := by exact Int.sub_eq_iff_eq_add'.mpr rfl
theorem Q2m : (0 : Int) ≤ ((101 + (a : Int)) - 101) := by lia
theorem Q2l (h0 : a < 5) : (101 + (a : Int)) - 101 < (2 ^ 63) := by kd_p
theorem Qtn {n0 : Nat} : ((n0 + 6) : Nat) ≤ ((n0 + 1) + 5) := by exact Nat.le_refl (n0 + 6)
theorem Q2k (h0 : a + b ≤ 1000000) (h1 : b = (2 * c)) : a + c ≤ 1000000 := by lia
theorem Q2j (h0 : a + b ≤ 1000000) (h1 : b = (2 * c)) (h2 : d + 1 ≤ (a + c)) : d + c ≤ 1000000 := by lia
theorem Q2i (h0 : a + b ≤ 1000000) (h1 : b = (2 * c)) (h2 : d + 1 ≤ (a + c)) (h3 : e + 1 ≤ (d + c)) : e ≤ 16777216 := by refine Nat.le_trans (Nat.le_of_succ_le h3) (Nat.le_trans (Nat.add_le_add_right (Nat.le_of_succ_le h2) c) (Nat.le_trans (Nat.le_of_eq ?_) (Nat.le_trans h0 (by decide)))); rw [h1, Nat.two_mul, Nat.add_assoc]
theorem Q2h (h0 : a = (2 * b)) (h1 : c + 1 ≤ (d + b)) (h2 : e + 1 ≤ (c + b)) : (e + 1) + 1 ≤ (d + a) := by rw [h0, Nat.two_mul, ← Nat.add_assoc]; exact Nat.le_trans (Nat.succ_le_succ h2) (Nat.le_trans (Nat.le_of_eq (Nat.add_right_comm c b 1)) (Nat.add_le_add_right h1 b))
theorem Q2g {n0 n1 : Nat} (h0 : (0 : Nat) < n0) : ((n1 + 1) : Nat) ≤ (n1 + n0) := by exact Nat.add_le_add_iff_left.mpr h0
theorem Q2f (h0 : u ≠ 0) (h1 : ¬ ((0 : Int) < u)) : u < 0 := Int.lt_iff_le_and_ne.mpr ⟨Int.not_lt.mp h1, h0⟩
theorem Qkh (h0 : a < 5) : (a : Int) ≤ 1000 := by lia
theorem Qof {z0 : Int} (h0 : (0 : Int) < z0) : (0 : Int) ≤ z0 := by exact Int.le_of_lt h0
theorem Q2e {n0 : Nat} (h0 : n0 < 5) : n0 ≤ 5 := by exact Nat.le_of_succ_le h0
theorem Q2d (h0 : a ≤ (2 ^ 5)) : (a : Int) ≤ 1000 := by kd_p
theorem Q2c {n0 : Nat} (h0 : n0 < 5) : n0 ≤ 4 := by exact Nat.le_of_lt_succ h0
theorem Qtm (h0 : a ≤ 4294967295) : Int.natAbs (a : Int) < (2 ^ 64) := Nat.lt_of_le_of_lt h0 (by decide)
theorem Qoe (h0 : a < 5) : (a : Int) < (2 ^ 63) := by kd_p
theorem Qqj {n0 : Nat} (h0 : (0 : Nat) < n0) : ((n0 : Int) : Int) ≠ 0 := by exact Int.natCast_ne_zero_iff_pos.mpr h0
theorem Q2b (h0 : a ≤ 65536) : Int.natAbs (a : Int) < 1073741824 := Nat.lt_of_le_of_lt h0 (by decide)
theorem Q2a (h0 : Int.natAbs u < (2 ^ 64)) : ((-(2 ^ 64)) : Int) < u := Int.neg_lt_of_neg_lt (Int.lt_of_le_of_lt (Int.natAbs_neg u ▸ Int.le_natAbs) (Int.ofNat_lt.mpr h0))
theorem Q19 (h0 : Int.natAbs u < (2 ^ 64)) : u < (2 ^ 64) := Int.lt_of_le_of_lt (Int.le_natAbs) (Int.ofNat_lt.mpr h0)
theorem Qod {z0 : Int} (h0 : (0 : Int) < z0) : z0 ≠ 0 := by exact Ne.symm (Int.ne_of_lt h0)
theorem Qqi (h0 : a < 5) : a < 9000 := by kd_p
theorem Q18 (h0 : u = (-v)) (h1 : (0 : Int) < v) : ¬ ((0 : Int) < u) := by lia
theorem Qtl (h0 : a = 5) (h1 : b = (Int.toNat (5 - u))) (h2 : u ≤ v) (h3 : v < (a : Int)) : Int.toNat (5 - (v + 1)) < b := by subst h0; rw [h1]; exact (Int.toNat_lt_toNat (Int.sub_pos_of_lt (Int.lt_of_le_of_lt h2 h3))).mpr (Int.sub_lt_sub_left (Int.lt_add_one_of_le h2) 5)
theorem Q17 : a ≤ a := by lia
theorem Q16 (h0 : a < b) : (0 : Int) < ((b : Int) - (a : Int)) := Int.sub_pos_of_lt (Int.ofNat_lt.mpr h0)
theorem Q15 : ((a : Int) - (b : Int)) - 1 = ((a : Int) - ((b : Int) + 1)) := by lia
theorem Q14 : (a : Int) - (a : Int) ≤ 0 := by lia
theorem Q13 (h0 : a ≤ 1000000) (h1 : b ≤ a) (h2 : c = b) : c ≤ 1000000 := by lia
theorem Q12 (h0 : a = (b - c)) (h1 : c ≤ b) (h2 : ¬ (c = b)) : b - (c + 1) < a := by rw [h0]; exact Nat.sub_lt_sub_left (Nat.lt_of_le_of_ne h1 h2) (Nat.lt_succ_self c)
theorem Q11 (h0 : a ≤ b) (h1 : ¬ (a = b)) : a + 1 ≤ b := Nat.lt_of_le_of_ne h0 h1
theorem Qqh {n0 n1 : Nat} (h0 : ((n0 - n1) : Nat) = 0) : ((n0 - n1) : Nat) = 0 := by exact Eq.symm (Nat.add_right_cancel (congrFun (congrArg HAdd.hAdd (id (Eq.symm h0))) n0))
theorem Qqg (h0 : a = b) (h1 : ¬ (c < a)) (h2 : c - a = 0) : c = b := h0 ▸ Nat.le_antisymm (Nat.le_of_sub_eq_zero h2) (Nat.le_of_not_lt h1)
theorem Q10 {n0 n1 n2 : Nat} (h0 : n0 < n1) (h1 : n1 = n2) : n0 < n2 := by exact Nat.lt_of_lt_of_eq h0 h1
theorem Q1z (h0 : a = b) (h1 : b ≤ 10) : a ≤ 1000000 := by lia
theorem Q1y (h0 : (0 : Int) ≤ u) (h1 : u < 10) : ((u / 2 = (((Int.toNat (u / 2)) : Nat) : Int)) ∧ (Int.toNat (u / 2) < 5)) := ⟨(Int.toNat_of_nonneg (Int.ediv_nonneg h0 (by decide))).symm, (Int.toNat_lt (Int.ediv_nonneg h0 (by decide))).mpr (Int.ediv_lt_of_lt_mul (by decide) h1)⟩
theorem Q1x (h0 : ((u = (b : Int)) ∧ (b < 5))) : (b : Int) ≤ 1000 := by lia
theorem Q1w (h0 : ((u = (b : Int)) ∧ (b < 5))) : b < 9000 := by lia
theorem Q1v {n0 : Nat} (h0 : ((0 + n0) : Nat) = 5) : n0 = 5 := by exact Eq.symm (Nat.add_left_cancel (id (Eq.symm h0)))
theorem Q1u (h0 : a < 32) : a < 64 := Nat.lt_trans h0 (by decide)
theorem Q1t (h0 : (a + 1) + b = 5) : b < 5 := by lia
theorem Qiq {n0 n1 : Nat} (h0 : ((n0 + 1) : Nat) ≤ n1) : n0 ≤ n1 := by exact Nat.le_of_succ_le h0
theorem Qtk (h0 : a + 1 ≤ b) (h1 : b = a) : False := by lia
theorem Q1s : Int.toNat (((a : Int) + 1) - (b : Int)) = ((a + 1) - b) := Int.toNat_sub (a + 1) b
theorem Qtj {n0 : Nat} (h0 : n0 < 5) : ((n0 + 1) : Nat) ≤ 5 := by exact Nat.succ_le_of_lt h0
theorem Q1r (h0 : a ≤ b) : (0 : Int) ≤ (((b : Int) + 1) - (a : Int)) := by lia
theorem Q1q (h0 : a < 5) : ((a : Int) + 1) - (b : Int) < (2 ^ 63) := by kd_p
theorem Q1p {n0 : Nat} : (4 : Nat) ≤ (n0 + 6) := by exact Nat.le_add_left 4 (n0 + 2)
theorem Qoc (h0 : (a + 1) + b = 5) : a + (b + 1) = 5 := by lia
theorem Qob {n0 : Nat} : ((n0 + 6) : Nat) ≤ (n0 + 6) := by exact Nat.le_refl (n0 + 6)
theorem Q1o (h0 : (0 : Int) ≤ u) : u / 2 = (((Int.toNat (u / 2)) : Nat) : Int) := (Int.toNat_of_nonneg (Int.ediv_nonneg h0 (by decide))).symm
theorem Qti {z0 : Int} : ((((z0 % 2) : Int) = 0) ∨ (((z0 % 2) : Int) = 1)) := by exact Int.emod_two_eq z0
theorem Qqf (h0 : a < 3) : ((a = 0) ∨ (((a = 1) ∨ (a = 2)))) := by revert a; decide
theorem Q1n (h0 : u < 10) : Int.toNat (u / 2) < 5 := (Int.toNat_lt' (by decide)).mpr (Int.ediv_lt_of_lt_mul (by decide) h0)
theorem Q1m (h0 : a ≤ 1) (h1 : b ≤ 1) (h2 : (0 : Nat) < a) (h3 : (0 : Nat) < b) : a = b := by lia
theorem Q1l (h0 : Int.toNat u = (Int.toNat v)) (h1 : (((0 : Int) ≤ u) ∧ (((u < ((5 : Nat) : Int)) ∧ (c = d))))) (h2 : (((0 : Int) ≤ v) ∧ (((v < ((5 : Nat) : Int)) ∧ (e = f))))) : u = v := (Int.toNat_of_nonneg h1.1).symm.trans ((congrArg Int.ofNat h0).trans (Int.toNat_of_nonneg h2.1))
theorem Qoa (h0 : ((a = 0) ∨ (((a = 1) ∨ (((a = 2) ∨ (((a = 3) ∨ (a = 4))))))))) : a < 5 := by rcases h0 with h | h | h | h | h <;> rw [h] <;> decide
theorem Q1k (h0 : (((0 : Int) ≤ u) ∧ (((u < ((5 : Nat) : Int)) ∧ (b = c))))) : ((u ≤ 0) ∨ (((Int.toNat u = 1) ∨ (((Int.toNat u = 2) ∨ (((Int.toNat u = 3) ∨ (Int.toNat u = 4)))))))) := by obtain ⟨n, rfl⟩ := Int.eq_ofNat_of_zero_le h0.1; have k : n < 5 := Int.ofNat_lt.mp h0.2.1; clear h0; revert n; decide
theorem Qmb {n0 : Nat} (h0 : n0 < 5) : ((n0 : Int) : Int) < ((5 : Nat) : Int) := by exact Int.ofNat_lt.mpr h0
theorem Q1j (h0 : a < 5) : ((a = 0) ∨ (((a = 1) ∨ (((a = 2) ∨ (((a = 3) ∨ (a = 4)))))))) := by revert a; decide
theorem Q1i {n0 : Nat} : ((Int.toNat (n0 : Int)) : Nat) = n0 := by exact Int.toNat_natCast n0
theorem Q1h {n0 : Nat} : ((((n0 % 2) : Nat) = 0) ∨ (((n0 % 2) : Nat) = 1)) := by exact Nat.mod_two_eq_zero_or_one n0
theorem Q1g {n0 n1 : Nat} (h0 : n0 < n1) : n0 < (n1 + 1) := by exact Nat.lt_add_right 1 h0
theorem Qkg (h0 : a + 1 ≤ 5) : a ≤ 5 := by lia
theorem Qkf {n0 : Nat} (h0 : ((n0 + 1) : Nat) ≤ 5) : n0 < 5 := by exact Nat.lt_of_succ_le h0
theorem Qth {n0 n1 : Nat} (h0 : ((n0 + 1) : Nat) ≤ 5) (h1 : n1 < n0) : n1 < 5 := by exact Nat.lt_trans h1 h0
theorem Q1f (h0 : a < b) (h1 : b = a) : False := by kd_p
theorem Q1e {n0 n1 : Nat} (h0 : ((n0 + 1) : Nat) ≤ n1) (h1 : n1 < 5) : n0 < 5 := by exact Nat.lt_trans h0 h1
theorem Q1d (h0 : a + 1 ≤ 5) : a + 1 ≤ 5 := by kd_p
theorem Qhi (h0 : a ≤ 2) : a ≤ 5 := by lia
theorem Q1c (h0 : a ≤ 2) : (5 - a) + a = 5 := Nat.sub_add_cancel (Nat.le_trans h0 (by decide))
theorem Q1b : (5 - a) + 6 ≤ 30 := Nat.le_trans (Nat.add_le_add_right (Nat.sub_le 5 a) 6) (by decide)
theorem Qtg (h0 : a = 5) : a ≤ 1000000 := by lia
theorem Q1a {n0 n1 : Nat} (h0 : n0 ≤ 2) (h1 : n1 ≤ n0) : n1 ≤ 2 := by exact Nat.le_trans h1 h0
theorem Q09 {n0 n1 : Nat} : ((min n0 n1) : Nat) ≤ n0 := by exact Nat.min_le_left n0 n1
theorem Qtf (h0 : a ≤ 2) (h1 : b < a) : b < 5 := by lia
theorem Q08 (h0 : a = b) (h1 : b ≤ 4) : a ≤ 1000000 := by lia
theorem Q07 (h0 : a = b) (h1 : b ≤ 4) (h2 : c = a) : a + c ≤ 1000000 := by lia
theorem Q06 {z0 : Int} (h0 : ((Int.toNat z0) : Nat) < 5) : z0 < ((5 : Nat) : Int) := by exact Int.lt_of_toNat_lt h0
theorem Q05 {n0 n1 n2 : Nat} (h0 : ((n0 + 1) : Nat) ≤ (n1 - n2)) : n0 ≤ (n1 - n2) := by exact Nat.le_of_succ_le h0
theorem Qte (h0 : a - b ≤ c) : a - (b + 1) ≤ c := Nat.le_trans (Nat.sub_le_sub_left (Nat.le_succ b) a) h0
theorem Q04 (h0 : a + 1 ≤ (b - c)) : c ≤ (b - (a + 1)) := akB h0 (Nat.succ_pos a)
theorem Qqe (h0 : a ≤ 5) : a - (b + 1) < 5 := Nat.lt_of_le_of_lt (Nat.sub_le_sub_right h0 (b + 1)) (Nat.sub_lt (by decide) (Nat.succ_pos b))
theorem Q03 (h0 : a + 1 ≤ (b - c)) : b - (a + 1) < b := Nat.sub_lt (Nat.zero_lt_of_lt (Nat.lt_of_lt_of_le h0 (Nat.sub_le b c))) (Nat.succ_pos a)
theorem Q02 (h0 : a + 1 ≤ (b - c)) : (b - (a + 1)) + 1 = (b - a) := by rw [← Nat.sub_sub, Nat.sub_add_cancel (Nat.le_sub_of_add_le (Nat.le_trans (by rw [Nat.add_comm]; exact h0) (Nat.sub_le ..)))]
theorem Q01 (h0 : (a : Int) = u) : (0 : Int) ≤ u := by lia
theorem Q00 (h0 : a ≤ b) (h1 : b < a) : ¬ (u = (101 + (d : Int))) := by kd_p
theorem Q0z (h0 : a + 1 ≤ b) : b - (a + 1) < b := Nat.sub_lt (Nat.zero_lt_of_lt h0) (Nat.succ_pos a)
theorem Qtd (h0 : a - (b + 1) ≤ c) (h1 : ¬ (c = (a - (b + 1)))) : a - b ≤ c := Nat.le_of_pred_lt (Nat.lt_of_le_of_ne h0 (fun e => h1 e.symm))
theorem Qtc {n0 n1 : Nat} (h0 : n0 ≤ 5) (h1 : n1 < n0) : n1 < 5 := by exact Nat.lt_of_lt_of_le h1 h0
theorem Q0y (h0 : a + 1 ≤ b) (h1 : b - a ≤ c) (h2 : c = (b - (a + 1))) : False := absurd (h2 ▸ h1) (Nat.not_le_of_gt (Nat.sub_lt_sub_left h0 (Nat.lt_succ_self a)))
theorem Q0x : 5000 * (5 - a) ≤ 25000 := Nat.mul_le_mul_left 5000 (Nat.sub_le 5 a)
theorem Q0w (h0 : a ≤ 5) : a - 1 < 5 := Nat.lt_of_le_of_lt (Nat.sub_le_sub_right h0 1) (by decide)
theorem Q0v {n0 n1 : Nat} (h0 : n0 < n1) : n0 ≤ n1 := by exact Nat.le_of_succ_le h0
theorem Q0u {n0 : Nat} (h0 : n0 ≤ 5) : n0 ≤ 5 := by exact String.Pos.Raw.mk_le_mk.mp h0
theorem Q0t (h0 : u = (b : Int)) (h1 : c < b) : u - 1 = (((b - 1) : Nat) : Int) := by rw [h0]; exact (Int.ofNat_sub (Nat.zero_lt_of_lt h1)).symm
theorem Q0s (h0 : a < b) (h1 : u - 1 = (((b - 1) : Nat) : Int)) : u - (a : Int) = (((b - a) : Nat) : Int) := by rw [Int.sub_eq_iff_eq_add.mp h1, show ((b - 1 : Nat) : Int) + 1 = (b : Int) from congrArg Int.ofNat (Nat.sub_add_cancel (Nat.zero_lt_of_lt h0))]; exact (Int.ofNat_sub (Nat.le_of_lt h0)).symm
theorem Q0r (h0 : u - 1 = (((b - 1) : Nat) : Int)) : (0 : Int) ≤ (u - 1) := by rw [h0]; exact Int.natCast_nonneg _
theorem Q0q (h0 : a ≤ 5) (h1 : u - 1 = (((a - 1) : Nat) : Int)) : u - 1 < (2 ^ 63) := by rw [h1]; exact Int.lt_of_le_of_lt (Int.ofNat_le.mpr (Nat.le_trans (Nat.sub_le ..) h0)) (by decide)
theorem Q0p (h0 : u - (b : Int) = (((c - b) : Nat) : Int)) : (0 : Int) ≤ (u - (b : Int)) := by rw [h0]; exact Int.natCast_nonneg _
theorem Q0o (h0 : a ≤ 5) (h1 : u - (c : Int) = (((a - c) : Nat) : Int)) : u - (c : Int) < (2 ^ 63) := by rw [h1]; exact Int.lt_of_le_of_lt (Int.ofNat_le.mpr (Nat.le_trans (Nat.sub_le ..) h0)) (by decide)
theorem Qtb (h0 : a ≤ 5) : (a - b) - 1 < 5 := Nat.lt_of_le_of_lt (Nat.sub_le_sub_right (Nat.le_trans (Nat.sub_le a b) h0) 1) (by decide)
theorem Q0n (h0 : u = (((b - c) : Nat) : Int)) (h1 : d < (b - c)) : u - 1 = ((((b - c) - 1) : Nat) : Int) := by rw [h0]; exact (Int.ofNat_sub (Nat.zero_lt_of_lt h1)).symm
theorem Q0m (h0 : a < (b - c)) (h1 : u - 1 = ((((b - c) - 1) : Nat) : Int)) : (a : Int) < u := by rw [Int.sub_eq_iff_eq_add.mp h1]; exact Int.lt_add_one_of_le (Int.ofNat_le.mpr (Nat.le_sub_one_of_lt h0))
theorem Q0l (h0 : u - 1 = ((((b - c) - 1) : Nat) : Int)) : (0 : Int) ≤ (u - 1) := by rw [h0]; exact Int.natCast_nonneg _
theorem Q0k (h0 : a ≤ 5) (h1 : u - 1 = ((((a - c) - 1) : Nat) : Int)) : u - 1 < (2 ^ 63) := by rw [h1]; exact Int.lt_of_le_of_lt (Int.ofNat_le.mpr (Nat.le_trans (Nat.sub_le ..) (Nat.le_trans (Nat.sub_le ..) h0))) (by decide)
theorem Q0j (h0 : u = (((b - c) : Nat) : Int)) (h1 : ¬ (d < (b - c))) : ¬ ((d : Int) < u) := by rw [h0]; exact fun h => h1 (Int.ofNat_lt.mp h)
theorem Q0i (h0 : u = (((b - c) : Nat) : Int)) (h1 : d < (b - c)) : u - 1 = (((b - (c + 1)) : Nat) : Int) := by rw [h0, ← Nat.sub_sub]; exact (Int.ofNat_sub (Nat.zero_lt_of_lt h1)).symm
theorem Q0h {n0 n1 : Nat} : (((n0 - n1) - 1) : Nat) = (n0 - (n1 + 1)) := by exact Nat.sub_sub n0 n1 1
theorem Q0g (h0 : u - 1 = (((b - (c + 1)) : Nat) : Int)) : (0 : Int) ≤ (u - 1) := by rw [h0]; exact Int.natCast_nonneg _
theorem Q0f (h0 : a ≤ 5) (h1 : u - 1 = (((a - (c + 1)) : Nat) : Int)) : u - 1 < (2 ^ 63) := by kd_p
theorem Q0e (h0 : a ≤ 5) (h1 : b < (a - c)) : c ≤ 1000000 := Nat.le_trans (Nat.le_of_lt (Nat.lt_of_sub_pos (Nat.zero_lt_of_lt h1))) (Nat.le_trans h0 (by decide))
theorem Q0d (h0 : a = ((b - c) - d)) (h1 : c < (b - d)) : (b - c) - (d + 1) < a := by rw [h0, ← Nat.sub_sub]; exact Nat.sub_one_lt (Nat.sub_ne_zero_of_lt (Nat.lt_sub_iff_add_lt.mpr (Nat.add_comm c d ▸ Nat.lt_sub_iff_add_lt.mp h1)))
theorem Q0c (h0 : a < (b - c)) : c + 1 ≤ (b - a) := Nat.lt_sub_iff_add_lt.mpr (Nat.add_comm a c ▸ Nat.lt_sub_iff_add_lt.mp h0)
theorem Q0b {n0 n1 : Nat} (h0 : n0 < n1) (h1 : ¬ (n0 < (n1 - 0))) : (0 : Nat) < 0 := by exact Nat.zero_lt_of_ne_zero fun a => h1 h0
theorem Qta (h0 : a ≤ (b - c)) : a ≤ b := Nat.le_trans h0 (Nat.sub_le b c)
theorem Q0a (h0 : a ≤ (b - c)) (h1 : (0 : Nat) < a) : (512 : Nat) ≤ (5000 * (b - c)) := by lia
theorem Qz9 (h0 : a ≤ 5) (h1 : b ≤ (a - c)) : b ≤ 5 := Nat.le_trans h1 (Nat.le_trans (Nat.sub_le a c) h0)
theorem Qz8 (h0 : a ≤ (b - c)) (h1 : (0 : Nat) < a) : ((512 + 2048) : Nat) ≤ (5000 * (b - c)) := Nat.le_trans (by decide) (Nat.mul_le_mul_left 5000 (Nat.le_trans h1 h0))
theorem Qs9 (h0 : a ≤ (b - c)) (h1 : (0 : Nat) < a) : c ≤ (b - a) := akB h0 h1
theorem Qz7 (h0 : u = (((b - c) : Nat) : Int)) (h1 : c ≤ (b - d)) (h2 : (0 : Nat) < c) : u - (d : Int) = ((((b - c) - d) : Nat) : Int) := by rw [h0]; exact (Int.ofNat_sub (akB h1 h2)).symm
theorem Qs8 (h0 : u - (b : Int) = ((((c - d) - b) : Nat) : Int)) : (0 : Int) ≤ (u - (b : Int)) := by rw [h0]; exact Int.natCast_nonneg _
theorem Qs7 (h0 : a ≤ 5) (h1 : u - (c : Int) = ((((a - d) - c) : Nat) : Int)) : u - (c : Int) < (2 ^ 63) := by rw [h1]; exact Int.lt_of_le_of_lt (Int.ofNat_le.mpr (Nat.le_trans (Nat.sub_le ..) (Nat.le_trans (Nat.sub_le ..) h0))) (by decide)
theorem Qz6 (h0 : a ≤ (b - c)) (h1 : (0 : Nat) < a) : (((512 + 2048) + 2048) : Nat) ≤ (5000 * (b - c)) := by lia
theorem Qz5 (h0 : a ≤ 5) (h1 : b ≤ (a - c)) : b ≤ 100 := Nat.le_trans h1 (Nat.le_trans (Nat.sub_le a c) (Nat.le_trans h0 (by decide)))
theorem Qz4 (h0 : a = (b - c)) (h1 : d ≤ (b - c)) (h2 : (0 : Nat) < d) : (b - d) - c < a := by rw [h0, Nat.sub_right_comm]; exact Nat.sub_lt (Nat.lt_of_lt_of_le h2 h1) h2
theorem Qz3 (h0 : a ≤ (b - c)) : 5000 * (b - c) = ((5000 * ((b - a) - c)) + (5000 * a)) := by rw [← Nat.mul_add, Nat.sub_right_comm, Nat.sub_add_cancel h0]
theorem Qz1 (h0 : (0 : Nat) < a) (h1 : 5000 * (b - c) = ((5000 * ((b - a) - c)) + (5000 * a))) : ((512 + 2048) + 2048) + (5000 * ((b - a) - c)) ≤ (5000 * (b - c)) := by rw [h1, Nat.add_comm]; exact Nat.add_le_add_left (Nat.le_trans (by decide) (Nat.mul_le_mul_left 5000 h0)) _
theorem Qz0 (h0 : a ≤ b) (h1 : ¬ (a < b)) : b = a := by lia
theorem Qzz (h0 : a + 1 ≤ (5 - b)) : b ≤ (5 - (a + 1)) := akB h0 (Nat.succ_pos a)
theorem Qzy : 5 - (a + 1) < 5 := Nat.sub_lt (by decide) (Nat.succ_pos a)
theorem Qzx (h0 : a + 1 ≤ (5 - b)) : (5 - (a + 1)) + 1 = (5 - a) := by rw [← Nat.sub_sub]; exact Nat.sub_add_cancel (Nat.le_sub_of_add_le (Nat.le_trans (Nat.le_of_eq (Nat.add_comm 1 a)) (Nat.le_trans h0 (Nat.sub_le 5 b))))
theorem Qzw {n0 n1 : Nat} (h0 : ((n0 + 1) : Nat) ≤ (5 - n1)) : n0 ≤ (5 - n1) := by exact Nat.le_of_succ_le h0
theorem Qzv (h0 : a + 1 ≤ (5 - b)) : 5 - a = ((5 - (a + 1)) + 1) := by rw [← Nat.sub_sub, Nat.sub_add_cancel (Nat.le_sub_of_add_le (Nat.le_trans (by rw [Nat.add_comm]; exact h0) (Nat.sub_le ..)))]
theorem Qzu (h0 : u = (5 - (b : Int))) (h1 : b = 5) : u ≤ 0 := by lia
theorem Qzt (h0 : a ≤ b) (h1 : b = 5) : 5 - (5 - a) = a := by rw [← h1]; exact Nat.sub_sub_self h0
theorem Qzs (h0 : u = (5 - (b : Int))) (h1 : b ≤ 5) (h2 : ¬ (b = 5)) : (0 : Int) < u := by lia
theorem Qzr (h0 : u = (b : Int)) (h1 : c ≤ b) : (0 : Int) ≤ (u - (c : Int)) := by lia
theorem Qzq (h0 : u = (b : Int)) (h1 : b ≤ 5) : u - (c : Int) < (2 ^ 63) := by kd_p
theorem Qzp (h0 : u = (b : Int)) : Int.toNat (u - (c : Int)) = (b - c) := by rw [h0]; exact Int.toNat_sub b c
theorem Qzo {n0 n1 n2 : Nat} (h0 : n0 = 5) (h1 : ((n1 + n2) : Nat) < n0) : ((n1 + n2) : Nat) < 5 := by exact Nat.lt_of_lt_of_eq h1 h0
theorem Qzn {n0 n1 : Nat} (h0 : n0 ≤ n1) : ((5 - n1) : Nat) ≤ (5 - n0) := by exact Nat.sub_le_sub_left h0 5
theorem Qs6 (h0 : a + b < 5) : 5 - (5 - a) = a := Nat.sub_sub_self (Nat.le_trans (Nat.le_add_right a b) (Nat.le_of_lt h0))
theorem Qs5 (h0 : a + b < 5) (h1 : c < a) : c < 5 := Nat.lt_trans h1 (Nat.lt_of_le_of_lt (Nat.le_add_right a b) h0)
theorem Qzm (h0 : a < b) (h1 : b + c = a) : False := by lia
theorem Qzl (h0 : a = (5 - b)) (h1 : c = (5 - b)) : a ≤ c := by lia
theorem Qzk {n0 n1 : Nat} (h0 : ((n0 + (8 * 30)) : Nat) < n1) : n0 < n1 := by exact Nat.lt_of_add_right_lt h0
theorem Qzj (h0 : a = (5 - b)) (h1 : b ≤ 5) (h2 : ¬ (b = 5)) : 5 - (b + 1) < a := by rw [h0]; exact Nat.sub_lt_sub_left (Nat.lt_of_le_of_ne h1 h2) (Nat.lt_succ_self b)
theorem Qs4 (h0 : u = (5 - (b : Int))) : u - 1 = (5 - (((b + 1) : Nat) : Int)) := by rw [h0, Int.sub_sub]; rfl
theorem Qzi (h0 : a ≤ 5) (h1 : ¬ (a = 5)) : a + 1 ≤ 5 := by lia
theorem Qs3 (h0 : a = (5 - b)) (h1 : c ≤ (5 - b)) (h2 : ¬ (c = (5 - b))) : c < a := by lia
theorem Qzh (h0 : a = ((5 - b) - c)) (h1 : c ≤ (5 - b)) (h2 : ¬ (c = (5 - b))) : (5 - b) - (c + 1) < a := by rw [h0, ← Nat.sub_sub]; exact Nat.sub_one_lt (Nat.sub_ne_zero_of_lt (Nat.lt_of_le_of_ne h1 h2))
theorem Qzg (h0 : a ≤ (5 - b)) (h1 : ¬ (a = (5 - b))) : a + 1 ≤ (5 - b) := by lia
theorem Qzf (h0 : a < 5) : 5 - a = ((5 - (a + 1)) + 1) := by revert a; decide
theorem Qze (h0 : a < 5) : 4 - (5 - (a + 1)) = a := by revert a; decide
theorem Qzd (h0 : a ≤ 2) : 0 + a ≤ 5 := by lia
theorem Qzc : 5 - (a : Int) = ((5 - (a : Int)) - ((0 : Nat) : Int)) := by lia
theorem Qzb (h0 : a ≤ 1000) : a ≤ (1000 + (100 * 0)) := by kd_p
theorem Qza (h0 : u = ((5 - (b : Int)) - (c : Int))) (h1 : c = (5 - b)) : u ≤ 0 := by rw [h0, h1]; exact Int.sub_nonpos_of_le (Int.le_trans (Int.self_le_toNat _) (Int.ofNat_le.mpr (Nat.le_of_eq (Int.toNat_sub 5 b))))
theorem Qy9 {n0 : Nat} : (25000 : Nat) ≤ (25000 + (2100 * (5 - n0))) := by exact Nat.le_add_right 25000 (2100 * (5 - n0))
theorem Qy8 (h0 : a = (5 - b)) (h1 : c ≤ 5) : c - b ≤ a := by rw [h0]; exact Nat.sub_le_sub_right h1 b
theorem Qy7 (h0 : a = (5 - b)) (h1 : b ≤ c) : a - (c - b) = (5 - c) := by rw [h0, Nat.sub_sub, Nat.add_sub_cancel' h1]
theorem Qy6 (h0 : a + b ≤ 5) (h1 : ¬ (a = (5 - b))) : a < (5 - b) := Nat.lt_of_le_of_ne (Nat.le_sub_of_add_le h0) h1
theorem Qke {n0 : Nat} : ((4 - n0) : Nat) < 5 := by exact Nat.sub_lt_succ 4 n0
theorem Qs2 (h0 : u = (4 - (b : Int))) : Int.toNat u = (4 - b) := by rw [h0]; exact Int.toNat_sub 4 b
theorem Qy5 (h0 : u = ((5 - (b : Int)) - (c : Int))) (h1 : c < (5 - b)) : (0 : Int) < u := by rw [h0, Int.sub_sub]; exact Int.sub_pos_of_lt (Int.ofNat_lt.mpr (Nat.add_lt_of_lt_sub' h1))
theorem Qma (h0 : u = (4 - (b : Int))) (h1 : b < (5 - c)) : (0 : Int) ≤ u := by rw [h0]; exact Int.sub_nonneg_of_le (Int.ofNat_le.mpr (Nat.le_of_lt_succ (Nat.lt_of_lt_of_le h1 (Nat.sub_le 5 c))))
theorem Ql9 (h0 : Int.toNat u = (4 - b)) : u < (2 ^ 63) := Int.lt_of_le_of_lt (Int.self_le_toNat u) (Int.lt_of_le_of_lt (Int.ofNat_le.mpr (Nat.le_trans (Nat.le_of_eq h0) (Nat.sub_le 4 b))) (by decide))
theorem Qs1 : (2048 : Nat) ≤ (25000 + (2100 * (5 - a))) := by lia
theorem Qy4 {n0 n1 : Nat} (h0 : ((n0 + 1) : Nat) ≤ (n1 + 1)) : n0 ≤ n1 := by exact Nat.le_of_lt_succ h0
theorem Qy3 {n0 n1 : Nat} : (((n0 + 1) - (n1 + 1)) : Nat) = (n0 - n1) := by exact Nat.add_sub_add_right n0 1 n1
theorem Qy2 (h0 : a ≤ (1000 + (100 * b))) (h1 : b < (5 - c)) : a + (2 ^ 5) ≤ 1000000 := Nat.le_trans (Nat.add_le_add_right (Nat.le_trans h0 (Nat.add_le_add_left (Nat.mul_le_mul_left 100 (Nat.le_of_lt (Nat.lt_of_lt_of_le h1 (Nat.sub_le 5 c)))) 1000)) _) (by decide)
theorem Qy1 (h0 : a = (b + 1)) (h1 : b < (5 - c)) : (0 + 1) + a ≤ 1000000 := by rw [h0]; exact Nat.le_trans (Nat.add_le_add_left (Nat.succ_le_succ (Nat.le_of_lt (Nat.lt_of_lt_of_le h1 (Nat.sub_le 5 c)))) (0 + 1)) (by decide)
theorem Qy0 (h0 : a = (5 - b)) (h1 : b < (5 - c)) : 5 - (b + 1) < a := by rw [h0]; exact Nat.sub_lt_sub_left (Nat.lt_of_lt_of_le h1 (Nat.sub_le ..)) (Nat.lt_succ_self b)
theorem Qyz (h0 : a < (5 - b)) : (a + 1) + b ≤ 5 := akA h0 (Nat.succ_pos a)
theorem Qs0 (h0 : u = (4 - (b : Int))) : u + (-1) = (4 - (((b + 1) : Nat) : Int)) := by lia
theorem Qyy (h0 : u = ((5 - (b : Int)) - (c : Int))) : u - 1 = ((5 - (b : Int)) - (((c + 1) : Nat) : Int)) := by rw [h0, Int.sub_sub]; rfl
theorem Qyw (h0 : a < (5 - b)) : 2048 + (25000 + (2100 * (5 - (a + 1)))) ≤ (25000 + (2100 * (5 - a))) := by have h := Nat.lt_of_lt_of_le h0 (Nat.sub_le 5 b); clear h0; revert a; decide
theorem Qyv (h0 : a ≤ (1000 + (100 * b))) (h1 : c + 1 ≤ (a + (2 ^ 5))) : c ≤ (1000 + (100 * (b + 1))) := by exact Nat.le_trans (Nat.le_of_succ_le h1) (Nat.le_trans (Nat.add_le_add_right h0 _) (by rw [Nat.mul_succ, Nat.add_assoc]; exact Nat.add_le_add_left (Nat.add_le_add_left (by decide) _) _))
theorem Qyu {n0 : Nat} (h0 : (0 : Nat) < n0) : (0 : Int) < (n0 : Int) := by exact Int.natCast_pos.mpr h0
theorem Qyt (h0 : u = v) (h1 : (0 : Int) ≤ v) (h2 : v < (c : Int)) : Int.toNat u < c := by rw [h0]; exact (Int.toNat_lt h1).mpr h2
theorem Qys (h0 : u = v) (h1 : (0 : Int) ≤ v) : u = (((Int.toNat u) : Nat) : Int) := by rw [h0]; exact (Int.toNat_of_nonneg h1).symm
theorem Qyr {n0 n1 : Nat} : (((((n0 + n1) : Nat) : Int) - (n1 : Int)) : Int) = (n0 : Int) := by exact Int.sub_eq_iff_eq_add.mpr rfl
theorem Qsz {n0 : Nat} : ((Int.toNat ((n0 : Int) / 2)) : Nat) = (n0 / 2) := by exact Nat.add_zero (n0.div 2)
theorem Qyq {n0 : Nat} (h0 : ((n0 % 2) : Nat) = 0) : (((n0 : Int) % 2) : Int) = 0 := by exact Int.natAbs_eq_zero.mp h0
theorem Qyp {n0 : Nat} (h0 : ((n0 % 2) : Nat) = 1) : (((n0 : Int) % 2) : Int) = 1 := by exact Eq.symm (Nat.ToInt.of_eq rfl rfl (id (Eq.symm h0)))
theorem Qqd {n0 : Nat} (h0 : n0 < 10) : ((n0 : Int) : Int) < 10 := by exact Int.lt_toNat.mp h0
theorem Qyo (h0 : u < ((5 : Nat) : Int)) : Int.toNat u < 5 := (Int.toNat_lt' (by decide)).mpr h0
theorem Qyn (h0 : u = (b : Int)) (h1 : u = (c : Int)) : b = c := by lia
theorem Qym {z0 : Int} (h0 : ¬ (z0 = 1)) : ¬ ((1 : Int) = z0) := by exact Ne.intro fun a => h0 (id (Eq.symm a))
theorem Qyl (h0 : a ≤ 32) : a ≤ 1000 := by lia
theorem Qsx {n0 : Nat} (h0 : (((n0 : Int) % 2) : Int) = 0) : ((n0 % 2) : Nat) = 0 := by exact Int.ofNat_eq_zero.mp h0
theorem Ql8 {n0 : Nat} (h0 : n0 < 10) : ((n0 / 2) : Nat) < 5 := by exact Nat.div_lt_of_lt_mul h0
theorem Qsw {n0 : Nat} : (0 : Int) ≤ ((n0 : Int) / 2) := by exact Int.zero_le_ofNat (n0 / 2)
theorem Qsv (h0 : a < 10) : (a : Int) / 2 < (2 ^ 63) := Int.lt_of_le_of_lt (Int.ediv_le_self _ (Int.natCast_nonneg a)) (Int.lt_trans (Int.ofNat_lt.mpr h0) (by decide))
theorem Qsu (h0 : ¬ ((a : Int) % 2 = 0)) : a % 2 = 1 := by lia
theorem Qyk (h0 : a = 0) : a = 0 := by kd_p
theorem Qyi {n0 : Nat} (h0 : ((n0 : Int) : Int) = 1) : n0 = 1 := by exact Eq.symm ((fun {m n} => Int.ofNat_inj.mp) (id (Eq.symm h0)))
theorem Qyh (h0 : a < 3) (h1 : ¬ (a = 0)) (h2 : ¬ ((a : Int) = 1)) : a = 2 := by lia
theorem Qst (h0 : a < 3) : (a : Int) < (2 ^ 63) := by kd_p
theorem Qyg {n0 : Nat} (h0 : n0 ≤ 3) (h1 : ¬ (n0 = 3)) : n0 < 3 := by exact Nat.lt_of_le_of_ne h0 h1
theorem Qss (h0 : a ≤ 3) : a + 1 ≤ 1000 := by lia
theorem Qsr (h0 : a ≤ 3) (h1 : b = a) : b ≤ 1000000 := by lia
theorem Qsq (h0 : a = (3 - b)) (h1 : b ≤ 3) (h2 : ¬ (b = 3)) : 3 - (b + 1) < a := by rw [h0, ← Nat.sub_sub]; exact Nat.sub_one_lt (Nat.sub_ne_zero_of_lt (Nat.lt_of_le_of_ne h1 h2))
theorem Qsp (h0 : a ≤ 3) (h1 : ¬ (a = 3)) : a + 1 ≤ 3 := by lia
theorem Qyf (h0 : a ≤ 63) (h1 : b = a) : b ≤ 1000000 := by lia
theorem Qye {n0 : Nat} : ((min 2 n0) : Nat) ≤ 2 := by exact Nat.min_le_left 2 n0
theorem Qyc (h0 : a ≤ 2) : a + (0 + 1) ≤ 1000000 := by lia
theorem Qyb {n0 : Nat} (h0 : n0 ≤ 2) : ((n0 + (0 + 1)) : Nat) ≤ 3 := by exact Nat.succ_le_succ h0
theorem Qya {n0 n1 : Nat} (h0 : n0 = n1) : n1 ≤ n0 := by exact Nat.le_of_eq (id (Eq.symm h0))
theorem Qx9 (h0 : a ≤ 3) (h1 : b = c) (h2 : c = a) : b ≤ 100 := by lia
theorem Qx8 {n0 : Nat} : (40000 : Nat) ≤ (40000 + (2000 * (3 - n0))) := by exact Nat.le_add_right 40000 (2000 * (3 - n0))
theorem Qx7 (h0 : a ≤ 3) (h1 : b = c) (h2 : c < a) (h3 : d = b) : d ≤ 1000000 := by lia
theorem Qx6 : (1000 : Nat) ≤ (40000 + (2000 * (3 - a))) := by lia
theorem Qx5 (h0 : a ≤ 3) (h1 : b = (3 - c)) (h2 : c < a) : 3 - (c + 1) < b := by rw [h1]; exact Nat.sub_lt_sub_left (Nat.lt_of_lt_of_le h2 h0) (Nat.lt_succ_self c)
theorem Qx4 (h0 : a ≤ 3) (h1 : b < a) : 1000 + (40000 + (2000 * (3 - (b + 1)))) ≤ (40000 + (2000 * (3 - b))) := by have h := Nat.lt_of_lt_of_le h1 h0; clear h0 h1; revert b; decide
theorem Qx3 {z0 : Int} (h0 : z0 = (5 - ((5 : Nat) : Int))) : z0 ≤ 0 := by exact Int.le_of_eq h0
theorem Qso (h0 : a ≤ 5) (h1 : ¬ (a = 5)) : a < 5 := Nat.lt_of_le_of_ne h0 h1
theorem Qx2 (h0 : u = (5 - (b : Int))) (h1 : b < 5) : (0 : Int) < u := by kd_p
theorem Qsn (h0 : u = (4 - (b : Int))) (h1 : b < 5) : (0 : Int) ≤ u := by rw [h0]; exact Int.sub_nonneg_of_le (Int.ofNat_le.mpr (Nat.le_of_lt_succ h1))
theorem Qx1 (h0 : a < 5) : (65 * a) + 1 ≤ 60000 := Nat.le_trans (Nat.add_le_add_right (Nat.mul_le_mul_left 65 (Nat.le_of_lt h0)) 1) (by decide)
theorem Qx0 (h0 : a < 5) : ((65 * a) + 1) + 64 ≤ 60000 := by lia
theorem Qxz (h0 : u = (4 - (b : Int))) (h1 : b < 5) : u = (((4 - b) : Nat) : Int) := by rw [h0]; exact (Int.ofNat_sub (Nat.le_of_lt_succ h1)).symm
theorem Qxy (h0 : u = (4 - (b : Int))) : u < (2 ^ 63) := by kd_p
theorem Qsm (h0 : a = (5 - b)) (h1 : b < 5) : 5 - (b + 1) < a := by rw [h0]; exact Nat.sub_lt_sub_left h1 (Nat.lt_succ_self b)
theorem Qxx (h0 : u % 5 = (b : Int)) : ((c : Int) + u) % 5 = ((((c + b) % 5) : Nat) : Int) := by rw [← Int.add_emod_emod, h0]; rfl
theorem Qxw (h0 : a < 5) : (0 : Int) < (5 - (a : Int)) := Int.sub_pos_of_lt (Int.ofNat_lt.mpr h0)
theorem Qxv (h0 : a < 5) : a ≤ 10 := by lia
theorem Qxu : (5 - (a : Int)) - 1 = (5 - ((a : Int) + 1)) := by lia
theorem Qxt : ((((u = 101) ∨ (((u = 102) ∨ (((u = 103) ∨ (((u = 104) ∨ (u = 105))))))))) ↔ ((((101 : Int) ≤ u) ∧ (u < (101 + ((5 : Nat) : Int)))))) := akE
theorem Qsl (h0 : a = b) (h1 : c + b = (((((0 + 1) + 1) + 1) + 1) + 1)) : a < (2 ^ 60) := by kd_p
theorem Qxs (h0 : a + b = (((((0 + 1) + 1) + 1) + 1) + 1)) (h1 : c < b) : c < 1000000 := Nat.lt_trans h1 (Nat.lt_of_le_of_lt (Nat.le_trans (Nat.le_add_left b a) (Nat.le_of_eq h0)) (by decide))
theorem Qxr (h0 : a = b) (h1 : c + b = (((((0 + 1) + 1) + 1) + 1) + 1)) : a ≤ 1000000 := by lia
theorem Qxq (h0 : a = b) (h1 : b + c = (((((0 + 1) + 1) + 1) + 1) + 1)) : a ≤ 1000000 := by lia
theorem Qxp (h0 : a < b) : (b : Int) ≠ 0 := by kd_p
theorem Qxo (h0 : a + b = (((((0 + 1) + 1) + 1) + 1) + 1)) : Int.natAbs (b : Int) < 1073741824 := Nat.lt_of_le_of_lt (Nat.le_trans (Nat.le_add_left b a) (Nat.le_of_eq h0)) (by decide)
theorem Qxn (h0 : a = b) (h1 : c < b) : b - 1 < a := by rw [h0]; exact Nat.sub_one_lt_of_lt h1
theorem Qxm {n0 n1 : Nat} (h0 : n0 = 5) (h1 : n1 < 5) : n1 < n0 := by exact Nat.lt_of_lt_of_eq h1 (id (Eq.symm h0))
theorem Qsk (h0 : a ≤ 63) (h1 : b = a) : b < (2 ^ 60) := by kd_p
theorem Qxl {n0 : Nat} (h0 : n0 < 3) : n0 ≤ 2 := by exact Nat.le_of_lt_succ h0
end
end Mine
end
section
namespace Mine
theorem Qa1 {M : Model} {A : Around} {E : Value → Shared → Prop} {s : Shared} {α : Type} {c : Prop} [Decidable c] {m m' : Sem α} {Q : α → Shared → Prop} (h : ¬ c) (k : wpAny M A m' Q E s) : wpAny M A (if c then m else m') Q E s := by rw [if_neg h]; exact k
theorem Qb0 {M : Model} {A : Around} {E : Value → Shared → Prop} {s : Shared} {α : Type} {c : Prop} [Decidable c] {m m' : Sem α} {Q : α → Shared → Prop} (h : c) (k : wpAny M A m Q E s) : wpAny M A (if c then m else m') Q E s := by rw [if_pos h]; exact k
noncomputable abbrev Led := List (Addr × Obj)
noncomputable abbrev Loc := Str → Option Value
noncomputable abbrev Vals := List (Option Value)
abbrev MQ := Value × List Value → Vals → Led → Prop
abbrev OQ := Option Value → Vals → Led → Prop
abbrev LQ := List Value → Vals → Led → Prop
abbrev VQ := Value → Vals → Led → Prop
abbrev FQ := Flow → Vals → Led → Prop
abbrev BQ := Bool → Vals → Led → Prop
abbrev UQ := Unit → Vals → Led → Prop
theorem mr {α : Type} {a : α} {l r : List α} (h : a ∈ r) : a ∈ l ++ r := List.mem_append_right l h
theorem sA {α : Type} {l a b : List α} (h : a.Sublist b) : (l ++ a).Sublist (l ++ b) := List.Sublist.append (List.Sublist.refl l) h
theorem sB {α : Type} {x : α} {a b : List α} (h : a.Sublist b) : (x :: a).Sublist (x :: b) := List.Sublist.cons₂ x h
theorem sC {α : Type} {x : α} {a b : List α} (h : a.Sublist b) : a.Sublist (x :: b) := List.Sublist.cons x h
theorem sD {α : Type} {x : α} {a : List α} : a.Sublist (x :: a) := List.sublist_cons_self x a
noncomputable def fr : List Str → Vals → Loc
 | n :: ns, v :: vs => fun x => if x = n then v else fr ns vs x
 | _, _ => fun _ => none
theorem Qjq : ∀ {nm : List Str} {vals : Vals} {i : Nat} {x : Str} {v : Option Value}, nm.Nodup → nm[i]? = some x → vals[i]? = some v → fr nm vals x = v
 | [], _, _, _, _, _, h, _ => by simp at h
 | _ :: _, [], _, _, _, _, _, h => by simp at h
 | n :: ns, w :: vs, 0, x, v, _, h, hv => by
  simp only [List.getElem?_cons_zero, Option.some.injEq] at h hv
  subst h hv; simp [fr]
 | n :: ns, w :: vs, i + 1, x, v, nd, h, hv => by
  simp only [List.getElem?_cons_succ] at h hv
  have hne : x ≠ n := fun e => (List.nodup_cons.mp nd).1 (e ▸ List.mem_of_getElem? h)
  simp only [fr, if_neg hne]
  exact Qjq (List.nodup_cons.mp nd).2 h hv
theorem Qls : ∀ {nm : List Str} {vals : Vals} {i : Nat} {x : Str} {v : Value}, nm.Nodup → nm[i]? = some x → i < vals.length →
  (fun y => if y = x then some v else fr nm vals y) = fr nm (vals.set i (some v))
 | [], _, _, _, _, _, h, _ => by simp at h
 | _ :: _, [], _, _, _, _, _, h => by simp at h
 | n :: ns, w :: vs, 0, x, v, _, h, _ => by
  simp only [List.getElem?_cons_zero, Option.some.injEq] at h
  subst h; funext y
  simp only [fr, List.set_cons_zero]
  split <;> rfl
 | n :: ns, w :: vs, i + 1, x, v, nd, h, hl => by
  simp only [List.getElem?_cons_succ] at h
  have hne : x ≠ n := fun e => (List.nodup_cons.mp nd).1 (e ▸ List.mem_of_getElem? h)
  funext y
  have ih := congrFun (Qls (v := v) (List.nodup_cons.mp nd).2 h (Nat.lt_of_succ_lt_succ hl)) y
  simp only [fr, List.set_cons_succ]
  by_cases hy : y = n
  ·subst hy; simp [hne.symm]
  ·simp only [if_neg hy]; rw [← ih]
noncomputable def bv (bs : List (Str × Value)) (k : Nat) : Vals := bs.map (fun b => some b.2) ++ List.replicate k none
theorem Qdt : ∀ (nm : List Str) (k : Nat) (x : Str), fr nm (List.replicate k none) x = none
 | [], _, _ => rfl
 | _ :: _, 0, _ => rfl
 | n :: ns, k + 1, x => by
  simp only [List.replicate_succ, fr]
  split
  ·rfl
  ·exact Qdt ns k x
theorem Qhc : ∀ (bs : List (Str × Value)) (rest : List Str) (x : Str), fr (bs.map (·.1) ++ rest) (bv bs rest.length) x = bs.lookup x
 | [], rest, x => by simp [bv, Qdt]
 | b :: bs, rest, x => by
  have := Qhc bs rest x
  simp only [bv, List.map_cons, List.cons_append, fr] at this ⊢
  rw [List.lookup_cons]
  by_cases h : x = b.1
  ·simp [h]
  ·have : (x == b.1) = false := by simp [h]
   simp [h, this]; assumption
theorem Qde (x : Str) : ∀ (a c : List (Str × Value)), (a ++ c).lookup x = (a.lookup x).or (c.lookup x)
 | [], _ => by simp
 | p :: a, c => by
  rw [List.cons_append, List.lookup_cons, List.lookup_cons]
  cases h : x == p.1 with
  | true => simp
  | false => simpa using Qde x a c
theorem Qdd {x : Str} : ∀ {bs : List (Str × Value)}, x ∉ bs.map (·.1) → bs.lookup x = none
 | [], _ => rfl
 | b :: bs, h => by
  have h1 : ¬ x = b.1 := fun e => h (by simp [e])
  have h2 : x ∉ bs.map (·.1) := fun e => h (by simp only [List.map_cons, List.mem_cons]; exact .inr e)
  have : (x == b.1) = false := by simp [h1]
  rw [List.lookup_cons, this]; exact Qdd h2
theorem Qf0 : ∀ (bs : List (Str × Value)) (x : Str), (bs.map (·.1)).Nodup → bs.reverse.lookup x = bs.lookup x
 | [], _, _ => rfl
 | (k, v) :: bs, x, nd => by
  rw [List.reverse_cons, Qde]
  rw [List.map_cons, List.nodup_cons] at nd
  rw [Qf0 bs x nd.2, List.lookup_cons, List.lookup_cons]
  cases h : x == k with
  | true =>
   have e : x = k := by simpa using h
   have : bs.lookup x = none := by
    refine Qdd ?_
    rw [e]; exact nd.1
   rw [this]; rfl
  | false => cases bs.lookup x <;> rfl
theorem Qgl {bs : List (Str × Value)} {rest nm : List Str} (h : bs.map (·.1) ++ rest = nm) (nd : nm.Nodup) : (fun x => bs.reverse.lookup x) = fr nm (bv bs rest.length) := by
 funext x
 subst h
 rw [Qhc, Qf0]
 exact (List.nodup_append.mp nd).1
structure Wd where
 prog : Program
 w : World
 p : Program
 lo : List Str
 mg : Loc
 mb : Loc
structure Nm where
 loc : List Str
 glo : List Str
structure ScOk (names : List (Str × NameKind)) (nm gl : List Str) : Prop where
 nd : nm.Nodup
 loc : ∀ x ∈ nm, names.lookup x = some .local ∧ (x == ("__debug__" : Str)) = false
 glo : ∀ x ∈ gl, names.lookup x = some .globalImplicit ∧ (x == ("__debug__" : Str)) = false
theorem Qah {names : List (Str × NameKind)} {nm gl : List Str}
  (h : (decide nm.Nodup && nm.all (fun x => names.lookup x == some .local && (x == ("__debug__" : Str)) == false) && gl.all (fun x => names.lookup x == some .globalImplicit && (x == ("__debug__" : Str)) == false)) = true) : ScOk names nm gl := by
 simp only [Bool.and_eq_true, List.all_eq_true, beq_iff_eq, decide_eq_true_eq] at h
 exact ⟨h.1.1, fun x hx => h.1.2 x hx, fun x hx => h.2 x hx⟩
structure EnvIs (env : Env) (L : Addr) : Prop where
 loc : env.locals = L
 kind : env.scope.kind = .function
 glob : env.globals = mainGlobals
 bi : env.builtins = builtinsNs
structure Frm (K : Params → Frag) (N : Nm) (W : Wd) where
 h : Heap
 L : Addr
 X : (K W.w.params).In h
 T : TopRead W.p W.lo W.mg W.mb h
 A : Around
 env : Env
 e : EnvIs env L
 sc : ScOk env.scope.names N.loc N.glo
structure Room (A : Around) (n : Nat) : Prop where
 hh : A.handled = none
 d : A.depth + n < recursionLimit
 u : A.units + 8 * n < cLine
theorem Room.deeper {A : Around} {n : Nat} {env : Env} (r : Room A (n + 1)) : Room (A.deeper env) n := by
 obtain ⟨a, b, c⟩ := r
 refine ⟨a, ?_, ?_⟩
 ·show A.depth + 1 + n < recursionLimit
  exact ar0 b
 ·show A.units + 3 + 8 * n < cLine
  exact ar1 c
theorem Room.less {A : Around} {n m : Nat} (r : Room A n) (h : m ≤ n) : Room A m := ⟨r.hh, by have := r.d; exact ar2 h this, by have := r.u; exact ar3 h this⟩
section
variable {K : Params → Frag} {N : Nm} {W : Wd}
structure At (Ψ : Frm K N W) (vals : Vals) (l : Led) (s : Shared) : Prop where
 F : Fr Ψ.h Ψ.L s.heap (fr N.loc vals)
 N : News Ψ.h Ψ.L s.heap l
 U : (l.map (·.1)).Nodup
 G : ∀ x ∈ l, 2 < x.1
noncomputable def Same (s s' : Shared) : Prop := s'.gens = s.gens ∧ s'.os = s.os
theorem Same.refl (s : Shared) : Same s s := ⟨rfl, rfl⟩
theorem Same.trans {a b c : Shared} (x : Same a b) (y : Same b c) : Same a c := ⟨y.1.trans x.1, y.2.trans x.2⟩
noncomputable def WA {α : Type} {K : Params → Frag} {N : Nm} {W : Wd} (Ψ : Frm K N W) (T : Sem α) (Q : α → Vals → Led → Prop) (vals : Vals) (l : Led) : Prop :=
 ∀ (E : Value → Shared → Prop) (s : Shared), At Ψ vals l s → wpAny (model W.prog W.w) Ψ.A T (fun v s' => Same s s' ∧ ∃ vals' l', At Ψ vals' l' s' ∧ Q v vals' l') E s
variable {α β : Type} {Ψ : Frm K N W} {vals : Vals} {l : Led}
theorem WA.use {T : Sem α} {Q : α → Vals → Led → Prop} {P : α → Shared → Prop} {E : Value → Shared → Prop} {s : Shared} (h : WA Ψ T Q vals l) (a : At Ψ vals l s)
  (k : ∀ v s' vals' l', Same s s' → At Ψ vals' l' s' → Q v vals' l' → P v s') : wpAny (model W.prog W.w) Ψ.A T P E s :=
 wpAny_mono (h E s a) (fun v s' ⟨S, v', l', a', q⟩ => k v s' v' l' S a' q) fun _ _ e => e
theorem WA.pure {v : α} {Q : α → Vals → Led → Prop} (q : Q v vals l) : WA Ψ (Pure.pure v) Q vals l := fun _ s a => wpAny_pure ⟨Same.refl s, vals, l, a, q⟩
theorem WA.bind {T : Sem α} {f : α → Sem β} {Q : β → Vals → Led → Prop} (h : WA Ψ T (fun v vals l => WA Ψ (f v) Q vals l) vals l) : WA Ψ (T >>= f) Q vals l :=
 fun _ _ a => wpAny_bind (h.use a fun _ _ _ _ S a' q => WA.use q a' fun _ _ v' l' S' a'' q' => ⟨S.trans S', v', l', a'', q'⟩)
theorem WA.mono {T : Sem α} {Q Q' : α → Vals → Led → Prop} (h : WA Ψ T Q vals l) (k : ∀ v vals' l', Q v vals' l' → Q' v vals' l') : WA Ψ T Q' vals l :=
 fun _ _ a => h.use a fun v _ v' l' S a' q => ⟨S, v', l', a', k v v' l' q⟩
theorem WA.map {T : Sem α} {f : α → β} {Q : β → Vals → Led → Prop} (h : WA Ψ T (fun v vals l => Q (f v) vals l) vals l) : WA Ψ (f <$> T) Q vals l :=
 fun _ _ a => wpAny_map (h.use a fun _ _ v' l' S a' q => ⟨S, v', l', a', q⟩)
theorem WA.same {T : Sem α} {v : Tok → α} {Q : α → Vals → Led → Prop} (q : ∀ t, Q (v t) vals l)
  (r : ∀ (E : Value → Shared → Prop) (P : α → Shared → Prop) (s : Shared), At Ψ vals l s → (∀ t tk, P (v t) { s with toks := tk }) → wpAny (model W.prog W.w) Ψ.A T P E s) : WA Ψ T Q vals l :=
 fun E s a => r E _ s a fun t _ => ⟨⟨rfl, rfl⟩, vals, l, ⟨a.F, a.N, a.U, a.G⟩, q t⟩
theorem WA.holding {vs : List Value} {T : Sem α} {Q : α → Vals → Led → Prop} (h : WA Ψ T Q vals l) : WA Ψ (holding vs T) Q vals l := fun E s a => wpAny_holding (h E s a)
theorem WA.standAt {pos : Pos} {Q : UQ} (q : Q () vals l) : WA Ψ (standAt pos) Q vals l := fun _ s a => wpAny_standAt ⟨Same.refl s, vals, l, a, q⟩
theorem Qd1 {Q : UQ} (q : Q () vals l) : WA Ψ point Q vals l := fun _ s a => wpAny_point ⟨Same.refl s, vals, l, a, q⟩
theorem Qdz {keep : List Value} {Q : UQ} (q : Q () vals l) : ∀ vs, WA Ψ (release.go keep vs) Q vals l
 | [] => WA.pure q
 | [_] => WA.pure q
 | _ :: b :: r => WA.bind (WA.holding (Qd1 (Qdz q (b :: r))))
theorem WA.release {vs keep : List Value} {Q : UQ} (q : Q () vals l) : WA Ψ (release vs keep) Q vals l := Qdz q _
theorem WA.operate {vs : List Value} {T : Sem Value} {Q : VQ} (h : WA Ψ T Q vals l) : WA Ψ (operate vs T) Q vals l :=
 WA.bind (WA.mono (WA.holding h) fun _ _ _ q => WA.bind (WA.release (WA.pure q)))
theorem At.sub {l' : Led} {s : Shared} (a : At Ψ vals l s) (h : ∀ x ∈ l', x ∈ l) (u : (l'.map (·.1)).Nodup) : At Ψ vals l' s := ⟨a.F, fun x hx => a.N x (h x hx), u, fun x hx => a.G x (h x hx)⟩
theorem WA.sub {T : Sem α} {Q : α → Vals → Led → Prop} (l' : Led) (h : ∀ x ∈ l', x ∈ l) (u : (l.map (·.1)).Nodup → (l'.map (·.1)).Nodup) (q : WA Ψ T Q vals l') : WA Ψ T Q vals l :=
 fun E s a => q E s (a.sub h (u a.U))
theorem WA.perm {T : Sem α} {Q : α → Vals → Led → Prop} (l' : Led) (h : l'.Perm l) (q : WA Ψ T Q vals l') : WA Ψ T Q vals l :=
 WA.sub l' (fun _ hx => h.mem_iff.mp hx) (fun u => (h.map _).nodup_iff.mpr u) q
theorem Quu {T : Sem α} {Q : α → Vals → Led → Prop} (l' : Led) (h : l' = l) (q : WA Ψ T Q vals l') : WA Ψ T Q vals l := h ▸ q
theorem WA.sublist {T : Sem α} {Q : α → Vals → Led → Prop} (l' : Led) (h : l'.Sublist l) (q : WA Ψ T Q vals l') : WA Ψ T Q vals l :=
 WA.sub l' (fun _ hx => h.subset hx) (fun u => List.Nodup.sublist (h.map _) u) q
theorem Qbd {T : Sem α} {Q : α → Vals → Led → Prop} (h : WA Ψ T (fun v vals l => ∃ l', l'.Sublist l ∧ Q v vals l') vals l) : WA Ψ T Q vals l :=
 fun _ _ a => h.use a fun _ _ v' _ S a' ⟨l'', sl, q⟩ => ⟨S, v', l'', a'.sub (fun _ hx => sl.subset hx) (List.Nodup.sublist (sl.map _) a'.U), q⟩
theorem Qos {T : Sem α} {Q : α → Vals → Led → Prop} (h : (l.map (·.1)).Nodup → WA Ψ T Q vals l) : WA Ψ T Q vals l := fun E s a => h a.U E s a
theorem At.push {s : Shared} {o : Obj} {tk : Nat} (a : At Ψ vals l s) (ho : o.isFreed = false := by rfl) : At Ψ vals ((s.heap.objs.size, o) :: l) { s with heap := s.heap.push o, toks := tk } :=
 ⟨a.F.push o, a.N.push a.F o ho, by
  rw [List.map_cons, List.nodup_cons]
  refine ⟨fun h => ?_, a.U⟩
  obtain ⟨x, hx, e⟩ := List.mem_map.mp h
  exact absurd (Heap.lt_size (a.N x hx).1) (by rw [e]; exact Nat.lt_irrefl _), fun x hx => by
  rcases List.mem_cons.mp hx with rfl | hx
  ·obtain ⟨_, h, _⟩ := Ψ.T.nolimit.keeps a.F.keep
   exact h.lt
  ·exact a.G x hx⟩
theorem At.upd {s : Shared} {pre post : Led} {x : Addr} {o o' : Obj} {h' : Heap} {tk : Nat} (a : At Ψ vals (pre ++ (x, o) :: post) s) (hs : Heap.SameBut x s.heap h') (ho : h'.get? x = some o') :
  At Ψ vals (pre ++ (x, o') :: post) { s with heap := h', toks := tk } := by
 have hx := a.N (x, o) (mr (.head _))
 have hU := a.U
 rw [List.map_append, List.map_cons, List.nodup_append, List.nodup_cons] at hU
 have ne : ∀ q ∈ pre ++ post, q.1 ≠ x := by
  intro q hq e
  rcases List.mem_append.mp hq with h | h
  ·exact hU.2.2 q.1 (List.mem_map_of_mem h) x (.head _) e
  ·exact hU.2.1.1 (List.mem_map.mpr ⟨q, h, e⟩)
 refine ⟨⟨a.F.ns.sameBut hs (Ne.symm hx.2.1), fun b ob e => (hs.2 b fun q => ?_).trans (a.F.keep b ob e), a.F.above⟩, fun q hq => ?_, ?_, ?_⟩
 ·rw [q, hx.2.2] at e; cases e
 ·rcases List.mem_append.mp hq with h | h
  ·have n := a.N q (List.mem_append_left _ h)
   exact ⟨(hs.2 _ (ne q (List.mem_append_left _ h))).trans n.1, n.2⟩
  ·rcases List.mem_cons.mp h with rfl | h
   ·exact ⟨ho, hx.2⟩
   ·have n := a.N q (mr (.tail _ h))
    exact ⟨(hs.2 _ (ne q (mr h))).trans n.1, n.2⟩
 ·have hU := a.U
  simpa only [List.map_append, List.map_cons] using hU
 ·intro q hq
  rcases List.mem_append.mp hq with h | h
  ·exact a.G q (List.mem_append_left _ h)
  ·rcases List.mem_cons.mp h with rfl | h
   ·exact a.G (x, o) (mr (.head _))
   ·exact a.G q (mr (.tail _ h))
theorem At.setLoc {s : Shared} {vals' : Vals} {h' : Heap} {tk : Nat} (a : At Ψ vals l s) (hn : h'.Ns Ψ.L (fr N.loc vals')) (hs : Heap.SameBut Ψ.L s.heap h') : At Ψ vals' l { s with heap := h', toks := tk } :=
 ⟨a.F.set hn hs, a.N.set hs, a.U, a.G⟩
theorem Qq2 {x : Str} {pos : Pos} {i : Nat} {v : Value} {Q : VQ} (hk : Ψ.env.kindOf x = some .local ∧ (x == ("__debug__" : Str)) = false) (hi : N.loc[i]? = some x) (hv : vals[i]? = some (some v)) (q : Q v vals l) :
  WA Ψ (eval (.Name x pos) Ψ.env) Q vals l := fun _ s a =>
 wpAny_Name (wpAny_loadName_local Ψ.e.kind hk.1 (Ψ.e.loc ▸ a.F.ns) (Qjq Ψ.sc.nd hi hv) ⟨Same.refl s, vals, l, a, q⟩) hk.2
theorem Qon {x : Str} {i : Nat} {v : Value} {Q : UQ} {vals' : Vals} (hk : Ψ.env.kindOf x = some .local ∧ (x == ("__debug__" : Str)) = false) (hi : N.loc[i]? = some x) (hl : i < vals.length) (hs : vals.set i (some v) = vals') (q : Q () vals' l) :
  WA Ψ (storeName Ψ.env x v) Q vals l := fun _ s a => by
 refine wpAny_storeName_local hk.1 (Ψ.e.loc ▸ a.F.ns) (fun h' hn hb => ?_) (by rw [Ψ.e.kind]; rfl)
 rw [Ψ.e.loc] at hn hb
 rw [Qls Ψ.sc.nd hi hl, hs] at hn
 exact ⟨⟨rfl, rfl⟩, vals', l, a.setLoc hn hb, q⟩
theorem WA.bindName {x : Str} {i : Nat} {v : Value} {Q : UQ} {vals' : Vals} (hk : Ψ.env.kindOf x = some .local ∧ (x == ("__debug__" : Str)) = false) (hi : N.loc[i]? = some x) (hl : i < vals.length) (hs : vals.set i (some v) = vals') (q : Q () vals' l) :
  WA Ψ (bindName Ψ.env x v) Q vals l :=
 WA.bind (WA.holding (Qd1 (WA.bind (Qon hk hi hl hs (Qd1 q)))))
noncomputable def GlobIs (K : Frag) (x : Str) (v : Value) : Prop := nsIn K mainGlobals x = some (some v) ∨ (nsIn K mainGlobals x = some none ∧ bootBuiltins x = some v ∧ x ≠ "__name__")
theorem WA.glob {x : Str} {pos : Pos} {v : Value} {Q : VQ} (hk : Ψ.env.kindOf x = some .globalImplicit ∧ (x == ("__debug__" : Str)) = false) (g : GlobIs (K W.w.params) x v) (q : Q v vals l) :
  WA Ψ (eval (.Name x pos) Ψ.env) Q vals l := fun _ s a => by
 refine Name_function_global Ψ.e.kind hk.1 ?_ hk.2
 have G : s.heap.Ns Ψ.env.globals W.mg := Ψ.e.glob ▸ Ψ.T.g.keeps a.F.keep
 rcases g with g | ⟨g1, g2, g3⟩
 ·exact loadGlobal_global G (mg_of Ψ.X Ψ.T.g g) ⟨Same.refl s, vals, l, a, q⟩
 ·exact loadGlobal_builtin G (mg_none_of Ψ.X Ψ.T.g g1) (Ψ.e.bi ▸ Ψ.T.b.keeps a.F.keep) ((Ψ.T.builtins x g3).trans g2) ⟨Same.refl s, vals, l, a, q⟩
theorem Yc {i : Int} {k : Nat} {pos : Pos} {Q : VQ} (q : ∀ t, Q (.int i t) vals l) : WA Ψ (eval (.Constant (.int i) k pos) Ψ.env) Q vals l :=
 WA.same q fun _ _ _ _ h => wpAny_mkInt (h _ _)
theorem Yd {x : Str} {k : Nat} {pos : Pos} {Q : VQ} (q : ∀ t, Q (.str x t) vals l) : WA Ψ (eval (.Constant (.str x) k pos) Ψ.env) Q vals l :=
 WA.same q fun _ _ _ _ h => wpAny_mkText (h _ _)
theorem Zd {k : Nat} {pos : Pos} {Q : VQ} (q : Q .none vals l) : WA Ψ (eval (.Constant .none k pos) Ψ.env) Q vals l := WA.pure q
theorem Ze {b : Bool} {k : Nat} {pos : Pos} {Q : VQ} (q : Q (.bool b) vals l) : WA Ψ (eval (.Constant (.bool b) k pos) Ψ.env) Q vals l := WA.pure q
theorem Qov {x y : Expr} {op : Operator} {pos : Pos} {Q : VQ}
  (h : WA Ψ (eval x Ψ.env) (fun a vals l => WA Ψ (eval y Ψ.env) (fun b vals l => WA Ψ (binaryOp op a b) Q vals l) vals l) vals l) : WA Ψ (eval (.BinOp x op y pos) Ψ.env) Q vals l :=
 WA.bind (h.mono fun _ _ _ h' => WA.bind (WA.holding (h'.mono fun _ _ _ h'' => WA.bind (WA.standAt (WA.operate h'')))))
theorem Qqw {x : Expr} {op : UnaryOp} {pos : Pos} {Q : VQ} (h : WA Ψ (eval x Ψ.env) (fun a vals l => WA Ψ (unaryOp op a) Q vals l) vals l) : WA Ψ (eval (.UnaryOp op x pos) Ψ.env) Q vals l :=
 WA.bind (h.mono fun _ _ _ h' => WA.bind (WA.standAt (WA.holding h')))
theorem Qor {t x y : Expr} {pos : Pos} {Q : VQ}
  (h : WA Ψ (isTrue t Ψ.env (eval t Ψ.env)) (fun b vals l => if b = true then WA Ψ (eval x Ψ.env) Q vals l else WA Ψ (eval y Ψ.env) Q vals l) vals l) : WA Ψ (eval (.IfExp t x y pos) Ψ.env) Q vals l :=
 WA.bind (h.mono fun b _ _ h' => by cases b <;> simpa using h')
theorem Quv {x y : Expr} {op : CmpOp} {pos : Pos} {Q : VQ} (hm : behindInMarks op y = false)
  (h : WA Ψ (eval x Ψ.env) (fun a vals l => WA Ψ (eval y Ψ.env) (fun b vals l => WA Ψ (compareOp op a b) Q vals l) vals l) vals l) : WA Ψ (eval (.Compare x [op] [y] pos) Ψ.env) Q vals l := by
 refine WA.bind (h.mono fun _ _ _ h' => ?_)
 have e : markedEach [op] [y] (evalEach [y] Ψ.env) = [eval y Ψ.env] := by
  show [markedBehindIn op y (eval y Ψ.env)] = _
  rw [markedBehindIn_of_false]
  exact hm
 rw [e]
 exact WA.bind (WA.holding (h'.mono fun _ _ _ h'' => WA.bind (WA.standAt (WA.operate h''))))
theorem Qqy {x y : Expr} {op : CmpOp} {pos : Pos} {whole : Sem Value} {Q : BQ} (hm : behindInMarks op y = false)
  (h : WA Ψ (eval x Ψ.env) (fun a vals l => WA Ψ (eval y Ψ.env) (fun b vals l => WA Ψ (compareOp op a b) (fun c vals l => WA Ψ (truthy c) Q vals l) vals l) vals l) vals l) : WA Ψ (isTrue (.Compare x [op] [y] pos) Ψ.env whole) Q vals l := by
 refine WA.bind (h.mono fun _ _ _ h' => ?_)
 have e : markedEach [op] [y] (evalEach [y] Ψ.env) = [eval y Ψ.env] := by
  show [markedBehindIn op y (eval y Ψ.env)] = _
  rw [markedBehindIn_of_false]
  exact hm
 rw [e]
 exact WA.bind (WA.holding (h'.mono fun _ _ _ h'' => WA.bind (WA.standAt (WA.bind (WA.operate (h''.mono fun _ _ _ h3 => WA.holding h3))))))
theorem Qqx {x : Expr} {pos : Pos} {whole : Sem Value} {Q : BQ} (h : WA Ψ (isTrue x Ψ.env (eval x Ψ.env)) (fun b vals l => Q (!b) vals l) vals l) : WA Ψ (isTrue (.UnaryOp .Not x pos) Ψ.env whole) Q vals l :=
 WA.bind (h.mono fun _ _ _ h' => WA.pure h')
theorem Zg {op : BoolOp} {Q : BQ} (q : Q (op == .And) vals l) : WA Ψ (allTrue op [] Ψ.env) Q vals l := WA.pure q
theorem Qm0 {x : Expr} {r : List Expr} {Q : BQ} (h : WA Ψ (isTrue x Ψ.env (eval x Ψ.env)) (fun b vals l => if b = true then WA Ψ (allTrue .And r Ψ.env) Q vals l else Q false vals l) vals l) : WA Ψ (allTrue .And (x :: r) Ψ.env) Q vals l :=
 WA.bind (h.mono fun b _ _ h' => by
  cases b
  ·exact WA.pure (by simpa using h')
  ·simpa using h')
theorem Qox {x : Expr} {r : List Expr} {Q : BQ} (h : WA Ψ (isTrue x Ψ.env (eval x Ψ.env)) (fun b vals l => if b = true then Q true vals l else WA Ψ (allTrue .Or r Ψ.env) Q vals l) vals l) : WA Ψ (allTrue .Or (x :: r) Ψ.env) Q vals l :=
 WA.bind (h.mono fun b _ _ h' => by
  cases b
  ·simpa using h'
  ·exact WA.pure (by simpa using h'))
theorem Qmk {e : Expr} {whole : Sem Value} {Q : BQ} (h : WA Ψ whole (fun v vals l => WA Ψ (truthy v) Q vals l) vals l)
  (he : isTrue e Ψ.env whole = (do let v ← whole; PySem.standAt e.pos; PySem.holding [v] (truthy v)) := by rfl) : WA Ψ (isTrue e Ψ.env whole) Q vals l := by
 rw [he]
 exact WA.bind (h.mono fun _ _ _ h' => WA.bind (WA.standAt (WA.holding h')))
theorem Zr {b : Bool} {Q : BQ} (q : Q b vals l) : WA Ψ (truthy (.bool b)) Q vals l := fun _ s a => wpAny_truthy_bool ⟨Same.refl s, vals, l, a, q⟩
theorem Zs {i : Int} {t : Tok} {Q : BQ} (q : Q (i != 0) vals l) : WA Ψ (truthy (.int i t)) Q vals l := fun _ s a => truthy_int ⟨Same.refl s, vals, l, a, q⟩
section
variable {a b : Int} {t u : Tok} {Q : VQ}
theorem Yq (q : ∀ t, Q (.int (a + b) t) vals l) : WA Ψ (binaryOp .Add (.int a t) (.int b u)) Q vals l := WA.same q fun _ _ _ _ h => add_int (h _ _)
theorem Yt (q : ∀ t, Q (.int (a + b) t) vals l) : WA Ψ (inplaceOp .Add (.int a t) (.int b u)) Q vals l := WA.same q fun _ _ _ _ h => wpAny_iadd_int (h _ _)
theorem Yr (q : ∀ t, Q (.int (a - b) t) vals l) : WA Ψ (binaryOp .Sub (.int a t) (.int b u)) Q vals l := WA.same q fun _ _ _ _ h => sub_int (h _ _)
theorem Qb7 (ok : IntMulOk a b) (q : ∀ t, Q (.int (a * b) t) vals l) : WA Ψ (binaryOp .Mult (.int a t) (.int b u)) Q vals l := WA.same q fun _ _ _ _ h => mul_int (h _ _) ok
theorem Qbi (hb : b ≠ 0) (q : ∀ t, Q (.int (Int.fmod a b) t) vals l) : WA Ψ (binaryOp .Mod (.int a t) (.int b u)) Q vals l := WA.same q fun _ _ _ _ h => mod_int' hb (h _ _)
theorem Qcm (q : ∀ t, Q (.int (Builtin.bitAnd a b) t) vals l) : WA Ψ (binaryOp .BitAnd (.int a t) (.int b u)) Q vals l := WA.same q fun _ _ _ _ h => and_int (h _ _)
theorem Qfg (q : ∀ t, Q (.int (Builtin.bitOr a b) t) vals l) : WA Ψ (binaryOp .BitOr (.int a t) (.int b u)) Q vals l := WA.same q fun _ _ _ _ h => or_int (h _ _)
theorem Qi2 (q : ∀ t, Q (.int (Builtin.bitXor a b) t) vals l) : WA Ψ (binaryOp .BitXor (.int a t) (.int b u)) Q vals l := WA.same q fun _ _ _ _ h => xor_int (h _ _)
theorem Ys (q : ∀ t, Q (.int (-a) t) vals l) : WA Ψ (unaryOp .USub (.int a t)) Q vals l := WA.same q fun _ _ _ _ h => neg_int (h _ _)
theorem Zj (q : Q (.bool (a == b)) vals l) : WA Ψ (compareOp .Eq (.int a t) (.int b u)) Q vals l := fun _ s at' => eq_int ⟨Same.refl s, vals, l, at', q⟩
theorem Zk (q : Q (.bool (a != b)) vals l) : WA Ψ (compareOp .NotEq (.int a t) (.int b u)) Q vals l := fun _ s at' => ne_int ⟨Same.refl s, vals, l, at', q⟩
theorem Zl (q : Q (.bool (decide (a < b))) vals l) : WA Ψ (compareOp .Lt (.int a t) (.int b u)) Q vals l := fun _ s at' => lt_int ⟨Same.refl s, vals, l, at', q⟩
theorem Zm (q : Q (.bool (decide (a ≤ b))) vals l) : WA Ψ (compareOp .LtE (.int a t) (.int b u)) Q vals l := fun _ s at' => le_int ⟨Same.refl s, vals, l, at', q⟩
theorem Zn (q : Q (.bool (decide (b < a))) vals l) : WA Ψ (compareOp .Gt (.int a t) (.int b u)) Q vals l := fun _ s at' => gt_int ⟨Same.refl s, vals, l, at', q⟩
theorem Zo (q : Q (.bool (decide (b ≤ a))) vals l) : WA Ψ (compareOp .GtE (.int a t) (.int b u)) Q vals l := fun _ s at' => ge_int ⟨Same.refl s, vals, l, at', q⟩
theorem Yu (q : ∀ t, Q (.int (if a < 0 then -a else a) t) vals l) : WA Ψ (call (.builtin "abs") [.int a t]) Q vals l := WA.same q fun _ _ _ _ h => call_abs_int fun _ _ => h _ _
end
noncomputable def argsOf (Ψ : Frm K N W) : List Expr → (LQ) → Vals → Led → Prop
 | [], Q, vals, l => Q [] vals l
 | e :: r, Q, vals, l => WA Ψ (eval e Ψ.env) (fun v vals l => argsOf Ψ r (fun vs vals l => Q (v :: vs) vals l) vals l) vals l
noncomputable def plainE : Expr → Bool
 | .Starred _ _ => false
 | _ => true
theorem Qbl {env : Env} : ∀ {es : List Expr}, es.all plainE = true → starEach es env = es.map fun e => (false, eval e env)
 | [], _ => rfl
 | e :: r, h => by
  rw [List.all_cons, Bool.and_eq_true] at h
  have ih := Qbl (env := env) h.2
  cases e <;> first | exact congrArg (List.cons _) ih | (simp [plainE] at h; done)
theorem Qjx {pos : Pos} : ∀ {es : List Expr} {Q : LQ} {vals : Vals} {l : Led}, es.all plainE = true → argsOf Ψ es Q vals l → WA Ψ (spliced (backTo pos (starEach es Ψ.env))) Q vals l
 | [], _, _, _, _, h => WA.pure h
 | e :: r, Q, vals, l, hs, h => by
  have hs' : r.all plainE = true := by rw [List.all_cons, Bool.and_eq_true] at hs; exact hs.2
  rw [Qbl hs]
  show WA Ψ (spliced ((false, eval e Ψ.env) :: backTo pos (r.map fun e => (false, eval e Ψ.env)))) Q vals l
  rw [spliced]
  refine WA.bind (WA.mono h fun v _ _ h' => ?_)
  simp only [Bool.false_eq_true, if_false]
  rw [← Qbl hs']
  exact WA.bind (WA.pure (WA.bind (WA.holding ((Qjx hs' h').mono fun vs _ _ q => WA.pure q))))
theorem Qex {env : Env} {pos : Pos} : ∀ {es : List Expr}, es.all plainE = true → (backTo pos (starEach es env)).any (·.1) = false
 | [], _ => rfl
 | e :: r, hs => by
  have hs' : r.all plainE = true := by rw [List.all_cons, Bool.and_eq_true] at hs; exact hs.2
  rw [Qbl hs]
  have ih := Qex (env := env) (pos := pos) hs'
  rw [Qbl hs'] at ih
  exact ih
noncomputable def kwOf (Ψ : Frm K N W) : List Keyword → (LQ) → Vals → Led → Prop
 | [], Q, vals, l => Q [] vals l
 | e :: r, Q, vals, l => WA Ψ (eval e.value Ψ.env) (fun v vals l => kwOf Ψ r (fun vs vals l => Q (v :: vs) vals l) vals l) vals l
theorem Qms {pos : Pos} : ∀ {ks : List Keyword} {Q : LQ} {vals : Vals} {l : Led}, kwOf Ψ ks Q vals l → WA Ψ (evalAll ((backToKw pos (keywordEach ks Ψ.env)).map (·.2))) Q vals l
 | [], _, _, _, h => WA.pure h
 | ⟨_, e, _⟩ :: r, Q, vals, l, h =>
  WA.bind (WA.bind (WA.mono h fun v _ _ h' => WA.bind (WA.standAt (WA.pure (WA.bind (WA.holding ((Qms h').mono fun vs _ _ q => WA.pure q)))))))
theorem WA.newTuple {vs : List Value} {Q : VQ} (hz : vs.length ≤ sizeLine) (q : ∀ x, Q (.ref x) vals ((x, { cls := .type "tuple", data := .seq vs.toArray }) :: l)) : WA Ψ (newTuple vs) Q vals l :=
 fun _ s a => wpAny_newObj_type ⟨⟨rfl, rfl⟩, vals, _, a.push, q _⟩ (by show vs.toArray.size ≤ sizeLine; rw [List.size_toArray]; exact hz)
theorem WA.newList {vs : List Value} {Q : VQ} (hz : vs.length ≤ sizeLine) (q : ∀ x, Q (.ref x) vals ((x, { cls := .type "list", data := .seq vs.toArray }) :: l)) : WA Ψ (newList vs) Q vals l :=
 fun _ s a => wpAny_newObj_type ⟨⟨rfl, rfl⟩, vals, _, a.push, q _⟩ (by show vs.toArray.size ≤ sizeLine; rw [List.size_toArray]; exact hz)
theorem Qjv {es : List Expr} {k : Nat} {pos : Pos} {Q : VQ} (hs : es.all plainE = true) (h : argsOf Ψ es (fun vs vals l => WA Ψ (PySem.newTuple vs) Q vals l) vals l) : WA Ψ (eval (.Tuple es k pos) Ψ.env) Q vals l :=
 WA.bind (WA.standAt (WA.bind (Qjx hs h)))
theorem WA.list {es : List Expr} {pos : Pos} {Q : VQ} (hs : es.all plainE = true) (h : argsOf Ψ es (fun vs vals l => WA Ψ (PySem.newList vs) Q vals l) vals l) : WA Ψ (eval (.List es pos) Ψ.env) Q vals l :=
 WA.bind (WA.standAt (WA.bind (Qjx hs h)))
theorem Qkn {base : Expr} {o r : Value} {Q : UQ} (q : Q () vals l) : WA Ψ (letTemporaryGo base o r) Q vals l := fun _ s a => wpAny_letTemporaryGo ⟨Same.refl s, vals, l, a, q⟩
theorem Qq9 {o : Expr} {x : Str} {pos : Pos} {Q : VQ} (h : WA Ψ (eval o Ψ.env) (fun ov vals l => WA Ψ (getAttr ov x true) Q vals l) vals l)
  (hb : attributeBase o x Ψ.env (eval o Ψ.env) = eval o Ψ.env := by rfl) : WA Ψ (eval (.Attribute o x pos) Ψ.env) Q vals l := by
 show WA Ψ (attributeBase o x Ψ.env (eval o Ψ.env) >>= _) Q vals l
 rw [hb]
 exact WA.bind (h.mono fun _ _ _ h' => WA.bind (WA.standAt (WA.bind (WA.holding (h'.mono fun _ _ _ q => WA.bind (Qkn (WA.pure q)))))))
theorem Qqz {o i : Expr} {pos : Pos} {Q : VQ} (h : WA Ψ (eval o Ψ.env) (fun ov vals l => WA Ψ (eval i Ψ.env) (fun iv vals l => WA Ψ (subscriptTail o i ov iv) Q vals l) vals l) vals l) : WA Ψ (eval (.Subscript o i pos) Ψ.env) Q vals l :=
 fun E s a => Subscript_ (h.use a fun _ _ _ _ S a' h' => h'.use a' fun _ _ _ _ S' a'' h'' => h''.use a'' fun _ _ v' l' S'' a3 q => ⟨(S.trans S').trans S'', v', l', a3, q⟩)
noncomputable def KeepOk (K : Frag) : Value → Prop
 | .ref a => keepIn K (.ref a) = true
 | _ => True
theorem Qg9 {M : Model} {h : Heap} {f : Value} (k : KeepOk (K W.w.params) f) (X : (K W.w.params).In h) : ∃ k', (k' = Keeper.frame ∨ k' = Keeper.machine ∨ k' = Keeper.boundFrame) ∧ Looks M h (keeperOf f) k' := by
 cases f with
 | ref a => exact keeps_K k h X
 | _ => exact ⟨.machine, .inr (.inl rfl), Looks.of_pure rfl⟩
theorem WA.callWith {pos : Pos} {f : Value} {first : List Value} {args : List (Bool × Sem Value)} {kws : List (Option Str × Sem Value)} {Q : VQ} (k : KeepOk (K W.w.params) f) (hp : (args.any (·.1) || kws.any (·.1.isNone)) = false)
  (h : WA Ψ (evalArgs f true args kws) (fun a vals l => WA Ψ (call f (first ++ a.pos) a.kw) Q vals l) vals l) : WA Ψ (callWith pos f first args kws) Q vals l := fun E s a =>
 callWith_of (P := fun h => (K W.w.params).In h) hp (fun h X => Qg9 k X) (h.use a fun _ _ _ _ S a' h' => ⟨Ψ.X.keeps a'.F.keep, h'.use a' fun _ _ v' l' S' a'' q => ⟨S.trans S', v', l', a'', q⟩⟩)
theorem Qfb {f : Value} {pos : Pos} {args : List Expr} {ks : List Keyword} {Q : Args → Vals → Led → Prop} (hs : args.all plainE = true) (hk : (backToKw pos (keywordEach ks Ψ.env)).all (·.1.isSome) = true)
  (h : argsOf Ψ args (fun vs vals l => kwOf Ψ ks (fun kv vals l => Q ⟨vs, ((backToKw pos (keywordEach ks Ψ.env)).filterMap (·.1)).zip kv⟩ vals l) vals l) vals l) : WA Ψ (evalArgs f true (backTo pos (starEach args Ψ.env)) (backToKw pos (keywordEach ks Ψ.env))) Q vals l := by
 cases args with
 | nil => exact fun E s a => evalArgs_kw_nil hk (Qms (pos := pos) h E s a)
 | cons e r =>
  have := Qjx (pos := pos) hs h
  rw [Qbl hs] at this ⊢
  exact fun E s a => evalArgs_kw hk (this.use a fun vs s' v' l' S a' h' => (Qms (pos := pos) h').use a' fun ks s'' v'' l'' S' a'' q => ⟨S.trans S', v'', l'', a'', q⟩)
theorem WA.callN {g : Expr} {args : List Expr} {ks : List Keyword} {pos : Pos} {Q : VQ} (hs : args.all plainE = true) (hk : (backToKw pos (keywordEach ks Ψ.env)).all (·.1.isSome) = true)
  (h : WA Ψ (eval g Ψ.env) (fun f vals l => KeepOk (K W.w.params) f ∧ argsOf Ψ args (fun vs vals l => kwOf Ψ ks (fun kv vals l => WA Ψ (call f vs (((backToKw pos (keywordEach ks Ψ.env)).filterMap (·.1)).zip kv)) Q vals l) vals l) vals l) vals l)
  (he : eval (.Call g args ks pos) Ψ.env = (do let f ← eval g Ψ.env; PySem.callWith pos f [] (backTo pos (starEach args Ψ.env)) (backToKw pos (keywordEach ks Ψ.env))) := by rfl) : WA Ψ (eval (.Call g args ks pos) Ψ.env) Q vals l := by
 rw [he]
 refine WA.bind (h.mono fun f _ _ h' => WA.callWith h'.1 ?_ (Qfb hs hk h'.2))
 rw [Qex hs, Bool.false_or]
 refine Bool.eq_false_iff.mpr fun hc => ?_
 obtain ⟨x, hx, hn⟩ := List.any_eq_true.mp hc
 have := List.all_eq_true.mp hk x hx
 cases hx1 : x.1 <;> simp [hx1] at this hn
theorem WA.callM {o : Expr} {name : Str} {apos pos : Pos} {args : List Expr} {ks : List Keyword} {pl : Sem Bool} {Q : VQ} (hs : args.all plainE = true) (hk : (backToKw pos (keywordEach ks Ψ.env)).all (·.1.isSome) = true)
  (h : WA Ψ (eval o Ψ.env) (fun ov vals l => WA Ψ (getMethod ov name pl) (fun fx vals l => KeepOk (K W.w.params) fx.1 ∧ argsOf Ψ args (fun vs vals l => kwOf Ψ ks (fun kv vals l => WA Ψ (call fx.1 (fx.2 ++ vs) (((backToKw pos (keywordEach ks Ψ.env)).filterMap (·.1)).zip kv)) Q vals l) vals l) vals l) vals l) vals l)
  (he : eval (.Call (.Attribute o name apos) args ks pos) Ψ.env = (do let ov ← eval o Ψ.env; PySem.standAt apos.atName; let (f, first) ← PySem.holding [ov] (getMethod ov name pl); PySem.callWith pos f first (backTo pos (starEach args Ψ.env)) (backToKw pos (keywordEach ks Ψ.env))) := by rfl) :
  WA Ψ (eval (.Call (.Attribute o name apos) args ks pos) Ψ.env) Q vals l := by
 rw [he]
 refine WA.bind (h.mono fun ov _ _ h' => WA.bind (WA.standAt (WA.bind ((WA.holding h').mono fun fx _ _ h'' => ?_))))
 obtain ⟨f, first⟩ := fx
 refine WA.callWith h''.1 ?_ (Qfb hs hk h''.2)
 rw [Qex hs, Bool.false_or]
 refine Bool.eq_false_iff.mpr fun hc => ?_
 obtain ⟨x, hx, hn⟩ := List.any_eq_true.mp hc
 have := List.all_eq_true.mp hk x hx
 cases hx1 : x.1 <;> simp [hx1] at this hn
theorem Za {Q : FQ} (q : Q .next vals l) : WA Ψ (execs [] Ψ.env) Q vals l := WA.pure q
theorem Qmx {st : Stmt} {r : List Stmt} {Q : FQ} (h : WA Ψ (exec st Ψ.env) (fun f vals l => match f with | .next => WA Ψ (execs r Ψ.env) Q vals l | f => Q f vals l) vals l) : WA Ψ (execs (st :: r) Ψ.env) Q vals l :=
 WA.bind (h.mono fun f _ _ h' => by cases f <;> first | exact h' | exact WA.pure h')
theorem WA.ret {e : Expr} {pos : Pos} {Q : FQ} (h : WA Ψ (eval e Ψ.env) (fun v vals l => Q (.ret v) vals l) vals l) : WA Ψ (exec (.Return (some e) pos) Ψ.env) Q vals l :=
 WA.bind (WA.standAt (WA.bind (h.mono fun _ _ _ q => WA.pure q)))
theorem Qit {pos : Pos} {Q : FQ} (q : Q (.ret .none) vals l) : WA Ψ (exec (.Return none pos) Ψ.env) Q vals l := WA.bind (WA.standAt (WA.pure q))
theorem Qut {t : Expr} {x y : List Stmt} {pos : Pos} {Q : FQ} (h : WA Ψ (isTrue t Ψ.env (eval t Ψ.env)) (fun b vals l => if b = true then WA Ψ (execs x Ψ.env) Q vals l else WA Ψ (execs y Ψ.env) Q vals l) vals l) : WA Ψ (exec (.If t x y pos) Ψ.env) Q vals l :=
 WA.bind (WA.standAt (WA.bind (h.mono fun b _ _ h' => by cases b <;> simpa using h')))
theorem Qux {x : Str} {xp pos : Pos} {e : Expr} {Q : FQ} (hsw : swapsWith e (some (.Name x xp)) pos.line Ψ.env = Pure.pure false)
  (h : WA Ψ (eval e Ψ.env) (fun v vals l => WA Ψ (PySem.bindName Ψ.env x v) (fun _ vals l => Q .next vals l) vals l) vals l) : WA Ψ (exec (.Assign [.Name x xp] e pos) Ψ.env) Q vals l := by
 rw [exec_Assign_Name Ψ.env x xp e pos hsw]
 exact WA.bind (WA.standAt (WA.bind (h.mono fun _ _ _ h' => WA.bind (WA.standAt (WA.bind (h'.mono fun _ _ _ q => WA.pure q))))))
theorem Quy {o e : Expr} {x : Str} {xp pos : Pos} {Q : FQ}
  (h : WA Ψ (eval e Ψ.env) (fun v vals l => WA Ψ (eval o Ψ.env) (fun ov vals l => WA Ψ (setAttr ov x v) (fun _ vals l => Q .next vals l) vals l) vals l) vals l)
  (hsw : swapsWith e (some (.Attribute o x xp)) pos.line Ψ.env = Pure.pure false := by rfl) : WA Ψ (exec (.Assign [.Attribute o x xp] e pos) Ψ.env) Q vals l := fun E s a =>
 plainObj_wpAny_Assign_Attribute (h.use a fun _ _ _ _ S a' h' => h'.use a' fun _ _ _ _ S' a'' h'' => h''.use a'' fun _ _ v' l' S'' a3 q => ⟨(S.trans S').trans S'', v', l', a3, q⟩) hsw
theorem Quw {o i e : Expr} {xp pos : Pos} {Q : FQ}
  (h : WA Ψ (eval e Ψ.env) (fun v vals l => WA Ψ (eval o Ψ.env) (fun ov vals l => WA Ψ (eval i Ψ.env) (fun iv vals l => WA Ψ (setItem ov iv v) (fun _ vals l => Q .next vals l) vals l) vals l) vals l) vals l)
  (hsw : swapsWith e (some (.Subscript o i xp)) pos.line Ψ.env = Pure.pure false := by rfl) : WA Ψ (exec (.Assign [.Subscript o i xp] e pos) Ψ.env) Q vals l := fun E s a =>
 wpAny_Assign_Subscript (h.use a fun _ _ _ _ S a' h' => h'.use a' fun _ _ _ _ S' a'' h'' => h''.use a'' fun _ _ _ _ S'' a3 h3 => h3.use a3 fun _ _ v' l' S3 a4 q => ⟨((S.trans S').trans S'').trans S3, v', l', a4, q⟩) hsw
theorem Qq8 {o i e : Expr} {op : Operator} {xp pos : Pos} {Q : FQ}
  (h : WA Ψ (eval o Ψ.env) (fun ov vals l => WA Ψ (eval i Ψ.env) (fun iv vals l => WA Ψ (getItem ov iv) (fun old vals l => WA Ψ (eval e Ψ.env) (fun v vals l => WA Ψ (inplaceOp op old v) (fun new vals l => WA Ψ (setItem ov iv new) (fun _ vals l => Q .next vals l) vals l) vals l) vals l) vals l) vals l) vals l)
  (ha : ∀ (ov iv new : Value), augStore i ov iv new = (do PySem.holding [new, ov, iv] (setItem ov iv new); PySem.release [new, ov, iv] []; Pure.pure .next) := by intro _ _ _; rfl) :
  WA Ψ (exec (.AugAssign (.Subscript o i xp) op e pos) Ψ.env) Q vals l := fun E s a =>
 wpAny_AugAssign_SubscriptAny (h.use a fun _ _ _ _ S a' h' => h'.use a' fun _ _ _ _ S' a'' h'' => h''.use a'' fun _ _ _ _ S'' a3 h3 => h3.use a3 fun _ _ _ _ S3 a4 h4 => h4.use a4 fun _ _ _ _ S4 a5 h5 =>
  h5.use a5 fun _ _ v' l' S5 a6 q => ⟨((((S.trans S').trans S'').trans S3).trans S4).trans S5, v', l', a6, q⟩) ha
noncomputable def retOf : Flow → Value
 | .ret v => v
 | _ => .none
structure FnOk (K : Frag) (f : Addr) (fd : FuncData) (body : List Stmt) : Prop where
 look : ∃ oc od osl, K.lookup f = some ⟨oc, od, .func fd, osl⟩
 code : codeIn K fd.code fd.qualname = true
 body : fd.body = .stmts body
 glob : fd.globals = mainGlobals
 bi : fd.builtins = builtinsNs
 kind : fd.scope.kind = .function
 co : fd.scope.isCoroutine = false
 gen : fd.scope.isGenerator = false
 nocell : (fd.scope.names.all fun x => x.2 != .cell) = true
theorem Qkt {f : Addr} {fd : FuncData} {body : List Stmt} {args : List Value} {kw : List (Str × Value)} {binds : List (Str × Value)} {rest : List Str} {N' : Nm} {Q : VQ} (ok : FnOk (K W.w.params) f fd body) (sc : ScOk fd.scope.names N'.loc N'.glo) (hr : Ψ.A.depth < recursionLimit)
  (hb : ∀ s : Shared, (K W.w.params).In s.heap → BindsTo s fd ⟨args, kw⟩ binds) (hn : binds.map (·.1) ++ rest = N'.loc)
  (h : ∀ Ψ' : Frm K N' W, Ψ'.env = callEnv fd Ψ'.L f → Ψ'.A = Ψ.A.deeper Ψ'.env → WA Ψ' (execs body Ψ'.env) (fun fl _ l' => Q (retOf fl) vals l') (bv binds rest.length) l) :
  WA Ψ (call (.ref f) args kw) Q vals l := by
 intro E s a
 kcj_m
 obtain ⟨oc, od, osl, ho⟩ := ok.look
 have X := Ψ.X.keeps a.F.keep
 have nm0 : ∀ b o, Ψ.h.get? b = some o → b ∉ l.map (·.1) := fun b o e q => by
  obtain ⟨p, hp, rfl⟩ := List.mem_map.mp q
  rw [(a.N p hp).2.2] at e; cases e
 have st : Ψ.h.StaysIn (hideAll s.heap (l.map (·.1))) := fun b o e => hideAll_get _ (a.F.keep b o e) (nm0 b o e)
 obtain ⟨oL, es, ep, hL, hLd, hLk, hLf⟩ := a.F.ns
 kd_p1
 have nL : Ψ.L ∉ l.map (·.1) := fun q => by
  obtain ⟨p, hp, e⟩ := List.mem_map.mp q
  exact (a.N p hp).2.1 e
 have hLg := hideAll_get (l.map (·.1)) hL nL
 let Ψ' : Frm K N' W := ⟨hideAll s.heap (l.map (·.1)), s.heap.objs.size, Ψ.X.keeps (fun b o e => st b o e), Ψ.T.keeps (fun b o e => st b o e), Ψ.A.deeper (callEnv fd s.heap.objs.size f), callEnv fd s.heap.objs.size f, ⟨rfl, ok.kind, ok.glob, ok.bi⟩, sc⟩
 refine wpAny_call (codeAny_call_def hr (X _ _ ho) rfl (Ψ.T.nolimit.keeps a.F.keep) (codeRec_of X ok.code) ok.body (hb s X)
  (fun x hx => by simpa using List.all_eq_true.mp ok.nocell x hx)
  (fun x hx => (sc.loc x.1 (by rw [← hn]; exact List.mem_append_left _ (List.mem_map_of_mem hx))).1) (fun h₁ hns hk₁ => ?_) ok.co ok.gen ok.kind)
 rw [Qgl hn sc.nd] at hns
 have a' : At Ψ' (bv binds rest.length) l { s with heap := h₁, toks := s.toks + binds.length } :=
  ⟨⟨hns, fun b o e => hk₁ b o (of_hideAll _ e), Nat.le_of_eq (hideAll_size _ _)⟩,
   fun p hp => ⟨hk₁ _ _ (a.N p hp).1, Nat.ne_of_lt (Heap.lt_size (a.N p hp).1), hideAll_none _ (List.mem_map_of_mem hp)⟩, a.U, a.G⟩
 refine (h Ψ' rfl rfl).use a' fun fl s' v' l' S a'' q => ⟨S, vals, l', ⟨⟨⟨oL, es, ep, a''.F.keep Ψ.L oL hLg, hLd, hLk, hLf⟩, fun b o e => a''.F.keep b o (st b o e), a.F.above⟩, fun p hp => ⟨(a''.N p hp).1, fun q => ?_, ?_⟩, a''.U, a''.G⟩, ?_⟩
 ·have := (a''.N p hp).2.2
  rw [q] at this
  exact absurd (hLg.symm.trans this) (by simp)
 ·cases q : Ψ.h.get? p.1 with
  | none => rfl
  | some o => exact absurd ((st _ _ q).symm.trans (a''.N p hp).2.2) (by simp)
 ·cases fl <;> exact q
theorem WA.expr {e : Expr} {pos : Pos} {Q : FQ} (h : WA Ψ (eval e Ψ.env) (fun _ vals l => Q .next vals l) vals l) (hi : interactive Ψ.env = false := by rfl) (hs : swapsWith e none pos.line Ψ.env = Pure.pure false := by rfl) : WA Ψ (exec (.Expr e pos) Ψ.env) Q vals l :=
 fun E s a => wpAny_Expr_any (h E s a) hi hs
end
end Mine
end
section
namespace Mine
noncomputable def keyName : Value → Option Str
 | .str n _ => some n
 | _ => none
structure AttrsAre (es : List DictEntry) (nm : List Str) (vs : List Value) : Prop where
 names : es.map (fun e => keyName e.key) = (nm.take vs.length).map some
 vals : es.map (·.val) = vs
theorem AttrsAre.len {es nm vs} (x : AttrsAre es nm vs) : es.length = vs.length := by rw [← x.vals, List.length_map]
theorem Qcd (v : Value) (x : Str) : v.isStr x = (keyName v == some x) := by
 cases v <;> simp [Value.isStr, keyName]
theorem Qfm (e : DictEntry) (h : (keyName e.key).isSome = true) : e.refKey = false := by
 obtain ⟨hh, k, v⟩ := e
 cases k <;> first | (simp [keyName] at h; done) | rfl
theorem Qlo {x : Str} : ∀ {es : List DictEntry} {nm : List Str} {vs : List Value}, es.map (fun e => keyName e.key) = (nm.take vs.length).map some → es.map (·.val) = vs → getL x es = some (fr nm (vs.map some) x)
 | [], nm, [], _, _ => by cases nm <;> rfl
 | [], nm, v :: vs, _, h => by simp at h
 | e :: es, nm, [], _, h => by simp at h
 | e :: es, [], v :: vs, h, _ => by simp at h
 | e :: es, n :: nm, v :: vs, h, hv => by
  simp only [List.map_cons, List.length_cons, List.take_succ_cons, List.cons.injEq] at h hv
  have ih := Qlo (x := x) (es := es) (nm := nm) (vs := vs) h.2 hv.2
  have hk : e.key.isStr x = (n == x) := by
   rw [Qcd, h.1]
   by_cases hx : n = x <;> simp [hx]
  have hr : e.refKey = false := Qfm e (by rw [h.1]; rfl)
  unfold getL at ih ⊢
  simp only [List.find?_cons, List.any_cons, hk, hr, Bool.false_or, List.map_cons, fr]
  by_cases hx : n = x
  ·subst hx; simp [hv.1]
  ·have : (n == x) = false := by simp [hx]
   have hx' : ¬ x = n := fun e => hx e.symm
   simp only [this, if_neg hx']
   exact ih
theorem AttrsAre.get {es nm vs} (x : AttrsAre es nm vs) (n : Str) : getL n es = some (fr nm (vs.map some) n) := Qlo x.names x.vals
theorem Qil {x : Str} : ∀ {nm : List Str} {vals : Vals}, x ∉ nm → fr nm vals x = none
 | [], _, _ => rfl
 | _ :: _, [], _ => rfl
 | n :: nm, v :: vs, h => by
  simp only [fr]
  rw [if_neg (fun e => h (by simp [e]))]
  exact Qil fun e => h (by simp [e])
theorem AttrsAre.nil (nm : List Str) : AttrsAre [] nm [] := ⟨by simp, rfl⟩
theorem Qjd {hsh : Int} {t : Tok} {v : Value} : ∀ {es : List DictEntry} {nm : List Str} {vs : List Value} {i : Nat} {x : Str}, nm.Nodup → AttrsAre es nm vs → nm[i]? = some x → i < vs.length →
  AttrsAre (putL x hsh (.str x t) v es) nm (vs.set i v)
 | [], nm, [], _, _, _, _, _, h => by simp at h
 | [], nm, v :: vs, _, _, _, h, _, _ => by have := h.vals; simp at this
 | e :: es, nm, [], _, _, _, h, _, _ => by have := h.vals; simp at this
 | e :: es, [], v :: vs, _, _, _, h, _, _ => by have := h.names; simp at this
 | e :: es, n :: nm, w :: vs, i, x, nd, h, hi, hl => by
  have h1 := h.names
  have h2 := h.vals
  simp only [List.map_cons, List.length_cons, List.take_succ_cons, List.cons.injEq] at h1 h2
  have hk : e.key.isStr x = (n == x) := by
   rw [Qcd, h1.1]
   by_cases hx : n = x <;> simp [hx]
  cases i with
  | zero =>
   simp only [List.getElem?_cons_zero, Option.some.injEq] at hi
   subst hi
   simp only [putL, hk, beq_self_eq_true, if_true, List.set_cons_zero]
   exact ⟨by simp [h1.1, h1.2], by simp [h2.2]⟩
  | succ i =>
   simp only [List.getElem?_cons_succ] at hi
   have hne : ¬ n = x := fun e => (List.nodup_cons.mp nd).1 (e ▸ List.mem_of_getElem? hi)
   have : (n == x) = false := by simp [hne]
   simp only [putL, hk, this, Bool.false_eq_true, if_false, List.set_cons_succ]
   have ih := Qjd (hsh := hsh) (t := t) (v := v) (List.nodup_cons.mp nd).2 ⟨h1.2, h2.2⟩ hi (Nat.lt_of_succ_lt_succ hl)
   have i1 := ih.names
   have i2 := ih.vals
   exact ⟨by simp only [List.map_cons, h1.1, i1, List.length_cons, List.take_succ_cons], by simp only [List.map_cons, i2, h2.1]⟩
theorem Qje {hsh : Int} {t : Tok} {v : Value} : ∀ {es : List DictEntry} {nm : List Str} {vs : List Value} {x : Str}, nm.Nodup → AttrsAre es nm vs → nm[vs.length]? = some x →
  AttrsAre (putL x hsh (.str x t) v es) nm (vs ++ [v])
 | [], nm, [], x, _, _, hi => by
  cases nm with
  | nil => simp at hi
  | cons n nm =>
   simp only [List.length_nil, List.getElem?_cons_zero, Option.some.injEq] at hi
   subst hi
   exact ⟨by simp [putL, keyName], by simp [putL]⟩
 | [], nm, v :: vs, _, _, h, _ => by have := h.vals; simp at this
 | e :: es, nm, [], _, _, h, _ => by have := h.vals; simp at this
 | e :: es, [], v :: vs, _, _, h, _ => by have := h.names; simp at this
 | e :: es, n :: nm, w :: vs, x, nd, h, hi => by
  have h1 := h.names
  have h2 := h.vals
  simp only [List.map_cons, List.length_cons, List.take_succ_cons, List.cons.injEq] at h1 h2
  simp only [List.length_cons, List.getElem?_cons_succ] at hi
  have hne : ¬ n = x := fun e => (List.nodup_cons.mp nd).1 (e ▸ List.mem_of_getElem? hi)
  have hk : e.key.isStr x = false := by
   rw [Qcd, h1.1]
   simp [hne]
  have ih := Qje (hsh := hsh) (t := t) (v := v) (List.nodup_cons.mp nd).2 ⟨h1.2, h2.2⟩ hi
  have i1 := ih.names
  have i2 := ih.vals
  simp only [putL, hk, Bool.false_eq_true, if_false]
  exact ⟨by simp only [List.map_cons, h1.1, i1, List.length_cons, List.take_succ_cons, List.cons_append], by simp only [List.map_cons, i2, h2.1, List.cons_append]⟩
theorem Qo2 {d : Addr} {o o' : Obj} {post : Led} : ∀ {pre : Led}, ((pre ++ (d, o) :: post).map (·.1)).Nodup → Upd d o o' (pre ++ (d, o) :: post) (pre ++ (d, o') :: post)
 | [], h => .head fun q hq e => by
  rw [List.nil_append, List.map_cons, List.nodup_cons] at h
  exact h.1 (List.mem_map.mpr ⟨q, hq, e⟩)
 | q :: pre, h => by
  rw [List.cons_append, List.map_cons, List.nodup_cons] at h
  refine .tail (fun e => h.1 ?_) (Qo2 h.2)
  rw [e]
  exact List.mem_map.mpr ⟨(d, o), mr (.head _), rfl⟩
section
variable {K : Params → Frag} {N : Nm} {W : Wd} {Ψ : Frm K N W} {vals : Vals} {l : Led}
structure InstL (l : Led) (C x d : Addr) (es : List DictEntry) (n : Nat) : Prop where
 inst : (x, instObj C d) ∈ l
 dict : (d, dictOf es n) ∈ l
theorem Qmv {C x d f : Addr} {es : List DictEntry} {n : Nat} {name : Str} {pl : Sem Bool} {an : List Str} {av : List Value} {Q : MQ} (I : InstL l C x d es n) (at' : AttrsAre es an av) (hn : name ∉ an) (hg : plainGet (K W.w.params) C name = true)
  (hf : findIn (K W.w.params) (.ref C) name = some (some (.ref f))) (ht : isFn (K W.w.params) (.ref f) = true) (q : Q (.ref f, [.ref x]) vals l) : WA Ψ (getMethod (.ref x) name pl) Q vals l := fun E s a =>
 method_inst a.F Ψ.X (InstAt.of_news a.N I.inst I.dict) hg hf ht (by rw [at'.get, Qil hn]) ⟨Same.refl s, vals, l, a, q⟩
theorem Qmw {C x d : Addr} {es : List DictEntry} {n i : Nat} {name : Str} {an : List Str} {av : List Value} {v : Value} {expr : Bool} {Q : VQ} (I : InstL l C x d es n) (at' : AttrsAre es an av) (nd : an.Nodup) (hi : an[i]? = some name) (hv : av[i]? = some v)
  (hg : plainGet (K W.w.params) C name = true) (hh : hasDictIn (K W.w.params) C = true) (ha : findIn (K W.w.params) (.ref C) name = some none) (hv' : handedIn v = true) (q : Q v vals l) : WA Ψ (getAttr (.ref x) name expr) Q vals l :=
 WA.same (v := fun _ => v) (fun _ => q) fun E P s a h => get_own a.F Ψ.X (InstAt.of_news a.N I.inst I.dict) hg hh ha rfl (by rw [at'.get, Qjq nd hi (v := some v) (by rw [List.getElem?_map, hv]; rfl)]) hv' (h 0 _)
theorem Qml {C x d : Addr} {es : List DictEntry} {n : Nat} {name : Str} {v : Value} {pre post : Led} {an : List Str} {av av' : List Value} {Q : UQ} (hl : l = pre ++ (d, dictOf es n) :: post) (I : InstL l C x d es n) (at' : AttrsAre es an av)
  (hs : findIn (K W.w.params) (.ref C) "__setattr__" = some (some (.builtin "object.__setattr__"))) (hp : plainOver (K W.w.params) C = true) (ht : takerIn (K W.w.params) C name = some none) (hh : hasDictIn (K W.w.params) C = true) (hz : av.length ≤ 900)
  (hput : ∀ h t, AttrsAre (putL name h (.str name t) v es) an av') (hz' : av'.length ≤ 900)
  (q : ∀ es' n', AttrsAre es' an av' → Q () vals (pre ++ (d, dictOf es' n') :: post)) : WA Ψ (setAttr (.ref x) name v) Q vals l := fun E s a => by
 subst hl
 refine set_dict a.F Ψ.X a.N (InstAt.of_news a.N I.inst I.dict) rfl hs hp ht hh (by rw [at'.get]; rfl) rfl (Qo2 a.U) (by rw [(hput _ _).len]; exact ar4 hz') fun h' F' N' => ⟨⟨rfl, rfl⟩, vals, _, ⟨F', N', ?_, ?_⟩, q _ _ (hput _ _)⟩
 ·have := a.U
  simpa only [List.map_append, List.map_cons] using this
 ·intro y hy
  rcases List.mem_append.mp hy with h | h
  ·exact a.G y (List.mem_append_left _ h)
  ·rcases List.mem_cons.mp h with rfl | h
   ·exact a.G (d, dictOf es n) (mr (.head _))
   ·exact a.G y (mr (.tail _ h))
variable {Kt : Type} [DecidableEq Kt] {knd : KeyKind W.prog W.w Kt} {d : Addr} {o : Obj} {k : Kt} {key : Value} {kvs : List (Kt × Value)}
theorem dictAt {s : Shared} (a : At Ψ vals l s) (hm : (d, o) ∈ l) (ho : o.IsDictOf knd kvs) : s.heap.DictOf knd d kvs := Heap.dictOf_iff.mpr ⟨o, (a.N _ hm).1, ho⟩
theorem notSys {s : Shared} (a : At Ψ vals l s) (hm : (d, o) ∈ l) : (d == sysModules) = false := by
 have h : (2 : Nat) < d := a.G _ hm
 exact beq_eq_false_iff_ne.mpr (Nat.ne_of_gt (Nat.lt_trans (Nat.lt_succ_self 1) h))
theorem Qaw {v : Value} {Q : VQ} (hkey : knd.is k key = true) (hm : (d, o) ∈ l) (ho : o.IsDictOf knd kvs) (hv : valueAt kvs k = some v) (q : Q v vals l) : WA Ψ (getItem (.ref d) key) Q vals l :=
 WA.same (v := fun _ => v) (fun _ => q) fun E P s a h => wpAny_getItem_of hkey (dictAt a hm ho).mapOf hv (h 0 _)
theorem Qh0 {Q : VQ} (hkey : knd.is k key = true) (hm : (d, o) ∈ l) (ho : o.IsDictOf knd kvs) (q : Q (.bool (valueAt kvs k).isSome) vals l) : WA Ψ (compareOp .In key (.ref d)) Q vals l :=
 WA.same (v := fun _ => .bool (valueAt kvs k).isSome) (fun _ => q) fun E P s a h => wpAny_in_of hkey (notSys a hm) (dictAt a hm ho).mapOf (h 0 _)
theorem Qa9 {Q : VQ} (hkey : knd.is k key = true) (hm : (d, o) ∈ l) (ho : o.IsDictOf knd kvs) (q : Q (.bool (!(valueAt kvs k).isSome)) vals l) : WA Ψ (compareOp .NotIn key (.ref d)) Q vals l :=
 WA.same (v := fun _ => .bool (!(valueAt kvs k).isSome)) (fun _ => q) fun E P s a h => wpAny_notIn_of hkey (notSys a hm) (dictAt a hm ho).mapOf (h 0 _)
theorem Qa4 {name : Str} {id : String} {pl : Sem Bool} {Q : MQ} (hm : (d, o) ∈ l) (ho : o.ExactDict) (slot : Slot "dict" name id) (hty : typeOf (.builtin id) = Pure.pure (Value.type "method_descriptor")) (q : Q (.builtin id, [.ref d]) vals l) :
  WA Ψ (getMethod (.ref d) name pl) Q vals l := fun E s a =>
 getMethod_builtin (T := "dict") ⟨o, (a.N _ hm).1, ho.1⟩ F.plainAttrs_dict slot hty (fun b e => by injection e with e; subst e; exact ⟨o, (a.N _ hm).1, ho.2.1⟩) ⟨Same.refl s, vals, l, a, q⟩
theorem Qou {Q : VQ} (hkey : knd.is k key = true) (hm : (d, o) ∈ l) (ho : o.IsDictOf knd kvs) (q : Q ((valueAt kvs k).getD .none) vals l) : WA Ψ (call (.builtin "dict.get") [.ref d, key]) Q vals l :=
 WA.same (v := fun _ => (valueAt kvs k).getD .none) (fun _ => q) fun E P s a h =>
  call_meetsIn PySem.F.slot_dict_get (dictAt a hm ho).typeIs PySem.F.entry_dict_get (PySem.F.args_dict_get_2 _ _) (meets_dict_get knd d hkey (notSys a hm)) ⟨_, (dictAt a hm ho).mapOf, h 0 _⟩
theorem Qbh {v : Value} {pre post : Led} {Q : UQ} (hkey : knd.is k key = true) (hl : l = pre ++ (d, o) :: post) (ho : o.IsDictOf knd kvs) (hz : kvs.length ≤ sizeLine)
  (q : ∀ o' : Obj, o'.IsDictOf knd (stored kvs k v) → Q () vals (pre ++ (d, o') :: post)) : WA Ψ (setItem (.ref d) key v) Q vals l := fun E s a => by
 subst hl
 refine wpAny_setItem_pairs hkey (dictAt a (mr (.head _)) ho) (fun h' hd hs => ?_) hz
 obtain ⟨o', ho', hd'⟩ := Heap.dictOf_iff.mp hd
 exact ⟨⟨rfl, rfl⟩, vals, _, a.upd hs ho', q o' hd'⟩
theorem Qan {o : Obj} (h : o.IsDictOf knd kvs) : o.ExactDict := let ⟨_, _, e, _⟩ := h; e
theorem isDict_nil : (dictOf [] 0).IsDictOf knd ([] : List (Kt × Value)) := by
 obtain ⟨o, ho, r⟩ := Heap.dictOf_iff.mp (Heap.DictOf.new (knd := knd) {})
 rw [Heap.get?_push_size _ rfl] at ho
 cases ho
 exact r
noncomputable def TupL (knd : KeyKind W.prog W.w Kt) (l : Led) (ks : List Kt) (a : Addr) : Prop := ∃ items n dd sl, (a, (⟨.type "tuple", dd, .seq items n, sl⟩ : Obj)) ∈ l ∧ ItemsAre knd ks items.toList
theorem TupL.isKey {s : Shared} {ks : List Kt} {x : Addr} (t : TupL knd l ks x) (a : At Ψ vals l s) : IsTupleKey knd s.heap ks x :=
 let ⟨items, n, dd, sl, hm, hi⟩ := t; ⟨_, items, n, (a.N _ hm).1, rfl, rfl, hi⟩
theorem TupL.mono {l' : Led} {ks : List Kt} {x : Addr} (t : TupL knd l ks x) (h : ∀ y ∈ l, y ∈ l') : TupL knd l' ks x := let ⟨i, n, dd, sl, hm, hi⟩ := t; ⟨i, n, dd, sl, h _ hm, hi⟩
noncomputable def IsTupDict (knd : KeyKind W.prog W.w Kt) (o : Obj) (xs : List (List Kt × Addr × Value)) : Prop :=
 ∃ es ep, o.ExactDict ∧ o.data = .dict es ep ∧ es.toList = xs.map (entryOfKey (tupleKind knd)) ∧ (xs.map (·.1)).Nodup
theorem Qew : IsTupDict knd (dictOf [] 0) [] := ⟨#[], 0, ⟨rfl, rfl, rfl⟩, rfl, rfl, List.nodup_nil⟩
variable {xs : List (List Kt × Addr × Value)} {ks : List Kt} {x : Addr}
theorem tdictAt {s : Shared} (a : At Ψ vals l s) (hm : (d, o) ∈ l) (ho : IsTupDict knd o xs) (ht : ∀ y ∈ xs, TupL knd l y.1 y.2.1) : s.heap.DictOfH (tupleKind knd) d xs :=
 let ⟨es, ep, h1, h2, h3, h4⟩ := ho
 ⟨o, es, ep, (a.N _ hm).1, h1, h2, h3, fun y hy => (ht y hy).isKey a, h4⟩
theorem Qjw {Q : VQ} (hu : Ψ.A.units + 1 < cLine) (hk : TupL knd l ks x) (hm : (d, o) ∈ l) (ho : IsTupDict knd o xs) (ht : ∀ y ∈ xs, TupL knd l y.1 y.2.1) (q : Q (((atKey xs ks).map (·.2)).getD .none) vals l) :
  WA Ψ (call (.builtin "dict.get") [.ref d, .ref x]) Q vals l :=
 WA.same (v := fun _ => ((atKey xs ks).map (·.2)).getD .none) (fun _ => q) fun E P s a h =>
  call_meetsIn PySem.F.slot_dict_get (tdictAt a hm ho ht).typeIs PySem.F.entry_dict_get (PySem.F.args_dict_get_2 _ _) (meetsH_dict_get (tupleKind knd) d x (notSys a hm)) ⟨hu, ks, xs, hk.isKey a, tdictAt a hm ho ht, h 0 _⟩
theorem Qgt {v : Value} {pre post : Led} {Q : UQ} (hu : Ψ.A.units + 1 < cLine) (hk : TupL knd l ks x) (hl : l = pre ++ (d, o) :: post) (ho : IsTupDict knd o xs) (ht : ∀ y ∈ xs, TupL knd l y.1 y.2.1) (hz : xs.length ≤ sizeLine)
  (q : ∀ o' : Obj, IsTupDict knd o' (storedH xs ks x v) → Q () vals (pre ++ (d, o') :: post)) : WA Ψ (setItem (.ref d) (.ref x) v) Q vals l := fun E s a => by
 subst hl
 refine wpAny_setItem_heap (knd := tupleKind knd) hu (hk.isKey a) (tdictAt a (mr (.head _)) ho ht) (fun h' hd hs => ?_) hz
 kcj_m
 obtain ⟨o', es, ep, ho', h1, h2, h3, h4, h5⟩ := hd
 kd_p1
 exact ⟨⟨rfl, rfl⟩, vals, _, a.upd hs ho', q o' ⟨es, ep, h1, h2, h3, h5⟩⟩
end
noncomputable def isOpt : Option Int → Value → Bool
 | none, .none => true
 | some k, .int i _ => i == k
 | _, _ => false
theorem Qa5 {v : Value} (h : isOpt none v = true) : v = .none := by
 cases v <;> first | rfl | exact absurd h Bool.false_ne_true
theorem Qa0 {k : Int} {v : Value} (h : isOpt (some k) v = true) : ∃ t, v = .int k t := by
 cases v <;> first | exact absurd h Bool.false_ne_true | exact ⟨_, congrArg (Value.int · _) (eq_of_beq h)⟩
theorem Qlj (v : Value) (a b : Option Int) (ha : isOpt a v = true) (hb : isOpt b v = true) : a = b := by
 cases a with
 | none =>
  cases b with
  | none => rfl
  | some j => obtain ⟨t, e⟩ := Qa0 hb; rw [Qa5 ha] at e; cases e
 | some i =>
  obtain ⟨t, e⟩ := Qa0 ha
  cases b with
  | none => rw [Qa5 hb] at e; cases e
  | some j => obtain ⟨t', e'⟩ := Qa0 hb; rw [e] at e'; cases e'; rfl
noncomputable def optHash : Option Int → Int
 | none => 0xFCA86420
 | some k => hashInt k
section
variable {prog : Program} {w : World} {A : Around} {E : Value → Shared → Prop} {s : Shared}
theorem Qd3 {Q : Int → Shared → Prop} (h : Q 0xFCA86420 { s with toks := s.toks + 1 }) : wpAny (model prog w) A (pyHash .none) Q E s := by
 have hT : s.TypeIs .none "NoneType" := rfl
 unfold pyHash
 refine wpAny_bind ?_
 rw [cRoomFor, if_neg (by decide)]; refine wpAny_pure ?_
 refine wpAny_bind (wpAny_specialOf hT F.slot_NoneType_hash.lookup ?_)
 show wpAny _ _ (if (some (Value.builtin "NoneType.__hash__") == some Value.none) = true then _ else _) Q E s
 refine Qa1 ((by rw [beq_builtin_none]; exact Bool.false_ne_true)) ?_
 refine wpAny_bind (wpAny_specialOf hT F.slot_NoneType_hash.lookup ?_)
 show wpAny _ _ (callSpecialIfBoundUnlessNone? .none "__hash__" _ >>= _) Q E s
 refine wpAny_bind (wpAny_callSpecialIfBoundUnlessNone?_slot hT F.slot_NoneType_hash
  (wpAny_call_entry F.slot_NoneType_hash hT F.entry_NoneType_hash
   (show wpAny _ _ (do ret (← mkInt 0xFCA86420)) _ _ s from wpAny_ret_mkInt ?_) (F.args_NoneType_hash_1 _)))
 show wpAny _ _ (if (decide (-(2 : Int) ^ 63 ≤ 0xFCA86420) && decide ((0xFCA86420 : Int) < 2 ^ 63)) = true then _ else _) Q E _
 refine Qb0 ((by decide)) ?_
 exact wpAny_pure h
theorem Qeg {a b : Option Int} {u v : Value} {Q : Bool → Shared → Prop} (hu : isOpt a u = true) (hv : isOpt b v = true) (h : Q (decide (a = b)) s) : wpAny (model prog w) A (eqBool u v) Q E s := by
 cases a with
 | none =>
  obtain rfl := Qa5 hu
  cases b with
  | none =>
   obtain rfl := Qa5 hv
   unfold eqBool
   show wpAny _ _ (PySem.rule "eq-bool.same-object" >>= fun _ => Pure.pure true) Q E s
   exact wpAny_bind (wpAny_rule (wpAny_pure (by simpa using h)))
  | some j =>
   obtain ⟨t, rfl⟩ := Qa0 hv
   unfold eqBool
   show wpAny _ _ (richCompare .Eq Value.none (Value.int _ _) >>= fun r => truthOfDropped r) Q E s
   exact wpAny_bind (PySem.EqNone.eq_none_int (wpAny_truthy_bool (by simpa using h)))
 | some i =>
  obtain ⟨t, rfl⟩ := Qa0 hu
  cases b with
  | none =>
   obtain rfl := Qa5 hv
   unfold eqBool
   show wpAny _ _ (richCompare .Eq (Value.int _ _) Value.none >>= fun r => truthOfDropped r) Q E s
   exact wpAny_bind (PySem.EqNone.eq_int_none (wpAny_truthy_bool (by simpa using h)))
  | some j =>
   obtain ⟨t', rfl⟩ := Qa0 hv
   refine wpAny_eqBool_int ?_
   have : ∀ i j : Int, (decide (some i = some j)) = (i == j) := fun i j => by
    by_cases e : i = j <;> simp [e]
   rw [← this]; exact h
end
noncomputable def optKind (prog : Program) (w : World) : KeyKind prog w (Option Int) where
 is := isOpt
 hash := optHash
 inj := Qlj
 byValue := fun k v h => by
  cases k with
  | none => obtain rfl := Qa5 h; rfl
  | some k => obtain ⟨t, rfl⟩ := Qa0 h; rfl
 pyHash := fun {A E s k v Q} hv h => by
  cases k with
  | none => obtain rfl := Qa5 hv; exact Qd3 h
  | some i => obtain ⟨t, rfl⟩ := Qa0 hv; exact wpAny_pyHash_int h
 eqBool := Qeg
 «strs» := fun k x t v h => by cases k <;> exact absurd h Bool.false_ne_true
end Mine
end
section
namespace Mine
inductive NmI : List Str → Str → Nat → Prop
 | here {x : Str} {ns : List Str} : NmI (x :: ns) x Nat.zero
 | next {n : Str} {ns : List Str} {x : Str} {i : Nat} : NmI ns x i → NmI (n :: ns) x (Nat.succ i)
inductive NmG : List Str → Str → Prop
 | here {x : Str} {ns : List Str} : NmG (x :: ns) x
 | next {n x : Str} {ns : List Str} : NmG ns x → NmG (n :: ns) x
theorem NmI.at {nm : List Str} {x : Str} {i : Nat} (h : NmI nm x i) : nm[i]? = some x := by
 induction h with
 | here => rfl
 | next _ ih => exact ih
theorem NmG.mem {x : Str} (h : NmG gl x) : x ∈ gl := by
 induction h with
 | here => exact .head _
 | next _ ih => exact .tail _ ih
noncomputable def vget : Vals → Nat → Option Value
 | [], _ => none
 | o :: _, 0 => o
 | _ :: r, n + 1 => vget r n
noncomputable def vset : Vals → Nat → Value → Vals
 | [], _, _ => []
 | _ :: r, 0, v => some v :: r
 | o :: r, n + 1, v => o :: vset r n v
noncomputable def vhas : Vals → Nat → Bool
 | [], _ => false
 | _ :: _, 0 => true
 | _ :: r, n + 1 => vhas r n
theorem Qf9 : ∀ {vals : Vals} {i : Nat} {v : Value}, vget vals i = some v → vals[i]? = some (some v)
 | [], _, _, h => by simp [vget] at h
 | _ :: _, 0, _, h => by simpa [vget] using h
 | _ :: r, n + 1, _, h => by simpa using Qf9 (vals := r) (i := n) h
theorem Qh4 : ∀ {vals : Vals} {i : Nat}, vhas vals i = true → i < vals.length
 | [], _, h => by simp [vhas] at h
 | _ :: _, 0, _ => by simp
 | _ :: r, n + 1, h => by simpa using Qh4 (vals := r) (i := n) h
theorem Qh3 : ∀ (vals : Vals) (i : Nat) (v : Value), vals.set i (some v) = vset vals i v
 | [], _, _ => rfl
 | _ :: _, 0, _ => rfl
 | o :: r, n + 1, v => by rw [List.set_cons_succ, Qh3 r n v]; rfl
section
variable {K : Params → Frag} {N : Nm} {W : Wd} {Ψ : Frm K N W} {vals : Vals} {l : Led}
theorem Va {x : Str} {pos : Pos} {i : Nat} {v : Value} {Q : VQ} (hi : NmI N.loc x i) (hv : vget vals i = some v) (q : Q v vals l) : WA Ψ (eval (.Name x pos) Ψ.env) Q vals l :=
 Qq2 (Ψ.sc.loc x (List.mem_of_getElem? hi.at)) hi.at (Qf9 hv) q
theorem Pa {x : Str} {pos : Pos} {v : Value} {Q : VQ} (h : NmG N.glo x) (g : GlobIs (K W.w.params) x v) (q : Q v vals l) : WA Ψ (eval (.Name x pos) Ψ.env) Q vals l :=
 WA.glob (Ψ.sc.glo x h.mem) g q
theorem Vc {x : Str} {i : Nat} {v : Value} {Q : UQ} (hi : NmI N.loc x i) (hl : vhas vals i = true) (q : Q () (vset vals i v) l) : WA Ψ (bindName Ψ.env x v) Q vals l :=
 WA.bindName (Ψ.sc.loc x (List.mem_of_getElem? hi.at)) hi.at (Qh4 hl) (Qh3 _ _ _) q
noncomputable def contS (Ψ : Frm K N W) (r : List Stmt) (Q : FQ) : FQ
 | .next, vals, l => WA Ψ (execs r Ψ.env) Q vals l
 | f, vals, l => Q f vals l
theorem R.seq {st : Stmt} {r : List Stmt} {Q : FQ} (h : WA Ψ (exec st Ψ.env) (contS Ψ r Q) vals l) : WA Ψ (execs (st :: r) Ψ.env) Q vals l :=
 Qmx (h.mono fun f _ _ h' => by cases f <;> exact h')
theorem Zb {r : List Stmt} {Q : FQ} (h : WA Ψ (execs r Ψ.env) Q vals l) : contS Ψ r Q .next vals l := h
theorem Zc {r : List Stmt} {v : Value} {Q : FQ} (h : Q (.ret v) vals l) : contS Ψ r Q (.ret v) vals l := h
theorem ZC {r : List Stmt} {Q : FQ} (h : Q .brk vals l) : contS Ψ r Q .brk vals l := h
theorem Zi {Q : LQ} (h : Q [] vals l) : kwOf Ψ [] Q vals l := h
theorem Mb {b : Bool} {X Y : Prop} (hb : b = true) (h : X) : (if b = true then X else Y) := by rw [if_pos hb]; exact h
theorem Ma {b : Bool} {X Y : Prop} (hb : b = false) (h : Y) : (if b = true then X else Y) := by rw [if_neg (by simp [hb])]; exact h
theorem Qak {b : Bool} {X Y : Prop} (h1 : b = true → X) (h2 : b = false → Y) : (if b = true then X else Y) := by
 cases b
 ·exact Ma rfl (h2 rfl)
 ·exact Mb rfl (h1 rfl)
theorem Zp {v : Value} {Q : VQ} (q : Q (.bool (v == .none)) vals l) : WA Ψ (compareOp .Is v .none) Q vals l := fun _ s a => is_none_gen ⟨Same.refl s, vals, l, a, q⟩
noncomputable def methK (Ψ : Frm K N W) (args : List Expr) (Q : VQ) (fx : Value × List Value) (vals : Vals) (l : Led) : Prop :=
 KeepOk (K W.w.params) fx.1 ∧ argsOf Ψ args (fun vs vals l => WA Ψ (call fx.1 (fx.2 ++ vs) []) Q vals l) vals l
theorem R.callM {o : Expr} {name : Str} {apos pos : Pos} {args : List Expr} {pl : Sem Bool} {Q : VQ} (hs : args.all plainE = true)
  (h : WA Ψ (eval o Ψ.env) (fun ov vals l => WA Ψ (getMethod ov name pl) (methK Ψ args Q) vals l) vals l)
  (he : eval (.Call (.Attribute o name apos) args [] pos) Ψ.env = (do let ov ← eval o Ψ.env; PySem.standAt apos.atName; let (f, first) ← PySem.holding [ov] (getMethod ov name pl); PySem.callWith pos f first (backTo pos (starEach args Ψ.env)) (backToKw pos (keywordEach [] Ψ.env)))) :
  WA Ψ (eval (.Call (.Attribute o name apos) args [] pos) Ψ.env) Q vals l := WA.callM hs rfl h he
theorem R.meth1 {f x : Value} {args : List Expr} {Q : VQ} (hk : KeepOk (K W.w.params) f) (h : argsOf Ψ args (fun vs vals l => WA Ψ (call f (x :: vs) []) Q vals l) vals l) : methK Ψ args Q (f, [x]) vals l := ⟨hk, h⟩
noncomputable def funK (Ψ : Frm K N W) (args : List Expr) (Q : VQ) (f : Value) (vals : Vals) (l : Led) : Prop :=
 KeepOk (K W.w.params) f ∧ argsOf Ψ args (fun vs vals l => WA Ψ (call f vs []) Q vals l) vals l
theorem R.callN {g : Expr} {args : List Expr} {pos : Pos} {Q : VQ} (hs : args.all plainE = true) (h : WA Ψ (eval g Ψ.env) (funK Ψ args Q) vals l)
  (he : eval (.Call g args [] pos) Ψ.env = (do let f ← eval g Ψ.env; PySem.callWith pos f [] (backTo pos (starEach args Ψ.env)) (backToKw pos (keywordEach [] Ψ.env)))) : WA Ψ (eval (.Call g args [] pos) Ψ.env) Q vals l := WA.callN hs rfl h he
variable {Kt : Type} [DecidableEq Kt] {knd : KeyKind W.prog W.w Kt} {d : Addr} {o : Obj} {k : Kt} {key : Value} {kvs : List (Kt × Value)}
theorem Qd9 {Q : VQ} (hm : (d, o) ∈ l) (ho : o.IsDictOf knd kvs) (hz : kvs.length < 2 ^ 63) (q : ∀ t, Q (.int kvs.length t) vals l) : WA Ψ (call (.builtin "len") [.ref d]) Q vals l :=
 WA.same q fun E P s a h => call_len_dict (notSys a hm) (dictAt a hm ho) (by exact ar5 hz) (h _ _)
noncomputable def WC (Ψ : Frm K N W) (c : Code) (Q : FQ) (vals : Vals) (l : Led) : Prop :=
 ∀ (R : Result → Shared → Prop) (s : Shared), At Ψ vals l s → (∀ f s' vals' l', Same s s' → At Ψ vals' l' s' → Q f vals' l' → R (.ok f) s') → codeAny (model W.prog W.w) Ψ.A c R s
theorem Qpi {c : Code} {Q : FQ} (h : WC Ψ c Q vals l) : WA Ψ (runOwn c Ψ.env) Q vals l := fun E s a =>
 wpAny_runOwn (h _ s a fun f s' v' l' S a' q => ⟨S, v', l', a', q⟩)
noncomputable def contL (Ψ : Frm K N W) (c : Code) (Q : FQ) : FQ
 | .next, vals, l => WC Ψ c Q vals l
 | .cont, vals, l => WC Ψ c Q vals l
 | .brk, vals, l => Q .next vals l
 | .ret v, vals, l => Q (.ret v) vals l
noncomputable def turnL (Ψ : Frm K N W) (target : Expr) (it : Value) (body orelse : List Stmt) (Q : FQ) : OQ
 | none, vals, l => WA Ψ (execs orelse Ψ.env) Q vals l
 | some v, vals, l => WA Ψ (letOwnedTupleGo target it v) (fun _ vals l => WA Ψ (assign target Ψ.env v) (fun _ vals l => WA Ψ (execs body Ψ.env) (contL Ψ (.forLoop target it body orelse Ψ.env) Q) vals l) vals l) vals l
theorem WC.for1 {target : Expr} {it : Value} {body orelse : List Stmt} {Q : FQ} (h : WA Ψ (pyNext it) (turnL Ψ target it body orelse Q) vals l) : WC Ψ (.forLoop target it body orelse Ψ.env) Q vals l := by
 intro R s a k
 refine codeAny_of_tree ?_
 show wpAny _ Ψ.A ((forTurn target it body orelse Ψ.env).onRaise (fun x => do noteFrame x Ψ.env; theTreesLotGoes x)) _ _ s
 refine wpAny_noted ?_
 simp only [forTurn]
 refine wpAny_bind (wpAny_standAt (wpAny_bind (wpAny_onRaise (wpAny_mono (h _ s a) (fun r s₁ h₁ => ?_) fun _ _ h' => wpAny_standAt h'))))
 kcj_m
 obtain ⟨S, v', l', a', h₁⟩ := h₁
 kd_p1
 cases r with
 | none => exact wpAny_pure ⟨rfl, codeAny_block (h₁.use a' fun f s' v'' l'' S' a'' q => k f s' v'' l'' (S.trans S') a'' q)⟩
 | some v =>
  refine wpAny_bind (h₁.use a' fun _ s₂ v2 l2 S2 a2 h2 => ?_)
  refine wpAny_bind (h2.use a2 fun _ s₃ v3 l3 S3 a3 h3 => ?_)
  refine wpAny_bind (h3.use a3 fun f s₄ v4 l4 S4 a4 h4 => ?_)
  have S' := ((S.trans S2).trans S3).trans S4
  cases f with
  | next => exact wpAny_pure ⟨rfl, h4 R s₄ a4 fun f s' v'' l'' S'' a'' q => k f s' v'' l'' (S'.trans S'') a'' q⟩
  | cont => exact wpAny_pure ⟨rfl, h4 R s₄ a4 fun f s' v'' l'' S'' a'' q => k f s' v'' l'' (S'.trans S'') a'' q⟩
  | brk => exact wpAny_pure (k _ _ _ _ S' a4 h4)
  | ret v => exact wpAny_pure (k _ _ _ _ S' a4 h4)
theorem WC.while1 {test : Expr} {body orelse : List Stmt} {Q : FQ} (h : WA Ψ (isTrue test Ψ.env (eval test Ψ.env)) (fun b vals l => if b = true then WA Ψ (execs body Ψ.env) (contL Ψ (.whileLoop test body orelse Ψ.env) Q) vals l else WA Ψ (execs orelse Ψ.env) Q vals l) vals l) :
  WC Ψ (.whileLoop test body orelse Ψ.env) Q vals l := by
 intro R s a k
 refine codeAny_of_tree ?_
 show wpAny _ Ψ.A ((whileTurn test body orelse Ψ.env).onRaise (fun x => do noteFrame x Ψ.env; theTreesLotGoes x)) _ _ s
 refine wpAny_noted ?_
 simp only [whileTurn]
 refine wpAny_bind (h.use a fun b s₁ v1 l1 S a1 h1 => ?_)
 cases b with
 | false =>
  simp only [Bool.false_eq_true, if_false] at h1 ⊢
  exact wpAny_bind (h1.use a1 fun f s₂ v2 l2 S2 a2 q => wpAny_pure (k f _ _ _ (S.trans S2) a2 q))
 | true =>
  simp only [if_true] at h1 ⊢
  refine wpAny_bind (h1.use a1 fun f s₄ v4 l4 S4 a4 h4 => ?_)
  have S' := S.trans S4
  cases f with
  | next => exact wpAny_pure ⟨rfl, h4 R s₄ a4 fun f s' v'' l'' S'' a'' q => k f s' v'' l'' (S'.trans S'') a'' q⟩
  | cont => exact wpAny_pure ⟨rfl, h4 R s₄ a4 fun f s' v'' l'' S'' a'' q => k f s' v'' l'' (S'.trans S'') a'' q⟩
  | brk => exact wpAny_pure (k _ _ _ _ S' a4 h4)
  | ret v => exact wpAny_pure (k _ _ _ _ S' a4 h4)
theorem WC.inv {c : Code} {Q : FQ} (I : Nat → Vals → Led → Prop) (turn : ∀ n vals l, I n vals l → (∀ m vals l, m < n → I m vals l → WC Ψ c Q vals l) → WC Ψ c Q vals l) (n : Nat) (h : I n vals l) : WC Ψ c Q vals l := by
 induction n using Nat.strongRecOn generalizing vals l with
 | ind n ih => exact turn n vals l h fun m vals l hm hI => ih m hm hI
theorem Qq7 {target iter : Expr} {body orelse : List Stmt} {pos : Pos} {Q : FQ} (h : WA Ψ (eval iter Ψ.env) (fun x vals l => WA Ψ (pyIter x) (fun it vals l => WC Ψ (.forLoop target it body orelse Ψ.env) Q vals l) vals l) vals l)
  (hf : ∀ x, foldedSetIterable iter Ψ.env x = Pure.pure x := by intro _; rfl) : WA Ψ (exec (.For target iter body orelse pos) Ψ.env) Q vals l := by
 rw [exec_For]
 refine WA.bind (WA.standAt (WA.bind (h.mono fun x _ _ h' => ?_)))
 rw [hf]
 exact WA.bind (WA.pure (WA.bind (WA.standAt (WA.bind ((WA.holding h').mono fun it _ _ h'' => Qpi h'')))))
theorem ZA {test : Expr} {body orelse : List Stmt} {pos : Pos} {Q : FQ} (h : WC Ψ (.whileLoop test body orelse Ψ.env) Q vals l) : WA Ψ (exec (.While test body orelse pos) Ψ.env) Q vals l := by
 rw [exec_While]
 exact WA.bind (WA.standAt (Qpi h))
theorem Zu {c : Code} {Q : FQ} (h : WC Ψ c Q vals l) : contL Ψ c Q .next vals l := h
theorem Zw {c : Code} {Q : FQ} (h : Q .next vals l) : contL Ψ c Q .brk vals l := h
theorem Zv {c : Code} {v : Value} {Q : FQ} (h : Q (.ret v) vals l) : contL Ψ c Q (.ret v) vals l := h
theorem Zy {x : Str} {xp : Pos} {it v : Value} {Q : UQ} (q : Q () vals l) : WA Ψ (letOwnedTupleGo (.Name x xp) it v) Q vals l := WA.pure q
theorem Zz {x : Str} {xp : Pos} {v : Value} {Q : UQ} (h : WA Ψ (PySem.bindName Ψ.env x v) Q vals l) : WA Ψ (assign (.Name x xp) Ψ.env v) Q vals l := WA.bind (WA.standAt h)
noncomputable abbrev rangeObj (a b c : Int) (t u v : Tok) : Obj := { cls := .type "range", dict := none, data := .fields #[.int a t, .int b u, .int c v], slots := #[] }
noncomputable abbrev rangeItObj (x left step : Int) : Obj := { cls := .type "range_iterator", dict := none, data := .fields #[rawInt x, rawInt left, rawInt step], slots := #[] }
theorem Qhp {r : Addr} {a b c : Int} {t u v : Tok} {Q : VQ} (hm : (r, rangeObj a b c t u v) ∈ l) (hs : Builtin.Range.small a b c = true) (q : ∀ x, Q (.ref x) vals ((x, rangeItObj a (Builtin.Range.rangeSize a b c) c) :: l)) :
  WA Ψ (pyIter (.ref r)) Q vals l := fun E s a' => wpAny_pyIter_range (a'.N _ hm).1 hs ⟨⟨rfl, rfl⟩, vals, _, a'.push, q _⟩
theorem Qho {it : Addr} {x left step : Int} {pre post : Led} {Q : OQ} (hl : l = pre ++ (it, rangeItObj x left step) :: post) (h0 : 0 < left)
  (q : ∀ t, Q (some (.int x t)) vals (pre ++ (it, rangeItObj (x + step) (left - 1) step) :: post)) : WA Ψ (pyNext (.ref it)) Q vals l := fun E s a => by
 subst hl
 exact wpAny_pyNext_range_item (a.N _ (mr (.head _))).1 h0 fun h' hi hs => ⟨⟨rfl, rfl⟩, vals, _, a.upd hs hi, q _⟩
theorem Qiu {it : Addr} {x left step : Int} {Q : OQ} (hh : Ψ.A.handled = none) (hm : (it, rangeItObj x left step) ∈ l) (h0 : left ≤ 0) (q : Q none vals (l.filter fun y => y.1 != it)) : WA Ψ (pyNext (.ref it)) Q vals l := fun E s a => by
 have hit := a.N _ hm
 refine wpAny_pyNext_range_end hh hit.1 h0 fun h' he => ⟨⟨rfl, rfl⟩, vals, _, ⟨⟨?_, fun b o e => ?_, a.F.above⟩, fun y hy => ?_, List.Nodup.sublist ((List.filter_sublist).map _) a.U, fun y hy => a.G y (List.mem_filter.mp hy).1⟩, q⟩
 ·exact a.F.ns.extBut he (Ne.symm hit.2.1)
 ·refine he b o (fun e' => ?_) (a.F.keep b o e)
  rw [e'] at e
  exact absurd (e.symm.trans hit.2.2) (by simp)
 ·obtain ⟨h1, h2⟩ := List.mem_filter.mp hy
  have n := a.N y h1
  exact ⟨he _ _ (by simpa using h2) n.1, n.2⟩
theorem Qad {α : Type} {T : Sem α} {Q : α → Vals → Led → Prop} (h : WA Ψ T (fun v vals l => ∃ l', l'.Perm l ∧ Q v vals l') vals l) : WA Ψ T Q vals l :=
 fun _ _ a => h.use a fun _ _ v' _ S a' ⟨l'', pm, q⟩ => ⟨S, v', l'', a'.sub (fun _ hx => pm.mem_iff.mp hx) ((pm.map _).nodup_iff.mpr a'.U), q⟩
theorem shiftPerm {M R : Led} {y : Addr × Obj} : (M ++ y :: R).Perm (y :: (M ++ R)) := List.perm_middle
theorem Zt {a b : Int} {t u : Tok} {M R : Led} {Q : VQ} (q : ∀ x t', Q (.ref x) vals (M ++ (x, rangeObj a b 1 t u t') :: R)) : WA Ψ (call (.type "range") [.int a t, .int b u]) Q vals (M ++ R) :=
 Qad fun E s h => call_range_2 ⟨⟨rfl, rfl⟩, vals, _, h.push, _, shiftPerm, q _ _⟩
theorem Qd0 {a : Int} {t : Tok} {M R : Led} {Q : VQ} (q : ∀ x t' t'', Q (.ref x) vals (M ++ (x, rangeObj 0 a 1 t' t t'') :: R)) : WA Ψ (call (.type "range") [.int a t]) Q vals (M ++ R) :=
 Qad fun E s h => call_range_1 ⟨⟨rfl, rfl⟩, vals, _, h.push, _, shiftPerm, q _ _ _⟩
theorem Qau {r : Addr} {a b c : Int} {t u v : Tok} {M R : Led} {Q : VQ} (hm : (r, rangeObj a b c t u v) ∈ R) (hs : Builtin.Range.small a b c = true) (q : ∀ x, Q (.ref x) vals (M ++ (x, rangeItObj a (Builtin.Range.rangeSize a b c) c) :: R)) :
  WA Ψ (pyIter (.ref r)) Q vals (M ++ R) := Qad (Qhp (mr hm) hs fun x => ⟨_, shiftPerm, q x⟩)
theorem Qat {it : Addr} {x left step : Int} {M R : Led} {Q : OQ} (h0 : 0 < left)
  (q : ∀ t, Q (some (.int x t)) vals (M ++ (it, rangeItObj (x + step) (left - 1) step) :: R)) : WA Ψ (pyNext (.ref it)) Q vals (M ++ (it, rangeItObj x left step) :: R) := Qho rfl h0 q
theorem Qab {vs : List Value} {M R : Led} {Q : VQ} (hz : vs.length ≤ sizeLine) (q : ∀ x, Q (.ref x) vals (M ++ (x, { cls := .type "tuple", data := .seq vs.toArray }) :: R)) : WA Ψ (PySem.newTuple vs) Q vals (M ++ R) :=
 Qad (WA.newTuple hz fun x => ⟨_, shiftPerm, q x⟩)
theorem Qaf {vs : List Value} {M R : Led} {Q : VQ} (hz : vs.length ≤ sizeLine) (q : ∀ x, Q (.ref x) vals (M ++ (x, { cls := .type "list", data := .seq vs.toArray }) :: R)) : WA Ψ (PySem.newList vs) Q vals (M ++ R) :=
 Qad (WA.newList hz fun x => ⟨_, shiftPerm, q x⟩)
theorem L.newTup {vs : List Value} {M R : Led} {Q : VQ} (hz : vs.length ≤ sizeLine) (q : ∀ x, let R' : Led := (x, { cls := .type "tuple", data := .seq vs.toArray }) :: R; Q (.ref x) vals (M ++ R')) : WA Ψ (PySem.newTuple vs) Q vals (M ++ R) := Qab hz q
theorem L.newList {vs : List Value} {M R : Led} {Q : VQ} (hz : vs.length ≤ sizeLine) (q : ∀ x, let R' : Led := (x, { cls := .type "list", data := .seq vs.toArray }) :: R; Q (.ref x) vals (M ++ R')) : WA Ψ (PySem.newList vs) Q vals (M ++ R) := Qaf hz q
theorem WC.letV {c : Code} {Q : FQ} (h : let v := vals; WC Ψ c Q v l) : WC Ψ c Q vals l := h
theorem WA.letV {α : Type} {T : Sem α} {Q : α → Vals → Led → Prop} (h : let v := vals; WA Ψ T Q v l) : WA Ψ T Q vals l := h
@[reducible] noncomputable def kBody (Q : VQ) (vals : Vals) : FQ := fun fl _ l' => ∃ l'', l''.Sublist l' ∧ Q (retOf fl) vals l''
theorem Qaa {f : Addr} {fd : FuncData} {body : List Stmt} {args : List Value} {kw : List (Str × Value)} {binds : List (Str × Value)} {rest : List Str} {N' : Nm} {n : Nat} {Q : VQ} (ok : FnOk (K W.w.params) f fd body) (sc : ScOk fd.scope.names N'.loc N'.glo) (hr : Room Ψ.A (n + 1))
  (hb : ∀ s : Shared, (K W.w.params).In s.heap → BindsTo s fd ⟨args, kw⟩ binds) (hn : binds.map (·.1) ++ rest = N'.loc) (v0 : Vals) (h0 : bv binds rest.length = v0)
  (h : ∀ Ψ' : Frm K N' W, Ψ'.env = callEnv fd Ψ'.L f → Room Ψ'.A n → WA Ψ' (execs body Ψ'.env) (kBody Q vals) v0 l) :
  WA Ψ (call (.ref f) args kw) Q vals l :=
 Qbd (Qkt ok sc (by have := hr.d; exact ar6 this) hb hn fun Ψ' e a => by rw [h0]; exact h Ψ' e (by rw [a]; exact hr.deeper))
theorem Zx {target : Expr} {it : Value} {body orelse : List Stmt} {Q : FQ} (h : WA Ψ (execs orelse Ψ.env) Q vals l) : turnL Ψ target it body orelse Q none vals l := h
theorem Qac {n : Nat} (h : n ≤ 1000) : n ≤ sizeLine := Nat.le_trans h (by rw [show sizeLine = 16777216 from rfl]; omega)
noncomputable abbrev tupObj (vs : List Value) : Obj := { cls := .type "tuple", data := .seq vs.toArray }
theorem Qqv {t : Addr} {items : Array Value} {n k : Nat} {dd : Option Addr} {sl : Array (Option Value)} {Q : LQ} (hh : Ψ.A.handled = none) (hm : (t, (⟨.type "tuple", dd, .seq items k, sl⟩ : Obj)) ∈ l) (hn : n = items.size) (q : Q items.toList vals l) : WA Ψ (unpackItems (.ref t) n none) Q vals l := fun E s a =>
 unpackItemsN_ a.F a.N ⟨_, (a.N _ hm).1, rfl, k, rfl⟩ hh hn fun h' F' N' => ⟨⟨rfl, rfl⟩, vals, l, ⟨F', N', a.U, a.G⟩, q⟩
theorem Qra {xs : List Value} {Q : UQ} (q : Q () vals l) : WA Ψ (assignInOrder [] xs) Q vals l := WA.pure q
theorem Qi4 {t : Value → Sem Unit} {ts : List (Value → Sem Unit)} {x : Value} {xs : List Value} {Q : UQ} (h : WA Ψ (t x) (fun _ vals l => WA Ψ (assignInOrder ts xs) Q vals l) vals l) : WA Ψ (assignInOrder (t :: ts) (x :: xs)) Q vals l :=
 WA.bind (WA.holding h)
theorem R.swap2 {x y : Str} {px py pt pv pos : Pos} {k1 k2 : Nat} {e1 e2 : Expr} {Q : FQ} (hh : Ψ.A.handled = none) (hp : ([e1, e2].all plainE) = true)
  (hs1 : swapsWithSole [.Tuple [.Name x px, .Name y py] k1 pt] (.Tuple [e1, e2] k2 pv) pos.line Ψ.env = Pure.pure false)
  (hs2 : swappedStores [.Tuple [.Name x px, .Name y py] k1 pt] (.Tuple [e1, e2] k2 pv) Ψ.env = Pure.pure (some [x, y]))
  (h : WA Ψ (eval e1 Ψ.env) (fun v1 vals l => WA Ψ (eval e2 Ψ.env) (fun v2 vals l => WA Ψ (PySem.bindName Ψ.env y v2) (fun _ vals l => WA Ψ (PySem.bindName Ψ.env x v1) (fun _ vals l => Q .next vals l) vals l) vals l) vals l) vals l) :
  WA Ψ (exec (.Assign [.Tuple [.Name x px, .Name y py] k1 pt] (.Tuple [e1, e2] k2 pv) pos) Ψ.env) Q vals l := by
 have h' : WA Ψ (eval (.Tuple [e1, e2] k2 pv) Ψ.env) (fun v vals l => WA Ψ (unpackItems v 2 none) (fun items vals l => WA Ψ (assignInOrder ([x, y].reverse.map fun n => PySem.bindName Ψ.env n) items.reverse) (fun _ vals l => Q .next vals l) vals l) vals l) vals l := by
  refine Qjv hp (h.mono fun v1 _ _ h1 => h1.mono fun v2 vals2 l2 h2 => ?_)
  show WA Ψ (PySem.newTuple [v1, v2]) _ _ _
  refine WA.newTuple (Qac (n := 2) (by kd_p)) fun t => ?_
  refine Qqv hh (.head _) rfl ?_
  refine WA.sublist l2 (sD) ?_
  exact Qi4 (h2.mono fun _ _ _ h3 => Qi4 (h3.mono fun _ _ _ h4 => Qra h4))
 exact fun E s a => Assign_Tuple_swapped (names := [x, y]) (h'.use a fun _ _ _ _ S a1 h1 => h1.use a1 fun _ _ _ _ S1 a2 h2 => h2.use a2 fun _ _ v' l' S2 a3 q => ⟨(S.trans S1).trans S2, v', l', a3, q⟩) hs1 hs2
theorem R.asT {elts : List Expr} {k : Nat} {tpos pos : Pos} {e : Expr} {Q : FQ} (hs1 : swapsWithSole [.Tuple elts k tpos] e pos.line Ψ.env = Pure.pure false) (hs2 : swappedStores [.Tuple elts k tpos] e Ψ.env = Pure.pure none)
  (h : WA Ψ (eval e Ψ.env) (fun v vals l => WA Ψ (assign (.Tuple elts k tpos) Ψ.env v) (fun _ vals l => Q .next vals l) vals l) vals l) : WA Ψ (exec (.Assign [.Tuple elts k tpos] e pos) Ψ.env) Q vals l := fun E s a =>
 Assign_Tuple (h.use a fun _ _ _ _ S a1 h1 => h1.use a1 fun _ _ v' l' S1 a2 q => ⟨S.trans S1, v', l', a2, q⟩) hs1 hs2
theorem R.unp {elts : List Expr} {k n : Nat} {tpos : Pos} {t : Addr} {items : Array Value} {dd : Option Addr} {sl : Array (Option Value)} {Q : UQ} (hh : Ψ.A.handled = none) (hm : (t, (⟨.type "tuple", dd, .seq items n, sl⟩ : Obj)) ∈ l) (hn : (assignEach elts Ψ.env).length = items.size) (hstar : (assignEach elts Ψ.env).findIdx? (·.1) = none)
  (h : WA Ψ (assignInOrder ((assignEach elts Ψ.env).map (·.2)) items.toList) Q vals l) : WA Ψ (assign (.Tuple elts k tpos) Ψ.env (.ref t)) Q vals l := fun E s a =>
 unpackN_ a.F a.N ⟨_, (a.N _ hm).1, rfl, n, rfl⟩ hh hn hstar fun h' F' N' => h.use (s := { s with heap := h' }) ⟨F', N', a.U, a.G⟩ fun _ _ v' l' S a2 q => ⟨S, v', l', a2, q⟩
theorem Q6r {x : Str} {px : Pos} {es : List Expr} {v : Value} {vs : List Value} {Q : UQ} (h : WA Ψ (PySem.bindName Ψ.env x v) (fun _ vals l => WA Ψ (assignInOrder ((assignEach es Ψ.env).map (·.2)) vs) Q vals l) vals l) :
  WA Ψ (assignInOrder ((assignEach (.Name x px :: es) Ψ.env).map (·.2)) (v :: vs)) Q vals l := Qi4 (t := fun v => assign (.Name x px) Ψ.env v) (Zz h)
theorem ZG {xs : List Value} {Q : UQ} (q : Q () vals l) : WA Ψ (assignInOrder ((assignEach [] Ψ.env).map (·.2)) xs) Q vals l := WA.pure q
theorem Zq {v : Value} {Q : VQ} (q : Q (.bool (!(v == .none))) vals l) : WA Ψ (compareOp .IsNot v .none) Q vals l := fun _ s a => isnot_none_gen ⟨Same.refl s, vals, l, a, q⟩
theorem Qrb {id : String} {x : Value} {args : List Expr} {Q : VQ} (h : argsOf Ψ args (fun vs vals l => WA Ψ (call (.builtin id) (x :: vs) []) Q vals l) vals l) : methK Ψ args Q (.builtin id, [x]) vals l := ⟨trivial, h⟩
theorem Qu0 {id : String} {args : List Expr} {Q : VQ} (h : argsOf Ψ args (fun vs vals l => WA Ψ (call (.builtin id) vs []) Q vals l) vals l) : funK Ψ args Q (.builtin id) vals l := ⟨trivial, h⟩
theorem Quz {id : String} {args : List Expr} {Q : VQ} (h : argsOf Ψ args (fun vs vals l => WA Ψ (call (.type id) vs []) Q vals l) vals l) : funK Ψ args Q (.type id) vals l := ⟨trivial, h⟩
structure DefIs (K : Frag) (x : Str) (f : Addr) : Prop where
 g : GlobIs K x (.ref f)
 k : keepIn K (.ref f) = true
theorem R.funR {x : Str} {pos : Pos} {f : Addr} {args : List Expr} {Q : VQ} (h : NmG N.glo x) (g : DefIs (K W.w.params) x f)
  (q : argsOf Ψ args (fun vs vals l => WA Ψ (call (.ref f) vs []) Q vals l) vals l) : WA Ψ (eval (.Name x pos) Ψ.env) (funK Ψ args Q) vals l   := Pa h g.g ⟨g.k, q⟩
theorem R.expr {x : Expr} {pos : Pos} {Q : FQ} (h : WA Ψ (eval x Ψ.env) (fun _ vals l => Q .next vals l) vals l) (hs : swapsWith x none pos.line Ψ.env = Pure.pure false) : WA Ψ (exec (.Expr x pos) Ψ.env) Q vals l :=
 WA.expr h (by unfold interactive; rw [Ψ.e.kind]; rfl) hs
noncomputable def methKK (Ψ : Frm K N W) (args : List Expr) (ks : List Keyword) (ns : List Str) (Q : VQ) (fx : Value × List Value) (vals : Vals) (l : Led) : Prop :=
 KeepOk (K W.w.params) fx.1 ∧ argsOf Ψ args (fun vs vals l => kwOf Ψ ks (fun kv vals l => WA Ψ (call fx.1 (fx.2 ++ vs) (ns.zip kv)) Q vals l) vals l) vals l
theorem R.callMK {o : Expr} {name : Str} {apos pos : Pos} {args : List Expr} {ks : List Keyword} {ns : List Str} {pl : Sem Bool} {Q : VQ} (hs : args.all plainE = true) (hk : (backToKw pos (keywordEach ks Ψ.env)).all (·.1.isSome) = true) (hn : (backToKw pos (keywordEach ks Ψ.env)).filterMap (·.1) = ns)
  (h : WA Ψ (eval o Ψ.env) (fun ov vals l => WA Ψ (getMethod ov name pl) (methKK Ψ args ks ns Q) vals l) vals l)
  (he : eval (.Call (.Attribute o name apos) args ks pos) Ψ.env = (do let ov ← eval o Ψ.env; PySem.standAt apos.atName; let (f, first) ← PySem.holding [ov] (getMethod ov name pl); PySem.callWith pos f first (backTo pos (starEach args Ψ.env)) (backToKw pos (keywordEach ks Ψ.env)))) :
  WA Ψ (eval (.Call (.Attribute o name apos) args ks pos) Ψ.env) Q vals l := by
 subst hn
 exact WA.callM hs hk h he
theorem Qag {t : Addr} {vs : List Value} {ys : List Str} {x : Str} {u : Tok} {Q : VQ} (hm : (t, tupObj vs) ∈ l) (hi : StrsAre vs ys) (q : Q (.bool (ys.any (· == x))) vals l) : WA Ψ (compareOp .In (.str x u) (.ref t)) Q vals l := fun E s a =>
 in_tuple_strs (items := vs.toArray) ⟨_, (a.N _ hm).1, rfl, 0, rfl⟩ hi ⟨Same.refl s, _, l, a, q⟩
end
end Mine
end
section
namespace Mine
@[reducible] noncomputable def kNext {α : Type} (Q : FQ) : α → Vals → Led → Prop := fun _ vals l => Q .next vals l
@[reducible] noncomputable def kRetV (Q : FQ) : VQ := fun v vals l => Q (.ret v) vals l
@[reducible] noncomputable def kNot (Q : BQ) : BQ := fun b vals l => Q (!b) vals l
@[reducible] noncomputable def kCons (v : Value) (Q : LQ) : LQ := fun vs vals l => Q (v :: vs) vals l
section
variable {K : Params → Frag} {N : Nm}
@[reducible] noncomputable def kIf (x y : List Stmt) {W : Wd} (Ψ : Frm K N W) (Q : FQ) : BQ := fun b vals l => if b = true then WA Ψ (execs x Ψ.env) Q vals l else WA Ψ (execs y Ψ.env) Q vals l
@[reducible] noncomputable def kIfE (x y : Expr) {W : Wd} (Ψ : Frm K N W) (Q : VQ) : BQ := fun b vals l => if b = true then WA Ψ (eval x Ψ.env) Q vals l else WA Ψ (eval y Ψ.env) Q vals l
@[reducible] noncomputable def kAnd (r : List Expr) {W : Wd} (Ψ : Frm K N W) (Q : BQ) : BQ := fun b vals l => if b = true then WA Ψ (allTrue .And r Ψ.env) Q vals l else Q false vals l
@[reducible] noncomputable def kOr (r : List Expr) {W : Wd} (Ψ : Frm K N W) (Q : BQ) : BQ := fun b vals l => if b = true then Q true vals l else WA Ψ (allTrue .Or r Ψ.env) Q vals l
@[reducible] noncomputable def kAs (x : Str) {W : Wd} (Ψ : Frm K N W) (Q : FQ) : VQ := fun v vals l => WA Ψ (bindName Ψ.env x v) (kNext Q) vals l
@[reducible] noncomputable def kAsA2 (x : Str) {W : Wd} (Ψ : Frm K N W) (v : Value) (Q : FQ) : VQ := fun ov vals l => WA Ψ (setAttr ov x v) (kNext Q) vals l
@[reducible] noncomputable def kAsA (o : Expr) (x : Str) {W : Wd} (Ψ : Frm K N W) (Q : FQ) : VQ := fun v vals l => WA Ψ (eval o Ψ.env) (kAsA2 x Ψ v Q) vals l
@[reducible] noncomputable def kAsS3 {W : Wd} (Ψ : Frm K N W) (v ov : Value) (Q : FQ) : VQ := fun iv vals l => WA Ψ (setItem ov iv v) (kNext Q) vals l
@[reducible] noncomputable def kAsS2 (i : Expr) {W : Wd} (Ψ : Frm K N W) (v : Value) (Q : FQ) : VQ := fun ov vals l => WA Ψ (eval i Ψ.env) (kAsS3 Ψ v ov Q) vals l
@[reducible] noncomputable def kAsS (o i : Expr) {W : Wd} (Ψ : Frm K N W) (Q : FQ) : VQ := fun v vals l => WA Ψ (eval o Ψ.env) (kAsS2 i Ψ v Q) vals l
@[reducible] noncomputable def kAu5 {W : Wd} (Ψ : Frm K N W) (ov iv : Value) (Q : FQ) : VQ := fun new vals l => WA Ψ (setItem ov iv new) (kNext Q) vals l
@[reducible] noncomputable def kAu4 (op : Operator) {W : Wd} (Ψ : Frm K N W) (ov iv old : Value) (Q : FQ) : VQ := fun v vals l => WA Ψ (inplaceOp op old v) (kAu5 Ψ ov iv Q) vals l
@[reducible] noncomputable def kAu3 (op : Operator) (e : Expr) {W : Wd} (Ψ : Frm K N W) (ov iv : Value) (Q : FQ) : VQ := fun old vals l => WA Ψ (eval e Ψ.env) (kAu4 op Ψ ov iv old Q) vals l
@[reducible] noncomputable def kAu2 (op : Operator) (e : Expr) {W : Wd} (Ψ : Frm K N W) (ov : Value) (Q : FQ) : VQ := fun iv vals l => WA Ψ (getItem ov iv) (kAu3 op e Ψ ov iv Q) vals l
@[reducible] noncomputable def kAu (i : Expr) (op : Operator) (e : Expr) {W : Wd} (Ψ : Frm K N W) (Q : FQ) : VQ := fun ov vals l => WA Ψ (eval i Ψ.env) (kAu2 op e Ψ ov Q) vals l
@[reducible] noncomputable def kAn2 (x : Str) {W : Wd} (Ψ : Frm K N W) (Q : FQ) : VQ := fun new vals l => WA Ψ (bindName Ψ.env x new) (kNext Q) vals l
@[reducible] noncomputable def kAn (x : Str) (op : Operator) {W : Wd} (Ψ : Frm K N W) (v : Value) (Q : FQ) : VQ := fun y vals l => WA Ψ (inplaceOp op v y) (kAn2 x Ψ Q) vals l
@[reducible] noncomputable def kOp (op : Operator) {W : Wd} (Ψ : Frm K N W) (a : Value) (Q : VQ) : VQ := fun b vals l => WA Ψ (binaryOp op a b) Q vals l
@[reducible] noncomputable def kOp2 (op : Operator) (y : Expr) {W : Wd} (Ψ : Frm K N W) (Q : VQ) : VQ := fun a vals l => WA Ψ (eval y Ψ.env) (kOp op Ψ a Q) vals l
@[reducible] noncomputable def kUn (op : UnaryOp) {W : Wd} (Ψ : Frm K N W) (Q : VQ) : VQ := fun a vals l => WA Ψ (unaryOp op a) Q vals l
@[reducible] noncomputable def kCmp (op : CmpOp) {W : Wd} (Ψ : Frm K N W) (a : Value) (Q : VQ) : VQ := fun b vals l => WA Ψ (compareOp op a b) Q vals l
@[reducible] noncomputable def kCmp2 (op : CmpOp) (y : Expr) {W : Wd} (Ψ : Frm K N W) (Q : VQ) : VQ := fun a vals l => WA Ψ (eval y Ψ.env) (kCmp op Ψ a Q) vals l
@[reducible] noncomputable def kTr {W : Wd} (Ψ : Frm K N W) (Q : BQ) : VQ := fun c vals l => WA Ψ (truthy c) Q vals l
@[reducible] noncomputable def kTC (op : CmpOp) {W : Wd} (Ψ : Frm K N W) (a : Value) (Q : BQ) : VQ := fun b vals l => WA Ψ (compareOp op a b) (kTr Ψ Q) vals l
@[reducible] noncomputable def kTC2 (op : CmpOp) (y : Expr) {W : Wd} (Ψ : Frm K N W) (Q : BQ) : VQ := fun a vals l => WA Ψ (eval y Ψ.env) (kTC op Ψ a Q) vals l
@[reducible] noncomputable def kSub (o i : Expr) {W : Wd} (Ψ : Frm K N W) (ov : Value) (Q : VQ) : VQ := fun iv vals l => WA Ψ (subscriptTail o i ov iv) Q vals l
@[reducible] noncomputable def kSub2 (o i : Expr) {W : Wd} (Ψ : Frm K N W) (Q : VQ) : VQ := fun ov vals l => WA Ψ (eval i Ψ.env) (kSub o i Ψ ov Q) vals l
@[reducible] noncomputable def kAttr (x : Str) {W : Wd} (Ψ : Frm K N W) (Q : VQ) : VQ := fun ov vals l => WA Ψ (getAttr ov x true) Q vals l
@[reducible] noncomputable def kTup {W : Wd} (Ψ : Frm K N W) (Q : VQ) : LQ := fun vs vals l => WA Ψ (PySem.newTuple vs) Q vals l
@[reducible] noncomputable def kLst {W : Wd} (Ψ : Frm K N W) (Q : VQ) : LQ := fun vs vals l => WA Ψ (PySem.newList vs) Q vals l
@[reducible] noncomputable def kArg (r : List Expr) {W : Wd} (Ψ : Frm K N W) (Q : LQ) : VQ := fun v vals l => argsOf Ψ r (kCons v Q) vals l
@[reducible] noncomputable def kKw (r : List Keyword) {W : Wd} (Ψ : Frm K N W) (Q : LQ) : VQ := fun v vals l => kwOf Ψ r (kCons v Q) vals l
@[reducible] noncomputable def kFun {W : Wd} (Ψ : Frm K N W) (f : Value) (Q : VQ) : LQ := fun vs vals l => WA Ψ (call f vs []) Q vals l
@[reducible] noncomputable def kCall {W : Wd} (Ψ : Frm K N W) (f x : Value) (Q : VQ) : LQ := fun vs vals l => WA Ψ (call f (x :: vs) []) Q vals l
@[reducible] noncomputable def kGM (name : Str) (pl : Sem Bool) (args : List Expr) {W : Wd} (Ψ : Frm K N W) (Q : VQ) : VQ := fun ov vals l => WA Ψ (getMethod ov name pl) (methK Ψ args Q) vals l
@[reducible] noncomputable def kCallK (ns : List Str) {W : Wd} (Ψ : Frm K N W) (f x : Value) (vs : List Value) (Q : VQ) : LQ := fun kv vals l => WA Ψ (call f (x :: vs) (ns.zip kv)) Q vals l
@[reducible] noncomputable def kCallKK (ks : List Keyword) (ns : List Str) {W : Wd} (Ψ : Frm K N W) (f x : Value) (Q : VQ) : LQ := fun vs vals l => kwOf Ψ ks (kCallK ns Ψ f x vs Q) vals l
@[reducible] noncomputable def kGMK (name : Str) (pl : Sem Bool) (args : List Expr) (ks : List Keyword) (ns : List Str) {W : Wd} (Ψ : Frm K N W) (Q : VQ) : VQ := fun ov vals l => WA Ψ (getMethod ov name pl) (methKK Ψ args ks ns Q) vals l
@[reducible] noncomputable def kFor2 (target : Expr) (body orelse : List Stmt) {W : Wd} (Ψ : Frm K N W) (Q : FQ) : VQ := fun it vals l => WC Ψ (.forLoop target it body orelse Ψ.env) Q vals l
@[reducible] noncomputable def kFor (target : Expr) (body orelse : List Stmt) {W : Wd} (Ψ : Frm K N W) (Q : FQ) : VQ := fun x vals l => WA Ψ (pyIter x) (kFor2 target body orelse Ψ Q) vals l
@[reducible] noncomputable def kWh (test : Expr) (body orelse : List Stmt) {W : Wd} (Ψ : Frm K N W) (Q : FQ) : BQ := fun b vals l => if b = true then WA Ψ (execs body Ψ.env) (contL Ψ (.whileLoop test body orelse Ψ.env) Q) vals l else WA Ψ (execs orelse Ψ.env) Q vals l
@[reducible] noncomputable def kTurn2 (target : Expr) (body orelse : List Stmt) {W : Wd} (Ψ : Frm K N W) (it : Value) (Q : FQ) : UQ := fun _ vals l => WA Ψ (execs body Ψ.env) (contL Ψ (.forLoop target it body orelse Ψ.env) Q) vals l
@[reducible] noncomputable def kTurn (target : Expr) (body orelse : List Stmt) {W : Wd} (Ψ : Frm K N W) (it v : Value) (Q : FQ) : UQ := fun _ vals l => WA Ψ (assign target Ψ.env v) (kTurn2 target body orelse Ψ it Q) vals l
@[reducible] noncomputable def kAi (es : List Expr) {W : Wd} (Ψ : Frm K N W) (vs : List Value) (Q : UQ) : UQ := fun _ vals l => WA Ψ (assignInOrder ((assignEach es Ψ.env).map (·.2)) vs) Q vals l
@[reducible] noncomputable def kAsT (t : Expr) {W : Wd} (Ψ : Frm K N W) (Q : FQ) : VQ := fun v vals l => WA Ψ (assign t Ψ.env v) (kNext Q) vals l
@[reducible] noncomputable def kSw3 (x : Str) {W : Wd} (Ψ : Frm K N W) (v1 : Value) (Q : FQ) : UQ := fun _ vals l => WA Ψ (bindName Ψ.env x v1) (kNext Q) vals l
@[reducible] noncomputable def kSw2 (x y : Str) {W : Wd} (Ψ : Frm K N W) (v1 : Value) (Q : FQ) : VQ := fun v2 vals l => WA Ψ (bindName Ψ.env y v2) (kSw3 x Ψ v1 Q) vals l
@[reducible] noncomputable def kSw (x y : Str) (e2 : Expr) {W : Wd} (Ψ : Frm K N W) (Q : FQ) : VQ := fun v1 vals l => WA Ψ (eval e2 Ψ.env) (kSw2 x y Ψ v1 Q) vals l
theorem Ua {st : Stmt} {r : List Stmt} {W : Wd} {Ψ : Frm K N W} {Q : FQ} {vals : Vals} {l : Led} (h : let q := contS Ψ r Q; let v := vals; let m := l; WA Ψ (exec st Ψ.env) q v m) : WA Ψ (execs (st :: r) Ψ.env) Q vals l := R.seq h
theorem Yb {e : Expr} {pos : Pos} {W : Wd} {Ψ : Frm K N W} {Q : FQ} {vals : Vals} {l : Led} (h : let q := kRetV Q; WA Ψ (eval e Ψ.env) q vals l) : WA Ψ (exec (.Return (some e) pos) Ψ.env) Q vals l := WA.ret h
theorem Ya {t : Expr} {x y : List Stmt} {pos : Pos} {W : Wd} {Ψ : Frm K N W} {Q : FQ} {vals : Vals} {l : Led} (h : let q := kIf x y Ψ Q; WA Ψ (isTrue t Ψ.env (eval t Ψ.env)) q vals l) : WA Ψ (exec (.If t x y pos) Ψ.env) Q vals l := Qut h
theorem Xa {x : Str} {xp pos : Pos} {e : Expr} {W : Wd} {Ψ : Frm K N W} {Q : FQ} {vals : Vals} {l : Led} (hsw : swapsWith e (some (.Name x xp)) pos.line Ψ.env = Pure.pure false)
  (h : let q := kAs x Ψ Q; WA Ψ (eval e Ψ.env) q vals l) : WA Ψ (exec (.Assign [.Name x xp] e pos) Ψ.env) Q vals l := Qux hsw h
theorem Xb {o e : Expr} {x : Str} {xp pos : Pos} {W : Wd} {Ψ : Frm K N W} {Q : FQ} {vals : Vals} {l : Led} (hsw : swapsWith e (some (.Attribute o x xp)) pos.line Ψ.env = Pure.pure false)
  (h : let q := kAsA o x Ψ Q; WA Ψ (eval e Ψ.env) q vals l) : WA Ψ (exec (.Assign [.Attribute o x xp] e pos) Ψ.env) Q vals l := Quy h hsw
theorem Xc {o i e : Expr} {xp pos : Pos} {W : Wd} {Ψ : Frm K N W} {Q : FQ} {vals : Vals} {l : Led} (hsw : swapsWith e (some (.Subscript o i xp)) pos.line Ψ.env = Pure.pure false)
  (h : let q := kAsS o i Ψ Q; WA Ψ (eval e Ψ.env) q vals l) : WA Ψ (exec (.Assign [.Subscript o i xp] e pos) Ψ.env) Q vals l := Quw h hsw
theorem Xh {o i e : Expr} {op : Operator} {xp pos : Pos} {W : Wd} {Ψ : Frm K N W} {Q : FQ} {vals : Vals} {l : Led}
  (ha : ∀ (ov iv new : Value), augStore i ov iv new = (do PySem.holding [new, ov, iv] (setItem ov iv new); PySem.release [new, ov, iv] []; Pure.pure .next))
  (h : let q := kAu i op e Ψ Q; WA Ψ (eval o Ψ.env) q vals l) : WA Ψ (exec (.AugAssign (.Subscript o i xp) op e pos) Ψ.env) Q vals l := Qq8 h ha
theorem Xd {x : Expr} {pos : Pos} {W : Wd} {Ψ : Frm K N W} {Q : FQ} {vals : Vals} {l : Led} (hs : swapsWith x none pos.line Ψ.env = Pure.pure false) (h : let q := kNext Q; WA Ψ (eval x Ψ.env) q vals l) : WA Ψ (exec (.Expr x pos) Ψ.env) Q vals l := R.expr h hs
theorem Ye {x y : Expr} {op : Operator} {pos : Pos} {W : Wd} {Ψ : Frm K N W} {Q : VQ} {vals : Vals} {l : Led} (h : let q := kOp2 op y Ψ Q; WA Ψ (eval x Ψ.env) q vals l) : WA Ψ (eval (.BinOp x op y pos) Ψ.env) Q vals l := Qov h
theorem Yf {x : Expr} {op : UnaryOp} {pos : Pos} {W : Wd} {Ψ : Frm K N W} {Q : VQ} {vals : Vals} {l : Led} (h : let q := kUn op Ψ Q; WA Ψ (eval x Ψ.env) q vals l) : WA Ψ (eval (.UnaryOp op x pos) Ψ.env) Q vals l := Qqw h
theorem Yg {t x y : Expr} {pos : Pos} {W : Wd} {Ψ : Frm K N W} {Q : VQ} {vals : Vals} {l : Led} (h : let q := kIfE x y Ψ Q; WA Ψ (isTrue t Ψ.env (eval t Ψ.env)) q vals l) : WA Ψ (eval (.IfExp t x y pos) Ψ.env) Q vals l := Qor h
theorem Xe {x y : Expr} {op : CmpOp} {pos : Pos} {W : Wd} {Ψ : Frm K N W} {Q : VQ} {vals : Vals} {l : Led} (hm : behindInMarks op y = false) (h : let q := kCmp2 op y Ψ Q; WA Ψ (eval x Ψ.env) q vals l) : WA Ψ (eval (.Compare x [op] [y] pos) Ψ.env) Q vals l := Quv hm h
theorem Xf {x y : Expr} {op : CmpOp} {pos : Pos} {W : Wd} {Ψ : Frm K N W} {whole : Sem Value} {Q : BQ} {vals : Vals} {l : Led} (hm : behindInMarks op y = false) (h : let q := kTC2 op y Ψ Q; WA Ψ (eval x Ψ.env) q vals l) : WA Ψ (isTrue (.Compare x [op] [y] pos) Ψ.env whole) Q vals l := Qqy hm h
theorem Yh {x : Expr} {pos : Pos} {W : Wd} {Ψ : Frm K N W} {whole : Sem Value} {Q : BQ} {vals : Vals} {l : Led} (h : let q := kNot Q; WA Ψ (isTrue x Ψ.env (eval x Ψ.env)) q vals l) : WA Ψ (isTrue (.UnaryOp .Not x pos) Ψ.env whole) Q vals l := Qqx h
theorem Zf {op : BoolOp} {vs : List Expr} {pos : Pos} {W : Wd} {Ψ : Frm K N W} {whole : Sem Value} {Q : BQ} {vals : Vals} {l : Led} (h : WA Ψ (allTrue op vs Ψ.env) Q vals l) : WA Ψ (isTrue (.BoolOp op vs pos) Ψ.env whole) Q vals l := h
theorem Yi {x : Expr} {r : List Expr} {W : Wd} {Ψ : Frm K N W} {Q : BQ} {vals : Vals} {l : Led} (h : let q := kAnd r Ψ Q; WA Ψ (isTrue x Ψ.env (eval x Ψ.env)) q vals l) : WA Ψ (allTrue .And (x :: r) Ψ.env) Q vals l := Qm0 h
theorem Yj {x : Expr} {r : List Expr} {W : Wd} {Ψ : Frm K N W} {Q : BQ} {vals : Vals} {l : Led} (h : let q := kOr r Ψ Q; WA Ψ (isTrue x Ψ.env (eval x Ψ.env)) q vals l) : WA Ψ (allTrue .Or (x :: r) Ψ.env) Q vals l := Qox h
theorem Xi {e : Expr} {W : Wd} {Ψ : Frm K N W} {Q : BQ} {vals : Vals} {l : Led} (he : ∀ whole env, isTrue e env whole = (do let v ← whole; PySem.standAt e.pos; PySem.holding [v] (truthy v))) (h : let q := kTr Ψ Q; WA Ψ (eval e Ψ.env) q vals l) : WA Ψ (isTrue e Ψ.env (eval e Ψ.env)) Q vals l := Qmk h (he _ _)
theorem Yk {o i : Expr} {pos : Pos} {W : Wd} {Ψ : Frm K N W} {Q : VQ} {vals : Vals} {l : Led} (h : let q := kSub2 o i Ψ Q; WA Ψ (eval o Ψ.env) q vals l) : WA Ψ (eval (.Subscript o i pos) Ψ.env) Q vals l := Qqz h
theorem Xj {o : Expr} {x : Str} {pos : Pos} {W : Wd} {Ψ : Frm K N W} {Q : VQ} {vals : Vals} {l : Led} (hb : ∀ env, attributeBase o x env (eval o env) = eval o env) (h : let q := kAttr x Ψ Q; WA Ψ (eval o Ψ.env) q vals l) : WA Ψ (eval (.Attribute o x pos) Ψ.env) Q vals l := Qq9 h (hb _)
theorem Xg {es : List Expr} {k : Nat} {pos : Pos} {W : Wd} {Ψ : Frm K N W} {Q : VQ} {vals : Vals} {l : Led} (hs : es.all plainE = true) (h : let q := kTup Ψ Q; argsOf Ψ es q vals l) : WA Ψ (eval (.Tuple es k pos) Ψ.env) Q vals l := Qjv hs h
theorem L.list {es : List Expr} {pos : Pos} {W : Wd} {Ψ : Frm K N W} {Q : VQ} {vals : Vals} {l : Led} (hs : es.all plainE = true) (h : let q := kLst Ψ Q; argsOf Ψ es q vals l) : WA Ψ (eval (.List es pos) Ψ.env) Q vals l := WA.list hs h
theorem Yl {e : Expr} {r : List Expr} {W : Wd} {Ψ : Frm K N W} {Q : LQ} {vals : Vals} {l : Led} (h : let q := kArg r Ψ Q; WA Ψ (eval e Ψ.env) q vals l) : argsOf Ψ (e :: r) Q vals l := h
theorem Vb {x : Str} {pos : Pos} {r : List Expr} {i : Nat} {W : Wd} {Ψ : Frm K N W} {v : Value} {Q : LQ} {vals : Vals} {l : Led} (hi : NmI N.loc x i) (hv : vget vals i = some v) (h : argsOf Ψ r (kCons v Q) vals l) : argsOf Ψ (.Name x pos :: r) Q vals l := Va (Q := fun v vals l => argsOf Ψ r (fun vs vals l => Q (v :: vs) vals l) vals l) hi hv h
theorem Zh {W : Wd} {Ψ : Frm K N W} {Q : LQ} {vals : Vals} {l : Led} (h : Q [] vals l) : argsOf Ψ [] Q vals l := h
theorem Ym {e : Keyword} {r : List Keyword} {W : Wd} {Ψ : Frm K N W} {Q : LQ} {vals : Vals} {l : Led} (h : let q := kKw r Ψ Q; WA Ψ (eval e.value Ψ.env) q vals l) : kwOf Ψ (e :: r) Q vals l := h
theorem Fa {o : Expr} {name : Str} {apos pos : Pos} {args : List Expr} {pl : Sem Bool} {W : Wd} {Ψ : Frm K N W} {Q : VQ} {vals : Vals} {l : Led} (hs : args.all plainE = true)
  (he : eval (.Call (.Attribute o name apos) args [] pos) Ψ.env = (do let ov ← eval o Ψ.env; PySem.standAt apos.atName; let (f, first) ← PySem.holding [ov] (getMethod ov name pl); PySem.callWith pos f first (backTo pos (starEach args Ψ.env)) (backToKw pos (keywordEach [] Ψ.env))))
  (h : let q := kGM name pl args Ψ Q; WA Ψ (eval o Ψ.env) q vals l) : WA Ψ (eval (.Call (.Attribute o name apos) args [] pos) Ψ.env) Q vals l := R.callM hs h he
theorem Fb {g : Expr} {args : List Expr} {pos : Pos} {W : Wd} {Ψ : Frm K N W} {Q : VQ} {vals : Vals} {l : Led} (hs : args.all plainE = true)
  (he : ∀ env, eval (.Call g args [] pos) env = (do let f ← eval g env; PySem.callWith pos f [] (backTo pos (starEach args env)) (backToKw pos (keywordEach [] env))))
  (h : let q := funK Ψ args Q; WA Ψ (eval g Ψ.env) q vals l) : WA Ψ (eval (.Call g args [] pos) Ψ.env) Q vals l := R.callN hs h (he _)
theorem Yn {args : List Expr} {id : String} {W : Wd} {Ψ : Frm K N W} {x : Value} {Q : VQ} {vals : Vals} {l : Led} (h : let q := kCall Ψ (.builtin id) x Q; argsOf Ψ args q vals l) : methK Ψ args Q (.builtin id, [x]) vals l := Qrb h
theorem Yo {args : List Expr} {id : String} {W : Wd} {Ψ : Frm K N W} {Q : VQ} {vals : Vals} {l : Led} (h : let q := kFun Ψ (.builtin id) Q; argsOf Ψ args q vals l) : funK Ψ args Q (.builtin id) vals l := Qu0 h
theorem Yp {args : List Expr} {id : String} {W : Wd} {Ψ : Frm K N W} {Q : VQ} {vals : Vals} {l : Led} (h : let q := kFun Ψ (.type id) Q; argsOf Ψ args q vals l) : funK Ψ args Q (.type id) vals l := Quz h
theorem L.funR {x : Str} {pos : Pos} {f : Addr} {args : List Expr} {W : Wd} {Ψ : Frm K N W} {Q : VQ} {vals : Vals} {l : Led} (h : NmG N.glo x) (g : DefIs (K W.w.params) x f) (q : let q := kFun Ψ (.ref f) Q; argsOf Ψ args q vals l) : WA Ψ (eval (.Name x pos) Ψ.env) (funK Ψ args Q) vals l := R.funR h g q
theorem Xk {target iter : Expr} {body orelse : List Stmt} {pos : Pos} {W : Wd} {Ψ : Frm K N W} {Q : FQ} {vals : Vals} {l : Led} (hf : ∀ env x, foldedSetIterable iter env x = Pure.pure x) (h : let q := kFor target body orelse Ψ Q; WA Ψ (eval iter Ψ.env) q vals l) : WA Ψ (exec (.For target iter body orelse pos) Ψ.env) Q vals l := Qq7 h (hf _)
theorem L.while1 {test : Expr} {body orelse : List Stmt} {W : Wd} {Ψ : Frm K N W} {Q : FQ} {vals : Vals} {l : Led} (h : let q := kWh test body orelse Ψ Q; let v := vals; let m := l; WA Ψ (isTrue test Ψ.env (eval test Ψ.env)) q v m) : WC Ψ (.whileLoop test body orelse Ψ.env) Q vals l := WC.while1 h
theorem L.for1 {target : Expr} {body orelse : List Stmt} {W : Wd} {Ψ : Frm K N W} {it : Value} {Q : FQ} {vals : Vals} {l : Led} (h : let v := vals; WA Ψ (pyNext it) (turnL Ψ target it body orelse Q) v l) : WC Ψ (.forLoop target it body orelse Ψ.env) Q vals l := WC.for1 h
theorem Yv {target : Expr} {body orelse : List Stmt} {W : Wd} {Ψ : Frm K N W} {it v : Value} {Q : FQ} {vals : Vals} {l : Led} (h : let q := kTurn target body orelse Ψ it v Q; WA Ψ (letOwnedTupleGo target it v) q vals l) : turnL Ψ target it body orelse Q (some v) vals l := h
theorem La {x : Str} {xp pos : Pos} {op : Operator} {value : Expr} {i : Nat} {W : Wd} {Ψ : Frm K N W} {v : Value} {Q : FQ} {vals : Vals} {l : Led} (hi : NmI N.loc x i) (hv : vget vals i = some v)
  (h : let q := kAn x op Ψ v Q; WA Ψ (eval value Ψ.env) q vals l) : WA Ψ (exec (.AugAssign (.Name x xp) op value pos) Ψ.env) Q vals l := by
 rw [exec_AugAssign_Name]
 have hk := Ψ.sc.loc x (List.mem_of_getElem? hi.at)
 refine WA.bind (WA.standAt (WA.bind ?_))
 have hl : WA Ψ (loadName Ψ.env x) (fun old vals' l' => old = v ∧ vals' = vals ∧ l' = l) vals l := fun _ s a =>
  wpAny_loadName_local Ψ.e.kind hk.1 (Ψ.e.loc ▸ a.F.ns) (Qjq Ψ.sc.nd hi.at (Qf9 hv)) ⟨Same.refl s, vals, l, a, rfl, rfl, rfl⟩
 refine hl.mono fun old _ _ ⟨e1, e2, e3⟩ => ?_
 subst e1 e2 e3
 exact WA.bind (WA.holding (WA.mono h fun y _ _ h1 => WA.bind (WA.standAt (WA.bind (WA.operate h1 |>.mono fun new _ _ h2 => WA.bind (WA.standAt (WA.bind (h2.mono fun _ _ _ h3 => WA.pure h3))))))))
theorem L.asT {elts : List Expr} {k : Nat} {tpos pos : Pos} {e : Expr} {W : Wd} {Ψ : Frm K N W} {Q : FQ} {vals : Vals} {l : Led} (hs1 : swapsWithSole [.Tuple elts k tpos] e pos.line Ψ.env = Pure.pure false) (hs2 : swappedStores [.Tuple elts k tpos] e Ψ.env = Pure.pure none)
  (h : let q := kAsT (.Tuple elts k tpos) Ψ Q; WA Ψ (eval e Ψ.env) q vals l) : WA Ψ (exec (.Assign [.Tuple elts k tpos] e pos) Ψ.env) Q vals l := R.asT hs1 hs2 h
theorem Yw {x : Str} {px : Pos} {es : List Expr} {W : Wd} {Ψ : Frm K N W} {v : Value} {vs : List Value} {Q : UQ} {vals : Vals} {l : Led} (h : let q := kAi es Ψ vs Q; WA Ψ (PySem.bindName Ψ.env x v) q vals l) : WA Ψ (assignInOrder ((assignEach (.Name x px :: es) Ψ.env).map (·.2)) (v :: vs)) Q vals l := Q6r h
theorem L.swap2 {x y : Str} {px py pt pv pos : Pos} {k1 k2 : Nat} {e1 e2 : Expr} {W : Wd} {Ψ : Frm K N W} {Q : FQ} {vals : Vals} {l : Led} (hh : Ψ.A.handled = none) (hp : ([e1, e2].all plainE) = true)
  (hs1 : swapsWithSole [.Tuple [.Name x px, .Name y py] k1 pt] (.Tuple [e1, e2] k2 pv) pos.line Ψ.env = Pure.pure false)
  (hs2 : swappedStores [.Tuple [.Name x px, .Name y py] k1 pt] (.Tuple [e1, e2] k2 pv) Ψ.env = Pure.pure (some [x, y]))
  (h : let q := kSw x y e2 Ψ Q; WA Ψ (eval e1 Ψ.env) q vals l) : WA Ψ (exec (.Assign [.Tuple [.Name x px, .Name y py] k1 pt] (.Tuple [e1, e2] k2 pv) pos) Ψ.env) Q vals l := R.swap2 hh hp hs1 hs2 h
theorem L.callMK {o : Expr} {name : Str} {apos pos : Pos} {args : List Expr} {ks : List Keyword} {ns : List Str} {pl : Sem Bool} {W : Wd} {Ψ : Frm K N W} {Q : VQ} {vals : Vals} {l : Led} (hs : args.all plainE = true) (hk : ∀ env, (backToKw pos (keywordEach ks env)).all (·.1.isSome) = true) (hn : ∀ env, (backToKw pos (keywordEach ks env)).filterMap (·.1) = ns)
  (he : eval (.Call (.Attribute o name apos) args ks pos) Ψ.env = (do let ov ← eval o Ψ.env; PySem.standAt apos.atName; let (f, first) ← PySem.holding [ov] (getMethod ov name pl); PySem.callWith pos f first (backTo pos (starEach args Ψ.env)) (backToKw pos (keywordEach ks Ψ.env))))
  (h : let q := kGMK name pl args ks ns Ψ Q; WA Ψ (eval o Ψ.env) q vals l) : WA Ψ (eval (.Call (.Attribute o name apos) args ks pos) Ψ.env) Q vals l := R.callMK hs (hk _) (hn _) h he
theorem L.meth1 {args : List Expr} {W : Wd} {Ψ : Frm K N W} {f x : Value} {Q : VQ} {vals : Vals} {l : Led} (hk : KeepOk (K W.w.params) f) (h : let q := kCall Ψ f x Q; argsOf Ψ args q vals l) : methK Ψ args Q (f, [x]) vals l := R.meth1 hk h
end
end Mine
end
section
namespace Mine
theorem Qbw : Manifest.owners.lookup (String.ofList ['r', 'o', 't', 'a', 'r', 'e', 't', 'i', '_', 't', 'e', 's'].reverse) = some Manifest.sig_set_iterator := by kernel_rfl
theorem Qba : Slot "set_iterator" "__iter__" "set_iterator.__iter__" :=
 .of (owner := "set_iterator") (n := "__iter__") (by rw [typeLookup_type, builtinLookup_eq_fast]; kernel_rfl) (by decide +kernel) (by decide +kernel) (by decide +kernel)
  (by first | exact .inl (by decide +kernel) | exact .inr (by decide +kernel)) (by rw [isSubtype_type]; kernel_rfl)
theorem slot_set_iterator_next : Slot "set_iterator" "__next__" "set_iterator.__next__" :=
 .of (owner := "set_iterator") (n := "__next__") (by rw [typeLookup_type, builtinLookup_eq_fast]; kernel_rfl) (by decide +kernel) (by decide +kernel) (by decide +kernel)
  (by first | exact .inl (by decide +kernel) | exact .inr (by decide +kernel)) (by rw [isSubtype_type]; kernel_rfl)
theorem Qcf : entryFor table "set_iterator.__iter__" = some Builtin.«dict_keyiterator.__iter__» :=
 entryFor_alias (id' := "dict_keyiterator.__iter__") (by kernel_rfl) rfl (by decide +kernel) (by kernel_rfl)
theorem Qas : entryFor table "set_iterator.__next__" = some Builtin.«set_iterator.__next__» := entryFor_of_tree (by kernel_rfl)
theorem Qb6 (a : Value) : argsOk "set_iterator.__iter__" ⟨[a], []⟩ := by
 unfold argsOk; rw [signature?_of (id := "set_iterator.__iter__") (n := ['_', '_', 'r', 'e', 't', 'i', '_', '_']) (o := ['r', 'o', 't', 'a', 'r', 'e', 't', 'i', '_', 't', 'e', 's']) (by kernel_rfl) Qbw]; kernel_rfl
theorem Qaq (a : Value) : argsOk "set_iterator.__next__" ⟨[a], []⟩ := by
 unfold argsOk; rw [signature?_of (id := "set_iterator.__next__") (n := ['_', '_', 't', 'x', 'e', 'n', '_', '_']) (o := ['r', 'o', 't', 'a', 'r', 'e', 't', 'i', '_', 't', 'e', 's']) (by kernel_rfl) Qbw]; kernel_rfl
theorem Qfq : entryFor table "set.__iter__" = some Builtin.«frozenset.__iter__» :=
 entryFor_alias (id' := "frozenset.__iter__") (by kernel_rfl) rfl (by decide +kernel) (by kernel_rfl)
end Mine
end
section
namespace Mine
theorem fill : Challenge.rw_im0005_06 = Challenge.rw_im0005_06 ∧ hK = hK := by k_fill; exact ⟨rfl, rfl⟩
structure FnIn (a : Addr) where
 fd : FuncData
 body : List Stmt
 oc : Value
 od : Option Addr
 osl : Array (Option Value)
 ok : ∀ P, (hK P).lookup a = some ⟨oc, od, .func fd, osl⟩
 hb : fd.body = .stmts body
noncomputable def mkFn {a : Addr} {fd : FuncData} {body : List Stmt} {oc : Value} {od : Option Addr} {osl : Array (Option Value)} (ok : ∀ P, (hK P).lookup a = some ⟨oc, od, .func fd, osl⟩) (hb : fd.body = .stmts body) : FnIn a := ⟨fd, body, oc, od, osl, ok, hb⟩
end Mine
end
section
namespace Mine
abbrev an : List Str := ["_pred", "_succ", "_ref", "_min_free", "_ite_table", "vars", "_level_to_var", "_reordering_context", "_last_len", "roots", "max_nodes"]
abbrev clsA : Addr := 495
structure Mg where
 self : Addr
 dict : Addr
 pd : Addr
 sd : Addr
 rd : Addr
 idt : Addr
 vd : Addr
 ld : Addr
 ro : Addr
 ae : List DictEntry
 an : Nat
 po : Obj
 so : Obj
 rro : Obj
 io : Obj
 vo : Obj
 lo : Obj
 roo : Obj
 tups : Led
 pk : List (List (Option Int) × Addr × Value)
 sk : List (Int × Value)
 rk : List (Int × Value)
 ik : List (List (Option Int) × Addr × Value)
 vk : List (Int × Value)
 lk : List (Int × Value)
 mf : Value
 mx : Value
noncomputable abbrev Mg.av (b : Mg) : List Value := [.ref b.pd, .ref b.sd, .ref b.rd, b.mf, .ref b.idt, .ref b.vd, .ref b.ld, .bool false, .none, .ref b.ro, b.mx]
noncomputable abbrev Mg.avs (b : Mg) : Vals := [some (.ref b.pd), some (.ref b.sd), some (.ref b.rd), some b.mf, some (.ref b.idt), some (.ref b.vd), some (.ref b.ld), some (.bool false), some .none, some (.ref b.ro), some b.mx]
@[reducible] noncomputable def Mg.uTup (b : Mg) (y : Addr × Obj) : Mg := { b with tups := y :: b.tups }
@[reducible] noncomputable def Mg.uSo (b : Mg) (o : Obj) (k : List (Int × Value)) : Mg := { b with so := o, sk := k }
@[reducible] noncomputable def Mg.uRro (b : Mg) (o : Obj) (k : List (Int × Value)) : Mg := { b with rro := o, rk := k }
@[reducible] noncomputable def Mg.uVo (b : Mg) (o : Obj) (k : List (Int × Value)) : Mg := { b with vo := o, vk := k }
@[reducible] noncomputable def Mg.uLo (b : Mg) (o : Obj) (k : List (Int × Value)) : Mg := { b with lo := o, lk := k }
@[reducible] noncomputable def Mg.uPo (b : Mg) (o : Obj) (k : List (List (Option Int) × Addr × Value)) : Mg := { b with po := o, pk := k }
@[reducible] noncomputable def Mg.uIo (b : Mg) (o : Obj) (k : List (List (Option Int) × Addr × Value)) : Mg := { b with io := o, ik := k }
@[reducible] noncomputable def Mg.uMf (b : Mg) (e : List DictEntry) (n : Nat) (v : Value) : Mg := { b with ae := e, an := n, mf := v }
noncomputable def mgL (b : Mg) : Led := (b.self, instObj clsA b.dict) :: (b.dict, dictOf b.ae b.an) :: (b.pd, b.po) :: (b.sd, b.so) :: (b.rd, b.rro) :: (b.idt, b.io) :: (b.vd, b.vo) :: (b.ld, b.lo) :: (b.ro, b.roo) :: b.tups
structure Sg where
 order : List Int
 tab : List (Int × Int × Int)
 ite : Int → Int → Int → Option Int
 its : Nat
noncomputable def Sg.nv (σ : Sg) : Nat := σ.order.length
noncomputable def nodeKey (t : Int × Int × Int) : List (Option Int) := [some t.1, some t.2.1, some t.2.2]
noncomputable def Sg.node (σ : Sg) (u : Int) : Option (Int × Int × Int) := if 2 ≤ u then σ.tab[(u - 2).toNat]? else none
noncomputable def Sg.key (σ : Sg) (u : Int) : Option (List (Option Int)) := if u = 1 then some [some (σ.nv : Int), none, none] else (σ.node u).map nodeKey
structure Rep (W : Wd) (b : Mg) (σ : Sg) : Prop where
 at' : AttrsAre b.ae an b.av
 mf : ∃ t, b.mf = .int (σ.tab.length + 2) t
 mx : ∃ t, b.mx = .int (2 ^ 63 - 1) t
 s1 : b.so.IsDictOf (intKind W.prog W.w) b.sk
 s2 : ∀ u ks, σ.key u = some ks → ∃ a, valueAt b.sk u = some (.ref a) ∧ TupL (optKind W.prog W.w) b.tups ks a
 s3 : ∀ u, σ.key u = none → valueAt b.sk u = none
 s4 : b.sk.length = σ.tab.length + 1
 p1 : IsTupDict (optKind W.prog W.w) b.po b.pk
 p2 : ∀ y ∈ b.pk, TupL (optKind W.prog W.w) b.tups y.1 y.2.1
 p3 : ∀ ks a v, atKey b.pk ks = some (a, v) → ∃ u t, v = .int u t ∧ σ.key u = some ks
 p4 : ∀ u ks, σ.key u = some ks → ∃ a t, atKey b.pk ks = some (a, .int u t)
 p5 : b.pk.length ≤ σ.tab.length + 1
 r1 : b.rro.IsDictOf (intKind W.prog W.w) b.rk
 r2 : ∀ u ks, σ.key u = some ks → ∃ c t, valueAt b.rk u = some (.int c t)
 r3 : b.rk.length ≤ σ.tab.length + 1
 i1 : IsTupDict (optKind W.prog W.w) b.io b.ik
 i2 : ∀ y ∈ b.ik, TupL (optKind W.prog W.w) b.tups y.1 y.2.1
 i3 : ∀ ks a v, atKey b.ik ks = some (a, v) → ∃ g u x r t, ks = [some g, some u, some x] ∧ v = .int r t ∧ σ.ite g u x = some r
 i4 : b.ik.length ≤ σ.its
 v1 : b.vo.IsDictOf (intKind W.prog W.w) b.vk
 v2 : ∀ (j : Nat) x, σ.order[j]? = some x → ∃ t, valueAt b.vk x = some (.int j t)
 v3 : ∀ x, x ∉ σ.order → valueAt b.vk x = none
 v4 : b.vk.length = σ.order.length
 v5 : σ.order.length ≤ 1000
 l1 : b.lo.IsDictOf (intKind W.prog W.w) b.lk
 l2 : ∀ (j : Nat) x, σ.order[j]? = some x → ∃ t, valueAt b.lk (j : Int) = some (.int x t)
 l3 : ∀ j : Int, (j < 0 ∨ (σ.order.length : Int) ≤ j) → valueAt b.lk j = none
 l4 : b.lk.length = σ.order.length
theorem inst_mg {b : Mg} {R : Led} : InstL (mgL b ++ R) clsA b.self b.dict b.ae b.an := ⟨.head _, .tail _ (.head _)⟩
structure MethIs (K : Frag) (name : Str) (f : Addr) : Prop where
 fd : findIn K (.ref clsA) name = some (some (.ref f))
 fn : isFn K (.ref f) = true
 keep : keepIn K (.ref f) = true
 no : name ∉ an
theorem MethIs.ok {K : Frag} {name : Str} {f : Addr} (m : MethIs K name f) : KeepOk K (.ref f) := m.keep
theorem Qb1 (P : Params) (n : Str) : plainGet (hK P) clsA n = true := by
 show plainGet (hK P) clsA "x" = true
 k_is
theorem Qc4 (P : Params) : hasDictIn (hK P) clsA = true := by k_is
theorem Qi9 (P : Params) : findIn (hK P) (.ref clsA) "__setattr__" = some (some (.builtin "object.__setattr__")) := by k_is
theorem Qjh (P : Params) : plainOver (hK P) clsA = true := by k_is
theorem Qoi : an.Nodup := by decide +kernel
theorem Qph (P : Params) : ∀ x ∈ an, findIn (hK P) (.ref clsA) x = some none := by
 simp only [an, List.forall_mem_cons, List.not_mem_nil, false_implies, implies_true, and_true]
 refine ⟨?_, ?_, ?_, ?_, ?_, ?_, ?_, ?_, ?_, ?_, ?_⟩ <;> k_is
theorem Qmf (P : Params) : ∀ x ∈ an, takerIn (hK P) clsA x = some none := by
 simp only [an, List.forall_mem_cons, List.not_mem_nil, false_implies, implies_true, and_true]
 refine ⟨?_, ?_, ?_, ?_, ?_, ?_, ?_, ?_, ?_, ?_, ?_⟩ <;> k_is
theorem Qnp (P : Params) : MethIs (hK P) "incref" 100 := ⟨by k_is, by k_is, by k_is, by decide +kernel⟩
theorem Qgh (P : Params) : MethIs (hK P) "find_or_add" 367 := ⟨by k_is, by k_is, by k_is, by decide +kernel⟩
theorem Qeh (P : Params) : MethIs (hK P) "_next_free_int" 374 := ⟨by k_is, by k_is, by k_is, by decide +kernel⟩
theorem Qez (P : Params) : MethIs (hK P) "_top_cofactor" 303 := ⟨by k_is, by k_is, by k_is, by decide +kernel⟩
theorem Qrz (P : Params) : MethIs (hK P) "_ite" 360 := ⟨by k_is, by k_is, by k_is, by decide +kernel⟩
theorem Qv5 (P : Params) : MethIs (hK P) "ite" 353 := ⟨by k_is, by k_is, by k_is, by decide +kernel⟩
theorem Qry (P : Params) : MethIs (hK P) "succ" 93 := ⟨by k_is, by k_is, by k_is, by decide +kernel⟩
theorem Qfo (P : Params) : MethIs (hK P) "var_at_level" 157 := ⟨by k_is, by k_is, by k_is, by decide +kernel⟩
theorem Qj9 (P : Params) : MethIs (hK P) "quantify" 325 := ⟨by k_is, by k_is, by k_is, by decide +kernel⟩
theorem Qif (P : Params) : MethIs (hK P) "_quantify" 332 := ⟨by k_is, by k_is, by k_is, by decide +kernel⟩
theorem Qnq (P : Params) : MethIs (hK P) "forall" 339 := ⟨by k_is, by k_is, by k_is, by decide +kernel⟩
theorem Qpv (P : Params) : MethIs (hK P) "exist" 346 := ⟨by k_is, by k_is, by k_is, by decide +kernel⟩
theorem Qe0 (P : Params) : MethIs (hK P) "_map_to_level" 177 := ⟨by k_is, by k_is, by k_is, by decide +kernel⟩
theorem Qpx (P : Params) : MethIs (hK P) "apply" 464 := ⟨by k_is, by k_is, by k_is, by decide +kernel⟩
theorem Qlh (P : Params) : MethIs (hK P) "add_var" 129 := ⟨by k_is, by k_is, by k_is, by decide +kernel⟩
theorem Qdr (P : Params) : MethIs (hK P) "_next_free_level" 143 := ⟨by k_is, by k_is, by k_is, by decide +kernel⟩
theorem Qei (P : Params) : MethIs (hK P) "_init_terminal" 86 := ⟨by k_is, by k_is, by k_is, by decide +kernel⟩
theorem Qlg (P : Params) : MethIs (hK P) "support" 225 := ⟨by k_is, by k_is, by k_is, by decide +kernel⟩
theorem Qwe (P : Params) : GlobIs (hK P) "abs" (.builtin "abs") := .inr ⟨by k_is, by boot_by_name, by decide +kernel⟩
theorem Qwc (P : Params) : GlobIs (hK P) "len" (.builtin "len") := .inr ⟨by k_is, by boot_by_name, by decide +kernel⟩
theorem Qwa (P : Params) : GlobIs (hK P) "min" (.builtin "min") := .inr ⟨by k_is, by boot_by_name, by decide +kernel⟩
theorem Qnx (P : Params) : GlobIs (hK P) "sorted" (.builtin "sorted") := .inr ⟨by k_is, by boot_by_name, by decide +kernel⟩
theorem Qv8 (P : Params) : GlobIs (hK P) "sum" (.builtin "sum") := .inr ⟨by k_is, by boot_by_name, by decide +kernel⟩
theorem Qhb (P : Params) : GlobIs (hK P) "isinstance" (.builtin "isinstance") := .inr ⟨by k_is, by boot_by_name, by decide +kernel⟩
theorem Qr7 (P : Params) : GlobIs (hK P) "next" (.builtin "next") := .inr ⟨by k_is, by boot_by_name, by decide +kernel⟩
theorem Qr8 (P : Params) : GlobIs (hK P) "iter" (.builtin "iter") := .inr ⟨by k_is, by boot_by_name, by decide +kernel⟩
theorem Qny (P : Params) : GlobIs (hK P) "divmod" (.builtin "divmod") := .inr ⟨by k_is, by boot_by_name, by decide +kernel⟩
theorem Qp2 (P : Params) : GlobIs (hK P) "range" (.type "range") := .inr ⟨by k_is, by boot_by_name, by decide +kernel⟩
theorem Qr9 (P : Params) : GlobIs (hK P) "dict" (.type "dict") := .inr ⟨by k_is, by boot_by_name, by decide +kernel⟩
theorem Qv9 (P : Params) : GlobIs (hK P) "set" (.type "set") := .inr ⟨by k_is, by boot_by_name, by decide +kernel⟩
theorem Qj8 (P : Params) : MethIs (hK P) "_support" 232 := ⟨by k_is, by k_is, by k_is, by decide +kernel⟩
theorem Qv4 (P : Params) : MethIs (hK P) "var" 150 := ⟨by k_is, by k_is, by k_is, by decide +kernel⟩
theorem Qfp (P : Params) : MethIs (hK P) "level_of_var" 164 := ⟨by k_is, by k_is, by k_is, by decide +kernel⟩
theorem Qpw (P : Params) : MethIs (hK P) "count" 417 := ⟨by k_is, by k_is, by k_is, by decide +kernel⟩
theorem Qfz (P : Params) : MethIs (hK P) "_sat_len" 434 := ⟨by k_is, by k_is, by k_is, by decide +kernel⟩
theorem Qr0 (P : Params) : MethIs (hK P) "cube" 476 := ⟨by k_is, by k_is, by k_is, by decide +kernel⟩
theorem Qij (P : Params) : GlobIs (hK P) "enumerate" (.type "enumerate") := .inr ⟨by k_is, by boot_by_name, by decide +kernel⟩
theorem Qwd (P : Params) : GlobIs (hK P) "int" (.type "int") := .inr ⟨by k_is, by boot_by_name, by decide +kernel⟩
theorem Qsa (P : Params) : GlobIs (hK P) "bool" (.type "bool") := .inr ⟨by k_is, by boot_by_name, by decide +kernel⟩
theorem Qsb (P : Params) : GlobIs (hK P) "_law_all" (.int 4294967295 885) := .inl (by k_is)
end Mine
end
section
namespace Mine
section
variable {N : Nm} {W : Wd} {Ψ : Frm hK N W} {vals : Vals} {b : Mg} {σ : Sg} {R : Led} {sa : Addr}
theorem Ga {x : Str} {expr : Bool} {i : Nat} {N : Nm} {W : Wd} {Ψ : Frm hK N W} {b : Mg} {sa : Addr} {v : Value} {Q : VQ} {vals : Vals} {R : Led} (hs' : b.self = sa) (at' : AttrsAre b.ae an b.av) (hi : NmI an x i) (hg : vget b.avs i = some v) (hv : handedIn v = true) (q : Q v vals (mgL b ++ R)) : WA Ψ (getAttr (.ref sa) x expr) Q vals (mgL b ++ R) := by
 subst hs'
 have hs := Qf9 hg
 replace hs : (b.av.map some)[i]? = some (some v) := hs
 refine Qmw inst_mg at' Qoi hi.at ?_ (Qb1 _ _) (Qc4 _) (Qph _ x (List.mem_of_getElem? hi.at)) hv q
 rw [List.getElem?_map] at hs
 cases hx : b.av[i]? with
 | none => rw [hx] at hs; simp at hs
 | some y => rw [hx] at hs; simpa using hs
theorem Gb {x : Str} {expr : Bool} {j : Nat} {N : Nm} {W : Wd} {Ψ : Frm hK N W} {b : Mg} {sa : Addr} {v : Value} {i : Int} {t : Tok} {Q : VQ} {vals : Vals} {R : Led} (hs' : b.self = sa) (at' : AttrsAre b.ae an b.av) (hi : NmI an x j) (hg : vget b.avs j = some v) (hv : v = .int i t) (q : Q (.int i t) vals (mgL b ++ R)) : WA Ψ (getAttr (.ref sa) x expr) Q vals (mgL b ++ R) :=
 Ga hs' at' hi hg (by rw [hv]; rfl) (by rw [hv]; exact q)
theorem Qpm {name : Str} {f : Addr} {pl : Sem Bool} {Q : MQ} (hs' : b.self = sa) (at' : AttrsAre b.ae an b.av) (m : MethIs (hK W.w.params) name f) (q : Q (.ref f, [.ref sa]) vals (mgL b ++ R)) : WA Ψ (getMethod (.ref sa) name pl) Q vals (mgL b ++ R) := by
 subst hs'
 exact Qmv inst_mg at' m.no (Qb1 _ _) m.fd m.fn q
theorem Ic {name : Str} {f : Addr} {pl : Sem Bool} {args : List Expr} {N : Nm} {W : Wd} {Ψ : Frm hK N W} {b : Mg} {sa : Addr} {Q : VQ} {vals : Vals} {R : Led} (hs' : b.self = sa) (at' : AttrsAre b.ae an b.av) (m : MethIs (hK W.w.params) name f)
  (h : let q := kCall Ψ (.ref f) (.ref sa) Q; argsOf Ψ args q vals (mgL b ++ R)) : WA Ψ (getMethod (.ref sa) name pl) (methK Ψ args Q) vals (mgL b ++ R) := Qpm hs' at' m ⟨m.keep, h⟩
theorem Qd2 {name : Str} {f : Addr} {pl : Sem Bool} {args : List Expr} {ks : List Keyword} {ns : List Str} {N : Nm} {W : Wd} {Ψ : Frm hK N W} {b : Mg} {sa : Addr} {Q : VQ} {vals : Vals} {R : Led} (hs' : b.self = sa) (at' : AttrsAre b.ae an b.av) (m : MethIs (hK W.w.params) name f)
  (h : let q := kCallKK ks ns Ψ (.ref f) (.ref sa) Q; argsOf Ψ args q vals (mgL b ++ R)) : WA Ψ (getMethod (.ref sa) name pl) (methKK Ψ args ks ns Q) vals (mgL b ++ R) := Qpm hs' at' m ⟨m.keep, h⟩
theorem M.keep {name : Str} {f : Addr} {X : Prop} (m : MethIs (hK W.w.params) name f) (h : X) : KeepOk (hK W.w.params) (.ref f) ∧ X := ⟨m.keep, h⟩
theorem dTail {value slice : Expr} {d : Addr} {o : Obj} {key : Value} {l : Led} {Kt : Type} [DecidableEq Kt] {knd : KeyKind W.prog W.w Kt} {kvs : List (Kt × Value)} {Q : VQ} (hm : (d, o) ∈ l) (ho : o.IsDictOf knd kvs)
  (h : WA Ψ (getItem (.ref d) key) Q vals l) (hs : subscripted slice false (.ref d) key = operate [.ref d, key] (getItem (.ref d) key)) : WA Ψ (subscriptTail value slice (.ref d) key) Q vals l := fun E s a =>
 tail_any (dictAt a hm ho).typeIs slot_dict_getitem.lookup (h E s a) hs
theorem Qcp : (b.sd, b.so) ∈ mgL b ++ R := by simp [mgL]
theorem Qo5 : (b.pd, b.po) ∈ mgL b ++ R := by simp [mgL]
theorem Qrq : (b.rd, b.rro) ∈ mgL b ++ R := by simp [mgL]
theorem Qo8 : (b.idt, b.io) ∈ mgL b ++ R := by simp [mgL]
theorem Qbv : (b.vd, b.vo) ∈ mgL b ++ R := by simp [mgL]
theorem Qg7 : (b.ld, b.lo) ∈ mgL b ++ R := by simp [mgL]
theorem Qbj {Kt : Type} [DecidableEq Kt] {knd : KeyKind W.prog W.w Kt} {ks : List Kt} {a : Addr} (t : TupL knd b.tups ks a) : TupL knd (mgL b ++ R) ks a := t.mono fun y hy => by simp [mgL, hy]
theorem Qi8 : mgL b ++ R = [(b.self, instObj clsA b.dict), (b.dict, dictOf b.ae b.an), (b.pd, b.po)] ++ (b.sd, b.so) :: ([(b.rd, b.rro), (b.idt, b.io), (b.vd, b.vo), (b.ld, b.lo), (b.ro, b.roo)] ++ b.tups ++ R) := by simp [mgL]
theorem Qjg : mgL b ++ R = [(b.self, instObj clsA b.dict), (b.dict, dictOf b.ae b.an)] ++ (b.pd, b.po) :: ([(b.sd, b.so), (b.rd, b.rro), (b.idt, b.io), (b.vd, b.vo), (b.ld, b.lo), (b.ro, b.roo)] ++ b.tups ++ R) := by simp [mgL]
theorem Qja : mgL b ++ R = [(b.self, instObj clsA b.dict), (b.dict, dictOf b.ae b.an), (b.pd, b.po), (b.sd, b.so)] ++ (b.rd, b.rro) :: ([(b.idt, b.io), (b.vd, b.vo), (b.ld, b.lo), (b.ro, b.roo)] ++ b.tups ++ R) := by simp [mgL]
theorem Qjo : mgL b ++ R = [(b.self, instObj clsA b.dict), (b.dict, dictOf b.ae b.an), (b.pd, b.po), (b.sd, b.so), (b.rd, b.rro)] ++ (b.idt, b.io) :: ([(b.vd, b.vo), (b.ld, b.lo), (b.ro, b.roo)] ++ b.tups ++ R) := by simp [mgL]
theorem Qi6 : mgL b ++ R = [(b.self, instObj clsA b.dict), (b.dict, dictOf b.ae b.an), (b.pd, b.po), (b.sd, b.so), (b.rd, b.rro), (b.idt, b.io)] ++ (b.vd, b.vo) :: ([(b.ld, b.lo), (b.ro, b.roo)] ++ b.tups ++ R) := by simp [mgL]
theorem Qjl : mgL b ++ R = [(b.self, instObj clsA b.dict), (b.dict, dictOf b.ae b.an), (b.pd, b.po), (b.sd, b.so), (b.rd, b.rro), (b.idt, b.io), (b.vd, b.vo)] ++ (b.ld, b.lo) :: ([(b.ro, b.roo)] ++ b.tups ++ R) := by simp [mgL]
theorem Qju : mgL b ++ R = [(b.self, instObj clsA b.dict)] ++ (b.dict, dictOf b.ae b.an) :: ([(b.pd, b.po), (b.sd, b.so), (b.rd, b.rro), (b.idt, b.io), (b.vd, b.vo), (b.ld, b.lo), (b.ro, b.roo)] ++ b.tups ++ R) := by simp [mgL]
theorem Qm4 {k : Int} {key v : Value} {Q : UQ} (hk : (intKind W.prog W.w).is k key = true) (ho : b.so.IsDictOf (intKind W.prog W.w) b.sk) (hz : b.sk.length ≤ sizeLine)
  (q : ∀ o' : Obj, o'.IsDictOf (intKind W.prog W.w) (stored b.sk k v) → let b' := b.uSo o' (stored b.sk k v); Q () vals (mgL b' ++ R)) : WA Ψ (setItem (.ref b.sd) key v) Q vals (mgL b ++ R) :=
 Qbh hk Qi8 ho hz fun o' h => by have := q o' h; dsimp only at this; rw [Qi8] at this; exact this
theorem Qjy {k : Int} {key v : Value} {Q : UQ} (hk : (intKind W.prog W.w).is k key = true) (ho : b.rro.IsDictOf (intKind W.prog W.w) b.rk) (hz : b.rk.length ≤ sizeLine)
  (q : ∀ o' : Obj, o'.IsDictOf (intKind W.prog W.w) (stored b.rk k v) → let b' := b.uRro o' (stored b.rk k v); Q () vals (mgL b' ++ R)) : WA Ψ (setItem (.ref b.rd) key v) Q vals (mgL b ++ R) :=
 Qbh hk Qja ho hz fun o' h => by have := q o' h; dsimp only at this; rw [Qja] at this; exact this
theorem Qm3 {k : Int} {key v : Value} {Q : UQ} (hk : (intKind W.prog W.w).is k key = true) (ho : b.vo.IsDictOf (intKind W.prog W.w) b.vk) (hz : b.vk.length ≤ sizeLine)
  (q : ∀ o' : Obj, o'.IsDictOf (intKind W.prog W.w) (stored b.vk k v) → let b' := b.uVo o' (stored b.vk k v); Q () vals (mgL b' ++ R)) : WA Ψ (setItem (.ref b.vd) key v) Q vals (mgL b ++ R) :=
 Qbh hk Qi6 ho hz fun o' h => by have := q o' h; dsimp only at this; rw [Qi6] at this; exact this
theorem Qoz {k : Int} {key v : Value} {Q : UQ} (hk : (intKind W.prog W.w).is k key = true) (ho : b.lo.IsDictOf (intKind W.prog W.w) b.lk) (hz : b.lk.length ≤ sizeLine)
  (q : ∀ o' : Obj, o'.IsDictOf (intKind W.prog W.w) (stored b.lk k v) → let b' := b.uLo o' (stored b.lk k v); Q () vals (mgL b' ++ R)) : WA Ψ (setItem (.ref b.ld) key v) Q vals (mgL b ++ R) :=
 Qbh hk Qjl ho hz fun o' h => by have := q o' h; dsimp only at this; rw [Qjl] at this; exact this
theorem Qm5 {ks : List (Option Int)} {x : Addr} {v : Value} {Q : UQ} (hu : Ψ.A.units + 1 < cLine) (hk : TupL (optKind W.prog W.w) b.tups ks x) (ho : IsTupDict (optKind W.prog W.w) b.po b.pk) (ht : ∀ y ∈ b.pk, TupL (optKind W.prog W.w) b.tups y.1 y.2.1) (hz : b.pk.length ≤ sizeLine)
  (q : ∀ o' : Obj, IsTupDict (optKind W.prog W.w) o' (storedH b.pk ks x v) → let b' := b.uPo o' (storedH b.pk ks x v); Q () vals (mgL b' ++ R)) : WA Ψ (setItem (.ref b.pd) (.ref x) v) Q vals (mgL b ++ R) :=
 Qgt hu (Qbj hk) Qjg ho (fun y hy => Qbj (ht y hy)) hz fun o' h => by have := q o' h; dsimp only at this; rw [Qjg] at this; exact this
theorem Qo0 {ks : List (Option Int)} {x : Addr} {v : Value} {Q : UQ} (hu : Ψ.A.units + 1 < cLine) (hk : TupL (optKind W.prog W.w) b.tups ks x) (ho : IsTupDict (optKind W.prog W.w) b.io b.ik) (ht : ∀ y ∈ b.ik, TupL (optKind W.prog W.w) b.tups y.1 y.2.1) (hz : b.ik.length ≤ sizeLine)
  (q : ∀ o' : Obj, IsTupDict (optKind W.prog W.w) o' (storedH b.ik ks x v) → let b' := b.uIo o' (storedH b.ik ks x v); Q () vals (mgL b' ++ R)) : WA Ψ (setItem (.ref b.idt) (.ref x) v) Q vals (mgL b ++ R) :=
 Qgt hu (Qbj hk) Qjo ho (fun y hy => Qbj (ht y hy)) hz fun o' h => by have := q o' h; dsimp only at this; rw [Qjo] at this; exact this
theorem Qrc {v : Value} {Q : UQ} (hs' : b.self = sa) (at' : AttrsAre b.ae an b.av)
  (q : ∀ ae' n', let b' := b.uMf ae' n' v; AttrsAre b'.ae an b'.av → Q () vals (mgL b' ++ R)) : WA Ψ (setAttr (.ref sa) "_min_free" v) Q vals (mgL b ++ R) := by
 subst hs'
 refine Qml Qju inst_mg at' (Qi9 _) (Qjh _) (Qmf _ _ (.tail _ (.tail _ (.tail _ (.head _))))) (Qc4 _) (by show 11 ≤ 900; decide) (av' := { b with mf := v }.av) (fun h t => Qjd Qoi at' (i := 3) rfl (by show 3 < 11; decide)) (by show 11 ≤ 900; decide) fun es' n' h => ?_
 have := q es' n' h
 rw [Qju] at this
 exact this
theorem mgL_tup {x : Addr} {o : Obj} : (mgL { b with tups := (x, o) :: b.tups } ++ R).Perm ((x, o) :: (mgL b ++ R)) := by
 simp only [mgL, List.cons_append]
 refine (List.perm_middle (l₁ := [(b.self, instObj clsA b.dict), (b.dict, dictOf b.ae b.an), (b.pd, b.po), (b.sd, b.so), (b.rd, b.rro), (b.idt, b.io), (b.vd, b.vo), (b.ld, b.lo), (b.ro, b.roo)])).trans ?_
 exact List.Perm.refl _
theorem M.newTup {vs : List Value} {Q : VQ} (hz : vs.length ≤ sizeLine)
  (q : ∀ x, let b' := b.uTup (x, tupObj vs); Q (.ref x) vals (mgL b' ++ R)) : WA Ψ (newTuple vs) Q vals (mgL b ++ R) := by
 intro E s a
 refine wpAny_newObj_type ⟨⟨rfl, rfl⟩, vals, _, ?_, q s.heap.objs.size⟩ (by show vs.toArray.size ≤ sizeLine; rw [List.size_toArray]; exact hz)
 have h := a.push (o := { cls := .type "tuple", data := .seq vs.toArray }) (tk := s.toks)
 exact h.sub (fun y hy => mgL_tup.mem_iff.mp hy) ((mgL_tup.map _).nodup_iff.mpr h.U)
end
end Mine
end
section
namespace Mine
section
variable {K : Type} [DecidableEq K]
theorem Qfi (a c : List (K × Value)) (x : K) : valueAt (a ++ c) x = (valueAt a x).or (valueAt c x) := by
 unfold valueAt
 rw [List.find?_append]
 cases a.find? fun kv => kv.1 = x <;> simp
theorem Qh5 (kvs : List (K × Value)) (k x : K) (v : Value) : valueAt (kvs.map fun kv => if kv.1 = k then (kv.1, v) else kv) x = if x = k then (valueAt kvs x).map (fun _ => v) else valueAt kvs x := by
 unfold valueAt
 induction kvs with
 | nil => simp
 | cons p r ih =>
  obtain ⟨q, y⟩ := p
  simp only [List.map_cons, List.find?_cons]
  by_cases hq : q = k
  ·subst hq
   by_cases hx : q = x
   ·subst hx; simp
   ·have hx' : ¬ x = q := fun e => hx e.symm
    simpa [hx, hx'] using ih
  ·by_cases hx : q = x
   ·subst hx; simp [hq]
   ·simpa [hq, hx] using ih
theorem Qca {kvs : List (K × Value)} {k : K} : (kvs.any fun kv => kv.1 = k) = (valueAt kvs k).isSome := by
 unfold valueAt
 induction kvs with
 | nil => rfl
 | cons p r ih =>
  simp only [List.any_cons, List.find?_cons]
  by_cases h : p.1 = k <;> simp [h, ← ih]
theorem valueAt_stored (kvs : List (K × Value)) (k x : K) (v : Value) : valueAt (stored kvs k v) x = if x = k then some v else valueAt kvs x := by
 unfold stored
 rw [Qca]
 cases h : (valueAt kvs k) with
 | none =>
  simp only [Option.isSome_none, Bool.false_eq_true, if_false]
  rw [Qfi]
  by_cases hx : x = k
  ·subst hx; rw [h]; simp [valueAt]
  ·have hx' : ¬ k = x := fun e => hx e.symm
   simp only [if_neg hx]
   have : valueAt [(k, v)] x = none := by simp [valueAt, hx']
   rw [this]; simp
 | some y =>
  simp only [Option.isSome_some, if_true]
  rw [Qh5]
  by_cases hx : x = k
  ·subst hx; simp [h]
  ·simp [hx]
theorem Qa2 {kvs : List (K × Value)} {k : K} {v : Value} (h : valueAt kvs k = none) : (stored kvs k v).length = kvs.length + 1 := by
 unfold stored
 rw [Qca, h]; simp
theorem Qbx {kvs : List (K × Value)} {k : K} {v y : Value} (h : valueAt kvs k = some y) : (stored kvs k v).length = kvs.length := by
 unfold stored
 rw [Qca, h]; simp
theorem Qhh (a c : List (K × Addr × Value)) (x : K) : atKey (a ++ c) x = (atKey a x).or (atKey c x) := by
 unfold atKey
 rw [List.find?_append]
 cases a.find? fun y => decide (y.1 = x) <;> simp
theorem Qbc {xs : List (K × Addr × Value)} {k : K} {a : Addr} {v : Value} (h : atKey xs k = none) (x : K) : atKey (storedH xs k a v) x = if x = k then some (a, v) else atKey xs x := by
 rw [storedH_new h, Qhh]
 by_cases hx : x = k
 ·subst hx; rw [h]; simp [atKey]
 ·have hx' : ¬ k = x := fun e => hx e.symm
  have : atKey [(k, a, v)] x = none := by simp [atKey, hx']
  rw [this]; simp [hx]
theorem Qe5 {xs : List (K × Addr × Value)} {k : K} {p : Addr × Value} (h : atKey xs k = some p) : (k, p) ∈ xs := by
 unfold atKey at h
 obtain ⟨y, hy, e⟩ := Option.map_eq_some_iff.mp h
 have h1 := List.mem_of_find?_eq_some hy
 have h2 := List.find?_some hy
 simp only [decide_eq_true_eq] at h2
 obtain ⟨y1, y2⟩ := y
 simp only at h2 e
 subst h2 e
 exact h1
theorem Qct {xs : List (K × Addr × Value)} {k : K} {a : Addr} {v : Value} (h : atKey xs k = none) : (storedH xs k a v).length = xs.length + 1 := by rw [storedH_new h]; simp
theorem Qcs {xs : List (K × Addr × Value)} {k : K} {a : Addr} {v : Value} {P : K × Addr × Value → Prop} (h : atKey xs k = none) (hx : ∀ y ∈ xs, P y) (hk : P (k, a, v)) : ∀ y ∈ storedH xs k a v, P y := by
 rw [storedH_new h]
 intro y hy
 rcases List.mem_append.mp hy with hy | hy
 ·exact hx y hy
 ·rw [List.mem_singleton.mp hy]; exact hk
end
end Mine
end
section
namespace Mine
noncomputable def Sg.add (σ : Sg) (t : Int × Int × Int) : Sg := { σ with tab := σ.tab ++ [t] }
noncomputable abbrev Sg.top (σ : Sg) : Int := (σ.tab.length : Int) + 2
theorem Qic {a c : Int × Int × Int} (h : nodeKey a = nodeKey c) : a = c := by
 obtain ⟨a1, a2, a3⟩ := a
 obtain ⟨c1, c2, c3⟩ := c
 simp only [nodeKey, List.cons.injEq, Option.some.injEq, and_true] at h
 obtain ⟨h1, h2, h3⟩ := h
 rw [h1, h2, h3]
theorem Qg4 {a : Int × Int × Int} {n : Option Int} : nodeKey a ≠ [n, none, none] := by
 intro h
 simp [nodeKey] at h
theorem Qdl {σ : Sg} {u : Int} {t : Int × Int × Int} (h : σ.node u = some t) : σ.key u = some (nodeKey t) := by
 have h1 : u ≠ 1 := by
  rintro rfl
  simp [Sg.node] at h
 unfold Sg.key
 rw [if_neg h1, h]; rfl
theorem Qdk {σ : Sg} {u : Int} {t : Int × Int × Int} (h : σ.key u = some (nodeKey t)) : σ.node u = some t := by
 unfold Sg.key at h
 split at h
 ·rename_i h1
  exact absurd (Option.some.inj h).symm Qg4
 ·obtain ⟨t', h1, h2⟩ := Option.map_eq_some_iff.mp h
  rw [h1, Qic h2]
theorem Qc8 {σ : Sg} {u : Int} {t : Int × Int × Int} (h : σ.node u = some t) : 2 ≤ u ∧ u < σ.top := by
 unfold Sg.node at h
 split at h
 ·rename_i h1
  have := (List.getElem?_eq_some_iff.mp h).1
  refine ⟨h1, ?_⟩
  unfold Sg.top
  exact ar7 this
 ·cases h
theorem Qea {σ : Sg} {u : Int} (h : σ.top ≤ u) : σ.key u = none := by
 unfold Sg.top at h
 unfold Sg.key Sg.node
 rw [if_neg (by exact ar8 h), if_pos (by exact ar9 h), List.getElem?_eq_none (by exact Q8w h)]
 rfl
theorem Qbu (σ : Sg) (t : Int × Int × Int) (u : Int) : (σ.add t).node u = if u = σ.top then some t else σ.node u := by
 unfold Sg.node Sg.add Sg.top
 dsimp only
 by_cases h2 : 2 ≤ u
 ·rw [if_pos h2, if_pos h2]
  by_cases hu : u = (σ.tab.length : Int) + 2
  ·rw [if_pos hu]
   have : (u - 2).toNat = σ.tab.length := by exact Q8v hu
   rw [this]; simp
  ·rw [if_neg hu]
   by_cases hl : (u - 2).toNat < σ.tab.length
   ·rw [List.getElem?_append_left hl]
   ·rw [List.getElem?_eq_none (by simp only [List.length_append, List.length_singleton]; exact Q8u h2 hu hl), List.getElem?_eq_none (by exact Q8t hl)]
 ·rw [if_neg h2, if_neg h2, if_neg (by exact Q8s h2)]
theorem Qbo (σ : Sg) (t : Int × Int × Int) (u : Int) : (σ.add t).key u = if u = σ.top then some (nodeKey t) else σ.key u := by
 unfold Sg.key
 rw [Qbu]
 by_cases h1 : u = 1
 ·subst h1
  rw [if_pos rfl, if_neg (by unfold Sg.top; exact Q8r), if_pos rfl]
  rfl
 ·rw [if_neg h1, if_neg h1]
  split <;> rfl
section
variable {W : Wd} {b b' : Mg} {σ : Sg}
theorem TupL.cons {Kt : Type} [DecidableEq Kt] {knd : KeyKind W.prog W.w Kt} {l : Led} {ks : List Kt} {a : Addr} {y : Addr × Obj} (t : TupL knd l ks a) : TupL knd (y :: l) ks a := t.mono fun _ h => .tail _ h
theorem Rep.tup (r : Rep W b σ) (y : Addr × Obj) : Rep W { b with tups := y :: b.tups } σ :=
 { r with
   s2 := fun u ks h => let ⟨a, h1, h2⟩ := r.s2 u ks h; ⟨a, h1, h2.cons⟩
   p2 := fun x hx => (r.p2 x hx).cons
   i2 := fun x hx => (r.i2 x hx).cons }
theorem Rep.add (r : Rep W b σ) {t : Int × Int × Int} {x : Addr} {o : Obj} {tu tm : Tok} (hnew : ∀ u, σ.node u ≠ some t) (hat : AttrsAre b'.ae an b'.av) (hmf : b'.mf = .int (σ.top + 1) tm) (hmx : b'.mx = b.mx)
  (htu : b'.tups = (x, o) :: b.tups) (hx : TupL (optKind W.prog W.w) b'.tups (nodeKey t) x) (hpo : IsTupDict (optKind W.prog W.w) b'.po b'.pk) (hpk : b'.pk = storedH b.pk (nodeKey t) x (.int σ.top tu))
  (hso : b'.so.IsDictOf (intKind W.prog W.w) b'.sk) (hsk : b'.sk = stored b.sk σ.top (.ref x)) (hro : b'.rro.IsDictOf (intKind W.prog W.w) b'.rk)
  (hr1 : ∀ k c tc, valueAt b.rk k = some (.int c tc) → ∃ c' tc', valueAt b'.rk k = some (.int c' tc')) (hr2 : ∃ c' tc', valueAt b'.rk σ.top = some (.int c' tc')) (hr3 : b'.rk.length ≤ b.rk.length + 1)
  (hio : b'.io = b.io) (hik : b'.ik = b.ik) (hvo : b'.vo = b.vo) (hvk : b'.vk = b.vk) (hlo : b'.lo = b.lo) (hlk : b'.lk = b.lk) : Rep W b' (σ.add t) := by
 have hk0 : σ.key σ.top = none := Qea (Int.le_refl _)
 have hp0 : atKey b.pk (nodeKey t) = none := by
  cases h : atKey b.pk (nodeKey t) with
  | none => rfl
  | some p =>
   obtain ⟨a, v⟩ := p
   obtain ⟨u, _, _, hu⟩ := r.p3 _ _ _ h
   exact absurd (Qdk hu) (hnew u)
 have hs0 := r.s3 _ hk0
 have tm' : ∀ ks a, TupL (optKind W.prog W.w) b.tups ks a → TupL (optKind W.prog W.w) b'.tups ks a := fun ks a h => by rw [htu]; exact h.cons
 refine
  { at' := hat, mf := ⟨tm, ?_⟩, mx := by rw [hmx]; exact r.mx, s1 := hso, s2 := ?_, s3 := ?_, s4 := ?_, p1 := hpo, p2 := ?_, p3 := ?_, p4 := ?_, p5 := ?_, r1 := hro, r2 := ?_, r3 := ?_,
    i1 := by rw [hio, hik]; exact r.i1, i2 := ?_, i3 := by rw [hik]; exact r.i3, i4 := by rw [hik]; exact r.i4, v1 := by rw [hvo, hvk]; exact r.v1, v2 := by rw [hvk]; exact r.v2, v3 := by rw [hvk]; exact r.v3, v4 := by rw [hvk]; exact r.v4, v5 := r.v5,
    l1 := by rw [hlo, hlk]; exact r.l1, l2 := by rw [hlk]; exact r.l2, l3 := by rw [hlk]; exact r.l3, l4 := by rw [hlk]; exact r.l4 }
 ·rw [hmf]
  congr 1
  simp only [Sg.add, List.length_append, List.length_singleton, Sg.top]
  exact Q8q
 ·intro u ks h
  rw [Qbo] at h
  rw [hsk, valueAt_stored]
  split at h
  ·rename_i hu
   rw [if_pos hu]
   cases h
   exact ⟨x, rfl, hx⟩
  ·rename_i hu
   rw [if_neg hu]
   obtain ⟨a, h1, h2⟩ := r.s2 u ks h
   exact ⟨a, h1, tm' _ _ h2⟩
 ·intro u h
  rw [Qbo] at h
  rw [hsk, valueAt_stored]
  split at h
  ·cases h
  ·rename_i hu
   rw [if_neg hu]
   exact r.s3 u h
 ·rw [hsk, Qa2 hs0, r.s4]
  simp [Sg.add]
 ·rw [hpk]
  exact Qcs hp0 (fun y hy => tm' _ _ (r.p2 y hy)) hx
 ·intro ks a v h
  rw [hpk, Qbc hp0] at h
  split at h
  ·rename_i hks
   cases h
   exact ⟨σ.top, tu, rfl, by rw [Qbo, if_pos rfl, hks]⟩
  ·obtain ⟨u, t', h1, h2⟩ := r.p3 ks a v h
   refine ⟨u, t', h1, ?_⟩
   rw [Qbo, if_neg]
   ·exact h2
   ·rintro rfl
    rw [hk0] at h2; cases h2
 ·intro u ks h
  rw [hpk, Qbc hp0]
  rw [Qbo] at h
  split at h
  ·rename_i hu
   cases h
   exact ⟨x, tu, by rw [if_pos rfl, hu]⟩
  ·have hks : ks ≠ nodeKey t := by
    rintro rfl
    exact hnew u (Qdk h)
   rw [if_neg hks]
   exact r.p4 u ks h
 ·rw [hpk, Qct hp0]
  have := r.p5
  simp only [Sg.add, List.length_append, List.length_singleton]
  exact Q8p this
 ·intro u ks h
  rw [Qbo] at h
  split at h
  ·rename_i hu
   rw [hu]; exact hr2
  ·obtain ⟨c, tc, h1⟩ := r.r2 u ks h
   exact hr1 u c tc h1
 ·have := r.r3
  simp only [Sg.add, List.length_append, List.length_singleton]
  exact Q8o hr3 this
 ·rw [hik]
  exact fun y hy => tm' _ _ (r.i2 y hy)
theorem Rep.succIn (r : Rep W b σ) (u : Int) : (valueAt b.sk u).isSome = (σ.key u).isSome := by
 cases h : σ.key u with
 | none => rw [r.s3 u h]; rfl
 | some ks => obtain ⟨a, h1, _⟩ := r.s2 u ks h; rw [h1]; rfl
end
noncomputable abbrev iabs (u : Int) : Int := if u < 0 then -u else u
theorem Qae : sizeLine = 16777216 := rfl
inductive FoaR (σ : Sg) (i v w : Int) : Int → Sg → Prop
 | same : (if w < 0 then -v else v) = (if w < 0 then -w else w) → FoaR σ i v w ((if w < 0 then -1 else 1) * (if w < 0 then -v else v)) σ
 | old {u : Int} : (if w < 0 then -v else v) ≠ (if w < 0 then -w else w) → σ.node u = some (i, (if w < 0 then -v else v), (if w < 0 then -w else w)) → FoaR σ i v w ((if w < 0 then -1 else 1) * u) σ
 | new : (if w < 0 then -v else v) ≠ (if w < 0 then -w else w) → (∀ u, σ.node u ≠ some (i, (if w < 0 then -v else v), (if w < 0 then -w else w))) →
   FoaR σ i v w ((if w < 0 then -1 else 1) * σ.top) (σ.add (i, (if w < 0 then -v else v), (if w < 0 then -w else w)))
end Mine
end
section
namespace Mine
open Classical in
noncomputable abbrev Asg := Int → Bool
noncomputable abbrev BF := Asg → Bool
inductive Den (σ : Sg) : Int → BF → Prop
 | one : Den σ 1 (fun _ => true)
 | node {u i v x : Int} {f g : BF} : σ.node u = some (i, v, x) → Den σ v f → Den σ x g → Den σ u (fun a => if a i then g a else f a)
 | neg {u : Int} {f : BF} : 0 < u → Den σ u f → Den σ (-u) (fun a => !f a)
noncomputable def Vd (σ : Sg) (k u : Int) : Prop := (iabs u = 1 ∧ k ≤ σ.nv) ∨ ∃ t, σ.node (iabs u) = some t ∧ k ≤ t.1
structure Ok (σ : Sg) : Prop where
 nd : ∀ u i v x, σ.node u = some (i, v, x) → 0 ≤ i ∧ i < σ.nv ∧ 0 < x ∧ v ≠ x ∧ Vd σ (i + 1) v ∧ Vd σ (i + 1) x
 un : ∀ u u' t, σ.node u = some t → σ.node u' = some t → u = u'
structure Ext (σ σ' : Sg) : Prop where
 ord : σ'.order = σ.order
 nd : ∀ u t, σ.node u = some t → σ'.node u = some t
theorem Ext.refl (σ : Sg) : Ext σ σ := ⟨rfl, fun _ _ h => h⟩
theorem Ext.trans {a b c : Sg} (x : Ext a b) (y : Ext b c) : Ext a c := ⟨y.ord.trans x.ord, fun u t h => y.nd u t (x.nd u t h)⟩
theorem Ext.nv {σ σ' : Sg} (e : Ext σ σ') : σ'.nv = σ.nv := by unfold Sg.nv; rw [e.ord]
theorem Den.ext {σ σ' : Sg} (e : Ext σ σ') {u : Int} {f : BF} (h : Den σ u f) : Den σ' u f := by
 induction h with
 | one => exact .one
 | node h _ _ i1 i2 => exact .node (e.nd _ _ h) i1 i2
 | neg h _ i1 => exact .neg h i1
theorem Vd.ext {σ σ' : Sg} (e : Ext σ σ') {k u : Int} (h : Vd σ k u) : Vd σ' k u := by
 rcases h with ⟨a, b⟩ | ⟨t, a, b⟩
 ·exact .inl ⟨a, by rw [e.nv]; exact b⟩
 ·exact .inr ⟨t, e.nd _ _ a, b⟩
theorem Qjp (u : Int) : iabs (-u) = iabs u := by unfold iabs; (repeat' split) <;> omega
theorem Qam {u : Int} (h : 0 < u) : iabs u = u := by unfold iabs; split <;> omega
theorem Qbm (u : Int) : u = iabs u ∨ u = -iabs u := by unfold iabs; split <;> omega
theorem Vd.neg {σ : Sg} {k u : Int} (h : Vd σ k u) : Vd σ k (-u) := by unfold Vd at *; rw [Qjp]; exact h
theorem Vd.abs {σ : Sg} {k u : Int} (h : Vd σ k u) : Vd σ k (iabs u) := by unfold Vd at *; rw [Qam (u := iabs u)] ; exact h; rcases h with ⟨a, _⟩ | ⟨t, a, _⟩ <;> first | omega | (have := Qc8 a; exact Q8n this)
theorem Vd.le {σ : Sg} {k k' u : Int} (h : Vd σ k u) (hk : k' ≤ k) : Vd σ k' u := by
 rcases h with ⟨a, b⟩ | ⟨t, a, b⟩
 ·exact .inl ⟨a, Int.le_trans hk b⟩
 ·exact .inr ⟨t, a, Int.le_trans hk b⟩
theorem Vd.one {σ : Sg} {k : Int} (h : k ≤ σ.nv) : Vd σ k 1 := .inl ⟨by decide, h⟩
theorem Vd.ne0 {σ : Sg} {k u : Int} (h : Vd σ k u) : u ≠ 0 := by
 rintro rfl
 rcases h with ⟨a, _⟩ | ⟨t, a, _⟩
 ·exact absurd a (by decide)
 ·have := Qc8 a
  exact absurd this.1 (by decide)
theorem Vd.key {σ : Sg} {k u : Int} (h : Vd σ k u) : (σ.key (iabs u)).isSome = true := by
 rcases h with ⟨a, _⟩ | ⟨t, a, _⟩
 ·rw [a]; rfl
 ·rw [Qdl a]; rfl
theorem Vd.bound {σ : Sg} (ok : Ok σ) {k u : Int} (h : Vd σ k u) : k ≤ σ.nv := by
 rcases h with ⟨_, b⟩ | ⟨⟨i, v, x⟩, a, b⟩
 ·exact b
 ·have := (ok.nd _ _ _ _ a).2.1
  simp only at b
  exact Q8m b this
theorem Vd.cases {σ : Sg} {k u : Int} (h : Vd σ k u) : (u = 1 ∨ u = -1) ∨ ∃ i v x, σ.node (iabs u) = some (i, v, x) ∧ k ≤ i := by
 rcases h with ⟨a, _⟩ | ⟨⟨i, v, x⟩, a, b⟩
 ·rcases Qbm u with e | e
  ·exact .inl (.inl (by exact Q8l a e))
  ·exact .inl (.inr (by exact Q8k a e))
 ·exact .inr ⟨i, v, x, a, b⟩
theorem Qcc (σ : Sg) : σ.node 1 = none := by simp [Sg.node]
theorem Qar {σ : Sg} {u : Int} {t} (h : σ.node u = some t) : 2 ≤ u := (Qc8 h).1
theorem Den.one_inv {σ : Sg} {f : BF} (h : Den σ 1 f) : f = fun _ => true := by
 generalize hu : (1 : Int) = u at h
 cases h with
 | one => rfl
 | node h => subst hu; rw [Qcc] at h; cases h
 | neg h => omega
theorem Den.node_inv {σ : Sg} {u i v x : Int} {f : BF} (hn : σ.node u = some (i, v, x)) (h : Den σ u f) : ∃ g k, Den σ v g ∧ Den σ x k ∧ f = fun a => if a i then k a else g a := by
 have := Qar hn
 cases h with
 | one => rw [Qcc] at hn; cases hn
 | node h h1 h2 => rw [hn] at h; cases h; exact ⟨_, _, h1, h2, rfl⟩
 | neg h => omega
theorem Den.pos {σ : Sg} {u : Int} {f : BF} (h : Den σ u f) : u ≠ 0 := by
 cases h with
 | one => decide
 | node h => have := Qar h; exact Q8j this
 | neg h => exact Q8i h
theorem Qav {σ : Sg} {u : Int} {f : BF} (hu : 0 < u) (h : Den σ (-u) f) : ∃ g, Den σ u g ∧ f = fun a => !g a := by
 generalize hw : -u = y at h
 cases h with
 | one => omega
 | node h => have := Qar h; omega
 | neg h h1 => rename_i u' g; obtain rfl : u = u' := by exact Q63 hw
               exact ⟨_, h1, rfl⟩
theorem Den.not {σ : Sg} {u : Int} {f : BF} (h : Den σ u f) : Den σ (-u) (fun a => !f a) := by
 rcases Int.lt_or_gt_of_ne h.pos with hu | hu
 ·have h' : Den σ (-(-u)) f := by rw [Int.neg_neg]; exact h
  obtain ⟨g, h1, rfl⟩ := Qav (u := -u) (by exact Qtp hu) h'
  simpa using h1
 ·exact .neg hu h
theorem Den.fn {σ : Sg} {u : Int} {f g : BF} (h : Den σ u f) (h' : Den σ u g) : f = g := by
 induction h generalizing g with
 | one => exact h'.one_inv.symm
 | node hn _ _ i1 i2 =>
  obtain ⟨g1, g2, a, b, rfl⟩ := Den.node_inv hn h'
  rw [i1 a, i2 b]
 | neg hu _ i1 =>
  obtain ⟨g1, a, rfl⟩ := Qav hu h'
  rw [i1 a]
theorem Den.ex {σ : Sg} (ok : Ok σ) : ∀ (n : Nat) (k u : Int), ((σ.nv : Int) - k).toNat ≤ n → Vd σ k u → ∃ f, Den σ u f := by
 intro n
 induction n with
 | zero =>
  intro k u hn h
  rcases h.cases with (rfl | rfl) | ⟨i, v, x, hx, hk⟩
  ·exact ⟨_, .one⟩
  ·exact ⟨_, .neg (u := 1) (by decide) .one⟩
  ·have := (ok.nd _ _ _ _ hx).2.1
   omega
 | succ n ih =>
  intro k u hn h
  rcases h.cases with (rfl | rfl) | ⟨i, v, x, hx, hk⟩
  ·exact ⟨_, .one⟩
  ·exact ⟨_, .neg (u := 1) (by decide) .one⟩
  ·have o := ok.nd _ _ _ _ hx
   obtain ⟨f, hf⟩ := ih (i + 1) v (by exact Q62 hn hk) o.2.2.2.2.1
   obtain ⟨g, hg⟩ := ih (i + 1) x (by exact Q62 hn hk) o.2.2.2.2.2
   have hd : Den σ (iabs u) _ := .node hx hf hg
   rcases Qbm u with e | e
   ·rw [e]; exact ⟨_, hd⟩
   ·rw [e]; exact ⟨_, hd.not⟩
theorem Vd.den {σ : Sg} (ok : Ok σ) {k u : Int} (h : Vd σ k u) : ∃ f, Den σ u f := Den.ex ok _ k u (Nat.le_refl _) h
theorem Den.vd {σ : Sg} (ok : Ok σ) {u : Int} {f : BF} (h : Den σ u f) : Vd σ 0 u := by
 induction h with
 | one => exact .one (by unfold Sg.nv; exact Qdc)
 | node hn _ _ _ _ =>
  have := Qar hn
  exact .inr ⟨_, by rw [Qam (by exact Qpg this)]; exact hn, (ok.nd _ _ _ _ hn).1⟩
 | neg _ _ ih => exact ih.neg
theorem Den.supp {σ : Sg} (ok : Ok σ) {u : Int} {f : BF} (h : Den σ u f) : ∀ {k : Int}, Vd σ k u → ∀ a a' : Asg, (∀ j, k ≤ j → a j = a' j) → f a = f a' := by
 induction h with
 | one => intro _ _ _ _ _; rfl
 | @node u i v x f g hn h1 h2 i1 i2 =>
  intro k hv a a' ha
  have hp := Qar hn
  have o := ok.nd _ _ _ _ hn
  have hk : k ≤ i := by
   rcases hv with ⟨e, _⟩ | ⟨t, e, hk⟩
   ·rw [Qam (by exact Qpg hp)] at e; exact Q8h hp e
   ·rw [Qam (by exact Qpg hp), hn] at e; cases e; exact hk
  simp only
  rw [ha i hk, i1 o.2.2.2.2.1 a a' fun j hj => ha j (by exact Q61 hk hj), i2 o.2.2.2.2.2 a a' fun j hj => ha j (by exact Q61 hk hj)]
 | neg hu _ ih =>
  intro k hv a a' ha
  simp only
  rw [ih (by have := hv.neg; rwa [Int.neg_neg] at this) a a' ha]
theorem Den.top {σ : Sg} (ok : Ok σ) {u : Int} {f : BF} (h : Den σ u f) : f (fun _ => true) = decide (0 < u) := by
 induction h with
 | one => rfl
 | node hn _ _ _ i2 =>
  have hp := Qar hn
  have o := ok.nd _ _ _ _ hn
  simp only [if_true]
  rw [i2]
  simp only [decide_eq_decide]
  exact Q8g hp o.2.2.1
 | neg hu _ ih =>
  simp only [ih]
  rw [decide_eq_true hu]
  symm
  simp only [Bool.not_true, decide_eq_false_iff_not]
  exact Q8f hu
noncomputable def upd (a : Asg) (i : Int) (b : Bool) : Asg := fun j => if j = i then b else a j
theorem upd_same (a : Asg) (i : Int) (b : Bool) : upd a i b i = b := by simp [upd]
theorem Qdo {a : Asg} {i j : Int} {b : Bool} (h : j ≠ i) : upd a i b j = a j := by simp [upd, h]
theorem Den.supp1 {σ : Sg} (ok : Ok σ) {u k : Int} {f : BF} (h : Den σ u f) (hv : Vd σ (k + 1) u) (a : Asg) (b : Bool) : f (upd a k b) = f a :=
 h.supp ok hv _ _ fun j hj => Qdo (by exact Q8e hj)
theorem canon {σ : Sg} (ok : Ok σ) : ∀ (n : Nat) (k u u' : Int) (f : BF), ((σ.nv : Int) - k).toNat ≤ n → Vd σ k u → Vd σ k u' → Den σ u f → Den σ u' f → u = u' := by
 have base : ∀ (n : Nat), (∀ (k u u' : Int) (f : BF), ((σ.nv : Int) - k).toNat < n → Vd σ k u → Vd σ k u' → Den σ u f → Den σ u' f → u = u') →
   ∀ (k u u' : Int) (f : BF), ((σ.nv : Int) - k).toNat ≤ n → 0 < u → 0 < u' → Vd σ k u → Vd σ k u' → Den σ u f → Den σ u' f → u = u' := by
  intro n ih k u u' f hn hu hu' hv hv' hd hd'
  have key : ∀ {u u' : Int}, 0 < u → 0 < u' → Vd σ k u → Vd σ k u' → Den σ u f → Den σ u' f → ∀ i v x, σ.node u = some (i, v, x) → u = u' := by
   intro u u' hu hu' hv hv' hd hd' i v x hx
   have o := ok.nd _ _ _ _ hx
   have hk : k ≤ i := by
    rcases hv with ⟨e, _⟩ | ⟨t, e, hk⟩
    ·rw [Qam hu] at e; have := Qar hx; exact Q8d e this
    ·rw [Qam hu, hx] at e; cases e; exact hk
   obtain ⟨g0, g1, d0, d1, rfl⟩ := Den.node_inv hx hd
   have small : ((σ.nv : Int) - (i + 1)).toNat < n ∨ n = 0 := by exact Q8c hn hk
   have hlt : ((σ.nv : Int) - (i + 1)).toNat < n := by
    rcases small with h | h
    ·exact h
    ·have := o.2.1; exact Q60 hn hk this
   have no : ¬ Vd σ (i + 1) u' := by
    intro hv2
    have e0 : ∀ a, g0 a = (if a i then g1 a else g0 a) := fun a => by
     have h1 := hd'.supp1 ok hv2 a false
     simp only [upd_same, Bool.false_eq_true, if_false] at h1
     rw [← h1]; exact (d0.supp1 ok o.2.2.2.2.1 a false).symm
    have e1 : ∀ a, g1 a = (if a i then g1 a else g0 a) := fun a => by
     have h1 := hd'.supp1 ok hv2 a true
     simp only [upd_same, if_true] at h1
     rw [← h1]; exact (d1.supp1 ok o.2.2.2.2.2 a true).symm
    have e : g0 = g1 := funext fun a => (e0 a).trans (e1 a).symm
    rw [e] at d0
    exact o.2.2.2.1 (ih (i + 1) v x g1 hlt o.2.2.2.2.1 o.2.2.2.2.2 d0 d1)
   rcases hv'.cases with (rfl | rfl) | ⟨i', v', x', hx', hk'⟩
   ·exact absurd (Vd.one (by have := o.2.1; exact Q6z this)) no
   ·exact Q8b hu'
   ·rw [Qam hu'] at hx'
    have o' := ok.nd _ _ _ _ hx'
    have hi : i' ≤ i := by
     rcases Int.lt_or_le i i' with h | h
     ·exact absurd (.inr ⟨_, by rw [Qam hu']; exact hx', by show i + 1 ≤ i'; exact Qz2 h⟩) no
     ·exact h
    obtain ⟨g0', g1', d0', d1', e'⟩ := Den.node_inv hx' hd'
    have hi' : i ≤ i' := by
     rcases Int.lt_or_le i' i with h | h
     ·exfalso
      have lt' : ((σ.nv : Int) - (i' + 1)).toNat < n := by have := o'.2.1; exact Q60 hn hk' this
      have hv2 : Vd σ (i' + 1) u := .inr ⟨_, by rw [Qam hu]; exact hx, by show i' + 1 ≤ i; exact Qz2 h⟩
      have e0 : ∀ a, g0' a = (if a i' then g1' a else g0' a) := fun a => by
       have h1 := hd.supp1 ok hv2 a false
       have h2 := congrFun e' (upd a i' false)
       have h3 := congrFun e' a
       simp only [upd_same, Bool.false_eq_true, if_false] at h1 h2 h3
       rw [← h3, ← h1, h2]
       exact (d0'.supp1 ok o'.2.2.2.2.1 a false).symm
      have e1 : ∀ a, g1' a = (if a i' then g1' a else g0' a) := fun a => by
       have h1 := hd.supp1 ok hv2 a true
       have h2 := congrFun e' (upd a i' true)
       have h3 := congrFun e' a
       simp only [upd_same, if_true] at h1 h2 h3
       rw [← h3, ← h1, h2]
       exact (d1'.supp1 ok o'.2.2.2.2.2 a true).symm
      have e : g0' = g1' := funext fun a => (e0 a).trans (e1 a).symm
      rw [e] at d0'
      exact o'.2.2.2.1 (ih (i' + 1) v' x' g1' lt' o'.2.2.2.2.1 o'.2.2.2.2.2 d0' d1')
     ·exact h
    obtain rfl : i = i' := by exact Q8a hi hi'
    have E0 : g0 = g0' := funext fun a => by
     have h2 := congrFun e' (upd a i false)
     simp only [upd_same, Bool.false_eq_true, if_false] at h2
     rw [d0.supp1 ok o.2.2.2.2.1, d0'.supp1 ok o'.2.2.2.2.1] at h2
     exact h2
    have E1 : g1 = g1' := funext fun a => by
     have h2 := congrFun e' (upd a i true)
     simp only [upd_same, if_true] at h2
     rw [d1.supp1 ok o.2.2.2.2.2, d1'.supp1 ok o'.2.2.2.2.2] at h2
     exact h2
    have q0 := ih (i + 1) v v' g0 hlt o.2.2.2.2.1 o'.2.2.2.2.1 d0 (E0 ▸ d0')
    have q1 := ih (i + 1) x x' g1 hlt o.2.2.2.2.2 o'.2.2.2.2.2 d1 (E1 ▸ d1')
    exact ok.un u u' _ hx (by rw [q0, q1]; exact hx')
  rcases hv.cases with (rfl | rfl) | ⟨i, v, x, hx, _⟩
  ·rcases hv'.cases with (rfl | rfl) | ⟨i', v', x', hx', _⟩
   ·rfl
   ·omega
   ·rw [Qam hu'] at hx'
    exact (key hu' hu hv' hv hd' hd _ _ _ hx').symm
  ·exact Q79 hu
  ·rw [Qam hu] at hx
   exact key hu hu' hv hv' hd hd' _ _ _ hx
 intro n
 induction n using Nat.strongRecOn with
 | ind n ih =>
  intro k u u' f hn hv hv' hd hd'
  have ih' : ∀ (k u u' : Int) (f : BF), ((σ.nv : Int) - k).toNat < n → Vd σ k u → Vd σ k u' → Den σ u f → Den σ u' f → u = u' := fun k u u' f h a b c d => ih _ h k u u' f (Nat.le_refl _) a b c d
  have s := hd.top ok
  have s' := hd'.top ok
  rw [s] at s'
  simp only [decide_eq_decide] at s'
  rcases Int.lt_or_gt_of_ne hd.pos with hu | hu
  ·have hu' : u' < 0 := by
    have := hd'.pos
    exact Q78 s' hu this
   have := base n ih' k (-u) (-u') _ hn (by exact Qtp hu) (by exact Qtp hu') hv.neg hv'.neg hd.not hd'.not
   exact Q63 this
  ·exact base n ih' k u u' f hn hu (s'.mp hu) hv hv' hd hd'
theorem Qim {σ : Sg} (ok : Ok σ) {u u' : Int} {f : BF} (h : Den σ u f) (h' : Den σ u' f) : u = u' := canon ok _ 0 u u' f (Nat.le_refl _) (h.vd ok) (h'.vd ok) h h'
end Mine
end
section
namespace Mine
theorem Vd.back {σ σ' : Sg} (ok : Ok σ) (e : Ext σ σ') {k u : Int} {f : BF} (d : Den σ u f) (h : Vd σ' k u) : Vd σ k u := by
 rcases (d.vd ok) with ⟨a, _⟩ | ⟨t, a, _⟩
 ·rcases h with ⟨_, b⟩ | ⟨t, a', _⟩
  ·exact .inl ⟨a, by rw [← e.nv]; exact b⟩
  ·rw [a, Qcc] at a'; cases a'
 ·rcases h with ⟨a', _⟩ | ⟨t', a', b⟩
  ·rw [a', Qcc] at a; cases a
  ·rw [e.nd _ _ a] at a'
   cases a'
   exact .inr ⟨t, a, b⟩
theorem Ext.add (σ : Sg) (t : Int × Int × Int) : Ext σ (σ.add t) := ⟨rfl, fun u t' h => by
 rw [Qbu, if_neg]
 ·exact h
 ·have := Qc8 h
  exact Q77 this⟩
theorem Ok.add {σ : Sg} (ok : Ok σ) {i v x : Int} (hi : 0 ≤ i) (hi2 : i < σ.nv) (hx0 : 0 < x) (hne : v ≠ x) (hv : Vd σ (i + 1) v) (hx : Vd σ (i + 1) x) (hnew : ∀ u, σ.node u ≠ some (i, v, x)) : Ok (σ.add (i, v, x)) := by
 have e := Ext.add σ (i, v, x)
 refine ⟨fun u i' v' x' h => ?_, fun u u' t h h' => ?_⟩
 ·rw [Qbu] at h
  split at h
  ·cases h
   exact ⟨hi, hi2, hx0, hne, hv.ext e, hx.ext e⟩
  ·kcj_m
   obtain ⟨a, b, c, d, f, g⟩ := ok.nd _ _ _ _ h
   kd_p1
   exact ⟨a, b, c, d, f.ext e, g.ext e⟩
 ·rw [Qbu] at h h'
  split at h
  ·rename_i hu
   split at h'
   ·rename_i hu'
    rw [hu, hu']
   ·cases h
    exact absurd h' (hnew u')
  ·split at h'
   ·cases h'
    exact absurd h (hnew u)
   ·exact ok.un u u' t h h'
structure FoaS (σ : Sg) (i : Int) (f g : BF) (r : Int) (σ' : Sg) : Prop where
 ok : Ok σ'
 ext : Ext σ σ'
 vd : Vd σ' i r
 den : Den σ' r (fun a => if a i then g a else f a)
 len : σ'.tab.length ≤ σ.tab.length + 1
 ite : σ'.ite = σ.ite
 its : σ'.its = σ.its
theorem Qlt {σ σ' : Sg} {i v x r : Int} {f g : BF} (ok : Ok σ) (hi : 0 ≤ i) (hi2 : i < σ.nv) (hv : Vd σ (i + 1) v) (hx : Vd σ (i + 1) x) (dv : Den σ v f) (dx : Den σ x g) (h : FoaR σ i v x r σ') : FoaS σ i f g r σ' := by
 have up : ∀ {v x : Int} {f g : BF} {r : Int} {σ' : Sg}, 0 < x → Vd σ (i + 1) v → Vd σ (i + 1) x → Den σ v f → Den σ x g →
   ((v = x ∧ r = v ∧ σ' = σ) ∨ (v ≠ x ∧ σ.node r = some (i, v, x) ∧ σ' = σ) ∨ (v ≠ x ∧ (∀ u, σ.node u ≠ some (i, v, x)) ∧ r = σ.top ∧ σ' = σ.add (i, v, x))) → FoaS σ i f g r σ' := by
  intro v x f g r σ' hx0 hv hx dv dx h
  rcases h with ⟨rfl, rfl, rfl⟩ | ⟨hne, hn, rfl⟩ | ⟨hne, hnew, rfl, rfl⟩
  ·refine ⟨ok, .refl _, hv.le (by exact Qyx), ?_, by exact Qsy, rfl, rfl⟩
   obtain rfl := dv.fn dx
   have : (fun a : Asg => if a i = true then f a else f a) = f := funext fun a => by split <;> rfl
   rw [this]; exact dx
  ·have hp := Qar hn
   exact ⟨ok, .refl _, .inr ⟨_, by rw [Qam (by exact Qpg hp)]; exact hn, Int.le_refl _⟩, .node hn dv dx, by exact Qsy, rfl, rfl⟩
  ·have e := Ext.add σ (i, v, x)
   have hn : (σ.add (i, v, x)).node σ.top = some (i, v, x) := by rw [Qbu, if_pos rfl]
   have hp := Qar hn
   exact ⟨ok.add hi hi2 hx0 hne hv hx hnew, e, .inr ⟨_, by rw [Qam (by exact Qpg hp)]; exact hn, Int.le_refl _⟩, .node hn (dv.ext e) (dx.ext e), by simp [Sg.add], rfl, rfl⟩
 by_cases hx0 : x < 0
 ·-- turned
  have fix : ∀ {r' : Int} {σ' : Sg}, FoaS σ i (fun a => !f a) (fun a => !g a) r' σ' → FoaS σ i f g (-1 * r') σ' := by
   intro r' σ' s
   refine ⟨s.ok, s.ext, ?_, ?_, s.len, s.ite, s.its⟩
   ·have := s.vd.neg
    rwa [show -1 * r' = -r' by kd_p]
   ·have := s.den.not
    rw [show -1 * r' = -r' by kd_p]
    have e : (fun a : Asg => if a i = true then g a else f a) = fun a => !(if a i = true then !g a else !f a) := funext fun a => by split <;> simp
    rw [e]; exact this
  have hx1 : 0 < -x := by exact Qtp hx0
  generalize hs : σ' = τ at h
  cases h with
  | same h0 => simp only [if_pos hx0] at h0 ⊢; exact fix (up hx1 hv.neg hx.neg dv.not dx.not (.inl ⟨h0, rfl, rfl⟩))
  | old h0 h1 => simp only [if_pos hx0] at h0 h1 ⊢; exact fix (up hx1 hv.neg hx.neg dv.not dx.not (.inr (.inl ⟨h0, h1, rfl⟩)))
  | new h0 h1 => simp only [if_pos hx0] at h0 h1 ⊢; exact fix (up hx1 hv.neg hx.neg dv.not dx.not (.inr (.inr ⟨h0, h1, rfl, rfl⟩)))
 ·have hx1 : 0 < x := by have := dx.pos; exact Qyj hx0 this
  cases h with
  | same h0 => simp only [if_neg hx0, Int.one_mul] at h0 ⊢; exact up hx1 hv hx dv dx (.inl ⟨h0, rfl, rfl⟩)
  | old h0 h1 => simp only [if_neg hx0, Int.one_mul] at h0 h1 ⊢; exact up hx1 hv hx dv dx (.inr (.inl ⟨h0, h1, rfl⟩))
  | new h0 h1 => simp only [if_neg hx0, Int.one_mul] at h0 h1 ⊢; exact up hx1 hv hx dv dx (.inr (.inr ⟨h0, h1, rfl, rfl⟩))
noncomputable def Ik (σ : Sg) : Prop := ∀ g u v r, σ.ite g u v = some r → ∃ fg fu fv, Den σ g fg ∧ Den σ u fu ∧ Den σ v fv ∧ Den σ r (fun a => if fg a then fu a else fv a) ∧ ∀ k, Vd σ k g → Vd σ k u → Vd σ k v → Vd σ k r
theorem Ik.ext {σ σ' : Sg} (ok : Ok σ) (e : Ext σ σ') (h : Ik σ) (hi : σ'.ite = σ.ite) : Ik σ' := by
 intro g u v r hr
 rw [hi] at hr
 kcj_m
 obtain ⟨fg, fu, fv, a, b, c, d, k⟩ := h g u v r hr
 kd_p1
 exact ⟨fg, fu, fv, a.ext e, b.ext e, c.ext e, d.ext e, fun k' h1 h2 h3 => (k k' (Vd.back ok e a h1) (Vd.back ok e b h2) (Vd.back ok e c h3)).ext e⟩
end Mine
end
section
namespace Mine
section
variable {N : Nm} {W : Wd} {Ψ : Frm hK N W} {vals : Vals} {b : Mg} {σ : Sg} {R : Led} {sa : Addr}
theorem Qgg {k : Int} {v : Value} (h : (optKind W.prog W.w).is (some k) v = true) : ∃ t, v = .int k t := Qa0 h
theorem Qji {v : Value} (h : (optKind W.prog W.w).is none v = true) : v = .none := Qa5 h
theorem Qo7 {a c d : Int} {vs : List Value} (h : ItemsAre (optKind W.prog W.w) [some a, some c, some d] vs) : ∃ t1 t2 t3, vs = [.int a t1, .int c t2, .int d t3] := by
 cases h with | cons h1 h =>
 cases h with | cons h2 h =>
 cases h with | cons h3 h =>
 cases h
 obtain ⟨t1, rfl⟩ := Qgg h1
 obtain ⟨t2, rfl⟩ := Qgg h2
 obtain ⟨t3, rfl⟩ := Qgg h3
 exact ⟨_, _, _, rfl⟩
theorem itemsT {a : Int} {vs : List Value} (h : ItemsAre (optKind W.prog W.w) [some a, none, none] vs) : ∃ t1, vs = [.int a t1, .none, .none] := by
 cases h with | cons h1 h =>
 cases h with | cons h2 h =>
 cases h with | cons h3 h =>
 cases h
 obtain ⟨t1, rfl⟩ := Qgg h1
 obtain rfl := Qji h2
 obtain rfl := Qji h3
 exact ⟨_, rfl⟩
theorem Qcx {value slice : Expr} {u i v x : Int} {t : Tok} {Q : VQ} (r : Rep W b σ) (hn : σ.node u = some (i, v, x))
  (q : ∀ a t1 t2 t3 n dd sl, (a, (⟨.type "tuple", dd, .seq #[.int i t1, .int v t2, .int x t3] n, sl⟩ : Obj)) ∈ mgL b ++ R → Q (.ref a) vals (mgL b ++ R))
  (hs : subscripted slice false (.ref b.sd) (.int u t) = operate [.ref b.sd, .int u t] (getItem (.ref b.sd) (.int u t)) := by with_unfolding_all rfl) : WA Ψ (subscriptTail value slice (.ref b.sd) (.int u t)) Q vals (mgL b ++ R) := by
 kcj_m
 obtain ⟨a, h1, h2⟩ := r.s2 u _ (Qdl hn)
 obtain ⟨items, n, dd, sl, hm, hi⟩ := Qbj (R := R) h2
 obtain ⟨t1, t2, t3, e⟩ := Qo7 hi
 obtain ⟨items⟩ := items
 kd_p1
 simp only at e
 subst e
 exact dTail Qcp r.s1 (Qaw (intKind_is _ _ _ _) Qcp r.s1 h1 (q a t1 t2 t3 n dd sl hm)) hs
noncomputable def Sg.lev (σ : Sg) (u : Int) : Int := if iabs u = 1 then σ.nv else match σ.node (iabs u) with
 | some (i, _, _) => i
 | none => 0
theorem Qc9 {value slice : Expr} {u : Int} {t : Tok} {Q : VQ} (r : Rep W b σ) (hk : (σ.key (iabs u)).isSome = true)
  (q : ∀ a t1 v2 v3 n dd sl, (a, (⟨.type "tuple", dd, .seq #[.int (σ.lev u) t1, v2, v3] n, sl⟩ : Obj)) ∈ mgL b ++ R → Q (.ref a) vals (mgL b ++ R))
  (hs : subscripted slice false (.ref b.sd) (.int (iabs u) t) = operate [.ref b.sd, .int (iabs u) t] (getItem (.ref b.sd) (.int (iabs u) t)) := by with_unfolding_all rfl) : WA Ψ (subscriptTail value slice (.ref b.sd) (.int (iabs u) t)) Q vals (mgL b ++ R) := by
 kcj_m
 obtain ⟨ks, hks⟩ := Option.isSome_iff_exists.mp hk
 obtain ⟨a, h1, h2⟩ := r.s2 _ _ hks
 obtain ⟨items, n, dd, sl, hm, hi⟩ := Qbj (R := R) h2
 kd_p1
 by_cases h1' : iabs u = 1
 ·have : ks = [some (σ.nv : Int), none, none] := by rw [h1'] at hks; exact (Option.some.inj hks).symm
  subst this
  obtain ⟨t1, e⟩ := itemsT hi
  obtain ⟨items⟩ := items
  simp only at e
  subst e
  refine dTail Qcp r.s1 (Qaw (intKind_is _ _ _ _) Qcp r.s1 h1 (q a t1 .none .none n dd sl ?_)) hs
  unfold Sg.lev
  rw [if_pos h1']; exact hm
 ·unfold Sg.key at hks
  rw [if_neg h1'] at hks
  obtain ⟨⟨i, v, x⟩, hn, rfl⟩ := Option.map_eq_some_iff.mp hks
  kcj_m
  obtain ⟨t1, t2, t3, e⟩ := Qo7 hi
  obtain ⟨items⟩ := items
  kd_p1
  simp only at e
  subst e
  refine dTail Qcp r.s1 (Qaw (intKind_is _ _ _ _) Qcp r.s1 h1 (q a t1 (.int v t2) (.int x t3) n dd sl ?_)) hs
  unfold Sg.lev
  rw [if_neg h1', hn]; exact hm
theorem Qd6 {l : Led} {value slice : Expr} {a : Addr} {vs : List Value} {n : Nat} {dd : Option Addr} {sl : Array (Option Value)} {k : Int} {u : Tok} {j : Nat} {v : Value} {Q : VQ} (hm : (a, (⟨.type "tuple", dd, .seq vs.toArray n, sl⟩ : Obj)) ∈ l)
  (hlo : -(2 ^ 63) ≤ k) (hhi : k < 2 ^ 63) (hj : seqIndex? k vs.length = some j) (hx : vs[j]? = some v) (q : Q v vals l)
  (hs : subscripted slice false (.ref a) (.int k u) = PySem.operate [.ref a, .int k u] (getItem (.ref a) (.int k u)) := by with_unfolding_all rfl) : WA Ψ (subscriptTail value slice (.ref a) (.int k u)) Q vals l := fun E s at' =>
 item_tupleT ⟨_, (at'.N _ hm).1, rfl, n, rfl⟩ hlo hhi hj hx ⟨Same.refl s, vals, l, at', q⟩ hs
end
inductive CofR (σ : Sg) (i u : Int) : Int → Int → Prop
 | above : Vd σ (i + 1) u → CofR σ i u u u
 | up {v x : Int} : 0 < u → σ.node u = some (i, v, x) → CofR σ i u v x
 | down {v x : Int} : u < 0 → σ.node (-u) = some (i, v, x) → CofR σ i u (-v) (-x)
structure CofS (σ : Sg) (i : Int) (f : BF) (v0 v1 : Int) (f0 f1 : BF) : Prop where
 d0 : Den σ v0 f0
 d1 : Den σ v1 f1
 e : f = fun a => if a i then f1 a else f0 a
 k0 : Vd σ (i + 1) v0
 k1 : Vd σ (i + 1) v1
theorem Qe4 {σ : Sg} (ok : Ok σ) {i u v0 v1 : Int} {f : BF} (d : Den σ u f) (h : CofR σ i u v0 v1) : ∃ f0 f1, CofS σ i f v0 v1 f0 f1 := by
 cases h with
 | above hv => exact ⟨f, f, d, d, funext fun a => by split <;> rfl, hv, hv⟩
 | up hu hn =>
  have o := ok.nd _ _ _ _ hn
  kcj_m
  obtain ⟨g, k, d0, d1, e⟩ := Den.node_inv hn d
  kd_p1
  exact ⟨g, k, d0, d1, e, o.2.2.2.2.1, o.2.2.2.2.2⟩
 | down hu hn =>
  have o := ok.nd _ _ _ _ hn
  have d' := d.not
  kcj_m
  obtain ⟨g, k, d0, d1, e⟩ := Den.node_inv hn d'
  kd_p1
  refine ⟨_, _, d0.not, d1.not, funext fun a => ?_, o.2.2.2.2.1.neg, o.2.2.2.2.2.neg⟩
  have := congrFun e a
  rw [← Bool.not_not (f a), this]
  split <;> rfl
theorem Qbr {σ : Sg} (ok : Ok σ) {k u : Int} (h : Vd σ k u) : k ≤ σ.lev u ∧ Vd σ (σ.lev u) u ∧ σ.lev u ≤ σ.nv := by
 unfold Sg.lev
 rcases h with ⟨a, b⟩ | ⟨⟨i, v, x⟩, a, b⟩
 ·rw [if_pos a]; exact ⟨b, .inl ⟨a, Int.le_refl _⟩, Int.le_refl _⟩
 ·have hp := Qar a
  rw [if_neg (by exact Qyd hp), a]
  have := (ok.nd _ _ _ _ a).2.1
  exact ⟨b, .inr ⟨_, a, Int.le_refl _⟩, by simp only; exact Q76 this⟩
theorem Qd4 {σ : Sg} {k u : Int} (h : Vd σ k u) : k ≤ σ.lev u := by
 unfold Sg.lev
 rcases h with ⟨a, b⟩ | ⟨⟨i, v, x⟩, a, b⟩
 ·rw [if_pos a]; exact b
 ·have hp := Qar a
  rw [if_neg (by exact Qyd hp), a]
  exact b
end Mine
end
section
namespace Mine
section
variable {K : Params → Frag} {N : Nm} {W : Wd} {Ψ : Frm K N W} {vals : Vals} {l : Led}
theorem At.grown {s : Shared} {h' : Heap} {tk : Nat} (a : At Ψ vals l s) (hk : ∀ d o, s.heap.get? d = some o → h'.get? d = some o) : At Ψ vals l { s with heap := h', toks := tk } :=
 ⟨a.F.grownK hk, a.N.grown hk, a.U, a.G⟩
theorem Qq3 {a b c : Int} {t u x : Tok} {Q : VQ} (hh : Ψ.A.handled = none) (q : ∀ m t', m ≤ a → m ≤ b → m ≤ c → (m = a ∨ m = b ∨ m = c) → Q (.int m t') vals l) : WA Ψ (call (.builtin "min") [.int a t, .int b u, .int c x]) Q vals l := fun E s a' =>
 min_three_ints hh fun h' tk hk => ⟨⟨rfl, rfl⟩, vals, l, a'.grown hk, by
  by_cases h1 : b < a
  ·by_cases h2 : c < b
   ·rw [if_pos h1, if_pos h2]; exact q _ _ (by exact Q75 h1 h2) (by exact Qu4 h2) (by exact Qu3) (.inr (.inr rfl))
   ·rw [if_pos h1, if_neg h2]; exact q _ _ (by exact Qu4 h1) (by exact Qu3) (by exact Qu2 h2) (.inr (.inl rfl))
  ·by_cases h2 : c < a
   ·rw [if_neg h1, if_pos h2]; exact q _ _ (by exact Qu4 h2) (by exact Q74 h1 h2) (by exact Qu3) (.inr (.inr rfl))
   ·rw [if_neg h1, if_neg h2]; exact q _ _ (by exact Qu3) (by exact Qu2 h1) (by exact Qu2 h2) (.inl rfl)⟩
theorem Qm2 {elts : List Expr} {k : Nat} {tpos : Pos} {y : Addr} {vs : List Value} {M R : Led} {Q : UQ} (hh : Ψ.A.handled = none) (hn : (assignEach elts Ψ.env).length = vs.length) (hstar : (assignEach elts Ψ.env).findIdx? (·.1) = none)
  (h : WA Ψ (assignInOrder ((assignEach elts Ψ.env).map (·.2)) vs) Q vals (M ++ R)) : WA Ψ (assign (.Tuple elts k tpos) Ψ.env (.ref y)) Q vals (M ++ (y, tupObj vs) :: R) :=
 Mine.R.unp (items := vs.toArray) hh (mr (.head _)) (by simpa using hn) hstar (WA.sublist (M ++ R) (sA (sD)) h)
theorem Qoy {α : Type} {b : Mg} {y : Addr × Obj} {R : Led} {T : Sem α} {Q : α → Vals → Led → Prop} (h : WA Ψ T Q vals (mgL { b with tups := y :: b.tups } ++ R)) : WA Ψ T Q vals (mgL b ++ y :: R) :=
 WA.perm _ (mgL_tup.trans shiftPerm.symm) h
end
section
variable {K : Type} [DecidableEq K]
theorem Ql6 (xs : List (K × Addr × Value)) (k x : K) (v : Value) : atKey (xs.map (putAt k v)) x = if x = k then (atKey xs x).map (fun q => (q.1, v)) else atKey xs x := by
 unfold atKey
 induction xs with
 | nil => simp
 | cons y r ih =>
  obtain ⟨y1, y2, y3⟩ := y
  simp only [List.map_cons, List.find?_cons, putAt]
  by_cases hk : y1 = k
  ·subst hk
   by_cases hx : y1 = x
   ·subst hx; simp
   ·have hx' : ¬ x = y1 := fun e => hx e.symm
    simpa [hx, hx'] using ih
  ·by_cases hx : y1 = x
   ·subst hx; simp [hk]
   ·simpa [hk, hx] using ih
theorem Ql5 {xs : List (K × Addr × Value)} {k x : K} {a a' : Addr} {v v' : Value} (h : atKey (storedH xs k a v) x = some (a', v')) : (x = k ∧ v' = v) ∨ (x ≠ k ∧ atKey xs x = some (a', v')) := by
 cases h0 : atKey xs k with
 | none =>
  rw [Qbc h0] at h
  split at h
  ·rename_i e; cases h; exact .inl ⟨e, rfl⟩
  ·rename_i e; exact .inr ⟨e, h⟩
 | some p =>
  rw [storedH_old h0, Ql6] at h
  split at h
  ·rename_i e
   subst e
   rw [h0] at h
   cases h
   exact .inl ⟨rfl, rfl⟩
  ·rename_i e; exact .inr ⟨e, h⟩
theorem Qfl (xs : List (K × Addr × Value)) (k : K) (a : Addr) (v : Value) : (storedH xs k a v).length ≤ xs.length + 1 := by
 cases h0 : atKey xs k with
 | none => rw [Qct h0]; exact Q6y
 | some p => rw [storedH_old h0, List.length_map]; exact Qsy
theorem Qh8 {xs : List (K × Addr × Value)} {k : K} {a : Addr} {v : Value} {P : K → Addr → Prop} (hx : ∀ y ∈ xs, P y.1 y.2.1) (hk : P k a) : ∀ y ∈ storedH xs k a v, P y.1 y.2.1 := by
 cases h0 : atKey xs k with
 | none => exact Qcs (P := fun y => P y.1 y.2.1) h0 hx hk
 | some p =>
  rw [storedH_old h0]
  intro y hy
  obtain ⟨z, hz, rfl⟩ := List.mem_map.mp hy
  unfold putAt
  split <;> exact hx z hz
end
noncomputable def Sg.put (σ : Sg) (g u v r : Int) : Sg := { σ with ite := fun g' u' v' => if g' = g ∧ u' = u ∧ v' = v then some r else σ.ite g' u' v', its := σ.its + 1 }
theorem Rep.put {W : Wd} {b : Mg} {σ : Sg} {g u v rr : Int} {t : Tok} {x : Addr} {o' : Obj} (r : Rep W b σ) (hx : TupL (optKind W.prog W.w) b.tups [some g, some u, some v] x) (ho : IsTupDict (optKind W.prog W.w) o' (storedH b.ik [some g, some u, some v] x (.int rr t))) : Rep W (b.uIo o' (storedH b.ik [some g, some u, some v] x (.int rr t))) (σ.put g u v rr) := by
 exact { r with
  i1 := ho
  i2 := Qh8 (P := fun ks a => TupL (optKind W.prog W.w) b.tups ks a) r.i2 hx
  i3 := fun ks a v' h => by
   rcases Ql5 h with ⟨rfl, rfl⟩ | ⟨hne, h'⟩
   ·exact ⟨g, u, v, rr, t, rfl, rfl, by simp [Sg.put]⟩
   ·obtain ⟨g', u', x', r', t', rfl, e2, e3⟩ := r.i3 ks a v' h'
    refine ⟨g', u', x', r', t', rfl, e2, ?_⟩
    show (if g' = g ∧ u' = u ∧ x' = v then some rr else σ.ite g' u' x') = some r'
    rw [if_neg]
    ·exact e3
    ·rintro ⟨rfl, rfl, rfl⟩; exact hne rfl
  i4 := Nat.le_trans (Qfl _ _ _ _) (Nat.succ_le_succ r.i4) }
theorem Ext.put (σ : Sg) (g u v r : Int) : Ext σ (σ.put g u v r) := ⟨rfl, fun _ _ h => h⟩
theorem Ok.put {σ : Sg} (ok : Ok σ) (g u v r : Int) : Ok (σ.put g u v r) := ⟨fun a i v' x h => by
  have o := ok.nd a i v' x h
  exact ⟨o.1, o.2.1, o.2.2.1, o.2.2.2.1, o.2.2.2.2.1.ext (Ext.put σ g u v r), o.2.2.2.2.2.ext (Ext.put σ g u v r)⟩, fun a b t h h' => ok.un a b t h h'⟩
theorem Ik.put {σ : Sg} (ok : Ok σ) (ik : Ik σ) {g u v r : Int} {fg fu fv : BF} (dg : Den σ g fg) (du : Den σ u fu) (dv : Den σ v fv) (dr : Den σ r (fun a => if fg a then fu a else fv a)) (hk : ∀ k, Vd σ k g → Vd σ k u → Vd σ k v → Vd σ k r) : Ik (σ.put g u v r) := by
 have e := Ext.put σ g u v r
 intro g' u' v' r' h
 simp only [Sg.put] at h
 split at h
 ·rename_i hc
  obtain ⟨rfl, rfl, rfl⟩ := hc
  cases h
  exact ⟨fg, fu, fv, dg.ext e, du.ext e, dv.ext e, dr.ext e, fun k h1 h2 h3 => (hk k (Vd.back ok e dg h1) (Vd.back ok e du h2) (Vd.back ok e dv h3)).ext e⟩
 ·obtain ⟨a, b, c, d1, d2, d3, d4, kk⟩ := ik _ _ _ _ h
  exact ⟨a, b, c, d1.ext e, d2.ext e, d3.ext e, d4.ext e, fun k h1 h2 h3 => (kk k (Vd.back ok e d1 h1) (Vd.back ok e d2 h2) (Vd.back ok e d3 h3)).ext e⟩
end Mine
end
section
namespace Mine
section
variable {K : Params → Frag} {N : Nm} {W : Wd} {Ψ : Frm K N W} {vals : Vals} {l : Led}
theorem lAt {s : Shared} {a : Addr} {vs : List Value} {n : Nat} (h : At Ψ vals l s) (hm : (a, listOf vs.toArray n) ∈ l) : s.heap.IsList a vs.toArray := PySem.IsL.isList (n := n) (h.N _ hm).1
theorem Qmr {a : Addr} {vs : List Value} {n : Nat} {Q : VQ} (hm : (a, listOf vs.toArray n) ∈ l) (hz : vs.length < 2 ^ 60) (q : ∀ t, Q (.int vs.length t) vals l) : WA Ψ (call (.builtin "len") [.ref a]) Q vals l :=
 WA.same q fun E P s a' h => call_len_list (lAt a' hm) (by rw [List.size_toArray]; exact Qxk hz) (by rw [List.size_toArray]; exact h _ _)
theorem Qal {a : Addr} {vs : List Value} {n : Nat} {k : Int} {t : Tok} {v : Value} {value slice : Expr} {Q : VQ} (hm : (a, listOf vs.toArray n) ∈ l) (h0 : 0 ≤ k) (hfit : k < 2 ^ 63) (hx : vs[k.toNat]? = some v) (q : Q v vals l)
  (hs : subscripted slice false (.ref a) (.int k t) = PySem.operate [.ref a, .int k t] (getItem (.ref a) (.int k t)) := by with_unfolding_all rfl) : WA Ψ (subscriptTail value slice (.ref a) (.int k t)) Q vals l := fun E s a' =>
 tail_any (lAt a' hm).typeIs slot_list_getitem.lookup (wpAny_getItem_list (lAt a' hm) h0 hfit (by simpa using hx) ⟨Same.refl s, vals, l, a', q⟩) hs
theorem Qmn {a : Addr} {o : Obj} {S : Int → Bool} {n : Nat} {k : Int} {t : Tok} {Q : VQ} (hm : (a, o) ∈ l) (ho : o.SetObjOf (intKind W.prog W.w) S n) (hb : n < scanBound) (q : Q (.bool (S k)) vals l) : WA Ψ (compareOp .In (.int k t) (.ref a)) Q vals l :=
 WA.same (v := fun _ => .bool (S k)) (fun _ => q) fun E P s a' h => wpAny_inSet_of (intKind_is _ _ _ _) rfl (ho.setOf (a'.N _ hm).1 hb) (h 0 _)
theorem ZB {pos : Pos} {Q : FQ} (q : Q .brk vals l) : WA Ψ (exec (.Break pos) Ψ.env) Q vals l := WA.bind (WA.standAt (WA.pure q))
theorem Qa6 {K : Type} [DecidableEq K] (kvs : List (K × Value)) (k : K) (v : Value) : (stored kvs k v).length ≤ kvs.length + 1 := by
 cases h : valueAt kvs k with
 | none => rw [Qa2 h]; exact Q6y
 | some y => rw [Qbx h]; exact Qsy
theorem Qgz {bb : Bool} {T1 T2 : Sem Flow} {C : FQ} (P : Vals → Led → Prop) (h1 : if bb = true then WA Ψ T1 (fun f vals l => f = .next ∧ P vals l) vals l else WA Ψ T2 (fun f vals l => f = .next ∧ P vals l) vals l) (h2 : ∀ vals l, P vals l → C .next vals l) :
  if bb = true then WA Ψ T1 C vals l else WA Ψ T2 C vals l := by
 split at h1
 ·rename_i hb; rw [if_pos hb]; exact h1.mono fun f v l ⟨e, h⟩ => by subst e; exact h2 _ _ h
 ·rename_i hb; rw [if_neg hb]; exact h1.mono fun f v l ⟨e, h⟩ => by subst e; exact h2 _ _ h
theorem Qap {vs : List Value} {ns : List Int} (h : IntsAre vs ns) {i : Nat} {x : Int} (hx : ns[i]? = some x) : ∃ t, vs[i]? = some (.int x t) := by
 induction h generalizing i with
 | nil => simp at hx
 | cons n t _ ih =>
  cases i with
  | zero => simp only [List.getElem?_cons_zero, Option.some.injEq] at hx; subst hx; exact ⟨t, rfl⟩
  | succ i => simp only [List.getElem?_cons_succ] at hx ⊢; exact ih hx
theorem Qai {vs : List Value} {ns : List Int} (h : IntsAre vs ns) : vs.length = ns.length := by
 induction h with
 | nil => rfl
 | cons n t _ ih => simp [ih]
end
open Classical in
noncomputable def exS (S : Int → Bool) (f : BF) : BF := fun a => decide (∃ a' : Asg, (∀ j, S j = false → a' j = a j) ∧ f a' = true)
noncomputable def qf (every : Bool) (S : Int → Bool) (f : BF) : BF := if every then fun a => !exS S (fun x => !f x) a else exS S f
theorem exS_iff {S : Int → Bool} {f : BF} {a : Asg} : exS S f a = true ↔ ∃ a' : Asg, (∀ j, S j = false → a' j = a j) ∧ f a' = true := by simp [exS]
theorem Qjr {S : Int → Bool} {f : BF} (h : ∀ a a' : Asg, (∀ j, S j = false → a' j = a j) → f a' = f a) : exS S f = f := by
 funext a
 rw [Bool.eq_iff_iff, exS_iff]
 constructor
 ·rintro ⟨a', h1, h2⟩; rw [← h a a' h1]; exact h2
 ·exact fun h' => ⟨a, fun _ _ => rfl, h'⟩
theorem Qpc {S : Int → Bool} {i : Int} {f0 f1 : BF} (hi : S i = true) (h0 : ∀ a b, f0 (upd a i b) = f0 a) (h1 : ∀ a b, f1 (upd a i b) = f1 a) : exS S (fun a => if a i then f1 a else f0 a) = fun a => exS S f0 a || exS S f1 a := by
 funext a
 rw [Bool.eq_iff_iff, exS_iff, Bool.or_eq_true, exS_iff, exS_iff]
 have hu : ∀ (a' : Asg) (b : Bool), (∀ j, S j = false → a' j = a j) → ∀ j, S j = false → upd a' i b j = a j := fun a' b h j hj => by
  have : j ≠ i := by rintro rfl; rw [hi] at hj; cases hj
  rw [Qdo this]; exact h j hj
 constructor
 ·rintro ⟨a', h, e⟩
  by_cases ha : a' i = true
  ·rw [if_pos ha] at e; exact .inr ⟨a', h, e⟩
  ·rw [if_neg ha] at e; exact .inl ⟨a', h, e⟩
 ·rintro (⟨a', h, e⟩ | ⟨a', h, e⟩)
  ·exact ⟨upd a' i false, hu a' false h, by rw [upd_same, if_neg (by simp), h0]; exact e⟩
  ·exact ⟨upd a' i true, hu a' true h, by rw [upd_same, if_pos rfl, h1]; exact e⟩
theorem Qlx {S : Int → Bool} {i : Int} {f0 f1 : BF} (hi : S i = false) : exS S (fun a => if a i then f1 a else f0 a) = fun a => if a i then exS S f1 a else exS S f0 a := by
 funext a
 rw [Bool.eq_iff_iff, exS_iff]
 by_cases ha : a i = true
 ·rw [if_pos ha, exS_iff]
  exact ⟨fun ⟨a', h, e⟩ => ⟨a', h, by rw [h i hi, ha, if_pos rfl] at e; exact e⟩, fun ⟨a', h, e⟩ => ⟨a', h, by rw [h i hi, ha, if_pos rfl]; exact e⟩⟩
 ·rw [if_neg ha, exS_iff]
  exact ⟨fun ⟨a', h, e⟩ => ⟨a', h, by rw [h i hi, if_neg ha] at e; exact e⟩, fun ⟨a', h, e⟩ => ⟨a', h, by rw [h i hi, if_neg ha]; exact e⟩⟩
theorem Qle (f0 f1 : BF) (i : Int) : (fun a : Asg => !(if a i then f1 a else f0 a)) = fun a => if a i then !f1 a else !f0 a := by funext a; split <;> rfl
theorem Qh9 {every : Bool} {S : Int → Bool} {f : BF} (h : ∀ a a' : Asg, (∀ j, S j = false → a' j = a j) → f a' = f a) : qf every S f = f := by
 cases every
 ·exact Qjr h
 ·unfold qf; rw [if_pos rfl, Qjr (f := fun x => !f x) fun a a' h' => show (!f a') = !f a by rw [h a a' h']]; funext a; simp
theorem Qrt {every : Bool} {S : Int → Bool} {i : Int} {f0 f1 : BF} (hi : S i = true) (h0 : ∀ a b, f0 (upd a i b) = f0 a) (h1 : ∀ a b, f1 (upd a i b) = f1 a) : qf every S (fun a => if a i then f1 a else f0 a) = fun a => if every then qf every S f0 a && qf every S f1 a else qf every S f0 a || qf every S f1 a := by
 cases every
 ·exact Qpc hi h0 h1
 ·unfold qf
  simp only [if_true]
  rw [Qle, Qpc hi (fun a b => by simp only [h0]) (fun a b => by simp only [h1])]
  funext a; simp
theorem Qrs {every : Bool} {S : Int → Bool} {i : Int} {f0 f1 : BF} (hi : S i = false) : qf every S (fun a => if a i then f1 a else f0 a) = fun a => if a i then qf every S f1 a else qf every S f0 a := by
 cases every
 ·exact Qlx hi
 ·unfold qf
  simp only [if_true]
  rw [Qle, Qlx hi]
  funext a; by_cases h : a i = true <;> simp [h]
theorem Qjc {every : Bool} {S : Int → Bool} (c : Bool) : qf every S (fun _ => c) = fun _ => c := Qh9 fun _ _ _ => rfl
end Mine
end
section
namespace Mine
theorem Qb3 (u : Int) : iabs (iabs u) = iabs u := by unfold iabs; (repeat' split) <;> omega
inductive Rch (σ : Sg) : Int → Int → Prop
 | here {u i v x : Int} : σ.node (iabs u) = some (i, v, x) → Rch σ u i
 | lo {u i v x j : Int} : σ.node (iabs u) = some (i, v, x) → Rch σ v j → Rch σ u j
 | hi {u i v x j : Int} : σ.node (iabs u) = some (i, v, x) → Rch σ x j → Rch σ u j
theorem Rch.abs {σ : Sg} {u u' j : Int} (e : iabs u' = iabs u) (h : Rch σ u j) : Rch σ u' j := by
 cases h with
 | here h => exact .here (by rw [e]; exact h)
 | lo h k => exact .lo (by rw [e]; exact h) k
 | hi h k => exact .hi (by rw [e]; exact h) k
theorem Rch.inv {σ : Sg} {u i v x j : Int} (hn : σ.node (iabs u) = some (i, v, x)) (h : Rch σ u j) : j = i ∨ Rch σ v j ∨ Rch σ x j := by
 cases h with
 | here h => rw [hn] at h; cases h; exact .inl rfl
 | lo h k => rw [hn] at h; cases h; exact .inr (.inl k)
 | hi h k => rw [hn] at h; cases h; exact .inr (.inr k)
theorem Rch.none {σ : Sg} {u j : Int} (hn : σ.node (iabs u) = none) : ¬ Rch σ u j := by
 intro h
 cases h with
 | here h => rw [hn] at h; cases h
 | lo h _ => rw [hn] at h; cases h
 | hi h _ => rw [hn] at h; cases h
theorem Rch.bound {σ : Sg} (ok : Ok σ) {u j : Int} (h : Rch σ u j) : ∀ {k : Int}, Vd σ k u → k ≤ j ∧ j < σ.nv := by
 have key : ∀ {u i v x k : Int}, σ.node (iabs u) = some (i, v, x) → Vd σ k u → k ≤ i := fun {u i v x k} hn hv => by
  rcases hv with ⟨e, _⟩ | ⟨t, e, h⟩
  ·rw [e, Qcc] at hn; cases hn
  ·rw [hn] at e; cases e; exact h
 induction h with
 | here hn => intro k hv; exact ⟨key hn hv, (ok.nd _ _ _ _ hn).2.1⟩
 | lo hn _ ih => intro k hv; have o := ok.nd _ _ _ _ hn; have := ih o.2.2.2.2.1; exact ⟨by have := key hn hv; exact Q6x (by assumption) this, this.2⟩
 | hi hn _ ih => intro k hv; have o := ok.nd _ _ _ _ hn; have := ih o.2.2.2.2.2; exact ⟨by have := key hn hv; exact Q6x (by assumption) this, this.2⟩
noncomputable def Dep (f : BF) (j : Int) : Prop := ∃ a : Asg, f (upd a j true) ≠ f (upd a j false)
theorem Den.inv_abs {σ : Sg} {u i v x : Int} {f : BF} (hn : σ.node (iabs u) = some (i, v, x)) (d : Den σ u f) : ∃ f0 f1, Den σ v f0 ∧ Den σ x f1 ∧ ∃ c : Bool, f = fun a => (c ^^ (if a i then f1 a else f0 a)) := by
 rcases Qbm u with e | e
 ·rw [← e] at hn
  obtain ⟨g, k, h1, h2, rfl⟩ := d.node_inv hn
  exact ⟨g, k, h1, h2, false, funext fun a => by simp⟩
 ·have hp := Qar hn
  rw [e] at d
  obtain ⟨g, dg, rfl⟩ := Qav (by exact Qpg hp) d
  obtain ⟨g0, k, h1, h2, rfl⟩ := dg.node_inv hn
  exact ⟨g0, k, h1, h2, true, funext fun a => by simp⟩
theorem Qax {a : Asg} {i j : Int} {b c : Bool} (h : i ≠ j) : upd (upd a i b) j c = upd (upd a j c) i b := by
 funext k; unfold upd; split <;> split <;> first | rfl | omega
theorem Qkc {σ : Sg} (ok : Ok σ) {u j : Int} (h : Rch σ u j) : ∀ {f : BF}, Den σ u f → Dep f j := by
 induction h with
 | @here u i v x hn =>
  intro f d
  obtain ⟨f0, f1, d0, d1, c, rfl⟩ := d.inv_abs hn
  have o := ok.nd _ _ _ _ hn
  have hne : f0 ≠ f1 := fun e => o.2.2.2.1 (Qim ok d0 (e ▸ d1))
  obtain ⟨a, ha⟩ : ∃ a, f0 a ≠ f1 a := by
   apply Classical.byContradiction
   intro hc
   exact hne (funext fun a => Classical.byContradiction fun h => hc ⟨a, h⟩)
  refine ⟨a, ?_⟩
  dsimp only
  rw [upd_same, upd_same]
  simp only [if_true, Bool.false_eq_true, if_false]
  rw [d1.supp1 ok o.2.2.2.2.2, d0.supp1 ok o.2.2.2.2.1]
  intro h
  apply ha
  cases c <;> simpa using h.symm
 | @lo u i v x j hn hr ih =>
  intro f d
  obtain ⟨f0, f1, d0, d1, c, rfl⟩ := d.inv_abs hn
  have o := ok.nd _ _ _ _ hn
  have hj := (hr.bound ok o.2.2.2.2.1).1
  obtain ⟨a, ha⟩ := ih d0
  refine ⟨upd a i false, fun h => ha ?_⟩
  have e : ∀ b, upd (upd a i false) j b = upd (upd a j b) i false := fun b => Qax (by exact Q6w hj)
  dsimp only at h
  rw [e, e, upd_same, upd_same] at h
  simp only [Bool.false_eq_true, if_false] at h
  rw [d0.supp1 ok o.2.2.2.2.1, d0.supp1 ok o.2.2.2.2.1] at h
  cases c <;> simpa using h
 | @hi u i v x j hn hr ih =>
  intro f d
  obtain ⟨f0, f1, d0, d1, c, rfl⟩ := d.inv_abs hn
  have o := ok.nd _ _ _ _ hn
  have hj := (hr.bound ok o.2.2.2.2.2).1
  obtain ⟨a, ha⟩ := ih d1
  refine ⟨upd a i true, fun h => ha ?_⟩
  have e : ∀ b, upd (upd a i true) j b = upd (upd a j b) i true := fun b => Qax (by exact Q6w hj)
  dsimp only at h
  rw [e, e, upd_same, upd_same] at h
  simp only [if_true] at h
  rw [d1.supp1 ok o.2.2.2.2.2, d1.supp1 ok o.2.2.2.2.2] at h
  cases c <;> simpa using h
theorem Qe1 {σ : Sg} {u : Int} {f : BF} (d : Den σ u f) : ∀ {j : Int}, ¬ Rch σ u j → ∀ a b, f (upd a j b) = f a := by
 induction d with
 | one => intro j _ a b; rfl
 | @node u i v x f g hn _ _ i1 i2 =>
  intro j h a b
  have hu : iabs u = u := Qam (by have := Qar hn; exact Qpg this)
  have hn' : σ.node (iabs u) = some (i, v, x) := by rw [hu]; exact hn
  have hij : i ≠ j := fun e => h (e ▸ .here hn')
  show (if upd a j b i then g (upd a j b) else f (upd a j b)) = _
  rw [Qdo hij, i1 (fun hr => h (.lo hn' hr)), i2 (fun hr => h (.hi hn' hr))]
 | neg hu _ ih =>
  intro j h a b
  show (!_) = !_
  rw [ih (fun hr => h (hr.abs (Qjp _)))]
theorem Qbp {σ : Sg} (ok : Ok σ) {u j : Int} {f : BF} (d : Den σ u f) : Rch σ u j ↔ Dep f j :=
 ⟨fun h => Qkc ok h d, fun ⟨a, ha⟩ => Classical.byContradiction fun h => ha (by rw [Qe1 d h, Qe1 d h])⟩
end Mine
end
section
namespace Mine
noncomputable def cnt : List Int → BF → Asg → Nat
 | [], f, a => if f a then 1 else 0
 | l :: r, f, a => cnt r f (upd a l false) + cnt r f (upd a l true)
noncomputable def FreeOf (f : BF) (j : Int) : Prop := ∀ a b, f (upd a j b) = f a
theorem Qik {f : BF} {j : Int} (h : ¬ Dep f j) (a : Asg) (b c : Bool) : f (upd a j b) = f (upd a j c) := by
 have h' : ∀ a, f (upd a j true) = f (upd a j false) := fun a => Classical.byContradiction fun q => h ⟨a, q⟩
 cases b <;> cases c <;> first | rfl | exact h' a | exact (h' a).symm
theorem Qi7 (a : Asg) (j : Int) : upd a j (a j) = a := by funext k; unfold upd; split <;> simp_all
theorem Qe2 {f : BF} {j : Int} (h : ¬ Dep f j) : FreeOf f j := fun a b => by
 conv => rhs; rw [← Qi7 a j]
 exact Qik h a b (a j)
theorem Qpd (L : List Int) (f : BF) : ∀ a, cnt L f a ≤ 2 ^ L.length := by
 induction L with
 | nil => intro a; unfold cnt; split <;> simp
 | cons l r ih => intro a; unfold cnt; have h1 := ih (upd a l false); have h2 := ih (upd a l true); rw [List.length_cons, Nat.pow_succ]; exact Q73 h1 h2
theorem Qn4 (l : Int) (r : List Int) (f : BF) (h : FreeOf f l) (hr : l ∉ r) : ∀ a, cnt (l :: r) f a = 2 * cnt r f a := by
 have key : ∀ (r : List Int), l ∉ r → ∀ a b, cnt r f (upd a l b) = cnt r f a := by
  intro r
  induction r with
  | nil => intro _ a b; unfold cnt; rw [h]
  | cons m r ih =>
   intro hm a b
   simp only [List.mem_cons, not_or] at hm
   unfold cnt
   rw [Qax hm.1, Qax hm.1, ih hm.2, ih hm.2]
 intro a
 show cnt r f (upd a l false) + cnt r f (upd a l true) = _
 rw [key r hr, key r hr]; exact Q72
theorem Qqa (l : Int) (r : List Int) (f0 f1 : BF) (h0 : FreeOf f0 l) (h1 : FreeOf f1 l) (hr : l ∉ r) (a : Asg) : cnt (l :: r) (fun a => if a l then f1 a else f0 a) a = cnt r f0 a + cnt r f1 a := by
 have key : ∀ (r : List Int), l ∉ r → ∀ a : Asg, cnt r (fun a => if a l then f1 a else f0 a) a = if a l then cnt r f1 a else cnt r f0 a := by
  intro r
  induction r with
  | nil => intro _ a; unfold cnt; cases h : a l <;> simp [h]
  | cons m r ih =>
   intro hm a
   simp only [List.mem_cons, not_or] at hm
   unfold cnt
   rw [ih hm.2, ih hm.2, Qdo hm.1, Qdo hm.1]
   cases h : a l <;> simp [h]
 have fr : ∀ (g : BF), FreeOf g l → ∀ (r : List Int), l ∉ r → ∀ a b, cnt r g (upd a l b) = cnt r g a := by
  intro g hg r
  induction r with
  | nil => intro _ a b; unfold cnt; rw [hg]
  | cons m r ih =>
   intro hm a b
   simp only [List.mem_cons, not_or] at hm
   unfold cnt
   rw [Qax hm.1, Qax hm.1, ih hm.2, ih hm.2]
 show cnt r _ (upd a l false) + cnt r _ (upd a l true) = _
 rw [key r hr, key r hr, upd_same, upd_same]
 simp only [Bool.false_eq_true, if_false, if_true]
 rw [fr f0 h0 r hr, fr f1 h1 r hr]
theorem Qp9 (L : List Int) (f : BF) : ∀ a, cnt L (fun a => !f a) a + cnt L f a = 2 ^ L.length := by
 induction L with
 | nil => intro a; unfold cnt; cases h : f a <;> simp [h]
 | cons l r ih => intro a; unfold cnt; have h1 := ih (upd a l false); have h2 := ih (upd a l true); rw [List.length_cons, Nat.pow_succ]; exact Q71 h1 h2
theorem Qn2 (l m : Int) (r : List Int) (f : BF) (h : l ≠ m) (a : Asg) : cnt (l :: m :: r) f a = cnt (m :: l :: r) f a := by
 show cnt r f (upd (upd a l false) m false) + cnt r f (upd (upd a l false) m true) + (cnt r f (upd (upd a l true) m false) + cnt r f (upd (upd a l true) m true)) =
  cnt r f (upd (upd a m false) l false) + cnt r f (upd (upd a m false) l true) + (cnt r f (upd (upd a m true) l false) + cnt r f (upd (upd a m true) l true))
 rw [Qax (a := a) (i := l) (j := m) h, Qax (a := a) (i := l) (j := m) h, Qax (a := a) (i := l) (j := m) h, Qax (a := a) (i := l) (j := m) h]
 exact Q70
theorem Qn3 {L M : List Int} (p : L.Perm M) (f : BF) (hn : L.Nodup) : ∀ a, cnt L f a = cnt M f a := by
 induction p with
 | nil => intro a; rfl
 | cons x _ ih => intro a; unfold cnt; rw [ih (List.nodup_cons.mp hn).2, ih (List.nodup_cons.mp hn).2]
 | swap x y l => intro a; exact Qn2 y x l f (fun e => by simp [e] at hn) a
 | trans p1 p2 i1 i2 => intro a; rw [i1 hn, i2 (p1.nodup_iff.mp hn)]
theorem Ql0 (P L : List Int) (f : BF) (hn : (P ++ L).Nodup) (hf : ∀ j ∈ P, FreeOf f j) (a : Asg) : cnt (P ++ L) f a = 2 ^ P.length * cnt L f a := by
 induction P with
 | nil => simp
 | cons l P ih =>
  rw [List.cons_append, List.nodup_cons] at hn
  rw [List.cons_append, Qn4 l (P ++ L) f (hf l (.head _)) hn.1, ih hn.2 fun j hj => hf j (.tail _ hj), List.length_cons, Nat.pow_succ, Nat.mul_comm (2 ^ P.length) 2, Nat.mul_assoc]
noncomputable def posn (L : List Int) (l : Int) : Nat := (L.filter (· < l)).length
theorem Qey (L : List Int) (l : Int) : posn L l ≤ L.length := List.length_filter_le _ _
theorem Qjf {L : List Int} {l : Int} (h : ∀ x ∈ L, x < l) : posn L l = L.length := by
 unfold posn
 rw [List.filter_eq_self.mpr fun x hx => by simpa using h x hx]
theorem Qem : ∀ {L : List Int}, L.Pairwise (· < ·) → ∀ {i : Nat} {l : Int}, L[i]? = some l → posn L l = i
 | [], _, i, l, h => by simp at h
 | x :: L, hs, i, l, h => by
  rw [List.pairwise_cons] at hs
  cases i with
  | zero =>
   simp only [List.getElem?_cons_zero, Option.some.injEq] at h
   subst h
   unfold posn
   rw [List.filter_eq_nil_iff.mpr]
   ·rfl
   ·intro y hy
    rcases List.mem_cons.mp hy with rfl | hy
    ·simp
    ·have := hs.1 y hy; simp; exact Qu4 this
  | succ i =>
   rw [List.getElem?_cons_succ] at h
   have hx := hs.1 l (List.mem_of_getElem? h)
   have ih := Qem hs.2 h
   unfold posn at ih ⊢
   rw [List.filter_cons, if_pos (by simpa using hx), List.length_cons, ih]
theorem Qk2 {L : List Int} (hs : L.Pairwise (· < ·)) {l j : Int} (hj : j ∈ L.take (posn L l)) : j < l := by
 induction L with
 | nil => simp at hj
 | cons x L ih =>
  rw [List.pairwise_cons] at hs
  unfold posn at ih hj
  by_cases hx : x < l
  ·rw [List.filter_cons, if_pos (by simpa using hx), List.length_cons, List.take_succ_cons] at hj
   rcases List.mem_cons.mp hj with rfl | hj
   ·exact hx
   ·exact ih hs.2 hj
  ·have : (x :: L).filter (· < l) = [] := List.filter_eq_nil_iff.mpr fun y hy => by
    rcases List.mem_cons.mp hy with rfl | hy
    ·simpa using hx
    ·have := hs.1 y hy; simp; exact Qxj hx this
   rw [this] at hj; simp at hj
theorem Qk7 {L : List Int} {l m : Int} (h : l ≤ m) : posn L l ≤ posn L m := by
 unfold posn
 induction L with
 | nil => simp
 | cons x L ih =>
  rw [List.filter_cons, List.filter_cons]
  by_cases hx : x < l
  ·rw [if_pos (by simpa using hx), if_pos (by simp; exact Q7z h hx), List.length_cons, List.length_cons]; exact Q7y ih
  ·rw [if_neg (by simpa using hx)]
   split
   ·rw [List.length_cons]; exact Qqc ih
   ·exact ih
theorem Qia {L : List Int} (hs : L.Pairwise (· < ·)) {l m : Int} (hl : l ∈ L) (h : l < m) : posn L l < posn L m := by
 obtain ⟨i, hi, e⟩ := List.mem_iff_getElem.mp hl
 have h1 : posn L l = i := Qem hs (by rw [List.getElem?_eq_getElem hi, e])
 apply Classical.byContradiction
 intro hc
 have h2 := Qk7 (L := L) (Int.le_of_lt h)
 have h3 : posn L m = i := by exact Q7x h1 hc h2
 have h4 : l ∈ L.drop (posn L m) := by
  rw [h3, ← e]
  exact List.mem_iff_getElem.mpr ⟨0, by rw [List.length_drop]; exact Q7w hi, by simp⟩
 have h5 : ∀ (L : List Int), L.Pairwise (· < ·) → ∀ y ∈ L.drop (posn L m), m ≤ y := by
  intro L
  induction L with
  | nil => intro _ y hy; simp at hy
  | cons x L ih =>
   intro hs y hy
   rw [List.pairwise_cons] at hs
   unfold posn at ih hy
   by_cases hx : x < m
   ·rw [List.filter_cons, if_pos (by simpa using hx), List.length_cons, List.drop_succ_cons] at hy
    exact ih hs.2 y hy
   ·have : (x :: L).filter (· < m) = [] := List.filter_eq_nil_iff.mpr fun z hz => by
     rcases List.mem_cons.mp hz with rfl | hz
     ·simpa using hx
     ·have := hs.1 z hz; simp; exact Qxj hx this
    rw [this] at hy
    rcases List.mem_cons.mp hy with rfl | hy
    ·exact Qu2 hx
    ·have := hs.1 y hy; exact Qxj hx this
 have := h5 L hs l h4
 exact Qxi h this
end Mine
end
section
namespace Mine
theorem Qii (P : Params) : GlobIs (hK P) "frozenset" (.type "frozenset") := .inr ⟨by k_is, by boot_by_name, by decide +kernel⟩
set_option hygiene false
local macro_rules | `(tactic| nest_cls) => `(tactic| repeat (first | (with_reducible exact NmG.here) | (with_reducible refine NmG.next ?_)))
local macro_rules | `(tactic| kas_types) => do
  let ts ← #[`Qnp, `Qgh, `Qeh, `Qez, `Qrz, `Qv5, `Qry, `Qfo, `Qj9, `Qif, `Qnq, `Qpv, `Qe0, `Qpx, `Qlh, `Qdr, `Qei, `Qlg, `Qj8, `Qv4, `Qfp, `Qpw, `Qfz, `Qr0].mapM fun n => `(tacticSeq| exact $(Lean.mkIdent n) _)
  `(tactic| with_reducible first $[| $ts]*)
local macro_rules | `(tactic| ctx_mentions $xs:ident*) => do
  let p ← `(term| by intros; with_unfolding_all rfl)
  let a ← `(term| by assumption)
  let h ← `(term| ?h9)
  let g ← `(term| ?g9)
  let i ← `(tactic| intro q9q)
  let c ← `(tactic| case h9 => repeat constructor)
  let d ← `(tactic| case g9 => first | (dsimp (config := {zetaDelta := true}) only [vget, vset, vhas]; with_unfolding_all exact rfl) | with_unfolding_all exact rfl)
  let ts ← xs.mapM fun x => do
    let ((l, t) : Array Lean.Term × Array (Lean.TSyntax `tactic)) ← match x.getId.toString.front with
      | 'Z' => pure (#[], #[])
      | 'Y' => pure (#[], #[i])
      | 'X' => pure (#[p], #[i])
      | 'U' => pure (#[], #[i, i, i])
      | 'F' => pure (#[p, p], #[i])
      | 'P' => do
        let ss ← #[`Qwe, `Qwc, `Qwa, `Qnx, `Qv8, `Qhb, `Qr7, `Qr8, `Qny, `Qp2, `Qr9, `Qv9, `Qii, `Qij, `Qwd, `Qsa, `Qsb].mapM fun n => `(tacticSeq| exact $(Lean.mkIdent n) _)
        pure (#[h, g], #[c, ← `(tactic| case g9 => with_reducible first $[| $ss]*)])
      | 'G' => pure (#[a, a, h, g, ← `(term| ?k9)], #[c, d, ← `(tactic| case k9 => first | assumption | with_unfolding_all rfl)])
      | 'I' => pure (#[a, a, ← `(term| by kas_types)], #[i])
      | 'M' => do
        let ss ← #[`decide_eq_false_iff_not, `decide_eq_true_eq, `beq_eq_false_iff_ne, `beq_iff_eq, `bne_iff_ne, `bne_eq_false_iff_eq, `ne_eq, `Bool.not_eq_true', `Bool.not_eq_false', `Bool.not_true, `Bool.not_false].mapM fun n => `(Lean.Parser.Tactic.simpLemma| $(Lean.mkIdent n):term)
        pure (#[h], #[← `(tactic| case h9 => first | with_unfolding_all rfl | (simp only [$ss,*] <;> omega))])
      | 'L' => pure (#[h, g], #[c, d, i])
      | _ => pure (#[h, g], #[c, d])
    `(tactic| with_reducible (refine' $x $l* ?_; $[$t:tactic];*))
  `(tactic| ($[$ts];*))
set_option hygiene true
variable {N : Nm} {W : Wd} {Ψ : Frm hK N W} {vals : Vals} {b : Mg} {σ : Sg} {Rl : Led} {sa : Addr}
section
noncomputable def fn100 : FnIn 100 := by
 refine' mkFn ?ok ?hb
 case ok => intro P; k_is
 case hb => exact rfl
@[reducible] noncomputable def N100 : Nm := ⟨["self", "u"], ["abs"]⟩
theorem Qvz : ScOk fn100.fd.scope.names N100.loc N100.glo := by
 refine Qah ?_
 kcf_m
theorem Qw9 (P : Params) : FnOk (hK P) 100 fn100.fd fn100.body := ⟨⟨_, _, _, fn100.ok P⟩, by kcf_m, fn100.hb, rfl, rfl, rfl, rfl, rfl, by kcf_m⟩
section
theorem Qha {u c : Int} {t tc : Tok} {Q : VQ} (hr : Room Ψ.A 1) (hs : b.self = sa) (at0 : AttrsAre b.ae an b.av) (ho : b.rro.IsDictOf (intKind W.prog W.w) b.rk) (hz : b.rk.length ≤ sizeLine)
  (hv : valueAt b.rk (if u < 0 then -u else u) = some (.int c tc))
  (q : ∀ t' (o' : Obj), o'.IsDictOf (intKind W.prog W.w) (stored b.rk (if u < 0 then -u else u) (.int (c + 1) t')) → let b' := b.uRro o' (stored b.rk (if u < 0 then -u else u) (.int (c + 1) t')); Q .none vals (mgL b' ++ Rl)) :
  WA Ψ (call (.ref 100) [.ref sa, .int u t]) Q vals (mgL b ++ Rl) := by
 refine Qaa (N' := N100) (Qw9 _) Qvz hr (binds := [("self", .ref sa), ("u", .int u t)]) (rest := []) (fun s _ => .of_eq rfl) rfl [some (.ref sa), some (.int u t)] rfl ?_
 intro Ψ' he hr'
 dsimp only [fn100, mkFn]
 (ctx_mentions Ua Xh Xj Va Ga Fb Pa Yo Vb Zh Yu)
 refine Qaw (intKind_is _ _ _ _) Qrq ho hv ?_
 (ctx_mentions Yc Yt)
 refine Qjy (intKind_is _ _ _ _) ho hz fun o' h => ?_
 intro b'
 (ctx_mentions Zb Za)
 exact ⟨_, List.Sublist.refl _, q _ o' h⟩
end
end
section
noncomputable def fn374 : FnIn 374 := by
 refine' mkFn ?ok ?hb
 case ok => intro P; k_is
 case hb => exact rfl
@[reducible] noncomputable def N374 : Nm := ⟨["self", "start", "i"], ["range"]⟩
theorem Qvk : ScOk fn374.fd.scope.names N374.loc N374.glo := by
 refine Qah ?_
 kcf_m
theorem Qws (P : Params) : FnOk (hK P) 374 fn374.fd fn374.body := ⟨⟨_, _, _, fn374.ok P⟩, by kcf_m, fn374.hb, rfl, rfl, rfl, rfl, rfl, by kcf_m⟩
section
theorem Qrx {u : Int} {t tm : Tok} {Q : VQ} (hr : Room Ψ.A 1) (hs : b.self = sa) (at0 : AttrsAre b.ae an b.av) (hmx : b.mx = .int (2 ^ 63 - 1) tm) (ho : b.so.IsDictOf (intKind W.prog W.w) b.sk)
  (h1 : 1 ≤ u) (h2 : u ≤ 2 ^ 24) (hv : (valueAt b.sk u).isSome = true) (hn : valueAt b.sk (u + 1) = none)
  (q : ∀ t', Q (.int (u + 1) t') vals (mgL b ++ Rl)) :
  WA Ψ (call (.ref 374) [.ref sa, .int u t]) Q vals (mgL b ++ Rl) := by
 refine Qaa (N' := N374) (Qws _) Qvk hr (binds := [("self", .ref sa), ("start", .int u t)]) (rest := ["i"]) (fun s _ => .of_eq rfl) rfl [some (.ref sa), some (.int u t), none] rfl ?_
 intro Ψ' he hr'
 have hh := hr'.hh
 dsimp only [fn374, mkFn]
 (ctx_mentions Ua Ya Xf Va Yc Zl Zr Ma Za Zb Ua Xk Fb Pa Yp Vb Yl Xj Va Gb Zh Zt); intro q9q v9v
 have hsz : Builtin.Range.rangeSize u (2 ^ 63 - 1) 1 = 2 ^ 63 - 1 - u := by rw [rangeSize_one]; rw [if_pos (by exact Q7v h2)]
 refine Qau (.head _) ?_ fun it => ?_
 ·unfold Builtin.Range.small
  rw [hsz]
  simp only [Builtin.Range.rangeFitsLong, Bool.and_eq_true, Bool.or_eq_true, decide_eq_true_eq, beq_iff_eq]
  refine ⟨⟨⟨⟨?_, ?_⟩, ?_⟩, ?_⟩, .inr ?_⟩ <;> (try simp) <;> omega
 rw [hsz]
 refine WC.for1 (Qat (by exact Q7u h2) fun t1 => ?_)
 (ctx_mentions Yv Zy Zz Vc Ua Ya Xf Va Xj Va Ga)
 refine Qa9 (intKind_is _ _ _ _) Qcp ho ?_
 rw [hv]
 (ctx_mentions Zr Ma Za Zb Za Zu)
 refine WC.for1 (Qat (by exact Q7t h2) fun t1 => ?_)
 (ctx_mentions Yv Zy Zz Vc Ua Ya Xf Va Xj Va Ga)
 refine Qa9 (intKind_is _ _ _ _) Qcp ho ?_
 rw [hn]
 (ctx_mentions Zr Mb Ua Yb Va Zc Zc Zv Zc)
 exact ⟨mgL b ++ Rl, sA ((sD).trans (sD)), q _⟩
end
end
section
noncomputable def fn367 : FnIn 367 := by
 refine' mkFn ?ok ?hb
 case ok => intro P; k_is
 case hb => exact rfl
@[reducible] noncomputable def N367 : Nm := ⟨["self", "i", "v", "w", "r", "t", "u"], ["abs", "len"]⟩
theorem Qvl : ScOk fn367.fd.scope.names N367.loc N367.glo := by
 refine Qah ?_
 kcf_m
theorem Qwt (P : Params) : FnOk (hK P) 367 fn367.fd fn367.body := ⟨⟨_, _, _, fn367.ok P⟩, by kcf_m, fn367.hb, rfl, rfl, rfl, rfl, rfl, by kcf_m⟩
section
theorem optInt (i : Int) (t : Tok) : (optKind W.prog W.w).is (some i) (.int i t) = true := by simp [optKind, isOpt]
theorem Qcy {kvs : List (Int × Value)} {k x : Int} {v : Value} (h : x ≠ k) : valueAt (stored kvs k v) x = valueAt kvs x := by rw [valueAt_stored, if_neg h]
theorem Qj0 {kvs : List (Int × Value)} {k : Int} {v : Value} : valueAt (stored kvs k v) k = some v := by rw [valueAt_stored, if_pos rfl]
theorem Qc3 {kvs : List (Int × Value)} {k k' c c' : Int} {t t' : Tok} (h : valueAt kvs k = some (.int c t)) : ∃ c2 t2, valueAt (stored kvs k' (.int c' t')) k = some (.int c2 t2) := by
 rw [valueAt_stored]
 split
 ·exact ⟨_, _, rfl⟩
 ·exact ⟨_, _, h⟩
theorem Qpq {rr v : Int} (h : rr = 1 ∨ rr = -1) : IntMulOk rr v := IntMulOk.of_left (intBits_le_64 (by exact Q7s h) (by exact Q7r h))
theorem Qo9 {i v x : Int} {ti tv tx : Tok} {Q : VQ} (r : Rep W b σ) (hs : b.self = sa) (hr : Room Ψ.A 3) (hi : 0 ≤ i) (hi2 : i < (σ.nv : Int)) (hv : (σ.key (iabs v)).isSome = true) (hx : (σ.key (iabs x)).isSome = true) (hz : σ.tab.length + 4 ≤ 16777216)
  (q : ∀ t' b' σ' rr, FoaR σ i v x rr σ' → Rep W b' σ' → b'.self = sa → Q (.int rr t') vals (mgL b' ++ Rl)) :
  WA Ψ (call (.ref 367) [.ref sa, .int i ti, .int v tv, .int x tx]) Q vals (mgL b ++ Rl) := by
 refine Qaa (N' := N367) (Qwt _) Qvl hr (binds := [("self", .ref sa), ("i", .int i ti), ("v", .int v tv), ("w", .int x tx)]) (rest := ["r", "t", "u"]) (fun s _ => .of_eq rfl) rfl [some (.ref sa), some (.int i ti), some (.int v tv), some (.int x tx), none, none, none] rfl ?_
 intro Ψ' he hr'
 have at0 := r.at'
 have hnv : (b.vk.length : Int) = σ.nv := by rw [r.v4]; rfl
 have h5 := r.v5
 have hlim := hr'.d
 have hr1 : Room Ψ'.A 1 := hr'.less (by decide)
 have hun : Ψ'.A.units + 1 < cLine := by have := hr'.u; exact Q7q this
 dsimp only [fn367, mkFn]
 (ctx_mentions Ua Ya Xf Va Yc Zl Zr Ma Za Zb Ua Ya Xf Va Fb Pa Yo Yl Xj Va Ga Zh)
 refine Qd9 Qbv r.v1 (by rw [r.v4]; exact Qxh h5) fun _ => ?_
 (ctx_mentions Zo Zr Ma Za Zb Ua Ya Xf Fb Pa Yo Vb Zh Yu Xj Va Ga)
 refine Qa9 (intKind_is _ _ _ _) Qcp r.s1 ?_
 rw [r.succIn, hv]
 (ctx_mentions Zr Ma Za Zb Ua Ya Xf Fb Pa Yo Vb Zh Yu Xj Va Ga)
 refine Qa9 (intKind_is _ _ _ _) Qcp r.s1 ?_
 rw [r.succIn, hx]
 (ctx_mentions Zr)
 (ctx_mentions Ma)
 (ctx_mentions Za)
 (ctx_mentions Zb)
 have hv2 : (σ.key (iabs (if x < 0 then -v else v))).isSome = true := by
  rw [show iabs (if x < 0 then -v else v) = iabs v by (unfold iabs; (repeat' split) <;> omega)]
  exact hv
 have hx2 : (σ.key (iabs (if x < 0 then -x else x))).isSome = true := by
  rw [show iabs (if x < 0 then -x else x) = iabs x by (unfold iabs; (repeat' split) <;> omega)]
  exact hx
 have hq1 := fun t' h => q t' b σ _ (.same h) r hs
 have hq2 := fun t' b' u h1 h2 => q t' b' σ _ (.old (u := u) h1 h2)
 have hq3 := fun t' b' h1 h2 => q t' b' _ _ (.new h1 h2)
 have hrr : (if x < 0 then (-1 : Int) else 1) = 1 ∨ (if x < 0 then (-1 : Int) else 1) = -1 := by split <;> simp
 clear q
 refine R.seq (WA.mono (Q := fun f vals' l' => ∃ tv' tx' tr, f = .next ∧ vals' = [some (.ref sa), some (.int i ti), some (.int (if x < 0 then -v else v) tv'), some (.int (if x < 0 then -x else x) tx'), some (.int (if x < 0 then -1 else 1) tr), none, none] ∧ l' = mgL b ++ Rl) ?_ ?_)
 ·(ctx_mentions Ya Xf Va Yc Zl Zr)
  refine Qak (fun hx0 => ?_) fun hx0 => ?_
  ·have hx0' : x < 0 := by simpa using hx0
   simp only [if_pos hx0']
   (ctx_mentions Ua)
   refine Mine.L.swap2 hr'.hh rfl rfl (by rw [he]; rfl) ?_; intro _
   (ctx_mentions Yf Va Ys Yf Va Ys Vc Vc Zb Ua Xa Yf Yc Ys Vc Zb Za)
   exact ⟨_, _, _, rfl, rfl, rfl⟩
  ·have hx0' : ¬ x < 0 := by simpa using hx0
   simp only [if_neg hx0']
   (ctx_mentions Ua Xa Yc Vc Zb Za)
   exact ⟨_, _, _, rfl, rfl, rfl⟩
 rintro _ _ _ ⟨tv', tx', tr, rfl, rfl, rfl⟩
 generalize (if x < 0 then -v else v) = v' at *
 generalize (if x < 0 then -x else x) = x' at *
 generalize (if x < 0 then (-1 : Int) else 1) = rr at *
 (ctx_mentions Zb Ua Ya Xf Va Va Zj Zr)
 refine Qak (fun h0 => ?_) fun h0 => ?_
 ·(ctx_mentions Ua Yb Ye Va Va)
  refine Qb7 (Qpq hrr) fun _ => ?_
  (ctx_mentions Zc Zc)
  exact ⟨_, List.Sublist.refl _, hq1 _ (by simpa using h0)⟩
 have hne : v' ≠ x' := by simpa using h0
 (ctx_mentions Za Zb Ua Xa Xg Vb Vb Vb Zh)
 refine M.newTup (Qac (n := 3) (by kd_p)) fun a => ?_
 intro b1
 have hs1 : b1.self = sa := hs
 have at1 : AttrsAre b1.ae an b1.av := at0
 have r1 : Rep W b1 σ := r.tup _
 have hk : TupL (optKind W.prog W.w) b1.tups (nodeKey (i, v', x')) a :=
  ⟨_, _, _, _, .head _, .cons (optInt _ _) (.cons (optInt _ _) (.cons (optInt _ _) .nil))⟩
 (ctx_mentions Vc Zb Ua Xa Fa Xj Va Ga)
 refine Qa4 Qo5 (let ⟨_, _, e, _⟩ := r1.p1; e) PySem.F.slot_dict_get PySem.F.type_dict_get ?_
 (ctx_mentions Yn Vb Zh)
 refine Qjw hun (Qbj hk) Qo5 r1.p1 (fun y hy => Qbj (r1.p2 y hy)) ?_
 cases hat : atKey b1.pk (nodeKey (i, v', x')) with
 | some pr =>
  obtain ⟨a', vv⟩ := pr
  obtain ⟨u, tu, rfl, hu⟩ := r1.p3 _ _ _ hat
  show WA _ (bindName _ _ (.int u tu)) _ _ _
  (ctx_mentions Vc Zb Ua Ya Xf Va Zd Zq Zr Mb Ua Yb Ye Va Va)
  refine Qb7 (Qpq hrr) fun _ => ?_
  (ctx_mentions Zc Zc)
  exact ⟨_, List.Sublist.refl _, hq2 _ b1 u hne (Qdk hu) r1 hs1⟩
 | none =>
  have hnew : ∀ u, σ.node u ≠ some (i, v', x') := fun u hu => by
   obtain ⟨_, _, h⟩ := r1.p4 u _ (Qdl hu)
   rw [hat] at h; cases h
  show WA _ (bindName _ _ .none) _ _ _
  obtain ⟨tm, hmf⟩ := r1.mf
  obtain ⟨tx0, hmx⟩ := r1.mx
  have hk0 : σ.key σ.top = none := Qea (Int.le_refl _)
  (ctx_mentions Vc Zb Ua Ya Xf Va Zd Zq Zr Ma Za Zb Ua Xa Xj Va Gb Vc Zb Ua Ya Xf Va Yc Zm Zr Ma Za Zb Ua Ya Xf Va Xj Va Ga)
  refine Qh0 (intKind_is _ _ _ _) Qcp r1.s1 ?_
  rw [r1.succIn, hk0]
  (ctx_mentions Zr Ma Za Zb Ua Xc Va Xj Va Ga Va)
  refine Qm5 hun hk r1.p1 r1.p2 (by have := r1.p5; rw [Qae]; exact Q6v hz this) fun o2 ho2 => ?_
  intro b2
  have hs2 : b2.self = sa := hs
  have at2 : AttrsAre b2.ae an b2.av := at0
  (ctx_mentions Zb Ua Xc Va Xj Va Ga Va)
  refine Qm4 (b := b2) (intKind_is _ _ _ _) r1.s1 (by rw [show b2.sk = b1.sk from rfl, r1.s4, Qae]; exact Q7p hz) fun o3 ho3 => ?_
  intro b3
  have hs3 : b3.self = sa := hs
  have at3 : AttrsAre b3.ae an b3.av := at0
  (ctx_mentions Zb Ua Xc Yc Xj Va Ga Va)
  refine Qjy (b := b3) (intKind_is _ _ _ _) r1.r1 (by have := r1.r3; rw [Qae]; show b1.rk.length ≤ _; exact Q6v hz this) fun o4 ho4 => ?_
  intro b4
  have hs4 : b4.self = sa := hs
  have at4 : AttrsAre b4.ae an b4.av := at0
  have hu1 : 1 ≤ σ.top := by unfold Sg.top; exact Q7o
  have hu2 : σ.top ≤ 2 ^ 24 := by unfold Sg.top; exact Q7n hz
  have hu3 : (valueAt b4.sk σ.top).isSome = true := by show (valueAt (stored b1.sk σ.top (.ref a)) σ.top).isSome = true; rw [valueAt_stored, if_pos rfl]; rfl
  have hu4 : valueAt b4.sk (σ.top + 1) = none := by show valueAt (stored b1.sk σ.top (.ref a)) (σ.top + 1) = none; rw [valueAt_stored, if_neg (by exact Q7m)]; exact r1.s3 _ (Qea (by unfold Sg.top; exact Q7l))
  (ctx_mentions Zb Ua Xb Fa Va Ic Vb Zh)
  refine Qrx (b := b4) hr1 hs4 at4 hmx ho3 hu1 hu2 hu3 hu4 fun t6 => ?_
  (ctx_mentions Va)
  refine Qrc hs4 at4 fun ae5 n5 => ?_
  intro b5 at5
  have hs5 : b5.self = sa := hs
  kcj_m
  obtain ⟨kv, hkv⟩ := Option.isSome_iff_exists.mp hv2
  obtain ⟨kx, hkx⟩ := Option.isSome_iff_exists.mp hx2
  have hnv' : iabs v' ≠ σ.top := fun e0 => by rw [e0, hk0] at hkv; cases hkv
  have hnx' : iabs x' ≠ σ.top := fun e0 => by rw [e0, hk0] at hkx; cases hkx
  obtain ⟨cv, tcv, hcv⟩ := r1.r2 _ _ hkv
  obtain ⟨cx, tcx, hcx⟩ := r1.r2 _ _ hkx
  kd_p1
  have hl5 : b5.rk.length ≤ b1.rk.length + 1 := stored_length_le _ _ _
  have hz5 : b5.rk.length ≤ sizeLine := by have := r1.r3; rw [Qae]; exact Q6u hz hl5 this
  have hcv5 : valueAt b5.rk (iabs v') = some (.int cv tcv) := (Qcy hnv').trans hcv
  (ctx_mentions Zb Ua Xd Fa Va Ic Vb Zh)
  refine Qha (b := b5) hr1 hs5 at5 ho4 hz5 hcv5 fun t7 o7 ho7 => ?_
  intro b7
  have hs7 : b7.self = sa := hs
  have at7 : AttrsAre b7.ae an b7.av := at5
  have hl7 : b7.rk.length ≤ b1.rk.length + 1 := Nat.le_trans (Nat.le_of_eq (Qbx hcv5)) hl5
  have hz7 : b7.rk.length ≤ sizeLine := by have := r1.r3; rw [Qae]; exact Q6u hz hl7 this
  obtain ⟨c8, t8, hcx8⟩ : ∃ c8 t8, valueAt b7.rk (iabs x') = some (.int c8 t8) := Qc3 ((Qcy hnx').trans hcx)
  (ctx_mentions Zb Ua Xd Fa Va Ic Vb Zh)
  refine Qha (b := b7) hr1 hs7 at7 ho7 hz7 hcx8 fun t9 o9 ho9 => ?_
  intro b9
  (ctx_mentions Zb Ua Yb Ye Va Va)
  refine Qb7 (Qpq hrr) fun _ => ?_
  (ctx_mentions Zc)
  refine ⟨_, List.Sublist.refl _, hq3 _ b9 hne hnew ?_ hs⟩
  refine r.add (o := tupObj [.int i ti, .int v' tv', .int x' tx']) (x := a) (tu := tm) (tm := t6) hnew at7 rfl rfl rfl hk ho2 rfl ho3 (by show stored b.sk _ _ = _; rfl) ho9 (fun k c tc hk' => ?_) ?_ ?_ rfl rfl rfl rfl rfl rfl
  ·obtain ⟨c1, t1, h1⟩ := Qc3 (k' := σ.top) (c' := 0) hk'
   obtain ⟨c2, t2, h2⟩ := Qc3 h1
   exact Qc3 h2
  ·exact ⟨_, _, (Qcy (Ne.symm hnx')).trans ((Qcy (Ne.symm hnv')).trans Qj0)⟩
  ·exact Nat.le_trans (Nat.le_of_eq (Qbx hcx8)) hl7
end
end
section
noncomputable def fn303 : FnIn 303 := by
 refine' mkFn ?ok ?hb
 case ok => intro P; k_is
 case hb => exact rfl
@[reducible] noncomputable def N303 : Nm := ⟨["self", "u", "i", "iu", "v", "w"], ["abs"]⟩
theorem Qvs : ScOk fn303.fd.scope.names N303.loc N303.glo := by
 refine Qah ?_
 kcf_m
theorem Qw0 (P : Params) : FnOk (hK P) 303 fn303.fd fn303.body := ⟨⟨_, _, _, fn303.ok P⟩, by kcf_m, fn303.hb, rfl, rfl, rfl, rfl, rfl, by kcf_m⟩
section
theorem Qly {u i : Int} {tu ti : Tok} {Q : VQ} (r : Rep W b σ) (hs : b.self = sa) (hr : Room Ψ.A 2) (ok : Ok σ) (hi : i < σ.nv) (hv : Vd σ i u)
  (q : ∀ y v0 v1 t0 t1, CofR σ i u v0 v1 → Q (.ref y) vals (mgL b ++ (y, tupObj [.int v0 t0, .int v1 t1]) :: Rl)) :
  WA Ψ (call (.ref 303) [.ref sa, .int u tu, .int i ti]) Q vals (mgL b ++ Rl) := by
 refine Qaa (N' := N303) (Qw0 _) Qvs hr (binds := [("self", .ref sa), ("u", .int u tu), ("i", .int i ti)]) (rest := ["iu", "v", "w"]) (fun s _ => .of_eq rfl) rfl [some (.ref sa), some (.int u tu), some (.int i ti), none, none, none] rfl ?_
 intro Ψ' he hr'
 have at0 := r.at'
 dsimp only [fn303, mkFn]
 (ctx_mentions Ua Ya Xf Fb Pa Yo Vb Zh Yu Yc Zj Zr)
 refine Qak (fun h0 => ?_) fun h0 => ?_
 ·have h0' : iabs u = 1 := by simpa using h0
  (ctx_mentions Ua Yb Xg Vb Vb Zh)
  refine Qab (Qac (n := 2) (by kd_p)) fun y => ?_
  refine ⟨_, List.Sublist.refl _, q y _ _ _ _ (.above (.inl ⟨h0', by exact Q6z hi⟩))⟩
 ·have h0' : iabs u ≠ 1 := by simpa using h0
  obtain ⟨i', v, x, hn, hle⟩ : ∃ i' v x, σ.node (iabs u) = some (i', v, x) ∧ i ≤ i' := by
   rcases hv.cases with (e1 | e1) | h
   ·exact absurd (by rw [e1]; decide) h0'
   ·exact absurd (by rw [e1]; decide) h0'
   ·exact h
  have o := ok.nd _ _ _ _ hn
  have hv0 := o.2.2.2.2.1.ne0
  have hu0 := hv.ne0
  (ctx_mentions Za Zb Ua)
  refine Mine.L.asT rfl rfl ?_; intro _
  (ctx_mentions Yk Xj Va Ga Fb Pa Yo Vb Zh Yu)
  refine Qcx r hn fun a t1 t2 t3 n dd sl hm => ?_
  refine R.unp hr'.hh hm rfl rfl ?_
  (ctx_mentions Yw Vc Yw Vc Yw Vc ZG Zb Ua Ya Yh Xi Va Zs Ma Za Zb Ua Ya Yh Xi Va Zs Ma Za Zb Ua Ya Xf Va Va Zl Zr)
  refine Qak (fun h1 => ?_) fun h1 => ?_
  ·have h1' : i < i' := by simpa using h1
   (ctx_mentions Ua Yb Xg Vb Vb Zh)
   refine Qab (Qac (n := 2) (by kd_p)) fun y => ?_
   exact ⟨_, List.Sublist.refl _, q y _ _ _ _ (.above (.inr ⟨_, hn, by show i + 1 ≤ i'; exact Qz2 h1'⟩))⟩
  ·obtain rfl : i' = i := by
    have h1' : ¬ i < i' := by simpa using h1
    exact Q7k hle h1'
   (ctx_mentions Za Zb Ua Ya Xf Va Va Zk Zr Ma Za Zb Ua Ya Xf Va Yc Zl Zr)
   refine Qak (fun h2 => ?_) fun h2 => ?_
   ·have h2' : u < 0 := by simpa using h2
    (ctx_mentions Ua)
    refine Mine.L.swap2 hr'.hh rfl rfl (by rw [he]; rfl) ?_; intro _
    (ctx_mentions Yf Va Ys Yf Va Ys Vc Vc Zb Za Zb Ua Yb Xg Vb Vb Zh)
    refine Qab (Qac (n := 2) (by kd_p)) fun y => ?_
    exact ⟨_, List.Sublist.refl _, q y _ _ _ _ (.down h2' (by rw [show -u = iabs u by unfold iabs; rw [if_pos h2']]; exact hn))⟩
   ·have h2' : 0 < u := by
     have : ¬ u < 0 := by simpa using h2
     exact Q7j hu0 this
    (ctx_mentions Za Zb Ua Yb Xg Vb Vb Zh)
    refine Qab (Qac (n := 2) (by kd_p)) fun y => ?_
    exact ⟨_, List.Sublist.refl _, q y _ _ _ _ (.up h2' (by rw [Qam h2'] at hn; exact hn))⟩
end
end
section
noncomputable def fn360 : FnIn 360 := by
 refine' mkFn ?ok ?hb
 case ok => intro P; k_is
 case hb => exact rfl
@[reducible] noncomputable def N360 : Nm := ⟨["self", "g", "u", "v", "r", "w", "z", "g0", "g1", "u0", "u1", "v0", "v1", "p", "q"], ["min", "abs"]⟩
theorem Qvm : ScOk fn360.fd.scope.names N360.loc N360.glo := by
 refine Qah ?_
 kcf_m
theorem Qwu (P : Params) : FnOk (hK P) 360 fn360.fd fn360.body := ⟨⟨_, _, _, fn360.ok P⟩, by kcf_m, fn360.hb, rfl, rfl, rfl, rfl, rfl, by kcf_m⟩
section
theorem Qcb (n : Nat) : 1 ≤ 2 ^ n := Nat.one_le_two_pow
theorem Qr6 (n : Nat) : ∀ (N : Nm) (Ψ : Frm hK N W) (vals : Vals) (b : Mg) (σ : Sg) (Rl : Led) (k g u v : Int) (tg tu tv : Tok) (Q : VQ),
  Rep W b σ → b.self = sa → Room Ψ.A (2 * n + 5) → Ok σ → Ik σ → 0 ≤ k → ((σ.nv : Int) - k).toNat ≤ n → Vd σ k g → Vd σ k u → Vd σ k v → σ.tab.length + 2 ^ (n + 1) + 4 ≤ 16777216 → σ.its + 2 ^ (n + 1) ≤ 16777216 →
  (∀ t' b' σ' r, Rep W b' σ' → b'.self = sa → Ok σ' → Ik σ' → Ext σ σ' → Vd σ' k r → (∀ fg fu fv, Den σ g fg → Den σ u fu → Den σ v fv → Den σ' r (fun a => if fg a then fu a else fv a)) →
   σ'.tab.length + 1 ≤ σ.tab.length + 2 ^ (n + 1) → σ'.its + 1 ≤ σ.its + 2 ^ (n + 1) → Q (.int r t') vals (mgL b' ++ Rl)) →
  WA Ψ (call (.ref 360) [.ref sa, .int g tg, .int u tu, .int v tv]) Q vals (mgL b ++ Rl) := by
 induction n using Nat.strongRecOn with
 | ind n ih =>
  intro N Ψ vals b σ Rl k g u v tg tu tv Q r hs hr ok ik hk0 hn hg hu hv hz hz2 q
  have hp := Qcb n
  have hp2 : 2 ^ (n + 1) = 2 * 2 ^ n := by rw [Nat.pow_succ]; exact Qrf
  refine Qaa (N' := N360) (Qwu _) Qvm hr (binds := [("self", .ref sa), ("g", .int g tg), ("u", .int u tu), ("v", .int v tv)]) (rest := ["r", "w", "z", "g0", "g1", "u0", "u1", "v0", "v1", "p", "q"]) (fun s _ => .of_eq rfl) rfl [some (.ref sa), some (.int g tg), some (.int u tu), some (.int v tv), none, none, none, none, none, none, none, none, none, none, none] rfl ?_
  intro Ψ' he hr'
  have at0 := r.at'
  dsimp only [fn360, mkFn]
  (ctx_mentions Ua Ya Xf Va Yc Zj Zr)
  refine Qak (fun h0 => ?_) fun h0 => ?_
  ·have h0' : g = 1 := by simpa using h0
   subst h0'
   (ctx_mentions Ua Yb Va Zc Zc)
   refine ⟨_, List.Sublist.refl _, q _ b σ u r hs ok ik (.refl _) hu (fun fg fu fv d1 d2 d3 => ?_) (by exact Qre hp hp2) (by exact Qre hp hp2)⟩
   rw [d1.one_inv]
   simpa using d2
  have hg1 : g ≠ 1 := by simpa using h0
  (ctx_mentions Ua Ya Xf Va Yf Yc Ys Zj Zr)
  refine Qak (fun h1 => ?_) fun h1 => ?_
  ·have h1' : g = -1 := by simpa using h1
   subst h1'
   (ctx_mentions Ua Yb Va Zc Zc Zc)
   refine ⟨_, List.Sublist.refl _, q _ b σ v r hs ok ik (.refl _) hv (fun fg fu fv d1 d2 d3 => ?_) (by exact Qre hp hp2) (by exact Qre hp hp2)⟩
   obtain ⟨f1, d4, rfl⟩ := Qav (u := 1) (by decide) d1
   rw [d4.one_inv]
   simpa using d3
  have hg2 : g ≠ -1 := by simpa using h1
  (ctx_mentions Za Zb Za Zb Ua Xa Xg Vb Vb Vb Zh)
  refine Qab (Qac (n := 3) (by kd_p)) fun a => ?_
  have hun : Ψ'.A.units + 1 < cLine := by have := hr'.u; exact Q7i this
  have hit : ItemsAre (optKind W.prog W.w) [some g, some u, some v] [.int g tg, .int u tu, .int v tv] := .cons (optInt _ _) (.cons (optInt _ _) (.cons (optInt _ _) .nil))
  have hk : TupL (optKind W.prog W.w) (mgL b ++ (a, tupObj [.int g tg, .int u tu, .int v tv]) :: Rl) [some g, some u, some v] a :=
   ⟨_, _, _, _, mr (.head _), hit⟩
  (ctx_mentions Vc Zb Ua Xa Fa Xj Va Ga)
  refine Qa4 Qo8 (let ⟨_, _, e, _⟩ := r.i1; e) PySem.F.slot_dict_get PySem.F.type_dict_get ?_
  (ctx_mentions Yn Vb Zh)
  refine Qjw hun hk Qo8 r.i1 (fun y hy => Qbj (r.i2 y hy)) ?_
  cases hat : atKey b.ik [some g, some u, some v] with
  | some pr =>
   obtain ⟨a', vv⟩ := pr
   obtain ⟨g', u', v', rr, tr, e1, rfl, hite⟩ := r.i3 _ _ _ hat
   simp only [List.cons.injEq, Option.some.injEq, and_true] at e1
   obtain ⟨rfl, rfl, rfl⟩ := e1
   kcj_m
   obtain ⟨fg, fu, fv, d1, d2, d3, d4, kk⟩ := ik _ _ _ _ hite
   kd_p1
   show WA _ (bindName _ _ (.int rr tr)) _ _ _
   (ctx_mentions Vc Zb Ua Ya Xf Va Zd Zq Zr Mb Ua Yb Va Zc Zc)
   refine ⟨mgL b ++ Rl, sA (sD), q _ b σ rr r hs ok ik (.refl _) (kk k hg hu hv) (fun fg' fu' fv' d1' d2' d3' => ?_) (by exact Qre hp hp2) (by exact Qre hp hp2)⟩
   rw [d1'.fn d1, d2'.fn d2, d3'.fn d3]
   exact d4
  | none =>
   show WA _ (bindName _ _ .none) _ _ _
   (ctx_mentions Vc Zb Ua Ya Xf Va Zd Zq Zr Ma Za Zb Ua Xa Fb Pa Yo Yl Yk Yk Xj Va Ga Fb Pa Yo Vb Zh Yu)
   refine Qc9 r hg.key fun a1 t1 v2 v3 n1 dd1 sl1 hm1 => ?_
   (ctx_mentions Yc)
   refine Qd6 (vs := [_, _, _]) (j := 0) hm1 (by decide) (by decide) rfl rfl ?_
   (ctx_mentions Yl Yk Yk Xj Va Ga Fb Pa Yo Vb Zh Yu)
   refine Qc9 r hu.key fun a2 t2 v2 v3 n2 dd2 sl2 hm2 => ?_
   (ctx_mentions Yc)
   refine Qd6 (vs := [_, _, _]) (j := 0) hm2 (by decide) (by decide) rfl rfl ?_
   (ctx_mentions Yl Yk Yk Xj Va Ga Fb Pa Yo Vb Zh Yu)
   refine Qc9 r hv.key fun a3 t3 v2 v3 n3 dd3 sl3 hm3 => ?_
   (ctx_mentions Yc)
   refine Qd6 (vs := [_, _, _]) (j := 0) hm3 (by decide) (by decide) rfl rfl ?_
   (ctx_mentions Zh)
   refine Qq3 hr'.hh fun z tz hz1 hz2 hz3 hz4 => ?_
   have hkg := Qd4 hg
   have hku := Qd4 hu
   have hkv := Qd4 hv
   have hkz : k ≤ z := by exact Q6t hz4 hkg hku hkv
   have hzg : Vd σ z g := (Qbr ok hg).2.1.le hz1
   have hzu : Vd σ z u := (Qbr ok hu).2.1.le hz2
   have hzv : Vd σ z v := (Qbr ok hv).2.1.le hz3
   have hlg : σ.lev g < σ.nv := by
    rcases hg.cases with (e1 | e1) | ⟨i', v', x', hx', _⟩
    ·exact absurd e1 hg1
    ·exact absurd e1 hg2
    ·unfold Sg.lev
     rw [if_neg (by have := Qar hx'; exact Qyd this), hx']
     exact (ok.nd _ _ _ _ hx').2.1
   have hznv : z < σ.nv := by exact Q7h hz1 hlg
   have hr2 : Room Ψ'.A 2 := hr'.less (by exact Q7g)
   (ctx_mentions Vc Zb Ua)
   refine Mine.L.asT rfl rfl ?_; intro _
   (ctx_mentions Fa Va Ic Vb Vb Zh)
   refine Qly r hs hr2 ok hznv hzg fun y1 g0 g1 tg0 tg1 cg => ?_
   refine Qm2 hr'.hh rfl rfl ?_
   (ctx_mentions Yw Vc Yw Vc ZG Zb Ua)
   refine Mine.L.asT rfl rfl ?_; intro _
   (ctx_mentions Fa Va Ic Vb Vb Zh)
   refine Qly r hs hr2 ok hznv hzu fun y2 u0 u1 tu0 tu1 cu => ?_
   refine Qm2 hr'.hh rfl rfl ?_
   (ctx_mentions Yw Vc Yw Vc ZG Zb Ua)
   refine Mine.L.asT rfl rfl ?_; intro _
   (ctx_mentions Fa Va Ic Vb Vb Zh)
   refine Qly r hs hr2 ok hznv hzv fun y3 v0 v1 tv0 tv1 cv => ?_
   refine Qm2 hr'.hh rfl rfl ?_
   kcj_m
   obtain ⟨fg, dg⟩ := hg.den ok
   obtain ⟨fu, du⟩ := hu.den ok
   obtain ⟨fv, dv⟩ := hv.den ok
   obtain ⟨fg0, fg1, Cg⟩ := Qe4 ok dg cg
   obtain ⟨fu0, fu1, Cu⟩ := Qe4 ok du cu
   obtain ⟨fv0, fv1, Cv⟩ := Qe4 ok dv cv
   kd_p1
   obtain ⟨m, rfl⟩ : ∃ m, n = m + 1 := ⟨n - 1, by exact Qsj hn hkz hznv⟩
   have hrm : Room Ψ'.A (2 * m + 5) := hr'.less (by exact Q7f)
   have hms : ((σ.nv : Int) - (z + 1)).toNat ≤ m := by exact Qrd hkz hn
   (ctx_mentions Yw Vc Yw Vc ZG Zb Ua Xa Fa Va Ic Vb Vb Vb Zh)
   refine ih m (by exact Ql7) _ Ψ' _ b σ _ (z + 1) g0 u0 v0 _ _ _ _ r hs hrm ok ik (by exact Qoh hk0 hkz) hms Cg.k0 Cu.k0 Cv.k0 (by exact Q6o hz hp2) (by exact Qup hz2 hp2) fun tp b1 σ1 pp r1 hs1 ok1 ik1 e1 vp dp lp1 lp2 => ?_
   have at1 := r1.at'
   (ctx_mentions Vc Zb Ua Xa Fa Va Ic Vb Vb Vb Zh)
   refine ih m (by exact Ql7) _ Ψ' _ b1 σ1 _ (z + 1) g1 u1 v1 _ _ _ _ r1 hs1 hrm ok1 ik1 (by exact Qoh hk0 hkz) (by rw [e1.nv]; exact hms) (Cg.k1.ext e1) (Cu.k1.ext e1) (Cv.k1.ext e1) (by exact Q6n hz hp2 lp1) (by exact Quo hz2 hp2 lp2) fun tq b2 σ2 qq r2 hs2 ok2 ik2 e2 vq dq lq1 lq2 => ?_
   have at2 := r2.at'
   have e12 := e1.trans e2
   have hr3 : Room Ψ'.A 3 := hr'.less (by exact Q6m)
   have hnv2 : z < (σ2.nv : Int) := by rw [e12.nv]; exact hznv
   have vp2 := vp.ext e2
   (ctx_mentions Vc Zb Ua Xa Fa Va Ic Vb Vb Vb Zh)
   refine Qo9 r2 hs2 hr3 (by exact Qun hk0 hkz) hnv2 vp2.key vq.key (by exact Q6l hz hp2 lp1 lq1) fun tw b3 σ3 rr fo r3 hs3 => ?_
   have S := Qlt ok2 (by exact Qun hk0 hkz) hnv2 vp2 vq ((dp _ _ _ Cg.d0 Cu.d0 Cv.d0).ext e2) (dq _ _ _ (Cg.d1.ext e1) (Cu.d1.ext e1) (Cv.d1.ext e1)) fo
   have at3 := r3.at'
   have e3 := e12.trans S.ext
   have ik3 : Ik σ3 := ik2.ext ok2 S.ext S.ite
   have hden : Den σ3 rr (fun a => if fg a then fu a else fv a) := by
    have := S.den
    rw [Cg.e, Cu.e, Cv.e]
    have e : (fun a : Asg => if (if a z = true then fg1 a else fg0 a) = true then (if a z = true then fu1 a else fu0 a) else if a z = true then fv1 a else fv0 a) =
      fun a => if a z = true then (if fg1 a = true then fu1 a else fv1 a) else if fg0 a = true then fu0 a else fv0 a := funext fun a => by by_cases hz : a z = true <;> simp [hz]
    rw [e]; exact this
   have hkz' : ∀ k', Vd σ3 k' g → Vd σ3 k' u → Vd σ3 k' v → Vd σ3 k' rr := fun k' h1 h2 h3 => by
    have q1 := Qd4 (Vd.back ok e3 dg h1)
    have q2 := Qd4 (Vd.back ok e3 du h2)
    have q3 := Qd4 (Vd.back ok e3 dv h3)
    exact S.vd.le (by exact Q6t hz4 q1 q2 q3)
   (ctx_mentions Vc Zb Ua Xc Va Xj Va Ga Va)
   refine Qoy ?_
   have hk4 : TupL (optKind W.prog W.w) (b3.uTup (a, tupObj [.int g tg, .int u tu, .int v tv])).tups [some g, some u, some v] a := ⟨_, _, _, _, .head _, hit⟩
   have r4 := r3.tup (a, tupObj [.int g tg, .int u tu, .int v tv])
   have h4 := r3.i4
   have hits := S.its
   have hlen := S.len
   refine Qo0 (b := (b3.uTup (a, tupObj [.int g tg, .int u tu, .int v tv]))) hun hk4 r4.i1 r4.i2 (by show b3.ik.length ≤ _; rw [Qae]; exact Q6k hz2 hp2 lp2 lq2 h4 hits) fun o5 ho5 => ?_
   intro b5
   have r5 : Rep W b5 _ := r4.put hk4 ho5
   have hs5 : b5.self = sa := hs3
   have ep := Ext.put σ3 g u v rr
   (ctx_mentions Zb Ua Yb Va Zc)
   refine ⟨_, List.Sublist.refl _, q _ b5 _ rr r5 hs5 (S.ok.put g u v rr) (ik3.put S.ok (dg.ext e3) (du.ext e3) (dv.ext e3) hden hkz') (e3.trans ep) ((S.vd.le hkz).ext ep) (fun fg' fu' fv' d1 d2 d3 => ?_) ?_ ?_⟩
   ·rw [d1.fn dg, d2.fn du, d3.fn dv]
    exact hden.ext ep
   ·show σ3.tab.length + 1 ≤ _
    exact Qqt hp2 lp1 lq1 hlen
   ·show σ3.its + 1 + 1 ≤ _
    exact Q6j hp2 lp2 lq2 hits
end
end
section
noncomputable def fn353 : FnIn 353 := by
 refine' mkFn ?ok ?hb
 case ok => intro P; k_is
 case hb => exact rfl
@[reducible] noncomputable def N353 : Nm := ⟨["self", "g", "u", "v"], []⟩
theorem Qvn : ScOk fn353.fd.scope.names N353.loc N353.glo := by
 refine Qah ?_
 kcf_m
theorem Qwv (P : Params) : FnOk (hK P) 353 fn353.fd fn353.body := ⟨⟨_, _, _, fn353.ok P⟩, by kcf_m, fn353.hb, rfl, rfl, rfl, rfl, rfl, by kcf_m⟩
noncomputable def fn57 : FnIn 57 := by
 refine' mkFn ?ok ?hb
 case ok => intro P; k_is
 case hb => exact rfl
@[reducible] noncomputable def N57 : Nm := ⟨["self", "u"], ["abs"]⟩
theorem Q67 : ScOk fn57.fd.scope.names N57.loc N57.glo := by
 refine Qah ?_
 kcf_m
theorem Q7d (P : Params) : FnOk (hK P) 57 fn57.fd fn57.body := ⟨⟨_, _, _, fn57.ok P⟩, by kcf_m, fn57.hb, rfl, rfl, rfl, rfl, rfl, by kcf_m⟩
noncomputable def fn93 : FnIn 93 := by
 refine' mkFn ?ok ?hb
 case ok => intro P; k_is
 case hb => exact rfl
@[reducible] noncomputable def N93 : Nm := ⟨["self", "u"], ["abs"]⟩
theorem Q65 : ScOk fn93.fd.scope.names N93.loc N93.glo := by
 refine Qah ?_
 kcf_m
theorem Q7b (P : Params) : FnOk (hK P) 93 fn93.fd fn93.body := ⟨⟨_, _, _, fn93.ok P⟩, by kcf_m, fn93.hb, rfl, rfl, rfl, rfl, rfl, by kcf_m⟩
noncomputable def fn157 : FnIn 157 := by
 refine' mkFn ?ok ?hb
 case ok => intro P; k_is
 case hb => exact rfl
@[reducible] noncomputable def N157 : Nm := ⟨["self", "level"], []⟩
theorem Qvv : ScOk fn157.fd.scope.names N157.loc N157.glo := by
 refine Qah ?_
 kcf_m
theorem Qw5 (P : Params) : FnOk (hK P) 157 fn157.fd fn157.body := ⟨⟨_, _, _, fn157.ok P⟩, by kcf_m, fn157.hb, rfl, rfl, rfl, rfl, rfl, by kcf_m⟩
section
structure Good (W : Wd) (sa : Addr) (b : Mg) (σ : Sg) : Prop where
 r : Rep W b σ
 hs : b.self = sa
 ok : Ok σ
 ik : Ik σ
structure Gr (σ σ' : Sg) (c : Nat) : Prop where
 e : Ext σ σ'
 t : σ'.tab.length ≤ σ.tab.length + c
 i : σ'.its ≤ σ.its + c
structure Cap (σ : Sg) (c : Nat) : Prop where
 t : σ.tab.length + c + 8 ≤ 16777216
 i : σ.its + c + 8 ≤ 16777216
 n : σ.nv ≤ 5
theorem Gr.refl (σ : Sg) : Gr σ σ 0 := ⟨.refl _, by exact Qum, by exact Qum⟩
theorem Gr.le {σ σ' : Sg} {c d : Nat} (g : Gr σ σ' c) (h : c ≤ d) : Gr σ σ' d := ⟨g.e, by have := g.t; exact Qul h this, by have := g.i; exact Qul h this⟩
theorem Gr.trans {a b c : Sg} {x y : Nat} (g : Gr a b x) (h : Gr b c y) : Gr a c (x + y) := ⟨g.e.trans h.e, by have := g.t; have := h.t; exact Quk (by assumption) this, by have := g.i; have := h.i; exact Quk (by assumption) this⟩
theorem Qaj {σ σ' : Sg} {c d : Nat} (k : Cap σ (c + d)) (g : Gr σ σ' c) : Cap σ' d := ⟨by have := k.t; have := g.t; exact Quj (by assumption) this, by have := k.i; have := g.i; exact Quj (by assumption) this, by rw [g.e.nv]; exact k.n⟩
theorem Cap.less {σ : Sg} {c d : Nat} (k : Cap σ c) (h : d ≤ c) : Cap σ d := ⟨by have := k.t; exact Qui h this, by have := k.i; exact Qui h this, k.n⟩
theorem Good.at' {W : Wd} {b : Mg} {σ : Sg} (g : Good W sa b σ) : AttrsAre b.ae an b.av := g.r.at'
theorem Qih {k g u v : Int} {tg tu tv : Tok} {fg fu fv : BF} {Q : VQ} (G : Good W sa b σ) (hr : Room Ψ.A 16) (cap : Cap σ 64) (hk : 0 ≤ k) (kg : Vd σ k g) (ku : Vd σ k u) (kv : Vd σ k v) (dg : Den σ g fg) (du : Den σ u fu) (dv : Den σ v fv)
  (q : ∀ t' b' σ' r, Good W sa b' σ' → Gr σ σ' 64 → Vd σ' k r → Den σ' r (fun a => if fg a then fu a else fv a) → Q (.int r t') vals (mgL b' ++ Rl)) :
  WA Ψ (call (.ref 353) [.ref sa, .int g tg, .int u tu, .int v tv]) Q vals (mgL b ++ Rl) := by
 refine Qaa (N' := N353) (Qwv _) Qvn hr (binds := [("self", .ref sa), ("g", .int g tg), ("u", .int u tu), ("v", .int v tv)]) (rest := []) (fun s _ => .of_eq rfl) rfl [some (.ref sa), some (.int g tg), some (.int u tu), some (.int v tv)] rfl ?_
 intro Ψ' he hr'
 have at0 := G.at'
 have hs := G.hs
 have ct := cap.t
 have ci := cap.i
 have cn := cap.n
 have hp : 2 ^ (σ.nv + 1) ≤ 64 := Nat.le_trans (Nat.pow_le_pow_right (by decide) (show σ.nv + 1 ≤ 6 by exact Q6i cn)) (by decide)
 have hr2 : Room Ψ'.A (2 * σ.nv + 5) := hr'.less (by exact Q6h cn)
 dsimp only [fn353, mkFn]
 (ctx_mentions Ua Yb Fa Va Ic Vb Vb Vb Zh)
 refine Qr6 σ.nv _ Ψ' _ b σ _ k g u v _ _ _ _ G.r hs hr2 G.ok G.ik hk (by exact Q6g hk) kg ku kv (by exact Q6f ct hp) (by exact Q6e ci hp) fun t' b' σ' r r' hs' ok' ik' e' vd' den' l1 l2 => ?_
 (ctx_mentions Zc)
 exact ⟨_, List.Sublist.refl _, q _ b' σ' r ⟨r', hs', ok', ik'⟩ ⟨e', by exact Quh hp l1, by exact Quh hp l2⟩ vd' (den' _ _ _ dg du dv)⟩
theorem Qv7 {u : Int} {tu : Tok} {Q : VQ} (G : Good W sa b σ) (hr : Room Ψ.A 2) (q : Q (.bool (σ.key (iabs u)).isSome) vals (mgL b ++ Rl)) : WA Ψ (call (.ref 57) [.ref sa, .int u tu]) Q vals (mgL b ++ Rl) := by
 refine Qaa (N' := N57) (Q7d _) Q67 hr (binds := [("self", .ref sa), ("u", .int u tu)]) (rest := []) (fun s _ => .of_eq rfl) rfl [some (.ref sa), some (.int u tu)] rfl ?_
 intro Ψ' he hr'
 have at0 := G.at'
 have hs := G.hs
 dsimp only [fn57, mkFn]
 (ctx_mentions Ua Yb Xe Fb Pa Yo Vb Zh Yu Xj Va Ga)
 refine Qh0 (intKind_is _ _ _ _) Qcp G.r.s1 ?_
 rw [G.r.succIn]
 (ctx_mentions Zc)
 exact ⟨_, List.Sublist.refl _, q⟩
theorem Qbe {u : Int} {tu : Tok} {Q : VQ} (G : Good W sa b σ) (hr : Room Ψ.A 2) (q : Q (.bool (!(σ.key (iabs u)).isSome)) vals (mgL b ++ Rl)) : WA Ψ (compareOp .NotIn (.int u tu) (.ref sa)) Q vals (mgL b ++ Rl) := fun E s a => by
 refine notIn_K a.F Ψ.X (InstAt.of_news a.N (by rw [← G.hs]; exact inst_mg.inst) inst_mg.dict) (by k_is) (by k_is) ?_
 exact (Qv7 (Q := fun v vals' l' => v = .bool (σ.key (iabs u)).isSome ∧ Q (.bool (!(σ.key (iabs u)).isSome)) vals' l') G hr ⟨rfl, q⟩).use a fun v s' v' l' S a' h => by
  obtain ⟨rfl, h⟩ := h
  exact wpAny_truthy_bool ⟨S, v', l', a', h⟩
end
end
section
noncomputable def fn464 : FnIn 464 := by
 refine' mkFn ?ok ?hb
 case ok => intro P; k_is
 case hb => exact rfl
@[reducible] noncomputable def N464 : Nm := ⟨["self", "op", "u", "v", "w", "qvars"], ["abs"]⟩
theorem Qj2 : ScOk fn464.fd.scope.names N464.loc N464.glo := by
 refine Qah ?_
 kcf_m
theorem Qkb (P : Params) : FnOk (hK P) 464 fn464.fd fn464.body := ⟨⟨_, _, _, fn464.ok P⟩, by kcf_m, fn464.hb, rfl, rfl, rfl, rfl, rfl, by kcf_m⟩
section
theorem Qqu {u v : Int} {to tu tv : Tok} {fu fv : BF} {Q : VQ} (G : Good W sa b σ) (hr : Room Ψ.A 18) (cap : Cap σ 64) (du : Den σ u fu) (dv : Den σ v fv)
  (q : ∀ t' b' σ' r, Good W sa b' σ' → Gr σ σ' 64 → Den σ' r (fun a => fu a && fv a) → Q (.int r t') vals (mgL b' ++ Rl)) :
  WA Ψ (call (.ref 464) [.ref sa, .str "and" to, .int u tu, .int v tv]) Q vals (mgL b ++ Rl) := by
 refine Qaa (N' := N464) (Qkb _) Qj2 hr (binds := [("self", .ref sa), ("op", .str "and" to), ("u", .int u tu), ("v", .int v tv), ("w", .none)]) (rest := ["qvars"]) (fun s X => binds_K X rfl (by k_is) rfl rfl rfl) rfl [some (.ref sa), some (.str "and" to), some (.int u tu), some (.int v tv), some .none, none] rfl ?_
 intro Ψ' he hr'
 have hr2 : Room Ψ'.A 2 := hr'.less (by kd_p)
 have hr3 : Room Ψ'.A 16 := hr'.less (by kd_p)
 have at0 := G.at'
 have hs := G.hs
 have ku := (du.vd G.ok).abs.key
 have kv := (dv.vd G.ok).abs.key
 have ok := G.ok
 dsimp only [fn464, mkFn]
 (ctx_mentions Ua Ya Xf Fb Pa Yo Vb Zh Yu Va)
 refine Qbe G hr2 ?_
 rw [ku]
 (ctx_mentions Zr Ma Za Zb Ua Ya Zf Yi Xf Va Zd Zq Zr Mb Yi Xf Fb Pa Yo Vb Zh Yu Va)
 refine Qbe G hr2 ?_
 rw [kv]
 (ctx_mentions Zr Ma Ma Za Zb Ua Ya Zf Yi Xf Va Zd Zq Zr Ma Ma Za Zb Ua Ya Xf Va Xg Yl Yd Yl Yd Yl Yd Zh)
 refine Qab (Qac (by show _ ≤ _; simp only [List.length_cons, List.length_nil]; omega)) fun _ => ?_
 refine Qag (mr (.head _)) (by repeat constructor) ?_
 refine Zr ?_
 first
 | (refine Ma (by kcf_m) ?_)
 | (refine Mb (by kcf_m) ?_)
 (ctx_mentions Ua Ya Xf Va Zd Zp Zr Ma Ua Ya Xf Va Xg Yl Yd Yl Yd Yl Yd Yl Yd Zh)
 refine Qab (Qac (by show _ ≤ _; simp only [List.length_cons, List.length_nil]; omega)) fun _ => ?_
 refine Qag (mr (.head _)) (by repeat constructor) ?_
 refine Zr ?_
 first
 | (refine Ma (by kcf_m) ?_)
 | (refine Mb (by kcf_m) ?_)
 (ctx_mentions Ua Ya Xf Va Xg Yl Yd Yl Yd Yl Yd Yl Yd Zh)
 refine Qab (Qac (by show _ ≤ _; simp only [List.length_cons, List.length_nil]; omega)) fun _ => ?_
 refine Qag (mr (.head _)) (by repeat constructor) ?_
 refine Zr ?_
 first
 | (refine Ma (by kcf_m) ?_)
 | (refine Mb (by kcf_m) ?_)
 (ctx_mentions Ua Yb Fa Va Ic Vb Vb Yl Yf Yc Ys Zh)
 refine Qih G hr3 cap (Int.le_refl 0) (du.vd ok) (dv.vd ok) (Den.vd ok (Den.not .one)) du dv (Den.not .one) fun t' b' σ' r G' g' _ d' => ?_
 have e : (fun a => if fu a = true then fv a else !true) = fun a => fu a && fv a := funext fun a => by cases fu a <;> simp
 rw [e] at d'
 (ctx_mentions Zc Zc Zc Zc Zc)
 refine ⟨mgL b' ++ Rl, sA ?_, q _ b' σ' r G' g' d'⟩
 repeat (first | exact List.Sublist.refl _ | refine sC ?_)
theorem Qu1 {u v : Int} {to tu tv : Tok} {fu fv : BF} {Q : VQ} (G : Good W sa b σ) (hr : Room Ψ.A 18) (cap : Cap σ 64) (du : Den σ u fu) (dv : Den σ v fv)
  (q : ∀ t' b' σ' r, Good W sa b' σ' → Gr σ σ' 64 → Den σ' r (fun a => fu a || fv a) → Q (.int r t') vals (mgL b' ++ Rl)) :
  WA Ψ (call (.ref 464) [.ref sa, .str "or" to, .int u tu, .int v tv]) Q vals (mgL b ++ Rl) := by
 refine Qaa (N' := N464) (Qkb _) Qj2 hr (binds := [("self", .ref sa), ("op", .str "or" to), ("u", .int u tu), ("v", .int v tv), ("w", .none)]) (rest := ["qvars"]) (fun s X => binds_K X rfl (by k_is) rfl rfl rfl) rfl [some (.ref sa), some (.str "or" to), some (.int u tu), some (.int v tv), some .none, none] rfl ?_
 intro Ψ' he hr'
 have hr2 : Room Ψ'.A 2 := hr'.less (by kd_p)
 have hr3 : Room Ψ'.A 16 := hr'.less (by kd_p)
 have at0 := G.at'
 have hs := G.hs
 have ku := (du.vd G.ok).abs.key
 have kv := (dv.vd G.ok).abs.key
 have ok := G.ok
 dsimp only [fn464, mkFn]
 (ctx_mentions Ua Ya Xf Fb Pa Yo Vb Zh Yu Va)
 refine Qbe G hr2 ?_
 rw [ku]
 (ctx_mentions Zr Ma Za Zb Ua Ya Zf Yi Xf Va Zd Zq Zr Mb Yi Xf Fb Pa Yo Vb Zh Yu Va)
 refine Qbe G hr2 ?_
 rw [kv]
 (ctx_mentions Zr Ma Ma Za Zb Ua Ya Zf Yi Xf Va Zd Zq Zr Ma Ma Za Zb Ua Ya Xf Va Xg Yl Yd Yl Yd Yl Yd Zh)
 refine Qab (Qac (by show _ ≤ _; simp only [List.length_cons, List.length_nil]; omega)) fun _ => ?_
 refine Qag (mr (.head _)) (by repeat constructor) ?_
 refine Zr ?_
 first
 | (refine Ma (by kcf_m) ?_)
 | (refine Mb (by kcf_m) ?_)
 (ctx_mentions Ua Ya Xf Va Zd Zp Zr Ma Ua Ya Xf Va Xg Yl Yd Yl Yd Yl Yd Yl Yd Zh)
 refine Qab (Qac (by show _ ≤ _; simp only [List.length_cons, List.length_nil]; omega)) fun _ => ?_
 refine Qag (mr (.head _)) (by repeat constructor) ?_
 refine Zr ?_
 first
 | (refine Ma (by kcf_m) ?_)
 | (refine Mb (by kcf_m) ?_)
 (ctx_mentions Ua Yb Fa Va Ic Vb Yl Yc Vb Zh)
 refine Qih G hr3 cap (Int.le_refl 0) (du.vd ok) (Den.vd ok .one) (dv.vd ok) du .one dv fun t' b' σ' r G' g' _ d' => ?_
 have e : (fun a => if fu a = true then true else fv a) = fun a => fu a || fv a := funext fun a => by cases fu a <;> simp
 rw [e] at d'
 (ctx_mentions Zc Zc Zc Zc)
 refine ⟨mgL b' ++ Rl, sA ?_, q _ b' σ' r G' g' d'⟩
 repeat (first | exact List.Sublist.refl _ | refine sC ?_)
theorem Qrg {u v : Int} {to tu tv : Tok} {fu fv : BF} {Q : VQ} (G : Good W sa b σ) (hr : Room Ψ.A 18) (cap : Cap σ 64) (du : Den σ u fu) (dv : Den σ v fv)
  (q : ∀ t' b' σ' r, Good W sa b' σ' → Gr σ σ' 64 → Den σ' r (fun a => fu a ^^ fv a) → Q (.int r t') vals (mgL b' ++ Rl)) :
  WA Ψ (call (.ref 464) [.ref sa, .str "xor" to, .int u tu, .int v tv]) Q vals (mgL b ++ Rl) := by
 refine Qaa (N' := N464) (Qkb _) Qj2 hr (binds := [("self", .ref sa), ("op", .str "xor" to), ("u", .int u tu), ("v", .int v tv), ("w", .none)]) (rest := ["qvars"]) (fun s X => binds_K X rfl (by k_is) rfl rfl rfl) rfl [some (.ref sa), some (.str "xor" to), some (.int u tu), some (.int v tv), some .none, none] rfl ?_
 intro Ψ' he hr'
 have hr2 : Room Ψ'.A 2 := hr'.less (by kd_p)
 have hr3 : Room Ψ'.A 16 := hr'.less (by kd_p)
 have at0 := G.at'
 have hs := G.hs
 have ku := (du.vd G.ok).abs.key
 have kv := (dv.vd G.ok).abs.key
 have ok := G.ok
 dsimp only [fn464, mkFn]
 (ctx_mentions Ua Ya Xf Fb Pa Yo Vb Zh Yu Va)
 refine Qbe G hr2 ?_
 rw [ku]
 (ctx_mentions Zr Ma Za Zb Ua Ya Zf Yi Xf Va Zd Zq Zr Mb Yi Xf Fb Pa Yo Vb Zh Yu Va)
 refine Qbe G hr2 ?_
 rw [kv]
 (ctx_mentions Zr Ma Ma Za Zb Ua Ya Zf Yi Xf Va Zd Zq Zr Ma Ma Za Zb Ua Ya Xf Va Xg Yl Yd Yl Yd Yl Yd Zh)
 refine Qab (Qac (by show _ ≤ _; simp only [List.length_cons, List.length_nil]; omega)) fun _ => ?_
 refine Qag (mr (.head _)) (by repeat constructor) ?_
 refine Zr ?_
 first
 | (refine Ma (by kcf_m) ?_)
 | (refine Mb (by kcf_m) ?_)
 (ctx_mentions Ua Ya Xf Va Zd Zp Zr Ma Ua Ya Xf Va Xg Yl Yd Yl Yd Yl Yd Yl Yd Zh)
 refine Qab (Qac (by show _ ≤ _; simp only [List.length_cons, List.length_nil]; omega)) fun _ => ?_
 refine Qag (mr (.head _)) (by repeat constructor) ?_
 refine Zr ?_
 first
 | (refine Ma (by kcf_m) ?_)
 | (refine Mb (by kcf_m) ?_)
 (ctx_mentions Ua Ya Xf Va Xg Yl Yd Yl Yd Yl Yd Yl Yd Zh)
 refine Qab (Qac (by show _ ≤ _; simp only [List.length_cons, List.length_nil]; omega)) fun _ => ?_
 refine Qag (mr (.head _)) (by repeat constructor) ?_
 refine Zr ?_
 first
 | (refine Ma (by kcf_m) ?_)
 | (refine Mb (by kcf_m) ?_)
 (ctx_mentions Ua Ya Xf Va Xg Yl Yd Yl Yd Yl Yd Zh)
 refine Qab (Qac (by show _ ≤ _; simp only [List.length_cons, List.length_nil]; omega)) fun _ => ?_
 refine Qag (mr (.head _)) (by repeat constructor) ?_
 refine Zr ?_
 first
 | (refine Ma (by kcf_m) ?_)
 | (refine Mb (by kcf_m) ?_)
 (ctx_mentions Ua Yb Fa Va Ic Vb Yl Yf Va Ys Vb Zh)
 refine Qih G hr3 cap (Int.le_refl 0) (du.vd ok) (Den.vd ok (Den.not dv)) (dv.vd ok) du (Den.not dv) dv fun t' b' σ' r G' g' _ d' => ?_
 have e : (fun a => if fu a = true then !fv a else fv a) = fun a => fu a ^^ fv a := funext fun a => by cases fu a <;> simp
 rw [e] at d'
 (ctx_mentions Zc Zc Zc Zc Zc Zc)
 refine ⟨mgL b' ++ Rl, sA ?_, q _ b' σ' r G' g' d'⟩
 repeat (first | exact List.Sublist.refl _ | refine sC ?_)
theorem Q64 {u v : Int} {to tu tv : Tok} {fu fv : BF} {Q : VQ} (G : Good W sa b σ) (hr : Room Ψ.A 18) (cap : Cap σ 64) (du : Den σ u fu) (dv : Den σ v fv)
  (q : ∀ t' b' σ' r, Good W sa b' σ' → Gr σ σ' 64 → Den σ' r (fun a => fu a ^^ fv a) → Q (.int r t') vals (mgL b' ++ Rl)) :
  WA Ψ (call (.ref 464) [.ref sa, .str "^" to, .int u tu, .int v tv]) Q vals (mgL b ++ Rl) := by
 refine Qaa (N' := N464) (Qkb _) Qj2 hr (binds := [("self", .ref sa), ("op", .str "^" to), ("u", .int u tu), ("v", .int v tv), ("w", .none)]) (rest := ["qvars"]) (fun s X => binds_K X rfl (by k_is) rfl rfl rfl) rfl [some (.ref sa), some (.str "^" to), some (.int u tu), some (.int v tv), some .none, none] rfl ?_
 intro Ψ' he hr'
 have hr2 : Room Ψ'.A 2 := hr'.less (by kd_p)
 have hr3 : Room Ψ'.A 16 := hr'.less (by kd_p)
 have at0 := G.at'
 have hs := G.hs
 have ku := (du.vd G.ok).abs.key
 have kv := (dv.vd G.ok).abs.key
 have ok := G.ok
 dsimp only [fn464, mkFn]
 (ctx_mentions Ua Ya Xf Fb Pa Yo Vb Zh Yu Va)
 refine Qbe G hr2 ?_
 rw [ku]
 (ctx_mentions Zr Ma Za Zb Ua Ya Zf Yi Xf Va Zd Zq Zr Mb Yi Xf Fb Pa Yo Vb Zh Yu Va)
 refine Qbe G hr2 ?_
 rw [kv]
 (ctx_mentions Zr Ma Ma Za Zb Ua Ya Zf Yi Xf Va Zd Zq Zr Ma Ma Za Zb Ua Ya Xf Va Xg Yl Yd Yl Yd Yl Yd Zh)
 refine Qab (Qac (by show _ ≤ _; simp only [List.length_cons, List.length_nil]; omega)) fun _ => ?_
 refine Qag (mr (.head _)) (by repeat constructor) ?_
 refine Zr ?_
 first
 | (refine Ma (by kcf_m) ?_)
 | (refine Mb (by kcf_m) ?_)
 (ctx_mentions Ua Ya Xf Va Zd Zp Zr Ma Ua Ya Xf Va Xg Yl Yd Yl Yd Yl Yd Yl Yd Zh)
 refine Qab (Qac (by show _ ≤ _; simp only [List.length_cons, List.length_nil]; omega)) fun _ => ?_
 refine Qag (mr (.head _)) (by repeat constructor) ?_
 refine Zr ?_
 first
 | (refine Ma (by kcf_m) ?_)
 | (refine Mb (by kcf_m) ?_)
 (ctx_mentions Ua Ya Xf Va Xg Yl Yd Yl Yd Yl Yd Yl Yd Zh)
 refine Qab (Qac (by show _ ≤ _; simp only [List.length_cons, List.length_nil]; omega)) fun _ => ?_
 refine Qag (mr (.head _)) (by repeat constructor) ?_
 refine Zr ?_
 first
 | (refine Ma (by kcf_m) ?_)
 | (refine Mb (by kcf_m) ?_)
 (ctx_mentions Ua Ya Xf Va Xg Yl Yd Yl Yd Yl Yd Zh)
 refine Qab (Qac (by show _ ≤ _; simp only [List.length_cons, List.length_nil]; omega)) fun _ => ?_
 refine Qag (mr (.head _)) (by repeat constructor) ?_
 refine Zr ?_
 first
 | (refine Ma (by kcf_m) ?_)
 | (refine Mb (by kcf_m) ?_)
 (ctx_mentions Ua Yb Fa Va Ic Vb Yl Yf Va Ys Vb Zh)
 refine Qih G hr3 cap (Int.le_refl 0) (du.vd ok) (Den.vd ok (Den.not dv)) (dv.vd ok) du (Den.not dv) dv fun t' b' σ' r G' g' _ d' => ?_
 have e : (fun a => if fu a = true then !fv a else fv a) = fun a => fu a ^^ fv a := funext fun a => by cases fu a <;> simp
 rw [e] at d'
 (ctx_mentions Zc Zc Zc Zc Zc Zc)
 refine ⟨mgL b' ++ Rl, sA ?_, q _ b' σ' r G' g' d'⟩
 repeat (first | exact List.Sublist.refl _ | refine sC ?_)
end
end
section
noncomputable def fn332 : FnIn 332 := by
 refine' mkFn ?ok ?hb
 case ok => intro P; k_is
 case hb => exact rfl
@[reducible] noncomputable def N332 : Nm := ⟨["self", "u", "j", "ordvar", "qvars", "forall", "cache", "i", "v", "w", "n", "p", "q", "r"], ["abs", "len"]⟩
theorem Qvq : ScOk fn332.fd.scope.names N332.loc N332.glo := by
 refine Qah ?_
 kcf_m
theorem Qwy (P : Params) : FnOk (hK P) 332 fn332.fd fn332.body := ⟨⟨_, _, _, fn332.ok P⟩, by kcf_m, fn332.hb, rfl, rfl, rfl, rfl, rfl, by kcf_m⟩
section
theorem Good.tup {y : Addr × Obj} (G : Good W sa b σ) : Good W sa { b with tups := y :: b.tups } σ := ⟨G.r.tup y, G.hs, G.ok, G.ik⟩
theorem Qsc {i v x : Int} {ti tv tx : Tok} {f g : BF} {Q : VQ} (G : Good W sa b σ) (hr : Room Ψ.A 3) (cap : Cap σ 1) (hi : 0 ≤ i) (hi2 : i < σ.nv) (kv : Vd σ (i + 1) v) (kx : Vd σ (i + 1) x) (dv : Den σ v f) (dx : Den σ x g)
  (q : ∀ t' b' σ' r, Good W sa b' σ' → Gr σ σ' 1 → Vd σ' i r → Den σ' r (fun a => if a i then g a else f a) → Q (.int r t') vals (mgL b' ++ Rl)) :
  WA Ψ (call (.ref 367) [.ref sa, .int i ti, .int v tv, .int x tx]) Q vals (mgL b ++ Rl) := by
 have ct := cap.t
 refine Qo9 G.r G.hs hr hi hi2 kv.key kx.key (by exact Q6d ct) fun t' b' σ' r fo r' hs' => ?_
 have S := Qlt G.ok hi hi2 kv kx dv dx fo
 exact q t' b' σ' r ⟨r', hs', S.ok, G.ik.ext G.ok S.ext S.ite⟩ ⟨S.ext, S.len, by rw [S.its]; exact Qsy⟩ S.vd S.den
noncomputable def Qc (σ : Sg) (every : Bool) (S : Int → Bool) (kvs : List (Int × Value)) : Prop := ∀ u x, valueAt kvs u = some x → ∃ r t f, x = .int r t ∧ Den σ u f ∧ Den σ r (qf every S f) ∧ ∀ k, Vd σ k u → Vd σ k r
theorem Qc.ext {σ σ' : Sg} {every : Bool} {S : Int → Bool} {kvs : List (Int × Value)} (ok : Ok σ) (e : Ext σ σ') (h : Qc σ every S kvs) : Qc σ' every S kvs := fun u x hx =>
 let ⟨r, t, f, h1, d, d', k⟩ := h u x hx
 ⟨r, t, f, h1, d.ext e, d'.ext e, fun k' hk => (k k' (Vd.back ok e d hk)).ext e⟩
theorem Qnh {every : Bool} {S : Int → Bool} {ord : List Int} {vs : List Value} {n0 ns : Nat} {ov qv ca : Addr} {so : Obj} (hi : IntsAre vs ord) (hso : so.SetObjOf (intKind W.prog W.w) S ns) (hsb : ns < scanBound) (hS : ∀ x, S x = true ↔ x ∈ ord) (hol : ord.length ≤ 1000) (n : Nat) :
  ∀ (N : Nm) (Ψ : Frm hK N W) (vals : Vals) (b : Mg) (σ : Sg) (co : Obj) (kvs : List (Int × Value)) (Rl : Led) (k u : Int) (j : Nat) (tu tj : Tok) (Q : VQ),
  Good W sa b σ → Room Ψ.A (n + 18) → 0 ≤ k → ((σ.nv : Int) - k).toNat ≤ n → Vd σ k u → (ov, listOf vs.toArray n0) ∈ Rl → (qv, so) ∈ Rl → co.IsDictOf (intKind W.prog W.w) kvs → Qc σ every S kvs → j ≤ ord.length → (∀ (idx : Nat) (x : Int), idx < j → ord[idx]? = some x → x < k) →
  Cap σ (64 * 2 ^ n) → kvs.length + 2 ^ n ≤ 16777216 →
  (∀ t' b' σ' r co' kvs', Good W sa b' σ' → Gr σ σ' (64 * 2 ^ n - 64) → Vd σ' k r → (∀ f, Den σ u f → Den σ' r (qf every S f)) → co'.IsDictOf (intKind W.prog W.w) kvs' → Qc σ' every S kvs' → kvs'.length + 1 ≤ kvs.length + 2 ^ n → Q (.int r t') vals (mgL b' ++ (ca, co') :: Rl)) →
  WA Ψ (call (.ref 332) [.ref sa, .int u tu, .int j tj, .ref ov, .ref qv, .bool every, .ref ca]) Q vals (mgL b ++ (ca, co) :: Rl) := by
 induction n using Nat.strongRecOn with
 | ind n ih =>
  intro N Ψ vals b σ co kvs Rl k u j tu tj Q G hr hk0 hn hu hov hqv hco hqc hjl hj cap hz q
  have hp := Qcb n
  refine Qaa (N' := N332) (Qwy _) Qvq hr (binds := [("self", .ref sa), ("u", .int u tu), ("j", .int j tj), ("ordvar", .ref ov), ("qvars", .ref qv), ("forall", .bool every), ("cache", .ref ca)]) (rest := ["i", "v", "w", "n", "p", "q", "r"]) (fun s _ => .of_eq rfl) rfl [some (.ref sa), some (.int u tu), some (.int j tj), some (.ref ov), some (.ref qv), some (.bool every), some (.ref ca), none, none, none, none, none, none, none] rfl ?_
  intro Ψ' he hr'
  have at0 := G.at'
  have hs := G.hs
  have ok := G.ok
  have gr0 : Gr σ σ (64 * 2 ^ n - 64) := (Gr.refl σ).le (Nat.zero_le _)
  dsimp only [fn332, mkFn]
  (ctx_mentions Ua Ya Xf Fb Pa Yo Vb Zh Yu Yc Zj Zr)
  refine Qak (fun h0 => ?_) fun h0 => ?_
  ·have h0' : iabs u = 1 := by simpa using h0
   (ctx_mentions Ua Yb Va Zc Zc)
   refine ⟨_, List.Sublist.refl _, q _ b σ u co kvs G gr0 hu (fun f d => ?_) hco hqc (by exact Qis hp)⟩
   rcases Qbm u with e1 | e1
   ·rw [h0'] at e1; subst e1
    rw [d.one_inv, Qjc]; exact .one
   ·rw [h0'] at e1; subst e1
    obtain ⟨f1, d1, rfl⟩ := Qav (u := 1) (by decide) d
    rw [d1.one_inv, Qjc]; exact .neg (by decide) .one
  have h0' : iabs u ≠ 1 := by simpa using h0
  (ctx_mentions Za Zb Ua Ya Xf Va Va)
  have hcm : (ca, co) ∈ mgL b ++ (ca, co) :: Rl := mr (.head _)
  refine Qh0 (intKind_is _ _ _ _) hcm hco ?_
  cases hat : valueAt kvs u with
  | some x =>
   obtain ⟨rr, tr, f, rfl, df, dr, kk⟩ := hqc u x hat
   (ctx_mentions Zr Mb Ua Yb Yk Va Va)
   refine dTail hcm hco (Qaw (intKind_is _ _ _ _) hcm hco hat ?_) (by with_unfolding_all rfl)
   (ctx_mentions Zc Zc)
   refine ⟨_, List.Sublist.refl _, q _ b σ rr co kvs G gr0 (kk k hu) (fun f' d => ?_) hco hqc (by exact Qis hp)⟩
   rw [d.fn df]; exact dr
  | none =>
   obtain ⟨i', v, x, hnd, hle⟩ : ∃ i' v x, σ.node (iabs u) = some (i', v, x) ∧ k ≤ i' := by
    rcases hu.cases with (e1 | e1) | h
    ·exact absurd (by rw [e1]; decide) h0'
    ·exact absurd (by rw [e1]; decide) h0'
    ·exact h
   have o := ok.nd _ _ _ _ hnd
   have hv0 := o.2.2.2.2.1.ne0
   have hx0 := o.2.2.2.2.2.ne0
   obtain ⟨f, df⟩ := hu.den ok
   obtain ⟨y0, y1, f0, f1, tdef, ky0, ky1, dy0, dy1, ef, hpick⟩ : ∃ (y0 y1 : Int) (f0 f1 : BF) (_ : True), Vd σ (i' + 1) y0 ∧ Vd σ (i' + 1) y1 ∧ Den σ y0 f0 ∧ Den σ y1 f1 ∧ f = (fun a => if a i' then f1 a else f0 a) ∧ ((u < 0 ∧ y0 = -v ∧ y1 = -x) ∨ (0 < u ∧ y0 = v ∧ y1 = x)) := by
    rcases Int.lt_or_gt_of_ne hu.ne0 with h | h
    ·have hn' : σ.node (-u) = some (i', v, x) := by rw [show -u = iabs u by unfold iabs; rw [if_pos h]]; exact hnd
     kcj_m
     obtain ⟨f0, f1, C⟩ := Qe4 ok df (CofR.down h hn')
     kd_p1
     exact ⟨_, _, f0, f1, trivial, C.k0, C.k1, C.d0, C.d1, C.e, .inl ⟨h, rfl, rfl⟩⟩
    ·have hn' : σ.node u = some (i', v, x) := by rw [Qam h] at hnd; exact hnd
     kcj_m
     obtain ⟨f0, f1, C⟩ := Qe4 ok df (CofR.up h hn')
     kd_p1
     exact ⟨_, _, f0, f1, trivial, C.k0, C.k1, C.d0, C.d1, C.e, .inr ⟨h, rfl, rfl⟩⟩
   (ctx_mentions Zr Ma Za Zb Ua)
   refine Mine.L.asT rfl rfl ?_; intro _
   (ctx_mentions Yk Xj Va Ga Fb Pa Yo Vb Zh Yu)
   refine Qcx G.r hnd fun a t1 t2 t3 nq dd sl hm => ?_
   refine R.unp hr'.hh hm rfl rfl ?_
   (ctx_mentions Yw Vc Yw Vc Yw Vc ZG Zb Ua Ya Yh Xi Va Zs Ma Za Zb Ua Ya Yh Xi Va Zs Ma Za Zb Ua Ya Xf Va Yc Zl Zr)
   let J : Vals → Led → Prop := fun vals' l' => Ex2 fun ta tb => vals' = [some (.ref sa), some (.int u tu), some (.int j tj), some (.ref ov), some (.ref qv), some (.bool every), some (.ref ca), some (.int i' t1), some (.int y0 ta), some (.int y1 tb), none, none, none, none] ∧ l' = mgL b ++ (ca, co) :: Rl
   refine Qgz J (Qak (fun h1 => ?_) fun h1 => ?_) ?_
   ·have h1' : u < 0 := by simpa using h1
    rcases hpick with ⟨_, rfl, rfl⟩ | ⟨h, _⟩
    ·(ctx_mentions Ua)
     refine Mine.L.swap2 hr'.hh rfl rfl (by rw [he]; rfl) ?_; intro _
     (ctx_mentions Yf Va Ys Yf Va Ys Vc Vc Zb Za)
     exact ⟨rfl, _, _, rfl, rfl⟩
    ·omega
   ·have h1' : ¬ u < 0 := by simpa using h1
    rcases hpick with ⟨h, _⟩ | ⟨_, rfl, rfl⟩
    ·omega
    ·(ctx_mentions Za)
     exact ⟨rfl, _, _, rfl, rfl⟩
   rintro _ _ ⟨ta, tb, rfl, rfl⟩
   (ctx_mentions Zb Ua Xa Fb Pa Yo Vb Zh)
   have hvl := Qai hi
   refine Qmr (mr (.tail _ hov)) (by exact Q6c hol hvl) fun tn => ?_
   rw [hvl]
   (ctx_mentions Vc Zb Ua ZA)
   let J : Nat → Vals → Led → Prop := fun m vals' l' => Ex3 fun (jj : Nat) (z : Int) (tjj : Tok) => An6 (z = jj) (m = ord.length - jj) (jj ≤ ord.length) ((∀ (idx : Nat) (x : Int), idx < jj → ord[idx]? = some x → x < i')) (l' = mgL b ++ (ca, co) :: Rl) (vals' = [some (.ref sa), some (.int u tu), some (.int z tjj), some (.ref ov), some (.ref qv), some (.bool every), some (.ref ca), some (.int i' t1), some (.int y0 ta), some (.int y1 tb), some (.int ord.length tn), none, none, none])
   refine WC.inv J ?_ (ord.length - j) ⟨j, j, tj, rfl, rfl, hjl, fun idx x h1 h2 => Int.lt_of_lt_of_le (hj idx x h1 h2) hle, rfl, rfl⟩
   rintro m _ _ ⟨jj, _, tjj, rfl, hm', hjj, hlt, rfl, rfl⟩ again
   refine Mine.WC.letV ?_; intro vv
   refine WC.while1 ?_
   (ctx_mentions Xf Va Va Zl Zr)
   refine Qak (fun h2 => ?_) fun h2 => ?_
   ·have h2' : jj < ord.length := by simpa using h2
    (ctx_mentions Ua Ya Xf Yk Va Va)
    obtain ⟨tx, hget⟩ := Qap hi (List.getElem?_eq_getElem h2')
    refine Qal (mr (.tail _ hov)) (by exact Qdc) (by exact Q6b hol h2') (v := .int ord[jj] tx) (by simpa using hget) ?_
    (ctx_mentions Va Zl Zr)
    refine Qak (fun h3 => ?_) fun h3 => ?_
    ·have h3' : ord[jj] < i' := by simpa using h3
     (ctx_mentions Ua La Yc Yt Vc Zb Za Zb Za Zu)
     refine again (ord.length - (jj + 1)) _ _ (by exact Qdy hm' h2') ⟨jj + 1, (jj : Int) + 1, _, by exact Q6a, rfl, by exact Qdg h2', fun idx x q1 q2 => ?_, rfl, rfl⟩
     by_cases hq : idx = jj
     ·subst hq; rw [List.getElem?_eq_getElem h2'] at q2; cases q2; exact h3'
     ·exact hlt idx x (by exact Qug q1 hq) q2
    ·obtain ⟨m1, rfl⟩ : ∃ m1, n = m1 + 1 := ⟨n - 1, by have := o.2.1; exact Qsj hn hle this⟩
     have h2p : 2 ^ (m1 + 1) = 2 * 2 ^ m1 := by rw [Nat.pow_succ]; exact Qrf
     have hp1 := Qcb m1
     have hrm : Room Ψ'.A (m1 + 18) := hr'.less (by exact Q59)
     have hms : ((σ.nv : Int) - (i' + 1)).toNat ≤ m1 := by exact Qrd hle hn
     have capm : Cap σ (64 * 2 ^ m1) := cap.less (by exact Q58 h2p)
     (ctx_mentions Ua ZB ZC ZC Zw Zb Ua Xa Fa Va Ic Vb Vb Vb Vb Vb Vb Zh)
     refine ih m1 (by exact Ql7) _ Ψ' _ b σ co kvs Rl (i' + 1) y0 jj _ _ _ G hrm (by exact Qkk o.1) hms ky0 hov hqv hco hqc hjj (fun idx x q1 q2 => by have := hlt idx x q1 q2; exact Quf this) capm (by exact Qup hz h2p) fun tp b1 σ1 pp co1 kvs1 G1 g1 vp dp hco1 hqc1 lz1 => ?_
     have at1 := G1.at'
     have hs1 := G1.hs
     have e1 := g1.e
     (ctx_mentions Vc Zb Ua Xa Fa Va Ic Vb Vb Vb Vb Vb Vb Zh)
     refine ih m1 (by exact Ql7) _ Ψ' _ b1 σ1 co1 kvs1 Rl (i' + 1) y1 jj _ _ _ G1 hrm (by exact Qkk o.1) (by rw [e1.nv]; exact hms) (ky1.ext e1) hov hqv hco1 hqc1 hjj (fun idx x q1 q2 => by have := hlt idx x q1 q2; exact Quf this) (Qaj (c := 64 * 2 ^ m1 - 64) (cap.less (by exact Q57 h2p)) g1) (by exact Quo hz h2p lz1) fun tq b2 σ2 qq co2 kvs2 G2 g2 vq dq hco2 hqc2 lz2 => ?_
     have at2 := G2.at'
     have hs2 := G2.hs
     have e2 := g2.e
     have e12 := e1.trans e2
     have dp2 := (dp _ dy0).ext e2
     have dq2 := dq _ (dy1.ext e1)
     have vp2 := vp.ext e2
     have in0 : ∀ a bb, f0 (upd a i' bb) = f0 a := fun a bb => dy0.supp1 ok ky0 a bb
     have in1 : ∀ a bb, f1 (upd a i' bb) = f1 a := fun a bb => dy1.supp1 ok ky1 a bb
     have g12 := g1.trans g2
     have cap2 : Cap σ2 64 := Qaj (c := 64 * 2 ^ m1 - 64 + (64 * 2 ^ m1 - 64)) (cap.less (by exact Q56 h2p hp1)) g12
     have hc2 : (ca, co2) ∈ mgL b2 ++ (ca, co2) :: Rl := mr (.head _)
     have fin : ∀ (tr : Tok) (b3 : Mg) (σ3 : Sg) (rr : Int), Good W sa b3 σ3 → Gr σ2 σ3 64 → Vd σ3 i' rr → Den σ3 rr (qf every S f) →
       (∀ co3, co3.IsDictOf (intKind W.prog W.w) (stored kvs2 u (.int rr tr)) → Q (.int rr tr) vals (mgL b3 ++ (ca, co3) :: Rl)) := by
      intro tr b3 σ3 rr G3 g3 v3 d3 co3 hco3
      have e3 := e12.trans g3.e
      refine q tr b3 σ3 rr co3 _ G3 ((g12.trans g3).le (by exact Q55 h2p hp1)) (v3.le hle) (fun f' d' => by rw [d'.fn df]; exact d3) hco3 (fun u' x' hx' => ?_) (by have := Qa6 kvs2 u (.int rr tr); exact Qqt h2p lz1 lz2 this)
      rw [valueAt_stored] at hx'
      split at hx'
      ·rename_i hu'
       subst hu'
       cases hx'
       exact ⟨rr, tr, f, rfl, df.ext e3, d3, fun k' hk' => v3.le (by
        have := Vd.back ok e3 df hk'
        rcases this with ⟨e', _⟩ | ⟨t', e', hk'⟩
        ·exact absurd e' h0'
        ·rw [hnd] at e'; cases e'; exact hk')⟩
      ·kcj_m
       obtain ⟨r', t', f', z1, z2, z3, z4⟩ := (hqc2.ext G2.ok g3.e) u' x' hx'
       kd_p1
       exact ⟨r', t', f', z1, z2, z3, z4⟩
     (ctx_mentions Vc Zb Ua Ya Xf Va Va)
     refine Qmn (mr (.tail _ hqv)) hso hsb ?_
     (ctx_mentions Zr)
     let J : Vals → Led → Prop := fun vals' l' => Ex4 fun tr b3 σ3 rr => An6 (Good W sa b3 σ3) (Gr σ2 σ3 64) (Vd σ3 i' rr) (Den σ3 rr (qf every S f)) (l' = mgL b3 ++ (ca, co2) :: Rl) (vals' = [some (.ref sa), some (.int u tu), some (.int jj tjj), some (.ref ov), some (.ref qv), some (.bool every), some (.ref ca), some (.int i' t1), some (.int y0 ta), some (.int y1 tb), some (.int ord.length tn), some (.int pp tp), some (.int qq tq), some (.int rr tr)])
     refine Qgz J (Qak (fun h4 => ?_) fun h4 => ?_) ?_
     ·have hr16 : Room Ψ'.A 16 := hr'.less (by exact Q54)
      have vpi := vp2.le (show i' ≤ i' + 1 by exact Qyx)
      have vqi := vq.le (show i' ≤ i' + 1 by exact Qyx)
      have hnv := vpi.bound G2.ok
      have hi0 : 0 ≤ i' := by exact Que o.1
      cases every with
      | true =>
       (ctx_mentions Ua Ya Xi Va Zr Mb Ua Xa Fa Va Ic Vb Vb Yl Yf Yc Ys Zh)
       refine Qih G2 hr16 cap2 hi0 vpi vqi (Vd.one hnv).neg dp2 dq2 (Den.not .one) fun tr b3 σ3 rr G3 g3 v3 d3 => ?_
       (ctx_mentions Vc Zb Za Zb Za)
       refine ⟨rfl, tr, b3, σ3, rr, G3, g3, v3, ?_, rfl, rfl⟩
       rw [ef, Qrt h4 in0 in1]
       have ee : (fun a => if qf true S f0 a = true then qf true S f1 a else !true) = fun a => if (true = true) then qf true S f0 a && qf true S f1 a else qf true S f0 a || qf true S f1 a := funext fun a => by cases qf true S f0 a <;> simp
       rw [ee] at d3; exact d3
      | false =>
       (ctx_mentions Ua Ya Xi Va Zr Ma Ua Xa Fa Va Ic Vb Yl Yc Vb Zh)
       refine Qih G2 hr16 cap2 hi0 vpi (Vd.one hnv) vqi dp2 .one dq2 fun tr b3 σ3 rr G3 g3 v3 d3 => ?_
       (ctx_mentions Vc Zb Za Zb Za)
       refine ⟨rfl, tr, b3, σ3, rr, G3, g3, v3, ?_, rfl, rfl⟩
       rw [ef, Qrt h4 in0 in1]
       have ee : (fun a => if qf false S f0 a = true then true else qf false S f1 a) = fun a => if (false = true) then qf false S f0 a && qf false S f1 a else qf false S f0 a || qf false S f1 a := funext fun a => by cases qf false S f0 a <;> simp
       rw [ee] at d3; exact d3
     ·have hr3 : Room Ψ'.A 3 := hr'.less (by exact Q53)
      (ctx_mentions Ua Xa Fa Va Ic Vb Vb Vb Zh)
      refine Qsc G2 hr3 (cap2.less (by kd_p)) (by exact Que o.1) (by rw [e12.nv]; exact o.2.1) vp2 vq dp2 dq2 fun tr b3 σ3 rr G3 g3 v3 d3 => ?_
      (ctx_mentions Vc Zb Za)
      refine ⟨rfl, tr, b3, σ3, rr, G3, g3.le (by kd_p), v3, ?_, rfl, rfl⟩
      rw [ef, Qrs h4]; exact d3
     rintro _ _ ⟨tr, b3, σ3, rr, G3, g3, v3, d3, rfl, rfl⟩
     (ctx_mentions Zb Ua Xc Va Va Va)
     refine Qbh (pre := mgL b3) (post := Rl) (intKind_is _ _ _ _) rfl hco2 (by rw [Qae]; exact Q52 hz h2p lz1 lz2) fun co3 hco3 => ?_
     (ctx_mentions Zb Ua Yb Va Zc)
     exact ⟨_, List.Sublist.refl _, fin tr b3 σ3 rr G3 g3 v3 d3 co3 hco3⟩
   ·have h2' : ¬ jj < ord.length := by simpa using h2
    (ctx_mentions Ua Yb Va Zc Zc)
    refine ⟨_, List.Sublist.refl _, q _ b σ u co kvs G gr0 hu (fun f' d => ?_) hco hqc (by exact Qis hp)⟩
    rw [Qh9]
    ·exact d
    ·intro a a' ha
     refine d.supp ok (k := i') (.inr ⟨_, hnd, Int.le_refl _⟩) _ _ fun l hl => ha l ?_
     cases hSl : S l with
     | false => rfl
     | true =>
      obtain ⟨idx, hix, ei⟩ := List.mem_iff_getElem.mp ((hS l).mp hSl)
      have := hlt idx l (by exact Q51 h2' hix) (by rw [List.getElem?_eq_getElem hix, ei])
      omega
end
end
section
theorem Qec {cm : Str → Option Value} {cs : List (Str × Addr)} {cells : List (Addr × Obj)} (h : CellsAre cm cs cells) : cells.map (·.1) = cs.map (·.2) := by
 induction h with
 | nil => rfl
 | cons _ _ ih => simp [ih]
section
variable {K : Params → Frag} {N : Nm} {W : Wd} {Ψ : Frm K N W} {vals : Vals} {l : Led}
structure FnOkC (K : Frag) (f : Addr) (fd : FuncData) (body : List Stmt) : Prop where
 look : ∃ oc od osl, K.lookup f = some ⟨oc, od, .func fd, osl⟩
 code : codeIn K fd.code fd.qualname = true
 body : fd.body = .stmts body
 glob : fd.globals = mainGlobals
 bi : fd.builtins = builtinsNs
 kind : fd.scope.kind = .function
 co : fd.scope.isCoroutine = false
 gen : fd.scope.isGenerator = false
 clo : fd.closure = []
theorem At.old {s : Shared} (a : At Ψ vals l s) : ∀ x ∈ l, x.1 < s.heap.objs.size := fun x hx => Heap.lt_size (a.N x hx).1
theorem At.back {N' : Nm} {s s₁ s₂ : Shared} {v' : Vals} {l' : Led} {Ψ' : Frm K N' W} (a : At Ψ vals l s) (hB : Ψ'.h = hideAll s.heap (l.map (·.1))) (a' : At Ψ' v' l' s₁)
  (hk : ∀ b o, b ≠ Ψ'.L → s₁.heap.get? b = some o → s₂.heap.get? b = some o) (hL : s.heap.objs.size ≤ Ψ'.L) : At Ψ vals l' s₂ := by
 have nm0 : ∀ b o, Ψ.h.get? b = some o → b ∉ l.map (·.1) := fun b o e q => by
  obtain ⟨p, hp, rfl⟩ := List.mem_map.mp q
  rw [(a.N p hp).2.2] at e; cases e
 have st : ∀ b o, Ψ.h.get? b = some o → Ψ'.h.get? b = some o := fun b o e => by rw [hB]; exact hideAll_get _ (a.F.keep b o e) (nm0 b o e)
 kcj_m
 obtain ⟨oL, es, ep, hLo, hLd, hLk, hLf⟩ := a.F.ns
 kd_p1
 have nL : Ψ.L ∉ l.map (·.1) := fun q => by
  obtain ⟨p, hp, e⟩ := List.mem_map.mp q
  exact (a.N p hp).2.1 e
 have hLg : Ψ'.h.get? Ψ.L = some oL := by rw [hB]; exact hideAll_get (l.map (·.1)) hLo nL
 have ne : ∀ b o, s.heap.get? b = some o → b ≠ Ψ'.L := fun b o e q => by
  have := Heap.lt_size e
  rw [q] at this
  exact absurd this (Nat.not_lt.mpr hL)
 refine ⟨⟨⟨oL, es, ep, hk _ _ (ne _ _ hLo) (a'.F.keep Ψ.L oL hLg), hLd, hLk, hLf⟩, fun b o e => hk _ _ (ne _ _ (a.F.keep b o e)) (a'.F.keep b o (st b o e)), a.F.above⟩, fun p hp => ⟨hk _ _ (a'.N p hp).2.1 (a'.N p hp).1, fun q => ?_, ?_⟩, a'.U, a'.G⟩
 ·have := (a'.N p hp).2.2
  rw [q] at this
  exact absurd (hLg.symm.trans this) (by simp)
 ·cases q : Ψ.h.get? p.1 with
  | none => rfl
  | some o => exact absurd ((st _ _ q).symm.trans (a'.N p hp).2.2) (by simp)
theorem Qcl {f : Addr} {fd : FuncData} {body : List Stmt} {args : List Value} {kw : List (Str × Value)} {binds : List (Str × Value)} {N' : Nm} {n : Nat} {v0 : Vals} {M R : Led} {Q : VQ} (ok : FnOkC (K W.w.params) f fd body) (sc : ScOk fd.scope.names N'.loc N'.glo) (hr : Room Ψ.A (n + 1))
  (hb : ∀ s : Shared, (K W.w.params).In s.heap → BindsTo s fd ⟨args, kw⟩ binds)
  (hkind : ∀ n : Nat, ∀ x ∈ binds, fd.scope.names.lookup x.1 = some .local ∨ (fd.scope.names.lookup x.1 = some .cell ∧ ((cellsFrom n fd.scope.names []).lookup x.1).isSome = true))
  (hnd : ((cellsFrom 0 fd.scope.names []).map (·.1)).Nodup) (hl : bindL (fun x => fd.scope.names.lookup x) binds (fun _ => none) = fr N'.loc v0)
  (h : ∀ (Ψ' : Frm K N' W) (cells : Led), Ψ'.env = callEnvC fd Ψ'.L f → Room Ψ'.A n → CellsAre (bindC (fun x => fd.scope.names.lookup x) binds fun _ => none) (cellsFrom (Ψ'.L + 1) fd.scope.names []) cells →
   WA Ψ' (execs body Ψ'.env) (fun fl _ l' => ∃ l'', l''.Sublist l' ∧ Q (retOf fl) vals l'') v0 (M ++ cells ++ R)) :
  WA Ψ (call (.ref f) args kw) Q vals (M ++ R) := by
 refine Qbd ?_
 intro E s a
 kcj_m
 obtain ⟨oc, od, osl, ho⟩ := ok.look
 kd_p1
 have X := Ψ.X.keeps a.F.keep
 have nm0 : ∀ b o, Ψ.h.get? b = some o → b ∉ (M ++ R).map (·.1) := fun b o e q => by
  obtain ⟨p, hp, rfl⟩ := List.mem_map.mp q
  rw [(a.N p hp).2.2] at e; cases e
 have st : Ψ.h.StaysIn (hideAll s.heap ((M ++ R).map (·.1))) := fun b o e => hideAll_get _ (a.F.keep b o e) (nm0 b o e)
 let Ψ' : Frm K N' W := ⟨hideAll s.heap ((M ++ R).map (·.1)), s.heap.objs.size, Ψ.X.keeps (fun b o e => st b o e), Ψ.T.keeps (fun b o e => st b o e), Ψ.A.deeper (callEnvC fd s.heap.objs.size f), callEnvC fd s.heap.objs.size f, ⟨rfl, ok.kind, ok.glob, ok.bi⟩, sc⟩
 have hlim := Ψ.T.nolimit.keeps a.F.keep
 have h2 : 2 < s.heap.objs.size := by obtain ⟨_, h, _⟩ := hlim; exact h.lt
 refine wpAny_call (codeAny_call_function (by have := hr.d; exact ar6 this) (X _ _ ho) rfl ok.co ok.gen ok.body (codeRec_of X ok.code) (hb s X _ _ _ _ ?_))
 rw [ok.clo]
 refine wpAny_newFunctionEnv_cells ok.kind (hkind _) fun env he s' x => ?_
 have he' : env = callEnvC fd Ψ'.L f := he
 subst he
 refine ⟨hlim.keeps x.toInCall.keep, codeAny_func ?_⟩
 have hns := x.toInCall.ns
 replace hns : s'.heap.Ns Ψ'.L (fr N'.loc v0) := by rw [← hl]; exact hns
 obtain ⟨cells, Nc, Cc⟩ := Cl.news (h₀ := Ψ'.h) (h := s'.heap) (L := Ψ'.L) (cm := bindC (fun x => fd.scope.names.lookup x) binds fun _ => none) (Nat.le_of_eq (hideAll_size _ _)) (cs := cellsFrom (Ψ'.L + 1) fd.scope.names []) fun n c hm =>
  ⟨x.cell n c (lookup_of_mem_nodup (cellsFrom_names fd.scope.names 0 (Ψ'.L + 1) [] [] rfl ▸ hnd) hm), x.above n c hm⟩
 have hab : ∀ q ∈ cells, Ψ'.L < q.1 := fun q hq => by
  have : q.1 ∈ cells.map (·.1) := List.mem_map_of_mem hq
  rw [Qec Cc] at this
  obtain ⟨⟨n, c⟩, hc, e⟩ := List.mem_map.mp this
  have := x.above n c hc
  rw [← e]; exact this
 have hcn : (cells.map (·.1)).Nodup := by
  rw [Qec Cc]
  exact (List.pairwise_map.mpr x.apart)
 have hold : ∀ q ∈ M ++ R, q.1 < Ψ'.L := fun q hq => a.old q hq
 have aN : ∀ q ∈ M ++ R, s'.heap.get? q.1 = some q.2 ∧ q.1 ≠ Ψ'.L ∧ Ψ'.h.get? q.1 = none := fun q hq => ⟨x.toInCall.keep _ _ (a.N q hq).1, Nat.ne_of_lt (hold q hq), hideAll_none _ (List.mem_map_of_mem hq)⟩
 have a' : At Ψ' v0 (M ++ cells ++ R) s' := by
  refine ⟨⟨hns, fun b o e => x.toInCall.keep b o (of_hideAll _ e), Nat.le_of_eq (hideAll_size _ _)⟩, fun q hq => ?_, ?_, fun q hq => ?_⟩
  ·rcases List.mem_append.mp hq with hq | hq
   ·rcases List.mem_append.mp hq with hq | hq
    ·exact aN q (List.mem_append_left _ hq)
    ·exact Nc q hq
   ·exact aN q (mr hq)
  ·have hU := a.U
   have hp : ((M ++ cells ++ R).map (·.1)).Perm (cells.map (·.1) ++ (M ++ R).map (·.1)) := by
    rw [← List.map_append]
    refine List.Perm.map _ ?_
    rw [← List.append_assoc]
    exact List.Perm.append_right R List.perm_append_comm
   rw [hp.nodup_iff, List.nodup_append]
   refine ⟨hcn, hU, fun u hu v hv e => ?_⟩
   obtain ⟨q, hq, rfl⟩ := List.mem_map.mp hu
   obtain ⟨q', hq', rfl⟩ := List.mem_map.mp hv
   have h1 := hab q hq
   have h2 := hold q' hq'
   rw [e] at h1
   exact absurd h1 (Nat.not_lt.mpr (Nat.le_of_lt h2))
  ·have hq' : q ∈ M ++ R ∨ q ∈ cells := by
    simp only [List.mem_append] at hq ⊢
    rcases hq with (h | h) | h
    ·exact .inl (.inl h)
    ·exact .inr h
    ·exact .inl (.inr h)
   rcases hq' with h | h
   ·exact a.G q h
   ·exact Nat.lt_trans h2 (hab q h)
 kcj_m
 obtain ⟨_, _, esame⟩ := x.toInCall.same
 kd_p1
 have S0 : Same s s' := by rw [esame]; exact ⟨rfl, rfl⟩
 refine (h Ψ' cells rfl hr.deeper Cc).use a' fun fl s'' v' l' S a'' q => ⟨S0.trans S, vals, l', At.back (Ψ' := Ψ') a rfl a'' (fun b o _ e => e) (Nat.le_refl _), ?_⟩
 cases fl <;> exact q
theorem Qao {x : Str} {pos : Pos} {c : Addr} {o : Obj} {v : Value} {Q : VQ} (hk : Ψ.env.scope.kind = .function) (hl : Ψ.env.kindOf x = some .cell) (hc : Ψ.env.cells.lookup x = some c) (hm : (c, o) ∈ l) (hd : o.data = .cell (some v))
  (hdb : (x == ("__debug__" : Str)) = false) (q : Q v vals l) : WA Ψ (eval (.Name x pos) Ψ.env) Q vals l := fun _ s a =>
 wpAny_Name (wpAny_loadName_cell hk hl hc ⟨o, (a.N _ hm).1, hd⟩ ⟨Same.refl s, vals, l, a, q⟩) hdb
theorem Qgy {e : Expr} {scope : Scope} {pos : Pos} {newAcc first : Sem Value} {g : Comprehension} {gs : List Comprehension} {cl : List (Str × Addr)} {N' : Nm} {Q : VQ}
  (hcl : clausesOf e = g :: gs) (hs : ∀ x, foldedSetIterable g.iter Ψ.env x = Pure.pure x) (hclos : closureFor scope Ψ.env = Pure.pure cl) (hkind : scope.kind = .function) (hcell : ∀ y ∈ scope.names, y.2 ≠ .cell)
  (hnames : ∀ y ∈ scope.names, y.2 = .local → scope.names.lookup y.1 = some .local) (sc : ScOk (relabel scope Ψ.env).names N'.loc N'.glo)
  (h : WA Ψ first (fun xv vals l => WA Ψ (pyIter xv) (fun it vals l => WA Ψ newAcc (fun acc vals l => ∀ Ψ' : Frm K N' W, Ψ'.env = compEnvC scope cl Ψ'.L Ψ.env → Ψ'.A = Ψ.A →
   WC Ψ' (.compStart e 0 it acc Ψ'.env) (fun _ _ l' => ∃ l'', l''.Sublist l' ∧ Q acc vals l'') (List.replicate N'.loc.length none) l) vals l) vals l) vals l) :
  WA Ψ (comprehension e scope Ψ.env pos newAcc false first none) Q vals l := by
 refine Qbd ?_
 intro E s a
 refine wpAny_comprehension_free (use := none) hcl hs hclos hkind hnames ?_
 refine h.use a fun xv s₁ v1 l1 S1 a1 h1 => h1.use a1 fun it s₂ v2 l2 S2 a2 h2 => h2.use a2 fun acc s₃ v3 l3 S3 a3 h3 => ?_
 refine wpAny_newFunctionEnv hcell (by intro y hy; simp at hy) (fun h₁ hns₁ hsb₁ => ?_) hkind
 dsimp only at hns₁ hsb₁ ⊢
 have nm0 : ∀ b o, Ψ.h.get? b = some o → b ∉ l3.map (·.1) := fun b o e q => by
  obtain ⟨p, hp, rfl⟩ := List.mem_map.mp q
  rw [(a3.N p hp).2.2] at e; cases e
 have st : Ψ.h.StaysIn (hideAll s₃.heap (l3.map (·.1))) := fun b o e => hideAll_get _ (a3.F.keep b o e) (nm0 b o e)
 let Ψ' : Frm K N' W := ⟨hideAll s₃.heap (l3.map (·.1)), s₃.heap.objs.size, Ψ.X.keeps (fun b o e => st b o e), Ψ.T.keeps (fun b o e => st b o e), Ψ.A, compEnvC scope cl s₃.heap.objs.size Ψ.env, ⟨rfl, hkind, Ψ.e.glob, Ψ.e.bi⟩, sc⟩
 have hold : ∀ b o, s₃.heap.get? b = some o → h₁.get? b = some o := fun b o e => hsb₁.extBut b o (Nat.ne_of_lt (Heap.lt_size e)) (Heap.get?_push_of_some _ e)
 have hns : h₁.Ns Ψ'.L (fr N'.loc (List.replicate N'.loc.length none)) := by
  have : fr N'.loc (List.replicate N'.loc.length none) = fun x => ([] : List (Str × Value)).reverse.lookup x := funext fun x => Qdt _ _ _
  rw [this]; exact hns₁
 have a' : At Ψ' (List.replicate N'.loc.length none) l3 { s₃ with heap := h₁, toks := s₃.toks + 0 } :=
  ⟨⟨hns, fun b o e => hold b o (of_hideAll _ e), Nat.le_of_eq (hideAll_size _ _)⟩,
   fun q hq => ⟨hold _ _ (a3.N q hq).1, Nat.ne_of_lt (Heap.lt_size (a3.N q hq).1), hideAll_none _ (List.mem_map_of_mem hq)⟩, a3.U, a3.G⟩
 refine h3 Ψ' rfl rfl _ _ a' fun f s' v' l' S a'' ⟨l'', sl, q⟩ => ?_
 exact ⟨_, a''.F.ns, fun h' hsb => ⟨((S1.trans S2).trans S3).trans ⟨S.1, S.2⟩, v3, l', At.back (Ψ' := Ψ') a3 rfl a'' (fun b o hb e => hsb.extBut b o hb e) (Nat.le_refl _), l'', sl, q⟩⟩
end
end
section
section
variable {K : Params → Frag} {N : Nm} {W : Wd} {Ψ : Frm K N W} {vals : Vals} {l : Led}
theorem Qmh {elt target iter : Expr} {ifs : List Expr} {scope : Scope} {pos : Pos} {it acc : Value} {Q : FQ}
  (h0 : WC Ψ (.compLoop (.ListComp elt [⟨target, iter, ifs, 0⟩] scope pos) 0 it acc Ψ.env) Q vals l)
  (h : WA Ψ (pyIter it) (fun it' vals l => WC Ψ (.compLoop (.ListComp elt [⟨target, iter, ifs, 0⟩] scope pos) 0 it' acc Ψ.env) Q vals l) vals l) :
  WC Ψ (.compStart (.ListComp elt [⟨target, iter, ifs, 0⟩] scope pos) 0 it acc Ψ.env) Q vals l := fun R s a k =>
 codeAny_compStart_list (h0 R s a k) (h.use a fun it' s' v' l' S a' h' => h' R s' a' fun f s'' v'' l'' S' a'' q => k f s'' v'' l'' (S.trans S') a'' q)
theorem Qhj {elt target iter : Expr} {ifs : List Expr} {scope : Scope} {pos : Pos} {it acc : Value} {Q : FQ}
  (h0 : WC Ψ (.compLoop (.SetComp elt [⟨target, iter, ifs, 0⟩] scope pos) 0 it acc Ψ.env) Q vals l)
  (h : WA Ψ (pyIter it) (fun it' vals l => WC Ψ (.compLoop (.SetComp elt [⟨target, iter, ifs, 0⟩] scope pos) 0 it' acc Ψ.env) Q vals l) vals l) :
  WC Ψ (.compStart (.SetComp elt [⟨target, iter, ifs, 0⟩] scope pos) 0 it acc Ψ.env) Q vals l := fun R s a k => by
 have h0' := h0 R s a k
 have h' := h.use (P := fun it' s' => codeAny (model W.prog W.w) Ψ.A (.compLoop (.SetComp elt [⟨target, iter, ifs, 0⟩] scope pos) 0 it' acc Ψ.env) R s') (E := notedBy (model W.prog W.w) Ψ.A Ψ.env fun x s' => R (.error x) s') a
  fun it' s' v' l' S a' h' => h' R s' a' fun f s'' v'' l'' S' a'' q => k f s'' v'' l'' (S.trans S') a'' q
 refine codeAny_of_tree ?_
 show wpAny _ _ ((compStart (.SetComp elt [⟨target, iter, ifs, 0⟩] scope pos) 0 it acc Ψ.env).onRaise (fun x => do noteFrame x Ψ.env; PySem.standAt theWindowsPlace)) _ _ s
 refine wpAny_notedAt ?_
 unfold compStart
 show wpAny _ _ (ask >>= _) _ _ s
 refine wpAny_bind (wpAny_askSetting (wpAny_ite ?_))
 split
 ·first
   | exact wpAny_bind (wpAny_pure (wpAny_pure (And.intro rfl h0')))
   | exact wpAny_pure (And.intro rfl h0')
 ·first
   | exact wpAny_bind (wpAny_rule (wpAny_bind (wpAny_standAt (wpAny_bind (wpAny_mono h' (fun it' s' h' => wpAny_pure (And.intro rfl h')) fun _ _ x => x)))))
   | (refine wpAny_bind (wpAny_rule ?_); show wpAny _ _ (PySem.standAt iter.pos >>= _) _ _ s; exact wpAny_bind (wpAny_standAt (wpAny_bind (wpAny_mono h' (fun it' s' h' => wpAny_pure (And.intro rfl h')) fun _ _ x => x))))
theorem Qhf (elt target iter : Expr) (scope : Scope) (pos : Pos) (it acc : Value) (env : Env) :
  compTurn (.SetComp elt [⟨target, iter, [], 0⟩] scope pos) 0 it acc env = (PySem.standAt iter.pos >>= fun _ => pyNext it >>= fun r => match r with
   | none => Pure.pure (.done .next)
   | some v => letOwnedTupleGo target it v >>= fun _ => assign target env v >>= fun _ =>
    (eval elt env >>= fun x => PySem.standAt elt.pos >>= fun _ => call (.builtin "set.add") [acc, x] >>= fun _ => Pure.pure ()) >>= fun _ =>
     again (.compLoop (.SetComp elt [⟨target, iter, [], 0⟩] scope pos) 0 it acc env)) := by rfl
theorem Qgs {elt target iter : Expr} {scope : Scope} {pos : Pos} {it acc : Value} {Q : FQ}
  (h : WA Ψ (pyNext it) (fun r vals l => match r with
   | none => Q .next vals l
   | some v => WA Ψ (letOwnedTupleGo target it v) (fun _ vals l => WA Ψ (assign target Ψ.env v) (fun _ vals l => WA Ψ (eval elt Ψ.env) (fun x vals l => WA Ψ (call (.builtin "set.add") [acc, x]) (fun _ vals l =>
     WC Ψ (.compLoop (.SetComp elt [⟨target, iter, [], 0⟩] scope pos) 0 it acc Ψ.env) Q vals l) vals l) vals l) vals l) vals l) vals l) :
  WC Ψ (.compLoop (.SetComp elt [⟨target, iter, [], 0⟩] scope pos) 0 it acc Ψ.env) Q vals l := by
 intro R s a k
 refine codeAny_of_tree ?_
 show wpAny _ Ψ.A ((compTurn (.SetComp elt [⟨target, iter, [], 0⟩] scope pos) 0 it acc Ψ.env).onRaise (fun x => do noteFrame x Ψ.env; theTreesLotGoes x)) _ _ s
 refine wpAny_noted ?_
 rw [Qhf]
 refine wpAny_bind (wpAny_standAt (wpAny_bind (h.use a fun r s₁ v1 l1 S1 a1 h1 => ?_)))
 cases r with
 | none => exact wpAny_pure (k _ _ _ _ S1 a1 h1)
 | some v =>
  refine wpAny_bind (h1.use a1 fun _ s₂ v2 l2 S2 a2 h2 => wpAny_bind (h2.use a2 fun _ s₃ v3 l3 S3 a3 h3 => ?_))
  refine wpAny_bind (wpAny_bind (h3.use a3 fun y s₄ v4 l4 S4 a4 h4 => wpAny_bind (wpAny_standAt (wpAny_bind (h4.use a4 fun _ s₅ v5 l5 S5 a5 h5 => wpAny_pure (wpAny_pure ?_))))))
  exact ⟨rfl, h5 R s₅ a5 fun f s' v'' l'' S' a'' q => k f s' v'' l'' (((((S1.trans S2).trans S3).trans S4).trans S5).trans S') a'' q⟩
theorem Qok {elt target iter c : Expr} {scope : Scope} {pos : Pos} {it acc : Value} {Q : FQ}
  (h : WA Ψ (pyNext it) (fun r vals l => match r with
   | none => Q .next vals l
   | some v => WA Ψ (letOwnedTupleGo target it v) (fun _ vals l => WA Ψ (assign target Ψ.env v) (fun _ vals l => WA Ψ (isTrue c Ψ.env (eval c Ψ.env)) (fun b vals l => if b = true then WA Ψ (eval elt Ψ.env) (fun x vals l => WA Ψ (call (.builtin "list.append") [acc, x]) (fun _ vals l =>
     WC Ψ (.compLoop (.ListComp elt [⟨target, iter, [c], 0⟩] scope pos) 0 it acc Ψ.env) Q vals l) vals l) vals l else WC Ψ (.compLoop (.ListComp elt [⟨target, iter, [c], 0⟩] scope pos) 0 it acc Ψ.env) Q vals l) vals l) vals l) vals l) vals l) :
  WC Ψ (.compLoop (.ListComp elt [⟨target, iter, [c], 0⟩] scope pos) 0 it acc Ψ.env) Q vals l := by
 intro R s a k
 refine codeAny_of_tree ?_
 show wpAny _ Ψ.A ((compTurn (.ListComp elt [⟨target, iter, [c], 0⟩] scope pos) 0 it acc Ψ.env).onRaise (fun x => do noteFrame x Ψ.env; theTreesLotGoes x)) _ _ s
 refine wpAny_noted ?_
 rw [compTurn_list]
 refine wpAny_bind (wpAny_standAt (wpAny_bind (h.use a fun r s₁ v1 l1 S1 a1 h1 => ?_)))
 cases r with
 | none => exact wpAny_pure (k _ _ _ _ S1 a1 h1)
 | some v =>
  refine wpAny_bind (h1.use a1 fun _ s₂ v2 l2 S2 a2 h2 => wpAny_bind (h2.use a2 fun _ s₃ v3 l3 S3 a3 h3 => ?_))
  refine wpAny_bind (wpAny_tests_one (h3.use a3 fun b s₄ v4 l4 S4 a4 h4 => ?_))
  cases b with
  | false =>
   simp only [Bool.false_eq_true, if_false] at h4
   exact wpAny_pure ⟨rfl, h4 R s₄ a4 fun f s' v'' l'' S' a'' q => k f s' v'' l'' ((((S1.trans S2).trans S3).trans S4).trans S') a'' q⟩
  | true =>
   simp only [if_true] at h4
   refine wpAny_bind (wpAny_bind (h4.use a4 fun y s₅ v5 l5 S5 a5 h5 => wpAny_bind (h5.use a5 fun _ s₆ v6 l6 S6 a6 h6 => wpAny_pure (wpAny_pure ?_))))
   exact ⟨rfl, h6 R s₆ a6 fun f s' v'' l'' S' a'' q => k f s' v'' l'' ((((((S1.trans S2).trans S3).trans S4).trans S5).trans S6).trans S') a'' q⟩
theorem Qf4 {elt iter : Expr} {x : Str} {px pos : Pos} {scope : Scope} {cl : List (Str × Addr)} {Q : VQ} (hclos : closureFor scope Ψ.env = Pure.pure cl) (hkind : scope.kind = .function) (hcell : ∀ y ∈ scope.names, y.2 ≠ .cell)
  (hnames : ∀ y ∈ scope.names, y.2 = .local → scope.names.lookup y.1 = some .local) (sc : ScOk (relabel scope Ψ.env).names [x] [])
  (h : WA Ψ (eval iter Ψ.env) (fun xv vals l => WA Ψ (pyIter xv) (fun it vals l => WA Ψ (newSet (.type "set")) (fun acc vals l => ∀ Ψ' : Frm K ⟨[x], []⟩ W, Ψ'.env = compEnvC scope cl Ψ'.L Ψ.env → Ψ'.A = Ψ.A →
   (WC Ψ' (.compLoop (.SetComp elt [⟨.Name x px, iter, [], 0⟩] scope pos) 0 it acc Ψ'.env) (fun _ _ l' => ∃ l'', l''.Sublist l' ∧ Q acc vals l'') [none] l ∧
   WA Ψ' (pyIter it) (fun it' vals' l' => it' = it ∧ vals' = [none] ∧ l' = l) [none] l)) vals l) vals l) vals l)
  (hs : ∀ x, foldedSetIterable iter Ψ.env x = Pure.pure x := by intro _; rfl) :
  WA Ψ (eval (.SetComp elt [⟨.Name x px, iter, [], 0⟩] scope pos) Ψ.env) Q vals l := by
 show WA Ψ (comprehension (.SetComp elt [⟨.Name x px, iter, [], 0⟩] scope pos) scope Ψ.env iter.pos (newSet (.type "set")) false (eval iter Ψ.env) none) Q vals l
 refine Qgy (N' := ⟨[x], []⟩) rfl hs hclos hkind hcell hnames sc ?_
 refine h.mono fun xv _ _ h1 => h1.mono fun it _ _ h2 => h2.mono fun acc _ _ h3 Ψ' e' a' => ?_
 obtain ⟨h4, h5⟩ := h3 Ψ' e' a'
 exact Qhj h4 (h5.mono fun it' _ _ ⟨a, b, c⟩ => by subst a b c; exact h4)
end
end
section
noncomputable abbrev byT (w : World) : Bool := w.params.followText "set-order"
noncomputable def ordOf (w : World) (a : Addr) (es : Array (Int × Value)) (ep : Nat) : Array (Int × Value) := if byT w then pickOrder (w.params.setOrder a ep) es else es
noncomputable def slotAt (t : SetTable) : Nat → Nat
 | 0 => 0
 | i + 1 => t.place.getD i 0 + 1
noncomputable def slotW (w : World) (t : SetTable) (i : Nat) : Nat := if byT w then 0 else slotAt t i
structure SetW (w : World) (o : Obj) (es : Array (Int × Value)) (ep : Nat) (t : SetTable) : Prop where
 ex : o.ExactSet
 data : o.data = .set es ep t
 fits : t.fits es.size = true
 led : es.isEmpty = false → t.led = !(byT w)
 plain : t.plain = true
 rise : ∀ i, i ≤ es.size → SetTable.below t.place (slotAt t i) = i
noncomputable abbrev setItObj (a : Addr) (slot i n ep : Nat) : Obj := { cls := .type "set_iterator", data := .fields #[rawInt slot, rawInt i, .ref a, rawInt n, rawInt ep] }
section
variable {prog : Program} {w : World} {A : Around} {E : Value → Shared → Prop} {s : Shared} {a it : Addr} {o : Obj} {es : Array (Int × Value)} {ep : Nat} {t : SetTable}
theorem SetW.typeIs (S : SetW w o es ep t) (ho : s.heap.get? a = some o) : s.TypeIs (.ref a) "set" := ⟨o, ho, S.ex.1⟩
theorem Qh1 (S : SetW w o es ep t) (ho : s.heap.get? a = some o) {Q : Bool → Shared → Prop} (q : Q false s) : wpAny (model prog w) A (setDrawn a) Q E s := by
 unfold setDrawn setsByText
 refine wpAny_bind (wpAny_setState_of ho S.data S.fits ?_)
 refine wpAny_bind (wpAny_bind (wpAny_askSetting (wpAny_pure ?_)))
 refine wpAny_pure ?_
 have : ((!w.params.followText "set-order") && (!t.plain && decide (es.size > 1))) = false := by rw [S.plain]; simp
 show Q ((!w.params.followText "set-order") && (!t.plain && decide (es.size > 1))) s
 rw [this]; exact q
theorem Qj4 (S : SetW w o es ep t) : t.place.size = es.size := by
 have := S.fits
 simp only [SetTable.fits, Bool.and_eq_true, beq_iff_eq] at this
 exact this.1
theorem Qcq (S : SetW w o es ep t) (ho : s.heap.get? a = some o) {i : Nat} {e : Int × Value} (hi : i < es.size) (he : (ordOf w a es ep)[i]? = some e) {Q : Option (Value × Nat) → Shared → Prop} (q : Q (some (e.2, slotW w t (i + 1))) s) : wpAny (model prog w) A (setNext a (slotW w t i) i ep) Q E s := by
 unfold setNext setsByText
 refine wpAny_bind (wpAny_setState_of ho S.data S.fits ?_)
 dsimp only
 refine wpAny_bind (wpAny_bind (wpAny_askSetting (wpAny_pure ?_)))
 dsimp only
 by_cases hb : byT w = true
 ·have hb' : (model prog w).w.params.followText "set-order" = true := hb
  refine Qb0 (hb') ?_
  refine Qa1 (by simp) ?_
  refine wpAny_bind ?_
  unfold setWalk setsByText
  refine wpAny_bind (wpAny_setState_of ho S.data S.fits ?_)
  dsimp only
  refine wpAny_bind (wpAny_bind (wpAny_askSetting (wpAny_pure ?_)))
  refine Qb0 (hb') ?_
  refine wpAny_bind (wpAny_askSetting (wpAny_pure (wpAny_pure ?_)))
  unfold ordOf at he
  rw [if_pos hb] at he
  unfold slotW at q ⊢
  rw [if_pos hb] at q ⊢
  show Q (((pickOrder (w.params.setOrder a ep) es)[i]?).map fun e => (e.2, 0)) s
  rw [he]; exact q
 ·have hb' : ¬ (model prog w).w.params.followText "set-order" = true := hb
  refine Qa1 (hb') ?_
  have hd : (!t.plain && decide (es.size > 1)) = false := by rw [S.plain]; rfl
  show wpAny (model prog w) A (if (!t.plain && decide (es.size > 1)) = true then _ else _) Q E s
  refine Qa1 ((by rw [hd]; exact Bool.false_ne_true)) ?_
  have hl : (!t.led && !es.isEmpty) = false := by
   cases hE : es.isEmpty with
   | true => simp
   | false => rw [S.led hE]; simp only [Bool.not_eq_true] at hb; rw [hb]; rfl
  show wpAny (model prog w) A ((if (!t.led && !es.isEmpty) = true then unsupported "set:maker-not-led" else Pure.pure ()) >>= _) Q E s
  rw [if_neg (by rw [hl]; exact Bool.false_ne_true)]
  refine wpAny_bind (wpAny_pure (wpAny_pure ?_))
  unfold ordOf at he
  rw [if_neg hb] at he
  unfold slotW at q ⊢
  rw [if_neg hb] at q ⊢
  have hr := S.rise i (Nat.le_of_lt hi)
  rw [hr, he]
  have hp : t.place[i]? = some (t.place.getD i 0) := by
   have hi' : i < t.place.size := by rw [Qj4 S]; exact hi
   rw [Array.getD_eq_getD_getElem?, Array.getElem?_eq_getElem hi']; rfl
  rw [hp]
  exact q
theorem Qet (S : SetW w o es ep t) (ho : s.heap.get? a = some o) (hz : (ordOf w a es ep).size = es.size) {Q : Option (Value × Nat) → Shared → Prop} (q : Q none s) : wpAny (model prog w) A (setNext a (slotW w t es.size) es.size ep) Q E s := by
 unfold setNext setsByText
 refine wpAny_bind (wpAny_setState_of ho S.data S.fits ?_)
 dsimp only
 refine wpAny_bind (wpAny_bind (wpAny_askSetting (wpAny_pure ?_)))
 dsimp only
 by_cases hb : byT w = true
 ·have hb' : (model prog w).w.params.followText "set-order" = true := hb
  refine Qb0 (hb') ?_
  refine Qa1 (by simp) ?_
  refine wpAny_bind ?_
  unfold setWalk setsByText
  refine wpAny_bind (wpAny_setState_of ho S.data S.fits ?_)
  dsimp only
  refine wpAny_bind (wpAny_bind (wpAny_askSetting (wpAny_pure ?_)))
  refine Qb0 (hb') ?_
  refine wpAny_bind (wpAny_askSetting (wpAny_pure (wpAny_pure ?_)))
  unfold ordOf at hz
  rw [if_pos hb] at hz
  have : (pickOrder (w.params.setOrder a ep) es)[es.size]? = none := by rw [Array.getElem?_eq_none]; exact Qgr hz
  show Q (((pickOrder (w.params.setOrder a ep) es)[es.size]?).map fun e => (e.2, _)) s
  rw [this]; exact q
 ·have hb' : ¬ (model prog w).w.params.followText "set-order" = true := hb
  refine Qa1 (hb') ?_
  have hd : (!t.plain && decide (es.size > 1)) = false := by rw [S.plain]; rfl
  show wpAny (model prog w) A (if (!t.plain && decide (es.size > 1)) = true then _ else _) Q E s
  refine Qa1 ((by rw [hd]; exact Bool.false_ne_true)) ?_
  have hl : (!t.led && !es.isEmpty) = false := by
   cases hE : es.isEmpty with
   | true => simp
   | false => rw [S.led hE]; simp only [Bool.not_eq_true] at hb; rw [hb]; rfl
  show wpAny (model prog w) A ((if (!t.led && !es.isEmpty) = true then unsupported "set:maker-not-led" else Pure.pure ()) >>= _) Q E s
  rw [if_neg (by rw [hl]; exact Bool.false_ne_true)]
  refine wpAny_bind (wpAny_pure (wpAny_pure ?_))
  have hr := S.rise es.size (Nat.le_refl _)
  unfold slotW
  rw [if_neg hb]
  rw [hr]
  have : es[es.size]? = none := by simp
  rw [this]
  exact q
theorem Qb9 (S : SetW w o es ep t) (ho : s.heap.get? a = some o) {Q : Value → Shared → Prop} (q : Q (.ref s.heap.objs.size) { s with heap := s.heap.push (setItObj a (slotW w t 0) 0 es.size ep) }) : wpAny (model prog w) A (pyIter (.ref a)) Q E s := by
 have hT := S.typeIs ho
 refine wpAny_pyIter_slot hT PySem.F.slot_set_iter (wpAny_call_entry PySem.F.slot_set_iter hT Qfq ?_ (PySem.F.args_set_iter_1 _))
 unfold Builtin.«frozenset.__iter__» Builtin.Frozenset.slot0 slotArgs
 simp only [List.isEmpty_nil, Bool.not_true, Bool.false_eq_true, ↓reduceIte, bind_assoc, List.length_nil, bne_self_eq_false]
 unfold Builtin.Frozenset.addrOf Builtin.Frozenset.sizeOf
 refine wpAny_bind (wpAny_pure ?_)
 try dsimp only
 refine wpAny_bind (wpAny_pure ?_)
 try dsimp only
 refine wpAny_bind ?_
 refine wpAny_bind (wpAny_setEntries_of ho S.data S.fits (wpAny_pure ?_))
 refine wpAny_bind (Qh1 S ho ?_)
 refine Qa1 (by simp) ?_
 refine wpAny_bind (wpAny_pure ?_)
 refine wpAny_bind (wpAny_setEpoch_of ho S.data S.fits ?_)
 unfold newFields
 refine wpAny_bind (wpAny_newObj_type (wpAny_pure ⟨_, rfl, "set_iterator", _, ⟨_, Heap.get?_push_size _ rfl, rfl⟩, slot_set_iterator_next.lookup, ?_⟩))
 have : slotW w t 0 = 0 := by unfold slotW slotAt; split <;> rfl
 rw [this] at q
 exact q
theorem Qcr {slot i n : Nat} (ho : s.heap.get? it = some (setItObj a slot i n ep)) {Q : Value → Shared → Prop} (q : Q (.ref it) s) : wpAny (model prog w) A (pyIter (.ref it)) Q E s := by
 have hT : s.TypeIs (.ref it) "set_iterator" := ⟨_, ho, rfl⟩
 refine wpAny_pyIter_slot hT Qba (wpAny_call_entry Qba hT Qcf ?_ (Qb6 _))
 show wpAny _ _ (ret (.ref it)) _ _ s
 exact wpAny_pure ⟨_, rfl, "set_iterator", _, hT, slot_set_iterator_next.lookup, q⟩
theorem Qcn (S : SetW w o es ep t) (ho : s.heap.get? a = some o) {i : Nat} {e : Int × Value} (hi : i < es.size) (he : (ordOf w a es ep)[i]? = some e) (hit : s.heap.get? it = some (setItObj a (slotW w t i) i es.size ep)) (hne : a ≠ it) {Q : Option Value → Shared → Prop}
  (q : ∀ h', h'.get? it = some (setItObj a (slotW w t (i + 1)) (i + 1) es.size ep) → Heap.SameBut it s.heap h' → Q (some e.2) { s with heap := h' }) : wpAny (model prog w) A (pyNext (.ref it)) Q E s := by
 have hT : s.TypeIs (.ref it) "set_iterator" := ⟨_, hit, rfl⟩
 unfold pyNext
 refine wpAny_bind (wpAny_attempt (wpAny_callSpecial?_slot (name := Str.ofString "__next__") hT slot_set_iterator_next
  (wpAny_call_entry slot_set_iterator_next hT Qas ?_ (Qaq _))))
 unfold Builtin.«set_iterator.__next__»
 refine wpAny_bind (wpAny_of_eq (a := (Value.ref it, [])) rfl ?_)
 refine wpAny_bind (wpAny_fieldsOf hit rfl ?_)
 refine wpAny_bind (wpAny_setEntries_of ho S.data S.fits ?_)
 refine Qa1 (by simp) ?_
 refine wpAny_bind (Qcq S ho hi he ?_)
 refine wpAny_bind (wpAny_setField_rec hit (by simp) fun h1 hit1 hs1 => ?_)
 refine wpAny_bind (wpAny_setField_rec hit1 (by simp) fun h2 hit2 hs2 => ?_)
 refine wpAny_pure ⟨_, rfl, ?_⟩
 exact wpAny_pure (q h2 hit2 (hs1.trans hs2))
theorem Qco (S : SetW w o es ep t) (ho : s.heap.get? a = some o) (hh : A.handled = none) (hz : (ordOf w a es ep).size = es.size) (hit : s.heap.get? it = some (setItObj a (slotW w t es.size) es.size es.size ep)) (hne : a ≠ it) {Q : Option Value → Shared → Prop}
  (q : ∀ h' o', h'.get? it = some o' → Heap.ExtBut it s.heap h' → Q none { s with heap := h' }) : wpAny (model prog w) A (pyNext (.ref it)) Q E s := by
 have hT : s.TypeIs (.ref it) "set_iterator" := ⟨_, hit, rfl⟩
 unfold pyNext
 refine wpAny_bind (wpAny_attempt (wpAny_callSpecial?_slot (name := Str.ofString "__next__") hT slot_set_iterator_next
  (wpAny_call_entry slot_set_iterator_next hT Qas ?_ (Qaq _))))
 unfold Builtin.«set_iterator.__next__»
 refine wpAny_bind (wpAny_of_eq (a := (Value.ref it, [])) rfl ?_)
 refine wpAny_bind (wpAny_fieldsOf hit rfl ?_)
 refine wpAny_bind (wpAny_setEntries_of ho S.data S.fits ?_)
 refine Qa1 (by simp) ?_
 refine wpAny_bind (Qet S ho hz ?_)
 refine wpAny_bind (wpAny_setField_rec hit (by simp) fun h1 hit1 hs1 => ?_)
 refine wpAny_bind ?_
 show wpAny _ _ (newExc (.type "StopIteration") []) _ _ _
 simp only [newExc, newTuple]
 refine wpAny_bind (wpAny_newObj_type ?_ (by size_fits))
 refine wpAny_bind (m := firstArgMember _ _) (wpAny_of_eq (a := Value.none) (by first | rfl | (simp only [firstArgMember]; rfl)) ?_)
 refine wpAny_newObj_type ?_ (by size_fits)
 simp only [raiseNew]
 refine wpAny_bind (wpAny_handled ?_)
 first | rw [show A.in1.handled = none from hh] | rw [hh]
 refine wpAny_bind (wpAny_pure (wpAny_throw ?_))
 refine wpAny_bind (wpAny_isInstance (T := "StopIteration") (b := true) ⟨_, Heap.get?_push_size _ rfl, rfl⟩ isSubtype_stop ?_)
 exact wpAny_pure (q _ _ (Heap.get?_push_of_some _ (Heap.get?_push_of_some _ hit1)) (((hs1.extBut).push _).push _))
end
theorem Qay {α : Type} : ∀ {l : List α} {i : Nat} (h : i < l.length), ([l[i]] ++ l.eraseIdx i).Perm l
 | [], i, h => absurd h (Nat.not_lt_zero _)
 | x :: l, 0, h => by simp
 | x :: l, i + 1, h => by
  have ih := Qay (l := l) (i := i) (by simpa using h)
  simp only [List.getElem_cons_succ, List.eraseIdx_cons_succ, List.singleton_append] at ih ⊢
  exact (List.Perm.swap _ _ _).trans (ih.cons x)
theorem Qeb {α : Type} (next : Nat → Nat) : ∀ (n k : Nat) (left : List α) (out : Array α), left.length = n → (pickOrder.go next n k left out).toList.Perm (out.toList ++ left)
 | 0, k, left, out, h => by
  have : left = [] := List.length_eq_zero_iff.mp h
  subst this; simp [pickOrder.go]
 | n + 1, k, left, out, h => by
  have hlt : next k % left.length < left.length := Nat.mod_lt _ (by exact Q50 h)
  simp only [pickOrder.go]
  rw [List.getElem?_eq_getElem hlt]
  simp only
  have ih := Qeb next n (k + 1) (left.eraseIdx (next k % left.length)) (out.push left[next k % left.length]) (by rw [List.length_eraseIdx_of_lt hlt]; exact Q5z h)
  refine ih.trans ?_
  rw [Array.toList_push, List.append_assoc]
  refine List.Perm.append_left _ ?_
  exact Qay hlt
theorem Qb2 (w : World) (a : Addr) (es : Array (Int × Value)) (ep : Nat) : (ordOf w a es ep).toList.Perm es.toList := by
 unfold ordOf
 split
 ·unfold pickOrder
  have := Qeb (w.params.setOrder a ep) es.size 0 es.toList #[] (by simp)
  simpa using this
 ·exact .rfl
theorem Qbb (w : World) (a : Addr) (es : Array (Int × Value)) (ep : Nat) : (ordOf w a es ep).size = es.size := by
 have := (Qb2 w a es ep).length_eq
 simpa using this
end
section
section
variable {prog : Program} {w : World} {A : Around} {a : Addr} {o : Obj} {es : Array (Int × Value)} {ep : Nat} {t : SetTable}
theorem Qnu {E : Value → Shared → Prop} {s : Shared} {Q : Bool → Shared → Prop} (hT : s.TypeIs (.ref a) "set") (h : Q false s) : wpAny (model prog w) A (Builtin.List.listLengthHint (.ref a)) Q E s := by
 unfold Builtin.List.listLengthHint
 refine wpAny_bind (wpAny_specialOf hT PySem.F.slot_set_len.lookup ?_)
 generalize hid : ("set.__len__" : String) = id0
 wp_delta
 rw [show splitId id0 = some ("set", "__len__") from by subst hid; decide +kernel]
 subst hid
 refine wpAny_bind (wpAny_isInstance (T := "set") (b := true) hT (by rw [isSubtype_type]; kernel_rfl) ?_)
 refine wpAny_ite_split (fun hab => absurd hab (by decide)) (fun _ => ?_)
 refine wpAny_ite_split (fun _ => ?_) (fun hab => absurd (by decide +kernel) hab)
 refine wpAny_bind (wpAny_typeOf hT ?_)
 exact wpAny_pure h
theorem Qkz (S : SetW w o es ep t) (hh : A.handled = none) (I : Addr) (hne : a ≠ I) :
  Walks prog w A I [I, a] [I] es.size (fun i v => ∃ e, (ordOf w a es ep)[i]? = some e ∧ v = e.2) (fun i h => h.get? I = some (setItObj a (slotW w t i) i es.size ep) ∧ h.get? a = some o) where
 sub := fun b hb => by simp at hb; simp [hb]
 frame := fun _ _ _ st hk => ⟨hk I (by simp) _ st.1, hk a (by simp) _ st.2⟩
 item := fun i s Q E hi st hQ => by
  have hz := Qbb w a es ep
  have he : (ordOf w a es ep)[i]? = some (ordOf w a es ep)[i] := Array.getElem?_eq_getElem (by rw [hz]; exact hi)
  refine Qcn S st.2 hi he st.1 hne fun h' hit hs => ?_
  exact hQ _ h' s.toks ⟨_, he, rfl⟩ ⟨hit, (hs.2 a hne).trans st.2⟩ fun b o hb e => hs.extBut b o (fun q => hb (by simp [q])) e
 done := fun s Q E st hQ => Qco S st.2 hh (Qbb w a es ep) st.1 hne fun h' o' _ he => hQ h' s.toks fun b o hb e => he b o (fun q => hb (by simp [q])) e
 self := fun _ _ _ _ st hQ => Qcr st.1 hQ
theorem Qpz (S : SetW w o es ep t) : KdlSrc prog w "set" a a es.size (fun i v => ∃ e, (ordOf w a es ep)[i]? = some e ∧ v = e.2) (fun h => h.get? a = some o) where
 type := fun _ ho => S.typeIs ho
 there := fun _ ho => ⟨Heap.lt_size ho, Heap.lt_size ho⟩
 keep := fun _ _ ho hk => hk a (.inl rfl) _ ho
 notList := by decide
 notTuple := by decide
 hint := fun _ _ _ _ ho hq => Qnu (S.typeIs ho) hq
 iter := fun _ s hh ho => ⟨_, _, (fun _ _ hq => Qb9 S ho hq), Qkz S hh _ (Nat.ne_of_lt (Heap.lt_size ho)), ⟨Heap.get?_push_size _ rfl, Heap.get?_push_of_some _ ho⟩⟩
end
section
variable {K : Params → Frag} {N : Nm} {W : Wd} {Ψ : Frm K N W} {vals : Vals} {l : Led}
variable {a : Addr} {o : Obj} {es : Array (Int × Value)} {ep : Nat} {t : SetTable}
theorem Qds {vs vs' : List Value} {ns : List Int} (h : vs.Perm vs') (hi : IntsAre vs ns) : ∃ ns', IntsAre vs' ns' ∧ ns'.Perm ns := by
 induction h generalizing ns with
 | nil => exact ⟨ns, hi, .refl _⟩
 | cons x _ ih =>
  cases hi with
  | cons n t hr => obtain ⟨ns', h1, h2⟩ := ih hr; exact ⟨_, .cons n t h1, h2.cons n⟩
 | swap x y l =>
  cases hi with
  | cons n t hr =>
   cases hr with
   | cons n' t' hr' => exact ⟨_, .cons n' t' (.cons n t hr'), .swap _ _ _⟩
 | trans _ _ ih1 ih2 =>
  obtain ⟨ns1, h1, h2⟩ := ih1 hi
  obtain ⟨ns2, h3, h4⟩ := ih2 h1
  exact ⟨ns2, h3, h4.trans h2⟩
theorem Qie (f : Array Value → Array Value) (its : Array Value) (n : Nat) : ∃ n', Obj.mapSeq f (seqObj "list" its n) = seqObj "list" (f its) n' := ⟨_, rfl⟩
theorem Qed {ks : List Int} {M R : Led} {Q : VQ} (hh : Ψ.A.handled = none) (S : SetW W.w o es ep t) (hm : (a, o) ∈ M ++ R) (hi : IntsAre (es.toList.map (·.2)) ks) (h64 : es.size < 64)
  (q : ∀ D vs ks' n, IntsAre vs ks' → ks'.Perm ks → ks'.Pairwise (· ≤ ·) → Q (.ref D) vals (M ++ (D, listOf vs.toArray n) :: R)) : WA Ψ (call (.builtin "sorted") [.ref a]) Q vals (M ++ R) := by
 refine Qad fun E s a' => ?_
 have ho := (a'.N _ hm).1
 have U0 := a'.U
 refine kdu_sorted (Qpz S) hh a'.F a'.N ho (by rw [Qae]; exact Q5y h64) fun D h' tk vs F' N' l1 hl hv => ?_
 have hperm := Qb2 W.w a es ep
 have hsz := Qbb W.w a es ep
 have hvs : vs = (ordOf W.w a es ep).toList.map (·.2) := by
  refine List.ext_getElem (by rw [hl]; simp [hsz]) fun j h1 h2 => ?_
  obtain ⟨e, he, hve⟩ := hv j vs[j] (List.getElem?_eq_getElem h1)
  rw [hve]
  simp only [List.getElem_map, Array.getElem_toList]
  rw [Array.getElem?_eq_getElem (by rw [hsz]; exact Qog hl h1)] at he
  cases he; rfl
 obtain ⟨ks1, hi1, hp1⟩ : ∃ ks1, IntsAre vs ks1 ∧ ks1.Perm ks := by
  rw [hvs]
  exact Qds (hperm.symm.map _) hi
 have hD := N' (D, listOf vs.toArray 0) (.head _)
 have hlt : ∀ b o, h'.get? b = some o → b < h'.objs.size := fun b o e => Heap.lt_size e
 refine wpAny_call_entry PyProof.Rows.slot_list_sort ⟨_, hD.1, rfl⟩ PyProof.Rows.entry_list_sort (list_sort_tree (n := 0) (vs := vs) hD.1 hi1 (by rw [hl]; exact h64) fun out ns' hI hp hP => ⟨.none, rfl, ?_⟩) (PyProof.Rows.args_list_sort _)
 kcj_m
 obtain ⟨n', hn'⟩ := sortedHeap_at (out := out) hD.1
 have old : ∀ b ob, b ≠ D → h'.get? b = some ob → (sortedHeap h' D vs out).get? b = some ob := fun b ob hb e => (sortedHeap_old hb (hlt _ _ e)).trans e
 obtain ⟨oL, esL, epL, hL, hLd, hLk, hLf⟩ := F'.ns
 kd_p1
 refine ⟨⟨rfl, rfl⟩, vals, (D, listOf out.toList.toArray n') :: (M ++ R), ⟨⟨⟨oL, esL, epL, old _ _ (fun q => hD.2.1 q.symm) hL, hLd, hLk, hLf⟩, fun b ob e => old b ob (fun q => ?_) (F'.keep b ob e), F'.above⟩, fun x hx => ?_, ?_, fun x hx => ?_⟩, _, shiftPerm, q D out.toList ns' n' hI (hp.trans hp1) hP⟩
 ·rw [q, hD.2.2] at e; cases e
 ·rcases List.mem_cons.mp hx with rfl | hx
  ·exact ⟨by simpa using hn', hD.2⟩
  ·have := N' x (.tail _ hx)
   exact ⟨old _ _ (fun q => Nat.ne_of_lt (l1 x hx) q) this.1, this.2⟩
 ·rw [List.map_cons, List.nodup_cons]
  refine ⟨fun h => ?_, U0⟩
  obtain ⟨x, hx, e⟩ := List.mem_map.mp h
  exact absurd e (Nat.ne_of_lt (l1 x hx))
 ·rcases List.mem_cons.mp hx with rfl | hx
  ·have := a'.G _ hm
   exact Nat.lt_trans this (l1 _ hm)
  ·exact a'.G x hx
end
end
section
noncomputable def addT (t : SetTable) (ks : List Int) (k : Int) : Option (SetTable × List Int) :=
 match t.freeSlot (hashInt k) with
 | some (slot, false) =>
  let t' := (t.put slot).1
  let ks' := ks.take (t.put slot).2 ++ k :: ks.drop (t.put slot).2
  if t'.fits ks'.length && t'.plain then
   if t'.tooFull then
    match t'.relaid (ks'.map hashInt).toArray (SetTable.grown ks'.length) with
    | some (t'', order) => if coversAll order ks'.length && t''.fits ks'.length && (order.toList.filterMap (ks'[·]?)).length == ks'.length then some (t'', order.toList.filterMap (ks'[·]?)) else none
    | none => none
   else some (t', ks')
  else none
 | _ => none
noncomputable def SetI (o : Obj) (t : SetTable) (ks : List Int) : Prop :=
 ∃ es ep, o.ExactSet ∧ o.data = .set es ep t ∧ es.toList.map (·.1) = ks.map hashInt ∧ IntsAre (es.toList.map (·.2)) ks ∧ t.fits es.size = true
theorem Qep {prog : Program} {w : World} : ∀ {l : List (Int × Value)} {ks : List Int}, l.map (·.1) = ks.map hashInt → IntsAre (l.map (·.2)) ks → ElemsOf (intKind prog w) l
 | [], _, _, _ => fun e he => by simp at he
 | (h, v) :: l, [], h1, _ => by simp at h1
 | (h, v) :: l, k :: ks, h1, h2 => by
  simp only [List.map_cons, List.cons.injEq] at h1
  simp only [List.map_cons] at h2
  cases h2 with
  | cons n t hr =>
   intro e he
   rcases List.mem_cons.mp he with rfl | he
   ·exact ⟨⟨k, intKind_is _ _ _ _, h1.1⟩, rfl⟩
   ·exact Qep h1.2 hr e he
theorem Qeo {vs : List Value} {ks : List Int} (h : IntsAre vs ks) {k : Int} : k ∈ ks ↔ ∃ v ∈ vs, ∃ t, v = .int k t := by
 induction h with
 | nil => simp
 | cons n t _ ih =>
  rw [List.mem_cons, ih]
  constructor
  ·rintro (rfl | ⟨v, hv, t', e⟩)
   ·exact ⟨_, .head _, t, rfl⟩
   ·exact ⟨v, .tail _ hv, t', e⟩
  ·rintro ⟨v, hv, t', e⟩
   rcases List.mem_cons.mp hv with rfl | hv
   ·cases e; exact .inl rfl
   ·exact .inr ⟨v, hv, t', e⟩
theorem Qll {vs : List Value} {ks : List Int} (h : IntsAre vs ks) (p : Nat) : IntsAre (vs.take p) (ks.take p) := by
 induction h generalizing p with
 | nil => simpa using IntsAre.nil
 | cons n t _ ih =>
  cases p with
  | zero => exact .nil
  | succ p => exact .cons n t (ih p)
theorem Qlm {vs : List Value} {ks : List Int} (h : IntsAre vs ks) (p : Nat) : IntsAre (vs.drop p) (ks.drop p) := by
 induction h generalizing p with
 | nil => simpa using IntsAre.nil
 | cons n t hr ih =>
  cases p with
  | zero => exact .cons n t hr
  | succ p => exact ih p
theorem Qnt {vs vs' : List Value} {ks ks' : List Int} (h : IntsAre vs ks) (h' : IntsAre vs' ks') : IntsAre (vs ++ vs') (ks ++ ks') := by
 induction h with
 | nil => exact h'
 | cons n t _ ih => exact .cons n t ih
theorem Qcv {vs : List Value} {ks : List Int} (h : IntsAre vs ks) : ∀ order : List Nat, IntsAre (order.filterMap (vs[·]?)) (order.filterMap (ks[·]?))
 | [] => .nil
 | j :: r => by
  have hl := Qai h
  have ih := Qcv h r
  simp only [List.filterMap_cons]
  cases hk : ks[j]? with
  | none =>
   have : vs[j]? = none := by rw [List.getElem?_eq_none_iff] at hk ⊢; exact Q5x hl hk
   rw [this]; exact ih
  | some k =>
   obtain ⟨t, ht⟩ := Qap h hk
   rw [ht]; exact .cons k t ih
theorem map_pick {α β : Type} (f : α → β) (l : List α) : ∀ order : List Nat, (order.filterMap (l[·]?)).map f = order.filterMap ((l.map f)[·]?)
 | [] => rfl
 | j :: r => by
  simp only [List.filterMap_cons]
  rw [List.getElem?_map]
  cases l[j]? with
  | none => simpa using map_pick f l r
  | some x => simpa using map_pick f l r
section
variable {prog : Program} {w : World} {A : Around} {E : Value → Shared → Prop} {s : Shared} {a : Addr} {o : Obj} {t t' : SetTable} {ks ks' : List Int} {k : Int} {tk : Tok}
theorem Qlu {l : List (Int × Value)} (hI : IntsAre (l.map (·.2)) ks) (hk : k ∉ ks) : List.findIdx? (fun e => (intKind prog w).is k e.2) l = none := by
 rw [List.findIdx?_eq_none_iff]
 intro e he
 cases hb : (intKind prog w).is k e.2 with
 | false => rfl
 | true =>
  obtain ⟨t, ht⟩ : ∃ t, e.2 = .int k t := by
   exact Value.isInt_shape hb
  exact absurd ((Qeo hI).mpr ⟨e.2, List.mem_map_of_mem he, t, ht⟩) hk
noncomputable def addIn (t' : SetTable) (ks' : List Int) : Option (SetTable × List Int) :=
 if t'.fits ks'.length && t'.plain then
  if t'.tooFull then
   match t'.relaid (ks'.map hashInt).toArray (SetTable.grown ks'.length) with
   | some (t'', order) => if coversAll order ks'.length && t''.fits ks'.length && (order.toList.filterMap (ks'[·]?)).length == ks'.length then some (t'', order.toList.filterMap (ks'[·]?)) else none
   | none => none
  else some (t', ks')
 else none
theorem Qjn {c : Prop} [Decidable c] {α : Type} {x : Option α} {r : α} (h : (if c then x else none) = some r) : c ∧ x = some r := by
 by_cases k : c
 ·exact ⟨k, (if_pos k).symm.trans h⟩
 ·cases (if_neg k).symm.trans h
theorem Qr3 {t1 : SetTable} {ks1 : List Int} {es1 : Array (Int × Value)} (h : addIn t1 ks1 = some (t', ks')) (hn : ks1.length = es1.size) (hh1 : es1.toList.map (·.1) = ks1.map hashInt) (hI1 : IntsAre (es1.toList.map (·.2)) ks1) :
  t1.fits es1.size = true ∧ t1.plain = true ∧ ((t1.tooFull = false ∧ t1 = t' ∧ es1.toList.map (·.1) = ks'.map hashInt ∧ IntsAre (es1.toList.map (·.2)) ks') ∨
   (t1.tooFull = true ∧ ∃ es2, relayAll t1 es1 (SetTable.grown es1.size) = (es2, t', false) ∧ es2.size = es1.size ∧ es2.toList.map (·.1) = ks'.map hashInt ∧ IntsAre (es2.toList.map (·.2)) ks' ∧ t'.fits es2.size = true)) := by
 obtain ⟨hc, h⟩ := Qjn h
 obtain ⟨hc1, hc2⟩ := (Bool.and_eq_true _ _).mp hc
 refine ⟨hn ▸ hc1, hc2, ?_⟩
 cases hfull : t1.tooFull with
 | false =>
  cases (if_neg (by rw [hfull]; decide)).symm.trans h
  exact .inl ⟨rfl, rfl, hh1, hI1⟩
 | true =>
  have h := (if_pos hfull).symm.trans h
  cases hrel : t1.relaid (ks1.map hashInt).toArray (SetTable.grown ks1.length) with
  | none => rw [hrel] at h; cases h
  | some y =>
   obtain ⟨t2, order⟩ := y
   rw [hrel] at h
   obtain ⟨hd, h⟩ := Qjn h
   obtain ⟨hd1, hd2⟩ := (Bool.and_eq_true _ _).mp hd
   cases h
   have hes2 : (order.filterMap (es1[·]?)).toList = order.toList.filterMap (es1.toList[·]?) := Array.toList_filterMap.trans (by simp only [Array.getElem?_toList])
   have hz2 : (order.filterMap (es1[·]?)).size = ks1.length := by
    have h1 := Qai (Qcv hI1 order.toList)
    rw [← map_pick, List.length_map] at h1
    rw [← Array.length_toList, hes2, h1]; exact eq_of_beq hd2
   refine .inr ⟨rfl, _, ?_, hz2.trans hn, ?_, ?_, ?_⟩
   ·unfold relayAll
    rw [show es1.map (·.1) = (ks1.map hashInt).toArray from Array.ext' (by simp [hh1]), ← hn, hrel]
    dsimp only
    rw [hz2, if_pos (by rw [← hn] at *; exact hd1)]
   ·rw [hes2, map_pick, hh1, map_pick]
   ·rw [hes2, map_pick]; exact Qcv hI1 _
   ·rw [hz2]; exact ((Bool.and_eq_true _ _).mp hd1).2
theorem Qr2 {es : Array (Int × Value)} (hh : es.toList.map (·.1) = ks.map hashInt) (hI : IntsAre (es.toList.map (·.2)) ks) (hn : es.size = ks.length) (hadd : addT t ks k = some (t', ks')) :
  ∃ es1 t1, layNew t es (hashInt k) (.int k tk) = (es1, t1, false, false) ∧ es1.size = es.size + 1 ∧
   t1.fits es1.size = true ∧ t1.plain = true ∧ ((t1.tooFull = false ∧ t1 = t' ∧ es1.toList.map (·.1) = ks'.map hashInt ∧ IntsAre (es1.toList.map (·.2)) ks') ∨
   (t1.tooFull = true ∧ ∃ es2, relayAll t1 es1 (SetTable.grown es1.size) = (es2, t', false) ∧ es2.size = es1.size ∧ es2.toList.map (·.1) = ks'.map hashInt ∧ IntsAre (es2.toList.map (·.2)) ks' ∧ t'.fits es2.size = true)) := by
 obtain ⟨slot, hslot, h⟩ : ∃ slot, t.freeSlot (hashInt k) = some (slot, false) ∧ addIn (t.put slot).1 (ks.take (t.put slot).2 ++ k :: ks.drop (t.put slot).2) = some (t', ks') := by
  unfold addT at hadd
  cases hx : t.freeSlot (hashInt k) with
  | none => rw [hx] at hadd; cases hadd
  | some y =>
   obtain ⟨slot, b⟩ := y
   rw [hx] at hadd
   cases b with
   | false => exact ⟨slot, rfl, hadd⟩
   | true => cases hadd
 have hl1 : (SetTable.insertAt es (t.put slot).2 (hashInt k, Value.int k tk)).toList = es.toList.take (t.put slot).2 ++ (hashInt k, Value.int k tk) :: es.toList.drop (t.put slot).2 := SetTable.toList_insertAt _ _ _
 have hes1 : (SetTable.insertAt es (t.put slot).2 (hashInt k, Value.int k tk)).size = es.size + 1 := (SetTable.insertAt_perm es (t.put slot).2 (hashInt k, Value.int k tk)).length_eq.trans (Array.size_push ..)
 have r := Qr3 (es1 := SetTable.insertAt es (t.put slot).2 (hashInt k, Value.int k tk)) h (by
   rw [hes1, hn, List.length_append, List.length_cons, List.length_take, List.length_drop]; exact Qud) (by
   rw [hl1, List.map_append, List.map_cons, List.map_append, List.map_cons, List.map_take, List.map_drop, hh, List.map_take, List.map_drop]) (by
   rw [hl1, List.map_append, List.map_cons, List.map_take, List.map_drop]
   exact Qnt (Qll hI _) (.cons k tk (Qlm hI _)))
 refine ⟨_, _, ?_, hes1, r⟩
 unfold layNew
 rw [hslot]
 show (SetTable.insertAt es (t.put slot).2 (hashInt k, Value.int k tk), (t.put slot).1.orStandIn (SetTable.insertAt es (t.put slot).2 (hashInt k, Value.int k tk)).size, false, !(t.put slot).1.fits (SetTable.insertAt es (t.put slot).2 (hashInt k, Value.int k tk)).size) = _
 rw [r.1, show (t.put slot).1.orStandIn (SetTable.insertAt es (t.put slot).2 (hashInt k, Value.int k tk)).size = (t.put slot).1 from if_pos r.1]; rfl
theorem Qdn (I : SetI o t ks) (ho : s.heap.get? a = some o) (hk : k ∉ ks) (hadd : addT t ks k = some (t', ks')) (hb : ks.length + 1 < scanBound) {Q : Bool → Shared → Prop}
  (q : ∀ h' o', h'.get? a = some o' → SetI o' t' ks' → Heap.SameBut a s.heap h' → Q true { s with heap := h' }) : wpAny (model prog w) A (setAddHashed a (.int k tk) (hashInt k)) Q E s := by
 kcj_m
 obtain ⟨es, ep, hex, hd, hh, hI, hf⟩ := I
 have hel := Qep (prog := prog) (w := w) hh hI
 have hn : es.size = ks.length := (List.length_map (·.2)).symm.trans (Qai hI)
 obtain ⟨es1, t1, hlay, hes1, hf1, hpl, hcase⟩ := Qr2 (tk := tk) hh hI hn hadd
 kd_p1
 have hsz1 : es1.size < scanBound := by exact Q5v hb hn hes1
 unfold setAddHashed setAddHashedIn
 refine wpAny_holding (wpAny_bind (wpAny_setState_of ho hd hf ?_))
 dsimp only
 rw [byScan_of (knd := intKind prog w) rfl (by exact Q5w hb hn) hel]
 refine Qb0 rfl ?_
 unfold setAddByScan
 refine wpAny_bind ?_
 refine wpAny_bind (wpAny_rule ?_)
 refine wpAny_bind (wpAny_setScan_of (intKind_is _ _ _ _) ho hd hf hel ?_)
 rw [Qlu hI hk]
 dsimp only
 rw [hlay]
 dsimp only
 refine wpAny_bind (wpAny_pure ?_)
 refine Qb0 hpl ?_
 refine wpAny_bind ?_
 rw [hashByValue_scannable 8 rfl]
 refine wpAny_pure ?_
 have hg : (s.heap.update a (Obj.putSet es1 t1)).get? a = some { o with data := .set es1 (ep + 1) t1 } := by
  have := Heap.get?_update_self (Obj.putSet es1 t1) ho (by rw [putSet_of es1 t1 hd]; rfl)
  rw [putSet_of es1 t1 hd] at this; exact this
 have hsb1 := Heap.SameBut.update s.heap a (Obj.putSet es1 t1)
 simp only [plainKind, if_true]
 refine wpAny_bind (wpAny_storeSet_of ho hd ?_ (fits_of_scanBound hsz1))
 refine hcase.elim (fun ⟨hfull, e1, h1, h2⟩ => ?_) (fun ⟨hfull, es2, hall, hz2, h1, h2, h3⟩ => ?_)
 ·subst e1
  refine Qa1 (by rw [hfull]; decide) ?_
  exact wpAny_pure (wpAny_pure (q _ _ hg ⟨es1, ep + 1, hex, rfl, h1, h2, hf1⟩ hsb1))
 ·refine Qb0 (by rw [hfull]; decide) ?_
  rw [hall]
  dsimp only
  refine wpAny_bind (wpAny_pure ?_)
  refine wpAny_bind (wpAny_storeSet_of hg rfl ?_ (fits_of_scanBound (hz2 ▸ hsz1)))
  have hg2 : ((s.heap.update a (Obj.putSet es1 t1)).update a (Obj.putSet es2 t')).get? a = some { o with data := .set es2 (ep + 1 + 1) t' } := by
   have := Heap.get?_update_self (Obj.putSet es2 t') hg (by rw [putSet_of _ _ rfl]; rfl)
   rw [putSet_of _ _ rfl] at this; exact this
  exact wpAny_pure (wpAny_pure (q _ _ hg2 ⟨_, _, hex, rfl, h1, h2, h3⟩ (hsb1.trans (Heap.SameBut.update _ a _))))
theorem Qdm (I : SetI o t ks) (ho : s.heap.get? a = some o) (hk : k ∈ ks) (hb : ks.length < scanBound) {Q : Bool → Shared → Prop}
  (q : Q false s) : wpAny (model prog w) A (setAddHashed a (.int k tk) (hashInt k)) Q E s := by
 kcj_m
 obtain ⟨es, ep, hex, hd, hh, hI, hf⟩ := I
 kd_p1
 have hel := Qep (prog := prog) (w := w) hh hI
 have hn : es.size = ks.length := by have := Qai hI; simpa using this
 have hkey : (intKind prog w).is k (.int k tk) = true := intKind_is _ _ _ _
 unfold setAddHashed setAddHashedIn
 refine wpAny_holding (wpAny_bind (wpAny_setState_of ho hd hf ?_))
 dsimp only
 rw [byScan_of (knd := intKind prog w) rfl (by exact Q5u hb hn) hel]
 refine Qb0 rfl ?_
 unfold setAddByScan
 refine wpAny_bind ?_
 refine wpAny_bind (wpAny_rule ?_)
 refine wpAny_bind (wpAny_setScan_of hkey ho hd hf hel ?_)
 obtain ⟨v, hv, t', rfl⟩ := (Qeo hI).mp hk
 kcj_m
 obtain ⟨e, he, hev⟩ := List.mem_map.mp hv
 kd_p1
 cases hr : List.findIdx? (fun e => (intKind prog w).is k e.2) es.toList with
 | none =>
  have := List.findIdx?_eq_none_iff.mp hr e he
  rw [hev, intKind_is] at this; cases this
 | some j =>
  dsimp only
  exact wpAny_pure (wpAny_pure q)
end
theorem Qlr {α : Type} {f : α → Addr} {pre post : List α} {x : Addr} (h : (pre.map f).Nodup ∧ (x ∉ post.map f ∧ (post.map f).Nodup) ∧ ∀ a ∈ pre.map f, ∀ b ∈ x :: post.map f, a ≠ b) : ((pre ++ post).map f).Nodup := by
 rw [List.map_append, List.nodup_append]
 exact ⟨h.1, h.2.1.2, fun a ha b hb => h.2.2 a ha b (.tail _ hb)⟩
section
variable {K : Params → Frag} {N : Nm} {W : Wd} {Ψ : Frm K N W} {vals : Vals} {l : Led}
variable {a : Addr} {o : Obj} {t t' : SetTable} {ks ks' : List Int} {k : Int} {tk : Tok}
theorem setTypeIs {s : Shared} (I : SetI o t ks) (ho : s.heap.get? a = some o) : s.TypeIs (.ref a) "set" := let ⟨_, _, hex, _⟩ := I; ⟨o, ho, hex.1⟩
theorem Qhn {pre post : Led} {Q : VQ} (hl : l = pre ++ (a, o) :: post) (I : SetI o t ks) (hk : k ∉ ks) (hadd : addT t ks k = some (t', ks')) (hb : ks.length + 1 < scanBound)
  (q : ∀ o', SetI o' t' ks' → Q .none vals (pre ++ (a, o') :: post)) : WA Ψ (call (.builtin "set.add") [.ref a, .int k tk]) Q vals l := fun E s a' => by
 subst hl
 have ho := (a'.N _ (mr (.head _))).1
 refine wpAny_call_entry PySem.F.slot_set_add (setTypeIs I ho) PySem.F.entry_set_add ?_ (PySem.F.args_set_add_2 _ _)
 unfold Builtin.«set.add» Builtin.Frozenset.oneOther
 simp only [List.isEmpty_nil, bind_assoc]
 unfold Builtin.Frozenset.addrOf setAdd
 refine wpAny_bind (wpAny_pure ?_)
 try dsimp only
 refine wpAny_bind (wpAny_pure ?_)
 try dsimp only
 refine wpAny_bind ?_
 refine wpAny_holding ?_
 refine wpAny_bind ((intKind W.prog W.w).pyHash (k := k) (intKind_is _ _ _ _) ?_)
 refine Qdn (s := { s with toks := s.toks + 1 }) I ho hk hadd hb fun h' o' ho' I' hs => ?_
 show wpAny _ _ (PySem.ret Value.none) _ _ _
 exact wpAny_pure ⟨_, rfl, ⟨rfl, rfl⟩, vals, _, a'.upd hs ho', q o' I'⟩
theorem Qhm {Q : VQ} (hm : (a, o) ∈ l) (I : SetI o t ks) (hk : k ∈ ks) (hb : ks.length < scanBound)
  (q : Q .none vals l) : WA Ψ (call (.builtin "set.add") [.ref a, .int k tk]) Q vals l := fun E s a' => by
 have ho := (a'.N _ hm).1
 refine wpAny_call_entry PySem.F.slot_set_add (setTypeIs I ho) PySem.F.entry_set_add ?_ (PySem.F.args_set_add_2 _ _)
 unfold Builtin.«set.add» Builtin.Frozenset.oneOther
 simp only [List.isEmpty_nil, bind_assoc]
 unfold Builtin.Frozenset.addrOf setAdd
 refine wpAny_bind (wpAny_pure ?_)
 try dsimp only
 refine wpAny_bind (wpAny_pure ?_)
 try dsimp only
 refine wpAny_bind ?_
 refine wpAny_holding ?_
 refine wpAny_bind ((intKind W.prog W.w).pyHash (k := k) (intKind_is _ _ _ _) ?_)
 refine Qdm (s := { s with toks := s.toks + 1 }) I ho hk hb ?_
 show wpAny _ _ (PySem.ret Value.none) _ _ _
 exact wpAny_pure ⟨_, rfl, ⟨rfl, rfl⟩, vals, _, ⟨a'.F, a'.N, a'.U, a'.G⟩, q⟩
theorem Qdh {es : Array (Int × Value)} {ep : Nat} {M R : Led} {Q : VQ} (S : SetW W.w o es ep t) (hm : (a, o) ∈ M ++ R) (q : ∀ x, Q (.ref x) vals (M ++ (x, setItObj a (slotW W.w t 0) 0 es.size ep) :: R)) : WA Ψ (pyIter (.ref a)) Q vals (M ++ R) :=
 Qad fun E s a' => Qb9 S (a'.N _ hm).1 ⟨⟨rfl, rfl⟩, vals, _, a'.push, _, shiftPerm, q _⟩
theorem Qby {es : Array (Int × Value)} {ep i n slot : Nat} {it : Addr} {Q : VQ} (hm : (it, setItObj a slot i n ep) ∈ l) (q : Q (.ref it) vals l) : WA Ψ (pyIter (.ref it)) Q vals l := fun E s a' =>
 Qcr (a'.N _ hm).1 ⟨Same.refl s, vals, l, a', q⟩
theorem Qd7 {es : Array (Int × Value)} {ep i : Nat} {it : Addr} {e : Int × Value} {pre post : Led} {Q : OQ} (S : SetW W.w o es ep t) (hl : l = pre ++ (it, setItObj a (slotW W.w t i) i es.size ep) :: post) (hm : (a, o) ∈ pre ++ post) (hi : i < es.size) (he : (ordOf W.w a es ep)[i]? = some e)
  (q : Q (some e.2) vals (pre ++ (it, setItObj a (slotW W.w t (i + 1)) (i + 1) es.size ep) :: post)) : WA Ψ (pyNext (.ref it)) Q vals l := fun E s a' => by
 subst hl
 have hU := a'.U
 have hne : a ≠ it := by
  rw [List.map_append, List.map_cons, List.nodup_append, List.nodup_cons] at hU
  intro e
  rcases List.mem_append.mp hm with h | h
  ·exact hU.2.2 a (List.mem_map_of_mem (f := (·.1)) h) it (.head _) e
  ·exact hU.2.1.1 (e ▸ List.mem_map_of_mem (f := (·.1)) h)
 have ho := (a'.N (a, o) (by rcases List.mem_append.mp hm with h | h; exact List.mem_append_left _ h; exact mr (.tail _ h))).1
 have hit := (a'.N _ (mr (.head _))).1
 exact Qcn S ho hi he hit hne fun h' hit' hs => ⟨⟨rfl, rfl⟩, vals, _, a'.upd hs hit', q⟩
theorem Qch {es : Array (Int × Value)} {ep : Nat} {it : Addr} {pre post : Led} {Q : OQ} (hh : Ψ.A.handled = none) (S : SetW W.w o es ep t) (hl : l = pre ++ (it, setItObj a (slotW W.w t es.size) es.size es.size ep) :: post) (hm : (a, o) ∈ pre ++ post)
  (q : Q none vals (pre ++ post)) : WA Ψ (pyNext (.ref it)) Q vals l := fun E s a' => by
 subst hl
 have hU := a'.U
 rw [List.map_append, List.map_cons, List.nodup_append, List.nodup_cons] at hU
 have ne : ∀ x ∈ pre ++ post, x.1 ≠ it := by
  intro x hx e
  rcases List.mem_append.mp hx with h | h
  ·exact hU.2.2 x.1 (List.mem_map_of_mem (f := (·.1)) h) it (.head _) e
  ·exact hU.2.1.1 (e ▸ List.mem_map_of_mem (f := (·.1)) h)
 have up : ∀ x ∈ pre ++ post, x ∈ pre ++ (it, setItObj a (slotW W.w t es.size) es.size es.size ep) :: post := fun x hx => by
  rcases List.mem_append.mp hx with h | h
  ·exact List.mem_append_left _ h
  ·exact mr (.tail _ h)
 have a2 := a'.sub (l' := pre ++ post) up (Qlr hU)
 have ho := (a2.N _ hm).1
 have hit := a'.N _ (mr (.head _))
 refine Qco S ho hh (Qbb W.w a es ep) hit.1 (ne _ hm) fun h' o' _ he => ⟨⟨rfl, rfl⟩, vals, _, ⟨⟨?_, fun b ob e => he b ob (fun q => ?_) (a2.F.keep b ob e), a2.F.above⟩, fun x hx => ⟨he _ _ (ne x hx) (a2.N x hx).1, (a2.N x hx).2⟩, a2.U, a2.G⟩, q⟩
 ·kcj_m
  obtain ⟨oL, esL, epL, hL, r⟩ := a2.F.ns
  kd_p1
  exact ⟨oL, esL, epL, he _ _ (fun q => hit.2.1 q.symm) hL, r⟩
 ·rw [q, hit.2.2] at e; cases e
end
end
section
noncomputable abbrev freshSet (w : World) : Obj := { cls := .type "set", dict := none, data := .set #[] 0 (.fresh 0 0 (!(byT w))) }
section
variable {prog : Program} {w : World} {A : Around} {E : Value → Shared → Prop} {s : Shared}
theorem Qhg (x : Value) {Q₁ : Value → Shared → Prop} (h : Q₁ (.ref s.heap.objs.size) { s with heap := s.heap.push (freshSet w) }) :
  codeAny (model prog w) A (.call (.builtin "set.__new__") ⟨[.type "set", x], []⟩) (wants Q₁ E) s := by
 refine codeAny_of_tree ?_
 show wpAny _ A.in1 (do checkBuiltinCall "set.__new__" ⟨[.type "set", x], []⟩; again (.builtin "set.__new__" ⟨[.type "set", x], []⟩)) _ _ s
 refine wpAny_bind (wpAny_of_eq (PySem.F.newCall_set_1 x) (wpAny_pure ⟨plainId_quiet PySem.F.plain_set_new _, codeAny_builtin PySem.F.entry_set_new ?_⟩))
 rw [Around.under_plainId PySem.F.plain_set_new _]
 unfold Builtin.«set.__new__» Builtin.Frozenset.newClass
 have hsub := sub_set_self
 obtain ⟨hp, g, d, tk, os⟩ := s
 dsimp only
 wp_walk
 refine wpAny_askSetting (wpAny_pure ?_)
 dsimp only
 simp only [newObj]
 refine wpAny_bind (wpAny_alloc (wpAny_pure ?_))
 exact wpAny_pure h
set_option maxHeartbeats 3200000 in
theorem Qdv {x : Value} {Q : Value → Shared → Prop}
  (h : ∀ A' : Around, A'.handled = A.handled → wpAny (model prog w) A' (Builtin.Frozenset.updateFrom "set.__init__" s.heap.objs.size x) (fun _ s' => Q (.ref s.heap.objs.size) s') (fun _ _ => False) { s with heap := s.heap.push (freshSet w) }) :
  wpAny (model prog w) A (call (.type "set") [x]) Q E s := by
 obtain ⟨c, tl, hmro⟩ := PySem.F.called_set.mro
 have hmade := PySem.F.called_set.made
 have hsub := PySem.F.called_set.sub
 refine wpAny_call (codeAny_of_tree ?_)
 show wpAny _ _ (callAny (.type "set") _) _ _ _
 refine wpAny_pure ⟨Code.quiet_builtin _ (by decide +kernel), codeAny_builtin PySem.F.entry_type_call ?_⟩
 rw [Around.under_plain (weight_type_call_type "set" [x] []) rfl]
 have h1 := PySem.F.called_set.notType
 have h2 := PySem.F.called_set.canCreate
 have hct := PySem.F.typeCall_set_1 x
 repeat (any_goals (first | assumption | wp_step))
 refine codeAny_mono (Qhg x (E := E) (Q₁ := fun obj s₁ => obj = .ref s.heap.objs.size ∧ s₁ = { s with heap := s.heap.push (freshSet w) }) ⟨rfl, rfl⟩) fun r s₁ hr => ?_
 cases r with
 | error e => exact hr
 | ok fl =>
  cases fl with
  | ret obj =>
   obtain ⟨rfl, rfl⟩ := hr
   have hS : (s.heap.push (freshSet w)).get? s.heap.objs.size = some (freshSet w) := Heap.get?_push_size _ rfl
   have hT : Shared.TypeIs { s with heap := s.heap.push (freshSet w) } (.ref s.heap.objs.size) "set" := ⟨_, hS, rfl⟩
   have hli := PySem.F.called_set.init.lookup
   have hbi := PySem.F.called_set.init.bind (.ref s.heap.objs.size)
   repeat (any_goals (first | assumption | wp_step))
   refine codeAny_mono (codeAny_call_builtin (R := wants (fun r s₂ => r = .none ∧ Q (.ref s.heap.objs.size) s₂) E) PySem.F.called_set.init.plain PySem.F.entry_set_init (check_set_init_1 hT ?_)) fun r₂ s₂ hr₂ => ?_
   ·have h' := h A.in1.in1 rfl
    unfold Builtin.«set.__init__» noKeywords
    generalize hUF : Builtin.Frozenset.updateFrom = UF at h' ⊢
    wp_walk
    exact wpAny_mono h' (fun _ s' q => wpAny_pure ⟨rfl, q⟩) (fun _ _ f => f.elim)
   ·cases r₂ with
    | error e => exact hr₂
    | ok fl₂ =>
     cases fl₂ with
     | ret r =>
      obtain ⟨rfl, hq⟩ := hr₂
      repeat (any_goals (first | assumption | wp_step))
     | _ => exact hr₂.elim
  | _ => exact hr.elim
end
end
section
noncomputable def foldS : SetTable × List Int → List Int → Option (SetTable × List Int)
 | st, [] => some st
 | st, k :: xs => if k ∈ st.2 then foldS st xs else match addT st.1 st.2 k with
  | some st' => foldS st' xs
  | none => none
theorem Qoj {t t' : SetTable} {ks ks' : List Int} {k : Int} (h : addT t ks k = some (t', ks')) : ks'.length = ks.length + 1 := by
 unfold addT at h
 split at h
 ·rename_i slot _
  simp only at h
  have hl : (ks.take (t.put slot).2 ++ k :: ks.drop (t.put slot).2).length = ks.length + 1 := by
   rw [List.length_append, List.length_cons, List.length_take, List.length_drop]; exact Qud
  split at h
  ·split at h
   ·split at h
    ·split at h
     ·rename_i hc
      cases h
      simp only [Bool.and_eq_true, beq_iff_eq] at hc
      rw [hc.2]
      exact hl
     ·cases h
    ·cases h
   ·cases h; exact hl
  ·cases h
 ·cases h
section
variable {prog : Program} {w : World} {A : Around} {R : Result → Shared → Prop} {I : Addr} {fp wr : List Addr} {n : Nat} {P : Nat → Value → Prop} {St : Nat → Heap → Prop}
theorem Qej (W : Walks prog w A.in1 I fp wr n P St) (S : Addr) (hSf : S ∉ fp) (xs : List Int) (hx : xs.length = n) (hval : ∀ i v, P i v → ∃ k t, xs[i]? = some k ∧ v = .int k t) (t' : SetTable) (ks' : List Int) :
  ∀ (j i : Nat) (s : Shared) (o : Obj) (t : SetTable) (ks : List Int), n - i = j → i ≤ n → St i s.heap → s.heap.get? S = some o → SetI o t ks → foldS (t, ks) (xs.drop i) = some (t', ks') → ks.length + j + 1 < scanBound →
   (∀ h' tk o', h'.get? S = some o' → SetI o' t' ks' → (∀ b ob, b ∉ wr → b ≠ S → s.heap.get? b = some ob → h'.get? b = some ob) → R (.ok (.ret .none)) { s with heap := h', toks := tk }) →
   codeAny (model prog w) A (.builtin "set.update.loop" ⟨[.ref S, .ref I], []⟩) R s := by
 have hSw : S ∉ wr := fun h => hSf (W.sub _ h)
 intro j
 induction j with
 | zero =>
  intro i s o t ks hj hi hst ho hI hf hb hR
  obtain rfl : i = n := by exact Q5t hj hi
  rw [List.drop_eq_nil_of_le (by exact Qgr hx)] at hf
  cases hf
  refine codeAny_builtin PyProof.Rows.F.entry_set_update_loop ?_
  rw [Around.under_plainId PyProof.Rows.F.plain_set_update_loop _]
  show wpAny _ A.in1 (pyNext (.ref I) >>= _) _ _ s
  refine wpAny_bind (W.done s _ _ hst fun h' tk hk => ?_)
  show wpAny _ A.in1 (PySem.ret Value.none) _ _ _
  exact wpAny_pure (hR h' tk o (hk _ _ hSw ho) hI fun b ob hb _ e => hk b ob hb e)
 | succ j ih =>
  intro i s o t ks hj hi hst ho hI hf hb hR
  have hlt : i < n := by exact Q5s hj
  refine codeAny_builtin PyProof.Rows.F.entry_set_update_loop ?_
  rw [Around.under_plainId PyProof.Rows.F.plain_set_update_loop _]
  show wpAny _ A.in1 (pyNext (.ref I) >>= _) _ _ s
  refine wpAny_bind (W.item i s _ _ hlt hst fun v h1 tk1 hP hst1 hk1 => ?_)
  obtain ⟨k, tk, hxk, rfl⟩ := hval i v hP
  have ho1 := hk1 _ _ hSw ho
  have hd : xs.drop i = k :: xs.drop (i + 1) := by
   have hi' : i < xs.length := by exact Qdx hx hlt
   rw [List.getElem?_eq_getElem hi'] at hxk
   cases hxk
   exact List.drop_eq_getElem_cons hi'
  rw [hd] at hf
  simp only [foldS] at hf
  show wpAny _ A.in1 (PySem.holding [Value.int k tk] (setAdd S (.int k tk)) >>= _) _ _ _
  refine wpAny_bind (wpAny_holding ?_)
  unfold setAdd
  refine wpAny_holding ?_
  refine wpAny_bind ((intKind prog w).pyHash (k := k) (intKind_is _ _ _ _) ?_)
  split at hf
  ·rename_i hmem
   refine Qdm (s := { s with heap := h1, toks := tk1 + 1 }) hI ho1 hmem (by exact Q5r hb) ?_
   refine wpAny_pure ⟨plainId_quiet PyProof.Rows.F.plain_set_update_loop _, ih (i + 1) _ o t ks (by exact Quc hj) hlt hst1 ho1 hI hf (by exact Q5q hb) fun h' tk' o' ho' hI' hk' => ?_⟩
   exact hR h' tk' o' ho' hI' fun b ob hb hbS e => hk' b ob hb hbS (hk1 b ob hb e)
  ·rename_i hmem
   split at hf
   ·rename_i st' hadd
    obtain ⟨t2, ks2⟩ := st'
    have hlen := Qoj hadd
    refine Qdn (s := { s with heap := h1, toks := tk1 + 1 }) hI ho1 hmem hadd (by exact Q5p hb) fun h2 o2 ho2 hI2 hs2 => ?_
    refine wpAny_pure ⟨plainId_quiet PyProof.Rows.F.plain_set_update_loop _, ih (i + 1) _ o2 t2 ks2 (by exact Quc hj) hlt (W.frame _ _ _ hst1 fun b hb ob e => (hs2.2 b (fun q => hSf (q ▸ hb))).trans e) ho2 hI2 hf (by exact Q5o hb hlen) fun h' tk' o' ho' hI' hk' => ?_⟩
    exact hR h' tk' o' ho' hI' fun b ob hb hbS e => hk' b ob hb hbS ((hs2.2 b hbS).trans (hk1 b ob hb e))
   ·cases hf
end
section
variable {prog : Program} {w : World} {A : Around} {E : Value → Shared → Prop} {s : Shared}
theorem freshI : SetI (freshSet w) (.fresh 0 0 (!(byT w))) [] := ⟨#[], 0, ⟨rfl, rfl, rfl⟩, rfl, rfl, .nil, rfl⟩
theorem Qb8 {S r : Addr} {T : String} {n : Nat} {xs : List Int} {t' : SetTable} {ks' : List Int} {Q : Unit → Shared → Prop} (hh : A.handled = none) (hT : s.TypeIs (.ref r) T) (h1 : isSubtype (.type T) (.type "set") = Pure.pure false) (h2 : isSubtype (.type T) (.type "frozenset") = Pure.pure false) (h3 : (Value.type T == Value.type "dict") = false)
  (hS : s.heap.get? S = some (freshSet w)) (hf : foldS (.fresh 0 0 (!(byT w)), []) xs = some (t', ks')) (hz : xs.length ≤ 1000) (hx : xs.length = n)
  (hit : ∀ A' : Around, A'.handled = none → ∀ E' : Value → Shared → Prop, ∀ Q' : Value → Shared → Prop, (∀ (I : Addr) (oI : Obj) (fp wr : List Addr) (P : Nat → Value → Prop) (St : Nat → Heap → Prop), I = s.heap.objs.size → (∀ b ∈ fp, b = I ∨ b < S) → (∀ b ∈ wr, b = I) → Walks prog w A'.in1 I fp wr n P St → St 0 (s.heap.push oI) → (∀ i v, P i v → ∃ k t, xs[i]? = some k ∧ v = .int k t) → Q' (.ref I) { s with heap := s.heap.push oI }) → wpAny (model prog w) A' (pyIter (.ref r)) Q' E' s)
  (q : ∀ h' tk o', h'.get? S = some o' → SetI o' t' ks' → (∀ b ob, b ≠ S → s.heap.get? b = some ob → h'.get? b = some ob) → Q () { s with heap := h', toks := tk }) :
  wpAny (model prog w) A (Builtin.Frozenset.updateFrom "set.__init__" S (.ref r)) Q E s := by
 unfold Builtin.Frozenset.updateFrom Builtin.Frozenset.isAnySet
 refine wpAny_bind (wpAny_bind (wpAny_isInstance hT h1 ?_))
 dsimp only
 refine wpAny_isInstance hT h2 ?_
 refine Qa1 (by simp) ?_
 refine wpAny_bind (wpAny_typeOf hT ?_)
 refine Qa1 ((by rw [h3]; exact Bool.false_ne_true)) ?_
 refine wpAny_bind (hit A hh _ _ fun I oI fp wr P St hI hfp hwr W st hval => ?_)
 refine wpAny_bind (wpAny_runValue ?_)
 have hSI : S ≠ I := by rw [hI]; exact Nat.ne_of_lt (Heap.lt_size hS)
 refine Qej W S (fun hm => ?_) xs hx hval t' ks' n 0 _ (freshSet w) _ [] (by exact Q5n) (Nat.zero_le _) st (Heap.get?_push_of_some _ hS) freshI (by simpa using hf) (by unfold scanBound; simp; exact Q5m hz hx) fun h' tk o' ho' hI' hk' => ?_
 ·rcases hfp S hm with h | h
  ·exact hSI h
  ·exact Nat.lt_irrefl _ h
 ·refine wpAny_pure ?_
  exact q h' tk o' ho' hI' fun b ob hb e => hk' b ob (fun hm => absurd (Heap.lt_size e) (by rw [hwr b hm, hI]; exact Nat.lt_irrefl _)) hb (Heap.get?_push_of_some _ e)
end
end
section
theorem sub_set_set : isSubtype (.type "set") (.type "set") = Pure.pure true := by rw [isSubtype_type]; kernel_rfl
noncomputable def copyS (n : Nat) (led : Bool) : SetTable := if n = 5 then { mask := 15, place := #[], dummies := #[], finger := 0, led := led, moves := 1, plain := true } else .fresh 0 0 led
noncomputable def copyT (led : Bool) (t : SetTable) (ks : List Int) : Option (SetTable × List Int) :=
 match (copyS ks.length led).road t with
 | .slotForSlot => some ({ t with finger := 0, led := (copyS ks.length led).led && t.led, moves := (copyS ks.length led).moves, plain := (copyS ks.length led).plain && t.plain }, ks)
 | .clean => match SetTable.laid (copyS ks.length led).mask 0 (copyS ks.length led).moves ((copyS ks.length led).led && t.led) ((copyS ks.length led).plain && t.plain) (ks.map hashInt).toArray with
  | some (t', order) => if (order.toList.filterMap (ks[·]?)).length = ks.length ∧ t'.fits ks.length = true then some (t', order.toList.filterMap (ks[·]?)) else none
  | none => none
 | .oneByOne => none
theorem Qrr (led : Bool) : (SetTable.fresh 0 0 led).relaid #[] 10 = some (copyS 5 led, #[]) := by cases led <;> decide +kernel
section
variable {prog : Program} {w : World} {A : Around} {E : Value → Shared → Prop} {s : Shared}
theorem copyI (n : Nat) (hn : n ≤ 5) (led : Bool) : (copyS n led).finger = 0 ∧ (copyS n led).fits 0 = true := by
 unfold copyS; split <;> exact ⟨rfl, rfl⟩
theorem Qm6 {S n : Nat} {o : Obj} {ep : Nat} {Q : Unit → Shared → Prop} (hn : n ≤ 5) (ho : s.heap.get? S = some o) (hd : o.data = .set #[] ep (.fresh 0 0 (!(byT w))))
  (q : ∀ h' ep', h'.get? S = some { o with data := .set #[] ep' (copyS n (!(byT w))) } → Heap.SameBut S s.heap h' → Q () { s with heap := h' }) : wpAny (model prog w) A (setRoomFor S n) Q E s := by
 have hfr : (SetTable.fresh 0 0 (!(byT w))).fits (#[] : Array (Int × Value)).size = true := rfl
 unfold setRoomFor
 refine wpAny_bind (wpAny_setState_of ho hd hfr ?_)
 dsimp only
 by_cases h5 : n = 5
 ·subst h5
  have hroom : (SetTable.fresh 0 0 (!(byT w))).roomFor 5 = some 10 := rfl
  rw [hroom]
  dsimp only
  unfold setRelay
  refine wpAny_bind (wpAny_setState_of ho hd hfr ?_)
  dsimp only
  refine Qa1 ((by decide +kernel)) ?_
  have e : (#[] : Array (Int × Value)).map (·.1) = #[] := by simp
  rw [e, Qrr]
  refine wpAny_bind (wpAny_pure ?_)
  have e2 : Array.filterMap (fun (x : Nat) => (#[] : Array (Int × Value))[x]?) #[] = #[] := by simp
  show wpAny _ _ (storeSet S (Array.filterMap (fun (x : Nat) => (#[] : Array (Int × Value))[x]?) #[]) (copyS 5 (!(byT w)))) _ _ _
  rw [e2]
  refine wpAny_storeSet_of ho hd ?_ (Nat.zero_le _)
  refine q _ (ep + 1) ?_ (Heap.SameBut.update s.heap S _)
  have := Heap.get?_update_self (Obj.putSet #[] (copyS 5 (!(byT w)))) ho (by rw [putSet_of _ _ hd]; rfl)
  rw [putSet_of _ _ hd] at this
  exact this
 ·have hroom : (SetTable.fresh 0 0 (!(byT w))).roomFor n = none := by
   unfold SetTable.roomFor SetTable.fill SetTable.fresh
   rw [if_neg]
   simp; exact Q5l hn h5
  rw [hroom]
  refine wpAny_pure ?_
  refine q s.heap ep ?_ (Heap.SameBut.refl S s.heap)
  rw [ho]
  unfold copyS
  rw [if_neg h5]
  obtain ⟨c, d, da, sl⟩ := o
  cases hd
  rfl
theorem Qf7 {S r : Addr} {o : Obj} {t t' : SetTable} {ks ks' : List Int} {Q : Unit → Shared → Prop} (I : SetI o t ks) (ho : s.heap.get? r = some o) (h5 : ks.length ≤ 5) (hS : s.heap.get? S = some (freshSet w)) (hne : S ≠ r)
  (hc : (ks = [] ∧ ks' = [] ∧ t' = .fresh 0 0 (!(byT w))) ∨ (ks ≠ [] ∧ copyT (!(byT w)) t ks = some (t', ks')))
  (q : ∀ h' o', h'.get? S = some o' → SetI o' t' ks' → Heap.SameBut S s.heap h' → Q () { s with heap := h' }) :
  wpAny (model prog w) A (Builtin.Frozenset.updateFrom "set.__init__" S (.ref r)) Q E s := by
 have hT := setTypeIs I ho
 kcj_m
 obtain ⟨es, ep, hex, hd, hh, hI, hf⟩ := I
 kd_p1
 have hn : es.size = ks.length := by have := Qai hI; simpa using this
 have hb : (S == r) = false := by simpa using hne
 unfold Builtin.Frozenset.updateFrom Builtin.Frozenset.isAnySet
 refine wpAny_bind (wpAny_bind (wpAny_isInstance hT sub_set_set ?_))
 dsimp only
 refine wpAny_pure ?_
 refine Qb0 rfl ?_
 unfold Builtin.Frozenset.addrOf
 refine wpAny_bind (wpAny_pure ?_)
 unfold Builtin.Frozenset.merge
 refine wpAny_bind (wpAny_setEpoch_of ho hd hf ?_)
 unfold setMerge
 refine Qa1 ((by rw [hb]; exact Bool.false_ne_true)) ?_
 refine wpAny_bind (wpAny_setState_of ho hd hf ?_)
 dsimp only
 rcases hc with ⟨h0, h0', ht⟩ | ⟨h0, hcp⟩
 ·subst h0 h0' ht
  refine Qb0 ((by simpa [Array.isEmpty] using hn)) ?_
  exact wpAny_pure (q s.heap (freshSet w) hS freshI (Heap.SameBut.refl S s.heap))
 ·have hE : ¬ es.isEmpty = true := fun h => h0 (List.length_eq_zero_iff.mp (by rw [← hn]; simpa [Array.isEmpty] using h))
  rw [if_neg hE, hn]
  refine wpAny_bind (Qm6 (w := w) h5 hS rfl fun h1 ep1 hS1 hs1 => ?_)
  have hz : ∀ n : Nat, n ≤ 5 → n ≤ sizeLine := fun n hn => by rw [Qae]; exact Q5k hn
  have hc0 := copyI ks.length h5 (!(byT w))
  refine wpAny_bind (wpAny_setState_of (s := { s with heap := h1 }) hS1 rfl hc0.2 ?_)
  dsimp only
  unfold copyT at hcp
  split at hcp
  ·rename_i hroad
   cases hcp
   rw [hroad]
   dsimp only
   rw [hc0.1]
   generalize ht : ({ t with finger := 0, led := (copyS ks.length (!(byT w))).led && t.led, moves := (copyS ks.length (!(byT w))).moves, plain := (copyS ks.length (!(byT w))).plain && t.plain } : SetTable) = t2
   refine wpAny_storeSet_of (s := { s with heap := h1 }) hS1 rfl ?_ (hz _ (by exact Qub h5 hn))
   have hg := Heap.get?_update_self (Obj.putSet es t2) hS1 (by rw [putSet_of _ _ rfl]; rfl)
   rw [putSet_of _ _ rfl] at hg
   subst ht
   exact q _ _ hg ⟨es, _, ⟨rfl, rfl, rfl⟩, rfl, hh, hI, hf⟩ (hs1.trans (Heap.SameBut.update _ S _))
  ·rename_i hroad
   split at hcp
   ·rename_i t2 order hlaid
    split at hcp
    ·rename_i hc2
     cases hcp
     rw [hroad]
     dsimp only
     have e1 : es.map (·.1) = (ks.map hashInt).toArray := by
      apply Array.ext'
      simp [hh]
     rw [hc0.1, e1, hlaid]
     have hes2 : (order.filterMap (es[·]?)).toList = order.toList.filterMap (es.toList[·]?) := by
      rw [Array.toList_filterMap]
      simp only [Array.getElem?_toList]
     have hz2 : (order.filterMap (es[·]?)).size = (order.toList.filterMap (ks[·]?)).length := by
      rw [← Array.length_toList, hes2]
      have h1 := Qai (Qcv hI order.toList)
      rw [← map_pick, List.length_map] at h1
      exact h1
     have hz3 : (order.filterMap (es[·]?)).size = es.size := by rw [hz2, hc2.1, hn]
     have hre : ∀ {Q' : Array (Int × Value) × SetTable → Shared → Prop} {s' : Shared}, Q' (order.filterMap (es[·]?), t') s' → wpAny (model prog w) A (if (order.filterMap (es[·]?)).size != es.size then unsupported "internal:set-table-lost-an-element" else Pure.pure (order.filterMap (es[·]?), t')) Q' E s' := fun hq => by
      refine Qa1 ((by rw [hz3]; simp)) ?_
      exact wpAny_pure hq
     refine wpAny_bind (hre ?_)
     dsimp only
     refine wpAny_storeSet_of (s := { s with heap := h1 }) hS1 rfl ?_ (hz _ (by exact Q5j h5 hn hz3))
     have hg := Heap.get?_update_self (Obj.putSet (order.filterMap (es[·]?)) t') hS1 (by rw [putSet_of _ _ rfl]; rfl)
     rw [putSet_of _ _ rfl] at hg
     refine q _ _ hg ⟨_, _, ⟨rfl, rfl, rfl⟩, rfl, ?_, ?_, ?_⟩ (hs1.trans (Heap.SameBut.update _ S _))
     ·rw [hes2, map_pick, hh, map_pick]
     ·rw [hes2, map_pick]; exact Qcv hI _
     ·rw [hz2, hc2.1]; exact hc2.2
    ·cases hcp
   ·cases hcp
  ·cases hcp
end
section
variable {K : Params → Frag} {N : Nm} {W : Wd} {Ψ : Frm K N W} {vals : Vals} {l : Led}
theorem At.made {s : Shared} {h' : Heap} {tk : Nat} {o' : Obj} (a : At Ψ vals l s) (ho : h'.get? s.heap.objs.size = some o') (hk : ∀ b ob, b ≠ s.heap.objs.size → s.heap.get? b = some ob → h'.get? b = some ob) : At Ψ vals ((s.heap.objs.size, o') :: l) { s with heap := h', toks := tk } := by
 have ne : ∀ b ob, s.heap.get? b = some ob → b ≠ s.heap.objs.size := fun b ob e => Nat.ne_of_lt (Heap.lt_size e)
 have hk' : ∀ b ob, s.heap.get? b = some ob → h'.get? b = some ob := fun b ob e => hk b ob (ne b ob e) e
 have a2 : At Ψ vals l { s with heap := h', toks := tk } := a.grown hk'
 have hp := a.push (o := { cls := .type "list", data := .seq #[] }) (tk := tk)
 refine ⟨a2.F, fun x hx => ?_, hp.U, fun x hx => ?_⟩
 ·rcases List.mem_cons.mp hx with rfl | hx
  ·exact ⟨ho, (hp.N _ (.head _)).2⟩
  ·exact a2.N x hx
 ·rcases List.mem_cons.mp hx with rfl | hx
  ·exact hp.G (s.heap.objs.size, { cls := .type "list", data := .seq #[] }) (.head _)
  ·exact a.G x hx
theorem Qhl {a : Addr} {vs : List Value} {n : Nat} {xs : List Int} {t' : SetTable} {ks' : List Int} {M R : Led} {Q : VQ} (hh : Ψ.A.handled = none) (hm : (a, listOf vs.toArray n) ∈ M ++ R) (hi : IntsAre vs xs) (hz : xs.length ≤ 1000) (hf : foldS (.fresh 0 0 (!(byT W.w)), []) xs = some (t', ks'))
  (q : ∀ x o', SetI o' t' ks' → Q (.ref x) vals (M ++ (x, o') :: R)) : WA Ψ (call (.type "set") [.ref a]) Q vals (M ++ R) := by
 refine Qad fun E s a' => ?_
 refine Qdv fun A' hA' => ?_
 have hl := lAt a' hm
 have hal : a < s.heap.objs.size := Heap.lt_size (a'.N _ hm).1
 have hl1 : ({ s with heap := s.heap.push (freshSet W.w) } : Shared).heap.IsList a vs.toArray := hl.push _
 have hlen := Qai hi
 refine Qb8 (n := vs.toArray.size) (hA'.trans hh) hl1.typeIs PySem.F.sub_list_set PySem.F.sub_list_frozenset (by decide) (Heap.get?_push_size _ rfl) hf hz (by simp [hlen]) (fun A2 hA2 E' Q' k => ?_) fun h' tk o' ho' hI' hk' => ?_
 ·refine wpAny_pyIter_list hl1 ?_
  have hne : a ≠ (s.heap.push (freshSet W.w)).objs.size := by rw [Heap.size_push]; exact Nat.ne_of_lt (Nat.lt_succ_of_lt hal)
  refine k _ _ _ _ _ _ rfl (fun b hb => ?_) (fun b hb => by simpa using hb) (Walks.list (A := A2.in1) hA2 _ a hne vs.toArray) ⟨⟨_, Heap.get?_push_size _ rfl, rfl, rfl⟩, hl1.push _⟩ fun i v hv => ?_
  ·simp only [List.mem_cons, List.not_mem_nil, or_false] at hb
   rcases hb with h | h
   ·exact .inl h
   ·exact .inr (by rw [h]; exact hal)
  ·have hv' : vs[i]? = some v := by simpa using hv
   have hi' : i < xs.length := by rw [← hlen]; exact (List.getElem?_eq_some_iff.mp hv').1
   obtain ⟨t, ht⟩ := Qap hi (List.getElem?_eq_getElem hi')
   rw [hv'] at ht
   cases ht
   exact ⟨_, t, List.getElem?_eq_getElem hi', rfl⟩
 ·exact ⟨⟨rfl, rfl⟩, vals, _, a'.made ho' fun b ob hb e => hk' b ob hb (Heap.get?_push_of_some _ e), _, shiftPerm, q _ o' hI'⟩
theorem Qe8 {a : Addr} {o : Obj} {t t' : SetTable} {ks ks' : List Int} {M R : Led} {Q : VQ} (hm : (a, o) ∈ M ++ R) (I : SetI o t ks) (h5 : ks.length ≤ 5) (hc : (ks = [] ∧ ks' = [] ∧ t' = .fresh 0 0 (!(byT W.w))) ∨ (ks ≠ [] ∧ copyT (!(byT W.w)) t ks = some (t', ks')))
  (q : ∀ x o', SetI o' t' ks' → Q (.ref x) vals (M ++ (x, o') :: R)) : WA Ψ (call (.type "set") [.ref a]) Q vals (M ++ R) := by
 refine Qad fun E s a' => ?_
 refine Qdv fun A' hA' => ?_
 have ho := (a'.N _ hm).1
 refine Qf7 (s := { s with heap := s.heap.push (freshSet W.w) }) I (Heap.get?_push_of_some _ ho) h5 (Heap.get?_push_size _ rfl) (Nat.ne_of_gt (Heap.lt_size ho)) hc fun h' o' ho' hI' hs => ?_
 exact ⟨⟨rfl, rfl⟩, vals, _, a'.made ho' fun b ob hb e => (hs.2 b hb).trans (Heap.get?_push_of_some _ e), _, shiftPerm, q _ o' hI'⟩
end
end
section
theorem Qfy : typeLookup (.type "set") "__bool__" = Pure.pure none := by rw [typeLookup_type, builtinLookup_eq_fast]; kernel_rfl
section
variable {prog : Program} {w : World} {A : Around} {E : Value → Shared → Prop} {s : Shared} {a it : Addr} {o : Obj} {es : Array (Int × Value)} {ep : Nat} {t : SetTable}
theorem Qdf (S : SetW w o es ep t) (ho : s.heap.get? a = some o) {i : Nat} {e : Int × Value} (hi : i < es.size) (he : (ordOf w a es ep)[i]? = some e) (hit : s.heap.get? it = some (setItObj a (slotW w t i) i es.size ep)) {Q : Option Value → Shared → Prop}
  (q : ∀ h', h'.get? it = some (setItObj a (slotW w t (i + 1)) (i + 1) es.size ep) → Heap.SameBut it s.heap h' → Q (some e.2) { s with heap := h' }) : wpAny (model prog w) A (callSpecial? (.ref it) (Str.ofString "__next__")) Q E s := by
 have hT : s.TypeIs (.ref it) "set_iterator" := ⟨_, hit, rfl⟩
 refine wpAny_callSpecial?_slot (name := Str.ofString "__next__") hT slot_set_iterator_next
  (wpAny_call_entry slot_set_iterator_next hT Qas ?_ (Qaq _))
 unfold Builtin.«set_iterator.__next__»
 refine wpAny_bind (wpAny_of_eq (a := (Value.ref it, [])) rfl ?_)
 refine wpAny_bind (wpAny_fieldsOf hit rfl ?_)
 refine wpAny_bind (wpAny_setEntries_of ho S.data S.fits ?_)
 refine Qa1 (by simp) ?_
 refine wpAny_bind (Qcq S ho hi he ?_)
 refine wpAny_bind (wpAny_setField_rec hit (by simp) fun h1 hit1 hs1 => ?_)
 refine wpAny_bind (wpAny_setField_rec hit1 (by simp) fun h2 hit2 hs2 => ?_)
 exact wpAny_pure ⟨_, rfl, q h2 hit2 (hs1.trans hs2)⟩
end
section
variable {K : Params → Frag} {N : Nm} {W : Wd} {Ψ : Frm K N W} {vals : Vals} {l : Led}
variable {a it : Addr} {o : Obj} {es : Array (Int × Value)} {ep : Nat} {t : SetTable} {ks : List Int}
theorem Qkp {M R : Led} {Q : VQ} (S : SetW W.w o es ep t) (hm : (a, o) ∈ M ++ R) (q : ∀ x, Q (.ref x) vals (M ++ (x, setItObj a (slotW W.w t 0) 0 es.size ep) :: R)) : WA Ψ (call (.builtin "iter") [.ref a]) Q vals (M ++ R) :=
 Qad fun E s a' => by
  refine call_function_entry (by decide +kernel) (by decide +kernel) kdk_entry_iter (kdk_args_iter _) ?_
  unfold Builtin.«iter»
  refine wpAny_bind (m := someArgs "iter" 1 2 _) (wpAny_of_eq (a := [Value.ref a]) (by first | rfl | kcf_m) ?_)
  show wpAny _ _ (pyIter (.ref a) >>= _) _ _ _
  refine wpAny_bind (Qb9 S (a'.N _ hm).1 ?_)
  exact wpAny_pure ⟨_, rfl, ⟨rfl, rfl⟩, vals, _, a'.push, _, shiftPerm, q _⟩
theorem Qkm {i : Nat} {e : Int × Value} {pre post : Led} {Q : VQ} (S : SetW W.w o es ep t) (hl : l = pre ++ (it, setItObj a (slotW W.w t i) i es.size ep) :: post) (hm : (a, o) ∈ l) (hi : i < es.size) (he : (ordOf W.w a es ep)[i]? = some e)
  (q : Q e.2 vals (pre ++ post)) : WA Ψ (call (.builtin "next") [.ref it]) Q vals l := by
 subst hl
 refine Qbd fun E s a' => ?_
 have ho := (a'.N _ hm).1
 have hit := (a'.N _ (mr (.head _))).1
 have hT : s.TypeIs (.ref it) "set_iterator" := ⟨_, hit, rfl⟩
 refine call_function_entry (by decide +kernel) (by decide +kernel) kdk_entry_next (kdk_args_next _) ?_
 unfold Builtin.«next»
 refine wpAny_bind (m := someArgs "next" 1 2 _) (wpAny_of_eq (a := [Value.ref it]) (by first | rfl | kcf_m) ?_)
 dsimp only
 refine wpAny_bind (wpAny_specialOf (name := Str.ofString "__next__") hT slot_set_iterator_next.lookup ?_)
 refine wpAny_ite_split (fun hab => absurd hab (by decide)) (fun _ => ?_)
 refine wpAny_bind (Qdf S ho hi he hit fun h' hit' hs => ?_)
 exact wpAny_pure ⟨_, rfl, ⟨rfl, rfl⟩, vals, _, a'.upd hs hit', pre ++ post, sA (sD), q⟩
theorem Qcj {Q : VQ} (hm : (a, o) ∈ l) (hc : o.cls = .type "set") (q : Q (.bool false) vals l) : WA Ψ (call (.builtin "isinstance") [.ref a, .type "dict"]) Q vals l := fun E s a' =>
 IsiPair.set_dict (a'.N _ hm).1 hc ⟨⟨rfl, rfl⟩, vals, l, ⟨a'.F, a'.N, a'.U, a'.G⟩, q⟩
theorem Qhv {Q : VQ} (hm : (a, o) ∈ l) (hc : o.cls = .type "set") (q : Q (.bool true) vals l) : WA Ψ (call (.builtin "isinstance") [.ref a, .type "set"]) Q vals l := fun E s a' =>
 IsiPair.set_set (a'.N _ hm).1 hc ⟨⟨rfl, rfl⟩, vals, l, a', q⟩
theorem Qfu {Q : VQ} (hm : (a, o) ∈ l) (hc : o.cls = .type "dict") (q : Q (.bool true) vals l) : WA Ψ (call (.builtin "isinstance") [.ref a, .type "dict"]) Q vals l := fun E s a' =>
 IsiPair.dict_dict (a'.N _ hm).1 hc ⟨⟨rfl, rfl⟩, vals, l, a', q⟩
theorem Qhu {tp : Addr} {Q : VQ} (hm : (a, o) ∈ l) (hc : o.cls = .type "set") (ht : (tp, tupObj [.type "set", .type "frozenset"]) ∈ l) (q : Q (.bool true) vals l) : WA Ψ (call (.builtin "isinstance") [.ref a, .ref tp]) Q vals l := fun E s a' =>
 IsiPair.tupleOfB (Tx := "set") (cs := [.type "set", .type "frozenset"]) (vs := [true, false]) (b := true) (AnswersAll.cons (Answers.of_true PySem.F.isi_meta_set PySem.F.sub_set_set) (AnswersAll.cons (Answers.of_false_set (by decide +kernel) PySem.F.isi_meta_frozenset PySem.F.sub_set_frozenset) AnswersAll.nil)) ⟨o, (a'.N _ hm).1, hc⟩ (a'.N _ ht).1 rfl
  fun tk => ⟨⟨rfl, rfl⟩, vals, l, ⟨a'.F, a'.N, a'.U, a'.G⟩, q⟩
theorem Qom {Q : BQ} (hm : (a, o) ∈ l) (I : SetI o t ks) (hz : ks.length ≤ 1000) (q : Q (!ks.isEmpty) vals l) : WA Ψ (truthy (.ref a)) Q vals l := fun E s a' => by
 have ho := (a'.N _ hm).1
 have hT := setTypeIs I ho
 kcj_m
 obtain ⟨es, ep, hex, hd, hh, hI, hf⟩ := I
 kd_p1
 have hn : es.size = ks.length := by have := Qai hI; simpa using this
 have hne : ((es.size : Int) != 0) = !ks.isEmpty := by rw [hn]; cases ks <;> simp <;> exact Q5i
 have key : wpAny (model W.prog W.w) Ψ.A (runValue (.builtin "len" ⟨[.ref a], []⟩)) (fun r s' => r = .int es.size (s.toks + 1) ∧ (Same s s' ∧ ∃ vals' l', At Ψ vals' l' s' ∧ Q (!ks.isEmpty) vals' l')) E s := by
  refine wpAny_runValue (codeAny_builtin entry_len ?_)
  rw [Around.under_plainId plain_len _]
  exact wpAny_mono (wpAny_len_body_set (Q := fun r s' => r = .int es.size (s.toks + 1) ∧ (Same s s' ∧ ∃ vals' l', At Ψ vals' l' s' ∧ Q (!ks.isEmpty) vals' l')) ho hex hd hf (by exact Q5h hz hn) ⟨rfl, ⟨rfl, rfl⟩, vals, l, ⟨a'.F, a'.N, a'.U, a'.G⟩, q⟩)
   (fun fin s' h' => by obtain ⟨r, rfl, hq⟩ := h'; exact hq) fun _ _ e => e
 unfold truthy
 first
  | refine wpAny_bind (wpAny_callSpecial?_none (name := Str.ofString "__bool__") hT Qfy ?_)
  | refine wpAny_bind (wpAny_pure (wpAny_bind (wpAny_callSpecial?_none (name := Str.ofString "__bool__") hT Qfy ?_)))
 first
  | refine wpAny_bind (wpAny_specialOf (name := Str.ofString "__len__") hT PySem.F.slot_set_len.lookup ?_)
  | refine wpAny_bind (wpAny_pure (wpAny_bind (wpAny_specialOf (name := Str.ofString "__len__") hT PySem.F.slot_set_len.lookup ?_)))
 first
  | exact wpAny_bind (wpAny_mono key (fun r s' h' => by obtain ⟨rfl, hq⟩ := h'; exact wpAny_pure (hne ▸ hq)) fun _ _ e => e)
  | exact wpAny_bind (wpAny_pure (wpAny_bind (wpAny_mono key (fun r s' h' => by obtain ⟨rfl, hq⟩ := h'; exact wpAny_pure (hne ▸ hq)) fun _ _ e => e)))
theorem Qd8 {M R : Led} {Q : VQ} (q : ∀ x, Q (.ref x) vals (M ++ (x, freshSet W.w) :: R)) : WA Ψ (newSet (.type "set")) Q vals (M ++ R) := Qad fun E s a' => by
 unfold newSet setsByText
 refine wpAny_bind (wpAny_bind (wpAny_askSetting (wpAny_pure ?_)))
 dsimp only
 simp only [newObj]
 exact wpAny_bind (wpAny_alloc (wpAny_pure ⟨⟨rfl, rfl⟩, vals, _, a'.push, _, shiftPerm, q _⟩))
theorem Qoo {M R : Led} {Q : VQ} (q : ∀ x led, Q (.ref x) vals (M ++ (x, { cls := .type "set", dict := none, data := .set #[] 0 (.fresh 0 0 led) }) :: R)) : WA Ψ (call (.type "set") []) Q vals (M ++ R) :=
 Qad fun E s a' => call_set_0 fun led => ⟨⟨rfl, rfl⟩, vals, _, a'.push, _, shiftPerm, q _ led⟩
theorem SetI.objOf {o : Obj} (I : SetI o t ks) : o.SetObjOf (intKind W.prog W.w) (fun k => decide (k ∈ ks)) ks.length := by
 kcj_m
 obtain ⟨es, ep, hex, hd, hh, hI, hf⟩ := I
 kd_p1
 have hn : es.size = ks.length := by have := Qai hI; simpa using this
 refine ⟨hex, es, ep, t, hd, Qep hh hI, fun k => ?_, hn, hf⟩
 rw [decide_eq_true_eq, Qeo hI]
 constructor
 ·rintro ⟨v, hv, tk, rfl⟩
  obtain ⟨e, he, hev⟩ := List.mem_map.mp hv
  exact ⟨e, he, by rw [hev]; exact intKind_is _ _ _ _⟩
 ·rintro ⟨e, he, hk⟩
  obtain ⟨tk, ht⟩ := Value.isInt_shape hk
  exact ⟨e.2, List.mem_map_of_mem he, tk, ht⟩
theorem SetI.walk {w : World} {o : Obj} (I : SetI o t ks) (hled : ks ≠ [] → t.led = !(byT w)) (hpl : t.plain = true) (hr : ∀ i, i ≤ ks.length → SetTable.below t.place (slotAt t i) = i) : ∃ es ep, SetW w o es ep t ∧ IntsAre (es.toList.map (·.2)) ks ∧ es.size = ks.length := by
 kcj_m
 obtain ⟨es, ep, hex, hd, hh, hI, hf⟩ := I
 kd_p1
 have hn : es.size = ks.length := by have := Qai hI; simpa using this
 refine ⟨es, ep, ⟨hex, hd, hf, fun hE => hled fun h0 => ?_, hpl, fun i hi => hr i (by exact Q5g hn hi)⟩, hI, hn⟩
 rw [h0] at hn
 have : es.isEmpty = true := by simpa [Array.isEmpty] using hn
 rw [this] at hE; cases hE
end
end
section
noncomputable def subl : List Int → List (List Int)
 | [] => [[]]
 | x :: r => subl r ++ (subl r).map (x :: ·)
noncomputable def tabM (mask moves : Nat) (led : Bool) (ks : List Int) : SetTable := { mask := mask, place := (ks.map fun k => (k % ((mask : Int) + 1)).toNat).toArray, dummies := #[], finger := 0, led := led, moves := moves, plain := true }
noncomputable def states (U U' : List Int) (led : Bool) : List (SetTable × List Int) :=
 ((subl U).filter (·.length ≤ 4)).map (fun ks => (tabM 7 0 led ks, ks)) ++ [(tabM 31 1 led U', U'), (tabM 15 1 led U', U')]
noncomputable def famOk (U U' : List Int) (led : Bool) (s : SetTable × List Int) : Bool :=
 (List.range (s.2.length + 1)).all (fun i => SetTable.below s.1.place (slotAt s.1 i) == i) && decide (s.2.length ≤ 5) && (s.1.led == led) && s.1.plain && s.2.all (fun j => U.contains j) &&
 (s.2.isEmpty || match copyT led s.1 s.2 with
  | some s' => (states U U' led).contains s' && U.all (fun j => s'.2.contains j == s.2.contains j)
  | none => false) && (!s.2.isEmpty || (s.1 == SetTable.fresh 0 0 led)) &&
 U.all fun k => s.2.contains k || (match addT s.1 s.2 k with
  | some s' => (states U U' led).contains s' && U.all (fun j => s'.2.contains j == (s.2.contains j || j == k))
  | none => false)
noncomputable abbrev famAll (U U' : List Int) (led : Bool) : Prop := ∀ s ∈ states U U' led, famOk U U' led s = true
noncomputable abbrev U1 : List Int := [104, 105, 101, 102, 103]
noncomputable abbrev U1' : List Int := [101, 102, 103, 104, 105]
noncomputable abbrev U2 : List Int := [0, 1, 2, 3, 4]
theorem Qpb : ∀ led, famAll U1 U1' led := fun led => List.all_eq_true.mp (by cases led <;> decide +kernel)
theorem Qpa : ∀ led, famAll U2 U2 led := fun led => List.all_eq_true.mp (by cases led <;> decide +kernel)
structure FamOk (U U' : List Int) (led : Bool) (t : SetTable) (ks : List Int) : Prop where
 rise : ∀ i, i ≤ ks.length → SetTable.below t.place (slotAt t i) = i
 n5 : ks.length ≤ 5
 hled : t.led = led
 plain : t.plain = true
 sub : ∀ k ∈ ks, k ∈ U
 copy : ∃ t' ks', ((ks = [] ∧ ks' = [] ∧ t' = .fresh 0 0 led) ∨ (ks ≠ [] ∧ copyT led t ks = some (t', ks'))) ∧ (t', ks') ∈ states U U' led ∧ ∀ j, j ∈ ks' ↔ j ∈ ks
 nil : ks = [] → t = .fresh 0 0 led
 add : ∀ k ∈ U, k ∉ ks → ∃ t' ks', addT t ks k = some (t', ks') ∧ (t', ks') ∈ states U U' led ∧ ∀ j, j ∈ ks' ↔ j ∈ ks ∨ j = k
theorem Qjj : ∀ U, ([] : List Int) ∈ subl U
 | [] => .head _
 | x :: r => List.mem_append_left _ (Qjj r)
theorem Qc2 (U U' : List Int) (led : Bool) : (SetTable.fresh 0 0 led, ([] : List Int)) ∈ states U U' led :=
 List.mem_append_left _ (List.mem_map.mpr ⟨[], List.mem_filter.mpr ⟨Qjj U, rfl⟩, rfl⟩)
theorem Qlv {U U' : List Int} {led : Bool} (h : famAll U U' led) {s : SetTable × List Int} (hs : s ∈ states U U' led) : ∀ k ∈ s.2, k ∈ U := by
 have h := h s hs
 unfold famOk at h
 simp only [Bool.and_eq_true, List.all_eq_true, List.contains_iff_mem] at h
 exact h.1.1.1.2
theorem Qlw {U U' : List Int} {led : Bool} (h : famAll U U' led) {t : SetTable} {ks : List Int} (hs : (t, ks) ∈ states U U' led) : FamOk U U' led t ks := by
 have hsub := Qlv h hs
 have h0 := h _ hs
 unfold famOk at h0
 simp only [Bool.and_eq_true, List.all_eq_true, decide_eq_true_eq, beq_iff_eq, Bool.or_eq_true, List.contains_iff_mem, Bool.not_eq_true'] at h0
 kcj_m
 obtain ⟨⟨⟨⟨⟨⟨⟨h1, h2⟩, h3⟩, h4⟩, _⟩, h5⟩, h6⟩, h7⟩ := h0
 kd_p1
 have hk : ∀ (t' : SetTable) (ks' : List Int) (p : Int → Prop), (t', ks') ∈ states U U' led → (∀ j, p j → j ∈ U) → (∀ j ∈ U, j ∈ ks' ↔ p j) → ∀ j, j ∈ ks' ↔ p j := fun t' ks' p m hp hh j =>
  ⟨fun hj => (hh j (Qlv h m j hj)).mp hj, fun hj => (hh j (hp j hj)).mpr hj⟩
 refine ⟨fun i hi => h1 i (List.mem_range.mpr (by exact Q5f hi)), h2, h3, h4, hsub, ?_, fun he => ?_, fun k hkU hn => ?_⟩
 ·rcases h5 with h5 | h5
  ·have e : ks = [] := by simpa using h5
   subst e
   exact ⟨_, [], .inl ⟨rfl, rfl, rfl⟩, Qc2 U U' led, fun j => Iff.rfl⟩
  ·split at h5
   ·rename_i s' he
    obtain ⟨t', ks'⟩ := s'
    simp only [Bool.and_eq_true, List.all_eq_true, beq_iff_eq, List.contains_iff_mem] at h5
    by_cases e : ks = []
    ·subst e
     exact ⟨_, [], .inl ⟨rfl, rfl, rfl⟩, Qc2 U U' led, fun j => Iff.rfl⟩
    ·refine ⟨t', ks', .inr ⟨e, he⟩, h5.1, hk t' ks' _ h5.1 hsub fun j hj => ?_⟩
     have := h5.2 j hj
     rw [Bool.eq_iff_iff] at this
     simpa using this
   ·cases h5
 ·rcases h6 with h6 | h6
  ·rw [he] at h6; cases h6
  ·exact h6
 ·have := (h7 k hkU).resolve_left hn
  split at this
  ·rename_i s' he
   obtain ⟨t', ks'⟩ := s'
   simp only [Bool.and_eq_true, List.all_eq_true, beq_iff_eq, List.contains_iff_mem] at this
   refine ⟨t', ks', he, this.1, hk t' ks' _ this.1 (fun j hj => hj.elim (hsub j) fun e => e ▸ hkU) fun j hj => ?_⟩
   have := this.2 j hj
   rw [Bool.eq_iff_iff] at this
   simpa using this
  ·cases this
theorem Qe3 {U U' : List Int} {led : Bool} (h : famAll U U' led) : ∀ (xs : List Int) (t : SetTable) (ks : List Int), (t, ks) ∈ states U U' led → (∀ x ∈ xs, x ∈ U) → ∃ t' ks', foldS (t, ks) xs = some (t', ks') ∧ (t', ks') ∈ states U U' led ∧ ∀ j, j ∈ ks' ↔ j ∈ ks ∨ j ∈ xs
 | [], t, ks, hk, _ => ⟨t, ks, rfl, hk, fun j => by simp⟩
 | x :: xs, t, ks, hk, hx => by
  unfold foldS
  by_cases hm : x ∈ ks
  ·rw [if_pos hm]
   kcj_m
   obtain ⟨t', ks', h1, h2, h3⟩ := Qe3 h xs t ks hk fun y hy => hx y (.tail _ hy)
   kd_p1
   refine ⟨t', ks', h1, h2, fun j => ?_⟩
   rw [h3 j, List.mem_cons]
   constructor
   ·rintro (h | h)
    ·exact .inl h
    ·exact .inr (.inr h)
   ·rintro (h | rfl | h)
    ·exact .inl h
    ·exact .inl hm
    ·exact .inr h
  ·rw [if_neg hm]
   kcj_m
   obtain ⟨t1, k1, a1, a2, a3⟩ := (Qlw h hk).add x (hx x (.head _)) hm
   kd_p1
   simp only [a1]
   kcj_m
   obtain ⟨t', ks', h1, h2, h3⟩ := Qe3 h xs t1 k1 a2 fun y hy => hx y (.tail _ hy)
   kd_p1
   refine ⟨t', ks', h1, h2, fun j => ?_⟩
   rw [h3 j, a3 j, List.mem_cons, or_assoc]
structure SetF (w : World) (U U' : List Int) (o : Obj) (t : SetTable) (ks : List Int) : Prop where
 I : SetI o t ks
 m : (t, ks) ∈ states U U' (!(byT w))
theorem SetF.ok {w : World} {U U' ks : List Int} {t : SetTable} {o : Obj} (h : famAll U U' (!(byT w))) (F : SetF w U U' o t ks) : FamOk U U' (!(byT w)) t ks := Qlw h F.m
theorem SetF.walk {w : World} {U U' ks : List Int} {t : SetTable} {o : Obj} (h : famAll U U' (!(byT w))) (F : SetF w U U' o t ks) : ∃ es ep, SetW w o es ep t ∧ IntsAre (es.toList.map (·.2)) ks ∧ es.size = ks.length :=
 SetI.walk F.I (fun _ => (F.ok h).hled) (F.ok h).plain (F.ok h).rise
theorem SetF.fresh {w : World} {U U' : List Int} : SetF w U U' (freshSet w) (.fresh 0 0 (!(byT w))) [] := ⟨freshI, Qc2 U U' _⟩
end
section
section
variable {K : Params → Frag} {N : Nm} {W : Wd} {Ψ : Frm K N W} {vals : Vals} {l : Led} {a : Addr} {o : Obj} {S : Int → Bool} {n : Nat} {k : Int} {tk : Tok}
theorem Qfa {pl : Sem Bool} {Q : MQ} (hm : (a, o) ∈ l) (ho : o.SetObjOf (intKind W.prog W.w) S n) (hb : n < scanBound) (q : Q (.builtin "set.add", [.ref a]) vals l) : WA Ψ (getMethod (.ref a) "add" pl) Q vals l := fun E s a' =>
 getMethod_set_add (ho.setOf (a'.N _ hm).1 hb) ⟨Same.refl s, vals, l, a', q⟩
theorem Qop {pre post : Led} {Q : VQ} (hl : l = pre ++ (a, o) :: post) (ho : o.SetObjOf (intKind W.prog W.w) S n) (hb : n + 1 < scanBound)
  (q : ∀ o', o'.SetObjOf (intKind W.prog W.w) (fun k' => S k' || decide (k' = k)) (if S k then n else n + 1) → Q .none vals (pre ++ (a, o') :: post)) : WA Ψ (call (.builtin "set.add") [.ref a, .int k tk]) Q vals l := fun E s a' => by
 subst hl
 have hm := (a'.N _ (mr (.head _))).1
 refine call_set_add (intKind_is _ _ _ _) rfl (ho.setOf hm (by exact Q5e hb)) hb fun h' hsb hS' => ?_
 obtain ⟨so', ho', hso'⟩ := hS'.objOf
 exact ⟨⟨rfl, rfl⟩, vals, _, a'.upd hsb ho', q so' hso'⟩
theorem Qmm {Q : VQ} (hm : (a, o) ∈ l) (ho : o.SetObjOf (intKind W.prog W.w) S n) (hz : n < 4096) (q : ∀ t, Q (.int n t) vals l) : WA Ψ (call (.builtin "len") [.ref a]) Q vals l := fun E s a' => by
 kcj_m
 obtain ⟨hex, es, ep, t, hd, _, _, hn, hf⟩ := ho
 kd_p1
 subst hn
 exact call_len_set (a'.N _ hm).1 hex hd hf (by exact Q5d hz) ⟨⟨rfl, rfl⟩, vals, l, ⟨a'.F, a'.N, a'.U, a'.G⟩, q _⟩
theorem Qer {U U' ks : List Int} {t : SetTable} {pre post : Led} {Q : VQ} (h : famAll U U' (!(byT W.w))) (hl : l = pre ++ (a, o) :: post) (F : SetF W.w U U' o t ks) (hU : k ∈ U)
  (q : ∀ o' t' ks', SetF W.w U U' o' t' ks' → (∀ j, j ∈ ks' ↔ j ∈ ks ∨ j = k) → Q .none vals (pre ++ (a, o') :: post)) : WA Ψ (call (.builtin "set.add") [.ref a, .int k tk]) Q vals l := by
 have f := F.ok h
 have h5 := f.n5
 by_cases hk : k ∈ ks
 ·subst hl
  exact Qhm (mr (.head _)) F.I hk (by unfold scanBound; exact Qkj h5) (q o t ks F fun j => ⟨.inl, fun h => h.elim id fun e => e ▸ hk⟩)
 ·kcj_m
  obtain ⟨t', ks', h1, h2, h3⟩ := f.add k hU hk
  kd_p1
  exact Qhn hl F.I hk h1 (by unfold scanBound; exact Q5c h5) fun o' I' => q o' t' ks' ⟨I', h2⟩ h3
end
end
section
section
variable {prog : Program} {w : World} {A : Around} {E : Value → Shared → Prop} {s : Shared}
theorem Qgo {Q₁ : Value → Shared → Prop} (h : Q₁ (.ref s.heap.objs.size) { s with heap := s.heap.push (freshSet w) }) :
  codeAny (model prog w) A (.call (.builtin "set.__new__") ⟨[.type "set"], []⟩) (wants Q₁ E) s := by
 refine codeAny_of_tree ?_
 show wpAny _ A.in1 (do checkBuiltinCall "set.__new__" ⟨[.type "set"], []⟩; again (.builtin "set.__new__" ⟨[.type "set"], []⟩)) _ _ s
 refine wpAny_bind (wpAny_of_eq PySem.F.newCall_set_0 (wpAny_pure ⟨plainId_quiet PySem.F.plain_set_new _, codeAny_builtin PySem.F.entry_set_new ?_⟩))
 rw [Around.under_plainId PySem.F.plain_set_new _]
 unfold Builtin.«set.__new__» Builtin.Frozenset.newClass
 have hsub := sub_set_self
 obtain ⟨hp, g, d, tk, os⟩ := s
 dsimp only
 wp_walk
 refine wpAny_askSetting (wpAny_pure ?_)
 dsimp only
 simp only [newObj]
 refine wpAny_bind (wpAny_alloc (wpAny_pure ?_))
 exact wpAny_pure h
set_option maxHeartbeats 3200000 in
theorem Ql1 {Q : Value → Shared → Prop} (h : Q (.ref s.heap.objs.size) { s with heap := s.heap.push (freshSet w) }) : wpAny (model prog w) A (call (.type "set") []) Q E s := by
 obtain ⟨c, tl, hmro⟩ := PySem.F.called_set.mro
 have hmade := PySem.F.called_set.made
 have hsub := PySem.F.called_set.sub
 refine wpAny_call (codeAny_of_tree ?_)
 show wpAny _ _ (callAny (.type "set") _) _ _ _
 refine wpAny_pure ⟨Code.quiet_builtin _ (by decide +kernel), codeAny_builtin PySem.F.entry_type_call ?_⟩
 rw [Around.under_plain (weight_type_call_type "set" [] []) rfl]
 have h1 := PySem.F.called_set.notType
 have h2 := PySem.F.called_set.canCreate
 have hct := PySem.F.typeCall_set_0
 repeat (any_goals (first | assumption | wp_step))
 refine codeAny_mono (Qgo (E := E) (Q₁ := fun obj s₁ => obj = .ref s.heap.objs.size ∧ s₁ = { s with heap := s.heap.push (freshSet w) }) ⟨rfl, rfl⟩) fun r s₁ hr => ?_
 cases r with
 | error e => exact hr
 | ok fl =>
  cases fl with
  | ret obj =>
   obtain ⟨rfl, rfl⟩ := hr
   have hS : (s.heap.push (freshSet w)).get? s.heap.objs.size = some (freshSet w) := Heap.get?_push_size _ rfl
   have hT : Shared.TypeIs { s with heap := s.heap.push (freshSet w) } (.ref s.heap.objs.size) "set" := ⟨_, hS, rfl⟩
   have hli := PySem.F.called_set.init.lookup
   have hbi := PySem.F.called_set.init.bind (.ref s.heap.objs.size)
   repeat (any_goals (first | assumption | wp_step))
   refine codeAny_mono (codeAny_call_builtin (R := wants (fun r s₂ => r = .none ∧ Q (.ref s.heap.objs.size) s₂) E) PySem.F.called_set.init.plain PySem.F.entry_set_init (check_set_init hT ?_)) fun r₂ s₂ hr₂ => ?_
   ·unfold Builtin.«set.__init__» noKeywords
    wp_walk
    exact ⟨rfl, h⟩
   ·cases r₂ with
    | error e => exact hr₂
    | ok fl₂ =>
     cases fl₂ with
     | ret r =>
      obtain ⟨rfl, hq⟩ := hr₂
      repeat (any_goals (first | assumption | wp_step))
     | _ => exact hr₂.elim
  | _ => exact hr.elim
end
section
variable {K : Params → Frag} {N : Nm} {W : Wd} {Ψ : Frm K N W} {vals : Vals} {l : Led}
theorem Qe9 {M R : Led} {Q : VQ} (q : ∀ x, Q (.ref x) vals (M ++ (x, freshSet W.w) :: R)) : WA Ψ (call (.type "set") []) Q vals (M ++ R) :=
 Qad fun E s a' => Ql1 ⟨⟨rfl, rfl⟩, vals, _, a'.push, _, shiftPerm, q _⟩
end
end
section
theorem Qc5 {kof : Str → Option NameKind} {n : Str} {v : Value} {r : List (Str × Value)} {m : Str → Option Value} (h : kof n = some .cell) : bindL kof ((n, v) :: r) m = bindL kof r m := by
 show bindL kof r (if kof n = some .local then _ else m) = _
 rw [h, if_neg (by decide)]
theorem Qbt {kof : Str → Option NameKind} {n : Str} {v : Value} {r : List (Str × Value)} {m : Str → Option Value} (h : kof n = some .local) : bindL kof ((n, v) :: r) m = bindL kof r (fun y => if y = n then some v else m y) := by
 show bindL kof r (if kof n = some .local then _ else m) = _
 rw [h, if_pos rfl]
end
section
noncomputable def fn177 : FnIn 177 := by
 refine' mkFn ?ok ?hb
 case ok => intro P; k_is
 case hb => exact rfl
@[reducible] noncomputable def N177 : Nm := ⟨["d", "u"], ["isinstance", "dict", "set", "frozenset", "next", "iter"]⟩
theorem sc177 : ScOk fn177.fd.scope.names N177.loc N177.glo := by
 refine Qah ?_
 kcf_m
theorem Qw3 (P : Params) : FnOkC (hK P) 177 fn177.fd fn177.body := ⟨⟨_, _, _, fn177.ok P⟩, by kcf_m, fn177.hb, rfl, rfl, rfl, rfl, rfl, rfl⟩
theorem ck177 : fn177.fd.scope.names.lookup ("self" : Str) = some NameKind.cell := by kcf_m
theorem Qn8 (n : Nat) : cellsFrom n fn177.fd.scope.names [] = [(("self" : Str), n)] := by kcf_m
section
theorem Qv3 {d : Addr} {od : Obj} {dt : SetTable} {ks : List Int} {Q : VQ} (G : Good W sa b σ) (hr : Room Ψ.A 8) (hd : (d, od) ∈ Rl) (I : SetF W.w U1 U1' od dt ks)
  (hS : ∀ x, x ∈ ks → ∃ j t, valueAt b.vk x = some (.int j t) ∧ j ∈ U2)
  (q : ∀ x o' t' ks', SetF W.w U2 U2 o' t' ks' → (∀ j, j ∈ ks' ↔ ∃ x t, x ∈ ks ∧ valueAt b.vk x = some (.int j t)) → Q (.ref x) vals (mgL b ++ (x, o') :: Rl)) :
  WA Ψ (call (.ref 177) [.ref sa, .ref d]) Q vals (mgL b ++ Rl) := by
 refine Qcl (N' := N177) (Qw3 _) sc177 hr (binds := [("self", .ref sa), ("d", .ref d)]) (fun s _ => .of_eq rfl) (fun n x hx => ?_) (by rw [Qn8]; simp) (v0 := [some (.ref d), none]) ?_ ?_
 ·rcases List.mem_cons.mp hx with rfl | hx
  ·exact .inr ⟨ck177, by rw [Qn8]; rfl⟩
  ·rcases List.mem_cons.mp hx with rfl | hx
   ·exact .inl (sc177.loc _ (.head _)).1
   ·cases hx
 ·rw [Qc5 ck177, Qbt (sc177.loc _ (.head _)).1]
  funext x
  simp only [bindL, fr]
  split
  ·rfl
  ·split <;> rfl
 intro Ψ' cells he hr' hc
 rw [Qn8] at hc
 obtain ⟨oc, rfl, hoc⟩ := CellsAre.one hc
 have hocv : bindC (fun x => fn177.fd.scope.names.lookup x) [("self", .ref sa), ("d", .ref d)] (fun _ => none) "self" = some (.ref sa) := by
  kcf_m
 rw [hocv] at hoc
 have at0 := G.at'
 have hs := G.hs
 dsimp only [fn177, mkFn]
 rw [List.append_assoc]
 (ctx_mentions Ua Ya Xi Fb Pa Yo Vb Yl Pa Zh)
 have hd1 : ∀ {x : Addr × Obj}, (d, od) ∈ mgL b ++ ([x] ++ Rl) := mr (.tail _ hd)
 have hcls : od.cls = .type "set" := let ⟨_, _, hex, _⟩ := I.I; hex.1
 refine Qcj hd1 hcls ?_
 (ctx_mentions Zr Ma Ua Ya Xi Fb Pa Yo Vb Yl Xg Yl Pa Yl Pa Zh)
 refine Qab (vs := [.type "set", .type "frozenset"]) (Qac (n := 2) (by kd_p)) fun tp => ?_
 refine Qhu (a := d) (mr (.tail _ (.tail _ hd))) hcls (mr (.head _)) ?_
 (ctx_mentions Zr Mb Ua Xa Fb Pa Yp Vb Zh)
 have hh : Ψ'.A.handled = none := hr'.hh
 have hfam1 := Qpb (!(byT W.w))
 have hfI := I.ok hfam1
 obtain ⟨t2, k2, hcp, hst2, hk2⟩ := hfI.copy
 refine Qe8 (a := d) (mr (.tail _ (.tail _ hd))) I.I hfI.n5 hcp fun d2 o2 I2' => ?_
 have I2 : SetF W.w U1 U1' o2 t2 k2 := ⟨I2', hst2⟩
 have hS2 : ∀ x, x ∈ k2 → ∃ j t, valueAt b.vk x = some (.int j t) ∧ j ∈ U2 := fun x hx => hS x ((hk2 x).mp hx)
 have hm2 : ∀ {x y : Led}, (d2, o2) ∈ x ++ (d2, o2) :: y := mr (.head _)
 have hcls2 : o2.cls = .type "set" := let ⟨_, _, hex, _⟩ := I2'; hex.1
 have hkl := (I2.ok hfam1).n5
 (ctx_mentions Vc Zb Za Zb Za Zb Ua Ya Yh Xi Va)
 refine Qom hm2 I2' (by exact Qua hkl) ?_
 cases hks : k2 with
 | nil =>
  subst hks
  (ctx_mentions Mb Ua Ya Xi Fb Pa Yo Vb Yl Pa Zh)
  refine Qcj hm2 hcls2 ?_
  (ctx_mentions Zr Ma Ua Ya Xi Fb Pa Yo Vb Yl Pa Zh)
  refine Qhv hm2 hcls2 ?_
  (ctx_mentions Zr Mb Ua Yb Fb Pa Yp Zh)
  refine Qe9 fun d3 => ?_
  (ctx_mentions Zc Zc Zc Zc)
  refine ⟨mgL b ++ (d3, _) :: Rl, sA (sB ?_), q d3 _ _ [] SetF.fresh (fun j => ?_)⟩
  ·exact sC (sC (sC (List.Sublist.refl _)))
  ·have : ks = [] := List.eq_nil_iff_forall_not_mem.mpr fun x hx => by have := (hk2 x).mpr hx; simp at this
   subst this
   simp
 | cons k0 kr =>
  have hne : k2 ≠ [] := by rw [hks]; simp
  (ctx_mentions Ma Za Zb Ua Xa Fb Pa Yo Yl Fb Pa Yo Vb Zh)
  obtain ⟨es, ep, SW, hI2, hen⟩ := SetF.walk hfam1 I2
  refine Qkp SW hm2 fun it => ?_
  (ctx_mentions Zh)
  kcj_m
  obtain ⟨xs, hxs, hpx⟩ := Qds ((Qb2 W.w d2 es ep).symm.map (·.2)) hI2
  have hxn : xs.length = es.size := by rw [hpx.length_eq, hen]
  have hosz := Qbb W.w d2 es ep
  have hel : ∀ i (hi : i < es.size), ∃ e t, (ordOf W.w d2 es ep)[i]? = some e ∧ e.2 = .int (xs[i]'(by exact Qdx hxn hi)) t := fun i hi => by
   kcj_m
   obtain ⟨t, ht⟩ := Qap hxs (List.getElem?_eq_getElem (by exact Qdx hxn hi : i < xs.length))
   rw [List.getElem?_map, Array.getElem?_toList] at ht
   obtain ⟨e, he', ht'⟩ := Option.map_eq_some_iff.mp ht
   kd_p1
   exact ⟨e, t, he', ht'⟩
  have hmem : ∀ i (hi : i < es.size), xs[i]'(by exact Qdx hxn hi) ∈ k2 := fun i hi => hpx.mem_iff.mp (List.getElem_mem _)
  kd_p1
  have hes0 : 0 < es.size := by rw [hen]; exact List.length_pos_iff.mpr hne
  obtain ⟨e0, t0, he0, hv0⟩ := hel 0 hes0
  refine Qkm (i := 0) (pre := mgL b) SW rfl (mr (.tail _ (.head _))) hes0 he0 ?_
  rw [hv0]
  (ctx_mentions Vc Zb Ua Ya Xf Va Xj)
  have hck : Ψ'.env.kindOf "self" = some .cell := by rw [he]; exact ck177
  have hlk : Ψ'.env.cells.lookup ("self" : Str) = some (Ψ'.L + 1) := by rw [he]; show (cellsFrom (Ψ'.L + 1) fn177.fd.scope.names []).lookup ("self" : Str) = _; rw [Qn8]; rfl
  refine Qao Ψ'.e.kind hck hlk (o := oc) (mr (.tail _ (.tail _ (.head _)))) hoc (by decide) ?_
  (ctx_mentions Ga)
  kcj_m
  obtain ⟨j0, tj0, hj0, _⟩ := hS2 _ (hmem 0 hes0)
  kd_p1
  refine Qa9 (intKind_is _ _ _ _) Qbv G.r.v1 ?_
  rw [hj0]
  (ctx_mentions Zr Ma Za Zb Ua Ya Xi Fb Pa Yo Vb Yl Pa Zh)
  refine Qcj hm2 hcls2 ?_
  (ctx_mentions Zr Ma Ua Yb)
  refine Qf4 (cl := [("self", Ψ'.L + 1)]) (by rw [he]; rfl) rfl (by decide) (by decide) (by rw [he]; exact Qah (by kcf_m)) ?_ (by intro _; with_unfolding_all rfl)
  (ctx_mentions Va)
  refine Qdh SW hm2 fun it2 => ?_
  refine Qd8 fun d3 => ?_
  intro Ψ2 he2 ha2
  have hfam2 := Qpa (!(byT W.w))
  have hbd : (b.vk.length : Int) = σ.nv := by rw [G.r.v4]; rfl
  refine ⟨?_, Qby (es := es) (mr (.tail _ (.head _))) ⟨rfl, rfl, rfl⟩⟩
  let J : Nat → Vals → Led → Prop := fun m vals' l' => Ex5 fun (i : Nat) (o3 : Obj) (t3 : SetTable) (k3 : List Int) (ov : Option Value) => An6 (m = es.size - i) (i ≤ es.size) (SetF W.w U2 U2 o3 t3 k3) ((∀ j, j ∈ k3 ↔ ∃ x t, x ∈ xs.take i ∧ valueAt b.vk x = some (.int j t))) (vals' = [ov]) (l' = mgL b ++ (d3, o3) :: (it2, setItObj d2 (slotW W.w t2 i) i es.size ep) :: (d2, o2) :: (tp, tupObj [.type "set", .type "frozenset"]) :: ([(Ψ'.L + 1, oc)] ++ Rl))
  refine WC.inv J ?_ es.size ⟨0, freshSet W.w, _, [], none, rfl, Nat.zero_le _, SetF.fresh, fun j => by simp, rfl, rfl⟩
  rintro m _ _ ⟨i, o3, t3, k3, ov, hm', hi', I3, hk3, rfl, rfl⟩ again
  refine Mine.WC.letV ?_; intro vv
  refine Qgs ?_
  by_cases hie : i = es.size
  ·subst hie
   refine Qch (o := o2) (pre := mgL b ++ [(d3, o3)]) (by rw [ha2]; exact hh) SW (by rw [List.append_assoc]; rfl) (by simp) ?_
   refine ⟨mgL b ++ (d3, o3) :: Rl, ?_, Zc (Zc ⟨_, List.Sublist.refl _, q d3 o3 _ k3 I3 (fun j => ?_)⟩)⟩
   ·rw [List.append_assoc]
    refine sA (sB (sC (sC (sC (List.Sublist.refl _)))))
   ·rw [hk3, List.take_of_length_le (by exact Qgr hxn)]
    constructor
    ·rintro ⟨x, t, h1, h2⟩; exact ⟨x, t, (hk2 x).mp (hpx.mem_iff.mp h1), h2⟩
    ·rintro ⟨x, t, h1, h2⟩; exact ⟨x, t, hpx.mem_iff.mpr ((hk2 x).mpr h1), h2⟩
  ·have hil : i < es.size := by exact Qek hi' hie
   kcj_m
   obtain ⟨ei, ti, hei, hvi⟩ := hel i hil
   kd_p1
   refine Qd7 (o := o2) (pre := mgL b ++ [(d3, o3)]) SW (by rw [List.append_assoc]; rfl) (by simp) hil hei ?_
   rw [hvi, List.append_assoc]
   show WA Ψ2 _ _ _ _
   have hck2 : Ψ2.env.kindOf "self" = some .cell := by
    rw [he2, he]; kcf_m
   kcj_m
   obtain ⟨ji, tji, hji, hjU⟩ := hS2 _ (hmem i hil)
   kd_p1
   (ctx_mentions Zy Zz Vc Yk Xj)
   refine Qao Ψ2.e.kind hck2 (c := Ψ'.L + 1) (by rw [he2]; rfl) (o := oc) (by simp) hoc (by decide) ?_
   (ctx_mentions Ga Va)
   refine dTail Qbv G.r.v1 (Qaw (intKind_is _ _ _ _) Qbv G.r.v1 hji ?_) (by with_unfolding_all rfl)
   have htk : ∀ x, x ∈ xs.take (i + 1) ↔ x ∈ xs.take i ∨ x = xs[i]'(by exact Qdx hxn hil) := fun x => by
    rw [List.take_add_one, List.getElem?_eq_getElem (by exact Qdx hxn hil : i < xs.length), List.mem_append]
    simp
   have hkey : ∀ j, (∃ x t, x ∈ xs.take (i + 1) ∧ valueAt b.vk x = some (.int j t)) ↔ j ∈ k3 ∨ j = ji := fun j => by
    rw [hk3]
    constructor
    ·rintro ⟨x, t, h1, h2⟩
     rcases (htk x).mp h1 with h1 | rfl
     ·exact .inl ⟨x, t, h1, h2⟩
     ·rw [hji] at h2; cases h2; exact .inr rfl
    ·rintro (⟨x, t, h1, h2⟩ | rfl)
     ·exact ⟨x, t, (htk x).mpr (.inl h1), h2⟩
     ·exact ⟨_, tji, (htk _).mpr (.inr rfl), hji⟩
   refine Qer (pre := mgL b) hfam2 rfl I3 hjU fun o4 t4 k4 I4 hk4 => ?_
   refine again (es.size - (i + 1)) _ _ (by exact Qdy hm' hil) ⟨i + 1, o4, t4, k4, _, rfl, by exact Qdg hil, I4, fun j => ?_, rfl, rfl⟩
   rw [hkey, hk4]
end
end
section
theorem Qev : checkTypeCall "dict" ⟨[], []⟩ = Pure.pure () := by kernel_rfl
theorem Qfn : checkBuiltinCall "dict.__new__" ⟨[.type "dict"], []⟩ = Pure.pure () := by kernel_rfl
section
variable {prog : Program} {w : World} {A : Around} {E : Value → Shared → Prop} {s : Shared}
theorem Qin {Q₁ : Value → Shared → Prop} (h : Q₁ (.ref s.heap.objs.size) { s with heap := s.heap.push (dictOf [] 0) }) :
  codeAny (model prog w) A (.call (.builtin "dict.__new__") ⟨[.type "dict"], []⟩) (wants Q₁ E) s := by
 refine codeAny_call_builtin PySem.F.kt_plain_dict_new PySem.F.kt_entry_dict_new (wpAny_of_eq Qfn ?_)
 have hsub := PySem.F.kt_sub_dict
 have hmro := PySem.F.kt_mro_dict
 obtain ⟨hp, g, d, tk, os⟩ := s
 unfold Builtin.«dict.__new__»
 wp_walk
 exact h
theorem Qio {Q : Value → Shared → Prop} (h : Q (.ref s.heap.objs.size) { s with heap := s.heap.push (dictOf [] 0) }) : wpAny (model prog w) A (call (.type "dict") []) Q E s := by
 refine callType_codes (Q₁ := fun obj s₁ => obj = .ref s.heap.objs.size ∧ s₁ = { s with heap := s.heap.push (dictOf [] 0) }) PySem.F.kt_called_dict Qev PySem.F.entry_dict_init (Qin ⟨rfl, rfl⟩) ?_
 rintro obj s₁ ⟨rfl, rfl⟩
 have hT : Shared.TypeIs { s with heap := s.heap.push (dictOf [] 0) } (.ref s.heap.objs.size) "dict" := ⟨_, Heap.get?_push_size _ rfl, rfl⟩
 refine ⟨hT, PySem.F.args_dict_init_1 _, ?_⟩
 unfold Builtin.«dict.__init__»
 refine wpAny_bind ?_
 unfold Builtin.Dict.selfAndRest
 refine wpAny_bind (wpAny_notOrdered_dict hT ?_)
 show wpAny _ _ (Pure.pure (s.heap.objs.size, ([] : List Value))) _ _ _
 refine wpAny_pure ?_
 show wpAny _ _ (Builtin.Dict.addKeywords s.heap.objs.size [] >>= fun _ => PySem.ret Value.none) _ _ _
 refine wpAny_bind ?_
 have hk : Builtin.Dict.addKeywords s.heap.objs.size [] = Pure.pure () := by rfl
 rw [hk]
 exact wpAny_pure (wpAny_pure ⟨rfl, h⟩)
end
section
variable {K : Params → Frag} {N : Nm} {W : Wd} {Ψ : Frm K N W} {vals : Vals} {l : Led}
theorem Qa3 {M R : Led} {Q : VQ} (q : ∀ x, Q (.ref x) vals (M ++ (x, dictOf [] 0) :: R)) : WA Ψ (call (.type "dict") []) Q vals (M ++ R) :=
 Qad fun E s a' => Qio ⟨⟨rfl, rfl⟩, vals, _, a'.push, _, shiftPerm, q _⟩
end
end
section
noncomputable def fn325 : FnIn 325 := by
 refine' mkFn ?ok ?hb
 case ok => intro P; k_is
 case hb => exact rfl
@[reducible] noncomputable def N325 : Nm := ⟨["self", "u", "qvars", "forall", "cache", "ordvar", "j"], ["set", "dict", "sorted"]⟩
theorem Qvr : ScOk fn325.fd.scope.names N325.loc N325.glo := by
 refine Qah ?_
 kcf_m
theorem Qwz (P : Params) : FnOk (hK P) 325 fn325.fd fn325.body := ⟨⟨_, _, _, fn325.ok P⟩, by kcf_m, fn325.hb, rfl, rfl, rfl, rfl, rfl, by kcf_m⟩
noncomputable def fn339 : FnIn 339 := by
 refine' mkFn ?ok ?hb
 case ok => intro P; k_is
 case hb => exact rfl
@[reducible] noncomputable def N339 : Nm := ⟨["self", "qvars", "u"], []⟩
theorem Qvp : ScOk fn339.fd.scope.names N339.loc N339.glo := by
 refine Qah ?_
 kcf_m
theorem Qwx (P : Params) : FnOk (hK P) 339 fn339.fd fn339.body := ⟨⟨_, _, _, fn339.ok P⟩, by kcf_m, fn339.hb, rfl, rfl, rfl, rfl, rfl, by kcf_m⟩
noncomputable def fn346 : FnIn 346 := by
 refine' mkFn ?ok ?hb
 case ok => intro P; k_is
 case hb => exact rfl
@[reducible] noncomputable def N346 : Nm := ⟨["self", "qvars", "u"], []⟩
theorem Qvo : ScOk fn346.fd.scope.names N346.loc N346.glo := by
 refine Qah ?_
 kcf_m
theorem Qww (P : Params) : FnOk (hK P) 346 fn346.fd fn346.body := ⟨⟨_, _, _, fn346.ok P⟩, by kcf_m, fn346.hb, rfl, rfl, rfl, rfl, rfl, by kcf_m⟩
section
structure Full (σ : Sg) : Prop where
 mem : ∀ x, x ∈ U1 ↔ x ∈ σ.order
 len : σ.order.length = 5
noncomputable def lset (σ : Sg) (names : List Int) : Int → Bool := fun j => decide (0 ≤ j ∧ ∃ x ∈ names, σ.order[j.toNat]? = some x)
theorem Full.ext {σ σ' : Sg} (e : Ext σ σ') (h : Full σ) : Full σ' := ⟨fun x => by rw [e.ord]; exact h.mem x, by rw [e.ord]; exact h.len⟩
theorem Qnr {σ σ' : Sg} (e : Ext σ σ') (names : List Int) : lset σ' names = lset σ names := by unfold lset; rw [e.ord]
theorem Qo1 {W : Wd} {b : Mg} {σ : Sg} (r : Rep W b σ) {x j : Int} : (∃ t, valueAt b.vk x = some (.int j t)) ↔ 0 ≤ j ∧ σ.order[j.toNat]? = some x := by
 constructor
 ·rintro ⟨t, h⟩
  by_cases hx : x ∈ σ.order
  ·obtain ⟨i, hi, e⟩ := List.mem_iff_getElem.mp hx
   have h1 : σ.order[i]? = some x := by rw [List.getElem?_eq_getElem hi, e]
   obtain ⟨t', h2⟩ := r.v2 i x h1
   rw [h] at h2
   cases h2
   exact ⟨by exact Qdc, by simpa using h1⟩
  ·rw [r.v3 x hx] at h; cases h
 ·rintro ⟨h0, h1⟩
  obtain ⟨t, h2⟩ := r.v2 _ _ h1
  exact ⟨t, by rw [h2]; congr 2; exact Qir h0⟩
noncomputable abbrev SrcOk (W : Wd) (b : Mg) (Rl : Led) (nl : Addr) (names : List Int) : Prop :=
 ∀ {N : Nm} {Ψ' : Frm hK N W} {vals' : Vals} {Q' : VQ}, Ψ'.A.handled = none → (∀ d1 o1 t1 k1, SetF W.w U1 U1' o1 t1 k1 → (∀ x, x ∈ k1 ↔ x ∈ names) → Q' (.ref d1) vals' (mgL b ++ (d1, o1) :: Rl)) → WA Ψ' (call (.type "set") [.ref nl]) Q' vals' (mgL b ++ Rl)
theorem Qgd {nl : Addr} {vs : List Value} {n0 : Nat} {names : List Int} (hm : (nl, listOf vs.toArray n0) ∈ Rl) (hi : IntsAre vs names) (hU : ∀ x ∈ names, x ∈ U1) (hz : names.length ≤ 100) : SrcOk W b Rl nl names := by
 intro N Ψ' vals' Q' hh q
 kcj_m
 obtain ⟨t1, k1, hk1, hs1, hk1m⟩ := Qe3 (Qpb (!(byT W.w))) names _ [] (Qc2 U1 U1' _) hU
 kd_p1
 exact Qhl hh (mr hm) hi (by exact Q5b hz) hk1 fun d1 o1 I1 => q d1 o1 t1 k1 ⟨I1, hs1⟩ fun x => by rw [hk1m x]; simp
theorem Qk4 {nl : Addr} {o : Obj} {t : SetTable} {ks names : List Int} (hm : (nl, o) ∈ Rl) (F : SetF W.w U1 U1' o t ks) (hk : ∀ x, x ∈ ks ↔ x ∈ names) : SrcOk W b Rl nl names := by
 intro N Ψ' vals' Q' hh q
 kcj_m
 obtain ⟨t2, k2, hcp, hst2, hk2⟩ := (F.ok (Qpb (!(byT W.w)))).copy
 kd_p1
 exact Qe8 (mr hm) F.I (F.ok (Qpb (!(byT W.w)))).n5 hcp fun d1 o1 I1 => q d1 o1 t2 k2 ⟨I1, hst2⟩ fun x => (hk2 x).trans (hk x)
theorem Qfv {u : Int} {tu : Tok} {nl : Addr} {names : List Int} {every : Bool} {f : BF} {pos : List Value} {kw : List (Str × Value)} {Q : VQ} (G : Good W sa b σ) (hr : Room Ψ.A 27) (cap : Cap σ 2048) (hf : Full σ) (du : Den σ u f)
  (hsrc : SrcOk W b Rl nl names) (hU : ∀ x ∈ names, x ∈ U1)
  (hb : ∀ s : Shared, (hK W.w.params).In s.heap → BindsTo s fn325.fd ⟨pos, kw⟩ [("self", .ref sa), ("u", .int u tu), ("qvars", .ref nl), ("forall", .bool every)])
  (q : ∀ t' b' σ' r, Good W sa b' σ' → Gr σ σ' 2048 → Den σ' r (qf every (lset σ names) f) → Q (.int r t') vals (mgL b' ++ Rl)) :
  WA Ψ (call (.ref 325) pos kw) Q vals (mgL b ++ Rl) := by
 refine Qaa (N' := N325) (Qwz _) Qvr hr (binds := [("self", .ref sa), ("u", .int u tu), ("qvars", .ref nl), ("forall", .bool every)]) (rest := ["cache", "ordvar", "j"]) hb rfl [some (.ref sa), some (.int u tu), some (.ref nl), some (.bool every), none, none, none] rfl ?_
 intro Ψ' he hr'
 have at0 := G.at'
 have hs := G.hs
 have ok := G.ok
 dsimp only [fn325, mkFn]
 (ctx_mentions Ua Xa Fa Va Ic Yl Fb Pa Yp Vb Zh)
 have hh : Ψ'.A.handled = none := hr'.hh
 refine hsrc hh fun d1 o1 t1 k1 I1 hmv => ?_
 (ctx_mentions Zh)
 have hord : ∀ x, x ∈ k1 → ∃ j t, valueAt b.vk x = some (.int j t) ∧ j ∈ U2 := fun x hx => by
  obtain ⟨i, hi', ei⟩ := List.mem_iff_getElem.mp ((hf.mem x).mp (hU x ((hmv x).mp hx)))
  obtain ⟨t, ht⟩ := G.r.v2 i x (by rw [List.getElem?_eq_getElem hi', ei])
  refine ⟨_, t, ht, ?_⟩
  rw [hf.len] at hi'
  simp only [U2, List.mem_cons, List.not_mem_nil, or_false]
  exact Q5a hi'
 refine Qv3 (d := d1) (od := o1) G (hr'.less (by kd_p)) (.head _) I1 hord fun d2 o2 t2 ks I2 hkm => ?_
 have f2 := I2.ok (Qpa (!(byT W.w)))
 have hkl := f2.n5
 kcj_m
 obtain ⟨es, ep, SW, hI2, hen⟩ := I2.walk (Qpa (!(byT W.w)))
 kd_p1
 (ctx_mentions Vc Zb Ua Xa Fb Pa Yp Zh)
 refine Qa3 fun ca => ?_
 (ctx_mentions Vc Zb Ua Xa Fb Pa Yo Vb Zh)
 refine Qed hh SW (mr (.tail _ (.head _))) hI2 (by exact Qt9 hkl hen) fun D vs2 ord n2 hord2 hop hsorted => ?_
 (ctx_mentions Vc Zb Ua Xa Yc Vc Zb Ua Yb Fa Va Ic Vb Vb Vb Vb Vb Vb Zh)
 refine WA.perm (mgL b ++ (ca, dictOf [] 0) :: (D, listOf vs2.toArray n2) :: (d2, o2) :: (d1, o1) :: Rl) (List.Perm.append_left _ (List.Perm.swap _ _ _)) ?_
 have hS : (fun k => decide (k ∈ ks)) = lset σ names := funext fun j => by
  unfold lset
  rw [decide_eq_decide, hkm]
  constructor
  ·rintro ⟨x, t, h1, h2⟩
   obtain ⟨h3, h4⟩ := (Qo1 G.r).mp ⟨t, h2⟩
   exact ⟨h3, x, (hmv x).mp h1, h4⟩
  ·rintro ⟨h3, x, h1, h4⟩
   obtain ⟨t, h2⟩ := (Qo1 G.r).mpr ⟨h3, h4⟩
   exact ⟨x, t, (hmv x).mpr h1, h2⟩
 have hnv : σ.nv = 5 := hf.len
 refine Qnh (every := every) (S := fun k => decide (k ∈ ks)) (so := o2) hord2 I2.I.objOf (by unfold scanBound; exact Qkj hkl) (fun x => by rw [decide_eq_true_eq]; exact (hop.mem_iff).symm) (by rw [hop.length_eq]; exact Qua hkl) σ.nv _ Ψ' _ b σ (dictOf [] 0) [] _ 0 u 0 _ _ _ G (hr'.less (by exact Q49 hnv)) (Int.le_refl _) (by exact Q48) (du.vd ok) (.head _) (.tail _ (.head _)) isDict_nil (fun u' x h => by simp [valueAt] at h) (Nat.zero_le _) (fun idx x h => absurd h (Nat.not_lt_zero _)) (cap.less (by rw [hnv]; decide)) (by rw [hnv]; simp) fun t' b' σ' r co' kvs' G' g' v' d' hco' hqc' hl' => ?_
 rw [hnv] at g'
 (ctx_mentions Zc)
 refine ⟨mgL b' ++ Rl, sA (sC (sC (sC (sC (List.Sublist.refl _))))), q t' b' σ' r G' (g'.le (by decide)) ?_⟩
 have := d' f du
 rw [hS] at this
 exact this
theorem Qcz {u : Int} {tu : Tok} {nl : Addr} {names : List Int} {every : Bool} {f : BF} {Q : VQ} (G : Good W sa b σ) (hr : Room Ψ.A 27) (cap : Cap σ 2048) (hf : Full σ) (du : Den σ u f)
  (hsrc : SrcOk W b Rl nl names) (hU : ∀ x ∈ names, x ∈ U1)
  (q : ∀ t' b' σ' r, Good W sa b' σ' → Gr σ σ' 2048 → Den σ' r (qf every (lset σ names) f) → Q (.int r t') vals (mgL b' ++ Rl)) :
  WA Ψ (call (.ref 325) [.ref sa, .int u tu, .ref nl] [("forall", .bool every)]) Q vals (mgL b ++ Rl) :=
 Qfv G hr cap hf du hsrc hU (fun s X => binds_K X rfl (by k_is) rfl rfl rfl) q
theorem Qj3 {u : Int} {tu : Tok} {nl : Addr} {names : List Int} {every : Bool} {f : BF} {Q : VQ} (G : Good W sa b σ) (hr : Room Ψ.A 27) (cap : Cap σ 2048) (hf : Full σ) (du : Den σ u f)
  (hsrc : SrcOk W b Rl nl names) (hU : ∀ x ∈ names, x ∈ U1)
  (q : ∀ t' b' σ' r, Good W sa b' σ' → Gr σ σ' 2048 → Den σ' r (qf every (lset σ names) f) → Q (.int r t') vals (mgL b' ++ Rl)) :
  WA Ψ (call (.ref 325) [.ref sa, .int u tu, .ref nl, .bool every]) Q vals (mgL b ++ Rl) :=
 Qfv G hr cap hf du hsrc hU (fun s X => binds_K X rfl (by k_is) rfl rfl rfl) q
theorem Qnz {u : Int} {tu : Tok} {nl : Addr} {names : List Int} {f : BF} {Q : VQ} (G : Good W sa b σ) (hr : Room Ψ.A 28) (cap : Cap σ 2048) (hf : Full σ) (du : Den σ u f)
  (hsrc : SrcOk W b Rl nl names) (hU : ∀ x ∈ names, x ∈ U1)
  (q : ∀ t' b' σ' r, Good W sa b' σ' → Gr σ σ' 2048 → Den σ' r (qf true (lset σ names) f) → Q (.int r t') vals (mgL b' ++ Rl)) :
  WA Ψ (call (.ref 339) [.ref sa, .ref nl, .int u tu]) Q vals (mgL b ++ Rl) := by
 refine Qaa (N' := N339) (Qwx _) Qvp hr (binds := [("self", .ref sa), ("qvars", .ref nl), ("u", .int u tu)]) (rest := []) (fun s X => .of_eq rfl) rfl [some (.ref sa), some (.ref nl), some (.int u tu)] rfl ?_
 intro Ψ' he hr'
 have at0 := G.at'
 have hs := G.hs
 dsimp only [fn339, mkFn]
 (ctx_mentions Ua Yb)
 refine Mine.L.callMK (ns := ["forall"]) (pl := _) rfl (by intro _; rfl) (by intro _; rfl) (by with_unfolding_all rfl) ?_; intro _
 (ctx_mentions Va)
 refine Qd2 hs at0 (by kas_types) ?_; intro _
 (ctx_mentions Vb Vb Zh Ym Ze Zi)
 refine Qcz G hr' cap hf du hsrc hU fun t' b' σ' r G' g' d' => ?_
 (ctx_mentions Zc)
 exact ⟨_, List.Sublist.refl _, q t' b' σ' r G' g' d'⟩
theorem Qp3 {u : Int} {tu : Tok} {nl : Addr} {names : List Int} {f : BF} {Q : VQ} (G : Good W sa b σ) (hr : Room Ψ.A 28) (cap : Cap σ 2048) (hf : Full σ) (du : Den σ u f)
  (hsrc : SrcOk W b Rl nl names) (hU : ∀ x ∈ names, x ∈ U1)
  (q : ∀ t' b' σ' r, Good W sa b' σ' → Gr σ σ' 2048 → Den σ' r (qf false (lset σ names) f) → Q (.int r t') vals (mgL b' ++ Rl)) :
  WA Ψ (call (.ref 346) [.ref sa, .ref nl, .int u tu]) Q vals (mgL b ++ Rl) := by
 refine Qaa (N' := N346) (Qww _) Qvo hr (binds := [("self", .ref sa), ("qvars", .ref nl), ("u", .int u tu)]) (rest := []) (fun s X => .of_eq rfl) rfl [some (.ref sa), some (.ref nl), some (.int u tu)] rfl ?_
 intro Ψ' he hr'
 have at0 := G.at'
 have hs := G.hs
 dsimp only [fn346, mkFn]
 (ctx_mentions Ua Yb)
 refine Mine.L.callMK (ns := ["forall"]) (pl := _) rfl (by intro _; rfl) (by intro _; rfl) (by with_unfolding_all rfl) ?_; intro _
 (ctx_mentions Va)
 refine Qd2 hs at0 (by kas_types) ?_; intro _
 (ctx_mentions Vb Vb Zh Ym Ze Zi)
 refine Qcz G hr' cap hf du hsrc hU fun t' b' σ' r G' g' d' => ?_
 (ctx_mentions Zc)
 exact ⟨_, List.Sublist.refl _, q t' b' σ' r G' g' d'⟩
end
end
section
noncomputable def fn150 : FnIn 150 := by
 refine' mkFn ?ok ?hb
 case ok => intro P; k_is
 case hb => exact rfl
@[reducible] noncomputable def N150 : Nm := ⟨["self", "var", "j", "u"], []⟩
theorem Qvw : ScOk fn150.fd.scope.names N150.loc N150.glo := by
 refine Qah ?_
 kcf_m
theorem Qw6 (P : Params) : FnOk (hK P) 150 fn150.fd fn150.body := ⟨⟨_, _, _, fn150.ok P⟩, by kcf_m, fn150.hb, rfl, rfl, rfl, rfl, rfl, by kcf_m⟩
section
theorem Qm8 {x : Int} {j : Nat} {tx : Tok} {Q : VQ} (G : Good W sa b σ) (hr : Room Ψ.A 4) (cap : Cap σ 1) (hx : σ.order[j]? = some x)
  (q : ∀ t' b' σ' r, Good W sa b' σ' → Gr σ σ' 1 → Den σ' r (fun a => a j) → Q (.int r t') vals (mgL b' ++ Rl)) :
  WA Ψ (call (.ref 150) [.ref sa, .int x tx]) Q vals (mgL b ++ Rl) := by
 refine Qaa (N' := N150) (Qw6 _) Qvw hr (binds := [("self", .ref sa), ("var", .int x tx)]) (rest := ["j", "u"]) (fun s X => .of_eq rfl) rfl [some (.ref sa), some (.int x tx), none, none] rfl ?_
 intro Ψ' he hr'
 have at0 := G.at'
 have hs := G.hs
 have ok := G.ok
 obtain ⟨t, ht⟩ := G.r.v2 j x hx
 have hj : j < σ.nv := (List.getElem?_eq_some_iff.mp hx).1
 dsimp only [fn150, mkFn]
 (ctx_mentions Ua Ya Xf Va Xj Va Ga)
 refine Qa9 (intKind_is _ _ _ _) Qbv G.r.v1 ?_
 rw [ht]
 (ctx_mentions Zr Ma Za Zb Ua Xa Yk Xj Va Ga Va)
 refine dTail Qbv G.r.v1 (Qaw (intKind_is _ _ _ _) Qbv G.r.v1 ht ?_) (by with_unfolding_all rfl)
 (ctx_mentions Vc Zb Ua Xa Fa Va Ic Vb Yl Yf Yc Ys Yl Yc Zh)
 refine Qsc G hr' cap (by exact Qdc) (by exact Qt8 hj) (Vd.one (by exact Qt7 hj)).neg (Vd.one (by exact Qt7 hj)) (Den.not .one) .one fun t' b' σ' r G' g' _ d' => ?_
 have e : (fun a : Asg => if a j then true else !true) = fun a => a j := funext fun a => by cases a j <;> rfl
 rw [e] at d'
 (ctx_mentions Vc Zb Ua Yb Va Zc)
 exact ⟨_, List.Sublist.refl _, q t' b' σ' r G' g' d'⟩
end
end
section
section
theorem Qo4 {u i v x : Int} {tu : Tok} {Q : VQ} (G : Good W sa b σ) (hr : Room Ψ.A 2) (hn : σ.node (iabs u) = some (i, v, x))
  (q : ∀ a t1 t2 t3 n dd sl, (a, (⟨.type "tuple", dd, .seq #[.int i t1, .int v t2, .int x t3] n, sl⟩ : Obj)) ∈ mgL b ++ Rl → Q (.ref a) vals (mgL b ++ Rl)) :
  WA Ψ (call (.ref 93) [.ref sa, .int u tu]) Q vals (mgL b ++ Rl) := by
 refine Qaa (N' := N93) (Q7b _) Q65 hr (binds := [("self", .ref sa), ("u", .int u tu)]) (rest := []) (fun s X => .of_eq rfl) rfl [some (.ref sa), some (.int u tu)] rfl ?_
 intro Ψ' he hr'
 have at0 := G.at'
 have hs := G.hs
 dsimp only [fn93, mkFn]
 (ctx_mentions Ua Yb Yk Xj Va Ga Fb Pa Yo Vb Zh Yu)
 refine Qcx G.r hn fun a t1 t2 t3 n dd sl hm => ?_
 (ctx_mentions Zc)
 exact ⟨_, List.Sublist.refl _, q a t1 t2 t3 n dd sl hm⟩
theorem Qga {j x : Int} {tj : Tok} {Q : VQ} (G : Good W sa b σ) (hr : Room Ψ.A 2) (h0 : 0 ≤ j) (hx : σ.order[j.toNat]? = some x)
  (q : ∀ t, Q (.int x t) vals (mgL b ++ Rl)) :
  WA Ψ (call (.ref 157) [.ref sa, .int j tj]) Q vals (mgL b ++ Rl) := by
 refine Qaa (N' := N157) (Qw5 _) Qvv hr (binds := [("self", .ref sa), ("level", .int j tj)]) (rest := []) (fun s X => .of_eq rfl) rfl [some (.ref sa), some (.int j tj)] rfl ?_
 intro Ψ' he hr'
 have at0 := G.at'
 have hs := G.hs
 obtain ⟨t, ht⟩ := G.r.l2 j.toNat x hx
 rw [show ((j.toNat : Nat) : Int) = j by exact Qir h0] at ht
 dsimp only [fn157, mkFn]
 (ctx_mentions Ua Ya Xf Va Xj Va Ga)
 refine Qa9 (intKind_is _ _ _ _) Qg7 G.r.l1 ?_
 rw [ht]
 (ctx_mentions Zr Ma Za Zb Ua Yb Yk Xj Va Ga Va)
 refine dTail Qg7 G.r.l1 (Qaw (intKind_is _ _ _ _) Qg7 G.r.l1 ht ?_) (by with_unfolding_all rfl)
 (ctx_mentions Zc)
 exact ⟨_, List.Sublist.refl _, q t⟩
end
end
section
noncomputable def fn232 : FnIn 232 := by
 refine' mkFn ?ok ?hb
 case ok => intro P; k_is
 case hb => exact rfl
@[reducible] noncomputable def N232 : Nm := ⟨["self", "u", "levels", "nodes", "r", "i", "v", "w"], ["len", "abs"]⟩
theorem Qvt : ScOk fn232.fd.scope.names N232.loc N232.glo := by
 refine Qah ?_
 kcf_m
theorem Qw1 (P : Params) : FnOk (hK P) 232 fn232.fd fn232.body := ⟨⟨_, _, _, fn232.ok P⟩, by kcf_m, fn232.hb, rfl, rfl, rfl, rfl, rfl, by kcf_m⟩
section
theorem Qwg : ∀ led, ∀ s ∈ states U2 U2 led, s.2.length = 5 → ∀ j ∈ U2, j ∈ s.2 := by decide +kernel
theorem Qrl (hnv : True) (n : Nat) :
  ∀ (N : Nm) (Ψ : Frm hK N W) (vals : Vals) (lo no : Obj) (lt : SetTable) (lk : List Int) (S : Int → Bool) (m : Nat) (k u : Int) (tu : Tok) (Q : VQ),
  Good W sa b σ → σ.nv = 5 → Room Ψ.A (n + 4) → 0 ≤ k → ((σ.nv : Int) - k).toNat ≤ n → Vd σ k u → SetF W.w U2 U2 lo lt lk → no.SetObjOf (intKind W.prog W.w) S m →
  (∀ r, S r = true → Vd σ k r → ∀ j, Rch σ r j → j ∈ lk) → m + 2 ^ (n + 1) ≤ 4000 →
  (∀ lo' no' lt' lk' S' m', SetF W.w U2 U2 lo' lt' lk' → no'.SetObjOf (intKind W.prog W.w) S' m' → (∀ j, j ∈ lk' ↔ j ∈ lk ∨ Rch σ u j) → (∀ r, S r = true → S' r = true) → (∀ r, S' r = true → S r = true ∨ Vd σ k r) → (∀ r, S' r = true → Vd σ k r → ∀ j, Rch σ r j → j ∈ lk') → m' + 1 ≤ m + 2 ^ (n + 1) →
   Q .none vals (mgL b ++ (na, no') :: (la, lo') :: Rl)) →
  WA Ψ (call (.ref 232) [.ref sa, .int u tu, .ref la, .ref na]) Q vals (mgL b ++ (na, no) :: (la, lo) :: Rl) := by
 induction n using Nat.strongRecOn with
 | ind n ih =>
  intro N Ψ vals lo no lt lk S m k u tu Q G h5 hr hk0 hn hu F ho hNI hz q
  have hp : 2 ≤ 2 ^ (n + 1) := by have := Qcb n; rw [Nat.pow_succ]; exact Q47 this
  refine Qaa (N' := N232) (Qw1 _) Qvt hr (binds := [("self", .ref sa), ("u", .int u tu), ("levels", .ref la), ("nodes", .ref na)]) (rest := ["r", "i", "v", "w"]) (fun s _ => .of_eq rfl) rfl [some (.ref sa), some (.int u tu), some (.ref la), some (.ref na), none, none, none, none] rfl ?_
  intro Ψ' he hr'
  have at0 := G.at'
  have hs := G.hs
  have ok := G.ok
  have hfam := Qpa (!(byT W.w))
  have f := F.ok hfam
  have hnl : ∀ {x : Led}, (na, no) ∈ mgL b ++ (na, no) :: x := mr (.head _)
  have hll : ∀ {x : Addr × Obj} {y : Led}, (la, lo) ∈ mgL b ++ x :: (la, lo) :: y := mr (.tail _ (.head _))
  have hn5 := f.n5
  dsimp only [fn232, mkFn]
  (ctx_mentions Ua Ya Xf Fb Pa Yo Vb Zh)
  refine Qmm hll F.I.objOf (by exact Qkj hn5) fun _ => ?_
  (ctx_mentions Fb Pa Yo Yl Xj Va Ga Zh)
  refine Qd9 Qbv G.r.v1 (by rw [G.r.v4]; have := G.r.v5; exact Qxh this) fun _ => ?_
  have hvk : (b.vk.length : Int) = 5 := by rw [G.r.v4]; show ((σ.nv : Nat) : Int) = 5; exact Q46 h5
  rw [hvk]
  (ctx_mentions Zj Zr)
  refine Qak (fun h0 => ?_) fun h0 => ?_
  ·have h0' : lk.length = 5 := by
    have : (lk.length : Int) = 5 := by simpa using h0
    exact Q45 this
   have hall : ∀ j, Rch σ u j → j ∈ lk := fun j hj => by
    have hb := hj.bound ok hu
    refine Qwg _ _ F.m h0' j ?_
    simp only [U2, List.mem_cons, List.not_mem_nil, or_false]
    exact Q44 h5 hk0 hb
   (ctx_mentions Ua)
   refine Qit (Zc ?_)
   (ctx_mentions Zc)
   refine ⟨_, List.Sublist.refl _, q lo no lt lk S m F ho (fun j => ⟨.inl, fun h => h.elim id (hall j)⟩) (fun r h => h) (fun r h => .inl h) hNI (by exact Qt6 hp)⟩
  (ctx_mentions Za Zb Ua Xa Fb Pa Yo Vb Zh Yu Vc Zb Ua Ya Xf Va Va)
  refine Qmn hnl ho (by unfold scanBound; exact Qt5 hz) ?_
  refine Zr ?_
  refine Qak (fun h1 => ?_) fun h1 => ?_
  ·have hall : ∀ j, Rch σ u j → j ∈ lk := fun j hj => hNI _ h1 hu.abs j (hj.abs (Qb3 _))
   (ctx_mentions Ua)
   refine Qit (Zc ?_)
   (ctx_mentions Zc)
   refine ⟨_, List.Sublist.refl _, q lo no lt lk S m F ho (fun j => ⟨.inl, fun h => h.elim id (hall j)⟩) (fun r h => h) (fun r h => .inl h) hNI (by exact Qt6 hp)⟩
  (ctx_mentions Za Zb Ua Xd Fa Va)
  refine Qfa hnl ho (by unfold scanBound; exact Qt5 hz) ?_
  (ctx_mentions Yn Vb Zh)
  refine Qop (pre := mgL b) rfl ho (by unfold scanBound; exact Q43 hz) fun no1 ho1 => ?_
  rw [h1, if_neg Bool.false_ne_true] at ho1
  (ctx_mentions Zb Ua Ya Xf Va Yc Zj Zr)
  have hS1 : ∀ r, (fun k' => S k' || decide (k' = iabs u)) r = true ↔ S r = true ∨ r = iabs u := fun r => by simp
  generalize (fun k' => S k' || decide (k' = iabs u)) = S1 at hS1 ho1
  refine Qak (fun h2 => ?_) fun h2 => ?_
  ·have h2' : iabs u = 1 := by simpa using h2
   have hno : ∀ j, ¬ Rch σ u j := fun j => Rch.none (by rw [h2', Qcc])
   (ctx_mentions Ua)
   refine Qit (Zc ?_)
   (ctx_mentions Zc)
   refine ⟨_, List.Sublist.refl _, q lo no1 lt lk S1 (m + 1) F ho1 (fun j => ⟨.inl, fun h => h.elim id fun h => absurd h (hno j)⟩) (fun r h => (hS1 r).mpr (.inl h)) (fun r h => ((hS1 r).mp h).imp id fun e => by rw [e]; exact hu.abs) (fun r h hv j hj => ?_) (by exact Q42 hp)⟩
   rcases (hS1 r).mp h with h | rfl
   ·exact hNI r h hv j hj
   ·exact absurd (hj.abs (Qb3 u).symm) (hno j)
  have h2' : iabs u ≠ 1 := by simpa using h2
  obtain ⟨i', v, x, hnd, hle⟩ : ∃ i' v x, σ.node (iabs u) = some (i', v, x) ∧ k ≤ i' := by
   rcases hu.cases with (e1 | e1) | h
   ·exact absurd (by rw [e1]; decide) h2'
   ·exact absurd (by rw [e1]; decide) h2'
   ·exact h
  have o := ok.nd _ _ _ _ hnd
  have hv0 := o.2.2.2.2.1.ne0
  have hx0 := o.2.2.2.2.2.ne0
  have hi5 : i' < 5 := by have := o.2.1; exact Q41 h5 this
  obtain ⟨m1, rfl⟩ : ∃ m1, n = m1 + 1 := ⟨n - 1, by have := o.2.1; exact Qsj hn hle this⟩
  have h2p : 2 ^ (m1 + 1 + 1) = 2 * 2 ^ (m1 + 1) := by rw [Nat.pow_succ]; exact Qrf
  have hp1 := Qcb (m1 + 1)
  have hrm : Room Ψ'.A (m1 + 4) := hr'.less (by exact Qt4)
  have hms : ((σ.nv : Int) - (i' + 1)).toNat ≤ m1 := by exact Qrd hle hn
  have hnd2 : σ.node (iabs (iabs u)) = some (i', v, x) := by rw [Qb3]; exact hnd
  (ctx_mentions Za Zb Ua)
  refine Mine.L.asT rfl rfl ?_; intro _
  (ctx_mentions Yk Xj Va Ga Va)
  refine Qcx G.r hnd fun a t1 t2 t3 nq dd sl hm => ?_
  refine R.unp hr'.hh hm rfl rfl ?_
  (ctx_mentions Yw Vc Yw Vc Yw Vc ZG Zb Ua Ya Yh Xi Va Zs Ma Za Zb Ua Ya Yh Xi Va Zs Ma Za Zb Ua Xd Fa Va)
  have hll1 : ∀ {x : Addr × Obj} {y : Led}, (la, lo) ∈ mgL b ++ x :: (la, lo) :: y := mr (.tail _ (.head _))
  refine Qfa hll1 F.I.objOf (by unfold scanBound; exact Qkj hn5) ?_
  (ctx_mentions Yn Vb Zh)
  refine Qer (pre := mgL b ++ [(na, no1)]) hfam (by rw [List.append_assoc]; rfl) F (by simp only [U2, List.mem_cons, List.not_mem_nil, or_false]; exact Q40 o.1 hi5) fun lo1 lt1 lk1 F1 hk1 => ?_
  rw [List.append_assoc]
  have hmid : ∀ r, S1 r = true → Vd σ (i' + 1) r → ∀ j, Rch σ r j → j ∈ lk1 := fun r h hv j hj => by
   rcases (hS1 r).mp h with h | rfl
   ·exact (hk1 j).mpr (.inl (hNI r h (hv.le (by exact Qqs hle)) j hj))
   ·exfalso
    rcases hv with ⟨e, _⟩ | ⟨t, e, h'⟩
    ·rw [Qb3] at e; exact h2' e
    ·rw [hnd2] at e; cases e; omega
  (ctx_mentions Zb Ua Xd Fa Va Ic Vb Vb Vb Zh)
  refine ih m1 (by exact Ql7) _ Ψ' _ lo1 no1 lt1 lk1 S1 (m + 1) (i' + 1) v _ _ G h5 hrm (by exact Qkk o.1) hms o.2.2.2.2.1 F1 ho1 hmid (by exact Q4z hz h2p hp1) fun lo2 no2 lt2 lk2 S2 mm2 F2 ho2 hk2 hS2 hS2' hN2 hz2 => ?_
  (ctx_mentions Zb Ua Xd Fa Va Ic Vb Vb Vb Zh)
  refine ih m1 (by exact Ql7) _ Ψ' _ lo2 no2 lt2 lk2 S2 mm2 (i' + 1) x _ _ G h5 hrm (by exact Qkk o.1) hms o.2.2.2.2.2 F2 ho2 hN2 (by exact Q4y hz h2p hz2) fun lo3 no3 lt3 lk3 S3 mm3 F3 ho3 hk3 hS3 hS3' hN3 hz3 => ?_
  (ctx_mentions Zb Za)
  have hkk : ∀ j, j ∈ lk3 ↔ j ∈ lk ∨ Rch σ u j := fun j => by
   rw [hk3, hk2, hk1]
   constructor
   ·rintro (((h | rfl) | h) | h)
    ·exact .inl h
    ·exact .inr (.here hnd)
    ·exact .inr (.lo hnd h)
    ·exact .inr (.hi hnd h)
   ·rintro (h | h)
    ·exact .inl (.inl (.inl h))
    ·rcases h.inv hnd with rfl | h | h
     ·exact .inl (.inl (.inr rfl))
     ·exact .inl (.inr h)
     ·exact .inr h
  refine ⟨_, List.Sublist.refl _, q lo3 no3 lt3 lk3 S3 mm3 F3 ho3 hkk (fun r h => hS3 r (hS2 r ((hS1 r).mpr (.inl h)))) (fun r h => ?_) (fun r h hv j hj => ?_) (by exact Q4x h2p hz2 hz3)⟩
  ·rcases hS3' r h with h | h
   ·rcases hS2' r h with h | h
    ·exact ((hS1 r).mp h).imp id fun e => by rw [e]; exact hu.abs
    ·exact .inr (h.le (by exact Qqs hle))
   ·exact .inr (h.le (by exact Qqs hle))
  ·by_cases hv1 : Vd σ (i' + 1) r
   ·exact hN3 r h hv1 j hj
   ·have h1 : S1 r = true := by
     rcases hS3' r h with h | h
     ·exact (hS2' r h).resolve_right hv1
     ·exact absurd h hv1
    rcases (hS1 r).mp h1 with h | rfl
    ·exact (hkk j).mpr (.inl (hNI r h hv j hj))
    ·exact (hkk j).mpr (.inr (hj.abs (Qb3 u).symm))
end
end
section
noncomputable def fn225 : FnIn 225 := by
 refine' mkFn ?ok ?hb
 case ok => intro P; k_is
 case hb => exact rfl
@[reducible] noncomputable def N225 : Nm := ⟨["u", "as_levels", "levels", "nodes"], ["set"]⟩
theorem sc225 : ScOk fn225.fd.scope.names N225.loc N225.glo := by
 refine Qah ?_
 kcf_m
theorem Qw2 (P : Params) : FnOkC (hK P) 225 fn225.fd fn225.body := ⟨⟨_, _, _, fn225.ok P⟩, by kcf_m, fn225.hb, rfl, rfl, rfl, rfl, rfl, rfl⟩
theorem ck225 : fn225.fd.scope.names.lookup ("self" : Str) = some NameKind.cell := by kcf_m
theorem Qn7 (n : Nat) : cellsFrom n fn225.fd.scope.names [] = [(("self" : Str), n)] := by kcf_m
section
theorem Qnd {u : Int} {tu : Tok} {f : BF} {Q : VQ} (G : Good W sa b σ) (hr : Room Ψ.A 12) (hf : Full σ) (du : Den σ u f)
  (q : ∀ x o t ks, SetF W.w U1 U1' o t ks → (∀ y, y ∈ ks ↔ ∃ j, Dep f j ∧ 0 ≤ j ∧ σ.order[j.toNat]? = some y) → Q (.ref x) vals (mgL b ++ (x, o) :: Rl)) :
  WA Ψ (call (.ref 225) [.ref sa, .int u tu]) Q vals (mgL b ++ Rl) := by
 refine Qcl (N' := N225) (Qw2 _) sc225 hr (binds := [("self", .ref sa), ("u", .int u tu), ("as_levels", .bool false)]) (fun s X => binds_K X rfl (by k_is) rfl rfl rfl) (fun n x hx => ?_) (by rw [Qn7]; simp) (v0 := [some (.int u tu), some (.bool false), none, none]) ?_ ?_
 ·rcases List.mem_cons.mp hx with rfl | hx
  ·exact .inr ⟨ck225, by rw [Qn7]; rfl⟩
  ·rcases List.mem_cons.mp hx with rfl | hx
   ·exact .inl (sc225.loc _ (.head _)).1
   ·rcases List.mem_cons.mp hx with rfl | hx
    ·exact .inl (sc225.loc _ (.tail _ (.head _))).1
    ·cases hx
 ·rw [Qc5 ck225, Qbt (sc225.loc _ (.head _)).1, Qbt (sc225.loc _ (.tail _ (.head _))).1]
  funext x
  by_cases h1 : x = ("u" : Str)
  ·subst h1; kcf_m
  ·by_cases h2 : x = ("as_levels" : Str)
   ·subst h2; kcf_m
   ·simp only [bindL, fr, if_neg h1, if_neg h2]
    (repeat' split) <;> rfl
 intro Ψ' cells he hr' hc
 rw [Qn7] at hc
 obtain ⟨oc, rfl, hoc⟩ := CellsAre.one hc
 have hocv : bindC (fun x => fn225.fd.scope.names.lookup x) [("self", .ref sa), ("u", .int u tu), ("as_levels", .bool false)] (fun _ => none) "self" = some (.ref sa) := by
  kcf_m
 rw [hocv] at hoc
 have at0 := G.at'
 have hs := G.hs
 have ok := G.ok
 have hh : Ψ'.A.handled = none := hr'.hh
 have h5 : σ.nv = 5 := hf.len
 dsimp only [fn225, mkFn]
 rw [List.append_assoc]
 (ctx_mentions Ua Xa Fb Pa Yp Zh)
 refine Qe9 fun la => ?_
 (ctx_mentions Vc Zb Ua Xa Fb Pa Yp Zh)
 refine Qe9 fun na => ?_
 (ctx_mentions Vc Zb Ua Xd Fa)
 have hck : Ψ'.env.kindOf "self" = some .cell := by rw [he]; exact ck225
 have hlk : Ψ'.env.cells.lookup ("self" : Str) = some (Ψ'.L + 1) := by rw [he]; show (cellsFrom (Ψ'.L + 1) fn225.fd.scope.names []).lookup ("self" : Str) = _; rw [Qn7]; rfl
 refine Qao Ψ'.e.kind hck hlk (o := oc) (mr (.tail _ (.tail _ (.head _)))) hoc (by decide) ?_
 (ctx_mentions Ic Vb Vb Vb Zh)
 refine Qrl (la := la) (na := na) (Rl := (Ψ'.L + 1, oc) :: Rl) trivial 5 _ Ψ' _ (freshSet W.w) (freshSet W.w) _ [] (fun _ => false) 0 0 u _ _ G h5 (hr'.less (by kd_p)) (Int.le_refl _) (by exact Qt3 h5) (du.vd ok) SetF.fresh (setObjOf_fresh _) (fun r h => by cases h) (by decide) fun lo no lt lk S m F ho hk _ _ _ hm => ?_
 have hk' : ∀ j, j ∈ lk ↔ Dep f j := fun j => by rw [hk, Qbp ok du]; simp
 (ctx_mentions Zb Ua Ya Xi Va Zr Ma Za Zb Ua Yb)
 kcj_m
 obtain ⟨es, ep, SW, hI2, hen⟩ := F.walk (Qpa (!(byT W.w)))
 obtain ⟨xs, hxs, hpx⟩ := Qds ((Qb2 W.w la es ep).symm.map (·.2)) hI2
 kd_p1
 have hxn : xs.length = es.size := by rw [hpx.length_eq, hen]
 have hosz := Qbb W.w la es ep
 have hel : ∀ i (hi : i < es.size), ∃ e t, (ordOf W.w la es ep)[i]? = some e ∧ e.2 = .int (xs[i]'(by exact Qdx hxn hi)) t := fun i hi => by
  kcj_m
  obtain ⟨t, ht⟩ := Qap hxs (List.getElem?_eq_getElem (by exact Qdx hxn hi : i < xs.length))
  rw [List.getElem?_map, Array.getElem?_toList] at ht
  obtain ⟨e, he', ht'⟩ := Option.map_eq_some_iff.mp ht
  kd_p1
  exact ⟨e, t, he', ht'⟩
 have hmem : ∀ j, j ∈ xs ↔ Dep f j := fun j => (hpx.mem_iff).trans (hk' j)
 refine Qf4 (cl := [("self", Ψ'.L + 1)]) (by rw [he]; rfl) rfl (by decide) (by decide) (by rw [he]; exact Qah (by kcf_m)) ?_ (by intro _; with_unfolding_all rfl)
 (ctx_mentions Va)
 refine Qdh SW (mr (.tail _ (.head _))) fun it2 => ?_
 refine Qd8 fun d3 => ?_
 intro Ψ2 he2 ha2
 have hr2 : Room Ψ2.A 9 := by rw [ha2]; exact hr'.less (by kd_p)
 refine ⟨?_, Qby (es := es) (mr (.tail _ (.head _))) ⟨rfl, rfl, rfl⟩⟩
 let J : Nat → Vals → Led → Prop := fun m vals' l' => Ex5 fun (i : Nat) (o3 : Obj) (t3 : SetTable) (k3 : List Int) (ov : Option Value) => An6 (m = es.size - i) (i ≤ es.size) (SetF W.w U1 U1' o3 t3 k3) ((∀ y, y ∈ k3 ↔ ∃ j, j ∈ xs.take i ∧ 0 ≤ j ∧ σ.order[j.toNat]? = some y)) (vals' = [ov]) (l' = mgL b ++ (d3, o3) :: (it2, setItObj la (slotW W.w lt i) i es.size ep) :: (na, no) :: (la, lo) :: ([(Ψ'.L + 1, oc)] ++ Rl))
 refine WC.inv J ?_ es.size ⟨0, freshSet W.w, _, [], none, rfl, Nat.zero_le _, SetF.fresh, fun j => by simp, rfl, rfl⟩
 rintro m _ _ ⟨i, o3, t3, k3, ov, hm', hi', I3, hk3, rfl, rfl⟩ again
 refine Mine.WC.letV ?_; intro vv
 refine Qgs ?_
 by_cases hie : i = es.size
 ·subst hie
  refine Qch (o := lo) (pre := mgL b ++ [(d3, o3)]) (by rw [ha2]; exact hh) SW (by rw [List.append_assoc]; rfl) (by simp) ?_
  refine ⟨mgL b ++ (d3, o3) :: Rl, ?_, Zc ⟨_, List.Sublist.refl _, q d3 o3 t3 k3 I3 (fun y => ?_)⟩⟩
  ·rw [List.append_assoc]
   refine sA (sB (sC (sC (sC (List.Sublist.refl _)))))
  ·rw [hk3, List.take_of_length_le (by exact Qgr hxn)]
   constructor
   ·rintro ⟨j, h1, h2⟩; exact ⟨j, (hmem j).mp h1, h2⟩
   ·rintro ⟨j, h1, h2⟩; exact ⟨j, (hmem j).mpr h1, h2⟩
 ·have hil : i < es.size := by exact Qek hi' hie
  kcj_m
  obtain ⟨ei, ti, hei, hvi⟩ := hel i hil
  kd_p1
  refine Qd7 (o := lo) (pre := mgL b ++ [(d3, o3)]) SW (by rw [List.append_assoc]; rfl) (by simp) hil hei ?_
  rw [hvi, List.append_assoc]
  show WA Ψ2 _ _ _ _
  have hck2 : Ψ2.env.kindOf "self" = some .cell := by
   rw [he2, he]; kcf_m
  obtain ⟨y, hy⟩ : ∃ y, y = xs[i]'(by exact Qdx hxn hil) := ⟨_, rfl⟩
  rw [← hy]
  have hyb : 0 ≤ y ∧ y < 5 := by
   have h1 : Rch σ u y := (Qbp ok du).mpr ((hmem y).mp (hy ▸ List.getElem_mem _))
   have := h1.bound ok (du.vd ok)
   exact Qt2 h5 this
  have hyl : y.toNat < σ.order.length := by rw [hf.len]; exact Q4w hyb
  have hyo := List.getElem?_eq_getElem hyl
  (ctx_mentions Zy Zz Vc Fa)
  refine Qao Ψ2.e.kind hck2 (c := Ψ'.L + 1) (by rw [he2]; rfl) (o := oc) (by simp) hoc (by decide) ?_
  (ctx_mentions Ic Vb Zh)
  refine Qga G (hr2.less (by kd_p)) hyb.1 hyo fun tv => ?_
  have htk : ∀ x, x ∈ xs.take (i + 1) ↔ x ∈ xs.take i ∨ x = y := fun x => by
   rw [hy, List.take_add_one, List.getElem?_eq_getElem (by exact Qdx hxn hil : i < xs.length), List.mem_append]
   simp
  refine Qer (pre := mgL b) (Qpb (!(byT W.w))) rfl I3 ((hf.mem _).mpr (List.getElem_mem hyl)) fun o4 t4 k4 I4 hk4 => ?_
  refine again (es.size - (i + 1)) _ _ (by exact Qdy hm' hil) ⟨i + 1, o4, t4, k4, _, rfl, by exact Qdg hil, I4, fun z => ?_, rfl, rfl⟩
  rw [hk4, hk3]
  constructor
  ·rintro (⟨j, h1, h2⟩ | rfl)
   ·exact ⟨j, (htk j).mpr (.inl h1), h2⟩
   ·exact ⟨y, (htk y).mpr (.inr rfl), hyb.1, hyo⟩
  ·rintro ⟨j, h1, h2, h3⟩
   rcases (htk j).mp h1 with h1 | rfl
   ·exact .inl ⟨j, h1, h2, h3⟩
   ·rw [hyo] at h3; cases h3; exact .inr rfl
end
end
section
section
theorem Qjk {u : Int} {fu : BF} {ks : List Int} (G : Good W sa b σ) (ok : Ok σ) (du : Den σ u fu) (hk : ∀ y, y ∈ ks ↔ ∃ j, Dep fu j ∧ 0 ≤ j ∧ σ.order[j.toNat]? = some y) (j : Int) : lset σ ks j = true ↔ Dep fu j := by
 unfold lset
 rw [decide_eq_true_eq]
 constructor
 ·rintro ⟨h0, x, hx, ho⟩
  obtain ⟨j', hd, h0', ho'⟩ := (hk x).mp hx
  obtain ⟨t1, e1⟩ := G.r.v2 _ x ho
  obtain ⟨t2, e2⟩ := G.r.v2 _ x ho'
  rw [e1] at e2
  have : j.toNat = j'.toNat := by injection e2 with e2; injection e2 with e2; exact Q4v e2
  have : j = j' := by exact Q4u h0 h0' this
  rw [this]; exact hd
 ·intro hd
  have hb := ((Qbp ok du).mpr hd).bound ok (du.vd ok)
  have hl : j.toNat < σ.order.length := by show j.toNat < σ.nv; exact Qt1 hb
  exact ⟨hb.1, _, (hk _).mpr ⟨j, hd, hb.1, List.getElem?_eq_getElem hl⟩, List.getElem?_eq_getElem hl⟩
theorem Q6p {u v : Int} {to tu tv : Tok} {fu fv : BF} {Q : VQ} (G : Good W sa b σ) (hr : Room Ψ.A 28) (cap : Cap σ 2048) (hf : Full σ) (du : Den σ u fu) (dv : Den σ v fv)
  (q : ∀ t' b' σ' r S, Good W sa b' σ' → Gr σ σ' 2048 → (∀ j, S j = true ↔ Dep fu j) → Den σ' r (qf true S fv) → Q (.int r t') vals (mgL b' ++ Rl)) :
  WA Ψ (call (.ref 464) [.ref sa, .str "forall" to, .int u tu, .int v tv]) Q vals (mgL b ++ Rl) := by
 refine Qaa (N' := N464) (Qkb _) Qj2 hr (binds := [("self", .ref sa), ("op", .str "forall" to), ("u", .int u tu), ("v", .int v tv), ("w", .none)]) (rest := ["qvars"]) (fun s X => binds_K X rfl (by k_is) rfl rfl rfl) rfl [some (.ref sa), some (.str "forall" to), some (.int u tu), some (.int v tv), some .none, none] rfl ?_
 intro Ψ' he hr'
 have hr2 : Room Ψ'.A 2 := hr'.less (by kd_p)
 have hr3 : Room Ψ'.A 12 := hr'.less (by kd_p)
 have at0 := G.at'
 have hs := G.hs
 have ku := (du.vd G.ok).abs.key
 have kv := (dv.vd G.ok).abs.key
 have ok := G.ok
 dsimp only [fn464, mkFn]
 (ctx_mentions Ua Ya Xf Fb Pa Yo Vb Zh Yu Va)
 refine Qbe G hr2 ?_
 rw [ku]
 (ctx_mentions Zr Ma Za Zb Ua Ya Zf Yi Xf Va Zd Zq Zr Mb Yi Xf Fb Pa Yo Vb Zh Yu Va)
 refine Qbe G hr2 ?_
 rw [kv]
 (ctx_mentions Zr Ma Ma Za Zb Ua Ya Zf Yi Xf Va Zd Zq Zr Ma Ma Za Zb Ua Ya Xf Va Xg Yl Yd Yl Yd Yl Yd Zh)
 refine Qab (Qac (by show _ ≤ _; simp only [List.length_cons, List.length_nil]; omega)) fun _ => ?_
 refine Qag (mr (.head _)) (by repeat constructor) ?_
 refine Zr ?_
 first
 | (refine Ma (by kcf_m) ?_)
 | (refine Mb (by kcf_m) ?_)
 (ctx_mentions Ua Ya Xf Va Zd Zp Zr Ma Ua Ya Xf Va Xg Yl Yd Yl Yd Yl Yd Yl Yd Zh)
 refine Qab (Qac (by show _ ≤ _; simp only [List.length_cons, List.length_nil]; omega)) fun _ => ?_
 refine Qag (mr (.head _)) (by repeat constructor) ?_
 refine Zr ?_
 first
 | (refine Ma (by kcf_m) ?_)
 | (refine Mb (by kcf_m) ?_)
 (ctx_mentions Ua Ya Xf Va Xg Yl Yd Yl Yd Yl Yd Yl Yd Zh)
 refine Qab (Qac (by show _ ≤ _; simp only [List.length_cons, List.length_nil]; omega)) fun _ => ?_
 refine Qag (mr (.head _)) (by repeat constructor) ?_
 refine Zr ?_
 first
 | (refine Ma (by kcf_m) ?_)
 | (refine Mb (by kcf_m) ?_)
 (ctx_mentions Ua Ya Xf Va Xg Yl Yd Yl Yd Yl Yd Zh)
 refine Qab (Qac (by show _ ≤ _; simp only [List.length_cons, List.length_nil]; omega)) fun _ => ?_
 refine Qag (mr (.head _)) (by repeat constructor) ?_
 refine Zr ?_
 first
 | (refine Ma (by kcf_m) ?_)
 | (refine Mb (by kcf_m) ?_)
 (ctx_mentions Ua Ya Xf Va Xg Yl Yd Yl Yd Yl Yd Zh)
 refine Qab (Qac (by show _ ≤ _; simp only [List.length_cons, List.length_nil]; omega)) fun _ => ?_
 refine Qag (mr (.head _)) (by repeat constructor) ?_
 refine Zr ?_
 first
 | (refine Ma (by kcf_m) ?_)
 | (refine Mb (by kcf_m) ?_)
 (ctx_mentions Ua Ya Xf Va Xg Yl Yd Yl Yd Yl Yd Zh)
 refine Qab (Qac (by show _ ≤ _; simp only [List.length_cons, List.length_nil]; omega)) fun _ => ?_
 refine Qag (mr (.head _)) (by repeat constructor) ?_
 refine Zr ?_
 first
 | (refine Ma (by kcf_m) ?_)
 | (refine Mb (by kcf_m) ?_)
 (ctx_mentions Ua Ya Xf Va Xg Yl Yd Yl Yd Zh)
 refine Qab (Qac (by show _ ≤ _; simp only [List.length_cons, List.length_nil]; omega)) fun _ => ?_
 refine Qag (mr (.head _)) (by repeat constructor) ?_
 refine Zr ?_
 first
 | (refine Ma (by kcf_m) ?_)
 | (refine Mb (by kcf_m) ?_)
 (ctx_mentions Ua Ya Xf Va Xg Yl Yd Yl Yd Zh)
 refine Qab (Qac (by show _ ≤ _; simp only [List.length_cons, List.length_nil]; omega)) fun _ => ?_
 refine Qag (mr (.head _)) (by repeat constructor) ?_
 refine Zr ?_
 first
 | (refine Ma (by kcf_m) ?_)
 | (refine Mb (by kcf_m) ?_)
 (ctx_mentions Ua Xa Fa Va Ic Vb Zh)
 refine Qnd G hr3 hf du fun x o t ks F hk => ?_
 (ctx_mentions Vc Zb Ua Yb)
 refine Mine.L.callMK (ns := ["forall"]) (pl := _) rfl (by intro _; rfl) (by intro _; rfl) (by with_unfolding_all rfl) ?_; intro _
 (ctx_mentions Va)
 refine Qd2 hs at0 (by kas_types) ?_; intro _
 (ctx_mentions Vb Vb Zh Ym Ze Zi)
 refine Qcz (names := ks) G hr' cap hf dv (Qk4 (.head _) F fun _ => Iff.rfl) (F.ok (Qpb (!(byT W.w)))).sub fun t' b' σ' r G' g' d' => ?_
 (ctx_mentions Zc Zc Zc Zc Zc Zc Zc Zc Zc Zc)
 refine ⟨mgL b' ++ Rl, sA ?_, q t' b' σ' r _ G' g' (Qjk G ok du hk) d'⟩
 repeat (first | exact List.Sublist.refl _ | refine sC ?_)
theorem Qxa {u v : Int} {to tu tv : Tok} {fu fv : BF} {Q : VQ} (G : Good W sa b σ) (hr : Room Ψ.A 28) (cap : Cap σ 2048) (hf : Full σ) (du : Den σ u fu) (dv : Den σ v fv)
  (q : ∀ t' b' σ' r S, Good W sa b' σ' → Gr σ σ' 2048 → (∀ j, S j = true ↔ Dep fu j) → Den σ' r (qf false S fv) → Q (.int r t') vals (mgL b' ++ Rl)) :
  WA Ψ (call (.ref 464) [.ref sa, .str "exists" to, .int u tu, .int v tv]) Q vals (mgL b ++ Rl) := by
 refine Qaa (N' := N464) (Qkb _) Qj2 hr (binds := [("self", .ref sa), ("op", .str "exists" to), ("u", .int u tu), ("v", .int v tv), ("w", .none)]) (rest := ["qvars"]) (fun s X => binds_K X rfl (by k_is) rfl rfl rfl) rfl [some (.ref sa), some (.str "exists" to), some (.int u tu), some (.int v tv), some .none, none] rfl ?_
 intro Ψ' he hr'
 have hr2 : Room Ψ'.A 2 := hr'.less (by kd_p)
 have hr3 : Room Ψ'.A 12 := hr'.less (by kd_p)
 have at0 := G.at'
 have hs := G.hs
 have ku := (du.vd G.ok).abs.key
 have kv := (dv.vd G.ok).abs.key
 have ok := G.ok
 dsimp only [fn464, mkFn]
 (ctx_mentions Ua Ya Xf Fb Pa Yo Vb Zh Yu Va)
 refine Qbe G hr2 ?_
 rw [ku]
 (ctx_mentions Zr Ma Za Zb Ua Ya Zf Yi Xf Va Zd Zq Zr Mb Yi Xf Fb Pa Yo Vb Zh Yu Va)
 refine Qbe G hr2 ?_
 rw [kv]
 (ctx_mentions Zr Ma Ma Za Zb Ua Ya Zf Yi Xf Va Zd Zq Zr Ma Ma Za Zb Ua Ya Xf Va Xg Yl Yd Yl Yd Yl Yd Zh)
 refine Qab (Qac (by show _ ≤ _; simp only [List.length_cons, List.length_nil]; omega)) fun _ => ?_
 refine Qag (mr (.head _)) (by repeat constructor) ?_
 refine Zr ?_
 first
 | (refine Ma (by kcf_m) ?_)
 | (refine Mb (by kcf_m) ?_)
 (ctx_mentions Ua Ya Xf Va Zd Zp Zr Ma Ua Ya Xf Va Xg Yl Yd Yl Yd Yl Yd Yl Yd Zh)
 refine Qab (Qac (by show _ ≤ _; simp only [List.length_cons, List.length_nil]; omega)) fun _ => ?_
 refine Qag (mr (.head _)) (by repeat constructor) ?_
 refine Zr ?_
 first
 | (refine Ma (by kcf_m) ?_)
 | (refine Mb (by kcf_m) ?_)
 (ctx_mentions Ua Ya Xf Va Xg Yl Yd Yl Yd Yl Yd Yl Yd Zh)
 refine Qab (Qac (by show _ ≤ _; simp only [List.length_cons, List.length_nil]; omega)) fun _ => ?_
 refine Qag (mr (.head _)) (by repeat constructor) ?_
 refine Zr ?_
 first
 | (refine Ma (by kcf_m) ?_)
 | (refine Mb (by kcf_m) ?_)
 (ctx_mentions Ua Ya Xf Va Xg Yl Yd Yl Yd Yl Yd Zh)
 refine Qab (Qac (by show _ ≤ _; simp only [List.length_cons, List.length_nil]; omega)) fun _ => ?_
 refine Qag (mr (.head _)) (by repeat constructor) ?_
 refine Zr ?_
 first
 | (refine Ma (by kcf_m) ?_)
 | (refine Mb (by kcf_m) ?_)
 (ctx_mentions Ua Ya Xf Va Xg Yl Yd Yl Yd Yl Yd Zh)
 refine Qab (Qac (by show _ ≤ _; simp only [List.length_cons, List.length_nil]; omega)) fun _ => ?_
 refine Qag (mr (.head _)) (by repeat constructor) ?_
 refine Zr ?_
 first
 | (refine Ma (by kcf_m) ?_)
 | (refine Mb (by kcf_m) ?_)
 (ctx_mentions Ua Ya Xf Va Xg Yl Yd Yl Yd Yl Yd Zh)
 refine Qab (Qac (by show _ ≤ _; simp only [List.length_cons, List.length_nil]; omega)) fun _ => ?_
 refine Qag (mr (.head _)) (by repeat constructor) ?_
 refine Zr ?_
 first
 | (refine Ma (by kcf_m) ?_)
 | (refine Mb (by kcf_m) ?_)
 (ctx_mentions Ua Ya Xf Va Xg Yl Yd Yl Yd Zh)
 refine Qab (Qac (by show _ ≤ _; simp only [List.length_cons, List.length_nil]; omega)) fun _ => ?_
 refine Qag (mr (.head _)) (by repeat constructor) ?_
 refine Zr ?_
 first
 | (refine Ma (by kcf_m) ?_)
 | (refine Mb (by kcf_m) ?_)
 (ctx_mentions Ua Ya Xf Va Xg Yl Yd Yl Yd Zh)
 refine Qab (Qac (by show _ ≤ _; simp only [List.length_cons, List.length_nil]; omega)) fun _ => ?_
 refine Qag (mr (.head _)) (by repeat constructor) ?_
 refine Zr ?_
 first
 | (refine Ma (by kcf_m) ?_)
 | (refine Mb (by kcf_m) ?_)
 (ctx_mentions Ua Ya Xf Va Xg Yl Yd Yl Yd Zh)
 refine Qab (Qac (by show _ ≤ _; simp only [List.length_cons, List.length_nil]; omega)) fun _ => ?_
 refine Qag (mr (.head _)) (by repeat constructor) ?_
 refine Zr ?_
 first
 | (refine Ma (by kcf_m) ?_)
 | (refine Mb (by kcf_m) ?_)
 (ctx_mentions Ua Xa Fa Va Ic Vb Zh)
 refine Qnd G hr3 hf du fun x o t ks F hk => ?_
 (ctx_mentions Vc Zb Ua Yb)
 refine Mine.L.callMK (ns := ["forall"]) (pl := _) rfl (by intro _; rfl) (by intro _; rfl) (by with_unfolding_all rfl) ?_; intro _
 (ctx_mentions Va)
 refine Qd2 hs at0 (by kas_types) ?_; intro _
 (ctx_mentions Vb Vb Zh Ym Ze Zi)
 refine Qcz (names := ks) G hr' cap hf dv (Qk4 (.head _) F fun _ => Iff.rfl) (F.ok (Qpb (!(byT W.w)))).sub fun t' b' σ' r G' g' d' => ?_
 (ctx_mentions Zc Zc Zc Zc Zc Zc Zc Zc Zc Zc Zc)
 refine ⟨mgL b' ++ Rl, sA ?_, q t' b' σ' r _ G' g' (Qjk G ok du hk) d'⟩
 repeat (first | exact List.Sublist.refl _ | refine sC ?_)
end
end
section
section
variable {K : Params → Frag} {N : Nm} {W : Wd} {Ψ : Frm K N W} {vals : Vals} {l : Led}
variable {Kt : Type} [DecidableEq Kt] {knd : KeyKind W.prog W.w Kt} {d : Addr} {o : Obj} {k : Kt} {key : Value} {kvs : List (Kt × Value)} {xs : List (List Kt × Addr × Value)} {ks : List Kt} {x : Addr}
theorem Qef {v : Value} {pre post : Led} {Q : VQ} (hkey : knd.is k key = true) (hl : l = pre ++ (d, o) :: post) (ho : o.IsDictOf knd kvs) (hz : kvs.length ≤ sizeLine) (hn : valueAt kvs k = none)
  (q : ∀ o' : Obj, o'.IsDictOf knd (stored kvs k v) → Q v vals (pre ++ (d, o') :: post)) : WA Ψ (call (.builtin "dict.setdefault") [.ref d, key, v]) Q vals l := fun E s a => by
 subst hl
 have hm : (d, o) ∈ pre ++ (d, o) :: post := mr (.head _)
 refine call_meetsIn PySem.F.slot_dict_setdefault (dictAt a hm ho).typeIs PySem.F.entry_dict_setdefault (PySem.F.args_dict_setdefault_3 _ _ _) (kt_meets_setdefault knd d hkey (notSys a hm) v)
  ⟨kvs, dictAt a hm ho, hz, fun v' h => absurd (hn.symm.trans h) (by simp), fun _ h' hd hs => ?_⟩
 obtain ⟨o', ho', hd'⟩ := Heap.dictOf_iff.mp hd
 exact ⟨⟨rfl, rfl⟩, vals, _, a.upd hs ho', q o' hd'⟩
theorem Qee {v y : Value} {Q : VQ} (hkey : knd.is k key = true) (hm : (d, o) ∈ l) (ho : o.IsDictOf knd kvs) (hz : kvs.length ≤ sizeLine) (hn : valueAt kvs k = some y)
  (q : Q y vals l) : WA Ψ (call (.builtin "dict.setdefault") [.ref d, key, v]) Q vals l := fun E s a => by
 refine call_meetsIn PySem.F.slot_dict_setdefault (dictAt a hm ho).typeIs PySem.F.entry_dict_setdefault (PySem.F.args_dict_setdefault_3 _ _ _) (kt_meets_setdefault knd d hkey (notSys a hm) v)
  ⟨kvs, dictAt a hm ho, hz, fun v' h => ?_, fun h => absurd (hn.symm.trans h) (by simp)⟩
 rw [hn] at h; cases h
 exact ⟨⟨rfl, rfl⟩, vals, l, ⟨a.F, a.N, a.U, a.G⟩, q⟩
theorem Qkl {Q : VQ} (hm : (d, o) ∈ l) (ho : IsTupDict knd o []) (q : Q .none vals l) : WA Ψ (call (.builtin "dict.pop") [.ref d, .ref x, .none]) Q vals l := fun E s a => by
 have D := tdictAt a hm ho (by simp)
 have hns := notSys a hm
 kcj_m
 obtain ⟨es, ep, h1, h2, h3, h4⟩ := ho
 kd_p1
 refine wpAny_call_entry PySem.F.slot_dict_pop D.typeIs PySem.F.entry_dict_pop ?_ (PySem.F.args_dict_pop_3 _ _ _)
 unfold Builtin.«dict.pop»
 refine wpAny_bind ?_
 unfold Builtin.Dict.keyAndDefault
 refine wpAny_bind (wpAny_notOrdered_dict D.typeIs ?_)
 show wpAny _ _ (Pure.pure (d, Value.ref x, some Value.none)) _ _ s
 refine wpAny_pure ?_
 have hemp : es.isEmpty = true := by
  have : es.toList = [] := by simpa using h3
  have : es.size = 0 := by rw [← Array.length_toList, this]; rfl
  simpa [Array.isEmpty] using this
 show wpAny _ _ (dictEntries d >>= _) _ _ s
 refine wpAny_bind (wpAny_dictEntries (a.N _ hm).1 h2 ?_)
 refine wpAny_bind (wpAny_pure ?_)
 rw [hemp]
 refine Qb0 rfl ?_
 refine wpAny_bind (wpAny_rule ?_)
 refine wpAny_bind (wpAny_pure ?_)
 refine Qb0 rfl ?_
 unfold Builtin.Dict.missedRemoval
 rw [if_neg (by rw [hns]; exact Bool.false_ne_true)]
 refine wpAny_bind (wpAny_pure ?_)
 refine wpAny_bind (wpAny_rule ?_)
 exact wpAny_pure ⟨_, rfl, ⟨rfl, rfl⟩, vals, l, a, q⟩
theorem Qq0 {y : Addr} {v : Value} {pre post : Led} {Q : VQ} (hu : Ψ.A.units + 1 < cLine) (hl : l = pre ++ (d, o) :: post) (ho : IsTupDict knd o [(ks, y, v)]) (hk : TupL knd l ks x) (hk' : TupL knd l ks y)
  (q : ∀ o', IsTupDict knd o' [] → Q v vals (pre ++ (d, o') :: post)) : WA Ψ (call (.builtin "dict.pop") [.ref d, .ref x, .none]) Q vals l := fun E s a => by
 subst hl
 have hm : (d, o) ∈ pre ++ (d, o) :: post := mr (.head _)
 have hD : ∀ z ∈ [(ks, y, v)], TupL knd (pre ++ (d, o) :: post) z.1 z.2.1 := fun z hz => by
  rw [List.mem_singleton] at hz; subst hz; exact hk'
 have D := tdictAt a hm ho hD
 have hns := notSys a hm
 have hg := (a.N _ hm).1
 kcj_m
 obtain ⟨es, ep, h1, h2, h3, h4⟩ := ho
 kd_p1
 have hsz : es.size = 1 := by rw [← Array.length_toList, h3]; rfl
 refine wpAny_call_entry PySem.F.slot_dict_pop D.typeIs PySem.F.entry_dict_pop ?_ (PySem.F.args_dict_pop_3 _ _ _)
 unfold Builtin.«dict.pop»
 refine wpAny_bind ?_
 unfold Builtin.Dict.keyAndDefault
 refine wpAny_bind (wpAny_notOrdered_dict D.typeIs ?_)
 show wpAny _ _ (Pure.pure (d, Value.ref x, some Value.none)) _ _ s
 refine wpAny_pure ?_
 have hemp : es.isEmpty = false := by simp [Array.isEmpty, hsz]
 show wpAny _ _ (dictEntries d >>= _) _ _ s
 refine wpAny_bind (wpAny_dictEntries hg h2 ?_)
 refine wpAny_bind (wpAny_pure ?_)
 rw [hemp]
 refine Qa1 (by simp) ?_
 unfold Builtin.Dict.takeOut
 refine wpAny_bind (wpAny_holding ?_)
 refine wpAny_bind ((tupleKind knd).pyHash (k := ks) (show (tupleKind knd).room Ψ.A.in1 from tupleKind_room_in1 hu) (hk.isKey a) ?_)
 refine wpAny_bind (wpAny_dictFind_heap (knd := tupleKind knd) (s := { s with toks := s.toks + (tupleKind knd).draws ks }) (xs := [(ks, y, v)]) (k := ks) (show (tupleKind knd).room Ψ.A.in1 from tupleKind_room_in1 hu) (TupL.isKey (s := s) hk a) hg h2 h3 (fun z hz => TupL.isKey (s := s) (hD z hz) a) h4 (fun h => absurd rfl (h 0 (y, v))) fun j p hj => ?_)
 obtain ⟨rfl, rfl⟩ : j = 0 ∧ p = (y, v) := by
  cases j with
  | zero => simp at hj; exact ⟨rfl, hj.symm⟩
  | succ j => simp at hj
 have he0 : es[0]? = some (entryOfKey (tupleKind knd) (ks, y, v)) := by rw [← Array.getElem?_toList, h3]; rfl
 refine wpAny_bind (wpAny_dictEntries hg h2 ?_)
 rw [he0]
 have hempty : es.eraseIdxIfInBounds 0 = #[] := by
  have h0 : (es.eraseIdxIfInBounds 0).size = 0 := by
   simp only [Array.eraseIdxIfInBounds]
   split
   ·rw [Array.size_eraseIdx]; exact Q4t hsz
   ·exact Q4s (by assumption)
  exact Array.eq_empty_of_size_eq_zero h0
 refine wpAny_bind (wpAny_updateDictKeys (f := (·.eraseIdxIfInBounds 0)) hg h2 ?_ (by rw [hsz, Qae]; omega) (by show (es.eraseIdxIfInBounds 0).size ≤ _; rw [hempty]; exact Nat.zero_le _))
 refine wpAny_pure ?_
 dsimp only
 refine wpAny_bind (wpAny_letGo ?_)
 have hg' : (s.heap.update d (Obj.mapDictKeys (·.eraseIdxIfInBounds 0))).get? d = some (Obj.mapDictKeys (·.eraseIdxIfInBounds 0) o) := Heap.get?_update_self _ hg (by
  obtain ⟨c, dd, dt, sl⟩ := o
  simp only at h2; subst h2; rfl)
 obtain ⟨n', hn', hx'⟩ : ∃ n', (Obj.mapDictKeys (·.eraseIdxIfInBounds 0) o).data = .dict #[] n' ∧ (Obj.mapDictKeys (·.eraseIdxIfInBounds 0) o).ExactDict := by
  obtain ⟨c, dd, dt, sl⟩ := o
  simp only at h2
  subst h2
  obtain ⟨n', e⟩ : ∃ n', (Obj.mapDictKeys (·.eraseIdxIfInBounds 0) { cls := c, dict := dd, data := .dict es ep, slots := sl }).data = Data.dict (es.eraseIdxIfInBounds 0) n' := ⟨_, rfl⟩
  rw [hempty] at e
  exact ⟨_, e, h1⟩
 exact wpAny_pure ⟨_, rfl, ⟨rfl, rfl⟩, vals, _, a.upd (Heap.SameBut.update ..) hg', q _ ⟨#[], n', hx', hn', rfl, List.nodup_nil⟩⟩
end
end
section
noncomputable def fn86 : FnIn 86 := by
 refine' mkFn ?ok ?hb
 case ok => intro P; k_is
 case hb => exact rfl
@[reducible] noncomputable def N86 : Nm := ⟨["self", "level", "u", "t", "told"], []⟩
theorem Q66 : ScOk fn86.fd.scope.names N86.loc N86.glo := by
 refine Qah ?_
 kcf_m
theorem Q7c (P : Params) : FnOk (hK P) 86 fn86.fd fn86.body := ⟨⟨_, _, _, fn86.ok P⟩, by kcf_m, fn86.hb, rfl, rfl, rfl, rfl, rfl, by kcf_m⟩
section
theorem Qa7 {x : Str} {v : Value} {expr : Bool} {dd : Addr} {ae : List DictEntry} {n i : Nat} {av : List Value} {l : Led} {Q : VQ} (I : InstL l clsA sa dd ae n) (at' : AttrsAre ae an av) (hi : an[i]? = some x) (hv : av[i]? = some v) (hh : handedIn v = true) (q : Q v vals l) :
  WA Ψ (getAttr (.ref sa) x expr) Q vals l := Qmw I at' Qoi hi hv (Qb1 _ _) (Qc4 _) (Qph _ x (List.mem_of_getElem? hi)) hh q
theorem Qo3 {dd pd sd rd : Addr} {ae : List DictEntry} {n : Nat} {av : List Value} {po so ro : Obj} {pk : List (List (Option Int) × Addr × Value)} {sk rk : List (Int × Value)} {R : Led} {lv : Int} {tl : Tok} {Q : VQ} (hr : Room Ψ.A 2)
  (at' : AttrsAre ae an av) (h0 : av[0]? = some (.ref pd)) (h1 : av[1]? = some (.ref sd)) (h2 : av[2]? = some (.ref rd))
  (hp : IsTupDict (optKind W.prog W.w) po pk) (hs : so.IsDictOf (intKind W.prog W.w) sk) (hro : ro.IsDictOf (intKind W.prog W.w) rk)
  (hc : (pk = [] ∧ sk = [] ∧ rk = []) ∨ ∃ ks0 a0 a1 t0 c t1, pk = [(ks0, a1, .int 1 t0)] ∧ sk = [(1, .ref a0)] ∧ rk = [(1, .int c t1)] ∧ TupL (optKind W.prog W.w) R ks0 a0 ∧ TupL (optKind W.prog W.w) R ks0 a1)
  (q : ∀ a t1 c t2 po' so' ro', IsTupDict (optKind W.prog W.w) po' [([some lv, none, none], a, .int 1 t1)] → so'.IsDictOf (intKind W.prog W.w) [(1, .ref a)] → ro'.IsDictOf (intKind W.prog W.w) [(1, .int c t2)] →
   Q .none vals ((sa, instObj clsA dd) :: (dd, dictOf ae n) :: (pd, po') :: (sd, so') :: (rd, ro') :: (a, tupObj [.int lv tl, .none, .none]) :: R)) :
  WA Ψ (call (.ref 86) [.ref sa, .int lv tl]) Q vals ((sa, instObj clsA dd) :: (dd, dictOf ae n) :: (pd, po) :: (sd, so) :: (rd, ro) :: R) := by
 refine Qaa (N' := N86) (Q7c _) Q66 hr (binds := [("self", .ref sa), ("level", .int lv tl)]) (rest := ["u", "t", "told"]) (fun s X => .of_eq rfl) rfl [some (.ref sa), some (.int lv tl), none, none, none] rfl ?_
 intro Ψ' he hr'
 have hun : Ψ'.A.units + 1 < cLine := by have := hr'.u; exact Q4r this
 dsimp only [fn86, mkFn]
 (ctx_mentions Ua Xa Yc Vc Zb Ua Xa Xg Vb Yl Zd Yl Zd Zh)
 refine Qab (M := [(sa, instObj clsA dd), (dd, dictOf ae n), (pd, po), (sd, so), (rd, ro)]) (R := R) (vs := [.int lv tl, .none, .none]) (Qac (n := 3) (by kd_p)) fun a => ?_
 (ctx_mentions Vc Zb Ua Xa Fa Xj Va)
 have hit : ItemsAre (optKind W.prog W.w) [some lv, none, none] [.int lv tl, .none, .none] := .cons (by simp [optKind, isOpt]) (.cons (by rfl) (.cons (by rfl) .nil))
 have II : ∀ {l : Led}, InstL ((sa, instObj clsA dd) :: (dd, dictOf ae n) :: l) clsA sa dd ae n := ⟨.head _, .tail _ (.head _)⟩
 rcases hc with ⟨rfl, rfl, rfl⟩ | ⟨ks0, a0, a1, t0, c, t1, rfl, rfl, rfl, htup, htup1⟩
 ·refine Qa7 (i := 1) II at' rfl h1 rfl ?_
  refine Qa4 (d := sd) (o := so) (.tail _ (.tail _ (.tail _ (.head _)))) (Qan hs) PySem.F.slot_dict_setdefault PySem.F.type_dict_setdefault ?_
  (ctx_mentions Yn Vb Vb Zh)
  refine Qef (k := (1 : Int)) (pre := [(sa, instObj clsA dd), (dd, dictOf ae n), (pd, po)]) (intKind_is _ _ _ _) rfl hs (by simp) rfl fun so1 hs1 => ?_
  (ctx_mentions Vc Zb Ua Xd Fa Xj Va)
  refine Qa7 (i := 0) II at' rfl h0 rfl ?_
  refine Qa4 (d := pd) (o := po) (.tail _ (.tail _ (.head _))) (let ⟨_, _, e, _⟩ := hp; e) PySem.F.slot_dict_pop PySem.F.type_dict_pop ?_
  (ctx_mentions Yn Vb Yl Zd Zh)
  refine Qkl (d := pd) (o := po) (.tail _ (.tail _ (.head _))) hp ?_
  (ctx_mentions Zb Ua Xc Va Xj Va)
  refine Qa7 (i := 1) II at' rfl h1 rfl ?_
  (ctx_mentions Va)
  refine Qbh (k := (1 : Int)) (pre := [(sa, instObj clsA dd), (dd, dictOf ae n), (pd, po)]) (intKind_is _ _ _ _) rfl hs1 (by simp [stored, Qae]) fun so2 hs2 => ?_
  (ctx_mentions Zb Ua Xc Va Xj Va)
  refine Qa7 (i := 0) II at' rfl h0 rfl ?_
  (ctx_mentions Va)
  refine Qgt (knd := optKind W.prog W.w) (ks := [some lv, none, none]) (xs := []) (pre := [(sa, instObj clsA dd), (dd, dictOf ae n)]) hun ⟨_, _, _, _, .tail _ (.tail _ (.tail _ (.tail _ (.tail _ (.head _))))), hit⟩ rfl hp (by simp) (by simp) fun po1 hp1 => ?_
  (ctx_mentions Zb Ua Xd Fa Xj Va)
  refine Qa7 (i := 2) II at' rfl h2 rfl ?_
  refine Qa4 (d := rd) (o := ro) (.tail _ (.tail _ (.tail _ (.tail _ (.head _))))) (Qan hro) PySem.F.slot_dict_setdefault PySem.F.type_dict_setdefault ?_
  (ctx_mentions Yn Vb Yl Yc Zh)
  refine Qef (k := (1 : Int)) (pre := [(sa, instObj clsA dd), (dd, dictOf ae n), (pd, po1), (sd, so2)]) (intKind_is _ _ _ _) rfl hro (by simp) rfl fun ro1 hr1 => ?_
  (ctx_mentions Zb Za)
  refine ⟨_, List.Sublist.refl _, q a _ _ _ po1 so2 ro1 hp1 hs2 hr1⟩
 ·have htl1 : ∀ {x1 x2 x3 x4 x5 x6 : Addr × Obj}, TupL (optKind W.prog W.w) (x1 :: x2 :: x3 :: x4 :: x5 :: x6 :: R) ks0 a1 := htup1.mono fun y hy => .tail _ (.tail _ (.tail _ (.tail _ (.tail _ (.tail _ hy)))))
  have htl : ∀ {x1 x2 x3 x4 x5 x6 : Addr × Obj}, TupL (optKind W.prog W.w) (x1 :: x2 :: x3 :: x4 :: x5 :: x6 :: R) ks0 a0 := htup.mono fun y hy => .tail _ (.tail _ (.tail _ (.tail _ (.tail _ (.tail _ hy)))))
  refine Qa7 (i := 1) II at' rfl h1 rfl ?_
  refine Qa4 (d := sd) (o := so) (.tail _ (.tail _ (.tail _ (.head _)))) (Qan hs) PySem.F.slot_dict_setdefault PySem.F.type_dict_setdefault ?_
  (ctx_mentions Yn Vb Vb Zh)
  refine Qee (d := sd) (o := so) (k := (1 : Int)) (intKind_is _ _ _ _) (.tail _ (.tail _ (.tail _ (.head _)))) hs (by simp [Qae]) rfl ?_
  (ctx_mentions Vc Zb Ua Xd Fa Xj Va)
  refine Qa7 (i := 0) II at' rfl h0 rfl ?_
  refine Qa4 (d := pd) (o := po) (.tail _ (.tail _ (.head _))) (let ⟨_, _, e, _⟩ := hp; e) PySem.F.slot_dict_pop PySem.F.type_dict_pop ?_
  (ctx_mentions Yn Vb Yl Zd Zh)
  refine Qq0 (pre := [(sa, instObj clsA dd), (dd, dictOf ae n)]) hun rfl hp htl htl1 fun po0 hp0 => ?_
  (ctx_mentions Zb Ua Xc Va Xj Va)
  refine Qa7 (i := 1) II at' rfl h1 rfl ?_
  (ctx_mentions Va)
  refine Qbh (k := (1 : Int)) (pre := [(sa, instObj clsA dd), (dd, dictOf ae n), (pd, po0)]) (intKind_is _ _ _ _) rfl hs (by simp [Qae]) fun so2 hs2 => ?_
  (ctx_mentions Zb Ua Xc Va Xj Va)
  refine Qa7 (i := 0) II at' rfl h0 rfl ?_
  (ctx_mentions Va)
  refine Qgt (knd := optKind W.prog W.w) (ks := [some lv, none, none]) (xs := []) (pre := [(sa, instObj clsA dd), (dd, dictOf ae n)]) hun ⟨_, _, _, _, .tail _ (.tail _ (.tail _ (.tail _ (.tail _ (.head _))))), hit⟩ rfl hp0 (by simp) (by simp) fun po1 hp1 => ?_
  (ctx_mentions Zb Ua Xd Fa Xj Va)
  refine Qa7 (i := 2) II at' rfl h2 rfl ?_
  refine Qa4 (d := rd) (o := ro) (.tail _ (.tail _ (.tail _ (.tail _ (.head _))))) (Qan hro) PySem.F.slot_dict_setdefault PySem.F.type_dict_setdefault ?_
  (ctx_mentions Yn Vb Yl Yc Zh)
  refine Qee (d := rd) (o := ro) (k := (1 : Int)) (intKind_is _ _ _ _) (.tail _ (.tail _ (.tail _ (.tail _ (.head _))))) hro (by simp [Qae]) rfl ?_
  (ctx_mentions Zb Za)
  refine ⟨_, List.Sublist.refl _, q a _ _ _ po1 so2 ro hp1 hs2 hro⟩
end
end
section
noncomputable def fn143 : FnIn 143 := by
 refine' mkFn ?ok ?hb
 case ok => intro P; k_is
 case hb => exact rfl
@[reducible] noncomputable def N143 : Nm := ⟨["self", "var", "level", "other"], ["len"]⟩
theorem Qvx : ScOk fn143.fd.scope.names N143.loc N143.glo := by
 refine Qah ?_
 kcf_m
theorem Qw7 (P : Params) : FnOk (hK P) 143 fn143.fd fn143.body := ⟨⟨_, _, _, fn143.ok P⟩, by kcf_m, fn143.hb, rfl, rfl, rfl, rfl, rfl, by kcf_m⟩
noncomputable def fn129 : FnIn 129 := by
 refine' mkFn ?ok ?hb
 case ok => intro P; k_is
 case hb => exact rfl
@[reducible] noncomputable def N129 : Nm := ⟨["self", "var", "level"], ["len"]⟩
theorem Qvy : ScOk fn129.fd.scope.names N129.loc N129.glo := by
 refine Qah ?_
 kcf_m
theorem Qw8 (P : Params) : FnOk (hK P) 129 fn129.fd fn129.body := ⟨⟨_, _, _, fn129.ok P⟩, by kcf_m, fn129.hb, rfl, rfl, rfl, rfl, rfl, by kcf_m⟩
section
noncomputable def Sg.bare (order : List Int) : Sg := ⟨order, [], fun _ _ _ => none, 0⟩
theorem Ql2 (order : List Int) : Ok (Sg.bare order) := by
 have hn : ∀ u, (Sg.bare order).node u = none := fun u => by
  unfold Sg.node Sg.bare
  split <;> simp
 exact ⟨fun u i v x h => (by rw [hn] at h; cases h), fun u u' t h => (by rw [hn] at h; cases h)⟩
theorem Ql4 (order : List Int) : Ik (Sg.bare order) := fun g u v r h => by cases h
theorem Qlc {α : Type} {y : α} : ∀ {l : List α}, y ∈ l → l.length ≤ 1 → l = [y]
 | [], h, _ => by cases h
 | a :: [], h, _ => by rw [List.mem_singleton.mp h]
 | _ :: _ :: r, _, h => absurd h (by simp only [List.length_cons]; exact Q4q)
theorem Qo6 {K : Type} [DecidableEq K] {kvs : List (K × Value)} {k : K} {v : Value} (h : valueAt kvs k = some v) (hl : kvs.length ≤ 1) : kvs = [(k, v)] := by
 have hm : (k, v) ∈ kvs := by
  unfold valueAt at h
  obtain ⟨y, hy, e⟩ := Option.map_eq_some_iff.mp h
  have h2 := List.find?_some hy
  have h1 := List.mem_of_find?_eq_some hy
  simp only [decide_eq_true_eq] at h2
  rw [← h2, ← e]; exact h1
 exact Qlc hm hl
theorem Qld {K : Type} [DecidableEq K] {xs : List (K × Addr × Value)} {k : K} {p : Addr × Value} (h : atKey xs k = some p) (hl : xs.length ≤ 1) : xs = [(k, p)] := Qlc (Qe5 h) hl
theorem Ql3 (order : List Int) (u : Int) : (Sg.bare order).node u = none := by
 unfold Sg.node Sg.bare
 split <;> simp
theorem Qeq {order : List Int} {u : Int} {ks : List (Option Int)} (h : (Sg.bare order).key u = some ks) : u = 1 ∧ ks = [some (order.length : Int), none, none] := by
 unfold Sg.key at h
 split at h
 ·rename_i h1; cases h; exact ⟨h1, rfl⟩
 ·rw [Ql3] at h; cases h
theorem Qb4 (order : List Int) : (Sg.bare order).key 1 = some [some (order.length : Int), none, none] := rfl
theorem Qkv {W : Wd} {b b' : Mg} {order : List Int} {x : Int} {a : Addr} {t1 t2 tv tl : Tok} {c : Int} {tt : Tok} (r : Rep W b (Sg.bare order)) (hx : x ∉ order) (hl : order.length ≤ 10)
  (hat : AttrsAre b'.ae an b'.av) (hmf : b'.mf = b.mf) (hmx : b'.mx = b.mx) (htu : b'.tups = (a, tupObj [.int ((order.length : Int) + 1) tt, .none, .none]) :: b.tups)
  (hpk : b'.pk = [([some ((order.length : Int) + 1), none, none], a, .int 1 t1)]) (hpo : IsTupDict (optKind W.prog W.w) b'.po b'.pk) (hsk : b'.sk = [(1, .ref a)]) (hso : b'.so.IsDictOf (intKind W.prog W.w) b'.sk)
  (hrk : b'.rk = [(1, .int c t2)]) (hro : b'.rro.IsDictOf (intKind W.prog W.w) b'.rk) (hio : b'.io = b.io) (hik : b'.ik = b.ik)
  (hvk : b'.vk = stored b.vk x (.int order.length tv)) (hvo : b'.vo.IsDictOf (intKind W.prog W.w) b'.vk) (hlk : b'.lk = stored b.lk order.length (.int x tl)) (hlo : b'.lo.IsDictOf (intKind W.prog W.w) b'.lk) : Rep W b' (Sg.bare (order ++ [x])) := by
 have hlen : ((order ++ [x]).length : Int) = order.length + 1 := by simp
 have hT : TupL (optKind W.prog W.w) b'.tups [some ((order.length : Int) + 1), none, none] a :=
  ⟨_, _, _, _, by rw [htu]; exact .head _, .cons (by simp [optKind, isOpt]) (.cons (by rfl) (.cons (by rfl) .nil))⟩
 have hv0 : valueAt b.vk x = none := r.v3 x hx
 have hl0 : valueAt b.lk (order.length : Int) = none := r.l3 _ (.inr (Int.le_refl _))
 refine
  { at' := hat, mf := by rw [hmf]; exact r.mf, mx := by rw [hmx]; exact r.mx, s1 := hso, s2 := ?_, s3 := ?_, s4 := by rw [hsk]; rfl, p1 := hpo, p2 := ?_, p3 := ?_, p4 := ?_, p5 := by rw [hpk]; exact Nat.le_refl _, r1 := hro, r2 := ?_, r3 := by rw [hrk]; exact Nat.le_refl _,
    i1 := by rw [hio, hik]; exact r.i1, i2 := ?_, i3 := by rw [hik]; exact r.i3, i4 := by rw [hik]; exact r.i4, v1 := hvo, v2 := ?_, v3 := ?_, v4 := ?_, v5 := ?_, l1 := hlo, l2 := ?_, l3 := ?_, l4 := ?_ }
 ·intro u ks h
  obtain ⟨rfl, rfl⟩ := Qeq h
  exact ⟨a, by rw [hsk]; rfl, by rw [hlen]; exact hT⟩
 ·intro u h
  have : u ≠ 1 := by rintro rfl; rw [Qb4] at h; cases h
  have this' : ¬ 1 = u := fun e => this e.symm
  rw [hsk]
  simp [valueAt, this']
 ·rw [hpk]
  intro y hy
  rw [List.mem_singleton] at hy
  subst hy
  exact hT
 ·intro ks a' v h
  have := Qe5 h
  rw [hpk, List.mem_singleton] at this
  cases this
  exact ⟨1, t1, rfl, by rw [Qb4, hlen]⟩
 ·intro u ks h
  obtain ⟨rfl, rfl⟩ := Qeq h
  rw [hpk, hlen]
  exact ⟨a, t1, by simp [atKey]⟩
 ·intro u ks h
  obtain ⟨rfl, rfl⟩ := Qeq h
  rw [hrk]
  exact ⟨c, t2, rfl⟩
 ·rw [hik, htu]
  exact fun y hy => (r.i2 y hy).cons
 ·intro j y h
  replace h : (order ++ [x])[j]? = some y := h
  rw [hvk, valueAt_stored]
  by_cases hj : j < order.length
  ·rw [List.getElem?_append_left hj] at h
   have hne : y ≠ x := fun e => hx (e ▸ List.mem_of_getElem? h)
   rw [if_neg hne]
   exact r.v2 j y h
  ·have h' := h
   rw [List.getElem?_append_right (by exact Qki hj)] at h'
   have hj0 : j - order.length = 0 := by
    rcases Nat.eq_zero_or_pos (j - order.length) with h0 | h0
    ·exact h0
    ·rw [List.getElem?_eq_none (by simp; exact Qt0 h0)] at h'; cases h'
   rw [hj0] at h'
   simp only [List.getElem?_cons_zero, Option.some.injEq] at h'
   rw [if_pos h'.symm]
   exact ⟨tv, by congr 2; exact Q4p hj hj0⟩
 ·intro y h
  simp only [Sg.bare, List.mem_append, List.mem_singleton, not_or] at h
  rw [hvk, valueAt_stored, if_neg h.2]
  exact r.v3 y h.1
 ·rw [hvk, Qa2 hv0, r.v4]
  simp [Sg.bare]
 ·simp only [Sg.bare, List.length_append, List.length_singleton]; exact Q4o hl
 ·intro j y h
  replace h : (order ++ [x])[j]? = some y := h
  rw [hlk, valueAt_stored]
  by_cases hj : j < order.length
  ·rw [List.getElem?_append_left hj] at h
   rw [if_neg (by exact Q4n hj)]
   exact r.l2 j y h
  ·have h' := h
   rw [List.getElem?_append_right (by exact Qki hj)] at h'
   have hj0 : j - order.length = 0 := by
    rcases Nat.eq_zero_or_pos (j - order.length) with h0 | h0
    ·exact h0
    ·rw [List.getElem?_eq_none (by simp; exact Qt0 h0)] at h'; cases h'
   rw [hj0] at h'
   simp only [List.getElem?_cons_zero, Option.some.injEq] at h'
   rw [if_pos (by exact Q4m hj hj0)]
   exact ⟨tl, by rw [h']⟩
 ·intro j h
  simp only [Sg.bare, List.length_append, List.length_singleton] at h
  rw [hlk, valueAt_stored, if_neg (by exact Q4l h)]
  exact r.l3 j (by simp only [Sg.bare]; exact Q4k h)
 ·rw [hlk, Qa2 hl0, r.l4]
  simp [Sg.bare]
theorem Qv1 {x : Int} {tx : Tok} {Q : VQ} (G : Good W sa b σ) (hr : Room Ψ.A 2) (q : ∀ t, Q (.int σ.nv t) vals (mgL b ++ Rl)) :
  WA Ψ (call (.ref 143) [.ref sa, .int x tx, .none]) Q vals (mgL b ++ Rl) := by
 refine Qaa (N' := N143) (Qw7 _) Qvx hr (binds := [("self", .ref sa), ("var", .int x tx), ("level", .none)]) (rest := ["other"]) (fun s X => .of_eq rfl) rfl [some (.ref sa), some (.int x tx), some .none, none] rfl ?_
 intro Ψ' he hr'
 have at0 := G.at'
 have hs := G.hs
 have h5 := G.r.v5
 have hnv : (b.vk.length : Int) = σ.nv := by rw [G.r.v4]; rfl
 dsimp only [fn143, mkFn]
 (ctx_mentions Ua Ya Xf Va Zd Zp Zr Mb Ua Xa Fb Pa Yo Yl Xj Va Ga Zh)
 refine Qd9 Qbv G.r.v1 (by rw [G.r.v4]; exact Qxh h5) fun _ => ?_
 rw [hnv]
 (ctx_mentions Vc Zb Za Zb Ua Ya Xf Va Yc Zl Zr Ma Za Zb Ua Xa Fa Xj Va Ga)
 refine Qa4 Qg7 (Qan G.r.l1) PySem.F.slot_dict_get PySem.F.type_dict_get ?_
 (ctx_mentions Yn Vb Zh)
 refine Qou (k := (σ.nv : Int)) (intKind_is _ _ _ _) Qg7 G.r.l1 ?_
 rw [show valueAt b.lk (σ.nv : Int) = none from G.r.l3 _ (.inr (Int.le_refl _))]
 (ctx_mentions Vc Zb Ua Ya Xf Va Zd Zp Zr Mb Ua Yb Va Zc Zc)
 exact ⟨_, List.Sublist.refl _, q _⟩
theorem Q6q {order : List Int} {x : Int} {tx : Tok} {Q : VQ} (G : Good W sa b (Sg.bare order)) (hr : Room Ψ.A 4) (hx : x ∉ order) (hl : order.length ≤ 10)
  (q : ∀ t b', Good W sa b' (Sg.bare (order ++ [x])) → Q (.int order.length t) vals (mgL b' ++ Rl)) :
  WA Ψ (call (.ref 129) [.ref sa, .int x tx]) Q vals (mgL b ++ Rl) := by
 refine Qaa (N' := N129) (Qw8 _) Qvy hr (binds := [("self", .ref sa), ("var", .int x tx), ("level", .none)]) (rest := []) (fun s X => binds_K X rfl (by k_is) rfl rfl rfl) rfl [some (.ref sa), some (.int x tx), some .none] rfl ?_
 intro Ψ' he hr'
 have at0 := G.at'
 have hs := G.hs
 subst hs
 have hs : b.self = b.self := rfl
 have hvn := G.r.v3 x hx
 dsimp only [fn129, mkFn]
 (ctx_mentions Ua Ya Xf Va Xj Va Ga)
 refine Qh0 (intKind_is _ _ _ _) Qbv G.r.v1 ?_
 rw [hvn]
 (ctx_mentions Zr Ma Za Zb Ua Xa Fa Va Ic Vb Vb Zh)
 refine Qv1 G (hr'.less (by kd_p)) fun tl => ?_
 (ctx_mentions Vc Zb Ua Xc Va Xj Va Ga Va)
 refine Qm3 (intKind_is _ _ _ _) G.r.v1 (by rw [G.r.v4, Qae]; simp only [Sg.bare]; exact Qtz hl) fun vo' hvo => ?_
 intro b1
 have at1 : AttrsAre b1.ae an b1.av := at0
 have hs1 : b1.self = b.self := rfl
 (ctx_mentions Zb Ua Xc Va Xj Va Ga Va)
 refine Qoz (b := b1) (k := ((Sg.bare order).nv : Int)) (intKind_is _ _ _ _) G.r.l1 (by show b.lk.length ≤ _; rw [G.r.l4, Qae]; simp only [Sg.bare]; exact Qtz hl) fun lo' hlo => ?_
 intro b2
 have at2 : AttrsAre b2.ae an b2.av := at0
 have hs2 : b2.self = b.self := rfl
 (ctx_mentions Zb Ua Xd Fa Va Ic Yl Fb Pa Yo Yl Xj Va Ga Zh)
 have hvl : b2.vk.length = order.length + 1 := by
  show (stored b.vk x _).length = _
  rw [Qa2 hvn, G.r.v4]; rfl
 refine Qd9 (kvs := b2.vk) (Qbv (b := b2)) hvo (by rw [hvl]; exact Q4j hl) fun tn => ?_
 rw [hvl]
 (ctx_mentions Zh)
 have esplit : ∀ {b : Mg} {R : Led}, mgL b ++ R = (b.self, instObj clsA b.dict) :: (b.dict, dictOf b.ae b.an) :: (b.pd, b.po) :: (b.sd, b.so) :: (b.rd, b.rro) :: ([(b.idt, b.io), (b.vd, b.vo), (b.ld, b.lo), (b.ro, b.roo)] ++ b.tups ++ R) := by
  intro b R; simp [mgL]
 kcj_m
 obtain ⟨a0, hs0, ht0⟩ := G.r.s2 1 _ (Qb4 order)
 obtain ⟨a1, t0, hp1⟩ := G.r.p4 1 _ (Qb4 order)
 obtain ⟨c, tc, hr1⟩ := G.r.r2 1 _ (Qb4 order)
 kd_p1
 have esk := Qo6 hs0 (by rw [G.r.s4]; exact Nat.le_refl _)
 have epk := Qld hp1 G.r.p5
 have erk := Qo6 hr1 G.r.r3
 have htup1 : TupL (optKind W.prog W.w) b.tups [some (order.length : Int), none, none] a1 := by
  have := G.r.p2 _ (by rw [epk]; exact .head _)
  exact this
 refine Quu _ (esplit (b := b2) (R := Rl)).symm ?_
 refine Qo3 (po := b.po) (so := b.so) (ro := b.rro) (pk := b.pk) (sk := b.sk) (rk := b.rk) (hr'.less (by kd_p)) at2 rfl rfl rfl G.r.p1 G.r.s1 G.r.r1
  (.inr ⟨_, a0, a1, t0, c, tc, epk, esk, erk, ht0.mono fun y hy => ?_, htup1.mono fun y hy => ?_⟩) fun a ta ca tca po' so' ro' hpo' hso' hro' => ?_
 ·exact List.mem_append_left _ (mr hy)
 ·exact List.mem_append_left _ (mr hy)
 refine Zb ?_
 let b4 : Mg := { b2 with po := po', so := so', rro := ro', pk := [([some ((order.length : Int) + 1), none, none], a, .int 1 ta)], sk := [(1, .ref a)], rk := [(1, .int ca tca)], tups := (a, tupObj [.int ((order.length : Int) + 1) tn, .none, .none]) :: b2.tups }
 refine WA.perm (mgL b4 ++ Rl) ?_ ?_
 ·rw [esplit]
  refine List.Perm.cons _ (List.Perm.cons _ (List.Perm.cons _ (List.Perm.cons _ (List.Perm.cons _ ?_))))
  exact (List.perm_middle (l₁ := [(b2.idt, b2.io), (b2.vd, b2.vo), (b2.ld, b2.lo), (b2.ro, b2.roo)]))
 have r4 : Rep W b4 (Sg.bare (order ++ [x])) :=
  Qkv (a := a) (t1 := ta) (t2 := tca) (tv := tl) (tl := tx) (c := ca) (tt := tn) G.r hx hl at2 rfl rfl rfl rfl hpo' rfl hso' rfl hro' rfl rfl rfl hvo rfl hlo
 have hs4 : b4.self = b.self := rfl
 have at4 := r4.at'
 (ctx_mentions Ua Yb Va Zc)
 exact ⟨_, List.Sublist.refl _, q _ b4 ⟨r4, hs4, Ql2 _, Ql4 _⟩⟩
end
end
section
section
variable {K : Params → Frag} {N : Nm} {W : Wd} {Ψ : Frm K N W} {vals : Vals} {l : Led}
theorem Qq4 {C fI : Addr} {fd : FuncData} {body : List Stmt} {args : List Value} {binds : Addr → List (Str × Value)} {rest : List Str} {N' : Nm} {v0 : Addr → Vals} {Q : VQ} (hm : makesIn (K W.w.params) C = true) (hi : findIn (K W.w.params) (.ref C) "__init__" = some (some (.ref fI))) (hf : isFn (K W.w.params) (.ref fI) = true)
  (ok : FnOk (K W.w.params) fI fd body) (sc : ScOk fd.scope.names N'.loc N'.glo) (hr : (Ψ.A.under (.builtin "type.__call__" ⟨.ref C :: args, []⟩)).depth < recursionLimit)
  (hb : ∀ (x : Addr) (s : Shared), (K W.w.params).In s.heap → BindsTo s fd ⟨.ref x :: args, []⟩ (binds x)) (hn : ∀ x, (binds x).map (·.1) ++ rest = N'.loc) (h0 : ∀ x, bv (binds x) rest.length = v0 x)
  (h : ∀ (x dx : Addr) (Ψ' : Frm K N' W), Ψ'.env = callEnv fd Ψ'.L fI → Ψ'.A = (Ψ.A.under (.builtin "type.__call__" ⟨.ref C :: args, []⟩)).deeper Ψ'.env →
   WA Ψ' (execs body Ψ'.env) (fun fl _ l' => retOf fl = .none ∧ ∃ l'', l''.Sublist l' ∧ Q (.ref x) vals l'') (v0 x) ((x, instObj C dx) :: (dx, dictOf [] 0) :: l)) :
  WA Ψ (call (.ref C) args) Q vals l := by
 refine Qbd ?_
 intro E s a
 have X := Ψ.X.keeps a.F.keep
 obtain ⟨hh, g, d, t, os⟩ := s
 have hsz : (hh.push (dictOf [] 0)).objs.size = hh.objs.size + 1 := Heap.size_push ..
 have a0 := a.push (o := dictOf [] 0) (tk := t)
 have a1 := a0.push (o := instObj C hh.objs.size) (tk := t)
 dsimp only at a0 a1
 rw [hsz] at a1
 refine wpAny_call (make_core (makes_of X hm) (looks_findIn X hi) (fun self => bind_fn X self (beq_iff_eq.mp hf)) (.inl rfl) ?_)
 kcj_m
 obtain ⟨oc, od, osl, ho⟩ := ok.look
 kd_p1
 have X1 := Ψ.X.keeps a1.F.keep
 generalize hS : ({ heap := (hh.push (dictOf [] 0)).push (instObj C hh.objs.size), gens := g, drawn := d, toks := t, os := os } : Shared) = s1 at a1 X1
 have S01 : Same ⟨hh, g, d, t, os⟩ s1 := by rw [← hS]; exact ⟨rfl, rfl⟩
 have nm0 : ∀ b o, Ψ.h.get? b = some o → b ∉ (((hh.objs.size + 1, instObj C hh.objs.size) :: (hh.objs.size, dictOf [] 0) :: l).map (·.1)) := fun b o e q => by
  obtain ⟨p, hp, rfl⟩ := List.mem_map.mp q
  rw [(a1.N p hp).2.2] at e; cases e
 have st : Ψ.h.StaysIn (hideAll s1.heap (((hh.objs.size + 1, instObj C hh.objs.size) :: (hh.objs.size, dictOf [] 0) :: l).map (·.1))) := fun b o e => hideAll_get _ (a1.F.keep b o e) (nm0 b o e)
 let Ψ' : Frm K N' W := ⟨hideAll s1.heap (((hh.objs.size + 1, instObj C hh.objs.size) :: (hh.objs.size, dictOf [] 0) :: l).map (·.1)), s1.heap.objs.size, Ψ.X.keeps (fun b o e => st b o e), Ψ.T.keeps (fun b o e => st b o e), (Ψ.A.under (.builtin "type.__call__" ⟨.ref C :: args, []⟩)).deeper (callEnv fd s1.heap.objs.size fI), callEnv fd s1.heap.objs.size fI, ⟨rfl, ok.kind, ok.glob, ok.bi⟩, sc⟩
 refine codeAny_call_def (fd := fd) (binds := binds (hh.objs.size + 1)) hr (X1 _ _ ho) rfl (Ψ.T.nolimit.keeps a1.F.keep) (codeRec_of X1 ok.code) ok.body (hb _ s1 X1)
  (fun y hy => by simpa using List.all_eq_true.mp ok.nocell y hy)
  (fun y hy => (sc.loc y.1 (by rw [← hn (hh.objs.size + 1)]; exact List.mem_append_left _ (List.mem_map_of_mem hy))).1) (fun h₁ hns hk₁ => ?_) ok.co ok.gen ok.kind
 rw [Qgl (hn _) sc.nd, h0] at hns
 have a' : At Ψ' (v0 (hh.objs.size + 1)) ((hh.objs.size + 1, instObj C hh.objs.size) :: (hh.objs.size, dictOf [] 0) :: l) { s1 with heap := h₁, toks := s1.toks + (binds (hh.objs.size + 1)).length } :=
  ⟨⟨hns, fun b o e => hk₁ b o (of_hideAll _ e), Nat.le_of_eq (hideAll_size _ _)⟩,
   fun p hp => ⟨hk₁ _ _ (a1.N p hp).1, Nat.ne_of_lt (Heap.lt_size (a1.N p hp).1), hideAll_none _ (List.mem_map_of_mem hp)⟩, a1.U, a1.G⟩
 refine (h (hh.objs.size + 1) hh.objs.size Ψ' rfl rfl).use a' fun fl s' v' l' S a'' q => ?_
 obtain ⟨q1, q2⟩ := q
 have core : Same ⟨hh, g, d, t, os⟩ s' ∧ ∃ vals' l', At Ψ vals' l' s' ∧ ∃ l'', l''.Sublist l' ∧ Q (.ref (hh.objs.size + 1)) vals' l'' :=
  ⟨S01.trans ⟨S.1, S.2⟩, vals, l', At.back (Ψ' := Ψ') a1 rfl a'' (fun b o _ e => e) (Nat.le_refl _), q2⟩
 cases fl with
 | ret v => exact ⟨q1, core⟩
 | next => exact ⟨rfl, core⟩
 | brk => exact ⟨rfl, core⟩
 | cont => exact ⟨rfl, core⟩
end
end
section
theorem Qfj : isSubtype (.type "dict_values") (.type "set") = Pure.pure false := by rw [isSubtype_type]; kernel_rfl
theorem Qda : isSubtype (.type "dict_values") (.type "frozenset") = Pure.pure false := by rw [isSubtype_type]; kernel_rfl
theorem Qfk : isSubtype (.type "range") (.type "set") = Pure.pure false := by rw [isSubtype_type]; kernel_rfl
theorem Qdb : isSubtype (.type "range") (.type "frozenset") = Pure.pure false := by rw [isSubtype_type]; kernel_rfl
theorem Qdp : isSubtype (.type "set") (.type "frozenset") = Pure.pure false := by rw [isSubtype_type]; kernel_rfl
theorem Qgm : entryFor table "set.__ne__" = some Builtin.«frozenset.__ne__» :=
 entryFor_alias (id' := "frozenset.__ne__") (by kernel_rfl) rfl (by decide +kernel) (by kernel_rfl)
noncomputable abbrev valsView (d : Addr) : Obj := { cls := .type "dict_values", data := .fields #[.ref d] }
noncomputable abbrev itemsView (d : Addr) : Obj := { cls := .type "dict_items", data := .fields #[.ref d] }
section
variable {K : Params → Frag} {N : Nm} {W : Wd} {Ψ : Frm K N W} {vals : Vals} {l : Led}
variable {Kt : Type} [DecidableEq Kt] {knd : KeyKind W.prog W.w Kt} {d : Addr} {o : Obj} {kvs : List (Kt × Value)}
theorem Qks {M R : Led} {Q : VQ} (hm : (d, o) ∈ M ++ R) (ho : o.IsDictOf knd kvs) (q : ∀ x, Q (.ref x) vals (M ++ (x, valsView d) :: R)) : WA Ψ (call (.builtin "dict.values") [.ref d]) Q vals (M ++ R) :=
 Qad fun E s a => call_meetsIn PySem.F.slot_dict_values (dictAt a hm ho).typeIs PySem.F.entry_dict_values (PySem.F.args_dict_values_1 _) (meets_dict_values knd d (notSys a hm))
  ⟨⟨kvs, dictAt a hm ho⟩, ⟨rfl, rfl⟩, vals, _, a.push, _, shiftPerm, q _⟩
theorem Qhz {M R : Led} {Q : VQ} (hm : (d, o) ∈ M ++ R) (ho : o.IsDictOf knd kvs) (q : ∀ x, Q (.ref x) vals (M ++ (x, itemsView d) :: R)) : WA Ψ (call (.builtin "dict.items") [.ref d]) Q vals (M ++ R) :=
 Qad fun E s a => call_meetsIn PySem.F.slot_dict_items (dictAt a hm ho).typeIs PySem.F.entry_dict_items (PySem.F.args_dict_items_1 _) (meets_dict_items knd d (notSys a hm))
  ⟨⟨kvs, dictAt a hm ho⟩, ⟨rfl, rfl⟩, vals, _, a.push, _, shiftPerm, q _⟩
theorem Qgu {v : Addr} {M R : Led} {Q : VQ} (hh : Ψ.A.handled = none) (hv : (v, valsView d) ∈ M ++ R) (hm : (d, o) ∈ M ++ R) (ho : o.IsDictOf knd ([] : List (Kt × Value)))
  (q : ∀ x o', SetI o' (.fresh 0 0 (!(byT W.w))) [] → Q (.ref x) vals (M ++ (x, o') :: R)) : WA Ψ (call (.type "set") [.ref v]) Q vals (M ++ R) := by
 refine Qad fun E s a' => ?_
 refine Qdv fun A' hA' => ?_
 have hv0 := (a'.N _ hv).1
 obtain ⟨ep, hda⟩ := (dictAt (knd := knd) a' hm ho).dictAt
 have hvl : v < s.heap.objs.size := Heap.lt_size hv0
 have hdl : d < s.heap.objs.size := hda.lt_size
 have hT : Shared.TypeIs { s with heap := s.heap.push (freshSet W.w) } (.ref v) "dict_values" := ⟨_, Heap.get?_push_of_some _ hv0, rfl⟩
 refine Qb8 (n := 0) (xs := []) (hA'.trans hh) hT Qfj Qda (by decide) (Heap.get?_push_size _ rfl) rfl (by simp) rfl (fun A2 hA2 E' Q' k => ?_) fun h' tk o' ho' hI' hk' => ?_
 ·refine wpAny_pyIter_values (knd := knd) (d := d) (kvs := []) (ep := ep) ⟨_, Heap.get?_push_of_some _ hv0, rfl, rfl⟩ (hda.push _) ?_
  have hne : d ≠ (s.heap.push (freshSet W.w)).objs.size := by rw [Heap.size_push]; exact Nat.ne_of_lt (Nat.lt_succ_of_lt hdl)
  refine k _ _ _ _ _ _ rfl (fun b hb => ?_) (fun b hb => by simpa using hb) (Walks.dictValues (knd := knd) (A := A2.in1) hA2 _ d hne [] ep) ⟨⟨_, Heap.get?_push_size _ rfl, rfl, rfl⟩, (hda.push _).push _⟩ fun i v hv => ?_
  ·simp only [List.mem_cons, List.not_mem_nil, or_false] at hb
   rcases hb with h | h
   ·exact .inl h
   ·exact .inr (by rw [h]; exact hdl)
  ·obtain ⟨k', hk'⟩ := hv; simp at hk'
 ·exact ⟨⟨rfl, rfl⟩, vals, _, a'.made ho' fun b ob hb e => hk' b ob hb (Heap.get?_push_of_some _ e), _, shiftPerm, q _ o' hI'⟩
theorem Qft {v : Addr} {t1 t2 t3 : Tok} {M R : Led} {Q : VQ} (hh : Ψ.A.handled = none) (hv : (v, rangeObj 0 0 1 t1 t2 t3) ∈ M ++ R)
  (q : ∀ x o', SetI o' (.fresh 0 0 (!(byT W.w))) [] → Q (.ref x) vals (M ++ (x, o') :: R)) : WA Ψ (call (.type "set") [.ref v]) Q vals (M ++ R) := by
 refine Qad fun E s a' => ?_
 refine Qdv fun A' hA' => ?_
 have hv0 := (a'.N _ hv).1
 have hT : Shared.TypeIs { s with heap := s.heap.push (freshSet W.w) } (.ref v) "range" := ⟨_, Heap.get?_push_of_some _ hv0, rfl⟩
 refine Qb8 (n := 0) (xs := []) (hA'.trans hh) hT Qfk Qdb (by decide) (Heap.get?_push_size _ rfl) rfl (by simp) rfl (fun A2 hA2 E' Q' k => ?_) fun h' tk o' ho' hI' hk' => ?_
 ·refine wpAny_pyIter_range (a := 0) (b := 0) (c := 1) (Heap.get?_push_of_some _ hv0) (by decide) ?_
  refine k _ _ _ _ _ _ rfl (fun b hb => ?_) (fun b hb => by simpa using hb) (Walks.range (A := A2.in1) hA2 _ 0 1 0).bound (Heap.get?_push_size _ rfl) fun i v hv => ?_
  ·simp only [List.mem_cons, List.not_mem_nil, or_false] at hb
   exact .inl hb
  ·exact absurd hv.1 (Nat.not_lt_zero _)
 ·exact ⟨⟨rfl, rfl⟩, vals, _, a'.made ho' fun b ob hb e => hk' b ob hb (Heap.get?_push_of_some _ e), _, shiftPerm, q _ o' hI'⟩
theorem Qmo {a b : Addr} {oa ob : Obj} {ta tb : SetTable} {Q : VQ} (hu : Ψ.A.units < cLine) (ha : (a, oa) ∈ l) (hb : (b, ob) ∈ l) (Ia : SetI oa ta []) (Ib : SetI ob tb []) (q : Q (.bool false) vals l) :
  WA Ψ (compareOp .NotEq (.ref a) (.ref b)) Q vals l := fun E s a' => by
 have hoa := (a'.N _ ha).1
 have hob := (a'.N _ hb).1
 have hTa := setTypeIs Ia hoa
 have hTb := setTypeIs Ib hob
 kcj_m
 obtain ⟨ea, epa, hexa, hda, _, hIa, hfa⟩ := Ia
 obtain ⟨eb, epb, hexb, hdb, _, hIb, hfb⟩ := Ib
 kd_p1
 have hna : ea = #[] := by have := Qai hIa; exact Array.eq_empty_of_size_eq_zero (by simpa using this)
 have hnb : eb = #[] := by have := Qai hIb; exact Array.eq_empty_of_size_eq_zero (by simpa using this)
 subst hna hnb
 show wpAny _ Ψ.A (richCompare .NotEq _ _) _ E s
 refine wpAny_richCompare_same_room hTa hTb PySem.F.slot_set_ne ?_ hu
 refine wpAny_call_entry PySem.F.slot_set_ne hTa Qgm ?_ (PySem.F.args_set_ne_2 _ _)
 unfold Builtin.«frozenset.__ne__»
 wp_delta
 refine wpAny_bind (wpAny_of_eq (a := (Value.ref a, Value.ref b)) (by rfl) ?_)
 try dsimp only
 refine wpAny_bind ?_
 unfold Builtin.Frozenset.isAnySet
 refine wpAny_bind (wpAny_isInstance hTb sub_set_set ?_)
 try dsimp only
 refine wpAny_pure ?_
 refine Qa1 (by simp) ?_
 unfold Builtin.Frozenset.addrOf Builtin.Frozenset.sizeOf
 refine wpAny_bind (wpAny_pure ?_)
 refine wpAny_bind (wpAny_pure ?_)
 refine wpAny_bind (wpAny_bind (wpAny_setEntries_of hoa hda hfa (wpAny_pure ?_)))
 refine wpAny_bind (wpAny_bind (wpAny_setEntries_of hob hdb hfb (wpAny_pure ?_)))
 try dsimp only
 refine wpAny_bind ?_
 have h0 : ((#[] : Array (Int × Value)).size != (#[] : Array (Int × Value)).size) = false := rfl
 rw [h0]
 refine Qa1 (by simp) ?_
 refine wpAny_bind ?_
 refine wpAny_bind (wpAny_isInstance hTa Qdp ?_)
 try dsimp only
 refine wpAny_pure ?_
 refine Qa1 (by simp) ?_
 unfold Builtin.Frozenset.subsetOf
 unfold Builtin.Frozenset.sizeOf
 refine wpAny_bind (wpAny_bind (wpAny_setEntries_of hoa hda hfa (wpAny_pure ?_)))
 refine wpAny_bind (wpAny_bind (wpAny_setEntries_of hob hdb hfb (wpAny_pure ?_)))
 try dsimp only
 refine wpAny_ite_split (fun h => absurd h (Nat.lt_irrefl _)) (fun _ => ?_)
 refine wpAny_bind (wpAny_setEpoch_of hoa hda hfa ?_)
 unfold Builtin.Frozenset.walkUnseen
 refine wpAny_bind ?_
 refine wpAny_bind (wpAny_setEntries_of hoa hda hfa ?_)
 refine wpAny_bind (wpAny_setEntries_of hob hdb hfb ?_)
 simp only [List.append_nil, List.forIn_nil]
 refine wpAny_bind (wpAny_pure ?_)
 try dsimp only
 refine wpAny_pure ?_
 simp only [List.forIn_nil]
 refine wpAny_bind (wpAny_pure ?_)
 try dsimp only
 refine wpAny_pure ?_
 exact wpAny_pure ⟨_, rfl, nofun, Same.refl s, vals, l, a', q⟩
end
end
section
section
variable {K : Params → Frag} {N : Nm} {W : Wd} {Ψ : Frm K N W} {vals : Vals} {l : Led}
variable {a b : Int} {t u : Tok} {Q : VQ}
theorem WA.fdiv (hb : b ≠ 0) (hs : b.natAbs < 1073741824) (q : ∀ t, Q (.int (Int.fdiv a b) t) vals l) : WA Ψ (binaryOp .FloorDiv (.int a t) (.int b u)) Q vals l := WA.same q fun _ _ _ _ h => floordiv_int hb (h _ _) (.inl (PyProof.noPylong_small hs))
theorem Quq (hn : 0 ≤ b) (hn2 : b ≤ 1000000) (ha : a.natAbs < 2 ^ 64) (q : ∀ t, Q (.int (a ^ b.toNat) t) vals l) : WA Ψ (binaryOp .Pow (.int a t) (.int b u)) Q vals l := WA.same q fun _ _ _ _ h => pow_int_small hn hn2 ha (h _ _)
theorem Qa8 (hn : 0 ≤ b) (hn2 : b ≤ 1000) (q : ∀ t, Q (.int (2 ^ b.toNat) t) vals l) : WA Ψ (binaryOp .Pow (.int 2 t) (.int b u)) Q vals l := Quq hn (by exact Q4i hn2) (by decide) q
theorem Qbf {it : Addr} {x left step : Int} {M R : Led} {Q : OQ} (hh : Ψ.A.handled = none) (h0 : left ≤ 0) (q : Q none vals (M ++ R)) : WA Ψ (pyNext (.ref it)) Q vals (M ++ (it, rangeItObj x left step) :: R) := by
 refine Qos fun hU => Qiu hh (mr (.head _)) h0 ?_
 rw [List.map_append, List.map_cons, List.nodup_append, List.nodup_cons] at hU
 have ne : ∀ y ∈ M ++ R, y.1 ≠ it := by
  intro y hy e
  rcases List.mem_append.mp hy with h | h
  ·exact hU.2.2 y.1 (List.mem_map_of_mem h) it (.head _) e
  ·exact hU.2.1.1 (List.mem_map.mpr ⟨y, h, e⟩)
 have e : (M ++ (it, rangeItObj x left step) :: R).filter (fun y => y.1 != it) = M ++ R := by
  rw [List.filter_append, List.filter_cons_of_neg (by simp), List.filter_eq_self.mpr (fun y hy => by simpa using ne y (List.mem_append_left _ hy)), List.filter_eq_self.mpr (fun y hy => by simpa using ne y (mr hy))]
 rw [e]; exact q
end
theorem Qg5 {C : Addr} {args : List Value} : (Code.builtin "type.__call__" ⟨.ref C :: args, []⟩).weight = 1 := by rfl
theorem Qno {C : Addr} {args : List Value} : (Code.builtin "type.__call__" ⟨.ref C :: args, []⟩).cUnits = 1 := by rfl
theorem roomMk {A : Around} {n : Nat} {C : Addr} {args : List Value} {env : Env} (r : Room A (n + 2)) : Room ((A.under (.builtin "type.__call__" ⟨.ref C :: args, []⟩)).deeper env) n ∧ (A.under (.builtin "type.__call__" ⟨.ref C :: args, []⟩)).depth < recursionLimit := by
 obtain ⟨a, b, c⟩ := r
 refine ⟨⟨a, ?_, ?_⟩, ?_⟩
 ·show A.depth + (Code.builtin "type.__call__" ⟨.ref C :: args, []⟩).weight + 1 + n < recursionLimit
  rw [Qg5]; exact Q4h b
 ·show A.units + (Code.builtin "type.__call__" ⟨.ref C :: args, []⟩).cUnits + 3 + 8 * n < cLine
  rw [Qno]; exact Q4g c
 ·show A.depth + (Code.builtin "type.__call__" ⟨.ref C :: args, []⟩).weight < recursionLimit
  rw [Qg5]; exact Q4f b
end
section
noncomputable abbrev itemIt (d : Addr) (ep : Nat) : Obj := { cls := .type "dict_itemiterator", dict := none, data := .fields #[.none, .bool false, .ref d, .int 0 0, .int 0 0, .int ep 0, .none, .none], slots := #[] }
section
variable {K : Params → Frag} {N : Nm} {W : Wd} {Ψ : Frm K N W} {vals : Vals} {l : Led}
variable {Kt : Type} [DecidableEq Kt] {knd : KeyKind W.prog W.w Kt} {d : Addr} {o : Obj} {kvs : List (Kt × Value)}
noncomputable def DictEp (knd : KeyKind W.prog W.w Kt) (o : Obj) (kvs : List (Kt × Value)) (ep : Nat) : Prop := ∃ es, o.ExactDict ∧ o.data = .dict es ep ∧ KeysOf knd es ∧ Pairs knd es.toList kvs ∧ (kvs.map (·.1)).Nodup
theorem DictEp.at {s : Shared} {ep : Nat} (a : At Ψ vals l s) (hm : (d, o) ∈ l) (h : DictEp knd o kvs ep) : s.heap.DictAt knd d kvs ep := let ⟨es, h1, h2, h3, h4, h5⟩ := h; ⟨o, es, (a.N _ hm).1, h1, h2, h3, h4, h5⟩
theorem Qhs {v : Addr} {M R : Led} {Q : VQ} (hv : (v, itemsView d) ∈ M ++ R) (hm : (d, o) ∈ M ++ R) (ho : o.IsDictOf knd ([] : List (Kt × Value)))
  (q : ∀ it ep, DictEp knd o ([] : List (Kt × Value)) ep → Q (.ref it) vals (M ++ (it, itemIt d ep) :: R)) : WA Ψ (pyIter (.ref v)) Q vals (M ++ R) := by
 obtain ⟨es, ep, h⟩ := ho
 have he : DictEp knd o ([] : List (Kt × Value)) ep := ⟨es, h⟩
 exact Qad fun E s a => wpAny_pyIter_items (kvs := ([] : List (Kt × Value))) ⟨_, (a.N _ hv).1, rfl, rfl⟩ (he.at a hm) ⟨⟨rfl, rfl⟩, vals, _, a.push, _, shiftPerm, q _ ep he⟩
theorem Qi0 {it : Addr} {ep : Nat} {pre post : Led} {Q : OQ} (hh : Ψ.A.handled = none) (hl : l = pre ++ (it, itemIt d ep) :: post) (hm : (d, o) ∈ pre ++ post) (he : DictEp knd o ([] : List (Kt × Value)) ep)
  (q : Q none vals (pre ++ post)) : WA Ψ (pyNext (.ref it)) Q vals l := fun E s a => by
 subst hl
 have hmem : (it, itemIt d ep) ∈ pre ++ (it, itemIt d ep) :: post := mr (.head _)
 have hit := a.N _ hmem
 have hU := a.U
 rw [List.map_append, List.map_cons, List.nodup_append, List.nodup_cons] at hU
 have ne : ∀ y ∈ pre ++ post, y.1 ≠ it := by
  intro y hy e
  rcases List.mem_append.mp hy with h | h
  ·exact hU.2.2 y.1 (List.mem_map_of_mem h) it (.head _) e
  ·exact hU.2.1.1 (List.mem_map.mpr ⟨y, h, e⟩)
 have sub : (pre ++ post).Sublist (pre ++ (it, itemIt d ep) :: post) := sA (sD)
 refine wpAny_pyNext_items_end (kvs := ([] : List (Kt × Value))) hh hit.1 (he.at a (sub.subset hm)) rfl fun h' hx => ⟨⟨rfl, rfl⟩, vals, _, ⟨⟨?_, fun b o e => ?_, a.F.above⟩, fun y hy => ?_, List.Nodup.sublist (sub.map _) a.U, fun y hy => a.G y (sub.subset hy)⟩, q⟩
 ·exact a.F.ns.extBut hx (Ne.symm hit.2.1)
 ·refine hx b o (fun e' => ?_) (a.F.keep b o e)
  rw [e'] at e
  exact absurd (e.symm.trans hit.2.2) (by simp)
 ·have n := a.N y (sub.subset hy)
  exact ⟨hx _ _ (ne y hy) n.1, n.2⟩
theorem Qbq {N : Nm} {W : Wd} {Ψ : Frm hK N W} {vals : Vals} {sa dd : Addr} {x : Str} {v : Value} {ae : List DictEntry} {n : Nat} {av : List Value} {R : Led} {Q : UQ} (at' : AttrsAre ae an av) (hi : an[av.length]? = some x) (hz : av.length ≤ 20)
  (q : ∀ ae' n', AttrsAre ae' an (av ++ [v]) → Q () vals ((sa, instObj clsA dd) :: (dd, dictOf ae' n') :: R)) : WA Ψ (setAttr (.ref sa) x v) Q vals ((sa, instObj clsA dd) :: (dd, dictOf ae n) :: R) :=
 Qml (pre := [(sa, instObj clsA dd)]) (post := R) rfl ⟨.head _, .tail _ (.head _)⟩ at' (Qi9 _) (Qjh _) (Qmf _ _ (List.mem_of_getElem? hi)) (Qc4 _) (by exact Q4e hz) (fun h t => Qje Qoi at' hi) (by rw [List.length_append, List.length_singleton]; exact Q4d hz) fun es' n' h => q es' n' h
theorem Qng {N : Nm} {W : Wd} {Ψ : Frm hK N W} {vals : Vals} {sa dd : Addr} {name : Str} {f : Addr} {pl : Sem Bool} {args : List Expr} {ae : List DictEntry} {n : Nat} {av : List Value} {R : Led} {Q : VQ} (at' : AttrsAre ae an av) (m : MethIs (hK W.w.params) name f)
  (h : argsOf Ψ args (fun vs vals l => WA Ψ (call (.ref f) (.ref sa :: vs) []) Q vals l) vals ((sa, instObj clsA dd) :: (dd, dictOf ae n) :: R)) : WA Ψ (getMethod (.ref sa) name pl) (methK Ψ args Q) vals ((sa, instObj clsA dd) :: (dd, dictOf ae n) :: R) :=
 Qmv ⟨.head _, .tail _ (.head _)⟩ at' m.no (Qb1 _ _) m.fd m.fn ⟨m.keep, h⟩
end
end
section
section
variable {K : Params → Frag} {N : Nm} {W : Wd} {Ψ : Frm K N W} {vals : Vals} {l : Led}
theorem Qmj {a : Addr} {vs : List Value} {n : Nat} {Q : BQ} (hm : (a, listOf vs.toArray n) ∈ l) (hz : vs.length < 2 ^ 60) (q : Q (!vs.isEmpty) vals l) : WA Ψ (truthy (.ref a)) Q vals l := fun E s a' =>
 wpAny_truthy_list (lAt a' hm) (by rw [List.size_toArray]; exact Qxk hz) ⟨⟨rfl, rfl⟩, vals, l, ⟨a'.F, a'.N, a'.U, a'.G⟩, by simpa using q⟩
theorem Qes {a : Addr} {vs : List Value} {n : Nat} {name : Str} {id : String} {pl : Sem Bool} {Q : MQ} (hm : (a, listOf vs.toArray n) ∈ l) (slot : Slot "list" name id) (hty : typeOf (.builtin id) = Pure.pure (Value.type "method_descriptor")) (q : Q (.builtin id, [.ref a]) vals l) :
  WA Ψ (getMethod (.ref a) name pl) Q vals l := fun E s a' =>
 getMethod_builtin (T := "list") ⟨_, (a'.N _ hm).1, rfl⟩ PySem.F.plainAttrs_list slot hty (fun b e => by injection e with e; subst e; exact ⟨_, (a'.N _ hm).1, rfl⟩) ⟨Same.refl s, vals, l, a', q⟩
theorem Qbn {a : Addr} {vs : List Value} {n : Nat} {x : Value} {pre post : Led} {Q : VQ} (hl : l = pre ++ (a, listOf vs.toArray n) :: post) (hz : vs.length ≤ 1000000) (q : Q .none vals (pre ++ (a, listOf (vs ++ [x]).toArray (n + 1)) :: post)) :
  WA Ψ (call (.builtin "list.append") [.ref a, x]) Q vals l := fun E s a' => by
 subst hl
 refine append_at (hsz := by rw [List.size_toArray, Qae]; exact Qme hz) (a'.N _ (mr (.head _))).1 fun h' hs ho' => ⟨⟨rfl, rfl⟩, vals, _, a'.upd hs (ho'.trans ?_), q⟩
 simp [PySem.W.listOf]
theorem Qmq {a : Addr} {vs : List Value} {n k : Nat} {i : Int} {u : Tok} {y : Value} {pre post : Led} {Q : VQ} (hl : l = pre ++ (a, listOf vs.toArray n) :: post) (hi : i = (k : Int)) (hk : k < 1000000) (hy : vs[k]? = some y) (hz : vs.length ≤ 1000000)
  (q : ∀ n', Q y vals (pre ++ (a, listOf (vs.eraseIdx k).toArray n') :: post)) : WA Ψ (call (.builtin "list.pop") [.ref a, .int i u]) Q vals l := fun E s a' => by
 subst hl
 have ho := (a'.N _ (mr (.head _))).1
 have hkl : k < vs.length := (List.getElem?_eq_some_iff.mp hy).1
 obtain ⟨n', hn'⟩ := Qie (·.eraseIdxIfInBounds k) vs.toArray n
 have he : vs.toArray.eraseIdxIfInBounds k = (vs.eraseIdx k).toArray := by
  simp [Array.eraseIdxIfInBounds, hkl]
 have hfin : (s.heap.update a (Obj.mapSeq (·.eraseIdxIfInBounds k))).get? a = some (listOf (vs.eraseIdx k).toArray n') := by
  have := Heap.get?_update_self (Obj.mapSeq (·.eraseIdxIfInBounds k)) ho (by rw [show (Obj.mapSeq (·.eraseIdxIfInBounds k) (listOf vs.toArray n)) = seqObj "list" _ n' from hn']; rfl)
  rw [this]
  show some (Obj.mapSeq (·.eraseIdxIfInBounds k) (seqObj "list" vs.toArray n)) = _
  rw [hn', he]
 refine call_meets PySem.F.slot_list_pop ⟨_, ho, rfl⟩ PySem.F.entry_list_pop (PySem.F.args_list_pop_2 _ _) (PySem.MeetsSeq.list_pop_at a vs.toArray n i u k y ?_ ?_ (by simpa using hy) (by rw [List.size_toArray, Qae]; exact Qme hz))
  ⟨ho, ⟨rfl, rfl⟩, vals, _, a'.upd (Heap.SameBut.update ..) hfin, q n'⟩
 ·subst hi
  unfold Builtin.List.listFitsIndex
  simp only [Bool.and_eq_true, decide_eq_true_eq]
  first | exact Q4c hz hkl | (constructor <;> omega)
 ·subst hi
  rw [List.size_toArray]
  unfold seqIndex?
  simp only [show ¬ ((k : Int) < 0) by exact Q4b, if_false, Int.toNat_natCast]
  first | rfl | (rw [if_pos (by kd_p)]) | simp [hkl]
theorem hList {s : Shared} {a : Addr} {items : Array Value} (h : At Ψ vals l s) (hS : Ψ.h.IsList a items) : s.heap.IsList a items := let ⟨o, ho, r⟩ := hS; ⟨o, h.F.keep _ _ ho, r⟩
theorem Qmu {a : Addr} {vs : List Value} {Q : VQ} (hS : Ψ.h.IsList a vs.toArray) (hz : vs.length < 2 ^ 60) (q : ∀ t, Q (.int vs.length t) vals l) : WA Ψ (call (.builtin "len") [.ref a]) Q vals l :=
 WA.same q fun E P s a' h => call_len_list (hList a' hS) (by rw [List.size_toArray]; exact Qxk hz) (by rw [List.size_toArray]; exact h _ _)
theorem Qq6 {a : Addr} {vs : List Value} {ns : List Int} {Q : VQ} (hh : Ψ.A.handled = none) (hS : Ψ.h.IsList a vs.toArray) (hi : IntsAre vs ns) (q : ∀ v t, Q (.int v t) vals l) : WA Ψ (call (.builtin "sum") [.ref a]) Q vals l := fun E s a' => by
 have hl := hList a' hS
 have hal : a < s.heap.objs.size := by obtain ⟨o, ho, _⟩ := hl; exact Heap.lt_size ho
 refine call_sum_walkG (wpAny_pyIter_list hl ⟨s.heap.objs.size, _, _, _, _, _, fun i => ns.getD i 0, rfl, Walks.list (A := Ψ.A.in1) hh _ a (Nat.ne_of_lt hal) vs.toArray, ⟨⟨_, Heap.get?_push_size _ rfl, rfl, rfl⟩, hl.push _⟩, fun b hb => ?_, fun i v hv => ?_, fun h' tk t' hk => ?_⟩)
 ·show b < (s.heap.push _).objs.size
  rw [Heap.size_push]
  simp only [List.mem_cons, List.not_mem_nil, or_false] at hb
  rcases hb with rfl | rfl
  ·exact Nat.lt_succ_self _
  ·exact Nat.lt_succ_of_lt hal
 ·have hv' : vs[i]? = some v := by simpa using hv
  have hi' : i < ns.length := by rw [← Qai hi]; exact (List.getElem?_eq_some_iff.mp hv').1
  obtain ⟨t, ht⟩ := Qap hi (List.getElem?_eq_getElem hi')
  rw [hv'] at ht
  cases ht
  exact ⟨t, by show Value.int ns[i] t = Value.int (ns.getD i 0) t; rw [List.getD_eq_getElem?_getD, List.getElem?_eq_getElem hi']; rfl⟩
 ·exact ⟨⟨rfl, rfl⟩, vals, l, a'.grown fun d o e => hk d o (by simp only [List.mem_singleton]; exact Nat.ne_of_lt (Heap.lt_size e)) (Heap.get?_push_of_some _ e), q _ _⟩
noncomputable abbrev sliceObj (u : Value) : Obj := { cls := .type "slice", data := .fields #[.none, u, .none] }
theorem Qmt {a x : Addr} {vs : List Value} {k : Int} {t : Tok} {value slice : Expr} {Q : VQ} (hS : Ψ.h.IsList a vs.toArray) (hz : vs.length ≤ 1000000) (hx : (x, sliceObj (.int k t)) ∈ l) (q : ∀ y, Q (.ref y) vals ((y, listOf (slicePick vs.toArray none (some k) none) 0) :: l))
  (hs : ∃ ops, subscripted slice false (.ref a) (.ref x) = PySem.operate ops (getItem (.ref a) (.ref x))) (ht : ∀ r, letTemporaryGo value (.ref a) r = Pure.pure ()) : WA Ψ (subscriptTail value slice (.ref a) (.ref x)) Q vals l := fun E s a' => by
 obtain ⟨ops, hs⟩ := hs
 exact subscriptTail_ops (hList a' hS).typeIs slot_list_getitem.lookup (wpAny_getItem_list_slice (hList a' hS) ⟨_, (a'.N _ hx).1, rfl, rfl⟩ .none (.int _ _) .none (by simp) ⟨⟨rfl, rfl⟩, vals, _, a'.push, q _⟩ (by rw [List.size_toArray, Qae]; exact Qme hz)) hs ht
theorem Qc7 {x : Str} {c : Addr} {oc : Obj} {v0 : Option Value} {v : Value} {pre post : Led} {Q : UQ} (hk : Ψ.env.kindOf x = some .cell) (hc : Ψ.env.cells.lookup x = some c) (hl : l = pre ++ (c, oc) :: post) (hd : oc.data = .cell v0)
  (q : ∀ o' : Obj, o'.data = .cell (some v) → Q () vals (pre ++ (c, o') :: post)) : WA Ψ (PySem.bindName Ψ.env x v) Q vals l :=
 WA.bind (WA.holding (Qd1 (WA.bind (fun E s a => by
  subst hl
  refine wpAny_storeName_cell Ψ.e.kind hk hc ⟨_, (a.N _ (mr (.head _))).1, hd⟩ fun h' hi hs => ?_
  obtain ⟨o', ho', hd'⟩ := hi
  exact ⟨⟨rfl, rfl⟩, vals, _, a.upd hs ho', Qd1 (q o' hd')⟩))))
theorem Qiy {a b : Addr} {vs us : List Value} {n m : Nat} {M R : Led} {Q : VQ} (ha : (a, listOf vs.toArray n) ∈ M ++ R) (hb : (b, listOf us.toArray m) ∈ M ++ R) (hz : vs.length + us.length ≤ 1000000) (q : ∀ x, Q (.ref x) vals (M ++ (x, listOf (vs ++ us).toArray 0) :: R)) :
  WA Ψ (binaryOp .Add (.ref a) (.ref b)) Q vals (M ++ R) := by
 refine Qad fun E s a' => ?_
 have hoa := (a'.N _ ha).1
 have hob := (a'.N _ hb).1
 refine concat_meets (T := "list") (id := "list.__add__") ⟨_, hoa, rfl⟩ ⟨_, hob, rfl⟩ PySem.noFill_list_add PySem.seq_list_add PySem.F.slot_list_add PySem.F.entry_list_add (PySem.F.args_list_add_2 _ _) (PySem.AutoSeq1.list___add___list_list_0 a vs.toArray n b us.toArray m (by rw [List.size_toArray, List.size_toArray, Qae]; exact Q4a hz))
  ⟨hoa, hob, ⟨rfl, rfl⟩, vals, _, a'.push, _, shiftPerm, ?_⟩
 have := q s.heap.objs.size
 simpa [PySem.W.listOf] using this
noncomputable def LiO (o : Obj) (a : Addr) (i : Nat) : Prop := o.cls = .type "list_iterator" ∧ o.data = .fields #[.ref a, .int i 0]
theorem Qbk {a : Addr} {vs : List Value} {n : Nat} {M R : Led} {Q : VQ} (hm : (a, listOf vs.toArray n) ∈ M ++ R) (q : ∀ it o, LiO o a 0 → Q (.ref it) vals (M ++ (it, o) :: R)) : WA Ψ (pyIter (.ref a)) Q vals (M ++ R) :=
 Qad fun E s a' => wpAny_pyIter_list (lAt a' hm) ⟨⟨rfl, rfl⟩, vals, _, a'.push, _, shiftPerm, q _ _ ⟨rfl, rfl⟩⟩
theorem Qci {it a : Addr} {o : Obj} {i n : Nat} {vs : List Value} {x : Value} {pre post : Led} {Q : OQ} (hl : l = pre ++ (it, o) :: post) (hm : (a, listOf vs.toArray n) ∈ l) (hi : LiO o a i) (hx : vs[i]? = some x)
  (q : ∀ o', LiO o' a (i + 1) → Q (some x) vals (pre ++ (it, o') :: post)) : WA Ψ (pyNext (.ref it)) Q vals l := fun E s a' => by
 subst hl
 refine wpAny_pyNext_list_item ⟨_, (a'.N _ (mr (.head _))).1, hi.1, hi.2⟩ (lAt a' hm) (by simpa using hx) fun h' hit hs => ?_
 kcj_m
 obtain ⟨o', ho', hc, hd⟩ := hit
 kd_p1
 exact ⟨⟨rfl, rfl⟩, vals, _, a'.upd hs ho', q o' ⟨hc, hd⟩⟩
theorem Qdi {it a : Addr} {o : Obj} {i n : Nat} {vs : List Value} {pre post : Led} {Q : OQ} (hh : Ψ.A.handled = none) (hl : l = pre ++ (it, o) :: post) (hm : (a, listOf vs.toArray n) ∈ l) (hi : LiO o a i) (hx : vs[i]? = none)
  (q : Q none vals (pre ++ post)) : WA Ψ (pyNext (.ref it)) Q vals l := fun E s a' => by
 subst hl
 have hmem : (it, o) ∈ pre ++ (it, o) :: post := mr (.head _)
 have hit := a'.N _ hmem
 have hU := a'.U
 rw [List.map_append, List.map_cons, List.nodup_append, List.nodup_cons] at hU
 have ne : ∀ y ∈ pre ++ post, y.1 ≠ it := by
  intro y hy e
  rcases List.mem_append.mp hy with h | h
  ·exact hU.2.2 y.1 (List.mem_map_of_mem h) it (.head _) e
  ·exact hU.2.1.1 (List.mem_map.mpr ⟨y, h, e⟩)
 have sub : (pre ++ post).Sublist (pre ++ (it, o) :: post) := sA (sD)
 refine wpAny_pyNext_list_end hh ⟨_, hit.1, hi.1, hi.2⟩ (lAt a' hm) (by simpa using hx) fun h' hx => ⟨⟨rfl, rfl⟩, vals, _, ⟨⟨?_, fun b o e => ?_, a'.F.above⟩, fun y hy => ?_, List.Nodup.sublist (sub.map _) a'.U, fun y hy => a'.G y (sub.subset hy)⟩, q⟩
 ·exact a'.F.ns.extBut hx (Ne.symm hit.2.1)
 ·refine hx b o (fun e' => ?_) (a'.F.keep b o e)
  rw [e'] at e
  exact absurd (e.symm.trans hit.2.2) (by simp)
 ·have n := a'.N y (sub.subset hy)
  exact ⟨hx _ _ (ne y hy) n.1, n.2⟩
end
end
section
section
variable {K : Params → Frag} {N : Nm} {W : Wd} {Ψ : Frm K N W} {vals : Vals} {l : Led}
theorem Qq5 {elts : List Expr} {k i : Nat} {tpos : Pos} {it a t : Addr} {o : Obj} {Q : UQ} (hm : (it, o) ∈ l) (hi : LiO o a i) (q : Q () vals l) : WA Ψ (letOwnedTupleGo (.Tuple elts k tpos) (.ref it) (.ref t)) Q vals l := fun E s a' =>
 wpAny_letOwnedTupleGo_listiter ⟨o, (a'.N _ hm).1, hi.1, hi.2⟩ ⟨Same.refl s, vals, l, a', q⟩
theorem Qus {c d : Bool} {Q : VQ} (q : Q (.bool (c != d)) vals l) : WA Ψ (compareOp .NotEq (.bool c) (.bool d)) Q vals l := fun _ s a => ne_bool ⟨Same.refl s, vals, l, a, q⟩
theorem Qq1 {c : Bool} {Q : VQ} (q : Q (.bool (!c)) vals l) : WA Ψ (unaryOp .Not (.bool c)) Q vals l := WA.bind (WA.mono (Zr (Q := fun b vals' l' => b = c ∧ Q (.bool (!c)) vals' l') ⟨rfl, q⟩) fun b _ _ h => WA.pure (by rw [h.1]; exact h.2))
theorem WC.perm {c : Code} {Q : FQ} (l' : Led) (h : l'.Perm l) (q : WC Ψ c Q vals l') : WC Ψ c Q vals l := fun R s a k => q R s (a.sub (fun _ hx => h.mem_iff.mp hx) ((h.map _).nodup_iff.mpr a.U)) k
theorem Qpk {elts : List Expr} {k n : Nat} {tpos : Pos} {t : Addr} {vs : List Value} {Q : UQ} (hh : Ψ.A.handled = none) (hm : (t, listOf vs.toArray n) ∈ l) (hn : (assignEach elts Ψ.env).length = vs.length) (hstar : (assignEach elts Ψ.env).findIdx? (·.1) = none)
  (h : WA Ψ (assignInOrder ((assignEach elts Ψ.env).map (·.2)) vs) Q vals l) : WA Ψ (assign (.Tuple elts k tpos) Ψ.env (.ref t)) Q vals l := fun E s a =>
 kun_list a.F a.N (lAt a hm) hh (by rw [List.size_toArray]; exact hn) hstar fun h' F' N' => h.use (s := { s with heap := h' }) ⟨F', N', a.U, a.G⟩ fun _ _ v' l' S a2 q => ⟨S, v', l', a2, q⟩
theorem WC.sublist {c : Code} {Q : FQ} (l' : Led) (h : l'.Sublist l) (q : WC Ψ c Q vals l') : WC Ψ c Q vals l := fun R s a k => q R s (a.sub (fun _ hx => h.subset hx) (List.Nodup.sublist (h.map _) a.U)) k
theorem Qhy {c d : Bool} {Q : VQ} (q : Q (.bool (c == d)) vals l) : WA Ψ (compareOp .Eq (.bool c) (.bool d)) Q vals l := fun _ s a => eq_bool ⟨Same.refl s, vals, l, a, q⟩
theorem Qbz {it : Addr} {x left step : Int} {Q : VQ} (hm : (it, rangeItObj x left step) ∈ l) (q : Q (.ref it) vals l) : WA Ψ (pyIter (.ref it)) Q vals l := fun E s a =>
 wpAny_pyIter_rangeiter (a.N _ hm).1 ⟨Same.refl s, vals, l, a, q⟩
theorem Qiw {elt iter c : Expr} {x : Str} {px pos : Pos} {scope : Scope} {cl : List (Str × Addr)} {Q : VQ} (hclos : closureFor scope Ψ.env = Pure.pure cl) (hkind : scope.kind = .function) (hcell : ∀ y ∈ scope.names, y.2 ≠ .cell)
  (hnames : ∀ y ∈ scope.names, y.2 = .local → scope.names.lookup y.1 = some .local) (sc : ScOk (relabel scope Ψ.env).names [x] [])
  (h : WA Ψ (eval iter Ψ.env) (fun xv vals l => WA Ψ (pyIter xv) (fun it vals l => WA Ψ (PySem.newList []) (fun acc vals l => ∀ Ψ' : Frm K ⟨[x], []⟩ W, Ψ'.env = compEnvC scope cl Ψ'.L Ψ.env → Ψ'.A = Ψ.A →
   (WC Ψ' (.compLoop (.ListComp elt [⟨.Name x px, iter, [c], 0⟩] scope pos) 0 it acc Ψ'.env) (fun _ _ l' => ∃ l'', l''.Sublist l' ∧ Q acc vals l'') [none] l ∧
   WA Ψ' (pyIter it) (fun it' vals' l' => it' = it ∧ vals' = [none] ∧ l' = l) [none] l)) vals l) vals l) vals l)
  (hs : ∀ x, foldedSetIterable iter Ψ.env x = Pure.pure x := by intro _; rfl) :
  WA Ψ (eval (.ListComp elt [⟨.Name x px, iter, [c], 0⟩] scope pos) Ψ.env) Q vals l := by
 show WA Ψ (comprehension (.ListComp elt [⟨.Name x px, iter, [c], 0⟩] scope pos) scope Ψ.env iter.pos (PySem.newList []) false (eval iter Ψ.env) none) Q vals l
 refine Qgy (N' := ⟨[x], []⟩) rfl hs hclos hkind hcell hnames sc ?_
 refine h.mono fun xv _ _ h1 => h1.mono fun it _ _ h2 => h2.mono fun acc _ _ h3 Ψ' e' a' => ?_
 obtain ⟨h4, h5⟩ := h3 Ψ' e' a'
 exact Qmh h4 (h5.mono fun it' _ _ ⟨a, b, c⟩ => by subst a b c; exact h4)
end
end
section
theorem Qcg {scope : Scope} {env : Env} {x y : Str} {c : Addr} (hn : scope.names = [((".0" : Str), NameKind.local), (y, NameKind.local), (x, NameKind.free)]) (h : env.cells.lookup x = some c) : closureFor scope env = Pure.pure [(x, c)] := by
 have hc : cellOf env x = Pure.pure c := by unfold cellOf; rw [h]
 unfold closureFor
 rw [hn]
 simp only [List.forIn_cons, List.forIn_nil, hc]
 rfl
theorem Qf3 {scope : Scope} {env : Env} {cl : List (Str × Addr)} {L : Addr} {x y : Str} (hn : scope.names = [((".0" : Str), NameKind.local), (y, NameKind.local), (x, NameKind.free)]) (hk : env.scope.kind = .function) (hx : env.kindOf x = some .cell) :
  (compEnvC scope cl L env).scope.names = [((".0" : Str), NameKind.local), (y, NameKind.local), (x, NameKind.cell)] := by
 unfold compEnvC relabel
 simp only [hn, List.map_cons, List.map_nil, hk, hx]
 rfl
section
variable {K : Params → Frag} {N : Nm} {W : Wd} {Ψ : Frm K N W} {vals : Vals} {l : Led}
end
end
section
noncomputable abbrev itemF (z : Value) (d : Addr) (i n ep : Nat) (ok ov : Value) : Obj := { cls := .type "dict_itemiterator", dict := none, data := .fields #[z, .bool false, .ref d, .int i 0, .int n 0, .int ep 0, ok, ov], slots := #[] }
noncomputable abbrev enumF (z : Value) (it : Addr) (i : Int) (old : Value) : Obj := { cls := .type "enumerate", dict := none, data := .fields #[z, .bool false, .ref it, rawInt i, .none, old], slots := #[] }
section
variable {K : Params → Frag} {N : Nm} {W : Wd} {Ψ : Frm K N W} {vals : Vals} {l : Led}
theorem Qi5 {s : Shared} {l' : Led} {h' : Heap} {tk : Nat} (ch : List Addr) (a : At Ψ vals l s) (hch : ∀ c ∈ ch, c ∈ l.map (·.1)) (hk : ∀ b o, b ∉ ch → s.heap.get? b = some o → h'.get? b = some o)
  (hl : ∀ x ∈ l', h'.get? x.1 = some x.2 ∧ (x.1 ∈ l.map (·.1) ∨ x.1 = s.heap.objs.size)) (hn : (l'.map (·.1)).Nodup) : At Ψ vals l' { s with heap := h', toks := tk } := by
 have hp := a.push (o := { cls := .type "list", data := .seq #[] }) (tk := tk)
 have nm : ∀ c ∈ ch, c ≠ Ψ.L ∧ Ψ.h.get? c = none := fun c hc => by
  obtain ⟨x, hx, rfl⟩ := List.mem_map.mp (hch c hc)
  exact (a.N x hx).2
 have nL : Ψ.L ∉ ch := fun h => (nm _ h).1 rfl
 refine ⟨⟨?_, fun b o e => hk b o (fun h => ?_) (a.F.keep b o e), a.F.above⟩, fun x hx => ?_, hn, fun x hx => ?_⟩
 ·kcj_m
  obtain ⟨oL, es, ep, h1, h2, h3, h4⟩ := a.F.ns
  kd_p1
  exact ⟨oL, es, ep, hk _ _ nL h1, h2, h3, h4⟩
 ·rw [(nm b h).2] at e; cases e
 ·obtain ⟨h1, h2⟩ := hl x hx
  refine ⟨h1, ?_⟩
  rcases h2 with h2 | h2
  ·obtain ⟨y, hy, e⟩ := List.mem_map.mp h2
   rw [← e]; exact (a.N y hy).2
  ·rw [h2]; exact (hp.N _ (.head _)).2
 ·rcases (hl x hx).2 with h2 | h2
  ·obtain ⟨y, hy, e⟩ := List.mem_map.mp h2
   rw [← e]; exact a.G y hy
  ·rw [h2]; exact hp.G (s.heap.objs.size, { cls := .type "list", data := .seq #[] }) (.head _)
theorem At.ne {s : Shared} {pre post : Led} {x : Addr} {o : Obj} (a : At Ψ vals (pre ++ (x, o) :: post) s) : ∀ y ∈ pre ++ post, y.1 ≠ x := by
 have hU := a.U
 rw [List.map_append, List.map_cons, List.nodup_append, List.nodup_cons] at hU
 intro y hy e
 rcases List.mem_append.mp hy with h | h
 ·exact hU.2.2 y.1 (List.mem_map_of_mem h) x (.head _) e
 ·exact hU.2.1.1 (List.mem_map.mpr ⟨y, h, e⟩)
theorem At.turnMake {s : Shared} {pre post : Led} {x : Addr} {o o1 o2 : Obj} {h' : Heap} {tk : Nat} (a : At Ψ vals (pre ++ (x, o) :: post) s) (h1 : h'.get? x = some o1) (h2 : h'.get? s.heap.objs.size = some o2) (hk : ∀ b o, b ≠ x → s.heap.get? b = some o → h'.get? b = some o) :
  At Ψ vals (pre ++ (x, o1) :: (s.heap.objs.size, o2) :: post) { s with heap := h', toks := tk } := by
 have hx : (x, o) ∈ pre ++ (x, o) :: post := mr (.head _)
 have ne := a.ne
 refine Qi5 [x] a (fun c hc => by rw [List.mem_singleton.mp hc]; exact List.mem_map_of_mem hx) (fun b o hb => hk b o (by simpa using hb)) (fun y hy => ?_) ?_
 ·rcases List.mem_append.mp hy with hy | hy
  ·exact ⟨hk _ _ (ne y (List.mem_append_left _ hy)) (a.N y (List.mem_append_left _ hy)).1, .inl (List.mem_map_of_mem (List.mem_append_left _ hy))⟩
  ·rcases List.mem_cons.mp hy with rfl | hy
   ·exact ⟨h1, .inl (List.mem_map.mpr ⟨(x, o), hx, rfl⟩)⟩
   ·rcases List.mem_cons.mp hy with rfl | hy
    ·exact ⟨h2, .inr rfl⟩
    ·exact ⟨hk _ _ (ne y (mr hy)) (a.N y (mr (.tail _ hy))).1, .inl (List.mem_map_of_mem (mr (.tail _ hy)))⟩
 ·have hU := a.U
  have hp : ((pre ++ (x, o1) :: (s.heap.objs.size, o2) :: post).map (·.1)).Perm (s.heap.objs.size :: (pre ++ (x, o) :: post).map (·.1)) := by
   rw [List.map_append, List.map_cons, List.map_cons, List.map_append, List.map_cons]
   exact (List.Perm.append_left _ (List.Perm.swap _ _ _)).trans List.perm_middle
  rw [hp.nodup_iff, List.nodup_cons]
  refine ⟨fun h => ?_, hU⟩
  obtain ⟨y, hy, e⟩ := List.mem_map.mp h
  exact absurd (Heap.lt_size (a.N y hy).1) (by rw [e]; exact Nat.lt_irrefl _)
theorem At.dropOne {s : Shared} {pre post : Led} {x : Addr} {o : Obj} {h' : Heap} {tk : Nat} (a : At Ψ vals (pre ++ (x, o) :: post) s) (hk : ∀ b o, b ≠ x → s.heap.get? b = some o → h'.get? b = some o) : At Ψ vals (pre ++ post) { s with heap := h', toks := tk } := by
 have hx : (x, o) ∈ pre ++ (x, o) :: post := mr (.head _)
 have sub : (pre ++ post).Sublist (pre ++ (x, o) :: post) := sA (sD)
 refine Qi5 [x] a (fun c hc => by rw [List.mem_singleton.mp hc]; exact List.mem_map_of_mem hx) (fun b o hb => hk b o (by simpa using hb)) (fun y hy => ⟨hk _ _ (a.ne y hy) (a.N y (sub.subset hy)).1, .inl (List.mem_map_of_mem (sub.subset hy))⟩) (List.Nodup.sublist (sub.map _) a.U)
section
variable {Kt : Type} [DecidableEq Kt] {knd : KeyKind W.prog W.w Kt} {d it : Addr} {o : Obj} {kvs : List (Kt × Value)}
theorem Qgw {v : Addr} {M R : Led} {Q : VQ} (hv : (v, itemsView d) ∈ M ++ R) (hm : (d, o) ∈ M ++ R) (ho : o.IsDictOf knd kvs)
  (q : ∀ it ep, DictEp knd o kvs ep → Q (.ref it) vals (M ++ (it, itemF .none d 0 kvs.length ep .none .none) :: R)) : WA Ψ (pyIter (.ref v)) Q vals (M ++ R) := by
 obtain ⟨es, ep, h⟩ := ho
 have he : DictEp knd o kvs ep := ⟨es, h⟩
 exact Qad fun E s a => wpAny_pyIter_items (kvs := kvs) ⟨_, (a.N _ hv).1, rfl, rfl⟩ (he.at a hm) ⟨⟨rfl, rfl⟩, vals, _, a.push, _, shiftPerm, q _ ep he⟩
theorem Qhr {i ep : Nat} {ok ov v : Value} {k : Kt} {pre post : Led} {Q : OQ} (hl : l = pre ++ (it, itemF .none d i kvs.length ep ok ov) :: post) (hm : (d, o) ∈ l) (he : DictEp knd o kvs ep) (hx : kvs[i]? = some (k, v))
  (q : ∀ a key, knd.is k key = true → Q (some (.ref a)) vals (pre ++ (it, itemF (rawInt a) d (i + 1) kvs.length ep key v) :: (a, tupObj [key, v]) :: post)) : WA Ψ (pyNext (.ref it)) Q vals l := fun E s a => by
 subst hl
 exact wpAny_pyNext_items_item (a.N _ (mr (.head _))).1 (he.at a hm) hx fun key h' hkey ho' ht _ hk => ⟨⟨rfl, rfl⟩, vals, _, a.turnMake ho' ht hk, q _ key hkey⟩
theorem Qiz {elts : List Expr} {x1 : Nat} {pos : Pos} {i n ep : Nat} {ok ov : Value} {a : Addr} {pre post : Led} {Q : UQ} (hl : l = pre ++ (it, itemF (rawInt a) d i n ep ok ov) :: post)
  (q : Q () vals (pre ++ (it, itemF .none d i n ep ok ov) :: post)) : WA Ψ (letOwnedTupleGo (.Tuple elts x1 pos) (.ref it) (.ref a)) Q vals l := fun E s a' => by
 subst hl
 exact wpAny_letOwnedTupleGo_items (a'.N _ (mr (.head _))).1 fun h' h1 hs => ⟨⟨rfl, rfl⟩, vals, _, a'.upd hs h1, q⟩
theorem Qht {i ep : Nat} {ok ov : Value} {pre post : Led} {Q : OQ} (hh : Ψ.A.handled = none) (hl : l = pre ++ (it, itemF .none d i kvs.length ep ok ov) :: post) (hm : (d, o) ∈ l) (he : DictEp knd o kvs ep) (hx : kvs[i]? = none)
  (q : Q none vals (pre ++ post)) : WA Ψ (pyNext (.ref it)) Q vals l := fun E s a => by
 subst hl
 have h1 := (a.N _ (mr (.head _))).1
 exact wpAny_pyNext_items_end hh h1 (he.at a hm) hx fun h' hx => ⟨⟨rfl, rfl⟩, vals, _, a.dropOne fun b o hb e => hx b o (fun e' => hb e') e, q⟩
end
section
variable {e it a : Addr} {o : Obj} {vs : List Value} {n i : Nat} {old : Value}
theorem Qff {M R : Led} {Q : VQ} (hm : (a, listOf vs.toArray n) ∈ M ++ R) (q : ∀ e it o, LiO o a 0 → Q (.ref e) vals (M ++ (e, enumF .none it 0 .none) :: (it, o) :: R)) : WA Ψ (call (.type "enumerate") [.ref a]) Q vals (M ++ R) := by
 refine Qad fun E s a' => ?_
 refine call_enumerate_list (lAt a' hm) fun h' he hit hsz hk => ?_
 kcj_m
 obtain ⟨o, ho, hc, hd⟩ := hit
 kd_p1
 have a1 := a'.made (tk := s.toks) ho fun b ob _ e => hk b ob e
 have hz : ∀ x ∈ M ++ R, x.1 < s.heap.objs.size := fun x hx => Heap.lt_size (a'.N x hx).1
 refine ⟨⟨rfl, rfl⟩, vals, ((s.heap.objs.size + 1, enumF .none s.heap.objs.size 0 .none) :: (s.heap.objs.size, o) :: (M ++ R)), ?_, M ++ (s.heap.objs.size + 1, enumF .none s.heap.objs.size 0 .none) :: (s.heap.objs.size, o) :: R, ?_, q _ _ o ⟨hc, hd⟩⟩
 ·refine ⟨a1.F, fun x hx => ?_, ?_, fun x hx => ?_⟩
  ·rcases List.mem_cons.mp hx with rfl | hx
   ·refine ⟨he, Nat.ne_of_gt (Nat.lt_succ_of_lt (let ⟨_, _, _, h, _⟩ := a'.F.ns; Heap.lt_size h)), ?_⟩
    cases q' : Ψ.h.get? (s.heap.objs.size + 1) with
    | none => rfl
    | some o' => exact absurd (Heap.lt_size (a'.F.keep _ _ q')) (Nat.not_lt.mpr (Nat.le_succ _))
   ·exact a1.N x hx
  ·rw [List.map_cons, List.nodup_cons]
   refine ⟨fun h => ?_, a1.U⟩
   obtain ⟨y, hy, e'⟩ := List.mem_map.mp h
   rcases List.mem_cons.mp hy with rfl | hy
   ·exact absurd e' (Nat.ne_of_lt (Nat.lt_succ_self _))
   ·exact absurd e' (Nat.ne_of_lt (Nat.lt_succ_of_lt (hz y hy)))
  ·rcases List.mem_cons.mp hx with rfl | hx
   ·have := a1.G (s.heap.objs.size, o) (.head _)
    exact Nat.lt_succ_of_lt this
   ·exact a1.G x hx
 ·exact List.perm_middle.trans (List.Perm.cons _ List.perm_middle)
theorem Qfe {i : Int} {Q : VQ} (hm : (e, enumF .none it i old) ∈ l) (q : Q (.ref e) vals l) : WA Ψ (pyIter (.ref e)) Q vals l := fun E s a' =>
 wpAny_pyIter_enum (a'.N _ hm).1 ⟨⟨rfl, rfl⟩, vals, l, a', q⟩
theorem Qfd {x : Value} {pre post : Led} {Q : OQ} (hl : l = pre ++ (e, enumF .none it (i : Nat) old) :: (it, o) :: post) (hm : (a, listOf vs.toArray n) ∈ l) (hi : LiO o a i) (hx : vs[i]? = some x)
  (q : ∀ y o' t, LiO o' a (i + 1) → Q (some (.ref y)) vals (pre ++ (e, enumF (rawInt y) it ((i + 1 : Nat)) x) :: (it, o') :: (y, tupObj [.int i t, x]) :: post)) : WA Ψ (pyNext (.ref e)) Q vals l := fun E s a' => by
 subst hl
 have he := (a'.N (e, enumF .none it (i : Nat) old) (mr (.head _))).1
 have ho := (a'.N (it, o) (mr (.tail _ (.head _)))).1
 have hU := a'.U
 have ne1 := a'.ne
 have hei : it ≠ e := ne1 (it, o) (mr (.head _))
 have ne2 : ∀ y ∈ pre ++ post, y.1 ≠ it := by
  have : At Ψ vals ((pre ++ [(e, enumF .none it (i : Nat) old)]) ++ (it, o) :: post) s := by rw [List.append_assoc]; exact a'
  intro y hy
  refine this.ne y ?_
  rcases List.mem_append.mp hy with h | h
  ·exact List.mem_append_left _ (List.mem_append_left _ h)
  ·exact mr h
 refine wpAny_pyNext_enum_item he ⟨o, ho, hi.1, hi.2⟩ (lAt a' hm) (by simpa using hx) (Ne.symm hei) fun h' h1 h2 h3 _ hk => ?_
 kcj_m
 obtain ⟨o', ho', hc', hd'⟩ := h2
 kd_p1
 refine ⟨⟨rfl, rfl⟩, vals, _, Qi5 [e, it] a' (fun c hc => ?_) (fun b ob hb => hk b ob (by simp at hb; exact hb.1) (by simp at hb; exact hb.2)) (fun y hy => ?_) ?_, q _ o' s.toks ⟨hc', hd'⟩⟩
 ·rcases List.mem_cons.mp hc with rfl | hc
  ·exact List.mem_map_of_mem (mr (.head _))
  ·rw [List.mem_singleton.mp hc]; exact List.mem_map_of_mem (mr (.tail _ (.head _)))
 ·have oldy : ∀ y ∈ pre ++ post, h'.get? y.1 = some y.2 ∧ (y.1 ∈ (pre ++ (e, enumF .none it (i : Nat) old) :: (it, o) :: post).map (·.1) ∨ y.1 = s.heap.objs.size) := fun y hy => by
   have hy' : y ∈ pre ++ (e, enumF .none it (i : Nat) old) :: (it, o) :: post := by
    rcases List.mem_append.mp hy with h | h
    ·exact List.mem_append_left _ h
    ·exact mr (.tail _ (.tail _ h))
   refine ⟨hk _ _ (ne1 y ?_) (ne2 y hy) (a'.N y hy').1, .inl (List.mem_map_of_mem hy')⟩
   rcases List.mem_append.mp hy with h | h
   ·exact List.mem_append_left _ h
   ·exact mr (.tail _ h)
  rcases List.mem_append.mp hy with hy | hy
  ·exact oldy y (List.mem_append_left _ hy)
  ·rcases List.mem_cons.mp hy with rfl | hy
   ·exact ⟨by rw [h1]; rfl, .inl (List.mem_map.mpr ⟨(e, enumF .none it (i : Nat) old), mr (.head _), rfl⟩)⟩
   ·rcases List.mem_cons.mp hy with rfl | hy
    ·exact ⟨ho', .inl (List.mem_map.mpr ⟨(it, o), mr (.tail _ (.head _)), rfl⟩)⟩
    ·rcases List.mem_cons.mp hy with rfl | hy
     ·exact ⟨h3, .inr rfl⟩
     ·exact oldy y (mr hy)
 ·have hp : ((pre ++ (e, enumF (rawInt s.heap.objs.size) it ((i + 1 : Nat)) x) :: (it, o') :: (s.heap.objs.size, tupObj [.int i s.toks, x]) :: post).map (·.1)).Perm (s.heap.objs.size :: (pre ++ (e, enumF .none it (i : Nat) old) :: (it, o) :: post).map (·.1)) := by
   simp only [List.map_append, List.map_cons]
   exact (List.Perm.append_left _ ((List.Perm.cons _ (List.Perm.swap _ _ _)).trans (List.Perm.swap _ _ _))).trans List.perm_middle
  rw [hp.nodup_iff, List.nodup_cons]
  refine ⟨fun h => ?_, hU⟩
  obtain ⟨y, hy, e'⟩ := List.mem_map.mp h
  exact absurd (Heap.lt_size (a'.N y hy).1) (by rw [e']; exact Nat.lt_irrefl _)
theorem Qf5 {elts : List Expr} {x1 : Nat} {pos : Pos} {i : Int} {y : Addr} {item : Value} {pre post : Led} {Q : UQ} (hl : l = pre ++ (e, enumF (rawInt y) it i item) :: post)
  (q : Q () vals (pre ++ (e, enumF .none it i item) :: post)) : WA Ψ (letOwnedTupleGo (.Tuple elts x1 pos) (.ref e) (.ref y)) Q vals l := fun E s a' => by
 subst hl
 exact wpAny_letOwnedTupleGo_enum (a'.N _ (mr (.head _))).1 fun h' h1 hs => ⟨⟨rfl, rfl⟩, vals, _, a'.upd hs h1, q⟩
theorem Qf6 {pre post : Led} {Q : OQ} (hh : Ψ.A.handled = none) (hl : l = pre ++ (e, enumF .none it (i : Nat) old) :: (it, o) :: post) (hm : (a, listOf vs.toArray n) ∈ l) (hi : LiO o a i) (hx : vs[i]? = none)
  (q : Q none vals (pre ++ (e, enumF .none it (i : Nat) old) :: post)) : WA Ψ (pyNext (.ref e)) Q vals l := fun E s a' => by
 subst hl
 have he := (a'.N (e, enumF .none it (i : Nat) old) (mr (.head _))).1
 have ho := (a'.N (it, o) (mr (.tail _ (.head _)))).1
 refine wpAny_pyNext_enum_end hh he ⟨o, ho, hi.1, hi.2⟩ (lAt a' hm) (by simpa using hx) fun h' hx' => ⟨⟨rfl, rfl⟩, vals, _, ?_, q⟩
 have a2 : At Ψ vals ((pre ++ [(e, enumF .none it (i : Nat) old)]) ++ (it, o) :: post) s := by rw [List.append_assoc]; exact a'
 have := a2.dropOne (h' := h') (tk := s.toks) fun b ob hb e' => hx' b ob (fun q => hb q) e'
 rw [List.append_assoc] at this
 exact this
end
end
end
section
section
variable {K : Params → Frag} {N : Nm} {W : Wd} {Ψ : Frm K N W} {vals : Vals} {l : Led}
theorem Qdj {e : Expr} {y : Str} {py spos fpos : Pos} {scope : Scope} {newAcc first : Sem Value} {g : Comprehension} {gs : List Comprehension} {cl : List (Str × Addr)} {N' : Nm} {Q : FQ}
  (hsw : swapsWith e (some (.Name y py)) spos.line Ψ.env = Pure.pure true) (hev : ∀ use, evalThenUse e Ψ.env use = (do let _ ← comprehension e scope Ψ.env fpos newAcc false first (some use)))
  (hcl : clausesOf e = g :: gs) (hs : ∀ x, foldedSetIterable g.iter Ψ.env x = Pure.pure x) (hclos : closureFor scope Ψ.env = Pure.pure cl) (hkind : scope.kind = .function) (hcell : ∀ y ∈ scope.names, y.2 ≠ .cell)
  (hnames : ∀ y ∈ scope.names, y.2 = .local → scope.names.lookup y.1 = some .local) (sc : ScOk (relabel scope Ψ.env).names N'.loc N'.glo)
  (h : WA Ψ first (fun xv vals l => WA Ψ (pyIter xv) (fun it vals l => WA Ψ newAcc (fun acc vals l => ∀ Ψ' : Frm K N' W, Ψ'.env = compEnvC scope cl Ψ'.L Ψ.env → Ψ'.A = Ψ.A →
   WC Ψ' (.compStart e 0 it acc Ψ'.env) (fun _ _ l' => ∃ l'' i, l''.Sublist l' ∧ NmI N.loc y i ∧ vhas vals i = true ∧ Q .next (vset vals i acc) l'') (List.replicate N'.loc.length none) l) vals l) vals l) vals l) :
  WA Ψ (exec (.Assign [.Name y py] e spos) Ψ.env) Q vals l := by
 refine Qbd ?_
 intro E s a
 rw [exec_Assign_Name_used _ _ _ _ hsw]
 refine wpAny_bind (wpAny_standAt (wpAny_bind ?_))
 rw [hev]
 refine wpAny_bind (wpAny_mono (wpAny_comprehension_free (use := some (assign (.Name y py) Ψ.env)) (Q := fun _ s' => Same s s' ∧ ∃ vals' l', At Ψ vals' l' s' ∧ ∃ l'', l''.Sublist l' ∧ Q .next vals' l'') hcl hs hclos hkind hnames ?_) (fun _ s' hq => wpAny_pure (wpAny_pure hq)) fun _ _ e => e)
 refine h.use a fun xv s₁ v1 l1 S1 a1 h1 => h1.use a1 fun it s₂ v2 l2 S2 a2 h2 => h2.use a2 fun acc s₃ v3 l3 S3 a3 h3 => ?_
 refine wpAny_newFunctionEnv hcell (by intro y hy; simp at hy) (fun h₁ hns₁ hsb₁ => ?_) hkind
 try dsimp only at hns₁ hsb₁ ⊢
 have nm0 : ∀ b o, Ψ.h.get? b = some o → b ∉ l3.map (·.1) := fun b o e q => by
  obtain ⟨p, hp, rfl⟩ := List.mem_map.mp q
  rw [(a3.N p hp).2.2] at e; cases e
 have st : Ψ.h.StaysIn (hideAll s₃.heap (l3.map (·.1))) := fun b o e => hideAll_get _ (a3.F.keep b o e) (nm0 b o e)
 let Ψ' : Frm K N' W := ⟨hideAll s₃.heap (l3.map (·.1)), s₃.heap.objs.size, Ψ.X.keeps (fun b o e => st b o e), Ψ.T.keeps (fun b o e => st b o e), Ψ.A, compEnvC scope cl s₃.heap.objs.size Ψ.env, ⟨rfl, hkind, Ψ.e.glob, Ψ.e.bi⟩, sc⟩
 have hold : ∀ b o, s₃.heap.get? b = some o → h₁.get? b = some o := fun b o e => hsb₁.extBut b o (Nat.ne_of_lt (Heap.lt_size e)) (Heap.get?_push_of_some _ e)
 have hns : h₁.Ns Ψ'.L (fr N'.loc (List.replicate N'.loc.length none)) := by
  have : fr N'.loc (List.replicate N'.loc.length none) = fun y => ([] : List (Str × Value)).reverse.lookup y := funext fun y => Qdt _ _ _
  rw [this]; exact hns₁
 have a' : At Ψ' (List.replicate N'.loc.length none) l3 { s₃ with heap := h₁, toks := s₃.toks + 0 } :=
  ⟨⟨hns, fun b o e => hold b o (of_hideAll _ e), Nat.le_of_eq (hideAll_size _ _)⟩,
   fun q hq => ⟨hold _ _ (a3.N q hq).1, Nat.ne_of_lt (Heap.lt_size (a3.N q hq).1), hideAll_none _ (List.mem_map_of_mem hq)⟩, a3.U, a3.G⟩
 refine h3 Ψ' rfl rfl _ _ a' fun f s' v' l' S a'' ⟨l'', i, sl, ni, nh, q⟩ => ?_
 have ab := At.back (Ψ' := Ψ') a3 rfl a'' (fun b o _ e => e) (Nat.le_refl _)
 have hi := ni.at
 have hl := Qh4 nh
 have hLC : Ψ.L ≠ Ψ'.L := fun q => by
  obtain ⟨o, _, _, ho, _⟩ := a3.F.ns
  have := Heap.lt_size ho
  rw [q] at this
  exact absurd this (Nat.lt_irrefl _)
 show wpAny _ Ψ.A (assign (.Name y py) Ψ.env acc) _ _ _
 refine wpAny_assign_Name (wpAny_storeName_local (Ψ.sc.loc y (List.mem_of_getElem? hi)).1 (Ψ.e.loc ▸ ab.F.ns) (fun h₂ hn₂ hs₂ => ?_) (by rw [Ψ.e.kind]; rfl))
 rw [Ψ.e.loc] at hn₂ hs₂
 rw [Qls Ψ.sc.nd hi hl, Qh3] at hn₂
 refine ⟨_, a''.F.ns.sameBut hs₂ (Ne.symm hLC), fun h₃ hs₃ => ?_⟩
 have al := ab.setLoc hn₂ hs₂ (tk := s'.toks)
 have hC : ∀ q ∈ l', q.1 ≠ Ψ'.L := fun q hq => (a''.N q hq).2.1
 have hBC : ∀ b o, Ψ.h.get? b = some o → b ≠ Ψ'.L := fun b o e q => by
  have := Heap.lt_size (a3.F.keep b o e)
  rw [q] at this
  exact absurd this (Nat.lt_irrefl _)
 refine ⟨((S1.trans S2).trans S3).trans ⟨S.1, S.2⟩, _, l', ⟨⟨hn₂.sameBut hs₃ hLC, fun b o e => (hs₃.2 b (hBC b o e)).trans (al.F.keep b o e), al.F.above⟩, fun q hq => ⟨(hs₃.2 _ (hC q hq)).trans (al.N q hq).1, (al.N q hq).2⟩, al.U, al.G⟩, l'', sl, q⟩
theorem Qfs (kx vx target iter : Expr) (scope : Scope) (pos : Pos) (it : Value) (D : Addr) (env : Env) :
  compTurn (.DictComp kx vx [⟨target, iter, [], 0⟩] scope pos) 0 it (.ref D) env = (PySem.standAt iter.pos >>= fun _ => pyNext it >>= fun r => match r with
   | none => Pure.pure (.done .next)
   | some v => letOwnedTupleGo target it v >>= fun _ => assign target env v >>= fun _ =>
    (eval kx env >>= fun kv => PySem.holding [kv] (eval vx env) >>= fun vv => PySem.standAt { kx.pos with endLine := vx.pos.endLine, endCol := vx.pos.endCol } >>= fun _ => PySem.holding [kv, vv] (dictSet D kv vv)) >>= fun _ =>
     again (.compLoop (.DictComp kx vx [⟨target, iter, [], 0⟩] scope pos) 0 it (.ref D) env)) := by rfl
theorem Qmi {kx vx target iter : Expr} {scope : Scope} {pos : Pos} {it acc : Value} {Q : FQ}
  (h0 : WC Ψ (.compLoop (.DictComp kx vx [⟨target, iter, [], 0⟩] scope pos) 0 it acc Ψ.env) Q vals l)
  (h : WA Ψ (pyIter it) (fun it' vals l => WC Ψ (.compLoop (.DictComp kx vx [⟨target, iter, [], 0⟩] scope pos) 0 it' acc Ψ.env) Q vals l) vals l) :
  WC Ψ (.compStart (.DictComp kx vx [⟨target, iter, [], 0⟩] scope pos) 0 it acc Ψ.env) Q vals l := fun R s a k =>
 codeAny_compStart_dict (h0 R s a k) (h.use a fun it' s' v' l' S a' h' => h' R s' a' fun f s'' v'' l'' S' a'' q => k f s'' v'' l'' (S.trans S') a'' q)
theorem Qol {kx vx target iter : Expr} {scope : Scope} {pos : Pos} {it : Value} {D : Addr} {Q : FQ}
  (h : WA Ψ (pyNext it) (fun r vals l => match r with
   | none => Q .next vals l
   | some v => WA Ψ (letOwnedTupleGo target it v) (fun _ vals l => WA Ψ (assign target Ψ.env v) (fun _ vals l => WA Ψ (eval kx Ψ.env) (fun kv vals l => WA Ψ (eval vx Ψ.env) (fun vv vals l => WA Ψ (dictSet D kv vv) (fun _ vals l =>
     WC Ψ (.compLoop (.DictComp kx vx [⟨target, iter, [], 0⟩] scope pos) 0 it (.ref D) Ψ.env) Q vals l) vals l) vals l) vals l) vals l) vals l) vals l) :
  WC Ψ (.compLoop (.DictComp kx vx [⟨target, iter, [], 0⟩] scope pos) 0 it (.ref D) Ψ.env) Q vals l := by
 intro R s a k
 refine codeAny_of_tree ?_
 show wpAny _ Ψ.A ((compTurn (.DictComp kx vx [⟨target, iter, [], 0⟩] scope pos) 0 it (.ref D) Ψ.env).onRaise (fun x => do noteFrame x Ψ.env; theTreesLotGoes x)) _ _ s
 refine wpAny_noted ?_
 rw [Qfs]
 refine wpAny_bind (wpAny_standAt (wpAny_bind (h.use a fun r s₁ v1 l1 S1 a1 h1 => ?_)))
 cases r with
 | none => exact wpAny_pure (k _ _ _ _ S1 a1 h1)
 | some v =>
  refine wpAny_bind (h1.use a1 fun _ s₂ v2 l2 S2 a2 h2 => wpAny_bind (h2.use a2 fun _ s₃ v3 l3 S3 a3 h3 => ?_))
  refine wpAny_bind (wpAny_bind (h3.use a3 fun y s₄ v4 l4 S4 a4 h4 => wpAny_bind (wpAny_holding (h4.use a4 fun z s₅ v5 l5 S5 a5 h5 => wpAny_bind (wpAny_standAt (wpAny_holding (h5.use a5 fun _ s₆ v6 l6 S6 a6 h6 => wpAny_pure ?_)))))))
  exact ⟨rfl, h6 R s₆ a6 fun f s' v'' l'' S' a'' q => k f s' v'' l'' ((((((S1.trans S2).trans S3).trans S4).trans S5).trans S6).trans S') a'' q⟩
theorem Qiv {M R : Led} {Q : VQ} (q : ∀ x, Q (.ref x) vals (M ++ (x, dictOf [] 0) :: R)) : WA Ψ newDict Q vals (M ++ R) := Qad fun E s a' => by
 unfold newDict
 simp only [newObj]
 exact wpAny_bind (wpAny_alloc (wpAny_pure ⟨⟨rfl, rfl⟩, vals, _, a'.push, _, shiftPerm, q _⟩))
theorem Qot {Kt : Type} [DecidableEq Kt] {knd : KeyKind W.prog W.w Kt} {kvs : List (Kt × Value)} {k : Kt} {key v : Value} {d : Addr} {o : Obj} {pre post : Led} {Q : UQ} (hkey : knd.is k key = true) (hl : l = pre ++ (d, o) :: post) (ho : o.IsDictOf knd kvs) (hz : kvs.length ≤ sizeLine)
  (q : ∀ o' : Obj, o'.IsDictOf knd (stored kvs k v) → Q () vals (pre ++ (d, o') :: post)) : WA Ψ (dictSet d key v) Q vals l := fun E s a => by
 subst hl
 refine wpAny_dictSet_pairs hkey (dictAt a (mr (.head _)) ho) (fun h' hd hs => ?_) hz
 obtain ⟨o', ho', hd'⟩ := Heap.dictOf_iff.mp hd
 exact ⟨⟨rfl, rfl⟩, vals, _, a.upd hs ho', q o' hd'⟩
theorem Qmz {kx vx iter : Expr} {x y : Str} {px py pos spos : Pos} {scope : Scope} {cl : List (Str × Addr)} {Q : FQ}
  (hsw : swapsWith (.DictComp kx vx [⟨.Name x px, iter, [], 0⟩] scope pos) (some (.Name y py)) spos.line Ψ.env = Pure.pure true)
  (hclos : closureFor scope Ψ.env = Pure.pure cl) (hkind : scope.kind = .function) (hcell : ∀ y ∈ scope.names, y.2 ≠ .cell)
  (hnames : ∀ y ∈ scope.names, y.2 = .local → scope.names.lookup y.1 = some .local) (sc : ScOk (relabel scope Ψ.env).names [x] [])
  (h : WA Ψ (eval iter Ψ.env) (fun xv vals l => WA Ψ (pyIter xv) (fun it vals l => WA Ψ newDict (fun acc vals l => ∀ Ψ' : Frm K ⟨[x], []⟩ W, Ψ'.env = compEnvC scope cl Ψ'.L Ψ.env → Ψ'.A = Ψ.A →
   (WC Ψ' (.compLoop (.DictComp kx vx [⟨.Name x px, iter, [], 0⟩] scope pos) 0 it acc Ψ'.env) (fun _ _ l' => ∃ l'' i, l''.Sublist l' ∧ NmI N.loc y i ∧ vhas vals i = true ∧ Q .next (vset vals i acc) l'') [none] l ∧
   WA Ψ' (pyIter it) (fun it' vals' l' => it' = it ∧ vals' = [none] ∧ l' = l) [none] l)) vals l) vals l) vals l)
  (hs : ∀ x, foldedSetIterable iter Ψ.env x = Pure.pure x := by intro _; rfl) :
  WA Ψ (exec (.Assign [.Name y py] (.DictComp kx vx [⟨.Name x px, iter, [], 0⟩] scope pos) spos) Ψ.env) Q vals l := by
 refine Qdj (N' := ⟨[x], []⟩) (first := eval iter Ψ.env) hsw (fun _ => rfl) rfl hs hclos hkind hcell hnames sc ?_
 refine h.mono fun xv _ _ h1 => h1.mono fun it _ _ h2 => h2.mono fun acc _ _ h3 Ψ' e' a' => ?_
 obtain ⟨h4, h5⟩ := h3 Ψ' e' a'
 exact Qmi h4 (h5.mono fun it' _ _ ⟨a, b, c⟩ => by subst a b c; exact h4)
theorem Qow {elt iter : Expr} {x y : Str} {px py pos spos : Pos} {scope : Scope} {cl : List (Str × Addr)} {Q : FQ}
  (hsw : swapsWith (.SetComp elt [⟨.Name x px, iter, [], 0⟩] scope pos) (some (.Name y py)) spos.line Ψ.env = Pure.pure true)
  (hclos : closureFor scope Ψ.env = Pure.pure cl) (hkind : scope.kind = .function) (hcell : ∀ y ∈ scope.names, y.2 ≠ .cell)
  (hnames : ∀ y ∈ scope.names, y.2 = .local → scope.names.lookup y.1 = some .local) (sc : ScOk (relabel scope Ψ.env).names [x] [])
  (h : WA Ψ (eval iter Ψ.env) (fun xv vals l => WA Ψ (pyIter xv) (fun it vals l => WA Ψ (newSet (.type "set")) (fun acc vals l => ∀ Ψ' : Frm K ⟨[x], []⟩ W, Ψ'.env = compEnvC scope cl Ψ'.L Ψ.env → Ψ'.A = Ψ.A →
   (WC Ψ' (.compLoop (.SetComp elt [⟨.Name x px, iter, [], 0⟩] scope pos) 0 it acc Ψ'.env) (fun _ _ l' => ∃ l'' i, l''.Sublist l' ∧ NmI N.loc y i ∧ vhas vals i = true ∧ Q .next (vset vals i acc) l'') [none] l ∧
   WA Ψ' (pyIter it) (fun it' vals' l' => it' = it ∧ vals' = [none] ∧ l' = l) [none] l)) vals l) vals l) vals l)
  (hs : ∀ x, foldedSetIterable iter Ψ.env x = Pure.pure x := by intro _; rfl) :
  WA Ψ (exec (.Assign [.Name y py] (.SetComp elt [⟨.Name x px, iter, [], 0⟩] scope pos) spos) Ψ.env) Q vals l := by
 refine Qdj (N' := ⟨[x], []⟩) (first := eval iter Ψ.env) hsw (fun _ => rfl) rfl hs hclos hkind hcell hnames sc ?_
 refine h.mono fun xv _ _ h1 => h1.mono fun it _ _ h2 => h2.mono fun acc _ _ h3 Ψ' e' a' => ?_
 obtain ⟨h4, h5⟩ := h3 Ψ' e' a'
 exact Qhj h4 (h5.mono fun it' _ _ ⟨a, b, c⟩ => by subst a b c; exact h4)
end
end
section
section
variable {K : Params → Frag} {N : Nm} {W : Wd} {Ψ : Frm K N W} {vals : Vals} {l : Led}
theorem Qkr {C x d p f : Addr} {es : List DictEntry} {n : Nat} {name : Str} {expr : Bool} {more : List Value} {fd : FuncData} {body : List Stmt} {binds : List (Str × Value)} {rest : List Str} {N' : Nm} {Q : VQ} (I : InstL l C x d es n)
  (hg : plainGet (K W.w.params) C name = true) (hh : hasDictIn (K W.w.params) C = true) (ha : findIn (K W.w.params) (.ref C) name = some (some (.ref p))) (hn' : specialIn (K W.w.params) (.ref p) "__get__" = some (some (.builtin "property.__get__")))
  (ht : takesIn (K W.w.params) (.ref p) = some true) (hp : recIn (K W.w.params) p "property" = some (.ref f :: more))
  (ok : FnOk (K W.w.params) f fd body) (sc : ScOk fd.scope.names N'.loc N'.glo) (hr : Ψ.A.in1.depth < recursionLimit)
  (hb : ∀ s : Shared, (K W.w.params).In s.heap → BindsTo s fd ⟨[.ref x], []⟩ binds) (hn : binds.map (·.1) ++ rest = N'.loc)
  (h : ∀ Ψ' : Frm K N' W, Ψ'.env = callEnv fd Ψ'.L f → Ψ'.A = Ψ.A.in1.deeper Ψ'.env → WA Ψ' (execs body Ψ'.env) (fun fl _ l' => handedIn (retOf fl) = true ∧ Q (retOf fl) vals l') (bv binds rest.length) l) :
  WA Ψ (getAttr (.ref x) name expr) Q vals l := by
 intro E s a
 kcj_m
 obtain ⟨oc, od, osl, ho⟩ := ok.look
 have X := Ψ.X.keeps a.F.keep
 have nm0 : ∀ b o, Ψ.h.get? b = some o → b ∉ l.map (·.1) := fun b o e q => by
  obtain ⟨p, hp, rfl⟩ := List.mem_map.mp q
  rw [(a.N p hp).2.2] at e; cases e
 have st : Ψ.h.StaysIn (hideAll s.heap (l.map (·.1))) := fun b o e => hideAll_get _ (a.F.keep b o e) (nm0 b o e)
 obtain ⟨oL, es', ep, hL, hLd, hLk, hLf⟩ := a.F.ns
 kd_p1
 have nL : Ψ.L ∉ l.map (·.1) := fun q => by
  obtain ⟨p, hp, e⟩ := List.mem_map.mp q
  exact (a.N p hp).2.1 e
 have hLg := hideAll_get (l.map (·.1)) hL nL
 let Ψ' : Frm K N' W := ⟨hideAll s.heap (l.map (·.1)), s.heap.objs.size, Ψ.X.keeps (fun b o e => st b o e), Ψ.T.keeps (fun b o e => st b o e), Ψ.A.in1.deeper (callEnv fd s.heap.objs.size f), callEnv fd s.heap.objs.size f, ⟨rfl, ok.kind, ok.glob, ok.bi⟩, sc⟩
 refine get_prop a.F Ψ.X (InstAt.of_news a.N I.inst I.dict) hg hh ha hn' ht hp ?_
 refine codeAny_call_def (s := { s with toks := s.toks + 1 }) hr (X _ _ ho) rfl (Ψ.T.nolimit.keeps a.F.keep) (codeRec_of X ok.code) ok.body (hb _ X)
  (fun x hx => by simpa using List.all_eq_true.mp ok.nocell x hx)
  (fun x hx => (sc.loc x.1 (by rw [← hn]; exact List.mem_append_left _ (List.mem_map_of_mem hx))).1) (fun h₁ hns hk₁ => ?_) ok.co ok.gen ok.kind
 rw [Qgl hn sc.nd] at hns
 have a' : At Ψ' (bv binds rest.length) l { s with heap := h₁, toks := s.toks + 1 + binds.length } :=
  ⟨⟨hns, fun b o e => hk₁ b o (of_hideAll _ e), Nat.le_of_eq (hideAll_size _ _)⟩,
   fun p hp => ⟨hk₁ _ _ (a.N p hp).1, Nat.ne_of_lt (Heap.lt_size (a.N p hp).1), hideAll_none _ (List.mem_map_of_mem hp)⟩, a.U, a.G⟩
 refine (h Ψ' rfl rfl).use a' fun fl s' v' l' S a'' ⟨q1, q⟩ => ?_
 have fin : ∀ v, retOf fl = v → wpAny (model W.prog W.w) Ψ.A (handedOut v) (fun v s' => Same s s' ∧ ∃ vals' l', At Ψ vals' l' s' ∧ Q v vals' l') E s' := fun v e => by
  subst e
  refine handed_on q1 ⟨S, vals, l', ⟨⟨⟨oL, es', ep, a''.F.keep Ψ.L oL hLg, hLd, hLk, hLf⟩, fun b o e => a''.F.keep b o (st b o e), a.F.above⟩, fun p hp => ⟨(a''.N p hp).1, fun q => ?_, ?_⟩, a''.U, a''.G⟩, q⟩
  ·have := (a''.N p hp).2.2
   rw [q] at this
   exact absurd (hLg.symm.trans this) (by simp)
  ·cases q : Ψ.h.get? p.1 with
   | none => rfl
   | some o => exact absurd ((st _ _ q).symm.trans (a''.N p hp).2.2) (by simp)
 cases fl <;> exact fin _ rfl
theorem Qhx {C x d p : Addr} {f : Addr} {es : List DictEntry} {n : Nat} {name : Str} {pl : Sem Bool} {an : List Str} {av more : List Value} {Q : MQ} (I : InstL l C x d es n) (at' : AttrsAre es an av) (hn : name ∉ an)
  (hg : plainGet (K W.w.params) C name = true) (hh : hasDictIn (K W.w.params) C = true) (ha : findIn (K W.w.params) (.ref C) name = some (some (.ref p))) (ht : typeIn (K W.w.params) (.ref p) = some (.type "staticmethod"))
  (hgf : specialIn (K W.w.params) (.ref p) "__get__" = some (some (.builtin "staticmethod.__get__"))) (hts : takesIn (K W.w.params) (.ref p) = some false) (hc : copiedNames.contains name = false) (hp : recIn (K W.w.params) p "staticmethod" = some (.ref f :: more)) (hv : handedIn (.ref f) = true)
  (q : Q (.ref f, []) vals l) : WA Ψ (getMethod (.ref x) name pl) Q vals l := fun E s a =>
 kmu_sm a.F Ψ.X (InstAt.of_news a.N I.inst I.dict) hg hh ha ht hgf hts hc (by rw [at'.get, Qil hn]) hp hv ⟨⟨rfl, rfl⟩, vals, l, ⟨a.F, a.N, a.U, a.G⟩, q⟩
end
end
section
noncomputable def isAll : Option Int → Value → Bool
 | none, .str x _ => x == ("all" : Str)
 | some k, .int i _ => i == k
 | _, _ => false
theorem Qbs {a : Option Int} {v : Value} (h : isAll a v = true) : (∃ k t, a = some k ∧ v = .int k t) ∨ (a = none ∧ ∃ t, v = .str "all" t) := by
 cases a with
 | none => cases v <;> first | exact absurd h Bool.false_ne_true | exact .inr ⟨rfl, _, congrArg (Value.str · _) (eq_of_beq h)⟩
 | some k => cases v <;> first | exact absurd h Bool.false_ne_true | exact .inl ⟨_, _, rfl, congrArg (Value.int · _) (eq_of_beq h)⟩
theorem Qlk (v : Value) (a b : Option Int) (ha : isAll a v = true) (hb : isAll b v = true) : a = b := by
 rcases Qbs ha with ⟨k, t, e1, e2⟩ | ⟨e1, t, e2⟩ <;> rcases Qbs hb with ⟨k', t', e3, e4⟩ | ⟨e3, t', e4⟩ <;> rw [e2] at e4 <;> cases e4 <;> rw [e1, e3]
noncomputable def allHash (w : World) : Option Int → Int
 | none => hashStr w "all"
 | some k => hashInt k
noncomputable def allKind (prog : Program) (w : World) : KeyKind prog w (Option Int) where
 is := isAll
 hash := allHash w
 inj := Qlk
 byValue := fun k v h => by
  rcases Qbs h with ⟨k, t, rfl, rfl⟩ | ⟨rfl, t, rfl⟩ <;> rfl
 pyHash := fun {A E s k v Q} hv h => by
  rcases Qbs hv with ⟨k, t, rfl, rfl⟩ | ⟨rfl, t, rfl⟩
  ·exact wpAny_pyHash_int h
  ·exact wpAny_pyHash_str h
 eqBool := fun {A E s a b u v Q} hu hv h => by
  rcases Qbs hu with ⟨k, t, rfl, rfl⟩ | ⟨rfl, t, rfl⟩ <;> rcases Qbs hv with ⟨k', t', rfl, rfl⟩ | ⟨rfl, t', rfl⟩
  ·refine wpAny_eqBool_int ?_
   have : (decide (some k = some k')) = (k == k') := by by_cases e : k = k' <;> simp [e]
   rw [← this]; exact h
  ·exact PySem.SeqAt.EqAt.int_str k t _ t' prog w E _ h
  ·exact PySem.SeqAt.EqAt.str_int _ t k' t' prog w E _ h
  ·exact wpAny_eqBool_str (by simpa using h)
 «strs» := fun k x t v h => by
  rcases Qbs h with ⟨k, t, rfl, hx⟩ | ⟨rfl, t, hx⟩
  ·cases hx
  ·cases hx; cases v <;> rfl
section
variable {K : Params → Frag} {N : Nm} {W : Wd} {Ψ : Frm K N W} {vals : Vals} {l : Led}
theorem Qhw {a : Int} {t : Tok} {Q : VQ} (q : Q (.bool true) vals l) : WA Ψ (call (.builtin "isinstance") [.int a t, .type "int"]) Q vals l := fun E s a' =>
 IsiPair.int_int ⟨Same.refl s, vals, l, a', q⟩
end
end
section
noncomputable def fn491 : FnIn 491 := by
 refine' mkFn ?ok ?hb
 case ok => intro P; k_is
 case hb => exact rfl
@[reducible] noncomputable def N491 : Nm := ⟨["self"], []⟩
theorem Qvg : ScOk fn491.fd.scope.names N491.loc N491.glo := by
 refine Qah ?_
 kcf_m
theorem Qwn (P : Params) : FnOk (hK P) 491 fn491.fd fn491.body := ⟨⟨_, _, _, fn491.ok P⟩, by kcf_m, fn491.hb, rfl, rfl, rfl, rfl, rfl, by kcf_m⟩
noncomputable def fn476 : FnIn 476 := by
 refine' mkFn ?ok ?hb
 case ok => intro P; k_is
 case hb => exact rfl
@[reducible] noncomputable def N476 : Nm := ⟨["self", "dvars", "r", "var", "val", "u"], ["isinstance", "dict"]⟩
theorem Qvh : ScOk fn476.fd.scope.names N476.loc N476.glo := by
 refine Qah ?_
 kcf_m
theorem Qwo (P : Params) : FnOk (hK P) 476 fn476.fd fn476.body := ⟨⟨_, _, _, fn476.ok P⟩, by kcf_m, fn476.hb, rfl, rfl, rfl, rfl, rfl, by kcf_m⟩
section
theorem Qrv (P : Params) : findIn (hK P) (.ref clsA) "true" = some (some (.ref 492)) := by k_is
theorem Qj6 (P : Params) : specialIn (hK P) (.ref 492) "__get__" = some (some (.builtin "property.__get__")) := by k_is
theorem Qg3 (P : Params) : takesIn (hK P) (.ref 492) = some true := by k_is
theorem Qj5 (P : Params) : recIn (hK P) 492 "property" = some [.ref 491, .none, .none, .none, .str "true" 847, .bool false] := by k_is
theorem Qrj {expr : Bool} {Q : VQ} (G : Good W sa b σ) (hr : Room Ψ.A 3) (q : ∀ t, Q (.int 1 t) vals (mgL b ++ Rl)) : WA Ψ (getAttr (.ref sa) "true" expr) Q vals (mgL b ++ Rl) := by
 have hs := G.hs
 subst hs
 refine Qkr (p := 492) (f := 491) (binds := [("self", .ref b.self)]) (rest := []) (N' := N491) inst_mg (Qb1 _ _) (Qc4 _) (Qrv _) (Qj6 _) (Qg3 _) (Qj5 _) (Qwn _) Qvg (by have := hr.d; show Ψ.A.depth < _; exact Q39 this) (fun s X => .of_eq rfl) rfl ?_
 intro Ψ' he ha
 dsimp only [fn491, mkFn]
 (ctx_mentions Ua Yb Yc Zc)
 exact ⟨rfl, q _⟩
theorem Qns {a : Addr} {vs : List Value} {n : Nat} {l : Led} {Q : VQ} (hm : (a, listOf vs.toArray n) ∈ l) (q : Q (.bool false) vals l) : WA Ψ (call (.builtin "isinstance") [.ref a, .type "dict"]) Q vals l := fun E s a' =>
 IsiPair.list_dict (a'.N _ hm).1 rfl ⟨⟨rfl, rfl⟩, vals, l, ⟨a'.F, a'.N, a'.U, a'.G⟩, q⟩
theorem Qko {it a : Addr} {o : Obj} {i : Nat} {l : Led} {Q : VQ} (hm : (it, o) ∈ l) (hi : LiO o a i) (q : Q (.ref it) vals l) : WA Ψ (pyIter (.ref it)) Q vals l := fun E s a' =>
 wpAny_pyIter_listiter ⟨o, (a'.N _ hm).1, hi.1, hi.2⟩ ⟨Same.refl s, vals, l, a', q⟩
theorem Qj1 {kvs : List (Int × Value)} {k : Int} {v : Value} (h : valueAt kvs k = none) : stored kvs k v = kvs ++ [(k, v)] := by
 unfold stored
 rw [Qca, h]; rfl
theorem Qgb {names : List Int} {y : Value} {x : Int} : valueAt (names.map fun z => (z, y)) x = if x ∈ names then some y else none := by
 induction names with
 | nil => rfl
 | cons z r ih =>
  unfold valueAt at ih ⊢
  rw [List.map_cons, List.find?_cons]
  by_cases h : z = x
  ·subst h; simp
  ·have h' : ¬ x = z := fun e => h e.symm
   simp only [decide_eq_true_eq, h, h', if_false, List.mem_cons, false_or, decide_false]
   exact ih
theorem Qgf {i j : Nat} {x : Int} (G : Good W sa b σ) (h1 : σ.order[i]? = some x) (h2 : σ.order[j]? = some x) : i = j := by
 obtain ⟨t1, e1⟩ := G.r.v2 _ x h1
 obtain ⟨t2, e2⟩ := G.r.v2 _ x h2
 rw [e1] at e2
 injection e2 with e2; injection e2 with e2; exact Q38 e2
theorem Qsg {nl : Addr} {vs : List Value} {n0 : Nat} {names : List Int} {to : Tok} {Q : VQ} (G : Good W sa b σ) (hr : Room Ψ.A 24) (cap : Cap σ 512) (hf : Full σ) (hm : (nl, listOf vs.toArray n0) ∈ Rl) (hi : IntsAre vs names) (hU : ∀ x ∈ names, x ∈ U1) (hnd : names.Nodup) (hz : names.length ≤ 5)
  (q : ∀ t' b' σ' r f, Good W sa b' σ' → Gr σ σ' 512 → Den σ' r f → (∀ a, f a = true ↔ ∀ j : Nat, (∃ x ∈ names, σ.order[j]? = some x) → a j = true) → Q (.int r t') vals (mgL b' ++ Rl)) :
  WA Ψ (call (.ref 476) [.ref sa, .ref nl]) Q vals (mgL b ++ Rl) := by
 refine Qaa (N' := N476) (Qwo _) Qvh hr (binds := [("self", .ref sa), ("dvars", .ref nl)]) (rest := ["r", "var", "val", "u"]) (fun s X => .of_eq rfl) rfl [some (.ref sa), some (.ref nl), none, none, none, none] rfl ?_
 intro Ψ' he hr'
 have hh : Ψ'.A.handled = none := hr'.hh
 have at0 := G.at'
 have hs := G.hs
 have ok := G.ok
 dsimp only [fn476, mkFn]
 (ctx_mentions Ua Ya Yh Xi Fb Pa Yo Vb Yl Pa Zh)
 refine Qns (mr hm) ?_
 (ctx_mentions Zr Mb Ua)
 refine Qmz (cl := []) (by rw [he]; rfl) (by rw [he]; rfl) rfl (by decide) (by decide) (by rw [he]; exact Qah (by kcf_m)) ?_ (by intro _; with_unfolding_all rfl)
 (ctx_mentions Va)
 refine Qbk (mr hm) fun it o1 li1 => ?_
 refine Qiv fun d => ?_
 intro Ψ2 he2 ha2
 have hvl := Qai hi
 refine ⟨?_, Qko (mr (.tail _ (.head _))) li1 ⟨rfl, rfl, rfl⟩⟩
 let J : Nat → Vals → Led → Prop := fun m vals' l' => Ex4 fun (i : Nat) (od oi : Obj) (ov : Option Value) => An6 (m = names.length - i) (i ≤ names.length) (od.IsDictOf (intKind W.prog W.w) ((names.take i).map fun z => (z, Value.bool true))) (LiO oi nl i) (vals' = [ov]) (l' = mgL b ++ (d, od) :: (it, oi) :: Rl)
 refine WC.inv J ?_ names.length ⟨0, _, _, none, rfl, Nat.zero_le _, by simpa using isDict_nil, li1, rfl, rfl⟩
 rintro m _ _ ⟨i, od, oi, ov, hm', hi', hd, hli, rfl, rfl⟩ again
 refine Mine.WC.letV ?_; intro vv
 refine Qol ?_
 by_cases hie : i = names.length
 ·subst hie
  rw [List.take_length] at hd
  refine Qdi (a := nl) (vs := vs) (n := n0) (pre := mgL b ++ [(d, od)]) (by rw [ha2]; exact hh) (by rw [List.append_assoc]; rfl) (mr (.tail _ (.tail _ hm))) hli (by rw [List.getElem?_eq_none_iff]; exact Qgr hvl) ?_
  rw [List.append_assoc]
  refine ⟨mgL b ++ (d, od) :: Rl, _, List.Sublist.refl _, by repeat constructor, rfl, ?_⟩
  (ctx_mentions Zb Za Zb Ua Xa Xj Va)
  refine Qrj G (hr'.less (by kd_p)) fun t1 => ?_
  (ctx_mentions Vc Zb Ua Xk Fa Va)
  have hdm : ∀ {x : Led}, (d, od) ∈ mgL b ++ (d, od) :: x := mr (.head _)
  refine Qa4 hdm (Qan hd) PySem.F.slot_dict_items PySem.F.type_dict_items ?_
  (ctx_mentions Yn Zh)
  refine Qhz hdm hd fun vw => ?_
  refine Qgw (mr (.head _)) (mr (.tail _ (.head _))) hd fun itm ep he1 => ?_
  rw [List.length_map]
  let J : Nat → Vals → Led → Prop := fun m vals' l' => Ex11 fun (i : Nat) (b1 : Mg) (σ1 : Sg) (r : Int) (tr : Tok) (ok1 ov1 : Value) (w1 w2 w3 : Option Value) (f : BF) => An8 (m = names.length - i) (i ≤ names.length) (Good W sa b1 σ1) (Gr σ σ1 (65 * i)) (Den σ1 r f) ((∀ a, f a = true ↔ ∀ j : Nat, (∃ x ∈ names.take i, σ.order[j]? = some x) → a j = true)) (vals' = [some (.ref sa), some (.ref d), some (.int r tr), w1, w2, w3]) (l' = mgL b1 ++ (itm, itemF .none d i names.length ep ok1 ov1) :: (vw, itemsView d) :: (d, od) :: Rl)
  refine WC.inv J ?_ names.length ⟨0, b, σ, 1, t1, .none, .none, none, none, none, _, rfl, Nat.zero_le _, G, Gr.refl σ, .one, fun a => by simp, rfl, rfl⟩
  rintro m _ _ ⟨i, b1, σ1, r, tr, ok1, ov1, w1, w2, w3, f, hm2, hi2, G1, g1, d1, hf1, rfl, rfl⟩ again
  refine Mine.WC.letV ?_; intro vv
  have at1 := G1.at'
  have hs1 := G1.hs
  by_cases hie : i = names.length
  ·subst hie
   refine WC.for1 (Qht (kvs := names.map fun z => (z, Value.bool true)) (pre := mgL b1) hh (by rw [List.length_map]) (mr (.tail _ (.tail _ (.head _)))) he1 (by simp) ?_)
   (ctx_mentions Zx Za Zb Ua Yb Va Zc)
   rw [List.take_length] at hf1
   refine ⟨mgL b1 ++ Rl, sA (sC (sC (List.Sublist.refl _))), q tr b1 σ1 r f G1 (g1.le (by exact Q37 hz)) d1 hf1⟩
  ·have hil : i < names.length := by exact Qek hi2 hie
   refine WC.for1 (Qhr (kvs := names.map fun z => (z, Value.bool true)) (k := names[i]) (v := .bool true) (pre := mgL b1) (by rw [List.length_map]) (mr (.tail _ (.tail _ (.head _)))) he1 (by simp [List.getElem?_eq_getElem hil]) fun tp key hkey => ?_)
   obtain ⟨tk, rfl⟩ := Value.isInt_shape hkey
   (ctx_mentions Yv)
   refine Qiz (pre := mgL b1) rfl ?_
   refine R.unp hh (items := #[.int names[i] tk, .bool true]) (n := 0) (mr (.tail _ (.head _))) rfl rfl ?_
   (ctx_mentions Yw Vc Yw Vc ZG Ua Xa Fa Va Ic Vb Zh)
   rw [List.length_map]
   have e1 := g1.e
   kcj_m
   obtain ⟨j, hj, ej⟩ := List.mem_iff_getElem.mp ((hf.mem _).mp (hU _ (List.getElem_mem hil)))
   kd_p1
   have hj1 : σ.order[j]? = some names[i] := by rw [List.getElem?_eq_getElem hj, ej]
   refine Qm8 G1 (hr'.less (by kd_p)) (Qaj (c := 65 * i) (cap.less (by exact Q36 hz hil)) g1) (by rw [e1.ord]; exact hj1) fun tu b2 σ2 u G2 g2 d2 => ?_
   have at2 := G2.at'
   have hs2 := G2.hs
   (ctx_mentions Vc Zb Ua Xa Yg Xi Va Zr Mb Va Vc Zb Ua Xa Fa Va Ic Yl Yd Vb Vb Zh)
   have g12 := g1.trans g2
   refine Qqu G2 (hr'.less (by kd_p)) (Qaj (c := 65 * i + 1) (cap.less (by exact Q35 hz hil)) g12) d2 (d1.ext g2.e) fun tr3 b3 σ3 r3 G3 g3 d3 => ?_
   (ctx_mentions Vc Zb Za Zu)
   refine WC.sublist (mgL b3 ++ (itm, itemF .none d (i + 1) names.length ep (.int names[i] tk) (.bool true)) :: (vw, itemsView d) :: (d, od) :: Rl) (sA (sB (sD))) ?_
   refine again (names.length - (i + 1)) _ _ (by exact Qdy hm2 hil) ⟨i + 1, b3, σ3, r3, tr3, _, _, _, _, _, _, rfl, by exact Qdg hil, G3, (g12.trans g3).le (by exact Qty), d3, fun a => ?_, rfl, rfl⟩
   rw [Bool.and_eq_true, hf1]
   have htk : ∀ x, x ∈ names.take (i + 1) ↔ x ∈ names.take i ∨ x = names[i] := fun x => by
    rw [List.take_add_one, List.getElem?_eq_getElem hil, List.mem_append]
    simp
   constructor
   ·rintro ⟨h1, h2⟩ j' ⟨x, hx, ho⟩
    rcases (htk x).mp hx with hx | rfl
    ·exact h2 j' ⟨x, hx, ho⟩
    ·rw [Qgf G ho hj1]; exact h1
   ·intro h
    exact ⟨h j ⟨_, (htk _).mpr (.inr rfl), hj1⟩, fun j' ⟨x, hx, ho⟩ => h j' ⟨x, (htk x).mpr (.inl hx), ho⟩⟩
 ·have hil : i < names.length := by exact Qek hi' hie
  obtain ⟨tx, hget⟩ := Qap hi (List.getElem?_eq_getElem hil)
  refine Qci (a := nl) (vs := vs) (n := n0) (pre := mgL b ++ [(d, od)]) (by rw [List.append_assoc]; rfl) (mr (.tail _ (.tail _ hm))) hli hget fun oi' li' => ?_
  rw [List.append_assoc]
  show WA Ψ2 _ _ _ _
  (ctx_mentions Zy Zz Vc Va Ze)
  refine Qot (pre := mgL b) (intKind_is _ _ _ _) rfl hd (by rw [List.length_map, List.length_take, Qae]; exact Q34 hz) fun od' hd' => ?_
  refine again (names.length - (i + 1)) _ _ (by exact Qdy hm' hil) ⟨i + 1, od', oi', _, rfl, by exact Qdg hil, ?_, li', rfl, rfl⟩
  have hn : names[i] ∉ names.take i := fun h => by
   obtain ⟨j, hj, e⟩ := List.mem_iff_getElem.mp h
   rw [List.getElem_take] at e
   have := (List.getElem_inj hnd).mp e
   rw [List.length_take] at hj
   exact Q33 hj this
  rw [Qj1 (by rw [Qgb, if_neg hn])] at hd'
  rw [List.take_add_one, List.getElem?_eq_getElem hil, List.map_append]
  exact hd'
end
end
section
noncomputable def fn424 : FnIn 424 := by
 refine' mkFn ?ok ?hb
 case ok => intro P; k_is
 case hb => exact rfl
@[reducible] noncomputable def N424 : Nm := ⟨["number"], ["isinstance", "int"]⟩
theorem Qvj : ScOk fn424.fd.scope.names N424.loc N424.glo := by
 refine Qah ?_
 kcf_m
theorem Qwq (P : Params) : FnOk (hK P) 424 fn424.fd fn424.body := ⟨⟨_, _, _, fn424.ok P⟩, by kcf_m, fn424.hb, rfl, rfl, rfl, rfl, rfl, by kcf_m⟩
noncomputable def fn434 : FnIn 434 := by
 refine' mkFn ?ok ?hb
 case ok => intro P; k_is
 case hb => exact rfl
@[reducible] noncomputable def N434 : Nm := ⟨["self", "u", "map_level", "d", "i", "v", "w", "n", "nv", "nw", "iv", "_", "iw"], ["abs"]⟩
theorem Qvi : ScOk fn434.fd.scope.names N434.loc N434.glo := by
 refine Qah ?_
 kcf_m
theorem Qwp (P : Params) : FnOk (hK P) 434 fn434.fd fn434.body := ⟨⟨_, _, _, fn434.ok P⟩, by kcf_m, fn434.hb, rfl, rfl, rfl, rfl, rfl, by kcf_m⟩
section
theorem Q69 (P : Params) : findIn (hK P) (.ref clsA) "_assert_int" = some (some (.ref 426)) := by k_is
theorem Qk8 (P : Params) : typeIn (hK P) (.ref 426) = some (.type "staticmethod") := by k_is
theorem Qnk (P : Params) : specialIn (hK P) (.ref 426) "__get__" = some (some (.builtin "staticmethod.__get__")) := by k_is
theorem Qj7 (P : Params) : takesIn (hK P) (.ref 426) = some false := by k_is
theorem Qnj (P : Params) : recIn (hK P) 426 "staticmethod" = some [.ref 424, .bool false] := by k_is
theorem Qps : ("_assert_int" : Str) ∉ an := by decide +kernel
theorem Qla : copiedNames.contains ("_assert_int" : Str) = false := by decide +kernel
theorem Qk9 (P : Params) : keepIn (hK P) (.ref 424) = true := by k_is
theorem Qc6 {n : Int} {tn : Tok} {Q : VQ} (hr : Room Ψ.A 2) (q : ∀ t, Q (.int n t) vals Rl) : WA Ψ (call (.ref 424) [.int n tn]) Q vals Rl := by
 refine Qaa (N' := N424) (Qwq _) Qvj hr (binds := [("number", .int n tn)]) (rest := []) (fun s X => .of_eq rfl) rfl [some (.int n tn)] rfl ?_
 intro Ψ' he hr'
 dsimp only [fn424, mkFn]
 (ctx_mentions Ua Ya Xi Fb Pa Yo Vb Yl Pa Zh)
 refine Qhw ?_
 (ctx_mentions Zr Mb Ua Yb Va Zc Zc)
 exact ⟨_, List.Sublist.refl _, q _⟩
theorem Qb5 {pl : Sem Bool} {args : List Expr} {Q : VQ} (G : Good W sa b σ) (h : argsOf Ψ args (fun vs vals l => WA Ψ (call (.ref 424) vs []) Q vals l) vals (mgL b ++ Rl)) : WA Ψ (getMethod (.ref sa) "_assert_int" pl) (methK Ψ args Q) vals (mgL b ++ Rl) := by
 have hs := G.hs
 subst hs
 exact Qhx (p := 426) inst_mg G.at' Qps (Qb1 _ _) (Qc4 _) (Q69 _) (Qk8 _) (Qnk _) (Qj7 _) Qla (Qnj _) (by decide) ⟨Qk9 _, h⟩
theorem Qpl {value slice : Expr} {u : Int} {t : Tok} {Q : VQ} (r : Rep W b σ) (hu : 0 < u) (hk : (σ.key u).isSome = true)
  (q : ∀ a t1 v2 v3 n dd sl, (a, (⟨.type "tuple", dd, .seq #[.int (σ.lev u) t1, v2, v3] n, sl⟩ : Obj)) ∈ mgL b ++ Rl → Q (.ref a) vals (mgL b ++ Rl))
  (hs : subscripted slice false (.ref b.sd) (.int u t) = operate [.ref b.sd, .int u t] (getItem (.ref b.sd) (.int u t)) := by with_unfolding_all rfl) : WA Ψ (subscriptTail value slice (.ref b.sd) (.int u t)) Q vals (mgL b ++ Rl) := by
 have e : iabs u = u := Qam hu
 have := Qc9 (Ψ := Ψ) (vals := vals) (value := value) (slice := slice) (t := t) (Q := Q) (R := Rl) r (u := u) (by rw [e]; exact hk) q (by rw [e]; exact hs)
 rw [e] at this
 exact this
noncomputable def Sc (σ : Sg) (L : List Int) (a0 : Asg) (kvs : List (Int × Value)) : Prop := ∀ x v, valueAt kvs x = some v → ∃ c t f, v = .int c t ∧ 0 < x ∧ Den σ x f ∧ c = (cnt (L.drop (posn L (σ.lev x))) f a0 : Nat)
theorem Qjs {L : List Int} (hs : L.Pairwise (· < ·)) {f : BF} {d : Int} {p : Nat} (hp : p ≤ posn L d) (hf : ∀ j, j < d → FreeOf f j) (a0 : Asg) : cnt (L.drop p) f a0 = 2 ^ (posn L d - p) * cnt (L.drop (posn L d)) f a0 := by
 have hn : L.Nodup := hs.imp fun h => Int.ne_of_lt h
 have e : L.drop p = (L.drop p).take (posn L d - p) ++ L.drop (posn L d) := by
  conv => lhs; rw [← List.take_append_drop (posn L d - p) (L.drop p)]
  rw [List.drop_drop, show p + (posn L d - p) = posn L d by exact Qtx hp]
 have hl : ((L.drop p).take (posn L d - p)).length = posn L d - p := by
  have := Qey L d
  rw [List.length_take, List.length_drop]; exact Q32 this
 rw [e, Ql0 _ _ f (by rw [← e]; exact hn.sublist (List.drop_sublist _ _)) (fun j hj => hf j (Qk2 hs (l := d) ?_)), hl]
 rw [List.take_drop] at hj
 have := List.mem_of_mem_drop hj
 rwa [show p + (posn L d - p) = posn L d by exact Qtx hp] at this
theorem Qnf {L : List Int} {σ : Sg} (hs : L.Pairwise (· < ·)) (ok : Ok σ) {i' v x : Int} {f0 f1 : BF} {sl : Nat} (hi : i' ∈ L) (hv : Vd σ (i' + 1) v) (hx : Vd σ (i' + 1) x) (d0 : Den σ v f0) (d1 : Den σ x f1) (a0 : Asg) :
  (cnt (L.drop (posn L (σ.lev v))) f0 a0 : Int) * 2 ^ ((posn L (σ.lev v) + sl : Int) - (posn L i' + sl) - 1).toNat + (cnt (L.drop (posn L (σ.lev x))) f1 a0 : Int) * 2 ^ ((posn L (σ.lev x) + sl : Int) - (posn L i' + sl) - 1).toNat
   = (cnt (L.drop (posn L i')) (fun a => if a i' then f1 a else f0 a) a0 : Nat) := by
 kcj_m
 obtain ⟨idx, hix, e⟩ := List.mem_iff_getElem.mp hi
 kd_p1
 have hp : posn L i' = idx := Qem hs (by rw [List.getElem?_eq_getElem hix, e])
 have hn : L.Nodup := hs.imp fun h => Int.ne_of_lt h
 have hd : L.drop idx = i' :: L.drop (idx + 1) := by rw [List.drop_eq_getElem_cons hix, e]
 have key : ∀ {u : Int} {f : BF}, Vd σ (i' + 1) u → Den σ u f → (cnt (L.drop (posn L (σ.lev u))) f a0 : Int) * 2 ^ ((posn L (σ.lev u) + sl : Int) - (posn L i' + sl) - 1).toNat = (cnt (L.drop (idx + 1)) f a0 : Nat) := fun {u f} hu du => by
  have hlev := Qbr ok hu
  have hlt : posn L i' < posn L (σ.lev u) := Qia hs hi (by exact Qqr hlev.1)
  have := Qjs hs (p := idx + 1) (d := σ.lev u) (f := f) (by exact Q31 hp hlt) (fun j hj => Qe2 fun hdp => by
   have := (((Qbp ok du).mpr hdp).bound ok hlev.2.1).1
   exact Qxi hj this) a0
  rw [this, show ((posn L (σ.lev u) + sl : Int) - (posn L i' + sl) - 1).toNat = posn L (σ.lev u) - (idx + 1) by exact Q30 hp]
  push_cast
  rw [Int.mul_comm]
 rw [key hv d0, key hx d1, hp, hd, Qqa i' _ f0 f1 (fun a b => d0.supp1 ok hv a b) (fun a b => d1.supp1 ok hx a b) (by
  have := hn.sublist (List.drop_sublist idx L)
  rw [hd, List.nodup_cons] at this
  exact this.1)]
 push_cast
 rfl
theorem Qli {L : List Int} {k v : Int} (hnv : σ.nv = 5) (hv : Vd σ k v) (hR : ∀ j, Rch σ v j → j ∈ L) : σ.lev v ∈ L ∨ σ.lev v = 5 := by
 rcases hv with ⟨e, _⟩ | ⟨⟨i, y, z⟩, e, _⟩
 ·right; unfold Sg.lev; rw [if_pos e, hnv]; rfl
 ·left
  have h1 : iabs v ≠ 1 := fun q => by rw [q, Qcc] at e; cases e
  unfold Sg.lev; rw [if_neg h1, e]
  exact hR _ (.here e)
theorem allInt (k : Int) (t : Tok) : (allKind W.prog W.w).is (some k) (.int k t) = true := by simp [allKind, isAll]
theorem allStr (t : Tok) : (allKind W.prog W.w).is none (.str "all" t) = true := by simp [allKind, isAll]
theorem Qrp {L : List Int} (hs : L.Pairwise (· < ·)) (h5 : ∀ l ∈ L, 0 ≤ l ∧ l < 5) {sl : Nat} (hsl : sl ≤ 5) {ML : List (Option Int × Value)} {mo : Obj} {ma da : Addr} (hmo : mo.IsDictOf (allKind W.prog W.w) ML)
  (hML : ∀ l, l ∈ L ∨ l = 5 → ∃ t, valueAt ML (some l) = some (.int (posn L l + sl) t)) (hMa : ∃ t, valueAt ML none = some (.int (L.length + sl) t)) (hlen : L.length ≤ 5) (a0 : Asg) (n : Nat) :
  ∀ (N : Nm) (Ψ : Frm hK N W) (vals : Vals) (co : Obj) (kvs : List (Int × Value)) (f : BF) (k u : Int) (tu : Tok) (pos : List Value) (kw : List (Str × Value)) (Q : VQ),
  (∀ s : Shared, (hK W.w.params).In s.heap → BindsTo s fn434.fd ⟨pos, kw⟩ [("self", .ref sa), ("u", .int u tu), ("map_level", .ref ma), ("d", .ref da)]) → Good W sa b σ → σ.nv = 5 → Room Ψ.A (n + 4) → 0 ≤ k → ((σ.nv : Int) - k).toNat ≤ n → Vd σ k u → Den σ u f → (∀ j, Rch σ u j → j ∈ L) → (ma, mo) ∈ Rl → co.IsDictOf (intKind W.prog W.w) kvs → Sc σ L a0 kvs → kvs.length + 2 ^ n ≤ 5000 →
  (∀ t' co' kvs', co'.IsDictOf (intKind W.prog W.w) kvs' → Sc σ L a0 kvs' → kvs'.length + 1 ≤ kvs.length + 2 ^ n → Q (.int (cnt (L.drop (posn L (σ.lev u))) f a0 : Nat) t') vals (mgL b ++ (da, co') :: Rl)) →
  WA Ψ (call (.ref 434) pos kw) Q vals (mgL b ++ (da, co) :: Rl) := by
 induction n using Nat.strongRecOn with
 | ind n ih =>
  intro N Ψ vals co kvs f k u tu pos kw Q hbi G hnv hr hk0 hn hu du hR hma hco hsc hz q
  have hp := Qcb n
  refine Qaa (N' := N434) (Qwp _) Qvi hr (binds := [("self", .ref sa), ("u", .int u tu), ("map_level", .ref ma), ("d", .ref da)]) (rest := ["i", "v", "w", "n", "nv", "nw", "iv", "_", "iw"]) hbi rfl [some (.ref sa), some (.int u tu), some (.ref ma), some (.ref da), none, none, none, none, none, none, none, none, none] rfl ?_
  intro Ψ' he hr'
  have at0 := G.at'
  have hs0 := G.hs
  have ok := G.ok
  have hend : posn L 5 = L.length := Qjf fun x hx => (h5 x hx).2
  dsimp only [fn434, mkFn]
  (ctx_mentions Ua Ya Xf Va Yc Zj Zr)
  refine Qak (fun h0 => ?_) fun h0 => ?_
  ·have h0' : u = 1 := by simpa using h0
   subst h0'
   (ctx_mentions Ua Yb Yc Zc Zc)
   refine ⟨_, List.Sublist.refl _, ?_⟩
   have e : (cnt (L.drop (posn L (σ.lev 1))) f a0 : Nat) = 1 := by
    have : σ.lev 1 = 5 := by show (if iabs 1 = 1 then (σ.nv : Int) else _) = 5; rw [if_pos (by decide), hnv]; rfl
    rw [this, hend, List.drop_length, du.one_inv]; rfl
   have := q ‹Tok› co kvs hco hsc (by exact Qis hp)
   rw [e] at this
   exact this
  have h0' : u ≠ 1 := by simpa using h0
  (ctx_mentions Za Zb Ua Ya Xf Va Yf Yc Ys Zj Zr)
  refine Qak (fun h1 => ?_) fun h1 => ?_
  ·have h1' : u = -1 := by simpa using h1
   subst h1'
   (ctx_mentions Ua Yb Yc Zc Zc)
   refine ⟨_, List.Sublist.refl _, ?_⟩
   have e : (cnt (L.drop (posn L (σ.lev (-1)))) f a0 : Nat) = 0 := by
    have : σ.lev (-1) = 5 := by show (if iabs (-1) = 1 then (σ.nv : Int) else _) = 5; rw [if_pos (by decide), hnv]; rfl
    obtain ⟨g, dg, rfl⟩ := Qav (u := 1) (by decide) du
    rw [this, hend, List.drop_length, dg.one_inv]; rfl
   have := q ‹Tok› co kvs hco hsc (by exact Qis hp)
   rw [e] at this
   exact this
  have h1' : u ≠ -1 := by simpa using h1
  have ha1 : iabs u ≠ 1 := fun e => by rcases Qbm u with e' | e' <;> omega
  kcj_m
  obtain ⟨i', v, x, hnd, hle⟩ : ∃ i' v x, σ.node (iabs u) = some (i', v, x) ∧ k ≤ i' := by
   rcases hu.cases with (e1 | e1) | h
   ·exact absurd e1 h0'
   ·exact absurd e1 h1'
   ·exact h
  have o := ok.nd _ _ _ _ hnd
  have hv0 := o.2.2.2.2.1.ne0
  have hx0 := o.2.2.2.2.2.ne0
  have hiL : i' ∈ L := hR _ (.here hnd)
  have hlev : σ.lev u = i' := by unfold Sg.lev; rw [if_neg ha1, hnd]
  obtain ⟨f0, f1, d0, d1, ef⟩ : ∃ f0 f1, Den σ v f0 ∧ Den σ x f1 ∧ Den σ (iabs u) (fun a => if a i' then f1 a else f0 a) := by
   obtain ⟨f0, f1, d0, d1, c, _⟩ := du.inv_abs hnd
   exact ⟨f0, f1, d0, d1, .node hnd d0 d1⟩
  kd_p1
  (ctx_mentions Za Zb Ua)
  refine Mine.L.asT rfl rfl ?_; intro _
  (ctx_mentions Yk Xj Va Ga Fb Pa Yo Vb Zh Yu)
  refine Qcx G.r hnd fun a t1 t2 t3 nq dd sl' hm => ?_
  refine R.unp hr'.hh hm rfl rfl ?_
  (ctx_mentions Yw Vc Yw Vc Yw Vc ZG Zb Ua Ya Yh Xi Va Zs Ma Za Zb Ua Ya Yh Xi Va Zs Ma Za Zb Ua Xa Yk Va Va)
  obtain ⟨ti, hti⟩ := hML i' (.inl hiL)
  have hmm : ∀ {x : Addr × Obj}, (ma, mo) ∈ mgL b ++ x :: Rl := mr (.tail _ hma)
  have hdm : ∀ {o : Obj}, (da, o) ∈ mgL b ++ (da, o) :: Rl := mr (.head _)
  refine dTail hmm hmo (Qaw (allInt i' t1) hmm hmo hti ?_) (by with_unfolding_all rfl)
  (ctx_mentions Vc Zb Ua Ya Xf Fb Pa Yo Vb Zh Yu Va)
  have hpos : 0 < iabs u := by have := Qar hnd; exact Qpg this
  have hlp : σ.lev (iabs u) = i' := by unfold Sg.lev; rw [Qb3, if_neg ha1, hnd]
  have hpl := Qey L i'
  obtain ⟨fp, hfp⟩ : ∃ fp, fp = fun a : Asg => if a i' then f1 a else f0 a := ⟨_, rfl⟩
  rw [← hfp] at ef
  have hup : 0 < u → fp = f := fun h => by rw [Qam h] at ef; exact ef.fn du
  have hdn : u < 0 → (2 : Int) ^ ((L.length + sl : Int) - (posn L i' + sl)).toNat - (cnt (L.drop (posn L i')) fp a0 : Nat) = (cnt (L.drop (posn L i')) f a0 : Nat) := fun h => by
   have e : u = -(iabs u) := by unfold iabs; rw [if_pos h]; exact Qtw
   rw [e] at du
   obtain ⟨g, dg, rfl⟩ := Qav hpos du
   rw [dg.fn ef]
   have := Qp9 (L.drop (posn L i')) fp a0
   rw [List.length_drop] at this
   rw [show ((L.length + sl : Int) - (posn L i' + sl)).toNat = L.length - posn L i' by exact Q3z]
   have e2 : ((2 ^ (L.length - posn L i') : Nat) : Int) = (2 : Int) ^ (L.length - posn L i') := by push_cast; rfl
   rw [← e2, ← this]
   push_cast
   exact Q3y
  obtain ⟨tall, htall⟩ := hMa
  rw [hlev] at q
  refine Qh0 (intKind_is _ _ _ _) hdm hco ?_
  cases hat : valueAt kvs (iabs u) with
  | some y =>
   obtain ⟨c, tc, g, rfl, _, dg, hc⟩ := hsc _ _ hat
   rw [hlp, dg.fn ef] at hc
   (ctx_mentions Zr Mb Ua Xa Yk Va Fb Pa Yo Vb Zh Yu)
   refine dTail hdm hco (Qaw (intKind_is _ _ _ _) hdm hco hat ?_) (by with_unfolding_all rfl)
   (ctx_mentions Vc Zb Ua Ya Xf Va Yc Zl Zr)
   refine Qak (fun h2 => ?_) fun h2 => ?_
   ·have h2' : u < 0 := by simpa using h2
    (ctx_mentions Ua Xa Ye Ye Yc Ye Yk Va Yd)
    refine dTail hmm hmo (Qaw (allStr _) hmm hmo htall ?_) (by with_unfolding_all rfl)
    (ctx_mentions Va Yr)
    refine Qa8 (by exact Q3x hpl) (by exact Qtv hlen) fun _ => ?_
    (ctx_mentions Va Yr Vc Zb Za Zb Ua Yb Fa Va)
    refine Qb5 G ?_
    (ctx_mentions Vb Zh)
    refine Qc6 (hr'.less (by exact Qtu)) fun t => ?_
    (ctx_mentions Zc Zc)
    refine ⟨_, List.Sublist.refl _, ?_⟩
    rw [hc, hdn h2']
    exact q t co kvs hco hsc (by exact Qis hp)
   ·have h2' : 0 < u := by
     have : ¬ u < 0 := by simpa using h2
     have := hu.ne0
     exact Qyj (by assumption) this
    (ctx_mentions Za Zb Ua Yb Fa Va)
    refine Qb5 G ?_
    (ctx_mentions Vb Zh)
    refine Qc6 (hr'.less (by exact Qtu)) fun t => ?_
    (ctx_mentions Zc Zc)
    refine ⟨_, List.Sublist.refl _, ?_⟩
    rw [hc, hup h2']
    exact q t co kvs hco hsc (by exact Qis hp)
  | none =>
   obtain ⟨m1, rfl⟩ : ∃ m1, n = m1 + 1 := ⟨n - 1, by have := o.2.1; exact Qsj hn hle this⟩
   have h2p : 2 ^ (m1 + 1) = 2 * 2 ^ m1 := by rw [Nat.pow_succ]; exact Qrf
   have hp1 := Qcb m1
   have hrm : Room Ψ'.A (m1 + 4) := hr'.less (by exact Qt4)
   have hms : ((σ.nv : Int) - (i' + 1)).toNat ≤ m1 := by exact Qrd hle hn
   (ctx_mentions Zr Ma Za Zb Ua Xa Fa Va Ic Vb Vb Vb Zh)
   refine ih m1 (by exact Ql7) _ Ψ' _ co kvs f0 (i' + 1) v _ _ _ _ (fun s _ => .of_eq rfl) G hnv hrm (by exact Qkk o.1) hms o.2.2.2.2.1 d0 (fun j hj => hR j (.lo hnd hj)) hma hco hsc (by exact Q3w hz h2p) fun tn1 co1 kvs1 hco1 hsc1 hl1 => ?_
   (ctx_mentions Vc Zb Ua Xa Fa Va Ic Vb Vb Vb Zh)
   refine ih m1 (by exact Ql7) _ Ψ' _ co1 kvs1 f1 (i' + 1) x _ _ _ _ (fun s _ => .of_eq rfl) G hnv hrm (by exact Qkk o.1) hms o.2.2.2.2.2 d1 (fun j hj => hR j (.hi hnd hj)) hma hco1 hsc1 (by exact Q3v hz h2p hl1) fun tn2 co2 kvs2 hco2 hsc2 hl2 => ?_
   (ctx_mentions Vc Zb Ua)
   refine Mine.L.asT rfl rfl ?_; intro _
   (ctx_mentions Yk Xj Va Ga Fb Pa Yo Vb Zh Yu)
   refine Qc9 G.r o.2.2.2.2.1.key fun a4 t4 v42 v43 n4 dd4 sl4 hm4 => ?_
   refine R.unp hr'.hh hm4 rfl rfl ?_
   (ctx_mentions Yw Vc Yw Vc Yw Vc ZG Zb Ua)
   refine Mine.L.asT rfl rfl ?_; intro _
   (ctx_mentions Yk Xj Va Ga Va)
   refine Qpl G.r o.2.2.1 (by have := o.2.2.2.2.2.key; rwa [Qam o.2.2.1] at this) fun a5 t5 v52 v53 n5 dd5 sl5 hm5 => ?_
   refine R.unp hr'.hh hm5 rfl rfl ?_
   (ctx_mentions Yw Vc Yw Vc Yw Vc ZG Zb Ua Xa Yk Va Va)
   have hlv := Qli hnv o.2.2.2.2.1 fun j hj => hR j (.lo hnd hj)
   have hlx := Qli hnv o.2.2.2.2.2 fun j hj => hR j (.hi hnd hj)
   obtain ⟨tv, htv⟩ := hML _ hlv
   obtain ⟨tw, htw⟩ := hML _ hlx
   refine dTail hmm hmo (Qaw (allInt _ t4) hmm hmo htv ?_) (by with_unfolding_all rfl)
   (ctx_mentions Vc Zb Ua Xa Yk Va Va)
   refine dTail hmm hmo (Qaw (allInt _ t5) hmm hmo htw ?_) (by with_unfolding_all rfl)
   (ctx_mentions Vc Zb Ua Xa Fa Va)
   have gv : posn L i' < posn L (σ.lev v) := Qia hs hiL (by have := (Qbr ok o.2.2.2.2.1).1; exact Qqr this)
   have gx : posn L i' < posn L (σ.lev x) := Qia hs hiL (by have := (Qbr ok o.2.2.2.2.2).1; exact Qqr this)
   have lv := Qey L (σ.lev v)
   have lx := Qey L (σ.lev x)
   have cb : ∀ (p : Nat) (g : BF), (cnt (L.drop p) g a0 : Nat) ≤ 32 := fun p g => Nat.le_trans (Qpd _ _ _) (Nat.le_trans (Nat.pow_le_pow_right (by decide) (by rw [List.length_drop]; exact Qqq hlen : (L.drop p).length ≤ 5)) (by decide))
   have ST := Qnf (sl := sl) hs ok hiL o.2.2.2.2.1 o.2.2.2.2.2 d0 d1 a0
   rw [← hfp] at ST
   refine Qb5 G ?_
   (ctx_mentions Yl Ye Ye Va Ye Yc Ye Ye Va Va Yr Yc Yr)
   refine Qa8 (by exact Qtt gv) (by exact Qts hlen lv) fun _ => ?_
   refine Qb7 (IntMulOk.of_left (intBits_le_64 (by have := cb (posn L (σ.lev v)) f0; exact Qqp) (by have := cb (posn L (σ.lev v)) f0; exact Qqo this))) fun _ => ?_
   (ctx_mentions Ye Va Ye Yc Ye Ye Va Va Yr Yc Yr)
   refine Qa8 (by exact Qtt gx) (by exact Qts hlen lx) fun _ => ?_
   refine Qb7 (IntMulOk.of_left (intBits_le_64 (by have := cb (posn L (σ.lev x)) f1; exact Qqp) (by have := cb (posn L (σ.lev x)) f1; exact Qqo this))) fun _ => ?_
   (ctx_mentions Yq Zh)
   rw [ST]
   refine Qc6 (hr'.less (by exact Qqn)) fun tn => ?_
   (ctx_mentions Vc Zb Ua Xc Va Va Fb Pa Yo Vb Zh Yu)
   refine Qbh (pre := mgL b) (post := Rl) (intKind_is _ _ _ _) rfl hco2 (by rw [Qae]; exact Q3u hz h2p hl1 hl2) fun co3 hco3 => ?_
   have hsc3 : Sc σ L a0 (stored kvs2 (iabs u) (.int (cnt (L.drop (posn L i')) fp a0 : Nat) tn)) := fun y z hz => by
    rw [valueAt_stored] at hz
    split at hz
    ·rename_i e
     cases hz
     refine ⟨_, tn, fp, rfl, by rw [e]; exact hpos, by rw [e]; exact ef, by rw [e, hlp]⟩
    ·exact hsc2 y z hz
   have hl3 : (stored kvs2 (iabs u) (.int (cnt (L.drop (posn L i')) fp a0 : Nat) tn)).length + 1 ≤ kvs.length + 2 ^ (m1 + 1) := by
    have := Qa6 kvs2 (iabs u) (.int (cnt (L.drop (posn L i')) fp a0 : Nat) tn)
    exact Qqt h2p hl1 hl2 this
   (ctx_mentions Zb Ua Ya Xf Va Yc Zl Zr)
   refine Qak (fun h2 => ?_) fun h2 => ?_
   ·have h2' : u < 0 := by simpa using h2
    (ctx_mentions Ua Xa Ye Ye Yc Ye Yk Va Yd)
    refine dTail hmm hmo (Qaw (allStr _) hmm hmo htall ?_) (by with_unfolding_all rfl)
    (ctx_mentions Va Yr)
    refine Qa8 (by exact Q3t gx lx) (by exact Qtv hlen) fun _ => ?_
    (ctx_mentions Va Yr Vc Zb Za Zb Ua Yb Fa Va)
    refine Qb5 G ?_
    (ctx_mentions Vb Zh)
    refine Qc6 (hr'.less (by exact Qqn)) fun t => ?_
    (ctx_mentions Zc)
    refine ⟨_, List.Sublist.refl _, ?_⟩
    rw [hdn h2']
    exact q t co3 _ hco3 hsc3 hl3
   ·have h2' : 0 < u := by
     have : ¬ u < 0 := by simpa using h2
     have := hu.ne0
     exact Qyj (by assumption) this
    (ctx_mentions Za Zb Ua Yb Fa Va)
    refine Qb5 G ?_
    (ctx_mentions Vb Zh)
    refine Qc6 (hr'.less (by exact Qqn)) fun t => ?_
    (ctx_mentions Zc)
    refine ⟨_, List.Sublist.refl _, ?_⟩
    rw [hup h2']
    rw [hup h2'] at hsc3 hco3 hl3
    exact q t co3 _ hco3 hsc3 hl3
theorem Qfw {L M : List Int} (hn : L.Nodup) (hM : M.Nodup) (hLM : ∀ j ∈ L, j ∈ M) : M.Perm (M.filter (fun j => decide (j ∉ L)) ++ L) := by
 rw [List.perm_iff_count]
 intro j
 have c1 : M.count j ≤ 1 := List.nodup_iff_count.mp hM j
 have c2 : L.count j ≤ 1 := List.nodup_iff_count.mp hn j
 rw [List.count_append]
 by_cases hj : j ∈ L
 ·have e1 : M.count j = 1 := by have := List.count_pos_iff.mpr (hLM j hj); exact Qtr c1 this
  have e2 : L.count j = 1 := by have := List.count_pos_iff.mpr hj; exact Qtr c2 this
  have e3 : (M.filter (fun j => decide (j ∉ L))).count j = 0 := List.count_eq_zero.mpr fun h => by
   have := (List.mem_filter.mp h).2
   simp [hj] at this
  exact Q3s e1 e2 e3
 ·have e2 : L.count j = 0 := List.count_eq_zero.mpr hj
  rw [e2, List.count_filter (by simp [hj])]; exact Q3r
theorem Qpy {L M : List Int} (hn : L.Nodup) (hM : M.Nodup) (hLM : ∀ j ∈ L, j ∈ M) : L.length ≤ M.length := by
 have := (Qfw hn hM hLM).length_eq
 rw [List.length_append] at this; exact Q3q this
theorem Qlz {L M : List Int} (hs : L.Pairwise (· < ·)) (hM : M.Nodup) (hLM : ∀ j ∈ L, j ∈ M) {f : BF} (hf : ∀ j, Dep f j → j ∈ L) {d : Int} (hd : ∀ j, j < d → FreeOf f j) (a0 : Asg) :
  (cnt (L.drop (posn L d)) f a0 : Int) * 2 ^ ((posn L d + (M.length - L.length : Nat) : Int)).toNat = (cnt M f a0 : Nat) := by
 have hn : L.Nodup := hs.imp fun h => Int.ne_of_lt h
 have h1 := Qjs hs (p := 0) (Nat.zero_le _) hd a0
 rw [List.drop_zero, Nat.sub_zero] at h1
 have hp := Qfw hn hM hLM
 have hl : (M.filter (fun j => decide (j ∉ L))).length = M.length - L.length := by
  have := hp.length_eq
  rw [List.length_append] at this; exact Q3p this
 have h2 : cnt M f a0 = 2 ^ (M.length - L.length) * cnt L f a0 := by
  rw [Qn3 hp f hM, Ql0 _ _ f (hp.nodup_iff.mp hM) (fun j hj => Qe2 fun hdp => ?_), hl]
  have := (List.mem_filter.mp hj).2
  simp [hf j hdp] at this
 rw [h2, h1, show ((posn L d + (M.length - L.length : Nat) : Int)).toNat = (M.length - L.length) + posn L d by exact Q3o]
 push_cast
 rw [Int.pow_add, Int.mul_comm, Int.mul_assoc]
end
end
section
noncomputable def fn164 : FnIn 164 := by
 refine' mkFn ?ok ?hb
 case ok => intro P; k_is
 case hb => exact rfl
@[reducible] noncomputable def N164 : Nm := ⟨["self", "var"], []⟩
theorem Qvu : ScOk fn164.fd.scope.names N164.loc N164.glo := by
 refine Qah ?_
 kcf_m
theorem Qw4 (P : Params) : FnOk (hK P) 164 fn164.fd fn164.body := ⟨⟨_, _, _, fn164.ok P⟩, by kcf_m, fn164.hb, rfl, rfl, rfl, rfl, rfl, by kcf_m⟩
noncomputable def fn417 : FnIn 417 := by
 refine' mkFn ?ok ?hb
 case ok => intro P; k_is
 case hb => exact rfl
@[reducible] noncomputable def N417 : Nm := ⟨["u", "nvars", "n", "levels", "k", "slack", "map_level", "new", "old", "_", "r", "i", "n_models"], ["abs", "len", "dict", "enumerate", "sorted"]⟩
theorem sc417 : ScOk fn417.fd.scope.names N417.loc N417.glo := by
 refine Qah ?_
 kcf_m
theorem Qwr (P : Params) : FnOkC (hK P) 417 fn417.fd fn417.body := ⟨⟨_, _, _, fn417.ok P⟩, by kcf_m, fn417.hb, rfl, rfl, rfl, rfl, rfl, rfl⟩
theorem ck417 : fn417.fd.scope.names.lookup ("self" : Str) = some NameKind.cell := by kcf_m
theorem Qn6 (n : Nat) : cellsFrom n fn417.fd.scope.names [] = [(("self" : Str), n)] := by kcf_m
section
theorem Qv6 {x : Int} {j : Nat} {tx : Tok} {Q : VQ} (G : Good W sa b σ) (hr : Room Ψ.A 2) (hx : σ.order[j]? = some x) (q : ∀ t, Q (.int j t) vals (mgL b ++ Rl)) :
  WA Ψ (call (.ref 164) [.ref sa, .int x tx]) Q vals (mgL b ++ Rl) := by
 refine Qaa (N' := N164) (Qw4 _) Qvu hr (binds := [("self", .ref sa), ("var", .int x tx)]) (rest := []) (fun s X => .of_eq rfl) rfl [some (.ref sa), some (.int x tx)] rfl ?_
 intro Ψ' he hr'
 have at0 := G.at'
 have hs := G.hs
 obtain ⟨t, ht⟩ := G.r.v2 j x hx
 dsimp only [fn164, mkFn]
 (ctx_mentions Ua Ya Xf Va Xj Va Ga)
 refine Qa9 (intKind_is _ _ _ _) Qbv G.r.v1 ?_
 rw [ht]
 (ctx_mentions Zr Ma Za Zb Ua Yb Yk Xj Va Ga Va)
 refine dTail Qbv G.r.v1 (Qaw (intKind_is _ _ _ _) Qbv G.r.v1 ht ?_) (by with_unfolding_all rfl)
 (ctx_mentions Zc)
 exact ⟨_, List.Sublist.refl _, q t⟩
theorem Qrw : ∀ led, ∀ s ∈ states U2 U2 led, s.2.Nodup := by decide +kernel
theorem Qp7 {u : Int} {tu tn : Tok} {f : BF} {Fl : List Int} {Q : VQ} (G : Good W sa b σ) (hr : Room Ψ.A 14) (hf : Full σ) (du : Den σ u f) (hM : Fl.Nodup) (hdep : ∀ j, Dep f j → j ∈ Fl) (hMl : Fl.length ≤ 5) (a0 : Asg)
  (q : ∀ t, Q (.int (cnt Fl f a0 : Nat) t) vals (mgL b ++ Rl)) :
  WA Ψ (call (.ref 417) [.ref sa, .int u tu, .int Fl.length tn]) Q vals (mgL b ++ Rl) := by
 refine Qcl (N' := N417) (Qwr _) sc417 hr (binds := [("self", .ref sa), ("u", .int u tu), ("nvars", .int Fl.length tn)]) (fun s X => binds_K X rfl (by k_is) rfl rfl rfl) (fun n x hx => ?_) (by rw [Qn6]; simp) (v0 := [some (.int u tu), some (.int Fl.length tn), none, none, none, none, none, none, none, none, none, none, none]) ?_ ?_
 ·rcases List.mem_cons.mp hx with rfl | hx
  ·exact .inr ⟨ck417, by rw [Qn6]; rfl⟩
  ·rcases List.mem_cons.mp hx with rfl | hx
   ·exact .inl (sc417.loc _ (.head _)).1
   ·rcases List.mem_cons.mp hx with rfl | hx
    ·exact .inl (sc417.loc _ (.tail _ (.head _))).1
    ·cases hx
 ·rw [Qc5 ck417, Qbt (sc417.loc _ (.head _)).1, Qbt (sc417.loc _ (.tail _ (.head _))).1]
  funext x
  by_cases h1 : x = ("u" : Str)
  ·subst h1; kcf_m
  ·by_cases h2 : x = ("nvars" : Str)
   ·subst h2; kcf_m
   ·simp only [bindL, fr, if_neg h1, if_neg h2]
    (repeat' split) <;> rfl
 intro Ψ' cells he hr' hc
 rw [Qn6] at hc
 obtain ⟨oc, rfl, hoc⟩ := CellsAre.one hc
 have hocv : bindC (fun x => fn417.fd.scope.names.lookup x) [("self", .ref sa), ("u", .int u tu), ("nvars", .int Fl.length tn)] (fun _ => none) "self" = some (.ref sa) := by
  kcf_m
 rw [hocv] at hoc
 have at0 := G.at'
 have hs := G.hs
 have ok := G.ok
 have hh : Ψ'.A.handled = none := hr'.hh
 have hnv : σ.nv = 5 := hf.len
 have ku := (du.vd ok).abs.key
 dsimp only [fn417, mkFn]
 rw [List.append_assoc]
 have hck : Ψ'.env.kindOf "self" = some .cell := by rw [he]; exact ck417
 have hlk : Ψ'.env.cells.lookup ("self" : Str) = some (Ψ'.L + 1) := by rw [he]; show (cellsFrom (Ψ'.L + 1) fn417.fd.scope.names []).lookup ("self" : Str) = _; rw [Qn6]; rfl
 (ctx_mentions Ua Xa Va Vc Zb Ua Ya Xf Fb Pa Yo Vb Zh Yu)
 refine Qao Ψ'.e.kind hck hlk (o := oc) (mr (.head _)) hoc (by decide) ?_
 refine Qbe G (hr'.less (by kd_p)) ?_
 rw [ku]
 (ctx_mentions Zr Ma Za Zb Ua)
 refine Qow (cl := [("self", Ψ'.L + 1)]) (by rw [he]; rfl) (by rw [he]; rfl) rfl (by decide) (by decide) (by rw [he]; exact Qah (by kcf_m)) ?_ (by intro _; with_unfolding_all rfl)
 (ctx_mentions Fa)
 refine Qao Ψ'.e.kind hck hlk (o := oc) (mr (.head _)) hoc (by decide) ?_
 (ctx_mentions Ic Vb Zh)
 refine Qnd G (hr'.less (by kd_p)) hf du fun s1 o1 t1 k1 F1 hk1 => ?_
 kcj_m
 obtain ⟨es, ep, SW, hI2, hen⟩ := F1.walk (Qpb (!(byT W.w)))
 obtain ⟨xs, hxs, hpx⟩ := Qds ((Qb2 W.w s1 es ep).symm.map (·.2)) hI2
 kd_p1
 have hxn : xs.length = es.size := by rw [hpx.length_eq, hen]
 have hosz := Qbb W.w s1 es ep
 have hel : ∀ i (hi : i < es.size), ∃ e t, (ordOf W.w s1 es ep)[i]? = some e ∧ e.2 = .int (xs[i]'(by exact Qdx hxn hi)) t := fun i hi => by
  kcj_m
  obtain ⟨t, ht⟩ := Qap hxs (List.getElem?_eq_getElem (by exact Qdx hxn hi : i < xs.length))
  rw [List.getElem?_map, Array.getElem?_toList] at ht
  obtain ⟨e, he', ht'⟩ := Option.map_eq_some_iff.mp ht
  kd_p1
  exact ⟨e, t, he', ht'⟩
 refine Qdh SW (mr (.head _)) fun it2 => ?_
 refine Qd8 fun d3 => ?_
 intro Ψ2 he2 ha2
 have hr2 : Room Ψ2.A 12 := by rw [ha2]; exact hr'.less (by kd_p)
 refine ⟨?_, Qby (es := es) (mr (.tail _ (.head _))) ⟨rfl, rfl, rfl⟩⟩
 let J : Nat → Vals → Led → Prop := fun m vals' l' => Ex5 fun (i : Nat) (o3 : Obj) (t3 : SetTable) (k3 : List Int) (ov : Option Value) => An6 (m = es.size - i) (i ≤ es.size) (SetF W.w U2 U2 o3 t3 k3) ((∀ z, z ∈ k3 ↔ ∃ y, y ∈ xs.take i ∧ ∃ j : Nat, σ.order[j]? = some y ∧ z = j)) (vals' = [ov]) (l' = mgL b ++ (d3, o3) :: (it2, setItObj s1 (slotW W.w t1 i) i es.size ep) :: (s1, o1) :: ([(Ψ'.L + 1, oc)] ++ Rl))
 refine WC.inv J ?_ es.size ⟨0, freshSet W.w, _, [], none, rfl, Nat.zero_le _, SetF.fresh, fun z => by simp, rfl, rfl⟩
 rintro m _ _ ⟨i, o3, t3, k3, ov, hm', hi', I3, hk3, rfl, rfl⟩ again
 refine Mine.WC.letV ?_; intro vv
 refine Qgs ?_
 by_cases hie : i = es.size
 ·subst hie
  refine Qch (o := o1) (pre := mgL b ++ [(d3, o3)]) (by rw [ha2]; exact hh) SW (by rw [List.append_assoc]; rfl) (by simp) ?_
  rw [List.append_assoc]
  refine ⟨mgL b ++ (d3, o3) :: ([(Ψ'.L + 1, oc)] ++ Rl), _, sA (sB (sC (List.Sublist.refl _))), by repeat constructor, rfl, ?_⟩
  rw [List.take_of_length_le (by exact Qgr hxn)] at hk3
  have hkd : ∀ z, z ∈ k3 ↔ Dep f z := fun z => by
   rw [hk3]
   constructor
   ·rintro ⟨y, hy, j, hj, rfl⟩
    obtain ⟨j', hd, h0, ho⟩ := (hk1 y).mp (hpx.mem_iff.mp hy)
    have := Qgf G hj ho
    have e : j' = (j : Int) := by exact Q3n h0 this
    rw [← e]; exact hd
   ·intro hd
    have hb := ((Qbp ok du).mpr hd).bound ok (du.vd ok)
    have hl : z.toNat < σ.order.length := by show z.toNat < σ.nv; exact Qt1 hb
    exact ⟨_, hpx.mem_iff.mpr ((hk1 _).mpr ⟨z, hd, hb.1, List.getElem?_eq_getElem hl⟩), z.toNat, List.getElem?_eq_getElem hl, by exact Q3m hb⟩
  have f3 := I3.ok (Qpa (!(byT W.w)))
  have hn5 := f3.n5
  have hnd : k3.Nodup := Qrw _ _ I3.m
  have hsub : ∀ j ∈ k3, j ∈ Fl := fun j hj => hdep j ((hkd j).mp hj)
  have hlen := Qpy hnd hM hsub
  have hdm : ∀ {x : Led}, (d3, o3) ∈ mgL b ++ (d3, o3) :: x := mr (.head _)
  (ctx_mentions Zb Ua Xa Fb Pa Yo Vb Zh)
  refine Qmm hdm I3.I.objOf (by exact Qkj hn5) fun _ => ?_
  (ctx_mentions Vc Zb Ua Ya Xf Va Zd Zp Zr Ma Za Zb Ua Xa Ye Va Va Yr Vc Zb Ua Ya Xf Va Yc Zl Zr Ma Za Zb Ua Xa Fb Pa Yp Zh)
  refine Qa3 fun md => ?_
  (ctx_mentions Vc Zb Ua Xk Fb Pa Yp Yl Fb Pa Yo Vb Zh)
  obtain ⟨es3, ep3, SW3, hI3, hen3⟩ := I3.walk (Qpa (!(byT W.w)))
  refine Qed hh SW3 (mr (.tail _ (.head _))) hI3 (by exact Qt9 hn5 hen3) fun D vs2 L n2 hL2 hop hsorted => ?_
  (ctx_mentions Zh)
  have hmem : ∀ z, z ∈ L ↔ z ∈ k3 := fun z => hop.mem_iff
  have hLs : L.Pairwise (· < ·) := by
   have hLn := hop.nodup_iff.mpr hnd
   have := hsorted.and hLn
   exact this.imp fun ⟨h1, h2⟩ => by exact Q3l h1 h2
  have hLl : L.length = k3.length := hop.length_eq
  have hL5 : ∀ l ∈ L, 0 ≤ l ∧ l < 5 := fun l hl => by
   have := ((Qbp ok du).mpr ((hkd l).mp ((hmem l).mp hl))).bound ok (du.vd ok)
   exact Qt2 hnv this
  refine Qff (mr (.head _)) fun e1 it1 oi1 li1 => ?_
  refine Qfe (mr (.head _)) ?_
  obtain ⟨sl, hsl⟩ : ∃ sl : Nat, sl = Fl.length - k3.length := ⟨_, rfl⟩
  have hsl5 : sl ≤ 5 := by exact Q3k hMl hsl
  have hsle : (Fl.length : Int) - k3.length = sl := by exact Q3j hlen hsl
  have hposn : ∀ {j : Nat} {l : Int}, L[j]? = some l → posn L l = j := fun h => Qem hLs h
  let J : Nat → Vals → Led → Prop := fun m vals' l' => Ex9 fun (i : Nat) (mo oi : Obj) (ML : List (Option Int × Value)) (old : Value) (w1 w2 : Option Value) (tq1 tq2 : Tok) => An8 (m = L.length - i) (i ≤ L.length) (mo.IsDictOf (allKind W.prog W.w) ML) (ML.length ≤ i) (LiO oi D i) ((∀ (j : Nat) (l : Int), j < i → L[j]? = some l → ∃ t, valueAt ML (some l) = some (.int (posn L l + sl) t))) (vals' = [some (.int u tu), some (.int Fl.length tn), some (.int Fl.length tn), some (.ref d3), some (.int k3.length tq1), some (.int ((Fl.length : Int) - k3.length) tq2), some (.ref md), w1, w2, none, none, none, none]) (l' = mgL b ++ (e1, enumF .none it1 i old) :: (it1, oi) :: (D, listOf vs2.toArray n2) :: (md, mo) :: (d3, o3) :: ([(Ψ'.L + 1, oc)] ++ Rl))
  refine WC.inv J ?_ L.length ⟨0, _, _, [], _, none, none, _, _, rfl, Nat.zero_le _, isDict_nil, Nat.le_refl _, li1, fun j l h => absurd h (Nat.not_lt_zero _), rfl, rfl⟩
  rintro m _ _ ⟨i, mo, oi, ML, old, w1, w2, tq1, tq2, hm2, hi2, hmo, hml, hli, hML, rfl, rfl⟩ again
  refine Mine.WC.letV ?_; intro vv
  have hvl := Qai hL2
  by_cases hie : i = L.length
  ·subst hie
   refine WC.for1 (Qf6 (a := D) (vs := vs2) (n := n2) (pre := mgL b) hh rfl (mr (.tail _ (.tail _ (.head _)))) hli (by rw [List.getElem?_eq_none_iff]; exact Qgr hvl) ?_)
   (ctx_mentions Zx Za Zb Ua)
   refine Mine.L.asT rfl rfl ?_; intro _
   (ctx_mentions Yk Xj)
   refine Qao Ψ'.e.kind hck hlk (o := oc) (mr (.tail _ (.tail _ (.tail _ (.tail _ (.head _)))))) hoc (by decide) ?_
   (ctx_mentions Ga Yc)
   refine Qpl G.r (u := 1) (by decide) rfl fun a5 t5 v52 v53 n5 dd5 sl5 hm5 => ?_
   have hlev1 : σ.lev 1 = 5 := by show (if iabs 1 = 1 then (σ.nv : Int) else _) = 5; rw [if_pos (by decide), hnv]; rfl
   rw [hlev1] at hm5
   refine R.unp hh hm5 rfl rfl ?_
   (ctx_mentions Yw Vc Yw Vc Yw Vc ZG Zb Ua Xc Va Va Va)
   refine Qbh (knd := allKind W.prog W.w) (k := some 5) (d := md) (o := mo) (pre := mgL b ++ [(e1, enumF .none it1 ((L.length : Nat)) old), (D, listOf vs2.toArray n2)]) (allInt _ _) (by rw [List.append_assoc] <;> rfl) hmo (by rw [Qae]; exact Q3i hn5 hLl hml) fun mo2 hmo2 => ?_
   rw [List.append_assoc]
   (ctx_mentions Zb Ua Xc Va Va Yd)
   have hml2 := Qa6 ML (some 5) (.int Fl.length tn)
   refine Qbh (knd := allKind W.prog W.w) (k := none) (d := md) (o := mo2) (pre := mgL b ++ [(e1, enumF .none it1 ((L.length : Nat)) old), (D, listOf vs2.toArray n2)]) (allStr _) (by rw [List.append_assoc] <;> rfl) hmo2 (by rw [Qae]; exact Q3h hn5 hLl hml hml2) fun mo3 hmo3 => ?_
   rw [List.append_assoc]
   (ctx_mentions Zb Ua Xa)
   refine Mine.L.callMK (ns := ["d"]) (pl := _) rfl (by intro _; rfl) (by intro _; rfl) (by with_unfolding_all rfl) ?_; intro _
   refine Qao Ψ'.e.kind hck hlk (o := oc) (mr (.tail _ (.tail _ (.tail _ (.tail _ (.head _)))))) hoc (by decide) ?_
   refine Qd2 hs at0 (Qfz _) ?_; intro _
   (ctx_mentions Vb Vb Zh Ym Fb Pa Yp Zh)
   refine Qa3 fun da => ?_
   (ctx_mentions Zi)
   have hMLw : ∀ l, l ∈ L ∨ l = 5 → ∃ t, valueAt (stored (stored ML (some 5) (.int Fl.length tn)) none (.int Fl.length tn)) (some l) = some (.int (posn L l + sl) t) := fun l hl => by
    rw [valueAt_stored, if_neg (by simp), valueAt_stored]
    split
    ·rename_i e
     have e' : l = 5 := Option.some.inj e
     refine ⟨tn, ?_⟩
     rw [e', Qjf fun x hx => (hL5 x hx).2]
     congr 2
     exact Qtq hLl hsle
    ·rename_i e
     rcases hl with hl | rfl
     ·obtain ⟨j, hj, ej⟩ := List.mem_iff_getElem.mp hl
      exact hML j l hj (by rw [List.getElem?_eq_getElem hj, ej])
     ·exact absurd rfl e
   have hMa : ∃ t, valueAt (stored (stored ML (some 5) (.int Fl.length tn)) none (.int Fl.length tn)) none = some (.int (L.length + sl) t) := ⟨tn, by
    rw [valueAt_stored, if_pos rfl]
    congr 2
    exact Qtq hLl hsle⟩
   refine Qrp hLs hL5 hsl5 hmo3 hMLw hMa (by exact Qub hn5 hLl) a0 5 _ Ψ' _ (dictOf [] 0) [] f 0 u tu _ _ _ (fun s _ => .of_eq rfl) G hnv (hr'.less (by kd_p)) (Int.le_refl _) (by exact Qt3 hnv) (du.vd ok) du (fun j hj => (hmem j).mpr ((hkd j).mpr ((Qbp ok du).mp hj))) (.tail _ (.tail _ (.head _))) isDict_nil (fun x v h => by simp [valueAt] at h) (by decide) fun tr co' kvs' hco' _ _ => ?_
   (ctx_mentions Vc Zb Ua)
   have ocm : ∀ {o : Obj}, (Ψ'.L + 1, oc) ∈ mgL b ++ (da, o) :: ([(e1, enumF .none it1 ((L.length : Nat)) old), (D, listOf vs2.toArray n2)] ++ (md, mo3) :: (d3, o3) :: ([(Ψ'.L + 1, oc)] ++ Rl)) := mr (.tail _ (.tail _ (.tail _ (.tail _ (.tail _ (.head _))))))
   have mdm : ∀ {o : Obj}, (md, mo3) ∈ mgL b ++ (da, o) :: ([(e1, enumF .none it1 ((L.length : Nat)) old), (D, listOf vs2.toArray n2)] ++ (md, mo3) :: (d3, o3) :: ([(Ψ'.L + 1, oc)] ++ Rl)) := mr (.tail _ (.tail _ (.tail _ (.head _))))
   refine Mine.L.asT rfl rfl ?_; intro _
   (ctx_mentions Yk Xj)
   refine Qao Ψ'.e.kind hck hlk (o := oc) ocm hoc (by decide) ?_
   (ctx_mentions Ga Fb Pa Yo Vb Zh Yu)
   refine Qc9 G.r (du.vd ok).key fun a6 t6 v62 v63 n6 dd6 sl6 hm6 => ?_
   refine R.unp hh hm6 rfl rfl ?_
   (ctx_mentions Yw Vc Yw Vc Yw Vc ZG Zb Ua Xa Yk Va Va)
   obtain ⟨tz, htz⟩ := hMLw _ (Qli hnv (du.vd ok) fun j hj => (hmem j).mpr ((hkd j).mpr ((Qbp ok du).mp hj)))
   refine dTail mdm hmo3 (Qaw (allInt _ t6) mdm hmo3 htz ?_) (by with_unfolding_all rfl)
   (ctx_mentions Vc Zb Ua Xa Ye Va Ye Yc Va)
   have hpl := Qey L (σ.lev u)
   have hcb : (cnt (L.drop (posn L (σ.lev u))) f a0 : Nat) ≤ 32 := Nat.le_trans (Qpd _ _ _) (Nat.le_trans (Nat.pow_le_pow_right (by decide) (by rw [List.length_drop]; exact Q3g hn5 hLl : (L.drop (posn L (σ.lev u))).length ≤ 5)) (by decide))
   refine Qa8 (by exact Q3f) (by exact Q3e hn5 hLl hsl5 hpl) fun _ => ?_
   refine Qb7 (IntMulOk.of_left (intBits_le_64 (by exact Qqp) (by exact Qqo hcb))) fun _ => ?_
   have CW := Qlz hLs hM (fun j hj => hsub j ((hmem j).mp hj)) (f := f) (fun j hj => (hmem j).mpr ((hkd j).mpr hj)) (d := σ.lev u) (fun j hj => Qe2 fun hdp => by
    have := (((Qbp ok du).mpr hdp).bound ok (Qbr ok (du.vd ok)).2.1).1
    exact Qxi hj this) a0
   rw [show (posn L (σ.lev u) + sl : Int) = (posn L (σ.lev u) + (Fl.length - L.length : Nat) : Int) by exact Q3d hLl hsle, CW]
   (ctx_mentions Vc Zb Ua Yb Fa)
   refine Qao Ψ'.e.kind hck hlk (o := oc) ocm hoc (by decide) ?_
   refine Qb5 G ?_
   (ctx_mentions Vb Zh)
   refine Qc6 (hr'.less (by kd_p)) fun t => ?_
   (ctx_mentions Zc)
   refine ⟨mgL b ++ Rl, sA ?_, q t⟩
   repeat (first | exact List.Sublist.refl _ | refine sC ?_)
  ·have hil : i < L.length := by exact Qek hi2 hie
   obtain ⟨tx, hget⟩ := Qap hL2 (List.getElem?_eq_getElem hil)
   refine WC.for1 (Qfd (a := D) (vs := vs2) (n := n2) (pre := mgL b) rfl (mr (.tail _ (.tail _ (.head _)))) hli hget fun y oi' ti li' => ?_)
   (ctx_mentions Yv)
   refine Qf5 (pre := mgL b) rfl ?_
   refine R.unp hh (items := #[.int i ti, .int L[i] tx]) (n := 0) (mr (.tail _ (.tail _ (.head _)))) rfl rfl ?_
   (ctx_mentions Yw Vc Yw Vc ZG Ua Xc Ye Va Va Yq Va Va)
   refine Qbh (knd := allKind W.prog W.w) (k := some L[i]) (d := md) (o := mo) (pre := mgL b ++ [(e1, enumF .none it1 ((i + 1 : Nat)) (.int L[i] tx)), (it1, oi'), (y, tupObj [.int i ti, .int L[i] tx]), (D, listOf vs2.toArray n2)]) (allInt _ _) (by rw [List.append_assoc]; rfl) hmo (by rw [Qae]; exact Q3c hn5 hLl hml hil) fun mo' hmo' => ?_
   rw [List.append_assoc]
   (ctx_mentions Zb Za Zu)
   refine WC.sublist (mgL b ++ (e1, enumF .none it1 ((i + 1 : Nat)) (.int L[i] tx)) :: (it1, oi') :: (D, listOf vs2.toArray n2) :: (md, mo') :: (d3, o3) :: ([(Ψ'.L + 1, oc)] ++ Rl)) (sA (sB (sB (sD)))) ?_
   refine again (L.length - (i + 1)) _ _ (by exact Qdy hm2 hil) ⟨i + 1, mo', oi', _, _, _, _, _, _, rfl, by exact Qdg hil, hmo', by have := Qa6 ML (some L[i]) (.int ((i : Int) + ((Fl.length : Int) - k3.length)) ‹Tok›); exact Q3b hml this, li', fun j l hj hjl => ?_, rfl, rfl⟩
   rw [valueAt_stored]
   split
   ·rename_i e
    have e' : l = L[i] := Option.some.inj e
    have h1 := hposn hjl
    have h2 := hposn (List.getElem?_eq_getElem hil)
    rw [e'] at h1 ⊢
    have hval : (i : Int) + ((Fl.length : Int) - k3.length) = posn L L[i] + sl := by rw [h2, hsle]
    rw [hval]
    exact ⟨_, rfl⟩
   ·rename_i e
    refine hML j l ?_ hjl
    rcases Nat.lt_succ_iff_lt_or_eq.mp hj with h | h
    ·exact h
    ·subst h
     rw [List.getElem?_eq_getElem hil] at hjl
     exact absurd hjl.symm e
 ·have hil : i < es.size := by exact Qek hi' hie
  kcj_m
  obtain ⟨ei, ti, hei, hvi⟩ := hel i hil
  kd_p1
  refine Qd7 (o := o1) (pre := mgL b ++ [(d3, o3)]) SW (by rw [List.append_assoc]; rfl) (by simp) hil hei ?_
  rw [hvi, List.append_assoc]
  show WA Ψ2 _ _ _ _
  have hck2 : Ψ2.env.kindOf "self" = some .cell := by
   rw [he2, he]; kcf_m
  obtain ⟨y, hy⟩ : ∃ y, y = xs[i]'(by exact Qdx hxn hil) := ⟨_, rfl⟩
  rw [← hy]
  obtain ⟨j', hd', h0', ho'⟩ := (hk1 y).mp (hpx.mem_iff.mp (hy ▸ List.getElem_mem _))
  have hb' := ((Qbp ok du).mpr hd').bound ok (du.vd ok)
  (ctx_mentions Zy Zz Vc Fa)
  refine Qao Ψ2.e.kind hck2 (c := Ψ'.L + 1) (by rw [he2]; rfl) (o := oc) (by simp) hoc (by decide) ?_
  (ctx_mentions Ic Vb Zh)
  refine Qv6 G (hr2.less (by kd_p)) ho' fun tv => ?_
  have htk : ∀ x, x ∈ xs.take (i + 1) ↔ x ∈ xs.take i ∨ x = y := fun x => by
   rw [hy, List.take_add_one, List.getElem?_eq_getElem (by exact Qdx hxn hil : i < xs.length), List.mem_append]
   simp
  refine Qer (pre := mgL b) (Qpa (!(byT W.w))) rfl I3 (by simp only [U2, List.mem_cons, List.not_mem_nil, or_false]; exact Q3a hnv hb') fun o4 t4 k4 I4 hk4 => ?_
  refine again (es.size - (i + 1)) _ _ (by exact Qdy hm' hil) ⟨i + 1, o4, t4, k4, _, rfl, by exact Qdg hil, I4, fun z => ?_, rfl, rfl⟩
  rw [hk4, hk3]
  constructor
  ·rintro (⟨y', h1, h2⟩ | rfl)
   ·exact ⟨y', (htk y').mpr (.inl h1), h2⟩
   ·exact ⟨y, (htk y).mpr (.inr rfl), _, ho', rfl⟩
  ·rintro ⟨y', h1, j2, h2, h3⟩
   rcases (htk y').mp h1 with h1 | rfl
   ·exact .inl ⟨y', h1, j2, h2, h3⟩
   ·right; rw [h3, Qgf G h2 ho']
end
end
section
noncomputable def fn506 : FnIn 506 := by
 refine' mkFn ?ok ?hb
 case ok => intro P; k_is
 case hb => exact rfl
@[reducible] noncomputable def N506 : Nm := ⟨["levels", "n", "numbers", "numbers_"], ["isinstance", "dict", "len", "set", "range"]⟩
theorem Qvf : ScOk fn506.fd.scope.names N506.loc N506.glo := by
 refine Qah ?_
 kcf_m
theorem Qwm (P : Params) : FnOk (hK P) 506 fn506.fd fn506.body := ⟨⟨_, _, _, fn506.ok P⟩, by kcf_m, fn506.hb, rfl, rfl, rfl, rfl, rfl, by kcf_m⟩
section
theorem Qpn {d : Addr} {o : Obj} {Q : VQ} (hr : Room Ψ.A 2) (hm : (d, o) ∈ Rl) (ho : o.IsDictOf (intKind W.prog W.w) []) (q : Q .none vals Rl) :
  WA Ψ (call (.ref 506) [.ref d]) Q vals Rl := by
 refine Qaa (N' := N506) (Qwm _) Qvf hr (binds := [("levels", .ref d)]) (rest := ["n", "numbers", "numbers_"]) (fun s X => .of_eq rfl) rfl [some (.ref d), none, none, none] rfl ?_
 intro Ψ' he hr'
 have hh : Ψ'.A.handled = none := hr'.hh
 have hun : Ψ'.A.units < cLine := by have := hr'.u; exact Q29 this
 dsimp only [fn506, mkFn]
 (ctx_mentions Ua Ya Yh Xi Fb Pa Yo Vb Yl Pa Zh)
 refine Qfu hm (Qan ho).1 ?_
 (ctx_mentions Zr Ma Za Zb Ua Xa Fb Pa Yo Vb Zh)
 refine Qd9 hm ho (by simp) fun tn => ?_
 (ctx_mentions Vc Zb Ua Xa Fb Pa Yp Yl Fa Va)
 refine Qa4 hm (Qan ho) PySem.F.slot_dict_values PySem.F.type_dict_values ?_
 (ctx_mentions Yn Zh)
 refine Qks (M := []) hm ho fun v => ?_
 (ctx_mentions Zh)
 refine Qgu (M := []) hh (.head _) (.tail _ hm) ho fun s1 o1 I1 => ?_
 (ctx_mentions Vc Zb Ua Xa Fb Pa Yp Yl Fb Pa Yp Vb Zh)
 refine Qd0 (M := []) fun r t1 t2 => ?_
 (ctx_mentions Zh)
 refine Qft (M := []) hh (.head _) fun s2 o2 I2 => ?_
 (ctx_mentions Vc Zb Ua Ya Xf Va Va)
 refine Qmo hun (.tail _ (.tail _ (.head _))) (.head _) I1 I2 ?_
 (ctx_mentions Zr Ma Za Zb Za)
 refine ⟨Rl, ?_, q⟩
 exact sC (sC (sC (sC (List.Sublist.refl _))))
end
end
section
noncomputable def fn36 : FnIn 36 := by
 refine' mkFn ?ok ?hb
 case ok => intro P; k_is
 case hb => exact rfl
@[reducible] noncomputable def N36 : Nm := ⟨["self", "levels", "var", "level"], ["dict", "_assert_valid_ordering", "len", "set"]⟩
theorem Q68 : ScOk fn36.fd.scope.names N36.loc N36.glo := by
 refine Qah ?_
 kcf_m
theorem Q7e (P : Params) : FnOk (hK P) 36 fn36.fd fn36.body := ⟨⟨_, _, _, fn36.ok P⟩, by kcf_m, fn36.hb, rfl, rfl, rfl, rfl, rfl, by kcf_m⟩
section
theorem Qp1 (P : Params) : DefIs (hK P) "_assert_valid_ordering" 506 := ⟨.inl (by k_is), by k_is⟩
theorem Qm1 {x dx pd sd rd idt vd ld ro : Addr} {ae : List DictEntry} {n : Nat} {a : Addr} {t1 t2 tm tx tl : Tok} {c : Int} {po so rro : Obj} {b : Mg}
  (hb : b = ⟨x, dx, pd, sd, rd, idt, vd, ld, ro, ae, n, po, so, rro, dictOf [] 0, dictOf [] 0, dictOf [] 0, b.roo, [(a, tupObj [.int 0 tl, .none, .none])], [([some 0, none, none], a, .int 1 t1)], [(1, .ref a)], [(1, .int c t2)], [], [], [], .int 2 tm, .int (2 ^ 63 - 1) tx⟩)
  (hat : AttrsAre ae an b.av) (hpo : IsTupDict (optKind W.prog W.w) po [([some 0, none, none], a, .int 1 t1)]) (hso : so.IsDictOf (intKind W.prog W.w) [(1, .ref a)]) (hro : rro.IsDictOf (intKind W.prog W.w) [(1, .int c t2)]) : Rep W b (Sg.bare []) := by
 have hT : TupL (optKind W.prog W.w) b.tups [some 0, none, none] a := ⟨_, _, _, _, by rw [hb]; exact .head _, .cons (by simp [optKind, isOpt]) (.cons (by rfl) (.cons (by rfl) .nil))⟩
 have hk : ∀ u ks, (Sg.bare []).key u = some ks → u = 1 ∧ ks = [some 0, none, none] := fun u ks h => Qeq h
 rw [hb] at hat hT ⊢
 refine
  { at' := hat, mf := ⟨tm, rfl⟩, mx := ⟨tx, rfl⟩, s1 := hso, s2 := ?_, s3 := ?_, s4 := rfl, p1 := hpo, p2 := ?_, p3 := ?_, p4 := ?_, p5 := Nat.le_refl _, r1 := hro, r2 := ?_, r3 := Nat.le_refl _,
    i1 := Qew, i2 := fun y hy => (by cases hy), i3 := fun ks a v h => (by simp [atKey] at h), i4 := Nat.le_refl _, v1 := isDict_nil, v2 := fun j y h => (by simp [Sg.bare] at h), v3 := fun _ _ => rfl, v4 := rfl, v5 := Nat.zero_le _,
    l1 := isDict_nil, l2 := fun j y h => (by simp [Sg.bare] at h), l3 := fun _ _ => rfl, l4 := rfl }
 ·intro u ks h
  obtain ⟨rfl, rfl⟩ := hk u ks h
  exact ⟨a, rfl, hT⟩
 ·intro u h
  have : ¬ 1 = u := by rintro rfl; rw [Qb4] at h; cases h
  simp [valueAt, this]
 ·intro y hy
  rw [List.mem_singleton] at hy
  subst hy
  exact hT
 ·intro ks a' v h
  have := Qe5 h
  rw [List.mem_singleton] at this
  cases this
  exact ⟨1, t1, rfl, rfl⟩
 ·intro u ks h
  obtain ⟨rfl, rfl⟩ := hk u ks h
  exact ⟨a, t1, by simp [atKey]⟩
 ·intro u ks h
  obtain ⟨rfl, rfl⟩ := hk u ks h
  exact ⟨c, t2, rfl⟩
theorem Qxg {Q : VQ} (hr : Room Ψ.A 8) (q : ∀ x b, Good W x b (Sg.bare []) → Q (.ref x) vals (mgL b ++ Rl)) :
  WA Ψ (call (.ref clsA) []) Q vals Rl := by
 refine Qq4 (N' := N36) (fI := 36) (by k_is) (by k_is) (by k_is) (Q7e _) Q68 (roomMk (n := 6) (env := default) hr).2 (binds := fun x => [("self", .ref x), ("levels", .none)]) (rest := ["var", "level"]) (fun x s X => binds_K X rfl (by k_is) rfl rfl rfl) (fun _ => rfl) (v0 := fun x => [some (.ref x), some .none, none, none]) (fun _ => rfl) ?_
 intro x dx Ψ' he hA
 have hr' : Room Ψ'.A 6 := by rw [hA]; exact (roomMk (n := 6) (C := clsA) (args := []) (env := Ψ'.env) hr).1
 have hh := hr'.hh
 have at0 : AttrsAre [] an [] := AttrsAre.nil an
 generalize ([] : List DictEntry) = ae0 at at0 ⊢
 generalize (0 : Nat) = n0
 dsimp only [fn36, mkFn]
 (ctx_mentions Ua Ya Xf Va Zd Zp Zr Mb Ua Xa Fb Pa Yp Zh)
 refine Qa3 (M := [(x, instObj clsA dx), (dx, dictOf ae0 n0)]) fun lv => ?_
 (ctx_mentions Vc Zb Za Zb Ua Xd Fb)
 refine Mine.L.funR (by nest_cls) (Qp1 _) ?_; intro _
 (ctx_mentions Vb Zh)
 refine Qpn (hr'.less (by kd_p)) (.tail _ (.tail _ (.head _))) isDict_nil ?_
 (ctx_mentions Zb Ua Xb Fb Pa Yp Zh)
 refine Qa3 (M := [(x, instObj clsA dx), (dx, dictOf ae0 n0)]) fun pd => ?_
 (ctx_mentions Va)
 refine Qbq at0 rfl (Nat.le_of_ble_eq_true rfl) fun ae1 n1 at1 => ?_
 (ctx_mentions Zb Ua Xb Fb Pa Yp Zh)
 refine Qa3 (M := [(x, instObj clsA dx), (dx, dictOf ae1 n1), (pd, dictOf [] 0)]) fun sd => ?_
 (ctx_mentions Va)
 refine Qbq at1 rfl (Nat.le_of_ble_eq_true rfl) fun ae2 n2 at2 => ?_
 (ctx_mentions Zb Ua Xb Fb Pa Yp Zh)
 refine Qa3 (M := [(x, instObj clsA dx), (dx, dictOf ae2 n2), (pd, dictOf [] 0), (sd, dictOf [] 0)]) fun rd => ?_
 (ctx_mentions Va)
 refine Qbq at2 rfl (Nat.le_of_ble_eq_true rfl) fun ae3 n3 at3 => ?_
 (ctx_mentions Zb Ua Xb Yc Va)
 refine Qbq at3 rfl (Nat.le_of_ble_eq_true rfl) fun ae4 n4 at4 => ?_
 (ctx_mentions Zb Ua Xb Fb Pa Yp Zh)
 refine Qa3 (M := [(x, instObj clsA dx), (dx, dictOf ae4 n4), (pd, dictOf [] 0), (sd, dictOf [] 0), (rd, dictOf [] 0)]) fun idt => ?_
 (ctx_mentions Va)
 refine Qbq at4 rfl (Nat.le_of_ble_eq_true rfl) fun ae5 n5 at5 => ?_
 (ctx_mentions Zb Ua Xb Fb Pa Yp Zh)
 refine Qa3 (M := [(x, instObj clsA dx), (dx, dictOf ae5 n5), (pd, dictOf [] 0), (sd, dictOf [] 0), (rd, dictOf [] 0), (idt, dictOf [] 0)]) fun vd => ?_
 (ctx_mentions Va)
 refine Qbq at5 rfl (Nat.le_of_ble_eq_true rfl) fun ae6 n6 at6 => ?_
 (ctx_mentions Zb Ua Xb Fb Pa Yp Zh)
 refine Qa3 (M := [(x, instObj clsA dx), (dx, dictOf ae6 n6), (pd, dictOf [] 0), (sd, dictOf [] 0), (rd, dictOf [] 0), (idt, dictOf [] 0), (vd, dictOf [] 0)]) fun ld => ?_
 (ctx_mentions Va)
 refine Qbq at6 rfl (Nat.le_of_ble_eq_true rfl) fun ae7 n7 at7 => ?_
 (ctx_mentions Zb Ua Xd Fa Va)
 refine Qng at7 (by kas_types) ?_
 (ctx_mentions Yl Fb Pa Yo Yl Xj Va)
 refine Qa7 (i := 5) ⟨.head _, .tail _ (.head _)⟩ at7 rfl rfl rfl ?_
 refine Qd9 (knd := intKind W.prog W.w) (kvs := []) (o := dictOf [] 0) (by repeat (first | exact .head _ | refine .tail _ ?_)) isDict_nil (by decide) fun tn => ?_
 (ctx_mentions Zh)
 refine Qo3 (hr'.less (by kd_p)) at7 rfl rfl rfl Qew isDict_nil isDict_nil (.inl ⟨rfl, rfl, rfl⟩) fun a t1 c t2 po so ro hpo hso hro => ?_
 refine WA.perm ((x, instObj clsA dx) :: (dx, dictOf ae7 n7) :: (pd, po) :: (sd, so) :: (rd, ro) :: ([(idt, dictOf [] 0), (vd, dictOf [] 0), (ld, dictOf [] 0)] ++ (a, tupObj [.int 0 tn, .none, .none]) :: (lv, dictOf [] 0) :: Rl)) (List.Perm.cons _ (List.Perm.cons _ (List.Perm.cons _ (List.Perm.cons _ (List.Perm.cons _ List.perm_middle))))) ?_
 (ctx_mentions Ua Xb Ze Va)
 refine Qbq at7 rfl (Nat.le_of_ble_eq_true rfl) fun ae8 n8 at8 => ?_
 (ctx_mentions Zb Ua Xb Zd Va)
 refine Qbq at8 rfl (Nat.le_of_ble_eq_true rfl) fun ae9 n9 at9 => ?_
 (ctx_mentions Zb Ua Xk Fa Va)
 refine Qa4 (d := lv) (o := dictOf [] 0) (by repeat (first | exact .head _ | refine .tail _ ?_)) (Qan (isDict_nil (knd := intKind W.prog W.w))) PySem.F.slot_dict_items PySem.F.type_dict_items ?_
 (ctx_mentions Yn Zh)
 refine Qhz (knd := intKind W.prog W.w) (M := [(x, instObj clsA dx), (dx, dictOf ae9 n9), (pd, po), (sd, so), (rd, ro), (idt, dictOf [] 0), (vd, dictOf [] 0), (ld, dictOf [] 0)]) (d := lv) (o := dictOf [] 0) (by repeat (first | exact .head _ | refine .tail _ ?_)) isDict_nil fun v => ?_
 refine Qhs (knd := intKind W.prog W.w) (M := [(x, instObj clsA dx), (dx, dictOf ae9 n9), (pd, po), (sd, so), (rd, ro), (idt, dictOf [] 0), (vd, dictOf [] 0), (ld, dictOf [] 0)]) (d := lv) (o := dictOf [] 0) (by repeat (first | exact .head _ | refine .tail _ ?_)) (by repeat (first | exact .head _ | refine .tail _ ?_)) isDict_nil fun it ep hep => ?_
 refine WC.for1 (Qi0 (knd := intKind W.prog W.w) (pre := [(x, instObj clsA dx), (dx, dictOf ae9 n9), (pd, po), (sd, so), (rd, ro), (idt, dictOf [] 0), (vd, dictOf [] 0), (ld, dictOf [] 0)]) (d := lv) (o := dictOf [] 0) hh rfl (by repeat (first | exact .head _ | refine .tail _ ?_)) hep ?_)
 (ctx_mentions Zx Za Zb Ua Xb Fb Pa Yp Zh)
 refine Qoo (M := [(x, instObj clsA dx), (dx, dictOf ae9 n9), (pd, po), (sd, so), (rd, ro), (idt, dictOf [] 0), (vd, dictOf [] 0), (ld, dictOf [] 0)]) fun rts led => ?_
 (ctx_mentions Va)
 refine Qbq at9 rfl (Nat.le_of_ble_eq_true rfl) fun ae10 n10 at10 => ?_
 (ctx_mentions Zb Ua Xb Ye Ye Yc Yc)
 refine Qa8 (by kd_p) (by kd_p) fun _ => ?_
 (ctx_mentions Yc Yr Va)
 refine Qbq at10 rfl (Nat.le_of_ble_eq_true rfl) fun ae11 n11 at11 => ?_
 (ctx_mentions Zb Za)
 refine ⟨rfl, (x, instObj clsA dx) :: (dx, dictOf ae11 n11) :: (pd, po) :: (sd, so) :: (rd, ro) :: (idt, dictOf [] 0) :: (vd, dictOf [] 0) :: (ld, dictOf [] 0) :: (rts, { cls := Value.type "set", data := Data.set #[] 0 (SetTable.fresh 0 0 led) }) :: (a, tupObj [.int 0 tn, .none, .none]) :: Rl, ?_, ?_⟩
 ·repeat refine sB ?_
  refine sC (sB (sC (List.Sublist.refl _)))
 ·have fin : ∀ (tm tx : Tok), AttrsAre ae11 an [.ref pd, .ref sd, .ref rd, .int 2 tm, .ref idt, .ref vd, .ref ld, .bool false, .none, .ref rts, .int (2 ^ 63 - 1) tx] → Q (.ref x) vals ((x, instObj clsA dx) :: (dx, dictOf ae11 n11) :: (pd, po) :: (sd, so) :: (rd, ro) :: (idt, dictOf [] 0) :: (vd, dictOf [] 0) :: (ld, dictOf [] 0) :: (rts, { cls := Value.type "set", data := Data.set #[] 0 (SetTable.fresh 0 0 led) }) :: (a, tupObj [.int 0 tn, .none, .none]) :: Rl) := by
   intro tm tx hat
   obtain ⟨b, hb⟩ : ∃ b : Mg, b = ⟨x, dx, pd, sd, rd, idt, vd, ld, rts, ae11, n11, po, so, ro, dictOf [] 0, dictOf [] 0, dictOf [] 0, { cls := Value.type "set", data := Data.set #[] 0 (SetTable.fresh 0 0 led) }, [(a, tupObj [.int 0 tn, .none, .none])], [([some 0, none, none], a, .int 1 t1)], [(1, .ref a)], [(1, .int c t2)], [], [], [], .int 2 tm, .int (2 ^ 63 - 1) tx⟩ := ⟨_, rfl⟩
   have := q x b ⟨Qm1 (b := b) (by rw [hb]) (by rw [hb]; exact hat) hpo hso hro, by rw [hb], Ql2 _, Ql4 _⟩
   rw [hb] at this
   exact this
  exact fin _ _ at11
end
end
section
theorem Qmg : ∀ (n a b : Nat), a ≤ n → (∀ i, (a.testBit i && b.testBit i) = false) → a + b = a ||| b := by
 intro n
 induction n with
 | zero => intro a b ha _; obtain rfl : a = 0 := by exact Q28 ha
           simp
 | succ n ih =>
  intro a b ha h
  by_cases h0 : a = 0
  ·subst h0; simp
  have e := ih (a / 2) (b / 2) (by exact Q27 ha) fun i => by
   have := h (i + 1)
   rwa [Nat.testBit_add_one, Nat.testBit_add_one] at this
  have h1 := h 0
  simp only [Nat.testBit_zero] at h1
  have e1 : (a ||| b) / 2 = a / 2 ||| b / 2 := Nat.or_div_two
  have e2 : (a ||| b) % 2 = 1 ↔ a % 2 = 1 ∨ b % 2 = 1 := Nat.or_mod_two_eq_one
  have : ¬ (a % 2 = 1 ∧ b % 2 = 1) := by
   rintro ⟨p, q⟩
   simp [p, q] at h1
  have e3 := Nat.div_add_mod (a ||| b) 2
  rw [e1, ← e] at e3
  exact Q26 e2 this e3
noncomputable def bitsN : Nat → (Nat → Bool) → Nat
 | 0, _ => 0
 | n + 1, p => bitsN n p + if p n then 2 ^ n else 0
theorem Qdw : ∀ (n : Nat) (p : Nat → Bool), bitsN n p < 2 ^ n
 | 0, _ => by simp [bitsN]
 | n + 1, p => by
  have := Qdw n p
  have e : 2 ^ (n + 1) = 2 * 2 ^ n := by rw [Nat.pow_succ]; exact Qrf
  simp only [bitsN]
  split <;> omega
theorem Qcw : ∀ (n : Nat) (p : Nat → Bool) (i : Nat), (bitsN n p).testBit i = (decide (i < n) && p i)
 | 0, _, i => by simp [bitsN]
 | n + 1, p, i => by
  have hl := Qdw n p
  have ih := Qcw n p i
  simp only [bitsN]
  by_cases hp : p n = true
  ·rw [if_pos hp, Nat.add_comm, ← Nat.mul_one (2 ^ n), Nat.two_pow_add_eq_or_of_lt hl, Nat.testBit_or, ih, Nat.mul_one, Nat.testBit_two_pow]
   by_cases hi : i = n
   ·subst hi; simp [hp]
   ·have : ¬ n = i := fun e => hi e.symm
    simp only [this, decide_false, Bool.false_or]
    have : (i < n) ↔ (i < n + 1) := by exact Q25 this
    simp [this]
  ·rw [if_neg hp, Nat.add_zero, ih]
   by_cases hi : i = n
   ·subst hi
    simp only [Bool.not_eq_true] at hp
    simp [hp]
   ·have : (i < n) ↔ (i < n + 1) := by exact Q24 hi
    simp [this]
theorem Qd5 {x n : Nat} {p : Nat → Bool} (hx : x < 2 ^ n) (h : ∀ i, i < n → x.testBit i = p i) : x = bitsN n p := by
 refine Nat.eq_of_testBit_eq fun i => ?_
 rw [Qcw]
 by_cases hi : i < n
 ·rw [h i hi]; simp [hi]
 ·rw [Nat.testBit_lt_two_pow (Nat.lt_of_lt_of_le hx (Nat.pow_le_pow_right (by decide) (by exact Qki hi)))]
  simp [hi]
theorem Qkd {n : Nat} {p q : Nat → Bool} (h : ∀ i, i < n → p i = q i) : bitsN n p = bitsN n q :=
 Qd5 (Qdw n p) fun i hi => by rw [Qcw]; simp [hi, h i hi]
structure Od (m : Nat) (od : List Int) : Prop where
 len : od.length = m
 nd : od.Nodup
 mem : ∀ x, x ∈ od ↔ 101 ≤ x ∧ x < 101 + (m : Int)
noncomputable def lev (od : List Int) (p : Nat) : Int := (od.idxOf (101 + (p : Int)) : Int)
noncomputable def plc (od : List Int) (j : Int) : Nat := ((od[j.toNat]?).getD 101 - 101).toNat
section
variable {m : Nat} {od : List Int} (O : Od m od)
include O
theorem Od.lev_ok {p : Nat} (hp : p < m) : 0 ≤ lev od p ∧ lev od p < m ∧ plc od (lev od p) = p := by
 have hm : (101 + (p : Int)) ∈ od := (O.mem _).mpr ⟨by exact Q23, by exact Q22 hp⟩
 have hl := List.idxOf_lt_length_of_mem hm
 refine ⟨by unfold lev; exact Qdc, by unfold lev; rw [← O.len]; exact Qt8 hl, ?_⟩
 unfold plc lev
 rw [Int.toNat_natCast, List.getElem?_eq_getElem hl, List.getElem_idxOf hl]
 simp only [Option.getD_some]
 exact Q21
theorem Od.plc_ok {j : Int} (h0 : 0 ≤ j) (h1 : j < m) : plc od j < m ∧ lev od (plc od j) = j ∧ od[j.toNat]? = some (101 + (plc od j : Int)) := by
 have hl : j.toNat < od.length := by rw [O.len]; exact Q20 h0 h1
 have hm := (O.mem od[j.toNat]).mp (List.getElem_mem hl)
 have e : plc od j = (od[j.toNat] - 101).toNat := by
  unfold plc
  rw [List.getElem?_eq_getElem hl]; rfl
 have e2 : (101 : Int) + (plc od j : Int) = od[j.toNat] := by rw [e]; exact Q2z hm
 refine ⟨by rw [e]; exact Q2y hm, ?_, by rw [e2, List.getElem?_eq_getElem hl]⟩
 unfold lev
 rw [e2, O.nd.idxOf_getElem _ hl]
 exact Qir h0
theorem Od.lev_inj {p q : Nat} (hp : p < m) (hq : q < m) (h : lev od p = lev od q) : p = q := by
 have h1 := (O.lev_ok hp).2.2
 have h2 := (O.lev_ok hq).2.2
 rw [h] at h1
 exact h1.symm.trans h2
end
noncomputable def asg (m : Nat) (od : List Int) (r : Nat) : Asg := fun j => if 0 ≤ j ∧ j < m then r.testBit (plc od j) else false
noncomputable def row (m : Nat) (od : List Int) (a : Asg) : Nat := bitsN m fun p => a (lev od p)
noncomputable def Low (m : Nat) (f : BF) : Prop := ∀ a a' : Asg, (∀ j : Int, 0 ≤ j → j < m → a j = a' j) → f a = f a'
section
variable {m : Nat} {od : List Int} (O : Od m od)
include O
theorem Od.asg_lev {r p : Nat} (hp : p < m) : asg m od r (lev od p) = r.testBit p := by
 obtain ⟨e1, e2, e3⟩ := O.lev_ok hp
 unfold asg
 rw [if_pos ⟨e1, e2⟩, e3]
noncomputable def tb (m : Nat) (od : List Int) (f : BF) : Nat := bitsN (2 ^ m) fun r => f (asg m od r)
end
theorem Qh6 (m : Nat) (od : List Int) (f : BF) : tb m od f < 2 ^ 2 ^ m := Qdw _ _
theorem tb_bit {m : Nat} {od : List Int} {f : BF} {r : Nat} : (tb m od f).testBit r = (decide (r < 2 ^ m) && f (asg m od r)) := Qcw _ _ _
theorem tb_and (m : Nat) (od : List Int) (f g : BF) : tb m od f &&& tb m od g = tb m od fun a => f a && g a :=
 Qd5 (Nat.and_lt_two_pow _ (Qh6 m od g)) fun i hi => by rw [Nat.testBit_and, tb_bit, tb_bit]; simp [hi]
theorem tb_or (m : Nat) (od : List Int) (f g : BF) : tb m od f ||| tb m od g = tb m od fun a => f a || g a :=
 Qd5 (Nat.or_lt_two_pow (Qh6 m od f) (Qh6 m od g)) fun i hi => by rw [Nat.testBit_or, tb_bit, tb_bit]; simp [hi]
theorem tb_not (m : Nat) (od : List Int) (f : BF) : 2 ^ 2 ^ m - 1 - tb m od f = tb m od fun a => !f a := by
 have h := Qh6 m od f
 refine Qd5 (by exact Q2x h) fun i hi => ?_
 have e : 2 ^ 2 ^ m - 1 - tb m od f = 2 ^ 2 ^ m - (tb m od f + 1) := by exact Q2w
 rw [e, Nat.testBit_two_pow_sub_succ h, tb_bit]
 simp [hi]
theorem Qk0 (m : Nat) (od : List Int) : tb m od (fun _ => true) = 2 ^ 2 ^ m - 1 :=
 (Qd5 (by have := Nat.two_pow_pos (2 ^ m); exact Q2v this) fun i hi => by rw [Nat.testBit_two_pow_sub_one]; simp [hi]).symm
noncomputable def onesN (m p : Nat) : Nat := bitsN (2 ^ m) fun r => r.testBit p
theorem Od.tb_lev {m : Nat} {od : List Int} (O : Od m od) {p : Nat} (hp : p < m) : tb m od (fun a => a (lev od p)) = onesN m p := Qkd fun i _ => O.asg_lev hp
theorem Od.tb_node {m : Nat} {od : List Int} (O : Od m od) {j : Int} (h0 : 0 ≤ j) (h1 : j < m) (f g : BF) :
  (tb m od g &&& onesN m (plc od j)) ||| (tb m od f &&& (2 ^ 2 ^ m - 1 - onesN m (plc od j))) = tb m od fun a => if a j then g a else f a := by
 obtain ⟨e1, e2, _⟩ := O.plc_ok h0 h1
 rw [← O.tb_lev e1, tb_not, tb_and, tb_and, tb_or, e2]
 congr 1
 funext a
 cases a j <;> simp
theorem Qe6 {r p : Nat} (h : r.testBit p = false) (i : Nat) : (r + 2 ^ p).testBit i = if i = p then true else r.testBit i := by
 rw [Qmg _ r (2 ^ p) (Nat.le_refl _) fun i => ?_, Nat.testBit_or, Nat.testBit_two_pow]
 ·by_cases hi : i = p
  ·subst hi; simp
  ·have : ¬ p = i := fun e => hi e.symm
   simp [hi, this]
 ·rw [Nat.testBit_two_pow]
  by_cases hi : p = i
  ·subst hi; simp [h]
  ·simp [hi]
theorem Qpp {r p : Nat} (h : r.testBit p = true) : 2 ^ p ≤ r ∧ (r - 2 ^ p).testBit p = false := by
 have hl := Nat.ge_two_pow_of_testBit h
 refine ⟨hl, ?_⟩
 have := Nat.testBit_two_pow_add_eq (r - 2 ^ p) p
 rw [show 2 ^ p + (r - 2 ^ p) = r by exact Q2u hl, h] at this
 cases e : (r - 2 ^ p).testBit p
 ·rfl
 ·rw [e] at this; cases this
theorem Od.asg_add {m : Nat} {od : List Int} (O : Od m od) {r p : Nat} (hp : p < m) (h : r.testBit p = false) : asg m od (r + 2 ^ p) = upd (asg m od r) (lev od p) true := by
 funext j
 unfold upd
 split
 ·rename_i e
  rw [e, O.asg_lev hp, Qe6 h, if_pos rfl]
 ·rename_i e
  unfold asg
  split
  ·rename_i hj
   obtain ⟨e1, e2, _⟩ := O.plc_ok hj.1 hj.2
   rw [Qe6 h, if_neg]
   rintro rfl
   exact e e2.symm
  ·rfl
theorem Qjt {r p m : Nat} (hp : p < m) (hr : r < 2 ^ m) (h : r.testBit p = false) : r + 2 ^ p < 2 ^ m :=
 Nat.lt_pow_two_of_testBit _ fun i hi => by
  rw [Qe6 h, if_neg (by exact Q2t hp hi)]
  exact Nat.testBit_lt_two_pow (Nat.lt_of_lt_of_le hr (Nat.pow_le_pow_right (by decide) hi))
theorem Od.tb_turn {m : Nat} {od : List Int} (O : Od m od) {p : Nat} (hp : p < m) (f : BF) :
  (tb m od f &&& onesN m p) / 2 ^ 2 ^ p + (tb m od f &&& (2 ^ 2 ^ m - 1 - onesN m p)) * 2 ^ 2 ^ p = tb m od fun a => f (upd a (lev od p) (!a (lev od p))) := by
 have hno : 2 ^ 2 ^ m - 1 - onesN m p = tb m od fun a => !a (lev od p) := by rw [← O.tb_lev hp, tb_not]
 have h1 : ∀ i, ((tb m od f &&& onesN m p) / 2 ^ 2 ^ p).testBit i = (decide (i + 2 ^ p < 2 ^ m) && f (asg m od (i + 2 ^ p)) && (i + 2 ^ p).testBit p) := fun i => by
  rw [Nat.testBit_div_two_pow, Nat.testBit_and, tb_bit, onesN, Qcw]
  cases decide (i + 2 ^ p < 2 ^ m) <;> simp
 have h2 : ∀ i, ((tb m od f &&& (2 ^ 2 ^ m - 1 - onesN m p)) * 2 ^ 2 ^ p).testBit i = (decide (2 ^ p ≤ i) && (decide (i - 2 ^ p < 2 ^ m) && f (asg m od (i - 2 ^ p)) && !(i - 2 ^ p).testBit p)) := fun i => by
  rw [Nat.testBit_mul_two_pow, Nat.testBit_and, hno, tb_bit, tb_bit, O.asg_lev hp]
  cases decide (i - 2 ^ p < 2 ^ m) <;> simp
 have flip : ∀ i, (i + 2 ^ p).testBit p = !i.testBit p := fun i => by rw [Nat.add_comm]; exact Nat.testBit_two_pow_add_eq i p
 rw [Qmg _ _ _ (Nat.le_refl _) fun i => ?_]
 ·refine Nat.eq_of_testBit_eq fun i => ?_
  rw [Nat.testBit_or, h1, h2, tb_bit, O.asg_lev hp, flip]
  cases hb : i.testBit p with
  | false =>
   have hsub : (decide (2 ^ p ≤ i) && (decide (i - 2 ^ p < 2 ^ m) && f (asg m od (i - 2 ^ p)) && !(i - 2 ^ p).testBit p)) = false := by
    by_cases hl : 2 ^ p ≤ i
    ·have := flip (i - 2 ^ p)
     rw [show i - 2 ^ p + 2 ^ p = i by exact Qqm hl, hb] at this
     have : (i - 2 ^ p).testBit p = true := by
      cases e : (i - 2 ^ p).testBit p
      ·rw [e] at this; cases this
      ·rfl
     simp [this]
    ·simp [hl]
   rw [hsub, Bool.or_false]
   by_cases hi : i < 2 ^ m
   ·have hlt := Qjt hp hi hb
    rw [O.asg_add hp hb]
    simp [hi, hlt]
   ·have : ¬ i + 2 ^ p < 2 ^ m := by have := Nat.two_pow_pos p; exact Q2s hi
    simp [hi, this]
  | true =>
   obtain ⟨hl, hs⟩ := Qpp hb
   rw [hs]
   by_cases hi : i < 2 ^ m
   ·have e : asg m od (i - 2 ^ p) = upd (asg m od i) (lev od p) false := by
     have e2 := O.asg_add hp hs
     rw [show i - 2 ^ p + 2 ^ p = i by exact Qqm hl] at e2
     rw [e2]
     funext j
     unfold upd
     split
     ·rename_i e; rw [e, O.asg_lev hp, hs]
     ·rfl
    have hlt : i - 2 ^ p < 2 ^ m := by have := Nat.two_pow_pos p; exact Q2r hi
    rw [e]
    simp [hi, hlt, hl]
   ·by_cases hlt : i - 2 ^ p < 2 ^ m
    ·have := Qjt hp hlt hs
     omega
    ·simp [hi, hlt]
 ·rw [h1, h2, flip]
  by_cases hl : 2 ^ p ≤ i
  ·have := flip (i - 2 ^ p)
   rw [show i - 2 ^ p + 2 ^ p = i by exact Qqm hl] at this
   rw [this]
   cases (i - 2 ^ p).testBit p <;> simp
  ·simp [hl]
end
section
noncomputable def Off (S : Int → Bool) (a a' : Asg) : Prop := ∀ j, S j = false → a' j = a j
theorem Off.symm {S : Int → Bool} {a a' : Asg} (h : Off S a a') : Off S a' a := fun j hj => (h j hj).symm
theorem Off.trans {S : Int → Bool} {a b c : Asg} (h : Off S a b) (h' : Off S b c) : Off S a c := fun j hj => (h' j hj).trans (h j hj)
noncomputable def Free (S : Int → Bool) (g : BF) : Prop := ∀ a a', Off S a a' → g a' = g a
noncomputable def Imp (f g : BF) : Prop := ∀ a, f a = true → g a = true
theorem Qhd {S T : Int → Bool} (f : BF) : exS T (exS S f) = exS (fun j => S j || T j) f := by
 funext a
 rw [Bool.eq_iff_iff, exS_iff, exS_iff]
 constructor
 ·rintro ⟨b, h1, h2⟩
  obtain ⟨c, h3, h4⟩ := exS_iff.mp h2
  refine ⟨c, fun j hj => ?_, h4⟩
  simp only [Bool.or_eq_false_iff] at hj
  exact (h3 j hj.1).trans (h1 j hj.2)
 ·rintro ⟨c, h1, h2⟩
  refine ⟨fun j => if T j = true then c j else a j, fun j hj => by simp [hj], exS_iff.mpr ⟨c, fun j hj => ?_, h2⟩⟩
  by_cases ht : T j = true
  ·rw [if_pos ht]
  ·rw [if_neg ht]
   exact h1 j (by simp at ht; simp [hj, ht])
theorem qf_true (S : Int → Bool) (f : BF) : qf true S f = fun a => !exS S (fun x => !f x) a := rfl
theorem qf_false (S : Int → Bool) (f : BF) : qf false S f = exS S f := rfl
theorem Qni (e : Bool) {S T : Int → Bool} (f : BF) : qf e T (qf e S f) = qf e (fun j => S j || T j) f := by
 cases e
 ·exact Qhd f
 ·simp only [qf_true, Bool.not_not]
  rw [Qhd]
theorem qf_not (e : Bool) (S : Int → Bool) (f : BF) : qf (!e) S (fun a => !f a) = fun a => !qf e S f a := by
 cases e
 ·simp only [Bool.not_false, qf_true, qf_false, Bool.not_not]
 ·simp only [Bool.not_true, qf_true, qf_false, Bool.not_not]
noncomputable def jn (e : Bool) (f g : BF) : BF := fun a => if e then f a && g a else f a || g a
noncomputable def Dir (e : Bool) (f g : BF) : Prop := if e then Imp g f else Imp f g
theorem Qf2 {S S' : Int → Bool} {j : Int} (hj : S j = true) (hk : ∀ k, k ≠ j → S k = S' k) (hj' : S' j = false) (f : BF) : exS S f = fun a => exS S' f a || exS S' f (upd a j (!a j)) := by
 funext a
 rw [Bool.eq_iff_iff, exS_iff, Bool.or_eq_true, exS_iff, exS_iff]
 have ne : ∀ k, S k = false → k ≠ j := fun k h e => by rw [e, hj] at h; cases h
 constructor
 ·rintro ⟨b, h1, h2⟩
  by_cases hb : b j = a j
  ·refine .inl ⟨b, fun k hk' => ?_, h2⟩
   by_cases e : k = j
   ·rw [e, hb]
   ·exact h1 k (by rw [hk k e]; exact hk')
  ·refine .inr ⟨b, fun k hk' => ?_, h2⟩
   by_cases e : k = j
   ·rw [e, upd_same]
    cases hbj : b j <;> cases haj : a j <;> simp_all
   ·rw [Qdo e]; exact h1 k (by rw [hk k e]; exact hk')
 ·rintro (⟨b, h1, h2⟩ | ⟨b, h1, h2⟩)
  ·exact ⟨b, fun k h => h1 k (by rw [← hk k (ne k h)]; exact h), h2⟩
  ·exact ⟨b, fun k h => (h1 k (by rw [← hk k (ne k h)]; exact h)).trans (Qdo (ne k h)), h2⟩
theorem Qk6 {e : Bool} {S S' : Int → Bool} {j : Int} (hj : S j = true) (hk : ∀ k, k ≠ j → S k = S' k) (hj' : S' j = false) (f : BF) : qf e S f = jn e (qf e S' f) fun a => qf e S' f (upd a j (!a j)) := by
 cases e
 ·exact Qf2 hj hk hj' f
 ·unfold jn
  simp only [if_true, qf_true]
  rw [Qf2 hj hk hj']
  funext a; simp
noncomputable def Sp (m : Nat) (od : List Int) (c i : Nat) : Int → Bool := fun j => decide (0 ≤ j ∧ j < m ∧ plc od j < i) && c.testBit (plc od j)
noncomputable def nms (m c : Nat) : List Int := ((List.range m).filter fun p => c.testBit p).map fun (p : Nat) => (101 : Int) + ((p : Nat) : Int)
noncomputable def lsetO (od : List Int) (names : List Int) : Int → Bool := fun j => decide (0 ≤ j ∧ ∃ x ∈ names, od[j.toNat]? = some x)
theorem Qg6 (od a b : List Int) : lsetO od (a ++ b) = fun j => lsetO od a j || lsetO od b j := funext fun j => by
 rw [Bool.eq_iff_iff]
 unfold lsetO
 simp only [Bool.or_eq_true, decide_eq_true_eq, List.mem_append]
 constructor
 ·rintro ⟨h0, x, hx | hx, h⟩
  ·exact .inl ⟨h0, x, hx, h⟩
  ·exact .inr ⟨h0, x, hx, h⟩
 ·rintro (⟨h0, x, hx, h⟩ | ⟨h0, x, hx, h⟩)
  ·exact ⟨h0, x, .inl hx, h⟩
  ·exact ⟨h0, x, .inr hx, h⟩
theorem tb_jn (m : Nat) (od : List Int) (e : Bool) (f g : BF) : tb m od (jn e f g) = if e then tb m od f &&& tb m od g else tb m od f ||| tb m od g := by
 cases e
 ·exact (tb_or m od f g).symm
 ·exact (tb_and m od f g).symm
end
section
noncomputable def fn513 : FnIn 513 := by
 refine' mkFn ?ok ?hb
 case ok => intro P; k_is
 case hb => exact rfl
@[reducible] noncomputable def N513 : Nm := ⟨[], []⟩
theorem Qve : ScOk fn513.fd.scope.names N513.loc N513.glo := by
 refine Qah ?_
 kcf_m
theorem Qwl (P : Params) : FnOk (hK P) 513 fn513.fd fn513.body := ⟨⟨_, _, _, fn513.ok P⟩, by kcf_m, fn513.hb, rfl, rfl, rfl, rfl, rfl, by kcf_m⟩
section
theorem Qck {a b : Int} {t u : Tok} {l : Led} {Q : VQ} (hb : b ≠ 0) (hp : Builtin.divisionGoesByPylong a b = false) (q : ∀ t, Q (.int (Int.fdiv a b) t) vals l) : WA Ψ (binaryOp .FloorDiv (.int a t) (.int b u)) Q vals l := WA.same q fun _ _ _ _ h => floordiv_int hb (h _ _) (.inl hp)
theorem odOf (G : Good W sa b σ) (F : Full σ) : Od 5 σ.order := by
 refine ⟨F.len, List.pairwise_iff_getElem.mpr fun i j hi hj hij e => ?_, fun x => ?_⟩
 ·have h1 : σ.order[i]? = some σ.order[i] := List.getElem?_eq_getElem hi
  have h2 : σ.order[j]? = some σ.order[i] := by rw [List.getElem?_eq_getElem hj, e]
  have := Qgf G h1 h2
  exact Q2q hij this
 ·rw [← F.mem x]
  simp only [U1, List.mem_cons, List.not_mem_nil, or_false]
  exact Q2p
theorem Full.nv (F : Full σ) : σ.nv = 5 := F.len
noncomputable abbrev onesL (t1 t2 t3 t4 t5 : Tok) : List Value := [.int 2863311530 t1, .int 3435973836 t2, .int 4042322160 t3, .int 4278255360 t4, .int 4294901760 t5]
theorem Qfx {M R : Led} {Q : VQ} (hr : Room Ψ.A 2) (q : ∀ x t1 t2 t3 t4 t5, Q (.ref x) vals (M ++ (x, listOf (onesL t1 t2 t3 t4 t5).toArray 0) :: R)) :
  WA Ψ (call (.ref 513) []) Q vals (M ++ R) := by
 refine Qaa (N' := N513) (Qwl _) Qve hr (binds := []) (rest := []) (fun s X => .of_eq rfl) rfl [] rfl ?_
 intro Ψ' he hr'
 dsimp only [fn513, mkFn]
 (ctx_mentions Ua Yb)
 refine Mine.L.list rfl ?_; intro _
 (ctx_mentions Yl Yc Yl Yc Yl Yc Yl Yc Yl Yc Zh)
 refine Qaf (Qac (n := 5) (by kd_p)) fun x => ?_
 (ctx_mentions Zc)
 exact ⟨_, List.Sublist.refl _, q x _ _ _ _ _⟩
end
end
section
noncomputable def fn525 : FnIn 525 := by
 refine' mkFn ?ok ?hb
 case ok => intro P; k_is
 case hb => exact rfl
@[reducible] noncomputable def N525 : Nm := ⟨["tool", "node", "known", "level", "low", "high", "ones"], ["abs", "_law_ones", "_law_table", "_law_all"]⟩
theorem Qvd : ScOk fn525.fd.scope.names N525.loc N525.glo := by
 refine Qah ?_
 kcf_m
theorem Qwj (P : Params) : FnOk (hK P) 525 fn525.fd fn525.body := ⟨⟨_, _, _, fn525.ok P⟩, by kcf_m, fn525.hb, rfl, rfl, rfl, rfl, rfl, by kcf_m⟩
section
theorem band_nat (x y : Nat) : Builtin.bitAnd (x : Int) (y : Int) = ((x &&& y : Nat) : Int) := by
 rw [bitAnd_pp (by exact Qdc) (by exact Qdc), Int.toNat_natCast, Int.toNat_natCast]
theorem bor_nat (x y : Nat) : Builtin.bitOr (x : Int) (y : Int) = ((x ||| y : Nat) : Int) := by
 unfold Builtin.bitOr
 have hx : ¬ 0 ≤ Builtin.bitNot (x : Int) := by unfold Builtin.bitNot; exact Qto
 have hy : ¬ 0 ≤ Builtin.bitNot (y : Int) := by unfold Builtin.bitNot; exact Qto
 rw [bitAnd_nn hx hy]
 have e : ∀ z : Int, Builtin.bitNot (Builtin.bitNot z) = z := fun z => by unfold Builtin.bitNot; exact Q2o
 rw [e, e, e, Int.toNat_natCast, Int.toNat_natCast]
theorem Qnw (P : Params) : DefIs (hK P) "_law_table" 525 := ⟨.inl (by k_is), by k_is⟩
theorem Qf1 (P : Params) : DefIs (hK P) "_law_ones" 513 := ⟨.inl (by k_is), by k_is⟩
theorem Qlb {p : Nat} (h : p < 5) : ([2863311530, 3435973836, 4042322160, 4278255360, 4294901760] : List Int)[p]? = some (onesN 5 p : Int) := by
 match p, h with
 | 0, _ => decide +kernel
 | 1, _ => decide +kernel
 | 2, _ => decide +kernel
 | 3, _ => decide +kernel
 | 4, _ => decide +kernel
theorem Qc1 {t1 t2 t3 t4 t5 : Tok} {k : Int} {p : Nat} (hp : p < 5) (hk : k = (p : Int)) : ∃ t, (onesL t1 t2 t3 t4 t5)[k.toNat]? = some (.int (onesN 5 p : Int) t) := by
 subst hk
 rw [Int.toNat_natCast]
 exact Qap (.cons _ _ (.cons _ _ (.cons _ _ (.cons _ _ (.cons _ _ .nil))))) (Qlb hp)
noncomputable def Kn (σ : Sg) (kvs : List (Int × Value)) : Prop := (valueAt kvs 1).isSome = true ∧ ∀ u x, valueAt kvs u = some x → ∃ t f, x = .int (tb 5 σ.order f : Int) t ∧ Den σ u f
theorem Kn.ext {σ σ' : Sg} {kvs : List (Int × Value)} (e : Ext σ σ') (h : Kn σ kvs) : Kn σ' kvs := ⟨h.1, fun u x hx => let ⟨t, f, h1, h2⟩ := h.2 u x hx; ⟨t, f, by rw [e.ord]; exact h1, h2.ext e⟩⟩
theorem Qen {p : Nat} (hp : p < 5) : onesN 5 p ≤ 4294967295 := by have := Qdw (2 ^ 5) fun r => r.testBit p; unfold onesN; omega
theorem Qpo (od : List Int) (f : BF) : tb 5 od f ≤ 4294967295 := by have := Qh6 5 od f; omega
theorem Qdq {x : Nat} (h : x ≤ 4294967295) : (4294967295 : Int) - (x : Int) = ((2 ^ 2 ^ 5 - 1 - x : Nat) : Int) := by
 rw [show (2 ^ 2 ^ 5 - 1 : Nat) = 4294967295 by decide]; exact Q2n h
theorem Qk3 (n : Nat) : ∀ (N : Nm) (Ψ : Frm hK N W) (vals : Vals) (b : Mg) (σ : Sg) (Rl : Led) (ka : Addr) (ko : Obj) (kvs : List (Int × Value)) (k u : Int) (f : BF) (tu : Tok) (Q : VQ),
  Good W sa b σ → Room Ψ.A (n + 6) → Full σ → ((σ.nv : Int) - k).toNat ≤ n → Vd σ k u → Den σ u f → ko.IsDictOf (intKind W.prog W.w) kvs → Kn σ kvs → kvs.length + 2 ^ n ≤ 1000000 →
  (∀ t' ko' kvs', ko'.IsDictOf (intKind W.prog W.w) kvs' → Kn σ kvs' → kvs'.length + 1 ≤ kvs.length + 2 ^ n → Q (.int (tb 5 σ.order f : Int) t') vals (mgL b ++ (ka, ko') :: Rl)) →
  WA Ψ (call (.ref 525) [.ref sa, .int u tu, .ref ka]) Q vals (mgL b ++ (ka, ko) :: Rl) := by
 induction n using Nat.strongRecOn with
 | ind n ih =>
  intro N Ψ vals b σ Rl ka ko kvs k u f tu Q G hr F hn hu df hko hkn hz q
  have hp := Nat.two_pow_pos n
  refine Qaa (N' := N525) (Qwj _) Qvd hr (binds := [("tool", .ref sa), ("node", .int u tu), ("known", .ref ka)]) (rest := ["level", "low", "high", "ones"]) (fun s X => .of_eq rfl) rfl [some (.ref sa), some (.int u tu), some (.ref ka), none, none, none, none] rfl ?_
  intro Ψ' he hr'
  have O := odOf G F
  have ok := G.ok
  have at0 := G.at'
  have hs := G.hs
  have hcm : ∀ {x : Obj}, (ka, x) ∈ mgL b ++ (ka, x) :: Rl := mr (.head _)
  dsimp only [fn525, mkFn]
  (ctx_mentions Ua Ya Xf Fb Pa Yo Vb Zh Yu Va)
  refine Qa9 (intKind_is _ _ _ _) hcm hko ?_
  (ctx_mentions Zr)
  let J : Vals → Led → Prop := fun vals' l' => Ex6 fun o1 o2 o3 o4 ko' kvs' => An6 (ko'.IsDictOf (intKind W.prog W.w) kvs') (Kn σ kvs') (kvs'.length + 1 ≤ kvs.length + 2 ^ n) ((valueAt kvs' (iabs u)).isSome = true) (l' = mgL b ++ (ka, ko') :: Rl) (vals' = [some (.ref sa), some (.int u tu), some (.ref ka), o1, o2, o3, o4])
  refine Qgz J (Qak (fun h1 => ?_) fun h1 => ?_) ?_
  ·obtain ⟨i', v, x, hnd, hle⟩ : ∃ i' v x, σ.node (iabs u) = some (i', v, x) ∧ k ≤ i' := by
    have hne : iabs u ≠ 1 := fun e1 => by
     have h1k := hkn.1
     change (!(valueAt kvs (iabs u)).isSome) = true at h1
     rw [e1, h1k] at h1; cases h1
    rcases hu.cases with (e1 | e1) | h
    ·exact absurd (by rw [e1]; decide) hne
    ·exact absurd (by rw [e1]; decide) hne
    ·exact h
   have o := ok.nd _ _ _ _ hnd
   have hnv := F.nv
   kcj_m
   obtain ⟨f0, hf0⟩ := Vd.den ok o.2.2.2.2.1
   obtain ⟨f1, hf1⟩ := Vd.den ok o.2.2.2.2.2
   obtain ⟨p1, p2, p3⟩ := O.plc_ok o.1 (show i' < ((5 : Nat) : Int) by have := o.2.1; exact Qmd hnv this)
   kd_p1
   obtain ⟨m, rfl⟩ : ∃ m, n = m + 1 := ⟨n - 1, by have := o.2.1; exact Qsj hn hle this⟩
   have h2p : 2 ^ (m + 1) = 2 * 2 ^ m := by rw [Nat.pow_succ]; exact Qrf
   have hp1 := Nat.two_pow_pos m
   (ctx_mentions Ua)
   refine Mine.L.asT rfl rfl ?_; intro _
   (ctx_mentions Fa Va Ic Vb Zh)
   refine Qo4 G (hr'.less (by exact Qqk)) hnd fun a t1 t2 t3 nq dd sl hm => ?_
   refine R.unp hr'.hh hm rfl rfl ?_
   (ctx_mentions Yw Vc Yw Vc Yw Vc ZG Zb Ua Xa Yk Fb)
   refine Mine.L.funR (by nest_cls) (Qf1 _) ?_; intro _
   (ctx_mentions Zh)
   refine Qfx (hr'.less (by exact Qqk)) fun xo s1 s2 s3 s4 s5 => ?_
   (ctx_mentions Ye Fa Va Ic Vb Zh)
   refine Qga G (hr'.less (by exact Qqk)) o.1 p3 fun tv => ?_
   (ctx_mentions Yc Yr)
   obtain ⟨to, hto⟩ := Qc1 (t1 := s1) (t2 := s2) (t3 := s3) (t4 := s4) (t5 := s5) p1 (show (101 : Int) + (plc σ.order i' : Int) - 101 = (plc σ.order i' : Int) by exact Qmc)
   refine Qal (vs := onesL _ _ _ _ _) (mr (.head _)) (by exact Q2m) (by exact Q2l p1) hto ?_
   (ctx_mentions Vc Zb Ua Xc Ye Ye Fb)
   refine WA.sublist (mgL b ++ (ka, ko) :: Rl) (sA (sD)) ?_
   refine Mine.L.funR (by nest_cls) (Qnw _) ?_; intro _
   (ctx_mentions Vb Vb Vb Zh)
   refine ih m (by exact Ql7) _ Ψ' _ b σ Rl ka ko kvs (i' + 1) x f1 _ _ G (hr'.less (by exact Qtn)) F (by exact Qrd hle hn) o.2.2.2.2.2 hf1 hko hkn (by exact Q2k hz h2p) fun tx ko1 kvs1 hko1 hkn1 hl1 => ?_
   (ctx_mentions Va)
   refine Qcm fun ta => ?_
   (ctx_mentions Ye Fb)
   refine Mine.L.funR (by nest_cls) (Qnw _) ?_; intro _
   (ctx_mentions Vb Vb Vb Zh)
   refine ih m (by exact Ql7) _ Ψ' _ b σ Rl ka ko1 kvs1 (i' + 1) v f0 _ _ G (hr'.less (by exact Qtn)) F (by exact Qrd hle hn) o.2.2.2.2.1 hf0 hko1 hkn1 (by exact Q2j hz h2p hl1) fun tx ko2 kvs2 hko2 hkn2 hl2 => ?_
   (ctx_mentions Ye Pa Va Yr)
   refine Qcm fun tb' => ?_
   refine Qfg fun tc => ?_
   (ctx_mentions Va Fb Pa Yo Vb Zh Yu)
   rw [Qdq (Qen p1), band_nat, band_nat, bor_nat, O.tb_node o.1 (show i' < ((5 : Nat) : Int) by have := o.2.1; exact Qmd hnv this)]
   refine Qbh (pre := mgL b) (post := Rl) (intKind_is _ _ _ _) rfl hko2 (by rw [Qae]; exact Q2i hz h2p hl1 hl2) fun ko3 hko3 => ?_
   (ctx_mentions Zb Za)
   refine ⟨rfl, _, _, _, _, ko3, _, hko3, ⟨?_, ?_⟩, ?_, ?_, rfl, rfl⟩
   ·show (valueAt (stored kvs2 (iabs u) _) 1).isSome = true
    rw [valueAt_stored]
    generalize iabs u = z
    split
    ·rfl
    ·exact hkn2.1
   ·intro u' x' hx'
    change valueAt (stored kvs2 (iabs u) _) u' = some x' at hx'
    rw [valueAt_stored] at hx'
    have hdd := Den.node hnd hf0 hf1
    generalize iabs u = z at hx' hdd
    split at hx'
    ·rename_i hu'
     cases hx'
     exact ⟨tc, _, rfl, by rw [hu']; exact hdd⟩
    ·exact hkn2.2 u' x' hx'
   ·have h9 := Qa6 kvs2 (iabs u) (.int (tb 5 σ.order fun a => if a i' = true then f1 a else f0 a : Int) tc)
    refine Nat.le_trans (Nat.succ_le_succ h9) ?_
    exact Q2h h2p hl1 hl2
   ·show (valueAt (stored kvs2 (iabs u) _) (iabs u)).isSome = true
    rw [valueAt_stored, if_pos rfl]; rfl
  ·(ctx_mentions Za)
   exact ⟨rfl, _, _, _, _, ko, kvs, hko, hkn, by exact Q2g hp, by simpa using h1, rfl, rfl⟩
  rintro _ _ ⟨o1, o2, o3, o4, ko', kvs', hko', hkn', hl', hin, rfl, rfl⟩
  obtain ⟨x, hx⟩ := Option.isSome_iff_exists.mp hin
  obtain ⟨tx, f', rfl, df'⟩ := hkn'.2 _ _ hx
  (ctx_mentions Zb Ua Yb Yg Xf Va Yc Zn Zr)
  refine Qak (fun h2 => ?_) fun h2 => ?_
  ·have h2' : 0 < u := by simpa using h2
   (ctx_mentions Yk Va Fb Pa Yo Vb Zh Yu)
   refine dTail hcm hko' (Qaw (intKind_is _ _ _ _) hcm hko' hx ?_) (by with_unfolding_all rfl)
   (ctx_mentions Zc)
   refine ⟨_, List.Sublist.refl _, ?_⟩
   rw [Qam h2'] at df'
   rw [df.fn df'] at q
   exact q _ ko' kvs' hko' hkn' hl'
  ·have h2' : u < 0 := by have := hu.ne0; have : ¬ 0 < u := by simpa using h2
                          exact Q2f (by assumption) this
   (ctx_mentions Ye Pa Yk Va Fb Pa Yo Vb Zh Yu)
   refine dTail hcm hko' (Qaw (intKind_is _ _ _ _) hcm hko' hx ?_) (by with_unfolding_all rfl)
   (ctx_mentions Yr Zc)
   refine ⟨_, List.Sublist.refl _, ?_⟩
   rw [Qdq (Qpo _ _), tb_not]
   have e1 : iabs u = -u := by unfold iabs; rw [if_pos h2']
   rw [e1] at df'
   have := df'.not
   rw [Int.neg_neg] at this
   rw [df.fn this] at q
   exact q _ ko' kvs' hko' hkn' hl'
end
end
section
noncomputable def fn532 : FnIn 532 := by
 refine' mkFn ?ok ?hb
 case ok => intro P; k_is
 case hb => exact rfl
@[reducible] noncomputable def N532 : Nm := ⟨["table", "place", "every", "step", "turned"], ["_law_ones", "_law_all"]⟩
theorem Qvc : ScOk fn532.fd.scope.names N532.loc N532.glo := by
 refine Qah ?_
 kcf_m
theorem Qwi (P : Params) : FnOk (hK P) 532 fn532.fd fn532.body := ⟨⟨_, _, _, fn532.ok P⟩, by kcf_m, fn532.hb, rfl, rfl, rfl, rfl, rfl, by kcf_m⟩
section
theorem Qnv (P : Params) : DefIs (hK P) "_law_thrown" 532 := ⟨.inl (by k_is), by k_is⟩
theorem Qru (i : Nat) : (2 : Int) ^ ((2 : Int) ^ ((i : Int)).toNat).toNat = ((2 ^ 2 ^ i : Nat) : Int) := by
 have : ((2 : Int) ^ ((i : Int)).toNat).toNat = 2 ^ i := by
  rw [Int.toNat_natCast, show (2 : Int) ^ i = ((2 ^ i : Nat) : Int) by push_cast; rfl, Int.toNat_natCast]
 rw [this]; push_cast; rfl
theorem Qm9 {od : List Int} (O : Od 5 od) {i : Nat} (hi : i < 5) (g : BF) :
  Int.fdiv (Builtin.bitAnd (tb 5 od g) (onesN 5 i)) ((2 ^ 2 ^ i : Nat) : Int) + Builtin.bitAnd (tb 5 od g) (4294967295 - onesN 5 i) * ((2 ^ 2 ^ i : Nat) : Int) = (tb 5 od (fun a => g (upd a (lev od i) (!a (lev od i)))) : Int) := by
 rw [← O.tb_turn hi, Qdq (Qen hi), band_nat, band_nat, Int.fdiv_eq_ediv_of_nonneg _ (Int.natCast_nonneg _)]
 push_cast
 rfl
noncomputable def S1 (l : Int) : Int → Bool := fun j => decide (j = l)
theorem Qk5 (e : Bool) (f : BF) : qf e (fun _ => false) f = f := Qh9 fun a a' h => by
 have : a' = a := funext fun j => h j rfl
 rw [this]
theorem Qjb (e : Bool) (l : Int) (f : BF) : qf e (S1 l) f = jn e f fun a => f (upd a l (!a l)) := by
 have := Qk6 (e := e) (S := S1 l) (S' := fun _ => false) (j := l) (by simp [S1]) (fun k hk => by simp [S1, hk]) rfl f
 rw [this]
 simp only [Qk5]
theorem Qna {od : List Int} (O : Od 5 od) {every : Bool} {i : Nat} (hi : i < 5) {f : BF} {tt tp : Tok} {Q : VQ} (hr : Room Ψ.A 4)
  (q : ∀ t, Q (.int (tb 5 od (qf every (S1 (lev od i)) f) : Int) t) vals Rl) :
  WA Ψ (call (.ref 532) [.int (tb 5 od f : Int) tt, .int (i : Int) tp, .bool every]) Q vals Rl := by
 refine Qaa (N' := N532) (Qwi _) Qvc hr (binds := [("table", .int (tb 5 od f : Int) tt), ("place", .int (i : Int) tp), ("every", .bool every)]) (rest := ["step", "turned"]) (fun s X => .of_eq rfl) rfl [some (.int (tb 5 od f : Int) tt), some (.int (i : Int) tp), some (.bool every), none, none] rfl ?_
 intro Ψ' he hr'
 have hh := hr'.hh
 dsimp only [fn532, mkFn]
 (ctx_mentions Ua Xa Ye Yc Ye Yc Va)
 refine Qa8 (by exact Qdc) (by exact Qkh hi) fun _ => ?_
 refine Qa8 (by have := Int.pow_pos (n := 2) (m := ((i : Int)).toNat) (by decide); exact Qof this) (by
   rw [Int.toNat_natCast, show (2 : Int) ^ i = ((2 ^ i : Nat) : Int) by push_cast; rfl]
   have : 2 ^ i ≤ 2 ^ 5 := Nat.pow_le_pow_right (by decide) (by exact Q2e hi)
   exact Q2d this) fun ts => ?_
 rw [Qru]
 have hs1 : 2 ^ 2 ^ i ≤ 65536 := Nat.le_trans (Nat.pow_le_pow_right (by decide) (Nat.pow_le_pow_right (by decide) (show i ≤ 4 by exact Q2c hi))) (by decide)
 have hs0 := Nat.two_pow_pos (2 ^ i)
 have T := Qm9 O hi f
 have hbd : (Builtin.bitAnd (tb 5 od f) (4294967295 - onesN 5 i)).natAbs < 2 ^ 64 := by
  rw [Qdq (Qen hi), band_nat]
  have h1 : (tb 5 od f) &&& (2 ^ 2 ^ 5 - 1 - onesN 5 i) ≤ 4294967295 := Nat.le_trans Nat.and_le_left (Qpo _ _)
  exact Qtm h1
 have hbd2 : (Builtin.bitAnd (tb 5 od f) (onesN 5 i)).natAbs < 2 ^ 64 := by
  rw [band_nat]
  have h1 : (tb 5 od f) &&& (onesN 5 i) ≤ 4294967295 := Nat.le_trans Nat.and_le_left (Qpo _ _)
  exact Qtm h1
 generalize 2 ^ 2 ^ i = step at *
 (ctx_mentions Vc Zb Ua Xa Ye Ye Ye Va Yk Fb)
 refine Mine.L.funR (by nest_cls) (Qf1 _) ?_; intro _
 (ctx_mentions Zh)
 refine Qfx (M := []) (hr'.less (by kd_p)) fun xo s1 s2 s3 s4 s5 => ?_
 (ctx_mentions Va)
 obtain ⟨to, hto⟩ := Qc1 (t1 := s1) (t2 := s2) (t3 := s3) (t4 := s4) (t5 := s5) hi (show (i : Int) = (i : Int) from rfl)
 refine Qal (vs := onesL _ _ _ _ _) (.head _) (by exact Qdc) (by exact Qoe hi) hto ?_
 refine WA.sublist _ (sD) ?_
 refine Qcm fun _ => ?_
 (ctx_mentions Va)
 refine Qck (by exact Qqj hs0) (PyProof.noPylong_small (by exact Q2b hs1)) fun _ => ?_
 (ctx_mentions Ye Ye Va Ye Pa Yk Fb)
 refine Mine.L.funR (by nest_cls) (Qf1 _) ?_; intro _
 (ctx_mentions Zh)
 refine Qfx (M := []) (hr'.less (by kd_p)) fun xo s1 s2 s3 s4 s5 => ?_
 (ctx_mentions Va)
 obtain ⟨to, hto⟩ := Qc1 (t1 := s1) (t2 := s2) (t3 := s3) (t4 := s4) (t5 := s5) hi (show (i : Int) = (i : Int) from rfl)
 refine Qal (vs := onesL _ _ _ _ _) (.head _) (by exact Qdc) (by exact Qoe hi) hto ?_
 refine WA.sublist _ (sD) ?_
 (ctx_mentions Yr)
 refine Qcm fun _ => ?_
 (ctx_mentions Va)
 refine Qb7 (IntMulOk.of_left (intBits_le_64 (by exact Q2a hbd) (by exact Q19 hbd))) fun _ => ?_
 refine Yq fun _ => ?_
 rw [T]
 cases every with
 | true =>
  (ctx_mentions Vc Zb Ua Yb Yg Xi Va Zr Mb Ye Va Va)
  refine Qcm fun tn => ?_
  have hE : Builtin.bitAnd (tb 5 od f) (tb 5 od fun a => f (upd a (lev od i) !a (lev od i))) = (tb 5 od (qf true (S1 (lev od i)) f) : Int) := by
   rw [Qjb, tb_jn, band_nat]; rfl
  rw [hE]
  (ctx_mentions Zc)
  exact ⟨_, List.Sublist.refl _, q _⟩
 | false =>
  (ctx_mentions Vc Zb Ua Yb Yg Xi Va Zr Ma Ye Va Va)
  refine Qfg fun tn => ?_
  have hE : Builtin.bitOr (tb 5 od f) (tb 5 od fun a => f (upd a (lev od i) !a (lev od i))) = (tb 5 od (qf false (S1 (lev od i)) f) : Int) := by
   rw [Qjb, tb_jn, bor_nat]; rfl
  rw [hE]
  (ctx_mentions Zc)
  exact ⟨_, List.Sublist.refl _, q _⟩
end
end
section
noncomputable def fn539 : FnIn 539 := by
 refine' mkFn ?ok ?hb
 case ok => intro P; k_is
 case hb => exact rfl
@[reducible] noncomputable def N539 : Nm := ⟨["tool", "node", "row", "value", "level", "low", "high"], ["abs"]⟩
theorem Qvb : ScOk fn539.fd.scope.names N539.loc N539.glo := by
 refine Qah ?_
 kcf_m
theorem Qwh (P : Params) : FnOk (hK P) 539 fn539.fd fn539.body := ⟨⟨_, _, _, fn539.ok P⟩, by kcf_m, fn539.hb, rfl, rfl, rfl, rfl, rfl, by kcf_m⟩
section
theorem Qlq (P : Params) : DefIs (hK P) "_law_holds" 539 := ⟨.inl (by k_is), by k_is⟩
theorem Qc0 (a : Int) (r : Nat) (h : r < 9000) : Builtin.divisionGoesByPylong a ((2 : Int) ^ ((r : Int)).toNat) = false := by
 refine PyProof.noPylong_of_log2 ?_
 rw [Int.toNat_natCast, Int.natAbs_pow]
 show (2 ^ r).log2 < 9000
 rw [Nat.log2_two_pow]; exact h
theorem Qgq {c : Nat} {i : Nat} : (Int.fmod (Int.fdiv (c : Int) (2 ^ ((i : Int)).toNat)) 2 == 1) = c.testBit i := by
 rw [Int.toNat_natCast, show (2 : Int) ^ i = ((2 ^ i : Nat) : Int) by push_cast; rfl, Int.fdiv_eq_ediv_of_nonneg _ (Int.natCast_nonneg _), Int.fmod_eq_emod_of_nonneg _ (by decide), Nat.testBit_eq_decide_div_mod_eq]
 rw [Bool.eq_iff_iff, beq_iff_eq, decide_eq_true_eq]
 norm_cast
theorem Qln {u : Int} {r : Nat} {f : BF} {tu tr : Tok} {Q : VQ} (G : Good W sa b σ) (hr : Room Ψ.A 4) (F : Full σ) (du : Den σ u f) (hr32 : r < 32)
  (q : Q (.bool (f (asg 5 σ.order r))) vals (mgL b ++ Rl)) :
  WA Ψ (call (.ref 539) [.ref sa, .int u tu, .int (r : Int) tr]) Q vals (mgL b ++ Rl) := by
 refine Qaa (N' := N539) (Qwh _) Qvb hr (binds := [("tool", .ref sa), ("node", .int u tu), ("row", .int (r : Int) tr)]) (rest := ["value", "level", "low", "high"]) (fun s X => .of_eq rfl) rfl [some (.ref sa), some (.int u tu), some (.int (r : Int) tr), none, none, none, none] rfl ?_
 intro Ψ' he hr'
 have hh := hr'.hh
 have O := odOf G F
 have ok := G.ok
 have at0 := G.at'
 have hs := G.hs
 have hnv := F.nv
 dsimp only [fn539, mkFn]
 (ctx_mentions Ua Xa Ze Vc Zb Ua ZA)
 let J : Nat → Vals → Led → Prop := fun m vals' l' => Ex8 fun (k u' : Int) (f' : BF) (v : Bool) (t' : Tok) (o1 o2 o3 : Option Value) => An7 (m = ((5 : Int) - k).toNat) (0 ≤ k) (Vd σ k u') (Den σ u' f') (f (asg 5 σ.order r) = (v == f' (asg 5 σ.order r))) (vals' = [some (.ref sa), some (.int u' t'), some (.int (r : Int) tr), some (.bool v), o1, o2, o3]) (l' = mgL b ++ Rl)
 refine WC.inv J ?_ 5 ⟨0, u, f, true, tu, none, none, none, rfl, Int.le_refl _, du.vd ok, du, by simp, rfl, rfl⟩
 rintro m _ _ ⟨k, u', f', v, t', o1, o2, o3, hm, hk0, hv, hd, hf, rfl, rfl⟩ again
 refine Mine.WC.letV ?_; intro vv
 refine WC.while1 ?_
 (ctx_mentions Xf Fb Pa Yo Vb Zh Yu Yc Zk Zr)
 refine Qak (fun h1 => ?_) fun h1 => ?_
 ·have h1' : iabs u' ≠ 1 := by simpa using h1
  obtain ⟨i', y, x, hnd, hle⟩ : ∃ i' y x, σ.node (iabs u') = some (i', y, x) ∧ k ≤ i' := by
   rcases hv.cases with (e1 | e1) | h
   ·exact absurd (by rw [e1]; decide) h1'
   ·exact absurd (by rw [e1]; decide) h1'
   ·exact h
  have o := ok.nd _ _ _ _ hnd
  obtain ⟨p1, p2, p3⟩ := O.plc_ok o.1 (show i' < ((5 : Nat) : Int) by have := o.2.1; exact Qmd hnv this)
  (ctx_mentions Ua)
  refine Mine.L.asT rfl rfl ?_; intro _
  (ctx_mentions Fa Va Ic Vb Zh)
  refine Qo4 G (hr'.less (by kd_p)) hnd fun a t1 t2 t3 nq dd sl hm => ?_
  refine R.unp hr'.hh hm rfl rfl ?_
  (ctx_mentions Yw Vc Yw Vc Yw Vc ZG Zb Ua Xa Xe Va Xe Va Yc Zn)
  refine Qhy ?_
  (ctx_mentions Vc Zb Ua Xa Yg Xf Ye Ye Va Ye Yc Ye Fa Va Ic Vb Zh)
  refine Qga G (hr'.less (by kd_p)) o.1 p3 fun tv => ?_
  (ctx_mentions Yc Yr)
  rw [show (101 : Int) + (plc σ.order i' : Int) - 101 = (plc σ.order i' : Int) by exact Qmc]
  refine Qa8 (by exact Qdc) (by exact Qkh p1) fun _ => ?_
  refine Qck (by have := Int.pow_pos (n := 2) (m := ((plc σ.order i' : Int)).toNat) (by decide); exact Qod this) (Qc0 _ _ (by exact Qqi p1)) fun _ => ?_
  (ctx_mentions Yc)
  refine Qbi (by decide) fun _ => ?_
  (ctx_mentions Yc Zj Zr)
  rw [Qgq]
  obtain ⟨f0, f1, d0, d1, ef⟩ : ∃ f0 f1, Den σ y f0 ∧ Den σ x f1 ∧ ∀ a, f' a = (decide (0 < u') == (if a i' then f1 a else f0 a)) := by
   rcases Int.lt_or_gt_of_ne hv.ne0 with h | h
   ·have e : u' = -(iabs u') := by unfold iabs; rw [if_pos h]; exact Qtw
    have hp : 0 < iabs u' := by unfold iabs; rw [if_pos h]; exact Qtp h
    have hd' := hd
    rw [e] at hd'
    obtain ⟨g, dg, rfl⟩ := Qav hp hd'
    obtain ⟨g0, g1, h1, h2, rfl⟩ := dg.node_inv hnd
    exact ⟨g0, g1, h1, h2, fun a => by rw [decide_eq_false (by exact Q18 e hp)]; simp⟩
   ·rw [Qam h] at hnd
    obtain ⟨g0, g1, h1, h2, rfl⟩ := hd.node_inv hnd
    exact ⟨g0, g1, h1, h2, fun a => by rw [decide_eq_true h]; simp⟩
  have hbit : asg 5 σ.order r i' = r.testBit (plc σ.order i') := by unfold asg; rw [if_pos ⟨o.1, by have := o.2.1; exact Qmd hnv this⟩]
  have hstep : ∀ g : Bool, (if asg 5 σ.order r i' then f1 (asg 5 σ.order r) else f0 (asg 5 σ.order r)) = g → f (asg 5 σ.order r) = ((v == decide (0 < u')) == g) := fun g hg => by
   rw [hf, ef, hg]
   cases v <;> cases decide (0 < u') <;> cases g <;> rfl
  refine Qak (fun h2 => ?_) fun h2 => ?_
  ·(ctx_mentions Va Vc Zb Za Zu)
   refine again ((5 : Int) - (i' + 1)).toNat _ _ (by have := o.2.1; exact Qtl hnv (by assumption) hle this) ⟨i' + 1, x, f1, (v == decide (0 < u')), _, _, _, _, rfl, by exact Qoh hk0 hle, o.2.2.2.2.2, d1, hstep _ (by rw [hbit, h2, if_pos rfl]), rfl, rfl⟩
  ·(ctx_mentions Va Vc Zb Za Zu)
   refine again ((5 : Int) - (i' + 1)).toNat _ _ (by have := o.2.1; exact Qtl hnv (by assumption) hle this) ⟨i' + 1, y, f0, (v == decide (0 < u')), _, _, _, _, rfl, by exact Qoh hk0 hle, o.2.2.2.2.1, d0, hstep _ (by rw [hbit, h2, if_neg Bool.false_ne_true]), rfl, rfl⟩
 ·have h1' : iabs u' = 1 := by simpa using h1
  (ctx_mentions Za Zb Ua Yb Xe Va Xe Va Yc Zj)
  refine Qhy ?_
  (ctx_mentions Zc)
  refine ⟨_, List.Sublist.refl _, ?_⟩
  have e : f' (asg 5 σ.order r) = (u' == 1) := by
   rcases Qbm u' with e1 | e1
   ·rw [h1'] at e1; subst e1; rw [hd.one_inv]; rfl
   ·rw [h1'] at e1; subst e1
    obtain ⟨g, dg, rfl⟩ := Qav (u := 1) (by decide) hd
    rw [dg.one_inv]; rfl
  rw [hf, e] at q
  exact q
end
end
section
section
variable {K : Params → Frag} {N : Nm} {W : Wd} {Ψ : Frm K N W} {vals : Vals} {l : Led}
theorem Qmp {a : Addr} {vs : List Value} {n : Nat} {ns : List Int} {Q : VQ} (hh : Ψ.A.handled = none) (hm : (a, listOf vs.toArray n) ∈ l) (hi : IntsAre vs ns) (q : ∀ t, Q (.int ns.sum t) vals l) : WA Ψ (call (.builtin "sum") [.ref a]) Q vals l := fun E s a' =>
 PyProof.Rows.LSm.sum_ints a'.F a'.N hh (lAt a' hm) hi fun h' tk t' F' N' => ⟨⟨rfl, rfl⟩, vals, l, ⟨F', N', a'.U, a'.G⟩, q t'⟩
theorem Qur {a b : Expr} {pos : Pos} {Q : VQ} (h : WA Ψ (eval a Ψ.env) (fun v vals l => WA Ψ (truthy v) (fun t vals l => if t = true then Q v vals l else WA Ψ (eval b Ψ.env) Q vals l) vals l) vals l) : WA Ψ (eval (.BoolOp .Or [a, b] pos) Ψ.env) Q vals l := by
 show WA Ψ (boolOp pos .Or [eval a Ψ.env, eval b Ψ.env]) Q vals l
 unfold boolOp
 refine WA.bind (h.mono fun v vals' l' h' => WA.bind (WA.standAt (WA.bind (WA.holding (h'.mono fun t vals'' l'' h'' => ?_)))))
 cases t with
 | true => exact WA.pure h''
 | false => exact h''
theorem Qi3 {a b : Expr} {pos : Pos} {Q : VQ} (h : WA Ψ (eval a Ψ.env) (fun v vals l => WA Ψ (truthy v) (fun t vals l => if t = true then WA Ψ (eval b Ψ.env) Q vals l else Q v vals l) vals l) vals l) : WA Ψ (eval (.BoolOp .And [a, b] pos) Ψ.env) Q vals l := by
 show WA Ψ (boolOp pos .And [eval a Ψ.env, eval b Ψ.env]) Q vals l
 unfold boolOp
 refine WA.bind (h.mono fun v vals' l' h' => WA.bind (WA.standAt (WA.bind (WA.holding (h'.mono fun t vals'' l'' h'' => ?_)))))
 cases t with
 | true => exact h''
 | false => exact WA.pure h''
theorem Qfr (elt target iter : Expr) (scope : Scope) (pos : Pos) (it acc : Value) (env : Env) :
  compTurn (.ListComp elt [⟨target, iter, [], 0⟩] scope pos) 0 it acc env = (PySem.standAt iter.pos >>= fun _ => pyNext it >>= fun r => match r with
   | none => Pure.pure (.done .next)
   | some v => letOwnedTupleGo target it v >>= fun _ => assign target env v >>= fun _ =>
    (eval elt env >>= fun x => call (.builtin "list.append") [acc, x] >>= fun _ => Pure.pure ()) >>= fun _ =>
     again (.compLoop (.ListComp elt [⟨target, iter, [], 0⟩] scope pos) 0 it acc env)) := by rfl
theorem Qhk {elt target iter : Expr} {scope : Scope} {pos : Pos} {it acc : Value} {Q : FQ}
  (h : WA Ψ (pyNext it) (fun r vals l => match r with
   | none => Q .next vals l
   | some v => WA Ψ (letOwnedTupleGo target it v) (fun _ vals l => WA Ψ (assign target Ψ.env v) (fun _ vals l => WA Ψ (eval elt Ψ.env) (fun x vals l => WA Ψ (call (.builtin "list.append") [acc, x]) (fun _ vals l =>
     WC Ψ (.compLoop (.ListComp elt [⟨target, iter, [], 0⟩] scope pos) 0 it acc Ψ.env) Q vals l) vals l) vals l) vals l) vals l) vals l) :
  WC Ψ (.compLoop (.ListComp elt [⟨target, iter, [], 0⟩] scope pos) 0 it acc Ψ.env) Q vals l := by
 intro R s a k
 refine codeAny_of_tree ?_
 show wpAny _ Ψ.A ((compTurn (.ListComp elt [⟨target, iter, [], 0⟩] scope pos) 0 it acc Ψ.env).onRaise (fun x => do noteFrame x Ψ.env; theTreesLotGoes x)) _ _ s
 refine wpAny_noted ?_
 rw [Qfr]
 refine wpAny_bind (wpAny_standAt (wpAny_bind (h.use a fun r s₁ v1 l1 S1 a1 h1 => ?_)))
 cases r with
 | none => exact wpAny_pure (k _ _ _ _ S1 a1 h1)
 | some v =>
  refine wpAny_bind (h1.use a1 fun _ s₂ v2 l2 S2 a2 h2 => wpAny_bind (h2.use a2 fun _ s₃ v3 l3 S3 a3 h3 => ?_))
  refine wpAny_bind (wpAny_bind (h3.use a3 fun y s₄ v4 l4 S4 a4 h4 => wpAny_bind (h4.use a4 fun _ s₅ v5 l5 S5 a5 h5 => wpAny_pure (wpAny_pure ?_))))
  exact ⟨rfl, h5 R s₅ a5 fun f s' v'' l'' S' a'' q => k f s' v'' l'' (((((S1.trans S2).trans S3).trans S4).trans S5).trans S') a'' q⟩
theorem Qbg {elt iter : Expr} {x : Str} {px pos : Pos} {scope : Scope} {cl : List (Str × Addr)} {Q : VQ} (hclos : closureFor scope Ψ.env = Pure.pure cl) (hkind : scope.kind = .function) (hcell : ∀ y ∈ scope.names, y.2 ≠ .cell)
  (hnames : ∀ y ∈ scope.names, y.2 = .local → scope.names.lookup y.1 = some .local) (gl : List Str) (sc : ScOk (relabel scope Ψ.env).names [x] gl)
  (h : WA Ψ (eval iter Ψ.env) (fun xv vals l => WA Ψ (pyIter xv) (fun it vals l => WA Ψ (PySem.newList []) (fun acc vals l => ∀ Ψ' : Frm K ⟨[x], gl⟩ W, Ψ'.env = compEnvC scope cl Ψ'.L Ψ.env → Ψ'.A = Ψ.A →
   (WC Ψ' (.compLoop (.ListComp elt [⟨.Name x px, iter, [], 0⟩] scope pos) 0 it acc Ψ'.env) (fun _ _ l' => ∃ l'', l''.Sublist l' ∧ Q acc vals l'') [none] l ∧
   WA Ψ' (pyIter it) (fun it' vals' l' => it' = it ∧ vals' = [none] ∧ l' = l) [none] l)) vals l) vals l) vals l)
  (hs : ∀ x, foldedSetIterable iter Ψ.env x = Pure.pure x := by intro _; rfl) :
  WA Ψ (eval (.ListComp elt [⟨.Name x px, iter, [], 0⟩] scope pos) Ψ.env) Q vals l := by
 show WA Ψ (comprehension (.ListComp elt [⟨.Name x px, iter, [], 0⟩] scope pos) scope Ψ.env iter.pos (PySem.newList []) false (eval iter Ψ.env) none) Q vals l
 refine Qgy (N' := ⟨[x], gl⟩) rfl hs hclos hkind hcell hnames sc ?_
 refine h.mono fun xv _ _ h1 => h1.mono fun it _ _ h2 => h2.mono fun acc _ _ h3 Ψ' e' a' => ?_
 obtain ⟨h4, h5⟩ := h3 Ψ' e' a'
 refine fun R s a k => codeAny_compStart_list (h4 R s a k) (h5.use a fun it' s' v' l' S a' ⟨q1, q2, q3⟩ => ?_)
 subst q1 q2 q3
 exact h4 R s' a' fun f s'' v'' l'' S' a'' q => k f s'' v'' l'' (S.trans S') a'' q
theorem Qku {elt iter : Expr} {x y : Str} {px py pos spos : Pos} {scope : Scope} {cl : List (Str × Addr)} {Q : FQ}
  (hsw : swapsWith (.ListComp elt [⟨.Name x px, iter, [], 0⟩] scope pos) (some (.Name y py)) spos.line Ψ.env = Pure.pure true)
  (hclos : closureFor scope Ψ.env = Pure.pure cl) (hkind : scope.kind = .function) (hcell : ∀ y ∈ scope.names, y.2 ≠ .cell)
  (hnames : ∀ y ∈ scope.names, y.2 = .local → scope.names.lookup y.1 = some .local) (gl : List Str) (sc : ScOk (relabel scope Ψ.env).names [x] gl)
  (h : WA Ψ (eval iter Ψ.env) (fun xv vals l => WA Ψ (pyIter xv) (fun it vals l => WA Ψ (PySem.newList []) (fun acc vals l => ∀ Ψ' : Frm K ⟨[x], gl⟩ W, Ψ'.env = compEnvC scope cl Ψ'.L Ψ.env → Ψ'.A = Ψ.A →
   (WC Ψ' (.compLoop (.ListComp elt [⟨.Name x px, iter, [], 0⟩] scope pos) 0 it acc Ψ'.env) (fun _ _ l' => ∃ l'' i, l''.Sublist l' ∧ NmI N.loc y i ∧ vhas vals i = true ∧ Q .next (vset vals i acc) l'') [none] l ∧
   WA Ψ' (pyIter it) (fun it' vals' l' => it' = it ∧ vals' = [none] ∧ l' = l) [none] l)) vals l) vals l) vals l)
  (hs : ∀ x, foldedSetIterable iter Ψ.env x = Pure.pure x := by intro _; rfl) :
  WA Ψ (exec (.Assign [.Name y py] (.ListComp elt [⟨.Name x px, iter, [], 0⟩] scope pos) spos) Ψ.env) Q vals l := by
 refine Qdj (N' := ⟨[x], gl⟩) (first := eval iter Ψ.env) hsw (fun _ => rfl) rfl hs hclos hkind hcell hnames sc ?_
 refine h.mono fun xv _ _ h1 => h1.mono fun it _ _ h2 => h2.mono fun acc _ _ h3 Ψ' e' a' => ?_
 obtain ⟨h4, h5⟩ := h3 Ψ' e' a'
 refine fun R s a k => codeAny_compStart_list (h4 R s a k) (h5.use a fun it' s' v' l' S a' ⟨q1, q2, q3⟩ => ?_)
 subst q1 q2 q3
 exact h4 R s' a' fun f s'' v'' l'' S' a'' q => k f s'' v'' l'' (S.trans S') a'' q
structure Src (W : Wd) (it : Addr) (n : Nat) (P : Nat → Value → Prop) (ob : Nat → Obj → Prop) (side : Led) : Prop where
 next : ∀ {K : Params → Frag} {N : Nm} {Ψ : Frm K N W} {vals : Vals} {i : Nat} {o : Obj} {pre post : Led} {Q : OQ}, i < n → ob i o → (∀ z ∈ side, z ∈ pre ++ post) → (∀ v o', P i v → ob (i + 1) o' → Q (some v) vals (pre ++ (it, o') :: post)) → WA Ψ (pyNext (.ref it)) Q vals (pre ++ (it, o) :: post)
 stop : ∀ {K : Params → Frag} {N : Nm} {Ψ : Frm K N W} {vals : Vals} {o : Obj} {pre post : Led} {Q : OQ}, Ψ.A.handled = none → ob n o → (∀ z ∈ side, z ∈ pre ++ post) → Q none vals (pre ++ post) → WA Ψ (pyNext (.ref it)) Q vals (pre ++ (it, o) :: post)
 self : ∀ {K : Params → Frag} {N : Nm} {Ψ : Frm K N W} {vals : Vals} {l : Led} {o : Obj} {Q : VQ}, (it, o) ∈ l → ob 0 o → Q (.ref it) vals l → WA Ψ (pyIter (.ref it)) Q vals l
theorem Src.list {it a : Addr} {vs : List Value} {k : Nat} : Src W it vs.length (fun i v => vs[i]? = some v) (fun i o => LiO o a i) [(a, listOf vs.toArray k)] where
 next := fun {K N Ψ vals i o pre post Q} hi ho hs q => by
  have hm : (a, listOf vs.toArray k) ∈ pre ++ (it, o) :: post := by
   have := hs _ (.head _)
   rcases List.mem_append.mp this with h | h
   ·exact List.mem_append_left _ h
   ·exact mr (.tail _ h)
  exact Qci rfl hm ho (List.getElem?_eq_getElem hi) fun o' ho' => q _ o' (List.getElem?_eq_getElem hi) ho'
 stop := fun {K N Ψ vals o pre post Q} hh ho hs q => by
  have hm : (a, listOf vs.toArray k) ∈ pre ++ (it, o) :: post := by
   have := hs _ (.head _)
   rcases List.mem_append.mp this with h | h
   ·exact List.mem_append_left _ h
   ·exact mr (.tail _ h)
  exact Qdi hh rfl hm ho (by rw [List.getElem?_eq_none_iff]; exact Q17) q
 self := fun {K N Ψ vals l o Q} hm ho q => fun E s a' => wpAny_pyIter_listiter ⟨o, (a'.N _ hm).1, ho.1, ho.2⟩ ⟨Same.refl s, vals, l, a', q⟩
theorem Src.range {it : Addr} {n : Nat} : Src W it n (fun i v => ∃ t, v = .int i t) (fun i o => i ≤ n ∧ o = rangeItObj i (n - i) 1) [] where
 next := fun {K N Ψ vals i o pre post Q} hi ho _ q => by
  obtain ⟨_, rfl⟩ := ho
  refine Qat (by exact Q16 hi) fun t => q _ _ ⟨t, rfl⟩ ⟨hi, ?_⟩
  rw [show ((i : Int) + 1) = ((i + 1 : Nat) : Int) by push_cast; rfl, show ((n : Int) - i - 1) = (n : Int) - ((i + 1 : Nat) : Int) by push_cast; exact Q15]
 stop := fun {K N Ψ vals o pre post Q} hh ho _ q => by
  obtain ⟨_, rfl⟩ := ho
  exact Qbf hh (by exact Q14) q
 self := fun {K N Ψ vals l o Q} hm ho q => by
  obtain ⟨_, rfl⟩ := ho
  exact Qbz hm q
theorem Qe7 {elt iter : Expr} {x : Str} {px pos : Pos} {scope : Scope} {gl : List Str} {Ψ : Frm K ⟨[x], gl⟩ W} {it acc : Addr} {n : Nat} {P : Nat → Value → Prop} {ob : Nat → Obj → Prop} {side : Led} {Rr : Nat → Value → Prop} {M Rl : Led} {o0 : Obj} {k0 : Nat} {Q : FQ} (S : Src W it n P ob side) (hh : Ψ.A.handled = none) (hn : n ≤ 1000000)
  (hs : ∀ z ∈ side, z ∈ M ++ Rl) (h0 : ob 0 o0) (xl : NmI [x] x Nat.zero)
  (helt : ∀ (i : Nat) (v : Value) (l' : Led) (Q' : VQ), i < n → P i v → (∀ z ∈ M ++ Rl, z ∈ l') → (∀ y, Rr i y → Q' y [some v] l') → WA Ψ (eval elt Ψ.env) Q' [some v] l')
  (q : ∀ (ys : List Value) (k : Nat) (v : Option Value), ys.length = n → (∀ i y, ys[i]? = some y → Rr i y) → Q .next [v] (M ++ (acc, listOf ys.toArray k) :: Rl)) :
  WC Ψ (.compLoop (.ListComp elt [⟨.Name x px, iter, [], 0⟩] scope pos) 0 (.ref it) (.ref acc) Ψ.env) Q [none] (M ++ (acc, listOf #[] k0) :: (it, o0) :: Rl) := by
 let J : Nat → Vals → Led → Prop := fun m vals' l' => ∃ (i : Nat) (o : Obj) (ys : List Value) (k : Nat) (v : Option Value), m = n - i ∧ i ≤ n ∧ ob i o ∧ ys.length = i ∧ (∀ j y, ys[j]? = some y → Rr j y) ∧ vals' = [v] ∧ l' = M ++ (acc, listOf ys.toArray k) :: (it, o) :: Rl
 refine WC.inv J ?_ n ⟨0, o0, [], k0, none, rfl, Nat.zero_le _, h0, rfl, fun j y h => by simp at h, rfl, rfl⟩
 rintro m _ _ ⟨i, o, ys, k, v, hm, hi, ho, hl, hR, rfl, rfl⟩ again
 have side' : ∀ {y : Obj}, ∀ z ∈ side, z ∈ (M ++ [(acc, y)]) ++ Rl := fun {y} z hz => by
  rcases List.mem_append.mp (hs z hz) with h | h
  ·exact List.mem_append_left _ (List.mem_append_left _ h)
  ·exact mr h
 have asoc : ∀ {y z : Addr × Obj}, M ++ y :: z :: Rl = (M ++ [y]) ++ z :: Rl := by intro y z; rw [List.append_assoc]; rfl
 refine Qhk ?_
 rw [asoc]
 by_cases hie : i = n
 ·subst hie
  refine S.stop hh ho side' ?_
  rw [List.append_assoc]
  exact q ys k v hl hR
 ·refine S.next (by exact Qek hi hie) ho side' fun y o' hP ho' => ?_
  show WA Ψ _ _ _ _
  refine Zy (Zz (Vc xl rfl ?_))
  refine helt i y _ _ (by exact Qek hi hie) hP (fun z hz => ?_) fun w hw => ?_
  ·rcases List.mem_append.mp hz with h | h
   ·exact List.mem_append_left _ (List.mem_append_left _ h)
   ·exact mr (.tail _ h)
  ·refine Qbn (pre := M) (by rw [← asoc]) (by exact Q13 hn hi hl) ?_
   refine again (n - (i + 1)) _ _ (by exact Q12 hm hi hie) ⟨i + 1, o', ys ++ [w], k + 1, _, rfl, by exact Q11 hi hie, ho', by rw [List.length_append, hl]; rfl, fun j z hz => ?_, rfl, rfl⟩
   by_cases hj : j < ys.length
   ·rw [List.getElem?_append_left hj] at hz; exact hR j z hz
   ·rw [List.getElem?_append_right (by exact Qki hj)] at hz
    have hj0 : j - ys.length = 0 := by
     have := (List.getElem?_eq_some_iff.mp hz).1
     simp at this; exact Qqh this
    rw [hj0] at hz
    have : j = i := by exact Qqg hl hj hj0
    subst this
    simp at hz
    rw [← hz]; exact hw
end
end
section
noncomputable def fn518 : FnIn 518 := by
 refine' mkFn ?ok ?hb
 case ok => intro P; k_is
 case hb => exact rfl
@[reducible] noncomputable def N518 : Nm := ⟨["limits", "value", "joined", "wanted", "digits", "votes"], ["sum", "range"]⟩
theorem sc518 : ScOk fn518.fd.scope.names N518.loc N518.glo := by
 refine Qah ?_
 kcf_m
theorem Qwk (P : Params) : FnOkC (hK P) 518 fn518.fd fn518.body := ⟨⟨_, _, _, fn518.ok P⟩, by kcf_m, fn518.hb, rfl, rfl, rfl, rfl, rfl, rfl⟩
theorem ck518 : fn518.fd.scope.names.lookup ("row" : Str) = some NameKind.cell := by kcf_m
theorem Qn5 (n : Nat) : cellsFrom n fn518.fd.scope.names [] = [(("row" : Str), n)] := by kcf_m
section
theorem Qpj {a : Addr} {vs : List Value} {n : Nat} {ns : List Int} {k : Int} {t : Tok} {l : Led} {Q : VQ} (hm : (a, listOf vs.toArray n) ∈ l) (hi : IntsAre vs ns) (q : Q (.bool (ns.contains k)) vals l) : WA Ψ (compareOp .In (.int k t) (.ref a)) Q vals l := fun E s a' => by
 refine PySem.SeqAt.in_listAt (fun y => y.isInt k) (lAt a' hm) (fun y hy => ?_) ⟨⟨rfl, rfl⟩, vals, l, a', ?_⟩
 ·obtain ⟨i, hi', e⟩ := List.mem_iff_getElem.mp (by simpa using hy : y ∈ vs)
  have hl := Qai hi
  obtain ⟨t', ht⟩ := Qap hi (List.getElem?_eq_getElem (by exact Q10 hi' hl : i < ns.length))
  rw [List.getElem?_eq_getElem hi'] at ht
  have ht' := Option.some.inj ht
  rw [← e, ht']
  have := PySem.SeqAt.EqAt.int_int ns[i] t' k t (A := Ψ.A.in1) (s := s)
  exact this
 ·have e : (vs.toArray.any fun y => y.isInt k) = ns.contains k := by
   rw [List.any_toArray, Bool.eq_iff_iff, List.contains_iff_mem, List.any_eq_true]
   rw [Qeo hi]
   constructor
   ·rintro ⟨v, hv, h⟩
    obtain ⟨t', rfl⟩ := Value.isInt_shape h
    exact ⟨_, hv, t', rfl⟩
   ·rintro ⟨v, hv, t', rfl⟩
    exact ⟨_, hv, intKind_is W.prog W.w k t'⟩
  rw [e]; exact q
noncomputable abbrev Lim := Bool × List Int × List Int
noncomputable def voteB (r : Nat) (d : Int) : Int := Int.fmod (Int.fdiv (r : Int) (2 ^ (Int.fdiv d 2).toNat) + d) 2
noncomputable def votes (r : Nat) (ds : List Int) : Int := (ds.map (voteB r)).sum
noncomputable def metB (r : Nat) (v : Bool) (lims : List Lim) : Bool := lims.foldl (fun v x => if x.1 then v || x.2.1.contains (votes r x.2.2) else v && x.2.1.contains (votes r x.2.2)) v
noncomputable def parB (r : Nat) : Bool := Int.fmod ((List.range 5).map fun p => ((r / 2 ^ p % 2 : Nat) : Int)).sum 2 == 1
inductive LimsL (l : Led) : List Value → List Lim → Prop
 | nil : LimsL l [] []
 | cons {t w d : Addr} {j : Bool} {ws ds : List Int} {vw vd vs : List Value} {lims : List Lim} {nt nw nd : Nat} : (t, (⟨.type "tuple", none, .seq #[.bool j, .ref w, .ref d] nt, #[]⟩ : Obj)) ∈ l → (w, listOf vw.toArray nw) ∈ l → (d, listOf vd.toArray nd) ∈ l → IntsAre vw ws → IntsAre vd ds → (∀ x ∈ ds, 0 ≤ x ∧ x < 10) → ws.length ≤ 10 → ds.length ≤ 10 → LimsL l vs lims → LimsL l (.ref t :: vs) ((j, ws, ds) :: lims)
theorem bitv (r i : Nat) : Int.fmod (Int.fdiv (r : Int) ((2 : Int) ^ ((i : Int)).toNat)) 2 = ((r / 2 ^ i % 2 : Nat) : Int) := by
 rw [Int.toNat_natCast, Int.fdiv_eq_ediv_of_nonneg _ (by have := Int.pow_pos (n := 2) (m := i) (by decide); exact Qof this), Int.fmod_eq_emod_of_nonneg _ (by decide)]
 push_cast; rfl
theorem Qgk : ∀ (ys : List Value) (f : Nat → Int), (∀ i y, ys[i]? = some y → ∃ t, y = Value.int (f i) t) → IntsAre ys ((List.range ys.length).map f)
 | [], f, _ => .nil
 | y :: r, f, h => by
  obtain ⟨t, rfl⟩ := h 0 y rfl
  rw [List.length_cons, List.range_succ_eq_map, List.map_cons, List.map_map]
  exact .cons _ _ (Qgk r (f ∘ Nat.succ) fun i y hy => h (i + 1) y hy)
theorem LimsL.len {l : Led} {vs : List Value} {lims : List Lim} (h : LimsL l vs lims) : vs.length = lims.length := by
 induction h with
 | nil => rfl
 | cons _ _ _ _ _ _ _ _ _ ih => rw [List.length_cons, List.length_cons, ih]
theorem LimsL.get {l : Led} {vs : List Value} {lims : List Lim} (h : LimsL l vs lims) : ∀ {i : Nat} {x : Lim}, lims[i]? = some x → ∃ (t w d : Addr) (vw vd : List Value) (nt nw nd : Nat), vs[i]? = some (.ref t) ∧ (t, (⟨.type "tuple", none, .seq #[.bool x.1, .ref w, .ref d] nt, #[]⟩ : Obj)) ∈ l ∧ (w, listOf vw.toArray nw) ∈ l ∧ (d, listOf vd.toArray nd) ∈ l ∧ IntsAre vw x.2.1 ∧ IntsAre vd x.2.2 ∧ (∀ y ∈ x.2.2, 0 ≤ y ∧ y < 10) ∧ x.2.1.length ≤ 10 ∧ x.2.2.length ≤ 10 := by
 induction h with
 | nil => intro i x h; simp at h
 | @cons t w d j ws ds vw vd vs lims nt nw nd h1 h2 h3 h4 h5 h6 h7 h8 _ ih =>
  intro i x h
  cases i with
  | zero =>
   simp only [List.getElem?_cons_zero, Option.some.injEq] at h
   subst h
   exact ⟨t, w, d, vw, vd, nt, nw, nd, rfl, h1, h2, h3, h4, h5, h6, h7, h8⟩
  | succ i => exact ih h
theorem Qlf {r i : Nat} {v : Bool} {lims : List Lim} {x : Lim} (h : lims[i]? = some x) : metB r v (lims.take (i + 1)) = if x.1 then metB r v (lims.take i) || x.2.1.contains (votes r x.2.2) else metB r v (lims.take i) && x.2.1.contains (votes r x.2.2) := by
 unfold metB
 rw [List.take_add_one, h, List.foldl_append]; rfl
theorem Qv2 {la : Addr} {vs : List Value} {n0 r : Nat} {lims : List Lim} {tr : Tok} {Q : VQ} (hr : Room Ψ.A 4) (hm : (la, listOf vs.toArray n0) ∈ Rl) (hL : LimsL Rl vs lims) (hz : lims.length ≤ 100) (hr32 : r < 64)
  (q : Q (.bool (metB r (parB r) lims)) vals Rl) : WA Ψ (call (.ref 518) [.ref la, .int (r : Int) tr]) Q vals Rl := by
 refine Qcl (M := []) (N' := N518) (Qwk _) sc518 hr (binds := [("limits", .ref la), ("row", .int (r : Int) tr)]) (fun s _ => .of_eq rfl) (fun n x hx => ?_) (by rw [Qn5]; simp) (v0 := [some (.ref la), none, none, none, none, none]) ?_ ?_
 ·rcases List.mem_cons.mp hx with rfl | hx
  ·exact .inl (sc518.loc _ (.head _)).1
  ·rcases List.mem_cons.mp hx with rfl | hx
   ·exact .inr ⟨ck518, by rw [Qn5]; rfl⟩
   ·cases hx
 ·rw [Qbt (sc518.loc _ (.head _)).1, Qc5 ck518]
  funext x
  by_cases h1 : x = ("limits" : Str)
  ·subst h1; kcf_m
  ·simp only [bindL, fr, if_neg h1]
   (repeat' split) <;> rfl
 intro Ψ' cells he hr' hc
 rw [Qn5] at hc
 obtain ⟨oc, rfl, hoc⟩ := CellsAre.one hc
 have hocv : bindC (fun x => fn518.fd.scope.names.lookup x) [("limits", .ref la), ("row", .int (r : Int) tr)] (fun _ => none) "row" = some (.int (r : Int) tr) := by
  kcf_m
 rw [hocv] at hoc
 have hh : Ψ'.A.handled = none := hr'.hh
 dsimp only [fn518, mkFn]
 have hck : Ψ'.env.kindOf "row" = some .cell := by rw [he]; exact ck518
 have hlk : Ψ'.env.cells.lookup ("row" : Str) = some (Ψ'.L + 1) := by rw [he]; show (cellsFrom (Ψ'.L + 1) fn518.fd.scope.names []).lookup ("row" : Str) = _; rw [Qn5]; rfl
 (ctx_mentions Ua Xa Xe Ye Fb Pa Yo Yl)
 refine Qbg (cl := [("row", Ψ'.L + 1)]) (by rw [he]; rfl) rfl (by decide) (by decide) [] (by rw [he]; exact Qah (by kcf_m)) ?_ (by intro _; with_unfolding_all rfl)
 (ctx_mentions Fb Pa Yp Yl Yc Zh)
 refine Qd0 (M := []) fun rg t1 t2 => ?_
 refine Qau (M := []) (.head _) (by decide) fun it => ?_
 refine Qaf (M := []) (vs := []) (Qac (n := 0) (by kd_p)) fun acc => ?_
 intro Ψ2 he2 ha2
 refine ⟨?_, Qbz (.tail _ (.head _)) ⟨rfl, rfl, rfl⟩⟩
 have hck2 : Ψ2.env.kindOf "row" = some .cell := by rw [he2, he]; kcf_m
 refine Qe7 (M := []) (n := 5) (Rr := fun i y => ∃ t, y = Value.int ((r / 2 ^ i % 2 : Nat) : Int) t) Src.range (by rw [ha2]; exact hh) (by kd_p) (by simp) ⟨Nat.zero_le _, rfl⟩ .here (fun i v l' Q' hi hP hl' q' => ?_) fun ys k v hlen hys => ?_
 ·obtain ⟨t, rfl⟩ := hP
  (ctx_mentions Ye Ye)
  refine Qao Ψ2.e.kind hck2 (c := Ψ'.L + 1) (by rw [he2]; rfl) (o := oc) (hl' _ (.tail _ (.head _))) hoc (by decide) ?_
  (ctx_mentions Ye Yc Va)
  refine Qa8 (by exact Qdc) (by exact Qkh hi) fun _ => ?_
  refine Qck (by have := Int.pow_pos (n := 2) (m := ((i : Int)).toNat) (by decide); exact Qod this) (Qc0 _ _ (by exact Qqi hi)) fun _ => ?_
  (ctx_mentions Yc)
  refine Qbi (by decide) fun _ => ?_
  rw [bitv]
  exact q' _ ⟨_, rfl⟩
 ·have hI := Qgk ys _ hys
  rw [hlen] at hI
  refine ⟨(acc, listOf ys.toArray k) :: ([(Ψ'.L + 1, oc)] ++ Rl), sB (sD), ?_⟩
  (ctx_mentions Zh)
  refine Qmp hh (.head _) hI fun _ => ?_
  (ctx_mentions Yc)
  refine Qbi (by decide) fun _ => ?_
  (ctx_mentions Yc Zj Vc Zb Ua Xk Va)
  refine WA.sublist ([(Ψ'.L + 1, oc)] ++ Rl) (sD) ?_
  refine Qbk (M := []) (.tail _ hm) fun it2 oi2 li2 => ?_
  have hvl := hL.len
  let J : Nat → Vals → Led → Prop := fun m vals' l' => Ex7 fun (i : Nat) (oi : Obj) (o1 o2 o3 o4 : Option Value) (v : Bool) => An6 (m = lims.length - i) (i ≤ lims.length) (LiO oi la i) (v = metB r (parB r) (lims.take i)) (vals' = [some (.ref la), some (.bool v), o1, o2, o3, o4]) (l' = (it2, oi) :: ([(Ψ'.L + 1, oc)] ++ Rl))
  refine WC.inv J ?_ lims.length ⟨0, _, none, none, none, none, _, rfl, Nat.zero_le _, li2, rfl, rfl, rfl⟩
  rintro m _ _ ⟨i, oi, o1, o2, o3, o4, v, hm2, hi2, hli, hv, rfl, rfl⟩ again
  refine Mine.WC.letV ?_; intro vv
  by_cases hie : i = lims.length
  ·subst hie
   refine WC.for1 (Qdi (a := la) (vs := vs) (n := n0) (pre := []) hh rfl (.tail _ (.tail _ hm)) hli (by rw [List.getElem?_eq_none_iff]; exact Qgr hvl) ?_)
   (ctx_mentions Zx Za Zb Ua Yb Va Zc)
   rw [List.take_length] at hv
   rw [← hv] at q
   exact ⟨Rl, sD, q⟩
  ·have hil : i < lims.length := by exact Qek hi2 hie
   kcj_m
   obtain ⟨x, hx⟩ : ∃ x, lims[i]? = some x := ⟨_, List.getElem?_eq_getElem hil⟩
   obtain ⟨t, w', d, vw, vd, nt, nw, nd, g1, g2, g3, g4, g5, g6, g7, g8, g9⟩ := hL.get hx
   kd_p1
   have hstep := Qlf (r := r) (v := parB r) hx
   rw [← hv] at hstep
   obtain ⟨j, ws, ds⟩ := x
   have hdl : vd.length = ds.length := Qai g6
   have hd10 : ds.length ≤ 10 := g9
   refine WC.for1 (Qci (a := la) (vs := vs) (n := n0) (pre := []) rfl (.tail _ (.tail _ hm)) hli g1 fun oi' li' => ?_)
   (ctx_mentions Yv)
   refine Qq5 (.head _) li' ?_
   refine R.unp hh (.tail _ (.tail _ g2)) rfl rfl ?_
   (ctx_mentions Yw Vc Yw Vc Yw Vc ZG Ua Xa Fb Pa Yo Yl)
   refine Qbg (cl := [("row", Ψ'.L + 1)]) (by rw [he]; rfl) rfl (by decide) (by decide) [] (by rw [he]; exact Qah (by kcf_m)) ?_ (by intro _; with_unfolding_all rfl)
   (ctx_mentions Va)
   refine Qbk (M := []) (.tail _ (.tail _ g4)) fun it3 oi3 li3 => ?_
   refine Qaf (M := []) (vs := []) (Qac (n := 0) (by kd_p)) fun acc3 => ?_
   intro Ψ3 he3 ha3
   refine ⟨?_, Src.list (vs := vd) (k := nd) |>.self (.tail _ (.head _)) li3 ⟨rfl, rfl, rfl⟩⟩
   have hck3 : Ψ3.env.kindOf "row" = some .cell := by rw [he3, he]; kcf_m
   refine Qe7 (M := []) (n := vd.length) (Rr := fun i y => ∃ t, y = Value.int (voteB r (ds.getD i 0)) t) (Src.list (vs := vd) (k := nd)) (by rw [ha3]; exact hh) (by exact Q1z hdl hd10) (fun z hz => by rw [List.mem_singleton.mp hz]; exact .tail _ (.tail _ g4)) li3 .here (fun i' v' l' Q' hi' hP hl' q' => ?_) fun ys3 k3 v3 hlen3 hys3 => ?_
   ·have hi2' : i' < ds.length := by exact Qog hdl hi'
    obtain ⟨dg, hdg⟩ : ∃ dg, ds[i']? = some dg := ⟨_, List.getElem?_eq_getElem hi2'⟩
    obtain ⟨td, hd⟩ := Qap g6 hdg
    rw [hd] at hP
    obtain rfl : v' = .int dg td := (Option.some.inj hP).symm
    obtain ⟨hd0, hd9⟩ := g7 _ (List.mem_of_getElem? hdg)
    rw [show ds.getD i' 0 = dg by rw [List.getD_eq_getElem?_getD, hdg]; rfl] at q'
    obtain ⟨e', he'⟩ : ∃ e' : Nat, Int.fdiv dg 2 = (e' : Int) ∧ e' < 5 := ⟨(Int.fdiv dg 2).toNat, by rw [Int.fdiv_eq_ediv_of_nonneg _ (by decide)]; exact Q1y hd0 hd9⟩
    (ctx_mentions Ye Ye Ye)
    refine Qao Ψ3.e.kind hck3 (c := Ψ'.L + 1) (by rw [he3]; rfl) (o := oc) (hl' _ (.tail _ (.head _))) hoc (by decide) ?_
    (ctx_mentions Ye Yc Ye Va Yc)
    refine Qck (by decide) (PyProof.noPylong_small (by decide)) fun _ => ?_
    rw [he'.1]
    refine Qa8 (by exact Qdc) (by exact Q1x he') fun _ => ?_
    refine Qck (by have := Int.pow_pos (n := 2) (m := ((e' : Int)).toNat) (by decide); exact Qod this) (Qc0 _ _ (by exact Q1w he')) fun _ => ?_
    (ctx_mentions Va Yq Yc)
    refine Qbi (by decide) fun _ => ?_
    rw [show Int.fmod (Int.fdiv (r : Int) ((2 : Int) ^ ((e' : Int)).toNat) + dg) 2 = voteB r dg by unfold voteB; rw [he'.1]]
    exact q' _ ⟨_, rfl⟩
   ·have hI3 := Qgk ys3 _ hys3
    have hvv : (List.range ys3.length).map (fun i => voteB r (ds.getD i 0)) = ds.map (voteB r) := by
     rw [hlen3, hdl]
     apply List.ext_getElem
     ·simp
     ·intro z h1 h2
      rw [List.length_map] at h2
      simp only [List.getElem_map, List.getElem_range]
      rw [List.getD_eq_getElem?_getD, List.getElem?_eq_getElem h2]; rfl
    rw [hvv] at hI3
    refine ⟨(acc3, listOf ys3.toArray k3) :: (it2, oi') :: ([(Ψ'.L + 1, oc)] ++ Rl), List.Sublist.refl _, ?_⟩
    (ctx_mentions Zh)
    refine Qmp hh (.head _) hI3 fun _ => ?_
    rw [show (ds.map (voteB r)).sum = votes r ds from rfl]
    (ctx_mentions Vc Zb Ua Xa Yg Xi Va Zr)
    have gw : ∀ {y z u : Addr × Obj}, (w', listOf vw.toArray nw) ∈ y :: z :: ([u] ++ Rl) := .tail _ (.tail _ (.tail _ g3))
    cases j with
    | true =>
     (ctx_mentions Mb)
     refine Qur ?_
     (ctx_mentions Va Zr)
     cases v with
     | true =>
      (ctx_mentions Mb Vc Zb Za Zu)
      refine WC.sublist ((it2, oi') :: ([(Ψ'.L + 1, oc)] ++ Rl)) (sD) ?_
      refine again (lims.length - (i + 1)) _ _ (by exact Qdy hm2 hil) ⟨i + 1, oi', _, _, _, _, true, rfl, by exact Qdg hil, li', ?_, rfl, rfl⟩
      rw [hstep]; simp
     | false =>
      (ctx_mentions Ma Xe Va Va)
      refine Qpj gw g5 ?_
      (ctx_mentions Vc Zb Za Zu)
      refine WC.sublist ((it2, oi') :: ([(Ψ'.L + 1, oc)] ++ Rl)) (sD) ?_
      refine again (lims.length - (i + 1)) _ _ (by exact Qdy hm2 hil) ⟨i + 1, oi', _, _, _, _, (ws.contains (votes r ds)), rfl, by exact Qdg hil, li', ?_, rfl, rfl⟩
      rw [hstep]; simp
    | false =>
     (ctx_mentions Ma)
     refine Qi3 ?_
     (ctx_mentions Va Zr)
     cases v with
     | true =>
      (ctx_mentions Mb Xe Va Va)
      refine Qpj gw g5 ?_
      (ctx_mentions Vc Zb Za Zu)
      refine WC.sublist ((it2, oi') :: ([(Ψ'.L + 1, oc)] ++ Rl)) (sD) ?_
      refine again (lims.length - (i + 1)) _ _ (by exact Qdy hm2 hil) ⟨i + 1, oi', _, _, _, _, (ws.contains (votes r ds)), rfl, by exact Qdg hil, li', ?_, rfl, rfl⟩
      rw [hstep]; simp
     | false =>
      (ctx_mentions Ma Vc Zb Za Zu)
      refine WC.sublist ((it2, oi') :: ([(Ψ'.L + 1, oc)] ++ Rl)) (sD) ?_
      refine again (lims.length - (i + 1)) _ _ (by exact Qdy hm2 hil) ⟨i + 1, oi', _, _, _, _, false, rfl, by exact Qdg hil, li', ?_, rfl, rfl⟩
      rw [hstep]; simp
end
end
section
noncomputable def fn546 : FnIn 546 := by
 refine' mkFn ?ok ?hb
 case ok => intro P; k_is
 case hb => exact rfl
@[reducible] noncomputable def N546 : Nm := ⟨["tool", "game", "place", "row", "value", "order", "every", "free", "stages", "limits", "step"], ["_law_met", "_law_holds", "_law_won"]⟩
theorem Qro : ScOk fn546.fd.scope.names N546.loc N546.glo := by
 refine Qah ?_
 kcf_m
theorem Qsd (P : Params) : FnOk (hK P) 546 fn546.fd fn546.body := ⟨⟨_, _, _, fn546.ok P⟩, by kcf_m, fn546.hb, rfl, rfl, rfl, rfl, rfl, by kcf_m⟩
section
theorem Qwb (P : Params) : DefIs (hK P) "_law_met" 518 := ⟨.inl (by k_is), by k_is⟩
theorem Qlp (P : Params) : DefIs (hK P) "_law_won" 546 := ⟨.inl (by k_is), by k_is⟩
structure Game (W : Wd) (σ : Sg) (l : Led) (ga : Addr) (fr : Nat) (pl : Nat → Nat) (ev : Nat → Bool) (lims : List Lim) (Fs : Nat → BF) : Prop where
 tup : Ex14 fun (oa ea st la : Addr) (tf : Tok) (nt : Nat) (vo ve vs vl : List Value) (no ne ns nl : Nat) => An9 ((ga, (⟨.type "tuple", none, .seq #[.ref oa, .ref ea, .int fr tf, .ref st, .ref la] nt, #[]⟩ : Obj)) ∈ l) ((oa, listOf vo.toArray no) ∈ l) ((ea, listOf ve.toArray ne) ∈ l) ((st, listOf vs.toArray ns) ∈ l) ((la, listOf vl.toArray nl) ∈ l) ((∀ i, i < 5 → ∃ t, vo[i]? = some (.int (101 + (pl i : Int)) t))) ((∀ i, i < 5 → ve[i]? = some (.bool (ev i)))) ((∀ i, fr ≤ i → i ≤ 5 → ∃ u t, vs[i - fr]? = some (.int u t) ∧ Den σ u (Fs i))) (LimsL l vl lims)
 pl5 : ∀ i, i < 5 → pl i < 5
 inj : ∀ i j, i < 5 → j < 5 → pl i = pl j → i = j
 ll : lims.length ≤ 100
 last : ∀ r, r < 32 → Fs 5 (asg 5 σ.order r) = metB r (parB r) lims
 step : ∀ i, fr ≤ i → i < 5 → Fs i = qf (ev i) (S1 (lev σ.order (pl i))) (Fs (i + 1))
theorem LimsL.mono {l l' : Led} {vs : List Value} {lims : List Lim} (h : LimsL l vs lims) (k : ∀ z ∈ l, z ∈ l') : LimsL l' vs lims := by
 induction h with
 | nil => exact .nil
 | cons h1 h2 h3 h4 h5 h6 h7 h8 _ ih => exact .cons (k _ h1) (k _ h2) (k _ h3) h4 h5 h6 h7 h8 ih
theorem Qpr {e v x y : Bool} (h : (if e = true then x && y else x || y) = v) (he : e ≠ v) (hy : y ≠ v) : x = v := by cases e <;> cases v <;> cases x <;> cases y <;> simp_all
theorem Qsi {e v x y : Bool} (h : (if e = true then x && y else x || y) = v) (he : e = v) : x = v := by cases e <;> cases v <;> cases x <;> cases y <;> simp_all
theorem Qsh {e v x y : Bool} (h : (if e = true then x && y else x || y) = v) (he : e = v) : y = v := by cases e <;> cases v <;> cases x <;> cases y <;> simp_all
theorem Qu5 {ga : Addr} {fr : Nat} {pl : Nat → Nat} {ev : Nat → Bool} {lims : List Lim} {Fs : Nat → BF} (G : Good W sa b σ) (F : Full σ) (Gm : Game W σ Rl ga fr pl ev lims Fs) (hfr : fr ≤ 5) (value : Bool) (n : Nat) :
  ∀ (N : Nm) (Ψ : Frm hK N W) (vals : Vals) (p r : Nat) (tp tr : Tok) (Q : VQ), n + p = 5 → fr ≤ p → Room Ψ.A (n + 6) → r < 32 → (∀ i, p ≤ i → i < 5 → r.testBit (pl i) = false) → Fs p (asg 5 σ.order r) = value → Q (.bool true) vals (mgL b ++ Rl) →
  WA Ψ (call (.ref 546) [.ref sa, .ref ga, .int (p : Int) tp, .int (r : Int) tr, .bool value]) Q vals (mgL b ++ Rl) := by
 obtain ⟨oa, ea, st, la, tf, nt, vo, ve, vs, vl, no, ne, ns, nl, m1, m2, m3, m4, m5, h6, h7, h8, h9⟩ := Gm.tup
 have O := odOf G F
 induction n with
 | zero =>
  intro N Ψ vals p r tp tr Q hn hp hr hr32 hz hv q
  obtain rfl : p = 5 := by exact Q1v hn
  refine Qaa (N' := N546) (Qsd _) Qro hr (binds := [("tool", .ref sa), ("game", .ref ga), ("place", .int (5 : Nat) tp), ("row", .int (r : Int) tr), ("value", .bool value)]) (rest := ["order", "every", "free", "stages", "limits", "step"]) (fun s _ => .of_eq rfl) rfl [some (.ref sa), some (.ref ga), some (.int (5 : Nat) tp), some (.int (r : Int) tr), some (.bool value), none, none, none, none, none, none] rfl ?_
  intro Ψ' he hr'
  dsimp only [fn546, mkFn]
  (ctx_mentions Ua)
  refine Mine.L.asT rfl rfl ?_; intro _
  (ctx_mentions Va)
  refine R.unp hr'.hh (mr m1) rfl rfl ?_
  (ctx_mentions Yw Vc Yw Vc Yw Vc Yw Vc Yw Vc ZG Zb Ua Ya Xf Va Yc Zj Zr Mb Ua Yb Xe Fb)
  refine Mine.L.funR (by nest_cls) (Qwb _) ?_; intro _
  (ctx_mentions Vb Vb Zh)
  refine Qv2 (hr'.less (by kd_p)) (mr m5) (LimsL.mono h9 fun z hz => mr hz) Gm.ll (by exact Q1u hr32) ?_
  (ctx_mentions Va)
  refine Qhy ?_
  (ctx_mentions Zc Zc)
  refine ⟨_, List.Sublist.refl _, ?_⟩
  rw [← Gm.last r hr32, hv, beq_self_eq_true]
  exact q
 | succ n ih =>
  intro N Ψ vals p r tp tr Q hn hp hr hr32 hz hv q
  have hp5 : p < 5 := by exact Q1t hn
  refine Qaa (N' := N546) (Qsd _) Qro hr (binds := [("tool", .ref sa), ("game", .ref ga), ("place", .int (p : Int) tp), ("row", .int (r : Int) tr), ("value", .bool value)]) (rest := ["order", "every", "free", "stages", "limits", "step"]) (fun s _ => .of_eq rfl) rfl [some (.ref sa), some (.ref ga), some (.int (p : Int) tp), some (.int (r : Int) tr), some (.bool value), none, none, none, none, none, none] rfl ?_
  intro Ψ' he hr'
  have hq5 := Gm.pl5 p hp5
  obtain ⟨to, hto⟩ := h6 p hp5
  have hev := h7 p hp5
  have hbit := hz p (Nat.le_refl _) hp5
  have hlow : asg 5 σ.order r (lev σ.order (pl p)) = false := by rw [O.asg_lev hq5]; exact hbit
  have hadd := O.asg_add hq5 hbit
  have hlt := Qjt hq5 (m := 5) (by simpa using hr32) hbit
  have hcast : (r : Int) + (2 : Int) ^ ((pl p : Int)).toNat = ((r + 2 ^ pl p : Nat) : Int) := by rw [Int.toNat_natCast]; push_cast; rfl
  have hz0 : ∀ i, p + 1 ≤ i → i < 5 → r.testBit (pl i) = false := fun i h1 h2 => hz i (by exact Qiq h1) h2
  have hz1 : ∀ i, p + 1 ≤ i → i < 5 → (r + 2 ^ pl p).testBit (pl i) = false := fun i h1 h2 => by
   rw [Qe6 hbit, if_neg (fun e => by have := Gm.inj i p h2 hp5 e; exact Qtk h1 this)]
   exact hz i (by exact Qiq h1) h2
  have hst := Gm.step p hp hp5
  rw [hst, Qjb] at hv
  unfold jn at hv
  dsimp only at hv
  rw [hlow, Bool.not_false, ← hadd] at hv
  have hidx : ((p : Int) + 1 - fr).toNat = p + 1 - fr := by exact Q1s
  dsimp only [fn546, mkFn]
  (ctx_mentions Ua)
  refine Mine.L.asT rfl rfl ?_; intro _
  (ctx_mentions Va)
  refine R.unp hr'.hh (mr m1) rfl rfl ?_
  (ctx_mentions Yw Vc Yw Vc Yw Vc Yw Vc Yw Vc ZG Zb Ua Ya Xf Va Yc Zj Zr Ma Za Zb Ua Xa Ye Yc Ye Yk Va Va)
  refine Qal (mr m2) (by exact Qdc) (by exact Qoe hp5) (by rw [Int.toNat_natCast]; exact hto) ?_
  (ctx_mentions Yc Yr)
  rw [show (101 : Int) + (pl p : Int) - 101 = (pl p : Int) by exact Qmc]
  refine Qa8 (by exact Qdc) (by exact Qkh hq5) fun _ => ?_
  (ctx_mentions Vc Zb Ua Ya Xf Yk Va Va)
  refine Qal (mr m3) (by exact Qdc) (by exact Qoe hp5) (by rw [Int.toNat_natCast]; exact hev) ?_
  (ctx_mentions Va)
  refine Qus ?_
  have hp1 : (p : Int) + 1 = ((p + 1 : Nat) : Int) := by push_cast; rfl
  (ctx_mentions Zr)
  refine Qak (fun h1 => ?_) fun h1 => ?_
  ·have h1' : ev p ≠ value := by simpa using h1
   obtain ⟨u, tu, hu, du⟩ := h8 (p + 1) (by exact Qqc hp) (by exact Qtj hp5)
   (ctx_mentions Ua Ya Xf Fb)
   refine Mine.L.funR (by nest_cls) (Qlq _) ?_; intro _
   (ctx_mentions Vb Yl Yk Va Ye Ye Va Yc Yq Va Yr)
   refine Qal (mr m4) (by exact Q1r hp) (by exact Q1q hp5) (by rw [hidx]; exact hu) ?_
   (ctx_mentions Yl Ye Va Va Yq Zh)
   rw [hcast]
   refine Qln G (hr'.less (by exact Q1p)) F du (by simpa using hlt) ?_
   (ctx_mentions Va)
   refine Qhy ?_
   (ctx_mentions Zr)
   refine Qak (fun h2 => ?_) fun h2 => ?_
   ·have h2' : Fs (p + 1) (asg 5 σ.order (r + 2 ^ pl p)) = value := by simpa using h2
    (ctx_mentions Ua Xa Ye Va Va Yq Vc Zb Za Zb Ua Yb Fb)
    refine Mine.L.funR (by nest_cls) (Qlp _) ?_; intro _
    (ctx_mentions Vb Vb Yl Ye Va Yc Yq Vb Vb Zh)
    rw [hp1, hcast]
    refine ih _ Ψ' _ (p + 1) (r + 2 ^ pl p) _ _ _ (by exact Qoc hn) (by exact Qqc hp) (hr'.less (by exact Qob)) (by simpa using hlt) hz1 h2' ?_
    (ctx_mentions Zc Zc)
    exact ⟨_, List.Sublist.refl _, q⟩
   ·have h2' : Fs (p + 1) (asg 5 σ.order (r + 2 ^ pl p)) ≠ value := by simpa using h2
    have hv' : Fs (p + 1) (asg 5 σ.order r) = value := Qpr hv h1' h2'
    (ctx_mentions Za Zb Ua Yb Fb)
    refine Mine.L.funR (by nest_cls) (Qlp _) ?_; intro _
    (ctx_mentions Vb Vb Yl Ye Va Yc Yq Vb Vb Zh)
    rw [hp1]
    refine ih _ Ψ' _ (p + 1) r _ _ _ (by exact Qoc hn) (by exact Qqc hp) (hr'.less (by exact Qob)) hr32 hz0 hv' ?_
    (ctx_mentions Zc Zc)
    exact ⟨_, List.Sublist.refl _, q⟩
  ·have h1' : ev p = value := by simpa using h1
   have hv0 : Fs (p + 1) (asg 5 σ.order r) = value := Qsi hv h1'
   have hv1 : Fs (p + 1) (asg 5 σ.order (r + 2 ^ pl p)) = value := Qsh hv h1'
   (ctx_mentions Za Zb Ua Yb)
   refine Qi3 ?_
   (ctx_mentions Fb)
   refine Mine.L.funR (by nest_cls) (Qlp _) ?_; intro _
   (ctx_mentions Vb Vb Yl Ye Va Yc Yq Vb Vb Zh)
   rw [hp1]
   refine ih _ Ψ' _ (p + 1) r _ _ _ (by exact Qoc hn) (by exact Qqc hp) (hr'.less (by exact Qob)) hr32 hz0 hv0 ?_
   (ctx_mentions Zr Mb Fb)
   refine Mine.L.funR (by nest_cls) (Qlp _) ?_; intro _
   (ctx_mentions Vb Vb Yl Ye Va Yc Yq Yl Ye Va Va Yq Vb Zh)
   rw [hp1, hcast]
   refine ih _ Ψ' _ (p + 1) (r + 2 ^ pl p) _ _ _ (by exact Qoc hn) (by exact Qqc hp) (hr'.less (by exact Qob)) (by simpa using hlt) hz1 hv1 ?_
   (ctx_mentions Zc)
   exact ⟨_, List.Sublist.refl _, q⟩
end
end
section
noncomputable def litB (r : Nat) (d : Int) : Bool := r.testBit (Int.fdiv d 2).toNat ^^ (Int.fmod d 2 == 1)
theorem Qf8 {r : Nat} {d : Int} (h0 : 0 ≤ d) : voteB r d = if litB r d then 1 else 0 := by
 unfold voteB litB
 have e1 : Int.fdiv d 2 = ((Int.fdiv d 2).toNat : Int) := by rw [Int.fdiv_eq_ediv_of_nonneg _ (by decide)]; exact Q1o h0
 generalize hq : (Int.fdiv d 2).toNat = q at e1
 have hb := Qgq (c := r) (i := q)
 rw [Int.toNat_natCast] at hb
 rw [← hb]
 have hx : 0 ≤ Int.fdiv (r : Int) (2 ^ q) := by
  rw [Int.fdiv_eq_ediv_of_nonneg _ (by have := Int.pow_pos (n := 2) (m := q) (by decide); exact Qof this)]
  exact Int.ediv_nonneg (by exact Qdc) (by have := Int.pow_pos (n := 2) (m := q) (by decide); exact Qof this)
 generalize Int.fdiv (r : Int) (2 ^ q) = x at hx
 rw [Int.fmod_eq_emod_of_nonneg _ (by decide), Int.fmod_eq_emod_of_nonneg _ (by decide), Int.fmod_eq_emod_of_nonneg _ (by decide)]
 have c1 : x % 2 = 0 ∨ x % 2 = 1 := by exact Qti
 have c2 : d % 2 = 0 ∨ d % 2 = 1 := by exact Qti
 rcases c1 with c1 | c1 <;> rcases c2 with c2 | c2 <;> rw [c1, c2] <;> simp <;> omega
noncomputable def wantedL (kind : Nat) : List Int := if kind = 0 then [1, 2, 3] else if kind = 1 then [1, 3] else [2, 3]
noncomputable def kindB (kind : Nat) (x y z : Bool) : Bool := if kind = 0 then x || (y || z) else if kind = 1 then x ^^ (y ^^ z) else if x then y || z else y && z
theorem Qjz {r kind : Nat} (hk : kind < 3) {d e f : Int} (h1 : 0 ≤ d) (h2 : 0 ≤ e) (h3 : 0 ≤ f) : (wantedL kind).contains (votes r [d, e, f]) = kindB kind (litB r d) (litB r e) (litB r f) := by
 have : votes r [d, e, f] = voteB r d + (voteB r e + (voteB r f + 0)) := rfl
 rw [this, Qf8 h1, Qf8 h2, Qf8 h3]
 unfold kindB wantedL
 have : kind = 0 ∨ kind = 1 ∨ kind = 2 := by exact Qqf hk
 rcases this with rfl | rfl | rfl <;> cases litB r d <;> cases litB r e <;> cases litB r f <;> decide
noncomputable def litF (od : List Int) (d : Int) : BF := fun a => a (lev od (Int.fdiv d 2).toNat) ^^ (Int.fmod d 2 == 1)
theorem Qgj {od : List Int} (O : Od 5 od) {r : Nat} {d : Int} (h0 : 0 ≤ d) (h9 : d < 10) : litF od d (asg 5 od r) = litB r d := by
 unfold litF litB
 rw [O.asg_lev]
 rw [Int.fdiv_eq_ediv_of_nonneg _ (by decide)]; exact Q1n h9
theorem Qrk (m : Nat) (od : List Int) (f g : BF) : tb m od f ^^^ tb m od g = tb m od fun a => f a ^^ g a :=
 Qd5 (Nat.xor_lt_two_pow (Qh6 m od f) (Qh6 m od g)) fun i hi => by rw [Nat.testBit_xor, tb_bit, tb_bit]; simp [hi]
noncomputable def xorL (l : List Bool) : Bool := l.foldr (· ^^ ·) false
theorem Qkx {l l' : List Bool} (p : l.Perm l') : xorL l = xorL l' := by
 unfold xorL
 induction p with
 | nil => rfl
 | cons x _ ih => simp only [List.foldr_cons, ih]
 | swap x y l => simp only [List.foldr_cons]; cases x <;> cases y <;> simp
 | trans _ _ h1 h2 => exact h1.trans h2
noncomputable def parF : Nat → BF
 | 0 => fun _ => false
 | n + 1 => fun a => a ((4 - n : Nat) : Int) ^^ parF n a
noncomputable def parT (od : List Int) : Nat → BF
 | 0 => fun _ => false
 | n + 1 => fun a => a (lev od (4 - n)) ^^ parT od n a
theorem Qib {L M : List Nat} (hL : L.Nodup) (hM : M.Nodup) (h : ∀ x, x ∈ L ↔ x ∈ M) : L.Perm M := by
 rw [List.perm_iff_count]
 intro x
 have c1 : L.count x ≤ 1 := List.nodup_iff_count.mp hL x
 have c2 : M.count x ≤ 1 := List.nodup_iff_count.mp hM x
 by_cases hx : x ∈ L
 ·have := List.count_pos_iff.mpr hx
  have := List.count_pos_iff.mpr ((h x).mp hx)
  exact Q1m c1 c2 (by assumption) this
 ·rw [List.count_eq_zero.mpr hx, List.count_eq_zero.mpr fun q => hx ((h x).mpr q)]
theorem Od.lev_perm {od : List Int} (O : Od 5 od) : ([(lev od 0).toNat, (lev od 1).toNat, (lev od 2).toNat, (lev od 3).toNat, (lev od 4).toNat] : List Nat).Perm [0, 1, 2, 3, 4] := by
 have b := fun (p : Nat) (hp : p < 5) => O.lev_ok hp
 have inj : ∀ p q, p < 5 → q < 5 → p ≠ q → (lev od p).toNat ≠ (lev od q).toNat := fun p q hp hq hpq e => hpq (O.lev_inj hp hq (by have := b p hp; have := b q hq; exact Q1l e (by assumption) this))
 have e : ([(lev od 0).toNat, (lev od 1).toNat, (lev od 2).toNat, (lev od 3).toNat, (lev od 4).toNat] : List Nat) = [0, 1, 2, 3, 4].map fun p => (lev od p).toNat := rfl
 rw [e]
 refine Qib ?_ (by decide) fun x => ?_
 ·rw [List.Nodup, List.pairwise_map]
  refine List.Pairwise.imp_of_mem ?_ (show ([0, 1, 2, 3, 4] : List Nat).Nodup by decide)
  intro p q hp hq hpq
  exact inj p q (by simp at hp; exact Qoa hp) (by simp at hq; exact Qoa hq) hpq
 ·rw [List.mem_map]
  constructor
  ·rintro ⟨p, hp, rfl⟩
   have := b p (by simp at hp; exact Qoa hp)
   simp; exact Q1k this
  ·intro hx
   have hx5 : x < 5 := by simp at hx; exact Qoa hx
   obtain ⟨h1, h2, _⟩ := O.plc_ok (j := (x : Int)) (by exact Qdc) (by exact Qmb hx5)
   refine ⟨plc od x, by simp; exact Q1j h1, by rw [h2]; exact Q1i⟩
theorem Od.par_eq {od : List Int} (O : Od 5 od) : parF 5 = parT od 5 := by
 funext a
 have h := Qkx ((O.lev_perm).map fun (j : Nat) => a (j : Int))
 have b := fun (p : Nat) (hp : p < 5) => (O.lev_ok hp).1
 have c : ∀ p, p < 5 → (((lev od p).toNat : Nat) : Int) = lev od p := fun p hp => by have := b p hp; exact Qir this
 simp only [List.map_cons, List.map_nil, c 0 (by decide), c 1 (by decide), c 2 (by decide), c 3 (by decide), c 4 (by decide)] at h
 exact h.symm
theorem bit01 (r p : Nat) : ((r / 2 ^ p % 2 : Nat) : Int) = if r.testBit p then 1 else 0 := by
 rw [Nat.testBit_eq_decide_div_mod_eq]
 have : r / 2 ^ p % 2 = 0 ∨ r / 2 ^ p % 2 = 1 := by exact Q1h
 rcases this with h | h <;> rw [h] <;> rfl
theorem Od.par_row {od : List Int} (O : Od 5 od) (r : Nat) : parF 5 (asg 5 od r) = parB r := by
 rw [O.par_eq]
 show (asg 5 od r (lev od 0) ^^ (asg 5 od r (lev od 1) ^^ (asg 5 od r (lev od 2) ^^ (asg 5 od r (lev od 3) ^^ (asg 5 od r (lev od 4) ^^ false))))) = _
 rw [O.asg_lev (by decide), O.asg_lev (by decide), O.asg_lev (by decide), O.asg_lev (by decide), O.asg_lev (by decide)]
 have e : parB r = (Int.fmod (((r / 2 ^ 0 % 2 : Nat) : Int) + (((r / 2 ^ 1 % 2 : Nat) : Int) + (((r / 2 ^ 2 % 2 : Nat) : Int) + (((r / 2 ^ 3 % 2 : Nat) : Int) + (((r / 2 ^ 4 % 2 : Nat) : Int) + 0))))) 2 == 1) := rfl
 rw [e, bit01, bit01, bit01, bit01, bit01]
 cases r.testBit 0 <;> cases r.testBit 1 <;> cases r.testBit 2 <;> cases r.testBit 3 <;> cases r.testBit 4 <;> decide
noncomputable def insF (od : List Int) (g : BF) (lims : List Lim) : BF := lims.foldl (fun g x => match x with
 | (j, ws, [d, e, f]) => fun a => let k := kindB (if ws = [1, 2, 3] then 0 else if ws = [1, 3] then 1 else 2) (litF od d a) (litF od e a) (litF od f a); if j then g a || k else g a && k
 | _ => g) g
end
section
noncomputable def rowsN (pl : Nat → Nat) : Nat → List Nat
 | 0 => [0]
 | i + 1 => rowsN pl i ++ (rowsN pl i).map (· + 2 ^ pl i)
noncomputable def lvlN (od : List Int) (pl : Nat → Nat) : Nat → List Int
 | 0 => []
 | i + 1 => lev od (pl i) :: lvlN od pl i
noncomputable def wonN (od : List Int) (f : BF) (rows : List Nat) : Nat := (rows.map fun r => if f (asg 5 od r) then 1 else 0).sum
theorem Qeu (od : List Int) (f : BF) (a b : List Nat) : wonN od f (a ++ b) = wonN od f a + wonN od f b := by
 unfold wonN
 rw [List.map_append, List.sum_append_nat]
theorem Qgi (od : List Int) (pl : Nat → Nat) : ∀ i, (lvlN od pl i).length = i
 | 0 => rfl
 | i + 1 => by show (lvlN od pl i).length + 1 = i + 1; rw [Qgi od pl i]
theorem mem_lvlN {od : List Int} {pl : Nat → Nat} : ∀ {i : Nat} {l : Int}, l ∈ lvlN od pl i ↔ ∃ j, j < i ∧ l = lev od (pl j)
 | 0, l => by simp [lvlN]
 | i + 1, l => by
  show l ∈ lev od (pl i) :: lvlN od pl i ↔ _
  rw [List.mem_cons, mem_lvlN]
  constructor
  ·rintro (rfl | ⟨j, hj, rfl⟩)
   ·exact ⟨i, by exact Ql7, rfl⟩
   ·exact ⟨j, by exact Q1g hj, rfl⟩
  ·rintro ⟨j, hj, rfl⟩
   by_cases e : j = i
   ·subst e; exact .inl rfl
   ·exact .inr ⟨j, by exact Qug hj e, rfl⟩
section
variable {od : List Int} (O : Od 5 od) {pl : Nat → Nat} (h5 : ∀ i, i < 5 → pl i < 5) (inj : ∀ i j, i < 5 → j < 5 → pl i = pl j → i = j)
include O h5 inj
theorem Qig : ∀ i, i ≤ 5 → (lvlN od pl i).Nodup
 | 0, _ => .nil
 | i + 1, h => by
  show (lev od (pl i) :: lvlN od pl i).Nodup
  rw [List.nodup_cons]
  refine ⟨fun hm => ?_, Qig i (by exact Qkg h)⟩
  obtain ⟨j, hj, e⟩ := mem_lvlN.mp hm
  have := inj i j (by exact Qkf h) (by exact Qth h hj) (O.lev_inj (h5 i (by exact Qkf h)) (h5 j (by exact Qth h hj)) e)
  exact Q1f hj this
theorem Qel : ∀ i, i ≤ 5 → ∀ r ∈ rowsN pl i, r < 32 ∧ ∀ j, i ≤ j → j < 5 → r.testBit (pl j) = false
 | 0, _, r, hr => by
  have : r = 0 := by simpa [rowsN] using hr
  subst this
  exact ⟨by decide, fun j _ _ => Nat.zero_testBit _⟩
 | i + 1, h, r, hr => by
  rcases List.mem_append.mp hr with hr | hr
  ·obtain ⟨h1, h2⟩ := Qel i (by exact Qkg h) r hr
   exact ⟨h1, fun j hj => h2 j (by exact Qiq hj)⟩
  ·obtain ⟨s, hs, rfl⟩ := List.mem_map.mp hr
   obtain ⟨h1, h2⟩ := Qel i (by exact Qkg h) s hs
   have hb := h2 i (Nat.le_refl _) (by exact Qkf h)
   refine ⟨by simpa using Qjt (m := 5) (h5 i (by exact Qkf h)) (by simpa using h1) hb, fun j hj hj5 => ?_⟩
   rw [Qe6 hb, if_neg (fun e => by have := inj j i hj5 (by exact Q1e hj hj5) e; exact Qtk hj this)]
   exact h2 j (by exact Qiq hj) hj5
theorem Qh2 : ∀ i, i ≤ 5 → ∀ f : BF, wonN od f (rowsN pl i) = cnt (lvlN od pl i) f (asg 5 od 0)
 | 0, _, f => by
  show (if f (asg 5 od 0) then 1 else 0) + 0 = _
  rfl
 | i + 1, h, f => by
  have hi := h5 i (by exact Qkf h)
  show wonN od f (rowsN pl i ++ (rowsN pl i).map (· + 2 ^ pl i)) = cnt (lvlN od pl i) f (upd (asg 5 od 0) (lev od (pl i)) false) + cnt (lvlN od pl i) f (upd (asg 5 od 0) (lev od (pl i)) true)
  rw [Qeu, Qh2 i (by exact Qkg h) f]
  have e0 : upd (asg 5 od 0) (lev od (pl i)) false = asg 5 od 0 := by
   have := Qi7 (asg 5 od 0) (lev od (pl i))
   rw [O.asg_lev hi, Nat.zero_testBit] at this
   exact this
  rw [e0]
  congr 1
  have e1 : wonN od f ((rowsN pl i).map (· + 2 ^ pl i)) = wonN od (fun a => f (upd a (lev od (pl i)) true)) (rowsN pl i) := by
   unfold wonN
   rw [List.map_map]
   congr 1
   apply List.map_congr_left
   intro r hr
   have hb := (Qel O h5 inj i (by exact Qkg h) r hr).2 i (Nat.le_refl _) (by exact Qkf h)
   show (if f (asg 5 od (r + 2 ^ pl i)) then 1 else 0) = _
   rw [O.asg_add hi hb]
  rw [e1, Qh2 i (by exact Qkg h)]
  have hn := Qig O h5 inj (i + 1) (by exact Q1d h)
  have hl : lev od (pl i) ∉ lvlN od pl i := (List.nodup_cons.mp hn).1
  have key : ∀ (L : List Int), lev od (pl i) ∉ L → ∀ a : Asg, cnt L (fun a => f (upd a (lev od (pl i)) true)) a = cnt L f (upd a (lev od (pl i)) true) := by
   intro L
   induction L with
   | nil => intro _ a; rfl
   | cons m L ih =>
    intro hm a
    simp only [List.mem_cons, not_or] at hm
    unfold cnt
    rw [ih hm.2, ih hm.2, Qax hm.1, Qax hm.1]
  exact key _ hl _
end
end
section
section
noncomputable def fn551 : FnIn 551 := by
 refine' mkFn ?ok ?hb
 case ok => intro P; k_is
 case hb => exact rfl
@[reducible] noncomputable def NL : Nm := ⟨("script" : Str) :: ("total" : Str) :: ("free" : Str) :: ("place" : Str) :: ("node" : Str) :: ("table" : Str) :: ("every" : Str) :: ("order" : Str) :: ("stages" : Str) :: ("known" : Str) :: ("rows" : Str) :: ("row" : Str) :: ("won" : Str) :: ("value" : Str) :: ("found" : Str) :: ("limits" : Str) :: ("number" : Str) :: ("kind" : Str) :: ("joined" : Str) :: ("digits" : Str) :: ("one" : Str) :: ("two" : Str) :: ("three" : Str) :: ("a" : Str) :: ("b" : Str) :: ("c" : Str) :: ("limit" : Str) :: ("due" : Str) :: ("last" : Str) :: ("inner" : Str) :: ("block" : Str) :: ("contrary" : Str) :: ("waiting" : Str) :: ("size" : Str) :: ("extra" : Str) :: [], ("sum" : Str) :: ("range" : Str) :: ("len" : Str) :: ("BDD" : Str) :: ("_law_ones" : Str) :: ("enumerate" : Str) :: ("_law_all" : Str) :: ("_law_table" : Str) :: ("_law_thrown" : Str) :: ("_law_holds" : Str) :: ("_law_won" : Str) :: ("isinstance" : Str) :: ("bool" : Str) :: []⟩
theorem sc551 : ScOk fn551.fd.scope.names NL.loc NL.glo := by
 refine Qah ?_
 kcf_m
theorem Qxf (n : Nat) : cellsFrom n fn551.fd.scope.names [] = [(("name" : Str), n + 3), (("leans" : Str), n + 2), (("tool" : Str), n + 1), (("pattern" : Str), n)] := by kcf_m
theorem Qxe : ∀ x ∈ [("name" : Str), "leans", "tool", "pattern"], fn551.fd.scope.names.lookup x = some NameKind.cell := by
 simp only [List.forall_mem_cons, List.not_mem_nil, false_implies, implies_true, and_true]
 refine ⟨?_, ?_, ?_, ?_⟩ <;> kcf_m
structure L6 {W : Wd} (Ψ : Frm hK NL W) (cn cl ct cp : Addr) : Prop where
 k : ∀ x ∈ [("name" : Str), "leans", "tool", "pattern"], Ψ.env.kindOf x = some .cell
 cs : Ψ.env.cells = [(("name" : Str), cn), (("leans" : Str), cl), (("tool" : Str), ct), (("pattern" : Str), cp)]
section
variable {Ψ : Frm hK NL W} {cn cl ct cp : Addr} {l : Led}
theorem Qaz {o : Obj} {v : Value} {pos : Pos} {Q : VQ} (h : L6 Ψ cn cl ct cp) (hd : o.data = .cell (some v)) (hm : (ct, o) ∈ l) (q : Q v vals l) : WA Ψ (eval (.Name "tool" pos) Ψ.env) Q vals l :=
 Qao Ψ.e.kind (h.k _ (.tail _ (.tail _ (.head _)))) (by rw [h.cs]; rfl) hm hd (by decide) q
end
end
end
section
section
structure GameB (W : Wd) (σ : Sg) (l : Led) (oa ea st la : Addr) (fr : Nat) (pl : Nat → Nat) (ev : Nat → Bool) (lims : List Lim) (Fs : Nat → BF) : Prop where
 tup : Ex8 fun (vo ve vs vl : List Value) (no ne ns nl : Nat) => An9 ((oa, listOf vo.toArray no) ∈ l) ((ea, listOf ve.toArray ne) ∈ l) ((st, listOf vs.toArray ns) ∈ l) ((la, listOf vl.toArray nl) ∈ l) ((∀ i, i < 5 → ∃ t, vo[i]? = some (.int (101 + (pl i : Int)) t))) ((∀ i, i < 5 → ve[i]? = some (.bool (ev i)))) ((∀ i, fr ≤ i → i ≤ 5 → ∃ u t, vs[i - fr]? = some (.int u t) ∧ Den σ u (Fs i))) (LimsL l vl lims) (vo.length = 5)
 pl5 : ∀ i, i < 5 → pl i < 5
 inj : ∀ i j, i < 5 → j < 5 → pl i = pl j → i = j
 ll : lims.length ≤ 100
 last : ∀ r, r < 32 → Fs 5 (asg 5 σ.order r) = metB r (parB r) lims
 step : ∀ i, fr ≤ i → i < 5 → Fs i = qf (ev i) (S1 (lev σ.order (pl i))) (Fs (i + 1))
theorem GameB.game {W : Wd} {σ : Sg} {l l' : Led} {oa ea st la ga : Addr} {fr nt : Nat} {tf : Tok} {pl : Nat → Nat} {ev : Nat → Bool} {lims : List Lim} {Fs : Nat → BF} (h : GameB W σ l oa ea st la fr pl ev lims Fs) (hg : (ga, (⟨.type "tuple", none, .seq #[.ref oa, .ref ea, .int fr tf, .ref st, .ref la] nt, #[]⟩ : Obj)) ∈ l') (k : ∀ z ∈ l, z ∈ l') : Game W σ l' ga fr pl ev lims Fs := by
 obtain ⟨vo, ve, vs, vl, no, ne, ns, nl, m2, m3, m4, m5, h6, h7, h8, h9, _⟩ := h.tup
 exact ⟨⟨oa, ea, st, la, tf, nt, vo, ve, vs, vl, no, ne, ns, nl, hg, k _ m2, k _ m3, k _ m4, k _ m5, h6, h7, h8, h9.mono k⟩, h.pl5, h.inj, h.ll, h.last, h.step⟩
theorem Qgx {a : Int} {t : Tok} {l : Led} {Q : VQ} (q : Q (.bool false) vals l) : WA Ψ (call (.builtin "isinstance") [.int a t, .type "bool"]) Q vals l := fun E s a' =>
 IsiPair.int_bool ⟨⟨rfl, rfl⟩, vals, l, ⟨a'.F, a'.N, a'.U, a'.G⟩, q⟩
theorem Qky {od : List Int} {f : BF} {rs : List Nat} {i r : Nat} (h : rs[i]? = some r) : wonN od f (rs.take (i + 1)) = wonN od f (rs.take i) + if f (asg 5 od r) then 1 else 0 := by
 rw [List.take_add_one, h, Qeu]
 congr 1
theorem Qg2 (pl : Nat → Nat) : ∀ {i : Nat}, i ≤ 2 → (rowsN pl i).length ≤ 4
 | 0, _ => by simp [rowsN]
 | 1, _ => by simp [rowsN]
 | 2, _ => by simp [rowsN]
theorem Qrh : ∀ {p : Nat}, p < 5 → (101 + (p : Int)) ∈ U1
 | 0, _ => by decide
 | 1, _ => by decide
 | 2, _ => by decide
 | 3, _ => by decide
 | 4, _ => by decide
theorem segE {Ψ : Frm hK NL W} {cn cl ct cp : Addr} {ot : Obj} {R0 : Led} (hr : Room Ψ.A 30) (H : L6 Ψ cn cl ct cp) (hot : (ct, ot) ∈ Rl) (hdt : ot.data = .cell (some (.ref sa))) {fr : Nat} {tf : Tok} {oa ea st la ro : Addr} {vr : List Value} {nr : Nat} {pl : Nat → Nat} {ev : Nat → Bool} {lims : List Lim} {Fs : Nat → BF} {o0 o1 o3 o4 o5 o9 o11 o12 o13 o14 o16 o17 o18 o19 o20 o21 o22 o23 o24 o25 o26 o27 o28 o29 o30 o31 o32 o33 o34 : Option Value}
  (G : Good W sa b σ) (F : Full σ) (GB : GameB W σ Rl oa ea st la fr pl ev lims Fs) (hro : (ro, listOf vr.toArray nr) ∈ Rl) (hvr : IntsAre vr ((rowsN pl fr).map fun (N : Nat) => ((N : Nat) : Int))) (hfr : fr ≤ 2) (hdep : ∀ j, Dep (Fs fr) j → j ∈ lvlN σ.order pl fr) (hR : ∀ x ∈ R0, x ∈ Rl) :
  WA Ψ (execs (fn551.body.drop 26) Ψ.env) (fun f _ l => f = .ret (.bool true) ∧ ∀ x ∈ R0, x ∈ l) (o0 :: o1 :: some (.int fr tf) :: o3 :: o4 :: o5 :: some (.ref ea) :: some (.ref oa) :: some (.ref st) :: o9 :: some (.ref ro) :: o11 :: o12 :: o13 :: o14 :: some (.ref la) :: o16 :: o17 :: o18 :: o19 :: o20 :: o21 :: o22 :: o23 :: o24 :: o25 :: o26 :: o27 :: o28 :: o29 :: o30 :: o31 :: o32 :: o33 :: o34 :: []) (mgL b ++ Rl) := by
 have O := odOf G F
 have at0 := G.at'
 have hs := G.hs
 have hh := hr.hh
 kcj_m
 obtain ⟨vo, ve, vs, vl, no, ne, ns, nl, m2, m3, m4, m5, h6, h7, h8, h9, _⟩ := GB.tup
 have hrl : vr.length = (rowsN pl fr).length := by rw [Qai hvr, List.length_map]
 have hrok := Qel O GB.pl5 GB.inj fr (by exact Qhi hfr)
 have hrlen := Qg2 pl hfr
 obtain ⟨u0, tu0, hu0, du0⟩ := h8 fr (Nat.le_refl _) (by exact Qhi hfr)
 kd_p1
 rw [Nat.sub_self] at hu0
 dsimp only [fn551, mkFn, List.drop]
 (ctx_mentions Ua Xa Yc Vc Zb Ua Xk Va)
 refine Qbk (M := mgL b) (mr hro) fun it oi li => ?_
 let J : Nat → Vals → Led → Prop := fun m vals' l' => Ex5 fun (i : Nat) (oi : Obj) (tw : Tok) (x_row x_value : Option Value) => An5 (m = (rowsN pl fr).length - i) (i ≤ (rowsN pl fr).length) (LiO oi ro i) (vals' = (o0 :: o1 :: some (.int fr tf) :: o3 :: o4 :: o5 :: some (.ref ea) :: some (.ref oa) :: some (.ref st) :: o9 :: some (.ref ro) :: x_row :: some (.int (wonN σ.order (Fs fr) ((rowsN pl fr).take i) : Nat) tw) :: x_value :: o14 :: some (.ref la) :: o16 :: o17 :: o18 :: o19 :: o20 :: o21 :: o22 :: o23 :: o24 :: o25 :: o26 :: o27 :: o28 :: o29 :: o30 :: o31 :: o32 :: o33 :: o34 :: [])) (l' = mgL b ++ (it, oi) :: Rl)
 refine WC.inv J ?_ (rowsN pl fr).length ⟨0, oi, _, _, _, rfl, Nat.zero_le _, li, rfl, rfl⟩
 rintro m _ _ ⟨i, oi, tw, x_row, x_value, hm, hi, hli, rfl, rfl⟩ again
 refine Mine.WC.letV ?_; intro vv
 by_cases hie : i = (rowsN pl fr).length
 ·subst hie
  refine WC.for1 (Qdi (a := ro) (vs := vr) (n := nr) hh rfl (mr (.tail _ hro)) hli (by rw [List.getElem?_eq_none_iff]; exact Qgr hrl) ?_)
  (ctx_mentions Zx Za Zb Ua Xa Fa)
  refine Qaz H hdt (mr hot) ?_
  (ctx_mentions Ic Yl Yk Va Yc)
  refine Qal (mr m4) (by kd_p) (by kd_p) (by exact hu0) ?_
  (ctx_mentions Vb Zh)
  rw [← Qgi σ.order pl fr]
  refine Qp7 (Fl := lvlN σ.order pl fr) G (hr.less (by kd_p)) F du0 (Qig O GB.pl5 GB.inj fr (by exact Qhi hfr)) hdep (by rw [Qgi]; exact Qhi hfr) (asg 5 σ.order 0) fun tc => ?_
  rw [← Qh2 O GB.pl5 GB.inj fr (by exact Qhi hfr)]
  (ctx_mentions Vc Zb Ua Yb)
  refine Qi3 ?_
  (ctx_mentions Xe Va Va Zj Zr)
  rw [List.take_length, beq_self_eq_true, if_pos rfl]
  (ctx_mentions Yf Fb Pa Yo Vb Yl Pa Zh)
  refine Qgx ?_
  refine Qq1 ?_
  (ctx_mentions Zc)
  exact ⟨rfl, fun x hx => mr (hR x hx)⟩
 ·have hil : i < (rowsN pl fr).length := by exact Qek hi hie
  obtain ⟨r, hx⟩ : ∃ r, (rowsN pl fr)[i]? = some r := ⟨_, List.getElem?_eq_getElem hil⟩
  have hr5 := hrok _ (List.mem_of_getElem? hx)
  obtain ⟨tr, hvi⟩ : ∃ t, vr[i]? = some (.int ((r : Nat) : Int) t) := Qap hvr (by rw [List.getElem?_map, hx]; rfl)
  refine WC.for1 (Qci (a := ro) (vs := vr) (n := nr) rfl (mr (.tail _ hro)) hli hvi fun oi' li' => ?_)
  have hst := Qky (od := σ.order) (f := Fs fr) hx
  obtain ⟨v, hv⟩ : ∃ v, Fs fr (asg 5 σ.order r) = v := ⟨_, rfl⟩
  (ctx_mentions Yv Zy Zz Vc Ua Xa Fb)
  refine Mine.L.funR (by nest_cls) (Qlq _) ?_; intro _
  (ctx_mentions Yl)
  refine Qaz H hdt (mr (.tail _ hot)) ?_
  (ctx_mentions Yl Yk Va Yc)
  refine Qal (mr (.tail _ m4)) (by kd_p) (by kd_p) (by exact hu0) ?_
  (ctx_mentions Vb Zh)
  refine Qln (Rl := (it, oi') :: Rl) G (hr.less (by kd_p)) F du0 hr5.1 ?_
  rw [hv]
  (ctx_mentions Vc Zb Ua Ya Yh Xi Fb)
  refine Mine.L.funR (by nest_cls) (Qlp _) ?_; intro _
  (ctx_mentions Yl)
  refine Qaz H hdt (mr (.tail _ hot)) ?_
  (ctx_mentions Yl Xg Vb Vb Vb Vb Vb Zh)
  refine Mine.L.newTup (M := mgL b) (Qac (n := 5) (by kd_p)) fun ga => ?_; intro _
  (ctx_mentions Vb Vb Vb Zh)
  refine Qu5 (Rl := (ga, _) :: (it, oi') :: Rl) G F (GB.game (tf := tf) (.head _) fun z hz => .tail _ (.tail _ hz)) (by exact Qhi hfr) v (5 - fr) _ _ _ fr r _ _ _ (by exact Q1c hfr) (Nat.le_refl _) (hr.less (by exact Q1b)) hr5.1 hr5.2 hv ?_
  (ctx_mentions Zr Ma Za Zb Ua Xa Ye Va Yg Xi Va Zr)
  cases v with
  | true =>
   (ctx_mentions Mb Yc Yq Vc Zb Za Zu)
   refine WC.sublist (mgL b ++ (it, oi') :: Rl) (sA (sD)) ?_
   have hst' : (wonN σ.order (Fs fr) ((rowsN pl fr).take i) : Int) + 1 = (wonN σ.order (Fs fr) ((rowsN pl fr).take (i + 1)) : Nat) := by rw [hst, hv]; rfl
   rw [hst']
   exact again ((rowsN pl fr).length - (i + 1)) _ _ (by exact Qdy hm hil) ⟨i + 1, oi', _, _, _, rfl, by exact Qdg hil, li', rfl, rfl⟩
  | false =>
   (ctx_mentions Ma Yc Yq Vc Zb Za Zu)
   refine WC.sublist (mgL b ++ (it, oi') :: Rl) (sA (sD)) ?_
   have hst' : (wonN σ.order (Fs fr) ((rowsN pl fr).take i) : Int) + 0 = (wonN σ.order (Fs fr) ((rowsN pl fr).take (i + 1)) : Nat) := by rw [hst, hv]; rfl
   rw [hst']
   exact again ((rowsN pl fr).length - (i + 1)) _ _ (by exact Qdy hm hil) ⟨i + 1, oi', _, _, _, rfl, by exact Qdg hil, li', rfl, rfl⟩
end
end
section
theorem Qce {vs us : List Value} {ns ms : List Int} (h : IntsAre vs ns) (h' : IntsAre us ms) : IntsAre (vs ++ us) (ns ++ ms) := by
 induction h with
 | nil => exact h'
 | cons n t _ ih => exact .cons n t ih
theorem Qgn {scope : Scope} {env : Env} {x y : Str} (hn : scope.names = [((".0" : Str), NameKind.local), (y, NameKind.local), (x, NameKind.free)]) (hk : env.scope.kind = .function) (hx : env.kindOf x = some .cell) (hy : [((".0" : Str), NameKind.local), (y, NameKind.local), (x, NameKind.cell)].lookup y = some .local) (hd : (y == ("__debug__" : Str)) = false) : ScOk (relabel scope env).names [y] [] :=
 ⟨by simp, fun z hz => by
  rw [show (relabel scope env).names = _ from Qf3 (cl := []) (L := 0) hn hk hx]
  rw [List.mem_singleton] at hz
  subst hz
  exact ⟨hy, hd⟩, fun y hy => by cases hy⟩
theorem Qdu {scope : Scope} {env : Env} {x y : Str} {cl : List (Str × Addr)} {L : Addr} (hn : scope.names = [((".0" : Str), NameKind.local), (y, NameKind.local), (x, NameKind.free)]) (hk : env.scope.kind = .function) (hx : env.kindOf x = some .cell) (hy : [((".0" : Str), NameKind.local), (y, NameKind.local), (x, NameKind.cell)].lookup x = some .cell) : (compEnvC scope cl L env).kindOf x = some .cell := by
 show (compEnvC scope cl L env).scope.names.lookup x = _
 rw [Qf3 hn hk hx]
 exact hy
section
variable {K : Params → Frag} {N : Nm} {W : Wd} {Ψ : Frm K N W} {vals : Vals} {l : Led}
theorem Qfh {bb : Bool} {T1 T2 : Sem Value} {C : VQ} {l : Led} (P : VQ) (h1 : if bb = true then WA Ψ T1 P vals l else WA Ψ T2 P vals l) (h2 : ∀ v vals l, P v vals l → C v vals l) :
  if bb = true then WA Ψ T1 C vals l else WA Ψ T2 C vals l := by
 cases bb with
 | true => exact WA.mono h1 h2
 | false => exact WA.mono h1 h2
noncomputable abbrev sliceObjL (u : Value) : Obj := { cls := .type "slice", data := .fields #[u, .none, .none] }
theorem Qfc {ue : Expr} {sp : Pos} {Q : VQ} (h : WA Ψ (eval ue Ψ.env) (fun uv vals l => ∃ M R, l = M ++ R ∧ ∀ x, Q (.ref x) vals (M ++ (x, sliceObj uv) :: R)) vals l) : WA Ψ (eval (.Slice none (some ue) none sp) Ψ.env) Q vals l := by
 rw [arm_eval_Slice]
 refine WA.bind ?_
 show WA Ψ (Pure.pure Value.none) _ _ _
 refine WA.pure (WA.bind (WA.holding ?_))
 show WA Ψ (eval ue Ψ.env) _ _ _
 refine h.mono fun uv _ _ h' => WA.bind (WA.holding ?_)
 show WA Ψ (Pure.pure Value.none) _ _ _
 refine WA.pure ?_
 obtain ⟨M, R, rfl, h'⟩ := h'
 refine Qad ?_
 intro E s a
 exact wpAny_newObj_type ⟨⟨rfl, rfl⟩, _, _, a.push, _, shiftPerm, h' _⟩
theorem Qi1 {ue : Expr} {sp : Pos} {Q : VQ} (h : WA Ψ (eval ue Ψ.env) (fun uv vals l => ∃ M R, l = M ++ R ∧ ∀ x, Q (.ref x) vals (M ++ (x, sliceObjL uv) :: R)) vals l) : WA Ψ (eval (.Slice (some ue) none none sp) Ψ.env) Q vals l := by
 rw [arm_eval_Slice]
 refine WA.bind ?_
 show WA Ψ (eval ue Ψ.env) _ _ _
 refine h.mono fun uv _ _ h' => WA.bind (WA.holding ?_)
 show WA Ψ (Pure.pure Value.none) _ _ _
 refine WA.pure (WA.bind (WA.holding ?_))
 show WA Ψ (Pure.pure Value.none) _ _ _
 refine WA.pure ?_
 obtain ⟨M, R, rfl, h'⟩ := h'
 refine Qad ?_
 intro E s a
 exact wpAny_newObj_type ⟨⟨rfl, rfl⟩, _, _, a.push, _, shiftPerm, h' _⟩
theorem Qix {a x : Addr} {vs : List Value} {n k : Nat} {t : Tok} {value slice : Expr} {M R : Led} {Q : VQ} (hm : (a, listOf vs.toArray n) ∈ M ++ R) (hz : vs.length ≤ 1000000) (hx : (x, sliceObj (.int k t)) ∈ M ++ R) (q : ∀ y, Q (.ref y) vals (M ++ (y, listOf (vs.take k).toArray 0) :: R))
  (hs : ∃ ops, subscripted slice false (.ref a) (.ref x) = PySem.operate ops (getItem (.ref a) (.ref x))) (ht : ∀ r, letTemporaryGo value (.ref a) r = Pure.pure ()) : WA Ψ (subscriptTail value slice (.ref a) (.ref x)) Q vals (M ++ R) := Qad fun E s a' => by
 obtain ⟨ops, hs⟩ := hs
 have hS : s.heap.IsList a vs.toArray := ⟨_, (a'.N _ hm).1, rfl, ⟨_, rfl⟩⟩
 refine subscriptTail_ops hS.typeIs slot_list_getitem.lookup (wpAny_getItem_list_slice hS ⟨_, (a'.N _ hx).1, rfl, rfl⟩ .none (.int _ _) .none (by simp) ⟨⟨rfl, rfl⟩, vals, _, a'.push, _, shiftPerm, ?_⟩ (by rw [List.size_toArray, Qae]; exact Qme hz)) hs ht
 have := q s.heap.objs.size
 rw [slicePick_upto', List.toList_toArray]
 exact this
theorem Qgv {a x : Addr} {vs : List Value} {n k : Nat} {t : Tok} {value slice : Expr} {M R : Led} {Q : VQ} (hm : (a, listOf vs.toArray n) ∈ M ++ R) (hz : vs.length ≤ 1000000) (hx : (x, sliceObjL (.int k t)) ∈ M ++ R) (q : ∀ y, Q (.ref y) vals (M ++ (y, listOf (vs.drop k).toArray 0) :: R))
  (hs : ∃ ops, subscripted slice false (.ref a) (.ref x) = PySem.operate ops (getItem (.ref a) (.ref x))) (ht : ∀ r, letTemporaryGo value (.ref a) r = Pure.pure ()) : WA Ψ (subscriptTail value slice (.ref a) (.ref x)) Q vals (M ++ R) := Qad fun E s a' => by
 obtain ⟨ops, hs⟩ := hs
 have hS : s.heap.IsList a vs.toArray := ⟨_, (a'.N _ hm).1, rfl, ⟨_, rfl⟩⟩
 refine subscriptTail_ops hS.typeIs slot_list_getitem.lookup (wpAny_getItem_list_slice hS ⟨_, (a'.N _ hx).1, rfl, rfl⟩ (.int _ _) .none .none (by simp) ⟨⟨rfl, rfl⟩, vals, _, a'.push, _, shiftPerm, ?_⟩ (by rw [List.size_toArray, Qae]; exact Qme hz)) hs ht
 have := q s.heap.objs.size
 rw [slicePick_from', List.toList_toArray]
 exact this
end
end
section
section
theorem Qxc (e : Env) (h : e.cells = [(("name" : Str), cn), (("leans" : Str), cl), (("tool" : Str), ct), (("pattern" : Str), cp)]) : e.cells.lookup ("name" : Str) = some cn := by rw [h]; rfl
theorem GameB.mono {W : Wd} {σ : Sg} {l l' : Led} {oa ea st la : Addr} {fr : Nat} {pl : Nat → Nat} {ev : Nat → Bool} {lims : List Lim} {Fs : Nat → BF} (h : GameB W σ l oa ea st la fr pl ev lims Fs) (k : ∀ z ∈ l, z ∈ l') : GameB W σ l' oa ea st la fr pl ev lims Fs := by
 obtain ⟨vo, ve, vs, vl, no, ne, ns, nl, m2, m3, m4, m5, h6, h7, h8, h9, h10⟩ := h.tup
 exact ⟨⟨vo, ve, vs, vl, no, ne, ns, nl, k _ m2, k _ m3, k _ m4, k _ m5, h6, h7, h8, h9.mono k, h10⟩, h.pl5, h.inj, h.ll, h.last, h.step⟩
theorem Qu7 {Ψ : Frm hK NL W} {cn cl ct cp : Addr} {ot : Obj} {R0 : Led} (hr : Room Ψ.A 30) (H : L6 Ψ cn cl ct cp) (hot : (ct, ot) ∈ Rl) (hdt : ot.data = .cell (some (.ref sa))) {on : Obj} {v0 : Option Value} {fr : Nat} {tf : Tok} {oa ea st la : Addr} {pl : Nat → Nat} {ev : Nat → Bool} {lims : List Lim} {Fs : Nat → BF} {o0 o1 o3 o4 o5 o9 o10 o11 o12 o13 o14 o16 o17 o18 o19 o20 o21 o22 o23 o24 o25 o26 o27 o28 o29 o30 o31 o32 o33 o34 : Option Value} (hdn : on.data = .cell v0)
  (G : Good W sa b σ) (F : Full σ) (GB : GameB W σ Rl oa ea st la fr pl ev lims Fs) (hfr : fr ≤ 2) (hdep : ∀ j, Dep (Fs fr) j → j ∈ lvlN σ.order pl fr) (hR : ∀ x ∈ R0, x ∈ Rl) :
  WA Ψ (execs (fn551.body.drop 24) Ψ.env) (fun f _ l => f = .ret (.bool true) ∧ ∀ x ∈ R0, x ∈ l) (o0 :: o1 :: some (.int fr tf) :: o3 :: o4 :: o5 :: some (.ref ea) :: some (.ref oa) :: some (.ref st) :: o9 :: o10 :: o11 :: o12 :: o13 :: o14 :: some (.ref la) :: o16 :: o17 :: o18 :: o19 :: o20 :: o21 :: o22 :: o23 :: o24 :: o25 :: o26 :: o27 :: o28 :: o29 :: o30 :: o31 :: o32 :: o33 :: o34 :: []) (mgL b ++ (cn, on) :: Rl) := by
 have at0 := G.at'
 have hs := G.hs
 have hh := hr.hh
 obtain ⟨vo, ve, vs, vl, no, ne, ns, nl, m2, m3, m4, m5, h6, h7, h8, h9, hvo⟩ := GB.tup
 have hx551 := Qxc Ψ.env H.cs
 have hkn := H.k _ (.head _)
 dsimp only [fn551, mkFn, List.drop]
 (ctx_mentions Ua Xa)
 refine Mine.L.list rfl ?_; intro _
 (ctx_mentions Yl Yc Zh)
 refine Qaf (M := mgL b) (Qac (n := 1) (by kd_p)) fun r0 => ?_
 (ctx_mentions Vc Zb Ua Xk Yk Va)
 refine Qfc ?_
 (ctx_mentions Va)
 refine ⟨mgL b, _, rfl, fun sx => ?_⟩
 refine Qix (k := fr) (M := mgL b) (mr (.tail _ (.tail _ (.tail _ m2)))) (by exact Qtg hvo) (mr (.head _)) (fun sl => ?_) ⟨_, by with_unfolding_all rfl⟩ (by intro _; with_unfolding_all rfl)
 refine Qbk (M := mgL b) (mr (.head _)) fun it oi li => ?_
 refine WC.sublist (mgL b ++ (it, oi) :: (sl, listOf (vo.take fr).toArray 0) :: (r0, listOf [.int 0 _].toArray 0) :: (cn, on) :: Rl) (sA (sB (sB (sD)))) ?_
 let J : Nat → Vals → Led → Prop := fun m vals' l' => Ex7 fun (i : Nat) (oi on : Obj) (v0 : Option Value) (vr : List Value) (nr : Nat) (ro : Addr) => An7 (m = fr - i) (i ≤ fr) (LiO oi sl i) (on.data = .cell v0) (IntsAre vr ((rowsN pl i).map fun (N : Nat) => ((N : Nat) : Int))) (vals' = (o0 :: o1 :: some (.int fr tf) :: o3 :: o4 :: o5 :: some (.ref ea) :: some (.ref oa) :: some (.ref st) :: o9 :: some (.ref ro) :: o11 :: o12 :: o13 :: o14 :: some (.ref la) :: o16 :: o17 :: o18 :: o19 :: o20 :: o21 :: o22 :: o23 :: o24 :: o25 :: o26 :: o27 :: o28 :: o29 :: o30 :: o31 :: o32 :: o33 :: o34 :: [])) (l' = mgL b ++ (it, oi) :: (sl, listOf (vo.take fr).toArray 0) :: (ro, listOf vr.toArray nr) :: (cn, on) :: Rl)
 refine WC.inv J ?_ fr ⟨0, oi, on, v0, _, 0, r0, rfl, Nat.zero_le _, li, hdn, .cons _ _ .nil, rfl, rfl⟩
 clear hdn li
 rintro m _ _ ⟨i, oi, on, v0, vr, nr, ro, hm, hi, hli, hdn, hvr, rfl, rfl⟩ again
 refine Mine.WC.letV ?_; intro vv
 have hrl : vr.length = (rowsN pl i).length := by rw [Qai hvr, List.length_map]
 have hrlen := Qg2 pl (show i ≤ 2 by exact Q1a hfr hi)
 have hml : (sl, listOf (vo.take fr).toArray 0) ∈ mgL b ++ (it, oi) :: (sl, listOf (vo.take fr).toArray 0) :: (ro, listOf vr.toArray nr) :: (cn, on) :: Rl := mr (.tail _ (.head _))
 by_cases hie : i = fr
 ·subst hie
  refine WC.for1 (Qdi (a := sl) (vs := vo.take i) (n := 0) hh rfl hml hli (by rw [List.getElem?_eq_none_iff, List.length_take]; exact Q09) ?_)
  refine Zx (Za (Zb ?_))
  exact segE hr H (.tail _ (.tail _ (.tail _ hot))) hdt G F (GB.mono fun z hz => .tail _ (.tail _ (.tail _ hz))) (.tail _ (.head _)) hvr hfr hdep fun x hx => .tail _ (.tail _ (.tail _ (hR x hx)))
 have hif : i < fr := by exact Qek hi hie
 obtain ⟨tn, htn⟩ := h6 i (by exact Qtf hfr hif)
 refine WC.for1 (Qci (a := sl) (vs := vo.take fr) (n := 0) rfl hml hli (x := .int (101 + (pl i : Int)) tn) (by rw [List.getElem?_take, if_pos hif]; exact htn) fun oi' li' => ?_)
 (ctx_mentions Yv Zy Zz)
 refine Qc7 (pre := mgL b ++ [(it, oi'), (sl, listOf (vo.take fr).toArray 0), (ro, listOf vr.toArray nr)]) (post := Rl) hkn hx551 (by simp) hdn fun on' hdn' => ?_
 rw [List.append_assoc]
 clear hdn
 have hmr : (ro, listOf vr.toArray nr) ∈ mgL b ++ (it, oi') :: (sl, listOf (vo.take fr).toArray 0) :: (ro, listOf vr.toArray nr) :: (cn, on') :: Rl := mr (.tail _ (.tail _ (.head _)))
 (ctx_mentions Ua Xa Ye Va)
 refine Qbg (cl := [("name", cn)]) (Qcg rfl hx551) rfl (by decide) (by decide) [] (Qgn rfl Ψ.e.kind hkn (by kcf_m) (by kcf_m)) ?_ (by intro _; with_unfolding_all rfl)
 (ctx_mentions Va)
 refine Qbk (M := mgL b) hmr fun it2 oi2 li2 => ?_
 refine Qaf (M := mgL b) (vs := []) (Qac (n := 0) (by kd_p)) fun acc => ?_
 intro Ψ2 he2 ha2
 refine ⟨?_, Src.list (vs := vr) (k := nr) |>.self (mr (.tail _ (.head _))) li2 ⟨rfl, rfl, rfl⟩⟩
 have hck2 : Ψ2.env.kindOf "name" = some .cell := by rw [he2]; exact Qdu (y := "row") rfl Ψ.e.kind hkn (by kcf_m)
 refine Qe7 (M := mgL b) (n := vr.length) (Rr := fun j y => ∃ t, y = Value.int ((((rowsN pl i).getD j 0) + 2 ^ pl i : Nat) : Int) t) (Src.list (vs := vr) (k := nr)) (by rw [ha2]; exact hh) (by exact Q08 hrl hrlen) (fun z hz => by rw [List.mem_singleton.mp hz]; exact hmr) li2 .here (fun j v' l' Q' hj hP hl' q' => ?_) fun ys k3 v3 hlen hys => ?_
 ·obtain ⟨tj, htj⟩ := Qap hvr (i := j) (x := (((rowsN pl i).getD j 0 : Nat) : Int)) (by
   rw [List.getElem?_map, List.getElem?_eq_getElem (by exact Qog hrl hj : j < (rowsN pl i).length), List.getD_eq_getElem?_getD, List.getElem?_eq_getElem (by exact Qog hrl hj : j < (rowsN pl i).length)]; rfl)
  rw [htj] at hP
  obtain rfl := (Option.some.inj hP).symm
  (ctx_mentions Ye Va Ye Yc Ye)
  refine Qao Ψ2.e.kind hck2 (c := cn) (by rw [he2]; rfl) (o := on') (hl' _ (mr (.tail _ (.tail _ (.tail _ (.head _)))))) hdn' (by decide) ?_
  (ctx_mentions Yc Yr)
  rw [show (101 : Int) + (pl i : Int) - 101 = (pl i : Int) by exact Qmc]
  refine Qa8 (by exact Qdc) (by have := GB.pl5 i (by exact Qtf hfr hif); exact Qkh this) fun _ => ?_
  (ctx_mentions Yq)
  refine q' _ ⟨_, congrArg (fun z => Value.int z _) ?_⟩
  rw [Int.toNat_natCast]; push_cast; rfl
 ·have hI := Qgk ys _ hys
  have hI2 : IntsAre (vr ++ ys) ((rowsN pl (i + 1)).map fun (N : Nat) => ((N : Nat) : Int)) := by
   show IntsAre _ ((rowsN pl i ++ (rowsN pl i).map (· + 2 ^ pl i)).map _)
   rw [List.map_append]
   refine Qce hvr ?_
   have e : (List.range ys.length).map (fun j => ((((rowsN pl i).getD j 0) + 2 ^ pl i : Nat) : Int)) = ((rowsN pl i).map (· + 2 ^ pl i)).map fun (N : Nat) => ((N : Nat) : Int) := by
    rw [hlen, hrl]
    apply List.ext_getElem
    ·simp
    ·intro z h1 h2
     rw [List.length_map, List.length_range] at h1
     simp only [List.getElem_map, List.getElem_range]
     rw [List.getD_eq_getElem?_getD, List.getElem?_eq_getElem h1]; rfl
   rw [← e]; exact hI
  refine ⟨mgL b ++ (acc, listOf ys.toArray k3) :: (it, oi') :: (sl, listOf (vo.take fr).toArray 0) :: (ro, listOf vr.toArray nr) :: (cn, on') :: Rl, List.Sublist.refl _, ?_⟩
  refine Qiy (M := mgL b) (vs := vr) (us := ys) (mr (.tail _ (.tail _ (.tail _ (.head _))))) (mr (.head _)) (by exact Q07 hrl hrlen hlen) fun ro' => ?_
  (ctx_mentions Vc Zb Za Zu)
  refine WC.sublist (mgL b ++ (ro', listOf (vr ++ ys).toArray 0) :: (it, oi') :: (sl, listOf (vo.take fr).toArray 0) :: (cn, on') :: Rl) (sA (sB (sC (sB (sB (sD)))))) ?_
  refine WC.perm (mgL b ++ (it, oi') :: (sl, listOf (vo.take fr).toArray 0) :: (ro', listOf (vr ++ ys).toArray 0) :: (cn, on') :: Rl) (List.Perm.append_left _ (List.perm_middle (l₁ := [(it, oi'), (sl, listOf (vo.take fr).toArray 0)]))) ?_
  exact again (fr - (i + 1)) _ _ (by exact Qdy hm hif) ⟨i + 1, oi', on', _, _, 0, ro', rfl, by exact Qdg hif, li', hdn', hI2, rfl, rfl⟩
end
end
section
theorem Qr1 {od : List Int} (O : Od 5 od) {p : Nat} (hp : p < 5) : lsetO od [101 + (p : Int)] = S1 (lev od p) := funext fun j => by
 unfold lsetO S1
 rw [decide_eq_decide]
 obtain ⟨h0, h5, hpl⟩ := O.lev_ok hp
 constructor
 ·rintro ⟨hj, x, hx, ho⟩
  rw [List.mem_singleton] at hx
  subst hx
  have hlt : j.toNat < 5 := by
   have := (List.getElem?_eq_some_iff.mp ho).1
   rw [O.len] at this; exact this
  obtain ⟨_, h2, h3⟩ := O.plc_ok hj (show j < ((5 : Nat) : Int) by exact Q06 hlt)
  rw [ho] at h3
  have : p = plc od j := by have := Option.some.inj h3; exact Qql this
  rw [this, h2]
 ·rintro rfl
  obtain ⟨_, h2, h3⟩ := O.plc_ok h0 h5
  exact ⟨h0, _, .head _, by rw [h3, hpl]⟩
noncomputable def blkN (pl : Nat → Nat) (p : Nat) : Nat → List Int
 | 0 => []
 | k + 1 => blkN pl p k ++ [101 + (pl (p - (k + 1)) : Int)]
theorem Qpe {od : List Int} (O : Od 5 od) {pl : Nat → Nat} {ev : Nat → Bool} {Fs : Nat → BF} {fr p : Nat} {e : Bool} (h5 : ∀ i, i < 5 → pl i < 5) (hp : p ≤ 5) (step : ∀ i, fr ≤ i → i < 5 → Fs i = qf (ev i) (S1 (lev od (pl i))) (Fs (i + 1))) :
  ∀ k, k ≤ p - fr → (∀ j, p - k ≤ j → j < p → ev j = e) → qf e (lsetO od (blkN pl p k)) (Fs p) = Fs (p - k)
 | 0, _, _ => by
  have : lsetO od (blkN pl p 0) = fun _ => false := funext fun j => by unfold lsetO blkN; simp
  rw [this, Qk5]; rfl
 | k + 1, hk, he => by
  have ih := Qpe O h5 hp step k (by exact Q05 hk) fun j h1 h2 => he j (by exact Qte h1) h2
  have e1 := step (p - (k + 1)) (by exact Q04 hk) (by exact Qqe hp)
  rw [he _ (Nat.le_refl _) (by exact Q03 hk), show p - (k + 1) + 1 = p - k by exact Q02 hk] at e1
  show qf e (lsetO od (blkN pl p k ++ [101 + (pl (p - (k + 1)) : Int)])) (Fs p) = _
  rw [Qg6, ← Qni, ih, Qr1 O (h5 _ (by exact Qqe hp)), e1]
theorem Qn1 {od names : List Int} {f : BF} (hf : ∀ a : Asg, f a = true ↔ ∀ j : Nat, (∃ x ∈ names, od[j]? = some x) → a j = true) (j : Int) : Dep f j ↔ lsetO od names j = true := by
 unfold lsetO
 rw [decide_eq_true_eq]
 constructor
 ·rintro ⟨a, ha⟩
  by_cases h : 0 ≤ j ∧ ∃ x ∈ names, od[j.toNat]? = some x
  ·exact h
  ·exfalso
   apply ha
   rw [Bool.eq_iff_iff, hf, hf]
   have key : ∀ b (n : Nat), (∃ x ∈ names, od[n]? = some x) → upd a j b n = a n := fun b n hn => by
    unfold upd
    rw [if_neg]
    intro e
    exact h ⟨by exact Q01 e, by rw [← e, Int.toNat_natCast]; exact hn⟩
   exact ⟨fun q n hn => by rw [key _ _ hn, ← key true _ hn]; exact q n hn, fun q n hn => by rw [key _ _ hn, ← key false _ hn]; exact q n hn⟩
 ·rintro ⟨h0, h⟩
  refine ⟨fun _ => true, ?_⟩
  have e1 : f (upd (fun _ => true) j true) = true := (hf _).mpr fun n _ => by unfold upd; split <;> rfl
  have e2 : f (upd (fun _ => true) j false) ≠ true := fun q => by
   have := (hf _).mp q j.toNat h
   unfold upd at this
   rw [if_pos (by exact Qir h0)] at this
   cases this
  rw [e1]
  exact fun q => e2 q.symm
theorem Qip {pl : Nat → Nat} {p : Nat} : ∀ {k : Nat} {x : Int}, k ≤ p → (x ∈ blkN pl p k ↔ ∃ j, p - k ≤ j ∧ j < p ∧ x = 101 + (pl j : Int))
 | 0, x, _ => by simp [blkN]; intro j h1 h2; exact Q00 h1 h2
 | k + 1, x, hk => by
  show x ∈ blkN pl p k ++ _ ↔ _
  rw [List.mem_append, Qip (by exact Qiq hk), List.mem_singleton]
  constructor
  ·rintro (⟨j, h1, h2, rfl⟩ | rfl)
   ·exact ⟨j, by exact Qte h1, h2, rfl⟩
   ·exact ⟨_, Nat.le_refl _, by exact Q0z hk, rfl⟩
  ·rintro ⟨j, h1, h2, rfl⟩
   by_cases e : j = p - (k + 1)
   ·exact .inr (by rw [e])
   ·exact .inl ⟨j, by exact Qtd h1 e, h2, rfl⟩
theorem Qgp (pl : Nat → Nat) (p : Nat) : ∀ k, (blkN pl p k).length = k
 | 0 => rfl
 | k + 1 => by show (blkN pl p k ++ _).length = _; rw [List.length_append, Qgp pl p k]; rfl
theorem Qpf {pl : Nat → Nat} {p : Nat} (hp : p ≤ 5) (inj : ∀ i j, i < 5 → j < 5 → pl i = pl j → i = j) : ∀ k, k ≤ p → (blkN pl p k).Nodup
 | 0, _ => .nil
 | k + 1, hk => by
  show (blkN pl p k ++ [_]).Nodup
  rw [List.nodup_append]
  refine ⟨Qpf hp inj k (by exact Qiq hk), by simp, fun a ha b hb => ?_⟩
  rw [List.mem_singleton] at hb
  subst hb
  obtain ⟨j, h1, h2, rfl⟩ := (Qip (by exact Qiq hk)).mp ha
  intro e
  have := inj j (p - (k + 1)) (by exact Qtc hp h2) (by exact Qqe hp) (by exact Qql e)
  exact Q0y hk h1 this
end
section
section
theorem GameB.ext {W : Wd} {σ σ' : Sg} {l : Led} {oa ea st la : Addr} {fr : Nat} {pl : Nat → Nat} {ev : Nat → Bool} {lims : List Lim} {Fs : Nat → BF} (h : GameB W σ l oa ea st la fr pl ev lims Fs) (e : Ext σ σ') : GameB W σ' l oa ea st la fr pl ev lims Fs := by
 obtain ⟨vo, ve, vs, vl, no, ne, ns, nl, m2, m3, m4, m5, h6, h7, h8, h9, h10⟩ := h.tup
 refine ⟨⟨vo, ve, vs, vl, no, ne, ns, nl, m2, m3, m4, m5, h6, h7, fun i h1 h2 => ?_, h9, h10⟩, h.pl5, h.inj, h.ll, by rw [e.ord]; exact h.last, by rw [e.ord]; exact h.step⟩
 obtain ⟨u, t, h3, h4⟩ := h8 i h1 h2
 exact ⟨u, t, h3, h4.ext e⟩
theorem Q8y (e : Bool) {u v : Int} {to tu tv : Tok} {fu fv : BF} {N : Nm} {Ψ : Frm hK N W} {vals : Vals} {Q : VQ} (G : Good W sa b σ) (hr : Room Ψ.A 28) (cap : Cap σ 2048) (hf : Full σ) (du : Den σ u fu) (dv : Den σ v fv)
  (q : ∀ t' b' σ' r S, Good W sa b' σ' → Gr σ σ' 2048 → (∀ j, S j = true ↔ Dep fu j) → Den σ' r (qf (!e) S fv) → Q (.int r t') vals (mgL b' ++ Rl)) :
  WA Ψ (call (.ref 464) [.ref sa, .str (if e then "exists" else "forall") to, .int u tu, .int v tv]) Q vals (mgL b ++ Rl) := by
 cases e with
 | true => exact Qxa G hr cap hf du dv q
 | false => exact Q6p G hr cap hf du dv q
theorem Qu8 {Ψ : Frm hK NL W} {cn cl ct cp : Addr} {ot : Obj} {R0 : Led} (hr : Room Ψ.A 30) (H : L6 Ψ cn cl ct cp) (hot : (ct, ot) ∈ Rl) (hdt : ot.data = .cell (some (.ref sa))) {on : Obj} {v0 : Option Value} {fr : Nat} {tf tc : Tok} {c : Int} {oa ea st la : Addr} {pl : Nat → Nat} {ev : Nat → Bool} {lims : List Lim} {Fs : Nat → BF} {o0 o1 o3 o4 o5 o9 o10 o11 o12 o13 o14 o16 o17 o18 o19 o20 o21 o22 o23 o24 o25 o26 o27 o28 o29 o30 o32 o33 o34 : Option Value} (hdn : on.data = .cell v0)
  (G : Good W sa b σ) (F : Full σ) (GB : GameB W σ Rl oa ea st la fr pl ev lims Fs) (hfr : fr ≤ 2) (hdep : ∀ j, Dep (Fs fr) j → j ∈ lvlN σ.order pl fr) (cap : Cap σ 25000) (dc : Den σ c fun a => !Fs 5 a) (hR : ∀ x ∈ R0, x ∈ Rl) :
  WA Ψ (execs (fn551.body.drop 22) Ψ.env) (fun f _ l => f = .ret (.bool true) ∧ ∀ x ∈ R0, x ∈ l) (o0 :: o1 :: some (.int fr tf) :: o3 :: o4 :: o5 :: some (.ref ea) :: some (.ref oa) :: some (.ref st) :: o9 :: o10 :: o11 :: o12 :: o13 :: o14 :: some (.ref la) :: o16 :: o17 :: o18 :: o19 :: o20 :: o21 :: o22 :: o23 :: o24 :: o25 :: o26 :: o27 :: o28 :: o29 :: o30 :: some (.int c tc) :: o32 :: o33 :: o34 :: []) (mgL b ++ (cn, on) :: Rl) := by
 have hh := hr.hh
 dsimp only [fn551, mkFn, List.drop]
 (ctx_mentions Ua Xa Yc Vc Zb Ua ZA)
 let J : Nat → Vals → Led → Prop := fun m vals' l' => Ex10 fun (p : Nat) (y : Int) (b : Mg) (σ : Sg) (c : Int) (tc tp : Tok) (x_last x_inner x_block : Option Value) => An12 (m = p - fr) (y = (p : Nat)) (fr ≤ p) (p ≤ 5) (Good W sa b σ) (Full σ) (GameB W σ Rl oa ea st la fr pl ev lims Fs) ((∀ j, Dep (Fs fr) j → j ∈ lvlN σ.order pl fr)) (Cap σ (5000 * (p - fr))) (Den σ c (fun a => !Fs p a)) (vals' = (o0 :: o1 :: some (.int fr tf) :: some (.int y tp) :: o4 :: o5 :: some (.ref ea) :: some (.ref oa) :: some (.ref st) :: o9 :: o10 :: o11 :: o12 :: o13 :: o14 :: some (.ref la) :: o16 :: o17 :: o18 :: o19 :: o20 :: o21 :: o22 :: o23 :: o24 :: o25 :: o26 :: o27 :: x_last :: x_inner :: x_block :: some (.int c tc) :: o32 :: o33 :: o34 :: [])) (l' = mgL b ++ (cn, on) :: Rl)
 refine WC.inv J ?_ (5 - fr) ⟨5, 5, b, σ, c, tc, _, _, _, _, rfl, rfl, by exact Qhi hfr, Nat.le_refl _, G, F, GB, hdep, cap.less (by exact Q0x), dc, rfl, rfl⟩
 clear G F GB hdep cap dc
 rintro m _ _ ⟨p, y, b, σ, c, tc, tp, x_last, x_inner, x_block, hm, hy, hfp, hp5, G, F, GB, hdep, cap, dc, rfl, rfl⟩ again
 refine Mine.WC.letV ?_; intro vv
 have at0 := G.at'
 have hs := G.hs
 have O := odOf G F
 obtain ⟨vo, ve, vs, vl, no, ne, ns, nl, m2, m3, m4, m5, h6, h7, h8, h9, hvo⟩ := GB.tup
 refine WC.while1 ?_
 (ctx_mentions Xf Va Va Zn Zr)
 refine Qak (fun h1 => ?_) fun h1 => ?_
 ·have hfp' : fr < p := by simpa [hy] using h1
  have hev := h7 (p - 1) (by exact Q0w hp5)
  kcj_m
  obtain ⟨ui, ti, hui, dui⟩ := h8 p (by exact Q0v hfp') (by exact Q0u hp5)
  kd_p1
  have hi1 : y - 1 = ((p - 1 : Nat) : Int) := by exact Q0t hy hfp'
  have hi2 : y - (fr : Int) = ((p - fr : Nat) : Int) := by exact Q0s hfp' hi1
  (ctx_mentions Ua Xa Yk Va Ye Va Yc Yr)
  refine Qal (mr (.tail _ m3)) (by exact Q0r hi1) (by exact Q0q hp5 hi1) (by rw [hi1, Int.toNat_natCast]; exact hev) ?_
  (ctx_mentions Vc Zb Ua Xa Yk Va Ye Va Va Yr)
  refine Qal (mr (.tail _ m4)) (by exact Q0p hi2) (by exact Q0o hp5 hi2) (by rw [hi2, Int.toNat_natCast]; exact hui) ?_
  (ctx_mentions Vc Zb Ua Xa)
  refine Mine.L.list rfl ?_; intro _
  (ctx_mentions Zh)
  refine Qaf (M := mgL b) (vs := []) (Qac (n := 0) (by kd_p)) fun bl => ?_
  (ctx_mentions Vc Zb Ua ZA)
  let J : Nat → Vals → Led → Prop := fun m vals' l' => Ex5 fun (k nb : Nat) (z : Int) (vb : List Value) (tp : Tok) => An7 (m = p - fr - k) (z = ((p - k : Nat) : Int)) (k ≤ p - fr) ((∀ j, p - k ≤ j → j < p → ev j = ev (p - 1))) (IntsAre vb (blkN pl p k)) (vals' = (o0 :: o1 :: some (.int fr tf) :: some (.int z tp) :: o4 :: o5 :: some (.ref ea) :: some (.ref oa) :: some (.ref st) :: o9 :: o10 :: o11 :: o12 :: o13 :: o14 :: some (.ref la) :: o16 :: o17 :: o18 :: o19 :: o20 :: o21 :: o22 :: o23 :: o24 :: o25 :: o26 :: o27 :: some (.bool (ev (p - 1))) :: some (.int ui ti) :: some (.ref bl) :: some (.int c tc) :: o32 :: o33 :: o34 :: [])) (l' = mgL b ++ (bl, listOf vb.toArray nb) :: (cn, on) :: Rl)
  refine WC.inv J ?_ (p - fr) ⟨0, 0, y, [], tp, rfl, hy, Nat.zero_le _, fun j h1 h2 => by kd_p, .nil, rfl, rfl⟩
  rintro m2' _ _ ⟨k, nb, z, vb, tp, hm2, hz, hk, hek, hvb, rfl, rfl⟩ again2
  refine WC.while1 ?_
  refine WA.mono (Q := fun t vals' l' => t = (decide (fr < p - k) && (ev (p - k - 1) == ev (p - 1))) ∧ vals' = (o0 :: o1 :: some (.int fr tf) :: some (.int z tp) :: o4 :: o5 :: some (.ref ea) :: some (.ref oa) :: some (.ref st) :: o9 :: o10 :: o11 :: o12 :: o13 :: o14 :: some (.ref la) :: o16 :: o17 :: o18 :: o19 :: o20 :: o21 :: o22 :: o23 :: o24 :: o25 :: o26 :: o27 :: some (.bool (ev (p - 1))) :: some (.int ui ti) :: some (.ref bl) :: some (.int c tc) :: o32 :: o33 :: o34 :: []) ∧ l' = mgL b ++ (bl, listOf vb.toArray nb) :: (cn, on) :: Rl) ?_ ?_
  ·(ctx_mentions Zf Yi Xf Va Va Zn Zr)
   by_cases h2 : fr < p - k
   ·have hev2 := h7 (p - k - 1) (by exact Qtb hp5)
    have hi3 : z - 1 = ((p - k - 1 : Nat) : Int) := by exact Q0n hz h2
    rw [decide_eq_true (by exact Q0m h2 hi3)]
    (ctx_mentions Mb Yi Xf Yk Va Ye Va Yc Yr)
    refine Qal (mr (.tail _ (.tail _ m3))) (by exact Q0l hi3) (by exact Q0k hp5 hi3) (by rw [hi3, Int.toNat_natCast]; exact hev2) ?_
    (ctx_mentions Va)
    refine Qhy ?_
    (ctx_mentions Zr)
    refine Qak (fun h => ?_) fun h => ?_
    ·(ctx_mentions Zg)
     exact ⟨by rw [decide_eq_true h2, Bool.true_and, h] <;> rfl, rfl, rfl⟩
    ·skip
     exact ⟨by rw [decide_eq_true h2, Bool.true_and, h] <;> rfl, rfl, rfl⟩
   ·rw [decide_eq_false (by exact Q0j hz h2)]
    (ctx_mentions Ma)
    exact ⟨by rw [decide_eq_false h2, Bool.false_and], rfl, rfl⟩
  rintro t _ _ ⟨ht, rfl, rfl⟩
  refine Qak (fun h2 => ?_) fun h2 => ?_
  ·rw [ht, Bool.and_eq_true, decide_eq_true_eq, beq_iff_eq] at h2
   obtain ⟨to, hto⟩ := h6 (p - k - 1) (by exact Qtb hp5)
   have hi3 : z - 1 = ((p - (k + 1) : Nat) : Int) := by exact Q0i hz h2.1
   rw [show p - k - 1 = p - (k + 1) by exact Q0h] at hto h2
   (ctx_mentions Ua Xa Ye Va Yc Yr Vc Zb Ua Xd Fa Va)
   refine Qes (vs := vb) (n := nb) (mr (.head _)) PySem.F.slot_list_append PySem.F.type_list_append ?_
   (ctx_mentions Yn Yl Yk Va Va)
   refine Qal (mr (.tail _ (.tail _ m2))) (by exact Q0g hi3) (by exact Q0f hp5 hi3) (by rw [hi3, Int.toNat_natCast]; exact hto) ?_
   (ctx_mentions Zh)
   refine Qbn (pre := mgL b) (post := (cn, on) :: Rl) (vs := vb) (n := nb) rfl (by rw [Qai hvb, Qgp]; exact Q0e hp5 h2.1) ?_
   (ctx_mentions Zb Za Zu)
   exact again2 (p - fr - (k + 1)) _ _ (by exact Q0d hm2 h2.1) ⟨k + 1, nb + 1, _, _, _, rfl, hi3, by exact Q0c h2.1, fun j h3 h4 => by
    by_cases e : j = p - (k + 1)
    ·rw [e]; exact h2.2
    ·exact hek j (by exact Qtd h3 e) h4, Qce hvb (.cons _ _ .nil), rfl, rfl⟩
  ·rw [ht, Bool.and_eq_false_iff, decide_eq_false_iff_not, beq_eq_false_iff_ne] at h2
   have hk0 : 0 < k := by
    rcases Nat.eq_zero_or_pos k with e | e
    ·subst e
     rcases h2 with h2 | h2
     ·exact Q0b hfp' h2
     ·exact absurd rfl h2
    ·exact e
   have hq := Qpe O GB.pl5 hp5 GB.step k hk hek
   have hnd := Qpf (pl := pl) hp5 GB.inj k (by exact Qta hk)
   have hU : ∀ x ∈ blkN pl p k, x ∈ U1 := fun x hx => by
    obtain ⟨j, h3, h4, rfl⟩ := (Qip (by exact Qta hk)).mp hx
    exact Qrh (GB.pl5 j (by exact Qtc hp5 h4))
   (ctx_mentions Za Zb Ua Xa Fa)
   refine Qaz H hdt (mr (.tail _ (.tail _ hot))) ?_
   (ctx_mentions Ic Yl Yg Xi Va Zr)
   let J : VQ := fun x vals' l' => ∃ t, x = .str (if ev (p - 1) then "exists" else "forall") t ∧ vals' = (o0 :: o1 :: some (.int fr tf) :: some (.int z tp) :: o4 :: o5 :: some (.ref ea) :: some (.ref oa) :: some (.ref st) :: o9 :: o10 :: o11 :: o12 :: o13 :: o14 :: some (.ref la) :: o16 :: o17 :: o18 :: o19 :: o20 :: o21 :: o22 :: o23 :: o24 :: o25 :: o26 :: o27 :: some (.bool (ev (p - 1))) :: some (.int ui ti) :: some (.ref bl) :: some (.int c tc) :: o32 :: o33 :: o34 :: []) ∧ l' = mgL b ++ (bl, listOf vb.toArray nb) :: (cn, on) :: Rl
   refine Qfh J (Qak (fun h => ?_) fun h => ?_) ?_
   ·(ctx_mentions Yd)
    exact ⟨_, by rw [h]; rfl, rfl, rfl⟩
   ·(ctx_mentions Yd)
    exact ⟨_, by rw [h]; rfl, rfl, rfl⟩
   rintro _ _ _ ⟨to, rfl, rfl, rfl⟩
   (ctx_mentions Yl Fa)
   refine Qaz H hdt (mr (.tail _ (.tail _ hot))) ?_
   (ctx_mentions Ic Vb Zh)
   refine Qsg (to := to) (Rl := (bl, listOf vb.toArray nb) :: (cn, on) :: Rl) G (hr.less (by kd_p)) (cap.less (by exact Q0a hk hk0)) F (.head _) hvb hU hnd (by rw [Qgp]; exact Qz9 hp5 hk) fun tb1 b1 σ1 r1 f1 G1 g1 d1 hf1 => ?_
   have at1 := G1.at'
   have hs1 := G1.hs
   (ctx_mentions Vb Zh)
   refine Q8y (ev (p - 1)) G1 (hr.less (by kd_p)) (Qaj (c := 512) (cap.less (by exact Qz8 hk hk0)) g1) (F.ext g1.e) d1 (dc.ext g1.e) fun tc2 b2 σ2 c2 S G2 g2 hS d2 => ?_
   have at2 := G2.at'
   have hs2 := G2.hs
   have g12 := g1.trans g2
   have eS : S = lsetO σ.order (blkN pl p k) := funext fun j => by rw [Bool.eq_iff_iff, hS, Qn1 hf1]
   rw [eS, qf_not, hq] at d2
   kcj_m
   obtain ⟨uq, tq, huq, duq⟩ := h8 (p - k) (by exact Qs9 hk hk0) (by exact Qqq hp5)
   kd_p1
   have hi4 : z - (fr : Int) = ((p - k - fr : Nat) : Int) := by exact Qz7 hz hk hk0
   have hc2 : c2 = -uq := Qim G2.ok d2 (duq.ext g12.e).not
   have hmst : ∀ {x : Mg}, (st, listOf vs.toArray ns) ∈ mgL x ++ (bl, listOf vb.toArray nb) :: (cn, on) :: Rl := mr (.tail _ (.tail _ m4))
   (ctx_mentions Vc Zb Ua Ya Zf Yj Xf Va Yf Yk Va Ye Va Va Yr)
   refine Qal hmst (by exact Qs8 hi4) (by exact Qs7 hp5 hi4) (by rw [hi4, Int.toNat_natCast]; exact huq) ?_
   (ctx_mentions Ys Zk Zr Ma Yj Xf Fa)
   refine Qaz H hdt (mr (.tail _ (.tail _ hot))) ?_
   (ctx_mentions Ic Vb Vb Vb Zh)
   refine Qj3 (Rl := (bl, listOf vb.toArray nb) :: (cn, on) :: Rl) G2 (hr.less (by kd_p)) (Qaj (c := 512 + 2048) (cap.less (by exact Qz6 hk hk0)) g12) (F.ext g12.e) (dui.ext g12.e) (Qgd (.head _) hvb hU (by rw [Qgp]; exact Qz5 hp5 hk)) hU fun t3 b3 σ3 r3 G3 g3 d3 => ?_
   have at3 := G3.at'
   have hs3 := G3.hs
   have g13 := g12.trans g3
   rw [show lset σ2 (blkN pl p k) = lsetO σ.order (blkN pl p k) from Qnr g12.e _, hq] at d3
   have hr3 : r3 = uq := Qim G3.ok d3 (duq.ext g13.e)
   (ctx_mentions Yk Va Ye Va Va Yr)
   refine Qal hmst (by exact Qs8 hi4) (by exact Qs7 hp5 hi4) (by rw [hi4, Int.toNat_natCast]; exact huq) ?_
   (ctx_mentions Zk Zr Ma Zg Ma Za Zb Za Zu)
   refine WC.sublist (mgL b3 ++ (cn, on) :: Rl) (sA (sD)) ?_
   exact again (p - k - fr) _ _ (by exact Qz4 hm hk hk0) ⟨p - k, z, b3, σ3, c2, _, _, _, _, _, rfl, hz, by exact Qs9 hk hk0, by exact Qqq hp5, G3, F.ext g13.e, GB.ext g13.e, by rw [g13.e.ord]; exact hdep, Qaj (c := 512 + 2048 + 2048) (cap.less (by
    have : 5000 * (p - fr) = 5000 * (p - k - fr) + 5000 * k := by exact Qz3 hk
    exact Qz1 hk0 this)) g13, d2.ext g3.e, rfl, rfl⟩
 ·have hfp' : p = fr := by have : ¬ fr < p := by simpa [hy] using h1
                           exact Qz0 hfp this
  subst hfp'
  refine Za (Zb ?_)
  exact Qu7 hr H hot hdt hdn G F GB hfr hdep hR
end
end
section
theorem Qg0 (a : Asg) (j : Int) (b c : Bool) : upd (upd a j b) j c = upd a j c := by
 funext k; unfold upd; split <;> rfl
theorem Qsf {e : Bool} {l j : Int} {f : BF} (h : Dep (qf e (S1 l) f) j) : j ≠ l ∧ Dep f j := by
 obtain ⟨a, ha⟩ := h
 rw [Qjb] at ha
 constructor
 ·rintro rfl
  apply ha
  unfold jn
  dsimp only
  simp only [Qg0, upd_same, Bool.not_true, Bool.not_false]
  cases e <;> cases f (upd a j true) <;> cases f (upd a j false) <;> rfl
 ·by_cases hd : Dep f j
  ·exact hd
  ·exfalso
   have hf : ∀ a : Asg, f (upd a j true) = f (upd a j false) := fun a => by
    by_cases h : f (upd a j true) = f (upd a j false)
    ·exact h
    ·exact absurd ⟨a, h⟩ hd
   apply ha
   unfold jn
   dsimp only
   by_cases hj : j = l
   ·subst hj
    simp only [Qg0, upd_same, Bool.not_true, Bool.not_false]
    cases e <;> cases f (upd a j true) <;> cases f (upd a j false) <;> rfl
   ·rw [Qdo (fun q => hj q.symm), Qdo (fun q => hj q.symm), Qax hj, Qax hj, hf, hf]
theorem Qhe {od : List Int} {pl : Nat → Nat} {ev : Nat → Bool} {Fs : Nat → BF} {fr : Nat} (h5 : ∀ j, Dep (Fs 5) j → j ∈ lvlN od pl 5) (step : ∀ i, fr ≤ i → i < 5 → Fs i = qf (ev i) (S1 (lev od (pl i))) (Fs (i + 1))) :
  ∀ k, k ≤ 5 - fr → ∀ j, Dep (Fs (5 - k)) j → j ∈ lvlN od pl (5 - k)
 | 0, _, j, h => h5 j h
 | k + 1, hk, j, h => by
  rw [step (5 - (k + 1)) (by exact Qzz hk) (by exact Qzy)] at h
  obtain ⟨h1, h2⟩ := Qsf h
  rw [show 5 - (k + 1) + 1 = 5 - k by exact Qzx hk] at h2
  have ih := Qhe h5 step k (by exact Qzw hk) j h2
  rw [show 5 - k = 5 - (k + 1) + 1 by exact Qzv hk] at ih
  rcases List.mem_cons.mp ih with e | e
  ·exact absurd e h1
  ·exact e
end
section
section
variable {K : Params → Frag} {N : Nm} {W : Wd} {Ψ : Frm K N W} {vals : Vals} {l : Led}
theorem Qoq {a c : Addr} {n m : Nat} {Q : VQ} (hu : Ψ.A.units < cLine) (ha : (a, listOf #[] n) ∈ l) (hb : (c, listOf #[] m) ∈ l) (q : Q (.bool false) vals l) : WA Ψ (compareOp .NotEq (.ref a) (.ref c)) Q vals l := fun E s a' =>
 SeqAt.RcNeAt.lists (e := fun _ => true) (items := #[]) (items2 := #[]) ⟨_, (a'.N _ ha).1, rfl, ⟨_, rfl⟩⟩ ⟨_, (a'.N _ hb).1, rfl, ⟨_, rfl⟩⟩ rfl hu (fun j h1 _ => absurd h1 (Nat.not_lt_zero j)) W.prog W.w E _ ⟨Same.refl s, vals, l, a', q⟩
end
end
section
section
theorem Qxd (e : Env) (h : e.cells = [(("name" : Str), cn), (("leans" : Str), cl), (("tool" : Str), ct), (("pattern" : Str), cp)]) : e.cells.lookup ("leans" : Str) = some cl := by rw [h]; rfl
theorem Q7a : ∀ led, ∀ s ∈ states U1 U1' led, s.2.length ≤ 5 := by decide +kernel
theorem Qrm : ∀ {fr : Nat}, fr ≤ 2 → Builtin.Range.small (fr : Int) 5 1 = true
 | 0, _ => by decide
 | 1, _ => by decide
 | 2, _ => by decide
theorem segC {Ψ : Frm hK NL W} {cn cl ct cp : Addr} {ot : Obj} {R0 : Led} (hr : Room Ψ.A 30) (H : L6 Ψ cn cl ct cp) (hot : (ct, ot) ∈ Rl) (hdt : ot.data = .cell (some (.ref sa))) {on ol : Obj} {v0 w0 : Option Value} {fr : Nat} {tf tc : Tok} {c : Int} {oa ea st la : Addr} {pl : Nat → Nat} {ev : Nat → Bool} {lims : List Lim} {Fs : Nat → BF} {o0 o1 o3 o4 o5 o9 o10 o11 o12 o13 o14 o16 o17 o18 o19 o20 o21 o22 o23 o24 o25 o26 o27 o28 o29 o30 o32 o33 o34 : Option Value} (hdn : on.data = .cell v0) (hdl : ol.data = .cell w0)
  (G : Good W sa b σ) (F : Full σ) (GB : GameB W σ Rl oa ea st la fr pl ev lims Fs) (hfr : fr ≤ 2) (h5 : ∀ j, Dep (Fs 5) j → j ∈ lvlN σ.order pl 5) (cap : Cap σ 25000) (dc : Den σ c fun a => !Fs 5 a) (hR : ∀ x ∈ R0, x ∈ Rl) :
  WA Ψ (execs (fn551.body.drop 21) Ψ.env) (fun f _ l => f = .ret (.bool true) ∧ ∀ x ∈ R0, x ∈ l) (o0 :: o1 :: some (.int fr tf) :: o3 :: o4 :: o5 :: some (.ref ea) :: some (.ref oa) :: some (.ref st) :: o9 :: o10 :: o11 :: o12 :: o13 :: o14 :: some (.ref la) :: o16 :: o17 :: o18 :: o19 :: o20 :: o21 :: o22 :: o23 :: o24 :: o25 :: o26 :: o27 :: o28 :: o29 :: o30 :: some (.int c tc) :: o32 :: o33 :: o34 :: []) (mgL b ++ (cl, ol) :: (cn, on) :: Rl) := by
 have hh := hr.hh
 have at0 := G.at'
 have hs := G.hs
 have O := odOf G F
 have hds := Qhe h5 GB.step
 kcj_m
 obtain ⟨vo, ve, vs, vl, no, ne, ns, nl, m2, m3, m4, m5, h6, h7, h8, h9, hvo⟩ := GB.tup
 kd_p1
 have hxl := Qxd Ψ.env H.cs
 have hkl := H.k _ (.tail _ (.head _))
 dsimp only [fn551, mkFn, List.drop]
 (ctx_mentions Ua Xk Fb Pa Yp Vb Yl Yc Zh Zt); intro q9q v9v
 refine Qau (M := mgL b) (.head _) (Qrm hfr) fun it => ?_
 rw [show Builtin.Range.rangeSize (fr : Int) 5 1 = 5 - (fr : Int) by unfold Builtin.Range.rangeSize; split <;> omega]
 refine WC.sublist (mgL b ++ (it, rangeItObj fr (5 - fr) 1) :: (cl, ol) :: (cn, on) :: Rl) (sA (sB (sD))) ?_
 let J : Nat → Vals → Led → Prop := fun m vals' l' => Ex6 fun (i : Nat) (x y : Int) (ol : Obj) (w0 x_place : Option Value) => An8 (m = 5 - i) (x = i) (y = 5 - i) (fr ≤ i) (i ≤ 5) (ol.data = .cell w0) (vals' = (o0 :: o1 :: some (.int fr tf) :: x_place :: o4 :: o5 :: some (.ref ea) :: some (.ref oa) :: some (.ref st) :: o9 :: o10 :: o11 :: o12 :: o13 :: o14 :: some (.ref la) :: o16 :: o17 :: o18 :: o19 :: o20 :: o21 :: o22 :: o23 :: o24 :: o25 :: o26 :: o27 :: o28 :: o29 :: o30 :: some (.int c tc) :: o32 :: o33 :: o34 :: [])) (l' = mgL b ++ (it, rangeItObj x y 1) :: (cl, ol) :: (cn, on) :: Rl)
 refine WC.inv J ?_ (5 - fr) ⟨fr, fr, 5 - fr, ol, w0, _, rfl, rfl, rfl, Nat.le_refl _, by exact Qhi hfr, hdl, rfl, rfl⟩
 clear hdl
 rintro m _ _ ⟨i, x, y, ol, w0, x_place, hm, hx, hy, hfi, hi5, hdl, rfl, rfl⟩ again
 refine Mine.WC.letV ?_; intro vv
 by_cases hi : i = 5
 ·refine WC.for1 (Qbf (M := mgL b) hh (by exact Qzu hy hi) ?_)
  refine Zx (Za (Zb ?_))
  refine WA.sublist (mgL b ++ (cn, on) :: Rl) (sA (sD)) ?_
  exact Qu8 hr H hot hdt hdn G F GB hfr (by have := hds (5 - fr) (Nat.le_refl _); rw [show 5 - (5 - fr) = fr by exact Qzt hfi hi] at this; exact this) cap dc hR
 kcj_m
 obtain ⟨u, tu, hu, du⟩ := h8 i hfi hi5
 kd_p1
 refine WC.for1 (Qat (M := mgL b) (by exact Qzs hy hi5 hi) fun ti => ?_)
 (ctx_mentions Yv Zy Zz Vc Ua Xa Fa)
 refine Qaz H hdt (mr (.tail _ (.tail _ (.tail _ hot)))) ?_
 (ctx_mentions Ic Yl Yk Va Ye Va Va Yr)
 refine Qal (mr (.tail _ (.tail _ (.tail _ m4)))) (by exact Qzr hx hfi) (by exact Qzq hx hi5) (by rw [show (x - (fr : Int)).toNat = i - fr by exact Qzp hx]; exact hu) ?_
 (ctx_mentions Zh)
 refine Qnd G (hr.less (by kd_p)) F du fun sx so stb ks hSF hks => ?_
 refine Qc7 (pre := mgL b ++ [(sx, so), (it, rangeItObj (x + 1) (y - 1) 1)]) (post := (cn, on) :: Rl) hkl hxl (by simp) hdl fun ol' hdl' => ?_
 rw [List.append_assoc]
 clear hdl
 subst hx
 (ctx_mentions Zb Ua Ya Xf)
 refine Qiw (cl := [("leans", cl)]) (Qcg rfl hxl) rfl (by decide) (by decide) (Qgn rfl Ψ.e.kind hkl (by kcf_m) (by kcf_m)) ?_ (by intro _; with_unfolding_all rfl)
 (ctx_mentions Yk Va)
 refine Qi1 ?_
 (ctx_mentions Va)
 refine ⟨mgL b, _, rfl, fun sx2 => ?_⟩
 refine Qgv (k := i) (M := mgL b) (mr (.tail _ (.tail _ (.tail _ (.tail _ (.tail _ m2)))))) (by exact Qtg hvo) (mr (.head _)) (fun sl => ?_) ⟨_, by with_unfolding_all rfl⟩ (by intro _; with_unfolding_all rfl)
 refine Qbk (M := mgL b) (mr (.head _)) fun it2 oi2 li2 => ?_
 refine Qaf (M := mgL b) (vs := []) (Qac (n := 0) (by kd_p)) fun acc => ?_
 intro Ψ2 he2 ha2
 have hck2 : Ψ2.env.kindOf "leans" = some .cell := by rw [he2]; exact Qdu (y := "name") rfl Ψ.e.kind hkl (by kcf_m)
 have hlk2 : Ψ2.env.cells.lookup ("leans" : Str) = some cl := by rw [he2]; rfl
 have hh2 : Ψ2.A.handled = none := by rw [ha2]; exact hh
 have hkl5 : ks.length < scanBound := by have : ks.length ≤ 5 := Q7a _ _ hSF.m; unfold scanBound; exact Qkj this
 have hdl2 : (vo.drop i).length = 5 - i := by rw [List.length_drop, hvo]
 have hno : ∀ j x, (vo.drop i)[j]? = some x → ∃ (z : Int) (t : Tok), x = Value.int z t ∧ z ∉ ks := fun j x hx => by
  rw [List.getElem?_drop] at hx
  have hj : i + j < 5 := by have := (List.getElem?_eq_some_iff.mp hx).1; exact Qzo hvo this
  obtain ⟨t, ht⟩ := h6 (i + j) hj
  rw [ht] at hx
  refine ⟨_, t, (Option.some.inj hx).symm, fun hk => ?_⟩
  obtain ⟨l1, hd1, hl0, hl1⟩ := (hks _).mp hk
  have hm1 := hds (5 - i) (by exact Qzn hfi) l1 (by rw [show 5 - (5 - i) = i by exact Qs6 hj]; exact hd1)
  rw [show 5 - (5 - i) = i by exact Qs6 hj] at hm1
  obtain ⟨j2, hj2, rfl⟩ := mem_lvlN.mp hm1
  obtain ⟨q0, q5, qp⟩ := O.lev_ok (GB.pl5 j2 (by exact Qs5 hj hj2))
  obtain ⟨_, _, q3⟩ := O.plc_ok q0 q5
  rw [hl1, qp] at q3
  have := GB.inj (i + j) j2 hj (by exact Qs5 hj hj2) (by have := Option.some.inj q3; exact Qql this)
  exact Qzm hj2 this
 refine ⟨?_, Src.list (vs := vo.drop i) (k := 0) |>.self (mr (.tail _ (.head _))) li2 ⟨rfl, rfl, rfl⟩⟩
 let J : Nat → Vals → Led → Prop := fun m vals' l' => Ex3 fun (j : Nat) (o2 : Obj) (ov : Option Value) => An5 (m = 5 - i - j) (j ≤ 5 - i) (LiO o2 sl j) (vals' = [ov]) (l' = mgL b ++ (acc, listOf [].toArray 0) :: (it2, o2) :: (sl, listOf (vo.drop i).toArray 0) :: (sx2, sliceObjL (.int i ti)) :: (sx, so) :: (it, rangeItObj ((i : Int) + 1) (y - 1) 1) :: (cl, ol') :: (cn, on) :: Rl)
 refine WC.inv J ?_ (5 - i) ⟨0, oi2, none, rfl, Nat.zero_le _, li2, rfl, rfl⟩
 rintro m2' _ _ ⟨j, o2, ov, hm2, hj, hli, rfl, rfl⟩ again2
 refine Qok ?_
 have hml : (sl, listOf (vo.drop i).toArray 0) ∈ mgL b ++ (acc, listOf [].toArray 0) :: (it2, o2) :: (sl, listOf (vo.drop i).toArray 0) :: (sx2, sliceObjL (.int i ti)) :: (sx, so) :: (it, rangeItObj ((i : Int) + 1) (y - 1) 1) :: (cl, ol') :: (cn, on) :: Rl := mr (.tail _ (.tail _ (.head _)))
 by_cases hje : j = 5 - i
 ·refine Qdi (a := sl) (vs := vo.drop i) (n := 0) (pre := mgL b ++ [(acc, listOf [].toArray 0)]) (post := (sl, listOf (vo.drop i).toArray 0) :: (sx2, sliceObjL (.int i ti)) :: (sx, so) :: (it, rangeItObj ((i : Int) + 1) (y - 1) 1) :: (cl, ol') :: (cn, on) :: Rl) hh2 (by rw [List.append_assoc]; rfl) hml hli (by rw [List.getElem?_eq_none_iff]; exact Qzl hdl2 hje) ?_
  rw [List.append_assoc]
  refine ⟨_, List.Sublist.refl _, ?_⟩
  refine Mine.L.list rfl ?_; intro _
  (ctx_mentions Zh)
  refine Qaf (M := mgL b) (vs := []) (Qac (n := 0) (by kd_p)) fun em => ?_
  refine Qoq (by have := hr.u; exact Qzk this) (mr (.tail _ (.head _))) (mr (.head _)) ?_
  (ctx_mentions Zr Ma Za Zb Za Zu)
  refine WC.sublist (mgL b ++ (it, rangeItObj ((i : Int) + 1) (y - 1) 1) :: (cl, ol') :: (cn, on) :: Rl) (sA (sC (sC (sC (sC (sD)))))) ?_
  exact again (5 - (i + 1)) _ _ (by exact Qzj hm hi5 hi) ⟨i + 1, _, _, ol', _, _, rfl, by push_cast; rfl, by exact Qs4 hy, by exact Qqc hfi, by exact Qzi hi5 hi, hdl', rfl, rfl⟩
 ·kcj_m
  obtain ⟨z, tz, hz, hzk⟩ := hno j _ (List.getElem?_eq_getElem (by exact Qs3 hdl2 hj hje))
  kd_p1
  refine Qci (a := sl) (vs := vo.drop i) (n := 0) (pre := mgL b ++ [(acc, listOf [].toArray 0)]) (post := (sl, listOf (vo.drop i).toArray 0) :: (sx2, sliceObjL (.int i ti)) :: (sx, so) :: (it, rangeItObj ((i : Int) + 1) (y - 1) 1) :: (cl, ol') :: (cn, on) :: Rl) (by rw [List.append_assoc]; rfl) hml hli (List.getElem?_eq_getElem (by exact Qs3 hdl2 hj hje)) fun o2' hli' => ?_
  rw [List.append_assoc, hz]
  show WA Ψ2 (letOwnedTupleGo _ _ _) _ _ _
  (ctx_mentions Zy Zz Vc Xf Va)
  refine Qao Ψ2.e.kind hck2 hlk2 (mr (.tail _ (.tail _ (.tail _ (.tail _ (.tail _ (.tail _ (.head _)))))))) hdl' (by decide) ?_
  refine Qmn (mr (.tail _ (.tail _ (.tail _ (.tail _ (.head _)))))) hSF.I.objOf hkl5 ?_
  rw [decide_eq_false hzk]
  (ctx_mentions Zr Ma)
  exact again2 (5 - i - (j + 1)) _ _ (by exact Qzh hm2 hj hje) ⟨j + 1, o2', _, rfl, by exact Qzg hj hje, hli', rfl, rfl⟩
end
end
section
section
variable {K : Params → Frag} {N : Nm} {W : Wd} {Ψ : Frm K N W} {vals : Vals} {l : Led}
theorem Qhq {a b c : Int} {t u v : Tok} {M R : Led} {Q : VQ} (hc : c ≠ 0) (hp : c.natAbs < 1073741824) (q : ∀ x, Q (.ref x) vals (M ++ (x, rangeObj a b c t u v) :: R)) : WA Ψ (call (.type "range") [.int a t, .int b u, .int c v]) Q vals (M ++ R) :=
 Qad fun E s a' => call_range_3 hc ⟨⟨rfl, rfl⟩, vals, _, a'.push, _, shiftPerm, q _⟩ (.inl (PyProof.noPylong_small hp))
end
end
section
noncomputable def stF (od : List Int) (pl : Nat → Nat) (ev : Nat → Bool) (f : BF) : Nat → BF
 | 0 => f
 | k + 1 => qf (ev (4 - k)) (S1 (lev od (pl (4 - k)))) (stF od pl ev f k)
theorem Qne (od : List Int) (pl : Nat → Nat) (ev : Nat → Bool) (f : BF) (i : Nat) (h : i < 5) : stF od pl ev f (5 - i) = qf (ev i) (S1 (lev od (pl i))) (stF od pl ev f (5 - (i + 1))) := by
 rw [show 5 - i = (5 - (i + 1)) + 1 by exact Qzf h]
 show qf (ev (4 - (5 - (i + 1)))) (S1 (lev od (pl (4 - (5 - (i + 1)))))) _ = _
 rw [show 4 - (5 - (i + 1)) = i by exact Qze h]
end
section
section
variable {K : Params → Frag} {N : Nm} {W : Wd} {Ψ : Frm K N W} {vals : Vals} {l : Led}
theorem Qmy {k v : Int} {x : Str} {n1 : Nat} {t0 : Tok} {p1 p2 pos : Pos} {M R : Led} {Q : VQ} (h : NmG N.glo x) (g : GlobIs (K W.w.params) x (.int v t0)) (q : ∀ d o, o.IsDictOf (intKind W.prog W.w) [(k, .int v t0)] → Q (.ref d) vals (M ++ (d, o) :: R)) :
  WA Ψ (eval (.Dict [some (.Constant (.int k) n1 p1)] [.Name x p2] pos) Ψ.env) Q vals (M ++ R) := by
 refine Qad fun E s a => ?_
 refine wpAny_Dict_walk (knd := intKind W.prog W.w) rfl rfl (by simp) (Nat.le_of_ble_eq_true rfl) ?_
 refine evalPairs_cons ?_
 refine wpAny_mkInt ?_
 have hg : WA Ψ (eval (.Name x p2) Ψ.env) (fun y vals' l' => y = .int v t0 ∧ vals' = vals ∧ l' = (s.heap.objs.size, dictOf [] 0) :: (M ++ R)) vals ((s.heap.objs.size, dictOf [] 0) :: (M ++ R)) := Pa h g ⟨rfl, rfl, rfl⟩
 refine wpAny_bind (hg.use a.push fun y s1 v1 l1 S1 a1 ⟨e1, e2, e3⟩ => wpAny_bind (wpAny_standAt (wpAny_pure ?_)))
 subst e1 e2 e3
 refine evalPairs_nil ?_
 refine ⟨[(k, .int v t0)], ⟨intKind_is _ _ _ _, rfl, trivial⟩, ?_, fun h' hd hs => ?_⟩
 ·exact Heap.dictOf_iff.mpr ⟨_, (a1.N _ (.head _)).1, isDict_nil⟩
 ·obtain ⟨o', ho', hd'⟩ := Heap.dictOf_iff.mp hd
  refine ⟨⟨S1.1, S1.2⟩, _, (s.heap.objs.size, o') :: (M ++ R), ?_, _, shiftPerm, q s.heap.objs.size o' hd'⟩
  exact At.upd (pre := []) (post := M ++ R) (x := s.heap.objs.size) (o := dictOf [] 0) a1 hs ho'
end
end
section
section
structure GameP (W : Wd) (σ : Sg) (l : Led) (oa ea la : Addr) (pl : Nat → Nat) (ev : Nat → Bool) (lims : List Lim) (F5 : BF) : Prop where
 tup : Ex6 fun (vo ve vl : List Value) (no ne nl : Nat) => An7 ((oa, listOf vo.toArray no) ∈ l) ((ea, listOf ve.toArray ne) ∈ l) ((la, listOf vl.toArray nl) ∈ l) ((∀ i, i < 5 → ∃ t, vo[i]? = some (.int (101 + (pl i : Int)) t))) ((∀ i, i < 5 → ve[i]? = some (.bool (ev i)))) (LimsL l vl lims) (vo.length = 5)
 pl5 : ∀ i, i < 5 → pl i < 5
 inj : ∀ i j, i < 5 → j < 5 → pl i = pl j → i = j
 ll : lims.length ≤ 100
 last : ∀ r, r < 32 → F5 (asg 5 σ.order r) = metB r (parB r) lims
theorem GameP.game {W : Wd} {σ σ' : Sg} {l l' : Led} {oa ea la st : Addr} {pl : Nat → Nat} {ev : Nat → Bool} {lims : List Lim} {F5 : BF} {vs : List Value} {ns fr : Nat} (h : GameP W σ l oa ea la pl ev lims F5) (e : Ext σ σ') (hst : (st, listOf vs.toArray ns) ∈ l') (k : ∀ z ∈ l, z ∈ l')
  (hvs : ∀ i, fr ≤ i → i ≤ 5 → ∃ u t, vs[i - fr]? = some (.int u t) ∧ Den σ' u (stF σ.order pl ev F5 (5 - i))) : GameB W σ' l' oa ea st la fr pl ev lims (fun i => stF σ.order pl ev F5 (5 - i)) := by
 obtain ⟨vo, ve, vl, no, ne, nl, m1, m2, m3, h1, h2, h3, h4⟩ := h.tup
 refine ⟨⟨vo, ve, vs, vl, no, ne, ns, nl, k _ m1, k _ m2, hst, k _ m3, h1, h2, hvs, h3.mono k, h4⟩, h.pl5, h.inj, h.ll, by rw [e.ord]; exact h.last, fun i _ hi => ?_⟩
 rw [e.ord]
 exact Qne _ _ _ _ _ hi
theorem Qrn : ∀ {fr : Nat}, fr ≤ 2 → Builtin.Range.small 4 ((fr : Int) - 1) (-1) = true
 | 0, _ => by decide
 | 1, _ => by decide
 | 2, _ => by decide
theorem Qu6 : ∀ {fr : Nat}, fr ≤ 2 → Builtin.Range.rangeSize 4 ((fr : Int) - 1) (-1) = 5 - (fr : Int)
 | 0, _ => by decide
 | 1, _ => by decide
 | 2, _ => by decide
theorem Qu9 {Ψ : Frm hK NL W} {cn cl ct cp : Addr} {ot : Obj} {R0 : Led} (hr : Room Ψ.A 30) (H : L6 Ψ cn cl ct cp) (hot : (ct, ot) ∈ Rl) (hdt : ot.data = .cell (some (.ref sa))) {on ol ko : Obj} {v0 w0 : Option Value} {kvs : List (Int × Value)} {fr : Nat} {tf tu tt : Tok} {u : Int} {oa ea la ka : Addr} {pl : Nat → Nat} {ev : Nat → Bool} {lims : List Lim} {F5 : BF} {o0 o1 o3 o8 o10 o11 o12 o13 o14 o16 o17 o18 o19 o20 o21 o22 o23 o24 o25 o26 o27 o28 o29 o30 o31 o32 o33 o34 : Option Value} (hdn : on.data = .cell v0) (hdl : ol.data = .cell w0)
  (G : Good W sa b σ) (F : Full σ) (GP : GameP W σ Rl oa ea la pl ev lims F5) (hfr : fr ≤ 2) (h5 : ∀ j, Dep F5 j → j ∈ lvlN σ.order pl 5) (cap : Cap σ 40000) (du : Den σ u F5) (hko : ko.IsDictOf (intKind W.prog W.w) kvs) (hkn : Kn σ kvs) (hkl : kvs.length ≤ 1000) (hR : ∀ x ∈ R0, x ∈ Rl) :
  WA Ψ (execs (fn551.body.drop 18) Ψ.env) (fun f _ l => f = .ret (.bool true) ∧ ∀ x ∈ R0, x ∈ l) (o0 :: o1 :: some (.int fr tf) :: o3 :: some (.int u tu) :: some (.int (tb 5 σ.order F5 : Int) tt) :: some (.ref ea) :: some (.ref oa) :: o8 :: some (.ref ka) :: o10 :: o11 :: o12 :: o13 :: o14 :: some (.ref la) :: o16 :: o17 :: o18 :: o19 :: o20 :: o21 :: o22 :: o23 :: o24 :: o25 :: o26 :: o27 :: o28 :: o29 :: o30 :: o31 :: o32 :: o33 :: o34 :: []) (mgL b ++ (ka, ko) :: (cl, ol) :: (cn, on) :: Rl) := by
 have hh := hr.hh
 have at0 := G.at'
 have hs := G.hs
 have O := odOf G F
 kcj_m
 obtain ⟨vo, ve, vl, no, ne, nl, m2, m3, m5, h6, h7, h9, hvo⟩ := GP.tup
 kd_p1
 dsimp only [fn551, mkFn, List.drop]
 (ctx_mentions Ua Xa Yf Va Ys Vc Zb Ua Xa)
 refine Mine.L.list rfl ?_; intro _
 (ctx_mentions Vb Zh)
 refine Qaf (M := mgL b) (Qac (n := 1) (by kd_p)) fun st => ?_
 (ctx_mentions Vc Zb Ua Xk Fb Pa Yp Yl Yc Yl Ye Va Yc Yr Yl Yf Yc Ys Zh)
 refine Qhq (M := mgL b) (by decide) (by decide) fun rg => ?_
 refine Qau (M := mgL b) (.head _) (Qrn hfr) fun it => ?_
 rw [Qu6 hfr]
 refine WC.sublist (mgL b ++ (it, rangeItObj 4 (5 - fr) (-1)) :: (st, listOf [.int u tu].toArray 0) :: (ka, ko) :: (cl, ol) :: (cn, on) :: Rl) (sA (sB (sD))) ?_
 have h00 : ∀ i, i ≤ 0 → ∃ u' t, [Value.int u tu][i]? = some (Value.int u' t) ∧ Den σ u' (stF σ.order pl ev F5 (0 - i)) := fun i hi => by
  cases Nat.le_zero.mp hi
  exact ⟨u, tu, rfl, du⟩
 let J : Nat → Vals → Led → Prop := fun m vals' l' => Ex15 fun (j nst : Nat) (x y : Int) (b : Mg) (σ' : Sg) (v : Int) (tv tt : Tok) (st : Addr) (vs : List Value) (ko : Obj) (kvs : List (Int × Value)) (tc : Tok) (x_place : Option Value) => An15 (m = 5 - j) (j + fr ≤ 5) (x = 4 - (j : Int)) (y = 5 - (fr : Int) - j) (Good W sa b σ') (Ext σ σ') (Cap σ' (25000 + 2100 * (5 - j))) (Den σ' v (stF σ.order pl ev F5 j)) (vs.length = j + 1) ((∀ i, i ≤ j → ∃ u t, vs[i]? = some (.int u t) ∧ Den σ' u (stF σ.order pl ev F5 (j - i)))) (ko.IsDictOf (intKind W.prog W.w) kvs) (Kn σ' kvs) (kvs.length ≤ 1000 + 100 * j) (vals' = (o0 :: o1 :: some (.int fr tf) :: x_place :: some (.int v tv) :: some (.int (tb 5 σ.order (stF σ.order pl ev F5 j) : Int) tt) :: some (.ref ea) :: some (.ref oa) :: some (.ref st) :: some (.ref ka) :: o10 :: o11 :: o12 :: o13 :: o14 :: some (.ref la) :: o16 :: o17 :: o18 :: o19 :: o20 :: o21 :: o22 :: o23 :: o24 :: o25 :: o26 :: o27 :: o28 :: o29 :: o30 :: some (.int (-u) tc) :: o32 :: o33 :: o34 :: [])) (l' = mgL b ++ (it, rangeItObj x y (-1)) :: (st, listOf vs.toArray nst) :: (ka, ko) :: (cl, ol) :: (cn, on) :: Rl)
 refine WC.inv J ?_ 5
  ⟨0, 0, 4, 5 - fr, b, σ, u, tu, tt, st, _, ko, kvs, _, _, rfl, by exact Qzd hfr, by kd_p, by exact Qzc, G, Ext.refl _, cap.less (by kd_p), du, rfl, h00, hko, hkn, by exact Qzb hkl, rfl, rfl⟩
 clear G at0 hs hko hkn hkl
 rintro m _ _ ⟨j, nst, x, y, b, σ', v, tv, tt, st, vs, ko, kvs, tc, x_place, hm, hj, hx, hy, G, e, cap, dv, hvl, hvs, hko, hkn, hkl, rfl, rfl⟩ again
 refine Mine.WC.letV ?_; intro vv
 have at0 := G.at'
 have hs := G.hs
 by_cases hje : j = 5 - fr
 ·refine WC.for1 (Qbf (M := mgL b) hh (by exact Qza hy hje) ?_)
  refine Zx (Za (Zb ?_))
  refine WA.sublist (mgL b ++ (st, listOf vs.toArray nst) :: (cl, ol) :: (cn, on) :: Rl) (sA (sB (sD))) ?_
  refine WA.perm (mgL b ++ (cl, ol) :: (cn, on) :: (st, listOf vs.toArray nst) :: Rl) (List.Perm.append_left _ (List.perm_middle (l₁ := [(cl, ol), (cn, on)]))) ?_
  refine segC hr H (.tail _ hot) hdt hdn hdl G (F.ext e) (GP.game e (.head _) (fun z hz => .tail _ hz) fun i h1 h2 => ?_) hfr (by rw [e.ord]; exact h5) (cap.less (by exact Qy9)) (du.ext e).not fun x hx => .tail _ (hR x hx)
  kcj_m
  obtain ⟨u', t', h3, h4⟩ := hvs (i - fr) (by exact Qy8 hje h2)
  kd_p1
  rw [show j - (i - fr) = 5 - i by exact Qy7 hje h1] at h4
  exact ⟨u', t', h3, h4⟩
 have hj5 : j < 5 - fr := by exact Qy6 hj hje
 have O := odOf G (F.ext e)
 rw [e.ord] at O
 obtain ⟨to, hto⟩ := h6 (4 - j) (by exact Qke)
 have hev := h7 (4 - j) (by exact Qke)
 have hpl := GP.pl5 (4 - j) (by exact Qke)
 have hU : ∀ z ∈ [101 + (pl (4 - j) : Int)], z ∈ U1 := fun z hz => by
  rw [List.mem_singleton] at hz
  subst hz
  exact Qrh hpl
 have hxn : x.toNat = 4 - j := by exact Qs2 hx
 have hls : lset σ' [101 + (pl (4 - j) : Int)] = S1 (lev σ.order (pl (4 - j))) := by rw [← Qr1 O hpl, ← e.ord]; rfl
 refine WC.for1 (Qat (M := mgL b) (by exact Qy5 hy hj5) fun ti => ?_)
 (ctx_mentions Yv Zy Zz Vc Ua Xa Yg Xi Yk Va Va)
 refine Qal (mr (.tail _ (.tail _ (.tail _ (.tail _ (.tail _ m3)))))) (by exact Qma hx hj5) (by exact Ql9 hxn) (by rw [hxn]; exact hev) ?_
 (ctx_mentions Zr)
 let J : VQ := fun v' vals' l' => Ex5 fun (t : Tok) (z : Addr × Obj) (b' : Mg) (σ2 : Sg) (r : Int) => An6 (v' = .int r t) (Good W sa b' σ2) (Gr σ' σ2 2048) (Den σ2 r (stF σ.order pl ev F5 (j + 1))) (vals' = (o0 :: o1 :: some (.int fr tf) :: some (.int x ti) :: some (.int v tv) :: some (.int (tb 5 σ.order (stF σ.order pl ev F5 j) : Int) tt) :: some (.ref ea) :: some (.ref oa) :: some (.ref st) :: some (.ref ka) :: o10 :: o11 :: o12 :: o13 :: o14 :: some (.ref la) :: o16 :: o17 :: o18 :: o19 :: o20 :: o21 :: o22 :: o23 :: o24 :: o25 :: o26 :: o27 :: o28 :: o29 :: o30 :: some (.int (-u) tc) :: o32 :: o33 :: o34 :: [])) (l' = mgL b' ++ z :: (it, rangeItObj (x + -1) (y - 1) (-1)) :: (st, listOf vs.toArray nst) :: (ka, ko) :: (cl, ol) :: (cn, on) :: Rl)
 refine Qfh J (Qak (fun h => ?_) fun h => ?_) ?_
 ·(ctx_mentions Fa)
  refine Qaz H hdt (mr (.tail _ (.tail _ (.tail _ (.tail _ (.tail _ hot)))))) ?_
  (ctx_mentions Ic Yl)
  refine Mine.L.list rfl ?_; intro _
  (ctx_mentions Yl Yk Va Va)
  refine Qal (mr (.tail _ (.tail _ (.tail _ (.tail _ (.tail _ m2)))))) (by exact Qma hx hj5) (by exact Ql9 hxn) (by rw [hxn]; exact hto) ?_
  (ctx_mentions Zh)
  refine Qaf (M := mgL b) (Qac (n := 1) (by kd_p)) fun xl => ?_
  (ctx_mentions Vb Zh)
  refine Qnz G (hr.less (by kd_p)) (cap.less (by exact Qs1)) (F.ext e) dv (Qgd (.head _) (.cons _ _ .nil) hU (by simp)) hU fun t' b' σ2 r G2 g2 d2 => ?_
  rw [hls] at d2
  refine ⟨t', _, b', σ2, r, rfl, G2, g2, ?_, rfl, rfl⟩
  show Den σ2 r (qf (ev (4 - j)) _ _)
  rw [h]
  exact d2
 ·(ctx_mentions Fa)
  refine Qaz H hdt (mr (.tail _ (.tail _ (.tail _ (.tail _ (.tail _ hot)))))) ?_
  (ctx_mentions Ic Yl)
  refine Mine.L.list rfl ?_; intro _
  (ctx_mentions Yl Yk Va Va)
  refine Qal (mr (.tail _ (.tail _ (.tail _ (.tail _ (.tail _ m2)))))) (by exact Qma hx hj5) (by exact Ql9 hxn) (by rw [hxn]; exact hto) ?_
  (ctx_mentions Zh)
  refine Qaf (M := mgL b) (Qac (n := 1) (by kd_p)) fun xl => ?_
  (ctx_mentions Vb Zh)
  refine Qp3 G (hr.less (by kd_p)) (cap.less (by exact Qs1)) (F.ext e) dv (Qgd (.head _) (.cons _ _ .nil) hU (by simp)) hU fun t' b' σ2 r G2 g2 d2 => ?_
  rw [hls] at d2
  refine ⟨t', _, b', σ2, r, rfl, G2, g2, ?_, rfl, rfl⟩
  show Den σ2 r (qf (ev (4 - j)) _ _)
  rw [h]
  exact d2
 rintro _ _ _ ⟨tv2, z, b2, σ2, v2, rfl, G2, g2, dv2, rfl, rfl⟩
 have at2 := G2.at'
 have hs2 := G2.hs
 (ctx_mentions Vc Zb Ua Xa Fb)
 refine WA.sublist (mgL b2 ++ (it, rangeItObj (x + -1) (y - 1) (-1)) :: (st, listOf vs.toArray nst) :: (ka, ko) :: (cl, ol) :: (cn, on) :: Rl) (sA (sD)) ?_
 have F2 := F.ext (e.trans g2.e)
 have ho2 : σ2.order = σ.order := (e.trans g2.e).ord
 have hvs2 : ∀ i, i ≤ j + 1 → ∃ u' t, ([Value.int v2 tv2] ++ vs)[i]? = some (.int u' t) ∧ Den σ2 u' (stF σ.order pl ev F5 (j + 1 - i)) := fun i hi => by
  cases i with
  | zero => exact ⟨v2, tv2, rfl, dv2⟩
  | succ i =>
   kcj_m
   obtain ⟨u', t', h1, h2⟩ := hvs i (by exact Qy4 hi)
   kd_p1
   refine ⟨u', t', h1, ?_⟩
   rw [show j + 1 - (i + 1) = j - i by exact Qy3]
   exact h2.ext g2.e
 refine Mine.L.funR (by nest_cls) (Qnv _) ?_; intro _
 (ctx_mentions Vb Yl Ye Yk Va Va)
 refine Qal (mr (.tail _ (.tail _ (.tail _ (.tail _ (.tail _ m2)))))) (by exact Qma hx hj5) (by exact Ql9 hxn) (by rw [hxn]; exact hto) ?_
 (ctx_mentions Yc Yr Yl Yk Va Va)
 refine Qal (mr (.tail _ (.tail _ (.tail _ (.tail _ (.tail _ m3)))))) (by exact Qma hx hj5) (by exact Ql9 hxn) (by rw [hxn]; exact hev) ?_
 (ctx_mentions Zh)
 rw [show (101 : Int) + (pl (4 - j) : Int) - 101 = (pl (4 - j) : Int) by exact Qmc]
 refine Qna O hpl (hr.less (by kd_p)) fun tt2 => ?_
 rw [show qf (ev (4 - j)) (S1 (lev σ.order (pl (4 - j)))) (stF σ.order pl ev F5 j) = stF σ.order pl ev F5 (j + 1) from rfl]
 (ctx_mentions Vc Zb Ua Ya Xf Fb)
 refine Mine.L.funR (by nest_cls) (Qnw _) ?_; intro _
 (ctx_mentions Yl)
 refine Qaz H hdt (mr (.tail _ (.tail _ (.tail _ (.tail _ (.tail _ hot)))))) ?_
 (ctx_mentions Vb Vb Zh)
 refine WA.perm (mgL b2 ++ (ka, ko) :: (it, rangeItObj (x + -1) (y - 1) (-1)) :: (st, listOf vs.toArray nst) :: (cl, ol) :: (cn, on) :: Rl) (List.Perm.append_left _ (List.perm_middle (l₁ := [(it, rangeItObj (x + -1) (y - 1) (-1)), (st, listOf vs.toArray nst)])).symm) ?_
 refine Qk3 5 _ Ψ _ b2 σ2 _ ka ko kvs 0 v2 _ _ _ G2 (hr.less (by kd_p)) F2 (by rw [F2.nv]; decide) (dv2.vd G2.ok) dv2 hko (hkn.ext g2.e) (by exact Qy2 hkl hj5) fun t' ko' kvs' hko' hkn' hl' => ?_
 rw [ho2]
 (ctx_mentions Va Zk Zr Ma Za Zb Ua Xa Ye)
 refine Mine.L.list rfl ?_; intro _
 (ctx_mentions Vb Zh)
 refine Qaf (M := mgL b2) (Qac (n := 1) (by kd_p)) fun nl => ?_
 (ctx_mentions Va)
 refine Qiy (M := mgL b2) (vs := [.int v2 tv2]) (us := vs) (mr (.head _)) (mr (.tail _ (.tail _ (.tail _ (.head _))))) (by simp only [List.length_cons, List.length_nil]; exact Qy1 hvl hj5) fun st2 => ?_
 (ctx_mentions Vc Zb Za Zu)
 refine WC.sublist (mgL b2 ++ (st2, listOf ([Value.int v2 tv2] ++ vs).toArray 0) :: (ka, ko') :: (it, rangeItObj (x + -1) (y - 1) (-1)) :: (cl, ol) :: (cn, on) :: Rl) (sA (sB (sC (sB (sB (sD)))))) ?_
 refine WC.perm (mgL b2 ++ (it, rangeItObj (x + -1) (y - 1) (-1)) :: (st2, listOf ([Value.int v2 tv2] ++ vs).toArray 0) :: (ka, ko') :: (cl, ol) :: (cn, on) :: Rl) (List.Perm.append_left _ (List.perm_middle (l₁ := [(st2, listOf ([Value.int v2 tv2] ++ vs).toArray 0), (ka, ko')])).symm) ?_
 exact again (5 - (j + 1)) _ _ (by exact Qy0 hm hj5) ⟨j + 1, 0, x + -1, y - 1, b2, σ2, v2, tv2, tt2, st2, _, ko', kvs', tc, _, rfl, by exact Qyz hj5, by exact Qs0 hx, by exact Qyy hy, G2, e.trans g2.e, Qaj (c := 2048) (cap.less (by exact Qyw hj5)) g2, dv2, by simp [hvl], hvs2, hko', hkn', by exact Qyv hkl hl', rfl, rfl⟩
end
end
section
section
variable {K : Params → Frag} {N : Nm} {W : Wd} {Ψ : Frm K N W} {vals : Vals} {l : Led}
theorem Qkq {a x : Addr} {vs : List Value} {k : Nat} {t : Tok} {value slice : Expr} {M R : Led} {Q : VQ} (hS : Ψ.h.IsList a vs.toArray) (hz : vs.length ≤ 1000000) (hx : (x, sliceObj (.int k t)) ∈ M ++ R) (q : ∀ y, Q (.ref y) vals (M ++ (y, listOf (vs.take k).toArray 0) :: R))
  (hs : ∃ ops, subscripted slice false (.ref a) (.ref x) = PySem.operate ops (getItem (.ref a) (.ref x))) (ht : ∀ r, letTemporaryGo value (.ref a) r = Pure.pure ()) : WA Ψ (subscriptTail value slice (.ref a) (.ref x)) Q vals (M ++ R) := Qad (Qmt hS hz hx (fun y => ⟨_, shiftPerm, by
 have := q y
 rw [slicePick_upto', List.toList_toArray]
 exact this⟩) hs ht)
end
theorem Qcu {a : Int} {n : Nat} (hn : 0 < n) : ∃ k : Nat, k < n ∧ Int.fmod a (n : Int) = (k : Int) := by
 have h1 := Int.fmod_eq_emod_of_nonneg a (b := (n : Int)) (by exact Qdc)
 have h2 := Int.emod_nonneg a (b := (n : Int)) (by exact Qqj hn)
 have h3 := Int.emod_lt_of_pos a (b := (n : Int)) (by exact Qyu hn)
 exact ⟨(Int.fmod a n).toNat, by exact Qyt h1 h2 h3, by exact Qys h1 h2⟩
theorem Qka {vs : List Value} {ns : List Int} (h : IntsAre vs ns) (k : Nat) : IntsAre (vs.eraseIdx k) (ns.eraseIdx k) := by
 induction h generalizing k with
 | nil => exact .nil
 | cons n t hr ih =>
  cases k with
  | zero => exact hr
  | succ k => exact .cons n t (ih k)
end
section
theorem Qkw (x y : Nat) : (x ^^^ y) + (x &&& y) = x ||| y := by
 rw [Qmg (x ^^^ y) _ _ (Nat.le_refl _) fun i => by rw [Nat.testBit_xor, Nat.testBit_and]; cases x.testBit i <;> cases y.testBit i <;> rfl]
 apply Nat.eq_of_testBit_eq
 intro i
 rw [Nat.testBit_or, Nat.testBit_xor, Nat.testBit_and, Nat.testBit_or]
 cases x.testBit i <;> cases y.testBit i <;> rfl
theorem Qn9 (x y : Nat) : Builtin.bitXor (x : Int) (y : Int) = ((x ^^^ y : Nat) : Int) := by
 unfold Builtin.bitXor
 rw [bor_nat, band_nat, ← Qkw x y]
 exact Qyr
theorem Qg1 (od : List Int) (f g : BF) : Builtin.bitOr (tb 5 od f : Int) (tb 5 od g : Int) = (tb 5 od fun a => f a || g a : Int) := by rw [bor_nat, tb_or]
theorem Qgc (od : List Int) (f g : BF) : Builtin.bitAnd (tb 5 od f : Int) (tb 5 od g : Int) = (tb 5 od fun a => f a && g a : Int) := by rw [band_nat, tb_and]
theorem tb_bxor (od : List Int) (f g : BF) : Builtin.bitXor (tb 5 od f : Int) (tb 5 od g : Int) = (tb 5 od fun a => f a ^^ g a : Int) := by rw [Qn9, Qrk]
theorem Qk1 {od : List Int} (O : Od 5 od) {p : Nat} (hp : p < 5) : (onesN 5 p : Int) = (tb 5 od fun a => a (lev od p) : Int) := by rw [O.tb_lev hp]
theorem Qnb {od : List Int} (O : Od 5 od) {p : Nat} (hp : p < 5) : (4294967295 : Int) - (onesN 5 p : Int) = (tb 5 od fun a => !a (lev od p) : Int) := by
 rw [Qdq (Qen hp), ← O.tb_lev hp, tb_not]
theorem Qg8 {od : List Int} {d : Nat} (h : d % 2 = 0) : litF od d = fun a => a (lev od (d / 2)) := by
 funext a
 unfold litF
 rw [Int.fdiv_eq_ediv_of_nonneg _ (by decide), Int.fmod_eq_emod_of_nonneg _ (by decide), show ((d : Int) / 2).toNat = d / 2 by exact Qsz, show (d : Int) % 2 = 0 by exact Qyq h]
 simp
theorem Qjm {od : List Int} {d : Nat} (h : d % 2 = 1) : litF od d = fun a => !a (lev od (d / 2)) := by
 funext a
 unfold litF
 rw [Int.fdiv_eq_ediv_of_nonneg _ (by decide), Int.fmod_eq_emod_of_nonneg _ (by decide), show ((d : Int) / 2).toNat = d / 2 by exact Qsz, show (d : Int) % 2 = 1 by exact Qyp h]
 simp
theorem Qid (r : Nat) (v : Bool) (lims : List Lim) (x : Lim) : metB r v (lims ++ [x]) = if x.1 then metB r v lims || x.2.1.contains (votes r x.2.2) else metB r v lims && x.2.1.contains (votes r x.2.2) := by
 unfold metB
 rw [List.foldl_append]; rfl
noncomputable def limF (od : List Int) (k : Nat) (d e f : Nat) : BF := fun a => kindB k (litF od d a) (litF od e a) (litF od f a)
noncomputable def conF (j : Bool) (g l : BF) : BF := fun a => if j then g a || l a else g a && l a
theorem Qp8 {od : List Int} (O : Od 5 od) {g : BF} {lims : List Lim} {j : Bool} {k d e f : Nat} (hk : k < 3) (hd : d < 10) (he : e < 10) (hf : f < 10) (h : ∀ r, r < 32 → g (asg 5 od r) = metB r (parB r) lims) (r : Nat) (hr : r < 32) :
  conF j g (limF od k d e f) (asg 5 od r) = metB r (parB r) (lims ++ [(j, wantedL k, [(d : Int), (e : Int), (f : Int)])]) := by
 rw [Qid]
 unfold conF limF
 dsimp only
 rw [Qjz hk (by exact Qdc) (by exact Qdc) (by exact Qdc), Qgj O (by exact Qdc) (by exact Qqd hd), Qgj O (by exact Qdc) (by exact Qqd he), Qgj O (by exact Qdc) (by exact Qqd hf), h r hr]
theorem Od.sur5 {od : List Int} (O : Od 5 od) (p : Nat) (hp : p < 5) : ∃ i : Nat, i < 5 ∧ plc od (i : Int) = p := by
 obtain ⟨h0, h1, h2⟩ := O.lev_ok hp
 exact ⟨(lev od p).toNat, by exact Qyo h1, by rw [show (((lev od p).toNat : Nat) : Int) = lev od p by exact Qir h0, h2]⟩
theorem Od.plc5 {od : List Int} (O : Od 5 od) (i : Nat) (hi : i < 5) : plc od (i : Int) < 5 := (O.plc_ok (by exact Qdc) (by exact Qmb hi)).1
theorem Od.plc_inj5 {od : List Int} (O : Od 5 od) (i j : Nat) (hi : i < 5) (hj : j < 5) (h : plc od (i : Int) = plc od (j : Int)) : i = j := by
 obtain ⟨_, h1, _⟩ := O.plc_ok (j := (i : Int)) (by exact Qdc) (by exact Qmb hi)
 obtain ⟨_, h2, _⟩ := O.plc_ok (j := (j : Int)) (by exact Qdc) (by exact Qmb hj)
 rw [h] at h1
 exact Qyn h1 h2
end
section
section
theorem Qr5 (σ : Sg) (t : Tok) : Kn σ [(1, .int 4294967295 t)] := by
 refine ⟨rfl, fun u x hx => ?_⟩
 by_cases h : u = 1
 ·subst h
  have hx' : some (Value.int 4294967295 t) = some x := hx
  cases hx'
  exact ⟨t, _, by rw [Qk0]; rfl, .one⟩
 ·have hx' : valueAt [((1 : Int), Value.int 4294967295 t)] u = none := by
   simp [valueAt]; exact Qym h
  rw [hx'] at hx; cases hx
theorem Qp5 (G : Good W sa b σ) (F : Full σ) {u : Int} {f : BF} (du : Den σ u f) {pl : Nat → Nat} (hsur : ∀ p, p < 5 → ∃ i, i < 5 ∧ pl i = p) (j : Int) (h : Dep f j) : j ∈ lvlN σ.order pl 5 := by
 have ok := G.ok
 have hb := ((Qbp ok du).mpr h).bound ok (du.vd ok)
 have hnv := F.nv
 obtain ⟨p1, p2, _⟩ := (odOf G F).plc_ok hb.1 (show j < ((5 : Nat) : Int) by have := hb.2; exact Qmd hnv this)
 obtain ⟨i, hi, e⟩ := hsur _ p1
 exact mem_lvlN.mpr ⟨i, hi, by rw [e, p2]⟩
theorem Qva {Ψ : Frm hK NL W} {cn cl ct cp : Addr} {ot : Obj} {R0 : Led} (hr : Room Ψ.A 30) (H : L6 Ψ cn cl ct cp) (hot : (ct, ot) ∈ Rl) (hdt : ot.data = .cell (some (.ref sa))) {on ol : Obj} {v0 w0 : Option Value} {fr : Nat} {tf tu tt : Tok} {u : Int} {oa ea la : Addr} {pl : Nat → Nat} {ev : Nat → Bool} {lims : List Lim} {F5 : BF} {od : List Int} {o0 o1 o3 o8 o9 o10 o11 o12 o13 o14 o16 o17 o18 o19 o20 o21 o22 o23 o24 o25 o26 o27 o28 o29 o30 o31 o32 o33 o34 : Option Value} (hdn : on.data = .cell v0) (hdl : ol.data = .cell w0)
  (G : Good W sa b σ) (F : Full σ) (hod : σ.order = od) (GP : GameP W σ Rl oa ea la pl ev lims F5) (hfr : fr ≤ 2) (hsur : ∀ p, p < 5 → ∃ i, i < 5 ∧ pl i = p) (cap : Cap σ 40000) (du : Den σ u F5) (hR : ∀ x ∈ R0, x ∈ Rl) :
  WA Ψ (execs (fn551.body.drop 16) Ψ.env) (fun f _ l => f = .ret (.bool true) ∧ ∀ x ∈ R0, x ∈ l) (o0 :: o1 :: some (.int fr tf) :: o3 :: some (.int u tu) :: some (.int (tb 5 od F5 : Int) tt) :: some (.ref ea) :: some (.ref oa) :: o8 :: o9 :: o10 :: o11 :: o12 :: o13 :: o14 :: some (.ref la) :: o16 :: o17 :: o18 :: o19 :: o20 :: o21 :: o22 :: o23 :: o24 :: o25 :: o26 :: o27 :: o28 :: o29 :: o30 :: o31 :: o32 :: o33 :: o34 :: []) (mgL b ++ (cl, ol) :: (cn, on) :: Rl) := by
 subst hod
 have at0 := G.at'
 have hs := G.hs
 have h5 := Qp5 G F du hsur
 dsimp only [fn551, mkFn, List.drop]
 (ctx_mentions Ua Xa)
 refine Qmy (M := mgL b) (by nest_cls) (Qsb _) fun ka ko hko => ?_
 (ctx_mentions Vc Zb Ua Ya Xf Fb)
 refine Mine.L.funR (by nest_cls) (Qnw _) ?_; intro _
 (ctx_mentions Yl)
 refine Qaz H hdt (mr (.tail _ (.tail _ (.tail _ hot)))) ?_
 (ctx_mentions Vb Vb Zh)
 refine Qk3 5 _ Ψ _ b σ _ ka ko _ 0 u F5 _ _ G (hr.less (by kd_p)) F (by rw [F.nv]; decide) (du.vd G.ok) du hko (Qr5 σ _) (by decide) fun t' ko' kvs' hko' hkn' hl' => ?_
 (ctx_mentions Va Zk Zr Ma Za Zb)
 exact Qu9 hr H hot hdt hdn hdl G F GP hfr h5 cap du hko' hkn' (by simp at hl'; exact Qyl hl') hR
end
end
section
section
noncomputable def forB : Stmt → List Stmt
 | .For _ _ b _ _ => b
 | _ => []
noncomputable def body15 : List Stmt := match fn551.body.drop 15 with
 | s :: _ => forB s
 | [] => []
theorem Qge {scope : Scope} {env : Env} (h : ∀ y ∈ scope.names, y.2 ≠ .free) : (relabel scope env).names = scope.names := by
 show scope.names.map _ = scope.names
 conv => rhs; rw [← List.map_id scope.names]
 apply List.map_congr_left
 rintro ⟨n, k⟩ hy
 have := h _ hy
 cases k <;> first | rfl | exact absurd rfl this
theorem Qp6 (e : Env) (h : e.cells = [(("name" : Str), cn), (("leans" : Str), cl), (("tool" : Str), ct), (("pattern" : Str), cp)]) : e.cells.lookup ("tool" : Str) = some ct := by rw [h]; rfl
theorem Q8x (j : Bool) {u v : Int} {to tu tv : Tok} {fu fv : BF} {N : Nm} {Ψ : Frm hK N W} {vals : Vals} {Q : VQ} (G : Good W sa b σ) (hr : Room Ψ.A 18) (cap : Cap σ 64) (du : Den σ u fu) (dv : Den σ v fv)
  (q : ∀ t' b' σ' r, Good W sa b' σ' → Gr σ σ' 64 → Den σ' r (conF j fu fv) → Q (.int r t') vals (mgL b' ++ Rl)) :
  WA Ψ (call (.ref 464) [.ref sa, .str (if j then "or" else "and") to, .int u tu, .int v tv]) Q vals (mgL b ++ Rl) := by
 cases j with
 | true => exact Qu1 G hr cap du dv q
 | false => exact Qqu G hr cap du dv q
noncomputable def dgN (d1 d2 d3 : Nat) : Nat → Nat
 | 0 => d1
 | 1 => d2
 | _ => d3
theorem Q6s {ys : List Value} (h : ys.length = 3) : ∃ a b c, ys = [a, b, c] := by
 obtain ⟨a, r, rfl⟩ := List.exists_cons_of_length_eq_add_one h
 obtain ⟨b, r, rfl⟩ := List.exists_cons_of_length_eq_add_one (Nat.succ.inj h)
 obtain ⟨c, r, rfl⟩ := List.exists_cons_of_length_eq_add_one (Nat.succ.inj (Nat.succ.inj h))
 exact ⟨a, b, c, congrArg (a :: b :: c :: ·) (List.length_eq_zero_iff.mp (Nat.succ.inj (Nat.succ.inj (Nat.succ.inj h))))⟩
theorem Qp4 {kd : Nat} (hk : kd < 3) (od : List Int) (d1 d2 d3 : Nat) (w1 w2 w3 : Tok) : ∃ t, [Value.int (tb 5 od fun a => (litF od d1 a || litF od d2 a) || litF od d3 a : Int) w1, .int (tb 5 od fun a => (litF od d1 a ^^ litF od d2 a) ^^ litF od d3 a : Int) w2, .int (tb 5 od fun a => ((litF od d1 a && litF od d2 a) || (litF od d1 a && litF od d3 a)) || (litF od d2 a && litF od d3 a) : Int) w3][((kd : Int)).toNat]? = some (.int (tb 5 od (limF od kd d1 d2 d3) : Int) t) := by
 have h : kd = 0 ∨ kd = 1 ∨ kd = 2 := by exact Qqf hk
 have e : ∀ (g g' : BF), (∀ a, g a = g' a) → (tb 5 od g : Int) = (tb 5 od g' : Int) := fun g g' h => by rw [funext h]
 rcases h with rfl | rfl | rfl
 ·refine ⟨w1, congrArg (fun z => some (Value.int z w1)) (e _ _ fun a => ?_)⟩
  show _ = (litF od d1 a || (litF od d2 a || litF od d3 a))
  rw [Bool.or_assoc]
 ·refine ⟨w2, congrArg (fun z => some (Value.int z w2)) (e _ _ fun a => ?_)⟩
  show _ = (litF od d1 a ^^ (litF od d2 a ^^ litF od d3 a))
  rw [Bool.xor_assoc]
 ·refine ⟨w3, congrArg (fun z => some (Value.int z w3)) (e _ _ fun a => ?_)⟩
  show _ = (if litF od d1 a then litF od d2 a || litF od d3 a else litF od d2 a && litF od d3 a)
  cases litF od d1 a <;> cases litF od d2 a <;> cases litF od d3 a <;> rfl
theorem Qse {d1 d2 d3 : Nat} (h1 : d1 < 10) (h2 : d2 < 10) (h3 : d3 < 10) (q1 q2 q3 : Tok) : ∀ i, i < 3 → dgN d1 d2 d3 i < 10 ∧ ∃ t, [Value.int (d1 : Int) q1, .int (d2 : Int) q2, .int (d3 : Int) q3][i]? = some (.int (dgN d1 d2 d3 i : Int) t)
 | 0, _ => ⟨h1, q1, rfl⟩
 | 1, _ => ⟨h2, q2, rfl⟩
 | 2, _ => ⟨h3, q3, rfl⟩
theorem Qri {Ψ : Frm hK NL W} {cn cl ct cp : Addr} {ot : Obj} (hr : Room Ψ.A 30) (H : L6 Ψ cn cl ct cp) (hot : (ct, ot) ∈ Rl) (hdt : ot.data = .cell (some (.ref sa))) {u : Int} {tu tt tk : Tok} {dg : Addr} {jb : Bool} {kd d1 d2 d3 n0 : Nat} {q1 q2 q3 : Tok} {f : BF} {od : List Int} {o8 o9 o10 o11 o12 o13 o14 o28 o29 o30 o31 o32 o33 : Option Value} {x_a x_b x_c x_due x_every x_extra x_free x_limit x_limits x_number x_one x_order x_place x_script x_three x_total x_two : Option Value} {Q : FQ}
  (G : Good W sa b σ) (F : Full σ) (hod : σ.order = od) (cap : Cap σ 1000) (du : Den σ u f) (hdg : (dg, listOf [.int (d1 : Int) q1, .int (d2 : Int) q2, .int (d3 : Int) q3].toArray n0) ∈ Rl) (hk : kd < 3) (h1 : d1 < 10) (h2 : d2 < 10) (h3 : d3 < 10)
  (q : ∀ b' σ' v tv tt' z y_one y_two y_three y_a y_b y_c y_limit y_due, Good W sa b' σ' → Gr σ σ' 1000 → Den σ' v (conF jb f (limF od kd d1 d2 d3)) → Q .next (x_script :: x_total :: x_free :: x_place :: some (.int v tv) :: some (.int (tb 5 od (conF jb f (limF od kd d1 d2 d3)) : Int) tt') :: x_every :: x_order :: o8 :: o9 :: o10 :: o11 :: o12 :: o13 :: o14 :: x_limits :: x_number :: some (.int (kd : Int) tk) :: some (.bool jb) :: some (.ref dg) :: y_one :: y_two :: y_three :: y_a :: y_b :: y_c :: y_limit :: y_due :: o28 :: o29 :: o30 :: o31 :: o32 :: o33 :: x_extra :: []) (mgL b' ++ z :: Rl)) :
  WA Ψ (execs (body15.drop 4) Ψ.env) Q (x_script :: x_total :: x_free :: x_place :: some (.int u tu) :: some (.int (tb 5 od f : Int) tt) :: x_every :: x_order :: o8 :: o9 :: o10 :: o11 :: o12 :: o13 :: o14 :: x_limits :: x_number :: some (.int (kd : Int) tk) :: some (.bool jb) :: some (.ref dg) :: x_one :: x_two :: x_three :: x_a :: x_b :: x_c :: x_limit :: x_due :: o28 :: o29 :: o30 :: o31 :: o32 :: o33 :: x_extra :: []) (mgL b ++ Rl) := by
 subst hod
 have hh := hr.hh
 have O := odOf G F
 have hxt := Qp6 Ψ.env H.cs
 have hkt := H.k _ (.tail _ (.tail _ (.head _)))
 have hdn := fun i hi => Qse h1 h2 h3 q1 q2 q3 i hi
 dsimp only [body15, forB, fn551, mkFn, List.drop]
 (ctx_mentions Ua)
 refine Mine.L.asT rfl rfl ?_; intro _
 refine Qbg (cl := [("tool", ct)]) (Qcg rfl hxt) rfl (by decide) (by decide) [] (Qgn rfl Ψ.e.kind hkt (by kcf_m) (by kcf_m)) ?_ (by intro _; with_unfolding_all rfl)
 (ctx_mentions Va)
 refine Qbk (M := mgL b) (mr hdg) fun it1 oi1 li1 => ?_
 refine Qaf (M := mgL b) (vs := []) (Qac (n := 0) (by kd_p)) fun acc => ?_
 intro Ψ2 he2 ha2
 have hck2 : Ψ2.env.kindOf "tool" = some .cell := by rw [he2]; exact Qdu (y := "digit") rfl Ψ.e.kind hkt (by kcf_m)
 have hlk2 : Ψ2.env.cells.lookup ("tool" : Str) = some ct := by rw [he2]; rfl
 have hr2 : Room Ψ2.A 30 := by rw [ha2]; exact hr
 refine ⟨?_, Src.list (vs := [.int (d1 : Int) q1, .int (d2 : Int) q2, .int (d3 : Int) q3]) (k := n0) |>.self (mr (.tail _ (.head _))) li1 ⟨rfl, rfl, rfl⟩⟩
 let J : Nat → Vals → Led → Prop := fun m vals' l' => Ex7 fun (i k : Nat) (o : Obj) (b' : Mg) (σ' : Sg) (ys : List Value) (ov : Option Value) => An9 (m = 3 - i) (i ≤ 3) (LiO o dg i) (Good W sa b' σ') (Gr σ σ' i) (ys.length = i) ((∀ j y, ys[j]? = some y → ∃ u t, y = .int u t ∧ Den σ' u (litF σ.order (dgN d1 d2 d3 j)))) (vals' = [ov]) (l' = mgL b' ++ (acc, listOf ys.toArray k) :: (it1, o) :: Rl)
 refine WC.inv J ?_ 3 ⟨0, 0, oi1, b, σ, [], none, rfl, by kd_p, li1, G, Gr.refl _, rfl, fun j y h => by simp at h, rfl, rfl⟩
 rintro m _ _ ⟨i, k, o, b', σ', ys, ov, hm, hi, hli, G', g', hyl, hys, rfl, rfl⟩ again
 refine Mine.WC.letV ?_; intro vv
 have at0 := G'.at'
 have hs := G'.hs
 refine Qhk ?_
 have hml : (dg, listOf [.int (d1 : Int) q1, .int (d2 : Int) q2, .int (d3 : Int) q3].toArray n0) ∈ mgL b' ++ (acc, listOf ys.toArray k) :: (it1, o) :: Rl := mr (.tail _ (.tail _ hdg))
 by_cases hi3 : i = 3
 ·subst hi3
  refine Qdi (a := dg) (pre := mgL b' ++ [(acc, listOf ys.toArray k)]) (post := Rl) hr2.hh (by rw [List.append_assoc]; rfl) hml hli rfl ?_
  rw [List.append_assoc]
  refine ⟨_, List.Sublist.refl _, ?_⟩
  obtain ⟨y1, y2, y3, rfl⟩ := Q6s hyl
  obtain ⟨u1, t1, rfl, e1⟩ := hys 0 _ rfl
  obtain ⟨u2, t2, rfl, e2⟩ := hys 1 _ rfl
  obtain ⟨u3, t3, rfl, e3⟩ := hys 2 _ rfl
  replace e1 : Den σ' u1 (litF σ.order d1) := e1
  replace e2 : Den σ' u2 (litF σ.order d2) := e2
  replace e3 : Den σ' u3 (litF σ.order d3) := e3
  clear again hys hml hli
  have F' := F.ext g'.e
  have cap' : Cap σ' 990 := Qaj (c := 3) (cap.less (by kd_p)) g'
  refine Qpk (vs := [.int u1 t1, .int u2 t2, .int u3 t3]) hh (mr (.head _)) rfl rfl ?_
  (ctx_mentions Yw Vc Yw Vc Yw Vc ZG Zb Ua)
  refine WA.sublist (mgL b' ++ Rl) (sA (sD)) ?_
  refine Mine.L.asT rfl rfl ?_; intro _
  refine Qbg (cl := []) (by with_unfolding_all rfl) rfl (by decide) (by decide) ["_law_ones", "_law_all"] (by
   refine Qah ?_
   rw [Qge (by decide)]
   kcf_m) ?_ (by intro _; with_unfolding_all rfl)
  (ctx_mentions Va)
  refine Qbk (M := mgL b') (mr hdg) fun it2 oi2 li2 => ?_
  refine Qaf (M := mgL b') (vs := []) (Qac (n := 0) (by kd_p)) fun acc2 => ?_
  intro Ψ3 he3 ha3
  have hr3 : Room Ψ3.A 30 := by rw [ha3]; exact hr
  refine ⟨?_, Src.list (vs := [.int (d1 : Int) q1, .int (d2 : Int) q2, .int (d3 : Int) q3]) (k := n0) |>.self (mr (.tail _ (.head _))) li2 ⟨rfl, rfl, rfl⟩⟩
  refine Qe7 (M := mgL b') (n := 3) (Rr := fun j y => ∃ t, y = Value.int (tb 5 σ.order (litF σ.order (dgN d1 d2 d3 j)) : Int) t) (Src.list (vs := [.int (d1 : Int) q1, .int (d2 : Int) q2, .int (d3 : Int) q3]) (k := n0)) hr3.hh (by kd_p) (fun z hz => by rw [List.mem_singleton.mp hz]; exact mr hdg) li2 .here (fun i' v' l' Q' hi' hP hl' q' => ?_) fun ys2 k2 v2 hlen2 hys2 => ?_
  ·obtain ⟨hd10, td, hdi⟩ := hdn i' hi'
   rw [hdi] at hP
   obtain rfl := (Option.some.inj hP).symm
   generalize dgN d1 d2 d3 i' = d at hd10 q'
   refine Qbd ?_
   (ctx_mentions Yg Xf Ye Va Yc)
   refine Qbi (by decide) fun _ => ?_
   (ctx_mentions Yc Zj Zr)
   refine Qak (fun h => ?_) fun h => ?_
   ·have hd2 : d % 2 = 0 := by rw [Int.fmod_eq_emod_of_nonneg _ (by decide)] at h; simp at h; exact Qsx h
    (ctx_mentions Yk Fb)
    refine Mine.L.funR (by nest_cls) (Qf1 _) ?_; intro _
    (ctx_mentions Zh)
    refine Qfx (M := []) (hr3.less (by kd_p)) fun xo s1 s2 s3 s4 s5 => ?_
    (ctx_mentions Ye Va Yc)
    refine WA.fdiv (by decide) (by decide) fun _ => ?_
    obtain ⟨to, hto⟩ := Qc1 (t1 := s1) (t2 := s2) (t3 := s3) (t4 := s4) (t5 := s5) (p := d / 2) (by exact Ql8 hd10) (show Int.fdiv (d : Int) 2 = ((d / 2 : Nat) : Int) by rw [Int.fdiv_eq_ediv_of_nonneg _ (by decide)]; rfl)
    refine Qal (vs := onesL _ _ _ _ _) (.head _) (by rw [Int.fdiv_eq_ediv_of_nonneg _ (by decide)]; exact Qsw) (by rw [Int.fdiv_eq_ediv_of_nonneg _ (by decide)]; exact Qsv hd10) hto ?_
    refine ⟨l', sD, q' _ ⟨to, ?_⟩⟩
    rw [Qk1 O (by exact Ql8 hd10), Qg8 hd2]
   ·have hd2 : d % 2 = 1 := by rw [Int.fmod_eq_emod_of_nonneg _ (by decide)] at h; simp at h; exact Qsu h
    (ctx_mentions Ye Pa Yk Fb)
    refine Mine.L.funR (by nest_cls) (Qf1 _) ?_; intro _
    (ctx_mentions Zh)
    refine Qfx (M := []) (hr3.less (by kd_p)) fun xo s1 s2 s3 s4 s5 => ?_
    (ctx_mentions Ye Va Yc)
    refine WA.fdiv (by decide) (by decide) fun _ => ?_
    obtain ⟨to, hto⟩ := Qc1 (t1 := s1) (t2 := s2) (t3 := s3) (t4 := s4) (t5 := s5) (p := d / 2) (by exact Ql8 hd10) (show Int.fdiv (d : Int) 2 = ((d / 2 : Nat) : Int) by rw [Int.fdiv_eq_ediv_of_nonneg _ (by decide)]; rfl)
    refine Qal (vs := onesL _ _ _ _ _) (.head _) (by rw [Int.fdiv_eq_ediv_of_nonneg _ (by decide)]; exact Qsw) (by rw [Int.fdiv_eq_ediv_of_nonneg _ (by decide)]; exact Qsv hd10) hto ?_
    (ctx_mentions Yr)
    refine ⟨l', sD, q' _ ⟨_, congrArg (fun z => Value.int z _) ?_⟩⟩
    rw [Qnb O (by exact Ql8 hd10), Qjm hd2]
  obtain ⟨y1, y2, y3, rfl⟩ := Q6s hlen2
  obtain ⟨s1, rfl⟩ := hys2 0 _ rfl
  obtain ⟨s2, rfl⟩ := hys2 1 _ rfl
  obtain ⟨s3, rfl⟩ := hys2 2 _ rfl
  rw [show dgN d1 d2 d3 0 = d1 from rfl, show dgN d1 d2 d3 1 = d2 from rfl, show dgN d1 d2 d3 2 = d3 from rfl]
  clear hys2
  refine ⟨_, List.Sublist.refl _, ?_⟩
  refine Qpk (vs := [_, _, _]) hh (mr (.head _)) rfl rfl ?_
  refine WA.sublist (mgL b' ++ Rl) (sA (sD)) ?_
  (ctx_mentions Yw Vc Yw Vc Yw Vc ZG Zb Ua Ya Xf Va Yc Zj Zr)
  let J : Vals → Led → Prop := fun vals' l' => Ex4 fun (b2 : Mg) (σ2 : Sg) (r : Int) (tr : Tok) => An5 (Good W sa b2 σ2) (Gr σ' σ2 300) (Den σ2 r (limF σ.order kd d1 d2 d3)) (vals' = (x_script :: x_total :: x_free :: x_place :: some (.int u tu) :: some (.int (tb 5 σ.order f : Int) tt) :: x_every :: x_order :: o8 :: o9 :: o10 :: o11 :: o12 :: o13 :: o14 :: x_limits :: x_number :: some (.int (kd : Int) tk) :: some (.bool jb) :: some (.ref dg) :: some (.int u1 t1) :: some (.int u2 t2) :: some (.int u3 t3) :: some (.int (tb 5 σ.order (litF σ.order d1) : Int) s1) :: some (.int (tb 5 σ.order (litF σ.order d2) : Int) s2) :: some (.int (tb 5 σ.order (litF σ.order d3) : Int) s3) :: some (.int r tr) :: x_due :: o28 :: o29 :: o30 :: o31 :: o32 :: o33 :: x_extra :: [])) (l' = mgL b2 ++ Rl)
  refine Qgz J (Qak (fun h => ?_) fun h => ?_) ?_
  ·have hkd : kd = 0 := by simp at h; exact Qyk h
   subst hkd
   have at1 := G'.at'
   have hs1 := G'.hs
   (ctx_mentions Ua Xa Fa)
   refine Qaz H hdt (mr hot) ?_
   (ctx_mentions Ic Yl Yd Vb Yl Fa)
   refine Qaz H hdt (mr hot) ?_
   (ctx_mentions Ic Yl Yd Vb Vb Zh)
   refine Qu1 G' (hr.less (by kd_p)) (cap'.less (by kd_p)) e2 e3 fun _ b3 σ3 r3 G3 g3 z3 => ?_
   (ctx_mentions Zh)
   refine Qu1 G3 (hr.less (by kd_p)) (Qaj (c := 64) (cap'.less (by kd_p)) g3) (e1.ext g3.e) z3 fun _ b4 σ4 r4 G4 g4 z4 => ?_
   (ctx_mentions Vc Zb Za)
   exact ⟨rfl, b4, σ4, r4, _, G4, (g3.trans g4).le (by kd_p), z4, rfl, rfl⟩
  ·(ctx_mentions Ua Ya Xf Va Yc Zj Zr)
   refine Qak (fun h2 => ?_) fun h2 => ?_
   ·have hkd : kd = 1 := by simp at h2; exact Qyi h2
    subst hkd
    have at1 := G'.at'
    have hs1 := G'.hs
    (ctx_mentions Ua Xa Fa)
    refine Qaz H hdt (mr hot) ?_
    (ctx_mentions Ic Yl Yd Vb Yl Fa)
    refine Qaz H hdt (mr hot) ?_
    (ctx_mentions Ic Yl Yd Vb Vb Zh)
    refine Qrg G' (hr.less (by kd_p)) (cap'.less (by kd_p)) e2 e3 fun _ b3 σ3 r3 G3 g3 z3 => ?_
    (ctx_mentions Zh)
    refine Qrg G3 (hr.less (by kd_p)) (Qaj (c := 64) (cap'.less (by kd_p)) g3) (e1.ext g3.e) z3 fun _ b4 σ4 r4 G4 g4 z4 => ?_
    (ctx_mentions Vc Zb Za Zb Za)
    exact ⟨rfl, b4, σ4, r4, _, G4, (g3.trans g4).le (by kd_p), z4, rfl, rfl⟩
   ·have hkd : kd = 2 := by simp at h h2; exact Qyh hk h h2
    subst hkd
    have at1 := G'.at'
    have hs1 := G'.hs
    (ctx_mentions Ua Xa Fa)
    refine Qaz H hdt (mr hot) ?_
    (ctx_mentions Ic Vb Yl Fa)
    refine Qaz H hdt (mr hot) ?_
    (ctx_mentions Ic Yl Yd Vb Vb Zh)
    refine Qu1 G' (hr.less (by kd_p)) (cap'.less (by kd_p)) e2 e3 fun _ b3 σ3 r3 G3 g3 z3 => ?_
    (ctx_mentions Yl Fa)
    have at3 := G3.at'
    have hs3 := G3.hs
    refine Qaz H hdt (mr hot) ?_
    (ctx_mentions Ic Yl Yd Vb Vb Zh)
    refine Qqu G3 (hr.less (by kd_p)) (Qaj (c := 64) (cap'.less (by kd_p)) g3) (e2.ext g3.e) (e3.ext g3.e) fun _ b4 σ4 r4 G4 g4 z4 => ?_
    have at4 := G4.at'
    have hs4 := G4.hs
    have g34 := g3.trans g4
    (ctx_mentions Zh)
    refine Qih G4 (hr.less (by kd_p)) (Qaj (c := 64 + 64) (cap'.less (by kd_p)) g34) (Int.le_refl 0) ((e1.ext g34.e).vd G4.ok) ((z3.ext g4.e).vd G4.ok) (z4.vd G4.ok) (e1.ext g34.e) (z3.ext g4.e) z4 fun _ b5 σ5 r5 G5 g5 _ z5 => ?_
    (ctx_mentions Vc Zb Za Zb Za)
    exact ⟨rfl, b5, σ5, r5, _, G5, (g34.trans g5).le (by kd_p), z5, rfl, rfl⟩
  rintro _ _ ⟨b2, σ2, r, tr, G2, g2, z2, rfl, rfl⟩
  have at2 := G2.at'
  have hs2 := G2.hs
  have cap2 : Cap σ2 600 := Qaj (c := 300) (cap'.less (by kd_p)) g2
  (ctx_mentions Zb Ua Xa Fa)
  refine Qaz H hdt (mr hot) ?_
  (ctx_mentions Ic Yl Yg Xi Va Zr)
  let J : VQ := fun x vals' l' => ∃ t, x = .str (if jb then "or" else "and") t ∧ vals' = (x_script :: x_total :: x_free :: x_place :: some (.int u tu) :: some (.int (tb 5 σ.order f : Int) tt) :: x_every :: x_order :: o8 :: o9 :: o10 :: o11 :: o12 :: o13 :: o14 :: x_limits :: x_number :: some (.int (kd : Int) tk) :: some (.bool jb) :: some (.ref dg) :: some (.int u1 t1) :: some (.int u2 t2) :: some (.int u3 t3) :: some (.int (tb 5 σ.order (litF σ.order d1) : Int) s1) :: some (.int (tb 5 σ.order (litF σ.order d2) : Int) s2) :: some (.int (tb 5 σ.order (litF σ.order d3) : Int) s3) :: some (.int r tr) :: x_due :: o28 :: o29 :: o30 :: o31 :: o32 :: o33 :: x_extra :: []) ∧ l' = mgL b2 ++ Rl
  refine Qfh J (Qak (fun h => ?_) fun h => ?_) ?_
  ·(ctx_mentions Yd)
   exact ⟨_, by rw [h]; rfl, rfl, rfl⟩
  ·(ctx_mentions Yd)
   exact ⟨_, by rw [h]; rfl, rfl, rfl⟩
  rintro _ _ _ ⟨to, rfl, rfl, rfl⟩
  (ctx_mentions Vb Vb Zh)
  refine Q8x jb G2 (hr.less (by kd_p)) (cap2.less (by kd_p)) (du.ext (g'.e.trans g2.e)) z2 fun tv b3 σ3 v G3 g3 z3 => ?_
  (ctx_mentions Vc Zb Ua Xa Yk)
  refine Mine.L.list rfl ?_; intro _
  (ctx_mentions Yl Ye Ye Va Va)
  refine Qfg fun _ => ?_
  rw [Qg1]
  (ctx_mentions Va)
  refine Qfg fun w1 => ?_
  rw [Qg1]
  (ctx_mentions Yl Ye Ye Va Va)
  refine Qi2 fun _ => ?_
  rw [tb_bxor]
  (ctx_mentions Va)
  refine Qi2 fun w2 => ?_
  rw [tb_bxor]
  (ctx_mentions Yl Ye Ye Ye Va Va)
  refine Qcm fun _ => ?_
  rw [Qgc]
  (ctx_mentions Ye Va Va)
  refine Qcm fun _ => ?_
  rw [Qgc]
  refine Qfg fun _ => ?_
  rw [Qg1]
  (ctx_mentions Ye Va Va)
  refine Qcm fun _ => ?_
  rw [Qgc]
  refine Qfg fun w3 => ?_
  rw [Qg1]
  (ctx_mentions Zh)
  refine Qaf (M := mgL b3) (Qac (n := 3) (by kd_p)) fun du0 => ?_
  (ctx_mentions Va)
  obtain ⟨td, htd⟩ := Qp4 hk σ.order d1 d2 d3 w1 w2 w3
  refine Qal (vs := [_, _, _]) (mr (.head _)) (by exact Qdc) (by exact Qst hk) htd ?_
  (ctx_mentions Vc Zb Ua Xa Yg Xi Va Zr)
  let J : VQ := fun x vals' l' => Ex2 fun (t : Tok) (z : Addr × Obj) => An3 (x = .int (tb 5 σ.order (conF jb f (limF σ.order kd d1 d2 d3)) : Int) t) (vals' = (x_script :: x_total :: x_free :: x_place :: some (.int v tv) :: some (.int (tb 5 σ.order f : Int) tt) :: x_every :: x_order :: o8 :: o9 :: o10 :: o11 :: o12 :: o13 :: o14 :: x_limits :: x_number :: some (.int (kd : Int) tk) :: some (.bool jb) :: some (.ref dg) :: some (.int u1 t1) :: some (.int u2 t2) :: some (.int u3 t3) :: some (.int (tb 5 σ.order (litF σ.order d1) : Int) s1) :: some (.int (tb 5 σ.order (litF σ.order d2) : Int) s2) :: some (.int (tb 5 σ.order (litF σ.order d3) : Int) s3) :: some (.int r tr) :: some (.int (tb 5 σ.order (limF σ.order kd d1 d2 d3) : Int) td) :: o28 :: o29 :: o30 :: o31 :: o32 :: o33 :: x_extra :: [])) (l' = mgL b3 ++ z :: Rl)
  refine Qfh J (Qak (fun h => ?_) fun h => ?_) ?_
  ·(ctx_mentions Ye Va Va)
   refine Qfg fun _ => ?_
   rw [Qg1]
   exact ⟨_, _, by rw [h]; rfl, rfl, rfl⟩
  ·(ctx_mentions Ye Va Va)
   refine Qcm fun _ => ?_
   rw [Qgc]
   exact ⟨_, _, by rw [h]; rfl, rfl, rfl⟩
  rintro _ _ _ ⟨tt', z, rfl, rfl, rfl⟩
  (ctx_mentions Vc Zb Za)
  exact q b3 σ3 v tv tt' z _ _ _ _ _ _ _ _ G3 (((g'.trans g2).trans g3).le (by kd_p)) z3
 ·kcj_m
  obtain ⟨hd10, td, hdi⟩ := hdn i (by exact Qyg hi hi3)
  kd_p1
  generalize hdd : dgN d1 d2 d3 i = d at hd10 hdi
  kcj_m
  obtain ⟨p0, p5, pp⟩ := O.lev_ok (p := d / 2) (by exact Ql8 hd10)
  obtain ⟨_, _, p3⟩ := O.plc_ok p0 p5
  kd_p1
  rw [pp] at p3
  refine Qci (a := dg) (pre := mgL b' ++ [(acc, listOf ys.toArray k)]) (post := Rl) (by rw [List.append_assoc]; rfl) hml hli hdi fun o' li' => ?_
  rw [List.append_assoc]
  show WA Ψ2 (letOwnedTupleGo _ _ _) _ _ _
  have hx : σ'.order[(lev σ.order (d / 2)).toNat]? = some (101 + Int.fdiv (d : Int) 2) := by
   rw [g'.e.ord, p3, Int.fdiv_eq_ediv_of_nonneg _ (by decide)]; rfl
  have hjl : (((lev σ.order (d / 2)).toNat : Nat) : Int) = lev σ.order (d / 2) := by exact Qir p0
  (ctx_mentions Zy Zz Vc Yg Xf Ye Va Yc)
  refine Qbi (by decide) fun _ => ?_
  (ctx_mentions Yc Zj Zr)
  refine Qak (fun h => ?_) fun h => ?_
  ·have hd2 : d % 2 = 0 := by rw [Int.fmod_eq_emod_of_nonneg _ (by decide)] at h; simp at h; exact Qsx h
   (ctx_mentions Fa)
   refine Qao Ψ2.e.kind hck2 hlk2 (mr (.tail _ (.tail _ hot))) hdt (by decide) ?_
   (ctx_mentions Ic Yl Ye Yc Ye Va Yc)
   refine WA.fdiv (by decide) (by decide) fun _ => ?_
   (ctx_mentions Yq Zh)
   refine Qm8 (j := (lev σ.order (d / 2)).toNat) G' (hr2.less (by kd_p)) (Qaj (c := i) (cap.less (by exact Qss hi)) g') hx fun t' b2 σ2 r G2 g2 e2 => ?_
   rw [hjl] at e2
   refine Qbn (pre := mgL b2) (post := (it1, o') :: Rl) (vs := ys) (n := k) rfl (by exact Qsr hi hyl) ?_
   refine again (3 - (i + 1)) _ _ (by exact Qsq hm hi hi3) ⟨i + 1, k + 1, o', b2, σ2, ys ++ [_], _, rfl, by exact Qsp hi hi3, li', G2, g'.trans g2, by simp [hyl], fun j y hj => ?_, rfl, rfl⟩
   by_cases hjk : j < ys.length
   ·rw [List.getElem?_append_left hjk] at hj
    kcj_m
    obtain ⟨u', t2, q4, q5⟩ := hys j y hj
    kd_p1
    exact ⟨u', t2, q4, q5.ext g2.e⟩
   ·obtain ⟨hj0, hjy⟩ : j = i ∧ y = _ := by
     rw [List.getElem?_append_right (by exact Qki hjk)] at hj
     have hl := (List.getElem?_eq_some_iff.mp hj).1
     simp at hl
     rw [show j - ys.length = 0 by exact Qqh hl] at hj
     exact ⟨by exact Qqg hyl hjk hl, (Option.some.inj hj).symm⟩
    refine ⟨_, _, hjy, ?_⟩
    rw [hj0, hdd, Qg8 hd2]
    exact e2
  ·have hd2 : d % 2 = 1 := by rw [Int.fmod_eq_emod_of_nonneg _ (by decide)] at h; simp at h; exact Qsu h
   (ctx_mentions Yf Fa)
   refine Qao Ψ2.e.kind hck2 hlk2 (mr (.tail _ (.tail _ hot))) hdt (by decide) ?_
   (ctx_mentions Ic Yl Ye Yc Ye Va Yc)
   refine WA.fdiv (by decide) (by decide) fun _ => ?_
   (ctx_mentions Yq Zh)
   refine Qm8 (j := (lev σ.order (d / 2)).toNat) G' (hr2.less (by kd_p)) (Qaj (c := i) (cap.less (by exact Qss hi)) g') hx fun t' b2 σ2 r G2 g2 e2 => ?_
   rw [hjl] at e2
   (ctx_mentions Ys)
   refine Qbn (pre := mgL b2) (post := (it1, o') :: Rl) (vs := ys) (n := k) rfl (by exact Qsr hi hyl) ?_
   refine again (3 - (i + 1)) _ _ (by exact Qsq hm hi hi3) ⟨i + 1, k + 1, o', b2, σ2, ys ++ [_], _, rfl, by exact Qsp hi hi3, li', G2, g'.trans g2, by simp [hyl], fun j y hj => ?_, rfl, rfl⟩
   by_cases hjk : j < ys.length
   ·rw [List.getElem?_append_left hjk] at hj
    kcj_m
    obtain ⟨u', t2, q4, q5⟩ := hys j y hj
    kd_p1
    exact ⟨u', t2, q4, q5.ext g2.e⟩
   ·obtain ⟨hj0, hjy⟩ : j = i ∧ y = _ := by
     rw [List.getElem?_append_right (by exact Qki hjk)] at hj
     have hl := (List.getElem?_eq_some_iff.mp hj).1
     simp at hl
     rw [show j - ys.length = 0 by exact Qqh hl] at hj
     exact ⟨by exact Qqg hyl hjk hl, (Option.some.inj hj).symm⟩
    refine ⟨_, _, hjy, ?_⟩
    rw [hj0, hdd, Qjm hd2]
    exact e2.not
end
end
section
section
structure XS15 where
 place : Option Value
 number : Option Value
 joined : Option Value
 kind : Option Value
 digits : Option Value
 one : Option Value
 two : Option Value
 three : Option Value
 a : Option Value
 b : Option Value
 c : Option Value
 limit : Option Value
 due : Option Value
structure OrdE (l : Led) (oa ea : Addr) (pl : Nat → Nat) (ev : Nat → Bool) : Prop where
 tup : Ex4 fun (vo ve : List Value) (no ne : Nat) => An5 ((oa, listOf vo.toArray no) ∈ l) ((ea, listOf ve.toArray ne) ∈ l) ((∀ i, i < 5 → ∃ t, vo[i]? = some (.int (101 + (pl i : Int)) t))) ((∀ i, i < 5 → ve[i]? = some (.bool (ev i)))) (vo.length = 5)
theorem LimsL.snoc {l : Led} {vs : List Value} {lims : List Lim} (h : LimsL l vs lims) {t w d : Addr} {j : Bool} {ws ds : List Int} {vw vd : List Value} {nt nw nd : Nat} (h1 : (t, (⟨.type "tuple", none, .seq #[.bool j, .ref w, .ref d] nt, #[]⟩ : Obj)) ∈ l) (h2 : (w, listOf vw.toArray nw) ∈ l) (h3 : (d, listOf vd.toArray nd) ∈ l) (h4 : IntsAre vw ws) (h5 : IntsAre vd ds) (h6 : ∀ x ∈ ds, 0 ≤ x ∧ x < 10) (h7 : ws.length ≤ 10) (h8 : ds.length ≤ 10) : LimsL l (vs ++ [.ref t]) (lims ++ [(j, ws, ds)]) := by
 induction h with
 | nil => exact .cons h1 h2 h3 h4 h5 h6 h7 h8 .nil
 | cons g1 g2 g3 g4 g5 g6 g7 g8 _ ih => exact .cons g1 g2 g3 g4 g5 g6 g7 g8 ih
theorem Qm7 {kd : Nat} (hk : kd < 3) {wa wb wc : Addr} {va vb vc : List Value} {na nb nc : Nat} (ia : IntsAre va [1, 2, 3]) (ib : IntsAre vb [1, 3]) (ic : IntsAre vc [2, 3]) : ∃ (w : Addr) (vw : List Value) (nw : Nat), ([Value.ref wa, .ref wb, .ref wc])[((kd : Int)).toNat]? = some (.ref w) ∧ (w, listOf vw.toArray nw) ∈ [(wc, listOf vc.toArray nc), (wb, listOf vb.toArray nb), (wa, listOf va.toArray na)] ∧ IntsAre vw (wantedL kd) ∧ (wantedL kd).length ≤ 10 := by
 have h : kd = 0 ∨ kd = 1 ∨ kd = 2 := by exact Qqf hk
 rcases h with rfl | rfl | rfl
 ·exact ⟨wa, va, na, rfl, .tail _ (.tail _ (.head _)), ia, by decide⟩
 ·exact ⟨wb, vb, nb, rfl, .tail _ (.head _), ib, by decide⟩
 ·exact ⟨wc, vc, nc, rfl, .head _, ic, by decide⟩
theorem Qp0 {vs : List Value} {ns : List Int} (h : IntsAre vs ns) {i : Nat} (hi : i < vs.length) : ∃ (n : Int) (t : Tok), vs[i]? = some (.int n t) := ⟨_, Qap h (List.getElem?_eq_getElem (Qai h ▸ hi))⟩
theorem segA {Ψ : Frm hK NL W} {cn cl ct cp : Addr} {ot : Obj} {R0 : Led} (hr : Room Ψ.A 30) (H : L6 Ψ cn cl ct cp) (hot : (ct, ot) ∈ Rl) (hdt : ot.data = .cell (some (.ref sa))) {on ol : Obj} {v0 w0 : Option Value} {fr : Nat} {tf tu tt ts : Tok} {u sv : Int} {oa ea sl : Addr} {pl : Nat → Nat} {ev : Nat → Bool} {g0 : BF} {vs : List Value} {ns : List Int} {od : List Int} {o3 o8 o9 o10 o11 o12 o13 o14 o15 o16 o17 o18 o19 o20 o21 o22 o23 o24 o25 o26 o27 o28 o29 o30 o31 o32 o33 o34 : Option Value} (hdn : on.data = .cell v0) (hdl : ol.data = .cell w0)
  (G : Good W sa b σ) (F : Full σ) (hod : σ.order = od) (hS : Ψ.h.IsList sl vs.toArray) (hi : IntsAre vs ns) (hn : ns.length ≤ 63) (OE : OrdE Rl oa ea pl ev) (pl5 : ∀ i, i < 5 → pl i < 5) (inj : ∀ i j, i < 5 → j < 5 → pl i = pl j → i = j) (hsur : ∀ p, p < 5 → ∃ i, i < 5 ∧ pl i = p)
  (hfr : fr ≤ 2) (cap : Cap σ 50000) (du : Den σ u g0) (hg : ∀ r, r < 32 → g0 (asg 5 σ.order r) = parB r) (hR : ∀ x ∈ R0, x ∈ Rl) :
  WA Ψ (execs (fn551.body.drop 13) Ψ.env) (fun f _ l => f = .ret (.bool true) ∧ ∀ x ∈ R0, x ∈ l) (some (.ref sl) :: some (.int sv ts) :: some (.int fr tf) :: o3 :: some (.int u tu) :: some (.int (tb 5 od g0 : Int) tt) :: some (.ref ea) :: some (.ref oa) :: o8 :: o9 :: o10 :: o11 :: o12 :: o13 :: o14 :: o15 :: o16 :: o17 :: o18 :: o19 :: o20 :: o21 :: o22 :: o23 :: o24 :: o25 :: o26 :: o27 :: o28 :: o29 :: o30 :: o31 :: o32 :: o33 :: o34 :: []) (mgL b ++ (cl, ol) :: (cn, on) :: Rl) := by
 subst hod
 have hh := hr.hh
 have at0 := G.at'
 have hs := G.hs
 kcj_m
 obtain ⟨vo, ve, no, ne, m2, m3, h6, h7, hvo⟩ := OE.tup
 kd_p1
 have hvl := Qai hi
 have hxt := Qp6 Ψ.env H.cs
 have hkt := H.k _ (.tail _ (.tail _ (.head _)))
 have hev := h7 4 (by decide)
 dsimp only [fn551, mkFn, List.drop]
 (ctx_mentions Ua Xa)
 refine Mine.L.list rfl ?_; intro _
 (ctx_mentions Zh)
 refine Qaf (M := mgL b) (vs := []) (Qac (n := 0) (by kd_p)) fun la => ?_
 (ctx_mentions Vc Zb Ua Xa Ye Ye Yc Ye Ye Va Yc)
 refine Qb7 (IntMulOk.of_right (intBits_le_64 (by kd_p) (by kd_p))) fun _ => ?_
 (ctx_mentions Yc Yq)
 refine Qb7 (IntMulOk.of_left (intBits_le_64 (by kd_p) (by kd_p))) fun _ => ?_
 (ctx_mentions Yg Xi Yk Va Yc)
 refine Qal (mr (.tail _ (.tail _ (.tail _ m3)))) (by kd_p) (by kd_p) hev ?_
 (ctx_mentions Zr)
 let J : VQ := fun x vals' l' => Ex2 fun (z : Int) (t : Tok) => An3 (x = .int z t) (vals' = (some (.ref sl) :: some (.int sv ts) :: some (.int fr tf) :: o3 :: some (.int u tu) :: some (.int (tb 5 σ.order g0 : Int) tt) :: some (.ref ea) :: some (.ref oa) :: o8 :: o9 :: o10 :: o11 :: o12 :: o13 :: o14 :: some (.ref la) :: o16 :: o17 :: o18 :: o19 :: o20 :: o21 :: o22 :: o23 :: o24 :: o25 :: o26 :: o27 :: o28 :: o29 :: o30 :: o31 :: o32 :: o33 :: o34 :: [])) (l' = mgL b ++ (la, listOf [].toArray 0) :: (cl, ol) :: (cn, on) :: Rl)
 refine Qfh J (Qak (fun h => ?_) fun h => ?_) ?_
 ·(ctx_mentions Yc)
  exact ⟨_, _, rfl, rfl, rfl⟩
 ·(ctx_mentions Yc)
  exact ⟨_, _, rfl, rfl, rfl⟩
 rintro _ _ _ ⟨zx, tzx, rfl, rfl, rfl⟩
 refine Yq fun tex => ?_
 generalize (2 : Int) * (sv * 505 + 1490) + zx = ex
 (ctx_mentions Vc Zb Ua Xk Fb Pa Yp Yl Ye Yk Va)
 refine Qfc ?_
 (ctx_mentions Yc)
 refine ⟨mgL b, _, rfl, fun sx => ?_⟩
 refine Qkq (k := 2) (M := mgL b) hS (by exact Qyf hn hvl) (mr (.head _)) (fun sl2 => ?_) ⟨_, by with_unfolding_all rfl⟩ (by intro _; with_unfolding_all rfl)
 refine Mine.L.list rfl ?_; intro _
 (ctx_mentions Vb Zh)
 refine Qaf (M := mgL b) (vs := [.int ex tex]) (Qac (n := 1) (by kd_p)) fun xl => ?_
 have htl : (vs.take 2).length ≤ 2 := by rw [List.length_take]; exact Qye
 refine Qiy (M := mgL b) (vs := vs.take 2) (us := [.int ex tex]) (mr (.tail _ (.head _))) (mr (.head _)) (by simp only [List.length_cons, List.length_nil]; exact Qyc htl) fun sc => ?_
 (ctx_mentions Zh)
 refine Qff (M := mgL b) (mr (.head _)) fun e it oi li => ?_
 refine Qfe (mr (.head _)) ?_
 have hz : IntsAre (vs.take 2 ++ [.int ex tex]) (ns.take 2 ++ [ex]) := Qce (hi.take 2) (.cons _ _ .nil)
 have hzl : (vs.take 2 ++ [Value.int ex tex]).length ≤ 3 := by rw [List.length_append]; simp only [List.length_cons, List.length_nil]; exact Qyb htl
 generalize vs.take 2 ++ [Value.int ex tex] = vz at hz hzl
 generalize ns.take 2 ++ [ex] = nz at hz
 have hzn := Qai hz
 refine WC.sublist (mgL b ++ (e, enumF .none it 0 .none) :: (it, oi) :: (sc, listOf vz.toArray 0) :: (la, listOf [].toArray 0) :: (cl, ol) :: (cn, on) :: Rl) (sA (sB (sB (sB (sC (sC (sD))))))) ?_
 let J : Nat → Vals → Led → Prop := fun m vals' l' => Ex14 fun (i nl : Nat) (old : Value) (oi : Obj) (b : Mg) (σ' : Sg) (v : Int) (tv tt : Tok) (f : BF) (vl : List Value) (lims : List Lim) (Rk : Led) (xs : XS15) => An13 (m = 3 - i) (i ≤ vz.length) (LiO oi sc i) (Good W sa b σ') (Ext σ σ') (Cap σ' (40000 + 2000 * (3 - i))) (Den σ' v f) ((∀ r, r < 32 → f (asg 5 σ.order r) = metB r (parB r) lims)) (LimsL Rk vl lims) (lims.length = i) ((∀ z ∈ Rl, z ∈ Rk)) (vals' = (some (.ref sl) :: some (.int sv ts) :: some (.int fr tf) :: xs.place :: some (.int v tv) :: some (.int (tb 5 σ.order f : Int) tt) :: some (.ref ea) :: some (.ref oa) :: o8 :: o9 :: o10 :: o11 :: o12 :: o13 :: o14 :: some (.ref la) :: xs.number :: xs.kind :: xs.joined :: xs.digits :: xs.one :: xs.two :: xs.three :: xs.a :: xs.b :: xs.c :: xs.limit :: xs.due :: o28 :: o29 :: o30 :: o31 :: o32 :: o33 :: some (.int ex tex) :: [])) (l' = mgL b ++ (e, enumF .none it (i : Nat) old) :: (it, oi) :: (sc, listOf vz.toArray 0) :: (la, listOf vl.toArray nl) :: (cl, ol) :: (cn, on) :: Rk)
 refine WC.inv J ?_ 3 ⟨0, 0, .none, oi, b, σ, u, tu, tt, g0, [], [], Rl, ⟨_, _, _, _, _, _, _, _, _, _, _, _, _⟩, rfl, Nat.zero_le _, li, G, Ext.refl _, cap.less (by kd_p), du, hg, .nil, rfl, fun z hz => hz, rfl, rfl⟩
 clear G at0 hs du hg li
 rintro m _ _ ⟨i, nl, old, oi, b, σ', v, tv, tt, f, vl, lims, Rk, xs, hm, hi3, hli, G, ex', cap, dv, hf, hL, hll, hk, rfl, rfl⟩ again
 refine Mine.WC.letV ?_; intro vv
 have at0 := G.at'
 have hs := G.hs
 have hml : (sc, listOf vz.toArray 0) ∈ mgL b ++ (e, enumF .none it (i : Nat) old) :: (it, oi) :: (sc, listOf vz.toArray 0) :: (la, listOf vl.toArray nl) :: (cl, ol) :: (cn, on) :: Rk := mr (.tail _ (.tail _ (.head _)))
 by_cases hie : i = vz.length
 ·refine WC.for1 (Qf6 (a := sc) (vs := vz) (n := 0) (pre := mgL b) hh rfl hml hli (by rw [List.getElem?_eq_none_iff]; exact Qya hie) ?_)
  refine Zx (Za (Zb ?_))
  refine WA.sublist (mgL b ++ (la, listOf vl.toArray nl) :: (cl, ol) :: (cn, on) :: Rk) (sA (sC (sD))) ?_
  refine WA.perm (mgL b ++ (cl, ol) :: (cn, on) :: (la, listOf vl.toArray nl) :: Rk) (List.Perm.append_left _ (List.perm_middle (l₁ := [(cl, ol), (cn, on)]))) ?_
  refine Qva hr H (.tail _ (hk _ hot)) hdt hdn hdl G (F.ext ex') ex'.ord (lims := lims) ⟨⟨vo, ve, vl, no, ne, nl, .tail _ (hk _ m2), .tail _ (hk _ m3), .head _, h6, h7, hL.mono fun z hz => .tail _ hz, hvo⟩, pl5, inj, by exact Qx9 hzl hll hie, by rw [ex'.ord]; exact hf⟩ hfr hsur (cap.less (by exact Qx8)) dv fun x hx => .tail _ (hk _ (hR x hx))
 have hil : i < vz.length := by exact Qek hi3 hie
 kcj_m
 obtain ⟨nb, tn, hget⟩ := Qp0 hz hil
 obtain ⟨kd, hkd, ekd⟩ := Qcu (a := Int.fdiv nb 2) (n := 3) (by kd_p)
 obtain ⟨d1, hd1, ed1⟩ := Qcu (a := Int.fdiv nb 6) (n := 10) (by kd_p)
 obtain ⟨d2, hd2, ed2⟩ := Qcu (a := Int.fdiv nb 60 + 2 * (i : Int) + 3) (n := 10) (by kd_p)
 obtain ⟨d3, hd3, ed3⟩ := Qcu (a := Int.fdiv nb 600 + 3 * (i : Int) + 6) (n := 10) (by kd_p)
 kd_p1
 refine WC.for1 (Qfd (a := sc) (vs := vz) (n := 0) (pre := mgL b) rfl hml hli hget fun y oi' ti li' => ?_)
 (ctx_mentions Yv)
 refine Qf5 (pre := mgL b) rfl ?_
 refine R.unp hh (items := #[.int i ti, .int nb tn]) (n := 0) (mr (.tail _ (.tail _ (.head _)))) rfl rfl ?_
 (ctx_mentions Yw Vc Yw Vc ZG Ua Xa Xe Ye Va Yc)
 refine Qbi (by decide) fun _ => ?_
 (ctx_mentions Yc Zj Vc Zb Ua Xa Ye Ye Va Yc)
 refine WA.fdiv (by decide) (by decide) fun _ => ?_
 (ctx_mentions Yc)
 refine Qbi (by decide) fun tk => ?_
 rw [show Int.fmod (Int.fdiv nb 2) 3 = (kd : Int) from ekd]
 (ctx_mentions Vc Zb Ua Xa)
 refine Mine.L.list rfl ?_; intro _
 (ctx_mentions Yl Ye Ye Va Yc)
 refine WA.fdiv (by decide) (by decide) fun _ => ?_
 (ctx_mentions Yc)
 refine Qbi (by decide) fun q1 => ?_
 rw [show Int.fmod (Int.fdiv nb 6) 10 = (d1 : Int) from ed1]
 (ctx_mentions Yl Ye Ye Ye Ye Va Yc)
 refine WA.fdiv (by decide) (by decide) fun _ => ?_
 (ctx_mentions Ye Yc Va)
 refine Qb7 (IntMulOk.of_left (intBits_le_64 (by kd_p) (by kd_p))) fun _ => ?_
 (ctx_mentions Yq Yc Yq Yc)
 refine Qbi (by decide) fun q2 => ?_
 rw [show Int.fmod (Int.fdiv nb 60 + 2 * (i : Int) + 3) 10 = (d2 : Int) from ed2]
 (ctx_mentions Yl Ye Ye Ye Ye Va Yc)
 refine WA.fdiv (by decide) (by decide) fun _ => ?_
 (ctx_mentions Ye Yc Va)
 refine Qb7 (IntMulOk.of_left (intBits_le_64 (by kd_p) (by kd_p))) fun _ => ?_
 (ctx_mentions Yq Yc Yq Yc)
 refine Qbi (by decide) fun q3 => ?_
 rw [show Int.fmod (Int.fdiv nb 600 + 3 * (i : Int) + 6) 10 = (d3 : Int) from ed3]
 (ctx_mentions Zh)
 refine Qaf (M := mgL b) (Qac (n := 3) (by kd_p)) fun dg => ?_
 (ctx_mentions Vc Zb Ua Xd Fa Va)
 refine Qes (vs := vl) (n := nl) (mr (.tail _ (.tail _ (.tail _ (.tail _ (.tail _ (.head _))))))) PySem.F.slot_list_append PySem.F.type_list_append ?_
 (ctx_mentions Yn Yl Xg Vb Yl Yk)
 refine Mine.L.list rfl ?_; intro _
 (ctx_mentions Yl)
 refine Mine.L.list rfl ?_; intro _
 (ctx_mentions Yl)
 refine Yc fun k1 => ?_
 (ctx_mentions Yl)
 refine Yc fun k2 => ?_
 (ctx_mentions Yl)
 refine Yc fun k3 => ?_
 (ctx_mentions Zh)
 refine Qaf (M := mgL b) (Qac (n := 3) (by kd_p)) fun wa => ?_
 (ctx_mentions Yl)
 refine Mine.L.list rfl ?_; intro _
 (ctx_mentions Yl)
 refine Yc fun k4 => ?_
 (ctx_mentions Yl)
 refine Yc fun k5 => ?_
 (ctx_mentions Zh)
 refine Qaf (M := mgL b) (Qac (n := 2) (by kd_p)) fun wb => ?_
 (ctx_mentions Yl)
 refine Mine.L.list rfl ?_; intro _
 (ctx_mentions Yl)
 refine Yc fun k6 => ?_
 (ctx_mentions Yl)
 refine Yc fun k7 => ?_
 (ctx_mentions Zh)
 refine Qaf (M := mgL b) (Qac (n := 2) (by kd_p)) fun wc => ?_
 (ctx_mentions Zh)
 refine Qaf (M := mgL b) (Qac (n := 3) (by kd_p)) fun wl => ?_
 (ctx_mentions Va)
 kcj_m
 obtain ⟨w, vw, nw, hw1, hw2, hw3, hw4⟩ := Qm7 hkd (wa := wa) (wb := wb) (wc := wc) (na := 0) (nb := 0) (nc := 0) (.cons 1 k1 (.cons 2 k2 (.cons 3 k3 .nil))) (.cons 1 k4 (.cons 3 k5 .nil)) (.cons 2 k6 (.cons 3 k7 .nil))
 kd_p1
 refine Qal (vs := [.ref wa, .ref wb, .ref wc]) (mr (.head _)) (by exact Qdc) (by exact Qst hkd) hw1 ?_
 (ctx_mentions Vb Zh)
 refine Qab (M := mgL b) (Qac (n := 3) (by kd_p)) fun tp => ?_
 (ctx_mentions Zh)
 refine Qbn (pre := mgL b ++ [_, _, _, _, _, _, _, _, _, _]) (post := (cl, ol) :: (cn, on) :: Rk) (vs := vl) (n := nl) (by rw [List.append_assoc]; rfl) (by have := hL.len; exact Qx7 hzl hll hil this) ?_
 rw [List.append_assoc]
 (ctx_mentions Zb)
 obtain ⟨A0, hA0⟩ : ∃ A0 : Led, A0 = [(tp, tupObj [.bool (Int.fmod nb 2 == 1), .ref w, .ref dg]), (wc, listOf [.int 2 k6, .int 3 k7].toArray 0), (wb, listOf [.int 1 k4, .int 3 k5].toArray 0), (wa, listOf [.int 1 k1, .int 2 k2, .int 3 k3].toArray 0), (dg, listOf [.int (d1 : Int) q1, .int (d2 : Int) q2, .int (d3 : Int) q3].toArray 0)] := ⟨_, rfl⟩
 have mtp : (tp, tupObj [.bool (Int.fmod nb 2 == 1), .ref w, .ref dg]) ∈ A0 ++ Rk := by rw [hA0]; exact .head _
 have mw : (w, listOf vw.toArray nw) ∈ A0 ++ Rk := by
  rw [hA0]
  simp only [List.mem_cons, List.not_mem_nil, or_false] at hw2
  rcases hw2 with hw2 | hw2 | hw2
  ·rw [hw2]; exact .tail _ (.head _)
  ·rw [hw2]; exact .tail _ (.tail _ (.head _))
  ·rw [hw2]; exact .tail _ (.tail _ (.tail _ (.head _)))
 have mdg : (dg, listOf [.int (d1 : Int) q1, .int (d2 : Int) q2, .int (d3 : Int) q3].toArray 0) ∈ A0 ++ Rk := by rw [hA0]; exact .tail _ (.tail _ (.tail _ (.tail _ (.head _))))
 refine WA.sublist (mgL b ++ (A0 ++ ([(e, enumF .none it ((i + 1 : Nat)) (.int nb tn)), (it, oi'), (sc, listOf vz.toArray 0), (la, listOf (vl ++ [Value.ref tp]).toArray (nl + 1)), (cl, ol), (cn, on)] ++ Rk))) (sA (by
  rw [hA0]
  exact sB (sC (sB (sB (sB (sB (sB (sB (sD)))))))))) ?_
 refine WA.perm (mgL b ++ ([(e, enumF .none it ((i + 1 : Nat)) (.int nb tn)), (it, oi'), (sc, listOf vz.toArray 0), (la, listOf (vl ++ [Value.ref tp]).toArray (nl + 1)), (cl, ol), (cn, on)] ++ (A0 ++ Rk))) (List.Perm.append_left _ (List.perm_append_comm_assoc _ _ _)) ?_
 have hL2 : LimsL (A0 ++ Rk) (vl ++ [.ref tp]) (lims ++ [((Int.fmod nb 2 == 1), wantedL kd, [(d1 : Int), (d2 : Int), (d3 : Int)])]) := (hL.mono fun z hz => mr hz).snoc mtp mw mdg hw3 (.cons _ _ (.cons _ _ (.cons _ _ .nil))) (by
  intro x hx
  simp only [List.mem_cons, List.not_mem_nil, or_false] at hx
  rcases hx with rfl | rfl | rfl <;> omega) hw4 (by simp)
 have hk2 : ∀ z ∈ Rl, z ∈ A0 ++ Rk := fun z hz => mr (hk z hz)
 clear hA0 mtp mw hw1 hw2 hw3 hw4 hL hk
 have hf2 := Qp8 (odOf G (F.ext ex')) (j := (Int.fmod nb 2 == 1)) hkd hd1 hd2 hd3 (by rw [ex'.ord]; exact hf)
 rw [ex'.ord] at hf2
 generalize A0 ++ Rk = Rk2 at hL2 hk2 mdg
 refine Qri (hr.less (by kd_p)) H (.tail _ (.tail _ (.tail _ (.tail _ (.tail _ (.tail _ (hk2 _ hot))))))) hdt G (F.ext ex') ex'.ord (cap.less (by exact Qx6)) dv (.tail _ (.tail _ (.tail _ (.tail _ (.tail _ (.tail _ mdg)))))) hkd hd1 hd2 hd3 ?_
 intro b2 σ2 v2 tv2 tt2 z y1 y2 y3 y4 y5 y6 y7 y8 G2 g2 dv2
 (ctx_mentions Zu)
 refine WC.sublist (mgL b2 ++ (e, enumF .none it ((i + 1 : Nat)) (.int nb tn)) :: (it, oi') :: (sc, listOf vz.toArray 0) :: (la, listOf (vl ++ [Value.ref tp]).toArray (nl + 1)) :: (cl, ol) :: (cn, on) :: Rk2) (sA (sD)) ?_
 exact again (3 - (i + 1)) _ _ (by exact Qx5 hzl hm hil) ⟨i + 1, nl + 1, _, oi', b2, σ2, v2, tv2, tt2, _, _, _, Rk2, ⟨_, _, _, _, _, _, _, _, _, _, _, _, _⟩, rfl, by exact Qdg hil, li', G2, ex'.trans g2.e, Qaj (c := 1000) (cap.less (by exact Qx4 hzl hil)) g2, dv2, hf2, hL2, by simp [hll], hk2, rfl, rfl⟩
end
end
section
section
theorem Qnc (m : Nat) (od : List Int) : tb m od (fun _ => false) = 0 := by
 have h := tb_not m od fun _ => true
 rw [Qk0, Nat.sub_self] at h
 exact h.symm
theorem segP {Ψ : Frm hK NL W} {cn cl ct cp : Addr} {ot : Obj} {R0 : Led} (hr : Room Ψ.A 30) (H : L6 Ψ cn cl ct cp) (hot : (ct, ot) ∈ Rl) (hdt : ot.data = .cell (some (.ref sa))) {on ol : Obj} {v0 w0 : Option Value} {fr : Nat} {tf ts : Tok} {sv : Int} {oa ea sl : Addr} {pl : Nat → Nat} {ev : Nat → Bool} {vs : List Value} {ns : List Int} {o3 o4 o5 o8 o9 o10 o11 o12 o13 o14 o15 o16 o17 o18 o19 o20 o21 o22 o23 o24 o25 o26 o27 o28 o29 o30 o31 o32 o33 o34 : Option Value} (hdn : on.data = .cell v0) (hdl : ol.data = .cell w0)
  (G : Good W sa b σ) (F : Full σ) (hS : Ψ.h.IsList sl vs.toArray) (hi : IntsAre vs ns) (hn : ns.length ≤ 63) (OE : OrdE Rl oa ea pl ev) (pl5 : ∀ i, i < 5 → pl i < 5) (inj : ∀ i j, i < 5 → j < 5 → pl i = pl j → i = j) (hsur : ∀ p, p < 5 → ∃ i, i < 5 ∧ pl i = p)
  (hfr : fr ≤ 2) (cap : Cap σ 60000) (hR : ∀ x ∈ R0, x ∈ Rl) :
  WA Ψ (execs (fn551.body.drop 10) Ψ.env) (fun f _ l => f = .ret (.bool true) ∧ ∀ x ∈ R0, x ∈ l) (some (.ref sl) :: some (.int sv ts) :: some (.int fr tf) :: o3 :: o4 :: o5 :: some (.ref ea) :: some (.ref oa) :: o8 :: o9 :: o10 :: o11 :: o12 :: o13 :: o14 :: o15 :: o16 :: o17 :: o18 :: o19 :: o20 :: o21 :: o22 :: o23 :: o24 :: o25 :: o26 :: o27 :: o28 :: o29 :: o30 :: o31 :: o32 :: o33 :: o34 :: []) (mgL b ++ (cl, ol) :: (cn, on) :: Rl) := by
 have hh := hr.hh
 dsimp only [fn551, mkFn, List.drop]
 have O := odOf G F
 have dv0 : Den σ (-1) (parF 0) := Den.not .one
 (ctx_mentions Ua Xa Yf Yc Ys Vc Zb Ua Xa Yc Vc Zb Ua Xk Fb Pa Yp Yl Yc Yl Yf Yc Ys Yl Yf Yc Ys Zh)
 refine Qhq (M := mgL b) (by decide) (by decide) fun rg => ?_
 refine Qau (M := mgL b) (.head _) (by decide) fun it => ?_
 refine WC.sublist (mgL b ++ (it, rangeItObj 4 5 (-1)) :: (cl, ol) :: (cn, on) :: Rl) (sA (sB (sD))) ?_
 have ht0 : (tb 5 σ.order (parT σ.order 0) : Int) = 0 := by rw [show parT σ.order 0 = fun _ => false from rfl, Qnc]; rfl
 let J : Nat → Vals → Led → Prop := fun m vals' l' => Ex9 fun (j : Nat) (x y : Int) (b : Mg) (σ' : Sg) (v : Int) (tv tt : Tok) (x_place : Option Value) => An9 (m = 5 - j) (j ≤ 5) (x = 4 - (j : Int)) (y = 5 - (j : Int)) (Good W sa b σ') (Gr σ σ' (65 * j)) (Den σ' v (parF j)) (vals' = (some (.ref sl) :: some (.int sv ts) :: some (.int fr tf) :: x_place :: some (.int v tv) :: some (.int (tb 5 σ.order (parT σ.order j) : Int) tt) :: some (.ref ea) :: some (.ref oa) :: o8 :: o9 :: o10 :: o11 :: o12 :: o13 :: o14 :: o15 :: o16 :: o17 :: o18 :: o19 :: o20 :: o21 :: o22 :: o23 :: o24 :: o25 :: o26 :: o27 :: o28 :: o29 :: o30 :: o31 :: o32 :: o33 :: o34 :: [])) (l' = mgL b ++ (it, rangeItObj x y (-1)) :: (cl, ol) :: (cn, on) :: Rl)
 refine WC.inv J ?_ 5 ⟨0, 4, 5, b, σ, -1, _, _, _, rfl, by kd_p, by kd_p, by kd_p, G, Gr.refl _, dv0, by rw [ht0]; rfl, rfl⟩
 clear G ht0 dv0
 rintro m _ _ ⟨j, x, y, b, σ', v, tv, tt, x_place, hm, hj, hx, hy, G, g, dv, rfl, rfl⟩ again
 refine Mine.WC.letV ?_; intro vv
 have at0 := G.at'
 have hs := G.hs
 by_cases hje : j = 5
 ·subst hje
  refine WC.for1 (Qbf (M := mgL b) hh (by exact Qx3 hy) ?_)
  refine Zx (Za (Zb ?_))
  rw [O.par_eq] at dv
  refine segA hr H hot hdt hdn hdl G (F.ext g.e) g.e.ord hS hi hn OE pl5 inj hsur hfr (Qaj (c := 65 * 5) (cap.less (by kd_p)) g) dv (fun r _ => ?_) hR
  rw [g.e.ord, ← O.par_eq]
  exact O.par_row r
 have hj5 : j < 5 := by exact Qso hj hje
 have hgo : σ'.order = σ.order := g.e.ord
 have hlo : (4 - j) < σ'.order.length := by rw [hgo, O.len]; exact Qke
 obtain ⟨xv, hxv⟩ : ∃ xv, σ'.order[4 - j]? = some xv := ⟨_, List.getElem?_eq_getElem hlo⟩
 refine WC.for1 (Qat (M := mgL b) (by exact Qx2 hy hj5) fun ti => ?_)
 (ctx_mentions Yv Zy Zz Vc Ua Xa Fa)
 refine Qaz H hdt (mr (.tail _ (.tail _ (.tail _ hot)))) ?_
 (ctx_mentions Ic Yl Yd Yl Fa)
 refine Qaz H hdt (mr (.tail _ (.tail _ (.tail _ hot)))) ?_
 (ctx_mentions Ic Yl Fa)
 refine Qaz H hdt (mr (.tail _ (.tail _ (.tail _ hot)))) ?_
 (ctx_mentions Ic Vb Zh)
 refine Qga G (hr.less (by kd_p)) (by exact Qsn hx hj5) (by rw [show x.toNat = 4 - j by exact Qs2 hx]; exact hxv) fun tx => ?_
 (ctx_mentions Zh)
 refine Qm8 (j := 4 - j) G (hr.less (by kd_p)) (Qaj (c := 65 * j) (cap.less (by exact Qx1 hj5)) g) hxv fun t1 b1 σ1 r1 G1 g1 e1 => ?_
 have at1 := G1.at'
 have hs1 := G1.hs
 (ctx_mentions Vb Zh)
 refine Q64 G1 (hr.less (by kd_p)) (Qaj (c := 65 * j + 1) (cap.less (by exact Qx0 hj5)) (g.trans g1)) e1 (dv.ext g1.e) fun t2 b2 σ2 r2 G2 g2 e2 => ?_
 (ctx_mentions Vc Zb Ua Xa Ye Va Yk Fb)
 refine Mine.L.funR (by nest_cls) (Qf1 _) ?_; intro _
 (ctx_mentions Zh)
 refine Qfx (M := mgL b2) (hr.less (by kd_p)) fun xo s1 s2 s3 s4 s5 => ?_
 (ctx_mentions Va)
 obtain ⟨to, hto⟩ := Qc1 (t1 := s1) (t2 := s2) (t3 := s3) (t4 := s4) (t5 := s5) (p := 4 - j) (by exact Qke) (show x = ((4 - j : Nat) : Int) by exact Qxz hx hj5)
 refine Qal (vs := onesL _ _ _ _ _) (mr (.head _)) (by exact Qsn hx hj5) (by exact Qxy hx) hto ?_
 refine Qi2 fun tt2 => ?_
 rw [Qk1 O (by exact Qke : 4 - j < 5), tb_bxor, show (fun a => parT σ.order j a ^^ a (lev σ.order (4 - j))) = parT σ.order (j + 1) from funext fun a => Bool.xor_comm _ _]
 (ctx_mentions Vc Zb Za Zu)
 refine WC.sublist (mgL b2 ++ (it, rangeItObj (x + -1) (y - 1) (-1)) :: (cl, ol) :: (cn, on) :: Rl) (sA (sD)) ?_
 exact again (5 - (j + 1)) _ _ (by exact Qsm hm hj5) ⟨j + 1, x + -1, y - 1, b2, σ2, r2, t2, tt2, _, rfl, by exact Qtj hj5, by exact Qs0 hx, by exact Qs4 hy, G2, ((g.trans g1).trans g2).le (by exact Qty), e2, rfl, rfl⟩
end
end
section
section
noncomputable def odN (k i : Nat) : List Int := (List.range i).map fun p => 101 + (((p + k) % 5 : Nat) : Int)
theorem Qnl (k i : Nat) : odN k (i + 1) = odN k i ++ [101 + (((i + k) % 5 : Nat) : Int)] := by
 unfold odN
 rw [List.range_succ, List.map_append]; rfl
theorem Qpu : ∀ k, k < 5 → ∀ i, i < 5 → (101 + (((i + k) % 5 : Nat) : Int)) ∉ odN k i := by decide +kernel
theorem Qnm : ∀ k, k < 5 → (odN k 5).Perm U1 := by decide +kernel
theorem Qnn (k : Nat) (h : k < 5) : Full (Sg.bare (odN k 5)) := ⟨fun x => ((Qnm k h).mem_iff (a := x)).symm, rfl⟩
theorem Qn0 {sv : Int} {k : Nat} (h : Int.fmod sv 5 = (k : Int)) (i : Nat) : Int.fmod ((i : Int) + sv) 5 = (((i + k) % 5 : Nat) : Int) := by
 rw [Int.fmod_eq_emod_of_nonneg _ (by decide)] at h ⊢
 exact Qxx h
theorem Qwf (P : Params) : DefIs (hK P) "BDD" clsA := ⟨.inl (by k_is), by k_is⟩
theorem OrdE.cons {l : Led} {oa ea : Addr} {pl : Nat → Nat} {ev : Nat → Bool} {y : Addr × Obj} (h : OrdE l oa ea pl ev) : OrdE (y :: l) oa ea pl ev := by
 obtain ⟨vo, ve, no, ne, m2, m3, h1, h2, h3⟩ := h.tup
 exact ⟨vo, ve, no, ne, .tail _ m2, .tail _ m3, h1, h2, h3⟩
theorem segK {Ψ : Frm hK NL W} {cn cl ct cp : Addr} {R0 : Led} (hr : Room Ψ.A 30) (H : L6 Ψ cn cl ct cp) {on ol ot0 : Obj} {v0 w0 t0 : Option Value} {fr : Nat} {tf ts : Tok} {sv : Int} {oa ea sl : Addr} {pl : Nat → Nat} {ev : Nat → Bool} {vs : List Value} {ns : List Int} {o3 o4 o5 o8 o9 o10 o11 o12 o13 o14 o15 o16 o17 o18 o19 o20 o21 o22 o23 o24 o25 o26 o27 o28 o29 o30 o31 o32 o33 o34 : Option Value} (hdn : on.data = .cell v0) (hdl : ol.data = .cell w0) (hd0 : ot0.data = .cell t0)
  (hS : Ψ.h.IsList sl vs.toArray) (hi : IntsAre vs ns) (hn : ns.length ≤ 63) (OE : OrdE Rl oa ea pl ev) (pl5 : ∀ i, i < 5 → pl i < 5) (inj : ∀ i j, i < 5 → j < 5 → pl i = pl j → i = j) (hsur : ∀ p, p < 5 → ∃ i, i < 5 ∧ pl i = p)
  (hfr : fr ≤ 2) (hR : ∀ x ∈ R0, x ∈ Rl) :
  WA Ψ (execs (fn551.body.drop 8) Ψ.env) (fun f _ l => f = .ret (.bool true) ∧ ∀ x ∈ R0, x ∈ l) (some (.ref sl) :: some (.int sv ts) :: some (.int fr tf) :: o3 :: o4 :: o5 :: some (.ref ea) :: some (.ref oa) :: o8 :: o9 :: o10 :: o11 :: o12 :: o13 :: o14 :: o15 :: o16 :: o17 :: o18 :: o19 :: o20 :: o21 :: o22 :: o23 :: o24 :: o25 :: o26 :: o27 :: o28 :: o29 :: o30 :: o31 :: o32 :: o33 :: o34 :: []) ((ct, ot0) :: (cl, ol) :: (cn, on) :: Rl) := by
 have hh := hr.hh
 have hxt := Qp6 Ψ.env H.cs
 have hkt := H.k _ (.tail _ (.tail _ (.head _)))
 kcj_m
 obtain ⟨k, hk5, ek⟩ := Qcu (a := sv) (n := 5) (by kd_p)
 kd_p1
 replace ek : Int.fmod sv 5 = (k : Int) := ek
 dsimp only [fn551, mkFn, List.drop]
 (ctx_mentions Ua Xa Fb)
 refine Mine.L.funR (by nest_cls) (Qwf _) ?_; intro _
 (ctx_mentions Zh)
 refine Qxg (hr.less (by kd_p)) fun sa b G => ?_
 refine Qc7 (pre := mgL b) (post := (cl, ol) :: (cn, on) :: Rl) hkt hxt rfl hd0 fun ot hdt => ?_
 (ctx_mentions Zb Ua Xk Fb Pa Yp Yl Yc Zh)
 refine Qd0 (M := mgL b) fun rg q1 q2 => ?_
 refine Qau (M := mgL b) (.head _) (by decide) fun it => ?_
 refine WC.sublist (mgL b ++ (it, rangeItObj 0 (Builtin.Range.rangeSize 0 5 1) 1) :: (ct, ot) :: (cl, ol) :: (cn, on) :: Rl) (sA (sB (sD))) ?_
 let J : Nat → Vals → Led → Prop := fun m vals' l' => Ex3 fun (i : Nat) (b : Mg) (x_place : Option Value) => An5 (m = 5 - i) (i ≤ 5) (Good W sa b (Sg.bare (odN k i))) (vals' = (some (.ref sl) :: some (.int sv ts) :: some (.int fr tf) :: x_place :: o4 :: o5 :: some (.ref ea) :: some (.ref oa) :: o8 :: o9 :: o10 :: o11 :: o12 :: o13 :: o14 :: o15 :: o16 :: o17 :: o18 :: o19 :: o20 :: o21 :: o22 :: o23 :: o24 :: o25 :: o26 :: o27 :: o28 :: o29 :: o30 :: o31 :: o32 :: o33 :: o34 :: [])) (l' = mgL b ++ (it, rangeItObj i (5 - i) 1) :: (ct, ot) :: (cl, ol) :: (cn, on) :: Rl)
 refine WC.inv J ?_ 5 ⟨0, b, _, rfl, by kd_p, G, rfl, rfl⟩
 clear G
 rintro m _ _ ⟨i, b, x_place, hm, hi5, G, rfl, rfl⟩ again
 refine Mine.WC.letV ?_; intro vv
 have at0 := G.at'
 have hs := G.hs
 by_cases hie : i = 5
 ·subst hie
  refine WC.for1 (Qbf (M := mgL b) hh (by kd_p) ?_)
  refine Zx (Za (Zb ?_))
  refine WA.perm (mgL b ++ (cl, ol) :: (cn, on) :: (ct, ot) :: Rl) (List.Perm.append_left _ (List.perm_middle (l₁ := [(cl, ol), (cn, on)]))) ?_
  exact segP hr H (.head _) hdt hdn hdl G (Qnn k hk5) hS hi hn OE.cons pl5 inj hsur hfr ⟨by simp [Sg.bare], by simp [Sg.bare], by show (odN k 5).length ≤ 5; simp [odN]⟩ fun x hx => .tail _ (hR x hx)
 have hlt : i < 5 := by exact Qso hi5 hie
 refine WC.for1 (Qat (M := mgL b) (by exact Qxw hlt) fun ti => ?_)
 (ctx_mentions Yv Zy Zz Vc Ua Xd Fa)
 refine Qaz H hdt (mr (.tail _ (.head _))) ?_
 (ctx_mentions Ic Yl Ye Yc Ye Ye Va Va Yq Yc)
 refine Qbi (by decide) fun _ => ?_
 rw [Qn0 ek i]
 (ctx_mentions Yq Zh)
 refine Q6q G (hr.less (by kd_p)) (Qpu k hk5 i hlt) (by simp [odN]; exact Qxv hlt) fun ta b' G' => ?_
 (ctx_mentions Zb Za Zu)
 rw [← Qnl] at G'
 have e1 : (i : Int) + 1 = ((i + 1 : Nat) : Int) := by push_cast; rfl
 have e2 : (5 : Int) - i - 1 = 5 - ((i + 1 : Nat) : Int) := by push_cast; exact Qxu
 rw [e2, e1]
 exact again (5 - (i + 1)) _ _ (by exact Qsm hm hlt) ⟨i + 1, b', _, rfl, hlt, G', rfl, rfl⟩
end
end
section
section
noncomputable abbrev U0 : List Int := [101, 102, 103, 104, 105]
theorem Qv0 {od : List Int} (h : (od ++ []).Perm U0) : Od 5 od := by
 rw [List.append_nil] at h
 refine ⟨h.length_eq, h.nodup_iff.mpr (by decide), fun x => ?_⟩
 rw [h.mem_iff]
 simp only [U0, List.mem_cons, List.not_mem_nil, or_false]
 exact Qxt
theorem Qpt {l : Led} {oa ea : Addr} {od : List Int} {vo ve : List Value} {no ne : Nat} {ev : Nat → Bool} (O : Od 5 od) (hv : IntsAre vo od) (m2 : (oa, listOf vo.toArray no) ∈ l) (m3 : (ea, listOf ve.toArray ne) ∈ l) (h7 : ∀ i, i < 5 → ve[i]? = some (.bool (ev i))) : OrdE l oa ea (fun i => plc od (i : Int)) ev := by
 refine ⟨vo, ve, no, ne, m2, m3, fun i hi => ?_, h7, by rw [Qai hv, O.len]⟩
 obtain ⟨_, _, h⟩ := O.plc_ok (j := (i : Int)) (by exact Qdc) (by exact Qmb hi)
 rw [Int.toNat_natCast] at h
 exact Qap hv h
theorem segL {Ψ : Frm hK NL W} {cn cl ct cp : Addr} {R0 : Led} (hr : Room Ψ.A 30) (H : L6 Ψ cn cl ct cp) {on ol ot0 : Obj} {v0 w0 t0 : Option Value} {fr ne : Nat} {tf ts tnb : Tok} {sv nb : Int} {ea sl : Addr} {ev : Nat → Bool} {vs ve : List Value} {ns : List Int} {o3 o4 o5 o7 o8 o9 o10 o11 o12 o13 o14 o15 o17 o18 o19 o20 o21 o22 o23 o24 o25 o26 o27 o28 o29 o30 o31 o32 o33 o34 : Option Value} (hdn : on.data = .cell v0) (hdl : ol.data = .cell w0) (hd0 : ot0.data = .cell t0)
  (hS : Ψ.h.IsList sl vs.toArray) (hi : IntsAre vs ns) (hn : ns.length ≤ 63) (m3 : (ea, listOf ve.toArray ne) ∈ Rl) (h7 : ∀ i, i < 5 → ve[i]? = some (.bool (ev i))) (hfr : fr ≤ 2) (hR : ∀ x ∈ R0, x ∈ Rl) :
  WA Ψ (execs (fn551.body.drop 5) Ψ.env) (fun f _ l => f = .ret (.bool true) ∧ ∀ x ∈ R0, x ∈ l) (some (.ref sl) :: some (.int sv ts) :: some (.int fr tf) :: o3 :: o4 :: o5 :: some (.ref ea) :: o7 :: o8 :: o9 :: o10 :: o11 :: o12 :: o13 :: o14 :: o15 :: some (.int nb tnb) :: o17 :: o18 :: o19 :: o20 :: o21 :: o22 :: o23 :: o24 :: o25 :: o26 :: o27 :: o28 :: o29 :: o30 :: o31 :: o32 :: o33 :: o34 :: []) ((ct, ot0) :: (cl, ol) :: (cn, on) :: Rl) := by
 have hh := hr.hh
 dsimp only [fn551, mkFn, List.drop]
 (ctx_mentions Ua Xa)
 refine Mine.L.list rfl ?_; intro _
 (ctx_mentions Yl Yc Yl Yc Yl Yc Yl Yc Yl Yc Zh)
 refine Qaf (M := []) (Qac (n := 5) (by kd_p)) fun wl => ?_
 (ctx_mentions Vc Zb Ua Xa)
 refine Mine.L.list rfl ?_; intro _
 (ctx_mentions Zh)
 refine Qaf (M := []) (vs := []) (Qac (n := 0) (by kd_p)) fun oa => ?_
 (ctx_mentions Vc Zb Ua ZA)
 let J : Nat → Vals → Led → Prop := fun m vals' l' => Ex10 fun (xs vo : List Value) (rest od : List Int) (n no : Nat) (x_number x_size : Option Value) (nb : Int) (tnb : Tok) => An7 (m = rest.length) (IntsAre xs rest) (IntsAre vo od) ((od ++ rest).Perm U0) (x_number = some (.int nb tnb)) (vals' = (some (.ref sl) :: some (.int sv ts) :: some (.int fr tf) :: o3 :: o4 :: o5 :: some (.ref ea) :: some (.ref oa) :: o8 :: o9 :: o10 :: o11 :: o12 :: o13 :: o14 :: o15 :: x_number :: o17 :: o18 :: o19 :: o20 :: o21 :: o22 :: o23 :: o24 :: o25 :: o26 :: o27 :: o28 :: o29 :: o30 :: o31 :: some (.ref wl) :: x_size :: o34 :: [])) (l' = (oa, listOf vo.toArray no) :: (wl, listOf xs.toArray n) :: (ct, ot0) :: (cl, ol) :: (cn, on) :: Rl)
 refine WC.inv J ?_ 5 ⟨_, _, U0, [], 0, 0, _, _, nb, tnb, rfl, .cons _ _ (.cons _ _ (.cons _ _ (.cons _ _ (.cons _ _ .nil)))), .nil, .refl _, rfl, rfl, rfl⟩
 rintro m _ _ ⟨xs, vo, rest, od, n, no, x_number, x_size, nb, tnb, hm, hxs, hvo, hp, rfl, rfl, rfl⟩ again
 refine Mine.WC.letV ?_; intro vv
 have hxl := Qai hxs
 have hol := Qai hvo
 have hpl := hp.length_eq
 rw [List.length_append] at hpl
 simp only [U0, List.length_cons, List.length_nil] at hpl
 refine WC.while1 ?_
 (ctx_mentions Xi Va)
 refine Qmj (vs := xs) (.tail _ (.head _)) (by exact Qsl hxl hpl) ?_
 by_cases hr0 : rest = []
 ·subst hr0
  have : xs = [] := List.length_eq_zero_iff.mp hxl
  subst this
  rw [show (!([] : List Value).isEmpty) = false from rfl]
  refine Ma rfl (Za (Zb ?_))
  have O := Qv0 hp
  refine WA.sublist ([(oa, listOf vo.toArray no)] ++ ([(ct, ot0), (cl, ol), (cn, on)] ++ Rl)) (sB (sD)) ?_
  refine WA.perm ([(ct, ot0), (cl, ol), (cn, on)] ++ ([(oa, listOf vo.toArray no)] ++ Rl)) (List.perm_append_comm_assoc _ _ _) ?_
  exact segK hr H hdn hdl hd0 hS hi hn (Qpt O hvo (.head _) (.tail _ m3) h7) O.plc5 O.plc_inj5 O.sur5 hfr fun x hx => .tail _ (hR x hx)
 ·have hrl : 0 < rest.length := List.length_pos_iff.mpr hr0
  have : (!xs.isEmpty) = true := by
   cases xs with
   | nil => rw [List.length_nil] at hxl; omega
   | cons _ _ => rfl
  rw [this]
  (ctx_mentions Mb Ua Xa Fb Pa Yo Vb Zh)
  refine Qmr (vs := xs) (n := n) (.tail _ (.head _)) (by exact Qsl hxl hpl) fun tsz => ?_
  rw [hxl]
  (ctx_mentions Vc Zb Ua Xd Fa Va)
  refine Qes (vs := vo) (n := no) (.head _) PySem.F.slot_list_append PySem.F.type_list_append ?_
  (ctx_mentions Yn Yl Fa Va)
  refine Qes (vs := xs) (n := n) (.tail _ (.head _)) PySem.F.slot_list_pop PySem.F.type_list_pop ?_
  (ctx_mentions Yn Yl Ye Va Va)
  refine Qbi (by exact Qqj hrl) fun tmd => ?_
  obtain ⟨k, hk, ek⟩ := Qcu (a := nb) (n := rest.length) hrl
  rw [ek]
  obtain ⟨tx, hx⟩ := Qap hxs (List.getElem?_eq_getElem hk)
  (ctx_mentions Zh)
  refine Qmq (pre := [(oa, listOf vo.toArray no)]) (vs := xs) (n := n) (k := k) rfl rfl (by exact Qxs hpl hk) hx (by exact Qxr hxl hpl) fun n' => ?_
  have hp2 : ((od ++ [rest[k]]) ++ rest.eraseIdx k).Perm U0 := by
   rw [List.append_assoc]
   exact (List.Perm.append_left od (Qay hk)).trans hp
  (ctx_mentions Zh)
  refine Qbn (pre := []) (vs := vo) (n := no) rfl (by exact Qxq hol hpl) ?_
  (ctx_mentions Zb Ua Xa Ye Va Va)
  refine Qck (by exact Qxp hk) (PyProof.noPylong_small (by exact Qxo hpl)) fun tq => ?_
  (ctx_mentions Vc Zb Za Zu)
  exact again (rest.eraseIdx k).length _ _ (by rw [List.length_eraseIdx_of_lt hk]; exact Qxn hm hk) ⟨xs.eraseIdx k, vo ++ [_], rest.eraseIdx k, od ++ [rest[k]], n', _, _, _, _, _, rfl, Qka hxs k, Qce hvo (.cons _ _ .nil), hp2, rfl, rfl, rfl⟩
end
end
section
section
theorem Qxb (e : Env) (h : e.cells = [(("name" : Str), cn), (("leans" : Str), cl), (("tool" : Str), ct), (("pattern" : Str), cp)]) : e.cells.lookup ("pattern" : Str) = some cp := by rw [h]; rfl
theorem Qh7 {elt iter : Expr} {x y z : Str} {px py pos spos : Pos} {scope : Scope} {e0 : Env} (hk : e0.scope.kind = .function) (hy : e0.kindOf y = some .local) (hp : (py.line == pos.line) = true)
  (hn : scope.names = [((".0" : Str), NameKind.local), (x, NameKind.local), (z, NameKind.free)]) (h1 : (((".0" : Str) == y) || (x == y)) = false) :
  swapsWith (.ListComp elt [⟨.Name x px, iter, [], 0⟩] scope pos) (some (.Name y py)) spos.line e0 = Pure.pure true := by
 have hb : e0.blockKind = .function := by unfold Env.blockKind; rw [hk]; rfl
 have hv : (scope.names.any fun (n, k) => n == y && (k == .local || k == .cell)) = false := by
  rw [hn]
  rw [Bool.or_eq_false_iff] at h1
  simp only [List.any_cons, List.any_nil, h1.1, h1.2]
  cases (z == y) <;> rfl
 unfold swapsWith
 show Pure.pure (e0.blockKind == .function && e0.kindOf y == some .local && py.line == pos.line && !(scope.names.any fun (n, k) => n == y && (k == .local || k == .cell))) = _
 rw [hb, hy, hp, hv]
 rfl
theorem segM {Ψ : Frm hK NL W} {cn cl ct cp : Addr} {R0 : Led} (hr : Room Ψ.A 30) (H : L6 Ψ cn cl ct cp) {on ol ot0 op0 : Obj} {sl : Addr} {vs : List Value} {ns : List Int} (hdn : on.data = .cell none) (hdl : ol.data = .cell none) (hd0 : ot0.data = .cell none) (hdp : op0.data = .cell none)
  (hS : Ψ.h.IsList sl vs.toArray) (hi : IntsAre vs ns) (hn : ns.length ≤ 63) :
  WA Ψ (execs fn551.body Ψ.env) (fun f _ l => f = .ret (.bool true) ∧ ∀ x ∈ R0, x ∈ l) (some (.ref sl) :: none :: none :: none :: none :: none :: none :: none :: none :: none :: none :: none :: none :: none :: none :: none :: none :: none :: none :: none :: none :: none :: none :: none :: none :: none :: none :: none :: none :: none :: none :: none :: none :: none :: none :: []) ((cn, on) :: (cl, ol) :: (ct, ot0) :: (cp, op0) :: R0) := by
 have hh := hr.hh
 have hvl := Qai hi
 have hkp := H.k _ (.tail _ (.tail _ (.tail _ (.head _))))
 have hxp := Qxb Ψ.env H.cs
 refine WA.perm ((ct, ot0) :: (cl, ol) :: (cn, on) :: (cp, op0) :: R0) ((List.Perm.swap _ _ _).trans ((List.Perm.cons _ (List.Perm.swap _ _ _)).trans (List.Perm.swap _ _ _))) ?_
 dsimp only [fn551, mkFn]
 (ctx_mentions Ua Xa Fb Pa Yo Vb Zh)
 refine Qq6 hh hS hi fun sv ts => ?_
 (ctx_mentions Vc Zb Ua Xa Ye Ye Ye Va Yc)
 refine Qb7 (IntMulOk.of_right (intBits_le_64 (by kd_p) (by kd_p))) fun _ => ?_
 (ctx_mentions Yc Yq Yc)
 refine Qbi (by decide) fun tp => ?_
 obtain ⟨pt, hpt, ept⟩ := Qcu (a := sv * 11 + 9) (n := 32) (by kd_p)
 rw [show Int.fmod (sv * 11 + 9) 32 = (pt : Int) from ept]
 refine Qc7 (pre := [(ct, ot0), (cl, ol), (cn, on)]) (post := R0) hkp hxp rfl hdp fun op hdp' => ?_
 (ctx_mentions Zb Ua)
 refine Qku (cl := [("pattern", cp)]) (Qh7 Ψ.e.kind (Ψ.sc.loc "every" (by simp)).1 rfl rfl rfl) (Qcg rfl hxp) rfl (by decide) (by decide) [] (Qgn rfl Ψ.e.kind hkp (by kcf_m) (by kcf_m)) ?_ (by intro _; with_unfolding_all rfl)
 (ctx_mentions Fb Pa Yp Yl Yc Zh)
 refine Qd0 (M := []) fun rg t1 t2 => ?_
 refine Qau (M := []) (.head _) (by decide) fun it => ?_
 refine Qaf (M := []) (vs := []) (Qac (n := 0) (by kd_p)) fun acc => ?_
 intro Ψ2 he2 ha2
 refine ⟨?_, Qbz (.tail _ (.head _)) ⟨rfl, rfl, rfl⟩⟩
 have hck2 : Ψ2.env.kindOf "pattern" = some .cell := by rw [he2]; exact Qdu (y := "place") rfl Ψ.e.kind hkp (by kcf_m)
 have hlk2 : Ψ2.env.cells.lookup ("pattern" : Str) = some cp := by rw [he2]; rfl
 refine Qe7 (M := []) (n := 5) (Rr := fun i y => y = Value.bool (pt.testBit i)) Src.range (by rw [ha2]; exact hh) (by kd_p) (by simp) ⟨Nat.zero_le _, rfl⟩ .here (fun i v l' Q' hi5 hP hl' q' => ?_) fun ys k v hlen hys => ?_
 ·obtain ⟨t, rfl⟩ := hP
  (ctx_mentions Xe Ye Ye)
  refine Qao Ψ2.e.kind hck2 hlk2 (o := op) (hl' _ (.tail _ (.tail _ (.tail _ (.tail _ (.head _)))))) hdp' (by decide) ?_
  (ctx_mentions Ye Yc Va)
  refine Qa8 (by exact Qdc) (by exact Qkh hi5) fun _ => ?_
  refine Qck (by have := Int.pow_pos (n := 2) (m := ((i : Int)).toNat) (by decide); exact Qod this) (Qc0 _ _ (by exact Qqi hi5)) fun _ => ?_
  (ctx_mentions Yc)
  refine Qbi (by decide) fun _ => ?_
  (ctx_mentions Yc Zj)
  rw [Qgq]
  exact q' _ rfl
 ·have h7 : ∀ i, i < 5 → ys[i]? = some (.bool (pt.testBit i)) := fun i hi5 => by
   have h := List.getElem?_eq_getElem (by exact Qxm hlen hi5 : i < ys.length)
   rw [h, hys i _ h]
  refine ⟨(acc, listOf ys.toArray k) :: (ct, ot0) :: (cl, ol) :: (cn, on) :: (cp, op) :: R0, ?i9, sB (sD), ?h9, ?g9, ?_⟩
  case h9 => ((repeat (first | (with_reducible exact NmI.here) | ((with_reducible refine NmI.next (i := ?_) ?_); rotate_left))); done)
  case g9 => first | (dsimp (config := {zetaDelta := true}) only [vget, vset, vhas]; with_unfolding_all exact rfl) | with_unfolding_all exact rfl
  (ctx_mentions Zb Ua Xa Ye Ye Ye Va Yc)
  refine WA.fdiv (by decide) (by decide) fun _ => ?_
  (ctx_mentions Fb Pa Yo Vb Zh)
  refine Qmu hS (by exact Qsk hn hvl) fun _ => ?_
  (ctx_mentions Yq Yc)
  refine Qbi (by decide) fun tf => ?_
  obtain ⟨fr, hfr, efr⟩ := Qcu (a := Int.fdiv sv 32 + (vs.length : Int)) (n := 3) (by kd_p)
  rw [show Int.fmod (Int.fdiv sv 32 + (vs.length : Int)) 3 = (fr : Int) from efr]
  (ctx_mentions Vc Zb Ua Xa Ye Ye Va Yc)
  refine WA.fdiv (by decide) (by decide) fun _ => ?_
  (ctx_mentions Ye Yc Fb Pa Yo Vb Zh)
  refine Qmu hS (by exact Qsk hn hvl) fun _ => ?_
  refine Qb7 (IntMulOk.of_left (intBits_le_64 (by kd_p) (by kd_p))) fun _ => ?_
  (ctx_mentions Yq Vc Zb)
  refine WA.perm ((ct, ot0) :: (cl, ol) :: (cn, on) :: (acc, listOf ys.toArray k) :: (cp, op) :: R0) (List.perm_middle (l₁ := [(ct, ot0), (cl, ol), (cn, on)])) ?_
  exact segL hr H hdn hdl hd0 hS hi hn (.head _) h7 (by exact Qxl hfr) fun x hx => .tail _ (.tail _ hx)
end
end
end Mine
end
section
namespace Mine
theorem Qqb {sl : Value} : bindL (fun x => fn551.fd.scope.names.lookup x) [(("script" : Str), sl)] (fun _ => none) = fr NL.loc (some sl :: List.replicate 34 none) := by
 rw [Qbt (sc551.loc _ (.head _)).1]
 funext x
 show (if x = _ then some sl else none) = _
 rw [show NL.loc = ("script" : Str) :: NL.loc.tail from rfl]
 simp only [fr]
 split
 ·rfl
 ·exact (Qdt _ _ _).symm
theorem roomC {env : Env} : Room (callerA.deeper env) 30 := Room.deeper (n := 30) ⟨rfl, by decide, by decide⟩
/-- the law's body, entered -/
theorem Qr4 {prog : Program} {w : World} {p : Program} {lo : List Str} {mg mb : Loc} {gh : Heap} {L : Nat} {sl : Addr} {vs : List Value} {ns : List Int} {A : Around} {env : Env} {w0 w1 w2 w3 : Obj} {s : Shared} {m : Str → Option Value}
  {P : Flow → Shared → Prop} {E : Value → Shared → Prop} (X : (hK w.params).In gh) (T : TopRead p lo mg mb gh) (e1 : env.locals = L) (e2 : env.scope = fn551.fd.scope) (e3 : env.globals = mainGlobals) (e4 : env.builtins = builtinsNs)
  (e5 : env.cells = [(("name" : Str), L + 1 + 1 + 1 + 1), (("leans" : Str), L + 1 + 1 + 1), (("tool" : Str), L + 1 + 1), (("pattern" : Str), L + 1)]) (hr : Room A 30) (hm : m = fr NL.loc (some (.ref sl) :: List.replicate 34 none)) (F : Fr gh L s.heap m) (N : News gh L s.heap [(L + 1 + 1 + 1 + 1, w3), (L + 1 + 1 + 1, w2), (L + 1 + 1, w1), (L + 1, w0)]) (l0 : gh.objs.size ≤ L)
  (hd0 : w0.data = .cell none) (hd1 : w1.data = .cell none) (hd2 : w2.data = .cell none) (hd3 : w3.data = .cell none) (hS : gh.IsList sl vs.toArray) (hi : IntsAre vs ns) (hn : ns.length ≤ 63)
  (k : ∀ s' m' l', Same s s' → Fr gh L s'.heap m' → News gh L s'.heap l' → P (.ret (.bool true)) s') : wpAny (model prog w) A (execs fn551.body env) P E s := by
 subst hm
 have l2 : 2 < L := Nat.lt_of_lt_of_le (Heap.lt_size (X 2 _ rfl)) l0
 let Ψ : Frm hK NL ⟨prog, w, p, lo, mg, mb⟩ := ⟨gh, L, X, T, A, env, ⟨e1, by rw [e2]; rfl, e3, e4⟩, by rw [e2]; exact sc551⟩
 have hk : ∀ x, env.kindOf x = fn551.fd.scope.names.lookup x := fun x => by show env.scope.names.lookup x = _; rw [e2]
 refine WA.use (Ψ := Ψ) (segM (Ψ := Ψ) (R0 := []) hr ⟨fun x hx => (hk x).trans (Qxe x hx), e5⟩ hd3 hd2 hd1 hd0 hS hi hn) ⟨F, N, ?_, ?_⟩ ?_
 ·simp only [List.map_cons, List.map_nil, List.nodup_cons, List.mem_cons, List.not_mem_nil, or_false, not_or, not_false_eq_true, List.nodup_nil, and_true]
  refine ⟨⟨?_, ?_, ?_⟩, ⟨?_, ?_⟩, ?_⟩ <;> (intro h; have h : (_ : Nat) = _ := h; omega)
 ·intro x hx
  simp only [List.mem_cons, List.not_mem_nil, or_false] at hx
  rcases hx with rfl | rfl | rfl | rfl <;> simp only <;> (show (2 : Nat) < _; omega)
 ·rintro v s' vals' l' S a ⟨rfl, hl⟩
  exact k s' _ l' S a.F a.N
namespace law06
def tw15479613073928094352:=Nat
def tw15029565160587050182:=Nat
def tw11160412800876005209:=Nat
def tw17750830632009323041:=Nat
def tw2998830754805576957:=Nat
def tw2016565272823521134:=Nat
def tw5668342302839363340:=Nat
def tw12352171532448812669:=Nat
def tw441665851432432075:=Nat
def tw1303965207435100525:=Nat
def tw8744004106202862682:=Nat
def tw18311258493850801883:=Nat
def tw5924256599846833614:=Nat
def tw3345927796996200949:=Nat
def tw8738715711066887109:=Nat
def tw6637388544401140550:=Nat
def tw289243199417367101:=Nat
def tw9237269265778394384:=Nat
def tw4495669629359170622:=Nat
def tw70512031380996880:=Nat
def tw9626381018697013539:=Nat
def tw8327502372150914891:=Nat
def tw12860731352540705122:=Nat
def tw2392573165416864238:=Nat
def tw11230038322007938362:=Nat
def tw3218168106543525457:=Nat
def tw10211028425819272213:=Nat
def tw1660676969766942827:=Nat
def tw11467752577716571126:=Nat
def tw13906951700445718891:=Nat
def tw11905030600697628549:=Nat
def tw4162138911383292051:=Nat
def tw6399720628652195335:=Nat
def tw4262270568495625789:=Nat
def tw16635785426515676852:=Nat
def tw1230434307825290242:=Nat
def tw2335265081368479213:=Nat
def tw2389896617758366168:=Nat
def tw2392022148278062316:=Nat
def tw3874587922461634829:=Nat
def tw7596685497637587330:=Nat
def tw999629830277880128:=Nat
def tw7541482669246698681:=Nat
def tw10351548816300415827:=Nat
def tw491898339658665566:=Nat
def tw14817796836142754964:=Nat
def tw8131700805012373163:=Nat
def tw9820994099446868840:=Nat
def tw1849839479790457016:=Nat
def tw13407009370048578467:=Nat
def tw2056703809284703393:=Nat
def tw5295227370561672216:=Nat
def tw1879787506264295870:=Nat
def tw3237643558296771359:=Nat
def tw2702446203171585764:=Nat
def tw9342954090519753925:=Nat
def tw12823994000183342453:=Nat
def tw13016966094878847964:=Nat
def tw10912132710865918159:=Nat
def tw18056125750340861724:=Nat
def tw11731955509335948006:=Nat
def tw12920171748522255073:=Nat
def tw3269095484869750730:=Nat
def tw8142419402157584065:=Nat
def tw6828839694505016253:=Nat
def tw3194658166220257739:=Nat
def tw12399764881423828675:=Nat
def tw17415599615943388192:=Nat
def tw17732381859154177457:=Nat
def tw7711948704967762788:=Nat
def tw8123341737673980055:=Nat
def tw13122262619950178938:=Nat
def tw11380285621899729103:=Nat
def tw7149911760682124149:=Nat
def tw13579903990449105116:=Nat
def tw14851631557099714317:=Nat
def tw13372874219845466398:=Nat
def tw14256355517431330490:=Nat
def tw3297588236084248405:=Nat
def tw11532766047151269466:=Nat
def tw3040328879410024852:=Nat
def tw12742140185410352266:=Nat
def tw152369428407055494:=Nat
def tw3195577519659672315:=Nat
def tw7511930317399979102:=Nat
def tw18043508030248122980:=Nat
def tw6792063216834446286:=Nat
def tw842375882037572591:=Nat
def tw1552230702551722462:=Nat
def tw11446806224180836440:=Nat
def tw14059202844673975411:=Nat
def tw7564797957831573694:=Nat
def tw8199693152084532698:=Nat
def tw18252867646907810980:=Nat
def tw12217673479603481748:=Nat
def tw6421828685174623966:=Nat
def tw17196294188937014026:=Nat
def tw11961595158765410190:=Nat
def tw6662749824816624738:=Nat
def tw1153375648728405498:=Nat
def tw11131772044852244965:=Nat
def tw17690914172121987693:=Nat
def tw4090570956181221365:=Nat
def tw12335495270605607446:=Nat
def tw8320032865677826969:=Nat
def tw2809363670849055104:=Nat
def tw9720043008955736652:=Nat
def tw502665345693648120:=Nat
def tw14194697121395642479:=Nat
def tw18089727688664454479:=Nat
def tw12096012697734927074:=Nat
def tw16946468740021840918:=Nat
def tw9018556738833805270:=Nat
def tw15745277000250444162:=Nat
def tw10240010048565072262:=Nat
def tw17195826106195509900:=Nat
def tw9617271546825597684:=Nat
def tw14781566762393538886:=Nat
def tw261740940193020370:=Nat
def tw4170157275705318473:=Nat
def tw1563699777305401536:=Nat
def tw15814958003255469955:=Nat
def tw3290772737941242024:=Nat
def tw11689491894329759603:=Nat
def tw4697323584154824809:=Nat
def tw8315548622247072111:=Nat
def tw14234074125952353437:=Nat
def tw4095265118275107678:=Nat
def tw12617771772473476369:=Nat
def tw16013827357356982351:=Nat
def tw14098608684172329621:=Nat
def tw17182193800734481204:=Nat
def tw11608361668856044721:=Nat
def tw9297712865412489296:=Nat
def tw15771152543539473113:=Nat
def tw5602458404705553410:=Nat
def tw1780248271111416706:=Nat
def tw7678505842637277616:=Nat
def tw16945489244062930298:=Nat
def tw8175218159428863417:=Nat
def tw3026801446458550622:=Nat
def tw3227871812167954938:=Nat
def tw442050025365436174:=Nat
def tw18003506002985199481:=Nat
def tw12152244977445505628:=Nat
def tw15443070963195802754:=Nat
def tw3416757346462858007:=Nat
def tw2615415571023334838:=Nat
def tw13264532916271837555:=Nat
def tw14534124462706414898:=Nat
def tw942964252598939840:=Nat
def tw4978473295428079410:=Nat
def tw13195751298823587620:=Nat
def tw15289479169989259281:=Nat
def tw14658797953401180920:=Nat
def tw17882586531623195232:=Nat
def tw7455005777507877972:=Nat
def tw16919991228618131816:=Nat
def tw644114445231264016:=Nat
def tw17945552596881868025:=Nat
def tw1951492475427136453:=Nat
def tw3499573289448420345:=Nat
def tw4723534281930359829:=Nat
def tw412020666136289816:=Nat
def tw4296618403110233985:=Nat
def tw1368297356673624375:=Nat
def tw11453088240295562111:=Nat
def tw15680009518811190238:=Nat
def tw7932010400790293111:=Nat
def tw13802807264954381712:=Nat
def tw14644525078262399032:=Nat
def tw7629139579094702868:=Nat
def tw7434674740520797670:=Nat
def tw7552105441544340750:=Nat
def tw4520854414563697617:=Nat
def tw16679615439472363256:=Nat
def tw2041299115821964546:=Nat
def tw2547033581784485493:=Nat
def tw13000288152280767568:=Nat
def tw6734999325570668452:=Nat
def tw8824491129205197550:=Nat
def tw7841128476731148397:=Nat
def tw6303388080928482415:=Nat
def tw3339586593611257935:=Nat
def tw18292303180855339316:=Nat
def tw9783353861908222792:=Nat
def tw13488193292180903564:=Nat
def tw6619955561616700148:=Nat
def tw18409799096332090495:=Nat
def tw3595902474880722708:=Nat
def tw1943096800052217722:=Nat
def tw17736561517045134088:=Nat
def tw3918535858827137873:=Nat
def tw3899498232822923576:=Nat
def tw4908364014334245114:=Nat
def tw5507674920002512704:=Nat
def tw8815140514384870170:=Nat
def tw1333302793198734261:=Nat
def tw8546197308580475892:=Nat
def tw14069041084927350808:=Nat
def tw6914308983211795409:=Nat
def tw3849648802191081376:=Nat
def tw5140350109990006647:=Nat
def tw17769953681960685389:=Nat
def tw4310682114147453021:=Nat
def tw2036887449899603860:=Nat
def tw10812738953575201377:=Nat
def tw33087220629810867:=Nat
def tw15059218518781694852:=Nat
def tw13516676908057851727:=Nat
def tw6649458057492017493:=Nat
def tw12428471993188688755:=Nat
def tw1381627870902058679:=Nat
def tw12171076782628768019:=Nat
def tw5365410784501422502:=Nat
def tw10748782856098163296:=Nat
def tw2569150240583495573:=Nat
def tw5305858240185550604:=Nat
def tw16793875469815466339:=Nat
def tw17889999878913289279:=Nat
def tw11592986730488060739:=Nat
def tw17524761973499688775:=Nat
def tw12146141405902767597:=Nat
def tw8415841286567811023:=Nat
def tw9170673277644801091:=Nat
def tw13744376929592070038:=Nat
def tw16960909229644280581:=Nat
def tw7720089266883637215:=Nat
def tw7198607354975165393:=Nat
def tw8415878320778556568:=Nat
def tw2717225811263651396:=Nat
def tw1857344549794076775:=Nat
def tw2068203640203055999:=Nat
def tw3610984208992657285:=Nat
def tw1458014701170641648:=Nat
def tw9654455021626361972:=Nat
def tw8096285123040378605:=Nat
def tw4990017490391036547:=Nat
def tw8229186836222822782:=Nat
def tw5099317948095931961:=Nat
def tw4732035402653633454:=Nat
def tw16706560762424489968:=Nat
def tw11298634486430462193:=Nat
def tw18251192718330058467:=Nat
def tw573386431155027626:=Nat
def tw1373061776908922438:=Nat
def tw17980744600102971146:=Nat
def tw8235982013636551183:=Nat
def tw6337339414602605737:=Nat
def tw736872865250410475:=Nat
def tw12267820052493549542:=Nat
def tw467662201683026782:=Nat
def tw9085282583397791699:=Nat
def tw15913534209604425355:=Nat
def tw11448520233149821178:=Nat
def tw15486239121350629216:=Nat
def tw9024126077640247081:=Nat
def tw14519330046626284374:=Nat
def tw11909342690463920726:=Nat
def tw11623505287289620365:=Nat
def tw16920550370902005315:=Nat
def tw16198584444940456826:=Nat
def tw509962738151871923:=Nat
def tw16228538826716848093:=Nat
def tw3913839621269970686:=Nat
def tw3753681128191472079:=Nat
def tw3193875348177957261:=Nat
def tw251113243681550505:=Nat
def tw15432543585087069937:=Nat
def tw11184899382629357948:=Nat
def tw880111211377956748:=Nat
def tw1578981137525152255:=Nat
def tw15831681443509063796:=Nat
def tw1151626060273726619:=Nat
def tw68324396513974110:=Nat
def tw8722022734551237238:=Nat
def tw4866252722800801098:=Nat
def tw14221596380361713192:=Nat
def tw9169670822397177034:=Nat
def tw1167417150921981160:=Nat
def tw15315266912306052952:=Nat
def tw15381333394552467689:=Nat
def tw7293267391957315227:=Nat
def tw16483551791582976328:=Nat
def tw5584941931362169745:=Nat
def tw2671022906694926846:=Nat
def tw18098782267424760102:=Nat
def tw14057392058311852260:=Nat
def tw14397603131624506128:=Nat
def tw17760311316690068072:=Nat
def tw5880105041589097941:=Nat
def tw17576086654342484264:=Nat
def tw7374809100135573230:=Nat
def tw16262466520030299417:=Nat
def tw7073248683905513764:=Nat
def tw7078596413436895558:=Nat
def tw12534704686228913209:=Nat
def tw2266135832624756467:=Nat
def tw711956280577604530:=Nat
def tw1689663778717074585:=Nat
def tw4367727510349798235:=Nat
def tw4411724379714026075:=Nat
def tw6164215400935088634:=Nat
def tw14996214782094095850:=Nat
def tw1068296635647739310:=Nat
def tw555477583461110184:=Nat
def tw2860167615169572804:=Nat
def tw2391172850494049854:=Nat
def tw9099146794732300035:=Nat
def tw6168546151015596220:=Nat
def tw15456225860600959548:=Nat
def tw15013983715091628636:=Nat
def tw5826157136846971480:=Nat
def tw1193740157327086288:=Nat
def tw6110498900384625654:=Nat
def tw7535941125490847743:=Nat
def tw4174289652319207948:=Nat
def tw3767521944493867042:=Nat
def tw12028853185478906689:=Nat
def tw4342865378423801700:=Nat
def tw10100024285190960772:=Nat
def tw17862183343215258203:=Nat
def tw14246460024022959277:=Nat
def tw8747297839273982231:=Nat
def tw16073488725011597465:=Nat
def tw6560917726025005765:=Nat
def tw16892349540585503776:=Nat
def tw11504231663653656191:=Nat
def tw10763685280956544775:=Nat
def tw10604845034448493662:=Nat
def tw2854729145981633330:=Nat
def tw14357478899288665932:=Nat
def tw11502713555417712306:=Nat
def tw6511830289949920287:=Nat
def tw9755875011308887769:=Nat
def tw3270128451211041936:=Nat
def tw15495510179290061244:=Nat
def tw8880920792125388301:=Nat
def tw4390300966348242518:=Nat
def tw4023143479572128703:=Nat
def tw1431198777815255655:=Nat
def tw4378761058148355947:=Nat
def tw4671179785710384462:=Nat
def tw14048990611888359971:=Nat
def tw17812450173675428302:=Nat
def tw4704071637341382886:=Nat
def tw9278489474901386434:=Nat
def tw6651143515069280407:=Nat
def tw10772988354707931267:=Nat
def tw2626232259611977180:=Nat
def tw2587377088339087447:=Nat
def tw13072069819724174392:=Nat
def tw8702070902392389676:=Nat
def tw6305573510173919896:=Nat
def tw5153185076485803413:=Nat
def tw8328739412069031731:=Nat
def tw4941990154003582603:=Nat
def tw12301878208039664261:=Nat
def tw12104059407736212396:=Nat
def tw6602382495487827211:=Nat
def tw138633037775440248:=Nat
def tw3413739114460210059:=Nat
def tw11531009855445300380:=Nat
def tw3678048447360180587:=Nat
def tw16885921777445407735:=Nat
def tw5549780654783365952:=Nat
def tw9266049240282456403:=Nat
def tw15704566035568408909:=Nat
def tw3824540133893372514:=Nat
def tw16558093095824603747:=Nat
def tw7251179682972322869:=Nat
def tw1757309626457903792:=Nat
def tw8021621735487618343:=Nat
def tw12672462515149844206:=Nat
def tw10456983697186453156:=Nat
def tw3039028688351875457:=Nat
def tw2533585183535574309:=Nat
def tw6938161791368813329:=Nat
def tw16479833041720763191:=Nat
def tw7890123052363172017:=Nat
def tw17519418333744787399:=Nat
def tw3101583110848392665:=Nat
def tw15280576400664153188:=Nat
def tw7920535365983961637:=Nat
def tw12544651236995166122:=Nat
def tw8257301219428622345:=Nat
def tw5630203480102823450:=Nat
def tw14714255719434862076:=Nat
def tw4049708568235017726:=Nat
def tw15937800628019532329:=Nat
def tw11255924490100451523:=Nat
def tw9134089097300904810:=Nat
def tw12723040193728793987:=Nat
def tw11170239124279128859:=Nat
def tw10187075543219485386:=Nat
def tw6381811465370947260:=Nat
def tw3608536312229120985:=Nat
def tw8732480557124884986:=Nat
def tw11157578721426073540:=Nat
def tw1769475255282917756:=Nat
def tw5056873448529574403:=Nat
def tw17149962869260555707:=Nat
def tw103966870754392068:=Nat
def tw14522694657879232227:=Nat
def tw5168562678174160238:=Nat
def tw12618914045062436933:=Nat
def tw5958590794519657490:=Nat
def tw462958471485622783:=Nat
def tw4872716164160866710:=Nat
def tw18194483676091564473:=Nat
def tw8930349883976126680:=Nat
def tw2554606259152005768:=Nat
def tw4164753876941044278:=Nat
def tw12650919201179275167:=Nat
def tw5435111835148196975:=Nat
def tw4801090837527140544:=Nat
def tw4650096930410556266:=Nat
def tw16523634626587103777:=Nat
def tw4025550523369397860:=Nat
def tw12716006735135984637:=Nat
def tw7308835037102112361:=Nat
def tw17333825396626487478:=Nat
def tw12423968448228023514:=Nat
def tw7717127035698248865:=Nat
def tw15590210503881109498:=Nat
def tw11368201132372826688:=Nat
def tw8381484807342128576:=Nat
def tw11389084924499868452:=Nat
def tw1328139160679152985:=Nat
def tw1104088480710794772:=Nat
def tw891679996612023342:=Nat
def tw4958187345595183593:=Nat
def tw4048938902268944564:=Nat
def tw5265279331569137696:=Nat
def tw9541410198724951079:=Nat
def tw9172504194316166577:=Nat
def tw7896030766350373084:=Nat
def tw5113795049075115906:=Nat
def tw13433133405411231342:=Nat
def tw7233811085324371377:=Nat
def tw12832417837298092025:=Nat
def tw17354238802925391598:=Nat
def tw7988941841818155998:=Nat
def tw3134850235432222574:=Nat
def tw15148227572276015076:=Nat
def tw6344903521507126615:=Nat
def tw17116456921211684217:=Nat
def tw512386239505681964:=Nat
def tw14230825671915386153:=Nat
def tw4262628472529786653:=Nat
def tw16526132696948249104:=Nat
def tw9546739744540622540:=Nat
def tw13221090800755683871:=Nat
def tw14795879129651248378:=Nat
def tw14363835237737595505:=Nat
def tw4192348830025012458:=Nat
def tw14404093937082798020:=Nat
def tw13603835417079406890:=Nat
def tw11340251907045135498:=Nat
def tw1971473901495673940:=Nat
def tw9892764417199506714:=Nat
def tw4084329811833651431:=Nat
def tw6584150477689610107:=Nat
def tw882747237959399053:=Nat
def tw7484012163756682944:=Nat
def tw13430755724892421522:=Nat
def tw1641384492762845361:=Nat
def tw12170123352246965230:=Nat
def tw2090634404173120110:=Nat
def tw15027045134494017718:=Nat
def tw2380552938576159444:=Nat
def tw2127159936166608293:=Nat
def tw1926265993391406314:=Nat
def tw3558128825572522405:=Nat
def tw7047684217416800537:=Nat
def tw5188233333415613640:=Nat
def tw14081275686985005843:=Nat
def tw9858896116857745816:=Nat
def tw11826850671217836296:=Nat
def tw2332898500069090943:=Nat
def tw11553389797702447003:=Nat
def tw12310684522067387659:=Nat
def tw13592411568113703168:=Nat
def tw4193520287762424231:=Nat
def tw17587171155523263234:=Nat
def tw1279101699452323452:=Nat
def tw15711820592665236661:=Nat
def tw10941674749079123719:=Nat
def tw6208973218467150001:=Nat
def tw18394129917576971881:=Nat
def tw10925352741187108991:=Nat
def tw12161571914850540121:=Nat
def tw8565393569664186791:=Nat
def tw4226629596874917300:=Nat
def tw7325738107611202504:=Nat
def tw4850884339627605373:=Nat
def tw5575589938884887825:=Nat
def tw7391004060658913644:=Nat
def tw2859928822632559772:=Nat
def tw10376231029752899692:=Nat
def tw15988444652683587870:=Nat
def tw5617694031604709510:=Nat
def tw9204371219306573316:=Nat
def tw8906528753742879808:=Nat
def tw4877855553606855154:=Nat
def tw5923643660678378630:=Nat
def tw1345598163534300893:=Nat
def tw4755727189380219597:=Nat
def tw17803836569982854376:=Nat
def tw13204622496490571106:=Nat
def tw15472407277690121091:=Nat
def tw2148041866605712247:=Nat
def tw9450095094189081912:=Nat
def tw8377909248157102307:=Nat
def tw16984949022682680610:=Nat
def tw1183486952639154653:=Nat
def tw16942439120974044636:=Nat
def tw16090913849246857529:=Nat
def tw9351926894604858312:=Nat
def tw1307684590558895851:=Nat
def tw418312451754384131:=Nat
def tw6428565591512498882:=Nat
def tw8730650018283771128:=Nat
def tw4596884600589690667:=Nat
def tw8244256604645787675:=Nat
def tw8300311873939941912:=Nat
def tw3467757089456009255:=Nat
def tw16089201726324331519:=Nat
def tw13830865539377307788:=Nat
def tw7425457176760137113:=Nat
def tw626859922793209245:=Nat
def tw1354826457529120832:=Nat
def tw9103535753526031592:=Nat
def tw9955101513760958123:=Nat
def tw8138015034418069778:=Nat
def tw7795666628374153384:=Nat
def tw2622818842186552418:=Nat
def tw14976112249554527835:=Nat
def tw13299159376611955107:=Nat
def tw9367714172116421093:=Nat
def tw15480685758484186988:=Nat
def tw16975597118205077524:=Nat
def tw1707652650421660575:=Nat
def tw7939660180795689553:=Nat
def tw17486664571006455081:=Nat
def tw198349163569095832:=Nat
def tw6535370148015831675:=Nat
def tw5559239437626821506:=Nat
def tw7861948324185290623:=Nat
def tw18220790847311412602:=Nat
def tw7854864901810709997:=Nat
def tw12689058612388824370:=Nat
def tw3895704219331635211:=Nat
def tw4139192537175106535:=Nat
def tw10675922347094577292:=Nat
def tw873557937941527495:=Nat
def tw17323142180115542226:=Nat
def tw288750290593136078:=Nat
def tw1588404705364243752:=Nat
def tw6404207885858436058:=Nat
def tw8408024470244679174:=Nat
def tw2418176540849360402:=Nat
def tw14235355785156224901:=Nat
def tw10634278758383018744:=Nat
def tw5196799300246703822:=Nat
def tw15492276756677153558:=Nat
def tw10974132902896926833:=Nat
def tw9279559781474946396:=Nat
def tw790761225346793753:=Nat
def tw11022833671382878158:=Nat
def tw16566686440300418831:=Nat
def tw14675592980025549436:=Nat
def tw17249408012124746392:=Nat
def tw18405061439672810611:=Nat
def tw16893813951532070468:=Nat
def tw12343169145474951124:=Nat
def tw11461281002261166269:=Nat
def tw2870783234055273863:=Nat
def tw1205234760540800075:=Nat
def tw6904221352147526387:=Nat
def tw7323372396793999519:=Nat
def tw14499958717684661950:=Nat
def tw12814114712129254575:=Nat
def tw1578345841447210187:=Nat
def tw9771838799559694282:=Nat
def tw16944969593801408712:=Nat
def tw454968958905097117:=Nat
def tw10814772914879430197:=Nat
def tw7743047726381963984:=Nat
def tw6997265066107494338:=Nat
def tw6692352852175848412:=Nat
def tw12425822605981083305:=Nat
def tw4463013111426926798:=Nat
def tw7350609643928393231:=Nat
def tw14132725432095541713:=Nat
def tw221700235285053834:=Nat
def tw13553449861609629858:=Nat
def tw7301883182506251448:=Nat
def tw7715412478611696114:=Nat
def tw2389115948668544688:=Nat
def tw7667391503414418471:=Nat
def tw2891574278719488619:=Nat
def tw15056611972925950322:=Nat
def tw5671971894542255777:=Nat
def tw16921343139937182827:=Nat
def tw3954156473043515368:=Nat
def tw18356159245413527757:=Nat
def tw16800622142599727052:=Nat
def tw5616241106122660985:=Nat
def tw4103653110271546669:=Nat
def tw14304028441566181680:=Nat
def tw4111835101354265756:=Nat
def tw1553620784399067349:=Nat
def tw12614012518481026193:=Nat
def tw17935308426479012014:=Nat
def tw3824814671894403654:=Nat
def tw3354696494381822755:=Nat
def tw4902677819728830527:=Nat
def tw15527832533015781786:=Nat
def tw2160172348603653728:=Nat
def tw16673301715728046870:=Nat
def tw14018034744232216943:=Nat
def tw13893048155232767876:=Nat
def tw16400516454122112396:=Nat
def tw12575837038743127309:=Nat
def tw8013800573511031578:=Nat
def tw14177906695431354445:=Nat
def tw10620707097236558622:=Nat
def tw17716034561062935260:=Nat
def tw10120688096647768974:=Nat
def tw8856669545784011073:=Nat
def tw17102055308178389638:=Nat
def tw13028544355072498931:=Nat
def tw11077133256358299805:=Nat
def tw12161238056562613798:=Nat
def tw352495610337870882:=Nat
def tw4137948443833768173:=Nat
def tw4413850289026772667:=Nat
def tw14692504703546763618:=Nat
def tw9995213088763443397:=Nat
def tw18131010802181010245:=Nat
def tw142354371515344629:=Nat
def tw9922319795052976183:=Nat
def tw9985920718173825174:=Nat
def tw939589030930467358:=Nat
def tw16374399983764549714:=Nat
def tw18299300243068387:=Nat
def tw16085570625868182661:=Nat
def tw4243783243913791595:=Nat
def tw11778023137462886929:=Nat
def tw4770589153525986577:=Nat
def tw16293967583819944097:=Nat
def tw16170679496030730083:=Nat
def tw11644521345501428202:=Nat
def tw12021191130405548992:=Nat
def tw12726950232550803909:=Nat
def tw8664237358283294254:=Nat
def tw1909719815259997669:=Nat
def tw15464922708649113788:=Nat
def tw11781241798783923699:=Nat
def tw3084112920513884468:=Nat
def tw6371175852336524915:=Nat
def tw17713410312421097110:=Nat
def tw718176312160675697:=Nat
def tw1042382889623313280:=Nat
def tw12907899586013437984:=Nat
def tw13804021839751646415:=Nat
def tw12492009349311719990:=Nat
def tw14429355976023267515:=Nat
def tw3139942239107670008:=Nat
def tw12211930516061925846:=Nat
def tw16371625939974424151:=Nat
def tw10317557315872358104:=Nat
def tw11114963562496625490:=Nat
def tw2234765389427015443:=Nat
def tw10776360339000801181:=Nat
def tw6113556692764675799:=Nat
def tw2454406787059791863:=Nat
def tw1994637338191017396:=Nat
def tw4495248627560045283:=Nat
def tw4012265996943425458:=Nat
def tw10560188423524696119:=Nat
def tw16620602750785962476:=Nat
def tw13243351817609712630:=Nat
def tw2442205629333544578:=Nat
def tw47050911818119637:=Nat
def tw15936810453927505988:=Nat
def tw15858315218128970428:=Nat
def tw16457786009429753848:=Nat
def tw4530530069246733857:=Nat
def tw14026653003061389002:=Nat
def tw10017766342556606514:=Nat
def tw14446680561137678992:=Nat
def tw14255977248395397918:=Nat
def tw6106573728940684700:=Nat
def tw6974142213930968305:=Nat
def tw559051804636115929:=Nat
def tw7725461856461990023:=Nat
def tw5461132166906285058:=Nat
def tw16274076265535396938:=Nat
def tw2188776693710131965:=Nat
def tw7121223118324939797:=Nat
def tw2343672474617058785:=Nat
def tw5562348297914810961:=Nat
def tw17565103767036868431:=Nat
def tw607437682243621853:=Nat
def tw17941872965553911257:=Nat
def tw9990156386964866019:=Nat
def tw12671756941881817812:=Nat
def tw7653255410232536486:=Nat
def tw11404330755419504775:=Nat
def tw2485057050298438126:=Nat
def tw4289054656883390795:=Nat
def tw15972349723251459001:=Nat
def tw12316605344867432821:=Nat
def tw432101654500443320:=Nat
def tw313988057129063165:=Nat
def tw3246489017481451833:=Nat
def tw9138035622615880040:=Nat
def tw11417582862157574246:=Nat
def tw16597470879249966847:=Nat
def tw12705660003264259225:=Nat
def tw120647643745842088:=Nat
def tw15072470342753244931:=Nat
def tw12801420728952922925:=Nat
def tw5576034198663177231:=Nat
def tw9700253513702441516:=Nat
def tw13876431632697367029:=Nat
def tw9792821706717599233:=Nat
def tw11290363645830581148:=Nat
def tw16216174174997841944:=Nat
def tw13446764690652251461:=Nat
def tw3365795188720821347:=Nat
def tw13671025616700655658:=Nat
def tw8643312143006796322:=Nat
def tw1160701106315475251:=Nat
def tw13069560514296201725:=Nat
def tw9529885527763078678:=Nat
def tw17642125363774774255:=Nat
def tw1162217279189462534:=Nat
def tw16329226444728258145:=Nat
def tw18372094749346797643:=Nat
def tw12658541054727349163:=Nat
def tw10611211073460268798:=Nat
def tw13340577885541359758:=Nat
def tw16816903005209870892:=Nat
def tw520737671714807952:=Nat
def tw1767371220705938122:=Nat
def tw4895416460157359612:=Nat
def tw9390281839013208969:=Nat
def tw4405479648437039051:=Nat
def tw12625009209535527823:=Nat
def tw9331680720048035616:=Nat
def tw6856305543287214077:=Nat
def tw9109013082788109750:=Nat
def tw2958970052691880425:=Nat
def tw549376437512681494:=Nat
def tw15550086133576150314:=Nat
def tw12890190816242570521:=Nat
def tw5600018208914845294:=Nat
def tw3215850164961676869:=Nat
def tw11687156992599594067:=Nat
def tw4702115102360007292:=Nat
def tw16768262194622464533:=Nat
def tw381978044445211540:=Nat
def tw10505507650127478283:=Nat
def tw3067411036435524764:=Nat
def tw1045271136186735464:=Nat
def tw2135653436187908259:=Nat
def tw5167669998244448862:=Nat
def tw15166487425579949782:=Nat
def tw4099209728445473291:=Nat
def tw10705494483062443721:=Nat
def tw16182186560057671380:=Nat
def tw10302528000555099792:=Nat
def tw17880873365647478029:=Nat
def tw10283962286755172485:=Nat
def tw15526234640132523842:=Nat
def tw16784092618267658828:=Nat
def tw10240057750802863278:=Nat
def tw14458726301508020346:=Nat
def tw14625961078227175254:=Nat
def tw17980511388739061675:=Nat
def tw314782023113190546:=Nat
def tw17483592330087930085:=Nat
def tw13026418965941650403:=Nat
def tw4759950913196711554:=Nat
def tw6546944769519169485:=Nat
def tw15963745711279827948:=Nat
def tw8883378685206735709:=Nat
def tw5590698240786803686:=Nat
def tw11000716548720849750:=Nat
def tw15828080441165271851:=Nat
def tw2577984258827976416:=Nat
def tw3187752659319267193:=Nat
def tw4367884513886067603:=Nat
def tw17037483938879080251:=Nat
def tw10121373449001242624:=Nat
def tw11926768054229124298:=Nat
def tw13863789603649904985:=Nat
def tw14964115103582012942:=Nat
def tw17045492702115801895:=Nat
def tw14448649827375472246:=Nat
def tw3405624275445879485:=Nat
def tw17710871874889645546:=Nat
def tw9753595557304980243:=Nat
def tw6279549712726283535:=Nat
def tw7345145360370625302:=Nat
def tw13119664775639081774:=Nat
def tw10029169297035944766:=Nat
def tw17586907555812173068:=Nat
def tw2526023698529430486:=Nat
def tw8386831806015586265:=Nat
def tw6325331907752117933:=Nat
def tw5853221383693546953:=Nat
def tw16082637569392957618:=Nat
def tw8180987150779505472:=Nat
def tw7131332389551822485:=Nat
def tw6507710260076158105:=Nat
def tw9084845784865495180:=Nat
def tw13423756269205251348:=Nat
def tw18237293499805799777:=Nat
def tw6083739388035601567:=Nat
def tw5700437583973191211:=Nat
def tw17461186634583808332:=Nat
def tw2823331372322687958:=Nat
def tw11556972461836230374:=Nat
def tw456620804460143764:=Nat
def tw3475061817553860327:=Nat
def tw14174712921391393782:=Nat
def tw3849225681112916387:=Nat
def tw14784538748574230120:=Nat
def tw6563936702047600421:=Nat
def tw14393908940672888956:=Nat
def tw15459687801238363976:=Nat
def tw11047036733790520541:=Nat
def tw7227860811884563643:=Nat
def tw3639547639982754023:=Nat
def tw5698262685126000512:=Nat
def tw12171317483957382525:=Nat
def tw16131294282313525409:=Nat
def tw17750217777139458757:=Nat
def tw63717621016591385:=Nat
def tw13239545202768287991:=Nat
def tw11310644461183210817:=Nat
def tw2822946908112104625:=Nat
def tw2010427244295977953:=Nat
def tw14178611886835566733:=Nat
def tw8764018676963200051:=Nat
def tw8310500013664950419:=Nat
def tw14347370787475751859:=Nat
def tw7186703162912782811:=Nat
def tw13825323688328702418:=Nat
def tw10863720494313484756:=Nat
def tw1969833537753410558:=Nat
def tw2730591036836794409:=Nat
def tw3449903812377634767:=Nat
def tw2279002234979340121:=Nat
def tw6984726035466433902:=Nat
def tw7568922954206945866:=Nat
def tw14641855222322442590:=Nat
def tw15723944841982311467:=Nat
def tw9029410015031983871:=Nat
def tw5418624940748189304:=Nat
def tw16025456237226521631:=Nat
def tw4924587948702796527:=Nat
def tw7992696347703351706:=Nat
def tw2686359701013922956:=Nat
def tw1534449617060082531:=Nat
def tw13476759363002396385:=Nat
def tw17713681189333603626:=Nat
def tw2388664754057057045:=Nat
def tw10388735206430779001:=Nat
def tw3271864340500541833:=Nat
def tw635388681961857122:=Nat
def tw11657089939194287059:=Nat
def tw16982874213244099500:=Nat
def tw2642519754894734188:=Nat
def tw11795746570076663825:=Nat
def tw8461956022767427143:=Nat
def tw15476675245250462762:=Nat
def tw354491602472707882:=Nat
def tw16875176527049675305:=Nat
def tw16566647897465145236:=Nat
def tw16891186415853681691:=Nat
def tw6469245970068302300:=Nat
def tw8768684170177287602:=Nat
def tw10310815920340047935:=Nat
def tw6890234423382727881:=Nat
def tw1169536713186550553:=Nat
def tw2928876241054904579:=Nat
def tw1301330113485467815:=Nat
def tw15703364753154732637:=Nat
def tw5367336590973367219:=Nat
def tw1502104209767046783:=Nat
def tw17804751671350269380:=Nat
def tw2185961314931150338:=Nat
def tw13560227995277930068:=Nat
def tw8047499545578760629:=Nat
end law06
set_option Elab.async true in
set_option maxHeartbeats 0 in
theorem law06 : Challenge.rw_im0005_06.Holds := by
 w_on
 o_law
 o_head (kHook hK (nat_lit 2 :: nat_lit 3 :: nat_lit 29 :: nat_lit 35 :: nat_lit 36 :: nat_lit 56 :: nat_lit 57 :: nat_lit 85 :: nat_lit 86 :: nat_lit 92 :: nat_lit 93 :: nat_lit 99 :: nat_lit 100 :: nat_lit 122 :: nat_lit 128 :: nat_lit 129 :: nat_lit 142 :: nat_lit 143 :: nat_lit 149 :: nat_lit 150 :: nat_lit 156 :: nat_lit 157 :: nat_lit 163 :: nat_lit 164 :: nat_lit 176 :: nat_lit 177 :: nat_lit 220 :: nat_lit 224 :: nat_lit 225 :: nat_lit 231 :: nat_lit 232 :: nat_lit 302 :: nat_lit 303 :: nat_lit 318 :: nat_lit 324 :: nat_lit 325 :: nat_lit 331 :: nat_lit 332 :: nat_lit 338 :: nat_lit 339 :: nat_lit 345 :: nat_lit 346 :: nat_lit 352 :: nat_lit 353 :: nat_lit 359 :: nat_lit 360 :: nat_lit 366 :: nat_lit 367 :: nat_lit 373 :: nat_lit 374 :: nat_lit 412 :: nat_lit 416 :: nat_lit 417 :: nat_lit 423 :: nat_lit 424 :: nat_lit 426 :: nat_lit 433 :: nat_lit 434 :: nat_lit 457 :: nat_lit 463 :: nat_lit 464 :: nat_lit 475 :: nat_lit 476 :: nat_lit 490 :: nat_lit 491 :: nat_lit 492 :: nat_lit 494 :: nat_lit 495 :: nat_lit 505 :: nat_lit 506 :: nat_lit 512 :: nat_lit 513 :: nat_lit 517 :: nat_lit 518 :: nat_lit 524 :: nat_lit 525 :: nat_lit 531 :: nat_lit 532 :: nat_lit 538 :: nat_lit 539 :: nat_lit 545 :: nat_lit 546 :: nat_lit 550 :: nat_lit 551 :: []) (fun _ => by kernel_rfl))
 (case hw => w_witness2)
 k_go0
 rename Fr _ _ _ _ => F'
 rename News _ _ _ _ => N'
 rename Top _ _ _ _ _ _ => T'
 rename Frag.In _ _ => X'
 rename Heap.IsList _ _ _ => hS'
 rename IntsAre _ _ => hI'
 rename (¬ _ < _) => hn'
 refine Qr4 X' (topRead_of T') rfl rfl rfl rfl (Qxf _) roomC Qqb F' N' (Nat.le_refl _) ?_ ?_ ?_ ?_ hS' hI' (by kd_p) fun s' m' l' S F N => ?_
 ·refine Eq.trans (by assumption) ?_
  kcf_m
 ·refine Eq.trans (by assumption) ?_
  kcf_m
 ·refine Eq.trans (by assumption) ?_
  kcf_m
 ·refine Eq.trans (by assumption) ?_
  kcf_m
 ·refine goodW_bool F (S.1.trans (by assumption)) (raisesW_false ?_) ?_ S.2
  ·wrow_none_raised
  ·kc_post
end Mine
end
theorem PySem.Challenge.cw_im0005_06_holds : PySem.Challenge.rw_im0005_06.Holds :=
 Mine.law06

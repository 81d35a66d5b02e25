import PyProof.Rows.All
import Wide.All
import OpenK.AllK
import KE.KEqDict
import KE.KRevIter
import Lean
import PySem.Challenge.RW_pm0084_01
set_option Elab.async false
section
open PySem PySem.W PyProof.Rows
set_option maxRecDepth 100000
namespace Mine

noncomputable def defAt : List Stmt → Arguments × List Stmt × Scope
  | .FunctionDef _ a b _ _ _ sc _ _ _ :: _ => (a, b, sc)
  | _ => default
noncomputable def clsAt : List Stmt → List Stmt
  | .ClassDef _ _ _ b _ _ _ _ _ _ _ :: _ => b
  | _ => []
noncomputable def tops : List Stmt := PySem.Challenge.pw_pm0084_01.main.body
noncomputable def tD (i : Nat) : Arguments × List Stmt × Scope := defAt (tops.drop i)
noncomputable def mD (i j : Nat) : Arguments × List Stmt × Scope := defAt ((clsAt (tops.drop i)).drop j)
noncomputable def kE (P : Params) (x : Str) (t : Tok) (v : Value) : DictEntry := ⟨PyData.keyHash P x, .str x t, v⟩
noncomputable def fO (name qual : Str) (d : Arguments × List Stmt × Scope) (dV pm : Value) (c : Addr) : Obj :=
  { cls := .type "function", data := .func { name, qualname := qual, params := d.1, body := .stmts d.2.1, scope := d.2.2, globals := mainGlobals, closure := [], defaults := dV, kwdefaults := .none, pyModule := pm, code := .ref c, builtins := builtinsNs } }
noncomputable def cO (n q : Str) (t : Tok) (line argc f5 f6 fl : Int) (a8 a11 : Addr) (a13 a14 : Value) (a15 : Addr) (f16 : Int) (t18 : Tok) : Obj :=
  { cls := .type "code", data := .fields #[.str n t, .str q (t + 1), .str "/claim/cut.py" (t + 2), .int line 0, .int argc 0, .int f5 0, .int f6 0, .int fl 0, .ref a8, .bool true, .int 276 0, .ref a11, .none, a13, a14, .ref a15, .int f16 0, .int line 0, .str "/claim/cut.py" t18] }
noncomputable def K (P : Params) : Frag := [
  (3, { cls := (.type "dict"), data := .dict #[kE P "__name__" 165 (.str "law_pm0084_01" 709), kE P "__doc__" 166 .none, kE P "__package__" 167 .none, kE P "__loader__" 168 (.builtin "__main__.__loader__#opaque"), kE P "__spec__" 169 .none, kE P "__annotations__" 170 (.ref 6), kE P "__builtins__" 171 (.ref 4), kE P "__file__" 173 (.str "/claim/cut.py" 172), kE P "__cached__" 174 .none, kE P "_sre" 275 (.ref 12), kE P "_wall" 288 (.ref 38), kE P "TupleComp" 332 (.ref 62), kE P "add_func_stats" 350 (.ref 73), kE P "add_callers" 361 (.ref 80), kE P "count_calls" 370 (.ref 87), kE P "compute_powers" 392 (.ref 95), kE P "_str_to_int_inner" 403 (.ref 102), kE P "int_from_string" 410 (.ref 109), kE P "_DIV_LIMIT" 412 (.int 4000 411), kE P "_div2n1n" 429 (.ref 116), kE P "_div3n2n" 443 (.ref 123), kE P "_int2digits" 454 (.ref 130), kE P "_digits2int" 465 (.ref 137), kE P "_divmod_pos" 480 (.ref 144), kE P "int_divmod" 490 (.ref 151), kE P "_name_disallowed_re" 518 (.ref 156), kE P "_value_disallowed_re" 552 (.ref 161), kE P "Headers" 708 (.ref 284), kE P "_law_drawn" 716 (.ref 293), kE P "_law_rows" 727 (.ref 300), kE P "_law_other" 734 (.ref 307), kE P "_law_sorted" 740 (.ref 312), kE P "_law_total" 749 (.ref 319), kE P "_law_run" 767 (.ref 326), kE P "_law_due" 773 (.ref 331), kE P "law" 779 (.ref 336)] 36 }),
  (51, cO "__init__" "TupleComp.__init__" 303 8 2 0 0 3 46 47 (.ref 48) (.ref 49) 50 308 309),
  (52, fO "__init__" "TupleComp.__init__" (mD 3 0) .none (.str "cpy313.pstats" 289) 51),
  (58, cO "compare" "TupleComp.compare" 311 11 3 0 0 3 53 54 (.ref 55) (.ref 56) 57 321 322),
  (59, fO "compare" "TupleComp.compare" (mD 3 1) .none (.str "cpy313.pstats" 289) 58),
  (61, { cls := (.type "dict"), data := .dict #[kE P "__module__" 298 (.str "cpy313.pstats" 289), kE P "__firstlineno__" 302 (.int 6 301), kE P "__init__" 310 (.ref 52), kE P "compare" 323 (.ref 59), kE P "__static_attributes__" 325 (.ref 60), kE P "__dict__" 327 (.ref 63), kE P "__weakref__" 329 (.ref 64), kE P "__doc__" 330 .none] 4 }),
  (62, { cls := (.type "type"), data := .cls { name := "TupleComp", bases := [(.type "object")], mro := [(.ref 62), (.type "object")], ns := 61, qualname := "TupleComp" }, slots := #[none, none, some (.str "TupleComp" 291), some (.str "TupleComp" 299), some (.builtin "object.__new__"), some (.bool true)] }),
  (72, cO "add_func_stats" "add_func_stats" 333 20 2 0 0 3 67 68 (.ref 69) (.ref 70) 71 348 349),
  (73, fO "add_func_stats" "add_func_stats" (tD 4) .none (.str "cpy313.pstats" 289) 72),
  (79, cO "add_callers" "add_callers" 351 24 2 0 0 3 74 75 (.ref 76) (.ref 77) 78 359 360),
  (80, fO "add_callers" "add_callers" (tD 5) .none (.str "cpy313.pstats" 289) 79),
  (86, cO "count_calls" "count_calls" 362 37 1 0 0 3 81 82 (.ref 83) (.ref 84) 85 368 369),
  (87, fO "count_calls" "count_calls" (tD 6) .none (.str "cpy313.pstats" 289) 86),
  (88, { cls := (.type "tuple"), data := .seq #[(.bool false)] 0 }),
  (94, cO "compute_powers" "compute_powers" 373 43 4 0 0 3 89 90 (.ref 91) (.ref 92) 93 390 391),
  (95, fO "compute_powers" "compute_powers" (tD 8) (.ref 88) (.str "cpy313._pylong" 371) 94),
  (101, cO "_str_to_int_inner" "_str_to_int_inner" 393 84 1 0 0 3 96 97 (.ref 98) (.ref 99) 100 401 402),
  (102, fO "_str_to_int_inner" "_str_to_int_inner" (tD 9) .none (.str "cpy313._pylong" 371) 101),
  (108, cO "int_from_string" "int_from_string" 404 94 1 0 0 3 103 104 (.ref 105) (.ref 106) 107 408 409),
  (109, fO "int_from_string" "int_from_string" (tD 10) .none (.str "cpy313._pylong" 371) 108),
  (115, cO "_div2n1n" "_div2n1n" 413 98 3 0 0 3 110 111 (.ref 112) (.ref 113) 114 427 428),
  (116, fO "_div2n1n" "_div2n1n" (tD 12) .none (.str "cpy313._pylong" 371) 115),
  (122, cO "_div3n2n" "_div3n2n" 430 114 6 0 0 3 117 118 (.ref 119) (.ref 120) 121 441 442),
  (123, fO "_div3n2n" "_div3n2n" (tD 13) .none (.str "cpy313._pylong" 371) 122),
  (129, cO "_int2digits" "_int2digits" 444 124 2 0 0 3 124 125 (.ref 126) (.ref 127) 128 452 453),
  (130, fO "_int2digits" "_int2digits" (tD 14) .none (.str "cpy313._pylong" 371) 129),
  (136, cO "_digits2int" "_digits2int" 455 140 2 0 0 3 131 132 (.ref 133) (.ref 134) 135 463 464),
  (137, fO "_digits2int" "_digits2int" (tD 15) .none (.str "cpy313._pylong" 371) 136),
  (143, cO "_divmod_pos" "_divmod_pos" 466 149 2 0 0 3 138 139 (.ref 140) (.ref 141) 142 478 479),
  (144, fO "_divmod_pos" "_divmod_pos" (tD 16) .none (.str "cpy313._pylong" 371) 143),
  (150, cO "int_divmod" "int_divmod" 481 160 2 0 0 3 145 146 (.ref 147) (.ref 148) 149 488 489),
  (151, fO "int_divmod" "int_divmod" (tD 17) .none (.str "cpy313._pylong" 371) 150),
  (155, { cls := (.type "tuple"), data := .seq #[(.int 14 0), (.int 10 0), (.int 4 0), (.int 1 0), (.int 1 0), (.int 22 0), (.int 0 0), (.int 31 0), (.int 16 0), (.int 127 0), (.int 0 0), (.int 13 0), (.int 7 0), (.int 22 0), (.int 0 0), (.int 31 0), (.int 16 0), (.int 127 0), (.int 0 0), (.int 1 0)] 0 }),
  (156, { cls := (.type "re.Pattern"), data := .fields #[(.str "[\\x00-\\x1F\\x7F]" 494), (.int 32 517), (.int 0 0), .none, .none, (.ref 155), (.int 0 0)] }),
  (160, { cls := (.type "tuple"), data := .seq #[(.int 14 0), (.int 14 0), (.int 4 0), (.int 1 0), (.int 1 0), (.int 9 0), (.int 4294966783 0), (.int 0 0), (.int 0 0), (.int 2147483648 0), (.int 0 0), (.int 0 0), (.int 0 0), (.int 0 0), (.int 0 0), (.int 13 0), (.int 11 0), (.int 9 0), (.int 4294966783 0), (.int 0 0), (.int 0 0), (.int 2147483648 0), (.int 0 0), (.int 0 0), (.int 0 0), (.int 0 0), (.int 0 0), (.int 1 0)] 0 }),
  (161, { cls := (.type "re.Pattern"), data := .fields #[(.str "[\\x00-\\x08\\x0A-\\x1F\\x7F]" 520), (.int 32 551), (.int 0 0), .none, .none, (.ref 160), (.int 0 0)] }),
  (169, { cls := (.type "tuple"), data := .seq #[.none] 0 }),
  (175, cO "__init__" "Headers.__init__" 565 176 2 0 0 3 170 171 (.ref 172) (.ref 173) 174 572 573),
  (176, fO "__init__" "Headers.__init__" (mD 21 0) (.ref 169) (.str "cpy313.wsgiref.headers" 491) 175),
  (182, cO "_convert_string_type" "Headers._convert_string_type" 575 186 2 0 1 3 177 178 (.ref 179) (.ref 180) 181 582 583),
  (183, fO "_convert_string_type" "Headers._convert_string_type" (mD 21 1) .none (.str "cpy313.wsgiref.headers" 491) 182),
  (196, cO "__setitem__" "Headers.__setitem__" 592 197 3 0 0 3 191 192 (.ref 193) (.ref 194) 195 598 599),
  (197, fO "__setitem__" "Headers.__setitem__" (mD 21 3) .none (.str "cpy313.wsgiref.headers" 491) 196),
  (201, cO "__delitem__" "Headers.__delitem__" 601 201 2 0 0 3 198 199 .none .none 200 604 605),
  (202, fO "__delitem__" "Headers.__delitem__" (mD 21 4) .none (.str "cpy313.wsgiref.headers" 491) 201),
  (224, { cls := (.type "tuple"), data := .seq #[.none] 0 }),
  (230, cO "get" "Headers.get" 631 214 3 0 0 3 225 226 (.ref 227) (.ref 228) 229 639 640),
  (231, fO "get" "Headers.get" (mD 21 8) (.ref 224) (.str "cpy313.wsgiref.headers" 491) 230),
  (235, cO "keys" "Headers.keys" 642 221 1 0 0 3 232 233 .none .none 234 645 646),
  (236, fO "keys" "Headers.keys" (mD 21 9) .none (.str "cpy313.wsgiref.headers" 491) 235),
  (247, cO "items" "Headers.items" 654 227 1 0 0 3 242 243 (.ref 244) (.ref 245) 246 658 659),
  (248, fO "items" "Headers.items" (mD 21 11) .none (.str "cpy313.wsgiref.headers" 491) 247),
  (283, { cls := (.type "dict"), data := .dict #[kE P "__module__" 560 (.str "cpy313.wsgiref.headers" 491), kE P "__firstlineno__" 564 (.int 174 563), kE P "__init__" 574 (.ref 176), kE P "_convert_string_type" 584 (.ref 183), kE P "__len__" 591 (.ref 190), kE P "__setitem__" 600 (.ref 197), kE P "__delitem__" 606 (.ref 202), kE P "__getitem__" 614 (.ref 209), kE P "__contains__" 622 (.ref 216), kE P "get_all" 630 (.ref 223), kE P "get" 641 (.ref 231), kE P "keys" 647 (.ref 236), kE P "values" 653 (.ref 241), kE P "items" 660 (.ref 248), kE P "__repr__" 667 (.ref 255), kE P "__str__" 673 (.ref 260), kE P "__bytes__" 680 (.ref 267), kE P "setdefault" 689 (.ref 274), kE P "add_header" 699 (.ref 281), kE P "__static_attributes__" 701 (.ref 282), kE P "__dict__" 703 (.ref 285), kE P "__weakref__" 705 (.ref 286), kE P "__doc__" 706 .none] 4 }),
  (284, { cls := (.type "type"), data := .cls { name := "Headers", bases := [(.type "object")], mro := [(.ref 284), (.type "object")], ns := 283, qualname := "Headers" }, slots := #[none, none, some (.str "Headers" 553), some (.str "Headers" 561), some (.builtin "object.__new__"), some (.bool true)] }),
  (292, cO "_law_drawn" "_law_drawn" 711 245 1 0 0 3 289 290 .none .none 291 714 715),
  (293, fO "_law_drawn" "_law_drawn" (tD 23) .none (.str "law_pm0084_01" 709) 292),
  (299, cO "_law_rows" "_law_rows" 717 252 2 0 0 3 294 295 (.ref 296) (.ref 297) 298 725 726),
  (300, fO "_law_rows" "_law_rows" (tD 24) .none (.str "law_pm0084_01" 709) 299),
  (306, cO "_law_other" "_law_other" 728 260 1 0 0 3 301 302 (.ref 303) (.ref 304) 305 732 733),
  (307, fO "_law_other" "_law_other" (tD 25) .none (.str "law_pm0084_01" 709) 306),
  (311, cO "_law_sorted" "_law_sorted" 735 262 2 0 0 3 308 309 .none .none 310 738 739),
  (312, fO "_law_sorted" "_law_sorted" (tD 26) .none (.str "law_pm0084_01" 709) 311),
  (318, cO "_law_total" "_law_total" 741 282 1 0 0 3 313 314 (.ref 315) (.ref 316) 317 747 748),
  (319, fO "_law_total" "_law_total" (tD 27) .none (.str "law_pm0084_01" 709) 318),
  (325, cO "_law_run" "_law_run" 750 287 2 0 0 3 320 321 (.ref 322) (.ref 323) 324 765 766),
  (326, fO "_law_run" "_law_run" (tD 28) .none (.str "law_pm0084_01" 709) 325),
  (330, cO "_law_due" "_law_due" 768 303 2 0 0 3 327 328 .none .none 329 771 772),
  (331, fO "_law_due" "_law_due" (tD 29) .none (.str "law_pm0084_01" 709) 330),
  (335, cO "law" "law" 774 321 1 0 0 3 332 333 .none .none 334 777 778),
  (336, fO "law" "law" (tD 30) .none (.str "law_pm0084_01" 709) 335)
  ]
noncomputable def Kas : List Addr := [3, 51, 52, 58, 59, 61, 62, 72, 73, 79, 80, 86, 87, 88, 94, 95, 101, 102, 108, 109, 115, 116, 122, 123, 129, 130, 136, 137, 143, 144, 150, 151, 155, 156, 160, 161, 169, 175, 176, 182, 183, 196, 197, 201, 202, 224, 230, 231, 235, 236, 247, 248, 283, 284, 292, 293, 299, 300, 306, 307, 311, 312, 318, 319, 325, 326, 330, 331, 335, 336]
theorem K_as (P : Params) : Kas = (K P).map (·.1) := by kernel_rfl
end Mine
end
section
open PySem PySem.W PyProof.Rows
set_option maxRecDepth 100000
namespace Mine
theorem no_some {α : Type} {x : α} {P : Prop} (h : none = some x) : P := nomatch h
theorem ex4_8 {α0 α1 α2 α3 : Type} {p0 p1 p2 p3 p4 p5 p6 p7 : α0 → α1 → α2 → α3 → Prop} {P : Prop} (h : ∃ a0 a1 a2 a3, p0 a0 a1 a2 a3 ∧ p1 a0 a1 a2 a3 ∧ p2 a0 a1 a2 a3 ∧ p3 a0 a1 a2 a3 ∧ p4 a0 a1 a2 a3 ∧ p5 a0 a1 a2 a3 ∧ p6 a0 a1 a2 a3 ∧ p7 a0 a1 a2 a3) (k : ∀ a0 a1 a2 a3, p0 a0 a1 a2 a3 → p1 a0 a1 a2 a3 → p2 a0 a1 a2 a3 → p3 a0 a1 a2 a3 → p4 a0 a1 a2 a3 → p5 a0 a1 a2 a3 → p6 a0 a1 a2 a3 → p7 a0 a1 a2 a3 → P) : P := by
  obtain ⟨a0, a1, a2, a3, h0, h1, h2, h3, h4, h5, h6, h7⟩ := h
  exact k a0 a1 a2 a3 h0 h1 h2 h3 h4 h5 h6 h7
theorem ex4_9 {α0 α1 α2 α3 : Type} {p0 p1 p2 p3 p4 p5 p6 p7 p8 : α0 → α1 → α2 → α3 → Prop} {P : Prop} (h : ∃ a0 a1 a2 a3, p0 a0 a1 a2 a3 ∧ p1 a0 a1 a2 a3 ∧ p2 a0 a1 a2 a3 ∧ p3 a0 a1 a2 a3 ∧ p4 a0 a1 a2 a3 ∧ p5 a0 a1 a2 a3 ∧ p6 a0 a1 a2 a3 ∧ p7 a0 a1 a2 a3 ∧ p8 a0 a1 a2 a3) (k : ∀ a0 a1 a2 a3, p0 a0 a1 a2 a3 → p1 a0 a1 a2 a3 → p2 a0 a1 a2 a3 → p3 a0 a1 a2 a3 → p4 a0 a1 a2 a3 → p5 a0 a1 a2 a3 → p6 a0 a1 a2 a3 → p7 a0 a1 a2 a3 → p8 a0 a1 a2 a3 → P) : P := by
  obtain ⟨a0, a1, a2, a3, h0, h1, h2, h3, h4, h5, h6, h7, h8⟩ := h
  exact k a0 a1 a2 a3 h0 h1 h2 h3 h4 h5 h6 h7 h8
theorem ex0_2 {p0 p1 : Prop} {P : Prop} (h : p0 ∧ p1) (k : p0 → p1 → P) : P := by
  obtain ⟨h0, h1⟩ := h
  exact k  h0 h1
theorem ex0_3 {p0 p1 p2 : Prop} {P : Prop} (h : p0 ∧ p1 ∧ p2) (k : p0 → p1 → p2 → P) : P := by
  obtain ⟨h0, h1, h2⟩ := h
  exact k  h0 h1 h2
theorem ex0_4 {p0 p1 p2 p3 : Prop} {P : Prop} (h : p0 ∧ p1 ∧ p2 ∧ p3) (k : p0 → p1 → p2 → p3 → P) : P := by
  obtain ⟨h0, h1, h2, h3⟩ := h
  exact k  h0 h1 h2 h3
theorem ex0_6 {p0 p1 p2 p3 p4 p5 : Prop} {P : Prop} (h : p0 ∧ p1 ∧ p2 ∧ p3 ∧ p4 ∧ p5) (k : p0 → p1 → p2 → p3 → p4 → p5 → P) : P := by
  obtain ⟨h0, h1, h2, h3, h4, h5⟩ := h
  exact k  h0 h1 h2 h3 h4 h5
theorem ex1_1 {α0 : Type} {p0 : α0 → Prop} {P : Prop} (h : ∃ a0, p0 a0) (k : ∀ a0, p0 a0 → P) : P := by
  obtain ⟨a0, h0⟩ := h
  exact k a0 h0
theorem ex1_2 {α0 : Type} {p0 p1 : α0 → Prop} {P : Prop} (h : ∃ a0, p0 a0 ∧ p1 a0) (k : ∀ a0, p0 a0 → p1 a0 → P) : P := by
  obtain ⟨a0, h0, h1⟩ := h
  exact k a0 h0 h1
theorem ex1_3 {α0 : Type} {p0 p1 p2 : α0 → Prop} {P : Prop} (h : ∃ a0, p0 a0 ∧ p1 a0 ∧ p2 a0) (k : ∀ a0, p0 a0 → p1 a0 → p2 a0 → P) : P := by
  obtain ⟨a0, h0, h1, h2⟩ := h
  exact k a0 h0 h1 h2
theorem ex1_4 {α0 : Type} {p0 p1 p2 p3 : α0 → Prop} {P : Prop} (h : ∃ a0, p0 a0 ∧ p1 a0 ∧ p2 a0 ∧ p3 a0) (k : ∀ a0, p0 a0 → p1 a0 → p2 a0 → p3 a0 → P) : P := by
  obtain ⟨a0, h0, h1, h2, h3⟩ := h
  exact k a0 h0 h1 h2 h3
theorem ex2_1 {α0 α1 : Type} {p0 : α0 → α1 → Prop} {P : Prop} (h : ∃ a0 a1, p0 a0 a1) (k : ∀ a0 a1, p0 a0 a1 → P) : P := by
  obtain ⟨a0, a1, h0⟩ := h
  exact k a0 a1 h0
theorem ex2_2 {α0 α1 : Type} {p0 p1 : α0 → α1 → Prop} {P : Prop} (h : ∃ a0 a1, p0 a0 a1 ∧ p1 a0 a1) (k : ∀ a0 a1, p0 a0 a1 → p1 a0 a1 → P) : P := by
  obtain ⟨a0, a1, h0, h1⟩ := h
  exact k a0 a1 h0 h1
theorem ex2_3 {α0 α1 : Type} {p0 p1 p2 : α0 → α1 → Prop} {P : Prop} (h : ∃ a0 a1, p0 a0 a1 ∧ p1 a0 a1 ∧ p2 a0 a1) (k : ∀ a0 a1, p0 a0 a1 → p1 a0 a1 → p2 a0 a1 → P) : P := by
  obtain ⟨a0, a1, h0, h1, h2⟩ := h
  exact k a0 a1 h0 h1 h2
theorem ex2_4 {α0 α1 : Type} {p0 p1 p2 p3 : α0 → α1 → Prop} {P : Prop} (h : ∃ a0 a1, p0 a0 a1 ∧ p1 a0 a1 ∧ p2 a0 a1 ∧ p3 a0 a1) (k : ∀ a0 a1, p0 a0 a1 → p1 a0 a1 → p2 a0 a1 → p3 a0 a1 → P) : P := by
  obtain ⟨a0, a1, h0, h1, h2, h3⟩ := h
  exact k a0 a1 h0 h1 h2 h3
theorem ex2_5 {α0 α1 : Type} {p0 p1 p2 p3 p4 : α0 → α1 → Prop} {P : Prop} (h : ∃ a0 a1, p0 a0 a1 ∧ p1 a0 a1 ∧ p2 a0 a1 ∧ p3 a0 a1 ∧ p4 a0 a1) (k : ∀ a0 a1, p0 a0 a1 → p1 a0 a1 → p2 a0 a1 → p3 a0 a1 → p4 a0 a1 → P) : P := by
  obtain ⟨a0, a1, h0, h1, h2, h3, h4⟩ := h
  exact k a0 a1 h0 h1 h2 h3 h4
theorem ex2_6 {α0 α1 : Type} {p0 p1 p2 p3 p4 p5 : α0 → α1 → Prop} {P : Prop} (h : ∃ a0 a1, p0 a0 a1 ∧ p1 a0 a1 ∧ p2 a0 a1 ∧ p3 a0 a1 ∧ p4 a0 a1 ∧ p5 a0 a1) (k : ∀ a0 a1, p0 a0 a1 → p1 a0 a1 → p2 a0 a1 → p3 a0 a1 → p4 a0 a1 → p5 a0 a1 → P) : P := by
  obtain ⟨a0, a1, h0, h1, h2, h3, h4, h5⟩ := h
  exact k a0 a1 h0 h1 h2 h3 h4 h5
theorem ex3_1 {α0 α1 α2 : Type} {p0 : α0 → α1 → α2 → Prop} {P : Prop} (h : ∃ a0 a1 a2, p0 a0 a1 a2) (k : ∀ a0 a1 a2, p0 a0 a1 a2 → P) : P := by
  obtain ⟨a0, a1, a2, h0⟩ := h
  exact k a0 a1 a2 h0
theorem ex3_2 {α0 α1 α2 : Type} {p0 p1 : α0 → α1 → α2 → Prop} {P : Prop} (h : ∃ a0 a1 a2, p0 a0 a1 a2 ∧ p1 a0 a1 a2) (k : ∀ a0 a1 a2, p0 a0 a1 a2 → p1 a0 a1 a2 → P) : P := by
  obtain ⟨a0, a1, a2, h0, h1⟩ := h
  exact k a0 a1 a2 h0 h1
theorem ex3_3 {α0 α1 α2 : Type} {p0 p1 p2 : α0 → α1 → α2 → Prop} {P : Prop} (h : ∃ a0 a1 a2, p0 a0 a1 a2 ∧ p1 a0 a1 a2 ∧ p2 a0 a1 a2) (k : ∀ a0 a1 a2, p0 a0 a1 a2 → p1 a0 a1 a2 → p2 a0 a1 a2 → P) : P := by
  obtain ⟨a0, a1, a2, h0, h1, h2⟩ := h
  exact k a0 a1 a2 h0 h1 h2
theorem ex3_4 {α0 α1 α2 : Type} {p0 p1 p2 p3 : α0 → α1 → α2 → Prop} {P : Prop} (h : ∃ a0 a1 a2, p0 a0 a1 a2 ∧ p1 a0 a1 a2 ∧ p2 a0 a1 a2 ∧ p3 a0 a1 a2) (k : ∀ a0 a1 a2, p0 a0 a1 a2 → p1 a0 a1 a2 → p2 a0 a1 a2 → p3 a0 a1 a2 → P) : P := by
  obtain ⟨a0, a1, a2, h0, h1, h2, h3⟩ := h
  exact k a0 a1 a2 h0 h1 h2 h3
theorem ex3_6 {α0 α1 α2 : Type} {p0 p1 p2 p3 p4 p5 : α0 → α1 → α2 → Prop} {P : Prop} (h : ∃ a0 a1 a2, p0 a0 a1 a2 ∧ p1 a0 a1 a2 ∧ p2 a0 a1 a2 ∧ p3 a0 a1 a2 ∧ p4 a0 a1 a2 ∧ p5 a0 a1 a2) (k : ∀ a0 a1 a2, p0 a0 a1 a2 → p1 a0 a1 a2 → p2 a0 a1 a2 → p3 a0 a1 a2 → p4 a0 a1 a2 → p5 a0 a1 a2 → P) : P := by
  obtain ⟨a0, a1, a2, h0, h1, h2, h3, h4, h5⟩ := h
  exact k a0 a1 a2 h0 h1 h2 h3 h4 h5
theorem ex3_9 {α0 α1 α2 : Type} {p0 p1 p2 p3 p4 p5 p6 p7 p8 : α0 → α1 → α2 → Prop} {P : Prop} (h : ∃ a0 a1 a2, p0 a0 a1 a2 ∧ p1 a0 a1 a2 ∧ p2 a0 a1 a2 ∧ p3 a0 a1 a2 ∧ p4 a0 a1 a2 ∧ p5 a0 a1 a2 ∧ p6 a0 a1 a2 ∧ p7 a0 a1 a2 ∧ p8 a0 a1 a2) (k : ∀ a0 a1 a2, p0 a0 a1 a2 → p1 a0 a1 a2 → p2 a0 a1 a2 → p3 a0 a1 a2 → p4 a0 a1 a2 → p5 a0 a1 a2 → p6 a0 a1 a2 → p7 a0 a1 a2 → p8 a0 a1 a2 → P) : P := by
  obtain ⟨a0, a1, a2, h0, h1, h2, h3, h4, h5, h6, h7, h8⟩ := h
  exact k a0 a1 a2 h0 h1 h2 h3 h4 h5 h6 h7 h8
theorem ex4_2 {α0 α1 α2 α3 : Type} {p0 p1 : α0 → α1 → α2 → α3 → Prop} {P : Prop} (h : ∃ a0 a1 a2 a3, p0 a0 a1 a2 a3 ∧ p1 a0 a1 a2 a3) (k : ∀ a0 a1 a2 a3, p0 a0 a1 a2 a3 → p1 a0 a1 a2 a3 → P) : P := by
  obtain ⟨a0, a1, a2, a3, h0, h1⟩ := h
  exact k a0 a1 a2 a3 h0 h1
theorem ex4_3 {α0 α1 α2 α3 : Type} {p0 p1 p2 : α0 → α1 → α2 → α3 → Prop} {P : Prop} (h : ∃ a0 a1 a2 a3, p0 a0 a1 a2 a3 ∧ p1 a0 a1 a2 a3 ∧ p2 a0 a1 a2 a3) (k : ∀ a0 a1 a2 a3, p0 a0 a1 a2 a3 → p1 a0 a1 a2 a3 → p2 a0 a1 a2 a3 → P) : P := by
  obtain ⟨a0, a1, a2, a3, h0, h1, h2⟩ := h
  exact k a0 a1 a2 a3 h0 h1 h2
theorem ex4_4 {α0 α1 α2 α3 : Type} {p0 p1 p2 p3 : α0 → α1 → α2 → α3 → Prop} {P : Prop} (h : ∃ a0 a1 a2 a3, p0 a0 a1 a2 a3 ∧ p1 a0 a1 a2 a3 ∧ p2 a0 a1 a2 a3 ∧ p3 a0 a1 a2 a3) (k : ∀ a0 a1 a2 a3, p0 a0 a1 a2 a3 → p1 a0 a1 a2 a3 → p2 a0 a1 a2 a3 → p3 a0 a1 a2 a3 → P) : P := by
  obtain ⟨a0, a1, a2, a3, h0, h1, h2, h3⟩ := h
  exact k a0 a1 a2 a3 h0 h1 h2 h3
theorem ex4_7 {α0 α1 α2 α3 : Type} {p0 p1 p2 p3 p4 p5 p6 : α0 → α1 → α2 → α3 → Prop} {P : Prop} (h : ∃ a0 a1 a2 a3, p0 a0 a1 a2 a3 ∧ p1 a0 a1 a2 a3 ∧ p2 a0 a1 a2 a3 ∧ p3 a0 a1 a2 a3 ∧ p4 a0 a1 a2 a3 ∧ p5 a0 a1 a2 a3 ∧ p6 a0 a1 a2 a3) (k : ∀ a0 a1 a2 a3, p0 a0 a1 a2 a3 → p1 a0 a1 a2 a3 → p2 a0 a1 a2 a3 → p3 a0 a1 a2 a3 → p4 a0 a1 a2 a3 → p5 a0 a1 a2 a3 → p6 a0 a1 a2 a3 → P) : P := by
  obtain ⟨a0, a1, a2, a3, h0, h1, h2, h3, h4, h5, h6⟩ := h
  exact k a0 a1 a2 a3 h0 h1 h2 h3 h4 h5 h6

inductive TyK where
  | str | list | tuple | int | dict
  deriving DecidableEq
noncomputable def TyK.name : TyK → String
  | .str => "str" | .list => "list" | .tuple => "tuple" | .int => "int" | .dict => "dict"
inductive MV where
  | none
  | bool (b : Bool)
  | int (i : Int)
  | lin (a b : Int)
  | str (l : List Nat)
  | ty (k : TyK)
  | tup (l : List MV)
  | loc (n : Nat)
  | rng (a b : Int)
  | frz (l : List MV)
inductive MO where
  | list (l : List MV)
  | dict (es : List (Int × MV))
  | inst (c : Nat) (d : Nat)
  | ns (f : Option (Nat × MV))

inductive Tr where
  | e
  | leaf (o : MO)
  | node (l r : Tr)
theorem half_eq {m n : Nat} (h : m % 2 = n % 2) : m / 2 = n / 2 ↔ m = n :=
  ⟨fun e => by rw [← Nat.div_add_mod m 2, ← Nat.div_add_mod n 2, e, h], fun e => by rw [e]⟩
namespace Tr
noncomputable def lf : Tr → Tr
  | .node l _ => l
  | _ => .e
noncomputable def rt : Tr → Tr
  | .node _ r => r
  | _ => .e
noncomputable def get (d : Nat) : Tr → Nat → Option MO := Nat.rec (motive := fun _ => Tr → Nat → Option MO) (fun t _ => match t with
    | .leaf o => some o
    | _ => none) (fun _ ih t n => bif Nat.beq (n % 2) 0 then ih t.lf (n / 2) else ih t.rt (n / 2)) d
noncomputable def set (d : Nat) : Tr → Nat → MO → Tr := Nat.rec (motive := fun _ => Tr → Nat → MO → Tr) (fun _ _ o => .leaf o)
  (fun _ ih t n o => bif Nat.beq (n % 2) 0 then .node (ih t.lf (n / 2) o) t.rt else .node t.lf (ih t.rt (n / 2) o)) d
theorem get_set : ∀ (d : Nat) (t : Tr) (n m : Nat) (o : MO), n < 2 ^ d → m < 2 ^ d → get d (set d t n o) m = if m = n then some o else get d t m
  | 0, t, n, m, o, hn, hm => by rw [if_pos (show m = n by omega)]; rfl
  | d + 1, t, n, m, o, hn, hm => by
    have key : ∀ l, get d (set d l (n / 2) o) (m / 2) = if m / 2 = n / 2 then some o else get d l (m / 2) := fun l => get_set d l (n / 2) (m / 2) o (by omega) (by omega)
    show (bif Nat.beq (m % 2) 0 then get d (set (d + 1) t n o).lf (m / 2) else get d (set (d + 1) t n o).rt (m / 2)) = if m = n then some o else bif Nat.beq (m % 2) 0 then get d t.lf (m / 2) else get d t.rt (m / 2)
    have e : set (d + 1) t n o = bif Nat.beq (n % 2) 0 then .node (set d t.lf (n / 2) o) t.rt else .node t.lf (set d t.rt (n / 2) o) := rfl
    rw [e]
    have b : ∀ x : Nat, Nat.beq (x % 2) 0 = decide (x % 2 = 0) := fun x => by
      rcases Nat.mod_two_eq_zero_or_one x with h | h <;> rw [h] <;> rfl
    rw [b, b]
    by_cases hn' : n % 2 = 0 <;> by_cases hm' : m % 2 = 0 <;> simp only [hn', hm', decide_true, decide_false, cond_true, cond_false, lf, rt, key]
    · simp only [half_eq (hm'.trans hn'.symm)]
    · rw [if_neg fun e => hm' (by rw [e]; exact hn')]
    · rw [if_neg fun e => hn' (by rw [← e]; exact hm')]
    · simp only [half_eq ((Nat.mod_two_eq_zero_or_one m).elim (fun e => absurd e hm') id |>.trans ((Nat.mod_two_eq_zero_or_one n).elim (fun e => absurd e hn') id).symm)]
end Tr
structure MH where
  t : Tr
  next : Nat
noncomputable def MH.get (μ : MH) (n : Nat) : Option MO := if n < μ.next then Tr.get 10 μ.t n else none
noncomputable def MH.put (μ : MH) (n : Nat) (o : MO) : MH := ⟨Tr.set 10 μ.t n o, μ.next⟩
noncomputable def MH.new (μ : MH) (o : MO) : Option (Nat × MH) := if μ.next < 1024 then some (μ.next, ⟨Tr.set 10 μ.t μ.next o, μ.next + 1⟩) else none
theorem MH.get_lt {μ : MH} {n : Nat} {o : MO} (h : μ.get n = some o) : n < μ.next := by
  unfold MH.get at h; split at h
  · assumption
  · (first | exact no_some h | cases h)
structure MH.Ok (μ : MH) : Prop where
  le : μ.next ≤ 1024
theorem MH.get_put {μ : MH} (ok : μ.Ok) {n : Nat} {x : MO} (hx : μ.get n = some x) (o : MO) (m : Nat) : (μ.put n o).get m = if m = n then some o else μ.get m := by
  have hn := MH.get_lt hx
  unfold MH.get MH.put
  simp only
  by_cases hm : m < μ.next
  · simp only [hm, if_true]
    exact Tr.get_set 10 _ _ _ _ (by have := ok.le; omega) (by have := ok.le; omega)
  · have : m ≠ n := by omega
    simp only [hm, if_false, this]
theorem MH.get_new {μ μ' : MH} {n : Nat} {o : MO} (h : μ.new o = some (n, μ')) (m : Nat) : μ'.Ok ∧ n = μ.next ∧ μ'.next = μ.next + 1 ∧ μ'.get m = if m = n then some o else μ.get m := by
  unfold MH.new at h
  split at h
  · rename_i hl
    (first | exact no_some h | cases h)
    refine ⟨⟨by simp only; omega⟩, rfl, rfl, ?_⟩
    unfold MH.get
    simp only
    by_cases hm : m < μ.next + 1
    · simp only [hm, if_true]
      rw [Tr.get_set 10 _ _ _ _ (by omega) (by omega)]
      by_cases e : m = μ.next
      · simp only [e, if_true]
      · have : m < μ.next := by omega
        simp only [e, this, if_true, if_false]
    · have h1 : ¬ m < μ.next := by omega
      have h2 : m ≠ μ.next := by omega
      simp only [hm, h1, h2, if_false]
  · (first | exact no_some h | cases h)

structure Wd where
  s : Shared
  ρ : List Addr
  M : List Addr
noncomputable abbrev Wd.h (W : Wd) : Heap := W.s.heap
structure Cst where
  w : World
  H : Heap
  os : OsState
  Q : Int

mutual
inductive VR (Q : Int) (h : Heap) (ρ M : List Addr) : MV → Value → Prop
  | none : VR Q h ρ M .none .none
  | bool (b : Bool) : VR Q h ρ M (.bool b) (.bool b)
  | int (i : Int) (t : Tok) : VR Q h ρ M (.int i) (.int i t)
  | lin (a b : Int) (t : Tok) : VR Q h ρ M (.lin a b) (.int (a * Q + b) t)
  | str (l : List Nat) (s : Str) (t : Tok) : s.cps.toList = l → VR Q h ρ M (.str l) (.str s t)
  | ty (k : TyK) : VR Q h ρ M (.ty k) (.type k.name)
  | tup (ms : List MV) (a : Addr) (its : Array Value) (n : Nat) : h.get? a = some { cls := .type "tuple", data := .seq its n } → a ∉ ρ → a ∉ M → VRs Q h ρ M ms its.toList → VR Q h ρ M (.tup ms) (.ref a)
  | loc (n : Nat) (a : Addr) : ρ[n]? = some a → VR Q h ρ M (.loc n) (.ref a)
  | frz (ms : List MV) (a : Addr) (its : Array Value) (n : Nat) (o : Obj) : h.get? a = some o → o.cls = .type "list" → o.data = .seq its n → a ∉ ρ → a ∉ M → VRs Q h ρ M ms its.toList → VR Q h ρ M (.frz ms) (.ref a)
inductive VRs (Q : Int) (h : Heap) (ρ M : List Addr) : List MV → List Value → Prop
  | nil : VRs Q h ρ M [] []
  | cons (m : MV) (v : Value) (ms : List MV) (vs : List Value) : VR Q h ρ M m v → VRs Q h ρ M ms vs → VRs Q h ρ M (m :: ms) (v :: vs)
end
@[elab_as_elim] theorem VR.noneE {Q : Int} {h : Heap} {ρ M : List Addr} {v : Value} {P : Value → Prop} (V : VR Q h ρ M (.none) v) (k : P .none) : P v := by
  cases V with
  | none => exact k
@[elab_as_elim] theorem VR.boolE {Q : Int} {h : Heap} {ρ M : List Addr} {v : Value} {P : Value → Prop} {b : Bool} (V : VR Q h ρ M (.bool b) v) (k : P (.bool b)) : P v := by
  cases V with
  | bool => exact k
@[elab_as_elim] theorem VR.intE {Q : Int} {h : Heap} {ρ M : List Addr} {v : Value} {P : Value → Prop} {i : Int} (V : VR Q h ρ M (.int i) v) (k : ∀ t, P (.int i t)) : P v := by
  cases V with
  | int _ t => exact k t
@[elab_as_elim] theorem VR.linE {Q : Int} {h : Heap} {ρ M : List Addr} {v : Value} {P : Value → Prop} {a b : Int} (V : VR Q h ρ M (.lin a b) v) (k : ∀ t, P (.int (a * Q + b) t)) : P v := by
  cases V with
  | lin _ _ t => exact k t
@[elab_as_elim] theorem VR.strE {Q : Int} {h : Heap} {ρ M : List Addr} {v : Value} {P : Value → Prop} {l : List Nat} (V : VR Q h ρ M (.str l) v) (k : ∀ s t, s.cps.toList = l → P (.str s t)) : P v := by
  cases V with
  | str _ s t e => exact k s t e
@[elab_as_elim] theorem VR.tyE {Q : Int} {h : Heap} {ρ M : List Addr} {v : Value} {P : Value → Prop} {y : TyK} (V : VR Q h ρ M (.ty y) v) (k : P (.type y.name)) : P v := by
  cases V with
  | ty => exact k
@[elab_as_elim] theorem VR.tupE {Q : Int} {h : Heap} {ρ M : List Addr} {v : Value} {P : Value → Prop} {ms : List MV} (V : VR Q h ρ M (.tup ms) v) (k : ∀ (a : Addr) (its : Array Value) (n : Nat), h.get? a = some { cls := .type "tuple", data := .seq its n } → a ∉ ρ → a ∉ M → VRs Q h ρ M ms its.toList → P (.ref a)) : P v := by
  cases V with
  | tup _ a its n h1 h2 h3 h4 => exact k a its n h1 h2 h3 h4
@[elab_as_elim] theorem VR.locE {Q : Int} {h : Heap} {ρ M : List Addr} {v : Value} {P : Value → Prop} {n : Nat} (V : VR Q h ρ M (.loc n) v) (k : ∀ a, ρ[n]? = some a → P (.ref a)) : P v := by
  cases V with
  | loc _ a e => exact k a e
@[elab_as_elim] theorem VR.frzE {Q : Int} {h : Heap} {ρ M : List Addr} {v : Value} {P : Value → Prop} {ms : List MV} (V : VR Q h ρ M (.frz ms) v) (k : ∀ (a : Addr) (its : Array Value) (n : Nat) (o : Obj), h.get? a = some o → o.cls = .type "list" → o.data = .seq its n → a ∉ ρ → a ∉ M → VRs Q h ρ M ms its.toList → P (.ref a)) : P v := by
  cases V with
  | frz _ a its n o h1 h2 h3 h4 h5 h6 => exact k a its n o h1 h2 h3 h4 h5 h6
theorem VR.rngE {Q : Int} {h : Heap} {ρ M : List Addr} {v : Value} {a b : Int} {P : Prop} (V : VR Q h ρ M (.rng a b) v) : P := by cases V
@[elab_as_elim] theorem VRs.nilE {Q : Int} {h : Heap} {ρ M : List Addr} {vs : List Value} {P : List Value → Prop} (V : VRs Q h ρ M [] vs) (k : P []) : P vs := by
  cases V with
  | nil => exact k
@[elab_as_elim] theorem VRs.consE {Q : Int} {h : Heap} {ρ M : List Addr} {vs : List Value} {P : List Value → Prop} {m : MV} {ms : List MV} (V : VRs Q h ρ M (m :: ms) vs) (k : ∀ v vs, VR Q h ρ M m v → VRs Q h ρ M ms vs → P (v :: vs)) : P vs := by
  cases V with
  | cons _ v _ vs h1 h2 => exact k v vs h1 h2
structure Ext (O : List Addr) (W W' : Wd) : Prop where
  pre : ∀ (n : Nat) (a : Addr), W.ρ[n]? = some a → W'.ρ[n]? = some a
  fr : ∀ b o, W.h.get? b = some o → (o.cls ≠ .none ∨ b ∈ W.M) → b ∉ W.ρ → b ∉ O → W'.h.get? b = some o
  alive : ∀ b o, W.h.get? b = some o → ∃ o', W'.h.get? b = some o'
  newρ : ∀ b ∈ W'.ρ, b ∈ W.ρ ∨ W.h.get? b = none
  newM : ∀ b ∈ W'.M, b ∈ W.M ∨ W.h.get? b = none
  subM : ∀ b ∈ W.M, b ∈ W'.M
theorem Ext.refl (O : List Addr) (W : Wd) : Ext O W W := ⟨fun _ _ h => h, fun _ _ h _ _ _ => h, fun _ o h => ⟨o, h⟩, fun _ h => .inl h, fun _ h => .inl h, fun _ h => h⟩
theorem Ext.subρ {O : List Addr} {W W' : Wd} (x : Ext O W W') : ∀ b ∈ W.ρ, b ∈ W'.ρ := fun b hb => by
  refine ex1_1 (List.getElem?_of_mem hb) fun n hn => ?_
  exact List.mem_of_getElem? (x.pre n b hn)
theorem Ext.trans {O : List Addr} {W₁ W₂ W₃ : Wd} (x : Ext O W₁ W₂) (y : Ext O W₂ W₃) : Ext O W₁ W₃ where
  pre := fun n a h => y.pre n a (x.pre n a h)
  fr := fun b o h hc hρ hO => y.fr b o (x.fr b o h hc hρ hO) (hc.imp_right (x.subM b)) (fun hb => (x.newρ b hb).elim hρ (fun h1 => by rw [h] at h1; (first | exact no_some h1 | cases h1))) hO
  alive := fun b o h => let ⟨o', h'⟩ := x.alive b o h; y.alive b o' h'
  newρ := fun b hb => by
    rcases y.newρ b hb with h1 | h1
    · exact x.newρ b h1
    · cases q : W₁.h.get? b with
      | none => exact .inr rfl
      | some o => refine ex1_1 (x.alive b o q) fun o' h' => ?_; rw [h'] at h1; (first | exact no_some h1 | cases h1)
  newM := fun b hb => by
    rcases y.newM b hb with h1 | h1
    · exact x.newM b h1
    · cases q : W₁.h.get? b with
      | none => exact .inr rfl
      | some o => refine ex1_1 (x.alive b o q) fun o' h' => ?_; rw [h'] at h1; (first | exact no_some h1 | cases h1)
  subM := fun b hb => y.subM b (x.subM b hb)
theorem Ext.weaken {O O' : List Addr} {W W' : Wd} (x : Ext O W W') (h : ∀ b ∈ O, b ∈ O') : Ext O' W W' := { x with fr := fun b o e hc hρ hO => x.fr b o e hc hρ fun q => hO (h b q) }
theorem Ext.imm {O : List Addr} {W W' : Wd} (x : Ext O W W') (hO : ∀ b ∈ O, b ∈ W.M) {b : Addr} {o : Obj} (h : W.h.get? b = some o) (hc : o.cls ≠ .none) (hρ : b ∉ W.ρ) (hM : b ∉ W.M) : W'.h.get? b = some o ∧ b ∉ W'.ρ ∧ b ∉ W'.M :=
  ⟨x.fr b o h (.inl hc) hρ (fun q => hM (hO b q)), (fun q => (x.newρ b q).elim hρ (fun h1 => by rw [h] at h1; (first | exact no_some h1 | cases h1))), (fun q => (x.newM b q).elim hM (fun h1 => by rw [h] at h1; (first | exact no_some h1 | cases h1)))⟩
structure Wk (W W' : Wd) : Prop where
  pre : ∀ (n : Nat) (a : Addr), W.ρ[n]? = some a → W'.ρ[n]? = some a
  imm : ∀ b o, W.h.get? b = some o → o.cls ≠ .none → b ∉ W.ρ → b ∉ W.M → W'.h.get? b = some o ∧ b ∉ W'.ρ ∧ b ∉ W'.M
theorem Ext.wk {O : List Addr} {W W' : Wd} (x : Ext O W W') (hO : ∀ b ∈ O, b ∈ W.M) : Wk W W' := ⟨x.pre, fun _ _ h hc hρ hM => x.imm hO h hc hρ hM⟩
theorem VR.wk {Q : Int} {W W' : Wd} (x : Wk W W') {m : MV} {v : Value} (h : VR Q W.h W.ρ W.M m v) : VR Q W'.h W'.ρ W'.M m v :=
  VR.rec (motive_1 := fun m v _ => VR Q W'.h W'.ρ W'.M m v) (motive_2 := fun ms vs _ => VRs Q W'.h W'.ρ W'.M ms vs) .none .bool .int .lin .str .ty
    (fun ms a its n h hρ hM _ hs => let z := x.imm _ _ h (fun e => nomatch e) hρ hM; .tup ms a its n z.1 z.2.1 z.2.2 hs) (fun n a h => .loc n a (x.pre n a h))
    (fun ms a its n o h c d hρ hM _ hs => let z := x.imm _ _ h (fun e => by rw [c] at e; cases e) hρ hM; .frz ms a its n o z.1 c d z.2.1 z.2.2 hs) .nil (fun m v ms vs _ _ h hs => .cons m v ms vs h hs) h
theorem VRs.wk {Q : Int} {W W' : Wd} (x : Wk W W') : ∀ {ms : List MV} {vs : List Value}, VRs Q W.h W.ρ W.M ms vs → VRs Q W'.h W'.ρ W'.M ms vs :=
  fun h => VRs.rec (motive_1 := fun m v _ => VR Q W'.h W'.ρ W'.M m v) (motive_2 := fun ms vs _ => VRs Q W'.h W'.ρ W'.M ms vs) .none .bool .int .lin .str .ty
    (fun ms a its n h hρ hM _ hs => let z := x.imm _ _ h (fun e => nomatch e) hρ hM; .tup ms a its n z.1 z.2.1 z.2.2 hs) (fun n a h => .loc n a (x.pre n a h))
    (fun ms a its n o h c d hρ hM _ hs => let z := x.imm _ _ h (fun e => by rw [c] at e; cases e) hρ hM; .frz ms a its n o z.1 c d z.2.1 z.2.2 hs) .nil (fun m v ms vs _ _ h hs => .cons m v ms vs h hs) h
theorem VR.mono {Q : Int} {O : List Addr} {W W' : Wd} (x : Ext O W W') (hO : ∀ b ∈ O, b ∈ W.M) {m : MV} {v : Value} (h : VR Q W.h W.ρ W.M m v) : VR Q W'.h W'.ρ W'.M m v := VR.wk (x.wk hO) h
theorem VRs.mono {Q : Int} {O : List Addr} {W W' : Wd} (x : Ext O W W') (hO : ∀ b ∈ O, b ∈ W.M) {ms : List MV} {vs : List Value} (h : VRs Q W.h W.ρ W.M ms vs) : VRs Q W'.h W'.ρ W'.M ms vs := VRs.wk (x.wk hO) h
end Mine
end
section
open PySem PySem.W PyProof.Rows PySem.Calls
set_option maxRecDepth 100000
namespace Mine
noncomputable abbrev P0 : Program := PySem.Challenge.pw_pm0084_01
noncomputable abbrev ik (C : Cst) : KeyKind P0 C.w Int := intKind P0 C.w

noncomputable def atNm : Nat → Str
  | 0 => "comp_select_list"
  | _ => "_headers"

noncomputable def DR (C : Cst) (W : Wd) (es : List (Int × MV)) (kvs : List (Int × Value)) : Prop := es.map (·.1) = kvs.map (·.1) ∧ VRs C.Q W.h W.ρ W.M (es.map (·.2)) (kvs.map (·.2))
noncomputable def OR (C : Cst) (W : Wd) : MO → Addr → Prop
  | .list l, a => ∃ its, W.h.PlainList a its ∧ VRs C.Q W.h W.ρ W.M l its.toList
  | .dict es, a => ∃ kvs, W.h.DictAt (ik C) a kvs kvs.length ∧ DR C W es kvs
  | .inst c dn, a => ∃ d, W.ρ[dn]? = some d ∧ W.h.get? a = some { cls := .ref c, dict := some d, data := .plain }
  | .ns none, a => W.h.get? a = some (dictOf [] 0)
  | .ns (some (x, v)), a => ∃ hs t pv, W.h.get? a = some (dictOf [⟨hs, .str (atNm x) t, pv⟩] 1) ∧ VR C.Q W.h W.ρ W.M v pv

noncomputable def tabs : List (Addr × Addr) := [(79, 75), (101, 97), (129, 125), (136, 132)]
noncomputable def qualOf : Addr → Str
  | 79 => "add_callers.<locals>.<genexpr>"
  | 101 => "_str_to_int_inner.<locals>.inner"
  | 129 => "_int2digits.<locals>.inner"
  | _ => "_digits2int.<locals>.inner"
noncomputable def TabIn (W : Wd) (p : Addr × Addr) : Prop := ∃ ps, W.h.TableAt p.1 p.2 ps ∧ TriplesOk ps.toList ∧ ∀ pos cv, codeAmong pos ps.toList = some cv →
  ∃ c o vs t, cv = .ref c ∧ W.h.get? c = some o ∧ o.cls ≠ .none ∧ c ∉ W.ρ ∧ c ∉ W.M ∧ o.data = .fields vs ∧ vs[1]? = some (.str (qualOf p.1) t)
theorem TabIn.wk {W W' : Wd} (x : Wk W W') {p : Addr × Addr} (h : TabIn W p) (hk : ∀ ps, W.h.TableAt p.1 p.2 ps → W'.h.TableAt p.1 p.2 ps) : TabIn W' p := by
  refine ex1_3 h fun ps h1 h2 h3 => ?_
  refine ⟨ps, hk ps h1, h2, fun pos cv e => ?_⟩
  refine ex4_7 (h3 pos cv e) fun c o vs t q1 q2 q3 q4 q5 q6 q7 => ?_
  refine ex0_3 (x.imm c o q2 q3 q4 q5) fun z1 z2 z3 => ?_
  exact ⟨c, o, vs, t, q1, z1, q3, z2, z3, q6, q7⟩
structure Inv (C : Cst) (W : Wd) (μ : MH) : Prop where
  old : OldK C.H W.h
  lim : W.h.NoLimit
  tab : ∀ p ∈ tabs, TabIn W p
  ok : μ.Ok
  objs : ∀ n o, μ.get n = some o → ∃ a, W.ρ[n]? = some a ∧ OR C W o a
  len : μ.next = W.ρ.length
  nd : W.ρ.Nodup
  freshρ : ∀ a ∈ W.ρ, C.H.get? a = none ∧ (∃ o, W.h.get? a = some o)
  freshM : ∀ a ∈ W.M, C.H.get? a = none ∧ (∃ o, W.h.get? a = some o) ∧ a ∉ W.ρ
  gens : AllBare W.s.gens
  os : W.s.os = C.os
  big : ∀ a ∈ W.ρ, 3 < a
  g3 : ∃ o, C.H.get? mainGlobals = some o
theorem Inv.freshME {C : Cst} {W : Wd} {μ : MH} (I : Inv C W μ) (a : Addr) (h : a ∈ W.M) {P : Prop} (k : C.H.get? a = none → ∀ o, W.h.get? a = some o → a ∉ W.ρ → P) : P :=
  (I.freshM a h).2.1.elim fun o e => k (I.freshM a h).1 o e (I.freshM a h).2.2

structure Basis (C : Cst) : Prop where
  st : ∃ m, C.H.Ns cStatics m
  K : (K C.w.params).In C.H
  g : ∃ mg, C.H.Ns mainGlobals mg
  b : ∃ mb, C.H.Ns builtinsNs mb ∧ ∀ x : Str, x ≠ "__name__" → mb x = bootBuiltins x
  tab : ∀ p ∈ tabs, C.H.TableAt p.1 p.2 #[]
  qb : C.Q.natAbs ≤ 2000
  bm : ∃ mg bm o, C.H.Ns mainGlobals mg ∧ mg "__builtins__" = some (.ref bm) ∧ bm ≠ builtinsNs ∧ bm ≠ mainGlobals ∧ (∀ p ∈ tabs, bm ≠ p.2) ∧ C.H.get? bm = some o ∧ o.cls = .type "module" ∧ o.dict = some builtinsNs ∧ o.data = .plain

theorem K_cls (P : Params) : ((K P).all fun p => match p.2.cls with | .none => false | _ => true) = true := by kernel_rfl
theorem lookup_mem {a : Addr} {o : Obj} : ∀ {l : Frag}, l.lookup a = some o → (a, o) ∈ l
  | [], h => by (first | exact no_some h | cases h)
  | (b, x) :: r, h => by
    rw [List.lookup] at h
    split at h
    · rename_i q; (first | exact no_some h | cases h); rw [beq_iff_eq.mp q]; exact .head _
    · exact .tail _ (lookup_mem h)
theorem Inv.K {C : Cst} {W : Wd} {μ : MH} (B : Basis C) (I : Inv C W μ) : (Mine.K C.w.params).In W.h := fun a o e => by
  have h := B.K a o e
  refine I.old.get_of_cls h fun q => ?_
  have := List.all_eq_true.mp (K_cls C.w.params) _ (lookup_mem e)
  rw [q] at this; (first | exact no_some this | cases this)
theorem Inv.keepOld {C : Cst} {W : Wd} {μ : MH} (I : Inv C W μ) {b : Addr} {o : Obj} (e : C.H.get? b = some o) (hc : o.cls ≠ .none) : W.h.get? b = some o := I.old.get_of_cls e hc

theorem Inv.oldρ {C : Cst} {W : Wd} {μ : MH} (I : Inv C W μ) {b : Addr} {o : Obj} (e : C.H.get? b = some o) : b ∉ W.ρ ∧ b ∉ W.M :=
  ⟨(fun h => by have := (I.freshρ b h).1; rw [e] at this; (first | exact no_some this | cases this)), (fun h => by have := (I.freshM b h).1; rw [e] at this; (first | exact no_some this | cases this))⟩

noncomputable abbrev OKeep (h h' : Heap) : Prop := ∀ b o, h.get? b = some o → h'.get? b = some o
section
variable {C : Cst} {W : Wd} {μ : MH}
noncomputable def Wd.at (W : Wd) (s : Shared) : Wd := ⟨s, W.ρ, W.M⟩
theorem Ext.keep (O : List Addr) {s : Shared} (k : OKeep W.h s.heap) : Ext O W (W.at s) :=
  ⟨fun _ _ h => h, fun b o h _ _ _ => k b o h, fun b o h => ⟨o, k b o h⟩, fun _ h => .inl h, fun _ h => .inl h, fun _ h => h⟩
theorem DR.wk {W' : Wd} {es : List (Int × MV)} {kvs : List (Int × Value)} (x : Wk W W') (h : DR C W es kvs) : DR C W' es kvs := ⟨h.1, VRs.wk x h.2⟩
theorem OR.wk {W' : Wd} (x : Wk W W') {o : MO} {a : Addr} (hk : ∀ ob, W.h.get? a = some ob → W'.h.get? a = some ob) (h : OR C W o a) : OR C W' o a := by
  cases o with
  | list l => obtain ⟨its, ⟨o, ho⟩, hv⟩ := h; exact ⟨its, ⟨o, hk _ ho⟩, VRs.wk x hv⟩
  | dict es => obtain ⟨kvs, ⟨o, es', ho, r⟩, hv⟩ := h; exact ⟨kvs, ⟨o, es', hk _ ho, r⟩, DR.wk x hv⟩
  | inst c dn => refine ex1_2 h fun d h1 h2 => ?_; exact ⟨d, x.pre _ _ h1, hk _ h2⟩
  | ns f =>
    cases f with
    | none => exact hk _ h
    | some p =>
      obtain ⟨x', v⟩ := p
      refine ex3_2 h fun hs t pv h1 h2 => ?_
      exact ⟨hs, t, pv, hk _ h1, VR.wk x h2⟩
theorem OR.mono {W' : Wd} {O : List Addr} (x : Ext O W W') (hO : ∀ b ∈ O, b ∈ W.M) {o : MO} {a : Addr} (hk : ∀ ob, W.h.get? a = some ob → W'.h.get? a = some ob) (h : OR C W o a) : OR C W' o a := OR.wk (x.wk hO) hk h
theorem Inv.keep (I : Inv C W μ) {s : Shared} (k : OKeep W.h s.heap) (hg : AllBare s.gens) (ho : s.os = W.s.os) : Inv C (W.at s) μ where
  old := I.old.step_keeps k
  lim := I.lim.keeps k
  tab := fun p hp => (I.tab p hp).wk ((Ext.keep [] k).wk (fun _ h => nomatch h)) fun _ h => h.keeps k
  ok := I.ok
  objs := fun n o h => let ⟨a, h1, h2⟩ := I.objs n o h; ⟨a, h1, OR.mono (Ext.keep [] k) (fun _ h => nomatch h) (k a) h2⟩
  len := I.len
  nd := I.nd
  freshρ := fun a ha => let ⟨h1, o, h2⟩ := I.freshρ a ha; ⟨h1, o, k _ _ h2⟩
  freshM := fun a ha => let ⟨h1, ⟨o, h2⟩, h4⟩ := I.freshM a ha; ⟨h1, ⟨o, k _ _ h2⟩, h4⟩
  gens := hg
  os := ho.trans I.os
  big := I.big
  g3 := I.g3
theorem Inv.three (I : Inv C W μ) : 3 < W.h.objs.size := by
  refine ex1_1 I.g3 fun o h => ?_
  refine ex1_1 (I.old.there _ _ h) fun o' h' => ?_
  exact Heap.lt_size h'
theorem Inv.lt (I : Inv C W μ) {a : Addr} (h : a ∈ W.ρ ∨ a ∈ W.M) : a < W.h.objs.size := by
  rcases h with h | h
  · obtain ⟨_, o, h2⟩ := I.freshρ a h; exact Heap.lt_size h2
  · refine I.freshME a h fun _ o h2 _ => ?_; exact Heap.lt_size h2
theorem Inv.new (I : Inv C W μ) : C.H.get? W.h.objs.size = none ∧ W.h.objs.size ∉ W.ρ ∧ W.h.objs.size ∉ W.M := by
  refine ⟨?_, fun h => absurd (I.lt (.inl h)) (Nat.lt_irrefl _), fun h => absurd (I.lt (.inr h)) (Nat.lt_irrefl _)⟩
  cases q : C.H.get? W.h.objs.size with
  | none => rfl
  | some o => refine ex1_1 (I.old.there _ _ q) fun o' h => ?_; exact absurd (Heap.lt_size h) (Nat.lt_irrefl _)
theorem oldK_same {h₀ h h' : Heap} (K : OldK h₀ h) {a : Addr} (ha : h₀.get? a = none) (hs : Heap.SameBut a h h') : OldK h₀ h' := by
  have ne : ∀ b o, h₀.get? b = some o → b ≠ a := fun b o e q => by rw [q, ha] at e; cases e
  refine ⟨fun b o e => ?_, fun b o e => let ⟨o', ho'⟩ := K.there b o e; ⟨o', (hs.2 b (ne b o e)).trans ho'⟩⟩
  rcases K.old b o e with x | ⟨t, hc, vs, more, hv, x⟩ | ⟨rfl, hc, ⟨o', es, n, ho', r⟩, z⟩
  · exact .inl ((hs.2 b (ne b o e)).trans x)
  · exact .inr (.inl ⟨t, hc, vs, more, hv, (hs.2 b (ne b o e)).trans x⟩)
  · exact .inr (.inr ⟨rfl, hc, ⟨o', es, n, (hs.2 _ (ne _ o e)).trans ho', r⟩, fun key => by rw [OldK.staticOf_congr (hs.2 _ (ne _ o e)) key]; exact z key⟩)
theorem Ext.own {O : List Addr} {s : Shared} {a : Addr} {o' : Obj} (hO : a ∈ O) (hs : Heap.SameBut a W.h s.heap) (ha : s.heap.get? a = some o') : Ext O W (W.at s) := by
  refine ⟨fun _ _ h => h, fun b o h _ _ hb => (hs.2 b (fun q => hb (q ▸ hO))).trans h, fun b o h => ?_, fun _ h => .inl h, fun _ h => .inl h, fun _ h => h⟩
  by_cases e : b = a
  · rw [e]; exact ⟨o', ha⟩
  · exact ⟨o, (hs.2 b e).trans h⟩
theorem Inv.tabNe {a : Addr} (B : Basis C) (ha : C.H.get? a = none) : ∀ p ∈ tabs, p.1 ≠ a ∧ p.2 ≠ a := fun p hp => by
  obtain ⟨⟨o, vs, h1, _⟩, h2⟩ := B.tab p hp
  exact ⟨(fun q => by rw [q, ha] at h1; (first | exact no_some h1 | cases h1)), (fun q => by rw [q, ha] at h2; (first | exact no_some h2 | cases h2))⟩
theorem limNe {a : Addr} (B : ∃ m, C.H.Ns cStatics m) (ha : C.H.get? a = none) : cStatics ≠ a := fun q => by
  refine ex4_2 B fun m o es ep h _ => ?_
  rw [q, ha] at h; (first | exact no_some h | cases h)
theorem TableAt_same {h h' : Heap} {c P a : Addr} {ps : Array Value} (x : h.TableAt c P ps) (hs : Heap.SameBut a h h') (h1 : c ≠ a) (h2 : P ≠ a) : h'.TableAt c P ps :=
  let ⟨⟨o, vs, e, r⟩, t⟩ := x; ⟨⟨o, vs, (hs.2 _ h1).trans e, r⟩, (hs.2 _ h2).trans t⟩
theorem Inv.turn (B : Basis C) (I : Inv C W μ) {s : Shared} {a : Addr} {o' : Obj} {μ' : MH} (ha : C.H.get? a = none) (hin : a ∈ W.ρ ∨ a ∈ W.M) (hs : Heap.SameBut a W.h s.heap) (ho' : s.heap.get? a = some o')
    (hg : s.gens = W.s.gens) (hos : s.os = W.s.os) (ok : μ'.Ok) (hlen : μ'.next = μ.next)
    (objs : ∀ n o, μ'.get n = some o → ∃ b, W.ρ[n]? = some b ∧ OR C (W.at s) o b) : Inv C (W.at s) μ' where
  old := oldK_same I.old ha hs
  lim := I.lim.sameBut hs (limNe B.st ha)
  tab := fun p hp => TabIn.wk (W := W) (W' := W.at s) ⟨fun _ _ h => h, fun b o h _ hρ hM => ⟨(hs.2 b (fun q => hin.elim (q ▸ hρ) (q ▸ hM))).trans h, hρ, hM⟩⟩ (I.tab p hp) fun _ h => TableAt_same h hs (Inv.tabNe B ha p hp).1 (Inv.tabNe B ha p hp).2
  ok := ok
  objs := objs
  len := hlen.trans I.len
  nd := I.nd
  freshρ := fun b hb => by
    obtain ⟨h1, o, h2⟩ := I.freshρ b hb
    by_cases e : b = a
    · rw [e] at h1 ⊢; exact ⟨h1, o', ho'⟩
    · exact ⟨h1, o, (hs.2 b e).trans h2⟩
  freshM := fun b hb => by
    refine I.freshME b hb fun h1 o h2 h4 => ?_
    by_cases e : b = a
    · rw [e] at h1 h4 ⊢; exact ⟨h1, ⟨o', ho'⟩, h4⟩
    · exact ⟨h1, ⟨o, (hs.2 b e).trans h2⟩, h4⟩
  gens := by show AllBare s.gens; rw [hg]; exact I.gens
  os := hos.trans I.os
  big := I.big
  g3 := I.g3
end
end Mine
end
section
open PySem PySem.W PyProof.Rows PySem.Calls
set_option maxRecDepth 100000
namespace Mine

noncomputable def names : List String := ["target", "source", "cc", "nc", "tt", "ct", "callers", "t_cc", "t_nc", "t_tt", "t_ct", "t_callers", "new_callers", "func", "caller", "i", "j", "calls", "w", "base", "more_than", "show", "seen", "need", "ws", "d", "it", "first", "this", "lo", "hi", "sq", "s", "inner", "a", "b", "DIGLIM", "w5pow", "mid", "n", "pad", "half_n", "mask", "b1", "b2", "q1", "r", "q2", "x", "L", "R", "a_digits", "shift", "upper", "lower", "digits", "q_digits", "a_digit", "q", "q_digit", "script", "even", "odd", "wheel", "k", "step", "rows", "pair", "name", "table", "up", "order", "cards", "none", "heard", "book", "apart", "entry", "total", "place", "rest", "pairs", "share", "moves", "lost", "less", "over", "more", "beyond", "left", "far", "names", "places", "stay", "by", "v", "quotient", "counts", "items", "c", "self", "comp_select_list", "right", "index", "direction", "l", "headers", "value", "regex", "val", "kv", "default"]
noncomputable def nmC : Nat := 112
theorem names_len : names.length = nmC := by decide +kernel
theorem names_nodup : (names.map Str.ofString).Nodup := by decide +kernel
noncomputable def nm (n : Nat) : Str := (names.map Str.ofString).getD n ""
theorem nm_inj {a b : Nat} (ha : a < nmC) (hb : b < nmC) (h : nm a = nm b) : a = b := by
  unfold nm at h
  rw [List.getD_eq_getElem?_getD, List.getD_eq_getElem?_getD, List.getElem?_eq_getElem (by rw [List.length_map, names_len]; exact ha), List.getElem?_eq_getElem (by rw [List.length_map, names_len]; exact hb)] at h
  exact (List.getElem_inj names_nodup).mp h

noncomputable abbrev Locs := List (Nat × MV)
noncomputable def look (ls : Locs) (n : Nat) : Option MV := List.rec (motive := fun _ => Option MV) none (fun p _ ih => bif Nat.beq p.1 n then some p.2 else ih) ls
noncomputable def keep (ls : Locs) (n : Nat) (v : MV) : Locs := List.rec (motive := fun _ => Locs) [(n, v)] (fun p r ih => bif Nat.beq p.1 n then (n, v) :: r else p :: ih) ls
theorem look_keep : ∀ (ls : Locs) (n : Nat) (v : MV) (m : Nat), look (keep ls n v) m = if m = n then some v else look ls m
  | [], n, v, m => by
    show (bif Nat.beq n m then some v else none) = _
    by_cases h : m = n
    · subst h; simp
    · have : Nat.beq n m = false := by cases q : Nat.beq n m with | false => rfl | true => exact absurd (Nat.eq_of_beq_eq_true q).symm h
      simp only [this, h, cond_false, if_false]; rfl
  | p :: r, n, v, m => by
    show look (bif Nat.beq p.1 n then (n, v) :: r else p :: keep r n v) m = _
    cases hp : Nat.beq p.1 n with
    | true =>
      have e : p.1 = n := Nat.eq_of_beq_eq_true hp
      simp only [cond_true]
      show (bif Nat.beq n m then some v else look r m) = if m = n then some v else (bif Nat.beq p.1 m then some p.2 else look r m)
      by_cases h : m = n
      · subst h; simp
      · have : Nat.beq n m = false := by cases q : Nat.beq n m with | false => rfl | true => exact absurd (Nat.eq_of_beq_eq_true q).symm h
        rw [e, this]; simp [h]
    | false =>
      simp only [cond_false]
      show (bif Nat.beq p.1 m then some p.2 else look (keep r n v) m) = _
      rw [look_keep r n v m]
      by_cases h : m = n
      · subst h; rw [hp]; simp
      · simp only [h, if_false]; rfl


theorem nm_plain : ((names.map Str.ofString).all fun x => x != ("__debug__" : Str) && x != ("__classdict__" : Str)) = true := by decide +kernel
theorem nm_ok {n : Nat} (hn : n < nmC) : (nm n == ("__debug__" : Str)) = false ∧ (nm n == ("__classdict__" : Str)) = false := by
  have hl : n < (names.map Str.ofString).length := by rw [List.length_map, names_len]; exact hn
  have e : nm n = (names.map Str.ofString)[n] := by
    unfold nm; rw [List.getD_eq_getElem?_getD, List.getElem?_eq_getElem hl]; rfl
  have := List.all_eq_true.mp nm_plain _ (List.getElem_mem hl)
  rw [← e, Bool.and_eq_true] at this
  simp only [bne_iff_ne, ne_eq] at this
  exact ⟨beq_eq_false_iff_ne.mpr this.1, beq_eq_false_iff_ne.mpr this.2⟩

noncomputable def NoE : Value → Shared → Prop := fun _ _ => False
theorem up {α : Type} {M : Model} {A : Around} {t : Sem α} {Q : α → Shared → Prop} {E : Value → Shared → Prop} {s : Shared} (h : wpAny M A t Q NoE s) : wpAny M A t Q E s := wpAny_mono h (fun _ _ q => q) fun _ _ q => False.elim q
structure Fd where
  sc : Scope
  own : List Nat
  co : Option (Addr × Str)
structure EnvOk (D : Fd) (env : Env) : Prop where
  is : env.scope = D.sc
  kind : D.sc.kind = .function
  gl : env.globals = mainGlobals
  bi : env.builtins = builtinsNs
  co : ∀ p, D.co = some p → env.code = .ref p.1 ∧ env.qual = p.2
structure AOk (k : Nat) (A : Around) : Prop where
  hd : A.handled = none
  dep : A.depth + 4 * k + 4 < 990
  un : A.units + 64 * k + 1000 < 9900
theorem AOk.zero {k : Nat} {A : Around} (ao : AOk k A) : AOk 0 A := ⟨ao.hd, by have := ao.dep; omega, by have := ao.un; omega⟩
theorem AOk.cl {k : Nat} {A : Around} (ao : AOk k A) : A.units + 64 < cLine := by have := ao.un; unfold cLine; omega
noncomputable def IsVar (sc : Scope) (x : Str) : Bool := match sc.names.lookup x with
  | some .local | some .cell | some .free => true
  | _ => false
inductive VarAt (h : Heap) (env : Env) (x : Str) (v : Value) : Prop
  | loc (m : Str → Option Value) : env.kindOf x = some .local → h.Ns env.locals m → m x = some v → VarAt h env x v
  | cell (c : Addr) : env.kindOf x = some .cell → env.cells.lookup x = some c → h.IsCell c (some v) → VarAt h env x v
  | free (c : Addr) : env.kindOf x = some .free → env.cells.lookup x = some c → h.IsCell c (some v) → VarAt h env x v
structure FrOk (C : Cst) (W : Wd) (env : Env) (own : List Nat) (O : List Addr) (ls : Locs) : Prop where
  LO : env.locals ∈ O
  OM : ∀ a ∈ O, a ∈ W.M
  ns : ∃ m, W.h.Ns env.locals m
  cM : ∀ x c, (x, c) ∈ env.cells → c ∈ W.M ∧ c ≠ env.locals ∧ ∃ v, W.h.IsCell c v
  cap : env.cells.Pairwise fun x y => x.2 ≠ y.2
  ow : ∀ n ∈ own, ∃ c, env.cells.lookup (nm n) = some c ∧ c ∈ O
  vars : ∀ n v, n < nmC → look ls n = some v → IsVar env.scope (nm n) = true → ∃ pv, VR C.Q W.h W.ρ W.M v pv ∧ VarAt W.h env (nm n) pv
section
variable {C : Cst} {W W' : Wd} {μ : MH} {env : Env} {own : List Nat} {O : List Addr} {ls : Locs}
theorem FrOk.LM (F : FrOk C W env own O ls) : env.locals ∈ W.M := F.OM _ F.LO
theorem Inv.mine (I : Inv C W μ) (x : Ext [] W W') {a : Addr} (ha : a ∈ W.M) {o : Obj} (h : W.h.get? a = some o) : W'.h.get? a = some o := by
  exact x.fr a _ h (.inr ha) (I.freshM a ha).2.2 (fun h => nomatch h)
theorem VarAt.mono (I : Inv C W μ) (x : Ext [] W W') (F : FrOk C W env own O ls) {n : Str} {v : Value} (h : VarAt W.h env n v) : VarAt W'.h env n v := by
  cases h with
  | loc m h1 h2 h3 => refine ex3_2 h2 fun o es ep h4 r => ?_; exact .loc m h1 ⟨o, es, ep, I.mine x F.LM h4, r⟩ h3
  | cell c h1 h2 h3 => refine ex1_2 h3 fun o h4 r => ?_; exact .cell c h1 h2 ⟨o, I.mine x (F.cM _ _ (mem_of_lookup h2)).1 h4, r⟩
  | free c h1 h2 h3 => refine ex1_2 h3 fun o h4 r => ?_; exact .free c h1 h2 ⟨o, I.mine x (F.cM _ _ (mem_of_lookup h2)).1 h4, r⟩
theorem FrOk.mono (I : Inv C W μ) (x : Ext [] W W') (F : FrOk C W env own O ls) : FrOk C W' env own O ls where
  LO := F.LO
  OM := fun a h => x.subM _ (F.OM a h)
  ns := let ⟨m, o, es, ep, h, r⟩ := F.ns; ⟨m, o, es, ep, I.mine x F.LM h, r⟩
  cM := fun n c h => let ⟨h1, h2, v, o, h3, h4⟩ := F.cM n c h; ⟨x.subM _ h1, h2, v, o, I.mine x h1 h3, h4⟩
  cap := F.cap
  ow := F.ow
  vars := fun n v hn h hv => let ⟨pv, h1, h2⟩ := F.vars n v hn h hv; ⟨pv, VR.mono x (fun _ h => nomatch h) h1, VarAt.mono I x F h2⟩
end

noncomputable abbrev Ev := Locs → MH → Option (MV × MH)
noncomputable def Says (C : Cst) (W : Wd) (v : MV) (μ' : MH) (Q : Value → Shared → Prop) : Prop :=
  ∀ W' pv, Ext [] W W' → Inv C W' μ' → VR C.Q W'.h W'.ρ W'.M v pv → Q pv W'.s
noncomputable def SimE (C : Cst) (D : Fd) (k : Nat) (e : Expr) (f : Ev) : Prop :=
  ∀ ls μ v μ', f ls μ = some (v, μ') → ∀ W env O A, EnvOk D env → AOk k A → Inv C W μ → FrOk C W env D.own O ls →
    ∀ Q, Says C W v μ' Q → wpAny (model P0 C.w) A (eval e env) Q NoE W.s
theorem Says.step {C : Cst} {W W₁ : Wd} {v : MV} {μ' : MH} {Q : Value → Shared → Prop} (h : Says C W v μ' Q) (x : Ext [] W W₁) : Says C W₁ v μ' Q :=
  fun W' pv x' I V => h W' pv (x.trans x') I V

section
variable {C : Cst} {W : Wd} {μ : MH}
theorem Inv.tok (I : Inv C W μ) (t : Nat) : Inv C (W.at { W.s with toks := t }) μ := I.keep (fun _ _ h => h) I.gens rfl
theorem Ext.tok (O : List Addr) (W : Wd) (t : Nat) : Ext O W (W.at { W.s with toks := t }) := Ext.keep O fun _ _ h => h
theorem Says.int {i : Int} {Q : Value → Shared → Prop} (I : Inv C W μ) (h : Says C W (.int i) μ Q) (t : Tok) (tk : Nat) : Q (.int i t) { W.s with toks := tk } := h (W.at { W.s with toks := tk }) _ (Ext.tok _ _ _) (I.tok tk) (.int i t)
theorem Says.lin {a b : Int} {Q : Value → Shared → Prop} (I : Inv C W μ) (h : Says C W (.lin a b) μ Q) (t : Tok) (tk : Nat) : Q (.int (a * C.Q + b) t) { W.s with toks := tk } := h (W.at { W.s with toks := tk }) _ (Ext.tok _ _ _) (I.tok tk) (.lin a b t)
theorem Says.str {l : List Nat} {s : Str} {Q : Value → Shared → Prop} (I : Inv C W μ) (h : Says C W (.str l) μ Q) (e : s.cps.toList = l) (t : Tok) (tk : Nat) : Q (.str s t) { W.s with toks := tk } := h (W.at { W.s with toks := tk }) _ (Ext.tok _ _ _) (I.tok tk) (.str l s t e)
theorem Says.bool {b : Bool} {Q : Value → Shared → Prop} (I : Inv C W μ) (h : Says C W (.bool b) μ Q) : Q (.bool b) W.s := h W _ (Ext.refl _ _) I (.bool b)
theorem Says.nun {Q : Value → Shared → Prop} (I : Inv C W μ) (h : Says C W .none μ Q) : Q .none W.s := h W _ (Ext.refl _ _) I .none
end

noncomputable def cInt (i : Int) : Ev := fun _ μ => some (.int i, μ)
noncomputable def cNone : Ev := fun _ μ => some (.none, μ)
noncomputable def cBool (b : Bool) : Ev := fun _ μ => some (.bool b, μ)
noncomputable def cStr (l : List Nat) : Ev := fun _ μ => some (.str l, μ)
noncomputable def cVar (n : Nat) : Ev := fun ls μ => match look ls n with
  | some v => some (v, μ)
  | none => none
section
variable {C : Cst} {D : Fd} {k : Nat}
theorem sim_int (i : Int) (u : Nat) (pos : Pos) : SimE C D k (.Constant (.int i) u pos) (cInt i) := by
  intro ls μ v μ' h W env O A eo ao I F Q hQ
  (first | exact no_some h | cases h)
  exact wpAny_Constant_int (hQ.int I _ _)
theorem sim_none (u : Nat) (pos : Pos) : SimE C D k (.Constant .none u pos) cNone := by
  intro ls μ v μ' h W env O A eo ao I F Q hQ
  (first | exact no_some h | cases h)
  exact fun _ _ _ => hQ.nun I
theorem sim_bool (b : Bool) (u : Nat) (pos : Pos) : SimE C D k (.Constant (.bool b) u pos) (cBool b) := by
  intro ls μ v μ' h W env O A eo ao I F Q hQ
  (first | exact no_some h | cases h)
  exact fun _ _ _ => hQ.bool I
theorem sim_str (x : Str) (l : List Nat) (u : Nat) (pos : Pos) (e : x.cps.toList = l := by kernel_rfl) : SimE C D k (.Constant (.str x) u pos) (cStr l) := by
  intro ls μ v μ' h W env O A eo ao I F Q hQ
  (first | exact no_some h | cases h)
  exact Constant_str (hQ.str I e _ _)
theorem sim_var (n : Nat) (x : Str) (pos : Pos) (hx : nm n = x := by rfl) (hn : n < nmC := by decide) (hv : IsVar D.sc (nm n) = true := by rfl) : SimE C D k (.Name x pos) (cVar n) := by
  intro ls μ v μ' h W env O A eo ao I F Q hQ
  unfold cVar at h
  split at h
  · rename_i v' hl
    (first | exact no_some h | cases h)
    subst hx
    refine ex1_2 (F.vars n v hn hl (by rw [eo.is]; exact hv)) fun pv h1 h2 => ?_
    have hk : env.scope.kind = .function := by rw [eo.is]; exact eo.kind
    refine wpAny_Name ?_ (nm_ok hn).1
    have q := hQ W pv (Ext.refl _ _) I h1
    cases h2 with
    | loc m h3 h4 h5 => exact wpAny_loadName_local hk h3 h4 h5 q
    | cell c h3 h4 h5 => exact wpAny_loadName_cell hk h3 h4 h5 q
    | free c h3 h4 h5 => exact wpAny_loadName_free hk h3 h4 h5 q (nm_ok hn).2
  · (first | exact no_some h | cases h)
end
end Mine
end
section
open PySem PySem.W PyProof.Rows PySem.Calls
set_option maxRecDepth 100000
namespace Mine

noncomputable abbrev Op2 := MV → MV → MH → Option (MV × MH)
noncomputable def SimO (C : Cst) (op : Operator) (g : Op2) : Prop :=
  ∀ x y μ v μ', g x y μ = some (v, μ') → ∀ W px py A, AOk 0 A → Inv C W μ → VR C.Q W.h W.ρ W.M x px → VR C.Q W.h W.ρ W.M y py →
    ∀ Q, Says C W v μ' Q → wpAny (model P0 C.w) A (binaryOp op px py) Q NoE W.s
noncomputable def SimC (C : Cst) (op : CmpOp) (g : Op2) : Prop :=
  ∀ x y μ v μ', g x y μ = some (v, μ') → ∀ W px py A, AOk 0 A → Inv C W μ → VR C.Q W.h W.ρ W.M x px → VR C.Q W.h W.ρ W.M y py →
    ∀ Q, Says C W v μ' Q → wpAny (model P0 C.w) A (compareOp op px py) Q NoE W.s
noncomputable def mkLin (a b : Int) : MV := match a with
  | .ofNat 0 => .int b
  | _ => .lin a b
theorem VR.mkLin {Q : Int} {h : Heap} {ρ M : List Addr} (a b : Int) (t : Tok) : VR Q h ρ M (Mine.mkLin a b) (.int (a * Q + b) t) := by
  unfold Mine.mkLin
  split
  · rw [show (Int.ofNat 0 : Int) * Q + b = b from by simp]; exact .int b t
  · exact .lin a b t
noncomputable def cBin (g : Op2) (a b : Ev) : Ev := fun ls μ => match a ls μ with
  | some (x, μ₁) => match b ls μ₁ with
    | some (y, μ₂) => g x y μ₂
    | none => none
  | none => none
section
variable {C : Cst} {D : Fd} {k : Nat}
theorem Says.of_mkLin {W : Wd} {μ : MH} {a b : Int} {Q : Value → Shared → Prop} (I : Inv C W μ) (h : Says C W (mkLin a b) μ Q) (t : Tok) (tk : Nat) : Q (.int (a * C.Q + b) t) { W.s with toks := tk } :=
  h (W.at { W.s with toks := tk }) _ (Ext.tok _ _ _) (I.tok tk) (VR.mkLin a b t)
theorem sim_bin {op : Operator} {g : Op2} {l r : Expr} {a b : Ev} (pos : Pos) (ho : SimO C op g) (ha : SimE C D k l a) (hb : SimE C D k r b) : SimE C D k (.BinOp l op r pos) (cBin g a b) := by
  intro ls μ v μ' h W env O A eo ao I F Q hQ
  unfold cBin at h
  split at h
  · rename_i x μ₁ h1
    split at h
    · rename_i y μ₂ h2
      refine wpAny_BinOp (ha ls μ x μ₁ h1 W env O A eo ao I F _ fun W₁ px x₁ I₁ V₁ => ?_)
      refine hb ls μ₁ y μ₂ h2 W₁ env O A eo ao I₁ (F.mono I x₁) _ fun W₂ py x₂ I₂ V₂ => ?_
      exact ho x y μ₂ v μ' h W₂ px py A ao.zero I₂ (VR.mono x₂ (fun _ h => nomatch h) V₁) V₂ _ ((hQ.step x₁).step x₂)
    · (first | exact no_some h | cases h)
  · (first | exact no_some h | cases h)
theorem sim_cmp {op : CmpOp} {g : Op2} {l r : Expr} {a b : Ev} (pos : Pos) (ho : SimC C op g) (ha : SimE C D k l a) (hb : SimE C D k r b) (hm : behindInMarks op r = false := by with_unfolding_all rfl) : SimE C D k (.Compare l [op] [r] pos) (cBin g a b) := by
  intro ls μ v μ' h W env O A eo ao I F Q hQ
  unfold cBin at h
  split at h
  · rename_i x μ₁ h1
    split at h
    · rename_i y μ₂ h2
      refine wpAny_Compare1 (ha ls μ x μ₁ h1 W env O A eo ao I F _ fun W₁ px x₁ I₁ V₁ => ?_) hm
      refine hb ls μ₁ y μ₂ h2 W₁ env O A eo ao I₁ (F.mono I x₁) _ fun W₂ py x₂ I₂ V₂ => ?_
      exact ho x y μ₂ v μ' h W₂ px py A ao.zero I₂ (VR.mono x₂ (fun _ h => nomatch h) V₁) V₂ _ ((hQ.step x₁).step x₂)
    · (first | exact no_some h | cases h)
  · (first | exact no_some h | cases h)
end

noncomputable def oSub : Op2 := fun x y μ => match x, y with
  | .int a, .int b => some (.int (a - b), μ)
  | _, _ => none
noncomputable def small (a : Int) : Bool := Nat.blt a.natAbs 4611686018427387904
noncomputable def oMul : Op2 := fun x y μ => match x, y with
  | .int a, .int b => bif small b then some (.int (a * b), μ) else none
  | .lin a c, .int b => bif small b then some (mkLin (a * b) (c * b), μ) else none
  | _, _ => none
noncomputable def isZ (a : Int) : Bool := match a with
  | .ofNat 0 => true
  | _ => false
theorem isZ_eq {a : Int} : isZ a = true ↔ a = 0 := by
  unfold isZ; split
  · simp
  · rename_i h; constructor
    · intro q; (first | exact no_some q | cases q)
    · intro q; subst q; exact absurd rfl h
noncomputable def oDiv : Op2 := fun x y μ => match x, y with
  | .int a, .int b => bif isZ b then none else bif small b then some (.int (a.fdiv b), μ) else none
  | .lin a c, .int b => bif isZ b then none else bif isZ (a.fmod b) then bif small b then some (mkLin (a.fdiv b) (c.fdiv b), μ) else none else none
  | _, _ => none
noncomputable def oMod : Op2 := fun x y μ => match x, y with
  | .int a, .int b => bif isZ b then none else some (.int (a.fmod b), μ)
  | .lin a c, .int b => bif isZ b then none else bif isZ (a.fmod b) then some (.int (c.fmod b), μ) else none
  | _, _ => none
noncomputable def ltI (a b : Int) : Bool := match a, b with
  | .ofNat m, .ofNat n => Nat.blt m n
  | .ofNat _, .negSucc _ => false
  | .negSucc _, .ofNat _ => true
  | .negSucc m, .negSucc n => Nat.blt n m
theorem ltI_eq (a b : Int) : ltI a b = decide (a < b) := by
  unfold ltI
  split
  · rename_i m n
    cases h : Nat.blt m n with
    | true => have := Nat.le_of_ble_eq_true h; symm; rw [decide_eq_true_eq]; show (m : Int) < (n : Int); omega
    | false =>
      symm; rw [decide_eq_false_iff_not]; intro q
      have q' : (m : Int) < (n : Int) := q
      have : Nat.blt m n = true := Nat.ble_eq_true_of_le (by omega)
      rw [h] at this; (first | exact no_some this | cases this)
  · rename_i m n; symm; rw [decide_eq_false_iff_not]; intro q; have : (m : Int) < Int.negSucc n := q; omega
  · rename_i m n; symm; rw [decide_eq_true_eq]; show Int.negSucc m < (n : Int); omega
  · rename_i m n
    cases h : Nat.blt n m with
    | true => have := Nat.le_of_ble_eq_true h; symm; rw [decide_eq_true_eq]; omega
    | false =>
      symm; rw [decide_eq_false_iff_not]; intro q
      have : Nat.blt n m = true := Nat.ble_eq_true_of_le (by omega)
      rw [h] at this; (first | exact no_some this | cases this)
noncomputable def eqI (a b : Int) : Bool := match a, b with
  | .ofNat m, .ofNat n => Nat.beq m n
  | .negSucc m, .negSucc n => Nat.beq m n
  | _, _ => false
theorem eqI_eq (a b : Int) : eqI a b = (a == b) := by
  have nb : ∀ m n : Nat, Nat.beq m n = decide (m = n) := fun m n => by
    cases h : Nat.beq m n with
    | true => symm; rw [decide_eq_true_eq]; exact Nat.eq_of_beq_eq_true h
    | false => symm; rw [decide_eq_false_iff_not]; exact Nat.ne_of_beq_eq_false h
  unfold eqI
  split
  · rename_i m n; rw [nb]; show _ = ((m : Int) == (n : Int))
    by_cases h : m = n
    · subst h; simp
    · have : ¬ (m : Int) = (n : Int) := by omega
      simp [h, this]
  · rename_i m n; rw [nb]
    by_cases h : m = n
    · subst h; simp
    · have : ¬ Int.negSucc m = Int.negSucc n := by intro q; injection q with q; exact h q
      simp [h]
  · rename_i h1 h2
    symm; rw [beq_eq_false_iff_ne]; intro q; subst q
    cases a with
    | ofNat m => exact h1 m m rfl rfl
    | negSucc m => exact h2 m m rfl rfl
noncomputable def oLt : Op2 := fun x y μ => match x, y with
  | .int a, .int b => some (.bool (ltI a b), μ)
  | _, _ => none
noncomputable def oGt : Op2 := fun x y μ => match x, y with
  | .int a, .int b => some (.bool (ltI b a), μ)
  | _, _ => none
noncomputable def oLe : Op2 := fun x y μ => match x, y with
  | .int a, .int b => some (.bool (!ltI b a), μ)
  | _, _ => none
noncomputable def oGe : Op2 := fun x y μ => match x, y with
  | .int a, .int b => some (.bool (!ltI a b), μ)
  | _, _ => none
section
variable {C : Cst}
theorem so_sub : SimO C .Sub oSub := by
  intro x y μ v μ' h W px py A hA I Vx Vy Q hQ
  unfold oSub at h
  split at h
  · (first | exact no_some h | cases h); refine Vx.intE fun _ => ?_; refine Vy.intE fun _ => ?_; exact sub_int (hQ.int I _ _)
  · (first | exact no_some h | cases h)
theorem mulOk {a b : Int} (h : small b = true) : IntMulOk a b := by
  have := Nat.le_of_ble_eq_true h
  exact IntMulOk.of_right (intBits_le_64 (by omega) (by omega))
theorem so_mul : SimO C .Mult oMul := by
  intro x y μ v μ' h W px py A hA I Vx Vy Q hQ
  unfold oMul at h
  split at h
  · refine Vx.intE fun _ => ?_; refine Vy.intE fun _ => ?_
    rename_i a b _ _
    cases hs : small b with
    | false => rw [hs] at h; (first | exact no_some h | cases h)
    | true => rw [hs] at h; (first | exact no_some h | cases h); exact mul_int (hQ.int I _ _) (mulOk hs)
  · refine Vx.linE fun _ => ?_; refine Vy.intE fun _ => ?_
    rename_i a c b _ _
    cases hs : small b with
    | false => rw [hs] at h; (first | exact no_some h | cases h)
    | true =>
      rw [hs] at h; (first | exact no_some h | cases h)
      refine mul_int ?_ (mulOk hs)
      rw [show (a * C.Q + c) * b = a * b * C.Q + c * b from by rw [Int.add_mul, Int.mul_right_comm]]
      exact hQ.of_mkLin I _ _
  · (first | exact no_some h | cases h)
theorem noPy {a b : Int} (h : small b = true) : Builtin.divisionGoesByPylong a b = false := by
  have h1 := Nat.le_of_ble_eq_true h
  refine PyProof.noPylong_of_log2 ?_
  by_cases z : b.natAbs = 0
  · rw [z]; decide
  · have := (Nat.log2_lt z).mpr (show b.natAbs < 2 ^ 62 by omega)
    omega
theorem fdiv_lin {a c b q : Int} (hb : b ≠ 0) (h : a.fmod b = 0) : (a * q + c).fdiv b = a.fdiv b * q + c.fdiv b := by
  have e : a = b * a.fdiv b := by have := Int.mul_fdiv_add_fmod a b; rw [h] at this; omega
  generalize a.fdiv b = d at e
  subst e
  rw [show b * d * q + c = c + b * (d * q) from by rw [Int.mul_assoc, Int.add_comm], Int.add_mul_fdiv_left _ _ hb, Int.add_comm]
theorem fmod_lin {a c b q : Int} (h : a.fmod b = 0) : (a * q + c).fmod b = c.fmod b := by
  have e : a = b * a.fdiv b := by have := Int.mul_fdiv_add_fmod a b; rw [h] at this; omega
  generalize a.fdiv b = d at e
  subst e
  rw [show b * d * q + c = c + b * (d * q) from by rw [Int.mul_assoc, Int.add_comm], Int.add_mul_fmod_self_left]
theorem so_div : SimO C .FloorDiv oDiv := by
  intro x y μ v μ' h W px py A hA I Vx Vy Q hQ
  unfold oDiv at h
  split at h
  · refine Vx.intE fun _ => ?_; refine Vy.intE fun _ => ?_
    rename_i a b _ _
    cases hz : isZ b with
    | true => rw [hz] at h; (first | exact no_some h | cases h)
    | false =>
      rw [hz] at h
      cases hs : small b with
      | false => rw [hs] at h; (first | exact no_some h | cases h)
      | true => rw [hs] at h; (first | exact no_some h | cases h); exact floordiv_int (fun q => by rw [isZ_eq.mpr q] at hz; (first | exact no_some hz | cases hz)) (hQ.int I _ _) (.inl (noPy hs))
  · refine Vx.linE fun _ => ?_; refine Vy.intE fun _ => ?_
    rename_i a c b _ _
    cases hz : isZ b with
    | true => rw [hz] at h; (first | exact no_some h | cases h)
    | false =>
      rw [hz] at h
      cases hm : isZ (a.fmod b) with
      | false => rw [hm] at h; (first | exact no_some h | cases h)
      | true =>
        rw [hm] at h
        cases hs : small b with
        | false => rw [hs] at h; (first | exact no_some h | cases h)
        | true =>
          rw [hs] at h; (first | exact no_some h | cases h)
          have hb : b ≠ 0 := fun q => by rw [isZ_eq.mpr q] at hz; (first | exact no_some hz | cases hz)
          refine floordiv_int hb ?_ (.inl (noPy hs))
          rw [fdiv_lin hb (isZ_eq.mp hm)]
          exact hQ.of_mkLin I _ _
  · (first | exact no_some h | cases h)
theorem so_mod : SimO C .Mod oMod := by
  intro x y μ v μ' h W px py A hA I Vx Vy Q hQ
  unfold oMod at h
  split at h
  · refine Vx.intE fun _ => ?_; refine Vy.intE fun _ => ?_
    rename_i a b _ _
    cases hz : isZ b with
    | true => rw [hz] at h; (first | exact no_some h | cases h)
    | false => rw [hz] at h; (first | exact no_some h | cases h); exact mod_int (fun q => by rw [isZ_eq.mpr q] at hz; (first | exact no_some hz | cases hz)) (hQ.int I _ _)
  · refine Vx.linE fun _ => ?_; refine Vy.intE fun _ => ?_
    rename_i a c b _ _
    cases hz : isZ b with
    | true => rw [hz] at h; (first | exact no_some h | cases h)
    | false =>
      rw [hz] at h
      cases hm : isZ (a.fmod b) with
      | false => rw [hm] at h; (first | exact no_some h | cases h)
      | true =>
        rw [hm] at h; (first | exact no_some h | cases h)
        have hb : b ≠ 0 := fun q => by rw [isZ_eq.mpr q] at hz; (first | exact no_some hz | cases hz)
        refine mod_int hb ?_
        rw [fmod_lin (isZ_eq.mp hm)]
        exact hQ.int I _ _
  · (first | exact no_some h | cases h)
theorem sc_lt : SimC C .Lt oLt := by
  intro x y μ v μ' h W px py A hA I Vx Vy Q hQ
  unfold oLt at h
  split at h
  · (first | exact no_some h | cases h); refine Vx.intE fun _ => ?_; refine Vy.intE fun _ => ?_; refine lt_int ?_; rw [← ltI_eq]; exact hQ.bool I
  · (first | exact no_some h | cases h)
theorem sc_gt : SimC C .Gt oGt := by
  intro x y μ v μ' h W px py A hA I Vx Vy Q hQ
  unfold oGt at h
  split at h
  · (first | exact no_some h | cases h); refine Vx.intE fun _ => ?_; refine Vy.intE fun _ => ?_; refine gt_int ?_; rw [← ltI_eq]; exact hQ.bool I
  · (first | exact no_some h | cases h)
theorem sc_le : SimC C .LtE oLe := by
  intro x y μ v μ' h W px py A hA I Vx Vy Q hQ
  unfold oLe at h
  split at h
  · rename_i a b
    (first | exact no_some h | cases h); refine Vx.intE fun _ => ?_; refine Vy.intE fun _ => ?_; refine le_int ?_
    rw [show decide (a ≤ b) = !ltI b a from by rw [ltI_eq]; by_cases q : a ≤ b <;> simp [q] <;> omega]; exact hQ.bool I
  · (first | exact no_some h | cases h)
theorem sc_ge : SimC C .GtE oGe := by
  intro x y μ v μ' h W px py A hA I Vx Vy Q hQ
  unfold oGe at h
  split at h
  · rename_i a b
    (first | exact no_some h | cases h); refine Vx.intE fun _ => ?_; refine Vy.intE fun _ => ?_; refine ge_int ?_
    rw [show decide (b ≤ a) = !ltI a b from by rw [ltI_eq]; by_cases q : b ≤ a <;> simp [q] <;> omega]; exact hQ.bool I
  · (first | exact no_some h | cases h)
end
end Mine
end
section
open PySem PySem.W PyProof.Rows PySem.Calls
set_option maxRecDepth 100000
namespace Mine

noncomputable def Wd.hid (W : Wd) (s : Shared) (as : List Addr) : Wd := ⟨s, W.ρ, as ++ W.M⟩
section
variable {C : Cst} {W : Wd} {μ : MH}
theorem Ext.hid (O : List Addr) {s : Shared} {as : List Addr} (k : OKeep W.h s.heap) (hf : ∀ a ∈ as, W.h.get? a = none) : Ext O W (W.hid s as) :=
  ⟨fun _ _ h => h, fun b o h _ _ _ => k b o h, fun b o h => ⟨o, k b o h⟩, fun _ h => .inl h, (fun b h => (List.mem_append.mp h).elim (fun q => .inr (hf b q)) .inl), fun _ h => List.mem_append_right _ h⟩
theorem Inv.freshC (I : Inv C W μ) {a : Addr} (h : W.h.get? a = none) : C.H.get? a = none := by
  cases q : C.H.get? a with
  | none => rfl
  | some o => refine ex1_1 (I.old.there _ _ q) fun o' h' => ?_; rw [h'] at h; (first | exact no_some h | cases h)
theorem Inv.hid (I : Inv C W μ) {s : Shared} {as : List Addr} (k : OKeep W.h s.heap) (hf : ∀ a ∈ as, W.h.get? a = none) (al : ∀ a ∈ as, ∃ o, s.heap.get? a = some o) (hg : AllBare s.gens) (ho : s.os = W.s.os) : Inv C (W.hid s as) μ where
  old := I.old.step_keeps k
  lim := I.lim.keeps k
  tab := fun p hp => (I.tab p hp).wk ((Ext.hid [] k hf).wk (fun _ h => nomatch h)) fun _ h => h.keeps k
  ok := I.ok
  objs := fun n o h => let ⟨a, h1, h2⟩ := I.objs n o h; ⟨a, h1, OR.mono (Ext.hid [] k hf) (fun _ h => nomatch h) (k a) h2⟩
  len := I.len
  nd := I.nd
  freshρ := fun a ha => let ⟨h1, o, h2⟩ := I.freshρ a ha; ⟨h1, o, k _ _ h2⟩
  freshM := fun a ha => by
    rcases List.mem_append.mp ha with h | h
    · exact ⟨I.freshC (hf a h), al a h, fun q => by obtain ⟨_, o, e⟩ := I.freshρ a q; rw [hf a h] at e; cases e⟩
    · refine I.freshME a h fun h1 o h2 h3 => ?_; exact ⟨h1, ⟨o, k _ _ h2⟩, h3⟩
  gens := hg
  os := ho.trans I.os
  big := I.big
  g3 := I.g3
theorem Inv.turnM (B : Basis C) (I : Inv C W μ) {s : Shared} {a : Addr} {o' : Obj} (haM : a ∈ W.M) (hs : Heap.SameBut a W.h s.heap) (ho' : s.heap.get? a = some o') (hg : s.gens = W.s.gens) (hos : s.os = W.s.os) : Inv C (W.at s) μ :=
  Inv.turn B I (I.freshM a haM).1 (.inr haM) hs ho' hg hos I.ok rfl fun n o h => by
    refine ex1_2 (I.objs n o h) fun b h1 h2 => ?_
    have ne : b ≠ a := fun q => (I.freshM a haM).2.2 (q ▸ List.mem_of_getElem? h1)
    exact ⟨b, h1, OR.mono (Ext.own (List.mem_singleton_self a) hs ho') (fun x hx => by rw [List.mem_singleton.mp hx]; exact haM) (fun ob e => (hs.2 b ne).trans e) h2⟩
theorem Ns_eq {h : Heap} {a : Addr} {m m' : Str → Option Value} (x : h.Ns a m) (y : h.Ns a m') : m = m' := by
  refine ex3_4 x fun o es ep h1 h2 _ h3 => ?_
  refine ex3_4 y fun o' es' ep' h1' h2' _ h3' => ?_
  have : o = o' := Option.some.inj (h1.symm.trans h1')
  subst this
  rw [h2] at h2'; (first | exact no_some h2' | cases h2')
  funext n; rw [← h3, ← h3']
end
noncomputable def Sto (D : Fd) (n : Nat) : Bool := match D.sc.names.lookup (nm n) with
  | some .local => true
  | some .cell => D.own.contains n
  | _ => false
section
variable {C : Cst} {W : Wd} {μ : MH} {env : Env} {D : Fd} {O : List Addr} {ls : Locs} {A : Around}
theorem sim_store {n : Nat} {v : MV} {pv : Value} {Q : Unit → Shared → Prop} (B : Basis C) (eo : EnvOk D env) (I : Inv C W μ) (F : FrOk C W env D.own O ls) (hn : n < nmC) (hs : Sto D n = true) (V : VR C.Q W.h W.ρ W.M v pv)
    (hQ : ∀ W', Ext O W W' → Inv C W' μ → FrOk C W' env D.own O (keep ls n v) → Q () W'.s) : wpAny (model P0 C.w) A (storeName env (nm n) pv) Q NoE W.s := by
  have hkf : env.scope.kind = .function := by rw [eo.is]; exact eo.kind
  unfold Sto at hs
  split at hs
  · rename_i hl
    have hl' : env.kindOf (nm n) = some .local := by unfold Env.kindOf; rw [eo.is]; exact hl
    refine ex1_1 F.ns fun m hm => ?_
    refine wpAny_storeName_local hl' hm (fun h' hn' hsb => ?_) (by rw [hkf]; rfl)
    have hn0 := hn'
    refine ex3_2 hn' fun o' es ep ho' r => ?_
    have x : Ext O W (W.at { W.s with heap := h', toks := W.s.toks + 1 }) := Ext.own F.LO hsb ho'
    refine hQ (W.at { W.s with heap := h', toks := W.s.toks + 1 }) x (Inv.turnM B I F.LM hsb ho' rfl rfl) ?_
    refine ⟨F.LO, F.OM, ⟨_, hn0⟩, fun y c h => ?_, F.cap, F.ow, fun n' v' hn'' hlk hv => ?_⟩
    · obtain ⟨h1, h2, v, h3⟩ := F.cM y c h
      exact ⟨h1, h2, v, h3.sameBut hsb h2⟩
    · rw [look_keep] at hlk
      by_cases e : n' = n
      · subst e
        rw [if_pos rfl] at hlk; (first | exact no_some hlk | cases hlk)
        exact ⟨pv, VR.mono x F.OM V, .loc _ hl' hn0 (by simp)⟩
      · rw [if_neg e] at hlk
        refine ex1_2 (F.vars n' v' hn'' hlk hv) fun pv' h1 h2 => ?_
        refine ⟨pv', VR.mono x F.OM h1, ?_⟩
        have ne : nm n' ≠ nm n := fun q => e (nm_inj hn'' hn q)
        cases h2 with
        | loc m₀ a1 a2 a3 => exact .loc _ a1 hn0 (by rw [Ns_eq a2 hm] at a3; simp only [ne, if_false]; exact a3)
        | cell c a1 a2 a3 => exact .cell c a1 a2 (a3.sameBut hsb (F.cM _ _ (mem_of_lookup a2)).2.1)
        | free c a1 a2 a3 => exact .free c a1 a2 (a3.sameBut hsb (F.cM _ _ (mem_of_lookup a2)).2.1)
  · rename_i hl
    have hl' : env.kindOf (nm n) = some .cell := by unfold Env.kindOf; rw [eo.is]; exact hl
    refine ex1_2 (F.ow n (by simpa using hs)) fun c hc hcO => ?_
    obtain ⟨hcM, hcL, v₀, hcv⟩ := F.cM _ _ (mem_of_lookup hc)
    refine wpAny_storeName_cell hkf hl' hc hcv fun h' hc' hsb => ?_
    have hc0 := hc'
    refine ex1_2 hc' fun o' ho' r => ?_
    have x : Ext O W (W.at { W.s with heap := h' }) := Ext.own hcO hsb ho'
    refine hQ (W.at { W.s with heap := h' }) x (Inv.turnM B I hcM hsb ho' rfl rfl) ?_
    refine ⟨F.LO, F.OM, F.ns.imp fun m hm => hm.sameBut hsb (Ne.symm hcL), fun y c' h => ?_, F.cap, F.ow, fun n' v' hn'' hlk hv => ?_⟩
    · obtain ⟨h1, h2, v, h3⟩ := F.cM y c' h
      by_cases e : c' = c
      · rw [e] at h1 h2 ⊢; exact ⟨h1, h2, _, hc0⟩
      · exact ⟨h1, h2, v, h3.sameBut hsb e⟩
    · rw [look_keep] at hlk
      by_cases e : n' = n
      · subst e
        rw [if_pos rfl] at hlk; (first | exact no_some hlk | cases hlk)
        exact ⟨pv, VR.mono x F.OM V, .cell _ hl' hc hc0⟩
      · rw [if_neg e] at hlk
        refine ex1_2 (F.vars n' v' hn'' hlk hv) fun pv' h1 h2 => ?_
        refine ⟨pv', VR.mono x F.OM h1, ?_⟩
        have ne : nm n' ≠ nm n := fun q => e (nm_inj hn'' hn q)
        cases h2 with
        | loc m₀ a1 a2 a3 => exact .loc _ a1 (a2.sameBut hsb (Ne.symm hcL)) a3
        | cell c₁ a1 a2 a3 => exact .cell c₁ a1 a2 (a3.sameBut hsb fun q => ne (name_of_addr F.cap (mem_of_lookup a2) (q ▸ mem_of_lookup hc)))
        | free c₁ a1 a2 a3 => exact .free c₁ a1 a2 (a3.sameBut hsb fun q => ne (name_of_addr F.cap (mem_of_lookup a2) (q ▸ mem_of_lookup hc)))
  · (first | exact no_some hs | cases hs)
end

inductive Fl where
  | next | brk | cont
  | ret (v : MV)
inductive FlR (C : Cst) (W : Wd) : Fl → Flow → Prop
  | next : FlR C W .next .next
  | brk : FlR C W .brk .brk
  | cont : FlR C W .cont .cont
  | ret (v : MV) (pv : Value) : VR C.Q W.h W.ρ W.M v pv → FlR C W (.ret v) (.ret pv)
noncomputable abbrev Es := Locs → MH → Option (Fl × Locs × MH)
noncomputable def SaysS (C : Cst) (W : Wd) (O : List Addr) (env : Env) (own : List Nat) (fl : Fl) (ls' : Locs) (μ' : MH) (Q : Flow → Shared → Prop) : Prop :=
  ∀ W' f, Ext O W W' → Inv C W' μ' → FrOk C W' env own O ls' → FlR C W' fl f → Q f W'.s
noncomputable def SimS (C : Cst) (D : Fd) (k : Nat) (st : Stmt) (g : Es) : Prop :=
  ∀ ls μ fl ls' μ', g ls μ = some (fl, ls', μ') → ∀ W env O A, EnvOk D env → AOk k A → Inv C W μ → FrOk C W env D.own O ls →
    ∀ Q, SaysS C W O env D.own fl ls' μ' Q → wpAny (model P0 C.w) A (exec st env) Q NoE W.s
noncomputable def SimB (C : Cst) (D : Fd) (k : Nat) (b : List Stmt) (g : Es) : Prop :=
  ∀ ls μ fl ls' μ', g ls μ = some (fl, ls', μ') → ∀ W env O A, EnvOk D env → AOk k A → Inv C W μ → FrOk C W env D.own O ls →
    ∀ Q, SaysS C W O env D.own fl ls' μ' Q → wpAny (model P0 C.w) A (execs b env) Q NoE W.s
noncomputable def SimT (C : Cst) (D : Fd) (k : Nat) (e : Expr) (f : Locs → MH → Option (Bool × MH)) : Prop :=
  ∀ ls μ b μ', f ls μ = some (b, μ') → ∀ W env O A, EnvOk D env → AOk k A → Inv C W μ → FrOk C W env D.own O ls →
    ∀ Q, (∀ W', Ext [] W W' → Inv C W' μ' → Q b W'.s) → wpAny (model P0 C.w) A (isTrue e env (eval e env)) Q NoE W.s
theorem SaysS.step {C : Cst} {W W₁ : Wd} {O : List Addr} {env : Env} {own : List Nat} {fl : Fl} {ls' : Locs} {μ' : MH} {Q : Flow → Shared → Prop} (h : SaysS C W O env own fl ls' μ' Q) (x : Ext O W W₁) : SaysS C W₁ O env own fl ls' μ' Q :=
  fun W' f x' I F R => h W' f (x.trans x') I F R
theorem Ext.lift {O : List Addr} {W W' : Wd} (x : Ext [] W W') : Ext O W W' := x.weaken fun _ h => nomatch h

noncomputable def bNil : Es := fun ls μ => some (.next, ls, μ)
noncomputable def bCons (a b : Es) : Es := fun ls μ => match a ls μ with
  | some (.next, ls', μ') => b ls' μ'
  | r => r
noncomputable def sExpr (a : Ev) : Es := fun ls μ => match a ls μ with
  | some (_, μ') => some (.next, ls, μ')
  | none => none
noncomputable def sRet (a : Ev) : Es := fun ls μ => match a ls μ with
  | some (v, μ') => some (.ret v, ls, μ')
  | none => none
noncomputable def sSet (n : Nat) (a : Ev) : Es := fun ls μ => match a ls μ with
  | some (v, μ') => some (.next, keep ls n v, μ')
  | none => none
noncomputable def sIf (t : Locs → MH → Option (Bool × MH)) (a b : Es) : Es := fun ls μ => match t ls μ with
  | some (true, μ') => a ls μ'
  | some (false, μ') => b ls μ'
  | none => none
section
variable {C : Cst} {D : Fd} {k : Nat}
theorem sim_nil : SimB C D k [] bNil := by
  intro ls μ fl ls' μ' h W env O A eo ao I F Q hQ
  (first | exact no_some h | cases h)
  exact wpAny_execs_nil (hQ W _ (Ext.refl _ _) I F .next)
theorem sim_cons {st : Stmt} {r : List Stmt} {a b : Es} (ha : SimS C D k st a) (hb : SimB C D k r b) : SimB C D k (st :: r) (bCons a b) := by
  intro ls μ fl ls' μ' h W env O A eo ao I F Q hQ
  unfold bCons at h
  refine wpAny_execs_cons ?_
  split at h
  · rename_i ls₁ μ₁ h1
    refine ha ls μ _ ls₁ μ₁ h1 W env O A eo ao I F _ fun W₁ f x₁ I₁ F₁ R₁ => ?_
    cases R₁
    exact hb ls₁ μ₁ fl ls' μ' h W₁ env O A eo ao I₁ F₁ Q (hQ.step x₁)
  · rename_i hne
    refine ha ls μ fl ls' μ' h W env O A eo ao I F _ fun W₁ f x₁ I₁ F₁ R₁ => ?_
    have q := hQ W₁ f x₁ I₁ F₁ R₁
    cases R₁ with
    | next => exact absurd h (hne _ _)
    | brk => exact q
    | cont => exact q
    | ret v pv V => exact q
theorem sim_expr {e : Expr} {a : Ev} (pos : Pos) (ha : SimE C D k e a) (sw : ∀ env, swapsWith e none pos.line env = pure false) : SimS C D k (.Expr e pos) (sExpr a) := by
  intro ls μ fl ls' μ' h W env O A eo ao I F Q hQ
  unfold sExpr at h
  split at h
  · rename_i v μ₁ h1
    (first | exact no_some h | cases h)
    exact wpAny_Expr_any (ha ls μ v _ h1 W env O A eo ao I F _ fun W₁ pv x₁ I₁ V₁ => hQ W₁ _ x₁.lift I₁ (F.mono I x₁) .next) (hi := by unfold interactive; rw [eo.is, eo.kind]; rfl) (hs := sw env)
  · (first | exact no_some h | cases h)
theorem sim_ret {e : Expr} {a : Ev} (pos : Pos) (ha : SimE C D k e a) : SimS C D k (.Return (some e) pos) (sRet a) := by
  intro ls μ fl ls' μ' h W env O A eo ao I F Q hQ
  unfold sRet at h
  split at h
  · rename_i v μ₁ h1
    (first | exact no_some h | cases h)
    exact wpAny_Return_some (ha ls μ v _ h1 W env O A eo ao I F _ fun W₁ pv x₁ I₁ V₁ => hQ W₁ _ x₁.lift I₁ (F.mono I x₁) (.ret v pv V₁))
  · (first | exact no_some h | cases h)
theorem sim_set {e : Expr} {a : Ev} {x : Str} (B : Basis C) (n : Nat) (p pos : Pos) (hx : nm n = x) (hn : n < nmC) (hs : Sto D n = true) (ha : SimE C D k e a) (sw : ∀ env, swapsWith e (some (.Name x p)) pos.line env = pure false) : SimS C D k (.Assign [.Name x p] e pos) (sSet n a) := by
  intro ls μ fl ls' μ' h W env O A eo ao I F Q hQ
  subst hx
  unfold sSet at h
  split at h
  · rename_i v μ₁ h1
    (first | exact no_some h | cases h)
    refine wpAny_Assign_Name (ha ls μ v _ h1 W env O A eo ao I F _ fun W₁ pv x₁ I₁ V₁ => ?_) (hs := sw env)
    exact sim_store B eo I₁ (F.mono I x₁) hn hs V₁ fun W₂ x₂ I₂ F₂ => hQ W₂ _ (x₁.lift.trans x₂) I₂ F₂ .next
  · (first | exact no_some h | cases h)
theorem sim_if {t : Expr} {b o : List Stmt} {f : Locs → MH → Option (Bool × MH)} {a c : Es} (pos : Pos) (ht : SimT C D k t f) (ha : SimB C D k b a) (hc : SimB C D k o c) : SimS C D k (.If t b o pos) (sIf f a c) := by
  intro ls μ fl ls' μ' h W env O A eo ao I F Q hQ
  unfold sIf at h
  refine wpAny_If ?_
  split at h
  · rename_i μ₁ h1
    exact ht ls μ true μ₁ h1 W env O A eo ao I F _ fun W₁ x₁ I₁ => ha ls μ₁ fl ls' μ' h W₁ env O A eo ao I₁ (F.mono I x₁) Q (hQ.step x₁.lift)
  · rename_i μ₁ h1
    exact ht ls μ false μ₁ h1 W env O A eo ao I F _ fun W₁ x₁ I₁ => hc ls μ₁ fl ls' μ' h W₁ env O A eo ao I₁ (F.mono I x₁) Q (hQ.step x₁.lift)
  · (first | exact no_some h | cases h)
end
end Mine
end
section
open PySem PySem.W PyProof.Rows PySem.Calls
set_option maxRecDepth 100000
namespace Mine

section
variable {C : Cst} {W : Wd} {μ : MH}
theorem Inv.nsOld (I : Inv C W μ) {a : Addr} {m : Str → Option Value} (h : C.H.Ns a m) (ha : a ≠ cStatics) : W.h.Ns a m := by
  refine ex3_3 h fun o es ep ho hd r => ?_
  rcases I.old.old a o ho with x | ⟨_, _, vs, more, hv, _⟩ | ⟨q, _⟩
  · exact ⟨o, es, ep, x, hd, r⟩
  · rw [hd] at hv; (first | exact no_some hv | cases hv)
  · exact absurd q ha
noncomputable def Fix (C : Cst) (D : Fd) (e : Expr) (fv : Value) : Prop := ∀ W μ env A, EnvOk D env → Inv C W μ → ∀ Q, Q fv W.s → wpAny (model P0 C.w) A (eval e env) Q NoE W.s
theorem fix_glob {D : Fd} {x : Str} {fv : Value} (B : Basis C) (pos : Pos) (hx : D.sc.names.lookup x = some .globalImplicit) (e : nsIn (K C.w.params) mainGlobals x = some (some fv)) (hd : (x == ("__debug__" : Str)) = false := by decide) : Fix C D (.Name x pos) fv := by
  intro W μ env A eo I Q hQ
  refine ex1_1 B.g fun mg hg => ?_
  have hg' := I.nsOld hg (by decide)
  refine Name_function_global (by rw [eo.is]; exact eo.kind) (by unfold Env.kindOf; rw [eo.is]; exact hx) ?_ hd
  exact loadGlobal_global (by rw [eo.gl]; exact hg') (mg_of (I.K B) hg' e) hQ
theorem fix_boot {D : Fd} {x : Str} {fv : Value} (B : Basis C) (pos : Pos) (hx : D.sc.names.lookup x = some .globalImplicit) (e : nsIn (K C.w.params) mainGlobals x = some none) (hb : bootBuiltins x = some fv) (hn : x ≠ "__name__" := by decide) (hd : (x == ("__debug__" : Str)) = false := by decide) : Fix C D (.Name x pos) fv := by
  intro W μ env A eo I Q hQ
  refine ex1_1 B.g fun mg hg => ?_
  refine ex1_2 B.b fun mb hbn hbt => ?_
  have hg' := I.nsOld hg (by decide)
  refine Name_function_global (by rw [eo.is]; exact eo.kind) (by unfold Env.kindOf; rw [eo.is]; exact hx) ?_ hd
  exact loadGlobal_builtin (by rw [eo.gl]; exact hg') (mg_none_of (I.K B) hg' e) (by rw [eo.bi]; exact I.nsOld hbn (by decide)) ((hbt x hn).trans hb) hQ
end

noncomputable abbrev El := Locs → MH → Option (List MV × MH)
noncomputable def SaysL (C : Cst) (W : Wd) (vs : List MV) (μ' : MH) (Q : List Value → Shared → Prop) : Prop :=
  ∀ W' pvs, Ext [] W W' → Inv C W' μ' → VRs C.Q W'.h W'.ρ W'.M vs pvs → Q pvs W'.s
noncomputable def SimL (C : Cst) (D : Fd) (k : Nat) (es : List Expr) (f : El) : Prop :=
  ∀ ls μ vs μ', f ls μ = some (vs, μ') → ∀ W env O A pos, EnvOk D env → AOk k A → Inv C W μ → FrOk C W env D.own O ls →
    ∀ Q, SaysL C W vs μ' Q → wpAny (model P0 C.w) A (spliced (backTo pos (starEach es env))) Q NoE W.s
noncomputable def lNil : El := fun _ μ => some ([], μ)
noncomputable def lCons (a : Ev) (b : El) : El := fun ls μ => match a ls μ with
  | some (v, μ₁) => match b ls μ₁ with
    | some (vs, μ₂) => some (v :: vs, μ₂)
    | none => none
  | none => none
section
variable {C : Cst} {D : Fd} {k : Nat}
theorem sim_lnil : SimL C D k [] lNil := by
  intro ls μ vs μ' h W env O A pos eo ao I F Q hQ
  (first | exact no_some h | cases h)
  exact args_nil (hQ W [] (Ext.refl _ _) I .nil)
theorem sim_lcons {e : Expr} {es : List Expr} {a : Ev} {b : El} (ha : SimE C D k e a) (hb : SimL C D k es b) (he : ∀ env, starEach (e :: es) env = (false, eval e env) :: starEach es env) : SimL C D k (e :: es) (lCons a b) := by
  intro ls μ vs μ' h W env O A pos eo ao I F Q hQ
  unfold lCons at h
  split at h
  · rename_i v μ₁ h1
    split at h
    · rename_i ws μ₂ h2
      (first | exact no_some h | cases h)
      refine args_cons (ha ls μ v μ₁ h1 W env O A eo ao I F _ fun W₁ pv x₁ I₁ V₁ => ?_) (he env)
      exact hb ls μ₁ ws _ h2 W₁ env O A pos eo ao I₁ (F.mono I x₁) _ fun W₂ pvs x₂ I₂ V₂ => hQ W₂ _ (x₁.trans x₂) I₂ (.cons _ _ _ _ (VR.mono x₂ (fun _ h => nomatch h) V₁) V₂)
    · (first | exact no_some h | cases h)
  · (first | exact no_some h | cases h)
end
theorem VRs.len {Q : Int} {h : Heap} {ρ M : List Addr} {ms : List MV} {vs : List Value} (V : VRs Q h ρ M ms vs) : ms.length = vs.length := by
  induction ms generalizing vs with
  | nil => refine V.nilE ?_; rfl
  | cons m ms ih => refine V.consE fun _ _ h hs => ?_; rw [List.length_cons, List.length_cons, ih hs]

noncomputable def bnd : List Nat → List MV → Locs → Locs
  | n :: ns, m :: ms, ls => bnd ns ms (keep ls n m)
  | _, _, ls => ls
theorem cells_some (x : Str) : ∀ (names : List (Str × NameKind)) (n : Nat) (acc : List (Str × Addr)), (acc.lookup x).isSome = true → ((cellsFrom n names acc).lookup x).isSome = true
  | [], _, _, h => h
  | (name, kind) :: r, n, acc, h => by
    unfold cellsFrom
    split
    · refine cells_some x r (n + 1) _ ?_
      rw [List.lookup_cons]
      split
      · rfl
      · exact h
    · exact cells_some x r n acc h
theorem cells_of (x : Str) : ∀ (names : List (Str × NameKind)) (n : Nat) (acc : List (Str × Addr)), names.lookup x = some .cell → ((cellsFrom n names acc).lookup x).isSome = true
  | [], _, _, h => by (first | exact no_some h | cases h)
  | (name, kind) :: r, n, acc, h => by
    rw [List.lookup_cons] at h
    unfold cellsFrom
    cases hb : x == name with
    | true =>
      rw [hb] at h; (first | exact no_some h | cases h)
      rw [if_pos (by decide)]
      refine cells_some x r (n + 1) _ ?_
      rw [List.lookup_cons, hb]; rfl
    | false =>
      rw [hb] at h
      split
      · exact cells_of x r (n + 1) _ h
      · exact cells_of x r n acc h
section
variable {C : Cst} {W : Wd} {μ : MH} {A : Around}
theorem sim_binds {env : Env} {D : Fd} {O : List Addr} {Q : PUnit → Shared → Prop} (B : Basis C) (eo : EnvOk D env) (f : Str × Value → PUnit → Sem (ForInStep PUnit)) (hf : ∀ n v u, f (n, v) u = (do storeName env n v; pure (.yield ⟨⟩))) :
    ∀ (ns : List Nat) (ms : List MV) (vals : List Value) (ls : Locs) (W : Wd), VRs C.Q W.h W.ρ W.M ms vals → (∀ n ∈ ns, n < nmC ∧ Sto D n = true) → Inv C W μ → FrOk C W env D.own O ls →
      (∀ W', Ext O W W' → Inv C W' μ → FrOk C W' env D.own O (bnd ns ms ls) → Q ⟨⟩ W'.s) → wpAny (model P0 C.w) A (forIn ((ns.map nm).zip vals) ⟨⟩ f) Q NoE W.s
  | [], ms, vals, ls, W, _, _, I, F, h => by
    rw [List.map_nil, List.zip_nil_left, List.forIn_nil]; exact wpAny_pure (h W (Ext.refl _ _) I F)
  | n :: ns, [], vals, ls, W, V, _, I, F, h => by
    refine V.nilE ?_
    rw [List.zip_nil_right, List.forIn_nil]; exact wpAny_pure (h W (Ext.refl _ _) I F)
  | n :: ns, m :: ms, vals, ls, W, V, hb, I, F, h => by
    refine V.consE fun v vs V Vs => ?_
    rw [List.map_cons, List.zip_cons_cons, List.forIn_cons, hf]
    refine wpAny_bind (wpAny_bind (sim_store B eo I F (hb n (.head _)).1 (hb n (.head _)).2 V fun W₁ x₁ I₁ F₁ => wpAny_pure ?_))
    exact sim_binds B eo f hf ns ms vs _ W₁ (VRs.mono x₁ F.OM Vs) (fun n' h' => hb n' (.tail _ h')) I₁ F₁ fun W₂ x₂ I₂ F₂ => h W₂ (x₁.trans x₂) I₂ F₂
theorem Ext.fresh {O : List Addr} {W₁ W₂ : Wd} (x : Ext [] W W₁) (y : Ext O W₁ W₂) (hO : ∀ a ∈ O, W.h.get? a = none) : Ext [] W W₂ where
  pre := fun n a h => y.pre n a (x.pre n a h)
  fr := fun b o h hc hρ _ => y.fr b o (x.fr b o h hc hρ (fun h => nomatch h)) (hc.imp_right (x.subM b)) (fun hb => (x.newρ b hb).elim hρ (fun h1 => by rw [h] at h1; (first | exact no_some h1 | cases h1))) (fun hb => by rw [hO b hb] at h; (first | exact no_some h | cases h))
  alive := fun b o h => let ⟨o', h'⟩ := x.alive b o h; y.alive b o' h'
  newρ := ((x.lift).trans y).newρ
  newM := ((x.lift).trans y).newM
  subM := fun b hb => y.subM b (x.subM b hb)
theorem sim_newEnv {scope : Scope} {qual : Str} {func : Option Addr} {code : Value} {Q : Env → Shared → Prop} (B : Basis C) (own : List Nat) (co : Option (Addr × Str)) (hco : ∀ p, co = some p → code = .ref p.1 ∧ qual = p.2) (hk : scope.kind = .function) (how : ∀ n ∈ own, scope.names.lookup (nm n) = some .cell)
    (ns : List Nat) (ms : List MV) (vals : List Value) (hb : ∀ n ∈ ns, n < nmC ∧ Sto ⟨scope, own, co⟩ n = true) (I : Inv C W μ) (V : VRs C.Q W.h W.ρ W.M ms vals)
    (hQ : ∀ env O W', env = newEnv scope W.h.objs.size mainGlobals (cellsFrom (W.h.objs.size + 1) scope.names []) qual func code none builtinsNs → EnvOk ⟨scope, own, co⟩ env → Ext [] W W' → (∀ a ∈ O, W.h.get? a = none) → Inv C W' μ → FrOk C W' env own O (bnd ns ms []) → Q env W'.s) :
    wpAny (model P0 C.w) A (newFunctionEnv scope mainGlobals [] ((ns.map nm).zip vals) qual func code none builtinsNs) Q NoE W.s := by
  simp only [newFunctionEnv, Option.isSome_none, Bool.false_eq_true, if_false]
  refine wpAny_bind (wpAny_alloc ?_)
  refine wpAny_bind (wpAny_layCells _ (fun name kind cells => by cases hkc : kind == NameKind.cell <;> simp [hkc]) _ _ _ _ ?_)
  have ok := cellsFrom_ok scope.names (W.h.push { cls := .type "frame", data := .dict #[] }) (W.h.objs.size + 1) [] ⟨fun _ _ hm => (nomatch hm), List.Pairwise.nil⟩ (by rw [Heap.size_push]; exact Nat.le_refl _)
  rw [Heap.size_push] at ok
  show wpAny _ A (forIn _ _ _ >>= _) _ _ { W.s with heap := pushCells (W.h.push { cls := .type "frame", data := .dict #[] }) scope.names }
  rw [show ({ W.s with heap := W.s.heap.push { cls := .type "frame", data := .dict #[] } } : Shared).heap.objs.size = W.h.objs.size + 1 from Heap.size_push ..]
  generalize hcs : cellsFrom (W.h.objs.size + 1) scope.names [] = cs at *
  have kp : OKeep W.h (pushCells (W.h.push { cls := .type "frame", data := .dict #[] }) scope.names) := fun b o e => pushCells_keeps _ _ b o (Heap.get?_push_of_some _ e)
  have nope : ∀ a, W.h.objs.size ≤ a → W.h.get? a = none := fun a ha => by
    cases q : W.h.get? a with
    | none => rfl
    | some o => exact absurd (Heap.lt_size q) (Nat.not_lt.mpr ha)
  have hns : (pushCells (W.h.push { cls := .type "frame", data := .dict #[] }) scope.names).Ns W.h.objs.size (fun _ => none) := (Heap.Ns.new W.h (.type "frame")).keeps (pushCells_keeps _ _)
  have hf : ∀ a ∈ W.h.objs.size :: cs.map (·.2), W.h.get? a = none := fun a ha => by
    rcases List.mem_cons.mp ha with rfl | ha
    · exact nope _ (Nat.le_refl _)
    · obtain ⟨⟨n, c⟩, hm, rfl⟩ := List.mem_map.mp ha
      exact nope _ (Nat.le_of_succ_le (ok.empty n c hm).2)
  have al : ∀ a ∈ W.h.objs.size :: cs.map (·.2), ∃ o, (pushCells (W.h.push { cls := .type "frame", data := .dict #[] }) scope.names).get? a = some o := fun a ha => by
    rcases List.mem_cons.mp ha with rfl | ha
    · refine ex3_2 hns fun o _ _ h _ => ?_; exact ⟨o, h⟩
    · obtain ⟨⟨n, c⟩, hm, rfl⟩ := List.mem_map.mp ha
      refine ex1_2 ((ok.empty n c hm).1) fun o h _ => ?_; exact ⟨o, h⟩
  have x : Ext [] W (W.hid { W.s with heap := pushCells (W.h.push { cls := .type "frame", data := .dict #[] }) scope.names } (W.h.objs.size :: cs.map (·.2))) := Ext.hid [] kp hf
  have I₁ := I.hid (s := { W.s with heap := pushCells (W.h.push { cls := .type "frame", data := .dict #[] }) scope.names }) kp hf al I.gens rfl
  have F₁ : FrOk C (W.hid { W.s with heap := pushCells (W.h.push { cls := .type "frame", data := .dict #[] }) scope.names } (W.h.objs.size :: cs.map (·.2))) (newEnv scope W.h.objs.size mainGlobals cs qual func code none builtinsNs) own (W.h.objs.size :: cs.map (·.2)) [] :=
    { LO := .head _
      OM := fun a ha => List.mem_append_left _ ha
      ns := ⟨_, hns⟩
      cM := fun y c hm => ⟨List.mem_append_left _ (.tail _ (List.mem_map.mpr ⟨(y, c), hm, rfl⟩)), Nat.ne_of_gt (ok.empty y c hm).2, _, (ok.empty y c hm).1⟩
      cap := ok.apart
      ow := fun n hn => by
        have := cells_of (nm n) scope.names (W.h.objs.size + 1) [] (how n hn)
        rw [hcs] at this
        refine ex1_1 (Option.isSome_iff_exists.mp this) fun c hc => ?_
        exact ⟨c, hc, .tail _ (List.mem_map.mpr ⟨_, mem_of_lookup hc, rfl⟩)⟩
      vars := fun n v _ h => by (first | exact no_some h | cases h) }
  have eo : EnvOk ⟨scope, own, co⟩ (newEnv scope W.h.objs.size mainGlobals cs qual func code none builtinsNs) := ⟨rfl, hk, rfl, rfl, hco⟩
  refine wpAny_bind (sim_binds B eo _ (fun _ _ _ => rfl) ns ms vals [] _ (VRs.mono x (fun _ h => nomatch h) V) hb I₁ F₁ fun W₂ x₂ I₂ F₂ => wpAny_pure ?_)
  exact hQ _ _ W₂ rfl eo (x.fresh x₂ hf) hf I₂ F₂
end
end Mine
end
section
open PySem PySem.W PyProof.Rows PySem.Calls
set_option maxRecDepth 100000
namespace Mine

noncomputable def SimF (C : Cst) (k : Nat) (a : Addr) (mk : List Value → Args) (f : List MV → MH → Option (MV × MH)) : Prop :=
  ∀ args μ v μ', f args μ = some (v, μ') → ∀ W vals A, AOk k A → Inv C W μ → VRs C.Q W.h W.ρ W.M args vals →
    ∀ Q, Says C W v μ' Q → codeAny (model P0 C.w) A (.call (.ref a) (mk vals)) (fun r s' => match r with | .ok (.ret v) => Q v s' | .ok _ => False | .error e => NoE e s') W.s
theorem SimF.call {C : Cst} {k : Nat} {a : Addr} {mk : List Value → Args} {f : List MV → MH → Option (MV × MH)} (h : SimF C k a mk f) {args : List MV} {μ μ' : MH} {v : MV} (hf : f args μ = some (v, μ')) {W : Wd} {vals : List Value} {A : Around} (ao : AOk k A) (I : Inv C W μ)
    (V : VRs C.Q W.h W.ρ W.M args vals) {Q : Value → Shared → Prop} (hQ : Says C W v μ' Q) : wpAny (model P0 C.w) A (PySem.call (.ref a) (mk vals).pos (mk vals).kw) Q NoE W.s := wpAny_call (h args μ v μ' hf W vals A ao I V Q hQ)
noncomputable def plainA (vs : List Value) : Args := ⟨vs, []⟩
noncomputable def fRun (ns : List Nat) (dm : List MV) (g : Es) : List MV → MH → Option (MV × MH) := fun args μ =>
  bif Nat.beq (args.length + dm.length) ns.length then
    match g (bnd ns (args ++ dm) []) μ with
    | some (.ret v, _, μ') => some (v, μ')
    | some (.next, _, μ') => some (.none, μ')
    | _ => none
  else none
theorem VRs.append {Q : Int} {h : Heap} {ρ M : List Addr} {ms ms' : List MV} {vs vs' : List Value} (V : VRs Q h ρ M ms vs) (V' : VRs Q h ρ M ms' vs') : VRs Q h ρ M (ms ++ ms') (vs ++ vs') := by
  induction ms generalizing vs with
  | nil => refine V.nilE ?_; exact V'
  | cons m ms ih => refine V.consE fun v vs h hs => ?_; exact .cons m v _ _ h (ih hs)
section
variable {C : Cst} {k : Nat}
theorem sim_fun {a : Addr} {o : Obj} {fd : FuncData} {body : List Stmt} {g : Es} (B : Basis C) (own : List Nat) (co : Option (Addr × Str)) (ns : List Nat) (dm : List MV) (dv : List Value) (mk : List Value → Args)
    (hK : (K C.w.params).lookup a = some o) (hd : o.data = .func fd) (hcr : ∃ c oc vs t, fd.code = .ref c ∧ (K C.w.params).lookup c = some oc ∧ oc.data = .fields vs ∧ vs[1]? = some (.str fd.qualname t))
    (hbody : fd.body = .stmts body) (hg : fd.globals = mainGlobals) (hcl : fd.closure = []) (hbu : fd.builtins = builtinsNs) (hco : fd.scope.isCoroutine = false) (hgen : fd.scope.isGenerator = false) (hk : fd.scope.kind = .function)
    (how : ∀ n ∈ own, fd.scope.names.lookup (nm n) = some .cell) (hns : ∀ n ∈ ns, n < nmC ∧ Sto ⟨fd.scope, own, co⟩ n = true)
    (hdm : ∀ Q h ρ M, VRs Q h ρ M dm dv)
    (hbind : ∀ s vals, (K C.w.params).In s.heap → vals.length + dv.length = ns.length → BindsTo s fd (mk vals) ((ns.map nm).zip (vals ++ dv)))
    (hco' : ∀ p, co = some p → fd.code = .ref p.1 ∧ fd.qualname ++ Str.ofString ".<locals>." = p.2) (hs : SimB C ⟨fd.scope, own, co⟩ k body g) : SimF C (k + 1) a mk (fRun ns dm g) := by
  intro args μ v μ' h W vals A ao I V Q hQ
  unfold fRun at h
  cases hl : Nat.beq (args.length + dm.length) ns.length with
  | false => rw [hl] at h; (first | exact no_some h | cases h)
  | true =>
    rw [hl, cond_true] at h
    have hlen : vals.length + dv.length = ns.length := by rw [← V.len, ← (hdm C.Q W.h W.ρ W.M).len]; exact Nat.eq_of_beq_eq_true hl
    have KK := I.K B
    have ho := KK a o hK
    have hcd : W.s.heap.CodeRec fd.code fd.qualname := by
      refine ex4_4 hcr fun c oc vs t h1 h2 h3 h4 => ?_
      exact ⟨c, oc, vs, t, h1, KK c oc h2, h3, h4⟩
    refine (codeAny_call_function (fd := fd) (by have := ao.dep; unfold recursionLimit; omega) ho hd hco hgen hbody hcd (hbind W.s vals KK hlen _ _ _ _ ?_))
    rw [hg, hcl, hbu]
    refine up (sim_newEnv B own co hco' hk how ns (args ++ dm) (vals ++ dv) hns I (V.append (hdm _ _ _ _)) (Q := fun env s₂ => s₂.heap.NoLimit ∧ codeAny (model P0 C.w) A (.func body env) _ s₂) ?_)
    intro env O W₁ he eo x₁ hf I₁ F₁
    refine ⟨I₁.lim, codeAny_func ?_⟩
    have ao' : AOk k (A.deeper env) := ⟨ao.hd, by show A.depth + 1 + 4 * k + 4 < 990; have := ao.dep; omega, by show A.units + 3 + 64 * k + 1000 < 9900; have := ao.un; omega⟩
    refine up ?_
    split at h
    · rename_i v' ls₁ μ₁ h1
      (first | exact no_some h | cases h)
      refine hs _ μ _ _ _ h1 W₁ env O _ eo ao' I₁ F₁ _ fun W₂ f x₂ I₂ F₂ R₂ => ?_
      cases R₂ with
      | ret _ pv V₂ => exact hQ W₂ pv (x₁.fresh x₂ hf) I₂ V₂
    · rename_i ls₁ μ₁ h1
      (first | exact no_some h | cases h)
      refine hs _ μ _ _ _ h1 W₁ env O _ eo ao' I₁ F₁ _ fun W₂ f x₂ I₂ F₂ R₂ => ?_
      cases R₂ with
      | next => exact hQ W₂ _ (x₁.fresh x₂ hf) I₂ .none
    · (first | exact no_some h | cases h)
end

noncomputable def cCall (f : List MV → MH → Option (MV × MH)) (b : El) : Ev := fun ls μ => match b ls μ with
  | some (vs, μ') => f vs μ'
  | none => none
section
variable {C : Cst} {D : Fd} {k : Nat}
theorem sim_call {x : Str} {p pos : Pos} {a : Addr} {o : Obj} {fd : FuncData} {e : Expr} {es : List Expr} {f : List MV → MH → Option (MV × MH)} {b : El} (B : Basis C) (hx : Fix C D (.Name x p) (.ref a)) (hK : (K C.w.params).lookup a = some o) (hd : o.data = .func fd)
    (hf : SimF C k a plainA f) (hl : SimL C D k (e :: es) b) (he : ∀ env, starEach (e :: es) env = (false, eval e env) :: starEach es env) : SimE C D k (.Call (.Name x p) (e :: es) [] pos) (cCall f b) := by
  intro ls μ v μ' h W env O A eo ao I F Q hQ
  unfold cCall at h
  split at h
  · rename_i vs μ₁ h1
    refine wpAny_Call_NameR (hx W μ env A eo I _ ?_)
    refine callWith_def hd (hl ls μ vs μ₁ h1 W env O A pos eo ao I F _ fun W₁ pvs x₁ I₁ V₁ => ?_) (he env)
    exact ⟨I₁.K B a o hK, hf.call h ao I₁ V₁ (hQ.step x₁)⟩
  · (first | exact no_some h | cases h)
end
end Mine
end
section
open PySem PySem.W PyProof.Rows PySem.Calls
set_option maxRecDepth 100000
namespace Mine

section
variable {C : Cst} {W : Wd} {μ : MH} {A : Around}
theorem Says.keep {v : MV} {Q : Value → Shared → Prop} (I : Inv C W μ) (h : Says C W v μ Q) {s' : Shared} {pv : Value} (k : OKeep W.h s'.heap) (hg : s'.gens = W.s.gens) (ho : s'.os = W.s.os) (V : VR C.Q s'.heap W.ρ W.M v pv) : Q pv s' :=
  h (W.at s') pv (Ext.keep [] k) (I.keep k (by rw [hg]; exact I.gens) ho) V
theorem push_keep (h : Heap) (o : Obj) : OKeep h (h.push o) := fun _ _ e => Heap.get?_push_of_some _ e
theorem Says.tup {ms : List MV} {pvs : List Value} {Q : Value → Shared → Prop} {n : Nat} (I : Inv C W μ) (V : VRs C.Q W.h W.ρ W.M ms pvs) (h : Says C W (.tup ms) μ Q) (t : Nat) : Q (.ref W.h.objs.size) { W.s with heap := W.h.push { cls := .type "tuple", data := .seq pvs.toArray n }, toks := t } := by
  refine h.keep I (s' := { W.s with heap := W.h.push { cls := .type "tuple", data := .seq pvs.toArray n }, toks := t }) (push_keep _ _) rfl rfl ?_
  refine .tup ms _ pvs.toArray n (Heap.get?_push_size _ rfl) I.new.2.1 I.new.2.2 ?_
  exact VRs.mono (W' := W.at { W.s with heap := W.h.push { cls := .type "tuple", data := .seq pvs.toArray n }, toks := t }) (Ext.keep [] (push_keep _ _)) (fun _ h => nomatch h) V
theorem Says.new {n : Nat} {μ' : MH} {o : MO} {ob : Obj} {a : Addr} {s' : Shared} {Q : Value → Shared → Prop} (I : Inv C W μ) (hn : μ.new o = some (n, μ')) (h : Says C W (.loc n) μ' Q) (k : OKeep W.h s'.heap) (hg : s'.gens = W.s.gens) (hos : s'.os = W.s.os)
    (hsz : W.h.objs.size ≤ a) (ha : s'.heap.get? a = some ob) (ho : ∀ W' : Wd, W'.s = s' → Ext [] W W' → OR C W' o a) : Q (.ref a) s' := by
  have g := fun m => MH.get_new hn m
  have hf : W.h.get? a = none := by
    cases q : W.h.get? a with
    | none => rfl
    | some o => exact absurd (Heap.lt_size q) (Nat.not_lt.mpr hsz)
  have hρ : a ∉ W.ρ := fun q => by obtain ⟨_, o, e⟩ := I.freshρ a q; rw [hf] at e; cases e
  have hM : a ∉ W.M := fun q => by refine I.freshME a q fun _ o e _ => ?_; rw [hf] at e; cases e
  have hnl : n = W.ρ.length := (g 0).2.1.trans I.len
  have x : Ext [] W ⟨s', W.ρ ++ [a], W.M⟩ := ⟨fun m b e => List.getElem?_append_left (List.getElem?_eq_some_iff.mp e).1 ▸ e, fun b o e _ _ _ => k b o e, fun b o e => ⟨o, k b o e⟩,
    (fun b hb => (List.mem_append.mp hb).elim .inl fun q => .inr (by rw [List.mem_singleton.mp q]; exact hf)), fun _ h => .inl h, fun _ h => h⟩
  have hna : (W.ρ ++ [a])[n]? = some a := by rw [hnl, List.getElem?_append_right (Nat.le_refl _), Nat.sub_self]; rfl
  refine h ⟨s', W.ρ ++ [a], W.M⟩ (.ref a) x ?_ (.loc n a hna)
  refine ⟨I.old.step_keeps k, I.lim.keeps k, fun p hp => (I.tab p hp).wk (x.wk fun _ h => nomatch h) fun _ h => h.keeps k, (g 0).1, fun m o' hm => ?_, ?_, ?_, fun b hb => ?_, fun b hb => ?_, by show AllBare s'.gens; rw [hg]; exact I.gens, hos.trans I.os, fun b hb => ?_, I.g3⟩
  · rw [(g m).2.2.2] at hm
    by_cases e : m = n
    · subst e
      rw [if_pos rfl] at hm; (first | exact no_some hm | cases hm)
      exact ⟨a, hna, ho _ rfl x⟩
    · rw [if_neg e] at hm
      refine ex1_2 (I.objs m o' hm) fun b h1 h2 => ?_
      exact ⟨b, x.pre m b h1, OR.mono x (fun _ h => nomatch h) (k b) h2⟩
  · rw [(g 0).2.2.1, I.len, List.length_append]; rfl
  · exact List.nodup_append.mpr ⟨I.nd, by simp, fun b hb c hc e => hρ (by rw [List.mem_singleton.mp hc] at e; exact e ▸ hb)⟩
  · rcases List.mem_append.mp hb with hb | hb
    · obtain ⟨h1, o, h2⟩ := I.freshρ b hb; exact ⟨h1, o, k _ _ h2⟩
    · rw [List.mem_singleton.mp hb]; exact ⟨I.freshC hf, ob, ha⟩
  · refine I.freshME b hb fun h1 o h2 h3 => ?_
    exact ⟨h1, ⟨o, k _ _ h2⟩, fun q => (List.mem_append.mp q).elim h3 fun q => hM (by rw [← List.mem_singleton.mp q]; exact hb)⟩
  · rcases List.mem_append.mp hb with hb | hb
    · exact I.big b hb
    · rw [List.mem_singleton.mp hb]; exact Nat.lt_of_lt_of_le I.three hsz
theorem Says.list {n : Nat} {μ' : MH} {ms : List MV} {pvs : List Value} {Q : Value → Shared → Prop} {c : Nat} (I : Inv C W μ) (hn : μ.new (.list ms) = some (n, μ')) (V : VRs C.Q W.h W.ρ W.M ms pvs) (h : Says C W (.loc n) μ' Q) (t : Nat) :
    Q (.ref W.h.objs.size) { W.s with heap := W.h.push { cls := .type "list", data := .seq pvs.toArray c }, toks := t } := by
  refine h.new I hn (s' := { W.s with heap := W.h.push { cls := .type "list", data := .seq pvs.toArray c }, toks := t }) (push_keep _ _) rfl rfl (Nat.le_refl _) (Heap.get?_push_size _ rfl) fun W' hW x => ?_
  have e : W'.h = W.h.push { cls := .type "list", data := .seq pvs.toArray c } := by show W'.s.heap = _; rw [hW]
  exact ⟨pvs.toArray, ⟨c, by rw [e]; exact Heap.get?_push_size _ rfl⟩, VRs.mono x (fun _ h => nomatch h) V⟩
theorem nofresh (h : Heap) : h.get? h.objs.size = none := by
  cases q : h.get? h.objs.size with
  | none => rfl
  | some o => exact absurd (Heap.lt_size q) (Nat.lt_irrefl _)
end
noncomputable def fits (l : List MV) : Bool := Nat.ble l.length 4096
theorem fits_le {l : List MV} (h : fits l = true) {Q : Int} {hp : Heap} {ρ M : List Addr} {pvs : List Value} (V : VRs Q hp ρ M l pvs) : pvs.length ≤ sizeLine := by
  have := Nat.le_of_ble_eq_true h
  rw [← V.len, sizeLine_eq]; omega
noncomputable def mkList (l : List MV) (μ : MH) : Option (MV × MH) := bif fits l then match μ.new (.list l) with
  | some (n, μ') => some (.loc n, μ')
  | none => none else none
theorem mkList_spec {l : List MV} {μ μ' : MH} {v : MV} (h : mkList l μ = some (v, μ')) : ∃ n, v = .loc n ∧ μ.new (.list l) = some (n, μ') ∧ fits l = true := by
  unfold mkList at h
  cases hf : fits l with
  | false => rw [hf] at h; (first | exact no_some h | cases h)
  | true =>
    rw [hf, cond_true] at h
    split at h
    · rename_i n μ₁ hn; (first | exact no_some h | cases h); exact ⟨n, rfl, hn, rfl⟩
    · (first | exact no_some h | cases h)
noncomputable def cTup (f : El) : Ev := fun ls μ => match f ls μ with
  | some (vs, μ') => bif fits vs then some (.tup vs, μ') else none
  | none => none
noncomputable def cList (f : El) : Ev := fun ls μ => match f ls μ with
  | some (vs, μ') => mkList vs μ'
  | none => none
section
variable {C : Cst} {D : Fd} {k : Nat}
theorem sim_tuple {es : List Expr} {f : El} (c : Nat) (pos : Pos) (hf : SimL C D k es f) : SimE C D k (.Tuple es c pos) (cTup f) := by
  intro ls μ v μ' h W env O A eo ao I F Q hQ
  unfold cTup at h
  split at h
  · rename_i vs μ₁ h1
    cases hl : fits vs with
    | false => rw [hl] at h; (first | exact no_some h | cases h)
    | true =>
      rw [hl] at h; (first | exact no_some h | cases h)
      refine wpAny_Tuple_spliced (hf ls μ vs _ h1 W env O A pos eo ao I F _ fun W₁ pvs x₁ I₁ V₁ => ⟨fits_le hl V₁, ?_⟩)
      exact Says.tup I₁ V₁ (hQ.step x₁) W₁.s.toks
  · (first | exact no_some h | cases h)
theorem sim_list {es : List Expr} {f : El} (pos : Pos) (hf : SimL C D k es f) : SimE C D k (.List es pos) (cList f) := by
  intro ls μ v μ' h W env O A eo ao I F Q hQ
  unfold cList at h
  split at h
  · rename_i vs μ₁ h1
    refine ex1_3 (mkList_spec h) fun n eqq1 hn hl => ?_; subst eqq1
    refine wpAny_List_spliced (hf ls μ vs _ h1 W env O A pos eo ao I F _ fun W₁ pvs x₁ I₁ V₁ => ⟨fits_le hl V₁, ?_⟩)
    exact Says.list I₁ hn V₁ (hQ.step x₁) W₁.s.toks
  · (first | exact no_some h | cases h)
end

noncomputable def tOf (a : Ev) : Locs → MH → Option (Bool × MH) := fun ls μ => match a ls μ with
  | some (.bool b, μ') => some (b, μ')
  | some (.none, μ') => some (false, μ')
  | _ => none
theorem tOf_spec {a : Ev} {ls : Locs} {μ μ' : MH} {b : Bool} (h : tOf a ls μ = some (b, μ')) : a ls μ = some (.bool b, μ') ∨ (a ls μ = some (.none, μ') ∧ b = false) := by
  unfold tOf at h
  split at h
  · rename_i b' μ₁ h1; (first | exact no_some h | cases h); exact .inl h1
  · rename_i μ₁ h1; (first | exact no_some h | cases h); exact .inr ⟨h1, rfl⟩
  · (first | exact no_some h | cases h)
section
variable {C : Cst} {D : Fd} {k : Nat}
theorem simt_plain {e : Expr} {a : Ev} (ha : SimE C D k e a) (he : ∀ env whole, isTrue e env whole = (do let v ← whole; standAt e.pos; holding [v] (truthy v))) : SimT C D k e (tOf a) := by
  intro ls μ b μ' h W env O A eo ao I F Q hQ
  rcases tOf_spec h with h1 | ⟨h1, rfl⟩
  · refine isTrue_plain (ha ls μ _ _ h1 W env O A eo ao I F _ fun W₁ pv x₁ I₁ V₁ => ?_) (he env _)
    refine V₁.boolE ?_
    exact wpAny_truthy_bool (hQ W₁ x₁ I₁)
  · refine isTrue_plain (ha ls μ _ _ h1 W env O A eo ao I F _ fun W₁ pv x₁ I₁ V₁ => ?_) (he env _)
    refine V₁.noneE ?_
    exact truthy_none (hQ W₁ x₁ I₁)
theorem simt_cmp {op : CmpOp} {g : Op2} {l r : Expr} {a b : Ev} (pos : Pos) (ho : SimC C op g) (ha : SimE C D k l a) (hb : SimE C D k r b) (hm : behindInMarks op r = false := by with_unfolding_all rfl) : SimT C D k (.Compare l [op] [r] pos) (tOf (cBin g a b)) := by
  intro ls μ t μ' h W env O A eo ao I F Q hQ
  have key : ∀ v, cBin g a b ls μ = some (v, μ') → (∀ W₁ pv, Ext [] W W₁ → Inv C W₁ μ' → VR C.Q W₁.h W₁.ρ W₁.M v pv → wpAny (model P0 C.w) A (truthy pv) Q NoE W₁.s) → wpAny (model P0 C.w) A (isTrue (.Compare l [op] [r] pos) env (eval (.Compare l [op] [r] pos) env)) Q NoE W.s := by
    intro v h hq
    unfold cBin at h
    split at h
    · rename_i x μ₁ h1
      split at h
      · rename_i y μ₂ h2
        refine wpAny_isTrue_Compare1 (ha ls μ x μ₁ h1 W env O A eo ao I F _ fun W₁ px x₁ I₁ V₁ => ?_) hm
        refine hb ls μ₁ y μ₂ h2 W₁ env O A eo ao I₁ (F.mono I x₁) _ fun W₂ py x₂ I₂ V₂ => ?_
        exact ho x y μ₂ v μ' h W₂ px py A ao.zero I₂ (VR.mono x₂ (fun _ h => nomatch h) V₁) V₂ _ fun W₃ pv x₃ I₃ V₃ => hq W₃ pv ((x₁.trans x₂).trans x₃) I₃ V₃
      · (first | exact no_some h | cases h)
    · (first | exact no_some h | cases h)
  rcases tOf_spec h with h1 | ⟨h1, rfl⟩
  · exact key _ h1 fun W₁ pv x₁ I₁ V₁ => by refine V₁.boolE ?_; exact wpAny_truthy_bool (hQ W₁ x₁ I₁)
  · exact key _ h1 fun W₁ pv x₁ I₁ V₁ => by refine V₁.noneE ?_; exact truthy_none (hQ W₁ x₁ I₁)
noncomputable def tOr (f g : Locs → MH → Option (Bool × MH)) : Locs → MH → Option (Bool × MH) := fun ls μ => match f ls μ with
  | some (true, μ') => some (true, μ')
  | some (false, μ') => g ls μ'
  | none => none
noncomputable def tNo : Locs → MH → Option (Bool × MH) := fun _ μ => some (false, μ)
theorem simt_or {e : Expr} {r : List Expr} {f g : Locs → MH → Option (Bool × MH)} (pos : Pos) (hf : SimT C D k e f) (hg : ∀ pos', SimT C D k (.BoolOp .Or r pos') g) : SimT C D k (.BoolOp .Or (e :: r) pos) (tOr f g) := by
  intro ls μ b μ' h W env O A eo ao I F Q hQ
  unfold tOr at h
  refine isTrue_or ?_
  split at h
  · rename_i μ₁ h1; (first | exact no_some h | cases h)
    exact hf ls μ true _ h1 W env O A eo ao I F _ fun W₁ x₁ I₁ => hQ W₁ x₁ I₁
  · rename_i μ₁ h1
    exact hf ls μ false μ₁ h1 W env O A eo ao I F _ fun W₁ x₁ I₁ => hg pos ls μ₁ b μ' h W₁ env O A eo ao I₁ (F.mono I x₁) _ fun W₂ x₂ I₂ => hQ W₂ (x₁.trans x₂) I₂
  · (first | exact no_some h | cases h)
noncomputable def cIf (t : Locs → MH → Option (Bool × MH)) (a b : Ev) : Ev := fun ls μ => match t ls μ with
  | some (true, μ') => a ls μ'
  | some (false, μ') => b ls μ'
  | none => none
theorem sim_ifexp {t e₁ e₂ : Expr} {f : Locs → MH → Option (Bool × MH)} {a b : Ev} (pos : Pos) (ht : SimT C D k t f) (ha : SimE C D k e₁ a) (hb : SimE C D k e₂ b) : SimE C D k (.IfExp t e₁ e₂ pos) (cIf f a b) := by
  intro ls μ v μ' h W env O A eo ao I F Q hQ
  unfold cIf at h
  refine IfExp_ ?_
  split at h
  · rename_i μ₁ h1
    exact ht ls μ true μ₁ h1 W env O A eo ao I F _ fun W₁ x₁ I₁ => ha ls μ₁ v μ' h W₁ env O A eo ao I₁ (F.mono I x₁) Q (hQ.step x₁)
  · rename_i μ₁ h1
    exact ht ls μ false μ₁ h1 W env O A eo ao I F _ fun W₁ x₁ I₁ => hb ls μ₁ v μ' h W₁ env O A eo ao I₁ (F.mono I x₁) Q (hQ.step x₁)
  · (first | exact no_some h | cases h)
end
end Mine
end
section
open PySem PySem.W PyProof.Rows PySem.Calls
set_option maxRecDepth 100000
namespace Mine

theorem VRs.get {Q : Int} {h : Heap} {ρ M : List Addr} : ∀ {ms : List MV} {vs : List Value}, VRs Q h ρ M ms vs → ∀ {j : Nat} {m : MV}, ms[j]? = some m → ∃ v, vs[j]? = some v ∧ VR Q h ρ M m v
  | _, _, .nil, j, m, e => by simp at e
  | _, _, .cons _ v _ _ V Vs, 0, m, e => by simp at e; subst e; exact ⟨v, rfl, V⟩
  | _, _, .cons _ v _ _ V Vs, j + 1, m, e => by
    rw [List.getElem?_cons_succ] at e
    refine ex1_2 (VRs.get Vs e) fun w h1 h2 => ?_
    exact ⟨w, by rw [List.getElem?_cons_succ]; exact h1, h2⟩
noncomputable def nth : List MV → Nat → Option MV
  | [], _ => none
  | m :: _, 0 => some m
  | _ :: r, n + 1 => nth r n
theorem nth_eq : ∀ (l : List MV) (n : Nat), nth l n = l[n]?
  | [], _ => rfl
  | _ :: _, 0 => rfl
  | _ :: r, n + 1 => by rw [List.getElem?_cons_succ]; exact nth_eq r n
noncomputable def idx (k : Int) (n : Nat) : Option Nat := match k with
  | .ofNat j => bif Nat.blt j n then some j else none
  | .negSucc j => bif Nat.blt j n then some (n - 1 - j) else none
theorem idx_spec {k : Int} {n j : Nat} (h : idx k n = some j) : seqIndex? k n = some j ∧ j < n ∧ (0 ≤ k → k.toNat = j ∧ k < n) ∧ (k < 0 → -(n : Int) ≤ k ∧ (k + n).toNat = j) := by
  unfold idx at h
  split at h
  · rename_i m
    cases hb : Nat.blt m n with
    | false => rw [hb] at h; (first | exact no_some h | cases h)
    | true =>
      rw [hb] at h; (first | exact no_some h | cases h)
      have hl : j < n := Nat.le_of_ble_eq_true hb
      refine ⟨?_, hl, fun _ => ⟨rfl, by show (j : Int) < n; omega⟩, fun q => absurd q (by show ¬ (j : Int) < 0; omega)⟩
      show seqIndex? (j : Int) n = some j
      unfold seqIndex?
      simp only [if_neg (show ¬ ((j : Int) < 0) by omega)]
      rw [if_pos (by simp; omega)]
      rfl
  · rename_i m
    cases hb : Nat.blt m n with
    | false => rw [hb] at h; (first | exact no_some h | cases h)
    | true =>
      rw [hb] at h; (first | exact no_some h | cases h)
      have hl : m < n := Nat.le_of_ble_eq_true hb
      have e : Int.negSucc m + (n : Int) = ((n - 1 - m : Nat) : Int) := by omega
      refine ⟨?_, by omega, fun q => absurd q (by omega), fun _ => ⟨by omega, by rw [e]; rfl⟩⟩
      unfold seqIndex?
      simp only [if_pos (show Int.negSucc m < 0 by omega), e]
      rw [if_pos (by simp; omega)]
      rfl
noncomputable def dget : List (Int × MV) → Int → Option MV
  | [], _ => none
  | p :: r, k => bif eqI p.1 k then some p.2 else dget r k
noncomputable def dset : List (Int × MV) → Int → MV → List (Int × MV)
  | [], k, v => [(k, v)]
  | p :: r, k, v => bif eqI p.1 k then (p.1, v) :: r else p :: dset r k v
theorem eqI_iff {a b : Int} : eqI a b = true ↔ a = b := by rw [eqI_eq, beq_iff_eq]
theorem eqI_ne {a b : Int} (h : eqI a b = false) : a ≠ b := fun q => by rw [eqI_iff.mpr q] at h; (first | exact no_some h | cases h)
theorem DR.get {C : Cst} {W : Wd} : ∀ {es : List (Int × MV)} {kvs : List (Int × Value)}, DR C W es kvs → ∀ k, (∀ v, dget es k = some v → ∃ pv, valueAt kvs k = some pv ∧ VR C.Q W.h W.ρ W.M v pv) ∧ (dget es k = none → valueAt kvs k = none)
  | [], [], _, k => ⟨(fun v h => by (first | exact no_some h | cases h)), fun _ => rfl⟩
  | [], _ :: _, h, k => by cases h.1
  | _ :: _, [], h, k => by cases h.1
  | p :: r, q :: s, h, k => by
    have h1 : p.1 = q.1 := (List.cons.inj h.1).1
    have h2 : r.map (·.1) = s.map (·.1) := (List.cons.inj h.1).2
    have hv := h.2
    cases hv with
    | cons _ _ _ _ V Vs =>
      have ih := DR.get (C := C) (W := W) (es := r) (kvs := s) ⟨h2, Vs⟩ k
      unfold dget
      cases e : eqI p.1 k with
      | true =>
        have e' : q.1 = k := h1.symm.trans (eqI_iff.mp e)
        refine ⟨fun v hv => ?_, (fun hv => by (first | exact no_some hv | cases hv))⟩
        (first | exact no_some hv | cases hv)
        exact ⟨q.2, by simp [valueAt, e'], V⟩
      | false =>
        have e' : q.1 ≠ k := fun z => eqI_ne e (h1.trans z)
        have : valueAt (q :: s) k = valueAt s k := by simp [valueAt, e']
        rw [this]; exact ih
theorem stored_cons (q : Int × Value) (s : List (Int × Value)) (k : Int) (v : Value) (hn : q.1 ∉ s.map (·.1)) : stored (q :: s) k v = if q.1 = k then (q.1, v) :: s else q :: stored s k v := by
  unfold stored
  by_cases e : q.1 = k
  · subst e
    simp only [List.any_cons, decide_true, Bool.true_or, if_true, List.map_cons]
    congr 1
    exact (map_eq_self fun x hx => if_neg fun z : x.1 = q.1 => hn (List.mem_map.mpr ⟨x, hx, z⟩)).symm ▸ rfl
  · simp only [List.any_cons, e, decide_false, Bool.false_or, if_false, List.map_cons]
    split <;> rfl
theorem DR.set {C : Cst} {W : Wd} {v : MV} {pv : Value} (V : VR C.Q W.h W.ρ W.M v pv) (k : Int) : ∀ {es : List (Int × MV)} {kvs : List (Int × Value)}, (kvs.map (·.1)).Nodup → DR C W es kvs → DR C W (dset es k v) (stored kvs k pv)
  | [], [], _, _ => ⟨rfl, .cons _ _ _ _ V .nil⟩
  | [], _ :: _, _, h => by cases h.1
  | _ :: _, [], _, h => by cases h.1
  | p :: r, q :: s, hn, h => by
    have h1 : p.1 = q.1 := (List.cons.inj h.1).1
    have h2 : r.map (·.1) = s.map (·.1) := (List.cons.inj h.1).2
    have hv := h.2
    rw [List.map_cons, List.nodup_cons] at hn
    cases hv with
    | cons _ _ _ _ V' Vs =>
      rw [stored_cons _ _ _ _ hn.1]
      unfold dset
      cases e : eqI p.1 k with
      | true =>
        rw [if_pos (h1.symm.trans (eqI_iff.mp e)), cond_true]
        exact ⟨h.1, .cons _ _ _ _ V Vs⟩
      | false =>
        rw [if_neg (fun z => eqI_ne e (h1.trans z)), cond_false]
        have ih := DR.set V k hn.2 (⟨h2, Vs⟩ : DR C W r s)
        exact ⟨by rw [List.map_cons, List.map_cons, h1, ih.1], .cons _ _ _ _ V' ih.2⟩
theorem dictSet_at {prog : Program} {w : World} {A : Around} {E : Value → Shared → Prop} {s : Shared} {d : Addr} {kvs : List (Int × Value)} {k : Int} {t : Tok} {v : Value} {Q : Unit → Shared → Prop} (hm : s.heap.DictAt (intKind prog w) d kvs kvs.length)
    (hQ : ∀ h', h'.DictAt (intKind prog w) d (stored kvs k v) (stored kvs k v).length → Heap.SameBut d s.heap h' → Q () { s with heap := h', toks := s.toks + 1 }) (hsz : kvs.length ≤ sizeLine) : wpAny (model prog w) A (dictSet d (.int k t) v) Q E s := by
  refine ex2_6 hm fun o es ho hc hd hk hp hn => ?_
  have hkey : (intKind prog w).is k (.int k t) = true := by simp [intKind, Value.isInt]
  have hes : es.size ≤ sizeLine := by
    have e1 := hp.length
    have e2 : es.toList.length = es.size := by simp
    omega
  have hidx : (es.findIdx? fun e => (intKind prog w).is k e.key) = kvs.findIdx? fun kv => decide (kv.1 = k) := by
    rw [← hp.findIdx k]; obtain ⟨l⟩ := es; simp
  unfold dictSet
  try with_reducible refine wpAny_holding ?_
  refine wpAny_bind ((intKind prog w).pyHash hkey ?_)
  unfold dictSetHashed
  try with_reducible refine wpAny_holding ?_
  refine wpAny_bind (wpAny_dictFind_of (s := { s with toks := s.toks + 1 }) hkey ho hd hk ?_)
  cases hi : es.findIdx? fun e => (intKind prog w).is k e.key with
  | some i =>
    have hst : stored kvs k v = kvs.map fun kv => if kv.1 = k then (kv.1, v) else kv := by rw [stored, if_pos (any_of_findIdx_some (hidx ▸ hi))]
    refine wpAny_bind (wpAny_rule (wpAny_bind (wpAny_updateDict (s := { s with toks := s.toks + 1 }) ho hd (wpAny_point (hQ _ ?_ (Heap.SameBut.update ..))))))
    rw [hst, List.length_map]
    refine ⟨_, _, Heap.get?_update_self _ ho (Obj.isFreed_of_dict (Obj.data_mapDict hd _)), hc.mapDict _, Obj.data_mapDict hd _, hk.modify _ _, ?_, by rw [keys_map_store]; exact hn⟩
    have hl : (es.toList.findIdx? fun e => (intKind prog w).is k e.key) = some i := by rw [← hi]; obtain ⟨l⟩ := es; simp
    have := hp.modify hn hl v
    obtain ⟨l⟩ := es
    simpa using this
  | none =>
    have hnot : k ∉ kvs.map (·.1) := not_mem_of_findIdx_none (hidx ▸ hi)
    have hany : ¬ (kvs.any fun kv => decide (kv.1 = k)) = true := by
      rw [List.any_eq_true]; rintro ⟨kv, hkv, he⟩
      exact hnot (List.mem_map.mpr ⟨kv, hkv, of_decide_eq_true he⟩)
    have hst : stored kvs k v = kvs ++ [(k, v)] := by rw [stored, if_neg hany]
    refine wpAny_bind (wpAny_rule (wpAny_updateDictKeys (hz := hes) (s := { s with toks := s.toks + 1 }) ho hd (hQ _ ?_ (Heap.SameBut.update ..))))
    rw [hst, List.length_append]
    refine ⟨_, _, Heap.get?_update_self _ ho (Obj.isFreed_of_dict (Obj.data_mapDictKeys hd _)), hc.mapDictKeys _, Obj.data_mapDictKeys hd _, hk.push hkey _, ?_, ?_⟩
    · have := hp.append hkey ((intKind prog w).hash k) v
      obtain ⟨l⟩ := es
      simpa using this
    · rw [List.map_append, List.nodup_append]
      refine ⟨hn, by simp, fun a ha b hb => ?_⟩
      simp only [List.map_cons, List.map_nil, List.mem_singleton] at hb
      subst hb
      exact fun e => hnot (e ▸ ha)
end Mine
end
section
open PySem PySem.W PyProof.Rows PySem.Calls
set_option maxRecDepth 100000
namespace Mine

section
variable {C : Cst} {W : Wd} {μ : MH} {A : Around}
theorem put_step (B : Basis C) (I : Inv C W μ) {n : Nat} {o₀ o : MO} {a : Addr} {ob : Obj} {s' : Shared} (hn : μ.get n = some o₀) (ha : W.ρ[n]? = some a) (hs : Heap.SameBut a W.h s'.heap) (hob : s'.heap.get? a = some ob) (hg : s'.gens = W.s.gens) (hos : s'.os = W.s.os)
    (hor : Ext [] W (W.at s') → OR C (W.at s') o a) : Ext [] W (W.at s') ∧ Inv C (W.at s') (μ.put n o) := by
  have har : a ∈ W.ρ := List.mem_of_getElem? ha
  have x : Ext [] W (W.at s') := by
    refine ⟨fun _ _ h => h, fun b o h _ hb _ => (hs.2 b (fun q => hb (q ▸ har))).trans h, fun b o h => ?_, fun _ h => .inl h, fun _ h => .inl h, fun _ h => h⟩
    by_cases e : b = a
    · rw [e]; exact ⟨ob, hob⟩
    · exact ⟨o, (hs.2 b e).trans h⟩
  refine ⟨x, Inv.turn B I (I.freshρ a har).1 (.inl har) hs hob hg hos ⟨I.ok.le⟩ rfl fun m o' hm => ?_⟩
  rw [MH.get_put I.ok hn] at hm
  by_cases e : m = n
  · subst e
    rw [if_pos rfl] at hm; (first | exact no_some hm | cases hm)
    exact ⟨a, ha, hor x⟩
  · rw [if_neg e] at hm
    refine ex1_2 (I.objs m o' hm) fun b h1 h2 => ?_
    refine ⟨b, h1, OR.mono x (fun _ h => nomatch h) (fun ob' h => (hs.2 b (fun q => ?_)).trans h) h2⟩
    subst q
    have l1 := (List.getElem?_eq_some_iff.mp h1).1
    have l2 := (List.getElem?_eq_some_iff.mp ha).1
    exact e ((List.getElem_inj I.nd).mp ((List.getElem?_eq_some_iff.mp h1).2.trans (List.getElem?_eq_some_iff.mp ha).2.symm))
theorem Inv.list (I : Inv C W μ) {n : Nat} {a : Addr} {l : List MV} (ha : W.ρ[n]? = some a) (h : μ.get n = some (.list l)) : ∃ its, W.h.PlainList a its ∧ VRs C.Q W.h W.ρ W.M l its.toList := by
  refine ex1_2 (I.objs n _ h) fun b h1 h2 => ?_
  have : b = a := Option.some.inj (h1.symm.trans ha)
  subst this; exact h2
theorem Inv.dict (I : Inv C W μ) {n : Nat} {a : Addr} {es : List (Int × MV)} (ha : W.ρ[n]? = some a) (h : μ.get n = some (.dict es)) : ∃ kvs, W.h.DictAt (ik C) a kvs kvs.length ∧ DR C W es kvs := by
  refine ex1_2 (I.objs n _ h) fun b h1 h2 => ?_
  have : b = a := Option.some.inj (h1.symm.trans ha)
  subst this; exact h2
end

noncomputable def gItem : Op2 := fun x y μ => match x, y with
  | .tup ms, .int k => bif fits ms then match idx k ms.length with
    | some j => match nth ms j with
      | some v => some (v, μ)
      | none => none
    | none => none else none
  | .str l, .int k => bif Nat.ble l.length 4096 then match idx k l.length with
    | some j => match l[j]? with
      | some c => some (.str [c], μ)
      | none => none
    | none => none else none
  | .frz ms, .int k => bif fits ms then match idx k ms.length with
    | some j => match nth ms j with
      | some v => some (v, μ)
      | none => none
    | none => none else none
  | .loc n, .int k => match μ.get n with
    | some (.list ms) => bif fits ms then match idx k ms.length with
      | some j => match nth ms j with
        | some v => some (v, μ)
        | none => none
      | none => none else none
    | some (.dict es) => match dget es k with
      | some v => some (v, μ)
      | none => none
    | _ => none
  | _, _ => none
section
variable {C : Cst} {D : Fd} {k : Nat} {W : Wd} {μ : MH} {A : Around}
theorem idx_small {k : Int} {n j : Nat} (h : idx k n = some j) (hn : n ≤ 4096) : -(2 ^ 63) ≤ k ∧ k < 2 ^ 63 := by
  refine ex0_4 (idx_spec h) fun _ h2 h3 h4 => ?_
  by_cases q : 0 ≤ k
  · have := h3 q; omega
  · have := h4 (by omega); omega
theorem item_tail {x y v : MV} {μ' : MH} {px py : Value} {value slice : Expr} {Q : Value → Shared → Prop} (h : gItem x y μ = some (v, μ')) (I : Inv C W μ) (Vx : VR C.Q W.h W.ρ W.M x px) (Vy : VR C.Q W.h W.ρ W.M y py)
    (hs : ∀ o i, ∃ ops, subscripted slice false o i = operate ops (getItem o i)) (hQ : Says C W v μ' Q) : wpAny (model P0 C.w) A (subscriptTail value slice px py) Q NoE W.s := by
  unfold gItem at h
  split at h
  · rename_i ms kk
    cases hf : fits ms with
    | false => rw [hf] at h; (first | exact no_some h | cases h)
    | true =>
      rw [hf, cond_true] at h
      split at h
      · rename_i j hj
        split at h
        · rename_i v' hv
          (first | exact no_some h | cases h)
          refine Vx.tupE fun a its n ho' hρ hM Vs => ?_
          refine Vy.intE fun t => ?_
          refine ex1_2 (Vs.get (by rw [← nth_eq]; exact hv)) fun pv hp Vp => ?_
          have hsm := idx_small hj (Nat.le_of_ble_eq_true hf)
          have hlen : ms.length = its.size := by have := Vs.len; simpa using this
          have ht : IsTup W.s.heap a its := ⟨_, ho', rfl, n, rfl⟩
          refine tail_any (T := "tuple") ⟨_, ho', rfl⟩ slot_tuple_getitem.lookup ?_ (hs _ _).choose_spec
          exact getItem_tuple ht hsm.1 hsm.2 (by rw [← hlen]; exact (idx_spec hj).1) (by simpa using hp) (hQ W pv (Ext.refl _ _) I Vp)
        · (first | exact no_some h | cases h)
      · (first | exact no_some h | cases h)
  · rename_i l kk
    cases hf : Nat.ble l.length 4096 with
    | false => rw [hf] at h; (first | exact no_some h | cases h)
    | true =>
      rw [hf, cond_true] at h
      split at h
      · rename_i j hj
        split at h
        · rename_i c hv
          (first | exact no_some h | cases h)
          refine Vx.strE fun s t hl => ?_
          refine Vy.intE fun u => ?_
          have hsm := idx_small hj (Nat.le_of_ble_eq_true hf)
          have hlen : s.length = l.length := by rw [← hl]; simp [Str.length]
          refine tail_any (T := "str") (typeIs_str W.s s t) PySem.F.slot_str_getitem.lookup ?_ (hs _ _).choose_spec
          refine getItem_str (c := c) (by simp; omega) ?_ (hQ.str I rfl _ _)
          rw [hlen, (idx_spec hj).1]
          show s.cps[j]? = some c
          rw [← hl] at hv; simpa using hv
        · (first | exact no_some h | cases h)
      · (first | exact no_some h | cases h)
  · rename_i ms kk
    refine Vx.frzE fun a its n o e1 e2 e3 hρ hM Vs => ?_
    refine Vy.intE fun u => ?_
    cases hf : fits ms with
    | false => rw [hf] at h; (first | exact no_some h | cases h)
    | true =>
      rw [hf, cond_true] at h
      split at h
      · rename_i j hj
        split at h
        · rename_i v' hv
          (first | exact no_some h | cases h)
          have hl : W.s.heap.IsList a its := ⟨o, e1, e2, n, e3⟩
          refine ex1_2 (Vs.get (by rw [← nth_eq]; exact hv)) fun pv hp Vp => ?_
          have hsm := idx_small hj (Nat.le_of_ble_eq_true hf)
          have hlen : ms.length = its.size := by have := Vs.len; simpa using this
          refine tail_any (T := "list") hl.typeIs slot_list_getitem.lookup ?_ (hs _ _).choose_spec
          by_cases q : 0 ≤ kk
          · exact wpAny_getItem_list hl q hsm.2 (by rw [((idx_spec hj).2.2.1 q).1]; simpa using hp) (hQ W pv (Ext.refl _ _) I Vp)
          · refine ex0_2 ((idx_spec hj).2.2.2 (by omega)) fun q1 q2 => ?_
            exact wpAny_getItem_list_neg hl (by omega) (by rw [← hlen]; exact q1) hsm.1 (by rw [← hlen, q2]; simpa using hp) (hQ W pv (Ext.refl _ _) I Vp)
        · (first | exact no_some h | cases h)
      · (first | exact no_some h | cases h)
  · rename_i n kk
    refine Vx.locE fun a ha => ?_
    refine Vy.intE fun u => ?_
    split at h
    · rename_i ms hg
      cases hf : fits ms with
      | false => rw [hf] at h; (first | exact no_some h | cases h)
      | true =>
        rw [hf, cond_true] at h
        split at h
        · rename_i j hj
          split at h
          · rename_i v' hv
            (first | exact no_some h | cases h)
            refine ex1_2 (I.list ha hg) fun its hl Vs => ?_
            refine ex1_2 (Vs.get (by rw [← nth_eq]; exact hv)) fun pv hp Vp => ?_
            have hsm := idx_small hj (Nat.le_of_ble_eq_true hf)
            have hlen : ms.length = its.size := by have := Vs.len; simpa using this
            refine tail_any (T := "list") hl.isList.typeIs slot_list_getitem.lookup ?_ (hs _ _).choose_spec
            by_cases q : 0 ≤ kk
            · exact wpAny_getItem_list hl.isList q hsm.2 (by rw [((idx_spec hj).2.2.1 q).1]; simpa using hp) (hQ W pv (Ext.refl _ _) I Vp)
            · refine ex0_2 ((idx_spec hj).2.2.2 (by omega)) fun q1 q2 => ?_
              exact wpAny_getItem_list_neg hl.isList (by omega) (by rw [← hlen]; exact q1) hsm.1 (by rw [← hlen, q2]; simpa using hp) (hQ W pv (Ext.refl _ _) I Vp)
          · (first | exact no_some h | cases h)
        · (first | exact no_some h | cases h)
    · rename_i es hg
      split at h
      · rename_i v' hv
        (first | exact no_some h | cases h)
        refine ex1_2 (I.dict ha hg) fun kvs hd hr => ?_
        refine ex1_2 ((hr.get kk).1 _ hv) fun pv h1 h2 => ?_
        refine tail_any (T := "dict") hd.dictOf.typeIs slot_dict_getitem.lookup ?_ (hs _ _).choose_spec
        exact wpAny_getItem_of (knd := ik C) (by simp [intKind, Value.isInt]) hd.dictOf.mapOf h1 (hQ.keep I (fun _ _ h => h) rfl rfl h2)
      · (first | exact no_some h | cases h)
    · (first | exact no_some h | cases h)
  · (first | exact no_some h | cases h)
theorem sim_item {value slice : Expr} {a b : Ev} (pos : Pos) (ha : SimE C D k value a) (hb : SimE C D k slice b) (hs : ∀ o i, ∃ ops, subscripted slice false o i = operate ops (getItem o i)) : SimE C D k (.Subscript value slice pos) (cBin gItem a b) := by
  intro ls μ v μ' h W env O A eo ao I F Q hQ
  unfold cBin at h
  split at h
  · rename_i x μ₁ h1
    split at h
    · rename_i y μ₂ h2
      refine Subscript_ (ha ls μ x μ₁ h1 W env O A eo ao I F _ fun W₁ px x₁ I₁ V₁ => ?_)
      refine hb ls μ₁ y μ₂ h2 W₁ env O A eo ao I₁ (F.mono I x₁) _ fun W₂ py x₂ I₂ V₂ => ?_
      exact item_tail h I₂ (VR.mono x₂ (fun _ h => nomatch h) V₁) V₂ hs ((hQ.step x₁).step x₂)
    · (first | exact no_some h | cases h)
  · (first | exact no_some h | cases h)
end
end Mine
end
section
open PySem PySem.W PyProof.Rows PySem.Calls
set_option maxRecDepth 100000
namespace Mine

noncomputable def oAdd : Op2 := fun x y μ => match x, y with
  | .int a, .int b => some (.int (a + b), μ)
  | .tup a, .tup b => match a, b with
    | _ :: _, _ :: _ => bif fits a then bif fits b then some (.tup (a ++ b), μ) else none else none
    | _, _ => none
  | .loc m, .loc n => match μ.get m, μ.get n with
    | some (.list a), some (.list b) => bif fits a then bif fits b then mkList (a ++ b) μ else none else none
    | _, _ => none
  | _, _ => none
noncomputable def rep : Nat → List MV → List MV
  | 0, _ => []
  | n + 1, l => l ++ rep n l
noncomputable def oMulL : Op2 := fun x y μ => match x, y with
  | .loc m, .int (.ofNat k) => bif Nat.ble k 64 then match μ.get m with
    | some (.list a) => bif fits a then mkList (rep k a) μ else none
    | _ => none else none
  | _, _ => none
noncomputable def oMulA : Op2 := fun x y μ => match x with
  | .loc _ => oMulL x y μ
  | _ => oMul x y μ
section
variable {C : Cst}
theorem rep_eq : ∀ (n : Nat) (l : List MV), rep n l = (List.replicate n l).flatten
  | 0, _ => rfl
  | n + 1, l => by rw [List.replicate_succ, List.flatten_cons, ← rep_eq n l]; rfl
theorem VRs.rep {Q : Int} {h : Heap} {ρ M : List Addr} {ms : List MV} {vs : List Value} (V : VRs Q h ρ M ms vs) : ∀ n, VRs Q h ρ M (rep n ms) (List.replicate n vs).flatten
  | 0 => .nil
  | n + 1 => by rw [List.replicate_succ, List.flatten_cons]; exact V.append (VRs.rep V n)
theorem foldl_app (x : Array Value) (n : Nat) (acc : Array Value) : (List.foldl (fun x1 x2 => x1 ++ x2) acc (List.replicate n x)).toList = acc.toList ++ (List.replicate n x.toList).flatten := by
  induction n generalizing acc with
  | zero => simp
  | succ n ih => rw [List.replicate_succ, List.foldl_cons, ih, List.replicate_succ, List.flatten_cons, Array.toList_append, List.append_assoc]
theorem so_add : SimO C .Add oAdd := by
  intro x y μ v μ' h W px py A hA I Vx Vy Q hQ
  unfold oAdd at h
  split at h
  · (first | exact no_some h | cases h); refine Vx.intE fun _ => ?_; refine Vy.intE fun _ => ?_; exact add_int (hQ.int I _ _)
  · split at h
    · rename_i a₀ ar b₀ br
      cases hf : fits (a₀ :: ar) with
      | false => rw [hf] at h; (first | exact no_some h | cases h)
      | true =>
        cases hg : fits (b₀ :: br) with
        | false => rw [hf, hg] at h; (first | exact no_some h | cases h)
        | true =>
          rw [hf, hg] at h; (first | exact no_some h | cases h)
          refine Vx.tupE fun a its n ho hρ hM Vs => ?_
          refine Vy.tupE fun b its2 n2 ho2 hρ2 hM2 Vs2 => ?_
          have l1 : (a₀ :: ar).length = its.size := by simpa only [Array.length_toList] using Vs.len
          have l2 : (b₀ :: br).length = its2.size := by simpa only [Array.length_toList] using Vs2.len
          have s1 := fits_le hf Vs; have s2 := fits_le hg Vs2
          have m1 := Nat.le_of_ble_eq_true hf; have m2 := Nat.le_of_ble_eq_true hg
          refine P.add_tuple (s := W.s) ho ho2 ?_ ?_ ?_ (by rw [sizeLine_eq]; omega)
          · intro q; rw [Array.isEmpty_iff_size_eq_zero] at q; rw [q] at l1; cases l1
          · intro q; rw [Array.isEmpty_iff_size_eq_zero] at q; rw [q] at l2; cases l2
          · have := hQ.tup (n := 0) I (Vs.append Vs2) W.s.toks
            rw [← Array.toList_append] at this
            exact this
    · (first | exact no_some h | cases h)
  · rename_i m n
    split at h
    · rename_i a b hm hn
      cases hf : fits a with
      | false => rw [hf] at h; (first | exact no_some h | cases h)
      | true =>
        cases hg : fits b with
        | false => rw [hf, hg] at h; (first | exact no_some h | cases h)
        | true =>
          rw [hf, hg, cond_true, cond_true] at h
          refine ex1_3 (mkList_spec h) fun k eqq1 hk _ => ?_; subst eqq1
          refine Vx.locE fun ax hax => ?_
          refine Vy.locE fun bx hbx => ?_
          refine ex1_2 (I.list hax hm) fun its hl Vs => ?_; refine ex1_1 hl fun c hl => ?_
          refine ex1_2 (I.list hbx hn) fun its2 hl2 Vs2 => ?_; refine ex1_1 hl2 fun c2 hl2 => ?_
          have l1 : a.length = its.size := by simpa only [Array.length_toList] using Vs.len
          have l2 : b.length = its2.size := by simpa only [Array.length_toList] using Vs2.len
          have m1 := Nat.le_of_ble_eq_true hf; have m2 := Nat.le_of_ble_eq_true hg
          refine P.add_list (s := W.s) hl hl2 ?_ (by rw [sizeLine_eq]; omega)
          have := hQ.list (c := 0) I hk (Vs.append Vs2) W.s.toks
          rw [← Array.toList_append] at this
          exact this
    · (first | exact no_some h | cases h)
  · (first | exact no_some h | cases h)
theorem mul_bare {W : World} {A : Around} {E : Value → Shared → Prop} {s : Shared} {l : Addr} {items : Array Value} {c : Nat} {x : Int} {u : Tok} {Q : Value → Shared → Prop} (hl : IsL s.heap l items c) (hlo : -(2 ^ 63 : Int) ≤ x) (hhi : x < 2 ^ 63) (hsz : items.size * x.toNat ≤ 2 ^ 24)
    (h : Q (.ref s.heap.objs.size) { s with heap := s.heap.push { cls := .type "list", data := .seq (List.foldl (fun x1 x2 => x1 ++ x2) #[] (List.replicate (if items.isEmpty = true then 0 else x.toNat) items)) } }) : wpAny (model P0 W) A (binaryOp .Mult (.ref l) (.int x u)) Q E s :=
  wpAny_binaryOp_repeat_ref (T := "list") (U := "int") (by decide) ⟨_, hl, rfl⟩ (fun s' => typeIs_int s' x u) noFill_list_mul F.fills_int_mul F.slot_int_rmul repeat_list F.slot_int_index.lookup
    (call_meets F.slot_int_rmul (typeIs_int s x u) F.entry_int_rmul (F.args_int_rmul_2 _ _) (int___rmul___int_list x u l items c)
      ⟨hl, rfl, ⟨_, hl, rfl⟩, call_meets F.slot_list_mul ⟨_, hl, rfl⟩ F.entry_list_mul (F.args_list_mul_2 _ _)
        (AutoListH.list___mul___list_int_3 l items c x u (by simp [Builtin.List.listFitsIndex]; omega) (by omega) (by simp [Builtin.List.listTooLong, sizeLine]; omega))
        ⟨hl, h⟩⟩)
theorem so_mulL : SimO C .Mult oMulL := by
  intro x y μ v μ' h W px py A hA I Vx Vy Q hQ
  unfold oMulL at h
  split at h
  · rename_i m k
    cases hb : Nat.ble k 64 with
    | false => rw [hb] at h; (first | exact no_some h | cases h)
    | true =>
      rw [hb, cond_true] at h
      have hk64 : k ≤ 64 := Nat.le_of_ble_eq_true hb
      split at h
      · rename_i a hm
        cases hf : fits a with
        | false => rw [hf] at h; (first | exact no_some h | cases h)
        | true =>
          rw [hf, cond_true] at h
          refine ex1_3 (mkList_spec h) fun n eqq1 hk hfr => ?_; subst eqq1
          refine Vx.locE fun l hax => ?_
          refine Vy.intE fun u => ?_
          refine ex1_2 (I.list hax hm) fun items hl Vs => ?_; refine ex1_1 hl fun c hl => ?_
          have l1 : a.length = items.size := by simpa only [Array.length_toList] using Vs.len
          have m1 := Nat.le_of_ble_eq_true hf
          have hsz : items.size * (Int.ofNat k).toNat ≤ 2 ^ 24 := by
            show items.size * k ≤ 2 ^ 24
            have := Nat.mul_le_mul (show items.size ≤ 4096 by omega) hk64
            omega
          have e : ∀ (z : Nat), (List.foldl (fun x1 x2 => x1 ++ x2) #[] (List.replicate (if items.isEmpty = true then 0 else z) items)) = (List.replicate z items.toList).flatten.toArray := by
            intro z
            apply Array.ext'
            rw [foldl_app]
            by_cases q : items.isEmpty = true
            · have : items = #[] := by simpa using q
              subst this; simp
            · rw [if_neg q]; simp
          have hlo : -(2 ^ 63 : Int) ≤ (Int.ofNat k) := by have : (0 : Int) ≤ Int.ofNat k := Int.natCast_nonneg k; omega
          have hhi : (Int.ofNat k) < 2 ^ 63 := by show (k : Int) < 2 ^ 63; omega
          refine mul_bare hl hlo hhi hsz ?_
          rw [e]
          exact hQ.list (c := 0) I hk (Vs.rep k) _
      · (first | exact no_some h | cases h)
  · (first | exact no_some h | cases h)
theorem so_mulA : SimO C .Mult oMulA := by
  intro x y μ v μ' h
  unfold oMulA at h
  split at h
  · exact so_mulL _ y μ v μ' h
  · exact so_mul x y μ v μ' h
end
end Mine
end
section
open PySem PySem.W PyProof.Rows PySem.Calls PySem.SeqAt
set_option maxRecDepth 100000
namespace Mine

noncomputable def eqL : List Nat → List Nat → Bool
  | [], [] => true
  | a :: r, b :: s => bif Nat.beq a b then eqL r s else false
  | _, _ => false
theorem eqL_eq : ∀ a b : List Nat, eqL a b = decide (a = b)
  | [], [] => rfl
  | [], _ :: _ => rfl
  | _ :: _, [] => rfl
  | a :: r, b :: s => by
    unfold eqL
    cases h : Nat.beq a b with
    | true =>
      have e := Nat.eq_of_beq_eq_true h
      subst e
      rw [cond_true, eqL_eq r s]
      by_cases q : r = s <;> simp [q]
    | false =>
      have e := Nat.ne_of_beq_eq_false h
      simp [e]
mutual
noncomputable def deq : Nat → MV → MV → MH → Option Bool
  | 0, _, _, _ => none
  | f + 1, x, y, μ => match x, y with
    | .none, .none => some true
    | .int a, .int b => some (eqI a b)
    | .lin a b, .lin c d => bif eqI a c then bif eqI b d then some true else none else none
    | .str a, .str b => some (eqL a b)
    | .tup a, .tup b => bif Nat.beq a.length b.length then bif deqs f a b μ then some true else none else none
    | .loc m, .loc n => bif Nat.beq m n then some true else match μ.get m, μ.get n with
      | some (.list a), some (.list b) => bif Nat.beq a.length b.length then bif deqs f a b μ then some true else none else some false
      | some (.dict a), some (.dict b) => bif Nat.beq a.length b.length then bif deqd f a b μ then some true else none else none
      | _, _ => none
    | _, _ => none
noncomputable def deqs : Nat → List MV → List MV → MH → Bool
  | 0, _, _, _ => false
  | f + 1, a, b, μ => match a, b with
    | [], [] => true
    | x :: r, y :: s => match deq f x y μ with
      | some true => deqs f r s μ
      | _ => false
    | _, _ => false
noncomputable def deqd : Nat → List (Int × MV) → List (Int × MV) → MH → Bool
  | 0, _, _, _ => false
  | f + 1, a, b, μ => match a with
    | [] => true
    | p :: r => match dget b p.1 with
      | some y => match deq f p.2 y μ with
        | some true => deqd f r b μ
        | _ => false
      | none => false
end
section
variable {C : Cst} {W : Wd} {μ : MH}
theorem VRs.nthD {Q : Int} {h : Heap} {ρ M : List Addr} {ms : List MV} {its : Array Value} (V : VRs Q h ρ M ms its.toList) : ms.length = its.size := by have := V.len; simpa using this
theorem keyNe (I : Inv C W μ) {a : Addr} (ha : a ∈ W.ρ) : (a == sysModules) = false := by
  have := I.big a ha
  rw [beq_eq_false_iff_ne]
  intro q; subst q; exact absurd this (by decide)
theorem all_true (n : Nat) : ((List.range n).all fun _ => true) = true := by rw [List.all_eq_true]; intro _ _; rfl
theorem pairs_any {P P' : Program} {w w' : World} {es : List DictEntry} {kvs : List (Int × Value)} (h : Pairs (intKind P w) es kvs) : Pairs (intKind P' w') es kvs := by
  induction h with
  | nil => exact .nil
  | cons h1 h2 _ ih => exact .cons h1 h2 ih
theorem dictOf_any {P P' : Program} {w w' : World} {h : Heap} {a : Addr} {kvs : List (Int × Value)} (x : h.DictOf (intKind P w) a kvs) : h.DictOf (intKind P' w') a kvs := by
  refine ex3_6 x fun o es ep h1 h2 h3 h4 h5 h6 => ?_
  exact ⟨o, es, ep, h1, h2, h3, h4, pairs_any h5, h6⟩
theorem eqAt_int (A : Around) (s : Shared) (a b : Int) (t u : Tok) : EqAt A s (.int a t) (.int b u) (eqI a b) := by rw [eqI_eq]; exact EqAt.int_int a t b u
theorem str_iff (s t : Str) : (s == t) = decide (s.cps.toList = t.cps.toList) := by
  rw [Bool.eq_iff_iff, beq_iff_eq, decide_eq_true_eq]
  constructor
  · rintro rfl; rfl
  · intro h
    obtain ⟨a⟩ := s; obtain ⟨b⟩ := t
    simp only at h
    rw [Array.ext' h]
noncomputable def DeqOk (C : Cst) (W : Wd) (μ : MH) (f : Nat) : Prop := ∀ x y b, deq f x y μ = some b → ∀ A px py, A.units + 4 * f < cLine → Inv C W μ → VR C.Q W.h W.ρ W.M x px → VR C.Q W.h W.ρ W.M y py → EqAt A W.s px py b
theorem deqs_ok {f : Nat} (ih : ∀ g, g ≤ f → DeqOk C W μ g) : ∀ (f' : Nat), f' ≤ f + 1 → ∀ a b, deqs f' a b μ = true → ∀ (A : Around), A.units + 4 * f < cLine → Inv C W μ → ∀ va vb, VRs C.Q W.h W.ρ W.M a va → VRs C.Q W.h W.ρ W.M b vb → va.length = vb.length ∧ ∀ j (h1 : j < va.length) (h2 : j < vb.length), EqAt A W.s va[j] vb[j] true
  | 0, _, a, b, h => by unfold deqs at h; (first | exact no_some h | cases h)
  | f' + 1, hf, a, b, h => by
    intro A hu I va vb Va Vb
    unfold deqs at h
    split at h
    · refine Va.nilE ?_; refine Vb.nilE ?_
      exact ⟨rfl, fun j h1 => absurd h1 (Nat.not_lt_zero _)⟩
    · rename_i x r y s
      split at h
      · rename_i hd
        refine Va.consE fun v vs V Vs => ?_
        refine Vb.consE fun w ws V' Vs' => ?_
        have hq := ih f' (by omega) x y true hd A v w (by omega) I V V'
        refine ex0_2 (deqs_ok ih f' (by omega) r s h A hu I vs ws Vs Vs') fun q1 q2 => ?_
        refine ⟨by rw [List.length_cons, List.length_cons, q1], fun j h1 h2 => ?_⟩
        cases j with
        | zero => exact hq
        | succ j => exact q2 j (by simpa using h1) (by simpa using h2)
      · (first | exact no_some h | cases h)
    · (first | exact no_some h | cases h)
theorem deqd_ok {f : Nat} (ih : ∀ g, g ≤ f → DeqOk C W μ g) {esb : List (Int × MV)} {kvb : List (Int × Value)} (Db : DR C W esb kvb) : ∀ (f' : Nat), f' ≤ f + 1 → ∀ a, deqd f' a esb μ = true → ∀ (A : Around), A.units + 4 * f < cLine → Inv C W μ → ∀ kva, DR C W a kva → KeqHits A W.s kvb kva true
  | 0, _, a, h => by unfold deqd at h; (first | exact no_some h | cases h)
  | f' + 1, hf, a, h => by
    intro A hu I kva Da
    unfold deqd at h
    split at h
    · cases kva with
      | nil => exact .nil
      | cons p r => cases Da.1
    · rename_i p r
      split at h
      · rename_i y hy
        split at h
        · rename_i hd
          cases kva with
          | nil => cases Da.1
          | cons q s =>
            obtain ⟨k, v⟩ := q
            have h1 : p.1 = k := (List.cons.inj Da.1).1
            have h2 : r.map (·.1) = s.map (·.1) := (List.cons.inj Da.1).2
            have hv := Da.2
            cases hv with
            | cons _ _ _ _ V Vs =>
              refine ex1_2 ((Db.get p.1).1 y hy) fun py e1 e2 => ?_
              have hq := ih f' (by omega) p.2 y true hd A v py (by omega) I V e2
              rw [h1] at e1
              have := KeqHits.hit e1 hq (deqd_ok ih Db f' (by omega) r h A hu I s ⟨h2, Vs⟩)
              exact this
        · (first | exact no_some h | cases h)
      · (first | exact no_some h | cases h)
theorem deq_ok (f : Nat) : DeqOk C W μ f := by
  induction f using Nat.strongRecOn with
  | _ f ih =>
    cases f with
    | zero => intro x y b h; unfold deq at h; (first | exact no_some h | cases h)
    | succ f =>
      have ih' : ∀ g, g ≤ f → DeqOk C W μ g := fun g hg => ih g (by omega)
      intro x y b h A px py hu I Vx Vy
      unfold deq at h
      split at h
      · (first | exact no_some h | cases h); refine Vx.noneE ?_; refine Vy.noneE ?_; exact EqAt.same _
      · (first | exact no_some h | cases h); refine Vx.intE fun _ => ?_; refine Vy.intE fun _ => ?_; exact eqAt_int _ _ _ _ _ _
      · rename_i a b' c d
        cases q1 : eqI a c with
        | false => rw [q1] at h; (first | exact no_some h | cases h)
        | true =>
          cases q2 : eqI b' d with
          | false => rw [q1, q2] at h; (first | exact no_some h | cases h)
          | true =>
            rw [q1, q2] at h; (first | exact no_some h | cases h)
            have e1 := eqI_iff.mp q1; have e2 := eqI_iff.mp q2
            subst e1; subst e2
            refine Vx.linE fun t => ?_
            refine Vy.linE fun u => ?_
            have := EqAt.int_int (A := A) (s := W.s) (a * C.Q + b') t (a * C.Q + b') u
            rw [beq_self_eq_true] at this
            exact this
      · (first | exact no_some h | cases h)
        refine Vx.strE fun s t hs => ?_
        refine Vy.strE fun s' t' hs' => ?_
        have := EqAt.str_str (A := A) (s := W.s) s t s' t'
        rw [str_iff, hs, hs', ← eqL_eq] at this
        exact this
      · rename_i a b'
        cases q1 : Nat.beq a.length b'.length with
        | false => rw [q1] at h; (first | exact no_some h | cases h)
        | true =>
          cases q2 : deqs f a b' μ with
          | false => rw [q1, q2] at h; (first | exact no_some h | cases h)
          | true =>
            rw [q1, q2] at h; (first | exact no_some h | cases h)
            refine Vx.tupE fun ax its n ho hρ hM Vs => ?_
            refine Vy.tupE fun bx its2 n2 ho2 hρ2 hM2 Vs2 => ?_
            refine ex0_2 (deqs_ok ih' f (by omega) a b' q2 A.in1 (by show A.units + 1 + 4 * f < cLine; omega) I _ _ Vs Vs2) fun hl he => ?_
            by_cases hab : ax = bx
            · subst hab; exact EqAt.same _
            · refine EqAt.of_refs hab ?_
              have hsz : its.size = its2.size := by simpa using hl
              have := RcAt.tuples (A := A) (s := W.s) (e := fun _ => true) ⟨_, ho, rfl, n, rfl⟩ ⟨_, ho2, rfl, n2, rfl⟩ (by omega) (fun j h1 h2 => by have := he j (by simpa using h1) (by simpa using h2); simpa using this)
              rw [all_true, hsz, beq_self_eq_true] at this
              exact this
      · rename_i m n
        cases q0 : Nat.beq m n with
        | true =>
          rw [q0] at h; (first | exact no_some h | cases h)
          have e := Nat.eq_of_beq_eq_true q0
          subst e
          refine Vx.locE fun ax ha => ?_
          refine Vy.locE fun bx hb => ?_
          have : ax = bx := Option.some.inj (ha.symm.trans hb)
          subst this; exact EqAt.same _
        | false =>
          rw [q0, cond_false] at h
          refine Vx.locE fun ax ha => ?_
          refine Vy.locE fun bx hb => ?_
          have hab : ax ≠ bx := fun q => by
            subst q
            have l1 := (List.getElem?_eq_some_iff.mp ha)
            have l2 := (List.getElem?_eq_some_iff.mp hb)
            exact Nat.ne_of_beq_eq_false q0 ((List.getElem_inj I.nd).mp (l1.2.trans l2.2.symm))
          split at h
          · rename_i a b' hm hn
            refine ex1_2 (I.list ha hm) fun its hl Vs => ?_
            refine ex1_2 (I.list hb hn) fun its2 hl2 Vs2 => ?_
            have z1 := Vs.nthD; have z2 := Vs2.nthD
            cases q1 : Nat.beq a.length b'.length with
            | false =>
              rw [q1] at h; (first | exact no_some h | cases h)
              have := Nat.ne_of_beq_eq_false q1
              exact EqAt.of_refs hab (RcAt.lists_lengths hl.isList hl2.isList (by rw [← z1, ← z2]; simpa using this) (by omega))
            | true =>
              cases q2 : deqs f a b' μ with
              | false => rw [q1, q2] at h; (first | exact no_some h | cases h)
              | true =>
                rw [q1, q2] at h; (first | exact no_some h | cases h)
                refine ex0_2 (deqs_ok ih' f (by omega) a b' q2 A.in1 (by show A.units + 1 + 4 * f < cLine; omega) I _ _ Vs Vs2) fun hll he => ?_
                refine EqAt.of_refs hab ?_
                have hsz : its.size = its2.size := by simpa using hll
                have := RcAt.lists (A := A) (s := W.s) (e := fun _ => true) hl.isList hl2.isList hsz (by omega) (fun j h1 h2 => by have := he j (by simpa using h1) (by simpa using h2); simpa using this)
                rw [all_true] at this
                exact this
          · rename_i a b' hm hn
            cases q1 : Nat.beq a.length b'.length with
            | false => rw [q1] at h; (first | exact no_some h | cases h)
            | true =>
              cases q2 : deqd f a b' μ with
              | false => rw [q1, q2] at h; (first | exact no_some h | cases h)
              | true =>
                rw [q1, q2] at h; (first | exact no_some h | cases h)
                refine ex1_2 (I.dict ha hm) fun kva ha' Da => ?_
                refine ex1_2 (I.dict hb hn) fun kvb hb' Db => ?_
                have hits := deqd_ok ih' Db f (by omega) a q2 A.in1 (by show A.units + 1 + 4 * f < cLine; omega) I kva Da
                have hlen : kva.length = kvb.length := by
                  have e1 := congrArg List.length Da.1; have e2 := congrArg List.length Db.1
                  have e3 := Nat.eq_of_beq_eq_true q1
                  simp only [List.length_map] at e1 e2
                  omega
                refine EqAt.of_refs hab fun prog w E Q hQ => ?_
                refine keq_eq (knd := intKind prog w) (r := true) (keyNe I (List.mem_of_getElem? ha)) (keyNe I (List.mem_of_getElem? hb)) (dictOf_any ha'.dictOf) (dictOf_any hb'.dictOf) (by omega) (fun _ => hits) ?_
                rw [hlen, beq_self_eq_true]
                exact hQ
          · (first | exact no_some h | cases h)
      · (first | exact no_some h | cases h)
end
end Mine
end
section
open PySem PySem.W PyProof.Rows PySem.Calls PySem.SeqAt
set_option maxRecDepth 100000
namespace Mine

inductive MI where
  | lst (n i : Nat)
  | rev (n i : Nat)
  | rng (a : Int) (left : Nat)
  | items (n i len : Nat)
  | keys (n i len : Nat)
  | vals (n i len : Nat)
noncomputable def ItAt (W : Wd) (a : Addr) : MI → Prop
  | .lst n i => ∃ l, W.ρ[n]? = some l ∧ W.h.IsListIter a l i
  | .rev n i => ∃ l, W.ρ[n]? = some l ∧ W.h.IsRevIter a l ((i : Int) - 1)
  | .rng x left => IsRangeIter W.h a x (left : Nat) 1
  | .items n i len => ∃ d ok ov, W.ρ[n]? = some d ∧ IsItemIter W.h a d i len len ok ov
  | .keys n i len => ∃ d, W.ρ[n]? = some d ∧ W.h.IsKeyIter a d i len len
  | .vals n i len => ∃ d, W.ρ[n]? = some d ∧ W.h.IsValIter a d i len len
noncomputable def nthD : List (Int × MV) → Nat → Option (Int × MV)
  | [], _ => none
  | m :: _, 0 => some m
  | _ :: r, n + 1 => nthD r n
theorem nthD_eq : ∀ (l : List (Int × MV)) (n : Nat), nthD l n = l[n]?
  | [], _ => rfl
  | _ :: _, 0 => rfl
  | _ :: r, n + 1 => by rw [List.getElem?_cons_succ]; exact nthD_eq r n
noncomputable def MI.next : MI → MH → Option (Option (MV × MI))
  | .lst n i, μ => match μ.get n with
    | some (.list l) => match nth l i with
      | some v => some (some (v, .lst n (i + 1)))
      | none => some none
    | _ => none
  | .rev n i, μ => match μ.get n with
    | some (.list l) => match i with
      | 0 => some none
      | k + 1 => match nth l k with
        | some v => some (some (v, .rev n k))
        | none => none
    | _ => none
  | .rng a left, _ => match left with
    | 0 => some none
    | k + 1 => some (some (.int a, .rng (a + 1) k))
  | .items n i len, μ => match μ.get n with
    | some (.dict es) => bif Nat.beq es.length len then match nthD es i with
      | some p => some (some (.tup [.int p.1, p.2], .items n (i + 1) len))
      | none => some none else none
    | _ => none
  | .keys n i len, μ => match μ.get n with
    | some (.dict es) => bif Nat.beq es.length len then match nthD es i with
      | some p => some (some (.int p.1, .keys n (i + 1) len))
      | none => some none else none
    | _ => none
  | .vals n i len, μ => match μ.get n with
    | some (.dict es) => bif Nat.beq es.length len then match nthD es i with
      | some p => some (some (p.2, .vals n (i + 1) len))
      | none => some none else none
    | _ => none
theorem ItAt.at {W W' : Wd} {a : Addr} {mi : MI} (h : ItAt W a mi) (pre : ∀ (n : Nat) (b : Addr), W.ρ[n]? = some b → W'.ρ[n]? = some b) (hk : ∀ o, W.h.get? a = some o → W'.h.get? a = some o) : ItAt W' a mi := by
  cases mi with
  | lst n i => obtain ⟨l, h1, o, h2, r⟩ := h; exact ⟨l, pre _ _ h1, o, hk _ h2, r⟩
  | rev n i => refine ex1_2 h fun l h1 h2 => ?_; exact ⟨l, pre _ _ h1, h2.at hk⟩
  | rng x left => exact hk _ h
  | items n i len => refine ex3_2 h fun d ok ov h1 h2 => ?_; exact ⟨d, ok, ov, pre _ _ h1, hk _ h2⟩
  | keys n i len => obtain ⟨d, h1, o, h2, r⟩ := h; exact ⟨d, pre _ _ h1, o, hk _ h2, r⟩
  | vals n i len => obtain ⟨d, h1, o, h2, r⟩ := h; exact ⟨d, pre _ _ h1, o, hk _ h2, r⟩

section
variable {C : Cst} {W : Wd} {μ : MH} {A : Around}
theorem letGo_no {w : World} {E : Value → Shared → Prop} {s : Shared} {tg : Expr} {I : Addr} {o : Obj} {T : String} {vs : Array Value} {v : Value} {Q : Unit → Shared → Prop} (ho : s.heap.get? I = some o) (hc : o.cls = .type T) (hd : o.data = .fields vs)
    (hT : ["enumerate", "zip", "dict_itemiterator", "dict_reverseitemiterator", "odict_iterator", "itertools.zip_longest", "itertools.pairwise"].contains T = false) (hQ : Q () s) : wpAny (model P0 w) A (letOwnedTupleGo tg (.ref I) v) Q E s := by
  have key : ∀ a, wpAny (model P0 w) A (do
      let o ← load I
      match o.cls, o.data with
      | .type n, .fields vs =>
        if ["enumerate", "zip", "dict_itemiterator", "dict_reverseitemiterator", "odict_iterator", "itertools.zip_longest", "itertools.pairwise"].contains n && vs[0]? == some (rawInt a) then
          rule "for.unpacks-the-owned-tuple"
          updateField I 0 .none
      | _, _ => pure ()) Q E s := fun a => by
    refine wpAny_bind (wpAny_load ho ?_)
    rw [hc, hd]
    show wpAny _ A (if (["enumerate", "zip", "dict_itemiterator", "dict_reverseitemiterator", "odict_iterator", "itertools.zip_longest", "itertools.pairwise"].contains T && vs[0]? == some (rawInt a)) = true then _ else _) Q E s
    rw [if_neg (by rw [hT, Bool.false_and]; exact Bool.false_ne_true)]
    exact wpAny_pure hQ
  unfold letOwnedTupleGo
  split
  · cases v with
    | ref a => exact key a
    | _ => exact wpAny_pure hQ
  · cases v with
    | ref a => exact key a
    | _ => exact wpAny_pure hQ
  · exact wpAny_pure hQ
theorem it_step (B : Basis C) (I : Inv C W μ) {a : Addr} {o' : Obj} {s' : Shared} (haM : a ∈ W.M) (hs : Heap.SameBut a W.h s'.heap) (ho' : s'.heap.get? a = some o') (hg : s'.gens = W.s.gens) (hos : s'.os = W.s.os) : Ext [a] W (W.at s') ∧ Inv C (W.at s') μ :=
  ⟨Ext.own (List.mem_singleton_self a) hs ho', Inv.turnM B I haM hs ho' hg hos⟩
structure Ended (C : Cst) (W : Wd) (μ : MH) (a : Addr) (W' : Wd) : Prop where
  ρ : W'.ρ = W.ρ
  M : W'.M = W.M.filter (fun b => b != a)
  kp : Heap.ExtBut a W.h W'.h
  inv : Inv C W' μ
theorem oldK_ext {h₀ h h' : Heap} (K : OldK h₀ h) {a : Addr} (ha : h₀.get? a = none) (hs : Heap.ExtBut a h h') : OldK h₀ h' := by
  have ne : ∀ b o, h₀.get? b = some o → b ≠ a := fun b o e q => by rw [q, ha] at e; cases e
  refine ⟨fun b o e => ?_, fun b o e => let ⟨o', ho'⟩ := K.there b o e; ⟨o', hs _ _ (ne b o e) ho'⟩⟩
  rcases K.old b o e with x | ⟨t, hc, vs, more, hv, x⟩ | ⟨rfl, hc, ⟨o', es, n, ho', r⟩, z⟩
  · exact .inl (hs _ _ (ne b o e) x)
  · exact .inr (.inl ⟨t, hc, vs, more, hv, hs _ _ (ne b o e) x⟩)
  · have q := hs _ _ (ne _ o e) ho'
    exact .inr (.inr ⟨rfl, hc, ⟨o', es, n, q, r⟩, fun key => by rw [OldK.staticOf_congr (q.trans ho'.symm) key]; exact z key⟩)
theorem fin_wk {a : Addr} {h' : Heap} {t : Nat} (haM : a ∈ W.M) (hx : Heap.ExtBut a W.h h') : Wk W ⟨{ W.s with heap := h', toks := t }, W.ρ, W.M.filter (fun b => b != a)⟩ :=
  ⟨fun _ _ h => h, fun b o h _ hρ hM => ⟨hx b o (fun q => hM (q ▸ haM)) h, hρ, fun q => hM (List.mem_filter.mp q).1⟩⟩
theorem fin_inv (B : Basis C) (I : Inv C W μ) {a : Addr} {h' : Heap} {t : Nat} (haM : a ∈ W.M) (hx : Heap.ExtBut a W.h h') : Ended C W μ a ⟨{ W.s with heap := h', toks := t }, W.ρ, W.M.filter (fun b => b != a)⟩ := by
  have haC := (I.freshM a haM).1
  have har := (I.freshM a haM).2.2
  refine ⟨rfl, rfl, hx, ?_⟩
  refine ⟨oldK_ext I.old haC hx, ?_, fun p hp => ?_, I.ok, fun n o h => ?_, I.len, I.nd, fun b hb => ?_, fun b hb => ?_, I.gens, I.os, I.big, I.g3⟩
  · refine ex1_2 I.lim fun m h1 h2 => ?_
    exact ⟨m, h1.extBut hx (limNe B.st haC), h2⟩
  · refine (I.tab p hp).wk (fin_wk haM hx) fun ps h => ?_
    obtain ⟨⟨o, vs, e, r⟩, t'⟩ := h
    have q := Inv.tabNe B haC p hp
    exact ⟨⟨o, vs, hx _ _ q.1 e, r⟩, hx _ _ q.2 t'⟩
  · refine ex1_2 (I.objs n o h) fun b h1 h2 => ?_
    exact ⟨b, h1, OR.wk (fin_wk haM hx) (fun ob e => hx _ _ (fun q => har (q ▸ List.mem_of_getElem? h1)) e) h2⟩
  · obtain ⟨h1, o, h2⟩ := I.freshρ b hb
    exact ⟨h1, o, hx _ _ (fun q => har (q ▸ hb)) h2⟩
  · refine ex0_2 (List.mem_filter.mp hb) fun hb1 hb2 => ?_
    refine I.freshME b hb1 fun h1 o h2 h3 => ?_
    exact ⟨h1, ⟨o, hx _ _ (by simpa using hb2) h2⟩, h3⟩
end
noncomputable def tgOk (mi : MI) (tg : Expr) : Prop := match mi with
  | .items .. => ∃ es c p, tg = .Tuple es c p
  | _ => True
theorem isInt_inv {n : Int} {key : Value} (h : Value.isInt n key = true) : ∃ t, key = .int n t := by
  cases key <;> simp [Value.isInt] at h
  subst h; exact ⟨_, rfl⟩
theorem sim_turn {C : Cst} {W : Wd} {μ : MH} {A : Around} {mi : MI} {r : Option (MV × MI)} {a : Addr} {tg : Expr} {Qn : Shared → Prop} {Qs : Value → Shared → Prop} (B : Basis C) (hh : A.handled = none) (hn : mi.next μ = some r) (I : Inv C W μ) (it : ItAt W a mi) (haM : a ∈ W.M) (htg : tgOk mi tg)
    (h0 : r = none → ∀ W', Ended C W μ a W' → Qn W'.s) (h1 : ∀ v mi', r = some (v, mi') → ∀ W' pv, Ext [a] W W' → Inv C W' μ → VR C.Q W'.h W'.ρ W'.M v pv → ItAt W' a mi' → tgOk mi' tg → Qs pv W'.s) :
    wpAny (model P0 C.w) A (pyNext (.ref a)) (fun r s₁ => match r with | none => Qn s₁ | some v => wpAny (model P0 C.w) A (letOwnedTupleGo tg (.ref a) v) (fun _ s₂ => Qs v s₂) NoE s₁) NoE W.s := by
  have aM : ∀ b ∈ [a], b ∈ W.M := fun b hb => by rw [List.mem_singleton.mp hb]; exact haM
  have har := (I.freshM a haM).2.2
  cases mi with
  | lst n i =>
    refine ex1_2 it fun l hl hit => ?_
    simp only [MI.next] at hn
    split at hn
    · rename_i ms hg
      refine ex1_2 (I.list hl hg) fun its hL Vs => ?_
      split at hn
      · rename_i v hv
        (first | exact no_some hn | cases hn)
        refine ex1_2 (Vs.get (by rw [← nth_eq]; exact hv)) fun pv hp Vp => ?_
        refine wpAny_pyNext_list_item hit hL.isList (by simpa using hp) fun h' hit' hs => ?_
        refine ex1_3 (id hit') fun o' ho' hc hd => ?_
        refine ex0_2 (it_step B I (s' := { W.s with heap := h' }) haM hs ho' rfl rfl) fun x I' => ?_
        exact letGo_no ho' hc hd (by decide) (h1 _ _ rfl _ pv x I' (VR.mono x aM Vp) ⟨l, hl, hit'⟩ trivial)
      · rename_i hv
        (first | exact no_some hn | cases hn)
        have hnone : its[i]? = none := by
          rw [nth_eq] at hv
          have := Vs.nthD
          rw [List.getElem?_eq_none_iff] at hv
          exact Array.getElem?_eq_none (by omega)
        exact wpAny_pyNext_list_end hh hit hL.isList hnone fun h' he => h0 rfl _ (fin_inv B I haM he)
    · (first | exact no_some hn | cases hn)
  | rev n i =>
    refine ex1_2 it fun l hl hit => ?_
    simp only [MI.next] at hn
    split at hn
    · rename_i ms hg
      refine ex1_2 (I.list hl hg) fun its hL Vs => ?_
      cases i with
      | zero =>
        (first | exact no_some hn | cases hn)
        exact wpAny_pyNext_rev_end hh hit fun h' he => h0 rfl _ (fin_inv B I haM he)
      | succ k =>
        simp only at hn
        split at hn
        · rename_i v hv
          (first | exact no_some hn | cases hn)
          refine ex1_2 (Vs.get (by rw [← nth_eq]; exact hv)) fun pv hp Vp => ?_
          have e : ((k + 1 : Nat) : Int) - 1 = (k : Int) := by omega
          rw [e] at hit
          refine wpAny_pyNext_rev_item hit hL.isList (by simpa using hp) fun h' hit' hs => ?_
          refine ex1_3 (id hit') fun o' ho' hc hd => ?_
          refine ex0_2 (it_step B I (s' := { W.s with heap := h' }) haM hs ho' rfl rfl) fun x I' => ?_
          exact letGo_no ho' hc hd (by decide) (h1 _ _ rfl _ pv x I' (VR.mono x aM Vp) ⟨l, hl, hit'⟩ trivial)
        · (first | exact no_some hn | cases hn)
    · (first | exact no_some hn | cases hn)
  | rng x left =>
    simp only [MI.next] at hn
    cases left with
    | zero =>
      (first | exact no_some hn | cases hn)
      exact wpAny_pyNext_range_end hh it (by show ((0 : Nat) : Int) ≤ 0; omega) fun h' he => h0 rfl _ (fin_inv B I haM he)
    | succ k =>
      (first | exact no_some hn | cases hn)
      refine wpAny_pyNext_range_item it (by show 0 < ((k + 1 : Nat) : Int); omega) fun h' hit' hs => ?_
      refine ex0_2 (it_step B I (s' := { W.s with heap := h', toks := W.s.toks + 1 }) haM hs hit' rfl rfl) fun y I' => ?_
      refine letGo_no hit' rfl rfl (by decide) (h1 _ _ rfl _ _ y I' (.int x _) ?_ trivial)
      have e : ((k + 1 : Nat) : Int) - 1 = (k : Int) := by omega
      rw [e] at hit'
      exact hit'
  | items n i len =>
    refine ex3_2 it fun d ok ov hd hit => ?_
    refine ex3_1 htg fun es c p eqq3 => ?_; subst eqq3
    simp only [MI.next] at hn
    split at hn
    · rename_i es' hg
      refine ex1_2 (I.dict hd hg) fun kvs hD hr => ?_
      have hlen := congrArg List.length hr.1
      simp only [List.length_map] at hlen
      cases hb : Nat.beq es'.length len with
      | false => rw [hb] at hn; (first | exact no_some hn | cases hn)
      | true =>
        rw [hb, cond_true] at hn
        have e := Nat.eq_of_beq_eq_true hb
        have e' : kvs.length = len := by omega
        subst e'
        split at hn
        · rename_i q hv
          (first | exact no_some hn | cases hn)
          rw [nthD_eq] at hv
          have hk : (es'.map (·.1))[i]? = some q.1 := by rw [List.getElem?_map, hv]; rfl
          rw [hr.1, List.getElem?_map] at hk
          refine ex1_2 (Option.map_eq_some_iff.mp hk) fun kv hkv hkv1 => ?_
          refine ex1_2 (hr.2.get (j := i) (m := q.2) (by rw [List.getElem?_map, hv]; rfl)) fun pv hp Vp => ?_
          rw [List.getElem?_map, hkv] at hp
          have hp' : kv.2 = pv := Option.some.inj hp
          obtain ⟨kk, vv⟩ := kv
          simp only at hkv1 hp'
          subst hkv1; subst hp'
          refine wpAny_pyNext_items_item hit hD hkv fun key h' hkey hout htup hsz hkeep => ?_
          refine wpAny_letOwnedTupleGo_items hout fun h'' hit'' hs'' => ?_
          have hne : W.h.objs.size ≠ a := fun q' => by
            refine I.freshME a haM fun _ o ho _ => ?_
            have h := Heap.lt_size ho
            rw [show W.s.heap.objs.size = a from q'] at h
            exact Nat.lt_irrefl _ h
          have htup' : h''.get? W.h.objs.size = some { cls := .type "tuple", data := .seq #[key, vv] } := (hs''.2 _ hne).trans htup
          have hk2 : ∀ b o, b ≠ a → W.h.get? b = some o → h''.get? b = some o := fun b o hb' ho => (hs''.2 b hb').trans (hkeep b o hb' ho)
          have x : Ext [a] W (W.at { W.s with heap := h'' }) := by
            refine ⟨fun _ _ h => h, fun b o h _ _ hb' => hk2 b o (fun q' => hb' (q' ▸ List.mem_singleton_self a)) h, fun b o h => ?_, fun _ h => .inl h, fun _ h => .inl h, fun _ h => h⟩
            by_cases e : b = a
            · rw [e]; exact ⟨_, hit''⟩
            · exact ⟨o, hk2 b o e h⟩
          have I' : Inv C (W.at { W.s with heap := h'' }) μ := by
            have F := (fin_inv (t := W.s.toks) B I haM (h' := h'') (fun b o hb' ho => hk2 b o hb' ho)).inv
            refine ⟨F.old, F.lim, (fun p hp => (I.tab p hp).wk (x.wk aM) fun ps h => let q := Inv.tabNe B (I.freshM a haM).1 p hp; let ⟨⟨o, vs, e, r⟩, t'⟩ := h; ⟨⟨o, vs, hk2 _ _ q.1 e, r⟩, hk2 _ _ q.2 t'⟩), F.ok, fun m o hm => ?_, F.len, F.nd, F.freshρ, fun b hb' => ?_, F.gens, F.os, F.big, F.g3⟩
            · refine ex1_2 (I.objs m o hm) fun b q1 q2 => ?_
              exact ⟨b, q1, OR.mono x aM (fun ob e => hk2 b ob (fun q' => har (q' ▸ List.mem_of_getElem? q1)) e) q2⟩
            · by_cases e : b = a
              · rw [e]; exact ⟨(I.freshM a haM).1, ⟨_, hit''⟩, har⟩
              · refine I.freshME b hb' fun q1 o q2 q3 => ?_
                exact ⟨q1, ⟨o, hk2 b o e q2⟩, q3⟩
          have hkint : ∃ t, key = .int q.1 t := isInt_inv hkey
          refine ex1_1 hkint fun t eqq1 => ?_; subst eqq1
          refine h1 _ _ rfl (W.at { W.s with heap := h'' }) (.ref W.h.objs.size) x I' (.tup _ _ _ 0 htup' I.new.2.1 I.new.2.2 (.cons _ _ _ _ (.int _ _) (.cons _ _ _ _ (VR.mono x aM Vp) .nil))) ⟨d, _, _, hd, hit''⟩ ⟨_, _, _, rfl⟩
        · rename_i hv
          (first | exact no_some hn | cases hn)
          rw [nthD_eq, List.getElem?_eq_none_iff] at hv
          exact wpAny_pyNext_items_end hh hit hD (List.getElem?_eq_none (by omega)) fun h' he => h0 rfl _ (fin_inv B I haM he)
    · (first | exact no_some hn | cases hn)
  | keys n i len =>
    refine ex1_2 it fun d hd hit => ?_
    simp only [MI.next] at hn
    split at hn
    · rename_i es' hg
      refine ex1_2 (I.dict hd hg) fun kvs hD hr => ?_
      have hlen := congrArg List.length hr.1
      simp only [List.length_map] at hlen
      cases hb : Nat.beq es'.length len with
      | false => rw [hb] at hn; (first | exact no_some hn | cases hn)
      | true =>
        rw [hb, cond_true] at hn
        have e := Nat.eq_of_beq_eq_true hb
        have e' : kvs.length = len := by omega
        subst e'
        split at hn
        · rename_i q hv
          (first | exact no_some hn | cases hn)
          rw [nthD_eq] at hv
          have hk : (es'.map (·.1))[i]? = some q.1 := by rw [List.getElem?_map, hv]; rfl
          rw [hr.1, List.getElem?_map] at hk
          refine ex1_2 (Option.map_eq_some_iff.mp hk) fun kv hkv hkv1 => ?_
          obtain ⟨kk, vv⟩ := kv
          simp only at hkv1
          subst hkv1
          refine wpAny_pyNext_dict_item hit hD hkv fun key h' hkey hit' hs => ?_
          refine ex1_3 (id hit') fun o' ho' hc hdd => ?_
          refine ex0_2 (it_step B I (s' := { W.s with heap := h' }) haM hs ho' rfl rfl) fun x I' => ?_
          have hkint : ∃ t, key = .int q.1 t := isInt_inv hkey
          refine ex1_1 hkint fun t eqq1 => ?_; subst eqq1
          exact letGo_no ho' hc hdd (by decide) (h1 _ _ rfl _ _ x I' (.int _ _) ⟨d, hd, hit'⟩ trivial)
        · rename_i hv
          (first | exact no_some hn | cases hn)
          rw [nthD_eq, List.getElem?_eq_none_iff] at hv
          exact wpAny_pyNext_dict_end hh hit hD (List.getElem?_eq_none (by omega)) fun h' he => h0 rfl _ (fin_inv B I haM he)
    · (first | exact no_some hn | cases hn)
  | vals n i len =>
    refine ex1_2 it fun d hd hit => ?_
    simp only [MI.next] at hn
    split at hn
    · rename_i es' hg
      refine ex1_2 (I.dict hd hg) fun kvs hD hr => ?_
      have hlen := congrArg List.length hr.1
      simp only [List.length_map] at hlen
      cases hb : Nat.beq es'.length len with
      | false => rw [hb] at hn; (first | exact no_some hn | cases hn)
      | true =>
        rw [hb, cond_true] at hn
        have e := Nat.eq_of_beq_eq_true hb
        have e' : kvs.length = len := by omega
        subst e'
        split at hn
        · rename_i q hv
          (first | exact no_some hn | cases hn)
          rw [nthD_eq] at hv
          refine ex1_2 (hr.2.get (j := i) (m := q.2) (by rw [List.getElem?_map, hv]; rfl)) fun pv hp Vp => ?_
          rw [List.getElem?_map] at hp
          refine ex1_2 (Option.map_eq_some_iff.mp hp) fun kv hkv hkv2 => ?_
          obtain ⟨kk, vv⟩ := kv
          simp only at hkv2
          subst hkv2
          refine wpAny_pyNext_values_item hit hD hkv fun h' hit' hs => ?_
          refine ex1_3 (id hit') fun o' ho' hc hdd => ?_
          refine ex0_2 (it_step B I (s' := { W.s with heap := h' }) haM hs ho' rfl rfl) fun x I' => ?_
          exact letGo_no ho' hc hdd (by decide) (h1 _ _ rfl _ _ x I' (VR.mono x aM Vp) ⟨d, hd, hit'⟩ trivial)
        · rename_i hv
          (first | exact no_some hn | cases hn)
          rw [nthD_eq, List.getElem?_eq_none_iff] at hv
          exact wpAny_pyNext_values_end hh hit hD (List.getElem?_eq_none (by omega)) fun h' he => h0 rfl _ (fin_inv B I haM he)
    · (first | exact no_some hn | cases hn)
end Mine
end
section
open PySem PySem.W PyProof.Rows PySem.Calls PySem.SeqAt
set_option maxRecDepth 100000
namespace Mine

noncomputable abbrev As := MV → Locs → Option Locs
noncomputable def SimA (C : Cst) (D : Fd) (tg : Expr) (g : As) : Prop :=
  ∀ v ls ls', g v ls = some ls' → ∀ W μ env O A pv, EnvOk D env → A.handled = none → Inv C W μ → FrOk C W env D.own O ls → VR C.Q W.h W.ρ W.M v pv →
    ∀ Q : Unit → Shared → Prop, (∀ W', Ext O W W' → Inv C W' μ → FrOk C W' env D.own O ls' → Q () W'.s) → wpAny (model P0 C.w) A (assign tg env pv) Q NoE W.s
noncomputable def aName (n : Nat) : As := fun v ls => some (keep ls n v)
noncomputable def aTup (ns : List Nat) : As := fun v ls => match v with
  | .tup ms => bif Nat.beq ms.length ns.length then some (bnd ns ms ls) else none
  | _ => none
section
variable {C : Cst} {D : Fd}
theorem sima_name {x : Str} (B : Basis C) (n : Nat) (p : Pos) (hx : nm n = x) (hn : n < nmC) (hs : Sto D n = true) : SimA C D (.Name x p) (aName n) := by
  intro v ls ls' h W μ env O A pv eo hA I F V Q hQ
  subst hx
  (first | exact no_some h | cases h)
  exact wpAny_assign_Name (sim_store B eo I F hn hs V hQ)
inductive Nms (D : Fd) : List Nat → List Expr → Prop
  | nil : Nms D [] []
  | cons (n : Nat) (x : Str) (p : Pos) (ns : List Nat) (es : List Expr) : nm n = x → n < nmC → Sto D n = true → Nms D ns es → Nms D (n :: ns) (.Name x p :: es)
theorem Nms.each {D : Fd} {env : Env} : ∀ {ns : List Nat} {es : List Expr}, Nms D ns es → (assignEach es env).length = ns.length ∧ (assignEach es env).findIdx? (·.1) = none
  | _, _, .nil => ⟨rfl, rfl⟩
  | _, _, .cons n x p ns es _ _ _ h => by
    refine ex0_2 (Nms.each (env := env) h) fun h1 h2 => ?_
    refine ⟨by show (assignEach es env).length + 1 = ns.length + 1; rw [h1], ?_⟩
    show List.findIdx? (·.1) ((false, _) :: assignEach es env) = none
    rw [List.findIdx?_cons]
    simp [h2]
theorem sim_inorder {env : Env} {O : List Addr} {A : Around} {μ : MH} (B : Basis C) (eo : EnvOk D env) (hA : A.handled = none) : ∀ {ns : List Nat} {es : List Expr}, Nms D ns es → ∀ (ms : List MV) (vs : List Value) (ls : Locs) (W : Wd), ms.length = ns.length → VRs C.Q W.h W.ρ W.M ms vs → Inv C W μ → FrOk C W env D.own O ls →
    ∀ Q : Unit → Shared → Prop, (∀ W', Ext O W W' → Inv C W' μ → FrOk C W' env D.own O (bnd ns ms ls) → Q () W'.s) → wpAny (model P0 C.w) A (assignInOrder ((assignEach es env).map (·.2)) vs) Q NoE W.s
  | _, _, .nil, ms, vs, ls, W, hl, V, I, F, Q, hQ => by
    cases ms with
    | nil => refine V.nilE ?_; exact wpAny_assignInOrder_none (hQ W (Ext.refl _ _) I F)
    | cons _ _ => (first | exact no_some hl | cases hl)
  | _, _, .cons n x p ns es hx hn hs h, ms, vs, ls, W, hl, V, I, F, Q, hQ => by
    cases ms with
    | nil => (first | exact no_some hl | cases hl)
    | cons m ms =>
      refine V.consE fun v vs V Vs => ?_
      refine wpAny_assignInOrder_more (sima_name B n p hx hn hs m ls _ rfl W μ env O A v eo hA I F V _ fun W₁ x₁ I₁ F₁ => ?_)
      exact sim_inorder B eo hA h ms vs _ W₁ (by simpa using hl) (VRs.mono x₁ F.OM Vs) I₁ F₁ Q fun W₂ x₂ I₂ F₂ => hQ W₂ (x₁.trans x₂) I₂ F₂
theorem sima_tup {ns : List Nat} {es : List Expr} (B : Basis C) (c : Nat) (p : Pos) (h : Nms D ns es) : SimA C D (.Tuple es c p) (aTup ns) := by
  intro v ls ls' hg W μ env O A pv eo hA I F V Q hQ
  unfold aTup at hg
  split at hg
  · rename_i ms
    cases hb : Nat.beq ms.length ns.length with
    | false => rw [hb] at hg; (first | exact no_some hg | cases hg)
    | true =>
      rw [hb] at hg; (first | exact no_some hg | cases hg)
      have hl := Nat.eq_of_beq_eq_true hb
      refine V.tupE fun a its n ho hρ hM Vs => ?_
      refine ex0_2 (h.each (env := env)) fun e1 e2 => ?_
      refine wpAny_assign_Tuple hA ⟨_, ho, rfl, n, rfl⟩ (by rw [e1, ← hl, Vs.nthD]) e2 fun h' he => ?_
      have k : OKeep W.h h' := fun b o e => he b o (fun q => by rw [q] at e; exact Nat.lt_irrefl _ (Heap.lt_size e)) e
      have x : Ext [] W (W.at { W.s with heap := h' }) := Ext.keep [] k
      have I' := I.keep (s := { W.s with heap := h' }) k I.gens rfl
      exact sim_inorder B eo hA h ms its.toList ls _ hl (VRs.mono x (fun _ h => nomatch h) Vs) I' (F.mono I x) Q fun W₂ x₂ I₂ F₂ => hQ W₂ (x.lift.trans x₂) I₂ F₂
  · (first | exact no_some hg | cases hg)
end

noncomputable abbrev Ei := Locs → MH → Option (MI × MH)
noncomputable def SimI (C : Cst) (D : Fd) (k : Nat) (e : Expr) (f : Ei) : Prop :=
  ∀ ls μ mi μ', f ls μ = some (mi, μ') → ∀ W env O A, EnvOk D env → AOk k A → Inv C W μ → FrOk C W env D.own O ls →
    ∀ Q : Value → Shared → Prop, (∀ W' a, Ext [] W W' → Inv C W' μ' → a ∈ W'.M → W.h.get? a = none → ItAt W' a mi → Q (.ref a) W'.s) → wpAny (model P0 C.w) A (eval e env) (fun x s₁ => wpAny (model P0 C.w) A (pyIter x) Q NoE s₁) NoE W.s
structure Apart (W : Wd) (env : Env) (O : List Addr) (a : Addr) : Prop where
  new : W.h.get? a = none
  no : a ∉ O
  nl : env.locals ≠ a
  nc : ∀ x c, (x, c) ∈ env.cells → c ≠ a
section
variable {C : Cst} {W : Wd} {μ : MH} {env : Env} {own : List Nat} {O : List Addr} {ls : Locs}
theorem Apart.of (I : Inv C W μ) (F : FrOk C W env own O ls) {a : Addr} (h : W.h.get? a = none) : Apart W env O a := by
  have ne : ∀ b ∈ W.M, b ≠ a := fun b hb q => by
    refine I.freshME b hb fun _ o ho _ => ?_
    rw [q, h] at ho; (first | exact no_some ho | cases ho)
  exact ⟨h, fun q => ne a (F.OM a q) rfl, ne _ F.LM, fun x c hx => ne c (F.cM x c hx).1⟩
theorem Ext.dropA {W W₁ W₂ : Wd} {a : Addr} (x : Ext O W W₁) (y : Ext [a] W₁ W₂) (ha : W.h.get? a = none) : Ext O W W₂ where
  pre := fun n b h => y.pre n b (x.pre n b h)
  fr := fun b o h hc hρ hO => y.fr b o (x.fr b o h hc hρ hO) (hc.imp_right (x.subM b)) (fun hb => (x.newρ b hb).elim hρ (fun h1 => by rw [h] at h1; (first | exact no_some h1 | cases h1))) (fun hb => by rw [List.mem_singleton.mp hb, ha] at h; (first | exact no_some h | cases h))
  alive := fun b o h => let ⟨o', h'⟩ := x.alive b o h; y.alive b o' h'
  newρ := ((x.weaken (O' := a :: O) (fun _ h => .tail _ h)).trans (y.weaken (O' := a :: O) (fun b h => by rw [List.mem_singleton.mp h]; exact .head _))).newρ
  newM := ((x.weaken (O' := a :: O) (fun _ h => .tail _ h)).trans (y.weaken (O' := a :: O) (fun b h => by rw [List.mem_singleton.mp h]; exact .head _))).newM
  subM := fun b hb => y.subM b (x.subM b hb)
theorem VarAt.at {h h' : Heap} {n : Str} {v : Value} (x : VarAt h env n v) (hl : ∀ o, h.get? env.locals = some o → h'.get? env.locals = some o) (hc : ∀ y c, (y, c) ∈ env.cells → ∀ o, h.get? c = some o → h'.get? c = some o) : VarAt h' env n v := by
  cases x with
  | loc m h1 h2 h3 => refine ex3_2 h2 fun o es ep h4 r => ?_; exact .loc m h1 ⟨o, es, ep, hl o h4, r⟩ h3
  | cell c h1 h2 h3 => refine ex1_2 h3 fun o h4 r => ?_; exact .cell c h1 h2 ⟨o, hc _ c (mem_of_lookup h2) o h4, r⟩
  | free c h1 h2 h3 => refine ex1_2 h3 fun o h4 r => ?_; exact .free c h1 h2 ⟨o, hc _ c (mem_of_lookup h2) o h4, r⟩
theorem FrOk.turn {W W' : Wd} (F : FrOk C W env own O ls) (x : Wk W W') (hOM : ∀ b ∈ O, b ∈ W'.M) (hM : ∀ y c, (y, c) ∈ env.cells → c ∈ W'.M) (hl : ∀ o, W.h.get? env.locals = some o → W'.h.get? env.locals = some o) (hc : ∀ y c, (y, c) ∈ env.cells → ∀ o, W.h.get? c = some o → W'.h.get? c = some o) : FrOk C W' env own O ls where
  LO := F.LO
  OM := hOM
  ns := let ⟨m, o, es, ep, h, r⟩ := F.ns; ⟨m, o, es, ep, hl o h, r⟩
  cM := fun n c h => let ⟨h1, h2, v, o, h3, h4⟩ := F.cM n c h; ⟨hM n c h, h2, v, o, hc n c h o h3, h4⟩
  cap := F.cap
  ow := F.ow
  vars := fun n v hn h hv => let ⟨pv, h1, h2⟩ := F.vars n v hn h hv; ⟨pv, VR.wk x h1, h2.at hl hc⟩
theorem FrOk.stepA {W W₁ W₂ : Wd} {a : Addr} (I₁ : Inv C W₁ μ) (F : FrOk C W₁ env own O ls) (p : Apart W env O a) (haM : a ∈ W₁.M) (y : Ext [a] W₁ W₂) : FrOk C W₂ env own O ls := by
  have aM : ∀ b ∈ [a], b ∈ W₁.M := fun b hb => by rw [List.mem_singleton.mp hb]; exact haM
  have kp : ∀ b ∈ W₁.M, b ≠ a → ∀ o, W₁.h.get? b = some o → W₂.h.get? b = some o := fun b hb ne o h => y.fr b o h (.inr hb) (I₁.freshM b hb).2.2 (fun q => ne (List.mem_singleton.mp q))
  exact F.turn (y.wk aM) (fun b hb => y.subM b (F.OM b hb)) (fun z c hz => y.subM c (F.cM z c hz).1) (kp _ F.LM p.nl) (fun z c hz => kp c (F.cM z c hz).1 (p.nc z c hz))
theorem Ended.step {W W₁ W₂ : Wd} {a : Addr} (I₀ : Inv C W μ) (x : Ext O W W₁) {μ₁ : MH} (I₁ : Inv C W₁ μ₁) (F : FrOk C W₁ env own O ls) (p : Apart W env O a) (haM : a ∈ W₁.M) (z : Ended C W₁ μ₁ a W₂) : Ext O W W₂ ∧ FrOk C W₂ env own O ls := by
  have aMf : ∀ b ∈ W₁.M, b ≠ a → b ∈ W₂.M := fun b hb ne => by rw [z.M]; exact List.mem_filter.mpr ⟨hb, by simpa using ne⟩
  have live : ∀ b o, W.h.get? b = some o → b ≠ a := fun b o h q => by rw [q, p.new] at h; (first | exact no_some h | cases h)
  have har := (I₁.freshM a haM).2.2
  refine ⟨⟨fun n b h => by rw [z.ρ]; exact x.pre n b h, fun b o h hc hρ hO => z.kp b o (live b o h) (x.fr b o h hc hρ hO), fun b o h => ?_, fun b hb => by rw [z.ρ] at hb; exact x.newρ b hb, fun b hb => ?_, fun b hb => ?_⟩, ?_⟩
  · refine ex1_1 (x.alive b o h) fun o' h' => ?_; exact ⟨o', z.kp b o' (live b o h) h'⟩
  · rw [z.M] at hb; exact x.newM b (List.mem_filter.mp hb).1
  · refine I₀.freshME b hb fun _ o ho _ => ?_
    exact aMf b (x.subM b hb) (live b o ho)
  · refine F.turn ⟨fun n b h => by rw [z.ρ]; exact h, fun b o h hc hρ hM => ⟨z.kp b o (fun q => hM (q ▸ haM)) h, by rw [z.ρ]; exact hρ, fun q => hM (by rw [z.M] at q; exact (List.mem_filter.mp q).1)⟩⟩
      (fun b hb => aMf b (F.OM b hb) (fun q => p.no (q ▸ hb))) (fun y c hy => aMf c (F.cM y c hy).1 (p.nc y c hy)) (fun o h => z.kp _ o p.nl h) (fun y c hy o h => z.kp c o (p.nc y c hy) h)
end
noncomputable def forGo (as : As) (body : Es) (f : Nat) : MI → Locs → MH → Option (Fl × Locs × MH) :=
  Nat.rec (motive := fun _ => MI → Locs → MH → Option (Fl × Locs × MH)) (fun _ _ _ => none) (fun _ ih mi ls μ => match mi.next μ with
    | some none => some (.next, ls, μ)
    | some (some (v, mi')) => match as v ls with
      | some ls₁ => match body ls₁ μ with
        | some (.next, ls₂, μ₂) => ih mi' ls₂ μ₂
        | some (.cont, ls₂, μ₂) => ih mi' ls₂ μ₂
        | some (.brk, ls₂, μ₂) => some (.next, ls₂, μ₂)
        | some (.ret v, ls₂, μ₂) => some (.ret v, ls₂, μ₂)
        | none => none
      | none => none
    | none => none) f
noncomputable def sFor (it : Ei) (as : As) (body : Es) : Es := fun ls μ => match it ls μ with
  | some (mi, μ') => forGo as body 100 mi ls μ'
  | none => none
section
variable {C : Cst} {D : Fd} {k : Nat}
theorem for_loop {tg : Expr} {body : List Stmt} {as : As} {b : Es} (B : Basis C) (hA : SimA C D tg as) (hb : SimB C D k body b) {W : Wd} {μ₀ : MH} (I₀ : Inv C W μ₀) {env : Env} {O : List Addr} {A : Around} (eo : EnvOk D env) (ao : AOk k A) {a : Addr} (p : Apart W env O a) {fl : Fl} {ls' : Locs} {μ' : MH} {R : Result → Shared → Prop}
    (hQ : ∀ W' f, Ext O W W' → Inv C W' μ' → FrOk C W' env D.own O ls' → FlR C W' fl f → (f = .next ∨ ∃ v, f = .ret v) → R (.ok f) W'.s)
    (F : Nat) (mi : MI) (ls : Locs) (μ : MH) (W₁ : Wd) (h : forGo as b F mi ls μ = some (fl, ls', μ')) (x : Ext O W W₁) (I : Inv C W₁ μ) (Fr : FrOk C W₁ env D.own O ls) (haM : a ∈ W₁.M) (it : ItAt W₁ a mi) (htg : tgOk mi tg) :
    codeAny (model P0 C.w) A (.forLoop tg (.ref a) body [] env) R W₁.s := by
  refine codeAny_forLoop_any (fun n s => ∃ mi ls μ W₁, s = W₁.s ∧ forGo as b n mi ls μ = some (fl, ls', μ') ∧ Ext O W W₁ ∧ Inv C W₁ μ ∧ FrOk C W₁ env D.own O ls ∧ a ∈ W₁.M ∧ ItAt W₁ a mi ∧ tgOk mi tg) ?_ F ⟨mi, ls, μ, W₁, rfl, h, x, I, Fr, haM, it, htg⟩
  intro n s hs0; refine ex4_8 hs0 fun mi ls μ W₁ eqs h x I Fr haM it htg => ?_; subst eqs; clear hs0
  cases n with
  | zero => (first | exact no_some h | cases h)
  | succ n =>
    replace h : (match mi.next μ with
      | some none => some (.next, ls, μ)
      | some (some (v, mi')) => match as v ls with
        | some ls₁ => match b ls₁ μ with
          | some (.next, ls₂, μ₂) => forGo as b n mi' ls₂ μ₂
          | some (.cont, ls₂, μ₂) => forGo as b n mi' ls₂ μ₂
          | some (.brk, ls₂, μ₂) => some (.next, ls₂, μ₂)
          | some (.ret v, ls₂, μ₂) => some (.ret v, ls₂, μ₂)
          | none => none
        | none => none
      | none => none) = some (fl, ls', μ') := h
    cases hn : mi.next μ with
    | none => rw [hn] at h; (first | exact no_some h | cases h)
    | some r =>
      rw [hn] at h
      refine wpAny_mono (sim_turn (Qn := fun s₁ => wpAny (model P0 C.w) A (execs [] env) (fun f s₃ => R (.ok f) s₃) NoE s₁) (Qs := fun v s₂ => wpAny (model P0 C.w) A (assign tg env v) (fun _ s₂ => wpAny (model P0 C.w) A (execs body env) (fun f s₃ => match f with
          | .next | .cont => ∃ m, m < n + 1 ∧ ∃ mi ls μ W₁, s₃ = W₁.s ∧ forGo as b m mi ls μ = some (fl, ls', μ') ∧ Ext O W W₁ ∧ Inv C W₁ μ ∧ FrOk C W₁ env D.own O ls ∧ a ∈ W₁.M ∧ ItAt W₁ a mi ∧ tgOk mi tg
          | .brk => R (.ok .next) s₃ | .ret v => R (.ok (.ret v)) s₃) NoE s₂) NoE s₂) B ao.hd hn I it haM htg ?_ ?_) (fun r s₁ q => ?_) (fun _ _ q => False.elim q)
      · intro hr W' z
        subst hr
        (first | exact no_some h | cases h)
        refine ex0_2 (Ended.step I₀ x I Fr p haM z) fun x' F' => ?_
        exact wpAny_execs_nil (hQ W' _ x' z.inv F' .next (.inl rfl))
      · intro v mi' hr W' pv y I' V it' htg'
        subst hr
        simp only at h
        have Fr' := Fr.stepA I p haM y
        have x' := x.dropA y p.new
        have haM' := y.subM a haM
        cases ha : as v ls with
        | none => rw [ha] at h; (first | exact no_some h | cases h)
        | some ls₁ =>
          rw [ha] at h
          refine hA v ls ls₁ ha W' μ env O A pv eo ao.hd I' Fr' V _ fun W₂ x₂ I₂ F₂ => ?_
          have haM₂ := x₂.subM a haM'
          have it₂ := it'.at x₂.pre (fun o e => x₂.fr a o e (.inr haM') (I'.freshM a haM').2.2 p.no)
          cases hb' : b ls₁ μ with
          | none => simp only [hb'] at h; (first | exact no_some h | cases h)
          | some r₂ =>
            obtain ⟨fl₂, ls₂, μ₂⟩ := r₂
            simp only [hb'] at h
            refine hb ls₁ μ fl₂ ls₂ μ₂ hb' W₂ env O A eo ao I₂ F₂ _ fun W₃ f x₃ I₃ F₃ R₃ => ?_
            have x'' := (x'.trans x₂).trans x₃
            have haM₃ := x₃.subM a haM₂
            have it₃ := it₂.at x₃.pre (fun o e => x₃.fr a o e (.inr haM₂) (I₂.freshM a haM₂).2.2 p.no)
            cases R₃ with
            | next => exact ⟨n, Nat.lt_succ_self n, mi', ls₂, μ₂, W₃, rfl, h, x'', I₃, F₃, haM₃, it₃, htg'⟩
            | cont => exact ⟨n, Nat.lt_succ_self n, mi', ls₂, μ₂, W₃, rfl, h, x'', I₃, F₃, haM₃, it₃, htg'⟩
            | brk => (first | exact no_some h | cases h); exact hQ W₃ _ x'' I₃ F₃ .next (.inl rfl)
            | ret v' pv' V' => (first | exact no_some h | cases h); exact hQ W₃ _ x'' I₃ F₃ (.ret _ _ V') (.inr ⟨_, rfl⟩)
      · cases r with
        | none => exact up (wpAny_mono q (fun _ _ q => q) fun _ _ q => q)
        | some v => exact up (wpAny_mono q (fun _ _ q => up (wpAny_mono q (fun _ _ q => up q) fun _ _ q => q)) fun _ _ q => q)
noncomputable def SrcOk (it : Ei) (tg : Expr) : Prop := ∀ ls μ mi μ', it ls μ = some (mi, μ') → tgOk mi tg
theorem sim_for {tg e : Expr} {body : List Stmt} {it : Ei} {as : As} {b : Es} (B : Basis C) (pos : Pos) (hi : SimI C D k e it) (hA : SimA C D tg as) (hb : SimB C D k body b) (hsrc : SrcOk it tg) (hs : ∀ env x, foldedSetIterable e env x = pure x) : SimS C D k (.For tg e body [] pos) (sFor it as b) := by
  intro ls μ fl ls' μ' h W env O A eo ao I F Q hQ
  unfold sFor at h
  split at h
  · rename_i mi μ₁ h1
    refine wpAny_For (up (hi ls μ mi μ₁ h1 W env O A eo ao I F _ fun W₁ a x₁ I₁ haM hnew it₁ => ?_)) (hs env)
    exact for_loop B hA hb I eo ao (Apart.of I F hnew) (fun W' f x' I' F' R' _ => hQ W' f x' I' F' R') 100 mi ls μ₁ W₁ h x₁.lift I₁ (F.mono I x₁) haM it₁ (hsrc ls μ mi μ₁ h1)
  · (first | exact no_some h | cases h)
end
end Mine
end
section
open PySem PySem.W PyProof.Rows PySem.Calls PySem.SeqAt
set_option maxRecDepth 100000
namespace Mine

theorem cells_keepC (x : Str) (lo : Nat) : ∀ (names : List (Str × NameKind)) (n : Nat) (acc : List (Str × Addr)), lo ≤ n → (∃ c, acc.lookup x = some c ∧ lo ≤ c) → ∃ c, (cellsFrom n names acc).lookup x = some c ∧ lo ≤ c
  | [], _, _, _, h => h
  | (name, kind) :: r, n, acc, hn, h => by
    unfold cellsFrom
    split
    · refine cells_keepC x lo r (n + 1) _ (by omega) ?_
      rw [List.lookup_cons]
      split
      · exact ⟨n, rfl, hn⟩
      · exact h
    · exact cells_keepC x lo r n acc hn h
theorem cells_new (x : Str) (lo : Nat) : ∀ (names : List (Str × NameKind)) (n : Nat) (acc : List (Str × Addr)), lo ≤ n → names.lookup x = some .cell → ∃ c, (cellsFrom n names acc).lookup x = some c ∧ lo ≤ c
  | [], _, _, _, h => by (first | exact no_some h | cases h)
  | (name, kind) :: r, n, acc, hn, h => by
    rw [List.lookup_cons] at h
    unfold cellsFrom
    cases hb : x == name with
    | true =>
      rw [hb] at h; (first | exact no_some h | cases h)
      rw [if_pos (by decide)]
      refine cells_keepC x lo r (n + 1) _ (by omega) ?_
      rw [List.lookup_cons, hb]
      exact ⟨n, rfl, hn⟩
    | false =>
      rw [hb] at h
      split
      · exact cells_new x lo r (n + 1) _ (by omega) h
      · exact cells_new x lo r n acc hn h
theorem cells_same (x : Str) : ∀ (names : List (Str × NameKind)) (n : Nat) (acc : List (Str × Addr)), (∀ p ∈ names, p.1 = x → p.2 ≠ .cell) → (cellsFrom n names acc).lookup x = acc.lookup x
  | [], _, _, _ => rfl
  | (name, kind) :: r, n, acc, h => by
    unfold cellsFrom
    split
    · rename_i hk
      rw [cells_same x r (n + 1) _ fun p hp => h p (.tail _ hp), List.lookup_cons]
      have : (x == name) = false := by
        rw [beq_eq_false_iff_ne]
        intro e
        exact h (name, kind) (.head _) e.symm (by simpa using hk)
      rw [this]
    · exact cells_same x r n acc fun p hp => h p (.tail _ hp)
theorem cells_all : ∀ (names : List (Str × NameKind)) (h : Heap) (acc : List (Str × Addr)), ∀ p ∈ cellsFrom h.objs.size names acc, p ∈ acc ∨ (h.objs.size ≤ p.2 ∧ (pushCells h names).IsCell p.2 none)
  | [], _, _, p, hp => .inl hp
  | (name, kind) :: r, h, acc, p, hp => by
    unfold cellsFrom at hp
    unfold pushCells
    split at hp
    · rename_i hk
      rw [if_pos hk]
      have e : h.objs.size + 1 = (h.push { cls := .type "cell", data := .cell none }).objs.size := by rw [Heap.size_push]
      rw [e] at hp
      rcases cells_all r (h.push { cls := .type "cell", data := .cell none }) _ p hp with q | ⟨q1, q2⟩
      · rcases List.mem_cons.mp q with rfl | q
        · exact .inr ⟨Nat.le_refl _, ⟨_, pushCells_keeps _ _ _ _ (Heap.get?_push_size _ rfl), rfl⟩⟩
        · exact .inl q
      · rw [Heap.size_push] at q1
        exact .inr ⟨by omega, q2⟩
    · rename_i hk
      rw [if_neg hk]
      exact cells_all r h acc p hp
theorem cells_apart : ∀ (names : List (Str × NameKind)) (n : Nat) (acc : List (Str × Addr)), (∀ p ∈ acc, p.2 < n) → (acc.Pairwise fun x y => x.2 ≠ y.2) → (cellsFrom n names acc).Pairwise fun x y => x.2 ≠ y.2
  | [], _, _, _, h => h
  | (name, kind) :: r, n, acc, hl, h => by
    unfold cellsFrom
    split
    · refine cells_apart r (n + 1) _ (fun p hp => ?_) (List.pairwise_cons.mpr ⟨fun y hy e => ?_, h⟩)
      · rcases List.mem_cons.mp hp with rfl | hp
        · exact Nat.lt_succ_self n
        · exact Nat.lt_succ_of_lt (hl p hp)
      · have := hl y hy
        have e' : n = y.2 := e
        exact Nat.lt_irrefl _ (e' ▸ this)
    · exact cells_apart r n acc hl h
noncomputable def closOf (cells : List (Str × Addr)) : List (Str × NameKind) → List (Str × Addr) → List (Str × Addr)
  | [], acc => acc
  | (n, k) :: r, acc => if k == .free then closOf cells r ((n, (cells.lookup n).getD 0) :: acc) else closOf cells r acc
theorem closureFor_eq (scope : Scope) (env : Env) (h : ∀ x ∈ scope.names, x.2 = .free → ∃ c, env.cells.lookup x.1 = some c) : closureFor scope env = pure (closOf env.cells scope.names []) := by
  unfold closureFor
  have key : ∀ (names : List (Str × NameKind)) (acc : List (Str × Addr)), (∀ x ∈ names, x.2 = .free → ∃ c, env.cells.lookup x.1 = some c) →
      (forIn names acc (fun (x : Str × NameKind) (cs : List (Str × Addr)) => (if x.2 == .free then (do let a ← cellOf env x.1; pure (ForInStep.yield ((x.1, a) :: cs))) else pure (ForInStep.yield cs) : Sem (ForInStep (List (Str × Addr)))))) = pure (closOf env.cells names acc) := by
    intro names
    induction names with
    | nil => intro acc _; rfl
    | cons y r ih =>
      intro acc hh
      obtain ⟨n, kd⟩ := y
      rw [List.forIn_cons]
      unfold closOf
      by_cases hk : kd = .free
      · subst hk
        refine ex1_1 (hh (n, .free) (.head _) rfl) fun c hc => ?_
        have hc' : env.cells.lookup n = some c := hc
        have : cellOf env n = pure c := by unfold cellOf; rw [hc']
        rw [if_pos (show ((n, NameKind.free).2 == NameKind.free) = true from rfl), if_pos (show (NameKind.free == NameKind.free) = true from rfl)]
        show (cellOf env n >>= _) >>= _ = _
        rw [this, hc']
        exact ih _ fun x hx => hh x (.tail _ hx)
      · have hk' : (kd == NameKind.free) = false := by simpa using hk
        rw [hk']
        exact ih _ fun x hx => hh x (.tail _ hx)
  have := key scope.names [] h
  simp only [bind_pure]
  exact this
theorem closOf_mem {cells : List (Str × Addr)} : ∀ (names : List (Str × NameKind)) (acc : List (Str × Addr)), (∀ x ∈ names, x.2 = .free → ∃ c, cells.lookup x.1 = some c) → ∀ p ∈ closOf cells names acc, p ∈ acc ∨ (cells.lookup p.1 = some p.2 ∧ p.1 ∈ names.map (·.1))
  | [], _, _, p, hp => .inl hp
  | (n, k) :: r, acc, h, p, hp => by
    unfold closOf at hp
    split at hp
    · rename_i hk
      refine ex1_1 (h (n, k) (.head _) (by simpa using hk)) fun c hc => ?_
      have hc' : cells.lookup n = some c := hc
      rcases closOf_mem r _ (fun x hx => h x (.tail _ hx)) p hp with q | ⟨q1, q2⟩
      · rcases List.mem_cons.mp q with rfl | q
        · exact .inr ⟨by simp [hc'], .head _⟩
        · exact .inl q
      · exact .inr ⟨q1, .tail _ q2⟩
    · rcases closOf_mem r _ (fun x hx => h x (.tail _ hx)) p hp with q | ⟨q1, q2⟩
      · exact .inl q
      · exact .inr ⟨q1, .tail _ q2⟩
theorem closOf_lookup {cells : List (Str × Addr)} {x : Str} {c : Addr} (hc : cells.lookup x = some c) : ∀ (names : List (Str × NameKind)) (acc : List (Str × Addr)), (names.lookup x = some .free ∨ acc.lookup x = some c) → (closOf cells names acc).lookup x = some c
  | [], _, h => h.elim (fun q => by (first | exact no_some q | cases q)) id
  | (n, k) :: r, acc, h => by
    unfold closOf
    by_cases e : x = n
    · subst e
      split
      · refine closOf_lookup hc r _ (.inr ?_)
        rw [List.lookup_cons, beq_self_eq_true, hc]; rfl
      · rename_i hk
        refine closOf_lookup hc r _ (.inr (h.elim (fun q => ?_) id))
        rw [List.lookup_cons, beq_self_eq_true] at q
        (first | exact no_some q | cases q)
        exact absurd rfl hk
    · have e' : (x == n) = false := by simpa using e
      have h' : r.lookup x = some .free ∨ acc.lookup x = some c := h.imp_left fun q => by rw [List.lookup_cons, e'] at q; exact q
      split
      · refine closOf_lookup hc r _ (h'.imp_right fun q => ?_)
        rw [List.lookup_cons, e']; exact q
      · exact closOf_lookup hc r _ h'
theorem closOf_apart {cells : List (Str × Addr)} (hp : cells.Pairwise fun x y => x.2 ≠ y.2) : ∀ (names : List (Str × NameKind)) (acc : List (Str × Addr)), (names.map (·.1)).Nodup → (∀ x ∈ names, x.2 = .free → ∃ c, cells.lookup x.1 = some c) →
    (∀ p ∈ acc, cells.lookup p.1 = some p.2 ∧ p.1 ∉ names.map (·.1)) → (acc.Pairwise fun x y => x.2 ≠ y.2) → (closOf cells names acc).Pairwise fun x y => x.2 ≠ y.2
  | [], _, _, _, _, h => h
  | (n, k) :: r, acc, hn, hc, ha, h => by
    rw [List.map_cons, List.nodup_cons] at hn
    unfold closOf
    split
    · rename_i hk
      refine ex1_1 (hc (n, k) (.head _) (by simpa using hk)) fun c hcc => ?_
      have hcc' : cells.lookup n = some c := hcc
      refine closOf_apart hp r _ hn.2 (fun x hx => hc x (.tail _ hx)) (fun p hp' => ?_) (List.pairwise_cons.mpr ⟨fun y hy e => ?_, h⟩)
      · rcases List.mem_cons.mp hp' with rfl | q
        · exact ⟨by simp [hcc'], hn.1⟩
        · exact ⟨(ha p q).1, fun z => (ha p q).2 (.tail _ z)⟩
      · refine ex0_2 (ha y hy) fun q1 q2 => ?_
        simp only [hcc', Option.getD_some] at e
        have := name_of_addr hp (mem_of_lookup hcc') (e ▸ mem_of_lookup q1)
        exact q2 (this ▸ .head _)
    · exact closOf_apart hp r acc hn.2 (fun x hx => hc x (.tail _ hx)) (fun p q => ⟨(ha p q).1, fun z => (ha p q).2 (.tail _ z)⟩) h
end Mine
end
section
open PySem PySem.W PyProof.Rows PySem.Calls PySem.SeqAt
set_option maxRecDepth 100000
namespace Mine

noncomputable def relab (scope outer : Scope) : Scope := { scope with names := scope.names.map fun (n, k) => if (k == .free && outer.kind == .function && outer.names.lookup n == some .cell) then (n, .cell) else (n, k) }
noncomputable def capOk (scope outer : Scope) (cap own : List Nat) : Bool :=
  scope.names.all (fun x => match x.2 with
    | .free => cap.any (fun n => Nat.blt n nmC && nm n == x.1) && (outer.names.lookup x.1 == some .cell || outer.names.lookup x.1 == some .free)
    | _ => true) && cap.all (fun n => Nat.blt n nmC && scope.names.lookup (nm n) == some .free) && own.all (fun n => scope.names.lookup (nm n) == some .cell) && decide (scope.names.map (·.1)).Nodup &&
  scope.names.all (fun x => x.2 != .local || scope.names.lookup x.1 == some .local)
structure CapOk (scope outer : Scope) (cap own : List Nat) : Prop where
  free : ∀ x ∈ scope.names, x.2 = .free → (∃ n ∈ cap, n < nmC ∧ nm n = x.1) ∧ (outer.names.lookup x.1 = some .cell ∨ outer.names.lookup x.1 = some .free)
  cap : ∀ n ∈ cap, n < nmC ∧ scope.names.lookup (nm n) = some .free
  own : ∀ n ∈ own, scope.names.lookup (nm n) = some .cell
  nd : (scope.names.map (·.1)).Nodup
  loc : ∀ x ∈ scope.names, x.2 = .local → scope.names.lookup x.1 = some .local
theorem CapOk.of {scope outer : Scope} {cap own : List Nat} (h : capOk scope outer cap own = true) : CapOk scope outer cap own := by
  unfold capOk at h
  simp only [Bool.and_eq_true] at h
  obtain ⟨⟨⟨⟨h1, h2⟩, h3⟩, h4⟩, h5⟩ := h
  refine ⟨fun x hx hf => ?_, fun n hn => ?_, fun n hn => ?_, of_decide_eq_true h4, fun x hx hl => ?_⟩
  · have := List.all_eq_true.mp h1 x hx
    rw [hf] at this
    simp only [Bool.and_eq_true, Bool.or_eq_true, List.any_eq_true, beq_iff_eq] at this
    obtain ⟨⟨n, hn, q1, q2⟩, q3⟩ := this
    exact ⟨⟨n, hn, Nat.le_of_ble_eq_true q1, q2⟩, q3⟩
  · have := List.all_eq_true.mp h2 n hn
    simp only [Bool.and_eq_true, beq_iff_eq] at this
    exact ⟨Nat.le_of_ble_eq_true this.1, this.2⟩
  · have := List.all_eq_true.mp h3 n hn
    simpa using this
  · have := List.all_eq_true.mp h5 x hx
    rw [hl] at this
    simpa using this
noncomputable def capt : List Nat → Locs → Option Locs
  | [], _ => some []
  | n :: r, ls => match look ls n with
    | some v => match capt r ls with
      | some l => some ((n, v) :: l)
      | none => none
    | none => none
theorem capt_look {ls : Locs} : ∀ {cap : List Nat} {lc : Locs}, capt cap ls = some lc → (∀ n ∈ cap, ∃ v, look ls n = some v) ∧ ∀ n v, look lc n = some v → n ∈ cap ∧ look ls n = some v
  | [], lc, h => by cases h; exact ⟨fun _ h => (nomatch h), fun n v h => by cases h⟩
  | m :: r, lc, h => by
    unfold capt at h
    split at h
    · rename_i w hw
      split at h
      · rename_i l hl
        cases h
        refine ex0_2 (capt_look hl) fun h1 h2 => ?_
        refine ⟨fun n hn => ?_, fun n v hv => ?_⟩
        · rcases List.mem_cons.mp hn with rfl | hn
          · exact ⟨w, hw⟩
          · exact h1 n hn
        · have hv' : (bif Nat.beq m n then some w else look l n) = some v := hv
          cases hb : Nat.beq m n with
          | true =>
            have e := Nat.eq_of_beq_eq_true hb
            subst e
            rw [hb] at hv'; cases hv'
            exact ⟨.head _, hw⟩
          | false =>
            rw [hb] at hv'
            refine ex0_2 (h2 n v hv') fun q1 q2 => ?_
            exact ⟨.tail _ q1, q2⟩
      · cases h
    · cases h
section
variable {C : Cst} {D : Fd} {W : Wd} {μ : MH} {env : Env} {O : List Addr} {ls lc : Locs} {scope : Scope} {cap own : List Nat}
theorem cap_cells (eo : EnvOk D env) (F : FrOk C W env D.own O ls) (c : CapOk scope D.sc cap own) (hlc : capt cap ls = some lc) : ∀ x ∈ scope.names, x.2 = .free → ∃ c, env.cells.lookup x.1 = some c := by
  intro x hx hf
  obtain ⟨⟨n, hn, hlt, e⟩, hk⟩ := c.free x hx hf
  refine ex1_1 ((capt_look hlc).1 n hn) fun v hv => ?_
  have hvar : IsVar env.scope (nm n) = true := by
    unfold IsVar
    rw [eo.is, e]
    rcases hk with hk | hk <;> rw [hk]
  refine ex1_2 (F.vars n v hlt hv hvar) fun pv h1 h2 => ?_
  rw [← e]
  cases h2 with
  | loc m a1 a2 a3 =>
    exfalso
    unfold Env.kindOf at a1
    rw [eo.is, e] at a1
    rcases hk with hk | hk <;> rw [hk] at a1 <;> cases a1
  | cell c a1 a2 a3 => exact ⟨c, a2⟩
  | free c a1 a2 a3 => exact ⟨c, a2⟩
theorem lookup_relab_free {outer : Scope} : ∀ (names : List (Str × NameKind)) (x : Str), names.lookup x = some .free →
    (names.map fun (n, k) => if (k == .free && outer.kind == .function && outer.names.lookup n == some .cell) then (n, NameKind.cell) else (n, k)).lookup x = some (if (outer.kind == .function && outer.names.lookup x == some .cell) then .cell else .free)
  | [], _, h => by cases h
  | (n, k) :: r, x, h => by
    rw [List.lookup_cons] at h
    rw [List.map_cons]
    have ih := lookup_relab_free (outer := outer) r x
    cases hb : x == n with
    | true =>
      rw [hb] at h; cases h
      have e : x = n := by simpa using hb
      subst e
      simp only [beq_self_eq_true, Bool.true_and]
      split
      · rw [List.lookup_cons, beq_self_eq_true]
      · rw [List.lookup_cons, beq_self_eq_true]
    | false =>
      rw [hb] at h
      have h' := ih h
      simp only
      split
      · rw [List.lookup_cons, hb]; exact h'
      · rw [List.lookup_cons, hb]; exact h'
theorem sim_compEnv {A : Around} {Q : Env → Shared → Prop} (eo : EnvOk D env) (I : Inv C W μ) (F : FrOk C W env D.own O ls) (c : CapOk scope D.sc cap own) (hlc : capt cap ls = some lc) (hk : scope.kind = .function)
    (hQ : ∀ cenv Oc W', cenv.locals ∈ Oc → EnvOk ⟨relab scope D.sc, own, none⟩ { cenv with scope := relabel scope env } → Ext [] W W' → Inv C W' μ → FrOk C W' { cenv with scope := relabel scope env } own Oc lc → (∀ a ∈ Oc, W.h.get? a = none) →
      (∀ x c, (x, c) ∈ cenv.cells → (x, c) ∈ env.cells ∨ W.h.get? c = none) → Q cenv W'.s) :
    wpAny (model P0 C.w) A (newFunctionEnv scope env.globals (closOf env.cells scope.names []) [] env.qual none .none (some env)) Q NoE W.s := by
  have hfree := cap_cells eo F c hlc
  simp only [newFunctionEnv, Option.isSome_some, if_true]
  refine wpAny_bind (wpAny_alloc ?_)
  refine wpAny_bind (wpAny_layCells _ (fun name kind cells => by cases hkc : kind == NameKind.cell <;> simp) _ _ _ _ ?_)
  rw [show ({ W.s with heap := W.s.heap.push { cls := .type "dict", data := .dict #[] } } : Shared).heap.objs.size = W.h.objs.size + 1 from Heap.size_push ..]
  show wpAny _ A (forIn _ _ _ >>= _) _ _ { W.s with heap := pushCells (W.h.push { cls := .type "dict", data := .dict #[] }) scope.names }
  have hall := cells_all scope.names (W.h.push { cls := .type "dict", data := .dict #[] }) (closOf env.cells scope.names [])
  rw [Heap.size_push] at hall
  have hmem : ∀ p ∈ closOf env.cells scope.names [], env.cells.lookup p.1 = some p.2 := fun p hp => (closOf_mem scope.names [] hfree p hp).elim (fun h => nomatch h) (·.1)
  have live : ∀ p ∈ env.cells, p.2 < W.h.objs.size := fun p hp => by
    obtain ⟨_, _, v, o, ho, _⟩ := F.cM p.1 p.2 hp
    exact Heap.lt_size ho
  have hap : (cellsFrom (W.h.objs.size + 1) scope.names (closOf env.cells scope.names [])).Pairwise fun x y => x.2 ≠ y.2 :=
    cells_apart scope.names _ _ (fun p hp => Nat.lt_succ_of_lt (live p (mem_of_lookup (hmem p hp)))) (closOf_apart F.cap scope.names [] c.nd hfree (fun p hp => nomatch hp) List.Pairwise.nil)
  generalize hcs : cellsFrom (W.h.objs.size + 1) scope.names (closOf env.cells scope.names []) = cs at *
  refine wpAny_bind ?_
  rw [List.forIn_nil]
  refine wpAny_pure (wpAny_pure ?_)
  have kp : OKeep W.h (pushCells (W.h.push { cls := .type "dict", data := .dict #[] }) scope.names) := fun b o e => pushCells_keeps _ _ b o (Heap.get?_push_of_some _ e)
  have nope : ∀ a, W.h.objs.size ≤ a → W.h.get? a = none := fun a ha => by
    cases q : W.h.get? a with
    | none => rfl
    | some o => exact absurd (Heap.lt_size q) (Nat.not_lt.mpr ha)
  have hns : (pushCells (W.h.push { cls := .type "dict", data := .dict #[] }) scope.names).Ns W.h.objs.size (fun _ => none) := (Heap.Ns.new W.h (.type "dict")).keeps (pushCells_keeps _ _)
  have hin : ∀ p ∈ cs, p ∈ env.cells ∨ (W.h.objs.size + 1 ≤ p.2 ∧ (pushCells (W.h.push { cls := .type "dict", data := .dict #[] }) scope.names).IsCell p.2 none) := fun p hp => (hall p hp).imp_left fun q => mem_of_lookup (hmem p q)
  let as := W.h.objs.size :: (cs.filter fun p => decide (W.h.objs.size + 1 ≤ p.2)).map (·.2)
  have hf : ∀ a ∈ as, W.h.get? a = none := fun a ha => by
    rcases List.mem_cons.mp ha with rfl | ha
    · exact nope _ (Nat.le_refl _)
    · obtain ⟨⟨n, c⟩, hm, rfl⟩ := List.mem_map.mp ha
      exact nope _ (Nat.le_of_succ_le (of_decide_eq_true (List.mem_filter.mp hm).2))
  have al : ∀ a ∈ as, ∃ o, (pushCells (W.h.push { cls := .type "dict", data := .dict #[] }) scope.names).get? a = some o := fun a ha => by
    rcases List.mem_cons.mp ha with rfl | ha
    · refine ex3_2 hns fun o _ _ h _ => ?_; exact ⟨o, h⟩
    · obtain ⟨⟨n, c⟩, hm, rfl⟩ := List.mem_map.mp ha
      refine ex0_2 (List.mem_filter.mp hm) fun hm1 hm2 => ?_
      rcases hin _ hm1 with q | ⟨_, o, h, _⟩
      · exact absurd (of_decide_eq_true hm2) (Nat.not_le.mpr (Nat.lt_succ_of_lt (live _ q)))
      · exact ⟨o, h⟩
  have newc : ∀ p ∈ cs, W.h.objs.size + 1 ≤ p.2 → p.2 ∈ as := fun p hp h => .tail _ (List.mem_map.mpr ⟨p, List.mem_filter.mpr ⟨hp, decide_eq_true h⟩, rfl⟩)
  have x : Ext [] W (W.hid { W.s with heap := pushCells (W.h.push { cls := .type "dict", data := .dict #[] }) scope.names } as) := Ext.hid [] kp hf
  have I₁ := I.hid (s := { W.s with heap := pushCells (W.h.push { cls := .type "dict", data := .dict #[] }) scope.names }) kp hf al I.gens rfl
  have F₁ := F.mono I x
  refine hQ (newEnv scope W.h.objs.size env.globals cs env.qual none .none (some env) builtinsNs) as _ (.head _) ⟨by show relabel scope env = relab scope D.sc; unfold relabel relab Env.kindOf; rw [eo.is], hk, eo.gl, eo.bi, fun _ h => by cases h⟩ x I₁ ?_ hf fun y cc hy => (hin (y, cc) hy).imp_right fun q => nope _ (Nat.le_of_succ_le q.1)
  refine ⟨.head _, fun a ha => List.mem_append_left _ ha, ⟨_, hns⟩, fun y cc hm => ?_, hap, fun n hn => ?_, fun n v hlt hv hvar => ?_⟩
  · rcases hin (y, cc) hm with q | ⟨q1, q2⟩
    · refine ex0_3 (F₁.cM y cc q) fun e1 e2 e3 => ?_
      exact ⟨e1, Nat.ne_of_lt (live _ q), e3⟩
    · exact ⟨List.mem_append_left _ (newc _ hm q1), Nat.ne_of_gt q1, _, q2⟩
  · refine ex1_2 (cells_new (nm n) (W.h.objs.size + 1) scope.names (W.h.objs.size + 1) (closOf env.cells scope.names []) (Nat.le_refl _) (c.own n hn)) fun cc h1 h2 => ?_
    rw [hcs] at h1
    exact ⟨cc, h1, newc _ (mem_of_lookup h1) h2⟩
  · refine ex0_2 ((capt_look hlc).2 n v hv) fun hcap hlk => ?_
    refine ex0_2 (c.cap n hcap) fun _ hfr => ?_
    have hfm := mem_of_lookup hfr
    refine ex0_2 (c.free _ hfm rfl) fun _ hko => ?_
    have hvar' : IsVar env.scope (nm n) = true := by
      unfold IsVar
      rw [eo.is]
      rcases hko with hk | hk <;> rw [hk]
    refine ex1_2 (F₁.vars n v hlt hlk hvar') fun pv q1 q2 => ?_
    refine ⟨pv, q1, ?_⟩
    have hsame : ∀ cc, env.cells.lookup (nm n) = some cc → cs.lookup (nm n) = some cc := fun cc hcc => by
      rw [← hcs, cells_same (nm n) scope.names _ _ fun p hp e hcl => ?_]
      · exact closOf_lookup hcc scope.names [] (.inl hfr)
      · have hm2 : (nm n, NameKind.cell) ∈ scope.names := by rw [← e, ← hcl]; exact hp
        have : ∀ {l : List (Str × NameKind)} {y : Str} {a b : NameKind}, (l.map (·.1)).Nodup → (y, a) ∈ l → (y, b) ∈ l → a = b := by
          intro l
          induction l with
          | nil => intro y a b _ h; cases h
          | cons z r ih =>
            intro y a b hnd h1 h2
            rw [List.map_cons, List.nodup_cons] at hnd
            rcases List.mem_cons.mp h1 with e1 | h1 <;> rcases List.mem_cons.mp h2 with e2 | h2
            · rw [← e1] at e2; exact (Prod.mk.inj e2).2.symm
            · exact absurd (List.mem_map.mpr ⟨_, h2, by rw [← e1]⟩) hnd.1
            · exact absurd (List.mem_map.mpr ⟨_, h1, by rw [← e2]⟩) hnd.1
            · exact ih hnd.2 h1 h2
        cases this c.nd hfm hm2
    have hkind : (relabel scope env).names.lookup (nm n) = some (if (env.scope.kind == .function && env.scope.names.lookup (nm n) == some .cell) then .cell else .free) := lookup_relab_free (outer := env.scope) scope.names (nm n) hfr
    have conv : ∀ cc, env.cells.lookup (nm n) = some cc → ∀ (hp : Heap), hp.IsCell cc (some pv) → VarAt hp { newEnv scope W.h.objs.size env.globals cs env.qual none .none (some env) builtinsNs with scope := relabel scope env } (nm n) pv := fun cc hcc hp hcl => by
      by_cases z : (env.scope.kind == .function && env.scope.names.lookup (nm n) == some .cell) = true
      · rw [if_pos z] at hkind
        exact .cell cc hkind (hsame cc hcc) hcl
      · rw [if_neg z] at hkind
        exact .free cc hkind (hsame cc hcc) hcl
    cases q2 with
    | loc m a1 a2 a3 =>
      exfalso
      unfold Env.kindOf at a1
      rw [eo.is] at a1
      rcases hko with hk | hk <;> rw [hk] at a1 <;> cases a1
    | cell cc a1 a2 a3 => exact conv cc a2 _ a3
    | free cc a1 a2 a3 => exact conv cc a2 _ a3
end
end Mine
end
section
open PySem PySem.W PyProof.Rows PySem.Calls PySem.SeqAt
set_option maxRecDepth 100000
namespace Mine

section
variable {C : Cst} {W : Wd} {μ : MH} {A : Around}
theorem it_self {a : Addr} {mi : MI} {E : Value → Shared → Prop} {Q : Value → Shared → Prop} (h : ItAt W a mi) (hQ : Q (.ref a) W.s) : wpAny (model P0 C.w) A (pyIter (.ref a)) Q E W.s := by
  cases mi with
  | lst n i => refine ex1_2 h fun l _ h2 => ?_; exact wpAny_pyIter_listiter h2 hQ
  | rev n i => refine ex1_2 h fun l _ h2 => ?_; exact wpAny_pyIter_revIter h2 hQ
  | rng x left => exact wpAny_pyIter_rangeiter h hQ
  | items n i len => refine ex3_2 h fun d ok ov _ h2 => ?_; exact kcp_self h2 hQ
  | keys n i len => refine ex1_2 h fun d _ h2 => ?_; exact wpAny_pyIter_keyiter h2 hQ
  | vals n i len => refine ex1_2 h fun d _ h2 => ?_; exact wpAny_pyIter_valiter h2 hQ
theorem Ended.ext {O : List Addr} {W W₁ W₂ : Wd} {a : Addr} (I₀ : Inv C W μ) (x : Ext O W W₁) {μ₁ : MH} (ha : W.h.get? a = none) (z : Ended C W₁ μ₁ a W₂) : Ext O W W₂ := by
  have live : ∀ b o, W.h.get? b = some o → b ≠ a := fun b o h q => by rw [q, ha] at h; (first | exact no_some h | cases h)
  refine ⟨fun n b h => by rw [z.ρ]; exact x.pre n b h, fun b o h hc hρ hO => z.kp b o (live b o h) (x.fr b o h hc hρ hO), fun b o h => ?_, fun b hb => by rw [z.ρ] at hb; exact x.newρ b hb, fun b hb => ?_, fun b hb => ?_⟩
  · refine ex1_1 (x.alive b o h) fun o' h' => ?_; exact ⟨o', z.kp b o' (live b o h) h'⟩
  · rw [z.M] at hb; exact x.newM b (List.mem_filter.mp hb).1
  · refine I₀.freshME b hb fun _ o ho _ => ?_
    rw [z.M]
    exact List.mem_filter.mpr ⟨x.subM b hb, by simpa using live b o ho⟩
end
noncomputable abbrev Et := Locs → MH → Option (Bool × MH)
noncomputable def tYes : Et := fun _ μ => some (true, μ)
inductive SimTs (C : Cst) (D : Fd) (k : Nat) : List Expr → Et → Prop
  | nil : SimTs C D k [] tYes
  | one (c : Expr) (t : Et) : SimT C D k c t → SimTs C D k [c] t
noncomputable def compGo (as : As) (t : Et) (el : Ev) (n : Nat) (f : Nat) : MI → Locs → MH → Option MH :=
  Nat.rec (motive := fun _ => MI → Locs → MH → Option MH) (fun _ _ _ => none) (fun _ ih mi ls μ => match mi.next μ with
    | some none => some μ
    | some (some (v, mi')) => match as v ls with
      | some ls₁ => match t ls₁ μ with
        | some (true, μ₁) => match el ls₁ μ₁ with
          | some (x, μ₂) => match μ₂.get n with
            | some (.list l) => bif fits l then ih mi' ls₁ (μ₂.put n (.list (l ++ [x]))) else none
            | _ => none
          | none => none
        | some (false, μ₁) => ih mi' ls₁ μ₁
        | none => none
      | none => none
    | none => none) f
noncomputable def cComp (it : Ei) (cap : List Nat) (as : As) (t : Et) (el : Ev) : Ev := fun ls μ => match it ls μ with
  | some (mi, μ₁) => match μ₁.new (.list []) with
    | some (n, μ₂) => match capt cap ls with
      | some lc => match compGo as t el n 100 mi lc μ₂ with
        | some μ₃ => some (.loc n, μ₃)
        | none => none
      | none => none
    | none => none
  | none => none
section
variable {C : Cst} {D' : Fd} {k : Nat}
theorem comp_elt {elt : Expr} {el : Ev} (B : Basis C) (hel : SimE C D' k elt el) {W : Wd} {μ : MH} {ls : Locs} {env : Env} {O : List Addr} {A : Around} (eo : EnvOk D' env) (ao : AOk k A) (I : Inv C W μ) (F : FrOk C W env D'.own O ls) {n : Nat} {acc : Addr} (hacc : W.ρ[n]? = some acc)
    {x : MV} {μ₂ : MH} {l : List MV} (h : el ls μ = some (x, μ₂)) (hg : μ₂.get n = some (.list l)) (hf : fits l = true) {Q : Shared → Prop} (hQ : ∀ W', Ext [] W W' → Inv C W' (μ₂.put n (.list (l ++ [x]))) → FrOk C W' env D'.own O ls → Q W'.s) :
    wpAny (model P0 C.w) A (eval elt env) (fun y s₄ => wpAny (model P0 C.w) A (call (.builtin "list.append") [.ref acc, y]) (fun _ s₅ => Q s₅) NoE s₄) NoE W.s := by
  refine hel ls μ x μ₂ h W env O A eo ao I F _ fun W₁ pv x₁ I₁ V₁ => ?_
  have hacc₁ := x₁.pre n acc hacc
  refine ex1_2 (I₁.list hacc₁ hg) fun its hL Vs => ?_
  have hsz : its.size ≤ sizeLine := by
    have := fits_le hf Vs
    simpa using this
  refine wpAny_list_append_plain hL (fun h' hL' hs => ?_) hsz
  refine ex1_1 (id hL') fun c hob => ?_
  obtain ⟨x₂, I₂⟩ := put_step (s' := { W₁.s with heap := h' }) (o := .list (l ++ [x])) B I₁ hg hacc₁ hs hob rfl rfl fun y => ⟨_, hL', by
    rw [Array.toList_push]
    exact VRs.append (VRs.mono y (fun _ h => nomatch h) Vs) (.cons _ _ _ _ (VR.mono y (fun _ h => nomatch h) V₁) .nil)⟩
  exact hQ _ (x₁.trans x₂) I₂ ((F.mono I x₁).mono I₁ x₂)
theorem comp_loop {tg elt iter : Expr} {ifs : List Expr} {scope : Scope} {pos : Pos} {as : As} {t : Et} {el : Ev} (B : Basis C) (hA : SimA C D' tg as) (ht : SimTs C D' k ifs t) (hel : SimE C D' k elt el) {W₀ : Wd} {μ₀ : MH} (I₀ : Inv C W₀ μ₀)
    {env : Env} {O : List Addr} {A : Around} (eo : EnvOk D' env) (ao : AOk k A) (hO : ∀ b ∈ O, W₀.h.get? b = none) {a : Addr} (p : Apart W₀ env O a) {n : Nat} {acc : Addr} {μ' : MH} {R : Result → Shared → Prop}
    (hQ : ∀ W', Ext [] W₀ W' → Inv C W' μ' → env.locals ∈ W'.M → (∃ m, W'.h.Ns env.locals m) → W'.ρ[n]? = some acc → R (.ok .next) W'.s)
    (F : Nat) (mi : MI) (ls : Locs) (μ : MH) (W₁ : Wd) (h : compGo as t el n F mi ls μ = some μ') (x : Ext [] W₀ W₁) (I : Inv C W₁ μ) (Fr : FrOk C W₁ env D'.own O ls) (haM : a ∈ W₁.M) (it : ItAt W₁ a mi) (htg : tgOk mi tg) (hacc : W₁.ρ[n]? = some acc) :
    codeAny (model P0 C.w) A (.compLoop (.ListComp elt [⟨tg, iter, ifs, 0⟩] scope pos) 0 (.ref a) (.ref acc) env) R W₁.s := by
  let Iv : Nat → Shared → Prop := fun n' s => ∃ mi ls μ W₁, s = W₁.s ∧ compGo as t el n n' mi ls μ = some μ' ∧ Ext [] W₀ W₁ ∧ Inv C W₁ μ ∧ FrOk C W₁ env D'.own O ls ∧ a ∈ W₁.M ∧ ItAt W₁ a mi ∧ tgOk mi tg ∧ W₁.ρ[n]? = some acc
  have start : Iv F W₁.s := ⟨mi, ls, μ, W₁, rfl, h, x, I, Fr, haM, it, htg, hacc⟩
  -- a turn
  have turn : ∀ (n' : Nat) (mi : MI) (ls : Locs) (μ : MH) (W₁ : Wd), compGo as t el n (n' + 1) mi ls μ = some μ' → Ext [] W₀ W₁ → Inv C W₁ μ → FrOk C W₁ env D'.own O ls → a ∈ W₁.M → ItAt W₁ a mi → tgOk mi tg → W₁.ρ[n]? = some acc →
      ∀ (G : Value → Shared → Prop), (∀ v ls₁ mi' W₂, as v ls = some ls₁ → mi.next μ = some (some (v, mi')) → Ext [] W₀ W₂ → Inv C W₂ μ → FrOk C W₂ env D'.own O ls₁ → a ∈ W₂.M → ItAt W₂ a mi' → tgOk mi' tg → W₂.ρ[n]? = some acc → G .none W₂.s) →
      wpAny (model P0 C.w) A (pyNext (.ref a)) (fun r s₁ => match r with
        | none => R (.ok .next) s₁
        | some v => wpAny (model P0 C.w) A (letOwnedTupleGo tg (.ref a) v) (fun _ s₀ => wpAny (model P0 C.w) A (assign tg env v) (fun _ s₂ => G .none s₂) NoE s₀) NoE s₁) NoE W₁.s := by
    intro n' mi ls μ W₁ h x I Fr haM it htg hacc G hG
    replace h : (match mi.next μ with
      | some none => some μ
      | some (some (v, mi')) => match as v ls with
        | some ls₁ => match t ls₁ μ with
          | some (true, μ₁) => match el ls₁ μ₁ with
            | some (x, μ₂) => match μ₂.get n with
              | some (.list l) => bif fits l then compGo as t el n n' mi' ls₁ (μ₂.put n (.list (l ++ [x]))) else none
              | _ => none
            | none => none
          | some (false, μ₁) => compGo as t el n n' mi' ls₁ μ₁
          | none => none
        | none => none
      | none => none) = some μ' := h
    cases hn : mi.next μ with
    | none => rw [hn] at h; (first | exact no_some h | cases h)
    | some r =>
      rw [hn] at h
      refine sim_turn (Qn := fun s₁ => R (.ok .next) s₁) (Qs := fun v s₂ => wpAny (model P0 C.w) A (assign tg env v) (fun _ s₂ => G .none s₂) NoE s₂) B ao.hd hn I it haM htg ?_ ?_
      · intro hr W' z
        subst hr
        (first | exact no_some h | cases h)
        refine ex0_2 (Ended.step I₀ x.lift I Fr p haM z) fun _ F' => ?_
        exact hQ W' (Ended.ext I₀ x p.new z) z.inv F'.LM F'.ns (by rw [z.ρ]; exact hacc)
      · intro v mi' hr W' pv y I' V it' htg'
        subst hr
        simp only at h
        have Fr' := Fr.stepA I p haM y
        have x' := x.dropA y p.new
        have haM' := y.subM a haM
        cases ha : as v ls with
        | none => rw [ha] at h; (first | exact no_some h | cases h)
        | some ls₁ =>
          refine hA v ls ls₁ ha W' μ env O A pv eo ao.hd I' Fr' V _ fun W₂ x₂ I₂ F₂ => ?_
          exact hG v ls₁ mi' W₂ ha hn (x'.fresh x₂ hO) I₂ F₂ (x₂.subM a haM') (it'.at x₂.pre (fun o e => x₂.fr a o e (.inr haM') (I'.freshM a haM').2.2 p.no)) htg' (x₂.pre n acc (y.pre n acc hacc))
  -- what a turn does behind the assignment
  have behind : ∀ (n' : Nat) (mi : MI) (ls : Locs) (μ : MH), compGo as t el n (n' + 1) mi ls μ = some μ' → ∀ v ls₁ mi', as v ls = some ls₁ → mi.next μ = some (some (v, mi')) →
      (∃ μ₁ x μ₂ l, t ls₁ μ = some (true, μ₁) ∧ el ls₁ μ₁ = some (x, μ₂) ∧ μ₂.get n = some (.list l) ∧ fits l = true ∧ compGo as t el n n' mi' ls₁ (μ₂.put n (.list (l ++ [x]))) = some μ') ∨ (∃ μ₁, t ls₁ μ = some (false, μ₁) ∧ compGo as t el n n' mi' ls₁ μ₁ = some μ') := by
    intro n' mi ls μ h v ls₁ mi' ha hn
    replace h : (match mi.next μ with
      | some none => some μ
      | some (some (v, mi')) => match as v ls with
        | some ls₁ => match t ls₁ μ with
          | some (true, μ₁) => match el ls₁ μ₁ with
            | some (x, μ₂) => match μ₂.get n with
              | some (.list l) => bif fits l then compGo as t el n n' mi' ls₁ (μ₂.put n (.list (l ++ [x]))) else none
              | _ => none
            | none => none
          | some (false, μ₁) => compGo as t el n n' mi' ls₁ μ₁
          | none => none
        | none => none
      | none => none) = some μ' := h
    rw [hn] at h
    simp only [ha] at h
    split at h
    · rename_i μ₁ h1
      split at h
      · rename_i x μ₂ h2
        split at h
        · rename_i l h3
          cases hf : fits l with
          | false => rw [hf] at h; (first | exact no_some h | cases h)
          | true => rw [hf] at h; exact .inl ⟨μ₁, x, μ₂, l, h1, h2, h3, hf, h⟩
        · (first | exact no_some h | cases h)
      · (first | exact no_some h | cases h)
    · rename_i μ₁ h1
      exact .inr ⟨μ₁, h1, h⟩
    · (first | exact no_some h | cases h)
  cases ht with
  | nil =>
    refine kcp_loop Iv ?_ F start
    intro n' s hs0; refine ex4_9 hs0 fun mi ls μ W₁ eqs h x I Fr haM it htg hacc => ?_; subst eqs; clear hs0
    cases n' with
    | zero => (first | exact no_some h | cases h)
    | succ n' =>
      refine up (wpAny_mono (turn n' mi ls μ W₁ h x I Fr haM it htg hacc (fun _ s₂ => wpAny (model P0 C.w) A (eval elt env) (fun y s₄ => wpAny (model P0 C.w) A (call (.builtin "list.append") [.ref acc, y]) (fun _ s₅ => ∃ m, m < n' + 1 ∧ Iv m s₅) NoE s₄) NoE s₂) ?_) (fun r s₁ q => ?_) fun _ _ q => q)
      · intro v ls₁ mi' W₂ ha hn x₂ I₂ F₂ haM₂ it₂ htg₂ hacc₂
        rcases behind n' mi ls μ h v ls₁ mi' ha hn with ⟨μ₁, y, μ₂, l, h1, h2, h3, hf, h4⟩ | ⟨μ₁, h1, _⟩
        · (first | exact no_some h1 | cases h1)
          refine comp_elt B hel eo ao I₂ F₂ hacc₂ h2 h3 hf fun W₃ x₃ I₃ F₃ => ?_
          exact ⟨n', Nat.lt_succ_self n', mi', ls₁, μ₂.put n (.list (l ++ [y])), W₃, rfl, h4, x₂.trans x₃, I₃, F₃, x₃.subM a haM₂, it₂.at x₃.pre (fun o e => x₃.fr a o e (.inr haM₂) (I₂.freshM a haM₂).2.2 (fun h => nomatch h)), htg₂, x₃.pre n acc hacc₂⟩
        · (first | exact no_some h1 | cases h1)
      · cases r with
        | none => exact q
        | some v => exact up (wpAny_mono q (fun _ _ q => up (wpAny_mono q (fun _ _ q => up (wpAny_mono q (fun _ _ q => up q) fun _ _ q => q)) fun _ _ q => q)) fun _ _ q => q)
  | one c t hc =>
    refine kct_loop Iv ?_ F start
    intro n' s hs0; refine ex4_9 hs0 fun mi ls μ W₁ eqs h x I Fr haM it htg hacc => ?_; subst eqs; clear hs0
    cases n' with
    | zero => (first | exact no_some h | cases h)
    | succ n' =>
      refine up (wpAny_mono (turn n' mi ls μ W₁ h x I Fr haM it htg hacc (fun _ s₂ => wpAny (model P0 C.w) A (isTrue c env (eval c env)) (fun ok s₃ => if ok = true then wpAny (model P0 C.w) A (eval elt env) (fun y s₄ => wpAny (model P0 C.w) A (call (.builtin "list.append") [.ref acc, y]) (fun _ s₅ => ∃ m, m < n' + 1 ∧ Iv m s₅) NoE s₄) NoE s₃ else ∃ m, m < n' + 1 ∧ Iv m s₃) NoE s₂) ?_) (fun r s₁ q => ?_) fun _ _ q => q)
      · intro v ls₁ mi' W₂ ha hn x₂ I₂ F₂ haM₂ it₂ htg₂ hacc₂
        rcases behind n' mi ls μ h v ls₁ mi' ha hn with ⟨μ₁, y, μ₂, l, h1, h2, h3, hf, h4⟩ | ⟨μ₁, h1, h4⟩
        · refine hc ls₁ μ true μ₁ h1 W₂ env O A eo ao I₂ F₂ _ fun W₂' x₂' I₂' => ?_
          rw [if_pos rfl]
          have haM₂' := x₂'.subM a haM₂
          have it₂' := it₂.at x₂'.pre (fun o e => x₂'.fr a o e (.inr haM₂) (I₂.freshM a haM₂).2.2 (fun h => nomatch h))
          refine comp_elt B hel eo ao I₂' (F₂.mono I₂ x₂') (x₂'.pre n acc hacc₂) h2 h3 hf fun W₃ x₃ I₃ F₃ => ?_
          exact ⟨n', Nat.lt_succ_self n', mi', ls₁, μ₂.put n (.list (l ++ [y])), W₃, rfl, h4, (x₂.trans x₂').trans x₃, I₃, F₃, x₃.subM a haM₂', it₂'.at x₃.pre (fun o e => x₃.fr a o e (.inr haM₂') (I₂'.freshM a haM₂').2.2 (fun h => nomatch h)), htg₂, x₃.pre n acc (x₂'.pre n acc hacc₂)⟩
        · refine hc ls₁ μ false μ₁ h1 W₂ env O A eo ao I₂ F₂ _ fun W₂' x₂' I₂' => ?_
          rw [if_neg (by decide)]
          exact ⟨n', Nat.lt_succ_self n', mi', ls₁, μ₁, W₂', rfl, h4, x₂.trans x₂', I₂', F₂.mono I₂ x₂', x₂'.subM a haM₂, it₂.at x₂'.pre (fun o e => x₂'.fr a o e (.inr haM₂) (I₂.freshM a haM₂).2.2 (fun h => nomatch h)), htg₂, x₂'.pre n acc hacc₂⟩
      · cases r with
        | none => exact q
        | some v =>
          refine up (wpAny_mono q (fun _ _ q => up (wpAny_mono q (fun _ _ q => up (wpAny_mono q (fun ok s₃ q => ?_) fun _ _ q => q)) fun _ _ q => q)) fun _ _ q => q)
          split at q
          · rename_i hok; rw [if_pos hok]; exact up (wpAny_mono q (fun _ _ q => up q) fun _ _ q => q)
          · rename_i hok; rw [if_neg hok]; exact q
end
end Mine
end
section
open PySem PySem.W PyProof.Rows PySem.Calls PySem.SeqAt
set_option maxRecDepth 100000
namespace Mine

section
variable {C : Cst} {D : Fd} {k : Nat}
theorem comp_apart {W W₂ : Wd} {μ μ₂ : MH} {env cenv : Env} {own : List Nat} {O Oc : List Addr} {ls : Locs} {a : Addr} {o : Obj} {sc : Scope} (I : Inv C W μ) (F : FrOk C W env own O ls) (hnew : W.h.get? a = none) (ha : W₂.h.get? a = some o) (hL : cenv.locals ∈ Oc) (hO : ∀ b ∈ Oc, W₂.h.get? b = none)
    (hc : ∀ x c, (x, c) ∈ cenv.cells → (x, c) ∈ env.cells ∨ W₂.h.get? c = none) : Apart W { cenv with scope := sc } Oc a where
  new := hnew
  no := fun q => by have := hO a q; rw [ha] at this; (first | exact no_some this | cases this)
  nl := fun q => by
    have q' : cenv.locals = a := q
    have := hO _ hL; rw [q', ha] at this; (first | exact no_some this | cases this)
  nc := fun x c hx q => by
    subst q
    rcases hc x c hx with h | h
    · refine ex0_2 (F.cM x c h) fun hM _ => ?_
      refine I.freshME c hM fun _ o' ho' _ => ?_
      rw [hnew] at ho'; (first | exact no_some ho' | cases ho')
    · rw [ha] at h; (first | exact no_some h | cases h)
theorem comp_h {tg elt iter : Expr} {ifs : List Expr} {scope : Scope} {pos : Pos} {it : Ei} {cap own : List Nat} {as : As} {t : Et} {el : Ev} (B : Basis C) (hi : SimI C D k iter it) (hsrc : SrcOk it tg) (hc : CapOk scope D.sc cap own) (hk : scope.kind = .function)
    (hA : SimA C ⟨relab scope D.sc, own, none⟩ tg as) (ht : SimTs C ⟨relab scope D.sc, own, none⟩ k ifs t) (hel : SimE C ⟨relab scope D.sc, own, none⟩ k elt el)
    {ls : Locs} {μ μ₁ μ₂ μ₃ : MH} {mi : MI} {n : Nat} {lc : Locs} (h1 : it ls μ = some (mi, μ₁)) (h2 : μ₁.new (.list []) = some (n, μ₂)) (h3 : capt cap ls = some lc) (h4 : compGo as t el n 100 mi lc μ₂ = some μ₃)
    {W : Wd} {env : Env} {O : List Addr} {A : Around} (eo : EnvOk D env) (ao : AOk k A) (I : Inv C W μ) (F : FrOk C W env D.own O ls) {RR : Value → Addr → Result → Shared → Prop}
    (hQ : ∀ W' acc Ca, Ext [] W W' → Inv C W' μ₃ → Ca ∈ W'.M → W.h.get? Ca = none → (∃ m, W'.h.Ns Ca m) → W'.ρ[n]? = some acc → RR (.ref acc) Ca (.ok .next) W'.s) :
    wpAny (model P0 C.w) A (eval iter env) (fun x s₁ => wpAny (model P0 C.w) A (pyIter x) (fun itv s₂ => wpAny (model P0 C.w) A (newList []) (fun acc s₃ =>
      wpAny (model P0 C.w) A (newFunctionEnv scope env.globals (closOf env.cells scope.names []) [] env.qual none .none (some env)) (fun cenv s₄ =>
        codeAny (model P0 C.w) A (.compStart (.ListComp elt [⟨tg, iter, ifs, 0⟩] scope pos) 0 itv acc { cenv with scope := relabel scope env }) (RR acc cenv.locals) s₄) NoE s₃) NoE s₂) NoE s₁) NoE W.s := by
  refine hi ls μ mi μ₁ h1 W env O A eo ao I F _ fun W₁ a x₁ I₁ haM hnew it₁ => ?_
  refine wpAny_newObj_type ?_ (by show (0 : Nat) ≤ sizeLine; exact Nat.zero_le _)
  have key : Says C W₁ (.loc n) μ₂ (fun acc s₃ => wpAny (model P0 C.w) A (newFunctionEnv scope env.globals (closOf env.cells scope.names []) [] env.qual none .none (some env)) (fun cenv s₄ =>
        codeAny (model P0 C.w) A (.compStart (.ListComp elt [⟨tg, iter, ifs, 0⟩] scope pos) 0 (.ref a) acc { cenv with scope := relabel scope env }) (RR acc cenv.locals) s₄) NoE s₃) := by
    intro W₂ pv x₂ I₂ V
    refine V.locE fun acc hacc => ?_
    have F₂ := F.mono I (x₁.trans x₂)
    refine sim_compEnv eo I₂ F₂ hc h3 hk fun cenv Oc W₃ hL eo' x₃ I₃ F₃ hO hcells => ?_
    have x03 := (x₁.trans x₂).trans x₃
    have haM₂ := x₂.subM a haM
    have haM₃ := x₃.subM a haM₂
    refine I₂.freshME a haM₂ fun _ oa hoa _ => ?_
    have it₃ := (it₁.at x₂.pre (fun o e => I₁.mine x₂ haM e)).at x₃.pre (fun o e => I₂.mine x₃ haM₂ e)
    have hO0 : ∀ b ∈ Oc, W.h.get? b = none := fun b hb => by
      cases q : W.h.get? b with
      | none => rfl
      | some o =>
        refine ex1_1 ((x₁.trans x₂).alive b o q) fun o' h' => ?_
        rw [hO b hb] at h'; (first | exact no_some h' | cases h')
    have loop : codeAny (model P0 C.w) A (.compLoop (.ListComp elt [⟨tg, iter, ifs, 0⟩] scope pos) 0 (.ref a) (.ref acc) { cenv with scope := relabel scope env }) (RR (.ref acc) cenv.locals) W₃.s :=
      comp_loop B hA ht hel I eo' ao hO0 (comp_apart (μ₂ := μ₂) I F hnew hoa hL hO hcells) (fun W' x' I' hM' hns hacc' => hQ W' acc cenv.locals x' I' hM' (hO0 _ hL) hns hacc') 100 mi lc μ₂ W₃ h4 x03 I₃ F₃ haM₃ it₃ (hsrc ls μ mi μ₁ h1) (x₃.pre n acc hacc)
    exact codeAny_compStart_list loop (it_self it₃ loop)
  exact Says.list (c := 0) I₁ h2 .nil key W₁.s.toks
theorem sim_lcomp {tg elt iter : Expr} {ifs : List Expr} {scope : Scope} {pos : Pos} {it : Ei} {cap own : List Nat} {as : As} {t : Et} {el : Ev} (B : Basis C) (hi : SimI C D k iter it) (hsrc : SrcOk it tg) (hc : capOk scope D.sc cap own = true) (hk : scope.kind = .function)
    (hA : SimA C ⟨relab scope D.sc, own, none⟩ tg as) (ht : SimTs C ⟨relab scope D.sc, own, none⟩ k ifs t) (hel : SimE C ⟨relab scope D.sc, own, none⟩ k elt el) (hs : ∀ env x, foldedSetIterable iter env x = pure x) :
    SimE C D k (.ListComp elt [⟨tg, iter, ifs, 0⟩] scope pos) (cComp it cap as t el) := by
  intro ls μ v μ' h W env O A eo ao I F Q hQ
  have c := CapOk.of hc
  unfold cComp at h
  split at h
  · rename_i mi μ₁ h1
    split at h
    · rename_i n μ₂ h2
      split at h
      · rename_i lc h3
        split at h
        · rename_i μ₃ h4
          (first | exact no_some h | cases h)
          rw [eval_ListComp]
          refine wpAny_comprehension_free (use := none) rfl (hs env) (closureFor_eq scope env (cap_cells eo F c h3)) hk c.loc ?_
          refine comp_h (RR := fun acc Ca => compPost (model P0 C.w) A NoE none Q acc Ca) B hi hsrc c hk hA ht hel h1 h2 h3 h4 eo ao I F fun W' acc Ca x' I' hM hf hns hacc => ?_
          refine ex1_1 hns fun m hm => ?_
          refine ⟨m, hm, fun h' hsb => ?_⟩
          have z := fin_inv (t := W'.s.toks) B I' hM hsb.extBut
          exact hQ _ _ (Ended.ext I x' hf z) z.inv (.loc n acc hacc)
        · (first | exact no_some h | cases h)
      · (first | exact no_some h | cases h)
    · (first | exact no_some h | cases h)
  · (first | exact no_some h | cases h)
theorem sim_setlc {tg elt iter : Expr} {ifs : List Expr} {scope : Scope} {pos : Pos} {it : Ei} {cap own : List Nat} {as : As} {t : Et} {el : Ev} {x : Str} (B : Basis C) (nn : Nat) (p pos' : Pos) (hx : nm nn = x) (hn : nn < nmC) (hs' : Sto D nn = true)
    (sw : ∀ env, EnvOk D env → swapsWith (.ListComp elt [⟨tg, iter, ifs, 0⟩] scope pos) (some (.Name x p)) pos'.line env = pure true)
    (hi : SimI C D k iter it) (hsrc : SrcOk it tg) (hc : capOk scope D.sc cap own = true) (hk : scope.kind = .function)
    (hA : SimA C ⟨relab scope D.sc, own, none⟩ tg as) (ht : SimTs C ⟨relab scope D.sc, own, none⟩ k ifs t) (hel : SimE C ⟨relab scope D.sc, own, none⟩ k elt el) (hs : ∀ env x, foldedSetIterable iter env x = pure x) :
    SimS C D k (.Assign [.Name x p] (.ListComp elt [⟨tg, iter, ifs, 0⟩] scope pos) pos') (sSet nn (cComp it cap as t el)) := by
  intro ls μ fl ls' μ' h W env O A eo ao I F Q hQ
  subst hx
  have c := CapOk.of hc
  unfold sSet cComp at h
  split at h
  · rename_i vv μ₀ h0
    (first | exact no_some h | cases h)
    split at h0
    · rename_i mi μ₁ h1
      split at h0
      · rename_i n μ₂ h2
        split at h0
        · rename_i lc h3
          split at h0
          · rename_i μ₃ h4
            (first | exact no_some h0 | cases h0)
            rw [exec_Assign_Name_used _ _ _ _ (sw env eo)]
            refine wpAny_bind (wpAny_standAt (wpAny_bind ?_))
            show wpAny _ A (do let _ ← comprehension (.ListComp elt [⟨tg, iter, ifs, 0⟩] scope pos) scope env _ (newList []) false (eval iter env) (some (assign (.Name (nm nn) p) env))) _ _ W.s
            refine wpAny_bind (wpAny_mono (wpAny_comprehension_free (use := some (assign (.Name (nm nn) p) env)) (Q := fun _ s' => Q .next s') rfl (hs env) (closureFor_eq scope env (cap_cells eo F c h3)) hk c.loc ?_) (fun _ s' hq => wpAny_pure (wpAny_pure hq)) fun _ _ e => e)
            refine comp_h (RR := fun acc Ca => compPost (model P0 C.w) A NoE (some (assign (.Name (nm nn) p) env)) (fun _ s' => Q .next s') acc Ca) B hi hsrc c hk hA ht hel h1 h2 h3 h4 eo ao I F fun W' acc Ca x' I' hM hf hns hacc => ?_
            have F' := F.mono I x'
            have hCO : Ca ∉ O := fun q => by
              refine I.freshME Ca (F.OM Ca q) fun _ o ho _ => ?_
              rw [hf] at ho; (first | exact no_some ho | cases ho)
            refine wpAny_assign_Name (sim_store B eo I' F' hn hs' (.loc n acc hacc) fun W₂ x₂ I₂ F₂ => ?_)
            refine ex1_1 hns fun m hm => ?_
            have hm₂ : W₂.h.Ns Ca m := by
              refine ex3_2 hm fun o es ep ho r => ?_
              exact ⟨o, es, ep, x₂.fr Ca o ho (.inr hM) (I'.freshM Ca hM).2.2 hCO, r⟩
            refine ⟨m, hm₂, fun h' hsb => ?_⟩
            have z := fin_inv (t := W₂.s.toks) B I₂ (x₂.subM Ca hM) hsb.extBut
            have p' : Apart W env O Ca := Apart.of I F hf
            refine ex0_2 (Ended.step I (x'.lift.trans x₂) I₂ F₂ p' (x₂.subM Ca hM) z) fun y F₃ => ?_
            exact hQ _ _ y z.inv F₃ .next
          · (first | exact no_some h0 | cases h0)
        · (first | exact no_some h0 | cases h0)
      · (first | exact no_some h0 | cases h0)
    · (first | exact no_some h0 | cases h0)
  · (first | exact no_some h | cases h)
end
end Mine
end
section
open PySem PySem.W PyProof.Rows PySem.Calls PySem.SeqAt
set_option maxRecDepth 100000
namespace Mine

noncomputable def fitsD (l : List (Int × MV)) : Bool := Nat.ble l.length 4096
section
variable {C : Cst} {W : Wd} {μ : MH} {A : Around}
theorem dict_new (h : Heap) : (h.push { cls := .type "dict", data := .dict #[] }).DictAt (ik C) h.objs.size [] 0 :=
  ⟨_, #[], Heap.get?_push_size _ rfl, ⟨rfl, rfl, rfl⟩, rfl, fun _ he => by simp at he, Pairs.nil, List.nodup_nil⟩
theorem Says.dict {n : Nat} {μ' : MH} {Q : Value → Shared → Prop} (I : Inv C W μ) (hn : μ.new (.dict []) = some (n, μ')) (h : Says C W (.loc n) μ' Q) (t : Nat) :
    Q (.ref W.h.objs.size) { W.s with heap := W.h.push { cls := .type "dict", data := .dict #[] }, toks := t } := by
  refine h.new I hn (s' := { W.s with heap := W.h.push { cls := .type "dict", data := .dict #[] }, toks := t }) (push_keep _ _) rfl rfl (Nat.le_refl _) (Heap.get?_push_size _ rfl) fun W' hW x => ?_
  have e : W'.h = W.h.push { cls := .type "dict", data := .dict #[] } := by show W'.s.heap = _; rw [hW]
  exact ⟨[], by rw [e]; exact dict_new _, rfl, .nil⟩
theorem dict_put (B : Basis C) (I : Inv C W μ) {n : Nat} {d : Addr} {es : List (Int × MV)} (hd : W.ρ[n]? = some d) (hg : μ.get n = some (.dict es)) (hf : fitsD es = true) {k : Int} {t : Tok} {v : MV} {pv : Value} (V : VR C.Q W.h W.ρ W.M v pv) {Q : Unit → Shared → Prop} {E : Value → Shared → Prop}
    (hQ : ∀ W', Ext [] W W' → Inv C W' (μ.put n (.dict (dset es k v))) → Q () W'.s) : wpAny (model P0 C.w) A (dictSet d (.int k t) pv) Q E W.s := by
  refine ex1_2 (I.dict hd hg) fun kvs hD hr => ?_
  have hlen := congrArg List.length hr.1
  simp only [List.length_map] at hlen
  have hsz : kvs.length ≤ sizeLine := by
    have := Nat.le_of_ble_eq_true hf
    rw [sizeLine_eq]; omega
  refine dictSet_at hD (fun h' hD' hs => ?_) hsz
  refine ex2_2 (id hD') fun o' es' ho' r => ?_
  obtain ⟨x, I'⟩ := put_step (s' := { W.s with heap := h', toks := W.s.toks + 1 }) (o := .dict (dset es k v)) B I hg hd hs ho' rfl rfl fun y =>
    ⟨_, hD', DR.wk (y.wk fun _ h => nomatch h) (DR.set V k hD.nodup hr)⟩
  exact hQ _ x I'
end
noncomputable def compGoD (as : As) (kx vx : Ev) (n : Nat) (f : Nat) : MI → Locs → MH → Option MH :=
  Nat.rec (motive := fun _ => MI → Locs → MH → Option MH) (fun _ _ _ => none) (fun _ ih mi ls μ => match mi.next μ with
    | some none => some μ
    | some (some (v, mi')) => match as v ls with
      | some ls₁ => match kx ls₁ μ with
        | some (.int kk, μ₁) => match vx ls₁ μ₁ with
          | some (x, μ₂) => match μ₂.get n with
            | some (.dict es) => bif fitsD es then ih mi' ls₁ (μ₂.put n (.dict (dset es kk x))) else none
            | _ => none
          | none => none
        | _ => none
      | none => none
    | none => none) f
noncomputable def cDComp (it : Ei) (cap : List Nat) (as : As) (kx vx : Ev) : Ev := fun ls μ => match it ls μ with
  | some (mi, μ₁) => match μ₁.new (.dict []) with
    | some (n, μ₂) => match capt cap ls with
      | some lc => match compGoD as kx vx n 100 mi lc μ₂ with
        | some μ₃ => some (.loc n, μ₃)
        | none => none
      | none => none
    | none => none
  | none => none
section
variable {C : Cst} {D' : Fd} {k : Nat}
theorem comp_loopD {tx : Str} {tp : Pos} {kx vx iter : Expr} {scope : Scope} {pos : Pos} {as : As} {ek ev : Ev} (B : Basis C) (hA : SimA C D' (.Name tx tp) as) (hkx : SimE C D' k kx ek) (hvx : SimE C D' k vx ev) {W₀ : Wd} {μ₀ : MH} (I₀ : Inv C W₀ μ₀)
    {env : Env} {O : List Addr} {A : Around} (eo : EnvOk D' env) (ao : AOk k A) (hO : ∀ b ∈ O, W₀.h.get? b = none) {a : Addr} (p : Apart W₀ env O a) {n : Nat} {acc : Addr} {μ' : MH} {R : Result → Shared → Prop}
    (hQ : ∀ W', Ext [] W₀ W' → Inv C W' μ' → env.locals ∈ W'.M → (∃ m, W'.h.Ns env.locals m) → W'.ρ[n]? = some acc → R (.ok .next) W'.s)
    (F : Nat) (mi : MI) (ls : Locs) (μ : MH) (W₁ : Wd) (h : compGoD as ek ev n F mi ls μ = some μ') (x : Ext [] W₀ W₁) (I : Inv C W₁ μ) (Fr : FrOk C W₁ env D'.own O ls) (haM : a ∈ W₁.M) (it : ItAt W₁ a mi) (htg : tgOk mi (.Name tx tp)) (hacc : W₁.ρ[n]? = some acc) :
    codeAny (model P0 C.w) A (.compLoop (.DictComp kx vx [⟨.Name tx tp, iter, [], 0⟩] scope pos) 0 (.ref a) (.ref acc) env) R W₁.s := by
  let Iv : Nat → Shared → Prop := fun n' s => ∃ mi ls μ W₁, s = W₁.s ∧ compGoD as ek ev n n' mi ls μ = some μ' ∧ Ext [] W₀ W₁ ∧ Inv C W₁ μ ∧ FrOk C W₁ env D'.own O ls ∧ a ∈ W₁.M ∧ ItAt W₁ a mi ∧ tgOk mi (.Name tx tp) ∧ W₁.ρ[n]? = some acc
  refine codeAny_compLoop_testsD Iv ?_ F ⟨mi, ls, μ, W₁, rfl, h, x, I, Fr, haM, it, htg, hacc⟩
  intro n' s hs0; refine ex4_9 hs0 fun mi ls μ W₁ eqs h x I Fr haM it htg hacc => ?_; subst eqs; clear hs0
  cases n' with
  | zero => (first | exact no_some h | cases h)
  | succ n' =>
    replace h : (match mi.next μ with
      | some none => some μ
      | some (some (v, mi')) => match as v ls with
        | some ls₁ => match ek ls₁ μ with
          | some (.int kk, μ₁) => match ev ls₁ μ₁ with
            | some (x, μ₂) => match μ₂.get n with
              | some (.dict es) => bif fitsD es then compGoD as ek ev n n' mi' ls₁ (μ₂.put n (.dict (dset es kk x))) else none
              | _ => none
            | none => none
          | _ => none
        | none => none
      | none => none) = some μ' := h
    cases hn : mi.next μ with
    | none => rw [hn] at h; (first | exact no_some h | cases h)
    | some r =>
      rw [hn] at h
      refine up (wpAny_mono (sim_turn (tg := .Name tx tp) (Qn := fun s₁ => R (.ok .next) s₁) (Qs := fun v s₂ => wpAny (model P0 C.w) A (assign (.Name tx tp) env v) (fun _ s₂ => wpAny (model P0 C.w) A (eval kx env) (fun kv s₄ => wpAny (model P0 C.w) A (eval vx env) (fun vv s₅ =>
              wpAny (model P0 C.w) A (dictSet acc kv vv) (fun _ s₆ => ∃ m, m < n' + 1 ∧ Iv m s₆) NoE s₅) NoE s₄) NoE s₂) NoE s₂) B ao.hd hn I it haM htg ?_ ?_) (fun r s₁ q => ?_) fun _ _ q => q)
      · intro hr W' z
        subst hr
        (first | exact no_some h | cases h)
        refine ex0_2 (Ended.step I₀ x.lift I Fr p haM z) fun _ F' => ?_
        exact hQ W' (Ended.ext I₀ x p.new z) z.inv F'.LM F'.ns (by rw [z.ρ]; exact hacc)
      · intro v mi' hr W' pv y I' V it' htg'
        subst hr
        simp only at h
        have Fr' := Fr.stepA I p haM y
        have x' := x.dropA y p.new
        have haM' := y.subM a haM
        cases ha : as v ls with
        | none => rw [ha] at h; (first | exact no_some h | cases h)
        | some ls₁ =>
          rw [ha] at h
          refine hA v ls ls₁ ha W' μ env O A pv eo ao.hd I' Fr' V _ fun W₂ x₂ I₂ F₂ => ?_
          have haM₂ := x₂.subM a haM'
          have it₂ := it'.at x₂.pre (fun o e => x₂.fr a o e (.inr haM') (I'.freshM a haM').2.2 p.no)
          have hacc₂ := x₂.pre n acc (y.pre n acc hacc)
          have x02 : Ext [] W₀ W₂ := x'.fresh x₂ hO
          simp only at h
          split at h
          · rename_i kk μ₁ h1
            split at h
            · rename_i vv μ₂ h2
              split at h
              · rename_i es h3
                cases hf : fitsD es with
                | false => rw [hf] at h; (first | exact no_some h | cases h)
                | true =>
                  rw [hf, cond_true] at h
                  refine hkx ls₁ μ _ μ₁ h1 W₂ env O A eo ao I₂ F₂ _ fun W₃ pk x₃ I₃ V₃ => ?_
                  refine V₃.intE fun tk => ?_
                  refine hvx ls₁ μ₁ vv μ₂ h2 W₃ env O A eo ao I₃ (F₂.mono I₂ x₃) _ fun W₄ pw x₄ I₄ V₄ => ?_
                  have hacc₄ := x₄.pre n acc (x₃.pre n acc hacc₂)
                  refine dict_put B I₄ hacc₄ h3 hf V₄ fun W₅ x₅ I₅ => ?_
                  have x25 := (x₃.trans x₄).trans x₅
                  exact ⟨n', Nat.lt_succ_self n', mi', ls₁, _, W₅, rfl, h, x02.trans x25, I₅, F₂.mono I₂ x25, x25.subM a haM₂, it₂.at x25.pre (fun o e => I₂.mine x25 haM₂ e), htg', x₅.pre n acc hacc₄⟩
              · (first | exact no_some h | cases h)
            · (first | exact no_some h | cases h)
          · (first | exact no_some h | cases h)
      · cases r with
        | none => exact q
        | some v =>
          have q' : wpAny (model P0 C.w) A (assign (.Name tx tp) env v) (fun _ s₂ => wpAny (model P0 C.w) A (eval kx env) (fun kv s₄ => wpAny (model P0 C.w) A (eval vx env) (fun vv s₅ =>
              wpAny (model P0 C.w) A (dictSet acc kv vv) (fun _ s₆ => ∃ m, m < n' + 1 ∧ Iv m s₆) NoE s₅) NoE s₄) NoE s₂) NoE s₁ := fun Γ pp hΓ => (q Γ pp hΓ) Γ pp hΓ
          refine up (wpAny_mono q' (fun _ s₂ q => ?_) fun _ _ q => q)
          refine wpAny_tests_nil ?_
          rw [if_pos rfl]
          exact up (wpAny_mono q (fun _ _ q => up (wpAny_mono q (fun _ _ q => up q) fun _ _ q => q)) fun _ _ q => q)
end
section
variable {C : Cst} {D : Fd} {k : Nat}
theorem comp_hD {tx : Str} {tp : Pos} {kx vx iter : Expr} {scope : Scope} {pos : Pos} {it : Ei} {cap own : List Nat} {as : As} {ek ev : Ev} (B : Basis C) (hi : SimI C D k iter it) (hsrc : SrcOk it (.Name tx tp)) (hc : CapOk scope D.sc cap own) (hk : scope.kind = .function)
    (hA : SimA C ⟨relab scope D.sc, own, none⟩ (.Name tx tp) as) (hkx : SimE C ⟨relab scope D.sc, own, none⟩ k kx ek) (hvx : SimE C ⟨relab scope D.sc, own, none⟩ k vx ev)
    {ls : Locs} {μ μ₁ μ₂ μ₃ : MH} {mi : MI} {n : Nat} {lc : Locs} (h1 : it ls μ = some (mi, μ₁)) (h2 : μ₁.new (.dict []) = some (n, μ₂)) (h3 : capt cap ls = some lc) (h4 : compGoD as ek ev n 100 mi lc μ₂ = some μ₃)
    {W : Wd} {env : Env} {O : List Addr} {A : Around} (eo : EnvOk D env) (ao : AOk k A) (I : Inv C W μ) (F : FrOk C W env D.own O ls) {RR : Value → Addr → Result → Shared → Prop}
    (hQ : ∀ W' acc Ca, Ext [] W W' → Inv C W' μ₃ → Ca ∈ W'.M → W.h.get? Ca = none → (∃ m, W'.h.Ns Ca m) → W'.ρ[n]? = some acc → RR (.ref acc) Ca (.ok .next) W'.s) :
    wpAny (model P0 C.w) A (eval iter env) (fun x s₁ => wpAny (model P0 C.w) A (pyIter x) (fun itv s₂ => wpAny (model P0 C.w) A newDict (fun acc s₃ =>
      wpAny (model P0 C.w) A (newFunctionEnv scope env.globals (closOf env.cells scope.names []) [] env.qual none .none (some env)) (fun cenv s₄ =>
        codeAny (model P0 C.w) A (.compStart (.DictComp kx vx [⟨.Name tx tp, iter, [], 0⟩] scope pos) 0 itv acc { cenv with scope := relabel scope env }) (RR acc cenv.locals) s₄) NoE s₃) NoE s₂) NoE s₁) NoE W.s := by
  refine hi ls μ mi μ₁ h1 W env O A eo ao I F _ fun W₁ a x₁ I₁ haM hnew it₁ => ?_
  refine wpAny_newObj_type (hd := by size_fits) ?_
  have key : Says C W₁ (.loc n) μ₂ (fun acc s₃ => wpAny (model P0 C.w) A (newFunctionEnv scope env.globals (closOf env.cells scope.names []) [] env.qual none .none (some env)) (fun cenv s₄ =>
        codeAny (model P0 C.w) A (.compStart (.DictComp kx vx [⟨.Name tx tp, iter, [], 0⟩] scope pos) 0 (.ref a) acc { cenv with scope := relabel scope env }) (RR acc cenv.locals) s₄) NoE s₃) := by
    intro W₂ pv x₂ I₂ V
    refine V.locE fun acc hacc => ?_
    have F₂ := F.mono I (x₁.trans x₂)
    refine sim_compEnv eo I₂ F₂ hc h3 hk fun cenv Oc W₃ hL eo' x₃ I₃ F₃ hO hcells => ?_
    have x03 := (x₁.trans x₂).trans x₃
    have haM₂ := x₂.subM a haM
    have haM₃ := x₃.subM a haM₂
    refine I₂.freshME a haM₂ fun _ oa hoa _ => ?_
    have it₃ := (it₁.at x₂.pre (fun o e => I₁.mine x₂ haM e)).at x₃.pre (fun o e => I₂.mine x₃ haM₂ e)
    have hO0 : ∀ b ∈ Oc, W.h.get? b = none := fun b hb => by
      cases q : W.h.get? b with
      | none => rfl
      | some o =>
        refine ex1_1 ((x₁.trans x₂).alive b o q) fun o' h' => ?_
        rw [hO b hb] at h'; (first | exact no_some h' | cases h')
    have loop : codeAny (model P0 C.w) A (.compLoop (.DictComp kx vx [⟨.Name tx tp, iter, [], 0⟩] scope pos) 0 (.ref a) (.ref acc) { cenv with scope := relabel scope env }) (RR (.ref acc) cenv.locals) W₃.s :=
      comp_loopD B hA hkx hvx I eo' ao hO0 (comp_apart (μ₂ := μ₂) I F hnew hoa hL hO hcells) (fun W' x' I' hM' hns hacc' => hQ W' acc cenv.locals x' I' hM' (hO0 _ hL) hns hacc') 100 mi lc μ₂ W₃ h4 x03 I₃ F₃ haM₃ it₃ (hsrc ls μ mi μ₁ h1) (x₃.pre n acc hacc)
    exact codeAny_compStart_dict loop (it_self it₃ loop)
  exact Says.dict I₁ h2 key W₁.s.toks
theorem sim_dcomp {tx : Str} {tp : Pos} {kx vx iter : Expr} {scope : Scope} {pos : Pos} {it : Ei} {cap own : List Nat} {as : As} {ek ev : Ev} (B : Basis C) (hi : SimI C D k iter it) (hsrc : SrcOk it (.Name tx tp)) (hc : capOk scope D.sc cap own = true) (hk : scope.kind = .function)
    (hA : SimA C ⟨relab scope D.sc, own, none⟩ (.Name tx tp) as) (hkx : SimE C ⟨relab scope D.sc, own, none⟩ k kx ek) (hvx : SimE C ⟨relab scope D.sc, own, none⟩ k vx ev) (hs : ∀ env x, foldedSetIterable iter env x = pure x) :
    SimE C D k (.DictComp kx vx [⟨.Name tx tp, iter, [], 0⟩] scope pos) (cDComp it cap as ek ev) := by
  intro ls μ v μ' h W env O A eo ao I F Q hQ
  have c := CapOk.of hc
  unfold cDComp at h
  split at h
  · rename_i mi μ₁ h1
    split at h
    · rename_i n μ₂ h2
      split at h
      · rename_i lc h3
        split at h
        · rename_i μ₃ h4
          (first | exact no_some h | cases h)
          show wpAny _ A (comprehension (.DictComp kx vx [⟨.Name tx tp, iter, [], 0⟩] scope pos) scope env (firstIterPos [⟨.Name tx tp, iter, [], 0⟩] pos) newDict false (eval iter env)) Q NoE W.s
          refine wpAny_comprehension_free (use := none) rfl (hs env) (closureFor_eq scope env (cap_cells eo F c h3)) hk c.loc ?_
          refine comp_hD (RR := fun acc Ca => compPost (model P0 C.w) A NoE none Q acc Ca) B hi hsrc c hk hA hkx hvx h1 h2 h3 h4 eo ao I F fun W' acc Ca x' I' hM hf hns hacc => ?_
          refine ex1_1 hns fun m hm => ?_
          refine ⟨m, hm, fun h' hsb => ?_⟩
          have z := fin_inv (t := W'.s.toks) B I' hM hsb.extBut
          exact hQ _ _ (Ended.ext I x' hf z) z.inv (.loc n acc hacc)
        · (first | exact no_some h | cases h)
      · (first | exact no_some h | cases h)
    · (first | exact no_some h | cases h)
  · (first | exact no_some h | cases h)
theorem sim_setdc {tx : Str} {tp : Pos} {kx vx iter : Expr} {scope : Scope} {pos : Pos} {it : Ei} {cap own : List Nat} {as : As} {ek ev : Ev} {x : Str} (B : Basis C) (nn : Nat) (p pos' : Pos) (hx : nm nn = x) (hn : nn < nmC) (hs' : Sto D nn = true)
    (sw : ∀ env, EnvOk D env → swapsWith (.DictComp kx vx [⟨.Name tx tp, iter, [], 0⟩] scope pos) (some (.Name x p)) pos'.line env = pure true)
    (hi : SimI C D k iter it) (hsrc : SrcOk it (.Name tx tp)) (hc : capOk scope D.sc cap own = true) (hk : scope.kind = .function)
    (hA : SimA C ⟨relab scope D.sc, own, none⟩ (.Name tx tp) as) (hkx : SimE C ⟨relab scope D.sc, own, none⟩ k kx ek) (hvx : SimE C ⟨relab scope D.sc, own, none⟩ k vx ev) (hs : ∀ env x, foldedSetIterable iter env x = pure x) :
    SimS C D k (.Assign [.Name x p] (.DictComp kx vx [⟨.Name tx tp, iter, [], 0⟩] scope pos) pos') (sSet nn (cDComp it cap as ek ev)) := by
  intro ls μ fl ls' μ' h W env O A eo ao I F Q hQ
  subst hx
  have c := CapOk.of hc
  unfold sSet cDComp at h
  split at h
  · rename_i vv μ₀ h0
    (first | exact no_some h | cases h)
    split at h0
    · rename_i mi μ₁ h1
      split at h0
      · rename_i n μ₂ h2
        split at h0
        · rename_i lc h3
          split at h0
          · rename_i μ₃ h4
            (first | exact no_some h0 | cases h0)
            rw [exec_Assign_Name_used _ _ _ _ (sw env eo)]
            refine wpAny_bind (wpAny_standAt (wpAny_bind ?_))
            show wpAny _ A (do let _ ← comprehension (.DictComp kx vx [⟨.Name tx tp, iter, [], 0⟩] scope pos) scope env _ newDict false (eval iter env) (some (assign (.Name (nm nn) p) env))) _ _ W.s
            refine wpAny_bind (wpAny_mono (wpAny_comprehension_free (use := some (assign (.Name (nm nn) p) env)) (Q := fun _ s' => Q .next s') rfl (hs env) (closureFor_eq scope env (cap_cells eo F c h3)) hk c.loc ?_) (fun _ s' hq => wpAny_pure (wpAny_pure hq)) fun _ _ e => e)
            refine comp_hD (RR := fun acc Ca => compPost (model P0 C.w) A NoE (some (assign (.Name (nm nn) p) env)) (fun _ s' => Q .next s') acc Ca) B hi hsrc c hk hA hkx hvx h1 h2 h3 h4 eo ao I F fun W' acc Ca x' I' hM hf hns hacc => ?_
            have F' := F.mono I x'
            have hCO : Ca ∉ O := fun q => by
              refine I.freshME Ca (F.OM Ca q) fun _ o ho _ => ?_
              rw [hf] at ho; (first | exact no_some ho | cases ho)
            refine wpAny_assign_Name (sim_store B eo I' F' hn hs' (.loc n acc hacc) fun W₂ x₂ I₂ F₂ => ?_)
            refine ex1_1 hns fun m hm => ?_
            have hm₂ : W₂.h.Ns Ca m := by
              refine ex3_2 hm fun o es ep ho r => ?_
              exact ⟨o, es, ep, x₂.fr Ca o ho (.inr hM) (I'.freshM Ca hM).2.2 hCO, r⟩
            refine ⟨m, hm₂, fun h' hsb => ?_⟩
            have z := fin_inv (t := W₂.s.toks) B I₂ (x₂.subM Ca hM) hsb.extBut
            have p' : Apart W env O Ca := Apart.of I F hf
            refine ex0_2 (Ended.step I (x'.lift.trans x₂) I₂ F₂ p' (x₂.subM Ca hM) z) fun y F₃ => ?_
            exact hQ _ _ y z.inv F₃ .next
          · (first | exact no_some h0 | cases h0)
        · (first | exact no_some h0 | cases h0)
      · (first | exact no_some h0 | cases h0)
    · (first | exact no_some h0 | cases h0)
  · (first | exact no_some h | cases h)
end
end Mine
end
section
open PySem PySem.W PyProof.Rows PySem.Calls PySem.SeqAt
set_option maxRecDepth 100000
namespace Mine

section
variable {C : Cst} {D : Fd} {k : Nat}
noncomputable def sSetA (g : As) (a : Ev) : Es := fun ls μ => match a ls μ with
  | some (v, μ') => match g v ls with
    | some ls' => some (.next, ls', μ')
    | none => none
  | none => none
theorem sim_setT {tg e : Expr} {g : As} {a : Ev} (pos : Pos) (hg : SimA C D tg g) (ha : SimE C D k e a) (h1 : ∀ env, (assignEach [tg] env).map (·.2) = [assign tg env]) (sw : ∀ env, swapsWithSole [tg] e pos.line env = pure false) (hw : ∀ env, swappedStores [tg] e env = pure none) : SimS C D k (.Assign [tg] e pos) (sSetA g a) := by
  intro ls μ fl ls' μ' h W env O A eo ao I F Q hQ
  unfold sSetA at h
  split at h
  · rename_i v μ₁ ha1
    split at h
    · rename_i ls₁ hg1
      (first | exact no_some h | cases h)
      refine wpAny_Assign_stores (ha ls μ v _ ha1 W env O A eo ao I F _ fun W₁ pv x₁ I₁ V₁ => ?_) (sw env) (hw env)
      rw [h1 env]
      exact hg v ls _ hg1 W₁ _ env O A pv eo ao.hd I₁ (F.mono I x₁) V₁ _ fun W₂ x₂ I₂ F₂ => hQ W₂ _ (x₁.lift.trans x₂) I₂ F₂ .next
    · (first | exact no_some h | cases h)
  · (first | exact no_some h | cases h)
noncomputable def sAug (n : Nat) (a : Ev) : Es := fun ls μ => match look ls n with
  | some (.int i) => match a ls μ with
    | some (.int j, μ') => some (.next, keep ls n (.int (i + j)), μ')
    | _ => none
  | _ => none
theorem sim_load {n : Nat} {v : MV} {W : Wd} {env : Env} {O : List Addr} {A : Around} {ls : Locs} (eo : EnvOk D env) (F : FrOk C W env D.own O ls) (hl : look ls n = some v) (hn : n < nmC) (hv : IsVar D.sc (nm n) = true) {Q : Value → Shared → Prop} (hQ : ∀ pv, VR C.Q W.h W.ρ W.M v pv → Q pv W.s) : wpAny (model P0 C.w) A (loadName env (nm n)) Q NoE W.s := by
  refine ex1_2 (F.vars n v hn hl (by rw [eo.is]; exact hv)) fun pv h1 h2 => ?_
  have hk : env.scope.kind = .function := by rw [eo.is]; exact eo.kind
  cases h2 with
  | loc m h3 h4 h5 => exact wpAny_loadName_local hk h3 h4 h5 (hQ pv h1)
  | cell c h3 h4 h5 => exact wpAny_loadName_cell hk h3 h4 h5 (hQ pv h1)
  | free c h3 h4 h5 => exact wpAny_loadName_free hk h3 h4 h5 (hQ pv h1) (nm_ok hn).2
theorem sim_aug {x : Str} {e : Expr} {a : Ev} (B : Basis C) (n : Nat) (p pos : Pos) (hx : nm n = x) (hn : n < nmC) (hs : Sto D n = true) (hv : IsVar D.sc (nm n) = true) (ha : SimE C D k e a) : SimS C D k (.AugAssign (.Name x p) .Add e pos) (sAug n a) := by
  intro ls μ fl ls' μ' h W env O A eo ao I F Q hQ
  subst hx
  unfold sAug at h
  split at h
  · rename_i i hl
    split at h
    · rename_i j μ₁ ha1
      (first | exact no_some h | cases h)
      refine wpAny_AugAssign_Name (sim_load eo F hl hn hv fun pv V => ?_)
      refine V.intE fun t => ?_
      refine ha ls μ _ _ ha1 W env O A eo ao I F _ fun W₁ pw x₁ I₁ V₁ => ?_
      refine V₁.intE fun u => ?_
      refine AutoIntOps.iadd_0 (show Made.post (.int (i + j)) _ _ from ?_)
      have x₂ := Ext.tok ([] : List Addr) W₁ (W₁.s.toks + 1)
      have I₂ := I₁.tok (W₁.s.toks + 1)
      refine sim_store (W := W₁.at { W₁.s with toks := W₁.s.toks + 1 }) B eo I₂ ((F.mono I x₁).mono I₁ x₂) hn hs (.int _ _) fun W₃ x₃ I₃ F₃ => ?_
      exact hQ W₃ _ ((x₁.trans x₂).lift.trans x₃) I₃ F₃ .next
    · (first | exact no_some h | cases h)
  · (first | exact no_some h | cases h)
end

noncomputable def SimF1 (C : Cst) (fv : Value) (g : List MV → MH → Option (MV × MH)) : Prop :=
  ∀ args μ v μ', g args μ = some (v, μ') → ∀ W vals A, AOk 0 A → Inv C W μ → VRs C.Q W.h W.ρ W.M args vals → ∀ Q, Says C W v μ' Q → wpAny (model P0 C.w) A (call fv vals) Q NoE W.s
noncomputable def Cw (fv : Value) : Prop := (∃ id, fv = .builtin id) ∨ ∃ T, fv = .type T
section
variable {C : Cst} {D : Fd} {k : Nat}
theorem sim_callB {x : Str} {p pos : Pos} {fv : Value} {e : Expr} {es : List Expr} {g : List MV → MH → Option (MV × MH)} {b : El} (hx : Fix C D (.Name x p) fv) (hc : Cw fv) (hg : SimF1 C fv g) (hl : SimL C D k (e :: es) b)
    (he : ∀ env, starEach (e :: es) env = (false, eval e env) :: starEach es env) (hp : ∀ env pos, (backTo pos (starEach es env)).any (·.1) = false) : SimE C D k (.Call (.Name x p) (e :: es) [] pos) (cCall g b) := by
  intro ls μ v μ' h W env O A eo ao I F Q hQ
  unfold cCall at h
  split at h
  · rename_i vs μ₁ h1
    refine wpAny_Call_NameR (hx W μ env A eo I _ ?_)
    rcases hc with ⟨id, rfl⟩ | ⟨T, rfl⟩
    · exact callWith_builtin1 (hl ls μ vs μ₁ h1 W env O A pos eo ao I F _ fun W₁ pvs x₁ I₁ V₁ => hg vs μ₁ v μ' h W₁ pvs A ao.zero I₁ V₁ _ (hQ.step x₁)) (he env) (hp env pos)
    · exact callWith_type1 (hl ls μ vs μ₁ h1 W env O A pos eo ao I F _ fun W₁ pvs x₁ I₁ V₁ => hg vs μ₁ v μ' h W₁ pvs A ao.zero I₁ V₁ _ (hQ.step x₁)) (he env) (hp env pos)
  · (first | exact no_some h | cases h)
noncomputable def bLen : List MV → MH → Option (MV × MH) := fun a μ => match a with
  | [.loc n] => match μ.get n with
    | some (.list l) => bif fits l then some (.int l.length, μ) else none
    | _ => none
  | [.frz l] => bif fits l then some (.int l.length, μ) else none
  | _ => none
theorem sf_len : SimF1 C (.builtin "len") bLen := by
  intro args μ v μ' h W vals A ao I V Q hQ
  unfold bLen at h
  split at h
  · rename_i n
    split at h
    · rename_i l hg
      cases hf : fits l with
      | false => rw [hf] at h; (first | exact no_some h | cases h)
      | true =>
        rw [hf] at h; (first | exact no_some h | cases h)
        refine V.consE fun pv pvs V Vs => ?_
        refine Vs.nilE ?_
        refine V.locE fun a ha => ?_
        refine ex1_2 (I.list ha hg) fun its hL Vs => ?_
        have hlen := Vs.nthD
        have hle := Nat.le_of_ble_eq_true hf
        refine call_len_list hL.isList (by omega) ?_
        rw [← hlen]
        exact hQ.int I _ _
    · (first | exact no_some h | cases h)
  · rename_i l
    cases hf : fits l with
    | false => rw [hf] at h; (first | exact no_some h | cases h)
    | true =>
      rw [hf] at h; (first | exact no_some h | cases h)
      refine V.consE fun pv pvs V Vs => ?_
      refine Vs.nilE ?_
      refine V.frzE fun a its n o e1 e2 e3 hρ hM Vs => ?_
      have hl : W.s.heap.IsList a its := ⟨o, e1, e2, n, e3⟩
      have hlen := Vs.nthD
      have hle := Nat.le_of_ble_eq_true hf
      refine call_len_list hl (by omega) ?_
      rw [← hlen]
      exact hQ.int I _ _
  · (first | exact no_some h | cases h)
noncomputable def absI (i : Int) : Int := match i with
  | .ofNat n => .ofNat n
  | .negSucc n => .ofNat (n + 1)
theorem absI_eq (i : Int) : absI i = if i < 0 then -i else i := by
  cases i with
  | ofNat n => rw [if_neg (show ¬ (Int.ofNat n < 0) by show ¬ ((n : Int) < 0); omega)]; rfl
  | negSucc n => rw [if_pos (show Int.negSucc n < 0 by omega)]; rfl
noncomputable def bAbs : List MV → MH → Option (MV × MH) := fun a μ => match a with
  | [.int i] => some (.int (absI i), μ)
  | _ => none
theorem sf_abs : SimF1 C (.builtin "abs") bAbs := by
  intro args μ v μ' h W vals A ao I V Q hQ
  unfold bAbs at h
  split at h
  · rename_i i
    (first | exact no_some h | cases h)
    refine V.consE fun pv pvs V Vs => ?_
    refine Vs.nilE ?_
    refine V.intE fun t => ?_
    refine call_abs_int fun u tk => ?_
    rw [absI_eq] at hQ
    exact hQ.int I u tk
  · (first | exact no_some h | cases h)
noncomputable def bIsTup : List MV → MH → Option (MV × MH) := fun a μ => match a with
  | [.tup _, .ty .tuple] => some (.bool true, μ)
  | _ => none
theorem sf_istup : SimF1 C (.builtin "isinstance") bIsTup := by
  intro args μ v μ' h W vals A ao I V Q hQ
  unfold bIsTup at h
  split at h
  · (first | exact no_some h | cases h)
    refine V.consE fun pv pvs V Vs => ?_
    refine Vs.consE fun pw pws V' Vs' => ?_
    cases Vs'
    cases V' with
    | ty k =>
      refine V.tupE fun a its n ho hρ hM Vs => ?_
      exact IsiPair.tuple_tuple ho rfl (hQ.bool I)
  · (first | exact no_some h | cases h)
noncomputable def digs : Nat → Nat → List Nat → List Nat
  | 0, _, acc => acc
  | f + 1, n, acc => bif Nat.blt n 10 then (48 + n) :: acc else digs f (n / 10) ((48 + n % 10) :: acc)
noncomputable def bStr : List MV → MH → Option (MV × MH) := fun a μ => match a with
  | [.int (.ofNat n)] => bif Nat.blt n 100 then some (.str (digs 3 n []), μ) else none
  | _ => none
theorem digs_ok : ((List.range 100).all fun n => decide ((Str.ofString (toString ((n : Nat) : Int))).cps.toList = digs 3 n [])) = true := by decide +kernel
theorem sf_str : SimF1 C (.type "str") bStr := by
  intro args μ v μ' h W vals A ao I V Q hQ
  unfold bStr at h
  split at h
  · rename_i n
    cases hb : Nat.blt n 100 with
    | false => rw [hb] at h; (first | exact no_some h | cases h)
    | true =>
      rw [hb] at h; (first | exact no_some h | cases h)
      have hn : n < 100 := Nat.le_of_ble_eq_true hb
      refine V.consE fun pv pvs V Vs => ?_
      refine Vs.nilE ?_
      refine V.intE fun t => ?_
      have := of_decide_eq_true (List.all_eq_true.mp digs_ok n (List.mem_range.mpr hn))
      refine P.str_of_int ?_ (hQ.str I this _ _)
      show n.log2 < 1920
      by_cases z : n = 0
      · subst z; decide
      · exact Nat.lt_of_lt_of_le ((Nat.log2_lt z).mpr (show n < 2 ^ 7 by omega)) (by decide)
  · (first | exact no_some h | cases h)
end
end Mine
end
section
open PySem PySem.W PyProof.Rows PySem.Calls PySem.SeqAt
set_option maxRecDepth 100000
namespace Mine

noncomputable def oEq : Op2 := fun x y μ => match x, y with
  | .int a, .int b => some (.bool (eqI a b), μ)
  | .str a, .str b => some (.bool (eqL a b), μ)
  | _, _ => none
noncomputable def oNe : Op2 := fun x y μ => match x, y with
  | .str a, .str b => some (.bool (!eqL a b), μ)
  | .tup a, .tup b => bif Nat.beq a.length b.length then bif deqs 200 a b μ then some (.bool false, μ) else none else none
  | .loc m, .loc n => match μ.get m, μ.get n with
    | some (.list a), some (.list b) => bif Nat.beq a.length b.length then bif deqs 200 a b μ then some (.bool false, μ) else none else some (.bool true, μ)
    | _, _ => none
  | _, _ => none
noncomputable def memC : List Nat → Nat → Bool
  | [], _ => false
  | a :: r, c => bif Nat.beq a c then true else memC r c
noncomputable def letter (c : Nat) : Bool := (Nat.ble 65 c && Nat.ble c 73) || (Nat.ble 97 c && Nat.ble c 105)
noncomputable def upABC : List Nat := [65, 66, 67, 68, 69, 70, 71, 72, 73]
noncomputable def oIn : Op2 := fun x y μ => match x, y with
  | .int k, .loc n => match μ.get n with
    | some (.dict es) => some (.bool (match dget es k with | some _ => true | none => false), μ)
    | _ => none
  | .str [c], .str l => bif eqL l upABC then bif letter c then some (.bool (memC upABC c), μ) else none else none
  | _, _ => none
noncomputable def oIs : Op2 := fun x y μ => match x, y with
  | .ty a, .ty b => bif decide (a = b) then some (.bool true, μ) else none
  | _, _ => none
noncomputable def oIsNot : Op2 := fun x y μ => match x, y with
  | .ty a, .ty b => bif decide (a = b) then some (.bool false, μ) else none
  | .none, .none => some (.bool false, μ)
  | _, _ => none
section
variable {C : Cst}
theorem eqL_sym (a b : List Nat) : eqL a b = (a == b) := by rw [eqL_eq]; by_cases h : a = b <;> simp [h]
theorem sc_eq : SimC C .Eq oEq := by
  intro x y μ v μ' h W px py A hA I Vx Vy Q hQ
  unfold oEq at h
  split at h
  · (first | exact no_some h | cases h); refine Vx.intE fun _ => ?_; refine Vy.intE fun _ => ?_; refine eq_int ?_; rw [← eqI_eq]; exact hQ.bool I
  · (first | exact no_some h | cases h)
    refine Vx.strE fun s t hs => ?_
    refine Vy.strE fun s' t' hs' => ?_
    refine P.eq_str ?_
    rw [hs, hs', ← eqL_sym]
    exact hQ.bool I
  · (first | exact no_some h | cases h)
theorem sc_ne : SimC C .NotEq oNe := by
  intro x y μ v μ' h W px py A hA I Vx Vy Q hQ
  have hu := hA.un
  have hcl : cLine = 9900 := rfl
  unfold oNe at h
  split at h
  · (first | exact no_some h | cases h)
    refine Vx.strE fun s t hs => ?_
    refine Vy.strE fun s' t' hs' => ?_
    refine P.ne_str ?_
    rw [hs, hs']
    have := hQ.bool I
    rw [eqL_sym] at this
    exact this
  · rename_i a b
    cases q1 : Nat.beq a.length b.length with
    | false => rw [q1] at h; (first | exact no_some h | cases h)
    | true =>
      cases q2 : deqs 200 a b μ with
      | false => rw [q1, q2] at h; (first | exact no_some h | cases h)
      | true =>
        rw [q1, q2] at h; (first | exact no_some h | cases h)
        refine Vx.tupE fun ax its n ho hρ hM Vs => ?_
        refine Vy.tupE fun bx its2 n2 ho2 hρ2 hM2 Vs2 => ?_
        refine ex0_2 (deqs_ok (f := 200) (fun g _ => deq_ok g) 200 (by omega) a b q2 A.in1 (by show A.units + 1 + 4 * 200 < cLine; omega) I _ _ Vs Vs2) fun hl he => ?_
        have hsz : its.size = its2.size := by simpa using hl
        refine RcNeAt.tuples (A := A) (s := W.s) (e := fun _ => true) ⟨_, ho, rfl, n, rfl⟩ ⟨_, ho2, rfl, n2, rfl⟩ (by omega) (fun j h1 h2 => by have := he j (by simpa using h1) (by simpa using h2); simpa using this) _ _ _ _ ?_
        rw [all_true, hsz, beq_self_eq_true]
        exact hQ.bool I
  · rename_i m n
    split at h
    · rename_i a b hm hn
      refine Vx.locE fun ax ha => ?_
      refine Vy.locE fun bx hb => ?_
      refine ex1_2 (I.list ha hm) fun its hl Vs => ?_
      refine ex1_2 (I.list hb hn) fun its2 hl2 Vs2 => ?_
      have z1 := Vs.nthD; have z2 := Vs2.nthD
      cases q1 : Nat.beq a.length b.length with
      | false =>
        rw [q1] at h; (first | exact no_some h | cases h)
        have := Nat.ne_of_beq_eq_false q1
        exact RcNeAt.lists_lengths (A := A) hl.isList hl2.isList (by rw [← z1, ← z2]; simpa using this) (by omega) _ _ _ _ (hQ.bool I)
      | true =>
        cases q2 : deqs 200 a b μ with
        | false => rw [q1, q2] at h; (first | exact no_some h | cases h)
        | true =>
          rw [q1, q2] at h; (first | exact no_some h | cases h)
          refine ex0_2 (deqs_ok (f := 200) (fun g _ => deq_ok g) 200 (by omega) a b q2 A.in1 (by show A.units + 1 + 4 * 200 < cLine; omega) I _ _ Vs Vs2) fun hll he => ?_
          have hsz : its.size = its2.size := by simpa using hll
          refine RcNeAt.lists (A := A) (s := W.s) (e := fun _ => true) hl.isList hl2.isList hsz (by omega) (fun j h1 h2 => by have := he j (by simpa using h1) (by simpa using h2); simpa using this) _ _ _ _ ?_
          rw [all_true]
          exact hQ.bool I
    · (first | exact no_some h | cases h)
  · (first | exact no_some h | cases h)
end
end Mine
end
section
open PySem PySem.W PyProof.Rows PySem.Calls PySem.SeqAt
set_option maxRecDepth 100000
namespace Mine

theorem upABC_in : ((List.range 128).all fun c => !letter c || (decide ((!(Builtin.Str.occurrences ⟨upABC.toArray⟩ ⟨#[c]⟩ 0 9 1).isEmpty) = memC upABC c))) = true := by decide +kernel
section
variable {C : Cst} {D : Fd} {k : Nat}
theorem str_of {s : Str} {l : List Nat} (h : s.cps.toList = l) : s = ⟨l.toArray⟩ := by
  obtain ⟨a⟩ := s
  simp only at h
  subst h; simp
theorem letter_lt {c : Nat} (h : letter c = true) : c < 128 := by
  unfold letter at h
  simp only [Bool.or_eq_true, Bool.and_eq_true] at h
  rcases h with ⟨_, h⟩ | ⟨_, h⟩ <;> have := Nat.le_of_ble_eq_true h <;> omega
theorem sc_in : SimC C .In oIn := by
  intro x y μ v μ' h W px py A hA I Vx Vy Q hQ
  unfold oIn at h
  split at h
  · rename_i kk n
    split at h
    · rename_i es hg
      (first | exact no_some h | cases h)
      refine Vx.intE fun t => ?_
      refine Vy.locE fun d hd => ?_
      refine ex1_2 (I.dict hd hg) fun kvs hD hr => ?_
      refine wpAny_in_of (knd := ik C) (k := kk) (by simp [intKind, Value.isInt]) (keyNe I (List.mem_of_getElem? hd)) hD.dictOf.mapOf ?_
      have e : (valueAt kvs kk).isSome = (match dget es kk with | some _ => true | none => false) := by
        cases q : dget es kk with
        | none => rw [(hr.get kk).2 q]; rfl
        | some v => refine ex1_2 ((hr.get kk).1 v q) fun pv h1 _ => ?_; rw [h1]; rfl
      rw [e]
      exact hQ.keep I (s' := { W.s with toks := W.s.toks + 1 }) (fun _ _ h => h) rfl rfl (.bool _)
    · (first | exact no_some h | cases h)
  · rename_i c l
    cases q1 : eqL l upABC with
    | false => rw [q1] at h; (first | exact no_some h | cases h)
    | true =>
      cases q2 : letter c with
      | false => rw [q1, q2] at h; (first | exact no_some h | cases h)
      | true =>
        rw [q1, q2] at h; (first | exact no_some h | cases h)
        have e1 : l = upABC := by rw [eqL_eq] at q1; exact of_decide_eq_true q1
        refine Vx.strE fun s t hs => ?_
        refine Vy.strE fun s' t' hs' => ?_
        refine PySem.P.in_str ?_
        rw [str_of hs, str_of (hs'.trans e1)]
        have := List.all_eq_true.mp upABC_in c (List.mem_range.mpr (letter_lt q2))
        rw [q2, Bool.not_true, Bool.false_or] at this
        have := of_decide_eq_true this
        show Q (.bool (!(Builtin.Str.occurrences ⟨upABC.toArray⟩ ⟨#[c]⟩ 0 9 1).isEmpty)) W.s
        rw [this]
        exact hQ.bool I
  · (first | exact no_some h | cases h)
theorem sc_is : SimC C .Is oIs := by
  intro x y μ v μ' h W px py A hA I Vx Vy Q hQ
  unfold oIs at h
  split at h
  · rename_i a b
    by_cases e : a = b
    · rw [decide_eq_true e] at h; (first | exact no_some h | cases h)
      subst e
      refine Vx.tyE ?_; refine Vy.tyE ?_
      exact wpAny_is_self rfl (hQ.bool I)
    · rw [decide_eq_false e] at h; (first | exact no_some h | cases h)
  · (first | exact no_some h | cases h)
theorem sc_isnot : SimC C .IsNot oIsNot := by
  intro x y μ v μ' h W px py A hA I Vx Vy Q hQ
  unfold oIsNot at h
  split at h
  · rename_i a b
    by_cases e : a = b
    · rw [decide_eq_true e] at h; (first | exact no_some h | cases h)
      subst e
      refine Vx.tyE ?_; refine Vy.tyE ?_
      exact wpAny_isNot_self rfl (hQ.bool I)
    · rw [decide_eq_false e] at h; (first | exact no_some h | cases h)
  · (first | exact no_some h | cases h)
    refine Vx.noneE ?_; refine Vy.noneE ?_
    exact wpAny_isNot_self rfl (hQ.bool I)
  · (first | exact no_some h | cases h)
noncomputable def cNeg (a : Ev) : Ev := fun ls μ => match a ls μ with
  | some (.int i, μ') => some (.int (-i), μ')
  | _ => none
theorem sim_neg {e : Expr} {a : Ev} (pos : Pos) (ha : SimE C D k e a) : SimE C D k (.UnaryOp .USub e pos) (cNeg a) := by
  intro ls μ v μ' h W env O A eo ao I F Q hQ
  unfold cNeg at h
  split at h
  · rename_i i μ₁ h1
    (first | exact no_some h | cases h)
    refine UnaryOp_ (ha ls μ _ _ h1 W env O A eo ao I F _ fun W₁ pv x₁ I₁ V₁ => ?_)
    refine V₁.intE fun t => ?_
    exact neg_int ((hQ.step x₁).int I₁ _ _)
  · (first | exact no_some h | cases h)
noncomputable def cAnd (a b : Ev) : Ev := fun ls μ => match a ls μ with
  | some (.bool true, μ') => b ls μ'
  | some (.bool false, μ') => some (.bool false, μ')
  | _ => none
theorem sim_and {e₁ e₂ : Expr} {r : List Expr} {a b : Ev} (pos : Pos) (ha : SimE C D k e₁ a) (hb : SimE C D k (.BoolOp .And (e₂ :: r) pos) b) : SimE C D k (.BoolOp .And (e₁ :: e₂ :: r) pos) (cAnd a b) := by
  intro ls μ v μ' h W env O A eo ao I F Q hQ
  unfold cAnd at h
  split at h
  · rename_i μ₁ h1
    refine BoolOp_and (ha ls μ _ _ h1 W env O A eo ao I F _ fun W₁ pv x₁ I₁ V₁ => ?_)
    refine V₁.boolE ?_
    refine wpAny_truthy_bool ?_
    rw [if_pos rfl]
    exact hb ls μ₁ v μ' h W₁ env O A eo ao I₁ (F.mono I x₁) Q (hQ.step x₁)
  · rename_i μ₁ h1
    (first | exact no_some h | cases h)
    refine BoolOp_and (ha ls μ _ _ h1 W env O A eo ao I F _ fun W₁ pv x₁ I₁ V₁ => ?_)
    refine V₁.boolE ?_
    refine wpAny_truthy_bool ?_
    rw [if_neg (by decide)]
    exact (hQ.step x₁).bool I₁
  · (first | exact no_some h | cases h)
theorem sim_one {e : Expr} {op : BoolOp} {a : Ev} (pos : Pos) (ha : SimE C D k e a) : SimE C D k (.BoolOp op [e] pos) a := by
  intro ls μ v μ' h W env O A eo ao I F Q hQ
  exact BoolOp_one (ha ls μ v μ' h W env O A eo ao I F Q hQ)
theorem simt_none (pos : Pos) : SimT C D k (.BoolOp .Or [] pos) tNo := by
  intro ls μ b μ' h W env O A eo ao I F Q hQ
  (first | exact no_some h | cases h)
  exact isTrue_or_nil (hQ W (Ext.refl _ _) I)
end

inductive KT where
  | list | dict | str
noncomputable def KT.ty : KT → String
  | .list => "list" | .dict => "dict" | .str => "str"
noncomputable def isKT : KT → MV → MH → Bool
  | .list, .loc n, μ => match μ.get n with
    | some (.list _) => true
    | _ => false
  | .dict, .loc n, μ => match μ.get n with
    | some (.dict _) => true
    | _ => false
  | .str, .str _, _ => true
  | _, _, _ => false
theorem isKT_ok {C : Cst} {W : Wd} {μ : MH} (I : Inv C W μ) {kt : KT} {v : MV} {pv : Value} (h : isKT kt v μ = true) (V : VR C.Q W.h W.ρ W.M v pv) : W.s.TypeIs pv kt.ty ∧ ∀ a, pv = .ref a → ∃ ob, W.s.heap.get? a = some ob ∧ ob.dict = none := by
  unfold isKT at h
  split at h
  · split at h
    · rename_i l hg
      refine V.locE fun a ha => ?_
      refine ex1_2 (I.list ha hg) fun its hL _ => ?_; refine ex1_1 hL fun c hL => ?_
      exact ⟨⟨_, hL, rfl⟩, fun b e => by cases e; exact ⟨_, hL, rfl⟩⟩
    · (first | exact no_some h | cases h)
  · split at h
    · rename_i es hg
      refine V.locE fun a ha => ?_
      obtain ⟨kvs, ⟨o, es', ho, hx, r⟩, _⟩ := I.dict ha hg
      exact ⟨⟨_, ho, hx.1⟩, fun b e => by cases e; exact ⟨_, ho, hx.2.1⟩⟩
    · (first | exact no_some h | cases h)
  · refine V.strE fun s t hs => ?_
    exact ⟨typeIs_str W.s s t, fun b e => nomatch e⟩
  · (first | exact no_some h | cases h)
noncomputable def cMeth (kt : KT) (a : Ev) (b : El) (g : List MV → MH → Option (MV × MH)) : Ev := fun ls μ => match a ls μ with
  | some (x, μ₁) => bif isKT kt x μ₁ then match b ls μ₁ with
    | some (vs, μ₂) => g (x :: vs) μ₂
    | none => none else none
  | none => none
section
variable {C : Cst} {D : Fd} {k : Nat}
theorem sim_meth1 {kt : KT} {id : String} {o e : Expr} {es : List Expr} {name : Str} {apos pos : Pos} {a : Ev} {b : El} {g : List MV → MH → Option (MV × MH)} (pa : PlainAttrs kt.ty) (slot : Slot kt.ty name id) (hty : typeOf (.builtin id) = pure (.type "method_descriptor"))
    (ho : SimE C D k o a) (hl : SimL C D k (e :: es) b) (hg : SimF1 C (.builtin id) g) (hbase : ∀ env, attributeBase o name env (eval o env) = eval o env)
    (hfew : ∀ env, ((backTo pos (starEach (e :: es) env)).all (fun x => !x.1) && (backToKw pos (keywordEach [] env)).all (fun x => x.1.isSome) && decide ((e :: es).length + ([] : List Keyword).length + (if ([] : List Keyword).isEmpty then 0 else 1) < 30)) = true)
    (hline : (apos.endLine == pos.line) = true) (he : ∀ env, starEach (e :: es) env = (false, eval e env) :: starEach es env) (hp : ∀ env pos, (backTo pos (starEach (e :: es) env)).any (·.1) = false) :
    SimE C D k (.Call (.Attribute o name apos) (e :: es) [] pos) (cMeth kt a b g) := by
  intro ls μ v μ' h W env O A eo ao I F Q hQ
  unfold cMeth at h
  split at h
  · rename_i x μ₁ h1
    cases hk : isKT kt x μ₁ with
    | false => rw [hk] at h; (first | exact no_some h | cases h)
    | true =>
      rw [hk, cond_true] at h
      split at h
      · rename_i vs μ₂ h2
        refine wpAny_Call_method_late (hbase env) (hfew env) hline rfl (ho ls μ x μ₁ h1 W env O A eo ao I F _ fun W₁ pv x₁ I₁ V₁ => ?_)
        refine ex0_2 (isKT_ok I₁ hk V₁) fun q1 q2 => ?_
        refine ⟨kt.ty, id, pa, slot, hty, q1, q2, ?_⟩
        refine callWith_builtin (hp env pos) ?_
        have key := hl ls μ₁ vs μ₂ h2 W₁ env O A pos eo ao I₁ (F.mono I x₁) (fun pvs s₁ => wpAny (model P0 C.w) A (call (.builtin id) (pv :: pvs)) Q NoE s₁) fun W₂ pvs x₂ I₂ V₂ =>
          hg (x :: vs) μ₂ v μ' h W₂ (pv :: pvs) A ao.zero I₂ (.cons _ _ _ _ (VR.mono x₂ (fun _ h => nomatch h) V₁) V₂) Q ((hQ.step x₁).step x₂)
        rw [he env] at key ⊢
        exact evalArgs_plain key
      · (first | exact no_some h | cases h)
  · (first | exact no_some h | cases h)
theorem sim_meth0 {kt : KT} {id : String} {o : Expr} {name : Str} {apos pos : Pos} {a : Ev} {g : List MV → MH → Option (MV × MH)} (pa : PlainAttrs kt.ty) (slot : Slot kt.ty name id) (hty : typeOf (.builtin id) = pure (.type "method_descriptor"))
    (ho : SimE C D k o a) (hg : SimF1 C (.builtin id) g) (hbase : ∀ env, attributeBase o name env (eval o env) = eval o env) (hline : (apos.endLine == pos.line) = true) :
    SimE C D k (.Call (.Attribute o name apos) [] [] pos) (cMeth kt a lNil g) := by
  intro ls μ v μ' h W env O A eo ao I F Q hQ
  unfold cMeth lNil at h
  split at h
  · rename_i x μ₁ h1
    cases hk : isKT kt x μ₁ with
    | false => rw [hk] at h; (first | exact no_some h | cases h)
    | true =>
      rw [hk, cond_true] at h
      simp only at h
      refine wpAny_Call_method0_late (hbase env) hline (ho ls μ x μ₁ h1 W env O A eo ao I F _ fun W₁ pv x₁ I₁ V₁ => ?_)
      refine ex0_2 (isKT_ok I₁ hk V₁) fun q1 q2 => ?_
      refine ⟨kt.ty, id, pa, slot, hty, q1, q2, ?_⟩
      refine callWith_builtin rfl (evalArgs_nil3 ?_)
      exact hg [x] μ₁ v μ' h W₁ [pv] A ao.zero I₁ (.cons _ _ _ _ V₁ .nil) Q (hQ.step x₁)
  · (first | exact no_some h | cases h)
end
end Mine
end
section
open PySem PySem.W PyProof.Rows PySem.Calls PySem.SeqAt
set_option maxRecDepth 100000
namespace Mine

noncomputable def intsOf : List MV → Option (List Int)
  | [] => some []
  | .int i :: r => match intsOf r with
    | some l => some (i :: l)
    | none => none
  | _ => none
theorem ints_are {Q : Int} {h : Heap} {ρ M : List Addr} : ∀ {l : List MV} {ns : List Int} {vs : List Value}, intsOf l = some ns → VRs Q h ρ M l vs → IntsAre vs ns
  | [], ns, vs, e, V => by cases e; refine V.nilE ?_; exact .nil
  | m :: r, ns, vs, e, V => by
    unfold intsOf at e
    split at e
    · rename_i h0; (first | exact no_some h0 | cases h0)
    · rename_i i r' h0
      (first | exact no_some h0 | cases h0)
      split at e
      · rename_i l hl
        cases e
        refine V.consE fun pv pvs V Vs => ?_
        refine V.intE fun t => ?_
        exact .cons i t (ints_are hl Vs)
      · cases e
    · cases e
theorem VRs.ints {Q : Int} {h : Heap} {ρ M : List Addr} {vs : List Value} {ns : List Int} (H : IntsAre vs ns) : VRs Q h ρ M (ns.map .int) vs := by
  induction H with
  | nil => exact .nil
  | cons n t _ ih => exact .cons _ _ _ _ (.int n t) ih
section
variable {C : Cst}
noncomputable def mAppend : List MV → MH → Option (MV × MH) := fun a μ => match a with
  | [.loc n, x] => match μ.get n with
    | some (.list l) => bif fits l then some (.none, μ.put n (.list (l ++ [x]))) else none
    | _ => none
  | _ => none
theorem sf_append (B : Basis C) : SimF1 C (.builtin "list.append") mAppend := by
  intro args μ v μ' h W vals A ao I V Q hQ
  unfold mAppend at h
  split at h
  · rename_i n x
    split at h
    · rename_i l hg
      cases hf : fits l with
      | false => rw [hf] at h; (first | exact no_some h | cases h)
      | true =>
        rw [hf] at h; (first | exact no_some h | cases h)
        refine V.consE fun pv pvs V Vs => ?_
        refine Vs.consE fun px pxs Vx Vs => ?_
        refine Vs.nilE ?_
        refine V.locE fun a ha => ?_
        refine ex1_2 (I.list ha hg) fun its hL Vl => ?_
        have hsz : its.size ≤ sizeLine := by have := fits_le hf Vl; simpa using this
        refine wpAny_list_append_plain hL (fun h' hL' hs => ?_) hsz
        refine ex1_1 (id hL') fun c hob => ?_
        obtain ⟨x₂, I₂⟩ := put_step (s' := { W.s with heap := h' }) (o := .list (l ++ [x])) B I hg ha hs hob rfl rfl fun y => ⟨_, hL', by
          rw [Array.toList_push]
          exact VRs.append (VRs.mono y (fun _ h => nomatch h) Vl) (.cons _ _ _ _ (VR.mono y (fun _ h => nomatch h) Vx) .nil)⟩
        exact hQ _ _ x₂ I₂ .none
    · (first | exact no_some h | cases h)
  · (first | exact no_some h | cases h)
noncomputable def mExtend : List MV → MH → Option (MV × MH) := fun a μ => match a with
  | [.loc n, .loc m] => match μ.get n, μ.get m with
    | some (.list l), some (.list r) => bif fits l then bif fits r then some (.none, μ.put n (.list (l ++ r))) else none else none
    | _, _ => none
  | _ => none
theorem sf_extend (B : Basis C) : SimF1 C (.builtin "list.extend") mExtend := by
  intro args μ v μ' h W vals A ao I V Q hQ
  unfold mExtend at h
  split at h
  · rename_i n m
    split at h
    · rename_i l r hg hm
      cases hf : fits l with
      | false => rw [hf] at h; (first | exact no_some h | cases h)
      | true =>
        cases hf2 : fits r with
        | false => rw [hf, hf2] at h; (first | exact no_some h | cases h)
        | true =>
          rw [hf, hf2] at h; (first | exact no_some h | cases h)
          refine V.consE fun pv pvs V Vs => ?_
          refine Vs.consE fun px pxs Vx Vs => ?_
          refine Vs.nilE ?_
          refine V.locE fun a ha => ?_
          refine Vx.locE fun b hb => ?_
          refine ex1_2 (I.list ha hg) fun its hL Vl => ?_; refine ex1_1 hL fun c hL => ?_
          refine ex1_2 (I.list hb hm) fun its2 hL2 Vr => ?_; refine ex1_1 hL2 fun c2 hL2 => ?_
          have l1 := Vl.nthD; have l2 := Vr.nthD
          have m1 := Nat.le_of_ble_eq_true hf; have m2 := Nat.le_of_ble_eq_true hf2
          refine call_meets PySem.F.slot_list_extend ⟨_, hL, rfl⟩ PySem.F.entry_list_extend (PySem.F.args_list_extend_2 _ _) (AutoSeq1.list_extend_list_list_0 a its c b its2 c2 (by simp [Builtin.List.listTooLong, sizeLine]; omega) (by rw [sizeLine_eq]; omega) (by rw [sizeLine_eq]; omega)) ⟨hL, hL2, ?_⟩
          have hup : (W.s.heap.update a (Obj.mapSeq fun xs => xs ++ its2)).get? a = _ := IsL.update hL (fun xs => xs ++ its2)
          obtain ⟨x₂, I₂⟩ := put_step (s' := { W.s with heap := W.s.heap.update a (Obj.mapSeq fun xs => xs ++ its2) }) (o := .list (l ++ r)) B I hg ha (Heap.SameBut.update ..) hup rfl rfl fun y => ⟨_, ⟨_, hup⟩, by
            rw [Array.toList_append]
            exact VRs.append (VRs.mono y (fun _ h => nomatch h) Vl) (VRs.mono y (fun _ h => nomatch h) Vr)⟩
          exact hQ _ _ x₂ I₂ .none
    · (first | exact no_some h | cases h)
  · (first | exact no_some h | cases h)
noncomputable def idxI : List Int → Int → Nat → Option Nat
  | [], _, _ => none
  | a :: r, k, n => bif eqI a k then some n else idxI r k (n + 1)
theorem idxI_spec : ∀ (l : List Int) (k : Int) (n j : Nat), idxI l k n = some j → k ∈ l ∧ j = n + l.idxOf k
  | [], _, _, _, h => by (first | exact no_some h | cases h)
  | a :: r, k, n, j, h => by
    unfold idxI at h
    cases e : eqI a k with
    | true =>
      rw [e] at h; (first | exact no_some h | cases h)
      have := eqI_iff.mp e
      subst this
      exact ⟨.head _, by simp⟩
    | false =>
      rw [e] at h
      refine ex0_2 (idxI_spec r k (n + 1) j h) fun h1 h2 => ?_
      refine ⟨.tail _ h1, ?_⟩
      rw [List.idxOf_cons, show (a == k) = false from by simpa using eqI_ne e]
      simp only [cond_false]
      omega
noncomputable def mIndex : List MV → MH → Option (MV × MH) := fun a μ => match a with
  | [.loc n, .int k] => match μ.get n with
    | some (.list l) => bif Nat.ble l.length 64 then match intsOf l with
      | some ns => bif PyData.layable0 (.list (ns.map .int)) then match idxI ns k 0 with
        | some j => some (.int (j : Nat), μ)
        | none => none else none
      | none => none else none
    | _ => none
  | _ => none
theorem sf_index : SimF1 C (.builtin "list.index") mIndex := by
  intro args μ v μ' h W vals A ao I V Q hQ
  unfold mIndex at h
  split at h
  · rename_i n kk
    split at h
    · rename_i l hg
      cases hf : Nat.ble l.length 64 with
      | false => rw [hf] at h; (first | exact no_some h | cases h)
      | true =>
        rw [hf, cond_true] at h
        split at h
        · rename_i ns hns
          cases hlay : PyData.layable0 (.list (ns.map .int)) with
          | false => rw [hlay] at h; (first | exact no_some h | cases h)
          | true =>
            rw [hlay, cond_true] at h
            split at h
            · rename_i j hj
              (first | exact no_some h | cases h)
              refine V.consE fun pv pvs V Vs => ?_
              refine Vs.consE fun px pxs Vx Vs => ?_
              refine Vs.nilE ?_
              refine V.locE fun a ha => ?_
              refine Vx.intE fun t => ?_
              refine ex1_2 (I.list ha hg) fun its hL Vl => ?_
              refine ex0_2 (idxI_spec ns kk 0 j hj) fun h1 h2 => ?_
              refine index_list_ints (vs := its.toList) (by rw [Array.toArray_toList]; exact hL.isList) (ints_are hns Vl) hlay h1 ?_
              rw [show ns.idxOf kk = j from by omega]
              exact hQ.int I _ _
            · (first | exact no_some h | cases h)
        · (first | exact no_some h | cases h)
    · (first | exact no_some h | cases h)
  · (first | exact no_some h | cases h)
noncomputable def mGet : List MV → MH → Option (MV × MH) := fun a μ => match a with
  | [.loc n, .int k, d] => match μ.get n with
    | some (.dict es) => match dget es k with
      | some v => some (v, μ)
      | none => some (d, μ)
    | _ => none
  | _ => none
theorem sf_get : SimF1 C (.builtin "dict.get") mGet := by
  intro args μ v μ' h W vals A ao I V Q hQ
  unfold mGet at h
  split at h
  · rename_i n kk d
    split at h
    · rename_i es hg
      refine V.consE fun pv pvs V Vs => ?_
      refine Vs.consE fun px pxs Vx Vs => ?_
      refine Vs.consE fun pd pds Vd Vs => ?_
      refine Vs.nilE ?_
      refine V.locE fun a ha => ?_
      refine Vx.intE fun t => ?_
      refine ex1_2 (I.dict ha hg) fun kvs hD hr => ?_
      refine call_meetsIn PySem.F.slot_dict_get hD.dictOf.typeIs PySem.F.entry_dict_get (PySem.F.args_dict_get_3 _ _ _) (meets_dict_get_default (ik C) a (k := kk) (by simp [intKind, Value.isInt]) (keyNe I (List.mem_of_getElem? ha)) pd) ⟨_, hD.dictOf.mapOf, ?_⟩
      split at h
      · rename_i v' hv
        (first | exact no_some h | cases h)
        refine ex1_2 ((hr.get kk).1 _ hv) fun pw h1 h2 => ?_
        rw [h1]
        exact hQ.keep I (s' := { W.s with toks := W.s.toks + 1 }) (fun _ _ h => h) rfl rfl h2
      · rename_i hv
        (first | exact no_some h | cases h)
        rw [(hr.get kk).2 hv]
        exact hQ.keep I (s' := { W.s with toks := W.s.toks + 1 }) (fun _ _ h => h) rfl rfl Vd
    · (first | exact no_some h | cases h)
  · (first | exact no_some h | cases h)
noncomputable def lowC (c : Nat) : Nat := bif Nat.ble c 73 then c + 32 else c
noncomputable def upC (c : Nat) : Nat := bif Nat.ble c 73 then c else c - 32
theorem low_ok : ((List.range 128).all fun c => !letter c || (decide ((Txt.lower ⟨#[c]⟩).cps.toList = [lowC c] ∧ (Txt.upper ⟨#[c]⟩).cps.toList = [upC c]))) = true := by decide +kernel
noncomputable def mLower : List MV → MH → Option (MV × MH) := fun a μ => match a with
  | [.str [c]] => bif letter c then some (.str [lowC c], μ) else none
  | _ => none
noncomputable def mUpper : List MV → MH → Option (MV × MH) := fun a μ => match a with
  | [.str [c]] => bif letter c then some (.str [upC c], μ) else none
  | _ => none
theorem one_str {s : Str} {c : Nat} (h : s.cps.toList = [c]) : s = ⟨#[c]⟩ := by rw [str_of h]
theorem sf_lower : SimF1 C (.builtin "str.lower") mLower := by
  intro args μ v μ' h W vals A ao I V Q hQ
  unfold mLower at h
  split at h
  · rename_i c
    cases hl : letter c with
    | false => rw [hl] at h; (first | exact no_some h | cases h)
    | true =>
      rw [hl] at h; (first | exact no_some h | cases h)
      have q := List.all_eq_true.mp low_ok c (List.mem_range.mpr (letter_lt hl))
      rw [hl, Bool.not_true, Bool.false_or] at q
      have q := of_decide_eq_true q
      refine V.consE fun pv pvs V Vs => ?_
      refine Vs.nilE ?_
      refine V.strE fun s t hs => ?_
      rw [one_str hs]
      exact SC.lower (by rw [show (Txt.lower ⟨#[c]⟩).length = 1 from by have := congrArg List.length q.1; simpa [Str.length] using this]; decide) (hQ.str I q.1 _ _)
  · (first | exact no_some h | cases h)
theorem sf_upper : SimF1 C (.builtin "str.upper") mUpper := by
  intro args μ v μ' h W vals A ao I V Q hQ
  unfold mUpper at h
  split at h
  · rename_i c
    cases hl : letter c with
    | false => rw [hl] at h; (first | exact no_some h | cases h)
    | true =>
      rw [hl] at h; (first | exact no_some h | cases h)
      have q := List.all_eq_true.mp low_ok c (List.mem_range.mpr (letter_lt hl))
      rw [hl, Bool.not_true, Bool.false_or] at q
      have q := of_decide_eq_true q
      refine V.consE fun pv pvs V Vs => ?_
      refine Vs.nilE ?_
      refine V.strE fun s t hs => ?_
      rw [one_str hs]
      exact SC.upper (by rw [show (Txt.upper ⟨#[c]⟩).length = 1 from by have := congrArg List.length q.2; simpa [Str.length] using this]; decide) (hQ.str I q.2 _ _)
  · (first | exact no_some h | cases h)
end
end Mine
end
section
open PySem PySem.W PyProof.Rows PySem.Calls PySem.SeqAt
set_option maxRecDepth 100000
namespace Mine

noncomputable def sumI : List Int → Int
  | [] => 0
  | a :: r => a + sumI r
noncomputable def insI (x : Int) : List Int → List Int
  | [] => [x]
  | a :: r => bif ltI a x then a :: insI x r else x :: a :: r
noncomputable def sortI : List Int → List Int
  | [] => []
  | a :: r => insI a (sortI r)
theorem insI_perm (x : Int) : ∀ l, (insI x l).Perm (x :: l)
  | [] => .refl _
  | a :: r => by
    unfold insI
    cases ltI a x with
    | true => exact ((insI_perm x r).cons a).trans (.swap x a r)
    | false => exact .refl _
theorem sortI_perm : ∀ l, (sortI l).Perm l
  | [] => .refl _
  | a :: r => (insI_perm a (sortI r)).trans ((sortI_perm r).cons a)
theorem insI_sorted (x : Int) : ∀ l : List Int, l.Pairwise (· ≤ ·) → (insI x l).Pairwise (· ≤ ·)
  | [], _ => List.pairwise_cons.mpr ⟨fun _ h => (nomatch h), .nil⟩
  | a :: r, h => by
    refine ex0_2 (List.pairwise_cons.mp h) fun h1 h2 => ?_
    unfold insI
    cases e : ltI a x with
    | true =>
      rw [ltI_eq] at e
      have e := of_decide_eq_true e
      refine List.pairwise_cons.mpr ⟨fun b hb => ?_, insI_sorted x r h2⟩
      rcases List.mem_cons.mp ((insI_perm x r).mem_iff.mp hb) with rfl | hb
      · omega
      · exact h1 b hb
    | false =>
      rw [ltI_eq] at e
      have e := of_decide_eq_false e
      refine List.pairwise_cons.mpr ⟨fun b hb => ?_, h⟩
      rcases List.mem_cons.mp hb with rfl | hb
      · omega
      · have := h1 b hb; omega
theorem sortI_sorted : ∀ l, (sortI l).Pairwise (· ≤ ·)
  | [] => .nil
  | a :: r => insI_sorted a _ (sortI_sorted r)
theorem sorted_eq : ∀ (a b : List Int), a.Perm b → a.Pairwise (· ≤ ·) → b.Pairwise (· ≤ ·) → a = b
  | [], b, p, _, _ => by rw [List.nil_perm.mp p]
  | x :: r, [], p, _, _ => by have := p.length_eq; simp at this
  | x :: r, y :: s, p, h1, h2 => by
    refine ex0_2 (List.pairwise_cons.mp h1) fun a1 a2 => ?_
    refine ex0_2 (List.pairwise_cons.mp h2) fun b1 b2 => ?_
    have hx : x ∈ y :: s := p.mem_iff.mp (.head _)
    have hy : y ∈ x :: r := p.mem_iff.mpr (.head _)
    have e : x = y := by
      rcases List.mem_cons.mp hx with e | hx
      · exact e
      · rcases List.mem_cons.mp hy with e | hy
        · exact e.symm
        · have := a1 y hy; have := b1 x hx; omega
    subst e
    rw [sorted_eq r s (List.Perm.cons_inv p) a2 b2]
section
variable {C : Cst}
theorem preSum_eq (l : List Int) : preSum (fun i => l.getD i 0) l.length = sumI l := by
  have gen : ∀ (l : List Int) (f : Nat → Int) (n : Nat), (∀ i, i < l.length → f (n + i) = l.getD i 0) → preSum f (n + l.length) = preSum f n + sumI l := by
    intro l
    induction l with
    | nil => intro f n _; simp [sumI]
    | cons a r ih =>
      intro f n h
      have h0 := h 0 (by simp)
      have := ih f (n + 1) fun i hi => by
        have := h (i + 1) (by simpa using hi)
        rw [show n + 1 + i = n + (i + 1) by omega, this]; rfl
      rw [List.length_cons, show n + (r.length + 1) = n + 1 + r.length by omega, this]
      show preSum f n + f n + sumI r = preSum f n + (a + sumI r)
      have e : f n = a := by simpa using h0
      omega
  have := gen l (fun i => l.getD i 0) 0 (fun i _ => by rw [Nat.zero_add])
  rw [Nat.zero_add] at this
  rw [this]
  show 0 + sumI l = sumI l
  omega
noncomputable def bSum : List MV → MH → Option (MV × MH) := fun a μ => match a with
  | [.loc n] => match μ.get n with
    | some (.list l) => match intsOf l with
      | some ns => some (.int (sumI ns), μ)
      | none => none
    | _ => none
  | _ => none
theorem sf_sum : SimF1 C (.builtin "sum") bSum := by
  intro args μ v μ' h W vals A ao I V Q hQ
  unfold bSum at h
  split at h
  · rename_i n
    split at h
    · rename_i l hg
      split at h
      · rename_i ns hns
        (first | exact no_some h | cases h)
        refine V.consE fun pv pvs V Vs => ?_
        refine Vs.nilE ?_
        refine V.locE fun a ha => ?_
        refine ex1_2 (I.list ha hg) fun its hL Vl => ?_
        have hi := ints_are hns Vl
        have hlen : ns.length = its.size := by have := hi.length; simpa using this.symm
        refine call_sum_walkG (wpAny_pyIter_list hL.isList ?_)
        have hne : a ≠ W.s.heap.objs.size := fun q => by
          refine ex1_1 hL fun c hc => ?_
          rw [q] at hc
          exact Nat.lt_irrefl _ (Heap.lt_size hc)
        refine ⟨W.s.heap.objs.size, _, _, its.size, _, _, fun i => ns.getD i 0, rfl, Walks.list (A := A.in1) ao.hd _ a hne its, ⟨⟨_, Heap.get?_push_size _ rfl, rfl, rfl⟩, hL.isList.push _⟩, ?_, ?_, ?_⟩
        · intro b hb
          show b < (W.s.heap.push _).objs.size
          rw [Heap.size_push]
          rcases List.mem_cons.mp hb with rfl | hb
          · exact Nat.lt_succ_self _
          · rw [List.mem_singleton.mp hb]
            refine ex1_1 hL fun c hc => ?_
            exact Nat.lt_succ_of_lt (Heap.lt_size hc)
        · intro i v hv
          have hv' : its.toList[i]? = some v := by simpa using hv
          have hlt : i < its.size := (Array.getElem?_eq_some_iff.mp hv).1
          have key : ∀ {vs : List Value} {ns : List Int}, IntsAre vs ns → ∀ {i : Nat} {v : Value}, vs[i]? = some v → ∃ t, v = .int (ns.getD i 0) t := by
            intro vs ns H
            induction H with
            | nil => intro i v h; simp at h
            | cons n t _ ih =>
              intro i v h
              cases i with
              | zero => simp at h; exact ⟨t, by rw [← h]; rfl⟩
              | succ i => rw [List.getElem?_cons_succ] at h; exact ih h
          exact key hi hv'
        · intro h' tk t' hk
          rw [show its.size = ns.length from hlen.symm, preSum_eq]
          refine hQ.keep I (s' := { W.s with heap := h', toks := tk }) (fun b o hb => ?_) rfl rfl (.int _ _)
          refine hk b o (fun q => ?_) (Heap.get?_push_of_some _ hb)
          rw [List.mem_singleton.mp q] at hb
          exact Nat.lt_irrefl _ (Heap.lt_size hb)
      · (first | exact no_some h | cases h)
    · (first | exact no_some h | cases h)
  · (first | exact no_some h | cases h)
noncomputable def bSorted : List MV → MH → Option (MV × MH) := fun a μ => match a with
  | [.loc n] => match μ.get n with
    | some (.list l) => bif Nat.blt l.length 64 then match intsOf l with
      | some ns => mkList ((sortI ns).map .int) μ
      | none => none else none
    | _ => none
  | _ => none
theorem sf_sorted : SimF1 C (.builtin "sorted") bSorted := by
  intro args μ v μ' h W vals A ao I V Q hQ
  unfold bSorted at h
  split at h
  · rename_i n
    split at h
    · rename_i l hg
      cases hb : Nat.blt l.length 64 with
      | false => rw [hb] at h; (first | exact no_some h | cases h)
      | true =>
        rw [hb, cond_true] at h
        split at h
        · rename_i ns hns
          refine ex1_3 (mkList_spec h) fun k eqq1 hk hfr => ?_; subst eqq1
          refine V.consE fun pv pvs V Vs => ?_
          refine Vs.nilE ?_
          refine V.locE fun a ha => ?_
          refine ex1_2 (I.list ha hg) fun its hL Vl => ?_
          have hi := ints_are hns Vl
          have h64 : its.toList.length < 64 := by rw [← Vl.len]; exact Nat.le_of_ble_eq_true hb
          refine sorted_ints (vs := its.toList) (by rw [Array.toArray_toList]; exact hL.isList) hi h64 fun out ns' h1 h2 h3 => ?_
          have e : ns' = sortI ns := sorted_eq _ _ (h2.trans (sortI_perm ns).symm) h3 (sortI_sorted ns)
          subst e
          refine ex1_1 (sortedAll_at W.s.heap its.toList out) fun e he => ?_
          refine hQ.new I hk (s' := { W.s with heap := sortedAll W.s.heap its.toList out }) (a := W.s.heap.objs.size + 1) (fun b o hb => sortedAll_old hb) rfl rfl (Nat.le_succ _) he fun W' hW x => ?_
          have eh : W'.h = sortedAll W.s.heap its.toList out := by show W'.s.heap = _; rw [hW]
          exact ⟨out, ⟨e, by rw [eh]; exact he⟩, VRs.ints h1⟩
        · (first | exact no_some h | cases h)
    · (first | exact no_some h | cases h)
  · (first | exact no_some h | cases h)
noncomputable def bList : List MV → MH → Option (MV × MH) := fun a μ => match a with
  | [.tup l] => bif fits l then mkList l μ else none
  | _ => none
theorem sf_list : SimF1 C (.type "list") bList := by
  intro args μ v μ' h W vals A ao I V Q hQ
  unfold bList at h
  split at h
  · rename_i l
    cases hf : fits l with
    | false => rw [hf] at h; (first | exact no_some h | cases h)
    | true =>
      rw [hf, cond_true] at h
      refine ex1_3 (mkList_spec h) fun k eqq1 hk hfr => ?_; subst eqq1
      refine V.consE fun pv pvs V Vs => ?_
      refine Vs.nilE ?_
      refine V.tupE fun a its n ho hρ hM Vt => ?_
      have hsz : its.size ≤ sizeLine := by have := fits_le hf Vt; simpa using this
      refine call_list_seq a (T := "tuple") (.inr rfl) ho rfl rfl (fun h' c' hk' hg' => ?_) hsz
      refine hQ.new I hk (s' := { W.s with heap := h' }) (a := W.s.heap.objs.size) hk' rfl rfl (Nat.le_refl _) hg' fun W' hW x => ?_
      have eh : W'.h = h' := by show W'.s.heap = _; rw [hW]
      exact ⟨its, ⟨c', by rw [eh]; exact hg'⟩, VRs.mono x (fun _ h => nomatch h) Vt⟩
  · (first | exact no_some h | cases h)
noncomputable def bType : List MV → MH → Option (MV × MH) := fun a μ => match a with
  | [.str _] => some (.ty .str, μ)
  | [.loc n] => match μ.get n with
    | some (.list _) => some (.ty .list, μ)
    | _ => none
  | _ => none
theorem sf_type : SimF1 C (.type "type") bType := by
  intro args μ v μ' h W vals A ao I V Q hQ
  unfold bType at h
  split at h
  · (first | exact no_some h | cases h)
    refine V.consE fun pv pvs V Vs => ?_
    refine Vs.nilE ?_
    refine V.strE fun s t hs => ?_
    exact call_type_of (typeIs_str W.s s t) (by decide) (hQ W _ (Ext.refl _ _) I (.ty .str))
  · rename_i n
    split at h
    · rename_i l hg
      (first | exact no_some h | cases h)
      refine V.consE fun pv pvs V Vs => ?_
      refine Vs.nilE ?_
      refine V.locE fun a ha => ?_
      refine ex1_2 (I.list ha hg) fun its hL Vl => ?_
      exact call_type_of hL.isList.typeIs (by decide) (hQ W _ (Ext.refl _ _) I (.ty .list))
    · (first | exact no_some h | cases h)
  · (first | exact no_some h | cases h)
end
end Mine
end
section
open PySem PySem.W PyProof.Rows PySem.Calls PySem.SeqAt
set_option maxRecDepth 100000
namespace Mine

section
variable {C : Cst} {W : Wd} {μ : MH} {A : Around}
theorem it_new {W₀ : Wd} {mi : MI} {ob : Obj} {t : Nat} {Q : Value → Shared → Prop} (x₀ : Ext [] W₀ W) (I : Inv C W μ) (hfr : ob.isFreed = false) (hit : ∀ W' : Wd, W'.h = W.h.push ob → W'.ρ = W.ρ → ItAt W' W.h.objs.size mi)
    (hQ : ∀ W' a, Ext [] W₀ W' → Inv C W' μ → a ∈ W'.M → W₀.h.get? a = none → ItAt W' a mi → Q (.ref a) W'.s) : Q (.ref W.h.objs.size) { W.s with heap := W.h.push ob, toks := t } := by
  have hf : ∀ a ∈ [W.h.objs.size], W.h.get? a = none := fun a ha => by rw [List.mem_singleton.mp ha]; exact nofresh W.h
  have k := push_keep W.h ob
  have x := Ext.hid [] (s := { W.s with heap := W.h.push ob, toks := t }) k hf
  have I' := I.hid (s := { W.s with heap := W.h.push ob, toks := t }) k hf (fun a ha => by rw [List.mem_singleton.mp ha]; exact ⟨ob, Heap.get?_push_size _ hfr⟩) I.gens rfl
  refine hQ (W.hid { W.s with heap := W.h.push ob, toks := t } [W.h.objs.size]) _ (x₀.trans x) I' (.head _) ?_ (hit _ rfl rfl)
  cases q : W₀.h.get? W.h.objs.size with
  | none => rfl
  | some o =>
    refine ex1_1 (x₀.alive _ o q) fun o' h' => ?_
    rw [nofresh] at h'; (first | exact no_some h' | cases h')
end
noncomputable def iOf (f : Ev) : Ei := fun ls μ => match f ls μ with
  | some (.loc n, μ') => match μ'.get n with
    | some (.list _) => some (.lst n 0, μ')
    | some (.dict es) => some (.keys n 0 es.length, μ')
    | _ => none
  | _ => none
section
variable {C : Cst} {D : Fd} {k : Nat}
theorem si_of {e : Expr} {f : Ev} (hf : SimE C D k e f) : SimI C D k e (iOf f) := by
  intro ls μ mi μ' h W env O A eo ao I F Q hQ
  unfold iOf at h
  split at h
  · rename_i n μ₁ h1
    refine hf ls μ _ μ₁ h1 W env O A eo ao I F _ fun W₁ pv x₁ I₁ V₁ => ?_
    refine V₁.locE fun a ha => ?_
    split at h
    · rename_i l hg
      (first | exact no_some h | cases h)
      refine ex1_2 (I₁.list ha hg) fun its hL _ => ?_
      refine wpAny_pyIter_list hL.isList ?_
      exact it_new (mi := .lst n 0) x₁ I₁ (t := W₁.s.toks) rfl (fun W' hh hρ => ⟨a, by rw [hρ]; exact ha, _, by rw [hh]; exact Heap.get?_push_size _ rfl, rfl, rfl⟩) hQ
    · rename_i es hg
      (first | exact no_some h | cases h)
      refine ex1_2 (I₁.dict ha hg) fun kvs hD hr => ?_
      have hlen : es.length = kvs.length := by have := congrArg List.length hr.1; simpa using this
      refine wpAny_pyIter_dict (keyNe I₁ (List.mem_of_getElem? ha)) hD ?_
      exact it_new (mi := .keys n 0 es.length) x₁ I₁ (t := W₁.s.toks) rfl (fun W' hh hρ => ⟨a, by rw [hρ]; exact ha, _, by rw [hh]; exact Heap.get?_push_size _ rfl, rfl, by rw [hlen]; rfl⟩) hQ
    · (first | exact no_some h | cases h)
  · (first | exact no_some h | cases h)
theorem src_of {f : Ev} {tg : Expr} : SrcOk (iOf f) tg := by
  intro ls μ mi μ' h
  unfold iOf at h
  split at h
  · split at h
    · (first | exact no_some h | cases h); exact trivial
    · (first | exact no_some h | cases h); exact trivial
    · (first | exact no_some h | cases h)
  · (first | exact no_some h | cases h)
noncomputable def iItems (f : Ev) : Ei := fun ls μ => match f ls μ with
  | some (.loc n, μ') => match μ'.get n with
    | some (.dict es) => some (.items n 0 es.length, μ')
    | _ => none
  | _ => none
noncomputable def iVals (f : Ev) : Ei := fun ls μ => match f ls μ with
  | some (.loc n, μ') => match μ'.get n with
    | some (.dict es) => some (.vals n 0 es.length, μ')
    | _ => none
  | _ => none
theorem si_items {o : Expr} {apos pos : Pos} {f : Ev} (hf : SimE C D k o f) (hbase : ∀ env, attributeBase o "items" env (eval o env) = eval o env) (hline : (apos.endLine == pos.line) = true) : SimI C D k (.Call (.Attribute o "items" apos) [] [] pos) (iItems f) := by
  intro ls μ mi μ' h W env O A eo ao I F Q hQ
  unfold iItems at h
  split at h
  · rename_i n μ₁ h1
    split at h
    · rename_i es hg
      (first | exact no_some h | cases h)
      refine wpAny_Call_method0_late (hbase env) hline (hf ls μ _ _ h1 W env O A eo ao I F _ fun W₁ pv x₁ I₁ V₁ => ?_)
      refine ex0_2 (isKT_ok (kt := .dict) (v := .loc n) I₁ (by unfold isKT; simp only [hg]) V₁) fun q1 q2 => ?_
      revert q1 q2
      refine V₁.locE fun a ha q1 q2 => ?_
      refine ex1_2 (I₁.dict ha hg) fun kvs hD hr => ?_
      have hlen : es.length = kvs.length := by have := congrArg List.length hr.1; simpa using this
      refine ⟨"dict", "dict.items", PySem.F.plainAttrs_dict, PySem.F.slot_dict_items, PySem.F.type_dict_items, q1, q2, ?_⟩
      refine callWith_builtin rfl (evalArgs_nil3 ?_)
      refine call_meetsIn PySem.F.slot_dict_items hD.dictOf.typeIs PySem.F.entry_dict_items (PySem.F.args_dict_items_1 _) (meets_dict_items (ik C) a (keyNe I₁ (List.mem_of_getElem? ha))) ⟨⟨kvs, hD.dictOf⟩, ?_⟩
      have k := push_keep W₁.h { cls := .type "dict_items", data := .fields #[.ref a] }
      have x₂ : Ext [] W₁ (W₁.at { W₁.s with heap := W₁.h.push { cls := .type "dict_items", data := .fields #[.ref a] } }) := Ext.keep [] k
      have I₂ := I₁.keep (s := { W₁.s with heap := W₁.h.push { cls := .type "dict_items", data := .fields #[.ref a] } }) k I₁.gens rfl
      refine wpAny_pyIter_items (knd := ik C) ⟨_, Heap.get?_push_size _ rfl, rfl, rfl⟩ (hD.push _) ?_
      exact it_new (mi := .items n 0 es.length) (W := W₁.at { W₁.s with heap := W₁.h.push { cls := .type "dict_items", data := .fields #[.ref a] } }) (x₁.trans x₂) I₂ (t := W₁.s.toks) rfl
        (fun W' hh hρ => ⟨a, .none, .none, by rw [hρ]; exact ha, by rw [hh, hlen]; exact Heap.get?_push_size _ rfl⟩) hQ
    · (first | exact no_some h | cases h)
  · (first | exact no_some h | cases h)
theorem src_items {f : Ev} {es : List Expr} {c : Nat} {p : Pos} : SrcOk (iItems f) (.Tuple es c p) := by
  intro ls μ mi μ' h
  unfold iItems at h
  split at h
  · split at h
    · (first | exact no_some h | cases h); exact ⟨_, _, _, rfl⟩
    · (first | exact no_some h | cases h)
  · (first | exact no_some h | cases h)
theorem si_vals {o : Expr} {apos pos : Pos} {f : Ev} (hf : SimE C D k o f) (hbase : ∀ env, attributeBase o "values" env (eval o env) = eval o env) (hline : (apos.endLine == pos.line) = true) : SimI C D k (.Call (.Attribute o "values" apos) [] [] pos) (iVals f) := by
  intro ls μ mi μ' h W env O A eo ao I F Q hQ
  unfold iVals at h
  split at h
  · rename_i n μ₁ h1
    split at h
    · rename_i es hg
      (first | exact no_some h | cases h)
      refine wpAny_Call_method0_late (hbase env) hline (hf ls μ _ _ h1 W env O A eo ao I F _ fun W₁ pv x₁ I₁ V₁ => ?_)
      refine ex0_2 (isKT_ok (kt := .dict) (v := .loc n) I₁ (by unfold isKT; simp only [hg]) V₁) fun q1 q2 => ?_
      revert q1 q2
      refine V₁.locE fun a ha q1 q2 => ?_
      refine ex1_2 (I₁.dict ha hg) fun kvs hD hr => ?_
      have hlen : es.length = kvs.length := by have := congrArg List.length hr.1; simpa using this
      refine ⟨"dict", "dict.values", PySem.F.plainAttrs_dict, PySem.F.slot_dict_values, PySem.F.type_dict_values, q1, q2, ?_⟩
      refine callWith_builtin rfl (evalArgs_nil3 ?_)
      refine call_meetsIn PySem.F.slot_dict_values hD.dictOf.typeIs PySem.F.entry_dict_values (PySem.F.args_dict_values_1 _) (meets_dict_values (ik C) a (keyNe I₁ (List.mem_of_getElem? ha))) ⟨⟨kvs, hD.dictOf⟩, ?_⟩
      have k := push_keep W₁.h { cls := .type "dict_values", data := .fields #[.ref a] }
      have x₂ : Ext [] W₁ (W₁.at { W₁.s with heap := W₁.h.push { cls := .type "dict_values", data := .fields #[.ref a] } }) := Ext.keep [] k
      have I₂ := I₁.keep (s := { W₁.s with heap := W₁.h.push { cls := .type "dict_values", data := .fields #[.ref a] } }) k I₁.gens rfl
      refine wpAny_pyIter_values (knd := ik C) ⟨_, Heap.get?_push_size _ rfl, rfl, rfl⟩ (hD.push _) ?_
      exact it_new (mi := .vals n 0 es.length) (W := W₁.at { W₁.s with heap := W₁.h.push { cls := .type "dict_values", data := .fields #[.ref a] } }) (x₁.trans x₂) I₂ (t := W₁.s.toks) rfl
        (fun W' hh hρ => ⟨a, by rw [hρ]; exact ha, _, by rw [hh]; exact Heap.get?_push_size _ rfl, rfl, by rw [hlen]; rfl⟩) hQ
    · (first | exact no_some h | cases h)
  · (first | exact no_some h | cases h)
theorem src_vals {f : Ev} {tg : Expr} : SrcOk (iVals f) tg := by
  intro ls μ mi μ' h
  unfold iVals at h
  split at h
  · split at h
    · (first | exact no_some h | cases h); exact trivial
    · (first | exact no_some h | cases h)
  · (first | exact no_some h | cases h)
noncomputable def smallR (a : Int) : Bool := Nat.blt a.natAbs 4096
noncomputable def iRng (b : El) : Ei := fun ls μ => match b ls μ with
  | some ([.int n], μ') => bif smallR n then some (.rng 0 n.toNat, μ') else none
  | some ([.int a, .int n], μ') => bif smallR a then bif smallR n then some (.rng a (n - a).toNat, μ') else none else none
  | _ => none
theorem smallR_le {a : Int} (h : smallR a = true) : -4096 < a ∧ a < 4096 := by
  have : a.natAbs < 4096 := Nat.le_of_ble_eq_true h
  omega
theorem si_range {p pos : Pos} {e : Expr} {es : List Expr} {b : El} (hx : Fix C D (.Name "range" p) (.type "range")) (hl : SimL C D k (e :: es) b) (he : ∀ env, starEach (e :: es) env = (false, eval e env) :: starEach es env) (hp : ∀ env pos, (backTo pos (starEach es env)).any (·.1) = false) : SimI C D k (.Call (.Name "range" p) (e :: es) [] pos) (iRng b) := by
  intro ls μ mi μ' h W env O A eo ao I F Q hQ
  unfold iRng at h
  refine wpAny_Call_NameR (hx W μ env A eo I _ ?_)
  have go : ∀ (W₁ : Wd) (μ₁ : MH) (a n : Int) (t u v : Tok) (tk : Nat), Ext [] W W₁ → Inv C W₁ μ₁ → smallR a = true → smallR n = true → μ₁ = μ' → mi = .rng a (n - a).toNat →
      wpAny (model P0 C.w) A (pyIter (.ref W₁.h.objs.size)) Q NoE { W₁.s with heap := W₁.h.push { cls := .type "range", data := .fields #[.int a t, .int n u, .int 1 v] }, toks := tk } := by
    intro W₁ μ₁ a n t u v tk x₁ I₁ ha hn e1 e2
    subst e1; subst e2
    have l1 := smallR_le ha; have l2 := smallR_le hn
    have k := push_keep W₁.h { cls := .type "range", data := .fields #[.int a t, .int n u, .int 1 v] }
    have x₂ : Ext [] W₁ (W₁.at { W₁.s with heap := W₁.h.push { cls := .type "range", data := .fields #[.int a t, .int n u, .int 1 v] }, toks := tk }) := Ext.keep [] k
    have I₂ := I₁.keep (s := { W₁.s with heap := W₁.h.push { cls := .type "range", data := .fields #[.int a t, .int n u, .int 1 v] }, toks := tk }) k I₁.gens rfl
    refine wpAny_pyIter_range (a := a) (b := n) (c := 1) (Heap.get?_push_size _ rfl) (small_one (by omega) (by omega) (by omega) (by omega)) ?_
    refine it_new (mi := .rng a (n - a).toNat) (W := W₁.at { W₁.s with heap := W₁.h.push { cls := .type "range", data := .fields #[.int a t, .int n u, .int 1 v] }, toks := tk }) (x₁.trans x₂) I₂ (t := tk) rfl (fun W' hh hρ => ?_) hQ
    have e : Builtin.Range.rangeSize a n 1 = ((n - a).toNat : Int) := by rw [rangeSize_one]; split <;> omega
    show W'.h.get? _ = _
    rw [hh, e]
    exact Heap.get?_push_size _ rfl
  split at h
  · rename_i n μ₁ h1
    cases hs : smallR n with
    | false => rw [hs] at h; (first | exact no_some h | cases h)
    | true =>
      rw [hs] at h; (first | exact no_some h | cases h)
      refine callWith_type1 (hl ls μ _ _ h1 W env O A pos eo ao I F _ fun W₁ pvs x₁ I₁ V₁ => ?_) (he env) (hp env pos)
      refine V₁.consE fun pv pvs V Vs => ?_
      refine Vs.nilE ?_
      refine V.intE fun t => ?_
      exact call_range_1 (go W₁ _ 0 n _ _ _ _ x₁ I₁ (by decide) hs rfl (by rw [Int.sub_zero]))
  · rename_i a n μ₁ h1
    cases hs : smallR a with
    | false => rw [hs] at h; (first | exact no_some h | cases h)
    | true =>
      cases hs2 : smallR n with
      | false => rw [hs, hs2] at h; (first | exact no_some h | cases h)
      | true =>
        rw [hs, hs2] at h; (first | exact no_some h | cases h)
        refine callWith_type1 (hl ls μ _ _ h1 W env O A pos eo ao I F _ fun W₁ pvs x₁ I₁ V₁ => ?_) (he env) (hp env pos)
        refine V₁.consE fun pv pvs V Vs => ?_
        refine Vs.consE fun pw pws V' Vs' => ?_
        cases Vs'
        refine V.intE fun t => ?_
        refine V'.intE fun u => ?_
        exact call_range_2 (go W₁ _ a n _ _ _ _ x₁ I₁ hs hs2 rfl rfl)
  · (first | exact no_some h | cases h)
theorem src_rng {b : El} {tg : Expr} : SrcOk (iRng b) tg := by
  intro ls μ mi μ' h
  unfold iRng at h
  split at h
  · rename_i n μ₁ h1
    cases hs : smallR n with
    | false => rw [hs] at h; (first | exact no_some h | cases h)
    | true => rw [hs] at h; (first | exact no_some h | cases h); exact trivial
  · rename_i a n μ₁ h1
    cases hs : smallR a with
    | false => rw [hs] at h; (first | exact no_some h | cases h)
    | true =>
      cases hs2 : smallR n with
      | false => rw [hs, hs2] at h; (first | exact no_some h | cases h)
      | true => rw [hs, hs2] at h; (first | exact no_some h | cases h); exact trivial
  · (first | exact no_some h | cases h)
noncomputable def iRev (b : El) : Ei := fun ls μ => match b ls μ with
  | some ([.loc n], μ') => match μ'.get n with
    | some (.list l) => some (.rev n l.length, μ')
    | _ => none
  | _ => none
theorem si_rev {p pos : Pos} {e : Expr} {b : El} (hx : Fix C D (.Name "reversed" p) (.type "reversed")) (hl : SimL C D k [e] b) (he : ∀ env, starEach [e] env = (false, eval e env) :: starEach [] env) : SimI C D k (.Call (.Name "reversed" p) [e] [] pos) (iRev b) := by
  intro ls μ mi μ' h W env O A eo ao I F Q hQ
  unfold iRev at h
  refine wpAny_Call_NameR (hx W μ env A eo I _ ?_)
  split at h
  · rename_i n μ₁ h1
    split at h
    · rename_i l hg
      (first | exact no_some h | cases h)
      refine callWith_type1 (hl ls μ _ _ h1 W env O A pos eo ao I F _ fun W₁ pvs x₁ I₁ V₁ => ?_) (he env) rfl
      refine V₁.consE fun pv pvs V Vs => ?_
      refine Vs.nilE ?_
      refine V.locE fun a ha => ?_
      refine ex1_2 (I₁.list ha hg) fun its hL Vl => ?_
      have hlen := Vl.nthD
      refine call_reversed_list hL.isList ?_
      have key := it_new (mi := .rev n l.length) x₁ I₁ (ob := revObj a ((its.size : Int) - 1)) (t := W₁.s.toks) (Q := fun v s => wpAny (model P0 C.w) A (pyIter v) Q NoE s) rfl
        (fun W' hh hρ => ⟨a, by rw [hρ]; exact ha, _, by rw [hh]; exact Heap.get?_push_size _ rfl, rfl, by rw [hlen]; rfl⟩)
        (fun W' a' x' I' hM hf it' => it_self it' (hQ W' a' x' I' hM hf it'))
      exact key
    · (first | exact no_some h | cases h)
  · (first | exact no_some h | cases h)
theorem src_rev {b : El} {tg : Expr} : SrcOk (iRev b) tg := by
  intro ls μ mi μ' h
  unfold iRev at h
  split at h
  · split at h
    · (first | exact no_some h | cases h); exact trivial
    · (first | exact no_some h | cases h)
  · (first | exact no_some h | cases h)
end
end Mine
end
section
open PySem PySem.W PyProof.Rows PySem.Calls PySem.SeqAt
set_option maxRecDepth 100000
namespace Mine

noncomputable def clampL (b : Option Int) (n : Nat) : Nat := match b with
  | none => 0
  | some (.ofNat j) => bif Nat.ble j n then j else n
  | some (.negSucc j) => n - (j + 1)
noncomputable def clampH (b : Option Int) (n : Nat) : Nat := match b with
  | none => n
  | some (.ofNat j) => bif Nat.ble j n then j else n
  | some (.negSucc j) => n - (j + 1)
theorem bounds_eq (lo hi : Option Int) (n : Nat) : sliceBounds lo hi none n = ((clampL lo n : Int), (clampH hi n : Int), 1) := by
  have hb : ∀ j : Nat, ((bif Nat.ble j n then j else n : Nat) : Int) = max 0 (min (j : Int) n) := by
    intro j
    cases h : Nat.ble j n with
    | true => rw [cond_true, Int.min_eq_left (Int.ofNat_le.mpr (Nat.le_of_ble_eq_true h)), Int.max_eq_right (Int.natCast_nonneg _)]
    | false =>
      have : ¬ j ≤ n := fun q => by rw [Nat.ble_eq_true_of_le q] at h; (first | exact no_some h | cases h)
      rw [cond_false, Int.min_eq_right (Int.ofNat_le.mpr (Nat.le_of_not_le this)), Int.max_eq_right (Int.natCast_nonneg _)]
  have hn : ∀ j : Nat, ((n - (j + 1) : Nat) : Int) = max 0 (min (Int.negSucc j + n) n) := by
    intro j
    have e : Int.negSucc j + (n : Int) = (n : Int) - ((j + 1 : Nat) : Int) := by rw [Int.negSucc_eq, Int.add_comm]; rfl
    rw [e]
    by_cases h : j + 1 ≤ n
    · rw [Int.ofNat_sub h, Int.min_eq_left (Int.sub_le_self _ (Int.natCast_nonneg _)), Int.max_eq_right (Int.sub_nonneg_of_le (Int.ofNat_le.mpr h))]
    · rw [Nat.sub_eq_zero_of_le (Nat.le_of_not_le h), Int.max_eq_left (Int.le_trans (Int.min_le_left _ _) (Int.sub_nonpos_of_le (Int.ofNat_le.mpr (Nat.le_of_not_le h))))]; rfl
  unfold sliceBounds
  simp only [Option.getD_none, show (1 : Int) > 0 from by decide, if_true]
  refine Prod.ext ?_ (Prod.ext ?_ rfl)
  · cases lo with
    | none => rfl
    | some i =>
      cases i with
      | ofNat j =>
        show max 0 (min (if (Int.ofNat j) < 0 then Int.ofNat j + n else Int.ofNat j) n) = ((bif Nat.ble j n then j else n : Nat) : Int)
        rw [if_neg (show ¬ ((Int.ofNat j) < 0) by show ¬ ((j : Int) < 0); omega), hb]; rfl
      | negSucc j =>
        show max 0 (min (if (Int.negSucc j) < 0 then Int.negSucc j + n else Int.negSucc j) n) = ((n - (j + 1) : Nat) : Int)
        rw [if_pos (show Int.negSucc j < 0 by omega), hn]
  · cases hi with
    | none => rfl
    | some i =>
      cases i with
      | ofNat j =>
        show max 0 (min (if (Int.ofNat j) < 0 then Int.ofNat j + n else Int.ofNat j) n) = ((bif Nat.ble j n then j else n : Nat) : Int)
        rw [if_neg (show ¬ ((Int.ofNat j) < 0) by show ¬ ((j : Int) < 0); omega), hb]; rfl
      | negSucc j =>
        show max 0 (min (if (Int.negSucc j) < 0 then Int.negSucc j + n else Int.negSucc j) n) = ((n - (j + 1) : Nat) : Int)
        rw [if_pos (show Int.negSucc j < 0 by omega), hn]
noncomputable abbrev Ep := Locs → MH → Option (Option Int × MH)
noncomputable def SimP (C : Cst) (D : Fd) (k : Nat) (e : Option Expr) (f : Ep) : Prop :=
  ∀ ls μ b μ', f ls μ = some (b, μ') → ∀ W env O A, EnvOk D env → AOk k A → Inv C W μ → FrOk C W env D.own O ls →
    ∀ Q : Value → Shared → Prop, (∀ W' pv, Ext [] W W' → Inv C W' μ' → IsPart pv b → Q pv W'.s) → wpAny (model P0 C.w) A (evalPart e env) Q NoE W.s
noncomputable def pNone : Ep := fun _ μ => some (none, μ)
noncomputable def pSome (a : Ev) : Ep := fun ls μ => match a ls μ with
  | some (.int i, μ') => some (some i, μ')
  | _ => none
noncomputable def cSlice (a : Ev) (lo hi : Ep) : Ev := fun ls μ => match a ls μ with
  | some (x, μ₁) => match lo ls μ₁ with
    | some (l, μ₂) => match hi ls μ₂ with
      | some (h, μ₃) => match x with
        | .loc n => match μ₃.get n with
          | some (.list vs) => bif fits vs then mkList ((vs.drop (clampL l vs.length)).take (clampH h vs.length - clampL l vs.length)) μ₃ else none
          | _ => none
        | _ => none
      | none => none
    | none => none
  | none => none
theorem VRs.drop {Q : Int} {h : Heap} {ρ M : List Addr} : ∀ {ms : List MV} {vs : List Value} (n : Nat), VRs Q h ρ M ms vs → VRs Q h ρ M (ms.drop n) (vs.drop n)
  | _, _, 0, V => V
  | _, _, _ + 1, .nil => .nil
  | _, _, n + 1, .cons _ _ _ _ _ Vs => VRs.drop n Vs
theorem VRs.take {Q : Int} {h : Heap} {ρ M : List Addr} : ∀ {ms : List MV} {vs : List Value} (n : Nat), VRs Q h ρ M ms vs → VRs Q h ρ M (ms.take n) (vs.take n)
  | _, _, 0, _ => by rw [List.take_zero, List.take_zero]; exact .nil
  | _, _, _ + 1, .nil => .nil
  | _, _, n + 1, .cons _ _ _ _ V Vs => .cons _ _ _ _ V (VRs.take n Vs)
section
variable {C : Cst} {D : Fd} {k : Nat}
theorem simp_none : SimP C D k none pNone := by
  intro ls μ b μ' h W env O A eo ao I F Q hQ
  (first | exact no_some h | cases h)
  rw [evalPart_none]
  exact wpAny_pure (hQ W _ (Ext.refl _ _) I .none)
theorem simp_some {e : Expr} {a : Ev} (ha : SimE C D k e a) : SimP C D k (some e) (pSome a) := by
  intro ls μ b μ' h W env O A eo ao I F Q hQ
  unfold pSome at h
  split at h
  · rename_i i μ₁ h1
    (first | exact no_some h | cases h)
    rw [evalPart_some]
    refine ha ls μ _ _ h1 W env O A eo ao I F _ fun W₁ pv x₁ I₁ V₁ => ?_
    refine V₁.intE fun t => ?_
    exact hQ W₁ _ x₁ I₁ (.int i t)
  · (first | exact no_some h | cases h)
theorem sim_slice {value : Expr} {lo hi : Option Expr} {a : Ev} {l h : Ep} (p pos : Pos) (ha : SimE C D k value a) (hl : SimP C D k lo l) (hh : SimP C D k hi h) : SimE C D k (.Subscript value (.Slice lo hi none p) pos) (cSlice a l h) := by
  intro ls μ v μ' hc W env O A eo ao I F Q hQ
  unfold cSlice at hc
  split at hc
  · rename_i x μ₁ h1
    split at hc
    · rename_i bl μ₂ h2
      split at hc
      · rename_i bh μ₃ h3
        split at hc
        · rename_i n
          split at hc
          · rename_i vs hg
            cases hf : fits vs with
            | false => rw [hf] at hc; (first | exact no_some hc | cases hc)
            | true =>
              rw [hf, cond_true] at hc
              refine ex1_3 (mkList_spec hc) fun m eqq1 hk hfr => ?_; subst eqq1
              refine Subscript_ (ha ls μ _ μ₁ h1 W env O A eo ao I F _ fun W₁ px x₁ I₁ V₁ => ?_)
              refine wpAny_Slice (hl ls μ₁ bl μ₂ h2 W₁ env O A eo ao I₁ (F.mono I x₁) _ fun W₂ pl x₂ I₂ P₂ => ?_)
              refine hh ls μ₂ bh μ₃ h3 W₂ env O A eo ao I₂ ((F.mono I x₁).mono I₁ x₂) _ fun W₃ ph x₃ I₃ P₃ => ?_
              rw [evalPart_none]
              refine wpAny_pure ?_
              have V₃ := VR.mono (x₂.trans x₃) (fun _ h => nomatch h) V₁
              refine V₃.locE fun ax hax => ?_
              refine ex1_2 (I₃.list hax hg) fun its hL Vs => ?_
              have hlen := Vs.nthD
              have hsz : its.size ≤ sizeLine := by have := fits_le hf Vs; simpa using this
              have kk := push_keep W₃.h { cls := .type "slice", data := .fields #[pl, ph, .none] }
              have x₄ : Ext [] W₃ (W₃.at { W₃.s with heap := W₃.h.push { cls := .type "slice", data := .fields #[pl, ph, .none] } }) := Ext.keep [] kk
              have I₄ := I₃.keep (s := { W₃.s with heap := W₃.h.push { cls := .type "slice", data := .fields #[pl, ph, .none] } }) kk I₃.gens rfl
              have hL₄ : (W₃.h.push { cls := .type "slice", data := .fields #[pl, ph, .none] }).PlainList ax its := hL.at fun o e => kk ax o e
              refine tail_any (T := "list") (s := { W₃.s with heap := W₃.h.push { cls := .type "slice", data := .fields #[pl, ph, .none] } }) hL₄.isList.typeIs slot_list_getitem.lookup ?_ rfl
              refine wpAny_getItem_list_slice hL₄.isList (Heap.IsSliceOf.new _ _ _ _) P₂ P₃ .none (by decide) ?_ hsz
              have e : slicePick its bl bh none = ((its.toList.drop (clampL bl vs.length)).take (clampH bh vs.length - clampL bl vs.length)).toArray := by
                rw [kmk_pick_nat its (a := clampL bl its.size) (b := clampH bh its.size) (bounds_eq bl bh its.size), hlen]
              rw [e]
              have Vn : VRs C.Q (W₃.at { W₃.s with heap := W₃.h.push { cls := .type "slice", data := .fields #[pl, ph, .none] } }).h W₃.ρ W₃.M ((vs.drop (clampL bl vs.length)).take (clampH bh vs.length - clampL bl vs.length)) ((its.toList.drop (clampL bl vs.length)).take (clampH bh vs.length - clampL bl vs.length)) :=
                (VRs.mono x₄ (fun _ h => nomatch h) Vs).drop _ |>.take _
              exact Says.list (c := 0) (W := W₃.at { W₃.s with heap := W₃.h.push { cls := .type "slice", data := .fields #[pl, ph, .none] } }) I₄ hk Vn (hQ.step (((x₁.trans x₂).trans x₃).trans x₄)) W₃.s.toks
          · (first | exact no_some hc | cases hc)
        · (first | exact no_some hc | cases hc)
      · (first | exact no_some hc | cases hc)
    · (first | exact no_some hc | cases hc)
  · (first | exact no_some hc | cases hc)
noncomputable def sSetItem (a o i : Ev) : Es := fun ls μ => match a ls μ with
  | some (v, μ₁) => match o ls μ₁ with
    | some (.loc n, μ₂) => match i ls μ₂ with
      | some (.int kk, μ₃) => match μ₃.get n with
        | some (.dict es) => bif fitsD es then some (.next, ls, μ₃.put n (.dict (dset es kk v))) else none
        | _ => none
      | _ => none
    | _ => none
  | none => none
theorem setItem_dict {prog : Program} {w : World} {A : Around} {E : Value → Shared → Prop} {s : Shared} {d : Addr} {key v : Value} {Q : Unit → Shared → Prop} (hT : s.TypeIs (.ref d) "dict") (h : wpAny (model prog w) A.in1 (dictSet d key v) Q E s) : wpAny (model prog w) A (setItem (.ref d) key v) Q E s := by
  unfold setItem
  try with_reducible refine wpAny_holding ?_
  refine wpAny_bind (wpAny_sequenceKey hT (by decide) ?_)
  refine wpAny_bind (wpAny_callSpecial?_slot (name := Str.ofString "__setitem__") hT slot_dict_setitem
    (wpAny_call_entry slot_dict_setitem hT entry_dict_setitem ?_ (args_dict_setitem _ _ _)))
  show wpAny _ _ (Builtin.Dict.notOrdered "__setitem__" ⟨[.ref d, key, v], []⟩ >>= _) _ _ s
  refine wpAny_bind (wpAny_notOrdered_dict hT ?_)
  show wpAny _ _ (dictSet d key v >>= _) _ _ s
  exact wpAny_bind (wpAny_mono h (fun _ _ q => wpAny_pure ⟨.none, rfl, wpAny_pure q⟩) fun _ _ q => q)
theorem sim_setitem {e o i : Expr} {a b c : Ev} (B : Basis C) (p pos : Pos) (ha : SimE C D k e a) (ho : SimE C D k o b) (hi : SimE C D k i c) (sw : ∀ env, swapsWith e (some (.Subscript o i p)) pos.line env = pure false) : SimS C D k (.Assign [.Subscript o i p] e pos) (sSetItem a b c) := by
  intro ls μ fl ls' μ' h W env O A eo ao I F Q hQ
  unfold sSetItem at h
  split at h
  · rename_i v μ₁ h1
    split at h
    · rename_i n μ₂ h2
      split at h
      · rename_i kk μ₃ h3
        split at h
        · rename_i es hg
          cases hf : fitsD es with
          | false => rw [hf] at h; (first | exact no_some h | cases h)
          | true =>
            rw [hf] at h; (first | exact no_some h | cases h)
            refine wpAny_Assign_Subscript (ha ls μ v μ₁ h1 W env O A eo ao I F _ fun W₁ pv x₁ I₁ V₁ => ?_) (sw env)
            have F₁ := F.mono I x₁
            refine ho ls μ₁ _ μ₂ h2 W₁ env O A eo ao I₁ F₁ _ fun W₂ po x₂ I₂ V₂ => ?_
            have F₂ := F₁.mono I₁ x₂
            refine hi ls μ₂ _ μ₃ h3 W₂ env O A eo ao I₂ F₂ _ fun W₃ pi x₃ I₃ V₃ => ?_
            have F₃ := F₂.mono I₂ x₃
            have V₂' := VR.mono x₃ (fun _ h => nomatch h) V₂
            have V₁' := VR.mono (x₂.trans x₃) (fun _ h => nomatch h) V₁
            refine V₂'.locE fun d hd => ?_
            refine V₃.intE fun t => ?_
            refine ex1_2 (I₃.dict hd hg) fun kvs hD _ => ?_
            refine setItem_dict hD.dictOf.typeIs (dict_put B I₃ hd hg hf V₁' fun W₄ x₄ I₄ => ?_)
            exact hQ W₄ _ (((x₁.trans x₂).trans x₃).trans x₄).lift I₄ (F₃.mono I₃ x₄) .next
        · (first | exact no_some h | cases h)
      · (first | exact no_some h | cases h)
    · (first | exact no_some h | cases h)
  · (first | exact no_some h | cases h)
end
end Mine
end
section
open PySem PySem.W PyProof.Rows PySem.Calls PySem.SeqAt
set_option maxRecDepth 100000
namespace Mine

theorem osa_bare {prog : Program} {w : World} {A : Around} {R : Result → Shared → Prop} {s : Shared} {K : Frag} {x C dx : Addr} {ox od od' : Obj} {name : Str} {tk : Tok} {v : Value} {es : List DictEntry} {n : Nat} (X : K.In s.heap)
    (I : InstAt s.heap x ox C (some od)) (hd : ox.dict = some dx) (hp : plainOver K C = true) (ht : takerIn K C name = some none) (hh : hasDictIn K C = true) (hl : (lookIn name od).isSome = true)
    (D : s.heap.get? dx = some od) (e : Obj.putName name (PyData.keyHash w.params name) (.str name s.toks) v od = od') (e' : od'.data = .dict es.toArray n) (hz : es.length ≤ 1000)
    (h : (s.heap.update dx (Obj.putName name (PyData.keyHash w.params name) (.str name s.toks) v)).get? dx = some od' → R (.ok (.ret .none)) { s with heap := s.heap.update dx (Obj.putName name (PyData.keyHash w.params name) (.str name s.toks) v), toks := s.toks + 1 }) :
    codeAny (model prog w) A (.call (.builtin "object.__setattr__") ⟨[.ref x, .str name tk, v], []⟩) R s := by
  have D' : (s.heap.update dx (Obj.putName name (PyData.keyHash w.params name) (.str name s.toks) v)).get? dx = some od' := by
    rw [Heap.get?_update_self _ D (by rw [e]; obtain ⟨_, _, dd, _⟩ := od'; cases e'; rfl), e]
  refine osa_open X I hp ht fun b => ?_
  refine ex1_2 (any_some hh) fun cd hc hd' => ?_
  obtain ⟨hx, hcl, hn, -⟩ := I
  obtain ⟨oc, odi, oda, osl⟩ := ox
  dsimp only at hcl hd
  subst hcl hd
  refine wpAny_bind (wpAny_pure (wpAny_bind (wpAny_bind (wpAny_loadPart hx (wpAny_bind ((looks_clsIn X hc).here ?_))))))
  rw [hd']
  refine wpAny_pure (a := some dx) (wpAny_bind (wpAny_pure (wpAny_bind ?_)))
  unfold nsSet
  refine wpAny_bind (wpAny_bind (wpAny_askSetting (wpAny_pure (wpAny_bind (wpAny_mkText (wpAny_bind (wpAny_loadPart D ?_)))))))
  unfold lookIn at hl
  split at hl
  · rename_i es₀ n₀ q
    rw [q]
    dsimp only
    have c : (!es₀.any (·.key.isStr name) && es₀.any (·.refKey)) = false := by
      rw [← Array.any_toList, ← Array.any_toList]
      split at hl
      · rename_i en he
        rw [List.any_eq_true.mpr ⟨en, List.mem_of_find?_eq_some he, List.find?_some he⟩]; rfl
      · split at hl
        · (first | exact no_some hl | cases hl)
        · rename_i z; rw [Bool.not_eq_true] at z; rw [z, Bool.and_false]
    rw [aRefKeyMayBeTheName_at, c]
    refine wpAny_updatePart D ?_
    refine wpAny_bind (wpAny_lookBehind D' (by rw [e']; exact pastItsLine_dict (by rw [List.size_toArray, sizeLine_eq]; omega)) ?_)
    exact wpAny_pure (h D')
  · (first | exact no_some hl | cases hl)

structure Inst (C : Cst) (W : Wd) (μ : MH) (n c dn : Nat) (f : Option (Nat × MV)) : Prop where
  obj : μ.get n = some (.inst c dn)
  ns : μ.get dn = some (.ns f)
noncomputable def cAttr (at' : Nat) (a : Ev) : Ev := fun ls μ => match a ls μ with
  | some (.loc n, μ') => match μ'.get n with
    | some (.inst _ dn) => match μ'.get dn with
      | some (.ns (some (x, v))) => bif Nat.beq x at' then some (v, μ') else none
      | _ => none
    | _ => none
  | _ => none
structure AttrOk (K : Frag) (c : Addr) (x : Nat) : Prop where
  pg : plainGet K c (atNm x) = true
  hd : hasDictIn K c = true
  no : findIn K (.ref c) (atNm x) = some none
theorem attr_get {C : Cst} {W : Wd} {μ : MH} {A : Around} (B : Basis C) (I : Inv C W μ) {n c dn x : Nat} {v : MV} {a : Addr} (ha : W.ρ[n]? = some a) (h1 : μ.get n = some (.inst c dn)) (h2 : μ.get dn = some (.ns (some (x, v)))) (ok : AttrOk (K C.w.params) c x) (hv : ∀ pv, VR C.Q W.h W.ρ W.M v pv → handedIn pv = true)
    {Q : Value → Shared → Prop} {expr : Bool} (hQ : Says C W v μ Q) : wpAny (model P0 C.w) A (getAttr (.ref a) (atNm x) expr) Q NoE W.s := by
  obtain ⟨b, e1, d, e2, e3⟩ := I.objs n _ h1
  have : b = a := Option.some.inj (e1.symm.trans ha)
  subst this
  obtain ⟨d', e4, hs, t, pv, e5, V⟩ := I.objs dn _ h2
  have : d' = d := Option.some.inj (e4.symm.trans e2)
  subst this
  have IA : InstAt W.s.heap b { cls := .ref c, dict := some d', data := .plain } c (some (dictOf [⟨hs, .str (atNm x) t, pv⟩] 1)) := ⟨e3, rfl, rfl, e5⟩
  refine get_value (I.K B) IA (plainGet_of ok.pg).1 (findObj_own ok.hd ok.no rfl ?_) (hv pv V) (hQ.keep I (s' := { W.s with toks := W.s.toks + 1 }) (fun _ _ h => h) rfl rfl V)
  rw [lookIn_dict]
  unfold getL
  rw [List.find?_cons]
  have : (Value.str (atNm x) t).isStr (atNm x) = true := by simp [Value.isStr]
  simp [this]
end Mine
end
section
open PySem PySem.W PyProof.Rows PySem.Calls PySem.SeqAt
set_option maxRecDepth 100000
namespace Mine
section
variable {C : Cst} {D : Fd} {k : Nat}
noncomputable def cAttrL (c at' : Nat) (a : Ev) : Ev := fun ls μ => match a ls μ with
  | some (.loc n, μ') => match μ'.get n with
    | some (.inst c' dn) => bif Nat.beq c' c then match μ'.get dn with
      | some (.ns (some (x, .loc m))) => bif Nat.beq x at' then some (.loc m, μ') else none
      | _ => none else none
    | _ => none
  | _ => none
theorem sim_attr {e : Expr} {name : Str} {a : Ev} (B : Basis C) (c x : Nat) (pos : Pos) (hn : atNm x = name) (ok : AttrOk (K C.w.params) c x) (ha : SimE C D k e a)
    (he : ∀ env, eval (.Attribute e name pos) env = (do let o ← eval e env; standAt pos.atName; let r ← holding [o] (getAttr o name true); letTemporaryGo e o r; pure r)) : SimE C D k (.Attribute e name pos) (cAttrL c x a) := by
  intro ls μ v μ' h W env O A eo ao I F Q hQ
  subst hn
  unfold cAttrL at h
  split at h
  · rename_i n μ₁ h1
    split at h
    · rename_i c' dn hg
      cases hc : Nat.beq c' c with
      | false => rw [hc] at h; (first | exact no_some h | cases h)
      | true =>
        rw [hc, cond_true] at h
        have ec := Nat.eq_of_beq_eq_true hc
        subst ec
        split at h
        · rename_i x' m hg2
          cases hx : Nat.beq x' x with
          | false => rw [hx] at h; (first | exact no_some h | cases h)
          | true =>
            rw [hx] at h; (first | exact no_some h | cases h)
            have ex := Nat.eq_of_beq_eq_true hx
            subst ex
            refine Attribute_any_ (ha ls μ _ _ h1 W env O A eo ao I F _ fun W₁ pv x₁ I₁ V₁ => ?_) (he env)
            refine V₁.locE fun b hb => ?_
            exact attr_get B I₁ hb hg hg2 ok (fun pv V => by refine V.locE fun _ _ => ?_; rfl) (hQ.step x₁)
        · (first | exact no_some h | cases h)
    · (first | exact no_some h | cases h)
  · (first | exact no_some h | cases h)
end
theorem ok_comp (P : Params) : AttrOk (K P) 62 0 := ⟨by kernel_rfl, by kernel_rfl, by kernel_rfl⟩
theorem ok_head (P : Params) : AttrOk (K P) 284 1 := ⟨by kernel_rfl, by kernel_rfl, by kernel_rfl⟩
end Mine
end
section
open PySem PySem.W PyProof.Rows PySem.Calls PySem.SeqAt
set_option maxRecDepth 100000
namespace Mine
structure SetOk (K : Frag) (c : Addr) (x : Nat) : Prop where
  sa : findIn K (.ref c) "__setattr__" = some (some (.builtin "object.__setattr__"))
  po : plainOver K c = true
  tk : takerIn K c (atNm x) = some none
  hd : hasDictIn K c = true
theorem sok_comp (P : Params) : SetOk (K P) 62 0 := ⟨by kernel_rfl, by kernel_rfl, by kernel_rfl, by kernel_rfl⟩
theorem sok_head (P : Params) : SetOk (K P) 284 1 := ⟨by kernel_rfl, by kernel_rfl, by kernel_rfl, by kernel_rfl⟩
section
variable {C : Cst} {D : Fd} {k : Nat}
noncomputable def sSetAttr (c x : Nat) (a o : Ev) : Es := fun ls μ => match a ls μ with
  | some (v, μ₁) => match o ls μ₁ with
    | some (.loc n, μ₂) => match μ₂.get n with
      | some (.inst c' dn) => bif Nat.beq c' c then match μ₂.get dn with
        | some (.ns none) => some (.next, ls, μ₂.put dn (.ns (some (x, v))))
        | _ => none else none
      | _ => none
    | _ => none
  | none => none
theorem sim_setattr {e o : Expr} {name : Str} {a b : Ev} (B : Basis C) (c x : Nat) (p pos : Pos) (hn : atNm x = name) (ok : SetOk (K C.w.params) c x) (ha : SimE C D k e a) (ho : SimE C D k o b) (sw : ∀ env, swapsWith e (some (.Attribute o name p)) pos.line env = pure false) :
    SimS C D k (.Assign [.Attribute o name p] e pos) (sSetAttr c x a b) := by
  intro ls μ fl ls' μ' h W env O A eo ao I F Q hQ
  subst hn
  unfold sSetAttr at h
  split at h
  · rename_i v μ₁ h1
    split at h
    · rename_i n μ₂ h2
      split at h
      · rename_i c' dn hg
        cases hc : Nat.beq c' c with
        | false => rw [hc] at h; (first | exact no_some h | cases h)
        | true =>
          rw [hc, cond_true] at h
          have ec := Nat.eq_of_beq_eq_true hc
          subst ec
          split at h
          · rename_i hg2
            (first | exact no_some h | cases h)
            refine plainObj_wpAny_Assign_Attribute (ha ls μ v μ₁ h1 W env O A eo ao I F _ fun W₁ pv x₁ I₁ V₁ => ?_) (sw env)
            refine ho ls μ₁ _ μ₂ h2 W₁ env O A eo ao I₁ (F.mono I x₁) _ fun W₂ po x₂ I₂ V₂ => ?_
            have F₂ := (F.mono I x₁).mono I₁ x₂
            have Vv := VR.mono x₂ (fun _ h => nomatch h) V₁
            refine V₂.locE fun ax hax => ?_
            obtain ⟨b', e1, d, e2, e3⟩ := I₂.objs n _ hg
            have : b' = ax := Option.some.inj (e1.symm.trans hax)
            subst this
            refine ex1_2 (I₂.objs dn _ hg2) fun d' e4 e5 => ?_
            have : d' = d := Option.some.inj (e4.symm.trans e2)
            subst this
            have IA : InstAt W₂.s.heap b' { cls := .ref c', dict := some d', data := .plain } c' (some (dictOf [] 0)) := ⟨e3, rfl, rfl, e5⟩
            refine set_plain (I₂.K B) IA ok.sa ?_
            refine osa_bare (s := { W₂.s with toks := W₂.s.toks + 1 }) (od' := dictOf [⟨PyData.keyHash C.w.params (atNm x), .str (atNm x) (W₂.s.toks + 1), pv⟩] 1) (I₂.K B) IA rfl ok.po ok.tk ok.hd rfl e5 ?_ rfl (by show (1 : Nat) ≤ 1000; decide) fun D' => ?_
            · rw [putName_dict]; rfl
            · refine ex0_2 (put_step (s' := { W₂.s with heap := W₂.s.heap.update d' (Obj.putName (atNm x) (PyData.keyHash C.w.params (atNm x)) (.str (atNm x) (W₂.s.toks + 1)) pv), toks := W₂.s.toks + 1 + 1 }) (o := .ns (some (x, v))) B I₂ hg2 e4 (Heap.SameBut.update ..) D' rfl rfl fun y => ⟨_, _, _, D', VR.mono y (fun _ h => nomatch h) Vv⟩) fun x₃ I₃ => ?_
              exact hQ _ _ ((x₁.trans x₂).trans x₃).lift I₃ (F₂.mono I₂ x₃) .next
          · (first | exact no_some h | cases h)
      · (first | exact no_some h | cases h)
    · (first | exact no_some h | cases h)
  · (first | exact no_some h | cases h)
end
end Mine
end
section
open PySem PySem.W PyProof.Rows PySem.Calls PySem.SeqAt
set_option maxRecDepth 100000
namespace Mine
theorem VR.locR {Q : Int} {h : Heap} {ρ M : List Addr} {n : Nat} {a : Addr} (V : VR Q h ρ M (.loc n) (.ref a)) : ρ[n]? = some a := by
  cases V with
  | loc _ _ e => exact e
theorem under_tc {k : Nat} {A : Around} (ao : AOk (k + 1) A) (v : Addr) (vs : List Value) : AOk k (A.under (.builtin "type.__call__" ⟨.ref v :: vs, []⟩)) := by
  have hw : (Code.builtin "type.__call__" ⟨.ref v :: vs, []⟩).weight ≤ 2 := by
    have : (Code.builtin "type.__call__" ⟨.ref v :: vs, []⟩).weight = 1 := by kernel_rfl
    omega
  have hu : (Code.builtin "type.__call__" ⟨.ref v :: vs, []⟩).cUnits ≤ 60 := by
    have : (Code.builtin "type.__call__" ⟨.ref v :: vs, []⟩).cUnits = 1 := by kernel_rfl
    omega
  refine ⟨ao.hd, ?_, ?_⟩
  · show A.depth + (Code.builtin "type.__call__" ⟨.ref v :: vs, []⟩).weight + 4 * k + 4 < 990
    have := ao.dep; omega
  · show A.units + (Code.builtin "type.__call__" ⟨.ref v :: vs, []⟩).cUnits + 64 * k + 1000 < 9900
    have := ao.un; omega
noncomputable def cMake (c : Nat) (f : List MV → MH → Option (MV × MH)) (b : El) : Ev := fun ls μ => match b ls μ with
  | some (vs, μ₁) => match μ₁.new (.ns none) with
    | some (dn, μ₂) => match μ₂.new (.inst c dn) with
      | some (n, μ₃) => match f (.loc n :: vs) μ₃ with
        | some (.none, μ₄) => some (.loc n, μ₄)
        | _ => none
      | none => none
    | none => none
  | none => none
structure MakeOk (K : Frag) (c fI : Addr) : Prop where
  mks : makesIn K c = true
  init : findIn K (.ref c) "__init__" = some (some (.ref fI))
  fn : typeIn K (.ref fI) = some (.type "function")
  kp : keepIn K (.ref c) = true
section
variable {C : Cst} {D : Fd} {k : Nat}
theorem make_step {c fI : Addr} {f : List MV → MH → Option (MV × MH)} (B : Basis C) (ok : MakeOk (K C.w.params) c fI) (hf : SimF C k fI plainA f) {W : Wd} {μ₁ μ₂ μ₃ μ₄ : MH} {dn n : Nat} {vs : List MV} (h2 : μ₁.new (.ns none) = some (dn, μ₂)) (h3 : μ₂.new (.inst c dn) = some (n, μ₃)) (h4 : f (.loc n :: vs) μ₃ = some (.none, μ₄))
    {A : Around} (ao : AOk (k + 1) A) (I : Inv C W μ₁) {pvs : List Value} (V : VRs C.Q W.h W.ρ W.M vs pvs) {Q : Value → Shared → Prop} (hQ : Says C W (.loc n) μ₄ Q) : wpAny (model P0 C.w) A (call (.ref c) pvs) Q NoE W.s := by
  refine wpAny_call (make_core (makes_of (I.K B) ok.mks) (looks_findIn (I.K B) ok.init) (fun self => bind_fn (I.K B) self ok.fn) (.inl rfl) ?_)
  have key : Says C W (.loc dn) μ₂ (fun pd s' => ∀ a, pd = .ref a → codeAny (model P0 C.w) (A.under (.builtin "type.__call__" ⟨.ref c :: pvs, []⟩)) (.call (.ref fI) ⟨.ref s'.heap.objs.size :: pvs, []⟩) (InitBack s'.heap.objs.size (fun r s' => match r with | .ok (.ret v) => Q v s' | .ok _ => False | .error e => NoE e s')) { s' with heap := s'.heap.push (instObj c a) }) := by
    intro W₂ pd x₂ I₂ Vd a ea
    subst ea
    have hd := Vd.locR
    have key2 : Says C W₂ (.loc n) μ₃ (fun px s' => ∀ b, px = .ref b → codeAny (model P0 C.w) (A.under (.builtin "type.__call__" ⟨.ref c :: pvs, []⟩)) (.call (.ref fI) ⟨.ref b :: pvs, []⟩) (InitBack b (fun r s' => match r with | .ok (.ret v) => Q v s' | .ok _ => False | .error e => NoE e s')) s') := by
      intro W₃ px x₃ I₃ Vx b eb
      subst eb
      have Vs := VRs.mono (x₂.trans x₃) (fun _ h => nomatch h) V
      refine codeAny_mono (hf (.loc n :: vs) μ₃ .none μ₄ h4 W₃ (.ref b :: pvs) _ (under_tc ao _ _) I₃ (.cons _ _ _ _ Vx Vs) (fun v s' => v = .none ∧ Q (.ref b) s') fun W₄ pv x₄ I₄ V₄ => ?_) fun r s' q => ?_
      · refine V₄.noneE ?_
        exact ⟨rfl, hQ W₄ (.ref b) ((x₂.trans x₃).trans x₄) I₄ (VR.mono x₄ (fun _ h => nomatch h) Vx)⟩
      · rcases r with e | (_ | _ | _ | v)
        · exact q
        · exact q
        · exact q
        · exact q
        · exact q
    exact key2.new I₂ h3 (s' := { W₂.s with heap := W₂.h.push (instObj c a) }) (ob := instObj c a) (push_keep _ _) rfl rfl (Nat.le_refl _) (Heap.get?_push_size _ rfl) (fun W' hW x => ⟨a, x.pre _ _ hd, by show W'.s.heap.get? _ = _; rw [hW]; exact Heap.get?_push_size _ rfl⟩) _ rfl
  have := key.new I h2 (s' := { W.s with heap := W.h.push emptyDict }) (ob := emptyDict) (push_keep _ _) rfl rfl (Nat.le_refl _) (Heap.get?_push_size _ rfl) (fun W' hW x => by show W'.s.heap.get? _ = _; rw [hW]; exact Heap.get?_push_size _ rfl) W.h.objs.size rfl
  rw [show ({ W.s with heap := W.h.push emptyDict } : Shared).heap.objs.size = W.h.objs.size + 1 from Heap.size_push ..] at this
  exact this
theorem sim_make {x : Str} {p pos : Pos} {c fI : Addr} {e : Expr} {es : List Expr} {f : List MV → MH → Option (MV × MH)} {b : El} (B : Basis C) (hx : Fix C D (.Name x p) (.ref c)) (ok : MakeOk (K C.w.params) c fI) (hf : ∀ k', k = k' + 1 → SimF C k' fI plainA f) (hk : ∃ k', k = k' + 1)
    (hl : SimL C D k (e :: es) b) (he : ∀ env, starEach (e :: es) env = (false, eval e env) :: starEach es env) (hp : ∀ env pos, (backTo pos (starEach es env)).any (·.1) = false) : SimE C D k (.Call (.Name x p) (e :: es) [] pos) (cMake c f b) := by
  intro ls μ v μ' h W env O A eo ao I F Q hQ
  refine ex1_1 hk fun k' eqq1 => ?_; subst eqq1
  unfold cMake at h
  split at h
  · rename_i vs μ₁ h1
    split at h
    · rename_i dn μ₂ h2
      split at h
      · rename_i n μ₃ h3
        split at h
        · rename_i μ₄ h4
          (first | exact no_some h | cases h)
          refine wpAny_Call_NameR (hx W μ env A eo I _ ?_)
          exact callWith_K (K := K C.w.params) (h₀ := W.h) (I.K B) ok.kp (hl ls μ vs μ₁ h1 W env O A pos eo ao I F _ fun W₁ pvs x₁ I₁ V₁ => ⟨I₁.K B, make_step B ok (hf k' rfl) h2 h3 h4 ao I₁ V₁ (hQ.step x₁)⟩) (he env) (hp env pos)
        · (first | exact no_some h | cases h)
      · (first | exact no_some h | cases h)
    · (first | exact no_some h | cases h)
  · (first | exact no_some h | cases h)
theorem sim_make0 {x : Str} {p pos : Pos} {c fI : Addr} {f : List MV → MH → Option (MV × MH)} (B : Basis C) (hx : Fix C D (.Name x p) (.ref c)) (ok : MakeOk (K C.w.params) c fI) (hf : ∀ k', k = k' + 1 → SimF C k' fI plainA f) (hk : ∃ k', k = k' + 1) : SimE C D k (.Call (.Name x p) [] [] pos) (cMake c f lNil) := by
  intro ls μ v μ' h W env O A eo ao I F Q hQ
  refine ex1_1 hk fun k' eqq1 => ?_; subst eqq1
  unfold cMake lNil at h
  simp only at h
  split at h
  · rename_i dn μ₂ h2
    split at h
    · rename_i n μ₃ h3
      split at h
      · rename_i μ₄ h4
        (first | exact no_some h | cases h)
        refine wpAny_Call_NameR (hx W μ env A eo I _ ?_)
        exact callWith_K0 (K := K C.w.params) (I.K B) ok.kp (make_step B ok (hf k' rfl) h2 h3 h4 ao I .nil hQ)
      · (first | exact no_some h | cases h)
    · (first | exact no_some h | cases h)
  · (first | exact no_some h | cases h)
end
theorem mok_comp (P : Params) : MakeOk (K P) 62 52 := ⟨by kernel_rfl, by kernel_rfl, by kernel_rfl, by kernel_rfl⟩
theorem mok_head (P : Params) : MakeOk (K P) 284 176 := ⟨by kernel_rfl, by kernel_rfl, by kernel_rfl, by kernel_rfl⟩
end Mine
end
section
open PySem PySem.W PyProof.Rows PySem.Calls PySem.SeqAt
set_option maxRecDepth 100000
namespace Mine
structure MethOk (K : Frag) (c fI : Addr) (name : Str) : Prop where
  pg : plainGet K c name = true
  fn : findIn K (.ref c) name = some (some (.ref fI))
  isf : isFn K (.ref fI) = true
  kp : keepIn K (.ref fI) = true
noncomputable def cMCall (c : Nat) (f : List MV → MH → Option (MV × MH)) (a : Ev) (b : El) : Ev := fun ls μ => match a ls μ with
  | some (.loc n, μ₁) => match μ₁.get n with
    | some (.inst c' dn) => bif Nat.beq c' c then match μ₁.get dn with
      | some (.ns (some _)) => match b ls μ₁ with
        | some (vs, μ₂) => f (.loc n :: vs) μ₂
        | none => none
      | _ => none else none
    | _ => none
  | _ => none
section
variable {C : Cst} {D : Fd} {k : Nat}
theorem inst_method {W : Wd} {μ : MH} {A : Around} (B : Basis C) (I : Inv C W μ) {n c dn : Nat} {fI : Addr} {p : Nat × MV} {name : Str} {a : Addr} (ha : W.ρ[n]? = some a) (h1 : μ.get n = some (.inst c dn)) (h2 : μ.get dn = some (.ns (some p))) (ok : MethOk (K C.w.params) c fI name) (hne : (atNm p.1 == name) = false)
    {pl : Sem Bool} {Q : Value × List Value → Shared → Prop} (hQ : Q (.ref fI, [.ref a]) W.s) : wpAny (model P0 C.w) A (getMethod (.ref a) name pl) Q NoE W.s := by
  obtain ⟨x, v⟩ := p
  obtain ⟨b, e1, d, e2, e3⟩ := I.objs n _ h1
  have : b = a := Option.some.inj (e1.symm.trans ha)
  subst this
  obtain ⟨d', e4, hs, t, pv, e5, V⟩ := I.objs dn _ h2
  have : d' = d := Option.some.inj (e4.symm.trans e2)
  subst this
  have IA : InstAt W.s.heap b { cls := .ref c, dict := some d', data := .plain } c (some (dictOf [⟨hs, .str (atNm x) t, pv⟩] 1)) := ⟨e3, rfl, rfl, e5⟩
  refine method_fn (I.K B) IA (plainGet_of ok.pg).1 (plainGet_of ok.pg).2 ok.fn (beq_iff_eq.mp ok.isf) ?_ hQ
  show (lookIn name (dictOf _ 1)).map _ = _
  rw [lookIn_dict]
  unfold getL
  have h3 : (Value.str (atNm x) t).isStr name = false := by
    simp only at hne
    simpa [Value.isStr] using hne
  have h4 : (⟨hs, .str (atNm x) t, pv⟩ : DictEntry).refKey = false := by simp [DictEntry.refKey]
  simp [List.find?_cons, h3, h4]
theorem sim_mcall {o e : Expr} {es : List Expr} {name : Str} {apos pos : Pos} {c fI : Addr} {f : List MV → MH → Option (MV × MH)} {a : Ev} {b : El} (B : Basis C) (ok : MethOk (K C.w.params) c fI name) (hne : ∀ x, (atNm x == name) = false) (ha : SimE C D k o a) (hf : SimF C k fI plainA f) (hl : SimL C D k (e :: es) b)
    (he : ∀ env, starEach (e :: es) env = (false, eval e env) :: starEach es env) (hp : ∀ env pos, (backTo pos (starEach es env)).any (·.1) = false) (pl : Env → Sem Bool)
    (hc : ∀ env, eval (.Call (.Attribute o name apos) (e :: es) [] pos) env = (do let ov ← eval o env; standAt apos.atName; let (f, first) ← holding [ov] (getMethod ov name (pl env)); callWith pos f first (backTo pos (starEach (e :: es) env)) [])) :
    SimE C D k (.Call (.Attribute o name apos) (e :: es) [] pos) (cMCall c f a b) := by
  intro ls μ v μ' h W env O A eo ao I F Q hQ
  unfold cMCall at h
  split at h
  · rename_i n μ₁ h1
    split at h
    · rename_i c' dn hg
      cases hb : Nat.beq c' c with
      | false => rw [hb] at h; (first | exact no_some h | cases h)
      | true =>
        rw [hb, cond_true] at h
        have ec := Nat.eq_of_beq_eq_true hb
        subst ec
        split at h
        · rename_i p hg2
          split at h
          · rename_i vs μ₂ h2
            refine MethodCall_ (pl := pl env) (ha ls μ _ μ₁ h1 W env O A eo ao I F _ fun W₁ po x₁ I₁ V₁ => ?_) (hc env)
            refine V₁.locE fun ax hax => ?_
            refine inst_method B I₁ hax hg hg2 ok (hne _) ?_
            exact callWith_K (K := K C.w.params) (h₀ := W₁.h) (I₁.K B) ok.kp (hl ls μ₁ vs μ₂ h2 W₁ env O A pos eo ao I₁ (F.mono I x₁) _ fun W₂ pvs x₂ I₂ V₂ => ⟨I₂.K B, hf.call h ao I₂ (.cons _ _ _ _ (.loc n ax (x₂.pre _ _ hax)) V₂) ((hQ.step x₁).step x₂)⟩) (he env) (hp env pos)
          · (first | exact no_some h | cases h)
        · (first | exact no_some h | cases h)
    · (first | exact no_some h | cases h)
  · (first | exact no_some h | cases h)
theorem sim_mcall0 {o : Expr} {name : Str} {apos pos : Pos} {c fI : Addr} {f : List MV → MH → Option (MV × MH)} {a : Ev} (B : Basis C) (ok : MethOk (K C.w.params) c fI name) (hne : ∀ x, (atNm x == name) = false) (ha : SimE C D k o a) (hf : SimF C k fI plainA f) (pl : Env → Sem Bool)
    (hc : ∀ env, eval (.Call (.Attribute o name apos) [] [] pos) env = (do let ov ← eval o env; standAt apos.atName; let (f, first) ← holding [ov] (getMethod ov name (pl env)); callWith pos f first (backTo pos (starEach [] env)) [])) :
    SimE C D k (.Call (.Attribute o name apos) [] [] pos) (cMCall c f a lNil) := by
  intro ls μ v μ' h W env O A eo ao I F Q hQ
  unfold cMCall lNil at h
  split at h
  · rename_i n μ₁ h1
    split at h
    · rename_i c' dn hg
      cases hb : Nat.beq c' c with
      | false => rw [hb] at h; (first | exact no_some h | cases h)
      | true =>
        rw [hb, cond_true] at h
        have ec := Nat.eq_of_beq_eq_true hb
        subst ec
        split at h
        · rename_i p hg2
          simp only at h
          refine MethodCall_ (pl := pl env) (ha ls μ _ μ₁ h1 W env O A eo ao I F _ fun W₁ po x₁ I₁ V₁ => ?_) (hc env)
          refine V₁.locE fun ax hax => ?_
          refine inst_method B I₁ hax hg hg2 ok (hne _) ?_
          exact callWith_K0 (K := K C.w.params) (I₁.K B) ok.kp (hf.call h ao I₁ (.cons _ _ _ _ (.loc n ax hax) .nil) (hQ.step x₁))
        · (first | exact no_some h | cases h)
    · (first | exact no_some h | cases h)
  · (first | exact no_some h | cases h)
end
theorem at_ne {name : Str} (h0 : (atNm 0 == name) = false) (h1 : (atNm 1 == name) = false) (x : Nat) : (atNm x == name) = false := by
  cases x with
  | zero => exact h0
  | succ n => exact h1
end Mine
end
section
open PySem PySem.W PyProof.Rows PySem.Calls PySem.SeqAt
set_option maxRecDepth 100000
namespace Mine
noncomputable def whGo (t : Et) (body : Es) (f : Nat) : Locs → MH → Option (Fl × Locs × MH) :=
  Nat.rec (motive := fun _ => Locs → MH → Option (Fl × Locs × MH)) (fun _ _ => none) (fun _ ih ls μ => match t ls μ with
    | some (false, μ') => some (.next, ls, μ')
    | some (true, μ') => match body ls μ' with
      | some (.next, ls₂, μ₂) => ih ls₂ μ₂
      | some (.cont, ls₂, μ₂) => ih ls₂ μ₂
      | some (.brk, ls₂, μ₂) => some (.next, ls₂, μ₂)
      | some (.ret v, ls₂, μ₂) => some (.ret v, ls₂, μ₂)
      | none => none
    | none => none) f
noncomputable def sWhile (t : Et) (body : Es) : Es := fun ls μ => whGo t body 60 ls μ
section
variable {C : Cst} {D : Fd} {k : Nat}
end
end Mine
end
section
open PySem PySem.W PyProof.Rows PySem.Calls PySem.SeqAt
set_option maxRecDepth 100000
namespace Mine
section
variable {prog : Program} {w : World} {A : Around} {E : Value → Shared → Prop} {s : Shared}
theorem applied_ab {sl : Addr} {a b n : Nat} {u u2 : Tok} {Q : Int × Int × Nat → Shared → Prop} (hs : s.heap.IsSliceOf sl (.int a u) (.int b u2) .none) (hab : a ≤ b) (hb : b ≤ n) (h : Q ((a : Int), 1, b - a) s) :
    wpAny (model prog w) A (Builtin.Slice.sliceApplied (.ref sl) (pure (n : Int))) Q E s := by
  refine ex1_3 (id hs) fun os hos hcs hds => ?_
  unfold Builtin.Slice.sliceApplied Builtin.Slice.sliceFields
  refine wpAny_bind (wpAny_bind (wpAny_field hos hds (x := .int a u) rfl (wpAny_bind (wpAny_field hos hds (x := .int b u2) rfl (wpAny_bind (wpAny_field hos hds (x := .none) rfl (wpAny_pure ?_)))))))
  refine wpAny_bind (slicePart_none ?_)
  show wpAny _ _ (if ((1 : Int) == 0) = true then _ else _) _ _ s
  rw [if_neg (by decide)]
  refine wpAny_bind (slicePart_int (wpAny_bind (slicePart_int (wpAny_bind (wpAny_pure ?_)))))
  show wpAny _ _ (match Builtin.Slice.sliceAdjust (some (a : Int)) (some (b : Int)) 1 (n : Int) with | (lo, hi) => pure (lo, (1 : Int), Builtin.Slice.slicePlaces lo hi 1)) _ _ s
  have e1 : Builtin.Slice.sliceAdjust (some (a : Int)) (some (b : Int)) 1 (n : Int) = ((a : Int), (b : Int)) := by
    unfold Builtin.Slice.sliceAdjust
    have h1 : ¬ ((1 : Int) < 0) := by omega
    have h2 : ¬ ((a : Int) < 0) := by omega
    have h3 : ¬ ((b : Int) < 0) := by omega
    simp only [h1, h2, h3, if_false]
    refine Prod.ext ?_ ?_ <;> (simp only; omega)
  have e2 : Builtin.Slice.slicePlaces (a : Int) (b : Int) 1 = b - a := by
    unfold Builtin.Slice.slicePlaces
    have h1 : (1 : Int) > 0 := by omega
    simp only [h1, if_true, Int.ediv_one]
    split <;> omega
  rw [e1]
  show wpAny _ _ (pure ((a : Int), (1 : Int), Builtin.Slice.slicePlaces (a : Int) (b : Int) 1)) _ _ s
  rw [e2]
  exact wpAny_pure h
theorem pick_ab (xs : Array Value) (a n : Nat) : ((List.range n).filterMap fun (k : Nat) => xs[((a : Int) + (k : Int) * 1).toNat]?).toArray = ((xs.toList.drop a).take n).toArray := by
  have e : (fun (k : Nat) => xs[((a : Int) + (k : Int) * 1).toNat]?) = fun k => xs[a + k]? := by
    funext k
    have : ((a : Int) + (k : Int) * 1).toNat = a + k := by omega
    rw [this]
  rw [e]
  have := pick_run xs a n
  rw [List.filterMap_map] at this
  have e2 : ((fun x => xs[x]?) ∘ fun x => a + x) = fun k => xs[a + k]? := rfl
  rw [e2] at this
  rw [this]
theorem getItem_tup_ab {t sl : Addr} {items : Array Value} {a b : Nat} {u u2 : Tok} {Q : Value → Shared → Prop} (ht : IsTup s.heap t items) (hs : s.heap.IsSliceOf sl (.int a u) (.int b u2) .none) (h1 : 1 ≤ a) (hab : a ≤ b) (hb : b ≤ items.size)
    (h : Q (.ref s.heap.objs.size) { s with heap := s.heap.push { cls := .type "tuple", data := .seq ((items.toList.drop a).take (b - a)).toArray } }) (hsz : items.size ≤ 4096) : wpAny (model prog w) A (getItem (.ref t) (.ref sl)) Q E s := by
  have hdrop : sizeOk (.seq ((items.toList.drop a).take (b - a)).toArray) := by
    show ((items.toList.drop a).take (b - a)).toArray.size ≤ sizeLine
    rw [List.size_toArray, List.length_take, List.length_drop, Array.length_toList, sizeLine_eq]
    omega
  refine ex1_3 (id hs) fun os hos hcs hds => ?_
  have hTs : s.TypeIs (.ref sl) "slice" := ⟨os, hos, hcs⟩
  unfold getItem
  try with_reducible refine wpAny_holding ?_
  first | refine wpAny_bind (wpAny_pure ?_) | skip
  refine wpAny_bind (wpAny_sequenceKey ht.typeIs (by decide) ?_)
  refine wpAny_bind (wpAny_callSpecial?_slot (name := Str.ofString "__getitem__") ht.typeIs PyProof.Rows.slot_tuple_getitem
    (wpAny_call_entry PyProof.Rows.slot_tuple_getitem ht.typeIs PyProof.Rows.entry_tuple_getitem ?_ (PyProof.Rows.args_tuple_getitem _ _)))
  show wpAny _ _ (Builtin.Tuple.tupleItemsOf (.ref t) >>= _) _ _ s
  refine wpAny_bind (tupleItemsOf_ ht ?_)
  refine wpAny_bind (wpAny_typeOf hTs ?_)
  rw [if_pos (by decide)]
  refine wpAny_bind (applied_ab hs hab hb ?_)
  have hno : ¬ (((a : Int) == 0 && (1 : Int) == 1 && (b - a) == items.size) = true) := by
    have : ((a : Int) == 0) = false := by rw [beq_eq_false_iff_ne]; omega
    rw [this]; simp
  show wpAny _ _ (if ((a : Int) == 0 && (1 : Int) == 1 && (b - a) == items.size) = true then _ else _) _ _ s
  rw [if_neg hno, pick_ab items a (b - a)]
  first
    | exact wpAny_bind (m := Builtin.Tuple.tupleExact _) (wpAny_newObj_type (wpAny_pure ⟨_, rfl, wpAny_pure h⟩) hdrop)
    | exact wpAny_bind (m := Builtin.Tuple.tupleExact _) (wpAny_newObj_type (wpAny_bind (wpAny_pure (wpAny_pure ⟨_, rfl, wpAny_pure h⟩))) hdrop)
    | exact wpAny_bind (wpAny_bind (m := Builtin.Tuple.tupleExact _) (wpAny_newObj_type (wpAny_pure (wpAny_pure ⟨_, rfl, wpAny_pure h⟩)) hdrop))
    | exact wpAny_bind (wpAny_bind (m := Builtin.Tuple.tupleExact _) (wpAny_newObj_type (wpAny_pure ⟨_, rfl, wpAny_pure h⟩) hdrop))
end
end Mine
end
section
open PySem PySem.W PyProof.Rows PySem.Calls PySem.SeqAt
set_option maxRecDepth 100000
namespace Mine
noncomputable def cSliceT (a : Ev) (lo hi : Ep) : Ev := fun ls μ => match a ls μ with
  | some (.tup vs, μ₁) => match lo ls μ₁ with
    | some (some (.ofNat l), μ₂) => match hi ls μ₂ with
      | some (some (.ofNat h), μ₃) => bif fits vs then bif Nat.ble 1 l then bif Nat.ble l h then bif Nat.ble h vs.length then some (.tup ((vs.drop l).take (h - l)), μ₃) else none else none else none else none
      | _ => none
    | _ => none
  | _ => none
section
variable {C : Cst} {D : Fd} {k : Nat}
theorem sim_sliceT {value : Expr} {lo hi : Option Expr} {a : Ev} {l h : Ep} (p pos : Pos) (ha : SimE C D k value a) (hl : SimP C D k lo l) (hh : SimP C D k hi h) : SimE C D k (.Subscript value (.Slice lo hi none p) pos) (cSliceT a l h) := by
  intro ls μ v μ' hc W env O A eo ao I F Q hQ
  unfold cSliceT at hc
  split at hc
  · rename_i vs μ₁ h1
    split at hc
    · rename_i bl μ₂ h2
      split at hc
      · rename_i bh μ₃ h3
        cases hf : fits vs with
        | false => rw [hf] at hc; (first | exact no_some hc | cases hc)
        | true =>
          cases g1 : Nat.ble 1 bl with
          | false => rw [hf, g1] at hc; (first | exact no_some hc | cases hc)
          | true =>
            cases g2 : Nat.ble bl bh with
            | false => rw [hf, g1, g2] at hc; (first | exact no_some hc | cases hc)
            | true =>
              cases g3 : Nat.ble bh vs.length with
              | false => rw [hf, g1, g2, g3] at hc; (first | exact no_some hc | cases hc)
              | true =>
                rw [hf, g1, g2, g3] at hc; (first | exact no_some hc | cases hc)
                have l1 := Nat.le_of_ble_eq_true g1; have l2 := Nat.le_of_ble_eq_true g2; have l3 := Nat.le_of_ble_eq_true g3; have l4 := Nat.le_of_ble_eq_true hf
                refine Subscript_ (ha ls μ _ μ₁ h1 W env O A eo ao I F _ fun W₁ px x₁ I₁ V₁ => ?_)
                refine wpAny_Slice (hl ls μ₁ _ μ₂ h2 W₁ env O A eo ao I₁ (F.mono I x₁) _ fun W₂ pl x₂ I₂ P₂ => ?_)
                refine hh ls μ₂ _ _ h3 W₂ env O A eo ao I₂ ((F.mono I x₁).mono I₁ x₂) _ fun W₃ ph x₃ I₃ P₃ => ?_
                rw [evalPart_none]
                refine wpAny_pure ?_
                have V₃ := VR.mono (x₂.trans x₃) (fun _ h => nomatch h) V₁
                cases P₂ with
                | int _ t2 =>
                  cases P₃ with
                  | int _ t3 =>
                    refine V₃.tupE fun ax its n ho hρ hM Vs => ?_
                    have hlen := Vs.nthD
                    have kk := push_keep W₃.h { cls := .type "slice", data := .fields #[.int (.ofNat bl) t2, .int (.ofNat bh) t3, .none] }
                    have x₄ : Ext [] W₃ (W₃.at { W₃.s with heap := W₃.h.push { cls := .type "slice", data := .fields #[.int (.ofNat bl) t2, .int (.ofNat bh) t3, .none] } }) := Ext.keep [] kk
                    have I₄ := I₃.keep (s := { W₃.s with heap := W₃.h.push { cls := .type "slice", data := .fields #[.int (.ofNat bl) t2, .int (.ofNat bh) t3, .none] } }) kk I₃.gens rfl
                    have ho₄ := kk ax _ ho
                    refine tail_any (T := "tuple") (s := { W₃.s with heap := W₃.h.push { cls := .type "slice", data := .fields #[.int (.ofNat bl) t2, .int (.ofNat bh) t3, .none] } }) ⟨_, ho₄, rfl⟩ PyProof.Rows.slot_tuple_getitem.lookup ?_ rfl
                    refine getItem_tup_ab (a := bl) (b := bh) ⟨_, ho₄, rfl, n, rfl⟩ (Heap.IsSliceOf.new _ _ _ _) l1 l2 (by omega) ?_ (by omega)
                    exact Says.tup (n := 0) (W := W₃.at { W₃.s with heap := W₃.h.push { cls := .type "slice", data := .fields #[.int (.ofNat bl) t2, .int (.ofNat bh) t3, .none] } }) I₄ (((VRs.mono x₄ (fun _ h => nomatch h) Vs).drop bl).take (bh - bl)) (hQ.step (((x₁.trans x₂).trans x₃).trans x₄)) W₃.s.toks
      · (first | exact no_some hc | cases hc)
    · (first | exact no_some hc | cases hc)
  · (first | exact no_some hc | cases hc)
end
end Mine
end
section
open PySem PySem.W PyProof.Rows PySem.Calls PySem.SeqAt
set_option maxRecDepth 100000
namespace Mine
structure ItemOk (K : Frag) (c fI : Addr) : Prop where
  ns : noSeq K c = true
  fn : findIn K (.ref c) "__setitem__" = some (some (.ref fI))
  isf : isFn K (.ref fI) = true
theorem inst_set {M : Model} {A : Around} {E : Value → Shared → Prop} {s : Shared} {K : Frag} {x C f : Addr} {ox : Obj} {od : Option Obj} {i v : Value} {Q : Unit → Shared → Prop} (X : K.In s.heap) (I : InstAt s.heap x ox C od) (hq : noSeq K C = true) (hs : findIn K (.ref C) "__setitem__" = some (some (.ref f))) (hf : isFn K (.ref f) = true)
    (h : wpAny M A (call (.ref f) [.ref x, i, v]) (fun _ s' => Q () s') E s) : wpAny M A (setItem (.ref x) i v) Q E s := by
  unfold setItem sequenceKey
  refine wpAny_holding (wpAny_bind (wpAny_bind (I.type.here ?_)))
  refine wpAny_bind ((anyM_none X hq).here ?_)
  rw [if_pos (show (!false) = true from rfl)]
  exact wpAny_pure (wpAny_bind (special_fn X I hs (beq_iff_eq.mp hf) (wpAny_mono h (fun _ _ z => wpAny_pure z) fun _ _ z => z)))
theorem inst_at {C : Cst} {W : Wd} {μ : MH} (I : Inv C W μ) {n c dn : Nat} {f : Option (Nat × MV)} {a : Addr} (ha : W.ρ[n]? = some a) (h1 : μ.get n = some (.inst c dn)) (h2 : μ.get dn = some (.ns f)) : ∃ ox od, InstAt W.s.heap a ox c (some od) := by
  obtain ⟨b, e1, d, e2, e3⟩ := I.objs n _ h1
  have : b = a := Option.some.inj (e1.symm.trans ha)
  subst this
  refine ex1_2 (I.objs dn _ h2) fun d' e4 h => ?_
  have : d' = d := Option.some.inj (e4.symm.trans e2)
  subst this
  cases f with
  | none => exact ⟨_, _, e3, rfl, rfl, h⟩
  | some p =>
    obtain ⟨x, v⟩ := p
    refine ex3_2 h fun hs t pv h _ => ?_
    exact ⟨_, _, e3, rfl, rfl, h⟩
noncomputable def sSetInst (c : Nat) (f : List MV → MH → Option (MV × MH)) (a o i : Ev) : Es := fun ls μ => match a ls μ with
  | some (v, μ₁) => match o ls μ₁ with
    | some (.loc n, μ₂) => match i ls μ₂ with
      | some (kk, μ₃) => match μ₃.get n with
        | some (.inst c' dn) => bif Nat.beq c' c then match μ₃.get dn with
          | some (.ns _) => match f [.loc n, kk, v] μ₃ with
            | some (_, μ₄) => some (.next, ls, μ₄)
            | none => none
          | _ => none else none
        | _ => none
      | none => none
    | _ => none
  | none => none
section
variable {C : Cst} {D : Fd} {k : Nat}
theorem sim_setinst {e o i : Expr} {a b d : Ev} {c fI : Addr} {f : List MV → MH → Option (MV × MH)} (B : Basis C) (p pos : Pos) (ok : ItemOk (K C.w.params) c fI) (ha : SimE C D k e a) (ho : SimE C D k o b) (hi : SimE C D k i d) (hf : SimF C k fI plainA f) (sw : ∀ env, swapsWith e (some (.Subscript o i p)) pos.line env = pure false) : SimS C D k (.Assign [.Subscript o i p] e pos) (sSetInst c f a b d) := by
  intro ls μ fl ls' μ' h W env O A eo ao I F Q hQ
  unfold sSetInst at h
  split at h
  · rename_i v μ₁ h1
    split at h
    · rename_i n μ₂ h2
      split at h
      · rename_i kk μ₃ h3
        split at h
        · rename_i c' dn hg
          cases hc : Nat.beq c' c with
          | false => rw [hc] at h; (first | exact no_some h | cases h)
          | true =>
            rw [hc, cond_true] at h
            have ec := Nat.eq_of_beq_eq_true hc
            subst ec
            split at h
            · rename_i f' hg2
              split at h
              · rename_i r μ₄ h4
                (first | exact no_some h | cases h)
                refine wpAny_Assign_Subscript (ha ls μ v μ₁ h1 W env O A eo ao I F _ fun W₁ pv x₁ I₁ V₁ => ?_) (sw env)
                have F₁ := F.mono I x₁
                refine ho ls μ₁ _ μ₂ h2 W₁ env O A eo ao I₁ F₁ _ fun W₂ po x₂ I₂ V₂ => ?_
                have F₂ := F₁.mono I₁ x₂
                refine hi ls μ₂ _ μ₃ h3 W₂ env O A eo ao I₂ F₂ _ fun W₃ pi x₃ I₃ V₃ => ?_
                have F₃ := F₂.mono I₂ x₃
                have V₂' := VR.mono x₃ (fun _ h => nomatch h) V₂
                have V₁' := VR.mono (x₂.trans x₃) (fun _ h => nomatch h) V₁
                refine V₂'.locE fun ax hax => ?_
                refine ex2_1 (inst_at I₃ hax hg hg2) fun ox od IA => ?_
                refine inst_set (I₃.K B) IA ok.ns ok.fn ok.isf ?_
                exact hf.call h4 ao I₃ (.cons _ _ _ _ (.loc n ax hax) (.cons _ _ _ _ V₃ (.cons _ _ _ _ V₁' .nil))) fun W₄ pr x₄ I₄ V₄ => hQ W₄ _ (((x₁.trans x₂).trans x₃).trans x₄).lift I₄ (F₃.mono I₃ x₄) .next
              · (first | exact no_some h | cases h)
            · (first | exact no_some h | cases h)
        · (first | exact no_some h | cases h)
      · (first | exact no_some h | cases h)
    · (first | exact no_some h | cases h)
  · (first | exact no_some h | cases h)
end
theorem iok_head (P : Params) : ItemOk (K P) 284 197 := ⟨by kernel_rfl, by kernel_rfl, by kernel_rfl⟩
end Mine
end
section
open PySem PySem.W PyProof.Rows PySem.Calls PySem.SeqAt
set_option maxRecDepth 100000
namespace Mine

noncomputable def cTy (k : TyK) : Ev := fun _ μ => some (.ty k, μ)
noncomputable def cDict0 : Ev := fun _ μ => match μ.new (.dict []) with
  | some (n, μ') => some (.loc n, μ')
  | none => none
noncomputable def cDict1 (a b : Ev) : Ev := fun ls μ => match μ.new (.dict []) with
  | some (n, μ₁) => match a ls μ₁ with
    | some (.int i, μ₂) => match b ls μ₂ with
      | some (v, μ₃) => match μ₃.get n with
        | some (.dict es) => bif fitsD es then some (.loc n, μ₃.put n (.dict (dset es i v))) else none
        | _ => none
      | none => none
    | _ => none
  | none => none
noncomputable def bFail : Es := fun _ _ => none
noncomputable def okS : List Nat → Bool
  | [c] => letter c
  | [c, d] => Nat.beq c 49 && (Nat.ble 48 d && Nat.ble d 57)
  | _ => false
noncomputable def cConv (a b : Ev) : Ev := fun ls μ => match a ls μ with
  | some (.loc n, μ₁) => match μ₁.get n with
    | some (.inst c dn) => bif Nat.beq c 284 then match μ₁.get dn with
      | some (.ns (some _)) => match b ls μ₁ with
        | some (.str l, μ₂) => bif okS l then some (.str l, μ₂) else none
        | _ => none
      | _ => none else none
    | _ => none
  | _ => none
noncomputable def zipI : List Int → List Int → List MV
  | a :: r, b :: s => .int (a + b) :: zipI r s
  | _, _ => []
noncomputable def cZip (a b : Ev) : Ev := fun ls μ => match a ls μ with
  | some (.tup x, μ₁) => match b ls μ₁ with
    | some (.tup y, μ₂) => match intsOf x, intsOf y with
      | some i, some j => bif Nat.blt i.length 64 then bif Nat.beq i.length j.length then some (.tup (zipI i j), μ₂) else none else none
      | _, _ => none
    | _ => none
  | _ => none
noncomputable def sSliceAll (a o : Ev) : Es := fun ls μ => match a ls μ with
  | some (.loc m, μ₁) => match o ls μ₁ with
    | some (.loc n, μ₂) => match μ₂.get m, μ₂.get n with
      | some (.list v), some (.list w) => bif Nat.beq m n then none else bif fits v then bif fits w then some (.next, ls, μ₂.put n (.list v)) else none else none
      | _, _ => none
    | _ => none
  | _ => none
noncomputable def sDelInst (c : Nat) (f : List MV → MH → Option (MV × MH)) (o i : Ev) : Es := fun ls μ => match o ls μ with
  | some (.loc n, μ₁) => match i ls μ₁ with
    | some (kk, μ₂) => match μ₂.get n with
      | some (.inst c' dn) => bif Nat.beq c' c then match μ₂.get dn with
        | some (.ns _) => match f [.loc n, kk] μ₂ with
          | some (_, μ₃) => some (.next, ls, μ₃)
          | none => none
        | _ => none else none
      | _ => none
    | none => none
  | _ => none
noncomputable def ltN (a : Int) (b : Nat) : Bool := Nat.blt a.natAbs b
noncomputable def f_divmod : List MV → MH → Option (MV × MH) := fun a μ => match a with
  | [.int x, .int y] => bif isZ y then none else bif Nat.blt μ.next 900 && (ltN x 200000 && ltN y 4096) then some (.tup [.int (x.fdiv y), .int (x.fmod y)], μ) else none
  | [.lin x c, .int y] => bif isZ y then none else bif Nat.blt μ.next 900 && (ltN x 100 && (ltN c 1000 && ltN y 4096)) then bif isZ (x.fmod y) then some (.tup [mkLin (x.fdiv y) (c.fdiv y), .int (c.fmod y)], μ) else none else none
  | _ => none
noncomputable def f_ifs : List MV → MH → Option (MV × MH) := fun a μ => match a with
  | [.str [c, d]] => bif okS [c, d] then some (.int (.ofNat (d - 38)), μ) else none
  | _ => none
end Mine
end
section
open PySem PySem.W PyProof.Rows PySem.Calls PySem.SeqAt
set_option maxRecDepth 100000
namespace Mine
noncomputable def D_cinit : Fd := ⟨(mD 3 0).2.2, [], none⟩
noncomputable def g_cinit : Es := (bCons (sSetAttr 62 0 (cVar 101) (cVar 100)) bNil)
noncomputable def f_cinit : List MV → MH → Option (MV × MH) := fRun [100, 101] [] g_cinit
noncomputable def D_cmp : Fd := ⟨(mD 3 1).2.2, [], none⟩
noncomputable def g_cmp : Es := (bCons (sFor (iOf (cAttrL 62 0 (cVar 100))) (aTup [103, 104]) (bCons (sSet 105 (cBin gItem (cVar 89) (cVar 103))) (bCons (sSet 46 (cBin gItem (cVar 102) (cVar 103))) (bCons (sIf (tOf (cBin oLt (cVar 105) (cVar 46))) (bCons (sRet (cNeg (cVar 104))) bNil) bNil) (bCons (sIf (tOf (cBin oGt (cVar 105) (cVar 46))) (bCons (sRet (cVar 104)) bNil) bNil) bNil))))) (bCons (sRet (cInt 0)) bNil))
noncomputable def f_cmp : List MV → MH → Option (MV × MH) := fRun [100, 89, 102] [] g_cmp
noncomputable def D_addc : Fd := ⟨(tD 5).2.2, [], (some (79, "add_callers.<locals>."))⟩
noncomputable def g_addc : Es := (bCons (sSet 12 cDict0) (bCons (sFor (iItems (cVar 0)) (aTup [13, 14]) (bCons (sSetItem (cVar 14) (cVar 12) (cVar 13)) bNil)) (bCons (sFor (iItems (cVar 1)) (aTup [13, 14]) (bCons (sIf (tOf (cBin oIn (cVar 13) (cVar 12))) (bCons (sIf (tOf (cCall bIsTup (lCons (cVar 14) (lCons (cTy .tuple) lNil)))) (bCons (sSetItem (cZip (cVar 14) (cBin gItem (cVar 12) (cVar 13))) (cVar 12) (cVar 13)) bNil) bFail) bNil) (bCons (sSetItem (cVar 14) (cVar 12) (cVar 13)) bNil)) bNil)) (bCons (sRet (cVar 12)) bNil))))
noncomputable def f_addc : List MV → MH → Option (MV × MH) := fRun [0, 1] [] g_addc
noncomputable def D_addf : Fd := ⟨(tD 4).2.2, [], none⟩
noncomputable def g_addf : Es := (bCons (sSetA (aTup [2, 3, 4, 5, 6]) (cVar 1)) (bCons (sSetA (aTup [7, 8, 9, 10, 11]) (cVar 0)) (bCons (sRet (cTup (lCons (cBin oAdd (cVar 2) (cVar 7)) (lCons (cBin oAdd (cVar 3) (cVar 8)) (lCons (cBin oAdd (cVar 4) (cVar 9)) (lCons (cBin oAdd (cVar 5) (cVar 10)) (lCons (cCall f_addc (lCons (cVar 11) (lCons (cVar 6) lNil))) lNil))))))) bNil)))
noncomputable def f_addf : List MV → MH → Option (MV × MH) := fRun [0, 1] [] g_addf
noncomputable def D_cnt : Fd := ⟨(tD 6).2.2, [], none⟩
noncomputable def g_cnt : Es := (bCons (sSet 3 (cInt 0)) (bCons (sFor (iVals (cVar 6)) (aName 17) (bCons (sAug 3 (cVar 17)) bNil)) (bCons (sRet (cVar 3)) bNil)))
noncomputable def f_cnt : List MV → MH → Option (MV × MH) := fRun [6] [] g_cnt
noncomputable def D_hinit : Fd := ⟨(mD 21 0).2.2, [], none⟩
noncomputable def g_hinit : Es := (bCons (sSet 106 (cIf (tOf (cBin oIsNot (cVar 106) cNone)) (cVar 106) (cList lNil))) (bCons (sIf (tOf (cBin oIsNot (cCall bType (lCons (cVar 106) lNil)) (cTy .list))) bFail bNil) (bCons (sSetAttr 284 1 (cVar 106) (cVar 100)) (bCons (sIf (tOf (cBool true)) (bCons (sFor (iOf (cVar 106)) (aTup [64, 95]) bFail) bNil) bNil) bNil))))
noncomputable def f_hinit : List MV → MH → Option (MV × MH) := fRun [100, 106] [.none] g_hinit
noncomputable def D_hdel : Fd := ⟨(mD 21 4).2.2, [68], none⟩
noncomputable def g_hdel : Es := (bCons (sSet 68 (cConv (cVar 100) (cMeth .str (cVar 68) lNil mLower))) (bCons (sSliceAll (cComp (iOf (cAttrL 284 1 (cVar 100))) [68] (aName 110) (tOf (cBin oNe (cMeth .str (cBin gItem (cVar 110) (cInt 0)) lNil mLower) (cVar 68))) (cVar 110)) (cAttrL 284 1 (cVar 100))) bNil))
noncomputable def f_hdel : List MV → MH → Option (MV × MH) := fRun [100, 68] [] g_hdel
noncomputable def D_hset : Fd := ⟨(mD 21 3).2.2, [], none⟩
noncomputable def g_hset : Es := (bCons (sDelInst 284 f_hdel (cVar 100) (cVar 68)) (bCons (sExpr (cMeth .list (cAttrL 284 1 (cVar 100)) (lCons (cTup (lCons (cConv (cVar 100) (cVar 68)) (lCons (cConv (cVar 100) (cVar 109)) lNil))) lNil) mAppend)) bNil))
noncomputable def f_hset : List MV → MH → Option (MV × MH) := fRun [100, 68, 109] [] g_hset
noncomputable def D_hget : Fd := ⟨(mD 21 8).2.2, [], none⟩
noncomputable def g_hget : Es := (bCons (sSet 68 (cConv (cVar 100) (cMeth .str (cVar 68) lNil mLower))) (bCons (sFor (iOf (cAttrL 284 1 (cVar 100))) (aTup [64, 95]) (bCons (sIf (tOf (cBin oEq (cMeth .str (cVar 64) lNil mLower) (cVar 68))) (bCons (sRet (cVar 95)) bNil) bNil) bNil)) (bCons (sRet (cVar 111)) bNil)))
noncomputable def f_hget : List MV → MH → Option (MV × MH) := fRun [100, 68, 111] [.none] g_hget
noncomputable def D_hkeys : Fd := ⟨(mD 21 9).2.2, [], none⟩
noncomputable def g_hkeys : Es := (bCons (sRet (cComp (iOf (cAttrL 284 1 (cVar 100))) [] (aTup [64, 95]) tYes (cVar 64))) bNil)
noncomputable def f_hkeys : List MV → MH → Option (MV × MH) := fRun [100] [] g_hkeys
noncomputable def D_hitems : Fd := ⟨(mD 21 11).2.2, [], none⟩
noncomputable def g_hitems : Es := (bCons (sRet (cSlice (cAttrL 284 1 (cVar 100)) pNone pNone)) bNil)
noncomputable def f_hitems : List MV → MH → Option (MV × MH) := fRun [100] [] g_hitems
noncomputable def D_drawn : Fd := ⟨(tD 23).2.2, [60], none⟩
noncomputable def g_drawn : Es := (bCons (sSet 61 (cCall bSum (lCons (cComp (iRng (lCons (cCall bLen (lCons (cVar 60) lNil)) lNil)) [60] (aName 64) (tOf (cBin oEq (cBin oMod (cVar 64) (cInt 2)) (cInt 0))) (cBin gItem (cVar 60) (cVar 64))) lNil))) (bCons (sSet 62 (cBin oAdd (cInt 3) (cCall bSum (lCons (cComp (iRng (lCons (cCall bLen (lCons (cVar 60) lNil)) lNil)) [60] (aName 64) (tOf (cBin oEq (cBin oMod (cVar 64) (cInt 2)) (cInt 1))) (cBin gItem (cVar 60) (cVar 64))) lNil)))) (bCons (sSet 63 (cBin gItem (cList (lCons (cInt 7) (lCons (cInt 8) (lCons (cInt 9) (lCons (cInt 5) lNil))))) (cBin oMod (cCall bAbs (lCons (cVar 61) lNil)) (cInt 4)))) (bCons (sIf (tOf (cBin oLt (cVar 61) (cInt 0))) (bCons (sSet 63 (cNeg (cVar 63))) bNil) bNil) (bCons (sRet (cTup (lCons (cVar 63) (lCons (cIf (tOf (cBin oGe (cVar 62) (cInt 0))) (cBin oMod (cVar 62) (cInt 10000)) (cNeg (cBin oMod (cNeg (cVar 62)) (cInt 10000)))) lNil)))) bNil)))))
noncomputable def f_drawn : List MV → MH → Option (MV × MH) := fRun [60] [] g_drawn
noncomputable def D_rows : Fd := ⟨(tD 24).2.2, [], none⟩
noncomputable def g_rows : Es := (bCons (sSet 66 (cList (lCons (cCall f_divmod (lCons (cInt 0) (lCons (cVar 63) lNil))) lNil))) (bCons (sFor (iRng (lCons (cInt 1) (lCons (cBin oAdd (cCall bAbs (lCons (cVar 63) lNil)) (cInt 1)) lNil))) (aName 15) (bCons (sSet 67 (cCall f_divmod (lCons (cBin oMulA (cVar 65) (cVar 15)) (lCons (cVar 63) lNil)))) (bCons (sIf (tOf (cBin oEq (cBin gItem (cVar 67) (cInt 1)) (cInt 0))) (bCons (sRet (cVar 66)) bNil) bNil) (bCons (sExpr (cMeth .list (cVar 66) (lCons (cVar 67) lNil) mAppend)) bNil)))) (bCons (sRet (cVar 66)) bNil)))
noncomputable def f_rows : List MV → MH → Option (MV × MH) := fRun [65, 63] [] g_rows
noncomputable def D_other : Fd := ⟨(tD 25).2.2, [], none⟩
noncomputable def g_other : Es := (bCons (sRet (cIf (tOf (cBin oIn (cVar 68) (cStr [65, 66, 67, 68, 69, 70, 71, 72, 73]))) (cMeth .str (cVar 68) lNil mLower) (cMeth .str (cVar 68) lNil mUpper))) bNil)
noncomputable def f_other : List MV → MH → Option (MV × MH) := fRun [68] [] g_other
noncomputable def D_sorted : Fd := ⟨(tD 26).2.2, [], none⟩
noncomputable def g_sorted : Es := (bCons (sSet 69 (cMake 284 f_hinit lNil)) (bCons (sSet 70 (cIf (tOf (cBin oGt (cVar 63) (cInt 0))) (cInt 1) (cNeg (cInt 1)))) (bCons (sSet 71 (cMake 62 f_cinit (lCons (cList (lCons (cTup (lCons (cInt 2) (lCons (cNeg (cVar 70)) lNil))) (lCons (cTup (lCons (cInt 3) (lCons (cVar 70) lNil))) lNil))) lNil))) (bCons (sSet 72 (cComp (iOf (cVar 66)) [] (aName 67) tYes (cBin oAdd (cVar 67) (cCall f_divmod (lCons (cBin gItem (cVar 67) (cInt 1)) (lCons (cNeg (cInt 3)) lNil)))))) (bCons (sSet 73 (cTup (lCons (cInt 0) (lCons (cInt 0) (lCons (cInt 0) (lCons (cInt 0) (lCons cDict0 lNil))))))) (bCons (sSet 74 (cList lNil)) (bCons (sSet 75 cDict0) (bCons (sFor (iRng (lCons (cCall bLen (lCons (cVar 66) lNil)) lNil)) (aName 15) (bCons (sSetInst 284 f_hset (cCall bStr (lCons (cBin oAdd (cInt 10) (cVar 15)) lNil)) (cVar 69) (cBin gItem (cStr [97, 98, 99, 100, 101, 102, 103, 104, 105]) (cVar 15))) (bCons (sExpr (cMeth .list (cVar 74) (lCons (cList lNil) lNil) mAppend)) (bCons (sFor (iOf (cMCall 284 f_hkeys (cVar 69) lNil)) (aName 68) (bCons (sSet 16 (cBin oSub (cCall f_ifs (lCons (cMCall 284 f_hget (cVar 69) (lCons (cCall f_other (lCons (cVar 68) lNil)) lNil)) lNil)) (cInt 10))) (bCons (sExpr (cMeth .list (cBin gItem (cVar 74) (cVar 15)) (lCons (cMCall 62 f_cmp (cVar 71) (lCons (cBin gItem (cVar 72) (cVar 16)) (lCons (cBin gItem (cVar 72) (cVar 15)) lNil))) lNil) mAppend)) (bCons (sIf (tOf (cBin oEq (cBin gItem (cBin gItem (cVar 74) (cVar 15)) (cNeg (cInt 1))) (cInt 1))) (bCons (sSetInst 284 f_hset (cCall bStr (lCons (cBin oAdd (cInt 10) (cVar 16)) lNil)) (cVar 69) (cCall f_other (lCons (cVar 68) lNil))) (bCons (sSet 76 (cBin oSub (cBin gItem (cBin gItem (cVar 66) (cVar 16)) (cInt 1)) (cBin gItem (cBin gItem (cVar 66) (cVar 15)) (cInt 1)))) (bCons (sSet 77 (cTup (lCons (cVar 15) (lCons (cInt 1) (lCons (cBin oSub (cVar 15) (cVar 16)) (lCons (cVar 76) (lCons (cDict1 (cVar 15) (cTup (lCons (cInt 1) (lCons (cBin oSub (cVar 15) (cVar 16)) (lCons (cVar 76) lNil))))) lNil))))))) (bCons (sSetItem (cCall f_addf (lCons (cMeth .dict (cVar 75) (lCons (cVar 16) (lCons (cVar 73) lNil)) mGet) (lCons (cVar 77) lNil))) (cVar 75) (cVar 16)) bNil)))) bNil) bNil)))) bNil)))) (bCons (sRet (cTup (lCons (cVar 74) (lCons (cMCall 284 f_hitems (cVar 69) lNil) (lCons (cVar 75) lNil))))) bNil)))))))))
noncomputable def f_sorted : List MV → MH → Option (MV × MH) := fRun [66, 63] [] g_sorted
noncomputable def D_total : Fd := ⟨(tD 27).2.2, [], none⟩
noncomputable def g_total : Es := (bCons (sSet 78 (cTup (lCons (cInt 0) (lCons (cInt 0) (lCons (cInt 0) (lCons (cInt 0) (lCons cDict0 lNil))))))) (bCons (sFor (iOf (cVar 75)) (aName 79) (bCons (sSet 78 (cCall f_addf (lCons (cVar 78) (lCons (cBin gItem (cVar 75) (cVar 79)) lNil)))) bNil)) (bCons (sRet (cVar 78)) bNil)))
noncomputable def f_total : List MV → MH → Option (MV × MH) := fRun [75] [] g_total
noncomputable def e_last (j : Int) : Ev := cBin gItem (cBin gItem (cVar 81) (cInt (-1))) (cInt j)
noncomputable def sTry0 : Es := sIf (tOf (cBin oEq (e_last 0) (cInt 0))) (bCons (sSet 82 (e_last 1)) bNil) (bCons (sExpr (cMeth .list (cVar 81) (lCons (cTup (lCons (cBin gItem (cCall f_divmod (lCons (e_last 1) (lCons (e_last 0) lNil))) (cInt 1)) (lCons (e_last 0) lNil))) lNil) mAppend)) bNil)
noncomputable def sTry : Es := fun ls μ => match look ls 81 with
  | some p => bif isKT .list p μ then sTry0 ls μ else none
  | none => none
noncomputable def D_run : Fd := ⟨(tD 28).2.2, [], none⟩
noncomputable def g_run : Es := (bCons (sSet 81 (cList (lCons (cTup (lCons (cVar 80) (lCons (cVar 63) lNil))) lNil))) (bCons (sSet 82 (cInt 0)) (bCons (sWhile (tOf (cBin oEq (cVar 82) (cInt 0))) (bCons sTry bNil)) (bCons (sSet 83 (cInt 0)) (bCons (sSet 84 (cList lNil)) (bCons (sFor (iRev (lCons (cSlice (cVar 81) pNone (pSome (cNeg (cInt 1)))) lNil)) (aName 67) (bCons (sSetA (aTup [85, 86]) (cCall f_divmod (lCons (cBin gItem (cVar 67) (cInt 0)) (lCons (cVar 82) lNil)))) (bCons (sSetA (aTup [87, 88]) (cCall f_divmod (lCons (cBin gItem (cVar 67) (cInt 1)) (lCons (cVar 82) lNil)))) (bCons (sSetA (aTup [83, 89]) (cCall f_divmod (lCons (cBin oSub (cBin oMulA (cBin oMulA (cBin oSub (cVar 85) (cInt 1)) (cBin oSub (cVar 87) (cInt 1))) (cBin oSub (cBin oAdd (cVar 85) (cVar 87)) (cInt 1))) (cBin oMulA (cBin oMulA (cInt 4) (cVar 87)) (cVar 83))) (lCons (cBin oMulA (cInt 4) (cVar 85)) lNil)))) (bCons (sExpr (cMeth .list (cVar 84) (lCons (cList (lCons (cVar 86) (lCons (cVar 88) (lCons (cVar 89) lNil)))) lNil) mExtend)) bNil))))) (bCons (sRet (cTup (lCons (cVar 82) (lCons (cVar 83) (lCons (cVar 84) lNil))))) bNil)))))))
noncomputable def f_run : List MV → MH → Option (MV × MH) := fRun [80, 63] [] g_run
noncomputable def D_due : Fd := ⟨(tD 29).2.2, [15, 63, 65, 66, 90, 91], none⟩
noncomputable def g_due : Es := (bCons (sSet 72 (cBin gItem (cComp (iRng (lCons (cInt 1) (lCons (cBin oAdd (cCall bAbs (lCons (cVar 63) lNil)) (cInt 1)) lNil))) [63, 65] (aName 15) (tOf (cBin oEq (cBin oMod (cBin oMulA (cVar 65) (cVar 15)) (cVar 63)) (cInt 0))) (cVar 15)) (cInt 0))) (bCons (sSet 66 (cComp (iRng (lCons (cVar 72) lNil)) [63, 65] (aName 15) tYes (cTup (lCons (cBin oDiv (cBin oMulA (cVar 65) (cVar 15)) (cVar 63)) (lCons (cBin oMod (cBin oMulA (cVar 65) (cVar 15)) (cVar 63)) lNil))))) (bCons (sSet 90 (cComp (iOf (cVar 66)) [] (aTup [96, 80]) tYes (cCall bAbs (lCons (cVar 80) lNil)))) (bCons (sSet 74 (cList lNil)) (bCons (sSet 91 (cList lNil)) (bCons (sSet 75 cDict0) (bCons (sFor (iRng (lCons (cVar 72) lNil)) (aName 15) (bCons (sSet 93 (cComp (iOf (cSlice (cVar 90) pNone (pSome (cVar 15)))) [15, 90] (aName 95) (tOf (cBin oLt (cVar 95) (cBin gItem (cVar 90) (cVar 15)))) (cVar 95))) (bCons (sExpr (cMeth .list (cVar 74) (lCons (cBin oAdd (cBin oAdd (cBin oMulA (cList (lCons (cNeg (cInt 1)) lNil)) (cCall bLen (lCons (cVar 93) lNil))) (cBin oMulA (cList (lCons (cInt 1) lNil)) (cBin oSub (cVar 15) (cCall bLen (lCons (cVar 93) lNil))))) (cList (lCons (cInt 0) lNil))) lNil) mAppend)) (bCons (sSet 94 (cComp (iRng (lCons (cBin oAdd (cVar 15) (cInt 1)) (lCons (cVar 72) lNil))) [15, 90] (aName 64) (tOf (cBin oLt (cBin gItem (cVar 90) (cVar 64)) (cBin gItem (cVar 90) (cVar 15)))) (cVar 64))) (bCons (sExpr (cMeth .list (cVar 91) (lCons (cIf (tOf (cBin oEq (cBin oMod (cCall bLen (lCons (cVar 94) lNil)) (cInt 2)) (cInt 0))) (cBin gItem (cStr [97, 98, 99, 100, 101, 102, 103, 104, 105]) (cVar 15)) (cBin gItem (cStr [65, 66, 67, 68, 69, 70, 71, 72, 73]) (cVar 15))) lNil) mAppend)) (bCons (sIf (tOf (cBin oNe (cVar 94) (cList lNil))) (bCons (sSet 76 (cComp (iOf (cVar 94)) [15, 66] (aName 64) tYes (cBin oSub (cBin gItem (cBin gItem (cVar 66) (cVar 15)) (cInt 1)) (cBin gItem (cBin gItem (cVar 66) (cVar 64)) (cInt 1))))) (bCons (sSet 6 (cDComp (iOf (cVar 94)) [15, 66] (aName 64) (cVar 64) (cTup (lCons (cInt 1) (lCons (cBin oSub (cVar 64) (cVar 15)) (lCons (cBin oSub (cBin gItem (cBin gItem (cVar 66) (cVar 15)) (cInt 1)) (cBin gItem (cBin gItem (cVar 66) (cVar 64)) (cInt 1))) lNil)))))) (bCons (sSetItem (cTup (lCons (cCall bSum (lCons (cVar 94) lNil)) (lCons (cCall bLen (lCons (cVar 94) lNil)) (lCons (cBin oSub (cCall bSum (lCons (cVar 94) lNil)) (cBin oMulA (cVar 15) (cCall bLen (lCons (cVar 94) lNil)))) (lCons (cCall bSum (lCons (cVar 76) lNil)) (lCons (cVar 6) lNil)))))) (cVar 75) (cVar 15)) bNil))) bNil) bNil)))))) (bCons (sSet 92 (cComp (iOf (cCall bSorted (lCons (cVar 90) lNil))) [90] (aName 95) tYes (cMeth .list (cVar 90) (lCons (cVar 95) lNil) mIndex))) (bCons (sRet (cTup (lCons (cVar 66) (lCons (cVar 74) (lCons (cComp (iOf (cVar 92)) [91] (aName 15) tYes (cTup (lCons (cBin gItem (cVar 91) (cVar 15)) (lCons (cCall bStr (lCons (cBin oAdd (cInt 10) (cVar 15)) lNil)) lNil)))) (lCons (cVar 75) lNil)))))) bNil)))))))))
noncomputable def f_due : List MV → MH → Option (MV × MH) := fRun [65, 63] [] g_due
noncomputable def D_law : Fd := ⟨(tD 30).2.2, [78], none⟩
noncomputable def g_lawT : Es := (bCons (sSet 66 (cCall f_rows (lCons (cVar 65) (lCons (cVar 63) lNil)))) (bCons (sSetA (aTup [74, 98, 75]) (cCall f_sorted (lCons (cVar 66) (lCons (cVar 63) lNil)))) (bCons (sIf (tOf (cBin oNe (cTup (lCons (cVar 66) (lCons (cVar 74) (lCons (cVar 98) (lCons (cVar 75) lNil))))) (cCall f_due (lCons (cVar 65) (lCons (cVar 63) lNil))))) (bCons (sRet (cBool false)) bNil) bNil) (bCons (sSet 78 (cCall f_total (lCons (cVar 75) lNil))) (bCons (sSet 97 (cComp (iRng (lCons (cInt 3) lNil)) [78] (aName 99) tYes (cCall f_cnt (lCons (cDComp (iOf (cBin gItem (cVar 78) (cInt 4))) [78, 99] (aName 64) (cVar 64) (cBin gItem (cBin gItem (cBin gItem (cVar 78) (cInt 4)) (cVar 64)) (cVar 99))) lNil)))) (bCons (sSetA (aTup [82, 83, 84]) (cCall f_run (lCons (cBin gItem (cCall f_divmod (lCons (cVar 65) (lCons (cVar 63) lNil))) (cInt 1)) (lCons (cVar 63) lNil)))) (bCons (sIf (tOr (tOf (cBin oNe (cVar 84) (cBin oMulA (cList (lCons (cInt 0) lNil)) (cCall bLen (lCons (cVar 84) lNil))))) (tOr (tOf (cBin oNe (cCall bList (lCons (cSliceT (cVar 78) (pSome (cInt 1)) (pSome (cInt 4))) lNil)) (cVar 97))) tNo)) (bCons (sRet (cBool false)) bNil) bNil) (bCons (sRet (cAnd (cBin oEq (cBin gItem (cVar 97) (cInt 0)) (cVar 83)) (cAnd (cBin oEq (cBin oMulA (cInt 3) (cBin gItem (cVar 97) (cInt 1))) (cBin oMulA (cCall bLen (lCons (cVar 66) lNil)) (cVar 83))) (cBin oEq (cBin gItem (cVar 97) (cInt 2)) (cBin oMulA (cVar 82) (cBin gItem (cVar 97) (cInt 1))))))) bNil))))))))
noncomputable def g_law : Es := (bCons (sSetA (aTup [63, 65]) (cCall f_drawn (lCons (cVar 60) lNil))) g_lawT)
noncomputable def f_law : List MV → MH → Option (MV × MH) := fRun [60] [] g_law
end Mine
end
section
open PySem PySem.W PyProof.Rows PySem.Calls PySem.SeqAt
set_option maxRecDepth 100000
namespace Mine
theorem sub_plain {sl : Expr} (h : ∀ o i, subscripted sl false o i = operate [o, i] (getItem o i)) : ∀ o i, ∃ ops, subscripted sl false o i = operate ops (getItem o i) := fun o i => ⟨_, h o i⟩
section
variable {C : Cst} {D : Fd} {k : Nat}
theorem sim_ty {e : Expr} (t : TyK) (hx : Fix C D e (.type t.name)) : SimE C D k e (cTy t) := by
  intro ls μ v μ' h W env O A eo ao I F Q hQ
  (first | exact no_some h | cases h)
  exact hx W μ env A eo I _ (hQ W _ (Ext.refl _ _) I (.ty t))
theorem sim_debug (pos : Pos) : SimE C D k (.Name "__debug__" pos) (cBool true) := by
  intro ls μ v μ' h W env O A eo ao I F Q hQ
  (first | exact no_some h | cases h)
  rw [arm_eval_Name]
  refine wpAny_bind (wpAny_standAt ?_)
  rw [if_pos (by decide)]
  exact wpAny_bind (wpAny_rule (wpAny_pure (hQ.bool I)))
theorem sim_fail {b : List Stmt} : SimB C D k b bFail := by
  intro ls μ fl ls' μ' h; (first | exact no_some h | cases h)
theorem sim_dict0 (pos : Pos) : SimE C D k (.Dict [] [] pos) cDict0 := by
  intro ls μ v μ' h W env O A eo ao I F Q hQ
  unfold cDict0 at h
  split at h
  · rename_i n μ₁ hn
    (first | exact no_some h | cases h)
    exact wpAny_Dict_empty (Says.dict I hn hQ W.s.toks)
  · (first | exact no_some h | cases h)
theorem sim_dict1 {kx vx : Expr} {a b : Ev} (B : Basis C) (pos : Pos) (ha : SimE C D k kx a) (hb : SimE C D k vx b) : SimE C D k (.Dict [some kx] [vx] pos) (cDict1 a b) := by
  intro ls μ v μ' h W env O A eo ao I F Q hQ
  unfold cDict1 at h
  split at h
  · rename_i n μ₁ hn
    split at h
    · rename_i i μ₂ h1
      split at h
      · rename_i x μ₃ h2
        split at h
        · rename_i es hg
          cases hf : fitsD es with
          | false => rw [hf] at h; (first | exact no_some h | cases h)
          | true =>
            rw [hf, cond_true] at h; (first | exact no_some h | cases h)
            refine wpAny_Dict_any rfl rfl (by simp) (by simp) ?_
            refine Says.dict (Q := fun pv s' => pv = .ref W.h.objs.size → wpAny (model P0 C.w) A (evalPairs (pairTrees [some kx] [vx] env pos)) (fun vs s₁ => wpAny (model P0 C.w) A (storeAll W.s.heap.objs.size vs) (fun _ s₂ => Q (.ref W.s.heap.objs.size) s₂) NoE s₁) NoE s') I hn ?_ W.s.toks rfl
            intro W₀ pd x₀ I₀ V₀ hpd
            subst hpd
            have F₀ := F.mono I x₀
            refine pairTrees_cons_walk (ha ls μ₁ _ μ₂ h1 W₀ env O A eo ao I₀ F₀ _ fun W₁ pk x₁ I₁ V₁ => ?_)
            refine hb ls μ₂ x μ₃ h2 W₁ env O A eo ao I₁ (F₀.mono I₀ x₁) _ fun W₂ pv x₂ I₂ V₂ => ?_
            refine pairTrees_nil_walk ?_
            refine V₁.intE fun t => ?_
            have V₀' := VR.mono (x₁.trans x₂) (fun _ h => nomatch h) V₀
            have hax := V₀'.locR
            unfold storeAll
            rw [List.forIn_cons]
            refine wpAny_bind (wpAny_bind (dict_put B I₂ hax hg hf V₂ fun W₃ x₃ I₃ => wpAny_pure ?_))
            refine wpAny_pure ?_
            exact hQ W₃ _ (((x₀.trans x₁).trans x₂).trans x₃) I₃ (.loc n _ (x₃.pre n _ hax))
        · (first | exact no_some h | cases h)
      · (first | exact no_some h | cases h)
    · (first | exact no_some h | cases h)
  · (first | exact no_some h | cases h)
end
end Mine
end
section
open PySem PySem.W PyProof.Rows PySem.Calls PySem.SeqAt
set_option maxRecDepth 100000
namespace Mine
structure DelOk (K : Frag) (c fI : Addr) : Prop where
  ns : noSeq K c = true
  fn : findIn K (.ref c) "__delitem__" = some (some (.ref fI))
  isf : isFn K (.ref fI) = true
theorem dok_head (P : Params) : DelOk (K P) 284 202 := ⟨by kernel_rfl, by kernel_rfl, by kernel_rfl⟩
theorem inst_del {M : Model} {A : Around} {E : Value → Shared → Prop} {s : Shared} {K : Frag} {x C f : Addr} {ox : Obj} {od : Option Obj} {i : Value} {Q : Unit → Shared → Prop} (X : K.In s.heap) (I : InstAt s.heap x ox C od) (hq : noSeq K C = true) (hs : findIn K (.ref C) "__delitem__" = some (some (.ref f))) (hf : isFn K (.ref f) = true)
    (h : wpAny M A (call (.ref f) [.ref x, i]) (fun _ s' => Q () s') E s) : wpAny M A (delItem (.ref x) i) Q E s := by
  unfold delItem sequenceKey
  refine wpAny_holding (wpAny_bind (wpAny_bind (I.type.here ?_)))
  refine wpAny_bind ((anyM_none X hq).here ?_)
  rw [if_pos (show (!false) = true from rfl)]
  exact wpAny_pure (wpAny_bind (special_fn X I hs (beq_iff_eq.mp hf) (wpAny_mono h (fun _ _ z => wpAny_pure z) fun _ _ z => z)))
section
variable {C : Cst} {D : Fd} {k : Nat}
theorem sim_delinst {o i : Expr} {a b : Ev} {c fI : Addr} {f : List MV → MH → Option (MV × MH)} (B : Basis C) (p pos : Pos) (ok : DelOk (K C.w.params) c fI) (ho : SimE C D k o a) (hi : SimE C D k i b) (hf : SimF C k fI plainA f) : SimS C D k (.Delete [.Subscript o i p] pos) (sDelInst c f a b) := by
  intro ls μ fl ls' μ' h W env O A eo ao I F Q hQ
  unfold sDelInst at h
  split at h
  · rename_i n μ₁ h1
    split at h
    · rename_i kk μ₂ h2
      split at h
      · rename_i c' dn hg
        cases hc : Nat.beq c' c with
        | false => rw [hc] at h; (first | exact no_some h | cases h)
        | true =>
          rw [hc, cond_true] at h
          have ec := Nat.eq_of_beq_eq_true hc
          subst ec
          split at h
          · rename_i f' hg2
            split at h
            · rename_i r μ₃ h3
              (first | exact no_some h | cases h)
              rw [arm_exec_Delete]
              refine wpAny_bind (wpAny_standAt (wpAny_bind ?_))
              show wpAny _ _ (delete (.Subscript o i p) env >>= fun _ => deleteEach [] env) _ _ _
              refine wpAny_bind (wpAny_delete_Subscript (ho ls μ _ μ₁ h1 W env O A eo ao I F _ fun W₁ po x₁ I₁ V₁ => ?_))
              have F₁ := F.mono I x₁
              refine hi ls μ₁ _ μ₂ h2 W₁ env O A eo ao I₁ F₁ _ fun W₂ pi x₂ I₂ V₂ => ?_
              have F₂ := F₁.mono I₁ x₂
              have V₁' := VR.mono x₂ (fun _ h => nomatch h) V₁
              refine V₁'.locE fun ax hax => ?_
              refine ex2_1 (inst_at I₂ hax hg hg2) fun ox od IA => ?_
              refine inst_del (I₂.K B) IA ok.ns ok.fn ok.isf ?_
              exact hf.call h3 ao I₂ (.cons _ _ _ _ (.loc n ax hax) (.cons _ _ _ _ V₂ .nil)) fun W₃ pr x₃ I₃ V₃ => wpAny_pure (wpAny_pure (hQ W₃ _ ((x₁.trans x₂).trans x₃).lift I₃ (F₂.mono I₂ x₃) .next))
            · (first | exact no_some h | cases h)
          · (first | exact no_some h | cases h)
      · (first | exact no_some h | cases h)
    · (first | exact no_some h | cases h)
  · (first | exact no_some h | cases h)
theorem setItem_slice {prog : Program} {w : World} {A : Around} {E : Value → Shared → Prop} {s : Shared} {l sl b : Addr} {items new : Array Value} {n n2 : Nat} {Q : Unit → Shared → Prop} (hl : s.heap.get? l = some { cls := .type "list", data := .seq items n }) (hb : s.heap.get? b = some { cls := .type "list", data := .seq new n2 }) (hne : (l == b) = false)
    (hs : s.heap.IsSliceOf sl .none .none .none) (h1 : items.size ≤ 4096) (h2 : new.size ≤ 4096)
    (hQ : ∀ h', Heap.SameBut l s.heap h' → (∃ c, h'.get? l = some { cls := .type "list", data := .seq new c }) → Q () { s with heap := h' }) : wpAny (model prog w) A (setItem (.ref l) (.ref sl) (.ref b)) Q E s := by
  have hT : s.TypeIs (.ref l) "list" := ⟨_, hl, rfl⟩
  have hTb : s.TypeIs (.ref b) "list" := ⟨_, hb, rfl⟩
  refine ex1_3 (id hs) fun os hos hcs hds => ?_
  have hTs : s.TypeIs (.ref sl) "slice" := ⟨os, hos, hcs⟩
  unfold setItem
  try with_reducible refine wpAny_holding ?_
  refine wpAny_bind (wpAny_sequenceKey hT (by decide) ?_)
  refine wpAny_bind (wpAny_callSpecial?_slot (name := Str.ofString "__setitem__") hT slot_list_setitem
    (wpAny_call_entry slot_list_setitem hT entry_list_setitem ?_ (args_list_setitem _ _ _)))
  show wpAny _ _ (Builtin.List.listSubscript? (.ref sl) >>= _) _ _ s
  refine wpAny_bind ?_
  unfold Builtin.List.listSubscript?
  refine wpAny_bind (wpAny_specialOf hTs slice_no_index ?_)
  simp only [Option.isNone_none, if_true]
  refine wpAny_pure ?_
  show wpAny _ _ (typeOf (.ref sl) >>= _) _ _ s
  refine wpAny_bind (wpAny_typeOf hTs ?_)
  rw [if_neg (by decide)]
  rw [listSliceParts_eq]
  refine wpAny_bind (wpAny_bind (wpAny_field hos hds (x := .none) rfl (wpAny_bind (wpAny_listPart .none ?_))))
  rw [if_neg (by decide)]
  refine wpAny_bind (wpAny_field hos hds (x := .none) rfl (wpAny_bind (wpAny_listPart .none ?_)))
  refine wpAny_bind (wpAny_field hos hds (x := .none) rfl (wpAny_bind (wpAny_listPart .none (wpAny_pure ?_))))
  rw [if_neg (show ¬ Builtin.List.listSameRef (.ref l) (.ref b) = true from by unfold Builtin.List.listSameRef; simp only [hne]; decide)]
  unfold Builtin.List.listAllItems
  refine wpAny_bind (wpAny_bind (wpAny_typeOf hTb ?_))
  rw [if_pos (by decide)]
  unfold Builtin.List.listItems
  refine wpAny_bind (wpAny_seqItems hb rfl (wpAny_pure ?_))
  show wpAny _ _ (Builtin.List.listItems (.ref l) >>= _) _ _ s
  unfold Builtin.List.listItems
  refine wpAny_bind (wpAny_bind (wpAny_seqItems hl rfl (wpAny_pure ?_)))
  refine wpAny_bind (wpAny_of_eq (sliceIndices_raw none none none items.size (by decide)) ?_)
  rw [bounds_eq none none items.size]
  rw [if_pos (show (((1 : Int) == 1) = true) from by decide)]
  refine wpAny_bind (wpAny_rule ?_)
  rw [if_neg (by simp [Builtin.List.listTooLong, sizeLine]; omega)]
  have em : (max ((clampL none items.size : Nat) : Int) ((clampH none items.size : Nat) : Int)).toNat = items.size := by
    show (max ((0 : Nat) : Int) (items.size : Int)).toNat = _
    omega
  have e0 : ((clampL none items.size : Nat) : Int).toNat = 0 := rfl
  dsimp only
  rw [em, e0]
  have ef : items.extract 0 0 ++ new ++ items.extract items.size = new := by simp
  have ha : (items.extract 0 0 ++ new ++ items.extract items.size).size ≤ sizeLine + 1 := by rw [ef, sizeLine_eq]; omega
  refine wpAny_bind (wpAny_updateSeq (f := fun xs => xs.extract 0 0 ++ new ++ xs.extract items.size) hl rfl ?_ (by rw [sizeLine_eq]; omega) ha)
  refine wpAny_bind (wpAny_letGo ?_)
  refine wpAny_pure ⟨_, rfl, wpAny_pure (hQ _ (Heap.SameBut.update ..) ?_)⟩
  have hu := IsL.update hl (fun xs => xs.extract 0 0 ++ new ++ xs.extract items.size)
  generalize (if ((items.extract 0 0 ++ new ++ items.extract items.size).size == items.size) = true then n else n + 1) = c at hu
  simp only [ef] at hu
  exact ⟨_, hu⟩
theorem sim_sliceall {e o : Expr} {a b : Ev} (B : Basis C) (p sp pos : Pos) (ha : SimE C D k e a) (ho : SimE C D k o b) (sw : ∀ env, swapsWith e (some (.Subscript o (.Slice none none none sp) p)) pos.line env = pure false) : SimS C D k (.Assign [.Subscript o (.Slice none none none sp) p] e pos) (sSliceAll a b) := by
  intro ls μ fl ls' μ' h W env O A eo ao I F Q hQ
  unfold sSliceAll at h
  split at h
  · rename_i m μ₁ h1
    split at h
    · rename_i n μ₂ h2
      split at h
      · rename_i v w hm hn
        cases hne : Nat.beq m n with
        | true => rw [hne] at h; (first | exact no_some h | cases h)
        | false =>
          cases hf : fits v with
          | false => rw [hne, hf] at h; (first | exact no_some h | cases h)
          | true =>
            cases hf2 : fits w with
            | false => rw [hne, hf, hf2] at h; (first | exact no_some h | cases h)
            | true =>
              rw [hne, hf, hf2] at h; (first | exact no_some h | cases h)
              refine wpAny_Assign_Subscript (ha ls μ _ μ₁ h1 W env O A eo ao I F _ fun W₁ pv x₁ I₁ V₁ => ?_) (sw env)
              have F₁ := F.mono I x₁
              refine ho ls μ₁ _ μ₂ h2 W₁ env O A eo ao I₁ F₁ _ fun W₂ po x₂ I₂ V₂ => ?_
              have F₂ := F₁.mono I₁ x₂
              refine wpAny_Slice ?_
              rw [evalPart_none]
              refine wpAny_pure (wpAny_pure (wpAny_pure ?_))
              have V₁' := VR.mono x₂ (fun _ h => nomatch h) V₁
              refine V₁'.locE fun am ham => ?_
              refine V₂.locE fun an han => ?_
              refine ex1_2 (I₂.list ham hm) fun its hL Vs => ?_; refine ex1_1 hL fun c hL => ?_
              refine ex1_2 (I₂.list han hn) fun its2 hL2 Vs2 => ?_; refine ex1_1 hL2 fun c2 hL2 => ?_
              have kk := push_keep W₂.h { cls := .type "slice", data := .fields #[.none, .none, .none] }
              have x₃ : Ext [] W₂ (W₂.at { W₂.s with heap := W₂.h.push { cls := .type "slice", data := .fields #[.none, .none, .none] } }) := Ext.keep [] kk
              have I₃ := I₂.keep (s := { W₂.s with heap := W₂.h.push { cls := .type "slice", data := .fields #[.none, .none, .none] } }) kk I₂.gens rfl
              have F₃ := F₂.mono I₂ x₃
              have ne : (an == am) = false := by
                rw [beq_eq_false_iff_ne]; intro q; subst q
                have := (List.getElem?_inj (List.getElem?_eq_some_iff.mp ham).1 I₂.nd).mp (ham.trans han.symm)
                rw [this] at hne; rw [Nat.beq_refl] at hne; (first | exact no_some hne | cases hne)
              have m1 := Nat.le_of_ble_eq_true hf; have m2 := Nat.le_of_ble_eq_true hf2
              have l1 := Vs.nthD; have l2 := Vs2.nthD
              refine setItem_slice (s := { W₂.s with heap := W₂.h.push { cls := .type "slice", data := .fields #[.none, .none, .none] } }) (kk _ _ hL2) (kk _ _ hL) ne (Heap.IsSliceOf.new _ _ _ _) (by omega) (by omega) fun h' hsb hg => ?_
              refine ex1_1 hg fun c' hg => ?_
              refine ex0_2 (put_step (W := W₂.at { W₂.s with heap := W₂.h.push { cls := .type "slice", data := .fields #[.none, .none, .none] } }) (s' := { W₂.s with heap := h' }) (o := .list v) B I₃ hn han hsb hg rfl rfl fun y => ⟨its, ⟨_, hg⟩, VRs.mono (x₃.trans y) (fun _ h => nomatch h) Vs⟩) fun x₄ I₄ => ?_
              exact hQ _ _ (((x₁.trans x₂).trans x₃).trans x₄).lift I₄ (F₃.mono I₃ x₄) .next
      · (first | exact no_some h | cases h)
    · (first | exact no_some h | cases h)
  · (first | exact no_some h | cases h)
end
end Mine
end
section
open PySem PySem.W PyProof.Rows PySem.Calls PySem.SeqAt
set_option maxRecDepth 100000
namespace Mine
theorem mem_pre {ρ ρ' : List Addr} (pre : ∀ (n : Nat) (a : Addr), ρ[n]? = some a → ρ'[n]? = some a) {a : Addr} (h : a ∉ ρ') : a ∉ ρ := fun q => by
  refine ex1_1 (List.getElem?_of_mem q) fun i hi => ?_
  exact h (List.mem_of_getElem? (pre i a hi))
noncomputable def lok (k : Nat) (m : MV) : Bool := MV.rec (motive_1 := fun _ => Bool) (motive_2 := fun _ => Bool) true (fun _ => true) (fun _ => true) (fun _ _ => true) (fun _ => true) (fun _ => true) (fun _ ih => ih) (fun n => Nat.blt n k) (fun _ _ => false) (fun _ ih => ih) true (fun _ _ a b => a && b) m
noncomputable def loks (k : Nat) (m : List MV) : Bool := match m with
  | [] => true
  | m :: r => lok k m && loks k r
theorem loks_eq (k : Nat) : ∀ l : List MV, (MV.rec_1 (motive_1 := fun _ => Bool) (motive_2 := fun _ => Bool) true (fun _ => true) (fun _ => true) (fun _ _ => true) (fun _ => true) (fun _ => true) (fun _ ih => ih) (fun n => Nat.blt n k) (fun _ _ => false) (fun _ ih => ih) true (fun _ _ a b => a && b) l : Bool) = loks k l
  | [] => rfl
  | m :: r => by show (lok k m && _) = (lok k m && loks k r); rw [loks_eq k r]
section
variable {Q : Int} {h : Heap} {ρ ρ' M : List Addr}
theorem VR.lok {m : MV} {v : Value} (V : VR Q h ρ M m v) : Mine.lok ρ.length m = true :=
  VR.rec (motive_1 := fun m _ _ => Mine.lok ρ.length m = true) (motive_2 := fun ms _ _ => loks ρ.length ms = true) rfl (fun _ => rfl) (fun _ _ => rfl) (fun _ _ _ => rfl) (fun _ _ _ _ => rfl) (fun _ => rfl)
    (fun ms _ _ _ _ _ _ _ hs => (loks_eq _ ms).trans hs) (fun n a e => Nat.ble_eq_true_of_le (List.getElem?_eq_some_iff.mp e).1) (fun ms _ _ _ _ _ _ _ _ _ _ hs => (loks_eq _ ms).trans hs) rfl (fun m v ms vs _ _ h hs => by show (Mine.lok _ m && loks _ ms) = true; rw [h, hs]; rfl) V
theorem VRs.lok {ms : List MV} {vs : List Value} (V : VRs Q h ρ M ms vs) : loks ρ.length ms = true := by
  induction ms generalizing vs with
  | nil => rfl
  | cons m ms ih => refine V.consE fun v vs h hs => ?_; show (Mine.lok _ m && loks _ ms) = true; rw [h.lok, ih hs]; rfl
theorem VR.sub (pre : ∀ (n : Nat) (a : Addr), ρ[n]? = some a → ρ'[n]? = some a) {m : MV} {v : Value} (V : VR Q h ρ' M m v) (k : Mine.lok ρ.length m = true) : VR Q h ρ M m v :=
  VR.rec (motive_1 := fun m v _ => Mine.lok ρ.length m = true → VR Q h ρ M m v) (motive_2 := fun ms vs _ => loks ρ.length ms = true → VRs Q h ρ M ms vs) (fun _ => .none) (fun b _ => .bool b) (fun i t _ => .int i t) (fun a b t _ => .lin a b t) (fun l s t e _ => .str l s t e) (fun t _ => .ty t)
    (fun ms a its n e hρ hM _ hs k => .tup ms a its n e (mem_pre pre hρ) hM (hs ((loks_eq _ ms).symm.trans k)))
    (fun n a e k => .loc n a (by have hk : n < ρ.length := Nat.le_of_ble_eq_true k; have := pre n _ (List.getElem?_eq_getElem hk); rw [e] at this; (first | exact no_some this | cases this); exact List.getElem?_eq_getElem hk))
    (fun ms a its n o e c d hρ hM _ hs k => .frz ms a its n o e c d (mem_pre pre hρ) hM (hs ((loks_eq _ ms).symm.trans k))) (fun _ => .nil)
    (fun m v ms vs _ _ h hs k => .cons m v ms vs (h (Bool.and_eq_true_iff.mp k).1) (hs (Bool.and_eq_true_iff.mp k).2)) V k
theorem VRs.sub (pre : ∀ (n : Nat) (a : Addr), ρ[n]? = some a → ρ'[n]? = some a) {ms : List MV} {vs : List Value} (V : VRs Q h ρ' M ms vs) (k : loks ρ.length ms = true) : VRs Q h ρ M ms vs := by
  induction ms generalizing vs with
  | nil => refine V.nilE ?_; exact .nil
  | cons m ms ih => refine V.consE fun v vs h hs => ?_; exact .cons _ _ _ _ (h.sub pre (Bool.and_eq_true_iff.mp k).1) (ih hs (Bool.and_eq_true_iff.mp k).2)
end
theorem VR.back {Q : Int} {h h' : Heap} {ρ ρ' M M' : List Addr} (pre : ∀ (n : Nat) (a : Addr), ρ[n]? = some a → ρ'[n]? = some a) {m : MV} {v v' : Value} (V : VR Q h ρ M m v) (V' : VR Q h' ρ' M' m v') : VR Q h' ρ M' m v' := V'.sub pre V.lok
theorem VRs.back {Q : Int} {h h' : Heap} {ρ ρ' M M' : List Addr} (pre : ∀ (n : Nat) (a : Addr), ρ[n]? = some a → ρ'[n]? = some a) {m : List MV} {v v' : List Value} (V : VRs Q h ρ M m v) (V' : VRs Q h' ρ' M' m v') : VRs Q h' ρ M' m v' := V'.sub pre V.lok
noncomputable def flat (m : MV) : Bool := lok 0 m
theorem lok_mono {k : Nat} {m : MV} (h : lok 0 m = true) : lok k m = true :=
  MV.rec (motive_1 := fun m => lok 0 m = true → lok k m = true) (motive_2 := fun l => loks 0 l = true → loks k l = true) id (fun _ => id) (fun _ => id) (fun _ _ => id) (fun _ => id) (fun _ => id)
    (fun l ih h => (loks_eq k l).trans (ih ((loks_eq 0 l).symm.trans h))) (fun n h => absurd (Nat.le_of_ble_eq_true h) (Nat.not_succ_le_zero n)) (fun _ _ => id) (fun l ih h => (loks_eq k l).trans (ih ((loks_eq 0 l).symm.trans h))) id
    (fun m l ih is h => by show (lok k m && loks k l) = true; rw [ih (Bool.and_eq_true_iff.mp h).1, is (Bool.and_eq_true_iff.mp h).2]; rfl) m h
section
variable {C : Cst} {W W' : Wd} {μ μ' : MH}
theorem OR.back (x : ∀ (n : Nat) (a : Addr), W.ρ[n]? = some a → W'.ρ[n]? = some a) {o : MO} {a : Addr} (h : OR C W o a) (h' : OR C W' o a) : OR C ⟨W'.s, W.ρ, W'.M⟩ o a := by
  cases o with
  | list l =>
    refine ex1_2 h fun its _ V => ?_; refine ex1_2 h' fun its' p V' => ?_
    exact ⟨its', p, VRs.back x V V'⟩
  | dict es =>
    refine ex1_2 h fun kvs _ D => ?_; refine ex1_2 h' fun kvs' p D' => ?_
    exact ⟨kvs', p, D'.1, VRs.back x D.2 D'.2⟩
  | inst c dn =>
    refine ex1_2 h fun d e _ => ?_; refine ex1_2 h' fun d' e' p => ?_
    have := x dn d e
    rw [e'] at this; (first | exact no_some this | cases this)
    exact ⟨_, e, p⟩
  | ns f =>
    cases f with
    | none => exact h'
    | some p =>
      obtain ⟨y, v⟩ := p
      refine ex3_2 h fun hs t pv _ V => ?_; refine ex3_2 h' fun hs' t' pv' p V' => ?_
      exact ⟨hs', t', pv', p, VR.back x V V'⟩
theorem TabIn.wk' {W W' : Wd} (sub : ∀ b ∈ W.ρ, b ∈ W'.ρ) {p : Addr × Addr} (h : TabIn W' p) : TabIn ⟨W'.s, W.ρ, W'.M⟩ p := by
  refine ex1_3 h fun ps h1 h2 h3 => ?_
  refine ⟨ps, h1, h2, fun pos cv e => ?_⟩
  refine ex4_7 (h3 pos cv e) fun c o vs t q1 q2 q3 q4 q5 q6 q7 => ?_
  exact ⟨c, o, vs, t, q1, q2, q3, fun q => q4 (sub c q), q5, q6, q7⟩
theorem Inv.forget (I : Inv C W μ) (x : Ext [] W W') (I' : Inv C W' μ') (hg : ∀ n, n < μ.next → μ'.get n = μ.get n) : Ext [] W ⟨W'.s, W.ρ, W'.M⟩ ∧ Inv C ⟨W'.s, W.ρ, W'.M⟩ μ := by
  refine ⟨⟨fun _ _ h => h, x.fr, x.alive, fun _ h => .inl h, x.newM, x.subM⟩, ?_⟩
  exact
    { old := I'.old
      lim := I'.lim
      tab := fun p hp => TabIn.wk' x.subρ (I'.tab p hp)
      ok := I.ok
      objs := fun n o h => by
        refine ex1_2 (I.objs n o h) fun a h1 h2 => ?_
        refine ex1_2 (I'.objs n o ((hg n (MH.get_lt h)).trans h)) fun a' h1' h2' => ?_
        have := x.pre n a h1
        rw [h1'] at this; (first | exact no_some this | cases this)
        exact ⟨_, h1, OR.back x.pre h2 h2'⟩
      len := I.len
      nd := I.nd
      freshρ := fun a ha => I'.freshρ a (x.subρ a ha)
      freshM := fun a ha => let ⟨h1, h2, h3⟩ := I'.freshM a ha; ⟨h1, h2, fun q => h3 (x.subρ a q)⟩
      gens := I'.gens
      os := I'.os
      big := I.big
      g3 := I.g3 }
theorem Says.forget (I : Inv C W μ) {v : MV} {Q : Value → Shared → Prop} (hQ : Says C W v μ Q) (hv : flat v = true) (hg : ∀ n, n < μ.next → μ'.get n = μ.get n) : Says C W v μ' Q := by
  intro W' pv x I' V
  refine ex0_2 (I.forget x I' hg) fun x' I₂ => ?_
  exact hQ ⟨W'.s, W.ρ, W'.M⟩ pv x' I₂ (V.sub x.pre (lok_mono hv))
theorem SimF.forget {k : Nat} {a : Addr} {mk : List Value → Args} {f g : List MV → MH → Option (MV × MH)} (h : SimF C k a mk f) (hf : ∀ args μ v μ', μ.Ok → g args μ = some (v, μ') → μ' = μ ∧ flat v = true ∧ ∃ μ'', f args μ = some (v, μ'') ∧ ∀ n, n < μ.next → μ''.get n = μ.get n) : SimF C k a mk g := by
  intro args μ v μ' hg W vals A ao I V Q hQ
  obtain ⟨rfl, hv, μ'', h1, h2⟩ := hf args μ v μ' I.ok hg
  exact h args μ' v μ'' h1 W vals A ao I V Q (Says.forget I hQ hv h2)
end
end Mine
end
section
open PySem PySem.W PyProof.Rows PySem.Calls PySem.SeqAt PySem.F
set_option maxRecDepth 100000
namespace Mine
theorem list0 {l : List Value} (h : l.length = 0) : l = [] := List.length_eq_zero_iff.mp h
theorem list1 {l : List Value} (h : l.length = 1) : ∃ a, l = [a] := by
  match l, h with
  | [a], _ => exact ⟨a, rfl⟩
theorem list2 {l : List Value} (h : l.length = 2) : ∃ a b, l = [a, b] := by
  match l, h with
  | [a, b], _ => exact ⟨a, b, rfl⟩
theorem list3 {l : List Value} (h : l.length = 3) : ∃ a b c, l = [a, b, c] := by
  match l, h with
  | [a, b, c], _ => exact ⟨a, b, c, rfl⟩
theorem s_cinit (C : Cst) (B : Basis C) (k : Nat) : SimB C D_cinit k (mD 3 0).2.1 g_cinit :=
  (sim_cons (sim_setattr B 62 0 _ _ rfl (sok_comp _) (sim_var 101 _ _) (sim_var 100 _ _) (fun _ => rfl)) sim_nil)
theorem F_cinit (C : Cst) (B : Basis C) (k : Nat) : SimF C (k + 1) 52 plainA f_cinit :=
  sim_fun B [] none [100, 101] [] [] plainA rfl rfl ⟨_, _, _, _, rfl, rfl, rfl, rfl⟩ rfl rfl rfl rfl rfl rfl rfl (by decide +kernel) (by decide +kernel) (fun _ _ _ _ => .nil) (fun s vals X hl => by refine ex2_1 (list2 (by simpa using hl)) fun a0 a1 eqq2 => ?_; subst eqq2; exact BindsTo.of_eq rfl) (fun p h => by (first | exact no_some h | cases h)) (s_cinit C B k)
theorem s_cmp (C : Cst) (B : Basis C) (k : Nat) : SimB C D_cmp k (mD 3 1).2.1 g_cmp :=
  (sim_cons (sim_for B _ (si_of (sim_attr B 62 0 _ rfl (ok_comp _) (sim_var 100 _ _) (fun _ => rfl))) (sima_tup B _ _ (.cons 103 _ _ _ _ rfl (by decide) rfl (.cons 104 _ _ _ _ rfl (by decide) rfl .nil))) (sim_cons (sim_set B 105 _ _ rfl (by decide) rfl (sim_item _ (sim_var 89 _ _) (sim_var 103 _ _) (sub_plain (fun _ _ => rfl))) (fun _ => rfl)) (sim_cons (sim_set B 46 _ _ rfl (by decide) rfl (sim_item _ (sim_var 102 _ _) (sim_var 103 _ _) (sub_plain (fun _ _ => rfl))) (fun _ => rfl)) (sim_cons (sim_if _ (simt_cmp _ sc_lt (sim_var 105 _ _) (sim_var 46 _ _)) (sim_cons (sim_ret _ (sim_neg _ (sim_var 104 _ _))) sim_nil) sim_nil) (sim_cons (sim_if _ (simt_cmp _ sc_gt (sim_var 105 _ _) (sim_var 46 _ _)) (sim_cons (sim_ret _ (sim_var 104 _ _)) sim_nil) sim_nil) sim_nil)))) src_of (fun _ _ => rfl)) (sim_cons (sim_ret _ (sim_int 0 _ _)) sim_nil))
theorem F_cmp (C : Cst) (B : Basis C) (k : Nat) : SimF C (k + 1) 59 plainA f_cmp :=
  sim_fun B [] none [100, 89, 102] [] [] plainA rfl rfl ⟨_, _, _, _, rfl, rfl, rfl, rfl⟩ rfl rfl rfl rfl rfl rfl rfl (by decide +kernel) (by decide +kernel) (fun _ _ _ _ => .nil) (fun s vals X hl => by refine ex3_1 (list3 (by simpa using hl)) fun a0 a1 a2 eqq3 => ?_; subst eqq3; exact BindsTo.of_eq rfl) (fun p h => by (first | exact no_some h | cases h)) (s_cmp C B k)
theorem s_cnt (C : Cst) (B : Basis C) (k : Nat) : SimB C D_cnt k (tD 6).2.1 g_cnt :=
  (sim_cons (sim_set B 3 _ _ rfl (by decide) rfl (sim_int 0 _ _) (fun _ => rfl)) (sim_cons (sim_for B _ (si_vals (sim_var 6 _ _) (fun _ => rfl) rfl) (sima_name B 17 _ rfl (by decide) rfl) (sim_cons (sim_aug B 3 _ _ rfl (by decide) rfl rfl (sim_var 17 _ _)) sim_nil) src_vals (fun _ _ => rfl)) (sim_cons (sim_ret _ (sim_var 3 _ _)) sim_nil)))
theorem F_cnt (C : Cst) (B : Basis C) (k : Nat) : SimF C (k + 1) 87 plainA f_cnt :=
  sim_fun B [] none [6] [] [] plainA rfl rfl ⟨_, _, _, _, rfl, rfl, rfl, rfl⟩ rfl rfl rfl rfl rfl rfl rfl (by decide +kernel) (by decide +kernel) (fun _ _ _ _ => .nil) (fun s vals X hl => by refine ex1_1 (list1 (by simpa using hl)) fun a0 eqq1 => ?_; subst eqq1; exact BindsTo.of_eq rfl) (fun p h => by (first | exact no_some h | cases h)) (s_cnt C B k)
theorem s_hinit (C : Cst) (B : Basis C) (k : Nat) : SimB C D_hinit k (mD 21 0).2.1 g_hinit :=
  (sim_cons (sim_set B 106 _ _ rfl (by decide) rfl (sim_ifexp _ (simt_cmp _ sc_isnot (sim_var 106 _ _) (sim_none _ _)) (sim_var 106 _ _) (sim_list _ sim_lnil)) (fun _ => rfl)) (sim_cons (sim_if _ (simt_cmp _ sc_isnot (sim_callB (fix_boot B _ rfl rfl rfl) (.inr ⟨_, rfl⟩) sf_type (sim_lcons (sim_var 106 _ _) sim_lnil (fun _ => rfl)) (fun _ => rfl) (fun _ _ => rfl)) (sim_ty .list (fix_boot B _ rfl rfl rfl))) sim_fail sim_nil) (sim_cons (sim_setattr B 284 1 _ _ rfl (sok_head _) (sim_var 106 _ _) (sim_var 100 _ _) (fun _ => rfl)) (sim_cons (sim_if _ (simt_plain (sim_bool true _ _) (fun _ _ => rfl)) (sim_cons (sim_for B _ (si_of (sim_var 106 _ _)) (sima_tup B _ _ (.cons 64 _ _ _ _ rfl (by decide) rfl (.cons 95 _ _ _ _ rfl (by decide) rfl .nil))) sim_fail src_of (fun _ _ => rfl)) sim_nil) sim_nil) sim_nil))))
theorem F_hinit (C : Cst) (B : Basis C) (k : Nat) : SimF C (k + 1) 176 plainA f_hinit :=
  sim_fun B [] none [100, 106] [.none] [.none] plainA rfl rfl ⟨_, _, _, _, rfl, rfl, rfl, rfl⟩ rfl rfl rfl rfl rfl rfl rfl (by decide +kernel) (by decide +kernel) (fun _ _ _ _ => (.cons _ _ _ _ .none .nil)) (fun s vals X hl => by refine ex1_1 (list1 (by simpa using hl)) fun a0 eqq1 => ?_; subst eqq1; exact kp_binds X (fun _ => rfl)) (fun p h => by (first | exact no_some h | cases h)) (s_hinit C B k)
theorem s_hkeys (C : Cst) (B : Basis C) (k : Nat) : SimB C D_hkeys k (mD 21 9).2.1 g_hkeys :=
  (sim_cons (sim_ret _ (sim_lcomp (cap := []) (own := []) B (si_of (sim_attr B 284 1 _ rfl (ok_head _) (sim_var 100 _ _) (fun _ => rfl))) src_of (by kernel_rfl) rfl (sima_tup B _ _ (.cons 64 _ _ _ _ rfl (by decide) rfl (.cons 95 _ _ _ _ rfl (by decide) rfl .nil))) .nil (sim_var 64 _ _) (fun _ _ => rfl))) sim_nil)
theorem F_hkeys (C : Cst) (B : Basis C) (k : Nat) : SimF C (k + 1) 236 plainA f_hkeys :=
  sim_fun B [] none [100] [] [] plainA rfl rfl ⟨_, _, _, _, rfl, rfl, rfl, rfl⟩ rfl rfl rfl rfl rfl rfl rfl (by decide +kernel) (by decide +kernel) (fun _ _ _ _ => .nil) (fun s vals X hl => by refine ex1_1 (list1 (by simpa using hl)) fun a0 eqq1 => ?_; subst eqq1; exact BindsTo.of_eq rfl) (fun p h => by (first | exact no_some h | cases h)) (s_hkeys C B k)
theorem s_hitems (C : Cst) (B : Basis C) (k : Nat) : SimB C D_hitems k (mD 21 11).2.1 g_hitems :=
  (sim_cons (sim_ret _ (sim_slice _ _ (sim_attr B 284 1 _ rfl (ok_head _) (sim_var 100 _ _) (fun _ => rfl)) simp_none simp_none)) sim_nil)
theorem F_hitems (C : Cst) (B : Basis C) (k : Nat) : SimF C (k + 1) 248 plainA f_hitems :=
  sim_fun B [] none [100] [] [] plainA rfl rfl ⟨_, _, _, _, rfl, rfl, rfl, rfl⟩ rfl rfl rfl rfl rfl rfl rfl (by decide +kernel) (by decide +kernel) (fun _ _ _ _ => .nil) (fun s vals X hl => by refine ex1_1 (list1 (by simpa using hl)) fun a0 eqq1 => ?_; subst eqq1; exact BindsTo.of_eq rfl) (fun p h => by (first | exact no_some h | cases h)) (s_hitems C B k)
theorem s_other (C : Cst) (B : Basis C) (k : Nat) : SimB C D_other k (tD 25).2.1 g_other :=
  (sim_cons (sim_ret _ (sim_ifexp _ (simt_cmp _ sc_in (sim_var 68 _ _) (sim_str _ [65, 66, 67, 68, 69, 70, 71, 72, 73] _ _)) (sim_meth0 (kt := .str) plainAttrs_str slot_str_lower rfl (sim_var 68 _ _) sf_lower (fun _ => rfl) rfl) (sim_meth0 (kt := .str) plainAttrs_str slot_str_upper rfl (sim_var 68 _ _) sf_upper (fun _ => rfl) rfl))) sim_nil)
theorem F_other (C : Cst) (B : Basis C) (k : Nat) : SimF C (k + 1) 307 plainA f_other :=
  sim_fun B [] none [68] [] [] plainA rfl rfl ⟨_, _, _, _, rfl, rfl, rfl, rfl⟩ rfl rfl rfl rfl rfl rfl rfl (by decide +kernel) (by decide +kernel) (fun _ _ _ _ => .nil) (fun s vals X hl => by refine ex1_1 (list1 (by simpa using hl)) fun a0 eqq1 => ?_; subst eqq1; exact BindsTo.of_eq rfl) (fun p h => by (first | exact no_some h | cases h)) (s_other C B k)
end Mine
end
section
open PySem PySem.W PyProof.Rows PySem.Calls PySem.SeqAt
set_option maxRecDepth 100000
namespace Mine
section
variable {C : Cst} {W : Wd} {μ : MH} {env : Env} {D : Fd} {O : List Addr} {ls : Locs} {A : Around}
theorem sim_storeX {n : Nat} {pv : Value} {Q : Unit → Shared → Prop} (B : Basis C) (eo : EnvOk D env) (I : Inv C W μ) (F : FrOk C W env D.own O ls) (hn : n < nmC) (hs : Sto D n = true) (hno : look ls n = none)
    (hQ : ∀ W', Ext O W W' → Inv C W' μ → FrOk C W' env D.own O ls → VarAt W'.h env (nm n) pv → Q () W'.s) : wpAny (model P0 C.w) A (storeName env (nm n) pv) Q NoE W.s := by
  have hkf : env.scope.kind = .function := by rw [eo.is]; exact eo.kind
  have hne : ∀ n' v', look ls n' = some v' → n' ≠ n := fun n' v' h q => by rw [q, hno] at h; (first | exact no_some h | cases h)
  unfold Sto at hs
  split at hs
  · rename_i hl
    have hl' : env.kindOf (nm n) = some .local := by unfold Env.kindOf; rw [eo.is]; exact hl
    refine ex1_1 F.ns fun m hm => ?_
    refine wpAny_storeName_local hl' hm (fun h' hn' hsb => ?_) (by rw [hkf]; rfl)
    have hn0 := hn'
    refine ex3_2 hn' fun o' es ep ho' r => ?_
    have x : Ext O W (W.at { W.s with heap := h', toks := W.s.toks + 1 }) := Ext.own F.LO hsb ho'
    refine hQ (W.at { W.s with heap := h', toks := W.s.toks + 1 }) x (Inv.turnM B I F.LM hsb ho' rfl rfl) ?_ (.loc _ hl' hn0 (by simp))
    refine ⟨F.LO, F.OM, ⟨_, hn0⟩, fun y c h => ?_, F.cap, F.ow, fun n' v' hn'' hlk hv => ?_⟩
    · obtain ⟨h1, h2, v, h3⟩ := F.cM y c h
      exact ⟨h1, h2, v, h3.sameBut hsb h2⟩
    · have e := hne n' v' hlk
      refine ex1_2 (F.vars n' v' hn'' hlk hv) fun pv' h1 h2 => ?_
      refine ⟨pv', VR.mono x F.OM h1, ?_⟩
      have ne : nm n' ≠ nm n := fun q => e (nm_inj hn'' hn q)
      cases h2 with
      | loc m₀ a1 a2 a3 => exact .loc _ a1 hn0 (by rw [Ns_eq a2 hm] at a3; simp only [ne, if_false]; exact a3)
      | cell c a1 a2 a3 => exact .cell c a1 a2 (a3.sameBut hsb (F.cM _ _ (mem_of_lookup a2)).2.1)
      | free c a1 a2 a3 => exact .free c a1 a2 (a3.sameBut hsb (F.cM _ _ (mem_of_lookup a2)).2.1)
  · rename_i hl
    have hl' : env.kindOf (nm n) = some .cell := by unfold Env.kindOf; rw [eo.is]; exact hl
    refine ex1_2 (F.ow n (by simpa using hs)) fun c hc hcO => ?_
    obtain ⟨hcM, hcL, v₀, hcv⟩ := F.cM _ _ (mem_of_lookup hc)
    refine wpAny_storeName_cell hkf hl' hc hcv fun h' hc' hsb => ?_
    have hc0 := hc'
    refine ex1_2 hc' fun o' ho' r => ?_
    have x : Ext O W (W.at { W.s with heap := h' }) := Ext.own hcO hsb ho'
    refine hQ (W.at { W.s with heap := h' }) x (Inv.turnM B I hcM hsb ho' rfl rfl) ?_ (.cell _ hl' hc hc0)
    refine ⟨F.LO, F.OM, F.ns.imp fun m hm => hm.sameBut hsb (Ne.symm hcL), fun y c' h => ?_, F.cap, F.ow, fun n' v' hn'' hlk hv => ?_⟩
    · obtain ⟨h1, h2, v, h3⟩ := F.cM y c' h
      by_cases e : c' = c
      · rw [e] at h1 h2 ⊢; exact ⟨h1, h2, _, hc0⟩
      · exact ⟨h1, h2, v, h3.sameBut hsb e⟩
    · have e := hne n' v' hlk
      refine ex1_2 (F.vars n' v' hn'' hlk hv) fun pv' h1 h2 => ?_
      refine ⟨pv', VR.mono x F.OM h1, ?_⟩
      have ne : nm n' ≠ nm n := fun q => e (nm_inj hn'' hn q)
      cases h2 with
      | loc m₀ a1 a2 a3 => exact .loc _ a1 (a2.sameBut hsb (Ne.symm hcL)) a3
      | cell c₁ a1 a2 a3 => exact .cell c₁ a1 a2 (a3.sameBut hsb fun q => ne (name_of_addr F.cap (mem_of_lookup a2) (q ▸ mem_of_lookup hc)))
      | free c₁ a1 a2 a3 => exact .free c₁ a1 a2 (a3.sameBut hsb fun q => ne (name_of_addr F.cap (mem_of_lookup a2) (q ▸ mem_of_lookup hc)))
  · (first | exact no_some hs | cases hs)
theorem load_at {n : Nat} {pv : Value} {pos : Pos} {Q : Value → Shared → Prop} (eo : EnvOk D env) (hn : n < nmC) (h : VarAt W.h env (nm n) pv) (hQ : Q pv W.s) : wpAny (model P0 C.w) A (eval (.Name (nm n) pos) env) Q NoE W.s := by
  have hk : env.scope.kind = .function := by rw [eo.is]; exact eo.kind
  refine wpAny_Name ?_ (nm_ok hn).1
  cases h with
  | loc m h3 h4 h5 => exact wpAny_loadName_local hk h3 h4 h5 hQ
  | cell c h3 h4 h5 => exact wpAny_loadName_cell hk h3 h4 h5 hQ
  | free c h3 h4 h5 => exact wpAny_loadName_free hk h3 h4 h5 hQ (nm_ok hn).2
end

noncomputable def okStrs : List (List Nat) := ([65, 66, 67, 68, 69, 70, 71, 72, 73, 97, 98, 99, 100, 101, 102, 103, 104, 105] : List Nat).map (fun c => [c]) ++ ([48, 49, 50, 51, 52, 53, 54, 55, 56, 57] : List Nat).map (fun c => [49, c])
theorem let_mem : ((List.range 128).all fun c => !letter c || decide ([c] ∈ okStrs)) = true := by decide +kernel
theorem dig_mem : ((List.range 58).all fun c => !(Nat.ble 48 c && Nat.ble c 57) || decide ([49, c] ∈ okStrs)) = true := by decide +kernel
theorem okS_mem {l : List Nat} (h : okS l = true) : l ∈ okStrs := by
  unfold okS at h
  split at h
  · rename_i c
    have := List.all_eq_true.mp let_mem c (List.mem_range.mpr (letter_lt h))
    rw [h] at this
    simpa using this
  · rename_i c d
    rw [Bool.and_eq_true] at h
    have e := Nat.eq_of_beq_eq_true h.1
    subst e
    have hd : d < 58 := by have := h.2; rw [Bool.and_eq_true] at this; have := Nat.le_of_ble_eq_true this.2; omega
    have := List.all_eq_true.mp dig_mem d (List.mem_range.mpr hd)
    rw [h.2] at this
    simpa using this
  · (first | exact no_some h | cases h)
noncomputable def isNoneF : Option Fin → Bool
  | some (.done (.ret .none)) => true
  | _ => false
theorem isNoneF_eq {x : Option Fin} (h : isNoneF x = true) : x = some (.done (.ret .none)) := by
  unfold isNoneF at h; split at h
  · rfl
  · (first | exact no_some h | cases h)
theorem pk_all (P : Params) (t : Tok) : (okStrs.all fun l => isNoneF (peek (K P) ⟨P0, P⟩ (Builtin.«re.Pattern.search» ⟨[.ref 156, .str ⟨l.toArray⟩ t], []⟩)) && isNoneF (peek (K P) ⟨P0, P⟩ (Builtin.«re.Pattern.search» ⟨[.ref 161, .str ⟨l.toArray⟩ t], []⟩))) = true := by kernel_rfl
theorem plainAttrs_pat : PlainAttrs "re.Pattern" :=
  ⟨⟨"object.__getattribute__", by rw [typeLookup_type, builtinLookup_eq_fast]; kernel_rfl, by decide +kernel⟩, by rw [typeLookup_type, builtinLookup_eq_fast]; kernel_rfl⟩
theorem slot_pat_search : Slot "re.Pattern" "search" "re.Pattern.search" :=
  .of (owner := "re.Pattern") (n := "search") (by rw [typeLookup_type, builtinLookup_eq_fast]; kernel_rfl) (by decide +kernel) (by decide +kernel) (by decide +kernel)
    (by first | exact .inl (by decide +kernel) | exact .inr (by decide +kernel)) (by rw [isSubtype_type]; kernel_rfl)
theorem type_pat_search : typeOf (.builtin "re.Pattern.search") = pure (.type "method_descriptor") := by show builtinType _ = _; rw [builtinType_eq_fast]; kernel_rfl
theorem entry_pat_search : entryFor table "re.Pattern.search" = some Builtin.«re.Pattern.search» := entryFor_of_fast (by kernel_rfl)
theorem args_pat_search (a b : Value) : argsOk "re.Pattern.search" ⟨[a, b], []⟩ := by unfold argsOk; kernel_rfl
theorem search_none {C : Cst} {W : Wd} {μ : MH} {A : Around} (B : Basis C) (I : Inv C W μ) {p : Addr} (hp : p = 156 ∨ p = 161) {s : Str} {t : Tok} {l : List Nat} (hs : s.cps.toList = l) (hl : okS l = true) {Q : Value → Shared → Prop} (hQ : Q .none W.s) :
    wpAny (model P0 C.w) A (call (.builtin "re.Pattern.search") [.ref p, .str s t]) Q NoE W.s := by
  have KK := I.K B
  have hT : W.s.TypeIs (.ref p) "re.Pattern" := by
    rcases hp with rfl | rfl
    · exact ⟨_, KK _ _ (rfl : (K C.w.params).lookup 156 = some _), rfl⟩
    · exact ⟨_, KK _ _ (rfl : (K C.w.params).lookup 161 = some _), rfl⟩
  refine wpAny_call_entry slot_pat_search hT entry_pat_search ?_ (args_pat_search _ _)
  have h := List.all_eq_true.mp (pk_all C.w.params t) l (okS_mem hl)
  rw [Bool.and_eq_true] at h
  rw [str_of hs]
  rcases hp with rfl | rfl
  · exact (Looks.of_peek (M := model P0 C.w) KK (isNoneF_eq h.1)).here ⟨_, rfl, hQ⟩
  · exact (Looks.of_peek (M := model P0 C.w) KK (isNoneF_eq h.2)).here ⟨_, rfl, hQ⟩
end Mine
end
section
open PySem PySem.W PyProof.Rows PySem.Calls PySem.SeqAt
set_option maxRecDepth 100000
namespace Mine
noncomputable def D_conv : Fd := ⟨(mD 21 1).2.2, [], none⟩
noncomputable def convTail : Es := fun ls μ => match look ls 107 with
  | some (.str l) => match look ls 68 with
    | some (.bool _) => match look ls 108 with
      | none => bif okS l then some (.ret (.str l), ls, μ) else none
      | _ => none
    | _ => none
  | _ => none
section
variable {C : Cst} {k : Nat}
theorem sim_convTail (B : Basis C) (p1 p2 p3 p4 p5 p6 p7 p8 p9 p10 p11 p12 p13 : Pos) (rs : List Stmt) (hline : (p8.endLine == p10.line) = true) :
    SimB C D_conv k [.Assign [.Name "regex" p1] (.IfExp (.Name "name" p2) (.Name "_name_disallowed_re" p3) (.Name "_value_disallowed_re" p4) p5) p6, .If (.Call (.Attribute (.Name "regex" p7) "search" p8) [.Name "value" p9] [] p10) rs [] p11, .Return (some (.Name "value" p12)) p13] convTail := by
  intro ls μ fl ls' μ' h W env O A eo ao I F Q hQ
  unfold convTail at h
  split at h
  · rename_i l hval
    split at h
    · rename_i b hnm
      split at h
      · rename_i hno
        cases hok : okS l with
        | false => rw [hok] at h; (first | exact no_some h | cases h)
        | true =>
          rw [hok, cond_true] at h; (first | exact no_some h | cases h)
          refine wpAny_execs_cons ?_
          have ht : SimT C D_conv k (.Name "name" p2) (tOf (cVar 68)) := simt_plain (sim_var 68 _ _) (fun _ _ => rfl)
          have htv : tOf (cVar 68) ls μ = some (b, μ) := by unfold tOf cVar; rw [hnm]
          have step : ∀ p : Addr, (p = 156 ∨ p = 161) → ∀ W₁, Ext [] W W₁ → Inv C W₁ μ → wpAny (model P0 C.w) A (storeName env "regex" (.ref p)) (fun _ s₁ => wpAny (model P0 C.w) A (execs [.If (.Call (.Attribute (.Name "regex" p7) "search" p8) [.Name "value" p9] [] p10) rs [] p11, .Return (some (.Name "value" p12)) p13] env) Q NoE s₁) NoE W₁.s := by
            intro p hp W₁ x₁ I₁
            have F₁ := F.mono I x₁
            refine sim_storeX (n := 108) B eo I₁ F₁ (by decide) rfl hno fun W₂ x₂ I₂ F₂ vat => ?_
            refine wpAny_execs_cons (wpAny_If ?_)
            refine isTrue_plain ?_ rfl
            refine wpAny_Call_method_late rfl rfl hline rfl ?_
            refine load_at (n := 108) eo (by decide) vat ?_
            have KK := I₂.K B
            have hT : W₂.s.TypeIs (.ref p) "re.Pattern" ∧ ∀ a, Value.ref p = .ref a → ∃ ob, W₂.s.heap.get? a = some ob ∧ ob.dict = none := by
              rcases hp with rfl | rfl
              · exact ⟨⟨_, KK _ _ (rfl : (K C.w.params).lookup 156 = some _), rfl⟩, fun a e => by cases e; exact ⟨_, KK _ _ (rfl : (K C.w.params).lookup 156 = some _), rfl⟩⟩
              · exact ⟨⟨_, KK _ _ (rfl : (K C.w.params).lookup 161 = some _), rfl⟩, fun a e => by cases e; exact ⟨_, KK _ _ (rfl : (K C.w.params).lookup 161 = some _), rfl⟩⟩
            refine ⟨"re.Pattern", "re.Pattern.search", plainAttrs_pat, slot_pat_search, type_pat_search, hT.1, hT.2, ?_⟩
            refine callWith_builtin rfl ?_
            have sv : SimL C D_conv k [.Name "value" p9] (lCons (cVar 107) lNil) := sim_lcons (sim_var 107 _ _) sim_lnil (fun _ => rfl)
            have ev : lCons (cVar 107) lNil ls μ = some ([.str l], μ) := by unfold lCons; rw [show cVar 107 ls μ = some (.str l, μ) from by unfold cVar; rw [hval]]; rfl
            refine evalArgs_plain (sv ls μ _ μ ev W₂ env O A p10 eo ao I₂ F₂ _ fun W₃ pvs x₃ I₃ V₃ => ?_)
            refine V₃.consE fun v vs V Vs => ?_
            refine Vs.nilE ?_
            refine V.strE fun s t es => ?_
            refine search_none B I₃ hp es hok ?_
            refine truthy_none ?_
            have F₃ := F₂.mono I₂ x₃
            refine wpAny_execs_nil ?_
            refine wpAny_execs_cons (wpAny_Return_some ?_)
            have sr : SimE C D_conv k (.Name "value" p12) (cVar 107) := sim_var 107 _ _
            refine sr ls μ (.str l) μ (by unfold cVar; rw [hval]) W₃ env O A eo ao I₃ F₃ _ fun W₄ pv x₄ I₄ V₄ => ?_
            exact hQ W₄ _ (((x₁.lift.trans x₂).trans x₃.lift).trans x₄.lift) I₄ (F₃.mono I₃ x₄) (.ret _ pv V₄)
          refine wpAny_Assign_Name (IfExp_ (ht ls μ b μ htv W env O A eo ao I F _ fun W₁ x₁ I₁ => ?_)) (hs := rfl)
          cases b with
          | true => exact (fix_glob B _ rfl rfl : Fix C D_conv (.Name "_name_disallowed_re" p3) (.ref 156)) W₁ μ env A eo I₁ _ (step 156 (.inl rfl) W₁ x₁ I₁)
          | false => exact (fix_glob B _ rfl rfl : Fix C D_conv (.Name "_value_disallowed_re" p4) (.ref 161)) W₁ μ env A eo I₁ _ (step 161 (.inr rfl) W₁ x₁ I₁)
      · (first | exact no_some h | cases h)
    · (first | exact no_some h | cases h)
  · (first | exact no_some h | cases h)
end
end Mine
end
section
open PySem PySem.W PyProof.Rows PySem.Calls PySem.SeqAt
set_option maxRecDepth 100000
namespace Mine
noncomputable def g_conv : Es := bCons (sIf (tOf (cBin oIs (cCall bType (lCons (cVar 107) lNil)) (cTy .str))) convTail bNil) bFail
theorem s_conv (C : Cst) (B : Basis C) (k : Nat) : SimB C D_conv k (mD 21 1).2.1 g_conv :=
  sim_cons (sim_if _ (simt_cmp _ sc_is (sim_callB (fix_boot B _ rfl rfl rfl) (.inr ⟨_, rfl⟩) sf_type (sim_lcons (sim_var 107 _ _) sim_lnil (fun _ => rfl)) (fun _ => rfl) (fun _ _ => rfl)) (sim_ty .str (fix_boot B _ rfl rfl rfl))) (sim_convTail B _ _ _ _ _ _ _ _ _ _ _ _ _ _ rfl) sim_nil) sim_fail
noncomputable def f_conv (w : Bool) : List MV → MH → Option (MV × MH) := fRun [100, 107, 68] [.bool w] g_conv
theorem F_conv (C : Cst) (B : Basis C) (k : Nat) (w : Bool) : SimF C (k + 1) 183 (fun vs => ⟨vs, [("name", .bool w)]⟩) (f_conv w) :=
  sim_fun B [] none [100, 107, 68] [.bool w] [.bool w] (fun vs => ⟨vs, [("name", .bool w)]⟩) rfl rfl ⟨_, _, _, _, rfl, rfl, rfl, rfl⟩ rfl rfl rfl rfl rfl rfl rfl (by decide +kernel) (by decide +kernel) (fun _ _ _ _ => .cons _ _ _ _ (.bool w) .nil)
    (fun s vals X hl => by refine ex2_1 (list2 (by simpa using hl)) fun a0 a1 eqq2 => ?_; subst eqq2; exact BindsTo.of_eq rfl) (fun p h => by (first | exact no_some h | cases h)) (s_conv C B k)
theorem f_conv_at (w : Bool) (n : Nat) (l : List Nat) (μ : MH) (h : okS l = true) : f_conv w [.loc n, .str l] μ = some (.str l, μ) := by
  have e : convTail (bnd [100, 107, 68] ([.loc n, .str l] ++ [.bool w]) []) μ = (bif okS l then some (.ret (.str l), bnd [100, 107, 68] ([.loc n, .str l] ++ [.bool w]) [], μ) else none) := rfl
  rw [h, cond_true] at e
  show (match bCons (sIf (tOf (cBin oIs (cCall bType (lCons (cVar 107) lNil)) (cTy .str))) convTail bNil) bFail (bnd [100, 107, 68] ([.loc n, .str l] ++ [.bool w]) []) μ with
      | some (.ret v, _, μ') => some (v, μ')
      | some (.next, _, μ') => some (.none, μ')
      | _ => none) = _
  rw [bCons, sIf, show tOf (cBin oIs (cCall bType (lCons (cVar 107) lNil)) (cTy .str)) (bnd [100, 107, 68] ([.loc n, .str l] ++ [.bool w]) []) μ = some (true, μ) from rfl]
  simp only [e]
theorem meth_conv (P : Params) : MethOk (K P) 284 183 "_convert_string_type" := ⟨by kernel_rfl, by kernel_rfl, by kernel_rfl, by kernel_rfl⟩
theorem sim_conv {C : Cst} {D : Fd} {k : Nat} {o e : Expr} {apos kp pos cp : Pos} {u : Nat} {a b : Ev} (B : Basis C) (w : Bool) (ho : SimE C D (k + 1) o a) (he : SimE C D (k + 1) e b)
    (hs : ∀ env, starEach [e] env = (false, eval e env) :: starEach [] env) (pl : Env → Sem Bool)
    (hc : ∀ env, eval (.Call (.Attribute o "_convert_string_type" apos) [e] [⟨some "name", .Constant (.bool w) u cp, kp⟩] pos) env = (do let ov ← eval o env; standAt apos.atName; let (f, first) ← holding [ov] (getMethod ov "_convert_string_type" (pl env)); callWith pos f first (backTo pos (starEach [e] env)) (backToKw pos (keywordEach [⟨some "name", .Constant (.bool w) u cp, kp⟩] env)))) :
    SimE C D (k + 1) (.Call (.Attribute o "_convert_string_type" apos) [e] [⟨some "name", .Constant (.bool w) u cp, kp⟩] pos) (cConv a b) := by
  intro ls μ v μ' h W env O A eo ao I F Q hQ
  unfold cConv at h
  split at h
  · rename_i n μ₁ h1
    split at h
    · rename_i c' dn hg
      cases hb : Nat.beq c' 284 with
      | false => rw [hb] at h; (first | exact no_some h | cases h)
      | true =>
        rw [hb, cond_true] at h
        have ec := Nat.eq_of_beq_eq_true hb
        subst ec
        split at h
        · rename_i p hg2
          split at h
          · rename_i l μ₂ h2
            cases hok : okS l with
            | false => rw [hok] at h; (first | exact no_some h | cases h)
            | true =>
              rw [hok, cond_true] at h; (first | exact no_some h | cases h)
              refine methodCall_KW (pl := pl env) (ho ls μ _ μ₁ h1 W env O A eo ao I F _ fun W₁ po x₁ I₁ V₁ => ?_) (hc env)
              refine V₁.locE fun ax hax => ?_
              refine inst_method B I₁ hax hg hg2 (meth_conv _) (at_ne (by decide) (by decide) _) ?_
              refine callWith_KW (K := K C.w.params) (h₀ := W₁.h) (I₁.K B) (meth_conv _).kp rfl ?_ (by rw [hs env]; rfl) (hs env)
              refine sim_lcons he sim_lnil hs ls μ₁ [.str l] μ' (by unfold lCons; rw [h2]; rfl) W₁ env O A pos eo ao I₁ (F.mono I x₁) _ fun W₂ pvs x₂ I₂ V₂ => ?_
              refine wpAny_evalAll_cons ?_
              refine wpAny_bind ?_
              have sb : SimE C D (k + 1) (.Constant (.bool w) u cp) (cBool w) := sim_bool w _ _
              refine sb ls μ' _ μ' rfl W₂ env O A eo ao I₂ ((F.mono I x₁).mono I₁ x₂) _ fun W₃ pb x₃ I₃ V₃ => ?_
              refine V₃.boolE ?_
              refine wpAny_bind (wpAny_standAt (wpAny_pure ?_))
              refine wpAny_evalAll_nil ⟨I₃.K B, ?_⟩
              have V₂ := VRs.mono x₃ (fun _ h => nomatch h) V₂
              exact (F_conv C B k w).call (f_conv_at w n l μ' hok) ao I₃ (.cons _ _ _ _ (.loc n ax (x₃.pre _ _ (x₂.pre _ _ hax))) V₂) (((hQ.step x₁).step x₂).step x₃)
          · (first | exact no_some h | cases h)
        · (first | exact no_some h | cases h)
    · (first | exact no_some h | cases h)
  · (first | exact no_some h | cases h)
end Mine
end
section
open PySem PySem.W PyProof.Rows PySem.Calls PySem.SeqAt PySem.F
set_option maxRecDepth 100000
namespace Mine
noncomputable def oShl : Op2 := fun x y μ => match x, y with
  | .int a, .int (.ofNat n) => bif small a && Nat.ble n 64 then some (.int (a * 2 ^ n), μ) else none
  | _, _ => none
noncomputable def oShr : Op2 := fun x y μ => match x, y with
  | .int a, .int (.ofNat n) => some (.int (a.fdiv (2 ^ n)), μ)
  | _, _ => none
noncomputable def oXor : Op2 := fun x y μ => match x, y with
  | .int a, .int b => some (.int (Builtin.bitXor a b), μ)
  | _, _ => none
noncomputable def cInv (a : Ev) : Ev := fun ls μ => match a ls μ with
  | some (.int i, μ') => some (.int (Builtin.bitNot i), μ')
  | _ => none
noncomputable def cBits (a : Ev) : Ev := fun ls μ => match a ls μ with
  | some (.int i, μ') => some (.int (Builtin.Int.intBits i : Nat), μ')
  | _ => none
noncomputable def tInt (a : Ev) : Et := fun ls μ => match a ls μ with
  | some (.int i, μ') => some (!isZ i, μ')
  | _ => none
noncomputable def neL : List MV → Bool
  | [] => false
  | _ => true
noncomputable def tList (a : Ev) : Et := fun ls μ => match a ls μ with
  | some (.loc n, μ') => match μ'.get n with
    | some (.list l) => bif fits l then some (neL l, μ') else none
    | _ => none
  | _ => none
noncomputable def sRet0 : Es := fun ls μ => some (.ret .none, ls, μ)
noncomputable def bDivmod : List MV → MH → Option (MV × MH) := fun a μ => match a with
  | [.int x, .int y] => bif isZ y then none else bif small y then some (.tup [.int (x.fdiv y), .int (x.fmod y)], μ) else none
  | _ => none
noncomputable def mRev : List MV → MH → Option (MV × MH) := fun a μ => match a with
  | [.loc n] => match μ.get n with
    | some (.list l) => bif fits l then some (.none, μ.put n (.list l.reverse)) else none
    | _ => none
  | _ => none
noncomputable def setN : List MV → Nat → MV → List MV
  | [], _, _ => []
  | _ :: r, 0, v => v :: r
  | a :: r, n + 1, v => a :: setN r n v
noncomputable def sSetL (a o i : Ev) : Es := fun ls μ => match a ls μ with
  | some (v, μ₁) => match o ls μ₁ with
    | some (.loc n, μ₂) => match i ls μ₂ with
      | some (.int (.ofNat j), μ₃) => match μ₃.get n with
        | some (.list l) => bif fits l && Nat.blt j l.length then some (.next, ls, μ₃.put n (.list (setN l j v))) else none
        | _ => none
      | _ => none
    | _ => none
  | none => none
theorem VRs.rev {Q : Int} {h : Heap} {ρ M : List Addr} {ms : List MV} {vs : List Value} (V : VRs Q h ρ M ms vs) : VRs Q h ρ M ms.reverse vs.reverse := by
  induction ms generalizing vs with
  | nil => refine V.nilE ?_; exact .nil
  | cons m ms ih =>
    refine V.consE fun v vs h hs => ?_
    rw [List.reverse_cons, List.reverse_cons]
    exact VRs.append (ih hs) (.cons _ _ _ _ h .nil)
theorem VRs.setN {Q : Int} {h : Heap} {ρ M : List Addr} {v : MV} {pv : Value} (V₁ : VR Q h ρ M v pv) : ∀ {ms : List MV} {vs : List Value} (n : Nat), VRs Q h ρ M ms vs → VRs Q h ρ M (Mine.setN ms n v) (vs.set n pv)
  | _, _, _, .nil => .nil
  | _, _, 0, .cons _ _ _ _ _ Vs => .cons _ _ _ _ V₁ Vs
  | _, _, n + 1, .cons _ _ _ _ V Vs => .cons _ _ _ _ V (VRs.setN V₁ n Vs)
theorem store_item {prog : Program} {w : World} {A : Around} {E : Value → Shared → Prop} {s : Shared} {l : Addr} {xs : Array Value} {n j : Nat} {t : Tok} {v : Value} {Q : Unit → Shared → Prop} (hl : IsL s.heap l xs n) (hj : j < xs.size) (hs : xs.size ≤ 4096)
    {k : Int} (hk : k = (j : Int)) (hQ : Q () { s with heap := s.heap.update l (Obj.mapSeq (·.setIfInBounds j v)) }) : wpAny (model prog w) A (setItem (.ref l) (.int k t) v) Q E s := by
  have hfit : Builtin.List.listFitsIndex k = true := fitsIndex_of (by omega) (by omega)
  have hT := hl.isList.typeIs (s := s)
  unfold setItem
  try with_reducible refine wpAny_holding ?_
  refine wpAny_bind (wpAny_sequenceKey hT (by decide) ?_)
  refine wpAny_bind (wpAny_callSpecial?_slot (name := Str.ofString "__setitem__") hT PySem.slot_list_setitem (wpAny_call_entry PySem.slot_list_setitem hT PySem.entry_list_setitem ?_ (PySem.args_list_setitem _ _ _)))
  show wpAny _ _ (Builtin.List.listSubscript? (.int k t) >>= _) _ _ s
  refine wpAny_bind (wpAny_listSubscript_int hfit ?_)
  clear hfit
  subst hk
  show wpAny _ _ ((seqItemAt l j >>= fun r => pure (r.map (j, ·))) >>= _) _ _ s
  refine wpAny_bind (wpAny_bind (wpAny_seqItemAt hl rfl (wpAny_pure ?_)))
  rw [Array.getElem?_eq_getElem hj]
  show wpAny _ _ (setSeqItemAt l j v >>= _) _ _ s
  refine wpAny_bind (wpAny_setSeqItemAt hl rfl ?_)
  first
    | exact wpAny_bind (wpAny_pure (wpAny_pure ⟨.none, rfl, wpAny_pure hQ⟩))
    | exact wpAny_pure ⟨.none, rfl, wpAny_pure hQ⟩
section
variable {C : Cst} {D : Fd} {k : Nat}
theorem so_shl : SimO C .LShift oShl := by
  intro x y μ v μ' h W px py A hA I Vx Vy Q hQ
  unfold oShl at h
  split at h
  · rename_i a n
    cases hs : (small a && Nat.ble n 64) with
    | false => rw [hs] at h; (first | exact no_some h | cases h)
    | true =>
      rw [hs] at h; (first | exact no_some h | cases h)
      rw [Bool.and_eq_true] at hs
      have h1 := Nat.le_of_ble_eq_true hs.1
      have h2 := Nat.le_of_ble_eq_true hs.2
      refine Vx.intE fun _ => ?_; refine Vy.intE fun _ => ?_
      have h3 : Builtin.Int.intBits a ≤ 64 := intBits_le_64 (by omega) (by omega)
      exact lshift_int (by exact Int.natCast_nonneg n) (by show (Builtin.Int.intBits a : Int) + (n : Int) ≤ _; omega) (hQ.int I _ _)
  · (first | exact no_some h | cases h)
theorem so_shr : SimO C .RShift oShr := by
  intro x y μ v μ' h W px py A hA I Vx Vy Q hQ
  unfold oShr at h
  split at h
  · rename_i a n
    (first | exact no_some h | cases h); refine Vx.intE fun _ => ?_; refine Vy.intE fun _ => ?_
    exact rshift_int (by exact Int.natCast_nonneg n) (hQ.int I _ _)
  · (first | exact no_some h | cases h)
theorem so_xor : SimO C .BitXor oXor := by
  intro x y μ v μ' h W px py A hA I Vx Vy Q hQ
  unfold oXor at h
  split at h
  · (first | exact no_some h | cases h); refine Vx.intE fun _ => ?_; refine Vy.intE fun _ => ?_
    exact xor_int (hQ.int I _ _)
  · (first | exact no_some h | cases h)
theorem sim_inv {e : Expr} {a : Ev} (pos : Pos) (ha : SimE C D k e a) : SimE C D k (.UnaryOp .Invert e pos) (cInv a) := by
  intro ls μ v μ' h W env O A eo ao I F Q hQ
  unfold cInv at h
  split at h
  · rename_i i μ₁ h1
    (first | exact no_some h | cases h)
    refine UnaryOp_ (ha ls μ _ _ h1 W env O A eo ao I F _ fun W₁ pv x₁ I₁ V₁ => ?_)
    refine V₁.intE fun t => ?_
    exact invert_int ((hQ.step x₁).int I₁ _ _)
  · (first | exact no_some h | cases h)
theorem sim_bits {o : Expr} {apos pos : Pos} {a : Ev} (ho : SimE C D k o a) (hbase : ∀ env, attributeBase o "bit_length" env (eval o env) = eval o env) (hline : (apos.endLine == pos.line) = true) :
    SimE C D k (.Call (.Attribute o "bit_length" apos) [] [] pos) (cBits a) := by
  intro ls μ v μ' h W env O A eo ao I F Q hQ
  unfold cBits at h
  split at h
  · rename_i i μ₁ h1
    (first | exact no_some h | cases h)
    refine wpAny_Call_method0_late (hbase env) hline (ho ls μ _ _ h1 W env O A eo ao I F _ fun W₁ pv x₁ I₁ V₁ => ?_)
    refine V₁.intE fun t => ?_
    refine ⟨"int", "int.bit_length", plainAttrs_int, PySem.F.slot_int_bit_length, PySem.F.type_int_bit_length, typeIs_int _ _ _, (fun a e => by cases e), ?_⟩
    refine callWith_builtin rfl (evalArgs_nil3 ?_)
    exact call_int_bit_length ((hQ.step x₁).int I₁ _ _)
  · (first | exact no_some h | cases h)
theorem simt_int {e : Expr} {a : Ev} (ha : SimE C D k e a) (he : ∀ env whole, isTrue e env whole = (do let v ← whole; standAt e.pos; holding [v] (truthy v))) : SimT C D k e (tInt a) := by
  intro ls μ b μ' h W env O A eo ao I F Q hQ
  unfold tInt at h
  split at h
  · rename_i i μ₁ h1
    (first | exact no_some h | cases h)
    refine isTrue_plain (ha ls μ _ _ h1 W env O A eo ao I F _ fun W₁ pv x₁ I₁ V₁ => ?_) (he env _)
    refine V₁.intE fun t => ?_
    refine truthy_int ?_
    have : (i != 0) = !isZ i := by
      cases hz : isZ i with
      | true => rw [isZ_eq.mp hz]; rfl
      | false => simp only [Bool.not_false, bne_iff_ne, ne_eq]; intro q; rw [isZ_eq.mpr q] at hz; (first | exact no_some hz | cases hz)
    rw [this]
    exact hQ W₁ x₁ I₁
  · (first | exact no_some h | cases h)
theorem simt_list {e : Expr} {a : Ev} (ha : SimE C D k e a) (he : ∀ env whole, isTrue e env whole = (do let v ← whole; standAt e.pos; holding [v] (truthy v))) : SimT C D k e (tList a) := by
  intro ls μ b μ' h W env O A eo ao I F Q hQ
  unfold tList at h
  split at h
  · rename_i n μ₁ h1
    split at h
    · rename_i l hg
      cases hf : fits l with
      | false => rw [hf] at h; (first | exact no_some h | cases h)
      | true =>
        rw [hf, cond_true] at h; (first | exact no_some h | cases h)
        refine isTrue_plain (ha ls μ _ _ h1 W env O A eo ao I F _ fun W₁ pv x₁ I₁ V₁ => ?_) (he env _)
        refine V₁.locE fun ax hax => ?_
        refine ex1_2 (I₁.list hax hg) fun its hL Vs => ?_
        have hl := Vs.nthD
        have hf' := Nat.le_of_ble_eq_true hf
        refine wpAny_truthy_list hL.isList (by omega) ?_
        have e : (!its.isEmpty) = neL l := by
          cases l with
          | nil => have : its.size = 0 := hl.symm; simp [Array.isEmpty, this, neL]
          | cons a r => have : its.size = r.length + 1 := hl.symm; simp [Array.isEmpty, this, neL]
        rw [e]
        exact hQ _ (x₁.trans (Ext.tok _ _ _)) (I₁.tok _)
    · (first | exact no_some h | cases h)
  · (first | exact no_some h | cases h)
theorem sim_ret0 (pos : Pos) : SimS C D k (.Return none pos) sRet0 := by
  intro ls μ fl ls' μ' h W env O A eo ao I F Q hQ
  (first | exact no_some h | cases h)
  exact wpAny_Return_none (hQ W _ (Ext.refl _ _) I F (.ret _ _ .none))
theorem sim_fixI {e : Expr} {i : Int} {t : Tok} (hx : Fix C D e (.int i t)) : SimE C D k e (cInt i) := by
  intro ls μ v μ' h W env O A eo ao I F Q hQ
  (first | exact no_some h | cases h)
  exact hx W μ env A eo I _ (hQ W _ (Ext.refl _ _) I (.int i t))
theorem sf_divmod : SimF1 C (.builtin "divmod") bDivmod := by
  intro args μ v μ' h W vals A ao I V Q hQ
  unfold bDivmod at h
  split at h
  · rename_i x y
    cases hz : isZ y with
    | true => rw [hz] at h; (first | exact no_some h | cases h)
    | false =>
      cases hs : small y with
      | false => rw [hz, hs] at h; (first | exact no_some h | cases h)
      | true =>
        rw [hz, hs] at h; (first | exact no_some h | cases h)
        refine V.consE fun pv pvs V Vs => ?_
        refine Vs.consE fun pw pws V2 Vs => ?_
        refine Vs.nilE ?_
        refine V.intE fun t => ?_
        refine V2.intE fun u => ?_
        refine divmod_int (fun q => by rw [isZ_eq.mpr q] at hz; (first | exact no_some hz | cases hz)) ?_ (.inl (noPy hs))
        exact Says.tup (n := 0) I (.cons _ _ _ _ (.int _ _) (.cons _ _ _ _ (.int _ _) .nil)) hQ _
  · (first | exact no_some h | cases h)
theorem sf_reverse (B : Basis C) : SimF1 C (.builtin "list.reverse") mRev := by
  intro args μ v μ' h W vals A ao I V Q hQ
  unfold mRev at h
  split at h
  · rename_i n
    split at h
    · rename_i l hg
      cases hf : fits l with
      | false => rw [hf] at h; (first | exact no_some h | cases h)
      | true =>
        rw [hf] at h; (first | exact no_some h | cases h)
        refine V.consE fun pv pvs V Vs => ?_
        refine Vs.nilE ?_
        refine V.locE fun a ha => ?_
        refine ex1_2 (I.list ha hg) fun its hL Vl => ?_; refine ex1_1 hL fun c hL => ?_
        have l1 := Vl.nthD
        have m1 := Nat.le_of_ble_eq_true hf
        refine call_meets PySem.F.slot_list_reverse ⟨_, hL, rfl⟩ PySem.F.entry_list_reverse (PySem.F.args_list_reverse_1 _) (AutoSeq1.list_reverse_list_0 a its c (by rw [sizeLine_eq]; omega)) ⟨hL, ?_⟩
        have hup : (W.s.heap.update a (Obj.mapSeq fun x => x.reverse)).get? a = _ := IsL.update hL (fun x => x.reverse)
        obtain ⟨x₂, I₂⟩ := put_step (s' := { W.s with heap := W.s.heap.update a (Obj.mapSeq fun x => x.reverse) }) (o := .list l.reverse) B I hg ha (Heap.SameBut.update ..) hup rfl rfl fun y => ⟨_, ⟨_, hup⟩, by
          rw [Array.toList_reverse]
          exact VRs.rev (VRs.mono y (fun _ h => nomatch h) Vl)⟩
        exact hQ _ _ x₂ I₂ .none
    · (first | exact no_some h | cases h)
  · (first | exact no_some h | cases h)
theorem sim_setl {e o i : Expr} {a b c : Ev} (B : Basis C) (p pos : Pos) (ha : SimE C D k e a) (ho : SimE C D k o b) (hi : SimE C D k i c) (sw : ∀ env, swapsWith e (some (.Subscript o i p)) pos.line env = pure false) : SimS C D k (.Assign [.Subscript o i p] e pos) (sSetL a b c) := by
  intro ls μ fl ls' μ' h W env O A eo ao I F Q hQ
  unfold sSetL at h
  split at h
  · rename_i v μ₁ h1
    split at h
    · rename_i n μ₂ h2
      split at h
      · rename_i j μ₃ h3
        split at h
        · rename_i l hg
          cases hf : (fits l && Nat.blt j l.length) with
          | false => rw [hf] at h; (first | exact no_some h | cases h)
          | true =>
            rw [hf] at h; (first | exact no_some h | cases h)
            rw [Bool.and_eq_true] at hf
            have f1 := Nat.le_of_ble_eq_true hf.1
            have f2 := Nat.le_of_ble_eq_true hf.2
            refine wpAny_Assign_Subscript (ha ls μ _ μ₁ h1 W env O A eo ao I F _ fun W₁ pv x₁ I₁ V₁ => ?_) (sw env)
            have F₁ := F.mono I x₁
            refine ho ls μ₁ _ μ₂ h2 W₁ env O A eo ao I₁ F₁ _ fun W₂ po x₂ I₂ V₂ => ?_
            have F₂ := F₁.mono I₁ x₂
            refine hi ls μ₂ _ μ₃ h3 W₂ env O A eo ao I₂ F₂ _ fun W₃ pi x₃ I₃ V₃ => ?_
            have F₃ := F₂.mono I₂ x₃
            have V₁' := VR.mono (x₂.trans x₃) (fun _ h => nomatch h) V₁
            have V₂' := VR.mono x₃ (fun _ h => nomatch h) V₂
            refine V₂'.locE fun ax hax => ?_
            refine V₃.intE fun t => ?_
            refine ex1_2 (I₃.list hax hg) fun its hL Vs => ?_; refine ex1_1 hL fun c0 hL => ?_
            have hl := Vs.nthD
            refine store_item hL (j := j) (by omega) (by omega) rfl ?_
            have hup : (W₃.s.heap.update ax (Obj.mapSeq (·.setIfInBounds j pv))).get? ax = _ := IsL.update hL (fun x => x.setIfInBounds j pv)
            obtain ⟨x₄, I₄⟩ := put_step (s' := { W₃.s with heap := W₃.s.heap.update ax (Obj.mapSeq (·.setIfInBounds j pv)) }) (o := .list (setN l j v)) B I₃ hg hax (Heap.SameBut.update ..) hup rfl rfl fun y => ⟨_, ⟨_, hup⟩, by
              rw [Array.toList_setIfInBounds]
              exact VRs.setN (VR.mono y (fun _ h => nomatch h) V₁') j (VRs.mono y (fun _ h => nomatch h) Vs)⟩
            exact hQ _ _ (((x₁.trans x₂).trans x₃).trans x₄).lift I₄ (F₃.mono I₃ x₄) .next
        · (first | exact no_some h | cases h)
      · (first | exact no_some h | cases h)
    · (first | exact no_some h | cases h)
  · (first | exact no_some h | cases h)
end
end Mine
end
section
open PySem PySem.W PyProof.Rows PySem.Calls PySem.SeqAt
set_option maxRecDepth 100000
namespace Mine
theorem nth_map_int (is : List Int) (j : Nat) (h : j < is.length) : nth (is.map .int) j = some (.int is[j]) := by
  rw [nth_eq, List.getElem?_map, List.getElem?_eq_getElem h]; rfl
theorem fits_map (is : List Int) (h : is.length ≤ 63) : fits (is.map MV.int) = true := by
  unfold fits; rw [List.length_map]; exact Nat.ble_eq_true_of_le (by omega)
theorem cVar_of {n : Nat} {ls : Locs} {μ : MH} {v : MV} (h : look ls n = some v) : cVar n ls μ = some (v, μ) := by unfold cVar; rw [h]
noncomputable def gT (j : Int) : Et := tOf (cBin oEq (cBin oMod (cVar 64) (cInt 2)) (cInt j))
noncomputable def gE : Ev := cBin gItem (cVar 60) (cVar 64)
theorem gT_at {j x : Int} {ls : Locs} {μ : MH} (h : look ls 64 = some (.int x)) : gT j ls μ = some (eqI (x.fmod 2) j, μ) := by
  unfold gT tOf cBin
  rw [cVar_of h]
  rfl
theorem gE_at {ls : Locs} {μ : MH} {a : Nat} {is : List Int} (h : look ls 64 = some (.int (a : Int))) (h0 : look ls 60 = some (.frz (is.map .int))) (ha : a < is.length) (hl : is.length ≤ 63) : gE ls μ = some (.int is[a], μ) := by
  unfold gE cBin
  rw [cVar_of h0]
  simp only []
  rw [cVar_of h]
  simp only [gItem, fits_map is hl, cond_true]
  have e : idx (a : Int) (is.map MV.int).length = some a := by
    show (bif Nat.blt a (is.map MV.int).length then some a else none) = _
    rw [List.length_map, show Nat.blt a is.length = true from Nat.ble_eq_true_of_le (by omega)]; rfl
  rw [e]
  simp only [nth_map_int is a ha]
theorem ints_map (is : List Int) : intsOf (is.map MV.int) = some is := by
  induction is with
  | nil => rfl
  | cons a r ih => rw [List.map_cons]; unfold intsOf; rw [ih]
theorem go_drawn (j : Int) {m : Nat} {is : List Int} (hl : is.length ≤ 63) : ∀ (left a f : Nat) (μ : MH) (ls : Locs) (zs : List Int), left < f → μ.Ok → look ls 60 = some (.frz (is.map .int)) → μ.get m = some (.list (zs.map .int)) → zs.length ≤ a → a + left = is.length →
    ∃ μ' ys, compGo (aName 64) (gT j) gE m f (.rng (a : Int) left) ls μ = some μ' ∧ μ'.get m = some (.list (List.map .int ys)) ∧ μ'.next = μ.next ∧ μ'.Ok ∧ ∀ i, i ≠ m → μ'.get i = μ.get i
  | 0, a, f + 1, μ, ls, zs, _, ok, _, hm, _, _ => ⟨μ, zs, rfl, hm, rfl, ok, fun _ _ => rfl⟩
  | left + 1, a, f + 1, μ, ls, zs, hf, ok, h0, hm, hz, hs => by
    have ha : a < is.length := by omega
    have e64 : look (keep ls 64 (.int (a : Int))) 64 = some (.int (a : Int)) := by rw [look_keep, if_pos rfl]
    have e60 : look (keep ls 64 (.int (a : Int))) 60 = some (.frz (is.map .int)) := by rw [look_keep, if_neg (by decide)]; exact h0
    have step : compGo (aName 64) (gT j) gE m (f + 1) (.rng (a : Int) (left + 1)) ls μ = (match gT j (keep ls 64 (.int (a : Int))) μ with
        | some (true, μ₁) => match gE (keep ls 64 (.int (a : Int))) μ₁ with
          | some (x, μ₂) => match μ₂.get m with
            | some (.list l) => bif fits l then compGo (aName 64) (gT j) gE m f (.rng ((a : Int) + 1) left) (keep ls 64 (.int (a : Int))) (μ₂.put m (.list (l ++ [x]))) else none
            | _ => none
          | none => none
        | some (false, μ₁) => compGo (aName 64) (gT j) gE m f (.rng ((a : Int) + 1) left) (keep ls 64 (.int (a : Int))) μ₁
        | none => none) := rfl
    rw [step, gT_at e64]
    cases eqI ((a : Int).fmod 2) j with
    | false =>
      simp only []
      refine ex2_5 (go_drawn j hl left (a + 1) f μ (keep ls 64 (.int (a : Int))) zs (by omega) ok e60 hm (by omega) (by omega)) fun μ' ys h1 h2 h3 h4 h5 => ?_
      exact ⟨μ', ys, h1, h2, h3, h4, h5⟩
    | true =>
      simp only []
      rw [gE_at e64 e60 ha hl]
      simp only [hm, fits_map zs (by omega), cond_true]
      have gp := MH.get_put ok hm (.list (zs.map .int ++ [.int is[a]]))
      have eapp : zs.map MV.int ++ [.int is[a]] = (zs ++ [is[a]]).map MV.int := by rw [List.map_append]; rfl
      refine ex2_5 (go_drawn j hl left (a + 1) f (μ.put m (.list (zs.map .int ++ [.int is[a]]))) (keep ls 64 (.int (a : Int))) (zs ++ [is[a]]) (by omega) ⟨ok.le⟩ e60 (by rw [gp, if_pos rfl, eapp]) (by rw [List.length_append]; simp; omega) (by omega)) fun μ' ys h1 h2 h3 h4 h5 => ?_
      exact ⟨μ', ys, h1, h2, h3, h4, fun i hi => by rw [h5 i hi, gp, if_neg hi]⟩
noncomputable def gC (j : Int) : Ev := cComp (iRng (lCons (cCall bLen (lCons (cVar 60) lNil)) lNil)) [60] (aName 64) (gT j) gE
theorem MH.new_at {μ : MH} (h : μ.next < 1024) (o : MO) : ∃ μ', μ.new o = some (μ.next, μ') ∧ μ'.Ok ∧ μ'.next = μ.next + 1 ∧ ∀ m, μ'.get m = if m = μ.next then some o else μ.get m := by
  have e : μ.new o = some (μ.next, ⟨Tr.set 10 μ.t μ.next o, μ.next + 1⟩) := by unfold MH.new; rw [if_pos h]
  exact ⟨_, e, (MH.get_new e 0).1, rfl, fun m => (MH.get_new e m).2.2.2⟩
theorem gC_at {j : Int} {ls : Locs} {μ : MH} {is : List Int} (hn : μ.next < 1024) (h0 : look ls 60 = some (.frz (is.map .int))) (hl : is.length ≤ 63) :
    ∃ μ' ys, gC j ls μ = some (.loc μ.next, μ') ∧ μ'.get μ.next = some (.list (List.map .int ys)) ∧ μ'.next = μ.next + 1 ∧ μ'.Ok ∧ ∀ i, i < μ.next → μ'.get i = μ.get i := by
  refine ex1_4 (MH.new_at hn (.list [])) fun μ₂ e2 ok2 nx2 g2 => ?_
  have hl2 : fits (is.map MV.int) = true := fits_map is hl
  have eit : iRng (lCons (cCall bLen (lCons (cVar 60) lNil)) lNil) ls μ = some (.rng 0 is.length, μ) := by
    have e1 : lCons (cCall bLen (lCons (cVar 60) lNil)) lNil ls μ = some ([.int (is.length : Nat)], μ) := by
      unfold lCons cCall
      simp only [cVar_of h0]
      simp only [lNil, bLen, hl2, cond_true, List.length_map]
    unfold iRng
    rw [e1]
    have : smallR ((is.length : Nat) : Int) = true := Nat.ble_eq_true_of_le (by simp; omega)
    simp only [this, cond_true, Int.toNat_natCast]
  have ecap : capt [60] ls = some [(60, .frz (is.map .int))] := by
    unfold capt
    rw [h0]; rfl
  refine ex2_5 (go_drawn j (m := μ.next) hl is.length 0 100 μ₂ [(60, .frz (is.map .int))] [] (by omega) ok2 rfl (by rw [g2, if_pos rfl]; rfl) (by simp) (by omega)) fun μ' ys h1 h2 h3 h4 h5 => ?_
  refine ⟨μ', ys, ?_, h2, by rw [h3, nx2], h4, fun i hi => by rw [h5 i (by omega), g2, if_neg (by omega)]⟩
  unfold gC cComp
  rw [eit]
  simp only [e2, ecap]
  rw [show ((0 : Int)) = ((0 : Nat) : Int) from rfl, h1]
theorem gS_at {j : Int} {ls : Locs} {μ : MH} {is : List Int} (hn : μ.next < 1024) (h0 : look ls 60 = some (.frz (is.map .int))) (hl : is.length ≤ 63) :
    ∃ μ' x, cCall bSum (lCons (gC j) lNil) ls μ = some (.int x, μ') ∧ μ'.next = μ.next + 1 ∧ μ'.Ok ∧ ∀ i, i < μ.next → μ'.get i = μ.get i := by
  refine ex2_5 (gC_at (j := j) hn h0 hl) fun μ' ys h1 h2 h3 h4 h5 => ?_
  refine ⟨μ', sumI ys, ?_, h3, h4, h5⟩
  unfold cCall lCons
  rw [h1]
  simp only [lNil, bSum, h2, ints_map]
noncomputable def wheels : List Int := [7, 8, 9, 5, -7, -8, -9, -5]
theorem drawn_at {μ : MH} {is : List Int} (hn : μ.next < 1000) (hl : is.length ≤ 63) :
    ∃ μ' w st, f_drawn [.frz (is.map .int)] μ = some (.tup [.int w, .int st], μ') ∧ w ∈ wheels ∧ st.natAbs < 10000 ∧ ∀ i, i < μ.next → μ'.get i = μ.get i := by
  refine ex2_4 (gS_at (μ := μ) (is := is) (j := 0) (ls := keep [] 60 (.frz (is.map .int))) (by omega) rfl hl) fun μ₁ x a1 a2 a3 a4 => ?_
  refine ex2_4 (gS_at (j := 1) (ls := keep (keep [] 60 (.frz (is.map .int))) 61 (.int x)) (μ := μ₁) (is := is) (by omega) rfl hl) fun μ₂ y b1 b2 b3 b4 => ?_
  refine ex1_4 (MH.new_at (μ := μ₂) (by omega) (.list [.int 7, .int 8, .int 9, .int 5])) fun μ₃ c1 c2 c3 c4 => ?_
  have g3 : ∀ i, i < μ.next → μ₃.get i = μ.get i := fun i hi => by rw [c4, if_neg (by omega), b4 i (by omega), a4 i hi]
  have ef : ∀ z : Int, z.fmod 4 = z % 4 := fun z => Int.fmod_eq_emod_of_nonneg z (by decide)
  have ef2 : ∀ z : Int, z.fmod 10000 = z % 10000 := fun z => Int.fmod_eq_emod_of_nonneg z (by decide)
  have hm : ∃ r : Nat, r < 4 ∧ (absI x).fmod 4 = (r : Int) := ⟨((absI x).fmod 4).toNat, by rw [ef]; omega, by rw [ef]; omega⟩
  refine ex1_2 hm fun r hr er => ?_
  have hw : ∃ w, w ∈ [7, 8, 9, (5 : Int)] ∧ cBin gItem (cList (lCons (cInt 7) (lCons (cInt 8) (lCons (cInt 9) (lCons (cInt 5) lNil))))) (cBin oMod (cCall bAbs (lCons (cVar 61) lNil)) (cInt 4)) (keep (keep (keep [] 60 (.frz (is.map .int))) 61 (.int x)) 62 (.int (3 + y))) μ₂ = some (.int w, μ₃) := by
    have e1 : cList (lCons (cInt 7) (lCons (cInt 8) (lCons (cInt 9) (lCons (cInt 5) lNil)))) (keep (keep (keep [] 60 (.frz (is.map .int))) 61 (.int x)) 62 (.int (3 + y))) μ₂ = some (.loc μ₂.next, μ₃) := by
      show mkList [.int 7, .int 8, .int 9, .int 5] μ₂ = _
      unfold mkList
      rw [show fits [.int 7, .int 8, .int 9, .int 5] = true from rfl, cond_true, c1]
    have e2 : cBin oMod (cCall bAbs (lCons (cVar 61) lNil)) (cInt 4) (keep (keep (keep [] 60 (.frz (is.map .int))) 61 (.int x)) 62 (.int (3 + y))) μ₃ = some (.int (r : Int), μ₃) := by
      rw [← er]; rfl
    have e3 : μ₃.get μ₂.next = some (.list [.int 7, .int 8, .int 9, .int 5]) := by rw [c4, if_pos rfl]
    match r, hr with
    | 0, _ => exact ⟨7, by decide, by unfold cBin at e2 ⊢; rw [e1]; simp only []; rw [e2]; unfold gItem; simp only [e3]; rfl⟩
    | 1, _ => exact ⟨8, by decide, by unfold cBin at e2 ⊢; rw [e1]; simp only []; rw [e2]; unfold gItem; simp only [e3]; rfl⟩
    | 2, _ => exact ⟨9, by decide, by unfold cBin at e2 ⊢; rw [e1]; simp only []; rw [e2]; unfold gItem; simp only [e3]; rfl⟩
    | 3, _ => exact ⟨5, by decide, by unfold cBin at e2 ⊢; rw [e1]; simp only []; rw [e2]; unfold gItem; simp only [e3]; rfl⟩
  refine ex1_2 hw fun w hw ew => ?_
  have hst : ∃ st : Int, st.natAbs < 10000 ∧ ∀ ls μ, look ls 62 = some (.int (3 + y)) → cIf (tOf (cBin oGe (cVar 62) (cInt 0))) (cBin oMod (cVar 62) (cInt 10000)) (cNeg (cBin oMod (cNeg (cVar 62)) (cInt 10000))) ls μ = some (.int st, μ) := by
    cases hb : (!ltI (3 + y) 0) with
    | true =>
      refine ⟨(3 + y).fmod 10000, by rw [ef2]; omega, fun ls μ h => ?_⟩
      unfold cIf tOf cBin
      simp only [cVar_of h, cInt, oGe, hb]
      rfl
    | false =>
      refine ⟨-((-(3 + y)).fmod 10000), by rw [ef2]; omega, fun ls μ h => ?_⟩
      unfold cIf tOf cBin cNeg
      simp only [cVar_of h, cInt, oGe, hb]
      rfl
  refine ex1_2 hst fun st hs es => ?_
  have hl1 : bCons (sSet 61 (cCall bSum (lCons (gC 0) lNil))) = bCons (sSet 61 (cCall bSum (lCons (gC 0) lNil))) := rfl
  have go : ∀ w', (ltI x 0 = true → w' = -w) → (ltI x 0 = false → w' = w) → f_drawn [.frz (is.map .int)] μ = some (.tup [.int w', .int st], μ₃) := by
    intro w' hw1 hw2
    have e1 : g_drawn (keep [] 60 (.frz (is.map .int))) μ = bCons (sSet 62 (cBin oAdd (cInt 3) (cCall bSum (lCons (gC 1) lNil)))) (bCons (sSet 63 (cBin gItem (cList (lCons (cInt 7) (lCons (cInt 8) (lCons (cInt 9) (lCons (cInt 5) lNil))))) (cBin oMod (cCall bAbs (lCons (cVar 61) lNil)) (cInt 4)))) (bCons (sIf (tOf (cBin oLt (cVar 61) (cInt 0))) (bCons (sSet 63 (cNeg (cVar 63))) bNil) bNil) (bCons (sRet (cTup (lCons (cVar 63) (lCons (cIf (tOf (cBin oGe (cVar 62) (cInt 0))) (cBin oMod (cVar 62) (cInt 10000)) (cNeg (cBin oMod (cNeg (cVar 62)) (cInt 10000)))) lNil)))) bNil))) (keep (keep [] 60 (.frz (is.map .int))) 61 (.int x)) μ₁ := by
      show bCons (sSet 61 (cCall bSum (lCons (gC 0) lNil))) _ _ _ = _
      unfold bCons sSet
      rw [a1]
      rfl
    have e2 : bCons (sSet 62 (cBin oAdd (cInt 3) (cCall bSum (lCons (gC 1) lNil)))) (bCons (sSet 63 (cBin gItem (cList (lCons (cInt 7) (lCons (cInt 8) (lCons (cInt 9) (lCons (cInt 5) lNil))))) (cBin oMod (cCall bAbs (lCons (cVar 61) lNil)) (cInt 4)))) (bCons (sIf (tOf (cBin oLt (cVar 61) (cInt 0))) (bCons (sSet 63 (cNeg (cVar 63))) bNil) bNil) (bCons (sRet (cTup (lCons (cVar 63) (lCons (cIf (tOf (cBin oGe (cVar 62) (cInt 0))) (cBin oMod (cVar 62) (cInt 10000)) (cNeg (cBin oMod (cNeg (cVar 62)) (cInt 10000)))) lNil)))) bNil))) (keep (keep [] 60 (.frz (is.map .int))) 61 (.int x)) μ₁ = (bCons (sIf (tOf (cBin oLt (cVar 61) (cInt 0))) (bCons (sSet 63 (cNeg (cVar 63))) bNil) bNil) (bCons (sRet (cTup (lCons (cVar 63) (lCons (cIf (tOf (cBin oGe (cVar 62) (cInt 0))) (cBin oMod (cVar 62) (cInt 10000)) (cNeg (cBin oMod (cNeg (cVar 62)) (cInt 10000)))) lNil)))) bNil)) (keep (keep (keep (keep [] 60 (.frz (is.map .int))) 61 (.int x)) 62 (.int (3 + y))) 63 (.int w)) μ₃ := by
      have q : cBin oAdd (cInt 3) (cCall bSum (lCons (gC 1) lNil)) (keep (keep [] 60 (.frz (is.map .int))) 61 (.int x)) μ₁ = some (.int (3 + y), μ₂) := by
        unfold cBin
        simp only [cInt]
        rw [b1]
        rfl
      rw [bCons, sSet, q]
      simp only []
      rw [bCons, sSet, ew]
    have e3 : bCons (sIf (tOf (cBin oLt (cVar 61) (cInt 0))) (bCons (sSet 63 (cNeg (cVar 63))) bNil) bNil) (bCons (sRet (cTup (lCons (cVar 63) (lCons (cIf (tOf (cBin oGe (cVar 62) (cInt 0))) (cBin oMod (cVar 62) (cInt 10000)) (cNeg (cBin oMod (cNeg (cVar 62)) (cInt 10000)))) lNil)))) bNil) (keep (keep (keep (keep [] 60 (.frz (is.map .int))) 61 (.int x)) 62 (.int (3 + y))) 63 (.int w)) μ₃ = (bCons (sRet (cTup (lCons (cVar 63) (lCons (cIf (tOf (cBin oGe (cVar 62) (cInt 0))) (cBin oMod (cVar 62) (cInt 10000)) (cNeg (cBin oMod (cNeg (cVar 62)) (cInt 10000)))) lNil)))) bNil) (keep (keep (keep (keep [] 60 (.frz (is.map .int))) 61 (.int x)) 62 (.int (3 + y))) 63 (.int w')) μ₃ := by
      rw [bCons, sIf, show tOf (cBin oLt (cVar 61) (cInt 0)) (keep (keep (keep (keep [] 60 (.frz (is.map .int))) 61 (.int x)) 62 (.int (3 + y))) 63 (.int w)) μ₃ = some (ltI x 0, μ₃) from rfl]
      cases hb : ltI x 0 with
      | true => rw [hw1 hb]; rfl
      | false => rw [hw2 hb]; rfl
    have e4 : bCons (sRet (cTup (lCons (cVar 63) (lCons (cIf (tOf (cBin oGe (cVar 62) (cInt 0))) (cBin oMod (cVar 62) (cInt 10000)) (cNeg (cBin oMod (cNeg (cVar 62)) (cInt 10000)))) lNil)))) bNil (keep (keep (keep (keep [] 60 (.frz (is.map .int))) 61 (.int x)) 62 (.int (3 + y))) 63 (.int w')) μ₃ = some (.ret (.tup [.int w', .int st]), keep (keep (keep (keep [] 60 (.frz (is.map .int))) 61 (.int x)) 62 (.int (3 + y))) 63 (.int w'), μ₃) := by
      rw [bCons, sRet, cTup, lCons, cVar_of (v := .int w') rfl]
      simp only []
      rw [lCons, es _ _ rfl]
      rfl
    show (match g_drawn (keep [] 60 (.frz (is.map .int))) μ with
      | some (.ret v, _, μ') => some (v, μ')
      | some (.next, _, μ') => some (.none, μ')
      | _ => none) = _
    rw [e1, e2, e3, e4]
  cases hb : ltI x 0 with
  | true =>
    refine ⟨μ₃, -w, st, go (-w) (fun _ => rfl) (fun h => by rw [hb] at h; (first | exact no_some h | cases h)), ?_, hs, g3⟩
    simp only [List.mem_cons, List.not_mem_nil, or_false] at hw
    rcases hw with rfl | rfl | rfl | rfl <;> decide
  | false =>
    refine ⟨μ₃, w, st, go w (fun h => by rw [hb] at h; (first | exact no_some h | cases h)) (fun _ => rfl), ?_, hs, g3⟩
    simp only [List.mem_cons, List.not_mem_nil, or_false] at hw
    rcases hw with rfl | rfl | rfl | rfl <;> decide
end Mine
end
section
open PySem PySem.W PyProof.Rows PySem.Calls PySem.SeqAt PySem.F
set_option maxRecDepth 100000
namespace Mine
theorem codeAmong_app {pos pos' : Pos} {c cv : Value} (l : List Value) (h : TriplesOk l) (hv : codeAmong pos' (l ++ [rawInt pos.line, rawInt pos.col, c]) = some cv) : codeAmong pos' l = some cv ∨ cv = c := by
  fun_induction TriplesOk l with
  | case1 =>
    simp only [List.nil_append, rawInt, codeAmong] at hv
    split at hv
    · (first | exact no_some hv | cases hv); exact .inr rfl
    · (first | exact no_some hv | cases hv)
  | case2 a t b u x rest ih =>
    simp only [List.cons_append, codeAmong] at hv ⊢
    split at hv
    · rename_i hc; rw [if_pos hc]; exact .inl hv
    · rename_i hc; rw [if_neg hc]; exact ih h hv
  | case3 l h1 h2 => exact h.elim
section
variable {C : Cst} {W : Wd} {μ : MH} {A : Around}
theorem tabs_P {p : Addr × Addr} (hp : p ∈ tabs) : p.2 ≠ cStatics ∧ mainGlobals ≠ p.2 := by
  unfold tabs at hp
  simp only [List.mem_cons, List.not_mem_nil, or_false] at hp
  rcases hp with rfl | rfl | rfl | rfl <;> exact ⟨by decide, by decide⟩
theorem tabs_ne {p q : Addr × Addr} (hp : p ∈ tabs) (hq : q ∈ tabs) (h : q ≠ p) : q.1 ≠ p.2 ∧ q.2 ≠ p.2 := by
  unfold tabs at hp hq
  simp only [List.mem_cons, List.not_mem_nil, or_false] at hp hq
  rcases hp with rfl | rfl | rfl | rfl <;> rcases hq with rfl | rfl | rfl | rfl <;> first | exact absurd rfl h | exact ⟨by decide, by decide⟩
theorem Inv.keepX (I : Inv C W μ) {s : Shared} (k : OKeep W.h s.heap) (hg : AllBare s.gens) (ho : s.os = W.s.os) : Ext [] W (W.at s) ∧ Inv C (W.at s) μ := ⟨Ext.keep [] k, I.keep k hg ho⟩
theorem Inv.tabStepG (B : Basis C) (I : Inv C W μ) {s' : Shared} {p : Addr × Addr} (hp : p ∈ tabs) (hx : Heap.ExtBut p.2 W.h s'.heap) {ps more : Array Value} (hP : W.h.TableAt p.1 p.2 ps) (hP' : s'.heap.TableAt p.1 p.2 (ps ++ more)) (hnew : TabIn (W.at s') p) (hg : AllBare s'.gens) (hos : s'.os = W.s.os) : Ext [] W (W.at s') ∧ Inv C (W.at s') μ := by
  have hPC := (B.tab p hp).2
  have hne : ∀ b o, W.h.get? b = some o → (o.cls ≠ .none ∨ b ∈ W.M) → b ≠ p.2 := fun b o e h q => by
    rcases h with h | h
    · rw [q, hP.2] at e; cases e; exact h rfl
    · have := (I.freshM b h).1; rw [q, hPC] at this; (first | exact no_some this | cases this)
  have hρ : ∀ b ∈ W.ρ, b ≠ p.2 := fun b hb q => by have := (I.freshρ b hb).1; rw [q, hPC] at this; (first | exact no_some this | cases this)
  have x : Ext [] W (W.at s') := ⟨fun _ _ h => h, fun b o e hc _ _ => hx b o (hne b o e hc) e, fun b o e => by
      by_cases q : b = p.2
      · subst q; exact ⟨_, hP'.2⟩
      · exact ⟨o, hx b o q e⟩, fun _ h => .inl h, fun _ h => .inl h, fun _ h => h⟩
  refine ⟨x, ?_⟩
  exact
    { old := I.old.step_table (B.tab p hp) hP hP' hx (tabs_P hp).1
      lim := by refine ex1_2 I.lim fun m h1 h2 => ?_; exact ⟨m, h1.extBut hx (Ne.symm (tabs_P hp).1), h2⟩
      tab := fun q hq => by
        by_cases e : q = p
        · rw [e]; exact hnew
        · have ne := tabs_ne hp hq e
          exact (I.tab q hq).wk (x.wk fun _ h => nomatch h) fun _ h => let ⟨⟨o, vs, e1, r⟩, t⟩ := h; ⟨⟨o, vs, hx _ _ ne.1 e1, r⟩, hx _ _ ne.2 t⟩
      ok := I.ok
      objs := fun n o h => let ⟨a, h1, h2⟩ := I.objs n o h; ⟨a, h1, OR.mono x (fun _ h => nomatch h) (fun ob e => hx a ob (hρ a (List.mem_of_getElem? h1)) e) h2⟩
      len := I.len
      nd := I.nd
      freshρ := fun a ha => let ⟨h1, o, h2⟩ := I.freshρ a ha; ⟨h1, o, hx a o (hρ a ha) h2⟩
      freshM := fun a ha => let ⟨h1, ⟨o, h2⟩, h4⟩ := I.freshM a ha; ⟨h1, ⟨o, hx a o (hne a o h2 (.inr ha)) h2⟩, h4⟩
      gens := hg
      os := hos.trans I.os
      big := I.big
      g3 := I.g3 }
theorem Inv.tabStep (B : Basis C) (I : Inv C W μ) {s' : Shared} {p : Addr × Addr} (hp : p ∈ tabs) (hx : Heap.ExtBut p.2 W.h s'.heap) {ps more : Array Value} (hP : W.h.TableAt p.1 p.2 ps) (hP' : s'.heap.TableAt p.1 p.2 (ps ++ more)) (hnew : TabIn (W.at s') p) (hg : s'.gens = W.s.gens) (hos : s'.os = W.s.os) : Ext [] W (W.at s') ∧ Inv C (W.at s') μ :=
  I.tabStepG B hp hx hP hP' hnew (by rw [hg]; exact I.gens) hos
theorem code_hd (P : Params) {h : Heap} (X : (K P).In h) {p : Addr × Addr} (hp : p ∈ tabs) : CodeHd h p.1 p.2 := by
  unfold tabs at hp
  simp only [List.mem_cons, List.not_mem_nil, or_false] at hp
  rcases hp with rfl | rfl | rfl | rfl
  · exact ⟨_, _, _, _, _, _, _, _, _, X 79 _ rfl, rfl, rfl, rfl, rfl, rfl, rfl, rfl, rfl, by decide⟩
  · exact ⟨_, _, _, _, _, _, _, _, _, X 101 _ rfl, rfl, rfl, rfl, rfl, rfl, rfl, rfl, rfl, by decide⟩
  · exact ⟨_, _, _, _, _, _, _, _, _, X 129 _ rfl, rfl, rfl, rfl, rfl, rfl, rfl, rfl, rfl, by decide⟩
  · exact ⟨_, _, _, _, _, _, _, _, _, X 136 _ rfl, rfl, rfl, rfl, rfl, rfl, rfl, rfl, rfl, by decide⟩
noncomputable def CodeOk (W : Wd) (cv : Value) (qual : Str) : Prop := ∃ c o vs t, cv = .ref c ∧ W.h.get? c = some o ∧ o.cls ≠ .none ∧ c ∉ W.ρ ∧ c ∉ W.M ∧ o.data = .fields vs ∧ vs[1]? = some (.str qual t)
theorem CodeOk.rec {W : Wd} {cv : Value} {qual : Str} (h : CodeOk W cv qual) : W.h.CodeRec cv qual := let ⟨c, o, vs, t, h1, h2, _, _, _, h3, h4⟩ := h; ⟨c, o, vs, t, h1, h2, h3, h4⟩
theorem CodeOk.wk {W W' : Wd} (x : Wk W W') {cv : Value} {qual : Str} (h : CodeOk W cv qual) : CodeOk W' cv qual := by
  refine ex4_7 h fun c o vs t h1 h2 h3 h4 h5 h6 h7 => ?_
  refine ex0_3 (x.imm c o h2 h3 h4 h5) fun z1 z2 z3 => ?_
  exact ⟨c, o, vs, t, h1, z1, h3, z2, z3, h6, h7⟩
theorem mk_fun {name : Str} {params : Arguments} {body : List Stmt} {scope : Scope} {env : Env} {p : Addr × Addr} {qc : Str × Addr} {clos : List (Str × Addr)} {pos : Pos} {firstLine : Nat} {Q : Value → Shared → Prop} (B : Basis C) (I : Inv C W μ) (hp : p ∈ tabs) (hgl : env.globals = mainGlobals) (hcode : env.code = .ref p.1)
    (hcl : closureFor scope env = pure (qc :: clos)) (hdoc : docOf body = none)
    (hQ : ∀ W' fa cv ctv pm, Ext [] W W' → Inv C W' μ → W'.ρ = W.ρ → W'.M = W.M → W'.h.get? fa = some { cls := .type "function", data := .func (fnX name (qualOf p.1) params body scope (qc :: clos) .none .none .none pm none cv ctv) } → W.h.get? fa = none → CodeOk W' cv (qualOf p.1) → Q (.ref fa) W'.s) :
    wpAny (model P0 C.w) A (makeFunction name (qualOf p.1) params (.stmts body) scope env [] [] [] pos firstLine) Q NoE W.s := by
  refine ex3_9 B.bm fun mg bm ob hg0 hbm hne0 hneg hneP hbo hcls hdict hdata => ?_
  have hg := I.nsOld hg0 (by decide)
  have hbo' := I.keepOld hbo (by rw [hcls]; exact fun h => nomatch h)
  refine ex1_3 (I.tab p hp) fun ps hT htr hent => ?_
  have C₀ := code_hd C.w.params (I.K B) hp
  have hgP := (tabs_P hp).2
  rw [makeFunction_eq]
  simp only [List.zip_nil_right, List.filterMap_nil, List.isEmpty_nil, if_true, pure_bind]
  unfold makeTail
  rw [hcl, hgl]
  refine wpAny_bind (wpAny_pure ?_)
  simp only [List.isEmpty_cons, Bool.false_eq_true, if_false]
  refine wpAny_bind (wpAny_newTextTuple ?_)
  cases hf : codeAmong pos ps.toList with
  | some cv =>
    refine wpAny_bind (wpAny_functionCode_hit hcode ((C₀.keeps fun b o e => Heap.get?_push_of_some _ e).code (Heap.get?_push_of_some _ hT.2) htr) hf ?_)
    refine wpAny_bind (wpAny_builtinsFor (hg.push _) hbm hne0 (Heap.get?_push_of_some _ hbo') hcls hdict hdata ?_)
    refine wpAny_bind (wpAny_nsGet (hg.push _) ?_)
    simp only [hdoc]
    refine wpAny_bind (wpAny_pure (wpAny_newObj_type ?_ (by size_fits)))
    have k2 : ∀ (T F : Obj), OKeep W.h ((W.h.push T).push F) := fun T F b o e => Heap.get?_push_of_some _ (Heap.get?_push_of_some _ e)
    refine hQ (W.at _) _ cv _ _ (Ext.keep [] (k2 _ _)) (I.keep (k2 _ _) I.gens rfl) rfl rfl (Heap.get?_push_size _ rfl) (Heap.get?_none_of_le (show W.s.heap.objs.size ≤ _ from by rw [Heap.size_push]; omega)) ?_
    exact CodeOk.wk ((Ext.keep [] (k2 _ _)).wk fun _ h => nomatch h) (hent pos cv hf)
  | none =>
    refine wpAny_bind (wpAny_functionCodeX hcode ((C₀.keeps fun b o e => Heap.get?_push_of_some _ e).code (Heap.get?_push_of_some _ hT.2) htr) ((C₀.keeps fun b o e => Heap.get?_push_of_some _ e).tab (Heap.get?_push_of_some _ hT.2)) hf fun c' h' tk hx hge hlt _ hrec htb hct => ?_)
    have hg' := (hg.push _).extBut hx hgP
    refine wpAny_bind (wpAny_builtinsFor hg' hbm hne0 (hx _ _ (hneP p hp) (Heap.get?_push_of_some _ hbo')) hcls hdict hdata ?_)
    refine wpAny_bind (wpAny_nsGet hg' ?_)
    simp only [hdoc]
    refine wpAny_bind (wpAny_pure (wpAny_newObj_type ?_ (by size_fits)))
    have I₁ := I.keep (s := { W.s with heap := W.s.heap.push { cls := .type "tuple", data := .seq (((qc :: clos).mergeSort fun a b => a.1.cps.toList ≤ b.1.cps.toList).map (.ref ·.2)).toArray } }) (push_keep _ _) I.gens rfl
    have x₁ : Ext [] W (W.at { W.s with heap := W.s.heap.push { cls := .type "tuple", data := .seq (((qc :: clos).mergeSort fun a b => a.1.cps.toList ≤ b.1.cps.toList).map (.ref ·.2)).toArray } }) := Ext.keep [] (push_keep _ _)
    have hT₁ : (W.at { W.s with heap := W.s.heap.push { cls := .type "tuple", data := .seq (((qc :: clos).mergeSort fun a b => a.1.cps.toList ≤ b.1.cps.toList).map (.ref ·.2)).toArray } }).h.TableAt p.1 p.2 ps := hT.push _
    have hsz : W.s.heap.objs.size ≤ (W.s.heap.push { cls := .type "tuple", data := .seq (((qc :: clos).mergeSort fun a b => a.1.cps.toList ≤ b.1.cps.toList).map (.ref ·.2)).toArray }).objs.size := by rw [Heap.size_push]; omega
    obtain ⟨P', _, _, ⟨oc, vs, e1, e2, e3, _⟩, _⟩ := hct
    refine ex4_4 hrec fun c₂ o₂ vs₂ t₂ q1 q2 q3 q4 => ?_
    (first | exact no_some q1 | cases q1)
    have nlt : ∀ a, (a ∈ W.ρ ∨ a ∈ W.M) → a ≠ c' := fun a h q => by have := I.lt h; rw [q] at this; exact absurd (Nat.lt_of_lt_of_le this (Nat.le_trans hsz hge)) (Nat.lt_irrefl _)
    have hcode : CodeOk ((W.at { W.s with heap := W.s.heap.push { cls := .type "tuple", data := .seq (((qc :: clos).mergeSort fun a b => a.1.cps.toList ≤ b.1.cps.toList).map (.ref ·.2)).toArray } }).at { W.s with heap := h', toks := tk }) (.ref c') (qualOf p.1) := by
      refine ⟨c', o₂, vs₂, t₂, rfl, q2, ?_, fun h => nlt c' (.inl h) rfl, fun h => nlt c' (.inr h) rfl, q3, q4⟩
      rw [show o₂ = oc from Option.some.inj (q2.symm.trans e1), e2]; exact fun h => nomatch h
    have hl : (ps ++ #[rawInt pos.line, rawInt pos.col, .ref c']).toList = ps.toList ++ [rawInt pos.line, rawInt pos.col, .ref c'] := by rw [Array.toList_append]
    have hnew : TabIn ((W.at { W.s with heap := W.s.heap.push { cls := .type "tuple", data := .seq (((qc :: clos).mergeSort fun a b => a.1.cps.toList ≤ b.1.cps.toList).map (.ref ·.2)).toArray } }).at { W.s with heap := h', toks := tk }) p := by
      refine ⟨_, htb, by rw [hl]; exact TriplesOk_snoc _ _ _ _ htr, fun pos' cv hv => ?_⟩
      rw [hl] at hv
      rcases codeAmong_app ps.toList htr hv with hv | rfl
      · refine ex4_7 (hent pos' cv hv) fun c o vs t z1 z2 z3 z4 z5 z6 z7 => ?_
        refine ⟨c, o, vs, t, z1, hx c o (fun q => ?_) (Heap.get?_push_of_some _ z2), z3, z4, z5, z6, z7⟩
        rw [q, hT.2] at z2; cases z2; exact z3 rfl
      · exact hcode
    refine ex0_2 (I₁.tabStep B (s' := { W.s with heap := h', toks := tk }) hp hx hT₁ htb hnew rfl rfl) fun x₂ I₂ => ?_
    have k3 := push_keep h' { cls := Value.type "function", data := .func (fnX name (qualOf p.1) params body scope (qc :: clos) .none .none .none ((mg "__name__").getD .none) none (.ref c') (.ref W.s.heap.objs.size)) }
    refine ex0_2 (I₂.keepX (s := { W.s with heap := h'.push { cls := Value.type "function", data := .func (fnX name (qualOf p.1) params body scope (qc :: clos) .none .none .none ((mg "__name__").getD .none) none (.ref c') (.ref W.s.heap.objs.size)) }, toks := tk }) k3 I.gens rfl) fun x₃ I₃ => ?_
    refine hQ _ h'.objs.size (.ref c') _ _ ((x₁.trans x₂).trans x₃) I₃ rfl rfl (Heap.get?_push_size _ rfl) (Heap.get?_none_of_le (Nat.le_trans hsz (Nat.le_of_lt (Nat.lt_of_le_of_lt hge hlt)))) ?_
    exact CodeOk.wk (x₃.wk fun _ h => nomatch h) hcode
end
end Mine
end
section
open PySem PySem.W PyProof.Rows PySem.Calls PySem.SeqAt PySem.F
set_option maxRecDepth 100000
namespace Mine
structure CloK (C : Cst) (W : Wd) (cl : List (Str × Addr)) (lc : Locs) (fa : Addr) (fd : FuncData) : Prop where
  mem : ∀ x c, (x, c) ∈ cl → c ∈ W.M ∧ ∃ v, W.h.IsCell c v
  ap : cl.Pairwise fun x y => x.2 ≠ y.2
  vars : ∀ n v, n < nmC → look lc n = some v → ∃ c pv, cl.lookup (nm n) = some c ∧ VR C.Q W.h W.ρ W.M v pv ∧ W.h.IsCell c (some pv)
  self : ∃ c, cl.lookup (nm 33) = some c ∧ W.h.IsCell c (some (.ref fa))
  fn : W.h.get? fa = some { cls := .type "function", data := .func fd }
  fno : fa ∉ W.ρ ∧ fa ∉ W.M
  code : CodeOk W fd.code fd.qualname
section
variable {C : Cst} {W W' : Wd} {μ : MH} {A : Around} {cl : List (Str × Addr)} {lc : Locs} {fa : Addr} {fd : FuncData}
theorem IsCell.mine (I : Inv C W μ) (x : Ext [] W W') {c : Addr} (hM : c ∈ W.M) {v : Option Value} (h : W.h.IsCell c v) : W'.h.IsCell c v := by
  refine ex1_2 h fun o h1 h2 => ?_
  exact ⟨o, I.mine x hM h1, h2⟩
theorem CloK.mono (I : Inv C W μ) (x : Ext [] W W') (h : CloK C W cl lc fa fd) : CloK C W' cl lc fa fd where
  mem := fun y c hm => let ⟨h1, v, h2⟩ := h.mem y c hm; ⟨x.subM _ h1, v, IsCell.mine I x h1 h2⟩
  ap := h.ap
  vars := fun n v hn hl => let ⟨c, pv, h1, h2, h3⟩ := h.vars n v hn hl; ⟨c, pv, h1, VR.mono x (fun _ h => nomatch h) h2, IsCell.mine I x (h.mem _ _ (mem_of_lookup h1)).1 h3⟩
  self := let ⟨c, h1, h2⟩ := h.self; ⟨c, h1, IsCell.mine I x (h.mem _ _ (mem_of_lookup h1)).1 h2⟩
  fn := (x.imm (fun _ h => nomatch h) h.fn (fun e => nomatch e) h.fno.1 h.fno.2).1
  fno := (x.imm (fun _ h => nomatch h) h.fn (fun e => nomatch e) h.fno.1 h.fno.2).2
  code := h.code.wk (x.wk fun _ h => nomatch h)
theorem no_cells : ∀ (names : List (Str × NameKind)) (n : Nat) (acc : List (Str × Addr)) (h : Heap), (∀ x ∈ names, x.2 ≠ .cell) → cellsFrom n names acc = acc ∧ pushCells h names = h
  | [], _, _, _, _ => ⟨rfl, rfl⟩
  | (name, kind) :: r, n, acc, h, hc => by
    have hk : ¬ (kind == NameKind.cell) = true := fun q => hc _ (.head _) (by simpa using q)
    unfold cellsFrom pushCells
    rw [if_neg hk, if_neg hk]
    exact no_cells r n acc h fun x hx => hc x (.tail _ hx)
theorem clo_env {scope : Scope} {qual : Str} {func : Option Addr} {code : Value} {Q : Env → Shared → Prop} (B : Basis C) (hk : scope.kind = .function) (hcell : ∀ x ∈ scope.names, x.2 ≠ .cell) (hself : scope.names.lookup (nm 33) = some .free) (hfree : ∀ n v, look lc n = some v → scope.names.lookup (nm n) = some .free)
    (ns : List Nat) (ms : List MV) (vals : List Value) (hb : ∀ n ∈ ns, n < nmC ∧ Sto ⟨scope, [], none⟩ n = true) (I : Inv C W μ) (Kc : CloK C W cl lc fa fd) (V : VRs C.Q W.h W.ρ W.M ms vals)
    (hQ : ∀ env O W', EnvOk ⟨scope, [], none⟩ env → O = [env.locals] → Ext [] W W' → (∀ a ∈ O, W.h.get? a = none) → Inv C W' μ → FrOk C W' env [] O (bnd ns ms lc) → VarAt W'.h env (nm 33) (.ref fa) → Q env W'.s) :
    wpAny (model P0 C.w) A (newFunctionEnv scope mainGlobals cl ((ns.map nm).zip vals) qual func code none builtinsNs) Q NoE W.s := by
  simp only [newFunctionEnv, Option.isSome_none, Bool.false_eq_true, if_false]
  refine wpAny_bind (wpAny_alloc ?_)
  refine wpAny_bind (wpAny_layCells _ (fun name kind cells => by cases hkc : kind == NameKind.cell <;> simp [hkc]) _ _ _ _ ?_)
  rw [(no_cells scope.names _ cl (W.h.push { cls := .type "frame", data := .dict #[] }) hcell).1]
  show wpAny _ A (forIn _ _ _ >>= _) _ _ { W.s with heap := pushCells (W.h.push { cls := .type "frame", data := .dict #[] }) scope.names }
  rw [(no_cells scope.names 0 cl (W.h.push { cls := .type "frame", data := .dict #[] }) hcell).2]
  have nope : W.h.get? W.h.objs.size = none := nofresh _
  have hf : ∀ a ∈ [W.h.objs.size], W.h.get? a = none := fun a ha => by rw [List.mem_singleton.mp ha]; exact nope
  have hns : (W.h.push { cls := .type "frame", data := .dict #[] }).Ns W.h.objs.size (fun _ => none) := Heap.Ns.new W.h (.type "frame")
  have kp : OKeep W.h (W.h.push { cls := .type "frame", data := .dict #[] }) := push_keep _ _
  have al : ∀ a ∈ [W.h.objs.size], ∃ o, (W.h.push { cls := .type "frame", data := .dict #[] }).get? a = some o := fun a ha => by
    rw [List.mem_singleton.mp ha]; refine ex3_2 hns fun o _ _ h _ => ?_; exact ⟨o, h⟩
  have x : Ext [] W (W.hid { W.s with heap := W.h.push { cls := .type "frame", data := .dict #[] } } [W.h.objs.size]) := Ext.hid [] kp hf
  have I₁ := I.hid (s := { W.s with heap := W.h.push { cls := .type "frame", data := .dict #[] } }) kp hf al I.gens rfl
  have K₁ := Kc.mono I x
  have hne : ∀ y c, (y, c) ∈ cl → c ≠ W.h.objs.size := fun y c hm q => by
    obtain ⟨_, v, o, ho, _⟩ := Kc.mem y c hm
    rw [q, nope] at ho; (first | exact no_some ho | cases ho)
  have F₁ : FrOk C (W.hid { W.s with heap := W.h.push { cls := .type "frame", data := .dict #[] } } [W.h.objs.size]) (newEnv scope W.h.objs.size mainGlobals cl qual func code none builtinsNs) [] [W.h.objs.size] lc :=
    { LO := .head _
      OM := fun a ha => List.mem_append_left _ ha
      ns := ⟨_, hns⟩
      cM := fun y c hm => let ⟨h1, h2⟩ := K₁.mem y c hm; ⟨h1, hne y c hm, h2⟩
      cap := Kc.ap
      ow := fun n hn => nomatch hn
      vars := fun n v hn h _ => let ⟨c, pv, h1, h2, h3⟩ := K₁.vars n v hn h; ⟨pv, h2, .free c (by show scope.names.lookup _ = _; exact hfree n v h) h1 h3⟩ }
  have eo : EnvOk ⟨scope, [], none⟩ (newEnv scope W.h.objs.size mainGlobals cl qual func code none builtinsNs) := ⟨rfl, hk, rfl, rfl, fun _ h => by (first | exact no_some h | cases h)⟩
  refine wpAny_bind (sim_binds B eo _ (fun _ _ _ => rfl) ns ms vals lc _ (VRs.mono x (fun _ h => nomatch h) V) hb I₁ F₁ fun W₂ x₂ I₂ F₂ => wpAny_pure ?_)
  refine hQ _ _ W₂ eo rfl (x.fresh x₂ hf) hf I₂ F₂ ?_
  obtain ⟨c, h1, o, h2, h3⟩ := K₁.self
  have hcM := (K₁.mem _ _ (mem_of_lookup h1)).1
  exact .free c (by show scope.names.lookup _ = _; exact hself) h1 ⟨o, x₂.fr c o h2 (.inr hcM) (I₁.freshM c hcM).2.2 (fun q => hne _ _ (mem_of_lookup h1) (List.mem_singleton.mp q)), h3⟩
theorem clo_call {k : Nat} {body : List Stmt} {R : Value → Shared → Prop} (B : Basis C) (hbody : fd.body = .stmts body) (hg : fd.globals = mainGlobals) (hcl : fd.closure = cl) (hbu : fd.builtins = builtinsNs) (hco : fd.scope.isCoroutine = false) (hgen : fd.scope.isGenerator = false) (hk : fd.scope.kind = .function)
    (hcell : ∀ x ∈ fd.scope.names, x.2 ≠ .cell) (hself : fd.scope.names.lookup (nm 33) = some .free) (hfree : ∀ n v, look lc n = some v → fd.scope.names.lookup (nm n) = some .free)
    (ns : List Nat) (ms : List MV) (vals : List Value) (hb : ∀ n ∈ ns, n < nmC ∧ Sto ⟨fd.scope, [], none⟩ n = true) (hbind : BindsTo W.s fd ⟨vals, []⟩ ((ns.map nm).zip vals)) (ao : AOk (k + 1) A) (I : Inv C W μ) (Kc : CloK C W cl lc fa fd) (V : VRs C.Q W.h W.ρ W.M ms vals)
    (h : ∀ env O W', EnvOk ⟨fd.scope, [], none⟩ env → O = [env.locals] → Ext [] W W' → (∀ a ∈ O, W.h.get? a = none) → Inv C W' μ → FrOk C W' env [] O (bnd ns ms lc) → VarAt W'.h env (nm 33) (.ref fa) → AOk k (A.deeper env) →
      wpAny (model P0 C.w) (A.deeper env) (execs body env) (fun f s' => R (match f with | .ret v => v | _ => .none) s') NoE W'.s) :
    wpAny (model P0 C.w) A (call (.ref fa) vals) R NoE W.s := by
  refine wpAny_call (codeAny_call_function (fd := fd) (by have := ao.dep; unfold recursionLimit; omega) Kc.fn rfl hco hgen hbody Kc.code.rec (hbind _ _ _ _ ?_))
  rw [hg, hcl, hbu]
  refine up (clo_env B hk hcell hself hfree ns ms vals hb I Kc V fun env O W₁ eo hO x₁ hf I₁ F₁ va => ?_)
  refine ⟨I₁.lim, codeAny_func ?_⟩
  have ao' : AOk k (A.deeper env) := ⟨ao.hd, by show A.depth + 1 + 4 * k + 4 < 990; have := ao.dep; omega, by show A.units + 3 + 64 * k + 1000 < 9900; have := ao.un; omega⟩
  refine up ?_
  exact h env O W₁ eo hO x₁ hf I₁ F₁ va ao'
end
end Mine
end
section
open PySem PySem.W PyProof.Rows PySem.Calls PySem.SeqAt PySem.F
set_option maxRecDepth 100000
namespace Mine
section
variable {C : Cst} {W : Wd} {μ : MH} {A : Around} {D : Fd} {env : Env} {O : List Addr} {ls lc : Locs}
theorem VarAt.cellOf {h : Heap} {x : Str} {v : Value} (hk : env.kindOf x = some .cell) (va : VarAt h env x v) : ∃ c, env.cells.lookup x = some c ∧ h.IsCell c (some v) := by
  cases va with
  | loc m a1 _ _ => rw [hk] at a1; cases a1
  | cell c _ a2 a3 => exact ⟨c, a2, a3⟩
  | free c a1 _ _ => rw [hk] at a1; cases a1
theorem sim_def {params : Arguments} {body : List Stmt} {scope : Scope} {pos : Pos} {p : Addr × Addr} {q : Str} {cap : List Nat} {Q : Flow → Shared → Prop} (B : Basis C) (eo : EnvOk D env) (I : Inv C W μ) (F : FrOk C W env D.own O ls)
    (hp : p ∈ tabs) (hco : D.co = some (p.1, q)) (hq : q ++ Str.ofString "inner" = qualOf p.1) (hd0 : params.defaults = []) (hk0 : params.kw_defaults = []) (ha : ∀ e, annTrees params none e = []) (hdoc : docOf body = none)
    (hin : D.sc.names.lookup (nm 33) = some .cell) (hown : 33 ∈ D.own) (hcap : ∀ n ∈ cap, n ∈ D.own ∧ n < nmC ∧ D.sc.names.lookup (nm n) = some .cell ∧ scope.names.lookup (nm n) = some .free)
    (hfr : ∀ x ∈ scope.names, x.2 = .free → ∃ n ∈ D.own, nm n = x.1) (hsf : scope.names.lookup (nm 33) = some .free) (hnd : (scope.names.map (·.1)).Nodup) (hno : look ls 33 = none) (hlc : capt cap ls = some lc)
    (hQ : ∀ W' fa cv ctv pm cl, Ext O W W' → Inv C W' μ → FrOk C W' env D.own O ls → CloK C W' cl lc fa (fnX "inner" (qualOf p.1) params body scope cl .none .none .none pm none cv ctv) → (∀ x c, env.cells.lookup x = some c → scope.names.lookup x = some .free → cl.lookup x = some c) → VarAt W'.h env (nm 33) (.ref fa) → Q .next W'.s) :
    wpAny (model P0 C.w) A (exec (.FunctionDef "inner" params body [] none [] scope none "inner" pos) env) Q NoE W.s := by
  have hcells : ∀ x ∈ scope.names, x.2 = .free → ∃ c, env.cells.lookup x.1 = some c := fun x hx hf => by
    refine ex1_2 (hfr x hx hf) fun n hn e => ?_
    refine ex1_2 (F.ow n hn) fun c hc _ => ?_
    exact ⟨c, by rw [← e]; exact hc⟩
  have hcl := closureFor_eq scope env hcells
  have hmem : ∀ r ∈ closOf env.cells scope.names [], env.cells.lookup r.1 = some r.2 := fun r hr => (closOf_mem scope.names [] hcells r hr).elim (fun h => nomatch h) (·.1)
  have hap := closOf_apart F.cap scope.names [] hnd hcells (fun p hp => nomatch hp) List.Pairwise.nil
  have hlk : ∀ {x : Str} {c : Addr}, env.cells.lookup x = some c → scope.names.lookup x = some .free → (closOf env.cells scope.names []).lookup x = some c := fun hc hf => closOf_lookup hc scope.names [] (.inl hf)
  refine ex1_2 (F.ow 33 hown) fun ci hci _ => ?_
  have hci' := hlk hci hsf
  generalize hce : closOf env.cells scope.names [] = cl at *
  cases cl with
  | nil => (first | exact no_some hci' | cases hci')
  | cons qc clos =>
    have hkx : env.kindOf (nm 33) = some .cell := by unfold Env.kindOf; rw [eo.is]; exact hin
    have hqn : qualnameIn env "inner" "inner" = qualOf p.1 := by
      unfold qualnameIn
      rw [show env.kindOf (Str.ofString "inner") = some .cell from hkx]
      rw [if_neg (by decide), (eo.co _ hco).2]
      exact hq
    refine nestDef_K hd0 hk0 (ha env) ?_
    rw [hqn]
    refine mk_fun B I hp eo.gl (eo.co _ hco).1 hcl hdoc fun W₁ fa cv ctv pm x₁ I₁ eρ eM hfn hnew hcode => ?_
    have F₁ := F.mono I x₁
    have hfno : fa ∉ W₁.ρ ∧ fa ∉ W₁.M := by
      rw [eρ, eM]
      refine ⟨fun h => ?_, fun h => ?_⟩
      · obtain ⟨_, o, e⟩ := I.freshρ fa h; rw [hnew] at e; cases e
      · refine I.freshME fa h fun _ o e _ => ?_; rw [hnew] at e; cases e
    refine sim_storeX (n := 33) B eo I₁ F₁ (by decide) (by unfold Sto; rw [hin]; simpa using hown) hno fun W₂ x₂ I₂ F₂ va => ?_
    have hOM := F₁.OM
    refine ex0_3 (x₂.imm hOM hfn (fun e => nomatch e) hfno.1 hfno.2) fun z1 z2 z3 => ?_
    refine hQ W₂ fa cv ctv pm (qc :: clos) (x₁.lift.trans x₂) I₂ F₂ ?_ (fun x c h1 h2 => hlk h1 h2) va
    refine ex1_2 (va.cellOf hkx) fun cs s1 s2 => ?_
    exact
      { mem := fun y c hm => by
          have := F₂.cM y c (mem_of_lookup (hmem (y, c) hm))
          exact ⟨this.1, this.2.2⟩
        ap := hap
        vars := fun n v hn hl => by
          refine ex0_2 ((capt_look hlc).2 n v hl) fun hnc hls => ?_
          refine ex0_4 (hcap n hnc) fun h1 h2 h3 h4 => ?_
          refine ex1_2 (F₂.vars n v hn hls (by unfold IsVar; rw [eo.is, h3])) fun pv V va' => ?_
          refine ex1_2 (va'.cellOf (by unfold Env.kindOf; rw [eo.is]; exact h3)) fun c c1 c2 => ?_
          exact ⟨c, pv, hlk c1 h4, V, c2⟩
        self := ⟨cs, hlk s1 hsf, s2⟩
        fn := z1
        fno := ⟨z2, z3⟩
        code := hcode.wk (x₂.wk hOM) }
end
end Mine
end
section
open PySem PySem.W PyProof.Rows PySem.Calls PySem.SeqAt PySem.F
set_option maxRecDepth 100000
namespace Mine
noncomputable def val (n : Nat) : List Int → Int
  | [] => 0
  | a :: r => a + 2 ^ n * val n r
theorem val_app (n : Nat) (a b : List Int) : val n (a ++ b) = val n a + 2 ^ (n * a.length) * val n b := by
  induction a with
  | nil => simp [val]
  | cons x r ih =>
    rw [List.cons_append, val, val, ih, List.length_cons, Nat.mul_add, Nat.mul_one, Int.pow_add, Int.mul_add, ← Int.mul_assoc, Int.mul_comm (2 ^ (n * r.length)) (2 ^ n)]
    omega
theorem land_shift (x s : Nat) : x &&& (x / 2 ^ s * 2 ^ s) = x / 2 ^ s * 2 ^ s := by
  apply Nat.eq_of_testBit_eq
  intro i
  rw [← Nat.shiftLeft_eq, ← Nat.shiftRight_eq_div_pow, Nat.testBit_and, Nat.testBit_shiftLeft, Nat.testBit_shiftRight]
  by_cases h : s ≤ i
  · simp [h]
  · simp [h]
theorem fdiv_nat (x s : Nat) : (x : Int).fdiv (2 ^ s) = ((x / 2 ^ s : Nat) : Int) := by
  rw [show ((2 : Int) ^ s) = ((2 ^ s : Nat) : Int) from by simp]
  rw [Int.fdiv_eq_ediv_of_nonneg _ (Int.natCast_nonneg _)]
  exact (Int.natCast_ediv _ _).symm
theorem lor_shift (x s : Nat) : x ||| (x / 2 ^ s * 2 ^ s) = x := by
  apply Nat.eq_of_testBit_eq
  intro i
  rw [← Nat.shiftLeft_eq, ← Nat.shiftRight_eq_div_pow, Nat.testBit_or, Nat.testBit_shiftLeft, Nat.testBit_shiftRight]
  by_cases h : s ≤ i
  · simp [h]
  · simp [h]
theorem xor_nat (x y : Nat) : Builtin.bitXor (x : Int) (y : Int) = ((x ||| y : Nat) : Int) - ((x &&& y : Nat) : Int) := by
  have e : ∀ z : Nat, Builtin.bitNot (Builtin.bitNot (z : Int)) = (z : Int) := fun z => by unfold Builtin.bitNot; omega
  have n : ∀ z : Nat, ¬ 0 ≤ Builtin.bitNot (z : Int) := fun z => by unfold Builtin.bitNot; omega
  unfold Builtin.bitXor Builtin.bitOr
  rw [PyProof.Rows.bitAnd_nn (n x) (n y), PyProof.Rows.bitAnd_pp (Int.natCast_nonneg _) (Int.natCast_nonneg _), e x, e y]
  simp only [Int.toNat_natCast]
  rw [e]
theorem low_part (x s : Nat) : Builtin.bitXor (x : Int) (((x : Int).fdiv (2 ^ s)) * 2 ^ s) = ((x % 2 ^ s : Nat) : Int) := by
  rw [fdiv_nat, show (((x / 2 ^ s : Nat) : Int) * 2 ^ s) = ((x / 2 ^ s * 2 ^ s : Nat) : Int) from by simp, xor_nat, land_shift, lor_shift]
  have := Nat.div_add_mod x (2 ^ s)
  rw [Nat.mul_comm] at this
  omega
theorem setN_eq (v : MV) : ∀ (l : List MV) (L : Nat), L < l.length → setN l L v = l.take L ++ v :: l.drop (L + 1)
  | [], L, h => absurd h (Nat.not_lt_zero _)
  | a :: r, 0, _ => rfl
  | a :: r, L + 1, h => by
    show a :: setN r L v = _
    rw [setN_eq v r L (by simpa using h)]; rfl
noncomputable def spl (l : List MV) (L : Nat) (ds : List Int) : List MV := l.take L ++ ds.map .int ++ l.drop (L + ds.length)
theorem spl_len (l : List MV) (L : Nat) (ds : List Int) (h : L + ds.length ≤ l.length) : (spl l L ds).length = l.length := by
  unfold spl; simp; omega
theorem spl_one (l : List MV) (L : Nat) (x : Int) (h : L < l.length) : setN l L (.int x) = spl l L [x] := by
  rw [setN_eq _ _ _ h]; unfold spl; simp
theorem spl_two (l : List MV) (L : Nat) (a b : List Int) (h : L + a.length + b.length ≤ l.length) : spl (spl l L a) (L + a.length) b = spl l L (a ++ b) := by
  unfold spl
  have h1 : (l.take L ++ a.map MV.int).length = L + a.length := by rw [List.length_append, List.length_take, List.length_map]; omega
  have h3 : L + a.length + b.length - (L + a.length) = b.length := by omega
  rw [List.take_append_of_le_length (by rw [h1]; omega), List.take_of_length_le (by rw [h1]; omega), List.map_append, List.length_append, List.drop_append, h1, List.drop_of_length_le (by rw [h1]; omega), List.nil_append, h3, List.drop_drop, Nat.add_assoc]
  simp only [List.append_assoc]
theorem spl_all (l : List MV) (ds : List Int) (h : ds.length = l.length) : spl l 0 ds = ds.map .int := by
  unfold spl; simp [h]
end Mine
end
section
open PySem PySem.W PyProof.Rows PySem.Calls PySem.SeqAt PySem.F
set_option maxRecDepth 100000
namespace Mine
noncomputable def iD : Arguments × List Stmt × Scope := defAt ((tD 14).2.1.drop 1)
noncomputable def D_i2 : Fd := ⟨iD.2.2, [], none⟩
noncomputable def g_i1 : Es := sIf (tOf (cBin oEq (cBin oAdd (cVar 49) (cInt 1)) (cVar 50))) (bCons (sSetL (cVar 48) (cVar 51) (cVar 49)) (bCons sRet0 bNil)) bNil
noncomputable def g_i2 : Es := sSet 38 (cBin oShr (cBin oAdd (cVar 49) (cVar 50)) (cInt 1))
noncomputable def g_i3 : Es := sSet 52 (cBin oMulA (cBin oSub (cVar 38) (cVar 49)) (cVar 39))
noncomputable def g_i4 : Es := sSet 53 (cBin oShr (cVar 48) (cVar 52))
noncomputable def g_i5 : Es := sSet 54 (cBin oXor (cVar 48) (cBin oShl (cVar 53) (cVar 52)))
noncomputable def l_i6 : El := lCons (cVar 54) (lCons (cVar 49) (lCons (cVar 38) lNil))
noncomputable def l_i7 : El := lCons (cVar 53) (lCons (cVar 38) (lCons (cVar 50) lNil))
theorem i2_parts (C : Cst) (B : Basis C) (k : Nat) {P : Prop} (kk : ∀ s1 s2 s3 s4 s5 a6 r6 a7 r7 n6 n7 p6 p7 q6 q7, iD.2.1 = [s1, s2, s3, s4, s5, .Expr (.Call (.Name (nm 33) n6) (a6 :: r6) [] p6) q6, .Expr (.Call (.Name (nm 33) n7) (a7 :: r7) [] p7) q7] →
    SimS C D_i2 k s1 g_i1 → SimS C D_i2 k s2 g_i2 → SimS C D_i2 k s3 g_i3 → SimS C D_i2 k s4 g_i4 → SimS C D_i2 k s5 g_i5 → SimL C D_i2 k (a6 :: r6) l_i6 → SimL C D_i2 k (a7 :: r7) l_i7 →
    (∀ env, starEach (a6 :: r6) env = (false, eval a6 env) :: starEach r6 env) → (∀ env, starEach (a7 :: r7) env = (false, eval a7 env) :: starEach r7 env) → P) : P :=
  kk _ _ _ _ _ _ _ _ _ _ _ _ _ _ _ rfl (sim_if _ (simt_cmp _ sc_eq (sim_bin _ so_add (sim_var 49 _ _) (sim_int 1 _ _)) (sim_var 50 _ _)) (sim_cons (sim_setl B _ _ (sim_var 48 _ _) (sim_var 51 _ _) (sim_var 49 _ _) (fun _ => rfl)) (sim_cons (sim_ret0 _) sim_nil)) sim_nil) (sim_set B 38 _ _ rfl (by decide) rfl (sim_bin _ so_shr (sim_bin _ so_add (sim_var 49 _ _) (sim_var 50 _ _)) (sim_int 1 _ _)) (fun _ => rfl)) (sim_set B 52 _ _ rfl (by decide) rfl (sim_bin _ so_mulA (sim_bin _ so_sub (sim_var 38 _ _) (sim_var 49 _ _)) (sim_var 39 _ _)) (fun _ => rfl)) (sim_set B 53 _ _ rfl (by decide) rfl (sim_bin _ so_shr (sim_var 48 _ _) (sim_var 52 _ _)) (fun _ => rfl)) (sim_set B 54 _ _ rfl (by decide) rfl (sim_bin _ so_xor (sim_var 48 _ _) (sim_bin _ so_shl (sim_var 53 _ _) (sim_var 52 _ _))) (fun _ => rfl)) (sim_lcons (sim_var 54 _ _) (sim_lcons (sim_var 49 _ _) (sim_lcons (sim_var 38 _ _) sim_lnil (fun _ => rfl)) (fun _ => rfl)) (fun _ => rfl)) (sim_lcons (sim_var 53 _ _) (sim_lcons (sim_var 38 _ _) (sim_lcons (sim_var 50 _ _) sim_lnil (fun _ => rfl)) (fun _ => rfl)) (fun _ => rfl)) (fun _ => rfl) (fun _ => rfl)
theorem AOk.down {j k : Nat} {A : Around} (ao : AOk k A) (h : j ≤ k) : AOk j A := ⟨ao.hd, by have := ao.dep; omega, by have := ao.un; omega⟩
theorem VarAt.step {C : Cst} {W W' : Wd} {μ : MH} {env : Env} {own : List Nat} {O : List Addr} {ls : Locs} {x : Str} {v : Value} (I : Inv C W μ) (F : FrOk C W env own O ls) (hO : O = [env.locals]) (y : Ext O W W') (hk : env.kindOf x = some .free) (va : VarAt W.h env x v) : VarAt W'.h env x v := by
  cases va with
  | loc m a1 _ _ => rw [hk] at a1; cases a1
  | cell c a1 _ _ => rw [hk] at a1; cases a1
  | free c a1 a2 a3 =>
    refine ex1_2 a3 fun o h1 h2 => ?_
    have hc := F.cM _ _ (mem_of_lookup a2)
    exact .free c a1 a2 ⟨o, y.fr c o h1 (.inr hc.1) (I.freshM c hc.1).2.2 (fun q => hc.2.1 (by rw [hO] at q; exact List.mem_singleton.mp q)), h2⟩
theorem inner_call {C : Cst} {D : Fd} {k : Nat} {W : Wd} {μ : MH} {env : Env} {A : Around} {O : List Addr} {ls : Locs} {a : Expr} {r : List Expr} {n p q : Pos} {l : El} {vs : List MV} {fa : Addr} {fd : FuncData} {Q : Flow → Shared → Prop}
    (hl : SimL C D k (a :: r) l) (he : ∀ env, starEach (a :: r) env = (false, eval a env) :: starEach r env) (eo : EnvOk D env) (ao : AOk k A) (I : Inv C W μ) (F : FrOk C W env D.own O ls) (va : VarAt W.h env (nm 33) (.ref fa)) (hv : l ls μ = some (vs, μ))
    (hfn : ∀ W', Ext [] W W' → W'.h.get? fa = some { cls := .type "function", data := .func fd })
    (h : ∀ W' pvs, Ext [] W W' → Inv C W' μ → VRs C.Q W'.h W'.ρ W'.M vs pvs → wpAny (model P0 C.w) A (call (.ref fa) pvs) (fun _ => Q .next) NoE W'.s) :
    wpAny (model P0 C.w) A (exec (.Expr (.Call (.Name (nm 33) n) (a :: r) [] p) q) env) Q NoE W.s := by
  refine wpAny_Expr_any (wpAny_Call_NameR (load_at eo (by decide) va ?_)) (hi := by unfold interactive; rw [eo.is, eo.kind]; rfl) (hs := rfl)
  exact callWith_def (fd := fd) rfl (hl ls μ vs μ hv W env O A p eo ao I F _ fun W₁ pvs x₁ I₁ V₁ => ⟨hfn W₁ x₁, h W₁ pvs x₁ I₁ V₁⟩) (he env)
end Mine
end
section
open PySem PySem.W PyProof.Rows PySem.Calls PySem.SeqAt PySem.F
set_option maxRecDepth 100000
namespace Mine
theorem small_nat {x : Nat} (h : x < 2 ^ 60) : small ((x : Nat) : Int) = true := by
  unfold small; rw [Int.natAbs_natCast]; exact Nat.ble_eq_true_of_le (by omega)
noncomputable def lsI (m n x L R : Nat) : Locs := [(51, .loc m), (39, .int (n : Nat)), (48, .int (x : Nat)), (49, .int (L : Nat)), (50, .int (R : Nat))]
theorem e_i1 {m n x L : Nat} {μ : MH} {l : List MV} (hg : μ.get m = some (.list l)) (hL : L < l.length) (hl : l.length ≤ 64) : g_i1 (lsI m n x L (L + 1)) μ = some (.ret .none, lsI m n x L (L + 1), μ.put m (.list (setN l L (.int (x : Nat))))) := by
  have e1 : tOf (cBin oEq (cBin oAdd (cVar 49) (cInt 1)) (cVar 50)) (lsI m n x L (L + 1)) μ = some (eqI ((L : Nat) + 1) ((L + 1 : Nat) : Int), μ) := rfl
  have e2 : sSetL (cVar 48) (cVar 51) (cVar 49) (lsI m n x L (L + 1)) μ = some (.next, lsI m n x L (L + 1), μ.put m (.list (setN l L (.int (x : Nat))))) := by
    show (match μ.get m with
      | some (.list l) => bif fits l && Nat.blt L l.length then some (Fl.next, lsI m n x L (L + 1), μ.put m (.list (setN l L (.int (x : Nat))))) else none
      | _ => none) = _
    rw [hg]
    simp only []
    rw [show (fits l && Nat.blt L l.length) = true from by rw [Bool.and_eq_true]; exact ⟨Nat.ble_eq_true_of_le (by omega), Nat.ble_eq_true_of_le hL⟩]
    rfl
  unfold g_i1 sIf
  rw [e1, eqI_iff.mpr (by omega)]
  simp only []
  rw [bCons, e2]
  rfl
theorem e_i1n {m n x L R : Nat} {μ : MH} (h : L + 1 ≠ R) : g_i1 (lsI m n x L R) μ = some (.next, lsI m n x L R, μ) := by
  have e1 : tOf (cBin oEq (cBin oAdd (cVar 49) (cInt 1)) (cVar 50)) (lsI m n x L R) μ = some (eqI ((L : Nat) + 1) ((R : Nat) : Int), μ) := rfl
  unfold g_i1 sIf
  rw [e1]
  have : eqI ((L : Nat) + 1) ((R : Nat) : Int) = false := by
    cases q : eqI ((L : Nat) + 1) ((R : Nat) : Int) with
    | false => rfl
    | true => exact absurd (eqI_iff.mp q) (by omega)
  rw [this]
  rfl
theorem e_i2 {m n x L R : Nat} {μ : MH} : g_i2 (lsI m n x L R) μ = some (.next, lsI m n x L R ++ [(38, .int ((L + R) / 2 : Nat))], μ) := by
  have e : g_i2 (lsI m n x L R) μ = some (.next, lsI m n x L R ++ [(38, .int (((L : Int) + (R : Int)).fdiv (2 ^ 1)))], μ) := rfl
  rw [e, ← Int.natCast_add, fdiv_nat, Nat.pow_one]
theorem e_i3 {m n x L R M : Nat} {μ : MH} (hM : L ≤ M) (hn : n < 2 ^ 60) : g_i3 (lsI m n x L R ++ [(38, .int (M : Nat))]) μ = some (.next, lsI m n x L R ++ [(38, .int (M : Nat)), (52, .int ((M - L) * n : Nat))], μ) := by
  have e : g_i3 (lsI m n x L R ++ [(38, .int (M : Nat))]) μ = (match (bif small (n : Int) then some (MV.int (((M : Int) - (L : Int)) * (n : Int)), μ) else none) with
    | some (v, μ') => some (.next, keep (lsI m n x L R ++ [(38, .int (M : Nat))]) 52 v, μ')
    | none => none) := rfl
  rw [e, small_nat hn]
  simp only [cond_true]
  rw [show ((M : Int) - (L : Int)) * (n : Int) = (((M - L) * n : Nat) : Int) from by rw [Int.natCast_mul, Int.natCast_sub hM]]
  rfl
theorem e_i4 {m n x L R M s : Nat} {μ : MH} : g_i4 (lsI m n x L R ++ [(38, .int (M : Nat)), (52, .int (s : Nat))]) μ = some (.next, lsI m n x L R ++ [(38, .int (M : Nat)), (52, .int (s : Nat)), (53, .int (x / 2 ^ s : Nat))], μ) := by
  have e : g_i4 (lsI m n x L R ++ [(38, .int (M : Nat)), (52, .int (s : Nat))]) μ = some (.next, lsI m n x L R ++ [(38, .int (M : Nat)), (52, .int (s : Nat)), (53, .int ((x : Int).fdiv (2 ^ s)))], μ) := rfl
  rw [e, fdiv_nat]
theorem e_i5 {m n x L R M s : Nat} {μ : MH} (hx : x < 2 ^ 60) (hs : s ≤ 60) : g_i5 (lsI m n x L R ++ [(38, .int (M : Nat)), (52, .int (s : Nat)), (53, .int (x / 2 ^ s : Nat))]) μ = some (.next, lsI m n x L R ++ [(38, .int (M : Nat)), (52, .int (s : Nat)), (53, .int (x / 2 ^ s : Nat)), (54, .int (x % 2 ^ s : Nat))], μ) := by
  have e : g_i5 (lsI m n x L R ++ [(38, .int (M : Nat)), (52, .int (s : Nat)), (53, .int (x / 2 ^ s : Nat))]) μ = (match (match (bif small ((x / 2 ^ s : Nat) : Int) && Nat.ble s 64 then some (MV.int (((x / 2 ^ s : Nat) : Int) * 2 ^ s), μ) else none) with
      | some (y, μ₂) => oXor (.int (x : Int)) y μ₂
      | none => none) with
    | some (v, μ') => some (.next, keep (lsI m n x L R ++ [(38, .int (M : Nat)), (52, .int (s : Nat)), (53, .int (x / 2 ^ s : Nat))]) 54 v, μ')
    | none => none) := rfl
  have hsm : small ((x / 2 ^ s : Nat) : Int) = true := small_nat (Nat.lt_of_le_of_lt (Nat.div_le_self _ _) hx)
  rw [e, hsm, show Nat.ble s 64 = true from Nat.ble_eq_true_of_le (by omega), ← fdiv_nat]
  simp only [Bool.and_true, cond_true, oXor]
  rw [low_part]
  rfl
theorem hc_i2 : ∀ x ∈ iD.2.2.names, x.2 ≠ .cell := by decide +kernel
theorem hb_i2 : ∀ n ∈ [48, 49, 50], n < nmC ∧ Sto ⟨iD.2.2, [], none⟩ n = true := by decide +kernel
theorem inner2 (C : Cst) (B : Basis C) {cl : List (Str × Addr)} {fa : Addr} {pm cv ctv : Value} (n m : Nat) (hn : 1 ≤ n) : ∀ (d k x L : Nat) (l : List MV) (μ : MH) (W : Wd) (A : Around) (px pL pR : Value), 1 ≤ d → n * d ≤ 60 → x < 2 ^ 60 → L + d ≤ l.length → l.length ≤ 64 → μ.get m = some (.list l) → AOk (k + d) A → Inv C W μ →
    CloK C W cl [(51, .loc m), (39, .int (n : Nat))] fa (fnX "inner" (qualOf 129) iD.1 iD.2.1 iD.2.2 cl .none .none .none pm none cv ctv) → VR C.Q W.h W.ρ W.M (.int (x : Nat)) px → VR C.Q W.h W.ρ W.M (.int (L : Nat)) pL → VR C.Q W.h W.ρ W.M (.int (L + d : Nat)) pR →
    ∀ Q : Value → Shared → Prop, (∀ W' μ' ds, Ext [] W W' → Inv C W' μ' → μ'.get m = some (.list (spl l L ds)) → ds.length = d → val n ds = x → (∀ z ∈ ds, 0 ≤ z) → (∀ i, i ≠ m → μ'.get i = μ.get i) → μ'.next = μ.next → Q .none W'.s) →
    wpAny (model P0 C.w) A (call (.ref fa) [px, pL, pR]) Q NoE W.s := by
  intro d
  induction d using Nat.strongRecOn with
  | _ d ih =>
  intro k x L l μ W A px pL pR hd hnd hx hLd hll hg ao I Kc Vx VL VR' Q hQ
  have hn60 : n ≤ 60 := Nat.le_trans (Nat.le_mul_of_pos_right n hd) hnd
  refine i2_parts C B (k + (d - 1)) fun s1 s2 s3 s4 s5 a6 r6 a7 r7 n6 n7 p6 p7 q6 q7 hb h1 h2 h3 h4 h5 h6 h7 st6 st7 => ?_
  refine clo_call (k := k + (d - 1)) (body := [s1, s2, s3, s4, s5, .Expr (.Call (.Name (nm 33) n6) (a6 :: r6) [] p6) q6, .Expr (.Call (.Name (nm 33) n7) (a7 :: r7) [] p7) q7]) (fd := fnX "inner" (qualOf 129) iD.1 iD.2.1 iD.2.2 cl .none .none .none pm none cv ctv) B (congrArg FuncBody.stmts hb) rfl rfl rfl rfl rfl rfl hc_i2 rfl (fun i v hi => ?_) [48, 49, 50] [.int (x : Nat), .int (L : Nat), .int (L + d : Nat)] [px, pL, pR] hb_i2 (BindsTo.of_eq rfl) (ao.down (by omega)) I Kc (.cons _ _ _ _ Vx (.cons _ _ _ _ VL (.cons _ _ _ _ VR' .nil))) fun env O W₁ eo hO x₁ hf I₁ F₁ va ao₁ => ?_
  · have hi' : (bif Nat.beq 51 i then some (MV.loc m) else (bif Nat.beq 39 i then some (MV.int (n : Nat)) else none)) = some v := hi
    cases q1 : Nat.beq 51 i with
    | true => rw [← Nat.eq_of_beq_eq_true q1]; rfl
    | false =>
      cases q2 : Nat.beq 39 i with
      | true => rw [← Nat.eq_of_beq_eq_true q2]; rfl
      | false => rw [q1, q2] at hi'; (first | exact no_some hi' | cases hi')
  have F₁ : FrOk C W₁ env [] O (lsI m n x L (L + d)) := F₁
  have hkf : env.kindOf (nm 33) = some .free := by unfold Env.kindOf; rw [eo.is]; rfl
  by_cases h1d : d = 1
  · subst h1d
    refine wpAny_execs_cons (h1 _ μ _ _ _ (e_i1 hg (by omega) hll) W₁ env O _ eo ao₁ I₁ F₁ _ fun W₂ f x₂ I₂ F₂ R₂ => ?_)
    cases R₂ with
    | ret _ pv V =>
      refine V.noneE ?_
      have gp := MH.get_put I.ok hg (.list (setN l L (.int (x : Nat))))
      exact hQ W₂ _ [(x : Int)] (x₁.fresh x₂ hf) I₂ (by rw [gp, if_pos rfl, spl_one l L x (by omega)]) rfl (by simp [val]) (fun z hz => by rw [List.mem_singleton.mp hz]; exact Int.natCast_nonneg _) (fun i hi => by rw [gp, if_neg hi]) rfl
  · have hM : (L + (L + d)) / 2 = L + d / 2 := by omega
    have hh : 1 ≤ d / 2 ∧ d / 2 < d := by omega
    have hs60 : d / 2 * n ≤ 60 := by
      refine Nat.le_trans ?_ hnd
      rw [Nat.mul_comm]
      exact Nat.mul_le_mul_left n (Nat.div_le_self d 2)
    have e2 := e_i2 (m := m) (n := n) (x := x) (L := L) (R := L + d) (μ := μ)
    rw [hM] at e2
    have e3 := e_i3 (m := m) (n := n) (x := x) (L := L) (R := L + d) (M := L + d / 2) (μ := μ) (by omega) (by omega)
    rw [Nat.add_sub_cancel_left] at e3
    refine wpAny_execs_cons (h1 _ μ _ _ _ (e_i1n (by omega)) W₁ env O _ eo ao₁ I₁ F₁ _ fun W₂ f x₂ I₂ F₂ R₂ => ?_)
    cases R₂
    refine wpAny_execs_cons (h2 _ μ _ _ _ e2 W₂ env O _ eo ao₁ I₂ F₂ _ fun W₃ f x₃ I₃ F₃ R₃ => ?_)
    cases R₃
    refine wpAny_execs_cons (h3 _ μ _ _ _ e3 W₃ env O _ eo ao₁ I₃ F₃ _ fun W₄ f x₄ I₄ F₄ R₄ => ?_)
    cases R₄
    refine wpAny_execs_cons (h4 _ μ _ _ _ e_i4 W₄ env O _ eo ao₁ I₄ F₄ _ fun W₅ f x₅ I₅ F₅ R₅ => ?_)
    cases R₅
    refine wpAny_execs_cons (h5 _ μ _ _ _ (e_i5 hx hs60) W₅ env O _ eo ao₁ I₅ F₅ _ fun W₆ f x₆ I₆ F₆ R₆ => ?_)
    cases R₆
    have y := (((x₂.trans x₃).trans x₄).trans x₅).trans x₆
    have va₆ := va.step I₁ F₁ hO y hkf
    have X₆ : Ext [] W W₆ := x₁.fresh y hf
    have K₆ := Kc.mono I X₆
    refine wpAny_execs_cons (inner_call h6 st6 eo ao₁ I₆ F₆ va₆ (vs := [.int (x % 2 ^ (d / 2 * n) : Nat), .int (L : Nat), .int (L + d / 2 : Nat)]) rfl (fun W' z => (K₆.mono I₆ z).fn) fun W₇ pvs z I₇ V₇ => ?_)
    refine V₇.consE fun p1 _ v1 V₇ => ?_
    refine V₇.consE fun p2 _ v2 V₇ => ?_
    refine V₇.consE fun p3 _ v3 V₇ => ?_
    refine V₇.nilE ?_
    have K₇ := K₆.mono I₆ z
    refine ih (d / 2) hh.2 k (x % 2 ^ (d / 2 * n)) L l μ W₇ _ p1 p2 p3 hh.1 (by rw [Nat.mul_comm]; exact hs60) (Nat.lt_of_le_of_lt (Nat.mod_le _ _) hx) (by omega) hll hg (ao₁.down (by omega)) I₇ K₇ v1 v2 v3 _ fun W₈ μ₁ ds₁ z₈ I₈ g₁ len₁ val₁ nn₁ o₁ nx₁ => ?_
    have F₈ := F₆.mono I₆ (z.trans z₈)
    have va₈ := VarAt.mono I₆ (z.trans z₈) F₆ va₆
    have K₈ := K₇.mono I₇ z₈
    refine wpAny_execs_cons (inner_call h7 st7 eo ao₁ I₈ F₈ va₈ (vs := [.int (x / 2 ^ (d / 2 * n) : Nat), .int (L + d / 2 : Nat), .int (L + d : Nat)]) rfl (fun W' z => (K₈.mono I₈ z).fn) fun W₉ pvs z₉ I₉ V₉ => ?_)
    refine V₉.consE fun p1 _ v1 V₉ => ?_
    refine V₉.consE fun p2 _ v2 V₉ => ?_
    refine V₉.consE fun p3 _ v3 V₉ => ?_
    refine V₉.nilE ?_
    have hR : L + d = L + d / 2 + (d - d / 2) := by omega
    have hl1 := spl_len l L ds₁ (by omega)
    refine ih (d - d / 2) (by omega) k (x / 2 ^ (d / 2 * n)) (L + d / 2) (spl l L ds₁) μ₁ W₉ _ p1 p2 p3 (by omega) (Nat.le_trans (Nat.mul_le_mul_left n (Nat.sub_le _ _)) hnd) (Nat.lt_of_le_of_lt (Nat.div_le_self _ _) hx) (by omega) (by omega) g₁ (ao₁.down (by omega)) I₉ (K₈.mono I₈ z₉) v1 v2 (by rw [← hR]; exact v3) _ fun W₁₀ μ₂ ds₂ z₁₀ I₁₀ g₂ len₂ val₂ nn₂ o₂ nx₂ => ?_
    refine wpAny_execs_nil ?_
    refine hQ W₁₀ μ₂ (ds₁ ++ ds₂) ((X₆.trans (z.trans z₈)).trans (z₉.trans z₁₀)) I₁₀ ?_ (by rw [List.length_append]; omega) ?_ (fun z hz => (List.mem_append.mp hz).elim (nn₁ z) (nn₂ z)) (fun i hi => by rw [o₂ i hi, o₁ i hi]) (by rw [nx₂, nx₁])
    · rw [g₂, ← len₁, spl_two l L ds₁ ds₂ (by omega)]
    · rw [val_app, val₁, val₂, len₁, Nat.mul_comm n]
      have := Nat.mod_add_div x (2 ^ (d / 2 * n))
      rw [show ((2 : Int) ^ (d / 2 * n)) = ((2 ^ (d / 2 * n) : Nat) : Int) from by simp, ← Int.natCast_mul, ← Int.natCast_add, this]
end Mine
end
section
open PySem PySem.W PyProof.Rows PySem.Calls PySem.SeqAt PySem.F
set_option maxRecDepth 100000
namespace Mine
section
variable {C : Cst} {W : Wd} {μ : MH} {A : Around}
theorem fun_callC {k : Nat} {a : Addr} {o : Obj} {fd : FuncData} {body : List Stmt} {R : Value → Shared → Prop} (B : Basis C) (own : List Nat) (co : Option (Addr × Str)) (ns : List Nat) (ms : List MV) (vals : List Value)
    (hK : (K C.w.params).lookup a = some o) (hd : o.data = .func fd) (hcr : ∃ c oc vs t, fd.code = .ref c ∧ (K C.w.params).lookup c = some oc ∧ oc.data = .fields vs ∧ vs[1]? = some (.str fd.qualname t))
    (hbody : fd.body = .stmts body) (hg : fd.globals = mainGlobals) (hcl : fd.closure = []) (hbu : fd.builtins = builtinsNs) (hco : fd.scope.isCoroutine = false) (hgen : fd.scope.isGenerator = false) (hk : fd.scope.kind = .function)
    (how : ∀ n ∈ own, fd.scope.names.lookup (nm n) = some .cell) (hns : ∀ n ∈ ns, n < nmC ∧ Sto ⟨fd.scope, own, co⟩ n = true) (hbind : BindsTo W.s fd ⟨vals, []⟩ ((ns.map nm).zip vals)) (hco' : ∀ p, co = some p → fd.code = .ref p.1 ∧ fd.qualname ++ Str.ofString ".<locals>." = p.2)
    (ao : AOk (k + 1) A) (I : Inv C W μ) (V : VRs C.Q W.h W.ρ W.M ms vals)
    (h : ∀ env O W', EnvOk ⟨fd.scope, own, co⟩ env → Ext [] W W' → (∀ a ∈ O, W.h.get? a = none) → Inv C W' μ → FrOk C W' env own O (bnd ns ms []) → AOk k (A.deeper env) →
      wpAny (model P0 C.w) (A.deeper env) (execs body env) (fun f s' => R (match f with | .ret v => v | _ => .none) s') NoE W'.s) :
    codeAny (model P0 C.w) A (.call (.ref a) ⟨vals, []⟩) (fun r s' => match r with | .ok (.ret v) => R v s' | .ok _ => False | .error e => NoE e s') W.s := by
  have KK := I.K B
  have hcd : W.s.heap.CodeRec fd.code fd.qualname := by
    refine ex4_4 hcr fun c oc vs t h1 h2 h3 h4 => ?_
    exact ⟨c, oc, vs, t, h1, KK c oc h2, h3, h4⟩
  refine (codeAny_call_function (fd := fd) (by have := ao.dep; unfold recursionLimit; omega) (KK a o hK) hd hco hgen hbody hcd (hbind _ _ _ _ ?_))
  rw [hg, hcl, hbu]
  refine up (sim_newEnv B own co hco' hk how ns ms vals hns I V (Q := fun env s₂ => s₂.heap.NoLimit ∧ codeAny (model P0 C.w) A (.func body env) _ s₂) ?_)
  intro env O W₁ he eo x₁ hf I₁ F₁
  refine ⟨I₁.lim, codeAny_func ?_⟩
  have ao' : AOk k (A.deeper env) := ⟨ao.hd, by show A.depth + 1 + 4 * k + 4 < 990; have := ao.dep; omega, by show A.units + 3 + 64 * k + 1000 < 9900; have := ao.un; omega⟩
  refine up ?_
  exact h env O W₁ eo x₁ hf I₁ F₁ ao'
theorem fun_call {k : Nat} {a : Addr} {o : Obj} {fd : FuncData} {body : List Stmt} {R : Value → Shared → Prop} (B : Basis C) (own : List Nat) (co : Option (Addr × Str)) (ns : List Nat) (ms : List MV) (vals : List Value)
    (hK : (K C.w.params).lookup a = some o) (hd : o.data = .func fd) (hcr : ∃ c oc vs t, fd.code = .ref c ∧ (K C.w.params).lookup c = some oc ∧ oc.data = .fields vs ∧ vs[1]? = some (.str fd.qualname t))
    (hbody : fd.body = .stmts body) (hg : fd.globals = mainGlobals) (hcl : fd.closure = []) (hbu : fd.builtins = builtinsNs) (hco : fd.scope.isCoroutine = false) (hgen : fd.scope.isGenerator = false) (hk : fd.scope.kind = .function)
    (how : ∀ n ∈ own, fd.scope.names.lookup (nm n) = some .cell) (hns : ∀ n ∈ ns, n < nmC ∧ Sto ⟨fd.scope, own, co⟩ n = true) (hbind : BindsTo W.s fd ⟨vals, []⟩ ((ns.map nm).zip vals)) (hco' : ∀ p, co = some p → fd.code = .ref p.1 ∧ fd.qualname ++ Str.ofString ".<locals>." = p.2)
    (ao : AOk (k + 1) A) (I : Inv C W μ) (V : VRs C.Q W.h W.ρ W.M ms vals)
    (h : ∀ env O W', EnvOk ⟨fd.scope, own, co⟩ env → Ext [] W W' → (∀ a ∈ O, W.h.get? a = none) → Inv C W' μ → FrOk C W' env own O (bnd ns ms []) → AOk k (A.deeper env) →
      wpAny (model P0 C.w) (A.deeper env) (execs body env) (fun f s' => R (match f with | .ret v => v | _ => .none) s') NoE W'.s) :
    wpAny (model P0 C.w) A (call (.ref a) vals) R NoE W.s := wpAny_call (fun_callC B own co ns ms vals hK hd hcr hbody hg hcl hbu hco hgen hk how hns hbind hco' ao I V h)
end
noncomputable def D_2 : Fd := ⟨(tD 14).2.2, [51, 39, 33], some (129, "_int2digits.<locals>.")⟩
noncomputable def g_21 : Es := sSet 51 (cBin oMulL (cList (lCons (cInt 0) lNil)) (cBin oDiv (cBin oSub (cBin oAdd (cBits (cVar 34)) (cVar 39)) (cInt 1)) (cVar 39)))
noncomputable def l_26 : El := lCons (cVar 34) (lCons (cInt 0) (lCons (cCall bLen (lCons (cVar 51) lNil)) lNil))
theorem d2_parts (C : Cst) (B : Basis C) (k : Nat) {P : Prop} (kk : ∀ s1 t s4 a6 r6 n6 p6 q6 pd pi, (tD 14).2.1 = [s1, .FunctionDef "inner" iD.1 iD.2.1 [] none [] iD.2.2 none "inner" pd, .If t [.Expr (.Call (.Name (nm 33) n6) (a6 :: r6) [] p6) q6] [] pi, s4] →
    SimS C D_2 k s1 g_21 → SimT C D_2 k t (tInt (cVar 34)) → SimL C D_2 k (a6 :: r6) l_26 → SimS C D_2 k s4 (sRet (cVar 51)) → (∀ env, starEach (a6 :: r6) env = (false, eval a6 env) :: starEach r6 env) → P) : P :=
  kk _ _ _ _ _ _ _ _ _ _ rfl (sim_set B 51 _ _ rfl (by decide) rfl (sim_bin _ so_mulL (sim_list _ (sim_lcons (sim_int 0 _ _) sim_lnil (fun _ => rfl))) (sim_bin _ so_div (sim_bin _ so_sub (sim_bin _ so_add (sim_bits (sim_var 34 _ _) (fun _ => rfl) rfl) (sim_var 39 _ _)) (sim_int 1 _ _)) (sim_var 39 _ _))) (fun _ => rfl)) (simt_int (sim_var 34 _ _) (fun _ _ => rfl)) (sim_lcons (sim_var 34 _ _) (sim_lcons (sim_int 0 _ _) (sim_lcons (sim_callB (fix_boot B _ rfl rfl rfl) (.inl ⟨_, rfl⟩) sf_len (sim_lcons (sim_var 51 _ _) sim_lnil (fun _ => rfl)) (fun _ => rfl) (fun _ _ => rfl)) sim_lnil (fun _ => rfl)) (fun _ => rfl)) (fun _ => rfl)) (sim_ret _ (sim_var 51 _ _)) (fun _ => rfl)
end Mine
end
section
open PySem PySem.W PyProof.Rows PySem.Calls PySem.SeqAt PySem.F
set_option maxRecDepth 100000
namespace Mine
theorem rep_len (k : Nat) (l : List MV) : (rep k l).length = k * l.length := by
  induction k with
  | zero => simp [rep]
  | succ k ih => unfold rep; rw [List.length_append, ih, Nat.succ_mul]; omega
theorem fdivN (x n : Nat) : (x : Int).fdiv (n : Int) = ((x / n : Nat) : Int) := by
  rw [Int.fdiv_eq_ediv_of_nonneg _ (Int.natCast_nonneg _)]
  exact (Int.natCast_ediv _ _).symm
theorem bits_le {a k : Nat} (h : a < 2 ^ k) : Builtin.Int.intBits (a : Int) ≤ k := by
  unfold Builtin.Int.intBits
  split
  · exact Nat.zero_le _
  · rename_i q
    rw [Int.natAbs_natCast]
    have ha : a ≠ 0 := by intro e; subst e; exact q rfl
    have := (Nat.log2_lt ha).mpr h
    omega
theorem bits_pos {a : Nat} (h : 0 < a) : 1 ≤ Builtin.Int.intBits (a : Int) := by
  unfold Builtin.Int.intBits
  rw [if_neg (by simp; omega)]
  omega
theorem bits_zero : Builtin.Int.intBits ((0 : Nat) : Int) = 0 := rfl
noncomputable def cntN (a n : Nat) : Nat := (Builtin.Int.intBits (a : Int) + n - 1) / n
noncomputable def ls2 (a n : Nat) : Locs := [(34, .int (a : Nat)), (39, .int (n : Nat))]
theorem e_21 {a n : Nat} {μ : MH} (hn : 1 ≤ n) (hn2 : n ≤ 12) (ha : a < 2 ^ 18) (hm : μ.next < 1000) :
    ∃ μ' l, g_21 (ls2 a n) μ = some (.next, ls2 a n ++ [(51, .loc (μ.next + 1))], μ') ∧ μ'.get (μ.next + 1) = some (.list l) ∧ l.length = cntN a n ∧ μ'.next = μ.next + 2 ∧ μ'.Ok ∧ ∀ i, i < μ.next → μ'.get i = μ.get i := by
  have hb := bits_le ha
  have hc : cntN a n ≤ 29 := Nat.le_trans (Nat.div_le_self _ _) (by omega)
  refine ex1_4 (MH.new_at (μ := μ) (by omega) (.list [.int 0])) fun μ₁ c1 c2 c3 c4 => ?_
  refine ex1_4 (MH.new_at (μ := μ₁) (by omega) (.list (rep (cntN a n) [.int 0]))) fun μ₂ d1 d2 d3 d4 => ?_
  refine ⟨μ₂, rep (cntN a n) [.int 0], ?_, by rw [d4, c3, if_pos rfl], by rw [rep_len]; simp, by rw [d3, c3], d2, fun i hi => by rw [d4, if_neg (by omega), c4, if_neg (by omega)]⟩
  have e1 : cList (lCons (cInt 0) lNil) (ls2 a n) μ = some (.loc μ.next, μ₁) := by
    show mkList [.int 0] μ = _
    unfold mkList
    rw [show fits [.int 0] = true from rfl, cond_true, c1]
  have e2 : cBin oDiv (cBin oSub (cBin oAdd (cBits (cVar 34)) (cVar 39)) (cInt 1)) (cVar 39) (ls2 a n) μ₁ = some (.int (.ofNat (cntN a n)), μ₁) := by
    show (bif isZ (n : Int) then none else bif small (n : Int) then some (MV.int (((Builtin.Int.intBits (a : Int) : Nat) + (n : Int) - 1).fdiv (n : Int)), μ₁) else none) = _
    have hz : isZ (n : Int) = false := by
      cases q : isZ (n : Int) with
      | false => rfl
      | true => exact absurd (isZ_eq.mp q) (by omega)
    rw [hz, small_nat (by omega)]
    simp only [cond_false, cond_true]
    rw [show (((Builtin.Int.intBits (a : Int) : Nat) : Int) + (n : Int) - 1) = ((Builtin.Int.intBits (a : Int) + n - 1 : Nat) : Int) from by omega, fdivN]
    rfl
  have e3 : oMulL (.loc μ.next) (.int (.ofNat (cntN a n))) μ₁ = some (.loc (μ.next + 1), μ₂) := by
    unfold oMulL
    simp only []
    rw [show Nat.ble (cntN a n) 64 = true from Nat.ble_eq_true_of_le (by omega), cond_true, c4, if_pos rfl]
    simp only []
    rw [show fits [.int 0] = true from rfl, cond_true]
    unfold mkList
    rw [show fits (rep (cntN a n) [.int 0]) = true from Nat.ble_eq_true_of_le (by rw [rep_len]; simp; omega), cond_true, d1, c3]
  unfold g_21 sSet cBin
  rw [e1]
  simp only []
  unfold cBin at e2
  rw [e2]
  simp only [e3]
  rfl
theorem in129 : ((129, 125) : Addr × Addr) ∈ tabs := by decide
theorem hcap2 : ∀ n ∈ [51, 39], n ∈ D_2.own ∧ n < nmC ∧ D_2.sc.names.lookup (nm n) = some .cell ∧ iD.2.2.names.lookup (nm n) = some .free := by decide +kernel
theorem hfr2 : ∀ x ∈ iD.2.2.names, x.2 = .free → ∃ n ∈ D_2.own, nm n = x.1 := by decide +kernel
theorem hnd2 : (iD.2.2.names.map (·.1)).Nodup := by decide +kernel
theorem how2 : ∀ n ∈ [51, 39, 33], (tD 14).2.2.names.lookup (nm n) = some .cell := by decide +kernel
theorem hns2 : ∀ n ∈ [34, 39], n < nmC ∧ Sto D_2 n = true := by decide +kernel
theorem i2d_call (C : Cst) (B : Basis C) {W : Wd} {μ : MH} {A : Around} {k a n : Nat} {pa pn : Value} {Q : Value → Shared → Prop} (hn : 1 ≤ n) (hn2 : n ≤ 12) (ha : a < 2 ^ 18) (hm : μ.next < 1000) (ao : AOk (k + 30) A) (I : Inv C W μ) (Va : VR C.Q W.h W.ρ W.M (.int (a : Nat)) pa) (Vn : VR C.Q W.h W.ρ W.M (.int (n : Nat)) pn)
    (hQ : ∀ W' μ' ds m pv, Ext [] W W' → Inv C W' μ' → VR C.Q W'.h W'.ρ W'.M (.loc m) pv → μ'.get m = some (.list (List.map .int ds)) → ds.length ≤ 29 → n * ds.length ≤ 60 → (∀ z ∈ ds, 0 ≤ z) → val n ds = a → (∀ i, i < μ.next → μ'.get i = μ.get i) → μ'.next = μ.next + 2 → Q pv W'.s) :
    wpAny (model P0 C.w) A (call (.ref 130) [pa, pn]) Q NoE W.s := by
  refine d2_parts C B (k + 29) fun s1 t s4 a6 r6 n6 p6 q6 pd pi hb h1 ht h6 h4 st6 => ?_
  refine fun_call (k := k + 29) (a := 130) B [51, 39, 33] (some (129, "_int2digits.<locals>.")) [34, 39] [.int (a : Nat), .int (n : Nat)] [pa, pn] rfl rfl ⟨_, _, _, _, rfl, rfl, rfl, rfl⟩ (congrArg FuncBody.stmts hb) rfl rfl rfl rfl rfl rfl how2 hns2 (BindsTo.of_eq rfl) (fun p h => by (first | exact no_some h | cases h); exact ⟨rfl, rfl⟩) ao I (.cons _ _ _ _ Va (.cons _ _ _ _ Vn .nil)) fun env O W₁ eo x₁ hf I₁ F₁ ao₁ => ?_
  have F₁ : FrOk C W₁ env D_2.own O (ls2 a n) := F₁
  have eo : EnvOk D_2 env := eo
  refine ex2_6 (e_21 (μ := μ) hn hn2 ha hm) fun μ₁ l e1 g1 len1 nx1 ok1 old1 => ?_
  refine wpAny_execs_cons (h1 _ μ _ _ _ e1 W₁ env O _ eo ao₁ I₁ F₁ _ fun W₂ f x₂ I₂ F₂ R₂ => ?_)
  cases R₂
  refine wpAny_execs_cons (sim_def (p := (129, 125)) (q := "_int2digits.<locals>.") (cap := [51, 39]) (lc := [(51, .loc (μ.next + 1)), (39, .int (n : Nat))]) B eo I₂ F₂ in129 rfl rfl rfl rfl (fun _ => rfl) rfl rfl (by decide) hcap2 hfr2 rfl hnd2 rfl rfl fun W₃ fa cv ctv pm cl x₃ I₃ F₃ Kc _ va => ?_)
  have hcnt : n * cntN a n ≤ 60 := by
    have := Nat.mul_div_le (Builtin.Int.intBits (a : Int) + n - 1) n
    have hb := bits_le ha
    unfold cntN
    omega
  have hc29 : cntN a n ≤ 29 := by have hb := bits_le ha; exact Nat.le_trans (Nat.div_le_self _ _) (by omega)
  have X₃ : Ext [] W W₃ := x₁.fresh (x₂.trans x₃) hf
  have fin : ∀ W' μ' ds, Ext O W₃ W' → Inv C W' μ' → FrOk C W' env D_2.own O (ls2 a n ++ [(51, .loc (μ.next + 1))]) → μ'.get (μ.next + 1) = some (.list (List.map .int ds)) → ds.length ≤ 29 → n * ds.length ≤ 60 → (∀ z ∈ ds, 0 ≤ z) → val n ds = a → (∀ i, i < μ.next → μ'.get i = μ.get i) → μ'.next = μ.next + 2 →
      wpAny (model P0 C.w) (A.deeper env) (execs [s4] env) (fun f s' => Q (match f with | .ret v => v | _ => .none) s') NoE W'.s := by
    intro W' μ' ds x I F g len nl nn v old nx
    refine wpAny_execs_cons (h4 _ μ' (.ret (.loc (μ.next + 1))) _ μ' rfl W' env O _ eo ao₁ I F _ fun W₄ f x₄ I₄ F₄ R₄ => ?_)
    cases R₄ with
    | ret _ pv V => exact hQ W₄ μ' ds (μ.next + 1) pv (x₁.fresh (((x₂.trans x₃).trans x).trans x₄) hf) I₄ V g len nl nn v old nx
  refine wpAny_execs_cons (wpAny_If ?_)
  by_cases h0 : a = 0
  · subst h0
    refine ht _ μ₁ false μ₁ rfl W₃ env O _ eo ao₁ I₃ F₃ _ fun W₄ x₄ I₄ => wpAny_execs_nil ?_
    have hl : l = [] := List.length_eq_zero_iff.mp (by rw [len1]; unfold cntN; rw [bits_zero]; exact Nat.div_eq_of_lt (by omega))
    exact fin W₄ μ₁ [] x₄.lift I₄ (F₃.mono I₃ x₄) (by rw [g1, hl]; rfl) (by simp) (by simp) (fun z hz => nomatch hz) rfl old1 nx1
  · have hpos : 1 ≤ cntN a n := (Nat.one_le_div_iff (by omega)).mpr (by have := bits_pos (a := a) (by omega); omega)
    have ez : (!isZ ((a : Nat) : Int)) = true := by
      cases q : isZ ((a : Nat) : Int) with
      | false => rfl
      | true => exact absurd (isZ_eq.mp q) (by omega)
    refine ht _ μ₁ true μ₁ (by rw [← ez]; rfl) W₃ env O _ eo ao₁ I₃ F₃ _ fun W₄ x₄ I₄ => ?_
    have F₄ := F₃.mono I₃ x₄
    have K₄ := Kc.mono I₃ x₄
    have va₄ := VarAt.mono I₃ x₄ F₃ va
    have hv : l_26 (ls2 a n ++ [(51, .loc (μ.next + 1))]) μ₁ = some ([.int (a : Nat), .int (0 : Nat), .int (0 + cntN a n : Nat)], μ₁) := by
      have e : cCall bLen (lCons (cVar 51) lNil) (ls2 a n ++ [(51, .loc (μ.next + 1))]) μ₁ = some (.int (cntN a n : Nat), μ₁) := by
        show bLen [.loc (μ.next + 1)] μ₁ = _
        unfold bLen
        simp only [g1]
        rw [show fits l = true from Nat.ble_eq_true_of_le (by omega), cond_true, len1]
      have e2 : l_26 (ls2 a n ++ [(51, .loc (μ.next + 1))]) μ₁ = (match (match cCall bLen (lCons (cVar 51) lNil) (ls2 a n ++ [(51, .loc (μ.next + 1))]) μ₁ with
          | some (v, μ₁) => some ([v], μ₁)
          | none => none) with
        | some (vs, μ₂) => some (.int (a : Nat) :: .int (0 : Nat) :: vs, μ₂)
        | none => none) := by
        unfold l_26
        rw [lCons, show cVar 34 (ls2 a n ++ [(51, .loc (μ.next + 1))]) μ₁ = some (.int (a : Nat), μ₁) from rfl]
        simp only []
        rw [lCons, show cInt 0 (ls2 a n ++ [(51, .loc (μ.next + 1))]) μ₁ = some (.int (0 : Nat), μ₁) from rfl]
        simp only []
        rw [lCons, e]
        rfl
      rw [e2, e, Nat.zero_add]
    refine wpAny_execs_cons (inner_call h6 st6 eo ao₁ I₄ F₄ va₄ hv (fun W' z => (K₄.mono I₄ z).fn) fun W₅ pvs x₅ I₅ V₅ => ?_)
    refine V₅.consE fun p1 _ v1 V₅ => ?_
    refine V₅.consE fun p2 _ v2 V₅ => ?_
    refine V₅.consE fun p3 _ v3 V₅ => ?_
    refine V₅.nilE ?_
    refine inner2 C B n (μ.next + 1) hn (cntN a n) k a 0 l μ₁ W₅ _ p1 p2 p3 hpos hcnt (by omega) (by omega) (by omega) g1 (ao₁.down (by omega)) I₅ (K₄.mono I₄ x₅) v1 v2 v3 _ fun W₆ μ₂ ds x₆ I₆ g₂ len₂ val₂ nn₂ o₂ nx₂ => ?_
    refine wpAny_execs_nil ?_
    exact fin W₆ μ₂ ds ((x₄.trans x₅).trans x₆).lift I₆ (F₄.mono I₄ (x₅.trans x₆)) (by rw [g₂, spl_all l ds (by omega)]) (by omega) (by rw [len₂]; exact hcnt) nn₂ val₂ (fun i hi => by rw [o₂ i (by omega), old1 i hi]) (by rw [nx₂, nx1])
end Mine
end
section
open PySem PySem.W PyProof.Rows PySem.Calls PySem.SeqAt PySem.F
set_option maxRecDepth 100000
namespace Mine
noncomputable def jD : Arguments × List Stmt × Scope := defAt (tD 15).2.1
noncomputable def D_j : Fd := ⟨jD.2.2, [], none⟩
noncomputable def g_j1 : Es := sIf (tOf (cBin oEq (cBin oAdd (cVar 49) (cInt 1)) (cVar 50))) (bCons (sRet (cBin gItem (cVar 55) (cVar 49))) bNil) bNil
noncomputable def l_j6 : El := lCons (cVar 38) (lCons (cVar 50) lNil)
noncomputable def l_j7 : El := lCons (cVar 49) (lCons (cVar 38) lNil)
theorem j_parts (C : Cst) (B : Basis C) (k : Nat) {P : Prop} (kk : ∀ s1 s2 s3 e8 a6 r6 a7 r7 n6 n7 p6 p7 q8 q9 q0, jD.2.1 = [s1, s2, s3, .Return (some (.BinOp (.BinOp (.Call (.Name (nm 33) n6) (a6 :: r6) [] p6) .LShift e8 q8) .Add (.Call (.Name (nm 33) n7) (a7 :: r7) [] p7) q9)) q0] →
    SimS C D_j k s1 g_j1 → SimS C D_j k s2 g_i2 → SimS C D_j k s3 g_i3 → SimE C D_j k e8 (cVar 52) → SimL C D_j k (a6 :: r6) l_j6 → SimL C D_j k (a7 :: r7) l_j7 →
    (∀ env, starEach (a6 :: r6) env = (false, eval a6 env) :: starEach r6 env) → (∀ env, starEach (a7 :: r7) env = (false, eval a7 env) :: starEach r7 env) → P) : P :=
  kk _ _ _ _ _ _ _ _ _ _ _ _ _ _ _ rfl (sim_if _ (simt_cmp _ sc_eq (sim_bin _ so_add (sim_var 49 _ _) (sim_int 1 _ _)) (sim_var 50 _ _)) (sim_cons (sim_ret _ (sim_item _ (sim_var 55 _ _) (sim_var 49 _ _) (sub_plain fun _ _ => rfl))) sim_nil) sim_nil) (sim_set B 38 _ _ rfl (by decide) rfl (sim_bin _ so_shr (sim_bin _ so_add (sim_var 49 _ _) (sim_var 50 _ _)) (sim_int 1 _ _)) (fun _ => rfl)) (sim_set B 52 _ _ rfl (by decide) rfl (sim_bin _ so_mulA (sim_bin _ so_sub (sim_var 38 _ _) (sim_var 49 _ _)) (sim_var 39 _ _)) (fun _ => rfl)) (sim_var 52 _ _) (sim_lcons (sim_var 38 _ _) (sim_lcons (sim_var 50 _ _) sim_lnil (fun _ => rfl)) (fun _ => rfl)) (sim_lcons (sim_var 49 _ _) (sim_lcons (sim_var 38 _ _) sim_lnil (fun _ => rfl)) (fun _ => rfl)) (fun _ => rfl) (fun _ => rfl)
theorem inner_callE {C : Cst} {D : Fd} {k : Nat} {W : Wd} {μ : MH} {env : Env} {A : Around} {O : List Addr} {ls : Locs} {a : Expr} {r : List Expr} {n p : Pos} {l : El} {vs : List MV} {fa : Addr} {fd : FuncData} {Q : Value → Shared → Prop}
    (hl : SimL C D k (a :: r) l) (he : ∀ env, starEach (a :: r) env = (false, eval a env) :: starEach r env) (eo : EnvOk D env) (ao : AOk k A) (I : Inv C W μ) (F : FrOk C W env D.own O ls) (va : VarAt W.h env (nm 33) (.ref fa)) (hv : l ls μ = some (vs, μ))
    (hfn : ∀ W', Ext [] W W' → W'.h.get? fa = some { cls := .type "function", data := .func fd })
    (h : ∀ W' pvs, Ext [] W W' → Inv C W' μ → VRs C.Q W'.h W'.ρ W'.M vs pvs → wpAny (model P0 C.w) A (call (.ref fa) pvs) Q NoE W'.s) :
    wpAny (model P0 C.w) A (eval (.Call (.Name (nm 33) n) (a :: r) [] p) env) Q NoE W.s := by
  refine wpAny_Call_NameR (load_at eo (by decide) va ?_)
  exact callWith_def (fd := fd) rfl (hl ls μ vs μ hv W env O A p eo ao I F _ fun W₁ pvs x₁ I₁ V₁ => ⟨hfn W₁ x₁, h W₁ pvs x₁ I₁ V₁⟩) (he env)
theorem val_nonneg (n : Nat) : ∀ (l : List Int), (∀ z ∈ l, 0 ≤ z) → 0 ≤ val n l
  | [], _ => Int.le_refl _
  | a :: r, h => by
    have h1 := h a (.head _)
    have h2 := val_nonneg n r fun z hz => h z (.tail _ hz)
    have h3 : (0 : Int) ≤ 2 ^ n * val n r := Int.mul_nonneg (Int.pow_nonneg (by decide)) h2
    show 0 ≤ a + 2 ^ n * val n r
    omega
theorem val_parts (n : Nat) (a b : List Int) (ha : ∀ z ∈ a, 0 ≤ z) (hb : ∀ z ∈ b, 0 ≤ z) : val n a ≤ val n (a ++ b) ∧ val n b ≤ val n (a ++ b) := by
  have h1 := val_nonneg n a ha
  have h2 := val_nonneg n b hb
  have h3 : val n b ≤ 2 ^ (n * a.length) * val n b := by
    have h4 : (1 : Int) ≤ 2 ^ (n * a.length) := by have := Int.pow_pos (n := 2) (m := n * a.length) (by decide); omega
    have := Int.mul_le_mul_of_nonneg_right h4 h2
    omega
  rw [val_app]
  constructor <;> omega
theorem val_seg {n : Nat} {ds : List Int} (h : ∀ z ∈ ds, 0 ≤ z) (L d : Nat) : 0 ≤ val n ((ds.drop L).take d) ∧ val n ((ds.drop L).take d) ≤ val n ds := by
  have h1 : ∀ z ∈ (ds.drop L).take d, 0 ≤ z := fun z hz => h z (List.mem_of_mem_drop (List.mem_of_mem_take hz))
  refine ⟨val_nonneg n _ h1, ?_⟩
  have e1 := (val_parts n ((ds.drop L).take d) ((ds.drop L).drop d) h1 fun z hz => h z (List.mem_of_mem_drop (List.mem_of_mem_drop hz))).1
  rw [List.take_append_drop] at e1
  have e2 := (val_parts n (ds.take L) (ds.drop L) (fun z hz => h z (List.mem_of_mem_take hz)) fun z hz => h z (List.mem_of_mem_drop hz)).2
  rw [List.take_append_drop] at e2
  omega
theorem seg_two (ds : List Int) (L a b : Nat) : (ds.drop L).take (a + b) = (ds.drop L).take a ++ (ds.drop (L + a)).take b := by
  rw [List.take_add, List.drop_drop]
noncomputable def lsJ (m n L R : Nat) : Locs := [(55, .loc m), (39, .int (n : Nat)), (49, .int (L : Nat)), (50, .int (R : Nat))]
theorem e_j1n {m n L R : Nat} {μ : MH} (h : L + 1 ≠ R) : g_j1 (lsJ m n L R) μ = some (.next, lsJ m n L R, μ) := by
  have e1 : tOf (cBin oEq (cBin oAdd (cVar 49) (cInt 1)) (cVar 50)) (lsJ m n L R) μ = some (eqI ((L : Nat) + 1) ((R : Nat) : Int), μ) := rfl
  unfold g_j1 sIf
  rw [e1]
  have : eqI ((L : Nat) + 1) ((R : Nat) : Int) = false := by
    cases q : eqI ((L : Nat) + 1) ((R : Nat) : Int) with
    | false => rfl
    | true => exact absurd (eqI_iff.mp q) (by omega)
  rw [this]
  rfl
theorem e_j1 {m n L : Nat} {μ : MH} {ds : List Int} (hg : μ.get m = some (.list (ds.map .int))) (hL : L < ds.length) (hl : ds.length ≤ 29) : g_j1 (lsJ m n L (L + 1)) μ = some (.ret (.int ds[L]), lsJ m n L (L + 1), μ) := by
  have e1 : tOf (cBin oEq (cBin oAdd (cVar 49) (cInt 1)) (cVar 50)) (lsJ m n L (L + 1)) μ = some (eqI ((L : Nat) + 1) ((L + 1 : Nat) : Int), μ) := rfl
  have e2 : cBin gItem (cVar 55) (cVar 49) (lsJ m n L (L + 1)) μ = some (.int ds[L], μ) := by
    show gItem (.loc m) (.int (L : Int)) μ = _
    unfold gItem
    simp only [hg, fits_map ds (by omega), cond_true]
    have e : idx (L : Int) (ds.map MV.int).length = some L := by
      show (bif Nat.blt L (ds.map MV.int).length then some L else none) = _
      rw [List.length_map, show Nat.blt L ds.length = true from Nat.ble_eq_true_of_le (by omega)]; rfl
    rw [e]
    simp only [nth_map_int ds L hL]
  unfold g_j1 sIf
  rw [e1, eqI_iff.mpr (by omega)]
  simp only []
  rw [bCons, sRet, e2]
theorem e_j2 {m n L R : Nat} {μ : MH} : g_i2 (lsJ m n L R) μ = some (.next, lsJ m n L R ++ [(38, .int ((L + R) / 2 : Nat))], μ) := by
  have e : g_i2 (lsJ m n L R) μ = some (.next, lsJ m n L R ++ [(38, .int (((L : Int) + (R : Int)).fdiv (2 ^ 1)))], μ) := rfl
  rw [e, ← Int.natCast_add, fdiv_nat, Nat.pow_one]
theorem e_j3 {m n L R M : Nat} {μ : MH} (hM : L ≤ M) (hn : n < 2 ^ 60) : g_i3 (lsJ m n L R ++ [(38, .int (M : Nat))]) μ = some (.next, lsJ m n L R ++ [(38, .int (M : Nat)), (52, .int ((M - L) * n : Nat))], μ) := by
  have e : g_i3 (lsJ m n L R ++ [(38, .int (M : Nat))]) μ = (match (bif small (n : Int) then some (MV.int (((M : Int) - (L : Int)) * (n : Int)), μ) else none) with
    | some (v, μ') => some (.next, keep (lsJ m n L R ++ [(38, .int (M : Nat))]) 52 v, μ')
    | none => none) := rfl
  rw [e, small_nat hn]
  simp only [cond_true]
  rw [show ((M : Int) - (L : Int)) * (n : Int) = (((M - L) * n : Nat) : Int) from by rw [Int.natCast_mul, Int.natCast_sub hM]]
  rfl
theorem hc_j : ∀ x ∈ jD.2.2.names, x.2 ≠ .cell := by decide +kernel
theorem hb_j : ∀ n ∈ [49, 50], n < nmC ∧ Sto ⟨jD.2.2, [], none⟩ n = true := by decide +kernel
theorem innerJ (C : Cst) (B : Basis C) {cl : List (Str × Addr)} {fa : Addr} {pm cv ctv : Value} (n m : Nat) (hn : 1 ≤ n) (ds : List Int) (hds : ∀ z ∈ ds, 0 ≤ z) (hlen : ds.length ≤ 29) (hv : val n ds < 2 ^ 60) : ∀ (d k L : Nat) (μ : MH) (W : Wd) (A : Around) (pL pR : Value), 1 ≤ d → n * d ≤ 60 → L + d ≤ ds.length → μ.get m = some (.list (ds.map .int)) → AOk (k + d) A → Inv C W μ →
    CloK C W cl [(55, .loc m), (39, .int (n : Nat))] fa (fnX "inner" (qualOf 136) jD.1 jD.2.1 jD.2.2 cl .none .none .none pm none cv ctv) → VR C.Q W.h W.ρ W.M (.int (L : Nat)) pL → VR C.Q W.h W.ρ W.M (.int (L + d : Nat)) pR →
    ∀ Q : Value → Shared → Prop, Says C W (.int (val n ((ds.drop L).take d))) μ Q → wpAny (model P0 C.w) A (call (.ref fa) [pL, pR]) Q NoE W.s := by
  intro d
  induction d using Nat.strongRecOn with
  | _ d ih =>
  intro k L μ W A pL pR hd hnd hLd hg ao I Kc VL VR' Q hQ
  have hn60 : n ≤ 60 := Nat.le_trans (Nat.le_mul_of_pos_right n hd) hnd
  refine j_parts C B (k + (d - 1)) fun s1 s2 s3 e8 a6 r6 a7 r7 n6 n7 p6 p7 q8 q9 q0 hb h1 h2 h3 h8 h6 h7 st6 st7 => ?_
  refine clo_call (k := k + (d - 1)) (body := [s1, s2, s3, .Return (some (.BinOp (.BinOp (.Call (.Name (nm 33) n6) (a6 :: r6) [] p6) .LShift e8 q8) .Add (.Call (.Name (nm 33) n7) (a7 :: r7) [] p7) q9)) q0]) (fd := fnX "inner" (qualOf 136) jD.1 jD.2.1 jD.2.2 cl .none .none .none pm none cv ctv) B (congrArg FuncBody.stmts hb) rfl rfl rfl rfl rfl rfl hc_j rfl (fun i v hi => ?_) [49, 50] [.int (L : Nat), .int (L + d : Nat)] [pL, pR] hb_j (BindsTo.of_eq rfl) (ao.down (by omega)) I Kc (.cons _ _ _ _ VL (.cons _ _ _ _ VR' .nil)) fun env O W₁ eo hO x₁ hf I₁ F₁ va ao₁ => ?_
  · have hi' : (bif Nat.beq 55 i then some (MV.loc m) else (bif Nat.beq 39 i then some (MV.int (n : Nat)) else none)) = some v := hi
    cases q1 : Nat.beq 55 i with
    | true => rw [← Nat.eq_of_beq_eq_true q1]; rfl
    | false =>
      cases q2 : Nat.beq 39 i with
      | true => rw [← Nat.eq_of_beq_eq_true q2]; rfl
      | false => rw [q1, q2] at hi'; (first | exact no_some hi' | cases hi')
  have F₁ : FrOk C W₁ env [] O (lsJ m n L (L + d)) := F₁
  have hkf : env.kindOf (nm 33) = some .free := by unfold Env.kindOf; rw [eo.is]; rfl
  by_cases h1d : d = 1
  · subst h1d
    refine wpAny_execs_cons (h1 _ μ _ _ _ (e_j1 hg (by omega) hlen) W₁ env O _ eo ao₁ I₁ F₁ _ fun W₂ f x₂ I₂ F₂ R₂ => ?_)
    cases R₂ with
    | ret _ pv V =>
      refine hQ W₂ pv (x₁.fresh x₂ hf) I₂ ?_
      have e : (ds.drop L).take 1 = [ds[L]'(by omega)] := by
        rw [List.drop_eq_getElem_cons (by omega)]; rfl
      rw [e]
      rw [show val n [ds[L]'(by omega)] = ds[L]'(by omega) from by simp [val]]
      exact V
  · have hM : (L + (L + d)) / 2 = L + d / 2 := by omega
    have hs60 : d / 2 * n ≤ 60 := by
      refine Nat.le_trans ?_ hnd
      rw [Nat.mul_comm]
      exact Nat.mul_le_mul_left n (Nat.div_le_self d 2)
    have e2 := e_j2 (m := m) (n := n) (L := L) (R := L + d) (μ := μ)
    rw [hM] at e2
    have e3 := e_j3 (m := m) (n := n) (L := L) (R := L + d) (M := L + d / 2) (μ := μ) (by omega) (by omega)
    rw [Nat.add_sub_cancel_left] at e3
    refine wpAny_execs_cons (h1 _ μ _ _ _ (e_j1n (by omega)) W₁ env O _ eo ao₁ I₁ F₁ _ fun W₂ f x₂ I₂ F₂ R₂ => ?_)
    cases R₂
    refine wpAny_execs_cons (h2 _ μ _ _ _ e2 W₂ env O _ eo ao₁ I₂ F₂ _ fun W₃ f x₃ I₃ F₃ R₃ => ?_)
    cases R₃
    refine wpAny_execs_cons (h3 _ μ _ _ _ e3 W₃ env O _ eo ao₁ I₃ F₃ _ fun W₄ f x₄ I₄ F₄ R₄ => ?_)
    cases R₄
    have y := (x₂.trans x₃).trans x₄
    have va₄ := va.step I₁ F₁ hO y hkf
    have X₄ : Ext [] W W₄ := x₁.fresh y hf
    have K₄ := Kc.mono I X₄
    have hsz := val_seg (n := n) hds (L + d / 2) (d - d / 2)
    have hR : L + d = L + d / 2 + (d - d / 2) := by omega
    refine wpAny_execs_cons (wpAny_Return_some (wpAny_BinOp (wpAny_BinOp ?_)))
    refine inner_callE h6 st6 eo ao₁ I₄ F₄ va₄ (vs := [.int (L + d / 2 : Nat), .int (L + d : Nat)]) rfl (fun W' z => (K₄.mono I₄ z).fn) fun W₅ pvs z I₅ V₅ => ?_
    refine V₅.consE fun p1 _ v1 V₅ => ?_
    refine V₅.consE fun p2 _ v2 V₅ => ?_
    refine V₅.nilE ?_
    refine ih (d - d / 2) (by omega) k (L + d / 2) μ W₅ _ p1 p2 (by omega) (Nat.le_trans (Nat.mul_le_mul_left n (Nat.sub_le _ _)) hnd) (by omega) hg (ao₁.down (by omega)) I₅ (K₄.mono I₄ z) v1 (by rw [← hR]; exact v2) _ fun W₆ pz x₆ I₆ V₆ => ?_
    have z6 := z.trans x₆
    refine h8 _ μ (.int (d / 2 * n : Nat)) μ rfl W₆ env O _ eo ao₁ I₆ (F₄.mono I₄ z6) _ fun W₇ ps x₇ I₇ V₇ => ?_
    have hsh : oShl (.int (val n ((ds.drop (L + d / 2)).take (d - d / 2)))) (.int (d / 2 * n : Nat)) μ = some (.int (val n ((ds.drop (L + d / 2)).take (d - d / 2)) * 2 ^ (d / 2 * n)), μ) := by
      show (bif small (val n ((ds.drop (L + d / 2)).take (d - d / 2))) && Nat.ble (d / 2 * n) 64 then some (MV.int (val n ((ds.drop (L + d / 2)).take (d - d / 2)) * 2 ^ (d / 2 * n)), μ) else none) = _
      have : small (val n ((ds.drop (L + d / 2)).take (d - d / 2))) = true := by
        unfold small; exact Nat.ble_eq_true_of_le (by omega)
      rw [this, show Nat.ble (d / 2 * n) 64 = true from Nat.ble_eq_true_of_le (by omega)]
      rfl
    refine so_shl _ _ μ _ μ hsh W₇ pz ps _ ao₁.zero I₇ (VR.mono x₇ (fun _ h => nomatch h) V₆) V₇ _ fun W₈ pw x₈ I₈ V₈ => ?_
    have z8 := (z6.trans x₇).trans x₈
    have F₈ := F₄.mono I₄ z8
    have K₈ := K₄.mono I₄ z8
    refine inner_callE h7 st7 eo ao₁ I₈ F₈ (VarAt.mono I₄ z8 F₄ va₄) (vs := [.int (L : Nat), .int (L + d / 2 : Nat)]) rfl (fun W' z => (K₈.mono I₈ z).fn) fun W₉ pvs z₉ I₉ V₉ => ?_
    refine V₉.consE fun p1 _ v1 V₉ => ?_
    refine V₉.consE fun p2 _ v2 V₉ => ?_
    refine V₉.nilE ?_
    refine ih (d / 2) (by omega) k L μ W₉ _ p1 p2 (by omega) (by rw [Nat.mul_comm]; exact hs60) (by omega) hg (ao₁.down (by omega)) I₉ (K₈.mono I₈ z₉) v1 v2 _ fun W₁₀ pu x₁₀ I₁₀ V₁₀ => ?_
    refine so_add _ _ μ (.int (val n ((ds.drop (L + d / 2)).take (d - d / 2)) * 2 ^ (d / 2 * n) + val n ((ds.drop L).take (d / 2)))) μ rfl W₁₀ pw pu _ ao₁.zero I₁₀ (VR.mono (z₉.trans x₁₀) (fun _ h => nomatch h) V₈) V₁₀ _ fun W₁₁ pr x₁₁ I₁₁ V₁₁ => ?_
    refine hQ W₁₁ pr (((X₄.trans z8).trans (z₉.trans x₁₀)).trans x₁₁) I₁₁ ?_
    have e : val n ((ds.drop L).take d) = val n ((ds.drop (L + d / 2)).take (d - d / 2)) * 2 ^ (d / 2 * n) + val n ((ds.drop L).take (d / 2)) := by
      have h := seg_two ds L (d / 2) (d - d / 2)
      rw [show d / 2 + (d - d / 2) = d from by omega] at h
      rw [h, val_app, List.length_take, List.length_drop, show min (d / 2) (ds.length - L) = d / 2 from by omega, Nat.mul_comm n, Int.mul_comm, Int.add_comm]
    rw [e]
    exact V₁₁
end Mine
end
section
open PySem PySem.W PyProof.Rows PySem.Calls PySem.SeqAt PySem.F
set_option maxRecDepth 100000
namespace Mine
noncomputable def D_3 : Fd := ⟨(tD 15).2.2, [55, 39, 33], some (136, "_digits2int.<locals>.")⟩
noncomputable def l_36 : El := lCons (cInt 0) (lCons (cCall bLen (lCons (cVar 55) lNil)) lNil)
theorem d3_parts (C : Cst) (B : Basis C) (k : Nat) {P : Prop} (kk : ∀ t e0 a6 r6 n6 p6 pI pR pd, (tD 15).2.1 = [.FunctionDef "inner" jD.1 jD.2.1 [] none [] jD.2.2 none "inner" pd, .Return (some (.IfExp t (.Call (.Name (nm 33) n6) (a6 :: r6) [] p6) e0 pI)) pR] →
    SimT C D_3 k t (tList (cVar 55)) → SimE C D_3 k e0 (cInt 0) → SimL C D_3 k (a6 :: r6) l_36 → (∀ env, starEach (a6 :: r6) env = (false, eval a6 env) :: starEach r6 env) → P) : P :=
  kk _ _ _ _ _ _ _ _ _ rfl (simt_list (sim_var 55 _ _) (fun _ _ => rfl)) (sim_int 0 _ _) (sim_lcons (sim_int 0 _ _) (sim_lcons (sim_callB (fix_boot B _ rfl rfl rfl) (.inl ⟨_, rfl⟩) sf_len (sim_lcons (sim_var 55 _ _) sim_lnil (fun _ => rfl)) (fun _ => rfl) (fun _ _ => rfl)) sim_lnil (fun _ => rfl)) (fun _ => rfl)) (fun _ => rfl)
theorem in136 : ((136, 132) : Addr × Addr) ∈ tabs := by decide
theorem hcap3 : ∀ n ∈ [55, 39], n ∈ D_3.own ∧ n < nmC ∧ D_3.sc.names.lookup (nm n) = some .cell ∧ jD.2.2.names.lookup (nm n) = some .free := by decide +kernel
theorem hfr3 : ∀ x ∈ jD.2.2.names, x.2 = .free → ∃ n ∈ D_3.own, nm n = x.1 := by decide +kernel
theorem hnd3 : (jD.2.2.names.map (·.1)).Nodup := by decide +kernel
theorem how3 : ∀ n ∈ [55, 39, 33], (tD 15).2.2.names.lookup (nm n) = some .cell := by decide +kernel
theorem hns3 : ∀ n ∈ [55, 39], n < nmC ∧ Sto D_3 n = true := by decide +kernel
theorem d2i_code (C : Cst) (B : Basis C) {W : Wd} {μ : MH} {A : Around} {k m n : Nat} {ds : List Int} {pm' pn : Value} {Q : Value → Shared → Prop} (hn : 1 ≤ n) (hnl : n * ds.length ≤ 60) (hn60 : n ≤ 60) (hds : ∀ z ∈ ds, 0 ≤ z) (hlen : ds.length ≤ 29) (hv : val n ds < 2 ^ 60) (hg : μ.get m = some (.list (ds.map .int))) (ao : AOk (k + 30) A) (I : Inv C W μ) (Vm : VR C.Q W.h W.ρ W.M (.loc m) pm') (Vn : VR C.Q W.h W.ρ W.M (.int (n : Nat)) pn)
    (hQ : Says C W (.int (val n ds)) μ Q) : codeAny (model P0 C.w) A (.call (.ref 137) ⟨[pm', pn], []⟩) (fun r s' => match r with | .ok (.ret v) => Q v s' | .ok _ => False | .error e => NoE e s') W.s := by
  refine d3_parts C B (k + 29) fun t e0 a6 r6 n6 p6 pI pR pd hb ht h0 h6 st6 => ?_
  refine fun_callC (k := k + 29) (a := 137) B [55, 39, 33] (some (136, "_digits2int.<locals>.")) [55, 39] [.loc m, .int (n : Nat)] [pm', pn] rfl rfl ⟨_, _, _, _, rfl, rfl, rfl, rfl⟩ (congrArg FuncBody.stmts hb) rfl rfl rfl rfl rfl rfl how3 hns3 (BindsTo.of_eq rfl) (fun p h => by (first | exact no_some h | cases h); exact ⟨rfl, rfl⟩) ao I (.cons _ _ _ _ Vm (.cons _ _ _ _ Vn .nil)) fun env O W₁ eo x₁ hf I₁ F₁ ao₁ => ?_
  have F₁ : FrOk C W₁ env D_3.own O [(55, .loc m), (39, .int (n : Nat))] := F₁
  have eo : EnvOk D_3 env := eo
  refine wpAny_execs_cons (sim_def (p := (136, 132)) (q := "_digits2int.<locals>.") (cap := [55, 39]) (lc := [(55, .loc m), (39, .int (n : Nat))]) B eo I₁ F₁ in136 rfl rfl rfl rfl (fun _ => rfl) rfl rfl (by decide) hcap3 hfr3 rfl hnd3 rfl rfl fun W₃ fa cv ctv pm cl x₃ I₃ F₃ Kc _ va => ?_)
  have hft : fits (ds.map MV.int) = true := fits_map ds (by omega)
  refine wpAny_execs_cons (wpAny_Return_some (IfExp_ ?_))
  by_cases he : ds = []
  · subst he
    refine ht _ μ false μ (by show (match μ.get m with | some (.list l) => bif fits l then some (neL l, μ) else none | _ => none) = _; rw [hg]; rfl) W₃ env O _ eo ao₁ I₃ F₃ _ fun W₄ x₄ I₄ => ?_
    refine h0 _ μ _ μ rfl W₄ env O _ eo ao₁ I₄ (F₃.mono I₃ x₄) _ fun W₅ pv x₅ I₅ V₅ => ?_
    exact hQ W₅ pv (x₁.fresh ((x₃.trans x₄.lift).trans x₅.lift) hf) I₅ V₅
  · have hpos : 1 ≤ ds.length := by
      cases ds with
      | nil => exact absurd rfl he
      | cons a r => simp
    refine ht _ μ true μ (by
      show (match μ.get m with | some (.list l) => bif fits l then some (neL l, μ) else none | _ => none) = _
      rw [hg]
      simp only [hft, cond_true]
      cases ds with
      | nil => exact absurd rfl he
      | cons a r => rfl) W₃ env O _ eo ao₁ I₃ F₃ _ fun W₄ x₄ I₄ => ?_
    have F₄ := F₃.mono I₃ x₄
    have K₄ := Kc.mono I₃ x₄
    have hv6 : l_36 [(55, .loc m), (39, .int (n : Nat))] μ = some ([.int (0 : Nat), .int (0 + ds.length : Nat)], μ) := by
      have e : cCall bLen (lCons (cVar 55) lNil) [(55, .loc m), (39, .int (n : Nat))] μ = some (.int (ds.length : Nat), μ) := by
        show bLen [.loc m] μ = _
        unfold bLen
        simp only [hg, hft, cond_true, List.length_map]
      unfold l_36
      rw [lCons, show cInt 0 [(55, .loc m), (39, .int (n : Nat))] μ = some (.int (0 : Nat), μ) from rfl]
      simp only []
      rw [lCons, e, Nat.zero_add]
      rfl
    refine inner_callE h6 st6 eo ao₁ I₄ F₄ (VarAt.mono I₃ x₄ F₃ va) hv6 (fun W' z => (K₄.mono I₄ z).fn) fun W₅ pvs x₅ I₅ V₅ => ?_
    refine V₅.consE fun p1 _ v1 V₅ => ?_
    refine V₅.consE fun p2 _ v2 V₅ => ?_
    refine V₅.nilE ?_
    refine innerJ C B n m hn ds hds hlen hv ds.length k 0 μ W₅ _ p1 p2 hpos hnl (by omega) hg (ao₁.down (by omega)) I₅ (K₄.mono I₄ x₅) v1 v2 _ fun W₆ pv x₆ I₆ V₆ => ?_
    rw [List.drop_zero, List.take_length] at V₆
    exact hQ W₆ pv (x₁.fresh (x₃.trans ((x₄.trans x₅).trans x₆).lift) hf) I₆ V₆
noncomputable def allNN : List Int → Bool
  | [] => true
  | .ofNat _ :: r => allNN r
  | _ => false
theorem allNN_iff : ∀ (l : List Int), allNN l = true ↔ ∀ z ∈ l, 0 ≤ z
  | [] => ⟨fun _ _ h => (nomatch h), fun _ => rfl⟩
  | .ofNat n :: r => by
    rw [allNN, allNN_iff r]
    exact ⟨fun h z hz => (List.mem_cons.mp hz).elim (fun e => by rw [e]; exact Int.natCast_nonneg n) (h z), fun h z hz => h z (.tail _ hz)⟩
  | .negSucc n :: r => by
    refine ⟨fun h => ?_, fun h => ?_⟩
    · (first | exact no_some h | cases h)
    · have := h _ (.head _)
      exact absurd this (by omega)
noncomputable def f_d2i : List MV → MH → Option (MV × MH) := fun a μ => match a with
  | [.loc m, .int (.ofNat n)] => match μ.get m with
    | some (.list l) => match intsOf l with
      | some ds => bif Nat.ble 1 n && (Nat.ble n 60 && (Nat.ble (n * ds.length) 60 && (allNN ds && (Nat.ble ds.length 29 && ltN (val n ds) (2 ^ 60))))) then some (.int (val n ds), μ) else none
      | none => none
    | _ => none
  | _ => none
theorem ints_back : ∀ {l : List MV} {ds : List Int}, intsOf l = some ds → l = ds.map .int
  | [], ds, h => by (first | exact no_some h | cases h); rfl
  | m :: r, ds, h => by
    unfold intsOf at h
    split at h
    · rename_i q; (first | exact no_some q | cases q)
    · rename_i i r' q
      (first | exact no_some q | cases q)
      split at h
      · rename_i l hl; (first | exact no_some h | cases h); rw [ints_back hl]; rfl
      · (first | exact no_some h | cases h)
    · (first | exact no_some h | cases h)
theorem F_d2i (C : Cst) (B : Basis C) (k : Nat) : SimF C (k + 30) 137 plainA f_d2i := by
  intro args μ v μ' h W vals A ao I V Q hQ
  unfold f_d2i at h
  split at h
  · rename_i m n
    split at h
    · rename_i l hg
      split at h
      · rename_i ds hd
        cases hc : (Nat.ble 1 n && (Nat.ble n 60 && (Nat.ble (n * ds.length) 60 && (allNN ds && (Nat.ble ds.length 29 && ltN (val n ds) (2 ^ 60)))))) with
        | false => rw [hc] at h; (first | exact no_some h | cases h)
        | true =>
          rw [hc] at h; (first | exact no_some h | cases h)
          simp only [Bool.and_eq_true] at hc
          refine ex0_6 hc fun c1 c2 c3 c4 c5 c6 => ?_
          refine V.consE fun pv pvs V1 Vs => ?_
          refine Vs.consE fun pw pws V2 Vs => ?_
          refine Vs.nilE ?_
          have hnn := (allNN_iff ds).mp c4
          have h6 : (val n ds).natAbs < 2 ^ 60 := Nat.le_of_ble_eq_true c6
          exact d2i_code C B (n := n) (ds := ds) (Nat.le_of_ble_eq_true c1) (Nat.le_of_ble_eq_true c3) (Nat.le_of_ble_eq_true c2) hnn (Nat.le_of_ble_eq_true c5) (by omega) (by rw [hg, ints_back hd]) ao I V1 V2 hQ
      · (first | exact no_some h | cases h)
    · (first | exact no_some h | cases h)
  · (first | exact no_some h | cases h)
end Mine
end
section
open PySem PySem.W PyProof.Rows PySem.Calls PySem.SeqAt PySem.F
set_option maxRecDepth 100000
namespace Mine
noncomputable def D_div : Fd := ⟨(tD 12).2.2, [], none⟩
noncomputable def g_div2 : Es := bCons (sIf (tOf (cBin oLe (cBin oSub (cBits (cVar 34)) (cVar 39)) (cInt 4000))) (bCons (sRet (cCall bDivmod (lCons (cVar 34) (lCons (cVar 35) lNil)))) bNil) bNil) bFail
theorem s_div2 (C : Cst) (B : Basis C) (k : Nat) : SimB C D_div k (tD 12).2.1 g_div2 :=
  sim_cons (sim_if _ (simt_cmp _ sc_le (sim_bin _ so_sub (sim_bits (sim_var 34 _ _) (fun _ => rfl) rfl) (sim_var 39 _ _)) (sim_fixI (fix_glob B _ rfl rfl)))
    (sim_cons (sim_ret _ (sim_callB (fix_boot B _ rfl rfl rfl) (.inl ⟨_, rfl⟩) sf_divmod (sim_lcons (sim_var 34 _ _) (sim_lcons (sim_var 35 _ _) sim_lnil (fun _ => rfl)) (fun _ => rfl)) (fun _ => rfl) (fun _ _ => rfl))) sim_nil) sim_nil) sim_fail
noncomputable def f_div2 : List MV → MH → Option (MV × MH) := fRun [34, 35, 39] [] g_div2
theorem F_div2 (C : Cst) (B : Basis C) (k : Nat) : SimF C (k + 1) 116 plainA f_div2 :=
  sim_fun B [] none [34, 35, 39] [] [] plainA rfl rfl ⟨_, _, _, _, rfl, rfl, rfl, rfl⟩ rfl rfl rfl rfl rfl rfl rfl (by decide +kernel) (by decide +kernel) (fun _ _ _ _ => .nil) (fun s vals X hl => by refine ex3_1 (list3 (by simpa using hl)) fun a0 a1 a2 eqq3 => ?_; subst eqq3; exact BindsTo.of_eq rfl) (fun p h => by (first | exact no_some h | cases h)) (s_div2 C B k)
theorem fmodN (x n : Nat) : (x : Int).fmod (n : Int) = ((x % n : Nat) : Int) := by
  rw [Int.fmod_eq_emod_of_nonneg _ (Int.natCast_nonneg _)]
  exact (Int.natCast_emod _ _).symm
theorem e_div2 {x b n : Nat} {μ : MH} (hx : x < 2 ^ 60) (hb : 1 ≤ b) (hb2 : b < 2 ^ 60) : f_div2 [.int (x : Nat), .int (b : Nat), .int (n : Nat)] μ = some (.tup [.int (x / b : Nat), .int (x % b : Nat)], μ) := by
  have e1 : tOf (cBin oLe (cBin oSub (cBits (cVar 34)) (cVar 39)) (cInt 4000)) [(34, .int (x : Nat)), (35, .int (b : Nat)), (39, .int (n : Nat))] μ = some (!ltI 4000 ((Builtin.Int.intBits (x : Int) : Nat) - (n : Int)), μ) := rfl
  have e2 : ltI 4000 ((Builtin.Int.intBits (x : Int) : Nat) - (n : Int)) = false := by
    rw [ltI_eq, decide_eq_false_iff_not]
    have := bits_le hx
    omega
  have e3 : cCall bDivmod (lCons (cVar 34) (lCons (cVar 35) lNil)) [(34, .int (x : Nat)), (35, .int (b : Nat)), (39, .int (n : Nat))] μ = some (.tup [.int (x / b : Nat), .int (x % b : Nat)], μ) := by
    show (bif isZ (b : Int) then none else bif small (b : Int) then some (MV.tup [.int ((x : Int).fdiv b), .int ((x : Int).fmod b)], μ) else none) = _
    have hz : isZ (b : Int) = false := by
      cases q : isZ (b : Int) with
      | false => rfl
      | true => exact absurd (isZ_eq.mp q) (by omega)
    rw [hz, small_nat hb2, fdivN, fmodN]
    rfl
  show (match g_div2 [(34, .int (x : Nat)), (35, .int (b : Nat)), (39, .int (n : Nat))] μ with
      | some (.ret v, _, μ') => some (v, μ')
      | some (.next, _, μ') => some (.none, μ')
      | _ => none) = _
  unfold g_div2
  rw [bCons, sIf, e1, e2]
  simp only [Bool.not_false]
  rw [bCons, sRet, e3]
noncomputable def D_dp : Fd := ⟨(tD 16).2.2, [], none⟩
noncomputable def as57 : As := aName 57
noncomputable def b_dp : Es := bCons (sSetA (aTup [59, 46]) (cCall f_div2 (lCons (cBin oAdd (cBin oShl (cVar 46) (cVar 39)) (cVar 57)) (lCons (cVar 35) (lCons (cVar 39) lNil))))) (bCons (sExpr (cMeth .list (cVar 56) (lCons (cVar 59) lNil) mAppend)) bNil)
noncomputable def g_rest : Es := bCons (sSet 46 (cInt 0)) (bCons (sSet 56 (cList lNil)) (bCons (sFor (iRev (lCons (cVar 51) lNil)) (aName 57) b_dp) (bCons (sExpr (cMeth .list (cVar 56) lNil mRev)) (bCons (sSet 58 (cCall f_d2i (lCons (cVar 56) (lCons (cVar 39) lNil)))) (bCons (sRet (cTup (lCons (cVar 58) (lCons (cVar 46) lNil)))) bNil)))))
theorem dp_parts (C : Cst) (B : Basis C) (k : Nat) {P : Prop} (kk : ∀ s1 pa pf a2 r2 pc pos2 rest, (tD 16).2.1 = s1 :: .Assign [.Name (nm 51) pa] (.Call (.Name "_int2digits" pf) (a2 :: r2) [] pc) pos2 :: rest →
    SimS C D_dp (k + 30) s1 (sSet 39 (cBits (cVar 35))) → SimL C D_dp (k + 30) (a2 :: r2) (lCons (cVar 34) (lCons (cVar 39) lNil)) → (∀ env, starEach (a2 :: r2) env = (false, eval a2 env) :: starEach r2 env) → SimB C D_dp (k + 30) rest g_rest → P) : P :=
  kk _ _ _ _ _ _ _ _ rfl (sim_set B 39 _ _ rfl (by decide) rfl (sim_bits (sim_var 35 _ _) (fun _ => rfl) rfl) (fun _ => rfl)) (sim_lcons (sim_var 34 _ _) (sim_lcons (sim_var 39 _ _) sim_lnil (fun _ => rfl)) (fun _ => rfl)) (fun _ => rfl) (sim_cons (sim_set B 46 _ _ rfl (by decide) rfl (sim_int 0 _ _) (fun _ => rfl))
    (sim_cons (sim_set B 56 _ _ rfl (by decide) rfl (sim_list _ sim_lnil) (fun _ => rfl))
    (sim_cons (sim_for B _ (si_rev (fix_boot B _ rfl rfl rfl) (sim_lcons (sim_var 51 _ _) sim_lnil (fun _ => rfl)) (fun _ => rfl)) (sima_name B 57 _ rfl (by decide) rfl)
      (sim_cons (sim_setT _ (sima_tup B _ _ (.cons 59 _ _ _ _ rfl (by decide) rfl (.cons 46 _ _ _ _ rfl (by decide) rfl .nil))) (sim_call B (fix_glob B _ rfl rfl) rfl rfl (F_div2 C B (k + 29)) (sim_lcons (sim_bin _ so_add (sim_bin _ so_shl (sim_var 46 _ _) (sim_var 39 _ _)) (sim_var 57 _ _)) (sim_lcons (sim_var 35 _ _) (sim_lcons (sim_var 39 _ _) sim_lnil (fun _ => rfl)) (fun _ => rfl)) (fun _ => rfl)) (fun _ => rfl)) (fun _ => rfl) (fun _ => rfl) (fun _ => rfl))
      (sim_cons (sim_expr _ (sim_meth1 (kt := .list) plainAttrs_list PySem.slot_list_append rfl (sim_var 56 _ _) (sim_lcons (sim_var 59 _ _) sim_lnil (fun _ => rfl)) (sf_append B) (fun _ => rfl) (fun _ => rfl) rfl (fun _ => rfl) (fun _ _ => rfl)) (fun _ => rfl)) sim_nil)) src_rev (fun _ _ => rfl))
    (sim_cons (sim_expr _ (sim_meth0 (kt := .list) plainAttrs_list PySem.F.slot_list_reverse rfl (sim_var 56 _ _) (sf_reverse B) (fun _ => rfl) rfl) (fun _ => rfl))
    (sim_cons (sim_set B 58 _ _ rfl (by decide) rfl (sim_call B (fix_glob B _ rfl rfl) rfl rfl (F_d2i C B k) (sim_lcons (sim_var 56 _ _) (sim_lcons (sim_var 39 _ _) sim_lnil (fun _ => rfl)) (fun _ => rfl)) (fun _ => rfl)) (fun _ => rfl))
    (sim_cons (sim_ret _ (sim_tuple _ _ (sim_lcons (sim_var 58 _ _) (sim_lcons (sim_var 46 _ _) sim_lnil (fun _ => rfl)) (fun _ => rfl)))) sim_nil))))))
end Mine
end
section
open PySem PySem.W PyProof.Rows PySem.Calls PySem.SeqAt PySem.F
set_option maxRecDepth 100000
namespace Mine
structure DpL (ls : Locs) (r n b m mq : Nat) : Prop where
  h46 : look ls 46 = some (.int (r : Nat))
  h39 : look ls 39 = some (.int (n : Nat))
  h35 : look ls 35 = some (.int (b : Nat))
  h56 : look ls 56 = some (.loc mq)
theorem isKT_list {n : Nat} {μ : MH} {l : List MV} (h : μ.get n = some (.list l)) : isKT .list (.loc n) μ = true := by
  show (match μ.get n with
    | some (.list _) => true
    | _ => false) = true
  rw [h]
theorem e_dp {ls : Locs} {μ : MH} {r n b m mq d : Nat} {qs : List Int} (L : DpL ls r n b m mq) (h57 : look ls 57 = some (.int (d : Nat))) (hq : μ.get mq = some (.list (qs.map .int))) (hl : qs.length ≤ 29) (hn : n ≤ 12) (hr : r < b) (hb : b < 4096) (hd : d < 2 ^ 18) :
    ∃ ls', b_dp ls μ = some (.next, ls', μ.put mq (.list ((qs ++ [(((r * 2 ^ n + d) / b : Nat) : Int)]).map .int))) ∧ DpL ls' ((r * 2 ^ n + d) % b) n b m mq := by
  have hp : 2 ^ n ≤ 4096 := Nat.le_trans (Nat.pow_le_pow_right (by decide) hn) (by decide)
  have hx : r * 2 ^ n + d < 2 ^ 60 := by
    have := Nat.mul_le_mul (Nat.le_of_lt (Nat.lt_trans hr hb)) hp
    omega
  have eshl : oShl (.int (r : Nat)) (.int (n : Nat)) μ = some (.int ((r : Int) * 2 ^ n), μ) := by
    show (bif small (r : Int) && Nat.ble n 64 then some (MV.int ((r : Int) * 2 ^ n), μ) else none) = _
    rw [small_nat (by omega), show Nat.ble n 64 = true from Nat.ble_eq_true_of_le (by omega)]
    rfl
  have earg : lCons (cBin oAdd (cBin oShl (cVar 46) (cVar 39)) (cVar 57)) (lCons (cVar 35) (lCons (cVar 39) lNil)) ls μ = some ([.int (r * 2 ^ n + d : Nat), .int (b : Nat), .int (n : Nat)], μ) := by
    simp only [lCons, cBin, cVar_of L.h46, cVar_of L.h39, cVar_of L.h35, cVar_of h57, eshl, oAdd, lNil]
    rw [show ((r : Int) * 2 ^ n + (d : Int)) = ((r * 2 ^ n + d : Nat) : Int) from by simp]
  have e1 : sSetA (aTup [59, 46]) (cCall f_div2 (lCons (cBin oAdd (cBin oShl (cVar 46) (cVar 39)) (cVar 57)) (lCons (cVar 35) (lCons (cVar 39) lNil)))) ls μ = some (.next, keep (keep ls 59 (.int ((r * 2 ^ n + d) / b : Nat))) 46 (.int ((r * 2 ^ n + d) % b : Nat)), μ) := by
    unfold sSetA cCall
    rw [earg]
    simp only []
    rw [e_div2 hx (by omega) (by omega)]
    rfl
  have h59 : look (keep (keep ls 59 (.int ((r * 2 ^ n + d) / b : Nat))) 46 (.int ((r * 2 ^ n + d) % b : Nat))) 59 = some (.int ((r * 2 ^ n + d) / b : Nat)) := by rw [look_keep, if_neg (by decide), look_keep, if_pos rfl]
  have h56 : look (keep (keep ls 59 (.int ((r * 2 ^ n + d) / b : Nat))) 46 (.int ((r * 2 ^ n + d) % b : Nat))) 56 = some (.loc mq) := by rw [look_keep, if_neg (by decide), look_keep, if_neg (by decide)]; exact L.h56
  refine ⟨_, ?_, ⟨by rw [look_keep, if_pos rfl], by rw [look_keep, if_neg (by decide), look_keep, if_neg (by decide)]; exact L.h39, by rw [look_keep, if_neg (by decide), look_keep, if_neg (by decide)]; exact L.h35, h56⟩⟩
  unfold b_dp
  rw [bCons, e1]
  simp only []
  rw [bCons, sExpr, cMeth, cVar_of h56]
  simp only []
  rw [isKT_list hq, cond_true, lCons, cVar_of h59]
  simp only [lNil, mAppend, hq]
  rw [fits_map qs (by omega), cond_true, List.map_append]
  rfl
theorem e_loop {n b m mq : Nat} {ds : List Int} (hmq : m ≠ mq) (hds : ∀ z ∈ ds, 0 ≤ z) (hlen : ds.length ≤ 29) (hv : val n ds < 2 ^ 18) (hn : n ≤ 12) (hb : b < 4096) : ∀ (i f : Nat) (ls : Locs) (μ : MH) (r : Nat) (qs : List Int), i < f → i ≤ ds.length → μ.Ok → μ.get m = some (.list (ds.map .int)) → μ.get mq = some (.list (qs.map .int)) → DpL ls r n b m mq → r < b → (∀ z ∈ qs, 0 ≤ z) → qs.length = ds.length - i → val n (ds.drop i) = b * val n qs.reverse + r →
    ∃ ls' μ' r' qs', forGo (aName 57) b_dp f (.rev m i) ls μ = some (.next, ls', μ') ∧ μ'.Ok ∧ μ'.get mq = some (.list (List.map .int qs')) ∧ (∀ j, j ≠ mq → μ'.get j = μ.get j) ∧ μ'.next = μ.next ∧ DpL ls' r' n b m mq ∧ r' < b ∧ (∀ z ∈ qs', 0 ≤ z) ∧ qs'.length = ds.length ∧ val n ds = b * val n qs'.reverse + r'
  | 0, f + 1, ls, μ, r, qs, _, _, ok, hm, hq, L, hr, hqs, hl, hval => by
    refine ⟨ls, μ, r, qs, ?_, ok, hq, fun _ _ => rfl, rfl, L, hr, hqs, by omega, by rw [List.drop_zero] at hval; exact hval⟩
    show (match MI.next (.rev m 0) μ with
      | some none => some (Fl.next, ls, μ)
      | some (some (v, mi')) => _
      | none => none) = _
    simp only [MI.next, hm]
  | i + 1, f + 1, ls, μ, r, qs, hf, hi, ok, hm, hq, L, hr, hqs, hl, hval => by
    have hil : i < ds.length := by omega
    have hd0 := hds _ (List.getElem_mem hil)
    have hcons : ds.drop i = ds[i] :: ds.drop (i + 1) := List.drop_eq_getElem_cons hil
    have hdl : ds[i] ≤ val n ds := by
      have h1 := (val_parts n [ds[i]] (ds.drop (i + 1)) (fun z hz => by rw [List.mem_singleton.mp hz]; exact hd0) fun z hz => hds z (List.mem_of_mem_drop hz)).1
      rw [List.singleton_append, ← hcons] at h1
      have h2 := (val_parts n (ds.take i) (ds.drop i) (fun z hz => hds z (List.mem_of_mem_take hz)) fun z hz => hds z (List.mem_of_mem_drop hz)).2
      rw [List.take_append_drop] at h2
      have h3 : val n [ds[i]] = ds[i] := by simp [val]
      omega
    refine ex1_1 (Int.eq_ofNat_of_zero_le hd0) fun d ed => ?_
    have hd18 : d < 2 ^ 18 := by omega
    have L₁ : DpL (keep ls 57 (.int (d : Nat))) r n b m mq := ⟨by rw [look_keep, if_neg (by decide)]; exact L.h46, by rw [look_keep, if_neg (by decide)]; exact L.h39, by rw [look_keep, if_neg (by decide)]; exact L.h35, by rw [look_keep, if_neg (by decide)]; exact L.h56⟩
    refine ex1_2 (e_dp L₁ (d := d) (by rw [look_keep, if_pos rfl]) hq (by omega) hn hr hb hd18) fun ls' e1 L' => ?_
    have gp := MH.get_put ok hq (.list ((qs ++ [(((r * 2 ^ n + d) / b : Nat) : Int)]).map .int))
    have hbp : 0 < b := by omega
    have hnew : val n (ds.drop i) = b * val n (qs ++ [(((r * 2 ^ n + d) / b : Nat) : Int)]).reverse + (((r * 2 ^ n + d) % b : Nat) : Int) := by
      rw [hcons, val, hval, List.reverse_append, List.reverse_singleton, List.singleton_append, val, ed]
      have hdm := Nat.div_add_mod (r * 2 ^ n + d) b
      have hdm' : ((b * ((r * 2 ^ n + d) / b) + (r * 2 ^ n + d) % b : Nat) : Int) = ((r * 2 ^ n + d : Nat) : Int) := by rw [hdm]
      simp only [Int.natCast_add, Int.natCast_mul, Int.natCast_pow] at hdm'
      rw [Int.mul_add, Int.mul_add]
      have e2 : (b : Int) * ((2 : Int) ^ n * val n qs.reverse) = 2 ^ n * (b * val n qs.reverse) := by rw [← Int.mul_assoc, Int.mul_comm (b : Int), Int.mul_assoc]
      rw [e2, Int.mul_comm ((2 : Int) ^ n) (r : Int)]
      have e3 : (((2 : Nat) : Int)) ^ n = (2 : Int) ^ n := rfl
      rw [e3] at hdm'
      generalize (b : Int) * val n qs.reverse = X at *
      generalize (2 : Int) ^ n * X = Y at *
      have e4 : (((r * 2 ^ n + d) / b : Nat) : Int) = ((r : Int) * 2 ^ n + (d : Int)) / (b : Int) := by rw [Int.natCast_ediv]; simp
      have e5 : (((r * 2 ^ n + d) % b : Nat) : Int) = ((r : Int) * 2 ^ n + (d : Int)) % (b : Int) := by rw [Int.natCast_emod]; simp
      rw [e4, e5]
      have e6 := Int.mul_ediv_add_emod ((r : Int) * 2 ^ n + (d : Int)) (b : Int)
      omega
    obtain ⟨ls₂, μ₂, r₂, qs₂, k1, k2, k3, k4, k5, k6, k7, k8, k9, k10⟩ := e_loop hmq hds hlen hv hn hb i f ls' (μ.put mq (.list ((qs ++ [(((r * 2 ^ n + d) / b : Nat) : Int)]).map .int))) ((r * 2 ^ n + d) % b) (qs ++ [(((r * 2 ^ n + d) / b : Nat) : Int)]) (by omega) (by omega) ⟨ok.le⟩ (by rw [gp, if_neg hmq]; exact hm) (by rw [gp, if_pos rfl]) L' (Nat.mod_lt _ hbp) (fun z hz => by
      rcases List.mem_append.mp hz with hz | hz
      · exact hqs z hz
      · rw [List.mem_singleton.mp hz]; exact Int.natCast_nonneg _) (by rw [List.length_append, hl]; simp; omega) hnew
    refine ⟨ls₂, μ₂, r₂, qs₂, ?_, k2, k3, fun j hj => by rw [k4 j hj, gp, if_neg hj], k5, k6, k7, k8, k9, k10⟩
    have hnth : nth (ds.map MV.int) i = some (.int (d : Nat)) := by rw [nth_map_int ds i hil, ed]
    have step : forGo (aName 57) b_dp (f + 1) (.rev m (i + 1)) ls μ = (match MI.next (.rev m (i + 1)) μ with
      | some none => some (Fl.next, ls, μ)
      | some (some (v, mi')) => match aName 57 v ls with
        | some ls₁ => match b_dp ls₁ μ with
          | some (.next, ls₂, μ₂) => forGo (aName 57) b_dp f mi' ls₂ μ₂
          | some (.cont, ls₂, μ₂) => forGo (aName 57) b_dp f mi' ls₂ μ₂
          | some (.brk, ls₂, μ₂) => some (.next, ls₂, μ₂)
          | some (.ret v, ls₂, μ₂) => some (.ret v, ls₂, μ₂)
          | none => none
        | none => none
      | none => none) := rfl
    rw [step]
    simp only [MI.next, hm, hnth, aName, e1]
    exact k1
end Mine
end
section
open PySem PySem.W PyProof.Rows PySem.Calls PySem.SeqAt PySem.F
set_option maxRecDepth 100000
namespace Mine
noncomputable def lsD (a b n m : Nat) : Locs := [(34, .int (a : Nat)), (35, .int (b : Nat)), (39, .int (n : Nat)), (51, .loc m)]
theorem e_d2i {m n : Nat} {ds : List Int} {μ : MH} (hg : μ.get m = some (.list (ds.map .int))) (hn1 : 1 ≤ n) (hn : n ≤ 12) (hnl : n * ds.length ≤ 60) (hds : ∀ z ∈ ds, 0 ≤ z) (hlen : ds.length ≤ 29) (hv : (val n ds).natAbs < 2 ^ 60) : f_d2i [.loc m, .int (n : Nat)] μ = some (.int (val n ds), μ) := by
  show f_d2i [.loc m, .int (.ofNat n)] μ = _
  unfold f_d2i
  simp only [hg, ints_map]
  have hc : (Nat.ble 1 n && (Nat.ble n 60 && (Nat.ble (n * ds.length) 60 && (allNN ds && (Nat.ble ds.length 29 && ltN (val n ds) (2 ^ 60)))))) = true := by
    simp only [Bool.and_eq_true]
    exact ⟨Nat.ble_eq_true_of_le hn1, Nat.ble_eq_true_of_le (by omega), Nat.ble_eq_true_of_le hnl, (allNN_iff _).mpr hds, Nat.ble_eq_true_of_le hlen, Nat.ble_eq_true_of_le hv⟩
  rw [hc, cond_true]
theorem e_rest {a b n m : Nat} {ds : List Int} {μ : MH} (ok : μ.Ok) (hnx : μ.next < 1000) (hm : μ.get m = some (.list (ds.map .int))) (hds : ∀ z ∈ ds, 0 ≤ z) (hlen : ds.length ≤ 29) (hnl : n * ds.length ≤ 60) (hv : val n ds = a) (ha : a < 2 ^ 18) (hn1 : 1 ≤ n) (hn : n ≤ 12) (hb1 : 1 ≤ b) (hb : b < 4096) :
    ∃ ls' μ', g_rest (lsD a b n m) μ = some (.ret (.tup [.int (a / b : Nat), .int (a % b : Nat)]), ls', μ') ∧ ∀ i, i < μ.next → μ'.get i = μ.get i := by
  have hm0 := MH.get_lt hm
  refine ex1_4 (MH.new_at (μ := μ) (by omega) (.list [])) fun μ₁ c1 c2 c3 c4 => ?_
  have hmq : m ≠ μ.next := by omega
  have hm1 : μ₁.get m = some (.list (ds.map .int)) := by rw [c4, if_neg hmq]; exact hm
  obtain ⟨ls₂, μ₂, r, qs, k1, k2, k3, k4, k5, k6, k7, k8, k9, k10⟩ := e_loop (n := n) (b := b) (m := m) (mq := μ.next) hmq hds hlen (by omega) hn hb ds.length 100 (lsD a b n m ++ [(46, .int (0 : Nat)), (56, .loc μ.next)]) μ₁ 0 [] (by omega) (Nat.le_refl _) c2 hm1 (by rw [c4, if_pos rfl]; rfl) ⟨rfl, rfl, rfl, rfl⟩ (by omega) (fun z hz => nomatch hz) (by simp) (by rw [List.drop_length]; rfl)
  have gp := MH.get_put k2 k3 (.list (List.map MV.int qs).reverse)
  obtain ⟨μ₃, hμ₃⟩ : ∃ z, z = μ₂.put μ.next (.list (List.map MV.int qs).reverse) := ⟨_, rfl⟩
  rw [← hμ₃] at gp
  have hrev : ∀ z ∈ qs.reverse, 0 ≤ z := fun z hz => k8 z (List.mem_reverse.mp hz)
  have hV := val_nonneg n qs.reverse hrev
  refine ex1_1 (Int.eq_ofNat_of_zero_le hV) fun V eV => ?_
  have hab : a = b * V + r := by
    have : (a : Int) = ((b * V + r : Nat) : Int) := by rw [← hv, k10, eV]; simp
    omega
  have hq : a / b = V := by rw [hab, Nat.mul_add_div (by omega), Nat.div_eq_of_lt k7, Nat.add_zero]
  have hr : a % b = r := by rw [hab, Nat.mul_add_mod, Nat.mod_eq_of_lt k7]
  have hVa : V ≤ a := by rw [← hq]; exact Nat.div_le_self _ _
  have e1 : sSet 46 (cInt 0) (lsD a b n m) μ = some (.next, lsD a b n m ++ [(46, .int (0 : Nat))], μ) := rfl
  have e2 : sSet 56 (cList lNil) (lsD a b n m ++ [(46, .int (0 : Nat))]) μ = some (.next, lsD a b n m ++ [(46, .int (0 : Nat)), (56, .loc μ.next)], μ₁) := by
    have : cList lNil (lsD a b n m ++ [(46, .int (0 : Nat))]) μ = some (.loc μ.next, μ₁) := by
      show mkList [] μ = _
      unfold mkList
      rw [show fits [] = true from rfl, cond_true, c1]
    rw [sSet, this]
    rfl
  have e3 : sFor (iRev (lCons (cVar 51) lNil)) (aName 57) b_dp (lsD a b n m ++ [(46, .int (0 : Nat)), (56, .loc μ.next)]) μ₁ = some (.next, ls₂, μ₂) := by
    have : iRev (lCons (cVar 51) lNil) (lsD a b n m ++ [(46, .int (0 : Nat)), (56, .loc μ.next)]) μ₁ = some (.rev m ds.length, μ₁) := by
      show (match μ₁.get m with
        | some (.list l) => some (MI.rev m l.length, μ₁)
        | _ => none) = _
      rw [hm1]
      simp only [List.length_map]
    rw [sFor, this]
    exact k1
  have e4 : sExpr (cMeth .list (cVar 56) lNil mRev) ls₂ μ₂ = some (.next, ls₂, μ₃) := by
    rw [sExpr, cMeth, cVar_of k6.h56]
    simp only []
    rw [isKT_list k3, cond_true, lNil]
    simp only [mRev, k3]
    rw [fits_map qs (by omega), cond_true, hμ₃]
  have e5 : sSet 58 (cCall f_d2i (lCons (cVar 56) (lCons (cVar 39) lNil))) ls₂ μ₃ = some (.next, keep ls₂ 58 (.int (V : Nat)), μ₃) := by
    have : f_d2i [.loc μ.next, .int (n : Nat)] μ₃ = some (.int (V : Nat), μ₃) := by
      have h := e_d2i (m := μ.next) (n := n) (ds := qs.reverse) (μ := μ₃) (by rw [gp, if_pos rfl, List.map_reverse]) hn1 hn (by rw [List.length_reverse, k9]; exact hnl) hrev (by rw [List.length_reverse, k9]; exact hlen) (by rw [eV]; show V < 2 ^ 60; omega)
      rw [h, eV]
    rw [sSet, cCall, lCons, cVar_of k6.h56]
    simp only []
    rw [lCons, cVar_of k6.h39]
    simp only [lNil]
    rw [this]
  have e6 : sRet (cTup (lCons (cVar 58) (lCons (cVar 46) lNil))) (keep ls₂ 58 (.int (V : Nat))) μ₃ = some (.ret (.tup [.int (V : Nat), .int (r : Nat)]), keep ls₂ 58 (.int (V : Nat)), μ₃) := by
    have h58 : look (keep ls₂ 58 (.int (V : Nat))) 58 = some (.int (V : Nat)) := by rw [look_keep, if_pos rfl]
    have h46 : look (keep ls₂ 58 (.int (V : Nat))) 46 = some (.int (r : Nat)) := by rw [look_keep, if_neg (by decide)]; exact k6.h46
    rw [sRet, cTup, lCons, cVar_of h58]
    simp only []
    rw [lCons, cVar_of h46]
    rfl
  refine ⟨keep ls₂ 58 (.int (V : Nat)), μ₃, ?_, fun i hi => ?_⟩
  · unfold g_rest
    rw [bCons, e1]
    simp only []
    rw [bCons, e2]
    simp only []
    rw [bCons, e3]
    simp only []
    rw [bCons, e4]
    simp only []
    rw [bCons, e5]
    simp only []
    rw [bCons, e6, hq, hr]
  · rw [gp, if_neg (by omega), k4 i (by omega), c4, if_neg (by omega)]
noncomputable def f_dp : List MV → MH → Option (MV × MH) := fun a μ => match a with
  | [.int (.ofNat x), .int (.ofNat y)] => bif Nat.blt x 262144 && (Nat.ble 1 y && (Nat.blt y 4096 && Nat.blt μ.next 950)) then some (.tup [.int (.ofNat (x / y)), .int (.ofNat (x % y))], μ) else none
  | _ => none
theorem hns_dp : ∀ n ∈ [34, 35], n < nmC ∧ Sto D_dp n = true := by decide +kernel
theorem F_dp (C : Cst) (B : Basis C) (k : Nat) : SimF C (k + 31) 144 plainA f_dp := by
  intro args μ v μ' h W vals A ao I V Q hQ
  unfold f_dp at h
  split at h
  · rename_i x y
    cases hc : (Nat.blt x 262144 && (Nat.ble 1 y && (Nat.blt y 4096 && Nat.blt μ.next 950))) with
    | false => rw [hc] at h; (first | exact no_some h | cases h)
    | true =>
      rw [hc] at h; (first | exact no_some h | cases h)
      simp only [Bool.and_eq_true] at hc
      have c1 := Nat.le_of_ble_eq_true hc.1
      have c2 := Nat.le_of_ble_eq_true hc.2.1
      have c3 := Nat.le_of_ble_eq_true hc.2.2.1
      have c4 := Nat.le_of_ble_eq_true hc.2.2.2
      have hb1 := bits_pos (a := y) (by omega)
      have hb2 := bits_le (a := y) (k := 12) (by omega)
      refine dp_parts C B k fun s1 pa pf a2 r2 pc pos2 rest hb h1 h2 he hr => ?_
      refine V.consE fun px pvs V1 Vs => ?_
      refine Vs.consE fun py pws V2 Vs => ?_
      refine Vs.nilE ?_
      refine fun_callC (k := k + 30) (a := 144) B [] none [34, 35] [.int (x : Nat), .int (y : Nat)] [px, py] rfl rfl ⟨_, _, _, _, rfl, rfl, rfl, rfl⟩ (congrArg FuncBody.stmts hb) rfl rfl rfl rfl rfl rfl (by decide) hns_dp (BindsTo.of_eq rfl) (fun p h => by (first | exact no_some h | cases h)) ao I (.cons _ _ _ _ V1 (.cons _ _ _ _ V2 .nil)) fun env O W₁ eo x₁ hf I₁ F₁ ao₁ => ?_
      have F₁ : FrOk C W₁ env [] O [(34, .int (x : Nat)), (35, .int (y : Nat))] := F₁
      have eo : EnvOk D_dp env := eo
      refine wpAny_execs_cons (h1 _ μ .next [(34, .int (x : Nat)), (35, .int (y : Nat)), (39, .int (Builtin.Int.intBits (y : Int) : Nat))] μ rfl W₁ env O _ eo ao₁ I₁ F₁ _ fun W₂ f x₂ I₂ F₂ R₂ => ?_)
      cases R₂
      refine wpAny_execs_cons (wpAny_Assign_Name (wpAny_Call_NameR ?_) (hs := rfl))
      refine (fix_glob B _ rfl rfl : Fix C D_dp (.Name "_int2digits" pf) (.ref 130)) W₂ μ env _ eo I₂ _ ?_
      refine callWith_def (o := _) rfl (h2 _ μ [.int (x : Nat), .int (Builtin.Int.intBits (y : Int) : Nat)] μ rfl W₂ env O _ pc eo ao₁ I₂ F₂ _ fun W₃ pvs x₃ I₃ V₃ => ⟨I₃.K B 130 _ rfl, ?_⟩) (he env)
      refine V₃.consE fun p1 _ v1 V₃ => ?_
      refine V₃.consE fun p2 _ v2 V₃ => ?_
      refine V₃.nilE ?_
      refine i2d_call C B (k := k) hb1 hb2 (by omega) (by omega) ao₁ I₃ v1 v2 fun W₄ μ₁ ds m pv x₄ I₄ V₄ g₄ len nl nn vl old nx => ?_
      have F₄ := F₂.mono I₂ (x₃.trans x₄)
      refine sim_store (n := 51) B eo I₄ F₄ (by decide) rfl V₄ fun W₅ x₅ I₅ F₅ => ?_
      refine ex2_2 (e_rest (a := x) (b := y) (n := Builtin.Int.intBits (y : Int)) (m := m) I₅.ok (by omega) g₄ nn len nl vl (by omega) hb1 hb2 c2 (by omega)) fun ls' μ₂ e old2 => ?_
      refine hr _ μ₁ _ _ _ e W₅ env O _ eo ao₁ I₅ F₅ _ fun W₆ f x₆ I₆ F₆ R₆ => ?_
      cases R₆ with
      | ret _ pr V =>
        exact Says.forget I hQ rfl (fun i hi => by rw [old2 i (by omega), old i hi]) W₆ pr (x₁.fresh ((((x₂.trans x₃.lift).trans x₄.lift).trans x₅).trans x₆) hf) I₆ V
  · (first | exact no_some h | cases h)
end Mine
end
section
open PySem PySem.W PyProof.Rows PySem.Calls PySem.SeqAt PySem.F
set_option maxRecDepth 100000
namespace Mine
noncomputable def D_idm : Fd := ⟨(tD 17).2.2, [], none⟩
noncomputable def g_idm (f : List MV → MH → Option (MV × MH)) : Es := bCons (sIf (tOf (cBin oEq (cVar 35) (cInt 0))) bFail (bCons (sIf (tOf (cBin oLt (cVar 35) (cInt 0)))
  (bCons (sSetA (aTup [58, 46]) (cCall f (lCons (cNeg (cVar 34)) (lCons (cNeg (cVar 35)) lNil)))) (bCons (sRet (cTup (lCons (cVar 58) (lCons (cNeg (cVar 46)) lNil)))) bNil))
  (bCons (sIf (tOf (cBin oLt (cVar 34) (cInt 0)))
    (bCons (sSetA (aTup [58, 46]) (cCall f (lCons (cInv (cVar 34)) (lCons (cVar 35) lNil)))) (bCons (sRet (cTup (lCons (cInv (cVar 58)) (lCons (cBin oAdd (cVar 35) (cInv (cVar 46))) lNil)))) bNil))
    (bCons (sRet (cCall f_dp (lCons (cVar 34) (lCons (cVar 35) lNil)))) bNil)) bNil)) bNil)) bNil
theorem s_idm (C : Cst) (B : Basis C) (j : Nat) {f : List MV → MH → Option (MV × MH)} (hf : SimF C (j + 31) 151 plainA f) : SimB C D_idm (j + 31) (tD 17).2.1 (g_idm f) :=
  sim_cons (sim_if _ (simt_cmp _ sc_eq (sim_var 35 _ _) (sim_int 0 _ _)) sim_fail (sim_cons (sim_if _ (simt_cmp _ sc_lt (sim_var 35 _ _) (sim_int 0 _ _))
    (sim_cons (sim_setT _ (sima_tup B _ _ (.cons 58 _ _ _ _ rfl (by decide) rfl (.cons 46 _ _ _ _ rfl (by decide) rfl .nil))) (sim_call B (fix_glob B _ rfl rfl) rfl rfl hf (sim_lcons (sim_neg _ (sim_var 34 _ _)) (sim_lcons (sim_neg _ (sim_var 35 _ _)) sim_lnil (fun _ => rfl)) (fun _ => rfl)) (fun _ => rfl)) (fun _ => rfl) (fun _ => rfl) (fun _ => rfl))
      (sim_cons (sim_ret _ (sim_tuple _ _ (sim_lcons (sim_var 58 _ _) (sim_lcons (sim_neg _ (sim_var 46 _ _)) sim_lnil (fun _ => rfl)) (fun _ => rfl)))) sim_nil))
    (sim_cons (sim_if _ (simt_cmp _ sc_lt (sim_var 34 _ _) (sim_int 0 _ _))
      (sim_cons (sim_setT _ (sima_tup B _ _ (.cons 58 _ _ _ _ rfl (by decide) rfl (.cons 46 _ _ _ _ rfl (by decide) rfl .nil))) (sim_call B (fix_glob B _ rfl rfl) rfl rfl hf (sim_lcons (sim_inv _ (sim_var 34 _ _)) (sim_lcons (sim_var 35 _ _) sim_lnil (fun _ => rfl)) (fun _ => rfl)) (fun _ => rfl)) (fun _ => rfl) (fun _ => rfl) (fun _ => rfl))
        (sim_cons (sim_ret _ (sim_tuple _ _ (sim_lcons (sim_inv _ (sim_var 58 _ _)) (sim_lcons (sim_bin _ so_add (sim_var 35 _ _) (sim_inv _ (sim_var 46 _ _))) sim_lnil (fun _ => rfl)) (fun _ => rfl)))) sim_nil))
      (sim_cons (sim_ret _ (sim_call B (fix_glob B _ rfl rfl) rfl rfl (F_dp C B j) (sim_lcons (sim_var 34 _ _) (sim_lcons (sim_var 35 _ _) sim_lnil (fun _ => rfl)) (fun _ => rfl)) (fun _ => rfl))) sim_nil)) sim_nil)) sim_nil)) sim_nil
noncomputable def f_idm (f : List MV → MH → Option (MV × MH)) : List MV → MH → Option (MV × MH) := fRun [34, 35] [] (g_idm f)
theorem F_idm (C : Cst) (B : Basis C) (j : Nat) {f : List MV → MH → Option (MV × MH)} (hf : SimF C (j + 31) 151 plainA f) : SimF C (j + 32) 151 plainA (f_idm f) :=
  sim_fun B [] none [34, 35] [] [] plainA rfl rfl ⟨_, _, _, _, rfl, rfl, rfl, rfl⟩ rfl rfl rfl rfl rfl rfl rfl (by decide +kernel) (by decide +kernel) (fun _ _ _ _ => .nil) (fun s vals X hl => by refine ex2_1 (list2 (by simpa using hl)) fun a0 a1 eqq2 => ?_; subst eqq2; exact BindsTo.of_eq rfl) (fun p h => by (first | exact no_some h | cases h)) (s_idm C B j hf)
noncomputable def fNo : List MV → MH → Option (MV × MH) := fun _ _ => none
theorem F_no (C : Cst) (k : Nat) (a : Addr) (mk : List Value → Args) : SimF C k a mk fNo := by
  intro args μ v μ' h; (first | exact no_some h | cases h)
noncomputable def dm (x y : Int) : MV := .tup [.int (x.fdiv y), .int (x.fmod y)]
theorem fdm_pos {x y q r : Int} (hy : 0 < y) (h : x = y * q + r) (h0 : 0 ≤ r) (h1 : r < y) : x.fdiv y = q ∧ x.fmod y = r := by
  have := (Int.ediv_emod_unique (a := x) (q := q) (r := r) hy).mpr ⟨by rw [h]; exact Int.add_comm _ _, h0, h1⟩
  rw [Int.fdiv_eq_ediv_of_nonneg _ (Int.le_of_lt hy), Int.fmod_eq_emod_of_nonneg _ (Int.le_of_lt hy)]
  exact this
theorem run_idm {f : List MV → MH → Option (MV × MH)} {x y : Int} {μ : MH} {v : MV} {ls' : Locs} (h : g_idm f [(34, .int x), (35, .int y)] μ = some (.ret v, ls', μ)) : f_idm f [.int x, .int y] μ = some (v, μ) := by
  show (match g_idm f [(34, .int x), (35, .int y)] μ with
      | some (.ret v, _, μ') => some (v, μ')
      | some (.next, _, μ') => some (.none, μ')
      | _ => none) = _
  rw [h]
theorem t0_idm {x y : Int} {μ : MH} (hy : y ≠ 0) : tOf (cBin oEq (cVar 35) (cInt 0)) [(34, .int x), (35, .int y)] μ = some (false, μ) := by
  have e : tOf (cBin oEq (cVar 35) (cInt 0)) [(34, .int x), (35, .int y)] μ = some (eqI y 0, μ) := rfl
  rw [e]
  cases q : eqI y 0 with
  | false => rfl
  | true => exact absurd (eqI_iff.mp q) hy
theorem t1_idm {x y : Int} {μ : MH} : tOf (cBin oLt (cVar 35) (cInt 0)) [(34, .int x), (35, .int y)] μ = some (decide (y < 0), μ) := by rw [← ltI_eq]; rfl
theorem t2_idm {x y : Int} {μ : MH} : tOf (cBin oLt (cVar 34) (cInt 0)) [(34, .int x), (35, .int y)] μ = some (decide (x < 0), μ) := by rw [← ltI_eq]; rfl
theorem e_idm_pp {f : List MV → MH → Option (MV × MH)} {x y : Nat} {μ : MH} (hx : x < 262144) (hy : 1 ≤ y) (hy2 : y < 4096) (hm : μ.next < 950) : f_idm f [.int (x : Nat), .int (y : Nat)] μ = some (dm x y, μ) := by
  have e : cCall f_dp (lCons (cVar 34) (lCons (cVar 35) lNil)) [(34, .int (x : Nat)), (35, .int (y : Nat))] μ = some (dm x y, μ) := by
    show (bif Nat.blt x 262144 && (Nat.ble 1 y && (Nat.blt y 4096 && Nat.blt μ.next 950)) then some (MV.tup [.int (x / y : Nat), .int (x % y : Nat)], μ) else none) = _
    rw [show (Nat.blt x 262144 && (Nat.ble 1 y && (Nat.blt y 4096 && Nat.blt μ.next 950))) = true from by
      simp only [Bool.and_eq_true]
      exact ⟨Nat.ble_eq_true_of_le hx, Nat.ble_eq_true_of_le hy, Nat.ble_eq_true_of_le hy2, Nat.ble_eq_true_of_le hm⟩, cond_true]
    unfold dm
    rw [fdivN, fmodN]
  refine run_idm (ls' := [(34, .int (x : Nat)), (35, .int (y : Nat))]) ?_
  unfold g_idm
  rw [bCons, sIf, t0_idm (by omega)]
  simp only []
  rw [bCons, sIf, t1_idm, show decide (((y : Nat) : Int) < 0) = false from decide_eq_false (by omega)]
  simp only []
  rw [bCons, sIf, t2_idm, show decide (((x : Nat) : Int) < 0) = false from decide_eq_false (by omega)]
  simp only []
  rw [bCons, sRet, e]
theorem e_idm_np {f : List MV → MH → Option (MV × MH)} {x : Int} {y : Nat} {μ : MH} (hx : x < 0) (hy : 1 ≤ y) (hf : f [.int (Builtin.bitNot x), .int (y : Nat)] μ = some (dm (Builtin.bitNot x) y, μ)) : f_idm f [.int x, .int (y : Nat)] μ = some (dm x y, μ) := by
  have e1 : sSetA (aTup [58, 46]) (cCall f (lCons (cInv (cVar 34)) (lCons (cVar 35) lNil))) [(34, .int x), (35, .int (y : Nat))] μ = some (.next, [(34, .int x), (35, .int (y : Nat)), (58, .int ((Builtin.bitNot x).fdiv y)), (46, .int ((Builtin.bitNot x).fmod y))], μ) := by
    have : cCall f (lCons (cInv (cVar 34)) (lCons (cVar 35) lNil)) [(34, .int x), (35, .int (y : Nat))] μ = some (dm (Builtin.bitNot x) y, μ) := by rw [← hf]; rfl
    rw [sSetA, this]
    rfl
  have e2 : sRet (cTup (lCons (cInv (cVar 58)) (lCons (cBin oAdd (cVar 35) (cInv (cVar 46))) lNil))) [(34, .int x), (35, .int (y : Nat)), (58, .int ((Builtin.bitNot x).fdiv y)), (46, .int ((Builtin.bitNot x).fmod y))] μ = some (.ret (.tup [.int (Builtin.bitNot ((Builtin.bitNot x).fdiv y)), .int ((y : Int) + Builtin.bitNot ((Builtin.bitNot x).fmod y))]), [(34, .int x), (35, .int (y : Nat)), (58, .int ((Builtin.bitNot x).fdiv y)), (46, .int ((Builtin.bitNot x).fmod y))], μ) := rfl
  have hz : dm x y = .tup [.int (Builtin.bitNot ((Builtin.bitNot x).fdiv y)), .int ((y : Int) + Builtin.bitNot ((Builtin.bitNot x).fmod y))] := by
    have hy0 : (0 : Int) < (y : Int) := by omega
    have h1 := Int.mul_fdiv_add_fmod (Builtin.bitNot x) (y : Int)
    have h2 := Int.fmod_eq_emod_of_nonneg (Builtin.bitNot x) (Int.le_of_lt hy0)
    have h3 := Int.emod_nonneg (Builtin.bitNot x) (Int.ne_of_gt hy0)
    have h4 := Int.emod_lt_of_pos (Builtin.bitNot x) hy0
    obtain ⟨p1, p2⟩ := fdm_pos (x := x) (y := y) (q := Builtin.bitNot ((Builtin.bitNot x).fdiv y)) (r := (y : Int) + Builtin.bitNot ((Builtin.bitNot x).fmod y)) hy0 (by
      rw [show Builtin.bitNot ((Builtin.bitNot x).fdiv y) = -((Builtin.bitNot x).fdiv y) - 1 from rfl, show Builtin.bitNot ((Builtin.bitNot x).fmod y) = -((Builtin.bitNot x).fmod y) - 1 from rfl, Int.mul_sub, Int.mul_neg]
      have : Builtin.bitNot x = -x - 1 := rfl
      omega) (by show 0 ≤ (y : Int) + (-((Builtin.bitNot x).fmod y) - 1); omega) (by show (y : Int) + (-((Builtin.bitNot x).fmod y) - 1) < y; omega)
    unfold dm
    rw [p1, p2]
  refine run_idm (ls' := [(34, .int x), (35, .int (y : Nat)), (58, .int ((Builtin.bitNot x).fdiv y)), (46, .int ((Builtin.bitNot x).fmod y))]) ?_
  unfold g_idm
  rw [bCons, sIf, t0_idm (by omega)]
  simp only []
  rw [bCons, sIf, t1_idm, show decide (((y : Nat) : Int) < 0) = false from decide_eq_false (by omega)]
  simp only []
  rw [bCons, sIf, t2_idm, show decide (x < 0) = true from decide_eq_true hx]
  simp only []
  rw [bCons, e1]
  simp only []
  rw [bCons, e2, hz]
theorem e_idm_n {f : List MV → MH → Option (MV × MH)} {x y : Int} {μ : MH} (hy : y < 0) (hf : f [.int (-x), .int (-y)] μ = some (dm (-x) (-y), μ)) : f_idm f [.int x, .int y] μ = some (dm x y, μ) := by
  have e1 : sSetA (aTup [58, 46]) (cCall f (lCons (cNeg (cVar 34)) (lCons (cNeg (cVar 35)) lNil))) [(34, .int x), (35, .int y)] μ = some (.next, [(34, .int x), (35, .int y), (58, .int ((-x).fdiv (-y))), (46, .int ((-x).fmod (-y)))], μ) := by
    have : cCall f (lCons (cNeg (cVar 34)) (lCons (cNeg (cVar 35)) lNil)) [(34, .int x), (35, .int y)] μ = some (dm (-x) (-y), μ) := by rw [← hf]; rfl
    rw [sSetA, this]
    rfl
  have e2 : sRet (cTup (lCons (cVar 58) (lCons (cNeg (cVar 46)) lNil))) [(34, .int x), (35, .int y), (58, .int ((-x).fdiv (-y))), (46, .int ((-x).fmod (-y)))] μ = some (.ret (.tup [.int ((-x).fdiv (-y)), .int (-((-x).fmod (-y)))]), [(34, .int x), (35, .int y), (58, .int ((-x).fdiv (-y))), (46, .int ((-x).fmod (-y)))], μ) := rfl
  have hz : dm x y = .tup [.int ((-x).fdiv (-y)), .int (-((-x).fmod (-y)))] := by
    have h1 : (-x).fdiv (-y) = x.fdiv y := Int.neg_fdiv_neg x y
    have h2 := Int.mul_fdiv_add_fmod (-x) (-y)
    have h3 := Int.mul_fdiv_add_fmod x y
    unfold dm
    rw [h1] at h2 ⊢
    rw [Int.neg_mul] at h2
    rw [show x.fmod y = -((-x).fmod (-y)) from by omega]
  refine run_idm (ls' := [(34, .int x), (35, .int y), (58, .int ((-x).fdiv (-y))), (46, .int ((-x).fmod (-y)))]) ?_
  unfold g_idm
  rw [bCons, sIf, t0_idm (by omega)]
  simp only []
  rw [bCons, sIf, t1_idm, show decide (y < 0) = true from decide_eq_true hy]
  simp only []
  rw [bCons, e1]
  simp only []
  rw [bCons, e2, hz]
noncomputable def f3 : List MV → MH → Option (MV × MH) := f_idm (f_idm (f_idm fNo))
theorem F3 (C : Cst) (B : Basis C) (k : Nat) : SimF C (k + 34) 151 plainA f3 := F_idm C B (k + 2) (F_idm C B (k + 1) (F_idm C B k (F_no C _ _ _)))
theorem e_f2 {x : Int} {y : Nat} {μ : MH} (hx : x.natAbs < 262144) (hy : 1 ≤ y) (hy2 : y < 4096) (hm : μ.next < 950) (g : List MV → MH → Option (MV × MH)) : f_idm (f_idm g) [.int x, .int (y : Nat)] μ = some (dm x y, μ) := by
  by_cases h : x < 0
  · refine e_idm_np h hy ?_
    refine ex1_1 (Int.eq_ofNat_of_zero_le (show 0 ≤ Builtin.bitNot x from by show 0 ≤ -x - 1; omega)) fun n e => ?_
    rw [e]
    have hn : (n : Int) = -x - 1 := e.symm
    exact e_idm_pp (by omega) hy hy2 hm
  · refine ex1_1 (Int.eq_ofNat_of_zero_le (show 0 ≤ x from by omega)) fun n eqq1 => ?_; subst eqq1
    exact e_idm_pp (by omega) hy hy2 hm
theorem e_f3 {x y : Int} {μ : MH} (hx : x.natAbs < 262144) (hy : y ≠ 0) (hy2 : y.natAbs < 4096) (hm : μ.next < 950) : f3 [.int x, .int y] μ = some (dm x y, μ) := by
  by_cases h : y < 0
  · refine e_idm_n h ?_
    refine ex1_1 (Int.eq_ofNat_of_zero_le (show 0 ≤ -y from by omega)) fun n e => ?_
    rw [e]
    exact e_f2 (by omega) (by omega) (by omega) hm _
  · refine ex1_1 (Int.eq_ofNat_of_zero_le (show 0 ≤ y from by omega)) fun n eqq1 => ?_; subst eqq1
    exact e_f2 hx (by omega) (by omega) hm _
theorem F_divmod (C : Cst) (B : Basis C) (k : Nat) : SimF C (k + 34) 151 plainA f_divmod := by
  intro args μ v μ' h W vals A ao I V Q hQ
  unfold f_divmod at h
  split at h
  · rename_i x y
    cases hz : isZ y with
    | true => rw [hz] at h; (first | exact no_some h | cases h)
    | false =>
      cases hc : (Nat.blt μ.next 900 && (ltN x 200000 && ltN y 4096)) with
      | false => rw [hz, hc] at h; (first | exact no_some h | cases h)
      | true =>
        rw [hz, hc] at h; (first | exact no_some h | cases h)
        simp only [Bool.and_eq_true] at hc
        have c1 := Nat.le_of_ble_eq_true hc.1
        have c2 : x.natAbs + 1 ≤ 200000 := Nat.le_of_ble_eq_true hc.2.1
        have c3 : y.natAbs + 1 ≤ 4096 := Nat.le_of_ble_eq_true hc.2.2
        exact F3 C B k _ μ _ μ (e_f3 (by omega) (fun q => by rw [isZ_eq.mpr q] at hz; (first | exact no_some hz | cases hz)) (by omega) (by omega)) W vals A ao I V Q hQ
  · rename_i x c y
    cases hz : isZ y with
    | true => rw [hz] at h; (first | exact no_some h | cases h)
    | false =>
      cases hc : (Nat.blt μ.next 900 && (ltN x 100 && (ltN c 1000 && ltN y 4096))) with
      | false => rw [hz, hc] at h; (first | exact no_some h | cases h)
      | true =>
        cases hm : isZ (x.fmod y) with
        | false => rw [hz, hc, hm] at h; (first | exact no_some h | cases h)
        | true =>
          rw [hz, hc, hm] at h; (first | exact no_some h | cases h)
          simp only [Bool.and_eq_true] at hc
          have c1 := Nat.le_of_ble_eq_true hc.1
          have c2 : x.natAbs + 1 ≤ 100 := Nat.le_of_ble_eq_true hc.2.1
          have c3 : c.natAbs + 1 ≤ 1000 := Nat.le_of_ble_eq_true hc.2.2.1
          have c4 : y.natAbs + 1 ≤ 4096 := Nat.le_of_ble_eq_true hc.2.2.2
          have hy : y ≠ 0 := fun q => by rw [isZ_eq.mpr q] at hz; (first | exact no_some hz | cases hz)
          have hb : (x * C.Q + c).natAbs < 262144 := by
            have h1 := Int.natAbs_add_le (x * C.Q) c
            rw [Int.natAbs_mul] at h1
            have h2 := Nat.mul_le_mul (show x.natAbs ≤ 99 from by omega) B.qb
            omega
          refine V.consE fun px pvs V1 Vs => ?_
          refine V1.linE fun t => ?_
          refine F3 C B k [.int (x * C.Q + c), .int y] μ (dm (x * C.Q + c) y) μ (e_f3 hb hy (by omega) (by omega)) W _ A ao I (.cons _ _ _ _ (.int _ t) Vs) Q fun W' pv x' I' V' => hQ W' pv x' I' ?_
          unfold dm at V'
          rw [fdiv_lin hy (isZ_eq.mp hm), fmod_lin (isZ_eq.mp hm)] at V'
          refine V'.tupE fun a its n e hρ hM hs => ?_
          refine .tup _ a its n e hρ hM ?_
          generalize its.toList = l at hs ⊢
          cases hs with
          | cons _ v1 _ vs h1 hs =>
          cases h1 with
          | int _ t1 => exact .cons _ _ _ _ (VR.mkLin _ _ t1) hs
  · (first | exact no_some h | cases h)
end Mine
end
section
open PySem PySem.W PyProof.Rows PySem.Calls PySem.SeqAt PySem.F
set_option maxRecDepth 100000
namespace Mine
noncomputable def digS : List (List Nat) := ([48, 49, 50, 51, 52, 53, 54, 55, 56, 57] : List Nat).map (fun c => [49, c])
noncomputable def okD : List Nat → Bool
  | [c, d] => okS [c, d]
  | _ => false
theorem okD_mem {l : List Nat} (h : okD l = true) : l ∈ digS := by
  unfold okD at h
  split at h
  · rename_i c d
    have h' : (Nat.beq c 49 && (Nat.ble 48 d && Nat.ble d 57)) = true := h
    rw [Bool.and_eq_true] at h'
    have e := Nat.eq_of_beq_eq_true h'.1
    subst e
    have hd : d < 58 := by have := h'.2; rw [Bool.and_eq_true] at this; have := Nat.le_of_ble_eq_true this.2; omega
    have q : ((List.range 58).all fun c => !(Nat.ble 48 c && Nat.ble c 57) || decide ([49, c] ∈ digS)) = true := by decide +kernel
    have := List.all_eq_true.mp q d (List.mem_range.mpr hd)
    rw [h'.2] at this
    simpa using this
  · (first | exact no_some h | cases h)
noncomputable def numD : List Nat → Int
  | [_, d] => .ofNat (d - 38)
  | _ => 0
theorem dig_strip : (digS.all fun l => decide ((Txt.rstrip ⟨l.toArray⟩).cps.toList = l)) = true := by decide +kernel
theorem dig_cuts : (digS.all fun l => (Builtin.Str.occurrences ⟨l.toArray⟩ ⟨#[95]⟩ 0 (Str.length ⟨l.toArray⟩) (Str.length ⟨l.toArray⟩ + 1)).isEmpty) = true := by decide +kernel
theorem dig_int : (digS.all fun l => decide (PySem.intText? ⟨l.toArray⟩ = some (numD l)) && decide (Str.length ⟨l.toArray⟩ = 2)) = true := by decide +kernel
noncomputable def mRstrip : List MV → MH → Option (MV × MH) := fun a μ => match a with
  | [.str l] => bif okD l then some (.str l, μ) else none
  | _ => none
noncomputable def mRepl : List MV → MH → Option (MV × MH) := fun a μ => match a with
  | [.str l, .str m, .str []] => bif eqL m [95] then bif okD l then some (.str l, μ) else none else none
  | _ => none
noncomputable def bInt : List MV → MH → Option (MV × MH) := fun a μ => match a with
  | [.str l] => bif okD l then some (.int (numD l), μ) else none
  | _ => none
section
variable {C : Cst} {D : Fd} {k : Nat}
theorem sf_rstrip : SimF1 C (.builtin "str.rstrip") mRstrip := by
  intro args μ v μ' h W vals A ao I V Q hQ
  unfold mRstrip at h
  split at h
  · rename_i l
    cases hl : okD l with
    | false => rw [hl] at h; (first | exact no_some h | cases h)
    | true =>
      rw [hl] at h; (first | exact no_some h | cases h)
      have q := of_decide_eq_true (List.all_eq_true.mp dig_strip l (okD_mem hl))
      have q2 := (Bool.and_eq_true_iff.mp (List.all_eq_true.mp dig_int l (okD_mem hl))).2
      refine V.consE fun pv pvs V Vs => ?_
      refine Vs.nilE ?_
      refine V.strE fun s t hs => ?_
      rw [str_of hs]
      exact SC.rstrip (fun t' k => hQ.str I q t' k) (by rw [of_decide_eq_true q2, sizeLine_eq]; decide)
  · (first | exact no_some h | cases h)
theorem sf_replace : SimF1 C (.builtin "str.replace") mRepl := by
  intro args μ v μ' h W vals A ao I V Q hQ
  unfold mRepl at h
  split at h
  · rename_i l m
    cases hm : eqL m [95] with
    | false => rw [hm] at h; (first | exact no_some h | cases h)
    | true =>
      cases hl : okD l with
      | false => rw [hm, hl] at h; (first | exact no_some h | cases h)
      | true =>
        rw [hm, hl] at h; (first | exact no_some h | cases h)
        rw [eqL_eq] at hm
        have em := of_decide_eq_true hm
        subst em
        have q := List.all_eq_true.mp dig_cuts l (okD_mem hl)
        refine V.consE fun pv pvs V Vs => ?_
        refine Vs.consE fun pw pws V2 Vs => ?_
        refine Vs.consE fun pu pus V3 Vs => ?_
        refine Vs.nilE ?_
        refine V.strE fun s t hs => ?_
        refine V2.strE fun s2 t2 hs2 => ?_
        refine V3.strE fun s3 t3 hs3 => ?_
        rw [str_of hs, str_of hs2]
        have hc : ((Builtin.Str.occurrences ⟨l.toArray⟩ ⟨#[95]⟩ 0 (Str.length ⟨l.toArray⟩) (Str.length ⟨l.toArray⟩ + 1)).isEmpty || (Str.length ⟨#[95]⟩ == 0 && s3.length == 0)) = true := by rw [q]; rfl
        refine call_gives F.slot_str_replace (typeIs_str _ _ _) F.entry_str_replace (F.args_str_replace_3 _ _ _) (gives_str_replace ⟨l.toArray⟩ ⟨#[95]⟩ s3 t t2 t3 (fun hf => by rw [hc] at hf; (first | exact no_some hf | cases hf))) ?_
        rw [if_pos hc]
        exact hQ W _ (Ext.refl _ _) I (.str l _ t (by simp))
  · (first | exact no_some h | cases h)
theorem sf_int : SimF1 C (.type "int") bInt := by
  intro args μ v μ' h W vals A ao I V Q hQ
  unfold bInt at h
  split at h
  · rename_i l
    cases hl : okD l with
    | false => rw [hl] at h; (first | exact no_some h | cases h)
    | true =>
      rw [hl] at h; (first | exact no_some h | cases h)
      have q := Bool.and_eq_true_iff.mp (List.all_eq_true.mp dig_int l (okD_mem hl))
      refine V.consE fun pv pvs V Vs => ?_
      refine Vs.nilE ?_
      refine V.strE fun s t hs => ?_
      rw [str_of hs]
      exact KIN.call_text (of_decide_eq_true q.1) (by rw [of_decide_eq_true q.2]; decide) (hQ.int I _ _)
  · (first | exact no_some h | cases h)
noncomputable def cSliceS (a : Ev) (lo hi : Ep) : Ev := fun ls μ => match a ls μ with
  | some (.str l, μ₁) => match lo ls μ₁ with
    | some (some (.ofNat 0), μ₂) => match hi ls μ₂ with
      | some (some (.ofNat 2), μ₃) => bif okD l then some (.str l, μ₃) else none
      | _ => none
    | _ => none
  | _ => none
theorem dig_pick : (digS.all fun l => (Builtin.Str.strSliceIndices (some 0) (some 2) 1 (Str.length ⟨l.toArray⟩)).length == Str.length ⟨l.toArray⟩) = true := by decide +kernel
theorem sim_sliceS {value : Expr} {lo hi : Expr} {a : Ev} {l h : Ep} (p pos : Pos) (ha : SimE C D k value a) (hl : SimP C D k (some lo) l) (hh : SimP C D k (some hi) h) : SimE C D k (.Subscript value (.Slice (some lo) (some hi) none p) pos) (cSliceS a l h) := by
  intro ls μ v μ' hc W env O A eo ao I F Q hQ
  unfold cSliceS at hc
  split at hc
  · rename_i x μ₁ h1
    split at hc
    · rename_i μ₂ h2
      split at hc
      · rename_i μ₃ h3
        cases hd : okD x with
        | false => rw [hd] at hc; (first | exact no_some hc | cases hc)
        | true =>
          rw [hd, cond_true] at hc; (first | exact no_some hc | cases hc)
          refine Subscript_ (ha ls μ _ μ₁ h1 W env O A eo ao I F _ fun W₁ px x₁ I₁ V₁ => ?_)
          refine wpAny_Slice (hl ls μ₁ _ μ₂ h2 W₁ env O A eo ao I₁ (F.mono I x₁) _ fun W₂ pl x₂ I₂ P₂ => ?_)
          refine hh ls μ₂ _ _ h3 W₂ env O A eo ao I₂ ((F.mono I x₁).mono I₁ x₂) _ fun W₃ ph x₃ I₃ P₃ => ?_
          rw [evalPart_none]
          refine wpAny_pure ?_
          refine V₁.strE fun s t hs => ?_
          cases P₂ with
          | int _ t2 =>
          cases P₃ with
          | int _ t3 =>
          refine tail_any (T := "str") (typeIs_str _ s t) PySem.F.slot_str_getitem.lookup ?_ rfl
          have q := List.all_eq_true.mp dig_pick x (okD_mem hd)
          rw [str_of hs]
          have kk := push_keep W₃.h { cls := .type "slice", data := .fields #[.int (Int.ofNat 0) t2, .int (Int.ofNat 2) t3, .none] }
          refine wpAny_getItem_str_slice (l := some (Int.ofNat 0, t2)) (u := some (Int.ofNat 2, t3)) (st := none) ⟨_, Heap.get?_push_size _ rfl, rfl, rfl⟩ rfl ?_
          unfold sliceMade
          rw [if_pos (by simp only [Option.map_none, Option.getD_none, Bool.and_eq_true]; exact ⟨rfl, q⟩)]
          exact Says.keep I₃ (((hQ.step x₁).step x₂).step x₃) kk rfl rfl (.str x _ t (by simp))
      · (first | exact no_some hc | cases hc)
    · (first | exact no_some hc | cases hc)
  · (first | exact no_some hc | cases hc)
end
end Mine
end
section
open PySem PySem.W PyProof.Rows PySem.Calls PySem.SeqAt PySem.F
set_option maxRecDepth 100000
namespace Mine
theorem noBool_set : typeLookup (.type "set") "__bool__" = pure none := by rw [typeLookup_type, builtinLookup_eq_fast]; kernel_rfl
section
variable {prog : Program} {w : World} {A : Around} {E : Value → Shared → Prop} {s : Shared} {S : Int → Bool} {n : Nat} {a : Addr}
theorem set_truth {Q : Bool → Shared → Prop} (hS : s.heap.SetOf (intKind prog w) a S n) (hn : n ≤ 1) (h : Q (n != 0) { s with toks := s.toks + 1 + 1 }) : wpAny (model prog w) A (truthy (.ref a)) Q E s := by
  have hT := Heap.SetOf.typeIs hS
  refine ex4_8 hS fun o es ep t ho hex hd hel hmem hb hf hsz => ?_
  clear hS
  have key : wpAny (model prog w) A (runValue (.builtin "len" ⟨[.ref a], []⟩)) (fun r s' => r = .int n (s.toks + 1) ∧ Q (n != 0) s') E s := by
    refine wpAny_runValue (codeAny_builtin entry_len ?_)
    rw [Around.under_plainId plain_len _]
    exact wpAny_mono (wpAny_len_body_set (Q := fun r s' => r = .int n (s.toks + 1) ∧ Q (n != 0) s') ho hex hd hf (by omega) ⟨by rw [hsz], h⟩)
      (fun fin s' h' => by obtain ⟨r, rfl, hq⟩ := h'; exact hq) fun _ _ e => e
  have hne : ((n : Int) != 0) = (n != 0) := by
    match n, hn with
    | 0, _ => rfl
    | 1, _ => rfl
  unfold truthy
  first
    | refine wpAny_bind (wpAny_callSpecial?_none (name := Str.ofString "__bool__") hT noBool_set ?_)
    | refine wpAny_bind (wpAny_pure (wpAny_bind (wpAny_callSpecial?_none (name := Str.ofString "__bool__") hT noBool_set ?_)))
  first
    | refine wpAny_bind (wpAny_specialOf (name := Str.ofString "__len__") hT F.slot_set_len.lookup ?_)
    | refine wpAny_bind (wpAny_pure (wpAny_bind (wpAny_specialOf (name := Str.ofString "__len__") hT F.slot_set_len.lookup ?_)))
  first
    | exact wpAny_bind (wpAny_mono key (fun r s' h' => by obtain ⟨rfl, hq⟩ := h'; exact wpAny_pure (hne ▸ hq)) fun _ _ e => e)
    | exact wpAny_bind (wpAny_pure (wpAny_bind (wpAny_mono key (fun r s' h' => by obtain ⟨rfl, hq⟩ := h'; exact wpAny_pure (hne ▸ hq)) fun _ _ e => e)))
theorem choose_one {M : Model} {src : Source} {Q : Nat → Shared → Prop} (h : ∀ d, Q 0 { s with drawn := d }) : wpAny M A (choose src 1) Q E s := fun Γ p hΓ => by
  show Sem.wp M Γ (.choose src 1 .pure) _ _ _ _
  rw [Sem.wp_choose]
  refine ⟨by decide, ?_⟩
  rw [Nat.mod_one]
  exact h _
theorem erase_size {α : Type} {xs : Array α} (h : xs.size = 1) : (SetTable.eraseAt xs 0).size = 0 := by
  unfold SetTable.eraseAt; simp [h]
theorem insert_size {α : Type} (xs : Array α) (p : Nat) (x : α) : (SetTable.insertAt xs p x).size = xs.size + 1 := by
  have := (SetTable.insertAt_perm xs p x).length_eq
  simpa using this
theorem popped_fits {t : SetTable} (h : t.fits 1 = true) : (t.popped 0).fits 0 = true := by
  simp only [SetTable.fits, Bool.and_eq_true, beq_iff_eq, decide_eq_true_eq] at h ⊢
  unfold SetTable.popped SetTable.drop
  cases q : t.place[0]? with
  | none =>
    have : t.place.size ≤ 0 := Array.getElem?_eq_none_iff.mp q
    omega
  | some j =>
    simp only
    have h2 := h.2
    unfold SetTable.fill at h2 ⊢
    refine ⟨erase_size h.1, ?_⟩
    simp only [erase_size h.1, insert_size]
    have : t.place.size = 1 := h.1
    show 0 + (t.dummies.size + 1) ≤ t.mask
    omega
theorem set_pop {k : Int} {Q : Value → Shared → Prop} (hS : s.heap.SetOf (intKind prog w) a (fun x => decide (x = k)) 1) (h : ∀ t h' d, Heap.SameBut a s.heap h' → h'.SetOf (intKind prog w) a (fun _ => false) 0 → Q (.int k t) { s with heap := h', drawn := d }) :
    wpAny (model prog w) A (call (.builtin "set.pop") [.ref a]) Q E s := by
  have hT := Heap.SetOf.typeIs hS
  refine ex4_8 hS fun o es ep t ho hex hd hel hmem hb hf hsz => ?_
  clear hS
  refine wpAny_call_entry F.slot_set_pop hT F.entry_set_pop ?_ (F.args_set_pop_1 _)
  unfold Builtin.«set.pop»
  refine wpAny_bind (m := Builtin.Frozenset.noArgs "pop" _) (wpAny_pure ?_)
  unfold setPop
  refine wpAny_bind (wpAny_bind (wpAny_setState_of ho hd hf ?_))
  dsimp only
  have hpl : t.place.size = 1 := by
    simp only [SetTable.fits, Bool.and_eq_true, beq_iff_eq, decide_eq_true_eq] at hf
    omega
  have hpop : t.popPlace = some 0 := by
    unfold SetTable.popPlace
    rw [if_neg (by simp [Array.isEmpty, hpl])]
    simp only [hpl]
    split
    · rename_i q; congr 1; omega
    · rfl
  have hes : ∃ h0 x, es[0]? = some (h0, x) := ⟨_, _, Array.getElem?_eq_getElem (by omega)⟩
  obtain ⟨h0, x, hx⟩ := hes
  have hmx : (h0, x) ∈ es.toList := List.mem_of_getElem? (by rw [Array.getElem?_toList]; exact hx)
  obtain ⟨⟨k', hk', _⟩, _⟩ := hel (h0, x) hmx
  have ek : k' = k := of_decide_eq_true ((hmem k').mpr ⟨(h0, x), hmx, hk'⟩)
  subst ek
  have hxi : ∃ t, x = .int k' t := by
    cases x with
    | int i t =>
      have : (i == k') = true := hk'
      exact ⟨t, by rw [beq_iff_eq.mp this]⟩
    | _ => (first | exact no_some hk' | cases hk')
  obtain ⟨tx, rfl⟩ := hxi
  rw [hpop]
  dsimp only
  have fin : ∀ d, wpAny (model prog w) A.in1 (match es[0]? with
      | some (_, x) => do
        storeSet a (SetTable.eraseAt es 0) (t.popped 0)
        pure (some x)
      | _ => unsupported "internal:set.pop") (fun r s' => wpAny (model prog w) A.in1 (match r with
        | some x => ret x
        | _ => do
          rule "set.pop.empty"
          raiseErrorWords "KeyError" "pop from an empty set") (fun fin s' => ∃ v, fin = Fin.done (Flow.ret v) ∧ Q v s') E s') E { s with drawn := d } := by
    intro d
    rw [hx]
    have hz : (SetTable.eraseAt es 0).size = 0 := erase_size hsz
    refine wpAny_bind (wpAny_storeSet_of ho hd ?_ (by rw [hz]; exact Nat.zero_le _))
    refine wpAny_pure (wpAny_pure ⟨_, rfl, ?_⟩)
    have hz2 : (SetTable.eraseAt es 0).toList = [] := List.length_eq_zero_iff.mp (by rw [Array.length_toList]; exact hz)
    have st := SetOf_store (knd := intKind prog w) (S' := fun _ => false) (es' := SetTable.eraseAt es 0) (t' := t.popped 0) ho hex hd (by rw [hz2]; exact fun e he => nomatch he) (fun k => by rw [hz2]; simp) (by rw [hz]; decide) (by rw [hz]; exact popped_fits (by rw [← hsz]; exact hf))
    rw [hz] at st
    exact h _ _ _ (Heap.SameBut.update ..) st.2
  refine wpAny_bind ?_
  unfold setsByText
  refine wpAny_bind (wpAny_askSetting (wpAny_pure ?_))
  dsimp only
  split
  · refine wpAny_bind ?_
    rw [hsz]
    exact choose_one fin
  · refine wpAny_bind (wpAny_of_eq (a := ()) ?_ ?_)
    · show ite _ _ _ = _
      rw [if_neg (by rw [hsz]; simp)]
    · refine wpAny_bind (wpAny_pure ?_)
      exact fin s.drawn
end
end Mine
end
section
open PySem PySem.W PyProof.Rows PySem.Calls PySem.SeqAt PySem.F
set_option maxRecDepth 100000
namespace Mine
noncomputable def D_cp : Fd := ⟨(tD 8).2.2, [], some (94, "compute_powers.<locals>.")⟩
noncomputable def cpLs : Locs := [(18, .int 2), (19, .int 5), (20, .int 2048), (21, .bool false)]
theorem cp_parts {P : Prop} (kk : ∀ p1 q1 r1 t1 p2 q2 r2 t2 p3 q3 r3 t3 p4 p5 q5 a5 r5 t5 p6 q6 r6 p6' q6' r6' t6 p7 q7 wrest p8 p10 d10 t10 p9 q9 p11 q11 r9 rest,
    (tD 8).2.1 = .Assign [.Name (nm 22) p1] (.Call (.Name "set" q1) [] [] r1) t1 :: .Assign [.Name (nm 23) p2] (.Call (.Name "set" q2) [] [] r2) t2 :: .Assign [.Name (nm 24) p3] (.Set [.Name (nm 18) q3] 0 r3) t3 ::
      .While (.Name (nm 24) p4) (.Assign [.Name (nm 18) p5] (.Call (.Attribute (.Name (nm 24) q5) "pop" a5) [] [] r5) t5 :: .If (.BoolOp .Or [.Compare (.Name (nm 18) p6) [.In] [.Name (nm 22) q6] r6, .Compare (.Name (nm 18) p6') [.LtE] [.Name (nm 20) q6'] r6'] t6) [.Continue p7] [] q7 :: wrest) [] p8 ::
      .Assign [.Name (nm 25) p10] (.Dict [] [] d10) t10 :: .If (.UnaryOp .Not (.Name (nm 23) p9) q9) [.Return (some (.Name (nm 25) p11)) q11] [] r9 :: rest → (a5.endLine == r5.line) = true → P) : P :=
  kk _ _ _ _ _ _ _ _ _ _ _ _ _ _ _ _ _ _ _ _ _ _ _ _ _ _ _ _ _ _ _ _ _ _ _ _ _ _ rfl rfl
section
variable {C : Cst} {W W' : Wd} {μ : MH} {A : Around} {env : Env} {D : Fd} {O : List Addr} {ls : Locs}
noncomputable def SetImm (C : Cst) (W : Wd) (a : Addr) : Prop := ∃ o, W.h.get? a = some o ∧ o.SetObjOf (intKind P0 C.w) (fun _ => false) 0 ∧ a ∉ W.ρ ∧ a ∉ W.M
theorem SetImm.wk (x : Wk W W') {a : Addr} (h : SetImm C W a) : SetImm C W' a := by
  refine ex1_4 h fun o h1 h2 h3 h4 => ?_
  refine ex0_3 (x.imm a o h1 (by rw [h2.1.1]; exact fun e => nomatch e) h3 h4) fun z1 z2 z3 => ?_
  exact ⟨o, z1, h2, z2, z3⟩
theorem SetImm.at {a : Addr} (h : SetImm C W a) : W.s.heap.SetOf (intKind P0 C.w) a (fun _ => false) 0 := by
  refine ex1_4 h fun o h1 h2 h3 h4 => ?_
  exact h2.setOf h1 (by decide)
theorem new_set {q r : Pos} {Q : Value → Shared → Prop} (hx : Fix C D (.Name "set" q) (.type "set")) (eo : EnvOk D env) (I : Inv C W μ)
    (hQ : ∀ W' a, Ext [] W W' → Inv C W' μ → SetImm C W' a → Q (.ref a) W'.s) : wpAny (model P0 C.w) A (eval (.Call (.Name "set" q) [] [] r) env) Q NoE W.s := by
  refine wpAny_Call_NameR (hx W μ env A eo I _ ?_)
  refine PyProof.Rows.callWith_type rfl (evalArgs_nil3 (call_set_0 fun led => ?_))
  refine ex0_2 (I.keepX (s := { W.s with heap := W.s.heap.push { cls := .type "set", dict := none, data := .set #[] 0 (.fresh 0 0 led) } }) (push_keep _ _) I.gens rfl) fun x I' => ?_
  exact hQ _ _ x I' ⟨_, Heap.get?_push_size _ rfl, setObjOf_fresh led, I.new.2.1, I.new.2.2⟩
structure WsAt (C : Cst) (W : Wd) (O : List Addr) (a : Addr) (n : Nat) : Prop where
  M : a ∈ W.M
  nO : a ∉ O
  s : W.s.heap.SetOf (intKind P0 C.w) a (fun x => decide (x = 2 ∧ n = 1)) n
theorem WsAt.ext {a : Addr} {n : Nat} (I : Inv C W μ) (x : Ext O W W') (h : WsAt C W O a n) : WsAt C W' O a n := by
  refine ex1_2 h.s.objOf fun o h1 h2 => ?_
  have hn : n < scanBound := let ⟨_, es, _, _, _, _, _, _, _, hb, _, e⟩ := h.s; e ▸ hb
  exact ⟨x.subM _ h.M, h.nO, h2.setOf (x.fr a o h1 (.inr h.M) (I.freshM a h.M).2.2 h.nO) hn⟩
end
end Mine
end
section
open PySem PySem.W PyProof.Rows PySem.Calls PySem.SeqAt PySem.F
set_option maxRecDepth 100000
namespace Mine
section
variable {C : Cst} {W : Wd} {μ : MH} {A : Around} {env : Env}
theorem fun_callA {k : Nat} {a : Addr} {o : Obj} {fd : FuncData} {body : List Stmt} {R : Value → Shared → Prop} (B : Basis C) (ar : Args) (own : List Nat) (co : Option (Addr × Str)) (ns : List Nat) (ms : List MV) (vals : List Value)
    (hK : (K C.w.params).lookup a = some o) (hd : o.data = .func fd) (hcr : ∃ c oc vs t, fd.code = .ref c ∧ (K C.w.params).lookup c = some oc ∧ oc.data = .fields vs ∧ vs[1]? = some (.str fd.qualname t))
    (hbody : fd.body = .stmts body) (hg : fd.globals = mainGlobals) (hcl : fd.closure = []) (hbu : fd.builtins = builtinsNs) (hco : fd.scope.isCoroutine = false) (hgen : fd.scope.isGenerator = false) (hk : fd.scope.kind = .function)
    (how : ∀ n ∈ own, fd.scope.names.lookup (nm n) = some .cell) (hns : ∀ n ∈ ns, n < nmC ∧ Sto ⟨fd.scope, own, co⟩ n = true) (hbind : BindsTo W.s fd ar ((ns.map nm).zip vals)) (hco' : ∀ p, co = some p → fd.code = .ref p.1 ∧ fd.qualname ++ Str.ofString ".<locals>." = p.2)
    (ao : AOk (k + 1) A) (I : Inv C W μ) (V : VRs C.Q W.h W.ρ W.M ms vals)
    (h : ∀ env O W', EnvOk ⟨fd.scope, own, co⟩ env → Ext [] W W' → (∀ a ∈ O, W.h.get? a = none) → Inv C W' μ → FrOk C W' env own O (bnd ns ms []) → AOk k (A.deeper env) →
      wpAny (model P0 C.w) (A.deeper env) (execs body env) (fun f s' => R (match f with | .ret v => v | _ => .none) s') NoE W'.s) :
    codeAny (model P0 C.w) A (.call (.ref a) ar) (fun r s' => match r with | .ok (.ret v) => R v s' | .ok _ => False | .error e => NoE e s') W.s := by
  have KK := I.K B
  have hcd : W.s.heap.CodeRec fd.code fd.qualname := by
    refine ex4_4 hcr fun c oc vs t h1 h2 h3 h4 => ?_
    exact ⟨c, oc, vs, t, h1, KK c oc h2, h3, h4⟩
  refine (codeAny_call_function (fd := fd) (by have := ao.dep; unfold recursionLimit; omega) (KK a o hK) hd hco hgen hbody hcd (hbind _ _ _ _ ?_))
  rw [hg, hcl, hbu]
  refine up (sim_newEnv B own co hco' hk how ns ms vals hns I V (Q := fun env s₂ => s₂.heap.NoLimit ∧ codeAny (model P0 C.w) A (.func body env) _ s₂) ?_)
  intro env O W₁ he eo x₁ hf I₁ F₁
  refine ⟨I₁.lim, codeAny_func ?_⟩
  have ao' : AOk k (A.deeper env) := ⟨ao.hd, by show A.depth + 1 + 4 * k + 4 < 990; have := ao.dep; omega, by show A.units + 3 + 64 * k + 1000 < 9900; have := ao.un; omega⟩
  refine up ?_
  exact h env O W₁ eo x₁ hf I₁ F₁ ao'
structure Kn (C : Cst) (W : Wd) (μ : MH) (env : Env) (m : Str → Option Value) : Prop where
  I : Inv C W μ
  LM : env.locals ∈ W.M
  ns : W.h.Ns env.locals m
theorem Kn.step {W' : Wd} {μ' : MH} {m : Str → Option Value} (k : Kn C W μ env m) (x : Ext [] W W') (I' : Inv C W' μ') : Kn C W' μ' env m :=
  let ⟨o, es, ep, h, r⟩ := k.ns; ⟨I', x.subM _ k.LM, o, es, ep, k.I.mine x k.LM h, r⟩
theorem Kn.store {m : Str → Option Value} {x : Str} {pv : Value} {Q : Unit → Shared → Prop} (B : Basis C) (eo : EnvOk D_cp env) (k : Kn C W μ env m) (hl : D_cp.sc.names.lookup x = some .local)
    (hQ : ∀ W', Ext [env.locals] W W' → Kn C W' μ env (fun y => if y = x then some pv else m y) → Q () W'.s) : wpAny (model P0 C.w) A (storeName env x pv) Q NoE W.s := by
  have hkf : env.scope.kind = .function := by rw [eo.is]; exact eo.kind
  refine wpAny_storeName_local (by unfold Env.kindOf; rw [eo.is]; exact hl) k.ns (fun h' hn' hsb => ?_) (by rw [hkf]; rfl)
  have hn0 := hn'
  refine ex3_2 hn' fun o' es ep ho' r => ?_
  exact hQ (W.at { W.s with heap := h', toks := W.s.toks + 1 }) (Ext.own (.head _) hsb ho') ⟨Inv.turnM B k.I k.LM hsb ho' rfl rfl, k.LM, hn0⟩
theorem Kn.load {m : Str → Option Value} {x : Str} {pv : Value} {pos : Pos} {Q : Value → Shared → Prop} (eo : EnvOk D_cp env) (k : Kn C W μ env m) (hl : D_cp.sc.names.lookup x = some .local) (hd : (x == ("__debug__" : Str)) = false) (hv : m x = some pv) (hQ : Q pv W.s) : wpAny (model P0 C.w) A (eval (.Name x pos) env) Q NoE W.s :=
  wpAny_Name (wpAny_loadName_local (by rw [eo.is]; exact eo.kind) (by unfold Env.kindOf; rw [eo.is]; exact hl) k.ns hv hQ) hd
theorem kn_M {m : Str → Option Value} (k : Kn C W μ env m) : ∀ b ∈ [env.locals], b ∈ W.M := fun b hb => by rw [List.mem_singleton.mp hb]; exact k.LM
theorem ws_make {m : Str → Option Value} {q r : Pos} {t : Tok} {Q : Value → Shared → Prop} (B : Basis C) (eo : EnvOk D_cp env) (k : Kn C W μ env m) (hw : m (nm 18) = some (.int 2 t))
    (hQ : ∀ W' a, Ext [env.locals] W W' → W.h.get? a = none → Kn C W' μ env m → WsAt C W' [env.locals] a 1 → Q (.ref a) W'.s) : wpAny (model P0 C.w) A (eval (.Set [.Name (nm 18) q] 0 r) env) Q NoE W.s := by
  rw [arm_eval_Set]
  refine wpAny_bind (wpAny_standAt ?_)
  refine wpAny_bind (kds_main (K := K C.w.params) (k.I.K B) (by rw [(eo.co _ rfl).1]; rfl) fun b => ?_)
  rw [kds_star _ rfl, List.map_map]
  refine kds_core (ts := (evalEach [.Name (nm 18) q] env).map fun t => do let v ← t; standAt r; pure v) rfl ?_ ?_ ?_ fun led => ?_
  · refine List.findIdx?_eq_none_iff.mpr fun x hx => ?_
    refine ex1_2 (List.mem_map.mp hx) fun t _ eqq2 => ?_; subst eqq2
    rfl
  · rw [List.length_map, kds_len]; simp
  · rw [List.map_map]; rfl
  · have I := k.I
    have hnew : W.h.get? W.h.objs.size = none := nofresh _
    have hf : ∀ a ∈ [W.h.objs.size], W.h.get? a = none := fun a ha => by rw [List.mem_singleton.mp ha]; exact hnew
    have kk := push_keep W.h { cls := .type "set", dict := none, data := .set #[] 0 (.fresh 0 0 led) }
    have x₁ : Ext [] W (W.hid { W.s with heap := W.h.push { cls := .type "set", dict := none, data := .set #[] 0 (.fresh 0 0 led) } } [W.h.objs.size]) := Ext.hid [] kk hf
    have I₁ := I.hid (s := { W.s with heap := W.h.push { cls := .type "set", dict := none, data := .set #[] 0 (.fresh 0 0 led) } }) kk hf (fun a ha => by rw [List.mem_singleton.mp ha]; exact ⟨_, Heap.get?_push_size _ rfl⟩) I.gens rfl
    have k₁ := k.step x₁ I₁
    have hS : (W.h.push { cls := .type "set", dict := none, data := .set #[] 0 (.fresh 0 0 led) }).SetOf (intKind P0 C.w) W.h.objs.size (fun _ => false) 0 := (setObjOf_fresh led).setOf (Heap.get?_push_size _ rfl) (by decide)
    have hLa : env.locals ≠ W.h.objs.size := fun q => by refine ex3_2 k.ns fun o _ _ h _ => ?_; rw [q, hnew] at h; (first | exact no_some h | cases h)
    refine kds_all r [.Name (nm 18) q] _ _ ?_
    show wpAny (model P0 C.w) A (eval (.Name (nm 18) q) env) _ NoE _
    refine k₁.load eo rfl rfl hw ?_
    have haM : W.h.objs.size ∈ (W.hid { W.s with heap := W.h.push { cls := .type "set", dict := none, data := .set #[] 0 (.fresh 0 0 led) } } [W.h.objs.size]).M := List.mem_append_left _ (.head _)
    refine kds_fill_cons ?_
    unfold setAdd
    refine wpAny_holding (wpAny_bind ((intKind P0 C.w).pyHash (k := 2) rfl ?_))
    refine wpAny_setAddHashed_of (knd := intKind P0 C.w) (k := (2 : Int)) rfl rfl (s := { W.s with heap := W.h.push { cls := .type "set", dict := none, data := .set #[] 0 (.fresh 0 0 led) }, toks := W.s.toks + 1 }) hS (by decide) fun h' hsb hS' => ?_
    refine ex1_2 hS'.objOf fun o' ho' _ => ?_
    have x₃ : Ext [W.h.objs.size] (W.hid { W.s with heap := W.h.push { cls := .type "set", dict := none, data := .set #[] 0 (.fresh 0 0 led) } } [W.h.objs.size]) ((W.hid { W.s with heap := W.h.push { cls := .type "set", dict := none, data := .set #[] 0 (.fresh 0 0 led) } } [W.h.objs.size]).at { W.s with heap := h', toks := W.s.toks + 1 }) := Ext.own (.head _) hsb ho'
    have I₃ := Inv.turnM B I₁ (s := { W.s with heap := h', toks := W.s.toks + 1 }) haM hsb ho' rfl rfl
    have X := Ext.dropA (x₁.lift (O := [env.locals])) x₃ hnew
    refine kds_fill_nil rfl (hQ _ _ X hnew ⟨I₃, k₁.LM, ?_⟩ ⟨haM, fun q => hLa (List.mem_singleton.mp q).symm, ?_⟩)
    · exact k₁.ns.sameBut hsb hLa
    · refine SetOf_congr hS' (fun x => ?_) rfl
      simp
theorem ws_pop {m : Str → Option Value} {a : Addr} {q5 a5 r5 : Pos} {Q : Value → Shared → Prop} (B : Basis C) (eo : EnvOk D_cp env) (k : Kn C W μ env m) (hline : (a5.endLine == r5.line) = true) (hv : m (nm 24) = some (.ref a)) (ws : WsAt C W [env.locals] a 1)
    (hQ : ∀ W' t, Ext [a] W W' → Kn C W' μ env m → WsAt C W' [env.locals] a 0 → Q (.int 2 t) W'.s) : wpAny (model P0 C.w) A (eval (.Call (.Attribute (.Name (nm 24) q5) "pop" a5) [] [] r5) env) Q NoE W.s := by
  refine ex1_2 ws.s.objOf fun o ho hso => ?_
  refine wpAny_Call_method0_late rfl hline (k.load eo rfl rfl hv ?_)
  refine ⟨"set", "set.pop", PySem.F.plainAttrs_set, PySem.F.slot_set_pop, PySem.F.type_set_pop, ⟨o, ho, hso.1.1⟩, (fun b e => by cases e; exact ⟨o, ho, hso.1.2.1⟩), ?_⟩
  refine callWith_builtin rfl (evalArgs_nil3 ?_)
  refine set_pop (k := 2) (SetOf_congr ws.s (fun x => by simp) rfl) fun t h' d hsb hS' => ?_
  refine ex1_2 hS'.objOf fun o' ho' _ => ?_
  have hLa : env.locals ≠ a := fun q => ws.nO (by rw [q]; exact .head _)
  exact hQ (W.at { W.s with heap := h', drawn := d }) t (Ext.own (.head _) hsb ho') ⟨Inv.turnM B k.I ws.M hsb ho' rfl rfl, k.LM, k.ns.sameBut hsb hLa⟩ ⟨ws.M, ws.nO, SetOf_congr hS' (fun x => by simp) rfl⟩
theorem hns_cp : ∀ n ∈ [18, 19, 20, 21], n < nmC ∧ Sto D_cp n = true := by decide +kernel
theorem nm_ne {a b : Nat} (h : a ≠ b) (ha : a < nmC) (hb : b < nmC) : nm a ≠ nm b := fun q => h (nm_inj ha hb q)
end
end Mine
end
section
open PySem PySem.W PyProof.Rows PySem.Calls PySem.SeqAt PySem.F
set_option maxRecDepth 100000
namespace Mine
structure CpAt (C : Cst) (W W' : Wd) (μ : MH) (env : Env) (s n w : Addr) (j : Nat) : Prop where
  x : Ext [] W W'
  k : ∃ m t t', Kn C W' μ env m ∧ m (nm 22) = some (.ref s) ∧ m (nm 23) = some (.ref n) ∧ m (nm 24) = some (.ref w) ∧ m (nm 20) = some (.int 2048 t) ∧ m (nm 18) = some (.int 2 t')
  hs : SetImm C W' s
  hn : SetImm C W' n
  ws : WsAt C W' [env.locals] w j
  nw : W.h.get? w = none
set_option maxHeartbeats 1000000 in
theorem cp_call {C : Cst} {W : Wd} {μ : MH} {A : Around} {k : Nat} {pw pb pm : Value} {Q : Value → Shared → Prop} (B : Basis C) (ao : AOk (k + 1) A) (I : Inv C W μ) (Vw : VR C.Q W.h W.ρ W.M (.int 2) pw) (Vb : VR C.Q W.h W.ρ W.M (.int 5) pb) (Vm : VR C.Q W.h W.ρ W.M (.int 2048) pm)
    (hQ : ∀ W' pv, Ext [] W W' → Inv C W' μ → Q pv W'.s) : wpAny (model P0 C.w) A (call (.ref 95) [pw, pb, pm]) Q NoE W.s := by
  refine cp_parts fun p1 q1 r1 t1 p2 q2 r2 t2 p3 q3 r3 t3 p4 p5 q5 a5 r5 t5 p6 q6 r6 p6' q6' r6' t6 p7 q7 wrest p8 p10 d10 t10 p9 q9 p11 q11 r9 rest hb hline => ?_
  refine wpAny_call (fun_callA (k := k) (a := 95) B ⟨[pw, pb, pm], []⟩ [] (some (94, "compute_powers.<locals>.")) [18, 19, 20, 21] [.int 2, .int 5, .int 2048, .bool false] [pw, pb, pm, .bool false] rfl rfl ⟨_, _, _, _, rfl, rfl, rfl, rfl⟩ (congrArg FuncBody.stmts hb) rfl rfl rfl rfl rfl rfl (by decide) hns_cp (kp_binds (I.K B) (fun _ => rfl)) (fun p h => by (first | exact no_some h | cases h); exact ⟨rfl, rfl⟩) ao I (.cons _ _ _ _ Vw (.cons _ _ _ _ Vb (.cons _ _ _ _ Vm (.cons _ _ _ _ (.bool false) .nil)))) fun env O W₁ eo x₁ hf I₁ F₁ ao₁ => ?_)
  have F₁ : FrOk C W₁ env [] O cpLs := F₁
  have eo : EnvOk D_cp env := eo
  have hL : ∀ a ∈ [env.locals], W.h.get? a = none := fun a ha => hf a (by rw [List.mem_singleton.mp ha]; exact F₁.LO)
  refine ex1_1 F₁.ns fun m hm => ?_
  have kn₁ : Kn C W₁ μ env m := ⟨I₁, F₁.LM, hm⟩
  have look1 : ∀ n v, n < nmC → look cpLs n = some v → D_cp.sc.names.lookup (nm n) = some .local → ∃ pv, VR C.Q W₁.h W₁.ρ W₁.M v pv ∧ m (nm n) = some pv := fun n v hn hl hk => by
    refine ex1_2 (F₁.vars n v hn hl (by rw [eo.is]; unfold IsVar; rw [hk])) fun pv V va => ?_
    refine ⟨pv, V, ?_⟩
    cases va with
    | loc m' _ a2 a3 => rw [Ns_eq hm a2]; exact a3
    | cell c a1 _ _ => unfold Env.kindOf at a1; rw [eo.is, hk] at a1; cases a1
    | free c a1 _ _ => unfold Env.kindOf at a1; rw [eo.is, hk] at a1; cases a1
  refine ex1_2 (look1 18 (.int 2) (by decide) rfl rfl) fun pv18 V18 m18 => ?_
  refine ex1_2 (look1 20 (.int 2048) (by decide) rfl rfl) fun pv20 V20 m20 => ?_
  revert m18
  refine V18.intE fun tw m18 => ?_
  revert m20
  refine V20.intE fun tm m20 => ?_
  refine wpAny_execs_cons (wpAny_Assign_Name (new_set (fix_boot B _ rfl rfl rfl) eo I₁ fun W₂ as x₂ I₂ hs₂ => ?_) (hs := rfl))
  refine (kn₁.step x₂ I₂).store (x := nm 22) B eo rfl fun W₃ x₃ kn₃ => ?_
  have hs₃ := hs₂.wk (x₃.wk (kn_M (kn₁.step x₂ I₂)))
  refine wpAny_execs_cons (wpAny_Assign_Name (new_set (fix_boot B _ rfl rfl rfl) eo kn₃.I fun W₄ an x₄ I₄ hn₄ => ?_) (hs := rfl))
  have hs₄ := hs₃.wk (x₄.wk fun _ h => nomatch h)
  refine (kn₃.step x₄ I₄).store (x := nm 23) B eo rfl fun W₅ x₅ kn₅ => ?_
  have hs₅ := hs₄.wk (x₅.wk (kn_M (kn₃.step x₄ I₄)))
  have hn₅ := hn₄.wk (x₅.wk (kn_M (kn₃.step x₄ I₄)))
  have X₅ : Ext [] W W₅ := (((x₁.trans x₂).fresh x₃ hL).trans x₄).fresh x₅ hL
  have n1 : nm 18 ≠ nm 22 := nm_ne (by decide) (by decide) (by decide)
  have n2 : nm 18 ≠ nm 23 := nm_ne (by decide) (by decide) (by decide)
  have n3 : nm 20 ≠ nm 22 := nm_ne (by decide) (by decide) (by decide)
  have n4 : nm 20 ≠ nm 23 := nm_ne (by decide) (by decide) (by decide)
  have n5 : nm 20 ≠ nm 24 := nm_ne (by decide) (by decide) (by decide)
  have n6 : nm 18 ≠ nm 24 := nm_ne (by decide) (by decide) (by decide)
  have n7 : nm 22 ≠ nm 23 := nm_ne (by decide) (by decide) (by decide)
  have n8 : nm 22 ≠ nm 24 := nm_ne (by decide) (by decide) (by decide)
  have n9 : nm 23 ≠ nm 24 := nm_ne (by decide) (by decide) (by decide)
  have na : nm 22 ≠ nm 18 := nm_ne (by decide) (by decide) (by decide)
  have nb : nm 23 ≠ nm 18 := nm_ne (by decide) (by decide) (by decide)
  have nc : nm 24 ≠ nm 18 := nm_ne (by decide) (by decide) (by decide)
  have nd : nm 20 ≠ nm 18 := nm_ne (by decide) (by decide) (by decide)
  have ne : nm 23 ≠ nm 25 := nm_ne (by decide) (by decide) (by decide)
  refine wpAny_execs_cons (wpAny_Assign_Name (ws_make (t := tw) B eo kn₅ (by simp only [n1, n2, if_false]; exact m18) fun W₆ aw x₆ hnew₆ kn₆ ws₆ => ?_) (hs := rfl))
  have hs₆ := hs₅.wk (x₆.wk (kn_M kn₅))
  have hn₆ := hn₅.wk (x₆.wk (kn_M kn₅))
  have haw : W.h.get? aw = none := by
    cases q : W.h.get? aw with
    | none => rfl
    | some o => refine ex1_1 (X₅.alive aw o q) fun o' h' => ?_; rw [h'] at hnew₆; (first | exact no_some hnew₆ | cases hnew₆)
  refine kn₆.store (x := nm 24) B eo rfl fun W₇ x₇ kn₇ => ?_
  have S₇ : CpAt C W W₇ μ env as an aw 1 :=
    { x := (X₅.fresh x₆ hL).fresh x₇ hL
      k := ⟨_, tm, tw, kn₇, by simp only [n7, n8, if_false, if_true], by simp only [n9, if_false, if_true], by simp only [if_true], by simp only [n3, n4, n5, if_false]; exact m20, by simp only [n1, n2, n6, if_false]; exact m18⟩
      hs := hs₆.wk (x₇.wk (kn_M kn₆))
      hn := hn₆.wk (x₇.wk (kn_M kn₆))
      ws := ws₆.ext kn₆.I x₇
      nw := haw }
  have after : ∀ W', CpAt C W W' μ env as an aw 0 → wpAny (model P0 C.w) (A.deeper env) (execs (.Assign [.Name (nm 25) p10] (.Dict [] [] d10) t10 :: .If (.UnaryOp .Not (.Name (nm 23) p9) q9) [.Return (some (.Name (nm 25) p11)) q11] [] r9 :: rest) env) (fun f s' => Q (match f with | .ret v => v | _ => .none) s') NoE W'.s := by
    intro W' S
    refine ex3_6 S.k fun m t t' kn e22 e23 e24 e20 e18 => ?_
    refine wpAny_execs_cons (wpAny_Assign_Name (wpAny_Dict_empty ?_) (hs := rfl))
    refine ex0_2 (kn.I.keepX (s := { W'.s with heap := W'.s.heap.push { cls := .type "dict", data := .dict #[] } }) (push_keep _ _) kn.I.gens rfl) fun y₁ J₁ => ?_
    have hn₁ := S.hn.wk (y₁.wk fun _ h => nomatch h)
    refine (kn.step y₁ J₁).store (x := nm 25) (pv := .ref W'.s.heap.objs.size) B eo rfl fun W₂ y₂ kn₂ => ?_
    have hn₂ := hn₁.wk (y₂.wk (kn_M (kn.step y₁ J₁)))
    refine wpAny_execs_cons (wpAny_If (wpAny_isTrue_Not (isTrue_plain (kn₂.load (pv := .ref an) eo rfl rfl (by simp only [ne, if_false]; exact e23) (set_truth hn₂.at (by decide) ?_)) rfl)))
    refine wpAny_execs_cons (wpAny_Return_some ?_)
    have kn₃ : Kn C (W₂.at { W₂.s with toks := W₂.s.toks + 1 + 1 }) μ env _ := kn₂.step (Ext.tok _ _ _) (kn₂.I.tok _)
    refine kn₃.load (pv := .ref W'.s.heap.objs.size) eo rfl rfl (by simp only [if_true]) ?_
    exact hQ _ _ (((S.x.trans y₁).fresh y₂ hL).trans (Ext.tok _ _ _)) kn₃.I
  refine wpAny_execs_cons (wpAny_While ?_)
  refine codeAny_whileLoop (fun j s => ∃ W', s = W'.s ∧ j ≤ 1 ∧ CpAt C W W' μ env as an aw j) ?_ 1 ⟨W₇, rfl, Nat.le_refl _, S₇⟩
  intro j s hs0; refine ex1_3 hs0 fun W' eqs hj S => ?_; subst eqs; clear hs0
  refine ex3_6 S.k fun m t t' kn e22 e23 e24 e20 e18 => ?_
  refine up (isTrue_plain (kn.load eo rfl rfl e24 (set_truth S.ws.s hj ?_)) rfl)
  have y₀ : Ext [] W' (W'.at { W'.s with toks := W'.s.toks + 1 + 1 }) := Ext.tok _ _ _
  have kn₀ : Kn C (W'.at { W'.s with toks := W'.s.toks + 1 + 1 }) μ env m := kn.step y₀ (kn.I.tok _)
  have ws₀ := S.ws.ext kn.I (y₀.lift (O := [env.locals]))
  have hs₀ := S.hs.wk (y₀.wk fun _ h => nomatch h)
  have hn₀ := S.hn.wk (y₀.wk fun _ h => nomatch h)
  have hj2 : j = 0 ∨ j = 1 := by omega
  rcases hj2 with rfl | rfl
  · rw [if_neg (by decide)]
    exact up (wpAny_execs_nil (after _ ⟨S.x.trans y₀, ⟨m, t, t', kn₀, e22, e23, e24, e20, e18⟩, hs₀, hn₀, ws₀, S.nw⟩))
  · rw [if_pos (by decide)]
    have haw1 : ∀ a ∈ [aw], W.h.get? a = none := fun a ha => by rw [List.mem_singleton.mp ha]; exact haw
    refine up (wpAny_execs_cons (wpAny_Assign_Name (ws_pop B eo kn₀ hline e24 ws₀ fun W₁ t₁ y₁ kn₁ ws₁ => ?_) (hs := rfl)))
    have hs₁ := hs₀.wk (y₁.wk fun b hb => by rw [List.mem_singleton.mp hb]; exact ws₀.M)
    have hn₁ := hn₀.wk (y₁.wk fun b hb => by rw [List.mem_singleton.mp hb]; exact ws₀.M)
    refine kn₁.store (x := nm 18) B eo rfl fun W₂ y₂ kn₂ => ?_
    have hs₂ := hs₁.wk (y₂.wk (kn_M kn₁))
    have hn₂ := hn₁.wk (y₂.wk (kn_M kn₁))
    have ws₂ := ws₁.ext kn₁.I y₂
    refine wpAny_execs_cons (wpAny_If (isTrue_or ?_))
    refine wpAny_isTrue_Compare1 (kn₂.load (pv := .int 2 t₁) eo rfl rfl (by simp only [if_true]) ?_) (by with_unfolding_all rfl)
    refine kn₂.load (pv := .ref as) eo rfl rfl (by simp only [na, if_false]; exact e22) ?_
    refine wpAny_inSet_of (knd := intKind P0 C.w) (k := (2 : Int)) rfl rfl hs₂.at ?_
    refine wpAny_truthy_bool ?_
    rw [if_neg (by decide)]
    have y₃ : Ext [] W₂ (W₂.at { W₂.s with toks := W₂.s.toks + 1 }) := Ext.tok _ _ _
    have kn₃ : Kn C (W₂.at { W₂.s with toks := W₂.s.toks + 1 }) μ env _ := kn₂.step y₃ (kn₂.I.tok _)
    refine isTrue_or ?_
    refine wpAny_isTrue_Compare1 (kn₃.load (pv := .int 2 t₁) eo rfl rfl (by simp only [if_true]) ?_) (by with_unfolding_all rfl)
    refine kn₃.load (pv := .int 2048 t) eo rfl rfl (by simp only [nd, if_false]; exact e20) ?_
    refine le_int (wpAny_truthy_bool ?_)
    rw [if_pos (by decide)]
    refine wpAny_execs_cons (wpAny_Continue ?_)
    refine ⟨0, by decide, W₂.at { W₂.s with toks := W₂.s.toks + 1 }, rfl, by decide, ?_⟩
    exact ⟨(((S.x.trans y₀).fresh y₁ haw1).fresh y₂ hL).trans y₃, ⟨_, t, t₁, kn₃, by simp only [na, if_false]; exact e22, by simp only [nb, if_false]; exact e23, by simp only [nc, if_false]; exact e24, by simp only [nd, if_false]; exact e20, by simp only [if_true]⟩, hs₂.wk (y₃.wk fun _ h => nomatch h), hn₂.wk (y₃.wk fun _ h => nomatch h), ws₂.ext kn₂.I (y₃.lift (O := [env.locals])), S.nw⟩
end Mine
end
section
open PySem PySem.W PyProof.Rows PySem.Calls PySem.SeqAt PySem.F
set_option maxRecDepth 100000
namespace Mine
noncomputable def bLenS : List MV → MH → Option (MV × MH) := fun a μ => match a with
  | [.str l] => bif okD l then some (.int 2, μ) else none
  | _ => none
theorem sf_lenS {C : Cst} : SimF1 C (.builtin "len") bLenS := by
  intro args μ v μ' h W vals A ao I V Q hQ
  unfold bLenS at h
  split at h
  · rename_i l
    cases hl : okD l with
    | false => rw [hl] at h; (first | exact no_some h | cases h)
    | true =>
      rw [hl] at h; (first | exact no_some h | cases h)
      have q := of_decide_eq_true (Bool.and_eq_true_iff.mp (List.all_eq_true.mp dig_int l (okD_mem hl))).2
      refine V.consE fun pv pvs V Vs => ?_
      refine Vs.nilE ?_
      refine V.strE fun s t hs => ?_
      rw [str_of hs]
      refine PyProof.Rows.len_str (by rw [q]; decide) ?_
      rw [q]
      exact hQ.int I _ _
  · (first | exact no_some h | cases h)
noncomputable def kD : Arguments × List Stmt × Scope := defAt ((tD 9).2.1.drop 1)
noncomputable def D_k : Fd := ⟨kD.2.2, [], none⟩
noncomputable def g_k : Es := bCons (sIf (tOf (cBin oLe (cBin oSub (cVar 35) (cVar 34)) (cVar 36))) (bCons (sRet (cCall bInt (lCons (cSliceS (cVar 32) (pSome (cVar 34)) (pSome (cVar 35))) lNil))) bNil) bNil) bFail
theorem s_k (C : Cst) (B : Basis C) (k : Nat) : SimB C D_k k kD.2.1 g_k :=
  sim_cons (sim_if _ (simt_cmp _ sc_le (sim_bin _ so_sub (sim_var 35 _ _) (sim_var 34 _ _)) (sim_var 36 _ _))
    (sim_cons (sim_ret _ (sim_callB (fix_boot B _ rfl rfl rfl) (.inr ⟨_, rfl⟩) sf_int (sim_lcons (sim_sliceS _ _ (sim_var 32 _ _) (simp_some (sim_var 34 _ _)) (simp_some (sim_var 35 _ _))) sim_lnil (fun _ => rfl)) (fun _ => rfl) (fun _ _ => rfl))) sim_nil) sim_nil) sim_fail
noncomputable def D_s : Fd := ⟨(tD 9).2.2, [36, 32, 33, 37], some (101, "_str_to_int_inner.<locals>.")⟩
theorem s_parts (C : Cst) (B : Basis C) (k : Nat) {P : Prop} (kk : ∀ s1 pd p3 n3 a3 r3 c3 t3 n4 a4 r4 p4 q4, (tD 9).2.1 = [s1, .FunctionDef "inner" kD.1 kD.2.1 [] none [] kD.2.2 none "inner" pd, .Assign [.Name (nm 37) p3] (.Call (.Name "compute_powers" n3) (a3 :: r3) [] c3) t3, .Return (some (.Call (.Name (nm 33) n4) (a4 :: r4) [] p4)) q4] →
    SimS C D_s k s1 (sSet 36 (cInt 2048)) → SimL C D_s k (a3 :: r3) (lCons (cCall bLenS (lCons (cVar 32) lNil)) (lCons (cInt 5) (lCons (cVar 36) lNil))) → (∀ env, starEach (a3 :: r3) env = (false, eval a3 env) :: starEach r3 env) →
    SimL C D_s k (a4 :: r4) (lCons (cInt 0) (lCons (cCall bLenS (lCons (cVar 32) lNil)) lNil)) → (∀ env, starEach (a4 :: r4) env = (false, eval a4 env) :: starEach r4 env) → P) : P :=
  kk _ _ _ _ _ _ _ _ _ _ _ _ _ rfl (sim_set B 36 _ _ rfl (by decide) rfl (sim_int 2048 _ _) (fun _ => rfl)) (sim_lcons (sim_callB (fix_boot B _ rfl rfl rfl) (.inl ⟨_, rfl⟩) sf_lenS (sim_lcons (sim_var 32 _ _) sim_lnil (fun _ => rfl)) (fun _ => rfl) (fun _ _ => rfl)) (sim_lcons (sim_int 5 _ _) (sim_lcons (sim_var 36 _ _) sim_lnil (fun _ => rfl)) (fun _ => rfl)) (fun _ => rfl)) (fun _ => rfl) (sim_lcons (sim_int 0 _ _) (sim_lcons (sim_callB (fix_boot B _ rfl rfl rfl) (.inl ⟨_, rfl⟩) sf_lenS (sim_lcons (sim_var 32 _ _) sim_lnil (fun _ => rfl)) (fun _ => rfl) (fun _ _ => rfl)) sim_lnil (fun _ => rfl)) (fun _ => rfl)) (fun _ => rfl)
theorem in101 : ((101, 97) : Addr × Addr) ∈ tabs := by decide
theorem hcapS : ∀ n ∈ [36, 32], n ∈ D_s.own ∧ n < nmC ∧ D_s.sc.names.lookup (nm n) = some .cell ∧ kD.2.2.names.lookup (nm n) = some .free := by decide +kernel
theorem hfrS : ∀ x ∈ kD.2.2.names, x.2 = .free → ∃ n ∈ D_s.own, nm n = x.1 := by decide +kernel
theorem hndS : (kD.2.2.names.map (·.1)).Nodup := by decide +kernel
theorem howS : ∀ n ∈ [36, 32, 33, 37], (tD 9).2.2.names.lookup (nm n) = some .cell := by decide +kernel
theorem hnsS : ∀ n ∈ [32], n < nmC ∧ Sto D_s n = true := by decide +kernel
theorem hcS : ∀ x ∈ kD.2.2.names, x.2 ≠ .cell := by decide +kernel
theorem hbS : ∀ n ∈ [34, 35], n < nmC ∧ Sto ⟨kD.2.2, [], none⟩ n = true := by decide +kernel
theorem CloK.cell {C : Cst} {W : Wd} {cl : List (Str × Addr)} {lc : Locs} {fa : Addr} {fd : FuncData} (Kc : CloK C W cl lc fa fd) {s : Shared} {c : Addr} {n : Nat} {pv : Value} (hc : cl.lookup (nm n) = some c) (hn : n < nmC) (hlc : look lc n = none) (h33 : n ≠ 33) (hsb : Heap.SameBut c W.h s.heap) (hcell : s.heap.IsCell c (some pv)) : CloK C (W.at s) cl lc fa fd := by
  refine ex1_2 (id hcell) fun o' ho' _ => ?_
  have hcM := (Kc.mem _ _ (mem_of_lookup hc)).1
  have x : Ext [c] W (W.at s) := Ext.own (.head _) hsb ho'
  have hO : ∀ b ∈ [c], b ∈ W.M := fun b hb => by rw [List.mem_singleton.mp hb]; exact hcM
  have ne : ∀ {n' : Nat} {c' : Addr}, n' < nmC → n' ≠ n → cl.lookup (nm n') = some c' → c' ≠ c := fun hn' e h q => e (nm_inj hn' hn (name_of_addr Kc.ap (mem_of_lookup h) (q ▸ mem_of_lookup hc)))
  exact
    { mem := fun y c' hm => by
        obtain ⟨h1, v, h2⟩ := Kc.mem y c' hm
        refine ⟨h1, ?_⟩
        by_cases e : c' = c
        · rw [e]; exact ⟨_, hcell⟩
        · exact ⟨v, h2.sameBut hsb e⟩
      ap := Kc.ap
      vars := fun n' v hn' hl => by
        refine ex2_3 (Kc.vars n' v hn' hl) fun c' pv' h1 h2 h3 => ?_
        exact ⟨c', pv', h1, VR.mono x hO h2, h3.sameBut hsb (ne hn' (fun q => by rw [q, hlc] at hl; (first | exact no_some hl | cases hl)) h1)⟩
      self := by
        refine ex1_2 Kc.self fun c' h1 h2 => ?_
        exact ⟨c', h1, h2.sameBut hsb (ne (by decide) (Ne.symm h33) h1)⟩
      fn := (x.imm hO Kc.fn (fun e => nomatch e) Kc.fno.1 Kc.fno.2).1
      fno := (x.imm hO Kc.fn (fun e => nomatch e) Kc.fno.1 Kc.fno.2).2
      code := Kc.code.wk (x.wk hO) }
end Mine
end
section
open PySem PySem.W PyProof.Rows PySem.Calls PySem.SeqAt PySem.F
set_option maxRecDepth 100000
namespace Mine
noncomputable def lsS (l : List Nat) : Locs := [(32, .str l), (36, .int 2048)]
theorem e_k {l : List Nat} {μ : MH} (h : okD l = true) : g_k [(36, .int 2048), (32, .str l), (34, .int 0), (35, .int 2)] μ = some (.ret (.int (numD l)), [(36, .int 2048), (32, .str l), (34, .int 0), (35, .int 2)], μ) := by
  have e1 : tOf (cBin oLe (cBin oSub (cVar 35) (cVar 34)) (cVar 36)) [(36, .int 2048), (32, .str l), (34, .int 0), (35, .int 2)] μ = some (true, μ) := rfl
  have e2 : cSliceS (cVar 32) (pSome (cVar 34)) (pSome (cVar 35)) [(36, .int 2048), (32, .str l), (34, .int 0), (35, .int 2)] μ = some (.str l, μ) := by
    show (bif okD l then some (MV.str l, μ) else none) = _
    rw [h, cond_true]
  have e3 : cCall bInt (lCons (cSliceS (cVar 32) (pSome (cVar 34)) (pSome (cVar 35))) lNil) [(36, .int 2048), (32, .str l), (34, .int 0), (35, .int 2)] μ = some (.int (numD l), μ) := by
    rw [cCall, lCons, e2]
    show (bif okD l then some (MV.int (numD l), μ) else none) = _
    rw [h, cond_true]
  unfold g_k
  rw [bCons, sIf, e1]
  simp only []
  rw [bCons, sRet, e3]
theorem s2i_code (C : Cst) (B : Basis C) {W : Wd} {μ : MH} {A : Around} {k : Nat} {l : List Nat} {ps : Value} {Q : Value → Shared → Prop} (hl : okD l = true) (ao : AOk (k + 3) A) (I : Inv C W μ) (V : VR C.Q W.h W.ρ W.M (.str l) ps) (hQ : Says C W (.int (numD l)) μ Q) :
    codeAny (model P0 C.w) A (.call (.ref 102) ⟨[ps], []⟩) (fun r s' => match r with | .ok (.ret v) => Q v s' | .ok _ => False | .error e => NoE e s') W.s := by
  refine s_parts C B (k + 2) fun s1 pd p3 n3 a3 r3 c3 t3 n4 a4 r4 p4 q4 hb h1 h3 he3 h4 he4 => ?_
  refine fun_callC (k := k + 2) (a := 102) B [36, 32, 33, 37] (some (101, "_str_to_int_inner.<locals>.")) [32] [.str l] [ps] rfl rfl ⟨_, _, _, _, rfl, rfl, rfl, rfl⟩ (congrArg FuncBody.stmts hb) rfl rfl rfl rfl rfl rfl howS hnsS (BindsTo.of_eq rfl) (fun p h => by (first | exact no_some h | cases h); exact ⟨rfl, rfl⟩) ao I (.cons _ _ _ _ V .nil) fun env O W₁ eo x₁ hf I₁ F₁ ao₁ => ?_
  have F₁ : FrOk C W₁ env D_s.own O [(32, .str l)] := F₁
  have eo : EnvOk D_s env := eo
  refine wpAny_execs_cons (h1 _ μ .next (lsS l) μ rfl W₁ env O _ eo ao₁ I₁ F₁ _ fun W₂ f x₂ I₂ F₂ R₂ => ?_)
  cases R₂
  refine wpAny_execs_cons (sim_def (p := (101, 97)) (q := "_str_to_int_inner.<locals>.") (cap := [36, 32]) (lc := [(36, .int 2048), (32, .str l)]) B eo I₂ F₂ in101 rfl rfl rfl rfl (fun _ => rfl) rfl rfl (by decide) hcapS hfrS rfl hndS rfl rfl fun W₃ fa cv ctv pm cl x₃ I₃ F₃ Kc hlk va => ?_)
  have elen : ∀ μ, cCall bLenS (lCons (cVar 32) lNil) (lsS l) μ = some (.int 2, μ) := fun μ => by
    show (bif okD l then some (MV.int 2, μ) else none) = _
    rw [hl, cond_true]
  refine wpAny_execs_cons (wpAny_Assign_Name (wpAny_Call_NameR ?_) (hs := rfl))
  refine (fix_glob B _ rfl rfl : Fix C D_s (.Name "compute_powers" n3) (.ref 95)) W₃ μ env _ eo I₃ _ ?_
  refine callWith_def (o := _) rfl (h3 _ μ [.int 2, .int 5, .int 2048] μ (by rw [lCons, elen]; rfl) W₃ env O _ c3 eo ao₁ I₃ F₃ _ fun W₄ pvs x₄ I₄ V₄ => ⟨I₄.K B 95 _ rfl, ?_⟩) (he3 env)
  refine V₄.consE fun a1 _ v1 V₄ => ?_
  refine V₄.consE fun a2 _ v2 V₄ => ?_
  refine V₄.consE fun a3 _ v3 V₄ => ?_
  refine V₄.nilE ?_
  refine cp_call (k := k + 1) B ao₁ I₄ v1 v2 v3 fun W₅ pd' x₅ I₅ => ?_
  have y₅ := x₄.trans x₅
  have F₅ := F₃.mono I₃ y₅
  have K₅ := Kc.mono I₃ y₅
  have va₅ := VarAt.mono I₃ y₅ F₃ va
  have hkf : env.scope.kind = .function := by rw [eo.is]; exact eo.kind
  have hk37 : env.kindOf (nm 37) = some .cell := by unfold Env.kindOf; rw [eo.is]; rfl
  have hk33 : env.kindOf (nm 33) = some .cell := by unfold Env.kindOf; rw [eo.is]; rfl
  refine ex1_2 (F₅.ow 37 (by decide)) fun c37 hc37 hcO => ?_
  obtain ⟨hcM, hcL, v₀, hcv⟩ := F₅.cM _ _ (mem_of_lookup hc37)
  refine ex1_2 (va₅.cellOf hk33) fun c33 hc33 hcell33 => ?_
  have h33 : c33 ≠ c37 := fun q => absurd (nm_inj (by decide) (by decide) (name_of_addr F₅.cap (mem_of_lookup hc33) (q ▸ mem_of_lookup hc37))) (by decide)
  refine wpAny_storeName_cell hkf hk37 hc37 hcv fun h' hc' hsb => ?_
  refine ex1_2 (id hc') fun o' ho' _ => ?_
  have x₆ : Ext O W₅ (W₅.at { W₅.s with heap := h' }) := Ext.own hcO hsb ho'
  have I₆ : Inv C (W₅.at { W₅.s with heap := h' }) μ := Inv.turnM B I₅ hcM hsb ho' rfl rfl
  have K₆ := K₅.cell (s := { W₅.s with heap := h' }) (n := 37) (hlk _ _ hc37 rfl) (by decide) rfl (by decide) hsb hc'
  have va₆ : VarAt (W₅.at { W₅.s with heap := h' }).h env (nm 33) (.ref fa) := .cell c33 hk33 hc33 (hcell33.sameBut hsb h33)
  have F₆ : FrOk C (W₅.at { W₅.s with heap := h' }) env D_s.own O (lsS l) := by
    refine ⟨F₅.LO, F₅.OM, F₅.ns.imp fun m hm => hm.sameBut hsb (Ne.symm hcL), fun y c' h => ?_, F₅.cap, F₅.ow, fun n' v' hn'' hlk' hv => ?_⟩
    · obtain ⟨q1, q2, v, q3⟩ := F₅.cM y c' h
      by_cases e : c' = c37
      · rw [e] at q1 q2 ⊢; exact ⟨q1, q2, _, hc'⟩
      · exact ⟨q1, q2, v, q3.sameBut hsb e⟩
    · have e : n' ≠ 37 := fun q => by subst q; (first | exact no_some hlk' | cases hlk')
      refine ex1_2 (F₅.vars n' v' hn'' hlk' hv) fun pv' q1 q2 => ?_
      refine ⟨pv', VR.mono x₆ F₅.OM q1, ?_⟩
      have ne : nm n' ≠ nm 37 := fun q => e (nm_inj hn'' (by decide) q)
      cases q2 with
      | loc m₀ a1 a2 a3 => exact .loc _ a1 (a2.sameBut hsb (Ne.symm hcL)) a3
      | cell c₁ a1 a2 a3 => exact .cell c₁ a1 a2 (a3.sameBut hsb fun q => ne (name_of_addr F₅.cap (mem_of_lookup a2) (q ▸ mem_of_lookup hc37)))
      | free c₁ a1 a2 a3 => exact .free c₁ a1 a2 (a3.sameBut hsb fun q => ne (name_of_addr F₅.cap (mem_of_lookup a2) (q ▸ mem_of_lookup hc37)))
  refine wpAny_execs_cons (wpAny_Return_some ?_)
  refine inner_callE h4 he4 eo ao₁ I₆ F₆ va₆ (vs := [.int 0, .int 2]) (by rw [lCons, show cInt 0 (lsS l) μ = some (.int 0, μ) from rfl]; simp only []; rw [lCons, elen]; rfl) (fun W' z => (K₆.mono I₆ z).fn) fun W₇ pvs z I₇ V₇ => ?_
  have K₇ := K₆.mono I₆ z
  have vlen := V₇.len
  refine ex2_1 (list2 (by simpa using vlen.symm)) fun pa pb eqq2 => ?_; subst eqq2
  refine clo_call (k := k + 1) (body := kD.2.1) (fd := fnX "inner" (qualOf 101) kD.1 kD.2.1 kD.2.2 cl .none .none .none pm none cv ctv) B rfl rfl rfl rfl rfl rfl rfl hcS rfl (fun i v hi => ?_) [34, 35] [.int 0, .int 2] [pa, pb] hbS (BindsTo.of_eq rfl) ao₁ I₇ K₇ V₇ fun env' O' W₈ eo' hO' x₈ hf' I₈ F₈ va₈ ao₈ => ?_
  · have hi' : (bif Nat.beq 36 i then some (MV.int 2048) else (bif Nat.beq 32 i then some (MV.str l) else none)) = some v := hi
    cases q1 : Nat.beq 36 i with
    | true => rw [← Nat.eq_of_beq_eq_true q1]; rfl
    | false =>
      cases q2 : Nat.beq 32 i with
      | true => rw [← Nat.eq_of_beq_eq_true q2]; rfl
      | false => rw [q1, q2] at hi'; (first | exact no_some hi' | cases hi')
  refine s_k C B _ _ μ _ _ _ (e_k (μ := μ) hl) W₈ env' O' _ eo' ao₈ I₈ F₈ _ fun W₉ f x₉ I₉ F₉ R₉ => ?_
  cases R₉ with
  | ret _ pv V₉ =>
    exact hQ W₉ pv ((x₁.fresh (((x₂.trans x₃).trans y₅.lift).trans (x₆.trans z.lift)) hf).trans (x₈.fresh x₉ hf')) I₉ V₉
noncomputable def f_s2i : List MV → MH → Option (MV × MH) := fun a μ => match a with
  | [.str l] => bif okD l then some (.int (numD l), μ) else none
  | _ => none
theorem F_s2i (C : Cst) (B : Basis C) (k : Nat) : SimF C (k + 3) 102 plainA f_s2i := by
  intro args μ v μ' h W vals A ao I V Q hQ
  unfold f_s2i at h
  split at h
  · rename_i l
    cases hl : okD l with
    | false => rw [hl] at h; (first | exact no_some h | cases h)
    | true =>
      rw [hl] at h; (first | exact no_some h | cases h)
      refine V.consE fun pv pvs V Vs => ?_
      refine Vs.nilE ?_
      exact s2i_code C B hl ao I V hQ
  · (first | exact no_some h | cases h)
noncomputable def D_ifs : Fd := ⟨(tD 10).2.2, [], none⟩
noncomputable def g_ifs : Es := bCons (sSet 32 (cMeth .str (cMeth .str (cVar 32) lNil mRstrip) (lCons (cStr [95]) (lCons (cStr []) lNil)) mRepl)) (bCons (sRet (cCall f_s2i (lCons (cVar 32) lNil))) bNil)
theorem s_ifs (C : Cst) (B : Basis C) (k : Nat) : SimB C D_ifs (k + 3) (tD 10).2.1 g_ifs :=
  sim_cons (sim_set B 32 _ _ rfl (by decide) rfl (sim_meth1 (kt := .str) plainAttrs_str PySem.F.slot_str_replace rfl (sim_meth0 (kt := .str) plainAttrs_str PySem.F.slot_str_rstrip rfl (sim_var 32 _ _) sf_rstrip (fun _ => rfl) rfl) (sim_lcons (sim_str _ [95] _ _) (sim_lcons (sim_str _ [] _ _) sim_lnil (fun _ => rfl)) (fun _ => rfl)) sf_replace (fun _ => rfl) (fun _ => rfl) rfl (fun _ => rfl) (fun _ _ => rfl)) (fun _ => rfl))
    (sim_cons (sim_ret _ (sim_call B (fix_glob B _ rfl rfl) rfl rfl (F_s2i C B k) (sim_lcons (sim_var 32 _ _) sim_lnil (fun _ => rfl)) (fun _ => rfl))) sim_nil)
theorem F_ifs0 (C : Cst) (B : Basis C) (k : Nat) : SimF C (k + 4) 109 plainA (fRun [32] [] g_ifs) :=
  sim_fun B [] none [32] [] [] plainA rfl rfl ⟨_, _, _, _, rfl, rfl, rfl, rfl⟩ rfl rfl rfl rfl rfl rfl rfl (by decide +kernel) (by decide +kernel) (fun _ _ _ _ => .nil) (fun s vals X hl => by refine ex1_1 (list1 (by simpa using hl)) fun a0 eqq1 => ?_; subst eqq1; exact BindsTo.of_eq rfl) (fun p h => by (first | exact no_some h | cases h)) (s_ifs C B k)
theorem e_ifs {l : List Nat} {μ : MH} (h : okD l = true) : fRun [32] [] g_ifs [.str l] μ = some (.int (numD l), μ) := by
  have e1 : cMeth .str (cMeth .str (cVar 32) lNil mRstrip) (lCons (cStr [95]) (lCons (cStr []) lNil)) mRepl [(32, .str l)] μ = some (.str l, μ) := by
    have e : cMeth .str (cVar 32) lNil mRstrip [(32, .str l)] μ = some (.str l, μ) := by
      show (bif okD l then some (MV.str l, μ) else none) = _
      rw [h, cond_true]
    rw [cMeth, e]
    show (bif eqL [95] [95] then bif okD l then some (MV.str l, μ) else none else none) = _
    rw [h]
    rfl
  have e2 : cCall f_s2i (lCons (cVar 32) lNil) [(32, .str l)] μ = some (.int (numD l), μ) := by
    show (bif okD l then some (MV.int (numD l), μ) else none) = _
    rw [h, cond_true]
  show (match g_ifs [(32, .str l)] μ with
      | some (.ret v, _, μ') => some (v, μ')
      | some (.next, _, μ') => some (.none, μ')
      | _ => none) = _
  unfold g_ifs
  rw [bCons, sSet, e1]
  show (match bCons (sRet (cCall f_s2i (lCons (cVar 32) lNil))) bNil [(32, .str l)] μ with
      | some (.ret v, _, μ') => some (v, μ')
      | some (.next, _, μ') => some (.none, μ')
      | _ => none) = _
  rw [bCons, sRet, e2]
theorem F_ifs (C : Cst) (B : Basis C) (k : Nat) : SimF C (k + 4) 109 plainA f_ifs := by
  intro args μ v μ' h W vals A ao I V Q hQ
  unfold f_ifs at h
  split at h
  · rename_i c d
    cases hl : okS [c, d] with
    | false => rw [hl] at h; (first | exact no_some h | cases h)
    | true =>
      rw [hl] at h; (first | exact no_some h | cases h)
      exact F_ifs0 C B k [.str [c, d]] μ _ μ (e_ifs (l := [c, d]) hl) W vals A ao I V Q hQ
  · (first | exact no_some h | cases h)
end Mine
end
section
open PySem PySem.W PyProof.Rows PySem.Calls PySem.SeqAt
set_option maxRecDepth 100000
namespace Mine
section
variable {prog : Program} {w : World} {A : Around} {E : Value → Shared → Prop} {s : Shared}
theorem tup_turn {it t : Addr} {i : Nat} {xs : Array Value} {Q : Value → Shared → Prop} (hh : A.handled = none) (hit : s.heap.IsTupleIter it t i) (ht : s.heap.IsTuple t xs)
    (h1 : ∀ x h', xs[i]? = some x → h'.IsTupleIter it t (i + 1) → Heap.SameBut it s.heap h' → Q x { s with heap := h' })
    (h0 : xs[i]? = none → ∀ h' e, Heap.ExtBut it s.heap h' → (∃ o, h'.get? e = some o ∧ o.cls = .type "StopIteration") → E (.ref e) { s with heap := h' }) :
    wpAny (model prog w) A (Builtin.SmallTypes.nextOf (.ref it)) Q E s := by
  refine ex1_3 (id hit) fun o ho hc hd => ?_
  obtain ⟨ol, hol, _, nl, hdl⟩ := ht
  unfold Builtin.SmallTypes.nextOf
  refine wpAny_bind (wpAny_callSpecial?_slot (name := Str.ofString "__next__") hit.typeIs F.slot_tuple_iterator_next (wpAny_call_entry F.slot_tuple_iterator_next hit.typeIs F.entry_tuple_iterator_next ?_ (F.args_tuple_iterator_next_1 _)))
  show wpAny _ _ (field (.ref it) 0 >>= _) _ _ s
  refine wpAny_bind (wpAny_field ho hd (x := .ref t) rfl ?_)
  show wpAny _ _ (if (Value.ref t == Value.none) = true then _ else _) _ _ s
  rw [if_neg (show ¬ ((Value.ref t == Value.none) = true) from Bool.false_ne_true)]
  show wpAny _ _ (field (.ref it) 1 >>= _) _ _ s
  refine wpAny_bind (wpAny_field ho hd (x := .int i 0) rfl ?_)
  show wpAny _ _ (seqItems? (.ref t) >>= _) _ _ s
  refine wpAny_bind (wpAny_seqItems hol hdl ?_)
  cases hx : xs[i]? with
  | some x =>
    simp only [Int.toNat_natCast, hx]
    refine wpAny_bind (wpAny_setField ho hd (by simp) (wpAny_pure ⟨x, rfl, wpAny_pure (h1 x _ hx ?_ (Heap.SameBut.update ..))⟩))
    exact ⟨_, Heap.get?_update_self _ ho (Obj.isFreed_of_fields (Obj.data_mapFields hd _)), (Obj.cls_mapFields ..).trans hc, by
      rw [Obj.data_mapFields hd]; simp [rawInt]⟩
  | none =>
    simp only [Int.toNat_natCast, hx]
    refine wpAny_bind (wpAny_rule (wpAny_bind (wpAny_setField ho hd (by simp) ?_)))
    show wpAny _ _ (newExc (.type "StopIteration") [] >>= _) _ _ _
    refine wpAny_bind ?_
    simp only [newExc, newTuple]
    refine wpAny_bind (wpAny_newObj_type ?_ (by size_fits))
    refine wpAny_bind (m := firstArgMember _ _) (wpAny_of_eq (a := Value.none) (by first | rfl | (simp only [firstArgMember]; rfl)) ?_)
    refine wpAny_newObj_type ?_ (by size_fits)
    simp only [raiseNew]
    refine wpAny_bind (wpAny_handled ?_)
    first | rw [show A.in1.handled = none from hh] | rw [hh]
    refine wpAny_bind (wpAny_pure (wpAny_throw ?_))
    exact h0 hx _ _ (((Heap.SameBut.update ..).extBut.push _).push _) ⟨_, Heap.get?_push_size _ rfl, rfl⟩
structure ZtAt (h : Heap) (z TI TO i1 i2 l1 l2 : Addr) (xs ys : Array Value) (i : Nat) : Prop where
  TI' : IsPair h TI (.ref i1) (.ref i2)
  TO' : ∃ a b, IsPair h TO a b
  i1' : h.IsTupleIter i1 l1 i
  i2' : h.IsTupleIter i2 l2 i
  l1' : h.IsTuple l1 xs
  l2' : h.IsTuple l2 ys
theorem IsTuple.at {h h' : Heap} {a : Addr} {items : Array Value} (x : h.IsTuple a items) (e : ∀ o, h.get? a = some o → h'.get? a = some o) : h'.IsTuple a items := let ⟨o, ho, r⟩ := x; ⟨o, e o ho, r⟩
theorem zt_body {z TI TO i1 i2 l1 l2 : Addr} {xs ys : Array Value} {i : Nat} {Q : Value → Shared → Prop} (hh : A.handled = none) (D : ZipApart z TI TO i1 i2 l1 l2) (hsz : xs.size = ys.size) (hz : IsZip s.heap z TI TO .none) (Z : ZtAt s.heap z TI TO i1 i2 l1 l2 xs ys i)
    (hQ : ∀ x y h', xs[i]? = some x → ys[i]? = some y → IsZip h' z TI TO (rawInt s.heap.objs.size) → ZtAt h' z TI TO i1 i2 l1 l2 xs ys (i + 1) → IsPair h' s.heap.objs.size x y →
      (∀ c o, c ≠ z → c ≠ TO → c ≠ i1 → c ≠ i2 → s.heap.get? c = some o → h'.get? c = some o) → Q (.ref s.heap.objs.size) { s with heap := h' })
    (hE : xs[i]? = none → ∀ h' e, (∀ c o, c ≠ z → c ≠ TO → c ≠ i1 → c ≠ i2 → s.heap.get? c = some o → h'.get? c = some o) → (∃ o, h'.get? e = some o ∧ o.cls = .type "StopIteration") → E (.ref e) { s with heap := h' }) :
    wpAny (model prog w) A (Builtin.«zip.__next__» ⟨[.ref z], []⟩) (fun fin s' => ∃ v, fin = .done (.ret v) ∧ Q v s') E s := by
  obtain ⟨hTI, ⟨a, b, hTO⟩, h1, h2, hl1, hl2⟩ := Z
  show wpAny _ _ (field (.ref z) 2 >>= _) _ _ _
  refine wpAny_bind (wpAny_field hz rfl (x := .bool false) rfl ?_)
  show wpAny _ _ (field (.ref z) 3 >>= _) _ _ _
  refine wpAny_bind (wpAny_field hz rfl (x := .ref TI) rfl ?_)
  refine wpAny_bind (wpAny_seqItems hTI rfl ?_)
  show wpAny _ _ (Builtin.SmallTypes.ownedTupleIsFree (.ref z) >>= _) _ _ _
  refine wpAny_bind ?_
  unfold Builtin.SmallTypes.ownedTupleIsFree
  refine wpAny_bind (wpAny_field hz rfl (x := .none) rfl (wpAny_pure ?_))
  simp only [if_true]
  refine wpAny_bind (wpAny_rule ?_)
  refine wpAny_bind (wpAny_field hz rfl (x := .ref TO) rfl ?_)
  refine wpAny_bind (wpAny_setField_rec hz (by simp) fun h₁ hz₁ hs₁ => ?_)
  replace hz₁ : IsZip h₁ z TI TO .ellipsis := hz₁
  refine wpAny_bind ?_
  simp only [List.zipIdx_cons, List.zipIdx_nil, List.forIn_cons, List.forIn_nil]
  refine wpAny_bind (wpAny_bind (wpAny_onRaise ?_))
  show wpAny _ _ (Builtin.SmallTypes.nextOf (.ref i1) >>= _) _ _ _
  refine wpAny_bind (tup_turn hh (h1.extBut hs₁.extBut D.i1z) (hl1.extBut hs₁.extBut D.l1z) (fun x h₂ hx h1₂ hs₂ => wpAny_pure ?_) fun hx h₂ e hs₂ he => ?_)
  · have hTO₂ : IsPair h₂ TO a b := hs₂.extBut _ _ D.TOi1 (hs₁.extBut _ _ D.TOz hTO)
    refine wpAny_bind (wpAny_seqItems hTO₂ rfl ?_)
    refine wpAny_bind (wpAny_updateSeq_pair hTO₂ fun h₃ hTO₃ hs₃ => ?_)
    replace hTO₃ : IsPair h₃ TO x b := hTO₃
    refine wpAny_bind (wpAny_letGo (wpAny_pure ?_))
    refine wpAny_bind (wpAny_bind (wpAny_onRaise ?_))
    show wpAny _ _ (Builtin.SmallTypes.nextOf (.ref i2) >>= _) _ _ _
    refine wpAny_bind (tup_turn hh (((h2.extBut hs₁.extBut D.i2z).extBut hs₂.extBut D.i12.symm).extBut hs₃.extBut D.TOi2.symm)
      (((hl2.extBut hs₁.extBut D.l2z).extBut hs₂.extBut D.l2i1).extBut hs₃.extBut D.l2TO) (fun y h₄ hy h2₄ hs₄ => wpAny_pure ?_) fun hy => ?_)
    · have hTO₄ : IsPair h₄ TO x b := hs₄.extBut _ _ D.TOi2 hTO₃
      refine wpAny_bind (wpAny_seqItems hTO₄ rfl ?_)
      refine wpAny_bind (wpAny_updateSeq_pair hTO₄ fun h₅ hTO₅ hs₅ => ?_)
      replace hTO₅ : IsPair h₅ TO x y := hTO₅
      refine wpAny_bind (wpAny_letGo (wpAny_pure (wpAny_pure ?_)))
      refine wpAny_bind (wpAny_seqItems hTO₅ rfl ?_)
      refine wpAny_bind (wpAny_newTuple ?_)
      have hsz' : h₅.objs.size = s.heap.objs.size := by rw [hs₅.1, hs₄.1, hs₃.1, hs₂.1, hs₁.1]
      have hz₅ : IsZip h₅ z TI TO .ellipsis := hs₅.extBut _ _ D.TOz.symm (hs₄.extBut _ _ D.i2z.symm (hs₃.extBut _ _ D.TOz.symm (hs₂.extBut _ _ D.i1z.symm hz₁)))
      have hk₅ : ∀ c o, c ≠ z → c ≠ TO → c ≠ i1 → c ≠ i2 → s.heap.get? c = some o → h₅.get? c = some o := fun c o c1 c2 c3 c4 e =>
        hs₅.extBut _ _ c2 (hs₄.extBut _ _ c4 (hs₃.extBut _ _ c2 (hs₂.extBut _ _ c3 (hs₁.extBut _ _ c1 e))))
      have h1₅ : h₅.IsTupleIter i1 l1 (i + 1) := ((h1₂.extBut hs₃.extBut D.TOi1.symm).extBut hs₄.extBut D.i12).extBut hs₅.extBut D.TOi1.symm
      have h2₅ : h₅.IsTupleIter i2 l2 (i + 1) := h2₄.extBut hs₅.extBut D.TOi2.symm
      have hzlt : z < h₅.objs.size := Heap.lt_size hz₅
      show wpAny _ _ (Builtin.SmallTypes.ownedTupleHandOut (.ref z) (.ref h₅.objs.size) >>= _) _ _ _
      refine wpAny_bind ?_
      unfold Builtin.SmallTypes.ownedTupleHandOut
      have hz₆ : IsZip (h₅.push { cls := .type "tuple", data := .seq #[x, y] }) z TI TO .ellipsis := Heap.get?_push_of_some _ hz₅
      refine wpAny_bind (wpAny_setField_rec hz₆ (by simp) fun h₇ hz₇ hs₇ => ?_)
      replace hz₇ : IsZip h₇ z TI TO (rawInt h₅.objs.size) := hz₇
      refine wpAny_setField_rec hz₇ (by simp) fun h₈ hz₈ hs₈ => ?_
      replace hz₈ : IsZip h₈ z TI TO (rawInt h₅.objs.size) := hz₈
      have up' : ∀ c o, c ≠ z → h₅.get? c = some o → h₈.get? c = some o := fun c o c1 e => hs₈.extBut _ _ c1 (hs₇.extBut _ _ c1 (Heap.get?_push_of_some _ e))
      have hT₈ : IsPair h₈ h₅.objs.size x y := hs₈.extBut _ _ (Nat.ne_of_gt hzlt) (hs₇.extBut _ _ (Nat.ne_of_gt hzlt) (Heap.get?_push_size _ rfl))
      rw [hsz'] at hz₈ hT₈
      refine wpAny_pure ⟨_, rfl, ?_⟩
      show Q (.ref h₅.objs.size) _
      rw [hsz']
      have hk₈ : ∀ c o, c ≠ z → c ≠ TO → c ≠ i1 → c ≠ i2 → s.heap.get? c = some o → h₈.get? c = some o := fun c o c1 c2 c3 c4 e => up' c o c1 (hk₅ c o c1 c2 c3 c4 e)
      exact hQ x y h₈ hx hy hz₈ ⟨hk₈ _ _ D.TIz D.TITO D.TIi1 D.TIi2 hTI, ⟨_, _, up' _ _ D.TOz hTO₅⟩, h1₅.at fun o e => up' _ o D.i1z e, h2₅.at fun o e => up' _ o D.i2z e,
        IsTuple.at hl1 fun o e => hk₈ _ o D.l1z D.l1TO D.l1i1 D.l1i2 e, IsTuple.at hl2 fun o e => hk₈ _ o D.l2z D.l2TO D.l2i1 D.l2i2 e⟩ hT₈ hk₈
    · exfalso
      have a1 : i < xs.size := (Array.getElem?_eq_some_iff.mp hx).1
      have a2 : ys.size ≤ i := Array.getElem?_eq_none_iff.mp hy
      omega
  · refine ex1_2 he fun oe hoe hce => ?_
    have hz₂ : IsZip h₂ z TI TO .ellipsis := hs₂ _ _ D.i1z.symm hz₁
    have hez : e ≠ z := fun x => by subst x; rw [hz₂] at hoe; (first | exact no_some hoe | cases hoe); simp at hce
    refine wpAny_setField_rec hz₂ (by simp) fun h₃ _ hs₃ => hE hx h₃ e (fun c o c1 _ c3 _ x => hs₃.extBut _ _ c1 (hs₂ _ _ c3 (hs₁.extBut _ _ c1 x))) ⟨oe, hs₃.extBut _ _ hez hoe, hce⟩
end
end Mine
end
section
open PySem PySem.W PyProof.Rows PySem.Calls PySem.SeqAt
set_option maxRecDepth 100000
namespace Mine
section
variable {prog : Program} {w : World} {A : Around} {E : Value → Shared → Prop} {s : Shared}
theorem zt_next {z TI TO i1 i2 l1 l2 : Addr} {xs ys : Array Value} {i : Nat} {Q : Option Value → Shared → Prop} (hh : A.handled = none) (D : ZipApart z TI TO i1 i2 l1 l2) (hsz : xs.size = ys.size) (hz : IsZip s.heap z TI TO .none) (Z : ZtAt s.heap z TI TO i1 i2 l1 l2 xs ys i)
    (hQ : ∀ x y h', xs[i]? = some x → ys[i]? = some y → IsZip h' z TI TO (rawInt s.heap.objs.size) → ZtAt h' z TI TO i1 i2 l1 l2 xs ys (i + 1) → IsPair h' s.heap.objs.size x y →
      (∀ c o, c ≠ z → c ≠ TO → c ≠ i1 → c ≠ i2 → s.heap.get? c = some o → h'.get? c = some o) → Q (some (.ref s.heap.objs.size)) { s with heap := h' })
    (h0 : xs[i]? = none → ∀ h', (∀ c o, c ≠ z → c ≠ TO → c ≠ i1 → c ≠ i2 → s.heap.get? c = some o → h'.get? c = some o) → Q none { s with heap := h' }) : wpAny (model prog w) A (pyNext (.ref z)) Q E s := by
  have hT : s.TypeIs (.ref z) "zip" := ⟨_, hz, rfl⟩
  unfold pyNext
  refine wpAny_bind (wpAny_attempt (wpAny_callSpecial?_slot (name := Str.ofString "__next__") hT F.slot_zip_next
    (wpAny_call_entry F.slot_zip_next hT F.entry_zip_next (zt_body hh D hsz hz Z (fun x y h' hx hy a1 a2 a3 a4 => wpAny_pure (hQ x y h' hx hy a1 a2 a3 a4)) fun hx h' e hk he => ?_) (F.args_zip_next_1 _))))
  refine ex1_2 he fun o ho hc => ?_
  refine wpAny_bind (wpAny_isInstance (T := "StopIteration") (b := true) ⟨o, ho, hc⟩ isSubtype_stop ?_)
  exact wpAny_pure (h0 hx _ hk)
theorem zt_walks (hh : A.handled = none) {z TI TO i1 i2 l1 l2 : Addr} (D : ZipApart z TI TO i1 i2 l1 l2) (xs ys : Array Value) (hsz : xs.size = ys.size) : WalksU prog w A z [z, TI, TO, i1, i2, l1, l2] [z, TO, i1, i2] xs.size
    (fun i vals => ∃ x y, xs[i]? = some x ∧ ys[i]? = some y ∧ vals = #[x, y]) (fun i h => IsZip h z TI TO .none ∧ ZtAt h z TI TO i1 i2 l1 l2 xs ys i)
    (fun i T h => IsZip h z TI TO (rawInt T) ∧ ZtAt h z TI TO i1 i2 l1 l2 xs ys (i + 1) ∧ T ≠ z ∧ T ≠ TO ∧ T ≠ i1 ∧ T ≠ i2) where
  sub := fun c hc => by simp at hc ⊢; rcases hc with rfl | rfl | rfl | rfl <;> simp
  frame := fun i h h' hst hk => by
    obtain ⟨hz, hTI, ⟨a, b, hTO⟩, h1, h2, hl1, hl2⟩ := hst
    exact ⟨hk z (by simp) _ hz, hk TI (by simp) _ hTI, ⟨a, b, hk TO (by simp) _ hTO⟩, h1.at fun o e => hk i1 (by simp) o e, h2.at fun o e => hk i2 (by simp) o e, IsTuple.at hl1 fun o e => hk l1 (by simp) o e, IsTuple.at hl2 fun o e => hk l2 (by simp) o e⟩
  item := fun i s Q E hi hst hQ => by
    refine ex0_2 hst fun hz Z => ?_
    obtain ⟨hTI, ⟨a, b, hTO⟩, h1, h2, hl1, hl2⟩ := id Z
    have lt : ∀ {c o}, s.heap.get? c = some o → s.heap.objs.size ≠ c := fun e => Nat.ne_of_gt (Heap.lt_size e)
    refine zt_next hh D hsz hz Z (fun x y h' hx hy a1 a2 a3 hk => ?_) fun hx => ?_
    · exact hQ s.heap.objs.size #[x, y] h' s.toks ⟨x, y, hx, hy, rfl⟩ ⟨_, a3, rfl, _, rfl⟩ ⟨a1, a2, lt hz, lt hTO, (by refine ex1_2 h1 fun _ e _ => ?_; exact lt e), (by refine ex1_2 h2 fun _ e _ => ?_; exact lt e)⟩
        fun c o hc e => hk c o (fun x => hc (by simp [x])) (fun x => hc (by simp [x])) (fun x => hc (by simp [x])) (fun x => hc (by simp [x])) e
    · exact absurd (Array.getElem?_eq_none_iff.mp hx) (Nat.not_le.mpr hi)
  go := fun elts k pos i T s Q E hm hQ => by
    obtain ⟨hz, ⟨hTI, ⟨a, b, hTO⟩, h1, h2, hl1, hl2⟩, _⟩ := hm
    refine wpAny_letOwnedTupleGo_zip hz fun h' hz' hs' => hQ h' ⟨hz', hs'.extBut _ _ D.TIz hTI, ⟨a, b, hs'.extBut _ _ D.TOz hTO⟩, h1.extBut hs'.extBut D.i1z, h2.extBut hs'.extBut D.i2z, hl1.extBut hs'.extBut D.l1z, hl2.extBut hs'.extBut D.l2z⟩ fun c o hc e => hs'.extBut _ _ (fun x => hc (by simp [x])) e
  apart := fun i T h hm hT => by
    refine ex0_6 hm fun _ _ t1 t2 t3 t4 => ?_
    simp at hT
    rcases hT with rfl | rfl | rfl | rfl
    · exact t1 rfl
    · exact t2 rfl
    · exact t3 rfl
    · exact t4 rfl
  done := fun s Q E hst hQ => by
    refine ex0_2 hst fun hz Z => ?_
    refine zt_next hh D hsz hz Z (fun x y h' hx => ?_) fun _ h' hk => hQ h' s.toks fun c o hc e => hk c o (fun x => hc (by simp [x])) (fun x => hc (by simp [x])) (fun x => hc (by simp [x])) (fun x => hc (by simp [x])) e
    rw [Array.getElem?_eq_none (Nat.le_refl _)] at hx; (first | exact no_some hx | cases hx)
  self := fun i s Q E hst hQ => wpAny_pyIter_zip hst.1 hQ
end
noncomputable abbrev ztH1 (h : Heap) (l1 : Addr) : Heap := h.push { cls := .type "tuple_iterator", data := .fields #[.ref l1, .int 0 0] }
noncomputable abbrev ztH2 (h : Heap) (l1 l2 : Addr) : Heap := (ztH1 h l1).push { cls := .type "tuple_iterator", data := .fields #[.ref l2, .int 0 0] }
noncomputable abbrev ztH3 (h : Heap) (l1 l2 : Addr) : Heap := (ztH2 h l1 l2).push { cls := .type "tuple", data := .seq #[.ref h.objs.size, .ref (ztH1 h l1).objs.size] }
noncomputable abbrev ztH4 (h : Heap) (l1 l2 : Addr) : Heap := (ztH3 h l1 l2).push { cls := .type "tuple", data := .seq #[.none, .none] }
noncomputable abbrev ztH5 (h : Heap) (l1 l2 : Addr) : Heap := (ztH4 h l1 l2).push { cls := .type "zip", data := .fields #[.none, .bool false, .bool false, .ref (ztH2 h l1 l2).objs.size, .ref (ztH3 h l1 l2).objs.size] }
theorem meets_zt (l1 l2 : Addr) (xs ys : Array Value) : Meets (Builtin.«zip.__new__» ⟨[.type "zip", .ref l1, .ref l2], []⟩) (fun _ R s => s.heap.IsTuple l1 xs ∧ s.heap.IsTuple l2 ys ∧ R (.ok (.ret (.ref (ztH4 s.heap l1 l2).objs.size))) { s with heap := ztH5 s.heap l1 l2 }) :=
  .of_wp fun prog w A R s h => by
    obtain ⟨hp, g, d, tk, os⟩ := s; refine ex0_3 h fun hl1 hl2 h => ?_
    have hsub := sub_zip
    have hL1 : Heap.IsTuple (Shared.heap ⟨hp, g, d, tk, os⟩) l1 xs := hl1
    have hL2 : Heap.IsTuple (Shared.heap ⟨hp.push { cls := .type "tuple_iterator", data := .fields #[.ref l1, .int 0 0] }, g, d, tk, os⟩) l2 ys := Heap.IsTuple.push hl2 _
    wp_walk using wpAny_pyIter_tuple hL1, wpAny_pyIter_tuple hL2
    exact ⟨_, rfl, h⟩
section
variable {prog : Program} {w : World} {A : Around} {E : Value → Shared → Prop} {s : Shared}
theorem call_zt {l1 l2 : Addr} {xs ys : Array Value} {Q : Value → Shared → Prop} (hl1 : s.heap.IsTuple l1 xs) (hl2 : s.heap.IsTuple l2 ys)
    (h : ∀ h' z TI TO i1 i2, ZipApart z TI TO i1 i2 l1 l2 → IsZip h' z TI TO .none → ZtAt h' z TI TO i1 i2 l1 l2 xs ys 0 → (∀ c o, s.heap.get? c = some o → h'.get? c = some o) → s.heap.objs.size ≤ z → s.heap.objs.size ≤ TO → s.heap.objs.size ≤ i1 → s.heap.objs.size ≤ i2 → Q (.ref z) { s with heap := h' }) :
    wpAny (model prog w) A (call (.type "zip") [.ref l1, .ref l2]) Q E s := by
  have a1 : l1 < s.heap.objs.size := by refine ex1_2 hl1 fun _ e _ => ?_; exact Heap.lt_size e
  have a2 : l2 < s.heap.objs.size := by refine ex1_2 hl2 fun _ e _ => ?_; exact Heap.lt_size e
  refine callType_new F.called_zip (by decide) (F.typeCall_zip_2 _ _) (F.newCall_zip_2 _ _) (fun obj => F.args_object_init_3 obj _ _) F.entry_zip_new (meets_zt l1 l2 xs ys) ⟨hl1, hl2, ?_⟩
  have z1 : (ztH1 s.heap l1).objs.size = s.heap.objs.size + 1 := Heap.size_push ..
  have z2 : (ztH2 s.heap l1 l2).objs.size = s.heap.objs.size + 2 := by rw [Heap.size_push, z1]
  have z3 : (ztH3 s.heap l1 l2).objs.size = s.heap.objs.size + 3 := by rw [Heap.size_push, z2]
  have z4 : (ztH4 s.heap l1 l2).objs.size = s.heap.objs.size + 4 := by rw [Heap.size_push, z3]
  have g5 : (ztH5 s.heap l1 l2).get? (ztH4 s.heap l1 l2).objs.size = some _ := Heap.get?_push_size _ rfl
  have g4 : (ztH5 s.heap l1 l2).get? (ztH3 s.heap l1 l2).objs.size = some _ := Heap.get?_push_of_some _ (Heap.get?_push_size _ rfl)
  have g3 : (ztH5 s.heap l1 l2).get? (ztH2 s.heap l1 l2).objs.size = some _ := Heap.get?_push_of_some _ (Heap.get?_push_of_some _ (Heap.get?_push_size _ rfl))
  have g2 : (ztH5 s.heap l1 l2).get? (ztH1 s.heap l1).objs.size = some _ := Heap.get?_push_of_some _ (Heap.get?_push_of_some _ (Heap.get?_push_of_some _ (Heap.get?_push_size _ rfl)))
  have g1 : (ztH5 s.heap l1 l2).get? s.heap.objs.size = some _ := Heap.get?_push_of_some _ (Heap.get?_push_of_some _ (Heap.get?_push_of_some _ (Heap.get?_push_of_some _ (Heap.get?_push_size _ rfl))))
  have hk : ∀ c o, s.heap.get? c = some o → (ztH5 s.heap l1 l2).get? c = some o := fun c o x =>
    Heap.get?_push_of_some _ (Heap.get?_push_of_some _ (Heap.get?_push_of_some _ (Heap.get?_push_of_some _ (Heap.get?_push_of_some _ x))))
  show _ ∧ _
  rw [z2, z3, z4] at g5
  rw [z1, z2] at g3
  rw [z3] at g4
  rw [z1] at g2
  rw [z4]
  exact ⟨⟨_, g5, rfl⟩, h _ _ _ _ _ _ (zipApart_new a1 a2) g5 ⟨g3, ⟨_, _, g4⟩, ⟨_, g1, rfl, rfl⟩, ⟨_, g2, rfl, rfl⟩, IsTuple.at hl1 fun o e => hk _ o e, IsTuple.at hl2 fun o e => hk _ o e⟩ hk (Nat.le_add_right _ 4) (Nat.le_add_right _ 3) (Nat.le_refl _) (Nat.le_add_right _ 1)⟩
end
end Mine
end
section
open PySem PySem.W PyProof.Rows PySem.Calls PySem.SeqAt
set_option maxRecDepth 100000
namespace Mine
section
variable {C : Cst} {W : Wd} {μ : MH} {A : Around}
theorem mk_gcode {scope : Scope} {env : Env} {p : Addr × Addr} {pos : Pos} {Q : Value → Shared → Prop} (B : Basis C) (I : Inv C W μ) (hp : p ∈ tabs) (hcode : env.code = .ref p.1)
    (hQ : ∀ W' cv, Ext [] W W' → Inv C W' μ → W'.ρ = W.ρ → W'.M = W.M → Heap.ExtBut p.2 W.h W'.h → W'.s.gens = W.s.gens → W.h.objs.size ≤ W'.h.objs.size →
      (∃ ps more, W.h.TableAt p.1 p.2 ps ∧ W'.h.TableAt p.1 p.2 (ps ++ more) ∧ TriplesOk (ps ++ more).toList ∧ ∀ pos cv, codeAmong pos (ps ++ more).toList = some cv → CodeOk W' cv (qualOf p.1)) → Q cv W'.s) :
    wpAny (model P0 C.w) A (genexprCode env pos (qualOf p.1) scope) Q NoE W.s := by
  refine ex1_3 (I.tab p hp) fun ps hT htr hent => ?_
  have C₀ := code_hd C.w.params (I.K B) hp
  cases hf : codeAmong pos ps.toList with
  | some cv => exact wpAny_genexprCode_hit hcode (C₀.code hT.2 htr) hf (hQ W cv (Ext.refl _ _) I rfl rfl (fun _ _ _ h => h) rfl (Nat.le_refl _) ⟨ps, #[], hT, by rw [Array.append_empty]; exact hT, by rw [Array.append_empty]; exact htr, by rw [Array.append_empty]; exact hent⟩)
  | none =>
    refine wpAny_genexprCodeX hcode (C₀.code hT.2 htr) (C₀.tab hT.2) hf fun c' h' tk hx hge hlt _ hrec htb hct => ?_
    obtain ⟨P', _, _, ⟨oc, vs, e1, e2, e3, _⟩, _⟩ := hct
    refine ex4_4 hrec fun c₂ o₂ vs₂ t₂ q1 q2 q3 q4 => ?_
    (first | exact no_some q1 | cases q1)
    have nlt : ∀ a, (a ∈ W.ρ ∨ a ∈ W.M) → a ≠ c' := fun a h q => by have := I.lt h; rw [q] at this; exact absurd (Nat.lt_of_lt_of_le this hge) (Nat.lt_irrefl _)
    have hcodeok : CodeOk (W.at { W.s with heap := h', toks := tk }) (.ref c') (qualOf p.1) := by
      refine ⟨c', o₂, vs₂, t₂, rfl, q2, ?_, fun h => nlt c' (.inl h) rfl, fun h => nlt c' (.inr h) rfl, q3, q4⟩
      rw [show o₂ = oc from Option.some.inj (q2.symm.trans e1), e2]; exact fun h => nomatch h
    have hl : (ps ++ #[rawInt pos.line, rawInt pos.col, .ref c']).toList = ps.toList ++ [rawInt pos.line, rawInt pos.col, .ref c'] := by rw [Array.toList_append]
    have htr' : TriplesOk (ps ++ #[rawInt pos.line, rawInt pos.col, .ref c']).toList := by rw [hl]; exact TriplesOk_snoc _ _ _ _ htr
    have hent' : ∀ pos' cv, codeAmong pos' (ps ++ #[rawInt pos.line, rawInt pos.col, .ref c']).toList = some cv → CodeOk (W.at { W.s with heap := h', toks := tk }) cv (qualOf p.1) := by
      intro pos' cv hv
      rw [hl] at hv
      rcases codeAmong_app ps.toList htr hv with hv | rfl
      · refine ex4_7 (hent pos' cv hv) fun c o vs t z1 z2 z3 z4 z5 z6 z7 => ?_
        refine ⟨c, o, vs, t, z1, hx c o (fun q => ?_) z2, z3, z4, z5, z6, z7⟩
        rw [q, hT.2] at z2; cases z2; exact z3 rfl
      · exact hcodeok
    refine ex0_2 (I.tabStep B (s' := { W.s with heap := h', toks := tk }) hp hx hT htb ⟨_, htb, htr', hent'⟩ rfl rfl) fun x₂ I₂ => ?_
    exact hQ _ (.ref c') x₂ I₂ rfl rfl hx rfl (Nat.le_trans hge (Nat.le_of_lt hlt)) ⟨_, _, hT, htb, htr', hent'⟩
theorem vrs_zip {Q : Int} {h : Heap} {ρ M : List Addr} : ∀ (is js : List Int) (vs : List Value), is.length = js.length → vs.length = is.length → (∀ (j : Nat) (v : Value), vs[j]? = some v → ∃ t, v = .int (is.getD j 0 + js.getD j 0) t) → VRs Q h ρ M (zipI is js) vs
  | [], [], vs, _, h2, _ => by have e : vs = [] := List.length_eq_zero_iff.mp (by simpa using h2); subst e; exact .nil
  | a :: is, b :: js, v :: vs, h1, h2, h => by
    refine ex1_1 (h 0 v rfl) fun t e => ?_
    have e' : v = .int (a + b) t := e
    rw [e']
    exact .cons _ _ _ _ (.int _ _) (vrs_zip is js vs (by simpa using h1) (by simpa using h2) fun j v hv => h (j + 1) v (by simpa using hv))
  | a :: is, b :: js, [], _, h2, _ => by simp at h2
  | [], _ :: _, _, h1, _, _ => by simp at h1
  | _ :: _, [], _, h1, _, _ => by simp at h1
theorem ints_get {vs : List Value} {ns : List Int} (H : IntsAre vs ns) : ∀ {i : Nat} {v : Value}, vs[i]? = some v → ∃ t, v = .int (ns.getD i 0) t := by
  induction H with
  | nil => intro i v h; simp at h
  | cons n t _ ih =>
    intro i v h
    cases i with
    | zero => simp at h; exact ⟨t, by rw [← h]; rfl⟩
    | succ i => rw [List.getElem?_cons_succ] at h; exact ih h
end
noncomputable def zScope : Scope := { kind := .function, names := [(".0", .local), ("i", .local), ("j", .local)], isGenerator := true, isCoroutine := false, more := [] }
theorem Keeps.rfl' (s : Shared) : Keeps s s := ⟨s.heap, s.toks, rfl, fun _ _ e => e⟩
section
variable {C : Cst} {D : Fd} {k : Nat}
theorem zip_quiet {env : Env} {cl : List (Str × Addr)} {L : Addr} {code : Value} {p2 p3 p4 : Pos} {fp wr : List Addr} {xs ys : Array Value} {is js : List Int} (hx : IntsAre xs.toList is) (hy : IntsAre ys.toList js) (href : Heap) :
    QuietGenT P0 C.w (genEnv zScope cl L code builtinsNs env) "i" "j" [] (.BinOp (.Name "i" p2) .Add (.Name "j" p3) p4) fp wr (fun i vals => ∃ x y, xs[i]? = some x ∧ ys[i]? = some y ∧ vals = #[x, y]) (fun _ => true)
      (fun i v => ∃ t, v = .int (is.getD i 0 + js.getD i 0) t) href where
  tests := fun A' E' i va vb s₂ m₂ hh hP hn e1 e2 hk => by
    rw [List.forIn_nil]; exact wpAny_pure ⟨rfl, Keeps.rfl' _⟩
  elt := fun A' E' i va vb s₂ m₂ hh hP _ hn e1 e2 hk => by
    refine ex2_3 hP fun x y h1 h2 h3 => ?_
    have q : va = x ∧ vb = y := by simpa using h3
    refine ex0_2 q fun eqq0 eqq1 => ?_; subst eqq0; subst eqq1
    refine ex1_1 (ints_get hx (i := i) (v := va) (by simpa using h1)) fun t eqq1 => ?_; subst eqq1
    refine ex1_1 (ints_get hy (i := i) (v := vb) (by simpa using h2)) fun u eqq1 => ?_; subst eqq1
    refine wpAny_BinOp (wpAny_Name (wpAny_loadName_local rfl (by rfl) hn e1 ?_) (by decide))
    refine wpAny_Name (wpAny_loadName_local rfl (by rfl) hn e2 ?_) (by decide)
    exact add_int ⟨⟨_, rfl⟩, ⟨_, _, rfl, fun _ _ e => e⟩⟩
theorem mem4 {P : Addr → Prop} {a b c d : Addr} (h1 : P a) (h2 : P b) (h3 : P c) (h4 : P d) : ∀ x ∈ [a, b, c, d], P x := by
  simp only [List.mem_cons, List.not_mem_nil, or_false]
  rintro x (rfl | rfl | rfl | rfl) <;> assumption
theorem mem7 {P : Addr → Prop} {a b c d e f g : Addr} (h1 : P a) (h2 : P b) (h3 : P c) (h4 : P d) (h5 : P e) (h6 : P f) (h7 : P g) : ∀ x ∈ [a, b, c, d, e, f, g], P x := by
  simp only [List.mem_cons, List.not_mem_nil, or_false]
  rintro x (rfl | rfl | rfl | rfl | rfl | rfl | rfl) <;> assumption
theorem cls_ne {o : Obj} {n : String} (h : o.cls = .type n) : o.cls ≠ .none := by rw [h]; exact fun h => nomatch h
theorem sim_zip {x y : Expr} {a b : Ev} {p1 p2 p3 p4 p5 p6 p7 p8 p9 p10 p11 : Pos} {kt : Nat} (B : Basis C) (hco : D.co = some ((79 : Addr), ("add_callers.<locals>." : Str))) (ht : Fix C D (.Name "tuple" p1) (.type "tuple")) (hz : Fix C D (.Name "zip" p8) (.type "zip"))
    (hx : SimE C D k x a) (hy : SimE C D k y b) (ex : ∀ env, starEach (x :: [y]) env = (false, eval x env) :: starEach [y] env) (ey : ∀ env, starEach (y :: []) env = (false, eval y env) :: starEach [] env) :
    SimE C D k (.Call (.Name "tuple" p1) [.GeneratorExp (.BinOp (.Name "i" p2) .Add (.Name "j" p3) p4) [⟨.Tuple [.Name "i" p5, .Name "j" p6] kt p7, .Call (.Name "zip" p8) [x, y] [] p9, [], 0⟩] zScope p10] [] p11) (cZip a b) := by
  intro ls μ v μ' h W env O A eo ao I F Q hQ
  unfold cZip at h
  split at h
  · rename_i u μ₁ ha
    split at h
    · rename_i w μ₂ hb
      split at h
      · rename_i is js hi hj
        cases h64 : Nat.blt is.length 64 with
        | false => rw [h64] at h; (first | exact no_some h | cases h)
        | true =>
          cases hle : Nat.beq is.length js.length with
          | false => rw [h64, hle] at h; (first | exact no_some h | cases h)
          | true =>
            rw [h64, hle, cond_true, cond_true] at h; (first | exact no_some h | cases h)
            have hleq : is.length = js.length := Nat.eq_of_beq_eq_true hle
            have h64' : is.length < 64 := Nat.le_of_ble_eq_true h64
            refine ex0_2 (eo.co _ hco) fun hcode hqual => ?_
            have hroom : A.depth < recursionLimit := by have := ao.dep; unfold recursionLimit; omega
            refine wpAny_Call_NameR (ht W μ env A eo I _ ?_)
            refine PyProof.Rows.callWith_type1 (PyProof.Rows.args_cons ?_ (by rfl)) (by rfl) (by rfl)
            refine wpAny_GeneratorExp_walksQT (cl := []) ao.hd rfl (closureFor_none (by decide)) (by decide) (by decide) (by decide) (by decide) (by decide) rfl hroom ?_ (fun _ => rfl)
            refine wpAny_Call_NameR (hz W μ env A eo I _ ?_)
            refine PyProof.Rows.callWith_type1 (PyProof.Rows.args_cons ?_ (ex env)) (ex env) (by rw [ey env]; rfl)
            refine hx ls μ _ _ ha W env O A eo ao I F _ fun W₁ pu x₁ I₁ V₁ => ?_
            refine PyProof.Rows.args_cons ?_ (ey env)
            refine hy ls μ₁ _ _ hb W₁ env O A eo ao I₁ (F.mono I x₁) _ fun W₂ pw x₂ I₂ V₂ => ?_
            replace V₁ := VR.mono x₂ (fun _ h => nomatch h) V₁
            refine PyProof.Rows.args_nil ?_
            refine V₁.tupE fun l1 xs n1 ho1 hρ1 hM1 Vs1 => ?_
            refine V₂.tupE fun l2 ys n2 ho2 hρ2 hM2 Vs2 => ?_
            have hL1 : W₂.s.heap.IsTuple l1 xs := ⟨_, ho1, rfl, _, rfl⟩
            have hL2 : W₂.s.heap.IsTuple l2 ys := ⟨_, ho2, rfl, _, rfl⟩
            have hxi := ints_are hi Vs1
            have hyi := ints_are hj Vs2
            have lx : xs.size = is.length := by simpa using hxi.length
            have ly : ys.size = js.length := by simpa using hyi.length
            have hsz : xs.size = ys.size := by rw [lx, ly, hleq]
            refine call_zt hL1 hL2 fun h' z TI TO i1 i2 Dz hzz hZ hk hz1 hz2 hz3 hz4 => ?_
            refine ex0_2 (I₂.keepX (s := { W₂.s with heap := h' }) hk I₂.gens rfl) fun x₃ I₃ => ?_
            have hlim₃ := I₃.lim
            refine wpAny_pyIter_zip hzz ⟨hlim₃, ?_⟩
            rw [show env.qual ++ "<genexpr>" = qualOf 79 from by rw [hqual]; rfl]
            have hp : ((79, 75) : Addr × Addr) ∈ tabs := by decide
            refine mk_gcode (W := W₂.at { W₂.s with heap := h' }) (p := (79, 75)) B I₃ hp hcode fun W₄ cv x₄ I₄ hρ4 hM4 hxb hg4 hs4 htab => ?_
            refine ex3_9 B.bm fun mg bm ob hg0 hbm hne0 hneg hneP hbo hcls hdict hdata => ?_
            rw [eo.gl]
            refine wpAny_builtinsFor (I₄.nsOld hg0 (by decide)) hbm hne0 (I₄.keepOld hbo (by rw [hcls]; exact fun h => nomatch h)) hcls hdict hdata ?_
            refine ex1_3 (I₃.tab _ hp) fun ps hT _ _ => ?_
            have notP : ∀ {c : Addr} {o : Obj}, h'.get? c = some o → o.cls ≠ .none → c ≠ 75 := fun {c o} e hc q => by
              rw [q] at e; have := hT.2; rw [show (W₂.at { W₂.s with heap := h' }).h.get? 75 = h'.get? 75 from rfl, e] at this; (first | exact no_some this | cases this); exact hc rfl
            have old2 : ∀ {c : Addr}, W₂.s.heap.objs.size ≤ c → c ≠ cStatics := fun {c} hc q => by
              refine ex1_2 I₂.lim fun m hq _ => ?_; refine ex3_2 hq fun o es ep e _ => ?_
              exact absurd (Heap.lt_size e) (by rw [← q]; exact Nat.not_lt.mpr hc)
            have hWz : ∀ A' : Around, A'.handled = none → WalksU P0 C.w A' z [z, TI, TO, i1, i2, l1, l2] [z, TO, i1, i2] xs.size _ _ _ := fun A' hA' => zt_walks (prog := P0) (w := C.w) hA' Dz xs ys hsz
            obtain ⟨oz, ez, cz⟩ : ∃ o, h'.get? z = some o ∧ o.cls ≠ .none := ⟨_, hzz, fun h => nomatch h⟩
            have hZ' := id hZ
            obtain ⟨hTI, hTOx, h1, h2, hl1, hl2⟩ := hZ'; refine ex2_1 hTOx fun fa fb hTO => ?_
            have all7 : ∀ b ∈ [z, TI, TO, i1, i2, l1, l2], ∃ o, h'.get? b = some o ∧ o.cls ≠ .none :=
              mem7 ⟨_, hzz, fun h => nomatch h⟩ ⟨_, hTI, fun h => nomatch h⟩ ⟨_, hTO, fun h => nomatch h⟩ (h1.imp fun o q => ⟨q.1, cls_ne q.2.1⟩) (h2.imp fun o q => ⟨q.1, cls_ne q.2.1⟩) (hl1.imp fun o q => ⟨q.1, cls_ne q.2.1⟩) (hl2.imp fun o q => ⟨q.1, cls_ne q.2.1⟩)
            have hst : IsZip W₄.s.heap z TI TO .none ∧ ZtAt W₄.s.heap z TI TO i1 i2 l1 l2 xs ys 0 :=
              (hWz A ao.hd).frame 0 h' W₄.s.heap ⟨hzz, hZ⟩ fun b hb o e => hxb b o (by refine ex1_2 (all7 b hb) fun o' e' c' => ?_; exact notP e' c') e
            have hfp : ∀ b ∈ [z, TI, TO, i1, i2, l1, l2], b < W₄.s.heap.objs.size := fun b hb => by
              refine ex1_2 (all7 b hb) fun o' e' _ => ?_; exact Nat.lt_of_lt_of_le (Heap.lt_size e') hs4
            have hwr : ∀ b ∈ [z, TO, i1, i2], W₂.s.heap.objs.size ≤ b := mem4 (by assumption) (by assumption) (by assumption) (by assumption)
            refine ⟨z, _, _, xs.size, _, _, _, fun _ => true, fun i v => ∃ t, v = .int (is.getD i 0 + js.getD i 0) t, rfl, hWz, ?_, hst, hfp, I₄.lim, ?_, ?_, ?_⟩
            · rintro i vals ⟨x, y, _, _, rfl⟩; exact ⟨x, y, rfl⟩
            · intro hm; exact old2 (hwr _ hm) rfl
            · intro href _
              exact zip_quiet hxi hyi href
            · intro g h₅ tk gs hgb hag hsz₅ hk₅ hWS hGA
              refine PyProof.Rows.args_nil ?_
              have hpass : passing (fun _ => true) xs.size 0 = List.range xs.size := by unfold passing; simp
              rw [hpass] at hWS
              refine call_tuple_gen hWS.in4_3 (fun i s' st => st.1.typeIs) hGA ?_ List.mem_cons_self (fun s' acc hm hacc => ?_) ?_
              · intro b hb
                show b < h₅.objs.size
                rw [hsz₅]
                rcases List.mem_cons.mp hb with q | hb
                · rw [q]; exact Nat.lt_succ_self _
                · rcases List.mem_cons.mp hb with q | hb
                  · rw [q]; exact Nat.lt_succ_of_lt hag
                  · exact Nat.lt_succ_of_lt (Nat.lt_trans (List.mem_range.mp hb) hag)
              · refine ex2_4 htab fun ps₂ more t1 t2 t3 t4 => ?_
                refine ex1_3 (I₂.tab _ hp) fun ps₀ t0 _ _ => ?_
                have e0 : ps₂ = ps₀ := by
                  have := t1.2.symm.trans (t0.keeps hk).2
                  injection this with this; injection this with _ _ this; injection this
                subst e0
                have lt2 : ∀ {b : Addr} {o : Obj}, W₂.h.get? b = some o → b < W₂.h.objs.size := fun e => Heap.lt_size e
                have s24 : W₂.h.objs.size ≤ W₄.s.heap.objs.size := Nat.le_trans (Nat.le_of_lt (Nat.lt_of_le_of_lt hz1 (Heap.lt_size hzz))) hs4
                have nw : ∀ {b : Addr}, b < W₂.h.objs.size → b ∉ W₄.s.heap.objs.size :: [z, TO, i1, i2] := fun {b} hb hm => by
                  rcases List.mem_cons.mp hm with q | hm
                  · rw [q] at hb; exact absurd (Nat.lt_of_lt_of_le hb s24) (Nat.lt_irrefl _)
                  · exact absurd (Nat.lt_of_lt_of_le hb (hwr b hm)) (Nat.lt_irrefl _)
                have kp : Heap.ExtBut 75 W₂.h (s'.heap.push { cls := .type "tuple", data := .seq acc }) := fun b o hb e =>
                  Heap.get?_push_of_some _ (hm.heap b o (nw (lt2 e)) (hk₅ b o (hxb b o hb (hk b o e))))
                have kt : (s'.heap.push { cls := .type "tuple", data := .seq acc }).TableAt 79 75 (ps₂ ++ more) := by
                  have e2 := t2.2; refine ex2_2 t2.1 fun o vs e r => ?_
                  have e2' := t0.2; refine ex2_2 t0.1 fun o' vs' e' _ => ?_
                  exact ⟨⟨o, vs, Heap.get?_push_of_some _ (hm.heap 79 o (nw (lt2 e')) (hk₅ 79 o e)), r⟩, Heap.get?_push_of_some _ (hm.heap 75 _ (nw (lt2 e2')) (hk₅ 75 _ e2))⟩
                have hnew : TabIn (W₂.at { s' with heap := s'.heap.push { cls := .type "tuple", data := .seq acc } }) (79, 75) := by
                  refine ⟨_, kt, t3, fun pos cv hv => ?_⟩
                  refine ex4_7 (t4 pos cv hv) fun c o vs t q1 q2 q3 q4 q5 q6 q7 => ?_
                  refine ⟨c, o, vs, t, q1, Heap.get?_push_of_some _ (hm.heap c o (fun hc => ?_) (hk₅ c o q2)), q3, (by rw [hρ4] at q4; exact q4), (by rw [hM4] at q5; exact q5), q6, q7⟩
                  obtain ⟨hz4, ⟨_, hq1, hq2, hq3, _, _⟩⟩ := hst; refine ex2_1 hq1 fun ga gb hTO4 => ?_; refine ex1_3 hq2 fun o1 e1 r1 r1' => ?_; refine ex1_3 hq3 fun o2 e2 r2 r2' => ?_
                  simp only [List.mem_cons, List.not_mem_nil, or_false] at hc
                  rcases hc with q | q | q | q | q <;> rw [q] at q2
                  · exact Nat.lt_irrefl _ (Heap.lt_size q2)
                  · have q2 := hz4.symm.trans q2; (first | exact no_some q2 | cases q2); (first | exact no_some q6 | cases q6); simp at q7
                  · have q2 := hTO4.symm.trans q2; (first | exact no_some q2 | cases q2); (first | exact no_some q6 | cases q6)
                  · have q2 := e1.symm.trans q2; (first | exact no_some q2 | cases q2); rw [r1'] at q6; (first | exact no_some q6 | cases q6); simp at q7
                  · have q2 := e2.symm.trans q2; (first | exact no_some q2 | cases q2); rw [r2'] at q6; (first | exact no_some q6 | cases q6); simp at q7
                have hgens : AllBare s'.gens := AllBare.movedS (s := { W₄.s with gens := W₄.s.gens.push gs, toks := tk, heap := h₅ }) (I₄.gens.push hgb) hm
                have hos : s'.os = W₂.s.os := hm.os.trans (I₄.os.trans I₂.os.symm)
                refine ex0_2 (I₂.tabStepG B (s' := { s' with heap := s'.heap.push { cls := .type "tuple", data := .seq acc } }) hp kp t0 kt hnew hgens hos) fun x₅ I₅ => ?_
                have fr : ∀ a, a ∈ W₂.ρ ∨ a ∈ W₂.M → a ≠ s'.heap.objs.size := fun a ha q => by
                  have ne : a ≠ 75 := fun q => by
                    have := (B.tab _ hp).2
                    rcases ha with ha | ha
                    · have h0 := (I₂.freshρ a ha).1; rw [q, this] at h0; (first | exact no_some h0 | cases h0)
                    · have h0 := (I₂.freshM a ha).1; rw [q, this] at h0; (first | exact no_some h0 | cases h0)
                  have : ∃ o, W₂.h.get? a = some o := ha.elim (fun h => (I₂.freshρ a h).2) fun h => (I₂.freshM a h).2.1
                  refine ex1_1 this fun o e => ?_
                  have := Heap.lt_size (hm.heap a o (nw (lt2 e)) (hk₅ a o (hxb a o ne (hk a o e))))
                  rw [q] at this; exact Nat.lt_irrefl _ this
                refine hQ _ _ ((x₁.trans x₂).trans x₅) I₅ (.tup _ _ acc _ (Heap.get?_push_size _ rfl) (fun h => fr _ (.inl h) rfl) (fun h => fr _ (.inr h) rfl) ?_)
                have hacc' := hacc.1
                rw [List.length_range] at hacc'
                refine vrs_zip is js _ hleq (by rw [Array.length_toList, hacc', lx]) fun j v hv => ?_
                refine ex1_2 (hacc.2 j v (by simpa using hv)) fun i g1 g2 => ?_
                have gi : i = j := by
                  have := List.getElem?_eq_some_iff.mp g1
                  obtain ⟨hlt, e⟩ := this
                  rw [List.getElem_range] at e; exact e.symm
                rw [gi] at g2; exact g2
              · rw [List.length_range]; unfold sizeLine; omega
      · (first | exact no_some h | cases h)
    · (first | exact no_some h | cases h)
  · (first | exact no_some h | cases h)
end
end Mine
end
section
open PySem PySem.W PyProof.Rows PySem.Calls PySem.SeqAt
set_option maxRecDepth 100000
namespace Mine
noncomputable abbrev ZD : Value := .type "ZeroDivisionError"
noncomputable def Live (W : Wd) (fs : List Env) : Prop := ∀ e ∈ fs, e.scope.kind ≠ .module ∧ ∃ L o, e.frame = some L ∧ L ∈ W.M ∧ W.h.get? L = some o ∧ ∀ vs, o.data ≠ .fields vs
noncomputable abbrev frs (fs : List Env) : List Addr := fs.filterMap (·.frame)
theorem funF {W : Wd} {as : List Addr} : ∀ {fs : List Env}, Live W fs → (∀ a ∈ frs fs, a ∈ as) → W.h.FunFrames (hideAll W.h as) fs
  | [], _, _ => trivial
  | e :: fs, h, hin => by
    obtain ⟨h1, L, o, h2, h3, h4, h5⟩ := h e (.head _)
    have he : frs (e :: fs) = L :: frs fs := by unfold frs; rw [List.filterMap_cons, h2]
    refine ⟨h1, ⟨L, o, h2, hideAll_none _ (hin L (by rw [he]; exact .head _)), h4, h5⟩, funF (fun e' he' => h e' (.tail _ he')) fun a ha => hin a (by rw [he]; exact .tail _ ha)⟩
theorem Live.mem {W : Wd} {fs : List Env} (h : Live W fs) {a : Addr} (ha : a ∈ frs fs) : a ∈ W.M ∧ ∃ o, W.h.get? a = some o ∧ ∀ vs, o.data ≠ .fields vs := by
  refine ex1_2 (List.mem_filterMap.mp ha) fun e he hf => ?_
  obtain ⟨_, L, o, h2, h3, h4, h5⟩ := h e he
  rw [h2] at hf
  (first | exact no_some hf | cases hf)
  exact ⟨h3, o, h4, h5⟩
structure Slt (S : List Addr) (h h' : Heap) : Prop where
  kp : ∀ b o, b ∉ S → h.get? b = some o → h'.get? b = some o
  sl : ∀ b o, b ∈ S → h.get? b = some o → ∃ z, h'.get? b = some { o with slots := z }
theorem Slt.up {S : List Addr} {h h' : Heap} (x : Slt S h h') {b : Addr} {o : Obj} (e : h.get? b = some o) : ∃ z, h'.get? b = some { o with slots := z } := by
  by_cases q : b ∈ S
  · exact x.sl b o q e
  · exact ⟨o.slots, x.kp b o q e⟩
section
variable {C : Cst} {W : Wd} {μ : MH} {A : Around}
theorem Inv.slots (B : Basis C) (I : Inv C W μ) {S : List Addr} (hS : ∀ a ∈ S, a ∈ W.M) {s : Shared} (x : Slt S W.h s.heap) (hg : s.gens = W.s.gens) (hos : s.os = W.s.os) : Ext S W (W.at s) ∧ Inv C (W.at s) μ := by
  have neC : ∀ b o, C.H.get? b = some o → b ∉ S := fun b o e q => by have := (I.freshM b (hS b q)).1; rw [e] at this; (first | exact no_some this | cases this)
  have same : ∀ b o, C.H.get? b = some o → s.heap.get? b = W.h.get? b := fun b o e => by
    refine ex1_1 (I.old.there b o e) fun o' h' => ?_
    rw [h']; exact x.kp b o' (neC b o e) h'
  have X : Ext S W (W.at s) := ⟨fun _ _ h => h, fun b o h _ _ hb => x.kp b o hb h, fun b o h => let ⟨z, e⟩ := x.up h; ⟨_, e⟩, fun _ h => .inl h, fun _ h => .inl h, fun _ h => h⟩
  have tabk : ∀ p ∈ tabs, ∀ ps, W.h.TableAt p.1 p.2 ps → s.heap.TableAt p.1 p.2 ps := fun p hp ps h => by
    obtain ⟨⟨o, vs, h1, r⟩, t⟩ := h
    obtain ⟨⟨o', vs', h1', _⟩, t'⟩ := B.tab p hp
    exact ⟨⟨o, vs, x.kp _ _ (neC _ _ h1') h1, r⟩, x.kp _ _ (neC _ _ t') t⟩
  refine ⟨X, ?_⟩
  exact
    { old := by
        refine ⟨fun b o e => ?_, fun b o e => let ⟨o', ho'⟩ := I.old.there b o e; ⟨o', (same b o e).trans ho'⟩⟩
        rcases I.old.old b o e with y | ⟨t, hc, vs, more, hv, y⟩ | ⟨rfl, hc, ⟨o', es, n, ho', r⟩, z⟩
        · exact .inl ((same b o e).trans y)
        · exact .inr (.inl ⟨t, hc, vs, more, hv, (same b o e).trans y⟩)
        · exact .inr (.inr ⟨rfl, hc, ⟨o', es, n, (same _ o e).trans ho', r⟩, fun key => by show staticOf s.heap key = _ ∨ _; rw [OldK.staticOf_congr (same _ o e) key]; exact z key⟩)
      lim := by
        obtain ⟨m, ⟨o, es, ep, e, r⟩, h2⟩ := I.lim
        refine ex4_2 B.st fun m₀ o₀ es₀ ep₀ e₀ _ => ?_
        exact ⟨m, ⟨o, es, ep, x.kp _ _ (neC _ _ e₀) e, r⟩, h2⟩
      tab := fun p hp => (I.tab p hp).wk (X.wk hS) fun ps h => tabk p hp ps h
      ok := I.ok
      objs := fun n o h => by
        refine ex1_2 (I.objs n o h) fun a h1 h2 => ?_
        exact ⟨a, h1, OR.mono X hS (fun ob e => x.kp a ob (fun q => (I.freshM a (hS a q)).2.2 (List.mem_of_getElem? h1)) e) h2⟩
      len := I.len
      nd := I.nd
      freshρ := fun a ha => let ⟨h1, o, h2⟩ := I.freshρ a ha; ⟨h1, _, (x.up h2).choose_spec⟩
      freshM := fun a ha => let ⟨h1, ⟨o, h2⟩, h4⟩ := I.freshM a ha; ⟨h1, ⟨_, (x.up h2).choose_spec⟩, h4⟩
      gens := by show AllBare s.gens; rw [hg]; exact I.gens
      os := hos.trans I.os
      big := I.big
      g3 := I.g3 }
structure ExtS (S : List Addr) (W W' : Wd) : Prop where
  x : Ext S W W'
  sl : ∀ b ∈ S, ∀ o, W.h.get? b = some o → ∃ z, W'.h.get? b = some { o with slots := z }
theorem ExtS.at {S : List Addr} {W W' : Wd} (I : Inv C W μ) (x : ExtS S W W') {b : Addr} (hb : b ∈ W.M) {o : Obj} (e : W.h.get? b = some o) : ∃ z, W'.h.get? b = some { o with slots := z } := by
  by_cases q : b ∈ S
  · exact x.sl b q o e
  · exact ⟨o.slots, x.x.fr b o e (.inr hb) (I.freshM b hb).2.2 q⟩
theorem ExtS.cell {S : List Addr} {W W' : Wd} (I : Inv C W μ) (x : ExtS S W W') {b : Addr} (hb : b ∈ W.M) {v : Option Value} (h : W.h.IsCell b v) : W'.h.IsCell b v := by
  refine ex1_2 h fun o e d => ?_
  refine ex1_1 (x.at I hb e) fun z e' => ?_
  exact ⟨_, e', d⟩
theorem ExtS.ns {S : List Addr} {W W' : Wd} (I : Inv C W μ) (x : ExtS S W W') {b : Addr} (hb : b ∈ W.M) {m : Str → Option Value} (h : W.h.Ns b m) : W'.h.Ns b m := by
  refine ex3_3 h fun o es ep e d r => ?_
  refine ex1_1 (x.at I hb e) fun z e' => ?_
  exact ⟨_, es, ep, e', d, r⟩
theorem FrOk.slots {W' : Wd} {S : List Addr} {env : Env} {own : List Nat} {O : List Addr} {ls : Locs} (I : Inv C W μ) (x : ExtS S W W') (hS : ∀ a ∈ S, a ∈ W.M) (F : FrOk C W env own O ls) : FrOk C W' env own O ls where
  LO := F.LO
  OM := fun a h => x.x.subM _ (F.OM a h)
  ns := let ⟨m, h⟩ := F.ns; ⟨m, x.ns I F.LM h⟩
  cM := fun n c h => let ⟨h1, h2, v, h3⟩ := F.cM n c h; ⟨x.x.subM _ h1, h2, v, x.cell I h1 h3⟩
  cap := F.cap
  ow := F.ow
  vars := fun n v hn h hv => by
    refine ex1_2 (F.vars n v hn h hv) fun pv h1 h2 => ?_
    refine ⟨pv, VR.mono x.x hS h1, ?_⟩
    cases h2 with
    | loc m a1 a2 a3 => exact .loc m a1 (x.ns I F.LM a2) a3
    | cell c a1 a2 a3 => exact .cell c a1 a2 (x.cell I (F.cM _ _ (mem_of_lookup a2)).1 a3)
    | free c a1 a2 a3 => exact .free c a1 a2 (x.cell I (F.cM _ _ (mem_of_lookup a2)).1 a3)
theorem dm_raise {fs : List Env} {va : Value} {u : Tok} (B : Basis C) (I : Inv C W μ) (hd : A.handled = none) (hdep : A.depth < recursionLimit) (hA : A.frames = some fs) (hl : Live W fs) {R : Result → Shared → Prop}
    (hR : ∀ h' e a0 tk, Heap.FlyingW (hideAll W.h (frs fs)) fs e ZD a0 h' → W.h.UpToSlots h' → R (.error (.ref e)) { W.s with heap := h', toks := tk }) :
    codeAny (model P0 C.w) A (.call (.ref 151) ⟨[va, .int 0 u], []⟩) R W.s := by
  have KK := I.K B
  have hK : ∃ o fd r orelse p1 p2 p3 p4 p5 p6 pr, (K C.w.params).lookup 151 = some o ∧ o.data = .func fd ∧ fd.body = .stmts [.If (.Compare (.Name (nm 35) p1) [.Eq] [.Constant (.int 0) p2 p3] p4) [.Raise (some (.Name ("ZeroDivisionError" : Str) p5)) none p6] orelse pr] ∧ r = fd.scope ∧
      (∃ c oc vs t, fd.code = .ref c ∧ (K C.w.params).lookup c = some oc ∧ oc.data = .fields vs ∧ vs[1]? = some (.str fd.qualname t)) ∧ fd.globals = mainGlobals ∧ fd.closure = [] ∧ fd.builtins = builtinsNs ∧ fd.scope = (tD 17).2.2 ∧
      (∀ s va vb, BindsTo s fd ⟨[va, vb], []⟩ [(nm 34, va), (nm 35, vb)]) :=
    ⟨_, _, _, _, _, _, _, _, _, _, _, rfl, rfl, rfl, rfl, ⟨_, _, _, _, rfl, rfl, rfl, rfl⟩, rfl, rfl, rfl, rfl, fun s va vb => BindsTo.of_eq rfl⟩
  obtain ⟨o, fd, _, orelse, p1, p2, p3, p4, p5, p6, pr, hK, hdata, hbody, _, hcr, hgl, hclo, hbu, hsc, hbind⟩ := hK
  have hcd : W.s.heap.CodeRec fd.code fd.qualname := by
    refine ex4_4 hcr fun c oc vs t h1 h2 h3 h4 => ?_
    exact ⟨c, oc, vs, t, h1, KK c oc h2, h3, h4⟩
  have hkind : fd.scope.kind = .function := by rw [hsc]; rfl
  refine codeAny_call_def (fd := fd) (binds := [(nm 34, va), (nm 35, .int 0 u)]) hdep (KK 151 o hK) hdata I.lim hcd hbody (hbind _ _ _) (by rw [hsc]; decide +kernel) (by rw [hsc]; intro x hx; simp only [List.mem_cons, List.not_mem_nil, or_false] at hx; rcases hx with rfl | rfl <;> rfl) (fun h₁ hns hk => ?_) (by rw [hsc]; rfl) (by rw [hsc]; rfl) hkind
  have eo : EnvOk D_idm (callEnv fd W.s.heap.objs.size 151) := ⟨hsc, rfl, hgl, hbu, fun p h => by (first | exact no_some h | cases h)⟩
  refine wpAny_execs_cons (wpAny_If (up ?_))
  refine wpAny_isTrue_Compare1 (wpAny_Name (wpAny_loadName_local hkind (by show fd.scope.names.lookup _ = _; rw [hsc]; rfl) hns (by rfl) ?_) (by decide)) (by with_unfolding_all rfl)
  refine wpAny_Constant_int (eq_int (wpAny_truthy_bool ?_))
  rw [if_pos (by decide)]
  refine wpAny_execs_cons (Raise_classB hd excClass_ZeroDivisionError (by rw [isSubtype_type]; kernel_rfl) (up ?_) fun h' e hx => ?_)
  · exact (fix_boot (D := D_idm) B p5 rfl rfl rfl) (W.at _) μ _ _ eo (I.keep (s := { W.s with heap := h₁, toks := W.s.toks + 2 + 1 }) hk I.gens rfl) _ ⟨rfl, rfl⟩
  · refine ex2_3 hx.there fun ob tv he hcls hda => ?_
    have k2 : OKeep W.h h' := fun b o h => hx.keeps b o (hk b o h)
    have nope : ∀ b, W.h.get? b = none → (hideAll W.h (frs fs)).get? b = none := fun b h => by
      cases q : (hideAll W.h (frs fs)).get? b with
      | none => rfl
      | some o => have := of_hideAll _ q; rw [h] at this; (first | exact no_some this | cases this)
    have hnew : (hideAll W.h (frs fs)).get? e = none := nope e (by
      cases q : W.h.get? e with
      | none => rfl
      | some o => have := hk e o q; rw [show h₁.get? e = none from hx.new] at this; (first | exact no_some this | cases this))
    refine wpAny_leaving_firstW (base := hideAll W.h (frs fs)) (outer := fs) (L := W.s.heap.objs.size) (a0 := tv) (Around.frames_deeper hA) ?_ rfl he (fun b o q => k2 b o (of_hideAll _ q)) hnew hda rfl rfl fun h'' hL => ?_
    · refine .cons (by show fd.scope.kind ≠ .module; rw [hkind]; decide) rfl (hns.keeps hx.keeps) (nope _ (Heap.get?_none_of_le (Nat.le_refl _))) ?_
      exact (funF hl fun _ h => h).of_keeps fun b o h _ => ⟨o, k2 b o h, rfl⟩
    · obtain ⟨k1, ⟨_, _, k3⟩, k4, k5⟩ := hL
      refine hR h'' e tv _ ⟨k1, hnew, k3, by rw [hcls] at k4; exact k4⟩ fun b o h hn => k5 b o (k2 b o h) hn
end
end Mine
end
section
open PySem PySem.W PyProof.Rows PySem.Calls PySem.SeqAt
set_option maxRecDepth 100000
namespace Mine
structure RCx (D : Fd) (k : Nat) (A : Around) (env : Env) (O : List Addr) (outs : List Env) : Prop where
  eo : EnvOk D env
  ao : AOk k A
  fr : env.frame = some env.locals
  fs : A.frames = some (env :: outs)
  no : ∀ L ∈ frs outs, L ∉ O
structure RX (outs : List Env) (O : List Addr) (W W' : Wd) : Prop where
  x : Ext (frs outs ++ O) W W'
  sl : ∀ b ∈ frs outs, ∀ o, W.h.get? b = some o → ∃ z, W'.h.get? b = some { o with slots := z }
theorem RX.refl (outs : List Env) (O : List Addr) (W : Wd) : RX outs O W W := ⟨Ext.refl _ _, fun _ _ o e => ⟨o.slots, e⟩⟩
theorem RX.trans {outs : List Env} {O : List Addr} {W₁ W₂ W₃ : Wd} (x : RX outs O W₁ W₂) (y : RX outs O W₂ W₃) : RX outs O W₁ W₃ :=
  ⟨x.x.trans y.x, fun b hb o e => let ⟨_, e1⟩ := x.sl b hb o e; let ⟨z, e2⟩ := y.sl b hb _ e1; ⟨z, e2⟩⟩
section
variable {C : Cst} {W W' : Wd} {μ : MH} {outs : List Env} {O : List Addr}
theorem RX.of (I : Inv C W μ) (hl : Live W outs) (no : ∀ L ∈ frs outs, L ∉ O) (x : Ext O W W') : RX outs O W W' :=
  ⟨x.weaken fun b hb => List.mem_append_right _ hb, fun b hb o e => ⟨o.slots, x.fr b o e (.inr (hl.mem hb).1) (I.freshM b (hl.mem hb).1).2.2 (no b hb)⟩⟩
theorem Live.slots {S : List Addr} (I : Inv C W μ) (hl : Live W outs) (x : ExtS S W W') : Live W' outs := fun e he => by
  obtain ⟨h1, L, o, h2, h3, h4, h5⟩ := hl e he
  refine ex1_1 (x.at I h3 h4) fun z h6 => ?_
  exact ⟨h1, L, _, h2, x.x.subM _ h3, h6, h5⟩
theorem Live.step (hl : Live W outs) (x : RX outs O W W') : Live W' outs := fun e he => by
  obtain ⟨h1, L, o, h2, h3, h4, h5⟩ := hl e he
  refine ex1_1 (x.sl L (List.mem_filterMap.mpr ⟨e, he, h2⟩) o h4) fun z h6 => ?_
  exact ⟨h1, L, _, h2, x.x.subM _ h3, h6, h5⟩
theorem Live.ext (I : Inv C W μ) (hl : Live W outs) (x : Ext [] W W') : Live W' outs := hl.step (RX.of (O := []) I hl (fun _ _ h => nomatch h) x)
end
noncomputable def SimSX (C : Cst) (D : Fd) (A : Around) (env : Env) (O : List Addr) (outs : List Env) (st : Stmt) (g : Es) : Prop :=
  ∀ ls μ fl ls' μ', g ls μ = some (fl, ls', μ') → ∀ W, Inv C W μ → FrOk C W env D.own O ls → Live W outs → ∀ Q : Flow → Shared → Prop,
    (∀ W' f, RX outs O W W' → Inv C W' μ' → FrOk C W' env D.own O ls' → FlR C W' fl f → Q f W'.s) → wpAny (model P0 C.w) A (exec st env) Q NoE W.s
noncomputable def SimBX (C : Cst) (D : Fd) (A : Around) (env : Env) (O : List Addr) (outs : List Env) (b : List Stmt) (g : Es) : Prop :=
  ∀ ls μ fl ls' μ', g ls μ = some (fl, ls', μ') → ∀ W, Inv C W μ → FrOk C W env D.own O ls → Live W outs → ∀ Q : Flow → Shared → Prop,
    (∀ W' f, RX outs O W W' → Inv C W' μ' → FrOk C W' env D.own O ls' → FlR C W' fl f → Q f W'.s) → wpAny (model P0 C.w) A (execs b env) Q NoE W.s
section
variable {C : Cst} {D : Fd} {k : Nat} {A : Around} {env : Env} {O : List Addr} {outs : List Env}
theorem sx_of {st : Stmt} {g : Es} (X : RCx D k A env O outs) (h : SimS C D k st g) : SimSX C D A env O outs st g := by
  intro ls μ fl ls' μ' hg W I F hl Q hQ
  exact h ls μ fl ls' μ' hg W env O A X.eo X.ao I F Q fun W' f x I' F' R => hQ W' f (.of I hl X.no x) I' F' R
theorem bx_of {b : List Stmt} {g : Es} (X : RCx D k A env O outs) (h : SimB C D k b g) : SimBX C D A env O outs b g := by
  intro ls μ fl ls' μ' hg W I F hl Q hQ
  exact h ls μ fl ls' μ' hg W env O A X.eo X.ao I F Q fun W' f x I' F' R => hQ W' f (.of I hl X.no x) I' F' R
theorem bx_cons {st : Stmt} {r : List Stmt} {a b : Es} (ha : SimSX C D A env O outs st a) (hb : SimBX C D A env O outs r b) : SimBX C D A env O outs (st :: r) (bCons a b) := by
  intro ls μ fl ls' μ' h W I F hl Q hQ
  unfold bCons at h
  refine wpAny_execs_cons ?_
  split at h
  · rename_i ls₁ μ₁ h1
    refine ha ls μ _ ls₁ μ₁ h1 W I F hl _ fun W₁ f x₁ I₁ F₁ R₁ => ?_
    cases R₁
    exact hb ls₁ μ₁ fl ls' μ' h W₁ I₁ F₁ (hl.step x₁) Q fun W' f x I' F' R => hQ W' f (x₁.trans x) I' F' R
  · rename_i hne
    refine ha ls μ fl ls' μ' h W I F hl _ fun W₁ f x₁ I₁ F₁ R₁ => ?_
    have q := hQ W₁ f x₁ I₁ F₁ R₁
    cases R₁ with
    | next => exact absurd h (hne _ _)
    | brk => exact q
    | cont => exact q
    | ret v pv V => exact q
theorem sx_while {t : Expr} {body : List Stmt} {f : Et} {b : Es} (X : RCx D k A env O outs) (pos : Pos) (ht : SimT C D k t f) (hb : SimBX C D A env O outs body b) : SimSX C D A env O outs (.While t body [] pos) (sWhile f b) := by
  intro ls μ fl ls' μ' h W I F hl Q hQ
  refine wpAny_While ?_
  refine codeAny_whileLoop (fun n s => ∃ ls μ W₁, s = W₁.s ∧ whGo f b n ls μ = some (fl, ls', μ') ∧ RX outs O W W₁ ∧ Inv C W₁ μ ∧ FrOk C W₁ env D.own O ls ∧ Live W₁ outs) ?_ 60 ⟨ls, μ, W, rfl, h, RX.refl _ _ _, I, F, hl⟩
  intro n s hs0; refine ex3_6 hs0 fun ls μ W₁ eqs h x I F hl => ?_; subst eqs; clear hs0
  cases n with
  | zero => (first | exact no_some h | cases h)
  | succ n =>
    replace h : (match f ls μ with
      | some (false, μ') => some (.next, ls, μ')
      | some (true, μ') => match b ls μ' with
        | some (.next, ls₂, μ₂) => whGo f b n ls₂ μ₂
        | some (.cont, ls₂, μ₂) => whGo f b n ls₂ μ₂
        | some (.brk, ls₂, μ₂) => some (.next, ls₂, μ₂)
        | some (.ret v, ls₂, μ₂) => some (.ret v, ls₂, μ₂)
        | none => none
      | none => none) = some (fl, ls', μ') := h
    split at h
    · rename_i μ₁ h1
      (first | exact no_some h | cases h)
      refine up (ht _ μ false _ h1 W₁ env O A X.eo X.ao I F _ fun W₂ x₂ I₂ => ?_)
      rw [if_neg (by decide)]
      exact wpAny_execs_nil (hQ W₂ _ (x.trans (.of I hl X.no x₂.lift)) I₂ (F.mono I x₂) .next)
    · rename_i μ₁ h1
      refine up (ht ls μ true _ h1 W₁ env O A X.eo X.ao I F _ fun W₂ x₂ I₂ => ?_)
      rw [if_pos rfl]
      have F₂ := F.mono I x₂
      cases hb' : b ls μ₁ with
      | none => simp only [hb'] at h; (first | exact no_some h | cases h)
      | some r =>
        obtain ⟨fl₂, ls₂, μ₂⟩ := r
        simp only [hb'] at h
        have y₂ : RX outs O W₁ W₂ := .of I hl X.no x₂.lift
        refine up (hb ls μ₁ fl₂ ls₂ μ₂ hb' W₂ I₂ F₂ (hl.step y₂) _ fun W₃ g x₃ I₃ F₃ R₃ => ?_)
        have x' := (x.trans y₂).trans x₃
        have hl₃ := (hl.step y₂).step x₃
        cases R₃ with
        | next => exact ⟨n, Nat.lt_succ_self n, ls₂, μ₂, W₃, rfl, h, x', I₃, F₃, hl₃⟩
        | cont => exact ⟨n, Nat.lt_succ_self n, ls₂, μ₂, W₃, rfl, h, x', I₃, F₃, hl₃⟩
        | brk => (first | exact no_some h | cases h); exact hQ W₃ _ x' I₃ F₃ .next
        | ret v' pv' V' => (first | exact no_some h | cases h); exact hQ W₃ _ x' I₃ F₃ (.ret _ _ V')
    · (first | exact no_some h | cases h)
end
theorem item_mu {x y v : MV} {μ μ' : MH} (h : gItem x y μ = some (v, μ')) : μ' = μ := by
  unfold gItem at h
  repeat' (first | ((first | exact no_some h | cases h); rfl) | (first | exact no_some h | cases h) | split at h | (rw [cond_eq_ite] at h))
theorem last_inv {j : Int} {ls : Locs} {μ μ' : MH} {v : MV} (h : e_last j ls μ = some (v, μ')) : ∃ p q, look ls 81 = some p ∧ gItem p (.int (-1)) μ = some (q, μ) ∧ gItem q (.int j) μ = some (v, μ) ∧ μ' = μ := by
  unfold e_last cBin cVar cInt at h
  cases hp : look ls 81 with
  | none => rw [hp] at h; (first | exact no_some h | cases h)
  | some p =>
    rw [hp] at h
    simp only at h
    cases hq : gItem p (.int (-1)) μ with
    | none => rw [hq] at h; (first | exact no_some h | cases h)
    | some r =>
      obtain ⟨q, μ₁⟩ := r
      have e := item_mu hq
      subst e
      rw [hq] at h
      simp only at h
      have e := item_mu h
      subst e
      exact ⟨p, q, rfl, hq, h, rfl⟩
end Mine
end
section
open PySem PySem.W PyProof.Rows PySem.Calls PySem.SeqAt
set_option maxRecDepth 100000
namespace Mine
theorem oEq_mu {x v : MV} {μ μ₁ : MH} (h : oEq x (.int 0) μ = some (v, μ₁)) : μ₁ = μ ∧ ∃ b, v = .bool b := by
  cases x with
  | int a => replace h : some (MV.bool (eqI a 0), μ) = _ := h; (first | exact no_some h | cases h); exact ⟨rfl, _, rfl⟩
  | _ => (first | exact no_some h | cases h)
theorem oEq_true {x : MV} {μ μ₁ : MH} (h : oEq x (.int 0) μ = some (.bool true, μ₁)) : x = .int 0 := by
  cases x with
  | int a =>
    replace h : some (MV.bool (eqI a 0), μ) = _ := h
    injection h with h; injection h with h _; injection h with h
    rw [eqI_iff.mp h]
  | _ => (first | exact no_some h | cases h)
theorem cmp0_inv {ls : Locs} {μ μ₁ : MH} {v : MV} (h : cBin oEq (e_last 0) (cInt 0) ls μ = some (v, μ₁)) : ∃ x, e_last 0 ls μ = some (x, μ) ∧ oEq x (.int 0) μ = some (v, μ) ∧ μ₁ = μ := by
  unfold cBin at h
  cases hx : e_last 0 ls μ with
  | none => rw [hx] at h; (first | exact no_some h | cases h)
  | some r =>
    obtain ⟨x, μ₂⟩ := r
    have e : μ₂ = μ := by refine ex2_4 (last_inv hx) fun _ _ _ _ _ e => ?_; exact e
    subst e
    rw [hx] at h
    replace h : oEq x (.int 0) μ₂ = some (v, μ₁) := h
    have e := (oEq_mu h).1
    subst e
    exact ⟨x, rfl, h, rfl⟩
theorem try_true {ls : Locs} {μ μ₁ : MH} (h : tOf (cBin oEq (e_last 0) (cInt 0)) ls μ = some (true, μ₁)) : e_last 0 ls μ = some (.int 0, μ) ∧ μ₁ = μ := by
  rcases tOf_spec h with h1 | ⟨_, h2⟩
  · refine ex1_3 (cmp0_inv h1) fun x e1 e2 e3 => ?_
    rw [oEq_true e2] at e1
    exact ⟨e1, e3⟩
  · (first | exact no_some h2 | cases h2)
section
variable {C : Cst} {A : Around} {env : Env} {O : List Addr} {outs : List Env} {W : Wd} {μ : MH}
theorem raw_last {j : Int} {ls : Locs} {v : MV} {q1 q3 q4 q5 q7 q8 : Pos} {q2 q6 : Nat} {Q : Value → Shared → Prop} (h : e_last j ls μ = some (v, μ)) (eo : EnvOk D_run env) (I : Inv C W μ) (F : FrOk C W env D_run.own O ls) (hQ : Says C W v μ Q) :
    wpAny (model P0 C.w) A (eval (.Subscript (.Subscript (.Name (nm 81) q1) (.UnaryOp .USub (.Constant (.int 1) q2 q3) q4) q5) (.Constant (.int j) q6 q7) q8) env) Q NoE W.s := by
  refine ex2_4 (last_inv h) fun p q hp h1 h2 _ => ?_
  refine Subscript_ (Subscript_ (wpAny_Name (sim_load eo F hp (by decide) rfl fun pv V => ?_) (nm_ok (by decide)).1))
  have x₁ := Ext.tok ([] : List Addr) W (W.s.toks + 1)
  have x₂ := x₁.trans (Ext.tok ([] : List Addr) _ (W.s.toks + 1 + 1))
  have I₂ := (I.tok (W.s.toks + 1)).tok (W.s.toks + 1 + 1)
  refine UnaryOp_ (wpAny_Constant_int (neg_int ?_))
  refine item_tail (W := (W.at { W.s with toks := W.s.toks + 1 }).at { W.s with toks := W.s.toks + 1 + 1 }) h1 I₂ (VR.mono x₂ (fun _ h => nomatch h) V) (.int _ _) (sub_plain (fun _ _ => rfl)) fun W₃ pv₃ x₃ I₃ V₃ => ?_
  refine wpAny_Constant_int ?_
  have x₄ := Ext.tok ([] : List Addr) W₃ (W₃.s.toks + 1)
  refine item_tail (W := W₃.at { W₃.s with toks := W₃.s.toks + 1 }) h2 (I₃.tok _) (VR.mono x₄ (fun _ h => nomatch h) V₃) (.int _ _) (sub_plain (fun _ _ => rfl)) ?_
  exact ((hQ.step x₂).step x₃).step x₄
theorem live_env {D : Fd} {k : Nat} {ls : Locs} (X : RCx D k A env O outs) (F : FrOk C W env D.own O ls) (hl : Live W outs) : Live W (env :: outs) := fun e he => by
  rcases List.mem_cons.mp he with rfl | he
  · refine ex4_3 F.ns fun m o es ep h d _ => ?_
    exact ⟨by rw [X.eo.is, X.eo.kind]; decide, _, o, X.fr, F.LM, h, fun vs q => by rw [d] at q; (first | exact no_some q | cases q)⟩
  · exact hl e he
theorem RX.raise {W' : Wd} {env : Env} (hf : env.frame = some env.locals) (hO : env.locals ∈ O) (x : ExtS (frs (env :: outs)) W W') : RX outs O W W' := by
  have e : frs (env :: outs) = env.locals :: frs outs := by unfold frs; rw [List.filterMap_cons, hf]
  refine ⟨x.x.weaken fun b hb => ?_, fun b hb o h => x.sl b (by rw [e]; exact .tail _ hb) o h⟩
  rw [e] at hb
  rcases List.mem_cons.mp hb with rfl | hb
  · exact List.mem_append_right _ hO
  · exact List.mem_append_left _ hb
theorem sx_try {j : Nat} {a1 a2 i1 e3 : Expr} {po pA pC pE pS pO pN pTu pZ pH pNm pAs pT q1 q3 q4 q5 q7 q8 : Pos} {cT q2 q6 : Nat} (B : Basis C) (X : RCx D_run (j + 34) A env O outs)
    (hbody : SimB C D_run (j + 34) [.Expr (.Call (.Attribute (.Name (nm 81) po) "append" pA) [.Tuple [.Subscript (.Call (.Name "int_divmod" pN) [a1, a2] [] pO) i1 pS, e3] cT pTu] [] pC) pE] (bCons (sExpr (cMeth .list (cVar 81) (lCons (cTup (lCons (cBin gItem (cCall f_divmod (lCons (e_last 1) (lCons (e_last 0) lNil))) (cInt 1)) (lCons (e_last 0) lNil))) lNil) mAppend)) bNil))
    (hl12 : SimL C D_run (j + 34) [a1, a2] (lCons (e_last 1) (lCons (e_last 0) lNil))) (hs : ∀ env, starEach [a1, a2] env = (false, eval a1 env) :: starEach [a2] env)
    (hbase : ∀ env, attributeBase (.Name (nm 81) po) "append" env (eval (.Name (nm 81) po) env) = eval (.Name (nm 81) po) env) (hline : (pA.endLine == pC.line) = true)
    (sw : ∀ env, swapsWith (.Call (.Attribute (.Name (nm 81) po) "append" pA) [.Tuple [.Subscript (.Call (.Name "int_divmod" pN) [a1, a2] [] pO) i1 pS, e3] cT pTu] [] pC) none pE.line env = pure false) :
    SimSX C D_run A env O outs (.Try [.Expr (.Call (.Attribute (.Name (nm 81) po) "append" pA) [.Tuple [.Subscript (.Call (.Name "int_divmod" pN) [a1, a2] [] pO) i1 pS, e3] cT pTu] [] pC) pE]
      [.ExceptHandler (some (.Name "ZeroDivisionError" pZ)) none [.Assign [.Name (nm 82) pNm] (.Subscript (.Subscript (.Name (nm 81) q1) (.UnaryOp .USub (.Constant (.int 1) q2 q3) q4) q5) (.Constant (.int 1) q6 q7) q8) pAs] pH] [] [] pT) sTry := by
  intro ls μ fl ls' μ' h W I F hl Q hQ
  unfold sTry at h
  split at h
  case h_2 => (first | exact no_some h | cases h)
  rename_i p hp
  cases hk : isKT .list p μ with
  | false => rw [hk] at h; (first | exact no_some h | cases h)
  | true =>
  rw [hk, cond_true] at h
  unfold sTry0 sIf at h
  split at h
  case h_3 => (first | exact no_some h | cases h)
  case h_2 =>
    rename_i μ₁ h1
    have e : μ₁ = μ := by
      rcases tOf_spec h1 with h1 | ⟨h1, _⟩
      · refine ex1_3 (cmp0_inv h1) fun _ _ _ e => ?_; exact e
      · refine ex1_3 (cmp0_inv h1) fun _ _ _ e => ?_; exact e
    replace e := e.symm
    subst e
    refine wpAny_Try_except (up (hbody ls μ fl ls' μ' h W env O A X.eo X.ao I F _ fun W' f x I' F' R => ?_))
    have q := hQ W' f (.of I hl X.no x) I' F' R
    cases R with
    | next => exact wpAny_execs_nil q
    | brk => exact q
    | cont => exact q
    | ret v pv V => exact q
  case h_1 =>
    rename_i μ₁ h1
    refine ex0_2 (try_true h1) fun h0 e => ?_
    replace e := e.symm
    subst e
    unfold bCons sSet at h
    cases hv : e_last 1 ls μ with
    | none => rw [hv] at h; (first | exact no_some h | cases h)
    | some r =>
      obtain ⟨v, μ₂⟩ := r
      refine ex2_4 (last_inv hv) fun _ _ _ _ _ e => ?_
      replace e := e.symm
      subst e
      rw [hv] at h
      (first | exact no_some h | cases h)
      have hargs : lCons (e_last 1) (lCons (e_last 0) lNil) ls μ = some ([v, .int 0], μ) := by
        show (match e_last 1 ls μ with
          | some (v, μ₁) => match (lCons (e_last 0) lNil) ls μ₁ with
            | some (vs, μ₂) => some (v :: vs, μ₂)
            | none => none
          | none => none) = _
        rw [hv]
        show (match (match e_last 0 ls μ with
          | some (v, μ₁) => some ([v], μ₁)
          | none => none) with
            | some (vs, μ₂) => some (v :: vs, μ₂)
            | none => none) = _
        rw [h0]
      refine wpAny_Try_except (wpAny_execs_cons (wpAny_Expr_any ?_ (hi := by unfold interactive; rw [X.eo.is, X.eo.kind]; rfl) (hs := sw env)))
      refine wpAny_Call_method_late (hbase env) rfl hline rfl (wpAny_Name (up (sim_load X.eo F hp (by decide) rfl fun pv V => ?_)) (nm_ok (by decide)).1)
      refine ex0_2 (isKT_ok I hk V) fun t1 t2 => ?_
      refine ⟨"list", "list.append", PySem.F.plainAttrs_list, PySem.slot_list_append, rfl, t1, t2, ?_⟩
      refine callWith_builtin rfl ?_
      refine evalArgs_plain (PyProof.Rows.args_cons (wpAny_Tuple (PyProof.Rows.args_cons (Subscript_ ?_) (by rfl))) (by rfl))
      refine wpAny_Call_NameR (up ((fix_glob (D := D_run) B pN (fv := .ref 151) rfl rfl) W μ env A X.eo I _ ?_))
      obtain ⟨ob, fd, hK, hdat⟩ : ∃ ob fd, (K C.w.params).lookup 151 = some ob ∧ ob.data = .func fd := ⟨_, _, rfl, rfl⟩
      refine callWith_def hdat (up (hl12 ls μ _ μ hargs W env O A pO X.eo X.ao I F _ fun W₂ pvs x₂ I₂ V₂ => ?_)) (hs env)
      refine ⟨I₂.K B 151 ob hK, ?_⟩
      refine V₂.consE fun pv1 _ _ V₂ => ?_
      refine V₂.consE fun pv0 _ V0 V₂ => ?_
      refine V₂.nilE ?_
      refine V0.intE fun t0 => ?_
      have hl₂ := hl.ext I x₂
      have F₂ := F.mono I x₂
      have hlive := live_env X F₂ hl₂
      refine wpAny_call (dm_raise B I₂ X.ao.hd (by have := X.ao.dep; unfold recursionLimit; omega) X.fs hlive fun h' e a0 tk hfly hU => ?_)
      have hS : ∀ a ∈ frs (env :: outs), a ∈ W₂.M := fun a ha => (hlive.mem ha).1
      have slt : ∀ h₃ : Heap, (hideAll W₂.h (frs (env :: outs))).StaysIn h₃ → W₂.h.UpToSlots h₃ → Slt (frs (env :: outs)) W₂.h h₃ := fun h₃ k1 k2 =>
        ⟨fun b o hb hb' => k1 b o (hideAll_get _ hb' hb), fun b o hb hb' => k2 b o hb' (by obtain ⟨_, o', e', n'⟩ := hlive.mem hb; rw [hb'] at e'; cases e'; exact n')⟩
      refine wpAny_looks_onW (base := hideAll W₂.h (frs (env :: outs))) X.fs X.fr hfly fun h₂ hH hU₂ => wpAny_landsW hH fun h₃ hF₃ hU₃ => ?_
      have U₃ : W₂.h.UpToSlots h₃ := (hU.trans hU₂).trans hU₃
      refine ex0_4 (id hF₃) fun k1 k2 k3 k4 => ?_
      refine ex0_2 (I₂.slots B hS (s := { W₂.s with heap := h₃, toks := tk }) (slt h₃ k1 U₃) rfl rfl) fun x₃ I₃ => ?_
      refine wpAny_handleBy_builtin (X := "ZeroDivisionError") (T := "ZeroDivisionError") (b := true) (by rw [isSubtype_type]; kernel_rfl) (by rw [show ((Manifest.find? "ZeroDivisionError").elim "type" fun x => x.metatype) = "type" from by kernel_rfl, isSubtype_type]; kernel_rfl) (by rw [isSubtype_type]; kernel_rfl) ?_
      refine up ((fix_boot (D := D_run) B pZ (fv := ZD) rfl rfl rfl) (W₂.at { W₂.s with heap := h₃, toks := tk }) μ env _ X.eo I₃ _ ⟨rfl, hF₃.there, ?_⟩)
      rw [if_pos rfl]
      refine wpAny_setFlight_noneW k1 k3 k4.at fun h₄ m1 m2 m3 m4 => ?_
      have U₄ : W₂.h.UpToSlots h₄ := U₃.trans fun b o hb hn => ⟨o.slots, m4 b o hb hn⟩
      refine ex0_2 (I₂.slots B hS (s := { W₂.s with heap := h₄, toks := tk }) (slt h₄ m1 U₄) rfl rfl) fun x₄ I₄ => ?_
      have X₄ : ExtS (frs (env :: outs)) W₂ (W₂.at { W₂.s with heap := h₄, toks := tk }) := ⟨x₄, fun b hb o e => (slt h₄ m1 U₄).sl b o hb e⟩
      have F₄ := F₂.slots I₂ X₄ hS
      refine up (wpAny_execs_cons (wpAny_Assign_Name (raw_last (W := W₂.at { W₂.s with heap := h₄, toks := tk }) hv X.eo I₄ F₄ fun W₅ pv₅ x₅ I₅ V₅ => ?_) (hs := rfl)))
      refine sim_store B X.eo I₅ (F₄.mono I₄ x₅) (by decide) rfl V₅ fun W₆ x₆ I₆ F₆ => ?_
      refine wpAny_execs_nil (hQ W₆ _ ?_ I₆ F₆ .next)
      have r₂ : RX outs O W W₂ := .of I hl X.no x₂.lift
      have r₄ : RX outs O W₂ _ := RX.raise X.fr F.LO X₄
      have l₄ := hl₂.step r₄
      have r₅ : RX outs O _ W₅ := .of I₄ l₄ X.no x₅.lift
      exact ((r₂.trans r₄).trans r₅).trans (.of I₅ (l₄.step r₅) X.no x₆)
end
end Mine
end
section
open PySem PySem.W PyProof.Rows PySem.Calls PySem.SeqAt PySem.F
set_option maxRecDepth 100000
namespace Mine
theorem sw_lc {D : Fd} {elt : Expr} {gs : List Comprehension} {scope : Scope} {pos p : Pos} {x : Str} {line : Nat} (hk : D.sc.names.lookup x = some .local) (hl : (p.line == pos.line) = true) (hn : (scope.names.any fun q => q.1 == x && (q.2 == .local || q.2 == .cell)) = false) :
    ∀ env, EnvOk D env → swapsWith (.ListComp elt gs scope pos) (some (.Name x p)) line env = pure true := by
  intro env eo
  show pure (env.blockKind == .function && env.kindOf x == some .local && p.line == pos.line && !(scope.names.any fun q => q.1 == x && (q.2 == .local || q.2 == .cell))) = _
  rw [hn, hl]
  unfold Env.blockKind Env.kindOf
  rw [eo.is, eo.kind, hk]
  rfl
theorem sw_dc {D : Fd} {kx vx : Expr} {gs : List Comprehension} {scope : Scope} {pos p : Pos} {x : Str} {line : Nat} (hk : D.sc.names.lookup x = some .local) (hl : (p.line == pos.line) = true) (hn : (scope.names.any fun q => q.1 == x && (q.2 == .local || q.2 == .cell)) = false) :
    ∀ env, EnvOk D env → swapsWith (.DictComp kx vx gs scope pos) (some (.Name x p)) line env = pure true := by
  intro env eo
  show pure (env.blockKind == .function && env.kindOf x == some .local && p.line == pos.line && !(scope.names.any fun q => q.1 == x && (q.2 == .local || q.2 == .cell))) = _
  rw [hn, hl]
  unfold Env.blockKind Env.kindOf
  rw [eo.is, eo.kind, hk]
  rfl
theorem sim_set2 {C : Cst} {D : Fd} {k : Nat} {e : Expr} {a : Ev} {x : Str} (B : Basis C) (n : Nat) (p pos : Pos) (hx : nm n = x) (hn : n < nmC) (hs : Sto D n = true) (ha : SimE C D k e a) (sw : ∀ env, EnvOk D env → swapsWith e (some (.Name x p)) pos.line env = pure false) : SimS C D k (.Assign [.Name x p] e pos) (sSet n a) := by
  intro ls μ fl ls' μ' h W env O A eo ao I F Q hQ
  subst hx
  unfold sSet at h
  split at h
  · rename_i v μ₁ h1
    (first | exact no_some h | cases h)
    refine wpAny_Assign_Name (ha ls μ v _ h1 W env O A eo ao I F _ fun W₁ pv x₁ I₁ V₁ => ?_) (hs := sw env eo)
    exact sim_store B eo I₁ (F.mono I x₁) hn hs V₁ fun W₂ x₂ I₂ F₂ => hQ W₂ _ (x₁.lift.trans x₂) I₂ F₂ .next
  · (first | exact no_some h | cases h)
theorem sw_cl {D : Fd} {elt : Expr} {gs : List Comprehension} {scope : Scope} {pos p : Pos} {x : Str} {line : Nat} (hk : D.sc.names.lookup x = some .cell) :
    ∀ env, EnvOk D env → swapsWith (.ListComp elt gs scope pos) (some (.Name x p)) line env = pure false := by
  intro env eo
  show pure (env.blockKind == .function && env.kindOf x == some .local && p.line == pos.line && !(scope.names.any fun q => q.1 == x && (q.2 == .local || q.2 == .cell))) = _
  unfold Env.kindOf
  rw [eo.is, hk, show ((some NameKind.cell == some NameKind.local) = false) from rfl, Bool.and_false, Bool.false_and, Bool.false_and]
theorem sw_cd {D : Fd} {kx vx : Expr} {gs : List Comprehension} {scope : Scope} {pos p : Pos} {x : Str} {line : Nat} (hk : D.sc.names.lookup x = some .cell) :
    ∀ env, EnvOk D env → swapsWith (.DictComp kx vx gs scope pos) (some (.Name x p)) line env = pure false := by
  intro env eo
  show pure (env.blockKind == .function && env.kindOf x == some .local && p.line == pos.line && !(scope.names.any fun q => q.1 == x && (q.2 == .local || q.2 == .cell))) = _
  unfold Env.kindOf
  rw [eo.is, hk, show ((some NameKind.cell == some NameKind.local) = false) from rfl, Bool.and_false, Bool.false_and, Bool.false_and]
theorem s_addc (C : Cst) (B : Basis C) (k : Nat) : SimB C D_addc k (tD 5).2.1 g_addc :=
  (sim_cons (sim_set B 12 _ _ rfl (by decide) rfl (sim_dict0 _) (fun _ => rfl)) (sim_cons (sim_for B _ (si_items (sim_var 0 _ _) (fun _ => rfl) rfl) (sima_tup B _ _ (.cons 13 _ _ _ _ rfl (by decide) rfl (.cons 14 _ _ _ _ rfl (by decide) rfl .nil))) (sim_cons (sim_setitem B _ _ (sim_var 14 _ _) (sim_var 12 _ _) (sim_var 13 _ _) (fun _ => rfl)) sim_nil) src_items (fun _ _ => rfl)) (sim_cons (sim_for B _ (si_items (sim_var 1 _ _) (fun _ => rfl) rfl) (sima_tup B _ _ (.cons 13 _ _ _ _ rfl (by decide) rfl (.cons 14 _ _ _ _ rfl (by decide) rfl .nil))) (sim_cons (sim_if _ (simt_cmp _ sc_in (sim_var 13 _ _) (sim_var 12 _ _)) (sim_cons (sim_if _ (simt_plain (sim_callB (fix_boot B _ rfl rfl rfl) (.inl ⟨_, rfl⟩) sf_istup (sim_lcons (sim_var 14 _ _) (sim_lcons (sim_ty .tuple (fix_boot B _ rfl rfl rfl)) sim_lnil (fun _ => rfl)) (fun _ => rfl)) (fun _ => rfl) (fun _ _ => rfl)) (fun _ _ => rfl)) (sim_cons (sim_setitem B _ _ (sim_zip B rfl (fix_boot B _ rfl rfl rfl) (fix_boot B _ rfl rfl rfl) (sim_var 14 _ _) (sim_item _ (sim_var 12 _ _) (sim_var 13 _ _) (sub_plain (fun _ _ => rfl))) (fun _ => rfl) (fun _ => rfl)) (sim_var 12 _ _) (sim_var 13 _ _) (fun _ => rfl)) sim_nil) sim_fail) sim_nil) (sim_cons (sim_setitem B _ _ (sim_var 14 _ _) (sim_var 12 _ _) (sim_var 13 _ _) (fun _ => rfl)) sim_nil)) sim_nil) src_items (fun _ _ => rfl)) (sim_cons (sim_ret _ (sim_var 12 _ _)) sim_nil))))
theorem F_addc (C : Cst) (B : Basis C) (k : Nat) : SimF C (k + 1) 80 plainA f_addc :=
  sim_fun B [] (some (79, "add_callers.<locals>.")) [0, 1] [] [] plainA rfl rfl ⟨_, _, _, _, rfl, rfl, rfl, rfl⟩ rfl rfl rfl rfl rfl rfl rfl (by decide +kernel) (by decide +kernel) (fun _ _ _ _ => .nil) (fun s vals X hl => by refine ex2_1 (list2 (by simpa using hl)) fun a0 a1 eqq2 => ?_; subst eqq2; exact BindsTo.of_eq rfl) (fun p h => by (first | exact no_some h | cases h); exact ⟨rfl, rfl⟩) (s_addc C B k)
theorem s_addf (C : Cst) (B : Basis C) (k : Nat) : SimB C D_addf (k + 1) (tD 4).2.1 g_addf :=
  (sim_cons (sim_setT _ (sima_tup B _ _ (.cons 2 _ _ _ _ rfl (by decide) rfl (.cons 3 _ _ _ _ rfl (by decide) rfl (.cons 4 _ _ _ _ rfl (by decide) rfl (.cons 5 _ _ _ _ rfl (by decide) rfl (.cons 6 _ _ _ _ rfl (by decide) rfl .nil)))))) (sim_var 1 _ _) (fun _ => rfl) (fun _ => rfl) (fun _ => rfl)) (sim_cons (sim_setT _ (sima_tup B _ _ (.cons 7 _ _ _ _ rfl (by decide) rfl (.cons 8 _ _ _ _ rfl (by decide) rfl (.cons 9 _ _ _ _ rfl (by decide) rfl (.cons 10 _ _ _ _ rfl (by decide) rfl (.cons 11 _ _ _ _ rfl (by decide) rfl .nil)))))) (sim_var 0 _ _) (fun _ => rfl) (fun _ => rfl) (fun _ => rfl)) (sim_cons (sim_ret _ (sim_tuple _ _ (sim_lcons (sim_bin _ so_add (sim_var 2 _ _) (sim_var 7 _ _)) (sim_lcons (sim_bin _ so_add (sim_var 3 _ _) (sim_var 8 _ _)) (sim_lcons (sim_bin _ so_add (sim_var 4 _ _) (sim_var 9 _ _)) (sim_lcons (sim_bin _ so_add (sim_var 5 _ _) (sim_var 10 _ _)) (sim_lcons (sim_call B (fix_glob B _ rfl rfl) rfl rfl (F_addc C B k) (sim_lcons (sim_var 11 _ _) (sim_lcons (sim_var 6 _ _) sim_lnil (fun _ => rfl)) (fun _ => rfl)) (fun _ => rfl)) sim_lnil (fun _ => rfl)) (fun _ => rfl)) (fun _ => rfl)) (fun _ => rfl)) (fun _ => rfl)))) sim_nil)))
theorem F_addf (C : Cst) (B : Basis C) (k : Nat) : SimF C (k + 2) 73 plainA f_addf :=
  sim_fun B [] none [0, 1] [] [] plainA rfl rfl ⟨_, _, _, _, rfl, rfl, rfl, rfl⟩ rfl rfl rfl rfl rfl rfl rfl (by decide +kernel) (by decide +kernel) (fun _ _ _ _ => .nil) (fun s vals X hl => by refine ex2_1 (list2 (by simpa using hl)) fun a0 a1 eqq2 => ?_; subst eqq2; exact BindsTo.of_eq rfl) (fun p h => by (first | exact no_some h | cases h)) (s_addf C B k)
theorem s_hdel (C : Cst) (B : Basis C) (k : Nat) : SimB C D_hdel (k + 2) (mD 21 4).2.1 g_hdel :=
  (sim_cons (sim_set B 68 _ _ rfl (by decide) rfl (sim_conv B true (sim_var 100 _ _) (sim_meth0 (kt := .str) plainAttrs_str slot_str_lower rfl (sim_var 68 _ _) sf_lower (fun _ => rfl) rfl) (fun _ => rfl) _ (fun _ => rfl)) (fun _ => rfl)) (sim_cons (sim_sliceall B _ _ _ (sim_lcomp (cap := [68]) (own := []) B (si_of (sim_attr B 284 1 _ rfl (ok_head _) (sim_var 100 _ _) (fun _ => rfl))) src_of (by kernel_rfl) rfl (sima_name B 110 _ rfl (by decide) rfl) (.one _ _ (simt_cmp _ sc_ne (sim_meth0 (kt := .str) plainAttrs_str slot_str_lower rfl (sim_item _ (sim_var 110 _ _) (sim_int 0 _ _) (sub_plain (fun _ _ => rfl))) sf_lower (fun _ => rfl) rfl) (sim_var 68 _ _))) (sim_var 110 _ _) (fun _ _ => rfl)) (sim_attr B 284 1 _ rfl (ok_head _) (sim_var 100 _ _) (fun _ => rfl)) (fun _ => rfl)) sim_nil))
theorem F_hdel (C : Cst) (B : Basis C) (k : Nat) : SimF C (k + 3) 202 plainA f_hdel :=
  sim_fun B [68] none [100, 68] [] [] plainA rfl rfl ⟨_, _, _, _, rfl, rfl, rfl, rfl⟩ rfl rfl rfl rfl rfl rfl rfl (by decide +kernel) (by decide +kernel) (fun _ _ _ _ => .nil) (fun s vals X hl => by refine ex2_1 (list2 (by simpa using hl)) fun a0 a1 eqq2 => ?_; subst eqq2; exact BindsTo.of_eq rfl) (fun p h => by (first | exact no_some h | cases h)) (s_hdel C B k)
theorem s_hset (C : Cst) (B : Basis C) (k : Nat) : SimB C D_hset (k + 4) (mD 21 3).2.1 g_hset :=
  (sim_cons (sim_delinst B _ _ (dok_head _) (sim_var 100 _ _) (sim_var 68 _ _) (F_hdel C B (k + 1))) (sim_cons (sim_expr _ (sim_meth1 (kt := .list) plainAttrs_list PySem.slot_list_append rfl (sim_attr B 284 1 _ rfl (ok_head _) (sim_var 100 _ _) (fun _ => rfl)) (sim_lcons (sim_tuple _ _ (sim_lcons (sim_conv B true (sim_var 100 _ _) (sim_var 68 _ _) (fun _ => rfl) _ (fun _ => rfl)) (sim_lcons (sim_conv B false (sim_var 100 _ _) (sim_var 109 _ _) (fun _ => rfl) _ (fun _ => rfl)) sim_lnil (fun _ => rfl)) (fun _ => rfl))) sim_lnil (fun _ => rfl)) (sf_append B) (fun _ => rfl) (fun _ => rfl) rfl (fun _ => rfl) (fun _ _ => rfl)) (fun _ => rfl)) sim_nil))
theorem F_hset (C : Cst) (B : Basis C) (k : Nat) : SimF C (k + 5) 197 plainA f_hset :=
  sim_fun B [] none [100, 68, 109] [] [] plainA rfl rfl ⟨_, _, _, _, rfl, rfl, rfl, rfl⟩ rfl rfl rfl rfl rfl rfl rfl (by decide +kernel) (by decide +kernel) (fun _ _ _ _ => .nil) (fun s vals X hl => by refine ex3_1 (list3 (by simpa using hl)) fun a0 a1 a2 eqq3 => ?_; subst eqq3; exact BindsTo.of_eq rfl) (fun p h => by (first | exact no_some h | cases h)) (s_hset C B k)
theorem s_hget (C : Cst) (B : Basis C) (k : Nat) : SimB C D_hget (k + 2) (mD 21 8).2.1 g_hget :=
  (sim_cons (sim_set B 68 _ _ rfl (by decide) rfl (sim_conv B true (sim_var 100 _ _) (sim_meth0 (kt := .str) plainAttrs_str slot_str_lower rfl (sim_var 68 _ _) sf_lower (fun _ => rfl) rfl) (fun _ => rfl) _ (fun _ => rfl)) (fun _ => rfl)) (sim_cons (sim_for B _ (si_of (sim_attr B 284 1 _ rfl (ok_head _) (sim_var 100 _ _) (fun _ => rfl))) (sima_tup B _ _ (.cons 64 _ _ _ _ rfl (by decide) rfl (.cons 95 _ _ _ _ rfl (by decide) rfl .nil))) (sim_cons (sim_if _ (simt_cmp _ sc_eq (sim_meth0 (kt := .str) plainAttrs_str slot_str_lower rfl (sim_var 64 _ _) sf_lower (fun _ => rfl) rfl) (sim_var 68 _ _)) (sim_cons (sim_ret _ (sim_var 95 _ _)) sim_nil) sim_nil) sim_nil) src_of (fun _ _ => rfl)) (sim_cons (sim_ret _ (sim_var 111 _ _)) sim_nil)))
theorem F_hget (C : Cst) (B : Basis C) (k : Nat) : SimF C (k + 3) 231 plainA f_hget :=
  sim_fun B [] none [100, 68, 111] [.none] [.none] plainA rfl rfl ⟨_, _, _, _, rfl, rfl, rfl, rfl⟩ rfl rfl rfl rfl rfl rfl rfl (by decide +kernel) (by decide +kernel) (fun _ _ _ _ => (.cons _ _ _ _ .none .nil)) (fun s vals X hl => by refine ex2_1 (list2 (by simpa using hl)) fun a0 a1 eqq2 => ?_; subst eqq2; exact kp_binds X (fun _ => rfl)) (fun p h => by (first | exact no_some h | cases h)) (s_hget C B k)
theorem s_drawn (C : Cst) (B : Basis C) (k : Nat) : SimB C D_drawn (k + 1) (tD 23).2.1 g_drawn :=
  (sim_cons (sim_set B 61 _ _ rfl (by decide) rfl (sim_callB (fix_boot B _ rfl rfl rfl) (.inl ⟨_, rfl⟩) sf_sum (sim_lcons (sim_lcomp (cap := [60]) (own := []) B (si_range (fix_boot B _ rfl rfl rfl) (sim_lcons (sim_callB (fix_boot B _ rfl rfl rfl) (.inl ⟨_, rfl⟩) sf_len (sim_lcons (sim_var 60 _ _) sim_lnil (fun _ => rfl)) (fun _ => rfl) (fun _ _ => rfl)) sim_lnil (fun _ => rfl)) (fun _ => rfl) (fun _ _ => rfl)) src_rng (by kernel_rfl) rfl (sima_name B 64 _ rfl (by decide) rfl) (.one _ _ (simt_cmp _ sc_eq (sim_bin _ so_mod (sim_var 64 _ _) (sim_int 2 _ _)) (sim_int 0 _ _))) (sim_item _ (sim_var 60 _ _) (sim_var 64 _ _) (sub_plain (fun _ _ => rfl))) (fun _ _ => rfl)) sim_lnil (fun _ => rfl)) (fun _ => rfl) (fun _ _ => rfl)) (fun _ => rfl)) (sim_cons (sim_set B 62 _ _ rfl (by decide) rfl (sim_bin _ so_add (sim_int 3 _ _) (sim_callB (fix_boot B _ rfl rfl rfl) (.inl ⟨_, rfl⟩) sf_sum (sim_lcons (sim_lcomp (cap := [60]) (own := []) B (si_range (fix_boot B _ rfl rfl rfl) (sim_lcons (sim_callB (fix_boot B _ rfl rfl rfl) (.inl ⟨_, rfl⟩) sf_len (sim_lcons (sim_var 60 _ _) sim_lnil (fun _ => rfl)) (fun _ => rfl) (fun _ _ => rfl)) sim_lnil (fun _ => rfl)) (fun _ => rfl) (fun _ _ => rfl)) src_rng (by kernel_rfl) rfl (sima_name B 64 _ rfl (by decide) rfl) (.one _ _ (simt_cmp _ sc_eq (sim_bin _ so_mod (sim_var 64 _ _) (sim_int 2 _ _)) (sim_int 1 _ _))) (sim_item _ (sim_var 60 _ _) (sim_var 64 _ _) (sub_plain (fun _ _ => rfl))) (fun _ _ => rfl)) sim_lnil (fun _ => rfl)) (fun _ => rfl) (fun _ _ => rfl))) (fun _ => rfl)) (sim_cons (sim_set B 63 _ _ rfl (by decide) rfl (sim_item _ (sim_list _ (sim_lcons (sim_int 7 _ _) (sim_lcons (sim_int 8 _ _) (sim_lcons (sim_int 9 _ _) (sim_lcons (sim_int 5 _ _) sim_lnil (fun _ => rfl)) (fun _ => rfl)) (fun _ => rfl)) (fun _ => rfl))) (sim_bin _ so_mod (sim_callB (fix_boot B _ rfl rfl rfl) (.inl ⟨_, rfl⟩) sf_abs (sim_lcons (sim_var 61 _ _) sim_lnil (fun _ => rfl)) (fun _ => rfl) (fun _ _ => rfl)) (sim_int 4 _ _)) (sub_plain (fun _ _ => rfl))) (fun _ => rfl)) (sim_cons (sim_if _ (simt_cmp _ sc_lt (sim_var 61 _ _) (sim_int 0 _ _)) (sim_cons (sim_set B 63 _ _ rfl (by decide) rfl (sim_neg _ (sim_var 63 _ _)) (fun _ => rfl)) sim_nil) sim_nil) (sim_cons (sim_ret _ (sim_tuple _ _ (sim_lcons (sim_var 63 _ _) (sim_lcons (sim_ifexp _ (simt_cmp _ sc_ge (sim_var 62 _ _) (sim_int 0 _ _)) (sim_bin _ so_mod (sim_var 62 _ _) (sim_int 10000 _ _)) (sim_neg _ (sim_bin _ so_mod (sim_neg _ (sim_var 62 _ _)) (sim_int 10000 _ _)))) sim_lnil (fun _ => rfl)) (fun _ => rfl)))) sim_nil)))))
theorem F_drawn (C : Cst) (B : Basis C) (k : Nat) : SimF C (k + 2) 293 plainA f_drawn :=
  sim_fun B [60] none [60] [] [] plainA rfl rfl ⟨_, _, _, _, rfl, rfl, rfl, rfl⟩ rfl rfl rfl rfl rfl rfl rfl (by decide +kernel) (by decide +kernel) (fun _ _ _ _ => .nil) (fun s vals X hl => by refine ex1_1 (list1 (by simpa using hl)) fun a0 eqq1 => ?_; subst eqq1; exact BindsTo.of_eq rfl) (fun p h => by (first | exact no_some h | cases h)) (s_drawn C B k)
theorem s_total (C : Cst) (B : Basis C) (k : Nat) : SimB C D_total (k + 2) (tD 27).2.1 g_total :=
  (sim_cons (sim_set B 78 _ _ rfl (by decide) rfl (sim_tuple _ _ (sim_lcons (sim_int 0 _ _) (sim_lcons (sim_int 0 _ _) (sim_lcons (sim_int 0 _ _) (sim_lcons (sim_int 0 _ _) (sim_lcons (sim_dict0 _) sim_lnil (fun _ => rfl)) (fun _ => rfl)) (fun _ => rfl)) (fun _ => rfl)) (fun _ => rfl))) (fun _ => rfl)) (sim_cons (sim_for B _ (si_of (sim_var 75 _ _)) (sima_name B 79 _ rfl (by decide) rfl) (sim_cons (sim_set B 78 _ _ rfl (by decide) rfl (sim_call B (fix_glob B _ rfl rfl) rfl rfl (F_addf C B k) (sim_lcons (sim_var 78 _ _) (sim_lcons (sim_item _ (sim_var 75 _ _) (sim_var 79 _ _) (sub_plain (fun _ _ => rfl))) sim_lnil (fun _ => rfl)) (fun _ => rfl)) (fun _ => rfl)) (fun _ => rfl)) sim_nil) src_of (fun _ _ => rfl)) (sim_cons (sim_ret _ (sim_var 78 _ _)) sim_nil)))
theorem F_total (C : Cst) (B : Basis C) (k : Nat) : SimF C (k + 3) 319 plainA f_total :=
  sim_fun B [] none [75] [] [] plainA rfl rfl ⟨_, _, _, _, rfl, rfl, rfl, rfl⟩ rfl rfl rfl rfl rfl rfl rfl (by decide +kernel) (by decide +kernel) (fun _ _ _ _ => .nil) (fun s vals X hl => by refine ex1_1 (list1 (by simpa using hl)) fun a0 eqq1 => ?_; subst eqq1; exact BindsTo.of_eq rfl) (fun p h => by (first | exact no_some h | cases h)) (s_total C B k)
theorem s_rows (C : Cst) (B : Basis C) (k : Nat) : SimB C D_rows (k + 34) (tD 24).2.1 g_rows :=
  (sim_cons (sim_set B 66 _ _ rfl (by decide) rfl (sim_list _ (sim_lcons (sim_call B (fix_glob B _ rfl rfl) rfl rfl (F_divmod C B k) (sim_lcons (sim_int 0 _ _) (sim_lcons (sim_var 63 _ _) sim_lnil (fun _ => rfl)) (fun _ => rfl)) (fun _ => rfl)) sim_lnil (fun _ => rfl))) (fun _ => rfl)) (sim_cons (sim_for B _ (si_range (fix_boot B _ rfl rfl rfl) (sim_lcons (sim_int 1 _ _) (sim_lcons (sim_bin _ so_add (sim_callB (fix_boot B _ rfl rfl rfl) (.inl ⟨_, rfl⟩) sf_abs (sim_lcons (sim_var 63 _ _) sim_lnil (fun _ => rfl)) (fun _ => rfl) (fun _ _ => rfl)) (sim_int 1 _ _)) sim_lnil (fun _ => rfl)) (fun _ => rfl)) (fun _ => rfl) (fun _ _ => rfl)) (sima_name B 15 _ rfl (by decide) rfl) (sim_cons (sim_set B 67 _ _ rfl (by decide) rfl (sim_call B (fix_glob B _ rfl rfl) rfl rfl (F_divmod C B k) (sim_lcons (sim_bin _ so_mulA (sim_var 65 _ _) (sim_var 15 _ _)) (sim_lcons (sim_var 63 _ _) sim_lnil (fun _ => rfl)) (fun _ => rfl)) (fun _ => rfl)) (fun _ => rfl)) (sim_cons (sim_if _ (simt_cmp _ sc_eq (sim_item _ (sim_var 67 _ _) (sim_int 1 _ _) (sub_plain (fun _ _ => rfl))) (sim_int 0 _ _)) (sim_cons (sim_ret _ (sim_var 66 _ _)) sim_nil) sim_nil) (sim_cons (sim_expr _ (sim_meth1 (kt := .list) plainAttrs_list PySem.slot_list_append rfl (sim_var 66 _ _) (sim_lcons (sim_var 67 _ _) sim_lnil (fun _ => rfl)) (sf_append B) (fun _ => rfl) (fun _ => rfl) rfl (fun _ => rfl) (fun _ _ => rfl)) (fun _ => rfl)) sim_nil))) src_rng (fun _ _ => rfl)) (sim_cons (sim_ret _ (sim_var 66 _ _)) sim_nil)))
theorem F_rows (C : Cst) (B : Basis C) (k : Nat) : SimF C (k + 35) 300 plainA f_rows :=
  sim_fun B [] none [65, 63] [] [] plainA rfl rfl ⟨_, _, _, _, rfl, rfl, rfl, rfl⟩ rfl rfl rfl rfl rfl rfl rfl (by decide +kernel) (by decide +kernel) (fun _ _ _ _ => .nil) (fun s vals X hl => by refine ex2_1 (list2 (by simpa using hl)) fun a0 a1 eqq2 => ?_; subst eqq2; exact BindsTo.of_eq rfl) (fun p h => by (first | exact no_some h | cases h)) (s_rows C B k)
end Mine
end
section
open PySem PySem.W PyProof.Rows PySem.Calls PySem.SeqAt PySem.F
set_option maxRecDepth 100000
namespace Mine
theorem s_sorted (C : Cst) (B : Basis C) (k : Nat) : SimB C D_sorted (k + 34) (tD 26).2.1 g_sorted :=
  (sim_cons (sim_set B 69 _ _ rfl (by decide) rfl (sim_make0 B (fix_glob B _ rfl rfl) (mok_head _) (fun k' e => by cases e; exact (F_hinit C B (k + 32))) ⟨_, rfl⟩) (fun _ => rfl)) (sim_cons (sim_set B 70 _ _ rfl (by decide) rfl (sim_ifexp _ (simt_cmp _ sc_gt (sim_var 63 _ _) (sim_int 0 _ _)) (sim_int 1 _ _) (sim_neg _ (sim_int 1 _ _))) (fun _ => rfl)) (sim_cons (sim_set B 71 _ _ rfl (by decide) rfl (sim_make B (fix_glob B _ rfl rfl) (mok_comp _) (fun k' e => by cases e; exact (F_cinit C B (k + 32))) ⟨_, rfl⟩ (sim_lcons (sim_list _ (sim_lcons (sim_tuple _ _ (sim_lcons (sim_int 2 _ _) (sim_lcons (sim_neg _ (sim_var 70 _ _)) sim_lnil (fun _ => rfl)) (fun _ => rfl))) (sim_lcons (sim_tuple _ _ (sim_lcons (sim_int 3 _ _) (sim_lcons (sim_var 70 _ _) sim_lnil (fun _ => rfl)) (fun _ => rfl))) sim_lnil (fun _ => rfl)) (fun _ => rfl))) sim_lnil (fun _ => rfl)) (fun _ => rfl) (fun _ _ => rfl)) (fun _ => rfl)) (sim_cons (sim_setlc (cap := []) (own := []) B 72 _ _ rfl (by decide) rfl (sw_lc rfl rfl rfl) (si_of (sim_var 66 _ _)) src_of (by kernel_rfl) rfl (sima_name B 67 _ rfl (by decide) rfl) .nil (sim_bin _ so_add (sim_var 67 _ _) (sim_call B (fix_glob B _ rfl rfl) rfl rfl (F_divmod C B k) (sim_lcons (sim_item _ (sim_var 67 _ _) (sim_int 1 _ _) (sub_plain (fun _ _ => rfl))) (sim_lcons (sim_neg _ (sim_int 3 _ _)) sim_lnil (fun _ => rfl)) (fun _ => rfl)) (fun _ => rfl))) (fun _ _ => rfl)) (sim_cons (sim_set B 73 _ _ rfl (by decide) rfl (sim_tuple _ _ (sim_lcons (sim_int 0 _ _) (sim_lcons (sim_int 0 _ _) (sim_lcons (sim_int 0 _ _) (sim_lcons (sim_int 0 _ _) (sim_lcons (sim_dict0 _) sim_lnil (fun _ => rfl)) (fun _ => rfl)) (fun _ => rfl)) (fun _ => rfl)) (fun _ => rfl))) (fun _ => rfl)) (sim_cons (sim_set B 74 _ _ rfl (by decide) rfl (sim_list _ sim_lnil) (fun _ => rfl)) (sim_cons (sim_set B 75 _ _ rfl (by decide) rfl (sim_dict0 _) (fun _ => rfl)) (sim_cons (sim_for B _ (si_range (fix_boot B _ rfl rfl rfl) (sim_lcons (sim_callB (fix_boot B _ rfl rfl rfl) (.inl ⟨_, rfl⟩) sf_len (sim_lcons (sim_var 66 _ _) sim_lnil (fun _ => rfl)) (fun _ => rfl) (fun _ _ => rfl)) sim_lnil (fun _ => rfl)) (fun _ => rfl) (fun _ _ => rfl)) (sima_name B 15 _ rfl (by decide) rfl) (sim_cons (sim_setinst B _ _ (iok_head _) (sim_callB (fix_boot B _ rfl rfl rfl) (.inr ⟨_, rfl⟩) sf_str (sim_lcons (sim_bin _ so_add (sim_int 10 _ _) (sim_var 15 _ _)) sim_lnil (fun _ => rfl)) (fun _ => rfl) (fun _ _ => rfl)) (sim_var 69 _ _) (sim_item _ (sim_str _ [97, 98, 99, 100, 101, 102, 103, 104, 105] _ _) (sim_var 15 _ _) (sub_plain (fun _ _ => rfl))) (F_hset C B (k + 29)) (fun _ => rfl)) (sim_cons (sim_expr _ (sim_meth1 (kt := .list) plainAttrs_list PySem.slot_list_append rfl (sim_var 74 _ _) (sim_lcons (sim_list _ sim_lnil) sim_lnil (fun _ => rfl)) (sf_append B) (fun _ => rfl) (fun _ => rfl) rfl (fun _ => rfl) (fun _ _ => rfl)) (fun _ => rfl)) (sim_cons (sim_for B _ (si_of (sim_mcall0 B ⟨by kernel_rfl, by kernel_rfl, by kernel_rfl, by kernel_rfl⟩ (at_ne (by decide) (by decide)) (sim_var 69 _ _) (F_hkeys C B (k + 33)) _ (fun _ => rfl))) (sima_name B 68 _ rfl (by decide) rfl) (sim_cons (sim_set B 16 _ _ rfl (by decide) rfl (sim_bin _ so_sub (sim_call B (fix_glob B _ rfl rfl) rfl rfl (F_ifs C B (k + 30)) (sim_lcons (sim_mcall B ⟨by kernel_rfl, by kernel_rfl, by kernel_rfl, by kernel_rfl⟩ (at_ne (by decide) (by decide)) (sim_var 69 _ _) (F_hget C B (k + 31)) (sim_lcons (sim_call B (fix_glob B _ rfl rfl) rfl rfl (F_other C B (k + 33)) (sim_lcons (sim_var 68 _ _) sim_lnil (fun _ => rfl)) (fun _ => rfl)) sim_lnil (fun _ => rfl)) (fun _ => rfl) (fun _ _ => rfl) _ (fun _ => rfl)) sim_lnil (fun _ => rfl)) (fun _ => rfl)) (sim_int 10 _ _)) (fun _ => rfl)) (sim_cons (sim_expr _ (sim_meth1 (kt := .list) plainAttrs_list PySem.slot_list_append rfl (sim_item _ (sim_var 74 _ _) (sim_var 15 _ _) (sub_plain (fun _ _ => rfl))) (sim_lcons (sim_mcall B ⟨by kernel_rfl, by kernel_rfl, by kernel_rfl, by kernel_rfl⟩ (at_ne (by decide) (by decide)) (sim_var 71 _ _) (F_cmp C B (k + 33)) (sim_lcons (sim_item _ (sim_var 72 _ _) (sim_var 16 _ _) (sub_plain (fun _ _ => rfl))) (sim_lcons (sim_item _ (sim_var 72 _ _) (sim_var 15 _ _) (sub_plain (fun _ _ => rfl))) sim_lnil (fun _ => rfl)) (fun _ => rfl)) (fun _ => rfl) (fun _ _ => rfl) _ (fun _ => rfl)) sim_lnil (fun _ => rfl)) (sf_append B) (fun _ => rfl) (fun _ => rfl) rfl (fun _ => rfl) (fun _ _ => rfl)) (fun _ => rfl)) (sim_cons (sim_if _ (simt_cmp _ sc_eq (sim_item _ (sim_item _ (sim_var 74 _ _) (sim_var 15 _ _) (sub_plain (fun _ _ => rfl))) (sim_neg _ (sim_int 1 _ _)) (sub_plain (fun _ _ => rfl))) (sim_int 1 _ _)) (sim_cons (sim_setinst B _ _ (iok_head _) (sim_callB (fix_boot B _ rfl rfl rfl) (.inr ⟨_, rfl⟩) sf_str (sim_lcons (sim_bin _ so_add (sim_int 10 _ _) (sim_var 16 _ _)) sim_lnil (fun _ => rfl)) (fun _ => rfl) (fun _ _ => rfl)) (sim_var 69 _ _) (sim_call B (fix_glob B _ rfl rfl) rfl rfl (F_other C B (k + 33)) (sim_lcons (sim_var 68 _ _) sim_lnil (fun _ => rfl)) (fun _ => rfl)) (F_hset C B (k + 29)) (fun _ => rfl)) (sim_cons (sim_set B 76 _ _ rfl (by decide) rfl (sim_bin _ so_sub (sim_item _ (sim_item _ (sim_var 66 _ _) (sim_var 16 _ _) (sub_plain (fun _ _ => rfl))) (sim_int 1 _ _) (sub_plain (fun _ _ => rfl))) (sim_item _ (sim_item _ (sim_var 66 _ _) (sim_var 15 _ _) (sub_plain (fun _ _ => rfl))) (sim_int 1 _ _) (sub_plain (fun _ _ => rfl)))) (fun _ => rfl)) (sim_cons (sim_set B 77 _ _ rfl (by decide) rfl (sim_tuple _ _ (sim_lcons (sim_var 15 _ _) (sim_lcons (sim_int 1 _ _) (sim_lcons (sim_bin _ so_sub (sim_var 15 _ _) (sim_var 16 _ _)) (sim_lcons (sim_var 76 _ _) (sim_lcons (sim_dict1 B _ (sim_var 15 _ _) (sim_tuple _ _ (sim_lcons (sim_int 1 _ _) (sim_lcons (sim_bin _ so_sub (sim_var 15 _ _) (sim_var 16 _ _)) (sim_lcons (sim_var 76 _ _) sim_lnil (fun _ => rfl)) (fun _ => rfl)) (fun _ => rfl)))) sim_lnil (fun _ => rfl)) (fun _ => rfl)) (fun _ => rfl)) (fun _ => rfl)) (fun _ => rfl))) (fun _ => rfl)) (sim_cons (sim_setitem B _ _ (sim_call B (fix_glob B _ rfl rfl) rfl rfl (F_addf C B (k + 32)) (sim_lcons (sim_meth1 (kt := .dict) plainAttrs_dict slot_dict_get rfl (sim_var 75 _ _) (sim_lcons (sim_var 16 _ _) (sim_lcons (sim_var 73 _ _) sim_lnil (fun _ => rfl)) (fun _ => rfl)) sf_get (fun _ => rfl) (fun _ => rfl) rfl (fun _ => rfl) (fun _ _ => rfl)) (sim_lcons (sim_var 77 _ _) sim_lnil (fun _ => rfl)) (fun _ => rfl)) (fun _ => rfl)) (sim_var 75 _ _) (sim_var 16 _ _) (fun _ => rfl)) sim_nil)))) sim_nil) sim_nil))) src_of (fun _ _ => rfl)) sim_nil))) src_rng (fun _ _ => rfl)) (sim_cons (sim_ret _ (sim_tuple _ _ (sim_lcons (sim_var 74 _ _) (sim_lcons (sim_mcall0 B ⟨by kernel_rfl, by kernel_rfl, by kernel_rfl, by kernel_rfl⟩ (at_ne (by decide) (by decide)) (sim_var 69 _ _) (F_hitems C B (k + 33)) _ (fun _ => rfl)) (sim_lcons (sim_var 75 _ _) sim_lnil (fun _ => rfl)) (fun _ => rfl)) (fun _ => rfl)))) sim_nil)))))))))
theorem F_sorted (C : Cst) (B : Basis C) (k : Nat) : SimF C (k + 35) 312 plainA f_sorted :=
  sim_fun B [] none [66, 63] [] [] plainA rfl rfl ⟨_, _, _, _, rfl, rfl, rfl, rfl⟩ rfl rfl rfl rfl rfl rfl rfl (by decide +kernel) (by decide +kernel) (fun _ _ _ _ => .nil) (fun s vals X hl => by refine ex2_1 (list2 (by simpa using hl)) fun a0 a1 eqq2 => ?_; subst eqq2; exact BindsTo.of_eq rfl) (fun p h => by (first | exact no_some h | cases h)) (s_sorted C B k)
theorem s_due (C : Cst) (B : Basis C) (k : Nat) : SimB C D_due (k + 1) (tD 29).2.1 g_due :=
  (sim_cons (sim_set B 72 _ _ rfl (by decide) rfl (sim_item _ (sim_lcomp (cap := [63, 65]) (own := []) B (si_range (fix_boot B _ rfl rfl rfl) (sim_lcons (sim_int 1 _ _) (sim_lcons (sim_bin _ so_add (sim_callB (fix_boot B _ rfl rfl rfl) (.inl ⟨_, rfl⟩) sf_abs (sim_lcons (sim_var 63 _ _) sim_lnil (fun _ => rfl)) (fun _ => rfl) (fun _ _ => rfl)) (sim_int 1 _ _)) sim_lnil (fun _ => rfl)) (fun _ => rfl)) (fun _ => rfl) (fun _ _ => rfl)) src_rng (by kernel_rfl) rfl (sima_name B 15 _ rfl (by decide) rfl) (.one _ _ (simt_cmp _ sc_eq (sim_bin _ so_mod (sim_bin _ so_mulA (sim_var 65 _ _) (sim_var 15 _ _)) (sim_var 63 _ _)) (sim_int 0 _ _))) (sim_var 15 _ _) (fun _ _ => rfl)) (sim_int 0 _ _) (sub_plain (fun _ _ => rfl))) (fun _ => rfl)) (sim_cons (sim_set2 B 66 _ _ rfl (by decide) rfl (sim_lcomp (cap := [63, 65]) (own := []) B (si_range (fix_boot B _ rfl rfl rfl) (sim_lcons (sim_var 72 _ _) sim_lnil (fun _ => rfl)) (fun _ => rfl) (fun _ _ => rfl)) src_rng (by kernel_rfl) rfl (sima_name B 15 _ rfl (by decide) rfl) .nil (sim_tuple _ _ (sim_lcons (sim_bin _ so_div (sim_bin _ so_mulA (sim_var 65 _ _) (sim_var 15 _ _)) (sim_var 63 _ _)) (sim_lcons (sim_bin _ so_mod (sim_bin _ so_mulA (sim_var 65 _ _) (sim_var 15 _ _)) (sim_var 63 _ _)) sim_lnil (fun _ => rfl)) (fun _ => rfl))) (fun _ _ => rfl)) (sw_cl rfl)) (sim_cons (sim_set2 B 90 _ _ rfl (by decide) rfl (sim_lcomp (cap := []) (own := []) B (si_of (sim_var 66 _ _)) src_of (by kernel_rfl) rfl (sima_tup B _ _ (.cons 96 _ _ _ _ rfl (by decide) rfl (.cons 80 _ _ _ _ rfl (by decide) rfl .nil))) .nil (sim_callB (fix_boot B _ rfl rfl rfl) (.inl ⟨_, rfl⟩) sf_abs (sim_lcons (sim_var 80 _ _) sim_lnil (fun _ => rfl)) (fun _ => rfl) (fun _ _ => rfl)) (fun _ _ => rfl)) (sw_cl rfl)) (sim_cons (sim_set B 74 _ _ rfl (by decide) rfl (sim_list _ sim_lnil) (fun _ => rfl)) (sim_cons (sim_set B 91 _ _ rfl (by decide) rfl (sim_list _ sim_lnil) (fun _ => rfl)) (sim_cons (sim_set B 75 _ _ rfl (by decide) rfl (sim_dict0 _) (fun _ => rfl)) (sim_cons (sim_for B _ (si_range (fix_boot B _ rfl rfl rfl) (sim_lcons (sim_var 72 _ _) sim_lnil (fun _ => rfl)) (fun _ => rfl) (fun _ _ => rfl)) (sima_name B 15 _ rfl (by decide) rfl) (sim_cons (sim_setlc (cap := [15, 90]) (own := []) B 93 _ _ rfl (by decide) rfl (sw_lc rfl rfl rfl) (si_of (sim_slice _ _ (sim_var 90 _ _) simp_none (simp_some (sim_var 15 _ _)))) src_of (by kernel_rfl) rfl (sima_name B 95 _ rfl (by decide) rfl) (.one _ _ (simt_cmp _ sc_lt (sim_var 95 _ _) (sim_item _ (sim_var 90 _ _) (sim_var 15 _ _) (sub_plain (fun _ _ => rfl))))) (sim_var 95 _ _) (fun _ _ => rfl)) (sim_cons (sim_expr _ (sim_meth1 (kt := .list) plainAttrs_list PySem.slot_list_append rfl (sim_var 74 _ _) (sim_lcons (sim_bin _ so_add (sim_bin _ so_add (sim_bin _ so_mulA (sim_list _ (sim_lcons (sim_neg _ (sim_int 1 _ _)) sim_lnil (fun _ => rfl))) (sim_callB (fix_boot B _ rfl rfl rfl) (.inl ⟨_, rfl⟩) sf_len (sim_lcons (sim_var 93 _ _) sim_lnil (fun _ => rfl)) (fun _ => rfl) (fun _ _ => rfl))) (sim_bin _ so_mulA (sim_list _ (sim_lcons (sim_int 1 _ _) sim_lnil (fun _ => rfl))) (sim_bin _ so_sub (sim_var 15 _ _) (sim_callB (fix_boot B _ rfl rfl rfl) (.inl ⟨_, rfl⟩) sf_len (sim_lcons (sim_var 93 _ _) sim_lnil (fun _ => rfl)) (fun _ => rfl) (fun _ _ => rfl))))) (sim_list _ (sim_lcons (sim_int 0 _ _) sim_lnil (fun _ => rfl)))) sim_lnil (fun _ => rfl)) (sf_append B) (fun _ => rfl) (fun _ => rfl) rfl (fun _ => rfl) (fun _ _ => rfl)) (fun _ => rfl)) (sim_cons (sim_setlc (cap := [15, 90]) (own := []) B 94 _ _ rfl (by decide) rfl (sw_lc rfl rfl rfl) (si_range (fix_boot B _ rfl rfl rfl) (sim_lcons (sim_bin _ so_add (sim_var 15 _ _) (sim_int 1 _ _)) (sim_lcons (sim_var 72 _ _) sim_lnil (fun _ => rfl)) (fun _ => rfl)) (fun _ => rfl) (fun _ _ => rfl)) src_rng (by kernel_rfl) rfl (sima_name B 64 _ rfl (by decide) rfl) (.one _ _ (simt_cmp _ sc_lt (sim_item _ (sim_var 90 _ _) (sim_var 64 _ _) (sub_plain (fun _ _ => rfl))) (sim_item _ (sim_var 90 _ _) (sim_var 15 _ _) (sub_plain (fun _ _ => rfl))))) (sim_var 64 _ _) (fun _ _ => rfl)) (sim_cons (sim_expr _ (sim_meth1 (kt := .list) plainAttrs_list PySem.slot_list_append rfl (sim_var 91 _ _) (sim_lcons (sim_ifexp _ (simt_cmp _ sc_eq (sim_bin _ so_mod (sim_callB (fix_boot B _ rfl rfl rfl) (.inl ⟨_, rfl⟩) sf_len (sim_lcons (sim_var 94 _ _) sim_lnil (fun _ => rfl)) (fun _ => rfl) (fun _ _ => rfl)) (sim_int 2 _ _)) (sim_int 0 _ _)) (sim_item _ (sim_str _ [97, 98, 99, 100, 101, 102, 103, 104, 105] _ _) (sim_var 15 _ _) (sub_plain (fun _ _ => rfl))) (sim_item _ (sim_str _ [65, 66, 67, 68, 69, 70, 71, 72, 73] _ _) (sim_var 15 _ _) (sub_plain (fun _ _ => rfl)))) sim_lnil (fun _ => rfl)) (sf_append B) (fun _ => rfl) (fun _ => rfl) rfl (fun _ => rfl) (fun _ _ => rfl)) (fun _ => rfl)) (sim_cons (sim_if _ (simt_cmp _ sc_ne (sim_var 94 _ _) (sim_list _ sim_lnil)) (sim_cons (sim_setlc (cap := [15, 66]) (own := []) B 76 _ _ rfl (by decide) rfl (sw_lc rfl rfl rfl) (si_of (sim_var 94 _ _)) src_of (by kernel_rfl) rfl (sima_name B 64 _ rfl (by decide) rfl) .nil (sim_bin _ so_sub (sim_item _ (sim_item _ (sim_var 66 _ _) (sim_var 15 _ _) (sub_plain (fun _ _ => rfl))) (sim_int 1 _ _) (sub_plain (fun _ _ => rfl))) (sim_item _ (sim_item _ (sim_var 66 _ _) (sim_var 64 _ _) (sub_plain (fun _ _ => rfl))) (sim_int 1 _ _) (sub_plain (fun _ _ => rfl)))) (fun _ _ => rfl)) (sim_cons (sim_setdc (cap := [15, 66]) (own := []) B 6 _ _ rfl (by decide) rfl (sw_dc rfl rfl rfl) (si_of (sim_var 94 _ _)) src_of (by kernel_rfl) rfl (sima_name B 64 _ rfl (by decide) rfl) (sim_var 64 _ _) (sim_tuple _ _ (sim_lcons (sim_int 1 _ _) (sim_lcons (sim_bin _ so_sub (sim_var 64 _ _) (sim_var 15 _ _)) (sim_lcons (sim_bin _ so_sub (sim_item _ (sim_item _ (sim_var 66 _ _) (sim_var 15 _ _) (sub_plain (fun _ _ => rfl))) (sim_int 1 _ _) (sub_plain (fun _ _ => rfl))) (sim_item _ (sim_item _ (sim_var 66 _ _) (sim_var 64 _ _) (sub_plain (fun _ _ => rfl))) (sim_int 1 _ _) (sub_plain (fun _ _ => rfl)))) sim_lnil (fun _ => rfl)) (fun _ => rfl)) (fun _ => rfl))) (fun _ _ => rfl)) (sim_cons (sim_setitem B _ _ (sim_tuple _ _ (sim_lcons (sim_callB (fix_boot B _ rfl rfl rfl) (.inl ⟨_, rfl⟩) sf_sum (sim_lcons (sim_var 94 _ _) sim_lnil (fun _ => rfl)) (fun _ => rfl) (fun _ _ => rfl)) (sim_lcons (sim_callB (fix_boot B _ rfl rfl rfl) (.inl ⟨_, rfl⟩) sf_len (sim_lcons (sim_var 94 _ _) sim_lnil (fun _ => rfl)) (fun _ => rfl) (fun _ _ => rfl)) (sim_lcons (sim_bin _ so_sub (sim_callB (fix_boot B _ rfl rfl rfl) (.inl ⟨_, rfl⟩) sf_sum (sim_lcons (sim_var 94 _ _) sim_lnil (fun _ => rfl)) (fun _ => rfl) (fun _ _ => rfl)) (sim_bin _ so_mulA (sim_var 15 _ _) (sim_callB (fix_boot B _ rfl rfl rfl) (.inl ⟨_, rfl⟩) sf_len (sim_lcons (sim_var 94 _ _) sim_lnil (fun _ => rfl)) (fun _ => rfl) (fun _ _ => rfl)))) (sim_lcons (sim_callB (fix_boot B _ rfl rfl rfl) (.inl ⟨_, rfl⟩) sf_sum (sim_lcons (sim_var 76 _ _) sim_lnil (fun _ => rfl)) (fun _ => rfl) (fun _ _ => rfl)) (sim_lcons (sim_var 6 _ _) sim_lnil (fun _ => rfl)) (fun _ => rfl)) (fun _ => rfl)) (fun _ => rfl)) (fun _ => rfl))) (sim_var 75 _ _) (sim_var 15 _ _) (fun _ => rfl)) sim_nil))) sim_nil) sim_nil))))) src_rng (fun _ _ => rfl)) (sim_cons (sim_setlc (cap := [90]) (own := []) B 92 _ _ rfl (by decide) rfl (sw_lc rfl rfl rfl) (si_of (sim_callB (fix_boot B _ rfl rfl rfl) (.inl ⟨_, rfl⟩) sf_sorted (sim_lcons (sim_var 90 _ _) sim_lnil (fun _ => rfl)) (fun _ => rfl) (fun _ _ => rfl))) src_of (by kernel_rfl) rfl (sima_name B 95 _ rfl (by decide) rfl) .nil (sim_meth1 (kt := .list) plainAttrs_list slot_list_index rfl (sim_var 90 _ _) (sim_lcons (sim_var 95 _ _) sim_lnil (fun _ => rfl)) sf_index (fun _ => rfl) (fun _ => rfl) rfl (fun _ => rfl) (fun _ _ => rfl)) (fun _ _ => rfl)) (sim_cons (sim_ret _ (sim_tuple _ _ (sim_lcons (sim_var 66 _ _) (sim_lcons (sim_var 74 _ _) (sim_lcons (sim_lcomp (cap := [91]) (own := []) B (si_of (sim_var 92 _ _)) src_of (by kernel_rfl) rfl (sima_name B 15 _ rfl (by decide) rfl) .nil (sim_tuple _ _ (sim_lcons (sim_item _ (sim_var 91 _ _) (sim_var 15 _ _) (sub_plain (fun _ _ => rfl))) (sim_lcons (sim_callB (fix_boot B _ rfl rfl rfl) (.inr ⟨_, rfl⟩) sf_str (sim_lcons (sim_bin _ so_add (sim_int 10 _ _) (sim_var 15 _ _)) sim_lnil (fun _ => rfl)) (fun _ => rfl) (fun _ _ => rfl)) sim_lnil (fun _ => rfl)) (fun _ => rfl))) (fun _ _ => rfl)) (sim_lcons (sim_var 75 _ _) sim_lnil (fun _ => rfl)) (fun _ => rfl)) (fun _ => rfl)) (fun _ => rfl)))) sim_nil)))))))))
theorem F_due (C : Cst) (B : Basis C) (k : Nat) : SimF C (k + 2) 331 plainA f_due :=
  sim_fun B [15, 63, 65, 66, 90, 91] none [65, 63] [] [] plainA rfl rfl ⟨_, _, _, _, rfl, rfl, rfl, rfl⟩ rfl rfl rfl rfl rfl rfl rfl (by decide +kernel) (by decide +kernel) (fun _ _ _ _ => .nil) (fun s vals X hl => by refine ex2_1 (list2 (by simpa using hl)) fun a0 a1 eqq2 => ?_; subst eqq2; exact BindsTo.of_eq rfl) (fun p h => by (first | exact no_some h | cases h)) (s_due C B k)
end Mine
end
section
open PySem PySem.W PyProof.Rows PySem.Calls PySem.SeqAt
set_option maxRecDepth 100000
namespace Mine
section
variable {C : Cst} {W : Wd} {μ : MH} {A : Around}
theorem fun_callF {k : Nat} {a : Addr} {o : Obj} {fd : FuncData} {body : List Stmt} {R : Value → Shared → Prop} (B : Basis C) (own : List Nat) (co : Option (Addr × Str)) (ns : List Nat) (ms : List MV) (vals : List Value)
    (hK : (K C.w.params).lookup a = some o) (hd : o.data = .func fd) (hcr : ∃ c oc vs t, fd.code = .ref c ∧ (K C.w.params).lookup c = some oc ∧ oc.data = .fields vs ∧ vs[1]? = some (.str fd.qualname t))
    (hbody : fd.body = .stmts body) (hg : fd.globals = mainGlobals) (hcl : fd.closure = []) (hbu : fd.builtins = builtinsNs) (hco : fd.scope.isCoroutine = false) (hgen : fd.scope.isGenerator = false) (hk : fd.scope.kind = .function)
    (how : ∀ n ∈ own, fd.scope.names.lookup (nm n) = some .cell) (hns : ∀ n ∈ ns, n < nmC ∧ Sto ⟨fd.scope, own, co⟩ n = true) (hbind : BindsTo W.s fd ⟨vals, []⟩ ((ns.map nm).zip vals)) (hco' : ∀ p, co = some p → fd.code = .ref p.1 ∧ fd.qualname ++ Str.ofString ".<locals>." = p.2)
    (ao : AOk (k + 1) A) (I : Inv C W μ) (V : VRs C.Q W.h W.ρ W.M ms vals)
    (h : ∀ env O W', EnvOk ⟨fd.scope, own, co⟩ env → env.frame = some env.locals → Ext [] W W' → (∀ a ∈ O, W.h.get? a = none) → Inv C W' μ → FrOk C W' env own O (bnd ns ms []) → AOk k (A.deeper env) →
      wpAny (model P0 C.w) (A.deeper env) (execs body env) (fun f s' => R (match f with | .ret v => v | _ => .none) s') NoE W'.s) :
    codeAny (model P0 C.w) A (.call (.ref a) ⟨vals, []⟩) (fun r s' => match r with | .ok (.ret v) => R v s' | .ok _ => False | .error e => NoE e s') W.s := by
  have KK := I.K B
  have hcd : W.s.heap.CodeRec fd.code fd.qualname := by
    refine ex4_4 hcr fun c oc vs t h1 h2 h3 h4 => ?_
    exact ⟨c, oc, vs, t, h1, KK c oc h2, h3, h4⟩
  refine (codeAny_call_function (fd := fd) (by have := ao.dep; unfold recursionLimit; omega) (KK a o hK) hd hco hgen hbody hcd (hbind _ _ _ _ ?_))
  rw [hg, hcl, hbu]
  refine up (sim_newEnv B own co hco' hk how ns ms vals hns I V (Q := fun env s₂ => s₂.heap.NoLimit ∧ codeAny (model P0 C.w) A (.func body env) _ s₂) ?_)
  intro env O W₁ he eo x₁ hf I₁ F₁
  refine ⟨I₁.lim, codeAny_func ?_⟩
  have ao' : AOk k (A.deeper env) := ⟨ao.hd, by show A.depth + 1 + 4 * k + 4 < 990; have := ao.dep; omega, by show A.units + 3 + 64 * k + 1000 < 9900; have := ao.un; omega⟩
  refine up ?_
  exact h env O W₁ eo (by rw [he]; rfl) x₁ hf I₁ F₁ ao'
theorem Ext.freshS {S O : List Addr} {W W₁ W₂ : Wd} (x : Ext [] W W₁) (y : Ext (S ++ O) W₁ W₂) (hO : ∀ a ∈ O, W.h.get? a = none) : Ext S W W₂ where
  pre := fun n a h => y.pre n a (x.pre n a h)
  fr := fun b o h hc hρ hS => y.fr b o (x.fr b o h hc hρ (fun h => nomatch h)) (hc.imp_right (x.subM b)) (fun hb => (x.newρ b hb).elim hρ (fun h1 => by rw [h] at h1; (first | exact no_some h1 | cases h1)))
    (fun hb => (List.mem_append.mp hb).elim hS fun hb => by rw [hO b hb] at h; (first | exact no_some h | cases h))
  alive := fun b o h => let ⟨o', h'⟩ := x.alive b o h; y.alive b o' h'
  newρ := ((x.lift).trans y).newρ
  newM := ((x.lift).trans y).newM
  subM := fun b hb => y.subM b (x.subM b hb)
end
section
variable {C : Cst} {A : Around} {env : Env} {O : List Addr} {outs : List Env} {W : Wd} {μ : MH}
theorem sim_m1 {D : Fd} {k u : Nat} {p q : Pos} : SimE C D k (.UnaryOp .USub (.Constant (.int 1) u p) q) (cInt (-1)) :=
  show SimE C D k _ (cNeg (cInt 1)) from sim_neg q (sim_int 1 u p)
end
open PySem.F in
theorem s_runX {C : Cst} {A : Around} {env : Env} {O : List Addr} {outs : List Env} (B : Basis C) (j : Nat) (X : RCx D_run (j + 34) A env O outs) : SimBX C D_run A env O outs (tD 28).2.1 g_run :=
  (bx_cons (sx_of X (sim_set B 81 _ _ rfl (by decide) rfl (sim_list _ (sim_lcons (sim_tuple _ _ (sim_lcons (sim_var 80 _ _) (sim_lcons (sim_var 63 _ _) sim_lnil (fun _ => rfl)) (fun _ => rfl))) sim_lnil (fun _ => rfl))) (fun _ => rfl)))
    (bx_cons (sx_of X (sim_set B 82 _ _ rfl (by decide) rfl (sim_int 0 _ _) (fun _ => rfl)))
    (bx_cons (sx_while X _ (simt_cmp _ sc_eq (sim_var 82 _ _) (sim_int 0 _ _)) (bx_cons (sx_try B X (sim_cons (sim_expr _ (sim_meth1 (kt := .list) plainAttrs_list PySem.slot_list_append rfl (sim_var 81 _ _) (sim_lcons (sim_tuple _ _ (sim_lcons (sim_item _ (sim_call B (fix_glob B _ rfl rfl) rfl rfl (F_divmod C B j) (sim_lcons (sim_item _ (sim_item _ (sim_var 81 _ _) sim_m1 (sub_plain (fun _ _ => rfl))) (sim_int 1 _ _) (sub_plain (fun _ _ => rfl))) (sim_lcons (sim_item _ (sim_item _ (sim_var 81 _ _) sim_m1 (sub_plain (fun _ _ => rfl))) (sim_int 0 _ _) (sub_plain (fun _ _ => rfl))) sim_lnil (fun _ => rfl)) (fun _ => rfl)) (fun _ => rfl)) (sim_int 1 _ _) (sub_plain (fun _ _ => rfl))) (sim_lcons (sim_item _ (sim_item _ (sim_var 81 _ _) sim_m1 (sub_plain (fun _ _ => rfl))) (sim_int 0 _ _) (sub_plain (fun _ _ => rfl))) sim_lnil (fun _ => rfl)) (fun _ => rfl))) sim_lnil (fun _ => rfl)) (sf_append B) (fun _ => rfl) (fun _ => rfl) rfl (fun _ => rfl) (fun _ _ => rfl)) (fun _ => rfl)) sim_nil)
      (sim_lcons (sim_item _ (sim_item _ (sim_var 81 _ _) sim_m1 (sub_plain (fun _ _ => rfl))) (sim_int 1 _ _) (sub_plain (fun _ _ => rfl))) (sim_lcons (sim_item _ (sim_item _ (sim_var 81 _ _) sim_m1 (sub_plain (fun _ _ => rfl))) (sim_int 0 _ _) (sub_plain (fun _ _ => rfl))) sim_lnil (fun _ => rfl)) (fun _ => rfl)) (fun _ => rfl) (fun _ => rfl) rfl (fun _ => rfl))
    (bx_of X sim_nil)))
    (bx_cons (sx_of X (sim_set B 83 _ _ rfl (by decide) rfl (sim_int 0 _ _) (fun _ => rfl)))
    (bx_cons (sx_of X (sim_set B 84 _ _ rfl (by decide) rfl (sim_list _ sim_lnil) (fun _ => rfl)))
    (bx_cons (sx_of X (sim_for B _ (si_rev (fix_boot B _ rfl rfl rfl) (sim_lcons (sim_slice _ _ (sim_var 81 _ _) simp_none (simp_some (sim_neg _ (sim_int 1 _ _)))) sim_lnil (fun _ => rfl)) (fun _ => rfl)) (sima_name B 67 _ rfl (by decide) rfl) (sim_cons (sim_setT _ (sima_tup B _ _ (.cons 85 _ _ _ _ rfl (by decide) rfl (.cons 86 _ _ _ _ rfl (by decide) rfl .nil))) (sim_call B (fix_glob B _ rfl rfl) rfl rfl (F_divmod C B j) (sim_lcons (sim_item _ (sim_var 67 _ _) (sim_int 0 _ _) (sub_plain (fun _ _ => rfl))) (sim_lcons (sim_var 82 _ _) sim_lnil (fun _ => rfl)) (fun _ => rfl)) (fun _ => rfl)) (fun _ => rfl) (fun _ => rfl) (fun _ => rfl)) (sim_cons (sim_setT _ (sima_tup B _ _ (.cons 87 _ _ _ _ rfl (by decide) rfl (.cons 88 _ _ _ _ rfl (by decide) rfl .nil))) (sim_call B (fix_glob B _ rfl rfl) rfl rfl (F_divmod C B j) (sim_lcons (sim_item _ (sim_var 67 _ _) (sim_int 1 _ _) (sub_plain (fun _ _ => rfl))) (sim_lcons (sim_var 82 _ _) sim_lnil (fun _ => rfl)) (fun _ => rfl)) (fun _ => rfl)) (fun _ => rfl) (fun _ => rfl) (fun _ => rfl)) (sim_cons (sim_setT _ (sima_tup B _ _ (.cons 83 _ _ _ _ rfl (by decide) rfl (.cons 89 _ _ _ _ rfl (by decide) rfl .nil))) (sim_call B (fix_glob B _ rfl rfl) rfl rfl (F_divmod C B j) (sim_lcons (sim_bin _ so_sub (sim_bin _ so_mulA (sim_bin _ so_mulA (sim_bin _ so_sub (sim_var 85 _ _) (sim_int 1 _ _)) (sim_bin _ so_sub (sim_var 87 _ _) (sim_int 1 _ _))) (sim_bin _ so_sub (sim_bin _ so_add (sim_var 85 _ _) (sim_var 87 _ _)) (sim_int 1 _ _))) (sim_bin _ so_mulA (sim_bin _ so_mulA (sim_int 4 _ _) (sim_var 87 _ _)) (sim_var 83 _ _))) (sim_lcons (sim_bin _ so_mulA (sim_int 4 _ _) (sim_var 85 _ _)) sim_lnil (fun _ => rfl)) (fun _ => rfl)) (fun _ => rfl)) (fun _ => rfl) (fun _ => rfl) (fun _ => rfl)) (sim_cons (sim_expr _ (sim_meth1 (kt := .list) plainAttrs_list slot_list_extend rfl (sim_var 84 _ _) (sim_lcons (sim_list _ (sim_lcons (sim_var 86 _ _) (sim_lcons (sim_var 88 _ _) (sim_lcons (sim_var 89 _ _) sim_lnil (fun _ => rfl)) (fun _ => rfl)) (fun _ => rfl))) sim_lnil (fun _ => rfl)) (sf_extend B) (fun _ => rfl) (fun _ => rfl) rfl (fun _ => rfl) (fun _ _ => rfl)) (fun _ => rfl)) sim_nil)))) src_rev (fun _ _ => rfl)))
    (bx_cons (sx_of X (sim_ret _ (sim_tuple _ _ (sim_lcons (sim_var 82 _ _) (sim_lcons (sim_var 83 _ _) (sim_lcons (sim_var 84 _ _) sim_lnil (fun _ => rfl)) (fun _ => rfl)) (fun _ => rfl)))))
    (bx_of X sim_nil))))))))
section
variable {C : Cst} {A : Around} {env : Env} {O : List Addr} {outs : List Env} {W : Wd} {μ : MH}
theorem call_run {D : Fd} {j : Nat} {ls : Locs} {args : List MV} {vals : List Value} {v : MV} {μ' : MH} {R : Value → Shared → Prop} (B : Basis C) (X : RCx D (j + 35) A env O outs) (h : f_run args μ = some (v, μ')) (I : Inv C W μ) (F : FrOk C W env D.own O ls) (hl : Live W outs) (V : VRs C.Q W.h W.ρ W.M args vals)
    (hR : ∀ W' pv, ExtS (frs (env :: outs)) W W' → Inv C W' μ' → VR C.Q W'.h W'.ρ W'.M v pv → R pv W'.s) : wpAny (model P0 C.w) A (call (.ref 326) vals) R NoE W.s := by
  have hlive := live_env X F hl
  unfold f_run fRun at h
  cases hlen : Nat.beq (args.length + ([] : List MV).length) [80, 63].length with
  | false => rw [hlen] at h; (first | exact no_some h | cases h)
  | true =>
    rw [hlen, cond_true, List.append_nil] at h
    have hl2 : vals.length = 2 := by rw [← V.len]; exact Nat.eq_of_beq_eq_true hlen
    refine ex2_1 (list2 hl2) fun p1 p2 eqq2 => ?_; subst eqq2
    refine wpAny_call (fun_callF (k := j + 34) B [] none [80, 63] args [p1, p2] rfl rfl ⟨_, _, _, _, rfl, rfl, rfl, rfl⟩ rfl rfl rfl rfl rfl rfl rfl (by decide +kernel) (by decide +kernel) (BindsTo.of_eq rfl) (fun p h => by (first | exact no_some h | cases h)) X.ao I V fun env' O' W₁ eo' hf' x₁ hO I₁ F₁ ao' => ?_)
    have X' : RCx D_run (j + 34) (A.deeper env') env' O' (env :: outs) := ⟨eo', ao', hf', Around.frames_deeper X.fs, fun L hL hLO => by
      obtain ⟨_, o, e, _⟩ := hlive.mem hL
      rw [hO L hLO] at e; cases e⟩
    have key : ∀ fl ls₂ μ₂, g_run (bnd [80, 63] args []) μ = some (fl, ls₂, μ₂) → μ₂ = μ' → (∀ W₂ f, FlR C W₂ fl f → Inv C W₂ μ' → VR C.Q W₂.h W₂.ρ W₂.M v (match f with | .ret v => v | _ => .none)) →
        wpAny (model P0 C.w) (A.deeper env') (execs (tD 28).2.1 env') (fun f s' => R (match f with | .ret v => v | _ => .none) s') NoE W₁.s := by
      rintro fl ls₂ μ₂ hg rfl hv
      refine s_runX B j X' _ _ _ _ _ hg W₁ I₁ F₁ (hlive.ext I x₁) _ fun W₂ f x₂ I₂ F₂ R₂ => ?_
      refine hR W₂ _ ⟨Ext.freshS x₁ x₂.x hO, fun b hb o e => ?_⟩ I₂ (hv W₂ f R₂ I₂)
      exact x₂.sl b hb o (x₁.fr b o e (.inr (hlive.mem hb).1) (I.freshM b (hlive.mem hb).1).2.2 (fun h => nomatch h))
    split at h
    · rename_i v' ls₁ μ₁ h1
      (first | exact no_some h | cases h)
      exact key _ _ _ h1 rfl fun W₂ f hf _ => by (first | exact no_some hf | cases hf); assumption
    · rename_i ls₁ μ₁ h1
      (first | exact no_some h | cases h)
      exact key _ _ _ h1 rfl fun W₂ f hf _ => by (first | exact no_some hf | cases hf); exact .none
    · (first | exact no_some h | cases h)
theorem sx_runcall {D : Fd} {j : Nat} {tg e1 e2 : Expr} {x : Str} {p pc : Pos} {g : As} {b : El} (B : Basis C) (X : RCx D (j + 35) A env O outs) (pos : Pos) (hg : SimA C D tg g) (hx : Fix C D (.Name x p) (.ref 326)) (hb : SimL C D (j + 35) [e1, e2] b)
    (he : ∀ env, starEach [e1, e2] env = (false, eval e1 env) :: starEach [e2] env) (h1 : ∀ env, (assignEach [tg] env).map (·.2) = [assign tg env]) (sw : ∀ env, swapsWithSole [tg] (.Call (.Name x p) [e1, e2] [] pc) pos.line env = pure false) (hw : ∀ env, swappedStores [tg] (.Call (.Name x p) [e1, e2] [] pc) env = pure none) :
    SimSX C D A env O outs (.Assign [tg] (.Call (.Name x p) [e1, e2] [] pc) pos) (sSetA g (cCall f_run b)) := by
  intro ls μ fl ls' μ' h W I F hl Q hQ
  unfold sSetA cCall at h
  cases hb1 : b ls μ with
  | none => rw [hb1] at h; (first | exact no_some h | cases h)
  | some r =>
    obtain ⟨vs, μ₁⟩ := r
    rw [hb1] at h
    simp only at h
    cases hf : f_run vs μ₁ with
    | none => rw [hf] at h; (first | exact no_some h | cases h)
    | some r =>
      obtain ⟨v, μ₂⟩ := r
      rw [hf] at h
      simp only at h
      split at h
      · rename_i ls₁ hg1
        (first | exact no_some h | cases h)
        refine wpAny_Assign_stores (wpAny_Call_NameR (hx W μ env A X.eo I _ ?_)) (sw env) (hw env)
        obtain ⟨ob, fd, hK, hdat⟩ : ∃ ob fd, (K C.w.params).lookup 326 = some ob ∧ ob.data = .func fd := ⟨_, _, rfl, rfl⟩
        refine callWith_def hdat (hb ls μ vs μ₁ hb1 W env O A pc X.eo X.ao I F _ fun W₁ pvs x₁ I₁ V₁ => ?_) (he env)
        refine ⟨I₁.K B 326 ob hK, call_run B X hf I₁ (F.mono I x₁) (hl.ext I x₁) V₁ fun W₂ pv x₂ I₂ V₂ => ?_⟩
        rw [h1 env]
        have F₁ := F.mono I x₁
        have hlive := live_env X F₁ (hl.ext I x₁)
        have F₂ := F₁.slots I₁ x₂ fun a ha => (hlive.mem ha).1
        refine hg v ls _ hg1 W₂ _ env O A pv X.eo X.ao.hd I₂ F₂ V₂ _ fun W₃ x₃ I₃ F₃ => ?_
        have r₁ : RX outs O W W₁ := .of I hl X.no x₁.lift
        have r₂ : RX outs O W₁ W₂ := .raise X.fr F.LO x₂
        exact hQ W₃ _ ((r₁.trans r₂).trans (.of I₂ ((hl.step r₁).step r₂) X.no x₃)) I₃ F₃ .next
      · (first | exact no_some h | cases h)
end
open PySem.F in
theorem s_lawX {C : Cst} {A : Around} {env : Env} {O : List Addr} {outs : List Env} (B : Basis C) (j : Nat) (X : RCx D_law (j + 35) A env O outs) : SimBX C D_law A env O outs (tD 30).2.1.tail g_lawT :=
  (bx_cons (sx_of X (sim_set B 66 _ _ rfl (by decide) rfl (sim_call B (fix_glob B _ rfl rfl) rfl rfl (F_rows C B j) (sim_lcons (sim_var 65 _ _) (sim_lcons (sim_var 63 _ _) sim_lnil (fun _ => rfl)) (fun _ => rfl)) (fun _ => rfl)) (fun _ => rfl)))
    (bx_cons (sx_of X (sim_setT _ (sima_tup B _ _ (.cons 74 _ _ _ _ rfl (by decide) rfl (.cons 98 _ _ _ _ rfl (by decide) rfl (.cons 75 _ _ _ _ rfl (by decide) rfl .nil)))) (sim_call B (fix_glob B _ rfl rfl) rfl rfl (F_sorted C B j) (sim_lcons (sim_var 66 _ _) (sim_lcons (sim_var 63 _ _) sim_lnil (fun _ => rfl)) (fun _ => rfl)) (fun _ => rfl)) (fun _ => rfl) (fun _ => rfl) (fun _ => rfl)))
    (bx_cons (sx_of X (sim_if _ (simt_cmp _ sc_ne (sim_tuple _ _ (sim_lcons (sim_var 66 _ _) (sim_lcons (sim_var 74 _ _) (sim_lcons (sim_var 98 _ _) (sim_lcons (sim_var 75 _ _) sim_lnil (fun _ => rfl)) (fun _ => rfl)) (fun _ => rfl)) (fun _ => rfl))) (sim_call B (fix_glob B _ rfl rfl) rfl rfl (F_due C B (j + 33)) (sim_lcons (sim_var 65 _ _) (sim_lcons (sim_var 63 _ _) sim_lnil (fun _ => rfl)) (fun _ => rfl)) (fun _ => rfl))) (sim_cons (sim_ret _ (sim_bool false _ _)) sim_nil) sim_nil))
    (bx_cons (sx_of X (sim_set B 78 _ _ rfl (by decide) rfl (sim_call B (fix_glob B _ rfl rfl) rfl rfl (F_total C B (j + 32)) (sim_lcons (sim_var 75 _ _) sim_lnil (fun _ => rfl)) (fun _ => rfl)) (fun _ => rfl)))
    (bx_cons (sx_of X (sim_setlc (cap := [78]) (own := [99]) B 97 _ _ rfl (by decide) rfl (sw_lc rfl rfl rfl) (si_range (fix_boot B _ rfl rfl rfl) (sim_lcons (sim_int 3 _ _) sim_lnil (fun _ => rfl)) (fun _ => rfl) (fun _ _ => rfl)) src_rng (by kernel_rfl) rfl (sima_name B 99 _ rfl (by decide) rfl) .nil (sim_call B (fix_glob B _ rfl rfl) rfl rfl (F_cnt C B (j + 34)) (sim_lcons (sim_dcomp (cap := [78, 99]) (own := []) B (si_of (sim_item _ (sim_var 78 _ _) (sim_int 4 _ _) (sub_plain (fun _ _ => rfl)))) src_of (by kernel_rfl) rfl (sima_name B 64 _ rfl (by decide) rfl) (sim_var 64 _ _) (sim_item _ (sim_item _ (sim_item _ (sim_var 78 _ _) (sim_int 4 _ _) (sub_plain (fun _ _ => rfl))) (sim_var 64 _ _) (sub_plain (fun _ _ => rfl))) (sim_var 99 _ _) (sub_plain (fun _ _ => rfl))) (fun _ _ => rfl)) sim_lnil (fun _ => rfl)) (fun _ => rfl)) (fun _ _ => rfl)))
    (bx_cons (sx_runcall B X _ (sima_tup B _ _ (.cons 82 _ _ _ _ rfl (by decide) rfl (.cons 83 _ _ _ _ rfl (by decide) rfl (.cons 84 _ _ _ _ rfl (by decide) rfl .nil)))) (fix_glob B _ rfl rfl) (sim_lcons (sim_item _ (sim_call B (fix_glob B _ rfl rfl) rfl rfl (F_divmod C B (j + 1)) (sim_lcons (sim_var 65 _ _) (sim_lcons (sim_var 63 _ _) sim_lnil (fun _ => rfl)) (fun _ => rfl)) (fun _ => rfl)) (sim_int 1 _ _) (sub_plain (fun _ _ => rfl))) (sim_lcons (sim_var 63 _ _) sim_lnil (fun _ => rfl)) (fun _ => rfl)) (fun _ => rfl) (fun _ => rfl) (fun _ => rfl) (fun _ => rfl))
    (bx_cons (sx_of X (sim_if _ (simt_or _ (simt_cmp _ sc_ne (sim_var 84 _ _) (sim_bin _ so_mulA (sim_list _ (sim_lcons (sim_int 0 _ _) sim_lnil (fun _ => rfl))) (sim_callB (fix_boot B _ rfl rfl rfl) (.inl ⟨_, rfl⟩) sf_len (sim_lcons (sim_var 84 _ _) sim_lnil (fun _ => rfl)) (fun _ => rfl) (fun _ _ => rfl)))) (fun _ => (simt_or _ (simt_cmp _ sc_ne (sim_callB (fix_boot B _ rfl rfl rfl) (.inr ⟨_, rfl⟩) sf_list (sim_lcons (sim_sliceT _ _ (sim_var 78 _ _) (simp_some (sim_int 1 _ _)) (simp_some (sim_int 4 _ _))) sim_lnil (fun _ => rfl)) (fun _ => rfl) (fun _ _ => rfl)) (sim_var 97 _ _)) (fun _ => (simt_none _))))) (sim_cons (sim_ret _ (sim_bool false _ _)) sim_nil) sim_nil))
    (bx_cons (sx_of X (sim_ret _ (sim_and _ (sim_cmp _ sc_eq (sim_item _ (sim_var 97 _ _) (sim_int 0 _ _) (sub_plain (fun _ _ => rfl))) (sim_var 83 _ _)) (sim_and _ (sim_cmp _ sc_eq (sim_bin _ so_mulA (sim_int 3 _ _) (sim_item _ (sim_var 97 _ _) (sim_int 1 _ _) (sub_plain (fun _ _ => rfl)))) (sim_bin _ so_mulA (sim_callB (fix_boot B _ rfl rfl rfl) (.inl ⟨_, rfl⟩) sf_len (sim_lcons (sim_var 66 _ _) sim_lnil (fun _ => rfl)) (fun _ => rfl) (fun _ _ => rfl)) (sim_var 83 _ _))) (sim_one _ (sim_cmp _ sc_eq (sim_item _ (sim_var 97 _ _) (sim_int 2 _ _) (sub_plain (fun _ _ => rfl))) (sim_bin _ so_mulA (sim_var 82 _ _) (sim_item _ (sim_var 97 _ _) (sim_int 1 _ _) (sub_plain (fun _ _ => rfl))))))))))
    (bx_of X sim_nil)))))))))
end Mine
end
section
open PySem PySem.W PyProof.Rows PySem.Calls PySem.SeqAt
set_option maxRecDepth 100000
namespace Mine
open Classical in
noncomputable def fgt (f : List MV → MH → Option (MV × MH)) : List MV → MH → Option (MV × MH) := fun args μ => match f args μ with
  | some (v, μ'') => if flat v = true ∧ ∀ n, n < μ.next → μ''.get n = μ.get n then some (v, μ) else none
  | none => none
theorem SimF.fgt {C : Cst} {k : Nat} {a : Addr} {mk : List Value → Args} {f : List MV → MH → Option (MV × MH)} (h : SimF C k a mk f) : SimF C k a mk (Mine.fgt f) := by
  refine h.forget fun args μ v μ' _ hg => ?_
  unfold Mine.fgt at hg
  split at hg
  · rename_i v₁ μ₁ h1
    split at hg
    · rename_i hc
      (first | exact no_some hg | cases hg)
      exact ⟨rfl, hc.1, μ₁, h1, hc.2⟩
    · (first | exact no_some hg | cases hg)
  · (first | exact no_some hg | cases hg)
theorem drawn_fgt {μ : MH} {is : List Int} (hn : μ.next < 1000) (hl : is.length ≤ 63) : ∃ w st, fgt f_drawn [.frz (is.map .int)] μ = some (.tup [.int w, .int st], μ) ∧ w ∈ wheels ∧ st.natAbs < 10000 := by
  refine ex3_4 (drawn_at (is := is) hn hl) fun μ' w st h1 h2 h3 h4 => ?_
  refine ⟨w, st, ?_, h2, h3⟩
  unfold fgt
  rw [h1]
  simp only
  rw [if_pos ⟨rfl, h4⟩]
section
variable {C : Cst}
theorem FrOk.swap {W : Wd} {env : Env} {own : List Nat} {O : List Addr} {ls : Locs} {n : Nat} {a b : Int} (F : FrOk C W env own O ls) (h : look ls n = some (.int (a * C.Q + b))) : FrOk C W env own O (keep ls n (.lin a b)) where
  LO := F.LO
  OM := F.OM
  ns := F.ns
  cM := F.cM
  cap := F.cap
  ow := F.ow
  vars := fun n' v hn hl hv => by
    rw [look_keep] at hl
    by_cases e : n' = n
    · subst e
      rw [if_pos rfl] at hl; (first | exact no_some hl | cases hl)
      refine ex1_2 (F.vars n' _ hn h hv) fun pv h1 h2 => ?_
      cases h1 with
      | int _ t => exact ⟨_, .lin a b t, h2⟩
    · rw [if_neg e] at hl
      exact F.vars n' v hn hl hv
theorem law_parts (C : Cst) (B : Basis C) (j : Nat) : ∃ st0, (tD 30).2.1 = st0 :: (tD 30).2.1.tail ∧ SimS C D_law (j + 35) st0 (sSetA (aTup [63, 65]) (cCall (fgt f_drawn) (lCons (cVar 60) lNil))) :=
  ⟨_, rfl, sim_setT _ (sima_tup B _ _ (.cons 63 _ _ _ _ rfl (by decide) rfl (.cons 65 _ _ _ _ rfl (by decide) rfl .nil))) (sim_call B (fix_glob B _ rfl rfl) rfl rfl (SimF.fgt (F_drawn C B (j + 33))) (sim_lcons (sim_var 60 _ _) sim_lnil (fun _ => rfl)) (fun _ => rfl)) (fun _ => rfl) (fun _ => rfl) (fun _ => rfl)⟩
noncomputable def lsL (w r : Int) (l : List MV) : Locs := [(60, .frz l), (63, .int w), (65, .lin w r)]
noncomputable def okLaw (w r : Int) (l : List MV) : Bool := match g_lawT (lsL w r l) ⟨.e, 0⟩ with
  | some (.ret (.bool b), _, _) => b
  | _ => false
theorem okLaw_inv {w r : Int} {l : List MV} (h : okLaw w r l = true) : ∃ ls' μ', g_lawT (lsL w r l) ⟨.e, 0⟩ = some (.ret (.bool true), ls', μ') := by
  unfold okLaw at h
  split at h
  · rename_i b ls' μ' h1
    subst h
    exact ⟨ls', μ', h1⟩
  · (first | exact no_some h | cases h)
theorem law_walk (B : Basis C) {W : Wd} {A : Around} {is : List Int} {pv : Value} {w st : Int} (hA : A.frames = some []) (ao : AOk 36 A) (I : Inv C W ⟨.e, 0⟩) (V : VR C.Q W.h W.ρ W.M (.frz (is.map .int)) pv)
    (hd : fgt f_drawn [.frz (is.map .int)] ⟨.e, 0⟩ = some (.tup [.int w, .int st], ⟨.e, 0⟩)) (r : Int) (hq : st = w * C.Q + r) (hok : okLaw w r (is.map .int) = true) :
    wpAny (model P0 C.w) A (call (.ref 336) [pv]) (fun v s' => v = .bool true ∧ OldK C.H s'.heap ∧ s'.os = C.os ∧ AllBare s'.gens) NoE W.s := by
  refine ex2_1 (okLaw_inv hok) fun ls' μ' hg => ?_
  refine wpAny_call (fun_callF (k := 35) B D_law.own none [60] [.frz (is.map .int)] [pv] rfl rfl ⟨_, _, _, _, rfl, rfl, rfl, rfl⟩ rfl rfl rfl rfl rfl rfl rfl (by decide +kernel) (by decide +kernel) (BindsTo.of_eq rfl) (fun p h => by (first | exact no_some h | cases h)) ao I (.cons _ _ _ _ V .nil) fun env O W₁ eo hf x₁ hO I₁ F₁ ao' => ?_)
  have X : RCx D_law (0 + 35) (A.deeper env) env O [] := ⟨eo, ao', hf, Around.frames_deeper hA, fun _ h => nomatch h⟩
  refine ex1_2 (law_parts C B 0) fun st0 e0 s0 => ?_
  show wpAny _ _ (execs (tD 30).2.1 env) _ _ _
  rw [e0]
  refine wpAny_execs_cons (s0 (bnd [60] [.frz (is.map .int)] []) ⟨.e, 0⟩ .next [(60, .frz (is.map .int)), (63, .int w), (65, .int st)] ⟨.e, 0⟩ ?_ W₁ env O _ eo X.ao I₁ F₁ _ fun W₂ f x₂ I₂ F₂ R₂ => ?_)
  · have e : cCall (fgt f_drawn) (lCons (cVar 60) lNil) (bnd [60] [.frz (is.map .int)] []) ⟨.e, 0⟩ = fgt f_drawn [.frz (is.map .int)] ⟨.e, 0⟩ := rfl
    unfold sSetA
    rw [e, hd]
    rfl
  · cases R₂
    have F₃ : FrOk C W₂ env D_law.own O (lsL w r (is.map .int)) := by
      have := F₂.swap (n := 65) (a := w) (b := r) (by rw [← hq]; rfl)
      exact this
    refine s_lawX B 0 X _ _ _ _ _ hg W₂ I₂ F₃ (fun _ h => nomatch h) _ fun W₃ f x₃ I₃ F₃' R₃ => ?_
    cases R₃ with
    | ret _ pv V₃ =>
      refine V₃.boolE ?_
      exact ⟨rfl, I₃.old, I₃.os, I₃.gens⟩
end
end Mine
end
section
open PySem PySem.W PyProof.Rows
set_option maxRecDepth 100000
namespace Mine
theorem all_zero {f : Nat → Bool} : (List.range 0).all f = true := rfl
theorem all_succ {f : Nat → Bool} {n : Nat} (h : (List.range n).all f = true) (x : f n = true) : (List.range (n + 1)).all f = true := by
  rw [List.range_succ, List.all_append, h, Bool.true_and, List.all_cons, x]; rfl
theorem cl7r0 (l : List MV) : okLaw 7 0 l = true := by kernel_rfl
theorem cl7r1 (l : List MV) : okLaw 7 1 l = true := by kernel_rfl
theorem cl7r2 (l : List MV) : okLaw 7 2 l = true := by kernel_rfl
theorem cl7r3 (l : List MV) : okLaw 7 3 l = true := by kernel_rfl
theorem cl7r4 (l : List MV) : okLaw 7 4 l = true := by kernel_rfl
theorem cl7r5 (l : List MV) : okLaw 7 5 l = true := by kernel_rfl
theorem cl7r6 (l : List MV) : okLaw 7 6 l = true := by kernel_rfl
theorem cm7r0 (l : List MV) : okLaw (-7) (0) l = true := by kernel_rfl
theorem cm7r1 (l : List MV) : okLaw (-7) (-1) l = true := by kernel_rfl
theorem cm7r2 (l : List MV) : okLaw (-7) (-2) l = true := by kernel_rfl
theorem cm7r3 (l : List MV) : okLaw (-7) (-3) l = true := by kernel_rfl
theorem cm7r4 (l : List MV) : okLaw (-7) (-4) l = true := by kernel_rfl
theorem cm7r5 (l : List MV) : okLaw (-7) (-5) l = true := by kernel_rfl
theorem cm7r6 (l : List MV) : okLaw (-7) (-6) l = true := by kernel_rfl
theorem cl8r0 (l : List MV) : okLaw 8 0 l = true := by kernel_rfl
theorem cl8r1 (l : List MV) : okLaw 8 1 l = true := by kernel_rfl
theorem cl8r2 (l : List MV) : okLaw 8 2 l = true := by kernel_rfl
theorem cl8r3 (l : List MV) : okLaw 8 3 l = true := by kernel_rfl
theorem cl8r4 (l : List MV) : okLaw 8 4 l = true := by kernel_rfl
theorem cl8r5 (l : List MV) : okLaw 8 5 l = true := by kernel_rfl
theorem cl8r6 (l : List MV) : okLaw 8 6 l = true := by kernel_rfl
theorem cl8r7 (l : List MV) : okLaw 8 7 l = true := by kernel_rfl
theorem cm8r0 (l : List MV) : okLaw (-8) (0) l = true := by kernel_rfl
theorem cm8r1 (l : List MV) : okLaw (-8) (-1) l = true := by kernel_rfl
theorem cm8r2 (l : List MV) : okLaw (-8) (-2) l = true := by kernel_rfl
theorem cm8r3 (l : List MV) : okLaw (-8) (-3) l = true := by kernel_rfl
theorem cm8r4 (l : List MV) : okLaw (-8) (-4) l = true := by kernel_rfl
theorem cm8r5 (l : List MV) : okLaw (-8) (-5) l = true := by kernel_rfl
theorem cm8r6 (l : List MV) : okLaw (-8) (-6) l = true := by kernel_rfl
theorem cm8r7 (l : List MV) : okLaw (-8) (-7) l = true := by kernel_rfl
theorem cl9r0 (l : List MV) : okLaw 9 0 l = true := by kernel_rfl
theorem cl9r1 (l : List MV) : okLaw 9 1 l = true := by kernel_rfl
theorem cl9r2 (l : List MV) : okLaw 9 2 l = true := by kernel_rfl
theorem cl9r3 (l : List MV) : okLaw 9 3 l = true := by kernel_rfl
theorem cl9r4 (l : List MV) : okLaw 9 4 l = true := by kernel_rfl
theorem cl9r5 (l : List MV) : okLaw 9 5 l = true := by kernel_rfl
theorem cl9r6 (l : List MV) : okLaw 9 6 l = true := by kernel_rfl
theorem cl9r7 (l : List MV) : okLaw 9 7 l = true := by kernel_rfl
theorem cl9r8 (l : List MV) : okLaw 9 8 l = true := by kernel_rfl
theorem cm9r0 (l : List MV) : okLaw (-9) (0) l = true := by kernel_rfl
theorem cm9r1 (l : List MV) : okLaw (-9) (-1) l = true := by kernel_rfl
theorem cm9r2 (l : List MV) : okLaw (-9) (-2) l = true := by kernel_rfl
theorem cm9r3 (l : List MV) : okLaw (-9) (-3) l = true := by kernel_rfl
theorem cm9r4 (l : List MV) : okLaw (-9) (-4) l = true := by kernel_rfl
theorem cm9r5 (l : List MV) : okLaw (-9) (-5) l = true := by kernel_rfl
theorem cm9r6 (l : List MV) : okLaw (-9) (-6) l = true := by kernel_rfl
theorem cm9r7 (l : List MV) : okLaw (-9) (-7) l = true := by kernel_rfl
theorem cm9r8 (l : List MV) : okLaw (-9) (-8) l = true := by kernel_rfl
theorem cl5r0 (l : List MV) : okLaw 5 0 l = true := by kernel_rfl
theorem cl5r1 (l : List MV) : okLaw 5 1 l = true := by kernel_rfl
theorem cl5r2 (l : List MV) : okLaw 5 2 l = true := by kernel_rfl
theorem cl5r3 (l : List MV) : okLaw 5 3 l = true := by kernel_rfl
theorem cl5r4 (l : List MV) : okLaw 5 4 l = true := by kernel_rfl
theorem cm5r0 (l : List MV) : okLaw (-5) (0) l = true := by kernel_rfl
theorem cm5r1 (l : List MV) : okLaw (-5) (-1) l = true := by kernel_rfl
theorem cm5r2 (l : List MV) : okLaw (-5) (-2) l = true := by kernel_rfl
theorem cm5r3 (l : List MV) : okLaw (-5) (-3) l = true := by kernel_rfl
theorem cm5r4 (l : List MV) : okLaw (-5) (-4) l = true := by kernel_rfl
theorem cl_7 (l : List MV) : (List.range 7).all (fun j => okLaw 7 (j : Nat) l) = true := (all_succ (all_succ (all_succ (all_succ (all_succ (all_succ (all_succ all_zero (cl7r0 l)) (cl7r1 l)) (cl7r2 l)) (cl7r3 l)) (cl7r4 l)) (cl7r5 l)) (cl7r6 l))
theorem cm_7 (l : List MV) : (List.range 7).all (fun j => okLaw (-7) (-(j : Nat)) l) = true := (all_succ (all_succ (all_succ (all_succ (all_succ (all_succ (all_succ all_zero (cm7r0 l)) (cm7r1 l)) (cm7r2 l)) (cm7r3 l)) (cm7r4 l)) (cm7r5 l)) (cm7r6 l))
theorem cl_8 (l : List MV) : (List.range 8).all (fun j => okLaw 8 (j : Nat) l) = true := (all_succ (all_succ (all_succ (all_succ (all_succ (all_succ (all_succ (all_succ all_zero (cl8r0 l)) (cl8r1 l)) (cl8r2 l)) (cl8r3 l)) (cl8r4 l)) (cl8r5 l)) (cl8r6 l)) (cl8r7 l))
theorem cm_8 (l : List MV) : (List.range 8).all (fun j => okLaw (-8) (-(j : Nat)) l) = true := (all_succ (all_succ (all_succ (all_succ (all_succ (all_succ (all_succ (all_succ all_zero (cm8r0 l)) (cm8r1 l)) (cm8r2 l)) (cm8r3 l)) (cm8r4 l)) (cm8r5 l)) (cm8r6 l)) (cm8r7 l))
theorem cl_9 (l : List MV) : (List.range 9).all (fun j => okLaw 9 (j : Nat) l) = true := (all_succ (all_succ (all_succ (all_succ (all_succ (all_succ (all_succ (all_succ (all_succ all_zero (cl9r0 l)) (cl9r1 l)) (cl9r2 l)) (cl9r3 l)) (cl9r4 l)) (cl9r5 l)) (cl9r6 l)) (cl9r7 l)) (cl9r8 l))
theorem cm_9 (l : List MV) : (List.range 9).all (fun j => okLaw (-9) (-(j : Nat)) l) = true := (all_succ (all_succ (all_succ (all_succ (all_succ (all_succ (all_succ (all_succ (all_succ all_zero (cm9r0 l)) (cm9r1 l)) (cm9r2 l)) (cm9r3 l)) (cm9r4 l)) (cm9r5 l)) (cm9r6 l)) (cm9r7 l)) (cm9r8 l))
theorem cl_5 (l : List MV) : (List.range 5).all (fun j => okLaw 5 (j : Nat) l) = true := (all_succ (all_succ (all_succ (all_succ (all_succ all_zero (cl5r0 l)) (cl5r1 l)) (cl5r2 l)) (cl5r3 l)) (cl5r4 l))
theorem cm_5 (l : List MV) : (List.range 5).all (fun j => okLaw (-5) (-(j : Nat)) l) = true := (all_succ (all_succ (all_succ (all_succ (all_succ all_zero (cm5r0 l)) (cm5r1 l)) (cm5r2 l)) (cm5r3 l)) (cm5r4 l))
theorem quot_le {st : Int} {n : Nat} (hs : st.natAbs < 10000) (h5 : 5 ≤ n) : (st / n).natAbs ≤ 2000 := by
  have h1 : (st / n) * n ≤ st := Int.ediv_mul_le st (by omega)
  have h2 : st < (st / n + 1) * n := Int.lt_ediv_add_one_mul_self st (by omega)
  have hn : (5 : Int) ≤ n := by omega
  by_cases q : 2001 ≤ st / n
  · have : (2001 : Int) * 5 ≤ (st / n) * n := Int.mul_le_mul q hn (by decide) (by omega)
    omega
  · by_cases q' : st / n ≤ -2001
    · have : (2000 : Int) * 5 ≤ (-(st / n + 1)) * n := Int.mul_le_mul (by omega) hn (by decide) (by omega)
      rw [Int.neg_mul] at this
      omega
    · omega
theorem wheel_pos {n : Nat} {st : Int} (hs : st.natAbs < 10000) (h5 : 5 ≤ n) (h : ∀ l, (List.range n).all (fun j => okLaw n (j : Nat) l) = true) : ∃ Q r : Int, st = n * Q + r ∧ Q.natAbs ≤ 2000 ∧ ∀ l, okLaw n r l = true := by
  have e : ((st % n).toNat : Int) = st % n := Int.toNat_of_nonneg (Int.emod_nonneg _ (by omega))
  have l1 : st % n < n := Int.emod_lt_of_pos _ (by omega)
  refine ⟨st / n, ((st % n).toNat : Nat), ?_, quot_le hs h5, fun l => List.all_eq_true.mp (h l) _ (List.mem_range.mpr (by omega))⟩
  rw [e]; exact (Int.mul_ediv_add_emod st n).symm
theorem wheel_neg {n : Nat} {st : Int} (hs : st.natAbs < 10000) (h5 : 5 ≤ n) (h : ∀ l, (List.range n).all (fun j => okLaw (-n) (-(j : Nat)) l) = true) : ∃ Q r : Int, st = (-n) * Q + r ∧ Q.natAbs ≤ 2000 ∧ ∀ l, okLaw (-n) r l = true := by
  have e : (((-st) % n).toNat : Int) = (-st) % n := Int.toNat_of_nonneg (Int.emod_nonneg _ (by omega))
  have l1 : (-st) % n < n := Int.emod_lt_of_pos _ (by omega)
  refine ⟨(-st) / n, -(((-st) % n).toNat : Nat), ?_, quot_le (by omega) h5, fun l => List.all_eq_true.mp (h l) _ (List.mem_range.mpr (by omega))⟩
  have := Int.mul_ediv_add_emod (-st) n
  rw [e, Int.neg_mul]; omega
theorem all_ok (st : Int) (hs : st.natAbs < 10000) : ∀ w ∈ wheels, ∃ Q r : Int, st = w * Q + r ∧ Q.natAbs ≤ 2000 ∧ ∀ l, okLaw w r l = true := by
  intro w hw
  simp only [wheels, List.mem_cons, List.not_mem_nil, or_false] at hw
  rcases hw with rfl | rfl | rfl | rfl | rfl | rfl | rfl | rfl
  · exact wheel_pos (n := 7) hs (by decide) cl_7
  · exact wheel_pos (n := 8) hs (by decide) cl_8
  · exact wheel_pos (n := 9) hs (by decide) cl_9
  · exact wheel_pos (n := 5) hs (by decide) cl_5
  · exact wheel_neg (n := 7) hs (by decide) cm_7
  · exact wheel_neg (n := 8) hs (by decide) cm_8
  · exact wheel_neg (n := 9) hs (by decide) cm_9
  · exact wheel_neg (n := 5) hs (by decide) cm_5
end Mine
end
section
open PySem PySem.W PyProof.Rows PySem.Calls PySem.SeqAt
set_option maxRecDepth 100000
namespace Mine
noncomputable def tblF : Frag := [(75, { cls := .none, data := .fields #[] }), (97, { cls := .none, data := .fields #[] }), (125, { cls := .none, data := .fields #[] }), (132, { cls := .none, data := .fields #[] })]
noncomputable def KU (P : Params) : Frag := K P ++ tblF
noncomputable def KUas : List Addr := Kas ++ [75, 97, 125, 132]
theorem KU_as (P : Params) : KUas = (KU P).map (·.1) := by unfold KUas KU; rw [List.map_append, ← K_as P]; rfl
noncomputable def pw : Program := PySem.Challenge.pw_pm0084_01
noncomputable def qv : Program := { pw with main := { pw.main with body := [0, 1, 3, 4, 5, 6, 9, 10, 11, 12, 13, 14, 15, 16, 17, 19, 20, 21, 23, 24, 25, 26, 27, 28, 29, 30].filterMap fun i => pw.main.body[i]? } }
noncomputable def loose : List Str := ["compute_powers", "_name_disallowed_re", "_value_disallowed_re"]
theorem basis_of {w : World} {s : Shared} {ls : List Str} {mean : ExcName → Option Value} {mg mb : Str → Option Value} (T : Top qv ls mean mg mb s.heap) (X : (KU w.params).In s.heap) (Q : Int) (hq : Q.natAbs ≤ 2000) : Basis ⟨w, s.heap, s.os, Q⟩ where
  st := let ⟨m, h, _⟩ := T.nolimit; ⟨m, h⟩
  K := fun a o e => X a o (by unfold KU; rw [List.lookup_append, e]; rfl)
  g := ⟨mg, T.g⟩
  b := ⟨mb, T.b, T.builtins⟩
  tab := fun p hp => by
    unfold tabs at hp
    simp only [List.mem_cons, List.not_mem_nil, or_false] at hp
    rcases hp with rfl | rfl | rfl | rfl
    · exact ⟨⟨_, _, X 79 _ rfl, rfl, rfl, rfl⟩, X 75 _ rfl⟩
    · exact ⟨⟨_, _, X 101 _ rfl, rfl, rfl, rfl⟩, X 97 _ rfl⟩
    · exact ⟨⟨_, _, X 129 _ rfl, rfl, rfl, rfl⟩, X 125 _ rfl⟩
    · exact ⟨⟨_, _, X 136 _ rfl, rfl, rfl, rfl⟩, X 132 _ rfl⟩
  qb := hq
  bm := by
    refine ex2_6 T.bmain fun bm ob h1 h2 h3 h4 h5 h6 => ?_
    refine ⟨mg, bm, ob, T.g, h1, h2, fun q => ?_, fun p hp q => ?_, h3, h4, h5, h6⟩
    · refine ex3_3 T.g fun o es ep e d _ => ?_
      rw [q, e] at h3; (first | exact no_some h3 | cases h3); rw [d] at h6; (first | exact no_some h6 | cases h6)
    · unfold tabs at hp
      simp only [List.mem_cons, List.not_mem_nil, or_false] at hp
      rcases hp with rfl | rfl | rfl | rfl
      · have := X 75 _ rfl; rw [show (75 : Addr) = bm from q.symm, h3] at this; (first | exact no_some this | cases this); (first | exact no_some h6 | cases h6)
      · have := X 97 _ rfl; rw [show (97 : Addr) = bm from q.symm, h3] at this; (first | exact no_some this | cases this); (first | exact no_some h6 | cases h6)
      · have := X 125 _ rfl; rw [show (125 : Addr) = bm from q.symm, h3] at this; (first | exact no_some this | cases this); (first | exact no_some h6 | cases h6)
      · have := X 132 _ rfl; rw [show (132 : Addr) = bm from q.symm, h3] at this; (first | exact no_some this | cases this); (first | exact no_some h6 | cases h6)
theorem inv_start {w : World} {s : Shared} {Q : Int} (B : Basis ⟨w, s.heap, s.os, Q⟩) (hl : s.heap.NoLimit) (hg : s.gens = #[]) : Inv ⟨w, s.heap, s.os, Q⟩ ⟨s, [], []⟩ ⟨.e, 0⟩ where
  old := .of_keep fun _ _ e => e
  lim := hl
  tab := fun p hp => ⟨#[], B.tab p hp, trivial, fun pos cv e => by cases e⟩
  ok := ⟨by decide⟩
  objs := fun n o h => by have := MH.get_lt h; exact absurd this (Nat.not_lt_zero n)
  len := rfl
  nd := List.nodup_nil
  freshρ := fun _ h => nomatch h
  freshM := fun _ h => nomatch h
  gens := .of_eq hg
  os := rfl
  big := fun _ h => nomatch h
  g3 := by refine ex4_2 B.g fun m o es ep e _ => ?_; exact ⟨o, e⟩
theorem args_of (w : World) (s₀ s₁ : Shared) (args : List WData) (vals : List Value) (as : List Addr) (hpre : (OpenRow.toRowW PySem.Challenge.rw_pm0084_01.row).claim.pre args = true) (hlay : WData.layableAll args = true) (hrd : ReadsAllW (OpenRow.toRowW PySem.Challenge.rw_pm0084_01.row).records (classAt s₀.heap) s₁.heap vals args as) (hwl : WellAll w.params s₁.heap vals args) (hlo : ∀ a ∈ as, (a == sysModules) = false) :
    (∀ cls, (OpenRow.toRowW PySem.Challenge.rw_pm0084_01.row).claim.raises args cls = false) ∧ (OpenRow.toRowW PySem.Challenge.rw_pm0084_01.row).claim.post args (.bool true) args = true ∧
    ∃ (is : List Int) (a : Addr) (its : Array Value) (n : Nat) (o : Obj), is.length ≤ 63 ∧ vals = [.ref a] ∧ s₁.heap.get? a = some o ∧ o.cls = .type "list" ∧ o.data = .seq its n ∧ IntsAre its.toList is := by
  refine ⟨fun _ => rfl, ?_, ?_⟩
  · wrow_args hpre hlay hrd hwl hlo
    wrow_post
  · wrow_args hpre hlay hrd hwl hlo
    rename_i is hs hlay0 hL1 hr1 hl2 w4 w3 a vl w0 hL ra w1 r0 hI hr hc1 hc2
    obtain ⟨o, h1, h2, n, h3⟩ := hL
    exact ⟨is, a, vl.toArray, n, o, by omega, rfl, h1, h2, h3, by simpa using hI⟩
theorem law_holds (w : World) (s₀ s₁ : Shared) (mg mb : Str → Option Value) (ls : List Str) (T : Top qv ls (ExcName.means s₀.heap) mg mb s₁.heap) (X : (KU w.params).In s₁.heap) (fa : Addr) (hmg : mg "law" = some (.ref fa)) (hg : s₁.gens = #[])
    (args : List WData) (vals : List Value) (as : List Addr) (hpre : (OpenRow.toRowW PySem.Challenge.rw_pm0084_01.row).claim.pre args = true) (hlay : WData.layableAll args = true) (hrd : ReadsAllW (OpenRow.toRowW PySem.Challenge.rw_pm0084_01.row).records (classAt s₀.heap) s₁.heap vals args as) (hwl : WellAll w.params s₁.heap vals args) (hlo : ∀ a ∈ as, (a == sysModules) = false) :
    wpAny (model P0 w) callerA (PySem.call (.ref fa) vals) (fun v s' => GoodWG (OpenRow.toRowW PySem.Challenge.rw_pm0084_01.row).claim (classAt s₀.heap) (ExcName.means s₀.heap) args s₁ (.ok (.ret v)) s')
      (fun e s' => GoodWG (OpenRow.toRowW PySem.Challenge.rw_pm0084_01.row).claim (classAt s₀.heap) (ExcName.means s₀.heap) args s₁ (.error e) s') s₁ := by
  obtain ⟨hr, hp, is, a, its, n, o, hlen, rfl, h1, h2, h3, hI⟩ := args_of w s₀ s₁ args vals as hpre hlay hrd hwl hlo
  refine ex2_3 (drawn_fgt (μ := ⟨.e, 0⟩) (is := is) (by decide) hlen) fun wh st hd hw hst => ?_
  refine ex2_3 (all_ok st hst wh hw) fun Q r hq hQ hok => ?_
  have B := basis_of (s := s₁) T X Q hQ
  have I := inv_start B T.nolimit hg
  have ef : fa = 336 := by
    have := mg_of (B.K) T.g (n := "law") (v := .ref 336) rfl
    rw [hmg] at this; (first | exact no_some this | cases this); rfl
  subst ef
  have V : VR Q s₁.heap [] [] (.frz (is.map .int)) (.ref a) := .frz _ a its n o h1 h2 h3 (fun h => nomatch h) (fun h => nomatch h) (VRs.ints hI)
  refine up (wpAny_mono (law_walk (W := ⟨s₁, [], []⟩) B rfl ⟨rfl, by decide +kernel, by decide +kernel⟩ I V hd r hq (hok _)) (fun v s' h => ?_) fun _ _ h => h)
  refine ex0_4 h fun eqq0 hold hos hbare => ?_; subst eqq0
  exact ⟨.inl ⟨_, _, [], rfl, hr, ReadsW.bool true, hp, fun _ => ⟨List.nodup_nil, fun _ hm => (nomatch hm)⟩⟩, hold, hos, hbare⟩
end Mine
end
section
open PySem PySem.W PyProof.Rows
set_option maxRecDepth 100000
namespace Mine
set_option maxHeartbeats 0 in
theorem lawOk : PySem.W.OpenLaw.wellSaid PySem.Challenge.rw_pm0084_01 = true := by
  unfold OpenLaw.wellSaid OpenRow.wellSaid OpenRow.partSaid looksOpen
  repeat' with_reducible refine look_both ?_ ?_
  all_goals try rw [Fast.te11788848310118352699]
  all_goals try rw [Fast.te9807087744658564304]
  all_goals try rw [Fast.te12862048085361865435]
  all_goals try rw [Fast.te8377067652309620493]
  all_goals try rw [Fast.te18344453789297297638]
  all_goals try rw [Fast.te8326940854005059898]
  all_goals try rw [Fast.te5923862056798008813]
  all_goals try rw [Fast.te13343964577679436407]
  all_goals try rw [Fast.te17119622794617984870]
  all_goals try rw [Fast.te17868728402115742887]
  all_goals try rw [Fast.te8179353310426384613]
  all_goals try rw [Fast.te9558739934217749035]
  all_goals try rw [Fast.te16286561074155671207]
  all_goals try rw [Fast.named_eq]
  all_goals try rw [Fast.te6984425678791042302]
  all_goals try rw [Fast.te797321630700447069]
  all_goals try rw [Fast.te10792542408131684335]
  all_goals try rw [Fast.sDec_eq]
  all_goals try rw [Fast.te3471404346716756564]
  all_goals try rw [Fast.te14412699480532031325]
  all_goals try rw [Fast.te10501279942588096481]
  all_goals try rw [Fast.te482687673346738481]
  all_goals try rw [Fast.te17095254045102204799]
  all_goals try rw [Fast.te12879404354523853263]
  all_goals try rw [Fast.te7723801398212525404]
  all_goals try rw [Fast.te17691160309236699985]
  all_goals try rw [R.allR_eq]
  all_goals decide +kernel
set_option maxHeartbeats 0 in
theorem leftOk : LeftO PySem.Challenge.pw_pm0084_01 qv loose (fun s => xlAt qv [] s && recOk (RowW.records (OpenRow.toRowW PySem.Challenge.rw_pm0084_01.row)) s) (Hook.obs (kHook KU KUas KU_as)) (Hook.val (kHook KU KUas KU_as)) 3850 := fun w => by
  unfold openEnds fencedOpening topFrom
  rw [Fast.te10274390034422433532, Fast.te14289696077712309145, Fast.te14364793385576792824, Fast.te14082659384304107361, Fast.te4187177175401517315]
  kernel_rfl
end Mine
set_option maxHeartbeats 0 in
theorem PySem.Challenge.cw_pm0084_01_holds : PySem.Challenge.rw_pm0084_01.Holds := by
  w_on
  refine holds_law Mine.lawOk fun said => ?_
  refine holds_open (q := Mine.qv) (loose := Mine.loose) (Xt := fun s => xlAt Mine.qv [] s && recOk (RowW.records (OpenRow.toRowW PySem.Challenge.rw_pm0084_01.row)) s) (XP := XL Mine.qv []) (Yf := Hook.obs (kHook Mine.KU Mine.KUas Mine.KU_as)) (Ya := Hook.val (kHook Mine.KU Mine.KUas Mine.KU_as)) (YP := Hook.says (kHook Mine.KU Mine.KUas Mine.KU_as)) (N := 3850) ?hl (Hook.of (kHook Mine.KU Mine.KUas Mine.KU_as)) (Hook.keeps (kHook Mine.KU Mine.KUas Mine.KU_as)) (fun s e => xl_of s (Bool.and_eq_true_iff.mp e).1) XL.keeps (by rfl) (by rfl) (by rfl) (fun s e => recFacts_of (Bool.and_eq_true_iff.mp e).2) (by rfl) (by first | assumption | decide +kernel) (by decide +kernel) ⟨rfl, rfl, rfl, rfl, rfl, by decide +kernel⟩ ?hw ?hc
  case hw => w_witness2
  case hl => exact Mine.leftOk
  case hc =>
    intro w s₀ s₁ mg mb G y fa o pm cd doc dV kV ho hd hcd hD hmg hg args vals as hpre hlay hrd hwl hlo
    exact Mine.law_holds w s₀ s₁ mg mb _ G.T (kIn_of y) fa hmg hg args vals as hpre hlay hrd hwl hlo
end

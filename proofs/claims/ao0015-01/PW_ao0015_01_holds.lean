import PyProof.Rows.All
import Wide.All
import OpenK.AllK
import Wide.FinOn
import Lean
import PySem.Challenge.RW_ao0015_01
set_option Elab.async false
set_option linter.all false
set_option compiler.extract_closed false
section
open PySem PySem.W PySem.Calls PyProof.Rows
set_option Elab.async false
set_option maxRecDepth 100000
namespace Mine
noncomputable abbrev PW : Program := PySem.Challenge.pw_ao0015_01
noncomputable abbrev S (x : String) : Str := Str.ofString x
noncomputable abbrev ke (P : Params) (x : String) (t : Nat) (v : Value) : DictEntry := { hash := PyData.keyHash P (Str.ofString x), key := .str (Str.ofString x) t, val := v }
noncomputable def sAt (i : Nat) : Stmt := (PW.main.body[i]?).getD (.Pass default)
noncomputable def mAt (i j : Nat) : Stmt := match sAt i with
  | .ClassDef _ _ _ b .. => (b[j]?).getD (.Pass default)
  | _ => .Pass default
noncomputable abbrev fnAt (s : Stmt) (qual : Str) (dV kV doc pm : Value) (an : Option Addr) (cdv ct : Value) : FuncData := match s with
  | .FunctionDef n a b _ _ _ sc _ _ _ => fnOf n qual a b sc dV kV doc pm an cdv ct
  | _ => default
noncomputable def ob2 (P : Params) : Obj := ⟨.none, none, .dict #[ke P "type.__subclasses__.Exception.0" 1689 (.int 1108 0), ke P "type.__subclasses__.Exception.n" 1690 (.int 1 0)] 2, #[]⟩
noncomputable def ob3 (P : Params) : Obj := ⟨(.type "dict"), none, .dict #[ke P "__name__" 165 (.str (S "law_ao0015_01") 1815), ke P "__doc__" 166 .none, ke P "__package__" 167 .none, ke P "__loader__" 168 (.builtin "__main__.__loader__#opaque"), ke P "__spec__" 169 .none, ke P "__annotations__" 170 (.ref 6), ke P "__builtins__" 171 (.ref 4), ke P "__file__" 173 (.str (S "/claim/cut.py") 172), ke P "__cached__" 174 .none, ke P "_wall" 193 (.ref 21), ke P "Counter" 232 (.ref 46), ke P "_union" 242 (.ref 57), ke P "Tokens" 419 (.ref 84), ke P "Variable" 472 (.ref 126), ke P "unique_variable" 483 (.ref 138), ke P "skolem_function" 493 (.ref 146), ke P "SubstituteBindingsI" 528 (.ref 170), ke P "Expression" 721 (.ref 326), ke P "ApplicationExpression" 841 (.ref 424), ke P "AbstractVariableExpression" 915 (.ref 486), ke P "IndividualVariableExpression" 945 (.ref 512), ke P "FunctionVariableExpression" 975 (.ref 538), ke P "EventVariableExpression" 991 (.ref 550), ke P "ConstantExpression" 1021 (.ref 576), ke P "VariableExpression" 1028 (.ref 585), ke P "VariableBinderExpression" 1109 (.ref 643), ke P "LambdaExpression" 1151 (.ref 676), ke P "QuantifiedExpression" 1176 (.ref 695), ke P "ExistsExpression" 1216 (.ref 728), ke P "AllExpression" 1258 (.ref 761), ke P "NegatedExpression" 1324 (.ref 815), ke P "BinaryExpression" 1386 (.ref 862), ke P "BooleanExpression" 1402 (.ref 874), ke P "AndExpression" 1450 (.ref 914), ke P "OrExpression" 1498 (.ref 954), ke P "ImpExpression" 1537 (.ref 987), ke P "IffExpression" 1576 (.ref 1020), ke P "EqualityExpression" 1615 (.ref 1053), ke P "_is_letter_and_digits" 1624 (.ref 1062), ke P "is_indvar" 1631 (.ref 1069), ke P "is_funcvar" 1638 (.ref 1076), ke P "is_eventvar" 1645 (.ref 1083), ke P "skolemize" 1660 (.ref 1091), ke P "to_cnf" 1670 (.ref 1098), ke P "ProverParseError" 1692 (.ref 1108), ke P "Clause" 1793 (.ref 1188), ke P "clausify" 1805 (.ref 1200), ke P "_clausify" 1814 (.ref 1207), ke P "_law_box" 1825 (.ref 1214), ke P "_law_take" 1834 (.ref 1221), ke P "_law_tree" 1845 (.ref 1228), ke P "_law_formula" 1855 (.ref 1235), ke P "_law_true" 1865 (.ref 1242), ke P "_law_atom" 1873 (.ref 1249), ke P "_law_parts" 1884 (.ref 1256), ke P "_law_clause" 1890 (.ref 1261), ke P "law" 1896 (.ref 1266)] 57, #[]⟩
noncomputable def ob29 (P : Params) : Obj := ⟨(.type "tuple"), none, .seq #[(.int 0 208)] 0, #[]⟩
noncomputable def ob35 (P : Params) : Obj := ⟨(.type "code"), none, .fields #[(.str (S "__init__") 209), (.str (S "Counter.__init__") 210), (.str (S "/claim/cut.py") 211), (.int 7 0), (.int 2 0), (.int 0 0), (.int 0 0), (.int 3 0), (.ref 30), (.bool true), (.int 181 0), (.ref 31), .none, (.ref 32), (.ref 33), (.ref 34), (.int 214 0), (.int 7 0), (.str (S "/claim/cut.py") 215)], #[]⟩
noncomputable def ob36 (P : Params) : Obj := ⟨(.type "function"), none, .func (fnAt (mAt 2 0) (S "Counter.__init__") (.ref 29) .none .none (.str (S "nltk.sem.logic") 194) none (.ref 35) .none), #[]⟩
noncomputable def ob42 (P : Params) : Obj := ⟨(.type "code"), none, .fields #[(.str (S "get") 217), (.str (S "Counter.get") 218), (.str (S "/claim/cut.py") 219), (.int 10 0), (.int 1 0), (.int 0 0), (.int 0 0), (.int 3 0), (.ref 37), (.bool true), (.int 181 0), (.ref 38), .none, (.ref 39), (.ref 40), (.ref 41), (.int 221 0), (.int 10 0), (.str (S "/claim/cut.py") 222)], #[]⟩
noncomputable def ob43 (P : Params) : Obj := ⟨(.type "function"), none, .func (fnAt (mAt 2 1) (S "Counter.get") .none .none .none (.str (S "nltk.sem.logic") 194) none (.ref 42) .none), #[]⟩
noncomputable def ob45 (P : Params) : Obj := ⟨(.type "dict"), none, .dict #[ke P "__module__" 203 (.str (S "nltk.sem.logic") 194), ke P "__firstlineno__" 207 (.int 5 206), ke P "__init__" 216 (.ref 36), ke P "get" 223 (.ref 43), ke P "__static_attributes__" 225 (.ref 44), ke P "__dict__" 227 (.ref 47), ke P "__weakref__" 229 (.ref 48), ke P "__doc__" 230 .none] 4, #[]⟩
noncomputable def ob46 (P : Params) : Obj := ⟨(.type "type"), none, .cls { name := (S "Counter"), bases := [(.type "object")], mro := [(.ref 46), (.type "object")], ns := 45, qualname := (S "Counter"), hasDict := true, slotNames := [], subclasses := [], abstract := false, collection := none, hasDel := false }, #[none, none, (some (.str (S "Counter") 196)), (some (.str (S "Counter") 204)), (some (.builtin "object.__new__")), (some (.bool true))]⟩
noncomputable def ob56 (P : Params) : Obj := ⟨(.type "code"), none, .fields #[(.str (S "_union") 233), (.str (S "_union") 234), (.str (S "/claim/cut.py") 235), (.int 13 0), (.int 1 0), (.int 0 0), (.int 0 0), (.int 3 0), (.ref 51), (.bool true), (.int 181 0), (.ref 52), .none, (.ref 53), (.ref 54), (.ref 55), (.int 240 0), (.int 13 0), (.str (S "/claim/cut.py") 241)], #[]⟩
noncomputable def ob57 (P : Params) : Obj := ⟨(.type "function"), none, .func (fnAt (sAt 3) (S "_union") .none .none .none (.str (S "nltk.sem.logic") 194) none (.ref 56) .none), #[]⟩
noncomputable def ob83 (P : Params) : Obj := ⟨(.type "dict"), none, .dict #[ke P "__module__" 250 (.str (S "nltk.sem.logic") 194), ke P "__firstlineno__" 254 (.int 20 253), ke P "LAMBDA" 256 (.str (S "\\") 255), ke P "LAMBDA_LIST" 258 (.ref 65), ke P "EXISTS" 260 (.str (S "exists") 259), ke P "EXISTS_LIST" 264 (.ref 66), ke P "ALL" 266 (.str (S "all") 265), ke P "ALL_LIST" 269 (.ref 67), ke P "IOTA" 271 (.str (S "iota") 270), ke P "IOTA_LIST" 273 (.ref 68), ke P "DOT" 275 (.str (S ".") 274), ke P "OPEN" 277 (.str (S "(") 276), ke P "CLOSE" 279 (.str (S ")") 278), ke P "COMMA" 281 (.str (S ",") 280), ke P "NOT" 283 (.str (S "-") 282), ke P "NOT_LIST" 287 (.ref 69), ke P "AND" 289 (.str (S "&") 288), ke P "AND_LIST" 293 (.ref 70), ke P "OR" 295 (.str (S "|") 294), ke P "OR_LIST" 298 (.ref 71), ke P "IMP" 300 (.str (S "->") 299), ke P "IMP_LIST" 304 (.ref 72), ke P "IFF" 306 (.str (S "<->") 305), ke P "IFF_LIST" 310 (.ref 73), ke P "EQ" 312 (.str (S "=") 311), ke P "EQ_LIST" 315 (.ref 74), ke P "NEQ" 317 (.str (S "!=") 316), ke P "NEQ_LIST" 319 (.ref 75), ke P "BINOPS" 331 (.ref 76), ke P "QUANTS" 338 (.ref 77), ke P "PUNCT" 343 (.ref 78), ke P "TOKENS" 372 (.ref 79), ke P "SYMBOLS" 390 (.ref 80), ke P "BEGINNINGS" 411 (.ref 81), ke P "__static_attributes__" 412 (.ref 82), ke P "__dict__" 414 (.ref 85), ke P "__weakref__" 416 (.ref 86), ke P "__doc__" 417 .none] 4, #[]⟩
noncomputable def ob84 (P : Params) : Obj := ⟨(.type "type"), none, .cls { name := (S "Tokens"), bases := [(.type "object")], mro := [(.ref 84), (.type "object")], ns := 83, qualname := (S "Tokens"), hasDict := true, slotNames := [], subclasses := [], abstract := false, collection := none, hasDel := false }, #[none, none, (some (.str (S "Tokens") 243)), (some (.str (S "Tokens") 251)), (some (.builtin "object.__new__")), (some (.bool true))]⟩
noncomputable def ob101 (P : Params) : Obj := ⟨(.type "code"), none, .fields #[(.str (S "__init__") 432), (.str (S "Variable.__init__") 433), (.str (S "/claim/cut.py") 434), (.int 55 0), (.int 2 0), (.int 0 0), (.int 0 0), (.int 3 0), (.ref 96), (.bool true), (.int 181 0), (.ref 97), .none, (.ref 98), (.ref 99), (.ref 100), (.int 437 0), (.int 55 0), (.str (S "/claim/cut.py") 438)], #[]⟩
noncomputable def ob102 (P : Params) : Obj := ⟨(.type "function"), none, .func (fnAt (mAt 5 0) (S "Variable.__init__") .none .none .none (.str (S "nltk.sem.logic") 194) none (.ref 101) .none), #[]⟩
noncomputable def ob108 (P : Params) : Obj := ⟨(.type "code"), none, .fields #[(.str (S "__eq__") 440), (.str (S "Variable.__eq__") 441), (.str (S "/claim/cut.py") 442), (.int 59 0), (.int 2 0), (.int 0 0), (.int 0 0), (.int 3 0), (.ref 103), (.bool true), (.int 181 0), (.ref 104), .none, (.ref 105), (.ref 106), (.ref 107), (.int 445 0), (.int 59 0), (.str (S "/claim/cut.py") 446)], #[]⟩
noncomputable def ob109 (P : Params) : Obj := ⟨(.type "function"), none, .func (fnAt (mAt 5 1) (S "Variable.__eq__") .none .none .none (.str (S "nltk.sem.logic") 194) none (.ref 108) .none), #[]⟩
noncomputable def ob125 (P : Params) : Obj := ⟨(.type "dict"), none, .dict #[ke P "__module__" 427 (.str (S "nltk.sem.logic") 194), ke P "__firstlineno__" 431 (.int 53 430), ke P "__init__" 439 (.ref 102), ke P "__eq__" 447 (.ref 109), ke P "__lt__" 455 (.ref 116), ke P "__str__" 462 (.ref 123), ke P "__static_attributes__" 464 (.ref 124), ke P "__dict__" 466 (.ref 127), ke P "__weakref__" 468 (.ref 128), ke P "__doc__" 469 .none, ke P "__hash__" 470 .none] 5, #[]⟩
noncomputable def ob126 (P : Params) : Obj := ⟨(.type "type"), none, .cls { name := (S "Variable"), bases := [(.type "object")], mro := [(.ref 126), (.type "object")], ns := 125, qualname := (S "Variable"), hasDict := true, slotNames := [], subclasses := [], abstract := false, collection := none, hasDel := false }, #[none, none, (some (.str (S "Variable") 420)), (some (.str (S "Variable") 428)), (some (.builtin "object.__new__")), (some (.bool true))]⟩
noncomputable def ob131 (P : Params) : Obj := ⟨(.type "tuple"), none, .seq #[.none, .none, .none] 0, #[]⟩
noncomputable def ob137 (P : Params) : Obj := ⟨(.type "code"), none, .fields #[(.str (S "unique_variable") 473), (.str (S "unique_variable") 474), (.str (S "/claim/cut.py") 475), (.int 69 0), (.int 3 0), (.int 0 0), (.int 0 0), (.int 3 0), (.ref 132), (.bool true), (.int 181 0), (.ref 133), .none, (.ref 134), (.ref 135), (.ref 136), (.int 481 0), (.int 69 0), (.str (S "/claim/cut.py") 482)], #[]⟩
noncomputable def ob138 (P : Params) : Obj := ⟨(.type "function"), none, .func (fnAt (sAt 6) (S "unique_variable") (.ref 131) .none .none (.str (S "nltk.sem.logic") 194) none (.ref 137) .none), #[]⟩
noncomputable def ob169 (P : Params) : Obj := ⟨(.type "dict"), none, .dict #[ke P "__module__" 501 (.str (S "nltk.sem.logic") 194), ke P "__firstlineno__" 505 (.int 95 504), ke P "substitute_bindings" 513 (.ref 160), ke P "variables" 520 (.ref 167), ke P "__static_attributes__" 521 (.ref 168), ke P "__dict__" 523 (.ref 171), ke P "__weakref__" 525 (.ref 172), ke P "__doc__" 526 .none] 4, #[]⟩
noncomputable def ob170 (P : Params) : Obj := ⟨(.type "type"), none, .cls { name := (S "SubstituteBindingsI"), bases := [(.type "object")], mro := [(.ref 170), (.type "object")], ns := 169, qualname := (S "SubstituteBindingsI"), hasDict := true, slotNames := [], subclasses := [(.ref 326)], abstract := false, collection := none, hasDel := false }, #[none, none, (some (.str (S "SubstituteBindingsI") 494)), (some (.str (S "SubstituteBindingsI") 502)), (some (.builtin "object.__new__")), (some (.bool true))]⟩
noncomputable def ob211 (P : Params) : Obj := ⟨(.type "code"), none, .fields #[(.str (S "__neg__") 580), (.str (S "Expression.__neg__") 581), (.str (S "/claim/cut.py") 582), (.int 118 0), (.int 1 0), (.int 0 0), (.int 0 0), (.int 3 0), (.ref 206), (.bool true), (.int 181 0), (.ref 207), .none, (.ref 208), (.ref 209), (.ref 210), (.int 584 0), (.int 118 0), (.str (S "/claim/cut.py") 585)], #[]⟩
noncomputable def ob212 (P : Params) : Obj := ⟨(.type "function"), none, .func (fnAt (mAt 9 3) (S "Expression.__neg__") .none .none .none (.str (S "nltk.sem.logic") 194) none (.ref 211) .none), #[]⟩
noncomputable def ob225 (P : Params) : Obj := ⟨(.type "code"), none, .fields #[(.str (S "__and__") 594), (.str (S "Expression.__and__") 595), (.str (S "/claim/cut.py") 596), (.int 124 0), (.int 2 0), (.int 0 0), (.int 0 0), (.int 3 0), (.ref 220), (.bool true), (.int 181 0), (.ref 221), .none, (.ref 222), (.ref 223), (.ref 224), (.int 599 0), (.int 124 0), (.str (S "/claim/cut.py") 600)], #[]⟩
noncomputable def ob226 (P : Params) : Obj := ⟨(.type "function"), none, .func (fnAt (mAt 9 5) (S "Expression.__and__") .none .none .none (.str (S "nltk.sem.logic") 194) none (.ref 225) .none), #[]⟩
noncomputable def ob232 (P : Params) : Obj := ⟨(.type "code"), none, .fields #[(.str (S "__or__") 602), (.str (S "Expression.__or__") 603), (.str (S "/claim/cut.py") 604), (.int 129 0), (.int 2 0), (.int 0 0), (.int 0 0), (.int 3 0), (.ref 227), (.bool true), (.int 181 0), (.ref 228), .none, (.ref 229), (.ref 230), (.ref 231), (.int 607 0), (.int 129 0), (.str (S "/claim/cut.py") 608)], #[]⟩
noncomputable def ob233 (P : Params) : Obj := ⟨(.type "function"), none, .func (fnAt (mAt 9 6) (S "Expression.__or__") .none .none .none (.str (S "nltk.sem.logic") 194) none (.ref 232) .none), #[]⟩
noncomputable def ob262 (P : Params) : Obj := ⟨(.type "tuple"), none, .seq #[(.bool false), (.bool true)] 0, #[]⟩
noncomputable def ob268 (P : Params) : Obj := ⟨(.type "code"), none, .fields #[(.str (S "replace") 642), (.str (S "Expression.replace") 643), (.str (S "/claim/cut.py") 644), (.int 150 0), (.int 5 0), (.int 0 0), (.int 0 0), (.int 3 0), (.ref 263), (.bool true), (.int 181 0), (.ref 264), .none, (.ref 265), (.ref 266), (.ref 267), (.int 654 0), (.int 150 0), (.str (S "/claim/cut.py") 655)], #[]⟩
noncomputable def ob269 (P : Params) : Obj := ⟨(.type "function"), none, .func (fnAt (mAt 9 11) (S "Expression.replace") (.ref 262) .none .none (.str (S "nltk.sem.logic") 194) none (.ref 268) .none), #[]⟩
noncomputable def ob282 (P : Params) : Obj := ⟨(.type "code"), none, .fields #[(.str (S "visit_structured") 666), (.str (S "Expression.visit_structured") 667), (.str (S "/claim/cut.py") 668), (.int 158 0), (.int 2 0), (.int 0 0), (.int 0 0), (.int 3 0), (.ref 277), (.bool true), (.int 181 0), (.ref 278), .none, (.ref 279), (.ref 280), (.ref 281), (.int 672 0), (.int 158 0), (.str (S "/claim/cut.py") 673)], #[]⟩
noncomputable def ob283 (P : Params) : Obj := ⟨(.type "function"), none, .func (fnAt (mAt 9 13) (S "Expression.visit_structured") .none .none .none (.str (S "nltk.sem.logic") 194) none (.ref 282) .none), #[]⟩
noncomputable def ob294 (P : Params) : Obj := ⟨(.type "code"), none, .fields #[(.str (S "free") 681), (.str (S "Expression.free") 682), (.str (S "/claim/cut.py") 683), (.int 164 0), (.int 1 0), (.int 0 0), (.int 0 0), (.int 3 0), (.ref 289), (.bool true), (.int 181 0), (.ref 290), .none, (.ref 291), (.ref 292), (.ref 293), (.int 685 0), (.int 164 0), (.str (S "/claim/cut.py") 686)], #[]⟩
noncomputable def ob295 (P : Params) : Obj := ⟨(.type "function"), none, .func (fnAt (mAt 9 15) (S "Expression.free") .none .none .none (.str (S "nltk.sem.logic") 194) none (.ref 294) .none), #[]⟩
noncomputable def ob301 (P : Params) : Obj := ⟨(.type "code"), none, .fields #[(.str (S "constants") 688), (.str (S "Expression.constants") 689), (.str (S "/claim/cut.py") 690), (.int 167 0), (.int 1 0), (.int 0 0), (.int 0 0), (.int 3 0), (.ref 296), (.bool true), (.int 181 0), (.ref 297), .none, (.ref 298), (.ref 299), (.ref 300), (.int 692 0), (.int 167 0), (.str (S "/claim/cut.py") 693)], #[]⟩
noncomputable def ob302 (P : Params) : Obj := ⟨(.type "function"), none, .func (fnAt (mAt 9 16) (S "Expression.constants") .none .none .none (.str (S "nltk.sem.logic") 194) none (.ref 301) .none), #[]⟩
noncomputable def ob325 (P : Params) : Obj := ⟨(.type "dict"), none, .dict #[ke P "__module__" 536 (.str (S "nltk.sem.logic") 194), ke P "__firstlineno__" 540 (.int 102 539), ke P "fromstring" 560 (.ref 190), ke P "__call__" 571 (.ref 198), ke P "applyto" 579 (.ref 205), ke P "__neg__" 586 (.ref 212), ke P "negate" 593 (.ref 219), ke P "__and__" 601 (.ref 226), ke P "__or__" 609 (.ref 233), ke P "__gt__" 617 (.ref 240), ke P "__lt__" 625 (.ref 247), ke P "__eq__" 633 (.ref 254), ke P "substitute_bindings" 641 (.ref 261), ke P "replace" 656 (.ref 269), ke P "visit" 665 (.ref 276), ke P "visit_structured" 674 (.ref 283), ke P "variables" 680 (.ref 288), ke P "free" 687 (.ref 295), ke P "constants" 694 (.ref 302), ke P "predicates" 701 (.ref 309), ke P "simplify" 708 (.ref 316), ke P "make_VariableExpression" 716 (.ref 323), ke P "__static_attributes__" 717 (.ref 324), ke P "__doc__" 718 .none, ke P "__hash__" 719 .none] 3, #[]⟩
noncomputable def ob326 (P : Params) : Obj := ⟨(.type "type"), none, .cls { name := (S "Expression"), bases := [(.ref 170)], mro := [(.ref 326), (.ref 170), (.type "object")], ns := 325, qualname := (S "Expression"), hasDict := true, slotNames := [], subclasses := [(.ref 424), (.ref 486), (.ref 643), (.ref 815), (.ref 862)], abstract := false, collection := none, hasDel := false }, #[(some (.ref 175)), none, (some (.str (S "Expression") 529)), (some (.str (S "Expression") 537)), (some (.builtin "object.__new__")), (some (.bool true))]⟩
noncomputable def ob341 (P : Params) : Obj := ⟨(.type "code"), none, .fields #[(.str (S "__init__") 734), (.str (S "ApplicationExpression.__init__") 735), (.str (S "/claim/cut.py") 736), (.int 180 0), (.int 3 0), (.int 0 0), (.int 0 0), (.int 3 0), (.ref 336), (.bool true), (.int 181 0), (.ref 337), .none, (.ref 338), (.ref 339), (.ref 340), (.int 740 0), (.int 180 0), (.str (S "/claim/cut.py") 741)], #[]⟩
noncomputable def ob342 (P : Params) : Obj := ⟨(.type "function"), none, .func (fnAt (mAt 10 0) (S "ApplicationExpression.__init__") .none .none .none (.str (S "nltk.sem.logic") 194) none (.ref 341) .none), #[]⟩
noncomputable def ob355 (P : Params) : Obj := ⟨(.type "code"), none, .fields #[(.str (S "_made") 750), (.str (S "ApplicationExpression._made") 751), (.str (S "/claim/cut.py") 752), (.int 189 0), (.int 2 0), (.int 0 0), (.int 0 0), (.int 3 0), (.ref 350), (.bool true), (.int 181 0), (.ref 351), .none, (.ref 352), (.ref 353), (.ref 354), (.int 755 0), (.int 189 0), (.str (S "/claim/cut.py") 756)], #[]⟩
noncomputable def ob356 (P : Params) : Obj := ⟨(.type "function"), none, .func (fnAt (mAt 10 2) (S "ApplicationExpression._made") .none .none .none (.str (S "nltk.sem.logic") 194) none (.ref 355) .none), #[]⟩
noncomputable def ob362 (P : Params) : Obj := ⟨(.type "code"), none, .fields #[(.str (S "constants") 758), (.str (S "ApplicationExpression.constants") 759), (.str (S "/claim/cut.py") 760), (.int 192 0), (.int 1 0), (.int 0 0), (.int 0 0), (.int 3 0), (.ref 357), (.bool true), (.int 181 0), (.ref 358), .none, (.ref 359), (.ref 360), (.ref 361), (.int 763 0), (.int 192 0), (.str (S "/claim/cut.py") 764)], #[]⟩
noncomputable def ob363 (P : Params) : Obj := ⟨(.type "function"), none, .func (fnAt (mAt 10 3) (S "ApplicationExpression.constants") .none .none .none (.str (S "nltk.sem.logic") 194) none (.ref 362) .none), #[]⟩
noncomputable def ob376 (P : Params) : Obj := ⟨(.type "code"), none, .fields #[(.str (S "visit") 774), (.str (S "ApplicationExpression.visit") 775), (.str (S "/claim/cut.py") 776), (.int 206 0), (.int 3 0), (.int 0 0), (.int 0 0), (.int 3 0), (.ref 371), (.bool true), (.int 181 0), (.ref 372), .none, (.ref 373), (.ref 374), (.ref 375), (.int 780 0), (.int 206 0), (.str (S "/claim/cut.py") 781)], #[]⟩
noncomputable def ob377 (P : Params) : Obj := ⟨(.type "function"), none, .func (fnAt (mAt 10 5) (S "ApplicationExpression.visit") .none .none .none (.str (S "nltk.sem.logic") 194) none (.ref 376) .none), #[]⟩
noncomputable def ob423 (P : Params) : Obj := ⟨(.type "dict"), none, .dict #[ke P "__module__" 729 (.str (S "nltk.sem.logic") 194), ke P "__firstlineno__" 733 (.int 178 732), ke P "__init__" 742 (.ref 342), ke P "simplify" 749 (.ref 349), ke P "_made" 757 (.ref 356), ke P "constants" 765 (.ref 363), ke P "predicates" 773 (.ref 370), ke P "visit" 782 (.ref 377), ke P "__eq__" 790 (.ref 384), ke P "__str__" 802 (.ref 391), ke P "uncurry" 811 (.ref 398), ke P "pred" 819 (.ref 406), ke P "args" 827 (.ref 414), ke P "is_atom" 834 (.ref 421), ke P "__static_attributes__" 837 (.ref 422), ke P "__doc__" 838 .none, ke P "__hash__" 839 .none] 3, #[]⟩
noncomputable def ob424 (P : Params) : Obj := ⟨(.type "type"), none, .cls { name := (S "ApplicationExpression"), bases := [(.ref 326)], mro := [(.ref 424), (.ref 326), (.ref 170), (.type "object")], ns := 423, qualname := (S "ApplicationExpression"), hasDict := true, slotNames := [], subclasses := [], abstract := false, collection := none, hasDel := false }, #[(some (.ref 329)), none, (some (.str (S "ApplicationExpression") 722)), (some (.str (S "ApplicationExpression") 730)), (some (.builtin "object.__new__")), (some (.bool true))]⟩
noncomputable def ob439 (P : Params) : Obj := ⟨(.type "code"), none, .fields #[(.str (S "__init__") 854), (.str (S "AbstractVariableExpression.__init__") 855), (.str (S "/claim/cut.py") 856), (.int 253 0), (.int 2 0), (.int 0 0), (.int 0 0), (.int 3 0), (.ref 434), (.bool true), (.int 181 0), (.ref 435), .none, (.ref 436), (.ref 437), (.ref 438), (.int 859 0), (.int 253 0), (.str (S "/claim/cut.py") 860)], #[]⟩
noncomputable def ob440 (P : Params) : Obj := ⟨(.type "function"), none, .func (fnAt (mAt 11 0) (S "AbstractVariableExpression.__init__") .none .none .none (.str (S "nltk.sem.logic") 194) none (.ref 439) .none), #[]⟩
noncomputable def ob448 (P : Params) : Obj := ⟨(.type "tuple"), none, .seq #[(.bool false), (.bool true)] 0, #[]⟩
noncomputable def ob454 (P : Params) : Obj := ⟨(.type "code"), none, .fields #[(.str (S "replace") 869), (.str (S "AbstractVariableExpression.replace") 870), (.str (S "/claim/cut.py") 871), (.int 260 0), (.int 5 0), (.int 0 0), (.int 0 0), (.int 3 0), (.ref 449), (.bool true), (.int 181 0), (.ref 450), .none, (.ref 451), (.ref 452), (.ref 453), (.int 877 0), (.int 260 0), (.str (S "/claim/cut.py") 878)], #[]⟩
noncomputable def ob455 (P : Params) : Obj := ⟨(.type "function"), none, .func (fnAt (mAt 11 2) (S "AbstractVariableExpression.replace") (.ref 448) .none .none (.str (S "nltk.sem.logic") 194) none (.ref 454) .none), #[]⟩
noncomputable def ob485 (P : Params) : Obj := ⟨(.type "dict"), none, .dict #[ke P "__module__" 849 (.str (S "nltk.sem.logic") 194), ke P "__firstlineno__" 853 (.int 251 852), ke P "__init__" 861 (.ref 440), ke P "simplify" 868 (.ref 447), ke P "replace" 879 (.ref 455), ke P "predicates" 886 (.ref 462), ke P "__eq__" 894 (.ref 469), ke P "__lt__" 902 (.ref 476), ke P "__str__" 909 (.ref 483), ke P "__static_attributes__" 911 (.ref 484), ke P "__doc__" 912 .none, ke P "__hash__" 913 .none] 3, #[]⟩
noncomputable def ob486 (P : Params) : Obj := ⟨(.type "type"), none, .cls { name := (S "AbstractVariableExpression"), bases := [(.ref 326)], mro := [(.ref 486), (.ref 326), (.ref 170), (.type "object")], ns := 485, qualname := (S "AbstractVariableExpression"), hasDict := true, slotNames := [], subclasses := [(.ref 512), (.ref 538), (.ref 576)], abstract := false, collection := none, hasDel := false }, #[(some (.ref 427)), none, (some (.str (S "AbstractVariableExpression") 842)), (some (.str (S "AbstractVariableExpression") 850)), (some (.builtin "object.__new__")), (some (.bool true))]⟩
noncomputable def ob501 (P : Params) : Obj := ⟨(.type "code"), none, .fields #[(.str (S "free") 928), (.str (S "IndividualVariableExpression.free") 929), (.str (S "/claim/cut.py") 930), (.int 283 0), (.int 1 0), (.int 0 0), (.int 0 0), (.int 3 0), (.ref 496), (.bool true), (.int 181 0), (.ref 497), .none, (.ref 498), (.ref 499), (.ref 500), (.int 932 0), (.int 283 0), (.str (S "/claim/cut.py") 933)], #[]⟩
noncomputable def ob502 (P : Params) : Obj := ⟨(.type "function"), none, .func (fnAt (mAt 12 0) (S "IndividualVariableExpression.free") .none .none .none (.str (S "nltk.sem.logic") 194) none (.ref 501) .none), #[]⟩
noncomputable def ob508 (P : Params) : Obj := ⟨(.type "code"), none, .fields #[(.str (S "constants") 935), (.str (S "IndividualVariableExpression.constants") 936), (.str (S "/claim/cut.py") 937), (.int 286 0), (.int 1 0), (.int 0 0), (.int 0 0), (.int 3 0), (.ref 503), (.bool true), (.int 181 0), (.ref 504), .none, (.ref 505), (.ref 506), (.ref 507), (.int 939 0), (.int 286 0), (.str (S "/claim/cut.py") 940)], #[]⟩
noncomputable def ob509 (P : Params) : Obj := ⟨(.type "function"), none, .func (fnAt (mAt 12 1) (S "IndividualVariableExpression.constants") .none .none .none (.str (S "nltk.sem.logic") 194) none (.ref 508) .none), #[]⟩
noncomputable def ob511 (P : Params) : Obj := ⟨(.type "dict"), none, .dict #[ke P "__module__" 923 (.str (S "nltk.sem.logic") 194), ke P "__firstlineno__" 927 (.int 281 926), ke P "free" 934 (.ref 502), ke P "constants" 941 (.ref 509), ke P "__static_attributes__" 942 (.ref 510), ke P "__doc__" 943 .none] 2, #[]⟩
noncomputable def ob512 (P : Params) : Obj := ⟨(.type "type"), none, .cls { name := (S "IndividualVariableExpression"), bases := [(.ref 486)], mro := [(.ref 512), (.ref 486), (.ref 326), (.ref 170), (.type "object")], ns := 511, qualname := (S "IndividualVariableExpression"), hasDict := true, slotNames := [], subclasses := [(.ref 550)], abstract := false, collection := none, hasDel := false }, #[(some (.ref 489)), none, (some (.str (S "IndividualVariableExpression") 916)), (some (.str (S "IndividualVariableExpression") 924)), (some (.builtin "object.__new__")), (some (.bool true))]⟩
noncomputable def ob537 (P : Params) : Obj := ⟨(.type "dict"), none, .dict #[ke P "__module__" 953 (.str (S "nltk.sem.logic") 194), ke P "__firstlineno__" 957 (.int 288 956), ke P "free" 964 (.ref 528), ke P "constants" 971 (.ref 535), ke P "__static_attributes__" 972 (.ref 536), ke P "__doc__" 973 .none] 2, #[]⟩
noncomputable def ob538 (P : Params) : Obj := ⟨(.type "type"), none, .cls { name := (S "FunctionVariableExpression"), bases := [(.ref 486)], mro := [(.ref 538), (.ref 486), (.ref 326), (.ref 170), (.type "object")], ns := 537, qualname := (S "FunctionVariableExpression"), hasDict := true, slotNames := [], subclasses := [], abstract := false, collection := none, hasDel := false }, #[(some (.ref 515)), none, (some (.str (S "FunctionVariableExpression") 946)), (some (.str (S "FunctionVariableExpression") 954)), (some (.builtin "object.__new__")), (some (.bool true))]⟩
noncomputable def ob549 (P : Params) : Obj := ⟨(.type "dict"), none, .dict #[ke P "__module__" 983 (.str (S "nltk.sem.logic") 194), ke P "__firstlineno__" 987 (.int 295 986), ke P "__static_attributes__" 988 (.ref 548), ke P "__doc__" 989 .none] 2, #[]⟩
noncomputable def ob550 (P : Params) : Obj := ⟨(.type "type"), none, .cls { name := (S "EventVariableExpression"), bases := [(.ref 512)], mro := [(.ref 550), (.ref 512), (.ref 486), (.ref 326), (.ref 170), (.type "object")], ns := 549, qualname := (S "EventVariableExpression"), hasDict := true, slotNames := [], subclasses := [], abstract := false, collection := none, hasDel := false }, #[(some (.ref 541)), none, (some (.str (S "EventVariableExpression") 976)), (some (.str (S "EventVariableExpression") 984)), (some (.builtin "object.__new__")), (some (.bool true))]⟩
noncomputable def ob565 (P : Params) : Obj := ⟨(.type "code"), none, .fields #[(.str (S "free") 1004), (.str (S "ConstantExpression.free") 1005), (.str (S "/claim/cut.py") 1006), (.int 299 0), (.int 1 0), (.int 0 0), (.int 0 0), (.int 3 0), (.ref 560), (.bool true), (.int 181 0), (.ref 561), .none, (.ref 562), (.ref 563), (.ref 564), (.int 1008 0), (.int 299 0), (.str (S "/claim/cut.py") 1009)], #[]⟩
noncomputable def ob566 (P : Params) : Obj := ⟨(.type "function"), none, .func (fnAt (mAt 15 0) (S "ConstantExpression.free") .none .none .none (.str (S "nltk.sem.logic") 194) none (.ref 565) .none), #[]⟩
noncomputable def ob572 (P : Params) : Obj := ⟨(.type "code"), none, .fields #[(.str (S "constants") 1011), (.str (S "ConstantExpression.constants") 1012), (.str (S "/claim/cut.py") 1013), (.int 302 0), (.int 1 0), (.int 0 0), (.int 0 0), (.int 3 0), (.ref 567), (.bool true), (.int 181 0), (.ref 568), .none, (.ref 569), (.ref 570), (.ref 571), (.int 1015 0), (.int 302 0), (.str (S "/claim/cut.py") 1016)], #[]⟩
noncomputable def ob573 (P : Params) : Obj := ⟨(.type "function"), none, .func (fnAt (mAt 15 1) (S "ConstantExpression.constants") .none .none .none (.str (S "nltk.sem.logic") 194) none (.ref 572) .none), #[]⟩
noncomputable def ob575 (P : Params) : Obj := ⟨(.type "dict"), none, .dict #[ke P "__module__" 999 (.str (S "nltk.sem.logic") 194), ke P "__firstlineno__" 1003 (.int 297 1002), ke P "free" 1010 (.ref 566), ke P "constants" 1017 (.ref 573), ke P "__static_attributes__" 1018 (.ref 574), ke P "__doc__" 1019 .none] 2, #[]⟩
noncomputable def ob576 (P : Params) : Obj := ⟨(.type "type"), none, .cls { name := (S "ConstantExpression"), bases := [(.ref 486)], mro := [(.ref 576), (.ref 486), (.ref 326), (.ref 170), (.type "object")], ns := 575, qualname := (S "ConstantExpression"), hasDict := true, slotNames := [], subclasses := [], abstract := false, collection := none, hasDel := false }, #[(some (.ref 553)), none, (some (.str (S "ConstantExpression") 992)), (some (.str (S "ConstantExpression") 1000)), (some (.builtin "object.__new__")), (some (.bool true))]⟩
noncomputable def ob584 (P : Params) : Obj := ⟨(.type "code"), none, .fields #[(.str (S "VariableExpression") 1022), (.str (S "VariableExpression") 1023), (.str (S "/claim/cut.py") 1024), (.int 304 0), (.int 1 0), (.int 0 0), (.int 0 0), (.int 3 0), (.ref 579), (.bool true), (.int 181 0), (.ref 580), .none, (.ref 581), (.ref 582), (.ref 583), (.int 1026 0), (.int 304 0), (.str (S "/claim/cut.py") 1027)], #[]⟩
noncomputable def ob585 (P : Params) : Obj := ⟨(.type "function"), none, .func (fnAt (sAt 16) (S "VariableExpression") .none .none .none (.str (S "nltk.sem.logic") 194) none (.ref 584) .none), #[]⟩
noncomputable def ob598 (P : Params) : Obj := ⟨(.type "code"), none, .fields #[(.str (S "__init__") 1041), (.str (S "VariableBinderExpression.__init__") 1042), (.str (S "/claim/cut.py") 1043), (.int 316 0), (.int 3 0), (.int 0 0), (.int 0 0), (.int 3 0), (.ref 593), (.bool true), (.int 181 0), (.ref 594), .none, (.ref 595), (.ref 596), (.ref 597), (.int 1047 0), (.int 316 0), (.str (S "/claim/cut.py") 1048)], #[]⟩
noncomputable def ob599 (P : Params) : Obj := ⟨(.type "function"), none, .func (fnAt (mAt 17 0) (S "VariableBinderExpression.__init__") .none .none .none (.str (S "nltk.sem.logic") 194) none (.ref 598) .none), #[]⟩
noncomputable def ob642 (P : Params) : Obj := ⟨(.type "dict"), none, .dict #[ke P "__module__" 1036 (.str (S "nltk.sem.logic") 194), ke P "__firstlineno__" 1040 (.int 314 1039), ke P "__init__" 1049 (.ref 599), ke P "replace" 1062 (.ref 607), ke P "alpha_convert" 1070 (.ref 614), ke P "free" 1076 (.ref 619), ke P "visit" 1085 (.ref 626), ke P "_made" 1093 (.ref 633), ke P "__eq__" 1102 (.ref 640), ke P "__static_attributes__" 1105 (.ref 641), ke P "__doc__" 1106 .none, ke P "__hash__" 1107 .none] 3, #[]⟩
noncomputable def ob643 (P : Params) : Obj := ⟨(.type "type"), none, .cls { name := (S "VariableBinderExpression"), bases := [(.ref 326)], mro := [(.ref 643), (.ref 326), (.ref 170), (.type "object")], ns := 642, qualname := (S "VariableBinderExpression"), hasDict := true, slotNames := [], subclasses := [(.ref 676), (.ref 695)], abstract := false, collection := none, hasDel := false }, #[(some (.ref 586)), none, (some (.str (S "VariableBinderExpression") 1029)), (some (.str (S "VariableBinderExpression") 1037)), (some (.builtin "object.__new__")), (some (.bool true))]⟩
noncomputable def ob675 (P : Params) : Obj := ⟨(.type "dict"), none, .dict #[ke P "__module__" 1117 (.str (S "nltk.sem.logic") 194), ke P "__firstlineno__" 1121 (.int 360 1120), ke P "_binder" 1130 (.ref 659), ke P "_is_alike" 1138 (.ref 666), ke P "__str__" 1147 (.ref 673), ke P "__static_attributes__" 1148 (.ref 674), ke P "__doc__" 1149 .none] 2, #[]⟩
noncomputable def ob676 (P : Params) : Obj := ⟨(.type "type"), none, .cls { name := (S "LambdaExpression"), bases := [(.ref 643)], mro := [(.ref 676), (.ref 643), (.ref 326), (.ref 170), (.type "object")], ns := 675, qualname := (S "LambdaExpression"), hasDict := true, slotNames := [], subclasses := [], abstract := false, collection := none, hasDel := false }, #[(some (.ref 646)), none, (some (.str (S "LambdaExpression") 1110)), (some (.str (S "LambdaExpression") 1118)), (some (.builtin "object.__new__")), (some (.bool true))]⟩
noncomputable def ob694 (P : Params) : Obj := ⟨(.type "dict"), none, .dict #[ke P "__module__" 1159 (.str (S "nltk.sem.logic") 194), ke P "__firstlineno__" 1163 (.int 375 1162), ke P "__str__" 1172 (.ref 692), ke P "__static_attributes__" 1173 (.ref 693), ke P "__doc__" 1174 .none] 2, #[]⟩
noncomputable def ob695 (P : Params) : Obj := ⟨(.type "type"), none, .cls { name := (S "QuantifiedExpression"), bases := [(.ref 643)], mro := [(.ref 695), (.ref 643), (.ref 326), (.ref 170), (.type "object")], ns := 694, qualname := (S "QuantifiedExpression"), hasDict := true, slotNames := [], subclasses := [(.ref 728), (.ref 761)], abstract := false, collection := none, hasDel := false }, #[(some (.ref 679)), none, (some (.str (S "QuantifiedExpression") 1152)), (some (.str (S "QuantifiedExpression") 1160)), (some (.builtin "object.__new__")), (some (.bool true))]⟩
noncomputable def ob727 (P : Params) : Obj := ⟨(.type "dict"), none, .dict #[ke P "__module__" 1184 (.str (S "nltk.sem.logic") 194), ke P "__firstlineno__" 1188 (.int 384 1187), ke P "_binder" 1197 (.ref 711), ke P "_is_alike" 1205 (.ref 718), ke P "getQuantifier" 1212 (.ref 725), ke P "__static_attributes__" 1213 (.ref 726), ke P "__doc__" 1214 .none] 2, #[]⟩
noncomputable def ob728 (P : Params) : Obj := ⟨(.type "type"), none, .cls { name := (S "ExistsExpression"), bases := [(.ref 695)], mro := [(.ref 728), (.ref 695), (.ref 643), (.ref 326), (.ref 170), (.type "object")], ns := 727, qualname := (S "ExistsExpression"), hasDict := true, slotNames := [], subclasses := [], abstract := false, collection := none, hasDel := false }, #[(some (.ref 698)), none, (some (.str (S "ExistsExpression") 1177)), (some (.str (S "ExistsExpression") 1185)), (some (.builtin "object.__new__")), (some (.bool true))]⟩
noncomputable def ob760 (P : Params) : Obj := ⟨(.type "dict"), none, .dict #[ke P "__module__" 1224 (.str (S "nltk.sem.logic") 194), ke P "__firstlineno__" 1228 (.int 394 1227), ke P "_used_vars" 1229 .none, ke P "_exhausted" 1230 (.bool false), ke P "_binder" 1239 (.ref 744), ke P "_is_alike" 1247 (.ref 751), ke P "getQuantifier" 1254 (.ref 758), ke P "__static_attributes__" 1255 (.ref 759), ke P "__doc__" 1256 .none] 2, #[]⟩
noncomputable def ob761 (P : Params) : Obj := ⟨(.type "type"), none, .cls { name := (S "AllExpression"), bases := [(.ref 695)], mro := [(.ref 761), (.ref 695), (.ref 643), (.ref 326), (.ref 170), (.type "object")], ns := 760, qualname := (S "AllExpression"), hasDict := true, slotNames := [], subclasses := [], abstract := false, collection := none, hasDel := false }, #[(some (.ref 731)), none, (some (.str (S "AllExpression") 1217)), (some (.str (S "AllExpression") 1225)), (some (.builtin "object.__new__")), (some (.bool true))]⟩
noncomputable def ob776 (P : Params) : Obj := ⟨(.type "code"), none, .fields #[(.str (S "__init__") 1272), (.str (S "NegatedExpression.__init__") 1273), (.str (S "/claim/cut.py") 1274), (.int 409 0), (.int 2 0), (.int 0 0), (.int 0 0), (.int 3 0), (.ref 771), (.bool true), (.int 181 0), (.ref 772), .none, (.ref 773), (.ref 774), (.ref 775), (.int 1277 0), (.int 409 0), (.str (S "/claim/cut.py") 1278)], #[]⟩
noncomputable def ob777 (P : Params) : Obj := ⟨(.type "function"), none, .func (fnAt (mAt 22 1) (S "NegatedExpression.__init__") .none .none .none (.str (S "nltk.sem.logic") 194) none (.ref 776) .none), #[]⟩
noncomputable def ob783 (P : Params) : Obj := ⟨(.type "code"), none, .fields #[(.str (S "_made") 1280), (.str (S "NegatedExpression._made") 1281), (.str (S "/claim/cut.py") 1282), (.int 413 0), (.int 2 0), (.int 0 0), (.int 0 0), (.int 3 0), (.ref 778), (.bool true), (.int 181 0), (.ref 779), .none, (.ref 780), (.ref 781), (.ref 782), (.int 1285 0), (.int 413 0), (.str (S "/claim/cut.py") 1286)], #[]⟩
noncomputable def ob784 (P : Params) : Obj := ⟨(.type "function"), none, .func (fnAt (mAt 22 2) (S "NegatedExpression._made") .none .none .none (.str (S "nltk.sem.logic") 194) none (.ref 783) .none), #[]⟩
noncomputable def ob790 (P : Params) : Obj := ⟨(.type "code"), none, .fields #[(.str (S "visit") 1288), (.str (S "NegatedExpression.visit") 1289), (.str (S "/claim/cut.py") 1290), (.int 416 0), (.int 3 0), (.int 0 0), (.int 0 0), (.int 3 0), (.ref 785), (.bool true), (.int 181 0), (.ref 786), .none, (.ref 787), (.ref 788), (.ref 789), (.int 1294 0), (.int 416 0), (.str (S "/claim/cut.py") 1295)], #[]⟩
noncomputable def ob791 (P : Params) : Obj := ⟨(.type "function"), none, .func (fnAt (mAt 22 3) (S "NegatedExpression.visit") .none .none .none (.str (S "nltk.sem.logic") 194) none (.ref 790) .none), #[]⟩
noncomputable def ob814 (P : Params) : Obj := ⟨(.type "dict"), none, .dict #[ke P "__module__" 1266 (.str (S "nltk.sem.logic") 194), ke P "__firstlineno__" 1270 (.int 406 1269), ke P "_exhausted" 1271 (.bool false), ke P "__init__" 1279 (.ref 777), ke P "_made" 1287 (.ref 784), ke P "visit" 1296 (.ref 791), ke P "negate" 1303 (.ref 798), ke P "__eq__" 1311 (.ref 805), ke P "__str__" 1318 (.ref 812), ke P "__static_attributes__" 1320 (.ref 813), ke P "__doc__" 1321 .none, ke P "__hash__" 1322 .none] 3, #[]⟩
noncomputable def ob815 (P : Params) : Obj := ⟨(.type "type"), none, .cls { name := (S "NegatedExpression"), bases := [(.ref 326)], mro := [(.ref 815), (.ref 326), (.ref 170), (.type "object")], ns := 814, qualname := (S "NegatedExpression"), hasDict := true, slotNames := [], subclasses := [], abstract := false, collection := none, hasDel := false }, #[(some (.ref 764)), none, (some (.str (S "NegatedExpression") 1259)), (some (.str (S "NegatedExpression") 1267)), (some (.builtin "object.__new__")), (some (.bool true))]⟩
noncomputable def ob830 (P : Params) : Obj := ⟨(.type "code"), none, .fields #[(.str (S "__init__") 1337), (.str (S "BinaryExpression.__init__") 1338), (.str (S "/claim/cut.py") 1339), (.int 429 0), (.int 3 0), (.int 0 0), (.int 0 0), (.int 3 0), (.ref 825), (.bool true), (.int 181 0), (.ref 826), .none, (.ref 827), (.ref 828), (.ref 829), (.int 1343 0), (.int 429 0), (.str (S "/claim/cut.py") 1344)], #[]⟩
noncomputable def ob831 (P : Params) : Obj := ⟨(.type "function"), none, .func (fnAt (mAt 23 0) (S "BinaryExpression.__init__") .none .none .none (.str (S "nltk.sem.logic") 194) none (.ref 830) .none), #[]⟩
noncomputable def ob837 (P : Params) : Obj := ⟨(.type "code"), none, .fields #[(.str (S "visit") 1346), (.str (S "BinaryExpression.visit") 1347), (.str (S "/claim/cut.py") 1348), (.int 435 0), (.int 3 0), (.int 0 0), (.int 0 0), (.int 3 0), (.ref 832), (.bool true), (.int 181 0), (.ref 833), .none, (.ref 834), (.ref 835), (.ref 836), (.int 1352 0), (.int 435 0), (.str (S "/claim/cut.py") 1353)], #[]⟩
noncomputable def ob838 (P : Params) : Obj := ⟨(.type "function"), none, .func (fnAt (mAt 23 1) (S "BinaryExpression.visit") .none .none .none (.str (S "nltk.sem.logic") 194) none (.ref 837) .none), #[]⟩
noncomputable def ob861 (P : Params) : Obj := ⟨(.type "dict"), none, .dict #[ke P "__module__" 1332 (.str (S "nltk.sem.logic") 194), ke P "__firstlineno__" 1336 (.int 427 1335), ke P "__init__" 1345 (.ref 831), ke P "visit" 1354 (.ref 838), ke P "__eq__" 1362 (.ref 845), ke P "__str__" 1371 (.ref 852), ke P "_str_subex" 1379 (.ref 859), ke P "__static_attributes__" 1382 (.ref 860), ke P "__doc__" 1383 .none, ke P "__hash__" 1384 .none] 3, #[]⟩
noncomputable def ob862 (P : Params) : Obj := ⟨(.type "type"), none, .cls { name := (S "BinaryExpression"), bases := [(.ref 326)], mro := [(.ref 862), (.ref 326), (.ref 170), (.type "object")], ns := 861, qualname := (S "BinaryExpression"), hasDict := true, slotNames := [], subclasses := [(.ref 874), (.ref 1053)], abstract := false, collection := none, hasDel := false }, #[(some (.ref 818)), none, (some (.str (S "BinaryExpression") 1325)), (some (.str (S "BinaryExpression") 1333)), (some (.builtin "object.__new__")), (some (.bool true))]⟩
noncomputable def ob873 (P : Params) : Obj := ⟨(.type "dict"), none, .dict #[ke P "__module__" 1394 (.str (S "nltk.sem.logic") 194), ke P "__firstlineno__" 1398 (.int 448 1397), ke P "__static_attributes__" 1399 (.ref 872), ke P "__doc__" 1400 .none] 2, #[]⟩
noncomputable def ob874 (P : Params) : Obj := ⟨(.type "type"), none, .cls { name := (S "BooleanExpression"), bases := [(.ref 862)], mro := [(.ref 874), (.ref 862), (.ref 326), (.ref 170), (.type "object")], ns := 873, qualname := (S "BooleanExpression"), hasDict := true, slotNames := [], subclasses := [(.ref 914), (.ref 954), (.ref 987), (.ref 1020)], abstract := false, collection := none, hasDel := false }, #[(some (.ref 865)), none, (some (.str (S "BooleanExpression") 1387)), (some (.str (S "BooleanExpression") 1395)), (some (.builtin "object.__new__")), (some (.bool true))]⟩
noncomputable def ob889 (P : Params) : Obj := ⟨(.type "code"), none, .fields #[(.str (S "_made") 1415), (.str (S "AndExpression._made") 1416), (.str (S "/claim/cut.py") 1417), (.int 452 0), (.int 2 0), (.int 0 0), (.int 0 0), (.int 3 0), (.ref 884), (.bool true), (.int 181 0), (.ref 885), .none, (.ref 886), (.ref 887), (.ref 888), (.int 1420 0), (.int 452 0), (.str (S "/claim/cut.py") 1421)], #[]⟩
noncomputable def ob890 (P : Params) : Obj := ⟨(.type "function"), none, .func (fnAt (mAt 25 0) (S "AndExpression._made") .none .none .none (.str (S "nltk.sem.logic") 194) none (.ref 889) .none), #[]⟩
noncomputable def ob913 (P : Params) : Obj := ⟨(.type "dict"), none, .dict #[ke P "__module__" 1410 (.str (S "nltk.sem.logic") 194), ke P "__firstlineno__" 1414 (.int 450 1413), ke P "_made" 1422 (.ref 890), ke P "_is_alike" 1430 (.ref 897), ke P "getOp" 1437 (.ref 904), ke P "_str_subex" 1446 (.ref 911), ke P "__static_attributes__" 1447 (.ref 912), ke P "__doc__" 1448 .none] 2, #[]⟩
noncomputable def ob914 (P : Params) : Obj := ⟨(.type "type"), none, .cls { name := (S "AndExpression"), bases := [(.ref 874)], mro := [(.ref 914), (.ref 874), (.ref 862), (.ref 326), (.ref 170), (.type "object")], ns := 913, qualname := (S "AndExpression"), hasDict := true, slotNames := [], subclasses := [], abstract := false, collection := none, hasDel := false }, #[(some (.ref 877)), none, (some (.str (S "AndExpression") 1403)), (some (.str (S "AndExpression") 1411)), (some (.builtin "object.__new__")), (some (.bool true))]⟩
noncomputable def ob929 (P : Params) : Obj := ⟨(.type "code"), none, .fields #[(.str (S "_made") 1463), (.str (S "OrExpression._made") 1464), (.str (S "/claim/cut.py") 1465), (.int 468 0), (.int 2 0), (.int 0 0), (.int 0 0), (.int 3 0), (.ref 924), (.bool true), (.int 181 0), (.ref 925), .none, (.ref 926), (.ref 927), (.ref 928), (.int 1468 0), (.int 468 0), (.str (S "/claim/cut.py") 1469)], #[]⟩
noncomputable def ob930 (P : Params) : Obj := ⟨(.type "function"), none, .func (fnAt (mAt 26 0) (S "OrExpression._made") .none .none .none (.str (S "nltk.sem.logic") 194) none (.ref 929) .none), #[]⟩
noncomputable def ob953 (P : Params) : Obj := ⟨(.type "dict"), none, .dict #[ke P "__module__" 1458 (.str (S "nltk.sem.logic") 194), ke P "__firstlineno__" 1462 (.int 466 1461), ke P "_made" 1470 (.ref 930), ke P "_is_alike" 1478 (.ref 937), ke P "getOp" 1485 (.ref 944), ke P "_str_subex" 1494 (.ref 951), ke P "__static_attributes__" 1495 (.ref 952), ke P "__doc__" 1496 .none] 2, #[]⟩
noncomputable def ob954 (P : Params) : Obj := ⟨(.type "type"), none, .cls { name := (S "OrExpression"), bases := [(.ref 874)], mro := [(.ref 954), (.ref 874), (.ref 862), (.ref 326), (.ref 170), (.type "object")], ns := 953, qualname := (S "OrExpression"), hasDict := true, slotNames := [], subclasses := [], abstract := false, collection := none, hasDel := false }, #[(some (.ref 917)), none, (some (.str (S "OrExpression") 1451)), (some (.str (S "OrExpression") 1459)), (some (.builtin "object.__new__")), (some (.bool true))]⟩
noncomputable def ob969 (P : Params) : Obj := ⟨(.type "code"), none, .fields #[(.str (S "_made") 1511), (.str (S "ImpExpression._made") 1512), (.str (S "/claim/cut.py") 1513), (.int 484 0), (.int 2 0), (.int 0 0), (.int 0 0), (.int 3 0), (.ref 964), (.bool true), (.int 181 0), (.ref 965), .none, (.ref 966), (.ref 967), (.ref 968), (.int 1516 0), (.int 484 0), (.str (S "/claim/cut.py") 1517)], #[]⟩
noncomputable def ob970 (P : Params) : Obj := ⟨(.type "function"), none, .func (fnAt (mAt 27 0) (S "ImpExpression._made") .none .none .none (.str (S "nltk.sem.logic") 194) none (.ref 969) .none), #[]⟩
noncomputable def ob986 (P : Params) : Obj := ⟨(.type "dict"), none, .dict #[ke P "__module__" 1506 (.str (S "nltk.sem.logic") 194), ke P "__firstlineno__" 1510 (.int 482 1509), ke P "_made" 1518 (.ref 970), ke P "_is_alike" 1526 (.ref 977), ke P "getOp" 1533 (.ref 984), ke P "__static_attributes__" 1534 (.ref 985), ke P "__doc__" 1535 .none] 2, #[]⟩
noncomputable def ob987 (P : Params) : Obj := ⟨(.type "type"), none, .cls { name := (S "ImpExpression"), bases := [(.ref 874)], mro := [(.ref 987), (.ref 874), (.ref 862), (.ref 326), (.ref 170), (.type "object")], ns := 986, qualname := (S "ImpExpression"), hasDict := true, slotNames := [], subclasses := [], abstract := false, collection := none, hasDel := false }, #[(some (.ref 957)), none, (some (.str (S "ImpExpression") 1499)), (some (.str (S "ImpExpression") 1507)), (some (.builtin "object.__new__")), (some (.bool true))]⟩
noncomputable def ob1002 (P : Params) : Obj := ⟨(.type "code"), none, .fields #[(.str (S "_made") 1550), (.str (S "IffExpression._made") 1551), (.str (S "/claim/cut.py") 1552), (.int 494 0), (.int 2 0), (.int 0 0), (.int 0 0), (.int 3 0), (.ref 997), (.bool true), (.int 181 0), (.ref 998), .none, (.ref 999), (.ref 1000), (.ref 1001), (.int 1555 0), (.int 494 0), (.str (S "/claim/cut.py") 1556)], #[]⟩
noncomputable def ob1003 (P : Params) : Obj := ⟨(.type "function"), none, .func (fnAt (mAt 28 0) (S "IffExpression._made") .none .none .none (.str (S "nltk.sem.logic") 194) none (.ref 1002) .none), #[]⟩
noncomputable def ob1019 (P : Params) : Obj := ⟨(.type "dict"), none, .dict #[ke P "__module__" 1545 (.str (S "nltk.sem.logic") 194), ke P "__firstlineno__" 1549 (.int 492 1548), ke P "_made" 1557 (.ref 1003), ke P "_is_alike" 1565 (.ref 1010), ke P "getOp" 1572 (.ref 1017), ke P "__static_attributes__" 1573 (.ref 1018), ke P "__doc__" 1574 .none] 2, #[]⟩
noncomputable def ob1020 (P : Params) : Obj := ⟨(.type "type"), none, .cls { name := (S "IffExpression"), bases := [(.ref 874)], mro := [(.ref 1020), (.ref 874), (.ref 862), (.ref 326), (.ref 170), (.type "object")], ns := 1019, qualname := (S "IffExpression"), hasDict := true, slotNames := [], subclasses := [], abstract := false, collection := none, hasDel := false }, #[(some (.ref 990)), none, (some (.str (S "IffExpression") 1538)), (some (.str (S "IffExpression") 1546)), (some (.builtin "object.__new__")), (some (.bool true))]⟩
noncomputable def ob1052 (P : Params) : Obj := ⟨(.type "dict"), none, .dict #[ke P "__module__" 1584 (.str (S "nltk.sem.logic") 194), ke P "__firstlineno__" 1588 (.int 502 1587), ke P "_made" 1596 (.ref 1036), ke P "_is_alike" 1604 (.ref 1043), ke P "getOp" 1611 (.ref 1050), ke P "__static_attributes__" 1612 (.ref 1051), ke P "__doc__" 1613 .none] 2, #[]⟩
noncomputable def ob1053 (P : Params) : Obj := ⟨(.type "type"), none, .cls { name := (S "EqualityExpression"), bases := [(.ref 862)], mro := [(.ref 1053), (.ref 862), (.ref 326), (.ref 170), (.type "object")], ns := 1052, qualname := (S "EqualityExpression"), hasDict := true, slotNames := [], subclasses := [], abstract := false, collection := none, hasDel := false }, #[(some (.ref 1023)), none, (some (.str (S "EqualityExpression") 1577)), (some (.str (S "EqualityExpression") 1585)), (some (.builtin "object.__new__")), (some (.bool true))]⟩
noncomputable def ob1061 (P : Params) : Obj := ⟨(.type "code"), none, .fields #[(.str (S "_is_letter_and_digits") 1616), (.str (S "_is_letter_and_digits") 1617), (.str (S "/claim/cut.py") 1618), (.int 512 0), (.int 2 0), (.int 0 0), (.int 0 0), (.int 3 0), (.ref 1056), (.bool true), (.int 181 0), (.ref 1057), .none, (.ref 1058), (.ref 1059), (.ref 1060), (.int 1622 0), (.int 512 0), (.str (S "/claim/cut.py") 1623)], #[]⟩
noncomputable def ob1062 (P : Params) : Obj := ⟨(.type "function"), none, .func (fnAt (sAt 30) (S "_is_letter_and_digits") .none .none .none (.str (S "nltk.sem.logic") 194) none (.ref 1061) .none), #[]⟩
noncomputable def ob1068 (P : Params) : Obj := ⟨(.type "code"), none, .fields #[(.str (S "is_indvar") 1625), (.str (S "is_indvar") 1626), (.str (S "/claim/cut.py") 1627), (.int 519 0), (.int 1 0), (.int 0 0), (.int 0 0), (.int 3 0), (.ref 1063), (.bool true), (.int 181 0), (.ref 1064), .none, (.ref 1065), (.ref 1066), (.ref 1067), (.int 1629 0), (.int 519 0), (.str (S "/claim/cut.py") 1630)], #[]⟩
noncomputable def ob1069 (P : Params) : Obj := ⟨(.type "function"), none, .func (fnAt (sAt 31) (S "is_indvar") .none .none .none (.str (S "nltk.sem.logic") 194) none (.ref 1068) .none), #[]⟩
noncomputable def ob1075 (P : Params) : Obj := ⟨(.type "code"), none, .fields #[(.str (S "is_funcvar") 1632), (.str (S "is_funcvar") 1633), (.str (S "/claim/cut.py") 1634), (.int 522 0), (.int 1 0), (.int 0 0), (.int 0 0), (.int 3 0), (.ref 1070), (.bool true), (.int 181 0), (.ref 1071), .none, (.ref 1072), (.ref 1073), (.ref 1074), (.int 1636 0), (.int 522 0), (.str (S "/claim/cut.py") 1637)], #[]⟩
noncomputable def ob1076 (P : Params) : Obj := ⟨(.type "function"), none, .func (fnAt (sAt 32) (S "is_funcvar") .none .none .none (.str (S "nltk.sem.logic") 194) none (.ref 1075) .none), #[]⟩
noncomputable def ob1082 (P : Params) : Obj := ⟨(.type "code"), none, .fields #[(.str (S "is_eventvar") 1639), (.str (S "is_eventvar") 1640), (.str (S "/claim/cut.py") 1641), (.int 525 0), (.int 1 0), (.int 0 0), (.int 0 0), (.int 3 0), (.ref 1077), (.bool true), (.int 181 0), (.ref 1078), .none, (.ref 1079), (.ref 1080), (.ref 1081), (.int 1643 0), (.int 525 0), (.str (S "/claim/cut.py") 1644)], #[]⟩
noncomputable def ob1083 (P : Params) : Obj := ⟨(.type "function"), none, .func (fnAt (sAt 33) (S "is_eventvar") .none .none .none (.str (S "nltk.sem.logic") 194) none (.ref 1082) .none), #[]⟩
noncomputable def ob1084 (P : Params) : Obj := ⟨(.type "tuple"), none, .seq #[.none, .none, .none] 0, #[]⟩
noncomputable def ob1090 (P : Params) : Obj := ⟨(.type "code"), none, .fields #[(.str (S "skolemize") 1648), (.str (S "skolemize") 1649), (.str (S "/claim/cut.py") 1650), (.int 529 0), (.int 4 0), (.int 0 0), (.int 0 0), (.int 3 0), (.ref 1085), (.bool true), (.int 181 0), (.ref 1086), .none, (.ref 1087), (.ref 1088), (.ref 1089), (.int 1658 0), (.int 529 0), (.str (S "/claim/cut.py") 1659)], #[]⟩
noncomputable def ob1091 (P : Params) : Obj := ⟨(.type "function"), none, .func (fnAt (sAt 35) (S "skolemize") (.ref 1084) .none .none (.str (S "nltk.sem.skolemize") 1646) none (.ref 1090) .none), #[]⟩
noncomputable def ob1097 (P : Params) : Obj := ⟨(.type "code"), none, .fields #[(.str (S "to_cnf") 1661), (.str (S "to_cnf") 1662), (.str (S "/claim/cut.py") 1663), (.int 588 0), (.int 2 0), (.int 0 0), (.int 0 0), (.int 3 0), (.ref 1092), (.bool true), (.int 181 0), (.ref 1093), .none, (.ref 1094), (.ref 1095), (.ref 1096), (.int 1668 0), (.int 588 0), (.str (S "/claim/cut.py") 1669)], #[]⟩
noncomputable def ob1098 (P : Params) : Obj := ⟨(.type "function"), none, .func (fnAt (sAt 36) (S "to_cnf") .none .none .none (.str (S "nltk.sem.skolemize") 1646) none (.ref 1097) .none), #[]⟩
noncomputable def ob1107 (P : Params) : Obj := ⟨(.type "dict"), none, .dict #[ke P "__module__" 1680 (.str (S "nltk.inference.resolution") 1671), ke P "__firstlineno__" 1684 (.int 600 1683), ke P "__static_attributes__" 1685 (.ref 1106), ke P "__weakref__" 1687 (.ref 1109), ke P "__doc__" 1688 .none] 3, #[]⟩
noncomputable def ob1108 (P : Params) : Obj := ⟨(.type "type"), none, .cls { name := (S "ProverParseError"), bases := [(.type "Exception")], mro := [(.ref 1108), (.type "Exception"), (.type "BaseException"), (.type "object")], ns := 1107, qualname := (S "ProverParseError"), hasDict := true, slotNames := [], subclasses := [], abstract := false, collection := none, hasDel := false }, #[(some (.ref 1099)), none, (some (.str (S "ProverParseError") 1673)), (some (.str (S "ProverParseError") 1681)), (some (.builtin "Exception.__new__")), (some (.bool true))]⟩
noncomputable def ob1124 (P : Params) : Obj := ⟨(.type "code"), none, .fields #[(.str (S "__init__") 1705), (.str (S "Clause.__init__") 1706), (.str (S "/claim/cut.py") 1707), (.int 604 0), (.int 2 0), (.int 0 0), (.int 0 0), (.int 3 0), (.ref 1119), (.bool true), (.int 181 0), (.ref 1120), .none, (.ref 1121), (.ref 1122), (.ref 1123), (.int 1710 0), (.int 604 0), (.str (S "/claim/cut.py") 1711)], #[]⟩
noncomputable def ob1125 (P : Params) : Obj := ⟨(.type "function"), none, .func (fnAt (mAt 39 0) (S "Clause.__init__") .none .none .none (.str (S "nltk.inference.resolution") 1671) none (.ref 1124) .none), #[]⟩
noncomputable def ob1131 (P : Params) : Obj := ⟨(.type "code"), none, .fields #[(.str (S "__len__") 1713), (.str (S "Clause.__len__") 1714), (.str (S "/claim/cut.py") 1715), (.int 609 0), (.int 1 0), (.int 0 0), (.int 0 0), (.int 3 0), (.ref 1126), (.bool true), (.int 181 0), (.ref 1127), .none, (.ref 1128), (.ref 1129), (.ref 1130), (.int 1717 0), (.int 609 0), (.str (S "/claim/cut.py") 1718)], #[]⟩
noncomputable def ob1132 (P : Params) : Obj := ⟨(.type "function"), none, .func (fnAt (mAt 39 1) (S "Clause.__len__") .none .none .none (.str (S "nltk.inference.resolution") 1671) none (.ref 1131) .none), #[]⟩
noncomputable def ob1138 (P : Params) : Obj := ⟨(.type "code"), none, .fields #[(.str (S "__getitem__") 1720), (.str (S "Clause.__getitem__") 1721), (.str (S "/claim/cut.py") 1722), (.int 612 0), (.int 2 0), (.int 0 0), (.int 0 0), (.int 3 0), (.ref 1133), (.bool true), (.int 181 0), (.ref 1134), .none, (.ref 1135), (.ref 1136), (.ref 1137), (.int 1725 0), (.int 612 0), (.str (S "/claim/cut.py") 1726)], #[]⟩
noncomputable def ob1139 (P : Params) : Obj := ⟨(.type "function"), none, .func (fnAt (mAt 39 2) (S "Clause.__getitem__") .none .none .none (.str (S "nltk.inference.resolution") 1671) none (.ref 1138) .none), #[]⟩
noncomputable def ob1172 (P : Params) : Obj := ⟨(.type "code"), none, .fields #[(.str (S "free") 1763), (.str (S "Clause.free") 1764), (.str (S "/claim/cut.py") 1765), (.int 627 0), (.int 1 0), (.int 0 0), (.int 0 0), (.int 3 0), (.ref 1169), (.bool true), (.int 181 0), (.ref 1170), .none, .none, .none, (.ref 1171), (.int 1766 0), (.int 627 0), (.str (S "/claim/cut.py") 1767)], #[]⟩
noncomputable def ob1173 (P : Params) : Obj := ⟨(.type "function"), none, .func (fnAt (mAt 39 7) (S "Clause.free") .none .none .none (.str (S "nltk.inference.resolution") 1671) none (.ref 1172) .none), #[]⟩
noncomputable def ob1177 (P : Params) : Obj := ⟨(.type "code"), none, .fields #[(.str (S "replace") 1769), (.str (S "Clause.replace") 1770), (.str (S "/claim/cut.py") 1771), (.int 630 0), (.int 3 0), (.int 0 0), (.int 0 0), (.int 3 0), (.ref 1174), (.bool true), (.int 181 0), (.ref 1175), .none, .none, .none, (.ref 1176), (.int 1772 0), (.int 630 0), (.str (S "/claim/cut.py") 1773)], #[]⟩
noncomputable def ob1178 (P : Params) : Obj := ⟨(.type "function"), none, .func (fnAt (mAt 39 8) (S "Clause.replace") .none .none .none (.str (S "nltk.inference.resolution") 1671) none (.ref 1177) .none), #[]⟩
noncomputable def ob1187 (P : Params) : Obj := ⟨(.type "dict"), none, .dict #[ke P "__module__" 1700 (.str (S "nltk.inference.resolution") 1671), ke P "__firstlineno__" 1704 (.int 602 1703), ke P "__init__" 1712 (.ref 1125), ke P "__len__" 1719 (.ref 1132), ke P "__getitem__" 1727 (.ref 1139), ke P "unify" 1739 (.ref 1147), ke P "isSubsetOf" 1747 (.ref 1154), ke P "subsumes" 1755 (.ref 1161), ke P "is_tautology" 1762 (.ref 1168), ke P "free" 1768 (.ref 1173), ke P "replace" 1774 (.ref 1178), ke P "substitute_bindings" 1782 (.ref 1185), ke P "__static_attributes__" 1786 (.ref 1186), ke P "__dict__" 1788 (.ref 1189), ke P "__weakref__" 1790 (.ref 1190), ke P "__doc__" 1791 .none] 4, #[]⟩
noncomputable def ob1188 (P : Params) : Obj := ⟨(.type "type"), none, .cls { name := (S "Clause"), bases := [(.type "object")], mro := [(.ref 1188), (.type "object")], ns := 1187, qualname := (S "Clause"), hasDict := true, slotNames := [], subclasses := [], abstract := false, collection := none, hasDel := false }, #[none, none, (some (.str (S "Clause") 1693)), (some (.str (S "Clause") 1701)), (some (.builtin "object.__new__")), (some (.bool true))]⟩
noncomputable def ob1193 (P : Params) : Obj := ⟨(.type "tuple"), none, .seq #[.none] 0, #[]⟩
noncomputable def ob1199 (P : Params) : Obj := ⟨(.type "code"), none, .fields #[(.str (S "clausify") 1794), (.str (S "clausify") 1795), (.str (S "/claim/cut.py") 1796), (.int 635 0), (.int 2 0), (.int 0 0), (.int 0 0), (.int 3 0), (.ref 1194), (.bool true), (.int 181 0), (.ref 1195), .none, (.ref 1196), (.ref 1197), (.ref 1198), (.int 1803 0), (.int 635 0), (.str (S "/claim/cut.py") 1804)], #[]⟩
noncomputable def ob1200 (P : Params) : Obj := ⟨(.type "function"), none, .func (fnAt (sAt 40) (S "clausify") (.ref 1193) .none .none (.str (S "nltk.inference.resolution") 1671) none (.ref 1199) .none), #[]⟩
noncomputable def ob1206 (P : Params) : Obj := ⟨(.type "code"), none, .fields #[(.str (S "_clausify") 1806), (.str (S "_clausify") 1807), (.str (S "/claim/cut.py") 1808), (.int 646 0), (.int 1 0), (.int 0 0), (.int 0 0), (.int 3 0), (.ref 1201), (.bool true), (.int 181 0), (.ref 1202), .none, (.ref 1203), (.ref 1204), (.ref 1205), (.int 1812 0), (.int 646 0), (.str (S "/claim/cut.py") 1813)], #[]⟩
noncomputable def ob1207 (P : Params) : Obj := ⟨(.type "function"), none, .func (fnAt (sAt 41) (S "_clausify") .none .none .none (.str (S "nltk.inference.resolution") 1671) none (.ref 1206) .none), #[]⟩
noncomputable def ob1213 (P : Params) : Obj := ⟨(.type "code"), none, .fields #[(.str (S "_law_box") 1817), (.str (S "_law_box") 1818), (.str (S "/claim/cut.py") 1819), (.int 666 0), (.int 2 0), (.int 0 0), (.int 0 0), (.int 3 0), (.ref 1208), (.bool true), (.int 181 0), (.ref 1209), .none, (.ref 1210), (.ref 1211), (.ref 1212), (.int 1823 0), (.int 666 0), (.str (S "/claim/cut.py") 1824)], #[]⟩
noncomputable def ob1214 (P : Params) : Obj := ⟨(.type "function"), none, .func (fnAt (sAt 43) (S "_law_box") .none .none .none (.str (S "law_ao0015_01") 1815) none (.ref 1213) .none), #[]⟩
noncomputable def ob1220 (P : Params) : Obj := ⟨(.type "code"), none, .fields #[(.str (S "_law_take") 1826), (.str (S "_law_take") 1827), (.str (S "/claim/cut.py") 1828), (.int 671 0), (.int 2 0), (.int 0 0), (.int 0 0), (.int 3 0), (.ref 1215), (.bool true), (.int 181 0), (.ref 1216), .none, (.ref 1217), (.ref 1218), (.ref 1219), (.int 1832 0), (.int 671 0), (.str (S "/claim/cut.py") 1833)], #[]⟩
noncomputable def ob1221 (P : Params) : Obj := ⟨(.type "function"), none, .func (fnAt (sAt 44) (S "_law_take") .none .none .none (.str (S "law_ao0015_01") 1815) none (.ref 1220) .none), #[]⟩
noncomputable def ob1227 (P : Params) : Obj := ⟨(.type "code"), none, .fields #[(.str (S "_law_tree") 1835), (.str (S "_law_tree") 1836), (.str (S "/claim/cut.py") 1837), (.int 675 0), (.int 2 0), (.int 0 0), (.int 0 0), (.int 3 0), (.ref 1222), (.bool true), (.int 181 0), (.ref 1223), .none, (.ref 1224), (.ref 1225), (.ref 1226), (.int 1843 0), (.int 675 0), (.str (S "/claim/cut.py") 1844)], #[]⟩
noncomputable def ob1228 (P : Params) : Obj := ⟨(.type "function"), none, .func (fnAt (sAt 45) (S "_law_tree") .none .none .none (.str (S "law_ao0015_01") 1815) none (.ref 1227) .none), #[]⟩
noncomputable def ob1234 (P : Params) : Obj := ⟨(.type "code"), none, .fields #[(.str (S "_law_formula") 1846), (.str (S "_law_formula") 1847), (.str (S "/claim/cut.py") 1848), (.int 684 0), (.int 2 0), (.int 0 0), (.int 0 0), (.int 3 0), (.ref 1229), (.bool true), (.int 181 0), (.ref 1230), .none, (.ref 1231), (.ref 1232), (.ref 1233), (.int 1853 0), (.int 684 0), (.str (S "/claim/cut.py") 1854)], #[]⟩
noncomputable def ob1235 (P : Params) : Obj := ⟨(.type "function"), none, .func (fnAt (sAt 46) (S "_law_formula") .none .none .none (.str (S "law_ao0015_01") 1815) none (.ref 1234) .none), #[]⟩
noncomputable def ob1241 (P : Params) : Obj := ⟨(.type "code"), none, .fields #[(.str (S "_law_true") 1856), (.str (S "_law_true") 1857), (.str (S "/claim/cut.py") 1858), (.int 697 0), (.int 2 0), (.int 0 0), (.int 0 0), (.int 3 0), (.ref 1236), (.bool true), (.int 181 0), (.ref 1237), .none, (.ref 1238), (.ref 1239), (.ref 1240), (.int 1863 0), (.int 697 0), (.str (S "/claim/cut.py") 1864)], #[]⟩
noncomputable def ob1242 (P : Params) : Obj := ⟨(.type "function"), none, .func (fnAt (sAt 47) (S "_law_true") .none .none .none (.str (S "law_ao0015_01") 1815) none (.ref 1241) .none), #[]⟩
noncomputable def ob1248 (P : Params) : Obj := ⟨(.type "code"), none, .fields #[(.str (S "_law_atom") 1866), (.str (S "_law_atom") 1867), (.str (S "/claim/cut.py") 1868), (.int 711 0), (.int 2 0), (.int 0 0), (.int 0 0), (.int 3 0), (.ref 1243), (.bool true), (.int 181 0), (.ref 1244), .none, (.ref 1245), (.ref 1246), (.ref 1247), (.int 1871 0), (.int 711 0), (.str (S "/claim/cut.py") 1872)], #[]⟩
noncomputable def ob1249 (P : Params) : Obj := ⟨(.type "function"), none, .func (fnAt (sAt 48) (S "_law_atom") .none .none .none (.str (S "law_ao0015_01") 1815) none (.ref 1248) .none), #[]⟩
noncomputable def ob1255 (P : Params) : Obj := ⟨(.type "code"), none, .fields #[(.str (S "_law_parts") 1874), (.str (S "_law_parts") 1875), (.str (S "/claim/cut.py") 1876), (.int 713 0), (.int 1 0), (.int 0 0), (.int 0 0), (.int 3 0), (.ref 1250), (.bool true), (.int 181 0), (.ref 1251), .none, (.ref 1252), (.ref 1253), (.ref 1254), (.int 1882 0), (.int 713 0), (.str (S "/claim/cut.py") 1883)], #[]⟩
noncomputable def ob1256 (P : Params) : Obj := ⟨(.type "function"), none, .func (fnAt (sAt 49) (S "_law_parts") .none .none .none (.str (S "law_ao0015_01") 1815) none (.ref 1255) .none), #[]⟩
noncomputable def ob1260 (P : Params) : Obj := ⟨(.type "code"), none, .fields #[(.str (S "_law_clause") 1885), (.str (S "_law_clause") 1886), (.str (S "/claim/cut.py") 1887), (.int 722 0), (.int 3 0), (.int 0 0), (.int 0 0), (.int 3 0), (.ref 1257), (.bool true), (.int 181 0), (.ref 1258), .none, .none, .none, (.ref 1259), (.int 1888 0), (.int 722 0), (.str (S "/claim/cut.py") 1889)], #[]⟩
noncomputable def ob1261 (P : Params) : Obj := ⟨(.type "function"), none, .func (fnAt (sAt 50) (S "_law_clause") .none .none .none (.str (S "law_ao0015_01") 1815) none (.ref 1260) .none), #[]⟩
noncomputable def ob1265 (P : Params) : Obj := ⟨(.type "code"), none, .fields #[(.str (S "law") 1891), (.str (S "law") 1892), (.str (S "/claim/cut.py") 1893), (.int 732 0), (.int 1 0), (.int 0 0), (.int 0 0), (.int 3 0), (.ref 1262), (.bool true), (.int 181 0), (.ref 1263), .none, .none, .none, (.ref 1264), (.int 1894 0), (.int 732 0), (.str (S "/claim/cut.py") 1895)], #[]⟩
noncomputable def ob1266 (P : Params) : Obj := ⟨(.type "function"), none, .func (fnAt (sAt 51) (S "law") .none .none .none (.str (S "law_ao0015_01") 1815) none (.ref 1265) .none), #[]⟩
noncomputable def K (P : Params) : Frag := [(2, ob2 P), (3, ob3 P), (29, ob29 P), (35, ob35 P), (36, ob36 P), (42, ob42 P), (43, ob43 P), (45, ob45 P), (46, ob46 P), (56, ob56 P), (57, ob57 P), (83, ob83 P), (84, ob84 P), (101, ob101 P), (102, ob102 P), (108, ob108 P), (109, ob109 P), (125, ob125 P), (126, ob126 P), (131, ob131 P), (137, ob137 P), (138, ob138 P), (169, ob169 P), (170, ob170 P), (211, ob211 P), (212, ob212 P), (225, ob225 P), (226, ob226 P), (232, ob232 P), (233, ob233 P), (262, ob262 P), (268, ob268 P), (269, ob269 P), (282, ob282 P), (283, ob283 P), (294, ob294 P), (295, ob295 P), (301, ob301 P), (302, ob302 P), (325, ob325 P), (326, ob326 P), (341, ob341 P), (342, ob342 P), (355, ob355 P), (356, ob356 P), (362, ob362 P), (363, ob363 P), (376, ob376 P), (377, ob377 P), (423, ob423 P), (424, ob424 P), (439, ob439 P), (440, ob440 P), (448, ob448 P), (454, ob454 P), (455, ob455 P), (485, ob485 P), (486, ob486 P), (501, ob501 P), (502, ob502 P), (508, ob508 P), (509, ob509 P), (511, ob511 P), (512, ob512 P), (537, ob537 P), (538, ob538 P), (549, ob549 P), (550, ob550 P), (565, ob565 P), (566, ob566 P), (572, ob572 P), (573, ob573 P), (575, ob575 P), (576, ob576 P), (584, ob584 P), (585, ob585 P), (598, ob598 P), (599, ob599 P), (642, ob642 P), (643, ob643 P), (675, ob675 P), (676, ob676 P), (694, ob694 P), (695, ob695 P), (727, ob727 P), (728, ob728 P), (760, ob760 P), (761, ob761 P), (776, ob776 P), (777, ob777 P), (783, ob783 P), (784, ob784 P), (790, ob790 P), (791, ob791 P), (814, ob814 P), (815, ob815 P), (830, ob830 P), (831, ob831 P), (837, ob837 P), (838, ob838 P), (861, ob861 P), (862, ob862 P), (873, ob873 P), (874, ob874 P), (889, ob889 P), (890, ob890 P), (913, ob913 P), (914, ob914 P), (929, ob929 P), (930, ob930 P), (953, ob953 P), (954, ob954 P), (969, ob969 P), (970, ob970 P), (986, ob986 P), (987, ob987 P), (1002, ob1002 P), (1003, ob1003 P), (1019, ob1019 P), (1020, ob1020 P), (1052, ob1052 P), (1053, ob1053 P), (1061, ob1061 P), (1062, ob1062 P), (1068, ob1068 P), (1069, ob1069 P), (1075, ob1075 P), (1076, ob1076 P), (1082, ob1082 P), (1083, ob1083 P), (1084, ob1084 P), (1090, ob1090 P), (1091, ob1091 P), (1097, ob1097 P), (1098, ob1098 P), (1107, ob1107 P), (1108, ob1108 P), (1124, ob1124 P), (1125, ob1125 P), (1131, ob1131 P), (1132, ob1132 P), (1138, ob1138 P), (1139, ob1139 P), (1172, ob1172 P), (1173, ob1173 P), (1177, ob1177 P), (1178, ob1178 P), (1187, ob1187 P), (1188, ob1188 P), (1193, ob1193 P), (1199, ob1199 P), (1200, ob1200 P), (1206, ob1206 P), (1207, ob1207 P), (1213, ob1213 P), (1214, ob1214 P), (1220, ob1220 P), (1221, ob1221 P), (1227, ob1227 P), (1228, ob1228 P), (1234, ob1234 P), (1235, ob1235 P), (1241, ob1241 P), (1242, ob1242 P), (1248, ob1248 P), (1249, ob1249 P), (1255, ob1255 P), (1256, ob1256 P), (1260, ob1260 P), (1261, ob1261 P), (1265, ob1265 P), (1266, ob1266 P)]
noncomputable def kAs : List Addr := [2, 3, 29, 35, 36, 42, 43, 45, 46, 56, 57, 83, 84, 101, 102, 108, 109, 125, 126, 131, 137, 138, 169, 170, 211, 212, 225, 226, 232, 233, 262, 268, 269, 282, 283, 294, 295, 301, 302, 325, 326, 341, 342, 355, 356, 362, 363, 376, 377, 423, 424, 439, 440, 448, 454, 455, 485, 486, 501, 502, 508, 509, 511, 512, 537, 538, 549, 550, 565, 566, 572, 573, 575, 576, 584, 585, 598, 599, 642, 643, 675, 676, 694, 695, 727, 728, 760, 761, 776, 777, 783, 784, 790, 791, 814, 815, 830, 831, 837, 838, 861, 862, 873, 874, 889, 890, 913, 914, 929, 930, 953, 954, 969, 970, 986, 987, 1002, 1003, 1019, 1020, 1052, 1053, 1061, 1062, 1068, 1069, 1075, 1076, 1082, 1083, 1084, 1090, 1091, 1097, 1098, 1107, 1108, 1124, 1125, 1131, 1132, 1138, 1139, 1172, 1173, 1177, 1178, 1187, 1188, 1193, 1199, 1200, 1206, 1207, 1213, 1214, 1220, 1221, 1227, 1228, 1234, 1235, 1241, 1242, 1248, 1249, 1255, 1256, 1260, 1261, 1265, 1266]
end Mine
end

section
open PySem PySem.W PySem.Calls PyProof.Rows
set_option Elab.async false
set_option maxRecDepth 100000
namespace Mine

noncomputable def topRunT (tb : String → Option Builtin) (p : Program) (w : World) (n₀ : Nat) (ann : Option Value) : Nat → SharedT → Thread → Option SharedT
  | 0, _, _ => none
  | n + 1, s, t => match through t with
    | true => some s
    | false => match stepOk n₀ ann t with
      | false => none
      | true => match stepT (denote tb) p w s t with
        | some r => topRunT tb p w n₀ ann n r.1 r.2
        | none => none

theorem topRun_ofT {tb : String → Option Builtin} {p : Program} {w : World} {n₀ : Nat} {ann : Option Value} : ∀ {n : Nat} {s s' : SharedT} {t : Thread},
    topRunT tb p w n₀ ann n s t = some s' → topRun tb p w n₀ ann n s.abs t = some s'.abs
  | 0, _, _, _, h => by cases h
  | n + 1, s, s', t, h => by
    unfold topRunT at h
    unfold topRun
    cases ht : through t with
    | true => rw [ht] at h; cases h; rfl
    | false =>
      rw [ht] at h
      cases hk : stepOk n₀ ann t with
      | false => rw [hk] at h; cases h
      | true =>
        rw [hk] at h
        cases hs : stepT (denote tb) p w s t with
        | none => rw [hs] at h; cases h
        | some r => obtain ⟨s₂, t₂⟩ := r; rw [hs] at h; rw [stepT_spec hs]; exact topRun_ofT h

/-- reading an address off a tree state -/
noncomputable def getT (s : SharedT) (a : Addr) : Option Obj := match Nat.blt a s.n with
  | true => match s.tree.get a with
    | some o => alive o
    | none => none
  | false => none

theorem getT_eq {s : SharedT} {a : Addr} {o : Obj} (h : getT s a = some o) : s.abs.heap.get? a = some o := by
  unfold getT at h
  cases e : Nat.blt a s.n with
  | false => rw [e] at h; cases h
  | true =>
    rw [e] at h
    have lt : a < s.n := Nat.le_of_ble_eq_true e
    cases g : s.tree.get a with
    | none => rw [g] at h; cases h
    | some x =>
      rw [g] at h
      show (absHeap s.tree s.n s.life).get? a = _
      rw [abs_get lt g]; exact h

theorem map_getT {s : SharedT} : ∀ {as : List Addr} {os : List Obj}, as.map (getT s) = os.map some → as.map s.abs.heap.get? = os.map some
  | [], [], _ => rfl
  | [], _ :: _, h => by cases h
  | _ :: _, [], h => by cases h
  | a :: as, o :: os, h => by
    rw [List.map_cons, List.map_cons, List.cons.injEq] at h
    rw [List.map_cons, List.map_cons, getT_eq h.1, map_getT h.2]

theorem left_own {p q : Program} {loose : List Str} {Xt : Shared → Bool} {α : Type} {Yf : Shared → α} {Ya : World → α} {N : Nat} {g0 : Bool} {H₀ : Params → Heap} {gs₀ : Array GenState} {d₀ : Drawn} {k₀ : Nat} {m₀ : Nat} {ann : Option Value}
    (open_ : ∀ w : World, (fencedOpening treeTable p w N).map (fun s => (s.heap, s.gens, s.drawn, s.toks)) = some (H₀ w.params, gs₀, d₀, k₀))
    (size : ∀ w : World, ((H₀ w.params).isNs mainGlobals && gs₀.size == 0, (H₀ w.params).objs.size, (H₀ w.params).nsMap mainGlobals "__annotations__") = (true, m₀, ann))
    (run : ∀ (w : World) (os : OsState), ∃ s : Shared, topRun treeTable p w m₀ ann N ⟨H₀ w.params, gs₀, d₀, k₀, os⟩ (topStub p) = some s ∧
      (staticsOk (importedModules p.main.body) (H₀ w.params) s.heap && namesBound p s.heap && gensDone s && laidKept (H₀ w.params) s.heap) = true ∧
      openSeen q loose (importedModules p.main.body) Xt g0 s = openGood q loose ∧ Yf s = Ya w) : LeftO p q loose Xt Yf Ya N g0 := fun w => by
  obtain ⟨⟨h, gs, d, k, os⟩, e, e'⟩ := Option.map_eq_some_iff.mp (open_ w)
  obtain ⟨rfl, rfl, rfl, rfl⟩ : h = H₀ w.params ∧ gs = gs₀ ∧ d = d₀ ∧ k = k₀ := by simpa using e'
  obtain ⟨z1, z2, z3⟩ : _ ∧ _ ∧ _ := by simpa only [Prod.mk.injEq] using size w
  obtain ⟨s, r, l1, l2, l3⟩ := run w os
  have t : topFrom treeTable p w N ⟨H₀ w.params, gs, d, k, os⟩ = some s := by
    unfold topFrom
    dsimp only
    rw [z1, z2, z3, r]
    show (match staticsOk (importedModules p.main.body) (H₀ w.params) s.heap && namesBound p s.heap && gensDone s && laidKept (H₀ w.params) s.heap with | true => _ | false => _) = _
    rw [l1]
  unfold openEnds
  rw [e]
  show (topFrom treeTable p w N _).map _ = _
  rw [t]
  exact congrArg some (Prod.ext l2 l3)

noncomputable def vw : Program := { PW with main := { PW.main with body := PW.main.body.drop 51 } }
noncomputable def loose : List Str := PW.boundNames.filter fun n => !(n == ("law" : Str))
noncomputable def Xt (s : Shared) : Bool := xlAt vw [] s && recOk [] s

noncomputable def bootTree (P : Params) : BT := .node (boot_o_0 P)
  (.node (boot_o_1 P) (.node (boot_o_3 P) (.node (boot_o_7 P) .nil .nil) .nil) (.node (boot_o_5 P) (.node (boot_o_9 P) .nil .nil) .nil))
  (.node (boot_o_2 P) (.node (boot_o_4 P) (.node (boot_o_8 P) .nil .nil) .nil) (.node (boot_o_6 P) (.node (boot_o_10 P) .nil .nil) .nil))
theorem bootTree_eq (P : Params) : absHeap (bootTree P) 11 {} = boot_heap P := by kernel_rfl

noncomputable def S0 (P : Params) (os : OsState) : SharedT := ⟨bootTree P, 11, {}, Array.mk [], boot_drawn, boot_toks, os⟩


open PySem.W.Fast in
noncomputable def topRunF (p : Program) (w : World) (n₀ : Nat) (ann : Option Value) : Nat → SharedT → Thread → Option SharedT
  | 0, _, _ => none
  | n + 1, s, t => match through t with
    | true => some s
    | false => match tw6613529449190102663 n₀ ann t with
      | false => none
      | true => match tw10156331382660048174 (tw11892475500146522536 tw14364793385576792824) p w s t with
        | some r => topRunF p w n₀ ann n r.1 r.2
        | none => none
open PySem.W.Fast in
theorem topRunF_eq {p : Program} {w : World} {n₀ : Nat} {ann : Option Value} : ∀ (n : Nat) (s : SharedT) (t : Thread), topRunF p w n₀ ann n s t = topRunT treeTable p w n₀ ann n s t
  | 0, _, _ => rfl
  | n + 1, s, t => by
    unfold topRunF topRunT
    rw [← te6613529449190102663, ← te10156331382660048174, ← te11892475500146522536, ← te14364793385576792824]
    cases through t with
    | true => rfl
    | false =>
      dsimp only
      cases stepOk n₀ ann t with
      | false => rfl
      | true =>
        dsimp only
        cases stepT (denote treeTable) p w s t with
        | none => rfl
        | some r => exact topRunF_eq n r.1 r.2
noncomputable def SeenT : Type := type_of% (openGood vw loose)
noncomputable def seenD (s : Shared) : SeenT := openSeen vw loose (importedModules PW.main.body) Xt true s
noncomputable def seenF (s : Shared) : SeenT := PySem.W.Fast.tw4187177175401517315 vw loose (importedModules PW.main.body) Xt true s
theorem seenF_eq (s : Shared) : seenF s = seenD s := by unfold seenF seenD; rw [← PySem.W.Fast.te4187177175401517315]
noncomputable def due : SeenT := openGood vw loose
noncomputable def sound (P : Params) (s : Shared) : Bool := staticsOk (importedModules PW.main.body) (boot_heap P) s.heap && namesBound PW s.heap && gensDone s && laidKept (boot_heap P) s.heap
noncomputable def ts : List Addr := [304, 297, 290, 278, 264]
noncomputable def big (w : World) (os : OsState) : Option (Bool × SeenT × List (Option Obj) × List (Option Obj)) :=
  (topRunF PW w 11 (some (.ref 6)) 11000 (S0 w.params os) (topStub PW)).map fun s => (sound w.params s.abs, seenF s.abs, kAs.map (getT s), ts.map (getT s))
set_option maxHeartbeats 0
theorem big_is (w : World) (os : OsState) : big w os = some (true, due, ((K w.params).map (·.2)).map some, (ts.map fun _ => tabObj #[]).map some) := by kernel_rfl
theorem keys_is (P : Params) : kAs = (K P).map (·.1) := by kernel_rfl
noncomputable abbrev hook : Hook := kmHook K kAs keys_is ts

theorem left : LeftO PW vw loose Xt hook.obs hook.val 11000 := by
  refine left_own (H₀ := boot_heap) (gs₀ := Array.mk []) (d₀ := boot_drawn) (k₀ := boot_toks) (m₀ := 11) (ann := some (.ref 6)) ?_ ?_ ?_
  · exact boot_open (by kernel_rfl) (by decide) (fun s => by kernel_rfl)
  · intro w; kernel_rfl
  · intro w os
    have h := big_is w os
    obtain ⟨s, e, h⟩ := Option.map_eq_some_iff.mp h
    rw [topRunF_eq] at e
    obtain ⟨h1, h2, h3, h4⟩ : _ ∧ _ ∧ _ ∧ _ := by simpa only [Prod.mk.injEq] using h
    rw [seenF_eq] at h2
    refine ⟨s.abs, ?_, h1, h2, ?_⟩
    · have := topRun_ofT e
      have b : (S0 w.params os).abs = ⟨boot_heap w.params, Array.mk [], boot_drawn, boot_toks, os⟩ := by
        show Shared.mk (absHeap (bootTree w.params) 11 {}) _ _ _ _ = _
        rw [bootTree_eq]; rfl
      rw [b] at this
      exact this
    · show (_, _) = (_, _)
      rw [map_getT h3, map_getT h4]
      rw [List.map_map, List.map_map]; rfl
end Mine
end

section
open PySem PySem.W PySem.Calls PyProof.Rows
set_option Elab.async false
set_option maxRecDepth 100000
set_option maxHeartbeats 0
namespace Mine
theorem said : OpenLaw.wellSaid PySem.Challenge.rw_ao0015_01 = true := by
  rw [PySem.W.Fast.te9446332074065402090]
  kernel_rfl
theorem whole : PW.tablesWhole = true := by kernel_rfl

abbrev row : OpenRow := OpenLaw.row PySem.Challenge.rw_ao0015_01
theorem lawDef : ∃ d, defOf vw row.name = some (d, []) ∧ row.prog.theDef row.name = some (d.params, d.body, d.scope) ∧ kwWritten? d.params.kwonlyargs d.params.kw_defaults = some [] := ⟨_, rfl, rfl, rfl⟩
end Mine
end

section
open PySem PySem.W PySem.Calls PyProof.Rows
set_option Elab.async false
set_option maxRecDepth 100000
set_option maxHeartbeats 0
namespace Mine
theorem hd (d : DefRec) (h1 : defOf vw row.name = some (d, [])) (h2 : row.prog.theDef row.name = some (d.params, d.body, d.scope)) (h3 : kwWritten? d.params.kwonlyargs d.params.kw_defaults = some [])
    (call : WalkO vw loose (XL vw []) hook.says row.toRowW d [] fun f vs => PySem.call f vs) : PySem.Challenge.rw_ao0015_01.Holds := by
  refine holds_law said fun s1 => ?_
  refine holds_open (r := row) (q := vw) (loose := loose) (Xt := Xt) (XP := XL vw []) (Yf := hook.obs) (Ya := hook.val) (YP := hook.says) (N := 11000) left hook.of hook.keeps
    (fun s e => xl_of s (Bool.and_eq_true_iff.mp e).1) XL.keeps h1 h2 h3 (fun s e => recFacts_of (R := []) (Bool.and_eq_true_iff.mp e).2) rfl s1 (by decide +kernel) ⟨rfl, rfl, rfl, rfl, rfl, whole⟩ ?_ call
  w_witness2
end Mine
end

section
open PySem PySem.W PySem.Spec PySem.Calls PyProof.Rows
set_option Elab.async false
set_option maxRecDepth 100000
namespace Mine
noncomputable abbrev Ent := Addr × Obj
noncomputable abbrev Md (w : World) : Model := model PW w
noncomputable def tabs : List (Addr × Addr) := [(301, 297), (294, 290), (282, 278), (268, 264)]

/-- a frame's names, one put -/
noncomputable abbrev upd (m : Str → Option Value) (x : Str) (v : Value) : Str → Option Value := fun y => if y = x then some v else m y
/-- what a call's end must be -/
noncomputable abbrev CallQ (Q : Value → Shared → Prop) (E : Value → Shared → Prop) : Result → Shared → Prop := fun r s' => match r with | .ok (.ret v) => Q v s' | .ok _ => False | .error e => E e s'
noncomputable abbrev FunQ (R : Result → Shared → Prop) : Flow → Shared → Prop := fun fl s' => R (.ok (.ret (match fl with | .ret v => v | _ => .none))) s'
theorem wpA_call {w : World} {A : Around} {s : Shared} {E : Value → Shared → Prop} {f : Value} {pos : List Value} {kw : List (Str × Value)} {Q : Value → Shared → Prop} (hc : codeAny (Md w) A (.call f ⟨pos, kw⟩) (CallQ Q E) s) : wpAny (Md w) A (call f pos kw) Q E s := wpAny_call hc

structure Glob (w : World) (H : Heap) : Prop where
  X : (K w.params).In H
  T : ∃ p loose mean mg mb, Top p loose mean mg mb H
  C : ∀ q ∈ tabs, CodeHd H q.1 q.2

/-- the lambdas' names, by the table -/
noncomputable def qualOf (P : Addr) : Str := if P = 297 then "Expression.constants.<locals>.<lambda>" else if P = 290 then "Expression.free.<locals>.<lambda>" else if P = 278 then "Expression.visit_structured.<locals>.<lambda>" else if P = 264 then "Expression.replace.<locals>.<lambda>" else "Expression.predicates.<locals>.<lambda>"
noncomputable def LamOk (nw : List Ent) (P : Addr) (ps : Array Value) : Prop := ∀ pos cv, codeAmong pos ps.toList = some cv → ∃ c' oc vs t, cv = .ref c' ∧ (c', oc) ∈ nw ∧ oc.data = .fields vs ∧ vs[1]? = some (.str (qualOf P) t)
theorem LamOk.mono {nw nw' : List Ent} {P : Addr} {ps : Array Value} (x : LamOk nw P ps) (h : ∀ p ∈ nw, p ∈ nw') : LamOk nw' P ps := fun pos cv e => let ⟨c', oc, vs, t, a, b, c⟩ := x pos cv e; ⟨c', oc, vs, t, a, h _ b, c⟩
/-- the code tables -/
noncomputable def TabsOk (nw : List Ent) (h : Heap) : Prop := ∀ q ∈ tabs, ∃ ps, h.get? q.2 = some (tabObj ps) ∧ TriplesOk ps.toList ∧ LamOk nw q.2 ps
theorem TabsOk.mono {nw nw' : List Ent} {h h' : Heap} (x : TabsOk nw h) (hk : ∀ q ∈ tabs, ∀ o, h.get? q.2 = some o → h'.get? q.2 = some o) (hn : ∀ p ∈ nw, p ∈ nw') : TabsOk nw' h' := fun q hq =>
  let ⟨ps, a, b, c⟩ := x q hq; ⟨ps, hk q hq _ a, b, c.mono hn⟩

/-- what is known in a frame: H the heap under the law's call (the code tables laid aside), mu the objects that may be turned, nw the objects that stay -/
structure Sit (w : World) (z : Shared) (H : Heap) (mu nw : List Ent) (L : Addr) (m : Str → Option Value) (s : Shared) : Prop where
  gl : Glob w H
  F : Fr H L s.heap m
  N : News H L s.heap (mu ++ nw)
  nd : ∀ p ∈ mu, ∀ q ∈ nw, p.1 ≠ q.1
  mm : mu.Pairwise fun a b => a.1 ≠ b.1
  rest : s.gens = z.gens ∧ s.os = z.os
  tb : TabsOk nw s.heap
  tn : ∀ q ∈ tabs, H.get? q.2 = none ∧ q.2 ≠ L ∧ ∀ p ∈ mu ++ nw, p.1 ≠ q.2

noncomputable def Room (A : Around) (d : Nat) : Prop := A.depth + d ≤ 800 ∧ A.units + 8 * d ≤ 9000 ∧ A.handled = none
theorem Room.le {A : Around} {d d' : Nat} (r : Room A d) (h : d' ≤ d) : Room A d' := ⟨by have := r.1; omega, by have := r.2.1; omega, r.2.2⟩
theorem Room.down {A : Around} {d : Nat} {env : Env} (r : Room A (d + 1)) : Room (A.deeper env) d := ⟨by have := r.1; simp only [Around.deeper]; omega, by have := r.2.1; simp only [Around.deeper]; omega, r.2.2⟩
theorem Room.in1 {A : Around} {d : Nat} (r : Room A (d + 1)) : Room A.in1 d := ⟨by have := r.1; show A.depth + d ≤ 800; omega, by have := r.2.1; simp only [Around.in1]; omega, r.2.2⟩
theorem Room.make {A : Around} {d : Nat} {C : Addr} {pos : List Value} {kw : List (Str × Value)} (r : Room A (d + 1)) : Room (A.under (.builtin "type.__call__" ⟨.ref C :: pos, kw⟩)) d := by
  have h1 : (A.under (.builtin "type.__call__" ⟨.ref C :: pos, kw⟩)).depth = A.depth + 1 := rfl
  have h2 : (A.under (.builtin "type.__call__" ⟨.ref C :: pos, kw⟩)).units = A.units + 1 := rfl
  exact ⟨by have := r.1; omega, by have := r.2.1; omega, r.2.2⟩
theorem Room.depth {A : Around} {d : Nat} (r : Room A d) : A.depth < recursionLimit := by have := r.1; show _ < 1000; omega
theorem Room.units {A : Around} {d : Nat} (r : Room A d) : A.units < cLine := by have := r.2.1; show _ < 9900; omega

section
variable {w : World} {z : Shared} {H : Heap} {mu nw : List Ent} {L : Addr} {m : Str → Option Value} {s : Shared} {A : Around} {E : Value → Shared → Prop} {d : Nat}

theorem Sit.get (Z : Sit w z H mu nw L m s) {a : Addr} {o : Obj} (h : (a, o) ∈ nw) : s.heap.get? a = some o := (Z.N _ (List.mem_append_right _ h)).1
theorem Sit.getM (Z : Sit w z H mu nw L m s) {a : Addr} {o : Obj} (h : (a, o) ∈ mu) : s.heap.get? a = some o := (Z.N _ (List.mem_append_left _ h)).1
theorem Sit.K (Z : Sit w z H mu nw L m s) : (K w.params).In s.heap := Z.gl.X.keeps Z.F.keep

/-- the locals of a frame, as an object -/
noncomputable def NsObj (o : Obj) (m : Str → Option Value) : Prop := ∃ es ep, o.data = .dict es ep ∧ StrKeys es ∧ ∀ name, nsFind es name = m name

theorem Sit.toks (Z : Sit w z H mu nw L m s) (tk : Tok) : Sit w z H mu nw L m { s with toks := tk } := ⟨Z.gl, Z.F, Z.N, Z.nd, Z.mm, Z.rest, Z.tb, Z.tn⟩
theorem Sit.of (Z : Sit w z H mu nw L m s) {h' : Heap} {m' : Str → Option Value} {mu' nw' : List Ent} (F : Fr H L h' m') (N : News H L h' (mu' ++ nw')) (nd : ∀ p ∈ mu', ∀ q ∈ nw', p.1 ≠ q.1) (mm : mu'.Pairwise fun a b => a.1 ≠ b.1)
    (hk : ∀ q ∈ tabs, ∀ o, s.heap.get? q.2 = some o → h'.get? q.2 = some o) (hn : ∀ p ∈ nw, p ∈ nw') (tn : ∀ q ∈ tabs, ∀ p ∈ mu' ++ nw', p.1 ≠ q.2) (tk : Tok) :
    Sit w z H mu' nw' L m' { s with heap := h', toks := tk } := ⟨Z.gl, F, N, nd, mm, Z.rest, Z.tb.mono hk hn, fun q hq => ⟨(Z.tn q hq).1, (Z.tn q hq).2.1, tn q hq⟩⟩
theorem Sit.ltT (Z : Sit w z H mu nw L m s) {q : Addr × Addr} (h : q ∈ tabs) : q.2 < s.heap.objs.size := let ⟨_, e, _⟩ := Z.tb q h; Heap.lt_size e

theorem Sit.lt (Z : Sit w z H mu nw L m s) {p : Ent} (h : p ∈ mu ++ nw) : p.1 < s.heap.objs.size := Heap.lt_size (Z.N p h).1

/-- a new object that stays -/
theorem Sit.alloc (Z : Sit w z H mu nw L m s) (o : Obj) (hf : o.isFreed = false) (tk : Tok) : Sit w z H mu ((s.heap.objs.size, o) :: nw) L m { s with heap := s.heap.push o, toks := tk } := by
  have N := Z.N.push Z.F o hf
  refine Z.of (Z.F.push o) (fun p hp => N p ?_) (fun p hp q hq => ?_) Z.mm (fun q hq o e => Heap.get?_push_of_some _ e) (fun p hp => .tail _ hp) (fun q hq p hp => ?_) tk
  · rcases List.mem_append.mp hp with h | h
    · exact .tail _ (List.mem_append_left _ h)
    · rcases List.mem_cons.mp h with rfl | h
      · exact .head _
      · exact .tail _ (List.mem_append_right _ h)
  · rcases List.mem_cons.mp hq with rfl | hq
    · exact Nat.ne_of_lt (Z.lt (List.mem_append_left _ hp))
    · exact Z.nd p hp q hq
  · rcases List.mem_append.mp hp with h | h
    · exact (Z.tn q hq).2.2 p (List.mem_append_left _ h)
    · rcases List.mem_cons.mp h with rfl | h
      · exact Nat.ne_of_gt (Z.ltT hq)
      · exact (Z.tn q hq).2.2 p (List.mem_append_right _ h)
/-- a new object that may be turned -/
theorem Sit.allocM (Z : Sit w z H mu nw L m s) (o : Obj) (hf : o.isFreed = false) (tk : Tok) : Sit w z H ((s.heap.objs.size, o) :: mu) nw L m { s with heap := s.heap.push o, toks := tk } := by
  refine Z.of (Z.F.push o) (Z.N.push Z.F o hf) (fun p hp q hq => ?_) (List.pairwise_cons.mpr ⟨fun p hp => Nat.ne_of_gt (Z.lt (List.mem_append_left _ hp)), Z.mm⟩) (fun q hq o e => Heap.get?_push_of_some _ e) (fun p hp => hp) (fun q hq p hp => ?_) tk
  · rcases List.mem_cons.mp hp with rfl | hp
    · exact Nat.ne_of_gt (Z.lt (List.mem_append_right _ hq))
    · exact Z.nd p hp q hq
  · rcases List.mem_cons.mp hp with rfl | hp
    · exact Nat.ne_of_gt (Z.ltT hq)
    · exact (Z.tn q hq).2.2 p hp
/-- an object is no longer turned -/
theorem Sit.freeze {p : Ent} (Z : Sit w z H (p :: mu) nw L m s) : Sit w z H mu (p :: nw) L m s := by
  refine ⟨Z.gl, Z.F, fun q hq => Z.N q ?_, fun q hq r hr => ?_, (List.pairwise_cons.mp Z.mm).2, Z.rest, Z.tb.mono (fun _ _ _ e => e) (fun p hp => .tail _ hp), fun q hq => ⟨(Z.tn q hq).1, (Z.tn q hq).2.1, fun r hr => (Z.tn q hq).2.2 r ?_⟩⟩
  · rcases List.mem_append.mp hq with h | h
    · exact .tail _ (List.mem_append_left _ h)
    · rcases List.mem_cons.mp h with rfl | h
      · exact .head _
      · exact .tail _ (List.mem_append_right _ h)
  · rcases List.mem_cons.mp hr with rfl | hr
    · exact Ne.symm ((List.pairwise_cons.mp Z.mm).1 q hq)
    · exact Z.nd q (.tail _ hq) r hr
  · rcases List.mem_append.mp hr with h | h
    · exact .tail _ (List.mem_append_left _ h)
    · rcases List.mem_cons.mp h with rfl | h
      · exact .head _
      · exact .tail _ (List.mem_append_right _ h)
/-- the first of the turned objects is turned -/
theorem Sit.turn {a : Addr} {o o' : Obj} {h' : Heap} (Z : Sit w z H ((a, o) :: mu) nw L m s) (hs : Heap.SameBut a s.heap h') (ho : h'.get? a = some o') (tk : Tok) : Sit w z H ((a, o') :: mu) nw L m { s with heap := h', toks := tk } := by
  have na := Z.N (a, o) (.head _)
  have ne : ∀ q ∈ mu ++ nw, q.1 ≠ a := fun q hq => by
    rcases List.mem_append.mp hq with h | h
    · exact Ne.symm ((List.pairwise_cons.mp Z.mm).1 q h)
    · exact Ne.symm (Z.nd (a, o) (.head _) q h)
  refine Z.of ⟨Z.F.ns.sameBut hs (Ne.symm na.2.1), fun b ob e => (hs.2 b fun q => ?_).trans (Z.F.keep b ob e), Z.F.above⟩ (fun p hp => ?_) (fun p hp q hq => ?_) ?_ (fun q hq o' e => (hs.2 q.2 (Ne.symm ((Z.tn q hq).2.2 _ (.head _)))).trans e) (fun p hp => hp) (fun q hq p hp => ?_) tk
  · rw [q, na.2.2] at e; cases e
  · rcases List.mem_cons.mp hp with rfl | hp
    · exact ⟨ho, na.2⟩
    · have n := Z.N p (.tail _ hp)
      exact ⟨(hs.2 p.1 (ne p hp)).trans n.1, n.2⟩
  · rcases List.mem_cons.mp hp with rfl | hp
    · exact Z.nd (a, o) (.head _) q hq
    · exact Z.nd p (.tail _ hp) q hq
  · exact List.pairwise_cons.mpr ⟨fun p hp => (List.pairwise_cons.mp Z.mm).1 p hp, (List.pairwise_cons.mp Z.mm).2⟩
  · rcases List.mem_cons.mp hp with rfl | hp
    · exact (Z.tn q hq).2.2 (a, o) (.head _)
    · exact (Z.tn q hq).2.2 p (.tail _ hp)
/-- the turned objects in another order -/
theorem Sit.perm {mu' : List Ent} (Z : Sit w z H mu nw L m s) (p : mu.Perm mu') : Sit w z H mu' nw L m s :=
  ⟨Z.gl, Z.F, fun q hq => Z.N q (List.mem_append.mpr ((List.mem_append.mp hq).imp p.mem_iff.mpr id)), fun q hq r hr => Z.nd q (p.mem_iff.mpr hq) r hr, p.pairwise Z.mm (fun h => Ne.symm h), Z.rest, Z.tb, fun q hq => ⟨(Z.tn q hq).1, (Z.tn q hq).2.1, fun r hr => (Z.tn q hq).2.2 r (List.mem_append.mpr ((List.mem_append.mp hr).imp p.mem_iff.mpr id))⟩⟩
theorem Sit.store (Z : Sit w z H mu nw L m s) {h' : Heap} {m' : Str → Option Value} (hn : h'.Ns L m') (hs : Heap.SameBut L s.heap h') (tk : Tok) : Sit w z H mu nw L m' { s with heap := h', toks := tk } :=
  Z.of (Z.F.set hn hs) (Z.N.set hs) Z.nd Z.mm (fun q hq o e => (hs.2 q.2 (Z.tn q hq).2.1).trans e) (fun p hp => hp) (fun q hq => (Z.tn q hq).2.2) tk

/-- entering a def -/
theorem enter {f : Addr} {name qual : Str} {params : Arguments} {body : List Stmt} {scope : Scope} {dV kV doc pm cdv ct : Value} {an : Option Addr} {args : Args} {binds rb : List (Str × Value)} {R : Result → Shared → Prop}
    (Z : Sit w z H mu nw L m s) (rm : Room A (d + 1))
    (ho : (K w.params).lookup f = some ⟨.type "function", none, .func (fnOf name qual params body scope dV kV doc pm an cdv ct), #[]⟩) (hcd : codeIn (K w.params) cdv qual = true)
    (hbind : BindsTo s (fnOf name qual params body scope dV kV doc pm an cdv ct) args binds) (hrb : binds.reverse = rb)
    (hcell : ∀ x ∈ scope.names, x.2 ≠ .cell) (hloc : ∀ y ∈ binds, scope.names.lookup y.1 = some .local)
    (hsc : scope.isCoroutine = false ∧ scope.isGenerator = false ∧ scope.kind = .function)
    (h : ∀ L' s₁ oL, NsObj oL m → Sit w z H ((L, oL) :: mu) nw L' (fun x => rb.lookup x) s₁ → Room (A.deeper (envX qual scope L' f cdv [])) d →
      wpAny (Md w) (A.deeper (envX qual scope L' f cdv [])) (execs body (envX qual scope L' f cdv [])) (FunQ R) (fun _ _ => False) s₁) :
    codeAny (Md w) A (.call (.ref f) args) R s := by
  subst hrb
  obtain ⟨oL, es, ep, hL, hLd, hLk, hLf⟩ := Z.F.ns
  obtain ⟨p, loose, mean, mg, mb, T⟩ := Z.gl.T
  refine codeAny_call_def (fd := fnOf name qual params body scope dV kV doc pm an cdv ct) (body := body) (binds := binds) rm.depth (Z.K _ _ ho) rfl (T.nolimit.keeps Z.F.keep) (codeRec_of Z.K hcd) rfl hbind hcell hloc (fun h₁ hns hk₁ => ?_) hsc.1 hsc.2.1 hsc.2.2
  have Lne : ∀ q ∈ mu ++ nw, q.1 ≠ L := fun q hq => (Z.N q hq).2.1
  refine wpAny_mono (h s.heap.objs.size _ oL ⟨es, ep, hLd, hLk, hLf⟩ ⟨Z.gl, ⟨hns, fun b o e => hk₁ b o (Z.F.keep b o e), Nat.le_trans Z.F.above (Nat.le_of_lt (Heap.lt_size hL))⟩, (fun q hq => ?_), (fun q hq r hr => ?_), (List.pairwise_cons.mpr ⟨fun q hq => Ne.symm (Lne q (List.mem_append_left _ hq)), Z.mm⟩), Z.rest, Z.tb.mono (fun q hq o e => hk₁ _ _ e) (fun p hp => hp), fun q hq => ⟨(Z.tn q hq).1, Nat.ne_of_lt (Z.ltT hq), fun p hp => ?_⟩⟩ rm.down) (fun _ _ x => x) fun _ _ x => x.elim
  · rcases List.mem_cons.mp hq with rfl | hq
    · refine ⟨hk₁ _ _ hL, Nat.ne_of_lt (Heap.lt_size hL), ?_⟩
      cases e : H.get? L with
      | none => rfl
      | some o => exact absurd (Nat.lt_of_lt_of_le (Heap.lt_size e) Z.F.above) (Nat.lt_irrefl _)
    · have n := Z.N q hq
      exact ⟨hk₁ _ _ n.1, Nat.ne_of_lt (Heap.lt_size n.1), n.2.2⟩
  · rcases List.mem_cons.mp hq with rfl | hq
    · exact Ne.symm (Lne r (List.mem_append_right _ hr))
    · exact Z.nd q hq r hr
  · rcases List.mem_cons.mp hp with rfl | hp
    · exact Ne.symm (Z.tn q hq).2.1
    · exact (Z.tn q hq).2.2 p hp

/-- leaving a def: the caller's situation again -/
theorem Sit.back {L' : Addr} {m' : Str → Option Value} {oL : Obj} {mu' nw' : List Ent} {s' : Shared} (Z : Sit w z H mu nw L m s) (ns : NsObj oL m) (Z' : Sit w z H ((L, oL) :: mu') nw' L' m' s') : Sit w z H mu' nw' L m s' := by
  obtain ⟨es, ep, hd, hk, hf⟩ := ns
  have nL := Z'.N (L, oL) (.head _)
  refine ⟨Z.gl, ⟨⟨oL, es, ep, nL.1, hd, hk, hf⟩, Z'.F.keep, Z.F.above⟩, fun q hq => ?_, fun q hq r hr => Z'.nd q (.tail _ hq) r hr, (List.pairwise_cons.mp Z'.mm).2, Z'.rest, Z'.tb, fun q hq => ⟨(Z'.tn q hq).1, Ne.symm ((Z'.tn q hq).2.2 (L, oL) (.head _)), fun p hp => (Z'.tn q hq).2.2 p (.tail _ hp)⟩⟩
  have n := Z'.N q (.tail _ hq)
  refine ⟨n.1, ?_, n.2.2⟩
  rcases List.mem_append.mp hq with h | h
  · exact Ne.symm ((List.pairwise_cons.mp Z'.mm).1 q h)
  · exact Ne.symm (Z'.nd (L, oL) (.head _) q h)
end
end Mine
end

section
open PySem PySem.W PySem.Spec PySem.Calls PyProof.Rows
set_option Elab.async false
set_option maxRecDepth 100000
namespace Mine
noncomputable abbrev KK (w : World) : Frag := K w.params

structure ClsOk (w : World) (D : Addr) : Prop where
  pg : plainGet (KK w) D "" = true
  hd : hasDictIn (KK w) D = true
  cl : findIn (KK w) (.ref D) "__class__" = some (some (.builtin "object.__class__"))
  mo : mroIn (KK w) D (.type "object") = some true
  sa : findIn (KK w) (.ref D) "__setattr__" = some (some (.builtin "object.__setattr__"))
  po : plainOver (KK w) D = true
theorem cl_get (w : World) : specialIn (KK w) (.builtin "object.__class__") "__get__" = some (some (.builtin "getset_descriptor.__get__")) := by kernel_rfl
theorem cl_takes (w : World) : takesIn (KK w) (.builtin "object.__class__") = some true := by kernel_rfl

/-- the names' places in a def's frame, or in a display's -/
structure EnvOk (env : Env) (L : Addr) : Prop where
  g : env.globals = mainGlobals
  l : env.locals = L
  k : env.scope.kind = .function
  b : env.builtins = builtinsNs
/-- an object that stays -/
noncomputable def Inst (nw : List Ent) (x C : Addr) (es : List DictEntry) : Prop := ∃ dx n, (x, instObj C dx) ∈ nw ∧ (dx, dictOf es n) ∈ nw
theorem Inst.mono {nw nw' : List Ent} {x C : Addr} {es : List DictEntry} (i : Inst nw x C es) (h : ∀ p ∈ nw, p ∈ nw') : Inst nw' x C es := let ⟨dx, n, a, b⟩ := i; ⟨dx, n, h _ a, h _ b⟩
noncomputable def Le (nw nw' : List Ent) : Prop := ∀ p ∈ nw, p ∈ nw'
theorem Le.refl (nw : List Ent) : Le nw nw := fun _ h => h
theorem Le.trans {a b c : List Ent} (h : Le a b) (k : Le b c) : Le a c := fun p hp => k p (h p hp)
theorem Le.cons (p : Ent) (nw : List Ent) : Le nw (p :: nw) := fun _ h => .tail _ h

section
variable {w : World} {z : Shared} {H : Heap} {mu nw : List Ent} {L a : Addr} {m : Str → Option Value} {s : Shared} {A : Around} {E : Value → Shared → Prop}
  {env : Env} {x : Str} {pos : Pos} {v : Value}

theorem Inst.at {es : List DictEntry} {y C : Addr} (Z : Sit w z H mu nw L m s) (i : Inst nw y C es) : ∃ dx n, InstAt s.heap y (instObj C dx) C (some (dictOf es n)) :=
  let ⟨dx, n, h1, h2⟩ := i; ⟨dx, n, Z.get h1, rfl, rfl, Z.get h2⟩

theorem r_loc {Q : Value → Shared → Prop} (Z : Sit w z H mu nw L m s) (hv : m x = some v) (h : Q v s)
    (hk : EnvOk env L := by exact ⟨rfl, rfl, rfl, rfl⟩) (hx : env.kindOf x = some .local := by rfl) (hd : (x == ("__debug__" : Str)) = false := by decide) :
    wpAny (Md w) A (eval (.Name x pos) env) Q E s := by
  obtain ⟨-, rfl, hk, -⟩ := hk
  exact wpAny_Name (wpAny_loadName_local hk hx Z.F.ns hv h) hd
theorem r_glob {Q : Value → Shared → Prop} (Z : Sit w z H mu nw L m s) (e : nsIn (KK w) mainGlobals x = some (some v)) (h : Q v s)
    (hk : EnvOk env L := by exact ⟨rfl, rfl, rfl, rfl⟩) (hx : env.kindOf x = some .globalImplicit := by rfl) (hd : (x == ("__debug__" : Str)) = false := by decide) :
    wpAny (Md w) A (eval (.Name x pos) env) Q E s := by
  obtain ⟨p, loose, mean, mg, mb, T⟩ := Z.gl.T
  exact Name_function_global hk.k hx (loadGlobal_global (env := env) (by rw [hk.g]; exact T.g.keeps Z.F.keep) (mg_of Z.gl.X T.g e) h) hd
theorem r_blt {Q : Value → Shared → Prop} (Z : Sit w z H mu nw L m s) (e : nsIn (KK w) mainGlobals x = some none) (hv : bootBuiltins x = some v) (hn : x ≠ "__name__") (h : Q v s)
    (hk : EnvOk env L := by exact ⟨rfl, rfl, rfl, rfl⟩) (hx : env.kindOf x = some .globalImplicit := by rfl) (hd : (x == ("__debug__" : Str)) = false := by decide) :
    wpAny (Md w) A (eval (.Name x pos) env) Q E s := by
  obtain ⟨p, loose, mean, mg, mb, T⟩ := Z.gl.T
  exact Name_function_global hk.k hx (loadGlobal_builtin (env := env) (by rw [hk.g]; exact T.g.keeps Z.F.keep) (mg_none_of Z.gl.X T.g e) (by rw [hk.b]; exact T.b.keeps Z.F.keep) ((T.builtins x hn).trans hv) h) hd
theorem r_store {Q : Unit → Shared → Prop} (Z : Sit w z H mu nw L m s) (h : ∀ s', Sit w z H mu nw L (upd m x v) s' → Q () s')
    (hk : EnvOk env L := by exact ⟨rfl, rfl, rfl, rfl⟩) (hx : env.kindOf x = some .local := by rfl) : wpAny (Md w) A (storeName env x v) Q E s :=
  by
  obtain ⟨-, rfl, hk, -⟩ := hk
  exact wpAny_storeName_local hx Z.F.ns (fun h' hn hs => h _ (Z.store hn hs _)) (by rw [hk]; rfl)

theorem r_int {i : Int} {k : Nat} {Q : Value → Shared → Prop} (Z : Sit w z H mu nw L m s) (h : ∀ t s', Sit w z H mu nw L m s' → Q (.int i t) s') : wpAny (Md w) A (eval (.Constant (.int i) k pos) env) Q E s :=
  wpAny_Constant_int (h _ _ (Z.toks _))
theorem r_str {y : Str} {k : Nat} {Q : Value → Shared → Prop} (Z : Sit w z H mu nw L m s) (h : ∀ t s', Sit w z H mu nw L m s' → Q (.str y t) s') : wpAny (Md w) A (eval (.Constant (.str y) k pos) env) Q E s :=
  wpAny_Constant_str (h _ _ (Z.toks _))

/-- an attribute of the object's own -/
theorem r_get {y C : Addr} {es : List DictEntry} {name : Str} {expr : Bool} {Q : Value → Shared → Prop} (Z : Sit w z H mu nw L m s) (i : Inst nw y C es) (ok : ClsOk w C) (ha : findIn (KK w) (.ref C) name = some none)
    (hl : getL name es = some (some v)) (hv : handedIn v = true) (h : ∀ s', Sit w z H mu nw L m s' → Q v s') : wpAny (Md w) A (getAttr (.ref y) name expr) Q E s := by
  obtain ⟨dx, n, I⟩ := i.at Z
  exact get_own Z.F Z.gl.X I ok.pg ok.hd ha rfl hl hv (h _ (Z.toks _))
theorem r_attr {value : Expr} {attr : Str} {Q : Value → Shared → Prop} (h : wpAny (Md w) A (eval value env) (fun o s₁ => wpAny (Md w) A (getAttr o attr true) Q E s₁) E s)
    (he : eval (.Attribute value attr pos) env = (do let o ← eval value env; standAt pos.atName; let r ← holding [o] (getAttr o attr true); letTemporaryGo value o r; pure r) := by rfl) :
    wpAny (Md w) A (eval (.Attribute value attr pos) env) Q E s := Attribute_any_ h he
/-- NAME.attr -/
theorem r_nattr {y C : Addr} {es : List DictEntry} {name attr : Str} {np : Pos} {Q : Value → Shared → Prop} (Z : Sit w z H mu nw L m s) (hy : m name = some (.ref y)) (i : Inst nw y C es) (ok : ClsOk w C) (ha : findIn (KK w) (.ref C) attr = some none)
    (hl : getL attr es = some (some v)) (hv : handedIn v = true) (h : ∀ s', Sit w z H mu nw L m s' → Q v s')
    (hk : EnvOk env L := by exact ⟨rfl, rfl, rfl, rfl⟩) (hx : env.kindOf name = some .local := by rfl) (hd : (name == ("__debug__" : Str)) = false := by decide) :
    wpAny (Md w) A (eval (.Attribute (.Name name np) attr pos) env) Q E s :=
  Attribute_name (r_loc Z hy (r_get Z i ok ha hl hv h) hk hx hd)

/-- isinstance of an object that stays -/
theorem r_isi {y D C : Addr} {es : List DictEntry} {b : Bool} {Q : Value → Shared → Prop} (Z : Sit w z H mu nw L m s) (i : Inst nw y D es) (ok : ClsOk w D) (e : kitOne (KK w) (.ref D) (.ref C) = some b)
    (h : ∀ s', Sit w z H mu nw L m s' → Q (.bool b) s') : wpAny (Md w) A (call (.builtin "isinstance") [.ref y, .ref C]) Q E s := by
  obtain ⟨dx, n, I⟩ := i.at Z
  exact kia_one (kitx_own (ox := instObj D dx) (od := dictOf es n) ok.pg ok.hd ok.cl (cl_get w) (cl_takes w) ok.mo) Z.K I e (by intro q; cases q) (fun tk => h _ (Z.toks tk))

theorem isinstance_none (w : World) : nsIn (KK w) mainGlobals "isinstance" = some none := by kernel_rfl
theorem boot_isinstance : bootBuiltins "isinstance" = some (.builtin "isinstance") := by boot_fast

theorem sp_cons {e : Expr} {rest : List Expr} {Q : List Value → Shared → Prop}
    (h : wpAny (Md w) A (eval e env) (fun v s₁ => wpAny (Md w) A (spliced (backTo pos (starEach rest env))) (fun vs s₂ => Q (v :: vs) s₂) E s₁) E s)
    (he : starEach (e :: rest) env = (false, eval e env) :: starEach rest env := by rfl) : wpAny (Md w) A (spliced (backTo pos (starEach (e :: rest) env))) Q E s := by
  rw [he]
  exact spliced_cons h
theorem sp_nil {Q : List Value → Shared → Prop} (h : Q [] s) : wpAny (Md w) A (spliced (backTo pos (starEach [] env))) Q E s := spliced_none h

/-- a call by a name of the text's own, with arguments by place -/
theorem r_callN {id : Str} {np : Pos} {e : Expr} {rest : List Expr} {f : Value} {Q : Value → Shared → Prop} (Z : Sit w z H mu nw L m s) (hf : nsIn (KK w) mainGlobals id = some (some f)) (hk : keepIn (KK w) f = true)
    (h : wpAny (Md w) A (spliced (backTo pos (starEach (e :: rest) env))) (fun vs s₁ => (KK w).In s₁.heap ∧ wpAny (Md w) A (call f vs) Q E s₁) E s)
    (hk' : EnvOk env L := by exact ⟨rfl, rfl, rfl, rfl⟩) (hx : env.kindOf id = some .globalImplicit := by rfl) (hd : (id == ("__debug__" : Str)) = false := by decide)
    (he : starEach (e :: rest) env = (false, eval e env) :: starEach rest env := by rfl) (hplain : (backTo pos (starEach rest env)).any (·.1) = false := by rfl) :
    wpAny (Md w) A (eval (.Call (.Name id np) (e :: rest) [] pos) env) Q E s :=
  wpAny_Call_NameR (r_glob Z hf (callWith_K Z.gl.X hk h he hplain) hk' hx hd)
theorem r_callB {id : Str} {np : Pos} {e : Expr} {rest : List Expr} {f : String} {Q : Value → Shared → Prop} (Z : Sit w z H mu nw L m s) (hf : nsIn (KK w) mainGlobals id = some none) (hb : bootBuiltins id = some (.builtin f)) (hn : id ≠ "__name__")
    (h : wpAny (Md w) A (spliced (backTo pos (starEach (e :: rest) env))) (fun vs s₁ => wpAny (Md w) A (call (.builtin f) vs) Q E s₁) E s)
    (hk' : EnvOk env L := by exact ⟨rfl, rfl, rfl, rfl⟩) (hx : env.kindOf id = some .globalImplicit := by rfl) (hd : (id == ("__debug__" : Str)) = false := by decide)
    (he : starEach (e :: rest) env = (false, eval e env) :: starEach rest env := by rfl) (hplain : (backTo pos (starEach rest env)).any (·.1) = false := by rfl) :
    wpAny (Md w) A (eval (.Call (.Name id np) (e :: rest) [] pos) env) Q E s :=
  wpAny_Call_NameR (r_blt Z hf hb hn (PyProof.Rows.callWith_builtin1 h he hplain) hk' hx hd)

/-- isinstance(NAME, CLASS) -/
theorem r_isiN {y D C : Addr} {es : List DictEntry} {b : Bool} {name c : Str} {p1 p2 p3 : Pos} {Q : Value → Shared → Prop} (Z : Sit w z H mu nw L m s) (hy : m name = some (.ref y)) (i : Inst nw y D es) (ok : ClsOk w D)
    (hc : nsIn (KK w) mainGlobals c = some (some (.ref C))) (e : kitOne (KK w) (.ref D) (.ref C) = some b) (h : ∀ s', Sit w z H mu nw L m s' → Q (.bool b) s')
    (hk : EnvOk env L := by exact ⟨rfl, rfl, rfl, rfl⟩) (hi : env.kindOf "isinstance" = some .globalImplicit := by rfl) (hx : env.kindOf name = some .local := by rfl) (hcx : env.kindOf c = some .globalImplicit := by rfl)
    (hd : (name == ("__debug__" : Str)) = false := by decide) (hdc : (c == ("__debug__" : Str)) = false := by decide) :
    wpAny (Md w) A (eval (.Call (.Name "isinstance" p1) [.Name name p2, .Name c p3] [] pos) env) Q E s :=
  r_callB Z (isinstance_none w) boot_isinstance (by decide)
    (sp_cons (r_loc Z hy (sp_cons (r_glob Z hc (sp_nil (r_isi Z i ok e h)) hk hcx hdc) rfl) hk hx hd) rfl) hk hi (by decide) rfl rfl

/-- if isinstance(NAME, CLASS): .. -/
theorem x_ifI {y D C : Addr} {es : List DictEntry} {b : Bool} {name c : Str} {p0 p1 p2 p3 : Pos} {body orelse : List Stmt} {Q : Flow → Shared → Prop} (Z : Sit w z H mu nw L m s) (hy : m name = some (.ref y)) (i : Inst nw y D es) (ok : ClsOk w D)
    (hc : nsIn (KK w) mainGlobals c = some (some (.ref C))) (e : kitOne (KK w) (.ref D) (.ref C) = some b)
    (h : ∀ s', Sit w z H mu nw L m s' → wpAny (Md w) A (execs (if b then body else orelse) env) Q E s')
    (hk : EnvOk env L := by exact ⟨rfl, rfl, rfl, rfl⟩) (hi : env.kindOf "isinstance" = some .globalImplicit := by rfl) (hx : env.kindOf name = some .local := by rfl) (hcx : env.kindOf c = some .globalImplicit := by rfl)
    (hd : (name == ("__debug__" : Str)) = false := by decide) (hdc : (c == ("__debug__" : Str)) = false := by decide) :
    wpAny (Md w) A (exec (.If (.Call (.Name "isinstance" p1) [.Name name p2, .Name c p3] [] pos) body orelse p0) env) Q E s := by
  refine wpAny_If (isTrue_plain (r_isiN Z hy i ok hc e (fun s' Z' => wpAny_truthy_bool ?_) hk hi hx hcx hd hdc) rfl)
  have := h s' Z'
  cases b <;> exact this
/-- assert isinstance(NAME, CLASS), .. -/
theorem x_assI {y D C : Addr} {es : List DictEntry} {name c : Str} {p0 p1 p2 p3 : Pos} {msg : Option Expr} {Q : Flow → Shared → Prop} (Z : Sit w z H mu nw L m s) (hy : m name = some (.ref y)) (i : Inst nw y D es) (ok : ClsOk w D)
    (hc : nsIn (KK w) mainGlobals c = some (some (.ref C))) (e : kitOne (KK w) (.ref D) (.ref C) = some true) (h : ∀ s', Sit w z H mu nw L m s' → Q .next s')
    (hk : EnvOk env L := by exact ⟨rfl, rfl, rfl, rfl⟩) (hi : env.kindOf "isinstance" = some .globalImplicit := by rfl) (hx : env.kindOf name = some .local := by rfl) (hcx : env.kindOf c = some .globalImplicit := by rfl)
    (hd : (name == ("__debug__" : Str)) = false := by decide) (hdc : (c == ("__debug__" : Str)) = false := by decide) :
    wpAny (Md w) A (exec (.Assert (.Call (.Name "isinstance" p1) [.Name name p2, .Name c p3] [] pos) msg p0) env) Q E s :=
  wpAny_Assert_holds (isTrue_plain (r_isiN Z hy i ok hc e (fun s' Z' => wpAny_truthy_bool ⟨rfl, h s' Z'⟩) hk hi hx hcx hd hdc) rfl)

theorem none_is {v : Value} {Q : Value → Shared → Prop} (h : Q (.bool (v == .none)) s) : wpAny (Md w) A (compareOp .Is v .none) Q E s := is_none_gen h
/-- if NAME is None: .. -/
theorem x_ifNone {name : Str} {b : Bool} {k : Nat} {p0 p1 p2 : Pos} {body orelse : List Stmt} {Q : Flow → Shared → Prop} (Z : Sit w z H mu nw L m s) (hy : m name = some v) (hb : (v == .none) = b)
    (h : wpAny (Md w) A (execs (if b then body else orelse) env) Q E s)
    (hk : EnvOk env L := by exact ⟨rfl, rfl, rfl, rfl⟩) (hx : env.kindOf name = some .local := by rfl) (hd : (name == ("__debug__" : Str)) = false := by decide) :
    wpAny (Md w) A (exec (.If (.Compare (.Name name p1) [.Is] [.Constant .none k p2] pos) body orelse p0) env) Q E s := by
  subst hb
  refine wpAny_If (wpAny_isTrue_Compare1 (r_loc Z hy (wpAny_Constant_none (none_is (wpAny_truthy_bool ?_))) hk hx hd) rfl)
  cases hq : (v == .none) <;> rw [hq] at h <;> exact h
end
end Mine
end

section
open PySem PySem.W PySem.Spec PySem.Calls PyProof.Rows
set_option Elab.async false
set_option maxRecDepth 100000
namespace Mine
/-- the code tables as they stand -/
noncomputable def tlOf (h : Heap) : List Ent := tabs.map fun q => (q.2, (h.get? q.2).getD (tabObj #[]))
theorem tl_mem {h : Heap} {p : Ent} (x : p ∈ tlOf h) : ∃ q ∈ tabs, p.1 = q.2 := by
  obtain ⟨q, hq, rfl⟩ := List.mem_map.mp x
  exact ⟨q, hq, rfl⟩

section
variable {w : World} {z : Shared} {H : Heap} {mu nw : List Ent} {L a : Addr} {m : Str → Option Value} {s : Shared} {A : Around} {E : Value → Shared → Prop}
  {env : Env} {x : Str} {pos : Pos} {v : Value}

theorem Sit.tl (Z : Sit w z H mu nw L m s) {q : Addr × Addr} (hq : q ∈ tabs) {o : Obj} (e : s.heap.get? q.2 = some o) : (q.2, o) ∈ tlOf s.heap :=
  List.mem_map.mpr ⟨q, hq, by rw [e]; rfl⟩
theorem Sit.newsT (Z : Sit w z H mu nw L m s) : News H L s.heap (mu ++ nw ++ tlOf s.heap) := fun p hp => by
  rcases List.mem_append.mp hp with h | h
  · exact Z.N p h
  · obtain ⟨q, hq, rfl⟩ := List.mem_map.mp h
    obtain ⟨ps, e, -⟩ := Z.tb q hq
    exact ⟨by show s.heap.get? q.2 = _; rw [e]; rfl, (Z.tn q hq).2.1, (Z.tn q hq).1⟩
theorem Sit.neT (Z : Sit w z H ((a, o) :: mu) nw L m s) : ∀ p ∈ mu ++ nw ++ tlOf s.heap, p.1 ≠ a := fun p hp => by
  rcases List.mem_append.mp hp with h | h
  · rcases List.mem_append.mp h with h | h
    · exact Ne.symm ((List.pairwise_cons.mp Z.mm).1 p h)
    · exact Ne.symm (Z.nd _ (.head _) p h)
  · obtain ⟨q, hq, e⟩ := tl_mem h
    rw [e]; exact Ne.symm ((Z.tn q hq).2.2 _ (.head _))
/-- what a library's rule leaves, with one more object that may be turned -/
theorem Sit.put {mu₀ : List Ent} {o : Obj} {h' : Heap} {m' : Str → Option Value} (Z : Sit w z H mu₀ nw L m s) (F' : Fr H L h' m') (N' : News H L h' ((a, o) :: (mu ++ nw ++ tlOf s.heap))) (ne : ∀ p ∈ mu ++ nw ++ tlOf s.heap, p.1 ≠ a)
    (hnd : ∀ p ∈ mu, ∀ q ∈ nw, p.1 ≠ q.1) (hmm : mu.Pairwise fun a b => a.1 ≠ b.1) (hmu : ∀ p ∈ mu, p ∈ mu₀) (tk : Tok) : Sit w z H ((a, o) :: mu) nw L m' { s with heap := h', toks := tk } := by
  refine Z.of F' (fun p hp => N' p ?_) (fun p hp q hq => ?_) (List.pairwise_cons.mpr ⟨fun p hp => Ne.symm (ne p (List.mem_append_left _ (List.mem_append_left _ hp))), hmm⟩) (fun q hq o e => ?_) (fun _ h => h) (fun q hq p hp => ?_) tk
  · rcases List.mem_cons.mp hp with rfl | hp
    · exact .head _
    · exact .tail _ (List.mem_append_left _ hp)
  · rcases List.mem_cons.mp hp with rfl | hp
    · exact Ne.symm (ne q (List.mem_append_left _ (List.mem_append_right _ hq)))
    · exact hnd p hp q hq
  · exact (N' (q.2, o) (.tail _ (List.mem_append_right _ (Z.tl hq e)))).1
  · rcases List.mem_cons.mp hp with rfl | hp
    · obtain ⟨ps, e, -⟩ := Z.tb q hq
      exact Ne.symm (ne _ (List.mem_append_right _ (Z.tl hq e)))
    · rcases List.mem_append.mp hp with h | h
      · exact (Z.tn q hq).2.2 p (List.mem_append_left _ (hmu p h))
      · exact (Z.tn q hq).2.2 p (List.mem_append_right _ h)
/-- the first turned object, turned by a library's rule -/
theorem Sit.turned {o o' : Obj} {h' : Heap} {m' : Str → Option Value} (Z : Sit w z H ((a, o) :: mu) nw L m s) (F' : Fr H L h' m') (N' : News H L h' ((a, o') :: (mu ++ nw ++ tlOf s.heap))) (tk : Tok) : Sit w z H ((a, o') :: mu) nw L m' { s with heap := h', toks := tk } :=
  Z.put F' N' Z.neT (fun p hp q hq => Z.nd p (.tail _ hp) q hq) (List.pairwise_cons.mp Z.mm).2 (fun _ h => .tail _ h) tk
/-- one object more, made by a library's rule -/
theorem Sit.more {o : Obj} {h' : Heap} {m' : Str → Option Value} (Z : Sit w z H mu nw L m s) (F' : Fr H L h' m') (N' : News H L h' ((a, o) :: (mu ++ nw ++ tlOf s.heap))) (lt : ∀ p ∈ mu ++ nw ++ tlOf s.heap, p.1 < a) (tk : Tok) : Sit w z H ((a, o) :: mu) nw L m' { s with heap := h', toks := tk } :=
  Z.put F' N' (fun p hp => Nat.ne_of_lt (lt p hp)) Z.nd Z.mm (fun _ h => h) tk

theorem Sit.swap {p q : Ent} (Z : Sit w z H (p :: q :: mu) nw L m s) : Sit w z H (q :: p :: mu) nw L m s := Z.perm (.swap ..)
/-- self.attr = v, the object's dict first of what may be turned -/
theorem r_setat {y C dx : Addr} {es : List DictEntry} {n : Nat} {name : Str} {Q : Unit → Shared → Prop} (Z : Sit w z H ((dx, dictOf es n) :: mu) nw L m s) (hx : (y, instObj C dx) ∈ nw) (ok : ClsOk w C) (ht : takerIn (KK w) C name = some none)
    (hl : (getL name es).isSome = true) (hz : es.length ≤ 900)
    (h : ∀ tk s', Sit w z H ((dx, dictOf (putL name (PyData.keyHash w.params name) (.str name tk) v es) (putN name es n)) :: mu) nw L m s' → Q () s') :
    wpAny (Md w) A (setAttr (.ref y) name v) Q E s := by
  have N := Z.newsT
  refine set_dict (dx := dx) (es := es) (n := n) Z.F Z.gl.X N ⟨Z.get hx, rfl, rfl, Z.getM (.head _)⟩ rfl ok.sa ok.po ht ok.hd hl rfl (.head Z.neT) ?_ fun h' F' N' => h _ _ (Z.turned F' N' _)
  have : ∀ (l : List DictEntry) (k : Value), (putL name (PyData.keyHash w.params name) k v l).length ≤ l.length + 1 := fun l k => by
    induction l with
    | nil => exact Nat.le_refl _
    | cons e r ih => unfold putL; split <;> simp only [List.length_cons] <;> omega
  exact Nat.le_trans (this _ _) (by omega)

/-- calling a class -/
theorem r_make {C fI : Addr} {rest : List Value} {R : Result → Shared → Prop} (Z : Sit w z H mu nw L m s) (hm : makesIn (KK w) C = true) (hi : findIn (KK w) (.ref C) "__init__" = some (some (.ref fI))) (hf : typeIn (KK w) (.ref fI) = some (.type "function"))
    (h : ∀ x dx s₁, Sit w z H ((dx, dictOf [] 0) :: mu) ((x, instObj C dx) :: nw) L m s₁ → codeAny (Md w) (A.under (.builtin "type.__call__" ⟨.ref C :: rest, []⟩)) (.call (.ref fI) ⟨.ref x :: rest, []⟩) (InitBack x R) s₁) :
    codeAny (Md w) A (.call (.ref C) ⟨rest, []⟩) R s := by
  refine make_K Z.F Z.newsT Z.K hm hi hf fun x dx h' F' N' lt1 lt2 => h x dx _ ?_
  have Z1 : Sit w z H ((dx, dictOf [] 0) :: mu) nw L m { s with heap := h', toks := s.toks } := Z.more F' (fun p hp => N' p (.tail _ hp)) lt1 s.toks
  have nx := N' _ (.head _)
  refine ⟨Z1.gl, Z1.F, fun p hp => ?_, fun p hp q hq => ?_, Z1.mm, Z1.rest, Z1.tb.mono (fun _ _ _ e => e) (fun _ h => .tail _ h), fun q hq => ⟨(Z1.tn q hq).1, (Z1.tn q hq).2.1, fun p hp => ?_⟩⟩
  · rcases List.mem_append.mp hp with h | h
    · exact Z1.N p (List.mem_append_left _ h)
    · rcases List.mem_cons.mp h with rfl | h
      · exact nx
      · exact Z1.N p (List.mem_append_right _ h)
  · rcases List.mem_cons.mp hq with rfl | hq
    · rcases List.mem_cons.mp hp with rfl | hp
      · exact Nat.ne_of_lt lt2
      · exact Nat.ne_of_lt (Nat.lt_trans (lt1 p (List.mem_append_left _ (List.mem_append_left _ hp))) lt2)
    · exact Z1.nd p hp q hq
  · rcases List.mem_append.mp hp with h | h
    · exact (Z1.tn q hq).2.2 p (List.mem_append_left _ h)
    · rcases List.mem_cons.mp h with rfl | h
      · obtain ⟨ps, e, -⟩ := Z.tb q hq
        exact Nat.ne_of_gt (Nat.lt_trans (lt1 _ (List.mem_append_right _ (Z.tl hq e))) lt2)
      · exact (Z1.tn q hq).2.2 p (List.mem_append_right _ h)

/-- an object of a subclass of Expression -/
structure IsA (w : World) (nw : List Ent) (C : Addr) (v : Value) : Prop where
  ex : ∃ y D es, v = .ref y ∧ Inst nw y D es ∧ ClsOk w D ∧ kitOne (KK w) (.ref D) (.ref C) = some true
theorem IsA.mono {nw nw' : List Ent} {C : Addr} (x : IsA w nw C v) (h : Le nw nw') : IsA w nw' C v := let ⟨y, D, es, a, b, c⟩ := x.ex; ⟨y, D, es, a, b.mono h, c⟩

/-- what a statement must leave for the rest to run -/
noncomputable abbrev SeqQ (w : World) (A : Around) (env : Env) (E : Value → Shared → Prop) (rest : List Stmt) (Q : Flow → Shared → Prop) : Flow → Shared → Prop := fun f s' => match f with | .next => wpAny (Md w) A (execs rest env) Q E s' | f => Q f s'
/-- statements one after the other -/
theorem x_seq {st : Stmt} {rest : List Stmt} {Q : Flow → Shared → Prop}
    (h : wpAny (Md w) A (exec st env) (SeqQ w A env E rest Q) E s) : wpAny (Md w) A (execs (st :: rest) env) Q E s := wpAny_execs_cons h
theorem x_seqD {l rest : List Stmt} {st : Stmt} {Q : Flow → Shared → Prop} (e : l = st :: rest)
    (h : wpAny (Md w) A (exec st env) (SeqQ w A env E rest Q) E s) : wpAny (Md w) A (execs l env) Q E s := by
  subst e; exact x_seq h
/-- assert isinstance(NAME, CLASS) with an argument of which only that is known -/
theorem x_assA {C : Addr} {name c : Str} {p0 p1 p2 p3 : Pos} {msg : Option Expr} {Q : Flow → Shared → Prop} (Z : Sit w z H mu nw L m s) (hy : m name = some v) (i : IsA w nw C v)
    (hc : nsIn (KK w) mainGlobals c = some (some (.ref C))) (h : ∀ s', Sit w z H mu nw L m s' → Q .next s')
    (hk : EnvOk env L := by exact ⟨rfl, rfl, rfl, rfl⟩) (hi : env.kindOf "isinstance" = some .globalImplicit := by rfl) (hx : env.kindOf name = some .local := by rfl) (hcx : env.kindOf c = some .globalImplicit := by rfl)
    (hd : (name == ("__debug__" : Str)) = false := by decide) (hdc : (c == ("__debug__" : Str)) = false := by decide) :
    wpAny (Md w) A (exec (.Assert (.Call (.Name "isinstance" p1) [.Name name p2, .Name c p3] [] pos) msg p0) env) Q E s := by
  obtain ⟨y, D, es, rfl, i, ok, e⟩ := i.ex
  exact x_assI Z hy i ok hc e h hk hi hx hcx hd hdc
/-- self.attr = NAME -/
theorem x_setN {y C dx : Addr} {es : List DictEntry} {n : Nat} {self attr name : Str} {p0 p1 p2 p3 : Pos} {Q : Flow → Shared → Prop} (Z : Sit w z H ((dx, dictOf es n) :: mu) nw L m s) (hs : m self = some (.ref y)) (hv : m name = some v) (hx : (y, instObj C dx) ∈ nw) (ok : ClsOk w C)
    (ht : takerIn (KK w) C attr = some none) (hl : (getL attr es).isSome = true) (hz : es.length ≤ 900)
    (h : ∀ tk s', Sit w z H ((dx, dictOf (putL attr (PyData.keyHash w.params attr) (.str attr tk) v es) (putN attr es n)) :: mu) nw L m s' → Q .next s')
    (hk : EnvOk env L := by exact ⟨rfl, rfl, rfl, rfl⟩) (hxs : env.kindOf self = some .local := by rfl) (hxn : env.kindOf name = some .local := by rfl)
    (hd : (self == ("__debug__" : Str)) = false := by decide) (hdn : (name == ("__debug__" : Str)) = false := by decide)
    (hsw : swapsWith (.Name name p1) (some (.Attribute (.Name self p2) attr p3)) p0.line env = pure false := by rfl) :
    wpAny (Md w) A (exec (.Assign [.Attribute (.Name self p2) attr p3] (.Name name p1) p0) env) Q E s :=
  plainObj_wpAny_Assign_Attribute (r_loc Z hv (r_loc Z hs (r_setat Z hx ok ht hl hz h) hk hxs hd) hk hxn hdn) hsw
end
end Mine
end

section
open PySem PySem.W PySem.Spec PySem.Calls PyProof.Rows
set_option Elab.async false
set_option maxRecDepth 100000
namespace Mine
theorem okCounter (w : World) : ClsOk w 46 := ⟨by kernel_rfl, by kernel_rfl, by kernel_rfl, by kernel_rfl, by kernel_rfl, by kernel_rfl⟩
theorem mkCounter (w : World) : makesIn (KK w) 46 = true := by kernel_rfl
theorem okVariable (w : World) : ClsOk w 126 := ⟨by kernel_rfl, by kernel_rfl, by kernel_rfl, by kernel_rfl, by kernel_rfl, by kernel_rfl⟩
theorem mkVariable (w : World) : makesIn (KK w) 126 = true := by kernel_rfl
theorem okApplication (w : World) : ClsOk w 424 := ⟨by kernel_rfl, by kernel_rfl, by kernel_rfl, by kernel_rfl, by kernel_rfl, by kernel_rfl⟩
theorem mkApplication (w : World) : makesIn (KK w) 424 = true := by kernel_rfl
theorem okIndividual (w : World) : ClsOk w 512 := ⟨by kernel_rfl, by kernel_rfl, by kernel_rfl, by kernel_rfl, by kernel_rfl, by kernel_rfl⟩
theorem mkIndividual (w : World) : makesIn (KK w) 512 = true := by kernel_rfl
theorem okConstant (w : World) : ClsOk w 576 := ⟨by kernel_rfl, by kernel_rfl, by kernel_rfl, by kernel_rfl, by kernel_rfl, by kernel_rfl⟩
theorem mkConstant (w : World) : makesIn (KK w) 576 = true := by kernel_rfl
theorem okAll (w : World) : ClsOk w 761 := ⟨by kernel_rfl, by kernel_rfl, by kernel_rfl, by kernel_rfl, by kernel_rfl, by kernel_rfl⟩
theorem mkAll (w : World) : makesIn (KK w) 761 = true := by kernel_rfl
theorem okExists (w : World) : ClsOk w 728 := ⟨by kernel_rfl, by kernel_rfl, by kernel_rfl, by kernel_rfl, by kernel_rfl, by kernel_rfl⟩
theorem mkExists (w : World) : makesIn (KK w) 728 = true := by kernel_rfl
theorem okNegated (w : World) : ClsOk w 815 := ⟨by kernel_rfl, by kernel_rfl, by kernel_rfl, by kernel_rfl, by kernel_rfl, by kernel_rfl⟩
theorem mkNegated (w : World) : makesIn (KK w) 815 = true := by kernel_rfl
theorem okAnd (w : World) : ClsOk w 914 := ⟨by kernel_rfl, by kernel_rfl, by kernel_rfl, by kernel_rfl, by kernel_rfl, by kernel_rfl⟩
theorem mkAnd (w : World) : makesIn (KK w) 914 = true := by kernel_rfl
theorem okOr (w : World) : ClsOk w 954 := ⟨by kernel_rfl, by kernel_rfl, by kernel_rfl, by kernel_rfl, by kernel_rfl, by kernel_rfl⟩
theorem mkOr (w : World) : makesIn (KK w) 954 = true := by kernel_rfl
theorem okImp (w : World) : ClsOk w 987 := ⟨by kernel_rfl, by kernel_rfl, by kernel_rfl, by kernel_rfl, by kernel_rfl, by kernel_rfl⟩
theorem mkImp (w : World) : makesIn (KK w) 987 = true := by kernel_rfl
theorem okIff (w : World) : ClsOk w 1020 := ⟨by kernel_rfl, by kernel_rfl, by kernel_rfl, by kernel_rfl, by kernel_rfl, by kernel_rfl⟩
theorem mkIff (w : World) : makesIn (KK w) 1020 = true := by kernel_rfl
theorem okClause (w : World) : ClsOk w 1188 := ⟨by kernel_rfl, by kernel_rfl, by kernel_rfl, by kernel_rfl, by kernel_rfl, by kernel_rfl⟩
theorem mkClause (w : World) : makesIn (KK w) 1188 = true := by kernel_rfl
theorem fCounterXinit (w : World) : findIn (KK w) (.ref 46) "__init__" = some (some (.ref 36)) := by kernel_rfl
theorem fVariableXinit (w : World) : findIn (KK w) (.ref 126) "__init__" = some (some (.ref 102)) := by kernel_rfl
theorem fApplicationXinit (w : World) : findIn (KK w) (.ref 424) "__init__" = some (some (.ref 342)) := by kernel_rfl
theorem fIndividualXinit (w : World) : findIn (KK w) (.ref 512) "__init__" = some (some (.ref 440)) := by kernel_rfl
theorem fConstantXinit (w : World) : findIn (KK w) (.ref 576) "__init__" = some (some (.ref 440)) := by kernel_rfl
theorem fAllXinit (w : World) : findIn (KK w) (.ref 761) "__init__" = some (some (.ref 599)) := by kernel_rfl
theorem fExistsXinit (w : World) : findIn (KK w) (.ref 728) "__init__" = some (some (.ref 599)) := by kernel_rfl
theorem fNegatedXinit (w : World) : findIn (KK w) (.ref 815) "__init__" = some (some (.ref 777)) := by kernel_rfl
theorem fAndXinit (w : World) : findIn (KK w) (.ref 914) "__init__" = some (some (.ref 831)) := by kernel_rfl
theorem fOrXinit (w : World) : findIn (KK w) (.ref 954) "__init__" = some (some (.ref 831)) := by kernel_rfl
theorem fImpXinit (w : World) : findIn (KK w) (.ref 987) "__init__" = some (some (.ref 831)) := by kernel_rfl
theorem fIffXinit (w : World) : findIn (KK w) (.ref 1020) "__init__" = some (some (.ref 831)) := by kernel_rfl
theorem fClauseXinit (w : World) : findIn (KK w) (.ref 1188) "__init__" = some (some (.ref 1125)) := by kernel_rfl
theorem tCounterXvalue (w : World) : takerIn (KK w) 46 "_value" = some none := by kernel_rfl
theorem fCounterXvalue (w : World) : findIn (KK w) (.ref 46) "_value" = some none := by kernel_rfl
theorem tVariableXname (w : World) : takerIn (KK w) 126 "name" = some none := by kernel_rfl
theorem fVariableXname (w : World) : findIn (KK w) (.ref 126) "name" = some none := by kernel_rfl
theorem tApplicationXfunction (w : World) : takerIn (KK w) 424 "function" = some none := by kernel_rfl
theorem tApplicationXargument (w : World) : takerIn (KK w) 424 "argument" = some none := by kernel_rfl
theorem fApplicationXfunction (w : World) : findIn (KK w) (.ref 424) "function" = some none := by kernel_rfl
theorem fApplicationXargument (w : World) : findIn (KK w) (.ref 424) "argument" = some none := by kernel_rfl
theorem tIndividualXvariable (w : World) : takerIn (KK w) 512 "variable" = some none := by kernel_rfl
theorem fIndividualXvariable (w : World) : findIn (KK w) (.ref 512) "variable" = some none := by kernel_rfl
theorem tConstantXvariable (w : World) : takerIn (KK w) 576 "variable" = some none := by kernel_rfl
theorem fConstantXvariable (w : World) : findIn (KK w) (.ref 576) "variable" = some none := by kernel_rfl
theorem tAllXvariable (w : World) : takerIn (KK w) 761 "variable" = some none := by kernel_rfl
theorem tAllXterm (w : World) : takerIn (KK w) 761 "term" = some none := by kernel_rfl
theorem fAllXvariable (w : World) : findIn (KK w) (.ref 761) "variable" = some none := by kernel_rfl
theorem fAllXterm (w : World) : findIn (KK w) (.ref 761) "term" = some none := by kernel_rfl
theorem tExistsXvariable (w : World) : takerIn (KK w) 728 "variable" = some none := by kernel_rfl
theorem tExistsXterm (w : World) : takerIn (KK w) 728 "term" = some none := by kernel_rfl
theorem fExistsXvariable (w : World) : findIn (KK w) (.ref 728) "variable" = some none := by kernel_rfl
theorem fExistsXterm (w : World) : findIn (KK w) (.ref 728) "term" = some none := by kernel_rfl
theorem tNegatedXterm (w : World) : takerIn (KK w) 815 "term" = some none := by kernel_rfl
theorem fNegatedXterm (w : World) : findIn (KK w) (.ref 815) "term" = some none := by kernel_rfl
theorem tAndXfirst (w : World) : takerIn (KK w) 914 "first" = some none := by kernel_rfl
theorem tAndXsecond (w : World) : takerIn (KK w) 914 "second" = some none := by kernel_rfl
theorem fAndXfirst (w : World) : findIn (KK w) (.ref 914) "first" = some none := by kernel_rfl
theorem fAndXsecond (w : World) : findIn (KK w) (.ref 914) "second" = some none := by kernel_rfl
theorem tOrXfirst (w : World) : takerIn (KK w) 954 "first" = some none := by kernel_rfl
theorem tOrXsecond (w : World) : takerIn (KK w) 954 "second" = some none := by kernel_rfl
theorem fOrXfirst (w : World) : findIn (KK w) (.ref 954) "first" = some none := by kernel_rfl
theorem fOrXsecond (w : World) : findIn (KK w) (.ref 954) "second" = some none := by kernel_rfl
theorem tImpXfirst (w : World) : takerIn (KK w) 987 "first" = some none := by kernel_rfl
theorem tImpXsecond (w : World) : takerIn (KK w) 987 "second" = some none := by kernel_rfl
theorem fImpXfirst (w : World) : findIn (KK w) (.ref 987) "first" = some none := by kernel_rfl
theorem fImpXsecond (w : World) : findIn (KK w) (.ref 987) "second" = some none := by kernel_rfl
theorem tIffXfirst (w : World) : takerIn (KK w) 1020 "first" = some none := by kernel_rfl
theorem tIffXsecond (w : World) : takerIn (KK w) 1020 "second" = some none := by kernel_rfl
theorem fIffXfirst (w : World) : findIn (KK w) (.ref 1020) "first" = some none := by kernel_rfl
theorem fIffXsecond (w : World) : findIn (KK w) (.ref 1020) "second" = some none := by kernel_rfl
theorem tClauseXdata (w : World) : takerIn (KK w) 1188 "data" = some none := by kernel_rfl
theorem tClauseXis_tautology (w : World) : takerIn (KK w) 1188 "_is_tautology" = some none := by kernel_rfl
theorem tClauseXparents (w : World) : takerIn (KK w) 1188 "_parents" = some none := by kernel_rfl
theorem fClauseXdata (w : World) : findIn (KK w) (.ref 1188) "data" = some none := by kernel_rfl
theorem ty36 (w : World) : typeIn (KK w) (.ref 36) = some (.type "function") := by kernel_rfl
theorem ty43 (w : World) : typeIn (KK w) (.ref 43) = some (.type "function") := by kernel_rfl
theorem ty57 (w : World) : typeIn (KK w) (.ref 57) = some (.type "function") := by kernel_rfl
theorem ty102 (w : World) : typeIn (KK w) (.ref 102) = some (.type "function") := by kernel_rfl
theorem ty109 (w : World) : typeIn (KK w) (.ref 109) = some (.type "function") := by kernel_rfl
theorem ty138 (w : World) : typeIn (KK w) (.ref 138) = some (.type "function") := by kernel_rfl
theorem ty212 (w : World) : typeIn (KK w) (.ref 212) = some (.type "function") := by kernel_rfl
theorem ty226 (w : World) : typeIn (KK w) (.ref 226) = some (.type "function") := by kernel_rfl
theorem ty233 (w : World) : typeIn (KK w) (.ref 233) = some (.type "function") := by kernel_rfl
theorem ty269 (w : World) : typeIn (KK w) (.ref 269) = some (.type "function") := by kernel_rfl
theorem ty283 (w : World) : typeIn (KK w) (.ref 283) = some (.type "function") := by kernel_rfl
theorem ty295 (w : World) : typeIn (KK w) (.ref 295) = some (.type "function") := by kernel_rfl
theorem ty302 (w : World) : typeIn (KK w) (.ref 302) = some (.type "function") := by kernel_rfl
theorem ty342 (w : World) : typeIn (KK w) (.ref 342) = some (.type "function") := by kernel_rfl
theorem ty356 (w : World) : typeIn (KK w) (.ref 356) = some (.type "function") := by kernel_rfl
theorem ty363 (w : World) : typeIn (KK w) (.ref 363) = some (.type "function") := by kernel_rfl
theorem ty377 (w : World) : typeIn (KK w) (.ref 377) = some (.type "function") := by kernel_rfl
theorem ty440 (w : World) : typeIn (KK w) (.ref 440) = some (.type "function") := by kernel_rfl
theorem ty455 (w : World) : typeIn (KK w) (.ref 455) = some (.type "function") := by kernel_rfl
theorem ty502 (w : World) : typeIn (KK w) (.ref 502) = some (.type "function") := by kernel_rfl
theorem ty509 (w : World) : typeIn (KK w) (.ref 509) = some (.type "function") := by kernel_rfl
theorem ty566 (w : World) : typeIn (KK w) (.ref 566) = some (.type "function") := by kernel_rfl
theorem ty573 (w : World) : typeIn (KK w) (.ref 573) = some (.type "function") := by kernel_rfl
theorem ty585 (w : World) : typeIn (KK w) (.ref 585) = some (.type "function") := by kernel_rfl
theorem ty599 (w : World) : typeIn (KK w) (.ref 599) = some (.type "function") := by kernel_rfl
theorem ty777 (w : World) : typeIn (KK w) (.ref 777) = some (.type "function") := by kernel_rfl
theorem ty784 (w : World) : typeIn (KK w) (.ref 784) = some (.type "function") := by kernel_rfl
theorem ty791 (w : World) : typeIn (KK w) (.ref 791) = some (.type "function") := by kernel_rfl
theorem ty831 (w : World) : typeIn (KK w) (.ref 831) = some (.type "function") := by kernel_rfl
theorem ty838 (w : World) : typeIn (KK w) (.ref 838) = some (.type "function") := by kernel_rfl
theorem ty890 (w : World) : typeIn (KK w) (.ref 890) = some (.type "function") := by kernel_rfl
theorem ty930 (w : World) : typeIn (KK w) (.ref 930) = some (.type "function") := by kernel_rfl
theorem ty1062 (w : World) : typeIn (KK w) (.ref 1062) = some (.type "function") := by kernel_rfl
theorem ty1069 (w : World) : typeIn (KK w) (.ref 1069) = some (.type "function") := by kernel_rfl
theorem ty1076 (w : World) : typeIn (KK w) (.ref 1076) = some (.type "function") := by kernel_rfl
theorem ty1083 (w : World) : typeIn (KK w) (.ref 1083) = some (.type "function") := by kernel_rfl
theorem ty1091 (w : World) : typeIn (KK w) (.ref 1091) = some (.type "function") := by kernel_rfl
theorem ty1098 (w : World) : typeIn (KK w) (.ref 1098) = some (.type "function") := by kernel_rfl
theorem ty1125 (w : World) : typeIn (KK w) (.ref 1125) = some (.type "function") := by kernel_rfl
theorem ty1132 (w : World) : typeIn (KK w) (.ref 1132) = some (.type "function") := by kernel_rfl
theorem ty1139 (w : World) : typeIn (KK w) (.ref 1139) = some (.type "function") := by kernel_rfl
theorem ty1173 (w : World) : typeIn (KK w) (.ref 1173) = some (.type "function") := by kernel_rfl
theorem ty1178 (w : World) : typeIn (KK w) (.ref 1178) = some (.type "function") := by kernel_rfl
theorem ty1200 (w : World) : typeIn (KK w) (.ref 1200) = some (.type "function") := by kernel_rfl
theorem ty1207 (w : World) : typeIn (KK w) (.ref 1207) = some (.type "function") := by kernel_rfl
theorem ty1214 (w : World) : typeIn (KK w) (.ref 1214) = some (.type "function") := by kernel_rfl
theorem ty1221 (w : World) : typeIn (KK w) (.ref 1221) = some (.type "function") := by kernel_rfl
theorem ty1228 (w : World) : typeIn (KK w) (.ref 1228) = some (.type "function") := by kernel_rfl
theorem ty1235 (w : World) : typeIn (KK w) (.ref 1235) = some (.type "function") := by kernel_rfl
theorem ty1242 (w : World) : typeIn (KK w) (.ref 1242) = some (.type "function") := by kernel_rfl
theorem ty1249 (w : World) : typeIn (KK w) (.ref 1249) = some (.type "function") := by kernel_rfl
theorem ty1256 (w : World) : typeIn (KK w) (.ref 1256) = some (.type "function") := by kernel_rfl
theorem ty1261 (w : World) : typeIn (KK w) (.ref 1261) = some (.type "function") := by kernel_rfl
theorem ty1266 (w : World) : typeIn (KK w) (.ref 1266) = some (.type "function") := by kernel_rfl
theorem fCounterXget (w : World) : findIn (KK w) (.ref 46) "get" = some (some (.ref 43)) := by kernel_rfl
theorem fVariableXeq (w : World) : findIn (KK w) (.ref 126) "__eq__" = some (some (.ref 109)) := by kernel_rfl
theorem fAndXneg (w : World) : findIn (KK w) (.ref 914) "__neg__" = some (some (.ref 212)) := by kernel_rfl
theorem fOrXneg (w : World) : findIn (KK w) (.ref 954) "__neg__" = some (some (.ref 212)) := by kernel_rfl
theorem fNegatedXneg (w : World) : findIn (KK w) (.ref 815) "__neg__" = some (some (.ref 212)) := by kernel_rfl
theorem fApplicationXneg (w : World) : findIn (KK w) (.ref 424) "__neg__" = some (some (.ref 212)) := by kernel_rfl
theorem fAllXneg (w : World) : findIn (KK w) (.ref 761) "__neg__" = some (some (.ref 212)) := by kernel_rfl
theorem fImpXneg (w : World) : findIn (KK w) (.ref 987) "__neg__" = some (some (.ref 212)) := by kernel_rfl
theorem fIffXneg (w : World) : findIn (KK w) (.ref 1020) "__neg__" = some (some (.ref 212)) := by kernel_rfl
theorem fAndXand (w : World) : findIn (KK w) (.ref 914) "__and__" = some (some (.ref 226)) := by kernel_rfl
theorem fAndXor (w : World) : findIn (KK w) (.ref 914) "__or__" = some (some (.ref 233)) := by kernel_rfl
theorem fAndXreplace (w : World) : findIn (KK w) (.ref 914) "replace" = some (some (.ref 269)) := by kernel_rfl
theorem fAndXvisit_structured (w : World) : findIn (KK w) (.ref 914) "visit_structured" = some (some (.ref 283)) := by kernel_rfl
theorem fOrXand (w : World) : findIn (KK w) (.ref 954) "__and__" = some (some (.ref 226)) := by kernel_rfl
theorem fOrXor (w : World) : findIn (KK w) (.ref 954) "__or__" = some (some (.ref 233)) := by kernel_rfl
theorem fOrXreplace (w : World) : findIn (KK w) (.ref 954) "replace" = some (some (.ref 269)) := by kernel_rfl
theorem fOrXvisit_structured (w : World) : findIn (KK w) (.ref 954) "visit_structured" = some (some (.ref 283)) := by kernel_rfl
theorem fNegatedXand (w : World) : findIn (KK w) (.ref 815) "__and__" = some (some (.ref 226)) := by kernel_rfl
theorem fNegatedXor (w : World) : findIn (KK w) (.ref 815) "__or__" = some (some (.ref 233)) := by kernel_rfl
theorem fNegatedXreplace (w : World) : findIn (KK w) (.ref 815) "replace" = some (some (.ref 269)) := by kernel_rfl
theorem fNegatedXvisit_structured (w : World) : findIn (KK w) (.ref 815) "visit_structured" = some (some (.ref 283)) := by kernel_rfl
theorem fApplicationXand (w : World) : findIn (KK w) (.ref 424) "__and__" = some (some (.ref 226)) := by kernel_rfl
theorem fApplicationXor (w : World) : findIn (KK w) (.ref 424) "__or__" = some (some (.ref 233)) := by kernel_rfl
theorem fApplicationXreplace (w : World) : findIn (KK w) (.ref 424) "replace" = some (some (.ref 269)) := by kernel_rfl
theorem fApplicationXvisit_structured (w : World) : findIn (KK w) (.ref 424) "visit_structured" = some (some (.ref 283)) := by kernel_rfl
theorem fApplicationXvisit (w : World) : findIn (KK w) (.ref 424) "visit" = some (some (.ref 377)) := by kernel_rfl
theorem fNegatedXvisit (w : World) : findIn (KK w) (.ref 815) "visit" = some (some (.ref 791)) := by kernel_rfl
theorem fAndXvisit (w : World) : findIn (KK w) (.ref 914) "visit" = some (some (.ref 838)) := by kernel_rfl
theorem fOrXvisit (w : World) : findIn (KK w) (.ref 954) "visit" = some (some (.ref 838)) := by kernel_rfl
theorem fApplicationXmade (w : World) : findIn (KK w) (.ref 424) "_made" = some (some (.ref 356)) := by kernel_rfl
theorem fNegatedXmade (w : World) : findIn (KK w) (.ref 815) "_made" = some (some (.ref 784)) := by kernel_rfl
theorem fAndXmade (w : World) : findIn (KK w) (.ref 914) "_made" = some (some (.ref 890)) := by kernel_rfl
theorem fOrXmade (w : World) : findIn (KK w) (.ref 954) "_made" = some (some (.ref 930)) := by kernel_rfl
theorem fNegatedXfree (w : World) : findIn (KK w) (.ref 815) "free" = some (some (.ref 295)) := by kernel_rfl
theorem fApplicationXfree (w : World) : findIn (KK w) (.ref 424) "free" = some (some (.ref 295)) := by kernel_rfl
theorem fNegatedXconstants (w : World) : findIn (KK w) (.ref 815) "constants" = some (some (.ref 302)) := by kernel_rfl
theorem fApplicationXconstants (w : World) : findIn (KK w) (.ref 424) "constants" = some (some (.ref 363)) := by kernel_rfl
theorem fIndividualXreplace (w : World) : findIn (KK w) (.ref 512) "replace" = some (some (.ref 455)) := by kernel_rfl
theorem fIndividualXfree (w : World) : findIn (KK w) (.ref 512) "free" = some (some (.ref 502)) := by kernel_rfl
theorem fIndividualXconstants (w : World) : findIn (KK w) (.ref 512) "constants" = some (some (.ref 509)) := by kernel_rfl
theorem fConstantXreplace (w : World) : findIn (KK w) (.ref 576) "replace" = some (some (.ref 455)) := by kernel_rfl
theorem fConstantXfree (w : World) : findIn (KK w) (.ref 576) "free" = some (some (.ref 566)) := by kernel_rfl
theorem fConstantXconstants (w : World) : findIn (KK w) (.ref 576) "constants" = some (some (.ref 573)) := by kernel_rfl
theorem fClauseXgetitem (w : World) : findIn (KK w) (.ref 1188) "__getitem__" = some (some (.ref 1139)) := by kernel_rfl
theorem fClauseXlen (w : World) : findIn (KK w) (.ref 1188) "__len__" = some (some (.ref 1132)) := by kernel_rfl
theorem fClauseXfree (w : World) : findIn (KK w) (.ref 1188) "free" = some (some (.ref 1173)) := by kernel_rfl
theorem fClauseXreplace (w : World) : findIn (KK w) (.ref 1188) "replace" = some (some (.ref 1178)) := by kernel_rfl
theorem kp36 (w : World) : keepIn (KK w) (.ref 36) = true := by kernel_rfl
theorem kp43 (w : World) : keepIn (KK w) (.ref 43) = true := by kernel_rfl
theorem kp57 (w : World) : keepIn (KK w) (.ref 57) = true := by kernel_rfl
theorem kp102 (w : World) : keepIn (KK w) (.ref 102) = true := by kernel_rfl
theorem kp109 (w : World) : keepIn (KK w) (.ref 109) = true := by kernel_rfl
theorem kp138 (w : World) : keepIn (KK w) (.ref 138) = true := by kernel_rfl
theorem kp212 (w : World) : keepIn (KK w) (.ref 212) = true := by kernel_rfl
theorem kp226 (w : World) : keepIn (KK w) (.ref 226) = true := by kernel_rfl
theorem kp233 (w : World) : keepIn (KK w) (.ref 233) = true := by kernel_rfl
theorem kp269 (w : World) : keepIn (KK w) (.ref 269) = true := by kernel_rfl
theorem kp283 (w : World) : keepIn (KK w) (.ref 283) = true := by kernel_rfl
theorem kp295 (w : World) : keepIn (KK w) (.ref 295) = true := by kernel_rfl
theorem kp302 (w : World) : keepIn (KK w) (.ref 302) = true := by kernel_rfl
theorem kp342 (w : World) : keepIn (KK w) (.ref 342) = true := by kernel_rfl
theorem kp356 (w : World) : keepIn (KK w) (.ref 356) = true := by kernel_rfl
theorem kp363 (w : World) : keepIn (KK w) (.ref 363) = true := by kernel_rfl
theorem kp377 (w : World) : keepIn (KK w) (.ref 377) = true := by kernel_rfl
theorem kp440 (w : World) : keepIn (KK w) (.ref 440) = true := by kernel_rfl
theorem kp455 (w : World) : keepIn (KK w) (.ref 455) = true := by kernel_rfl
theorem kp502 (w : World) : keepIn (KK w) (.ref 502) = true := by kernel_rfl
theorem kp509 (w : World) : keepIn (KK w) (.ref 509) = true := by kernel_rfl
theorem kp566 (w : World) : keepIn (KK w) (.ref 566) = true := by kernel_rfl
theorem kp573 (w : World) : keepIn (KK w) (.ref 573) = true := by kernel_rfl
theorem kp585 (w : World) : keepIn (KK w) (.ref 585) = true := by kernel_rfl
theorem kp599 (w : World) : keepIn (KK w) (.ref 599) = true := by kernel_rfl
theorem kp777 (w : World) : keepIn (KK w) (.ref 777) = true := by kernel_rfl
theorem kp784 (w : World) : keepIn (KK w) (.ref 784) = true := by kernel_rfl
theorem kp791 (w : World) : keepIn (KK w) (.ref 791) = true := by kernel_rfl
theorem kp831 (w : World) : keepIn (KK w) (.ref 831) = true := by kernel_rfl
theorem kp838 (w : World) : keepIn (KK w) (.ref 838) = true := by kernel_rfl
theorem kp890 (w : World) : keepIn (KK w) (.ref 890) = true := by kernel_rfl
theorem kp930 (w : World) : keepIn (KK w) (.ref 930) = true := by kernel_rfl
theorem kp1062 (w : World) : keepIn (KK w) (.ref 1062) = true := by kernel_rfl
theorem kp1069 (w : World) : keepIn (KK w) (.ref 1069) = true := by kernel_rfl
theorem kp1076 (w : World) : keepIn (KK w) (.ref 1076) = true := by kernel_rfl
theorem kp1083 (w : World) : keepIn (KK w) (.ref 1083) = true := by kernel_rfl
theorem kp1091 (w : World) : keepIn (KK w) (.ref 1091) = true := by kernel_rfl
theorem kp1098 (w : World) : keepIn (KK w) (.ref 1098) = true := by kernel_rfl
theorem kp1125 (w : World) : keepIn (KK w) (.ref 1125) = true := by kernel_rfl
theorem kp1132 (w : World) : keepIn (KK w) (.ref 1132) = true := by kernel_rfl
theorem kp1139 (w : World) : keepIn (KK w) (.ref 1139) = true := by kernel_rfl
theorem kp1173 (w : World) : keepIn (KK w) (.ref 1173) = true := by kernel_rfl
theorem kp1178 (w : World) : keepIn (KK w) (.ref 1178) = true := by kernel_rfl
theorem kp1200 (w : World) : keepIn (KK w) (.ref 1200) = true := by kernel_rfl
theorem kp1207 (w : World) : keepIn (KK w) (.ref 1207) = true := by kernel_rfl
theorem kp1214 (w : World) : keepIn (KK w) (.ref 1214) = true := by kernel_rfl
theorem kp1221 (w : World) : keepIn (KK w) (.ref 1221) = true := by kernel_rfl
theorem kp1228 (w : World) : keepIn (KK w) (.ref 1228) = true := by kernel_rfl
theorem kp1235 (w : World) : keepIn (KK w) (.ref 1235) = true := by kernel_rfl
theorem kp1242 (w : World) : keepIn (KK w) (.ref 1242) = true := by kernel_rfl
theorem kp1249 (w : World) : keepIn (KK w) (.ref 1249) = true := by kernel_rfl
theorem kp1256 (w : World) : keepIn (KK w) (.ref 1256) = true := by kernel_rfl
theorem kp1261 (w : World) : keepIn (KK w) (.ref 1261) = true := by kernel_rfl
theorem kp1266 (w : World) : keepIn (KK w) (.ref 1266) = true := by kernel_rfl
theorem kpCounter (w : World) : keepIn (KK w) (.ref 46) = true := by kernel_rfl
theorem nCounter (w : World) : nsIn (KK w) mainGlobals "Counter" = some (some (.ref 46)) := by kernel_rfl
theorem kpVariable (w : World) : keepIn (KK w) (.ref 126) = true := by kernel_rfl
theorem nVariable (w : World) : nsIn (KK w) mainGlobals "Variable" = some (some (.ref 126)) := by kernel_rfl
theorem kpApplication (w : World) : keepIn (KK w) (.ref 424) = true := by kernel_rfl
theorem nApplication (w : World) : nsIn (KK w) mainGlobals "ApplicationExpression" = some (some (.ref 424)) := by kernel_rfl
theorem kpIndividual (w : World) : keepIn (KK w) (.ref 512) = true := by kernel_rfl
theorem nIndividual (w : World) : nsIn (KK w) mainGlobals "IndividualVariableExpression" = some (some (.ref 512)) := by kernel_rfl
theorem kpConstant (w : World) : keepIn (KK w) (.ref 576) = true := by kernel_rfl
theorem nConstant (w : World) : nsIn (KK w) mainGlobals "ConstantExpression" = some (some (.ref 576)) := by kernel_rfl
theorem kpAll (w : World) : keepIn (KK w) (.ref 761) = true := by kernel_rfl
theorem nAll (w : World) : nsIn (KK w) mainGlobals "AllExpression" = some (some (.ref 761)) := by kernel_rfl
theorem kpExists (w : World) : keepIn (KK w) (.ref 728) = true := by kernel_rfl
theorem nExists (w : World) : nsIn (KK w) mainGlobals "ExistsExpression" = some (some (.ref 728)) := by kernel_rfl
theorem kpNegated (w : World) : keepIn (KK w) (.ref 815) = true := by kernel_rfl
theorem nNegated (w : World) : nsIn (KK w) mainGlobals "NegatedExpression" = some (some (.ref 815)) := by kernel_rfl
theorem kpAnd (w : World) : keepIn (KK w) (.ref 914) = true := by kernel_rfl
theorem nAnd (w : World) : nsIn (KK w) mainGlobals "AndExpression" = some (some (.ref 914)) := by kernel_rfl
theorem kpOr (w : World) : keepIn (KK w) (.ref 954) = true := by kernel_rfl
theorem nOr (w : World) : nsIn (KK w) mainGlobals "OrExpression" = some (some (.ref 954)) := by kernel_rfl
theorem kpImp (w : World) : keepIn (KK w) (.ref 987) = true := by kernel_rfl
theorem nImp (w : World) : nsIn (KK w) mainGlobals "ImpExpression" = some (some (.ref 987)) := by kernel_rfl
theorem kpIff (w : World) : keepIn (KK w) (.ref 1020) = true := by kernel_rfl
theorem nIff (w : World) : nsIn (KK w) mainGlobals "IffExpression" = some (some (.ref 1020)) := by kernel_rfl
theorem kpClause (w : World) : keepIn (KK w) (.ref 1188) = true := by kernel_rfl
theorem nClause (w : World) : nsIn (KK w) mainGlobals "Clause" = some (some (.ref 1188)) := by kernel_rfl
theorem nExpression (w : World) : nsIn (KK w) mainGlobals "Expression" = some (some (.ref 326)) := by kernel_rfl
theorem nAbstract (w : World) : nsIn (KK w) mainGlobals "AbstractVariableExpression" = some (some (.ref 486)) := by kernel_rfl
theorem nEquality (w : World) : nsIn (KK w) mainGlobals "EqualityExpression" = some (some (.ref 1053)) := by kernel_rfl
theorem n57 (w : World) : nsIn (KK w) mainGlobals "_union" = some (some (.ref 57)) := by kernel_rfl
theorem n138 (w : World) : nsIn (KK w) mainGlobals "unique_variable" = some (some (.ref 138)) := by kernel_rfl
theorem n585 (w : World) : nsIn (KK w) mainGlobals "VariableExpression" = some (some (.ref 585)) := by kernel_rfl
theorem n1062 (w : World) : nsIn (KK w) mainGlobals "_is_letter_and_digits" = some (some (.ref 1062)) := by kernel_rfl
theorem n1069 (w : World) : nsIn (KK w) mainGlobals "is_indvar" = some (some (.ref 1069)) := by kernel_rfl
theorem n1076 (w : World) : nsIn (KK w) mainGlobals "is_funcvar" = some (some (.ref 1076)) := by kernel_rfl
theorem n1083 (w : World) : nsIn (KK w) mainGlobals "is_eventvar" = some (some (.ref 1083)) := by kernel_rfl
theorem n1091 (w : World) : nsIn (KK w) mainGlobals "skolemize" = some (some (.ref 1091)) := by kernel_rfl
theorem n1098 (w : World) : nsIn (KK w) mainGlobals "to_cnf" = some (some (.ref 1098)) := by kernel_rfl
theorem n1200 (w : World) : nsIn (KK w) mainGlobals "clausify" = some (some (.ref 1200)) := by kernel_rfl
theorem n1207 (w : World) : nsIn (KK w) mainGlobals "_clausify" = some (some (.ref 1207)) := by kernel_rfl
theorem n1214 (w : World) : nsIn (KK w) mainGlobals "_law_box" = some (some (.ref 1214)) := by kernel_rfl
theorem n1221 (w : World) : nsIn (KK w) mainGlobals "_law_take" = some (some (.ref 1221)) := by kernel_rfl
theorem n1228 (w : World) : nsIn (KK w) mainGlobals "_law_tree" = some (some (.ref 1228)) := by kernel_rfl
theorem n1235 (w : World) : nsIn (KK w) mainGlobals "_law_formula" = some (some (.ref 1235)) := by kernel_rfl
theorem n1242 (w : World) : nsIn (KK w) mainGlobals "_law_true" = some (some (.ref 1242)) := by kernel_rfl
theorem n1249 (w : World) : nsIn (KK w) mainGlobals "_law_atom" = some (some (.ref 1249)) := by kernel_rfl
theorem n1256 (w : World) : nsIn (KK w) mainGlobals "_law_parts" = some (some (.ref 1256)) := by kernel_rfl
theorem n1261 (w : World) : nsIn (KK w) mainGlobals "_law_clause" = some (some (.ref 1261)) := by kernel_rfl
theorem blen (w : World) : nsIn (KK w) mainGlobals "len" = some none := by kernel_rfl
theorem bstr (w : World) : nsIn (KK w) mainGlobals "str" = some none := by kernel_rfl
theorem babs (w : World) : nsIn (KK w) mainGlobals "abs" = some none := by kernel_rfl
theorem bsorted (w : World) : nsIn (KK w) mainGlobals "sorted" = some none := by kernel_rfl
theorem bset (w : World) : nsIn (KK w) mainGlobals "set" = some none := by kernel_rfl
theorem brange (w : World) : nsIn (KK w) mainGlobals "range" = some none := by kernel_rfl
theorem ball (w : World) : nsIn (KK w) mainGlobals "all" = some none := by kernel_rfl
theorem kApplicationX326 (w : World) : kitOne (KK w) (.ref 424) (.ref 326) = some true := by kernel_rfl
theorem kApplicationX761 (w : World) : kitOne (KK w) (.ref 424) (.ref 761) = some false := by kernel_rfl
theorem kApplicationX914 (w : World) : kitOne (KK w) (.ref 424) (.ref 914) = some false := by kernel_rfl
theorem kApplicationX954 (w : World) : kitOne (KK w) (.ref 424) (.ref 954) = some false := by kernel_rfl
theorem kApplicationX987 (w : World) : kitOne (KK w) (.ref 424) (.ref 987) = some false := by kernel_rfl
theorem kApplicationX1020 (w : World) : kitOne (KK w) (.ref 424) (.ref 1020) = some false := by kernel_rfl
theorem kApplicationX1053 (w : World) : kitOne (KK w) (.ref 424) (.ref 1053) = some false := by kernel_rfl
theorem kApplicationX815 (w : World) : kitOne (KK w) (.ref 424) (.ref 815) = some false := by kernel_rfl
theorem kApplicationX728 (w : World) : kitOne (KK w) (.ref 424) (.ref 728) = some false := by kernel_rfl
theorem kApplicationX424 (w : World) : kitOne (KK w) (.ref 424) (.ref 424) = some true := by kernel_rfl
theorem kIndividualX326 (w : World) : kitOne (KK w) (.ref 512) (.ref 326) = some true := by kernel_rfl
theorem kIndividualX512 (w : World) : kitOne (KK w) (.ref 512) (.ref 512) = some true := by kernel_rfl
theorem kIndividualX486 (w : World) : kitOne (KK w) (.ref 512) (.ref 486) = some true := by kernel_rfl
theorem kIndividualX424 (w : World) : kitOne (KK w) (.ref 512) (.ref 424) = some false := by kernel_rfl
theorem kConstantX326 (w : World) : kitOne (KK w) (.ref 576) (.ref 326) = some true := by kernel_rfl
theorem kConstantX576 (w : World) : kitOne (KK w) (.ref 576) (.ref 576) = some true := by kernel_rfl
theorem kConstantX486 (w : World) : kitOne (KK w) (.ref 576) (.ref 486) = some true := by kernel_rfl
theorem kConstantX424 (w : World) : kitOne (KK w) (.ref 576) (.ref 424) = some false := by kernel_rfl
theorem kAllX326 (w : World) : kitOne (KK w) (.ref 761) (.ref 326) = some true := by kernel_rfl
theorem kAllX761 (w : World) : kitOne (KK w) (.ref 761) (.ref 761) = some true := by kernel_rfl
theorem kAllX914 (w : World) : kitOne (KK w) (.ref 761) (.ref 914) = some false := by kernel_rfl
theorem kAllX954 (w : World) : kitOne (KK w) (.ref 761) (.ref 954) = some false := by kernel_rfl
theorem kAllX987 (w : World) : kitOne (KK w) (.ref 761) (.ref 987) = some false := by kernel_rfl
theorem kAllX1020 (w : World) : kitOne (KK w) (.ref 761) (.ref 1020) = some false := by kernel_rfl
theorem kAllX1053 (w : World) : kitOne (KK w) (.ref 761) (.ref 1053) = some false := by kernel_rfl
theorem kAllX815 (w : World) : kitOne (KK w) (.ref 761) (.ref 815) = some false := by kernel_rfl
theorem kAllX728 (w : World) : kitOne (KK w) (.ref 761) (.ref 728) = some false := by kernel_rfl
theorem kAllX424 (w : World) : kitOne (KK w) (.ref 761) (.ref 424) = some false := by kernel_rfl
theorem kExistsX326 (w : World) : kitOne (KK w) (.ref 728) (.ref 326) = some true := by kernel_rfl
theorem kExistsX761 (w : World) : kitOne (KK w) (.ref 728) (.ref 761) = some false := by kernel_rfl
theorem kExistsX914 (w : World) : kitOne (KK w) (.ref 728) (.ref 914) = some false := by kernel_rfl
theorem kExistsX954 (w : World) : kitOne (KK w) (.ref 728) (.ref 954) = some false := by kernel_rfl
theorem kExistsX987 (w : World) : kitOne (KK w) (.ref 728) (.ref 987) = some false := by kernel_rfl
theorem kExistsX1020 (w : World) : kitOne (KK w) (.ref 728) (.ref 1020) = some false := by kernel_rfl
theorem kExistsX1053 (w : World) : kitOne (KK w) (.ref 728) (.ref 1053) = some false := by kernel_rfl
theorem kExistsX815 (w : World) : kitOne (KK w) (.ref 728) (.ref 815) = some false := by kernel_rfl
theorem kExistsX728 (w : World) : kitOne (KK w) (.ref 728) (.ref 728) = some true := by kernel_rfl
theorem kExistsX424 (w : World) : kitOne (KK w) (.ref 728) (.ref 424) = some false := by kernel_rfl
theorem kNegatedX326 (w : World) : kitOne (KK w) (.ref 815) (.ref 326) = some true := by kernel_rfl
theorem kNegatedX761 (w : World) : kitOne (KK w) (.ref 815) (.ref 761) = some false := by kernel_rfl
theorem kNegatedX914 (w : World) : kitOne (KK w) (.ref 815) (.ref 914) = some false := by kernel_rfl
theorem kNegatedX954 (w : World) : kitOne (KK w) (.ref 815) (.ref 954) = some false := by kernel_rfl
theorem kNegatedX987 (w : World) : kitOne (KK w) (.ref 815) (.ref 987) = some false := by kernel_rfl
theorem kNegatedX1020 (w : World) : kitOne (KK w) (.ref 815) (.ref 1020) = some false := by kernel_rfl
theorem kNegatedX1053 (w : World) : kitOne (KK w) (.ref 815) (.ref 1053) = some false := by kernel_rfl
theorem kNegatedX815 (w : World) : kitOne (KK w) (.ref 815) (.ref 815) = some true := by kernel_rfl
theorem kNegatedX728 (w : World) : kitOne (KK w) (.ref 815) (.ref 728) = some false := by kernel_rfl
theorem kNegatedX424 (w : World) : kitOne (KK w) (.ref 815) (.ref 424) = some false := by kernel_rfl
theorem kAndX326 (w : World) : kitOne (KK w) (.ref 914) (.ref 326) = some true := by kernel_rfl
theorem kAndX761 (w : World) : kitOne (KK w) (.ref 914) (.ref 761) = some false := by kernel_rfl
theorem kAndX914 (w : World) : kitOne (KK w) (.ref 914) (.ref 914) = some true := by kernel_rfl
theorem kAndX954 (w : World) : kitOne (KK w) (.ref 914) (.ref 954) = some false := by kernel_rfl
theorem kAndX987 (w : World) : kitOne (KK w) (.ref 914) (.ref 987) = some false := by kernel_rfl
theorem kAndX1020 (w : World) : kitOne (KK w) (.ref 914) (.ref 1020) = some false := by kernel_rfl
theorem kAndX1053 (w : World) : kitOne (KK w) (.ref 914) (.ref 1053) = some false := by kernel_rfl
theorem kAndX815 (w : World) : kitOne (KK w) (.ref 914) (.ref 815) = some false := by kernel_rfl
theorem kAndX728 (w : World) : kitOne (KK w) (.ref 914) (.ref 728) = some false := by kernel_rfl
theorem kAndX424 (w : World) : kitOne (KK w) (.ref 914) (.ref 424) = some false := by kernel_rfl
theorem kOrX326 (w : World) : kitOne (KK w) (.ref 954) (.ref 326) = some true := by kernel_rfl
theorem kOrX761 (w : World) : kitOne (KK w) (.ref 954) (.ref 761) = some false := by kernel_rfl
theorem kOrX914 (w : World) : kitOne (KK w) (.ref 954) (.ref 914) = some false := by kernel_rfl
theorem kOrX954 (w : World) : kitOne (KK w) (.ref 954) (.ref 954) = some true := by kernel_rfl
theorem kOrX987 (w : World) : kitOne (KK w) (.ref 954) (.ref 987) = some false := by kernel_rfl
theorem kOrX1020 (w : World) : kitOne (KK w) (.ref 954) (.ref 1020) = some false := by kernel_rfl
theorem kOrX1053 (w : World) : kitOne (KK w) (.ref 954) (.ref 1053) = some false := by kernel_rfl
theorem kOrX815 (w : World) : kitOne (KK w) (.ref 954) (.ref 815) = some false := by kernel_rfl
theorem kOrX728 (w : World) : kitOne (KK w) (.ref 954) (.ref 728) = some false := by kernel_rfl
theorem kOrX424 (w : World) : kitOne (KK w) (.ref 954) (.ref 424) = some false := by kernel_rfl
theorem kImpX326 (w : World) : kitOne (KK w) (.ref 987) (.ref 326) = some true := by kernel_rfl
theorem kImpX761 (w : World) : kitOne (KK w) (.ref 987) (.ref 761) = some false := by kernel_rfl
theorem kImpX914 (w : World) : kitOne (KK w) (.ref 987) (.ref 914) = some false := by kernel_rfl
theorem kImpX954 (w : World) : kitOne (KK w) (.ref 987) (.ref 954) = some false := by kernel_rfl
theorem kImpX987 (w : World) : kitOne (KK w) (.ref 987) (.ref 987) = some true := by kernel_rfl
theorem kImpX1020 (w : World) : kitOne (KK w) (.ref 987) (.ref 1020) = some false := by kernel_rfl
theorem kImpX1053 (w : World) : kitOne (KK w) (.ref 987) (.ref 1053) = some false := by kernel_rfl
theorem kImpX815 (w : World) : kitOne (KK w) (.ref 987) (.ref 815) = some false := by kernel_rfl
theorem kImpX728 (w : World) : kitOne (KK w) (.ref 987) (.ref 728) = some false := by kernel_rfl
theorem kImpX424 (w : World) : kitOne (KK w) (.ref 987) (.ref 424) = some false := by kernel_rfl
theorem kIffX326 (w : World) : kitOne (KK w) (.ref 1020) (.ref 326) = some true := by kernel_rfl
theorem kIffX761 (w : World) : kitOne (KK w) (.ref 1020) (.ref 761) = some false := by kernel_rfl
theorem kIffX914 (w : World) : kitOne (KK w) (.ref 1020) (.ref 914) = some false := by kernel_rfl
theorem kIffX954 (w : World) : kitOne (KK w) (.ref 1020) (.ref 954) = some false := by kernel_rfl
theorem kIffX987 (w : World) : kitOne (KK w) (.ref 1020) (.ref 987) = some false := by kernel_rfl
theorem kIffX1020 (w : World) : kitOne (KK w) (.ref 1020) (.ref 1020) = some true := by kernel_rfl
theorem kIffX1053 (w : World) : kitOne (KK w) (.ref 1020) (.ref 1053) = some false := by kernel_rfl
theorem kIffX815 (w : World) : kitOne (KK w) (.ref 1020) (.ref 815) = some false := by kernel_rfl
theorem kIffX728 (w : World) : kitOne (KK w) (.ref 1020) (.ref 728) = some false := by kernel_rfl
theorem kIffX424 (w : World) : kitOne (KK w) (.ref 1020) (.ref 424) = some false := by kernel_rfl
theorem kVariableX126 (w : World) : kitOne (KK w) (.ref 126) (.ref 126) = some true := by kernel_rfl
theorem sfAnd (w : World) : selfFirst (KK w) 914 = true := by kernel_rfl
theorem sfOr (w : World) : selfFirst (KK w) 954 = true := by kernel_rfl
theorem sfNegated (w : World) : selfFirst (KK w) 815 = true := by kernel_rfl
theorem sfApplication (w : World) : selfFirst (KK w) 424 = true := by kernel_rfl
end Mine
end

section
open PySem PySem.W PySem.Spec PySem.Calls PyProof.Rows
set_option Elab.async false
set_option maxRecDepth 100000
namespace Mine
set_option linter.unusedVariables false
theorem boot_str : bootBuiltins "str" = some (.type "str") := by boot_fast
noncomputable abbrev occ (x y : Str) : Bool := !(Builtin.Str.occurrences x y 0 x.length 1).isEmpty
/-- what _is_letter_and_digits says -/
noncomputable def letDig (letters n : Str) : Bool := match n.cps.toList with
  | [] => false
  | c :: r => occ letters ⟨#[c]⟩ && r.all fun c => occ "0123456789" ⟨#[c]⟩
noncomputable def isInd (n : Str) : Bool := letDig "abcdfghijklmnopqrstuvwxyz" n
noncomputable def isFun (n : Str) : Bool := letDig "ABCDEFGHIJKLMNOPQRSTUVWXYZ" n
noncomputable def isEv (n : Str) : Bool := letDig "e" n
noncomputable def tcls (n : Str) : Addr := if isInd n then 512 else 576
noncomputable abbrev dE (w : World) (k : String) (t : Tok) (v : Value) : DictEntry := ⟨PyData.keyHash w.params (Str.ofString k), .str (Str.ofString k) t, v⟩

noncomputable def VarR (w : World) (nw : List Ent) (n : Str) (v : Value) : Prop := ∃ y t tk, v = .ref y ∧ Inst nw y 126 [dE w "name" tk (.str n t)]
noncomputable def TermR (w : World) (nw : List Ent) (n : Str) (v : Value) : Prop := ∃ y u tk, v = .ref y ∧ Inst nw y (tcls n) [dE w "variable" tk u] ∧ VarR w nw n u
inductive Fm where
  | app (f a : Str)
  | neg (a : Fm)
  | and (a b : Fm)
  | or (a b : Fm)
  | imp (a b : Fm)
  | iff (a b : Fm)
  | all (x : Str) (a : Fm)
  | ex (x : Str) (a : Fm)
noncomputable def Rep (w : World) (nw : List Ent) : Fm → Value → Prop
  | .app f a, v => ∃ y p q t1 t2, v = .ref y ∧ Inst nw y 424 [dE w "function" t1 p, dE w "argument" t2 q] ∧ TermR w nw f p ∧ TermR w nw a q
  | .neg a, v => ∃ y p t1, v = .ref y ∧ Inst nw y 815 [dE w "term" t1 p] ∧ Rep w nw a p
  | .and a b, v => ∃ y p q t1 t2, v = .ref y ∧ Inst nw y 914 [dE w "first" t1 p, dE w "second" t2 q] ∧ Rep w nw a p ∧ Rep w nw b q
  | .or a b, v => ∃ y p q t1 t2, v = .ref y ∧ Inst nw y 954 [dE w "first" t1 p, dE w "second" t2 q] ∧ Rep w nw a p ∧ Rep w nw b q
  | .imp a b, v => ∃ y p q t1 t2, v = .ref y ∧ Inst nw y 987 [dE w "first" t1 p, dE w "second" t2 q] ∧ Rep w nw a p ∧ Rep w nw b q
  | .iff a b, v => ∃ y p q t1 t2, v = .ref y ∧ Inst nw y 1020 [dE w "first" t1 p, dE w "second" t2 q] ∧ Rep w nw a p ∧ Rep w nw b q
  | .all x a, v => ∃ y p q t1 t2, v = .ref y ∧ Inst nw y 761 [dE w "variable" t1 p, dE w "term" t2 q] ∧ VarR w nw x p ∧ Rep w nw a q
  | .ex x a, v => ∃ y p q t1 t2, v = .ref y ∧ Inst nw y 728 [dE w "variable" t1 p, dE w "term" t2 q] ∧ VarR w nw x p ∧ Rep w nw a q
theorem VarR.mono {w : World} {nw nw' : List Ent} {n : Str} {v : Value} (x : VarR w nw n v) (h : Le nw nw') : VarR w nw' n v := let ⟨y, t, tk, a, b⟩ := x; ⟨y, t, tk, a, b.mono h⟩
theorem TermR.mono {w : World} {nw nw' : List Ent} {n : Str} {v : Value} (x : TermR w nw n v) (h : Le nw nw') : TermR w nw' n v := let ⟨y, t, tk, a, b, c⟩ := x; ⟨y, t, tk, a, b.mono h, c.mono h⟩
theorem Rep.mono {w : World} {nw nw' : List Ent} (h : Le nw nw') : ∀ {f : Fm} {v : Value}, Rep w nw f v → Rep w nw' f v
  | .app _ _, _, ⟨y, p, q, t1, t2, a, b, c, d⟩ => ⟨y, p, q, t1, t2, a, b.mono h, c.mono h, d.mono h⟩
  | .neg _, _, ⟨y, p, t1, a, b, c⟩ => ⟨y, p, t1, a, b.mono h, Rep.mono h c⟩
  | .and _ _, _, ⟨y, p, q, t1, t2, a, b, c, d⟩ => ⟨y, p, q, t1, t2, a, b.mono h, Rep.mono h c, Rep.mono h d⟩
  | .or _ _, _, ⟨y, p, q, t1, t2, a, b, c, d⟩ => ⟨y, p, q, t1, t2, a, b.mono h, Rep.mono h c, Rep.mono h d⟩
  | .imp _ _, _, ⟨y, p, q, t1, t2, a, b, c, d⟩ => ⟨y, p, q, t1, t2, a, b.mono h, Rep.mono h c, Rep.mono h d⟩
  | .iff _ _, _, ⟨y, p, q, t1, t2, a, b, c, d⟩ => ⟨y, p, q, t1, t2, a, b.mono h, Rep.mono h c, Rep.mono h d⟩
  | .all _ _, _, ⟨y, p, q, t1, t2, a, b, c, d⟩ => ⟨y, p, q, t1, t2, a, b.mono h, c.mono h, Rep.mono h d⟩
  | .ex _ _, _, ⟨y, p, q, t1, t2, a, b, c, d⟩ => ⟨y, p, q, t1, t2, a, b.mono h, c.mono h, Rep.mono h d⟩
theorem VarR.isA {w : World} {nw : List Ent} {n : Str} {v : Value} (x : VarR w nw n v) : IsA w nw 126 v := let ⟨y, _, _, a, b⟩ := x; ⟨y, 126, _, a, b, okVariable w, kVariableX126 w⟩
theorem ok_tcls (w : World) (n : Str) : ClsOk w (tcls n) := by
  unfold tcls; split
  · exact okIndividual w
  · exact okConstant w
theorem k_tcls326 (w : World) (n : Str) : kitOne (KK w) (.ref (tcls n)) (.ref 326) = some true := by
  unfold tcls; split
  · exact kIndividualX326 w
  · exact kConstantX326 w
theorem k_tcls486 (w : World) (n : Str) : kitOne (KK w) (.ref (tcls n)) (.ref 486) = some true := by
  unfold tcls; split
  · exact kIndividualX486 w
  · exact kConstantX486 w
theorem TermR.isA {w : World} {nw : List Ent} {n : Str} {v : Value} (x : TermR w nw n v) : IsA w nw 326 v :=
  let ⟨y, _, _, a, b, _⟩ := x; ⟨y, tcls n, _, a, b, ok_tcls w n, k_tcls326 w n⟩
theorem TermR.isV {w : World} {nw : List Ent} {n : Str} {v : Value} (x : TermR w nw n v) : IsA w nw 486 v :=
  let ⟨y, _, _, a, b, _⟩ := x; ⟨y, tcls n, _, a, b, ok_tcls w n, k_tcls486 w n⟩
theorem Rep.isA {w : World} {nw : List Ent} : ∀ {f : Fm} {v : Value}, Rep w nw f v → IsA w nw 326 v
  | .app _ _, _, ⟨y, _, _, _, _, a, b, _⟩ => ⟨y, _, _, a, b, okApplication w, kApplicationX326 w⟩
  | .neg _, _, ⟨y, _, _, a, b, _⟩ => ⟨y, _, _, a, b, okNegated w, kNegatedX326 w⟩
  | .and _ _, _, ⟨y, _, _, _, _, a, b, _⟩ => ⟨y, _, _, a, b, okAnd w, kAndX326 w⟩
  | .or _ _, _, ⟨y, _, _, _, _, a, b, _⟩ => ⟨y, _, _, a, b, okOr w, kOrX326 w⟩
  | .imp _ _, _, ⟨y, _, _, _, _, a, b, _⟩ => ⟨y, _, _, a, b, okImp w, kImpX326 w⟩
  | .iff _ _, _, ⟨y, _, _, _, _, a, b, _⟩ => ⟨y, _, _, a, b, okIff w, kIffX326 w⟩
  | .all _ _, _, ⟨y, _, _, _, _, a, b, _⟩ => ⟨y, _, _, a, b, okAll w, kAllX326 w⟩
  | .ex _ _, _, ⟨y, _, _, _, _, a, b, _⟩ => ⟨y, _, _, a, b, okExists w, kExistsX326 w⟩

section
variable {w : World} {z : Shared} {H : Heap} {mu nw : List Ent} {L a : Addr} {m : Str → Option Value} {s : Shared} {A : Around} {E : Value → Shared → Prop} {d : Nat} {R : Result → Shared → Prop}

theorem init_Negated {x dx C : Addr} {t : Value} (Z : Sit w z H ((dx, dictOf [] 0) :: mu) nw L m s) (rm : Room A 1) (ok : ClsOk w C) (ht : takerIn (KK w) C "term" = some none) (hx : (x, instObj C dx) ∈ nw) (it : IsA w nw 326 t)
    (h : ∀ tk s', Sit w z H ((dx, dictOf [dE w "term" tk t] 1) :: mu) nw L m s' → R (.ok (.ret .none)) s') :
    codeAny (Md w) A (.call (.ref 777) ⟨[.ref x, t], []⟩) R s := by
  refine enter (binds := [("self", .ref x), ("term", t)]) (rb := [("term", t), ("self", .ref x)]) Z rm rfl (by kernel_rfl) (BindsTo.of_eq rfl) rfl (by decide) (locs rfl) ⟨rfl, rfl, rfl⟩ fun L' s₁ oL ns Z1 rm1 => ?_
  refine x_seq (x_assA Z1 rfl it (nExpression w) fun s₂ Z2 => ?_)
  refine x_seq (x_setN Z2.swap rfl rfl hx ok ht rfl (by decide) fun tk s₃ Z3 => ?_)
  exact wpAny_execs_nil (h tk s₃ (Z.back ns Z3.swap))
theorem mk_neg {f : Fm} {t : Value} (Z : Sit w z H mu nw L m s) (rm : Room A 2) (it : Rep w nw f t)
    (h : ∀ v nw' s', Le nw nw' → Sit w z H mu nw' L m s' → Rep w nw' (.neg f) v → R (.ok (.ret v)) s') : codeAny (Md w) A (.call (.ref 815) ⟨[t], []⟩) R s :=
  r_make Z (mkNegated w) (fNegatedXinit w) (ty777 w) fun x dx s₁ Z1 => init_Negated Z1 (Room.make rm) (okNegated w) (tNegatedXterm w) (.head _) (it.isA.mono (Le.cons _ _)) fun tk s' Z' =>
    ⟨rfl, h _ _ _ (fun p hp => .tail _ (.tail _ hp)) Z'.freeze ⟨x, t, tk, rfl, ⟨dx, 1, .tail _ (.head _), .head _⟩, it.mono fun p hp => .tail _ (.tail _ hp)⟩⟩

theorem init_Binary {x dx C : Addr} {t u : Value} (Z : Sit w z H ((dx, dictOf [] 0) :: mu) nw L m s) (rm : Room A 1) (ok : ClsOk w C) (ht : takerIn (KK w) C "first" = some none) (hu : takerIn (KK w) C "second" = some none) (hx : (x, instObj C dx) ∈ nw) (it : IsA w nw 326 t) (iu : IsA w nw 326 u)
    (h : ∀ tk tk' s', Sit w z H ((dx, dictOf [dE w "first" tk t, dE w "second" tk' u] 2) :: mu) nw L m s' → R (.ok (.ret .none)) s') :
    codeAny (Md w) A (.call (.ref 831) ⟨[.ref x, t, u], []⟩) R s := by
  refine enter (binds := [("self", .ref x), ("first", t), ("second", u)]) (rb := [("second", u), ("first", t), ("self", .ref x)]) Z rm rfl (by kernel_rfl) (BindsTo.of_eq rfl) rfl (by decide) (locs rfl) ⟨rfl, rfl, rfl⟩ fun L' s₁ oL ns Z1 rm1 => ?_
  refine x_seq (x_assA Z1 rfl it (nExpression w) fun s₂ Z2 => ?_)
  refine x_seq (x_assA Z2 rfl iu (nExpression w) fun s₂ Z2 => ?_)
  refine x_seq (x_setN Z2.swap rfl rfl hx ok ht rfl (by decide) fun tk s₃ Z3 => ?_)
  refine x_seq (x_setN Z3 rfl rfl hx ok hu rfl (Nat.le_add_left 1 899) fun tk' s₄ Z4 => ?_)
  exact wpAny_execs_nil (h tk tk' s₄ (Z.back ns Z4.swap))
theorem mk_and {f g : Fm} {t u : Value} (Z : Sit w z H mu nw L m s) (rm : Room A 2) (it : Rep w nw f t) (iu : Rep w nw g u)
    (h : ∀ v nw' s', Le nw nw' → Sit w z H mu nw' L m s' → Rep w nw' (.and f g) v → R (.ok (.ret v)) s') : codeAny (Md w) A (.call (.ref 914) ⟨[t, u], []⟩) R s :=
  r_make Z (mkAnd w) (fAndXinit w) (ty831 w) fun x dx s₁ Z1 => init_Binary Z1 (Room.make rm) (okAnd w) (tAndXfirst w) (tAndXsecond w) (.head _) (it.isA.mono (Le.cons _ _)) (iu.isA.mono (Le.cons _ _)) fun tk tk' s' Z' =>
    ⟨rfl, h _ _ _ (fun p hp => .tail _ (.tail _ hp)) Z'.freeze ⟨x, t, u, tk, tk', rfl, ⟨dx, 2, .tail _ (.head _), .head _⟩, it.mono fun p hp => .tail _ (.tail _ hp), iu.mono fun p hp => .tail _ (.tail _ hp)⟩⟩
theorem mk_or {f g : Fm} {t u : Value} (Z : Sit w z H mu nw L m s) (rm : Room A 2) (it : Rep w nw f t) (iu : Rep w nw g u)
    (h : ∀ v nw' s', Le nw nw' → Sit w z H mu nw' L m s' → Rep w nw' (.or f g) v → R (.ok (.ret v)) s') : codeAny (Md w) A (.call (.ref 954) ⟨[t, u], []⟩) R s :=
  r_make Z (mkOr w) (fOrXinit w) (ty831 w) fun x dx s₁ Z1 => init_Binary Z1 (Room.make rm) (okOr w) (tOrXfirst w) (tOrXsecond w) (.head _) (it.isA.mono (Le.cons _ _)) (iu.isA.mono (Le.cons _ _)) fun tk tk' s' Z' =>
    ⟨rfl, h _ _ _ (fun p hp => .tail _ (.tail _ hp)) Z'.freeze ⟨x, t, u, tk, tk', rfl, ⟨dx, 2, .tail _ (.head _), .head _⟩, it.mono fun p hp => .tail _ (.tail _ hp), iu.mono fun p hp => .tail _ (.tail _ hp)⟩⟩
theorem mk_imp {f g : Fm} {t u : Value} (Z : Sit w z H mu nw L m s) (rm : Room A 2) (it : Rep w nw f t) (iu : Rep w nw g u)
    (h : ∀ v nw' s', Le nw nw' → Sit w z H mu nw' L m s' → Rep w nw' (.imp f g) v → R (.ok (.ret v)) s') : codeAny (Md w) A (.call (.ref 987) ⟨[t, u], []⟩) R s :=
  r_make Z (mkImp w) (fImpXinit w) (ty831 w) fun x dx s₁ Z1 => init_Binary Z1 (Room.make rm) (okImp w) (tImpXfirst w) (tImpXsecond w) (.head _) (it.isA.mono (Le.cons _ _)) (iu.isA.mono (Le.cons _ _)) fun tk tk' s' Z' =>
    ⟨rfl, h _ _ _ (fun p hp => .tail _ (.tail _ hp)) Z'.freeze ⟨x, t, u, tk, tk', rfl, ⟨dx, 2, .tail _ (.head _), .head _⟩, it.mono fun p hp => .tail _ (.tail _ hp), iu.mono fun p hp => .tail _ (.tail _ hp)⟩⟩
theorem mk_iff {f g : Fm} {t u : Value} (Z : Sit w z H mu nw L m s) (rm : Room A 2) (it : Rep w nw f t) (iu : Rep w nw g u)
    (h : ∀ v nw' s', Le nw nw' → Sit w z H mu nw' L m s' → Rep w nw' (.iff f g) v → R (.ok (.ret v)) s') : codeAny (Md w) A (.call (.ref 1020) ⟨[t, u], []⟩) R s :=
  r_make Z (mkIff w) (fIffXinit w) (ty831 w) fun x dx s₁ Z1 => init_Binary Z1 (Room.make rm) (okIff w) (tIffXfirst w) (tIffXsecond w) (.head _) (it.isA.mono (Le.cons _ _)) (iu.isA.mono (Le.cons _ _)) fun tk tk' s' Z' =>
    ⟨rfl, h _ _ _ (fun p hp => .tail _ (.tail _ hp)) Z'.freeze ⟨x, t, u, tk, tk', rfl, ⟨dx, 2, .tail _ (.head _), .head _⟩, it.mono fun p hp => .tail _ (.tail _ hp), iu.mono fun p hp => .tail _ (.tail _ hp)⟩⟩

theorem init_Binder {x dx C : Addr} {t u : Value} (Z : Sit w z H ((dx, dictOf [] 0) :: mu) nw L m s) (rm : Room A 1) (ok : ClsOk w C) (ht : takerIn (KK w) C "variable" = some none) (hu : takerIn (KK w) C "term" = some none) (hx : (x, instObj C dx) ∈ nw) (it : IsA w nw 126 t) (iu : IsA w nw 326 u)
    (h : ∀ tk tk' s', Sit w z H ((dx, dictOf [dE w "variable" tk t, dE w "term" tk' u] 2) :: mu) nw L m s' → R (.ok (.ret .none)) s') :
    codeAny (Md w) A (.call (.ref 599) ⟨[.ref x, t, u], []⟩) R s := by
  refine enter (binds := [("self", .ref x), ("variable", t), ("term", u)]) (rb := [("term", u), ("variable", t), ("self", .ref x)]) Z rm rfl (by kernel_rfl) (BindsTo.of_eq rfl) rfl (by decide) (locs rfl) ⟨rfl, rfl, rfl⟩ fun L' s₁ oL ns Z1 rm1 => ?_
  refine x_seq (x_assA Z1 rfl it (nVariable w) fun s₂ Z2 => ?_)
  refine x_seq (x_assA Z2 rfl iu (nExpression w) fun s₂ Z2 => ?_)
  refine x_seq (x_setN Z2.swap rfl rfl hx ok ht rfl (by decide) fun tk s₃ Z3 => ?_)
  refine x_seq (x_setN Z3 rfl rfl hx ok hu rfl (Nat.le_add_left 1 899) fun tk' s₄ Z4 => ?_)
  exact wpAny_execs_nil (h tk tk' s₄ (Z.back ns Z4.swap))
theorem mk_all {n : Str} {g : Fm} {t u : Value} (Z : Sit w z H mu nw L m s) (rm : Room A 2) (it : VarR w nw n t) (iu : Rep w nw g u)
    (h : ∀ v nw' s', Le nw nw' → Sit w z H mu nw' L m s' → Rep w nw' (.all n g) v → R (.ok (.ret v)) s') : codeAny (Md w) A (.call (.ref 761) ⟨[t, u], []⟩) R s :=
  r_make Z (mkAll w) (fAllXinit w) (ty599 w) fun x dx s₁ Z1 => init_Binder Z1 (Room.make rm) (okAll w) (tAllXvariable w) (tAllXterm w) (.head _) (it.isA.mono (Le.cons _ _)) (iu.isA.mono (Le.cons _ _)) fun tk tk' s' Z' =>
    ⟨rfl, h _ _ _ (fun p hp => .tail _ (.tail _ hp)) Z'.freeze ⟨x, t, u, tk, tk', rfl, ⟨dx, 2, .tail _ (.head _), .head _⟩, it.mono fun p hp => .tail _ (.tail _ hp), iu.mono fun p hp => .tail _ (.tail _ hp)⟩⟩
theorem mk_ex {n : Str} {g : Fm} {t u : Value} (Z : Sit w z H mu nw L m s) (rm : Room A 2) (it : VarR w nw n t) (iu : Rep w nw g u)
    (h : ∀ v nw' s', Le nw nw' → Sit w z H mu nw' L m s' → Rep w nw' (.ex n g) v → R (.ok (.ret v)) s') : codeAny (Md w) A (.call (.ref 728) ⟨[t, u], []⟩) R s :=
  r_make Z (mkExists w) (fExistsXinit w) (ty599 w) fun x dx s₁ Z1 => init_Binder Z1 (Room.make rm) (okExists w) (tExistsXvariable w) (tExistsXterm w) (.head _) (it.isA.mono (Le.cons _ _)) (iu.isA.mono (Le.cons _ _)) fun tk tk' s' Z' =>
    ⟨rfl, h _ _ _ (fun p hp => .tail _ (.tail _ hp)) Z'.freeze ⟨x, t, u, tk, tk', rfl, ⟨dx, 2, .tail _ (.head _), .head _⟩, it.mono fun p hp => .tail _ (.tail _ hp), iu.mono fun p hp => .tail _ (.tail _ hp)⟩⟩

theorem init_App {x dx C : Addr} {t u : Value} (Z : Sit w z H ((dx, dictOf [] 0) :: mu) nw L m s) (rm : Room A 1) (ok : ClsOk w C) (ht : takerIn (KK w) C "function" = some none) (hu : takerIn (KK w) C "argument" = some none) (hx : (x, instObj C dx) ∈ nw) (it : IsA w nw 326 t) (iu : IsA w nw 326 u)
    (h : ∀ tk tk' s', Sit w z H ((dx, dictOf [dE w "function" tk t, dE w "argument" tk' u] 2) :: mu) nw L m s' → R (.ok (.ret .none)) s') :
    codeAny (Md w) A (.call (.ref 342) ⟨[.ref x, t, u], []⟩) R s := by
  refine enter (binds := [("self", .ref x), ("function", t), ("argument", u)]) (rb := [("argument", u), ("function", t), ("self", .ref x)]) Z rm rfl (by kernel_rfl) (BindsTo.of_eq rfl) rfl (by decide) (locs rfl) ⟨rfl, rfl, rfl⟩ fun L' s₁ oL ns Z1 rm1 => ?_
  refine x_seq (x_assA Z1 rfl it (nExpression w) fun s₂ Z2 => ?_)
  refine x_seq (x_assA Z2 rfl iu (nExpression w) fun s₂ Z2 => ?_)
  refine x_seq (x_setN Z2.swap rfl rfl hx ok ht rfl (by decide) fun tk s₃ Z3 => ?_)
  refine x_seq (x_setN Z3 rfl rfl hx ok hu rfl (Nat.le_add_left 1 899) fun tk' s₄ Z4 => ?_)
  exact wpAny_execs_nil (h tk tk' s₄ (Z.back ns Z4.swap))
theorem mk_app {f g : Str} {t u : Value} (Z : Sit w z H mu nw L m s) (rm : Room A 2) (it : TermR w nw f t) (iu : TermR w nw g u)
    (h : ∀ v nw' s', Le nw nw' → Sit w z H mu nw' L m s' → Rep w nw' (.app f g) v → R (.ok (.ret v)) s') : codeAny (Md w) A (.call (.ref 424) ⟨[t, u], []⟩) R s :=
  r_make Z (mkApplication w) (fApplicationXinit w) (ty342 w) fun x dx s₁ Z1 => init_App Z1 (Room.make rm) (okApplication w) (tApplicationXfunction w) (tApplicationXargument w) (.head _) (it.isA.mono (Le.cons _ _)) (iu.isA.mono (Le.cons _ _)) fun tk tk' s' Z' =>
    ⟨rfl, h _ _ _ (fun p hp => .tail _ (.tail _ hp)) Z'.freeze ⟨x, t, u, tk, tk', rfl, ⟨dx, 2, .tail _ (.head _), .head _⟩, it.mono fun p hp => .tail _ (.tail _ hp), iu.mono fun p hp => .tail _ (.tail _ hp)⟩⟩

theorem init_Abstract {x dx C : Addr} {t : Value} (Z : Sit w z H ((dx, dictOf [] 0) :: mu) nw L m s) (rm : Room A 1) (ok : ClsOk w C) (ht : takerIn (KK w) C "variable" = some none) (hx : (x, instObj C dx) ∈ nw) (it : IsA w nw 126 t)
    (h : ∀ tk s', Sit w z H ((dx, dictOf [dE w "variable" tk t] 1) :: mu) nw L m s' → R (.ok (.ret .none)) s') :
    codeAny (Md w) A (.call (.ref 440) ⟨[.ref x, t], []⟩) R s := by
  refine enter (binds := [("self", .ref x), ("variable", t)]) (rb := [("variable", t), ("self", .ref x)]) Z rm rfl (by kernel_rfl) (BindsTo.of_eq rfl) rfl (by decide) (locs rfl) ⟨rfl, rfl, rfl⟩ fun L' s₁ oL ns Z1 rm1 => ?_
  refine x_seq (x_assA Z1 rfl it (nVariable w) fun s₂ Z2 => ?_)
  refine x_seq (x_setN Z2.swap rfl rfl hx ok ht rfl (by decide) fun tk s₃ Z3 => ?_)
  exact wpAny_execs_nil (h tk s₃ (Z.back ns Z3.swap))
theorem mk_ind {n : Str} {t : Value} (Z : Sit w z H mu nw L m s) (rm : Room A 2) (hn : isInd n = true) (it : VarR w nw n t)
    (h : ∀ v nw' s', Le nw nw' → Sit w z H mu nw' L m s' → TermR w nw' n v → R (.ok (.ret v)) s') : codeAny (Md w) A (.call (.ref 512) ⟨[t], []⟩) R s :=
  r_make Z (mkIndividual w) (fIndividualXinit w) (ty440 w) fun x dx s₁ Z1 => init_Abstract Z1 (Room.make rm) (okIndividual w) (tIndividualXvariable w) (.head _) (it.isA.mono (Le.cons _ _)) fun tk s' Z' =>
    ⟨rfl, h _ _ _ (fun p hp => .tail _ (.tail _ hp)) Z'.freeze ⟨x, t, tk, rfl, ⟨dx, 1, .tail _ (by unfold tcls; rw [hn]; exact .head _), .head _⟩, it.mono fun p hp => .tail _ (.tail _ hp)⟩⟩
theorem mk_const {n : Str} {t : Value} (Z : Sit w z H mu nw L m s) (rm : Room A 2) (hn : isInd n = false) (it : VarR w nw n t)
    (h : ∀ v nw' s', Le nw nw' → Sit w z H mu nw' L m s' → TermR w nw' n v → R (.ok (.ret v)) s') : codeAny (Md w) A (.call (.ref 576) ⟨[t], []⟩) R s :=
  r_make Z (mkConstant w) (fConstantXinit w) (ty440 w) fun x dx s₁ Z1 => init_Abstract Z1 (Room.make rm) (okConstant w) (tConstantXvariable w) (.head _) (it.isA.mono (Le.cons _ _)) fun tk s' Z' =>
    ⟨rfl, h _ _ _ (fun p hp => .tail _ (.tail _ hp)) Z'.freeze ⟨x, t, tk, rfl, ⟨dx, 1, .tail _ (by unfold tcls; rw [hn]; exact .head _), .head _⟩, it.mono fun p hp => .tail _ (.tail _ hp)⟩⟩

/-- assert isinstance(NAME, str) -/
theorem x_assStr {env : Env} {n : Str} {t : Tok} {name : Str} {p0 p1 p2 p3 pos : Pos} {msg : Option Expr} {Q : Flow → Shared → Prop} (Z : Sit w z H mu nw L m s) (hy : m name = some (.str n t)) (h : Q .next s)
    (hk : EnvOk env L := by exact ⟨rfl, rfl, rfl, rfl⟩) (hi : env.kindOf "isinstance" = some .globalImplicit := by rfl) (hx : env.kindOf name = some .local := by rfl) (hcx : env.kindOf "str" = some .globalImplicit := by rfl)
    (hd : (name == ("__debug__" : Str)) = false := by decide) :
    wpAny (Md w) A (exec (.Assert (.Call (.Name "isinstance" p1) [.Name name p2, .Name "str" p3] [] pos) msg p0) env) Q E s :=
  wpAny_Assert_holds (isTrue_plain (r_callB Z (isinstance_none w) boot_isinstance (by decide) (sp_cons (r_loc Z hy (sp_cons (r_blt Z (bstr w) boot_str (by decide) (sp_nil (IsiPair.str_str (wpAny_truthy_bool ⟨rfl, h⟩))) hk hcx) rfl) hk hx hd) rfl) hk hi (by decide) rfl rfl) rfl)
theorem init_Variable {x dx : Addr} {n : Str} {t : Tok} (Z : Sit w z H ((dx, dictOf [] 0) :: mu) nw L m s) (rm : Room A 1) (hx : (x, instObj 126 dx) ∈ nw)
    (h : ∀ tk s', Sit w z H ((dx, dictOf [dE w "name" tk (.str n t)] 1) :: mu) nw L m s' → R (.ok (.ret .none)) s') :
    codeAny (Md w) A (.call (.ref 102) ⟨[.ref x, .str n t], []⟩) R s := by
  refine enter (binds := [("self", .ref x), ("name", .str n t)]) (rb := [("name", .str n t), ("self", .ref x)]) Z rm rfl (by kernel_rfl) (BindsTo.of_eq rfl) rfl (by decide) (locs rfl) ⟨rfl, rfl, rfl⟩ fun L' s₁ oL ns Z1 rm1 => ?_
  refine x_seq (x_assStr Z1 rfl ?_)
  refine x_seq (x_setN Z1.swap rfl rfl hx (okVariable w) (tVariableXname w) rfl (by decide) fun tk s₃ Z3 => ?_)
  exact wpAny_execs_nil (h tk s₃ (Z.back ns Z3.swap))
theorem mk_var {n : Str} {t : Tok} (Z : Sit w z H mu nw L m s) (rm : Room A 2)
    (h : ∀ v nw' s', Le nw nw' → Sit w z H mu nw' L m s' → VarR w nw' n v → R (.ok (.ret v)) s') : codeAny (Md w) A (.call (.ref 126) ⟨[.str n t], []⟩) R s :=
  r_make Z (mkVariable w) (fVariableXinit w) (ty102 w) fun x dx s₁ Z1 => init_Variable Z1 (Room.make rm) (.head _) fun tk s' Z' =>
    ⟨rfl, h _ _ _ (fun p hp => .tail _ (.tail _ hp)) Z'.freeze ⟨x, t, tk, rfl, ⟨dx, 1, .tail _ (.head _), .head _⟩⟩⟩
end
end Mine
end

section
open PySem PySem.W PySem.Spec PySem.Calls PyProof.Rows
set_option Elab.async false
set_option maxRecDepth 100000
namespace Mine
set_option linter.unusedVariables false
theorem fApplicationXrand (w : World) : findIn (KK w) (.ref 424) "__rand__" = some none := by kernel_rfl
theorem fApplicationXror (w : World) : findIn (KK w) (.ref 424) "__ror__" = some none := by kernel_rfl
theorem fNegatedXrand (w : World) : findIn (KK w) (.ref 815) "__rand__" = some none := by kernel_rfl
theorem fNegatedXror (w : World) : findIn (KK w) (.ref 815) "__ror__" = some none := by kernel_rfl
theorem fAndXrand (w : World) : findIn (KK w) (.ref 914) "__rand__" = some none := by kernel_rfl
theorem fAndXror (w : World) : findIn (KK w) (.ref 914) "__ror__" = some none := by kernel_rfl
theorem fOrXrand (w : World) : findIn (KK w) (.ref 954) "__rand__" = some none := by kernel_rfl
theorem fOrXror (w : World) : findIn (KK w) (.ref 954) "__ror__" = some none := by kernel_rfl
theorem subApplicationXNegated (w : World) : subIn (KK w) (.ref 424) (.ref 815) = some false := by kernel_rfl
theorem subApplicationXAnd (w : World) : subIn (KK w) (.ref 424) (.ref 914) = some false := by kernel_rfl
theorem subApplicationXOr (w : World) : subIn (KK w) (.ref 424) (.ref 954) = some false := by kernel_rfl
theorem subNegatedXApplication (w : World) : subIn (KK w) (.ref 815) (.ref 424) = some false := by kernel_rfl
theorem subNegatedXAnd (w : World) : subIn (KK w) (.ref 815) (.ref 914) = some false := by kernel_rfl
theorem subNegatedXOr (w : World) : subIn (KK w) (.ref 815) (.ref 954) = some false := by kernel_rfl
theorem subAndXApplication (w : World) : subIn (KK w) (.ref 914) (.ref 424) = some false := by kernel_rfl
theorem subAndXNegated (w : World) : subIn (KK w) (.ref 914) (.ref 815) = some false := by kernel_rfl
theorem subAndXOr (w : World) : subIn (KK w) (.ref 914) (.ref 954) = some false := by kernel_rfl
theorem subOrXApplication (w : World) : subIn (KK w) (.ref 954) (.ref 424) = some false := by kernel_rfl
theorem subOrXNegated (w : World) : subIn (KK w) (.ref 954) (.ref 815) = some false := by kernel_rfl
theorem subOrXAnd (w : World) : subIn (KK w) (.ref 954) (.ref 914) = some false := by kernel_rfl

section
variable {prog : Program} {w : World} {A : Around} {E : Value → Shared → Prop} {s : Shared} {K : Frag} {x C D L f g : Addr} {h₀ : Heap} {m : Str → Option Value} {ox : Obj} {od : Option Obj}
theorem binop_KK {op : Operator} {b : Value} {Q : Value → Shared → Prop} (F : Fr h₀ L s.heap m) (X₀ : K.In h₀) (I : InstAt s.heap x ox C od) (hb : Looks (model prog w) s.heap (typeOf b) (.ref D)) (hne : C ≠ D) (hc : selfFirst K C = true) (hcd : selfFirst K D = true)
    (hs : findIn K (.ref C) (PySem.dunder op.info.2) = some (some (.ref f))) (hf : isFn K (.ref f) = true) (hr : findIn K (.ref C) (dunderR op.info.2) = some none)
    (hs' : findIn K (.ref D) (PySem.dunder op.info.2) = some (some (.ref g))) (hr' : findIn K (.ref D) (dunderR op.info.2) = some none) (hsub : subIn K (.ref D) (.ref C) = some false)
    (h : wpAny (model prog w) A (call (.ref f) [.ref x, b]) (W.CmpBack Q) E s) : wpAny (model prog w) A (binaryOp op (.ref x) b) Q E s := by
  have X := X₀.keeps F.keep
  obtain ⟨cd, rest, hcd1, hm⟩ := ksp_first hc
  obtain ⟨cd', rest', hcd1', hm'⟩ := ksp_first hcd
  rcases hi : op.info with ⟨sym, nm'⟩
  rw [hi] at hs hr hs' hr'
  dsimp only at hs hr hs' hr'
  have one := ksp_try X I hs hf h
  obtain ⟨hh, g, d, tt, os⟩ := s
  have L1 : Looks (model prog w) hh (typeOf (.ref x)) (.ref C) := I.type
  have L2 : Looks (model prog w) hh (typeOf b) (.ref D) := hb
  have L3 : Looks (model prog w) hh (fillsNumberSlot (.ref C) nm') true := fills_K X hcd1 hm hs
  have L4 : Looks (model prog w) hh (fillsNumberSlot (.ref D) nm') true := fills_K X hcd1' hm' hs'
  have L5 : Looks (model prog w) hh (isSubtype (.ref D) (.ref C)) false := looks_subIn X hsub
  have L6 : Looks (model prog w) hh (numberSlotInPython (.ref C) nm') true := ksp_inPy X hs hr (.inl rfl)
  have L7 : Looks (model prog w) hh (numberSlotInPython (.ref D) nm') true := ksp_inPy X hs' hr' (.inl rfl)
  have hne' : (Value.ref C == Value.ref D) = false := Bool.eq_false_iff.mpr fun q => by cases beq_iff_eq.mp q; exact hne rfl
  simp only [binaryOp, hi]
  refine wpAny_holding (wpAny_bind ?_)
  unfold binaryOp1
  refine wpAny_bind (L1.at (wpAny_bind (L2.at (wpAny_bind (L3.at ?_)))))
  simp only [hne', Bool.false_eq_true, if_false]
  repeat ((fail_if_success (with_reducible show wpAny _ _ (tryMethod _ _ _) _ _ _)); lk)
  refine wpAny_mono one (fun r s' hr' => ?_) fun _ _ e => e
  obtain ⟨v, rfl, hq⟩ := hr'
  repeat lk
  exact hq
end

/-- the classes whose instances stand beside & and | -/
noncomputable def four : Fm → Option Addr
  | .app _ _ => some 424
  | .neg _ => some 815
  | .and _ _ => some 914
  | .or _ _ => some 954
  | _ => none
structure OpCls (w : World) (C : Addr) : Prop where
  sf : selfFirst (KK w) C = true
  an : findIn (KK w) (.ref C) "__and__" = some (some (.ref 226))
  orr : findIn (KK w) (.ref C) "__or__" = some (some (.ref 233))
  ra : findIn (KK w) (.ref C) "__rand__" = some none
  ro : findIn (KK w) (.ref C) "__ror__" = some none
theorem four_ok (w : World) {f : Fm} {C : Addr} (h : four f = some C) : OpCls w C := by
  cases f <;> cases h
  · exact ⟨sfApplication w, fApplicationXand w, fApplicationXor w, fApplicationXrand w, fApplicationXror w⟩
  · exact ⟨sfNegated w, fNegatedXand w, fNegatedXor w, fNegatedXrand w, fNegatedXror w⟩
  · exact ⟨sfAnd w, fAndXand w, fAndXor w, fAndXrand w, fAndXror w⟩
  · exact ⟨sfOr w, fOrXand w, fOrXor w, fOrXrand w, fOrXror w⟩
theorem four_sub (w : World) {f g : Fm} {C D : Addr} (h : four f = some C) (k : four g = some D) (ne : C ≠ D) : subIn (KK w) (.ref D) (.ref C) = some false := by
  cases f <;> cases h <;> cases g <;> cases k <;> first | exact absurd rfl ne | skip
  · exact subNegatedXApplication w
  · exact subAndXApplication w
  · exact subOrXApplication w
  · exact subApplicationXNegated w
  · exact subAndXNegated w
  · exact subOrXNegated w
  · exact subApplicationXAnd w
  · exact subNegatedXAnd w
  · exact subOrXAnd w
  · exact subApplicationXOr w
  · exact subNegatedXOr w
  · exact subAndXOr w
theorem Rep.inst {w : World} {nw : List Ent} {f : Fm} {v : Value} {C : Addr} (h : four f = some C) (r : Rep w nw f v) : ∃ y es, v = .ref y ∧ Inst nw y C es := by
  cases f <;> cases h
  · obtain ⟨y, _, _, _, _, a, b, _⟩ := r; exact ⟨y, _, a, b⟩
  · obtain ⟨y, _, _, a, b, _⟩ := r; exact ⟨y, _, a, b⟩
  · obtain ⟨y, _, _, _, _, a, b, _⟩ := r; exact ⟨y, _, a, b⟩
  · obtain ⟨y, _, _, _, _, a, b, _⟩ := r; exact ⟨y, _, a, b⟩

section
variable {w : World} {z : Shared} {H : Heap} {mu nw : List Ent} {L a : Addr} {m : Str → Option Value} {s : Shared} {A : Around} {E : Value → Shared → Prop} {d : Nat} {env : Env}

/-- not isinstance(NAME, C), where it holds -/
theorem x_ifNotA {C : Addr} {v : Value} {name c : Str} {p0 p1 p2 p3 p4 pos : Pos} {body orelse : List Stmt} {Q : Flow → Shared → Prop} (Z : Sit w z H mu nw L m s) (hy : m name = some v) (i : IsA w nw C v)
    (hc : nsIn (KK w) mainGlobals c = some (some (.ref C))) (h : ∀ s', Sit w z H mu nw L m s' → wpAny (Md w) A (execs orelse env) Q E s')
    (hk : EnvOk env L := by exact ⟨rfl, rfl, rfl, rfl⟩) (hi : env.kindOf "isinstance" = some .globalImplicit := by rfl) (hx : env.kindOf name = some .local := by rfl) (hcx : env.kindOf c = some .globalImplicit := by rfl)
    (hd : (name == ("__debug__" : Str)) = false := by decide) (hdc : (c == ("__debug__" : Str)) = false := by decide) :
    wpAny (Md w) A (exec (.If (.UnaryOp .Not (.Call (.Name "isinstance" p1) [.Name name p2, .Name c p3] [] pos) p4) body orelse p0) env) Q E s := by
  obtain ⟨y, D, es, rfl, i, ok, e⟩ := i.ex
  refine wpAny_If ?_
  refine wpAny_isTrue_Not ?_
  exact isTrue_plain (r_isiN Z hy i ok hc e (fun s' Z' => wpAny_truthy_bool (h s' Z')) hk hi hx hcx hd hdc) rfl

theorem and_ok {f g : Fm} {v u : Value} {Q : Value → Shared → Prop} (Z : Sit w z H mu nw L m s) (rm : Room A 3) (hf : Rep w nw f v) (hg : Rep w nw g u)
    (h : ∀ r nw' s', Le nw nw' → Sit w z H mu nw' L m s' → Rep w nw' (.and f g) r → Q r s') : wpAny (Md w) A (call (.ref 226) [v, u]) Q E s := by
  refine wpA_call (enter (binds := [("self", v), ("other", u)]) (rb := [("other", u), ("self", v)]) Z rm rfl (by kernel_rfl) (BindsTo.of_eq rfl) rfl (by decide) (locs rfl) ⟨rfl, rfl, rfl⟩ fun L' s₁ oL ns Z1 rm1 => ?_)
  refine x_seq (x_ifNotA Z1 rfl hg.isA (nExpression w) fun s₂ Z2 => wpAny_execs_nil ?_)
  refine x_seq (wpAny_Return_some ?_)
  refine r_callN Z2 (nAnd w) (kpAnd w) (sp_cons (r_loc Z2 rfl (sp_cons (r_loc Z2 rfl (sp_nil ⟨Z2.K, wpA_call (mk_and Z2 rm1 hf hg fun v' nw' s' le Z' r => h _ _ _ le (Z.back ns Z') r)⟩)))))
theorem or_ok {f g : Fm} {v u : Value} {Q : Value → Shared → Prop} (Z : Sit w z H mu nw L m s) (rm : Room A 3) (hf : Rep w nw f v) (hg : Rep w nw g u)
    (h : ∀ r nw' s', Le nw nw' → Sit w z H mu nw' L m s' → Rep w nw' (.or f g) r → Q r s') : wpAny (Md w) A (call (.ref 233) [v, u]) Q E s := by
  refine wpA_call (enter (binds := [("self", v), ("other", u)]) (rb := [("other", u), ("self", v)]) Z rm rfl (by kernel_rfl) (BindsTo.of_eq rfl) rfl (by decide) (locs rfl) ⟨rfl, rfl, rfl⟩ fun L' s₁ oL ns Z1 rm1 => ?_)
  refine x_seq (x_ifNotA Z1 rfl hg.isA (nExpression w) fun s₂ Z2 => wpAny_execs_nil ?_)
  refine x_seq (wpAny_Return_some ?_)
  refine r_callN Z2 (nOr w) (kpOr w) (sp_cons (r_loc Z2 rfl (sp_cons (r_loc Z2 rfl (sp_nil ⟨Z2.K, wpA_call (mk_or Z2 rm1 hf hg fun v' nw' s' le Z' r => h _ _ _ le (Z.back ns Z') r)⟩)))))
theorem neg_ok {f : Fm} {v : Value} {Q : Value → Shared → Prop} (Z : Sit w z H mu nw L m s) (rm : Room A 3) (hf : Rep w nw f v)
    (h : ∀ r nw' s', Le nw nw' → Sit w z H mu nw' L m s' → Rep w nw' (.neg f) r → Q r s') : wpAny (Md w) A (call (.ref 212) [v]) Q E s := by
  refine wpA_call (enter (binds := [("self", v)]) (rb := [("self", v)]) Z rm rfl (by kernel_rfl) (BindsTo.of_eq rfl) rfl (by decide) (locs rfl) ⟨rfl, rfl, rfl⟩ fun L' s₁ oL ns Z1 rm1 => ?_)
  refine x_seq (wpAny_Return_some ?_)
  refine r_callN Z1 (nNegated w) (kpNegated w) (sp_cons (r_loc Z1 rfl (sp_nil ⟨Z1.K, wpA_call (mk_neg Z1 rm1 hf fun v' nw' s' le Z' r => h _ _ _ le (Z.back ns Z') r)⟩)))

theorem isFn_of {K : Frag} {v : Value} (h : typeIn K v = some (.type "function")) : isFn K v = true := beq_iff_eq.mpr h
theorem rep_ref {nw : List Ent} : ∀ {f : Fm} {v : Value}, Rep w nw f v → ∃ y, v = .ref y
  | .app _ _, _, ⟨y, _, _, _, _, a, _⟩ => ⟨y, a⟩
  | .neg _, _, ⟨y, _, _, a, _⟩ => ⟨y, a⟩
  | .and _ _, _, ⟨y, _, _, _, _, a, _⟩ => ⟨y, a⟩
  | .or _ _, _, ⟨y, _, _, _, _, a, _⟩ => ⟨y, a⟩
  | .imp _ _, _, ⟨y, _, _, _, _, a, _⟩ => ⟨y, a⟩
  | .iff _ _, _, ⟨y, _, _, _, _, a, _⟩ => ⟨y, a⟩
  | .all _ _, _, ⟨y, _, _, _, _, a, _⟩ => ⟨y, a⟩
  | .ex _ _, _, ⟨y, _, _, _, _, a, _⟩ => ⟨y, a⟩
theorem r_and {f g : Fm} {v u : Value} {C D : Addr} {Q : Value → Shared → Prop} (Z : Sit w z H mu nw L m s) (rm : Room A 3) (hf : Rep w nw f v) (hg : Rep w nw g u) (kf : four f = some C) (kg : four g = some D)
    (h : ∀ r nw' s', Le nw nw' → Sit w z H mu nw' L m s' → Rep w nw' (.and f g) r → Q r s') : wpAny (Md w) A (binaryOp .BitAnd v u) Q E s := by
  obtain ⟨y, es, rfl, i⟩ := hf.inst kf
  obtain ⟨y', es', rfl, i'⟩ := hg.inst kg
  obtain ⟨dx, n, I⟩ := i.at Z
  obtain ⟨dx', n', I'⟩ := i'.at Z
  have go : wpAny (Md w) A (call (.ref 226) [.ref y, .ref y']) (W.CmpBack Q) E s := and_ok Z rm hf hg fun r nw' s' le Z' rr => by
    obtain ⟨a, rfl⟩ := rep_ref rr
    exact h _ _ _ le Z' rr
  by_cases e : C = D
  · subst e
    exact binop_K Z.F Z.gl.X I I'.type (four_ok w kf).sf (four_ok w kf).an (isFn_of (ty226 w)) go
  · exact binop_KK Z.F Z.gl.X I I'.type e (four_ok w kf).sf (four_ok w kg).sf (four_ok w kf).an (isFn_of (ty226 w)) (four_ok w kf).ra (four_ok w kg).an (four_ok w kg).ra (four_sub w kf kg e) go
theorem r_or {f g : Fm} {v u : Value} {C D : Addr} {Q : Value → Shared → Prop} (Z : Sit w z H mu nw L m s) (rm : Room A 3) (hf : Rep w nw f v) (hg : Rep w nw g u) (kf : four f = some C) (kg : four g = some D)
    (h : ∀ r nw' s', Le nw nw' → Sit w z H mu nw' L m s' → Rep w nw' (.or f g) r → Q r s') : wpAny (Md w) A (binaryOp .BitOr v u) Q E s := by
  obtain ⟨y, es, rfl, i⟩ := hf.inst kf
  obtain ⟨y', es', rfl, i'⟩ := hg.inst kg
  obtain ⟨dx, n, I⟩ := i.at Z
  obtain ⟨dx', n', I'⟩ := i'.at Z
  have go : wpAny (Md w) A (call (.ref 233) [.ref y, .ref y']) (W.CmpBack Q) E s := or_ok Z rm hf hg fun r nw' s' le Z' rr => by
    obtain ⟨a, rfl⟩ := rep_ref rr
    exact h _ _ _ le Z' rr
  by_cases e : C = D
  · subst e
    exact binop_K Z.F Z.gl.X I I'.type (four_ok w kf).sf (four_ok w kf).orr (isFn_of (ty233 w)) go
  · exact binop_KK Z.F Z.gl.X I I'.type e (four_ok w kf).sf (four_ok w kg).sf (four_ok w kf).orr (isFn_of (ty233 w)) (four_ok w kf).ro (four_ok w kg).orr (four_ok w kg).ro (four_sub w kf kg e) go
end
end Mine
end

section
open PySem PySem.W PySem.Spec PySem.Calls PyProof.Rows
set_option Elab.async false
set_option maxRecDepth 100000
namespace Mine
set_option linter.unusedVariables false
theorem fExistsXneg (w : World) : findIn (KK w) (.ref 728) "__neg__" = some (some (.ref 212)) := by kernel_rfl
/-- second distributed, the first no conjunction -/
noncomputable def cnfR (f : Fm) : Fm → Fm
  | .and a b => .and (cnfR f a) (cnfR f b)
  | g => .or f g
noncomputable def cnf : Fm → Fm → Fm
  | .and a b, g => .and (cnf a g) (cnf b g)
  | f, g => cnfR f g
/-- conjunctions of what is no conjunction -/
noncomputable def okc : Fm → Bool
  | .app _ _ => true
  | .neg _ => true
  | .or _ _ => true
  | .and a b => okc a && okc b
  | _ => false
noncomputable def isAnd : Fm → Bool
  | .and _ _ => true
  | _ => false
noncomputable def sA : Fm → Nat
  | .and a b => sA a + sA b + 1
  | _ => 0
theorem okc_four : ∀ {f : Fm}, okc f = true → ∃ C, four f = some C
  | .app _ _, _ => ⟨_, rfl⟩
  | .neg _, _ => ⟨_, rfl⟩
  | .and _ _, _ => ⟨_, rfl⟩
  | .or _ _, _ => ⟨_, rfl⟩
theorem four_cls (w : World) {f : Fm} {C : Addr} (h : four f = some C) : ClsOk w C ∧ kitOne (KK w) (.ref C) (.ref 914) = some (isAnd f) := by
  cases f <;> cases h
  · exact ⟨okApplication w, kApplicationX914 w⟩
  · exact ⟨okNegated w, kNegatedX914 w⟩
  · exact ⟨okAnd w, kAndX914 w⟩
  · exact ⟨okOr w, kOrX914 w⟩
theorem okc_cnfR {f : Fm} : ∀ {g : Fm}, okc g = true → okc (cnfR f g) = true
  | .and a b, h => by
    simp only [okc, cnfR, Bool.and_eq_true] at h ⊢
    exact ⟨okc_cnfR h.1, okc_cnfR h.2⟩
  | .app _ _, _ => rfl
  | .neg _, _ => rfl
  | .or _ _, _ => rfl
theorem okc_cnf : ∀ {f g : Fm}, okc f = true → okc g = true → okc (cnf f g) = true
  | .and a b, g, h, k => by
    simp only [okc, cnf, Bool.and_eq_true] at h ⊢
    exact ⟨okc_cnf h.1 k, okc_cnf h.2 k⟩
  | .app _ _, _, _, k => okc_cnfR k
  | .neg _, _, _, k => okc_cnfR k
  | .or _ _, _, _, k => okc_cnfR k
theorem cnf_not : ∀ {f g : Fm}, isAnd f = false → cnf f g = cnfR f g
  | .app _ _, _, _ => rfl
  | .neg _, _, _ => rfl
  | .or _ _, _, _ => rfl
  | .imp _ _, _, _ => rfl
  | .iff _ _, _, _ => rfl
  | .all _ _, _, _ => rfl
  | .ex _ _, _, _ => rfl
theorem cnfR_not : ∀ {f g : Fm}, isAnd g = false → cnfR f g = .or f g
  | _, .app _ _, _ => rfl
  | _, .neg _, _ => rfl
  | _, .or _ _, _ => rfl
  | _, .imp _ _, _ => rfl
  | _, .iff _ _, _ => rfl
  | _, .all _ _, _ => rfl
  | _, .ex _ _, _ => rfl
theorem and_of : ∀ {f : Fm}, isAnd f = true → ∃ a b, f = .and a b
  | .and a b, _ => ⟨a, b, rfl⟩

section
variable {w : World} {z : Shared} {H : Heap} {mu nw : List Ent} {L a : Addr} {m : Str → Option Value} {s : Shared} {A : Around} {E : Value → Shared → Prop} {d : Nat} {env : Env}
theorem Le.ins {nw nw' : List Ent} {x C : Addr} {es : List DictEntry} (h : Le nw nw') (i : Inst nw x C es) : Inst nw' x C es := i.mono h
theorem x_asg {x : Str} {p pos : Pos} {value : Expr} {Q : Flow → Shared → Prop} (h : wpAny (Md w) A (eval value env) (fun v s₁ => wpAny (Md w) A (storeName env x v) (fun _ => Q .next) E s₁) E s)
    (hs : swapsWith value (some (.Name x p)) pos.line env = pure false := by rfl) : wpAny (Md w) A (exec (.Assign [.Name x p] value pos) env) Q E s := wpAny_Assign_Name h hs

theorem to_cnf_ok (w : World) (z : Shared) (H : Heap) : ∀ (n : Nat) (f g : Fm), sA f + sA g < n → okc f = true → okc g = true → ∀ {mu nw : List Ent} {L : Addr} {m : Str → Option Value} {s : Shared} {A : Around} {E : Value → Shared → Prop} {v u : Value} {Q : Value → Shared → Prop},
    Sit w z H mu nw L m s → Room A (n + 3) → Rep w nw f v → Rep w nw g u → (∀ r nw' s', Le nw nw' → Sit w z H mu nw' L m s' → Rep w nw' (cnf f g) r → Q r s') → wpAny (Md w) A (call (.ref 1098) [v, u]) Q E s := by
  intro n
  induction n with
  | zero => intro f g hn; exact absurd hn (Nat.not_lt_zero _)
  | succ n ih =>
    intro f g hn kf kg mu nw L m s A E v u Q Z rm hf hg h
    refine wpA_call (enter (binds := [("first", v), ("second", u)]) (rb := [("second", u), ("first", v)]) Z rm rfl (by kernel_rfl) (BindsTo.of_eq rfl) rfl (by decide) (locs rfl) ⟨rfl, rfl, rfl⟩ fun L' s₁ oL ns Z1 rm1 => ?_)
    obtain ⟨C, cf⟩ := okc_four kf
    obtain ⟨y, es, rfl, i⟩ := hf.inst cf
    refine x_seq (x_ifI Z1 rfl i (four_cls w cf).1 (nAnd w) (four_cls w cf).2 fun s₂ Z2 => ?_)
    cases qf : isAnd f with
    | true =>
      obtain ⟨a, b, rfl⟩ := and_of qf
      obtain ⟨_, p, q, t1, t2, ⟨rfl⟩, i, ra, rb⟩ := hf
      obtain ⟨yp, rfl⟩ := rep_ref ra
      obtain ⟨yq, rfl⟩ := rep_ref rb
      simp only [okc, Bool.and_eq_true] at kf
      simp only [sA] at hn
      show wpAny _ _ (execs _ _) _ _ _
      refine x_seq (x_asg (r_callN Z2 (n1098 w) (kp1098 w) (sp_cons (r_nattr Z2 rfl i (okAnd w) (fAndXfirst w) rfl rfl fun s₃ Z3 => sp_cons (r_loc Z3 rfl (sp_nil ⟨Z3.K, ?_⟩))))))
      refine ih a g (by omega) kf.1 kg Z3 rm1 ra hg fun r1 nw1 s₄ le1 Z4 rr1 => r_store Z4 fun s₅ Z5 => ?_
      refine x_seq (x_asg (r_callN Z5 (n1098 w) (kp1098 w) (sp_cons (r_nattr Z5 rfl (le1.ins i) (okAnd w) (fAndXsecond w) rfl rfl fun s₆ Z6 => sp_cons (r_loc Z6 rfl (sp_nil ⟨Z6.K, ?_⟩))))))
      refine ih b g (by omega) kf.2 kg Z6 rm1 (rb.mono le1) (hg.mono le1) fun r2 nw2 s₇ le2 Z7 rr2 => r_store Z7 fun s₈ Z8 => ?_
      refine x_seq (wpAny_Return_some (wpAny_BinOp (r_loc Z8 rfl (r_loc Z8 rfl ?_))))
      obtain ⟨C1, c1⟩ := okc_four (okc_cnf kf.1 kg)
      obtain ⟨C2, c2⟩ := okc_four (okc_cnf kf.2 kg)
      exact r_and Z8 (rm1.le (by omega)) (rr1.mono le2) rr2 c1 c2 fun r nw' s' le Z' rr => h _ _ _ ((le1.trans le2).trans le) (Z.back ns Z') rr
    | false =>
      show wpAny _ _ (execs _ _) _ _ _
      obtain ⟨D, cg⟩ := okc_four kg
      obtain ⟨y', es', rfl, i'⟩ := hg.inst cg
      refine x_seq (x_ifI Z2 rfl i' (four_cls w cg).1 (nAnd w) (four_cls w cg).2 fun s₃ Z3 => ?_)
      rw [cnf_not qf] at h
      cases qg : isAnd g with
      | true =>
        obtain ⟨a, b, rfl⟩ := and_of qg
        obtain ⟨_, p, q, t1, t2, ⟨rfl⟩, i', ra, rb⟩ := hg
        obtain ⟨yp, rfl⟩ := rep_ref ra
        obtain ⟨yq, rfl⟩ := rep_ref rb
        simp only [okc, Bool.and_eq_true] at kg
        simp only [sA] at hn
        show wpAny _ _ (execs _ _) _ _ _
        refine x_seq (x_asg (r_callN Z3 (n1098 w) (kp1098 w) (sp_cons (r_loc Z3 rfl (sp_cons (r_nattr Z3 rfl i' (okAnd w) (fAndXfirst w) rfl rfl fun s₃ Z3 => (sp_nil ⟨Z3.K, ?_⟩)))))))
        refine ih f a (by omega) kf kg.1 Z3 rm1 hf ra fun r1 nw1 s₄ le1 Z4 rr1 => r_store Z4 fun s₅ Z5 => ?_
        refine x_seq (x_asg (r_callN Z5 (n1098 w) (kp1098 w) (sp_cons (r_loc Z5 rfl (sp_cons (r_nattr Z5 rfl (le1.ins i') (okAnd w) (fAndXsecond w) rfl rfl fun s₆ Z6 => (sp_nil ⟨Z6.K, ?_⟩)))))))
        refine ih f b (by omega) kf kg.2 Z6 rm1 (hf.mono le1) (rb.mono le1) fun r2 nw2 s₇ le2 Z7 rr2 => r_store Z7 fun s₈ Z8 => ?_
        refine x_seq (wpAny_Return_some (wpAny_BinOp (r_loc Z8 rfl (r_loc Z8 rfl ?_))))
        rw [cnf_not qf] at rr1 rr2
        obtain ⟨C1, c1⟩ := okc_four (okc_cnfR (f := f) kg.1)
        obtain ⟨C2, c2⟩ := okc_four (okc_cnfR (f := f) kg.2)
        exact r_and Z8 (rm1.le (by omega)) (rr1.mono le2) rr2 c1 c2 fun r nw' s' le Z' rr => h _ _ _ ((le1.trans le2).trans le) (Z.back ns Z') rr
      | false =>
        show wpAny _ _ (execs _ _) _ _ _
        refine x_seq (wpAny_Return_some (wpAny_BinOp (r_loc Z3 rfl (r_loc Z3 rfl ?_))))
        exact r_or Z3 (rm1.le (by omega)) hf hg cf cg fun r nw' s' le Z' rr => h _ _ _ le (Z.back ns Z') (by rw [cnfR_not qg]; exact rr)

theorem r_neg {f : Fm} {v : Value} {Q : Value → Shared → Prop} (Z : Sit w z H mu nw L m s) (rm : Room A 3) (hf : Rep w nw f v)
    (h : ∀ r nw' s', Le nw nw' → Sit w z H mu nw' L m s' → Rep w nw' (.neg f) r → Q r s') : wpAny (Md w) A (unaryOp .USub v) Q E s := by
  have key : ∃ y C es, v = .ref y ∧ Inst nw y C es ∧ findIn (KK w) (.ref C) "__neg__" = some (some (.ref 212)) := by
    cases f
    · obtain ⟨y, _, _, _, _, a, b, _⟩ := hf; exact ⟨y, _, _, a, b, fApplicationXneg w⟩
    · obtain ⟨y, _, _, a, b, _⟩ := hf; exact ⟨y, _, _, a, b, fNegatedXneg w⟩
    · obtain ⟨y, _, _, _, _, a, b, _⟩ := hf; exact ⟨y, _, _, a, b, fAndXneg w⟩
    · obtain ⟨y, _, _, _, _, a, b, _⟩ := hf; exact ⟨y, _, _, a, b, fOrXneg w⟩
    · obtain ⟨y, _, _, _, _, a, b, _⟩ := hf; exact ⟨y, _, _, a, b, fImpXneg w⟩
    · obtain ⟨y, _, _, _, _, a, b, _⟩ := hf; exact ⟨y, _, _, a, b, fIffXneg w⟩
    · obtain ⟨y, _, _, _, _, a, b, _⟩ := hf; exact ⟨y, _, _, a, b, fAllXneg w⟩
    · obtain ⟨y, _, _, _, _, a, b, _⟩ := hf; exact ⟨y, _, _, a, b, fExistsXneg w⟩
  obtain ⟨y, C, es, rfl, i, hn⟩ := key
  obtain ⟨dx, k, I⟩ := i.at Z
  exact ksp_neg Z.F Z.gl.X I hn (isFn_of (ty212 w)) (neg_ok Z rm hf h)
end
end Mine
end

section
open PySem PySem.W PySem.Spec PySem.Calls PyProof.Rows
set_option Elab.async false
set_option maxRecDepth 100000
namespace Mine
set_option linter.unusedVariables false
/-- the steps of an iterator -/
structure Steps (w : World) (nw : List Ent) (it : Addr) (n : Nat) (P : Nat → Value → Prop) (St : Nat → Obj → Prop) : Prop where
  item : ∀ {i : Nat} {s : Shared} {o : Obj} {A : Around} {E : Value → Shared → Prop} {Q : Option Value → Shared → Prop}, i < n → (∀ p ∈ nw, s.heap.get? p.1 = some p.2) → s.heap.get? it = some o → St i o →
    (∀ v h' o' tk, P i v → h'.get? it = some o' → St (i + 1) o' → Heap.SameBut it s.heap h' → Q (some v) { s with heap := h', toks := tk }) → wpAny (Md w) A (pyNext (.ref it)) Q E s
  done : ∀ {s : Shared} {o : Obj} {A : Around} {E : Value → Shared → Prop} {Q : Option Value → Shared → Prop}, A.handled = none → (∀ p ∈ nw, s.heap.get? p.1 = some p.2) → s.heap.get? it = some o → St n o →
    (∀ h' tk, Heap.ExtBut it s.heap h' → Q none { s with heap := h', toks := tk }) → wpAny (Md w) A (pyNext (.ref it)) Q E s

section
variable {w : World} {z : Shared} {H : Heap} {mu nw : List Ent} {L a : Addr} {m : Str → Option Value} {s : Shared} {A : Around} {E : Value → Shared → Prop} {d : Nat} {env : Env}

theorem Sit.ext {it : Addr} {o : Obj} {h' : Heap} (Z : Sit w z H ((it, o) :: mu) nw L m s) (hx : Heap.ExtBut it s.heap h') (tk : Tok) : Sit w z H mu nw L m { s with heap := h', toks := tk } := by
  have ni := Z.N (it, o) (.head _)
  refine ⟨Z.gl, ⟨Z.F.ns.extBut hx (Ne.symm ni.2.1), fun b o' e => hx b o' (fun q => ?_) (Z.F.keep b o' e), Z.F.above⟩, fun p hp => ?_, fun p hp q hq => Z.nd p (.tail _ hp) q hq, (List.pairwise_cons.mp Z.mm).2, Z.rest,
    Z.tb.mono (fun q hq o' e => hx q.2 o' (Ne.symm ((Z.tn q hq).2.2 _ (.head _))) e) (fun _ h => h), fun q hq => ⟨(Z.tn q hq).1, (Z.tn q hq).2.1, fun p hp => (Z.tn q hq).2.2 p (.tail _ hp)⟩⟩
  · rw [q, ni.2.2] at e; cases e
  · have n := Z.N p (.tail _ hp)
    refine ⟨hx p.1 p.2 ?_ n.1, n.2⟩
    rcases List.mem_append.mp hp with h | h
    · exact Ne.symm ((List.pairwise_cons.mp Z.mm).1 p h)
    · exact Ne.symm (Z.nd (it, o) (.head _) p h)
theorem Sit.drop {p : Ent} (Z : Sit w z H (p :: mu) nw L m s) : Sit w z H mu nw L m s :=
  ⟨Z.gl, Z.F, fun q hq => Z.N q (.tail _ hq), fun q hq r hr => Z.nd q (.tail _ hq) r hr, (List.pairwise_cons.mp Z.mm).2, Z.rest, Z.tb, fun q hq => ⟨(Z.tn q hq).1, (Z.tn q hq).2.1, fun r hr => (Z.tn q hq).2.2 r (.tail _ hr)⟩⟩
theorem Sit.turnT {a : Addr} {o o' : Obj} {h' : Heap} (Z : Sit w z H ((a, o) :: mu) nw L m s) (hs : Heap.SameBut a s.heap h') (ho : h'.get? a = some o') (tk : Tok) : Sit w z H ((a, o') :: mu) nw L m { s with heap := h', toks := tk } := Z.turn hs ho tk

/-- what a turn of a loop leaves -/
inductive LoopNext (w : World) (z : Shared) (H : Heap) (L : Addr) (I : Nat → List Ent → List Ent → (Str → Option Value) → Prop) (k : Nat) (nw' : List Ent) (p : Ent) (s₂ : Shared) : Prop
  | mk (mu₂ nw₂ : List Ent) (m₂ : Str → Option Value) (hI : I k mu₂ nw₂ m₂) (le : Le nw' nw₂) (Z : Sit w z H (p :: mu₂) nw₂ L m₂ s₂) : LoopNext w z H L I k nw' p s₂
/-- what a turn of a loop must leave -/
noncomputable abbrev LoopQ (w : World) (z : Shared) (H : Heap) (L : Addr) (I : Nat → List Ent → List Ent → (Str → Option Value) → Prop) (k : Nat) (nw' : List Ent) (p : Ent) (Q : Flow → Shared → Prop) : Flow → Shared → Prop := fun f s₂ => match f with
  | .next | .cont => LoopNext w z H L I k nw' p s₂
  | .brk => Q .next s₂
  | .ret v => Q (.ret v) s₂
theorem loop_for {x : Str} {px : Pos} {body : List Stmt} {it : Addr} {o : Obj} {n : Nat} {P : Nat → Value → Prop} {St : Nat → Obj → Prop} {Q : Flow → Shared → Prop}
    (W : Steps w nw it n P St) (Z : Sit w z H ((it, o) :: mu) nw L m s) (ho : St 0 o) (hh : A.handled = none)
    (I : Nat → List Ent → List Ent → (Str → Option Value) → Prop) (h0 : I 0 mu nw m)
    (step : ∀ i v o' mu' nw' m' s' E', i < n → P i v → I i mu' nw' m' → Le nw nw' → Sit w z H ((it, o') :: mu') nw' L (upd m' x v) s' →
      wpAny (Md w) A (execs body env) (LoopQ w z H L I (i + 1) nw' (it, o') Q) E' s')
    (done : ∀ mu' nw' m' s', I n mu' nw' m' → Le nw nw' → Sit w z H mu' nw' L m' s' → Q .next s')
    (hk : EnvOk env L := by exact ⟨rfl, rfl, rfl, rfl⟩) (hx : env.kindOf x = some .local := by rfl) :
    codeAny (Md w) A (.forLoop (.Name x px) (.ref it) body [] env) (fun r s' => match r with | .ok f => Q f s' | .error e => cameBackBy (Md w) A env E e s') s := by
  refine codeAny_forLoop (fun k s' => ∃ i o' mu' nw' m', k = n - i ∧ i ≤ n ∧ St i o' ∧ I i mu' nw' m' ∧ Le nw nw' ∧ Sit w z H ((it, o') :: mu') nw' L m' s') ?_ n ⟨0, o, mu, nw, m, rfl, Nat.zero_le _, ho, h0, Le.refl _, Z⟩
  rintro k s' ⟨i, o', mu', nw', m', rfl, hi, hst, hI, le, Z'⟩
  by_cases hlt : i < n
  · refine W.item hlt (fun p hp => Z'.get (le p hp)) (Z'.getM (.head _)) hst fun v h₁ o₁ tk hP ho₁ hst₁ hsb => ?_
    have Z1 := Z'.turnT hsb ho₁ tk
    refine wpAny_assign_Name (r_store Z1 (fun s₂ Z2 => ?_) hk hx)
    refine wpAny_mono (step i v o₁ mu' nw' m' s₂ _ hlt hP hI le Z2) (fun f s₃ h₃ => ?_) fun _ _ e => e
    have fin : LoopNext w z H L I (i + 1) nw' (it, o₁) s₃ →
        ∃ m, m < n - i ∧ ∃ i o' mu' nw' m', m = n - i ∧ i ≤ n ∧ St i o' ∧ I i mu' nw' m' ∧ Le nw nw' ∧ Sit w z H ((it, o') :: mu') nw' L m' s₃ := by
      rintro ⟨mu₂, nw₂, m₂, hI₂, le₂, Z₃⟩
      exact ⟨n - (i + 1), by omega, i + 1, o₁, mu₂, nw₂, m₂, rfl, hlt, hst₁, hI₂, le.trans le₂, Z₃⟩
    cases f with
    | next => exact fin h₃
    | cont => exact fin h₃
    | brk => exact h₃
    | ret v => exact h₃
  · have hin : i = n := by omega
    subst hin
    refine W.done hh (fun p hp => Z'.get (le p hp)) (Z'.getM (.head _)) hst fun h₁ tk hx₁ => wpAny_execs_nil ?_
    exact done mu' nw' m' _ hI le (Z'.ext hx₁ tk)

theorem steps_list {l it : Addr} {vs : Array Value} {k : Nat} (hl : (l, W.listOf vs k) ∈ nw) (hne : l ≠ it) :
    Steps w nw it vs.size (fun i v => vs[i]? = some v) (fun i o => o.cls = .type "list_iterator" ∧ o.data = .fields #[.ref l, .int i 0]) where
  item := by
    intro i s o A E Q hi hnw ho hst hQ
    refine wpAny_pyNext_list_item (items := vs) (i := i) (l := l) (x := vs[i]) ⟨o, ho, hst⟩ ⟨_, hnw _ hl, rfl, k, rfl⟩ (by simp [hi]) fun h' hit hs => ?_
    obtain ⟨o', ho', hst'⟩ := hit
    exact hQ _ h' o' s.toks (by simp [hi]) ho' hst' hs
  done := by
    intro s o A E Q hh hnw ho hst hQ
    exact wpAny_pyNext_list_end (items := vs) (i := vs.size) (l := l) hh ⟨o, ho, hst⟩ ⟨_, hnw _ hl, rfl, k, rfl⟩ (by simp) fun h' hx => hQ h' s.toks hx
theorem steps_str {it : Addr} {x : Str} {t : Tok} : Steps w nw it x.cps.size (fun i v => ∃ c tk, x.cps[i]? = some c ∧ v = .str ⟨#[c]⟩ tk) (fun i o => o.cls = .type "str_ascii_iterator" ∧ o.data = .fields #[.str x t, .int i 0]) where
  item := by
    intro i s o A E Q hi hnw ho hst hQ
    refine wpAny_pyNext_ascii_item (x := x) (t := t) (i := i) (c := x.cps[i]) ⟨o, ho, hst⟩ (by simp [hi]) fun h' hit hs => ?_
    obtain ⟨o', ho', hst'⟩ := hit
    exact hQ _ h' o' _ ⟨_, _, by simp [hi], rfl⟩ ho' hst' hs
  done := by
    intro s o A E Q hh hnw ho hst hQ
    exact wpAny_pyNext_ascii_end (x := x) (t := t) (i := x.cps.size) hh ⟨o, ho, hst⟩ (by simp) fun h' hx => hQ h' s.toks hx

/-- what a loop's walk wants, behind its iterable -/
inductive ForL (w : World) (z : Shared) (H : Heap) (A : Around) (L : Addr) (env : Env) (body : List Stmt) (Q : Flow → Shared → Prop) (x : Str) (xv : Value) (s₁ : Shared) : Prop
  | mk (l : Addr) (vs : Array Value) (k : Nat) (mu nw : List Ent) (m : Str → Option Value)
    (f0 : xv = .ref l)
    (f1 : Sit w z H mu nw L m s₁)
    (f2 : (l, W.listOf vs k) ∈ nw)
    (f3 : A.handled = none)
    (I : Nat → List Ent → List Ent → (Str → Option Value) → Prop)
    (f5 : I 0 mu nw m)
    (f6 : ∀ p i v mu' nw' m' s' E', i < vs.size → vs[i]? = some v → I i mu' nw' m' → Le nw nw' → Sit w z H (p :: mu') nw' L (upd m' x v) s' →
          wpAny (Md w) A (execs body env) (LoopQ w z H L I (i + 1) nw' p Q) E' s')
    (f7 : ∀ mu' nw' m' s', I vs.size mu' nw' m' → Le nw nw' → Sit w z H mu' nw' L m' s' → Q .next s') : ForL w z H A L env body Q x xv s₁

/-- for x in a list that stays -/
theorem x_forL {x : Str} {px pos : Pos} {iter : Expr} {body : List Stmt} {Q : Flow → Shared → Prop}
    (h : wpAny (Md w) A (eval iter env) (fun xv s₁ => ForL w z H A L env body Q x xv s₁) E s)
    (hs : ∀ x, foldedSetIterable iter env x = pure x := by intro _; rfl)
    (hk : EnvOk env L := by exact ⟨rfl, rfl, rfl, rfl⟩) (hx : env.kindOf x = some .local := by rfl) :
    wpAny (Md w) A (exec (.For (.Name x px) iter body [] pos) env) Q E s := by
  refine wpAny_For (wpAny_mono h (fun xv s₁ h₁ => ?_) fun _ _ e => e) hs
  obtain ⟨l, vs, k, mu, nw, m, rfl, Z, hl, hh, I, h0, step, done⟩ := h₁
  refine wpAny_pyIter_list (items := vs) ⟨_, Z.get hl, rfl, k, rfl⟩ ?_
  have Z1 := Z.allocM { cls := .type "list_iterator", data := .fields #[.ref l, .int 0 0] } rfl s₁.toks
  refine loop_for (steps_list hl (Nat.ne_of_lt (Z.lt (List.mem_append_right _ hl)))) Z1 ⟨rfl, rfl⟩ hh I h0 (fun i v o' mu' nw' m' s' E' hi hv hI le Z' => step _ i v mu' nw' m' s' E' hi hv hI le Z') done hk hx
/-- what a loop's walk wants, behind its iterable -/
inductive ForS (w : World) (z : Shared) (H : Heap) (A : Around) (L : Addr) (env : Env) (body : List Stmt) (Q : Flow → Shared → Prop) (x : Str) (xv : Value) (s₁ : Shared) : Prop
  | mk (y : Str) (t : Tok) (mu nw : List Ent) (m : Str → Option Value)
    (f0 : xv = .str y t)
    (f1 : y.cps.all (· < 128) = true)
    (f2 : Sit w z H mu nw L m s₁)
    (f3 : A.handled = none)
    (I : Nat → List Ent → List Ent → (Str → Option Value) → Prop)
    (f5 : I 0 mu nw m)
    (f6 : ∀ p i c tk mu' nw' m' s' E', y.cps[i]? = some c → I i mu' nw' m' → Le nw nw' → Sit w z H (p :: mu') nw' L (upd m' x (.str ⟨#[c]⟩ tk)) s' →
          wpAny (Md w) A (execs body env) (LoopQ w z H L I (i + 1) nw' p Q) E' s')
    (f7 : ∀ mu' nw' m' s', I y.cps.size mu' nw' m' → Le nw nw' → Sit w z H mu' nw' L m' s' → Q .next s') : ForS w z H A L env body Q x xv s₁

/-- for x in a str -/
theorem x_forS {x : Str} {px pos : Pos} {iter : Expr} {body : List Stmt} {Q : Flow → Shared → Prop}
    (h : wpAny (Md w) A (eval iter env) (fun xv s₁ => ForS w z H A L env body Q x xv s₁) E s)
    (hs : ∀ x, foldedSetIterable iter env x = pure x := by intro _; rfl)
    (hk : EnvOk env L := by exact ⟨rfl, rfl, rfl, rfl⟩) (hx : env.kindOf x = some .local := by rfl) :
    wpAny (Md w) A (exec (.For (.Name x px) iter body [] pos) env) Q E s := by
  refine wpAny_For (wpAny_mono h (fun xv s₁ h₁ => ?_) fun _ _ e => e) hs
  obtain ⟨y, t, mu, nw, m, rfl, ha, Z, hh, I, h0, step, done⟩ := h₁
  refine wpAny_pyIter_ascii ha ?_
  have Z1 := Z.allocM { cls := .type "str_ascii_iterator", data := .fields #[.str y t, .int 0 0] } rfl s₁.toks
  refine loop_for (steps_str (x := y) (t := t)) Z1 ⟨rfl, rfl⟩ hh I h0 (fun i v o' mu' nw' m' s' E' hi hv hI le Z' => ?_) done hk hx
  obtain ⟨c, tk, hc, rfl⟩ := hv
  exact step _ i c tk mu' nw' m' s' E' hc hI le Z'
end
end Mine
end

section
open PySem PySem.W PySem.Spec PySem.Calls PyProof.Rows
set_option Elab.async false
set_option maxRecDepth 100000
namespace Mine
set_option linter.unusedVariables false
noncomputable def okN (n : Str) : Bool := match n.cps.toList with
  | [] => false
  | c :: r => n.cps.all (· < 128) && (slicePicked n none (some (1, 0)) none).filterMap (n.cps[·]?) == [c] && (slicePicked n (some (1, 0)) none none).filterMap (n.cps[·]?) == r &&
      (slicePicked n none (some (1, 0)) none).length == 1 && (slicePicked n (some (1, 0)) none none).length == r.length && decide (n.cps.size ≤ 100)
structure NameAt (n : Str) (c : Nat) (r : List Nat) : Prop where
  cs : n.cps.toList = c :: r
  asc : n.cps.all (· < 128) = true
  s1 : (slicePicked n none (some (1, 0)) none).filterMap (n.cps[·]?) = [c]
  s2 : (slicePicked n (some (1, 0)) none none).filterMap (n.cps[·]?) = r
  l1 : (slicePicked n none (some (1, 0)) none).length = 1
  l2 : (slicePicked n (some (1, 0)) none none).length = r.length
  sz : n.cps.size ≤ 100
theorem okN_at {n : Str} (h : okN n = true) : ∃ c r, NameAt n c r := by
  unfold okN at h
  split at h
  · cases h
  · rename_i c r e
    simp only [Bool.and_eq_true, beq_iff_eq, decide_eq_true_eq] at h
    obtain ⟨⟨⟨⟨⟨h1, h2⟩, h3⟩, h4⟩, h5⟩, h6⟩ := h
    exact ⟨c, r, e, h1, h2, h3, h4, h5, h6⟩

section
variable {w : World} {z : Shared} {H : Heap} {mu nw : List Ent} {L a : Addr} {m : Str → Option Value} {s : Shared} {A : Around} {E : Value → Shared → Prop} {d : Nat} {env : Env}

theorem NameAt.len {n : Str} {c : Nat} {r : List Nat} (h : NameAt n c r) : n.cps.size = r.length + 1 := by rw [← Array.length_toList, h.cs]; rfl
theorem r_head {n : Str} {t : Tok} {c : Nat} {r : List Nat} {x : Str} {k : Nat} {p1 p2 p3 pos : Pos} {Q : Value → Shared → Prop} (Z : Sit w z H mu nw L m s) (hx : m x = some (.str n t)) (hn : NameAt n c r)
    (h : ∀ tk nw' s', Le nw nw' → Sit w z H mu nw' L m s' → Q (.str ⟨#[c]⟩ tk) s')
    (hk : EnvOk env L := by exact ⟨rfl, rfl, rfl, rfl⟩) (hxx : env.kindOf x = some .local := by rfl) (hd : (x == ("__debug__" : Str)) = false := by decide) (ht : ∀ o r, letTemporaryGo (.Name x p1) o r = pure () := by intro _ _; rfl) :
    wpAny (Md w) A (eval (.Subscript (.Name x p1) (.Slice none (some (.Constant (.int 1) k p2)) none p3) pos) env) Q E s := by
  refine wpAny_Subscript_str_slice (r_loc Z hx (wpAny_evalPart_none (wpAny_evalPart_some (r_int Z fun u s₁ Z1 => ?_))) hk hxx hd) ht
  refine ⟨n, t, none, some (1, u), rfl, rfl, rfl, ?_⟩
  have Z2 := Z1.alloc { cls := .type "slice", data := .fields #[.none, .int 1 u, .none] } rfl s₁.toks
  have e1 : slicePicked n none (some (1, u)) none = slicePicked n none (some (1, 0)) none := rfl
  unfold sliceMade
  rw [e1, hn.s1, hn.l1]
  by_cases q : n.length = 1
  · rw [if_pos (by rw [q]; rfl)]
    have e : n = ⟨#[c]⟩ := by
      have hr : r = [] := by
        have := hn.len
        have q' : n.cps.size = 1 := q
        cases r with | nil => rfl | cons _ _ => simp at this; omega
      have := hn.cs; rw [hr] at this
      cases n with | mk cps => simp only [Str.mk.injEq]; exact Array.toList_inj.mp this
    show Q (.str n t) _
    rw [e]
    exact h t _ _ (Le.cons _ _) Z2
  · rw [if_neg (by intro e; simp only [Bool.and_eq_true, beq_iff_eq] at e; exact q e.2.symm)]
    exact ⟨by show 1 ≤ sizeLine; decide, h _ _ _ (Le.cons _ _) (Z2.toks _)⟩
theorem r_tail {n : Str} {t : Tok} {c : Nat} {r : List Nat} {x : Str} {k : Nat} {p1 p2 p3 pos : Pos} {Q : Value → Shared → Prop} (Z : Sit w z H mu nw L m s) (hx : m x = some (.str n t)) (hn : NameAt n c r)
    (h : ∀ tk nw' s', Le nw nw' → Sit w z H mu nw' L m s' → Q (.str ⟨r.toArray⟩ tk) s')
    (hk : EnvOk env L := by exact ⟨rfl, rfl, rfl, rfl⟩) (hxx : env.kindOf x = some .local := by rfl) (hd : (x == ("__debug__" : Str)) = false := by decide) (ht : ∀ o r, letTemporaryGo (.Name x p1) o r = pure () := by intro _ _; rfl) :
    wpAny (Md w) A (eval (.Subscript (.Name x p1) (.Slice (some (.Constant (.int 1) k p2)) none none p3) pos) env) Q E s := by
  refine wpAny_Subscript_str_slice (r_loc Z hx (wpAny_evalPart_some (r_int Z fun u s₁ Z1 => wpAny_evalPart_none ?_)) hk hxx hd) ht
  refine ⟨n, t, some (1, u), none, rfl, rfl, rfl, ?_⟩
  have Z2 := Z1.alloc { cls := .type "slice", data := .fields #[.int 1 u, .none, .none] } rfl s₁.toks
  have e1 : slicePicked n (some (1, u)) none none = slicePicked n (some (1, 0)) none none := rfl
  have hl : n.length = r.length + 1 := hn.len
  unfold sliceMade
  rw [e1, hn.s2, hn.l2, hl, if_neg (by intro e; simp only [Bool.and_eq_true, beq_iff_eq] at e; exact absurd e.2 (by omega))]
  refine ⟨?_, h _ _ _ (Le.cons _ _) (Z2.toks _)⟩
  show r.toArray.size ≤ sizeLine
  have := hn.sz; rw [hn.len] at this
  simp only [List.size_toArray]
  exact Nat.le_trans (by omega : r.length ≤ 100) (by decide)

theorem notin_occ {x y : Str} {t u : Tok} {Q : Value → Shared → Prop} (h : Q (.bool (!occ x y)) s) : wpAny (Md w) A (compareOp .NotIn (.str y u) (.str x t)) Q E s := P.notIn_str h
theorem letDig_at {n letters : Str} {c : Nat} {r : List Nat} (hn : NameAt n c r) : letDig letters n = (occ letters ⟨#[c]⟩ && r.all fun c => occ "0123456789" ⟨#[c]⟩) := by unfold letDig; rw [hn.cs]

theorem lad_ok {n letters : Str} {t u : Tok} {Q : Value → Shared → Prop} (Z : Sit w z H mu nw L m s) (rm : Room A 1) (hn : okN n = true)
    (h : ∀ nw' s', Le nw nw' → Sit w z H mu nw' L m s' → Q (.bool (letDig letters n)) s') : wpAny (Md w) A (call (.ref 1062) [.str n t, .str letters u]) Q E s := by
  obtain ⟨c, r, hn⟩ := okN_at hn
  rw [letDig_at hn] at h
  refine wpA_call (enter (binds := [("expr", .str n t), ("letters", .str letters u)]) (rb := [("letters", .str letters u), ("expr", .str n t)]) Z rm rfl (by kernel_rfl) (BindsTo.of_eq rfl) rfl (by decide) (locs rfl) ⟨rfl, rfl, rfl⟩ fun L' s₁ oL ns Z1 rm1 => ?_)
  refine x_seq (wpAny_If (isTrue_or (wpAny_isTrue_Compare1 (r_head Z1 rfl hn fun tk nw2 s₂ le2 Z2 => r_str Z2 fun tk' s₃ Z3 => P.eq_str (wpAny_truthy_bool ?_)))))
  show wpAny _ _ (isTrue (.BoolOp .Or [_] _) _ _) _ _ _
  refine isTrue_or (wpAny_isTrue_Compare1 (r_head Z3 rfl hn fun tk nw4 s₄ le4 Z4 => r_loc Z4 rfl (notin_occ (wpAny_truthy_bool ?_))))
  cases q : occ letters ⟨#[c]⟩ with
  | false =>
    show wpAny _ _ (execs _ _) _ _ _
    rw [q] at h
    exact x_seq (wpAny_Return_some (wpAny_Constant_bool (h _ _ (le2.trans le4) (Z.back ns Z4))))
  | true =>
    show wpAny _ _ (isTrue (.BoolOp .Or [] _) _ _) _ _ _
    refine isTrue_or_nil ?_
    show wpAny _ _ (execs [] _) _ _ _
    refine wpAny_execs_nil ?_
    rw [q, Bool.true_and] at h
    refine x_seq (x_forS (r_tail Z4 rfl hn fun tk nw5 s₅ le5 Z5 => ⟨_, _, _, _, _, rfl, ?_, Z5, rm1.2.2, fun i mu' nw' m' => mu' = (L, oL) :: mu ∧ ∀ j, j < i → ∃ e, r[j]? = some e ∧ occ "0123456789" ⟨#[e]⟩ = true, ⟨rfl, fun j hj => absurd hj (Nat.not_lt_zero _)⟩, ?_, ?_⟩))
    · have := hn.asc
      rw [← Array.all_toList, hn.cs, List.all_cons, Bool.and_eq_true] at this
      rw [← Array.all_toList]; exact this.2
    · rintro p i e tk6 mu' nw6 m' s₆ E' he ⟨rfl, hI⟩ le6 Z6
      have he' : r[i]? = some e := by simpa using he
      refine x_seq (wpAny_If (wpAny_isTrue_Compare1 (r_loc Z6 rfl (r_str Z6 fun tk7 s₇ Z7 => notin_occ (wpAny_truthy_bool ?_)))))
      cases q2 : occ "0123456789" ⟨#[e]⟩ with
      | false =>
        show wpAny _ _ (execs _ _) _ _ _
        refine x_seq (wpAny_Return_some (wpAny_Constant_bool ?_))
        have e0 : (r.all fun c => occ "0123456789" ⟨#[c]⟩) = false := by
          rw [List.all_eq_false]
          exact ⟨e, List.mem_of_getElem? he', by rw [q2]; exact Bool.false_ne_true⟩
        rw [e0] at h
        exact h _ _ ((le2.trans le4).trans (le5.trans le6)) (Z.back ns Z7.drop)
      | true =>
        show wpAny _ _ (execs [] _) _ _ _
        refine wpAny_execs_nil (wpAny_execs_nil ⟨_, _, _, ⟨rfl, fun j hj => ?_⟩, Le.refl _, Z7⟩)
        rcases Nat.lt_succ_iff_lt_or_eq.mp hj with h1 | h1
        · exact hI j h1
        · subst h1; exact ⟨e, he', q2⟩
    · rintro mu' nw6 m' s₆ ⟨rfl, hI⟩ le6 Z6
      have e1 : (r.all fun c => occ "0123456789" ⟨#[c]⟩) = true := by
        rw [List.all_eq_true]
        intro e he
        obtain ⟨j, hj, rfl⟩ := List.mem_iff_getElem.mp he
        obtain ⟨e', h1, h2⟩ := hI j (by simpa using hj)
        rw [List.getElem?_eq_getElem hj] at h1
        cases h1; exact h2
      rw [e1] at h
      exact x_seq (wpAny_Return_some (wpAny_Constant_bool (h _ _ ((le2.trans le4).trans (le5.trans le6)) (Z.back ns Z6))))
theorem indvar_ok {n : Str} {t : Tok} {Q : Value → Shared → Prop} (Z : Sit w z H mu nw L m s) (rm : Room A 2) (hn : okN n = true)
    (h : ∀ nw' s', Le nw nw' → Sit w z H mu nw' L m s' → Q (.bool (isInd n)) s') : wpAny (Md w) A (call (.ref 1069) [.str n t]) Q E s := by
  refine wpA_call (enter (binds := [("expr", .str n t)]) (rb := [("expr", .str n t)]) Z rm rfl (by kernel_rfl) (BindsTo.of_eq rfl) rfl (by decide) (locs rfl) ⟨rfl, rfl, rfl⟩ fun L' s₁ oL ns Z1 rm1 => ?_)
  refine x_seq (x_assStr Z1 rfl ?_)
  refine x_seq (wpAny_Return_some (r_callN Z1 (n1062 w) (kp1062 w) (sp_cons (r_loc Z1 rfl (sp_cons (r_str Z1 fun tk s₂ Z2 => sp_nil ⟨Z2.K, ?_⟩))))))
  exact lad_ok Z2 rm1 hn fun nw' s' le Z' => h _ _ le (Z.back ns Z')
theorem funcvar_ok {n : Str} {t : Tok} {Q : Value → Shared → Prop} (Z : Sit w z H mu nw L m s) (rm : Room A 2) (hn : okN n = true)
    (h : ∀ nw' s', Le nw nw' → Sit w z H mu nw' L m s' → Q (.bool (isFun n)) s') : wpAny (Md w) A (call (.ref 1076) [.str n t]) Q E s := by
  refine wpA_call (enter (binds := [("expr", .str n t)]) (rb := [("expr", .str n t)]) Z rm rfl (by kernel_rfl) (BindsTo.of_eq rfl) rfl (by decide) (locs rfl) ⟨rfl, rfl, rfl⟩ fun L' s₁ oL ns Z1 rm1 => ?_)
  refine x_seq (x_assStr Z1 rfl ?_)
  refine x_seq (wpAny_Return_some (r_callN Z1 (n1062 w) (kp1062 w) (sp_cons (r_loc Z1 rfl (sp_cons (r_str Z1 fun tk s₂ Z2 => sp_nil ⟨Z2.K, ?_⟩))))))
  exact lad_ok Z2 rm1 hn fun nw' s' le Z' => h _ _ le (Z.back ns Z')
theorem eventvar_ok {n : Str} {t : Tok} {Q : Value → Shared → Prop} (Z : Sit w z H mu nw L m s) (rm : Room A 2) (hn : okN n = true)
    (h : ∀ nw' s', Le nw nw' → Sit w z H mu nw' L m s' → Q (.bool (isEv n)) s') : wpAny (Md w) A (call (.ref 1083) [.str n t]) Q E s := by
  refine wpA_call (enter (binds := [("expr", .str n t)]) (rb := [("expr", .str n t)]) Z rm rfl (by kernel_rfl) (BindsTo.of_eq rfl) rfl (by decide) (locs rfl) ⟨rfl, rfl, rfl⟩ fun L' s₁ oL ns Z1 rm1 => ?_)
  refine x_seq (x_assStr Z1 rfl ?_)
  refine x_seq (wpAny_Return_some (r_callN Z1 (n1062 w) (kp1062 w) (sp_cons (r_loc Z1 rfl (sp_cons (r_str Z1 fun tk s₂ Z2 => sp_nil ⟨Z2.K, ?_⟩))))))
  exact lad_ok Z2 rm1 hn fun nw' s' le Z' => h _ _ le (Z.back ns Z')

/-- a name of an individual's variable or of a constant -/
noncomputable def okV (n : Str) : Bool := okN n && (isInd n || (!isFun n && !isEv n))
/-- isinstance(VALUE's name) : the name of a Variable -/
theorem x_ifFn {f : Addr} {fn x : Str} {n : Str} {y : Addr} {t tk : Tok} {b : Bool} {p0 p1 p2 p3 pos : Pos} {body orelse : List Stmt} {Q : Flow → Shared → Prop} (Z : Sit w z H mu nw L m s) (hx : m x = some (.ref y)) (i : Inst nw y 126 [dE w "name" tk (.str n t)])
    (hf : nsIn (KK w) mainGlobals fn = some (some (.ref f))) (hkp : keepIn (KK w) (.ref f) = true)
    (ok : ∀ {s : Shared} {Q : Value → Shared → Prop}, Sit w z H mu nw L m s → (∀ nw' s', Le nw nw' → Sit w z H mu nw' L m s' → Q (.bool b) s') → wpAny (Md w) A (call (.ref f) [.str n t]) Q E s)
    (h : ∀ nw' s', Le nw nw' → Sit w z H mu nw' L m s' → wpAny (Md w) A (execs (if b then body else orelse) env) Q E s')
    (hk : EnvOk env L := by exact ⟨rfl, rfl, rfl, rfl⟩) (hfx : env.kindOf fn = some .globalImplicit := by rfl) (hxx : env.kindOf x = some .local := by rfl)
    (hd : (fn == ("__debug__" : Str)) = false := by decide) (hd2 : (x == ("__debug__" : Str)) = false := by decide) :
    wpAny (Md w) A (exec (.If (.Call (.Name fn p1) [.Attribute (.Name x p2) "name" p3] [] pos) body orelse p0) env) Q E s := by
  refine wpAny_If (isTrue_plain (r_callN Z hf hkp (sp_cons (r_nattr Z hx i (okVariable w) (fVariableXname w) rfl rfl (fun s₁ Z1 => sp_nil ⟨Z1.K, ok Z1 fun nw' s' le Z' => wpAny_truthy_bool ?_⟩) hk hxx hd2) rfl) hk hfx hd rfl rfl) rfl)
  have := h nw' s' le Z'
  cases b <;> exact this

theorem VE_ok {n : Str} {v : Value} {Q : Value → Shared → Prop} (Z : Sit w z H mu nw L m s) (rm : Room A 3) (hn : okV n = true) (hv : VarR w nw n v)
    (h : ∀ r nw' s', Le nw nw' → Sit w z H mu nw' L m s' → TermR w nw' n r → Q r s') : wpAny (Md w) A (call (.ref 585) [v]) Q E s := by
  unfold okV at hn
  rw [Bool.and_eq_true] at hn
  refine wpA_call (enter (binds := [("variable", v)]) (rb := [("variable", v)]) Z rm rfl (by kernel_rfl) (BindsTo.of_eq rfl) rfl (by decide) (locs rfl) ⟨rfl, rfl, rfl⟩ fun L' s₁ oL ns Z1 rm1 => ?_)
  refine x_seq (x_assA Z1 rfl hv.isA (nVariable w) fun s₂ Z2 => ?_)
  obtain ⟨y, t, tk, rfl, i⟩ := hv
  refine x_seq (x_ifFn Z2 rfl i (n1069 w) (kp1069 w) (fun Z' => indvar_ok Z' rm1 hn.1) fun nw3 s₃ le3 Z3 => ?_)
  cases q : isInd n with
  | true =>
    show wpAny _ _ (execs [_] _) _ _ _
    exact x_seq (wpAny_Return_some (r_callN Z3 (nIndividual w) (kpIndividual w) (sp_cons (r_loc Z3 rfl (sp_nil ⟨Z3.K, wpA_call (mk_ind Z3 rm1 q ⟨y, t, tk, rfl, i.mono le3⟩ fun v' nw' s' le Z' r => h _ _ _ (le3.trans le) (Z.back ns Z') r)⟩)))))
  | false =>
    rw [q, Bool.false_or, Bool.and_eq_true, Bool.not_eq_true', Bool.not_eq_true'] at hn
    show wpAny _ _ (execs [_] _) _ _ _
    refine x_seq (x_ifFn Z3 rfl (i.mono le3) (n1076 w) (kp1076 w) (fun Z' => funcvar_ok Z' rm1 hn.1) fun nw4 s₄ le4 Z4 => ?_)
    rw [hn.2.1]
    show wpAny _ _ (execs [_] _) _ _ _
    refine x_seq (x_ifFn Z4 rfl ((i.mono le3).mono le4) (n1083 w) (kp1083 w) (fun Z' => eventvar_ok Z' rm1 hn.1) fun nw5 s₅ le5 Z5 => ?_)
    rw [hn.2.2]
    show wpAny _ _ (execs [_] _) _ _ _
    exact x_seq (wpAny_Return_some (r_callN Z5 (nConstant w) (kpConstant w) (sp_cons (r_loc Z5 rfl (sp_nil ⟨Z5.K, wpA_call (mk_const Z5 rm1 q ⟨y, t, tk, rfl, ((i.mono le3).mono le4).mono le5⟩ fun v' nw' s' le Z' r => h _ _ _ ((le3.trans le4).trans (le5.trans le)) (Z.back ns Z') r)⟩)))))
end
end Mine
end

section
open PySem PySem.W PySem.Spec PySem.Calls PyProof.Rows
set_option Elab.async false
set_option maxRecDepth 100000
namespace Mine
set_option linter.unusedVariables false
theorem notFirst_var (w : World) : notFirst (KK w) 126 (.ref 126) = true := by kernel_rfl
theorem str_beq (a b : Str) : (a.cps.toList == b.cps.toList) = decide (a = b) := by
  rw [Bool.eq_iff_iff, beq_iff_eq, decide_eq_true_eq]
  exact ⟨fun h => by cases a; cases b; simp only [Str.mk.injEq]; exact Array.toList_inj.mp h, fun h => by rw [h]⟩

section
variable {w : World} {z : Shared} {H : Heap} {mu nw : List Ent} {L a : Addr} {m : Str → Option Value} {s : Shared} {A : Around} {E : Value → Shared → Prop} {d : Nat} {env : Env}

theorem var_eq_ok {n k : Str} {v u : Value} {Q : Value → Shared → Prop} (Z : Sit w z H mu nw L m s) (rm : Room A 1) (hv : VarR w nw n v) (hu : VarR w nw k u)
    (h : ∀ nw' s', Le nw nw' → Sit w z H mu nw' L m s' → Q (.bool (decide (n = k))) s') : wpAny (Md w) A (call (.ref 109) [v, u]) Q E s := by
  obtain ⟨y, t, tk, rfl, i⟩ := hv
  obtain ⟨y', t', tk', rfl, i'⟩ := hu
  refine wpA_call (enter (binds := [("self", .ref y), ("other", .ref y')]) (rb := [("other", .ref y'), ("self", .ref y)]) Z rm rfl (by kernel_rfl) (BindsTo.of_eq rfl) rfl (by decide) (locs rfl) ⟨rfl, rfl, rfl⟩ fun L' s₁ oL ns Z1 rm1 => ?_)
  refine x_seq (wpAny_Return_some (BoolOp_and (r_isiN Z1 rfl i' (okVariable w) (nVariable w) (kVariableX126 w) fun s₂ Z2 => wpAny_truthy_bool ?_)))
  show wpAny _ _ (eval (.BoolOp .And [_] _) _) _ _ _
  refine BoolOp_one (wpAny_Compare1 (r_nattr Z2 rfl i (okVariable w) (fVariableXname w) rfl rfl fun s₃ Z3 => r_nattr Z3 rfl i' (okVariable w) (fVariableXname w) rfl rfl fun s₄ Z4 => P.eq_str ?_))
  rw [str_beq]
  exact h _ _ (Le.refl _) (Z.back ns Z4)
theorem r_eqV {n k : Str} {v u : Value} {Q : Value → Shared → Prop} (Z : Sit w z H mu nw L m s) (rm : Room A 1) (hv : VarR w nw n v) (hu : VarR w nw k u)
    (h : ∀ nw' s', Le nw nw' → Sit w z H mu nw' L m s' → Q (.bool (decide (n = k))) s') : wpAny (Md w) A (richCompare .Eq v u) Q E s := by
  have hv' := hv
  have hu' := hu
  obtain ⟨y, t, tk, rfl, i⟩ := hv
  obtain ⟨y', t', tk', rfl, i'⟩ := hu
  obtain ⟨dx, j, I⟩ := i.at Z
  obtain ⟨dx', j', I'⟩ := i'.at Z
  exact cmp_K rm.units Z.F Z.gl.X I I'.type (notFirst_var w) (fVariableXeq w) (isFn_of (ty109 w)) (var_eq_ok Z rm hv' hu' h)
theorem VarR.fn {n k : Str} {v : Value} (Z : Sit w z H mu nw L m s) (hv : VarR w nw n v) (hu : VarR w nw k v) : n = k := by
  obtain ⟨y, t, tk, rfl, ⟨dx, j, h1, h2⟩⟩ := hv
  obtain ⟨y', t', tk', e, ⟨dx', j', h1', h2'⟩⟩ := hu
  cases e
  have a1 := (Z.get h1).symm.trans (Z.get h1')
  cases a1
  have a2 := (Z.get h2).symm.trans (Z.get h2')
  cases a2
  rfl
theorem eqBool_V {n k : Str} {v u : Value} {Q : Bool → Shared → Prop} (Z : Sit w z H mu nw L m s) (rm : Room A 1) (hv : VarR w nw n v) (hu : VarR w nw k u)
    (h : ∀ nw' s', Le nw nw' → Sit w z H mu nw' L m s' → Q (decide (n = k)) s') : wpAny (Md w) A (eqBool v u) Q E s := by
  unfold eqBool
  refine wpAny_holding ?_
  by_cases e : v = u
  · subst e
    have := hv.fn Z hu
    subst this
    rw [if_pos (by simp)]
    refine wpAny_bind (wpAny_rule (wpAny_pure ?_))
    have := h _ _ (Le.refl _) Z
    rwa [decide_eq_true rfl] at this
  · have hv' := hv
    have hu' := hu
    obtain ⟨y, t, tk, rfl, i⟩ := hv
    obtain ⟨y', t', tk', rfl, i'⟩ := hu
    rw [if_neg (by simpa using e)]
    dsimp only
    exact wpAny_bind (r_eqV Z rm hv' hu' fun nw' s' le Z' => wpAny_truthy_bool (h _ _ le Z'))

/-- x in a list, told by one item after the other -/
theorem contains_sit {l : Addr} {vs : Array Value} {k : Nat} {x : Value} {e : Value → Bool} {d : Nat} {nw₀ : List Ent}
    (he : ∀ y ∈ vs, ∀ {nw s A E} {Q : Bool → Shared → Prop}, Le nw₀ nw → Room A d → Sit w z H mu nw L m s → (∀ nw' s', Le nw nw' → Sit w z H mu nw' L m s' → Q (e y) s') → wpAny (Md w) A (eqBool y x) Q E s)
    (hl : ∀ {nw s}, Sit w z H mu nw L m s → Le nw₀ nw → s.heap.get? l = some (W.listOf vs k)) (j : Nat) :
    ∀ (i : Nat), vs.size - i = j → ∀ {nw s A} {R : Result → Shared → Prop}, Le nw₀ nw → Room A (d + 1) → Sit w z H mu nw L m s → (∀ nw' s', Le nw nw' → Sit w z H mu nw' L m s' → R (.ok (.ret (.bool ((vs.toList.drop i).any e)))) s') →
      wpAny (Md w) A.in1 (Builtin.«list.__contains__.loop» ⟨[.ref l, x, rawInt i], []⟩) (fun fin s' => match fin with | .done f => R (.ok f) s' | .again c' => c'.quiet = true ∧ codeAny (Md w) A c' R s') (fun e s' => R (.error e) s') s := by
  induction j with
  | zero =>
    intro i hk nw s A R le rm Z h
    have hl' := hl Z le
    obtain ⟨hp, g, dd, tk, os⟩ := s
    wp_walk using AutoSeq1.wpAny_loadPart' hl'
    have hi : vs[((i : Nat) : Int).toNat]? = none := by simp; omega
    have hd : vs.toList.drop i = [] := by simp; omega
    rw [hd] at h
    rw [hi]
    wp_walk
    exact h _ _ (Le.refl _) Z
  | succ j ih =>
    intro i hk nw s A R le rm Z h
    have hl' := hl Z le
    obtain ⟨hp, g, dd, tk, os⟩ := s
    wp_walk using AutoSeq1.wpAny_loadPart' hl'
    have hlt : i < vs.size := by omega
    have hi : vs[((i : Nat) : Int).toNat]? = some vs[i] := by simp [hlt]
    have hd : vs.toList.drop i = vs[i] :: vs.toList.drop (i + 1) := by simp [List.drop_eq_getElem_cons, hlt]
    rw [hd, List.any_cons] at h
    rw [hi]
    refine wpAny_bind (he _ (Array.getElem_mem hlt) le rm.in1 Z fun nw' s' le' Z' => ?_)
    cases hb : e vs[i] with
    | true =>
      rw [hb] at h
      obtain ⟨hp, g, dd, tk, os⟩ := s'
      wp_walk
      exact h _ _ le' Z'
    | false =>
      rw [hb] at h
      obtain ⟨hp, g, dd, tk, os⟩ := s'
      have hc : ((i : Int) + 1) = ((i + 1 : Nat) : Int) := by push_cast; rfl
      wp_walk
      rw [hc]
      exact ⟨plainId_quiet MeetsSeq.plain_contains_loop _, codeAny_builtin MeetsSeq.entry_contains_loop (by
        rw [Around.under_plainId MeetsSeq.plain_contains_loop _]
        exact ih (i + 1) (by omega) (le.trans le') rm Z' fun nw'' s'' le'' Z'' => by simpa using h _ _ (le'.trans le'') Z'')⟩

theorem in_sit {l : Addr} {vs : Array Value} {k : Nat} {x : Value} {e : Value → Bool} {d : Nat} {Q : Bool → Shared → Prop}
    (he : ∀ y ∈ vs, ∀ {nw' s A E} {Q : Bool → Shared → Prop}, Le nw nw' → Room A d → Sit w z H mu nw' L m s → (∀ nw'' s', Le nw' nw'' → Sit w z H mu nw'' L m s' → Q (e y) s') → wpAny (Md w) A (eqBool y x) Q E s)
    (hl : ∀ {nw' s}, Sit w z H mu nw' L m s → Le nw nw' → s.heap.get? l = some (W.listOf vs k)) (rm : Room A (d + 1)) (Z : Sit w z H mu nw L m s)
    (h : ∀ nw' s', Le nw nw' → Sit w z H mu nw' L m s' → Q (vs.toList.any e) s') :
    wpAny (Md w) A (call (.builtin "list.__contains__") [.ref l, x]) (fun r s' => wpAny (Md w) A (truthy r) Q E s') E s := by
  have hl' := hl Z (Le.refl _)
  refine wpA_call (codeAny_call_builtin F.slot_list_contains.plain F.entry_list_contains (F.slot_list_contains.check _ _ _ _ _ _ _ _ ⟨_, hl', rfl⟩ (F.args_list_contains_2 _ _) ?_))
  obtain ⟨hp, g, dd, tk, os⟩ := s
  wp_walk using AutoSeq1.wpAny_loadPart' hl'
  exact ⟨plainId_quiet MeetsSeq.plain_contains_loop _, codeAny_builtin MeetsSeq.entry_contains_loop (by
    rw [Around.under_plainId MeetsSeq.plain_contains_loop _]
    refine contains_sit (nw₀ := nw) (R := fun r s' => match r with | .ok (.ret v) => wpAny (Md w) A (truthy v) Q E s' | .ok _ => False | .error e => E e s') he hl _ 0 rfl (Le.refl _) rm Z ?_
    intro nw' s' le Z'
    exact wpAny_truthy_bool (h _ _ le Z'))⟩

noncomputable def AllR {α : Type} (R : α → Value → Prop) : List α → List Value → Prop
  | [], [] => True
  | a :: as, v :: vs => R a v ∧ AllR R as vs
  | _, _ => False
theorem AllR.mono {α : Type} {R R' : α → Value → Prop} (h : ∀ a v, R a v → R' a v) : ∀ {as : List α} {vs : List Value}, AllR R as vs → AllR R' as vs
  | [], [], _ => trivial
  | _ :: _, _ :: _, x => ⟨h _ _ x.1, AllR.mono h x.2⟩
theorem AllR.length {α : Type} {R : α → Value → Prop} : ∀ {as : List α} {vs : List Value}, AllR R as vs → as.length = vs.length
  | [], [], _ => rfl
  | _ :: _, _ :: _, x => congrArg (· + 1) (AllR.length x.2)
theorem AllR.get {α : Type} {R : α → Value → Prop} : ∀ {as : List α} {vs : List Value}, AllR R as vs → ∀ {i : Nat} {v : Value}, vs[i]? = some v → ∃ a, as[i]? = some a ∧ R a v
  | [], [], _, i, v, e => by simp at e
  | a :: _, _ :: _, x, 0, v, e => by simp at e; subst e; exact ⟨a, rfl, x.1⟩
  | _ :: _, _ :: _, x, i + 1, v, e => AllR.get x.2 (i := i) (by simpa using e)
theorem AllR.append {α : Type} {R : α → Value → Prop} : ∀ {as bs : List α} {vs us : List Value}, AllR R as vs → AllR R bs us → AllR R (as ++ bs) (vs ++ us)
  | [], _, [], _, _, y => y
  | _ :: _, _, _ :: _, _, x, y => ⟨x.1, AllR.append x.2 y⟩
/-- a list that stays -/
noncomputable def ListR {α : Type} (nw : List Ent) (R : α → Value → Prop) (as : List α) (v : Value) : Prop := ∃ l vs k, v = .ref l ∧ (l, W.listOf (List.toArray vs) k) ∈ nw ∧ AllR R as vs
theorem ListR.mono {α : Type} {nw nw' : List Ent} {R R' : α → Value → Prop} {as : List α} {v : Value} (x : ListR nw R as v) (h : Le nw nw') (hR : ∀ a v, R a v → R' a v) : ListR nw' R' as v :=
  let ⟨l, vs, k, a, b, c⟩ := x; ⟨l, vs, k, a, h _ b, c.mono hR⟩
noncomputable abbrev VarsR (w : World) (nw : List Ent) (ns : List Str) (v : Value) : Prop := ListR nw (VarR w nw) ns v
theorem VarsR.mono {nw nw' : List Ent} {ns : List Str} (x : VarsR w nw ns v) (h : Le nw nw') : VarsR w nw' ns v := ListR.mono x h fun _ _ y => y.mono h

theorem any_vars {x : Str} {P : Value → Bool} : ∀ {ns : List Str} {vs : List Value}, AllR (VarR w nw) ns vs → (∀ n v, n ∈ ns → v ∈ vs → VarR w nw n v → P v = decide (n = x)) → vs.any P = decide (x ∈ ns)
  | [], [], _, _ => rfl
  | n :: ns, v :: vs, h, hP => by
    rw [List.any_cons, any_vars h.2 fun n v a b => hP n v (.tail _ a) (.tail _ b), hP n v (.head _) (.head _) h.1, Bool.eq_iff_iff]
    simp only [Bool.or_eq_true, decide_eq_true_eq, List.mem_cons]
    exact ⟨fun h => h.imp Eq.symm id, fun h => h.imp Eq.symm id⟩
/-- one of the Variables of a list -/
theorem r_inV {l : Addr} {vs : List Value} {k : Nat} {x : Value} {n : Str} {ns : List Str} {Q : Bool → Shared → Prop} (Z : Sit w z H mu nw L m s) (rm : Room A 2) (hl : (l, W.listOf vs.toArray k) ∈ mu ++ nw) (hx : VarR w nw n x) (hv : AllR (VarR w nw) ns vs)
    (h : ∀ nw' s', Le nw nw' → Sit w z H mu nw' L m s' → Q (decide (n ∈ ns)) s') :
    wpAny (Md w) A (call (.builtin "list.__contains__") [.ref l, x]) (fun r s' => wpAny (Md w) A (truthy r) Q E s') E s := by
  have nameOf : ∀ v ∈ vs, ∃ k, VarR w nw k v := fun v hv' => by
    obtain ⟨i, hi, rfl⟩ := List.mem_iff_getElem.mp hv'
    obtain ⟨a, -, r⟩ := hv.get (List.getElem?_eq_getElem hi)
    exact ⟨a, r⟩
  classical
  let P : Value → Bool := fun v => if VarR w nw n v then true else false
  refine in_sit (e := P) (vs := vs.toArray) (k := k) (d := 1) ?_ ?_ rm Z ?_
  · intro y hy nw' s' A' E' Q' le rm' Z' hQ
    obtain ⟨j, rj⟩ := nameOf y (by simpa using hy)
    refine eqBool_V Z' rm' (rj.mono le) (hx.mono le) fun nw'' s'' le' Z'' => ?_
    have e : P y = decide (j = n) := by
      show (if _ then true else false) = _
      by_cases q : j = n
      · subst q; rw [if_pos rj, decide_eq_true rfl]
      · rw [if_neg fun r => q (rj.fn Z r), decide_eq_false q]
    rw [← e]; exact hQ _ _ le' Z''
  · intro nw' s' Z' le
    rcases List.mem_append.mp hl with h | h
    · exact Z'.getM h
    · exact Z'.get (le _ h)
  · intro nw' s' le Z'
    have e : vs.any P = decide (n ∈ ns) := any_vars hv fun j v hj hv' rj => by
      show (if _ then true else false) = _
      by_cases q : j = n
      · subst q; rw [if_pos rj, decide_eq_true rfl]
      · rw [if_neg fun r => q (rj.fn Z r), decide_eq_false q]
    have := h nw' s' le Z'
    simpa [e] using this
theorem r_notinV {l : Addr} {vs : List Value} {k : Nat} {x : Value} {n : Str} {ns : List Str} {Q : Value → Shared → Prop} (Z : Sit w z H mu nw L m s) (rm : Room A 2) (hl : (l, W.listOf vs.toArray k) ∈ mu ++ nw) (hx : VarR w nw n x) (hv : AllR (VarR w nw) ns vs)
    (h : ∀ nw' s', Le nw nw' → Sit w z H mu nw' L m s' → Q (.bool (!decide (n ∈ ns))) s') : wpAny (Md w) A (compareOp .NotIn x (.ref l)) Q E s :=
  NotIn_slot (T := "list") ⟨_, (Z.N _ hl).1, rfl⟩ F.slot_list_contains (r_inV Z rm hl hx hv h)
theorem r_inVar {l : Addr} {vs : List Value} {k : Nat} {x : Value} {n : Str} {ns : List Str} {Q : Value → Shared → Prop} (Z : Sit w z H mu nw L m s) (rm : Room A 2) (hl : (l, W.listOf vs.toArray k) ∈ mu ++ nw) (hx : VarR w nw n x) (hv : AllR (VarR w nw) ns vs)
    (h : ∀ nw' s', Le nw nw' → Sit w z H mu nw' L m s' → Q (.bool (decide (n ∈ ns))) s') : wpAny (Md w) A (compareOp .In x (.ref l)) Q E s :=
  In_slot (T := "list") ⟨_, (Z.N _ hl).1, rfl⟩ F.slot_list_contains (r_inV Z rm hl hx hv h)

theorem r_append {l : Addr} {vs : Array Value} {k : Nat} {x : Value} {Q : Value → Shared → Prop} (Z : Sit w z H ((l, W.listOf vs k) :: mu) nw L m s) (hsz : vs.size ≤ 10000)
    (h : ∀ s', Sit w z H ((l, W.listOf (vs.push x) (k + 1)) :: mu) nw L m s' → Q .none s') : wpAny (Md w) A (call (.builtin "list.append") [.ref l, x]) Q E s :=
  append_at (hsz := Nat.le_trans hsz (by decide)) (Z.getM (.head _)) fun h' hs ho' => h _ (Z.turn hs ho' s.toks)
/-- NAME.append(..) as a statement -/
theorem x_append {f : Str} {l : Addr} {o : Obj} {e : Expr} {p1 p2 p3 pos : Pos} {pl : Sem Bool} {Q : Flow → Shared → Prop} (Z : Sit w z H mu nw L m s) (hf : m f = some (.ref l)) (ho : (l, o) ∈ mu) (hc : o.cls = .type "list") (hd : o.dict = none)
    (h : wpAny (Md w) A (eval e env) (fun v s₁ => wpAny (Md w) A (call (.builtin "list.append") [.ref l, v]) (fun _ => Q .next) E s₁) E s)
    (hk : EnvOk env L := by exact ⟨rfl, rfl, rfl, rfl⟩) (hx : env.kindOf f = some .local := by rfl) (hdb : (f == ("__debug__" : Str)) = false := by decide)
    (hi : interactive env = false := by rfl) (hs : swapsWith (.Call (.Attribute (.Name f p1) "append" p2) [e] [] p3) none pos.line env = pure false := by rfl)
    (he : eval (.Call (.Attribute (.Name f p1) "append" p2) [e] [] p3) env = (do
      let ov ← eval (.Name f p1) env
      standAt p2.atName
      let (g, first) ← holding [ov] (getMethod ov "append" pl)
      callWith p3 g first (backTo p3 (starEach [e] env)) []) := by rfl)
    (hst : starEach [e] env = (false, eval e env) :: starEach [] env := by rfl) :
    wpAny (Md w) A (exec (.Expr (.Call (.Attribute (.Name f p1) "append" p2) [e] [] p3) pos) env) Q E s :=
  wpAny_Expr_any (MethodCall_ (r_loc Z hf (getMethod_list_append (Z.getM ho) hc hd (callWith_method1 (sp_cons (wpAny_mono h (fun v s₁ h₁ => sp_nil h₁) fun _ _ e => e) hst) hst rfl)) hk hx hdb) he) hi hs

noncomputable def addNew (found : List Str) (n : Str) : List Str := if n ∈ found then found else found ++ [n]
noncomputable def union (nss : List (List Str)) : List Str := nss.flatten.foldl addNew []
end
end Mine
end

section
open PySem PySem.W PySem.Spec PySem.Calls PyProof.Rows
set_option Elab.async false
set_option maxRecDepth 100000
namespace Mine
set_option linter.unusedVariables false
theorem addNew_in {f : List Str} {n : Str} (h : n ∈ f) : addNew f n = f := if_pos h
theorem addNew_out {f : List Str} {n : Str} (h : n ∉ f) : addNew f n = f ++ [n] := if_neg h
theorem addNew_len (f : List Str) (n : Str) : (addNew f n).length ≤ f.length + 1 := by unfold addNew; split <;> simp
theorem foldl_len : ∀ (l f : List Str), (l.foldl addNew f).length ≤ f.length + l.length
  | [], f => by simp
  | n :: l, f => by
    have := foldl_len l (addNew f n)
    have := addNew_len f n
    simp only [List.foldl_cons, List.length_cons]; omega
theorem union_len (nss : List (List Str)) : (union nss).length ≤ nss.flatten.length := by have := foldl_len nss.flatten []; simpa [union] using this
theorem union_take {nss : List (List Str)} {i : Nat} {ns : List Str} (h : nss[i]? = some ns) : union (nss.take (i + 1)) = ns.foldl addNew (union (nss.take i)) := by
  unfold union
  rw [List.take_add_one, h, Option.toList_some, List.flatten_append, List.foldl_append]
  simp
theorem flat_take_len (nss : List (List Str)) (i : Nat) : (nss.take i).flatten.length ≤ nss.flatten.length := by
  have : nss.flatten = (nss.take i).flatten ++ (nss.drop i).flatten := by rw [← List.flatten_append, List.take_append_drop]
  rw [this, List.length_append]; omega

section
variable {w : World} {z : Shared} {H : Heap} {mu nw : List Ent} {L a : Addr} {m : Str → Option Value} {s : Shared} {A : Around} {E : Value → Shared → Prop} {d : Nat} {env : Env}
theorem Sit.third {p q r : Ent} (Z : Sit w z H (p :: q :: r :: mu) nw L m s) : Sit w z H (r :: p :: q :: mu) nw L m s := Z.perm (List.perm_middle (l₁ := [p, q]))
theorem Sit.unthird {p q r : Ent} (Z : Sit w z H (r :: p :: q :: mu) nw L m s) : Sit w z H (p :: q :: r :: mu) nw L m s := Z.perm (List.perm_middle (l₁ := [p, q])).symm
theorem upd_ne {x y : Str} {v : Value} {u : Option Value} (h : m y = u) (ne : y ≠ x := by decide) : (fun y => if y = x then some v else m y) y = u := (if_neg ne).trans h
theorem upd_eq {x : Str} {v : Value} : (fun y => if y = x then some v else m y) x = some v := if_pos rfl

theorem union_ok {nss : List (List Str)} {v : Value} {Q : Value → Shared → Prop} (Z : Sit w z H mu nw L m s) (rm : Room A 3) (hv : ListR nw (fun ns v => VarsR w nw ns v) nss v) (sz : nss.flatten.length ≤ 1000)
    (h : ∀ r nw' s', Le nw nw' → Sit w z H mu nw' L m s' → VarsR w nw' (union nss) r → Q r s') : wpAny (Md w) A (call (.ref 57) [v]) Q E s := by
  obtain ⟨l, vs, k, rfl, hl, hall⟩ := hv
  refine wpA_call (enter (binds := [("parts", .ref l)]) (rb := [("parts", .ref l)]) Z rm rfl (by kernel_rfl) (BindsTo.of_eq rfl) rfl (by decide) (locs rfl) ⟨rfl, rfl, rfl⟩ fun L' s₁ oL ns Z1 rm1 => ?_)
  refine x_seq (x_asg (wpAny_List (sp_nil ⟨by decide, ?_⟩)))
  have Z2 := Z1.allocM (W.listOf #[] 0) rfl s₁.toks
  generalize s₁.heap.objs.size = lf at Z2 ⊢
  refine r_store Z2 fun s₃ Z3 => ?_
  refine x_seq (x_forL (r_loc Z3 rfl ⟨l, vs.toArray, k, _, _, _, rfl, Z3, hl, rm1.2.2,
    fun i mu' nw' m' => ∃ us j, mu' = (lf, W.listOf (List.toArray us) j) :: (L, oL) :: mu ∧ AllR (VarR w nw') (union (nss.take i)) us ∧ m' "found" = some (.ref lf), ⟨[], 0, rfl, trivial, rfl⟩, ?_, ?_⟩))
  · rintro p i pv mu' nw' m' s₄ E' hi hpv ⟨us, j, rfl, hus, hm⟩ le Z4
    obtain ⟨ms, hms, l2, vs2, k2, rfl, hl2, hall2⟩ := hall.get (by simpa using hpv)
    refine x_seq (x_forL (r_loc Z4 rfl ⟨l2, vs2.toArray, k2, _, _, _, rfl, Z4, le _ hl2, rm1.2.2,
      fun i' mu'' nw'' m'' => ∃ us j, mu'' = p :: (lf, W.listOf (List.toArray us) j) :: (L, oL) :: mu ∧ AllR (VarR w nw'') ((ms.take i').foldl addNew (union (nss.take i))) us ∧ m'' "found" = some (.ref lf),
        ⟨us, j, rfl, hus, upd_ne hm⟩, ?_, ?_⟩))
    · rintro p2 i2 pv2 mu2 nw2 m2 s₅ E2 hi2 hpv2 ⟨us2, j2, rfl, hus2, hm2⟩ le2 Z5
      obtain ⟨nm, hnm, hvar⟩ := hall2.get (by simpa using hpv2)
      have et : (ms.take (i2 + 1)).foldl addNew (union (nss.take i)) = addNew ((ms.take i2).foldl addNew (union (nss.take i))) nm := by
        rw [List.take_add_one, hnm, Option.toList_some, List.foldl_append]; rfl
      refine x_seq (wpAny_If (wpAny_isTrue_Compare1 (r_loc Z5 rfl (r_loc Z5 (upd_ne hm2) (r_notinV Z5 (rm1.le (by decide)) (.tail _ (.tail _ (.head _))) (hvar.mono (le.trans le2)) hus2 fun nw6 s₆ le6 Z6 => wpAny_truthy_bool ?_)))))
      by_cases q : nm ∈ (ms.take i2).foldl addNew (union (nss.take i))
      · rw [decide_eq_true q]
        show wpAny _ _ (execs [] _) _ _ _
        refine wpAny_execs_nil (wpAny_execs_nil ⟨_, _, _, ⟨us2, j2, rfl, ?_, upd_ne hm2⟩, le6, Z6⟩)
        rw [et, addNew_in q]
        exact hus2.mono fun _ _ x => x.mono le6
      · rw [decide_eq_false q]
        show wpAny _ _ (execs [_] _) _ _ _
        have hsz : us2.toArray.size ≤ 10000 := by
          have h1 := hus2.length
          have h2 := foldl_len (ms.take i2) (union (nss.take i))
          have h3 := union_len (nss.take i)
          have h4 := flat_take_len nss i
          have h5 : ms.length ≤ nss.flatten.length := by
            have := List.mem_of_getElem? hms
            exact (List.sublist_flatten_of_mem this).length_le
          have h6 : (ms.take i2).length ≤ ms.length := List.length_take_le' ..
          rw [List.size_toArray, ← h1]; omega
        refine x_seq (x_append Z6 (upd_ne hm2) (.tail _ (.tail _ (.head _))) rfl rfl (r_loc Z6 rfl (r_append Z6.third hsz fun s₇ Z7 => ?_)))
        refine wpAny_execs_nil (wpAny_execs_nil ⟨_, _, _, ⟨us2 ++ [pv2], j2 + 1, ?_, ?_, upd_ne hm2⟩, le6, Z7.unthird⟩)
        · rw [List.push_toArray]
        · rw [et, addNew_out q]
          exact AllR.append (hus2.mono fun _ _ x => x.mono le6) ⟨hvar.mono (le.trans (le2.trans le6)), trivial⟩
    · rintro mu2 nw2 m2 s₅ ⟨us2, j2, rfl, hus2, hm2⟩ le2 Z5
      refine wpAny_execs_nil ⟨_, _, _, ⟨us2, j2, rfl, ?_, hm2⟩, le2, Z5⟩
      rw [union_take hms]
      have : ms.take vs2.toArray.size = ms := by rw [List.size_toArray, ← hall2.length]; exact List.take_length
      rw [this] at hus2; exact hus2
  · rintro mu' nw' m' s₄ ⟨us, j, rfl, hus, hm⟩ le Z4
    refine x_seq (wpAny_Return_some (r_loc Z4 hm ?_))
    have : nss.take vs.toArray.size = nss := by rw [List.size_toArray, ← hall.length]; exact List.take_length
    rw [this] at hus
    exact h _ _ _ (le.trans (Le.cons _ _)) (Z.back ns Z4.swap).freeze ⟨lf, us, j, rfl, .head _, hus.mono fun _ _ x => x.mono (Le.cons _ _)⟩
end
end Mine
end

section
open PySem PySem.W PySem.Spec PySem.Calls PyProof.Rows
set_option Elab.async false
set_option maxRecDepth 100000
namespace Mine
set_option linter.unusedVariables false
theorem cells_map {cm : Str → Option Value} : ∀ {cs : List (Str × Addr)} {cells : List Ent}, CellsAre cm cs cells → cells.map (·.1) = cs.map (·.2)
  | _, _, .nil => rfl
  | _, _, .cons h r => by simp only [List.map_cons, cells_map r]

theorem among_snoc (pos pos' : Pos) (c : Value) (l : List Value) (h : TriplesOk l) : codeAmong pos' (l ++ [rawInt pos.line, rawInt pos.col, c]) = codeAmong pos' l ∨ codeAmong pos' (l ++ [rawInt pos.line, rawInt pos.col, c]) = some c := by
  fun_induction TriplesOk l with
  | case1 => 
    simp only [List.nil_append, codeAmong, rawInt]
    split
    · exact .inr rfl
    · exact .inl rfl
  | case2 a t b u x rest ih =>
    simp only [List.cons_append, codeAmong]
    split
    · exact .inl rfl
    · exact ih h
  | case3 l h1 h2 => exact h.elim

section
variable {w : World} {z : Shared} {H : Heap} {mu nw : List Ent} {L a : Addr} {m : Str → Option Value} {s : Shared} {A : Around} {E : Value → Shared → Prop} {d : Nat} {env : Env}

/-- entering a def with cells -/
theorem enterC {f : Addr} {name qual : Str} {params : Arguments} {body : List Stmt} {scope : Scope} {dV kV doc pm cdv ct : Value} {an : Option Addr} {args : Args} {binds : List (Str × Value)} {R : Result → Shared → Prop}
    (Z : Sit w z H mu nw L m s) (rm : Room A (d + 1))
    (ho : (K w.params).lookup f = some ⟨.type "function", none, .func (fnOf name qual params body scope dV kV doc pm an cdv ct), #[]⟩) (hcd : codeIn (K w.params) cdv qual = true)
    (hbind : BindsTo s (fnOf name qual params body scope dV kV doc pm an cdv ct) args binds)
    (hkind : ∀ n, ∀ x ∈ binds, scope.names.lookup x.1 = some .local ∨ (scope.names.lookup x.1 = some .cell ∧ ((cellsFrom n scope.names []).lookup x.1).isSome = true))
    (hnd : ((cellsFrom 0 scope.names []).map (·.1)).Nodup)
    (hsc : scope.isCoroutine = false ∧ scope.isGenerator = false ∧ scope.kind = .function)
    (h : ∀ L' s₁ oL cells, NsObj oL m → CellsAre (bindC (envOfC qual scope L' f cdv).kindOf binds fun _ => none) (cellsFrom (L' + 1) scope.names []) cells →
      Sit w z H (cells ++ (L, oL) :: mu) nw L' (bindL (envOfC qual scope L' f cdv).kindOf binds fun _ => none) s₁ → Room (A.deeper (envOfC qual scope L' f cdv)) d →
      wpAny (Md w) (A.deeper (envOfC qual scope L' f cdv)) (execs body (envOfC qual scope L' f cdv)) (FunQ R) (fun _ _ => False) s₁) :
    codeAny (Md w) A (.call (.ref f) args) R s := by
  obtain ⟨oL, es, ep, hL, hLd, hLk, hLf⟩ := Z.F.ns
  obtain ⟨p, loose, mean, mg, mb, T⟩ := Z.gl.T
  refine codeAny_call_function (fd := fnOf name qual params body scope dV kV doc pm an cdv ct) rm.depth (Z.K _ _ ho) rfl hsc.1 hsc.2.1 rfl (codeRec_of Z.K hcd) (hbind _ _ _ _ ?_)
  refine wpAny_newFunctionEnv_cells hsc.2.2 (hkind _) fun env' he s' x => ?_
  subst he
  refine ⟨(T.nolimit.keeps Z.F.keep).keeps x.toInCall.keep, codeAny_func ?_⟩
  obtain ⟨h₁, tk, rfl, _⟩ := x.done
  have hk₁ : ∀ b o, s.heap.get? b = some o → h₁.get? b = some o := x.toInCall.keep
  obtain ⟨cells, NC, Y⟩ := Cl.news (h₀ := s.heap) (Nat.le_refl _) fun n c hm => ⟨x.cell n c (lookup_of_mem_nodup (cellsFrom_names scope.names 0 (s.heap.objs.size + 1) [] [] rfl ▸ hnd) hm), x.above n c hm⟩
  have above : ∀ p ∈ cells, s.heap.objs.size < p.1 := fun p hp => by
    have : p.1 ∈ cells.map (·.1) := List.mem_map_of_mem hp
    rw [cells_map Y] at this
    obtain ⟨q, hq, e⟩ := List.mem_map.mp this
    exact e ▸ x.above q.1 q.2 hq
  have apart : cells.Pairwise fun a b => a.1 ≠ b.1 := by
    have h1 : (cells.map (·.1)).Pairwise (· ≠ ·) := by rw [cells_map Y]; exact List.pairwise_map.mpr x.apart
    exact List.pairwise_map.mp h1
  have Lne : ∀ q ∈ mu ++ nw, q.1 ≠ L := fun q hq => (Z.N q hq).2.1
  have Llt : L < s.heap.objs.size := Heap.lt_size hL
  have Hnone : ∀ {b : Addr}, s.heap.objs.size ≤ b → H.get? b = none := fun {b} hb => by
    cases e : H.get? b with
    | none => rfl
    | some o => exact absurd (Heap.lt_size (Z.F.keep b o e)) (Nat.not_lt.mpr hb)
  refine wpAny_mono (h s.heap.objs.size _ oL cells ⟨es, ep, hLd, hLk, hLf⟩ Y ⟨Z.gl, ⟨x.toInCall.ns, fun b o e => hk₁ b o (Z.F.keep b o e), Nat.le_trans Z.F.above (Nat.le_of_lt Llt)⟩, (fun q hq => ?_), (fun q hq r hr => ?_), ?_, Z.rest,
    Z.tb.mono (fun q hq o e => hk₁ _ _ e) (fun p hp => hp), fun q hq => ⟨(Z.tn q hq).1, Nat.ne_of_lt (Z.ltT hq), fun p hp => ?_⟩⟩ rm.down) (fun _ _ x => x) fun _ _ x => x.elim
  · rcases List.mem_append.mp hq with hq | hq
    · rcases List.mem_append.mp hq with hq | hq
      · exact ⟨(NC q hq).1, (NC q hq).2.1, Hnone (Nat.le_of_lt (above q hq))⟩
      · rcases List.mem_cons.mp hq with rfl | hq
        · exact ⟨hk₁ _ _ hL, Nat.ne_of_lt Llt, by
            cases e : H.get? L with
            | none => rfl
            | some o => exact absurd (Nat.lt_of_lt_of_le (Heap.lt_size e) Z.F.above) (Nat.lt_irrefl _)⟩
        · have n := Z.N q (List.mem_append_left _ hq)
          exact ⟨hk₁ _ _ n.1, Nat.ne_of_lt (Heap.lt_size n.1), n.2.2⟩
    · have n := Z.N q (List.mem_append_right _ hq)
      exact ⟨hk₁ _ _ n.1, Nat.ne_of_lt (Heap.lt_size n.1), n.2.2⟩
  · have rlt := Z.lt (List.mem_append_right _ hr)
    rcases List.mem_append.mp hq with hq | hq
    · exact Nat.ne_of_gt (Nat.lt_trans rlt (above q hq))
    · rcases List.mem_cons.mp hq with rfl | hq
      · exact Ne.symm (Lne r (List.mem_append_right _ hr))
      · exact Z.nd q hq r hr
  · refine List.pairwise_append.mpr ⟨apart, List.pairwise_cons.mpr ⟨fun q hq => Ne.symm (Lne q (List.mem_append_left _ hq)), Z.mm⟩, fun q hq r hr => ?_⟩
    rcases List.mem_cons.mp hr with rfl | hr
    · exact Nat.ne_of_gt (Nat.lt_trans Llt (above q hq))
    · exact Nat.ne_of_gt (Nat.lt_trans (Z.lt (List.mem_append_left _ hr)) (above q hq))
  · rcases List.mem_append.mp hp with hp | hp
    · rcases List.mem_append.mp hp with hp | hp
      · exact Nat.ne_of_gt (Nat.lt_trans (Z.ltT hq) (above p hp))
      · rcases List.mem_cons.mp hp with rfl | hp
        · exact Ne.symm (Z.tn q hq).2.1
        · exact (Z.tn q hq).2.2 p (List.mem_append_left _ hp)
    · exact (Z.tn q hq).2.2 p (List.mem_append_right _ hp)

/-- a lambda's function object -/
noncomputable def LamAt (nw : List Ent) (f : Addr) (qual : Str) (params : Arguments) (body : Expr) (scope : Scope) (clos : List (Str × Addr)) : Prop :=
  ∃ pm c' ctv oc vs t, (f, kla_obj "<lambda>" qual params body scope clos pm c' ctv) ∈ nw ∧ (c', oc) ∈ nw ∧ oc.data = .fields vs ∧ vs[1]? = some (.str qual t)
theorem LamAt.mono {nw nw' : List Ent} {f : Addr} {qual : Str} {params : Arguments} {body : Expr} {scope : Scope} {clos : List (Str × Addr)} (x : LamAt nw f qual params body scope clos) (h : Le nw nw') : LamAt nw' f qual params body scope clos :=
  let ⟨pm, c', ctv, oc, vs, t, a, b, c, d⟩ := x; ⟨pm, c', ctv, oc, vs, t, h _ a, h _ b, c, d⟩
/-- calling a lambda -/
theorem enterLam {f : Addr} {qual : Str} {params : Arguments} {body : Expr} {scope : Scope} {cl : List (Str × Addr)} {args : Args} {binds rb : List (Str × Value)} {R : Result → Shared → Prop}
    (Z : Sit w z H mu nw L m s) (rm : Room A (d + 1)) (hf : LamAt nw f qual params body scope cl)
    (hbind : ∀ pm cdv ctv, bindArgs (kla_fn "<lambda>" qual params body scope cl pm cdv ctv) args = pure binds) (hrb : binds.reverse = rb)
    (hcell : ∀ x ∈ scope.names, x.2 ≠ .cell) (hloc : ∀ y ∈ binds, scope.names.lookup y.1 = some .local)
    (hsc : scope.isCoroutine = false ∧ scope.isGenerator = false ∧ scope.kind = .function)
    (h : ∀ L' s₁ oL cdv, NsObj oL m → Sit w z H ((L, oL) :: mu) nw L' (fun x => rb.lookup x) s₁ → Room (A.deeper (envX qual scope L' f cdv cl)) d →
      wpAny (Md w) (A.deeper (envX qual scope L' f cdv cl)) (eval body (envX qual scope L' f cdv cl)) (fun v s' => R (.ok (.ret v)) s') (fun _ _ => False) s₁) :
    codeAny (Md w) A (.call (.ref f) args) R s := by
  subst hrb
  obtain ⟨pm, c', ctv, oc, vs, t, hf1, hf2, hf3, hf4⟩ := hf
  obtain ⟨oL, es, ep, hL, hLd, hLk, hLf⟩ := Z.F.ns
  obtain ⟨p, loose, mean, mg, mb, T⟩ := Z.gl.T
  refine kla_callFunE (fd := kla_fn "<lambda>" qual params body scope cl pm (.ref c') ctv) rm.depth (Z.get hf1) rfl hsc.1 hsc.2.1 rfl ⟨c', oc, vs, t, rfl, Z.get hf2, hf3, hf4⟩ ?_
  rw [hbind]
  refine wpAny_pure (wpAny_newFunctionEnv hcell hloc (fun h₁ hns hsb => ⟨((T.nolimit).keeps Z.F.keep).fresh _ hsb, ?_⟩) hsc.2.2)
  have hk₁ : ∀ b o, s.heap.get? b = some o → h₁.get? b = some o := fun b o e => hsb.extBut b o (Nat.ne_of_lt (Heap.lt_size e)) (Heap.get?_push_of_some _ e)
  have Lne : ∀ q ∈ mu ++ nw, q.1 ≠ L := fun q hq => (Z.N q hq).2.1
  refine kla_codeExpr (wpAny_mono (h s.heap.objs.size _ oL (.ref c') ⟨es, ep, hLd, hLk, hLf⟩ ⟨Z.gl, ⟨hns, fun b o e => hk₁ b o (Z.F.keep b o e), Nat.le_trans Z.F.above (Nat.le_of_lt (Heap.lt_size hL))⟩, (fun q hq => ?_), (fun q hq r hr => ?_), (List.pairwise_cons.mpr ⟨fun q hq => Ne.symm (Lne q (List.mem_append_left _ hq)), Z.mm⟩), Z.rest, Z.tb.mono (fun q hq o e => hk₁ _ _ e) (fun p hp => hp), fun q hq => ⟨(Z.tn q hq).1, Nat.ne_of_lt (Z.ltT hq), fun p hp => ?_⟩⟩ rm.down) (fun _ _ x => x) fun _ _ x => x.elim)
  · rcases List.mem_cons.mp hq with rfl | hq
    · refine ⟨hk₁ _ _ hL, Nat.ne_of_lt (Heap.lt_size hL), ?_⟩
      cases e : H.get? L with
      | none => rfl
      | some o => exact absurd (Nat.lt_of_lt_of_le (Heap.lt_size e) Z.F.above) (Nat.lt_irrefl _)
    · have n := Z.N q hq
      exact ⟨hk₁ _ _ n.1, Nat.ne_of_lt (Heap.lt_size n.1), n.2.2⟩
  · rcases List.mem_cons.mp hq with rfl | hq
    · exact Ne.symm (Lne r (List.mem_append_right _ hr))
    · exact Z.nd q hq r hr
  · rcases List.mem_cons.mp hp with rfl | hp
    · exact Ne.symm (Z.tn q hq).2.1
    · exact (Z.tn q hq).2.2 p hp

/-- a lambda is made -/
theorem r_lam {cn : Str} {cs : Scope} {cl clos : List (Str × Addr)} {c P : Addr} {params : Arguments} {body : Expr} {scope : Scope} {pos : Pos} {fa : Addr} {Q : Value → Shared → Prop} (Z : Sit w z H mu nw L m s) (hq : (c, P) ∈ tabs)
    (hqual : (envX cn cs L fa (.ref c) cl).qual ++ "<lambda>" = qualOf P) (hcl : closureFor scope (envX cn cs L fa (.ref c) cl) = pure clos) (hdef : defaultsOf params (envX cn cs L fa (.ref c) cl) = ([], []))
    (h : ∀ f nw' s', Le nw nw' → Sit w z H mu nw' L m s' → LamAt nw' f (qualOf P) params body scope clos → Q (.ref f) s') :
    wpAny (Md w) A (eval (.Lambda params body scope pos) (envX cn cs L fa (.ref c) cl)) Q E s := by
  obtain ⟨p, loose, mean, mg, mb, T⟩ := Z.gl.T
  obtain ⟨ps, eP, tri, lam⟩ := Z.tb (c, P) hq
  have C : CodeHd H c P := Z.gl.C _ hq
  have tnP := Z.tn (c, P) hq
  refine kla_eval hdef ?_
  rw [hqual]
  let others := (tlOf s.heap).filter fun p => p.1 != P
  have oth : ∀ p ∈ others, p.1 ≠ P ∧ p ∈ tlOf s.heap := fun p hp => by
    have := List.mem_filter.mp hp
    exact ⟨by simpa using this.2, this.1⟩
  have hne : ∀ p ∈ mu ++ nw ++ others, p.1 ≠ P := fun p hp => by
    rcases List.mem_append.mp hp with h | h
    · exact tnP.2.2 p h
    · exact (oth p h).1
  have N0 : News H L s.heap ((P, tabObj ps) :: (mu ++ nw ++ others)) := fun p hp => by
    rcases List.mem_cons.mp hp with rfl | hp
    · exact ⟨eP, tnP.2.1, tnP.1⟩
    · rcases List.mem_append.mp hp with h | h
      · exact Z.N p h
      · exact Z.newsT p (List.mem_append_right _ (oth p h).2)
  have othT : ∀ q ∈ tabs, q.2 ≠ P → ∀ o, s.heap.get? q.2 = some o → (q.2, o) ∈ others := fun q hq' ne o e => List.mem_filter.mpr ⟨Z.tl hq' e, by simpa using ne⟩
  cases e : codeAmong pos ps.toList with
  | none =>
    refine kla_nest (g := fun o' => (P, o') :: (mu ++ nw ++ others)) Z.F N0 T C rfl (.head hne) tri e hcl fun f c' oc vs t ctv h' tk F' N' hd hv lt1 lt2 => ?_
    have ltmn : ∀ p ∈ mu ++ nw, p.1 < c' := fun p hp => lt1 p (.tail _ (List.mem_append_left _ hp))
    have ltT : ∀ q ∈ tabs, q.2 < c' := fun q hq' => by
      obtain ⟨ps', e', -⟩ := Z.tb q hq'
      by_cases qe : q.2 = P
      · rw [qe]; exact lt1 (P, tabObj ps) (.head _)
      · exact lt1 _ (.tail _ (List.mem_append_right _ (othT q hq' qe _ e')))
    refine h f ((f, kla_obj "<lambda>" (qualOf P) params body scope clos ((mg "__name__").getD .none) c' ctv) :: (c', oc) :: nw) _ (fun q hq => .tail _ (.tail _ hq)) ⟨Z.gl, F', fun p hp => ?_, fun p hp q hq => ?_, Z.mm, Z.rest, fun q hq' => ?_, fun q hq' => ⟨(Z.tn q hq').1, (Z.tn q hq').2.1, fun p hp => ?_⟩⟩ ⟨_, c', ctv, oc, vs, t, .head _, .tail _ (.head _), hd, hv⟩
    · refine N' p ?_
      rcases List.mem_append.mp hp with hp | hp
      · exact .tail _ (.tail _ (.tail _ (List.mem_append_left _ (List.mem_append_left _ hp))))
      · rcases List.mem_cons.mp hp with rfl | hp
        · exact .head _
        · rcases List.mem_cons.mp hp with rfl | hp
          · exact .tail _ (.head _)
          · exact .tail _ (.tail _ (.tail _ (List.mem_append_left _ (List.mem_append_right _ hp))))
    · have l := ltmn p (List.mem_append_left _ hp)
      rcases List.mem_cons.mp hq with rfl | hq
      · exact Nat.ne_of_lt (Nat.lt_trans l lt2)
      · rcases List.mem_cons.mp hq with rfl | hq
        · exact Nat.ne_of_lt l
        · exact Z.nd p hp q hq
    · by_cases qe : q.2 = P
      · rw [qe]
        refine ⟨ps ++ #[rawInt pos.line, rawInt pos.col, .ref c'], (N' _ (.tail _ (.tail _ (.head _)))).1, by rw [Array.toList_append]; exact TriplesOk_snoc _ _ _ _ tri, fun pos' cv ec => ?_⟩
        rw [Array.toList_append] at ec
        rcases among_snoc pos pos' (.ref c') ps.toList tri with e1 | e1
        · have := ec; rw [show (#[rawInt ↑pos.line, rawInt ↑pos.col, Value.ref c'] : Array Value).toList = [rawInt pos.line, rawInt pos.col, .ref c'] from rfl, e1] at this
          obtain ⟨c2, oc2, vs2, t2, a1, a2, a3, a4⟩ := lam pos' cv this
          exact ⟨c2, oc2, vs2, t2, a1, .tail _ (.tail _ a2), a3, a4⟩
        · have := ec; rw [show (#[rawInt ↑pos.line, rawInt ↑pos.col, Value.ref c'] : Array Value).toList = [rawInt pos.line, rawInt pos.col, .ref c'] from rfl, e1] at this
          cases this
          exact ⟨c', oc, vs, t, rfl, .tail _ (.head _), hd, hv⟩
      · obtain ⟨ps', e', tri', lam'⟩ := Z.tb q hq'
        exact ⟨ps', (N' _ (.tail _ (.tail _ (.tail _ (List.mem_append_right _ (othT q hq' qe _ e')))))).1, tri', lam'.mono fun _ h => .tail _ (.tail _ h)⟩
    · rcases List.mem_append.mp hp with hp | hp
      · exact (Z.tn q hq').2.2 p (List.mem_append_left _ hp)
      · rcases List.mem_cons.mp hp with rfl | hp
        · exact Nat.ne_of_gt (Nat.lt_trans (ltT q hq') lt2)
        · rcases List.mem_cons.mp hp with rfl | hp
          · exact Nat.ne_of_gt (ltT q hq')
          · exact (Z.tn q hq').2.2 p (List.mem_append_right _ hp)
  | some cv =>
    obtain ⟨c', oc, vs, t, rfl, hm, hd, hv⟩ := lam pos cv e
    refine kla_hit Z.F N0 T C rfl (.head _) tri e hcl fun f ctv h' tk F' N' lt => ?_
    have ltmn : ∀ p ∈ mu ++ nw, p.1 < f := fun p hp => lt p (.tail _ (List.mem_append_left _ hp))
    have ltT : ∀ q ∈ tabs, q.2 < f := fun q hq' => by
      obtain ⟨ps', e', -⟩ := Z.tb q hq'
      by_cases qe : q.2 = P
      · rw [qe]; exact lt (P, tabObj ps) (.head _)
      · exact lt _ (.tail _ (List.mem_append_right _ (othT q hq' qe _ e')))
    refine h f ((f, kla_obj "<lambda>" (qualOf P) params body scope clos ((mg "__name__").getD .none) c' ctv) :: nw) _ (fun q hq => .tail _ hq) ⟨Z.gl, F', fun p hp => ?_, fun p hp q hq => ?_, Z.mm, Z.rest, fun q hq' => ?_, fun q hq' => ⟨(Z.tn q hq').1, (Z.tn q hq').2.1, fun p hp => ?_⟩⟩ ⟨_, c', ctv, oc, vs, t, .head _, .tail _ hm, hd, hv⟩
    · refine N' p ?_
      rcases List.mem_append.mp hp with hp | hp
      · exact .tail _ (.tail _ (List.mem_append_left _ (List.mem_append_left _ hp)))
      · rcases List.mem_cons.mp hp with rfl | hp
        · exact .head _
        · exact .tail _ (.tail _ (List.mem_append_left _ (List.mem_append_right _ hp)))
    · have l := ltmn p (List.mem_append_left _ hp)
      rcases List.mem_cons.mp hq with rfl | hq
      · exact Nat.ne_of_lt l
      · exact Z.nd p hp q hq
    · obtain ⟨ps', e', tri', lam'⟩ := Z.tb q hq'
      refine ⟨ps', ?_, tri', lam'.mono fun _ h => .tail _ h⟩
      by_cases qe : q.2 = P
      · rw [qe] at e' ⊢
        rw [eP] at e'; cases e'
        exact (N' _ (.tail _ (.head _))).1
      · exact (N' _ (.tail _ (.tail _ (List.mem_append_right _ (othT q hq' qe _ e'))))).1
    · rcases List.mem_append.mp hp with hp | hp
      · exact (Z.tn q hq').2.2 p (List.mem_append_left _ hp)
      · rcases List.mem_cons.mp hp with rfl | hp
        · exact Nat.ne_of_gt (ltT q hq')
        · exact (Z.tn q hq').2.2 p (List.mem_append_right _ hp)
end
end Mine
end

section
open PySem PySem.W PySem.Spec PySem.Calls PyProof.Rows
set_option Elab.async false
set_option maxRecDepth 100000
namespace Mine
set_option linter.unusedVariables false
noncomputable def FunOk (w : World) (z : Shared) (H : Heap) (nw : List Ent) (fv : Value) (d : Nat) (x : Value) (P : List Ent → Value → Prop) : Prop :=
  ∀ {mu nw' : List Ent} {L : Addr} {m : Str → Option Value} {s : Shared} {A : Around} {E : Value → Shared → Prop} {Q : Value → Shared → Prop}, Le nw nw' → Room A d → Sit w z H mu nw' L m s →
    (∀ r nw'' s'', Le nw' nw'' → Sit w z H mu nw'' L m s'' → P nw'' r → Q r s'') → wpAny (Md w) A (call fv [x]) Q E s
noncomputable def FnIn (nw : List Ent) (fv : Value) : Prop := ∃ f oc od fd sl, fv = .ref f ∧ (f, (⟨oc, od, .func fd, sl⟩ : Obj)) ∈ nw
theorem FnIn.mono {nw nw' : List Ent} {fv : Value} (x : FnIn nw fv) (h : Le nw nw') : FnIn nw' fv := let ⟨f, oc, od, fd, sl, a, b⟩ := x; ⟨f, oc, od, fd, sl, a, h _ b⟩
theorem LamAt.fn {nw : List Ent} {f : Addr} {qual : Str} {params : Arguments} {body : Expr} {scope : Scope} {clos : List (Str × Addr)} (x : LamAt nw f qual params body scope clos) : FnIn nw (.ref f) :=
  let ⟨pm, c', ctv, oc, vs, t, a, b, c, d⟩ := x; ⟨f, _, _, _, _, rfl, a⟩

section
variable {w : World} {z : Shared} {H : Heap} {mu nw : List Ent} {L a : Addr} {m : Str → Option Value} {s : Shared} {A : Around} {E : Value → Shared → Prop} {d : Nat} {env : Env}

theorem FnIn.at {fv : Value} (Z : Sit w z H mu nw L m s) (x : FnIn nw fv) : ∃ f, fv = .ref f ∧ FnAt f s.heap := let ⟨f, oc, od, fd, sl, a, b⟩ := x; ⟨f, a, oc, od, fd, sl, Z.get b⟩
/-- calling what a name holds -/
theorem r_callF {x : Str} {np pos : Pos} {e : Expr} {rest : List Expr} {fv : Value} {Q : Value → Shared → Prop} (Z : Sit w z H mu nw L m s) (hx : m x = some fv) (hf : FnIn nw fv)
    (h : wpAny (Md w) A (spliced (backTo pos (starEach (e :: rest) env))) (fun vs s₁ => ∃ mu' nw' L' m', Le nw nw' ∧ Sit w z H mu' nw' L' m' s₁ ∧ wpAny (Md w) A (call fv vs) Q E s₁) E s)
    (hk : EnvOk env L := by exact ⟨rfl, rfl, rfl, rfl⟩) (hxx : env.kindOf x = some .local := by rfl) (hd : (x == ("__debug__" : Str)) = false := by decide)
    (he : starEach (e :: rest) env = (false, eval e env) :: starEach rest env := by rfl) (hplain : (backTo pos (starEach rest env)).any (·.1) = false := by rfl) :
    wpAny (Md w) A (eval (.Call (.Name x np) (e :: rest) [] pos) env) Q E s := by
  obtain ⟨f, rfl, hF⟩ := hf.at Z
  refine wpAny_Call_NameR (r_loc Z hx (callWith_F hF (wpAny_mono h (fun vs s₁ h₁ => ?_) fun _ _ e => e) he hplain) hk hxx hd)
  obtain ⟨mu', nw', L', m', le, Z', h₁⟩ := h₁
  obtain ⟨f', e', hF'⟩ := (hf.mono le).at Z'
  cases e'
  exact ⟨hF', h₁⟩
/-- VALUE.name(..) where the class's def is found -/
theorem r_meth {y C f : Addr} {es : List DictEntry} {name : Str} {pl : Sem Bool} {Q : Value × List Value → Shared → Prop} (Z : Sit w z H mu nw L m s) (i : Inst nw y C es) (ok : ClsOk w C) (hf : findIn (KK w) (.ref C) name = some (some (.ref f)))
    (ht : typeIn (KK w) (.ref f) = some (.type "function")) (hl : getL name es = some none) (h : Q (.ref f, [.ref y]) s) : wpAny (Md w) A (getMethod (.ref y) name pl) Q E s := by
  obtain ⟨dx, n, I⟩ := i.at Z
  exact method_inst Z.F Z.gl.X I ok.pg hf (isFn_of ht) hl h
theorem r_args {f : Addr} {first : List Value} {pos : Pos} {e : Expr} {rest : List Expr} {Q : Value → Shared → Prop} (Z : Sit w z H mu nw L m s) (hk : keepIn (KK w) (.ref f) = true)
    (h : wpAny (Md w) A (spliced (backTo pos (starEach (e :: rest) env))) (fun vs s₁ => (KK w).In s₁.heap ∧ wpAny (Md w) A (call (.ref f) (first ++ vs)) Q E s₁) E s)
    (he : starEach (e :: rest) env = (false, eval e env) :: starEach rest env := by rfl) (hplain : (backTo pos (starEach rest env)).any (·.1) = false := by rfl) :
    wpAny (Md w) A (callWith pos (.ref f) first (backTo pos (starEach (e :: rest) env)) []) Q E s := callWith_K Z.gl.X hk h he hplain
theorem r_args0 {f : Addr} {first : List Value} {pos : Pos} {Q : Value → Shared → Prop} (Z : Sit w z H mu nw L m s) (hk : keepIn (KK w) (.ref f) = true)
    (h : wpAny (Md w) A (call (.ref f) (first ++ [])) Q E s) : wpAny (Md w) A (callWith pos (.ref f) first (backTo pos (starEach [] env)) []) Q E s := callWith_K0 Z.K hk h

/-- NAME[k] of a list that stays -/
theorem r_item {x : Str} {k : Nat} {i : Int} {l : Addr} {vs : Array Value} {j : Nat} {v : Value} {p1 p2 pos : Pos} {Q : Value → Shared → Prop} (Z : Sit w z H mu nw L m s) (hx : m x = some (.ref l)) (hl : (l, W.listOf vs j) ∈ mu ++ nw) (h0 : 0 ≤ i) (hi : i < 2 ^ 63) (hv : vs[i.toNat]? = some v)
    (h : ∀ s', Sit w z H mu nw L m s' → Q v s')
    (hk : EnvOk env L := by exact ⟨rfl, rfl, rfl, rfl⟩) (hxx : env.kindOf x = some .local := by rfl) (hd : (x == ("__debug__" : Str)) = false := by decide) (ht : ∀ o r, letTemporaryGo (.Name x p1) o r = pure () := by intro _ _; rfl) :
    wpAny (Md w) A (eval (.Subscript (.Name x p1) (.Constant (.int i) k p2) pos) env) Q E s :=
  Subscript_Constant (r_loc Z hx (r_int Z fun t s₁ Z1 => ⟨"list", _, slot_list_getitem.lookup, ⟨_, (Z1.N _ hl).1, rfl⟩, wpAny_getItem_list ⟨_, (Z1.N _ hl).1, rfl, j, rfl⟩ h0 hi hv (h _ Z1)⟩) hk hxx hd) ht

/-- visit of an Application -/
theorem visit_App {y : Addr} {p q : Value} {t1 t2 : Tok} {d : Nat} {P1 P2 P3 : List Ent → Value → Prop} {Q : Value → Shared → Prop} {fv cv : Value} (Z : Sit w z H mu nw L m s) (rm : Room A (d + 1)) (i : Inst nw y 424 [dE w "function" t1 p, dE w "argument" t2 q]) (hp : ∃ a, p = .ref a) (hq : ∃ a, q = .ref a)
    (hf : FnIn nw fv) (hc : FnIn nw cv) (f1 : FunOk w z H nw fv d p P1) (f2 : FunOk w z H nw fv d q P2) (mono1 : ∀ {nw nw' r}, Le nw nw' → P1 nw r → P1 nw' r) (mono2 : ∀ {nw nw' r}, Le nw nw' → P2 nw r → P2 nw' r)
    (c3 : ∀ {nw' r1 r2 l k}, Le nw nw' → P1 nw' r1 → P2 nw' r2 → (l, W.listOf #[r1, r2] k) ∈ nw' → FunOk w z H nw' cv d (.ref l) P3)
    (h : ∀ r nw' s', Le nw nw' → Sit w z H mu nw' L m s' → P3 nw' r → Q r s') : wpAny (Md w) A (call (.ref 377) [.ref y, fv, cv]) Q E s := by
  obtain ⟨ap, rfl⟩ := hp
  obtain ⟨aq, rfl⟩ := hq
  refine wpA_call (enter (binds := [("self", .ref y), ("function", fv), ("combinator", cv)]) (rb := [("combinator", cv), ("function", fv), ("self", .ref y)]) Z rm rfl (by kernel_rfl) (BindsTo.of_eq rfl) rfl (by decide) (locs rfl) ⟨rfl, rfl, rfl⟩ fun L' s₁ oL ns Z1 rm1 => ?_)
  refine x_seq (wpAny_Return_some (r_callF Z1 rfl hc (sp_cons (wpAny_List (sp_cons (r_callF Z1 rfl hf (sp_cons (r_nattr Z1 rfl i (okApplication w) (fApplicationXfunction w) rfl rfl fun s₂ Z2 => sp_nil ⟨_, _, _, _, Le.refl _, Z2, f1 (Le.refl _) rm1 Z2 fun r1 nw3 s₃ le3 Z3 h1 => ?_⟩))))))))
  refine sp_cons (r_callF Z3 rfl (hf.mono le3) (sp_cons (r_nattr Z3 rfl (i.mono le3) (okApplication w) (fApplicationXargument w) rfl rfl fun s₄ Z4 => sp_nil ⟨_, _, _, _, Le.refl _, Z4, f2 le3 rm1 Z4 fun r2 nw5 s₅ le5 Z5 h2 => ?_⟩)))
  refine sp_nil ⟨(show 2 ≤ sizeLine by decide), sp_nil ?_⟩
  have Z6 := Z5.alloc (W.listOf #[r1, r2] 0) rfl s₅.toks
  have le6 := Le.cons (s₅.heap.objs.size, W.listOf #[r1, r2] 0) nw5
  refine ⟨_, _, _, _, (le3.trans le5).trans le6, Z6, ?_⟩
  exact c3 ((le3.trans le5).trans le6) (mono1 (le5.trans le6) h1) (mono2 le6 h2) (.head _) (Le.refl _) rm1 Z6 fun r nw7 s₇ le7 Z7 h3 => h r nw7 s₇ (((le3.trans le5).trans le6).trans le7) (Z.back ns Z7) h3
/-- visit of an And or Or -/
theorem visit_Bin {C : Addr} (ok : ClsOk w C) (ha : findIn (KK w) (.ref C) "first" = some none) (hb : findIn (KK w) (.ref C) "second" = some none) {y : Addr} {p q : Value} {t1 t2 : Tok} {d : Nat} {P1 P2 P3 : List Ent → Value → Prop} {Q : Value → Shared → Prop} {fv cv : Value} (Z : Sit w z H mu nw L m s) (rm : Room A (d + 1)) (i : Inst nw y C [dE w "first" t1 p, dE w "second" t2 q]) (hp : ∃ a, p = .ref a) (hq : ∃ a, q = .ref a)
    (hf : FnIn nw fv) (hc : FnIn nw cv) (f1 : FunOk w z H nw fv d p P1) (f2 : FunOk w z H nw fv d q P2) (mono1 : ∀ {nw nw' r}, Le nw nw' → P1 nw r → P1 nw' r) (mono2 : ∀ {nw nw' r}, Le nw nw' → P2 nw r → P2 nw' r)
    (c3 : ∀ {nw' r1 r2 l k}, Le nw nw' → P1 nw' r1 → P2 nw' r2 → (l, W.listOf #[r1, r2] k) ∈ nw' → FunOk w z H nw' cv d (.ref l) P3)
    (h : ∀ r nw' s', Le nw nw' → Sit w z H mu nw' L m s' → P3 nw' r → Q r s') : wpAny (Md w) A (call (.ref 838) [.ref y, fv, cv]) Q E s := by
  obtain ⟨ap, rfl⟩ := hp
  obtain ⟨aq, rfl⟩ := hq
  refine wpA_call (enter (binds := [("self", .ref y), ("function", fv), ("combinator", cv)]) (rb := [("combinator", cv), ("function", fv), ("self", .ref y)]) Z rm rfl (by kernel_rfl) (BindsTo.of_eq rfl) rfl (by decide) (locs rfl) ⟨rfl, rfl, rfl⟩ fun L' s₁ oL ns Z1 rm1 => ?_)
  refine x_seq (wpAny_Return_some (r_callF Z1 rfl hc (sp_cons (wpAny_List (sp_cons (r_callF Z1 rfl hf (sp_cons (r_nattr Z1 rfl i ok ha rfl rfl fun s₂ Z2 => sp_nil ⟨_, _, _, _, Le.refl _, Z2, f1 (Le.refl _) rm1 Z2 fun r1 nw3 s₃ le3 Z3 h1 => ?_⟩))))))))
  refine sp_cons (r_callF Z3 rfl (hf.mono le3) (sp_cons (r_nattr Z3 rfl (i.mono le3) ok hb rfl rfl fun s₄ Z4 => sp_nil ⟨_, _, _, _, Le.refl _, Z4, f2 le3 rm1 Z4 fun r2 nw5 s₅ le5 Z5 h2 => ?_⟩)))
  refine sp_nil ⟨(show 2 ≤ sizeLine by decide), sp_nil ?_⟩
  have Z6 := Z5.alloc (W.listOf #[r1, r2] 0) rfl s₅.toks
  have le6 := Le.cons (s₅.heap.objs.size, W.listOf #[r1, r2] 0) nw5
  refine ⟨_, _, _, _, (le3.trans le5).trans le6, Z6, ?_⟩
  exact c3 ((le3.trans le5).trans le6) (mono1 (le5.trans le6) h1) (mono2 le6 h2) (.head _) (Le.refl _) rm1 Z6 fun r nw7 s₇ le7 Z7 h3 => h r nw7 s₇ (((le3.trans le5).trans le6).trans le7) (Z.back ns Z7) h3
/-- visit of a Negated -/
theorem visit_Neg {y : Addr} {p : Value} {t1 : Tok} {d : Nat} {P1 P3 : List Ent → Value → Prop} {Q : Value → Shared → Prop} {fv cv : Value} (Z : Sit w z H mu nw L m s) (rm : Room A (d + 1)) (i : Inst nw y 815 [dE w "term" t1 p]) (hp : ∃ a, p = .ref a)
    (hf : FnIn nw fv) (hc : FnIn nw cv) (f1 : FunOk w z H nw fv d p P1) (mono1 : ∀ {nw nw' r}, Le nw nw' → P1 nw r → P1 nw' r)
    (c3 : ∀ {nw' r1 l k}, Le nw nw' → P1 nw' r1 → (l, W.listOf #[r1] k) ∈ nw' → FunOk w z H nw' cv d (.ref l) P3)
    (h : ∀ r nw' s', Le nw nw' → Sit w z H mu nw' L m s' → P3 nw' r → Q r s') : wpAny (Md w) A (call (.ref 791) [.ref y, fv, cv]) Q E s := by
  obtain ⟨ap, rfl⟩ := hp
  refine wpA_call (enter (binds := [("self", .ref y), ("function", fv), ("combinator", cv)]) (rb := [("combinator", cv), ("function", fv), ("self", .ref y)]) Z rm rfl (by kernel_rfl) (BindsTo.of_eq rfl) rfl (by decide) (locs rfl) ⟨rfl, rfl, rfl⟩ fun L' s₁ oL ns Z1 rm1 => ?_)
  refine x_seq (wpAny_Return_some (r_callF Z1 rfl hc (sp_cons (wpAny_List (sp_cons (r_callF Z1 rfl hf (sp_cons (r_nattr Z1 rfl i (okNegated w) (fNegatedXterm w) rfl rfl fun s₂ Z2 => sp_nil ⟨_, _, _, _, Le.refl _, Z2, f1 (Le.refl _) rm1 Z2 fun r1 nw3 s₃ le3 Z3 h1 => ?_⟩))))))))
  refine sp_nil ⟨(show 1 ≤ sizeLine by decide), sp_nil ?_⟩
  have Z6 := Z3.alloc (W.listOf #[r1] 0) rfl s₃.toks
  have le6 := Le.cons (s₃.heap.objs.size, W.listOf #[r1] 0) nw3
  refine ⟨_, _, _, _, le3.trans le6, Z6, ?_⟩
  exact c3 (le3.trans le6) (mono1 le6 h1) (.head _) (Le.refl _) rm1 Z6 fun r nw7 s₇ le7 Z7 h3 => h r nw7 s₇ ((le3.trans le6).trans le7) (Z.back ns Z7) h3

/-- free and constants of a variable's expression -/
noncomputable def frT (n : Str) : List Str := if isInd n then [n] else []
noncomputable def coT (n : Str) : List Str := if isInd n then [] else [n]
theorem free_Ind {n : Str} {v : Value} {Q : Value → Shared → Prop} (Z : Sit w z H mu nw L m s) (rm : Room A 1) (hn : isInd n = true) (hv : TermR w nw n v) (h : ∀ r nw' s', Le nw nw' → Sit w z H mu nw' L m s' → VarsR w nw' [n] r → Q r s') :
    wpAny (Md w) A (call (.ref 502) [v]) Q E s := by
  obtain ⟨y, u, tk, rfl, i, hu⟩ := hv
  unfold tcls at i; rw [hn] at i
  obtain ⟨yu, t, tk', rfl, iu⟩ := hu
  refine wpA_call (enter (binds := [("self", .ref y)]) (rb := [("self", .ref y)]) Z rm rfl (by kernel_rfl) (BindsTo.of_eq rfl) rfl (by decide) (locs rfl) ⟨rfl, rfl, rfl⟩ fun L' s₁ oL ns Z1 rm1 => ?_)
  refine x_seq (wpAny_Return_some (wpAny_List (sp_cons (r_nattr Z1 rfl i (okIndividual w) (fIndividualXvariable w) rfl rfl fun s₂ Z2 => sp_nil ⟨(show 1 ≤ sizeLine by decide), ?_⟩))))
  exact h _ _ _ (Le.cons _ _) (Z.back ns (Z2.alloc (W.listOf #[.ref yu] 0) rfl s₂.toks)) ⟨_, [.ref yu], 0, rfl, .head _, ⟨yu, t, tk', rfl, iu.mono (Le.cons _ _)⟩, trivial⟩
theorem const_Const {n : Str} {v : Value} {Q : Value → Shared → Prop} (Z : Sit w z H mu nw L m s) (rm : Room A 1) (hn : isInd n = false) (hv : TermR w nw n v) (h : ∀ r nw' s', Le nw nw' → Sit w z H mu nw' L m s' → VarsR w nw' [n] r → Q r s') :
    wpAny (Md w) A (call (.ref 573) [v]) Q E s := by
  obtain ⟨y, u, tk, rfl, i, hu⟩ := hv
  unfold tcls at i; rw [hn] at i
  obtain ⟨yu, t, tk', rfl, iu⟩ := hu
  refine wpA_call (enter (binds := [("self", .ref y)]) (rb := [("self", .ref y)]) Z rm rfl (by kernel_rfl) (BindsTo.of_eq rfl) rfl (by decide) (locs rfl) ⟨rfl, rfl, rfl⟩ fun L' s₁ oL ns Z1 rm1 => ?_)
  refine x_seq (wpAny_Return_some (wpAny_List (sp_cons (r_nattr Z1 rfl i (okConstant w) (fConstantXvariable w) rfl rfl fun s₂ Z2 => sp_nil ⟨(show 1 ≤ sizeLine by decide), ?_⟩))))
  exact h _ _ _ (Le.cons _ _) (Z.back ns (Z2.alloc (W.listOf #[.ref yu] 0) rfl s₂.toks)) ⟨_, [.ref yu], 0, rfl, .head _, ⟨yu, t, tk', rfl, iu.mono (Le.cons _ _)⟩, trivial⟩
theorem free_Const {v : Value} {Q : Value → Shared → Prop} (Z : Sit w z H mu nw L m s) (rm : Room A 1) (h : ∀ r nw' s', Le nw nw' → Sit w z H mu nw' L m s' → VarsR w nw' [] r → Q r s') :
    wpAny (Md w) A (call (.ref 566) [v]) Q E s := by
  refine wpA_call (enter (binds := [("self", v)]) (rb := [("self", v)]) Z rm rfl (by kernel_rfl) (BindsTo.of_eq rfl) rfl (by decide) (locs rfl) ⟨rfl, rfl, rfl⟩ fun L' s₁ oL ns Z1 rm1 => ?_)
  refine x_seq (wpAny_Return_some (wpAny_List (sp_nil ⟨(show 0 ≤ sizeLine by decide), ?_⟩)))
  exact h _ _ _ (Le.cons _ _) (Z.back ns (Z1.alloc (W.listOf #[] 0) rfl s₁.toks)) ⟨_, [], 0, rfl, .head _, trivial⟩
theorem const_Ind {v : Value} {Q : Value → Shared → Prop} (Z : Sit w z H mu nw L m s) (rm : Room A 1) (h : ∀ r nw' s', Le nw nw' → Sit w z H mu nw' L m s' → VarsR w nw' [] r → Q r s') :
    wpAny (Md w) A (call (.ref 509) [v]) Q E s := by
  refine wpA_call (enter (binds := [("self", v)]) (rb := [("self", v)]) Z rm rfl (by kernel_rfl) (BindsTo.of_eq rfl) rfl (by decide) (locs rfl) ⟨rfl, rfl, rfl⟩ fun L' s₁ oL ns Z1 rm1 => ?_)
  refine x_seq (wpAny_Return_some (wpAny_List (sp_nil ⟨(show 0 ≤ sizeLine by decide), ?_⟩)))
  exact h _ _ _ (Le.cons _ _) (Z.back ns (Z1.alloc (W.listOf #[] 0) rfl s₁.toks)) ⟨_, [], 0, rfl, .head _, trivial⟩
end
end Mine
end

section
open PySem PySem.W PySem.Spec PySem.Calls PyProof.Rows
set_option Elab.async false
set_option maxRecDepth 100000
namespace Mine
set_option linter.unusedVariables false
theorem q290 : (S "Expression.free" ++ (".<locals>." : Str)) ++ ("<lambda>" : Str) = qualOf 290 := by kernel_rfl
theorem q297 : (S "Expression.constants" ++ (".<locals>." : Str)) ++ ("<lambda>" : Str) = qualOf 297 := by kernel_rfl
theorem q278 : (S "Expression.visit_structured" ++ (".<locals>." : Str)) ++ ("<lambda>" : Str) = qualOf 278 := by kernel_rfl
theorem q264 : (S "Expression.replace" ++ (".<locals>." : Str)) ++ ("<lambda>" : Str) = qualOf 264 := by kernel_rfl
section
variable {w : World} {z : Shared} {H : Heap} {mu nw : List Ent} {L a : Addr} {m : Str → Option Value} {s : Shared} {A : Around} {E : Value → Shared → Prop} {d : Nat} {env : Env}

/-- NAME.name() -/
theorem r_call0 {x name : Str} {y C f : Addr} {es : List DictEntry} {p1 p2 pos : Pos} {pl : Sem Bool} {Q : Value → Shared → Prop} (Z : Sit w z H mu nw L m s) (hx : m x = some (.ref y)) (i : Inst nw y C es) (ok : ClsOk w C) (hf : findIn (KK w) (.ref C) name = some (some (.ref f)))
    (ht : typeIn (KK w) (.ref f) = some (.type "function")) (hkp : keepIn (KK w) (.ref f) = true) (hl : getL name es = some none) (h : wpAny (Md w) A (call (.ref f) [.ref y]) Q E s)
    (hk : EnvOk env L := by exact ⟨rfl, rfl, rfl, rfl⟩) (hxx : env.kindOf x = some .local := by rfl) (hd : (x == ("__debug__" : Str)) = false := by decide)
    (he : eval (.Call (.Attribute (.Name x p1) name p2) [] [] pos) env = (do
      let ov ← eval (.Name x p1) env
      standAt p2.atName
      let (f, first) ← holding [ov] (getMethod ov name pl)
      callWith pos f first (backTo pos (starEach [] env)) []) := by rfl) :
    wpAny (Md w) A (eval (.Call (.Attribute (.Name x p1) name p2) [] [] pos) env) Q E s :=
  MethodCall_ (r_loc Z hx (r_meth Z i ok hf ht hl (r_args0 Z hkp h)) hk hxx hd) he
theorem m_freeT {x n : Str} {v : Value} {p1 p2 pos : Pos} {pl : Sem Bool} {Q : Value → Shared → Prop} (Z : Sit w z H mu nw L m s) (rm : Room A 1) (hx : m x = some v) (hv : TermR w nw n v)
    (h : ∀ r nw' s', Le nw nw' → Sit w z H mu nw' L m s' → VarsR w nw' (frT n) r → Q r s')
    (hk : EnvOk env L := by exact ⟨rfl, rfl, rfl, rfl⟩) (hxx : env.kindOf x = some .local := by rfl) (hd : (x == ("__debug__" : Str)) = false := by decide)
    (he : eval (.Call (.Attribute (.Name x p1) "free" p2) [] [] pos) env = (do
      let ov ← eval (.Name x p1) env
      standAt p2.atName
      let (f, first) ← holding [ov] (getMethod ov "free" pl)
      callWith pos f first (backTo pos (starEach [] env)) []) := by rfl) :
    wpAny (Md w) A (eval (.Call (.Attribute (.Name x p1) "free" p2) [] [] pos) env) Q E s := by
  have hv' := hv
  obtain ⟨y, u, tk, rfl, i, hu⟩ := hv
  unfold frT at h
  unfold tcls at i
  cases q : isInd n with
  | true =>
    rw [q] at i h
    exact r_call0 Z hx i (okIndividual w) (fIndividualXfree w) (ty502 w) (kp502 w) rfl (free_Ind Z rm q hv' h) hk hxx hd he
  | false =>
    rw [q] at i h
    exact r_call0 Z hx i (okConstant w) (fConstantXfree w) (ty566 w) (kp566 w) rfl (free_Const Z rm h) hk hxx hd he

noncomputable def frF : Fm → List Str
  | .app f a => union [frT f, frT a]
  | .neg a => union [frF a]
  | _ => []
noncomputable def coF : Fm → List Str
  | .app f a => union [[], coT a]
  | .neg a => union [coF a]
  | _ => []
theorem frT_len (n : Str) : (frT n).length ≤ 1 := by unfold frT; split <;> simp
theorem coT_len (n : Str) : (coT n).length ≤ 1 := by unfold coT; split <;> simp

theorem free_App {f n : Str} {v : Value} {Q : Value → Shared → Prop} (Z : Sit w z H mu nw L m s) (rm : Room A 8) (hv : Rep w nw (.app f n) v) (h : ∀ r nw' s', Le nw nw' → Sit w z H mu nw' L m s' → VarsR w nw' (frF (.app f n)) r → Q r s') :
    wpAny (Md w) A (call (.ref 295) [v]) Q E s := by
  obtain ⟨y, p, q, t1, t2, rfl, i, hp, hq⟩ := hv
  refine wpA_call (enter (binds := [("self", .ref y)]) (rb := [("self", .ref y)]) Z rm rfl (by kernel_rfl) (BindsTo.of_eq rfl) rfl (by decide) (locs rfl) ⟨rfl, rfl, rfl⟩ fun L' s₁ oL ns Z1 rm1 => ?_)
  refine x_seq (wpAny_Return_some (MethodCall_ (r_loc Z1 rfl (r_meth Z1 i (okApplication w) (fApplicationXvisit w) (ty377 w) rfl (r_args Z1 (kp377 w) (sp_cons (r_lam (P := 290) Z1 (by decide) q290 rfl rfl fun f1 nw2 s₂ le2 Z2 lam1 => sp_cons (r_lam (P := 290) Z2 (by decide) q290 rfl rfl fun f2 nw3 s₃ le3 Z3 lam2 => sp_nil ⟨Z3.K, ?_⟩))))))))
  have le := le2.trans le3
  have hp' := hp.mono le
  have hq' := hq.mono le
  refine visit_App (d := 6) (P1 := fun nw r => VarsR w nw (frT f) r) (P2 := fun nw r => VarsR w nw (frT n) r) (P3 := fun nw r => VarsR w nw (frF (.app f n)) r) Z3 rm1 (i.mono le) (let ⟨a, _, _, e, _⟩ := hp; ⟨a, e⟩) (let ⟨a, _, _, e, _⟩ := hq; ⟨a, e⟩) (lam1.mono le3).fn lam2.fn
    (fun le' rm' Z' hQ => wpA_call (enterLam (binds := [("e", p)]) (rb := [("e", p)]) Z' rm' (lam1.mono (le3.trans le')) (fun _ _ _ => rfl) rfl (by decide) (locs rfl) ⟨rfl, rfl, rfl⟩ fun L5 s₅ oL5 cdv ns5 Z5 rm5 => m_freeT Z5 (rm5.le (by decide)) rfl (hp'.mono le') fun r nw6 s₆ le6 Z6 hr => hQ _ _ _ le6 (Z'.back ns5 Z6) hr))
    (fun le' rm' Z' hQ => wpA_call (enterLam (binds := [("e", q)]) (rb := [("e", q)]) Z' rm' (lam1.mono (le3.trans le')) (fun _ _ _ => rfl) rfl (by decide) (locs rfl) ⟨rfl, rfl, rfl⟩ fun L5 s₅ oL5 cdv ns5 Z5 rm5 => m_freeT Z5 (rm5.le (by decide)) rfl (hq'.mono le') fun r nw6 s₆ le6 Z6 hr => hQ _ _ _ le6 (Z'.back ns5 Z6) hr))
    (fun le x => x.mono le) (fun le x => x.mono le)
    (fun {nw' r1 r2 l k} le' h1 h2 hl => fun le'' rm' Z' hQ => wpA_call (enterLam (binds := [("parts", .ref l)]) (rb := [("parts", .ref l)]) Z' rm' (lam2.mono (le'.trans le'')) (fun _ _ _ => rfl) rfl (by decide) (locs rfl) ⟨rfl, rfl, rfl⟩ fun L5 s₅ oL5 cdv ns5 Z5 rm5 =>
      r_callN Z5 (n57 w) (kp57 w) (sp_cons (r_loc Z5 rfl (sp_nil ⟨Z5.K, union_ok (nss := [frT f, frT n]) Z5 (rm5.le (by decide)) ⟨l, [r1, r2], k, rfl, le'' _ hl, h1.mono le'', h2.mono le'', trivial⟩ ?_ fun r nw6 s₆ le6 Z6 hr => hQ _ _ _ le6 (Z'.back ns5 Z6) hr⟩)))))
    fun r nw' s' le' Z' hr => h _ _ _ (le.trans le') (Z.back ns Z') hr
  have := frT_len f
  have := frT_len n
  simp; omega

theorem frF_len (f n : Str) : (frF (.app f n)).length ≤ 2 := by
  have := union_len [frT f, frT n]
  have := frT_len f
  have := frT_len n
  simp [frF] at *; omega
theorem coF_len (f n : Str) : (coF (.app f n)).length ≤ 1 := by
  have := union_len [[], coT n]
  have := coT_len n
  simp [coF] at *; omega
theorem free_Neg {f n : Str} {v : Value} {Q : Value → Shared → Prop} (Z : Sit w z H mu nw L m s) (rm : Room A 12) (hv : Rep w nw (.neg (.app f n)) v) (h : ∀ r nw' s', Le nw nw' → Sit w z H mu nw' L m s' → VarsR w nw' (frF (.neg (.app f n))) r → Q r s') :
    wpAny (Md w) A (call (.ref 295) [v]) Q E s := by
  obtain ⟨y, p, t1, rfl, i, hp⟩ := hv
  refine wpA_call (enter (binds := [("self", .ref y)]) (rb := [("self", .ref y)]) Z rm rfl (by kernel_rfl) (BindsTo.of_eq rfl) rfl (by decide) (locs rfl) ⟨rfl, rfl, rfl⟩ fun L' s₁ oL ns Z1 rm1 => ?_)
  refine x_seq (wpAny_Return_some (MethodCall_ (r_loc Z1 rfl (r_meth Z1 i (okNegated w) (fNegatedXvisit w) (ty791 w) rfl (r_args Z1 (kp791 w) (sp_cons (r_lam (P := 290) Z1 (by decide) q290 rfl rfl fun f1 nw2 s₂ le2 Z2 lam1 => sp_cons (r_lam (P := 290) Z2 (by decide) q290 rfl rfl fun f2 nw3 s₃ le3 Z3 lam2 => sp_nil ⟨Z3.K, ?_⟩))))))))
  have le := le2.trans le3
  have hp' := hp.mono le
  refine visit_Neg (d := 10) (P1 := fun nw r => VarsR w nw (frF (.app f n)) r) (P3 := fun nw r => VarsR w nw (frF (.neg (.app f n))) r) Z3 rm1 (i.mono le) (rep_ref hp) (lam1.mono le3).fn lam2.fn
    (fun {mu' nw' L2 m2 s2 A2 E2 Q2} le' rm' Z' hQ => wpA_call (enterLam (binds := [("e", p)]) (rb := [("e", p)]) Z' rm' (lam1.mono (le3.trans le')) (fun _ _ _ => rfl) rfl (by decide) (locs rfl) ⟨rfl, rfl, rfl⟩ fun L5 s₅ oL5 cdv ns5 Z5 rm5 => by
      have hp2 := hp'.mono le'
      have hp3 := hp2
      obtain ⟨yp, _, _, _, _, rfl, ip, _⟩ := hp2
      exact r_call0 Z5 rfl ip (okApplication w) (fApplicationXfree w) (ty295 w) (kp295 w) rfl (free_App Z5 (rm5.le (by decide)) hp3 fun r nw6 s₆ le6 Z6 hr => hQ _ _ _ le6 (Z'.back ns5 Z6) hr)))
    (fun le x => x.mono le)
    (fun {nw' r1 l k} le' h1 hl => fun le'' rm' Z' hQ => wpA_call (enterLam (binds := [("parts", .ref l)]) (rb := [("parts", .ref l)]) Z' rm' (lam2.mono (le'.trans le'')) (fun _ _ _ => rfl) rfl (by decide) (locs rfl) ⟨rfl, rfl, rfl⟩ fun L5 s₅ oL5 cdv ns5 Z5 rm5 =>
      r_callN Z5 (n57 w) (kp57 w) (sp_cons (r_loc Z5 rfl (sp_nil ⟨Z5.K, union_ok (nss := [frF (.app f n)]) Z5 (rm5.le (by decide)) ⟨l, [r1], k, rfl, le'' _ hl, h1.mono le'', trivial⟩ ?_ fun r nw6 s₆ le6 Z6 hr => hQ _ _ _ le6 (Z'.back ns5 Z6) hr⟩)))))
    fun r nw' s' le' Z' hr => h _ _ _ (le.trans le') (Z.back ns Z') hr
  have := frF_len f n
  simp; omega

/-- E.constants() on an attribute -/
theorem m_constT {n : Str} {v : Value} {o : Expr} {p2 pos : Pos} {pl : Sem Bool} {Q : Value → Shared → Prop} (Z : Sit w z H mu nw L m s) (rm : Room A 1) (hv : TermR w nw n v) (ho : ∀ {Q : Value → Shared → Prop}, (∀ s', Sit w z H mu nw L m s' → Q v s') → wpAny (Md w) A (eval o env) Q E s)
    (h : ∀ r nw' s', Le nw nw' → Sit w z H mu nw' L m s' → VarsR w nw' (coT n) r → Q r s')
    (he : eval (.Call (.Attribute o "constants" p2) [] [] pos) env = (do
      let ov ← eval o env
      standAt p2.atName
      let (f, first) ← holding [ov] (getMethod ov "constants" pl)
      callWith pos f first (backTo pos (starEach [] env)) []) := by rfl) :
    wpAny (Md w) A (eval (.Call (.Attribute o "constants" p2) [] [] pos) env) Q E s := by
  have hv' := hv
  obtain ⟨y, u, tk, rfl, i, hu⟩ := hv
  unfold coT at h
  unfold tcls at i
  refine MethodCall_ (ho fun s' Z' => ?_) he
  cases q : isInd n with
  | true =>
    rw [q] at i h
    exact r_meth Z' i (okIndividual w) (fIndividualXconstants w) (ty509 w) rfl (r_args0 Z' (kp509 w) (const_Ind Z' rm h))
  | false =>
    rw [q] at i h
    exact r_meth Z' i (okConstant w) (fConstantXconstants w) (ty573 w) rfl (r_args0 Z' (kp573 w) (const_Const Z' rm q hv' h))
theorem const_App {f n : Str} {v : Value} {Q : Value → Shared → Prop} (Z : Sit w z H mu nw L m s) (rm : Room A 8) (hv : Rep w nw (.app f n) v) (h : ∀ r nw' s', Le nw nw' → Sit w z H mu nw' L m s' → VarsR w nw' (coF (.app f n)) r → Q r s') :
    wpAny (Md w) A (call (.ref 363) [v]) Q E s := by
  obtain ⟨y, p, q, t1, t2, rfl, i, hp, hq⟩ := hv
  have hp' := hp
  have hq' := hq
  obtain ⟨yp, up, tp, rfl, ip, -⟩ := hp
  obtain ⟨yq, uq, tq, rfl, iq, -⟩ := hq
  refine wpA_call (enter (binds := [("self", .ref y)]) (rb := [("self", .ref y)]) Z rm rfl (by kernel_rfl) (BindsTo.of_eq rfl) rfl (by decide) (locs rfl) ⟨rfl, rfl, rfl⟩ fun L' s₁ oL ns Z1 rm1 => ?_)
  refine x_seq (wpAny_If (isTrue_plain (r_callB Z1 (isinstance_none w) boot_isinstance (by decide) (sp_cons (r_nattr Z1 rfl i (okApplication w) (fApplicationXfunction w) rfl rfl fun s₂ Z2 => sp_cons (r_glob Z2 (nAbstract w) (sp_nil (r_isi Z2 ip (ok_tcls w f) (k_tcls486 w f) fun s₃ Z3 => wpAny_truthy_bool ?_))))))))
  show wpAny _ _ (execs [_] _) _ _ _
  refine x_seq (x_asg (wpAny_List (sp_nil ⟨(show 0 ≤ sizeLine by decide), ?_⟩)))
  have Z4 := Z3.alloc (W.listOf #[] 0) rfl s₃.toks
  generalize s₃.heap.objs.size = l0 at Z4 ⊢
  refine r_store Z4 fun s₅ Z5 => wpAny_execs_nil ?_
  have le5 := Le.cons (l0, W.listOf #[] 0) nw
  refine x_seq (wpAny_Return_some (r_callN Z5 (n57 w) (kp57 w) (sp_cons (wpAny_List (sp_cons (r_loc Z5 rfl (sp_cons (m_constT (n := n) Z5 (rm1.le (by decide)) (hq'.mono le5) (fun h => r_nattr Z5 rfl (i.mono le5) (okApplication w) (fApplicationXargument w) rfl rfl h) fun r nw6 s₆ le6 Z6 hr => sp_nil ⟨(show 2 ≤ sizeLine by decide), sp_nil ?_⟩))))))))
  have Z7 := Z6.alloc (W.listOf #[.ref l0, r] 0) rfl s₆.toks
  refine ⟨Z7.K, union_ok (nss := [[], coT n]) Z7 (rm1.le (by decide)) ⟨_, [.ref l0, r], 0, rfl, .head _, ⟨l0, [], 0, rfl, .tail _ (le6 _ (.head _)), trivial⟩, hr.mono (Le.cons _ _), trivial⟩ ?_ fun r nw8 s₈ le8 Z8 hr => h _ _ _ ((le5.trans le6).trans ((Le.cons _ _).trans le8)) (Z.back ns Z8) hr⟩
  have := coT_len n
  simp; omega
theorem const_Neg {f n : Str} {v : Value} {Q : Value → Shared → Prop} (Z : Sit w z H mu nw L m s) (rm : Room A 12) (hv : Rep w nw (.neg (.app f n)) v) (h : ∀ r nw' s', Le nw nw' → Sit w z H mu nw' L m s' → VarsR w nw' (coF (.neg (.app f n))) r → Q r s') :
    wpAny (Md w) A (call (.ref 302) [v]) Q E s := by
  obtain ⟨y, p, t1, rfl, i, hp⟩ := hv
  refine wpA_call (enter (binds := [("self", .ref y)]) (rb := [("self", .ref y)]) Z rm rfl (by kernel_rfl) (BindsTo.of_eq rfl) rfl (by decide) (locs rfl) ⟨rfl, rfl, rfl⟩ fun L' s₁ oL ns Z1 rm1 => ?_)
  refine x_seq (wpAny_Return_some (MethodCall_ (r_loc Z1 rfl (r_meth Z1 i (okNegated w) (fNegatedXvisit w) (ty791 w) rfl (r_args Z1 (kp791 w) (sp_cons (r_lam (P := 297) Z1 (by decide) q297 rfl rfl fun f1 nw2 s₂ le2 Z2 lam1 => sp_cons (r_lam (P := 297) Z2 (by decide) q297 rfl rfl fun f2 nw3 s₃ le3 Z3 lam2 => sp_nil ⟨Z3.K, ?_⟩))))))))
  have le := le2.trans le3
  have hp' := hp.mono le
  refine visit_Neg (d := 10) (P1 := fun nw r => VarsR w nw (coF (.app f n)) r) (P3 := fun nw r => VarsR w nw (coF (.neg (.app f n))) r) Z3 rm1 (i.mono le) (rep_ref hp) (lam1.mono le3).fn lam2.fn
    (fun {mu' nw' L2 m2 s2 A2 E2 Q2} le' rm' Z' hQ => wpA_call (enterLam (binds := [("e", p)]) (rb := [("e", p)]) Z' rm' (lam1.mono (le3.trans le')) (fun _ _ _ => rfl) rfl (by decide) (locs rfl) ⟨rfl, rfl, rfl⟩ fun L5 s₅ oL5 cdv ns5 Z5 rm5 => by
      have hp2 := hp'.mono le'
      have hp3 := hp2
      obtain ⟨yp, _, _, _, _, rfl, ip, _⟩ := hp2
      exact r_call0 Z5 rfl ip (okApplication w) (fApplicationXconstants w) (ty363 w) (kp363 w) rfl (const_App Z5 (rm5.le (by decide)) hp3 fun r nw6 s₆ le6 Z6 hr => hQ _ _ _ le6 (Z'.back ns5 Z6) hr)))
    (fun le x => x.mono le)
    (fun {nw' r1 l k} le' h1 hl => fun le'' rm' Z' hQ => wpA_call (enterLam (binds := [("parts", .ref l)]) (rb := [("parts", .ref l)]) Z' rm' (lam2.mono (le'.trans le'')) (fun _ _ _ => rfl) rfl (by decide) (locs rfl) ⟨rfl, rfl, rfl⟩ fun L5 s₅ oL5 cdv ns5 Z5 rm5 =>
      r_callN Z5 (n57 w) (kp57 w) (sp_cons (r_loc Z5 rfl (sp_nil ⟨Z5.K, union_ok (nss := [coF (.app f n)]) Z5 (rm5.le (by decide)) ⟨l, [r1], k, rfl, le'' _ hl, h1.mono le'', trivial⟩ ?_ fun r nw6 s₆ le6 Z6 hr => hQ _ _ _ le6 (Z'.back ns5 Z6) hr⟩)))))
    fun r nw' s' le' Z' hr => h _ _ _ (le.trans le') (Z.back ns Z') hr
  have := coF_len f n
  simp; omega
end
end Mine
end

section
open PySem PySem.W PySem.Spec PySem.Calls PyProof.Rows
set_option Elab.async false
set_option maxRecDepth 100000
namespace Mine
set_option linter.unusedVariables false
noncomputable def rpN (x y n : Str) : Str := if n = x then y else n
noncomputable def rp (x y : Str) : Fm → Fm
  | .app f a => .app (rpN x y f) (rpN x y a)
  | .neg a => .neg (rp x y a)
  | .and a b => .and (rp x y a) (rp x y b)
  | .or a b => .or (rp x y a) (rp x y b)
  | f => f
section
variable {w : World} {z : Shared} {H : Heap} {mu nw : List Ent} {L a : Addr} {m : Str → Option Value} {s : Shared} {A : Around} {E : Value → Shared → Prop} {d : Nat} {env : Env}
  {cn : Str} {cs : Scope} {ccd : Value} {cl : List (Str × Addr)}

theorem r_cell {x : Str} {c : Addr} {o : Obj} {v : Value} {pos : Pos} {Q : Value → Shared → Prop} (Z : Sit w z H mu nw L m s) (hc : cl.lookup x = some c) (hm : (c, o) ∈ mu ++ nw) (hd : o.data = .cell (some v)) (h : Q v s)
    (hk : cs.kind = .function := by rfl) (hx : (envX cn cs L a ccd cl).kindOf x = some .cell := by rfl) (hb : (x == ("__debug__" : Str)) = false := by decide) :
    wpAny (Md w) A (eval (.Name x pos) (envX cn cs L a ccd cl)) Q E s := nameX_C Z.N hc hm hd h hk hx hb
theorem r_free {x : Str} {c : Addr} {o : Obj} {v : Value} {pos : Pos} {Q : Value → Shared → Prop} (Z : Sit w z H mu nw L m s) (hc : cl.lookup x = some c) (hm : (c, o) ∈ mu ++ nw) (hd : o.data = .cell (some v)) (h : Q v s)
    (hk : cs.kind = .function := by rfl) (hx : (envX cn cs L a ccd cl).kindOf x = some .free := by rfl) (hb : (x == ("__debug__" : Str)) = false := by decide) (hn : (x == ("__classdict__" : Str)) = false := by decide) :
    wpAny (Md w) A (eval (.Name x pos) (envX cn cs L a ccd cl)) Q E s := nameX_F Z.N hc hm hd h hk hx hb hn
/-- assert isinstance(NAME, CLASS), the name read in any way -/
theorem x_assG {C : Addr} {v : Value} {name c : Str} {p0 p1 p2 p3 pos : Pos} {msg : Option Expr} {Q : Flow → Shared → Prop} (Z : Sit w z H mu nw L m s) (hy : ∀ {Q : Value → Shared → Prop}, Q v s → wpAny (Md w) A (eval (.Name name p2) env) Q E s) (i : IsA w nw C v)
    (hc : nsIn (KK w) mainGlobals c = some (some (.ref C))) (h : ∀ s', Sit w z H mu nw L m s' → Q .next s')
    (hk : EnvOk env L := by exact ⟨rfl, rfl, rfl, rfl⟩) (hi : env.kindOf "isinstance" = some .globalImplicit := by rfl) (hcx : env.kindOf c = some .globalImplicit := by rfl) (hdc : (c == ("__debug__" : Str)) = false := by decide) :
    wpAny (Md w) A (exec (.Assert (.Call (.Name "isinstance" p1) [.Name name p2, .Name c p3] [] pos) msg p0) env) Q E s := by
  obtain ⟨y, D, es, rfl, i, ok, e⟩ := i.ex
  exact wpAny_Assert_holds (isTrue_plain (r_callB Z (isinstance_none w) boot_isinstance (by decide) (sp_cons (hy (sp_cons (r_glob Z hc (sp_nil (r_isi Z i ok e fun s' Z' => wpAny_truthy_bool ⟨rfl, h s' Z'⟩)) hk hcx hdc) rfl)) rfl) hk hi (by decide) rfl rfl) rfl)

/-- replace of a variable's expression -/
theorem vrep_ok {n x y : Str} {v u e b1 b2 : Value} {Q : Value → Shared → Prop} (Z : Sit w z H mu nw L m s) (rm : Room A 3) (hv : TermR w nw n v) (hu : VarR w nw x u) (he : TermR w nw y e)
    (h : ∀ r nw' s', Le nw nw' → Sit w z H mu nw' L m s' → TermR w nw' (rpN x y n) r → Q r s') : wpAny (Md w) A (call (.ref 455) [v, u, e, b1, b2]) Q E s := by
  have hv' := hv
  have hu' := hu
  obtain ⟨yv, un, tk, rfl, i, hun⟩ := hv
  have hun' := hun
  obtain ⟨yu, _, _, rfl, iu⟩ := hu
  obtain ⟨yn, _, _, rfl, iN⟩ := hun
  refine wpA_call (enter (binds := [("self", .ref yv), ("variable", .ref yu), ("expression", e), ("replace_bound", b1), ("alpha_convert", b2)]) (rb := [("alpha_convert", b2), ("replace_bound", b1), ("expression", e), ("variable", .ref yu), ("self", .ref yv)]) Z rm rfl (by kernel_rfl) (binds_K Z.K rfl rfl rfl rfl rfl) rfl (by decide) (locs rfl) ⟨rfl, rfl, rfl⟩ fun L' s₁ oL ns Z1 rm1 => ?_)
  refine x_seq (x_assA Z1 rfl hu'.isA (nVariable w) fun s₂ Z2 => ?_)
  refine x_seq (x_assA Z2 rfl he.isA (nExpression w) fun s₃ Z3 => ?_)
  have hfa : findIn (KK w) (.ref (tcls n)) "variable" = some none := by
    unfold tcls; split
    · exact fIndividualXvariable w
    · exact fConstantXvariable w
  refine x_seq (wpAny_If (wpAny_isTrue_Compare1 (r_nattr Z3 rfl i (ok_tcls w n) hfa rfl rfl fun s₄ Z4 => r_loc Z4 rfl ?_)))
  show wpAny _ _ (richCompare .Eq _ _) _ _ _
  refine r_eqV Z4 (rm1.le (by decide)) hun' hu' fun nw5 s₅ le5 Z5 => wpAny_truthy_bool ?_
  by_cases q : n = x
  · rw [decide_eq_true q]
    show wpAny _ _ (execs [_] _) _ _ _
    exact x_seq (wpAny_Return_some (r_loc Z5 rfl (h _ _ _ le5 (Z.back ns Z5) (by unfold rpN; rw [if_pos q]; exact he.mono le5))))
  · rw [decide_eq_false q]
    show wpAny _ _ (execs [_] _) _ _ _
    exact x_seq (wpAny_Return_some (r_loc Z5 rfl (h _ _ _ le5 (Z.back ns Z5) (by unfold rpN; rw [if_neg q]; exact hv'.mono le5))))

theorem made_App {f g : Str} {sv r1 r2 : Value} {l : Addr} {k : Nat} {Q : Value → Shared → Prop} (Z : Sit w z H mu nw L m s) (rm : Room A 3) (hl : (l, W.listOf #[r1, r2] k) ∈ nw) (h1 : TermR w nw f r1) (h2 : TermR w nw g r2)
    (h : ∀ r nw' s', Le nw nw' → Sit w z H mu nw' L m s' → Rep w nw' (.app f g) r → Q r s') : wpAny (Md w) A (call (.ref 356) [sv, .ref l]) Q E s := by
  refine wpA_call (enter (binds := [("self", sv), ("parts", .ref l)]) (rb := [("parts", .ref l), ("self", sv)]) Z rm rfl (by kernel_rfl) (BindsTo.of_eq rfl) rfl (by decide) (locs rfl) ⟨rfl, rfl, rfl⟩ fun L' s₁ oL ns Z1 rm1 => ?_)
  refine x_seq (wpAny_Return_some (r_callN Z1 (nApplication w) (kpApplication w) (sp_cons (r_item (v := r1) Z1 rfl (List.mem_append_right _ hl) (by decide) (by decide) rfl fun s₂ Z2 => sp_cons (r_item (v := r2) Z2 rfl (List.mem_append_right _ hl) (by decide) (by decide) rfl fun s₃ Z3 => sp_nil ⟨Z3.K, ?_⟩)))))
  exact wpA_call (mk_app Z3 rm1 h1 h2 fun v' nw' s' le Z' r => h _ _ _ le (Z.back ns Z') r)
theorem made_And {f g : Fm} {sv r1 r2 : Value} {l : Addr} {k : Nat} {Q : Value → Shared → Prop} (Z : Sit w z H mu nw L m s) (rm : Room A 3) (hl : (l, W.listOf #[r1, r2] k) ∈ nw) (h1 : Rep w nw f r1) (h2 : Rep w nw g r2)
    (h : ∀ r nw' s', Le nw nw' → Sit w z H mu nw' L m s' → Rep w nw' (.and f g) r → Q r s') : wpAny (Md w) A (call (.ref 890) [sv, .ref l]) Q E s := by
  refine wpA_call (enter (binds := [("self", sv), ("parts", .ref l)]) (rb := [("parts", .ref l), ("self", sv)]) Z rm rfl (by kernel_rfl) (BindsTo.of_eq rfl) rfl (by decide) (locs rfl) ⟨rfl, rfl, rfl⟩ fun L' s₁ oL ns Z1 rm1 => ?_)
  refine x_seq (wpAny_Return_some (r_callN Z1 (nAnd w) (kpAnd w) (sp_cons (r_item (v := r1) Z1 rfl (List.mem_append_right _ hl) (by decide) (by decide) rfl fun s₂ Z2 => sp_cons (r_item (v := r2) Z2 rfl (List.mem_append_right _ hl) (by decide) (by decide) rfl fun s₃ Z3 => sp_nil ⟨Z3.K, ?_⟩)))))
  exact wpA_call (mk_and Z3 rm1 h1 h2 fun v' nw' s' le Z' r => h _ _ _ le (Z.back ns Z') r)
theorem made_Or {f g : Fm} {sv r1 r2 : Value} {l : Addr} {k : Nat} {Q : Value → Shared → Prop} (Z : Sit w z H mu nw L m s) (rm : Room A 3) (hl : (l, W.listOf #[r1, r2] k) ∈ nw) (h1 : Rep w nw f r1) (h2 : Rep w nw g r2)
    (h : ∀ r nw' s', Le nw nw' → Sit w z H mu nw' L m s' → Rep w nw' (.or f g) r → Q r s') : wpAny (Md w) A (call (.ref 930) [sv, .ref l]) Q E s := by
  refine wpA_call (enter (binds := [("self", sv), ("parts", .ref l)]) (rb := [("parts", .ref l), ("self", sv)]) Z rm rfl (by kernel_rfl) (BindsTo.of_eq rfl) rfl (by decide) (locs rfl) ⟨rfl, rfl, rfl⟩ fun L' s₁ oL ns Z1 rm1 => ?_)
  refine x_seq (wpAny_Return_some (r_callN Z1 (nOr w) (kpOr w) (sp_cons (r_item (v := r1) Z1 rfl (List.mem_append_right _ hl) (by decide) (by decide) rfl fun s₂ Z2 => sp_cons (r_item (v := r2) Z2 rfl (List.mem_append_right _ hl) (by decide) (by decide) rfl fun s₃ Z3 => sp_nil ⟨Z3.K, ?_⟩)))))
  exact wpA_call (mk_or Z3 rm1 h1 h2 fun v' nw' s' le Z' r => h _ _ _ le (Z.back ns Z') r)
theorem made_Neg {f : Fm} {sv r1 : Value} {l : Addr} {k : Nat} {Q : Value → Shared → Prop} (Z : Sit w z H mu nw L m s) (rm : Room A 3) (hl : (l, W.listOf #[r1] k) ∈ nw) (h1 : Rep w nw f r1)
    (h : ∀ r nw' s', Le nw nw' → Sit w z H mu nw' L m s' → Rep w nw' (.neg f) r → Q r s') : wpAny (Md w) A (call (.ref 784) [sv, .ref l]) Q E s := by
  refine wpA_call (enter (binds := [("self", sv), ("parts", .ref l)]) (rb := [("parts", .ref l), ("self", sv)]) Z rm rfl (by kernel_rfl) (BindsTo.of_eq rfl) rfl (by decide) (locs rfl) ⟨rfl, rfl, rfl⟩ fun L' s₁ oL ns Z1 rm1 => ?_)
  refine x_seq (wpAny_Return_some (r_callN Z1 (nNegated w) (kpNegated w) (sp_cons (r_item (v := r1) Z1 rfl (List.mem_append_right _ hl) (by decide) (by decide) rfl fun s₃ Z3 => sp_nil ⟨Z3.K, ?_⟩))))
  exact wpA_call (mk_neg Z3 rm1 h1 fun v' nw' s' le Z' r => h _ _ _ le (Z.back ns Z') r)
end
end Mine
end

section
open PySem PySem.W PySem.Spec PySem.Calls PyProof.Rows
set_option Elab.async false
set_option maxRecDepth 100000
namespace Mine
set_option linter.unusedVariables false
section
variable {w : World} {z : Shared} {H : Heap} {mu nw : List Ent} {L a : Addr} {m : Str → Option Value} {s : Shared} {A : Around} {E : Value → Shared → Prop} {d : Nat} {env : Env}

theorem vs_App {y : Addr} {p q fv : Value} {t1 t2 : Tok} {f' a' : Str} {d : Nat} {Q : Value → Shared → Prop} (Z : Sit w z H mu nw L m s) (rm : Room A (d + 6)) (i : Inst nw y 424 [dE w "function" t1 p, dE w "argument" t2 q]) (hp : ∃ a, p = .ref a) (hq : ∃ a, q = .ref a)
    (hf : FnIn nw fv) (f1 : FunOk w z H nw fv (d + 4) p fun nw r => TermR w nw f' r) (f2 : FunOk w z H nw fv (d + 4) q fun nw r => TermR w nw a' r)
    (h : ∀ r nw' s', Le nw nw' → Sit w z H mu nw' L m s' → Rep w nw' (.app f' a') r → Q r s') : wpAny (Md w) A (call (.ref 283) [.ref y, fv]) Q E s := by
  refine wpA_call (enterC (binds := [("self", .ref y), ("function", fv)]) Z rm rfl (by kernel_rfl) (BindsTo.of_eq rfl) (fun n => by intro x hx; rcases List.mem_cons.mp hx with rfl | hx; exact .inr ⟨rfl, rfl⟩; cases List.mem_singleton.mp hx; exact .inl rfl) (by decide) ⟨rfl, rfl, rfl⟩ fun L' s₁ oL cells ns hc Z1 rm1 => ?_)
  obtain ⟨o, rfl, hd⟩ := CellsAre.one (n := "self") (c := L' + 1) hc
  have hd' : o.data = .cell (some (.ref y)) := hd
  have Z2 := Z1.freeze
  have le1 := Le.cons (L' + 1, o) nw
  show wpAny _ _ (execs _ (envX _ _ L' 283 (.ref 282) [("self", L' + 1)])) _ _ _
  refine x_seq (wpAny_Return_some (MethodCall_ (r_cell Z2 rfl (List.mem_append_right _ (.head _)) hd' (r_meth Z2 (i.mono le1) (okApplication w) (fApplicationXvisit w) (ty377 w) rfl ?_))))
  refine r_args Z2 (kp377 w) (sp_cons (r_loc Z2 rfl (sp_cons (r_lam (P := 278) Z2 (by decide) q278 rfl rfl fun f2' nw3 s₃ le3 Z3 lam => sp_nil ⟨Z3.K, ?_⟩))))
  have le := le1.trans le3
  refine visit_App (d := d + 4) (P1 := fun nw r => TermR w nw f' r) (P2 := fun nw r => TermR w nw a' r) (P3 := fun nw r => Rep w nw (.app f' a') r) Z3 rm1 (i.mono le) hp hq (hf.mono le) lam.fn
    (fun le' => f1 (le.trans le')) (fun le' => f2 (le.trans le')) (fun le x => x.mono le) (fun le x => x.mono le)
    (fun {nw' r1 r2 l k} le' h1 h2 hl => fun le'' rm' Z' hQ => wpA_call (enterLam (binds := [("parts", .ref l)]) (rb := [("parts", .ref l)]) Z' rm' (lam.mono (le'.trans le'')) (fun _ _ _ => rfl) rfl (by decide) (locs rfl) ⟨rfl, rfl, rfl⟩ fun L5 s₅ oL5 cdv ns5 Z5 rm5 =>
      MethodCall_ (r_free Z5 rfl (List.mem_append_right _ (le'' _ (le' _ (le3 _ (.head _))))) hd' (r_meth Z5 (i.mono (le.trans (le'.trans le''))) (okApplication w) (fApplicationXmade w) (ty356 w) rfl (r_args Z5 (kp356 w) (sp_cons (r_loc Z5 rfl (sp_nil ⟨Z5.K,
        made_App Z5 (rm5.le (by omega)) (le'' _ hl) (h1.mono le'') (h2.mono le'') fun r nw6 s₆ le6 Z6 hr => hQ _ _ _ le6 (Z'.back ns5 Z6) hr⟩))))))))
    fun r nw' s' le' Z' hr => h _ _ _ (le.trans le') (Z.back ns Z') hr
theorem vs_And {y : Addr} {p q fv : Value} {t1 t2 : Tok} {f' a' : Fm} {d : Nat} {Q : Value → Shared → Prop} (Z : Sit w z H mu nw L m s) (rm : Room A (d + 6)) (i : Inst nw y 914 [dE w "first" t1 p, dE w "second" t2 q]) (hp : ∃ a, p = .ref a) (hq : ∃ a, q = .ref a)
    (hf : FnIn nw fv) (f1 : FunOk w z H nw fv (d + 4) p fun nw r => Rep w nw f' r) (f2 : FunOk w z H nw fv (d + 4) q fun nw r => Rep w nw a' r)
    (h : ∀ r nw' s', Le nw nw' → Sit w z H mu nw' L m s' → Rep w nw' (.and f' a') r → Q r s') : wpAny (Md w) A (call (.ref 283) [.ref y, fv]) Q E s := by
  refine wpA_call (enterC (binds := [("self", .ref y), ("function", fv)]) Z rm rfl (by kernel_rfl) (BindsTo.of_eq rfl) (fun n => by intro x hx; rcases List.mem_cons.mp hx with rfl | hx; exact .inr ⟨rfl, rfl⟩; cases List.mem_singleton.mp hx; exact .inl rfl) (by decide) ⟨rfl, rfl, rfl⟩ fun L' s₁ oL cells ns hc Z1 rm1 => ?_)
  obtain ⟨o, rfl, hd⟩ := CellsAre.one (n := "self") (c := L' + 1) hc
  have hd' : o.data = .cell (some (.ref y)) := hd
  have Z2 := Z1.freeze
  have le1 := Le.cons (L' + 1, o) nw
  show wpAny _ _ (execs _ (envX _ _ L' 283 (.ref 282) [("self", L' + 1)])) _ _ _
  refine x_seq (wpAny_Return_some (MethodCall_ (r_cell Z2 rfl (List.mem_append_right _ (.head _)) hd' (r_meth Z2 (i.mono le1) (okAnd w) (fAndXvisit w) (ty838 w) rfl ?_))))
  refine r_args Z2 (kp838 w) (sp_cons (r_loc Z2 rfl (sp_cons (r_lam (P := 278) Z2 (by decide) q278 rfl rfl fun f2' nw3 s₃ le3 Z3 lam => sp_nil ⟨Z3.K, ?_⟩))))
  have le := le1.trans le3
  refine visit_Bin (okAnd w) (fAndXfirst w) (fAndXsecond w) (d := d + 4) (P1 := fun nw r => Rep w nw f' r) (P2 := fun nw r => Rep w nw a' r) (P3 := fun nw r => Rep w nw (.and f' a') r) Z3 rm1 (i.mono le) hp hq (hf.mono le) lam.fn
    (fun le' => f1 (le.trans le')) (fun le' => f2 (le.trans le')) (fun le x => x.mono le) (fun le x => x.mono le)
    (fun {nw' r1 r2 l k} le' h1 h2 hl => fun le'' rm' Z' hQ => wpA_call (enterLam (binds := [("parts", .ref l)]) (rb := [("parts", .ref l)]) Z' rm' (lam.mono (le'.trans le'')) (fun _ _ _ => rfl) rfl (by decide) (locs rfl) ⟨rfl, rfl, rfl⟩ fun L5 s₅ oL5 cdv ns5 Z5 rm5 =>
      MethodCall_ (r_free Z5 rfl (List.mem_append_right _ (le'' _ (le' _ (le3 _ (.head _))))) hd' (r_meth Z5 (i.mono (le.trans (le'.trans le''))) (okAnd w) (fAndXmade w) (ty890 w) rfl (r_args Z5 (kp890 w) (sp_cons (r_loc Z5 rfl (sp_nil ⟨Z5.K,
        made_And Z5 (rm5.le (by omega)) (le'' _ hl) (h1.mono le'') (h2.mono le'') fun r nw6 s₆ le6 Z6 hr => hQ _ _ _ le6 (Z'.back ns5 Z6) hr⟩))))))))
    fun r nw' s' le' Z' hr => h _ _ _ (le.trans le') (Z.back ns Z') hr
theorem vs_Or {y : Addr} {p q fv : Value} {t1 t2 : Tok} {f' a' : Fm} {d : Nat} {Q : Value → Shared → Prop} (Z : Sit w z H mu nw L m s) (rm : Room A (d + 6)) (i : Inst nw y 954 [dE w "first" t1 p, dE w "second" t2 q]) (hp : ∃ a, p = .ref a) (hq : ∃ a, q = .ref a)
    (hf : FnIn nw fv) (f1 : FunOk w z H nw fv (d + 4) p fun nw r => Rep w nw f' r) (f2 : FunOk w z H nw fv (d + 4) q fun nw r => Rep w nw a' r)
    (h : ∀ r nw' s', Le nw nw' → Sit w z H mu nw' L m s' → Rep w nw' (.or f' a') r → Q r s') : wpAny (Md w) A (call (.ref 283) [.ref y, fv]) Q E s := by
  refine wpA_call (enterC (binds := [("self", .ref y), ("function", fv)]) Z rm rfl (by kernel_rfl) (BindsTo.of_eq rfl) (fun n => by intro x hx; rcases List.mem_cons.mp hx with rfl | hx; exact .inr ⟨rfl, rfl⟩; cases List.mem_singleton.mp hx; exact .inl rfl) (by decide) ⟨rfl, rfl, rfl⟩ fun L' s₁ oL cells ns hc Z1 rm1 => ?_)
  obtain ⟨o, rfl, hd⟩ := CellsAre.one (n := "self") (c := L' + 1) hc
  have hd' : o.data = .cell (some (.ref y)) := hd
  have Z2 := Z1.freeze
  have le1 := Le.cons (L' + 1, o) nw
  show wpAny _ _ (execs _ (envX _ _ L' 283 (.ref 282) [("self", L' + 1)])) _ _ _
  refine x_seq (wpAny_Return_some (MethodCall_ (r_cell Z2 rfl (List.mem_append_right _ (.head _)) hd' (r_meth Z2 (i.mono le1) (okOr w) (fOrXvisit w) (ty838 w) rfl ?_))))
  refine r_args Z2 (kp838 w) (sp_cons (r_loc Z2 rfl (sp_cons (r_lam (P := 278) Z2 (by decide) q278 rfl rfl fun f2' nw3 s₃ le3 Z3 lam => sp_nil ⟨Z3.K, ?_⟩))))
  have le := le1.trans le3
  refine visit_Bin (okOr w) (fOrXfirst w) (fOrXsecond w) (d := d + 4) (P1 := fun nw r => Rep w nw f' r) (P2 := fun nw r => Rep w nw a' r) (P3 := fun nw r => Rep w nw (.or f' a') r) Z3 rm1 (i.mono le) hp hq (hf.mono le) lam.fn
    (fun le' => f1 (le.trans le')) (fun le' => f2 (le.trans le')) (fun le x => x.mono le) (fun le x => x.mono le)
    (fun {nw' r1 r2 l k} le' h1 h2 hl => fun le'' rm' Z' hQ => wpA_call (enterLam (binds := [("parts", .ref l)]) (rb := [("parts", .ref l)]) Z' rm' (lam.mono (le'.trans le'')) (fun _ _ _ => rfl) rfl (by decide) (locs rfl) ⟨rfl, rfl, rfl⟩ fun L5 s₅ oL5 cdv ns5 Z5 rm5 =>
      MethodCall_ (r_free Z5 rfl (List.mem_append_right _ (le'' _ (le' _ (le3 _ (.head _))))) hd' (r_meth Z5 (i.mono (le.trans (le'.trans le''))) (okOr w) (fOrXmade w) (ty930 w) rfl (r_args Z5 (kp930 w) (sp_cons (r_loc Z5 rfl (sp_nil ⟨Z5.K,
        made_Or Z5 (rm5.le (by omega)) (le'' _ hl) (h1.mono le'') (h2.mono le'') fun r nw6 s₆ le6 Z6 hr => hQ _ _ _ le6 (Z'.back ns5 Z6) hr⟩))))))))
    fun r nw' s' le' Z' hr => h _ _ _ (le.trans le') (Z.back ns Z') hr
theorem vs_Neg {y : Addr} {p q fv : Value} {t1 t2 : Tok} {f' : Fm} {d : Nat} {Q : Value → Shared → Prop} (Z : Sit w z H mu nw L m s) (rm : Room A (d + 6)) (i : Inst nw y 815 [dE w "term" t1 p]) (hp : ∃ a, p = .ref a) 
    (hf : FnIn nw fv) (f1 : FunOk w z H nw fv (d + 4) p fun nw r => Rep w nw f' r)
    (h : ∀ r nw' s', Le nw nw' → Sit w z H mu nw' L m s' → Rep w nw' (.neg f') r → Q r s') : wpAny (Md w) A (call (.ref 283) [.ref y, fv]) Q E s := by
  refine wpA_call (enterC (binds := [("self", .ref y), ("function", fv)]) Z rm rfl (by kernel_rfl) (BindsTo.of_eq rfl) (fun n => by intro x hx; rcases List.mem_cons.mp hx with rfl | hx; exact .inr ⟨rfl, rfl⟩; cases List.mem_singleton.mp hx; exact .inl rfl) (by decide) ⟨rfl, rfl, rfl⟩ fun L' s₁ oL cells ns hc Z1 rm1 => ?_)
  obtain ⟨o, rfl, hd⟩ := CellsAre.one (n := "self") (c := L' + 1) hc
  have hd' : o.data = .cell (some (.ref y)) := hd
  have Z2 := Z1.freeze
  have le1 := Le.cons (L' + 1, o) nw
  show wpAny _ _ (execs _ (envX _ _ L' 283 (.ref 282) [("self", L' + 1)])) _ _ _
  refine x_seq (wpAny_Return_some (MethodCall_ (r_cell Z2 rfl (List.mem_append_right _ (.head _)) hd' (r_meth Z2 (i.mono le1) (okNegated w) (fNegatedXvisit w) (ty791 w) rfl ?_))))
  refine r_args Z2 (kp791 w) (sp_cons (r_loc Z2 rfl (sp_cons (r_lam (P := 278) Z2 (by decide) q278 rfl rfl fun f2' nw3 s₃ le3 Z3 lam => sp_nil ⟨Z3.K, ?_⟩))))
  have le := le1.trans le3
  refine visit_Neg (d := d + 4) (P1 := fun nw r => Rep w nw f' r) (P3 := fun nw r => Rep w nw (.neg f') r) Z3 rm1 (i.mono le) hp (hf.mono le) lam.fn
    (fun le' => f1 (le.trans le')) (fun le x => x.mono le)
    (fun {nw' r1 l k} le' h1 hl => fun le'' rm' Z' hQ => wpA_call (enterLam (binds := [("parts", .ref l)]) (rb := [("parts", .ref l)]) Z' rm' (lam.mono (le'.trans le'')) (fun _ _ _ => rfl) rfl (by decide) (locs rfl) ⟨rfl, rfl, rfl⟩ fun L5 s₅ oL5 cdv ns5 Z5 rm5 =>
      MethodCall_ (r_free Z5 rfl (List.mem_append_right _ (le'' _ (le' _ (le3 _ (.head _))))) hd' (r_meth Z5 (i.mono (le.trans (le'.trans le''))) (okNegated w) (fNegatedXmade w) (ty784 w) rfl (r_args Z5 (kp784 w) (sp_cons (r_loc Z5 rfl (sp_nil ⟨Z5.K,
        made_Neg Z5 (rm5.le (by omega)) (le'' _ hl) (h1.mono le'') fun r nw6 s₆ le6 Z6 hr => hQ _ _ _ le6 (Z'.back ns5 Z6) hr⟩))))))))
    fun r nw' s' le' Z' hr => h _ _ _ (le.trans le') (Z.back ns Z') hr
end
end Mine
end

section
open PySem PySem.W PySem.Spec PySem.Calls PyProof.Rows
set_option Elab.async false
set_option maxRecDepth 100000
namespace Mine
set_option linter.unusedVariables false
noncomputable def rargs (full : Bool) (v u e : Value) : List Value := v :: u :: e :: (if full then [.bool false, .bool true] else [])
noncomputable def okr : Fm → Bool
  | .app _ _ => true
  | .neg a => okr a
  | .and a b => okr a && okr b
  | .or a b => okr a && okr b
  | _ => false
noncomputable def hR : Fm → Nat
  | .app _ _ => 1
  | .neg a => hR a + 1
  | .and a b => hR a + hR b + 1
  | .or a b => hR a + hR b + 1
  | _ => 0
theorem hR_pos {f : Fm} (h : okr f = true) : 1 ≤ hR f := by cases f <;> first | exact Nat.le_add_left 1 _ | cases h
theorem okr_four : ∀ {f : Fm}, okr f = true → ∃ C, four f = some C
  | .app _ _, _ => ⟨_, rfl⟩
  | .neg _, _ => ⟨_, rfl⟩
  | .and _ _, _ => ⟨_, rfl⟩
  | .or _ _, _ => ⟨_, rfl⟩
structure RpCls (w : World) (C : Addr) : Prop where
  ok : ClsOk w C
  rep : findIn (KK w) (.ref C) "replace" = some (some (.ref 269))
  vs : findIn (KK w) (.ref C) "visit_structured" = some (some (.ref 283))
theorem four_rp (w : World) {f : Fm} {C : Addr} (h : four f = some C) : RpCls w C := by
  cases f <;> cases h
  · exact ⟨okApplication w, fApplicationXreplace w, fApplicationXvisit_structured w⟩
  · exact ⟨okNegated w, fNegatedXreplace w, fNegatedXvisit_structured w⟩
  · exact ⟨okAnd w, fAndXreplace w, fAndXvisit_structured w⟩
  · exact ⟨okOr w, fOrXreplace w, fOrXvisit_structured w⟩
/-- the attributes of a formula's object stand apart from the methods' names -/
theorem Rep.apart {w : World} {nw : List Ent} {f : Fm} {v : Value} {C : Addr} (h : four f = some C) (r : Rep w nw f v) : ∃ y es, v = .ref y ∧ Inst nw y C es ∧ getL "replace" es = some none ∧ getL "visit_structured" es = some none ∧ getL "free" es = some none ∧ getL "constants" es = some none := by
  cases f <;> cases h
  · obtain ⟨y, _, _, _, _, a, b, _⟩ := r; exact ⟨y, _, a, b, rfl, rfl, rfl, rfl⟩
  · obtain ⟨y, _, _, a, b, _⟩ := r; exact ⟨y, _, a, b, rfl, rfl, rfl, rfl⟩
  · obtain ⟨y, _, _, _, _, a, b, _⟩ := r; exact ⟨y, _, a, b, rfl, rfl, rfl, rfl⟩
  · obtain ⟨y, _, _, _, _, a, b, _⟩ := r; exact ⟨y, _, a, b, rfl, rfl, rfl, rfl⟩

section
variable {w : World} {z : Shared} {H : Heap} {mu nw : List Ent} {L a : Addr} {m : Str → Option Value} {s : Shared} {A : Around} {E : Value → Shared → Prop} {d : Nat} {env : Env}

/-- the part of replace that all formulas share -/
theorem replace_pre {x y : Str} {f f' : Fm} {C : Addr} {v u e : Value} {full : Bool} {d : Nat} {Q : Value → Shared → Prop} (Z : Sit w z H mu nw L m s) (rm : Room A (d + 1)) (kf : four f = some C) (hv : Rep w nw f v) (hu : VarR w nw x u) (he : TermR w nw y e)
    (main : ∀ {mu nw1 : List Ent} {L : Addr} {m : Str → Option Value} {s : Shared} {A : Around} {E : Value → Shared → Prop} {Q : Value → Shared → Prop} {fl : Addr}, Sit w z H mu nw1 L m s → Room A d → Le nw nw1 → FnIn nw1 (.ref fl) →
      (∀ {n p}, TermR w nw1 n p → FunOk w z H nw1 (.ref fl) 4 p fun nw r => TermR w nw (rpN x y n) r) →
      (∀ {g p D k}, four g = some D → Rep w nw1 g p → (∀ {mu nw' : List Ent} {L : Addr} {m : Str → Option Value} {s : Shared} {A : Around} {E : Value → Shared → Prop} {Q : Value → Shared → Prop}, Le nw1 nw' → Sit w z H mu nw' L m s → Room A k →
          (∀ r nw'' s', Le nw' nw'' → Sit w z H mu nw'' L m s' → Rep w nw'' (rp x y g) r → Q r s') → wpAny (Md w) A (call (.ref 269) (rargs true p u e)) Q E s) → FunOk w z H nw1 (.ref fl) (k + 1) p fun nw r => Rep w nw (rp x y g) r) →
      (∀ r nw' s', Le nw1 nw' → Sit w z H mu nw' L m s' → Rep w nw' f' r → Q r s') → wpAny (Md w) A (call (.ref 283) [v, .ref fl]) Q E s)
    (h : ∀ r nw' s', Le nw nw' → Sit w z H mu nw' L m s' → Rep w nw' f' r → Q r s') : wpAny (Md w) A (call (.ref 269) (rargs full v u e)) Q E s := by
  refine wpA_call (enterC (d := d) (binds := [("self", v), ("variable", u), ("expression", e), ("replace_bound", .bool false), ("alpha_convert", .bool true)]) Z rm rfl (by kernel_rfl) (by cases full <;> exact binds_K Z.K rfl rfl rfl rfl rfl)
    (fun n => by
      intro x hx
      rcases List.mem_cons.mp hx with rfl | hx; exact .inl rfl
      rcases List.mem_cons.mp hx with rfl | hx; exact .inr ⟨rfl, rfl⟩
      rcases List.mem_cons.mp hx with rfl | hx; exact .inr ⟨rfl, rfl⟩
      rcases List.mem_cons.mp hx with rfl | hx; exact .inr ⟨rfl, rfl⟩
      cases List.mem_singleton.mp hx; exact .inr ⟨rfl, rfl⟩) (by decide) ⟨rfl, rfl, rfl⟩ fun L' s₁ oL cells ns hc Z1 rm1 => ?_)
  obtain ⟨o4, o3, o2, o1, rfl, h4, h3, h2, h1⟩ := CellsAre.four (n₁ := "alpha_convert") (c₁ := L' + 4) (n₂ := "replace_bound") (c₂ := L' + 3) (n₃ := "expression") (c₃ := L' + 2) (n₄ := "variable") (c₄ := L' + 1) hc
  have d1 : o1.data = .cell (some u) := h1
  have d2 : o2.data = .cell (some e) := h2
  have d3 : o3.data = .cell (some (.bool false)) := h3
  have d4 : o4.data = .cell (some (.bool true)) := h4
  have Z2 := Z1.freeze.freeze.freeze.freeze
  have le1 : Le nw ((L' + 1, o1) :: (L' + 2, o2) :: (L' + 3, o3) :: (L' + 4, o4) :: nw) := fun p hp => .tail _ (.tail _ (.tail _ (.tail _ hp)))
  generalize hnw1 : (L' + 1, o1) :: (L' + 2, o2) :: (L' + 3, o3) :: (L' + 4, o4) :: nw = nw1 at Z2 le1
  have m1 : (L' + 1, o1) ∈ nw1 := hnw1 ▸ .head _
  have m2 : (L' + 2, o2) ∈ nw1 := hnw1 ▸ .tail _ (.head _)
  have m3 : (L' + 3, o3) ∈ nw1 := hnw1 ▸ .tail _ (.tail _ (.head _))
  have m4 : (L' + 4, o4) ∈ nw1 := hnw1 ▸ .tail _ (.tail _ (.tail _ (.head _)))
  show wpAny _ _ (execs _ (envX _ _ L' 269 (.ref 268) [("alpha_convert", L' + 4), ("replace_bound", L' + 3), ("expression", L' + 2), ("variable", L' + 1)])) _ _ _
  refine x_seq (x_assG Z2 (fun hQ => r_cell Z2 rfl (List.mem_append_right _ m1) d1 hQ) (hu.mono le1).isA (nVariable w) fun s₃ Z3 => ?_)
  refine x_seq (x_assG Z3 (fun hQ => r_cell Z3 rfl (List.mem_append_right _ m2) d2 hQ) (he.mono le1).isA (nExpression w) fun s₄ Z4 => ?_)
  obtain ⟨yv, es, rfl, i, l1, l2, -⟩ := hv.apart kf
  refine x_seq (wpAny_Return_some (MethodCall_ (r_loc Z4 rfl (r_meth Z4 (i.mono le1) (four_rp w kf).ok (four_rp w kf).vs (ty283 w) l2 ?_))))
  refine r_args Z4 (kp283 w) (sp_cons (r_lam (P := 264) Z4 (by decide) q264 rfl rfl fun fl nw5 s₅ le5 Z5 lam => sp_nil ⟨Z5.K, ?_⟩))
  have le := le1.trans le5
  refine main Z5 rm1 le lam.fn ?_ ?_ fun r nw' s' le' Z' hr => h _ _ _ (le.trans le') (Z.back ns Z') hr
  · intro n p hp mu' nw' L2 m2' s2 A2 E2 Q2 le' rm' Z' hQ
    refine wpA_call (enterLam (binds := [("e", p)]) (rb := [("e", p)]) Z' rm' (lam.mono le') (fun _ _ _ => rfl) rfl (by decide) (locs rfl) ⟨rfl, rfl, rfl⟩ fun L5 s₅ oL5 cdv ns5 Z5 rm5 => ?_)
    have hp2 := hp.mono le'
    have hp3 := hp2
    obtain ⟨yp, un, tk, rfl, ip, -⟩ := hp2
    have hfr : findIn (KK w) (.ref (tcls n)) "replace" = some (some (.ref 455)) := by
      unfold tcls; split
      · exact fIndividualXreplace w
      · exact fConstantXreplace w
    have le5' := le5.trans le'
    refine MethodCall_ (r_loc Z5 rfl (r_meth Z5 ip (ok_tcls w n) hfr (ty455 w) rfl ?_))
    refine r_args Z5 (kp455 w) (sp_cons (r_free Z5 rfl (List.mem_append_right _ (le5' _ m1)) d1 (sp_cons (r_free Z5 rfl (List.mem_append_right _ (le5' _ m2)) d2 (sp_cons (r_free Z5 rfl (List.mem_append_right _ (le5' _ m3)) d3 (sp_cons (r_free Z5 rfl (List.mem_append_right _ (le5' _ m4)) d4 (sp_nil ⟨Z5.K, ?_⟩)))))))))
    exact vrep_ok Z5 rm5 hp3 (hu.mono (le.trans le')) (he.mono (le.trans le')) fun r nw6 s₆ le6 Z6 hr => hQ _ _ _ le6 (Z'.back ns5 Z6) hr
  · intro g p D k kg hp rec mu' nw' L2 m2' s2 A2 E2 Q2 le' rm' Z' hQ
    refine wpA_call (enterLam (binds := [("e", p)]) (rb := [("e", p)]) Z' rm' (lam.mono le') (fun _ _ _ => rfl) rfl (by decide) (locs rfl) ⟨rfl, rfl, rfl⟩ fun L5 s₅ oL5 cdv ns5 Z5 rm5 => ?_)
    obtain ⟨yp, es, rfl, ip, l1', -, -⟩ := (hp.mono le').apart kg
    have le5' := le5.trans le'
    refine MethodCall_ (r_loc Z5 rfl (r_meth Z5 ip (four_rp w kg).ok (four_rp w kg).rep (ty269 w) l1' ?_))
    refine r_args Z5 (kp269 w) (sp_cons (r_free Z5 rfl (List.mem_append_right _ (le5' _ m1)) d1 (sp_cons (r_free Z5 rfl (List.mem_append_right _ (le5' _ m2)) d2 (sp_cons (r_free Z5 rfl (List.mem_append_right _ (le5' _ m3)) d3 (sp_cons (r_free Z5 rfl (List.mem_append_right _ (le5' _ m4)) d4 (sp_nil ⟨Z5.K, ?_⟩)))))))))
    exact rec le' Z5 rm5 fun r nw6 s₆ le6 Z6 hr => hQ _ _ _ le6 (Z'.back ns5 Z6) hr

theorem replace_ok (w : World) (z : Shared) (H : Heap) (x y : Str) : ∀ (f : Fm), okr f = true → ∀ {mu nw : List Ent} {L : Addr} {m : Str → Option Value} {s : Shared} {A : Around} {E : Value → Shared → Prop} {v u e : Value} {full : Bool} {Q : Value → Shared → Prop},
    Sit w z H mu nw L m s → Room A (4 * hR f + 3) → Rep w nw f v → VarR w nw x u → TermR w nw y e → (∀ r nw' s', Le nw nw' → Sit w z H mu nw' L m s' → Rep w nw' (rp x y f) r → Q r s') → wpAny (Md w) A (call (.ref 269) (rargs full v u e)) Q E s := by
  intro f
  induction f with
  | app f g =>
    intro kf mu nw L m s A E v u e full Q Z rm hv hu he h
    refine replace_pre (d := 6) Z rm rfl hv hu he (fun Z' rm' le' hfl fT fR hQ => ?_) h
    obtain ⟨yv, p, q, t1, t2, rfl, i, hp, hq⟩ := hv.mono le'
    exact vs_App (d := 0) Z' rm' i (let ⟨a, _, _, e, _⟩ := hp; ⟨a, e⟩) (let ⟨a, _, _, e, _⟩ := hq; ⟨a, e⟩) hfl (fT hp) (fT hq) hQ
  | neg f ih =>
    intro kf mu nw L m s A E v u e full Q Z rm hv hu he h
    refine replace_pre (d := 4 * hR f + 6) Z (rm.le (by simp only [hR]; omega)) rfl hv hu he (fun Z' rm' le' hfl fT fR hQ => ?_) h
    obtain ⟨yv, p, t1, rfl, i, hp⟩ := hv.mono le'
    obtain ⟨D, kg⟩ := okr_four (f := f) kf
    exact vs_Neg (q := .none) (t2 := 0) (d := 4 * hR f) Z' rm' i (rep_ref hp) hfl (fR kg hp fun le'' Z'' rm'' hQ'' => ih kf (full := true) Z'' rm'' (hp.mono le'') (hu.mono (le'.trans le'')) (he.mono (le'.trans le'')) hQ'') hQ
  | and f g ihf ihg =>
    intro kf mu nw L m s A E v u e full Q Z rm hv hu he h
    simp only [okr, Bool.and_eq_true] at kf
    refine replace_pre (d := 4 * (hR f + hR g) + 6) Z (rm.le (by simp only [hR]; omega)) rfl hv hu he (fun Z' rm' le' hfl fT fR hQ => ?_) h
    obtain ⟨yv, p, q, t1, t2, rfl, i, hp, hq⟩ := hv.mono le'
    obtain ⟨D, kd⟩ := okr_four kf.1
    obtain ⟨D', kd'⟩ := okr_four kf.2
    exact vs_And (d := 4 * (hR f + hR g)) Z' rm' i (rep_ref hp) (rep_ref hq) hfl (fR kd hp fun le'' Z'' rm'' hQ'' => ihf kf.1 (full := true) Z'' (rm''.le (by omega)) (hp.mono le'') (hu.mono (le'.trans le'')) (he.mono (le'.trans le'')) hQ'')
      (fR kd' hq fun le'' Z'' rm'' hQ'' => ihg kf.2 (full := true) Z'' (rm''.le (by omega)) (hq.mono le'') (hu.mono (le'.trans le'')) (he.mono (le'.trans le'')) hQ'') hQ
  | or f g ihf ihg =>
    intro kf mu nw L m s A E v u e full Q Z rm hv hu he h
    simp only [okr, Bool.and_eq_true] at kf
    refine replace_pre (d := 4 * (hR f + hR g) + 6) Z (rm.le (by simp only [hR]; omega)) rfl hv hu he (fun Z' rm' le' hfl fT fR hQ => ?_) h
    obtain ⟨yv, p, q, t1, t2, rfl, i, hp, hq⟩ := hv.mono le'
    obtain ⟨D, kd⟩ := okr_four kf.1
    obtain ⟨D', kd'⟩ := okr_four kf.2
    exact vs_Or (d := 4 * (hR f + hR g)) Z' rm' i (rep_ref hp) (rep_ref hq) hfl (fR kd hp fun le'' Z'' rm'' hQ'' => ihf kf.1 (full := true) Z'' (rm''.le (by omega)) (hp.mono le'') (hu.mono (le'.trans le'')) (he.mono (le'.trans le'')) hQ'')
      (fR kd' hq fun le'' Z'' rm'' hQ'' => ihg kf.2 (full := true) Z'' (rm''.le (by omega)) (hq.mono le'') (hu.mono (le'.trans le'')) (he.mono (le'.trans le'')) hQ'') hQ
  | _ => intro kf; cases kf
end
end Mine
end

section
open PySem PySem.W PySem.Spec PySem.Calls PyProof.Rows
set_option Elab.async false
set_option maxRecDepth 100000
namespace Mine
set_option linter.unusedVariables false
/-- the name that the counter's number k gives -/
noncomputable def zn (k : Int) : Str := (Str.empty ++ ("z" : Str)) ++ Str.ofString (toString k)
/-- the counter's dict -/
noncomputable abbrev cntO (w : World) (tk t : Tok) (k : Int) : Obj := dictOf [dE w "_value" tk (.int k t)] 1
section
variable {w : World} {z : Shared} {H : Heap} {mu nw : List Ent} {L a : Addr} {m : Str → Option Value} {s : Shared} {A : Around} {E : Value → Shared → Prop} {d : Nat} {env : Env}

theorem r_getM {y C dx : Addr} {es : List DictEntry} {n : Nat} {name : Str} {v : Value} {expr : Bool} {Q : Value → Shared → Prop} (Z : Sit w z H mu nw L m s) (hd : (dx, dictOf es n) ∈ mu) (hx : (y, instObj C dx) ∈ nw) (ok : ClsOk w C) (ha : findIn (KK w) (.ref C) name = some none)
    (hl : getL name es = some (some v)) (hv : handedIn v = true) (h : ∀ s', Sit w z H mu nw L m s' → Q v s') : wpAny (Md w) A (getAttr (.ref y) name expr) Q E s := by
  have pg : plainGet (KK w) C name = true := ok.pg
  exact get_own (es := es) (n := n) Z.F Z.gl.X ⟨Z.get hx, rfl, rfl, Z.getM hd⟩ pg ok.hd ha rfl hl hv (h _ (Z.toks _))

theorem get_ok {c dx : Addr} {tk t : Tok} {k : Int} {Q : Value → Shared → Prop} (Z : Sit w z H ((dx, cntO w tk t k) :: mu) nw L m s) (rm : Room A 1) (hx : (c, instObj 46 dx) ∈ nw)
    (h : ∀ t' s', Sit w z H ((dx, cntO w tk t' (k + 1)) :: mu) nw L m s' → Q (.int (k + 1) t') s') : wpAny (Md w) A (call (.ref 43) [.ref c]) Q E s := by
  refine wpA_call (enter (binds := [("self", .ref c)]) (rb := [("self", .ref c)]) Z rm rfl (by kernel_rfl) (BindsTo.of_eq rfl) rfl (by decide) (locs rfl) ⟨rfl, rfl, rfl⟩ fun L' s₁ oL ns Z1 rm1 => ?_)
  refine x_seq (wpAny_AugAssign_AttributeAny (r_loc Z1 rfl (r_getM Z1 (.tail _ (.head _)) hx (okCounter w) (fCounterXvalue w) rfl rfl fun s₂ Z2 => r_int Z2 fun u s₃ Z3 => iadd_int ?_)))
  have Z4 := (Z3.toks (s₃.toks + 1)).swap
  refine r_setat Z4 hx (okCounter w) (tCounterXvalue w) rfl (Nat.le_add_left 1 899) fun tk' s₅ Z5 => ?_
  have Z6 : Sit w z H ((dx, cntO w tk s₃.toks (k + 1)) :: (L, oL) :: mu) nw L' _ s₅ := Z5
  refine x_seq (wpAny_Return_some (Attribute_name (r_loc Z6 rfl (r_getM Z6 (.head _) hx (okCounter w) (fCounterXvalue w) rfl rfl fun s₇ Z7 => ?_))))
  exact h _ _ (Z.back ns Z7.swap)

/-- Counter() -/
theorem mk_counter {R : Result → Shared → Prop} (Z : Sit w z H mu nw L m s) (rm : Room A 2)
    (h : ∀ c dx tk t s', Sit w z H ((dx, cntO w tk t 0) :: mu) ((c, instObj 46 dx) :: nw) L m s' → R (.ok (.ret (.ref c))) s') : codeAny (Md w) A (.call (.ref 46) ⟨[], []⟩) R s := by
  refine r_make Z (mkCounter w) (fCounterXinit w) (ty36 w) fun x dx s₁ Z1 => ?_
  refine enter (d := 0) (binds := [("self", .ref x), ("initial_value", .int 0 208)]) (rb := [("initial_value", .int 0 208), ("self", .ref x)]) Z1 (Room.make rm) rfl (by kernel_rfl) (binds_K Z1.K rfl rfl rfl rfl rfl) rfl (by decide) (locs rfl) ⟨rfl, rfl, rfl⟩ fun L' s₂ oL ns Z2 rm2 => ?_
  refine x_seq (x_setN Z2.swap rfl rfl (.head _) (okCounter w) (tCounterXvalue w) rfl (by decide) fun tk s₃ Z3 => ?_)
  exact wpAny_execs_nil ⟨rfl, h x dx tk 208 s₃ (Z1.back ns Z3.swap)⟩

theorem r_fstr {x y : Str} {t : Tok} {p pos : Pos} {Q : Value → Shared → Prop} (Z : Sit w z H mu nw L m s) (hx : m x = some (.str y t)) (hy : y.length ≤ sizeLine) (h : ∀ t s', Sit w z H mu nw L m s' → Q (.str y t) s')
    (hk : EnvOk env L := by exact ⟨rfl, rfl, rfl, rfl⟩) (hxx : env.kindOf x = some .local := by rfl) (hd : (x == ("__debug__" : Str)) = false := by decide) :
    wpAny (Md w) A (eval (.FormattedValue (.Name x p) (-1) none pos) env) Q E s := wpAny_FormattedValue_plain (r_loc Z hx (wpAny_formatField_str (h _ _ Z) (h _ _ (Z.toks _)) hy) hk hxx hd)

/-- unique_variable(ignore=.., counter=..) -/
theorem unique_ok {c dx : Addr} {tk t : Tok} {k : Int} {ns : List Str} {iv : Value} {kw : List (Str × Value)} {Q : Value → Shared → Prop} (Z : Sit w z H ((dx, cntO w tk t k) :: mu) nw L m s) (rm : Room A 4) (hx : (c, instObj 46 dx) ∈ nw) (hi : VarsR w nw ns iv) (hz : zn (k + 1) ∉ ns) (hk : (k + 1).natAbs.log2 < 1920) (hl : (zn (k + 1)).length ≤ sizeLine) (hl' : (Str.ofString (toString (k + 1))).length ≤ sizeLine)
    (h : ∀ r t' nw' s', Le nw nw' → Sit w z H ((dx, cntO w tk t' (k + 1)) :: mu) nw' L m s' → VarR w nw' (zn (k + 1)) r → Q r s') : wpAny (Md w) A (call (.ref 138) [] [("ignore", iv), ("counter", .ref c)]) Q E s := by
  refine wpA_call (enter (d := 3) (binds := [("pattern", .none), ("ignore", iv), ("counter", .ref c)]) (rb := [("counter", .ref c), ("ignore", iv), ("pattern", .none)]) Z rm rfl (by kernel_rfl) (binds_K Z.K rfl rfl rfl rfl rfl) rfl (by decide) (locs rfl) ⟨rfl, rfl, rfl⟩ fun L' s₁ oL ns Z1 rm1 => ?_)
  refine x_seq (wpAny_If (wpAny_isTrue_Compare1 (r_loc Z1 rfl (wpAny_Constant_none (isNot_none (wpAny_truthy_bool ?_))))))
  show wpAny _ _ (execs [_] _) _ _ _
  refine x_seq (x_asg (r_str Z1 fun tp s₂ Z2 => r_store Z2 fun s₃ Z3 => wpAny_execs_nil ?_))
  refine x_seq (x_ifNone (b := false) Z3 rfl rfl (wpAny_execs_nil ?_))
  refine x_seq (x_asg (r_callN Z3 (nVariable w) (kpVariable w) (sp_cons (wpAny_JoinedStr ?_))))
  show wpAny _ _ (eval (.FormattedValue _ _ _ _) _) _ _ _
  refine r_fstr Z3 rfl (by decide) fun tq s₄ Z4 => ⟨_, _, rfl, by decide, ?_⟩
  show wpAny _ _ (eval (.FormattedValue _ _ _ _) _) _ _ _
  refine wpAny_FormattedValue_plain (MethodCall_ (r_loc Z4 rfl ?_))
  have IC : InstAt s₄.heap c (instObj 46 dx) 46 (some (cntO w tk t k)) := ⟨Z4.get hx, rfl, rfl, Z4.getM (.tail _ (.head _))⟩
  refine method_inst (name := "get") Z4.F Z4.gl.X IC (by have := (okCounter w).pg; exact this) (fCounterXget w) (isFn_of (ty43 w)) rfl (r_args0 Z4 (kp43 w) ?_)
  refine get_ok Z4.swap (rm1.le (by decide)) hx fun t' s₅ Z5 => wpAny_formatField_int hk ⟨_, _, rfl, hl, ?_⟩
  refine ⟨hl, sp_nil ?_⟩
  have Z6 := (Z5.toks (s₅.toks + 1 + 1)).toks (s₅.toks + 1 + 1 + 1)
  refine ⟨Z6.K, wpA_call (mk_var Z6 (rm1.le (by decide)) fun v nw7 s₇ le7 Z7 hv => ?_)⟩
  refine r_store Z7 fun s₈ Z8 => ?_
  have hv' : VarR w nw7 (zn (k + 1)) v := hv
  refine x_seq (wpAny_While ?_)
  refine codeAny_whileLoop (fun n s' => Sit w z H ((dx, cntO w tk t' (k + 1)) :: (L, oL) :: mu) nw7 L' _ s') (fun n s' Z9 => ?_) 0 Z8
  refine isTrue_and (wpAny_isTrue_Compare1 (r_loc Z9 rfl (wpAny_Constant_none (isNot_none (wpAny_truthy_bool ?_)))))
  obtain ⟨li, vs, ki, rfl, hli, hall⟩ := hi
  show wpAny _ _ (isTrue (.BoolOp .And [_] _) _ _) _ _ _
  refine isTrue_and (wpAny_isTrue_Compare1 (r_loc Z9 rfl (r_loc Z9 rfl (r_inVar Z9 (rm1.le (by decide)) (List.mem_append_right _ (le7 _ hli)) hv' (hall.mono fun _ _ x => x.mono le7) fun nwA sA leA ZA => wpAny_truthy_bool ?_))))
  rw [decide_eq_false hz]
  show wpAny _ _ (execs [] _) _ _ _
  refine wpAny_execs_nil ?_
  refine x_seq (wpAny_Return_some (r_loc ZA rfl ?_))
  exact h _ _ _ _ (le7.trans leA) (Z.back ns ZA.swap) (hv'.mono leA)
end
end Mine
end

section
open PySem PySem.W PySem.Spec PySem.Calls PyProof.Rows
set_option Elab.async false
set_option maxRecDepth 100000
namespace Mine
set_option linter.unusedVariables false
noncomputable def LstN (w : World) (nw : List Ent) (us : List Str) (v : Value) : Prop := (v = .none ∧ us = []) ∨ VarsR w nw us v
theorem LstN.mono {w : World} {nw nw' : List Ent} {us : List Str} {v : Value} (x : LstN w nw us v) (h : Le nw nw') : LstN w nw' us v := x.imp id fun y => y.mono h
/-- what skolemize makes of a formula without quantifiers, as it stands or denied -/
noncomputable def nf : Bool → Fm → Fm
  | true, .app f a => .app f a
  | false, .app f a => .neg (.app f a)
  | true, .neg a => nf false a
  | false, .neg a => nf true a
  | true, .and a b => .and (nf true a) (nf true b)
  | false, .and a b => cnf (nf false a) (nf false b)
  | true, .or a b => cnf (nf true a) (nf true b)
  | false, .or a b => .and (nf false a) (nf false b)
  | true, .imp a b => cnf (nf false a) (nf true b)
  | false, .imp a b => .and (nf true a) (nf false b)
  | true, .iff a b => .and (cnf (nf false a) (nf true b)) (cnf (nf true a) (nf false b))
  | false, .iff a b => .and (cnf (nf false a) (nf false b)) (cnf (nf true a) (nf true b))
  | _, .all x a => .all x a
  | _, .ex x a => .ex x a
noncomputable def qf : Fm → Bool
  | .app _ _ => true
  | .neg a => qf a
  | .and a b => qf a && qf b
  | .or a b => qf a && qf b
  | .imp a b => qf a && qf b
  | .iff a b => qf a && qf b
  | _ => false
noncomputable def hq : Fm → Nat
  | .app _ _ => 1
  | .neg a => hq a + 2
  | .and a b => hq a + hq b + 2
  | .or a b => hq a + hq b + 2
  | .imp a b => hq a + hq b + 2
  | .iff a b => hq a + hq b + 2
  | _ => 0
/-- the clauses are not too many -/
noncomputable def bdd : Fm → Prop
  | .app _ _ => True
  | .neg a => bdd a
  | .and a b => bdd a ∧ bdd b ∧ (∀ p, sA (nf p a) ≤ 40) ∧ (∀ p, sA (nf p b) ≤ 40)
  | .or a b => bdd a ∧ bdd b ∧ (∀ p, sA (nf p a) ≤ 40) ∧ (∀ p, sA (nf p b) ≤ 40)
  | .imp a b => bdd a ∧ bdd b ∧ (∀ p, sA (nf p a) ≤ 40) ∧ (∀ p, sA (nf p b) ≤ 40)
  | .iff a b => bdd a ∧ bdd b ∧ (∀ p, sA (nf p a) ≤ 40) ∧ (∀ p, sA (nf p b) ≤ 40)
  | _ => True
noncomputable def pol : Bool → Fm → Fm
  | true, f => f
  | false, f => .neg f
theorem okc_nf : ∀ {f : Fm} (p : Bool), qf f = true → okc (nf p f) = true
  | .app _ _, true, _ => rfl
  | .app _ _, false, _ => rfl
  | .neg a, true, h => okc_nf (f := a) false h
  | .neg a, false, h => okc_nf (f := a) true h
  | .and a b, true, h => by
    simp only [qf, nf, okc, Bool.and_eq_true] at h ⊢; exact ⟨okc_nf _ h.1, okc_nf _ h.2⟩
  | .and a b, false, h => by
    simp only [qf, nf, Bool.and_eq_true] at h ⊢; exact okc_cnf (okc_nf _ h.1) (okc_nf _ h.2)
  | .or a b, true, h => by
    simp only [qf, nf, Bool.and_eq_true] at h ⊢; exact okc_cnf (okc_nf _ h.1) (okc_nf _ h.2)
  | .or a b, false, h => by
    simp only [qf, nf, okc, Bool.and_eq_true] at h ⊢; exact ⟨okc_nf _ h.1, okc_nf _ h.2⟩
  | .imp a b, true, h => by
    simp only [qf, nf, Bool.and_eq_true] at h ⊢; exact okc_cnf (okc_nf _ h.1) (okc_nf _ h.2)
  | .imp a b, false, h => by
    simp only [qf, nf, okc, Bool.and_eq_true] at h ⊢; exact ⟨okc_nf _ h.1, okc_nf _ h.2⟩
  | .iff a b, true, h => by
    simp only [qf, nf, okc, Bool.and_eq_true] at h ⊢; exact ⟨okc_cnf (okc_nf _ h.1) (okc_nf _ h.2), okc_cnf (okc_nf _ h.1) (okc_nf _ h.2)⟩
  | .iff a b, false, h => by
    simp only [qf, nf, okc, Bool.and_eq_true] at h ⊢; exact ⟨okc_cnf (okc_nf _ h.1) (okc_nf _ h.2), okc_cnf (okc_nf _ h.1) (okc_nf _ h.2)⟩

/-- skolemize turns f into r and the counter from k to k' -/
noncomputable def SkOk (w : World) (z : Shared) (H : Heap) (B d : Nat) (k k' : Int) (f r : Fm) : Prop :=
  ∀ {mu nw : List Ent} {L : Addr} {m : Str → Option Value} {s : Shared} {A : Around} {E : Value → Shared → Prop} {v sv uv : Value} {c dx : Addr} {tk t : Tok} {us ud : List Str} {Q : Value → Shared → Prop},
    Room A d → Sit w z H ((dx, cntO w tk t k) :: mu) nw L m s → (c, instObj 46 dx) ∈ nw → Rep w nw f v → LstN w nw us sv → LstN w nw ud uv → us.length ≤ B → ud.length ≤ B → (∀ j, zn j ∉ ud) →
    (∀ r' t' nw' s', Le nw nw' → Sit w z H ((dx, cntO w tk t' k') :: mu) nw' L m s' → Rep w nw' r r' → Q r' s') → wpAny (Md w) A (call (.ref 1091) [v, sv, uv, .ref c]) Q E s

section
variable {w : World} {z : Shared} {H : Heap} {mu nw : List Ent} {L a : Addr} {m : Str → Option Value} {s : Shared} {A : Around} {E : Value → Shared → Prop} {B d : Nat} {env : Env}
theorem x_ifNoneList {name : Str} {v : Value} {us : List Str} {k : Nat} {p1 p2 p3 p4 p5 p6 pos : Pos} {rest : List Stmt} {Q : Flow → Shared → Prop} (Z : Sit w z H mu nw L m s) (hy : m name = some v) (hv : LstN w nw us v)
    (h : ∀ m' v' nw' s', m' name = some v' → VarsR w nw' us v' → (∀ y, y ≠ name → m' y = m y) → Le nw nw' → Sit w z H mu nw' L m' s' → wpAny (Md w) A (execs rest env) Q E s')
    (hk : EnvOk env L := by exact ⟨rfl, rfl, rfl, rfl⟩) (hx : env.kindOf name = some .local := by rfl) (hd : (name == ("__debug__" : Str)) = false := by decide)
    (hs : swapsWith (.List [] p4) (some (.Name name p3)) p5.line env = pure false := by rfl) :
    wpAny (Md w) A (execs (.If (.Compare (.Name name p1) [.Is] [.Constant .none k p2] pos) [.Assign [.Name name p3] (.List [] p4) p5] [] p6 :: rest) env) Q E s := by
  rcases hv with ⟨rfl, rfl⟩ | hv
  · refine x_seq (x_ifNone (b := true) Z hy rfl ?_ hk hx hd)
    refine x_seq (x_asg (wpAny_List (sp_nil ⟨by decide, ?_⟩)) hs)
    have Z1 := Z.alloc (W.listOf #[] 0) rfl s.toks
    refine r_store Z1 (fun s' Z' => wpAny_execs_nil ?_) hk hx
    exact h _ _ _ s' (if_pos rfl) ⟨s.heap.objs.size, [], 0, rfl, .head _, trivial⟩ (fun y hy => if_neg hy) (Le.cons _ _) Z'
  · refine x_seq (x_ifNone (b := false) Z hy ?_ (wpAny_execs_nil ?_) hk hx hd)
    · obtain ⟨l, vs, j, rfl, -⟩ := hv; rfl
    · exact h m v nw s hy hv (fun _ _ => rfl) (Le.refl _) Z

theorem sk_app {k : Int} {f g : Str} : SkOk w z H B 4 k k (.app f g) (.app f g) := by
  intro mu nw L m s A E v sv uv c dx tk t us ud Q rm Z0 hx hv hs hu ls lu hz h
  have hv0 := hv
  obtain ⟨y, p, q, t1, t2, rfl, i, hp, hq⟩ := hv
  refine wpA_call (enter (d := 3) (binds := [("expression", (.ref y)), ("univ_scope", sv), ("used_variables", uv), ("counter", .ref c)]) (rb := [("counter", .ref c), ("used_variables", uv), ("univ_scope", sv), ("expression", (.ref y))]) Z0 rm rfl (by kernel_rfl) (binds_K Z0.K rfl rfl rfl rfl rfl) rfl (by decide) (locs rfl) ⟨rfl, rfl, rfl⟩ fun L' s oL ns Z rm => ?_)
  refine x_ifNoneList Z rfl hs fun m1 sv' nw1 s e1 hs' o1 le1 Z => ?_
  refine x_ifNoneList Z (o1 _ (by decide)) (hu.mono le1) fun m2 uv' nw2 s e2 hu' o2 le2 Z => ?_
  refine x_seq (x_ifNone (b := false) Z ((o2 _ (by decide)).trans (o1 _ (by decide))) rfl (wpAny_execs_nil ?_))
  have hE : m2 "expression" = some (.ref y) := (o2 _ (by decide)).trans (o1 _ (by decide))
  have hC : m2 "counter" = some (.ref c) := (o2 _ (by decide)).trans (o1 _ (by decide))
  have hS : m2 "univ_scope" = some sv' := (o2 _ (by decide)).trans e1
  have hU : m2 "used_variables" = some uv' := e2
  have le := le1.trans le2
  have hs2 := hs'.mono le2
  have hx2 := le _ hx
  clear o1 o2 e1 e2 hs'
  have i := i.mono le
  refine x_seq (x_ifI Z hE i (okApplication w) (nAll w) (kApplicationX761 w) fun s Z => ?_)
  show wpAny _ _ (execs _ _) _ _ _
  refine x_seq (x_ifI Z hE i (okApplication w) (nAnd w) (kApplicationX914 w) fun s Z => ?_)
  show wpAny _ _ (execs _ _) _ _ _
  refine x_seq (x_ifI Z hE i (okApplication w) (nOr w) (kApplicationX954 w) fun s Z => ?_)
  show wpAny _ _ (execs _ _) _ _ _
  refine x_seq (x_ifI Z hE i (okApplication w) (nImp w) (kApplicationX987 w) fun s Z => ?_)
  show wpAny _ _ (execs _ _) _ _ _
  refine x_seq (x_ifI Z hE i (okApplication w) (nIff w) (kApplicationX1020 w) fun s Z => ?_)
  show wpAny _ _ (execs _ _) _ _ _
  refine x_seq (x_ifI Z hE i (okApplication w) (nEquality w) (kApplicationX1053 w) fun s Z => ?_)
  show wpAny _ _ (execs _ _) _ _ _
  refine x_seq (x_ifI Z hE i (okApplication w) (nNegated w) (kApplicationX815 w) fun s Z => ?_)
  show wpAny _ _ (execs _ _) _ _ _
  refine x_seq (x_ifI Z hE i (okApplication w) (nExists w) (kApplicationX728 w) fun s Z => ?_)
  show wpAny _ _ (execs _ _) _ _ _
  refine x_seq (x_ifI Z hE i (okApplication w) (nApplication w) (kApplicationX424 w) fun s Z => ?_)
  show wpAny _ _ (execs _ _) _ _ _
  exact x_seq (wpAny_Return_some (r_loc Z hE (h _ _ _ _ le (Z0.back ns Z) (hv0.mono le))))
theorem sk_negapp {k : Int} {f g : Str} : SkOk w z H B 4 k k (.neg (.app f g)) (.neg (.app f g)) := by
  intro mu nw L m s A E v sv uv c dx tk t us ud Q rm Z0 hx hv hs hu ls lu hz h
  have hv0 := hv
  obtain ⟨y, n, t0, rfl, i, y1, p, q, t1, t2, rfl, j, hp, hq⟩ := hv
  refine wpA_call (enter (d := 3) (binds := [("expression", (.ref y)), ("univ_scope", sv), ("used_variables", uv), ("counter", .ref c)]) (rb := [("counter", .ref c), ("used_variables", uv), ("univ_scope", sv), ("expression", (.ref y))]) Z0 rm rfl (by kernel_rfl) (binds_K Z0.K rfl rfl rfl rfl rfl) rfl (by decide) (locs rfl) ⟨rfl, rfl, rfl⟩ fun L' s oL ns Z rm => ?_)
  refine x_ifNoneList Z rfl hs fun m1 sv' nw1 s e1 hs' o1 le1 Z => ?_
  refine x_ifNoneList Z (o1 _ (by decide)) (hu.mono le1) fun m2 uv' nw2 s e2 hu' o2 le2 Z => ?_
  refine x_seq (x_ifNone (b := false) Z ((o2 _ (by decide)).trans (o1 _ (by decide))) rfl (wpAny_execs_nil ?_))
  have hE : m2 "expression" = some (.ref y) := (o2 _ (by decide)).trans (o1 _ (by decide))
  have hC : m2 "counter" = some (.ref c) := (o2 _ (by decide)).trans (o1 _ (by decide))
  have hS : m2 "univ_scope" = some sv' := (o2 _ (by decide)).trans e1
  have hU : m2 "used_variables" = some uv' := e2
  have le := le1.trans le2
  have hs2 := hs'.mono le2
  have hx2 := le _ hx
  clear o1 o2 e1 e2 hs'
  have i := i.mono le
  have j := j.mono le
  refine x_seq (x_ifI Z hE i (okNegated w) (nAll w) (kNegatedX761 w) fun s Z => ?_)
  show wpAny _ _ (execs _ _) _ _ _
  refine x_seq (x_ifI Z hE i (okNegated w) (nAnd w) (kNegatedX914 w) fun s Z => ?_)
  show wpAny _ _ (execs _ _) _ _ _
  refine x_seq (x_ifI Z hE i (okNegated w) (nOr w) (kNegatedX954 w) fun s Z => ?_)
  show wpAny _ _ (execs _ _) _ _ _
  refine x_seq (x_ifI Z hE i (okNegated w) (nImp w) (kNegatedX987 w) fun s Z => ?_)
  show wpAny _ _ (execs _ _) _ _ _
  refine x_seq (x_ifI Z hE i (okNegated w) (nIff w) (kNegatedX1020 w) fun s Z => ?_)
  show wpAny _ _ (execs _ _) _ _ _
  refine x_seq (x_ifI Z hE i (okNegated w) (nEquality w) (kNegatedX1053 w) fun s Z => ?_)
  show wpAny _ _ (execs _ _) _ _ _
  refine x_seq (x_ifI Z hE i (okNegated w) (nNegated w) (kNegatedX815 w) fun s Z => ?_)
  show wpAny _ _ (execs _ _) _ _ _
  refine x_seq (x_asg (r_nattr Z hE i (okNegated w) (fNegatedXterm w) rfl rfl fun s Z => r_store Z fun s Z => ?_))
  refine x_seq (x_ifI Z rfl j (okApplication w) (nAll w) (kApplicationX761 w) fun s Z => ?_)
  show wpAny _ _ (execs _ _) _ _ _
  refine x_seq (x_ifI Z rfl j (okApplication w) (nAnd w) (kApplicationX914 w) fun s Z => ?_)
  show wpAny _ _ (execs _ _) _ _ _
  refine x_seq (x_ifI Z rfl j (okApplication w) (nOr w) (kApplicationX954 w) fun s Z => ?_)
  show wpAny _ _ (execs _ _) _ _ _
  refine x_seq (x_ifI Z rfl j (okApplication w) (nImp w) (kApplicationX987 w) fun s Z => ?_)
  show wpAny _ _ (execs _ _) _ _ _
  refine x_seq (x_ifI Z rfl j (okApplication w) (nIff w) (kApplicationX1020 w) fun s Z => ?_)
  show wpAny _ _ (execs _ _) _ _ _
  refine x_seq (x_ifI Z rfl j (okApplication w) (nEquality w) (kApplicationX1053 w) fun s Z => ?_)
  show wpAny _ _ (execs _ _) _ _ _
  refine x_seq (x_ifI Z rfl j (okApplication w) (nNegated w) (kApplicationX815 w) fun s Z => ?_)
  show wpAny _ _ (execs _ _) _ _ _
  refine x_seq (x_ifI Z rfl j (okApplication w) (nExists w) (kApplicationX728 w) fun s Z => ?_)
  show wpAny _ _ (execs _ _) _ _ _
  refine x_seq (x_ifI Z rfl j (okApplication w) (nApplication w) (kApplicationX424 w) fun s Z => ?_)
  show wpAny _ _ (execs _ _) _ _ _
  exact x_seq (wpAny_Return_some (r_loc Z (upd_ne hE) (h _ _ _ _ le (Z0.back ns Z) (hv0.mono le))))
theorem SkOk.le {B d d' : Nat} {k k' : Int} {f r : Fm} (x : SkOk w z H B d k k' f r) (h : d ≤ d') : SkOk w z H B d' k k' f r :=
  fun rm Z hx hv hs hu ls lu hz hQ => x (rm.le h) Z hx hv hs hu ls lu hz hQ
theorem le_mem {nw nw' : List Ent} {p : Ent} (h : Le nw nw') (x : p ∈ nw) : p ∈ nw' := h p x
theorem sk_and {k : Int} {a b : Fm} (Ha : ∀ p, SkOk w z H B d k k (pol p a) (nf p a)) (Hb : ∀ p, SkOk w z H B d k k (pol p b) (nf p b)) (qa : qf a = true) (qb : qf b = true) (ba : ∀ p, sA (nf p a) ≤ 40) (bb : ∀ p, sA (nf p b) ≤ 40) (hd : 85 ≤ d) : SkOk w z H B (d + 1) k k (.and a b) (nf true (.and a b)) := by
  intro mu nw L m s A E v sv uv c dx tk t us ud Q rm Z0 hx hv hs hu ls lu hz h
  obtain ⟨y, pa, pb, t1, t2, rfl, i, ra, rb⟩ := hv
  obtain ⟨ya, rfl⟩ := rep_ref ra
  obtain ⟨yb, rfl⟩ := rep_ref rb
  refine wpA_call (enter (d := d) (binds := [("expression", (.ref y)), ("univ_scope", sv), ("used_variables", uv), ("counter", .ref c)]) (rb := [("counter", .ref c), ("used_variables", uv), ("univ_scope", sv), ("expression", (.ref y))]) Z0 rm rfl (by kernel_rfl) (binds_K Z0.K rfl rfl rfl rfl rfl) rfl (by decide) (locs rfl) ⟨rfl, rfl, rfl⟩ fun L' s oL ns Z rm => ?_)
  refine x_ifNoneList Z rfl hs fun m1 sv' nw1 s e1 hs' o1 le1 Z => ?_
  refine x_ifNoneList Z (o1 _ (by decide)) (hu.mono le1) fun m2 uv' nw2 s e2 hu' o2 le2 Z => ?_
  refine x_seq (x_ifNone (b := false) Z ((o2 _ (by decide)).trans (o1 _ (by decide))) rfl (wpAny_execs_nil ?_))
  have hE : m2 "expression" = some (.ref y) := (o2 _ (by decide)).trans (o1 _ (by decide))
  have hC : m2 "counter" = some (.ref c) := (o2 _ (by decide)).trans (o1 _ (by decide))
  have hS : m2 "univ_scope" = some sv' := (o2 _ (by decide)).trans e1
  have hU : m2 "used_variables" = some uv' := e2
  have le := le1.trans le2
  have hs2 := hs'.mono le2
  have hx2 := le _ hx
  clear o1 o2 e1 e2 hs'
  have i := i.mono le
  have ra := ra.mono le
  have rb := rb.mono le
  refine x_seq (x_ifI Z hE i (okAnd w) (nAll w) (kAndX761 w) fun s Z => ?_)
  show wpAny _ _ (execs _ _) _ _ _
  refine x_seq (x_ifI Z hE i (okAnd w) (nAnd w) (kAndX914 w) fun s Z => ?_)
  show wpAny _ _ (execs _ _) _ _ _
  refine x_seq (wpAny_Return_some ?_)
  refine wpAny_BinOp ?_
  refine r_callN Z (n1091 w) (kp1091 w) (sp_cons (r_nattr Z hE i (okAnd w) (fAndXfirst w) rfl rfl fun s Z => ?_))
  refine sp_cons (r_loc Z hS (sp_cons (r_loc Z hU (sp_cons (r_loc Z hC (sp_nil ⟨Z.K, ?_⟩))))))
  refine (Ha true) rm Z.swap hx2 ra (.inr hs2) (.inr hu') ls lu hz fun vr1 tc nwc s lec Z r1 => ?_
  have Z := Z.swap
  have i := i.mono lec
  have ra := ra.mono lec
  have rb := rb.mono lec
  have hs2 := hs2.mono lec
  have hu' := hu'.mono lec
  have hx2 := le_mem lec hx2
  have le := le.trans lec
  refine r_callN Z (n1091 w) (kp1091 w) (sp_cons (r_nattr Z hE i (okAnd w) (fAndXsecond w) rfl rfl fun s Z => ?_))
  refine sp_cons (r_loc Z hS (sp_cons (r_loc Z hU (sp_cons (r_loc Z hC (sp_nil ⟨Z.K, ?_⟩))))))
  refine (Hb true) rm Z.swap hx2 rb (.inr hs2) (.inr hu') ls lu hz fun vr2 tc nwc s lec Z r2 => ?_
  have Z := Z.swap
  have i := i.mono lec
  have ra := ra.mono lec
  have rb := rb.mono lec
  have hs2 := hs2.mono lec
  have hu' := hu'.mono lec
  have hx2 := le_mem lec hx2
  have r1 := r1.mono lec
  have le := le.trans lec
  obtain ⟨C1, k1⟩ := okc_four (okc_nf true qa)
  obtain ⟨C2, k2⟩ := okc_four (okc_nf true qb)
  refine r_and Z (rm.le (by omega)) r1 r2 k1 k2 fun vc3 nwc s lec Z c3 => ?_
  have i := i.mono lec
  have ra := ra.mono lec
  have rb := rb.mono lec
  have hs2 := hs2.mono lec
  have hu' := hu'.mono lec
  have hx2 := le_mem lec hx2
  have r1 := r1.mono lec
  have r2 := r2.mono lec
  have le := le.trans lec
  exact h _ _ _ _ le (Z0.back ns Z) c3
theorem sk_notand {k : Int} {a b : Fm} (Ha : ∀ p, SkOk w z H B d k k (pol p a) (nf p a)) (Hb : ∀ p, SkOk w z H B d k k (pol p b) (nf p b)) (qa : qf a = true) (qb : qf b = true) (ba : ∀ p, sA (nf p a) ≤ 40) (bb : ∀ p, sA (nf p b) ≤ 40) (hd : 85 ≤ d) : SkOk w z H B (d + 1) k k (.neg (.and a b)) (nf false (.and a b)) := by
  intro mu nw L m s A E v sv uv c dx tk t us ud Q rm Z0 hx hv hs hu ls lu hz h
  obtain ⟨y0, n, t0, rfl, i0, y, pa, pb, t1, t2, rfl, i, ra, rb⟩ := hv
  obtain ⟨ya, rfl⟩ := rep_ref ra
  obtain ⟨yb, rfl⟩ := rep_ref rb
  refine wpA_call (enter (d := d) (binds := [("expression", (.ref y0)), ("univ_scope", sv), ("used_variables", uv), ("counter", .ref c)]) (rb := [("counter", .ref c), ("used_variables", uv), ("univ_scope", sv), ("expression", (.ref y0))]) Z0 rm rfl (by kernel_rfl) (binds_K Z0.K rfl rfl rfl rfl rfl) rfl (by decide) (locs rfl) ⟨rfl, rfl, rfl⟩ fun L' s oL ns Z rm => ?_)
  refine x_ifNoneList Z rfl hs fun m1 sv' nw1 s e1 hs' o1 le1 Z => ?_
  refine x_ifNoneList Z (o1 _ (by decide)) (hu.mono le1) fun m2 uv' nw2 s e2 hu' o2 le2 Z => ?_
  refine x_seq (x_ifNone (b := false) Z ((o2 _ (by decide)).trans (o1 _ (by decide))) rfl (wpAny_execs_nil ?_))
  have hE : m2 "expression" = some (.ref y0) := (o2 _ (by decide)).trans (o1 _ (by decide))
  have hC : m2 "counter" = some (.ref c) := (o2 _ (by decide)).trans (o1 _ (by decide))
  have hS : m2 "univ_scope" = some sv' := (o2 _ (by decide)).trans e1
  have hU : m2 "used_variables" = some uv' := e2
  have le := le1.trans le2
  have hs2 := hs'.mono le2
  have hx2 := le _ hx
  clear o1 o2 e1 e2 hs'
  have i0 := i0.mono le
  have i := i.mono le
  have ra := ra.mono le
  have rb := rb.mono le
  refine x_seq (x_ifI Z hE i0 (okNegated w) (nAll w) (kNegatedX761 w) fun s Z => ?_)
  show wpAny _ _ (execs _ _) _ _ _
  refine x_seq (x_ifI Z hE i0 (okNegated w) (nAnd w) (kNegatedX914 w) fun s Z => ?_)
  show wpAny _ _ (execs _ _) _ _ _
  refine x_seq (x_ifI Z hE i0 (okNegated w) (nOr w) (kNegatedX954 w) fun s Z => ?_)
  show wpAny _ _ (execs _ _) _ _ _
  refine x_seq (x_ifI Z hE i0 (okNegated w) (nImp w) (kNegatedX987 w) fun s Z => ?_)
  show wpAny _ _ (execs _ _) _ _ _
  refine x_seq (x_ifI Z hE i0 (okNegated w) (nIff w) (kNegatedX1020 w) fun s Z => ?_)
  show wpAny _ _ (execs _ _) _ _ _
  refine x_seq (x_ifI Z hE i0 (okNegated w) (nEquality w) (kNegatedX1053 w) fun s Z => ?_)
  show wpAny _ _ (execs _ _) _ _ _
  refine x_seq (x_ifI Z hE i0 (okNegated w) (nNegated w) (kNegatedX815 w) fun s Z => ?_)
  show wpAny _ _ (execs _ _) _ _ _
  refine x_seq (x_asg (r_nattr Z hE i0 (okNegated w) (fNegatedXterm w) rfl rfl fun s Z => r_store Z fun s Z => ?_))
  refine x_seq (x_ifI Z rfl i (okAnd w) (nAll w) (kAndX761 w) fun s Z => ?_)
  show wpAny _ _ (execs _ _) _ _ _
  refine x_seq (x_ifI Z rfl i (okAnd w) (nAnd w) (kAndX914 w) fun s Z => ?_)
  show wpAny _ _ (execs _ _) _ _ _
  refine x_seq (wpAny_Return_some ?_)
  refine r_callN Z (n1098 w) (kp1098 w) (sp_cons ?_)
  refine r_callN Z (n1091 w) (kp1091 w) (sp_cons (wpAny_UnaryOp (r_nattr Z rfl i (okAnd w) (fAndXfirst w) rfl rfl fun s Z => r_neg Z (rm.le (by omega)) ra fun vn nwn s len Z rn => ?_)))
  have i := i.mono len
  have ra := ra.mono len
  have rb := rb.mono len
  have hs2 := hs2.mono len
  have hu' := hu'.mono len
  have hx2 := le_mem len hx2
  have le := le.trans len
  refine sp_cons (r_loc Z (upd_ne hS) (sp_cons (r_loc Z (upd_ne hU) (sp_cons (r_loc Z (upd_ne hC) (sp_nil ⟨Z.K, ?_⟩))))))
  refine (Ha false) rm Z.swap hx2 rn (.inr hs2) (.inr hu') ls lu hz fun vr1 tc nwc s lec Z r1 => ?_
  have Z := Z.swap
  have i := i.mono lec
  have ra := ra.mono lec
  have rb := rb.mono lec
  have hs2 := hs2.mono lec
  have hu' := hu'.mono lec
  have hx2 := le_mem lec hx2
  have le := le.trans lec
  refine sp_cons ?_
  refine r_callN Z (n1091 w) (kp1091 w) (sp_cons (wpAny_UnaryOp (r_nattr Z rfl i (okAnd w) (fAndXsecond w) rfl rfl fun s Z => r_neg Z (rm.le (by omega)) rb fun vn nwn s len Z rn => ?_)))
  have i := i.mono len
  have ra := ra.mono len
  have rb := rb.mono len
  have hs2 := hs2.mono len
  have hu' := hu'.mono len
  have hx2 := le_mem len hx2
  have r1 := r1.mono len
  have le := le.trans len
  refine sp_cons (r_loc Z (upd_ne hS) (sp_cons (r_loc Z (upd_ne hU) (sp_cons (r_loc Z (upd_ne hC) (sp_nil ⟨Z.K, ?_⟩))))))
  refine (Hb false) rm Z.swap hx2 rn (.inr hs2) (.inr hu') ls lu hz fun vr2 tc nwc s lec Z r2 => ?_
  have Z := Z.swap
  have i := i.mono lec
  have ra := ra.mono lec
  have rb := rb.mono lec
  have hs2 := hs2.mono lec
  have hu' := hu'.mono lec
  have hx2 := le_mem lec hx2
  have r1 := r1.mono lec
  have le := le.trans lec
  refine sp_nil ⟨Z.K, ?_⟩
  refine to_cnf_ok w z H 81 _ _ (Nat.lt_succ_of_le (Nat.add_le_add (ba false) (bb false))) (okc_nf false qa) (okc_nf false qb) Z (rm.le (by omega)) r1 r2 fun vc3 nwc s lec Z c3 => ?_
  have i := i.mono lec
  have ra := ra.mono lec
  have rb := rb.mono lec
  have hs2 := hs2.mono lec
  have hu' := hu'.mono lec
  have hx2 := le_mem lec hx2
  have r1 := r1.mono lec
  have r2 := r2.mono lec
  have le := le.trans lec
  exact h _ _ _ _ le (Z0.back ns Z) c3
theorem sk_or {k : Int} {a b : Fm} (Ha : ∀ p, SkOk w z H B d k k (pol p a) (nf p a)) (Hb : ∀ p, SkOk w z H B d k k (pol p b) (nf p b)) (qa : qf a = true) (qb : qf b = true) (ba : ∀ p, sA (nf p a) ≤ 40) (bb : ∀ p, sA (nf p b) ≤ 40) (hd : 85 ≤ d) : SkOk w z H B (d + 1) k k (.or a b) (nf true (.or a b)) := by
  intro mu nw L m s A E v sv uv c dx tk t us ud Q rm Z0 hx hv hs hu ls lu hz h
  obtain ⟨y, pa, pb, t1, t2, rfl, i, ra, rb⟩ := hv
  obtain ⟨ya, rfl⟩ := rep_ref ra
  obtain ⟨yb, rfl⟩ := rep_ref rb
  refine wpA_call (enter (d := d) (binds := [("expression", (.ref y)), ("univ_scope", sv), ("used_variables", uv), ("counter", .ref c)]) (rb := [("counter", .ref c), ("used_variables", uv), ("univ_scope", sv), ("expression", (.ref y))]) Z0 rm rfl (by kernel_rfl) (binds_K Z0.K rfl rfl rfl rfl rfl) rfl (by decide) (locs rfl) ⟨rfl, rfl, rfl⟩ fun L' s oL ns Z rm => ?_)
  refine x_ifNoneList Z rfl hs fun m1 sv' nw1 s e1 hs' o1 le1 Z => ?_
  refine x_ifNoneList Z (o1 _ (by decide)) (hu.mono le1) fun m2 uv' nw2 s e2 hu' o2 le2 Z => ?_
  refine x_seq (x_ifNone (b := false) Z ((o2 _ (by decide)).trans (o1 _ (by decide))) rfl (wpAny_execs_nil ?_))
  have hE : m2 "expression" = some (.ref y) := (o2 _ (by decide)).trans (o1 _ (by decide))
  have hC : m2 "counter" = some (.ref c) := (o2 _ (by decide)).trans (o1 _ (by decide))
  have hS : m2 "univ_scope" = some sv' := (o2 _ (by decide)).trans e1
  have hU : m2 "used_variables" = some uv' := e2
  have le := le1.trans le2
  have hs2 := hs'.mono le2
  have hx2 := le _ hx
  clear o1 o2 e1 e2 hs'
  have i := i.mono le
  have ra := ra.mono le
  have rb := rb.mono le
  refine x_seq (x_ifI Z hE i (okOr w) (nAll w) (kOrX761 w) fun s Z => ?_)
  show wpAny _ _ (execs _ _) _ _ _
  refine x_seq (x_ifI Z hE i (okOr w) (nAnd w) (kOrX914 w) fun s Z => ?_)
  show wpAny _ _ (execs _ _) _ _ _
  refine x_seq (x_ifI Z hE i (okOr w) (nOr w) (kOrX954 w) fun s Z => ?_)
  show wpAny _ _ (execs _ _) _ _ _
  refine x_seq (wpAny_Return_some ?_)
  refine r_callN Z (n1098 w) (kp1098 w) (sp_cons ?_)
  refine r_callN Z (n1091 w) (kp1091 w) (sp_cons (r_nattr Z hE i (okOr w) (fOrXfirst w) rfl rfl fun s Z => ?_))
  refine sp_cons (r_loc Z hS (sp_cons (r_loc Z hU (sp_cons (r_loc Z hC (sp_nil ⟨Z.K, ?_⟩))))))
  refine (Ha true) rm Z.swap hx2 ra (.inr hs2) (.inr hu') ls lu hz fun vr1 tc nwc s lec Z r1 => ?_
  have Z := Z.swap
  have i := i.mono lec
  have ra := ra.mono lec
  have rb := rb.mono lec
  have hs2 := hs2.mono lec
  have hu' := hu'.mono lec
  have hx2 := le_mem lec hx2
  have le := le.trans lec
  refine sp_cons ?_
  refine r_callN Z (n1091 w) (kp1091 w) (sp_cons (r_nattr Z hE i (okOr w) (fOrXsecond w) rfl rfl fun s Z => ?_))
  refine sp_cons (r_loc Z hS (sp_cons (r_loc Z hU (sp_cons (r_loc Z hC (sp_nil ⟨Z.K, ?_⟩))))))
  refine (Hb true) rm Z.swap hx2 rb (.inr hs2) (.inr hu') ls lu hz fun vr2 tc nwc s lec Z r2 => ?_
  have Z := Z.swap
  have i := i.mono lec
  have ra := ra.mono lec
  have rb := rb.mono lec
  have hs2 := hs2.mono lec
  have hu' := hu'.mono lec
  have hx2 := le_mem lec hx2
  have r1 := r1.mono lec
  have le := le.trans lec
  refine sp_nil ⟨Z.K, ?_⟩
  refine to_cnf_ok w z H 81 _ _ (Nat.lt_succ_of_le (Nat.add_le_add (ba true) (bb true))) (okc_nf true qa) (okc_nf true qb) Z (rm.le (by omega)) r1 r2 fun vc3 nwc s lec Z c3 => ?_
  have i := i.mono lec
  have ra := ra.mono lec
  have rb := rb.mono lec
  have hs2 := hs2.mono lec
  have hu' := hu'.mono lec
  have hx2 := le_mem lec hx2
  have r1 := r1.mono lec
  have r2 := r2.mono lec
  have le := le.trans lec
  exact h _ _ _ _ le (Z0.back ns Z) c3
theorem sk_notor {k : Int} {a b : Fm} (Ha : ∀ p, SkOk w z H B d k k (pol p a) (nf p a)) (Hb : ∀ p, SkOk w z H B d k k (pol p b) (nf p b)) (qa : qf a = true) (qb : qf b = true) (ba : ∀ p, sA (nf p a) ≤ 40) (bb : ∀ p, sA (nf p b) ≤ 40) (hd : 85 ≤ d) : SkOk w z H B (d + 1) k k (.neg (.or a b)) (nf false (.or a b)) := by
  intro mu nw L m s A E v sv uv c dx tk t us ud Q rm Z0 hx hv hs hu ls lu hz h
  obtain ⟨y0, n, t0, rfl, i0, y, pa, pb, t1, t2, rfl, i, ra, rb⟩ := hv
  obtain ⟨ya, rfl⟩ := rep_ref ra
  obtain ⟨yb, rfl⟩ := rep_ref rb
  refine wpA_call (enter (d := d) (binds := [("expression", (.ref y0)), ("univ_scope", sv), ("used_variables", uv), ("counter", .ref c)]) (rb := [("counter", .ref c), ("used_variables", uv), ("univ_scope", sv), ("expression", (.ref y0))]) Z0 rm rfl (by kernel_rfl) (binds_K Z0.K rfl rfl rfl rfl rfl) rfl (by decide) (locs rfl) ⟨rfl, rfl, rfl⟩ fun L' s oL ns Z rm => ?_)
  refine x_ifNoneList Z rfl hs fun m1 sv' nw1 s e1 hs' o1 le1 Z => ?_
  refine x_ifNoneList Z (o1 _ (by decide)) (hu.mono le1) fun m2 uv' nw2 s e2 hu' o2 le2 Z => ?_
  refine x_seq (x_ifNone (b := false) Z ((o2 _ (by decide)).trans (o1 _ (by decide))) rfl (wpAny_execs_nil ?_))
  have hE : m2 "expression" = some (.ref y0) := (o2 _ (by decide)).trans (o1 _ (by decide))
  have hC : m2 "counter" = some (.ref c) := (o2 _ (by decide)).trans (o1 _ (by decide))
  have hS : m2 "univ_scope" = some sv' := (o2 _ (by decide)).trans e1
  have hU : m2 "used_variables" = some uv' := e2
  have le := le1.trans le2
  have hs2 := hs'.mono le2
  have hx2 := le _ hx
  clear o1 o2 e1 e2 hs'
  have i0 := i0.mono le
  have i := i.mono le
  have ra := ra.mono le
  have rb := rb.mono le
  refine x_seq (x_ifI Z hE i0 (okNegated w) (nAll w) (kNegatedX761 w) fun s Z => ?_)
  show wpAny _ _ (execs _ _) _ _ _
  refine x_seq (x_ifI Z hE i0 (okNegated w) (nAnd w) (kNegatedX914 w) fun s Z => ?_)
  show wpAny _ _ (execs _ _) _ _ _
  refine x_seq (x_ifI Z hE i0 (okNegated w) (nOr w) (kNegatedX954 w) fun s Z => ?_)
  show wpAny _ _ (execs _ _) _ _ _
  refine x_seq (x_ifI Z hE i0 (okNegated w) (nImp w) (kNegatedX987 w) fun s Z => ?_)
  show wpAny _ _ (execs _ _) _ _ _
  refine x_seq (x_ifI Z hE i0 (okNegated w) (nIff w) (kNegatedX1020 w) fun s Z => ?_)
  show wpAny _ _ (execs _ _) _ _ _
  refine x_seq (x_ifI Z hE i0 (okNegated w) (nEquality w) (kNegatedX1053 w) fun s Z => ?_)
  show wpAny _ _ (execs _ _) _ _ _
  refine x_seq (x_ifI Z hE i0 (okNegated w) (nNegated w) (kNegatedX815 w) fun s Z => ?_)
  show wpAny _ _ (execs _ _) _ _ _
  refine x_seq (x_asg (r_nattr Z hE i0 (okNegated w) (fNegatedXterm w) rfl rfl fun s Z => r_store Z fun s Z => ?_))
  refine x_seq (x_ifI Z rfl i (okOr w) (nAll w) (kOrX761 w) fun s Z => ?_)
  show wpAny _ _ (execs _ _) _ _ _
  refine x_seq (x_ifI Z rfl i (okOr w) (nAnd w) (kOrX914 w) fun s Z => ?_)
  show wpAny _ _ (execs _ _) _ _ _
  refine x_seq (x_ifI Z rfl i (okOr w) (nOr w) (kOrX954 w) fun s Z => ?_)
  show wpAny _ _ (execs _ _) _ _ _
  refine x_seq (wpAny_Return_some ?_)
  refine wpAny_BinOp ?_
  refine r_callN Z (n1091 w) (kp1091 w) (sp_cons (wpAny_UnaryOp (r_nattr Z rfl i (okOr w) (fOrXfirst w) rfl rfl fun s Z => r_neg Z (rm.le (by omega)) ra fun vn nwn s len Z rn => ?_)))
  have i := i.mono len
  have ra := ra.mono len
  have rb := rb.mono len
  have hs2 := hs2.mono len
  have hu' := hu'.mono len
  have hx2 := le_mem len hx2
  have le := le.trans len
  refine sp_cons (r_loc Z (upd_ne hS) (sp_cons (r_loc Z (upd_ne hU) (sp_cons (r_loc Z (upd_ne hC) (sp_nil ⟨Z.K, ?_⟩))))))
  refine (Ha false) rm Z.swap hx2 rn (.inr hs2) (.inr hu') ls lu hz fun vr1 tc nwc s lec Z r1 => ?_
  have Z := Z.swap
  have i := i.mono lec
  have ra := ra.mono lec
  have rb := rb.mono lec
  have hs2 := hs2.mono lec
  have hu' := hu'.mono lec
  have hx2 := le_mem lec hx2
  have le := le.trans lec
  refine r_callN Z (n1091 w) (kp1091 w) (sp_cons (wpAny_UnaryOp (r_nattr Z rfl i (okOr w) (fOrXsecond w) rfl rfl fun s Z => r_neg Z (rm.le (by omega)) rb fun vn nwn s len Z rn => ?_)))
  have i := i.mono len
  have ra := ra.mono len
  have rb := rb.mono len
  have hs2 := hs2.mono len
  have hu' := hu'.mono len
  have hx2 := le_mem len hx2
  have r1 := r1.mono len
  have le := le.trans len
  refine sp_cons (r_loc Z (upd_ne hS) (sp_cons (r_loc Z (upd_ne hU) (sp_cons (r_loc Z (upd_ne hC) (sp_nil ⟨Z.K, ?_⟩))))))
  refine (Hb false) rm Z.swap hx2 rn (.inr hs2) (.inr hu') ls lu hz fun vr2 tc nwc s lec Z r2 => ?_
  have Z := Z.swap
  have i := i.mono lec
  have ra := ra.mono lec
  have rb := rb.mono lec
  have hs2 := hs2.mono lec
  have hu' := hu'.mono lec
  have hx2 := le_mem lec hx2
  have r1 := r1.mono lec
  have le := le.trans lec
  obtain ⟨C1, k1⟩ := okc_four (okc_nf false qa)
  obtain ⟨C2, k2⟩ := okc_four (okc_nf false qb)
  refine r_and Z (rm.le (by omega)) r1 r2 k1 k2 fun vc3 nwc s lec Z c3 => ?_
  have i := i.mono lec
  have ra := ra.mono lec
  have rb := rb.mono lec
  have hs2 := hs2.mono lec
  have hu' := hu'.mono lec
  have hx2 := le_mem lec hx2
  have r1 := r1.mono lec
  have r2 := r2.mono lec
  have le := le.trans lec
  exact h _ _ _ _ le (Z0.back ns Z) c3
theorem sk_imp {k : Int} {a b : Fm} (Ha : ∀ p, SkOk w z H B d k k (pol p a) (nf p a)) (Hb : ∀ p, SkOk w z H B d k k (pol p b) (nf p b)) (qa : qf a = true) (qb : qf b = true) (ba : ∀ p, sA (nf p a) ≤ 40) (bb : ∀ p, sA (nf p b) ≤ 40) (hd : 85 ≤ d) : SkOk w z H B (d + 1) k k (.imp a b) (nf true (.imp a b)) := by
  intro mu nw L m s A E v sv uv c dx tk t us ud Q rm Z0 hx hv hs hu ls lu hz h
  obtain ⟨y, pa, pb, t1, t2, rfl, i, ra, rb⟩ := hv
  obtain ⟨ya, rfl⟩ := rep_ref ra
  obtain ⟨yb, rfl⟩ := rep_ref rb
  refine wpA_call (enter (d := d) (binds := [("expression", (.ref y)), ("univ_scope", sv), ("used_variables", uv), ("counter", .ref c)]) (rb := [("counter", .ref c), ("used_variables", uv), ("univ_scope", sv), ("expression", (.ref y))]) Z0 rm rfl (by kernel_rfl) (binds_K Z0.K rfl rfl rfl rfl rfl) rfl (by decide) (locs rfl) ⟨rfl, rfl, rfl⟩ fun L' s oL ns Z rm => ?_)
  refine x_ifNoneList Z rfl hs fun m1 sv' nw1 s e1 hs' o1 le1 Z => ?_
  refine x_ifNoneList Z (o1 _ (by decide)) (hu.mono le1) fun m2 uv' nw2 s e2 hu' o2 le2 Z => ?_
  refine x_seq (x_ifNone (b := false) Z ((o2 _ (by decide)).trans (o1 _ (by decide))) rfl (wpAny_execs_nil ?_))
  have hE : m2 "expression" = some (.ref y) := (o2 _ (by decide)).trans (o1 _ (by decide))
  have hC : m2 "counter" = some (.ref c) := (o2 _ (by decide)).trans (o1 _ (by decide))
  have hS : m2 "univ_scope" = some sv' := (o2 _ (by decide)).trans e1
  have hU : m2 "used_variables" = some uv' := e2
  have le := le1.trans le2
  have hs2 := hs'.mono le2
  have hx2 := le _ hx
  clear o1 o2 e1 e2 hs'
  have i := i.mono le
  have ra := ra.mono le
  have rb := rb.mono le
  refine x_seq (x_ifI Z hE i (okImp w) (nAll w) (kImpX761 w) fun s Z => ?_)
  show wpAny _ _ (execs _ _) _ _ _
  refine x_seq (x_ifI Z hE i (okImp w) (nAnd w) (kImpX914 w) fun s Z => ?_)
  show wpAny _ _ (execs _ _) _ _ _
  refine x_seq (x_ifI Z hE i (okImp w) (nOr w) (kImpX954 w) fun s Z => ?_)
  show wpAny _ _ (execs _ _) _ _ _
  refine x_seq (x_ifI Z hE i (okImp w) (nImp w) (kImpX987 w) fun s Z => ?_)
  show wpAny _ _ (execs _ _) _ _ _
  refine x_seq (wpAny_Return_some ?_)
  refine r_callN Z (n1098 w) (kp1098 w) (sp_cons ?_)
  refine r_callN Z (n1091 w) (kp1091 w) (sp_cons (wpAny_UnaryOp (r_nattr Z hE i (okImp w) (fImpXfirst w) rfl rfl fun s Z => r_neg Z (rm.le (by omega)) ra fun vn nwn s len Z rn => ?_)))
  have i := i.mono len
  have ra := ra.mono len
  have rb := rb.mono len
  have hs2 := hs2.mono len
  have hu' := hu'.mono len
  have hx2 := le_mem len hx2
  have le := le.trans len
  refine sp_cons (r_loc Z hS (sp_cons (r_loc Z hU (sp_cons (r_loc Z hC (sp_nil ⟨Z.K, ?_⟩))))))
  refine (Ha false) rm Z.swap hx2 rn (.inr hs2) (.inr hu') ls lu hz fun vr1 tc nwc s lec Z r1 => ?_
  have Z := Z.swap
  have i := i.mono lec
  have ra := ra.mono lec
  have rb := rb.mono lec
  have hs2 := hs2.mono lec
  have hu' := hu'.mono lec
  have hx2 := le_mem lec hx2
  have le := le.trans lec
  refine sp_cons ?_
  refine r_callN Z (n1091 w) (kp1091 w) (sp_cons (r_nattr Z hE i (okImp w) (fImpXsecond w) rfl rfl fun s Z => ?_))
  refine sp_cons (r_loc Z hS (sp_cons (r_loc Z hU (sp_cons (r_loc Z hC (sp_nil ⟨Z.K, ?_⟩))))))
  refine (Hb true) rm Z.swap hx2 rb (.inr hs2) (.inr hu') ls lu hz fun vr2 tc nwc s lec Z r2 => ?_
  have Z := Z.swap
  have i := i.mono lec
  have ra := ra.mono lec
  have rb := rb.mono lec
  have hs2 := hs2.mono lec
  have hu' := hu'.mono lec
  have hx2 := le_mem lec hx2
  have r1 := r1.mono lec
  have le := le.trans lec
  refine sp_nil ⟨Z.K, ?_⟩
  refine to_cnf_ok w z H 81 _ _ (Nat.lt_succ_of_le (Nat.add_le_add (ba false) (bb true))) (okc_nf false qa) (okc_nf true qb) Z (rm.le (by omega)) r1 r2 fun vc3 nwc s lec Z c3 => ?_
  have i := i.mono lec
  have ra := ra.mono lec
  have rb := rb.mono lec
  have hs2 := hs2.mono lec
  have hu' := hu'.mono lec
  have hx2 := le_mem lec hx2
  have r1 := r1.mono lec
  have r2 := r2.mono lec
  have le := le.trans lec
  exact h _ _ _ _ le (Z0.back ns Z) c3
theorem sk_notimp {k : Int} {a b : Fm} (Ha : ∀ p, SkOk w z H B d k k (pol p a) (nf p a)) (Hb : ∀ p, SkOk w z H B d k k (pol p b) (nf p b)) (qa : qf a = true) (qb : qf b = true) (ba : ∀ p, sA (nf p a) ≤ 40) (bb : ∀ p, sA (nf p b) ≤ 40) (hd : 85 ≤ d) : SkOk w z H B (d + 1) k k (.neg (.imp a b)) (nf false (.imp a b)) := by
  intro mu nw L m s A E v sv uv c dx tk t us ud Q rm Z0 hx hv hs hu ls lu hz h
  obtain ⟨y0, n, t0, rfl, i0, y, pa, pb, t1, t2, rfl, i, ra, rb⟩ := hv
  obtain ⟨ya, rfl⟩ := rep_ref ra
  obtain ⟨yb, rfl⟩ := rep_ref rb
  refine wpA_call (enter (d := d) (binds := [("expression", (.ref y0)), ("univ_scope", sv), ("used_variables", uv), ("counter", .ref c)]) (rb := [("counter", .ref c), ("used_variables", uv), ("univ_scope", sv), ("expression", (.ref y0))]) Z0 rm rfl (by kernel_rfl) (binds_K Z0.K rfl rfl rfl rfl rfl) rfl (by decide) (locs rfl) ⟨rfl, rfl, rfl⟩ fun L' s oL ns Z rm => ?_)
  refine x_ifNoneList Z rfl hs fun m1 sv' nw1 s e1 hs' o1 le1 Z => ?_
  refine x_ifNoneList Z (o1 _ (by decide)) (hu.mono le1) fun m2 uv' nw2 s e2 hu' o2 le2 Z => ?_
  refine x_seq (x_ifNone (b := false) Z ((o2 _ (by decide)).trans (o1 _ (by decide))) rfl (wpAny_execs_nil ?_))
  have hE : m2 "expression" = some (.ref y0) := (o2 _ (by decide)).trans (o1 _ (by decide))
  have hC : m2 "counter" = some (.ref c) := (o2 _ (by decide)).trans (o1 _ (by decide))
  have hS : m2 "univ_scope" = some sv' := (o2 _ (by decide)).trans e1
  have hU : m2 "used_variables" = some uv' := e2
  have le := le1.trans le2
  have hs2 := hs'.mono le2
  have hx2 := le _ hx
  clear o1 o2 e1 e2 hs'
  have i0 := i0.mono le
  have i := i.mono le
  have ra := ra.mono le
  have rb := rb.mono le
  refine x_seq (x_ifI Z hE i0 (okNegated w) (nAll w) (kNegatedX761 w) fun s Z => ?_)
  show wpAny _ _ (execs _ _) _ _ _
  refine x_seq (x_ifI Z hE i0 (okNegated w) (nAnd w) (kNegatedX914 w) fun s Z => ?_)
  show wpAny _ _ (execs _ _) _ _ _
  refine x_seq (x_ifI Z hE i0 (okNegated w) (nOr w) (kNegatedX954 w) fun s Z => ?_)
  show wpAny _ _ (execs _ _) _ _ _
  refine x_seq (x_ifI Z hE i0 (okNegated w) (nImp w) (kNegatedX987 w) fun s Z => ?_)
  show wpAny _ _ (execs _ _) _ _ _
  refine x_seq (x_ifI Z hE i0 (okNegated w) (nIff w) (kNegatedX1020 w) fun s Z => ?_)
  show wpAny _ _ (execs _ _) _ _ _
  refine x_seq (x_ifI Z hE i0 (okNegated w) (nEquality w) (kNegatedX1053 w) fun s Z => ?_)
  show wpAny _ _ (execs _ _) _ _ _
  refine x_seq (x_ifI Z hE i0 (okNegated w) (nNegated w) (kNegatedX815 w) fun s Z => ?_)
  show wpAny _ _ (execs _ _) _ _ _
  refine x_seq (x_asg (r_nattr Z hE i0 (okNegated w) (fNegatedXterm w) rfl rfl fun s Z => r_store Z fun s Z => ?_))
  refine x_seq (x_ifI Z rfl i (okImp w) (nAll w) (kImpX761 w) fun s Z => ?_)
  show wpAny _ _ (execs _ _) _ _ _
  refine x_seq (x_ifI Z rfl i (okImp w) (nAnd w) (kImpX914 w) fun s Z => ?_)
  show wpAny _ _ (execs _ _) _ _ _
  refine x_seq (x_ifI Z rfl i (okImp w) (nOr w) (kImpX954 w) fun s Z => ?_)
  show wpAny _ _ (execs _ _) _ _ _
  refine x_seq (x_ifI Z rfl i (okImp w) (nImp w) (kImpX987 w) fun s Z => ?_)
  show wpAny _ _ (execs _ _) _ _ _
  refine x_seq (wpAny_Return_some ?_)
  refine wpAny_BinOp ?_
  refine r_callN Z (n1091 w) (kp1091 w) (sp_cons (r_nattr Z rfl i (okImp w) (fImpXfirst w) rfl rfl fun s Z => ?_))
  refine sp_cons (r_loc Z (upd_ne hS) (sp_cons (r_loc Z (upd_ne hU) (sp_cons (r_loc Z (upd_ne hC) (sp_nil ⟨Z.K, ?_⟩))))))
  refine (Ha true) rm Z.swap hx2 ra (.inr hs2) (.inr hu') ls lu hz fun vr1 tc nwc s lec Z r1 => ?_
  have Z := Z.swap
  have i := i.mono lec
  have ra := ra.mono lec
  have rb := rb.mono lec
  have hs2 := hs2.mono lec
  have hu' := hu'.mono lec
  have hx2 := le_mem lec hx2
  have le := le.trans lec
  refine r_callN Z (n1091 w) (kp1091 w) (sp_cons (wpAny_UnaryOp (r_nattr Z rfl i (okImp w) (fImpXsecond w) rfl rfl fun s Z => r_neg Z (rm.le (by omega)) rb fun vn nwn s len Z rn => ?_)))
  have i := i.mono len
  have ra := ra.mono len
  have rb := rb.mono len
  have hs2 := hs2.mono len
  have hu' := hu'.mono len
  have hx2 := le_mem len hx2
  have r1 := r1.mono len
  have le := le.trans len
  refine sp_cons (r_loc Z (upd_ne hS) (sp_cons (r_loc Z (upd_ne hU) (sp_cons (r_loc Z (upd_ne hC) (sp_nil ⟨Z.K, ?_⟩))))))
  refine (Hb false) rm Z.swap hx2 rn (.inr hs2) (.inr hu') ls lu hz fun vr2 tc nwc s lec Z r2 => ?_
  have Z := Z.swap
  have i := i.mono lec
  have ra := ra.mono lec
  have rb := rb.mono lec
  have hs2 := hs2.mono lec
  have hu' := hu'.mono lec
  have hx2 := le_mem lec hx2
  have r1 := r1.mono lec
  have le := le.trans lec
  obtain ⟨C1, k1⟩ := okc_four (okc_nf true qa)
  obtain ⟨C2, k2⟩ := okc_four (okc_nf false qb)
  refine r_and Z (rm.le (by omega)) r1 r2 k1 k2 fun vc3 nwc s lec Z c3 => ?_
  have i := i.mono lec
  have ra := ra.mono lec
  have rb := rb.mono lec
  have hs2 := hs2.mono lec
  have hu' := hu'.mono lec
  have hx2 := le_mem lec hx2
  have r1 := r1.mono lec
  have r2 := r2.mono lec
  have le := le.trans lec
  exact h _ _ _ _ le (Z0.back ns Z) c3
theorem sk_iff {k : Int} {a b : Fm} (Ha : ∀ p, SkOk w z H B d k k (pol p a) (nf p a)) (Hb : ∀ p, SkOk w z H B d k k (pol p b) (nf p b)) (qa : qf a = true) (qb : qf b = true) (ba : ∀ p, sA (nf p a) ≤ 40) (bb : ∀ p, sA (nf p b) ≤ 40) (hd : 85 ≤ d) : SkOk w z H B (d + 1) k k (.iff a b) (nf true (.iff a b)) := by
  intro mu nw L m s A E v sv uv c dx tk t us ud Q rm Z0 hx hv hs hu ls lu hz h
  obtain ⟨y, pa, pb, t1, t2, rfl, i, ra, rb⟩ := hv
  obtain ⟨ya, rfl⟩ := rep_ref ra
  obtain ⟨yb, rfl⟩ := rep_ref rb
  refine wpA_call (enter (d := d) (binds := [("expression", (.ref y)), ("univ_scope", sv), ("used_variables", uv), ("counter", .ref c)]) (rb := [("counter", .ref c), ("used_variables", uv), ("univ_scope", sv), ("expression", (.ref y))]) Z0 rm rfl (by kernel_rfl) (binds_K Z0.K rfl rfl rfl rfl rfl) rfl (by decide) (locs rfl) ⟨rfl, rfl, rfl⟩ fun L' s oL ns Z rm => ?_)
  refine x_ifNoneList Z rfl hs fun m1 sv' nw1 s e1 hs' o1 le1 Z => ?_
  refine x_ifNoneList Z (o1 _ (by decide)) (hu.mono le1) fun m2 uv' nw2 s e2 hu' o2 le2 Z => ?_
  refine x_seq (x_ifNone (b := false) Z ((o2 _ (by decide)).trans (o1 _ (by decide))) rfl (wpAny_execs_nil ?_))
  have hE : m2 "expression" = some (.ref y) := (o2 _ (by decide)).trans (o1 _ (by decide))
  have hC : m2 "counter" = some (.ref c) := (o2 _ (by decide)).trans (o1 _ (by decide))
  have hS : m2 "univ_scope" = some sv' := (o2 _ (by decide)).trans e1
  have hU : m2 "used_variables" = some uv' := e2
  have le := le1.trans le2
  have hs2 := hs'.mono le2
  have hx2 := le _ hx
  clear o1 o2 e1 e2 hs'
  have i := i.mono le
  have ra := ra.mono le
  have rb := rb.mono le
  refine x_seq (x_ifI Z hE i (okIff w) (nAll w) (kIffX761 w) fun s Z => ?_)
  show wpAny _ _ (execs _ _) _ _ _
  refine x_seq (x_ifI Z hE i (okIff w) (nAnd w) (kIffX914 w) fun s Z => ?_)
  show wpAny _ _ (execs _ _) _ _ _
  refine x_seq (x_ifI Z hE i (okIff w) (nOr w) (kIffX954 w) fun s Z => ?_)
  show wpAny _ _ (execs _ _) _ _ _
  refine x_seq (x_ifI Z hE i (okIff w) (nImp w) (kIffX987 w) fun s Z => ?_)
  show wpAny _ _ (execs _ _) _ _ _
  refine x_seq (x_ifI Z hE i (okIff w) (nIff w) (kIffX1020 w) fun s Z => ?_)
  show wpAny _ _ (execs _ _) _ _ _
  refine x_seq (wpAny_Return_some ?_)
  refine wpAny_BinOp ?_
  refine r_callN Z (n1098 w) (kp1098 w) (sp_cons ?_)
  refine r_callN Z (n1091 w) (kp1091 w) (sp_cons (wpAny_UnaryOp (r_nattr Z hE i (okIff w) (fIffXfirst w) rfl rfl fun s Z => r_neg Z (rm.le (by omega)) ra fun vn nwn s len Z rn => ?_)))
  have i := i.mono len
  have ra := ra.mono len
  have rb := rb.mono len
  have hs2 := hs2.mono len
  have hu' := hu'.mono len
  have hx2 := le_mem len hx2
  have le := le.trans len
  refine sp_cons (r_loc Z hS (sp_cons (r_loc Z hU (sp_cons (r_loc Z hC (sp_nil ⟨Z.K, ?_⟩))))))
  refine (Ha false) rm Z.swap hx2 rn (.inr hs2) (.inr hu') ls lu hz fun vr1 tc nwc s lec Z r1 => ?_
  have Z := Z.swap
  have i := i.mono lec
  have ra := ra.mono lec
  have rb := rb.mono lec
  have hs2 := hs2.mono lec
  have hu' := hu'.mono lec
  have hx2 := le_mem lec hx2
  have le := le.trans lec
  refine sp_cons ?_
  refine r_callN Z (n1091 w) (kp1091 w) (sp_cons (r_nattr Z hE i (okIff w) (fIffXsecond w) rfl rfl fun s Z => ?_))
  refine sp_cons (r_loc Z hS (sp_cons (r_loc Z hU (sp_cons (r_loc Z hC (sp_nil ⟨Z.K, ?_⟩))))))
  refine (Hb true) rm Z.swap hx2 rb (.inr hs2) (.inr hu') ls lu hz fun vr2 tc nwc s lec Z r2 => ?_
  have Z := Z.swap
  have i := i.mono lec
  have ra := ra.mono lec
  have rb := rb.mono lec
  have hs2 := hs2.mono lec
  have hu' := hu'.mono lec
  have hx2 := le_mem lec hx2
  have r1 := r1.mono lec
  have le := le.trans lec
  refine sp_nil ⟨Z.K, ?_⟩
  refine to_cnf_ok w z H 81 _ _ (Nat.lt_succ_of_le (Nat.add_le_add (ba false) (bb true))) (okc_nf false qa) (okc_nf true qb) Z (rm.le (by omega)) r1 r2 fun vc3 nwc s lec Z c3 => ?_
  have i := i.mono lec
  have ra := ra.mono lec
  have rb := rb.mono lec
  have hs2 := hs2.mono lec
  have hu' := hu'.mono lec
  have hx2 := le_mem lec hx2
  have r1 := r1.mono lec
  have r2 := r2.mono lec
  have le := le.trans lec
  refine r_callN Z (n1098 w) (kp1098 w) (sp_cons ?_)
  refine r_callN Z (n1091 w) (kp1091 w) (sp_cons (r_nattr Z hE i (okIff w) (fIffXfirst w) rfl rfl fun s Z => ?_))
  refine sp_cons (r_loc Z hS (sp_cons (r_loc Z hU (sp_cons (r_loc Z hC (sp_nil ⟨Z.K, ?_⟩))))))
  refine (Ha true) rm Z.swap hx2 ra (.inr hs2) (.inr hu') ls lu hz fun vr4 tc nwc s lec Z r4 => ?_
  have Z := Z.swap
  have i := i.mono lec
  have ra := ra.mono lec
  have rb := rb.mono lec
  have hs2 := hs2.mono lec
  have hu' := hu'.mono lec
  have hx2 := le_mem lec hx2
  have r1 := r1.mono lec
  have r2 := r2.mono lec
  have c3 := c3.mono lec
  have le := le.trans lec
  refine sp_cons ?_
  refine r_callN Z (n1091 w) (kp1091 w) (sp_cons (wpAny_UnaryOp (r_nattr Z hE i (okIff w) (fIffXsecond w) rfl rfl fun s Z => r_neg Z (rm.le (by omega)) rb fun vn nwn s len Z rn => ?_)))
  have i := i.mono len
  have ra := ra.mono len
  have rb := rb.mono len
  have hs2 := hs2.mono len
  have hu' := hu'.mono len
  have hx2 := le_mem len hx2
  have r1 := r1.mono len
  have r2 := r2.mono len
  have c3 := c3.mono len
  have r4 := r4.mono len
  have le := le.trans len
  refine sp_cons (r_loc Z hS (sp_cons (r_loc Z hU (sp_cons (r_loc Z hC (sp_nil ⟨Z.K, ?_⟩))))))
  refine (Hb false) rm Z.swap hx2 rn (.inr hs2) (.inr hu') ls lu hz fun vr5 tc nwc s lec Z r5 => ?_
  have Z := Z.swap
  have i := i.mono lec
  have ra := ra.mono lec
  have rb := rb.mono lec
  have hs2 := hs2.mono lec
  have hu' := hu'.mono lec
  have hx2 := le_mem lec hx2
  have r1 := r1.mono lec
  have r2 := r2.mono lec
  have c3 := c3.mono lec
  have r4 := r4.mono lec
  have le := le.trans lec
  refine sp_nil ⟨Z.K, ?_⟩
  refine to_cnf_ok w z H 81 _ _ (Nat.lt_succ_of_le (Nat.add_le_add (ba true) (bb false))) (okc_nf true qa) (okc_nf false qb) Z (rm.le (by omega)) r4 r5 fun vc6 nwc s lec Z c6 => ?_
  have i := i.mono lec
  have ra := ra.mono lec
  have rb := rb.mono lec
  have hs2 := hs2.mono lec
  have hu' := hu'.mono lec
  have hx2 := le_mem lec hx2
  have r1 := r1.mono lec
  have r2 := r2.mono lec
  have c3 := c3.mono lec
  have r4 := r4.mono lec
  have r5 := r5.mono lec
  have le := le.trans lec
  obtain ⟨C1, k1⟩ := okc_four (okc_cnf (okc_nf false qa) (okc_nf true qb))
  obtain ⟨C2, k2⟩ := okc_four (okc_cnf (okc_nf true qa) (okc_nf false qb))
  refine r_and Z (rm.le (by omega)) c3 c6 k1 k2 fun vc7 nwc s lec Z c7 => ?_
  have i := i.mono lec
  have ra := ra.mono lec
  have rb := rb.mono lec
  have hs2 := hs2.mono lec
  have hu' := hu'.mono lec
  have hx2 := le_mem lec hx2
  have r1 := r1.mono lec
  have r2 := r2.mono lec
  have c3 := c3.mono lec
  have r4 := r4.mono lec
  have r5 := r5.mono lec
  have c6 := c6.mono lec
  have le := le.trans lec
  exact h _ _ _ _ le (Z0.back ns Z) c7
theorem sk_notiff {k : Int} {a b : Fm} (Ha : ∀ p, SkOk w z H B d k k (pol p a) (nf p a)) (Hb : ∀ p, SkOk w z H B d k k (pol p b) (nf p b)) (qa : qf a = true) (qb : qf b = true) (ba : ∀ p, sA (nf p a) ≤ 40) (bb : ∀ p, sA (nf p b) ≤ 40) (hd : 85 ≤ d) : SkOk w z H B (d + 1) k k (.neg (.iff a b)) (nf false (.iff a b)) := by
  intro mu nw L m s A E v sv uv c dx tk t us ud Q rm Z0 hx hv hs hu ls lu hz h
  obtain ⟨y0, n, t0, rfl, i0, y, pa, pb, t1, t2, rfl, i, ra, rb⟩ := hv
  obtain ⟨ya, rfl⟩ := rep_ref ra
  obtain ⟨yb, rfl⟩ := rep_ref rb
  refine wpA_call (enter (d := d) (binds := [("expression", (.ref y0)), ("univ_scope", sv), ("used_variables", uv), ("counter", .ref c)]) (rb := [("counter", .ref c), ("used_variables", uv), ("univ_scope", sv), ("expression", (.ref y0))]) Z0 rm rfl (by kernel_rfl) (binds_K Z0.K rfl rfl rfl rfl rfl) rfl (by decide) (locs rfl) ⟨rfl, rfl, rfl⟩ fun L' s oL ns Z rm => ?_)
  refine x_ifNoneList Z rfl hs fun m1 sv' nw1 s e1 hs' o1 le1 Z => ?_
  refine x_ifNoneList Z (o1 _ (by decide)) (hu.mono le1) fun m2 uv' nw2 s e2 hu' o2 le2 Z => ?_
  refine x_seq (x_ifNone (b := false) Z ((o2 _ (by decide)).trans (o1 _ (by decide))) rfl (wpAny_execs_nil ?_))
  have hE : m2 "expression" = some (.ref y0) := (o2 _ (by decide)).trans (o1 _ (by decide))
  have hC : m2 "counter" = some (.ref c) := (o2 _ (by decide)).trans (o1 _ (by decide))
  have hS : m2 "univ_scope" = some sv' := (o2 _ (by decide)).trans e1
  have hU : m2 "used_variables" = some uv' := e2
  have le := le1.trans le2
  have hs2 := hs'.mono le2
  have hx2 := le _ hx
  clear o1 o2 e1 e2 hs'
  have i0 := i0.mono le
  have i := i.mono le
  have ra := ra.mono le
  have rb := rb.mono le
  refine x_seq (x_ifI Z hE i0 (okNegated w) (nAll w) (kNegatedX761 w) fun s Z => ?_)
  show wpAny _ _ (execs _ _) _ _ _
  refine x_seq (x_ifI Z hE i0 (okNegated w) (nAnd w) (kNegatedX914 w) fun s Z => ?_)
  show wpAny _ _ (execs _ _) _ _ _
  refine x_seq (x_ifI Z hE i0 (okNegated w) (nOr w) (kNegatedX954 w) fun s Z => ?_)
  show wpAny _ _ (execs _ _) _ _ _
  refine x_seq (x_ifI Z hE i0 (okNegated w) (nImp w) (kNegatedX987 w) fun s Z => ?_)
  show wpAny _ _ (execs _ _) _ _ _
  refine x_seq (x_ifI Z hE i0 (okNegated w) (nIff w) (kNegatedX1020 w) fun s Z => ?_)
  show wpAny _ _ (execs _ _) _ _ _
  refine x_seq (x_ifI Z hE i0 (okNegated w) (nEquality w) (kNegatedX1053 w) fun s Z => ?_)
  show wpAny _ _ (execs _ _) _ _ _
  refine x_seq (x_ifI Z hE i0 (okNegated w) (nNegated w) (kNegatedX815 w) fun s Z => ?_)
  show wpAny _ _ (execs _ _) _ _ _
  refine x_seq (x_asg (r_nattr Z hE i0 (okNegated w) (fNegatedXterm w) rfl rfl fun s Z => r_store Z fun s Z => ?_))
  refine x_seq (x_ifI Z rfl i (okIff w) (nAll w) (kIffX761 w) fun s Z => ?_)
  show wpAny _ _ (execs _ _) _ _ _
  refine x_seq (x_ifI Z rfl i (okIff w) (nAnd w) (kIffX914 w) fun s Z => ?_)
  show wpAny _ _ (execs _ _) _ _ _
  refine x_seq (x_ifI Z rfl i (okIff w) (nOr w) (kIffX954 w) fun s Z => ?_)
  show wpAny _ _ (execs _ _) _ _ _
  refine x_seq (x_ifI Z rfl i (okIff w) (nImp w) (kIffX987 w) fun s Z => ?_)
  show wpAny _ _ (execs _ _) _ _ _
  refine x_seq (x_ifI Z rfl i (okIff w) (nIff w) (kIffX1020 w) fun s Z => ?_)
  show wpAny _ _ (execs _ _) _ _ _
  refine x_seq (wpAny_Return_some ?_)
  refine wpAny_BinOp ?_
  refine r_callN Z (n1098 w) (kp1098 w) (sp_cons ?_)
  refine r_callN Z (n1091 w) (kp1091 w) (sp_cons (wpAny_UnaryOp (r_nattr Z rfl i (okIff w) (fIffXfirst w) rfl rfl fun s Z => r_neg Z (rm.le (by omega)) ra fun vn nwn s len Z rn => ?_)))
  have i := i.mono len
  have ra := ra.mono len
  have rb := rb.mono len
  have hs2 := hs2.mono len
  have hu' := hu'.mono len
  have hx2 := le_mem len hx2
  have le := le.trans len
  refine sp_cons (r_loc Z (upd_ne hS) (sp_cons (r_loc Z (upd_ne hU) (sp_cons (r_loc Z (upd_ne hC) (sp_nil ⟨Z.K, ?_⟩))))))
  refine (Ha false) rm Z.swap hx2 rn (.inr hs2) (.inr hu') ls lu hz fun vr1 tc nwc s lec Z r1 => ?_
  have Z := Z.swap
  have i := i.mono lec
  have ra := ra.mono lec
  have rb := rb.mono lec
  have hs2 := hs2.mono lec
  have hu' := hu'.mono lec
  have hx2 := le_mem lec hx2
  have le := le.trans lec
  refine sp_cons ?_
  refine r_callN Z (n1091 w) (kp1091 w) (sp_cons (wpAny_UnaryOp (r_nattr Z rfl i (okIff w) (fIffXsecond w) rfl rfl fun s Z => r_neg Z (rm.le (by omega)) rb fun vn nwn s len Z rn => ?_)))
  have i := i.mono len
  have ra := ra.mono len
  have rb := rb.mono len
  have hs2 := hs2.mono len
  have hu' := hu'.mono len
  have hx2 := le_mem len hx2
  have r1 := r1.mono len
  have le := le.trans len
  refine sp_cons (r_loc Z (upd_ne hS) (sp_cons (r_loc Z (upd_ne hU) (sp_cons (r_loc Z (upd_ne hC) (sp_nil ⟨Z.K, ?_⟩))))))
  refine (Hb false) rm Z.swap hx2 rn (.inr hs2) (.inr hu') ls lu hz fun vr2 tc nwc s lec Z r2 => ?_
  have Z := Z.swap
  have i := i.mono lec
  have ra := ra.mono lec
  have rb := rb.mono lec
  have hs2 := hs2.mono lec
  have hu' := hu'.mono lec
  have hx2 := le_mem lec hx2
  have r1 := r1.mono lec
  have le := le.trans lec
  refine sp_nil ⟨Z.K, ?_⟩
  refine to_cnf_ok w z H 81 _ _ (Nat.lt_succ_of_le (Nat.add_le_add (ba false) (bb false))) (okc_nf false qa) (okc_nf false qb) Z (rm.le (by omega)) r1 r2 fun vc3 nwc s lec Z c3 => ?_
  have i := i.mono lec
  have ra := ra.mono lec
  have rb := rb.mono lec
  have hs2 := hs2.mono lec
  have hu' := hu'.mono lec
  have hx2 := le_mem lec hx2
  have r1 := r1.mono lec
  have r2 := r2.mono lec
  have le := le.trans lec
  refine r_callN Z (n1098 w) (kp1098 w) (sp_cons ?_)
  refine r_callN Z (n1091 w) (kp1091 w) (sp_cons (r_nattr Z rfl i (okIff w) (fIffXfirst w) rfl rfl fun s Z => ?_))
  refine sp_cons (r_loc Z (upd_ne hS) (sp_cons (r_loc Z (upd_ne hU) (sp_cons (r_loc Z (upd_ne hC) (sp_nil ⟨Z.K, ?_⟩))))))
  refine (Ha true) rm Z.swap hx2 ra (.inr hs2) (.inr hu') ls lu hz fun vr4 tc nwc s lec Z r4 => ?_
  have Z := Z.swap
  have i := i.mono lec
  have ra := ra.mono lec
  have rb := rb.mono lec
  have hs2 := hs2.mono lec
  have hu' := hu'.mono lec
  have hx2 := le_mem lec hx2
  have r1 := r1.mono lec
  have r2 := r2.mono lec
  have c3 := c3.mono lec
  have le := le.trans lec
  refine sp_cons ?_
  refine r_callN Z (n1091 w) (kp1091 w) (sp_cons (r_nattr Z rfl i (okIff w) (fIffXsecond w) rfl rfl fun s Z => ?_))
  refine sp_cons (r_loc Z (upd_ne hS) (sp_cons (r_loc Z (upd_ne hU) (sp_cons (r_loc Z (upd_ne hC) (sp_nil ⟨Z.K, ?_⟩))))))
  refine (Hb true) rm Z.swap hx2 rb (.inr hs2) (.inr hu') ls lu hz fun vr5 tc nwc s lec Z r5 => ?_
  have Z := Z.swap
  have i := i.mono lec
  have ra := ra.mono lec
  have rb := rb.mono lec
  have hs2 := hs2.mono lec
  have hu' := hu'.mono lec
  have hx2 := le_mem lec hx2
  have r1 := r1.mono lec
  have r2 := r2.mono lec
  have c3 := c3.mono lec
  have r4 := r4.mono lec
  have le := le.trans lec
  refine sp_nil ⟨Z.K, ?_⟩
  refine to_cnf_ok w z H 81 _ _ (Nat.lt_succ_of_le (Nat.add_le_add (ba true) (bb true))) (okc_nf true qa) (okc_nf true qb) Z (rm.le (by omega)) r4 r5 fun vc6 nwc s lec Z c6 => ?_
  have i := i.mono lec
  have ra := ra.mono lec
  have rb := rb.mono lec
  have hs2 := hs2.mono lec
  have hu' := hu'.mono lec
  have hx2 := le_mem lec hx2
  have r1 := r1.mono lec
  have r2 := r2.mono lec
  have c3 := c3.mono lec
  have r4 := r4.mono lec
  have r5 := r5.mono lec
  have le := le.trans lec
  obtain ⟨C1, k1⟩ := okc_four (okc_cnf (okc_nf false qa) (okc_nf false qb))
  obtain ⟨C2, k2⟩ := okc_four (okc_cnf (okc_nf true qa) (okc_nf true qb))
  refine r_and Z (rm.le (by omega)) c3 c6 k1 k2 fun vc7 nwc s lec Z c7 => ?_
  have i := i.mono lec
  have ra := ra.mono lec
  have rb := rb.mono lec
  have hs2 := hs2.mono lec
  have hu' := hu'.mono lec
  have hx2 := le_mem lec hx2
  have r1 := r1.mono lec
  have r2 := r2.mono lec
  have c3 := c3.mono lec
  have r4 := r4.mono lec
  have r5 := r5.mono lec
  have c6 := c6.mono lec
  have le := le.trans lec
  exact h _ _ _ _ le (Z0.back ns Z) c7
theorem sk_notnot {k k' : Int} {f r : Fm} (Ha : SkOk w z H B d k k' f r) : SkOk w z H B (d + 1) k k' (.neg (.neg f)) r := by
  intro mu nw L m s A E v sv uv c dx tk t us ud Q rm Z0 hx hv hs hu ls lu hz h
  obtain ⟨y0, n, t0, rfl, i0, y, pa, t1, rfl, i, ra⟩ := hv
  obtain ⟨ya, rfl⟩ := rep_ref ra
  refine wpA_call (enter (d := d) (binds := [("expression", (.ref y0)), ("univ_scope", sv), ("used_variables", uv), ("counter", .ref c)]) (rb := [("counter", .ref c), ("used_variables", uv), ("univ_scope", sv), ("expression", (.ref y0))]) Z0 rm rfl (by kernel_rfl) (binds_K Z0.K rfl rfl rfl rfl rfl) rfl (by decide) (locs rfl) ⟨rfl, rfl, rfl⟩ fun L' s oL ns Z rm => ?_)
  refine x_ifNoneList Z rfl hs fun m1 sv' nw1 s e1 hs' o1 le1 Z => ?_
  refine x_ifNoneList Z (o1 _ (by decide)) (hu.mono le1) fun m2 uv' nw2 s e2 hu' o2 le2 Z => ?_
  refine x_seq (x_ifNone (b := false) Z ((o2 _ (by decide)).trans (o1 _ (by decide))) rfl (wpAny_execs_nil ?_))
  have hE : m2 "expression" = some (.ref y0) := (o2 _ (by decide)).trans (o1 _ (by decide))
  have hC : m2 "counter" = some (.ref c) := (o2 _ (by decide)).trans (o1 _ (by decide))
  have hS : m2 "univ_scope" = some sv' := (o2 _ (by decide)).trans e1
  have hU : m2 "used_variables" = some uv' := e2
  have le := le1.trans le2
  have hs2 := hs'.mono le2
  have hx2 := le _ hx
  clear o1 o2 e1 e2 hs'
  have i0 := i0.mono le
  have i := i.mono le
  have ra := ra.mono le
  refine x_seq (x_ifI Z hE i0 (okNegated w) (nAll w) (kNegatedX761 w) fun s Z => ?_)
  show wpAny _ _ (execs _ _) _ _ _
  refine x_seq (x_ifI Z hE i0 (okNegated w) (nAnd w) (kNegatedX914 w) fun s Z => ?_)
  show wpAny _ _ (execs _ _) _ _ _
  refine x_seq (x_ifI Z hE i0 (okNegated w) (nOr w) (kNegatedX954 w) fun s Z => ?_)
  show wpAny _ _ (execs _ _) _ _ _
  refine x_seq (x_ifI Z hE i0 (okNegated w) (nImp w) (kNegatedX987 w) fun s Z => ?_)
  show wpAny _ _ (execs _ _) _ _ _
  refine x_seq (x_ifI Z hE i0 (okNegated w) (nIff w) (kNegatedX1020 w) fun s Z => ?_)
  show wpAny _ _ (execs _ _) _ _ _
  refine x_seq (x_ifI Z hE i0 (okNegated w) (nEquality w) (kNegatedX1053 w) fun s Z => ?_)
  show wpAny _ _ (execs _ _) _ _ _
  refine x_seq (x_ifI Z hE i0 (okNegated w) (nNegated w) (kNegatedX815 w) fun s Z => ?_)
  show wpAny _ _ (execs _ _) _ _ _
  refine x_seq (x_asg (r_nattr Z hE i0 (okNegated w) (fNegatedXterm w) rfl rfl fun s Z => r_store Z fun s Z => ?_))
  refine x_seq (x_ifI Z rfl i (okNegated w) (nAll w) (kNegatedX761 w) fun s Z => ?_)
  show wpAny _ _ (execs _ _) _ _ _
  refine x_seq (x_ifI Z rfl i (okNegated w) (nAnd w) (kNegatedX914 w) fun s Z => ?_)
  show wpAny _ _ (execs _ _) _ _ _
  refine x_seq (x_ifI Z rfl i (okNegated w) (nOr w) (kNegatedX954 w) fun s Z => ?_)
  show wpAny _ _ (execs _ _) _ _ _
  refine x_seq (x_ifI Z rfl i (okNegated w) (nImp w) (kNegatedX987 w) fun s Z => ?_)
  show wpAny _ _ (execs _ _) _ _ _
  refine x_seq (x_ifI Z rfl i (okNegated w) (nIff w) (kNegatedX1020 w) fun s Z => ?_)
  show wpAny _ _ (execs _ _) _ _ _
  refine x_seq (x_ifI Z rfl i (okNegated w) (nEquality w) (kNegatedX1053 w) fun s Z => ?_)
  show wpAny _ _ (execs _ _) _ _ _
  refine x_seq (x_ifI Z rfl i (okNegated w) (nNegated w) (kNegatedX815 w) fun s Z => ?_)
  show wpAny _ _ (execs _ _) _ _ _
  refine x_seq (wpAny_Return_some ?_)
  refine r_callN Z (n1091 w) (kp1091 w) (sp_cons (r_nattr Z rfl i (okNegated w) (fNegatedXterm w) rfl rfl fun s Z => ?_))
  refine sp_cons (r_loc Z (upd_ne hS) (sp_cons (r_loc Z (upd_ne hU) (sp_cons (r_loc Z (upd_ne hC) (sp_nil ⟨Z.K, ?_⟩))))))
  refine Ha rm Z.swap hx2 ra (.inr hs2) (.inr hu') ls lu hz fun vr1 tc nwc s lec Z r1 => ?_
  have Z := Z.swap
  have i := i.mono lec
  have ra := ra.mono lec
  have hs2 := hs2.mono lec
  have hu' := hu'.mono lec
  have hx2 := le_mem lec hx2
  have le := le.trans lec
  exact h _ _ _ _ le (Z0.back ns Z) r1

theorem sk_qf (w : World) (z : Shared) (H : Heap) {B : Nat} : ∀ (f : Fm), qf f = true → bdd f → ∀ (p : Bool) (k : Int), SkOk w z H B (hq f + 90) k k (pol p f) (nf p f)
  | .app f g, _, _, true, k => SkOk.le sk_app (by omega)
  | .app f g, _, _, false, k => SkOk.le sk_negapp (by omega)
  | .neg a, h, b, true, k => SkOk.le (sk_qf w z H a h b false k) (by simp only [hq]; omega)
  | .neg a, h, b, false, k => SkOk.le (sk_notnot (sk_qf w z H a h b true k)) (by simp only [hq]; omega)
  | .and a b, h, bd, true, k => by
    simp only [qf, Bool.and_eq_true] at h
    obtain ⟨b1, b2, b3, b4⟩ := bd
    exact SkOk.le (sk_and (d := hq a + hq b + 91) (fun p => SkOk.le (sk_qf w z H a h.1 b1 p k) (by omega)) (fun p => SkOk.le (sk_qf w z H b h.2 b2 p k) (by omega)) h.1 h.2 b3 b4 (by omega)) (by simp only [hq]; omega)
  | .and a b, h, bd, false, k => by
    simp only [qf, Bool.and_eq_true] at h
    obtain ⟨b1, b2, b3, b4⟩ := bd
    exact SkOk.le (sk_notand (d := hq a + hq b + 91) (fun p => SkOk.le (sk_qf w z H a h.1 b1 p k) (by omega)) (fun p => SkOk.le (sk_qf w z H b h.2 b2 p k) (by omega)) h.1 h.2 b3 b4 (by omega)) (by simp only [hq]; omega)
  | .or a b, h, bd, true, k => by
    simp only [qf, Bool.and_eq_true] at h
    obtain ⟨b1, b2, b3, b4⟩ := bd
    exact SkOk.le (sk_or (d := hq a + hq b + 91) (fun p => SkOk.le (sk_qf w z H a h.1 b1 p k) (by omega)) (fun p => SkOk.le (sk_qf w z H b h.2 b2 p k) (by omega)) h.1 h.2 b3 b4 (by omega)) (by simp only [hq]; omega)
  | .or a b, h, bd, false, k => by
    simp only [qf, Bool.and_eq_true] at h
    obtain ⟨b1, b2, b3, b4⟩ := bd
    exact SkOk.le (sk_notor (d := hq a + hq b + 91) (fun p => SkOk.le (sk_qf w z H a h.1 b1 p k) (by omega)) (fun p => SkOk.le (sk_qf w z H b h.2 b2 p k) (by omega)) h.1 h.2 b3 b4 (by omega)) (by simp only [hq]; omega)
  | .imp a b, h, bd, true, k => by
    simp only [qf, Bool.and_eq_true] at h
    obtain ⟨b1, b2, b3, b4⟩ := bd
    exact SkOk.le (sk_imp (d := hq a + hq b + 91) (fun p => SkOk.le (sk_qf w z H a h.1 b1 p k) (by omega)) (fun p => SkOk.le (sk_qf w z H b h.2 b2 p k) (by omega)) h.1 h.2 b3 b4 (by omega)) (by simp only [hq]; omega)
  | .imp a b, h, bd, false, k => by
    simp only [qf, Bool.and_eq_true] at h
    obtain ⟨b1, b2, b3, b4⟩ := bd
    exact SkOk.le (sk_notimp (d := hq a + hq b + 91) (fun p => SkOk.le (sk_qf w z H a h.1 b1 p k) (by omega)) (fun p => SkOk.le (sk_qf w z H b h.2 b2 p k) (by omega)) h.1 h.2 b3 b4 (by omega)) (by simp only [hq]; omega)
  | .iff a b, h, bd, true, k => by
    simp only [qf, Bool.and_eq_true] at h
    obtain ⟨b1, b2, b3, b4⟩ := bd
    exact SkOk.le (sk_iff (d := hq a + hq b + 91) (fun p => SkOk.le (sk_qf w z H a h.1 b1 p k) (by omega)) (fun p => SkOk.le (sk_qf w z H b h.2 b2 p k) (by omega)) h.1 h.2 b3 b4 (by omega)) (by simp only [hq]; omega)
  | .iff a b, h, bd, false, k => by
    simp only [qf, Bool.and_eq_true] at h
    obtain ⟨b1, b2, b3, b4⟩ := bd
    exact SkOk.le (sk_notiff (d := hq a + hq b + 91) (fun p => SkOk.le (sk_qf w z H a h.1 b1 p k) (by omega)) (fun p => SkOk.le (sk_qf w z H b h.2 b2 p k) (by omega)) h.1 h.2 b3 b4 (by omega)) (by simp only [hq]; omega)
end
end Mine
end

section
open PySem PySem.W PySem.Spec PySem.Calls PyProof.Rows
set_option Elab.async false
set_option maxRecDepth 100000
namespace Mine
set_option linter.unusedVariables false
set_option maxHeartbeats 4000000
noncomputable def zokB (n : Nat) : Bool := decide (((n : Int)).natAbs.log2 < 1920) && decide ((zn n).length ≤ 100) && decide ((Str.ofString (toString (n : Int))).length ≤ 100) && isInd (zn n) && okV (zn n)
theorem zok_all : (List.range 40).all zokB = true := by decide +kernel
structure ZOk (k : Int) : Prop where
  log : k.natAbs.log2 < 1920
  len : (zn k).length ≤ sizeLine
  len' : (Str.ofString (toString k)).length ≤ sizeLine
  ind : isInd (zn k) = true
  ok : okV (zn k) = true
theorem zok {k : Int} (h : 0 ≤ k) (h' : k < 40) : ZOk k := by
  obtain ⟨n, rfl⟩ := Int.eq_ofNat_of_zero_le h
  have := List.all_eq_true.mp zok_all n (List.mem_range.mpr (by omega))
  unfold zokB at this
  simp only [Bool.and_eq_true, decide_eq_true_eq] at this
  obtain ⟨⟨⟨⟨h1, h2⟩, h3⟩, h4⟩, h5⟩ := this
  exact ⟨h1, Nat.le_trans h2 (by decide), Nat.le_trans h3 (by decide), h4, h5⟩

section
variable {w : World} {z : Shared} {H : Heap} {mu nw : List Ent} {L a : Addr} {m : Str → Option Value} {s : Shared} {A : Around} {E : Value → Shared → Prop} {B d : Nat} {env : Env}
/-- a call by a name with two arguments by keyword -/
theorem r_kw2 {id k1 k2 : Str} {np p1 p2 pos : Pos} {e1 e2 : Expr} {f : Value} {Q : Value → Shared → Prop} (Z : Sit w z H mu nw L m s) (hf : nsIn (KK w) mainGlobals id = some (some f)) (hk : keepIn (KK w) f = true)
    (h : wpAny (Md w) A (eval e1 env) (fun v1 s1 => wpAny (Md w) A (eval e2 env) (fun v2 s2 => (KK w).In s2.heap ∧ wpAny (Md w) A (call f [] [(k1, v1), (k2, v2)]) Q E s2) E s1) E s)
    (hk' : EnvOk env L := by exact ⟨rfl, rfl, rfl, rfl⟩) (hx : env.kindOf id = some .globalImplicit := by rfl) (hd : (id == ("__debug__" : Str)) = false := by decide) :
    wpAny (Md w) A (eval (.Call (.Name id np) [] [⟨some k1, e1, p1⟩, ⟨some k2, e2, p2⟩] pos) env) Q E s := by
  show wpAny _ _ (do callWith pos (← eval (.Name id np) env) [] (backTo pos (starEach [] env)) (backToKw pos (keywordEach [⟨some k1, e1, p1⟩, ⟨some k2, e2, p2⟩] env))) Q E s
  refine wpAny_bind (r_glob Z hf (callWith_KW0 Z.gl.X hk rfl ?_) hk' hx hd)
  refine PyProof.Rows.evalAll_cons (wpAny_bind (wpAny_mono h (fun v1 s1 h1 => wpAny_bind (wpAny_standAt (wpAny_pure ?_))) fun _ _ e => e))
  refine PyProof.Rows.evalAll_cons (wpAny_bind (wpAny_mono h1 (fun v2 s2 h2 => wpAny_bind (wpAny_standAt (wpAny_pure ?_))) fun _ _ e => e))
  exact wpAny_pure h2

/-- _union([NAME, [NAME.variable]]) -/
theorem r_unionVar {name e : Str} {y C : Addr} {es : List DictEntry} {x : Str} {us : List Str} {sv pv : Value} {q1 q2 q3 q4 q5 q6 pos : Pos} {Q : Value → Shared → Prop} (Z : Sit w z H mu nw L m s) (rm : Room A 3) (hS : m name = some sv) (hs : VarsR w nw us sv) (hE : m e = some (.ref y)) (i : Inst nw y C es) (ok : ClsOk w C) (ha : findIn (KK w) (.ref C) "variable" = some none)
    (hl : getL "variable" es = some (some pv)) (hp : VarR w nw x pv) (ls : us.length ≤ 500)
    (h : ∀ r nw' s', Le nw nw' → Sit w z H mu nw' L m s' → VarsR w nw' (union [us, [x]]) r → Q r s')
    (hk : EnvOk env L := by exact ⟨rfl, rfl, rfl, rfl⟩) (hi : env.kindOf "_union" = some .globalImplicit := by rfl) (hx : env.kindOf name = some .local := by rfl) (hex : env.kindOf e = some .local := by rfl)
    (hd : (name == ("__debug__" : Str)) = false := by decide) (hde : (e == ("__debug__" : Str)) = false := by decide) :
    wpAny (Md w) A (eval (.Call (.Name "_union" q1) [.List [.Name name q2, .List [.Attribute (.Name e q3) "variable" q4] q5] q6] [] pos) env) Q E s := by
  have hpr : handedIn pv = true := by obtain ⟨a, _, _, rfl, _⟩ := hp; rfl
  refine r_callN Z (n57 w) (kp57 w) (sp_cons (wpAny_List (sp_cons (r_loc Z hS (sp_cons (wpAny_List (sp_cons (r_nattr Z hE i ok ha hl hpr (fun s1 Z1 => sp_nil ⟨(show 1 ≤ sizeLine by decide), sp_nil ⟨(show 2 ≤ sizeLine by decide), sp_nil ?_⟩⟩) hk hex hde) rfl)) rfl) hk hx hd) rfl)) rfl) hk hi (by decide) rfl rfl
  have Z2 := Z1.alloc (W.listOf #[pv] 0) rfl s1.toks
  have Z3 := Z2.alloc (W.listOf #[sv, .ref s1.heap.objs.size] 0) rfl s1.toks
  have le : Le nw _ := (Le.cons (s1.heap.objs.size, W.listOf #[pv] 0) nw).trans (Le.cons ((s1.heap.push (W.listOf #[pv] 0)).objs.size, W.listOf #[sv, .ref s1.heap.objs.size] 0) _)
  refine ⟨Z3.K, union_ok (nss := [us, [x]]) Z3 rm ⟨_, [sv, .ref s1.heap.objs.size], 0, rfl, .head _, hs.mono le, ⟨_, [pv], 0, rfl, .tail _ (.head _), hp.mono le, trivial⟩, trivial⟩ ?_ fun r nw' s' le' Z' hr => h _ _ _ (le.trans le') Z' hr⟩
  simp; omega
theorem mem_foldl : ∀ {l f : List Str} {n : Str}, n ∈ l.foldl addNew f → n ∈ f ∨ n ∈ l
  | [], _, _, h => .inl h
  | a :: l, f, n, h => by
    rcases mem_foldl (l := l) h with q | q
    · by_cases e : a ∈ f
      · rw [addNew_in e] at q; exact .inl q
      · rw [addNew_out e] at q
        rcases List.mem_append.mp q with q | q
        · exact .inl q
        · cases List.mem_singleton.mp q; exact .inr (.head _)
    · exact .inr (.tail _ q)
theorem mem_union2 {us : List Str} {x n : Str} (h : n ∈ union [us, [x]]) : n ∈ us ∨ n = x := by
  rcases mem_foldl h with q | q
  · cases q
  · simpa using q
theorem sk_all {k k' : Int} {a r : Fm} {x : Str} (Ha : SkOk w z H (B + 1) d k k' a r) (kr : okr r = true) (hd : 4 * hR r + 8 ≤ d) (hB : B ≤ 400) (hx0 : ∀ j, zn j ≠ x) (h0 : 0 ≤ k') (h1 : k' < 39) : SkOk w z H B (d + 1) k (k' + 1) (.all x a) (rp x (zn (k' + 1)) r) := by
  intro mu nw L m s A E v sv uv c dx tk t us ud Q rm Z0 hx hv hs hu ls lu hz h
  obtain ⟨y, pv, pt, t1, t2, rfl, i, hpv, ht⟩ := hv
  obtain ⟨yt, rfl⟩ := rep_ref ht
  have hpe := hpv
  obtain ⟨yv, _, _, rfl, -⟩ := hpe
  refine wpA_call (enter (d := d) (binds := [("expression", (.ref y)), ("univ_scope", sv), ("used_variables", uv), ("counter", .ref c)]) (rb := [("counter", .ref c), ("used_variables", uv), ("univ_scope", sv), ("expression", (.ref y))]) Z0 rm rfl (by kernel_rfl) (binds_K Z0.K rfl rfl rfl rfl rfl) rfl (by decide) (locs rfl) ⟨rfl, rfl, rfl⟩ fun L' s oL ns Z rm => ?_)
  refine x_ifNoneList Z rfl hs fun m1 sv' nw1 s e1 hs' o1 le1 Z => ?_
  refine x_ifNoneList Z (o1 _ (by decide)) (hu.mono le1) fun m2 uv' nw2 s e2 hu' o2 le2 Z => ?_
  refine x_seq (x_ifNone (b := false) Z ((o2 _ (by decide)).trans (o1 _ (by decide))) rfl (wpAny_execs_nil ?_))
  have hE : m2 "expression" = some (.ref y) := (o2 _ (by decide)).trans (o1 _ (by decide))
  have hC : m2 "counter" = some (.ref c) := (o2 _ (by decide)).trans (o1 _ (by decide))
  have hS : m2 "univ_scope" = some sv' := (o2 _ (by decide)).trans e1
  have hU : m2 "used_variables" = some uv' := e2
  have le := le1.trans le2
  have hs2 := hs'.mono le2
  have hx2 := le _ hx
  clear o1 o2 e1 e2 hs'
  have i := i.mono le
  have ht := ht.mono le
  have hpv := hpv.mono le
  refine x_seq (x_ifI Z hE i (okAll w) (nAll w) (kAllX761 w) fun s Z => ?_)
  show wpAny _ _ (execs _ _) _ _ _
  refine x_seq (x_asg (r_callN Z (n1091 w) (kp1091 w) (sp_cons (r_nattr Z hE i (okAll w) (fAllXterm w) rfl rfl fun s Z => ?_))))
  refine sp_cons (r_unionVar Z (rm.le (by omega)) hS hs2 hE i (okAll w) (fAllXvariable w) rfl hpv (by omega) fun vs1 nw3 s le3 Z hs3 => ?_)
  refine sp_cons (r_unionVar Z (rm.le (by omega)) hU (hu'.mono le3) hE (i.mono le3) (okAll w) (fAllXvariable w) rfl (hpv.mono le3) (by omega) fun vu1 nw4 s le4 Z hu4 => ?_)
  have lu1 := union_len [us, [x]]
  have lu2 := union_len [ud, [x]]
  simp only [List.flatten_cons, List.flatten_nil, List.append_nil, List.length_append, List.length_singleton] at lu1 lu2
  have le34 := le3.trans le4
  refine sp_cons (r_loc Z hC (sp_nil ⟨Z.K, ?_⟩))
  refine Ha rm Z.swap (le34 _ hx2) (ht.mono le34) (.inr (hs3.mono le4)) (.inr hu4) (by omega) (by omega) (fun j hj => ?_) fun vr tr nw5 s le5 Z rr => ?_
  · rcases mem_union2 hj with q | q
    · exact hz j q
    · exact hx0 j q
  refine r_store Z.swap fun s Z => ?_
  have le45 := le34.trans le5
  have i := i.mono le45
  have hpv := hpv.mono le45
  have hu2 := hu'.mono le45
  have hx2 := le45 _ hx2
  have le := le.trans le45
  refine x_seq (wpAny_Return_some (MethodCall_ (r_loc Z rfl ?_)))
  obtain ⟨CR, kR⟩ := okr_four kr
  obtain ⟨yr, er, rfl, ir, lr, -⟩ := rr.apart kR
  refine r_meth Z ir (four_rp w kR).ok (four_rp w kR).rep (ty269 w) lr (r_args Z (kp269 w) (sp_cons (r_nattr Z (upd_ne hE) i (okAll w) (fAllXvariable w) rfl rfl fun s Z => sp_cons (r_callN Z (n585 w) (kp585 w) (sp_cons (r_kw2 Z (n138 w) (kp138 w) (r_loc Z (upd_ne hU) (r_loc Z (upd_ne hC) ⟨Z.K, ?_⟩)))))))) 
  have zo := zok (k := k' + 1) (by omega) (by omega)
  obtain ⟨lu', vu', ju', eu', hlu', hau'⟩ := hu2
  refine unique_ok (kw := []) Z.swap (rm.le (by omega)) hx2 ⟨lu', vu', ju', eu', hlu', hau'⟩ (hz _) zo.log zo.len zo.len' fun vz tz nwz s lez Z hvz => sp_nil ⟨Z.K, ?_⟩
  refine VE_ok Z (rm.le (by omega)) zo.ok hvz fun vt nwt s let_ Z hvt => sp_nil ⟨Z.K, ?_⟩
  refine replace_ok w z H x (zn (k' + 1)) r kr (full := false) Z (rm.le (by omega)) (rr.mono (lez.trans let_)) (hpv.mono (lez.trans let_)) hvt fun r' nwr s ler Z hr => ?_
  exact h _ _ _ _ (le.trans ((lez.trans let_).trans ler)) (Z0.back ns Z.swap) hr
theorem sk_notex {k k' : Int} {a r : Fm} {x : Str} (Ha : SkOk w z H (B + 1) d k k' (.neg a) r) (kr : okr r = true) (hd : 4 * hR r + 8 ≤ d) (hB : B ≤ 400) (hx0 : ∀ j, zn j ≠ x) (h0 : 0 ≤ k') (h1 : k' < 39) : SkOk w z H B (d + 1) k (k' + 1) (.neg (.ex x a)) (rp x (zn (k' + 1)) r) := by
  intro mu nw L m s A E v sv uv c dx tk t us ud Q rm Z0 hx hv hs hu ls lu hz h
  obtain ⟨y0, n, t0, rfl, i0, y, pv, pt, t1, t2, rfl, i, hpv, ht⟩ := hv
  obtain ⟨yt, rfl⟩ := rep_ref ht
  have hpe := hpv
  obtain ⟨yv, _, _, rfl, -⟩ := hpe
  refine wpA_call (enter (d := d) (binds := [("expression", (.ref y0)), ("univ_scope", sv), ("used_variables", uv), ("counter", .ref c)]) (rb := [("counter", .ref c), ("used_variables", uv), ("univ_scope", sv), ("expression", (.ref y0))]) Z0 rm rfl (by kernel_rfl) (binds_K Z0.K rfl rfl rfl rfl rfl) rfl (by decide) (locs rfl) ⟨rfl, rfl, rfl⟩ fun L' s oL ns Z rm => ?_)
  refine x_ifNoneList Z rfl hs fun m1 sv' nw1 s e1 hs' o1 le1 Z => ?_
  refine x_ifNoneList Z (o1 _ (by decide)) (hu.mono le1) fun m2 uv' nw2 s e2 hu' o2 le2 Z => ?_
  refine x_seq (x_ifNone (b := false) Z ((o2 _ (by decide)).trans (o1 _ (by decide))) rfl (wpAny_execs_nil ?_))
  have hE : m2 "expression" = some (.ref y0) := (o2 _ (by decide)).trans (o1 _ (by decide))
  have hC : m2 "counter" = some (.ref c) := (o2 _ (by decide)).trans (o1 _ (by decide))
  have hS : m2 "univ_scope" = some sv' := (o2 _ (by decide)).trans e1
  have hU : m2 "used_variables" = some uv' := e2
  have le := le1.trans le2
  have hs2 := hs'.mono le2
  have hx2 := le _ hx
  clear o1 o2 e1 e2 hs'
  have i0 := i0.mono le
  have i := i.mono le
  have ht := ht.mono le
  have hpv := hpv.mono le
  refine x_seq (x_ifI Z hE i0 (okNegated w) (nAll w) (kNegatedX761 w) fun s Z => ?_)
  show wpAny _ _ (execs _ _) _ _ _
  refine x_seq (x_ifI Z hE i0 (okNegated w) (nAnd w) (kNegatedX914 w) fun s Z => ?_)
  show wpAny _ _ (execs _ _) _ _ _
  refine x_seq (x_ifI Z hE i0 (okNegated w) (nOr w) (kNegatedX954 w) fun s Z => ?_)
  show wpAny _ _ (execs _ _) _ _ _
  refine x_seq (x_ifI Z hE i0 (okNegated w) (nImp w) (kNegatedX987 w) fun s Z => ?_)
  show wpAny _ _ (execs _ _) _ _ _
  refine x_seq (x_ifI Z hE i0 (okNegated w) (nIff w) (kNegatedX1020 w) fun s Z => ?_)
  show wpAny _ _ (execs _ _) _ _ _
  refine x_seq (x_ifI Z hE i0 (okNegated w) (nEquality w) (kNegatedX1053 w) fun s Z => ?_)
  show wpAny _ _ (execs _ _) _ _ _
  refine x_seq (x_ifI Z hE i0 (okNegated w) (nNegated w) (kNegatedX815 w) fun s Z => ?_)
  show wpAny _ _ (execs _ _) _ _ _
  refine x_seq (x_asg (r_nattr Z hE i0 (okNegated w) (fNegatedXterm w) rfl rfl fun s Z => r_store Z fun s Z => ?_))
  refine x_seq (x_ifI Z rfl i (okExists w) (nAll w) (kExistsX761 w) fun s Z => ?_)
  show wpAny _ _ (execs _ _) _ _ _
  refine x_seq (x_ifI Z rfl i (okExists w) (nAnd w) (kExistsX914 w) fun s Z => ?_)
  show wpAny _ _ (execs _ _) _ _ _
  refine x_seq (x_ifI Z rfl i (okExists w) (nOr w) (kExistsX954 w) fun s Z => ?_)
  show wpAny _ _ (execs _ _) _ _ _
  refine x_seq (x_ifI Z rfl i (okExists w) (nImp w) (kExistsX987 w) fun s Z => ?_)
  show wpAny _ _ (execs _ _) _ _ _
  refine x_seq (x_ifI Z rfl i (okExists w) (nIff w) (kExistsX1020 w) fun s Z => ?_)
  show wpAny _ _ (execs _ _) _ _ _
  refine x_seq (x_ifI Z rfl i (okExists w) (nEquality w) (kExistsX1053 w) fun s Z => ?_)
  show wpAny _ _ (execs _ _) _ _ _
  refine x_seq (x_ifI Z rfl i (okExists w) (nNegated w) (kExistsX815 w) fun s Z => ?_)
  show wpAny _ _ (execs _ _) _ _ _
  refine x_seq (x_ifI Z rfl i (okExists w) (nExists w) (kExistsX728 w) fun s Z => ?_)
  show wpAny _ _ (execs _ _) _ _ _
  refine x_seq (x_asg (r_callN Z (n1091 w) (kp1091 w) (sp_cons (wpAny_UnaryOp (r_nattr Z rfl i (okExists w) (fExistsXterm w) rfl rfl fun s Z => r_neg Z (rm.le (by omega)) ht fun vn nwn s len Z rn => ?_)))))
  have i := i.mono len
  have hpv := hpv.mono len
  refine sp_cons (r_unionVar Z (rm.le (by omega)) (upd_ne hS) (hs2.mono len) rfl i (okExists w) (fExistsXvariable w) rfl hpv (by omega) fun vs1 nw3 s le3 Z hs3 => ?_)
  refine sp_cons (r_unionVar Z (rm.le (by omega)) (upd_ne hU) (hu'.mono (len.trans le3)) rfl (i.mono le3) (okExists w) (fExistsXvariable w) rfl (hpv.mono le3) (by omega) fun vu1 nw4 s le4 Z hu4 => ?_)
  have lu1 := union_len [us, [x]]
  have lu2 := union_len [ud, [x]]
  simp only [List.flatten_cons, List.flatten_nil, List.append_nil, List.length_append, List.length_singleton] at lu1 lu2
  have le34 := le3.trans le4
  refine sp_cons (r_loc Z (upd_ne hC) (sp_nil ⟨Z.K, ?_⟩))
  refine Ha rm Z.swap (le34 _ (len _ hx2)) (rn.mono le34) (.inr (hs3.mono le4)) (.inr hu4) (by omega) (by omega) (fun j hj => ?_) fun vr tr nw5 s le5 Z rr => ?_
  · rcases mem_union2 hj with q | q
    · exact hz j q
    · exact hx0 j q
  refine r_store Z.swap fun s Z => ?_
  have le45 := le34.trans le5
  have i := i.mono le45
  have hpv := hpv.mono le45
  have hu2 := hu'.mono (len.trans le45)
  have hx2 := le45 _ (len _ hx2)
  have le := le.trans (len.trans le45)
  refine x_seq (wpAny_Return_some (MethodCall_ (r_loc Z rfl ?_)))
  obtain ⟨CR, kR⟩ := okr_four kr
  obtain ⟨yr, er, rfl, ir, lr, -⟩ := rr.apart kR
  refine r_meth Z ir (four_rp w kR).ok (four_rp w kR).rep (ty269 w) lr (r_args Z (kp269 w) (sp_cons (r_nattr Z rfl i (okExists w) (fExistsXvariable w) rfl rfl fun s Z => sp_cons (r_callN Z (n585 w) (kp585 w) (sp_cons (r_kw2 Z (n138 w) (kp138 w) (r_loc Z hU (r_loc Z hC ⟨Z.K, ?_⟩)))))))) 
  have zo := zok (k := k' + 1) (by omega) (by omega)
  obtain ⟨lu', vu', ju', eu', hlu', hau'⟩ := hu2
  refine unique_ok (kw := []) Z.swap (rm.le (by omega)) hx2 ⟨lu', vu', ju', eu', hlu', hau'⟩ (hz _) zo.log zo.len zo.len' fun vz tz nwz s lez Z hvz => sp_nil ⟨Z.K, ?_⟩
  refine VE_ok Z (rm.le (by omega)) zo.ok hvz fun vt nwt s let_ Z hvt => sp_nil ⟨Z.K, ?_⟩
  refine replace_ok w z H x (zn (k' + 1)) r kr (full := false) Z (rm.le (by omega)) (rr.mono (lez.trans let_)) (hpv.mono (lez.trans let_)) hvt fun r' nwr s ler Z hr => ?_
  exact h _ _ _ _ (le.trans ((lez.trans let_).trans ler)) (Z0.back ns Z.swap) hr
end
end Mine
end

section
open PySem PySem.W PySem.Spec PySem.Calls PyProof.Rows
set_option Elab.async false
set_option maxRecDepth 100000
namespace Mine
set_option linter.unusedVariables false
set_option maxHeartbeats 4000000
noncomputable def lits : Fm → List Fm
  | .or a b => lits a ++ lits b
  | f => [f]
noncomputable def cls : Fm → List (List Fm)
  | .and a b => cls a ++ cls b
  | f => [lits f]
/-- a disjunction of atoms and denied atoms -/
noncomputable def okd : Fm → Bool
  | .app _ _ => true
  | .neg (.app _ _) => true
  | .or a b => okd a && okd b
  | _ => false
noncomputable def okC : Fm → Bool
  | .and a b => okC a && okC b
  | f => okd f
noncomputable def hC : Fm → Nat
  | .and a b => hC a + hC b + 1
  | .or a b => hC a + hC b + 1
  | _ => 0
noncomputable def ClauseR (w : World) (nw : List Ent) (fs : List Fm) (v : Value) : Prop :=
  ∃ y dv t1 t2 t3, v = .ref y ∧ Inst nw y 1188 [dE w "data" t1 dv, dE w "_is_tautology" t2 .none, dE w "_parents" t3 .none] ∧ ListR nw (Rep w nw) fs dv
theorem ClauseR.mono {w : World} {nw nw' : List Ent} {fs : List Fm} {v : Value} (x : ClauseR w nw fs v) (h : Le nw nw') : ClauseR w nw' fs v :=
  let ⟨y, dv, t1, t2, t3, a, b, c⟩ := x; ⟨y, dv, t1, t2, t3, a, b.mono h, ListR.mono c h fun _ _ y => y.mono h⟩
noncomputable abbrev ClausesR (w : World) (nw : List Ent) (fss : List (List Fm)) (v : Value) : Prop := ListR nw (ClauseR w nw) fss v
theorem ClausesR.mono {w : World} {nw nw' : List Ent} {fss : List (List Fm)} {v : Value} (x : ClausesR w nw fss v) (h : Le nw nw') : ClausesR w nw' fss v := ListR.mono x h fun _ _ y => y.mono h
theorem okd_four : ∀ {f : Fm}, okd f = true → ∃ C, four f = some C
  | .app _ _, _ => ⟨_, rfl⟩
  | .neg _, _ => ⟨_, rfl⟩
  | .or _ _, _ => ⟨_, rfl⟩

section
variable {w : World} {z : Shared} {H : Heap} {mu nw : List Ent} {L a : Addr} {m : Str → Option Value} {s : Shared} {A : Around} {E : Value → Shared → Prop} {B d : Nat} {env : Env}
theorem x_setNone {y C dx : Addr} {es : List DictEntry} {n : Nat} {self attr : Str} {k : Nat} {p0 p1 p2 p3 : Pos} {Q : Flow → Shared → Prop} (Z : Sit w z H ((dx, dictOf es n) :: mu) nw L m s) (hs : m self = some (.ref y)) (hx : (y, instObj C dx) ∈ nw) (ok : ClsOk w C)
    (ht : takerIn (KK w) C attr = some none) (hl : (getL attr es).isSome = true) (hz : es.length ≤ 900)
    (h : ∀ tk s', Sit w z H ((dx, dictOf (putL attr (PyData.keyHash w.params attr) (.str attr tk) .none es) (putN attr es n)) :: mu) nw L m s' → Q .next s')
    (hk : EnvOk env L := by exact ⟨rfl, rfl, rfl, rfl⟩) (hxs : env.kindOf self = some .local := by rfl) (hd : (self == ("__debug__" : Str)) = false := by decide)
    (hsw : swapsWith (.Constant .none k p1) (some (.Attribute (.Name self p2) attr p3)) p0.line env = pure false := by rfl) :
    wpAny (Md w) A (exec (.Assign [.Attribute (.Name self p2) attr p3] (.Constant .none k p1) p0) env) Q E s :=
  plainObj_wpAny_Assign_Attribute (wpAny_Constant_none (r_loc Z hs (r_setat Z hx ok ht hl hz h) hk hxs hd)) hsw
theorem mk_clause {fs : List Fm} {dv : Value} {R : Result → Shared → Prop} (Z : Sit w z H mu nw L m s) (rm : Room A 2) (hv : ListR nw (Rep w nw) fs dv)
    (h : ∀ v nw' s', Le nw nw' → Sit w z H mu nw' L m s' → ClauseR w nw' fs v → R (.ok (.ret v)) s') : codeAny (Md w) A (.call (.ref 1188) ⟨[dv], []⟩) R s := by
  refine r_make Z (mkClause w) (fClauseXinit w) (ty1125 w) fun x dx s₁ Z1 => ?_
  refine enter (d := 0) (binds := [("self", .ref x), ("data", dv)]) (rb := [("data", dv), ("self", .ref x)]) Z1 (Room.make rm) rfl (by kernel_rfl) (BindsTo.of_eq rfl) rfl (by decide) (locs rfl) ⟨rfl, rfl, rfl⟩ fun L' s₂ oL ns Z2 rm2 => ?_
  refine x_seq (x_setN Z2.swap rfl rfl (.head _) (okClause w) (tClauseXdata w) rfl (by decide) fun t1 s₃ Z3 => ?_)
  refine x_seq (x_setNone Z3 rfl (.head _) (okClause w) (tClauseXis_tautology w) rfl (Nat.le_add_left 1 899) fun t2 s₄ Z4 => ?_)
  refine x_seq (x_setNone Z4 rfl (.head _) (okClause w) (tClauseXparents w) rfl (Nat.le_add_left 2 898) fun t3 s₅ Z5 => ?_)
  have le : Le nw _ := fun p hp => .tail (dx, dictOf [dE w "data" t1 dv, dE w "_is_tautology" t2 .none, dE w "_parents" t3 .none] 3) (.tail (x, instObj 1188 dx) hp)
  exact wpAny_execs_nil ⟨rfl, h _ _ _ le (Z1.back ns Z5.swap).freeze ⟨x, dv, t1, t2, t3, rfl, ⟨dx, 3, .tail _ (.head _), .head _⟩, ListR.mono hv le fun _ _ y => y.mono le⟩⟩

/-- + of two lists that stay -/
theorem r_addL {α : Type} {R : α → Value → Prop} {as bs : List α} {v u : Value} {Q : Value → Shared → Prop} (Z : Sit w z H mu nw L m s) (hv : ListR nw R as v) (hu : ListR nw R bs u) (ha : as.length ≤ 1000) (hb : bs.length ≤ 1000)
    (h : ∀ r nw' s', Le nw nw' → Sit w z H mu nw' L m s' → ListR nw' R (as ++ bs) r → Q r s') : wpAny (Md w) A (binaryOp .Add v u) Q E s := by
  obtain ⟨l, vs, k, rfl, hl, hall⟩ := hv
  obtain ⟨l', us, k', rfl, hl', hall'⟩ := hu
  refine P.add_list (items := vs.toArray) (items2 := us.toArray) (n := k) (n2 := k') (Z.get hl) (Z.get hl') ?_ ?_
  · have Z1 := Z.alloc (W.listOf (vs.toArray ++ us.toArray) 0) rfl s.toks
    exact h _ _ _ (Le.cons _ _) Z1 ⟨_, vs ++ us, 0, rfl, by rw [List.append_toArray]; exact .head _, AllR.append hall hall'⟩
  · have := hall.length
    have := hall'.length
    simp only [List.size_toArray]
    exact Nat.le_trans (by omega : vs.length + us.length ≤ 2000) (by decide)
theorem lits_len : ∀ f : Fm, (lits f).length ≤ hC f + 1
  | .or a b => by
    have := lits_len a; have := lits_len b
    simp only [lits, hC, List.length_append]; omega
  | .app _ _ => Nat.le_refl _
  | .neg _ => Nat.le_refl _
  | .and _ _ => Nat.le_add_left 1 _
  | .imp _ _ => Nat.le_refl _
  | .iff _ _ => Nat.le_refl _
  | .all _ _ => Nat.le_refl _
  | .ex _ _ => Nat.le_refl _
theorem cls_len : ∀ f : Fm, (cls f).length ≤ hC f + 1
  | .and a b => by
    have := cls_len a; have := cls_len b
    simp only [cls, hC, List.length_append]; omega
  | .app _ _ => Nat.le_refl _
  | .neg _ => Nat.le_refl _
  | .or _ _ => Nat.le_add_left 1 _
  | .imp _ _ => Nat.le_refl _
  | .iff _ _ => Nat.le_refl _
  | .all _ _ => Nat.le_refl _
  | .ex _ _ => Nat.le_refl _
theorem okd_okC : ∀ {f : Fm}, okd f = true → okC f = true ∧ cls f = [lits f]
  | .app _ _, _ => ⟨rfl, rfl⟩
  | .neg (.app _ _), _ => ⟨rfl, rfl⟩
  | .or _ _, h => ⟨h, rfl⟩
theorem boot_len : bootBuiltins "len" = some (.builtin "len") := by boot_fast

/-- assert len(NAME) == 1 -/
theorem x_assLen1 {α : Type} {R : α → Value → Prop} {x : α} {v : Value} {name : Str} {k : Nat} {p0 p1 p2 p3 p4 p5 : Pos} {msg : Option Expr} {Q : Flow → Shared → Prop} (Z : Sit w z H mu nw L m s) (hy : m name = some v) (hv : ListR nw R [x] v) (h : ∀ s', Sit w z H mu nw L m s' → Q .next s')
    (hk : EnvOk env L := by exact ⟨rfl, rfl, rfl, rfl⟩) (hi : env.kindOf "len" = some .globalImplicit := by rfl) (hx : env.kindOf name = some .local := by rfl) (hd : (name == ("__debug__" : Str)) = false := by decide)
    (hm : behindInMarks .Eq (.Constant (.int 1) k p4) = false := by with_unfolding_all rfl) :
    wpAny (Md w) A (exec (.Assert (.Compare (.Call (.Name "len" p1) [.Name name p2] [] p3) [.Eq] [.Constant (.int 1) k p4] p5) msg p0) env) Q E s := by
  obtain ⟨l, vs, j, rfl, hl, hall⟩ := hv
  have hlen := hall.length
  refine wpAny_Assert_holds (wpAny_isTrue_Compare1 (r_callB Z (blen w) boot_len (by decide) (sp_cons (r_loc Z hy (sp_nil ?_) hk hx hd) rfl) hk hi (by decide) rfl rfl) hm)
  have hsz : vs.toArray.size = 1 := by rw [List.size_toArray, ← hlen]; rfl
  refine PyProof.Rows.len_list (items := vs.toArray) ⟨_, Z.get hl, rfl, j, rfl⟩ (by rw [hsz]; decide) ?_
  rw [hsz]
  refine r_int (Z.toks (s.toks + 1 + 1)) fun t s' Z' => ?_
  refine P.eq_int (wpAny_truthy_bool ⟨rfl, h _ Z'⟩)

/-- NAME[0].data -/
theorem r_data0 {fs : List Fm} {v : Value} {name : Str} {k : Nat} {p1 p2 p3 p4 : Pos} {Q : Value → Shared → Prop} (Z : Sit w z H mu nw L m s) (hy : m name = some v) (hv : ClausesR w nw [fs] v)
    (h : ∀ dv s', Sit w z H mu nw L m s' → ListR nw (Rep w nw) fs dv → Q dv s')
    (hk : EnvOk env L := by exact ⟨rfl, rfl, rfl, rfl⟩) (hx : env.kindOf name = some .local := by rfl) (hd : (name == ("__debug__" : Str)) = false := by decide) (ht : ∀ o r, letTemporaryGo (.Name name p1) o r = pure () := by intro _ _; rfl)
    (he : eval (.Attribute (.Subscript (.Name name p1) (.Constant (.int 0) k p2) p3) "data" p4) env = (do let o ← eval (.Subscript (.Name name p1) (.Constant (.int 0) k p2) p3) env; standAt p4.atName; let r ← holding [o] (getAttr o "data" true); letTemporaryGo (.Subscript (.Name name p1) (.Constant (.int 0) k p2) p3) o r; pure r) := by rfl) :
    wpAny (Md w) A (eval (.Attribute (.Subscript (.Name name p1) (.Constant (.int 0) k p2) p3) "data" p4) env) Q E s := by
  obtain ⟨l, vs, j, rfl, hl, hall⟩ := hv
  cases vs with
  | nil => exact hall.elim
  | cons c vs =>
    obtain ⟨y, dv, t1, t2, t3, rfl, i, hd'⟩ := hall.1
    have hh : handedIn dv = true := by obtain ⟨_, _, _, rfl, _⟩ := hd'; rfl
    refine r_attr (r_item (v := .ref y) Z hy (List.mem_append_right _ hl) (by decide) (by decide) (by simp) (fun s' Z' => r_get Z' i (okClause w) (fClauseXdata w) rfl hh fun s'' Z'' => h dv s'' Z'' hd') hk hx hd ht) he

theorem clausify1_ok (w : World) (z : Shared) (H : Heap) : ∀ (f : Fm), okC f = true → hC f ≤ 300 → ∀ {mu nw : List Ent} {L : Addr} {m : Str → Option Value} {s : Shared} {A : Around} {E : Value → Shared → Prop} {v : Value} {Q : Value → Shared → Prop},
    Sit w z H mu nw L m s → Room A (hC f + 4) → Rep w nw f v → (∀ r nw' s', Le nw nw' → Sit w z H mu nw' L m s' → ClausesR w nw' (cls f) r → Q r s') → wpAny (Md w) A (call (.ref 1207) [v]) Q E s := by
  intro f
  induction f with
  | app f g =>
    intro kf bf mu nw L m s A E v Q Z0 rm hv h
    have hv0 := hv
    obtain ⟨y, p, q, t1, t2, rfl, i, hp, hq⟩ := hv
    refine wpA_call (enter (d := 3) (binds := [("expression", .ref y)]) (rb := [("expression", .ref y)]) Z0 rm rfl (by kernel_rfl) (BindsTo.of_eq rfl) rfl (by decide) (locs rfl) ⟨rfl, rfl, rfl⟩ fun L' s oL ns Z rm => ?_)
    refine x_seq (x_ifI Z rfl i (okApplication w) (nAnd w) (kApplicationX914 w) fun s Z => ?_)
    show wpAny _ _ (execs _ _) _ _ _
    refine x_seq (x_ifI Z rfl i (okApplication w) (nOr w) (kApplicationX954 w) fun s Z => ?_)
    show wpAny _ _ (execs _ _) _ _ _
    refine x_seq (x_ifI Z rfl i (okApplication w) (nEquality w) (kApplicationX1053 w) fun s Z => ?_)
    show wpAny _ _ (execs _ _) _ _ _
    refine x_seq (x_ifI Z rfl i (okApplication w) (nApplication w) (kApplicationX424 w) fun s Z => ?_)
    show wpAny _ _ (execs _ _) _ _ _
    refine x_seq (wpAny_Return_some (wpAny_List (sp_cons (r_callN Z (nClause w) (kpClause w) (sp_cons (wpAny_List (sp_cons (r_loc Z rfl (sp_nil ⟨(show 1 ≤ sizeLine by decide), sp_nil ?_⟩)))))))))
    have Z2 := Z.alloc (W.listOf #[.ref y] 0) rfl s.toks
    refine ⟨Z2.K, wpA_call (mk_clause (fs := [.app f g]) Z2 (rm.le (by decide)) ⟨_, [.ref y], 0, rfl, .head _, hv0.mono (Le.cons _ _), trivial⟩ fun vc nwc s lec Z hc => sp_nil ⟨(show 1 ≤ sizeLine by decide), ?_⟩)⟩
    have Z3 := Z.alloc (W.listOf #[vc] 0) rfl s.toks
    exact h _ _ _ (((Le.cons _ _).trans lec).trans (Le.cons _ _)) (Z0.back ns Z3) ⟨_, [vc], 0, rfl, .head _, hc.mono (Le.cons _ _), trivial⟩
  | neg g ih =>
    intro kf bf mu nw L m s A E v Q Z0 rm hv h
    have hv0 := hv
    cases g with
    | app f g =>
      obtain ⟨y, n, t0, rfl, i, y1, p, q, t1, t2, rfl, j, hp, hq⟩ := hv
      refine wpA_call (enter (d := 3) (binds := [("expression", .ref y)]) (rb := [("expression", .ref y)]) Z0 rm rfl (by kernel_rfl) (BindsTo.of_eq rfl) rfl (by decide) (locs rfl) ⟨rfl, rfl, rfl⟩ fun L' s oL ns Z rm => ?_)
      refine x_seq (x_ifI Z rfl i (okNegated w) (nAnd w) (kNegatedX914 w) fun s Z => ?_)
      show wpAny _ _ (execs _ _) _ _ _
      refine x_seq (x_ifI Z rfl i (okNegated w) (nOr w) (kNegatedX954 w) fun s Z => ?_)
      show wpAny _ _ (execs _ _) _ _ _
      refine x_seq (x_ifI Z rfl i (okNegated w) (nEquality w) (kNegatedX1053 w) fun s Z => ?_)
      show wpAny _ _ (execs _ _) _ _ _
      refine x_seq (x_ifI Z rfl i (okNegated w) (nApplication w) (kNegatedX424 w) fun s Z => ?_)
      show wpAny _ _ (execs _ _) _ _ _
      refine x_seq (x_ifI Z rfl i (okNegated w) (nNegated w) (kNegatedX815 w) fun s Z => ?_)
      show wpAny _ _ (execs _ _) _ _ _
      refine x_seq (wpAny_If (isTrue_plain (r_callB Z (isinstance_none w) boot_isinstance (by decide) (sp_cons (r_nattr Z rfl i (okNegated w) (fNegatedXterm w) rfl rfl fun s Z => sp_cons (r_glob Z (nApplication w) (sp_nil (r_isi Z j (okApplication w) (kApplicationX424 w) fun s Z => wpAny_truthy_bool ?_))))))))
      show wpAny _ _ (execs [_] _) _ _ _
      refine x_seq (wpAny_Return_some (wpAny_List (sp_cons (r_callN Z (nClause w) (kpClause w) (sp_cons (wpAny_List (sp_cons (r_loc Z rfl (sp_nil ⟨(show 1 ≤ sizeLine by decide), sp_nil ?_⟩)))))))))
      have Z2 := Z.alloc (W.listOf #[.ref y] 0) rfl s.toks
      refine ⟨Z2.K, wpA_call (mk_clause (fs := [.neg (.app f g)]) Z2 (rm.le (by decide)) ⟨_, [.ref y], 0, rfl, .head _, hv0.mono (Le.cons _ _), trivial⟩ fun vc nwc s lec Z hc => sp_nil ⟨(show 1 ≤ sizeLine by decide), ?_⟩)⟩
      have Z3 := Z.alloc (W.listOf #[vc] 0) rfl s.toks
      exact h _ _ _ (((Le.cons _ _).trans lec).trans (Le.cons _ _)) (Z0.back ns Z3) ⟨_, [vc], 0, rfl, .head _, hc.mono (Le.cons _ _), trivial⟩
    | _ => cases kf
  | and a b iha ihb =>
    intro kf bf mu nw L m s A E v Q Z0 rm hv h
    simp only [okC, Bool.and_eq_true] at kf
    simp only [hC] at bf
    obtain ⟨y, p, q, t1, t2, rfl, i, ra, rb⟩ := hv
    obtain ⟨ya, rfl⟩ := rep_ref ra
    obtain ⟨yb, rfl⟩ := rep_ref rb
    refine wpA_call (enter (d := hC a + hC b + 4) (binds := [("expression", .ref y)]) (rb := [("expression", .ref y)]) Z0 (rm.le (by simp only [hC]; omega)) rfl (by kernel_rfl) (BindsTo.of_eq rfl) rfl (by decide) (locs rfl) ⟨rfl, rfl, rfl⟩ fun L' s oL ns Z rm => ?_)
    refine x_seq (x_ifI Z rfl i (okAnd w) (nAnd w) (kAndX914 w) fun s Z => ?_)
    show wpAny _ _ (execs _ _) _ _ _
    refine x_seq (wpAny_Return_some (wpAny_BinOp (r_callN Z (n1207 w) (kp1207 w) (sp_cons (r_nattr Z rfl i (okAnd w) (fAndXfirst w) rfl rfl fun s Z => sp_nil ⟨Z.K, ?_⟩)))))
    refine iha kf.1 (by omega) Z (rm.le (by omega)) ra fun v1 nw1 s le1 Z h1 => ?_
    refine r_callN Z (n1207 w) (kp1207 w) (sp_cons (r_nattr Z rfl (i.mono le1) (okAnd w) (fAndXsecond w) rfl rfl fun s Z => sp_nil ⟨Z.K, ?_⟩))
    refine ihb kf.2 (by omega) Z (rm.le (by omega)) (rb.mono le1) fun v2 nw2 s le2 Z h2 => ?_
    have l1 := cls_len a
    have l2 := cls_len b
    refine r_addL (R := ClauseR w nw2) Z (h1.mono le2) h2 (by omega) (by omega) fun r nw3 s le3 Z h3 => h _ _ _ ((le1.trans le2).trans le3) (Z0.back ns Z) (ListR.mono h3 (Le.refl _) fun _ _ x => x.mono le3)
  | or a b iha ihb =>
    intro kf bf mu nw L m s A E v Q Z0 rm hv h
    have kf' : (okd a && okd b) = true := kf
    simp only [Bool.and_eq_true] at kf'
    simp only [hC] at bf
    obtain ⟨ca, ea⟩ := okd_okC kf'.1
    obtain ⟨cb, eb⟩ := okd_okC kf'.2
    rw [ea] at iha
    rw [eb] at ihb
    obtain ⟨y, p, q, t1, t2, rfl, i, ra, rb⟩ := hv
    obtain ⟨ya, rfl⟩ := rep_ref ra
    obtain ⟨yb, rfl⟩ := rep_ref rb
    refine wpA_call (enter (d := hC a + hC b + 4) (binds := [("expression", .ref y)]) (rb := [("expression", .ref y)]) Z0 (rm.le (by simp only [hC]; omega)) rfl (by kernel_rfl) (BindsTo.of_eq rfl) rfl (by decide) (locs rfl) ⟨rfl, rfl, rfl⟩ fun L' s oL ns Z rm => ?_)
    refine x_seq (x_ifI Z rfl i (okOr w) (nAnd w) (kOrX914 w) fun s Z => ?_)
    show wpAny _ _ (execs _ _) _ _ _
    refine x_seq (x_ifI Z rfl i (okOr w) (nOr w) (kOrX954 w) fun s Z => ?_)
    show wpAny _ _ (execs _ _) _ _ _
    refine x_seq (x_asg (r_callN Z (n1207 w) (kp1207 w) (sp_cons (r_nattr Z rfl i (okOr w) (fOrXfirst w) rfl rfl fun s Z => sp_nil ⟨Z.K, ?_⟩))))
    refine iha ca (by omega) Z (rm.le (by omega)) ra fun v1 nw1 s le1 Z h1 => r_store Z fun s Z => ?_
    refine x_seq (x_asg (r_callN Z (n1207 w) (kp1207 w) (sp_cons (r_nattr Z rfl (i.mono le1) (okOr w) (fOrXsecond w) rfl rfl fun s Z => sp_nil ⟨Z.K, ?_⟩))))
    refine ihb cb (by omega) Z (rm.le (by omega)) (rb.mono le1) fun v2 nw2 s le2 Z h2 => r_store Z fun s Z => ?_
    have h1 := h1.mono le2
    refine x_seq (x_assLen1 Z rfl h1 fun s Z => ?_)
    refine x_seq (x_assLen1 Z rfl h2 fun s Z => ?_)
    have l1 := lits_len a
    have l2 := lits_len b
    refine x_seq (wpAny_Return_some (wpAny_List (sp_cons (r_callN Z (nClause w) (kpClause w) (sp_cons (wpAny_BinOp (r_data0 Z rfl h1 fun d1 s Z e1 => r_data0 Z rfl h2 fun d2 s Z e2 => ?_)))))))
    refine r_addL (R := Rep w nw2) Z e1 e2 (by omega) (by omega) fun r nw3 s le3 Z h3 => sp_nil ⟨Z.K, ?_⟩
    refine wpA_call (mk_clause Z (rm.le (by omega)) (ListR.mono h3 (Le.refl _) fun _ _ x => Rep.mono le3 x) fun vc nwc s lec Z hc => sp_nil ⟨(show 1 ≤ sizeLine by decide), ?_⟩)
    have Z3 := Z.alloc (W.listOf #[vc] 0) rfl s.toks
    exact h _ _ _ ((((le1.trans le2).trans le3).trans lec).trans (Le.cons _ _)) (Z0.back ns Z3) ⟨_, [vc], 0, rfl, .head _, hc.mono (Le.cons _ _), trivial⟩
  | _ => intro kf; cases kf
end
end Mine
end

section
open PySem PySem.W PySem.Spec PySem.Calls PyProof.Rows
set_option Elab.async false
set_option maxRecDepth 100000
namespace Mine
set_option linter.unusedVariables false
set_option maxHeartbeats 4000000
section
variable {w : World} {z : Shared} {H : Heap} {mu nw : List Ent} {L a : Addr} {m : Str → Option Value} {s : Shared} {A : Around} {E : Value → Shared → Prop} {B d : Nat} {env : Env}

/-- leaving a display: the caller's situation again, the display's own locals let go -/
theorem Sit.backOff {C : Addr} {m' : Str → Option Value} {oL : Obj} {mu' nw' : List Ent} {s' : Shared} {h' : Heap} (gl : Glob w H) (above : H.objs.size ≤ L) (ns : NsObj oL m) (Z' : Sit w z H ((L, oL) :: mu') nw' C m' s') (hs : Heap.SameBut C s'.heap h') (tk : Tok) : Sit w z H mu' nw' L m { s' with heap := h', toks := tk } := by
  obtain ⟨es, ep, hd, hk, hf⟩ := ns
  have nL := Z'.N (L, oL) (.head _)
  have hC : H.get? C = none := Heap.get?_none_of_le Z'.F.above
  refine ⟨gl, ⟨⟨oL, es, ep, (hs.2 L nL.2.1).trans nL.1, hd, hk, hf⟩, fun b o e => (hs.2 b fun q => by rw [q, hC] at e; cases e).trans (Z'.F.keep b o e), above⟩, fun q hq => ?_, fun q hq r hr => Z'.nd q (.tail _ hq) r hr, (List.pairwise_cons.mp Z'.mm).2, Z'.rest,
    Z'.tb.mono (fun q hq o e => (hs.2 q.2 (Z'.tn q hq).2.1).trans e) (fun _ h => h), fun q hq => ⟨(Z'.tn q hq).1, Ne.symm ((Z'.tn q hq).2.2 (L, oL) (.head _)), fun p hp => (Z'.tn q hq).2.2 p (.tail _ hp)⟩⟩
  have n := Z'.N q (.tail _ hq)
  refine ⟨(hs.2 q.1 n.2.1).trans n.1, ?_, n.2.2⟩
  rcases List.mem_append.mp hq with h | h
  · exact Ne.symm ((List.pairwise_cons.mp Z'.mm).1 q h)
  · exact Ne.symm (Z'.nd (L, oL) (.head _) q h)

/-- a new frame over the old one -/
theorem Sit.frame {m' : Str → Option Value} {oC : Obj} {h₁ : Heap} (Z : Sit w z H mu nw L m s) (hns : h₁.Ns s.heap.objs.size m') (hsb : Heap.SameBut s.heap.objs.size (s.heap.push oC) h₁) (tk : Tok) :
    ∃ oL, NsObj oL m ∧ Sit w z H ((L, oL) :: mu) nw s.heap.objs.size m' { s with heap := h₁, toks := tk } := by
  obtain ⟨oL, es, ep, hL, hLd, hLk, hLf⟩ := Z.F.ns
  have hk₁ : ∀ b o, s.heap.get? b = some o → h₁.get? b = some o := fun b o e => hsb.extBut b o (Nat.ne_of_lt (Heap.lt_size e)) (Heap.get?_push_of_some _ e)
  have Lne : ∀ q ∈ mu ++ nw, q.1 ≠ L := fun q hq => (Z.N q hq).2.1
  refine ⟨oL, ⟨es, ep, hLd, hLk, hLf⟩, Z.gl, ⟨hns, fun b o e => hk₁ b o (Z.F.keep b o e), Nat.le_trans Z.F.above (Nat.le_of_lt (Heap.lt_size hL))⟩, (fun q hq => ?_), (fun q hq r hr => ?_), (List.pairwise_cons.mpr ⟨fun q hq => Ne.symm (Lne q (List.mem_append_left _ hq)), Z.mm⟩), Z.rest, Z.tb.mono (fun q hq o e => hk₁ _ _ e) (fun p hp => hp), fun q hq => ⟨(Z.tn q hq).1, Nat.ne_of_lt (Z.ltT hq), fun p hp => ?_⟩⟩
  · rcases List.mem_cons.mp hq with rfl | hq
    · refine ⟨hk₁ _ _ hL, Nat.ne_of_lt (Heap.lt_size hL), ?_⟩
      cases e : H.get? L with
      | none => rfl
      | some o => exact absurd (Nat.lt_of_lt_of_le (Heap.lt_size e) Z.F.above) (Nat.lt_irrefl _)
    · have n := Z.N q hq
      exact ⟨hk₁ _ _ n.1, Nat.ne_of_lt (Heap.lt_size n.1), n.2.2⟩
  · rcases List.mem_cons.mp hq with rfl | hq
    · exact Ne.symm (Lne r (List.mem_append_right _ hr))
    · exact Z.nd q hq r hr
  · rcases List.mem_cons.mp hp with rfl | hp
    · exact Ne.symm (Z.tn q hq).2.1
    · exact (Z.tn q hq).2.2 p hp

noncomputable abbrev testsOf (ifs : List Expr) (cenv : Env) : Sem Bool := forIn ifs true fun c r => if r = true then do let ok ← isTrue c cenv (eval c cenv); pure (ForInStep.yield ok) else pure (ForInStep.yield r)

theorem codeAny_compLoop_testsA {R : Result → Shared → Prop} {elt target iter : Expr} {ifs : List Expr} {scope : Scope} {pos : Pos} {it acc : Value} {env : Env} (I : Nat → Shared → Prop)
    (turn : ∀ n s, I n s → wpAny (Md w) A (pyNext it) (fun r s₁ => match r with
      | none => R (.ok .next) s₁
      | some v => wpAny (Md w) A (letOwnedTupleGo target it v) (fun _ s₀ => wpAny (Md w) A (assign target env v) (fun _ s₂ =>
          wpAny (Md w) A (testsOf ifs env) (fun ok s₃ =>
            if ok = true then wpAny (Md w) A (eval elt env) (fun x s₄ =>
              wpAny (Md w) A (call (.builtin "list.append") [acc, x]) (fun _ s₅ => ∃ m, m < n ∧ I m s₅) (notedBy (Md w) A env fun e s' => R (.error e) s') s₄) (notedBy (Md w) A env fun e s' => R (.error e) s') s₃
            else ∃ m, m < n ∧ I m s₃) (notedBy (Md w) A env fun e s' => R (.error e) s') s₂) (notedBy (Md w) A env fun e s' => R (.error e) s') s₀) (notedBy (Md w) A env fun e s' => R (.error e) s') s₁) (notedBy (Md w) A env fun e s' => R (.error e) s') s)
    (n : Nat) {s : Shared} (h : I n s) : codeAny (Md w) A (.compLoop (.ListComp elt [⟨target, iter, ifs, 0⟩] scope pos) 0 it acc env) R s := by
  refine codeAny_loop rfl I (fun n s hI => ?_) n h
  show wpAny _ A ((compTurn (.ListComp elt [⟨target, iter, ifs, 0⟩] scope pos) 0 it acc env).onRaise (fun x => do noteFrame x env; theTreesLotGoes x)) _ _ s
  refine wpAny_noted ?_
  rw [compTurn_list]
  refine wpAny_bind (wpAny_standAt (wpAny_bind (wpAny_mono (turn n s hI) (fun r s₁ h₁ => ?_) fun _ _ h' => h')))
  cases r with
  | none => exact wpAny_pure h₁
  | some v =>
    refine wpAny_bind (wpAny_mono h₁ (fun _ s₀ h₀ => ?_) fun _ _ h' => h')
    refine wpAny_bind (wpAny_mono h₀ (fun _ s₂ h₂ => wpAny_bind (wpAny_mono h₂ (fun ok s₃ h₃ => ?_) fun _ _ h' => h')) fun _ _ h' => h')
    cases ok with
    | false => exact wpAny_pure ⟨rfl, h₃⟩
    | true =>
      exact wpAny_bind (wpAny_bind (wpAny_mono h₃ (fun x s₄ h₄ => wpAny_bind (wpAny_mono h₄ (fun _ s₅ h₅ => wpAny_pure (wpAny_pure ⟨rfl, h₅⟩)) fun _ _ h' => h')) fun _ _ h' => h'))

/-- the turns of a list display -/
theorem comp_core {elt target iter : Expr} {ifs : List Expr} {scope : Scope} {cl : List (Str × Addr)} {pos : Pos} {use : Option (Value → Sem Unit)} {Qf : Value → Shared → Prop} {s₂ : Shared} {I : Addr} {o : Obj} {n : Nat} {P : Nat → Value → Prop} {St : Nat → Obj → Prop} {J : Nat → List Ent → List Ent → List Value → Prop}
    (hcell : ∀ y ∈ scope.names, y.2 ≠ .cell) (hkind : scope.kind = .function) (WS : Steps w nw I n P St) (ho : St 0 o)
    (self : ∀ {s : Shared} {o : Obj} {A : Around} {E : Value → Shared → Prop} {Q : Value → Shared → Prop}, s.heap.get? I = some o → St 0 o → Q (.ref I) s → wpAny (Md w) A (pyIter (.ref I)) Q E s)
    (own : ∀ {i : Nat} {s : Shared} {o : Obj} {v : Value} {A : Around} {E : Value → Shared → Prop} {Q : Unit → Shared → Prop}, s.heap.get? I = some o → St (i + 1) o → P i v → (∀ p ∈ nw, s.heap.get? p.1 = some p.2) → Q () s → wpAny (Md w) A (letOwnedTupleGo target (.ref I) v) Q E s)
    (Z : Sit w z H ((I, o) :: mu) nw L m s₂) (hh : A.handled = none) (hn : n ≤ 10000) (hJ0 : J 0 mu nw [])
    (step : ∀ i v p q C cm oL mu' nw' ys s' E', i < n → P i v → J i mu' nw' ys → Le nw nw' → NsObj oL m → H.objs.size ≤ L → Sit w z H (p :: q :: (L, oL) :: mu') nw' C cm s' →
          wpAny (Md w) A (assign target (compEnvC scope cl C env) v) (fun _ s₂ => wpAny (Md w) A (testsOf ifs (compEnvC scope cl C env)) (fun ok s₃ =>
            if ok = true then wpAny (Md w) A (eval elt (compEnvC scope cl C env)) (fun x s₄ => ∃ oL' mu'' nw'' cm'', NsObj oL' m ∧ Le nw' nw'' ∧ Sit w z H (p :: q :: (L, oL') :: mu'') nw'' C cm'' s₄ ∧ J (i + 1) mu'' nw'' (ys ++ [x])) E' s₃
            else ∃ oL' mu'' nw'' cm'', NsObj oL' m ∧ Le nw' nw'' ∧ Sit w z H (p :: q :: (L, oL') :: mu'') nw'' C cm'' s₃ ∧ J (i + 1) mu'' nw'' ys) E' s₂) E' s')
    (fin : ∀ mu' nw' ys D k C cm oL s', J n mu' nw' ys → Le nw nw' → NsObj oL m → H.objs.size ≤ L → Sit w z H ((L, oL) :: (D, W.listOf (List.toArray ys) k) :: mu') nw' C cm s' → compPost (Md w) A E use Qf (.ref D) C (.ok .next) s') :
    wpAny (Md w) A (newList []) (fun acc s₃ => wpAny (Md w) A (newFunctionEnv scope env.globals cl [] env.qual none .none (some env)) (fun cenv s₄ => codeAny (Md w) A (.compStart (.ListComp elt [⟨target, iter, ifs, 0⟩] scope pos) 0 (.ref I) acc { cenv with scope := relabel scope env }) (compPost (Md w) A E use Qf acc cenv.locals) s₄) E s₃) E s₂ := by
  refine wpAny_newObj_type (wpAny_newFunctionEnv hcell (by intro y hy; simp at hy) (fun h₁ hns₁ hsb₁ => ?_) hkind)
  have ZD := Z.allocM (W.listOf #[] 0) rfl s₂.toks
  obtain ⟨oL, nsL, ZC⟩ := ZD.frame hns₁ hsb₁ (s₂.toks + ([] : List (Str × Value)).length)
  have above := Z.F.above
  have gl := Z.gl
  dsimp only at ZC ⊢
  generalize (s₂.heap.push (W.listOf #[] 0)).objs.size = C at ZC ⊢
  have loop : ∀ s₃ : Shared, s₃ = { s₂ with heap := h₁, toks := s₂.toks + ([] : List (Str × Value)).length } →
      codeAny (Md w) A (.compLoop (.ListComp elt [⟨target, iter, ifs, 0⟩] scope pos) 0 (.ref I) (.ref s₂.heap.objs.size) (compEnvC scope cl C env))
        (compPost (Md w) A E use Qf (.ref s₂.heap.objs.size) C) s₃ := by
    rintro s₃ rfl
    generalize s₂.heap.objs.size = D at ZC ⊢
    refine codeAny_compLoop_testsA (fun k s' => ∃ i o' oL mu' nw' ys j cm, NsObj oL m ∧ k = n - i ∧ i ≤ n ∧ St i o' ∧ J i mu' nw' ys ∧ Le nw nw' ∧ ys.length ≤ i ∧ Sit w z H ((I, o') :: (D, W.listOf (List.toArray ys) j) :: (L, oL) :: mu') nw' C cm s') ?_ n
      ⟨0, o, oL, mu, nw, [], 0, _, nsL, rfl, Nat.zero_le _, ho, hJ0, Le.refl _, Nat.le_refl _, ZC.third.perm (.cons _ (.swap ..))⟩
    rintro k s' ⟨i, o', oL, mu', nw', ys, j, cm, nsL, rfl, hi, hst, hJ, le, hys, Z'⟩
    by_cases hlt : i < n
    · refine WS.item hlt (fun p hp => Z'.get (le p hp)) (Z'.getM (.head _)) hst fun v h₁ o₁ tk hP ho₁ hst₁ hsb => ?_
      have Z1 := Z'.turnT hsb ho₁ tk
      refine own ho₁ hst₁ hP (fun p hp => Z1.get (le p hp)) ?_
      refine wpAny_mono (step i v (I, o₁) (D, W.listOf (List.toArray ys) j) C cm oL mu' nw' ys _ _ hlt hP hJ le nsL above Z1) (fun _ s₄ h₄ => wpAny_mono h₄ (fun ok s₅ h₅ => ?_) fun _ _ e => e) fun _ _ e => e
      cases ok with
      | false =>
        simp only [Bool.false_eq_true, if_false] at h₅ ⊢
        obtain ⟨oL₂, mu₂, nw₂, cm₂, ns₂, le₂, Z₂, hJ₂⟩ := h₅
        exact ⟨n - (i + 1), by omega, i + 1, o₁, oL₂, mu₂, nw₂, ys, j, cm₂, ns₂, rfl, hlt, hst₁, hJ₂, le.trans le₂, by omega, Z₂⟩
      | true =>
        simp only [if_true] at h₅ ⊢
        refine wpAny_mono h₅ (fun x s₆ h₆ => ?_) fun _ _ e => e
        obtain ⟨oL₂, mu₂, nw₂, cm₂, ns₂, le₂, Z₂, hJ₂⟩ := h₆
        refine r_append Z₂.swap (by rw [List.size_toArray]; omega) fun s₇ Z₇ => ?_
        refine ⟨n - (i + 1), by omega, i + 1, o₁, oL₂, mu₂, nw₂, ys ++ [x], j + 1, cm₂, ns₂, rfl, hlt, hst₁, hJ₂, le.trans le₂, by rw [List.length_append, List.length_singleton]; omega, ?_⟩
        have := Z₇.swap
        rw [List.push_toArray] at this
        exact this
    · have hin : i = n := by omega
      subst hin
      refine WS.done hh (fun p hp => Z'.get (le p hp)) (Z'.getM (.head _)) hst fun h₁ tk hx₁ => ?_
      have Z1 := (Z'.ext hx₁ tk).swap
      exact fin mu' nw' ys D j C cm oL _ hJ le nsL above Z1
  exact codeAny_compStart_list (loop _ rfl) (self (ZC.getM (.tail _ (.tail _ (.head _)))) ho (loop _ rfl))

/-- what a list display's walk wants, behind its iterator -/
inductive CompIn2 (w : World) (z : Shared) (H : Heap) (A : Around) (L : Addr) (env : Env) (elt target : Expr) (ifs : List Expr) (scope : Scope) (cl : List (Str × Addr)) (Q : Value → Shared → Prop) (it : Value) (s₂ : Shared) : Prop
  | mk (I : Addr) (o : Obj) (mu nw : List Ent) (m : Str → Option Value) (n : Nat) (P : Nat → Value → Prop) (St : Nat → Obj → Prop)
    (f0 : it = .ref I)
    (f1 : Steps w nw I n P St)
    (f2 : St 0 o)
    (f3 : ∀ {s : Shared} {o : Obj} {A : Around} {E : Value → Shared → Prop} {Q : Value → Shared → Prop}, s.heap.get? I = some o → St 0 o → Q (.ref I) s → wpAny (Md w) A (pyIter (.ref I)) Q E s)
    (f4 : ∀ {i : Nat} {s : Shared} {o : Obj} {v : Value} {A : Around} {E : Value → Shared → Prop} {Q : Unit → Shared → Prop}, s.heap.get? I = some o → St (i + 1) o → P i v → (∀ p ∈ nw, s.heap.get? p.1 = some p.2) → Q () s → wpAny (Md w) A (letOwnedTupleGo target (.ref I) v) Q E s)
    (f5 : Sit w z H ((I, o) :: mu) nw L m s₂)
    (f6 : A.handled = none)
    (f7 : n ≤ 10000)
    (J : Nat → List Ent → List Ent → List Value → Prop)
    (f9 : J 0 mu nw [])
    (f10 : ∀ i v p q C cm oL mu' nw' ys s' E', i < n → P i v → J i mu' nw' ys → Le nw nw' → NsObj oL m → H.objs.size ≤ L → Sit w z H (p :: q :: (L, oL) :: mu') nw' C cm s' →
          wpAny (Md w) A (assign target (compEnvC scope cl C env) v) (fun _ s₂ => wpAny (Md w) A (testsOf ifs (compEnvC scope cl C env)) (fun ok s₃ =>
            if ok = true then wpAny (Md w) A (eval elt (compEnvC scope cl C env)) (fun x s₄ => ∃ oL' mu'' nw'' cm'', NsObj oL' m ∧ Le nw' nw'' ∧ Sit w z H (p :: q :: (L, oL') :: mu'') nw'' C cm'' s₄ ∧ J (i + 1) mu'' nw'' (ys ++ [x])) E' s₃
            else ∃ oL' mu'' nw'' cm'', NsObj oL' m ∧ Le nw' nw'' ∧ Sit w z H (p :: q :: (L, oL') :: mu'') nw'' C cm'' s₃ ∧ J (i + 1) mu'' nw'' ys) E' s₂) E' s')
    (f11 : ∀ mu' nw' ys D k s', J n mu' nw' ys → Le nw nw' → Sit w z H ((D, W.listOf (List.toArray ys) k) :: mu') nw' L m s' → Q (.ref D) s') : CompIn2 w z H A L env elt target ifs scope cl Q it s₂

/-- a list display, its target a tuple as well, its items' calls may fill the frame's slots -/
theorem r_comp2 {elt target iter : Expr} {ifs : List Expr} {scope : Scope} {cl : List (Str × Addr)} {pos : Pos} {Q : Value → Shared → Prop}
    (hclos : closureFor scope env = pure cl) (hcell : ∀ y ∈ scope.names, y.2 ≠ .cell) (hkind : scope.kind = .function) (hnames : ∀ y ∈ scope.names, y.2 = .local → scope.names.lookup y.1 = some .local)
    (h : wpAny (Md w) A (eval iter env) (fun xv s₁ => wpAny (Md w) A (pyIter xv) (fun it s₂ => CompIn2 w z H A L env elt target ifs scope cl Q it s₂) E s₁) E s)
    (hs : ∀ x, foldedSetIterable iter env x = pure x := by intro _; rfl) :
    wpAny (Md w) A (eval (.ListComp elt [⟨target, iter, ifs, 0⟩] scope pos) env) Q E s := by
  rw [eval_ListComp]
  refine wpAny_comprehension_free (use := none) rfl hs hclos hkind hnames (wpAny_mono h (fun xv s₁ h₁ => wpAny_mono h₁ (fun it s₂ h₂ => ?_) fun _ _ e => e) fun _ _ e => e)
  obtain ⟨I, o, mu, nw, m, n, P, St, rfl, WS, ho, self, own, Z, hh, hn, J, hJ0, step, done⟩ := h₂
  exact comp_core hcell hkind WS ho self own Z hh hn hJ0 step fun mu' nw' ys D k C cm oL s' hJ le nsL above Z1 => ⟨cm, Z1.F.ns, fun h' hs' => done mu' nw' ys D k _ hJ le (Sit.backOff Z.gl above nsL Z1 hs' _)⟩

/-- what a list display's walk wants, behind its iterator -/
inductive CompIn1 (w : World) (z : Shared) (H : Heap) (A : Around) (L : Addr) (env : Env) (elt target : Expr) (ifs : List Expr) (scope : Scope) (cl : List (Str × Addr)) (Q : Value → Shared → Prop) (it : Value) (s₂ : Shared) : Prop
  | mk (I : Addr) (o : Obj) (mu nw : List Ent) (m : Str → Option Value) (n : Nat) (P : Nat → Value → Prop) (St : Nat → Obj → Prop)
    (f0 : it = .ref I)
    (f1 : Steps w nw I n P St)
    (f2 : St 0 o)
    (f3 : ∀ {s : Shared} {o : Obj} {A : Around} {E : Value → Shared → Prop} {Q : Value → Shared → Prop}, s.heap.get? I = some o → St 0 o → Q (.ref I) s → wpAny (Md w) A (pyIter (.ref I)) Q E s)
    (f4 : Sit w z H ((I, o) :: mu) nw L m s₂)
    (f5 : A.handled = none)
    (f6 : n ≤ 10000)
    (J : Nat → List Ent → List Ent → List Value → Prop)
    (f8 : J 0 mu nw [])
    (f9 : ∀ i v p q C cm oL mu' nw' ys s' E', i < n → P i v → J i mu' nw' ys → Le nw nw' → NsObj oL m → Sit w z H (p :: q :: (L, oL) :: mu') nw' C cm s' →
          wpAny (Md w) A (assign target (compEnvC scope cl C env) v) (fun _ s₂ => wpAny (Md w) A (testsOf ifs (compEnvC scope cl C env)) (fun ok s₃ =>
            if ok = true then wpAny (Md w) A (eval elt (compEnvC scope cl C env)) (fun x s₄ => ∃ mu'' nw'' cm'', Le nw' nw'' ∧ Sit w z H (p :: q :: (L, oL) :: mu'') nw'' C cm'' s₄ ∧ J (i + 1) mu'' nw'' (ys ++ [x])) E' s₃
            else ∃ mu'' nw'' cm'', Le nw' nw'' ∧ Sit w z H (p :: q :: (L, oL) :: mu'') nw'' C cm'' s₃ ∧ J (i + 1) mu'' nw'' ys) E' s₂) E' s')
    (f10 : ∀ mu' nw' ys D k s', J n mu' nw' ys → Le nw nw' → Sit w z H ((D, W.listOf (List.toArray ys) k) :: mu') nw' L m s' → Q (.ref D) s') : CompIn1 w z H A L env elt target ifs scope cl Q it s₂

/-- a list display -/
theorem r_comp {elt target iter : Expr} {ifs : List Expr} {scope : Scope} {cl : List (Str × Addr)} {pos : Pos} {Q : Value → Shared → Prop}
    (hclos : closureFor scope env = pure cl) (hcell : ∀ y ∈ scope.names, y.2 ≠ .cell) (hkind : scope.kind = .function) (hnames : ∀ y ∈ scope.names, y.2 = .local → scope.names.lookup y.1 = some .local)
    (h : wpAny (Md w) A (eval iter env) (fun xv s₁ => wpAny (Md w) A (pyIter xv) (fun it s₂ => CompIn1 w z H A L env elt target ifs scope cl Q it s₂) E s₁) E s)
    (hs : ∀ x, foldedSetIterable iter env x = pure x := by intro _; rfl)
    (ht : ∀ it v, letOwnedTupleGo target it v = pure () := by intro _ _; rfl) :
    wpAny (Md w) A (eval (.ListComp elt [⟨target, iter, ifs, 0⟩] scope pos) env) Q E s := by
  refine r_comp2 (z := z) (H := H) (L := L) hclos hcell hkind hnames (wpAny_mono h (fun xv s₁ h₁ => wpAny_mono h₁ (fun it s₂ h₂ => ?_) fun _ _ e => e) fun _ _ e => e) hs
  obtain ⟨I, o, mu, nw, m, n, P, St, rfl, WS, ho, self, Z, hh, hn, J, hJ0, step, done⟩ := h₂
  refine ⟨I, o, mu, nw, m, n, P, St, rfl, WS, ho, self, fun _ _ _ _ hQ => by rw [ht]; exact wpAny_pure hQ, Z, hh, hn, J, hJ0, fun i v p q C cm oL mu' nw' ys s' E' hi hP hJ le nsL above Z' => ?_, done⟩
  refine wpAny_mono (step i v p q C cm oL mu' nw' ys s' E' hi hP hJ le nsL Z') (fun _ s₂ h₂ => wpAny_mono h₂ (fun ok s₃ h₃ => ?_) fun _ _ e => e) fun _ _ e => e
  cases ok with
  | false =>
    obtain ⟨mu₂, nw₂, cm₂, a, b, c⟩ := h₃
    exact ⟨oL, mu₂, nw₂, cm₂, nsL, a, b, c⟩
  | true => exact wpAny_mono h₃ (fun x s₄ h₄ => let ⟨mu₂, nw₂, cm₂, a, b, c⟩ := h₄; ⟨oL, mu₂, nw₂, cm₂, nsL, a, b, c⟩) fun _ _ e => e
/-- what a list display's walk wants, behind its iterator -/
inductive CompInA (w : World) (z : Shared) (H : Heap) (A : Around) (L : Addr) (env : Env) (elt target : Expr) (ifs : List Expr) (scope : Scope) (cl : List (Str × Addr)) (y : Str) (Q : Flow → Shared → Prop) (it : Value) (s₂ : Shared) : Prop
  | mk (I : Addr) (o : Obj) (mu nw : List Ent) (m : Str → Option Value) (n : Nat) (P : Nat → Value → Prop) (St : Nat → Obj → Prop)
    (f0 : it = .ref I)
    (f1 : Steps w nw I n P St)
    (f2 : St 0 o)
    (f3 : ∀ {s : Shared} {o : Obj} {A : Around} {E : Value → Shared → Prop} {Q : Value → Shared → Prop}, s.heap.get? I = some o → St 0 o → Q (.ref I) s → wpAny (Md w) A (pyIter (.ref I)) Q E s)
    (f4 : ∀ {i : Nat} {s : Shared} {o : Obj} {v : Value} {A : Around} {E : Value → Shared → Prop} {Q : Unit → Shared → Prop}, s.heap.get? I = some o → St (i + 1) o → P i v → (∀ p ∈ nw, s.heap.get? p.1 = some p.2) → Q () s → wpAny (Md w) A (letOwnedTupleGo target (.ref I) v) Q E s)
    (f5 : Sit w z H ((I, o) :: mu) nw L m s₂)
    (f6 : A.handled = none)
    (f7 : n ≤ 10000)
    (J : Nat → List Ent → List Ent → List Value → Prop)
    (f9 : J 0 mu nw [])
    (f10 : ∀ i v p q C cm oL mu' nw' ys s' E', i < n → P i v → J i mu' nw' ys → Le nw nw' → NsObj oL m → H.objs.size ≤ L → Sit w z H (p :: q :: (L, oL) :: mu') nw' C cm s' →
          wpAny (Md w) A (assign target (compEnvC scope cl C env) v) (fun _ s₂ => wpAny (Md w) A (testsOf ifs (compEnvC scope cl C env)) (fun ok s₃ =>
            if ok = true then wpAny (Md w) A (eval elt (compEnvC scope cl C env)) (fun x s₄ => ∃ oL' mu'' nw'' cm'', NsObj oL' m ∧ Le nw' nw'' ∧ Sit w z H (p :: q :: (L, oL') :: mu'') nw'' C cm'' s₄ ∧ J (i + 1) mu'' nw'' (ys ++ [x])) E' s₃
            else ∃ oL' mu'' nw'' cm'', NsObj oL' m ∧ Le nw' nw'' ∧ Sit w z H (p :: q :: (L, oL') :: mu'') nw'' C cm'' s₃ ∧ J (i + 1) mu'' nw'' ys) E' s₂) E' s')
    (f11 : ∀ mu' nw' ys D k s', J n mu' nw' ys → Le nw nw' → Sit w z H ((D, W.listOf (List.toArray ys) k) :: mu') nw' L (fun x => if x = y then some (.ref D) else m x) s' → Q .next s') : CompInA w z H A L env elt target ifs scope cl y Q it s₂

/-- a list display put into a local name -/
theorem x_asgComp {elt target iter : Expr} {ifs : List Expr} {scope : Scope} {cl : List (Str × Addr)} {y : Str} {py pos spos : Pos} {Q : Flow → Shared → Prop}
    (hsw : swapsWith (.ListComp elt [⟨target, iter, ifs, 0⟩] scope pos) (some (.Name y py)) spos.line env = pure true) (hke : EnvOk env L) (hy : env.kindOf y = some .local)
    (hclos : closureFor scope env = pure cl) (hcell : ∀ y ∈ scope.names, y.2 ≠ .cell) (hkind : scope.kind = .function) (hnames : ∀ y ∈ scope.names, y.2 = .local → scope.names.lookup y.1 = some .local)
    (h : wpAny (Md w) A (eval iter env) (fun xv s₁ => wpAny (Md w) A (pyIter xv) (fun it s₂ => CompInA w z H A L env elt target ifs scope cl y Q it s₂) E s₁) E s)
    (hs : ∀ x, foldedSetIterable iter env x = pure x := by intro _; rfl) :
    wpAny (Md w) A (exec (.Assign [.Name y py] (.ListComp elt [⟨target, iter, ifs, 0⟩] scope pos) spos) env) Q E s := by
  rw [exec_Assign_Name_used _ _ _ _ hsw]
  refine wpAny_bind (wpAny_standAt (wpAny_bind ?_))
  show wpAny _ A (do let _ ← comprehension (.ListComp elt [⟨target, iter, ifs, 0⟩] scope pos) scope env _ (newList []) false (eval iter env) (some (assign (.Name y py) env))) _ _ s
  refine wpAny_bind (wpAny_mono (wpAny_comprehension_free (use := some (assign (.Name y py) env)) (Q := fun _ s' => Q .next s') rfl hs hclos hkind hnames
    (wpAny_mono h (fun xv s₁ h₁ => wpAny_mono h₁ (fun it s₂ h₂ => ?_) fun _ _ e => e) fun _ _ e => e)) (fun _ s' hq => wpAny_pure (wpAny_pure hq)) fun _ _ e => e)
  obtain ⟨I, o, mu, nw, m, n, P, St, rfl, WS, ho, self, own, Z, hh, hn, J, hJ0, step, done⟩ := h₂
  have gl := Z.gl
  refine comp_core hcell hkind WS ho self own Z hh hn hJ0 step fun mu' nw' ys D k C cm oL s' hJ le nsL above Z1 => ?_
  show wpAny _ A (assign (.Name y py) env (.ref D)) _ _ _
  obtain ⟨es, ep, hd, hk, hf⟩ := nsL
  have ZL := Z1
  obtain ⟨-, rfl, hkk, -⟩ := hke
  refine wpAny_assign_Name (wpAny_storeName_local hy ⟨oL, es, ep, ZL.getM (.head _), hd, hk, hf⟩ (fun h₂ hn₂ hs₂ => ?_) (by rw [hkk]; rfl))
  obtain ⟨oL₂, es₂, ep₂, hL₂, hd₂, hk₂, hf₂⟩ := hn₂
  have Z2 := ZL.turnT hs₂ hL₂ s'.toks
  refine ⟨cm, Z2.F.ns, fun h' hs' => ?_⟩
  exact done mu' nw' ys D k _ hJ le (Sit.backOff gl above ⟨es₂, ep₂, hd₂, hk₂, hf₂⟩ Z2 hs' _)
end
end Mine
end

section
open PySem PySem.W PySem.Spec PySem.Calls PyProof.Rows
set_option Elab.async false
set_option maxRecDepth 100000
namespace Mine
set_option linter.unusedVariables false
set_option maxHeartbeats 4000000
theorem AllR.nth {α : Type} {R : α → Value → Prop} {as : List α} {vs : List Value} (h : AllR R as vs) {i : Nat} {v : Value} (e : vs[i]? = some v) : ∃ a, as[i]? = some a ∧ R a v := h.get e
section
variable {w : World} {z : Shared} {H : Heap} {mu nw : List Ent} {L a : Addr} {m : Str → Option Value} {s : Shared} {A : Around} {E : Value → Shared → Prop} {B d : Nat} {env : Env}
/-- a list display over a list that stays, one value for each item -/
theorem r_map {α β : Type} {R : List Ent → α → Value → Prop} {R' : List Ent → β → Value → Prop} {as : List α} {g : α → β} {elt iter : Expr} {x : Str} {px pos : Pos} {scope : Scope} {cl : List (Str × Addr)} {xv : Value} {Q : Value → Shared → Prop}
    (Z : Sit w z H mu nw L m s) (hh : A.handled = none) (hv : ListR nw (R nw) as xv) (hn : as.length ≤ 10000)
    (monoR : ∀ {nw nw' a v}, Le nw nw' → R nw a v → R nw' a v) (monoR' : ∀ {nw nw' a v}, Le nw nw' → R' nw a v → R' nw' a v)
    (hiter : ∀ {Q' : Value → Shared → Prop}, (∀ s', Sit w z H mu nw L m s' → Q' xv s') → wpAny (Md w) A (eval iter env) Q' E s)
    (step : ∀ {a : α} {v : Value} {C : Addr} {cm : Str → Option Value} {mu' nw' : List Ent} {s' : Shared} {E' : Value → Shared → Prop} {Q' : Value → Shared → Prop}, a ∈ as → R nw' a v → Le nw nw' → (∀ p ∈ mu, p ∈ mu') → Sit w z H mu' nw' C (upd cm x v) s' →
      (∀ r nw'' s'', Le nw' nw'' → Sit w z H mu' nw'' C (upd cm x v) s'' → R' nw'' (g a) r → Q' r s'') → wpAny (Md w) A (eval elt (compEnvC scope cl C env)) Q' E' s')
    (h : ∀ r nw' s', Le nw nw' → Sit w z H mu nw' L m s' → ListR nw' (R' nw') (as.map g) r → Q r s')
    (hclos : closureFor scope env = pure cl := by rfl) (hcell : ∀ y ∈ scope.names, y.2 ≠ .cell := by decide) (hkind : scope.kind = .function := by rfl) (hnames : ∀ y ∈ scope.names, y.2 = .local → scope.names.lookup y.1 = some .local := by decide)
    (hg : env.globals = mainGlobals := by rfl) (hb : env.builtins = builtinsNs := by rfl) (hxx : ∀ C, (compEnvC scope cl C env).kindOf x = some .local := by intro _; rfl)
    (hs : ∀ x, foldedSetIterable iter env x = pure x := by intro _; rfl) (ht : ∀ it v, letOwnedTupleGo (.Name x px) it v = pure () := by intro _ _; rfl) :
    wpAny (Md w) A (eval (.ListComp elt [⟨.Name x px, iter, [], 0⟩] scope pos) env) Q E s := by
  obtain ⟨l, vs, k, rfl, hl, hall⟩ := hv
  have hlen := hall.length
  refine r_comp (z := z) (H := H) (L := L) hclos hcell hkind hnames (hiter fun s₁ Z1 => wpAny_pyIter_list (items := vs.toArray) ⟨_, Z1.get hl, rfl, k, rfl⟩ ?_) hs ht
  have Z2 := Z1.allocM { cls := .type "list_iterator", data := .fields #[.ref l, .int 0 0] } rfl s₁.toks
  refine ⟨s₁.heap.objs.size, _, mu, nw, m, vs.toArray.size, _, _, rfl, steps_list hl (Nat.ne_of_lt (Z1.lt (List.mem_append_right _ hl))), ⟨rfl, rfl⟩, (fun ho hst hQ => wpAny_pyIter_listiter (l := l) (i := 0) ⟨_, ho, hst⟩ hQ), Z2, hh, by rw [List.size_toArray]; omega,
    fun i mu' nw' ys => mu' = mu ∧ AllR (R' nw') ((as.take i).map g) ys, ⟨rfl, trivial⟩, ?_, ?_⟩
  · rintro i v p q C cm oL mu' nw' ys s' E' hi hvi ⟨rfl, hys⟩ le nsL Z'
    obtain ⟨b, hb', hR⟩ := hall.nth (by simpa using hvi)
    refine wpAny_assign_Name (r_store Z' (fun s₂ Z₂ => ?_) ⟨hg, rfl, by simp [compEnvC, relabel, hkind], hb⟩ (hxx C))
    refine wpAny_pure ?_
    simp only [if_true]
    refine step (List.mem_of_getElem? hb') (monoR le hR) le (fun p hp => .tail _ (.tail _ (.tail _ hp))) Z₂ fun r nw'' s'' le'' Z'' hr => ⟨mu', nw'', _, le'', Z'', rfl, ?_⟩
    rw [List.take_add_one, hb', Option.toList_some, List.map_append]
    exact AllR.append (hys.mono fun _ _ x => monoR' le'' x) ⟨hr, trivial⟩
  · rintro mu' nw' ys D j s' ⟨rfl, hys⟩ le Z'
    have : as.take vs.toArray.size = as := by rw [List.size_toArray, ← hlen]; exact List.take_length
    rw [this] at hys
    exact h _ _ _ (le.trans (Le.cons _ _)) Z'.freeze ⟨D, ys, j, rfl, .head _, hys.mono fun _ _ x => monoR' (Le.cons _ _) x⟩

noncomputable def isLit : Fm → Bool
  | .app _ _ => true
  | .neg (.app _ _) => true
  | _ => false
noncomputable def frL (f : Fm) : List Str := union [frF f, coF f]
theorem frF_lit : ∀ {f : Fm}, isLit f = true → (frF f).length ≤ 2 ∧ (coF f).length ≤ 1
  | .app f n, _ => ⟨frF_len f n, coF_len f n⟩
  | .neg (.app f n), _ => by
    have h1 := frF_len f n
    have h2 := coF_len f n
    have h3 := union_len [frF (.app f n)]
    have h4 := union_len [coF (.app f n)]
    simp only [List.flatten_cons, List.flatten_nil, List.append_nil] at h3 h4
    exact ⟨Nat.le_trans h3 h1, Nat.le_trans h4 h2⟩
theorem m_freeL {f : Fm} {x : Str} {v : Value} {p1 p2 pos : Pos} {pl : Sem Bool} {Q : Value → Shared → Prop} (Z : Sit w z H mu nw L m s) (rm : Room A 12) (hf : isLit f = true) (hx : m x = some v) (hv : Rep w nw f v)
    (h : ∀ r nw' s', Le nw nw' → Sit w z H mu nw' L m s' → VarsR w nw' (frF f) r → Q r s')
    (hk : EnvOk env L := by exact ⟨rfl, rfl, rfl, rfl⟩) (hxx : env.kindOf x = some .local := by rfl) (hd : (x == ("__debug__" : Str)) = false := by decide)
    (he : eval (.Call (.Attribute (.Name x p1) "free" p2) [] [] pos) env = (do
      let ov ← eval (.Name x p1) env
      standAt p2.atName
      let (f, first) ← holding [ov] (getMethod ov "free" pl)
      callWith pos f first (backTo pos (starEach [] env)) []) := by rfl) :
    wpAny (Md w) A (eval (.Call (.Attribute (.Name x p1) "free" p2) [] [] pos) env) Q E s := by
  have hv0 := hv
  match f, hf with
  | .app _ _, _ =>
    obtain ⟨y, _, _, _, _, rfl, i, _⟩ := hv
    exact r_call0 Z hx i (okApplication w) (fApplicationXfree w) (ty295 w) (kp295 w) rfl (free_App Z (rm.le (by decide)) hv0 h) hk hxx hd he
  | .neg (.app _ _), _ =>
    obtain ⟨y, _, _, rfl, i, _⟩ := hv
    exact r_call0 Z hx i (okNegated w) (fNegatedXfree w) (ty295 w) (kp295 w) rfl (free_Neg Z rm hv0 h) hk hxx hd he
theorem m_constL {f : Fm} {x : Str} {v : Value} {p1 p2 pos : Pos} {pl : Sem Bool} {Q : Value → Shared → Prop} (Z : Sit w z H mu nw L m s) (rm : Room A 12) (hf : isLit f = true) (hx : m x = some v) (hv : Rep w nw f v)
    (h : ∀ r nw' s', Le nw nw' → Sit w z H mu nw' L m s' → VarsR w nw' (coF f) r → Q r s')
    (hk : EnvOk env L := by exact ⟨rfl, rfl, rfl, rfl⟩) (hxx : env.kindOf x = some .local := by rfl) (hd : (x == ("__debug__" : Str)) = false := by decide)
    (he : eval (.Call (.Attribute (.Name x p1) "constants" p2) [] [] pos) env = (do
      let ov ← eval (.Name x p1) env
      standAt p2.atName
      let (f, first) ← holding [ov] (getMethod ov "constants" pl)
      callWith pos f first (backTo pos (starEach [] env)) []) := by rfl) :
    wpAny (Md w) A (eval (.Call (.Attribute (.Name x p1) "constants" p2) [] [] pos) env) Q E s := by
  have hv0 := hv
  match f, hf with
  | .app _ _, _ =>
    obtain ⟨y, _, _, _, _, rfl, i, _⟩ := hv
    exact r_call0 Z hx i (okApplication w) (fApplicationXconstants w) (ty363 w) (kp363 w) rfl (const_App Z (rm.le (by decide)) hv0 h) hk hxx hd he
  | .neg (.app _ _), _ =>
    obtain ⟨y, _, _, rfl, i, _⟩ := hv
    exact r_call0 Z hx i (okNegated w) (fNegatedXconstants w) (ty302 w) (kp302 w) rfl (const_Neg Z rm hv0 h) hk hxx hd he

noncomputable def frC (fs : List Fm) : List Str := union (fs.map frL)
theorem cfree_ok {fs : List Fm} {v : Value} {Q : Value → Shared → Prop} (Z : Sit w z H mu nw L m s) (rm : Room A 14) (hv : ClauseR w nw fs v) (hl : ∀ f ∈ fs, isLit f = true) (hn : fs.length ≤ 300)
    (h : ∀ r nw' s', Le nw nw' → Sit w z H mu nw' L m s' → VarsR w nw' (frC fs) r → Q r s') : wpAny (Md w) A (call (.ref 1173) [v]) Q E s := by
  obtain ⟨y, dv, t1, t2, t3, rfl, i, hd⟩ := hv
  have hdr : handedIn dv = true := by obtain ⟨_, _, _, rfl, _⟩ := hd; rfl
  refine wpA_call (enter (d := 13) (binds := [("self", .ref y)]) (rb := [("self", .ref y)]) Z rm rfl (by kernel_rfl) (BindsTo.of_eq rfl) rfl (by decide) (locs rfl) ⟨rfl, rfl, rfl⟩ fun L' s₁ oL ns Z1 rm1 => ?_)
  refine x_seq (wpAny_Return_some (r_callN Z1 (n57 w) (kp57 w) (sp_cons (r_map (R := fun nw f v => Rep w nw f v) (R' := fun nw ns v => VarsR w nw ns v) (as := fs) (g := frL) Z1 rm1.2.2 hd (by omega) (fun le x => x.mono le) (fun le x => x.mono le) (fun hQ => r_nattr Z1 rfl i (okClause w) (fClauseXdata w) rfl hdr hQ) ?_ ?_))))
  · intro f v C cm mu' nw' s' E' Q' hf hv le _ Z2 hQ
    have lf := hl f hf
    refine r_callN Z2 (n57 w) (kp57 w) (sp_cons (wpAny_List (sp_cons (m_freeL Z2 (rm1.le (by decide)) lf (if_pos rfl) hv fun r1 nw3 s₃ le3 Z3 h1 => ?_))))
    refine sp_cons (m_constL Z3 (rm1.le (by decide)) lf (if_pos rfl) (hv.mono le3) fun r2 nw4 s₄ le4 Z4 h2 => sp_nil ⟨(show 2 ≤ sizeLine by decide), sp_nil ?_⟩)
    have Z5 := Z4.alloc (W.listOf #[r1, r2] 0) rfl s₄.toks
    have lc := frF_lit lf
    refine ⟨Z5.K, union_ok (nss := [frF f, coF f]) Z5 (rm1.le (by decide)) ⟨_, [r1, r2], 0, rfl, .head _, (h1.mono le4).mono (Le.cons _ _), h2.mono (Le.cons _ _), trivial⟩ ?_ fun r nw6 s₆ le6 Z6 hr => hQ _ _ _ (((le3.trans le4).trans (Le.cons _ _)).trans le6) Z6 hr⟩
    simp; omega
  · intro r nw' s' le Z' hr
    refine sp_nil ⟨Z'.K, union_ok (nss := fs.map frL) Z' (rm1.le (by decide)) hr ?_ fun r nw6 s₆ le6 Z6 hr => h _ _ _ (le.trans le6) (Z.back ns Z6) hr⟩
    have : ∀ gs : List Fm, (∀ f ∈ gs, isLit f = true) → (gs.map frL).flatten.length ≤ 3 * gs.length := by
      intro gs
      induction gs with
      | nil => intro _; simp
      | cons f gs ih =>
        intro hg
        have h1 := ih fun f hf => hg f (.tail _ hf)
        have h2 := frF_lit (hg f (.head _))
        have h3 := union_len [frF f, coF f]
        simp only [List.flatten_cons, List.flatten_nil, List.append_nil, List.length_append] at h3
        simp only [List.map_cons, List.flatten_cons, List.length_append, List.length_cons, frL]
        omega
    have := this fs hl
    omega

theorem r_cellE {x : Str} {c : Addr} {o : Obj} {v : Value} {pos : Pos} {Q : Value → Shared → Prop} (Z : Sit w z H mu nw L m s) (hc : env.cells.lookup x = some c) (hm : (c, o) ∈ mu ++ nw) (hd : o.data = .cell (some v)) (h : Q v s)
    (hk : env.scope.kind = .function := by rfl) (hx : env.kindOf x = some .cell := by rfl) (hb : (x == ("__debug__" : Str)) = false := by decide) :
    wpAny (Md w) A (eval (.Name x pos) env) Q E s := wpAny_Name (wpAny_loadName_cell hk hx hc ⟨o, Z.N.get hm, hd⟩ h) hb
theorem lit_okr : ∀ {f : Fm}, isLit f = true → okr f = true ∧ hR f ≤ 2
  | .app _ _, _ => ⟨rfl, Nat.le_add_left 1 1⟩
  | .neg (.app _ _), _ => ⟨rfl, Nat.le_refl 2⟩
theorem creplace_ok {fs : List Fm} {x y : Str} {v u e : Value} {Q : Value → Shared → Prop} (Z : Sit w z H mu nw L m s) (rm : Room A 14) (hv : ClauseR w nw fs v) (hl : ∀ f ∈ fs, isLit f = true) (hn : fs.length ≤ 300) (hu : VarR w nw x u) (he : TermR w nw y e)
    (h : ∀ r nw' s', Le nw nw' → Sit w z H mu nw' L m s' → ClauseR w nw' (fs.map (rp x y)) r → Q r s') : wpAny (Md w) A (call (.ref 1178) [v, u, e]) Q E s := by
  obtain ⟨yv, dv, t1, t2, t3, rfl, i, hd⟩ := hv
  have hdr : handedIn dv = true := by obtain ⟨_, _, _, rfl, _⟩ := hd; rfl
  refine wpA_call (enterC (d := 13) (binds := [("self", .ref yv), ("variable", u), ("expression", e)]) Z rm rfl (by kernel_rfl) (BindsTo.of_eq rfl)
    (fun n => by
      intro x hx
      rcases List.mem_cons.mp hx with rfl | hx; exact .inl rfl
      rcases List.mem_cons.mp hx with rfl | hx; exact .inr ⟨rfl, rfl⟩
      cases List.mem_singleton.mp hx; exact .inr ⟨rfl, rfl⟩) (by decide) ⟨rfl, rfl, rfl⟩ fun L' s₁ oL cells ns hc Z1 rm1 => ?_)
  obtain ⟨o2, o1, rfl, h2, h1⟩ := CellsAre.two (n := "expression") (c := L' + 2) (n' := "variable") (c' := L' + 1) hc
  have d1 : o1.data = .cell (some u) := h1
  have d2 : o2.data = .cell (some e) := h2
  have Z2 := Z1.freeze.freeze
  have le1 : Le nw ((L' + 1, o1) :: (L' + 2, o2) :: nw) := fun p hp => .tail _ (.tail _ hp)
  generalize hnw1 : (L' + 1, o1) :: (L' + 2, o2) :: nw = nw1 at Z2 le1
  have m1 : (L' + 1, o1) ∈ nw1 := hnw1 ▸ .head _
  have m2 : (L' + 2, o2) ∈ nw1 := hnw1 ▸ .tail _ (.head _)
  show wpAny _ _ (execs _ (envX _ _ L' 1178 (.ref 1177) [("expression", L' + 2), ("variable", L' + 1)])) _ _ _
  refine x_seq (wpAny_Return_some (r_callN Z2 (nClause w) (kpClause w) (sp_cons (r_map (R := fun nw f v => Rep w nw f v) (R' := fun nw f v => Rep w nw f v) (as := fs) (g := rp x y) Z2 rm1.2.2 (ListR.mono hd le1 fun _ _ q => q.mono le1) (by omega) (fun le x => x.mono le) (fun le x => x.mono le) (fun hQ => r_nattr Z2 rfl (i.mono le1) (okClause w) (fClauseXdata w) rfl hdr hQ) ?_ ?_))))
  · intro f v C cm mu' nw' s' E' Q' hf hv le _ Z3 hQ
    have lf := hl f hf
    obtain ⟨k1, k2⟩ := lit_okr lf
    obtain ⟨D, kd⟩ := okr_four k1
    have hv0 := hv
    obtain ⟨yr, er, rfl, ir, lr, -⟩ := hv.apart kd
    refine MethodCall_ (r_loc Z3 (if_pos rfl) (r_meth Z3 ir (four_rp w kd).ok (four_rp w kd).rep (ty269 w) lr ?_))
    refine r_args Z3 (kp269 w) (sp_cons (r_cellE Z3 rfl (List.mem_append_right _ (le _ m1)) d1 (sp_cons (r_cellE Z3 rfl (List.mem_append_right _ (le _ m2)) d2 (sp_nil ⟨Z3.K, ?_⟩)))))
    exact replace_ok w z H x y f k1 (full := false) Z3 (rm1.le (by omega)) hv0 (hu.mono (le1.trans le)) (he.mono (le1.trans le)) hQ
  · intro r nw' s' le Z' hr
    exact sp_nil ⟨Z'.K, wpA_call (mk_clause Z' (rm1.le (by decide)) hr fun vc nwc s lec Z'' hc => h _ _ _ ((le1.trans le).trans lec) (Z.back ns Z'') hc)⟩
end
end Mine
end

section
open PySem PySem.W PySem.Spec PySem.Calls PyProof.Rows
set_option Elab.async false
set_option maxRecDepth 100000
namespace Mine
set_option linter.unusedVariables false
set_option maxHeartbeats 4000000
/-- a clause's variables renamed, one after the other -/
noncomputable def rnC : List Str → List Fm → Int → List Fm × Int
  | [], fs, k => (fs, k)
  | n :: ns, fs, k => if isInd n then rnC ns (fs.map (rp n (zn (k + 1)))) (k + 1) else rnC ns fs k
noncomputable def rnOk : List Str → List Fm → Int → Prop
  | [], _, _ => True
  | n :: ns, fs, k => okN n = true ∧ if isInd n then zn (k + 1) ∉ frC fs ∧ 0 ≤ k ∧ k < 39 ∧ rnOk ns (fs.map (rp n (zn (k + 1)))) (k + 1) else rnOk ns fs k
noncomputable def rnAll : List (List Fm) → Int → List (List Fm) × Int
  | [], k => ([], k)
  | fs :: r, k => let (fs', k') := rnC (frC fs) fs k; let (r', k'') := rnAll r k'; (fs' :: r', k'')
noncomputable def rnAllOk : List (List Fm) → Int → Prop
  | [], _ => True
  | fs :: r, k => rnOk (frC fs) fs k ∧ rnAllOk r (rnC (frC fs) fs k).2
theorem isLit_rp {x y : Str} : ∀ {f : Fm}, isLit f = true → isLit (rp x y f) = true
  | .app _ _, _ => rfl
  | .neg (.app _ _), _ => rfl
theorem lit_map {x y : Str} {fs : List Fm} (h : ∀ f ∈ fs, isLit f = true) : ∀ f ∈ fs.map (rp x y), isLit f = true := fun f hf => by
  obtain ⟨g, hg, rfl⟩ := List.mem_map.mp hf
  exact isLit_rp (h g hg)

section
variable {w : World} {z : Shared} {H : Heap} {mu nw : List Ent} {L a : Addr} {m : Str → Option Value} {s : Shared} {A : Around} {E : Value → Shared → Prop} {B d : Nat} {env : Env}
theorem r_cfree {fs : List Fm} {x : Str} {v : Value} {p1 p2 pos : Pos} {pl : Sem Bool} {Q : Value → Shared → Prop} (Z : Sit w z H mu nw L m s) (rm : Room A 14) (hx : m x = some v) (hv : ClauseR w nw fs v) (hl : ∀ f ∈ fs, isLit f = true) (hn : fs.length ≤ 300)
    (h : ∀ r nw' s', Le nw nw' → Sit w z H mu nw' L m s' → VarsR w nw' (frC fs) r → Q r s')
    (hk : EnvOk env L := by exact ⟨rfl, rfl, rfl, rfl⟩) (hxx : env.kindOf x = some .local := by rfl) (hd : (x == ("__debug__" : Str)) = false := by decide)
    (he : eval (.Call (.Attribute (.Name x p1) "free" p2) [] [] pos) env = (do
      let ov ← eval (.Name x p1) env
      standAt p2.atName
      let (f, first) ← holding [ov] (getMethod ov "free" pl)
      callWith pos f first (backTo pos (starEach [] env)) []) := by rfl) :
    wpAny (Md w) A (eval (.Call (.Attribute (.Name x p1) "free" p2) [] [] pos) env) Q E s := by
  have hv0 := hv
  obtain ⟨y, dv, t1, t2, t3, rfl, i, hd'⟩ := hv
  exact r_call0 Z hx i (okClause w) (fClauseXfree w) (ty1173 w) (kp1173 w) rfl (cfree_ok Z rm hv0 hl hn h) hk hxx hd he

/-- one clause's inner loop, told by what is left of its names -/
noncomputable def RnSt (w : World) (z : Shared) (H : Heap) (p : Ent) (rest : List Ent) (L dx : Addr) (c lc : Addr) (tk : Tok) (ns : List Str) (res : List Fm × Int) (i : Nat) (mu nw : List Ent) (m : Str → Option Value) : Prop :=
  ∃ fs k t v, mu = p :: (dx, cntO w tk t k) :: rest ∧ rnC (ns.drop i) fs k = res ∧ rnOk (ns.drop i) fs k ∧ (∀ f ∈ fs, isLit f = true) ∧ fs.length ≤ 300 ∧ ClauseR w nw fs v ∧ m "clause" = some v ∧ m "counter" = some (.ref c) ∧ m "clause_list" = some (.ref lc)

/-- the outer loop, told by what is done -/
noncomputable def ClSt (w : World) (dx c lc : Addr) (tk : Tok) (CS res : List (List Fm)) (rest : List Ent) (i : Nat) (mu' nw' : List Ent) (m' : Str → Option Value) : Prop :=
  ∃ dn k t us j, mu' = (dx, cntO w tk t k) :: (lc, W.listOf (List.toArray us) j) :: rest ∧ AllR (ClauseR w nw') dn us ∧ dn.length = i ∧ res = dn ++ (rnAll (CS.drop i) k).1 ∧ rnAllOk (CS.drop i) k ∧ m' "counter" = some (.ref c) ∧ m' "clause_list" = some (.ref lc)
theorem clausify_ok {f r : Fm} {k' : Int} {v : Value} {Q : Value → Shared → Prop} (Z : Sit w z H mu nw L m s) (hd : 40 ≤ d) (hdr : hC r + 4 ≤ d) (rm : Room A (d + 1)) (hv : Rep w nw f v) (sk : SkOk w z H 0 d 0 k' f r) (kc : okC r = true) (hc : hC r ≤ 290)
    (hlit : ∀ fs ∈ cls r, (∀ g ∈ fs, isLit g = true) ∧ fs.length ≤ 300) (hok : rnAllOk (cls r) k')
    (h : ∀ u nw' s', Le nw nw' → Sit w z H mu nw' L m s' → ClausesR w nw' (rnAll (cls r) k').1 u → Q u s') : wpAny (Md w) A (call (.ref 1200) [v]) Q E s := by
  refine wpA_call (enter (d := d) (binds := [("expression", v), ("counter", .none)]) (rb := [("counter", .none), ("expression", v)]) Z rm rfl (by kernel_rfl) (binds_K Z.K rfl rfl rfl rfl rfl) rfl (by decide) (locs rfl) ⟨rfl, rfl, rfl⟩ fun L' s₁ oL ns Z1 rm1 => ?_)
  refine x_seq (x_ifNone (b := true) Z1 rfl rfl (x_seq (x_asg (wpAny_Call_NameR (r_glob Z1 (nCounter w) (callWith_K0 Z1.K (kpCounter w) ?_))))))
  refine wpA_call (mk_counter Z1 (rm1.le (by omega)) fun c dx tk t s₂ Z2 => ?_)
  refine r_store Z2 fun s₃ Z3 => wpAny_execs_nil ?_
  have hx : (c, instObj 46 dx) ∈ (c, instObj 46 dx) :: nw := .head _
  have le0 := Le.cons (c, instObj 46 dx) nw
  refine x_seq (x_asg (wpAny_List (sp_nil ⟨by decide, ?_⟩)))
  have Z4 := Z3.allocM (W.listOf #[] 0) rfl s₃.toks
  generalize s₃.heap.objs.size = lc at Z4 ⊢
  refine r_store Z4 fun s₅ Z5 => ?_
  have Z6 := Z5.swap
  refine x_seq (x_forL (z := z) (H := H) (L := L') (r_callN Z6 (n1207 w) (kp1207 w) (sp_cons ?_)))
  refine r_callN Z6 (n1091 w) (kp1091 w) (sp_cons (r_loc Z6 rfl ?_))
  refine sp_cons (wpAny_Constant_none (sp_cons (wpAny_Constant_none (sp_cons (r_loc Z6 rfl (sp_nil ⟨Z6.K, ?_⟩))))))
  refine sk rm1 Z6 hx (hv.mono le0) (.inl ⟨rfl, rfl⟩) (.inl ⟨rfl, rfl⟩) (Nat.le_refl _) (Nat.le_refl _) (fun j hj => nomatch hj) fun rv t7 nw7 s₇ le7 Z7 hr => sp_nil ⟨Z7.K, ?_⟩
  refine clausify1_ok w z H r kc (by omega) Z7 (rm1.le hdr) hr fun cv nw8 s₈ le8 Z8 hcv => ?_
  obtain ⟨l, vs, j, rfl, hl, hall⟩ := hcv
  refine ⟨l, vs.toArray, j, _, _, _, rfl, Z8, hl, rm1.2.2,
    fun i mu' nw' m' => ClSt w dx c lc tk (cls r) (rnAll (cls r) k').1 ((L, oL) :: mu) i mu' nw' m',
    ⟨[], k', t7, [], 0, rfl, trivial, rfl, rfl, hok, rfl, rfl⟩, ?_, ?_⟩
  · rintro p i pv mu' nw' m' s' E' hi hpv ⟨dn, k, t, us, j, rfl, hus, hlen, heq, hok', hc1, hc2⟩ le Z9
    obtain ⟨fs, hfs, hcl⟩ := hall.get (i := i) (by simpa using hpv)
    have hdrop : (cls r).drop i = fs :: (cls r).drop (i + 1) := by
      obtain ⟨hi', e⟩ := List.getElem?_eq_some_iff.mp hfs
      rw [List.drop_eq_getElem_cons hi', e]
    rw [hdrop] at heq hok'
    obtain ⟨ok1, ok2⟩ := hok'
    simp only [rnAll] at heq
    generalize hres : rnC (frC fs) fs k = res at heq ok2
    obtain ⟨lf, ln⟩ := hlit fs (List.mem_of_getElem? hfs)
    have hx' : ∀ {nw2 : List Ent}, Le nw' nw2 → (c, instObj 46 dx) ∈ nw2 := fun hle => hle _ (le _ (le8 _ (le7 _ hx)))
    refine x_seq (x_forL (z := z) (H := H) (L := L') (r_cfree Z9 (rm1.le (by omega)) (if_pos rfl) (hcl.mono le) lf ln fun fv nwA sA leA ZA hfv => ?_))
    obtain ⟨l2, vs2, j2, rfl, hl2, hall2⟩ := hfv
    refine ⟨l2, vs2.toArray, j2, _, _, _, rfl, ZA, hl2, rm1.2.2, fun i' mu2 nw2 m2 => RnSt w z H p ((lc, W.listOf (List.toArray us) j) :: (L, oL) :: mu) L' dx c lc tk (frC fs) res i' mu2 nw2 m2,
      ⟨fs, k, t, pv, rfl, hres, ok1, lf, ln, hcl.mono (le.trans leA), if_pos rfl, upd_ne hc1, upd_ne hc2⟩, ?_, ?_⟩
    · rintro p2 i2 pv2 mu2 nw2 m2 s2 E2 hi2 hpv2 ⟨fs2, k2, t2, v2, rfl, hr2, hok2, lf2, ln2, hcl2, mc, mk, ml⟩ le2 ZB
      obtain ⟨nm, hnm, hvar⟩ := hall2.get (i := i2) (by simpa using hpv2)
      have hdr2 : (frC fs).drop i2 = nm :: (frC fs).drop (i2 + 1) := by
        obtain ⟨hi', e⟩ := List.getElem?_eq_some_iff.mp hnm
        rw [List.drop_eq_getElem_cons hi', e]
      rw [hdr2] at hr2 hok2
      obtain ⟨hokn, hok2⟩ := hok2
      have hvar := hvar.mono le2
      have hvar0 := hvar
      obtain ⟨yv, tv, tkv, rfl, iv⟩ := hvar
      refine x_seq (x_ifFn ZB (if_pos rfl) iv (n1069 w) (kp1069 w) (fun Z' => indvar_ok Z' (rm1.le (by omega)) hokn) fun nwC sC leC ZC => ?_)
      cases q : isInd nm with
      | false =>
        show wpAny _ _ (execs [] _) _ _ _
        simp only [rnC, q, Bool.false_eq_true, if_false] at hr2 hok2
        exact wpAny_execs_nil (wpAny_execs_nil ⟨_, _, _, ⟨fs2, k2, t2, v2, rfl, hr2, hok2, lf2, ln2, hcl2.mono leC, upd_ne mc, upd_ne mk, upd_ne ml⟩, leC, ZC⟩)
      | true =>
        show wpAny _ _ (execs _ _) _ _ _
        simp only [rnC, q, if_true] at hr2 hok2
        obtain ⟨hz, h0, h1, hok2⟩ := hok2
        have zo := zok (k := k2 + 1) (by omega) (by omega)
        refine x_seq (x_asg (r_callN ZC (n585 w) (kp585 w) (sp_cons (r_kw2 ZC (n138 w) (kp138 w) (r_cfree ZC (rm1.le (by omega)) (upd_ne mc) (hcl2.mono leC) lf2 ln2 fun fv nwD sD leD ZD hfv => r_loc ZD (upd_ne mk) ⟨ZD.K, ?_⟩)))))
        refine unique_ok (kw := []) ZD.third (rm1.le (by omega)) (hx' (leA.trans (le2.trans (leC.trans leD)))) hfv hz zo.log zo.len zo.len' fun vz tz nwE sE leE ZE hvz => sp_nil ⟨ZE.K, ?_⟩
        refine VE_ok ZE.unthird (rm1.le (by omega)) zo.ok hvz fun vt nwF sF leF ZF hvt => r_store ZF fun sG ZG => ?_
        have leCF := leC.trans (leD.trans (leE.trans leF))
        have hclF := hcl2.mono leCF
        have hclF0 := hclF
        obtain ⟨yc, dc, u1, u2, u3, rfl, ic, -⟩ := hclF
        refine x_seq (x_asg (MethodCall_ (r_loc ZG mc (r_meth ZG ic (okClause w) (fClauseXreplace w) (ty1178 w) rfl ?_))))
        refine r_args ZG (kp1178 w) (sp_cons (r_loc ZG rfl (sp_cons (r_loc ZG rfl (sp_nil ⟨ZG.K, ?_⟩)))))
        refine creplace_ok ZG (rm1.le (by omega)) hclF0 lf2 ln2 (hvar0.mono leCF) hvt fun vc nwH sH leH ZH hcl' => r_store ZH fun sI ZI => ?_
        exact wpAny_execs_nil (wpAny_execs_nil ⟨_, _, _, ⟨fs2.map (rp nm (zn (k2 + 1))), k2 + 1, tz, vc, rfl, hr2, hok2, lit_map lf2, by rw [List.length_map]; exact ln2, hcl', by exact if_pos rfl, by exact mk, by exact ml⟩, leCF.trans leH, ZI⟩)
    · rintro mu2 nw2 m2 s2 ⟨fs2, k2, t2, v2, rfl, hr2, -, lf2, ln2, hcl2, mc, mk, ml⟩ le2 ZB
      have e : (frC fs).drop vs2.toArray.size = [] := by rw [List.size_toArray, ← hall2.length]; exact List.drop_length
      rw [e] at hr2
      have hr2' : (fs2, k2) = res := hr2
      subst hr2'
      have hsz : us.toArray.size ≤ 10000 := by
        have h1 := hus.length
        have h2 := cls_len r
        obtain ⟨hi', -⟩ := List.getElem?_eq_some_iff.mp hfs
        rw [List.size_toArray, ← h1]; omega
      refine x_seq (x_append ZB ml (.tail _ (.tail _ (.head _))) rfl rfl (r_loc ZB mc (r_append ZB.third hsz fun sC ZC => ?_)))
      refine wpAny_execs_nil ⟨_, _, _, ⟨dn ++ [fs2], k2, t2, us ++ [v2], j + 1, by rw [List.push_toArray], AllR.append (hus.mono fun _ _ x => x.mono (leA.trans le2)) ⟨hcl2, trivial⟩, by rw [List.length_append, hlen]; rfl, by rw [heq, List.append_assoc]; rfl, ok2, mk, ml⟩, leA.trans le2, ZC.unthird⟩
  · rintro mu' nw' m' s' ⟨dn, k, t, us, j, rfl, hus, hlen, heq, -, hc1, hc2⟩ le Z9
    refine x_seq (wpAny_Return_some (r_loc Z9 hc2 ?_))
    have e : (cls r).drop vs.toArray.size = [] := by rw [List.size_toArray, ← hall.length]; exact List.drop_length
    rw [e] at heq
    have : (rnAll (cls r) k').1 = dn := by rw [heq]; exact List.append_nil _
    rw [this] at h
    have Zb := (Z.back ns Z9.drop.swap).freeze
    exact h _ _ _ ((((le0.trans le7).trans le8).trans le).trans (Le.cons _ _)) Zb ⟨lc, us, j, rfl, .head _, hus.mono fun _ _ x => x.mono (Le.cons _ _)⟩
end
end Mine
end

section
open PySem PySem.W PySem.Spec PySem.Calls PyProof.Rows
set_option Elab.async false
set_option maxRecDepth 100000
namespace Mine
set_option linter.unusedVariables false
set_option maxHeartbeats 4000000
section
variable {w : World} {z : Shared} {H : Heap} {mu nw : List Ent} {L a : Addr} {m : Str → Option Value} {s : Shared} {A : Around} {E : Value → Shared → Prop} {B d : Nat} {env : Env}
theorem atom_ok {f n : Str} {t u : Tok} {Q : Value → Shared → Prop} (Z : Sit w z H mu nw L m s) (rm : Room A 4) (hf : okV f = true) (hn : okV n = true)
    (h : ∀ r nw' s', Le nw nw' → Sit w z H mu nw' L m s' → Rep w nw' (.app f n) r → Q r s') : wpAny (Md w) A (call (.ref 1249) [.str f t, .str n u]) Q E s := by
  refine wpA_call (enter (d := 3) (binds := [("word", .str f t), ("name", .str n u)]) (rb := [("name", .str n u), ("word", .str f t)]) Z rm rfl (by kernel_rfl) (BindsTo.of_eq rfl) rfl (by decide) (locs rfl) ⟨rfl, rfl, rfl⟩ fun L' s₁ oL ns Z1 rm1 => ?_)
  refine x_seq (wpAny_Return_some (r_callN Z1 (nApplication w) (kpApplication w) (sp_cons (r_callN Z1 (n585 w) (kp585 w) (sp_cons (r_callN Z1 (nVariable w) (kpVariable w) (sp_cons (r_loc Z1 rfl (sp_nil ⟨Z1.K, ?_⟩)))))))))
  refine wpA_call (mk_var Z1 (rm1.le (by decide)) fun v1 nw2 s₂ le2 Z2 h1 => sp_nil ⟨Z2.K, ?_⟩)
  refine VE_ok Z2 rm1 hf h1 fun v2 nw3 s₃ le3 Z3 h2 => ?_
  refine sp_cons (r_callN Z3 (n585 w) (kp585 w) (sp_cons (r_callN Z3 (nVariable w) (kpVariable w) (sp_cons (r_loc Z3 rfl (sp_nil ⟨Z3.K, ?_⟩))))))
  refine wpA_call (mk_var Z3 (rm1.le (by decide)) fun v4 nw4 s₄ le4 Z4 h4 => sp_nil ⟨Z4.K, ?_⟩)
  refine VE_ok Z4 rm1 hn h4 fun v5 nw5 s₅ le5 Z5 h5 => sp_nil ⟨Z5.K, ?_⟩
  exact wpA_call (mk_app Z5 (rm1.le (by decide)) (h2.mono (le4.trans le5)) h5 fun r nw6 s₆ le6 Z6 hr => h _ _ _ (le2.trans (le3.trans (le4.trans (le5.trans le6)))) (Z.back ns Z6) hr)

/-- box[0] % many, box[0] // many -/
theorem take_ok {b : Addr} {n many : Int} {tn tm : Tok} {k : Nat} {Q : Value → Shared → Prop} (Z : Sit w z H ((b, W.listOf #[.int n tn] k) :: mu) nw L m s) (rm : Room A 1) (hm : 0 < many) (hb : many.natAbs < 1073741824)
    (h : ∀ t t' k' s', Sit w z H ((b, W.listOf #[.int (n.fdiv many) t'] k') :: mu) nw L m s' → Q (.int (n.fmod many) t) s') : wpAny (Md w) A (call (.ref 1221) [.ref b, .int many tm]) Q E s := by
  refine wpA_call (enter (d := 0) (binds := [("box", .ref b), ("many", .int many tm)]) (rb := [("many", .int many tm), ("box", .ref b)]) Z rm rfl (by kernel_rfl) (BindsTo.of_eq rfl) rfl (by decide) (locs rfl) ⟨rfl, rfl, rfl⟩ fun L' s₁ oL ns Z1 rm1 => ?_)
  refine x_seq (x_asg (wpAny_BinOp (r_item (v := .int n tn) Z1 rfl (.tail _ (.head _)) (by decide) (by decide) rfl fun s₂ Z2 => r_loc Z2 rfl ?_)))
  refine PyProof.Rows.mod_int (by omega) ?_
  have Z3 := Z2.toks (s₂.toks + 1)
  generalize s₂.toks = tr at Z3 ⊢
  refine r_store Z3 fun s₄ Z4 => ?_
  refine x_seq (wpAny_Assign_Subscript (wpAny_BinOp (r_item (v := .int n tn) Z4 rfl (.tail _ (.head _)) (by decide) (by decide) rfl fun s₅ Z5 => r_loc Z5 rfl ?_)))
  refine PyProof.Rows.floordiv_int (by omega) ?_ (.inl (PyProof.noPylong_small hb))
  have Z6 := (Z5.toks (s₅.toks + 1)).swap
  generalize s₅.toks = tq at Z6 ⊢
  refine r_loc Z6 rfl (r_int Z6 fun ti s₇ Z7 => ?_)
  refine ksa_set (vs := [.int n tn]) (ns := [n]) (k := 0) (n := k) Z7.F Z7.newsT (.head Z7.neT) (IntsAre.cons n tn IntsAre.nil) (by decide) (show (0 : Int) < 1 by decide) (by decide) fun h' F' N' _ _ _ => ?_
  have Z8 := Z7.turned F' N' s₇.toks
  refine x_seq (wpAny_Return_some (r_loc Z8 rfl ?_))
  exact h tr tq k _ (Z.back ns Z8.swap)

theorem boot_abs : bootBuiltins "abs" = some (.builtin "abs") := by boot_fast
theorem box_ok {sl : Addr} {vs : List Value} {ns : List Int} {i : Nat} {ti : Tok} {Q : Value → Shared → Prop} (Z : Sit w z H mu nw L m s) (rm : Room A 1) (hl : H.IsList sl vs.toArray) (hi : IntsAre vs ns) (hsz : vs.length ≤ 2 ^ 30) (hi9 : i ≤ 9)
    (h : ∀ b n t k s', Sit w z H ((b, W.listOf #[.int n t] k) :: mu) nw L m s' → Q (.ref b) s') : wpAny (Md w) A (call (.ref 1214) [.ref sl, .int i ti]) Q E s := by
  have hl' : ∀ {mu nw L m s}, Sit w z H mu nw L m s → s.heap.IsList sl vs.toArray := fun {mu nw L m s} Z => hl.at fun o e => Z.F.keep sl o e
  refine wpA_call (enter (d := 0) (binds := [("script", .ref sl), ("k", .int i ti)]) (rb := [("k", .int i ti), ("script", .ref sl)]) Z rm rfl (by kernel_rfl) (BindsTo.of_eq rfl) rfl (by decide) (locs rfl) ⟨rfl, rfl, rfl⟩ fun L' s₁ oL ns' Z1 rm1 => ?_)
  refine x_seq (x_asg (wpAny_IfExp (wpAny_isTrue_Compare1 (r_loc Z1 rfl (r_callB Z1 (blen w) boot_len (by decide) (sp_cons (r_loc Z1 rfl (sp_nil ?_))))))))
  refine PyProof.Rows.len_list (items := vs.toArray) (hl' Z1) (by rw [List.size_toArray]; omega) ?_
  have Z2 := Z1.toks (s₁.toks + 1 + 1)
  refine P.lt_int (wpAny_truthy_bool ?_)
  cases hq : decide ((i : Int) < (vs.toArray.size : Int)) with
  | false =>
    show wpAny _ _ (eval (.Constant _ _ _) _) _ _ _
    refine r_int Z2 fun tc s₃ Z3 => ?_
    refine r_store Z3 fun s₄ Z4 => ?_
    refine x_seq (wpAny_If (wpAny_isTrue_Compare1 (r_loc Z4 rfl (wpAny_BinOp (r_int Z4 fun t5 s₅ Z5 => r_int Z5 fun t6 s₆ Z6 => PyProof.Rows.pow_int_small (by decide) (by decide) (by decide) (P.lt_int (wpAny_truthy_bool ?_)))))))
    have Z7 := Z6.toks (s₆.toks + 1)
    show wpAny _ _ (execs _ _) _ _ _
    refine x_seq (x_asg (wpAny_BinOp (wpAny_BinOp (r_loc Z7 rfl (r_int Z7 fun t8 s₈ Z8 => P.mul_int (r_int (Z8.toks _) fun t9 s₉ Z9 => P.mul_int (r_store (Z9.toks _) fun sA ZA => wpAny_execs_nil ?_) (IntMulOk.of_right (by decide))) (IntMulOk.of_right (by decide)))))))
    refine x_seq (wpAny_Return_some (wpAny_List (sp_cons (r_loc ZA rfl (sp_nil ⟨(show 1 ≤ sizeLine by decide), ?_⟩)))))
    exact h _ _ _ 0 _ (Z.back ns' (ZA.allocM (W.listOf #[.int _ _] 0) rfl sA.toks).swap)
  | true =>
    have hlt : i < vs.length := by have := of_decide_eq_true hq; rw [List.size_toArray] at this; omega
    obtain ⟨tv, hv⟩ := hi.get i (ns[i]'(by rw [← hi.length]; exact hlt)) (List.getElem?_eq_getElem _)
    show wpAny _ _ (eval (.Call _ _ _ _) _) _ _ _
    refine r_callB Z2 (babs w) boot_abs (by decide) (sp_cons (Subscript_Name (r_loc Z2 rfl (r_loc Z2 rfl ⟨"list", _, slot_list_getitem.lookup, (hl' Z2).typeIs, wpAny_getItem_list (hl' Z2) (by omega) (by omega) (by simpa using hv) (sp_nil ?_)⟩))))
    refine PyProof.Rows.call_abs_int fun tc tk => ?_
    generalize (if ns[i]'(by rw [← hi.length]; exact hlt) < 0 then -ns[i]'(by rw [← hi.length]; exact hlt) else ns[i]'(by rw [← hi.length]; exact hlt)) = c
    refine r_store (Z2.toks tk) fun s₄ Z4 => ?_
    refine x_seq (wpAny_If (wpAny_isTrue_Compare1 (r_loc Z4 rfl (wpAny_BinOp (r_int Z4 fun t5 s₅ Z5 => r_int Z5 fun t6 s₆ Z6 => PyProof.Rows.pow_int_small (by decide) (by decide) (by decide) (P.lt_int (wpAny_truthy_bool ?_)))))))
    have Z7 := Z6.toks (s₆.toks + 1)
    cases hq2 : decide (c < 10 ^ (12 : Int).toNat) with
    | true =>
      show wpAny _ _ (execs _ _) _ _ _
      refine x_seq (x_asg (wpAny_BinOp (wpAny_BinOp (r_loc Z7 rfl (r_int Z7 fun t8 s₈ Z8 => P.mul_int (r_int (Z8.toks _) fun t9 s₉ Z9 => P.mul_int (r_store (Z9.toks _) fun sA ZA => wpAny_execs_nil ?_) (IntMulOk.of_right (by decide))) (IntMulOk.of_right (by decide)))))))
      refine x_seq (wpAny_Return_some (wpAny_List (sp_cons (r_loc ZA rfl (sp_nil ⟨(show 1 ≤ sizeLine by decide), ?_⟩)))))
      exact h _ _ _ 0 _ (Z.back ns' (ZA.allocM (W.listOf #[.int _ _] 0) rfl sA.toks).swap)
    | false =>
      show wpAny _ _ (execs [] _) _ _ _
      refine wpAny_execs_nil ?_
      refine x_seq (wpAny_Return_some (wpAny_List (sp_cons (r_loc Z7 rfl (sp_nil ⟨(show 1 ≤ sizeLine by decide), ?_⟩)))))
      exact h _ _ _ 0 _ (Z.back ns' (Z7.allocM (W.listOf #[.int _ _] 0) rfl _).swap)
end
end Mine
end

section
open PySem PySem.W PySem.Spec PySem.Calls PyProof.Rows
set_option Elab.async false
set_option maxRecDepth 100000
namespace Mine
set_option linter.unusedVariables false
set_option maxHeartbeats 4000000
inductive Tr where
  | atom (k : Nat)
  | not (t : Tr)
  | bin (o : Nat) (a b : Tr)
noncomputable def cnT : Tr → Nat
  | .atom _ => 0
  | .not t => cnT t + 1
  | .bin _ a b => cnT a + cnT b + 1
noncomputable abbrev tupO (vs : Array Value) : Obj := { cls := .type "tuple", data := .seq vs }
noncomputable def opN : Nat → Str
  | 0 => "and"
  | 1 => "or"
  | 2 => "if"
  | _ => "iff"
noncomputable def TrR (nw : List Ent) : Tr → Value → Prop
  | .atom k, v => k < 3 ∧ ∃ y t1 t2, v = .ref y ∧ (y, tupO #[.str "atom" t1, .int k t2]) ∈ nw
  | .not t, v => ∃ y t1 p, v = .ref y ∧ (y, tupO #[.str "not" t1, p]) ∈ nw ∧ TrR nw t p
  | .bin o a b, v => o < 4 ∧ ∃ y t1 p q, v = .ref y ∧ (y, tupO #[.str (opN o) t1, p, q]) ∈ nw ∧ TrR nw a p ∧ TrR nw b q
theorem TrR.mono {nw nw' : List Ent} (h : Le nw nw') : ∀ {t : Tr} {v : Value}, TrR nw t v → TrR nw' t v
  | .atom k, _, ⟨k3, y, t1, t2, a, b⟩ => ⟨k3, y, t1, t2, a, h _ b⟩
  | .not t, _, ⟨y, t1, p, a, b, c⟩ => ⟨y, t1, p, a, h _ b, TrR.mono h c⟩
  | .bin o a b, _, ⟨ho, y, t1, p, q, e, m, ra, rb⟩ => ⟨ho, y, t1, p, q, e, h _ m, TrR.mono h ra, TrR.mono h rb⟩
section
variable {w : World} {z : Shared} {H : Heap} {mu nw : List Ent} {L a : Addr} {m : Str → Option Value} {s : Shared} {A : Around} {E : Value → Shared → Prop} {B d : Nat} {env : Env}
theorem fmod_in {n k : Int} (h : 0 < k) : 0 ≤ n.fmod k ∧ n.fmod k < k := ⟨Int.fmod_nonneg_of_pos n h, Int.fmod_lt_of_pos n h⟩
theorem r_subB {value e₁ e₂ : Expr} {op : Operator} {p pos : Pos} {Q : Value → Shared → Prop}
    (h : wpAny (Md w) A (eval value env) (fun o s₁ => wpAny (Md w) A (eval (.BinOp e₁ op e₂ p) env) (fun i s₂ => ItemOn (Md w) A E o i Q s₂) E s₁) E s) :
    wpAny (Md w) A (eval (.Subscript value (.BinOp e₁ op e₂ p) pos) env) Q E s := by
  rw [eval_Subscript]
  refine wpAny_bind (wpAny_mono h (fun o s₁ h₁ => wpAny_bind (wpAny_holding (wpAny_mono h₁ (fun i s₂ h₂ => wpAny_bind (wpAny_standAt ?_)) fun _ _ x => x)))
    fun _ _ x => x)
  obtain ⟨T, id, hl, hT, hg⟩ := h₂
  refine wpAny_bind ?_
  rw [getitemInPython_of_ne hT.not_modules]
  refine wpAny_bind (wpAny_specialOf hT hl ?_)
  have fin : wpAny (Md w) A (operate [o, i] (getItem o i)) (fun r s₃ => wpAny (Md w) A (letTemporaryGo value o r >>= fun _ => pure r) Q E s₃) E s₂ :=
    wpAny_operating (wpAny_mono hg (fun r s₃ h₃ => wpAny_bind (wpAny_letTemporaryGo (wpAny_pure h₃))) fun _ _ x => x)
  first
    | exact wpAny_pure (wpAny_bind fin)
    | exact wpAny_bind (wpAny_pure (wpAny_bind fin))
    | exact wpAny_bind fin
theorem tree_ok (w : World) (z : Shared) (H : Heap) : ∀ (most : Nat), most ≤ 3 → ∀ {mu nw : List Ent} {L : Addr} {m : Str → Option Value} {s : Shared} {A : Around} {E : Value → Shared → Prop} {b : Addr} {n : Int} {tn tm : Tok} {k : Nat} {Q : Value → Shared → Prop},
    Sit w z H ((b, W.listOf #[.int n tn] k) :: mu) nw L m s → Room A (most + 2) →
    (∀ r t n' tn' k' nw' s', Le nw nw' → Sit w z H ((b, W.listOf #[.int n' tn'] k') :: mu) nw' L m s' → TrR nw' t r → cnT t ≤ most → Q r s') → wpAny (Md w) A (call (.ref 1228) [.ref b, .int most tm]) Q E s := by
  intro most
  induction most using Nat.strongRecOn with
  | ind most ih =>
    intro hm3 mu nw L m s A E b n tn tm k Q Z rm h
    refine wpA_call (enter (d := most + 1) (binds := [("box", .ref b), ("most", .int most tm)]) (rb := [("most", .int most tm), ("box", .ref b)]) Z rm rfl (by kernel_rfl) (BindsTo.of_eq rfl) rfl (by decide) (locs rfl) ⟨rfl, rfl, rfl⟩ fun L' s₁ oL ns Z1 rm1 => ?_)
    refine x_seq (x_asg (r_callN Z1 (n1221 w) (kp1221 w) (sp_cons (r_loc Z1 rfl (sp_cons (r_int Z1 fun t1 s₂ Z2 => sp_nil ⟨Z2.K, ?_⟩))))))
    refine take_ok Z2.swap (rm1.le (by omega)) (by decide) (by decide) fun tp tq k3 s₃ Z3 => r_store Z3 fun s₄ Z4 => ?_
    obtain ⟨p0, p1⟩ := fmod_in (n := n) (k := 6) (by decide)
    generalize n.fmod 6 = pick at Z4 p0 p1
    generalize n.fdiv 6 = n4 at Z4
    refine x_seq (wpAny_If (isTrue_or (wpAny_isTrue_Compare1 (r_loc Z4 rfl (r_int Z4 fun t5 s₅ Z5 => P.eq_int (wpAny_truthy_bool ?_))))))
    cases q0 : ((most : Int) == 0) with
    | true =>
      show wpAny _ _ (execs [_] _) _ _ _
      refine x_seq (wpAny_Return_some (wpAny_Tuple (sp_cons (r_str Z5 fun ta sa Za => sp_cons (r_callN Za (n1221 w) (kp1221 w) (sp_cons (r_loc Za rfl (sp_cons (r_int Za fun tb sb Zb => sp_nil ⟨Zb.K, ?_⟩)))))))))
      refine take_ok Zb (rm1.le (by omega)) (by decide) (by decide) fun tc td kc sc Zc => sp_nil ⟨(show 2 ≤ sizeLine by decide), ?_⟩
      obtain ⟨g0, g1⟩ := fmod_in (n := n4) (k := 3) (by decide)
      obtain ⟨kk, hkk⟩ := Int.eq_ofNat_of_zero_le g0
      have Zd := Zc.swap.alloc (tupO #[.str "atom" ta, .int (n4.fmod 3) tc]) rfl sc.toks
      exact h _ (.atom kk) _ _ _ _ _ (Le.cons _ _) (Z.back ns Zd) ⟨by omega, _, ta, tc, rfl, by rw [← hkk]; exact .head _⟩ (Nat.zero_le _)
    | false =>
      have hm0 : most ≠ 0 := fun e => by rw [e] at q0; cases q0
      show wpAny _ _ (isTrue (.BoolOp .Or [_] _) _ _) _ _ _
      refine isTrue_or (wpAny_isTrue_Compare1 (r_loc Z5 rfl (r_int Z5 fun t6 s₆ Z6 => P.eq_int (wpAny_truthy_bool ?_))))
      cases q5 : (pick == 5) with
      | true =>
        show wpAny _ _ (execs [_] _) _ _ _
        refine x_seq (wpAny_Return_some (wpAny_Tuple (sp_cons (r_str Z6 fun ta sa Za => sp_cons (r_callN Za (n1221 w) (kp1221 w) (sp_cons (r_loc Za rfl (sp_cons (r_int Za fun tb sb Zb => sp_nil ⟨Zb.K, ?_⟩)))))))))
        refine take_ok Zb (rm1.le (by omega)) (by decide) (by decide) fun tc td kc sc Zc => sp_nil ⟨(show 2 ≤ sizeLine by decide), ?_⟩
        obtain ⟨g0, g1⟩ := fmod_in (n := n4) (k := 3) (by decide)
        obtain ⟨kk, hkk⟩ := Int.eq_ofNat_of_zero_le g0
        have Zd := Zc.swap.alloc (tupO #[.str "atom" ta, .int (n4.fmod 3) tc]) rfl sc.toks
        exact h _ (.atom kk) _ _ _ _ _ (Le.cons _ _) (Z.back ns Zd) ⟨by omega, _, ta, tc, rfl, by rw [← hkk]; exact .head _⟩ (Nat.zero_le _)
      | false =>
        show wpAny _ _ (isTrue (.BoolOp .Or [] _) _ _) _ _ _
        refine isTrue_or_nil ?_
        show wpAny _ _ (execs [] _) _ _ _
        refine wpAny_execs_nil ?_
        refine x_seq (wpAny_If (wpAny_isTrue_Compare1 (r_loc Z6 rfl (r_int Z6 fun t7 s₇ Z7 => P.eq_int (wpAny_truthy_bool ?_)))))
        cases qp : (pick == 0) with
        | true =>
          show wpAny _ _ (execs [_] _) _ _ _
          refine x_seq (wpAny_Return_some (wpAny_Tuple (sp_cons (r_str Z7 fun ta sa Za => sp_cons (r_callN Za (n1228 w) (kp1228 w) (sp_cons (r_loc Za rfl (sp_cons (wpAny_BinOp (r_loc Za rfl (r_int Za fun tb sb Zb => P.sub_int ?_)))))))))))
          have Zb := Zb.toks (sb.toks + 1)
          generalize sb.toks = tz at Zb ⊢
          refine sp_nil ⟨Zb.K, ?_⟩
          rw [show (most : Int) - 1 = ((most - 1 : Nat) : Int) from by omega]
          refine ih (most - 1) (by omega) (by omega) Zb (rm1.le (by omega)) fun r t n' tn' k' nw' s' le Z' ht hc => sp_nil ⟨(show 2 ≤ sizeLine by decide), ?_⟩
          have Zd := Z'.swap.alloc (tupO #[.str "not" ta, r]) rfl s'.toks
          exact h _ (.not t) _ _ _ _ _ (le.trans (Le.cons _ _)) (Z.back ns Zd) ⟨_, ta, r, rfl, .head _, ht.mono (Le.cons _ _)⟩ (by simp only [cnT]; omega)
        | false =>
          show wpAny _ _ (execs [] _) _ _ _
          refine wpAny_execs_nil ?_
          refine x_seq (x_asg (r_callN Z7 (n1221 w) (kp1221 w) (sp_cons (r_loc Z7 rfl (sp_cons (r_loc Z7 rfl (sp_nil ⟨Z7.K, ?_⟩)))))))
          refine take_ok Z7 (rm1.le (by omega)) (by omega) (by omega) fun tf tg kf sf Zf => r_store Zf fun s8 Z8 => ?_
          obtain ⟨f0, f1⟩ := fmod_in (n := n4) (k := (most : Int)) (by omega)
          obtain ⟨ff, hff⟩ := Int.eq_ofNat_of_zero_le f0
          rw [hff] at Z8
          refine x_seq (x_asg (r_callN Z8 (n1228 w) (kp1228 w) (sp_cons (r_loc Z8 rfl (sp_cons (r_loc Z8 rfl (sp_nil ⟨Z8.K, ?_⟩)))))))
          refine ih ff (by omega) (by omega) Z8 (rm1.le (by omega)) fun r1 x1 n9 tn9 k9 nw9 s9 le9 Z9 ht1 hc1 => r_store Z9 fun sA ZA => ?_
          refine x_seq (wpAny_Return_some (wpAny_Tuple (sp_cons ?_)))
          refine r_subB (wpAny_List (sp_cons (r_str ZA fun u1 s ZA => sp_cons (r_str ZA fun u2 s ZA => sp_cons (r_str ZA fun u3 s ZA => sp_cons (r_str ZA fun u4 s ZA => sp_nil ⟨(show 4 ≤ sizeLine by decide), ?_⟩))))))
          have ZB := ZA.alloc (W.listOf #[.str "and" u1, .str "or" u2, .str "if" u3, .str "iff" u4] 0) rfl s.toks
          generalize s.heap.objs.size = lo at ZB ⊢
          have hlo : (lo, W.listOf #[.str "and" u1, .str "or" u2, .str "if" u3, .str "iff" u4] 0) ∈ (lo, W.listOf #[.str "and" u1, .str "or" u2, .str "if" u3, .str "iff" u4] 0) :: nw9 := .head _
          have leB := Le.cons (lo, W.listOf #[.str "and" u1, .str "or" u2, .str "if" u3, .str "iff" u4] 0) nw9
          generalize (lo, W.listOf #[.str "and" u1, .str "or" u2, .str "if" u3, .str "iff" u4] 0) :: nw9 = nwB at ZB hlo leB
          refine wpAny_BinOp (r_loc ZB rfl (r_int ZB fun v1 s ZC => P.sub_int ?_))
          have ZC := ZC.toks (s.toks + 1)
          have hp0 : pick ≠ 0 := fun e => by rw [e] at qp; cases qp
          have hp5 : pick ≠ 5 := fun e => by rw [e] at q5; cases q5
          obtain ⟨o, ho⟩ := Int.eq_ofNat_of_zero_le (a := pick - 1) (by omega)
          have ho4 : o < 4 := by omega
          have hit : ∃ t, (#[Value.str "and" u1, .str "or" u2, .str "if" u3, .str "iff" u4] : Array Value)[o]? = some (.str (opN o) t) := by
            match o, ho4 with
            | 0, _ => exact ⟨u1, rfl⟩
            | 1, _ => exact ⟨u2, rfl⟩
            | 2, _ => exact ⟨u3, rfl⟩
            | 3, _ => exact ⟨u4, rfl⟩
          obtain ⟨uo, hit⟩ := hit
          refine ⟨"list", _, slot_list_getitem.lookup, ⟨_, ZC.get hlo, rfl⟩, wpAny_getItem_list ⟨_, ZC.get hlo, rfl, 0, rfl⟩ (by omega) (by omega) (by rw [ho]; exact hit) ?_⟩
          refine sp_cons (r_loc ZC rfl (sp_cons ?_))
          refine r_callN ZC (n1228 w) (kp1228 w) (sp_cons (r_loc ZC rfl (sp_cons ?_)))
          refine wpAny_BinOp (wpAny_BinOp (r_loc ZC rfl (r_int ZC fun v2 s ZD => P.sub_int (r_loc (ZD.toks _) rfl (P.sub_int ?_)))))
          refine sp_nil ⟨ZD.K, ?_⟩
          rw [show (most : Int) - 1 - (ff : Int) = ((most - 1 - ff : Nat) : Int) from by omega]
          refine ih (most - 1 - ff) (by omega) (by omega) (ZD.toks _) (rm1.le (by omega)) fun r2 x2 nE tnE kE nwE s leE ZE ht2 hc2 => sp_nil ⟨(show 3 ≤ sizeLine by decide), ?_⟩
          have ZF := ZE.swap.alloc (tupO #[.str (opN o) uo, r1, r2]) rfl s.toks
          exact h _ (.bin o x1 x2) _ _ _ _ _ (le9.trans (leB.trans (leE.trans (Le.cons _ _)))) (Z.back ns ZF) ⟨ho4, _, uo, r1, r2, rfl, .head _, ht1.mono (leB.trans (leE.trans (Le.cons _ _))), ht2.mono (Le.cons _ _)⟩ (by simp only [cnT]; omega)
end
end Mine
end

section
open PySem PySem.W PySem.Spec PySem.Calls PyProof.Rows
set_option Elab.async false
set_option maxRecDepth 100000
namespace Mine
set_option linter.unusedVariables false
set_option maxHeartbeats 4000000
section
variable {w : World} {z : Shared} {H : Heap} {mu nw : List Ent} {L a : Addr} {m : Str → Option Value} {s : Shared} {A : Around} {E : Value → Shared → Prop} {B d : Nat} {env : Env}
/-- NAME[k] of a tuple that stays -/
theorem r_titem {x : Str} {k : Nat} {i : Int} {j : Nat} {l : Addr} {vs : Array Value} {v : Value} {p1 p2 pos : Pos} {Q : Value → Shared → Prop} (Z : Sit w z H mu nw L m s) (hx : m x = some (.ref l)) (hl : (l, tupO vs) ∈ nw) (h0 : -2 ^ 63 ≤ i) (hi : i < 2 ^ 63) (hj : seqIndex? i vs.size = some j) (hv : vs[j]? = some v)
    (h : ∀ s', Sit w z H mu nw L m s' → Q v s')
    (hk : EnvOk env L := by exact ⟨rfl, rfl, rfl, rfl⟩) (hxx : env.kindOf x = some .local := by rfl) (hd : (x == ("__debug__" : Str)) = false := by decide) (ht : ∀ o r, letTemporaryGo (.Name x p1) o r = pure () := by intro _ _; rfl) :
    wpAny (Md w) A (eval (.Subscript (.Name x p1) (.Constant (.int i) k p2) pos) env) Q E s :=
  Subscript_Constant (r_loc Z hx (r_int Z fun t s₁ Z1 => ⟨"tuple", _, F.slot_tuple_getitem.lookup, ⟨_, Z1.get hl, rfl⟩, P.getItem_tuple (n := 0) (Z1.get hl) h0 hi hj hv (h _ Z1)⟩) hk hxx hd) ht
/-- the tuple's head is one of the words -/
theorem r_head0 {x y : Str} {k k2 : Nat} {l : Addr} {vs : Array Value} {n : Str} {tn : Tok} {b : Bool} {p1 p2 p3 p4 p5 p0 : Pos} {body orelse : List Stmt} {Q : Flow → Shared → Prop} (Z : Sit w z H mu nw L m s) (hx : m x = some (.ref l)) (hl : (l, tupO vs) ∈ nw) (hj : seqIndex? 0 vs.size = some 0) (hv : vs[0]? = some (.str n tn)) (hb : (n.cps.toList == y.cps.toList) = b)
    (h : ∀ s', Sit w z H mu nw L m s' → wpAny (Md w) A (execs (if b then body else orelse) env) Q E s')
    (hk : EnvOk env L := by exact ⟨rfl, rfl, rfl, rfl⟩) (hxx : env.kindOf x = some .local := by rfl) (hd : (x == ("__debug__" : Str)) = false := by decide) (ht : ∀ o r, letTemporaryGo (.Name x p1) o r = pure () := by intro _ _; rfl) (hm : behindInMarks .Eq (.Constant (.str y) k2 p4) = false := by with_unfolding_all rfl) :
    wpAny (Md w) A (exec (.If (.Compare (.Subscript (.Name x p1) (.Constant (.int 0) k p2) p3) [.Eq] [.Constant (.str y) k2 p4] p5) body orelse p0) env) Q E s := by
  refine wpAny_If (wpAny_isTrue_Compare1 (r_titem Z hx hl (by decide) (by decide) hj hv (fun s1 Z1 => r_str Z1 fun t s2 Z2 => P.eq_str (wpAny_truthy_bool ?_)) hk hxx hd ht) hm)
  have := h s2 Z2
  rw [hb]
  cases b <;> exact this

noncomputable def fmT (at_ : Nat → Fm) : Tr → Fm
  | .atom k => at_ k
  | .not t => .neg (fmT at_ t)
  | .bin 0 a b => .and (fmT at_ a) (fmT at_ b)
  | .bin 1 a b => .or (fmT at_ a) (fmT at_ b)
  | .bin 2 a b => .imp (fmT at_ a) (fmT at_ b)
  | .bin _ a b => .iff (fmT at_ a) (fmT at_ b)
theorem r_subS {value v2 i2 : Expr} {p pos : Pos} {Q : Value → Shared → Prop}
    (h : wpAny (Md w) A (eval value env) (fun o s₁ => wpAny (Md w) A (eval (.Subscript v2 i2 p) env) (fun i s₂ => ItemOn (Md w) A E o i Q s₂) E s₁) E s) :
    wpAny (Md w) A (eval (.Subscript value (.Subscript v2 i2 p) pos) env) Q E s := by
  rw [eval_Subscript]
  refine wpAny_bind (wpAny_mono h (fun o s₁ h₁ => wpAny_bind (wpAny_holding (wpAny_mono h₁ (fun i s₂ h₂ => wpAny_bind (wpAny_standAt ?_)) fun _ _ x => x)))
    fun _ _ x => x)
  obtain ⟨T, id, hl, hT, hg⟩ := h₂
  refine wpAny_bind ?_
  rw [getitemInPython_of_ne hT.not_modules]
  refine wpAny_bind (wpAny_specialOf hT hl ?_)
  have fin : wpAny (Md w) A (operate [o, i] (getItem o i)) (fun r s₃ => wpAny (Md w) A (letTemporaryGo value o r >>= fun _ => pure r) Q E s₃) E s₂ :=
    wpAny_operating (wpAny_mono hg (fun r s₃ h₃ => wpAny_bind (wpAny_letTemporaryGo (wpAny_pure h₃))) fun _ _ x => x)
  first
    | exact wpAny_pure (wpAny_bind fin)
    | exact wpAny_bind (wpAny_pure (wpAny_bind fin))
    | exact wpAny_bind fin
theorem form_atom {k : Nat} {v av : Value} {fs : List Fm} {f : Fm} {Q : Value → Shared → Prop} (Z : Sit w z H mu nw L m s) (rm : Room A 1) (ht : TrR nw (.atom k) v) (ha : ListR nw (Rep w nw) fs av) (hk3 : fs[k]? = some f)
    (h : ∀ r nw' s', Le nw nw' → Sit w z H mu nw' L m s' → Rep w nw' f r → Q r s') : wpAny (Md w) A (call (.ref 1235) [v, av]) Q E s := by
  obtain ⟨k3, y, t1, t2, rfl, hy⟩ := ht
  obtain ⟨l, vs, j, rfl, hl, hall⟩ := ha
  have hlen := hall.length
  have hkl : k < vs.length := by rw [← hlen]; exact (List.getElem?_eq_some_iff.mp hk3).1
  obtain ⟨f', hf', hr⟩ := hall.get (i := k) (v := vs[k]) (List.getElem?_eq_getElem hkl)
  rw [hk3] at hf'
  cases hf'
  refine wpA_call (enter (d := 0) (binds := [("tree", .ref y), ("atoms", .ref l)]) (rb := [("atoms", .ref l), ("tree", .ref y)]) Z rm rfl (by kernel_rfl) (BindsTo.of_eq rfl) rfl (by decide) (locs rfl) ⟨rfl, rfl, rfl⟩ fun L' s₁ oL ns Z1 rm1 => ?_)
  refine x_seq (r_head0 (b := true) Z1 rfl hy rfl rfl (by decide) fun s₂ Z2 => ?_)
  show wpAny _ _ (execs [_] _) _ _ _
  refine x_seq (wpAny_Return_some (r_subS (r_loc Z2 rfl (r_titem Z2 rfl hy (by decide) (by decide) rfl rfl fun s₃ Z3 => ⟨"list", _, slot_list_getitem.lookup, ⟨_, Z3.get hl, rfl⟩, wpAny_getItem_list ⟨_, Z3.get hl, rfl, j, rfl⟩ (by omega) (by omega) (x := vs[k]) (by simp [hkl]) ?_⟩))))
  exact h _ _ _ (Le.refl _) (Z.back ns Z3) hr

theorem Sit.keeps {h' : Heap} (Z : Sit w z H mu nw L m s) (hk : ∀ b o, s.heap.get? b = some o → h'.get? b = some o) (tk : Tok) : Sit w z H mu nw L m { s with heap := h', toks := tk } :=
  ⟨Z.gl, ⟨Z.F.ns.keeps hk, fun b o e => hk b o (Z.F.keep b o e), Z.F.above⟩, fun p hp => ⟨hk _ _ (Z.N p hp).1, (Z.N p hp).2⟩, Z.nd, Z.mm, Z.rest, Z.tb.mono (fun _ _ _ e => hk _ _ e) (fun _ h => h), Z.tn⟩
/-- NAME, NAME = (.., ..) -/
theorem x_two {x y : Str} {e1 e2 : Expr} {px py tpos p2 pos : Pos} {k k2 : Nat} {names : List Str} {Q : Flow → Shared → Prop} (hh : A.handled = none) (hn : names = [x, y])
    (h : wpAny (Md w) A (eval e1 env) (fun v1 s₁ => wpAny (Md w) A (eval e2 env) (fun v2 s₂ => ∃ mu nw m, Sit w z H mu nw L m s₂ ∧ ∀ nw' s', Le nw nw' → Sit w z H mu nw' L (fun q => if q = x then some v1 else if q = y then some v2 else m q) s' → Q .next s') E s₁) E s)
    (hk : EnvOk env L := by exact ⟨rfl, rfl, rfl, rfl⟩) (hx : env.kindOf x = some .local := by rfl) (hy : env.kindOf y = some .local := by rfl)
    (hst1 : starEach [e1, e2] env = (false, eval e1 env) :: starEach [e2] env := by rfl) (hst2 : starEach [e2] env = (false, eval e2 env) :: starEach [] env := by rfl)
    (hs : swapsWithSole [.Tuple [.Name x px, .Name y py] k tpos] (.Tuple [e1, e2] k2 p2) pos.line env = pure false := by rfl)
    (hw : swappedStores [.Tuple [.Name x px, .Name y py] k tpos] (.Tuple [e1, e2] k2 p2) env = pure (some names) := by rfl) :
    wpAny (Md w) A (exec (.Assign [.Tuple [.Name x px, .Name y py] k tpos] (.Tuple [e1, e2] k2 p2) pos) env) Q E s := by
  subst hn
  refine Assign_Tuple_swapped (names := [x, y]) (wpAny_Tuple ?_) hs hw
  refine sp_cons (wpAny_mono h (fun v1 s₁ h₁ => sp_cons (wpAny_mono h₁ (fun v2 s₂ h₂ => sp_nil ⟨(show 2 ≤ sizeLine by decide), ?_⟩) fun _ _ e => e) hst2) fun _ _ e => e) hst1
  obtain ⟨mu, nw, m, Z, fin⟩ := h₂
  have Z1 := Z.alloc (tupO #[v1, v2]) rfl s₂.toks
  refine unpackItems_tuple (items := #[v1, v2]) hh ⟨_, Heap.get?_push_size _ rfl, rfl, 0, rfl⟩ fun h' he => ?_
  have Z2 := Z1.keeps (h' := h') (fun b o e => he b o (Nat.ne_of_lt (Heap.lt_size e)) e) s₂.toks
  show wpAny _ _ (assignInOrder [bindName env y, bindName env x] [v2, v1]) _ _ _
  unfold assignInOrder
  refine wpAny_bind (wpAny_holding (wpAny_bindName (r_store Z2 (fun s₃ Z3 => ?_) hk hy)))
  unfold assignInOrder
  refine wpAny_bind (wpAny_holding (wpAny_bindName (r_store Z3 (fun s₄ Z4 => ?_) hk hx)))
  unfold assignInOrder
  exact wpAny_pure (fin _ _ (Le.cons _ _) Z4)

theorem form_ok (w : World) (z : Shared) (H : Heap) (at_ : Nat → Fm) : ∀ (t : Tr) {mu nw : List Ent} {L : Addr} {m : Str → Option Value} {s : Shared} {A : Around} {E : Value → Shared → Prop} {v av : Value} {Q : Value → Shared → Prop},
    Sit w z H mu nw L m s → Room A (cnT t + 3) → TrR nw t v → ListR nw (Rep w nw) [at_ 0, at_ 1, at_ 2] av → (∀ r nw' s', Le nw nw' → Sit w z H mu nw' L m s' → Rep w nw' (fmT at_ t) r → Q r s') → wpAny (Md w) A (call (.ref 1235) [v, av]) Q E s := by
  intro t
  induction t with
  | atom k =>
    intro mu nw L m s A E v av Q Z rm ht ha h
    have hk : k < 3 := ht.1
    exact form_atom Z (rm.le (by omega)) ht ha (f := at_ k) (by match k, hk with | 0, _ => rfl | 1, _ => rfl | 2, _ => rfl) h
  | not t ih =>
    intro mu nw L m s A E v av Q Z rm ht ha h
    obtain ⟨y, t1, p, rfl, hy, hp⟩ := ht
    have ha0 := ha
    obtain ⟨l, vs, j, rfl, hl, hall⟩ := ha
    refine wpA_call (enter (d := cnT t + 3) (binds := [("tree", .ref y), ("atoms", .ref l)]) (rb := [("atoms", .ref l), ("tree", .ref y)]) Z rm rfl (by kernel_rfl) (BindsTo.of_eq rfl) rfl (by decide) (locs rfl) ⟨rfl, rfl, rfl⟩ fun L' s₁ oL ns Z1 rm1 => ?_)
    refine x_seq (r_head0 (b := false) Z1 rfl hy rfl rfl (by decide) fun s₂ Z2 => wpAny_execs_nil ?_)
    refine x_seq (r_head0 (b := true) Z2 rfl hy rfl rfl (by decide) fun s₃ Z3 => ?_)
    show wpAny _ _ (execs [_] _) _ _ _
    refine x_seq (wpAny_Return_some (r_callN Z3 (nNegated w) (kpNegated w) (sp_cons (r_callN Z3 (n1235 w) (kp1235 w) (sp_cons (r_titem Z3 rfl hy (by decide) (by decide) rfl rfl fun s₄ Z4 => sp_cons (r_loc Z4 rfl (sp_nil ⟨Z4.K, ?_⟩))))))))
    refine ih Z4 rm1 hp ha0 fun r nw5 s₅ le5 Z5 hr => sp_nil ⟨Z5.K, ?_⟩
    exact wpA_call (mk_neg Z5 (rm1.le (by omega)) hr fun r' nw6 s₆ le6 Z6 hr' => h _ _ _ (le5.trans le6) (Z.back ns Z6) hr')
  | bin o a b iha ihb =>
    intro mu nw L m s A E v av Q Z rm ht ha h
    obtain ⟨ho, y, t1, p, q, rfl, hy, hp, hq⟩ := ht
    have ha0 := ha
    obtain ⟨l, vs, j, rfl, hl, hall⟩ := ha
    refine wpA_call (enter (d := cnT a + cnT b + 3) (binds := [("tree", .ref y), ("atoms", .ref l)]) (rb := [("atoms", .ref l), ("tree", .ref y)]) Z (rm.le (by simp only [cnT]; omega)) rfl (by kernel_rfl) (BindsTo.of_eq rfl) rfl (by decide) (locs rfl) ⟨rfl, rfl, rfl⟩ fun L' s₁ oL ns Z1 rm1 => ?_)
    have b1 : ((opN o).cps.toList == (Str.ofString "atom").cps.toList) = false := by
      match o, ho with
      | 0, _ => exact (by decide)
      | 1, _ => exact (by decide)
      | 2, _ => exact (by decide)
      | 3, _ => exact (by decide)
    have b2 : ((opN o).cps.toList == (Str.ofString "not").cps.toList) = false := by
      match o, ho with
      | 0, _ => exact (by decide)
      | 1, _ => exact (by decide)
      | 2, _ => exact (by decide)
      | 3, _ => exact (by decide)
    refine x_seq (r_head0 (b := false) Z1 rfl hy rfl rfl b1 fun s₂ Z2 => wpAny_execs_nil ?_)
    refine x_seq (r_head0 (b := false) Z2 rfl hy rfl rfl b2 fun s₃ Z3 => wpAny_execs_nil ?_)
    refine x_seq (x_two (z := z) (H := H) (L := L') (names := ["first", "second"]) rm1.2.2 rfl (r_callN Z3 (n1235 w) (kp1235 w) (sp_cons (r_titem Z3 rfl hy (by decide) (by decide) rfl rfl fun s₄ Z4 => sp_cons (r_loc Z4 rfl (sp_nil ⟨Z4.K, ?_⟩))))))
    refine iha Z4 (rm1.le (by omega)) hp ha0 fun r1 nw5 s₅ le5 Z5 h1 => ?_
    refine r_callN Z5 (n1235 w) (kp1235 w) (sp_cons (r_titem Z5 rfl (le5 _ hy) (by decide) (by decide) rfl rfl fun s₆ Z6 => sp_cons (r_loc Z6 rfl (sp_nil ⟨Z6.K, ?_⟩))))
    refine ihb Z6 (rm1.le (by omega)) (hq.mono le5) (ListR.mono ha0 le5 fun _ _ x => x.mono le5) fun r2 nw7 s₇ le7 Z7 h2 => ⟨_, _, _, Z7, fun nw8 s₈ le8 Z8 => ?_⟩
    have le := le5.trans (le7.trans le8)
    have hy8 := le _ hy
    have h1 := h1.mono (le7.trans le8)
    have h2 := h2.mono le8
    match o, ho with
    | 0, _ =>
      refine x_seq (r_head0 (b := true) Z8 rfl hy8 rfl rfl (by decide) fun s₈ Z8 => ?_)
      show wpAny _ _ (execs [_] _) _ _ _
      refine x_seq (wpAny_Return_some (r_callN Z8 (nAnd w) (kpAnd w) (sp_cons (r_loc Z8 rfl (sp_cons (r_loc Z8 rfl (sp_nil ⟨Z8.K, ?_⟩)))))))
      exact wpA_call (mk_and Z8 (rm1.le (by omega)) h1 h2 fun r' nw9 s₉ le9 Z9 hr' => h _ _ _ (le.trans le9) (Z.back ns Z9) hr')
    | 1, _ =>
      refine x_seq (r_head0 (b := false) Z8 rfl hy8 rfl rfl (by decide) fun s₈ Z8 => ?_)
      show wpAny _ _ (execs [] _) _ _ _
      refine wpAny_execs_nil ?_
      refine x_seq (r_head0 (b := true) Z8 rfl hy8 rfl rfl (by decide) fun s₈ Z8 => ?_)
      show wpAny _ _ (execs [_] _) _ _ _
      refine x_seq (wpAny_Return_some (r_callN Z8 (nOr w) (kpOr w) (sp_cons (r_loc Z8 rfl (sp_cons (r_loc Z8 rfl (sp_nil ⟨Z8.K, ?_⟩)))))))
      exact wpA_call (mk_or Z8 (rm1.le (by omega)) h1 h2 fun r' nw9 s₉ le9 Z9 hr' => h _ _ _ (le.trans le9) (Z.back ns Z9) hr')
    | 2, _ =>
      refine x_seq (r_head0 (b := false) Z8 rfl hy8 rfl rfl (by decide) fun s₈ Z8 => ?_)
      show wpAny _ _ (execs [] _) _ _ _
      refine wpAny_execs_nil ?_
      refine x_seq (r_head0 (b := false) Z8 rfl hy8 rfl rfl (by decide) fun s₈ Z8 => ?_)
      show wpAny _ _ (execs [] _) _ _ _
      refine wpAny_execs_nil ?_
      refine x_seq (r_head0 (b := true) Z8 rfl hy8 rfl rfl (by decide) fun s₈ Z8 => ?_)
      show wpAny _ _ (execs [_] _) _ _ _
      refine x_seq (wpAny_Return_some (r_callN Z8 (nImp w) (kpImp w) (sp_cons (r_loc Z8 rfl (sp_cons (r_loc Z8 rfl (sp_nil ⟨Z8.K, ?_⟩)))))))
      exact wpA_call (mk_imp Z8 (rm1.le (by omega)) h1 h2 fun r' nw9 s₉ le9 Z9 hr' => h _ _ _ (le.trans le9) (Z.back ns Z9) hr')
    | 3, _ =>
      refine x_seq (r_head0 (b := false) Z8 rfl hy8 rfl rfl (by decide) fun s₈ Z8 => ?_)
      show wpAny _ _ (execs [] _) _ _ _
      refine wpAny_execs_nil ?_
      refine x_seq (r_head0 (b := false) Z8 rfl hy8 rfl rfl (by decide) fun s₈ Z8 => ?_)
      show wpAny _ _ (execs [] _) _ _ _
      refine wpAny_execs_nil ?_
      refine x_seq (r_head0 (b := false) Z8 rfl hy8 rfl rfl (by decide) fun s₈ Z8 => ?_)
      show wpAny _ _ (execs [] _) _ _ _
      refine wpAny_execs_nil ?_
      refine x_seq (wpAny_Return_some (r_callN Z8 (nIff w) (kpIff w) (sp_cons (r_loc Z8 rfl (sp_cons (r_loc Z8 rfl (sp_nil ⟨Z8.K, ?_⟩)))))))
      exact wpA_call (mk_iff Z8 (rm1.le (by omega)) h1 h2 fun r' nw9 s₉ le9 Z9 hr' => h _ _ _ (le.trans le9) (Z.back ns Z9) hr')
end
end Mine
end

section
open PySem PySem.W PySem.Spec PySem.Calls PyProof.Rows
set_option Elab.async false
set_option maxRecDepth 100000
namespace Mine
set_option linter.unusedVariables false
set_option maxHeartbeats 4000000
noncomputable def trT (at_ : Nat → Bool) : Tr → Bool
  | .atom k => at_ k
  | .not t => !trT at_ t
  | .bin 0 a b => trT at_ a && trT at_ b
  | .bin 1 a b => trT at_ a || trT at_ b
  | .bin 2 a b => trT at_ b || !trT at_ a
  | .bin _ a b => trT at_ a == trT at_ b
section
variable {w : World} {z : Shared} {H : Heap} {mu nw : List Ent} {L a : Addr} {m : Str → Option Value} {s : Shared} {A : Around} {E : Value → Shared → Prop} {B d : Nat} {env : Env}

noncomputable abbrev BoolsR (nw : List Ent) (bs : List Bool) (v : Value) : Prop := ListR nw (fun (b : Bool) v => v = .bool b) bs v
theorem true_atom {k : Nat} {v av : Value} {bs : List Bool} {b : Bool} {Q : Value → Shared → Prop} (Z : Sit w z H mu nw L m s) (rm : Room A 1) (ht : TrR nw (.atom k) v) (ha : BoolsR nw bs av) (hk3 : bs[k]? = some b)
    (h : ∀ nw' s', Le nw nw' → Sit w z H mu nw' L m s' → Q (.bool b) s') : wpAny (Md w) A (call (.ref 1242) [v, av]) Q E s := by
  obtain ⟨k3, y, t1, t2, rfl, hy⟩ := ht
  obtain ⟨l, vs, j, rfl, hl, hall⟩ := ha
  have hlen := hall.length
  have hkl : k < vs.length := by rw [← hlen]; exact (List.getElem?_eq_some_iff.mp hk3).1
  obtain ⟨f', hf', hr⟩ := hall.get (i := k) (v := vs[k]) (List.getElem?_eq_getElem hkl)
  rw [hk3] at hf'
  cases hf'
  refine wpA_call (enter (d := 0) (binds := [("tree", .ref y), ("truths", .ref l)]) (rb := [("truths", .ref l), ("tree", .ref y)]) Z rm rfl (by kernel_rfl) (BindsTo.of_eq rfl) rfl (by decide) (locs rfl) ⟨rfl, rfl, rfl⟩ fun L' s₁ oL ns Z1 rm1 => ?_)
  refine x_seq (r_head0 (b := true) Z1 rfl hy rfl rfl (by decide) fun s₂ Z2 => ?_)
  show wpAny _ _ (execs [_] _) _ _ _
  refine x_seq (wpAny_Return_some (r_subS (r_loc Z2 rfl (r_titem Z2 rfl hy (by decide) (by decide) rfl rfl fun s₃ Z3 => ⟨"list", _, slot_list_getitem.lookup, ⟨_, Z3.get hl, rfl⟩, wpAny_getItem_list ⟨_, Z3.get hl, rfl, j, rfl⟩ (by omega) (by omega) (x := vs[k]) (by simp [hkl]) ?_⟩))))
  rw [hr]
  exact h _ _ (Le.refl _) (Z.back ns Z3)

theorem true_ok (w : World) (z : Shared) (H : Heap) (at_ : Nat → Bool) : ∀ (t : Tr) {mu nw : List Ent} {L : Addr} {m : Str → Option Value} {s : Shared} {A : Around} {E : Value → Shared → Prop} {v av : Value} {Q : Value → Shared → Prop},
    Sit w z H mu nw L m s → Room A (cnT t + 1) → TrR nw t v → BoolsR nw [at_ 0, at_ 1, at_ 2] av → (∀ nw' s', Le nw nw' → Sit w z H mu nw' L m s' → Q (.bool (trT at_ t)) s') → wpAny (Md w) A (call (.ref 1242) [v, av]) Q E s := by
  intro t
  induction t with
  | atom k =>
    intro mu nw L m s A E v av Q Z rm ht ha h
    have hk : k < 3 := ht.1
    exact true_atom Z (rm.le (by omega)) ht ha (b := at_ k) (by match k, hk with | 0, _ => rfl | 1, _ => rfl | 2, _ => rfl) h
  | not t ih =>
    intro mu nw L m s A E v av Q Z rm ht ha h
    obtain ⟨y, t1, p, rfl, hy, hp⟩ := ht
    have ha0 := ha
    obtain ⟨l, vs, j, rfl, hl, hall⟩ := ha
    refine wpA_call (enter (d := cnT t + 1) (binds := [("tree", .ref y), ("truths", .ref l)]) (rb := [("truths", .ref l), ("tree", .ref y)]) Z rm rfl (by kernel_rfl) (BindsTo.of_eq rfl) rfl (by decide) (locs rfl) ⟨rfl, rfl, rfl⟩ fun L' s₁ oL ns Z1 rm1 => ?_)
    refine x_seq (r_head0 (b := false) Z1 rfl hy rfl rfl (by decide) fun s₂ Z2 => wpAny_execs_nil ?_)
    refine x_seq (x_asg (r_callN Z2 (n1242 w) (kp1242 w) (sp_cons (r_titem Z2 rfl hy (by decide) (by decide) rfl rfl fun s₄ Z4 => sp_cons (r_loc Z4 rfl (sp_nil ⟨Z4.K, ?_⟩))))))
    refine ih Z4 rm1 hp ha0 fun nw5 s₅ le5 Z5 => r_store Z5 fun s₆ Z6 => ?_
    refine x_seq (r_head0 (b := true) Z6 rfl (le5 _ hy) rfl rfl (by decide) fun s₇ Z7 => ?_)
    show wpAny _ _ (execs [_] _) _ _ _
    refine x_seq (wpAny_Return_some (wpAny_UnaryOp (r_loc Z7 rfl (not_value (wpAny_truthy_bool ?_)))))
    exact h _ _ le5 (Z.back ns Z7)
  | bin o a b iha ihb =>
    intro mu nw L m s A E v av Q Z rm ht ha h
    obtain ⟨ho, y, t1, p, q, rfl, hy, hp, hq⟩ := ht
    have ha0 := ha
    obtain ⟨l, vs, j, rfl, hl, hall⟩ := ha
    refine wpA_call (enter (d := cnT a + cnT b + 1) (binds := [("tree", .ref y), ("truths", .ref l)]) (rb := [("truths", .ref l), ("tree", .ref y)]) Z (rm.le (by simp only [cnT]; omega)) rfl (by kernel_rfl) (BindsTo.of_eq rfl) rfl (by decide) (locs rfl) ⟨rfl, rfl, rfl⟩ fun L' s₁ oL ns Z1 rm1 => ?_)
    have b1 : ((opN o).cps.toList == (Str.ofString "atom").cps.toList) = false := by
      match o, ho with
      | 0, _ => exact (by decide)
      | 1, _ => exact (by decide)
      | 2, _ => exact (by decide)
      | 3, _ => exact (by decide)
    have b2 : ((opN o).cps.toList == (Str.ofString "not").cps.toList) = false := by
      match o, ho with
      | 0, _ => exact (by decide)
      | 1, _ => exact (by decide)
      | 2, _ => exact (by decide)
      | 3, _ => exact (by decide)
    refine x_seq (r_head0 (b := false) Z1 rfl hy rfl rfl b1 fun s₂ Z2 => wpAny_execs_nil ?_)
    refine x_seq (x_asg (r_callN Z2 (n1242 w) (kp1242 w) (sp_cons (r_titem Z2 rfl hy (by decide) (by decide) rfl rfl fun s₄ Z4 => sp_cons (r_loc Z4 rfl (sp_nil ⟨Z4.K, ?_⟩))))))
    refine iha Z4 (rm1.le (by omega)) hp ha0 fun nw5 s₅ le5 Z5 => r_store Z5 fun s₆ Z6 => ?_
    refine x_seq (r_head0 (b := false) Z6 rfl (le5 _ hy) rfl rfl b2 fun s₇ Z7 => wpAny_execs_nil ?_)
    refine x_seq (x_asg (r_callN Z7 (n1242 w) (kp1242 w) (sp_cons (r_titem Z7 rfl (le5 _ hy) (by decide) (by decide) rfl rfl fun s₄ Z4 => sp_cons (r_loc Z4 rfl (sp_nil ⟨Z4.K, ?_⟩))))))
    refine ihb Z4 (rm1.le (by omega)) (hq.mono le5) (ListR.mono ha0 le5 fun _ _ x => x) fun nw7 s₇ le7 Z7 => r_store Z7 fun s₈ Z8 => ?_
    have le := le5.trans le7
    have hy8 := le _ hy
    generalize hva : trT at_ a = ta at Z8
    generalize hvb : trT at_ b = tb at Z8
    match o, ho with
    | 0, _ =>
      refine x_seq (r_head0 (b := true) Z8 rfl hy8 rfl rfl (by decide) fun s₈ Z8 => ?_)
      show wpAny _ _ (execs [_] _) _ _ _
      refine x_seq (wpAny_Return_some (BoolOp_and (r_loc Z8 rfl (wpAny_truthy_bool ?_))))
      simp only [trT, hva, hvb] at h
      cases ta with
      | false => exact h _ _ le (Z.back ns Z8)
      | true =>
        show wpAny _ _ (eval (.BoolOp .And [_] _) _) _ _ _
        exact BoolOp_one (r_loc Z8 rfl (h _ _ le (Z.back ns Z8)))
    | 1, _ =>
      refine x_seq (r_head0 (b := false) Z8 rfl hy8 rfl rfl (by decide) fun s₈ Z8 => ?_)
      show wpAny _ _ (execs [] _) _ _ _
      refine wpAny_execs_nil ?_
      refine x_seq (r_head0 (b := true) Z8 rfl hy8 rfl rfl (by decide) fun s₈ Z8 => ?_)
      show wpAny _ _ (execs [_] _) _ _ _
      refine x_seq (wpAny_Return_some (BoolOp_or (r_loc Z8 rfl (wpAny_truthy_bool ?_))))
      simp only [trT, hva, hvb] at h
      cases ta with
      | true => exact h _ _ le (Z.back ns Z8)
      | false =>
        show wpAny _ _ (eval (.BoolOp .Or [_] _) _) _ _ _
        exact BoolOp_one (r_loc Z8 rfl (h _ _ le (Z.back ns Z8)))
    | 2, _ =>
      refine x_seq (r_head0 (b := false) Z8 rfl hy8 rfl rfl (by decide) fun s₈ Z8 => ?_)
      show wpAny _ _ (execs [] _) _ _ _
      refine wpAny_execs_nil ?_
      refine x_seq (r_head0 (b := false) Z8 rfl hy8 rfl rfl (by decide) fun s₈ Z8 => ?_)
      show wpAny _ _ (execs [] _) _ _ _
      refine wpAny_execs_nil ?_
      refine x_seq (r_head0 (b := true) Z8 rfl hy8 rfl rfl (by decide) fun s₈ Z8 => ?_)
      show wpAny _ _ (execs [_] _) _ _ _
      refine x_seq (wpAny_Return_some (BoolOp_or (r_loc Z8 rfl (wpAny_truthy_bool ?_))))
      simp only [trT, hva, hvb] at h
      cases tb with
      | true => exact h _ _ le (Z.back ns Z8)
      | false =>
        show wpAny _ _ (eval (.BoolOp .Or [_] _) _) _ _ _
        exact BoolOp_one (wpAny_UnaryOp (r_loc Z8 rfl (not_value (wpAny_truthy_bool (h _ _ le (Z.back ns Z8))))))
    | 3, _ =>
      refine x_seq (r_head0 (b := false) Z8 rfl hy8 rfl rfl (by decide) fun s₈ Z8 => ?_)
      show wpAny _ _ (execs [] _) _ _ _
      refine wpAny_execs_nil ?_
      refine x_seq (r_head0 (b := false) Z8 rfl hy8 rfl rfl (by decide) fun s₈ Z8 => ?_)
      show wpAny _ _ (execs [] _) _ _ _
      refine wpAny_execs_nil ?_
      refine x_seq (r_head0 (b := false) Z8 rfl hy8 rfl rfl (by decide) fun s₈ Z8 => ?_)
      show wpAny _ _ (execs [] _) _ _ _
      refine wpAny_execs_nil ?_
      refine x_seq (wpAny_Return_some (wpAny_Compare1 (r_loc Z8 rfl (r_loc Z8 rfl (PyProof.Rows.eq_bool ?_)))))
      simp only [trT, hva, hvb] at h
      exact h _ _ le (Z.back ns Z8)
end
end Mine
end

section
open PySem PySem.W PySem.Spec PySem.Calls PyProof.Rows
set_option Elab.async false
set_option maxRecDepth 100000
namespace Mine
set_option linter.unusedVariables false
set_option maxHeartbeats 4000000
theorem slot_seqit_next : Slot "iterator" "__next__" "iterator.__next__" :=
  .of (owner := "iterator") (n := "__next__") (by rw [typeLookup_type, builtinLookup_eq_fast]; kernel_rfl) (by decide +kernel) (by decide +kernel) (by decide +kernel)
    (by first | exact .inl (by decide +kernel) | exact .inr (by decide +kernel)) (by rw [isSubtype_type]; kernel_rfl)
theorem entry_seqit_next : entryFor table "iterator.__next__" = some Builtin.«iterator.__next__» := by first | exact entryFor_of_fast (by kernel_rfl) | exact entryFor_of_tree (by kernel_rfl)
theorem args_seqit_next (a : Value) : argsOk "iterator.__next__" ⟨[a], []⟩ := by unfold argsOk; kernel_rfl
theorem sub_index : isSubtype (.type "IndexError") (.type "IndexError") = pure true := by rw [isSubtype_type]; kernel_rfl
theorem fClauseXiter (w : World) : findIn (KK w) (.ref 1188) "__iter__" = some none := by kernel_rfl
theorem nsqClause (w : World) : noSeq (KK w) 1188 = true := by kernel_rfl
noncomputable abbrev sitO (v : Value) (i : Int) (t : Tok) : Obj := { cls := .type "iterator", data := .fields #[v, .int i t] }

section
variable {w : World} {z : Shared} {H : Heap} {mu nw : List Ent} {L a : Addr} {m : Str → Option Value} {s : Shared} {A : Around} {E : Value → Shared → Prop} {B d : Nat} {env : Env}

theorem r_subN {value : Expr} {x : Str} {p pos : Pos} {Q : Value → Shared → Prop}
    (h : wpAny (Md w) A (eval value env) (fun o s₁ => wpAny (Md w) A (eval (.Name x p) env) (fun i s₂ => ItemOn (Md w) A E o i Q s₂) E s₁) E s) :
    wpAny (Md w) A (eval (.Subscript value (.Name x p) pos) env) Q E s := by
  rw [eval_Subscript]
  refine wpAny_bind (wpAny_mono h (fun o s₁ h₁ => wpAny_bind (wpAny_holding (wpAny_mono h₁ (fun i s₂ h₂ => wpAny_bind (wpAny_standAt ?_)) fun _ _ x => x)))
    fun _ _ x => x)
  obtain ⟨T, id, hl, hT, hg⟩ := h₂
  refine wpAny_bind ?_
  rw [getitemInPython_of_ne hT.not_modules]
  refine wpAny_bind (wpAny_specialOf hT hl ?_)
  have fin : wpAny (Md w) A (operate [o, i] (getItem o i)) (fun r s₃ => wpAny (Md w) A (letTemporaryGo value o r >>= fun _ => pure r) Q E s₃) E s₂ :=
    wpAny_operating (wpAny_mono hg (fun r s₃ h₃ => wpAny_bind (wpAny_letTemporaryGo (wpAny_pure h₃))) fun _ _ x => x)
  first
    | exact wpAny_pure (wpAny_bind fin)
    | exact wpAny_bind (wpAny_pure (wpAny_bind fin))
    | exact wpAny_bind fin
theorem gitem_ok {fs : List Fm} {f : Fm} {v : Value} {i : Nat} {t : Tok} {Q : Value → Shared → Prop} (Z : Sit w z H mu nw L m s) (rm : Room A 1) (hv : ClauseR w nw fs v) (hi : fs[i]? = some f) (hn : fs.length ≤ 300)
    (h : ∀ r s', Sit w z H mu nw L m s' → Rep w nw f r → Q r s') : wpAny (Md w) A (call (.ref 1139) [v, .int i t]) Q E s := by
  obtain ⟨y, dv, t1, t2, t3, rfl, ic, hd⟩ := hv
  have hdr : handedIn dv = true := by obtain ⟨_, _, _, rfl, _⟩ := hd; rfl
  have hil : i < fs.length := (List.getElem?_eq_some_iff.mp hi).1
  refine wpA_call (enter (d := 0) (binds := [("self", .ref y), ("at", .int i t)]) (rb := [("at", .int i t), ("self", .ref y)]) Z rm rfl (by kernel_rfl) (BindsTo.of_eq rfl) rfl (by decide) (locs rfl) ⟨rfl, rfl, rfl⟩ fun L' s₁ oL ns Z1 rm1 => ?_)
  refine x_seq (wpAny_Return_some (r_subN (r_nattr Z1 rfl ic (okClause w) (fClauseXdata w) rfl hdr fun s₂ Z2 => r_loc Z2 rfl ?_)))
  obtain ⟨l, vs, j, rfl, hl, hall⟩ := hd
  have hlen := hall.length
  obtain ⟨f', hf', hr⟩ := hall.get (i := i) (v := vs[i]'(by omega)) (List.getElem?_eq_getElem (by omega))
  rw [hi] at hf'
  cases hf'
  refine ⟨"list", _, slot_list_getitem.lookup, ⟨_, Z2.get hl, rfl⟩, wpAny_getItem_list ⟨_, Z2.get hl, rfl, j, rfl⟩ (by omega) (by omega) (x := vs[i]'(by omega)) (by simp) ?_⟩
  exact h _ _ (Z.back ns Z2) hr

/-- entering a def that may raise -/
theorem enterE {f : Addr} {name qual : Str} {params : Arguments} {body : List Stmt} {scope : Scope} {dV kV doc pm cdv ct : Value} {an : Option Addr} {args : Args} {binds rb : List (Str × Value)} {R : Result → Shared → Prop}
    (Z : Sit w z H mu nw L m s) (rm : Room A (d + 1))
    (ho : (K w.params).lookup f = some ⟨.type "function", none, .func (fnOf name qual params body scope dV kV doc pm an cdv ct), #[]⟩) (hcd : codeIn (K w.params) cdv qual = true)
    (hbind : BindsTo s (fnOf name qual params body scope dV kV doc pm an cdv ct) args binds) (hrb : binds.reverse = rb)
    (hcell : ∀ x ∈ scope.names, x.2 ≠ .cell) (hloc : ∀ y ∈ binds, scope.names.lookup y.1 = some .local)
    (hsc : scope.isCoroutine = false ∧ scope.isGenerator = false ∧ scope.kind = .function)
    (h : ∀ L' s₁ oL, NsObj oL m → Sit w z H ((L, oL) :: mu) nw L' (fun x => rb.lookup x) s₁ → Room (A.deeper (envX qual scope L' f cdv [])) d →
      wpAny (Md w) (A.deeper (envX qual scope L' f cdv [])) (execs body (envX qual scope L' f cdv [])) (FunQ R)
        (fun e s' => wpAny (Md w) (A.deeper (envX qual scope L' f cdv [])) (leaving (envX qual scope L' f cdv []) e) (fun _ s'' => R (.error e) s'') (fun e' s'' => R (.error e') s'') s') s₁) :
    codeAny (Md w) A (.call (.ref f) args) R s := by
  subst hrb
  obtain ⟨oL, es, ep, hL, hLd, hLk, hLf⟩ := Z.F.ns
  obtain ⟨p, loose, mean, mg, mb, T⟩ := Z.gl.T
  refine codeAny_call_def (fd := fnOf name qual params body scope dV kV doc pm an cdv ct) (body := body) (binds := binds) rm.depth (Z.K _ _ ho) rfl (T.nolimit.keeps Z.F.keep) (codeRec_of Z.K hcd) rfl hbind hcell hloc (fun h₁ hns hk₁ => ?_) hsc.1 hsc.2.1 hsc.2.2
  have Lne : ∀ q ∈ mu ++ nw, q.1 ≠ L := fun q hq => (Z.N q hq).2.1
  refine wpAny_mono (h s.heap.objs.size _ oL ⟨es, ep, hLd, hLk, hLf⟩ ⟨Z.gl, ⟨hns, fun b o e => hk₁ b o (Z.F.keep b o e), Nat.le_trans Z.F.above (Nat.le_of_lt (Heap.lt_size hL))⟩, (fun q hq => ?_), (fun q hq r hr => ?_), (List.pairwise_cons.mpr ⟨fun q hq => Ne.symm (Lne q (List.mem_append_left _ hq)), Z.mm⟩), Z.rest, Z.tb.mono (fun q hq o e => hk₁ _ _ e) (fun p hp => hp), fun q hq => ⟨(Z.tn q hq).1, Nat.ne_of_lt (Z.ltT hq), fun p hp => ?_⟩⟩ rm.down) (fun _ _ x => x) fun _ _ x => x
  · rcases List.mem_cons.mp hq with rfl | hq
    · refine ⟨hk₁ _ _ hL, Nat.ne_of_lt (Heap.lt_size hL), ?_⟩
      cases e : H.get? L with
      | none => rfl
      | some o => exact absurd (Nat.lt_of_lt_of_le (Heap.lt_size e) Z.F.above) (Nat.lt_irrefl _)
    · have n := Z.N q hq
      exact ⟨hk₁ _ _ n.1, Nat.ne_of_lt (Heap.lt_size n.1), n.2.2⟩
  · rcases List.mem_cons.mp hq with rfl | hq
    · exact Ne.symm (Lne r (List.mem_append_right _ hr))
    · exact Z.nd q hq r hr
  · rcases List.mem_cons.mp hp with rfl | hp
    · exact Ne.symm (Z.tn q hq).2.1
    · exact (Z.tn q hq).2.2 p hp

/-- an object of a frame, its slots filled -/
theorem frames_fun {h base : Heap} {Ls : List Addr} (hb : ∀ a ∈ Ls, base.get? a = none) (ho : ∀ a ∈ Ls, ∃ o, h.get? a = some o ∧ ∀ vs, o.data ≠ .fields vs) : ∀ {fr : List Env}, (∀ env ∈ fr, env.scope.kind ≠ .module ∧ ∃ a ∈ Ls, env.frame = some a) → h.FunFrames base fr
  | [], _ => trivial
  | env :: fr, hin => by
    obtain ⟨hk, a, ha, hf⟩ := hin env (.head _)
    obtain ⟨o, e, hd⟩ := ho a ha
    exact ⟨hk, ⟨a, o, hf, hb a ha, e, hd⟩, frames_fun hb ho fun e he => hin e (.tail _ he)⟩
noncomputable abbrev frOk (A : Around) (L L0 : Addr) : Prop := ∃ fr, A.frames = some fr ∧ ∀ env ∈ fr, env.scope.kind ≠ .module ∧ ∃ a ∈ [L, L0], env.frame = some a

/-- the exception leaves the def's frame: the frames' slots are filled, all else stays -/
theorem Sit.left {L' L0 e : Addr} {oL oL0 : Obj} {m' m0 : Str → Option Value} {s₂ : Shared} {h' : Heap} {tk : Tok} {env : Env} {fr : List Env} {Q : Unit → Shared → Prop} (Z : Sit w z H ((L0, oL0) :: mu) nw L m s) (ns : NsObj oL m) (ns0 : NsObj oL0 m0) (Z2 : Sit w z H ((L, oL) :: (L0, oL0) :: mu) nw L' m' s₂)
    (hfr : A.frames = some (env :: fr)) (hf : env.frame = some L') (hk : env.scope.kind ≠ .module) (hin : ∀ env ∈ fr, env.scope.kind ≠ .module ∧ ∃ a ∈ [L, L0], env.frame = some a)
    (hx : Heap.NewExc s₂.heap h' e "IndexError")
    (hQ : ∀ oL0' h'', NsObj oL0' m0 → Sit w z H ((L0, oL0') :: mu) nw L m { s₂ with heap := h'', toks := tk } → (∃ o, h''.get? e = some o ∧ o.cls = .type "IndexError") → Q () { s₂ with heap := h'', toks := tk }) :
    wpAny (Md w) A (leaving env (.ref e)) Q E { s₂ with heap := h', toks := tk } := by
  obtain ⟨es0, ep0, hd0, hk0, hf0⟩ := ns0
  obtain ⟨es, ep, hLd, hLk, hLf⟩ := ns
  have nL := Z2.N (L, oL) (.head _)
  have nL0 := Z2.N (L0, oL0) (.tail _ (.head _))
  obtain ⟨oL', es', ep', hL', hLd', hLk', hLf'⟩ := Z2.F.ns
  have hHL' : H.get? L' = none := by
    cases e : H.get? L' with
    | none => rfl
    | some o => exact absurd (Nat.lt_of_lt_of_le (Heap.lt_size e) Z2.F.above) (Nat.lt_irrefl _)
  let as : List Addr := [L', L, L0]
  let base := hideAll s₂.heap as
  have keepB : ∀ b o, s₂.heap.get? b = some o → b ∉ as → base.get? b = some o := fun b o q hb => hideAll_get _ q hb
  have stays : base.StaysIn h' := fun b o q => hx.keeps b o (of_hideAll _ q)
  obtain ⟨ob, tp, hob, hoc, hod⟩ := hx.there
  have hen : base.get? e = none := by
    cases q : base.get? e with
    | none => rfl
    | some o => have := of_hideAll as q; rw [hx.new] at this; cases this
  have objs : ∀ a ∈ as, ∃ o, h'.get? a = some o ∧ ∀ vs, o.data ≠ .fields vs := fun a ha => by
    rcases List.mem_cons.mp ha with rfl | ha
    · exact ⟨_, hx.keeps _ _ hL', fun vs q => by rw [hLd'] at q; cases q⟩
    · rcases List.mem_cons.mp ha with rfl | ha
      · exact ⟨_, hx.keeps _ _ nL.1, fun vs q => by rw [hLd] at q; cases q⟩
      · cases List.mem_singleton.mp ha
        exact ⟨_, hx.keeps _ _ nL0.1, fun vs q => by rw [hd0] at q; cases q⟩
  have FF : h'.FunFrames base (env :: fr) := frames_fun (Ls := as) (fun a ha => hideAll_none _ ha) objs fun en hen => by
    rcases List.mem_cons.mp hen with rfl | hen
    · exact ⟨hk, L', .head _, hf⟩
    · obtain ⟨k1, a, ha, k2⟩ := hin en hen
      exact ⟨k1, a, .tail _ ha, k2⟩
  refine wpAny_leaving_firstW (s := { s₂ with heap := h', toks := tk }) (a0 := tp) hfr FF hf hob stays hen hod rfl rfl fun h'' hl => ?_
  obtain ⟨st, -, tr, sl⟩ := hl
  obtain ⟨slL, gL⟩ := sl L oL (hx.keeps _ _ nL.1) (fun vs q => by rw [hLd] at q; cases q)
  obtain ⟨sl0, g0⟩ := sl L0 oL0 (hx.keeps _ _ nL0.1) (fun vs q => by rw [hd0] at q; cases q)
  have up : ∀ b o, s₂.heap.get? b = some o → b ≠ L' → b ≠ L → b ≠ L0 → h''.get? b = some o := fun b o q n1 n2 n3 => st b o (keepB b o q (by simp [as, n1, n2, n3]))
  refine hQ { oL0 with slots := sl0 } h'' ⟨es0, ep0, hd0, hk0, hf0⟩ ⟨Z.gl, ⟨⟨_, es, ep, gL, hLd, hLk, hLf⟩, fun b o q => up b o (Z2.F.keep b o q) ?_ ?_ ?_, Z.F.above⟩, fun q hq => ?_, fun q hq r hr => ?_, ?_, Z2.rest, ?_, fun q hq => ⟨(Z.tn q hq).1, (Z.tn q hq).2.1, fun p hp => ?_⟩⟩ ?_
  · rintro rfl; rw [hHL'] at q; cases q
  · rintro rfl; rw [nL.2.2] at q; cases q
  · rintro rfl; rw [nL0.2.2] at q; cases q
  · rcases List.mem_cons.mp hq with rfl | hq
    · exact ⟨g0, (Z.N _ (.head _)).2.1, nL0.2.2⟩
    · have n := Z2.N q (.tail _ (.tail _ hq))
      have nz := Z.N q (.tail _ hq)
      refine ⟨up _ _ n.1 n.2.1 nz.2.1 ?_, nz.2⟩
      rcases List.mem_append.mp hq with h | h
      · exact Ne.symm ((List.pairwise_cons.mp Z.mm).1 q h)
      · exact Ne.symm (Z.nd (L0, oL0) (.head _) q h)
  · rcases List.mem_cons.mp hq with rfl | hq
    · exact Z.nd (L0, oL0) (.head _) r hr
    · exact Z.nd q (.tail _ hq) r hr
  · exact List.pairwise_cons.mpr ⟨fun p hp => (List.pairwise_cons.mp Z.mm).1 p hp, (List.pairwise_cons.mp Z.mm).2⟩
  · refine Z2.tb.mono (fun q hq o e => up _ _ e (Z2.tn q hq).2.1 (Ne.symm ((Z2.tn q hq).2.2 _ (.head _))) (Ne.symm ((Z2.tn q hq).2.2 _ (.tail _ (.head _))))) fun _ h => h
  · rcases List.mem_cons.mp hp with rfl | hp
    · exact (Z.tn q hq).2.2 (L0, oL0) (.head _)
    · exact (Z.tn q hq).2.2 p (.tail _ hp)
  · obtain ⟨oe, vs, T, oT, ts, h1, ⟨h2, -⟩, -⟩ := tr
    exact ⟨oe, h1, h2.trans hoc⟩

theorem gitem_out {fs : List Fm} {v : Value} {i : Nat} {t : Tok} {L0 : Addr} {oL0 : Obj} {m0 : Str → Option Value} {Q : Value → Shared → Prop} (Z : Sit w z H ((L0, oL0) :: mu) nw L m s) (ns0 : NsObj oL0 m0) (fo : frOk A L L0) (rm : Room A 1) (hv : ClauseR w nw fs v) (hi : i = fs.length) (hn : fs.length ≤ 300)
    (h : ∀ e oL0' s', NsObj oL0' m0 → Sit w z H ((L0, oL0') :: mu) nw L m s' → s'.TypeIs (.ref e) "IndexError" → E (.ref e) s') : wpAny (Md w) A (call (.ref 1139) [v, .int i t]) Q E s := by
  obtain ⟨y, dv, t1, t2, t3, rfl, ic, hd⟩ := hv
  have hdr : handedIn dv = true := by obtain ⟨_, _, _, rfl, _⟩ := hd; rfl
  obtain ⟨fr, hfr, hin⟩ := fo
  refine wpA_call (enterE (d := 0) (binds := [("self", .ref y), ("at", .int i t)]) (rb := [("at", .int i t), ("self", .ref y)]) Z rm rfl (by kernel_rfl) (BindsTo.of_eq rfl) rfl (by decide) (locs rfl) ⟨rfl, rfl, rfl⟩ fun L' s₁ oL ns Z1 rm1 => ?_)
  refine x_seq (wpAny_Return_some (r_subN (r_nattr Z1 rfl ic (okClause w) (fClauseXdata w) rfl hdr fun s₂ Z2 => r_loc Z2 rfl ?_)))
  obtain ⟨l, vs, j, rfl, hl, hall⟩ := hd
  have hlen := hall.length
  refine ⟨"list", _, slot_list_getitem.lookup, ⟨_, Z2.get hl, rfl⟩, wpAny_getItem_list_out rm1.2.2 ⟨_, Z2.get hl, rfl, j, rfl⟩ (.inr (by simp; omega)) (by omega) (by omega) fun h' tk e hx => ?_⟩
  refine Sit.left Z ns ns0 Z2 (Around.frames_deeper hfr) rfl (fun q => by cases q) hin hx fun oL0' h'' n0 Z3 ho => ?_
  exact h e oL0' _ n0 Z3 ho
theorem seqnext_item {fs : List Fm} {f : Fm} {v : Value} {i : Nat} {t : Tok} {it : Addr} {Q : Option Value → Shared → Prop} (Z : Sit w z H ((it, sitO v i t) :: mu) nw L m s) (rm : Room A 2) (hv : ClauseR w nw fs v) (hi : fs[i]? = some f) (hn : fs.length ≤ 300)
    (h : ∀ r t' s', Sit w z H ((it, sitO v (i + 1 : Nat) t') :: mu) nw L m s' → Rep w nw f r → Q (some r) s') : wpAny (Md w) A (pyNext (.ref it)) Q E s := by
  have hil : i < fs.length := (List.getElem?_eq_some_iff.mp hi).1
  have hv0 := hv
  obtain ⟨y, dv, t1, t2, t3, rfl, ic, hd⟩ := hv
  have ho := Z.getM (.head _)
  have hT : s.TypeIs (.ref it) "iterator" := ⟨_, ho, rfl⟩
  obtain ⟨dx, n, I⟩ := ic.at Z
  unfold pyNext
  refine wpAny_bind (wpAny_attempt (wpAny_callSpecial?_slot (name := Str.ofString "__next__") hT slot_seqit_next (wpAny_call_entry slot_seqit_next hT entry_seqit_next ?_ (args_seqit_next _))))
  show wpAny _ _ (field (.ref it) 0 >>= _) _ _ s
  refine wpAny_bind (wpAny_field ho rfl (x := .ref y) rfl ?_)
  show wpAny _ _ (if (Value.ref y == Value.none) = true then _ else _) _ _ s
  rw [if_neg (show ¬ ((Value.ref y == Value.none) = true) from Bool.false_ne_true)]
  show wpAny _ _ (field (.ref it) 1 >>= _) _ _ s
  refine wpAny_bind (wpAny_field ho rfl (x := .int i t) rfl ?_)
  have hnot : (match (Value.int (i : Int) t) with | .int 9223372036854775807 _ => true | _ => false) = false := by
    split
    · rename_i q; injection q with q1; have q2 : i = 9223372036854775807 := Int.ofNat.inj q1; omega
    · rfl
  have X := Z.K
  show wpAny _ _ (if (match (Value.int (i : Int) t) with | .int 9223372036854775807 _ => true | _ => false) = true then _ else _) _ _ s
  rw [if_neg (by rw [hnot]; exact Bool.false_ne_true)]
  show wpAny _ _ (specialOf (.ref y) "__getitem__" >>= _) _ _ s
  refine wpAny_bind (wpAny_bind (I.type.here ((looks_findIn X (fClauseXgetitem w)).here ?_)))
  show wpAny _ _ (if (some (Value.ref 1139)).isNone = true then _ else _) _ _ s
  rw [if_neg (show ¬ ((some (Value.ref 1139)).isNone = true) from Bool.false_ne_true)]
  refine wpAny_bind (wpAny_attempt (getItem_K Z.F Z.gl.X I (nsqClause w) (fClauseXgetitem w) (isFn_of (ty1139 w)) (gitem_ok Z rm.in1 hv0 hi hn fun r s' Z' hr => ?_)))
  have ho' := Z'.getM (.head _)
  show wpAny _ _ (field (.ref it) 1 >>= _) _ _ s'
  refine wpAny_bind (wpAny_field ho' rfl (x := .int i t) rfl ?_)
  show wpAny _ _ (mkInt ((i : Int) + 1) >>= _) _ _ s'
  refine wpAny_bind (wpAny_mkInt ?_)
  refine wpAny_bind (wpAny_setField ho' rfl (by simp) (wpAny_pure ⟨r, rfl, wpAny_pure ?_⟩))
  refine h r s'.toks _ (Sit.turn (Z'.toks (s'.toks + 1)) (Heap.SameBut.update ..) ?_ (s'.toks + 1)) hr
  exact Heap.get?_update_self _ ho' (Obj.isFreed_of_fields (Obj.data_mapFields rfl _))

theorem seqnext_end {fs : List Fm} {v : Value} {i : Nat} {t : Tok} {it L0 : Addr} {oL0 : Obj} {m0 : Str → Option Value} {Q : Option Value → Shared → Prop} (Z : Sit w z H ((it, sitO v i t) :: (L0, oL0) :: mu) nw L m s) (ns0 : NsObj oL0 m0) (fo : frOk A L L0) (rm : Room A 2) (hv : ClauseR w nw fs v) (hi : i = fs.length) (hn : fs.length ≤ 300)
    (h : ∀ oL0' s', NsObj oL0' m0 → Sit w z H ((L0, oL0') :: mu) nw L m s' → Q none s') : wpAny (Md w) A (pyNext (.ref it)) Q E s := by
  have hv0 := hv
  obtain ⟨y, dv, t1, t2, t3, rfl, ic, hd⟩ := hv
  have ho := Z.getM (.head _)
  have hT : s.TypeIs (.ref it) "iterator" := ⟨_, ho, rfl⟩
  obtain ⟨dx, n, I⟩ := ic.at Z
  unfold pyNext
  refine wpAny_bind (wpAny_attempt (wpAny_callSpecial?_slot (name := Str.ofString "__next__") hT slot_seqit_next (wpAny_call_entry slot_seqit_next hT entry_seqit_next ?_ (args_seqit_next _))))
  show wpAny _ _ (field (.ref it) 0 >>= _) _ _ s
  refine wpAny_bind (wpAny_field ho rfl (x := .ref y) rfl ?_)
  show wpAny _ _ (if (Value.ref y == Value.none) = true then _ else _) _ _ s
  rw [if_neg (show ¬ ((Value.ref y == Value.none) = true) from Bool.false_ne_true)]
  show wpAny _ _ (field (.ref it) 1 >>= _) _ _ s
  refine wpAny_bind (wpAny_field ho rfl (x := .int i t) rfl ?_)
  have hnot : (match (Value.int (i : Int) t) with | .int 9223372036854775807 _ => true | _ => false) = false := by
    split
    · rename_i q; injection q with q1; have q2 : i = 9223372036854775807 := Int.ofNat.inj q1; omega
    · rfl
  have X := Z.K
  show wpAny _ _ (if (match (Value.int (i : Int) t) with | .int 9223372036854775807 _ => true | _ => false) = true then _ else _) _ _ s
  rw [if_neg (by rw [hnot]; exact Bool.false_ne_true)]
  show wpAny _ _ (specialOf (.ref y) "__getitem__" >>= _) _ _ s
  refine wpAny_bind (wpAny_bind (I.type.here ((looks_findIn X (fClauseXgetitem w)).here ?_)))
  show wpAny _ _ (if (some (Value.ref 1139)).isNone = true then _ else _) _ _ s
  rw [if_neg (show ¬ ((some (Value.ref 1139)).isNone = true) from Bool.false_ne_true)]
  refine wpAny_bind (wpAny_attempt (getItem_K Z.F Z.gl.X I (nsqClause w) (fClauseXgetitem w) (isFn_of (ty1139 w)) (gitem_out Z.swap ns0 fo rm.in1 hv0 hi hn fun e oL0' s' n0 Z' he => ?_)))
  have Z' := Z'.swap
  have ho' := Z'.getM (.head _)
  show wpAny _ _ ((isInstance (.ref e) (.type "IndexError") <||> isInstance (.ref e) (.type "StopIteration")) >>= _) _ _ s'
  refine wpAny_bind ?_
  refine wpAny_bind (m := isInstance (.ref e) (.type "IndexError")) (wpAny_isInstance (T := "IndexError") (b := true) he sub_index ?_)
  refine wpAny_pure ?_
  show wpAny _ _ (if true = true then _ else _) _ _ s'
  rw [if_pos rfl]
  refine wpAny_bind (wpAny_rule (wpAny_bind (wpAny_setField ho' rfl (by simp) ?_)))
  have Z2 : Sit w z H _ nw L m _ := Sit.turn (Z'.toks s'.toks) (Heap.SameBut.update s'.heap it (Obj.mapFields fun x => x.setIfInBounds 0 Value.none)) (Heap.get?_update_self _ ho' (Obj.isFreed_of_fields (Obj.data_mapFields rfl _))) s'.toks
  show wpAny _ _ (newExc (.type "StopIteration") [] >>= _ >>= _) _ _ _
  refine wpAny_bind ?_
  refine wpAny_bind ?_
  simp only [newExc, newTuple]
  refine wpAny_bind (wpAny_newObj_type ?_ (by size_fits))
  refine wpAny_bind (m := firstArgMember _ _) (wpAny_of_eq (a := Value.none) (by first | rfl | (simp only [firstArgMember]; rfl)) ?_)
  refine wpAny_newObj_type ?_ (by size_fits)
  simp only [raiseNew]
  refine wpAny_bind (wpAny_handled ?_)
  rw [show A.in1.handled = none from rm.2.2]
  refine wpAny_bind (wpAny_pure (wpAny_throw ?_))
  refine wpAny_bind (wpAny_isInstance (T := "StopIteration") (b := true) ⟨_, Heap.get?_push_size _ rfl, rfl⟩ isSubtype_stop ?_)
  refine wpAny_pure (h oL0' _ n0 ?_)
  exact Z2.ext (((Heap.ExtBut.refl _ _).push _).push _) s'.toks
end
end Mine
end

section
open PySem PySem.W PySem.Spec PySem.Calls PyProof.Rows
set_option Elab.async false
set_option maxRecDepth 100000
namespace Mine
set_option linter.unusedVariables false
set_option maxHeartbeats 4000000
noncomputable abbrev Row3 := Bool × Str × Str
noncomputable def rowOf : Fm → Row3
  | .app f a => (false, f, a)
  | .neg (.app f a) => (true, f, a)
  | _ => (false, "", "")
noncomputable def RowR (nw : List Ent) (r : Row3) (v : Value) : Prop := ∃ y t1 t2, v = .ref y ∧ (y, tupO #[.bool r.1, .str r.2.1 t1, .str r.2.2 t2]) ∈ nw
theorem RowR.mono {nw nw' : List Ent} {r : Row3} {v : Value} (x : RowR nw r v) (h : Le nw nw') : RowR nw' r v := let ⟨y, t1, t2, a, b⟩ := x; ⟨y, t1, t2, a, h _ b⟩
noncomputable abbrev RowsR (nw : List Ent) (rs : List Row3) (v : Value) : Prop := ListR nw (RowR nw) rs v
theorem RowsR.mono {nw nw' : List Ent} {rs : List Row3} {v : Value} (x : RowsR nw rs v) (h : Le nw nw') : RowsR nw' rs v := ListR.mono x h fun _ _ y => y.mono h

section
variable {w : World} {z : Shared} {H : Heap} {mu nw : List Ent} {L a : Addr} {m : Str → Option Value} {s : Shared} {A : Around} {E : Value → Shared → Prop} {B d : Nat} {env : Env}
theorem r_iterC {fs : List Fm} {v : Value} {Q : Value → Shared → Prop} (Z : Sit w z H mu nw L m s) (hv : ClauseR w nw fs v)
    (h : ∀ it t s', Sit w z H ((it, sitO v (0 : Nat) t) :: mu) nw L m s' → Q (.ref it) s') : wpAny (Md w) A (pyIter v) Q E s := by
  obtain ⟨y, dv, t1, t2, t3, rfl, ic, hd⟩ := hv
  obtain ⟨dx, n, I⟩ := ic.at Z
  have X := Z.K
  unfold pyIter
  refine wpAny_bind (wpAny_bind (I.type.here ((looks_findIn X (fClauseXiter w)).here ?_)))
  show wpAny _ _ (specialOf (.ref y) "__getitem__" >>= _) _ _ s
  refine wpAny_bind (wpAny_bind (I.type.here ((looks_findIn X (fClauseXgetitem w)).here ?_)))
  show wpAny _ _ (fillsSequenceSlot (.ref y) (.ref 1139) >>= _) _ _ s
  refine wpAny_bind (m := fillsSequenceSlot (.ref y) (.ref 1139)) (wpAny_pure ?_)
  show wpAny _ _ (if (!true) = true then _ else _) _ _ s
  rw [if_neg (show ¬ ((!true) = true) from Bool.false_ne_true)]
  refine wpAny_bind (wpAny_rule (wpAny_bind (wpAny_mkInt ?_)))
  have Z1 := (Z.toks (s.toks + 1)).allocM (sitO (.ref y) (0 : Nat) s.toks) rfl (s.toks + 1)
  unfold newFields
  exact wpAny_newObj_type (h _ _ _ Z1) (by size_fits)

theorem k_tcls424 (w : World) (n : Str) : kitOne (KK w) (.ref (tcls n)) (.ref 424) = some false := by
  unfold tcls; split
  · exact kIndividualX424 w
  · exact kConstantX424 w
theorem f_tclsVar (w : World) (n : Str) : findIn (KK w) (.ref (tcls n)) "variable" = some none := by
  unfold tcls; split
  · exact fIndividualXvariable w
  · exact fConstantXvariable w
/-- NAME.attr.variable.name of an atom -/
theorem r_termname {n : Str} {x attr : Str} {y : Addr} {p q v : Value} {t1 t2 : Tok} {p1 p2 p3 p4 : Pos} {Q : Value → Shared → Prop} (Z : Sit w z H mu nw L m s) (hx : m x = some (.ref y)) (i : Inst nw y 424 [dE w "function" t1 p, dE w "argument" t2 q])
    (ha : findIn (KK w) (.ref 424) attr = some none) (hl : getL attr [dE w "function" t1 p, dE w "argument" t2 q] = some (some v)) (hv : TermR w nw n v)
    (h : ∀ t s', Sit w z H mu nw L m s' → Q (.str n t) s')
    (hk : EnvOk env L := by exact ⟨rfl, rfl, rfl, rfl⟩) (hxx : env.kindOf x = some .local := by rfl) (hd : (x == ("__debug__" : Str)) = false := by decide)
    (he1 : eval (.Attribute (.Attribute (.Name x p1) attr p2) "variable" p3) env = (do let o ← eval (.Attribute (.Name x p1) attr p2) env; standAt p3.atName; let r ← holding [o] (getAttr o "variable" true); letTemporaryGo (.Attribute (.Name x p1) attr p2) o r; pure r) := by rfl)
    (he2 : eval (.Attribute (.Attribute (.Attribute (.Name x p1) attr p2) "variable" p3) "name" p4) env = (do let o ← eval (.Attribute (.Attribute (.Name x p1) attr p2) "variable" p3) env; standAt p4.atName; let r ← holding [o] (getAttr o "name" true); letTemporaryGo (.Attribute (.Attribute (.Name x p1) attr p2) "variable" p3) o r; pure r) := by rfl) :
    wpAny (Md w) A (eval (.Attribute (.Attribute (.Attribute (.Name x p1) attr p2) "variable" p3) "name" p4) env) Q E s := by
  obtain ⟨yt, u, tk, rfl, it, yv, tv, tkv, rfl, iv⟩ := hv
  exact r_attr (r_attr (r_nattr Z hx i (okApplication w) ha hl rfl (fun s1 Z1 => r_get Z1 it (ok_tcls w n) (f_tclsVar w n) rfl rfl fun s2 Z2 => r_get Z2 iv (okVariable w) (fVariableXname w) rfl rfl fun s3 Z3 => h _ _ Z3) hk hxx hd) he1) he2

noncomputable abbrev partsE (L : Addr) : Env := envX "_law_parts" (match sAt 49 with | .FunctionDef _ _ _ _ _ _ sc .. => sc | _ => default) L 1256 (.ref 1255) []
noncomputable abbrev partsFor : List Stmt := match sAt 49 with | .FunctionDef _ _ b .. => (match b.drop 1 with | .For _ _ l _ _ :: _ => l.drop 2 | _ => []) | _ => []
theorem parts_tail {b : Bool} {fw n : Str} {ya lc : Addr} {p : Ent} {us : List Value} {j : Tok} {Q : Flow → Shared → Prop} {body : List Stmt} (hbody : body = partsFor) (Z : Sit w z H (p :: (lc, W.listOf (List.toArray us) j) :: mu) nw L m s)
    (hf : m "found" = some (.ref lc)) (hb : m "negated" = some (.bool b)) (ha : m "atom" = some (.ref ya)) (hr : Rep w nw (.app fw n) (.ref ya)) (hsz : us.length ≤ 300)
    (h : ∀ ta u1 u2 s', Sit w z H (p :: (lc, W.listOf (List.toArray (us ++ [.ref ta])) (j + 1)) :: mu) ((ta, tupO #[.bool b, .str fw u1, .str n u2]) :: nw) L m s' → Q .next s') :
    wpAny (Md w) A (execs body (partsE L)) Q E s := by
  obtain ⟨_, p, q, t1, t2, ⟨rfl⟩, ia, hp, hq⟩ := hr
  refine x_seqD (hbody.trans rfl) (wpAny_If (isTrue_or (isTrue_not (isTrue_plain (r_isiN Z ha ia (okApplication w) (nApplication w) (kApplicationX424 w) fun s Z => wpAny_truthy_bool ?_)))))
  show wpAny _ _ (isTrue (.BoolOp .Or [_] _) _ _) _ _ _
  refine isTrue_or (isTrue_plain (r_callB Z (isinstance_none w) boot_isinstance (by decide) (sp_cons (r_nattr Z ha ia (okApplication w) (fApplicationXfunction w) rfl (by obtain ⟨_, _, _, rfl, _⟩ := hp; rfl) fun s Z => sp_cons (r_glob Z (nApplication w) (sp_nil ?_))))))
  have hp0 := hp
  obtain ⟨yt, u, tk, rfl, it', -⟩ := hp
  refine r_isi Z it' (ok_tcls w fw) (k_tcls424 w fw) fun s Z => wpAny_truthy_bool ?_
  show wpAny _ _ (isTrue (.BoolOp .Or [] _) _ _) _ _ _
  refine isTrue_or_nil ?_
  show wpAny _ _ (execs [] _) _ _ _
  refine wpAny_execs_nil ?_
  refine x_seq (x_append Z hf (.tail _ (.head _)) rfl rfl (wpAny_Tuple (sp_cons (r_loc Z hb (sp_cons (r_termname Z ha ia (fApplicationXfunction w) rfl hp0 fun u1 s Z => sp_cons (r_termname Z ha ia (fApplicationXargument w) rfl hq fun u2 s Z => sp_nil ⟨(show 3 ≤ sizeLine by decide), ?_⟩)))))))
  have Zb := Z.alloc (tupO #[.bool b, .str fw u1, .str n u2]) rfl s.toks
  generalize s.heap.objs.size = ta at Zb ⊢
  refine r_append Zb.swap (by rw [List.size_toArray]; omega) fun s Zc => wpAny_execs_nil ?_
  have Zd := Zc.swap
  rw [List.push_toArray] at Zd
  exact h _ _ _ _ Zd

theorem parts_ok {fs : List Fm} {v : Value} {L0 : Addr} {oL0 : Obj} {m0 : Str → Option Value} {fr : List Env} {Q : Value → Shared → Prop} (Z : Sit w z H ((L0, oL0) :: mu) nw L m s) (ns0 : NsObj oL0 m0) (rm : Room A 4)
    (hfr : A.frames = some fr) (hin : ∀ env ∈ fr, env.scope.kind ≠ .module ∧ env.frame = some L0) (hv : ClauseR w nw fs v) (hl : ∀ f ∈ fs, isLit f = true) (hn : fs.length ≤ 300)
    (h : ∀ r oL0' nw' s', Le nw nw' → NsObj oL0' m0 → Sit w z H ((L0, oL0') :: mu) nw' L m s' → RowsR nw' (fs.map rowOf) r → Q r s') : wpAny (Md w) A (call (.ref 1256) [v]) Q E s := by
  refine wpA_call (enter (d := 3) (binds := [("clause", v)]) (rb := [("clause", v)]) Z rm rfl (by kernel_rfl) (BindsTo.of_eq rfl) rfl (by decide) (locs rfl) ⟨rfl, rfl, rfl⟩ fun L' s₁ oL ns Z1 rm1 => ?_)
  refine x_seq (x_asg (wpAny_List (sp_nil ⟨by decide, ?_⟩)))
  have Z2 := Z1.allocM (W.listOf #[] 0) rfl s₁.toks
  generalize s₁.heap.objs.size = lc at Z2 ⊢
  refine r_store Z2 fun s₃ Z3 => ?_
  refine x_seq (wpAny_For (r_loc Z3 rfl (r_iterC Z3 hv fun it t s₄ Z4 => ?_)) (by intro _; rfl))
  obtain ⟨m4, hmm, Z4⟩ : ∃ m4, upd _ "found" (Value.ref lc) = m4 ∧ Sit w z H _ _ L' m4 s₄ := ⟨_, rfl, Z4⟩
  have hm1 : m4 "found" = some (.ref lc) := by rw [← hmm]; exact if_pos rfl
  have hm2 : m4 "clause" = some v := by rw [← hmm]; rfl
  clear hmm Z1 Z2 Z3
  refine codeAny_forLoop (fun k s' => ∃ i t us j m' oL0' nw', k = fs.length - i ∧ i ≤ fs.length ∧ Le nw nw' ∧ NsObj oL0' m0 ∧ m' "found" = some (.ref lc) ∧ AllR (RowR nw') ((fs.take i).map rowOf) us ∧
    Sit w z H ((it, sitO v i t) :: (lc, W.listOf (List.toArray us) j) :: (L, oL) :: (L0, oL0') :: mu) nw' L' m' s') ?_ fs.length ⟨0, t, [], 0, m4, oL0, nw, rfl, Nat.zero_le _, Le.refl _, ns0, hm1, trivial, Z4⟩
  clear Z4 hm1 hm2 m4 ns0
  rintro k s₅ ⟨i, t, us, j, m', oL0', nw', rfl, hi, le, ns0, hm, hus, Z5⟩
  have hlen := hus.length
  by_cases hlt : i < fs.length
  · refine seqnext_item Z5 (rm1.le (by omega)) (hv.mono le) (List.getElem?_eq_getElem hlt) hn fun r t' s₆ Z6 hr => ?_
    have lf := hl _ (List.getElem_mem hlt)
    have htake : fs.take (i + 1) = fs.take i ++ [fs[i]] := by rw [List.take_add_one, List.getElem?_eq_getElem hlt]; rfl
    generalize fs[i] = f at hr lf htake
    refine wpAny_assign_Name (r_store Z6 fun s₇ Z7 => ?_)
    have key : ∃ b fw n ya, f = (if b then .neg (.app fw n) else .app fw n) ∧ Rep w nw' (.app fw n) (.ref ya) ∧ rowOf f = (b, fw, n) := by
      match f, lf with
      | .app fw n, _ => obtain ⟨ya, rfl⟩ := rep_ref hr; exact ⟨false, fw, n, ya, rfl, hr, rfl⟩
      | .neg (.app fw n), _ => obtain ⟨y, p, t1, rfl, i, hp⟩ := hr; obtain ⟨ya, rfl⟩ := rep_ref hp; exact ⟨true, fw, n, ya, rfl, hp, rfl⟩
    obtain ⟨b, fw, n, ya, rfl, hra, hro⟩ := key
    have hR : ∀ ta u1 u2, AllR (RowR ((ta, tupO #[.bool b, .str fw u1, .str n u2]) :: nw')) ((fs.take (i + 1)).map rowOf) (us ++ [.ref ta]) := fun ta u1 u2 => by
      rw [htake, List.map_append]
      show AllR _ (_ ++ [rowOf _]) _
      rw [hro]
      exact AllR.append (hus.mono fun _ _ x => x.mono (Le.cons _ _)) ⟨⟨ta, u1, u2, rfl, .head _⟩, trivial⟩
    have hsz : us.length ≤ 300 := by rw [← hlen, List.length_map, List.length_take]; omega
    clear hro htake hlen hus hl hn
    cases b with
    | false =>
      simp only [Bool.false_eq_true, if_false] at hr
      have hr0 := hr
      obtain ⟨yr, p0, q0, t01, t02, rfl, ir, -⟩ := hr0
      refine x_seq (x_asg (r_isiN Z7 rfl ir (okApplication w) (nNegated w) (kApplicationX815 w) fun s Z => r_store Z fun s Z => ?_))
      refine x_seq (x_asg (wpAny_IfExp (isTrue_plain (r_loc Z rfl (wpAny_truthy_bool ?_)))))
      show wpAny _ _ (eval (.Name _ _) _) _ _ _
      refine r_loc Z rfl (r_store Z fun s Za => ?_)
      have h9 := fun A Q E rest hb => parts_tail (A := A) (b := false) (Q := Q) (E := E) (body := rest) hb Za (by exact hm) rfl rfl hr hsz
      refine h9 _ _ _ _ ?_ fun ta u1 u2 s Zd => ?_
      · exact rfl
      · exact ⟨fs.length - (i + 1), by omega, i + 1, _, us ++ [.ref ta], j + 1, _, oL0', _, rfl, hlt, le.trans (Le.cons _ _), ns0, by exact hm, hR _ _ _, Zd⟩
    | true =>
      simp only [if_true] at hr
      obtain ⟨yr, p0, t01, rfl, ir, hra⟩ := hr
      obtain ⟨ya, rfl⟩ := rep_ref hra
      refine x_seq (x_asg (r_isiN Z7 rfl ir (okNegated w) (nNegated w) (kNegatedX815 w) fun s Z => r_store Z fun s Z => ?_))
      refine x_seq (x_asg (wpAny_IfExp (isTrue_plain (r_loc Z rfl (wpAny_truthy_bool ?_)))))
      show wpAny _ _ (eval (.Attribute _ _ _) _) _ _ _
      refine r_nattr Z rfl ir (okNegated w) (fNegatedXterm w) rfl rfl fun s Z => r_store Z fun s Za => ?_
      have h9 := fun A Q E rest hb => parts_tail (A := A) (b := true) (Q := Q) (E := E) (body := rest) hb Za (by exact hm) rfl rfl hra hsz
      refine h9 _ _ _ _ ?_ fun ta u1 u2 s Zd => ?_
      · exact rfl
      · exact ⟨fs.length - (i + 1), by omega, i + 1, _, us ++ [.ref ta], j + 1, _, oL0', _, rfl, hlt, le.trans (Le.cons _ _), ns0, by exact hm, hR _ _ _, Zd⟩
  · have hin' : i = fs.length := by omega
    subst hin'
    rw [List.take_length] at hus
    have Zp := Z5.perm (mu' := (it, sitO v fs.length t) :: (L0, oL0') :: (lc, W.listOf (List.toArray us) j) :: (L, oL) :: mu) (.cons _ (List.perm_middle (l₁ := [_, _])))
    refine seqnext_end Zp ns0 ⟨_, Around.frames_deeper hfr, fun en hen => ?_⟩ (rm1.le (by omega)) (hv.mono le) rfl hn fun oL1 s₆ ns1 Z6 => wpAny_execs_nil ?_
    · rcases List.mem_cons.mp hen with rfl | hen
      · exact ⟨(fun q => by cases q), L', .head _, rfl⟩
      · exact ⟨(hin en hen).1, L0, .tail _ (.head _), (hin en hen).2⟩
    refine x_seq (wpAny_Return_some (r_loc Z6 hm ?_))
    have Z7 := (Z6.swap.freeze).swap
    refine h _ oL1 _ _ (le.trans (Le.cons _ _)) ns1 (Z.back ns Z7) ⟨lc, us, j, rfl, .head _, ?_⟩
    exact hus.mono fun _ _ x => x.mono (Le.cons _ _)
end
end Mine
end

section
open PySem PySem.W PySem.Spec PySem.Calls PyProof.Rows
set_option Elab.async false
set_option maxRecDepth 100000
namespace Mine
set_option linter.unusedVariables false
set_option maxHeartbeats 4000000
noncomputable abbrev sk (w : World) := PySem.strKind PW w
noncomputable abbrev setO (es : Array (Int × Value)) (ep : Nat) (t : SetTable) : Obj := { cls := .type "set", dict := none, data := .set es ep t }
/-- a set of strs, with its table's leading kept -/
noncomputable def SetL (w : World) (h : Heap) (a : Addr) (S : Str → Bool) (n : Nat) (b : Bool) : Prop :=
  ∃ es ep t, h.get? a = some (setO es ep t) ∧ ElemsOf (sk w) es.toList ∧ (∀ k, S k = true ↔ ∃ e ∈ es.toList, (sk w).is k e.2 = true) ∧ es.size < scanBound ∧ t.fits es.size = true ∧ es.size = n ∧ t.led = b ∧ (t.plain = true → n = 0)
theorem layNew_led (t : SetTable) (es : Array (Int × Value)) (h : Int) (x : Value) : (layNew t es h x).2.1.led = t.led := by
  unfold layNew
  split
  · show ((t.put _).1.orStandIn _).led = t.led
    unfold SetTable.orStandIn
    split <;> rfl
  · rfl
theorem relayAll_led (t : SetTable) (es : Array (Int × Value)) (n : Nat) : (relayAll t es n).2.1.led = t.led ∧ ((relayAll t es n).2.1.plain = true → t.plain = true) := by
  unfold relayAll
  split
  · rename_i t' order e
    dsimp only
    split
    · unfold SetTable.relaid SetTable.laid at e
      obtain ⟨o, -, e⟩ := Option.bind_eq_some_iff.mp e
      cases e
      exact ⟨rfl, id⟩
    · exact ⟨rfl, fun q => by cases q⟩
  · exact ⟨rfl, fun q => by cases q⟩

section
variable {w : World} {s : Shared} {A : Around} {E : Value → Shared → Prop} {a : Addr} {S : Str → Bool} {n : Nat} {b : Bool}
theorem setL_store {h : Heap} {es : Array (Int × Value)} {ep : Nat} {t : SetTable} (ho : h.get? a = some (setO es ep t)) (es' : Array (Int × Value)) (t' : SetTable) :
    (h.update a (Obj.putSet es' t')).get? a = some (setO es' (ep + 1) t') := by
  have := Heap.get?_update_self (Obj.putSet es' t') ho (by rw [putSet_of es' t' rfl]; rfl)
  rw [putSet_of es' t' rfl] at this; exact this
theorem setAdd_L {x : Str} {tx : Tok} {Q : Bool → Shared → Prop} (hS : SetL w s.heap a S n b) (hroom : n + 1 < scanBound)
    (h : ∀ h' r, Heap.SameBut a s.heap h' → SetL w h' a (fun k' => S k' || decide (k' = x)) (if S x then n else n + 1) b → Q r { s with heap := h', toks := s.toks + 1 }) : wpAny (Md w) A (setAdd a (.str x tx)) Q E s := by
  have hkey : (sk w).is x (.str x tx) = true := by show Value.isStrOf x (.str x tx) = true; simp [Value.isStrOf]
  have hsc : (Value.str x tx).scannable = true := rfl
  unfold setAdd
  refine wpAny_holding (wpAny_bind ((sk w).pyHash hkey ?_))
  obtain ⟨es, ep, t, ho, hel, hmem, hb, hf, hn, hled, hpl⟩ := hS
  have hb1 : es.size + 1 < scanBound := by rw [hn]; exact hroom
  unfold setAddHashed setAddHashedIn
  refine wpAny_holding (wpAny_bind (wpAny_setState_of (s := { s with toks := s.toks + 1 }) ho rfl hf ?_))
  dsimp only
  rw [byScan_of hsc hb hel]
  simp only [↓reduceIte]
  unfold setAddByScan
  refine wpAny_bind ?_
  refine wpAny_bind (wpAny_rule ?_)
  refine wpAny_bind (wpAny_setScan_of hkey (s := { s with toks := s.toks + 1 }) ho rfl hf hel ?_)
  cases hr : List.findIdx? (fun e => (sk w).is x e.2) es.toList with
  | some j =>
    dsimp only
    obtain ⟨hj, hpj, _⟩ := List.findIdx?_eq_some_iff_getElem.mp hr
    have hSk : S x = true := (hmem x).mpr ⟨es.toList[j], List.getElem_mem hj, hpj⟩
    refine wpAny_pure (wpAny_pure (h s.heap _ (Heap.SameBut.refl a s.heap) ⟨es, ep, t, ho, hel, fun k' => ?_, hb, hf, ?_, hled, ?_⟩))
    · rw [Bool.or_eq_true, decide_eq_true_eq, ← hmem k']
      exact ⟨fun hk => hk.elim id (fun e => e ▸ hSk), .inl⟩
    · rw [hSk]; exact hn
    · rw [hSk]; exact hpl
  | none =>
    dsimp only
    have hSk : S x = false := by
      cases hk : S x with
      | false => rfl
      | true => obtain ⟨e, he, hp⟩ := (hmem x).mp hk; have := List.findIdx?_eq_none_iff.mp hr e he; rw [hp] at this; exact Bool.noConfusion this
    have hgw : ∀ (b : Bool) {s₁ : Shared} {Q' : Unit → Shared → Prop}, Q' () s₁ → wpAny (Md w) A (match b with | true => rule "set.scan.the-table-gave-way" | false => pure ()) Q' E s₁ :=
      fun b s₁ Q' hq => by cases b <;> first | exact wpAny_pure hq | exact wpAny_rule hq
    have hperm := layNew_perm t es ((sk w).hash x) (.str x tx)
    have hfits := layNew_fits t es ((sk w).hash x) (.str x tx)
    have hl1 := layNew_led t es ((sk w).hash x) (.str x tx)
    generalize layNew t es ((sk w).hash x) (.str x tx) = Lr at hperm hfits hl1 ⊢
    obtain ⟨es1, t1, wasDummy, gave⟩ := Lr
    dsimp only at hperm hfits hl1 ⊢
    rw [Array.toList_push] at hperm
    have hel1 : ElemsOf (sk w) es1.toList := (hel.push hkey hsc).perm hperm
    have hmem1 : ∀ k', (S k' || decide (k' = x)) = true ↔ ∃ e ∈ es1.toList, (sk w).is k' e.2 = true := mem_push_iff hkey hmem hperm
    have hsz1 : es1.size = n + 1 := by rw [← Array.length_toList, hperm.length_eq, List.length_append, Array.length_toList, hn]; rfl
    have hb1' : es1.size < scanBound := by rw [hsz1]; exact hroom
    have fin : ∀ (t2 : SetTable), t2.fits es1.size = true → t2.led = b → t2.plain = false →
        wpAny (Md w) A (do
          storeSet a es1 t2
          if (!wasDummy && t2.tooFull) = true then do
              (match (relayAll t2 es1 (SetTable.grown es1.size)).2.2 with | true => rule "set.scan.the-table-gave-way" | false => pure ())
              storeSet a (relayAll t2 es1 (SetTable.grown es1.size)).1 (relayAll t2 es1 (SetTable.grown es1.size)).2.1
              pure (some true)
            else pure (some true)) (fun r s' => (∃ r1, r = some r1) ∧ ∀ r', Q r' s') E { s with toks := s.toks + 1 } := by
      intro t2 hf2 hled2 hpl2
      refine wpAny_bind (wpAny_storeSet_of (s := { s with toks := s.toks + 1 }) ho rfl ?_ (fits_of_scanBound hb1'))
      have ho1 := setL_store ho es1 t2
      have hsb1 := Heap.SameBut.update s.heap a (Obj.putSet es1 t2)
      split
      · have hp := relayAll_perm t2 es1 (SetTable.grown es1.size)
        have hfr := relayAll_fits t2 es1 (SetTable.grown es1.size)
        have hlr := relayAll_led t2 es1 (SetTable.grown es1.size)
        generalize relayAll t2 es1 (SetTable.grown es1.size) = Rl at hp hfr hlr ⊢
        obtain ⟨es2, t3, gave2⟩ := Rl
        dsimp only at hp hfr hlr ⊢
        have hsz : es2.size = es1.size := by rw [← Array.length_toList, hp.length_eq, Array.length_toList]
        have hb2 : es2.size < scanBound := by rw [hsz]; exact hb1'
        refine wpAny_bind (hgw _ ?_)
        refine wpAny_bind (wpAny_storeSet_of (s := { s with heap := s.heap.update a (Obj.putSet es1 t2), toks := s.toks + 1 }) ho1 rfl ?_ (fits_of_scanBound hb2))
        refine wpAny_pure ⟨⟨true, rfl⟩, fun r' => h _ r' (hsb1.trans (Heap.SameBut.update _ a _)) ⟨es2, _, t3, setL_store ho1 es2 t3, hel1.perm hp, fun k' => (hmem1 k').trans ⟨fun ⟨e, he, q⟩ => ⟨e, hp.mem_iff.mpr he, q⟩, fun ⟨e, he, q⟩ => ⟨e, hp.mem_iff.mp he, q⟩⟩, hb2, hfr, ?_, hlr.1.trans hled2, fun q => ?_⟩⟩
        · rw [hSk, hsz, hsz1]; rfl
        · rw [hlr.2 q] at hpl2; cases hpl2
      · refine wpAny_pure ⟨⟨true, rfl⟩, fun r' => h _ r' hsb1 ⟨es1, _, t2, ho1, hel1, hmem1, hb1', hf2, ?_, hled2, fun q => ?_⟩⟩
        · rw [hSk, hsz1]; rfl
        · rw [q] at hpl2; cases hpl2
    refine wpAny_bind (hgw _ ?_)
    split
    · refine wpAny_bind ?_
      rw [hashByValue_scannable 8 hsc]
      refine wpAny_pure ?_
      exact wpAny_mono (fin { t1 with plain := false } (SetTable.fits_plain_off hfits) (hl1.trans hled) rfl) (fun r s' hq => by obtain ⟨⟨r1, rfl⟩, hq⟩ := hq; exact wpAny_pure (hq _)) fun _ _ e => e
    · rename_i hp0
      refine wpAny_bind (wpAny_pure ?_)
      simp only [↓reduceIte]
      exact wpAny_mono (fin t1 hfits (hl1.trans hled) (by simpa using hp0)) (fun r s' hq => by obtain ⟨⟨r1, rfl⟩, hq⟩ := hq; exact wpAny_pure (hq _)) fun _ _ e => e

theorem SetL.at {h h' : Heap} (x : SetL w h a S n b) (hk : ∀ o, h.get? a = some o → h'.get? a = some o) : SetL w h' a S n b :=
  let ⟨es, ep, t, ho, r⟩ := x; ⟨es, ep, t, hk _ ho, r⟩
theorem StrsAre.at_ : ∀ {vs : List Value} {ss : List Str}, StrsAre vs ss → ∀ {i : Nat} {v : Value}, vs[i]? = some v → ∃ x t, v = .str x t ∧ ss.drop i = x :: ss.drop (i + 1)
  | _, _, .nil, i, v, e => by simp at e
  | _, _, .cons y t h, 0, v, e => by simp at e; subst e; exact ⟨y, t, rfl, rfl⟩
  | _, _, .cons y t h, i + 1, v, e => by
    obtain ⟨x, t', e1, e2⟩ := StrsAre.at_ h (i := i) (by simpa using e)
    exact ⟨x, t', e1, e2⟩
theorem StrsAre.len : ∀ {vs : List Value} {ss : List Str}, StrsAre vs ss → ss.length = vs.length
  | _, _, .nil => rfl
  | _, _, .cons _ _ h => congrArg (· + 1) (StrsAre.len h)
theorem codeAny_updateS {I l : Addr} {items : Array Value} {ss : List Str} {R : Result → Shared → Prop} (hstr : StrsAre items.toList ss) (hne : l ≠ I) (hh : A.in1.handled = none) (hab : a ∉ [I, l]) :
    ∀ (k i : Nat) (s : Shared) (S : Str → Bool) (n : Nat), items.size - i = k → i ≤ items.size → s.heap.IsListIter I l i → s.heap.IsList l items → SetL w s.heap a S n b → n + items.size - i + 1 < scanBound →
      (∀ h' tk S' n', SetL w h' a S' n' b → (∀ x, S' x = true ↔ S x = true ∨ x ∈ ss.drop i) → n' ≤ n + (items.size - i) → (∀ c o, c ≠ a → c ≠ I → s.heap.get? c = some o → h'.get? c = some o) → R (.ok (.ret .none)) { s with heap := h', toks := tk }) →
      codeAny (Md w) A (.builtin "set.update.loop" ⟨[.ref a, .ref I], []⟩) R s := by
  have haI : a ≠ I := fun e => hab (e ▸ .head _)
  have hal : a ≠ l := fun e => hab (e ▸ .tail _ (.head _))
  intro k
  induction k with
  | zero =>
    intro i s S n hk hi hit hl hS hroom hR
    have hin : i = items.size := by omega
    subst hin
    refine codeAny_builtin F.entry_set_update_loop ?_
    rw [Around.under_plainId F.plain_set_update_loop _]
    show wpAny _ A.in1 (pyNext (.ref I) >>= _) _ _ s
    refine wpAny_bind (wpAny_pyNext_list_end hh hit hl (by simp) fun h' hx => ?_)
    show wpAny _ A.in1 (ret Value.none) _ _ _
    refine wpAny_pure (hR h' s.toks S n (hS.at fun o e => hx a o haI e) (fun x => ?_) (by omega) fun c o h1 h2 e => hx c o h2 e)
    have : ss.drop items.size = [] := List.drop_eq_nil_of_le (by rw [StrsAre.len hstr]; simp)
    rw [this]; simp
  | succ k ih =>
    intro i s S n hk hi hit hl hS hroom hR
    have hlt : i < items.size := by omega
    refine codeAny_builtin F.entry_set_update_loop ?_
    rw [Around.under_plainId F.plain_set_update_loop _]
    show wpAny _ A.in1 (pyNext (.ref I) >>= _) _ _ s
    obtain ⟨x, t, e1, e2⟩ := StrsAre.at_ hstr (i := i) (v := items[i]) (by simp [hlt])
    refine wpAny_bind (wpAny_pyNext_list_item (x := items[i]) hit hl (by simp [hlt]) fun h' hit' hs => ?_)
    rw [e1]
    show wpAny _ A.in1 (holding [Value.str x t] (setAdd a (.str x t)) >>= _) _ _ _
    refine wpAny_bind (wpAny_holding (setAdd_L (s := { s with heap := h' }) (hS.at fun o e => (hs.2 a haI).trans e) (by omega) fun h₂ r hs2 hS2 => ?_))
    refine wpAny_pure ⟨plainId_quiet F.plain_set_update_loop _, ih (i + 1) _ _ _ (by omega) hlt (hit'.at fun o e => (hs2.2 I (Ne.symm haI)).trans e) ((hl.at fun o e => (hs.2 l hne).trans e).at fun o e => (hs2.2 l (Ne.symm hal)).trans e) hS2 (by split <;> omega) fun h₃ tk S' n' hS' hm hn' hk' => ?_⟩
    refine hR h₃ tk S' n' hS' (fun y => ?_) (by revert hn'; split <;> intro hn' <;> omega) fun c o h1 h2 e => hk' c o h1 h2 ((hs2.2 c h1).trans ((hs.2 c h2).trans e))
    rw [hm y, e2, Bool.or_eq_true, decide_eq_true_eq, List.mem_cons]
    exact or_assoc
end
end Mine
end

section
open PySem PySem.W PySem.Spec PySem.Calls PyProof.Rows
set_option Elab.async false
set_option maxRecDepth 100000
namespace Mine
set_option linter.unusedVariables false
set_option maxHeartbeats 4000000
noncomputable abbrev byTx (w : World) : Bool := w.params.followText "set-order"
section
variable {w : World} {s : Shared} {A : Around} {E : Value → Shared → Prop} {a : Addr} {S : Str → Bool} {n : Nat} {b : Bool}
theorem code_set_newL (x : Value) {Q₁ : Value → Shared → Prop}
    (h : Q₁ (.ref s.heap.objs.size) { s with heap := s.heap.push (setO #[] 0 (.fresh 0 0 (!byTx w))) }) :
    codeAny (Md w) A (.call (.builtin "set.__new__") ⟨[.type "set", x], []⟩) (wants Q₁ E) s := by
  refine codeAny_of_tree ?_
  show wpAny _ A.in1 (do checkBuiltinCall "set.__new__" ⟨[.type "set", x], []⟩; again (.builtin "set.__new__" ⟨[.type "set", x], []⟩)) _ _ s
  refine wpAny_bind (wpAny_of_eq (PySem.F.newCall_set_1 x) (wpAny_pure ⟨plainId_quiet PySem.F.plain_set_new _, codeAny_builtin PySem.F.entry_set_new ?_⟩))
  rw [Around.under_plainId PySem.F.plain_set_new _]
  unfold Builtin.«set.__new__» Builtin.Frozenset.newClass
  have hsub := sub_set_self
  obtain ⟨hp, g, d, tk, os⟩ := s
  dsimp only
  wp_walk
  refine wpAny_askSetting (wpAny_pure ?_)
  dsimp only
  simp only [newObj]
  refine wpAny_bind (wpAny_alloc (wpAny_pure ?_))
  exact wpAny_pure h

theorem call_setS {l : Addr} {items : Array Value} {ss : List Str} {Q : Value → Shared → Prop}
    (hh : A.handled = none) (hl : s.heap.IsList l items) (hi : StrsAre items.toList ss) (hb : items.size + 1 < scanBound)
    (h : ∀ (h' : Heap) (tk : Nat) S n, SetL w h' s.heap.objs.size S n (!byTx w) → (∀ x, S x = true ↔ x ∈ ss) → n ≤ items.size →
      (∀ b o, b < s.heap.objs.size → s.heap.get? b = some o → h'.get? b = some o) → Q (.ref s.heap.objs.size) { s with heap := h', toks := tk }) :
    wpAny (Md w) A (call (.type "set") [.ref l]) Q E s := by
  obtain ⟨c, tl, hmro⟩ := PySem.F.called_set.mro
  have hmade := PySem.F.called_set.made
  have hsub := PySem.F.called_set.sub
  refine wpA_call (codeAny_of_tree ?_)
  show wpAny _ _ (callAny (.type "set") _) _ _ _
  refine wpAny_pure ⟨Code.quiet_builtin _ (by decide +kernel), codeAny_builtin PySem.F.entry_type_call ?_⟩
  rw [Around.under_plain (weight_type_call_type "set" [.ref l] []) rfl]
  have h1 := PySem.F.called_set.notType
  have h2 := PySem.F.called_set.canCreate
  have hct := PySem.F.typeCall_set_1 (.ref l)
  repeat (any_goals (first | assumption | wp_step))
  refine codeAny_mono (code_set_newL (.ref l) (E := E) (Q₁ := fun obj s₁ => obj = .ref s.heap.objs.size ∧ s₁ = { s with heap := s.heap.push (setO #[] 0 (.fresh 0 0 (!byTx w))) }) ⟨rfl, rfl⟩) fun r s₁ hr => ?_
  cases r with
  | error e => exact hr
  | ok fl =>
    cases fl with
    | ret obj =>
      obtain ⟨rfl, rfl⟩ := hr
      have hS : (s.heap.push (setO #[] 0 (.fresh 0 0 (!byTx w)))).get? s.heap.objs.size = some (setO #[] 0 (.fresh 0 0 (!byTx w))) := Heap.get?_push_size _ rfl
      have hT : Shared.TypeIs { s with heap := s.heap.push (setO #[] 0 (.fresh 0 0 (!byTx w))) } (.ref s.heap.objs.size) "set" := ⟨_, hS, rfl⟩
      have hli := PySem.F.called_set.init.lookup
      have hbi := PySem.F.called_set.init.bind (.ref s.heap.objs.size)
      repeat (any_goals (first | assumption | wp_step))
      refine codeAny_mono (codeAny_call_builtin (R := wants (fun r s₂ => r = .none ∧ ∃ h' tk S n, s₂ = { s with heap := h', toks := tk } ∧ SetL w h' s.heap.objs.size S n (!byTx w) ∧ (∀ x, S x = true ↔ x ∈ ss) ∧ n ≤ items.size ∧
          (∀ b o, b < s.heap.objs.size → s.heap.get? b = some o → h'.get? b = some o)) E) PySem.F.called_set.init.plain PySem.F.entry_set_init (check_set_init_1 hT ?_)) fun r₂ s₂ hr₂ => ?_
      · obtain ⟨ol, hol, hcl, nl, hdl⟩ := hl
        obtain ⟨ocls, odict, odata, oslots⟩ := ol
        simp only at hcl hdl
        subst hcl; subst hdl
        have hol' : (s.heap.push (setO #[] 0 (.fresh 0 0 (!byTx w)))).get? l = some { cls := .type "list", dict := odict, data := .seq items nl, slots := oslots } := Heap.get?_push_of_some _ hol
        have hsls := PySem.F.sub_list_set
        have hslf := PySem.F.sub_list_frozenset
        have hne : (Value.type "list" == Value.type "dict") = false := by decide
        have hl1 : (s.heap.push (setO #[] 0 (.fresh 0 0 (!byTx w)))).IsList l items := ⟨_, hol', rfl, nl, rfl⟩
        unfold Builtin.«set.__init__» noKeywords Builtin.Frozenset.updateFrom
        generalize hPI : pyIter = PI
        wp_walk
        subst hPI
        refine wpAny_pyIter_list hl1 ?_
        refine wpAny_bind (wpAny_runValue ?_)
        have hlS : l < s.heap.objs.size := Heap.lt_size hol
        have hh3 : A.in1.in1.in1.handled = none := by simp [hh]
        have hneI : l ≠ (s.heap.push (setO #[] 0 (.fresh 0 0 (!byTx w)))).objs.size := by
          rw [Heap.size_push]; exact Nat.ne_of_lt (Nat.lt_succ_of_lt hlS)
        have hSf : s.heap.objs.size ∉ [(s.heap.push (setO #[] 0 (.fresh 0 0 (!byTx w)))).objs.size, l] := by
          rw [Heap.size_push]; simp only [List.mem_cons, List.mem_singleton, List.not_mem_nil, or_false, not_or]
          exact ⟨Nat.ne_of_lt (Nat.lt_succ_self _), Nat.ne_of_gt hlS⟩
        refine codeAny_updateS (b := !byTx w) hi hneI hh3 hSf (items.size - 0) 0 _ (fun _ => false) 0 rfl (Nat.zero_le _) ?hit ?hl0 ?hS0 (by omega) fun h' tk S' n' hS' hm hn' hk => ?_
        case hit => exact ⟨_, Heap.get?_push_size _ rfl, rfl, rfl⟩
        case hl0 => exact hl1.push _
        case hS0 => exact ⟨#[], 0, .fresh 0 0 (!byTx w), Heap.get?_push_of_some _ hS, (fun e he => by simp at he), (fun k => by simp), (show 0 < 4096 by decide), (by simp [SetTable.fits, SetTable.fresh, SetTable.fill]), rfl, rfl, (fun _ => rfl)⟩
        show wpAny _ _ _ _ _ _
        refine wpAny_pure ?_
        show wpAny _ _ (ret Value.none) _ _ _
        refine wpAny_pure ⟨rfl, h', tk, S', n', rfl, hS', fun x => by rw [hm x]; simp, by omega, fun b o hb e => ?_⟩
        refine hk b o (Nat.ne_of_lt hb) (Nat.ne_of_lt ?_) (Heap.get?_push_of_some _ (Heap.get?_push_of_some _ e))
        rw [Heap.size_push]; exact Nat.lt_succ_of_lt hb
      · cases r₂ with
        | error e => exact hr₂
        | ok fl₂ =>
          cases fl₂ with
          | ret r =>
            obtain ⟨rfl, h', tk, S', n', rfl, hS', hm, hn', hk'⟩ := hr₂
            repeat (any_goals (first | assumption | wp_step))
            exact h _ _ _ _ hS' hm hn' hk'
          | _ => exact hr₂.elim
    | _ => exact hr.elim
end
end Mine
end

section
open PySem PySem.W PySem.Spec PySem.Calls PyProof.Rows
set_option Elab.async false
set_option maxRecDepth 100000
namespace Mine
set_option linter.unusedVariables false
set_option maxHeartbeats 4000000
theorem slot_setit_next : Slot "set_iterator" "__next__" "set_iterator.__next__" :=
  .of (owner := "set_iterator") (n := "__next__") (by rw [typeLookup_type, builtinLookup_eq_fast]; kernel_rfl) (by decide +kernel) (by decide +kernel) (by decide +kernel)
    (by first | exact .inl (by decide +kernel) | exact .inr (by decide +kernel)) (by rw [isSubtype_type]; kernel_rfl)
theorem slot_setit_iter : Slot "set_iterator" "__iter__" "set_iterator.__iter__" :=
  .of (owner := "set_iterator") (n := "__iter__") (by rw [typeLookup_type, builtinLookup_eq_fast]; kernel_rfl) (by decide +kernel) (by decide +kernel) (by decide +kernel)
    (by first | exact .inl (by decide +kernel) | exact .inr (by decide +kernel)) (by rw [isSubtype_type]; kernel_rfl)
theorem entry_setit_next : entryFor table "set_iterator.__next__" = some Builtin.«set_iterator.__next__» := by first | exact entryFor_of_fast (by kernel_rfl) | exact entryFor_of_tree (by kernel_rfl)
theorem entry_setit_iter : entryFor table "set_iterator.__iter__" = some Builtin.«dict_keyiterator.__iter__» :=
  entryFor_alias (id' := "dict_keyiterator.__iter__") (by kernel_rfl) rfl (by decide +kernel) (by kernel_rfl)
theorem entry_set_iter' : entryFor table "set.__iter__" = some Builtin.«frozenset.__iter__» :=
  entryFor_alias (id' := "frozenset.__iter__") (by first | kernel_rfl | (rw [fastTable_eq_tree]; kernel_rfl)) (by first | rfl | decide +kernel) (by decide +kernel) (by first | kernel_rfl | (rw [fastTable_eq_tree]; kernel_rfl))
theorem args_setit_next (a : Value) : argsOk "set_iterator.__next__" ⟨[a], []⟩ := by unfold argsOk; kernel_rfl
theorem args_setit_iter (a : Value) : argsOk "set_iterator.__iter__" ⟨[a], []⟩ := by unfold argsOk; kernel_rfl
noncomputable abbrev sitr (first : Value) (i : Int) (v : Value) (n ep : Int) : Obj := { cls := .type "set_iterator", data := .fields #[first, rawInt i, v, rawInt n, rawInt ep] }

section
variable {w : World} {s : Shared} {A : Around} {E : Value → Shared → Prop} {a I : Addr} {es : Array (Int × Value)} {ep : Nat} {t : SetTable}
theorem wpAny_self_setit {first : Value} {i n : Int} {v : Value} {Q : Value → Shared → Prop} (h : s.heap.get? I = some (sitr first i v n ep)) (hQ : Q (.ref I) s) : wpAny (Md w) A (pyIter (.ref I)) Q E s := by
  have hT : s.TypeIs (.ref I) "set_iterator" := ⟨_, h, rfl⟩
  refine wpAny_pyIter_slot hT slot_setit_iter (wpAny_call_entry slot_setit_iter hT entry_setit_iter ?_ (args_setit_iter _))
  show wpAny _ _ (ret (.ref I)) _ _ s
  exact wpAny_pure ⟨_, rfl, "set_iterator", _, hT, slot_setit_next.lookup, hQ⟩

/-- the end of an iterator -/
theorem stop_at {Q : Option Value → Shared → Prop} {Q1 : Fin → Shared → Prop} (hh : A.handled = none) (h : ∀ h', (∀ b o, s.heap.get? b = some o → h'.get? b = some o) → Q none { s with heap := h' }) :
    wpAny (Md w) A.in1 (do let e ← newExc (.type "StopIteration") []; raiseNew e) Q1 (fun e s' => wpAny (Md w) A (do let b ← isInstance e (.type "StopIteration"); if b = true then pure none else throw e) Q E s') s := by
  refine wpAny_bind ?_
  simp only [newExc, newTuple]
  refine wpAny_bind (wpAny_newObj_type ?_ (by size_fits))
  refine wpAny_bind (m := firstArgMember _ _) (wpAny_of_eq (a := Value.none) (by first | rfl | (simp only [firstArgMember]; rfl)) ?_)
  refine wpAny_newObj_type ?_ (by size_fits)
  simp only [raiseNew]
  refine wpAny_bind (wpAny_handled ?_)
  rw [show A.in1.handled = none from hh]
  refine wpAny_bind (wpAny_pure (wpAny_throw ?_))
  refine wpAny_bind (wpAny_isInstance (T := "StopIteration") (b := true) ⟨_, Heap.get?_push_size _ rfl, rfl⟩ isSubtype_stop ?_)
  exact wpAny_pure (h _ fun b o e => Heap.get?_push_of_some _ (Heap.get?_push_of_some _ e))

theorem upd_rec {h : Heap} {c : Value} {vs : Array Value} {k : Nat} {x : Value} (e : h.get? I = some { cls := c, data := .fields vs }) :
    (h.update I (Obj.mapFields (·.setIfInBounds k x))).get? I = some { cls := c, data := .fields (vs.setIfInBounds k x) } := Heap.get?_update_self _ e rfl
theorem setnextI_item {slot i nx : Nat} {x : Value} {Q : Option Value → Shared → Prop} (hI : s.heap.get? I = some (sitr (rawInt slot) i (.ref a) es.size ep)) (ha : s.heap.get? a = some (setO es ep t)) (hf : t.fits es.size = true)
    (hn : ∀ {E' : Value → Shared → Prop} {Q' : Option (Value × Nat) → Shared → Prop}, Q' (some (x, nx)) s → wpAny (Md w) A.in1 (setNext a slot i ep) Q' E' s)
    (h : ∀ h', h'.get? I = some (sitr (rawInt nx) (i + 1 : Nat) (.ref a) es.size ep) → Heap.SameBut I s.heap h' → Q (some x) { s with heap := h' }) : wpAny (Md w) A (pyNext (.ref I)) Q E s := by
  have hT : s.TypeIs (.ref I) "set_iterator" := ⟨_, hI, rfl⟩
  unfold pyNext
  refine wpAny_bind (wpAny_attempt (wpAny_callSpecial?_slot (name := Str.ofString "__next__") hT slot_setit_next (wpAny_call_entry slot_setit_next hT entry_setit_next ?_ (args_setit_next _))))
  unfold Builtin.«set_iterator.__next__»
  show wpAny _ _ (fieldsOf (.ref I) >>= _) _ _ s
  refine wpAny_bind (wpAny_fieldsOf hI rfl ?_)
  show wpAny _ _ (setEntries a >>= _) _ _ s
  refine wpAny_bind (wpAny_bind (wpAny_setState_of ha rfl hf (wpAny_pure ?_)))
  show wpAny _ _ (if ((es.size : Int) != (es.size : Int)) = true then _ else _) _ _ s
  rw [if_neg (by simp)]
  show wpAny _ _ (setNext a slot i ep >>= _) _ _ s
  refine wpAny_bind (hn ?_)
  refine wpAny_bind (wpAny_setField hI rfl (by simp) ?_)
  have h1 := upd_rec (k := 0) (x := rawInt nx) hI
  refine wpAny_bind (wpAny_setField h1 rfl (by simp) ?_)
  have h2 := upd_rec (k := 1) (x := rawInt ((i : Int) + 1)) h1
  exact wpAny_pure ⟨x, rfl, wpAny_pure (h _ h2 ((Heap.SameBut.update ..).trans (Heap.SameBut.update ..)))⟩
theorem setnextI_end {slot i : Nat} {Q : Option Value → Shared → Prop} (hh : A.handled = none) (hI : s.heap.get? I = some (sitr (rawInt slot) i (.ref a) es.size ep)) (ha : s.heap.get? a = some (setO es ep t)) (hf : t.fits es.size = true)
    (hn : ∀ {E' : Value → Shared → Prop} {Q' : Option (Value × Nat) → Shared → Prop}, Q' none s → wpAny (Md w) A.in1 (setNext a slot i ep) Q' E' s)
    (h : ∀ h', Heap.ExtBut I s.heap h' → Q none { s with heap := h' }) : wpAny (Md w) A (pyNext (.ref I)) Q E s := by
  have hT : s.TypeIs (.ref I) "set_iterator" := ⟨_, hI, rfl⟩
  unfold pyNext
  refine wpAny_bind (wpAny_attempt (wpAny_callSpecial?_slot (name := Str.ofString "__next__") hT slot_setit_next (wpAny_call_entry slot_setit_next hT entry_setit_next ?_ (args_setit_next _))))
  unfold Builtin.«set_iterator.__next__»
  show wpAny _ _ (fieldsOf (.ref I) >>= _) _ _ s
  refine wpAny_bind (wpAny_fieldsOf hI rfl ?_)
  show wpAny _ _ (setEntries a >>= _) _ _ s
  refine wpAny_bind (wpAny_bind (wpAny_setState_of ha rfl hf (wpAny_pure ?_)))
  show wpAny _ _ (if ((es.size : Int) != (es.size : Int)) = true then _ else _) _ _ s
  rw [if_neg (by simp)]
  show wpAny _ _ (setNext a slot i ep >>= _) _ _ s
  refine wpAny_bind (hn ?_)
  refine wpAny_bind (wpAny_setField hI rfl (by simp) ?_)
  exact stop_at hh fun h' hk => h h' fun b o hb e => hk b o ((Heap.get?_update_other _ _ (Ne.symm hb)).trans e)
theorem setnextD_item {pt i pl c : Nat} {x : Value} {y : Int × Value} {places : Array Value} {Q : Option Value → Shared → Prop} (hI : s.heap.get? I = some (sitr (.ref pt) i (.ref a) es.size ep)) (ha : s.heap.get? a = some (setO es ep t)) (hf : t.fits es.size = true)
    (hp : s.heap.get? pt = some { cls := .type "tuple", data := .seq places c }) (hi : places[i]? = some (rawInt pl)) (hy : es[pl]? = some y)
    (h : ∀ h', h'.get? I = some (sitr (.ref pt) (i + 1 : Nat) (.ref a) es.size ep) → Heap.SameBut I s.heap h' → Q (some y.2) { s with heap := h' }) : wpAny (Md w) A (pyNext (.ref I)) Q E s := by
  have hT : s.TypeIs (.ref I) "set_iterator" := ⟨_, hI, rfl⟩
  unfold pyNext
  refine wpAny_bind (wpAny_attempt (wpAny_callSpecial?_slot (name := Str.ofString "__next__") hT slot_setit_next (wpAny_call_entry slot_setit_next hT entry_setit_next ?_ (args_setit_next _))))
  unfold Builtin.«set_iterator.__next__»
  show wpAny _ _ (fieldsOf (.ref I) >>= _) _ _ s
  refine wpAny_bind (wpAny_fieldsOf hI rfl ?_)
  show wpAny _ _ (setEntries a >>= _) _ _ s
  refine wpAny_bind (wpAny_bind (wpAny_setState_of ha rfl hf (wpAny_pure ?_)))
  show wpAny _ _ (if ((es.size : Int) != (es.size : Int)) = true then _ else _) _ _ s
  rw [if_neg (by simp)]
  show wpAny _ _ (seqItems? (.ref pt) >>= _) _ _ s
  refine wpAny_bind (wpAny_seqItems hp rfl ?_)
  have e0 : ((i : Int)).toNat = i := rfl
  simp only [Int.toNat_natCast, hi]
  show wpAny _ _ (setNextDrawn a pl ep >>= _) _ _ s
  refine wpAny_bind (wpAny_bind (wpAny_setState_of ha rfl hf ?_))
  show wpAny _ _ (if (ep != ep) = true then _ else _) _ _ s
  rw [if_neg (by simp)]
  simp only [hy]
  refine wpAny_pure ?_
  refine wpAny_bind (wpAny_setField hI rfl (by simp) ?_)
  have h2 := upd_rec (k := 1) (x := rawInt ((i : Int) + 1)) hI
  exact wpAny_pure ⟨y.2, rfl, wpAny_pure (h _ h2 (Heap.SameBut.update ..))⟩
theorem setnextD_end {pt i c : Nat} {places : Array Value} {Q : Option Value → Shared → Prop} (hh : A.handled = none) (hI : s.heap.get? I = some (sitr (.ref pt) i (.ref a) es.size ep)) (ha : s.heap.get? a = some (setO es ep t)) (hf : t.fits es.size = true)
    (hp : s.heap.get? pt = some { cls := .type "tuple", data := .seq places c }) (hi : places[i]? = none)
    (h : ∀ h', Heap.ExtBut I s.heap h' → Q none { s with heap := h' }) : wpAny (Md w) A (pyNext (.ref I)) Q E s := by
  have hT : s.TypeIs (.ref I) "set_iterator" := ⟨_, hI, rfl⟩
  unfold pyNext
  refine wpAny_bind (wpAny_attempt (wpAny_callSpecial?_slot (name := Str.ofString "__next__") hT slot_setit_next (wpAny_call_entry slot_setit_next hT entry_setit_next ?_ (args_setit_next _))))
  unfold Builtin.«set_iterator.__next__»
  show wpAny _ _ (fieldsOf (.ref I) >>= _) _ _ s
  refine wpAny_bind (wpAny_fieldsOf hI rfl ?_)
  show wpAny _ _ (setEntries a >>= _) _ _ s
  refine wpAny_bind (wpAny_bind (wpAny_setState_of ha rfl hf (wpAny_pure ?_)))
  show wpAny _ _ (if ((es.size : Int) != (es.size : Int)) = true then _ else _) _ _ s
  rw [if_neg (by simp)]
  show wpAny _ _ (seqItems? (.ref pt) >>= _) _ _ s
  refine wpAny_bind (wpAny_seqItems hp rfl ?_)
  simp only [Int.toNat_natCast, hi]
  refine wpAny_bind (wpAny_setField hI rfl (by simp) ?_)
  have h1 := upd_rec (k := 0) (x := rawInt 0) hI
  refine wpAny_bind (wpAny_setField h1 rfl (by simp) ?_)
  exact stop_at hh fun h' hk => h h' fun b o hb e => hk b o ((Heap.get?_update_other _ _ (Ne.symm hb)).trans ((Heap.get?_update_other _ _ (Ne.symm hb)).trans e))
end
end Mine
end

section
open PySem PySem.W PySem.Spec PySem.Calls PyProof.Rows
set_option Elab.async false
set_option maxRecDepth 100000
namespace Mine
set_option linter.unusedVariables false
set_option maxHeartbeats 4000000
section
variable {w : World} {s : Shared} {A : Around} {E : Value → Shared → Prop} {a I : Addr} {es : Array (Int × Value)} {ep : Nat} {t : SetTable}
theorem wpAny_byText {Q : Bool → Shared → Prop} (h : Q (byTx w) s) : wpAny (Md w) A setsByText Q E s := wpAny_bind (wpAny_askSetting (wpAny_pure h))
noncomputable def ordT (w : World) (a : Addr) (ep : Nat) (es : Array (Int × Value)) : List Value := (pickOrder (w.params.setOrder a ep) es).toList.map (·.2)
theorem setNextT {slot i : Nat} {Q : Option (Value × Nat) → Shared → Prop} (hb : byTx w = true) (ha : s.heap.get? a = some (setO es ep t)) (hf : t.fits es.size = true)
    (h : Q ((ordT w a ep es)[i]?.map (·, slot)) s) : wpAny (Md w) A (setNext a slot i ep) Q E s := by
  unfold setNext
  refine wpAny_bind (wpAny_setState_of ha rfl hf (wpAny_bind (wpAny_byText ?_)))
  rw [hb, if_pos rfl]
  show wpAny _ _ (if (ep != ep) = true then _ else _) _ _ s
  rw [if_neg (by simp)]
  refine wpAny_bind ?_
  unfold setWalk
  refine wpAny_bind (wpAny_setState_of ha rfl hf (wpAny_bind (wpAny_byText ?_)))
  rw [hb, if_pos rfl]
  refine wpAny_bind (wpAny_askSetting (wpAny_pure (wpAny_pure ?_)))
  have e : ((pickOrder (w.params.setOrder a ep) es)[i]?).map (fun e => (e.2, slot)) = (ordT w a ep es)[i]?.map (·, slot) := by
    unfold ordT
    rw [List.getElem?_map, Option.map_map, Array.getElem?_toList]
    rfl
  rw [← e] at h
  exact h
theorem below_nil (j : Nat) : SetTable.below #[] j = 0 := rfl
theorem below_one (p j : Nat) : SetTable.below #[p] j = if p < j then 1 else 0 := by
  unfold SetTable.below
  show SetTable.below.go #[p] j 1 0 1 = _
  unfold SetTable.below.go
  simp only [Nat.lt_add_one, if_true, Nat.zero_add]
  by_cases q : p < j
  · rw [if_pos q]
    have : ((#[p] : Array Nat).getD (1 / 2) j < j) := q
    rw [if_pos this]
    unfold SetTable.below.go; rfl
  · rw [if_neg q]
    have : ¬ ((#[p] : Array Nat).getD (1 / 2) j < j) := q
    rw [if_neg this]
    unfold SetTable.below.go; rfl
theorem setNextL {slot i : Nat} {Q : Option (Value × Nat) → Shared → Prop} (hb : byTx w = false) (ha : s.heap.get? a = some (setO es ep t)) (hf : t.fits es.size = true) (hs : es.size ≤ 1) (hl : t.led = true)
    (h : Q (match es[SetTable.below t.place slot]?, t.place[SetTable.below t.place slot]? with | some (_, x), some j => some (x, j + 1) | _, _ => none) s) : wpAny (Md w) A (setNext a slot i ep) Q E s := by
  unfold setNext
  refine wpAny_bind (wpAny_setState_of ha rfl hf (wpAny_bind (wpAny_byText ?_)))
  rw [hb, if_neg Bool.false_ne_true]
  show wpAny _ _ (if (!t.plain && decide (es.size > 1)) = true then _ else _) _ _ s
  rw [if_neg (by simp; omega)]
  refine wpAny_bind ?_
  show wpAny _ _ (if (!t.led && !es.isEmpty) = true then _ else _) _ _ s
  rw [if_neg (by simp [hl])]
  refine wpAny_pure ?_
  exact wpAny_pure h
theorem wpAny_choose {M : Model} {src : Source} {n : Nat} {Q : Nat → Shared → Prop} (hn : n ≠ 0) (h : ∀ i d, i < n → Q i { s with drawn := d }) : wpAny M A (choose src n) Q E s := fun Γ p _ => by
  unfold choose
  rw [Sem.wp_choose]
  exact ⟨hn, by rw [Sem.wp]; exact h _ _ (Nat.mod_lt _ (Nat.pos_of_ne_zero hn))⟩
theorem perm_erase {α : Type} : ∀ {l : List α} {i : Nat} (h : i < l.length), (l[i] :: l.eraseIdx i).Perm l
  | x :: l, 0, _ => .refl _
  | x :: l, i + 1, h => by
    rw [List.getElem_cons_succ, List.eraseIdx_cons_succ]
    exact (List.Perm.swap ..).trans (.cons _ (perm_erase (by simpa using h)))
theorem drawOrder_ok {M : Model} {α : Type} : ∀ (n : Nat) (xs : List α) {s : Shared} {Q : List α → Shared → Prop}, n = xs.length → (∀ ys d, ys.Perm xs → Q ys { s with drawn := d }) → wpAny M A (drawOrder n xs) Q E s
  | 0, xs, s, Q, hn, h => by
    have : xs = [] := List.length_eq_zero_iff.mp hn.symm
    subst this
    unfold drawOrder
    exact wpAny_pure (h [] s.drawn (.refl _))
  | n + 1, [], s, Q, hn, h => by cases hn
  | n + 1, x :: xs, s, Q, hn, h => by
    unfold drawOrder
    refine wpAny_bind (wpAny_choose (by simp) fun i d hi => ?_)
    rw [List.getElem?_eq_getElem hi]
    dsimp only
    refine wpAny_bind (drawOrder_ok n _ (by rw [List.length_eraseIdx_of_lt hi]; simp at hn ⊢; omega) fun ys d' hp => ?_)
    refine wpAny_pure (h _ d' ?_)
    exact (List.Perm.cons _ hp).trans (perm_erase hi)
theorem pickGo_perm {α : Type} (next : Nat → Nat) : ∀ (fuel k : Nat) (left : List α) (out : Array α), fuel = left.length → (pickOrder.go next fuel k left out).toList.Perm (out.toList ++ left)
  | 0, k, left, out, h => by
    have : left = [] := List.length_eq_zero_iff.mp h.symm
    subst this
    unfold pickOrder.go; simp
  | fuel + 1, k, left, out, h => by
    unfold pickOrder.go
    have hi : next k % left.length < left.length := Nat.mod_lt _ (by omega)
    rw [List.getElem?_eq_getElem hi]
    dsimp only
    refine (pickGo_perm next fuel (k + 1) _ _ (by rw [List.length_eraseIdx_of_lt hi]; omega)).trans ?_
    rw [Array.toList_push, List.append_assoc]
    exact List.Perm.append_left _ (perm_erase hi)
theorem ordT_perm (ep : Nat) (es : Array (Int × Value)) : (ordT w a ep es).Perm (es.toList.map (·.2)) := by
  unfold ordT pickOrder
  exact (pickGo_perm _ _ _ _ _ (by simp)).map _
end
end Mine
end

section
open PySem PySem.W PySem.Spec PySem.Calls PyProof.Rows
set_option Elab.async false
set_option maxRecDepth 100000
namespace Mine
set_option linter.unusedVariables false
set_option maxHeartbeats 4000000
noncomputable abbrev ordP (ord : List Value) (i : Nat) (v : Value) : Prop := ord[i]? = some v
theorem sb_keep {h h' : Heap} {I : Addr} (x : Heap.SameBut I h h') : ∀ b o, b ∉ [I] → h.get? b = some o → h'.get? b = some o := fun b o hb e => (x.2 b fun q => hb (q ▸ .head _)).trans e
theorem eb_keep {h h' : Heap} {I : Addr} (x : Heap.ExtBut I h h') : ∀ b o, b ∉ [I] → h.get? b = some o → h'.get? b = some o := fun b o hb e => x b o (fun q => hb (q ▸ .head _)) e
section
variable {w : World} {s : Shared} {A : Around} {E : Value → Shared → Prop} {a I : Addr} {es : Array (Int × Value)} {ep : Nat} {t : SetTable}
theorem walkT (hb : byTx w = true) (hf : t.fits es.size = true) (hne : a ≠ I) (hh : A.handled = none) :
    Walks PW w A I [I, a] [I] (ordT w a ep es).length (ordP (ordT w a ep es)) (fun i h => h.get? I = some (sitr (rawInt 0) (i : Nat) (.ref a) es.size ep) ∧ h.get? a = some (setO es ep t)) where
  sub := fun b hb => by simp at hb; simp [hb]
  frame := fun i h h' st hk => ⟨hk I (by simp) _ st.1, hk a (by simp) _ st.2⟩
  item := fun i s Q E hi st hQ => by
    refine setnextI_item (nx := 0) (x := (ordT w a ep es)[i]) st.1 st.2 hf (fun hq => setNextT hb st.2 hf ?_) fun h' h1 h2 => hQ _ h' s.toks (List.getElem?_eq_getElem hi) ⟨h1, (h2.2 a hne).trans st.2⟩ (sb_keep h2)
    rw [List.getElem?_eq_getElem hi]; exact hq
  done := fun s Q E st hQ => setnextI_end hh st.1 st.2 hf (fun hq => setNextT hb st.2 hf (by rw [List.getElem?_eq_none (Nat.le_refl _)]; exact hq)) fun h' hx => hQ h' s.toks (eb_keep hx)
  self := fun i s Q E st hQ => wpAny_self_setit st.1 hQ
theorem walkD {pt c : Nat} {pl : List Nat} (hf : t.fits es.size = true) (hne : a ≠ I) (hpe : pt ≠ I) (hp : pl.Perm (List.range es.size)) (hh : A.handled = none) :
    Walks PW w A I [I, a, pt] [I] (pl.map fun j => ((es[j]?).map (·.2)).getD .none).length (ordP (pl.map fun j => ((es[j]?).map (·.2)).getD .none))
      (fun i h => h.get? I = some (sitr (.ref pt) (i : Nat) (.ref a) es.size ep) ∧ h.get? a = some (setO es ep t) ∧ h.get? pt = some { cls := .type "tuple", data := .seq (pl.map fun (i : Nat) => rawInt i).toArray c }) where
  sub := fun b hb => by simp at hb; simp [hb]
  frame := fun i h h' st hk => ⟨hk I (by simp) _ st.1, hk a (by simp) _ st.2.1, hk pt (by simp) _ st.2.2⟩
  item := fun i s Q E hi st hQ => by
    rw [List.length_map] at hi
    have hm : pl[i] < es.size := List.mem_range.mp (hp.mem_iff.mp (List.getElem_mem hi))
    refine setnextD_item (pl := pl[i]) (y := es[pl[i]]) (x := .none) st.1 st.2.1 hf st.2.2 (by simp [hi]) (by simp [hm]) fun h' h1 h2 => hQ _ h' s.toks ?_ ⟨h1, (h2.2 a hne).trans st.2.1, (h2.2 pt hpe).trans st.2.2⟩ (sb_keep h2)
    show (pl.map _)[i]? = _
    rw [List.getElem?_map, List.getElem?_eq_getElem hi, Option.map_some]
    simp [hm]
  done := fun s Q E st hQ => setnextD_end hh st.1 st.2.1 hf st.2.2 (by simp) fun h' hx => hQ h' s.toks (eb_keep hx)
  self := fun i s Q E st hQ => wpAny_self_setit st.1 hQ
theorem walkL (hb : byTx w = false) (hf : t.fits es.size = true) (hs : es.size ≤ 1) (hl : t.led = true) (hne : a ≠ I) (hh : A.handled = none) :
    Walks PW w A I [I, a] [I] (es.toList.map (·.2)).length (ordP (es.toList.map (·.2))) (fun i h => (∃ slot : Nat, (slot = if i = 0 then 0 else (t.place[0]?).getD 0 + 1) ∧ h.get? I = some (sitr (rawInt slot) (i : Nat) (.ref a) es.size ep)) ∧ h.get? a = some (setO es ep t)) where
  sub := fun b hb => by simp at hb; simp [hb]
  frame := fun i h h' ⟨⟨sl, q, st⟩, st2⟩ hk => ⟨⟨sl, q, hk I (by simp) _ st⟩, hk a (by simp) _ st2⟩
  item := fun i s Q E hi st hQ => by
    obtain ⟨⟨sl, q, st⟩, st2⟩ := st
    simp only [List.length_map, Array.length_toList] at hi
    obtain rfl : i = 0 := by omega
    have h1 : es.size = 1 := by omega
    have hps : t.place.size = 1 := by
      simp only [SetTable.fits, Bool.and_eq_true, beq_iff_eq] at hf
      rw [hf.1, h1]
    obtain ⟨p, hp⟩ : ∃ p, t.place = #[p] := ⟨t.place[0], by apply Array.ext (by simp [hps]); intro i h1 h2; simp at h2; subst h2; rfl⟩
    obtain rfl : sl = 0 := by simpa using q
    refine setnextI_item (nx := p + 1) (x := es[0].2) st st2 hf (fun hq => setNextL hb st2 hf hs hl ?_) fun h' g1 g2 => hQ _ h' s.toks (show (es.toList.map (·.2))[0]? = _ by rw [List.getElem?_map, Array.getElem?_toList]; simp [h1]) ⟨⟨p + 1, by simp [hp], g1⟩, (g2.2 a hne).trans st2⟩ (sb_keep g2)
    rw [hp, below_one, if_neg (Nat.not_lt_zero _)]
    have e1 : es[0]? = some es[0] := by simp [h1]
    rw [e1]
    exact hq
  done := fun s Q E st hQ => by
    obtain ⟨⟨sl, q, st⟩, st2⟩ := st
    refine setnextI_end hh st st2 hf (fun hq => setNextL hb st2 hf hs hl ?_) fun h' hx => hQ h' s.toks (eb_keep hx)
    have hps : t.place.size = es.size := by
      simp only [SetTable.fits, Bool.and_eq_true, beq_iff_eq] at hf
      exact hf.1
    have key : es[SetTable.below t.place sl]? = none := by
      simp only [List.length_map, Array.length_toList] at q
      by_cases h0 : es.size = 0
      · apply Array.getElem?_eq_none; omega
      · have h1 : es.size = 1 := by omega
        obtain ⟨p, hp⟩ : ∃ p, t.place = #[p] := ⟨t.place[0]'(by omega), by apply Array.ext (by simp [hps, h1]); intro i h1 h2; simp at h2; subst h2; rfl⟩
        rw [if_neg h0, hp] at q
        rw [hp, below_one, if_pos (by rw [q]; simp)]
        apply Array.getElem?_eq_none; omega
    rw [key]; exact hq
  self := fun i s Q E st hQ => let ⟨⟨sl, q, st⟩, st2⟩ := st; wpAny_self_setit st hQ
end
end Mine
end

section
open PySem PySem.W PySem.Spec PySem.Calls PyProof.Rows
set_option Elab.async false
set_option maxRecDepth 100000
namespace Mine
set_option linter.unusedVariables false
set_option maxHeartbeats 4000000
theorem set_len_look : typeLookup (.type "set") "__len__" = pure (some (.builtin "set.__len__")) := by rw [typeLookup_type, builtinLookup_eq_fast]; kernel_rfl
section
variable {w : World} {s : Shared} {A : Around} {E : Value → Shared → Prop} {a I : Addr} {es : Array (Int × Value)} {ep : Nat} {t : SetTable}
/-- what an order of a set's strs is -/
structure OrdOf (S : Str → Bool) (n : Nat) (ord : List Value) : Prop where
  ex : ∃ ss, StrsAre ord ss ∧ ss.length = n ∧ ∀ x, x ∈ ss ↔ S x = true
theorem ordOf_perm {S : Str → Bool} {n : Nat} {ord : List Value} (hel : ElemsOf (sk w) es.toList) (hmem : ∀ k, S k = true ↔ ∃ e ∈ es.toList, (sk w).is k e.2 = true) (hn : es.size = n) (hp : ord.Perm (es.toList.map (·.2))) : OrdOf S n ord := by
  have hv : ∀ v ∈ ord, ∃ x t, v = .str x t := fun v hv => by
    obtain ⟨e, he, rfl⟩ := List.mem_map.mp (hp.mem_iff.mp hv)
    obtain ⟨⟨k, hk, -⟩, -⟩ := hel e he
    obtain ⟨t, ht⟩ := Value.isStrOf_shape hk
    exact ⟨k, t, ht⟩
  refine ⟨ord.map strOf, strsAre_map _ hv, by rw [List.length_map, hp.length_eq, List.length_map, Array.length_toList, hn], fun x => ?_⟩
  rw [hmem x]
  constructor
  · intro hx
    obtain ⟨v, hv', rfl⟩ := List.mem_map.mp hx
    obtain ⟨e, he, rfl⟩ := List.mem_map.mp (hp.mem_iff.mp hv')
    obtain ⟨⟨k, hk, -⟩, -⟩ := hel e he
    obtain ⟨t, ht⟩ := Value.isStrOf_shape hk
    refine ⟨e, he, ?_⟩
    rw [ht]; show Value.isStrOf k (.str k t) = true
    rw [← ht]; exact hk
  · rintro ⟨e, he, hx⟩
    obtain ⟨t, ht⟩ := Value.isStrOf_shape hx
    exact List.mem_map.mpr ⟨e.2, hp.mem_iff.mpr (List.mem_map_of_mem he), by rw [ht]; rfl⟩

theorem iterSet {S : Str → Bool} {n : Nat} {Q : Value → Shared → Prop} (hS : SetL w s.heap a S n (!byTx w))
    (h : ∀ I h' d ord fp St, (∀ A', A'.handled = none → Walks PW w A' I fp [I] ord.length (ordP ord) St) → St 0 h' → I ∈ fp ∧ s.heap.objs.size ≤ I → (∀ b ∈ fp, b = a ∨ s.heap.objs.size ≤ b) → OrdOf S n ord → (∀ b o, s.heap.get? b = some o → h'.get? b = some o) → Q (.ref I) { s with heap := h', drawn := d }) :
    wpAny (Md w) A (pyIter (.ref a)) Q E s := by
  obtain ⟨es, ep, t, ho, hel, hmem, hb, hf, hn, hled, hpl⟩ := hS
  have hT : s.TypeIs (.ref a) "set" := ⟨_, ho, rfl⟩
  have hlt := Heap.lt_size ho
  refine wpAny_pyIter_slot hT PySem.F.slot_set_iter (wpAny_call_entry PySem.F.slot_set_iter hT entry_set_iter' ?_ (PySem.F.args_set_iter_1 _))
  unfold Builtin.«frozenset.__iter__»
  show wpAny _ _ (Builtin.Frozenset.sizeOf a >>= _) _ _ s
  refine wpAny_bind (wpAny_bind (wpAny_bind (wpAny_setState_of ho rfl hf (wpAny_pure (wpAny_pure ?_)))))
  refine wpAny_bind ?_
  unfold setDrawn
  refine wpAny_bind (wpAny_setState_of ho rfl hf (wpAny_bind (wpAny_byText (wpAny_pure ?_))))
  show wpAny _ _ (if (!byTx w && (!t.plain && decide (es.size > 1))) = true then _ else _) _ _ s
  by_cases hdr : (!byTx w && (!t.plain && decide (es.size > 1))) = true
  · rw [if_pos hdr]
    refine wpAny_bind (drawOrder_ok _ _ (by simp) fun pl d hp => ?_)
    refine wpAny_bind (wpAny_newTuple (hsz := ?hz) ?_)
    case hz => rw [List.length_map, hp.length_eq, List.length_range]; exact fits_of_scanBound hb
    have ho1 := Heap.get?_push_of_some (h := s.heap) (seqObj "tuple" (pl.map fun (i : Nat) => rawInt i).toArray 0) ho
    refine wpAny_bind (wpAny_bind (wpAny_setState_of (s := { s with drawn := d, heap := s.heap.push (seqObj "tuple" (pl.map fun (i : Nat) => rawInt i).toArray 0) }) ho1 rfl hf (wpAny_pure ?_)))
    unfold newFields
    refine wpAny_bind (wpAny_newObj_type ?_ (by size_fits))
    refine wpAny_pure ⟨_, rfl, "set_iterator", _, ⟨_, Heap.get?_push_size _ rfl, rfl⟩, slot_setit_next.lookup, ?_⟩
    have hpt := Heap.get?_push_size s.heap (o := seqObj "tuple" (pl.map fun (i : Nat) => rawInt i).toArray 0) rfl
    have hIne : a ≠ (s.heap.push (seqObj "tuple" (pl.map fun (i : Nat) => rawInt i).toArray 0)).objs.size := by rw [size_push']; exact Nat.ne_of_lt (Nat.lt_succ_of_lt hlt)
    have hpne : s.heap.objs.size ≠ (s.heap.push (seqObj "tuple" (pl.map fun (i : Nat) => rawInt i).toArray 0)).objs.size := by rw [size_push']; exact Nat.ne_of_lt (Nat.lt_succ_self _)
    refine h _ _ d _ _ _ (fun A' hh => walkD (ep := ep) (c := 0) hf hIne hpne hp hh) ⟨Heap.get?_push_size _ rfl, Heap.get?_push_of_some _ ho1, Heap.get?_push_of_some _ hpt⟩ ⟨.head _, by rw [size_push']; exact Nat.le_succ _⟩ (fun b hb => ?_) (ordOf_perm hel hmem hn ?_) fun b o e => Heap.get?_push_of_some _ (Heap.get?_push_of_some _ e)
    · rcases List.mem_cons.mp hb with rfl | hb
      · exact .inr (by rw [size_push']; exact Nat.le_succ _)
      · rcases List.mem_cons.mp hb with rfl | hb
        · exact .inl rfl
        · cases List.mem_singleton.mp hb; exact .inr (Nat.le_refl _)
    · have h1 := hp.map fun j => ((es[j]?).map (·.2)).getD Value.none
      refine h1.trans (List.Perm.of_eq ?_)
      apply List.ext_getElem (by simp)
      intro i h1 h2
      simp at h1
      simp [h1]
  · rw [if_neg hdr]
    refine wpAny_bind (wpAny_pure ?_)
    refine wpAny_bind (wpAny_bind (wpAny_setState_of ho rfl hf (wpAny_pure ?_)))
    unfold newFields
    refine wpAny_bind (wpAny_newObj_type ?_ (by size_fits))
    refine wpAny_pure ⟨_, rfl, "set_iterator", _, ⟨_, Heap.get?_push_size _ rfl, rfl⟩, slot_setit_next.lookup, ?_⟩
    have hIne : a ≠ s.heap.objs.size := Nat.ne_of_lt hlt
    have fpm : ∀ b ∈ [s.heap.objs.size, a], b = a ∨ s.heap.objs.size ≤ b := fun b hb => by
      rcases List.mem_cons.mp hb with rfl | hb
      · exact .inr (Nat.le_refl _)
      · cases List.mem_singleton.mp hb; exact .inl rfl
    cases hbt : byTx w with
    | true =>
      exact h _ _ s.drawn _ _ _ (fun A' hh => walkT (ep := ep) hbt hf hIne hh) ⟨Heap.get?_push_size _ rfl, Heap.get?_push_of_some _ ho⟩ ⟨.head _, Nat.le_refl _⟩ fpm (ordOf_perm hel hmem hn (ordT_perm ep es)) fun b o e => Heap.get?_push_of_some _ e
    | false =>
      have hs : es.size ≤ 1 := by
        rw [hbt] at hdr
        simp only [Bool.not_false, Bool.true_and, Bool.and_eq_true, Bool.not_eq_true', decide_eq_true_eq, not_and, Nat.not_lt] at hdr
        cases hpp : t.plain with
        | true => have := hpl hpp; omega
        | false => exact hdr hpp
      exact h _ _ s.drawn _ _ _ (fun A' hh => walkL (ep := ep) hbt hf hs (by rw [hled, hbt]; rfl) hIne hh) ⟨⟨0, rfl, Heap.get?_push_size _ rfl⟩, Heap.get?_push_of_some _ ho⟩ ⟨.head _, Nat.le_refl _⟩ fpm (ordOf_perm hel hmem hn (.refl _)) fun b o e => Heap.get?_push_of_some _ e
end
end Mine
end

section
open PySem PySem.W PySem.Spec PySem.Calls PyProof.Rows
set_option Elab.async false
set_option maxRecDepth 100000
namespace Mine
set_option linter.unusedVariables false
set_option maxHeartbeats 4000000
theorem split_set_len : splitId "set.__len__" = some ("set", "__len__") := by kernel_rfl
section
variable {w : World} {s : Shared} {A : Around} {E : Value → Shared → Prop} {a I : Addr} {es : Array (Int × Value)} {ep : Nat} {t : SetTable} {S : Str → Bool} {n : Nat}
noncomputable abbrev listO (vs : Array Value) : Obj := { cls := .type "list", data := .seq vs }
theorem hint_set {Q : Bool → Shared → Prop} (hT : s.TypeIs (.ref a) "set") (h : Q false s) : wpAny (Md w) A (Builtin.List.listLengthHint (.ref a)) Q E s := by
  unfold Builtin.List.listLengthHint
  refine wpAny_bind (wpAny_specialOf hT set_len_look ?_)
  dsimp only
  rw [split_set_len]
  dsimp only
  refine wpAny_bind (wpAny_isInstance (T := "set") (b := true) hT sub_set_self ?_)
  simp only [Bool.not_true, Bool.false_eq_true, if_false]
  rw [if_pos]
  case hc => kernel_rfl
  refine wpAny_bind (wpAny_typeOf hT ?_)
  exact wpAny_pure h
theorem collectSet {Q : List Value → Shared → Prop} (hh : A.handled = none) (hS : SetL w s.heap a S n (!byTx w))
    (h : ∀ vs h' d tk, OrdOf S n vs → (∀ b o, s.heap.get? b = some o → h'.get? b = some o) → Q vs { s with heap := h', drawn := d, toks := tk }) : wpAny (Md w) A (collect (.ref a)) Q E s := by
  have hS0 := hS
  obtain ⟨es, ep, t, ho, hel, hmem, hb, hf, hn, hled, hpl⟩ := hS
  have hnb : n ≤ sizeLine := by rw [← hn]; exact fits_of_scanBound hb
  have hlt := Heap.lt_size ho
  unfold collect
  refine wpAny_bind (wpAny_runValue (codeAny_builtin PySem.F.entry_proto_collect ?_))
  rw [Around.under_plainId PySem.F.plain_proto_collect _]
  show wpAny _ A.in1 (newList [] >>= fun l => again (.builtin "list.__iadd__" ⟨[l, .ref a], []⟩)) _ _ s
  refine wpAny_bind (wpAny_newObj_type ?_)
  refine wpAny_pure ⟨plainId_quiet PySem.F.plain_list_iadd _, codeAny_builtin PySem.F.entry_list_iadd ?_⟩
  rw [Around.under_plainId PySem.F.plain_list_iadd _]
  show wpAny _ A.in1 (Builtin.List.listExtendWith (.ref s.heap.objs.size) (.ref a) (.ref s.heap.objs.size)) _ _ { s with heap := s.heap.push (listO #[]) }
  have hS1 : SetL w (s.heap.push (listO #[])) a S n (!byTx w) := hS0.at fun o e => Heap.get?_push_of_some _ e
  have hT1 : Shared.TypeIs { s with heap := s.heap.push (listO #[]) } (.ref a) "set" := ⟨_, Heap.get?_push_of_some _ ho, rfl⟩
  unfold Builtin.List.listExtendWith
  refine wpAny_bind (wpAny_typeOf hT1 ?_)
  have h1 : Builtin.List.listSameRef (.ref s.heap.objs.size) (.ref a) = false := by simp [Builtin.List.listSameRef]; exact Nat.ne_of_gt hlt
  have h2 : (Value.type "set" == Value.type "list") = false := by decide
  have h3 : (Value.type "set" == Value.type "tuple") = false := by decide
  simp only [h1, h2, h3, Bool.or_false, Bool.false_eq_true, if_false]
  refine wpAny_bind (iterSet (s := { s with heap := s.heap.push (listO #[]) }) hS1 fun I h' d ord fp St W hst ⟨hI, hIs⟩ hfp hord hk => ?_)
  have hD : h'.get? s.heap.objs.size = some (listO #[]) := hk _ _ (Heap.get?_push_size _ rfl)
  have hTa : Shared.TypeIs { s with heap := h', drawn := d } (.ref a) "set" := ⟨_, hk _ _ (Heap.get?_push_of_some _ ho), rfl⟩
  refine wpAny_bind (wpAny_holding (hint_set hTa ?_))
  rw [if_pos]
  case hc => kernel_rfl
  refine wpAny_bind (wpAny_rule ?_)
  refine wpAny_bind ?_
  show wpAny _ A.in1 (updateSeq s.heap.objs.size (·.push .none) >>= fun _ => updateSeq s.heap.objs.size (·.pop)) _ _ _
  refine wpAny_bind (wpAny_updateSeq hD rfl ?_)
  have hS₂ := Heap.get?_update_self (Obj.mapSeq (·.push Value.none)) hD rfl
  refine wpAny_updateSeq hS₂ rfl ?_
  have hS₃ := Heap.get?_update_self (Obj.mapSeq (·.pop)) hS₂ rfl
  have oth : ∀ b o, b ≠ s.heap.objs.size → h'.get? b = some o → ((h'.update s.heap.objs.size (Obj.mapSeq (·.push Value.none))).update s.heap.objs.size (Obj.mapSeq (·.pop))).get? b = some o :=
    fun b o hb e => (Heap.get?_update_other _ _ (Ne.symm hb)).trans ((Heap.get?_update_other _ _ (Ne.symm hb)).trans e)
  have hSf : s.heap.objs.size ∉ fp := fun hm => by
    rcases hfp _ hm with e | e
    · exact Nat.ne_of_gt hlt e
    · rw [show ({ s with heap := s.heap.push (listO #[]) } : Shared).heap.objs.size = s.heap.objs.size + 1 from size_push' _ _] at e; omega
  have W' := (W A.in1 hh).toS
  have hlen : ord.length = n := by obtain ⟨ss, h1, h2, -⟩ := hord.ex; rw [← h2, StrsAre.len h1]
  refine wpAny_pure ⟨plainId_quiet PySem.F.plain_extend_loop _, codeAny_extend_loopS W' (by rw [hlen]; exact hnb) _ hSf _ ord.length 0 _ _ _ rfl (Nat.zero_le _) (W'.frame 0 { s with heap := h', drawn := d } _ s.toks hst (Nat.le_refl _) fun b hb o e => oth b o (fun h => hSf (h ▸ hb)) e) hS₃ (ItemsOf.nil _) fun s' acc' c' hm hS' hit => ?_⟩
  have hIs' : s.heap.objs.size < I := by rw [show ({ s with heap := s.heap.push (listO #[]) } : Shared).heap.objs.size = s.heap.objs.size + 1 from size_push' _ _] at hIs; omega
  have ea : acc'.toList = ord := by
    apply List.ext_getElem (by rw [Array.length_toList]; exact hit.1)
    intro i h1 h2
    have := hit.2 i acc'[i] (by simp at h1; simp [h1])
    rw [Array.getElem_toList]
    have e2 : ord[i]? = some ord[i] := List.getElem?_eq_getElem h2
    exact Option.some.inj (this.symm.trans e2) 
  show wpAny _ A (load s.heap.objs.size >>= _) _ _ s'
  refine wpAny_bind (wpAny_load hS' ?_)
  show wpAny _ A (pure acc'.toList) _ _ s'
  rw [ea]
  have es : s' = { s with heap := s'.heap, drawn := d, toks := s'.toks } := by
    have e1 : s'.gens = s.gens := hm.gens
    have e2 : s'.drawn = d := hm.drawn
    have e3 : s'.os = s.os := hm.os
    cases s'
    simp only at e1 e2 e3
    subst e1 e2 e3
    rfl
  have fin := h ord s'.heap d s'.toks hord fun b o e => ?_
  · rw [← es] at fin
    exact wpAny_pure fin
  · have hlb := Heap.lt_size e
    refine hm.heap b o ?_ (oth b o (Nat.ne_of_lt hlb) (hk b o (Heap.get?_push_of_some _ e)))
    simp only [List.mem_cons, List.mem_singleton, List.not_mem_nil, or_false, not_or]
    exact ⟨Nat.ne_of_lt hlb, Nat.ne_of_lt (Nat.lt_trans hlb hIs')⟩
theorem sortedSet {Q : Value → Shared → Prop} (hh : A.handled = none) (hS : SetL w s.heap a S n (!byTx w)) (h64 : n < 64)
    (h : ∀ D (vs' : List Value) ss e h' d tk, h'.get? D = some (seqObj "list" vs'.toArray e) → (∀ b o, s.heap.get? b = some o → b ≠ D) → StrsAre vs' ss → ss.length = n → (∀ x, x ∈ ss ↔ S x = true) → (∀ b o, s.heap.get? b = some o → h'.get? b = some o) →
      Q (.ref D) { s with heap := h', drawn := d, toks := tk }) : wpAny (Md w) A (call (.builtin "sorted") [.ref a]) Q E s := by
  refine Calls.call_function_entry kind_sorted plain_sorted entry_sorted (args_sorted1 _) ?_
  unfold Builtin.«sorted»
  refine wpAny_bind (m := checkCount "sorted" 1 1 _) (wpAny_pure ?_)
  refine wpAny_bind (collectSet hh hS fun vs h1 d tk hord hk => ?_)
  obtain ⟨ss, hss, hlen, hmem⟩ := hord.ex
  have hvl : vs.length = n := by rw [← hlen, StrsAre.len hss]
  refine wpAny_bind (wpAny_newList ?_)
  have hoL : (h1.push (seqObj "list" vs.toArray 0)).get? h1.objs.size = some (seqObj "list" vs.toArray 0) := Heap.get?_push_size _ rfl
  show wpAny _ _ _ _ _ { s with heap := h1.push (seqObj "list" vs.toArray 0), drawn := d, toks := tk }
  refine wpAny_bind (wpAny_holding (wpAny_call_entry slot_list_sort ⟨_, hoL, rfl⟩ entry_list_sort (list_sort_treeK strKind_oneLt hoL hss.keysOf (fun v₁ v₂ rest e => keyKind_strs (by rw [← e]; exact hss)) (by omega) fun st' a1 a2 => ⟨_, rfl, ?_⟩) (args_list_sort _)))
  obtain ⟨ss', b1, b2, b3⟩ := sorted_out_str hss a1 a2
  obtain ⟨e, he⟩ := sortedHeap_at (out := (arrOf st').map (·.2)) hoL
  refine wpAny_pure ⟨_, rfl, ?_⟩
  rw [show ((arrOf st').map (·.2)) = ((arrOf st').map (·.2)).toList.toArray from (Array.toArray_toList).symm] at he
  refine h _ ((arrOf st').map (·.2)).toList ss' e _ d tk he (fun b o q => Nat.ne_of_lt (Heap.lt_size (hk b o q))) b1 (by rw [b2.length_eq, hlen]) (fun x => (b2.mem_iff).trans (hmem x)) fun b o q => ?_
  have hb := hk b o q
  have hlt := Heap.lt_size hb
  rw [Array.toArray_toList, sortedHeap_old (Nat.ne_of_lt hlt) (by rw [size_push']; exact Nat.lt_succ_of_lt hlt)]
  exact Heap.get?_push_of_some _ hb
end
end Mine
end

section
open PySem PySem.W PySem.Spec PySem.Calls PyProof.Rows
set_option Elab.async false
set_option maxRecDepth 100000
namespace Mine
set_option linter.unusedVariables false
set_option maxHeartbeats 4000000
end Mine
end

section
open PySem PySem.W PySem.Spec PySem.Calls PyProof.Rows
set_option Elab.async false
set_option maxRecDepth 100000
namespace Mine
set_option linter.unusedVariables false
set_option maxHeartbeats 4000000
section
variable {w : World} {z : Shared} {H : Heap} {mu nw : List Ent} {L a : Addr} {m : Str → Option Value} {s : Shared} {A : Around} {E : Value → Shared → Prop} {B d : Nat} {env : Env}
/-- NAME, NAME, NAME = a tuple that stays -/
theorem assign3 {x y u : Str} {px py pu tpos : Pos} {k : Nat} {ta : Addr} {v1 v2 v3 : Value} {Q : Unit → Shared → Prop} (hh : A.handled = none) (Z : Sit w z H mu nw L m s) (ht : (ta, tupO #[v1, v2, v3]) ∈ nw)
    (h : ∀ s', Sit w z H mu nw L (fun q => if q = u then some v3 else if q = y then some v2 else if q = x then some v1 else m q) s' → Q () s')
    (hk : EnvOk env L := by exact ⟨rfl, rfl, rfl, rfl⟩) (hx : env.kindOf x = some .local := by rfl) (hy : env.kindOf y = some .local := by rfl) (hu : env.kindOf u = some .local := by rfl) :
    wpAny (Md w) A (assign (.Tuple [.Name x px, .Name y py, .Name u pu] k tpos) env (.ref ta)) Q E s := by
  refine wpAny_assign_Tuple hh ⟨_, Z.get ht, rfl, _, rfl⟩ rfl rfl fun h₁ he₁ => ?_
  have Z1 := Z.keeps (h' := h₁) (fun b o e => he₁ b o (Nat.ne_of_lt (Heap.lt_size e)) e) s.toks
  show wpAny _ _ (assignInOrder [assign (.Name x px) env, assign (.Name y py) env, assign (.Name u pu) env] [v1, v2, v3]) _ _ _
  refine assignInOrder_cons (wpAny_assign_Name (r_store Z1 (fun s Z => ?_) hk hx))
  refine assignInOrder_cons (wpAny_assign_Name (r_store Z (fun s Z => ?_) hk hy))
  refine assignInOrder_cons (wpAny_assign_Name (r_store Z (fun s Z => ?_) hk hu))
  exact assignInOrder_nil (h _ Z)

/-- what a loop's walk wants, behind its iterable -/
inductive ForT (w : World) (z : Shared) (H : Heap) (A : Around) (L : Addr) (env : Env) (body : List Stmt) (Q : Flow → Shared → Prop) (x y u : Str) (xv : Value) (s₁ : Shared) : Prop
  | mk (rs : List Row3) (mu nw : List Ent) (m : Str → Option Value)
    (f0 : Sit w z H mu nw L m s₁)
    (f1 : RowsR nw rs xv)
    (f2 : A.handled = none)
    (I : Nat → List Ent → List Ent → (Str → Option Value) → Prop)
    (f4 : I 0 mu nw m)
    (f5 : ∀ p i b n1 n2 t1 t2 mu' nw' m' s' E', rs[i]? = some (b, n1, n2) → I i mu' nw' m' → Le nw nw' → Sit w z H (p :: mu') nw' L (fun q => if q = u then some (.str n2 t2) else if q = y then some (.str n1 t1) else if q = x then some (.bool b) else m' q) s' →
          wpAny (Md w) A (execs body env) (LoopQ w z H L I (i + 1) nw' p Q) E' s')
    (f6 : ∀ mu' nw' m' s', I rs.length mu' nw' m' → Le nw nw' → Sit w z H mu' nw' L m' s' → Q .next s') : ForT w z H A L env body Q x y u xv s₁

/-- for NAME, NAME, NAME in a list of rows that stays -/
theorem x_forT {x y u : Str} {px py pu tpos pos : Pos} {k : Nat} {iter : Expr} {body : List Stmt} {Q : Flow → Shared → Prop}
    (h : wpAny (Md w) A (eval iter env) (fun xv s₁ => ForT w z H A L env body Q x y u xv s₁) E s)
    (hs : ∀ x, foldedSetIterable iter env x = pure x := by intro _; rfl)
    (hk : EnvOk env L := by exact ⟨rfl, rfl, rfl, rfl⟩) (hx : env.kindOf x = some .local := by rfl) (hy : env.kindOf y = some .local := by rfl) (hu : env.kindOf u = some .local := by rfl) :
    wpAny (Md w) A (exec (.For (.Tuple [.Name x px, .Name y py, .Name u pu] k tpos) iter body [] pos) env) Q E s := by
  refine wpAny_For (wpAny_mono h (fun xv s₁ h₁ => ?_) fun _ _ e => e) hs
  obtain ⟨rs, mu, nw, m, Z, ⟨l, vs, j, rfl, hl, hall⟩, hh, I, h0, step, done⟩ := h₁
  have hlen := hall.length
  refine wpAny_pyIter_list (items := vs.toArray) ⟨_, Z.get hl, rfl, j, rfl⟩ ?_
  have Z1 := Z.allocM { cls := .type "list_iterator", data := .fields #[.ref l, .int 0 0] } rfl s₁.toks
  have hne : l ≠ s₁.heap.objs.size := Nat.ne_of_lt (Z.lt (List.mem_append_right _ hl))
  generalize s₁.heap.objs.size = it at Z1 hne ⊢
  refine codeAny_forLoop_any (fun k s' => ∃ i o' mu' nw' m', k = rs.length - i ∧ i ≤ rs.length ∧ (o'.cls = .type "list_iterator" ∧ o'.data = .fields #[.ref l, .int i 0]) ∧ I i mu' nw' m' ∧ Le nw nw' ∧ Sit w z H ((it, o') :: mu') nw' L m' s') ?_ rs.length ⟨0, _, mu, nw, m, rfl, Nat.zero_le _, ⟨rfl, rfl⟩, h0, Le.refl _, Z1⟩
  rintro k s' ⟨i, o', mu', nw', m', rfl, hi, hst, hI, le, Z'⟩
  have hL : s'.heap.IsList l vs.toArray := ⟨_, Z'.get (le _ hl), rfl, j, rfl⟩
  by_cases hlt : i < rs.length
  · have hlv : i < vs.length := by omega
    obtain ⟨r, hr, hR⟩ := hall.get (i := i) (v := vs[i]) (List.getElem?_eq_getElem hlv)
    obtain ⟨ty, t1, t2, ev, hty⟩ := hR
    refine wpAny_pyNext_list_item (x := vs[i]) ⟨o', Z'.getM (.head _), hst⟩ hL (by simp [hlv]) fun h₁ hit₁ hsb => ?_
    have hit0 := hit₁
    obtain ⟨o₁, ho₁, hst₁⟩ := hit₁
    have Z1 := Z'.turnT hsb ho₁ s'.toks
    rw [ev]
    refine wpAny_letOwnedTupleGo_listiter hit0 ?_
    refine assign3 hh Z1 (le _ hty) (fun s₂ Z2 => ?_) hk hx hy hu
    refine wpAny_mono (step (it, o₁) i r.1 r.2.1 r.2.2 t1 t2 mu' nw' m' s₂ _ hr hI le Z2) (fun f s₃ h₃ => ?_) fun _ _ e => e
    have fin : LoopNext w z H L I (i + 1) nw' (it, o₁) s₃ →
        ∃ m, m < rs.length - i ∧ ∃ i o' mu' nw' m', m = rs.length - i ∧ i ≤ rs.length ∧ (o'.cls = .type "list_iterator" ∧ o'.data = .fields #[.ref l, .int i 0]) ∧ I i mu' nw' m' ∧ Le nw nw' ∧ Sit w z H ((it, o') :: mu') nw' L m' s₃ := by
      rintro ⟨mu₂, nw₂, m₂, hI₂, le₂, Z₃⟩
      exact ⟨rs.length - (i + 1), by omega, i + 1, o₁, mu₂, nw₂, m₂, rfl, hlt, hst₁, hI₂, le.trans le₂, Z₃⟩
    cases f with
    | next => exact fin h₃
    | cont => exact fin h₃
    | brk => exact h₃
    | ret v => exact h₃
  · have hin : i = rs.length := by omega
    subst hin
    refine wpAny_pyNext_list_end hh ⟨o', Z'.getM (.head _), hst⟩ hL (by simp; omega) fun h₁ hx₁ => wpAny_execs_nil ?_
    exact done mu' nw' m' _ hI le (Z'.ext hx₁ s'.toks)
end
end Mine
end

section
open PySem PySem.W PySem.Spec PySem.Calls PyProof.Rows
set_option Elab.async false
set_option maxRecDepth 100000
namespace Mine
set_option linter.unusedVariables false
set_option maxHeartbeats 4000000
theorem boot_range : bootBuiltins "range" = some (.type "range") := by boot_fast
theorem boot_set : bootBuiltins "set" = some (.type "set") := by boot_fast
theorem boot_sorted : bootBuiltins "sorted" = some (.builtin "sorted") := by boot_fast
theorem boot_all : bootBuiltins "all" = some (.builtin "all") := by boot_fast
section
variable {w : World} {z : Shared} {H : Heap} {mu nw : List Ent} {L a : Addr} {m : Str → Option Value} {s : Shared} {A : Around} {E : Value → Shared → Prop} {B d : Nat} {env : Env}
/-- a call of a built-in type by its name -/
theorem r_callT {id : Str} {np pos : Pos} {e : Expr} {rest : List Expr} {f : String} {Q : Value → Shared → Prop} (Z : Sit w z H mu nw L m s) (hf : nsIn (KK w) mainGlobals id = some none) (hb : bootBuiltins id = some (.type f)) (hn : id ≠ "__name__")
    (h : wpAny (Md w) A (spliced (backTo pos (starEach (e :: rest) env))) (fun vs s₁ => wpAny (Md w) A (call (.type f) vs) Q E s₁) E s)
    (hk' : EnvOk env L := by exact ⟨rfl, rfl, rfl, rfl⟩) (hx : env.kindOf id = some .globalImplicit := by rfl) (hd : (id == ("__debug__" : Str)) = false := by decide)
    (he : starEach (e :: rest) env = (false, eval e env) :: starEach rest env := by rfl) (hplain : (backTo pos (starEach rest env)).any (·.1) = false := by rfl) :
    wpAny (Md w) A (eval (.Call (.Name id np) (e :: rest) [] pos) env) Q E s :=
  wpAny_Call_NameR (r_blt Z hf hb hn (PyProof.Rows.callWith_type1 h he hplain) hk' hx hd)

theorem steps_range {it : Addr} {n : Nat} : Steps w nw it n (fun i v => ∃ t, v = .int i t) (fun i o => o = { cls := .type "range_iterator", data := .fields #[rawInt (i : Nat), rawInt ((n : Int) - (i : Nat)), rawInt 1] }) where
  item := by
    intro i s o A E Q hi hnw ho hst hQ
    subst hst
    refine wpAny_pyNext_range_item (x := i) (left := (n : Int) - i) (step := 1) ho (by omega) fun h' hit hs => ?_
    refine hQ _ h' _ _ ⟨s.toks, rfl⟩ hit ?_ hs
    have e1 : ((i : Nat) : Int) + 1 = ((i + 1 : Nat) : Int) := by push_cast; rfl
    have e2 : (n : Int) - (i : Nat) - 1 = (n : Int) - ((i + 1 : Nat) : Int) := by push_cast; omega
    rw [e1, e2]
  done := by
    intro s o A E Q hh hnw ho hst hQ
    subst hst
    exact wpAny_pyNext_range_end (x := n) (left := (n : Int) - n) (step := 1) hh ho (by omega) fun h' hx => hQ h' s.toks hx

/-- what a loop's walk wants, behind its iterable -/
inductive ForR (w : World) (z : Shared) (H : Heap) (A : Around) (L : Addr) (env : Env) (body : List Stmt) (Q : Flow → Shared → Prop) (x : Str) (v : Value) (s₁ : Shared) : Prop
  | mk (n : Nat) (t : Tok) (mu nw : List Ent) (m : Str → Option Value)
    (f0 : v = .int n t)
    (f1 : n < 2 ^ 60)
    (f2 : Sit w z H mu nw L m s₁)
    (f3 : A.handled = none)
    (I : Nat → List Ent → List Ent → (Str → Option Value) → Prop)
    (f5 : ∀ nw', Le nw nw' → I 0 mu nw' m)
    (f6 : ∀ p i t mu' nw' m' s' E', i < n → I i mu' nw' m' → Le nw nw' → Sit w z H (p :: mu') nw' L (upd m' x (.int i t)) s' →
          wpAny (Md w) A (execs body env) (LoopQ w z H L I (i + 1) nw' p Q) E' s')
    (f7 : ∀ mu' nw' m' s', I n mu' nw' m' → Le nw nw' → Sit w z H mu' nw' L m' s' → Q .next s') : ForR w z H A L env body Q x v s₁

/-- for NAME in range(..) -/
theorem x_forR {x : Str} {px pos np pc : Pos} {e : Expr} {body : List Stmt} {Q : Flow → Shared → Prop} (Z0 : Sit w z H mu nw L m s)
    (h : wpAny (Md w) A (eval e env) (fun v s₁ => ForR w z H A L env body Q x v s₁) E s)
    (hs : ∀ x, foldedSetIterable (.Call (.Name "range" np) [e] [] pc) env x = pure x := by intro _; rfl)
    (hk : EnvOk env L := by exact ⟨rfl, rfl, rfl, rfl⟩) (hx : env.kindOf x = some .local := by rfl) (hr : env.kindOf "range" = some .globalImplicit := by rfl) (he : starEach [e] env = (false, eval e env) :: starEach [] env := by rfl) :
    wpAny (Md w) A (exec (.For (.Name x px) (.Call (.Name "range" np) [e] [] pc) body [] pos) env) Q E s := by
  refine wpAny_For (r_callT Z0 (brange w) boot_range (by decide) (sp_cons (wpAny_mono h (fun v s₁ h₁ => sp_nil ?_) fun _ _ e => e) he) hk hr (by decide) he rfl) hs
  obtain ⟨n, t, mu, nw, m, rfl, hn, Z, hh, I, h0, step, done⟩ := h₁
  refine call_range_1 ?_
  have Z1 := Z.alloc { cls := .type "range", data := .fields #[.int 0 s₁.toks, .int n t, .int 1 (s₁.toks + 1)] } rfl (s₁.toks + 1 + 1)
  refine wpAny_pyIter_range (a := 0) (b := n) (c := 1) (t := s₁.toks) (u := t) (v := s₁.toks + 1) (Z1.get (.head _)) (small_one (by decide) (by decide) (by omega) (by omega)) ?_
  have e1 : Builtin.Range.rangeSize 0 n 1 = n := by rw [rangeSize_one]; split <;> omega
  rw [e1]
  have Z2 := Z1.allocM { cls := .type "range_iterator", data := .fields #[rawInt 0, rawInt n, rawInt 1] } rfl (s₁.toks + 1 + 1)
  have le := Le.cons (s₁.heap.objs.size, ({ cls := .type "range", data := .fields #[.int 0 s₁.toks, .int n t, .int 1 (s₁.toks + 1)] } : Obj)) nw
  refine loop_for (steps_range (n := n)) Z2 (by simp) hh I (h0 _ le) (fun i v o' mu' nw' m' s' E' hi hv hI le' Z' => ?_) (fun mu' nw' m' s' hI le' Z' => done mu' nw' m' s' hI (le.trans le') Z') hk hx
  obtain ⟨t', rfl⟩ := hv
  exact step _ i t' mu' nw' m' s' E' hi hI (le.trans le') Z'

/-- NAME.index(NAME) of strs -/
theorem index_strs {l : Addr} {vs : List Value} {ys : List Str} {k : Str} {t : Tok} {c : Nat} {Q : Value → Shared → Prop} (ho : s.heap.get? l = some (W.listOf vs.toArray c)) (hi : StrsAre vs ys) (hb : ys.length ≤ 1000) (hk : k ∈ ys)
    (h : Q (.int (ys.idxOf k : Nat) s.toks) { s with toks := s.toks + 1 }) : wpAny (Md w) A (call (.builtin "list.index") [.ref l, .str k t]) Q E s := by
  have hlen := StrsAre.len hi
  have hj : ys.idxOf k < ys.length := List.idxOf_lt_length_iff.mpr hk
  have at_ : ∀ (j : Nat) (hjs : j < vs.length), isStrOf k vs[j] = (ys[j]'(by omega) == k) := fun j hjs => by
    obtain ⟨x, tx, e1, e2⟩ := StrsAre.at_ hi (i := j) (v := vs[j]) (List.getElem?_eq_getElem hjs)
    rw [e1]
    have e3 : ys[j]'(by omega) = x := by
      have : ys.drop j = ys[j]'(by omega) :: ys.drop (j + 1) := List.drop_eq_getElem_cons (by omega)
      rw [this] at e2
      exact (List.cons.inj e2).1
    rw [e3]; rfl
  refine call_meets PySem.F.slot_list_index ⟨_, ho, rfl⟩ PySem.F.entry_list_index (PySem.F.args_list_index_2 _ _)
    (SeqAt.list_indexAt l vs.toArray c none #[] (.str k t) (isStrOf k) (ys.idxOf k) (by simp; omega) (by omega) ?_ ?_) ⟨ho, fun y hy => (eq_isStrOf k t hi y (by simpa using hy)).at _ _, h⟩
  · show isStrOf k vs[ys.idxOf k] = true
    rw [at_ _ (by omega)]
    simpa using List.getElem_idxOf hj
  · intro j hjs hlt
    show isStrOf k vs[j] = false
    have hjv : j < vs.length := by simpa using hjs
    rw [at_ j hjv]
    have h9 := List.not_of_lt_findIdx (p := (· == k)) (xs := ys) (i := j) hlt
    simpa using h9
end
end Mine
end

section
open PySem PySem.W PySem.Spec PySem.Calls PyProof.Rows
set_option Elab.async false
set_option maxRecDepth 100000
namespace Mine
set_option linter.unusedVariables false
set_option maxHeartbeats 4000000
noncomputable abbrev Th := Str ⊕ Int
noncomputable def isTh : Th → Value → Bool
  | .inl x, v => Value.isStrOf x v
  | .inr i, v => Value.isInt i v
theorem isTh_str {x : Str} {v : Value} (h : isTh (.inl x) v = true) : ∃ t, v = .str x t := Value.isStrOf_shape h
theorem isTh_int {i : Int} {v : Value} (h : isTh (.inr i) v = true) : ∃ t, v = .int i t := Value.isInt_shape h
theorem eqB_si {A : Around} {E : Value → Shared → Prop} {s : Shared} {w : World} {x : Str} {i : Int} {t t' : Tok} {Q : Bool → Shared → Prop} (hq : Q false s) : wpAny (Md w) A (eqBool (.str x t) (.int i t')) Q E s := by
  unfold eqBool
  refine wpAny_holding ?_
  rw [show (Value.str x t == Value.int i t') = false from rfl, if_neg Bool.false_ne_true]
  dsimp only
  exact wpAny_bind (EqMixed.eq_str_int (wpAny_truthy_bool hq))
theorem eqB_is {A : Around} {E : Value → Shared → Prop} {s : Shared} {w : World} {x : Str} {i : Int} {t t' : Tok} {Q : Bool → Shared → Prop} (hq : Q false s) : wpAny (Md w) A (eqBool (.int i t') (.str x t)) Q E s := by
  unfold eqBool
  refine wpAny_holding ?_
  rw [show (Value.int i t' == Value.str x t) = false from rfl, if_neg Bool.false_ne_true]
  dsimp only
  exact wpAny_bind (EqMixed.eq_int_str (wpAny_truthy_bool hq))
noncomputable def mixK (w : World) : PySem.KeyKind PW w Th where
  is := isTh
  hash := fun k => match k with | .inl x => hashStr w x | .inr i => hashInt i
  inj := fun v a b ha hb => by
    cases a with
    | inl x =>
      obtain ⟨t, rfl⟩ := isTh_str ha
      cases b with
      | inl y => obtain ⟨t', e⟩ := isTh_str hb; cases e; rfl
      | inr j => obtain ⟨t', e⟩ := isTh_int hb; cases e
    | inr i =>
      obtain ⟨t, rfl⟩ := isTh_int ha
      cases b with
      | inl y => obtain ⟨t', e⟩ := isTh_str hb; cases e
      | inr j => obtain ⟨t', e⟩ := isTh_int hb; cases e; rfl
  byValue := fun k v h => by
    cases k with
    | inl x => obtain ⟨t, rfl⟩ := isTh_str h; rfl
    | inr i => obtain ⟨t, rfl⟩ := isTh_int h; rfl
  pyHash := fun {A E s k v Q} hv h => by
    cases k with
    | inl x => obtain ⟨t, rfl⟩ := isTh_str hv; exact wpAny_pyHash_str h
    | inr i => obtain ⟨t, rfl⟩ := isTh_int hv; exact wpAny_pyHash_int h
  eqBool := fun {A E s a b u v Q} hu hv h => by
    cases a with
    | inl x =>
      obtain ⟨t, rfl⟩ := isTh_str hu
      cases b with
      | inl y =>
        obtain ⟨t', rfl⟩ := isTh_str hv
        refine wpAny_eqBool_str ?_
        rw [show decide ((Sum.inl x : Th) = Sum.inl y) = decide (x = y) from by simp] at h
        exact h
      | inr j =>
        obtain ⟨t', rfl⟩ := isTh_int hv
        rw [show decide ((Sum.inl x : Th) = Sum.inr j) = false from by simp] at h
        exact eqB_si h
    | inr i =>
      obtain ⟨t, rfl⟩ := isTh_int hu
      cases b with
      | inl y =>
        obtain ⟨t', rfl⟩ := isTh_str hv
        rw [show decide ((Sum.inr i : Th) = Sum.inl y) = false from by simp] at h
        exact eqB_is h
      | inr j =>
        obtain ⟨t', rfl⟩ := isTh_int hv
        refine wpAny_eqBool_int ?_
        rw [show decide ((Sum.inr i : Th) = Sum.inr j) = decide (i = j) from by simp] at h
        exact h
  «strs» := fun k x t v h => by
    cases k with
    | inl y =>
      obtain ⟨t', e⟩ := isTh_str h
      cases e
      cases v <;> rfl
    | inr i => obtain ⟨t', e⟩ := isTh_int h; cases e

/-- a dict's object, its keys tuples that stay -/
noncomputable def DictL (w : World) (nw : List Ent) (o : Obj) (xs : List (List Th × Addr × Value)) : Prop :=
  o.ExactDict ∧ (∃ es ep, o.data = .dict es ep ∧ es.toList = xs.map (entryOfKey (tupleKind (mixK w)))) ∧ (∀ x ∈ xs, ∃ ok, (x.2.1, ok) ∈ nw ∧ TupKeyObj (mixK w) x.1 ok) ∧ (xs.map (·.1)).Nodup
theorem DictL.mono {w : World} {nw nw' : List Ent} {o : Obj} {xs : List (List Th × Addr × Value)} (x : DictL w nw o xs) (h : Le nw nw') : DictL w nw' o xs :=
  ⟨x.1, x.2.1, fun y hy => let ⟨ok, a, b⟩ := x.2.2.1 y hy; ⟨ok, h _ a, b⟩, x.2.2.2⟩
/-- a world: what it says of a word and a thing -/
noncomputable def WorldR (w : World) (nw : List Ent) (f : Str → Th → Option Bool) (v : Value) : Prop :=
  ∃ d o xs, v = .ref d ∧ (d, o) ∈ nw ∧ DictL w nw o xs ∧ ∀ word th b, f word th = some b → ∃ a, atKey xs [.inl word, th] = some (a, .bool b)
theorem WorldR.mono {w : World} {nw nw' : List Ent} {f : Str → Th → Option Bool} {v : Value} (x : WorldR w nw f v) (h : Le nw nw') : WorldR w nw' f v :=
  let ⟨d, o, xs, a, b, c, e⟩ := x; ⟨d, o, xs, a, h _ b, c.mono h, e⟩
section
variable {w : World} {z : Shared} {H : Heap} {mu nw : List Ent} {L a : Addr} {m : Str → Option Value} {s : Shared} {A : Around} {E : Value → Shared → Prop} {B d : Nat} {env : Env}
theorem DictL.at {o : Obj} {xs : List (List Th × Addr × Value)} {h : Heap} {d : Addr} (x : DictL w nw o xs) (ho : h.get? d = some o) (hk : ∀ p ∈ nw, h.get? p.1 = some p.2) : h.DictOfH (tupleKind (mixK w)) d xs := by
  obtain ⟨h1, ⟨es, ep, h2, h3⟩, h4, h5⟩ := x
  exact ⟨o, es, ep, ho, h1, h2, h3, fun y hy => let ⟨ok, a, b⟩ := h4 y hy; b.key (hk _ a), h5⟩
theorem r_subT {value : Expr} {elts : List Expr} {k : Nat} {p pos : Pos} {Q : Value → Shared → Prop}
    (h : wpAny (Md w) A (eval value env) (fun o s₁ => wpAny (Md w) A (eval (.Tuple elts k p) env) (fun i s₂ => ItemOn (Md w) A E o i Q s₂) E s₁) E s) :
    wpAny (Md w) A (eval (.Subscript value (.Tuple elts k p) pos) env) Q E s := by
  rw [eval_Subscript]
  refine wpAny_bind (wpAny_mono h (fun o s₁ h₁ => wpAny_bind (wpAny_holding (wpAny_mono h₁ (fun i s₂ h₂ => wpAny_bind (wpAny_standAt ?_)) fun _ _ x => x)))
    fun _ _ x => x)
  obtain ⟨T, id, hl, hT, hg⟩ := h₂
  refine wpAny_bind ?_
  rw [getitemInPython_of_ne hT.not_modules]
  refine wpAny_bind (wpAny_specialOf hT hl ?_)
  have fin : wpAny (Md w) A (operate [o, i] (getItem o i)) (fun r s₃ => wpAny (Md w) A (letTemporaryGo value o r >>= fun _ => pure r) Q E s₃) E s₂ :=
    wpAny_operating (wpAny_mono hg (fun r s₃ h₃ => wpAny_bind (wpAny_letTemporaryGo (wpAny_pure h₃))) fun _ _ x => x)
  first
    | exact wpAny_pure (wpAny_bind fin)
    | exact wpAny_bind (wpAny_pure (wpAny_bind fin))
    | exact wpAny_bind fin
theorem tupKey2 {word : Str} {t : Tok} {th : Th} {v : Value} (hv : isTh th v = true) : TupKeyObj (mixK w) [.inl word, th] (tupO #[.str word t, v]) :=
  TupKeyObj.made (vs := [.str word t, v]) (.cons (show isTh (.inl word) (.str word t) = true by simp [isTh, Value.isStrOf]) (.cons hv .nil))
/-- WORLD[WORD, THING] -/
theorem r_worldsub {value e1 e2 : Expr} {k : Nat} {p pos : Pos} {Q : Value → Shared → Prop} (hu : A.units + 1 < cLine)
    (h : wpAny (Md w) A (eval value env) (fun wv s1 => wpAny (Md w) A (eval e1 env) (fun v1 s2 => wpAny (Md w) A (eval e2 env) (fun v2 s3 => ∃ mu nw m word t th f b, Sit w z H mu nw L m s3 ∧ WorldR w nw f wv ∧ v1 = .str word t ∧ isTh th v2 = true ∧ f word th = some b ∧
      ∀ nw' s', Le nw nw' → Sit w z H mu nw' L m s' → Q (.bool b) s') E s2) E s1) E s)
    (h1 : starEach [e1, e2] env = (false, eval e1 env) :: starEach [e2] env := by rfl) (h2 : starEach [e2] env = (false, eval e2 env) :: starEach [] env := by rfl) :
    wpAny (Md w) A (eval (.Subscript value (.Tuple [e1, e2] k p) pos) env) Q E s := by
  refine r_subT (wpAny_mono h (fun wv s1 g1 => wpAny_Tuple (sp_cons (wpAny_mono g1 (fun v1 s2 g2 => sp_cons (wpAny_mono g2 (fun v2 s3 g3 => sp_nil ⟨(show 2 ≤ sizeLine by decide), ?_⟩) fun _ _ e => e) h2) fun _ _ e => e) h1)) fun _ _ e => e)
  obtain ⟨mu, nw, m, word, t, th, f, b, Z, ⟨d, o, xs, rfl, hd, D, hf⟩, rfl, hth, hb, fin⟩ := g3
  have Z1 := Z.alloc (tupO #[.str word t, v2]) rfl s3.toks
  have le := Le.cons (s3.heap.objs.size, tupO #[.str word t, v2]) nw
  obtain ⟨a, ha⟩ := hf _ _ _ hb
  have hD := (D.mono le).at (h := s3.heap.push (tupO #[.str word t, v2])) (Z1.get (.tail _ hd)) (fun p hp => Z1.get hp)
  refine ⟨"dict", _, slot_dict_getitem.lookup, hD.typeIs, ?_⟩
  have hget := Z1.get (.head _)
  exact wpAny_getItem_heap (tupleKind_room_in1 hu) ((tupKey2 hth).key hget) hD ha (fin _ _ le (Z1.toks _))

theorem atKey_none {xs : List (List Th × Addr × Value)} {k : List Th} (h : k ∉ xs.map (·.1)) : atKey xs k = none := by
  unfold atKey
  rw [List.find?_eq_none.mpr]
  · rfl
  · intro x hx q
    exact h (List.mem_map.mpr ⟨x, hx, by simpa using q⟩)
/-- the entries stored, one after the other -/
theorem storeAll_sit {d : Addr} (hu : A.units < cLine) : ∀ (es xs : List (List Th × Addr × Value)) {o : Obj} {s : Shared} {Q : PUnit → Shared → Prop}, Sit w z H ((d, o) :: mu) nw L m s → DictL w nw o xs → (∀ x ∈ es, ∃ ok, (x.2.1, ok) ∈ nw ∧ TupKeyObj (mixK w) x.1 ok) → ((xs ++ es).map (·.1)).Nodup → xs.length + es.length ≤ 1000 →
    (∀ o' s', Sit w z H ((d, o') :: mu) nw L m s' → DictL w nw o' (xs ++ es) → Q PUnit.unit s') → wpAny (Md w) A (storeAll d (es.map fun x => (.ref x.2.1, x.2.2))) Q E s
  | [], xs, o, s, Q, Z, D, he, hn, hsz, h => by
    unfold storeAll
    rw [List.map_nil, List.forIn_nil]
    exact wpAny_pure (h o s Z (by rw [List.append_nil]; exact D))
  | e :: es, xs, o, s, Q, Z, D, he, hn, hsz, h => by
    obtain ⟨ok, hok, tk⟩ := he e (.head _)
    have hD := D.at (Z.getM (.head _)) fun p hp => Z.get hp
    unfold storeAll
    rw [List.map_cons, List.forIn_cons]
    rw [List.map_append, List.nodup_append] at hn
    have hne : e.1 ∉ xs.map (·.1) := fun hm => hn.2.2 _ hm _ (List.mem_cons_self ..) rfl
    refine wpAny_bind (wpAny_bind (wpAny_dictSet_heap (hsz := by simp at hsz; exact Nat.le_trans (by omega : xs.length ≤ 1000) (by decide)) hu (tk.key (Z.get hok)) hD fun h' hm' hs => wpAny_pure ?_))
    rw [storedH_new (atKey_none hne)] at hm'
    obtain ⟨o', es', ep', ho', hc', hd', he', hi', hn'⟩ := hm'
    have Z1 := Z.turn hs ho' (s.toks + (tupleKind (mixK w)).draws e.1)
    have D1 : DictL w nw o' (xs ++ [e]) := ⟨hc', ⟨es', ep', hd', he'⟩, fun y hy => by
      rcases List.mem_append.mp hy with hy | hy
      · exact D.2.2.1 y hy
      · cases List.mem_singleton.mp hy; exact ⟨ok, hok, tk⟩, hn'⟩
    refine storeAll_sit hu es (xs ++ [e]) Z1 D1 (fun x hx => he x (.tail _ hx)) ?_ (by simp at hsz ⊢; omega) fun o2 s2 Z2 D2 => h o2 s2 Z2 (by rw [List.append_assoc] at D2; exact D2)
    rw [List.append_assoc]
    rw [List.map_append, List.nodup_append]
    exact hn
end
end Mine
end

section
open PySem PySem.W PySem.Spec PySem.Calls PyProof.Rows
set_option Elab.async false
set_option maxRecDepth 100000
namespace Mine
set_option linter.unusedVariables false
set_option maxHeartbeats 4000000
noncomputable def StrsL (nw : List Ent) (ss : List Str) (v : Value) : Prop := ∃ l vs k, v = .ref l ∧ (l, W.listOf (List.toArray vs) k) ∈ nw ∧ StrsAre vs ss
theorem StrsL.mono {nw nw' : List Ent} {ss : List Str} {v : Value} (x : StrsL nw ss v) (h : Le nw nw') : StrsL nw' ss v := let ⟨l, vs, k, a, b, c⟩ := x; ⟨l, vs, k, a, h _ b, c⟩
noncomputable def consts : List Str := ["rex", "tom", "ann"]
noncomputable def isC (n : Str) : Bool := consts.any (· == n)
noncomputable def varsR (rs : List Row3) : List Str := (rs.map (·.2.2)).filter fun n => !isC n
section
variable {w : World} {z : Shared} {H : Heap} {mu nw : List Ent} {L a : Addr} {m : Str → Option Value} {s : Shared} {A : Around} {E : Value → Shared → Prop} {B d : Nat} {env : Env}
theorem StrsAre.append_ : ∀ {vs us : List Value} {ss ts : List Str}, StrsAre vs ss → StrsAre us ts → StrsAre (vs ++ us) (ss ++ ts)
  | _, _, _, _, .nil, h => h
  | _, _, _, _, .cons y t h', h => .cons y t (StrsAre.append_ h' h)
/-- what a library's rule leaves: all of old, one object more -/
theorem Sit.grow {D : Addr} {o : Obj} {h' : Heap} {dr : Drawn} {tk : Tok} (Z : Sit w z H mu nw L m s) (hk : ∀ b o, s.heap.get? b = some o → h'.get? b = some o) (hD : h'.get? D = some o) (hne : ∀ b o, s.heap.get? b = some o → b ≠ D) :
    Sit w z H mu ((D, o) :: nw) L m { s with heap := h', drawn := dr, toks := tk } := by
  have ZL : L ≠ D := by obtain ⟨oL, _, _, hL, -⟩ := Z.F.ns; exact hne _ _ hL
  refine ⟨Z.gl, ⟨Z.F.ns.keeps hk, fun b o e => hk b o (Z.F.keep b o e), Z.F.above⟩, fun p hp => ?_, fun p hp q hq => ?_, Z.mm, Z.rest, Z.tb.mono (fun _ _ _ e => hk _ _ e) (fun _ h => .tail _ h), fun q hq => ⟨(Z.tn q hq).1, (Z.tn q hq).2.1, fun p hp => ?_⟩⟩
  · rcases List.mem_append.mp hp with h | h
    · have n := Z.N p (List.mem_append_left _ h); exact ⟨hk _ _ n.1, n.2⟩
    · rcases List.mem_cons.mp h with rfl | h
      · refine ⟨hD, Ne.symm ZL, ?_⟩
        cases e : H.get? D with
        | none => rfl
        | some o => exact absurd rfl (hne _ _ (Z.F.keep _ _ e))
      · have n := Z.N p (List.mem_append_right _ h); exact ⟨hk _ _ n.1, n.2⟩
  · rcases List.mem_cons.mp hq with rfl | hq
    · exact hne _ _ (Z.N p (List.mem_append_left _ hp)).1
    · exact Z.nd p hp q hq
  · rcases List.mem_append.mp hp with h | h
    · exact (Z.tn q hq).2.2 p (List.mem_append_left _ h)
    · rcases List.mem_cons.mp h with rfl | h
      · obtain ⟨ps, e, -⟩ := Z.tb q hq
        exact Ne.symm (hne _ _ e)
      · exact (Z.tn q hq).2.2 p (List.mem_append_right _ h)

theorem isTrue_of_tests {c : Expr} {cenv : Env} {Q : Bool → Shared → Prop} (h : wpAny (Md w) A (isTrue c cenv (eval c cenv)) Q E s) : wpAny (Md w) A (testsOf [c] cenv) Q E s := by
  unfold testsOf
  rw [List.forIn_cons]
  refine wpAny_bind ?_
  rw [if_pos rfl]
  refine wpAny_bind (wpAny_mono h (fun b s1 h1 => wpAny_pure ?_) fun _ _ e => e)
  show wpAny _ _ (forIn [] b _) _ _ _
  rw [List.forIn_nil]
  exact wpAny_pure h1

/-- [name for negated, word, name in ROWS if name not in ('rex', 'tom', 'ann')] -/
theorem r_names {rs : List Row3} {iter : Expr} {scope : Scope} {cl : List (Str × Addr)} {q3 q4 q5 q6 q7 q8 q9 qa qb qc qd qe : Pos} {pv : Value} {Q : Value → Shared → Prop} (Z : Sit w z H mu nw L m s) (hh : A.handled = none) (hp : RowsR nw rs pv) (hn : rs.length ≤ 20)
    (hiter : ∀ {Q' : Value → Shared → Prop}, (∀ s', Sit w z H mu nw L m s' → Q' pv s') → wpAny (Md w) A (eval iter env) Q' E s)
    (h : ∀ r nw' s', Le nw nw' → Sit w z H mu nw' L m s' → StrsL nw' (varsR rs) r → Q r s')
    (hclos : closureFor scope env = pure cl := by rfl) (hcell : ∀ y ∈ scope.names, y.2 ≠ .cell := by decide) (hkind : scope.kind = .function := by rfl) (hnames : ∀ y ∈ scope.names, y.2 = .local → scope.names.lookup y.1 = some .local := by decide)
    (hg : env.globals = mainGlobals := by rfl) (hb : env.builtins = builtinsNs := by rfl) (hx1 : ∀ C, (compEnvC scope cl C env).kindOf "negated" = some .local := by intro _; rfl) (hx2 : ∀ C, (compEnvC scope cl C env).kindOf "word" = some .local := by intro _; rfl) (hx3 : ∀ C, (compEnvC scope cl C env).kindOf "name" = some .local := by intro _; rfl)
    (hs : ∀ x, foldedSetIterable iter env x = pure x := by intro _; rfl) :
    wpAny (Md w) A (eval (.ListComp (.Name "name" q3) [⟨.Tuple [.Name "negated" q4, .Name "word" q5, .Name "name" q6] 0 q7, iter, [.Compare (.Name "name" q8) [.NotIn] [.Tuple [.Constant (.str "rex") 0 q9, .Constant (.str "tom") 0 qa, .Constant (.str "ann") 0 qb] 0 qc] qd], 0⟩] scope qe) env) Q E s := by
  obtain ⟨l, vs, k, rfl, hl, hall⟩ := hp
  have hlen := hall.length
  refine r_comp2 (z := z) (H := H) (L := L) hclos hcell hkind hnames (hiter fun s₁ Z1 => wpAny_pyIter_list (items := vs.toArray) ⟨_, Z1.get hl, rfl, k, rfl⟩ ?_) hs
  have Z2 := Z1.allocM { cls := .type "list_iterator", data := .fields #[.ref l, .int 0 0] } rfl s₁.toks
  refine ⟨s₁.heap.objs.size, _, mu, nw, m, vs.toArray.size, _, _, rfl, steps_list hl (Nat.ne_of_lt (Z1.lt (List.mem_append_right _ hl))), ⟨rfl, rfl⟩, (fun ho hst hQ => wpAny_pyIter_listiter (l := l) (i := 0) ⟨_, ho, hst⟩ hQ), ?_, Z2, hh, by rw [List.size_toArray]; omega,
    fun i mu' nw' ys => mu' = mu ∧ StrsAre ys (varsR (rs.take i)), ⟨rfl, .nil⟩, ?_, ?_⟩
  · intro i s o v A E Q ho hst hP hk hQ
    obtain ⟨r, hr, ty, t1, t2, rfl, hty⟩ := hall.get (i := i) (v := v) (by simpa using hP)
    exact wpAny_letOwnedTupleGo_listiter ⟨_, ho, hst⟩ hQ
  · rintro i v p q C cm oL mu' nw' ys s' E' hi hvi ⟨rfl, hys⟩ le nsL above Z'
    obtain ⟨r, hr, ty, t1, t2, rfl, hty⟩ := hall.get (i := i) (v := v) (by simpa using hvi)
    have ek : EnvOk (compEnvC scope cl C env) C := ⟨hg, rfl, by simp [compEnvC, relabel, hkind], hb⟩
    refine assign3 hh Z' (le _ hty) (fun s₂ Z₂ => ?_) ek (hx1 C) (hx2 C) (hx3 C)
    refine isTrue_of_tests (wpAny_isTrue_Compare1 (r_loc Z₂ (if_pos rfl) (wpAny_Tuple (sp_cons (r_str Z₂ fun u1 s Z => sp_cons (r_str Z fun u2 s Z => sp_cons (r_str Z fun u3 s Z => sp_nil ⟨(show 3 ≤ sizeLine by decide), ?_⟩))))) ek (hx3 C)))
    have Z3 := Z.alloc (tupO #[.str "rex" u1, .str "tom" u2, .str "ann" u3]) rfl s.toks
    refine notin_tuple_strs (items := #[.str "rex" u1, .str "tom" u2, .str "ann" u3]) (ys := consts) ⟨_, Z3.get (.head _), rfl, _, rfl⟩ (.cons _ _ (.cons _ _ (.cons _ _ .nil))) (wpAny_truthy_bool ?_)
    have htake : rs.take (i + 1) = rs.take i ++ [r] := by rw [List.take_add_one, hr]; rfl
    have hv : varsR (rs.take (i + 1)) = varsR (rs.take i) ++ (if (!isC r.2.2) = true then [r.2.2] else []) := by
      rw [htake]; unfold varsR
      rw [List.map_append, List.filter_append]
      congr 1
      rw [List.map_singleton, List.filter_cons, List.filter_nil]
    show (if (!isC r.2.2) = true then _ else _)
    cases hc : !isC r.2.2 with
    | true =>
      rw [hc] at hv
      rw [if_pos rfl]
      refine r_loc Z3 (if_pos rfl) ?_ ek (hx3 C)
      refine ⟨oL, mu', _, _, nsL, Le.cons _ _, Z3, rfl, ?_⟩
      rw [hv]
      exact StrsAre.append_ hys (.cons _ _ .nil)
    | false =>
      rw [hc] at hv
      rw [if_neg Bool.false_ne_true]
      refine ⟨oL, mu', _, _, nsL, Le.cons _ _, Z3, rfl, ?_⟩
      rw [hv, if_neg Bool.false_ne_true, List.append_nil]
      exact hys
  · rintro mu' nw' ys D j s' ⟨rfl, hys⟩ le Z'
    have : rs.take vs.toArray.size = rs := by rw [List.size_toArray, ← hlen]; exact List.take_length
    rw [this] at hys
    exact h _ _ _ (le.trans (Le.cons _ _)) Z'.freeze ⟨D, ys, j, rfl, .head _, hys⟩

/-- sorted(set(a list of strs)) -/
theorem r_sortset {e : Expr} {q1 q2 p pos : Pos} {ss : List Str} {Q : Value → Shared → Prop} (Z0 : Sit w z H mu nw L m s) (hh : A.handled = none) (hn : ss.length ≤ 60)
    (hE : ∀ {Q' : Value → Shared → Prop}, (∀ r nw' s', Le nw nw' → Sit w z H mu nw' L m s' → StrsL nw' ss r → Q' r s') → wpAny (Md w) A (eval e env) Q' E s)
    (h : ∀ r ns nw' s', Le nw nw' → Sit w z H mu nw' L m s' → StrsL nw' ns r → (∀ x, x ∈ ns ↔ x ∈ ss) → ns.length ≤ ss.length → Q r s')
    (hk : EnvOk env L := by exact ⟨rfl, rfl, rfl, rfl⟩) (h1 : env.kindOf "sorted" = some .globalImplicit := by rfl) (h2 : env.kindOf "set" = some .globalImplicit := by rfl)
    (e1 : starEach [.Call (.Name "set" q2) [e] [] p] env = (false, eval (.Call (.Name "set" q2) [e] [] p) env) :: starEach [] env := by rfl) (e2 : starEach [e] env = (false, eval e env) :: starEach [] env := by rfl) :
    wpAny (Md w) A (eval (.Call (.Name "sorted" q1) [.Call (.Name "set" q2) [e] [] p] [] pos) env) Q E s := by
  refine r_callB Z0 (bsorted w) boot_sorted (by decide) (sp_cons (r_callT Z0 (bset w) boot_set (by decide) (sp_cons (hE fun r nw1 s1 le1 Z1 hr => sp_nil ?_) e2) hk h2 (by decide) e2 rfl) e1) hk h1 (by decide) e1 rfl
  obtain ⟨l, vs, k, rfl, hl, hss⟩ := hr
  have hlen := StrsAre.len hss
  refine call_setS (items := vs.toArray) hh ⟨_, Z1.get hl, rfl, k, rfl⟩ (by simpa using hss) (by simp; exact Nat.lt_of_le_of_lt (by omega : vs.length + 1 ≤ 100) (by decide)) fun h' tk S n hS hm hn' hold => ?_
  rw [List.size_toArray] at hn'
  refine sp_nil (sortedSet (s := { s1 with heap := h', toks := tk }) hh hS (by omega) fun D vs' ns' ep h2 d tk2 hD hne hns hnl hmem hold2 => ?_)
  have Z2 := Z1.grow (D := D) (o := seqObj "list" vs'.toArray ep) (h' := h2) (dr := d) (tk := tk2) (fun b o q => hold2 b o (hold b o (Heap.lt_size q) q)) hD (fun b o q => hne b o (hold b o (Heap.lt_size q) q))
  exact h _ ns' _ _ (le1.trans (Le.cons _ _)) Z2 ⟨D, vs', ep, rfl, .head _, hns⟩ (fun x => (hmem x).trans (hm x)) (by omega)
end
end Mine
end

section
open PySem PySem.W PySem.Spec PySem.Calls PyProof.Rows
set_option Elab.async false
set_option maxRecDepth 100000
namespace Mine
set_option linter.unusedVariables false
set_option maxHeartbeats 4000000
noncomputable def thOf (names : List Str) (pick : Nat) (n : Str) : Th := if n ∈ names then .inr ((pick / 2 ^ names.idxOf n % 2 : Nat) : Int) else .inl n
noncomputable def rowT (V : Str → Th → Bool) (names : List Str) (pick : Nat) (r : Row3) : Bool := V r.2.1 (thOf names pick r.2.2) != r.1
noncomputable def lcT (V : Str → Th → Bool) (names : List Str) (rs : List Row3) : Bool := (List.range (2 ^ names.length)).all fun pick => rs.any (rowT V names pick)
noncomputable def OutI (V : Str → Th → Bool) (ns : List Str) (rs : List Row3) (mu0 : List Ent) (nl : Addr) (pv wv : Value) (t2 : Tok) (i : Nat) (mu' : List Ent) (m' : Str → Option Value) : Prop :=
  mu' = mu0 ∧ m' "names" = some (.ref nl) ∧ m' "parts" = some pv ∧ m' "world" = some wv ∧ m' "things" = some (.int 2 t2) ∧ ∀ j, j < i → rs.any (rowT V ns j) = true
noncomputable def InI (V : Str → Th → Bool) (ns : List Str) (rs : List Row3) (mu0 : List Ent) (nl : Addr) (pv wv : Value) (t2 tp : Tok) (pick i : Nat) (mu' : List Ent) (m' : Str → Option Value) : Prop :=
  mu' = mu0 ∧ m' "names" = some (.ref nl) ∧ m' "parts" = some pv ∧ m' "world" = some wv ∧ m' "things" = some (.int 2 t2) ∧ m' "pick" = some (.int pick tp) ∧ m' "good" = some (.bool ((rs.take i).any (rowT V ns pick)))
section
variable {w : World} {z : Shared} {H : Heap} {mu nw : List Ent} {L a : Addr} {m : Str → Option Value} {s : Shared} {A : Around} {E : Value → Shared → Prop} {B d : Nat} {env : Env}
theorem any_mem {ys : List Str} {x : Str} : ys.any (· == x) = decide (x ∈ ys) := by
  rw [Bool.eq_iff_iff, List.any_eq_true, decide_eq_true_eq]
  exact ⟨fun ⟨y, hy, e⟩ => by rw [beq_iff_eq] at e; exact e ▸ hy, fun h => ⟨x, h, by simp⟩⟩
/-- the thing of a row's name -/
theorem r_thing {ns : List Str} {n : Str} {nv : Value} {pick : Nat} {t1 t2 t3 : Tok} {p1 p2 p3 p4 p5 p6 p7 p8 p9 pa pb pc pd pe pf : Pos} {pl : Sem Bool} {Q : Value → Shared → Prop} (Z : Sit w z H mu nw L m s) (hn : m "name" = some (.str n t1)) (hns : m "names" = some nv) (hv : StrsL nw ns nv) (hp : m "pick" = some (.int pick t2)) (ht : m "things" = some (.int 2 t3)) (hl : ns.length ≤ 20)
    (h : ∀ v s', Sit w z H mu nw L m s' → isTh (thOf ns pick n) v = true → Q v s')
    (hk : EnvOk env L := by exact ⟨rfl, rfl, rfl, rfl⟩) (k1 : env.kindOf "name" = some .local := by rfl) (k2 : env.kindOf "names" = some .local := by rfl) (k3 : env.kindOf "pick" = some .local := by rfl) (k4 : env.kindOf "things" = some .local := by rfl)
    (he : eval (.Call (.Attribute (.Name "names" p6) "index" p7) [.Name "name" p8] [] p9) env = (do
      let ov ← eval (.Name "names" p6) env
      standAt p7.atName
      let (f, first) ← holding [ov] (getMethod ov "index" pl)
      callWith p9 f first (backTo p9 (starEach [.Name "name" p8] env)) []) := by rfl)
    (hst : starEach [.Name "name" p8] env = (false, eval (.Name "name" p8) env) :: starEach [] env := by rfl) :
    wpAny (Md w) A (eval (.IfExp (.Compare (.Name "name" p1) [.In] [.Name "names" p2] p3) (.BinOp (.BinOp (.Name "pick" p4) .FloorDiv (.BinOp (.Name "things" p5) .Pow (.Call (.Attribute (.Name "names" p6) "index" p7) [.Name "name" p8] [] p9) pa) pb) .Mod (.Name "things" pc) pd) (.Name "name" pe) pf) env) Q E s := by
  obtain ⟨l, vs, k, rfl, hml, hss⟩ := hv
  refine wpAny_IfExp (wpAny_isTrue_Compare1 (r_loc Z hn (r_loc Z hns (in_list_strs ⟨_, Z.get hml, rfl, k, rfl⟩ hss (wpAny_truthy_bool ?_)) hk k2) hk k1))
  rw [any_mem]
  by_cases hmem : n ∈ ns
  · rw [decide_eq_true hmem]
    show wpAny _ _ (eval (.BinOp _ _ _ _) _) _ _ _
    have hidx : ns.idxOf n < ns.length := List.idxOf_lt_length_iff.mpr hmem
    refine wpAny_BinOp (wpAny_BinOp (r_loc Z hp (wpAny_BinOp (r_loc Z ht (MethodCall_ (r_loc Z hns (getMethod_list_of PySem.F.slot_list_index PySem.F.type_list_index ⟨_, Z.get hml, rfl, k, rfl⟩ ?_ (callWith_method1 (sp_cons (r_loc Z hn (sp_nil ?_) hk k1) hst) hst rfl)) hk k2) he) hk k4)) hk k3))
    · exact ⟨_, Z.get hml, rfl⟩
    · refine index_strs (Z.get hml) hss (by omega) hmem ?_
      have Z1 := Z.toks (s.toks + 1)
      generalize s.toks = ti at Z1 ⊢
      have hpow : (2 : Int) ^ ((ns.idxOf n : Nat) : Int).toNat = ((2 ^ ns.idxOf n : Nat) : Int) := by rw [Int.toNat_natCast]; push_cast; rfl
      have hp0 : 0 < 2 ^ ns.idxOf n := Nat.pow_pos (by decide)
      have hp1 : 2 ^ ns.idxOf n ≤ 2 ^ 20 := Nat.pow_le_pow_right (by decide) (by omega)
      refine PyProof.Rows.pow_int_small (by omega) (by omega) (by decide) ?_
      rw [hpow]
      refine PyProof.Rows.floordiv_int (by omega) ?_ (.inl (PyProof.noPylong_small (by omega)))
      have Z2 := (Z1.toks (ti + 1 + 1)).toks (ti + 1 + 1 + 1)
      refine r_loc Z2 ht ?_ hk k4
      refine PyProof.Rows.mod_int (by decide) ?_
      have e : (((pick : Int).fdiv ((2 ^ ns.idxOf n : Nat) : Int)).fmod 2) = ((pick / 2 ^ ns.idxOf n % 2 : Nat) : Int) := by
        rw [Int.fdiv_eq_ediv_of_nonneg _ (by omega), Int.fmod_eq_emod_of_nonneg _ (by decide)]
        push_cast
        rfl
      rw [e]
      refine h _ _ (Z2.toks _) ?_
      unfold thOf
      rw [if_pos hmem]
      simp [isTh, Value.isInt]
  · rw [decide_eq_false hmem]
    show wpAny _ _ (eval (.Name _ _) _) _ _ _
    refine r_loc Z hn (h _ _ Z ?_) hk k1
    unfold thOf
    rw [if_neg hmem]
    simp [isTh, Value.isStrOf]

theorem clause_ok {rs : List Row3} {V : Str → Th → Bool} {f : Str → Th → Option Bool} {pv wv : Value} {t2 : Tok} {Q : Value → Shared → Prop} (Z : Sit w z H mu nw L m s) (rm : Room A 2) (hp : RowsR nw rs pv) (hw : WorldR w nw f wv) (hn : rs.length ≤ 20)
    (hV : ∀ r ∈ rs, (isC r.2.2 = true → f r.2.1 (.inl r.2.2) = some (V r.2.1 (.inl r.2.2))) ∧ (isC r.2.2 = false → ∀ i : Int, i = 0 ∨ i = 1 → f r.2.1 (.inr i) = some (V r.2.1 (.inr i))))
    (h : ∀ ns nw' s', Le nw nw' → Sit w z H mu nw' L m s' → (∀ x, x ∈ ns ↔ x ∈ varsR rs) → Q (.bool (lcT V ns rs)) s') : wpAny (Md w) A (call (.ref 1261) [pv, wv, .int 2 t2]) Q E s := by
  refine wpA_call (enter (d := 1) (binds := [("parts", pv), ("world", wv), ("things", .int 2 t2)]) (rb := [("things", .int 2 t2), ("world", wv), ("parts", pv)]) Z rm rfl (by kernel_rfl) (BindsTo.of_eq rfl) rfl (by decide) (locs rfl) ⟨rfl, rfl, rfl⟩ fun L' s₁ oL ns0 Z1 rm1 => ?_)
  have hh := rm1.2.2
  have hvl : (varsR rs).length ≤ rs.length := by unfold varsR; exact Nat.le_trans (List.length_filter_le _ _) (by rw [List.length_map]; exact Nat.le_refl _)
  refine x_seq (x_asg (r_sortset Z1 hh (ss := varsR rs) (by omega) (fun hq => r_names Z1 hh hp hn (fun hq => r_loc Z1 rfl (hq _ Z1)) hq) fun nv ns nw2 s2 le2 Z2 hnv hmem hnl => r_store Z2 fun s3 Z3 => ?_))
  have hp2 := hp.mono le2
  have hw2 := hw.mono le2
  have hnl' : ns.length ≤ 20 := by omega
  have hnv0 := hnv
  obtain ⟨nl, nvs, nk, rfl, hnm, hnss⟩ := hnv
  have hnlen := StrsAre.len hnss
  obtain ⟨m3, hmm, Z3⟩ : ∃ m3, upd _ "names" (Value.ref nl) = m3 ∧ Sit w z H _ _ L' m3 s3 := ⟨_, rfl, Z3⟩
  have g1 : m3 "names" = some (.ref nl) := by rw [← hmm]; exact if_pos rfl
  have g2 : m3 "parts" = some pv := by rw [← hmm]; rfl
  have g3 : m3 "world" = some wv := by rw [← hmm]; rfl
  have g4 : m3 "things" = some (.int 2 t2) := by rw [← hmm]; rfl
  clear hmm Z1 Z2
  have hpw : (2 : Int) ^ ((nvs.toArray.size : Nat) : Int).toNat = ((2 ^ ns.length : Nat) : Int) := by rw [List.size_toArray, ← hnlen, Int.toNat_natCast]; push_cast; rfl
  refine x_seq (x_forR Z3 (wpAny_BinOp (r_loc Z3 g4 (r_callB Z3 (blen w) boot_len (by decide) (sp_cons (r_loc Z3 g1 (sp_nil ?_)))))))
  refine PyProof.Rows.len_list (items := nvs.toArray) ⟨_, Z3.get hnm, rfl, nk, rfl⟩ (by rw [List.size_toArray]; omega) ?_
  have Z4 := Z3.toks (s3.toks + 1 + 1)
  refine PyProof.Rows.pow_int_small (by omega) (by rw [List.size_toArray]; omega) (by decide) ?_
  rw [hpw]
  have hpl : 2 ^ ns.length ≤ 2 ^ 20 := Nat.pow_le_pow_right (by decide) hnl'
  refine ⟨2 ^ ns.length, _, _, _, _, rfl, by omega, Z4.toks _, hh,
    fun i mu' nw' m' => OutI V ns rs ((L, oL) :: mu) nl pv wv t2 i mu' m',
    fun nw' _ => ⟨rfl, g1, g2, g3, g4, fun j hj => absurd hj (Nat.not_lt_zero _)⟩, ?_, ?_⟩
  · rintro p pick tp mu' nw5 m5 s5 E5 hpick ⟨rfl, c1, c2, c3, c4, call_⟩ le5 Z5
    refine x_seq (x_asg (wpAny_Constant_bool (r_store Z5 fun s6 Z6 => ?_)))
    refine x_seq (x_forT (z := z) (H := H) (L := L') (r_loc Z6 (by exact c2) ?_))
    refine ⟨rs, _, _, _, Z6, hp2.mono le5, hh, fun i mu' nw' m' => InI V ns rs (p :: (L, oL) :: mu) nl pv wv t2 tp pick i mu' m',
      ⟨rfl, by exact c1, by exact c2, by exact c3, by exact c4, rfl, rfl⟩, ?_, ?_⟩
    · rintro p7 i b n1 n2 u1 u2 mu7 nw7 m7 s7 E7 hr ⟨rfl, d1, d2, d3, d4, d5, d6⟩ le7 Z7
      have hmr : (b, n1, n2) ∈ rs := List.mem_of_getElem? hr
      have htake : (rs.take (i + 1)).any (rowT V ns pick) = ((rs.take i).any (rowT V ns pick) || rowT V ns pick (b, n1, n2)) := by
        rw [List.take_add_one, hr, List.any_append]; simp
      refine x_seq (x_asg (r_thing Z7 (if_pos rfl) (by exact d1) ((hnv0.mono le5).mono le7) (by exact d5) (by exact d4) hnl' fun tv s8 Z8 hth => r_store Z8 fun s9 Z9 => ?_))
      refine x_seq (x_asg (BoolOp_or (r_loc Z9 (by exact d6) (wpAny_truthy_bool ?_))))
      cases hg : (rs.take i).any (rowT V ns pick) with
      | true =>
        rw [hg] at htake
        show wpAny _ _ (storeName _ _ _) _ _ _
        refine r_store Z9 fun sA ZA => wpAny_execs_nil ⟨_, nw7, _, ⟨rfl, by exact d1, by exact d2, by exact d3, by exact d4, by exact d5, ?_⟩, Le.refl _, ZA⟩
        rw [htake]; rfl
      | false =>
        rw [hg] at htake
        show wpAny _ _ (eval (.BoolOp .Or [_] _) _) _ _ _
        have hex : ∃ b0, f n1 (thOf ns pick n2) = some b0 ∧ b0 = V n1 (thOf ns pick n2) := by
          obtain ⟨v1, v2⟩ := hV _ hmr
          unfold thOf
          by_cases hin : n2 ∈ ns
          · rw [if_pos hin]
            have hv2 : n2 ∈ varsR rs := (hmem n2).mp hin
            have hc : isC n2 = false := by unfold varsR at hv2; simpa using (List.mem_filter.mp hv2).2
            refine ⟨_, v2 hc _ ?_, rfl⟩
            have := Nat.mod_two_eq_zero_or_one (pick / 2 ^ ns.idxOf n2)
            omega
          · rw [if_neg hin]
            have hc : isC n2 = true := by
              by_cases q : isC n2 = true
              · exact q
              · exact absurd ((hmem n2).mpr (by unfold varsR; exact List.mem_filter.mpr ⟨List.mem_map.mpr ⟨_, hmr, rfl⟩, by simpa using q⟩)) hin
            exact ⟨_, v1 hc, rfl⟩
        obtain ⟨b0, hf0, hb0⟩ := hex
        refine BoolOp_one (wpAny_Compare1 (r_worldsub (by have := rm1.2.1; show _ < 9900; omega) (r_loc Z9 (by exact d3) (r_loc Z9 rfl (r_loc Z9 rfl ⟨_, _, _, n1, u1, _, f, b0, Z9, (hw2.mono le5).mono le7, rfl, hth, hf0, fun nwA sA leA ZA => r_loc ZA rfl (PyProof.Rows.ne_bool (r_store ZA fun sB ZB => wpAny_execs_nil ⟨_, nwA, _, ⟨rfl, by exact d1, by exact d2, by exact d3, by exact d4, by exact d5, ?_⟩, leA, ZB⟩))⟩)))))
        rw [htake, hb0]; rfl
    · rintro mu7 nw7 m7 s7 ⟨rfl, d1, d2, d3, d4, d5, d6⟩ le7 Z7
      rw [List.take_length] at d6
      refine x_seq (wpAny_If (isTrue_not (isTrue_plain (r_loc Z7 d6 (wpAny_truthy_bool ?_)))))
      cases hg : rs.any (rowT V ns pick) with
      | true =>
        show wpAny _ _ (execs [] _) _ _ _
        refine wpAny_execs_nil (wpAny_execs_nil ⟨_, nw7, m7, ⟨rfl, d1, d2, d3, d4, fun j hj => ?_⟩, le7, Z7⟩)
        rcases Nat.lt_succ_iff_lt_or_eq.mp hj with h1 | h1
        · exact call_ j h1
        · rw [h1]; exact hg
      | false =>
        show wpAny _ _ (execs [_] _) _ _ _
        refine x_seq (wpAny_Return_some (wpAny_Constant_bool ?_))
        have e : lcT V ns rs = false := by
          unfold lcT
          rw [List.all_eq_false]
          exact ⟨pick, List.mem_range.mpr hpick, by rw [hg]; exact Bool.false_ne_true⟩
        have := h ns nw7 _ (le2.trans (le5.trans le7)) (Z.back ns0 Z7.drop) hmem
        rw [e] at this
        exact this
  · rintro mu' nw5 m5 s5 ⟨rfl, c1, c2, c3, c4, call_⟩ le5 Z5
    refine x_seq (wpAny_Return_some (wpAny_Constant_bool ?_))
    have e : lcT V ns rs = true := by
      unfold lcT
      rw [List.all_eq_true]
      exact fun j hj => call_ j (List.mem_range.mp hj)
    have := h ns nw5 _ (le2.trans le5) (Z.back ns0 Z5) hmem
    rw [e] at this
    exact this
end
end Mine
end

section
open PySem PySem.W PySem.Spec PySem.Calls PyProof.Rows
set_option Elab.async false
set_option maxRecDepth 100000
namespace Mine
set_option linter.unusedVariables false
set_option maxHeartbeats 4000000
noncomputable abbrev lawB : List Stmt := match sAt 51 with | .FunctionDef _ _ b .. => b | _ => []
noncomputable abbrev lawS : Scope := match sAt 51 with | .FunctionDef _ _ _ _ _ _ sc .. => sc | _ => default
noncomputable abbrev lawE (L : Addr) : Env := envOfC (S "law") lawS L 1266 (.ref 1265)
section
variable {w : World} {z : Shared} {H : Heap} {mu nw : List Ent} {L a : Addr} {m : Str → Option Value} {s : Shared} {A : Around} {E : Value → Shared → Prop} {B d : Nat} {env : Env}
/-- a store to a name that the displays read -/
theorem r_storeC {x : Str} {c : Addr} {o : Obj} {v : Value} {v0 : Option Value} {Q : Unit → Shared → Prop} (Z : Sit w z H ((c, o) :: mu) nw L m s) (hd : o.data = .cell v0) (h : ∀ o' s', o'.data = .cell (some v) → Sit w z H ((c, o') :: mu) nw L m s' → Q () s')
    (hc : env.cells.lookup x = some c := by rfl) (hk : env.scope.kind = .function := by rfl) (hx : env.kindOf x = some .cell := by rfl) : wpAny (Md w) A (storeName env x v) Q E s :=
  wpAny_storeName_cell hk hx hc ⟨o, Z.getM (.head _), hd⟩ fun h' ⟨o', ho', hd'⟩ hs => h o' _ hd' (Z.turn hs ho' _)

/-- entering the law, no frame below -/
theorem enterTop {f : Addr} {name qual : Str} {params : Arguments} {body : List Stmt} {scope : Scope} {dV kV doc pm cdv ct : Value} {an : Option Addr} {args : Args} {binds : List (Str × Value)} {R : Result → Shared → Prop}
    (gl : Glob w H) (keep : ∀ b o, H.get? b = some o → s.heap.get? b = some o) (above : H.objs.size ≤ s.heap.objs.size) (tb : TabsOk [] s.heap) (tn : ∀ q ∈ tabs, H.get? q.2 = none) (rm : Room A (d + 1))
    (ho : (K w.params).lookup f = some ⟨.type "function", none, .func (fnOf name qual params body scope dV kV doc pm an cdv ct), #[]⟩) (hcd : codeIn (K w.params) cdv qual = true)
    (hbind : BindsTo s (fnOf name qual params body scope dV kV doc pm an cdv ct) args binds)
    (hkind : ∀ n, ∀ x ∈ binds, scope.names.lookup x.1 = some .local ∨ (scope.names.lookup x.1 = some .cell ∧ ((cellsFrom n scope.names []).lookup x.1).isSome = true))
    (hnd : ((cellsFrom 0 scope.names []).map (·.1)).Nodup)
    (hsc : scope.isCoroutine = false ∧ scope.isGenerator = false ∧ scope.kind = .function)
    (h : ∀ L' s₁ cells, CellsAre (bindC (envOfC qual scope L' f cdv).kindOf binds fun _ => none) (cellsFrom (L' + 1) scope.names []) cells →
      Sit w s H cells [] L' (bindL (envOfC qual scope L' f cdv).kindOf binds fun _ => none) s₁ → Room (A.deeper (envOfC qual scope L' f cdv)) d →
      wpAny (Md w) (A.deeper (envOfC qual scope L' f cdv)) (execs body (envOfC qual scope L' f cdv)) (FunQ R) (fun _ _ => False) s₁) :
    codeAny (Md w) A (.call (.ref f) args) R s := by
  obtain ⟨p, loose, mean, mg, mb, T⟩ := gl.T
  have X : (K w.params).In s.heap := gl.X.keeps keep
  refine codeAny_call_function (fd := fnOf name qual params body scope dV kV doc pm an cdv ct) rm.depth (X _ _ ho) rfl hsc.1 hsc.2.1 rfl (codeRec_of X hcd) (hbind _ _ _ _ ?_)
  refine wpAny_newFunctionEnv_cells hsc.2.2 (hkind _) fun env' he s' x => ?_
  subst he
  refine ⟨(T.nolimit.keeps keep).keeps x.toInCall.keep, codeAny_func ?_⟩
  obtain ⟨h₁, tk, rfl, _⟩ := x.done
  have hk₁ : ∀ b o, s.heap.get? b = some o → h₁.get? b = some o := x.toInCall.keep
  obtain ⟨cells, NC, Y⟩ := Cl.news (h₀ := s.heap) (Nat.le_refl _) fun n c hm => ⟨x.cell n c (lookup_of_mem_nodup (cellsFrom_names scope.names 0 (s.heap.objs.size + 1) [] [] rfl ▸ hnd) hm), x.above n c hm⟩
  have above' : ∀ p ∈ cells, s.heap.objs.size < p.1 := fun p hp => by
    have : p.1 ∈ cells.map (·.1) := List.mem_map_of_mem hp
    rw [cells_map Y] at this
    obtain ⟨q, hq, e⟩ := List.mem_map.mp this
    exact e ▸ x.above q.1 q.2 hq
  have apart : cells.Pairwise fun a b => a.1 ≠ b.1 := by
    have h1 : (cells.map (·.1)).Pairwise (· ≠ ·) := by rw [cells_map Y]; exact List.pairwise_map.mpr x.apart
    exact List.pairwise_map.mp h1
  have Hnone : ∀ {b : Addr}, s.heap.objs.size ≤ b → H.get? b = none := fun {b} hb => by
    cases e : H.get? b with
    | none => rfl
    | some o => exact absurd (Heap.lt_size (keep b o e)) (Nat.not_lt.mpr hb)
  have ltT : ∀ q ∈ tabs, q.2 < s.heap.objs.size := fun q hq => by obtain ⟨ps, e, -⟩ := tb q hq; exact Heap.lt_size e
  refine wpAny_mono (h s.heap.objs.size _ cells Y ⟨gl, ⟨x.toInCall.ns, fun b o e => hk₁ b o (keep b o e), above⟩, (fun q hq => ?_), (fun q hq r hr => by cases hr), apart, ⟨rfl, rfl⟩,
    tb.mono (fun q hq o e => hk₁ _ _ e) (fun p hp => hp), fun q hq => ⟨tn q hq, Nat.ne_of_lt (ltT q hq), fun p hp => ?_⟩⟩ rm.down) (fun _ _ x => x) fun _ _ x => x.elim
  · rw [List.append_nil] at hq
    exact ⟨(NC q hq).1, (NC q hq).2.1, Hnone (Nat.le_of_lt (above' q hq))⟩
  · rw [List.append_nil] at hp
    exact Nat.ne_of_gt (Nat.lt_trans (ltT q hq) (above' p hp))

/-- [STR, STR, STR] -/
theorem r_lst3 {x y u : Str} {k1 k2 k3 : Nat} {p1 p2 p3 pos : Pos} {Q : Value → Shared → Prop} (Z : Sit w z H mu nw L m s) (h : ∀ r nw' s', Le nw nw' → Sit w z H mu nw' L m s' → StrsL nw' [x, y, u] r → Q r s') :
    wpAny (Md w) A (eval (.List [.Constant (.str x) k1 p1, .Constant (.str y) k2 p2, .Constant (.str u) k3 p3] pos) env) Q E s := by
  refine wpAny_List (sp_cons (r_str Z fun t1 s Z => sp_cons (r_str Z fun t2 s Z => sp_cons (r_str Z fun t3 s Z => sp_nil ⟨(show 3 ≤ sizeLine by decide), ?_⟩))))
  exact h _ _ _ (Le.cons _ _) (Z.alloc (W.listOf #[.str x t1, .str y t2, .str u t3] 0) rfl s.toks) ⟨_, [.str x t1, .str y t2, .str u t3], 0, rfl, .head _, .cons _ _ (.cons _ _ (.cons _ _ .nil))⟩

/-- a list display over range(n), one value for each number -/
theorem r_mapR {β : Type} {R' : List Ent → β → Value → Prop} {n : Nat} {g : Nat → β} {elt : Expr} {x : Str} {k : Nat} {px q1 q2 q3 pos : Pos} {scope : Scope} {cl : List (Str × Addr)} {Q : Value → Shared → Prop}
    (Z : Sit w z H mu nw L m s) (hh : A.handled = none) (hn : n ≤ 1000)
    (monoR' : ∀ {nw nw' a v}, Le nw nw' → R' nw a v → R' nw' a v)
    (step : ∀ {i : Nat} {t : Tok} {C : Addr} {cm : Str → Option Value} {mu' nw' : List Ent} {s' : Shared} {E' : Value → Shared → Prop} {Q' : Value → Shared → Prop}, i < n → Le nw nw' → (∀ p ∈ mu, p ∈ mu') → Sit w z H mu' nw' C (upd cm x (.int i t)) s' →
      (∀ r nw'' s'', Le nw' nw'' → Sit w z H mu' nw'' C (upd cm x (.int i t)) s'' → R' nw'' (g i) r → Q' r s'') → wpAny (Md w) A (eval elt (compEnvC scope cl C env)) Q' E' s')
    (h : ∀ r nw' s', Le nw nw' → Sit w z H mu nw' L m s' → ListR nw' (R' nw') ((List.range n).map g) r → Q r s')
    (hclos : closureFor scope env = pure cl := by rfl) (hcell : ∀ y ∈ scope.names, y.2 ≠ .cell := by decide) (hkind : scope.kind = .function := by rfl) (hnames : ∀ y ∈ scope.names, y.2 = .local → scope.names.lookup y.1 = some .local := by decide)
    (hke : EnvOk env L := by exact ⟨rfl, rfl, rfl, rfl⟩) (hxx : ∀ C, (compEnvC scope cl C env).kindOf x = some .local := by intro _; rfl) (hr : env.kindOf "range" = some .globalImplicit := by rfl)
    (hs : ∀ y, foldedSetIterable (.Call (.Name "range" q1) [.Constant (.int n) k q2] [] q3) env y = pure y := by intro _; rfl) (he : starEach [.Constant (.int n) k q2] env = (false, eval (.Constant (.int n) k q2) env) :: starEach [] env := by rfl) :
    wpAny (Md w) A (eval (.ListComp elt [⟨.Name x px, .Call (.Name "range" q1) [.Constant (.int n) k q2] [] q3, [], 0⟩] scope pos) env) Q E s := by
  refine r_comp2 (z := z) (H := H) (L := L) hclos hcell hkind hnames (r_callT Z (brange w) boot_range (by decide) (sp_cons (r_int Z fun t s₁ Z1 => sp_nil (call_range_1 ?_)) he) hke hr (by decide) he rfl) hs
  have Z2 := Z1.alloc { cls := .type "range", data := .fields #[.int 0 s₁.toks, .int n t, .int 1 (s₁.toks + 1)] } rfl (s₁.toks + 1 + 1)
  refine wpAny_pyIter_range (a := 0) (b := n) (c := 1) (t := s₁.toks) (u := t) (v := s₁.toks + 1) (Z2.get (.head _)) (small_one (by decide) (by decide) (by omega) (by omega)) ?_
  have e1 : Builtin.Range.rangeSize 0 n 1 = n := by rw [rangeSize_one]; split <;> omega
  rw [e1]
  have Z3 := Z2.allocM { cls := .type "range_iterator", data := .fields #[rawInt 0, rawInt n, rawInt 1] } rfl (s₁.toks + 1 + 1)
  have le0 := Le.cons (s₁.heap.objs.size, ({ cls := .type "range", data := .fields #[.int 0 s₁.toks, .int n t, .int 1 (s₁.toks + 1)] } : Obj)) nw
  refine ⟨_, _, mu, _, m, n, _, _, rfl, steps_range (n := n), by simp, (fun {s o A E Q} ho hst hQ => by subst hst; exact wpAny_pyIter_rangeiter ho hQ), (fun ho hst hP hk hQ => wpAny_pure hQ), Z3, hh, by omega,
    fun i mu' nw' ys => mu' = mu ∧ AllR (R' nw') ((List.range i).map g) ys, ⟨rfl, trivial⟩, ?_, ?_⟩
  · rintro i v p q C cm oL mu' nw' ys s' E' hi ⟨ti, rfl⟩ ⟨rfl, hys⟩ le nsL above Z'
    refine wpAny_assign_Name (r_store Z' (fun s₂ Z₂ => ?_) ⟨hke.g, rfl, by simp [compEnvC, relabel, hkind], hke.b⟩ (hxx C))
    refine wpAny_pure ?_
    simp only [if_true]
    refine step hi (le0.trans le) (fun p hp => .tail _ (.tail _ (.tail _ hp))) Z₂ fun r nw'' s'' le'' Z'' hr => ⟨oL, mu', nw'', _, nsL, le'', Z'', rfl, ?_⟩
    rw [List.range_succ, List.map_append]
    exact AllR.append (hys.mono fun _ _ x => monoR' le'' x) ⟨hr, trivial⟩
  · rintro mu' nw' ys D j s' ⟨rfl, hys⟩ le Z'
    exact h _ _ _ ((le0.trans le).trans (Le.cons _ _)) Z'.freeze ⟨D, ys, j, rfl, .head _, hys.mono fun _ _ x => monoR' (Le.cons _ _) x⟩
end
end Mine
end

section
open PySem PySem.W PySem.Spec PySem.Calls PyProof.Rows
set_option Elab.async false
set_option maxRecDepth 100000
namespace Mine
set_option linter.unusedVariables false
set_option maxHeartbeats 400000
noncomputable def nmS : Nat → List Str
  | 0 => ["rex", "tom", "ann"]
  | 1 => ["x", "x", "x"]
  | 2 => ["x", "y", "x"]
  | _ => ["x", "y", "y"]
noncomputable def wdS : Nat → List Str
  | 0 => ["dog", "dog", "dog"]
  | 1 => ["dog", "old", "dog"]
  | 2 => ["dog", "old", "old"]
  | _ => ["dog", "dog", "old"]
noncomputable def nth (l : List Str) (k : Nat) : Str := (l[k]?).getD ""
noncomputable def atS (sh k : Nat) : Fm := .app (nth (wdS sh) k) (nth (nmS sh) k)
theorem pick4 {nw : List Ent} {sh : Nat} (h : sh < 4) {l0 l1 l2 l3 : Value} (a0 : StrsL nw (nmS 0) l0) (a1 : StrsL nw (nmS 1) l1) (a2 : StrsL nw (nmS 2) l2) (a3 : StrsL nw (nmS 3) l3) : ∃ nv, (#[l0, l1, l2, l3] : Array Value)[((sh : Nat) : Int).toNat]? = some nv ∧ StrsL nw (nmS sh) nv := by
  have : sh = 0 ∨ sh = 1 ∨ sh = 2 ∨ sh = 3 := by omega
  rcases this with rfl | rfl | rfl | rfl
  · exact ⟨l0, rfl, a0⟩
  · exact ⟨l1, rfl, a1⟩
  · exact ⟨l2, rfl, a2⟩
  · exact ⟨l3, rfl, a3⟩
theorem wd3 {i : Nat} {u1 u3 u5 : Tok} (h : i + 1 < 4) : StrsAre [.str "dog" u1, .str (nth ["old", "old", "dog"] i) u3, .str (nth ["dog", "old", "old"] i) u5] (wdS (i + 1)) := by
  have : i = 0 ∨ i = 1 ∨ i = 2 := by omega
  rcases this with rfl | rfl | rfl <;> exact .cons _ _ (.cons _ _ (.cons _ _ .nil))
theorem okV_all : (List.range 4).all (fun sh => (List.range 3).all fun k => okV (nth (wdS sh) k) && okV (nth (nmS sh) k)) = true := by decide +kernel
theorem okV_at {sh k : Nat} (h : sh < 4) (hk : k < 3) : okV (nth (wdS sh) k) = true ∧ okV (nth (nmS sh) k) = true := by
  have h1 := List.all_eq_true.mp okV_all sh (List.mem_range.mpr h)
  have h2 := List.all_eq_true.mp h1 k (List.mem_range.mpr hk)
  simpa using h2
theorem len_nm (sh : Nat) : (nmS sh).length = 3 := by unfold nmS; split <;> rfl
theorem len_wd (sh : Nat) : (wdS sh).length = 3 := by unfold wdS; split <;> rfl
section
variable {w : World} {z : Shared} {H : Heap} {mu nw : List Ent} {L a : Addr} {m : Str → Option Value} {s : Shared} {A : Around} {E : Value → Shared → Prop} {B d : Nat} {env : Env}
theorem StrsL.item {ss : List Str} {v : Value} {i : Nat} (x : StrsL nw ss v) (hi : i < ss.length) : ∃ l vs k t, v = .ref l ∧ (l, W.listOf (List.toArray vs) k) ∈ nw ∧ (List.toArray vs)[i]? = some (.str (nth ss i) t) := by
  obtain ⟨l, vs, k, rfl, hl, hs⟩ := x
  have hlen := StrsAre.len hs
  obtain ⟨y, t, e1, e2⟩ := StrsAre.at_ hs (i := i) (v := vs[i]'(by omega)) (List.getElem?_eq_getElem (by omega))
  refine ⟨l, vs, k, t, rfl, hl, ?_⟩
  have : ss[i]? = some y := by
    have h1 : ss.drop i = ss[i] :: ss.drop (i + 1) := List.drop_eq_getElem_cons hi
    rw [h1] at e2
    rw [List.getElem?_eq_getElem hi, (List.cons.inj e2).1]
  unfold nth
  rw [this]
  simp only [List.getElem?_toArray]
  rw [List.getElem?_eq_getElem (by omega), e1]; rfl
/-- CELL[NAME] of a list of strs -/
theorem r_cellitem {x i : Str} {c : Addr} {o : Obj} {v : Value} {ss : List Str} {k : Nat} {t : Tok} {p1 p2 pos : Pos} {Q : Value → Shared → Prop} (Z : Sit w z H mu nw L m s) (hm : (c, o) ∈ mu ++ nw) (hd : o.data = .cell (some v)) (hs : StrsL nw ss v) (hk : k < ss.length) (hi : m i = some (.int k t))
    (h : ∀ t, Q (.str (nth ss k) t) s) (hc : env.cells.lookup x = some c := by rfl)
    (hkk : env.scope.kind = .function := by rfl) (hx : env.kindOf x = some .cell := by rfl) (hb : (x == ("__debug__" : Str)) = false := by decide)
    (hke : EnvOk env L := by exact ⟨rfl, rfl, rfl, rfl⟩) (hxi : env.kindOf i = some .local := by rfl) (hbi : (i == ("__debug__" : Str)) = false := by decide) (hk2 : k < 1000 := by omega) :
    wpAny (Md w) A (eval (.Subscript (.Name x p1) (.Name i p2) pos) env) Q E s := by
  obtain ⟨l, vs, j, tv, rfl, hl, hv⟩ := hs.item hk
  exact r_subN (r_cellE Z hc hm hd (r_loc Z hi ⟨"list", _, slot_list_getitem.lookup, ⟨_, Z.get hl, rfl⟩, wpAny_getItem_list ⟨_, Z.get hl, rfl, j, rfl⟩ (by omega) (by omega) hv (h tv)⟩ hke hxi hbi) hkk hx hb)

/-- the first of a written suite -/
theorem lawA1_ok {mu0 : List Ent} {sl : Addr} {vs : List Value} {ns : List Int} {Q : Flow → Shared → Prop} (Z : Sit w z H mu0 [] L m s)
    (hm : m "script" = some (.ref sl)) (hl : H.IsList sl vs.toArray) (hi : IntsAre vs ns) (hsz : vs.length ≤ 2 ^ 30) (rm : Room A 300)
    (h : ∀ (sh : Nat) (b0 : Addr) (n1 : Int) (tq : Tok) (k1 : Nat) (ts : Tok) (r : Value) (t : Tr) (nw : List Ent) (s : Shared), sh < 4 → cnT t ≤ (if sh = 0 then 3 else 2) → TrR nw t r → Sit w z H ((b0, W.listOf #[.int n1 tq] k1) :: mu0) nw L (fun y => if y = "tree" then some r else if y = "shape" then some (.int sh ts) else if y = "head" then some (.ref b0) else m y) s → ∀ rest, rest = lawB.drop 3 → wpAny (Md w) A (execs rest (lawE L)) Q E s) :
    wpAny (Md w) A (execs lawB (lawE L)) Q E s := by
  refine x_seq (x_asg (r_callN Z (n1214 w) (kp1214 w) (sp_cons (r_loc Z hm (sp_cons (r_int Z fun ti s Z => sp_nil ⟨Z.K, ?_⟩))))))
  refine box_ok (i := 0) Z (rm.le (by decide)) hl hi hsz (by decide) fun b0 n0 t0 k0 s Z => r_store Z fun s Z => ?_
  refine x_seq (x_asg (r_callN Z (n1221 w) (kp1221 w) (sp_cons (r_loc Z rfl (sp_cons (r_int Z fun ti s Z => sp_nil ⟨Z.K, ?_⟩))))))
  refine take_ok Z (rm.le (by decide)) (by decide) (by decide) fun ts tq k1 s Z => r_store Z fun s Z => ?_
  obtain ⟨p0, p1⟩ := fmod_in (n := n0) (k := 4) (by decide)
  obtain ⟨sh, hsh⟩ := Int.eq_ofNat_of_zero_le p0
  rw [hsh] at Z p1
  have hsh4 : sh < 4 := by omega
  generalize n0.fdiv 4 = n1 at Z
  refine x_seq (x_asg (r_callN Z (n1228 w) (kp1228 w) (sp_cons (r_callN Z (n1214 w) (kp1214 w) (sp_cons (r_loc Z (by exact hm) (sp_cons (r_int Z fun ti s Z => sp_nil ⟨Z.K, ?_⟩))))))))
  refine box_ok (i := 1) Z (rm.le (by decide)) hl hi hsz (by decide) fun b2 n2 t2 k2 s Z => ?_
  refine sp_cons (wpAny_IfExp (wpAny_isTrue_Compare1 (r_loc Z rfl (r_int Z fun ti s Z => P.eq_int (wpAny_truthy_bool ?_)))))
  have tree : ∀ (most : Nat) {Q' : Value → Shared → Prop} {s : Shared} {mm : Str → Option Value}, most ≤ 3 → Sit w z H ((b2, W.listOf #[.int n2 t2] k2) :: (b0, W.listOf #[.int n1 tq] k1) :: mu0) [] L mm s → (∀ r t nw' s', Sit w z H ((b0, W.listOf #[.int n1 tq] k1) :: mu0) nw' L mm s' → TrR nw' t r → cnT t ≤ most → Q' r s') →
      ∀ tm, wpAny (Md w) A (call (.ref 1228) [.ref b2, .int most tm]) Q' E s := fun most Q' s mm hmost Z hq tm =>
    tree_ok w z H most hmost Z (rm.le (by omega)) fun r t n' tn' k' nw' s' le Z' ht hc => hq r t nw' s' Z'.drop ht hc
  by_cases h0 : sh = 0
  · subst h0
    show wpAny _ _ (eval (.Constant _ _ _) _) _ _ _
    refine r_int Z fun tm s Z => sp_nil ⟨Z.K, ?_⟩
    refine tree 3 (by decide) Z (fun r t nw' s Z ht hc => r_store Z fun s Z => ?_) tm
    show wpAny _ _ (execs _ _) _ _ _
    have h9 := fun rest hr => h 0 b0 n1 tq k1 ts r t nw' s hsh4 hc ht Z rest hr
    refine h9 _ ?_
    exact rfl
  · have : ((sh : Int) == 0) = false := by simp; omega
    rw [this]
    show wpAny _ _ (eval (.Constant _ _ _) _) _ _ _
    refine r_int Z fun tm s Z => sp_nil ⟨Z.K, ?_⟩
    refine tree 2 (by decide) Z (fun r t nw' s Z ht hc => r_store Z fun s Z => ?_) tm
    show wpAny _ _ (execs _ _) _ _ _
    have h9 := fun rest hr => h sh b0 n1 tq k1 ts r t nw' s hsh4 (by rw [if_neg h0]; exact hc) ht Z rest hr
    refine h9 _ ?_
    exact rfl
theorem lawA_ok {sl : Addr} {vs : List Value} {ns : List Int} {o1 o2 o3 o4 o5 : Obj} {Q : Flow → Shared → Prop} (Z : Sit w z H [(L + 5, o5), (L + 4, o4), (L + 3, o3), (L + 2, o2), (L + 1, o1)] [] L m s) (d1 : o1.data = .cell none) (d2 : o2.data = .cell none)
    (hm : m "script" = some (.ref sl)) (hl : H.IsList sl vs.toArray) (hi : IntsAre vs ns) (hsz : vs.length ≤ 2 ^ 30) (rm : Room A 300)
    (h : ∀ sh t b0 n0 t0 k0 o1 o2 nv wv tv fv ts nw' m' s', sh < 4 → cnT t ≤ (if sh = 0 then 3 else 2) → m' "shape" = some (.int (sh : Nat) ts) → m' "head" = some (.ref b0) → m' "tree" = some tv → m' "formula" = some fv → TrR nw' t tv → Rep w nw' (fmT (atS sh) t) fv →
      (L + 1, o1) ∈ nw' → o1.data = .cell (some nv) → StrsL nw' (nmS sh) nv → (L + 2, o2) ∈ nw' → o2.data = .cell (some wv) → StrsL nw' (wdS sh) wv →
      Sit w z H [(b0, W.listOf #[.int n0 t0] k0), (L + 5, o5), (L + 4, o4), (L + 3, o3)] nw' L m' s' → ∀ rest, rest = lawB.drop 6 → wpAny (Md w) A (execs rest (lawE L)) Q E s') :
    wpAny (Md w) A (execs lawB (lawE L)) Q E s := by
  refine lawA1_ok Z hm hl hi hsz rm fun sh b0 n1 tq k1 ts tv t nw s hsh4 hc ht Z rest hrest => ?_
  refine x_seqD (hrest.trans rfl) ?_
  refine x_asg ?_
  refine r_subN ?_
  refine wpAny_List ?_
  refine sp_cons ?_
  refine r_lst3 Z fun l0 nwa s lea Z h0 => ?_
  refine sp_cons (r_lst3 Z fun l1 nwb s leb Z h1 => sp_cons (r_lst3 Z fun l2 nwc s lec Z h2 => sp_cons (r_lst3 Z fun l3 nwd s led Z h3 => sp_nil ⟨(show 4 ≤ sizeLine by decide), ?_⟩)))
  have Z1 := Z.alloc (W.listOf #[l0, l1, l2, l3] 0) rfl s.toks
  generalize s.heap.objs.size = la at Z1 ⊢
  have lel := Le.cons (la, W.listOf #[l0, l1, l2, l3] 0) nwd
  obtain ⟨nv, hnv, hns⟩ : ∃ nv, (#[l0, l1, l2, l3] : Array Value)[((sh : Nat) : Int).toNat]? = some nv ∧ StrsL ((la, W.listOf #[l0, l1, l2, l3] 0) :: nwd) (nmS sh) nv :=
    pick4 hsh4 (h0.mono (leb.trans (lec.trans (led.trans lel)))) (h1.mono (lec.trans (led.trans lel))) (h2.mono (led.trans lel)) (h3.mono lel)
  refine r_loc Z1 rfl ⟨"list", _, slot_list_getitem.lookup, ⟨_, Z1.get (.head _), rfl⟩, wpAny_getItem_list ⟨_, Z1.get (.head _), rfl, 0, rfl⟩ (by omega) (by omega) hnv ?_⟩
  have Z2 := Z1.perm (List.perm_middle (l₁ := [_, _, _, _, _]) (l₂ := []))
  refine r_storeC Z2 d1 fun o1' s dn Z3 => ?_
  have Z4 := Z3.freeze
  have ht4 := ht.mono (lea.trans (leb.trans (lec.trans (led.trans (lel.trans (Le.cons (L + 1, o1') _))))))
  have hns4 := hns.mono (Le.cons (L + 1, o1') _)
  have hm1 : (L + 1, o1') ∈ (L + 1, o1') :: (la, W.listOf #[l0, l1, l2, l3] 0) :: nwd := .head _
  generalize (L + 1, o1') :: (la, W.listOf #[l0, l1, l2, l3] 0) :: nwd = nw4 at Z4 ht4 hns4 hm1
  have hname : ∀ (nwx : List Ent) (s : Shared) (o2' : Obj) (wv : Value), Le nw4 nwx → o2'.data = .cell (some wv) → StrsL nwx (wdS sh) wv → (L + 2, o2') ∈ nwx →
      Sit w z H [(b0, W.listOf #[.int n1 tq] k1), (L + 5, o5), (L + 4, o4), (L + 3, o3)] nwx L (fun y => if y = "tree" then some tv else if y = "shape" then some (.int sh ts) else if y = "head" then some (.ref b0) else m y) s →
      ∀ rest, rest = lawB.drop 5 → wpAny (Md w) A (execs rest (lawE L)) Q E s := by
    intro nwx s o2' wv lex dw hwv hm2 Z rest hrest
    refine x_seqD (hrest.trans rfl) ?_
    refine x_asg ?_
    refine r_callN Z (n1235 w) (kp1235 w) ?_
    refine sp_cons ?_
    refine r_loc Z rfl ?_
    refine sp_cons ?_
    refine r_mapR (R' := fun nw f v => Rep w nw f v) (g := fun k => atS sh k) (n := 3) Z rm.2.2 (by decide) (fun le x => x.mono le) ?_ ?_
    · intro i ti C cm mu' nw' s' E' Q' hi3 le hmu Z' hq
      have hv := okV_at hsh4 hi3
      refine r_callN Z' (n1249 w) (kp1249 w) ?_
      refine sp_cons ?_
      refine r_cellitem Z' (List.mem_append_right _ (le _ hm2)) dw (hwv.mono le) (by rw [len_wd]; exact hi3) (if_pos rfl) fun u1 => ?_
      refine sp_cons ?_
      refine r_cellitem Z' (List.mem_append_right _ (le _ (lex _ hm1))) dn ((hns4.mono lex).mono le) (by rw [len_nm]; exact hi3) (if_pos rfl) fun u2 => ?_
      refine sp_nil ⟨Z'.K, ?_⟩
      exact atom_ok Z' (rm.le (by decide)) hv.1 hv.2 fun r nw2 s2 le2 Z2 hr => hq r nw2 s2 le2 Z2 hr
    · intro av nw6 s le6 Z hav
      refine sp_nil ⟨Z.K, ?_⟩
      have hc3 : cnT t ≤ 3 := Nat.le_trans hc (by split <;> omega)
      refine form_ok w z H (atS sh) t Z (rm.le (by omega)) (ht4.mono (lex.trans le6)) hav fun fv nw7 s le7 Z hfv => r_store Z fun s Z => ?_
      have le := lex.trans (le6.trans le7)
      have le2 := le6.trans le7
      have h9 := h sh t b0 n1 tq k1 o1' o2' nv wv tv fv ts nw7 _ s hsh4 hc rfl rfl rfl rfl (ht4.mono le) hfv (le _ hm1) dn (hns4.mono le) (le2 _ hm2) dw (hwv.mono le2) Z
      refine h9 _ ?_
      exact rfl
  refine x_seq ?_
  refine x_asg ?_
  refine wpAny_IfExp (wpAny_isTrue_Compare1 (r_loc Z4 rfl (r_int Z4 fun ti s Z => P.eq_int (wpAny_truthy_bool ?_))))
  have fin : ∀ (nw5 : List Ent) (s : Shared) (wv : Value), Le nw4 nw5 → StrsL nw5 (wdS sh) wv → Sit w z H [(b0, W.listOf #[.int n1 tq] k1), (L + 5, o5), (L + 4, o4), (L + 3, o3), (L + 2, o2)] nw5 L (fun y => if y = "tree" then some tv else if y = "shape" then some (.int sh ts) else if y = "head" then some (.ref b0) else m y) s →
      ∀ rest, rest = lawB.drop 5 → wpAny (Md w) A (storeName (lawE L) "words" wv) (fun _ s => wpAny (Md w) A (execs rest (lawE L)) Q E s) E s := by
    intro nw5 s wv le5 hwv Z rest hrest
    have Z2 := Z.perm (List.perm_middle (l₁ := [_, _, _, _]) (l₂ := []))
    refine r_storeC Z2 d2 fun o2' s dw Z3 => ?_
    exact hname _ s o2' wv (le5.trans (Le.cons _ _)) dw (hwv.mono (Le.cons _ _)) (.head _) Z3.freeze rest hrest
  by_cases h0 : sh = 0
  · subst h0
    show wpAny _ _ (eval (.List _ _) _) _ _ _
    refine r_lst3 Z fun wv nw5 s le5 Z hwv => ?_
    have h9 := fun rest hr => fin nw5 s wv le5 hwv Z rest hr
    refine h9 _ ?_
    exact rfl
  · have e0 : ((sh : Int) == 0) = false := by simp; omega
    rw [e0]
    show wpAny _ _ (eval (.List _ _) _) _ _ _
    obtain ⟨i, rfl⟩ : ∃ i, sh = i + 1 := ⟨sh - 1, by omega⟩
    have e1 : ((i + 1 : Nat) : Int) - 1 = (i : Int) := by omega
    refine wpAny_List ?_
    refine sp_cons ?_
    refine r_str Z fun u1 s Z => ?_
    refine sp_cons ?_
    refine r_subB ?_
    refine r_lst3 Z fun la1 nwe s lee Z ha1 => ?_
    refine wpAny_BinOp (r_loc Z rfl (r_int Z fun u2 s Z => P.sub_int ?_))
    rw [e1]
    obtain ⟨l, vs1, k, u3, rfl, hl1, hv1⟩ := ha1.item (i := i) (show i < 3 by omega)
    have Zt := Z.toks (s.toks + 1)
    refine ⟨"list", _, slot_list_getitem.lookup, ⟨_, Zt.get hl1, rfl⟩, wpAny_getItem_list ⟨_, Zt.get hl1, rfl, k, rfl⟩ (by omega) (by omega) hv1 ?_⟩
    refine sp_cons ?_
    refine r_subB ?_
    refine r_lst3 Zt fun la2 nwf s lef Z ha2 => ?_
    refine wpAny_BinOp (r_loc Z rfl (r_int Z fun u4 s Z => P.sub_int ?_))
    rw [e1]
    obtain ⟨l', vs2, k', u5, rfl, hl2, hv2⟩ := ha2.item (i := i) (show i < 3 by omega)
    have Zt2 := Z.toks (s.toks + 1)
    refine ⟨"list", _, slot_list_getitem.lookup, ⟨_, Zt2.get hl2, rfl⟩, wpAny_getItem_list ⟨_, Zt2.get hl2, rfl, k', rfl⟩ (by omega) (by omega) hv2 ?_⟩
    refine sp_nil ⟨(show 3 ≤ sizeLine by decide), ?_⟩
    have Z9 := Zt2.alloc (W.listOf #[.str "dog" u1, .str (nth ["old", "old", "dog"] i) u3, .str (nth ["dog", "old", "old"] i) u5] 0) rfl (s.toks + 1)
    have hwv : StrsL ((s.heap.objs.size, W.listOf #[.str "dog" u1, .str (nth ["old", "old", "dog"] i) u3, .str (nth ["dog", "old", "old"] i) u5] 0) :: nwf) (wdS (i + 1)) (.ref s.heap.objs.size) := by
      exact ⟨_, [.str "dog" u1, .str (nth ["old", "old", "dog"] i) u3, .str (nth ["dog", "old", "old"] i) u5], 0, rfl, .head _, wd3 hsh4⟩
    have h9 := fun rest hr => fin _ _ _ ((lee.trans lef).trans (Le.cons _ _)) hwv Z9 rest hr
    refine h9 _ ?_
    exact rfl
end
end Mine
end

section
open PySem PySem.W PySem.Spec PySem.Calls PyProof.Rows
set_option Elab.async false
set_option maxRecDepth 100000
namespace Mine
set_option linter.unusedVariables false
set_option maxHeartbeats 400000
noncomputable def wrapF (sh : Nat) (sg : Bool) (f : Fm) : Fm :=
  let f1 := if sh > 1 then Fm.all "y" f else f
  if sh > 0 then (if sg = true then Fm.neg (.ex "x" (.neg f1)) else .all "x" f1) else f1
section
variable {w : World} {z : Shared} {H : Heap} {mu nw : List Ent} {L a : Addr} {m : Str → Option Value} {s : Shared} {A : Around} {E : Value → Shared → Prop} {B d : Nat} {env : Env}
theorem lawG_ok {sh : Nat} {ts t0 : Tok} {b0 : Addr} {n0 : Int} {k0 : Nat} {f : Fm} {fv : Value} {Q : Flow → Shared → Prop} {body : List Stmt} (hbody : body = lawB.drop 6)
    (Z : Sit w z H ((b0, W.listOf #[.int n0 t0] k0) :: mu) nw L m s) (rm : Room A 300) (hsh : sh < 4) (m1 : m "shape" = some (.int (sh : Nat) ts)) (m2 : m "head" = some (.ref b0)) (m3 : m "formula" = some fv) (hf : Rep w nw f fv)
    (h : ∀ sg fv' nw' m' s', Le nw nw' → m' "formula" = some fv' → (∀ y : Str, y ≠ "formula" → m' y = m y) → Rep w nw' (wrapF sh sg f) fv' → Sit w z H mu nw' L m' s' → ∀ rest, rest = lawB.drop 8 → wpAny (Md w) A (execs rest (lawE L)) Q E s') :
    wpAny (Md w) A (execs body (lawE L)) Q E s := by
  refine x_seqD (hbody.trans rfl) ?_
  have step7 : ∀ f1 fv1 nw1 m1' s1, Le nw nw1 → m1' "formula" = some fv1 → (∀ y : Str, y ≠ "formula" → m1' y = m y) → Rep w nw1 f1 fv1 → f1 = (if sh > 1 then Fm.all "y" f else f) → Sit w z H ((b0, W.listOf #[.int n0 t0] k0) :: mu) nw1 L m1' s1 →
      ∀ rest, rest = lawB.drop 7 → wpAny (Md w) A (execs rest (lawE L)) Q E s1 := by
    intro f1 fv1 nw1 mm s1 le1 e1 e2 hf1 ef Z rest hrest
    refine x_seqD (hrest.trans rfl) ?_
    have em1 : mm "shape" = some (.int (sh : Nat) ts) := (e2 _ (by decide)).trans m1
    have em2 : mm "head" = some (.ref b0) := (e2 _ (by decide)).trans m2
    refine wpAny_If (isTrue_and (wpAny_isTrue_Compare1 (r_loc Z em1 (r_int Z fun ti s Z => P.gt_int (wpAny_truthy_bool ?_)))))
    by_cases h0 : sh = 0
    · subst h0
      show wpAny _ _ (execs [_] _) _ _ _
      refine x_seq (wpAny_If (wpAny_isTrue_Compare1 (r_loc Z em1 (r_int Z fun ti s Z => P.gt_int (wpAny_truthy_bool ?_)))))
      show wpAny _ _ (execs [] _) _ _ _
      refine wpAny_execs_nil (wpAny_execs_nil ?_)
      have h9 := fun rest hr => h false fv1 nw1 mm _ le1 e1 e2 (by show Rep w nw1 f _; rw [ef] at hf1; exact hf1) Z.drop rest hr
      refine h9 _ ?_
      exact rfl
    · have g0 : decide ((sh : Int) > 0) = true := by simp; omega
      have w0 : ∀ sg, wrapF sh sg f = if sg = true then Fm.neg (.ex "x" (.neg f1)) else .all "x" f1 := fun sg => by
        unfold wrapF
        rw [if_pos (by omega : sh > 0), ← ef]
      rw [g0]
      show wpAny _ _ (isTrue (.BoolOp .And [_] _) _ _) _ _ _
      refine isTrue_and (wpAny_isTrue_Compare1 (r_callN Z (n1221 w) (kp1221 w) (sp_cons (r_loc Z em2 (sp_cons (r_int Z fun t1 s Z => sp_nil ⟨Z.K, ?_⟩))))))
      refine take_ok Z (rm.le (by decide)) (by decide) (by decide) fun t2 t3 k2 s Z => ?_
      refine r_int Z fun t4 s Z => P.eq_int (wpAny_truthy_bool ?_)
      have Z := Z.drop
      cases hq : (n0.fmod 3 == 0) with
      | true =>
        show wpAny _ _ (isTrue (.BoolOp .And [] _) _ _) _ _ _
        refine isTrue_and_nil ?_
        show wpAny _ _ (execs [_] _) _ _ _
        refine x_seq ?_
        refine x_asg ?_
        refine r_callN Z (nNegated w) (kpNegated w) ?_
        refine sp_cons ?_
        refine r_callN Z (nExists w) (kpExists w) ?_
        refine sp_cons ?_
        refine r_callN Z (nVariable w) (kpVariable w) ?_
        refine sp_cons ?_
        refine r_str Z fun t5 s Z => sp_nil ⟨Z.K, ?_⟩
        refine wpA_call (mk_var Z (rm.le (by decide)) fun vx nw2 s le2 Z hvx => sp_cons ?_)
        refine r_callN Z (nNegated w) (kpNegated w) ?_
        refine sp_cons ?_
        refine r_loc Z e1 (sp_nil ⟨Z.K, ?_⟩)
        refine wpA_call (mk_neg Z (rm.le (by decide)) (hf1.mono le2) fun v3 nw3 s le3 Z h3 => sp_nil ⟨Z.K, ?_⟩)
        refine wpA_call (mk_ex Z (rm.le (by decide)) (hvx.mono le3) h3 fun v4 nw4 s le4 Z h4 => sp_nil ⟨Z.K, ?_⟩)
        refine wpA_call (mk_neg Z (rm.le (by decide)) h4 fun v5 nw5 s le5 Z h5 => r_store Z fun s Z => wpAny_execs_nil ?_)
        have h9 := fun rest hr => h true v5 nw5 _ _ (le1.trans (le2.trans (le3.trans (le4.trans le5)))) (if_pos rfl) (fun y hy => (if_neg hy).trans (e2 y hy)) (by rw [w0, if_pos rfl]; exact h5) Z rest hr
        refine h9 _ ?_
        exact rfl
      | false =>
        show wpAny _ _ (execs [_] _) _ _ _
        refine x_seq (wpAny_If (wpAny_isTrue_Compare1 (r_loc Z em1 (r_int Z fun ti s Z => P.gt_int (wpAny_truthy_bool ?_)))))
        rw [g0]
        show wpAny _ _ (execs [_] _) _ _ _
        refine x_seq ?_
        refine x_asg ?_
        refine r_callN Z (nAll w) (kpAll w) ?_
        refine sp_cons ?_
        refine r_callN Z (nVariable w) (kpVariable w) ?_
        refine sp_cons ?_
        refine r_str Z fun t5 s Z => sp_nil ⟨Z.K, ?_⟩
        refine wpA_call (mk_var Z (rm.le (by decide)) fun vx nw2 s le2 Z hvx => sp_cons ?_)
        refine r_loc Z e1 (sp_nil ⟨Z.K, ?_⟩)
        refine wpA_call (mk_all Z (rm.le (by decide)) hvx (hf1.mono le2) fun v4 nw4 s le4 Z h4 => r_store Z fun s Z => wpAny_execs_nil (wpAny_execs_nil ?_))
        have h9 := fun rest hr => h false v4 nw4 _ _ (le1.trans (le2.trans le4)) (if_pos rfl) (fun y hy => (if_neg hy).trans (e2 y hy)) (by rw [w0, if_neg Bool.false_ne_true]; exact h4) Z rest hr
        refine h9 _ ?_
        exact rfl
  refine wpAny_If (wpAny_isTrue_Compare1 (r_loc Z m1 (r_int Z fun ti s Z => P.gt_int (wpAny_truthy_bool ?_))))
  by_cases h1 : sh > 1
  · have g0 : decide ((sh : Int) > 1) = true := by simp; omega
    rw [g0]
    show wpAny _ _ (execs [_] _) _ _ _
    refine x_seq ?_
    refine x_asg ?_
    refine r_callN Z (nAll w) (kpAll w) ?_
    refine sp_cons ?_
    refine r_callN Z (nVariable w) (kpVariable w) ?_
    refine sp_cons ?_
    refine r_str Z fun t5 s Z => sp_nil ⟨Z.K, ?_⟩
    refine wpA_call (mk_var Z (rm.le (by decide)) fun vx nw2 s le2 Z hvx => sp_cons ?_)
    refine r_loc Z m3 (sp_nil ⟨Z.K, ?_⟩)
    refine wpA_call (mk_all Z (rm.le (by decide)) hvx (hf.mono le2) fun v4 nw4 s le4 Z h4 => r_store Z fun s Z => wpAny_execs_nil ?_)
    have h9 := fun rest hr => step7 _ v4 nw4 _ _ (le2.trans le4) (if_pos rfl) (fun y hy => if_neg hy) h4 (by rw [if_pos h1]) Z rest hr
    refine h9 _ ?_
    exact rfl
  · have g0 : decide ((sh : Int) > 1) = false := by simp; omega
    rw [g0]
    show wpAny _ _ (execs [] _) _ _ _
    refine wpAny_execs_nil ?_
    have h9 := fun rest hr => step7 f fv nw m _ (Le.refl _) m3 (fun _ _ => rfl) hf (by rw [if_neg h1]) Z rest hr
    refine h9 _ ?_
    exact rfl
end
end Mine
end

section
open PySem PySem.W PySem.Spec PySem.Calls PyProof.Rows
set_option Elab.async false
set_option maxRecDepth 100000
namespace Mine
set_option linter.unusedVariables false
set_option maxHeartbeats 4000000
end Mine
end

section
open PySem PySem.W PySem.Spec PySem.Calls PyProof.Rows
set_option Elab.async false
set_option maxRecDepth 100000
namespace Mine
set_option linter.unusedVariables false
set_option maxHeartbeats 400000
noncomputable abbrev RowsL (nw : List Ent) (RS : List (List Row3)) (v : Value) : Prop := ListR nw (RowsR nw) RS v
theorem RowsL.mono {nw nw' : List Ent} {RS : List (List Row3)} {v : Value} (x : RowsL nw RS v) (h : Le nw nw') : RowsL nw' RS v := ListR.mono x h fun _ _ y => RowsR.mono y h
section
variable {w : World} {z : Shared} {H : Heap} {mu nw : List Ent} {L a : Addr} {m : Str → Option Value} {s : Shared} {A : Around} {E : Value → Shared → Prop} {B d : Nat} {env : Env}
theorem lawH_ok {f r : Fm} {k' : Int} {fv : Value} {Q : Flow → Shared → Prop} {body : List Stmt} (hbody : body = lawB.drop 8) (hd : 40 ≤ d) (hdr : hC r + 4 ≤ d)
    (Z : Sit w z H mu nw L m s) (rm : Room A (d + 1)) (hfr : A.frames = some [lawE L]) (m1 : m "formula" = some fv) (hv : Rep w nw f fv)
    (sk : SkOk w z H 0 d 0 k' f r) (kc : okC r = true) (hc : hC r ≤ 290) (hlit : ∀ fs ∈ cls r, (∀ g ∈ fs, isLit g = true) ∧ fs.length ≤ 300) (hok : rnAllOk (cls r) k')
    (hlit2 : ∀ fs ∈ (rnAll (cls r) k').1, (∀ g ∈ fs, isLit g = true) ∧ fs.length ≤ 300) (hnum : (rnAll (cls r) k').1.length ≤ 1000)
    (h : ∀ rv nw' s', Le nw nw' → RowsL nw' ((rnAll (cls r) k').1.map fun fs => fs.map rowOf) rv → Sit w z H mu nw' L (fun y => if y = "rows" then some rv else m y) s' → ∀ rest, rest = lawB.drop 10 → wpAny (Md w) A (execs rest (lawE L)) Q E s') :
    wpAny (Md w) A (execs body (lawE L)) Q E s := by
  refine x_seqD (hbody.trans rfl) ?_
  have hh := rm.2.2
  refine x_asgComp (z := z) (H := H) (L := L) rfl ⟨rfl, rfl, rfl, rfl⟩ rfl rfl (by decide) rfl (by decide) ?_
  refine r_callN Z (n1200 w) (kp1200 w) ?_
  refine sp_cons ?_
  refine r_loc Z m1 (sp_nil ⟨Z.K, ?_⟩)
  refine clausify_ok Z hd hdr rm hv sk kc hc hlit hok fun cv nw1 s1 le1 Z1 hcv => ?_
  generalize (rnAll (cls r) k').1 = CS at hcv hlit2 hnum h
  obtain ⟨l, vs, j, rfl, hl, hall⟩ := hcv
  have hlen := hall.length
  refine wpAny_pyIter_list (items := vs.toArray) ⟨_, Z1.get hl, rfl, j, rfl⟩ ?_
  have Z2 := Z1.allocM { cls := .type "list_iterator", data := .fields #[.ref l, .int 0 0] } rfl s1.toks
  refine ⟨s1.heap.objs.size, _, mu, nw1, m, vs.toArray.size, _, _, rfl, steps_list hl (Nat.ne_of_lt (Z1.lt (List.mem_append_right _ hl))), ⟨rfl, rfl⟩, (fun ho hst hQ => wpAny_pyIter_listiter (l := l) (i := 0) ⟨_, ho, hst⟩ hQ), (fun ho hst hP hk hQ => wpAny_pure hQ), Z2, hh, by rw [List.size_toArray]; omega,
    fun i mu' nw' ys => mu' = mu ∧ AllR (RowsR nw') ((CS.take i).map fun fs => fs.map rowOf) ys, ⟨rfl, trivial⟩, ?_, ?_⟩
  · rintro i v p q C cm oL mu' nw' ys s' E' hi hvi ⟨rfl, hys⟩ le nsL above Z'
    obtain ⟨fs, hfs, hR⟩ := hall.nth (by simpa using hvi)
    obtain ⟨lf, ln⟩ := hlit2 fs (List.mem_of_getElem? hfs)
    refine wpAny_assign_Name (r_store Z' (fun s₂ Z₂ => ?_))
    refine wpAny_pure ?_
    simp only [if_true]
    refine r_callN Z₂ (n1256 w) (kp1256 w) ?_
    refine sp_cons ?_
    refine r_loc Z₂ (if_pos rfl) (sp_nil ⟨Z₂.K, ?_⟩)
    have Z3 := Z₂.perm (mu' := (L, oL) :: p :: q :: mu') (List.perm_middle (l₁ := [p, q]) (l₂ := mu'))
    refine parts_ok Z3 nsL (rm.le (by omega)) hfr (fun env he => ?_) (hR.mono le) lf ln fun rv oL' nw3 s3 le3 ns3 Z4 hrv => ?_
    · cases List.mem_singleton.mp he; exact ⟨(fun q => by cases q), rfl⟩
    · have Z5 := Z4.perm (mu' := p :: q :: (L, oL') :: mu') (List.perm_middle (l₁ := [p, q]) (l₂ := mu')).symm
      refine ⟨oL', mu', nw3, _, ns3, le3, Z5, rfl, ?_⟩
      rw [List.take_add_one, hfs, Option.toList_some, List.map_append]
      exact AllR.append (hys.mono fun _ _ x => x.mono le3) ⟨hrv, trivial⟩
  · rintro mu' nw' ys D j' s' ⟨rfl, hys⟩ le Z'
    have : CS.take vs.toArray.size = CS := by rw [List.size_toArray, ← hlen]; exact List.take_length
    rw [this] at hys
    have Z6 := Z'.freeze
    have hrows : RowsL ((D, W.listOf (List.toArray ys) j') :: nw') (CS.map fun fs => fs.map rowOf) (.ref D) := ⟨D, ys, j', rfl, .head _, hys.mono fun _ _ x => x.mono (Le.cons _ _)⟩
    have Z7 := Z6
    generalize s' = s7 at Z7
    show wpAny _ _ (execs _ _) _ _ _
    refine x_seq (wpAny_If (wpAny_isTrue_Compare1 (wpAny_Constant_none (r_loc Z7 (if_pos rfl) ?_))))
    refine SeqAt.in_listAt (items := ys.toArray) (fun _ => false) ⟨_, Z7.get (.head _), rfl, j', rfl⟩ (fun y hy => ?_) (wpAny_truthy_bool ?_)
    · obtain ⟨i, hi, rfl⟩ := List.mem_iff_getElem.mp (by simpa using hy : y ∈ ys)
      obtain ⟨R, hR, hRR⟩ := hys.get (i := i) (v := ys[i]) (List.getElem?_eq_getElem hi)
      obtain ⟨l2, vs2, j2, e2, hl2, -⟩ := hRR
      rw [e2]
      exact SeqAt.EqAt.list_none ⟨_, Z7.get (.tail _ hl2), rfl, j2, rfl⟩ (by have := rm.2.1; show _ < 9900; show A.units + 1 < 9900; omega)
    · have e0 : (ys.toArray.any fun _ => false) = false := by simp
      rw [e0]
      show wpAny _ _ (execs [] _) _ _ _
      refine wpAny_execs_nil ?_
      have h9 := fun rest hr => h (.ref D) _ s7 ((le1.trans le).trans (Le.cons _ _)) hrows Z7 rest hr
      refine h9 _ ?_
      exact rfl
end
end Mine
end

section
open PySem PySem.W PySem.Spec PySem.Calls PyProof.Rows
set_option Elab.async false
set_option maxRecDepth 100000
namespace Mine
set_option linter.unusedVariables false
set_option maxHeartbeats 400000
noncomputable def seen0 (sh : Nat) : List Str := if sh > 0 then ["x", "y"] else []
noncomputable def SeenI (RS : List (List Row3)) (sh : Nat) (mu0 : List Ent) (m : Str → Option Value) (L : Addr) (i : Nat) (mu' nw' : List Ent) (m' : Str → Option Value) : Prop :=
  ∃ (o3 : Obj) (sv : Value) (ss : List Str), mu' = (L + 3, o3) :: mu0 ∧ o3.data = .cell (some sv) ∧ StrsL nw' ss sv ∧ (∀ x, x ∈ ss → x ∈ seen0 sh ∨ ∃ (j : Nat) (rs : List Row3), j < i ∧ RS[j]? = some rs ∧ x ∈ varsR rs) ∧ ss.length ≤ 2 + 19 * i ∧ (∀ y : Str, y ≠ "own" → y ≠ "parts" → m' y = m y)
noncomputable abbrev lawFor2 : List Stmt := match sAt 51 with | .FunctionDef _ _ b .. => (match b.drop 11 with | .For _ _ l _ _ :: _ => l.drop 2 | _ => []) | _ => []
section
variable {w : World} {z : Shared} {H : Heap} {mu nw : List Ent} {L a : Addr} {m : Str → Option Value} {s : Shared} {A : Around} {E : Value → Shared → Prop} {B d : Nat} {env : Env}
/-- [name for name in OWN if name in SEEN], where none is -/
theorem r_overlap {ns ss : List Str} {ov sv : Value} {c : Addr} {o : Obj} {e0 : Expr} {scope : Scope} {cl : List (Str × Addr)} {q1 q2 q4 q5 q6 qe : Pos} {Q : Value → Shared → Prop} (Z : Sit w z H mu nw L m s) (hh : A.handled = none) (hov : StrsL nw ns ov) (hm : (c, o) ∈ mu) (hd : o.data = .cell (some sv)) (hsv : StrsL nw ss sv) (dis : ∀ x ∈ ns, x ∉ ss) (hn : ns.length ≤ 100)
    (hiter : ∀ {Q' : Value → Shared → Prop}, (∀ s', Sit w z H mu nw L m s' → Q' ov s') → wpAny (Md w) A (eval e0 env) Q' E s)
    (h : ∀ r nw' s', Le nw nw' → Sit w z H mu nw' L m s' → StrsL nw' [] r → Q r s')
    (hclos : closureFor scope env = pure cl := by rfl) (hcell : ∀ y ∈ scope.names, y.2 ≠ .cell := by decide) (hkind : scope.kind = .function := by rfl) (hnames : ∀ y ∈ scope.names, y.2 = .local → scope.names.lookup y.1 = some .local := by decide)
    (hg : env.globals = mainGlobals := by rfl) (hb : env.builtins = builtinsNs := by rfl) (hx : ∀ C, (compEnvC scope cl C env).kindOf "name" = some .local := by intro _; rfl) (hx2 : ∀ C, (compEnvC scope cl C env).kindOf "seen" = some .cell := by intro _; rfl) (hx3 : ∀ C, (compEnvC scope cl C env).cells.lookup ("seen" : Str) = some c := by intro _; rfl)
    (hs : ∀ x, foldedSetIterable e0 env x = pure x := by intro _; rfl) :
    wpAny (Md w) A (eval (.ListComp (.Name "name" q1) [⟨.Name "name" q2, e0, [.Compare (.Name "name" q4) [.In] [.Name "seen" q5] q6], 0⟩] scope qe) env) Q E s := by
  obtain ⟨l, vs, k, rfl, hl, hall⟩ := hov
  have hlen := StrsAre.len hall
  refine r_comp2 (z := z) (H := H) (L := L) hclos hcell hkind hnames (hiter fun s₁ Z1 => wpAny_pyIter_list (items := vs.toArray) ⟨_, Z1.get hl, rfl, k, rfl⟩ ?_) hs
  have Z2 := Z1.allocM { cls := .type "list_iterator", data := .fields #[.ref l, .int 0 0] } rfl s₁.toks
  refine ⟨s₁.heap.objs.size, _, mu, nw, m, vs.toArray.size, _, _, rfl, steps_list hl (Nat.ne_of_lt (Z1.lt (List.mem_append_right _ hl))), ⟨rfl, rfl⟩, (fun ho hst hQ => wpAny_pyIter_listiter (l := l) (i := 0) ⟨_, ho, hst⟩ hQ), (fun ho hst hP hk hQ => wpAny_pure hQ), Z2, hh, by rw [List.size_toArray]; omega,
    fun i mu' nw' ys => mu' = mu ∧ ys = [], ⟨rfl, rfl⟩, ?_, ?_⟩
  · rintro i v p q C cm oL mu' nw' ys s' E' hi hvi ⟨rfl, rfl⟩ le nsL above Z'
    have hvi' : vs[i]? = some v := by simpa using hvi
    obtain ⟨x, tx, rfl, hdr⟩ := StrsAre.at_ hall hvi'
    have hxm : x ∈ ns := List.mem_of_mem_drop (i := i) (by rw [hdr]; exact List.mem_cons_self ..)
    have ek : EnvOk (compEnvC scope cl C env) C := ⟨hg, rfl, by simp [compEnvC, relabel, hkind], hb⟩
    refine wpAny_assign_Name (r_store Z' (fun s₂ Z₂ => ?_) ek (hx C))
    obtain ⟨sl, us, sk, rfl, hsl, huss⟩ := hsv.mono le
    refine isTrue_of_tests (wpAny_isTrue_Compare1 (r_loc Z₂ (if_pos rfl) (r_cellE Z₂ (hx3 C) (List.mem_append_left _ (.tail _ (.tail _ (.tail _ hm)))) hd ?_ (by simp [compEnvC, relabel, hkind]) (hx2 C)) ek (hx C)))
    refine in_list_strs ⟨_, Z₂.get hsl, rfl, sk, rfl⟩ huss (wpAny_truthy_bool ?_)
    rw [any_mem, decide_eq_false (dis x hxm)]
    rw [if_neg Bool.false_ne_true]
    exact ⟨oL, _, nw', _, nsL, Le.refl _, Z₂, rfl, rfl⟩
  · rintro mu' nw' ys D j s' ⟨rfl, rfl⟩ le Z'
    exact h _ _ _ (le.trans (Le.cons _ _)) Z'.freeze ⟨D, [], j, rfl, .head _, .nil⟩

theorem lawI_ok {sh : Nat} {ts : Tok} {rv : Value} {RS : List (List Row3)} {mu0 : List Ent} {o3 : Obj} {v0 : Option Value} {Q : Flow → Shared → Prop} {body : List Stmt} (hbody : body = lawB.drop 10)
    (Z : Sit w z H ((L + 3, o3) :: mu0) nw L m s) (d3 : o3.data = .cell v0) (rm : Room A 300) (m1 : m "shape" = some (.int (sh : Nat) ts)) (m2 : m "rows" = some rv) (hr : RowsL nw RS rv) (hlen : RS.length ≤ 50) (hrow : ∀ rs ∈ RS, rs.length ≤ 19)
    (hdis : ∀ (i : Nat) rs, RS[i]? = some rs → ∀ x ∈ varsR rs, x ∉ seen0 sh ∧ ∀ (j : Nat) rs', j < i → RS[j]? = some rs' → x ∉ varsR rs') (h0 : sh = 0 → ∀ rs ∈ RS, varsR rs = [])
    (h : ∀ m' nw' s', Le nw nw' → (∀ y : Str, y ≠ "own" → y ≠ "parts" → m' y = m y) → Sit w z H mu0 nw' L m' s' → ∀ rest, rest = lawB.drop 12 → wpAny (Md w) A (execs rest (lawE L)) Q E s') :
    wpAny (Md w) A (execs body (lawE L)) Q E s := by
  have hh := rm.2.2
  have loop : ∀ o3' sv nw1 s1, o3'.data = .cell (some sv) → Le nw nw1 → StrsL nw1 (seen0 sh) sv → Sit w z H ((L + 3, o3') :: mu0) nw1 L m s1 → ∀ rest, rest = lawB.drop 11 → wpAny (Md w) A (execs rest (lawE L)) Q E s1 := by
    intro o3' sv nw1 s1 d3' le1 hsv Z1 rest hrest
    refine x_seqD (hrest.trans rfl) ?_
    obtain ⟨rl, rvs, rk, rfl, hrl, hall⟩ := hr.mono le1
    refine x_forL (z := z) (H := H) (L := L) (r_loc Z1 m2 ?_)
    refine ⟨rl, rvs.toArray, rk, _, _, _, rfl, Z1, hrl, hh, SeenI RS sh mu0 m L,
      ⟨o3', sv, seen0 sh, rfl, d3', hsv, fun x hx => .inl hx, by unfold seen0; split <;> simp, fun _ _ _ => rfl⟩, ?_, ?_⟩
    · rintro p i v mu' nw2 m2 s2 E2 hi hvi ⟨o3, sv, ss, rfl, hd, hss, hmem, hsl, hm2⟩ le2 Z2
      obtain ⟨rs, hrs, hR⟩ := hall.nth (by simpa using hvi)
      have hrsm := List.mem_of_getElem? hrs
      have hi50 : i < 50 := by have := List.getElem?_eq_some_iff.mp hrs; obtain ⟨h1, _⟩ := this; omega
      have hrl := hrow rs hrsm
      have hvl : (varsR rs).length ≤ rs.length := by unfold varsR; exact Nat.le_trans (List.length_filter_le _ _) (by rw [List.length_map]; exact Nat.le_refl _)
      refine x_seq ?_
      refine x_asg ?_
      refine r_sortset Z2 hh (ss := varsR rs) (by omega) (fun hq => r_names Z2 hh (hR.mono le2) (by omega) (fun hq => r_loc Z2 (if_pos rfl) (hq _ Z2)) hq) fun nv ns nw3 s3 le3 Z3 hnv hnm hnl => r_store Z3 fun s4 Z4 => ?_
      have hsep : ∀ x ∈ ns, x ∉ ss := fun x hx hxs => by
        obtain ⟨d1, d2⟩ := hdis i rs hrs x ((hnm x).mp hx)
        rcases hmem x hxs with h1 | ⟨j, rs', hj, hrj, hxj⟩
        · exact d1 h1
        · exact d2 j rs' hj hrj hxj
      show wpAny _ _ (execs _ _) _ _ _
      refine x_seq (wpAny_If (isTrue_or (wpAny_isTrue_Compare1 (r_callB Z4 (blen w) boot_len (by decide) (sp_cons (r_overlap Z4 hh hnv (.tail _ (.head _)) hd (hss.mono le3) hsep (by omega) (fun hq => r_loc Z4 (if_pos rfl) (hq _ Z4)) fun ov nw5 s5 le5 Z5 hov => sp_nil ?_))))))
      obtain ⟨ol, ovs, ok, rfl, hol, hos⟩ := hov
      cases hos
      refine PyProof.Rows.len_list (items := #[]) ⟨_, Z5.get hol, rfl, ok, rfl⟩ (by decide) ?_
      have Z6 := Z5.toks (s5.toks + 1)
      refine r_int (Z6.toks (s5.toks + 1 + 1)) fun ti s Z => P.gt_int (wpAny_truthy_bool ?_)
      show wpAny _ _ (isTrue (.BoolOp .Or [_] _) _ _) _ _ _
      have fin : ∀ {nw7 : List Ent} {s7 : Shared} {Q7 : Flow → Shared → Prop} {E7 : Value → Shared → Prop}, Le nw3 nw7 → Sit w z H (p :: (L + 3, o3) :: mu0) nw7 L (fun y => if y = "own" then some nv else if y = "parts" then some v else m2 y) s7 →
          (∀ mu₂ nw₂ m₂ s₂, SeenI RS sh mu0 m L (i + 1) mu₂ nw₂ m₂ → Le nw2 nw₂ → Sit w z H (p :: mu₂) nw₂ L m₂ s₂ → Q7 .next s₂) → ∀ rest, rest = lawFor2 → wpAny (Md w) A (execs rest (lawE L)) Q7 E7 s7 := by
        intro nw7 s7 Q7 E7 le7 Z7 hq rest hrest
        refine x_seqD (hrest.trans rfl) ?_
        refine x_asg ?_
        refine wpAny_BinOp ?_
        refine r_cellE Z7 rfl (.tail _ (.head _)) hd ?_
        refine r_loc Z7 (if_pos rfl) ?_
        obtain ⟨l1, vs1, k1, rfl, hl1, hs1⟩ := hss.mono (le3.trans le7)
        obtain ⟨l2, vs2, k2, rfl, hl2, hs2⟩ := hnv.mono le7
        have n1 := StrsAre.len hs1
        have n2 := StrsAre.len hs2
        refine P.add_list (items := vs1.toArray) (items2 := vs2.toArray) (n := k1) (n2 := k2) (Z7.get hl1) (Z7.get hl2) ?_ (by rw [List.size_toArray, List.size_toArray]; exact Nat.le_trans (by omega : vs1.length + vs2.length ≤ 2000) (by decide))
        have Z8 := Z7.alloc (W.listOf (vs1.toArray ++ vs2.toArray) 0) rfl s7.toks
        refine r_storeC Z8.swap hd fun o4 s9 hd4 Z9 => ?_
        refine wpAny_execs_nil (hq _ _ _ _ ⟨o4, _, ss ++ ns, rfl, hd4, ⟨_, vs1 ++ vs2, 0, rfl, by rw [List.append_toArray]; exact .head _, StrsAre.append_ hs1 hs2⟩, fun x hx => ?_, by rw [List.length_append]; omega, fun y h1 h2 => (if_neg h1).trans ((if_neg h2).trans (hm2 y h1 h2))⟩ (le3.trans (le7.trans (Le.cons _ _))) Z9.swap)
        rcases List.mem_append.mp hx with hx | hx
        · rcases hmem x hx with h1 | ⟨j, rs', hj, hrj, hxj⟩
          · exact .inl h1
          · exact .inr ⟨j, rs', by omega, hrj, hxj⟩
        · exact .inr ⟨i, rs, by omega, hrs, (hnm x).mp hx⟩
      have c1 : m2 "shape" = some (.int (sh : Nat) ts) := (hm2 _ (by decide) (by decide)).trans m1
      refine isTrue_or ?_
      refine isTrue_and (wpAny_isTrue_Compare1 (r_loc Z (by exact c1) (r_int Z fun tj s Z => P.eq_int (wpAny_truthy_bool ?_))))
      by_cases hsh : sh = 0
      · subst hsh
        show wpAny _ _ (isTrue (.BoolOp .And [_] _) _ _) _ _ _
        have hnil : ns = [] := List.eq_nil_iff_forall_not_mem.mpr fun x hx => by have := (hnm x).mp hx; rw [h0 rfl rs hrsm] at this; cases this
        subst hnil
        obtain ⟨l2, vs2, k2, rfl, hl2, hs2⟩ := hnv.mono le5
        cases hs2
        refine isTrue_and (wpAny_isTrue_Compare1 (r_loc Z (if_pos rfl) (wpAny_List (sp_nil ⟨(show 0 ≤ sizeLine by decide), ?_⟩))))
        have Z9 := Z.alloc (W.listOf #[] 0) rfl s.toks
        refine EqBoolInt.of_rcne (SeqAt.RcNeAt.lists (items := #[]) (items2 := #[]) (e := fun _ => true) ⟨_, Z9.get (.tail _ hl2), rfl, k2, rfl⟩ ⟨_, Z9.get (.head _), rfl, 0, rfl⟩ rfl (by have := rm.2.1; show _ < 9900; omega) (fun j h1 => absurd h1 (Nat.not_lt_zero _))) (wpAny_truthy_bool ?_)
        show wpAny _ _ (isTrue (.BoolOp .Or [] _) _ _) _ _ _
        refine isTrue_or_nil ?_
        show wpAny _ _ (execs [] _) _ _ _
        refine wpAny_execs_nil ?_
        refine fin (le5.trans (Le.cons _ _)) Z9 (fun mu₂ nw₂ m₂ s₂ hI le Z => ⟨mu₂, nw₂, m₂, hI, le, Z⟩) _ ?_
        exact rfl
      · have e0 : ((sh : Int) == 0) = false := by simp; omega
        rw [e0]
        show wpAny _ _ (isTrue (.BoolOp .Or [] _) _ _) _ _ _
        refine isTrue_or_nil ?_
        show wpAny _ _ (execs [] _) _ _ _
        refine wpAny_execs_nil ?_
        refine fin le5 Z (fun mu₂ nw₂ m₂ s₂ hI le Z => ⟨mu₂, nw₂, m₂, hI, le, Z⟩) _ ?_
        exact rfl
    · rintro mu' nw2 m2 s2 ⟨o3, sv, ss, rfl, hd, hss, hmem, hsl, hm2⟩ le2 Z2
      show wpAny _ _ (execs _ _) _ _ _
      have h9 := fun rest hr => h m2 nw2 s2 (le1.trans le2) hm2 Z2.drop rest hr
      refine h9 _ ?_
      exact rfl
  refine x_seqD (hbody.trans rfl) ?_
  refine x_asg ?_
  refine wpAny_IfExp (wpAny_isTrue_Compare1 (r_loc Z m1 (r_int Z fun ti s Z => P.gt_int (wpAny_truthy_bool ?_))))
  by_cases hsh : sh = 0
  · subst hsh
    show wpAny _ _ (eval (.List _ _) _) _ _ _
    refine wpAny_List (sp_nil ⟨(show 0 ≤ sizeLine by decide), ?_⟩)
    have Z1 := Z.alloc (W.listOf #[] 0) rfl s.toks
    refine r_storeC Z1 d3 fun o4 s9 hd4 Z9 => ?_
    have h9 := fun rest hr => loop o4 _ _ s9 hd4 (Le.cons _ _) ⟨_, [], 0, rfl, .head _, .nil⟩ Z9 rest hr
    refine h9 _ ?_
    exact rfl
  · have g0 : decide ((sh : Int) > 0) = true := by simp; omega
    rw [g0]
    show wpAny _ _ (eval (.List _ _) _) _ _ _
    refine wpAny_List (sp_cons (r_str Z fun t1 s Z => sp_cons (r_str Z fun t2 s Z => sp_nil ⟨(show 2 ≤ sizeLine by decide), ?_⟩)))
    have Z1 := Z.alloc (W.listOf #[.str "x" t1, .str "y" t2] 0) rfl s.toks
    refine r_storeC Z1 d3 fun o4 s9 hd4 Z9 => ?_
    have h9 := fun rest hr => loop o4 _ _ s9 hd4 (Le.cons _ _) ⟨_, [.str "x" t1, .str "y" t2], 0, rfl, .head _, by unfold seen0; rw [if_pos (by omega)]; exact .cons _ _ (.cons _ _ .nil)⟩ Z9 rest hr
    refine h9 _ ?_
    exact rfl
end
end Mine
end

section
open PySem PySem.W PySem.Spec PySem.Calls PyProof.Rows
set_option Elab.async false
set_option maxRecDepth 100000
namespace Mine
set_option linter.unusedVariables false
set_option maxHeartbeats 1000000
/-- a place: the numbers of x and of y -/
noncomputable def PlaceR (w : World) (nw : List Ent) (a b : Int) (v : Value) : Prop :=
  ∃ d o es ep t1 t2, v = .ref d ∧ (d, o) ∈ nw ∧ o.ExactDict ∧ o.data = .dict es ep ∧ KeysOf (strKind PW w) es ∧ Pairs (strKind PW w) es.toList [("x", .int a t1), ("y", .int b t2)]
theorem PlaceR.mono {w : World} {nw nw' : List Ent} {a b : Int} {v : Value} (x : PlaceR w nw a b v) (h : Le nw nw') : PlaceR w nw' a b v :=
  let ⟨d, o, es, ep, t1, t2, e, hm, r⟩ := x; ⟨d, o, es, ep, t1, t2, e, h _ hm, r⟩
section
variable {w : World} {z : Shared} {H : Heap} {mu nw : List Ent} {L a : Addr} {m : Str → Option Value} {s : Shared} {A : Around} {E : Value → Shared → Prop} {B d : Nat} {env : Env}
theorem r_all {bs : List Bool} {v : Value} {Q : Value → Shared → Prop} (Z : Sit w z H mu nw L m s) (hh : A.handled = none) (hv : BoolsR nw bs v) (h : ∀ s', Sit w z H mu nw L m s' → Q (.bool (bs.all id)) s') :
    wpAny (Md w) A (call (.builtin "all") [v]) Q E s := by
  obtain ⟨l, vs, k, rfl, hl, hall⟩ := hv
  have hlen := hall.length
  refine call_all_walk (wpAny_pyIter_list (items := vs.toArray) ⟨_, Z.get hl, rfl, k, rfl⟩ ?_)
  have Z1 := Z.allocM { cls := .type "list_iterator", data := .fields #[.ref l, .int 0 0] } rfl s.toks
  have hlt : l < s.heap.objs.size := Z.lt (List.mem_append_right _ hl)
  refine ⟨s.heap.objs.size, _, _, vs.toArray.size, _, _, fun i => (bs[i]?).getD false, rfl, Walks.list (by exact hh) _ l (Nat.ne_of_lt hlt) vs.toArray, ⟨⟨_, Z1.getM (.head _), rfl, rfl⟩, ⟨_, Z1.get hl, rfl, k, rfl⟩⟩, ?_, fun h' tk hk => ?_⟩
  · intro i v s Q E hP hQ
    obtain ⟨b, hb, rfl⟩ := hall.nth (by simpa using hP)
    refine wpAny_truthy_bool ?_
    have e : (bs[i]?).getD false = b := by rw [hb]; rfl
    exact e ▸ hQ
  · have e : (List.range vs.toArray.size).all (fun i => (bs[i]?).getD false) = bs.all id := by
      rw [List.size_toArray, ← hlen, Bool.eq_iff_iff, List.all_eq_true, List.all_eq_true]
      constructor
      · intro hx b hb
        obtain ⟨i, hi, rfl⟩ := List.mem_iff_getElem.mp hb
        have := hx i (List.mem_range.mpr hi)
        rw [List.getElem?_eq_getElem hi] at this
        exact this
      · intro hx i hi
        have hi := List.mem_range.mp hi
        rw [List.getElem?_eq_getElem hi]
        exact hx _ (List.getElem_mem hi)
    rw [e]
    refine h _ (Z.keeps (fun b o q => hk b o ?_ (Heap.get?_push_of_some _ q)) tk)
    rw [List.mem_singleton]
    exact Nat.ne_of_lt (Heap.lt_size q)

/-- {'x': E1, 'y': E2} -/
theorem r_place {i j : Int} {e1 e2 : Expr} {k1 k2 : Nat} {p1 p2 pos : Pos} {Q : Value → Shared → Prop} (Z : Sit w z H mu nw L m s)
    (h1 : ∀ {mu : List Ent} {s : Shared} {Q' : Value → Shared → Prop}, Sit w z H mu nw L m s → (∀ t s', Sit w z H mu nw L m s' → Q' (.int i t) s') → wpAny (Md w) A (eval e1 env) Q' E s)
    (h2 : ∀ {mu : List Ent} {s : Shared} {Q' : Value → Shared → Prop}, Sit w z H mu nw L m s → (∀ t s', Sit w z H mu nw L m s' → Q' (.int j t) s') → wpAny (Md w) A (eval e2 env) Q' E s)
    (h : ∀ v nw' s', Le nw nw' → Sit w z H mu nw' L m s' → PlaceR w nw' i j v → Q v s') :
    wpAny (Md w) A (eval (.Dict [some (.Constant (.str "x") k1 p1), some (.Constant (.str "y") k2 p2)] [e1, e2] pos) env) Q E s := by
  have Z1 := Z.allocM { cls := .type "dict", data := .dict #[] } rfl s.toks
  refine wpAny_Dict_walk (knd := strKind PW w) rfl rfl (by simp) (show _ ≤ 15 from Nat.le_of_ble_eq_true rfl) ?_
  refine pairTrees_cons_walk (r_str Z1 fun u1 s2 Z2 => h1 Z2 fun t1 s3 Z3 => pairTrees_cons_walk (r_str Z3 fun u2 s4 Z4 => h2 Z4 fun t2 s5 Z5 => pairTrees_nil_walk ?_))
  refine display_done_str (P := fun h' => Q _ { s5 with heap := h', toks := _ }) rfl (show (["x", "y"] : List Str).Nodup by decide) ((Heap.DictOf.new s.heap).at fun o e => ?_) fun h' hd hs => ?_
  · have : o = { cls := .type "dict", data := .dict #[] } := by
      have e2 := Heap.get?_push_size s.heap (o := { cls := .type "dict", data := .dict #[] }) rfl
      rw [e2] at e; exact (Option.some.inj e).symm
    rw [this]
    exact Z5.getM (.head _)
  · obtain ⟨o, es, ep, ho, hc, hdat, hk, hp, hn⟩ := hd
    exact h _ _ _ (Le.cons _ _) (Z5.turnT hs ho _).freeze ⟨_, o, es, ep, t1, t2, rfl, .head _, hc, hdat, hk, hp⟩

/-- one entry of a world's display -/
theorem pair_step {word : Str} {e2 : Expr} {th : Th} {b : Bool} {ks : List (Option Expr)} {vE : Expr} {vs : List Expr} {k1 k : Nat} {p1 p pos : Pos} {Q : List (Value × Value) → Shared → Prop} (Z : Sit w z H mu nw L m s)
    (he2 : ∀ {s : Shared} {Q' : Value → Shared → Prop}, Sit w z H mu nw L m s → (∀ v s', isTh th v = true → Sit w z H mu nw L m s' → Q' v s') → wpAny (Md w) A (eval e2 env) Q' E s)
    (hv : ∀ {nw : List Ent} {s : Shared} {Q' : Value → Shared → Prop}, Sit w z H mu nw L m s → (∀ s', Sit w z H mu nw L m s' → Q' (.bool b) s') → wpAny (Md w) A (eval vE env) Q' E s)
    (h : ∀ ka ok nw' s', Le nw nw' → (ka, ok) ∈ nw' → TupKeyObj (mixK w) [.inl word, th] ok → Sit w z H mu nw' L m s' → wpAny (Md w) A (evalPairs (pairTrees ks vs env pos)) (fun r s₃ => Q ((.ref ka, .bool b) :: r) s₃) E s')
    (g1 : starEach [.Constant (.str word) k1 p1, e2] env = (false, eval (.Constant (.str word) k1 p1) env) :: starEach [e2] env := by rfl) (g2 : starEach [e2] env = (false, eval e2 env) :: starEach [] env := by rfl) :
    wpAny (Md w) A (evalPairs (pairTrees (some (.Tuple [.Constant (.str word) k1 p1, e2] k p) :: ks) (vE :: vs) env pos)) Q E s := by
  refine pairTrees_cons_walk (wpAny_Tuple (sp_cons (r_str Z fun u1 s2 Z2 => sp_cons (he2 Z2 fun v s3 hth Z3 => sp_nil ⟨(show 2 ≤ sizeLine by decide), ?_⟩) g2) g1))
  have Z4 := Z3.alloc (tupO #[.str word u1, v]) rfl s3.toks
  exact hv Z4 fun s5 Z5 => h _ _ _ s5 (Le.cons _ _) (.head _) (tupKey2 hth) Z5

noncomputable def f3 (b1 b2 b3 : Bool) : Str → Th → Option Bool := fun x th => if x = "dog" then (if th = .inl "rex" then some b1 else if th = .inl "tom" then some b2 else if th = .inl "ann" then some b3 else none) else none
noncomputable def f4 (b1 b2 b3 b4 : Bool) : Str → Th → Option Bool := fun x th => if x = "dog" then (if th = .inr 0 then some b1 else if th = .inr 1 then some b2 else none) else if x = "old" then (if th = .inr 0 then some b3 else if th = .inr 1 then some b4 else none) else none
theorem r_thS {x : Str} {k : Nat} {p : Pos} {Q : Value → Shared → Prop} (Z : Sit w z H mu nw L m s) (h : ∀ v s', isTh (.inl x) v = true → Sit w z H mu nw L m s' → Q v s') : wpAny (Md w) A (eval (.Constant (.str x) k p) env) Q E s :=
  r_str Z fun t s' Z' => h _ _ (by simp [isTh, Value.isStrOf]) Z'
theorem r_thI {i : Int} {k : Nat} {p : Pos} {Q : Value → Shared → Prop} (Z : Sit w z H mu nw L m s) (h : ∀ v s', isTh (.inr i) v = true → Sit w z H mu nw L m s' → Q v s') : wpAny (Md w) A (eval (.Constant (.int i) k p) env) Q E s :=
  r_int Z fun t s' Z' => h _ _ (by simp [isTh, Value.isInt]) Z'
theorem world_of {d : Addr} {o : Obj} {xs : List (List Th × Addr × Value)} {f : Str → Th → Option Bool} (hd : (d, o) ∈ nw) (D : DictL w nw o xs) (hf : ∀ word th b, f word th = some b → ∃ a, atKey xs [.inl word, th] = some (a, .bool b)) : WorldR w nw f (.ref d) := ⟨d, o, xs, rfl, hd, D, hf⟩
theorem r_world3 {v1 v2 v3 : Expr} {b1 b2 b3 : Bool} {q0 q1 q2 q3 q4 q5 q6 q7 q8 : Pos} {k0 k1 k2 k3 k4 k5 k6 k7 k8 : Nat} {pos : Pos} {Q : Value → Shared → Prop} (Z : Sit w z H mu nw L m s) (hu : A.units < cLine)
    (h1 : ∀ {mu nw : List Ent} {s : Shared} {Q' : Value → Shared → Prop}, Sit w z H mu nw L m s → (∀ s', Sit w z H mu nw L m s' → Q' (.bool b1) s') → wpAny (Md w) A (eval v1 env) Q' E s)
    (h2 : ∀ {mu nw : List Ent} {s : Shared} {Q' : Value → Shared → Prop}, Sit w z H mu nw L m s → (∀ s', Sit w z H mu nw L m s' → Q' (.bool b2) s') → wpAny (Md w) A (eval v2 env) Q' E s)
    (h3 : ∀ {mu nw : List Ent} {s : Shared} {Q' : Value → Shared → Prop}, Sit w z H mu nw L m s → (∀ s', Sit w z H mu nw L m s' → Q' (.bool b3) s') → wpAny (Md w) A (eval v3 env) Q' E s)
    (h : ∀ v nw' s', Le nw nw' → Sit w z H mu nw' L m s' → WorldR w nw' (f3 b1 b2 b3) v → Q v s') :
    wpAny (Md w) A (eval (.Dict [some (.Tuple [.Constant (.str "dog") k0 q0, .Constant (.str "rex") k1 q1] k2 q2), some (.Tuple [.Constant (.str "dog") k3 q3, .Constant (.str "tom") k4 q4] k5 q5), some (.Tuple [.Constant (.str "dog") k6 q6, .Constant (.str "ann") k7 q7] k8 q8)] [v1, v2, v3] pos) env) Q E s := by
  have Z1 := Z.allocM { cls := .type "dict", data := .dict #[] } rfl s.toks
  refine wpAny_Dict_any rfl rfl (by simp) (show _ ≤ 15 from Nat.le_of_ble_eq_true rfl) ?_
  generalize s.heap.objs.size = d at Z1 ⊢
  refine pair_step Z1 (fun Z hq => r_thS Z hq) (fun Z hq => h1 Z hq) fun a1 o1 nw1 s1 le1 m1 t1 Z2 => ?_
  refine pair_step Z2 (fun Z hq => r_thS Z hq) (fun Z hq => h2 Z hq) fun a2 o2 nw2 s2 le2 m2 t2 Z3 => ?_
  refine pair_step Z3 (fun Z hq => r_thS Z hq) (fun Z hq => h3 Z hq) fun a3 o3 nw3 s3 le3 m3 t3 Z4 => pairTrees_nil_walk ?_
  refine storeAll_sit hu [([.inl "dog", .inl "rex"], a1, .bool b1), ([.inl "dog", .inl "tom"], a2, .bool b2), ([.inl "dog", .inl "ann"], a3, .bool b3)] [] Z4 ⟨⟨rfl, rfl, rfl⟩, ⟨#[], 0, rfl, rfl⟩, fun y hy => (by cases hy), .nil⟩ ?_ (show ([[.inl "dog", .inl "rex"], [.inl "dog", .inl "tom"], [.inl "dog", .inl "ann"]] : List (List Th)).Nodup by decide) (show _ ≤ 1000 from Nat.le_of_ble_eq_true rfl) fun o' s' Z5 D => ?_
  · intro x hx
    simp only [List.mem_cons, List.not_mem_nil, or_false] at hx
    rcases hx with rfl | rfl | rfl
    · exact ⟨o1, le3 _ (le2 _ m1), t1⟩
    · exact ⟨o2, le3 _ m2, t2⟩
    · exact ⟨o3, m3, t3⟩
  · refine h _ _ _ (le1.trans (le2.trans (le3.trans (Le.cons _ _)))) Z5.freeze (world_of (.head _) (D.mono (Le.cons _ _)) fun word th b hf => ?_)
    unfold f3 at hf
    by_cases c1 : word = "dog"
    · subst c1
      rw [if_pos rfl] at hf
      by_cases c2 : th = .inl "rex"
      · subst c2; rw [if_pos rfl] at hf; cases hf; exact ⟨a1, rfl⟩
      · rw [if_neg c2] at hf
        by_cases c3 : th = .inl "tom"
        · subst c3; rw [if_pos rfl] at hf; cases hf; exact ⟨a2, rfl⟩
        · rw [if_neg c3] at hf
          by_cases c4 : th = .inl "ann"
          · subst c4; rw [if_pos rfl] at hf; cases hf; exact ⟨a3, rfl⟩
          · rw [if_neg c4] at hf; cases hf
    · rw [if_neg c1] at hf; cases hf
theorem r_world4 {v1 v2 v3 v4 : Expr} {b1 b2 b3 b4 : Bool} {q0 q1 q2 q3 q4 q5 q6 q7 q8 q9 q10 q11 : Pos} {k0 k1 k2 k3 k4 k5 k6 k7 k8 k9 k10 k11 : Nat} {pos : Pos} {Q : Value → Shared → Prop} (Z : Sit w z H mu nw L m s) (hu : A.units < cLine)
    (h1 : ∀ {mu nw : List Ent} {s : Shared} {Q' : Value → Shared → Prop}, Sit w z H mu nw L m s → (∀ s', Sit w z H mu nw L m s' → Q' (.bool b1) s') → wpAny (Md w) A (eval v1 env) Q' E s)
    (h2 : ∀ {mu nw : List Ent} {s : Shared} {Q' : Value → Shared → Prop}, Sit w z H mu nw L m s → (∀ s', Sit w z H mu nw L m s' → Q' (.bool b2) s') → wpAny (Md w) A (eval v2 env) Q' E s)
    (h3 : ∀ {mu nw : List Ent} {s : Shared} {Q' : Value → Shared → Prop}, Sit w z H mu nw L m s → (∀ s', Sit w z H mu nw L m s' → Q' (.bool b3) s') → wpAny (Md w) A (eval v3 env) Q' E s)
    (h4 : ∀ {mu nw : List Ent} {s : Shared} {Q' : Value → Shared → Prop}, Sit w z H mu nw L m s → (∀ s', Sit w z H mu nw L m s' → Q' (.bool b4) s') → wpAny (Md w) A (eval v4 env) Q' E s)
    (h : ∀ v nw' s', Le nw nw' → Sit w z H mu nw' L m s' → WorldR w nw' (f4 b1 b2 b3 b4) v → Q v s') :
    wpAny (Md w) A (eval (.Dict [some (.Tuple [.Constant (.str "dog") k0 q0, .Constant (.int 0) k1 q1] k2 q2), some (.Tuple [.Constant (.str "dog") k3 q3, .Constant (.int 1) k4 q4] k5 q5), some (.Tuple [.Constant (.str "old") k6 q6, .Constant (.int 0) k7 q7] k8 q8), some (.Tuple [.Constant (.str "old") k9 q9, .Constant (.int 1) k10 q10] k11 q11)] [v1, v2, v3, v4] pos) env) Q E s := by
  have Z1 := Z.allocM { cls := .type "dict", data := .dict #[] } rfl s.toks
  refine wpAny_Dict_any rfl rfl (by simp) (show _ ≤ 15 from Nat.le_of_ble_eq_true rfl) ?_
  generalize s.heap.objs.size = d at Z1 ⊢
  refine pair_step Z1 (fun Z hq => r_thI Z hq) (fun Z hq => h1 Z hq) fun a1 o1 nw1 s1 le1 m1 t1 Z2 => ?_
  refine pair_step Z2 (fun Z hq => r_thI Z hq) (fun Z hq => h2 Z hq) fun a2 o2 nw2 s2 le2 m2 t2 Z3 => ?_
  refine pair_step Z3 (fun Z hq => r_thI Z hq) (fun Z hq => h3 Z hq) fun a3 o3 nw3 s3 le3 m3 t3 Z4 => ?_
  refine pair_step Z4 (fun Z hq => r_thI Z hq) (fun Z hq => h4 Z hq) fun a4 o4 nw4 s4 le4 m4 t4 Z5 => pairTrees_nil_walk ?_
  refine storeAll_sit hu [([.inl "dog", .inr 0], a1, .bool b1), ([.inl "dog", .inr 1], a2, .bool b2), ([.inl "old", .inr 0], a3, .bool b3), ([.inl "old", .inr 1], a4, .bool b4)] [] Z5 ⟨⟨rfl, rfl, rfl⟩, ⟨#[], 0, rfl, rfl⟩, fun y hy => (by cases hy), .nil⟩ ?_ (show ([[.inl "dog", .inr 0], [.inl "dog", .inr 1], [.inl "old", .inr 0], [.inl "old", .inr 1]] : List (List Th)).Nodup by decide) (show _ ≤ 1000 from Nat.le_of_ble_eq_true rfl) fun o' s' Z6 D => ?_
  · intro x hx
    simp only [List.mem_cons, List.not_mem_nil, or_false] at hx
    rcases hx with rfl | rfl | rfl | rfl
    · exact ⟨o1, le4 _ (le3 _ (le2 _ m1)), t1⟩
    · exact ⟨o2, le4 _ (le3 _ m2), t2⟩
    · exact ⟨o3, le4 _ m3, t3⟩
    · exact ⟨o4, m4, t4⟩
  · refine h _ _ _ (le1.trans (le2.trans (le3.trans (le4.trans (Le.cons _ _))))) Z6.freeze (world_of (.head _) (D.mono (Le.cons _ _)) fun word th b hf => ?_)
    unfold f4 at hf
    by_cases c1 : word = "dog"
    · subst c1
      rw [if_pos rfl] at hf
      by_cases c2 : th = .inr 0
      · subst c2; rw [if_pos rfl] at hf; cases hf; exact ⟨a1, rfl⟩
      · rw [if_neg c2] at hf
        by_cases c3 : th = .inr 1
        · subst c3; rw [if_pos rfl] at hf; cases hf; exact ⟨a2, rfl⟩
        · rw [if_neg c3] at hf; cases hf
    · rw [if_neg c1] at hf
      by_cases c1 : word = "old"
      · subst c1
        rw [if_pos rfl] at hf
        by_cases c2 : th = .inr 0
        · subst c2; rw [if_pos rfl] at hf; cases hf; exact ⟨a3, rfl⟩
        · rw [if_neg c2] at hf
          by_cases c3 : th = .inr 1
          · subst c3; rw [if_pos rfl] at hf; cases hf; exact ⟨a4, rfl⟩
          · rw [if_neg c3] at hf; cases hf
      · rw [if_neg c1] at hf; cases hf
end
end Mine
end

section
open PySem PySem.W PySem.Spec PySem.Calls PyProof.Rows
set_option Elab.async false
set_option maxRecDepth 100000
namespace Mine
set_option linter.unusedVariables false
set_option maxHeartbeats 400000
/-- a clause's truth: under every choice one of the rows holds -/
noncomputable def clP (V : Str → Th → Bool) (rs : List Row3) : Prop := ∀ σ : Str → Bool, ∃ r ∈ rs, V r.2.1 (if isC r.2.2 = true then .inl r.2.2 else .inr (if σ r.2.2 = true then 1 else 0)) ≠ r.1
open Classical in
noncomputable def clB (V : Str → Th → Bool) (rs : List Row3) : Bool := decide (clP V rs)
theorem bits_ : ∀ (bs : List Bool), ∃ p, p < 2 ^ bs.length ∧ ∀ i (h : i < bs.length), p / 2 ^ i % 2 = if bs[i] = true then 1 else 0
  | [] => ⟨0, by decide, fun i h => absurd h (Nat.not_lt_zero _)⟩
  | b :: bs => by
    obtain ⟨p, hp, hb⟩ := bits_ bs
    refine ⟨2 * p + (if b = true then 1 else 0), ?_, fun i h => ?_⟩
    · rw [List.length_cons, Nat.pow_succ]; split <;> omega
    · cases i with
      | zero => simp only [Nat.pow_zero, Nat.div_one, List.getElem_cons_zero]; split <;> omega
      | succ i =>
        have h' : i < bs.length := by simpa using h
        have e : (2 * p + (if b = true then 1 else 0)) / 2 ^ (i + 1) = p / 2 ^ i := by
          rw [Nat.pow_succ, Nat.mul_comm (2 ^ i) 2, ← Nat.div_div_eq_div_mul]
          congr 1
          split <;> omega
        rw [e, hb i h']
        simp
theorem lcT_eq {V : Str → Th → Bool} {ns : List Str} {rs : List Row3} (h : ∀ x, x ∈ ns ↔ x ∈ varsR rs) : lcT V ns rs = clB V rs := by
  have inN : ∀ r ∈ rs, isC r.2.2 = false → r.2.2 ∈ ns := fun r hr hc => (h _).mpr (by unfold varsR; exact List.mem_filter.mpr ⟨List.mem_map.mpr ⟨r, hr, rfl⟩, by simpa using hc⟩)
  have outN : ∀ r ∈ rs, isC r.2.2 = true → r.2.2 ∉ ns := fun r hr hc hn => by
    have := (h _).mp hn
    unfold varsR at this
    have := (List.mem_filter.mp this).2
    rw [hc] at this; cases this
  have key : lcT V ns rs = true ↔ clP V rs := by
    unfold lcT clP
    rw [List.all_eq_true]
    constructor
    · intro hx σ
      obtain ⟨p, hp, hb⟩ := bits_ (ns.map σ)
      rw [List.length_map] at hp
      obtain ⟨r, hr, hrow⟩ := List.any_eq_true.mp (hx p (List.mem_range.mpr hp))
      refine ⟨r, hr, ?_⟩
      unfold rowT thOf at hrow
      have hrow' := bne_iff_ne.mp hrow
      cases hc : isC r.2.2 with
      | true =>
        rw [if_neg (outN r hr hc)] at hrow'
        simpa using hrow'
      | false =>
        have hm := inN r hr hc
        have hi : ns.idxOf r.2.2 < ns.length := List.idxOf_lt_length_iff.mpr hm
        rw [if_pos hm, hb (ns.idxOf r.2.2) (by rw [List.length_map]; exact hi)] at hrow'
        rw [List.getElem_map, List.getElem_idxOf] at hrow'
        simp only [Bool.false_eq_true, if_false]
        cases hs : σ r.2.2 with
        | true => rw [hs] at hrow'; simpa using hrow'
        | false => rw [hs] at hrow'; simpa using hrow'
    · intro hx p hp
      obtain ⟨r, hr, hne⟩ := hx fun n => p / 2 ^ ns.idxOf n % 2 == 1
      refine List.any_eq_true.mpr ⟨r, hr, ?_⟩
      unfold rowT thOf
      refine bne_iff_ne.mpr ?_
      cases hc : isC r.2.2 with
      | true =>
        rw [if_neg (outN r hr hc)]
        rw [hc] at hne
        simpa using hne
      | false =>
        rw [if_pos (inN r hr hc)]
        rw [hc] at hne
        simp only [Bool.false_eq_true, if_false] at hne
        rcases Nat.mod_two_eq_zero_or_one (p / 2 ^ ns.idxOf r.2.2) with e | e
        · rw [e] at hne ⊢; simpa using hne
        · rw [e] at hne ⊢; simpa using hne
  unfold clB
  rw [Bool.eq_iff_iff]
  exact key.trans (@decide_eq_true_iff _ (Classical.propDecidable _)).symm
noncomputable def Vof (f : Str → Th → Option Bool) : Str → Th → Bool := fun x th => (f x th).getD false
noncomputable abbrev lawFor3 : List Stmt := match sAt 51 with | .FunctionDef _ _ b .. => (match b.drop 12 with | .For _ _ l _ _ :: _ => l.drop 1 | _ => []) | _ => []
section
variable {w : World} {z : Shared} {H : Heap} {mu nw : List Ent} {L a : Addr} {m : Str → Option Value} {s : Shared} {A : Around} {E : Value → Shared → Prop} {B d : Nat} {env : Env}
theorem due_ok {rv wv : Value} {RS : List (List Row3)} {due : Bool} {f : Str → Th → Option Bool} {o4 : Obj} {Q : Flow → Shared → Prop} {body : List Stmt} (hbody : body = lawFor3) (Z : Sit w z H mu nw L m s) (rm : Room A 300)
    (m1 : m "due" = some (.bool due)) (m2 : m "rows" = some rv) (hr : RowsL nw RS rv) (h4 : (L + 4, o4) ∈ mu) (d4 : o4.data = .cell (some wv)) (hw : WorldR w nw f wv) (hlen : RS.length ≤ 50) (hrow : ∀ rs ∈ RS, rs.length ≤ 19)
    (hV : ∀ rs ∈ RS, ∀ r ∈ rs, (isC r.2.2 = true → f r.2.1 (.inl r.2.2) = some (Vof f r.2.1 (.inl r.2.2))) ∧ (isC r.2.2 = false → ∀ i : Int, i = 0 ∨ i = 1 → f r.2.1 (.inr i) = some (Vof f r.2.1 (.inr i))))
    (heq : due = RS.all (clB (Vof f))) (h : ∀ nw' s', Le nw nw' → Sit w z H mu nw' L m s' → Q .next s') : wpAny (Md w) A (execs body (lawE L)) Q E s := by
  have hh := rm.2.2
  refine x_seqD (hbody.trans rfl) ?_
  refine wpAny_If (wpAny_isTrue_Compare1 (r_loc Z m1 ?_))
  refine r_callB Z (ball w) boot_all (by decide) ?_
  refine sp_cons ?_
  refine r_map (R := fun nw rs v => RowsR nw rs v) (R' := fun _ (b : Bool) v => v = .bool b) (g := clB (Vof f)) Z hh hr (by omega) (fun le x => x.mono le) (fun le x => x) (fun hq => r_loc Z m2 (hq _ Z)) ?_ ?_
  · intro rs v C cm mu' nw' s' E' Q' hrs hR le hmu Z' hq
    refine r_callN Z' (n1261 w) (kp1261 w) ?_
    refine sp_cons ?_
    refine r_loc Z' (if_pos rfl) ?_
    refine sp_cons ?_
    refine r_cellE Z' rfl (List.mem_append_left _ (hmu _ h4)) d4 ?_
    refine sp_cons ?_
    refine r_int Z' fun t s Z2 => ?_
    refine sp_nil ⟨Z2.K, ?_⟩
    refine clause_ok (V := Vof f) Z2 (rm.le (by decide)) hR (hw.mono le) (by have := hrow rs hrs; omega) (hV rs hrs) fun ns nw2 s2 le2 Z3 hns => ?_
    rw [lcT_eq hns]
    exact hq _ _ _ le2 Z3 rfl
  · intro r nw' s' le Z' hr'
    refine sp_nil ?_
    refine r_all Z' hh hr' fun s2 Z2 => ?_
    have e : (RS.map (clB (Vof f))).all id = due := by rw [heq, List.all_map]; rfl
    rw [e]
    refine PyProof.Rows.ne_bool (wpAny_truthy_bool ?_)
    have e2 : (due != due) = false := by simp
    rw [e2]
    show wpAny _ _ (execs [] _) _ _ _
    refine wpAny_execs_nil ?_
    show wpAny _ _ (execs [] _) _ _ _
    exact wpAny_execs_nil (h _ _ le Z2)
end
end Mine
end

section
open PySem PySem.W PySem.Spec PySem.Calls PyProof.Rows
set_option Elab.async false
set_option maxRecDepth 100000
namespace Mine
set_option linter.unusedVariables false
set_option maxHeartbeats 400000
noncomputable abbrev lawFor (k : Nat) : List Stmt := match sAt 51 with | .FunctionDef _ _ b .. => (match b.drop 12 with | .For _ _ (.If _ a c _ :: _) _ _ :: _ => (if k = 0 then a else c) | _ => []) | _ => []
noncomputable def plc (n : Str) (p : Nat) : Int := if n = "x" then (p : Int).fmod 2 else (p : Int).fdiv 2
noncomputable def due0 (t : Tr) (V : Str → Th → Bool) : Bool := trT (fun k => V "dog" (.inl (nth (nmS 0) k))) t
noncomputable def due1 (sh : Nat) (t : Tr) (V : Str → Th → Bool) (p : Nat) : Bool := trT (fun k => V (nth (wdS sh) k) (.inr (plc (nth (nmS sh) k) p))) t
noncomputable def dueT (sh : Nat) (t : Tr) (V : Str → Th → Bool) : Bool := if sh = 0 then due0 t V else (List.range 4).all (due1 sh t V)
section
variable {w : World} {z : Shared} {H : Heap} {mu nw : List Ent} {L a : Addr} {m : Str → Option Value} {s : Shared} {A : Around} {E : Value → Shared → Prop} {B d : Nat} {env : Env}
theorem bitA {x : Str} {i : Int} {t : Tok} {k1 k2 : Nat} {q1 q2 q3 q4 q5 : Pos} {Q : Value → Shared → Prop} (Z : Sit w z H mu nw L m s) (hm : m x = some (.int i t)) (h : ∀ s', Sit w z H mu nw L m s' → Q (.bool (i.fmod 2 == 1)) s')
    (hk : EnvOk env L := by exact ⟨rfl, rfl, rfl, rfl⟩) (kx : env.kindOf x = some .local := by rfl) (hb : (x == ("__debug__" : Str)) = false := by decide) :
    wpAny (Md w) A (eval (.Compare (.BinOp (.Name x q1) .Mod (.Constant (.int 2) k1 q2) q3) [.Eq] [.Constant (.int 1) k2 q4] q5) env) Q E s := by
  refine wpAny_Compare1 (wpAny_BinOp (r_loc Z hm (r_int Z fun t s Z => PyProof.Rows.mod_int (by decide) ?_) hk kx hb))
  exact r_int (Z.toks _) fun t s Z => P.eq_int (h _ Z)
theorem bitB {x : Str} {i c : Int} {t : Tok} {k0 k1 k2 : Nat} {q0 qa q1 q2 q3 q4 q5 : Pos} {Q : Value → Shared → Prop} (Z : Sit w z H mu nw L m s) (hm : m x = some (.int i t)) (hi : 0 ≤ i ∧ i < 1000) (hc : 0 < c ∧ c < 1000) (h : ∀ s', Sit w z H mu nw L m s' → Q (.bool ((i.fdiv c).fmod 2 == 1)) s')
    (hk : EnvOk env L := by exact ⟨rfl, rfl, rfl, rfl⟩) (kx : env.kindOf x = some .local := by rfl) (hb : (x == ("__debug__" : Str)) = false := by decide) :
    wpAny (Md w) A (eval (.Compare (.BinOp (.BinOp (.Name x q1) .FloorDiv (.Constant (.int c) k0 q0) qa) .Mod (.Constant (.int 2) k1 q2) q3) [.Eq] [.Constant (.int 1) k2 q4] q5) env) Q E s := by
  refine wpAny_Compare1 (wpAny_BinOp (wpAny_BinOp (r_loc Z hm (r_int Z fun t s Z => PyProof.Rows.floordiv_int (by omega) ?_ (.inl (PyProof.noPylong_small (by omega)))) hk kx hb)))
  refine r_int (Z.toks _) fun t s Z => PyProof.Rows.mod_int (by decide) ?_
  exact r_int (Z.toks _) fun t s Z => P.eq_int (h _ Z)
theorem bitC {x : Str} {i c : Int} {t : Tok} {k0 k2 : Nat} {q0 q1 q3 q4 q5 : Pos} {Q : Value → Shared → Prop} (Z : Sit w z H mu nw L m s) (hm : m x = some (.int i t)) (hi : 0 ≤ i ∧ i < 1000) (hc : 0 < c ∧ c < 1000) (h : ∀ s', Sit w z H mu nw L m s' → Q (.bool (i.fdiv c == 1)) s')
    (hk : EnvOk env L := by exact ⟨rfl, rfl, rfl, rfl⟩) (kx : env.kindOf x = some .local := by rfl) (hb : (x == ("__debug__" : Str)) = false := by decide) :
    wpAny (Md w) A (eval (.Compare (.BinOp (.Name x q1) .FloorDiv (.Constant (.int c) k0 q0) q3) [.Eq] [.Constant (.int 1) k2 q4] q5) env) Q E s := by
  refine wpAny_Compare1 (wpAny_BinOp (r_loc Z hm (r_int Z fun t s Z => PyProof.Rows.floordiv_int (by omega) ?_ (.inl (PyProof.noPylong_small (by omega)))) hk kx hb))
  exact r_int (Z.toks _) fun t s Z => P.eq_int (h _ Z)
theorem strs_allR : ∀ {vs : List Value} {ss : List Str}, StrsAre vs ss → AllR (fun x v => ∃ t, v = .str x t) ss vs
  | _, _, .nil => trivial
  | _, _, .cons y t h => ⟨⟨t, rfl⟩, strs_allR h⟩

/-- the world and what is due, shape 0 -/
theorem world0_ok {i : Nat} {ti : Tok} {t : Tr} {tv nv : Value} {o1 o4 : Obj} {v4 : Option Value} {mu0 : List Ent} {Q : Flow → Shared → Prop} {body : List Stmt} (hbody : body = lawFor 0) (Z : Sit w z H ((L + 4, o4) :: mu0) nw L m s) (d4 : o4.data = .cell v4) (rm : Room A 300) (hi : i < 16)
    (m1 : m "number" = some (.int i ti)) (m2 : m "tree" = some tv) (ht : TrR nw t tv) (ht3 : cnT t ≤ 3) (h1 : (L + 1, o1) ∈ nw) (d1 : o1.data = .cell (some nv)) (hn : StrsL nw (nmS 0) nv)
    (h : ∀ b1 b2 b3 o4' wv nw' s', Le nw nw' → o4'.data = .cell (some wv) → WorldR w nw' (f3 b1 b2 b3) wv → Sit w z H ((L + 4, o4') :: mu0) nw' L (fun y => if y = "due" then some (.bool (due0 t (Vof (f3 b1 b2 b3)))) else m y) s' → Q .next s') :
    wpAny (Md w) A (execs body (lawE L)) Q E s := by
  have hh := rm.2.2
  have hu : A.units + 1 < cLine := by have := rm.2.1; show _ < 9900; omega
  refine x_seqD (hbody.trans rfl) ?_
  refine x_asg ?_
  refine r_world3 (b1 := (i : Int).fmod 2 == 1) (b2 := ((i : Int).fdiv 2).fmod 2 == 1) (b3 := (i : Int).fdiv 4 == 1) Z (by omega) (fun Z hq => bitA Z m1 hq) (fun Z hq => bitB Z m1 (by omega) (by decide) hq) (fun Z hq => bitC Z m1 (by omega) (by decide) hq) fun wv nw2 s2 le2 Z2 hw => ?_
  generalize ((i : Int).fmod 2 == 1) = b1 at hw
  generalize (((i : Int).fdiv 2).fmod 2 == 1) = b2 at hw
  generalize ((i : Int).fdiv 4 == 1) = b3 at hw
  refine r_storeC Z2 d4 fun o4' s3 d4' Z3 => ?_
  show wpAny _ _ (execs _ _) _ _ _
  refine x_seq ?_
  refine x_asg ?_
  refine r_callN Z3 (n1242 w) (kp1242 w) ?_
  refine sp_cons ?_
  refine r_loc Z3 m2 ?_
  refine sp_cons ?_
  obtain ⟨nl, nvs, nk, rfl, hnl, hns⟩ := hn.mono le2
  refine r_map (R := fun _ (x : Str) v => ∃ t, v = .str x t) (R' := fun _ (b : Bool) v => v = .bool b) (g := fun x => Vof (f3 b1 b2 b3) "dog" (.inl x)) Z3 hh (as := nmS 0) ⟨nl, nvs, nk, rfl, hnl, strs_allR hns⟩ (by decide) (fun le x => x) (fun le x => x) (fun hq => r_cellE Z3 rfl (List.mem_append_right _ (le2 _ h1)) d1 (hq _ Z3)) ?_ ?_
  · rintro x v C cm mu' nw' s' E' Q' hx ⟨tx, rfl⟩ le hmu Z' hq
    refine r_worldsub (z := z) (H := H) (L := C) hu ?_
    refine r_cellE Z' rfl (List.mem_append_left _ (hmu _ (.head _))) d4' ?_
    refine r_str Z' fun t1 s4 Z4 => ?_
    refine r_loc Z4 (if_pos rfl) ?_
    have hf : f3 b1 b2 b3 "dog" (.inl x) = some (Vof (f3 b1 b2 b3) "dog" (.inl x)) := by
      simp only [nmS, List.mem_cons, List.not_mem_nil, or_false] at hx
      rcases hx with rfl | rfl | rfl <;> rfl
    exact ⟨_, _, _, _, t1, .inl x, _, _, Z4, hw.mono le, rfl, by simp [isTh, Value.isStrOf], hf, fun nwA sA leA ZA => hq _ _ _ leA ZA rfl⟩
  · intro av nw4 s4 le4 Z4 hav
    refine sp_nil ⟨Z4.K, ?_⟩
    refine true_ok w z H (fun k => Vof (f3 b1 b2 b3) "dog" (.inl (nth (nmS 0) k))) t Z4 (rm.le (by omega)) ((ht.mono le2).mono le4) hav fun nw5 s5 le5 Z5 => ?_
    refine r_store Z5 fun s6 Z6 => ?_
    show wpAny _ _ (execs [] _) _ _ _
    exact wpAny_execs_nil (h b1 b2 b3 o4' wv _ _ (le2.trans (le4.trans le5)) d4' (hw.mono (le4.trans le5)) Z6)

/-- PLACE[NAMES[K]] -/
theorem r_placesub {pv nv : Value} {i j : Int} {px p1 p2 pn pk : Pos} {c c2 : Addr} {o o2 : Obj} {ss : List Str} {k : Nat} {t : Tok} {kx : Str} {Q : Value → Shared → Prop} (Z : Sit w z H mu nw L m s) (hm : (c, o) ∈ mu ++ nw) (hd : o.data = .cell (some pv)) (hp : PlaceR w nw i j pv)
    (hm2 : (c2, o2) ∈ mu ++ nw) (hd2 : o2.data = .cell (some nv)) (hn : StrsL nw ss nv) (hk : k < ss.length) (hi : m kx = some (.int k t)) (hxy : nth ss k = "x" ∨ nth ss k = "y")
    (h : ∀ v s', Sit w z H mu nw L m s' → isTh (.inr (if nth ss k = "x" then i else j)) v = true → Q v s')
    (hc : env.cells.lookup ("place" : Str) = some c := by rfl) (hc2 : env.cells.lookup ("names" : Str) = some c2 := by rfl)
    (hkk : env.scope.kind = .function := by rfl) (hx : env.kindOf "place" = some .cell := by rfl) (hx2 : env.kindOf "names" = some .cell := by rfl) (hke : EnvOk env L := by exact ⟨rfl, rfl, rfl, rfl⟩) (hxi : env.kindOf kx = some .local := by rfl) (hbi : (kx == ("__debug__" : Str)) = false := by decide) (hk2 : k < 1000 := by omega) :
    wpAny (Md w) A (eval (.Subscript (.Name "place" px) (.Subscript (.Name "names" pn) (.Name kx pk) p1) p2) env) Q E s := by
  refine r_subS ?_
  refine r_cellE Z hc hm hd ?_ hkk hx
  refine r_cellitem Z hm2 hd2 hn hk hi (fun u1 => ?_) hc2 hkk hx2 (by decide) hke hxi hbi hk2
  obtain ⟨d, od, es, ep, t1, t2, rfl, hdm, hx1, hdat, hkeys, hprs⟩ := hp
  have hD : s.heap.DictOf (strKind PW w) d [("x", .int i t1), ("y", .int j t2)] := ⟨od, es, ep, Z.get hdm, hx1, hdat, hkeys, hprs, (show (["x", "y"] : List Str).Nodup by decide)⟩
  refine ⟨"dict", _, slot_dict_getitem.lookup, hD.mapOf.typeIs, ?_⟩
  rcases hxy with e | e
  · rw [e] at h ⊢
    refine wpAny_getItem_of (knd := strKind PW w) (k := "x") (strKind_is _ _ _ _) hD.mapOf (v := .int i t1) rfl (h _ _ (Z.toks _) ?_)
    simp [isTh, Value.isInt]
  · rw [e] at h ⊢
    refine wpAny_getItem_of (knd := strKind PW w) (k := "y") (strKind_is _ _ _ _) hD.mapOf (v := .int j t2) rfl (h _ _ (Z.toks _) ?_)
    rw [if_neg (by decide)]
    simp [isTh, Value.isInt]
theorem plc_in {n : Str} {p : Nat} (hp : p < 4) : plc n p = 0 ∨ plc n p = 1 := by
  unfold plc
  have : p = 0 ∨ p = 1 ∨ p = 2 ∨ p = 3 := by omega
  rcases this with rfl | rfl | rfl | rfl <;> split <;> decide
theorem nm_in {sh k : Nat} (h : sh < 4) (h0 : sh ≠ 0) (hk : k < 3) : nth (nmS sh) k = "x" ∨ nth (nmS sh) k = "y" := by
  have : (List.range 4).all (fun sh => sh == 0 || (List.range 3).all fun k => nth (nmS sh) k == "x" || nth (nmS sh) k == "y") = true := by decide +kernel
  have h1 := List.all_eq_true.mp this sh (List.mem_range.mpr h)
  rw [Bool.or_eq_true] at h1
  rcases h1 with h1 | h1
  · exact absurd (by simpa using h1) h0
  · have h2 := List.all_eq_true.mp h1 k (List.mem_range.mpr hk)
    simpa using h2
theorem wd_in {sh k : Nat} (h : sh < 4) (hk : k < 3) : nth (wdS sh) k = "dog" ∨ nth (wdS sh) k = "old" := by
  have : (List.range 4).all (fun sh => (List.range 3).all fun k => nth (wdS sh) k == "dog" || nth (wdS sh) k == "old") = true := by decide +kernel
  have h1 := List.all_eq_true.mp this sh (List.mem_range.mpr h)
  have h2 := List.all_eq_true.mp h1 k (List.mem_range.mpr hk)
  simpa using h2
theorem f4_some {b1 b2 b3 b4 : Bool} {x : Str} {i : Int} (hx : x = "dog" ∨ x = "old") (hi : i = 0 ∨ i = 1) : f4 b1 b2 b3 b4 x (.inr i) = some (Vof (f4 b1 b2 b3 b4) x (.inr i)) := by
  rcases hx with rfl | rfl <;> rcases hi with rfl | rfl <;> rfl

/-- the world and what is due, the other shapes -/
theorem world1_ok {sh i : Nat} {ti : Tok} {t : Tr} {tv nv wdv : Value} {o1 o2 o4 o5 : Obj} {v4 v5 : Option Value} {mu0 : List Ent} {Q : Flow → Shared → Prop} {body : List Stmt} (hbody : body = lawFor 1) (Z : Sit w z H ((L + 4, o4) :: (L + 5, o5) :: mu0) nw L m s) (d4 : o4.data = .cell v4) (d5 : o5.data = .cell v5) (rm : Room A 300) (hi : i < 16) (hsh : sh < 4) (h0 : sh ≠ 0)
    (m1 : m "number" = some (.int i ti)) (m2 : m "tree" = some tv) (ht : TrR nw t tv) (ht3 : cnT t ≤ 3) (h1 : (L + 1, o1) ∈ nw) (d1 : o1.data = .cell (some nv)) (hn : StrsL nw (nmS sh) nv) (h2 : (L + 2, o2) ∈ nw) (d2 : o2.data = .cell (some wdv)) (hwd : StrsL nw (wdS sh) wdv)
    (h : ∀ b1 b2 b3 b4 o4' o5' v5' wv nw' m' s', Le nw nw' → o4'.data = .cell (some wv) → o5'.data = .cell v5' → WorldR w nw' (f4 b1 b2 b3 b4) wv → m' "due" = some (.bool ((List.range 4).all (due1 sh t (Vof (f4 b1 b2 b3 b4))))) → (∀ y : Str, y ≠ "due" → y ≠ "pick" → m' y = m y) → Sit w z H ((L + 4, o4') :: (L + 5, o5') :: mu0) nw' L m' s' → Q .next s') :
    wpAny (Md w) A (execs body (lawE L)) Q E s := by
  have hh := rm.2.2
  have hu : A.units + 1 < cLine := by have := rm.2.1; show _ < 9900; omega
  refine x_seqD (hbody.trans rfl) ?_
  refine x_asg ?_
  refine r_world4 (b1 := (i : Int).fmod 2 == 1) (b2 := ((i : Int).fdiv 2).fmod 2 == 1) (b3 := ((i : Int).fdiv 4).fmod 2 == 1) (b4 := (i : Int).fdiv 8 == 1) Z (by omega) (fun Z hq => bitA Z m1 hq) (fun Z hq => bitB Z m1 (by omega) (by decide) hq) (fun Z hq => bitB Z m1 (by omega) (by decide) hq) (fun Z hq => bitC Z m1 (by omega) (by decide) hq) fun wv nw2 s2 le2 Z2 hw => ?_
  generalize ((i : Int).fmod 2 == 1) = b1 at hw
  generalize (((i : Int).fdiv 2).fmod 2 == 1) = b2 at hw
  generalize (((i : Int).fdiv 4).fmod 2 == 1) = b3 at hw
  generalize ((i : Int).fdiv 8 == 1) = b4 at hw
  refine r_storeC Z2 d4 fun o4' s3 d4' Z3 => ?_
  show wpAny _ _ (execs _ _) _ _ _
  refine x_seq (x_asg (wpAny_Constant_bool (r_store Z3 fun s4 Z4 => ?_)))
  show wpAny _ _ (execs _ _) _ _ _
  refine x_seq ?_
  refine x_forR Z4 ?_
  refine r_int Z4 fun t4 s5 Z5 => ?_
  refine ⟨4, t4, _, _, _, rfl, by decide, Z5, hh, fun (p : Nat) mu' nw' m' => ∃ (o5' : Obj) (v5' : Option Value), mu' = (L + 4, o4') :: (L + 5, o5') :: mu0 ∧ o5'.data = .cell v5' ∧ m' "due" = some (.bool ((List.range p).all (due1 sh t (Vof (f4 b1 b2 b3 b4))))) ∧ (∀ y : Str, y ≠ "due" → y ≠ "pick" → m' y = m y),
    fun nw' le => ⟨o5, v5, rfl, d5, if_pos rfl, fun y h1 h2 => if_neg h1⟩, ?_, ?_⟩
  · rintro q p tp mu' nw6 m6 s6 E6 hp ⟨o5', v5', rfl, d5', hdue, hm6⟩ le6 Z6
    refine x_seq ?_
    refine x_asg ?_
    refine r_place (i := (p : Int).fmod 2) (j := (p : Int).fdiv 2) Z6 ?_ ?_ ?_
    · intro mu s Q' Z hq
      exact wpAny_BinOp (r_loc Z (if_pos rfl) (r_int Z fun t s Z => PyProof.Rows.mod_int (by decide) (hq _ _ (Z.toks _))))
    · intro mu s Q' Z hq
      exact wpAny_BinOp (r_loc Z (if_pos rfl) (r_int Z fun t s Z => PyProof.Rows.floordiv_int (by decide) (hq _ _ (Z.toks _)) (.inl (PyProof.noPylong_small (by omega)))))
    · intro pv nw7 s7 le7 Z7 hpl
      have Z8 := Z7.perm (mu' := (L + 5, o5') :: q :: (L + 4, o4') :: mu0) (List.perm_middle (l₁ := [q, (L + 4, o4')]) (l₂ := mu0))
      refine r_storeC Z8 d5' fun o5a s9 d5a Z9 => ?_
      show wpAny _ _ (execs _ _) _ _ _
      refine x_seq ?_
      refine x_asg ?_
      refine BoolOp_and ?_
      refine r_loc Z9 (by exact hdue) (wpAny_truthy_bool ?_)
      have fin : ∀ nwA sA bA, Le nw7 nwA → bA = (List.range (p + 1)).all (due1 sh t (Vof (f4 b1 b2 b3 b4))) → Sit w z H ((L + 5, o5a) :: q :: (L + 4, o4') :: mu0) nwA L (fun y => if y = "due" then some (.bool bA) else if y = "pick" then some (.int p tp) else m6 y) sA →
          ∃ mu₂ nw₂ m₂, (∃ (o5' : Obj) (v5' : Option Value), mu₂ = (L + 4, o4') :: (L + 5, o5') :: mu0 ∧ o5'.data = .cell v5' ∧ m₂ "due" = some (.bool ((List.range (p + 1)).all (due1 sh t (Vof (f4 b1 b2 b3 b4))))) ∧ (∀ y : Str, y ≠ "due" → y ≠ "pick" → m₂ y = m y)) ∧ Le nw6 nw₂ ∧ Sit w z H (q :: mu₂) nw₂ L m₂ sA := by
        rintro nwA sA bA leA rfl ZA
        exact ⟨_, nwA, _, ⟨o5a, _, rfl, d5a, if_pos rfl, fun y h1 h2 => (if_neg h1).trans ((if_neg h2).trans (hm6 y h1 h2))⟩, le7.trans leA, ZA.perm (List.perm_middle (l₁ := [q, (L + 4, o4')]) (l₂ := mu0)).symm⟩
      have hsucc : (List.range (p + 1)).all (due1 sh t (Vof (f4 b1 b2 b3 b4))) = ((List.range p).all (due1 sh t (Vof (f4 b1 b2 b3 b4))) && due1 sh t (Vof (f4 b1 b2 b3 b4)) p) := by
        rw [List.range_succ, List.all_append]; simp
      cases hg : (List.range p).all (due1 sh t (Vof (f4 b1 b2 b3 b4))) with
      | false =>
        rw [hg] at hsucc
        show wpAny _ _ (storeName _ _ _) _ _ _
        refine r_store Z9 fun sA ZA => ?_
        show wpAny _ _ (execs [] _) _ _ _
        exact wpAny_execs_nil (let ⟨a1, a2, a3, a4, a5, a6⟩ := fin _ _ _ (Le.refl _) (by rw [hsucc]; rfl) ZA; ⟨a1, a2, a3, a4, a5, a6⟩)
      | true =>
        rw [hg] at hsucc
        show wpAny _ _ (eval (.BoolOp .And [_] _) _) _ _ _
        refine BoolOp_one ?_
        refine r_callN Z9 (n1242 w) (kp1242 w) ?_
        refine sp_cons ?_
        refine r_loc Z9 (by exact (hm6 _ (by decide) (by decide)).trans m2) ?_
        refine sp_cons ?_
        have leB := le2.trans (le6.trans le7)
        refine r_mapR (R' := fun _ (b : Bool) v => v = .bool b) (g := fun k => Vof (f4 b1 b2 b3 b4) (nth (wdS sh) k) (.inr (plc (nth (nmS sh) k) p))) (n := 3) Z9 hh (by decide) (fun le x => x) ?_ ?_
        · intro k tk C cm mu' nw' s' E' Q' hk3 le hmu Z' hq
          refine r_worldsub (z := z) (H := H) (L := C) hu ?_
          refine r_cellE Z' rfl (List.mem_append_left _ (hmu _ (.tail _ (.tail _ (.head _))))) d4' ?_
          refine r_cellitem Z' (List.mem_append_right _ (le _ (leB _ h2))) d2 (hwd.mono (leB.trans le)) (by rw [len_wd]; exact hk3) (if_pos rfl) fun u1 => ?_
          refine r_placesub Z' (List.mem_append_left _ (hmu _ (.head _))) d5a (hpl.mono le) (List.mem_append_right _ (le _ (leB _ h1))) d1 (hn.mono (leB.trans le)) (by rw [len_nm]; exact hk3) (if_pos rfl) (nm_in hsh h0 hk3) fun v sB ZB hth => ?_
          have hpi := plc_in (n := nth (nmS sh) k) hp
          unfold plc at hpi
          refine ⟨_, _, _, _, u1, .inr (if nth (nmS sh) k = "x" then (p : Int).fmod 2 else (p : Int).fdiv 2), _, _, ZB, ((hw.mono (le6.trans le7)).mono le), rfl, hth, f4_some (wd_in hsh hk3) hpi, fun nwA sA leA ZA => hq _ _ _ leA ZA ?_⟩
          unfold plc
          rfl
        · intro av nwC sC leC ZC hav
          refine sp_nil ⟨ZC.K, ?_⟩
          refine true_ok w z H (fun k => Vof (f4 b1 b2 b3 b4) (nth (wdS sh) k) (.inr (plc (nth (nmS sh) k) p))) t ZC (rm.le (by omega)) ((ht.mono leB).mono leC) hav fun nwD sD leD ZD => ?_
          refine r_store ZD fun sA ZA => ?_
          show wpAny _ _ (execs [] _) _ _ _
          exact wpAny_execs_nil (let ⟨a1, a2, a3, a4, a5, a6⟩ := fin _ _ _ (leC.trans leD) (by rw [hsucc]; rfl) ZA; ⟨a1, a2, a3, a4, a5, a6⟩)
  · rintro mu' nw6 m6 s6 ⟨o5', v5', rfl, d5', hdue, hm6⟩ le6 Z6
    show wpAny _ _ (execs [] _) _ _ _
    exact wpAny_execs_nil (h b1 b2 b3 b4 o4' o5' v5' wv nw6 m6 s6 (le2.trans le6) d4' d5' (hw.mono le6) hdue hm6 Z6)
end
end Mine
end

section
open PySem PySem.W PySem.Spec PySem.Calls PyProof.Rows
set_option Elab.async false
set_option maxRecDepth 100000
namespace Mine
set_option linter.unusedVariables false
set_option maxHeartbeats 400000
/-- a row's word and name, as a shape has them -/
noncomputable def rowOk (sh : Nat) (r : Row3) : Prop := if sh = 0 then r.2.1 = "dog" ∧ (r.2.2 = "rex" ∨ r.2.2 = "tom" ∨ r.2.2 = "ann") else (r.2.1 = "dog" ∨ r.2.1 = "old") ∧ isC r.2.2 = false
theorem isC_of {n : Str} (h : n = "rex" ∨ n = "tom" ∨ n = "ann") : isC n = true := by rcases h with rfl | rfl | rfl <;> decide
theorem f3_row {sh : Nat} {b1 b2 b3 : Bool} {r : Row3} (h : rowOk sh r) (h0 : sh = 0) : (isC r.2.2 = true → f3 b1 b2 b3 r.2.1 (.inl r.2.2) = some (Vof (f3 b1 b2 b3) r.2.1 (.inl r.2.2))) ∧ (isC r.2.2 = false → ∀ i : Int, i = 0 ∨ i = 1 → f3 b1 b2 b3 r.2.1 (.inr i) = some (Vof (f3 b1 b2 b3) r.2.1 (.inr i))) := by
  unfold rowOk at h
  rw [if_pos h0] at h
  obtain ⟨e, hn⟩ := h
  constructor
  · intro _
    rw [e]
    rcases hn with e | e | e <;> rw [e] <;> rfl
  · intro hc
    rw [isC_of hn] at hc; cases hc
theorem f4_row {sh : Nat} {b1 b2 b3 b4 : Bool} {r : Row3} (h : rowOk sh r) (h0 : sh ≠ 0) : (isC r.2.2 = true → f4 b1 b2 b3 b4 r.2.1 (.inl r.2.2) = some (Vof (f4 b1 b2 b3 b4) r.2.1 (.inl r.2.2))) ∧ (isC r.2.2 = false → ∀ i : Int, i = 0 ∨ i = 1 → f4 b1 b2 b3 b4 r.2.1 (.inr i) = some (Vof (f4 b1 b2 b3 b4) r.2.1 (.inr i))) := by
  unfold rowOk at h
  rw [if_neg h0] at h
  obtain ⟨e, hn⟩ := h
  constructor
  · intro hc
    rw [hn] at hc; cases hc
  · intro _ i hi
    exact f4_some e hi
section
variable {w : World} {z : Shared} {H : Heap} {mu nw : List Ent} {L a : Addr} {m : Str → Option Value} {s : Shared} {A : Around} {E : Value → Shared → Prop} {B d : Nat} {env : Env}
noncomputable abbrev lawFor0 : List Stmt := match sAt 51 with | .FunctionDef _ _ b .. => (match b.drop 12 with | .For _ _ l _ _ :: _ => l | _ => []) | _ => []
theorem body0_ok {sh i : Nat} {ts ti : Tok} {t : Tr} {tv nv rv : Value} {RS : List (List Row3)} {o1 o4 : Obj} {v4 : Option Value} {mu0 : List Ent} {Q : Flow → Shared → Prop} {body : List Stmt} (hbody : body = lawFor0) (Z : Sit w z H ((L + 4, o4) :: mu0) nw L m s) (d4 : o4.data = .cell v4) (rm : Room A 300) (h0 : sh = 0) (hi : i < 16)
    (m0 : m "number" = some (.int i ti)) (m1 : m "shape" = some (.int (sh : Nat) ts)) (m2 : m "tree" = some tv) (m3 : m "rows" = some rv) (hr : RowsL nw RS rv) (ht : TrR nw t tv) (ht3 : cnT t ≤ 3) (h1 : (L + 1, o1) ∈ nw) (d1 : o1.data = .cell (some nv)) (hn : StrsL nw (nmS 0) nv)
    (hlen : RS.length ≤ 50) (hrow : ∀ rs ∈ RS, rs.length ≤ 19) (hrw : ∀ rs ∈ RS, ∀ r ∈ rs, rowOk sh r) (hlaw : ∀ V, due0 t V = RS.all (clB V))
    (h : ∀ o4' v4' nw' m' s', Le nw nw' → o4'.data = .cell v4' → (∀ y : Str, y ≠ "due" → y ≠ "pick" → m' y = m y) → Sit w z H ((L + 4, o4') :: mu0) nw' L m' s' → Q .next s') :
    wpAny (Md w) A (execs body (lawE L)) Q E s := by
  refine x_seqD (hbody.trans rfl) ?_
  refine wpAny_If (wpAny_isTrue_Compare1 (r_loc Z m1 (r_int Z fun tj s3 Z3 => P.eq_int (wpAny_truthy_bool ?_))))
  have e0 : ((sh : Int) == 0) = true := by rw [h0]; rfl
  rw [e0]
  have fin : ∀ b1 b2 b3 o4' wv nw' s', Le nw nw' → o4'.data = .cell (some wv) → WorldR w nw' (f3 b1 b2 b3) wv → Sit w z H ((L + 4, o4') :: mu0) nw' L (fun y => if y = "due" then some (.bool (due0 t (Vof (f3 b1 b2 b3)))) else m y) s' → ∀ rest, rest = lawFor3 → wpAny (Md w) A (execs rest (lawE L)) Q E s' := by
    intro b1 b2 b3 o4' wv nw5 s5 le5 d4' hw Z5 rest hrest
    have g3 : (fun y => if y = "due" then some (.bool (due0 t (Vof (f3 b1 b2 b3)))) else m y) "rows" = some rv := (if_neg (by decide)).trans m3
    refine due_ok (RS := RS) hrest Z5 rm (if_pos rfl) g3 (hr.mono le5) (.head _) d4' hw hlen hrow (fun rs hrs r hr => f3_row (hrw rs hrs r hr) h0) (hlaw _) fun nw6 s6 le6 Z6 => ?_
    exact h _ _ _ _ _ (le5.trans le6) d4' (fun y h1 h2 => if_neg h1) Z6
  have w0 := fun (Q' : Flow → Shared → Prop) (E' : Value → Shared → Prop) (hq : ∀ b1 b2 b3 o4' wv nw' s', Le nw nw' → o4'.data = .cell (some wv) → WorldR w nw' (f3 b1 b2 b3) wv → Sit w z H ((L + 4, o4') :: mu0) nw' L (fun y => if y = "due" then some (.bool (due0 t (Vof (f3 b1 b2 b3)))) else m y) s' → Q' .next s') body hb => world0_ok (E := E') (body := body) hb Z3 d4 rm hi m0 m2 ht ht3 h1 d1 hn hq
  show wpAny _ _ (execs (_ :: _) _) _ _ _
  refine w0 _ _ (fun b1 b2 b3 o4' wv nw5 s5 le5 d4' hw Z5 => ?_) _ ?_
  · have h9 := fin b1 b2 b3 o4' wv nw5 s5 le5 d4' hw Z5
    refine h9 _ ?_
    exact rfl
  · exact rfl
theorem body1_ok {sh i : Nat} {ts ti : Tok} {t : Tr} {tv nv wdv rv : Value} {RS : List (List Row3)} {o1 o2 o4 o5 : Obj} {v4 v5 : Option Value} {mu0 : List Ent} {Q : Flow → Shared → Prop} {body : List Stmt} (hbody : body = lawFor0) (Z : Sit w z H ((L + 4, o4) :: (L + 5, o5) :: mu0) nw L m s) (d4 : o4.data = .cell v4) (d5 : o5.data = .cell v5) (rm : Room A 300) (hsh : sh < 4) (h0 : sh ≠ 0) (hi : i < 16)
    (m0 : m "number" = some (.int i ti)) (m1 : m "shape" = some (.int (sh : Nat) ts)) (m2 : m "tree" = some tv) (m3 : m "rows" = some rv) (hr : RowsL nw RS rv) (ht : TrR nw t tv) (ht3 : cnT t ≤ 3) (h1 : (L + 1, o1) ∈ nw) (d1 : o1.data = .cell (some nv)) (hn : StrsL nw (nmS sh) nv) (h2 : (L + 2, o2) ∈ nw) (d2 : o2.data = .cell (some wdv)) (hwd : StrsL nw (wdS sh) wdv)
    (hlen : RS.length ≤ 50) (hrow : ∀ rs ∈ RS, rs.length ≤ 19) (hrw : ∀ rs ∈ RS, ∀ r ∈ rs, rowOk sh r) (hlaw : ∀ V, (List.range 4).all (due1 sh t V) = RS.all (clB V))
    (h : ∀ o4' o5' v4' v5' nw' m' s', Le nw nw' → o4'.data = .cell v4' → o5'.data = .cell v5' → (∀ y : Str, y ≠ "due" → y ≠ "pick" → m' y = m y) → Sit w z H ((L + 4, o4') :: (L + 5, o5') :: mu0) nw' L m' s' → Q .next s') :
    wpAny (Md w) A (execs body (lawE L)) Q E s := by
  refine x_seqD (hbody.trans rfl) ?_
  refine wpAny_If (wpAny_isTrue_Compare1 (r_loc Z m1 (r_int Z fun tj s3 Z3 => P.eq_int (wpAny_truthy_bool ?_))))
  have e0 : ((sh : Int) == 0) = false := by simp; omega
  rw [e0]
  have fin : ∀ b1 b2 b3 b4 o4' o5' v5' wv nw' m' s', Le nw nw' → o4'.data = .cell (some wv) → o5'.data = .cell v5' → WorldR w nw' (f4 b1 b2 b3 b4) wv → m' "due" = some (.bool ((List.range 4).all (due1 sh t (Vof (f4 b1 b2 b3 b4))))) → (∀ y : Str, y ≠ "due" → y ≠ "pick" → m' y = m y) → Sit w z H ((L + 4, o4') :: (L + 5, o5') :: mu0) nw' L m' s' → ∀ rest, rest = lawFor3 → wpAny (Md w) A (execs rest (lawE L)) Q E s' := by
    intro b1 b2 b3 b4 o4' o5' v5' wv nw5 m5 s5 le5 d4' d5' hw hdue hm5 Z5 rest hrest
    have g3 : m5 "rows" = some rv := (hm5 _ (by decide) (by decide)).trans m3
    refine due_ok (RS := RS) hrest Z5 rm hdue g3 (hr.mono le5) (.head _) d4' hw hlen hrow (fun rs hrs r hr => f4_row (hrw rs hrs r hr) h0) (hlaw _) fun nw6 s6 le6 Z6 => ?_
    exact h _ _ _ _ _ _ _ (le5.trans le6) d4' d5' hm5 Z6
  have w0 := fun (Q' : Flow → Shared → Prop) (E' : Value → Shared → Prop) (hq : ∀ b1 b2 b3 b4 o4' o5' v5' wv nw' m' s', Le nw nw' → o4'.data = .cell (some wv) → o5'.data = .cell v5' → WorldR w nw' (f4 b1 b2 b3 b4) wv → m' "due" = some (.bool ((List.range 4).all (due1 sh t (Vof (f4 b1 b2 b3 b4))))) → (∀ y : Str, y ≠ "due" → y ≠ "pick" → m' y = m y) → Sit w z H ((L + 4, o4') :: (L + 5, o5') :: mu0) nw' L m' s' → Q' .next s') body hb => world1_ok (E := E') (body := body) hb Z3 d4 d5 rm hi hsh h0 m0 m2 ht ht3 h1 d1 hn h2 d2 hwd hq
  show wpAny _ _ (execs (_ :: _) _) _ _ _
  refine w0 _ _ (fun b1 b2 b3 b4 o4' o5' v5' wv nw5 m5 s5 le5 d4' d5' hw hdue hm5 Z5 => ?_) _ ?_
  · have h9 := fin b1 b2 b3 b4 o4' o5' v5' wv nw5 m5 s5 le5 d4' d5' hw hdue hm5 Z5
    refine h9 _ ?_
    exact rfl
  · exact rfl

theorem lawL_ok {sh : Nat} {ts : Tok} {t : Tr} {tv nv wdv rv : Value} {RS : List (List Row3)} {o1 o2 o4 o5 : Obj} {v4 v5 : Option Value} {Q : Flow → Shared → Prop} {body : List Stmt} (hbody : body = lawB.drop 12) (Z : Sit w z H [(L + 5, o5), (L + 4, o4)] nw L m s) (d4 : o4.data = .cell v4) (d5 : o5.data = .cell v5) (rm : Room A 300) (hsh : sh < 4)
    (m1 : m "shape" = some (.int (sh : Nat) ts)) (m2 : m "tree" = some tv) (m3 : m "rows" = some rv) (hr : RowsL nw RS rv) (ht : TrR nw t tv) (ht3 : cnT t ≤ 3) (h1 : (L + 1, o1) ∈ nw) (d1 : o1.data = .cell (some nv)) (hn : StrsL nw (nmS sh) nv) (h2 : (L + 2, o2) ∈ nw) (d2 : o2.data = .cell (some wdv)) (hwd : StrsL nw (wdS sh) wdv)
    (hlen : RS.length ≤ 50) (hrow : ∀ rs ∈ RS, rs.length ≤ 19) (hrw : ∀ rs ∈ RS, ∀ r ∈ rs, rowOk sh r) (hlaw : ∀ V, dueT sh t V = RS.all (clB V))
    (h : ∀ mu' nw' m' s', Le nw nw' → Sit w z H mu' nw' L m' s' → Q (.ret (.bool true)) s') :
    wpAny (Md w) A (execs body (lawE L)) Q E s := by
  have hh := rm.2.2
  have loop : ∀ {p i ti nw2 mm s2 E2} {Q2 : Flow → Shared → Prop} {o4 o5 : Obj} {v4 v5 : Option Value}, i < 16 → o4.data = .cell v4 → o5.data = .cell v5 → mm "number" = some (.int (i : Nat) ti) → mm "shape" = some (.int (sh : Nat) ts) → mm "tree" = some tv → mm "rows" = some rv → Le nw nw2 → Sit w z H (p :: [(L + 5, o5), (L + 4, o4)]) nw2 L mm s2 →
      (∀ o4' o5' v4' v5' nw' m' s', Le nw2 nw' → o4'.data = .cell v4' → o5'.data = .cell v5' → (∀ y : Str, y ≠ "due" → y ≠ "pick" → m' y = mm y) → Sit w z H (p :: [(L + 5, o5'), (L + 4, o4')]) nw' L m' s' → Q2 .next s') → ∀ rest, rest = lawFor0 → wpAny (Md w) A (execs rest (lawE L)) Q2 E2 s2 := by
    intro p i ti nw2 mm s2 E2 Q2 o4 o5 v4 v5 hi d4 d5 c0 c1 c2 c3 le2 Z2 hq rest hrest
    by_cases h0 : sh = 0
    · have hlaw0 := hlaw
      have hn0 := hn
      rw [h0] at hlaw0 hn0
      have Z4 := Z2.perm (mu' := (L + 4, o4) :: p :: [(L + 5, o5)]) (List.perm_middle (l₁ := [p, (L + 5, o5)]) (l₂ := []))
      refine body0_ok hrest Z4 d4 rm h0 hi c0 c1 c2 c3 (hr.mono le2) (ht.mono le2) ht3 (le2 _ h1) d1 (hn0.mono le2) hlen hrow hrw hlaw0 fun o4' v4' nw' m' s' le d4' hm' Z5 => ?_
      exact hq o4' o5 v4' v5 nw' m' s' le d4' d5 hm' (Z5.perm (List.perm_middle (l₁ := [p, (L + 5, o5)]) (l₂ := [])).symm)
    · have hlaw1 : ∀ V, (List.range 4).all (due1 sh t V) = RS.all (clB V) := fun V => by have := hlaw V; unfold dueT at this; rw [if_neg h0] at this; exact this
      have Z4 := Z2.perm (mu' := (L + 4, o4) :: (L + 5, o5) :: [p]) ((List.perm_middle (l₁ := [p, (L + 5, o5)]) (l₂ := [])).trans (List.Perm.cons _ (List.Perm.swap _ _ _)))
      refine body1_ok hrest Z4 d4 d5 rm hsh h0 hi c0 c1 c2 c3 (hr.mono le2) (ht.mono le2) ht3 (le2 _ h1) d1 (hn.mono le2) (le2 _ h2) d2 (hwd.mono le2) hlen hrow hrw hlaw1 fun o4' o5' v4' v5' nw' m' s' le d4' d5' hm' Z5 => ?_
      exact hq o4' o5' v4' v5' nw' m' s' le d4' d5' hm' (Z5.perm ((List.perm_middle (l₁ := [p, (L + 5, o5')]) (l₂ := [])).trans (List.Perm.cons _ (List.Perm.swap _ _ _))).symm)
  refine x_seqD (hbody.trans rfl) ?_
  refine x_forR Z ?_
  refine wpAny_mono (Q := fun v s1 => ∃ (n : Nat) (tn : Tok), v = .int n tn ∧ n ≤ 16 ∧ Sit w z H [(L + 5, o5), (L + 4, o4)] nw L m s1) ?_ ?_ fun _ _ e => e
  · refine wpAny_IfExp (wpAny_isTrue_Compare1 (r_loc Z m1 (r_int Z fun ti s Z => P.eq_int (wpAny_truthy_bool ?_))))
    cases ((sh : Int) == 0) with
    | true =>
      show wpAny _ _ (eval (.Constant _ _ _) _) _ _ _
      exact r_int Z fun t s Z => ⟨8, t, rfl, by decide, Z⟩
    | false =>
      show wpAny _ _ (eval (.Constant _ _ _) _) _ _ _
      exact r_int Z fun t s Z => ⟨16, t, rfl, by decide, Z⟩
  · rintro v s1 ⟨n, tn, rfl, hn16, Z1⟩
    refine ⟨n, tn, _, _, _, rfl, by omega, Z1, hh, fun (i : Nat) mu' nw' m' => ∃ (o4 o5 : Obj) (v4 v5 : Option Value), mu' = [(L + 5, o5), (L + 4, o4)] ∧ o4.data = .cell v4 ∧ o5.data = .cell v5 ∧ m' "shape" = some (.int (sh : Nat) ts) ∧ m' "tree" = some tv ∧ m' "rows" = some rv, fun nw' le => ⟨o4, o5, v4, v5, rfl, d4, d5, m1, m2, m3⟩, ?_, ?_⟩
    · rintro p i ti mu' nw2 mm s2 E2 hi ⟨o4, o5, v4, v5, rfl, d4, d5, c1, c2, c3⟩ le2 Z2
      have i16 : i < 16 := Nat.lt_of_lt_of_le hi hn16
      obtain ⟨m9, hm9⟩ : ∃ m9 : Str → Option Value, m9 = upd mm "number" (Value.int (i : Nat) ti) := ⟨_, rfl⟩
      have g0 : m9 "number" = some (.int (i : Nat) ti) := by rw [hm9]; exact if_pos rfl
      have g1 : m9 "shape" = some (.int (sh : Nat) ts) := by rw [hm9]; exact (if_neg (by decide)).trans c1
      have g2 : m9 "tree" = some tv := by rw [hm9]; exact (if_neg (by decide)).trans c2
      have g3 : m9 "rows" = some rv := by rw [hm9]; exact (if_neg (by decide)).trans c3
      rw [← hm9] at Z2
      have w0 := fun (Q' : Flow → Shared → Prop) (E' : Value → Shared → Prop) hq body hb => loop (Q2 := Q') (E2 := E') i16 d4 d5 g0 g1 g2 g3 le2 Z2 hq body hb
      refine w0 _ _ (fun o4' o5' v4' v5' nw5 m5 s5 le5 d4' d5' hm5 Z5 => ?_) _ ?_
      · exact ⟨[(L + 5, o5'), (L + 4, o4')], nw5, m5, ⟨o4', o5', v4', v5', rfl, d4', d5', (hm5 _ (by decide) (by decide)).trans g1, (hm5 _ (by decide) (by decide)).trans g2, (hm5 _ (by decide) (by decide)).trans g3⟩, le5, Z5⟩
      · exact rfl
    · rintro mu' nw2 mm s2 - le2 Z2
      show wpAny _ _ (execs _ _) _ _ _
      refine x_seq (wpAny_Return_some (wpAny_Constant_bool ?_))
      exact h _ _ _ _ le2 Z2
end
end Mine
end

section
open PySem PySem.W PySem.Spec PySem.Calls PyProof.Rows
set_option Elab.async false
set_option maxRecDepth 100000
namespace Mine
set_option linter.unusedVariables false
set_option maxHeartbeats 1000000
noncomputable def ev (U : Str → Str → Bool) : Fm → Bool
  | .app f a => U f a
  | .neg a => !ev U a
  | .and a b => ev U a && ev U b
  | .or a b => ev U a || ev U b
  | .imp a b => !ev U a || ev U b
  | .iff a b => ev U a == ev U b
  | _ => false
theorem ev_cnfR (U : Str → Str → Bool) (f : Fm) : ∀ g, ev U (cnfR f g) = (ev U f || ev U g)
  | .and a b => by simp only [cnfR, ev, ev_cnfR U f a, ev_cnfR U f b]; cases ev U f <;> simp
  | .app _ _ => rfl
  | .neg _ => rfl
  | .or _ _ => rfl
  | .imp _ _ => rfl
  | .iff _ _ => rfl
  | .all _ _ => rfl
  | .ex _ _ => rfl
theorem ev_cnf (U : Str → Str → Bool) : ∀ f g, ev U (cnf f g) = (ev U f || ev U g)
  | .and a b, g => by simp only [cnf, ev, ev_cnf U a g, ev_cnf U b g]; cases ev U g <;> simp
  | .app _ _, g => ev_cnfR U _ g
  | .neg _, g => ev_cnfR U _ g
  | .or _ _, g => ev_cnfR U _ g
  | .imp _ _, g => ev_cnfR U _ g
  | .iff _ _, g => ev_cnfR U _ g
  | .all _ _, g => ev_cnfR U _ g
  | .ex _ _, g => ev_cnfR U _ g
theorem ev_nf (U : Str → Str → Bool) : ∀ (f : Fm) (p : Bool), qf f = true → ev U (nf p f) = (ev U f == p)
  | .app f a, true, _ => by simp [nf, ev]
  | .app f a, false, _ => by simp [nf, ev]
  | .neg a, true, h => by
    have := ev_nf U a false h
    simp only [nf, ev, this]; cases ev U a <;> rfl
  | .neg a, false, h => by
    have := ev_nf U a true h
    simp only [nf, ev, this]; cases ev U a <;> rfl
  | .and a b, true, h => by
    simp only [qf, Bool.and_eq_true] at h
    simp only [nf, ev, ev_nf U a true h.1, ev_nf U b true h.2]; cases ev U a <;> cases ev U b <;> rfl
  | .and a b, false, h => by
    simp only [qf, Bool.and_eq_true] at h
    simp only [nf, ev, ev_cnf, ev_nf U a false h.1, ev_nf U b false h.2]; cases ev U a <;> cases ev U b <;> rfl
  | .or a b, true, h => by
    simp only [qf, Bool.and_eq_true] at h
    simp only [nf, ev, ev_cnf, ev_nf U a true h.1, ev_nf U b true h.2]; cases ev U a <;> cases ev U b <;> rfl
  | .or a b, false, h => by
    simp only [qf, Bool.and_eq_true] at h
    simp only [nf, ev, ev_nf U a false h.1, ev_nf U b false h.2]; cases ev U a <;> cases ev U b <;> rfl
  | .imp a b, true, h => by
    simp only [qf, Bool.and_eq_true] at h
    simp only [nf, ev, ev_cnf, ev_nf U a false h.1, ev_nf U b true h.2]; cases ev U a <;> cases ev U b <;> rfl
  | .imp a b, false, h => by
    simp only [qf, Bool.and_eq_true] at h
    simp only [nf, ev, ev_nf U a true h.1, ev_nf U b false h.2]; cases ev U a <;> cases ev U b <;> rfl
  | .iff a b, true, h => by
    simp only [qf, Bool.and_eq_true] at h
    simp only [nf, ev, ev_cnf, ev_nf U a true h.1, ev_nf U b true h.2, ev_nf U a false h.1, ev_nf U b false h.2]; cases ev U a <;> cases ev U b <;> rfl
  | .iff a b, false, h => by
    simp only [qf, Bool.and_eq_true] at h
    simp only [nf, ev, ev_cnf, ev_nf U a true h.1, ev_nf U b true h.2, ev_nf U a false h.1, ev_nf U b false h.2]; cases ev U a <;> cases ev U b <;> rfl
  | .all _ _, _, h => by cases h
  | .ex _ _, _, h => by cases h
theorem ev_lits (U : Str → Str → Bool) : ∀ f, (lits f).any (ev U) = ev U f
  | .or a b => by simp only [lits, List.any_append, ev, ev_lits U a, ev_lits U b]
  | .app _ _ => by simp [lits]
  | .neg _ => by simp [lits]
  | .and _ _ => by simp [lits]
  | .imp _ _ => by simp [lits]
  | .iff _ _ => by simp [lits]
  | .all _ _ => by simp [lits]
  | .ex _ _ => by simp [lits]
theorem ev_cls (U : Str → Str → Bool) : ∀ f, ((cls f).all fun c => c.any (ev U)) = ev U f
  | .and a b => by simp only [cls, List.all_append, ev, ev_cls U a, ev_cls U b]
  | .app _ _ => by simp only [cls, List.all_cons, List.all_nil, Bool.and_true, ev_lits]
  | .neg _ => by simp only [cls, List.all_cons, List.all_nil, Bool.and_true, ev_lits]
  | .or _ _ => by simp only [cls, List.all_cons, List.all_nil, Bool.and_true, ev_lits]
  | .imp _ _ => by simp only [cls, List.all_cons, List.all_nil, Bool.and_true, ev_lits]
  | .iff _ _ => by simp only [cls, List.all_cons, List.all_nil, Bool.and_true, ev_lits]
  | .all _ _ => by simp only [cls, List.all_cons, List.all_nil, Bool.and_true, ev_lits]
  | .ex _ _ => by simp only [cls, List.all_cons, List.all_nil, Bool.and_true, ev_lits]
theorem ev_fmT (U : Str → Str → Bool) (at_ : Nat → Fm) : ∀ t, ev U (fmT at_ t) = trT (fun k => ev U (at_ k)) t
  | .atom k => rfl
  | .not t => by simp only [fmT, trT, ev, ev_fmT U at_ t]
  | .bin 0 a b => by simp only [fmT, trT, ev, ev_fmT U at_ a, ev_fmT U at_ b]
  | .bin 1 a b => by simp only [fmT, trT, ev, ev_fmT U at_ a, ev_fmT U at_ b]
  | .bin 2 a b => by simp only [fmT, trT, ev, ev_fmT U at_ a, ev_fmT U at_ b]; exact Bool.or_comm _ _
  | .bin (n + 3) a b => by simp only [fmT, trT, ev, ev_fmT U at_ a, ev_fmT U at_ b]
noncomputable def allA (P : Str → Str → Prop) : Fm → Prop
  | .app f a => P f a
  | .neg a => allA P a
  | .and a b => allA P a ∧ allA P b
  | .or a b => allA P a ∧ allA P b
  | .imp a b => allA P a ∧ allA P b
  | .iff a b => allA P a ∧ allA P b
  | _ => True
theorem allA.mono {P P' : Str → Str → Prop} (h : ∀ w a, P w a → P' w a) : ∀ {f : Fm}, allA P f → allA P' f
  | .app _ _, x => h _ _ x
  | .neg a, x => allA.mono (f := a) h x
  | .and _ _, x => ⟨allA.mono h x.1, allA.mono h x.2⟩
  | .or _ _, x => ⟨allA.mono h x.1, allA.mono h x.2⟩
  | .imp _ _, x => ⟨allA.mono h x.1, allA.mono h x.2⟩
  | .iff _ _, x => ⟨allA.mono h x.1, allA.mono h x.2⟩
  | .all _ _, _ => trivial
  | .ex _ _, _ => trivial
theorem allA_cnfR {P : Str → Str → Prop} {f : Fm} (hf : allA P f) : ∀ {g : Fm}, allA P g → allA P (cnfR f g)
  | .and _ _, x => ⟨allA_cnfR hf x.1, allA_cnfR hf x.2⟩
  | .app _ _, x => ⟨hf, x⟩
  | .neg _, x => ⟨hf, x⟩
  | .or _ _, x => ⟨hf, x⟩
  | .imp _ _, x => ⟨hf, x⟩
  | .iff _ _, x => ⟨hf, x⟩
  | .all _ _, x => ⟨hf, x⟩
  | .ex _ _, x => ⟨hf, x⟩
theorem allA_cnf {P : Str → Str → Prop} : ∀ {f g : Fm}, allA P f → allA P g → allA P (cnf f g)
  | .and _ _, g, x, y => ⟨allA_cnf x.1 y, allA_cnf x.2 y⟩
  | .app _ _, g, x, y => allA_cnfR x y
  | .neg _, g, x, y => allA_cnfR x y
  | .or _ _, g, x, y => allA_cnfR x y
  | .imp _ _, g, x, y => allA_cnfR x y
  | .iff _ _, g, x, y => allA_cnfR x y
  | .all _ _, g, x, y => allA_cnfR x y
  | .ex _ _, g, x, y => allA_cnfR x y
theorem allA_nf {P : Str → Str → Prop} : ∀ {f : Fm} (p : Bool), allA P f → allA P (nf p f)
  | .app _ _, true, x => x
  | .app _ _, false, x => x
  | .neg a, true, x => allA_nf (f := a) false x
  | .neg a, false, x => allA_nf (f := a) true x
  | .and _ _, true, x => ⟨allA_nf _ x.1, allA_nf _ x.2⟩
  | .and _ _, false, x => allA_cnf (allA_nf _ x.1) (allA_nf _ x.2)
  | .or _ _, true, x => allA_cnf (allA_nf _ x.1) (allA_nf _ x.2)
  | .or _ _, false, x => ⟨allA_nf _ x.1, allA_nf _ x.2⟩
  | .imp _ _, true, x => allA_cnf (allA_nf _ x.1) (allA_nf _ x.2)
  | .imp _ _, false, x => ⟨allA_nf _ x.1, allA_nf _ x.2⟩
  | .iff _ _, true, x => ⟨allA_cnf (allA_nf _ x.1) (allA_nf _ x.2), allA_cnf (allA_nf _ x.1) (allA_nf _ x.2)⟩
  | .iff _ _, false, x => ⟨allA_cnf (allA_nf _ x.1) (allA_nf _ x.2), allA_cnf (allA_nf _ x.1) (allA_nf _ x.2)⟩
  | .all _ _, true, _ => trivial
  | .ex _ _, true, _ => trivial
  | .all _ _, false, _ => trivial
  | .ex _ _, false, _ => trivial
theorem allA_lits {P : Str → Str → Prop} : ∀ {f : Fm}, allA P f → ∀ g ∈ lits f, allA P g
  | .or a b, x, g, hg => by
    simp only [lits, List.mem_append] at hg
    exact hg.elim (fun h => allA_lits x.1 g h) fun h => allA_lits x.2 g h
  | .app _ _, x, g, hg => by cases List.mem_singleton.mp hg; exact x
  | .neg _, x, g, hg => by cases List.mem_singleton.mp hg; exact x
  | .and _ _, x, g, hg => by cases List.mem_singleton.mp hg; exact x
  | .imp _ _, x, g, hg => by cases List.mem_singleton.mp hg; exact x
  | .iff _ _, x, g, hg => by cases List.mem_singleton.mp hg; exact x
  | .all _ _, x, g, hg => by cases List.mem_singleton.mp hg; exact x
  | .ex _ _, x, g, hg => by cases List.mem_singleton.mp hg; exact x
theorem allA_cls {P : Str → Str → Prop} : ∀ {f : Fm}, allA P f → ∀ c ∈ cls f, ∀ g ∈ c, allA P g
  | .and a b, x, c, hc => by
    simp only [cls, List.mem_append] at hc
    exact hc.elim (fun h => allA_cls x.1 c h) fun h => allA_cls x.2 c h
  | .app _ _, x, c, hc => by cases List.mem_singleton.mp hc; exact allA_lits x
  | .neg _, x, c, hc => by cases List.mem_singleton.mp hc; exact allA_lits x
  | .or _ _, x, c, hc => by cases List.mem_singleton.mp hc; exact allA_lits x
  | .imp _ _, x, c, hc => by cases List.mem_singleton.mp hc; exact allA_lits x
  | .iff _ _, x, c, hc => by cases List.mem_singleton.mp hc; exact allA_lits x
  | .all _ _, x, c, hc => by cases List.mem_singleton.mp hc; exact allA_lits x
  | .ex _ _, x, c, hc => by cases List.mem_singleton.mp hc; exact allA_lits x
noncomputable def tk3 : Tr → Prop
  | .atom k => k < 3
  | .not t => tk3 t
  | .bin _ a b => tk3 a ∧ tk3 b
theorem allA_fmT {P : Str → Str → Prop} {at_ : Nat → Fm} (h : ∀ k, k < 3 → allA P (at_ k)) : ∀ {t : Tr}, tk3 t → allA P (fmT at_ t)
  | .atom k, x => h k x
  | .not t, x => allA_fmT (t := t) h x
  | .bin 0 _ _, x => ⟨allA_fmT h x.1, allA_fmT h x.2⟩
  | .bin 1 _ _, x => ⟨allA_fmT h x.1, allA_fmT h x.2⟩
  | .bin 2 _ _, x => ⟨allA_fmT h x.1, allA_fmT h x.2⟩
  | .bin (n + 3) _ _, x => ⟨allA_fmT h x.1, allA_fmT h x.2⟩
theorem qf_fmT {at_ : Nat → Fm} (h : ∀ k, qf (at_ k) = true) : ∀ (t : Tr), qf (fmT at_ t) = true
  | .atom k => h k
  | .not t => qf_fmT h t
  | .bin 0 a b => by simp only [fmT, qf, qf_fmT h a, qf_fmT h b, Bool.and_self]
  | .bin 1 a b => by simp only [fmT, qf, qf_fmT h a, qf_fmT h b, Bool.and_self]
  | .bin 2 a b => by simp only [fmT, qf, qf_fmT h a, qf_fmT h b, Bool.and_self]
  | .bin (n + 3) a b => by simp only [fmT, qf, qf_fmT h a, qf_fmT h b, Bool.and_self]
theorem okC_cnfR {f : Fm} (hf : okd f = true) : ∀ {g : Fm}, okC g = true → okC (cnfR f g) = true
  | .and a b, h => by
    simp only [okC, Bool.and_eq_true] at h
    simp only [cnfR, okC, okC_cnfR hf h.1, okC_cnfR hf h.2, Bool.and_self]
  | .app _ _, h => by simp only [cnfR, okC, okd, hf, Bool.and_self]
  | .neg a, h => by
    have h : okd (.neg a) = true := h
    show (okd f && okd (.neg a)) = true
    rw [hf, h]; rfl
  | .or a b, h => by
    have h : okd (.or a b) = true := h
    show (okd f && okd (.or a b)) = true
    rw [hf, h]; rfl
theorem okC_cnf : ∀ {f g : Fm}, okC f = true → okC g = true → okC (cnf f g) = true
  | .and a b, g, h, hg => by
    simp only [okC, Bool.and_eq_true] at h
    simp only [cnf, okC, okC_cnf h.1 hg, okC_cnf h.2 hg, Bool.and_self]
  | .app _ _, g, h, hg => okC_cnfR h hg
  | .neg _, g, h, hg => okC_cnfR h hg
  | .or _ _, g, h, hg => okC_cnfR h hg
theorem okC_nf : ∀ {f : Fm} (p : Bool), qf f = true → okC (nf p f) = true
  | .app _ _, true, _ => rfl
  | .app _ _, false, _ => rfl
  | .neg a, true, h => okC_nf (f := a) false h
  | .neg a, false, h => okC_nf (f := a) true h
  | .and a b, true, h => by simp only [qf, Bool.and_eq_true] at h; simp only [nf, okC, okC_nf _ h.1, okC_nf _ h.2, Bool.and_self]
  | .and a b, false, h => by simp only [qf, Bool.and_eq_true] at h; exact okC_cnf (okC_nf _ h.1) (okC_nf _ h.2)
  | .or a b, true, h => by simp only [qf, Bool.and_eq_true] at h; exact okC_cnf (okC_nf _ h.1) (okC_nf _ h.2)
  | .or a b, false, h => by simp only [qf, Bool.and_eq_true] at h; simp only [nf, okC, okC_nf _ h.1, okC_nf _ h.2, Bool.and_self]
  | .imp a b, true, h => by simp only [qf, Bool.and_eq_true] at h; exact okC_cnf (okC_nf _ h.1) (okC_nf _ h.2)
  | .imp a b, false, h => by simp only [qf, Bool.and_eq_true] at h; simp only [nf, okC, okC_nf _ h.1, okC_nf _ h.2, Bool.and_self]
  | .iff a b, true, h => by simp only [qf, Bool.and_eq_true] at h; simp only [nf, okC, okC_cnf (okC_nf _ h.1) (okC_nf _ h.2), Bool.and_self]
  | .iff a b, false, h => by simp only [qf, Bool.and_eq_true] at h; simp only [nf, okC, okC_cnf (okC_nf _ h.1) (okC_nf _ h.2), Bool.and_self]
/-- sizes -/
theorem cls_sA : ∀ f, (cls f).length = sA f + 1
  | .and a b => by simp only [cls, List.length_append, sA, cls_sA a, cls_sA b]; omega
  | .app _ _ => rfl
  | .neg _ => rfl
  | .or _ _ => rfl
  | .imp _ _ => rfl
  | .iff _ _ => rfl
  | .all _ _ => rfl
  | .ex _ _ => rfl
theorem cls_cnfR {f : Fm} : ∀ {g : Fm}, cls (cnfR f g) = (cls g).map (lits f ++ ·)
  | .and a b => by simp only [cnfR, cls, List.map_append, cls_cnfR (g := a), cls_cnfR (g := b)]
  | .app _ _ => rfl
  | .neg _ => rfl
  | .or _ _ => rfl
  | .imp _ _ => rfl
  | .iff _ _ => rfl
  | .all _ _ => rfl
  | .ex _ _ => rfl
/-- a bound for the clauses and their lengths -/
noncomputable def CB (f : Fm) (N M : Nat) : Prop := (cls f).length ≤ N ∧ ∀ c ∈ cls f, c.length ≤ M
theorem CB_cnfR {f g : Fm} {N M M' : Nat} (hl : (lits f).length ≤ M) (h : CB g N M') : CB (cnfR f g) N (M + M') := by
  unfold CB
  rw [cls_cnfR]
  refine ⟨by rw [List.length_map]; exact h.1, fun c hc => ?_⟩
  obtain ⟨c', hc', rfl⟩ := List.mem_map.mp hc
  have := h.2 c' hc'
  rw [List.length_append]; omega
theorem CB_and {a b : Fm} {N N' M M' K : Nat} (ha : CB a N M) (hb : CB b N' M') (h1 : M ≤ K) (h2 : M' ≤ K) : CB (.and a b) (N + N') K := by
  refine ⟨by simp only [cls, List.length_append]; have := ha.1; have := hb.1; omega, fun c hc => ?_⟩
  simp only [cls, List.mem_append] at hc
  rcases hc with hc | hc
  · exact Nat.le_trans (ha.2 c hc) h1
  · exact Nat.le_trans (hb.2 c hc) h2
theorem CB.le {f : Fm} {N N' M M' : Nat} (h : CB f N M) (h1 : N ≤ N') (h2 : M ≤ M') : CB f N' M' := ⟨Nat.le_trans h.1 h1, fun c hc => Nat.le_trans (h.2 c hc) h2⟩
theorem CB_cnf {N' M M' : Nat} {g : Fm} (hg : CB g N' M') : ∀ {f : Fm} {N : Nat}, CB f N M → CB (cnf f g) (N * N') (M + M')
  | .and a b, N, h => by
    have ha : CB a (cls a).length M := ⟨Nat.le_refl _, fun c hc => h.2 c (by simp only [cls]; exact List.mem_append_left _ hc)⟩
    have hb : CB b (cls b).length M := ⟨Nat.le_refl _, fun c hc => h.2 c (by simp only [cls]; exact List.mem_append_right _ hc)⟩
    refine (CB_and (CB_cnf hg ha) (CB_cnf hg hb) (Nat.le_refl _) (Nat.le_refl _)).le ?_ (Nat.le_refl _)
    have h1 := h.1
    simp only [cls, List.length_append] at h1
    rw [← Nat.add_mul]
    exact Nat.mul_le_mul_right _ h1
  | .app _ _, N, h => (CB_cnfR (h.2 _ (List.mem_singleton.mpr rfl)) hg).le (by have : 1 ≤ N := h.1; exact Nat.le_mul_of_pos_left _ this) (Nat.le_refl _)
  | .neg _, N, h => (CB_cnfR (h.2 _ (List.mem_singleton.mpr rfl)) hg).le (by have : 1 ≤ N := h.1; exact Nat.le_mul_of_pos_left _ this) (Nat.le_refl _)
  | .or _ _, N, h => (CB_cnfR (h.2 _ (List.mem_singleton.mpr rfl)) hg).le (by have : 1 ≤ N := h.1; exact Nat.le_mul_of_pos_left _ this) (Nat.le_refl _)
  | .imp _ _, N, h => (CB_cnfR (h.2 _ (List.mem_singleton.mpr rfl)) hg).le (by have : 1 ≤ N := h.1; exact Nat.le_mul_of_pos_left _ this) (Nat.le_refl _)
  | .iff _ _, N, h => (CB_cnfR (h.2 _ (List.mem_singleton.mpr rfl)) hg).le (by have : 1 ≤ N := h.1; exact Nat.le_mul_of_pos_left _ this) (Nat.le_refl _)
  | .all _ _, N, h => (CB_cnfR (h.2 _ (List.mem_singleton.mpr rfl)) hg).le (by have : 1 ≤ N := h.1; exact Nat.le_mul_of_pos_left _ this) (Nat.le_refl _)
  | .ex _ _, N, h => (CB_cnfR (h.2 _ (List.mem_singleton.mpr rfl)) hg).le (by have : 1 ≤ N := h.1; exact Nat.le_mul_of_pos_left _ this) (Nat.le_refl _)
theorem two_pow {a b : Nat} : 2 ^ a + 2 ^ b ≤ 2 ^ (a + b + 1) := by
  have h1 : 2 ^ a ≤ 2 ^ (a + b) := Nat.pow_le_pow_right (by decide) (by omega)
  have h2 : 2 ^ b ≤ 2 ^ (a + b) := Nat.pow_le_pow_right (by decide) (by omega)
  rw [Nat.pow_succ]; omega
theorem two_mul {a b : Nat} : 2 ^ a * 2 ^ b ≤ 2 ^ (a + b + 1) := by rw [← Nat.pow_add]; exact Nat.pow_le_pow_right (by decide) (by omega)
theorem CB_nf {at_ : Nat → Fm} (h : ∀ k, ∃ f a, at_ k = .app f a) : ∀ (t : Tr) (p : Bool), CB (nf p (fmT at_ t)) (2 ^ cnT t) (cnT t + 1)
  | .atom k, p => by
    obtain ⟨f, a, e⟩ := h k
    show CB (nf p (at_ k)) _ _
    rw [e]
    cases p <;> exact ⟨Nat.le_refl _, fun c hc => by cases List.mem_singleton.mp hc; exact Nat.le_refl _⟩
  | .not t, p => by
    have : CB (nf (!p) (fmT at_ t)) _ _ := CB_nf h t (!p)
    have e : nf p (fmT at_ (.not t)) = nf (!p) (fmT at_ t) := by cases p <;> rfl
    rw [e]
    exact this.le (Nat.pow_le_pow_right (by decide) (by simp only [cnT]; omega)) (by simp only [cnT]; omega)
  | .bin 0 a b, true => (CB_and (K := cnT a + cnT b + 2) (CB_nf h a true) (CB_nf h b true) (by omega) (by omega)).le two_pow (by simp only [cnT]; omega)
  | .bin 0 a b, false => (CB_cnf (CB_nf h b false) (CB_nf h a false)).le two_mul (by simp only [cnT]; omega)
  | .bin 1 a b, true => (CB_cnf (CB_nf h b true) (CB_nf h a true)).le two_mul (by simp only [cnT]; omega)
  | .bin 1 a b, false => (CB_and (K := cnT a + cnT b + 2) (CB_nf h a false) (CB_nf h b false) (by omega) (by omega)).le two_pow (by simp only [cnT]; omega)
  | .bin 2 a b, true => (CB_cnf (CB_nf h b true) (CB_nf h a false)).le two_mul (by simp only [cnT]; omega)
  | .bin 2 a b, false => (CB_and (K := cnT a + cnT b + 2) (CB_nf h a true) (CB_nf h b false) (by omega) (by omega)).le two_pow (by simp only [cnT]; omega)
  | .bin (n + 3) a b, true => (CB_and (CB_cnf (CB_nf h b true) (CB_nf h a false)) (CB_cnf (CB_nf h b false) (CB_nf h a true)) (Nat.le_refl _) (Nat.le_refl _)).le (by simp only [cnT]; rw [← Nat.pow_add, Nat.pow_succ]; omega) (by simp only [cnT]; omega)
  | .bin (n + 3) a b, false => (CB_and (CB_cnf (CB_nf h b false) (CB_nf h a false)) (CB_cnf (CB_nf h b true) (CB_nf h a true)) (Nat.le_refl _) (Nat.le_refl _)).le (by simp only [cnT]; rw [← Nat.pow_add, Nat.pow_succ]; omega) (by simp only [cnT]; omega)
end Mine
end

section
open PySem PySem.W PySem.Spec PySem.Calls PyProof.Rows
set_option Elab.async false
set_option maxRecDepth 100000
namespace Mine
set_option linter.unusedVariables false
set_option maxHeartbeats 1000000
theorem okd_okr : ∀ {f : Fm}, okd f = true → okr f = true
  | .app _ _, _ => rfl
  | .neg (.app _ _), _ => rfl
  | .or a b, h => by
    simp only [okd, Bool.and_eq_true] at h
    simp only [okr, okd_okr h.1, okd_okr h.2, Bool.and_self]
theorem okC_okr : ∀ {f : Fm}, okC f = true → okr f = true
  | .app _ _, _ => rfl
  | .neg a, h => okd_okr (f := .neg a) h
  | .or a b, h => okd_okr (f := .or a b) h
  | .and a b, h => by
    simp only [okC, Bool.and_eq_true] at h
    simp only [okr, okC_okr h.1, okC_okr h.2, Bool.and_self]
theorem okd_lits : ∀ {f : Fm}, okd f = true → ∀ g ∈ lits f, isLit g = true
  | .app _ _, _, g, hg => by cases List.mem_singleton.mp hg; rfl
  | .neg (.app _ _), _, g, hg => by cases List.mem_singleton.mp hg; rfl
  | .or a b, h, g, hg => by
    simp only [okd, Bool.and_eq_true] at h
    simp only [lits, List.mem_append] at hg
    exact hg.elim (okd_lits h.1 g) (okd_lits h.2 g)
theorem okC_cls : ∀ {f : Fm}, okC f = true → ∀ c ∈ cls f, ∀ g ∈ c, isLit g = true
  | .app _ _, h, c, hc => by cases List.mem_singleton.mp hc; exact okd_lits h
  | .neg a, h, c, hc => by cases List.mem_singleton.mp hc; exact okd_lits (f := .neg a) h
  | .or a b, h, c, hc => by cases List.mem_singleton.mp hc; exact okd_lits (f := .or a b) h
  | .and a b, h, c, hc => by
    simp only [okC, Bool.and_eq_true] at h
    simp only [cls, List.mem_append] at hc
    exact hc.elim (okC_cls h.1 c) (okC_cls h.2 c)
theorem okd_hC : ∀ {f : Fm}, okd f = true → hC f + 1 = (lits f).length
  | .app _ _, _ => rfl
  | .neg (.app _ _), _ => rfl
  | .or a b, h => by
    simp only [okd, Bool.and_eq_true] at h
    have := okd_hC h.1
    have := okd_hC h.2
    simp only [hC, lits, List.length_append]; omega
theorem okC_hC : ∀ {f : Fm}, okC f = true → hC f + 1 = ((cls f).map List.length).sum
  | .app _ _, _ => rfl
  | .neg a, h => by have := okd_hC (f := .neg a) h; simpa [cls] using this
  | .or a b, h => by have := okd_hC (f := .or a b) h; simpa [cls] using this
  | .and a b, h => by
    simp only [okC, Bool.and_eq_true] at h
    have := okC_hC h.1
    have := okC_hC h.2
    simp only [hC, cls, List.map_append, List.sum_append]; omega
theorem sum_le {M : Nat} : ∀ {l : List (List Fm)}, (∀ c ∈ l, c.length ≤ M) → (l.map List.length).sum ≤ l.length * M
  | [], _ => Nat.zero_le _
  | c :: l, h => by
    have h1 := h c (.head _)
    have h2 := sum_le (l := l) fun c' hc' => h c' (.tail _ hc')
    simp only [List.map_cons, List.sum_cons, List.length_cons, Nat.add_mul, Nat.one_mul]; omega
theorem hC_le {f : Fm} {N M : Nat} (h : okC f = true) (c : CB f N M) : hC f + 1 ≤ N * M := by
  rw [okC_hC h]
  exact Nat.le_trans (sum_le c.2) (Nat.mul_le_mul_right _ c.1)
theorem okd_hR : ∀ {f : Fm}, okd f = true → hR f ≤ 3 * hC f + 2
  | .app _ _, _ => (by decide : 1 ≤ 2)
  | .neg (.app _ _), _ => (by decide : 1 + 1 ≤ 2)
  | .or a b, h => by
    simp only [okd, Bool.and_eq_true] at h
    have := okd_hR h.1
    have := okd_hR h.2
    simp only [hC, hR]; omega
theorem okC_hR : ∀ {f : Fm}, okC f = true → hR f ≤ 3 * hC f + 2
  | .app _ _, _ => (by decide : 1 ≤ 2)
  | .neg a, h => okd_hR (f := .neg a) h
  | .or a b, h => okd_hR (f := .or a b) h
  | .and a b, h => by
    simp only [okC, Bool.and_eq_true] at h
    have := okC_hR h.1
    have := okC_hR h.2
    simp only [hC, hR]; omega
section
variable {x y : Str}
theorem lits_rp : ∀ f, lits (rp x y f) = (lits f).map (rp x y)
  | .or a b => by simp only [rp, lits, List.map_append, lits_rp a, lits_rp b]
  | .app _ _ => rfl
  | .neg _ => rfl
  | .and _ _ => rfl
  | .imp _ _ => rfl
  | .iff _ _ => rfl
  | .all _ _ => rfl
  | .ex _ _ => rfl
theorem cls_rp : ∀ f, cls (rp x y f) = (cls f).map (·.map (rp x y))
  | .and a b => by simp only [rp, cls, List.map_append, cls_rp a, cls_rp b]
  | .or a b => by
    show [lits (rp x y (.or a b))] = _
    rw [lits_rp]; rfl
  | .app _ _ => rfl
  | .neg _ => rfl
  | .imp _ _ => rfl
  | .iff _ _ => rfl
  | .all _ _ => rfl
  | .ex _ _ => rfl
theorem CB_rp {f : Fm} {N M : Nat} (h : CB f N M) : CB (rp x y f) N M := by
  unfold CB
  rw [cls_rp]
  refine ⟨by rw [List.length_map]; exact h.1, fun c hc => ?_⟩
  obtain ⟨c', hc', rfl⟩ := List.mem_map.mp hc
  rw [List.length_map]; exact h.2 c' hc'
theorem okd_rp : ∀ {f : Fm}, okd f = true → okd (rp x y f) = true
  | .app _ _, _ => rfl
  | .neg (.app _ _), _ => rfl
  | .or a b, h => by
    simp only [okd, Bool.and_eq_true] at h
    simp only [rp, okd, okd_rp h.1, okd_rp h.2, Bool.and_self]
theorem okC_rp : ∀ {f : Fm}, okC f = true → okC (rp x y f) = true
  | .app _ _, _ => rfl
  | .neg (.app _ _), _ => rfl
  | .or a b, h => okd_rp (f := .or a b) h
  | .and a b, h => by
    simp only [okC, Bool.and_eq_true] at h
    simp only [rp, okC, okC_rp h.1, okC_rp h.2, Bool.and_self]
theorem ev_rp (U : Str → Str → Bool) : ∀ {f : Fm}, okr f = true → ev U (rp x y f) = ev (fun w a => U (rpN x y w) (rpN x y a)) f
  | .app _ _, _ => rfl
  | .neg a, h => by simp only [rp, ev, ev_rp U (f := a) h]
  | .and a b, h => by
    simp only [okr, Bool.and_eq_true] at h
    simp only [rp, ev, ev_rp U h.1, ev_rp U h.2]
  | .or a b, h => by
    simp only [okr, Bool.and_eq_true] at h
    simp only [rp, ev, ev_rp U h.1, ev_rp U h.2]
theorem allA_rp {P : Str → Str → Prop} : ∀ {f : Fm}, okr f = true → (allA P (rp x y f) ↔ allA (fun w a => P (rpN x y w) (rpN x y a)) f)
  | .app _ _, _ => Iff.rfl
  | .neg a, h => allA_rp (f := a) h
  | .and a b, h => by
    simp only [okr, Bool.and_eq_true] at h
    exact and_congr (allA_rp h.1) (allA_rp h.2)
  | .or a b, h => by
    simp only [okr, Bool.and_eq_true] at h
    exact and_congr (allA_rp h.1) (allA_rp h.2)
end
theorem isLit_okr {f : Fm} (h : isLit f = true) : okr f = true := (lit_okr h).1
theorem ev_congr {U U' : Str → Str → Bool} : ∀ {f : Fm}, allA (fun w a => U w a = U' w a) f → ev U f = ev U' f
  | .app _ _, h => h
  | .neg a, h => by simp only [ev, ev_congr (f := a) h]
  | .and _ _, h => by simp only [ev, ev_congr h.1, ev_congr h.2]
  | .or _ _, h => by simp only [ev, ev_congr h.1, ev_congr h.2]
  | .imp _ _, h => by simp only [ev, ev_congr h.1, ev_congr h.2]
  | .iff _ _, h => by simp only [ev, ev_congr h.1, ev_congr h.2]
  | .all _ _, _ => rfl
  | .ex _ _, _ => rfl
/-- names -/
theorem mem_addNew {n : Str} : ∀ (l f : List Str), n ∈ l.foldl addNew f ↔ n ∈ f ∨ n ∈ l
  | [], f => by simp
  | a :: l, f => by
    rw [List.foldl_cons, mem_addNew l (addNew f a)]
    unfold addNew
    split
    · rename_i h
      rw [List.mem_cons]
      constructor
      · rintro (h1 | h1)
        · exact .inl h1
        · exact .inr (.inr h1)
      · rintro (h1 | rfl | h1)
        · exact .inl h1
        · exact .inl h
        · exact .inr h1
    · rw [List.mem_append, List.mem_singleton, List.mem_cons, or_assoc]
theorem mem_union {n : Str} {nss : List (List Str)} : n ∈ union nss ↔ ∃ l ∈ nss, n ∈ l := by
  unfold union
  rw [mem_addNew, List.mem_flatten]
  simp
/-- a name is among a literal's names: the word, if it is a variable; the argument -/
theorem mem_frL {n f a : Str} : n ∈ frL (.app f a) ↔ (n = f ∧ isInd f = true) ∨ n = a := by
  unfold frL
  rw [mem_union]
  simp only [frF, coF]
  constructor
  · rintro ⟨l, hl, hn⟩
    simp only [List.mem_cons, List.not_mem_nil, or_false] at hl
    rcases hl with rfl | rfl
    · obtain ⟨l, hl, hn⟩ := mem_union.mp hn
      simp only [List.mem_cons, List.not_mem_nil, or_false] at hl
      rcases hl with rfl | rfl
      · unfold frT at hn
        split at hn
        · rename_i h; exact .inl ⟨List.mem_singleton.mp hn, h⟩
        · cases hn
      · unfold frT at hn
        split at hn
        · exact .inr (List.mem_singleton.mp hn)
        · cases hn
    · obtain ⟨l, hl, hn⟩ := mem_union.mp hn
      simp only [List.mem_cons, List.not_mem_nil, or_false] at hl
      rcases hl with rfl | rfl
      · cases hn
      · unfold coT at hn
        split at hn
        · cases hn
        · exact .inr (List.mem_singleton.mp hn)
  · rintro (⟨rfl, h⟩ | rfl)
    · exact ⟨_, .head _, mem_union.mpr ⟨_, .head _, by unfold frT; rw [if_pos h]; exact .head _⟩⟩
    · by_cases h : isInd n = true
      · exact ⟨_, .head _, mem_union.mpr ⟨_, .tail _ (.head _), by unfold frT; rw [if_pos h]; exact .head _⟩⟩
      · exact ⟨_, .tail _ (.head _), mem_union.mpr ⟨_, .tail _ (.head _), by unfold coT; rw [if_neg h]; exact .head _⟩⟩
theorem mem_frL_neg {n f a : Str} : n ∈ frL (.neg (.app f a)) ↔ n ∈ frL (.app f a) := by
  unfold frL
  rw [mem_union, mem_union]
  simp only [frF, coF]
  constructor
  · rintro ⟨l, hl, hn⟩
    simp only [List.mem_cons, List.not_mem_nil, or_false] at hl
    rcases hl with rfl | rfl
    · obtain ⟨l, hl, hn⟩ := mem_union.mp hn
      cases List.mem_singleton.mp hl
      exact ⟨_, .head _, hn⟩
    · obtain ⟨l, hl, hn⟩ := mem_union.mp hn
      cases List.mem_singleton.mp hl
      exact ⟨_, .tail _ (.head _), hn⟩
  · rintro ⟨l, hl, hn⟩
    simp only [List.mem_cons, List.not_mem_nil, or_false] at hl
    rcases hl with rfl | rfl
    · exact ⟨_, .head _, mem_union.mpr ⟨_, .head _, hn⟩⟩
    · exact ⟨_, .tail _ (.head _), mem_union.mpr ⟨_, .head _, hn⟩⟩
theorem frL_of {P : Str → Str → Prop} {n : Str} : ∀ {g : Fm}, isLit g = true → allA P g → n ∈ frL g → ∃ w a, P w a ∧ ((n = w ∧ isInd w = true) ∨ n = a)
  | .app f a, _, h, hn => ⟨f, a, h, mem_frL.mp hn⟩
  | .neg (.app f a), _, h, hn => ⟨f, a, h, mem_frL.mp (mem_frL_neg.mp hn)⟩
theorem frC_of {P : Str → Str → Prop} {n : Str} {fs : List Fm} (hl : ∀ g ∈ fs, isLit g = true) (h : ∀ g ∈ fs, allA P g) (hn : n ∈ frC fs) : ∃ w a, P w a ∧ ((n = w ∧ isInd w = true) ∨ n = a) := by
  obtain ⟨l, hl', hn⟩ := mem_union.mp hn
  obtain ⟨g, hg, rfl⟩ := List.mem_map.mp hl'
  exact frL_of (hl g hg) (h g hg) hn
theorem frC_full {fs : List Fm} (hl : ∀ g ∈ fs, isLit g = true) : ∀ g ∈ fs, allA (fun w a => a ∈ frC fs) g := by
  intro g hg
  have key : ∀ n, n ∈ frL g → n ∈ frC fs := fun n hn => mem_union.mpr ⟨_, List.mem_map.mpr ⟨g, hg, rfl⟩, hn⟩
  have h1 := hl g hg
  match g, h1, key with
  | .app f a, _, key => exact key a (mem_frL.mpr (.inr rfl))
  | .neg (.app f a), _, key => exact key a (mem_frL_neg.mpr (mem_frL.mpr (.inr rfl)))
theorem frC_len {fs : List Fm} (hl : ∀ g ∈ fs, isLit g = true) : (frC fs).length ≤ 3 * fs.length := by
  unfold frC
  refine Nat.le_trans (union_len _) ?_
  induction fs with
  | nil => exact Nat.le_refl _
  | cons g fs ih =>
    have h1 := ih fun g hg => hl g (.tail _ hg)
    have h2 : (frL g).length ≤ 3 := by
      unfold frL
      have := union_len [frF g, coF g]
      have := frF_lit (hl g (.head _))
      simp only [List.flatten_cons, List.flatten_nil, List.append_nil, List.length_append] at *
      omega
    simp only [List.map_cons, List.flatten_cons, List.length_append, List.length_cons]
    omega
end Mine
end

section
open PySem PySem.W PySem.Spec PySem.Calls PyProof.Rows
set_option Elab.async false
set_option maxRecDepth 100000
namespace Mine
set_option linter.unusedVariables false
set_option maxHeartbeats 1000000
noncomputable def Us (V : Str → Th → Bool) (σ : Str → Bool) (w a : Str) : Bool := V w (if isC a = true then .inl a else .inr (if σ a = true then 1 else 0))
noncomputable def CT (V : Str → Th → Bool) (fs : List Fm) : Prop := ∀ σ : Str → Bool, fs.any (ev (Us V σ)) = true
theorem row_ev (V : Str → Th → Bool) (σ : Str → Bool) : ∀ {g : Fm}, isLit g = true → (V (rowOf g).2.1 (if isC (rowOf g).2.2 = true then .inl (rowOf g).2.2 else .inr (if σ (rowOf g).2.2 = true then 1 else 0)) ≠ (rowOf g).1 ↔ ev (Us V σ) g = true)
  | .app f a, _ => by
    show (Us V σ f a ≠ false ↔ Us V σ f a = true)
    simp
  | .neg (.app f a), _ => by
    show (Us V σ f a ≠ true ↔ (!Us V σ f a) = true)
    simp
theorem clP_CT {V : Str → Th → Bool} {fs : List Fm} (hl : ∀ g ∈ fs, isLit g = true) : clP V (fs.map rowOf) ↔ CT V fs := by
  unfold clP CT
  refine forall_congr' fun σ => ?_
  rw [List.any_eq_true]
  constructor
  · rintro ⟨r, hr, hne⟩
    obtain ⟨g, hg, rfl⟩ := List.mem_map.mp hr
    exact ⟨g, hg, (row_ev V σ (hl g hg)).mp hne⟩
  · rintro ⟨g, hg, he⟩
    exact ⟨_, List.mem_map.mpr ⟨g, hg, rfl⟩, (row_ev V σ (hl g hg)).mpr he⟩
theorem clB_CT {V : Str → Th → Bool} {fs : List Fm} (hl : ∀ g ∈ fs, isLit g = true) : clB V (fs.map rowOf) = true ↔ CT V fs := by
  unfold clB
  exact (@decide_eq_true_iff _ (Classical.propDecidable _)).trans (clP_CT hl)
theorem ev_ren {V : Str → Th → Bool} {σ : Str → Bool} {n y : Str} {g : Fm} (hl : isLit g = true) (hn : isC n = false) (hy : isC y = false) (hw : allA (fun w a => w ≠ n) g) :
    ev (Us V σ) (rp n y g) = ev (Us V fun b => σ (rpN n y b)) g := by
  rw [ev_rp _ (isLit_okr hl)]
  refine ev_congr (allA.mono (fun w a hwn => ?_) hw)
  have e : rpN n y w = w := if_neg hwn
  rw [e]
  unfold Us
  by_cases ha : a = n
  · subst ha
    have e2 : rpN a y a = y := if_pos rfl
    show _ = V w (if isC a = true then .inl a else .inr (if σ (rpN a y a) = true then 1 else 0))
    rw [e2, hn, hy]
    rfl
  · have e2 : rpN n y a = a := if_neg ha
    show _ = V w (if isC a = true then .inl a else .inr (if σ (rpN n y a) = true then 1 else 0))
    rw [e2]
theorem CT_ren {V : Str → Th → Bool} {fs : List Fm} {n y : Str} (hl : ∀ g ∈ fs, isLit g = true) (hn : isC n = false) (hy : isC y = false) (hw : ∀ g ∈ fs, allA (fun w a => w ≠ n ∧ a ≠ y) g) : CT V (fs.map (rp n y)) ↔ CT V fs := by
  have hw1 : ∀ g ∈ fs, allA (fun w a => w ≠ n) g := fun g hg => allA.mono (fun _ _ h => h.1) (hw g hg)
  constructor
  · intro h σ
    have h1 := h fun b => if b = y then σ n else σ b
    obtain ⟨g', hg', he⟩ := List.any_eq_true.mp h1
    obtain ⟨g, hg, rfl⟩ := List.mem_map.mp hg'
    rw [ev_ren (hl g hg) hn hy (hw1 g hg)] at he
    refine List.any_eq_true.mpr ⟨g, hg, ?_⟩
    rw [← he]
    refine ev_congr (allA.mono (fun w a hwa => ?_) (hw g hg))
    unfold Us
    by_cases ha : a = n
    · subst ha
      have e2 : rpN a y a = y := if_pos rfl
      simp only [e2, if_true]
    · have e2 : rpN n y a = a := if_neg ha
      simp only [e2, if_neg hwa.2]
  · intro h σ
    obtain ⟨g, hg, he⟩ := List.any_eq_true.mp (h fun b => σ (rpN n y b))
    refine List.any_eq_true.mpr ⟨_, List.mem_map.mpr ⟨g, hg, rfl⟩, ?_⟩
    rw [ev_ren (hl g hg) hn hy (hw1 g hg)]
    exact he
theorem zn_head (j : Int) : (zn j).cps.toList.head? = some 122 := by
  show (((#[] : Array Nat) ++ (Str.ofString "z").cps) ++ (Str.ofString (toString j)).cps).toList.head? = some 122
  rw [Array.toList_append, Array.toList_append]
  rfl
theorem zn_ne_x (j : Int) : zn j ≠ "x" := fun h => by
  have := zn_head j
  rw [h] at this
  exact absurd this (by decide)
theorem zn_ne_y (j : Int) : zn j ≠ "y" := fun h => by
  have := zn_head j
  rw [h] at this
  exact absurd this (by decide)
theorem isC_zn (j : Int) : isC (zn j) = false := by
  cases e : isC (zn j) with
  | false => rfl
  | true =>
    obtain ⟨y, hy, he⟩ := List.any_eq_true.mp e
    have hh := zn_head j
    rw [← beq_iff_eq.mp he] at hh
    simp only [consts, List.mem_cons, List.not_mem_nil, or_false] at hy
    rcases hy with rfl | rfl | rfl <;> exact absurd hh (by decide)
theorem zn_inj_all : ((List.range 40).all fun i => (List.range 40).all fun j => i == j || !(zn (i : Nat) == zn (j : Nat))) = true := by decide +kernel
theorem zn_inj {i j : Int} (hi : 0 ≤ i) (hi' : i < 40) (hj : 0 ≤ j) (hj' : j < 40) (h : zn i = zn j) : i = j := by
  obtain ⟨a, rfl⟩ := Int.eq_ofNat_of_zero_le hi
  obtain ⟨b, rfl⟩ := Int.eq_ofNat_of_zero_le hj
  have h1 := List.all_eq_true.mp zn_inj_all a (List.mem_range.mpr (by omega))
  have h2 := List.all_eq_true.mp h1 b (List.mem_range.mpr (by omega))
  rw [h] at h2
  simp at h2
  rw [h2]
/-- a word of ours and a constant or one of the first made names -/
noncomputable def PK (c : Prop) (k : Int) (w a : Str) : Prop := (w = "dog" ∨ w = "old") ∧ ((c ∧ isC a = true) ∨ ∃ j : Int, a = zn j ∧ 0 < j ∧ j ≤ k)
noncomputable def QK (S : List Str) (lo k : Int) (w a : Str) : Prop := isC a = true ∨ a ∈ S ∨ ∃ j : Int, a = zn j ∧ lo < j ∧ j ≤ k
theorem ind_dog : isInd "dog" = false ∧ isInd "old" = false := by decide +kernel
theorem ind_C {n : Str} (h : isC n = true) : isInd n = false ∧ okN n = true := by
  obtain ⟨y, hy, he⟩ := List.any_eq_true.mp h
  rw [← beq_iff_eq.mp he]
  have : consts.all (fun n => !isInd n && okN n) = true := by decide +kernel
  have := List.all_eq_true.mp this y hy
  simpa using this
theorem okN_zn {j : Int} (h : 0 ≤ j) (h' : j < 40) : okN (zn j) = true := by
  have := (zok h h').ok
  unfold okV at this
  rw [Bool.and_eq_true] at this
  exact this.1
theorem PK_w {c : Prop} {k : Int} {w a : Str} (h : PK c k w a) : isInd w = false := by
  rcases h.1 with rfl | rfl
  · exact ind_dog.1
  · exact ind_dog.2
theorem mem_map_allA {P P' : Str → Str → Prop} {fs : List Fm} {n y : Str} (hl : ∀ g ∈ fs, isLit g = true) (h : ∀ g ∈ fs, allA P g) (hP : ∀ w a, P w a → P' (rpN n y w) (rpN n y a)) : ∀ g ∈ fs.map (rp n y), allA P' g := by
  intro g' hg'
  obtain ⟨g, hg, rfl⟩ := List.mem_map.mp hg'
  exact (allA_rp (isLit_okr (hl g hg))).mpr (allA.mono hP (h g hg))
theorem rnC_ok {cc : Prop} : ∀ (ns : List Str) (fs : List Fm) (lo k : Int), (∀ g ∈ fs, isLit g = true) → (∀ g ∈ fs, allA (PK cc k) g) → (∀ g ∈ fs, allA (QK ns lo k) g) → (∀ n ∈ ns, okN n = true) → 0 ≤ lo → lo ≤ k → k + (ns.filter isInd).length ≤ 39 →
    rnOk ns fs k ∧ k ≤ (rnC ns fs k).2 ∧ (rnC ns fs k).2 ≤ k + (ns.filter isInd).length ∧ (∀ g ∈ (rnC ns fs k).1, isLit g = true) ∧ (rnC ns fs k).1.length = fs.length ∧ (∀ g ∈ (rnC ns fs k).1, allA (PK cc (rnC ns fs k).2) g) ∧ (∀ g ∈ (rnC ns fs k).1, allA (QK [] lo (rnC ns fs k).2) g) ∧ (∀ V, CT V (rnC ns fs k).1 ↔ CT V fs)
  | [], fs, lo, k, hl, hP, hQ, hn, h0, h1, h2 => ⟨trivial, Int.le_refl _, by simp [rnC], hl, rfl, hP, hQ, fun V => Iff.rfl⟩
  | n :: ns, fs, lo, k, hl, hP, hQ, hn, h0, h1, h2 => by
    cases q : isInd n with
    | false =>
      have e : rnC (n :: ns) fs k = rnC ns fs k := by simp [rnC, q]
      have ef : (n :: ns).filter isInd = ns.filter isInd := by rw [List.filter_cons, q]; rfl
      rw [ef] at h2 ⊢
      have hQ' : ∀ g ∈ fs, allA (QK ns lo k) g := fun g hg => by
        have hb : allA (fun w a => PK cc k w a ∧ QK (n :: ns) lo k w a) g := by
          have h1 := hP g hg
          have h2 := hQ g hg
          have hlg := hl g hg
          match g, hlg, h1, h2 with
          | .app _ _, _, h1, h2 => exact ⟨h1, h2⟩
          | .neg (.app _ _), _, h1, h2 => exact ⟨h1, h2⟩
        refine allA.mono (fun w a x => ?_) hb
        obtain ⟨⟨_, p⟩, y⟩ := x
        rcases y with y | y | y
        · exact .inl y
        · rcases List.mem_cons.mp y with rfl | y
          · rcases p with p | ⟨j, rfl, p1, p2⟩
            · exact .inl p.2
            · have := (zok (k := j) (by omega) (by omega)).ind
              rw [q] at this; cases this
          · exact .inr (.inl y)
        · exact .inr (.inr y)
      obtain ⟨r1, r2, r3, r4⟩ := rnC_ok ns fs lo k hl hP hQ' (fun m hm => hn m (.tail _ hm)) h0 h1 (by omega)
      rw [e]
      refine ⟨⟨hn n (.head _), by rw [q]; exact r1⟩, r2, r3, r4⟩
    | true =>
      have e : rnC (n :: ns) fs k = rnC ns (fs.map (rp n (zn (k + 1)))) (k + 1) := by simp [rnC, q]
      have ef : (n :: ns).filter isInd = n :: ns.filter isInd := by rw [List.filter_cons, q]; rfl
      rw [ef] at h2 ⊢
      rw [List.length_cons] at h2 ⊢
      push_cast at h2 ⊢
      have hlen : k + (ns.filter isInd).length ≤ 38 := by omega
      have hnC : isC n = false := by
        cases c : isC n with
        | false => rfl
        | true => have := (ind_C c).1; rw [q] at this; cases this
      have hz : zn (k + 1) ∉ frC fs := fun hm => by
        obtain ⟨w, a, ⟨hw, ha⟩, hh⟩ := frC_of hl hP hm
        rcases hh with ⟨rfl, hi⟩ | rfl
        · rcases hw with e | e
          · rw [e, ind_dog.1] at hi; cases hi
          · rw [e, ind_dog.2] at hi; cases hi
        · rcases ha with ⟨-, ha⟩ | ⟨j, ej, j1, j2⟩
          · rw [isC_zn] at ha; cases ha
          · have := zn_inj (by omega) (by omega) (by omega) (by omega) ej
            omega
      have wn : ∀ w : Str, (w = "dog" ∨ w = "old") → w ≠ n := fun w hw he => by
        subst he
        rcases hw with rfl | rfl
        · rw [ind_dog.1] at q; cases q
        · rw [ind_dog.2] at q; cases q
      have hP1 : ∀ g ∈ fs.map (rp n (zn (k + 1))), allA (PK cc (k + 1)) g := mem_map_allA hl hP fun w a x => by
        obtain ⟨hw, ha⟩ := x
        refine ⟨?_, ?_⟩
        · rw [show rpN n (zn (k + 1)) w = w from if_neg (wn w hw)]; exact hw
        · by_cases han : a = n
          · rw [show rpN n (zn (k + 1)) a = zn (k + 1) from if_pos han]; exact .inr ⟨k + 1, rfl, by omega, by omega⟩
          · rw [show rpN n (zn (k + 1)) a = a from if_neg han]
            rcases ha with ha | ⟨j, ej, j1, j2⟩
            · exact .inl ha
            · exact .inr ⟨j, ej, j1, by omega⟩
      have hQ1 : ∀ g ∈ fs.map (rp n (zn (k + 1))), allA (QK ns lo (k + 1)) g := mem_map_allA hl hQ fun w a x => by
        by_cases han : a = n
        · rw [show rpN n (zn (k + 1)) a = zn (k + 1) from if_pos han]; exact .inr (.inr ⟨k + 1, rfl, by omega, by omega⟩)
        · rw [show rpN n (zn (k + 1)) a = a from if_neg han]
          rcases x with x | x | ⟨j, ej, j1, j2⟩
          · exact .inl x
          · rcases List.mem_cons.mp x with x | x
            · exact absurd x han
            · exact .inr (.inl x)
          · exact .inr (.inr ⟨j, ej, j1, by omega⟩)
      obtain ⟨r1, r2, r3, r4, r5, r6, r7, r8⟩ := rnC_ok ns (fs.map (rp n (zn (k + 1)))) lo (k + 1) (lit_map hl) hP1 hQ1 (fun m hm => hn m (.tail _ hm)) h0 (by omega) (by omega)
      rw [e]
      refine ⟨⟨hn n (.head _), by rw [q]; exact ⟨hz, by omega, by omega, r1⟩⟩, by omega, by omega, r4, by rw [r5, List.length_map], r6, r7, fun V => (r8 V).trans (CT_ren hl hnC (isC_zn _) fun g hg => allA.mono (fun w a x => ?_) (hP g hg))⟩
      refine ⟨wn w x.1, fun ea => ?_⟩
      rcases x.2 with ⟨-, ha⟩ | ⟨j, ej, j1, j2⟩
      · rw [ea, isC_zn] at ha; cases ha
      · have := zn_inj (i := k + 1) (j := j) (by omega) (by omega) (by omega) (by omega) (ea.symm.trans ej)
        omega
end Mine
end

section
open PySem PySem.W PySem.Spec PySem.Calls PyProof.Rows
set_option Elab.async false
set_option maxRecDepth 100000
namespace Mine
set_option linter.unusedVariables false
set_option maxHeartbeats 1000000
noncomputable def vr (fs : List Fm) : List Str := varsR (fs.map rowOf)
theorem row_of {P : Str → Str → Prop} : ∀ {g : Fm}, isLit g = true → allA P g → P (rowOf g).2.1 (rowOf g).2.2
  | .app f a, _, h => h
  | .neg (.app f a), _, h => h
theorem vr_of {P : Str → Str → Prop} {fs : List Fm} {x : Str} (hl : ∀ g ∈ fs, isLit g = true) (h : ∀ g ∈ fs, allA P g) (hx : x ∈ vr fs) : isC x = false ∧ ∃ w, P w x := by
  unfold vr varsR at hx
  obtain ⟨h1, h2⟩ := List.mem_filter.mp hx
  obtain ⟨r, hr, rfl⟩ := List.mem_map.mp h1
  obtain ⟨g, hg, rfl⟩ := List.mem_map.mp hr
  exact ⟨by simpa using h2, _, row_of (hl g hg) (h g hg)⟩
theorem PK.up {c : Prop} {k k' : Int} (h : k ≤ k') {w a : Str} (x : PK c k w a) : PK c k' w a := by
  obtain ⟨h1, h2⟩ := x
  refine ⟨h1, ?_⟩
  rcases h2 with h2 | ⟨j, e, j1, j2⟩
  · exact .inl h2
  · exact .inr ⟨j, e, j1, by omega⟩
theorem QK.up {S : List Str} {lo lo' k k' : Int} (h : k ≤ k') (hl : lo' ≤ lo) {w a : Str} (x : QK S lo k w a) : QK S lo' k' w a := by
  rcases x with x | x | ⟨j, e, j1, j2⟩
  · exact .inl x
  · exact .inr (.inl x)
  · exact .inr (.inr ⟨j, e, by omega, by omega⟩)
theorem rnAll_ok {c : Prop} {I M : Nat} : ∀ (CS : List (List Fm)) (k : Int), (∀ fs ∈ CS, ∀ g ∈ fs, isLit g = true) → (∀ fs ∈ CS, ∀ g ∈ fs, allA (PK c k) g) → (∀ fs ∈ CS, ((frC fs).filter isInd).length ≤ I) → (∀ fs ∈ CS, fs.length ≤ M) → 0 ≤ k → k + I * CS.length ≤ 39 →
    rnAllOk CS k ∧ ∃ k'' : Int, k ≤ k'' ∧ k'' ≤ k + I * CS.length ∧ (rnAll CS k).1.length = CS.length ∧ (∀ fs ∈ (rnAll CS k).1, (∀ g ∈ fs, isLit g = true) ∧ fs.length ≤ M ∧ (∀ g ∈ fs, allA (PK c k'') g) ∧ (∀ g ∈ fs, allA (QK [] k k'') g)) ∧
      (rnAll CS k).1.Pairwise (fun a b => ∀ x ∈ vr b, x ∉ vr a) ∧ (∀ V, (∀ fs ∈ (rnAll CS k).1, CT V fs) ↔ ∀ fs ∈ CS, CT V fs)
  | [], k, hl, hP, hI, hM, h0, h1 => by
    have e : (rnAll [] k).1 = [] := rfl
    refine ⟨trivial, k, Int.le_refl _, by simp, ?_⟩
    rw [e]
    exact ⟨rfl, fun fs hfs => absurd hfs List.not_mem_nil, List.Pairwise.nil, fun V => Iff.rfl⟩
  | fs :: CS, k, hl, hP, hI, hM, h0, h1 => by
    have hI1 := hI fs (.head _)
    have h1' : k + I * (CS.length + 1) ≤ 39 := by simpa using h1
    have hmul : (I : Int) * (CS.length + 1) = I * CS.length + I := by rw [Int.mul_add, Int.mul_one]
    rw [hmul] at h1'
    have hpos : (0 : Int) ≤ I * CS.length := by exact_mod_cast Nat.zero_le (I * CS.length)
    have hQ : ∀ g ∈ fs, allA (QK (frC fs) k k) g := fun g hg => allA.mono (fun w a x => .inr (.inl x)) (frC_full (hl fs (.head _)) g hg)
    have hokn : ∀ n ∈ frC fs, okN n = true := fun n hn => by
      obtain ⟨w, a, ⟨hw, ha⟩, hh⟩ := frC_of (hl fs (.head _)) (hP fs (.head _)) hn
      rcases hh with ⟨rfl, hi⟩ | rfl
      · rcases hw with e | e
        · rw [e, ind_dog.1] at hi; cases hi
        · rw [e, ind_dog.2] at hi; cases hi
      · rcases ha with ⟨-, ha⟩ | ⟨j, ej, j1, j2⟩
        · exact (ind_C ha).2
        · rw [ej]; exact okN_zn (by omega) (by omega)
    obtain ⟨r1, r2, r3, r4, r5, r6, r7, r8⟩ := rnC_ok (frC fs) fs k k (hl fs (.head _)) (hP fs (.head _)) hQ hokn h0 (Int.le_refl _) (by omega)
    have hpair : (rnAll (fs :: CS) k).1 = (rnC (frC fs) fs k).1 :: (rnAll CS (rnC (frC fs) fs k).2).1 := rfl
    generalize hk1 : (rnC (frC fs) fs k).2 = k1 at *
    generalize (rnC (frC fs) fs k).1 = fs1 at *
    obtain ⟨q1, k2, q2, q3, q4, q5, q6, q7⟩ := rnAll_ok (c := c) (I := I) (M := M) CS k1 (fun f hf => hl f (.tail _ hf)) (fun f hf g hg => allA.mono (fun w a x => x.up r2) (hP f (.tail _ hf) g hg)) (fun f hf => hI f (.tail _ hf)) (fun f hf => hM f (.tail _ hf)) (by omega) (by omega)
    refine ⟨⟨r1, by rw [hk1]; exact q1⟩, k2, by omega, ?_, ?_, ?_, ?_, fun V => ?_⟩
    · rw [List.length_cons]; push_cast; rw [hmul]; omega
    · rw [hpair, List.length_cons, List.length_cons, q4]
    · intro f hf
      rw [hpair] at hf
      rcases List.mem_cons.mp hf with rfl | hf
      · exact ⟨r4, by rw [r5]; exact hM fs (.head _), fun g hg => allA.mono (fun w a x => x.up q2) (r6 g hg), fun g hg => allA.mono (fun w a x => x.up q2 (Int.le_refl _)) (r7 g hg)⟩
      · obtain ⟨a1, a2, a3, a4⟩ := q5 f hf
        exact ⟨a1, a2, a3, fun g hg => allA.mono (fun w a x => x.up (Int.le_refl _) r2) (a4 g hg)⟩
    · rw [hpair]
      refine List.pairwise_cons.mpr ⟨fun b hb x hx hx1 => ?_, q6⟩
      obtain ⟨a1, a2, a3, a4⟩ := q5 b hb
      obtain ⟨c1, w, hw⟩ := vr_of a1 a4 hx
      obtain ⟨-, w', hw'⟩ := vr_of r4 r7 hx1
      rcases hw with hw | hw | ⟨j, ej, j1, j2⟩
      · rw [hw] at c1; cases c1
      · cases hw
      · rcases hw' with hw' | hw' | ⟨i, ei, i1, i2⟩
        · rw [hw'] at c1; cases c1
        · cases hw'
        · have := zn_inj (by omega) (by omega) (by omega) (by omega) (ej.symm.trans ei)
          omega
    · rw [hpair]
      simp only [List.mem_cons, forall_eq_or_imp]
      exact and_congr (r8 V) (q7 V)
theorem trT_congr {f g : Nat → Bool} (h : ∀ k, k < 3 → f k = g k) : ∀ {t : Tr}, tk3 t → trT f t = trT g t
  | .atom k, x => h k x
  | .not t, x => by simp only [trT, trT_congr h (t := t) x]
  | .bin 0 _ _, x => by simp only [trT, trT_congr h x.1, trT_congr h x.2]
  | .bin 1 _ _, x => by simp only [trT, trT_congr h x.1, trT_congr h x.2]
  | .bin 2 _ _, x => by simp only [trT, trT_congr h x.1, trT_congr h x.2]
  | .bin (n + 3) _ _, x => by simp only [trT, trT_congr h x.1, trT_congr h x.2]
theorem bdd_fmT {at_ : Nat → Fm} (h : ∀ k, ∃ f a, at_ k = .app f a) : ∀ {t : Tr}, cnT t ≤ 4 → bdd (fmT at_ t)
  | .atom k, _ => by obtain ⟨f, a, e⟩ := h k; show bdd (at_ k); rw [e]; trivial
  | .not t, x => bdd_fmT (t := t) h (by simp only [cnT] at x; omega)
  | .bin o a b, x => by
    simp only [cnT] at x
    have s : ∀ (t : Tr) p, cnT t ≤ 4 → sA (nf p (fmT at_ t)) ≤ 40 := fun t p ht => by
      have h1 := (CB_nf h t p).1
      rw [cls_sA] at h1
      have h2 : 2 ^ cnT t ≤ 2 ^ 4 := Nat.pow_le_pow_right (by decide) ht
      omega
    have key : bdd (fmT at_ a) ∧ bdd (fmT at_ b) ∧ (∀ p, sA (nf p (fmT at_ a)) ≤ 40) ∧ (∀ p, sA (nf p (fmT at_ b)) ≤ 40) := ⟨bdd_fmT h (by omega), bdd_fmT h (by omega), fun p => s a p (by omega), fun p => s b p (by omega)⟩
    match o with
    | 0 => exact key
    | 1 => exact key
    | 2 => exact key
    | n + 3 => exact key
theorem hq_fmT {at_ : Nat → Fm} (h : ∀ k, ∃ f a, at_ k = .app f a) : ∀ (t : Tr), hq (fmT at_ t) ≤ 3 * cnT t + 1
  | .atom k => by obtain ⟨f, a, e⟩ := h k; show hq (at_ k) ≤ _; rw [e]; exact Nat.le_refl _
  | .not t => by have := hq_fmT h t; simp only [fmT, hq, cnT]; omega
  | .bin 0 a b => by have := hq_fmT h a; have := hq_fmT h b; simp only [fmT, hq, cnT]; omega
  | .bin 1 a b => by have := hq_fmT h a; have := hq_fmT h b; simp only [fmT, hq, cnT]; omega
  | .bin 2 a b => by have := hq_fmT h a; have := hq_fmT h b; simp only [fmT, hq, cnT]; omega
  | .bin (n + 3) a b => by have := hq_fmT h a; have := hq_fmT h b; simp only [fmT, hq, cnT]; omega
theorem tk3_of {nw : List Ent} : ∀ {t : Tr} {v : Value}, TrR nw t v → tk3 t
  | .atom k, _, h => h.1
  | .not t, _, ⟨_, _, _, _, _, h⟩ => tk3_of (t := t) h
  | .bin _ _ _, _, ⟨_, _, _, _, _, _, _, h1, h2⟩ => ⟨tk3_of h1, tk3_of h2⟩
end Mine
end

section
open PySem PySem.W PySem.Spec PySem.Calls PyProof.Rows
set_option Elab.async false
set_option maxRecDepth 100000
namespace Mine
set_option linter.unusedVariables false
set_option maxHeartbeats 1000000
theorem rnC_id : ∀ {ns : List Str} {fs : List Fm} {k : Int}, ns.filter isInd = [] → rnC ns fs k = (fs, k)
  | [], fs, k, _ => rfl
  | n :: ns, fs, k, h => by
    rw [List.filter_cons] at h
    cases q : isInd n with
    | true => rw [q] at h; cases h
    | false =>
      rw [q] at h
      have e : rnC (n :: ns) fs k = rnC ns fs k := by simp [rnC, q]
      rw [e]; exact rnC_id h
theorem rnAll_id : ∀ {CS : List (List Fm)} {k : Int}, (∀ fs ∈ CS, (frC fs).filter isInd = []) → rnAll CS k = (CS, k)
  | [], k, _ => rfl
  | fs :: CS, k, h => by
    simp only [rnAll, rnC_id (h fs (.head _)), rnAll_id (k := k) fun f hf => h f (.tail _ hf)]
noncomputable abbrev RSof (r : Fm) (k' : Int) : List (List Row3) := (rnAll (cls r) k').1.map fun fs => fs.map rowOf
structure Fine (sh : Nat) (t : Tr) (r : Fm) (k' : Int) : Prop where
  kc : okC r = true
  hc : hC r ≤ 100
  lit : ∀ fs ∈ cls r, (∀ g ∈ fs, isLit g = true) ∧ fs.length ≤ 300
  ok : rnAllOk (cls r) k'
  lit2 : ∀ fs ∈ (rnAll (cls r) k').1, (∀ g ∈ fs, isLit g = true) ∧ fs.length ≤ 19
  num : (rnAll (cls r) k').1.length ≤ 50
  dis : ∀ (i : Nat) rs, (RSof r k')[i]? = some rs → ∀ x ∈ varsR rs, x ∉ seen0 sh ∧ ∀ (j : Nat) rs', j < i → (RSof r k')[j]? = some rs' → x ∉ varsR rs'
  none0 : sh = 0 → ∀ rs ∈ RSof r k', varsR rs = []
  rows : ∀ rs ∈ RSof r k', ∀ x ∈ rs, rowOk sh x
  law : ∀ V, dueT sh t V = (RSof r k').all (clB V)
theorem fine_of {sh N M I : Nat} {t : Tr} {r : Fm} {k' : Int} (kc : okC r = true) (cb : CB r N M) (hN : N ≤ 8) (hM : M ≤ 4) (hI : ∀ fs ∈ cls r, ((frC fs).filter isInd).length ≤ I) (h0 : 0 ≤ k') (h1 : k' + I * N ≤ 39) (hP : allA (PK (sh = 0) k') r)
    (hz : sh = 0 → I = 0 ∧ allA (fun w a => w = "dog" ∧ (a = "rex" ∨ a = "tom" ∨ a = "ann")) r) (hev : ∀ V, (∀ σ, ev (Us V σ) r = true) ↔ dueT sh t V = true) : Fine sh t r k' := by
  have hlit := okC_cls kc
  have hmul : (I : Int) * (cls r).length ≤ I * N := by exact_mod_cast Nat.mul_le_mul_left I cb.1
  obtain ⟨q1, k2, q2, q3, q4, q5, q6, q7⟩ := rnAll_ok (c := sh = 0) (I := I) (M := M) (cls r) k' hlit (allA_cls hP) hI cb.2 h0 (by omega)
  have hrows : ∀ rs ∈ RSof r k', ∀ x ∈ rs, rowOk sh x := by
    intro rs hrs x hx
    obtain ⟨fs, hfs, rfl⟩ := List.mem_map.mp hrs
    obtain ⟨g, hg, rfl⟩ := List.mem_map.mp hx
    unfold rowOk
    by_cases hs : sh = 0
    · rw [if_pos hs]
      obtain ⟨hI0, hA⟩ := hz hs
      have e : rnAll (cls r) k' = (cls r, k') := rnAll_id fun f hf => List.length_eq_zero_iff.mp (by have := hI f hf; omega)
      rw [e] at hfs
      exact row_of (P := fun w a => w = "dog" ∧ (a = "rex" ∨ a = "tom" ∨ a = "ann")) (hlit fs hfs g hg) (allA_cls hA fs hfs g hg)
    · rw [if_neg hs]
      obtain ⟨a1, a2, a3, a4⟩ := q5 fs hfs
      obtain ⟨hw, hn⟩ := row_of (a1 g hg) (a3 g hg)
      refine ⟨hw, ?_⟩
      rcases hn with ⟨hs', -⟩ | ⟨j, e, -⟩
      · exact absurd hs' hs
      · rw [e]; exact isC_zn j
  refine ⟨kc, ?_, fun fs hfs => ⟨hlit fs hfs, by have := cb.2 fs hfs; omega⟩, q1, fun fs hfs => ?_, ?_, ?_, ?_, hrows, ?_⟩
  · have h2 := hC_le kc cb
    have h3 : N * M ≤ 8 * 4 := Nat.mul_le_mul hN hM
    omega
  · obtain ⟨a1, a2, -⟩ := q5 fs hfs
    exact ⟨a1, by omega⟩
  · rw [q4]; have := cb.1; omega
  · intro i rs hrs x hx
    rw [List.getElem?_map] at hrs
    obtain ⟨fs, hfs, rfl⟩ := Option.map_eq_some_iff.mp hrs
    obtain ⟨hi, ei⟩ := List.getElem?_eq_some_iff.mp hfs
    have hfm := List.mem_of_getElem? hfs
    obtain ⟨a1, a2, a3, a4⟩ := q5 fs hfm
    refine ⟨?_, ?_⟩
    · obtain ⟨c1, w, hw⟩ := vr_of a1 a4 hx
      rcases hw with hw | hw | ⟨j, ej, j1, j2⟩
      · rw [hw] at c1; cases c1
      · cases hw
      · rw [ej]
        unfold seen0
        split
        · simp only [List.mem_cons, List.not_mem_nil, or_false]
          rintro (h | h)
          · exact zn_ne_x j h
          · exact zn_ne_y j h
        · exact List.not_mem_nil
    · intro j rs' hj hrs'
      rw [List.getElem?_map] at hrs'
      obtain ⟨fs', hfs', rfl⟩ := Option.map_eq_some_iff.mp hrs'
      obtain ⟨hj', ej⟩ := List.getElem?_eq_some_iff.mp hfs'
      have := List.pairwise_iff_getElem.mp q6 j i hj' hi hj
      rw [ei, ej] at this
      exact this x hx
  · intro hs rs hrs
    unfold varsR
    rw [List.filter_eq_nil_iff]
    intro n hn
    obtain ⟨x, hx, rfl⟩ := List.mem_map.mp hn
    have := hrows rs hrs x hx
    unfold rowOk at this
    rw [if_pos hs] at this
    rw [isC_of this.2]
    decide
  · intro V
    rw [Bool.eq_iff_iff, ← hev V, List.all_eq_true]
    have e1 : (∀ σ, ev (Us V σ) r = true) ↔ ∀ fs ∈ cls r, CT V fs := by
      constructor
      · intro h fs hfs σ
        have h2 := h σ
        rw [← ev_cls] at h2
        exact List.all_eq_true.mp h2 fs hfs
      · intro h σ
        rw [← ev_cls]
        exact List.all_eq_true.mpr fun fs hfs => h fs hfs σ
    rw [e1, ← q7 V]
    constructor
    · intro h rs hrs
      obtain ⟨fs, hfs, rfl⟩ := List.mem_map.mp hrs
      exact (clB_CT (q5 fs hfs).1).mpr (h fs hfs)
    · intro h fs hfs
      exact (clB_CT (q5 fs hfs).1).mp (h _ (List.mem_map.mpr ⟨fs, hfs, rfl⟩))
theorem atS_app (sh : Nat) (k : Nat) : ∃ f a, atS sh k = .app f a := ⟨_, _, rfl⟩
theorem three {k : Nat} (h : k < 3) : k = 0 ∨ k = 1 ∨ k = 2 := by omega
/-- shape 0 -/
theorem plain0 {t : Tr} (h3 : tk3 t) (hc : cnT t ≤ 3) : Fine 0 t (nf true (fmT (atS 0) t)) 0 := by
  have hq := qf_fmT (at_ := atS 0) (fun k => rfl) t
  have hA : allA (fun w a => w = "dog" ∧ (a = "rex" ∨ a = "tom" ∨ a = "ann")) (nf true (fmT (atS 0) t)) := allA_nf true (allA_fmT (fun k hk => by
    rcases three hk with rfl | rfl | rfl
    · exact ⟨rfl, .inl rfl⟩
    · exact ⟨rfl, .inr (.inl rfl)⟩
    · exact ⟨rfl, .inr (.inr rfl)⟩) h3)
  have hP : allA (PK (0 = 0) 0) (nf true (fmT (atS 0) t)) := allA.mono (fun w a x => ⟨.inl x.1, .inl ⟨rfl, isC_of x.2⟩⟩) hA
  have kc := okC_nf (f := fmT (atS 0) t) true hq
  have hlit := okC_cls kc
  refine fine_of (N := 8) (M := 4) (I := 0) kc ((CB_nf (atS_app 0) t true).le (Nat.le_trans (Nat.pow_le_pow_right (by decide) hc) (by decide)) (by omega)) (by decide) (by decide) (fun fs hfs => ?_) (by decide) (by decide) hP (fun _ => ⟨rfl, hA⟩) fun V => ?_
  · rw [List.length_eq_zero_iff.mpr (List.filter_eq_nil_iff.mpr fun n hn => ?_)]
    · exact Nat.le_refl _
    · obtain ⟨w, a, ⟨hw, ha⟩, hh⟩ := frC_of (hlit fs hfs) (allA_cls hA fs hfs) hn
      rcases hh with ⟨rfl, hi⟩ | rfl
      · rw [hw, ind_dog.1]; decide
      · rw [(ind_C (isC_of ha)).1]; decide
  · have e : ∀ σ, ev (Us V σ) (nf true (fmT (atS 0) t)) = due0 t V := fun σ => by
      rw [ev_nf _ _ _ hq, ev_fmT]
      have : trT (fun k => ev (Us V σ) (atS 0 k)) t = due0 t V := trT_congr (fun k hk => by
        show Us V σ (nth (wdS 0) k) (nth (nmS 0) k) = V "dog" (.inl (nth (nmS 0) k))
        have : isC (nth (nmS 0) k) = true ∧ nth (wdS 0) k = "dog" := by rcases three hk with rfl | rfl | rfl <;> exact ⟨by decide, rfl⟩
        unfold Us
        rw [this.1, this.2]
        rfl) h3
      rw [this]; cases due0 t V <;> rfl
    constructor
    · intro h
      have := h fun _ => false
      rw [e] at this
      exact this
    · intro h σ
      rw [e]
      exact h
noncomputable def GG (sh : Nat) (t : Tr) (V : Str → Th → Bool) (p q : Bool) : Bool := trT (fun k => V (nth (wdS sh) k) (.inr (if (if nth (nmS sh) k = "x" then p else q) = true then 1 else 0))) t
theorem due_GG {sh : Nat} {t : Tr} {V : Str → Th → Bool} (h0 : sh ≠ 0) : dueT sh t V = (GG sh t V false false && GG sh t V true false && GG sh t V false true && GG sh t V true true) := by
  unfold dueT
  rw [if_neg h0]
  have e : ∀ p (x y : Bool), ((p : Nat) : Int).fmod 2 = (if x = true then 1 else 0) → ((p : Nat) : Int).fdiv 2 = (if y = true then 1 else 0) → due1 sh t V p = GG sh t V x y := by
    intro p x y h1 h2
    unfold due1 GG plc
    congr 1
    funext k
    by_cases hk : nth (nmS sh) k = "x"
    · rw [if_pos hk, if_pos hk, h1]
    · rw [if_neg hk, if_neg hk, h2]
  show ([0, 1, 2, 3] : List Nat).all (due1 sh t V) = _
  simp only [List.all_cons, List.all_nil, Bool.and_true]
  rw [e 0 false false (by decide) (by decide), e 1 true false (by decide) (by decide), e 2 false true (by decide) (by decide), e 3 true true (by decide) (by decide)]
  cases GG sh t V false false <;> cases GG sh t V true false <;> cases GG sh t V false true <;> cases GG sh t V true true <;> rfl
theorem ev_GG {sh : Nat} {t : Tr} {r : Fm} {ρ : Str → Str} {X Y : Str} (h0 : sh ≠ 0) (hsh : sh < 4) (h3 : tk3 t) (hXY : X ≠ Y) (hX : isC X = false) (hY : isC Y = false) (hr : ∀ U, ev U r = ev (fun w a => U (ρ w) (ρ a)) (fmT (atS sh) t))
    (hw : ∀ w : Str, w = "dog" ∨ w = "old" → ρ w = w) (hn : ∀ k, k < 3 → ρ (nth (nmS sh) k) = if nth (nmS sh) k = "x" then X else Y) (V : Str → Th → Bool) : (∀ σ, ev (Us V σ) r = true) ↔ dueT sh t V = true := by
  have e : ∀ σ, ev (Us V σ) r = GG sh t V (σ X) (σ Y) := fun σ => by
    rw [hr, ev_fmT]
    refine trT_congr (fun k hk => ?_) h3
    show Us V σ (ρ (nth (wdS sh) k)) (ρ (nth (nmS sh) k)) = _
    rw [hw _ (wd_in hsh hk), hn k hk]
    unfold Us
    by_cases hx : nth (nmS sh) k = "x"
    · simp only [if_pos hx, hX]; rfl
    · simp only [if_neg hx, hY]; rfl
  rw [due_GG h0]
  simp only [Bool.and_eq_true]
  constructor
  · intro h
    have g : ∀ p q, GG sh t V p q = true := fun p q => by
      have := h fun b => if b = X then p else q
      rw [e] at this
      simpa [if_neg (Ne.symm hXY)] using this
    exact ⟨⟨⟨g _ _, g _ _⟩, g _ _⟩, g _ _⟩
  · rintro ⟨⟨⟨h1, h2⟩, h3⟩, h4⟩ σ
    rw [e]
    cases σ X <;> cases σ Y <;> assumption
end Mine
end

section
open PySem PySem.W PySem.Spec PySem.Calls PyProof.Rows
set_option Elab.async false
set_option maxRecDepth 100000
namespace Mine
set_option linter.unusedVariables false
set_option maxHeartbeats 1000000
theorem nineI {r : Fm} {N M : Nat} (kc : okC r = true) (cb : CB r N M) (hM : M ≤ 3) : ∀ fs ∈ cls r, ((frC fs).filter isInd).length ≤ 9 := fun fs hfs => by
  have h1 := List.length_filter_le isInd (frC fs)
  have h2 := frC_len (okC_cls kc fs hfs)
  have h3 := cb.2 fs hfs
  omega
theorem rpN_dog {x : Str} {y w : Str} (hx : x = "x" ∨ x = "y") (hw : w = "dog" ∨ w = "old") : rpN x y w = w := by
  refine if_neg ?_
  rcases hx with rfl | rfl <;> rcases hw with rfl | rfl <;> decide
theorem nm1 {k : Nat} (h : k < 3) : nth (nmS 1) k = "x" := by rcases three h with rfl | rfl | rfl <;> rfl
theorem zn12 : zn 1 ≠ zn 2 := fun h => absurd (zn_inj (by decide) (by decide) (by decide) (by decide) h) (by decide)
theorem plain1 {t : Tr} (h3 : tk3 t) (hc : cnT t ≤ 2) : Fine 1 t (rp "x" (zn 1) (nf true (fmT (atS 1) t))) 1 := by
  have hq := qf_fmT (at_ := atS 1) (fun k => rfl) t
  have kc0 := okC_nf (f := fmT (atS 1) t) true hq
  have kc := okC_rp (x := "x") (y := zn 1) kc0
  have cb0 := (CB_nf (atS_app 1) t true).le (Nat.le_trans (Nat.pow_le_pow_right (by decide) hc) (by decide) : _ ≤ 4) (by omega : _ ≤ 3)
  have cb := CB_rp (x := "x") (y := zn 1) cb0
  refine fine_of (N := 4) (M := 3) (I := 9) kc cb (by decide) (by decide) (nineI kc cb (by decide)) (by decide) (by decide) ?_ (fun h => by cases h) ?_
  · refine (allA_rp (okC_okr kc0)).mpr (allA_nf true (allA_fmT (fun k hk => ?_) h3))
    show PK _ 1 (rpN "x" (zn 1) (nth (wdS 1) k)) (rpN "x" (zn 1) (nth (nmS 1) k))
    rw [rpN_dog (.inl rfl) (wd_in (by decide) hk), nm1 hk]
    exact ⟨wd_in (by decide) hk, .inr ⟨1, if_pos rfl, by decide, by decide⟩⟩
  · refine ev_GG (ρ := rpN "x" (zn 1)) (X := zn 1) (Y := zn 2) (by decide) (by decide) h3 zn12 (isC_zn _) (isC_zn _) (fun U => ?_) (fun w hw => rpN_dog (.inl rfl) hw) (fun k hk => ?_)
    · rw [ev_rp _ (okC_okr kc0), ev_nf _ _ _ hq]; cases ev _ (fmT (atS 1) t) <;> rfl
    · rw [nm1 hk, if_pos rfl]; exact if_pos rfl
theorem plain2 {sh : Nat} (hsh : sh < 4) (h1 : 1 < sh) {t : Tr} (h3 : tk3 t) (hc : cnT t ≤ 2) : Fine sh t (rp "x" (zn 2) (rp "y" (zn 1) (nf true (fmT (atS sh) t)))) 2 := by
  have hq := qf_fmT (at_ := atS sh) (fun k => rfl) t
  have kc0 := okC_nf (f := fmT (atS sh) t) true hq
  have kc1 := okC_rp (x := "y") (y := zn 1) kc0
  have kc := okC_rp (x := "x") (y := zn 2) kc1
  have cb0 := (CB_nf (atS_app sh) t true).le (Nat.le_trans (Nat.pow_le_pow_right (by decide) hc) (by decide) : _ ≤ 4) (by omega : _ ≤ 3)
  have cb := CB_rp (x := "x") (y := zn 2) (CB_rp (x := "y") (y := zn 1) cb0)
  have hs0 : sh ≠ 0 := by omega
  have hn : ∀ k, k < 3 → rpN "x" (zn 2) (rpN "y" (zn 1) (nth (nmS sh) k)) = if nth (nmS sh) k = "x" then zn 2 else zn 1 := fun k hk => by
    rcases nm_in hsh hs0 hk with e | e
    · rw [e, if_pos rfl, show rpN "y" (zn 1) "x" = "x" from if_neg (by decide)]; exact if_pos rfl
    · rw [e, if_neg (by decide), show rpN "y" (zn 1) "y" = zn 1 from if_pos rfl]; exact if_neg (zn_ne_x 1)
  refine fine_of (N := 4) (M := 3) (I := 9) kc cb (by decide) (by decide) (nineI kc cb (by decide)) (by decide) (by decide) ?_ (fun h => absurd h hs0) ?_
  · refine (allA_rp (okC_okr kc1)).mpr ((allA_rp (okC_okr kc0)).mpr (allA_nf true (allA_fmT (fun k hk => ?_) h3)))
    show PK _ 2 (rpN "x" (zn 2) (rpN "y" (zn 1) (nth (wdS sh) k))) (rpN "x" (zn 2) (rpN "y" (zn 1) (nth (nmS sh) k)))
    rw [rpN_dog (.inr rfl) (wd_in hsh hk), rpN_dog (.inl rfl) (wd_in hsh hk), hn k hk]
    refine ⟨wd_in hsh hk, .inr ?_⟩
    split
    · exact ⟨2, rfl, by decide, by decide⟩
    · exact ⟨1, rfl, by decide, by decide⟩
  · refine ev_GG (ρ := fun a => rpN "x" (zn 2) (rpN "y" (zn 1) a)) (X := zn 2) (Y := zn 1) hs0 hsh h3 zn12.symm (isC_zn _) (isC_zn _) (fun U => ?_) (fun w hw => ?_) hn
    · rw [ev_rp _ (okC_okr kc1), ev_rp _ (okC_okr kc0), ev_nf _ _ _ hq]; cases ev _ (fmT (atS sh) t) <;> rfl
    · show rpN "x" (zn 2) (rpN "y" (zn 1) w) = w
      rw [rpN_dog (.inr rfl) hw, rpN_dog (.inl rfl) hw]
theorem wrap_sk {w : World} {z : Shared} {H : Heap} {k' : Int} {f r : Fm} (sg : Bool) (Ha : SkOk w z H 1 250 0 k' f r) (kr : okr r = true) (hd : 4 * hR r + 8 ≤ 250) (h0 : 0 ≤ k') (h1 : k' < 39) {k2 : Int} (hk : k' + 1 = k2) : SkOk w z H 0 299 0 k2 (if sg = true then .neg (.ex "x" (.neg f)) else .all "x" f) (rp "x" (zn k2) r) := by
  subst hk
  cases sg with
  | false => exact SkOk.le (sk_all (B := 0) Ha kr hd (by decide) (fun j => zn_ne_x j) h0 h1) (by decide)
  | true => exact SkOk.le (sk_notex (B := 0) (sk_notnot Ha) kr (by omega) (by decide) (fun j => zn_ne_x j) h0 h1) (by decide)
theorem plain_ok {sh : Nat} (hsh : sh < 4) {t : Tr} (h3 : tk3 t) (hc : cnT t ≤ if sh = 0 then 3 else 2) (sg : Bool) : ∃ r k', Fine sh t r k' ∧ ∀ w z H, SkOk w z H 0 299 0 k' (wrapF sh sg (fmT (atS sh) t)) r := by
  have hq := qf_fmT (at_ := atS sh) (fun k => rfl) t
  have hc3 : cnT t ≤ 3 := Nat.le_trans hc (by split <;> decide)
  have hqq := hq_fmT (atS_app sh) t
  have base : ∀ w z H B d, 200 ≤ d → SkOk w z H B d 0 0 (fmT (atS sh) t) (nf true (fmT (atS sh) t)) := fun w z H B d hd => SkOk.le (sk_qf w z H (fmT (atS sh) t) hq (bdd_fmT (atS_app sh) (by omega)) true 0) (by omega)
  have kc0 := okC_nf (f := fmT (atS sh) t) true hq
  by_cases h0 : sh = 0
  · subst h0
    exact ⟨_, 0, plain0 h3 hc3, fun w z H => base w z H 0 299 (by decide)⟩
  · rw [if_neg h0] at hc
    have cb0 := (CB_nf (atS_app sh) t true).le (Nat.le_trans (Nat.pow_le_pow_right (by decide) hc) (by decide) : _ ≤ 4) (by omega : _ ≤ 3)
    have hR0 : ∀ {r : Fm}, okC r = true → CB r 4 3 → hR r ≤ 35 := fun {r} k c => by
      have := okC_hR k
      have := hC_le k c
      omega
    by_cases h1 : sh = 1
    · subst h1
      refine ⟨_, 1, plain1 h3 hc, fun w z H => ?_⟩
      exact wrap_sk (k2 := 1) sg (base w z H 1 250 (by decide)) (okC_okr kc0) (by have := hR0 kc0 cb0; omega) (by decide) (by decide) rfl
    · refine ⟨_, 2, plain2 hsh (by omega) h3 hc, fun w z H => ?_⟩
      have e : wrapF sh sg (fmT (atS sh) t) = if sg = true then .neg (.ex "x" (.neg (.all "y" (fmT (atS sh) t)))) else .all "x" (.all "y" (fmT (atS sh) t)) := by
        unfold wrapF
        rw [if_pos (by omega : sh > 0), if_pos (by omega : sh > 1)]
      rw [e]
      have inner : SkOk w z H 1 250 0 1 (.all "y" (fmT (atS sh) t)) (rp "y" (zn 1) (nf true (fmT (atS sh) t))) := SkOk.le (sk_all (B := 1) (d := 240) (base w z H 2 240 (by decide)) (okC_okr kc0) (by have := hR0 kc0 cb0; omega) (by decide) (fun j => zn_ne_y j) (by decide) (by decide)) (by decide)
      have kc1 := okC_rp (x := "y") (y := zn 1) kc0
      have hd1 : 4 * hR (rp "y" (zn 1) (nf true (fmT (atS sh) t))) + 8 ≤ 250 := by have := hR0 kc1 (CB_rp cb0); omega
      have fin := fun (r : Fm) (i1 : SkOk w z H 1 250 0 1 (.all "y" (fmT (atS sh) t)) r) (k1 : okr r = true) (h1 : 4 * hR r + 8 ≤ 250) => @wrap_sk w z H 1 (.all "y" (fmT (atS sh) t)) r sg i1 k1 h1 (by decide) (by decide) 2 rfl
      exact @fin (rp "y" (zn 1) (nf true (fmT (atS sh) t))) inner (okC_okr kc1) hd1
end Mine
end

section
open PySem PySem.W PySem.Spec PySem.Calls PyProof.Rows
set_option Elab.async false
set_option maxRecDepth 100000
namespace Mine
set_option linter.unusedVariables false
set_option maxHeartbeats 400000
section
variable {w : World} {z : Shared} {H : Heap} {mu nw : List Ent} {L a : Addr} {m : Str → Option Value} {s : Shared} {A : Around} {E : Value → Shared → Prop} {B d : Nat} {env : Env}
theorem law_body {sl : Addr} {vs : List Value} {ns : List Int} {o1 o2 o3 o4 o5 : Obj} {Q : Flow → Shared → Prop} (Z : Sit w z H [(L + 5, o5), (L + 4, o4), (L + 3, o3), (L + 2, o2), (L + 1, o1)] [] L m s) (d1 : o1.data = .cell none) (d2 : o2.data = .cell none) (d3 : o3.data = .cell none) (d4 : o4.data = .cell none) (d5 : o5.data = .cell none)
    (hm : m "script" = some (.ref sl)) (hl : H.IsList sl vs.toArray) (hi : IntsAre vs ns) (hsz : vs.length ≤ 2 ^ 30) (rm : Room A 300) (hfr : A.frames = some [lawE L])
    (h : ∀ mu' nw' m' s', Sit w z H mu' nw' L m' s' → Q (.ret (.bool true)) s') : wpAny (Md w) A (execs lawB (lawE L)) Q E s := by
  refine lawA_ok Z d1 d2 hm hl hi hsz rm fun sh t b0 n0 t0 k0 p1 p2 nv wv tv fv ts nw1 m1 s1 hsh hc e1 e2 e3 e4 ht hf c1 dd1 hn c2 dd2 hwd Z1 rest1 hrest1 => ?_
  refine lawG_ok hrest1 Z1 rm hsh e1 e2 e4 hf fun sg fv2 nw2 m2 s2 le2 g4 g5 hf2 Z2 rest2 hrest2 => ?_
  obtain ⟨r, k', F, sk⟩ := plain_ok hsh (tk3_of ht) hc sg
  have hc3 : cnT t ≤ 3 := Nat.le_trans hc (by split <;> decide)
  refine lawH_ok (d := 299) hrest2 (by decide) (by have := F.hc; omega) Z2 rm hfr g4 hf2 (sk w z H) F.kc (by have := F.hc; omega) F.lit F.ok (fun fs hfs => ⟨(F.lit2 fs hfs).1, by have := (F.lit2 fs hfs).2; omega⟩) (by have := F.num; omega) fun rv nw3 s3 le3 hrv Z3 rest3 hrest3 => ?_
  have Z4 := Z3.perm (mu' := (L + 3, o3) :: [(L + 5, o5), (L + 4, o4)]) (List.perm_middle (l₁ := [(L + 5, o5), (L + 4, o4)]) (l₂ := []))
  have e5 : m2 "shape" = some (.int (sh : Nat) ts) := (g5 _ (by decide)).trans e1
  have e6 : m2 "tree" = some tv := (g5 _ (by decide)).trans e3
  have hrow19 : ∀ rs ∈ RSof r k', rs.length ≤ 19 := fun rs hrs => by
    obtain ⟨fs, hfs, rfl⟩ := List.mem_map.mp hrs
    rw [List.length_map]; exact (F.lit2 fs hfs).2
  have hnum : (RSof r k').length ≤ 50 := by rw [List.length_map]; exact F.num
  have s5 : (fun y => if y = "rows" then some rv else m2 y) "shape" = some (.int (sh : Nat) ts) := (if_neg (by decide)).trans e5
  have s6 : (fun y => if y = "rows" then some rv else m2 y) "tree" = some tv := (if_neg (by decide)).trans e6
  refine lawI_ok (RS := RSof r k') hrest3 Z4 d3 rm s5 (if_pos rfl) hrv hnum hrow19 F.dis F.none0 fun m4 nw4 s4 le4 hm4 Z5 rest4 hrest4 => ?_
  have le := le2.trans (le3.trans le4)
  have r3 : m4 "rows" = some rv := (hm4 _ (by decide) (by decide)).trans (if_pos rfl)
  refine lawL_ok (RS := RSof r k') hrest4 Z5 d4 d5 rm hsh ((hm4 _ (by decide) (by decide)).trans s5) ((hm4 _ (by decide) (by decide)).trans s6) r3 (ListR.mono hrv le4 fun _ _ x => x.mono le4) (ht.mono le) hc3 (le _ c1) dd1 (hn.mono le) (le _ c2) dd2 (hwd.mono le) hnum hrow19 F.rows F.law fun mu' nw' m' s' le' Z' => ?_
  exact h _ _ _ _ Z'
end
end Mine
end

section
open PySem PySem.W PySem.Spec PySem.Calls PyProof.Rows
set_option Elab.async false
set_option maxRecDepth 100000
namespace Mine
set_option linter.unusedVariables false
set_option maxHeartbeats 4000000
theorem tabsAt_of {w : World} {h : Heap} (X : (K w.params).In h) (h8 : ∀ P ∈ ts, h.get? P = some (tabObj #[])) : TabsAt tabs h := by
  intro q hq
  simp only [tabs, List.mem_cons, List.not_mem_nil, or_false] at hq
  rcases hq with rfl | rfl | rfl | rfl
  · exact ⟨codeHd_of_K (c := 301) (P := 297) X (by kernel_rfl), h8 297 (.tail _ (.head _))⟩
  · exact ⟨codeHd_of_K (c := 294) (P := 290) X (by kernel_rfl), h8 290 (.tail _ (.tail _ (.head _)))⟩
  · exact ⟨codeHd_of_K (c := 282) (P := 278) X (by kernel_rfl), h8 278 (.tail _ (.tail _ (.tail _ (.head _))))⟩
  · exact ⟨codeHd_of_K (c := 268) (P := 264) X (by kernel_rfl), h8 264 (.tail _ (.tail _ (.tail _ (.tail _ (.head _)))))⟩
theorem ghost_head {h : Heap} (hT : TabsAt tabs h) : ∀ q ∈ tabs, CodeHd (ghostOf h tabs) q.1 q.2 := fun q hq => by
  obtain ⟨o, vs, file, tf, flags, tg, inF, text, tt, e1, r1, r2, r3, r4, r5, r6, r7, r8, hne⟩ := (hT q hq).1
  exact ⟨o, vs, file, tf, flags, tg, inF, text, tt, ghost_get hT e1 (fun q => by rw [q] at r1; cases r1), r1, r2, r3, r4, r5, r6, r7, r8, hne⟩
theorem grown_of {h : Heap} : ∀ {l : List (Addr × Addr)}, (∀ q ∈ l, GrownAt q.2 h) → GrownAll l h
  | [], _ => trivial
  | q :: l, x => ⟨x q (.head _), grown_of fun r hr => x r (.tail _ hr)⟩
theorem K_noTabs (w : World) : noTabs (K w.params) = true := by kernel_rfl
theorem five {cm : Str → Option Value} {L : Addr} {cells : List (Addr × Obj)} (hn : cm "place" = none ∧ cm "world" = none ∧ cm "seen" = none ∧ cm "words" = none ∧ cm "names" = none) (Y : CellsAre cm [("place", L + 5), ("world", L + 4), ("seen", L + 3), ("words", L + 2), ("names", L + 1)] cells) :
    ∃ o5 o4 o3 o2 o1 : Obj, cells = [(L + 5, o5), (L + 4, o4), (L + 3, o3), (L + 2, o2), (L + 1, o1)] ∧ o5.data = .cell none ∧ o4.data = .cell none ∧ o3.data = .cell none ∧ o2.data = .cell none ∧ o1.data = .cell none := by
  obtain ⟨h5, h4, h3, h2, h1⟩ := hn
  cases Y with | cons c5 Y => cases Y with | cons c4 Y => cases Y with | cons c3 Y => cases Y with | cons c2 Y => cases Y with | cons c1 Y => cases Y with | nil => exact ⟨_, _, _, _, _, rfl, h5 ▸ c5, h4 ▸ c4, h3 ▸ c3, h2 ▸ c2, h1 ▸ c1⟩
theorem law_call {w : World} {s₁ : Shared} {mg mb : Str → Option Value} {p : Program} {loose : List Str} {mean : ExcName → Option Value} (T : Top p loose mean mg mb s₁.heap) (KX : (K w.params).In s₁.heap) (hT : TabsAt tabs s₁.heap)
    {sl : Addr} {vs : List Value} {ns : List Int} (hl : s₁.heap.IsList sl vs.toArray) (hi : IntsAre vs ns) (hsz : vs.length ≤ 2 ^ 30) {R : Result → Shared → Prop}
    (h : ∀ L s' m', Fr (ghostOf s₁.heap tabs) L s'.heap m' → s'.gens = s₁.gens → s'.os = s₁.os → GrownAll tabs s'.heap → R (.ok (.ret (.bool true))) s') : codeAny (Md w) callerA (.call (.ref 1266) ⟨[.ref sl], []⟩) R s₁ := by
  have gl : Glob w (ghostOf s₁.heap tabs) := ⟨ghost_K hT KX (K_noTabs w), ⟨_, _, _, _, _, ghost_top hT T⟩, ghost_head hT⟩
  refine enterTop (d := 300) (binds := [("script", .ref sl)]) gl (fun b o e => of_hideAll _ e) (Nat.le_of_eq (hideAll_size _ _)) (fun q hq => ⟨#[], (hT q hq).2, trivial, fun pos cv e => by cases e⟩) (fun q hq => hideAll_none _ (List.mem_map_of_mem hq)) ⟨by decide, by decide, rfl⟩ rfl (by kernel_rfl) (BindsTo.of_eq rfl) (kindsX (by kernel_rfl)) (by decide) ⟨rfl, rfl, rfl⟩ fun L' s1 cells Y Z rm => ?_
  obtain ⟨o5, o4, o3, o2, o1, rfl, c5, c4, c3, c2, c1⟩ := five ⟨rfl, rfl, rfl, rfl, rfl⟩ Y
  refine law_body (Q := fun fl s' => R (.ok (.ret (match fl with | .ret v => v | _ => .none))) s') Z c1 c2 c3 c4 c5 rfl (ghost_list hT hl) hi hsz rm rfl fun mu' nw' m' s' Z' => ?_
  exact h _ _ _ Z'.F Z'.rest.1 Z'.rest.2 (grown_of fun q hq => let ⟨ps, e, _⟩ := Z'.tb q hq; ⟨ps, e⟩)
theorem nLaw (w : World) : nsIn (KK w) mainGlobals "law" = some (some (.ref 1266)) := by kernel_rfl
theorem final : PySem.Challenge.rw_ao0015_01.Holds := by
  refine hd _ rfl rfl rfl ?_
  intro w s₀ s₁ mg mb G Y fa o pm cd doc dV kV ho hd hcd hD hmg hg args vals as hpre hlay hrd hwl hlo
  have KX := km_in_of Y
  have hT := tabsAt_of KX (km_tabs_of Y)
  refine Ground.open G ?_
  intro T B D TE TW
  have e1 := mg_of KX T.g (nLaw w)
  have e2 : fa = 1266 := by
    have := hmg.symm.trans e1
    injection this with this
    injection this
  subst e2
  clear hd ho hcd hD hmg
  wrow_args hpre hlay hrd hwl hlo
  all_goals (
    refine enter_call ?_
    refine kn_post hT (fun _ _ => rfl) ?_
    rename Heap.IsList _ _ _ => hL
    rename IntsAre _ _ => hI
    rename ¬ (_ : Int) < _ => hlen
    have hsz := hI.length
    refine law_call T KX hT hL hI (by omega) fun L s' m' F e1 e2 gr => ⟨?_, gr⟩
    have hgens : s'.gens = #[] := e1.trans hg
    refine goodW_bool F hgens (fun _ => rfl) ?_ e2
    wrow_post)
end Mine
end

theorem PySem.Challenge.cw_ao0015_01_holds : PySem.Challenge.rw_ao0015_01.Holds :=
  Mine.final

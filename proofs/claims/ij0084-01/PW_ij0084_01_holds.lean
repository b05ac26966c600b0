import PyProof.Rows.All
import Wide.All
import OpenK.AllK
import Wide.FinOn
import Lean
import PySem.Challenge.RW_ij0084_01
open PySem PySem.W PyProof.Rows
set_option Elab.async false
set_option maxRecDepth 100000
set_option maxHeartbeats 8000000
namespace Mine
def nth : List Stmt → Nat → Stmt
  | [], _ => .Pass ⟨0, 0, 0, 0⟩
  | s :: _, 0 => s
  | _ :: r, n + 1 => nth r n
noncomputable def st (i : Nat) : Stmt := nth PySem.Challenge.pw_ij0084_01.main.body i
def sub (s : Stmt) (i : Nat) : Stmt := match s with
  | .ClassDef _ _ _ b _ _ _ _ _ _ _ => nth b i
  | s => s
def fdP (s : Stmt) : Arguments := match s with
  | .FunctionDef _ a _ _ _ _ _ _ _ _ => a
  | _ => ⟨[], [], none, [], [], none, []⟩
def fdB (s : Stmt) : List Stmt := match s with
  | .FunctionDef _ _ b _ _ _ _ _ _ _ => b
  | _ => []
def fdD (s : Stmt) : Str := match fdB s with
  | .Expr (.Constant (.str x) _ _) _ :: _ => x
  | _ => Str.empty
def fdS (s : Stmt) : Scope := match s with
  | .FunctionDef _ _ _ _ _ _ sc _ _ _ => sc
  | _ => default
noncomputable def f50 : Obj := ⟨(.type "function"), .none, (.func ⟨"translate", "translate", (fdP (st 4)), (.stmts (fdB (st 4))), (fdS (st 4)), 3, [], .none, .none, (.str (fdD (st 4)) 337), (.str "cpy313.fnmatch" 289), .none, (.ref 49), .none, 0⟩), #[]⟩
noncomputable def o50 : Obj := by
  refine (fun (x : Obj) (_ : f50 = x) => x) ?x ?h
  case h => dsimp only [f50, st, sub, nth, fdP, fdB, fdS, fdD, PySem.Challenge.pw_ij0084_01]; exact rfl

noncomputable def f62 : Obj := ⟨(.type "function"), .none, (.func ⟨"escape", "escape", (fdP (st 7)), (.stmts (fdB (st 7))), (fdS (st 7)), 3, [], .none, .none, .none, (.str "re" 339), .none, (.ref 61), .none, 0⟩), #[]⟩
noncomputable def o62 : Obj := by
  refine (fun (x : Obj) (_ : f62 = x) => x) ?x ?h
  case h => dsimp only [f62, st, sub, nth, fdP, fdB, fdS, fdD, PySem.Challenge.pw_ij0084_01]; exact rfl

noncomputable def f69 : Obj := ⟨(.type "function"), .none, (.func ⟨"_translate", "_translate", (fdP (st 9)), (.stmts (fdB (st 9))), (fdS (st 9)), 3, [], .none, .none, .none, (.str "cpy313.fnmatch" 494), .none, (.ref 68), .none, 0⟩), #[]⟩
noncomputable def o69 : Obj := by
  refine (fun (x : Obj) (_ : f69 = x) => x) ?x ?h
  case h => dsimp only [f69, st, sub, nth, fdP, fdB, fdS, fdD, PySem.Challenge.pw_ij0084_01]; exact rfl

noncomputable def f76 : Obj := ⟨(.type "function"), .none, (.func ⟨"_join_translated_parts", "_join_translated_parts", (fdP (st 10)), (.stmts (fdB (st 10))), (fdS (st 10)), 3, [], .none, .none, .none, (.str "cpy313.fnmatch" 494), .none, (.ref 75), .none, 0⟩), #[]⟩
noncomputable def o76 : Obj := by
  refine (fun (x : Obj) (_ : f76 = x) => x) ?x ?h
  case h => dsimp only [f76, st, sub, nth, fdP, fdB, fdS, fdD, PySem.Challenge.pw_ij0084_01]; exact rfl

noncomputable def f137 : Obj := ⟨(.type "function"), .none, (.func ⟨"__new__", "Pair.__new__", (fdP (sub (st 13) 4)), (.stmts (fdB (sub (st 13) 4))), (fdS (sub (st 13) 4)), 3, [], .none, .none, (.str (fdD (sub (st 13) 4)) 615), (.str "cpy313.importlib.metadata._collections" 528), .none, (.ref 136), .none, 0⟩), #[]⟩
noncomputable def o137 : Obj := by
  refine (fun (x : Obj) (_ : f137 = x) => x) ?x ?h
  case h => dsimp only [f137, st, sub, nth, fdP, fdB, fdS, fdD, PySem.Challenge.pw_ij0084_01]; exact rfl

noncomputable def f204 : Obj := ⟨(.type "function"), .none, (.func ⟨"parse", "Pair.parse", (fdP (sub (st 14) 0)), (.stmts (fdB (sub (st 14) 0))), (fdS (sub (st 14) 0)), 3, [], .none, .none, .none, (.str "cpy313.importlib.metadata._collections" 528), (.some 207), (.ref 203), .none, 0⟩), #[]⟩
noncomputable def o204 : Obj := by
  refine (fun (x : Obj) (_ : f204 = x) => x) ?x ?h
  case h => dsimp only [f204, st, sub, nth, fdP, fdB, fdS, fdD, PySem.Challenge.pw_ij0084_01]; exact rfl

noncomputable def f220 : Obj := ⟨(.type "function"), .none, (.func ⟨"_law_blanks", "_law_blanks", (fdP (st 16)), (.stmts (fdB (st 16))), (fdS (st 16)), 3, [], .none, .none, .none, (.str "law_ij0084_01" 740), .none, (.ref 219), .none, 0⟩), #[]⟩
noncomputable def o220 : Obj := by
  refine (fun (x : Obj) (_ : f220 = x) => x) ?x ?h
  case h => dsimp only [f220, st, sub, nth, fdP, fdB, fdS, fdD, PySem.Challenge.pw_ij0084_01]; exact rfl

noncomputable def f227 : Obj := ⟨(.type "function"), .none, (.func ⟨"_law_text", "_law_text", (fdP (st 17)), (.stmts (fdB (st 17))), (fdS (st 17)), 3, [], .none, .none, .none, (.str "law_ij0084_01" 740), .none, (.ref 226), .none, 0⟩), #[]⟩
noncomputable def o227 : Obj := by
  refine (fun (x : Obj) (_ : f227 = x) => x) ?x ?h
  case h => dsimp only [f227, st, sub, nth, fdP, fdB, fdS, fdD, PySem.Challenge.pw_ij0084_01]; exact rfl

noncomputable def f234 : Obj := ⟨(.type "function"), .none, (.func ⟨"_law_depth", "_law_depth", (fdP (st 18)), (.stmts (fdB (st 18))), (fdS (st 18)), 3, [], .none, .none, .none, (.str "law_ij0084_01" 740), .none, (.ref 233), .none, 0⟩), #[]⟩
noncomputable def o234 : Obj := by
  refine (fun (x : Obj) (_ : f234 = x) => x) ?x ?h
  case h => dsimp only [f234, st, sub, nth, fdP, fdB, fdS, fdD, PySem.Challenge.pw_ij0084_01]; exact rfl

noncomputable def f241 : Obj := ⟨(.type "function"), .none, (.func ⟨"_law_forest", "_law_forest", (fdP (st 19)), (.stmts (fdB (st 19))), (fdS (st 19)), 3, [], .none, .none, .none, (.str "law_ij0084_01" 740), .none, (.ref 240), .none, 0⟩), #[]⟩
noncomputable def o241 : Obj := by
  refine (fun (x : Obj) (_ : f241 = x) => x) ?x ?h
  case h => dsimp only [f241, st, sub, nth, fdP, fdB, fdS, fdD, PySem.Challenge.pw_ij0084_01]; exact rfl

noncomputable def f248 : Obj := ⟨(.type "function"), .none, (.func ⟨"_law_quoted", "_law_quoted", (fdP (st 20)), (.stmts (fdB (st 20))), (fdS (st 20)), 3, [], .none, .none, .none, (.str "law_ij0084_01" 740), .none, (.ref 247), .none, 0⟩), #[]⟩
noncomputable def o248 : Obj := by
  refine (fun (x : Obj) (_ : f248 = x) => x) ?x ?h
  case h => dsimp only [f248, st, sub, nth, fdP, fdB, fdS, fdD, PySem.Challenge.pw_ij0084_01]; exact rfl

noncomputable def f255 : Obj := ⟨(.type "function"), .none, (.func ⟨"_law_written", "_law_written", (fdP (st 21)), (.stmts (fdB (st 21))), (fdS (st 21)), 3, [], .none, .none, .none, (.str "law_ij0084_01" 740), .none, (.ref 254), .none, 0⟩), #[]⟩
noncomputable def o255 : Obj := by
  refine (fun (x : Obj) (_ : f255 = x) => x) ?x ?h
  case h => dsimp only [f255, st, sub, nth, fdP, fdB, fdS, fdD, PySem.Challenge.pw_ij0084_01]; exact rfl

noncomputable def f262 : Obj := ⟨(.type "function"), .none, (.func ⟨"_law_one", "_law_one", (fdP (st 22)), (.stmts (fdB (st 22))), (fdS (st 22)), 3, [], .none, .none, .none, (.str "law_ij0084_01" 740), .none, (.ref 261), .none, 0⟩), #[]⟩
noncomputable def o262 : Obj := by
  refine (fun (x : Obj) (_ : f262 = x) => x) ?x ?h
  case h => dsimp only [f262, st, sub, nth, fdP, fdB, fdS, fdD, PySem.Challenge.pw_ij0084_01]; exact rfl

noncomputable def f269 : Obj := ⟨(.type "function"), .none, (.func ⟨"_law_only", "_law_only", (fdP (st 23)), (.stmts (fdB (st 23))), (fdS (st 23)), 3, [], .none, .none, .none, (.str "law_ij0084_01" 740), .none, (.ref 268), .none, 0⟩), #[]⟩
noncomputable def o269 : Obj := by
  refine (fun (x : Obj) (_ : f269 = x) => x) ?x ?h
  case h => dsimp only [f269, st, sub, nth, fdP, fdB, fdS, fdD, PySem.Challenge.pw_ij0084_01]; exact rfl

noncomputable def f274 : Obj := ⟨(.type "function"), .none, (.func ⟨"_law_read", "_law_read", (fdP (st 24)), (.stmts (fdB (st 24))), (fdS (st 24)), 3, [], .none, .none, .none, (.str "law_ij0084_01" 740), .none, (.ref 273), .none, 0⟩), #[]⟩
noncomputable def o274 : Obj := by
  refine (fun (x : Obj) (_ : f274 = x) => x) ?x ?h
  case h => dsimp only [f274, st, sub, nth, fdP, fdB, fdS, fdD, PySem.Challenge.pw_ij0084_01]; exact rfl

noncomputable def f279 : Obj := ⟨(.type "function"), .none, (.func ⟨"law", "law", (fdP (st 25)), (.stmts (fdB (st 25))), (fdS (st 25)), 3, [], .none, .none, .none, (.str "law_ij0084_01" 740), .none, (.ref 278), .none, 0⟩), #[]⟩
noncomputable def o279 : Obj := by
  refine (fun (x : Obj) (_ : f279 = x) => x) ?x ?h
  case h => dsimp only [f279, st, sub, nth, fdP, fdB, fdS, fdD, PySem.Challenge.pw_ij0084_01]; exact rfl
noncomputable def K : Params → Frag := fun P =>
  (nat_lit 2, ⟨.none, .none, (.dict #[⟨(PyData.keyHash P "\x69mport.loaded._sre"), (.str "\x69mport.loaded._sre" 183), (.bool true)⟩, ⟨(PyData.keyHash P "class._frozen_importlib.BuiltinImporter"), (.str "class._frozen_importlib.BuiltinImporter" 185), (.ref 14)⟩, ⟨(PyData.keyHash P "watched.\x69mport"), (.str "watched.\x69mport" 206), (.ref 18)⟩, ⟨(PyData.keyHash P "class._frozen_importlib.ModuleSpec"), (.str "class._frozen_importlib.ModuleSpec" 216), (.ref 22)⟩, ⟨(PyData.keyHash P "sys.modules.booked-epoch"), (.str "sys.modules.booked-epoch" 245), (.int 3 0)⟩, ⟨(PyData.keyHash P "\x69mport.later-laid._sre"), (.str "\x69mport.later-laid._sre" 270), (.bool true)⟩, ⟨(PyData.keyHash P "watched.library"), (.str "watched.library" 272), (.ref 27)⟩, ⟨(PyData.keyHash P "watched.library-objects"), (.str "watched.library-objects" 0), (.str "\x0c" 0)⟩, ⟨(PyData.keyHash P "watched.library-deep._sre"), (.str "watched.library-deep._sre" 273), (.str "\x04\x00\x00\x0b\x04\x00\x00\x0b\x04\x00\x00\x03\x04\x00\x00\x0b\x08\x04dict\x02" 0)⟩] 9), #[]⟩) ::
  (nat_lit 3, ⟨(.type "dict"), .none, (.dict #[⟨(PyData.keyHash P "__name__"), (.str "__name__" 165), (.str "law_ij0084_01" 740)⟩, ⟨(PyData.keyHash P "__doc__"), (.str "__doc__" 166), .none⟩, ⟨(PyData.keyHash P "__package__"), (.str "__package__" 167), .none⟩, ⟨(PyData.keyHash P "__loader__"), (.str "__loader__" 168), (.builtin "__main__.__loader__#opaque")⟩, ⟨(PyData.keyHash P "__spec__"), (.str "__spec__" 169), .none⟩, ⟨(PyData.keyHash P "__annotations__"), (.str "__annotations__" 170), (.ref 6)⟩, ⟨(PyData.keyHash P "__builtins__"), (.str "__builtins__" 171), (.ref 4)⟩, ⟨(PyData.keyHash P "__file__"), (.str "__file__" 173), (.str "/claim/cut.py" 172)⟩, ⟨(PyData.keyHash P "__cached__"), (.str "__cached__" 174), .none⟩, ⟨(PyData.keyHash P "_sre"), (.str "_sre" 275), (.ref 12)⟩, ⟨(PyData.keyHash P "_wall"), (.str "_wall" 288), (.ref 38)⟩, ⟨(PyData.keyHash P "_twin_re_1"), (.str "_twin_re_1" 328), (.ref 43)⟩, ⟨(PyData.keyHash P "translate"), (.str "translate" 338), (.ref 50)⟩, ⟨(PyData.keyHash P "_special_chars_map"), (.str "_special_chars_map" 486), (.ref 52)⟩, ⟨(PyData.keyHash P "escape"), (.str "escape" 493), (.ref 62)⟩, ⟨(PyData.keyHash P "_translate"), (.str "_translate" 514), (.ref 69)⟩, ⟨(PyData.keyHash P "_join_translated_parts"), (.str "_join_translated_parts" 527), (.ref 76)⟩, ⟨(PyData.keyHash P "_tuplegetter"), (.str "_tuplegetter" 586), (.ref 115)⟩, ⟨(PyData.keyHash P "Pair"), (.str "Pair" 701), (.ref 210)⟩, ⟨(PyData.keyHash P "_law_blanks"), (.str "_law_blanks" 747), (.ref 220)⟩, ⟨(PyData.keyHash P "_law_text"), (.str "_law_text" 759), (.ref 227)⟩, ⟨(PyData.keyHash P "_law_depth"), (.str "_law_depth" 766), (.ref 234)⟩, ⟨(PyData.keyHash P "_law_forest"), (.str "_law_forest" 776), (.ref 241)⟩, ⟨(PyData.keyHash P "_law_quoted"), (.str "_law_quoted" 786), (.ref 248)⟩, ⟨(PyData.keyHash P "_law_written"), (.str "_law_written" 796), (.ref 255)⟩, ⟨(PyData.keyHash P "_law_one"), (.str "_law_one" 804), (.ref 262)⟩, ⟨(PyData.keyHash P "_law_only"), (.str "_law_only" 815), (.ref 269)⟩, ⟨(PyData.keyHash P "_law_read"), (.str "_law_read" 821), (.ref 274)⟩, ⟨(PyData.keyHash P "law"), (.str "law" 827), (.ref 279)⟩] 29), #[]⟩) ::
  (nat_lit 42, ⟨(.type "tuple"), .none, (.seq #[(.int 14 0), (.int 14 0), (.int 4 0), (.int 1 0), (.int 1 0), (.int 9 0), (.int 0 0), (.int 64 0), (.int 0 0), (.int 1342177280 0), (.int 0 0), (.int 0 0), (.int 0 0), (.int 0 0), (.int 0 0), (.int 17 0), (.int 0 0), (.int 13 0), (.int 11 0), (.int 9 0), (.int 0 0), (.int 64 0), (.int 0 0), (.int 1342177280 0), (.int 0 0), (.int 0 0), (.int 0 0), (.int 0 0), (.int 0 0), (.int 17 0), (.int 1 0), (.int 1 0)] 0), #[]⟩) ::
  (nat_lit 43, ⟨(.type "re.Pattern"), .none, (.fields #[(.str "([&~|])" 292), (.int 32 327), (.int 1 0), .none, .none, (.ref 42), (.int 0 0)]), #[]⟩) ::
  (nat_lit 49, ⟨(.type "code"), .none, (.fields #[(.str "translate" 329), (.str "translate" 330), (.str "/claim/cut.py" 331), (.int 7 0), (.int 1 0), (.int 0 0), (.int 0 0), (.int 3 0), (.ref 44), (.bool true), (.int 276 0), (.ref 45), .none, (.ref 46), (.ref 47), (.ref 48), (.int 335 0), (.int 7 0), (.str "/claim/cut.py" 336)]), #[]⟩) ::
  (nat_lit 50, o50) ::
  (nat_lit 52, ⟨(.type "dict"), .none, (.dict #[⟨40, (.int 40 342), (.str "\\(" 346)⟩, ⟨41, (.int 41 348), (.str "\\)" 352)⟩, ⟨91, (.int 91 354), (.str "\\[" 358)⟩, ⟨93, (.int 93 360), (.str "\\]" 364)⟩, ⟨123, (.int 123 366), (.str "\\{" 370)⟩, ⟨125, (.int 125 372), (.str "\\}" 376)⟩, ⟨63, (.int 63 378), (.str "\\?" 382)⟩, ⟨42, (.int 42 384), (.str "\\*" 388)⟩, ⟨43, (.int 43 390), (.str "\\+" 394)⟩, ⟨45, (.int 45 396), (.str "\\-" 400)⟩, ⟨124, (.int 124 402), (.str "\\|" 406)⟩, ⟨94, (.int 94 408), (.str "\\^" 412)⟩, ⟨36, (.int 36 414), (.str "\\$" 418)⟩, ⟨92, (.int 92 420), (.str "\\\\" 424)⟩, ⟨46, (.int 46 426), (.str "\\." 430)⟩, ⟨38, (.int 38 432), (.str "\\&" 436)⟩, ⟨126, (.int 126 438), (.str "\\~" 442)⟩, ⟨35, (.int 35 444), (.str "\\#" 448)⟩, ⟨32, (.int 32 450), (.str "\\ " 454)⟩, ⟨9, (.int 9 456), (.str "\\\t" 460)⟩, ⟨10, (.int 10 462), (.str "\\\n" 466)⟩, ⟨13, (.int 13 468), (.str "\\\r" 472)⟩, ⟨11, (.int 11 474), (.str "\\\x0b" 478)⟩, ⟨12, (.int 12 480), (.str "\\\x0c" 484)⟩] 24), #[]⟩) ::
  (nat_lit 61, ⟨(.type "code"), .none, (.fields #[(.str "escape" 487), (.str "escape" 488), (.str "/claim/cut.py" 489), (.int 17 0), (.int 1 0), (.int 0 0), (.int 0 0), (.int 3 0), (.ref 56), (.bool true), (.int 276 0), (.ref 57), .none, (.ref 58), (.ref 59), (.ref 60), (.int 491 0), (.int 17 0), (.str "/claim/cut.py" 492)]), #[]⟩) ::
  (nat_lit 62, o62) ::
  (nat_lit 68, ⟨(.type "code"), .none, (.fields #[(.str "_translate" 496), (.str "_translate" 497), (.str "/claim/cut.py" 498), (.int 24 0), (.int 3 0), (.int 0 0), (.int 0 0), (.int 3 0), (.ref 63), (.bool true), (.int 276 0), (.ref 64), .none, (.ref 65), (.ref 66), (.ref 67), (.int 512 0), (.int 24 0), (.str "/claim/cut.py" 513)]), #[]⟩) ::
  (nat_lit 69, o69) ::
  (nat_lit 75, ⟨(.type "code"), .none, (.fields #[(.str "_join_translated_parts" 515), (.str "_join_translated_parts" 516), (.str "/claim/cut.py" 517), (.int 86 0), (.int 2 0), (.int 0 0), (.int 0 0), (.int 3 0), (.ref 70), (.bool true), (.int 276 0), (.ref 71), .none, (.ref 72), (.ref 73), (.ref 74), (.int 525 0), (.int 86 0), (.str "/claim/cut.py" 526)]), #[]⟩) ::
  (nat_lit 76, o76) ::
  (nat_lit 136, ⟨(.type "code"), .none, (.fields #[(.str "__new__" 607), (.str "Pair.__new__" 608), (.str "/claim/cut.py" 609), (.int 138 0), (.int 3 0), (.int 0 0), (.int 0 0), (.int 3 0), (.ref 131), (.bool true), (.int 276 0), (.ref 132), .none, (.ref 133), (.ref 134), (.ref 135), (.int 613 0), (.int 138 0), (.str "/claim/cut.py" 614)]), #[]⟩) ::
  (nat_lit 137, o137) ::
  (nat_lit 186, ⟨(.type "dict"), .none, (.dict #[⟨(PyData.keyHash P "__module__"), (.str "__module__" 594), (.str "cpy313.importlib.metadata._collections" 528)⟩, ⟨(PyData.keyHash P "__firstlineno__"), (.str "__firstlineno__" 598), (.int 132 597)⟩, ⟨(PyData.keyHash P "__doc__"), (.str "__doc__" 600), (.str "Pair(name, value)" 599)⟩, ⟨(PyData.keyHash P "__slots__"), (.str "__slots__" 602), (.ref 128)⟩, ⟨(PyData.keyHash P "_fields"), (.str "_fields" 605), (.ref 129)⟩, ⟨(PyData.keyHash P "_field_defaults"), (.str "_field_defaults" 606), (.ref 130)⟩, ⟨(PyData.keyHash P "__new__"), (.str "__new__" 616), (.ref 188)⟩, ⟨(PyData.keyHash P "_make"), (.str "_make" 638), (.ref 146)⟩, ⟨(PyData.keyHash P "_replace"), (.str "_replace" 649), (.ref 155)⟩, ⟨(PyData.keyHash P "__replace__"), (.str "__replace__" 650), (.ref 155)⟩, ⟨(PyData.keyHash P "__repr__"), (.str "__repr__" 658), (.ref 162)⟩, ⟨(PyData.keyHash P "_asdict"), (.str "_asdict" 665), (.ref 169)⟩, ⟨(PyData.keyHash P "__getnewargs__"), (.str "__getnewargs__" 673), (.ref 176)⟩, ⟨(PyData.keyHash P "__match_args__"), (.str "__match_args__" 676), (.ref 177)⟩, ⟨(PyData.keyHash P "name"), (.str "name" 686), (.ref 179)⟩, ⟨(PyData.keyHash P "value"), (.str "value" 696), (.ref 182)⟩, ⟨(PyData.keyHash P "__static_attributes__"), (.str "__static_attributes__" 697), (.ref 184)⟩] 2), #[]⟩) ::
  (nat_lit 187, ⟨(.type "type"), .none, (.cls ⟨"Pair", [(.type "tuple")], [(.ref 187), (.type "tuple"), (.type "object")], 186, "Pair", false, [], [(.ref 210)], false, .none, false⟩), #[(.some (.ref 120)), .none, (.some (.str "Pair" 587)), (.some (.str "Pair" 595)), (.some .none), (.some (.bool false))]⟩) ::
  (nat_lit 188, ⟨(.type "staticmethod"), .none, (.fields #[(.ref 137)]), #[]⟩) ::
  (nat_lit 203, ⟨(.type "code"), .none, (.fields #[(.str "parse" 714), (.str "Pair.parse" 715), (.str "/claim/cut.py" 716), (.int 176 0), (.int 2 0), (.int 0 0), (.int 0 0), (.int 3 0), (.ref 198), (.bool true), (.int 276 0), (.ref 199), .none, (.ref 200), (.ref 201), (.ref 202), (.int 719 0), (.int 176 0), (.str "/claim/cut.py" 720)]), #[]⟩) ::
  (nat_lit 204, o204) ::
  (nat_lit 206, ⟨(.type "classmethod"), (.some 205), (.fields #[(.ref 204), (.bool false)]), #[]⟩) ::
  (nat_lit 209, ⟨(.type "dict"), .none, (.dict #[⟨(PyData.keyHash P "__module__"), (.str "__module__" 709), (.str "cpy313.importlib.metadata._collections" 528)⟩, ⟨(PyData.keyHash P "__firstlineno__"), (.str "__firstlineno__" 713), (.int 174 712)⟩, ⟨(PyData.keyHash P "parse"), (.str "parse" 733), (.ref 206)⟩, ⟨(PyData.keyHash P "__static_attributes__"), (.str "__static_attributes__" 734), (.ref 208)⟩, ⟨(PyData.keyHash P "__dict__"), (.str "__dict__" 736), (.ref 211)⟩, ⟨(PyData.keyHash P "__doc__"), (.str "__doc__" 737), .none⟩] 3), #[]⟩) ::
  (nat_lit 210, ⟨(.type "type"), .none, (.cls ⟨"Pair", [(.ref 187)], [(.ref 210), (.ref 187), (.type "tuple"), (.type "object")], 209, "Pair", true, [], [], false, .none, false⟩), #[(.some (.ref 191)), .none, (.some (.str "Pair" 702)), (.some (.str "Pair" 710)), (.some .none), (.some (.bool false))]⟩) ::
  (nat_lit 219, ⟨(.type "code"), .none, (.fields #[(.str "_law_blanks" 742), (.str "_law_blanks" 743), (.str "/claim/cut.py" 744), (.int 180 0), (.int 0 0), (.int 0 0), (.int 0 0), (.int 3 0), (.ref 214), (.bool true), (.int 276 0), (.ref 215), .none, (.ref 216), (.ref 217), (.ref 218), (.int 745 0), (.int 180 0), (.str "/claim/cut.py" 746)]), #[]⟩) ::
  (nat_lit 220, o220) ::
  (nat_lit 226, ⟨(.type "code"), .none, (.fields #[(.str "_law_text" 748), (.str "_law_text" 749), (.str "/claim/cut.py" 750), (.int 182 0), (.int 1 0), (.int 0 0), (.int 0 0), (.int 3 0), (.ref 221), (.bool true), (.int 276 0), (.ref 222), .none, (.ref 223), (.ref 224), (.ref 225), (.int 757 0), (.int 182 0), (.str "/claim/cut.py" 758)]), #[]⟩) ::
  (nat_lit 227, o227) ::
  (nat_lit 233, ⟨(.type "code"), .none, (.fields #[(.str "_law_depth" 760), (.str "_law_depth" 761), (.str "/claim/cut.py" 762), (.int 193 0), (.int 1 0), (.int 0 0), (.int 0 0), (.int 3 0), (.ref 228), (.bool true), (.int 276 0), (.ref 229), .none, (.ref 230), (.ref 231), (.ref 232), (.int 764 0), (.int 193 0), (.str "/claim/cut.py" 765)]), #[]⟩) ::
  (nat_lit 234, o234) ::
  (nat_lit 240, ⟨(.type "code"), .none, (.fields #[(.str "_law_forest" 767), (.str "_law_forest" 768), (.str "/claim/cut.py" 769), (.int 197 0), (.int 1 0), (.int 0 0), (.int 0 0), (.int 3 0), (.ref 235), (.bool true), (.int 276 0), (.ref 236), .none, (.ref 237), (.ref 238), (.ref 239), (.int 774 0), (.int 197 0), (.str "/claim/cut.py" 775)]), #[]⟩) ::
  (nat_lit 241, o241) ::
  (nat_lit 247, ⟨(.type "code"), .none, (.fields #[(.str "_law_quoted" 777), (.str "_law_quoted" 778), (.str "/claim/cut.py" 779), (.int 205 0), (.int 2 0), (.int 0 0), (.int 0 0), (.int 3 0), (.ref 242), (.bool true), (.int 276 0), (.ref 243), .none, (.ref 244), (.ref 245), (.ref 246), (.int 784 0), (.int 205 0), (.str "/claim/cut.py" 785)]), #[]⟩) ::
  (nat_lit 248, o248) ::
  (nat_lit 254, ⟨(.type "code"), .none, (.fields #[(.str "_law_written" 787), (.str "_law_written" 788), (.str "/claim/cut.py" 789), (.int 215 0), (.int 2 0), (.int 0 0), (.int 0 0), (.int 3 0), (.ref 249), (.bool true), (.int 276 0), (.ref 250), .none, (.ref 251), (.ref 252), (.ref 253), (.int 794 0), (.int 215 0), (.str "/claim/cut.py" 795)]), #[]⟩) ::
  (nat_lit 255, o255) ::
  (nat_lit 261, ⟨(.type "code"), .none, (.fields #[(.str "_law_one" 797), (.str "_law_one" 798), (.str "/claim/cut.py" 799), (.int 221 0), (.int 1 0), (.int 0 0), (.int 0 0), (.int 3 0), (.ref 256), (.bool true), (.int 276 0), (.ref 257), .none, (.ref 258), (.ref 259), (.ref 260), (.int 802 0), (.int 221 0), (.str "/claim/cut.py" 803)]), #[]⟩) ::
  (nat_lit 262, o262) ::
  (nat_lit 268, ⟨(.type "code"), .none, (.fields #[(.str "_law_only" 805), (.str "_law_only" 806), (.str "/claim/cut.py" 807), (.int 228 0), (.int 1 0), (.int 0 0), (.int 0 0), (.int 3 0), (.ref 263), (.bool true), (.int 276 0), (.ref 264), .none, (.ref 265), (.ref 266), (.ref 267), (.int 813 0), (.int 228 0), (.str "/claim/cut.py" 814)]), #[]⟩) ::
  (nat_lit 269, o269) ::
  (nat_lit 273, ⟨(.type "code"), .none, (.fields #[(.str "_law_read" 816), (.str "_law_read" 817), (.str "/claim/cut.py" 818), (.int 249 0), (.int 2 0), (.int 0 0), (.int 0 0), (.int 3 0), (.ref 270), (.bool true), (.int 276 0), (.ref 271), .none, .none, .none, (.ref 272), (.int 819 0), (.int 249 0), (.str "/claim/cut.py" 820)]), #[]⟩) ::
  (nat_lit 274, o274) ::
  (nat_lit 278, ⟨(.type "code"), .none, (.fields #[(.str "law" 822), (.str "law" 823), (.str "/claim/cut.py" 824), (.int 259 0), (.int 1 0), (.int 0 0), (.int 0 0), (.int 3 0), (.ref 275), (.bool true), (.int 276 0), (.ref 276), .none, .none, .none, (.ref 277), (.int 825 0), (.int 259 0), (.str "/claim/cut.py" 826)]), #[]⟩) ::
  (nat_lit 279, o279) ::
  []
abbrev pw : Program := PySem.Challenge.pw_ij0084_01
/-- a def's contract: what a call of the def at `f` hands back, over any ledger `news` -/
def Con (w : World) (hd : Option Value) (f : Addr) (need : Nat) (news : List (Addr × Obj)) (vs : List Value) (R : Value → List (Addr × Obj) → Prop) : Prop :=
  ∀ (p : Program) (loose : List Str) (mean : ExcName → Option Value) (mg mb : Str → Option Value) (dp un : Nat) (gd : Option (List Code)) (env : Env) (outer : List Env) (A₀ : Around) (base h₀ : Heap) (L : Addr) (m : Str → Option Value) (s : Shared) (Q E : Value → Shared → Prop),
    Below A₀ base outer h₀ → Fr h₀ L s.heap m → (K w.params).In h₀ → News h₀ L s.heap news → Top p loose mean mg mb h₀ → env.frame = some L → env.scope.kind = .function → dp + need < recursionLimit → un + 8 * need < cLine →
    (∀ v news' h' tk', Fr h₀ L h' m → News h₀ L h' news' → R v news' → Q v { s with heap := h', toks := tk' }) →
    wpAny (model PySem.Challenge.pw_ij0084_01 w) { handled := hd, depth := dp, frames := some (env :: outer), guards := gd, units := un } (call (.ref f) vs) Q E s
theorem con_use {w : World} {f : Addr} {need : Nat} {news : List (Addr × Obj)} {vs : List Value} {R : Value → List (Addr × Obj) → Prop} {p : Program} {loose : List Str} {mean : ExcName → Option Value} {mg mb : Str → Option Value} {hd : Option Value} {dp un : Nat} {gd : Option (List Code)} {env : Env} {outer : List Env} {A₀ : Around} {base h₀ : Heap} {L : Addr} {m : Str → Option Value} {s : Shared} {Q E : Value → Shared → Prop}
    (B : Below A₀ base outer h₀) (F : Fr h₀ L s.heap m) (X : (K w.params).In h₀) (N : News h₀ L s.heap news) (T : Top p loose mean mg mb h₀) (he : env.frame = some L) (hk : env.scope.kind = .function) (C : Con w hd f need news vs R)
    (hdp : dp + need < recursionLimit) (hun : un + 8 * need < cLine)
    (ret : ∀ v news' h' tk', Fr h₀ L h' m → News h₀ L h' news' → R v news' → Q v { s with heap := h', toks := tk' }) :
    wpAny (model PySem.Challenge.pw_ij0084_01 w) { handled := hd, depth := dp, frames := some (env :: outer), guards := gd, units := un } (call (.ref f) vs) Q E s :=
  C p loose mean mg mb dp un gd env outer A₀ base h₀ L m s Q E B F X N T he hk hdp hun ret
theorem con_mono {w : World} {hd : Option Value} {f : Addr} {need : Nat} {news : List (Addr × Obj)} {vs : List Value} {R R' : Value → List (Addr × Obj) → Prop} (C : Con w hd f need news vs R) (h : ∀ v n, R v n → R' v n) : Con w hd f need news vs R' :=
  fun p loose mean mg mb dp un gd env outer A₀ base h₀ L m s Q E B F X N T he hk hdp hun ret =>
    C p loose mean mg mb dp un gd env outer A₀ base h₀ L m s Q E B F X N T he hk hdp hun fun v n h' tk' F' N' r => ret v n h' tk' F' N' (h v n r)
/-- the program's row, so that `k_fill` finds the program -/
theorem con_row {P : Prop} (h : PySem.Challenge.rw_ij0084_01 = PySem.Challenge.rw_ij0084_01 → P) : P := h rfl

set_option linter.unusedSimpArgs false
set_option linter.unusedVariables false
set_option rowWalk.seconds 0

namespace Hd
noncomputable def q : Program := view PySem.Challenge.pw_ij0084_01 [25]
def loose : List Str := ["_sre", "_wall", "_twin_re_1", "translate", "_special_chars_map", "escape", "_translate", "_join_translated_parts", "_tuplegetter", "Pair", "_law_blanks", "_law_text", "_law_depth", "_law_forest", "_law_quoted", "_law_written", "_law_one", "_law_only", "_law_read"]
noncomputable def hook : Hook := kmHook K [nat_lit 2, nat_lit 3, nat_lit 42, nat_lit 43, nat_lit 49, nat_lit 50, nat_lit 52, nat_lit 61, nat_lit 62, nat_lit 68, nat_lit 69, nat_lit 75, nat_lit 76, nat_lit 136, nat_lit 137, nat_lit 186, nat_lit 187, nat_lit 188, nat_lit 203, nat_lit 204, nat_lit 206, nat_lit 209, nat_lit 210, nat_lit 219, nat_lit 220, nat_lit 226, nat_lit 227, nat_lit 233, nat_lit 234, nat_lit 240, nat_lit 241, nat_lit 247, nat_lit 248, nat_lit 254, nat_lit 255, nat_lit 261, nat_lit 262, nat_lit 268, nat_lit 269, nat_lit 273, nat_lit 274, nat_lit 278, nat_lit 279] (fun _ => by kernel_rfl) [nat_lit 64]
set_option maxHeartbeats 0
noncomputable abbrev Xt0 : Shared → Bool := fun s => xlAt q [] s && recOk [] s
noncomputable def topFromF (tb : String → Option Builtin) (p : Program) (w : World) (N : Nat) (s₀ : Shared) : Option Shared :=
  match s₀.heap.isNs mainGlobals && s₀.gens.size == 0 with
  | true => (Fast.tw14082659384304107361 tb p w s₀.heap.objs.size (s₀.heap.nsMap mainGlobals "__annotations__") N s₀ (topStub p)).bind fun s₁ => match staticsOk (importedModules p.main.body) s₀.heap s₁.heap && namesBound p s₁.heap && gensDone s₁ && laidKept s₀.heap s₁.heap with
      | true => some s₁
      | false => none
  | false => none
noncomputable def fencedF (tb : String → Option Builtin) (p : Program) (w : World) (N : Nat) : Option Shared :=
  (Fast.tw10274390034422433532 tb (opening p) w N (start (opening p)).1 (start (opening p)).2).bind (Fast.tw14289696077712309145 p)
noncomputable def LF (w : World) := ((fencedF Fast.tw14364793385576792824 pw w 7032).bind (topFromF Fast.tw14364793385576792824 pw w 7032)).map (fun s => (Fast.tw4187177175401517315 q loose (importedModules pw.main.body) Xt0 true s, hook.obs s))
noncomputable def RF (w : World) := some (openGood q loose, hook.val w)
theorem lr (w : World) (h : LF w = RF w) : (openEnds treeTable pw w 7032).map (fun s => (openSeen q loose (importedModules pw.main.body) Xt0 true s, hook.obs s)) = some (openGood q loose, hook.val w) := by
  unfold LF RF fencedF topFromF at h
  rw [← Fast.te14082659384304107361, ← Fast.te10274390034422433532, ← Fast.te14289696077712309145, ← Fast.te14364793385576792824, ← Fast.te4187177175401517315] at h
  exact h
def r1 : String := "comprehension-iter-twice"
def r2 : String := "special-get-raises"
theorem c00 : ∀ w : World, LF ((w.withFollow "comprehension-iter-twice" false).withFollow "special-get-raises" false) = RF ((w.withFollow "comprehension-iter-twice" false).withFollow "special-get-raises" false) := fun w => by kernel_rfl
theorem c01 : ∀ w : World, LF ((w.withFollow "comprehension-iter-twice" false).withFollow "special-get-raises" true) = RF ((w.withFollow "comprehension-iter-twice" false).withFollow "special-get-raises" true) := fun w => by kernel_rfl
theorem c10 : ∀ w : World, LF ((w.withFollow "comprehension-iter-twice" true).withFollow "special-get-raises" false) = RF ((w.withFollow "comprehension-iter-twice" true).withFollow "special-get-raises" false) := fun w => by kernel_rfl
theorem c11 : ∀ w : World, LF ((w.withFollow "comprehension-iter-twice" true).withFollow "special-get-raises" true) = RF ((w.withFollow "comprehension-iter-twice" true).withFollow "special-get-raises" true) := fun w => by kernel_rfl
theorem left : LeftO pw q loose Xt0 hook.obs hook.val 7032 := fun w => lr w
  (byRow2 "special-get-raises" (P := fun w => LF w = RF w) (byRow2 "comprehension-iter-twice" (P := fun w => LF (w.withFollow "special-get-raises" false) = RF (w.withFollow "special-get-raises" false)) c00 c10) (byRow2 "comprehension-iter-twice" (P := fun w => LF (w.withFollow "special-get-raises" true) = RF (w.withFollow "special-get-raises" true)) c01 c11) w)
set_option maxHeartbeats 8000000
end Hd

local macro_rules
  | `(tactic| walk_at $s:str) => do
    let t := Lean.Syntax.mkStrLit (s.getString ++ "!")
    `(tactic| k_extra $t)

theorem kwl1 : True := by
  k_with "my room!" => ((
  (try simp only [depth_under_make, depth_under_kw, depth_in1, depth_deeper, depth_caller, units_in1, units_deeper, Around.mark_units, units_caller]); (try dsimp only); omega))
  trivial
local macro_rules | `(tactic| k_call_by "enter" $t) => `(tactic| (
  refine wpAny_call ?_
  k_dflt (refine' code_def (binds := $t) ?k1 ?k2 ?k3 ?k4 ?k5 ?kA ?kF ?kK ?k6 ?k7 ?k8 ?k9 ?kB ?_ ?c2 ?c3 ?c4 ?c5; (case kA => exact rfl); (case kF => assumption); (case kK => assumption); (case k1 => k_asm); (case k2 => k_asm); (case k3 => k_asm); (case k4 => k_asm); (case k5 => k_asm); (case k6 => k_is); (case k7 => k_is); (case k8 => walk_at "my room"); (case k9 => exact BindsTo.of_eq rfl); (case c5 => decide); (case kB => exact locs rfl); (case c2 => exact rfl); (case c3 => exact rfl); (case c4 => exact rfl); k_whole; intro g' L' h' FG' F' N' B' X' T'; (try dsimp only); (try k_fold))))
theorem kwl2 : True := by
  k_with "my open!" => ((refine con_row ?_; unfold Con; k_fill; intro _))
  k_with "my same!" => ((
  intro z z1 z2 z3
  simp only [List.forall_mem_cons, List.not_mem_nil, false_implies, implies_true, and_true, ne_eq] at z2
  simp only [List.contains_cons, List.contains_nil, Bool.or_false, Bool.or_eq_false_iff, beq_eq_false_iff_ne, ne_eq] at z3
  first | (simp [kstB, z1, z2, z3]; done) | (simp [kstB, z1, z2]; done) | fail "my same"))
  trivial
local macro_rules | `(tactic| k_call_by "con" $t) => `(tactic| (
  k_here
  k_dflt (refine' con_use ?k1 ?k2 ?k3 ?k4 ?k5 ?kA ?kK ?kC ?kd ?ku ?_
          (case k1 => k_asm); (case k2 => k_asm); (case k3 => k_asm); (case k4 => k_asm); (case k5 => k_asm); (case kA => exact rfl); (case kK => exact rfl); (case kC => exact $t); (case kd => walk_at "my room"); (case ku => walk_at "my room"))))
local macro_rules | `(tactic| k_mem) => `(tactic| assumption)

-- hold
/-- an end of a turn, set aside -/
inductive Held (P : Prop) : Prop
  | mk : P → Held P
theorem Held.out {P : Prop} : Held P → P | ⟨h⟩ => h

-- hide
theorem kwl3 : True := by
  k_with "InvEndN!" => ((refine Held.out ?_))
  k_with "KgEnd!" => ((refine Held.out ?_))
  k_with "KswEnd!" => ((refine Held.out ?_))
  trivial
theorem wpAny_hide {α : Type} {M : Model} {A : Around} {t : Sem α} {P : α → Shared → Prop} {E : Value → Shared → Prop} {s : Shared} (h : ∀ Q : α → Shared → Prop, (∀ a s', P a s' → Q a s') → wpAny M A t Q E s) : wpAny M A t P E s := h P fun _ _ x => x
theorem kg_hide {M : Model} {A : Around} {t : Sem Bool} {x : Sem Flow} {P : Flow → Shared → Prop} {Q : Shared → Prop} {E E' : Value → Shared → Prop} {s : Shared} (h : ∀ K : Flow → Shared → Prop, (∀ a s', P a s' → K a s') → wpAny M A t (fun b s₂ => if b = true then wpAny M A x K E s₂ else Q s₂) E' s) : wpAny M A t (fun b s₂ => if b = true then wpAny M A x P E s₂ else Q s₂) E' s := h P fun _ _ x => x

-- tok
theorem tok_st {M : Model} {A : Around} {E : Value → Shared → Prop} {α : Type} {t : Sem α} {Q : α → Shared → Prop} {H : Heap} {G : Array GenState} {D : Drawn} {T : Nat} {O : OsState} (h : ∀ k, wpAny M A t Q E ⟨H, G, D, k, O⟩) : wpAny M A t Q E ⟨H, G, D, T + 1, O⟩ := h _
theorem tok_vs {M : Model} {A : Around} {E : Value → Shared → Prop} {env : Env} {x X : Str} {Q : Unit → Shared → Prop} {s : Shared} {T : Nat} (h : ∀ k, wpAny M A (storeName env x (.str X k)) Q E s) : wpAny M A (storeName env x (.str X (T + 1))) Q E s := h _
theorem tok_vi {M : Model} {A : Around} {E : Value → Shared → Prop} {env : Env} {x : Str} {X : Int} {Q : Unit → Shared → Prop} {s : Shared} {T : Nat} (h : ∀ k, wpAny M A (storeName env x (.int X k)) Q E s) : wpAny M A (storeName env x (.int X (T + 1))) Q E s := h _

-- p1
theorem kwl4 : True := by
  k_with "storeName!" => (((first | (with_reducible refine tok_vs fun k => ?_) | (with_reducible refine tok_vi fun k => ?_)); walk_at "storeName"))
  k_with "storeName!" => (((with_reducible refine tok_st fun k => ?_); walk_at "storeName"))
  trivial
def ofL (l : List Nat) : Str := ⟨l.toArray⟩
theorem ofL_length (l : List Nat) : (ofL l).length = l.length := by simp [ofL, Str.length]
theorem ofL_append (a b : List Nat) : ofL a ++ ofL b = ofL (a ++ b) := by
  refine PySem.Str.ext' (Array.toList_inj.mp ?_)
  rw [PySem.Str.cps_append, Array.toList_append]; simp [ofL]
theorem ofL_inj {a b : List Nat} (h : ofL a = ofL b) : a = b := by
  have := congrArg (fun s : Str => s.cps.toList) h
  simpa [ofL] using this
theorem ofL_one (c : Nat) : (⟨#[c]⟩ : Str) = ofL [c] := rfl
theorem ofL_eq (a b : List Nat) : (ofL a == ofL b) = decide (a = b) := by
  rw [Bool.eq_iff_iff, beq_iff_eq, decide_eq_true_eq]; exact ⟨ofL_inj, fun h => h ▸ rfl⟩
theorem ofL_in (x : List Nat) (c : Nat) : (Builtin.Str.occurrences (ofL x) ⟨#[c]⟩ 0 (ofL x).length 1).isEmpty = !decide (c ∈ x) := by
  have := StrLaws.found_one (ofL x) c
  rw [show (ofL x).cps.toList = x from by simp [ofL]] at this
  rw [← this, Bool.not_not]
/-- the codes of a text, as a loop over it hands them on -/
theorem codes_ofL (x : List Nat) : KStt.codes (ofL x) = x.map (fun c : Nat => (c : Int)) := rfl
theorem codes_toNat (x : List Nat) : (KStt.codes (ofL x)).map Int.toNat = x := by
  rw [codes_ofL, List.map_map]; exact (List.map_congr_left (g := _root_.id) fun c _ => Int.toNat_natCast c).trans (List.map_id _)
theorem codes_split {x : List Nat} {pre post : List Int} {n : Nat} (h : KStt.codes (ofL x) = pre ++ (n : Int) :: post) : x = pre.map Int.toNat ++ n :: post.map Int.toNat := by
  have := congrArg (List.map Int.toNat) h
  rw [codes_toNat] at this
  simpa using this
theorem toNat_snoc (pre : List Int) (n : Nat) : (pre ++ [(n : Int)]).map Int.toNat = pre.map Int.toNat ++ [n] := by simp
def BL : Str := "\t\n\x0b\x0c\r\x1c\x1d\x1e\x1f \u0085\u00a0\u1680\u2000\u2001\u2002\u2003\u2004\u2005\u2006\u2007\u2008\u2009\u200a\u2028\u2029\u202f\u205f\u3000"
def BLl : List Nat := [9, 10, 11, 12, 13, 28, 29, 30, 31, 32, 133, 160, 5760, 8192, 8193, 8194, 8195, 8196, 8197, 8198, 8199, 8200, 8201, 8202, 8232, 8233, 8239, 8287, 12288]
theorem BL_eq : BL = ofL BLl := by decide +kernel
theorem con_blanks (w : World) (hd : Option Value) (news : List (Addr × Obj)) : Con w hd 220 1 news [] (fun v n => news = n ∧ ∃ t, v = .str (ofL BLl) t) := by
  walk_at "my open"
  intro p loose mean mg mb dp un gd env outer A₀ base h₀ L m s Q E B F X N T he hk hdp hun hret
  k_call_by "enter" []
  k_steps
  exact hret _ _ _ _ (by k_asm) (by k_asm) ⟨rfl, _, congrArg (Value.str · _) BL_eq⟩

-- p2h
theorem kwl5 : True := by
  k_with "call ref!" => ((k_here; (with_reducible show wpAny _ _ (call (Value.ref 220) _) _ _ _); k_call_by "con" (con_blanks _ _ _); intro v9 n9 h9 tk9 F9 N9 r9; obtain ⟨e9, t9, e8⟩ := r9; subst e9 e8; (try dsimp only); (try k_fold)))
  k_with "my inv!" => (((rename News _ _ _ _ => nE'); (try simp only [List.push_toArray] at nE')))
  trivial
def barred : List Nat := [91, 33, 0, 45, 60, 62, 45, 1114111, 93]
def qCh (h : Bool) (c : Nat) : List Nat := if c = 61 ∧ h = true then barred else if (c = 42 ∨ c = 63 ∨ c = 91) ∨ c ∈ BLl then [91, c, 93] else [c]
def quo (h : Bool) (x : List Nat) : List Nat := x.flatMap (qCh h)
theorem qCh_len (h : Bool) (c : Nat) : (qCh h c).length ≤ 9 := by unfold qCh; split; · decide
                                                                  · split <;> simp
theorem quo_nil (h : Bool) : quo h [] = [] := rfl
theorem quo_snoc (h : Bool) (x : List Nat) (c : Nat) : quo h (x ++ [c]) = quo h x ++ qCh h c := by simp [quo]
theorem quo_len (h : Bool) (x : List Nat) : (quo h x).length ≤ 9 * x.length := by
  induction x with
  | nil => simp [quo]
  | cons c r ih =>
    have := qCh_len h c
    simp only [quo, List.flatMap_cons, List.length_append, List.length_cons] at ih ⊢
    omega
theorem s_eq : Str.ofString "=" = ofL [61] := by decide +kernel
theorem s_star : Str.ofString "*?[" = ofL [42, 63, 91] := by decide +kernel
theorem s_bar : Str.ofString "[!\x00-<>-􏿿]" = ofL barred := by decide +kernel
theorem s_lb : Str.ofString "[" = ofL [91] := by decide +kernel
theorem s_rb : Str.ofString "]" = ofL [93] := by decide +kernel
theorem q_end (b : Bool) (pre : List Int) (n : Nat) (q r : Str) (e : q = ofL (quo b (pre.map Int.toNat))) (e' : r = ofL (qCh b n)) : q ++ r = ofL (quo b ((pre ++ [(n : Int)]).map Int.toNat)) := by
  rw [toNat_snoc, quo_snoc, ← ofL_append, e, e']
theorem r_bar {b : Bool} {n : Nat} (h1 : ((⟨#[n]⟩ : Str) == Str.ofString "=") = true) (h2 : b = true) : Str.ofString "[!\x00-<>-􏿿]" = ofL (qCh b n) := by
  rw [s_eq, ofL_one, ofL_eq, decide_eq_true_eq] at h1
  have : n = 61 := by simpa using h1
  subst this h2
  exact s_bar
theorem r_br1 {b : Bool} {n : Nat} (h : (Builtin.Str.occurrences (Str.ofString "*?[") ⟨#[n]⟩ 0 (Str.ofString "*?[").length 1).isEmpty = false) : Str.ofString "[" ++ ⟨#[n]⟩ ++ Str.ofString "]" = ofL (qCh b n) := by
  rw [s_star, ofL_in] at h
  have hq : n = 42 ∨ n = 63 ∨ n = 91 := by simp at h; omega
  have h61 : n ≠ 61 := by omega
  rw [s_lb, s_rb, ofL_one, ofL_append, ofL_append]
  unfold qCh
  rw [if_neg (fun e => h61 e.1), if_pos (.inl hq)]
  rfl
theorem r_br2 {b : Bool} {n : Nat} (h : (Builtin.Str.occurrences (ofL BLl) ⟨#[n]⟩ 0 (ofL BLl).length 1).isEmpty = false) : Str.ofString "[" ++ ⟨#[n]⟩ ++ Str.ofString "]" = ofL (qCh b n) := by
  rw [ofL_in] at h
  have hn : n ∈ BLl := by
    cases hd : decide (n ∈ BLl) with
    | true => exact of_decide_eq_true hd
    | false => rw [hd] at h; cases h
  have h61 : n ≠ 61 := fun e => by subst e; exact absurd hn (by decide)
  rw [s_lb, s_rb, ofL_one, ofL_append, ofL_append]
  unfold qCh
  rw [if_neg (fun e => h61 e.1), if_pos (.inr hn)]
  rfl
theorem r_plain {b : Bool} {n : Nat} (h0 : ¬ (n = 61 ∧ b = true)) (h1 : (Builtin.Str.occurrences (Str.ofString "*?[") ⟨#[n]⟩ 0 (Str.ofString "*?[").length 1).isEmpty = true) (h2 : (Builtin.Str.occurrences (ofL BLl) ⟨#[n]⟩ 0 (ofL BLl).length 1).isEmpty = true) : (⟨#[n]⟩ : Str) = ofL (qCh b n) := by
  rw [s_star, ofL_in] at h1
  rw [ofL_in] at h2
  have hn : n ∉ [42, 63, 91] := by simpa using h1
  have hm : n ∉ BLl := by
    cases hd : decide (n ∈ BLl) with
    | false => exact of_decide_eq_false hd
    | true => rw [hd] at h2; cases h2
  have hq : ¬ ((n = 42 ∨ n = 63 ∨ n = 91) ∨ n ∈ BLl) := by simp only [List.mem_cons, List.not_mem_nil, or_false] at hn; exact fun e => e.elim hn hm
  unfold qCh
  rw [if_neg h0, if_neg hq]
  rfl
theorem r_plain1 {b : Bool} {n : Nat} (h0 : ((⟨#[n]⟩ : Str) == Str.ofString "=") = false) (h1 : (Builtin.Str.occurrences (Str.ofString "*?[") ⟨#[n]⟩ 0 (Str.ofString "*?[").length 1).isEmpty = true) (h2 : (Builtin.Str.occurrences (ofL BLl) ⟨#[n]⟩ 0 (ofL BLl).length 1).isEmpty = true) : (⟨#[n]⟩ : Str) = ofL (qCh b n) :=
  r_plain (fun e => by rw [e.1] at h0; exact absurd h0 (by decide)) h1 h2
theorem r_plain2 {b : Bool} {n : Nat} (h0 : b = false) (h1 : (Builtin.Str.occurrences (Str.ofString "*?[") ⟨#[n]⟩ 0 (Str.ofString "*?[").length 1).isEmpty = true) (h2 : (Builtin.Str.occurrences (ofL BLl) ⟨#[n]⟩ 0 (ofL BLl).length 1).isEmpty = true) : (⟨#[n]⟩ : Str) = ofL (qCh b n) :=
  r_plain (fun e => by rw [h0] at e; exact absurd e.2 (by decide)) h1 h2
theorem con_quoted (w : World) (news : List (Addr × Obj)) (x : List Nat) (t : Tok) (b : Bool) (hx : x.length ≤ 100000) : Con w none 248 2 news [.str (ofL x) t, .bool b] (fun v n => news = n ∧ ∃ t, v = .str (ofL (quo b x)) t) := by
  walk_at "my open"
  intro p loose mean mg mb dp un gd env outer A₀ base h₀ L m s Q E B F X N T he hk hdp hun hret
  k_call_by "enter" [("text", .str (ofL x) t), ("hides", .bool b)]
  k_with "pyIter str" => (
    (rename Fr _ _ _ _ => lF'); (rename News _ _ _ _ => lN')
    (with_unfolding_all refine' KStt.kst_text (σ := Str × Tok) (fun _ => news) (fun c => [("quoted", .str c.1 c.2)]) (fun _ => True) [] (fun pre c => c.1 = ofL (quo b (pre.map Int.toNat))) ("", _) (by rfl) lF' lN' trivial ?kk ?kp ?kt ?kd)
    (case kk => kst_all)
    (case kp => rfl)
    (case' kt => 
      intro c pre post n t u h tk own hc hoff _ hI F1 N1
      obtain ⟨q, tq⟩ := c
      dsimp only at hI
      have hx1 := congrArg List.length (codes_split hc)
      have hl1 : q.length ≤ 900000 := by rw [hI, ofL_length]; have := quo_len b (pre.map Int.toNat); simp only [List.length_append, List.length_map, List.length_cons] at hx1 this; omega
      clear lF' lN'
      refine wpAny_hide fun Q9 hQ9 => ?_
      (try dsimp only)
      (try k_fold))
    (case' kd =>
      intro c u h tk _ hI F1 N1
      rw [codes_toNat] at hI
      clear lF' lN'
      (try dsimp only)
      (try k_fold)))
  k_steps
  · exact hret _ _ _ _ (by k_asm) (by k_asm) ⟨rfl, _, by rw [← hI]⟩
  all_goals (
    refine hQ9 _ _ ?_
    dsimp only [InvPostN]
    (rename News _ _ _ _ => nE')
    refine kst_end (_, _) (by assumption) nE' (by first | kst_in | kst_inAny) (by first | (intro p hp; kst_mem) | kst_anyIn) (by rfl) (by kst_facts) (by kst_all) (by walk_at "my same") ?_
    refine q_end b pre n q _ hI ?_
    first | exact r_bar (by assumption) (by assumption) | exact r_br1 (by assumption) | exact r_br2 (by assumption) | exact r_plain1 (by assumption) (by assumption) (by assumption) | exact r_plain2 (by assumption) (by assumption) (by assumption))

-- p3
theorem fmod_lt18 (a : Int) : 0 ≤ a.fmod 18 ∧ a.fmod 18 < 18 := by
  rw [Int.fmod_eq_emod_of_nonneg _ (by decide)]; omega
theorem ofL_self (x : Str) : ofL x.cps.toList = x := by cases x; rfl

-- p4
/-- the law's trees: a text, or a pair of two -/
inductive Tr where
  | leaf (x : List Nat)
  | pair (a b : Tr)
def Tr.depth : Tr → Nat
  | .leaf _ => 0
  | .pair a b => 1 + max a.depth b.depth
abbrev tupObj (va vb : Value) (n : Nat) : Obj := { cls := .type "tuple", data := .seq #[va, vb] n }
/-- the ledger bears the tree at the value -/
def TrIn (news : List (Addr × Obj)) : Value → Tr → Prop
  | v, .leaf x => ∃ t, v = .str (ofL x) t
  | v, .pair a b => ∃ ad va vb n, v = .ref ad ∧ (ad, tupObj va vb n) ∈ news ∧ TrIn news va a ∧ TrIn news vb b
theorem TrIn.mono {news news' : List (Addr × Obj)} (hs : ∀ p ∈ news, p ∈ news') : ∀ {t : Tr} {v : Value}, TrIn news v t → TrIn news' v t
  | .leaf _, _, h => h
  | .pair a b, _, ⟨ad, va, vb, n, e, hm, ha, hb⟩ => ⟨ad, va, vb, n, e, hs _ hm, TrIn.mono hs ha, TrIn.mono hs hb⟩
theorem con_depth (w : World) (news : List (Addr × Obj)) : ∀ (t : Tr) (v : Value), TrIn news v t → Con w none 234 (t.depth + 1) news [v] (fun r n => news = n ∧ ∃ tk, r = .int (t.depth : Int) tk) := by
  intro t
  induction t with
  | leaf x =>
    rintro v ⟨tv, rfl⟩
    walk_at "my open"
    intro p loose mean mg mb dp un gd env outer A₀ base h₀ L m s Q E B F X N T he hk hdp hun hret
    k_call_by "enter" [("tree", .str (ofL x) tv)]
    k_steps
    exact hret _ _ _ _ (by k_asm) (by k_asm) ⟨rfl, _, rfl⟩
  | pair a b iha ihb =>
    rintro v ⟨ad, va, vb, n, rfl, hm, ha, hb⟩
    walk_at "my open"
    intro p loose mean mg mb dp un gd env outer A₀ base h₀ L m s Q E B F X N T he hk hdp hun hret
    simp only [Tr.depth] at hdp hun
    k_call_by "enter" [("tree", .ref ad)]
    k_with "call ref" => ((first | k_call_by "con" (iha va ha) | k_call_by "con" (ihb vb hb)); intro v9 n9 h9 tk9 F9 N9 r9; obtain ⟨rfl, t9, rfl⟩ := r9; (try dsimp only); (try k_fold))
    k_steps
    exact hret _ _ _ _ (by k_asm) (by k_asm) ⟨rfl, _, congrArg (Value.int · _) (by show (1 + if (b.depth : Int) > a.depth then (b.depth : Int) else a.depth) = ((1 + max a.depth b.depth : Nat) : Int); split <;> omega)⟩

-- p0
theorem item_at {prog : Program} {w : World} {A : Around} {E : Value → Shared → Prop} {s : Shared} {h₀ : Heap} {L l : Addr} {news : List (Addr × Obj)} {value slice : PySem.Expr} {vs : List Value} {n : Nat} {k : Int} {u : Tok} {v : Value} {Q : Value → Shared → Prop}
    (N : News h₀ L s.heap news) (hm : (l, W.listOf vs.toArray n) ∈ news) (h0 : 0 ≤ k) (h1 : k < 2 ^ 63) (hx : vs[k.toNat]? = some v) (h : Q v s)
    (hs : subscripted slice false (.ref l) (.int k u) = operate [.ref l, .int k u] (getItem (.ref l) (.int k u)) := by with_unfolding_all rfl) :
    wpAny (model prog w) A (subscriptTail value slice (.ref l) (.int k u)) Q E s :=
  have hl := News.isList N hm
  tail_any hl.typeIs slot_list_getitem.lookup (wpAny_getItem_list hl h0 h1 (by simpa using hx) h) hs
theorem kwl6 : True := by
  k_with "subscriptTail!" => ((k_here; (with_reducible show wpAny _ _ (subscriptTail _ _ (Value.ref _) (Value.int _ _)) _ _ _); k_dflt (refine' item_at ?hqk1 ?hqk2 ?hqk3 ?hqk4 ?hqk5 ?_ ?hqk6; (case hqk1 => k_asm); (case hqk2 => k_mem); (case hqk3 => decide); (case hqk4 => decide); (case hqk5 => exact rfl); (case hqk6 => with_unfolding_all rfl); k_whole)))
  trivial
theorem slice_ofL (x : List Nat) (lo hi : Option Int) : Txt.slice (ofL x) lo hi = ofL ((x.drop (kms_lo lo x.length)).take (kms_hi hi x.length - kms_lo lo x.length)) := by
  have hi' : Builtin.Str.strSliceIndices lo hi 1 x.length = (List.range (kms_hi hi x.length - kms_lo lo x.length)).map (kms_lo lo x.length + ·) := by
    have e := kms_bounds lo hi x.length
    have : Builtin.Str.strSliceIndices lo hi 1 x.length = sliceRange (sliceBounds lo hi none x.length).1 (sliceBounds lo hi none x.length).2.1 1 := by
      cases lo <;> cases hi <;> rfl
    rw [this, e]
    exact sliceRange_one _ _
  have hp : (Builtin.Str.strSliceIndices lo hi 1 x.length).filterMap ((ofL x).cps[·]?) = (x.drop (kms_lo lo x.length)).take (kms_hi hi x.length - kms_lo lo x.length) := by
    rw [hi']; exact pick_run (ofL x).cps _ _
  unfold Txt.slice
  rw [ofL_length]
  split
  · rename_i hc
    simp only [beq_self_eq_true, Bool.true_and, beq_iff_eq] at hc
    rw [hi', List.length_map, List.length_range] at hc
    have h1 : kms_hi hi x.length ≤ x.length := by
      unfold kms_hi
      split
      · exact Nat.le_refl _
      · split <;> omega
    have h2 : kms_lo lo x.length = 0 ∨ x.length = 0 := by omega
    rcases h2 with h2 | h2
    · rw [h2] at hc ⊢
      rw [List.drop_zero, Nat.sub_zero, List.take_of_length_le (by omega)]
    · have : x = [] := List.eq_nil_of_length_eq_zero h2
      subst this; simp
  · rw [hp]; rfl
theorem lo_nat (a n : Nat) : kms_lo (some (a : Int)) n = min a n := by show (if (a : Int) < 0 then n - (-(a : Int)).toNat else min (a : Int).toNat n) = _; rw [if_neg (by omega), Int.toNat_natCast]
theorem hi_nat (a n : Nat) : kms_hi (some (a : Int)) n = min a n := by show (if (a : Int) < 0 then n - (-(a : Int)).toNat else min (a : Int).toNat n) = _; rw [if_neg (by omega), Int.toNat_natCast]
section
variable {prog : Program} {w : World} {A : Around} {E : Value → Shared → Prop} {s : Shared} {h₀ : Heap} {L : Addr} {m : Str → Option Value} {news : List (Addr × Obj)} {value slice : PySem.Expr} {X Y : Str} {x y z : List Nat} {t u : Tok} {Q : Value → Shared → Prop}
theorem s_slice_ss {i j : Int} {ui uj : Tok} (e : X = ofL x) (hF : Fr h₀ L s.heap m) (hN : News h₀ L s.heap news) (hz : Txt.slice (ofL x) (some i) (some j) = ofL z) (hl : x.length ≤ 16777216)
    (h : ∀ h' t' k, Fr h₀ L h' m → News h₀ L h' news → Q (.str (ofL z) t') { s with heap := h', toks := k })
    (hs : subscripted slice false (.str X t) (.ref s.heap.objs.size) = operate [.ref s.heap.objs.size, .str X t] (getItem (.str X t) (.ref s.heap.objs.size)) := by with_unfolding_all rfl)
    (ht : ∀ r, letTemporaryGo value (.str X t) r = pure () := by intro _; with_unfolding_all rfl) :
    wpAny (model prog w) A (subscriptTail value slice (.str X t) (.ref s.heap.objs.size)) Q E { s with heap := s.heap.push { cls := .type "slice", data := .fields #[.int i ui, .int j uj, .none] } } := by
  subst e
  exact slice_strN_ss hF hN (fun h' t' k F' N' => hz ▸ h h' t' k F' N') hs ht (by rw [ofL_length, sizeLine_eq]; exact hl)
theorem s_slice_sn {i : Int} {ui : Tok} (e : X = ofL x) (hF : Fr h₀ L s.heap m) (hN : News h₀ L s.heap news) (hz : Txt.slice (ofL x) (some i) none = ofL z) (hl : x.length ≤ 16777216)
    (h : ∀ h' t' k, Fr h₀ L h' m → News h₀ L h' news → Q (.str (ofL z) t') { s with heap := h', toks := k })
    (hs : subscripted slice false (.str X t) (.ref s.heap.objs.size) = operate [.ref s.heap.objs.size, .str X t] (getItem (.str X t) (.ref s.heap.objs.size)) := by with_unfolding_all rfl)
    (ht : ∀ r, letTemporaryGo value (.str X t) r = pure () := by intro _; with_unfolding_all rfl) :
    wpAny (model prog w) A (subscriptTail value slice (.str X t) (.ref s.heap.objs.size)) Q E { s with heap := s.heap.push { cls := .type "slice", data := .fields #[.int i ui, .none, .none] } } := by
  subst e
  exact slice_strN_sn hF hN (fun h' t' k F' N' => hz ▸ h h' t' k F' N') hs ht (by rw [ofL_length, sizeLine_eq]; exact hl)
theorem s_slice_ns {j : Int} {uj : Tok} (e : X = ofL x) (hF : Fr h₀ L s.heap m) (hN : News h₀ L s.heap news) (hz : Txt.slice (ofL x) none (some j) = ofL z) (hl : x.length ≤ 16777216)
    (h : ∀ h' t' k, Fr h₀ L h' m → News h₀ L h' news → Q (.str (ofL z) t') { s with heap := h', toks := k })
    (hs : subscripted slice false (.str X t) (.ref s.heap.objs.size) = operate [.ref s.heap.objs.size, .str X t] (getItem (.str X t) (.ref s.heap.objs.size)) := by with_unfolding_all rfl)
    (ht : ∀ r, letTemporaryGo value (.str X t) r = pure () := by intro _; with_unfolding_all rfl) :
    wpAny (model prog w) A (subscriptTail value slice (.str X t) (.ref s.heap.objs.size)) Q E { s with heap := s.heap.push { cls := .type "slice", data := .fields #[.none, .int j uj, .none] } } := by
  subst e
  exact slice_strN_ns hF hN (fun h' t' k F' N' => hz ▸ h h' t' k F' N') hs ht (by rw [ofL_length, sizeLine_eq]; exact hl)
theorem s_item {i : Int} {c : Nat} (e : X = ofL x) (hl : x.length ≤ 16777216) (hc : (seqIndex? i x.length).bind (x[·]?) = some c) (h : Q (.str (ofL [c]) s.toks) { s with toks := s.toks + 1 })
    (hs : subscripted slice false (.str X t) (.int i u) = operate [.str X t, .int i u] (getItem (.str X t) (.int i u)) := by with_unfolding_all rfl)
    (ht : ∀ r, letTemporaryGo value (.str X t) r = pure () := by intro _; with_unfolding_all rfl) :
    wpAny (model prog w) A (subscriptTail value slice (.str X t) (.int i u)) Q E s := by
  subst e
  have hb : -(x.length : Int) ≤ i ∧ i < x.length := by
    cases hs : seqIndex? i x.length with
    | none => rw [hs] at hc; cases hc
    | some j =>
      unfold seqIndex? at hs
      simp only at hs
      split at hs <;> split at hs <;> first | (cases hs; done) | (simp_all; omega)
  have e2 : Txt.item (ofL x) i = ofL [c] := by
    have : Txt.charAt (ofL x) i = some c := by
      unfold Txt.charAt
      rw [ofL_length]
      simpa [ofL] using hc
    unfold Txt.item
    rw [this]; rfl
  exact KXi.item (n := x.length) (ofL_length x) hb.1 hb.2 hl (fun _ => e2 ▸ h) hs ht
theorem s_len {n : Nat} (e : X = ofL x) (hl : x.length ≤ 16777216) (hn : x.length = n) (h : Q (.int (n : Int) (s.toks + 1)) { s with toks := s.toks + 1 + 1 }) : wpAny (model prog w) A (call (.builtin "len") [.str X t]) Q E s := by
  subst e hn
  refine P.len_str (by rw [ofL_length]; omega) ?_
  rw [ofL_length]; exact h
theorem s_eq_ (e : X = ofL x) (e' : Y = ofL y) (hT : x = y → Q (.bool true) s) (hF : x ≠ y → Q (.bool false) s) : wpAny (model prog w) A (compareOp .Eq (.str X t) (.str Y u)) Q E s := by
  subst e e'
  refine P.eq_str ?_
  show Q (.bool (x == y)) s
  by_cases h : x = y
  · rw [show (x == y) = true from beq_iff_eq.mpr h]; exact hT h
  · rw [show (x == y) = false from beq_eq_false_iff_ne.mpr h]; exact hF h
theorem s_ne_ (e : X = ofL x) (e' : Y = ofL y) (hT : x = y → Q (.bool false) s) (hF : x ≠ y → Q (.bool true) s) : wpAny (model prog w) A (compareOp .NotEq (.str X t) (.str Y u)) Q E s := by
  subst e e'
  refine P.ne_str ?_
  show Q (.bool (x != y)) s
  by_cases h : x = y
  · rw [show (x != y) = false from by simp [h]]; exact hT h
  · rw [show (x != y) = true from by simp [h]]; exact hF h
theorem s_in {c : Nat} (e : X = ofL x) (e' : Y = ofL [c]) (hT : c ∈ x → Q (.bool true) s) (hF : c ∉ x → Q (.bool false) s) : wpAny (model prog w) A (compareOp .In (.str Y u) (.str X t)) Q E s := by
  subst e e'
  refine P.in_str ?_
  rw [show ofL [c] = (⟨#[c]⟩ : Str) from rfl, ofL_in]
  by_cases h : c ∈ x
  · simpa [h] using hT h
  · simpa [h] using hF h
theorem s_notin {c : Nat} (e : X = ofL x) (e' : Y = ofL [c]) (hT : c ∈ x → Q (.bool false) s) (hF : c ∉ x → Q (.bool true) s) : wpAny (model prog w) A (compareOp .NotIn (.str Y u) (.str X t)) Q E s := by
  subst e e'
  refine P.notIn_str ?_
  rw [show ofL [c] = (⟨#[c]⟩ : Str) from rfl, ofL_in]
  by_cases h : c ∈ x
  · simpa [h] using hT h
  · simpa [h] using hF h
theorem s_add (e : X = ofL x) (e' : Y = ofL y) (hl : x.length + y.length ≤ 16777216) (h : ∀ t' k, Q (.str (ofL (x ++ y)) t') { s with toks := k }) : wpAny (model prog w) A (binaryOp .Add (.str X t) (.str Y u)) Q E s := by
  subst e e'
  refine SB.add (fun t' k => ?_) (by rw [ofL_length, ofL_length, sizeLine_eq]; exact hl)
  rw [ofL_append]; exact h t' k
theorem s_iadd (e : X = ofL x) (e' : Y = ofL y) (hl : x.length + y.length ≤ 16777216) (h : ∀ t' k, Q (.str (ofL (x ++ y)) t') { s with toks := k }) : wpAny (model prog w) A (inplaceOp .Add (.str X t) (.str Y u)) Q E s := by
  subst e e'
  refine SB.iadd (fun t' k => ?_) (by rw [ofL_length, ofL_length, sizeLine_eq]; exact hl)
  rw [ofL_append]; exact h t' k
theorem s_ord {c : Nat} (e : X = ofL [c]) (h : Q (.int (c : Int) s.toks) { s with toks := s.toks + 1 }) : wpAny (model prog w) A (call (.builtin "ord") [.str X t]) Q E s := by
  subst e
  exact ord_of_one rfl (by simpa [ofL] using h)
theorem s_chr {i : Int} {c : Nat} (hi : i = (c : Int)) (hc : c ≤ 1114111) (h : Q (.str (ofL [c]) s.toks) { s with toks := s.toks + 1 }) : wpAny (model prog w) A (call (.builtin "chr") [.int i t]) Q E s := by
  subst hi
  exact chr_of_range (by omega) (by omega) (by simpa [ofL] using h)
end
theorem l_empty : Str.ofString "" = ofL [] := by decide +kernel
theorem l_eq : Str.ofString "=" = ofL [61] := by decide +kernel
theorem l_star : Str.ofString "*" = ofL [42] := by decide +kernel
theorem l_quest : Str.ofString "?" = ofL [63] := by decide +kernel
theorem l_lb : Str.ofString "[" = ofL [91] := by decide +kernel
theorem l_rb : Str.ofString "]" = ofL [93] := by decide +kernel
theorem l_bang : Str.ofString "!" = ofL [33] := by decide +kernel
theorem l_dash : Str.ofString "-" = ofL [45] := by decide +kernel
theorem l_hat : Str.ofString "^" = ofL [94] := by decide +kernel
theorem l_bs : Str.ofString "\\" = ofL [92] := by decide +kernel
theorem l_bslb : Str.ofString "\\[" = ofL [92, 91] := by decide +kernel
theorem l_bsbs : Str.ofString "\\\\" = ofL [92, 92] := by decide +kernel
theorem l_bsdash : Str.ofString "\\-" = ofL [92, 45] := by decide +kernel
theorem l_bar7 : Str.ofString "\x00--􏿿" = ofL [0, 45, 45, 1114111] := by decide +kernel
theorem l_dot : Str.ofString "." = ofL [46] := by decide +kernel
theorem l_wrap : Str.ofString "(?s:)\\Z" = ofL [40, 63, 115, 58, 41, 92, 90] := by decide +kernel
theorem l_pre : Str.ofString "(?s:" = ofL [40, 63, 115, 58] := by decide +kernel
theorem l_suf : Str.ofString ")\\Z" = ofL [41, 92, 90] := by decide +kernel
-- a branch by an equation: close it where the equation is absurd

-- al1

-- p6
theorem kwl7 : True := by
  k_with "my lit!" => (first
  | with_reducible exact rfl | with_reducible exact l_empty | with_reducible exact l_eq | with_reducible exact l_star | with_reducible exact l_quest | with_reducible exact l_lb | with_reducible exact l_rb | with_reducible exact l_bang | with_reducible exact l_dash
  | with_reducible exact l_hat | with_reducible exact l_bs | with_reducible exact l_bslb | with_reducible exact l_bsbs | with_reducible exact l_bsdash | with_reducible exact l_bar7 | with_reducible exact l_dot | with_reducible exact l_wrap | with_reducible exact l_pre | with_reducible exact l_suf | with_reducible assumption | fail "my lit")
  k_with "my size!" => (first | (simp only [List.length_append, List.length_cons, List.length_nil]; omega) | omega | fail "my size")
  k_with "my cut!" => (first
  | (exfalso; (first | contradiction | omega | (simp at *; done) | (simp_all; done)); done)
  | skip)
  k_with "compareOp Eq str str!" => ((k_here; k_dflt (refine' s_eq_ ?hqe1 ?hqe2 ?_ ?_; (case hqe1 => walk_at "my lit"); (case hqe2 => walk_at "my lit"); k_whole); all_goals (intro hE9; first | (exfalso; revert hE9; first | decide | (simp; done) | (simp; omega) | (intro h9; exact absurd h9 (by with_reducible assumption)) | (intro h9; exact absurd (by with_reducible assumption) h9)) | ((try simp only [List.cons.injEq, and_true] at hE9); (try dsimp only)))))
  k_with "compareOp NotEq str str!" => ((k_here; k_dflt (refine' s_ne_ ?hqe1 ?hqe2 ?_ ?_; (case hqe1 => walk_at "my lit"); (case hqe2 => walk_at "my lit"); k_whole); all_goals (intro hE9; first | (exfalso; revert hE9; first | decide | (simp; done) | (simp; omega) | (intro h9; exact absurd h9 (by with_reducible assumption)) | (intro h9; exact absurd (by with_reducible assumption) h9)) | ((try simp only [List.cons.injEq, and_true] at hE9); (try dsimp only)))))
  k_with "compareOp In str str!" => ((k_here; k_dflt (refine' s_in ?hqe1 ?hqe2 ?_ ?_; (case hqe1 => walk_at "my lit"); (case hqe2 => walk_at "my lit"); k_whole); all_goals (intro hE9; first | (exfalso; revert hE9; first | decide | (simp; done) | (simp; omega) | (intro h9; exact absurd h9 (by with_reducible assumption)) | (intro h9; exact absurd (by with_reducible assumption) h9)) | (try dsimp only))))
  k_with "compareOp NotIn str str!" => ((k_here; k_dflt (refine' s_notin ?hqe1 ?hqe2 ?_ ?_; (case hqe1 => walk_at "my lit"); (case hqe2 => walk_at "my lit"); k_whole); all_goals (intro hE9; first | (exfalso; revert hE9; first | decide | (simp; done) | (simp; omega) | (intro h9; exact absurd h9 (by with_reducible assumption)) | (intro h9; exact absurd (by with_reducible assumption) h9)) | (try dsimp only))))
  k_with "binaryOp Add str str!" => ((k_here; k_dflt (refine' s_add ?hqe1 ?hqe2 ?hqz ?_; (case hqe1 => walk_at "my lit"); (case hqe2 => walk_at "my lit"); (case hqz => walk_at "my size"); k_whole); intro _ _; (try dsimp only [List.cons_append, List.nil_append])))
  k_with "inplaceOp Add str str!" => ((k_here; k_dflt (refine' s_iadd ?hqe1 ?hqe2 ?hqz ?_; (case hqe1 => walk_at "my lit"); (case hqe2 => walk_at "my lit"); (case hqz => walk_at "my size"); k_whole); intro _ _; (try dsimp only [List.cons_append, List.nil_append])))
  k_with "call builtin:len!" => ((k_here; (with_reducible show wpAny _ _ (call (Value.builtin "len") [Value.str _ _]) _ _ _); k_dflt (refine' s_len ?hqe1 ?hqz ?hqn ?_; (case hqe1 => walk_at "my lit"); (case hqz => walk_at "my size"); (case hqn => first | with_reducible assumption | (simp only [List.length_cons, List.length_nil, Nat.reduceAdd]; exact rfl) | exact rfl); k_whole)))
  k_with "call builtin:ord!" => ((k_here; k_dflt (refine' s_ord ?hqe1 ?_; (case hqe1 => walk_at "my lit"); k_whole)))
  k_with "subscriptTail!" => ((k_here; (with_reducible show wpAny _ _ (subscriptTail _ _ (Value.str _ _) (Value.int _ _)) _ _ _); k_dflt (refine' s_item ?hqe1 ?hqz ?hqc ?_ ?hqs ?hqt; (case hqe1 => walk_at "my lit"); (case hqz => walk_at "my size"); (case hqc => first | with_reducible assumption | exact rfl); (case hqs => with_unfolding_all rfl); (case hqt => (intro _; with_unfolding_all rfl)); k_whole)))
  k_with "subscriptTail!" => ((k_here; (with_reducible show wpAny _ _ (subscriptTail _ (Expr.Slice (some _) (some _) none _) (Value.str _ _) (Value.ref _)) _ _ _); k_dflt (refine' s_slice_ss (s := ⟨_, _, _, _, _⟩) ?hqe1 ?hqF ?hqN ?hqc ?hqz ?_ ?hqs ?hqt; (case hqe1 => walk_at "my lit"); (case hqF => k_asm); (case hqN => k_asm); (case hqc => with_reducible assumption); (case hqz => walk_at "my size"); (case hqs => with_unfolding_all rfl); (case hqt => (intro _; with_unfolding_all rfl)); k_whole); intro _ _ _ _ _; (try k_sweep)))
  k_with "subscriptTail!" => ((k_here; (with_reducible show wpAny _ _ (subscriptTail _ (Expr.Slice (some _) none none _) (Value.str _ _) (Value.ref _)) _ _ _); k_dflt (refine' s_slice_sn (s := ⟨_, _, _, _, _⟩) ?hqe1 ?hqF ?hqN ?hqc ?hqz ?_ ?hqs ?hqt; (case hqe1 => walk_at "my lit"); (case hqF => k_asm); (case hqN => k_asm); (case hqc => with_reducible assumption); (case hqz => walk_at "my size"); (case hqs => with_unfolding_all rfl); (case hqt => (intro _; with_unfolding_all rfl)); k_whole); intro _ _ _ _ _; (try k_sweep)))
  k_with "subscriptTail!" => ((k_here; (with_reducible show wpAny _ _ (subscriptTail _ (Expr.Slice none (some _) none _) (Value.str _ _) (Value.ref _)) _ _ _); k_dflt (refine' s_slice_ns (s := ⟨_, _, _, _, _⟩) ?hqe1 ?hqF ?hqN ?hqc ?hqz ?_ ?hqs ?hqt; (case hqe1 => walk_at "my lit"); (case hqF => k_asm); (case hqN => k_asm); (case hqc => with_reducible assumption); (case hqz => walk_at "my size"); (case hqs => with_unfolding_all rfl); (case hqt => (intro _; with_unfolding_all rfl)); k_whole); intro _ _ _ _ _; (try k_sweep)))
  k_with "subscriptTail Name Slice str ref!" => (walk_at "subscriptTail")
  k_with "subscriptTail Name Constant str int!" => (walk_at "subscriptTail")
  k_with "subscriptTail Name Name str int!" => (walk_at "subscriptTail")
  k_with "subscriptTail Name UnaryOp str int!" => (walk_at "subscriptTail")
  trivial
def Tr.ok : Tr → Prop
  | .leaf x => x.length ≤ 2
  | .pair a b => a.ok ∧ b.ok
/-- the writing of a tree -/
def wr : Tr → (g0 g1 g2 g3 g4 : List Nat) → List Nat
  | .leaf x, _, _, _, _, _ => quo true x
  | .pair a b, g0, g1, g2, g3, g4 => g0 ++ quo true (wr a g1 g2 g3 g4 g0) ++ g1 ++ [61] ++ g2 ++ quo false (wr b g2 g3 g4 g0 g1) ++ g3
def bd : Nat → Nat
  | 0 => 18
  | d + 1 => 18 * bd d + 9
theorem bd_mono {a b : Nat} (h : a ≤ b) : bd a ≤ bd b := by
  induction h with
  | refl => exact Nat.le_refl _
  | step _ ih => simp only [bd]; omega
theorem wr_len : ∀ {t : Tr} {g0 g1 g2 g3 g4 : List Nat}, t.ok → g0.length ≤ 2 → g1.length ≤ 2 → g2.length ≤ 2 → g3.length ≤ 2 → g4.length ≤ 2 → (wr t g0 g1 g2 g3 g4).length ≤ bd t.depth
  | .leaf x, _, _, _, _, _, h, _, _, _, _, _ => by
    have h' : x.length ≤ 2 := h
    have := quo_len true x
    show (quo true x).length ≤ 18
    omega
  | .pair a b, g0, g1, g2, g3, g4, h, h0, h1, h2, h3, h4 => by
    obtain ⟨ha, hb⟩ := h
    have la := wr_len ha h1 h2 h3 h4 h0
    have lb := wr_len hb h2 h3 h4 h0 h1
    have qa := quo_len true (wr a g1 g2 g3 g4 g0)
    have qb := quo_len false (wr b g2 g3 g4 g0 g1)
    have ma := bd_mono (Nat.le_max_left a.depth b.depth)
    have mb := bd_mono (Nat.le_max_right a.depth b.depth)
    show (g0 ++ quo true (wr a g1 g2 g3 g4 g0) ++ g1 ++ [61] ++ g2 ++ quo false (wr b g2 g3 g4 g0 g1) ++ g3).length ≤ bd (1 + max a.depth b.depth)
    rw [Nat.add_comm 1]
    simp only [List.length_append, List.length_cons, List.length_nil, bd]
    omega
abbrev gapsObj (g0 g1 g2 g3 g4 : List Nat) (t0 t1 t2 t3 t4 : Tok) (n : Nat) : Obj := W.listOf #[.str (ofL g0) t0, .str (ofL g1) t1, .str (ofL g2) t2, .str (ofL g3) t3, .str (ofL g4) t4] n
theorem con_written (w : World) : ∀ (t : Tr) (news : List (Addr × Obj)) (v : Value) (G : Addr) (gn : Nat) (g0 g1 g2 g3 g4 : List Nat) (t0 t1 t2 t3 t4 : Tok), TrIn news v t → (G, W.listOf #[.str (ofL g0) t0, .str (ofL g1) t1, .str (ofL g2) t2, .str (ofL g3) t3, .str (ofL g4) t4] gn) ∈ news →
    t.ok → t.depth ≤ 2 → g0.length ≤ 2 → g1.length ≤ 2 → g2.length ≤ 2 → g3.length ≤ 2 → g4.length ≤ 2 → Con w none 255 (t.depth + 3) news [v, .ref G] (fun r n => news = n ∧ ∃ tk, r = .str (ofL (wr t g0 g1 g2 g3 g4)) tk) := by
  intro t
  induction t with
  | leaf x =>
    rintro news v G gn g0 g1 g2 g3 g4 t0 t1 t2 t3 t4 ⟨tv, rfl⟩ hG hok hdep l0 l1 l2 l3 l4
    walk_at "my open"
    intro p loose mean mg mb dp un gd env outer A₀ base h₀ L m s Q E B F X N T he hk hdp hun hret
    k_call_by "enter" [("tree", .str (ofL x) tv), ("gaps", .ref G)]
    k_with "call ref" => (k_call_by "con" (con_quoted w _ x _ true (Nat.le_trans hok (by decide))); intro v9 n9 h9 tk9 F9 N9 r9; obtain ⟨rfl, t9, rfl⟩ := r9; (try dsimp only); (try k_fold))
    k_steps
    exact hret _ _ _ _ (by k_asm) (by k_asm) ⟨rfl, _, rfl⟩
  | pair a b iha ihb =>
    rintro news v G gn g0 g1 g2 g3 g4 t0 t1 t2 t3 t4 ⟨ad, va, vb, n, rfl, hm, ha, hb⟩ hG hok hdep l0 l1 l2 l3 l4
    walk_at "my open"
    intro p loose mean mg mb dp un gd env outer A₀ base h₀ L m s Q E B F X N T he hk hdp hun hret
    simp only [Tr.depth] at hdp hun
    have hda : a.depth ≤ 1 := by simp only [Tr.depth] at hdep; omega
    have hdb : b.depth ≤ 1 := by simp only [Tr.depth] at hdep; omega
    have hwa : (wr a g1 g2 g3 g4 g0).length ≤ 333 := Nat.le_trans (wr_len hok.1 l1 l2 l3 l4 l0) (bd_mono hda)
    have hwb : (wr b g2 g3 g4 g0 g1).length ≤ 333 := Nat.le_trans (wr_len hok.2 l2 l3 l4 l0 l1) (bd_mono hdb)
    have z0 : (ofL g0).length ≤ 2 := by rw [ofL_length]; exact l0
    have z1 : (ofL g1).length ≤ 2 := by rw [ofL_length]; exact l1
    have z2 : (ofL g2).length ≤ 2 := by rw [ofL_length]; exact l2
    have z3 : (ofL g3).length ≤ 2 := by rw [ofL_length]; exact l3
    have za : (ofL (quo true (wr a g1 g2 g3 g4 g0))).length ≤ 3000 := by rw [ofL_length]; have := quo_len true (wr a g1 g2 g3 g4 g0); omega
    have zb : (ofL (quo false (wr b g2 g3 g4 g0 g1))).length ≤ 3000 := by rw [ofL_length]; have := quo_len false (wr b g2 g3 g4 g0 g1); omega
    k_call_by "enter" [("tree", .ref ad), ("gaps", .ref G)]
    k_with "call ref" => ((first
      | k_call_by "con" (iha _ va _ _ g1 g2 g3 g4 g0 t1 t2 t3 t4 t0 (TrIn.mono (by intro p hp; k_mem) ha) (by k_mem) hok.1 (Nat.le_succ_of_le hda) l1 l2 l3 l4 l0)
      | k_call_by "con" (ihb _ vb _ _ g2 g3 g4 g0 g1 t2 t3 t4 t0 t1 (TrIn.mono (by intro p hp; k_mem) hb) (by k_mem) hok.2 (Nat.le_succ_of_le hdb) l2 l3 l4 l0 l1)
      | k_call_by "con" (con_quoted w _ (wr a g1 g2 g3 g4 g0) _ true (Nat.le_trans hwa (by decide)))
      | k_call_by "con" (con_quoted w _ (wr b g2 g3 g4 g0 g1) _ false (Nat.le_trans hwb (by decide)))); intro v9 n9 h9 tk9 F9 N9 r9; obtain ⟨rfl, t9, rfl⟩ := r9; (try dsimp only); (try k_fold))
    k_steps
    exact hret _ _ _ _ (by k_asm) (cb_drop (by k_asm) (by intro p hp; k_mem)) ⟨rfl, _, congrArg (Value.str · _) (by rw [s_eq]; simp only [ofL_append]; rfl)⟩

-- p7
theorem con_one_c (w : World) (hd : Option Value) (news : List (Addr × Obj)) (c : Nat) (t : Tok) (hc : c ≠ 94) : Con w hd 262 1 news [.str (ofL [91, c, 93]) t] (fun v n => news = n ∧ ∃ t, v = .str (ofL [c]) t) := by
  walk_at "my open"
  intro p loose mean mg mb dp un gd env outer A₀ base h₀ L m s Q E B F X N T he hk hdp hun hret
  have e1 : Txt.slice (ofL [91, c, 93]) (some 1) (some (-1)) = ofL [c] := by rw [slice_ofL]; rfl
  k_call_by "enter" [("piece", .str (ofL [91, c, 93]) t)]
  k_steps
  exact hret _ _ _ _ (by k_asm) (by k_asm) ⟨rfl, _, rfl⟩
theorem con_one_b (w : World) (hd : Option Value) (news : List (Addr × Obj)) (t : Tok) : Con w hd 262 1 news [.str (ofL [91, 92, 91, 93]) t] (fun v n => news = n ∧ ∃ t, v = .str (ofL [91]) t) := by
  walk_at "my open"
  intro p loose mean mg mb dp un gd env outer A₀ base h₀ L m s Q E B F X N T he hk hdp hun hret
  have e1 : Txt.slice (ofL [91, 92, 91, 93]) (some 1) (some (-1)) = ofL [92, 91] := by rw [slice_ofL]; rfl
  k_call_by "enter" [("piece", .str (ofL [91, 92, 91, 93]) t)]
  k_steps
  exact hret _ _ _ _ (by k_asm) (by k_asm) ⟨rfl, _, congrArg (Value.str · _) (by first | rfl | (rw [l_bslb]; decide))⟩
theorem con_one_bar (w : World) (hd : Option Value) (news : List (Addr × Obj)) (t : Tok) : Con w hd 262 1 news [.str (ofL [91, 94, 0, 45, 60, 62, 45, 1114111, 93]) t] (fun v n => news = n ∧ ∃ t, v = .str (ofL [61]) t) := by
  walk_at "my open"
  intro p loose mean mg mb dp un gd env outer A₀ base h₀ L m s Q E B F X N T he hk hdp hun hret
  have e1 : Txt.slice (ofL [91, 94, 0, 45, 60, 62, 45, 1114111, 93]) (some 1) (some (-1)) = ofL [94, 0, 45, 60, 62, 45, 1114111] := by rw [slice_ofL]; rfl
  have e2 : Txt.slice (ofL [94, 0, 45, 60, 62, 45, 1114111]) (some 1) (some 3) = ofL [0, 45] := by rw [slice_ofL]; rfl
  have e3 : Txt.slice (ofL [94, 0, 45, 60, 62, 45, 1114111]) (some 5) none = ofL [45, 1114111] := by rw [slice_ofL]; rfl
  k_call_by "enter" [("piece", .str (ofL [91, 94, 0, 45, 60, 62, 45, 1114111, 93]) t)]
  k_steps
  exact hret _ _ _ _ (by k_asm) (by k_asm) ⟨rfl, _, rfl⟩

-- h1
/-- the exception that is being handled has no context of its own yet -/
def ExcIn (h : Heap) (e : Addr) : Prop := ∃ o vs, h.get? e = some o ∧ o.data = .fields vs ∧ vs[2]? = some .none
def Hd (hd : Option Value) (h : Heap) : Prop := ∀ v, hd = some v → ∃ e, v = .ref e ∧ ExcIn h e
theorem Hd.none {h : Heap} : Hd none h := fun _ e => nomatch e
theorem ExcIn.keeps {h h' : Heap} {e : Addr} (x : ExcIn h e) (k : ∀ b o, h.get? b = some o → h'.get? b = some o) : ExcIn h' e :=
  let ⟨o, vs, a, b, c⟩ := x; ⟨o, vs, k _ _ a, b, c⟩
theorem Hd.keeps {hd : Option Value} {h h' : Heap} (x : Hd hd h) (k : ∀ b o, h.get? b = some o → h'.get? b = some o) : Hd hd h' :=
  fun v e => let ⟨a, b, c⟩ := x v e; ⟨a, b, c.keeps k⟩
theorem entry_unchain : entryFor table "proto.unchain" = some Builtin.«proto.unchain» := entryFor_of_fast (by kernel_rfl)
section
variable {α : Type} {prog : Program} {w : World} {A : Around} {E : Value → Shared → Prop} {s : Shared}
theorem raiseNewH {x : Addr} {o : Obj} {vs : Array Value} {Q : α → Shared → Prop} (hh : Hd A.handled s.heap) (ho : s.heap.get? x = some o) (hd : o.data = .fields vs) (hv : 2 < vs.size)
    (h : ∀ h', Heap.SameBut x s.heap h' → (∃ ob, h'.get? x = some ob ∧ ob.cls = o.cls) → E (.ref x) { s with heap := h' }) :
    wpAny (model prog w) A (raiseNew (.ref x) : Sem α) Q E s := by
  unfold raiseNew
  refine wpAny_bind (wpAny_handled ?_)
  cases hA : A.handled with
  | none => exact wpAny_bind (wpAny_pure (wpAny_throw (h _ (.refl ..) ⟨o, ho, rfl⟩)))
  | some v =>
    obtain ⟨e, rfl, oe, ve, he, hed, hev⟩ := hh v hA
    dsimp only
    by_cases hx : (Value.ref e != Value.ref x) = true
    · rw [if_pos hx]
      refine wpAny_bind (wpAny_holding (wpAny_runValue (codeAny_builtin entry_unchain ?_)))
      show wpAny _ _ (field (.ref e) 2 >>= _) _ _ s
      refine wpAny_bind (wpAny_field he hed hev ?_)
      show wpAny _ _ (ret .none) _ _ s
      refine wpAny_pure ?_
      show wpAny _ _ (updateField x 2 (.ref e) >>= fun _ => throw (.ref x)) _ _ s
      unfold updateField
      refine wpAny_bind (wpAny_bind (wpAny_load ho ?_))
      rw [hd]
      dsimp only
      rw [if_pos hv]
      refine wpAny_update ho (wpAny_throw (h _ (Heap.SameBut.update ..) ⟨_, Heap.get?_update_self _ ho (Obj.isFreed_of_fields (Obj.data_mapFields hd _)), Obj.cls_mapFields ..⟩))
    · rw [if_neg hx]
      exact wpAny_bind (wpAny_pure (wpAny_throw (h _ (.refl ..) ⟨o, ho, rfl⟩)))
theorem raise_newH {cls : String} {args : List Value} {Q : α → Shared → Prop} (hp : PlainExc cls) (hh : Hd A.handled s.heap)
    (h : ∀ h' e, (∀ b o, s.heap.get? b = some o → h'.get? b = some o) → (∃ ob, h'.get? e = some ob ∧ ob.cls = .type cls) → E (.ref e) { s with heap := h' })
    (hsz : args.length ≤ sizeLine := by size_fits) :
    wpAny (model prog w) A (do raiseNew (← newExc (.type cls) args) : Sem α) Q E s := by
  refine wpAny_bind ?_
  unfold newExc newTuple
  refine wpAny_bind (wpAny_newObj_type ?_ (show args.toArray.size ≤ sizeLine by simpa using hsz))
  refine wpAny_bind (m := firstArgMember _ _) (wpAny_of_eq (a := Value.none) (by simp only [firstArgMember, hp.first]; rfl) ?_)
  rw [hp.own]
  refine wpAny_newObj_type ?_ (by size_fits)
  refine raiseNewH (hh.keeps fun b o hb => Heap.get?_push_of_some _ (Heap.get?_push_of_some _ hb)) (Heap.get?_push_size _ rfl) rfl (by simp) fun h' hs ⟨ob, ho, hc⟩ => h _ _ (fun b o hb => ?_) ⟨ob, ho, hc⟩
  have e1 := Heap.get?_push_of_some ({ cls := .type "tuple", data := .seq args.toArray } : Obj) hb
  exact (hs.2 b (Nat.ne_of_lt (Heap.lt_size e1))).trans (Heap.get?_push_of_some _ e1)
theorem getItem_missH {K : Type} [DecidableEq K] {knd : KeyKind prog w K} {d : Addr} {k : K} {key : Value} {f : K → Option Value} {Q : Value → Shared → Prop} (hkey : knd.is k key = true) (hd : (d == sysModules) = false) (hh : Hd A.handled s.heap) (hm : s.heap.MapOf knd d f) (hv : f k = none)
    (h : ∀ h' e, (∀ b o, s.heap.get? b = some o → h'.get? b = some o) → (∃ ob, h'.get? e = some ob ∧ ob.cls = .type "KeyError") → E (.ref e) { s with heap := h', toks := s.toks + 1 }) : wpAny (model prog w) A (getItem (.ref d) key) Q E s := by
  unfold getItem
  try with_reducible refine wpAny_holding ?_
  refine wpAny_bind (wpAny_sequenceKey hm.typeIs (by decide) ?_)
  refine wpAny_bind (wpAny_callSpecial?_slot (name := PySem.Str.ofString "__getitem__") hm.typeIs slot_dict_getitem
    (wpAny_call_entry slot_dict_getitem hm.typeIs entry_dict_getitem ?_ (args_dict_getitem _ _)))
  show wpAny _ _ (dictGet d key >>= _) _ _ s
  refine wpAny_bind (wpAny_dictGet_of hkey hm ?_)
  rw [hv]
  show wpAny _ _ (Builtin.Dict.missed d key >>= _) _ _ _
  refine wpAny_bind (wpAny_missed_other hd ?_)
  refine wpAny_bind (wpAny_typeOf (s := { s with toks := s.toks + 1 }) hm.typeIs ?_)
  show wpAny _ _ (if (Value.type "dict" != Value.type "dict") = true then _ else _) _ _ _
  rw [if_neg (by decide)]
  exact wpAny_bind (wpAny_rule (raise_newH (A := A.in1) plainExc_KeyError hh fun h' e k x => h h' e k x))
end

def SP : List Nat := [40,41,91,93,123,125,63,42,43,45,124,94,36,92,46,38,126,35,32,9,10,13,11,12]
def esc (c : Nat) : List Nat := if SP.contains c then [92, c] else [c]
theorem esc_map {prog : Program} {w : World} {h : Heap} (X : (K w.params).In h) :
    ∃ f, h.MapOf (intKind prog w) 52 f ∧ (∀ c ∈ SP, ∃ t, f ((c : Nat) : Int) = some (.str (ofL [92, c]) t)) ∧ ∀ c, c ∉ SP → f ((c : Nat) : Int) = none := by
  refine ⟨_, ⟨_, _, _, X 52 _ rfl, ⟨rfl, rfl, rfl⟩, rfl, ?_, fun _ => rfl⟩, ?_, ?_⟩
  · intro e he
    simp only [List.mem_toArray, List.mem_cons, List.not_mem_nil, or_false] at he
    rcases he with rfl | rfl | rfl | rfl | rfl | rfl | rfl | rfl | rfl | rfl | rfl | rfl | rfl | rfl | rfl | rfl | rfl | rfl | rfl | rfl | rfl | rfl | rfl | rfl <;> exact ⟨_, intKind_is _ _ _ _, rfl⟩
  · simp only [SP, List.forall_mem_cons, List.not_mem_nil, false_implies, implies_true, and_true]
    refine ⟨⟨_, rfl⟩, ⟨_, rfl⟩, ⟨_, rfl⟩, ⟨_, rfl⟩, ⟨_, rfl⟩, ⟨_, rfl⟩, ⟨_, rfl⟩, ⟨_, rfl⟩, ⟨_, rfl⟩, ⟨_, rfl⟩, ⟨_, rfl⟩, ⟨_, rfl⟩, ⟨_, rfl⟩, ⟨_, rfl⟩, ⟨_, rfl⟩, ⟨_, rfl⟩, ⟨_, rfl⟩, ⟨_, rfl⟩, ⟨_, rfl⟩, ⟨_, rfl⟩, ⟨_, rfl⟩, ⟨_, rfl⟩, ⟨_, rfl⟩, ⟨_, rfl⟩⟩
  · intro c hc
    unfold findBy
    rw [Option.map_eq_none_iff, Array.find?_eq_none]
    intro e he
    have hk : ∃ k t, e.key = Value.int ((k : Nat) : Int) t ∧ k ∈ SP := by
      simp only [List.mem_toArray, List.mem_cons, List.not_mem_nil, or_false] at he
      rcases he with rfl | rfl | rfl | rfl | rfl | rfl | rfl | rfl | rfl | rfl | rfl | rfl | rfl | rfl | rfl | rfl | rfl | rfl | rfl | rfl | rfl | rfl | rfl | rfl <;> exact ⟨_, _, rfl, by decide⟩
    obtain ⟨k, t, ek, hks⟩ := hk
    have hne : k ≠ c := fun q => hc (q ▸ hks)
    rw [ek]
    simp [intKind, Value.isInt]
    omega
theorem slot_tr : Slot "str" "translate" "str.translate" :=
  .of (owner := "str") (n := "translate") (by rw [typeLookup_type, builtinLookup_eq_fast]; kernel_rfl) (by decide +kernel) (by decide +kernel) (by decide +kernel)
    (by first | exact .inl (by decide +kernel) | exact .inr (by decide +kernel)) (by rw [isSubtype_type]; kernel_rfl)
theorem type_tr : typeOf (.builtin "str.translate") = pure (.type "method_descriptor") := by show builtinType _ = _; rw [builtinType_eq_fast]; kernel_rfl
theorem entry_tr : entryFor table "str.translate" = some Builtin.«str.translate» := entryFor_of_fast (by kernel_rfl)
theorem args_tr (a b : Value) : argsOk "str.translate" ⟨[a, b], []⟩ := by unfold argsOk; kernel_rfl
theorem sub_KeyLookup : isSubtype (.type "KeyError") (.type "LookupError") = pure true := by rw [isSubtype_type]; kernel_rfl
section
variable {prog : Program} {w : World} {A : Around} {E : Value → Shared → Prop} {s : Shared}
theorem m_tr {M : Model} {pl : Sem Bool} {x : PySem.Str} {t : Tok} {Q : Value × List Value → Shared → Prop} (h : Q (.builtin "str.translate", [.str x t]) s) : wpAny M A (getMethod (.str x t) "translate" pl) Q E s := by
  with_reducible exact GM.of (.str x t) (typeIs_str _ _ _) slot_tr type_tr GM.noRef h
theorem tableLookup_esc {c : Nat} {Q : Builtin.Str.Mapped → Shared → Prop} (X : (K w.params).In s.heap) (hh : Hd A.handled s.heap)
    (h : ∀ h' k, (∀ b o, s.heap.get? b = some o → h'.get? b = some o) → Q (if SP.contains c then .text (ofL [92, c]) else .keep) { s with heap := h', toks := k }) :
    wpAny (model prog w) A (Builtin.Str.tableLookup (.ref 52) c) Q E s := by
  obtain ⟨f, hm, h1, h2⟩ := esc_map (prog := prog) X
  unfold Builtin.Str.tableLookup
  by_cases hc : c ∈ SP
  · obtain ⟨t, ht⟩ := h1 c hc
    refine wpAny_bind (wpAny_attempt (wpAny_bind (wpAny_mkInt (wpAny_getItem_of (intKind_is _ _ _ _) hm ht ?_))))
    rw [if_pos (List.contains_iff_mem.mpr hc)] at h
    dsimp only
    refine wpAny_bind (wpAny_of_eq (a := none) rfl ?_)
    dsimp only
    refine wpAny_bind (wpAny_of_eq (a := some (ofL [92, c])) rfl ?_)
    exact wpAny_pure (h _ _ fun _ _ x => x)
  · refine wpAny_bind (wpAny_attempt (wpAny_bind (wpAny_mkInt (getItem_missH (intKind_is _ _ _ _) rfl hh hm (h2 c hc) ?_))))
    intro h' e hk ⟨ob, ho, hcl⟩
    refine wpAny_bind (wpAny_isInstance (T := "KeyError") (b := true) ⟨_, ho, hcl⟩ sub_KeyLookup ?_)
    rw [if_neg (fun z => hc (List.contains_iff_mem.mp z))] at h
    exact wpAny_bind (wpAny_rule (wpAny_pure (h _ _ hk)))

theorem call_tr {c : Nat} {t : Tok} {Q : Value → Shared → Prop} (X : (K w.params).In s.heap) (hh : Hd A.handled s.heap)
    (h : ∀ h' t' k, (∀ b o, s.heap.get? b = some o → h'.get? b = some o) → Q (.str (ofL (esc c)) t') { s with heap := h', toks := k }) :
    wpAny (model prog w) A (call (.builtin "str.translate") [.str (ofL [c]) t, .ref 52]) Q E s := by
  refine wpAny_call_entry slot_tr (typeIs_str s _ t) entry_tr ?_ (args_tr _ _)
  unfold Builtin.«str.translate»
  refine wpAny_bind (wpAny_of_eq (a := (.str (ofL [c]) t, ofL [c], .ref 52)) rfl ?_)
  dsimp only
  rw [if_neg (by simp [ofL, PySem.Str.length])]
  rw [show (ofL [c]).cps = ([c] : List Nat).toArray from rfl, List.forIn_toArray, List.forIn_cons]
  simp only [List.forIn_nil, List.all_toArray, List.all_cons, List.all_nil, Bool.and_true]
  rw [if_neg (show ¬ (Builtin.Str.tooLong 0 = true) by decide)]
  by_cases hf : c < 128
  · rw [if_pos (decide_eq_true hf)]
    simp only [List.lookup]
    refine wpAny_bind (wpAny_bind (wpAny_bind (tableLookup_esc X hh fun h₁ k₁ K₁ => ?_)))
    cases hc : SP.contains c
    · have ee : esc c = [c] := by unfold esc; rw [hc]; rfl
      rw [ee] at h
      simp only [Bool.false_eq_true, if_false]
      refine wpAny_bind (wpAny_pure ?_)
      dsimp only
      refine wpAny_pure ?_
      dsimp only
      refine wpAny_pure ?_
      dsimp only
      rw [if_neg (show ¬ (Builtin.Str.tooLong (0 + 1) = true) by decide)]
      refine wpAny_bind (wpAny_mkStr (wpAny_pure ⟨_, rfl, h _ _ _ K₁⟩) (by show 1 ≤ sizeLine; decide))
    · have ee : esc c = [92, c] := by unfold esc; rw [hc]; rfl
      rw [ee] at h
      simp only [if_true]
      rw [if_neg (by simp [ofL, PySem.Str.length])]
      dsimp only
      refine wpAny_bind (wpAny_pure ?_)
      dsimp only
      refine wpAny_bind (wpAny_rule ?_)
      rw [if_neg (by decide)]
      refine wpAny_bind (tableLookup_esc (X.keeps K₁) (hh.keeps K₁) fun h₂ k₂ K₂ => ?_)
      rw [hc]
      rw [if_pos rfl]
      dsimp only
      refine wpAny_pure ?_
      dsimp only
      refine wpAny_pure ?_
      dsimp only
      rw [show 0 + (ofL [92, c]).length = 2 from rfl, if_neg (show ¬ (Builtin.Str.tooLong 2 = true) by decide)]
      refine wpAny_bind (wpAny_mkStr (wpAny_pure ⟨_, rfl, h _ _ _ fun b o x => K₂ b o (K₁ b o x)⟩) (by show 2 ≤ sizeLine; decide))
  · rw [if_neg (by simpa using hf)]
    have hc : SP.contains c = false := by
      cases hc : SP.contains c
      · rfl
      · have hm := List.contains_iff_mem.mp hc
        simp only [SP, List.mem_cons, List.not_mem_nil, or_false] at hm
        omega
    have ee : esc c = [c] := by unfold esc; rw [hc]; rfl
    rw [ee] at h
    rw [if_neg (by decide)]
    refine wpAny_bind (wpAny_bind (wpAny_bind (tableLookup_esc X hh fun h₁ k₁ K₁ => ?_)))
    rw [hc]
    rw [if_neg (by decide)]
    dsimp only
    refine wpAny_pure ?_
    dsimp only
    refine wpAny_pure ?_
    dsimp only
    rw [if_neg (show ¬ (Builtin.Str.tooLong (0 + 1) = true) by decide)]
    refine wpAny_bind (wpAny_mkStr (wpAny_pure ⟨_, rfl, h _ _ _ K₁⟩) (by show 1 ≤ sizeLine; decide))
end

-- h2

def HdC (hd : Option Value) (h : Heap) (news : List (Addr × Obj)) : Prop := ∀ v, hd = some v → ∃ e, v = .ref e ∧ ExcIn h e ∧ e ∉ news.map (·.1)
theorem HdC.none {h : Heap} {news : List (Addr × Obj)} : HdC none h news := fun _ e => nomatch e
theorem HdC.here {hd : Option Value} {h₀ h : Heap} {L : Addr} {m : PySem.Str → Option Value} {news : List (Addr × Obj)} (x : Hd hd h₀) (F : Fr h₀ L h m) (N : News h₀ L h news) : HdC hd h news := fun v e => by
  obtain ⟨a, b, c⟩ := x v e
  refine ⟨a, b, c.keeps F.keep, fun q => ?_⟩
  obtain ⟨o, vs, ho, -⟩ := c
  obtain ⟨p, hp, rfl⟩ := List.mem_map.mp q
  rw [(N p hp).2.2] at ho
  cases ho
section
variable {prog : Program} {w : World} {A A₀ : Around} {E : Value → Shared → Prop} {s : Shared} {h₀ base : Heap} {L : Addr} {m mg mb : PySem.Str → Option Value} {news : List (Addr × Obj)} {p : Program} {loose : List PySem.Str} {mean : ExcName → Option Value}
theorem code_defH {hd : Option Value} {K : Frag} {env : Env} {outer : List Env} {R : Result → Shared → Prop} {name qual : PySem.Str} {params : Arguments} {body : List Stmt} {scope : Scope} {dV kV doc pm cdv ct oc : Value} {an od : Option Addr} {osl : Array (Option Value)} {f : Addr} {args : Args} {binds : List (PySem.Str × Value)}
    (B : Below A₀ base outer h₀) (F : Fr h₀ L s.heap m) (X₀ : K.In h₀) (N : News h₀ L s.heap news) (T : Top p loose mean mg mb h₀) (hH : HdC hd s.heap news) (hA : A.frames = some (env :: outer)) (hf : env.frame = some L) (hke : env.scope.kind = .function)
    (ho : K.lookup f = some ⟨oc, od, .func (fnOf name qual params body scope dV kV doc pm an cdv ct), osl⟩) (hcd : codeIn K cdv qual = true) (hroom : A.depth < recursionLimit)
    (hbind : BindsTo s (fnOf name qual params body scope dV kV doc pm an cdv ct) args binds) (hloc : ∀ y ∈ binds, scope.names.lookup y.1 = some .local)
    (h : ∀ g L' h₁, Fr h₀ L g m → Fr g L' h₁ (fun y => binds.reverse.lookup y) → News g L' h₁ news → Below A base (env :: outer) g → K.In g → Top p loose mean mg mb g → Hd hd g →
      wpAny (model prog w) (A.deeper (envOf qual scope L' f cdv)) (execs body (envOf qual scope L' f cdv))
        (fun fl s' => LeaveK h₀ L m g R (match fl with | .ret v => v | _ => .none) s')
        (fun e s' => wpAny (model prog w) (A.deeper (envOf qual scope L' f cdv)) (leaving (envOf qual scope L' f cdv) e) (fun _ s'' => R (.error e) s'') (fun e' s'' => R (.error e') s'') s')
        { s with heap := h₁, toks := s.toks + binds.length })
    (hco : scope.isCoroutine = false) (hgen : scope.isGenerator = false) (hk : scope.kind = .function)
    (hcell : ∀ x ∈ scope.names, x.2 ≠ .cell) : codeAny (model prog w) A (.call (.ref f) args) R s := by
  obtain ⟨FG, BG, st, lv⟩ := groundX (R := R) B F N hA hf hke
  refine codeAny_call_def (fd := fnX name qual params body scope [] dV kV doc pm an cdv ct) (body := body) (binds := binds) hroom ((X₀.keeps F.keep) _ _ ho) rfl (T.nolimit.keeps F.keep) (codeRec_of (X₀.keeps F.keep) hcd) rfl hbind hcell hloc (fun h₁ hns hk₁ => ?_) hco hgen hk
  exact wpAny_mono (h _ s.heap.objs.size h₁ FG ⟨hns, fun b o e => hk₁ b o (of_hideAll _ e), Nat.le_of_eq (hideAll_size _ _)⟩
    (fun p hp => ⟨hk₁ _ _ (N p hp).1, Nat.ne_of_lt (Heap.lt_size (N p hp).1), hideAll_none _ (List.mem_map_of_mem hp)⟩) BG (X₀.keeps st) (T.keeps st)
    (fun v e => by
      obtain ⟨a, b, ⟨o, vs, c1, c2, c3⟩, d⟩ := hH v e
      exact ⟨a, b, o, vs, hideAll_get _ c1 d, c2, c3⟩)) (fun fl s' hl => lv _ _ hl) fun _ _ y => y
end
/-- `Con` of a def that raises within, in an except suite or outside one -/
def ConH (w : World) (hd : Option Value) (f : Addr) (need : Nat) (news : List (Addr × Obj)) (vs : List Value) (R : Value → List (Addr × Obj) → Prop) : Prop :=
  ∀ (p : Program) (loose : List PySem.Str) (mean : ExcName → Option Value) (mg mb : PySem.Str → Option Value) (dp un : Nat) (gd : Option (List PySem.Code)) (env : Env) (outer : List Env) (A₀ : Around) (base h₀ : Heap) (L : Addr) (m : PySem.Str → Option Value) (s : Shared) (Q E : Value → Shared → Prop),
    Below A₀ base outer h₀ → Fr h₀ L s.heap m → (K w.params).In h₀ → News h₀ L s.heap news → Top p loose mean mg mb h₀ → HdC hd s.heap news → env.frame = some L → env.scope.kind = .function → dp + need < recursionLimit → un + 8 * need < cLine →
    (∀ v news' h' tk', Fr h₀ L h' m → News h₀ L h' news' → R v news' → Q v { s with heap := h', toks := tk' }) →
    wpAny (model PySem.Challenge.pw_ij0084_01 w) { handled := hd, depth := dp, frames := some (env :: outer), guards := gd, units := un } (call (.ref f) vs) Q E s
theorem con_useH {w : World} {f : Addr} {need : Nat} {news : List (Addr × Obj)} {vs : List Value} {R : Value → List (Addr × Obj) → Prop} {p : Program} {loose : List PySem.Str} {mean : ExcName → Option Value} {mg mb : PySem.Str → Option Value} {hd : Option Value} {dp un : Nat} {gd : Option (List PySem.Code)} {env : Env} {outer : List Env} {A₀ : Around} {base h₀ : Heap} {L : Addr} {m : PySem.Str → Option Value} {s : Shared} {Q E : Value → Shared → Prop}
    (B : Below A₀ base outer h₀) (F : Fr h₀ L s.heap m) (X : (K w.params).In h₀) (N : News h₀ L s.heap news) (T : Top p loose mean mg mb h₀) (H : HdC hd s.heap news) (he : env.frame = some L) (hk : env.scope.kind = .function) (C : ConH w hd f need news vs R)
    (hdp : dp + need < recursionLimit) (hun : un + 8 * need < cLine)
    (ret : ∀ v news' h' tk', Fr h₀ L h' m → News h₀ L h' news' → R v news' → Q v { s with heap := h', toks := tk' }) :
    wpAny (model PySem.Challenge.pw_ij0084_01 w) { handled := hd, depth := dp, frames := some (env :: outer), guards := gd, units := un } (call (.ref f) vs) Q E s :=
  C p loose mean mg mb dp un gd env outer A₀ base h₀ L m s Q E B F X N T H he hk hdp hun ret
theorem kwl8 : True := by
  k_with "my openH!" => ((refine con_row ?_; unfold ConH; k_fill; intro _))
  trivial
local macro_rules | `(tactic| k_call_by "enterH" $t) => `(tactic| (
  refine wpAny_call ?_
  k_dflt (refine' code_defH (binds := $t) ?k1 ?k2 ?k3 ?k4 ?k5 ?kH ?kA ?kF ?kK ?k6 ?k7 ?k8 ?k9 ?kB ?_ ?c2 ?c3 ?c4 ?c5; (case kA => exact rfl); (case kF => assumption); (case kK => assumption); (case k1 => k_asm); (case k2 => k_asm); (case k3 => k_asm); (case k4 => k_asm); (case k5 => k_asm); (case kH => assumption); (case k6 => k_is); (case k7 => k_is); (case k8 => walk_at "my room"); (case k9 => exact BindsTo.of_eq rfl); (case c5 => decide); (case kB => exact locs rfl); (case c2 => exact rfl); (case c3 => exact rfl); (case c4 => exact rfl); k_whole; intro g' L' h' FG' F' N' B' X' T' H'; (try dsimp only); (try k_fold))))
theorem kwl9 : True := by
  k_with "my hd!" => ((with_reducible first | exact HdC.none | assumption | (refine' HdC.here ?hqq1 ?hqq2 ?hqq3; (case hqq2 => assumption); (case hqq3 => assumption); (case hqq1 => assumption))))
  trivial
local macro_rules | `(tactic| k_call_by "conH" $t) => `(tactic| (
  k_here
  k_dflt (refine' con_useH ?k1 ?k2 ?k3 ?k4 ?k5 ?kH ?kA ?kK ?kC ?kd ?ku ?_
          (case k1 => k_asm); (case k2 => k_asm); (case k3 => k_asm); (case k4 => k_asm); (case k5 => k_asm); (case kH => walk_at "my hd"); (case kA => exact rfl); (case kK => exact rfl); (case kC => exact $t); (case kd => walk_at "my room"); (case ku => walk_at "my room"))))
theorem Fr.of_keeps {h₀ h h' : Heap} {L : Addr} {m : PySem.Str → Option Value} (F : Fr h₀ L h m) (k : ∀ b o, h.get? b = some o → h'.get? b = some o) : Fr h₀ L h' m :=
  ⟨F.ns.at' fun o e => k _ o e, fun b o e => k b o (F.keep b o e), F.above⟩
theorem News.of_keeps {h₀ h h' : Heap} {L : Addr} {news : List (Addr × Obj)} (N : News h₀ L h news) (k : ∀ b o, h.get? b = some o → h'.get? b = some o) : News h₀ L h' news :=
  fun p hp => ⟨k _ _ (N p hp).1, (N p hp).2⟩
theorem call_trK {prog : Program} {w : World} {A : Around} {E : Value → Shared → Prop} {s : Shared} {h₀ : Heap} {L : Addr} {m : PySem.Str → Option Value} {news : List (Addr × Obj)} {c : Nat} {t : Tok} {Q : Value → Shared → Prop} (F : Fr h₀ L s.heap m) (N : News h₀ L s.heap news) (X : (K w.params).In h₀) (hh : Hd A.handled h₀)
    (h : ∀ t' h' k, Fr h₀ L h' m → News h₀ L h' news → Q (.str (ofL (esc c)) t') { s with heap := h', toks := k }) :
    wpAny (model prog w) A (call (.builtin "str.translate") [.str (ofL [c]) t, .ref 52]) Q E s :=
  call_tr (X.keeps F.keep) (hh.keeps F.keep) fun h' t' k K => h t' h' k (Fr.of_keeps F K) (News.of_keeps N K)
theorem kwl10 : True := by
  k_with "getMethod str!" => ((k_here; (with_reducible refine m_tr ?_)))
  k_with "call builtin:str.translate!" => ((k_here; k_dflt (refine' call_trK ?hqk1 ?hqk2 ?hqk3 ?hqk4 ?_; (case hqk1 => k_asm); (case hqk2 => k_asm); (case hqk3 => k_asm); (case hqk4 => assumption); intro t' h' k' F' N'; (try k_sweep))))
  trivial
theorem con_escape (w : World) (hd : Option Value) (news : List (Addr × Obj)) (c : Nat) (t : Tok) : ConH w hd 62 1 news [.str (ofL [c]) t] (fun v n => news = n ∧ ∃ t, v = .str (ofL (esc c)) t) := by
  walk_at "my openH"
  intro p loose mean mg mb dp un gd env outer A₀ base h₀ L m s Q E B F X N T H he hk hdp hun hret
  k_call_by "enterH" [("pattern", .str (ofL [c]) t)]
  k_steps
  exact hret _ _ _ _ (by k_asm) (by k_asm) ⟨rfl, _, rfl⟩

-- r1
def appObj (l : Addr) : Obj := { cls := .type "builtin_function_or_method", data := .fields #[.builtin "list.append", .ref l] }
theorem slot_md_get : Slot "method_descriptor" "__get__" "method_descriptor.__get__" :=
  .of (owner := "method_descriptor") (n := "__get__") (by rw [typeLookup_type, builtinLookup_eq_fast]; kernel_rfl) (by decide +kernel) (by decide +kernel) (by decide +kernel)
    (by first | exact .inl (by decide +kernel) | exact .inr (by decide +kernel)) (by rw [isSubtype_type]; kernel_rfl)
theorem md_set_none : typeLookup (.type "method_descriptor") "__set__" = pure none := by rw [typeLookup_type, builtinLookup_eq_fast]; kernel_rfl
theorem md_del_none : typeLookup (.type "method_descriptor") "__delete__" = pure none := by rw [typeLookup_type, builtinLookup_eq_fast]; kernel_rfl
theorem entry_md_get : entryFor table "method_descriptor.__get__" = some Builtin.«method_descriptor.__get__» := entryFor_of_fast (by kernel_rfl)
theorem args_md_get (a b c : Value) : argsOk "method_descriptor.__get__" ⟨[a, b, c], []⟩ := by unfold argsOk; kernel_rfl
theorem meets_md_get (a : Addr) :
    Meets (Builtin.«method_descriptor.__get__» ⟨[.builtin "list.append", .ref a, .type "list"], []⟩) (fun A R s => s.TypeIs (.ref a) "list" ∧ ∀ tk, R (.ok (.ret (.ref s.heap.objs.size))) { s with heap := s.heap.push (appObj a), toks := tk }) :=
  Meets.of_wp fun prog w A R s hs => by
    obtain ⟨hp, g, d, tk, os⟩ := s
    obtain ⟨hT, hs⟩ := hs
    have f7 : isSubtype (.type "list") (.type (".".intercalate ("list.append".cutAt '.').dropLast)) = pure true := by rw [show ".".intercalate ("list.append".cutAt '.').dropLast = "list" from by decide +kernel, isSubtype_type]; kernel_rfl
    unfold Builtin.«method_descriptor.__get__»
    repeat (any_goals (first | assumption | wp_step))
    all_goals exact ⟨_, rfl, hs _⟩
theorem meets_getattribute_append (a : Addr) (xs : Array Value) (k : Nat) (sl : Array (Option Value)) (u : Tok) :
    Meets (Builtin.«object.__getattribute__» ⟨[.ref a, .str "append" u], []⟩) (fun A R s => s.heap.get? a = some { cls := .type "list", dict := none, data := .seq xs k, slots := sl } ∧ ∀ tk, R (.ok (.ret (.ref s.heap.objs.size))) { s with heap := s.heap.push (appObj a), toks := tk }) :=
  Meets.of_wp fun prog w A R s hs => by
    obtain ⟨hp, g, d, tk, os⟩ := s
    obtain ⟨hx, hs⟩ := hs
    have hT : (⟨hp, g, d, tk, os⟩ : Shared).TypeIs (.ref a) "list" := ⟨_, hx, rfl⟩
    have f1 := PySem.F.slot_list_append.lookup
    have f2 := PySem.F.type_list_append
    have f3 := slot_md_get.lookup
    have f4 := slot_md_get.bind (.builtin "list.append")
    unfold Builtin.«object.__getattribute__»
    have f5 := md_set_none
    have f6 := md_del_none
    have f7 : isSubtype (.type "list") (.type "list") = pure true := by rw [isSubtype_type]; kernel_rfl
    repeat (any_goals (first | assumption | wp_step))
    refine codeAny_mono (codeAny_call_builtin (R := fun r s' => match r with | .ok (.ret v) => R (.ok (.ret v)) s' | .ok _ => False | .error e => R (.error e) s') slot_md_get.plain entry_md_get (slot_md_get.check _ _ _ _ _ _ _ _ f2 (args_md_get _ _ _) (meets_md_get a _ _ _ (fun r s' => match r with | .ok (.ret v) => R (.ok (.ret v)) s' | .ok _ => False | .error e => R (.error e) s') _ ⟨hT, hs⟩))) fun r s₁ hr => ?_
    cases r with
    | error e => exact hr
    | ok fl =>
      cases fl with
      | ret v => exact wpAny_pure ⟨_, rfl, hr⟩
      | _ => exact hr.elim
section
variable {prog : Program} {w : World} {A : Around} {E : Value → Shared → Prop} {s : Shared}
theorem getAttr_append {l : Addr} {o : Obj} {xs : Array Value} {k : Nat} {Q : Value → Shared → Prop} (hx : s.heap.get? l = some o) (hc : o.cls = .type "list") (hdat : o.data = .seq xs k) (hd : o.dict = none)
    (h : ∀ tk, Q (.ref s.heap.objs.size) { s with heap := s.heap.push (appObj l), toks := tk }) : wpAny (model prog w) A (getAttr (.ref l) "append" true) Q E s := by
  obtain ⟨c, dct, dat, sl⟩ := o
  simp only at hc hdat hd
  subst hc hdat hd
  obtain ⟨hp, g, d, tk, os⟩ := s
  have hT : ∀ tk', (⟨hp, g, d, tk', os⟩ : Shared).TypeIs (.ref l) "list" := fun _ => ⟨_, hx, rfl⟩
  have f3 := PySem.F.slot_list_getattribute.lookup
  have f4 := PySem.F.slot_list_getattribute.bind (.ref l)
  unfold getAttr getAttrBy
  repeat (any_goals (first | assumption | exact hT _ | ((with_reducible show wpAny _ _ (call (Value.builtin "list.__getattribute__") _ _) _ _ _); refine call_meets PySem.F.slot_list_getattribute (hT _) am_entry_list_getattribute (PySem.F.args_list_getattribute_2 _ _) (meets_getattribute_append l xs k sl _) ⟨hx, fun tk => ?_⟩) | wp_step))
  exact wpAny_of_eq (a := .ref _) rfl (h _)
theorem call_bound_append {b l : Addr} {x : Value} {its : Array Value} {n : Nat} {Q : Value → Shared → Prop} (hb : s.heap.get? b = some (appObj l)) (ho : s.heap.get? l = some { cls := .type "list", data := .seq its n })
    (h : ∀ h', Heap.SameBut l s.heap h' → h'.get? l = some { cls := .type "list", data := .seq (its.push x) (n + 1) } → Q .none { s with heap := h' })
    (hsz : its.size ≤ sizeLine := by size_fits) :
    wpAny (model prog w) A (call (.ref b) [x]) Q E s := by
  refine wpAny_call (codeAny_of_tree ?_)
  show wpAny _ _ (callAny (.ref b) _) _ _ _
  unfold callAny
  refine wpAny_bind (wpAny_load hb ?_)
  have hT : s.TypeIs (.ref l) "list" := ⟨_, ho, rfl⟩
  have f1 : isSubtype (.type "list") (.type "module") = pure false := by rw [isSubtype_type]; kernel_rfl
  have f2 : builtinKind "list.append" = some .method := by decide +kernel
  show wpAny _ _ (checkBoundCall "list.append" ⟨[.ref l, x], []⟩ >>= fun _ => again (.builtin "list.append" ⟨[.ref l, x], []⟩)) _ _ _
  have f3 : Manifest.signature? "list.append" = some ⟨.oneArg, "list.append", "append", .self, [⟨"object", .posOnly, true⟩]⟩ := by kernel_rfl
  have f4 : Manifest.varargsMethods.contains "list.append" = false := by decide +kernel
  refine wpAny_bind ?_
  unfold checkBoundCall
  rw [f3]
  dsimp only
  rw [f2]
  dsimp only
  rw [if_neg (by decide)]
  refine wpAny_bind (wpAny_isInstance hT f1 ?_)
  rw [f4, Bool.or_false, if_neg (by decide)]
  repeat (any_goals (first | assumption | wp_step))
  refine ⟨Code.quiet_builtin _ (by decide +kernel), codeAny_builtin entry_list_append ?_⟩
  show wpAny _ _ (updateSeq l (·.push x) >>= fun _ => ret .none) _ _ s
  refine wpAny_bind ?_
  refine wpAny_updateSeq ho rfl (wpAny_pure (h _ (Heap.SameBut.update ..) ?_))
  rw [Heap.get?_update_self _ ho (by rw [mapSeq_push]; rfl), mapSeq_push]
def starObj : Obj := { cls := .type "object", data := .plain }
theorem called_object : TypeCalled "object" "object.__new__" "object.__init__" where
  notType := by decide +kernel
  canCreate := by decide +kernel
  mro := ⟨.type "object", [], by rw [mroOf_type]; kernel_rfl⟩
  made := madeBy_type (c := .type "object") (tl := []) (by rw [mroOf_type]; kernel_rfl) (by rw [typeLookup_type, builtinLookup_eq_fast]; kernel_rfl) (by decide +kernel)
  plain := by decide +kernel
  sub := by rw [isSubtype_type]; kernel_rfl
  init := .of (owner := "object") (n := "__init__") (by rw [typeLookup_type, builtinLookup_eq_fast]; kernel_rfl) (by decide +kernel) (by decide +kernel) (by decide +kernel)
    (by first | exact .inl (by decide +kernel) | exact .inr (by decide +kernel)) (by rw [isSubtype_type]; kernel_rfl)
theorem madeHere_object : Bind.madeHere "object.__new__" (.type "object") = pure () := by kernel_rfl
theorem meets_object_new : Meets (Builtin.«object.__new__» ⟨[.type "object"], []⟩) (fun _ R s => R (.ok (.ret (.ref s.heap.objs.size))) { s with heap := s.heap.push starObj }) :=
  Meets.of_wp fun prog w A R s hs => by
    obtain ⟨hp, g, d, tk, os⟩ := s
    have f1 := madeHere_object
    unfold Builtin.«object.__new__»
    repeat (any_goals (first | assumption | wp_step))
    exact ⟨_, rfl, hs⟩
theorem call_object {Q : Value → Shared → Prop} (h : Q (.ref s.heap.objs.size) { s with heap := s.heap.push starObj }) : wpAny (model prog w) A (call (.type "object") []) Q E s :=
  callType_meets (Q₁ := fun v s' => v = .ref s.heap.objs.size ∧ s' = { s with heap := s.heap.push starObj }) called_object (by kernel_rfl) (by kernel_rfl) PySem.F.entry_object_new PySem.F.entry_object_init meets_object_new ⟨rfl, rfl⟩
    (by
      rintro _ _ ⟨rfl, rfl⟩
      refine ⟨⟨_, Heap.get?_push_size _ rfl, rfl⟩, (by unfold argsOk; kernel_rfl), _, Meets.of_wp (S := fun _ R s => R (.ok (.ret .none)) s) (fun prog w A R s hs => wpAny_pure ⟨_, rfl, hs⟩), rfl, h⟩)
end
section
variable {prog : Program} {w : World} {A : Around} {E : Value → Shared → Prop} {s : Shared} {h₀ : Heap} {L : Addr} {m : PySem.Str → Option Value} {news news' : List (Addr × Obj)} {Q : Value → Shared → Prop}
theorem newK {o : Obj} {s : Shared} (F : Fr h₀ L s.heap m) (N : News h₀ L s.heap news) (hf : o.isFreed = false) : Fr h₀ L (s.heap.push o) m ∧ News h₀ L (s.heap.push o) ((s.heap.objs.size, o) :: news) ∧ ∀ p ∈ news, p.1 < s.heap.objs.size :=
  ⟨F.push _, fun p hp => by
    rcases List.mem_cons.mp hp with rfl | hp
    · exact ⟨Heap.get?_push_size _ hf, Nat.ne_of_gt F.ns.lt, next_is_new F⟩
    · exact ⟨Heap.get?_push_of_some _ (N p hp).1, (N p hp).2⟩, fun p hp => Heap.lt_size (N p hp).1⟩
theorem call_objK (F : Fr h₀ L s.heap m) (N : News h₀ L s.heap news)
    (h : ∀ a h' tk, Fr h₀ L h' m → News h₀ L h' ((a, starObj) :: news) → (∀ p ∈ news, p.1 < a) → Q (.ref a) { s with heap := h', toks := tk }) : wpAny (model prog w) A (call (.type "object") []) Q E s :=
  have z := newK (o := starObj) F N rfl
  call_object (h _ _ s.toks z.1 z.2.1 z.2.2)
theorem getAttr_appK {l : Addr} {its : Array Value} {n : Nat} (F : Fr h₀ L s.heap m) (N : News h₀ L s.heap news) (hm : (l, listOf its n) ∈ news)
    (h : ∀ a h' tk, Fr h₀ L h' m → News h₀ L h' ((a, appObj l) :: news) → (∀ p ∈ news, p.1 < a) → Q (.ref a) { s with heap := h', toks := tk }) : wpAny (model prog w) A (getAttr (.ref l) "append" true) Q E s :=
  have z := newK (o := appObj l) F N rfl
  getAttr_append (N _ hm).1 rfl rfl rfl fun tk => h _ _ tk z.1 z.2.1 z.2.2
theorem call_boundK {b l : Addr} {x : Value} {its : Array Value} {n : Nat} (F : Fr h₀ L s.heap m) (N : News h₀ L s.heap news) (hb : (b, appObj l) ∈ news) (U : Upd l (listOf its n) (listOf (its.push x) (n + 1)) news news')
    (h : ∀ h', Fr h₀ L h' m → News h₀ L h' news' → Q .none { s with heap := h' }) (hsz : its.size ≤ sizeLine := by size_fits) : wpAny (model prog w) A (call (.ref b) [x]) Q E s := by
  have hb' := (N _ hb).1
  obtain ⟨pre, post, rfl, rfl, c, d⟩ := U.split
  have z := N (l, listOf its n) (List.mem_append.mpr (.inr (.head _)))
  exact call_bound_append (hsz := hsz) hb' z.1 fun h' hs ho' => h h' (F.change hs z.2.1 z.2.2) (news_set N c d hs ho')
end

-- h3
theorem kwl11 : True := by
  k_with "call type:object!" => ((k_here; k_dflt (refine' call_objK ?hqk1 ?hqk2 ?_; (case hqk1 => k_asm); (case hqk2 => k_asm); k_whole); intro a' h' tk' F' N' l1; (try k_lt l1); (try k_sweep)))
  k_with "getAttr ref!" => ((k_here; k_dflt (refine' getAttr_appK ?hqk1 ?hqk2 ?hqk3 ?_; (case hqk1 => k_asm); (case hqk2 => k_asm); (case hqk3 => k_mem); k_whole); intro a' h' tk' F' N' l1; (try k_lt l1); (try k_sweep)))
  k_with "call ref!" => ((k_here; k_dflt (refine' call_boundK ?hqk1 ?hqk2 ?hqkb ?hqk3 ?_ ?hqz; (case hqk1 => k_asm); (case hqk2 => k_asm); (case hqkb => k_mem); (case hqk3 => k_upd); (case hqz => size_fits); k_whole); intro h' F' N'; (try k_sweep)))
  trivial
theorem Hd.sameBut {hd : Option Value} {h h' : Heap} {it : Addr} {o : Obj} {vs : Array Value} (x : Hd hd h) (ho : h.get? it = some o) (hdt : o.data = .fields vs) (hv : vs[2]? = Option.none) (hs : Heap.SameBut it h h') : Hd hd h' := fun v e => by
  obtain ⟨a, b, oe, ve, h1, h2, h3⟩ := x v e
  refine ⟨a, b, oe, ve, (hs.2 a fun q => ?_).trans h1, h2, h3⟩
  subst q
  rw [ho] at h1
  cases h1
  rw [hdt] at h2
  cases h2
  rw [hv] at h3
  cases h3
section
variable {prog : Program} {w : World} {A : Around} {E : Value → Shared → Prop} {s : Shared}
theorem stopH {α : Type} {Q : α → Shared → Prop} (hh : Hd A.handled s.heap)
    (h : ∀ h' e, (∀ b o, s.heap.get? b = some o → h'.get? b = some o) → (∃ ob, h'.get? e = some ob ∧ ob.cls = .type "StopIteration") → E (.ref e) { s with heap := h' }) :
    wpAny (model prog w) A (newExc (.type "StopIteration") [] >>= fun e => (raiseNew e : Sem α)) Q E s := by
  refine wpAny_bind ?_
  simp only [newExc, newTuple]
  refine wpAny_bind (wpAny_newObj_type ?_ (by size_fits))
  refine wpAny_bind (m := firstArgMember _ _) (wpAny_of_eq (a := Value.none) (by first | rfl | (simp only [firstArgMember]; rfl)) ?_)
  refine wpAny_newObj_type ?_ (by size_fits)
  refine raiseNewH (hh.keeps fun b o hb => Heap.get?_push_of_some _ (Heap.get?_push_of_some _ hb)) (Heap.get?_push_size _ rfl) rfl (by simp <;> omega) fun h' hs ⟨ob, ho, hc⟩ => h _ _ (fun b o hb => ?_) ⟨ob, ho, hc⟩
  have e1 := Heap.get?_push_of_some ({ cls := .type "tuple", data := .seq #[] } : Obj) hb
  exact (hs.2 b (Nat.ne_of_lt (Heap.lt_size e1))).trans (Heap.get?_push_of_some _ e1)
theorem next_tuple_endH {it t : Addr} {i : Nat} {items} {Q : Option Value → Shared → Prop} (hh : Hd A.handled s.heap)
    (hit : IsTupIter s.heap it t i) (ht : IsTup s.heap t items) (hx : items[i]? = none)
    (hQ : ∀ h', Heap.ExtBut it s.heap h' → Q none { s with heap := h' }) : wpAny (model prog w) A (pyNext (.ref it)) Q E s := by
  obtain ⟨o, ho, hc, hd⟩ := id hit
  obtain ⟨ol, hol, _, nl, hdl⟩ := ht
  unfold pyNext
  refine wpAny_bind (wpAny_attempt (wpAny_callSpecial?_slot (name := PySem.Str.ofString "__next__") hit.typeIs slot_tupleiter_next
    (wpAny_call_entry slot_tupleiter_next hit.typeIs entry_tupleiter_next ?_ (args_tupleiter_next _))))
  show wpAny _ _ (field (.ref it) 0 >>= _) _ _ s
  refine wpAny_bind (wpAny_field ho hd (x := .ref t) rfl ?_)
  show wpAny _ _ (if (Value.ref t == Value.none) = true then _ else _) _ _ s
  rw [if_neg (show ¬ ((Value.ref t == Value.none) = true) from Bool.false_ne_true)]
  show wpAny _ _ (field (.ref it) 1 >>= _) _ _ s
  refine wpAny_bind (wpAny_field ho hd (x := .int i 0) rfl ?_)
  show wpAny _ _ (seqItems? (.ref t) >>= _) _ _ s
  refine wpAny_bind (wpAny_seqItems hol hdl ?_)
  simp only [Int.toNat_natCast, hx]
  refine wpAny_bind (wpAny_rule (wpAny_bind (wpAny_setField ho hd (by simp) ?_)))
  refine stopH (A := A.in1) (hh.sameBut ho hd (by simp) (Heap.SameBut.update ..)) fun h' e K ⟨ob, ho', hc'⟩ => ?_
  refine wpAny_bind (wpAny_isInstance (T := "StopIteration") (b := true) ⟨_, ho', hc'⟩ isSubtype_stop ?_)
  exact wpAny_pure (hQ _ fun b o hb e => K b o ((Heap.SameBut.update ..).extBut b o hb e))
theorem next_list_endH {it l : Addr} {i : Nat} {items} {Q : Option Value → Shared → Prop} (hh : Hd A.handled s.heap)
    (hit : s.heap.IsListIter it l i) (hl : s.heap.IsList l items) (hx : items[i]? = none)
    (hQ : ∀ h', Heap.ExtBut it s.heap h' → Q none { s with heap := h' }) : wpAny (model prog w) A (pyNext (.ref it)) Q E s := by
  obtain ⟨o, ho, hc, hd⟩ := id hit
  obtain ⟨ol, hol, _, nl, hdl⟩ := hl
  unfold pyNext
  refine wpAny_bind (wpAny_attempt (wpAny_callSpecial?_slot (name := PySem.Str.ofString "__next__") hit.typeIs slot_listiter_next
    (wpAny_call_entry slot_listiter_next hit.typeIs entry_listiter_next ?_ (args_listiter_next _))))
  show wpAny _ _ (field (.ref it) 0 >>= _) _ _ s
  refine wpAny_bind (wpAny_field ho hd (x := .ref l) rfl ?_)
  show wpAny _ _ (if (Value.ref l == Value.none) = true then _ else _) _ _ s
  rw [if_neg (show ¬ ((Value.ref l == Value.none) = true) from Bool.false_ne_true)]
  show wpAny _ _ (field (.ref it) 1 >>= _) _ _ s
  refine wpAny_bind (wpAny_field ho hd (x := .int i 0) rfl ?_)
  show wpAny _ _ (seqItems? (.ref l) >>= _) _ _ s
  refine wpAny_bind (wpAny_seqItems hol hdl ?_)
  simp only [Int.toNat_natCast, hx]
  refine wpAny_bind (wpAny_rule (wpAny_bind (wpAny_setField ho hd (by simp) ?_)))
  refine stopH (A := A.in1) (hh.sameBut ho hd (by simp) (Heap.SameBut.update ..)) fun h' e K ⟨ob, ho', hc'⟩ => ?_
  refine wpAny_bind (wpAny_isInstance (T := "StopIteration") (b := true) ⟨_, ho', hc'⟩ isSubtype_stop ?_)
  exact wpAny_pure (hQ _ fun b o hb e => K b o ((Heap.SameBut.update ..).extBut b o hb e))
theorem next_ascii_endH {it : Addr} {x : PySem.Str} {t : Tok} {i : Nat} {Q : Option Value → Shared → Prop} (hh : Hd A.handled s.heap)
    (hit : s.heap.IsStrIter it "str_ascii_iterator" x t i) (hx : x.cps[i]? = none)
    (hQ : ∀ h', Heap.ExtBut it s.heap h' → Q none { s with heap := h' }) : wpAny (model prog w) A (pyNext (.ref it)) Q E s := by
  obtain ⟨o, ho, hc, hd⟩ := id hit
  unfold pyNext
  refine wpAny_bind (wpAny_attempt (wpAny_callSpecial?_slot (name := PySem.Str.ofString "__next__") hit.typeIs PySem.F.slot_str_ascii_iterator_next
    (wpAny_call_entry PySem.F.slot_str_ascii_iterator_next hit.typeIs PySem.F.entry_str_ascii_iterator_next ?_ (PySem.F.args_str_ascii_iterator_next_1 _))))
  show wpAny _ _ (field (.ref it) 0 >>= _) _ _ s
  refine wpAny_bind (wpAny_field ho hd (x := .str x t) rfl ?_)
  show wpAny _ _ (field (.ref it) 1 >>= _) _ _ s
  refine wpAny_bind (wpAny_field ho hd (x := .int i 0) rfl ?_)
  simp only [Int.toNat_natCast, hx]
  refine wpAny_bind (wpAny_rule (wpAny_bind (wpAny_setField ho hd (by simp) (wpAny_bind (wpAny_letGo ?_)))))
  refine stopH (A := A.in1) (hh.sameBut ho hd (by simp) (Heap.SameBut.update ..)) fun h' e K ⟨ob, ho', hc'⟩ => ?_
  refine wpAny_bind (wpAny_isInstance (T := "StopIteration") (b := true) ⟨_, ho', hc'⟩ isSubtype_stop ?_)
  exact wpAny_pure (hQ _ fun b o hb e => K b o ((Heap.SameBut.update ..).extBut b o hb e))
theorem next_wide_endH {it : Addr} {x : PySem.Str} {t : Tok} {i : Nat} {Q : Option Value → Shared → Prop} (hh : Hd A.handled s.heap)
    (hit : s.heap.IsStrIter it "str_iterator" x t i) (hx : x.cps[i]? = none)
    (hQ : ∀ h', Heap.ExtBut it s.heap h' → Q none { s with heap := h' }) : wpAny (model prog w) A (pyNext (.ref it)) Q E s := by
  obtain ⟨o, ho, hc, hd⟩ := id hit
  unfold pyNext
  refine wpAny_bind (wpAny_attempt (wpAny_callSpecial?_slot (name := PySem.Str.ofString "__next__") hit.typeIs PySem.F.slot_str_iterator_next
    (wpAny_call_entry PySem.F.slot_str_iterator_next hit.typeIs PySem.F.entry_str_iterator_next ?_ (PySem.F.args_str_iterator_next_1 _))))
  show wpAny _ _ (field (.ref it) 0 >>= _) _ _ s
  refine wpAny_bind (wpAny_field ho hd (x := .str x t) rfl ?_)
  show wpAny _ _ (field (.ref it) 1 >>= _) _ _ s
  refine wpAny_bind (wpAny_field ho hd (x := .int i 0) rfl ?_)
  simp only [Int.toNat_natCast, hx]
  refine wpAny_bind (wpAny_rule (wpAny_bind (wpAny_setField ho hd (by simp) (wpAny_bind (wpAny_letGo ?_)))))
  refine stopH (A := A.in1) (hh.sameBut ho hd (by simp) (Heap.SameBut.update ..)) fun h' e K ⟨ob, ho', hc'⟩ => ?_
  refine wpAny_bind (wpAny_isInstance (T := "StopIteration") (b := true) ⟨_, ho', hc'⟩ isSubtype_stop ?_)
  exact wpAny_pure (hQ _ fun b o hb e => K b o ((Heap.SameBut.update ..).extBut b o hb e))
theorem unpackItems_tupleH {t : Addr} {items : Array Value} {Q : List Value → Shared → Prop} (hh : Hd A.handled s.heap) (ht : IsTup s.heap t items)
    (hQ : ∀ h', Heap.ExtBut s.heap.objs.size s.heap h' → Q items.toList { s with heap := h' }) : wpAny (model prog w) A (unpackItems (.ref t) items.size none) Q E s := by
  have hlt : t ≠ s.heap.objs.size := by obtain ⟨o, ho, _⟩ := ht; exact Nat.ne_of_lt (Heap.lt_size ho)
  unfold unpackItems
  refine wpAny_bind ?_
  · unfold notIterableAtAll
    refine wpAny_bind (wpAny_specialOf ht.typeIs slot_tuple_iter.lookup ?_)
    refine wpAny_pure ?_
    simp only [Bool.false_eq_true, if_false]
    refine wpAny_bind (wpAny_holding (iter_tuple ht ?_))
    refine wpAny_bind (wpAny_holding (draw_tuple hlt items.size 0 _ _ ⟨_, Heap.get?_push_size _ rfl, rfl, rfl⟩ (ht.push _) (by omega) fun h₁ hit₁ hs₁ => ?_))
    have hall : List.take items.size (List.drop 0 items.toList) = items.toList := by
      rw [List.drop_zero]; exact List.take_of_length_le (by simp)
    rw [hall]
    rw [if_neg (by simp)]
    have ht₁ : IsTup h₁ t items := (ht.push _).extBut hs₁.extBut hlt
    have hh₁ : Hd A.handled h₁ := Hd.sameBut (hh.keeps fun b o hb => Heap.get?_push_of_some _ hb) (Heap.get?_push_size _ rfl) rfl rfl hs₁
    refine wpAny_bind (wpAny_holding (next_tuple_endH hh₁ hit₁ ht₁ (by simp) fun h₂ he₂ => ?_))
    simp only [Option.isSome_none, Bool.false_eq_true, if_false]
    refine wpAny_pure (hQ h₂ fun b o hb e => he₂ b o hb (hs₁.extBut b o hb (Heap.get?_push_of_some _ e)))
end

theorem next_range_endH {prog : Program} {w : World} {A : Around} {E : Value → Shared → Prop} {s : Shared} {it : Addr} {x left step : Int} {Q : Option Value → Shared → Prop} (hh : Hd A.handled s.heap) (hit : IsRangeIter s.heap it x left step) (hleft : left ≤ 0)
    (hQ : ∀ h', Heap.ExtBut it s.heap h' → Q none { s with heap := h' }) : wpAny (model prog w) A (pyNext (.ref it)) Q E s := by
  have hT : s.TypeIs (.ref it) "range_iterator" := ⟨_, hit, rfl⟩
  unfold pyNext
  refine wpAny_bind (wpAny_attempt (wpAny_callSpecial?_slot (name := PySem.Str.ofString "__next__") hT PySem.F.slot_range_iterator_next
    (wpAny_call_entry PySem.F.slot_range_iterator_next hT PySem.F.entry_range_iterator_next ?_ (PySem.F.args_range_iterator_next_1 _))))
  show wpAny _ _ (field (.ref it) 0 >>= _) _ _ s
  refine wpAny_bind (wpAny_field hit rfl (x := rawInt x) rfl ?_)
  show wpAny _ _ (field (.ref it) 1 >>= _) _ _ s
  refine wpAny_bind (wpAny_field hit rfl (x := rawInt left) rfl ?_)
  show wpAny _ _ (field (.ref it) 2 >>= _) _ _ s
  refine wpAny_bind (wpAny_field hit rfl (x := rawInt step) rfl ?_)
  show wpAny _ _ (if left ≤ 0 then _ else _) _ _ s
  rw [if_pos hleft]
  refine wpAny_bind (wpAny_rule ?_)
  refine wpAny_bind ?_
  refine stopH (A := A.in1) hh fun h' e K ⟨ob, ho', hc'⟩ => ?_
  refine wpAny_bind (wpAny_isInstance (T := "StopIteration") (b := true) ⟨_, ho', hc'⟩ isSubtype_stop ?_)
  exact wpAny_pure (hQ _ fun b o hb e => K b o e)
theorem unpackK {prog : Program} {w : World} {A : Around} {E : Value → Shared → Prop} {s : Shared} {h₀ : Heap} {L t : Addr} {m : PySem.Str → Option Value} {news : List (Addr × Obj)} {items : Array Value} {n k : Nat} {Q : List Value → Shared → Prop} (F : Fr h₀ L s.heap m) (N : News h₀ L s.heap news) (hh : Hd A.handled h₀)
    (hm : (t, ({ cls := .type "tuple", data := .seq items k } : Obj)) ∈ news) (hn : n = items.size)
    (h : ∀ h', Fr h₀ L h' m → News h₀ L h' news → Q items.toList { s with heap := h' }) : wpAny (model prog w) A (unpackItems (.ref t) n none) Q E s := by
  subst hn
  exact unpackItems_tupleH (hh.keeps F.keep) (News.isTup N hm) fun h' he => h h' (F.extBut he (Nat.le_refl _)) (N.extBut he (Nat.le_refl _))

-- w1
theorem kwl12 : True := by
  k_with "unpackItems ref!" => ((k_here; (with_reducible show wpAny _ _ (unpackItems (Value.ref _) _ none) _ _ _); k_dflt (refine' unpackK ?hqk1 ?hqk2 ?hqkh ?hqk3 ?hqk4 ?_; (case hqk1 => k_asm); (case hqk2 => k_asm); (case hqkh => assumption); (case hqk3 => k_mem); (case hqk4 => exact rfl); k_whole); intro h' F' N'; (try k_sweep)))
  trivial
theorem news_drop1 {h₀ h : Heap} {L : Addr} {p : Addr × Obj} {news : List (Addr × Obj)} (N : News h₀ L h (p :: news)) : News h₀ L h news := fun q hq => N q (List.mem_cons_of_mem _ hq)
/-- a while loop over a list that is built by its bound `append` -/
theorem ksw_while2 {prog : Program} {w : World} {A : Around} {E : Value → Shared → Prop} {Q : Flow → Shared → Prop} {s : Shared} {env : Env} {h₀ : Heap} {L : Addr} {σ : Type} {test : Expr} {body : List Stmt} {pos : Pos} {m₀ : PySem.Str → Option Value} {a l : Addr} {o : Obj} {news : List (Addr × Obj)} (Led : Addr → Addr → σ → List (Addr × Obj)) (ps : σ → List (PySem.Str × Value)) (Facts : σ → Prop) (stored : List PySem.Str) (P : σ → Prop) (μ : σ → Nat) (c₀ : σ)
    (F : Fr h₀ L s.heap m₀) (N : News h₀ L s.heap ((a, appObj l) :: (l, o) :: news)) (hl : ∀ p ∈ Led a l c₀, p ∈ (a, appObj l) :: (l, o) :: news) (hf : Facts c₀) (hk : ∀ p ∈ ps c₀, m₀ p.1 = some p.2) (hp : P c₀)
    (turn : ∀ (c : σ) (u : PySem.Str → Option Value) h tk, Facts c → P c → Fr h₀ L h (kstB (fun z => if stored.contains z then u z else m₀ z) (ps c)) → News h₀ L h (Led a l c) →
      wpAny (model prog w) A (isTrue test env (eval test env)) (fun b s₂ =>
        if b = true then wpAny (model prog w) A (execs body env) (KswPost h₀ L s (Led a l) ps Facts stored m₀ P μ Q c) E s₂ else Q .next s₂) E { s with heap := h, toks := tk })
    (hE : PassesOwn (model prog w) A env E := by passes_own) :
    wpAny (model prog w) A (exec (.While test body [] pos) env) Q E s :=
  ksw_while (Led a l) ps Facts stored P μ c₀ F (fun p hp => N p (hl p hp)) hf hk hp turn hE

-- w2
theorem kwl13 : True := by
  k_with "subscriptTail!" => ((k_here; (with_reducible show wpAny _ _ (subscriptTail _ _ (Value.ref _) (Value.int _ _)) _ _ _); k_dflt (refine' item_at ?hqk1 ?hqk2 ?hqk3 ?hqk4 ?hqk5 ?_ ?hqk6; (case hqk1 => k_asm); (case hqk2 => k_mem); (case hqk3 => omega); (case hqk4 => omega); (case hqk5 => with_reducible assumption); (case hqk6 => with_unfolding_all rfl); k_whole)))
  k_with "WhlIf!" => ((first | (refine WhlIf.yes (decide_eq_true (by assumption)) ?_) | (refine WhlIf.no (decide_eq_false (by assumption)) ?_)))
  trivial
theorem join_listK {prog : Program} {w : World} {A : Around} {E : Value → Shared → Prop} {s : Shared} {h₀ : Heap} {L D : Addr} {news : List (Addr × Obj)} {vs : List Value} {n : Nat} {ys : List PySem.Str} {x : PySem.Str} {t : Tok} {Q : Value → Shared → Prop} (N : News h₀ L s.heap news) (hm : (D, listOf vs.toArray n) ∈ news) (hv : StrsAre vs ys)
    (hsep : x.length ≤ 16) (hw : (ys.map (·.length)).sum + ys.length ≤ 1048576) (h : ∀ t' k, Q (.str (Txt.join x ys) t') { s with toks := k }) : wpAny (model prog w) A (call (.builtin "str.join") [.str x t, .ref D]) Q E s :=
  join_listW (News.isList N hm) hv hsep hw h
theorem kwl14 : True := by
  k_with "call builtin:str.join!" => ((k_here; (with_reducible show wpAny _ _ (call (Value.builtin _) [Value.str _ _, Value.ref _]) _ _ _); k_dflt (refine' join_listK ?hqk1 ?hqk2 ?hqk3 ?hqk4 ?hqk5 ?_; (case hqk1 => k_asm); (case hqk2 => k_mem); (case hqk3 => with_reducible assumption); (case hqk4 => decide +kernel); (case hqk5 => with_reducible assumption); k_whole); intro _ _))
  k_with "compareOp IsNot!" => ((k_here; (with_reducible show wpAny _ _ (compareOp CmpOp.IsNot (Value.str _ _) (Value.ref _)) _ _ _); refine wpAny_isNot_other (by rfl) (by intro x; cases x) ?_))
  trivial
def BAt (b l : Addr) (h : Heap) : Prop := h.get? b = some (appObj l)
section
variable {M : Model} {A : Around} {E : Value → Shared → Prop} {s : Shared} {h₀ : Heap} {L : Addr} {m : PySem.Str → Option Value} {news : List (Addr × Obj)}
theorem callWith_appF {pos : Pos} {u l : Addr} {first : List Value} {args : List (Bool × Sem Value)} {Q : Value → Shared → Prop} (hplain : args.any (·.1) = false)
    (h : wpAny M A (evalArgs (.ref u) true args []) (fun x s₁ => BAt u l s₁.heap ∧ wpAny M A (call (.ref u) (first ++ x.pos) x.kw) Q E s₁) E s) : wpAny M A (callWith pos (.ref u) first args []) Q E s := by
  unfold callWith
  refine wpAny_bind (wpAny_holding (wpAny_mono h (fun x s₁ h₁ => wpAny_bind (wpAny_standAt ?_)) fun _ _ x => x))
  obtain ⟨ho, hcall⟩ := h₁
  simp only [hplain, List.any_nil, Bool.or_false]
  refine wpAny_bind (m := keeperOf (.ref u)) ?_
  unfold keeperOf
  refine wpAny_bind (wpAny_load ho ?_)
  simp only [appObj, show (Value.type "builtin_function_or_method" != Value.type "method") = true by decide, show (Value.type "builtin_function_or_method" == Value.type "builtin_function_or_method" || Value.type "builtin_function_or_method" == Value.type "method-wrapper") = true by decide, if_true]
  refine wpAny_pure ?_
  exact wpAny_bind (wpAny_mono hcall (fun r s₂ hr => wpAny_bind (wpAny_holding (wpAny_point (wpAny_pure hr)))) fun _ _ x => x)
theorem callWith_app {pos : Pos} {u l : Addr} {first : List Value} {env : Env} {e : Expr} {rest : List Expr} {Q : Value → Shared → Prop} (_N : News h₀ L s.heap news) (_hm : (u, appObj l) ∈ news)
    (h : wpAny M A (spliced (backTo pos (starEach (e :: rest) env))) (fun vs s₁ => BAt u l s₁.heap ∧ wpAny M A (call (.ref u) (first ++ vs)) Q E s₁) E s)
    (he : starEach (e :: rest) env = (false, eval e env) :: starEach rest env := by rfl) (hplain : (backTo pos (starEach rest env)).any (·.1) = false := by rfl) :
    wpAny M A (callWith pos (.ref u) first (backTo pos (starEach (e :: rest) env)) []) Q E s := by
  rw [he] at h ⊢
  refine callWith_appF (l := l) (by show (false || (backTo pos (starEach rest env)).any (·.1)) = false; rw [hplain]; rfl) ?_
  exact Calls.evalArgs_plain h
end
theorem bat_of {h₀ h : Heap} {L : Addr} {news : List (Addr × Obj)} {u l : Addr} (N : News h₀ L h news) (hm : (u, appObj l) ∈ news) : BAt u l h := (N _ hm).1
theorem kwl15 : True := by
  k_with "callWith ref!" => ((k_here; (with_reducible show wpAny _ _ (callWith _ (Value.ref _) _ (backTo _ (starEach (_ :: _) _)) []) _ _ _); k_dflt (refine' callWith_app ?hqkfbN ?hqkfbM ?_; (case hqkfbN => k_asm); (case hqkfbM => k_mem); k_whole)))
  k_with "And!" => (((with_reducible show BAt _ _ _ ∧ _); refine ⟨bat_of (by assumption) (by k_mem), ?_⟩))
  trivial
theorem cat_ofL {a b : PySem.Str} {x y : List Nat} (ha : a = ofL x) (hb : b = ofL y) : a ++ b = ofL (x ++ y) := by rw [ha, hb, ofL_append]
theorem empty_ofL : PySem.Str.empty = ofL [] := rfl
theorem jp_nil {M : Model} {A : Around} {E : Value → Shared → Prop} {s : Shared} {out : PySem.Str} {x : List Nat} {Q : Value → Shared → Prop} (hX : out = ofL x) (hz : x.length ≤ 16777216) (h : Q (.str (ofL x) s.toks) { s with toks := s.toks + 1 }) : wpAny M A (joinParts out []) Q E s := by
  subst hX
  exact joinParts_nil h (by rw [ofL_length, sizeLine_eq]; exact hz)
theorem le_cat {a b : PySem.Str} {x y : List Nat} (ha : a = ofL x) (hb : b = ofL y) (hz : (x ++ y).length ≤ 16777216) : (a ++ b).length ≤ sizeLine := by
  rw [ha, hb, ofL_append, ofL_length, sizeLine_eq]; exact hz
theorem fieldK {M : Model} {A : Around} {E : Value → Shared → Prop} {s : Shared} {X : PySem.Str} {x : List Nat} {t : Tok} {Q : Value → Shared → Prop} (hX : X = ofL x) (hz : x.length ≤ 16777216) (h : ∀ t' tk, Q (.str (ofL x) t') { s with toks := tk }) : wpAny M A (formatField (.str X t) PySem.Str.empty) Q E s := by
  subst hX
  exact formatField_str h (by rw [ofL_length, sizeLine_eq]; exact hz)
theorem txt_join_nil (xs : List (List Nat)) : Txt.join (PySem.Str.ofString "") (xs.map ofL) = ofL xs.flatten := by
  show Builtin.Str.glued (PySem.Str.ofString "") (xs.map ofL) = _
  rw [StrLaws.glued_eq_join]
  induction xs with
  | nil => rfl
  | cons a r ih =>
    cases r with
    | nil => show ofL a = _; simp
    | cons b r =>
      show ofL a ++ PySem.Str.ofString "" ++ PySem.Str.join (PySem.Str.ofString "") ((b :: r).map ofL) = _
      rw [ih, l_empty, ofL_append, ofL_append]
      simp
theorem joinE_K {prog : Program} {w : World} {A : Around} {E : Value → Shared → Prop} {s : Shared} {h₀ : Heap} {L D : Addr} {news : List (Addr × Obj)} {vs : List Value} {n : Nat} {xs : List (List Nat)} {t : Tok} {Q : Value → Shared → Prop} (N : News h₀ L s.heap news) (hm : (D, listOf vs.toArray n) ∈ news) (hv : StrsAre vs (xs.map ofL))
    (hw : ((xs.map ofL).map (·.length)).sum + (xs.map ofL).length ≤ 1048576) (h : ∀ t' k, Q (.str (ofL xs.flatten) t') { s with toks := k }) : wpAny (model prog w) A (call (.builtin "str.join") [.str (PySem.Str.ofString "") t, .ref D]) Q E s :=
  join_listW (News.isList N hm) hv (by decide +kernel) hw fun t' k => by rw [txt_join_nil]; exact h t' k
theorem kwl16 : True := by
  k_with "my cat!" => (first | with_reducible exact empty_ofL | walk_at "my lit" | ((with_reducible apply cat_ofL); (focus walk_at "my cat"); (focus walk_at "my cat")))
  k_with "formatField str!" => ((k_here; k_dflt (refine' fieldK ?hqe1 ?hqz ?_; (case hqe1 => walk_at "my lit"); (case hqz => walk_at "my size"); k_whole); intro _ _))
  k_with "joinParts!" => ((k_here; (first | (with_reducible show wpAny _ _ (joinParts _ []) _ _ _) | (with_reducible show wpAny _ _ (joinParts _ (evalEach [] _)) _ _ _)); k_dflt (refine' jp_nil ?hqe1 ?hqz ?_; (case hqe1 => walk_at "my cat"); (case hqz => walk_at "my size"); k_whole)))
  k_with "le!" => ((k_here; (with_reducible show PySem.Str.length (_ ++ _) ≤ sizeLine); (refine' le_cat ?hqe1 ?hqe2 ?hqz; (case hqe1 => walk_at "my cat"); (case hqe2 => walk_at "my cat"); (case hqz => walk_at "my size"))))
  k_with "call builtin:str.join!" => ((k_here; (with_reducible show wpAny _ _ (call (Value.builtin _) [Value.str _ _, Value.ref _]) _ _ _); k_dflt (refine' joinE_K ?hqk1 ?hqk2 ?hqk3 ?hqk5 ?_; (case hqk1 => k_asm); (case hqk2 => k_mem); (case hqk3 => with_reducible assumption); (case hqk5 => with_reducible assumption); k_whole); intro _ _))
  k_with "BAt!" => (exact bat_of (by assumption) (by k_mem))
  trivial
theorem take_push {vs : List Value} {i : Nat} {v : Value} (h : vs[i]? = some v) : (vs.take i).toArray.push v = (vs.take (i + 1)).toArray := by
  rw [List.take_add_one, h, List.push_toArray]; rfl

-- w3
theorem kwl17 : True := by
  k_with "my samew!" => ((
  intro z z2 z3
  simp only [List.forall_mem_cons, List.not_mem_nil, false_implies, implies_true, and_true, ne_eq] at z2
  simp only [List.contains_cons, List.contains_nil, Bool.or_false, Bool.or_eq_false_iff, beq_eq_false_iff_ne, ne_eq] at z3
  first | rfl | (simp [kstB, z2, z3]; done) | (simp [kstB, z2]; done) | fail "my samew"))
  trivial
theorem at_off {x pre rest : List Nat} {i : Int} {k c : Nat} (hx : x = pre ++ rest) (he : i = pre.length + k) (hc : rest[k]? = some c) : (seqIndex? i x.length).bind (x[·]?) = some c := by
  subst hx he
  have hk : k < rest.length := by
    by_cases h : k < rest.length
    · exact h
    · rw [List.getElem?_eq_none (by omega)] at hc; cases hc
  have e : seqIndex? ((pre.length : Int) + k) (pre ++ rest).length = some (pre.length + k) := by
    unfold seqIndex?
    have h0 : ¬ ((pre.length : Int) + k < 0) := by omega
    have h1 : (pre.length : Int) + k < ((pre ++ rest).length : Nat) := by rw [List.length_append]; omega
    simp only [if_neg h0, decide_eq_true h1, show (0 : Int) ≤ (pre.length : Int) + k from by omega, decide_true, Bool.and_true, if_true]
    congr 1
  rw [e]
  show (pre ++ rest)[pre.length + k]? = some c
  rw [List.getElem?_append_right (by omega), Nat.add_sub_cancel_left]
  exact hc

-- w0
theorem kwl18 : True := by
  k_with "my at!" => (first
  | exact at_off (k := 0) (by with_reducible assumption) (by omega) rfl
  | exact at_off (k := 1) (by with_reducible assumption) (by omega) rfl
  | exact at_off (k := 2) (by with_reducible assumption) (by omega) rfl
  | exact at_off (k := 3) (by with_reducible assumption) (by omega) rfl
  | exact at_off (k := 4) (by with_reducible assumption) (by omega) rfl
  | exact at_off (k := 5) (by with_reducible assumption) (by omega) rfl
  | exact at_off (k := 6) (by with_reducible assumption) (by omega) rfl
  | exact at_off (k := 7) (by with_reducible assumption) (by omega) rfl
  | exact at_off (k := 8) (by with_reducible assumption) (by omega) rfl)
  k_with "subscriptTail!" => ((k_here; (with_reducible show wpAny _ _ (subscriptTail _ _ (Value.str _ _) (Value.int _ _)) _ _ _); k_dflt (refine' s_item ?hqe1 ?hqz ?hqc ?_ ?hqs ?hqt; (case hqe1 => walk_at "my lit"); (case hqz => walk_at "my size"); (case hqc => walk_at "my at"); (case hqs => with_unfolding_all rfl); (case hqt => (intro _; with_unfolding_all rfl)); k_whole)))
  trivial
theorem strsAre_len {vs : List Value} {ys : List PySem.Str} (h : StrsAre vs ys) : vs.length = ys.length := by
  induction h with
  | nil => rfl
  | cons y t _ ih => simp [ih]
theorem strsAre_at {vs : List Value} : ∀ {ys : List PySem.Str} {i : Nat}, StrsAre vs ys → i < ys.length → ∃ y t, vs[i]? = some (.str y t) ∧ ys[i]? = some y
  | [], i, _, hi => absurd hi (Nat.not_lt_zero _)
  | _ :: _, 0, .cons y t _, _ => ⟨y, t, rfl, rfl⟩
  | _ :: _, i + 1, .cons y t h, hi => by
    obtain ⟨z, u, a, b⟩ := strsAre_at (i := i) h (Nat.lt_of_succ_lt_succ hi)
    exact ⟨z, u, by simpa using a, by simpa using b⟩
theorem strs_sum (xs : List (List Nat)) : ((xs.map ofL).map (·.length)).sum = xs.flatten.length := by
  rw [List.length_flatten, List.map_map]
  congr 1

-- w4
section
variable {prog : Program} {w : World} {A : Around} {E : Value → Shared → Prop} {s : Shared} {a b : Int} {t u : Tok} {Q : Value → Shared → Prop}
theorem lt_yes (h : a < b) (hq : Q (.bool true) s) : wpAny (model prog w) A (compareOp .Lt (.int a t) (.int b u)) Q E s := PyProof.Rows.lt_int (by rw [decide_eq_true h]; exact hq)
theorem lt_no (h : ¬ a < b) (hq : Q (.bool false) s) : wpAny (model prog w) A (compareOp .Lt (.int a t) (.int b u)) Q E s := PyProof.Rows.lt_int (by rw [decide_eq_false h]; exact hq)
theorem ge_yes (h : a ≥ b) (hq : Q (.bool true) s) : wpAny (model prog w) A (compareOp .GtE (.int a t) (.int b u)) Q E s := P.ge_int (by rw [decide_eq_true h]; exact hq)
theorem ge_no (h : ¬ a ≥ b) (hq : Q (.bool false) s) : wpAny (model prog w) A (compareOp .GtE (.int a t) (.int b u)) Q E s := P.ge_int (by rw [decide_eq_false h]; exact hq)
end
theorem kwl19 : True := by
  k_with "compareOp Lt int int!" => ((k_here; first | refine lt_yes (by omega) ?_ | refine lt_no (by omega) ?_))
  k_with "compareOp GtE int int!" => ((k_here; first | refine ge_yes (by omega) ?_ | refine ge_no (by omega) ?_))
  trivial
theorem slice_off {x pre rest z : List Nat} {i j : Int} (a b : Nat) (hx : x = pre ++ rest) (hi : i = pre.length + a) (hj : j = pre.length + b) (hb : pre.length + b ≤ x.length) (hab : a ≤ b) (hz : (rest.drop a).take (b - a) = z) : Txt.slice (ofL x) (some i) (some j) = ofL z := by
  subst hx hi hj hz
  rw [slice_ofL]
  have e1 : kms_lo (some ((pre.length : Int) + a)) (pre ++ rest).length = pre.length + a := by
    unfold kms_lo
    dsimp only
    rw [if_neg (by omega)]
    omega
  have e2 : kms_hi (some ((pre.length : Int) + b)) (pre ++ rest).length = pre.length + b := by
    unfold kms_hi
    dsimp only
    rw [if_neg (by omega)]
    omega
  rw [e1, e2, Nat.add_sub_add_left, ← List.drop_drop, List.drop_left]
theorem kwl20 : True := by
  k_with "my cutout!" => (first
  | exact slice_off 1 2 (by with_reducible assumption) (by omega) (by omega) (by omega) (by decide) rfl
  | exact slice_off 1 8 (by with_reducible assumption) (by omega) (by omega) (by omega) (by decide) rfl
  | exact slice_off 1 3 (by with_reducible assumption) (by omega) (by omega) (by omega) (by decide) rfl
  | exact slice_off 4 6 (by with_reducible assumption) (by omega) (by omega) (by omega) (by decide) rfl
  | exact slice_off 7 8 (by with_reducible assumption) (by omega) (by omega) (by omega) (by decide) rfl)
  k_with "subscriptTail!" => ((k_here; (with_reducible show wpAny _ _ (subscriptTail _ (Expr.Slice (some _) (some _) none _) (Value.str _ _) (Value.ref _)) _ _ _); k_dflt (refine' s_slice_ss (s := ⟨_, _, _, _, _⟩) ?hqe1 ?hqF ?hqN ?hqc ?hqz ?_ ?hqs ?hqt; (case hqe1 => walk_at "my lit"); (case hqF => k_asm); (case hqN => k_asm); (case hqc => walk_at "my cutout"); (case hqz => walk_at "my size"); (case hqs => with_unfolding_all rfl); (case hqt => (intro _; with_unfolding_all rfl)); k_whole); intro _ _ _ _ _; (try simp only [List.drop, List.take, List.cons_append, List.nil_append, Nat.reduceSub]); (try k_sweep)))
  trivial
theorem qCh_pos (b : Bool) (c : Nat) : 1 ≤ (qCh b c).length := by
  unfold qCh
  split
  · decide
  · split <;> simp
theorem quo_full {b : Bool} {y pre post : List Nat} (hyp : y = pre ++ post) (h : ¬ ((quo b pre).length : Int) < (quo b y).length) : y = pre := by
  cases post with
  | nil => simpa using hyp
  | cons c post =>
    exfalso
    have := qCh_pos b c
    subst hyp
    simp only [quo, List.flatMap_append, List.flatMap_cons, List.length_append] at h
    omega

-- w5
theorem occ_nil_lim (x y : PySem.Str) (lim : Nat) (hl : 1 ≤ lim) (h : (Builtin.Str.occurrences x y 0 x.length 1).isEmpty = true) : (Builtin.Str.occurrences x y 0 x.length lim).isEmpty = true := by
  have h1 := StrLaws.occ_head x y 1 (Nat.le_refl _)
  have h2 := StrLaws.occ_head x y lim hl
  rcases h1 with ⟨-, n1⟩ | ⟨i, r, e1, -⟩
  · rcases h2 with ⟨e2, -⟩ | ⟨i, r, -, a, -⟩
    · rw [e2]; rfl
    · exact absurd a (n1 i)
  · rw [e1] at h; cases h
theorem replace_none {prog : Program} {w : World} {A : Around} {E : Value → Shared → Prop} {s : Shared} {X Y Z : PySem.Str} {x : List Nat} {d : Nat} {t u v : Tok} {Q : Value → Shared → Prop} (e1 : X = ofL x) (e2 : Y = ofL [d]) (hd : d ∉ x)
    (hq : Q (.str (ofL x) t) s) : wpAny (model prog w) A (call (.builtin "str.replace") [.str X t, .str Y u, .str Z v]) Q E s := by
  subst e1 e2
  have h1 : (Builtin.Str.occurrences (ofL x) (ofL [d]) 0 (ofL x).length 1).isEmpty = true := by
    rw [show ofL [d] = (⟨#[d]⟩ : PySem.Str) from rfl, ofL_in]; simp [hd]
  have h2 := occ_nil_lim (ofL x) (ofL [d]) ((ofL x).length + 1) (Nat.le_add_left _ _) h1
  refine call_gives PySem.F.slot_str_replace (typeIs_str _ _ _) PySem.F.entry_str_replace (PySem.F.args_str_replace_3 _ _ _) (gives_str_replace (ofL x) (ofL [d]) Z t u v fun h => by rw [h2] at h; cases h) ?_
  rw [h2]
  exact hq

-- e1
theorem kwl21 : True := by
  k_with "call builtin:str.replace!" => ((k_here; k_dflt (refine' replace_none ?hqe1 ?hqe2 ?hqhd ?_; (case hqe1 => walk_at "my lit"); (case hqe2 => walk_at "my lit"); (case hqhd => first | decide | (simp only [List.mem_cons, List.not_mem_nil, or_false]; omega)); k_whole)))
  trivial
open PySem.Builtin.Re in
def drive : Nat → Sre.M → Option Sre.M
  | 0, _ => none
  | n + 1, m => if (m.runFor reTurnSteps).outcome.isSome then some (m.runFor reTurnSteps) else drive n (m.runFor reTurnSteps)
def reCode : Array Nat := #[14, 14, 4, 1, 1, 9, 0, 64, 0, 1342177280, 0, 0, 0, 0, 0, 17, 0, 13, 11, 9, 0, 64, 0, 1342177280, 0, 0, 0, 0, 0, 17, 1, 1]
def fails (x : List Nat) : Bool := match drive 40 (Sre.forSearch reCode x.toArray 1 0 x.length false) with
  | some m => (match m.outcome with | some .failed => true | _ => false)
  | none => false
theorem fails_bl : ([42, 63, 91] ++ BLl).all (fun c => fails [c]) = true := by decide +kernel
theorem fails_bar : fails [33, 0, 45, 60, 62, 45, 1114111] = true := by decide +kernel

-- e2
section
variable {prog : Program} {w : World} {A : Around} {E : Value → Shared → Prop} {s : Shared}
open PySem.Builtin.Re
theorem wp_drive {m' : Sre.M} {Q : Sre.M → Shared → Prop} (hQ : Q m' s) : ∀ (k N : Nat) (m : Sre.M), drive k m = some m' → k ≤ N → wpAny (model prog w) A (reDrive N m) Q E s
  | 0, _, _, h, _ => by cases h
  | k + 1, 0, _, _, h => absurd h (Nat.not_succ_le_zero _)
  | k + 1, N + 1, m, h, hle => by
    show wpAny _ _ (if (m.runFor reTurnSteps).outcome.isSome then pure (m.runFor reTurnSteps) else do rule "sre.turn"; reDrive N (m.runFor reTurnSteps)) _ _ _
    unfold drive at h
    by_cases hc : (m.runFor reTurnSteps).outcome.isSome = true
    · rw [if_pos hc] at h ⊢
      cases h
      exact wpAny_pure hQ
    · rw [if_neg hc] at h ⊢
      exact wpAny_bind (wpAny_rule (wp_drive hQ k N _ h (Nat.le_of_succ_le_succ hle)))
theorem wp_rules (m : Sre.M) {Q : PUnit → Shared → Prop} (hQ : Q ⟨⟩ s) : ∀ (l : List Nat),
    wpAny (model prog w) A (forIn l PUnit.unit fun i (_ : PUnit) => if m.seen.has i = true then (do rule (Sre.names.getD i ""); pure (ForInStep.yield PUnit.unit)) else pure (ForInStep.yield PUnit.unit)) Q E s
  | [] => by rw [List.forIn_nil]; exact wpAny_pure hQ
  | i :: r => by
    rw [List.forIn_cons]
    refine wpAny_bind ?_
    by_cases hc : m.seen.has i = true
    · rw [if_pos hc]
      exact wpAny_bind (wpAny_rule (wpAny_pure (wp_rules m hQ r)))
    · rw [if_neg hc]
      exact wpAny_pure (wp_rules m hQ r)
theorem wp_fails {x : List Nat} {Q : Option Sre.M → Shared → Prop} (h : fails x = true) (hQ : Q none s) :
    wpAny (model prog w) A (reRunToEnd (Sre.forSearch reCode x.toArray 1 0 x.length false)) Q E s := by
  unfold fails at h
  split at h
  · rename_i m' hm
    unfold reRunToEnd
    refine wpAny_bind (wp_drive ?_ 40 _ _ hm (by decide))
    refine wpAny_bind (wp_rules m' ?_ _)
    split at h
    · rename_i ho
      rw [ho]
      exact wpAny_pure hQ
    · cases h
  · cases h
end
theorem slot_sub : Slot "re.Pattern" "sub" "re.Pattern.sub" :=
  .of (owner := "re.Pattern") (n := "sub") (by rw [typeLookup_type, builtinLookup_eq_fast]; kernel_rfl) (by decide +kernel) (by decide +kernel) (by decide +kernel)
    (by first | exact .inl (by decide +kernel) | exact .inr (by decide +kernel)) (by rw [isSubtype_type]; kernel_rfl)
theorem type_sub : typeOf (.builtin "re.Pattern.sub") = pure (.type "method_descriptor") := by show builtinType _ = _; rw [builtinType_eq_fast]; kernel_rfl
theorem entry_sub : entryFor table "re.Pattern.sub" = some Builtin.«re.Pattern.sub» := entryFor_of_fast (by kernel_rfl)
theorem entry_subloop : entryFor table "re.Pattern.sub.loop" = some Builtin.«re.Pattern.sub.loop» := entryFor_of_fast (by kernel_rfl)
theorem args_sub (a b c : Value) : argsOk "re.Pattern.sub" ⟨[a, b, c], []⟩ := by unfold argsOk; kernel_rfl
theorem plainAttrs_re : PlainAttrs "re.Pattern" :=
  ⟨⟨"object.__getattribute__", by rw [typeLookup_type, builtinLookup_eq_fast]; kernel_rfl, by decide +kernel⟩, by rw [typeLookup_type, builtinLookup_eq_fast]; kernel_rfl⟩
theorem fn_call_some : ∃ v, typeLookup (.type "function") "__call__" = pure (some v) := ⟨.builtin "function.__call__", by rw [typeLookup_type, builtinLookup_eq_fast]; kernel_rfl⟩
theorem str_not_ba : isSubtype (.type "str") (.type "bytearray") = pure false := by rw [isSubtype_type]; kernel_rfl
section
variable {prog : Program} {w : World} {A : Around} {E : Value → Shared → Prop} {s : Shared}
open PySem.Builtin.Re
theorem m_sub {h₀ : Heap} {L : Addr} {m : PySem.Str → Option Value} {pl : Sem Bool} {Q : Value × List Value → Shared → Prop} (F : Fr h₀ L s.heap m) (X : (K w.params).In h₀) (h : Q (.builtin "re.Pattern.sub", [.ref 43]) s) : wpAny (model prog w) A (getMethod (.ref 43) "sub" pl) Q E s :=
  getMethod_builtin ⟨_, F.keep _ _ (X 43 _ rfl), rfl⟩ plainAttrs_re slot_sub type_sub (fun a e => by cases e; exact ⟨_, F.keep _ _ (X 43 _ rfl), rfl⟩) h
theorem wp_target {x : List Nat} {t : Tok} {Q : ReTarget → Shared → Prop} (X : (K w.params).In s.heap)
    (h : Q { pattern := .ref 43, string := .str (ofL x) t, code := reCode, text := x.toArray, kind := 0, groups := 1, pos := 0, lim := x.length } s) : wpAny (model prog w) A (reWholeTarget (.ref 43) (.str (ofL x) t)) Q E s := by
  unfold reWholeTarget
  refine wpAny_bind (wpAny_fieldsOf (X 43 _ rfl) rfl ?_)
  refine wpAny_bind (wpAny_of_eq (a := (x.toArray, 0)) rfl ?_)
  dsimp only
  rw [if_neg (by decide), if_neg (by decide)]
  refine wpAny_bind (wpAny_of_eq (a := ()) rfl ?_)
  refine wpAny_bind ?_
  refine wpAny_bind (wpAny_seqItems (X 42 _ rfl) rfl ?_)
  refine wpAny_pure ?_
  refine wpAny_pure ?_
  have key : ∀ (c : Array Nat) (n g : Nat), c = reCode → n = x.length → g = 1 → Q { pattern := .ref 43, string := .str (ofL x) t, code := c, text := x.toArray, kind := 0, groups := g, pos := 0, lim := n } s := by
    rintro _ _ _ rfl rfl rfl
    exact h
  exact key _ _ _ (by decide +kernel) (by simp) (by decide +kernel)
theorem call_sub {f : Addr} {fo : Obj} {x : List Nat} {t : Tok} {Q : Value → Shared → Prop} (X : (K w.params).In s.heap) (hf : s.heap.get? f = some fo) (hfc : fo.cls = .type "function") (hx : fails x = true) (hl : x.length ≤ 1000) (h0 : 0 < x.length)
    (h : ∀ h' t' k, (∀ b o, s.heap.get? b = some o → h'.get? b = some o) → Q (.str (ofL x) t') { s with heap := h', toks := k }) :
    wpAny (model prog w) A (call (.builtin "re.Pattern.sub") [.ref 43, .ref f, .str (ofL x) t]) Q E s := by
  obtain ⟨cv, hcv⟩ := fn_call_some
  refine wpAny_call (codeAny_call_builtin slot_sub.plain entry_sub (slot_sub.check _ _ _ _ _ _ _ _ ⟨_, X 43 _ rfl, rfl⟩ (args_sub _ _ _) ?_))
  show wpAny _ _ (reSubstitute "re.Pattern.sub" "sub" false ⟨[.ref 43, .ref f, .str (ofL x) t], []⟩) _ _ s
  unfold reSubstitute
  refine wpAny_bind (wpAny_of_eq (a := [some (.ref f), some (.str (ofL x) t), none]) (by kernel_rfl) ?_)
  dsimp only
  refine wpAny_bind (wpAny_pure ?_)
  refine wpAny_bind (wpAny_specialOf (T := "function") ⟨_, hf, hfc⟩ hcv ?_)
  dsimp only [Option.isSome]
  rw [if_pos rfl]
  refine wpAny_bind (wpAny_pure ?_)
  rw [if_pos rfl]
  refine wpAny_bind (wpAny_pure ?_)
  dsimp only
  refine wpAny_bind (wpAny_holding (wp_target X ?_))
  rw [if_pos (by decide)]
  refine wpAny_bind ?_
  unfold reNotHeld
  refine wpAny_bind (wpAny_isInstance (typeIs_str s _ t) str_not_ba ?_)
  rw [if_neg (by decide)]
  refine wpAny_pure ?_
  refine wpAny_bind (wpAny_newList ?_)
  refine wpAny_pure ⟨Code.quiet_builtin _ (by decide +kernel), codeAny_builtin entry_subloop ?_⟩
  have K₁ : ∀ b o, s.heap.get? b = some o → (s.heap.push { cls := .type "list", data := .seq [].toArray }).get? b = some o := fun b o e => Heap.get?_push_of_some _ e
  have hl₁ : (s.heap.push { cls := .type "list", data := .seq [].toArray }).get? s.heap.objs.size = some { cls := .type "list", data := .seq [].toArray } := Heap.get?_push_size _ rfl
  show wpAny _ _ (reWholeTarget (.ref 43) (.str (ofL x) t) >>= _) _ _ _
  refine wpAny_bind (wp_target (X.keeps K₁) ?_)
  rw [if_neg (by decide)]
  dsimp only
  rw [if_neg (by decide)]
  refine wpAny_bind (wp_fails hx ?_)
  dsimp only
  rw [if_pos (by show (0 : Int).toNat < x.length; exact h0)]
  have e1 : (⟨x.toArray.extract 0 x.length⟩ : PySem.Str) = ofL x := by unfold ofL; congr 1; rw [show x.length = x.toArray.size from by simp, Array.extract_size]
  have e2 : (⟨x.toArray.extract 0 0⟩ : PySem.Str) = PySem.Str.ofString "" := by rw [l_empty]; unfold ofL; congr 1; simp
  have hlu := Heap.get?_update_self (Obj.mapSeq (·.push (Value.str (ofL x) s.toks))) hl₁ (by rw [mapSeq_push]; rfl)
  rw [mapSeq_push] at hlu
  show wpAny _ _ (mkStr ⟨x.toArray.extract 0 x.length⟩ >>= _) _ _ _
  rw [e1]
  refine wpAny_bind (wpAny_mkStr ?_ (by rw [ofL_length, sizeLine_eq]; omega))
  refine wpAny_bind (wpAny_updateSeq hl₁ rfl ?_)
  show wpAny _ _ (mkStr ⟨x.toArray.extract 0 0⟩ >>= _) _ _ _
  rw [e2]
  refine wpAny_bind (wpAny_mkStr ?_ (by decide +kernel))
  refine wpAny_bind (wpAny_seqItems hlu rfl ?_)
  rw [if_neg (by simp)]
  refine wpAny_bind ?_
  show wpAny _ _ (call (.builtin "str.join") [.str (PySem.Str.ofString "") _, .ref s.heap.objs.size]) _ _ _
  refine join_listW (ys := [ofL x]) ⟨_, hlu, rfl, _, rfl⟩ (.cons _ _ .nil) (by decide +kernel) (by simp only [List.map_cons, List.map_nil, List.sum_cons, List.sum_nil, List.length_cons, List.length_nil, ofL_length]; omega) fun t' k => ?_
  rw [if_neg (by decide)]
  refine wpAny_pure ?_
  show Q (.str (Txt.join _ [ofL x]) t') _
  rw [show Txt.join (PySem.Str.ofString "") [ofL x] = ofL x from by show Builtin.Str.glued _ _ = _; rw [StrLaws.glued_eq_join]; rfl]
  exact h _ _ _ fun b o e => ((Heap.SameBut.update ..).2 b (Nat.ne_of_lt (Heap.lt_size e))).trans (K₁ b o e)
end

-- l1
def TabOk (ps : Array Value) : Prop := TriplesOk ps.toList ∧ ∀ pos, codeAmong pos ps.toList = none ∨ ∃ c, codeAmong pos ps.toList = some (.ref c)
theorem codeAmong_app (q pos : Pos) (c : Value) (l : List Value) (h : TriplesOk l) :
    TriplesOk (l ++ [rawInt pos.line, rawInt pos.col, c]) ∧ (codeAmong q (l ++ [rawInt pos.line, rawInt pos.col, c]) = codeAmong q l ∨ (codeAmong q l = none ∧ codeAmong q (l ++ [rawInt pos.line, rawInt pos.col, c]) = some c)) := by
  fun_induction TriplesOk l with
  | case1 =>
    refine ⟨by simp [TriplesOk, rawInt], ?_⟩
    simp only [List.nil_append, codeAmong, rawInt]
    split
    · simp
    · simp
  | case2 a t b u v rest ih =>
    obtain ⟨i1, i2⟩ := ih h
    refine ⟨i1, ?_⟩
    simp only [List.cons_append, codeAmong]
    split
    · exact .inl rfl
    · exact i2
  | case3 => exact h.elim
theorem TabOk.push {ps : Array Value} {pos : Pos} {c : Addr} (h : TabOk ps) : TabOk (ps ++ #[rawInt pos.line, rawInt pos.col, .ref c]) := by
  have e : (ps ++ #[rawInt pos.line, rawInt pos.col, .ref c]).toList = ps.toList ++ [rawInt pos.line, rawInt pos.col, .ref c] := by simp
  unfold TabOk
  rw [e]
  refine ⟨(codeAmong_app pos pos (.ref c) _ h.1).1, fun q => ?_⟩
  rcases (codeAmong_app q pos (.ref c) _ h.1).2 with e | ⟨-, e⟩
  · rw [e]; exact h.2 q
  · exact .inr ⟨c, e⟩
theorem TabOk.nil : TabOk #[] := ⟨trivial, fun _ => .inl rfl⟩

section
variable {prog : Program} {w : World} {A : Around} {E : Value → Shared → Prop} {s : Shared} {h₀ : Heap} {L a c P : Addr} {m mg mb : PySem.Str → Option Value} {cn : PySem.Str} {cs : Scope} {ccd : Value} {cl : List (PySem.Str × Addr)} {news : List (Addr × Obj)} {g : Obj → List (Addr × Obj)}
  {p : Program} {loose : List PySem.Str} {mean : ExcName → Option Value} {name qual : PySem.Str} {params : Arguments} {body : PySem.Expr} {scope : Scope} {ps : Array Value} {pos : Pos} {firstLine : Nat} {clos : List (PySem.Str × Addr)}
theorem lam_any {Q : Value → Shared → Prop} (F : Fr h₀ L s.heap m) (N : News h₀ L s.heap news) (T : Top p loose mean mg mb h₀) (C : CodeHd h₀ c P) (hcd : ccd = .ref c) (U : UpdF P (tabObj ps) news g) (ht : TabOk ps)
    (hcl : closureFor scope (envX cn cs L a ccd cl) = pure clos)
    (h : ∀ f fo ps' h' tk, TabOk ps' → fo.cls = .type "function" → Fr h₀ L h' m → News h₀ L h' ((f, fo) :: g (tabObj ps')) → (∀ q ∈ news, q.1 < f) → Q (.ref f) { s with heap := h', toks := tk }) :
    wpAny (model prog w) A (makeFunction name qual params (.expr body) scope (envX cn cs L a ccd cl) [] [] [] pos firstLine) Q E s := by
  rcases ht.2 pos with hn | ⟨c', hn⟩
  · refine kla_nest F N T C hcd U ht.1 hn hcl fun f c' oc vs t ctv h' tk F' N' hd hv l1 l2 => ?_
    refine h f (kla_obj name qual params body scope clos ((mg (PySem.Str.ofString "__name__")).getD .none) c' ctv) (ps ++ #[rawInt pos.line, rawInt pos.col, .ref c']) h' tk ht.push rfl F' (fun q hq => N' q ?_) (fun q hq => Nat.lt_trans (l1 q hq) l2)
    rcases List.mem_cons.mp hq with rfl | hq
    · exact .head _
    · exact .tail _ (.tail _ hq)
  · obtain ⟨pre, post, e, hg, -, -⟩ := U.split
    have hm : (P, tabObj ps) ∈ news := by rw [e]; exact List.mem_append_right _ (.head _)
    refine kla_hit F N T C hcd hm ht.1 hn hcl fun f ctv h' tk F' N' l1 => ?_
    refine h f (kla_obj name qual params body scope clos ((mg (PySem.Str.ofString "__name__")).getD .none) c' ctv) ps h' tk ht rfl F' ?_ l1
    rw [hg, ← e]
    exact N'
end
theorem call_subK {prog : Program} {w : World} {A : Around} {E : Value → Shared → Prop} {s : Shared} {h₀ : Heap} {L : Addr} {m : PySem.Str → Option Value} {news : List (Addr × Obj)} {f : Addr} {fo : Obj} {X : PySem.Str} {x : List Nat} {t : Tok} {Q : Value → Shared → Prop} (F : Fr h₀ L s.heap m) (N : News h₀ L s.heap news) (K₀ : (K w.params).In h₀)
    (hm : (f, fo) ∈ news) (hfc : fo.cls = .type "function") (e : X = ofL x) (hx : fails x = true) (hl : x.length ≤ 1000) (h0 : 0 < x.length)
    (h : ∀ h' t' k, Fr h₀ L h' m → News h₀ L h' news → Q (.str (ofL x) t') { s with heap := h', toks := k }) :
    wpAny (model prog w) A (call (.builtin "re.Pattern.sub") [.ref 43, .ref f, .str X t]) Q E s := by
  subst e
  exact call_sub (K₀.keeps F.keep) (N _ hm).1 hfc hx hl h0 fun h' t' k K => h h' t' k (Fr.of_keeps F K) (News.of_keeps N K)

-- m2
theorem kwl22 : True := by
  k_with "getMethod ref!" => ((k_here; (with_reducible show wpAny _ _ (getMethod (Value.ref 43) (PySem.Str.ofString "sub") _) _ _ _); k_dflt (refine' m_sub ?hqk1 ?hqk2 ?_; (case hqk1 => k_asm); (case hqk2 => k_asm); k_whole)))
  k_with "call builtin:re.Pattern.sub!" => ((k_here; k_dflt (refine' call_subK ?hqk1 ?hqk2 ?hqk3 ?hqk4 ?hqk5 ?hqe1 ?hqhx ?hqz1 ?hqz2 ?_; (case hqk1 => k_asm); (case hqk2 => k_asm); (case hqk3 => k_asm); (case hqk4 => k_mem); (case hqk5 => with_reducible assumption); (case hqe1 => walk_at "my lit"); (case hqhx => with_reducible assumption); (case hqz1 => walk_at "my size"); (case hqz2 => exact Nat.zero_lt_succ _); k_whole); intro h' t' k' F' N'; (try k_sweep)))
  k_with "eval Lambda!" => ((k_here; kn_here; k_dflt (refine' kla_eval ?hqd0 ?_; (case hqd0 => exact rfl)); (k_dflt (refine' lam_any ?hqF ?hqN ?hqT ?hqC ?hqcd ?hqU ?hqt ?hqcl ?_; (case hqF => k_asm); (case hqN => k_asm); (case hqT => k_asm); (case hqcd => exact rfl); (case hqC => kn_code); (case hqU => k_updF); (case hqt => with_reducible assumption); (case hqcl => exact rfl); k_whole); intro f' fo' ps' h' tk' ht' hf' F' N' l1; (try dsimp only at N'); (try k_lt l1))))
  trivial
local macro_rules | `(tactic| k_all) => `(tactic| with_reducible assumption)

-- m3
theorem truthyK {prog : Program} {w : World} {A : Around} {E : Value → Shared → Prop} {s : Shared} {X : PySem.Str} {c : Nat} {x : List Nat} {t : Tok} {Q : Bool → Shared → Prop} (e : X = ofL (c :: x)) (hl : (c :: x).length ≤ 1000000) (h : ∀ k, Q true { s with toks := k }) : wpAny (model prog w) A (truthy (.str X t)) Q E s := by
  subst e
  exact KXt.truthy (by rw [ofL_length]; simp [bne]; omega) (by rw [ofL_length]; omega) h

-- m4
theorem kwl23 : True := by
  k_with "truthy str!" => ((k_here; k_dflt (refine' truthyK ?hqe1 ?hqz ?_; (case hqe1 => walk_at "my lit"); (case hqz => walk_at "my size"); k_whole); intro _))
  trivial
theorem hat_yes {c : Nat} (h : ([PySem.Str.ofString "^", PySem.Str.ofString "["].any fun x => x == ofL [c]) = true) (n : c ≠ 94) : c = 91 := by
  rw [l_hat, l_lb] at h
  simp only [List.any_cons, List.any_nil, Bool.or_false, ofL_eq, List.cons.injEq, and_true, Bool.or_eq_true, decide_eq_true_eq] at h
  omega
theorem hat_no {c : Nat} (h : ([PySem.Str.ofString "^", PySem.Str.ofString "["].any fun x => x == ofL [c]) = false) : c ≠ 91 := by
  rw [l_hat, l_lb] at h
  simp only [List.any_cons, List.any_nil, Bool.or_false, ofL_eq, List.cons.injEq, and_true, Bool.or_eq_false_iff, decide_eq_false_iff_not] at h
  omega

-- m5
def tCh (b : Bool) (c : Nat) : List Nat := if c = 61 ∧ b = true then [91, 94, 0, 45, 60, 62, 45, 1114111, 93] else if (c = 42 ∨ c = 63 ∨ c = 91) ∨ c ∈ BLl then (if c = 91 then [91, 92, 91, 93] else [91, c, 93]) else esc c

-- p8b
theorem con_join (w : World) (hd : Option Value) (news : List (Addr × Obj)) (I S : Addr) (vs : List Value) (kk : Nat) (xs : List (List Nat)) (hm : (I, listOf vs.toArray kk) ∈ news) (hv : StrsAre vs (xs.map ofL)) (hx : xs.length ≤ 40000) (hy : xs.flatten.length ≤ 1000000) :
    ConH w hd 76 2 news [.ref I, .ref S] (fun v n => news = n ∧ ∃ t, v = .str (ofL ([40, 63, 115, 58] ++ xs.flatten ++ [41, 92, 90])) t) := by
  have hz : vs.toArray.size = xs.length := by simpa using strsAre_len hv
  have hz1 : vs.length = xs.length := by simpa using strsAre_len hv
  have hw : ((xs.map ofL).map (·.length)).sum + (xs.map ofL).length ≤ 1048576 := by rw [strs_sum, List.length_map]; omega
  walk_at "my openH"
  intro p loose mean mg mb dp un gd env outer A₀ base h₀ L m s Q E B F X N T H he hk hdp hun hret
  k_call_by "enterH" [("inp", .ref I), ("STAR", .ref S)]
  k_with "exec While BoolOp" => (
    k_here
    (rename Fr _ _ _ _ => lF'); (rename News _ _ _ _ => lN')
    (with_unfolding_all refine' ksw_while2 (σ := Nat × Tok) (fun a l c => (a, appObj l) :: (l, listOf (vs.take c.1).toArray c.1) :: news) (fun c => [("i", .int (c.1 : Nat) c.2)]) (fun _ => True) [] (fun c => c.1 ≤ xs.length) (fun c => xs.length - c.1) (0, _) lF' (news_drop1 lN') ?kn trivial ?kk ?kp ?kt)
    (case kn => exact fun _ h => h)
    (case kk => kst_all)
    (case kp => exact Nat.zero_le _)
    (case' kt =>
      rintro ⟨i, ti⟩ u h tk - hI F1 N1
      dsimp only at hI F1 N1
      clear lF' lN'
      dsimp only
      have hA : ∃ y t, i < xs.length → vs[(i : Int).toNat]? = some (.str y t) := by
        by_cases hlt : i < xs.length
        · obtain ⟨y, t, a, b⟩ := strsAre_at (i := i) hv (by simpa using hlt)
          exact ⟨y, t, fun _ => a⟩
        · exact ⟨.empty, 0, fun z => absurd z hlt⟩
      obtain ⟨y, ty, hA⟩ := hA
      have hJ : ¬ (i : Int) < xs.length → StrsAre (vs.take i) (xs.map ofL) := fun z => by rw [List.take_of_length_le (by omega)]; exact hv
      (try k_fold)))
  k_with "subscriptTail" => (have hA' := hA (by omega); walk_at "subscriptTail")
  k_with "call builtin:str.join" => (have hJ' := hJ (by assumption); walk_at "call builtin:str.join")
  k_steps
  · (rename News _ _ _ _ => nE')
    have e9 : (vs.take i).toArray.push (.str y ty) = (vs.take (i + 1)).toArray := take_push hA'
    rw [e9] at nE'
    exact Held.mk (ksw_end (i + 1, _) (by assumption) nE' (fun _ h => h) trivial (by kst_all) (by walk_at "my samew") (by show i + 1 ≤ xs.length; omega) (by show xs.length - (i + 1) < xs.length - i; omega))
  · exact hret _ _ _ _ (by k_asm) (cb_drop (by k_asm) (by intro p hp; exact List.mem_cons_of_mem _ (List.mem_cons_of_mem _ hp))) ⟨rfl, _, rfl⟩

-- x1
def exA : Option Value → List Addr
  | some (.ref e) => [e]
  | _ => []
theorem Hd.mem {hd : Option Value} {h : Heap} {e : Addr} (x : Hd hd h) (m : e ∈ exA hd) : ∃ o, h.get? e = some o := by
  unfold exA at m
  split at m
  · rename_i a
    obtain ⟨b, hb, o, vs, ho, -⟩ := x _ rfl
    cases hb
    rw [List.mem_singleton.mp m]
    exact ⟨o, ho⟩
  · cases m
theorem Hd.kept {hd : Option Value} {h h' : Heap} (x : Hd hd h) (k : ∀ b ∈ exA hd, ∀ o, h.get? b = some o → h'.get? b = some o) : Hd hd h' := fun v e => by
  obtain ⟨a, ha, o, vs, h1, h2, h3⟩ := x v e
  subst ha
  subst e
  exact ⟨a, rfl, o, vs, k a (by simp [exA]) o h1, h2, h3⟩
section
variable {prog : Program} {w : World} {A : Around}
theorem walks_asciiH (I : Addr) (x : PySem.Str) (t : Tok) :
    Walks prog w A I (I :: exA A.handled) [I] x.cps.size (SignAt x) (fun i h => h.IsStrIter I "str_ascii_iterator" x t i ∧ Hd A.handled h) where
  sub := fun b hb => by rw [List.mem_singleton.mp hb]; exact .head _
  frame := fun _ _ _ st hk => ⟨(let ⟨o, ho, r⟩ := st.1; ⟨o, hk I (.head _) o ho, r⟩), st.2.kept fun b hb o e => hk b (.tail _ hb) o e⟩
  item := fun i s Q E hi st hQ => by
    refine wpAny_pyNext_ascii_item st.1 (c := x.cps[i]) (by simp [hi]) fun h' hit' hs' => ?_
    obtain ⟨o, ho, hc, hd⟩ := st.1
    exact hQ _ h' (s.toks + 1) ⟨_, _, by simp [hi], rfl⟩ ⟨hit', st.2.sameBut ho hd rfl hs'⟩ fun b o hb e => hs'.extBut b o (fun h => hb (by simp [h])) e
  done := fun s Q E st hQ => next_ascii_endH st.2 st.1 (by simp) fun h' he' => hQ h' s.toks fun b o hb e => he' b o (fun h => hb (by simp [h])) e
  self := fun _ _ _ _ st hQ => wpAny_pyIter_striter_ascii st.1 hQ
theorem walks_wideH (I : Addr) (x : PySem.Str) (t : Tok) :
    Walks prog w A I (I :: exA A.handled) [I] x.cps.size (SignAt x) (fun i h => h.IsStrIter I "str_iterator" x t i ∧ Hd A.handled h) where
  sub := fun b hb => by rw [List.mem_singleton.mp hb]; exact .head _
  frame := fun _ _ _ st hk => ⟨(let ⟨o, ho, r⟩ := st.1; ⟨o, hk I (.head _) o ho, r⟩), st.2.kept fun b hb o e => hk b (.tail _ hb) o e⟩
  item := fun i s Q E hi st hQ => by
    refine wpAny_pyNext_wide_item st.1 (c := x.cps[i]) (by simp [hi]) fun h' hit' hs' => ?_
    obtain ⟨o, ho, hc, hd⟩ := st.1
    exact hQ _ h' (s.toks + 1) ⟨_, _, by simp [hi], rfl⟩ ⟨hit', st.2.sameBut ho hd rfl hs'⟩ fun b o hb e => hs'.extBut b o (fun h => hb (by simp [h])) e
  done := fun s Q E st hQ => next_wide_endH st.2 st.1 (by simp) fun h' he' => hQ h' s.toks fun b o hb e => he' b o (fun h => hb (by simp [h])) e
  self := fun _ _ _ _ st hQ => wpAny_pyIter_striter_wide st.1 hQ
end
section
variable {prog : Program} {w : World} {A : Around} {E : Value → Shared → Prop} {s : Shared} {env : Env} {h₀ : Heap} {x : PySem.Str} {body : List Stmt} {Q : Flow → Shared → Prop}
theorem iter_strH {xt : PySem.Str} {tx : Tok} {Q : Value → Shared → Prop} (hh : Hd A.handled s.heap)
    (hQ : ∀ (o : Obj) (St : Nat → Heap → Prop), Walks prog w A s.heap.objs.size (s.heap.objs.size :: exA A.handled) [s.heap.objs.size] xt.cps.size (SignAt xt) St → St 0 (s.heap.push o) →
      Q (.ref s.heap.objs.size) { s with heap := s.heap.push o }) : wpAny (model prog w) A (pyIter (.str xt tx)) Q E s := by
  have hk : ∀ o, Hd A.handled (s.heap.push o) := fun o => hh.keeps fun b o' e => Heap.get?_push_of_some _ e
  cases ha : xt.cps.all (· < 128)
  · exact wpAny_pyIter_wide ha (hQ _ _ (walks_wideH _ xt tx) ⟨⟨_, Heap.get?_push_size _ rfl, rfl, rfl⟩, hk _⟩)
  · exact wpAny_pyIter_ascii ha (hQ _ _ (walks_asciiH _ xt tx) ⟨⟨_, Heap.get?_push_size _ rfl, rfl, rfl⟩, hk _⟩)
theorem kst_textH {σ : Type} {xt : PySem.Str} {tx : Tok} {m₀ : PySem.Str → Option Value} (Led : σ → List (Addr × Obj)) (ps : σ → List (PySem.Str × Value)) (Facts : σ → Prop) (stored : List PySem.Str) (P : List Int → σ → Prop) (c₀ : σ)
    (hh : Hd A.handled h₀) (F : Fr h₀ env.locals s.heap m₀) (N : News h₀ env.locals s.heap (Led c₀)) (hf : Facts c₀) (hk : ∀ p ∈ ps c₀, m₀ p.1 = some p.2) (hp : P [] c₀)
    (turn : ∀ (c : σ) (pre post : List Int) (n : Nat) t (u : PySem.Str → Option Value) h tk own, KStt.codes xt = pre ++ (n : Int) :: post → OwnOff own ((Led c₀).map (·.1)) → Facts c → P pre c →
      Fr h₀ env.locals h (fun y => if y = x then some (.str ⟨#[n]⟩ t) else kstB (fun z => if stored.contains z then u z else m₀ z) (ps c) y) → News h₀ env.locals h (Led c ++ own) →
      wpAny (model prog w) A (execs body env) (InvPostN h₀ env.locals (KstS Led ps Facts x stored m₀ P (pre ++ [(n : Int)])) own ((Led c₀).map (·.1)) { s with heap := h, toks := tk } Q) E { s with heap := h, toks := tk })
    (done : ∀ (c : σ) (u : PySem.Str → Option Value) h tk, Facts c → P (KStt.codes xt) c → Fr h₀ env.locals h (fun y => if y = x then u y else kstB (fun z => if stored.contains z then u z else m₀ z) (ps c) y) → News h₀ env.locals h (Led c) → Q .next { s with heap := h, toks := tk }) :
    wpAny (model prog w) A (pyIter (.str xt tx)) (fun it s₂ => LoopAtV prog w A h₀ env x body Q E it s₂) E s := by
  have hL : ∀ b ∈ exA A.handled, b < h₀.objs.size := fun b hb => let ⟨o, ho⟩ := hh.mem hb; Heap.lt_size ho
  refine iter_strH (hh.keeps F.keep) fun o St W hst => ?_
  refine loop_invN (fun i m nx => KstS Led ps Facts x stored m₀ P ((KStt.codes xt).take i) m nx) W ?_ ?_ ?_ ?_ hst (F.push _) (fun p hp => ⟨Heap.get?_push_of_some _ (N p hp).1, (N p hp).2⟩) ⟨c₀, rfl, hf, hk, fun _ _ _ _ => rfl, by simpa using hp⟩ ?_ ?_
  · intro hm
    rcases List.mem_cons.mp hm with e | hm
    · exact absurd F.ns.lt (e ▸ Nat.lt_irrefl _)
    · exact absurd (hL _ hm) (Nat.not_lt.mpr F.above)
  · intro b' hb
    rw [List.mem_singleton.mp hb]
    exact next_is_new F
  · intro p hp hI
    exact absurd (Heap.lt_size (N p hp).1) ((List.mem_singleton.mp hI) ▸ Nat.lt_irrefl _)
  · intro p hp hI
    rcases List.mem_cons.mp hI with e | hI
    · exact absurd (Heap.lt_size (N p hp).1) (e ▸ Nat.lt_irrefl _)
    · obtain ⟨o, ho⟩ := hh.mem hI
      rw [(N p hp).2.2] at ho
      cases ho
  · rintro i v m₁ nx h tk own hi ⟨n, u, hn, rfl⟩ _ hoff ⟨c, rfl, hf', h1, h2, hp'⟩ F₁ N₁
    have hn' := KStt.code_at hn
    have hs : (KStt.codes xt).take (i + 1) = (KStt.codes xt).take i ++ [(n : Int)] := by simp [List.take_add_one, hn']
    have e : KStt.codes xt = (KStt.codes xt).take i ++ (n : Int) :: (KStt.codes xt).drop (i + 1) := by
      have ht := List.take_append_drop (i + 1) (KStt.codes xt)
      rw [hs, List.append_assoc] at ht
      exact ht.symm
    rw [hs]
    exact turn c _ _ n u m₁ h tk own e hoff hf' hp' (kst_fr h1 h2 F₁) N₁
  · rintro m₁ nx h tk ⟨c, rfl, hf', h1, h2, hp'⟩ F₁ N₁
    have hl : xt.cps.size = (KStt.codes xt).length := (KStt.codes_length xt).symm
    rw [hl, List.take_length] at hp'
    exact done c m₁ h tk hf' hp' (kst_frOut h1 h2 F₁) N₁
end

-- g1
/-- a walk over a list, inside an except suite as well -/
theorem walks_listH {prog : Program} {w : World} {A : Around} (I ax : Addr) (hne : ax ≠ I) (items : Array Value) :
    Walks prog w A I (I :: ax :: exA A.handled) [I] items.size (fun i v => items[i]? = some v) (fun i h => h.IsListIter I ax i ∧ h.IsList ax items ∧ Hd A.handled h) where
  sub := fun b hb => by rw [List.mem_singleton.mp hb]; exact .head _
  frame := fun _ _ _ st hk => ⟨st.1.at fun o e => hk I (.head _) o e, st.2.1.at fun o e => hk ax (.tail _ (.head _)) o e, st.2.2.kept fun b hb o e => hk b (.tail _ (.tail _ hb)) o e⟩
  item := fun i s Q E hi st hQ => by
    refine wpAny_pyNext_list_item st.1 st.2.1 (x := items[i]) (by simp [hi]) fun h' hit' hs' => ?_
    obtain ⟨o, ho, hc, hd⟩ := st.1
    exact hQ _ h' s.toks (by simp [hi]) ⟨hit', st.2.1.extBut hs'.extBut hne, st.2.2.sameBut ho hd rfl hs'⟩ fun b o hb e => hs'.extBut b o (fun h => hb (by simp [h])) e
  done := fun s Q E st hQ => next_list_endH st.2.2 st.1 st.2.1 (by simp) fun h' he' => hQ h' s.toks fun b o hb e => he' b o (fun h => hb (by simp [h])) e
  self := fun _ _ _ _ st hQ => wpAny_pyIter_listiter st.1 hQ
section
variable {prog : Program} {w : World} {A : Around} {E : Value → Shared → Prop} {s : Shared}
theorem stopHb {α β : Type} {K : α → Sem β} {Q : β → Shared → Prop} (hh : Hd A.handled s.heap)
    (h : ∀ h' e, (∀ b o, s.heap.get? b = some o → h'.get? b = some o) → (∃ ob, h'.get? e = some ob ∧ ob.cls = .type "StopIteration") → E (.ref e) { s with heap := h' }) :
    wpAny (model prog w) A (newExc (.type "StopIteration") [] >>= fun e => ((raiseNew e : Sem α) >>= K)) Q E s := by
  refine wpAny_bind ?_
  simp only [newExc, newTuple]
  refine wpAny_bind (wpAny_newObj_type ?_ (by size_fits))
  refine wpAny_bind (m := firstArgMember _ _) (wpAny_of_eq (a := Value.none) (by first | rfl | (simp only [firstArgMember]; rfl)) ?_)
  refine wpAny_newObj_type ?_ (by size_fits)
  refine wpAny_bind (raiseNewH (hh.keeps fun b o hb => Heap.get?_push_of_some _ (Heap.get?_push_of_some _ hb)) (Heap.get?_push_size _ rfl) rfl (by simp <;> omega) fun h' hs ⟨ob, ho, hc⟩ => h _ _ (fun b o hb => ?_) ⟨ob, ho, hc⟩)
  have e1 := Heap.get?_push_of_some ({ cls := .type "tuple", data := .seq #[] } : Obj) hb
  exact (hs.2 b (Nat.ne_of_lt (Heap.lt_size e1))).trans (Heap.get?_push_of_some _ e1)
/-- `next` of a generator that is not at work, inside an except suite as well -/
theorem nextGenH {a : Addr} {g n : Nat} {gs : GenState} {P : Nat → Shared → Shared → Prop} {Y : Protocol} {Q : Option Value → Shared → Prop}
    (hl : s.heap.NoLimit) (hroom : A.depth < recursionLimit) (hg : s.heap.IsGen a g) (hgs : s.gens[g]? = some gs)
    (hgo : gs.Goes (model prog w) A.in1 (fun n s₀ r s₁ => r = .ok .next ∧ P n s₀ s₁) Y n (.send .none) (s.setGen g .running))
    (hh : ∀ s₁, P n (s.setGen g .running) s₁ → Hd A.handled s₁.heap)
    (hY : ∀ v s₁ gs', gs'.bare = true → Y (n - 1) (s.setGen g .running) v s₁ (fun r' s'' => match n with
        | 0 => False
        | m + 1 => gs'.Goes (model prog w) A.in1 (fun n s₀ r s₁ => r = .ok .next ∧ P n s₀ s₁) Y m r' s'') → Q (some v) (s₁.setGen g gs'))
    (hP : ∀ s₁, P n (s.setGen g .running) s₁ → ∀ h', (∀ b o, s₁.heap.get? b = some o → h'.get? b = some o) → Q none { s₁.setGen g .finished with heap := h' }) :
    wpAny (model prog w) A (pyNext (.ref a)) Q E s := by
  unfold pyNext
  refine wpAny_bind (wpAny_attempt (wpAny_callSpecial?_slot (name := PySem.Str.ofString "__next__") hg.typeIs slot_gen_next
    (wpAny_call_entry slot_gen_next hg.typeIs entry_gen_next ?_ (args_gen_next _))))
  show wpAny _ A.in1 (Builtin.Generator.genWake (.ref a) (.send .none)) _ _ s
  unfold Builtin.Generator.genWake
  refine wpAny_bind (wpAny_holding (wpAny_genNumber hg (wpAny_bind (wpAny_genState hgs ?_))))
  cases gs with
  | running => exact hgo.elim
  | finished => exact hgo.elim
  | _ =>
    refine wpAny_bind (wpAny_roomToWake hl hroom ?_)
    refine wpAny_resumeQ hgs hgo (fun x s₁ hx => ?_) (fun v s₁ gs' hb hv => ?_)
    · obtain ⟨rfl, hp⟩ := hx
      refine stopHb (A := A.in1) (hh s₁ hp) fun h' e K ⟨ob, ho', hc'⟩ => ?_
      refine wpAny_bind (wpAny_isInstance (T := "StopIteration") (b := true) ⟨_, ho', hc'⟩ isSubtype_stop ?_)
      exact wpAny_pure (hP s₁ hp _ K)
    · exact wpAny_pure ⟨v, rfl, wpAny_pure (hY v s₁ gs' hb hv)⟩
end
def gProto (C I : Addr) (fp : List Addr) (n₀ : Nat) (F : Nat → Value → Prop) : Protocol := fun m s₀ v s kap =>
  F (n₀ - 1 - m) v ∧ GenSince C [I] s₀ s ∧ ∀ s'' : Shared, (∀ b ∈ C :: fp, ∀ o, s.heap.get? b = some o → s''.heap.get? b = some o) → kap (.send .none) s''
section
variable {prog : Program} {w : World} {A : Around}
def EltOk (prog : Program) (w : World) (cenv : Env) (x : PySem.Str) (elt : Expr) (P F : Nat → Value → Prop) : Prop :=
  ∀ (A' : Around) E' i v (s₂ : Shared) m₂, P i v → s₂.heap.Ns cenv.locals m₂ → m₂ x = some v → wpAny (model prog w) A' (eval elt cenv) (fun y s₃ => F i y ∧ Keeps s₂ s₃) E' s₂
abbrev gEnd (C I : Addr) : Nat → Shared → Result → Shared → Prop := fun n s₀ r s₁ => r = .ok .next ∧ (n = 0 ∧ GenSince C [I] s₀ s₁)
theorem segLoopH {elt iter : Expr} {x : PySem.Str} {px : Pos} {scope : Scope} {pos : Pos} {I : Addr} {fp : List Addr} {n₀ : Nat} {P F : Nat → Value → Prop} {St₀ : Nat → Heap → Prop} {cenv : Env} {hd : Option Value}
    (hh : A.handled = hd) (W₀ : ∀ A' : Around, A'.handled = hd → Walks prog w A' I fp [I] n₀ P St₀)
    (hx : cenv.kindOf x = some .local) (hp : (cenv.scope.kind == .class || (cenv.scope.kind == .module && cenv.locals != cenv.globals)) = false)
    (hco : cenv.scope.isCoroutine = false) (hCf : cenv.locals ∉ fp) (hq : EltOk prog w cenv x elt P F) :
    ∀ (k i : Nat) (s₀ s : Shared) (m : PySem.Str → Option Value), n₀ - i = k → i ≤ n₀ → St₀ i s.heap → s.heap.Ns cenv.locals m → GenSince cenv.locals [I] s₀ s →
      Seg (model prog w) A (gEnd cenv.locals I) (gProto cenv.locals I fp n₀ F) (n₀ - i) s₀
        (.compLoop (.GeneratorExp elt [⟨.Name x px, iter, [], 0⟩] scope pos) 0 (.ref I) .none cenv)
        ((model prog w).den (.compLoop (.GeneratorExp elt [⟨.Name x px, iter, [], 0⟩] scope pos) 0 (.ref I) .none cenv)) [] s := by
  have hh' : (A.over (.compLoop (.GeneratorExp elt [⟨.Name x px, iter, [], 0⟩] scope pos) 0 (.ref I) .none cenv) []).handled = hd := hh
  have hCw : cenv.locals ∉ [I] := fun h => hCf ((W₀ A hh).sub _ h)
  intro k
  induction k with
  | zero =>
    intro i s₀ s m hk hi hst hn hsince
    have hin : i = n₀ := by omega
    subst hin
    show Seg _ A _ _ _ s₀ _ ((compTurn (.GeneratorExp elt [⟨.Name x px, iter, [], 0⟩] scope pos) 0 (.ref I) .none cenv).onRaise (leaving cenv)) [] s
    rw [compTurn_gen, Sem.onRaise_eq_wrap]
    refine seg_bind_wrap (wpAny_standAt ?_)
    refine seg_bind_wrap ((W₀ _ hh').done s _ _ hst fun h' tk hk' => ?_)
    exact seg_end (.ok .next) ⟨rfl, Nat.sub_self _, hsince.step fun b o _ hw e => hk' b o hw e⟩
  | succ k ih =>
    intro i s₀ s m hk hi hst hn hsince
    have hlt : i < n₀ := by omega
    show Seg _ A _ _ _ s₀ _ ((compTurn (.GeneratorExp elt [⟨.Name x px, iter, [], 0⟩] scope pos) 0 (.ref I) .none cenv).onRaise (leaving cenv)) [] s
    rw [compTurn_gen, Sem.onRaise_eq_wrap]
    refine seg_bind_wrap (wpAny_standAt ?_)
    refine seg_bind_wrap ((W₀ _ hh').item i s _ _ hlt hst fun v h₁ tk₁ hPv hst₁ hk₁ => ?_)
    refine seg_bind_wrap (wpAny_of_eq (rfl : letOwnedTupleGo (.Name x px) (.ref I) v = pure ()) ?_)
    refine seg_bind_wrap (wpAny_assign_Name (wpAny_storeName_local hx (hn.at' fun o e => hk₁ _ o hCw e) (fun h₂ hn₂ hs₂ => ?_) hp))
    have up₂ : ∀ b o, b ≠ cenv.locals → b ∉ [I] → s.heap.get? b = some o → h₂.get? b = some o := fun b o hbC hbw e => hs₂.extBut b o hbC (hk₁ b o hbw e)
    have hst₂ : St₀ (i + 1) h₂ := (W₀ A hh).frame _ _ _ hst₁ fun b hb o e => hs₂.extBut b o (fun h => hCf (h ▸ hb)) e
    simp only [List.forIn_nil]
    refine seg_bind_wrap (wpAny_pure ?_)
    have hsince₃ : GenSince cenv.locals [I] s₀ { s with heap := h₂, toks := tk₁ } := hsince.step fun b o hbC hbw e => up₂ b o hbC hbw e
    have hy : ∀ v, yieldOut cenv v = yieldValue v := fun v => by simp only [yieldOut, hco, Bool.false_eq_true, if_false]
    obtain ⟨n, hn9⟩ : ∃ n, n₀ - i = n + 1 := ⟨n₀ - i - 1, by omega⟩
    rw [hn9]
    simp only [if_true, hy]
    rw [Sem.bind_eq_wrap', Sem.bind_eq_wrap', Sem.wrap_wrap, Sem.wrap_wrap]
    refine seg_wrap (wpAny_mono (hq _ _ i v _ _ hPv hn₂ (by simp)) (fun y s₄ h₄ => ?_) fun _ _ e => e)
    obtain ⟨hFy, h₄, tk₄, rfl, hk₄⟩ := h₄
    have e1 : n₀ - 1 - n = i := by omega
    have e2 : n = n₀ - (i + 1) := by omega
    refine seg_at (seg_yield rfl rfl rfl ⟨e1.symm ▸ hFy, hsince₃.step fun b o _ _ e => hk₄ b o e, fun s'' hal => ?_⟩)
    rw [e2]
    exact seg_again rfl (ih (i + 1) s'' s'' _ (by omega) hlt ((W₀ A hh).frame _ _ _ hst₂ fun b hb o e => hal b (List.mem_cons_of_mem _ hb) o (hk₄ b o e))
        ((hn₂.keeps hk₄).at' fun o e => hal _ (List.mem_cons_self ..) o e) (GenSince.refl _ _ _))
theorem segStartH {elt iter : Expr} {x : PySem.Str} {px : Pos} {scope : Scope} {pos : Pos} {I : Addr} {fp : List Addr} {n₀ : Nat} {P F : Nat → Value → Prop} {St₀ : Nat → Heap → Prop} {cenv : Env} {hd : Option Value}
    (hh : A.handled = hd) (W₀ : ∀ A' : Around, A'.handled = hd → Walks prog w A' I fp [I] n₀ P St₀)
    (hx : cenv.kindOf x = some .local) (hp : (cenv.scope.kind == .class || (cenv.scope.kind == .module && cenv.locals != cenv.globals)) = false)
    (hco : cenv.scope.isCoroutine = false) (hCf : cenv.locals ∉ fp) (hq : EltOk prog w cenv x elt P F)
    (s : Shared) (m : PySem.Str → Option Value) (hst : St₀ 0 s.heap) (hn : s.heap.Ns cenv.locals m) :
    Seg (model prog w) A (gEnd cenv.locals I) (gProto cenv.locals I fp n₀ F) n₀ s
      (.compStart (.GeneratorExp elt [⟨.Name x px, iter, [], 0⟩] scope pos) 0 (.ref I) .none cenv)
      ((model prog w).den (.compStart (.GeneratorExp elt [⟨.Name x px, iter, [], 0⟩] scope pos) 0 (.ref I) .none cenv)) [] s := by
  have hh' : (A.over (.compStart (.GeneratorExp elt [⟨.Name x px, iter, [], 0⟩] scope pos) 0 (.ref I) .none cenv) []).handled = hd := hh
  have loop := segLoopH (iter := iter) (px := px) (scope := scope) (pos := pos) hh W₀ hx hp hco hCf hq n₀ 0 s s m (Nat.sub_zero _) (Nat.zero_le _) hst hn (GenSince.refl _ _ _)
  show Seg _ A _ _ _ s _ ((compStart (.GeneratorExp elt [⟨.Name x px, iter, [], 0⟩] scope pos) 0 (.ref I) .none cenv).onRaise (leaving cenv)) [] s
  unfold compStart
  rw [Sem.onRaise_eq_wrap]
  show Seg _ A _ _ _ s _ ((ask >>= _).wrap _ _ _ _) [] s
  refine seg_bind_wrap (wpAny_askSetting ?_)
  split
  · exact seg_again rfl loop
  · refine seg_bind_wrap (wpAny_rule ?_)
    show Seg _ A _ _ _ s _ ((standAt iter.pos >>= _).wrap _ _ _ _) [] s
    exact seg_bind_wrap (wpAny_standAt (seg_bind_wrap ((W₀ _ hh').self 0 s _ _ hst (seg_again rfl loop))))
/-- where a generator stands that has handed out `j` of its things -/
def GAt (prog : Program) (w : World) (A : Around) (a : Addr) (g : Nat) (C I : Addr) (fp : List Addr) (n₀ : Nat) (F : Nat → Value → Prop) (j : Nat) (s : Shared) : Prop :=
  s.heap.IsGen a g ∧ s.heap.NoLimit ∧ Hd A.handled s.heap ∧ ∃ gs, s.gens[g]? = some gs ∧ ∀ s'' : Shared, (∀ b ∈ C :: fp, ∀ o, s.heap.get? b = some o → s''.heap.get? b = some o) →
    gs.Goes (model prog w) A.in1 (gEnd C I) (gProto C I fp n₀ F) (n₀ - j) (.send .none) s''
theorem walks_gen (a : Addr) (g : Nat) (C I : Addr) (fp : List Addr) (n₀ : Nat) (F : Nat → Value → Prop) (haC : a ≠ C) (haI : a ≠ I) (hI : I ∈ fp) (hroom : A.depth < recursionLimit) (hcC : cStatics ≠ C) (hcI : cStatics ≠ I)
    (heC : C ∉ exA A.handled) (heI : I ∉ exA A.handled) :
    WalksS prog w A a (a :: C :: cStatics :: (fp ++ exA A.handled)) [C, I] (GenOnlyQ g) n₀ F (GAt prog w A a g C I fp n₀ F) where
  sub := fun b hb => by
    rcases List.mem_cons.mp hb with rfl | hb
    · simp
    · rw [List.mem_singleton.mp hb]; simp [hI]
  grefl := fun _ => .inl rfl
  gtrans := fun _ _ _ x y => x.trans y
  frame := fun j s h' tk st _ hk =>
    ⟨let ⟨o, nm, qn, ho, r⟩ := st.1; ⟨o, nm, qn, hk a (List.mem_cons_self ..) o ho, r⟩,
     (let ⟨mc, hns, hnn⟩ := st.2.1; ⟨mc, hns.at' fun o e => hk cStatics (by simp) o e, hnn⟩),
     st.2.2.1.kept fun b hb o e => hk b (by simp [hb]) o e,
     let ⟨gs, hgs, hgo⟩ := st.2.2.2; ⟨gs, hgs, fun s'' hal => hgo s'' fun b hb o e => hal b hb o (hk b (by
      rcases List.mem_cons.mp hb with rfl | hb
      · simp
      · simp [hb]) o e)⟩⟩
  item := fun j s Q E hj st hQ => by
    obtain ⟨hg, hl, hH, gs, hgs, hgo⟩ := st
    obtain ⟨m, hm⟩ : ∃ m, n₀ - j = m + 1 := ⟨n₀ - j - 1, by omega⟩
    rw [hm] at hgo
    refine wpAny_with_toks (Nat.le_refl s.toks) ?_
    refine nextGenH (P := fun n s₀ s₁ => n = 0 ∧ GenSince C [I] s₀ s₁) hl hroom hg hgs (hgo _ fun _ _ _ e => e) (fun s₁ hp => absurd hp.1 (Nat.succ_ne_zero m)) (fun v s₁ gs' hb9 hv => ?_) (fun s₁ hp h' hk => ?_)
    · obtain ⟨hF, ⟨h₁, tk₁, rfl, hk₁⟩, hkap⟩ := hv
      have hidx : n₀ - 1 - (m + 1 - 1) = j := by omega
      rw [hidx] at hF
      intro htk
      refine hQ v _ hF ⟨let ⟨o, nm, qn, ho, r⟩ := hg; ⟨o, nm, qn, hk₁ a o haC (by simpa using haI) ho, r⟩, (let ⟨mc, hns, hnn⟩ := hl; ⟨mc, hns.at' fun o e => hk₁ cStatics o hcC (by simpa using hcI) e, hnn⟩),
          hH.kept fun b hb o e => hk₁ b o (fun q => heC (q ▸ hb)) (fun q => heI (List.mem_singleton.mp q ▸ hb)) e, gs', setGen_self (gs := .running) (setGen_self hgs), fun s'' hal => ?_⟩
        ⟨fun b o hb e => hk₁ b o (fun h => hb (h ▸ List.mem_cons_self ..)) (fun h => hb (List.mem_cons_of_mem _ h)) e, .of ((GenOnly.setGen s g .running).trans (GenOnly.setGen _ g gs')) (setGen_self (gs := .running) (setGen_self hgs)) hb9, rfl, rfl, htk⟩
      have e : n₀ - (j + 1) = m := by omega
      rw [e]
      exact hkap s'' hal
    · exact absurd hp.1 (Nat.succ_ne_zero m)
  done := fun s Q E st hQ => by
    obtain ⟨hg, hl, hH, gs, hgs, hgo⟩ := st
    rw [Nat.sub_self] at hgo
    refine wpAny_with_toks (Nat.le_refl s.toks) ?_
    refine nextGenH (P := fun n s₀ s₁ => n = 0 ∧ GenSince C [I] s₀ s₁) hl hroom hg hgs (hgo _ fun _ _ _ e => e) (fun s₁ hp => ?_) (fun v s₁ gs' _ hv => ?_) (fun s₁ hp h' hk => ?_)
    · obtain ⟨_, h₁, tk₁, rfl, hk₁⟩ := hp
      exact hH.kept fun b hb o e => hk₁ b o (fun q => heC (q ▸ hb)) (fun q => heI (List.mem_singleton.mp q ▸ hb)) e
    · obtain ⟨_, _, hkap⟩ := hv
      exact False.elim (hkap s₁ fun _ _ _ e => e)
    · obtain ⟨_, h₁, tk₁, rfl, hk₁⟩ := hp
      intro htk
      exact hQ _ ⟨fun b o hb e => hk b o (hk₁ b o (fun h => hb (h ▸ List.mem_cons_self ..)) (fun h => hb (List.mem_cons_of_mem _ h)) e), .of ((GenOnly.setGen s g .running).trans (GenOnly.setGen _ g .finished)) (setGen_self (gs := .running) (setGen_self hgs)) rfl, rfl, rfl, htk⟩
  self := fun _ _ _ _ st hQ => wpAny_pyIter_gen st.1 hQ
end

-- g2
theorem genexprCode_tab {M : Model} {A : Around} {E : Value → Shared → Prop} {s : Shared} {env : Env} {c P : Addr} {ps : Array Value} {pos : Pos} {qual : PySem.Str} {scope : Scope} {Q : Value → Shared → Prop} (hc : env.code = .ref c) (C : CodeHd s.heap c P) (hP : s.heap.get? P = some (tabObj ps)) (ht : TabOk ps)
    (h : ∀ code ps' h' tk, TabOk ps' → Heap.ExtBut P s.heap h' → s.heap.objs.size ≤ h'.objs.size → h'.get? P = some (tabObj ps') → Q code { s with heap := h', toks := tk }) :
    wpAny M A (genexprCode env pos qual scope) Q E s := by
  rcases ht.2 pos with hn | ⟨c', hn⟩
  · refine wpAny_genexprCodeX hc (C.code hP ht.1) (C.tab hP) hn fun c' h' tk hx hge hlt _ _ htab _ => ?_
    exact h _ _ h' tk ht.push hx (by omega) htab.2
  · exact wpAny_codeAt_hit hc (C.code hP ht.1) hn (h _ ps s.heap s.toks ht (fun _ _ _ e => e) (Nat.le_refl _) hP)
/-- a generator that has not begun stands at `a`; it touches nothing below `lo` -/
def GenHere (prog : Program) (w : World) (hd : Option Value) (a : Addr) (n : Nat) (F : Nat → Value → Prop) (lo : Nat) (s : Shared) : Prop :=
  ∀ A' : Around, A'.handled = hd → A'.depth < recursionLimit → ∃ g fp wr St, WalksS prog w A' a fp wr (GenOnlyQ g) n F St ∧ (∀ i s, St i s → s.TypeIs (.ref a) "generator") ∧ St 0 s ∧ a ∈ fp ∧ (∀ b ∈ fp, b < s.heap.objs.size) ∧ ∀ b ∈ wr, lo ≤ b
section
variable {prog : Program} {w : World} {A : Around} {E : Value → Shared → Prop} {s : Shared} {h₀ : Heap} {L c P : Addr} {m mg mb : PySem.Str → Option Value} {news : List (Addr × Obj)} {g : Obj → List (Addr × Obj)}
  {p : Program} {loose : List PySem.Str} {mean : ExcName → Option Value} {ps : Array Value}
theorem genexpK {hd : Option Value} {env : Env} {elt iter : Expr} {x : PySem.Str} {px : Pos} {scope : Scope} {cl : List (PySem.Str × Addr)} {pos : Pos} {Q : Value → Shared → Prop} {D : Addr} {vs : Array Value} {k : Nat} {Fv : Nat → Value → Prop}
    (hA : A.handled = hd) (hHd : Hd hd h₀) (F : Fr h₀ L s.heap m) (N : News h₀ L s.heap news) (T : Top p loose mean mg mb h₀) (C : CodeHd h₀ c P) (hcd : env.code = .ref c) (hgl : env.globals = mainGlobals) (U : UpdF P (tabObj ps) news g) (ht : TabOk ps)
    (hD : (D, listOf vs k) ∈ news)
    (hco : scope.isCoroutine = false) (hclos : closureFor scope env = pure cl) (hcell : ∀ y ∈ scope.names, y.2 ≠ .cell) (h0 : scope.names.lookup (".0" : PySem.Str) = some NameKind.local)
    (hx : scope.names.lookup x = some .local) (hkind : scope.kind = .function) (hroom : A.depth < recursionLimit)
    (hiter : ∀ Q : Value → Shared → Prop, Q (.ref D) s → wpAny (model prog w) A (eval iter env) Q E s)
    (helt : ∀ C code, EltOk prog w (genEnv scope cl C code builtinsNs env) x elt (fun i v => vs[i]? = some v) Fv)
    (h : ∀ a ps' h' tk gs, TabOk ps' → (AllBare s.gens → AllBare gs) → GenHere prog w hd a vs.size Fv s.heap.objs.size { s with heap := h', toks := tk, gens := gs } → Fr h₀ L h' m → News h₀ L h' (g (tabObj ps')) → (∀ q ∈ g (tabObj ps'), q.1 < s.heap.objs.size) → L < s.heap.objs.size → h₀.objs.size ≤ s.heap.objs.size →
      Q (.ref a) { s with heap := h', toks := tk, gens := gs })
    (hs : ∀ x, genFold iter env x = pure x) :
    wpAny (model prog w) A (eval (.GeneratorExp elt [⟨.Name x px, iter, [], 0⟩] scope pos) env) Q E s := by
  obtain ⟨own, rest, rfl, hgr, h1, h2⟩ := U.split
  have hm := N (P, tabObj ps) (List.mem_append_right _ (.head _))
  have hl : s.heap.IsList D vs := News.isList N hD
  have hDlt : D < s.heap.objs.size := Heap.lt_size (N _ hD).1
  have hPlt : P < s.heap.objs.size := Heap.lt_size hm.1
  have hLlt : L < s.heap.objs.size := F.ns.lt
  have hab : @LE.le Nat _ h₀.objs.size L := F.above
  have hLn : @LT.lt Nat _ L s.heap.objs.size := hLlt
  have hDP : D ≠ P := fun q => by
    have e := (N _ hD).1
    rw [q, hm.1] at e; cases e
  have hlim : s.heap.NoLimit := T.nolimit.keeps F.keep
  have hHs : Hd hd s.heap := hHd.keeps F.keep
  have hgs := T.g.keeps F.keep
  obtain ⟨bm, ob, b1, b2, b3, b4, b5, b6⟩ := T.bmain
  have hgP : mainGlobals ≠ P := fun q => by
    obtain ⟨o, es, ep, e, hd, _⟩ := hgs
    rw [q, hm.1] at e; cases e; cases hd
  have hbP : bm ≠ P := fun q => by
    have e := F.keep _ _ b3
    rw [q, hm.1] at e; cases e; cases b4
  have hcP : cStatics ≠ P := fun q => by
    obtain ⟨_, hns, _⟩ := hlim
    obtain ⟨o, es, ep, ho, hd, _⟩ := hns
    rw [q, hm.1] at ho; cases ho; cases hd
  have hcl : @LT.lt Nat _ cStatics s.heap.objs.size := let ⟨_, hn, _⟩ := hlim; hn.lt
  have heP : P ∉ exA hd := fun q => by
    obtain ⟨o, ho⟩ := hHd.mem q
    rw [hm.2.2] at ho; cases ho
  have helt9 : ∀ b ∈ exA hd, @LT.lt Nat _ b s.heap.objs.size := fun b hb => let ⟨o, ho⟩ := hHs.mem hb; Heap.lt_size ho
  refine wpAny_GeneratorExp_make hco hclos hcell h0 hkind hroom ?_ hs
  refine hiter _ ?_
  refine wpAny_pyIter_list hl ⟨hlim.push _, ?_⟩
  have kp : ∀ o : Obj, ∀ b o', s.heap.get? b = some o' → (s.heap.push o).get? b = some o' := fun o b o' e => Heap.get?_push_of_some _ e
  refine genexprCode_tab hcd ((C.keeps F.keep).keeps (kp _)) (Heap.get?_push_of_some _ hm.1) ht fun code ps' h₃ tk₃ ht' hx₃ hge₃ htab₃ => ?_
  have k3 : ∀ b o, b ≠ P → s.heap.get? b = some o → h₃.get? b = some o := fun b o hb e => hx₃ b o hb (kp _ b o e)
  have hI3 : h₃.get? s.heap.objs.size = some { cls := .type "list_iterator", data := .fields #[.ref D, .int 0 0] } := hx₃ _ _ (Nat.ne_of_gt hPlt) (Heap.get?_push_size _ rfl)
  have hsz3 : s.heap.objs.size < h₃.objs.size := Heap.lt_size hI3
  refine wpAny_builtinsFor (m := mg) (by rw [hgl]; exact hgs.at' fun o e => k3 _ o hgP e) b1 b2 (k3 _ _ hbP (F.keep _ _ b3)) b4 b5 b6 ?_
  intro h' hn' hs'
  have hsz' : h'.objs.size = h₃.objs.size + 1 := by rw [hs'.1, Heap.size_push]
  have k' : ∀ b o, h₃.get? b = some o → h'.get? b = some o := fun b o e => hs'.extBut b o (Nat.ne_of_lt (Heap.lt_size e)) (Heap.get?_push_of_some _ e)
  generalize hgo : ({ cls := .type "generator", data := .fields #[.int s.gens.size 0, .str "<genexpr>" (tk₃ + 1), .str (env.qual ++ "<genexpr>") (tk₃ + 1 + 1)] } : Obj) = go
  have k5 : ∀ b o, h₃.get? b = some o → (h'.push go).get? b = some o := fun b o e => Heap.get?_push_of_some _ (k' b o e)
  have old : ∀ b o, h₀.get? b = some o → (h'.push go).get? b = some o := fun b o e => k5 b o (k3 b o (fun q => by rw [q, hm.2.2] at e; cases e) (F.keep b o e))
  refine h h'.objs.size ps' (h'.push go) _ _ ht' (fun q => q.push rfl) ?_ ⟨(F.ns.at' fun o e => k5 _ o (k3 _ o hm.2.1.symm e)), old, F.above⟩ (fun q hq => ?_) (fun q hq => ?_) hLlt (Nat.le_trans hab (Nat.le_of_lt hLn))
  · intro A' hA' hroom'
    have hCe : h₃.objs.size ∉ exA hd := fun q => absurd (helt9 _ q) (Nat.not_lt.mpr (Nat.le_of_lt hsz3))
    have hIe : s.heap.objs.size ∉ exA hd := fun q => absurd (helt9 _ q) (Nat.lt_irrefl _)
    have hfp : ∀ b ∈ s.heap.objs.size :: D :: exA hd, @LE.le Nat _ b s.heap.objs.size := fun b hb => by
      rcases List.mem_cons.mp hb with rfl | hb
      · exact Nat.le_refl _
      · rcases List.mem_cons.mp hb with rfl | hb
        · exact Nat.le_of_lt hDlt
        · exact Nat.le_of_lt (helt9 b hb)
    have z0 : @Eq Nat h'.objs.size (h₃.objs.size + 1) := hsz'
    have z0' : @LT.lt Nat _ s.heap.objs.size h₃.objs.size := hsz3
    have z1 : @Ne Nat h'.objs.size h₃.objs.size := by omega
    have z2 : @Ne Nat h'.objs.size s.heap.objs.size := by omega
    have z3 : @Ne Nat cStatics h₃.objs.size := by omega
    have z4 : @Ne Nat cStatics s.heap.objs.size := by omega
    refine ⟨s.gens.size, h'.objs.size :: h₃.objs.size :: cStatics :: ((s.heap.objs.size :: D :: exA hd) ++ exA A'.handled), [h₃.objs.size, s.heap.objs.size], GAt prog w A' h'.objs.size s.gens.size h₃.objs.size s.heap.objs.size (s.heap.objs.size :: D :: exA hd) vs.size Fv, ?_, ?_, ?_, .head _, ?_, ?_⟩
    · exact walks_gen h'.objs.size s.gens.size h₃.objs.size s.heap.objs.size _ vs.size Fv z1 z2 (.head _) hroom' z3 z4 (by rw [hA']; exact hCe) (by rw [hA']; exact hIe)
    · exact fun i s st => st.1.typeIs
    · refine ⟨⟨go, _, _, Heap.get?_push_size _ (by rw [← hgo]; rfl), by rw [← hgo], by rw [← hgo], by rw [← hgo]⟩, hlim.extBut (fun b o hb e => k5 b o (k3 b o hb e)) hcP, ?_, _, Array.getElem?_push_size .., fun s'' hal => ⟨rfl, ?_⟩⟩
      · rw [hA']; exact hHd.keeps old
      · refine segStartH (A := A'.in1) (cenv := genEnv scope cl h₃.objs.size code builtinsNs env) (hd := hd) (I := s.heap.objs.size) (fp := s.heap.objs.size :: D :: exA hd) (n₀ := vs.size) (P := fun i v => vs[i]? = some v) (St₀ := fun i h => h.IsListIter s.heap.objs.size D i ∧ h.IsList D vs ∧ Hd hd h) (m := fun y => if y = (".0" : PySem.Str) then some (.ref s.heap.objs.size) else none) hA' (fun A₂ hA₂ => by rw [← hA₂]; exact walks_listH _ D (Nat.ne_of_lt hDlt) vs) hx (by simp [genEnv, hkind]) hco ?_ (helt _ _) s'' ?_ ?_
        · exact fun q => absurd (hfp _ q) (Nat.not_le.mpr z0')
        · refine ⟨⟨_, hal _ (by simp) _ (k5 _ _ hI3), rfl, rfl⟩, ?_, ?_⟩
          · obtain ⟨o, ho, r⟩ := hl
            exact ⟨o, hal _ (by simp) _ (k5 _ _ (k3 _ _ hDP ho)), r⟩
          · exact hHd.kept fun b hb o e => hal b (by simp [hb]) o (old b o e)
        · exact (hn'.push _).at' fun o e => hal _ (by simp [genEnv]) o e
    · intro b hb
      have hz : @Eq Nat (h'.push go).objs.size (h₃.objs.size + 2) := by rw [Heap.size_push, hsz']
      show @LT.lt Nat _ b (h'.push go).objs.size
      rw [hz]
      rcases List.mem_cons.mp hb with e | hb
      · have e' : @Eq Nat b h'.objs.size := e
        omega
      · rcases List.mem_cons.mp hb with e | hb
        · have e' : @Eq Nat b h₃.objs.size := e
          omega
        · rcases List.mem_cons.mp hb with e | hb
          · have e' : @Eq Nat b cStatics := e
            omega
          · rcases List.mem_append.mp hb with hb | hb
            · have := hfp b hb; omega
            · rw [hA'] at hb; have := helt9 b hb; omega
    · intro b hb
      rcases List.mem_cons.mp hb with e | hb
      · have e' : @Eq Nat b h₃.objs.size := e
        show @LE.le Nat _ s.heap.objs.size b
        omega
      · rw [List.mem_singleton.mp hb]; exact Nat.le_refl _
  · rw [hgr] at hq
    rcases List.mem_append.mp hq with hq | hq
    · have n := N q (List.mem_append_left _ hq)
      exact ⟨k5 _ _ (k3 _ _ (h1 q hq) n.1), n.2⟩
    · rcases List.mem_cons.mp hq with rfl | hq
      · exact ⟨k5 _ _ htab₃, hm.2⟩
      · have n := N q (List.mem_append_right _ (.tail _ hq))
        exact ⟨k5 _ _ (k3 _ _ (h2 q hq) n.1), n.2⟩
  · rw [hgr] at hq
    rcases List.mem_append.mp hq with hq | hq
    · exact Heap.lt_size (N q (List.mem_append_left _ hq)).1
    · rcases List.mem_cons.mp hq with rfl | hq
      · exact hPlt
      · exact Heap.lt_size (N q (List.mem_append_right _ (.tail _ hq))).1
/-- `sep.join` over such a generator of texts -/
theorem joinGenK {hd : Option Value} {a : Addr} {lo : Nat} {sep : PySem.Str} {t : Tok} {ys : List PySem.Str} {Q : Value → Shared → Prop} (hA : A.handled = hd) (hroom : A.depth < recursionLimit) (F : Fr h₀ L s.heap m) (N : News h₀ L s.heap news)
    (X : GenHere prog w hd a ys.length (fun i v => ∃ t, v = .str (ys.getD i "") t) lo s) (hn : ∀ q ∈ news, q.1 < lo) (hL : L < lo) (h0 : h₀.objs.size ≤ lo) (hok : JoinOk sep ys = true) (hz : ys.length ≤ 1000)
    (h : ∀ h' t' k gs, (AllBare s.gens → AllBare gs) → Fr h₀ L h' m → News h₀ L h' news → Q (.str (Txt.join sep ys) t') { s with heap := h', toks := k, gens := gs }) :
    wpAny (model prog w) A (call (.builtin "str.join") [.str sep t, .ref a]) Q E s := by
  obtain ⟨g, fp, wr, St, W, hT, hst, ha, hfp, hwr⟩ := X A.in1.in1 hA (by rw [depth_in1, depth_in1]; exact hroom)
  refine SC.joinGen W hT hst hfp ha (fun i v hv => let ⟨t, e⟩ := hv; ⟨_, t, e⟩) (fun s' l hm hacc => ?_) (by rw [sizeLine_eq]; omega)
  have hl : l.map (·.1) = ys := by
    apply List.ext_getElem?
    intro j
    have hsz : l.length = ys.length := by simpa [strValues] using hacc.1
    by_cases hj : j < ys.length
    · have hj' : j < l.length := hsz ▸ hj
      obtain ⟨u, hv⟩ := hacc.2 j (.str l[j].1 l[j].2) (by simp [strValues, List.getElem?_eq_getElem hj'])
      injection hv with h1 _
      simp [List.getElem?_eq_getElem hj', hj, h1, List.getD_eq_getElem?_getD]
    · rw [List.getElem?_eq_none (by simpa [hsz] using Nat.le_of_not_lt hj), List.getElem?_eq_none (Nat.le_of_not_lt hj)]
  rw [hl]
  refine ⟨hok, fun t' k => ?_⟩
  have lt : ∀ b, b < lo → b ∉ wr := fun b hb q => Nat.lt_irrefl _ (Nat.lt_of_lt_of_le hb (hwr b q))
  have := h s'.heap t' k s'.gens (fun q => q.moved hm.gens) ⟨F.ns.at' fun o e => hm.heap _ o (lt _ hL) e, fun b o e => hm.heap b o (lt b (Nat.lt_of_lt_of_le (Heap.lt_size e) h0)) (F.keep b o e), F.above⟩ (fun q hq => ⟨hm.heap _ _ (lt _ (hn q hq)) (N q hq).1, (N q hq).2⟩)
  rw [← hm.drawn, ← hm.os] at this
  exact this
end

-- g3
/-- `ConH` of a def that may make and use up generators -/
def ConG (w : World) (hd : Option Value) (f : Addr) (need : Nat) (news : List (Addr × Obj)) (vs : List Value) (R : Value → List (Addr × Obj) → Prop) : Prop :=
  ∀ (p : Program) (loose : List PySem.Str) (mean : ExcName → Option Value) (mg mb : PySem.Str → Option Value) (dp un : Nat) (gd : Option (List PySem.Code)) (env : Env) (outer : List Env) (A₀ : Around) (base h₀ : Heap) (L : Addr) (m : PySem.Str → Option Value) (s : Shared) (Q E : Value → Shared → Prop),
    Below A₀ base outer h₀ → Fr h₀ L s.heap m → (K w.params).In h₀ → News h₀ L s.heap news → Top p loose mean mg mb h₀ → HdC hd s.heap news → env.frame = some L → env.scope.kind = .function → dp + need < recursionLimit → un + 8 * need < cLine →
    (∀ v news' h' tk' gs', (AllBare s.gens → AllBare gs') → Fr h₀ L h' m → News h₀ L h' news' → R v news' → Q v { s with heap := h', toks := tk', gens := gs' }) →
    wpAny (model PySem.Challenge.pw_ij0084_01 w) { handled := hd, depth := dp, frames := some (env :: outer), guards := gd, units := un } (call (.ref f) vs) Q E s
theorem ConH.toG {w : World} {hd : Option Value} {f : Addr} {need : Nat} {news : List (Addr × Obj)} {vs : List Value} {R : Value → List (Addr × Obj) → Prop} (C : ConH w hd f need news vs R) : ConG w hd f need news vs R :=
  fun p loose mean mg mb dp un gd env outer A₀ base h₀ L m s Q E B F X N T H he hk hdp hun ret =>
    C p loose mean mg mb dp un gd env outer A₀ base h₀ L m s Q E B F X N T H he hk hdp hun fun v n h tk F' N' r => ret v n h tk s.gens _root_.id F' N' r
theorem con_useG {w : World} {f : Addr} {need : Nat} {news : List (Addr × Obj)} {vs : List Value} {R : Value → List (Addr × Obj) → Prop} {p : Program} {loose : List PySem.Str} {mean : ExcName → Option Value} {mg mb : PySem.Str → Option Value} {hd : Option Value} {dp un : Nat} {gd : Option (List PySem.Code)} {env : Env} {outer : List Env} {A₀ : Around} {base h₀ : Heap} {L : Addr} {m : PySem.Str → Option Value} {s : Shared} {Q E : Value → Shared → Prop}
    (B : Below A₀ base outer h₀) (F : Fr h₀ L s.heap m) (X : (K w.params).In h₀) (N : News h₀ L s.heap news) (T : Top p loose mean mg mb h₀) (H : HdC hd s.heap news) (he : env.frame = some L) (hk : env.scope.kind = .function) (C : ConG w hd f need news vs R)
    (hdp : dp + need < recursionLimit) (hun : un + 8 * need < cLine)
    (ret : ∀ v news' h' tk' gs', (AllBare s.gens → AllBare gs') → Fr h₀ L h' m → News h₀ L h' news' → R v news' → Q v { s with heap := h', toks := tk', gens := gs' }) :
    wpAny (model PySem.Challenge.pw_ij0084_01 w) { handled := hd, depth := dp, frames := some (env :: outer), guards := gd, units := un } (call (.ref f) vs) Q E s :=
  C p loose mean mg mb dp un gd env outer A₀ base h₀ L m s Q E B F X N T H he hk hdp hun ret
theorem kwl24 : True := by
  k_with "my openG!" => ((refine con_row ?_; unfold ConG; k_fill; intro _))
  trivial
local macro_rules | `(tactic| k_call_by "conG" $t) => `(tactic| (
  k_here
  k_dflt (refine' con_useG ?k1 ?k2 ?k3 ?k4 ?k5 ?kH ?kA ?kK ?kC ?kd ?ku ?_
          (case k1 => k_asm); (case k2 => k_asm); (case k3 => k_asm); (case k4 => k_asm); (case k5 => k_asm); (case kH => walk_at "my hd"); (case kA => exact rfl); (case kK => exact rfl); (case kC => exact $t); (case kd => walk_at "my room"); (case ku => walk_at "my room"))))
def KgEnd {σ : Type} (h₀ : Heap) (L : Addr) (s : Shared) (Led : σ → List (Addr × Obj)) (ps : σ → List (PySem.Str × Value)) (stored : List PySem.Str) (m₀ : PySem.Str → Option Value) (P : σ → Prop) (μ : σ → Nat) (c : σ) (s₂ : Shared) : Prop :=
  ∃ (c' : σ) (h' : Heap) (tk : Nat) (gs : Array GenState) (m' : PySem.Str → Option Value) (news' : List (Addr × Obj)), s₂ = { s with heap := h', toks := tk, gens := gs } ∧ (AllBare s.gens → AllBare gs) ∧ Fr h₀ L h' m' ∧ News h₀ L h' news' ∧ (∀ p ∈ Led c', p ∈ news') ∧ (∀ p ∈ ps c', m' p.1 = some p.2) ∧ (∀ z, (∀ p ∈ ps c', z ≠ p.1) → stored.contains z = false → m' z = m₀ z) ∧ P c' ∧ μ c' < μ c
def KgPost {σ : Type} (h₀ : Heap) (L : Addr) (s : Shared) (Led : σ → List (Addr × Obj)) (ps : σ → List (PySem.Str × Value)) (stored : List PySem.Str) (m₀ : PySem.Str → Option Value) (P : σ → Prop) (μ : σ → Nat) (Q : Flow → Shared → Prop) (c : σ) (f : Flow) (s₂ : Shared) : Prop :=
  match f with
  | .ret v => Q (.ret v) s₂
  | .brk => Q .next s₂
  | _ => KgEnd h₀ L s Led ps stored m₀ P μ c s₂
theorem kg_end {σ : Type} {h₀ : Heap} {L : Addr} {s : Shared} {Led : σ → List (Addr × Obj)} {ps : σ → List (PySem.Str × Value)} {stored : List PySem.Str} {m₀ m' : PySem.Str → Option Value} {P : σ → Prop} {μ : σ → Nat} {c : σ} {h' : Heap} {tk : Nat} {gs : Array GenState} {news' : List (Addr × Obj)} (c' : σ) (hg : AllBare s.gens → AllBare gs)
    (F : Fr h₀ L h' m') (N : News h₀ L h' news') (hn : ∀ p ∈ Led c', p ∈ news') (hk : ∀ p ∈ ps c', m' p.1 = some p.2) (hr : ∀ z, (∀ p ∈ ps c', z ≠ p.1) → stored.contains z = false → m' z = m₀ z) (hp : P c') (hm : μ c' < μ c) :
    KgEnd h₀ L s Led ps stored m₀ P μ c { s with heap := h', toks := tk, gens := gs } := ⟨c', h', tk, gs, m', news', rfl, hg, F, N, hn, hk, hr, hp, hm⟩
/-- a while loop whose turns may make and use up generators; it builds a list by its bound `append` -/
theorem kg_while {prog : Program} {w : World} {A : Around} {E : Value → Shared → Prop} {Q : Flow → Shared → Prop} {s : Shared} {env : Env} {h₀ : Heap} {L : Addr} {σ : Type} {test : Expr} {body : List Stmt} {pos : Pos} {m₀ : PySem.Str → Option Value} {a l : Addr} {o : Obj} {news : List (Addr × Obj)} (Led : Addr → Addr → σ → List (Addr × Obj)) (ps : σ → List (PySem.Str × Value)) (stored : List PySem.Str) (P : σ → Prop) (μ : σ → Nat) (c₀ : σ)
    (F : Fr h₀ L s.heap m₀) (N : News h₀ L s.heap ((a, appObj l) :: (l, o) :: news)) (hl : ∀ p ∈ Led a l c₀, p ∈ (a, appObj l) :: (l, o) :: news) (hk : ∀ p ∈ ps c₀, m₀ p.1 = some p.2) (hp : P c₀)
    (turn : ∀ (c : σ) (u : PySem.Str → Option Value) h tk gs, (AllBare s.gens → AllBare gs) → P c → Fr h₀ L h (kstB (fun z => if stored.contains z then u z else m₀ z) (ps c)) → News h₀ L h (Led a l c) →
      wpAny (model prog w) A (isTrue test env (eval test env)) (fun b s₂ =>
        if b = true then wpAny (model prog w) A (execs body env) (KgPost h₀ L s (Led a l) ps stored m₀ P μ Q c) E s₂ else Q .next s₂) E { s with heap := h, toks := tk, gens := gs })
    (hE : PassesOwn (model prog w) A env E := by passes_own) :
    wpAny (model prog w) A (exec (.While test body [] pos) env) Q E s := by
  refine wpAny_While (codeAny_whileLoop (fun n s' => ∃ h₁ tk₁ gs m₁, ∃ c : σ, s' = { s with heap := h₁, toks := tk₁, gens := gs } ∧ (AllBare s.gens → AllBare gs) ∧ Fr h₀ L h₁ m₁ ∧ News h₀ L h₁ (Led a l c) ∧ μ c = n ∧ (∀ p ∈ ps c, m₁ p.1 = some p.2) ∧ (∀ z, (∀ p ∈ ps c, z ≠ p.1) → stored.contains z = false → m₁ z = m₀ z) ∧ P c) ?_ (μ c₀) ⟨s.heap, s.toks, s.gens, m₀, c₀, rfl, _root_.id, F, fun p hp => N p (hl p hp), rfl, hk, fun _ _ _ => rfl, hp⟩)
  rintro n s' ⟨h₁, tk₁, gs, m₁, c, rfl, hg, F₁, N₁, rfl, h1, h2, hp'⟩
  refine wpAny_mono (turn c m₁ h₁ tk₁ gs hg hp' (ksw_fr h1 h2 F₁) N₁) (fun b s₂ p => ?_) hE
  cases b with
  | false =>
    simp only [Bool.false_eq_true, if_false] at p ⊢
    exact wpAny_execs_nil p
  | true =>
    simp only [if_true] at p ⊢
    refine wpAny_mono p (fun f s₃ q => ?_) hE
    cases f with
    | ret v => exact q
    | brk => exact q
    | next =>
      obtain ⟨c', h', tk', gs', m', news', rfl, hg', F', N', hn, hk9, hr9, hp9, hm9⟩ := q
      exact ⟨μ c', hm9, h', tk', gs', m', c', rfl, hg', F', fun p hp => N' p (hn p hp), rfl, hk9, hr9, hp9⟩
    | cont =>
      obtain ⟨c', h', tk', gs', m', news', rfl, hg', F', N', hn, hk9, hr9, hp9, hm9⟩ := q
      exact ⟨μ c', hm9, h', tk', gs', m', c', rfl, hg', F', fun p hp => N' p (hn p hp), rfl, hk9, hr9, hp9⟩

-- f1
theorem kwl25 : True := by
  k_with "KgPost!" => ((dsimp only [KgPost]))
  trivial
section
open PySem.Builtin PySem.Builtin.Str
theorem gives_find4 (x y : PySem.Str) (i j : Int) (t u v v' : Tok) : Gives (Builtin.«str.find» ⟨[.str x t, .str y u, .int i v, .int j v'], []⟩) (.int (match occurrences x y (fromIndex x.length i) (min (fromIndex x.length j) x.length) 1 with | k :: _ => (k : Int) | [] => -1)) := by
  show Gives (match occurrences x y (fromIndex x.length i) (min (fromIndex x.length j) x.length) 1 with | k :: _ => retInt k | [] => (do rule "str.find.not-found"; retInt (-1))) _
  cases occurrences x y (fromIndex x.length i) (min (fromIndex x.length j) x.length) 1 with
  | nil => exact .rule (.of_eq rfl)
  | cons k _ => exact .of_eq rfl
theorem occ_here {x y : PySem.Str} {lo hi : Nat} (h : StrLaws.At x y hi lo) (hh : lo ≤ hi) : ∃ r, occurrences x y lo hi 1 = lo :: r := by
  rw [StrLaws.occ_eq]
  have e : List.range' lo (hi + 1 - lo) = lo :: List.range' (lo + 1) (hi - lo) := by
    rw [show hi + 1 - lo = (hi - lo) + 1 by omega, List.range'_succ]
  rcases StrLaws.occ_first x y hi 1 (Nat.le_refl _) (List.range' lo (hi + 1 - lo)) lo (fun i hi' => by have := List.mem_range'_1.mp hi'; omega) with ⟨h0, hn⟩ | ⟨pre, a, post, e2, h0, ha, hn⟩
  · exact absurd h (hn lo (by rw [e]; exact .head _))
  · have hp : pre = [] := by
      cases pre with
      | nil => rfl
      | cons b r =>
        exfalso
        rw [e] at e2
        simp only [List.cons_append, List.cons.injEq] at e2
        exact hn b (.head _) (e2.1 ▸ h)
    subst hp
    rw [e] at e2
    simp only [List.nil_append, List.cons.injEq] at e2
    rw [← e2.1] at h0
    generalize (forIn (List.range' lo (hi + 1 - lo)) ((#[] : Array Nat), lo) (StrLaws.occBody x y hi 1)).run.fst = arr at h0
    have h1 : arr.toList[0]? = some lo := by simpa using h0
    cases hL : arr.toList with
    | nil => rw [hL] at h1; cases h1
    | cons b t => rw [hL] at h1; simp at h1; exact ⟨t, by rw [h1]⟩
theorem occ_past {x y : PySem.Str} {lo hi : Nat} (h : hi < lo) : occurrences x y lo hi 1 = [] := by
  rw [StrLaws.occ_eq, show hi + 1 - lo = 0 by omega]; rfl
section
variable {prog : Program} {w : World} {A : Around} {E : Value → Shared → Prop} {s : Shared} {X Y : PySem.Str} {x pre rest : List Nat} {i j : Int} {c : Nat} {t u v v' : Tok} {Q : Value → Shared → Prop}
theorem from_nat {n : Nat} {i : Int} {k : Nat} (h : i = k) : fromIndex n i = k := by
  subst h
  unfold fromIndex
  rw [if_neg (by omega)]
  omega
theorem find_here (a b : Nat) (e : X = ofL x) (e' : Y = ofL [c]) (hx : x = pre ++ rest) (hi : i = pre.length + a) (hj : j = pre.length + b) (hb : pre.length + b ≤ x.length) (hab : a < b) (hc : rest[a]? = some c)
    (h : Q (.int i s.toks) { s with toks := s.toks + 1 }) : wpAny (model prog w) A (call (.builtin "str.find") [.str X t, .str Y u, .int i v, .int j v']) Q E s := by
  subst e e'
  refine call_gives PySem.F.slot_str_find (typeIs_str _ _ _) PySem.F.entry_str_find (PySem.F.args_str_find_4 _ _ _ _) (gives_find4 _ _ i j t u v v') ?_
  rw [from_nat (k := pre.length + a) (by rw [hi]; omega), from_nat (k := pre.length + b) (by rw [hj]; omega), ofL_length, Nat.min_eq_left hb]
  obtain ⟨r, hr⟩ := occ_here (x := ofL x) (y := ofL [c]) (lo := pre.length + a) (hi := pre.length + b) ⟨by show pre.length + a + 1 ≤ _; omega, by
    rw [StrLaws.subAt_eq]
    show ((x.drop (pre.length + a)).take 1 == [c]) = true
    rw [hx, ← List.drop_drop, List.drop_left]
    have : rest.drop a = c :: rest.drop (a + 1) := by
      obtain ⟨h1, h2⟩ := List.getElem?_eq_some_iff.mp hc
      rw [List.drop_eq_getElem_cons h1, h2]
    rw [this]; simp⟩ (by omega)
  rw [hr]
  show Q (.int ((pre.length + a : Nat) : Int) _) _
  have : i = ((pre.length + a : Nat) : Int) := by rw [hi]; omega
  rw [← this]; exact h
theorem find_past (a b : Nat) (e : X = ofL x) (hx : x = pre ++ rest) (hi : i = pre.length + a) (hj : j = pre.length + b) (hb : pre.length + b ≤ x.length) (hab : b < a)
    (h : Q (.int (-1) s.toks) { s with toks := s.toks + 1 }) : wpAny (model prog w) A (call (.builtin "str.find") [.str X t, .str Y u, .int i v, .int j v']) Q E s := by
  subst e
  refine call_gives PySem.F.slot_str_find (typeIs_str _ _ _) PySem.F.entry_str_find (PySem.F.args_str_find_4 _ _ _ _) (gives_find4 _ _ i j t u v v') ?_
  rw [from_nat (k := pre.length + a) (by rw [hi]; omega), from_nat (k := pre.length + b) (by rw [hj]; omega), ofL_length, Nat.min_eq_left hb, occ_past (by omega)]
  exact h
end
end

-- f2
theorem kwl26 : True := by
  k_with "call builtin:str.find!" => ((k_here; first
  | (refine' find_here 3 8 ?hqe1 ?hqe2 ?hqhx ?hqhi ?hqhj ?hqhb ?hqhab ?hqhc ?_; (case hqe1 => walk_at "my lit"); (case hqe2 => walk_at "my lit"); (case hqhx => with_reducible assumption); (case hqhi => omega); (case hqhj => omega); (case hqhb => omega); (case hqhab => decide); (case hqhc => exact rfl))
  | (refine' find_here 6 8 ?hqe1 ?hqe2 ?hqhx ?hqhi ?hqhj ?hqhb ?hqhab ?hqhc ?_; (case hqe1 => walk_at "my lit"); (case hqe2 => walk_at "my lit"); (case hqhx => with_reducible assumption); (case hqhi => omega); (case hqhj => omega); (case hqhb => omega); (case hqhab => decide); (case hqhc => exact rfl))
  | (refine' find_past 9 8 ?hqe1 ?hqhx ?hqhi ?hqhj ?hqhb ?hqhab ?_; (case hqe1 => walk_at "my lit"); (case hqhx => with_reducible assumption); (case hqhi => omega); (case hqhj => omega); (case hqhb => omega); (case hqhab => decide))))
  trivial
theorem Hd.sameBut2 {hd : Option Value} {h h' : Heap} {it : Addr} {o : Obj} {vs : Array Value} (x : Hd hd h) (ho : h.get? it = some o) (hdt : o.data = .fields vs) (hv : vs[2]? ≠ some Value.none) (hs : Heap.SameBut it h h') : Hd hd h' := fun v e => by
  obtain ⟨a, b, oe, ve, h1, h2, h3⟩ := x v e
  refine ⟨a, b, oe, ve, (hs.2 a fun q => ?_).trans h1, h2, h3⟩
  subst q
  rw [ho] at h1
  cases h1
  rw [hdt] at h2
  cases h2
  exact hv h3
section
variable {prog : Program} {w : World} {A : Around} {E : Value → Shared → Prop} {s : Shared} {env : Env} {h₀ : Heap} {x : PySem.Str} {body : List Stmt} {Q : Flow → Shared → Prop}
theorem walks_rangeH (I : Addr) (a c : Int) (n : Nat) :
    Walks prog w A I (I :: exA A.handled) [I] n (fun i v => ∃ t, v = .int (a + i * c) t) (fun i h => IsRangeIter h I (a + (i : Nat) * c) ((n : Int) - (i : Nat)) c ∧ Hd A.handled h) where
  sub := fun b hb => by rw [List.mem_singleton.mp hb]; exact .head _
  frame := fun _ _ _ st hk => ⟨hk I (by simp) _ st.1, st.2.kept fun b hb o e => hk b (.tail _ hb) o e⟩
  item := fun i s Q E hi st hQ => by
    refine wpAny_pyNext_range_item st.1 (by omega) fun h' hit' hs' => ?_
    refine hQ _ h' _ ⟨_, rfl⟩ ⟨?_, st.2.sameBut2 st.1 rfl (by intro q; cases q) hs'⟩ fun b o hb e => hs'.extBut b o (fun h => hb (by simp [h])) e
    have e1 : a + ((i + 1 : Nat) : Int) * c = a + (i : Int) * c + c := by push_cast; rw [Int.add_mul, Int.one_mul, Int.add_assoc]
    have e2 : (n : Int) - ((i + 1 : Nat) : Int) = (n : Int) - (i : Int) - 1 := by push_cast; omega
    rw [e1, e2]; exact hit'
  done := fun s Q E st hQ => next_range_endH st.2 st.1 (by omega) fun h' he' => hQ h' s.toks fun b o hb e => he' b o (fun h => hb (by simp [h])) e
  self := fun _ _ _ _ st hQ => wpAny_pyIter_rangeiter st.1 hQ
theorem for_rangeH {r : Addr} {a b c : Int} {t u v : Tok} {n : Nat} {m₀ : PySem.Str → Option Value} {news : List (Addr × Obj)}
    (hh : Hd A.handled h₀) (F : Fr h₀ env.locals s.heap m₀) (N : News h₀ env.locals s.heap news) (hr : IsRange s.heap r a b c t u v) (hsm : Builtin.Range.small a b c = true) (hn : Builtin.Range.rangeSize a b c = (n : Int))
    (turn : ∀ (i : Nat) t h tk own, i < n → OwnOff own (news.map (·.1)) → Fr h₀ env.locals h (fun y => if y = x then some (.int (a + i * c) t) else m₀ y) → News h₀ env.locals h (news ++ own) →
      wpAny (model prog w) A (execs body env) (InvPostN h₀ env.locals (KstS (fun _ : Unit => news) (fun _ => []) (fun _ => True) x [] m₀ (fun _ _ => True) []) own (news.map (·.1)) { s with heap := h, toks := tk } Q) E { s with heap := h, toks := tk })
    (done : ∀ (u : PySem.Str → Option Value) h tk, Fr h₀ env.locals h (fun y => if y = x then u y else m₀ y) → News h₀ env.locals h news → Q .next { s with heap := h, toks := tk }) :
    wpAny (model prog w) A (pyIter (.ref r)) (fun it s₂ => LoopAtV prog w A h₀ env x body Q E it s₂) E s := by
  have hL : ∀ b ∈ exA A.handled, b < h₀.objs.size := fun b hb => let ⟨o, ho⟩ := hh.mem hb; Heap.lt_size ho
  have key : ∀ {m₁ : PySem.Str → Option Value} {nx : List (Addr × Obj)}, KstS (fun _ : Unit => news) (fun _ => []) (fun _ => True) x [] m₀ (fun _ _ => True) [] m₁ nx → nx = news ∧ ∀ z, z ≠ x → m₁ z = m₀ z := fun ⟨_, e, _, _, h, _⟩ => ⟨e, fun z hz => h z hz (fun _ q => nomatch q) rfl⟩
  refine wpAny_pyIter_range hr hsm ?_
  rw [hn]
  refine loop_invN (fun _ m nx => KstS (fun _ : Unit => news) (fun _ => []) (fun _ => True) x [] m₀ (fun _ _ => True) [] m nx) (walks_rangeH s.heap.objs.size a c n) ?_ ?_ ?_ ?_ ⟨?_, ?_⟩ (F.push _) (fun p hp => ⟨Heap.get?_push_of_some _ (N p hp).1, (N p hp).2⟩) ⟨(), rfl, trivial, (fun _ q => nomatch q), fun _ _ _ _ => rfl, trivial⟩ ?_ ?_
  · intro hm
    rcases List.mem_cons.mp hm with e | hm
    · exact absurd F.ns.lt (e ▸ Nat.lt_irrefl _)
    · exact absurd (hL _ hm) (Nat.not_lt.mpr F.above)
  · intro b' hb
    rw [List.mem_singleton.mp hb]
    exact next_is_new F
  · intro p hp hI
    exact absurd (Heap.lt_size (N p hp).1) ((List.mem_singleton.mp hI) ▸ Nat.lt_irrefl _)
  · intro p hp hI
    rcases List.mem_cons.mp hI with e | hI
    · exact absurd (Heap.lt_size (N p hp).1) (e ▸ Nat.lt_irrefl _)
    · obtain ⟨o, ho⟩ := hh.mem hI
      rw [(N p hp).2.2] at ho
      cases ho
  · have e1 : a + ((0 : Nat) : Int) * c = a := by simp
    have e2 : (n : Int) - ((0 : Nat) : Int) = n := by simp
    rw [e1, e2]; exact Heap.get?_push_size _ rfl
  · exact hh.keeps fun b o e => Heap.get?_push_of_some _ (F.keep b o e)
  · rintro i v m₁ nx h tk own hi ⟨t, rfl⟩ _ hoff hJ F₁ N₁
    obtain ⟨rfl, hm⟩ := key hJ
    refine turn i t h tk own hi hoff ?_ N₁
    have : (fun y => if y = x then some (Value.int (a + i * c) t) else m₁ y) = fun y => if y = x then some (Value.int (a + i * c) t) else m₀ y := by
      funext y
      by_cases hy : y = x
      · simp [hy]
      · simp [hy, hm y hy]
    rw [← this]; exact F₁
  · rintro m₁ nx h tk hJ F₁ N₁
    obtain ⟨rfl, hm⟩ := key hJ
    refine done m₁ h tk ?_ N₁
    have : m₁ = fun y => if y = x then m₁ y else m₀ y := by
      funext y
      by_cases hy : y = x
      · simp [hy]
      · simp [hy, hm y hy]
    rw [← this]; exact F₁
end

-- al2

theorem kwl27 : True := by
  k_with "subscriptTail Name Name ref int!" => (walk_at "subscriptTail")
  k_with "subscriptTail Name BinOp ref int!" => (walk_at "subscriptTail")
  trivial
section

-- f3
theorem s_gt {prog : Program} {w : World} {A : Around} {E : Value → Shared → Prop} {s : Shared} {X Y : PySem.Str} {x y : List Nat} {t u : Tok} {Q : Value → Shared → Prop} (e : X = ofL x) (e' : Y = ofL y) (hb : decide (y < x) = false) (h : Q (.bool false) s) :
    wpAny (model prog w) A (compareOp .Gt (.str X t) (.str Y u)) Q E s := by
  subst e e'
  refine P.gt_str ?_
  show Q (.bool (decide (y < x))) s
  rw [hb]; exact h
theorem kwl28 : True := by
  k_with "compareOp Gt str str!" => ((k_here; k_dflt (refine' s_gt ?hqe1 ?hqe2 ?hqhb ?_; (case hqe1 => walk_at "my lit"); (case hqe2 => walk_at "my lit"); (case hqhb => decide); k_whole)))
  trivial
theorem Fr.ground {h : Heap} {L : Addr} {m : PySem.Str → Option Value} (n : h.Ns L m) : Fr {} L h m :=
  ⟨n, fun b o e => by
    unfold Heap.get? at e
    simp at e, Nat.zero_le _⟩
theorem keeps_toks {s : Shared} {k : Nat} : Keeps s { s with toks := k } := ⟨s.heap, k, rfl, fun _ _ e => e⟩
abbrev chunk3 : List PySem.Str := [ofL [33, 0], ofL [60, 62], ofL [1114111]]
theorem chunk3_join : Txt.join (PySem.Str.ofString "-") chunk3 = ofL [33, 0, 45, 60, 62, 45, 1114111] := by decide +kernel
theorem chunk3_ok : JoinOk (PySem.Str.ofString "-") chunk3 = true := by decide +kernel
theorem joinBar {prog : Program} {w : World} {A : Around} {E : Value → Shared → Prop} {s : Shared} {h₀ : Heap} {L : Addr} {m : PySem.Str → Option Value} {news : List (Addr × Obj)} {hd : Option Value} {a : Addr} {lo : Nat} {t : Tok} {Q : Value → Shared → Prop} (hA : A.handled = hd) (hroom : A.depth < recursionLimit) (F : Fr h₀ L s.heap m) (N : News h₀ L s.heap news)
    (X : GenHere prog w hd a 3 (fun i v => ∃ t, v = .str (chunk3.getD i "") t) lo s) (hn : ∀ q ∈ news, q.1 < lo) (hL : L < lo) (h0 : h₀.objs.size ≤ lo)
    (h : ∀ h' t' k gs, (AllBare s.gens → AllBare gs) → Fr h₀ L h' m → News h₀ L h' news → Q (.str (ofL [33, 0, 45, 60, 62, 45, 1114111]) t') { s with heap := h', toks := k, gens := gs }) :
    wpAny (model prog w) A (call (.builtin "str.join") [.str (PySem.Str.ofString "-") t, .ref a]) Q E s :=
  joinGenK (ys := chunk3) hA hroom F N X hn hL h0 chunk3_ok (by decide) fun h' t' k gs g F' N' => by rw [chunk3_join]; exact h h' t' k gs g F' N'

-- f4

-- t4h
theorem kwl29 : True := by
  k_with "eval Name!" => (((with_reducible show wpAny _ _ (eval (Expr.Name _ _) (genEnv _ _ _ _ _ _)) _ _ _); (rename Fr _ _ _ _ => F'); (k_dflt (refine' ldVarG F' ?hqhv ?_ ?hqhk ?hqhl ?hqhd; (case hqhv => with_reducible assumption); (case hqhk => exact rfl); (case hqhl => exact rfl); (case hqhd => decide)))))
  trivial
theorem hd_facts {c : Nat} (h2 : (c = 42 ∨ c = 63 ∨ c = 91) ∨ c ∈ BLl) : c ≠ 33 ∧ c ≠ 93 ∧ c ≠ 45 ∧ c ≠ 92 ∧ c ≠ 94 ∧ c ≠ 38 ∧ c ≠ 124 ∧ c ≠ 126 := by
  have k1 : ∀ c ∈ [42, 63, 91] ++ BLl, c ≠ 33 ∧ c ≠ 93 ∧ c ≠ 45 ∧ c ≠ 92 ∧ c ≠ 94 ∧ c ≠ 38 ∧ c ≠ 124 ∧ c ≠ 126 := by decide +kernel
  exact k1 c (h2.elim (fun h => List.mem_append_left _ (by simpa using h)) (fun h => List.mem_append_right _ h))
theorem con_trans (w : World) (hd : Option Value) (news : List (Addr × Obj)) (ps₀ : Array Value) (b : Bool) (y : List Nat) (t t' : Tok) (q : PySem.Str) (S : Addr) (hy : y.length ≤ 40000) (h64 : ∀ p ∈ news, p.1 ≠ 64) (hps : TabOk ps₀) :
    ConG w hd 69 6 ((64, tabObj ps₀) :: news) [.str (ofL (quo b y)) t, .ref S, .str q t'] (fun v n => ∃ r vs k ps, n = (r, listOf vs.toArray k) :: (64, tabObj ps) :: news ∧ TabOk ps ∧ v = .ref r ∧ StrsAre vs ((y.map (tCh b)).map ofL)) := by
  have hq := quo_len b y
  walk_at "my openG"
  intro p loose mean mg mb dp un gd env outer A₀ base h₀ L m s Q E B F X N T H he hk hdp hun hret
  k_call_by "enterH" [("pat", .str (ofL (quo b y)) t), ("STAR", .ref S), ("QUESTION_MARK", .str q t')]
  have CH := codeHd_of_K (c := 68) (P := 64) (by assumption) (by kernel_rfl)
  k_with "exec While Compare" => (
    k_here
    (rename Fr _ _ _ _ => lF'); (rename News _ _ _ _ => lN')
    (with_unfolding_all refine' kg_while (σ := List Nat × List Value × Array Value × Tok) (fun a l c => (a, appObj l) :: (l, listOf c.2.1.toArray c.1.length) :: (64, tabObj c.2.2.1) :: news) (fun c => [("i", .int ((quo b c.1).length : Nat) c.2.2.2)]) ["c", "j", "stuff", "chunks", "k", "chunk"] (fun c => (∃ post, y = c.1 ++ post) ∧ StrsAre c.2.1 ((c.1.map (tCh b)).map ofL) ∧ TabOk c.2.2.1) (fun c => y.length - c.1.length) ([], [], ps₀, _) lF' (news_drop1 lN') ?kn ?kk ?kp ?kt)
    (case kn => exact fun _ h => h)
    (case kk => kst_all)
    (case kp => exact ⟨⟨y, rfl⟩, .nil, hps⟩)
    (case' kt =>
      rintro ⟨pre, vs, ps, ti⟩ u h tk gs hgs ⟨⟨post, hyp⟩, hv, hps'⟩ F1 N1
      dsimp only at hyp hv hps' F1 N1
      clear lF' lN'
      refine kg_hide fun K9 hK9 => ?_
      dsimp only
      (try k_fold)))
  k_with "call ref" => ((k_call_by "conH" (con_escape w hd _ _ _)); intro v9 n9 h9 tk9 F9 N9 r9; obtain ⟨rfl, t9, rfl⟩ := r9; (try dsimp only); (try k_fold))
  k_steps
  · rcases post with _ | ⟨c, post⟩
    · exfalso
      subst hyp
      simp at *
    have hvl : vs.length = pre.length := by simpa using strsAre_len hv
    have hpl : pre.length + 1 ≤ 40000 := by have := congrArg List.length hyp; simp only [List.length_append, List.length_cons] at this; omega
    have hx : quo b y = quo b pre ++ (qCh b c ++ quo b post) := by rw [hyp]; simp [quo]
    by_cases h1 : c = 61 ∧ b = true
    · have hcc : qCh b c = [91, 33, 0, 45, 60, 62, 45, 1114111, 93] := by unfold qCh; rw [if_pos h1]; rfl
      rw [hcc] at hx
      have hlen : (quo b y).length = (quo b pre).length + (9 + (quo b post).length) := by rw [hx]; simp only [List.length_append, List.length_cons, List.length_nil]
      have hcq : quo b (pre ++ [c]) = quo b pre ++ [91, 33, 0, 45, 60, 62, 45, 1114111, 93] := by rw [quo_snoc, hcc]
      have hi9 : ((quo b pre).length : Int) + 1 + 1 + 1 + 1 + 1 + 1 + 1 + 1 + 1 = ((quo b (pre ++ [c])).length : Nat) := by rw [hcq, List.length_append]; simp only [List.length_cons, List.length_nil]; omega
      have ht9 : tCh b c = [91, 94, 0, 45, 60, 62, 45, 1114111, 93] := by unfold tCh; rw [if_pos h1]
      have hflb : fails [33, 0, 45, 60, 62, 45, 1114111] = true := fails_bar
      have hsl1 : Txt.slice (ofL [33, 0, 45, 60, 62, 45, 1114111]) (some 1) none = ofL [0, 45, 60, 62, 45, 1114111] := by rw [slice_ofL]; rfl
      k_with "exec While BoolOp" => (k_here; k_dflt (refine whl_start 20 ?_))
      k_with "exec While Constant" => (k_here; k_dflt (refine whl_start 20 ?_))
      k_with "pyIter ref" => (
        (rename Fr _ _ _ _ => lF'); (rename News _ _ _ _ => lN'); (rename IsRange _ _ _ _ _ _ _ _ => lR')
        (with_unfolding_all refine' for_rangeH (n := 2) ?rh lF' lN' lR' ?rs ?rn ?rt ?rd)
        (case rh => assumption); (case rs => decide +kernel); (case rn => decide +kernel)
        (case' rt =>
          intro i t h tk own hi hoff F1 N1
          clear lF' lN' lR'
          refine wpAny_hide fun Q8 hQ8 => ?_
          have hi2 : i = 0 ∨ i = 1 := by omega
          rcases hi2 with rfl | rfl
          all_goals (try dsimp only)
          all_goals (try k_fold))
        (case' rd =>
          intro u h tk F1 N1
          clear lF' lN' lR'
          (try dsimp only)
          (try k_fold)))
      k_with "eval GeneratorExp" => (
        (rename Fr _ _ _ _ => lF')
        (k_dflt (refine' genexpK (hd := hd) (Fv := fun i v => ∃ t, v = .str (chunk3.getD i "") t) ?hA ?hHd ?F ?N ?T ?C ?cd ?gl ?U ?t ?D ?co ?clos ?cell ?h0 ?hx ?kind ?room ?iter ?elt ?_ ?hs; (case iter => (intro _ h9; (k_dflt (refine' ld ?k1 ?k2 ?_; (case k1 => k_asm); (case k2 => exact rfl))); exact h9)); (case hA => exact rfl); (case hHd => assumption); (case F => k_asm); (case N => k_asm); (case T => k_asm); (case C => exact CH); (case cd => exact rfl); (case gl => exact rfl); (case U => k_updF); (case t => with_reducible assumption); (case D => k_mem); (case co => exact rfl); (case clos => exact rfl); (case cell => decide); (case h0 => exact rfl); (case hx => exact rfl); (case kind => exact rfl); (case room => walk_at "my room"); (case hs => (intro _; with_unfolding_all rfl))))
        (case' elt =>
          intro C9 code9 A9 E9 i9 v9 s9 m9 hP9 hn9 hx9
          have FF9 := Fr.ground hn9
          rcases i9 with _ | _ | _ | i9
          all_goals (try (simp at hP9; done))
          all_goals (simp only [List.getElem?_toArray, List.getElem?_cons_zero, List.getElem?_cons_succ, Option.some.injEq] at hP9; subst hP9; (try k_fold)))
        (any_goals (intro a9 ps9 h9 tk9 gs9 hT9 hg9 X9 F9 N9 hn9 hl9 h09; (try dsimp only); (try k_fold))))
      k_with "call builtin:str.join" => (k_here; refine' joinBar ?ja ?jr ?jF ?jN ?jX ?jn ?jL ?j0 ?jh; (case ja => exact rfl); (case jX => exact X9); (case jr => walk_at "my room"); (case jF => exact F9); (case jN => exact N9); (case jn => exact hn9); (case jL => exact hl9); (case j0 => exact h09); (intro h8 t8 k8 gs8 hg8 F8 N8); (try dsimp only); (try k_fold))
      k_steps
      · exact keeps_toks
      · exact keeps_toks
      · exact keeps_toks
      · (rename News _ _ _ _ => nE'); (rename Fr _ _ _ _ => fE')
        rw [hi9] at fE'
        rw [List.push_toArray] at nE'
        refine hK9 _ _ ?_; dsimp only [KgPost]; refine (kg_end (pre ++ [c], vs ++ [_], _, _) (fun q => hg8 (hg9 (hgs q))) fE' (news_drop1 (news_drop1 nE')) (by rw [List.length_append]; exact fun _ h => h) (by kst_all) (by walk_at "my samew") ⟨⟨post, by rw [hyp]; simp⟩, ?_, by assumption⟩ (by show y.length - (pre ++ [c]).length < y.length - pre.length; rw [hyp]; simp only [List.length_append, List.length_cons, List.length_nil]; omega))
        rw [List.map_append, List.map_append]
        show StrsAre _ (_ ++ [ofL (tCh b c)])
        rw [ht9]
        exact hv.append' (.cons _ _ .nil)
      all_goals (
        (rename News _ _ _ _ => nE'); (rename Fr _ _ _ _ => fE')
        refine hQ8 _ _ ?_; dsimp only [InvPostN]; exact (kst_end () fE' nE' (by first | kst_in | kst_inAny | exact fun p hp => List.mem_append_left _ hp) (by first | (intro p hp; kst_mem) | kst_anyIn | exact fun p hp => List.mem_append_right _ hp) (by rfl) trivial (by kst_all) (by walk_at "my same") trivial))
    k_with_none
    k_with "my room!" => ((
  (try simp only [depth_under_make, depth_under_kw, depth_in1, depth_deeper, depth_caller, units_in1, units_deeper, Around.mark_units, units_caller]); (try dsimp only); omega))
    k_with "my open!" => ((refine con_row ?_; unfold Con; k_fill; intro _))
    k_with "my same!" => ((
  intro z z1 z2 z3
  simp only [List.forall_mem_cons, List.not_mem_nil, false_implies, implies_true, and_true, ne_eq] at z2
  simp only [List.contains_cons, List.contains_nil, Bool.or_false, Bool.or_eq_false_iff, beq_eq_false_iff_ne, ne_eq] at z3
  first | (simp [kstB, z1, z2, z3]; done) | (simp [kstB, z1, z2]; done) | fail "my same"))
    k_with "InvEndN!" => ((refine Held.out ?_))
    k_with "KgEnd!" => ((refine Held.out ?_))
    k_with "KswEnd!" => ((refine Held.out ?_))
    k_with "storeName!" => (((first | (with_reducible refine tok_vs fun k => ?_) | (with_reducible refine tok_vi fun k => ?_)); walk_at "storeName"))
    k_with "storeName!" => (((with_reducible refine tok_st fun k => ?_); walk_at "storeName"))
    k_with "call ref!" => ((k_here; (with_reducible show wpAny _ _ (call (Value.ref 220) _) _ _ _); k_call_by "con" (con_blanks _ _ _); intro v9 n9 h9 tk9 F9 N9 r9; obtain ⟨e9, t9, e8⟩ := r9; subst e9 e8; (try dsimp only); (try k_fold)))
    k_with "my inv!" => (((rename News _ _ _ _ => nE'); (try simp only [List.push_toArray] at nE')))
    k_with "subscriptTail!" => ((k_here; (with_reducible show wpAny _ _ (subscriptTail _ _ (Value.ref _) (Value.int _ _)) _ _ _); k_dflt (refine' item_at ?hqk1 ?hqk2 ?hqk3 ?hqk4 ?hqk5 ?_ ?hqk6; (case hqk1 => k_asm); (case hqk2 => k_mem); (case hqk3 => decide); (case hqk4 => decide); (case hqk5 => exact rfl); (case hqk6 => with_unfolding_all rfl); k_whole)))
    k_with "my lit!" => (first
  | with_reducible exact rfl | with_reducible exact l_empty | with_reducible exact l_eq | with_reducible exact l_star | with_reducible exact l_quest | with_reducible exact l_lb | with_reducible exact l_rb | with_reducible exact l_bang | with_reducible exact l_dash
  | with_reducible exact l_hat | with_reducible exact l_bs | with_reducible exact l_bslb | with_reducible exact l_bsbs | with_reducible exact l_bsdash | with_reducible exact l_bar7 | with_reducible exact l_dot | with_reducible exact l_wrap | with_reducible exact l_pre | with_reducible exact l_suf | with_reducible assumption | fail "my lit")
    k_with "my size!" => (first | (simp only [List.length_append, List.length_cons, List.length_nil]; omega) | omega | fail "my size")
    k_with "my cut!" => (first
  | (exfalso; (first | contradiction | omega | (simp at *; done) | (simp_all; done)); done)
  | skip)
    k_with "compareOp Eq str str!" => ((k_here; k_dflt (refine' s_eq_ ?hqe1 ?hqe2 ?_ ?_; (case hqe1 => walk_at "my lit"); (case hqe2 => walk_at "my lit"); k_whole); all_goals (intro hE9; first | (exfalso; revert hE9; first | decide | (simp; done) | (simp; omega) | (intro h9; exact absurd h9 (by with_reducible assumption)) | (intro h9; exact absurd (by with_reducible assumption) h9)) | ((try simp only [List.cons.injEq, and_true] at hE9); (try dsimp only)))))
    k_with "compareOp NotEq str str!" => ((k_here; k_dflt (refine' s_ne_ ?hqe1 ?hqe2 ?_ ?_; (case hqe1 => walk_at "my lit"); (case hqe2 => walk_at "my lit"); k_whole); all_goals (intro hE9; first | (exfalso; revert hE9; first | decide | (simp; done) | (simp; omega) | (intro h9; exact absurd h9 (by with_reducible assumption)) | (intro h9; exact absurd (by with_reducible assumption) h9)) | ((try simp only [List.cons.injEq, and_true] at hE9); (try dsimp only)))))
    k_with "compareOp In str str!" => ((k_here; k_dflt (refine' s_in ?hqe1 ?hqe2 ?_ ?_; (case hqe1 => walk_at "my lit"); (case hqe2 => walk_at "my lit"); k_whole); all_goals (intro hE9; first | (exfalso; revert hE9; first | decide | (simp; done) | (simp; omega) | (intro h9; exact absurd h9 (by with_reducible assumption)) | (intro h9; exact absurd (by with_reducible assumption) h9)) | (try dsimp only))))
    k_with "compareOp NotIn str str!" => ((k_here; k_dflt (refine' s_notin ?hqe1 ?hqe2 ?_ ?_; (case hqe1 => walk_at "my lit"); (case hqe2 => walk_at "my lit"); k_whole); all_goals (intro hE9; first | (exfalso; revert hE9; first | decide | (simp; done) | (simp; omega) | (intro h9; exact absurd h9 (by with_reducible assumption)) | (intro h9; exact absurd (by with_reducible assumption) h9)) | (try dsimp only))))
    k_with "binaryOp Add str str!" => ((k_here; k_dflt (refine' s_add ?hqe1 ?hqe2 ?hqz ?_; (case hqe1 => walk_at "my lit"); (case hqe2 => walk_at "my lit"); (case hqz => walk_at "my size"); k_whole); intro _ _; (try dsimp only [List.cons_append, List.nil_append])))
    k_with "inplaceOp Add str str!" => ((k_here; k_dflt (refine' s_iadd ?hqe1 ?hqe2 ?hqz ?_; (case hqe1 => walk_at "my lit"); (case hqe2 => walk_at "my lit"); (case hqz => walk_at "my size"); k_whole); intro _ _; (try dsimp only [List.cons_append, List.nil_append])))
    k_with "call builtin:len!" => ((k_here; (with_reducible show wpAny _ _ (call (Value.builtin "len") [Value.str _ _]) _ _ _); k_dflt (refine' s_len ?hqe1 ?hqz ?hqn ?_; (case hqe1 => walk_at "my lit"); (case hqz => walk_at "my size"); (case hqn => first | with_reducible assumption | (simp only [List.length_cons, List.length_nil, Nat.reduceAdd]; exact rfl) | exact rfl); k_whole)))
    k_with "call builtin:ord!" => ((k_here; k_dflt (refine' s_ord ?hqe1 ?_; (case hqe1 => walk_at "my lit"); k_whole)))
    k_with "subscriptTail!" => ((k_here; (with_reducible show wpAny _ _ (subscriptTail _ _ (Value.str _ _) (Value.int _ _)) _ _ _); k_dflt (refine' s_item ?hqe1 ?hqz ?hqc ?_ ?hqs ?hqt; (case hqe1 => walk_at "my lit"); (case hqz => walk_at "my size"); (case hqc => first | with_reducible assumption | exact rfl); (case hqs => with_unfolding_all rfl); (case hqt => (intro _; with_unfolding_all rfl)); k_whole)))
    k_with "subscriptTail!" => ((k_here; (with_reducible show wpAny _ _ (subscriptTail _ (Expr.Slice (some _) (some _) none _) (Value.str _ _) (Value.ref _)) _ _ _); k_dflt (refine' s_slice_ss (s := ⟨_, _, _, _, _⟩) ?hqe1 ?hqF ?hqN ?hqc ?hqz ?_ ?hqs ?hqt; (case hqe1 => walk_at "my lit"); (case hqF => k_asm); (case hqN => k_asm); (case hqc => with_reducible assumption); (case hqz => walk_at "my size"); (case hqs => with_unfolding_all rfl); (case hqt => (intro _; with_unfolding_all rfl)); k_whole); intro _ _ _ _ _; (try k_sweep)))
    k_with "subscriptTail!" => ((k_here; (with_reducible show wpAny _ _ (subscriptTail _ (Expr.Slice (some _) none none _) (Value.str _ _) (Value.ref _)) _ _ _); k_dflt (refine' s_slice_sn (s := ⟨_, _, _, _, _⟩) ?hqe1 ?hqF ?hqN ?hqc ?hqz ?_ ?hqs ?hqt; (case hqe1 => walk_at "my lit"); (case hqF => k_asm); (case hqN => k_asm); (case hqc => with_reducible assumption); (case hqz => walk_at "my size"); (case hqs => with_unfolding_all rfl); (case hqt => (intro _; with_unfolding_all rfl)); k_whole); intro _ _ _ _ _; (try k_sweep)))
    k_with "subscriptTail!" => ((k_here; (with_reducible show wpAny _ _ (subscriptTail _ (Expr.Slice none (some _) none _) (Value.str _ _) (Value.ref _)) _ _ _); k_dflt (refine' s_slice_ns (s := ⟨_, _, _, _, _⟩) ?hqe1 ?hqF ?hqN ?hqc ?hqz ?_ ?hqs ?hqt; (case hqe1 => walk_at "my lit"); (case hqF => k_asm); (case hqN => k_asm); (case hqc => with_reducible assumption); (case hqz => walk_at "my size"); (case hqs => with_unfolding_all rfl); (case hqt => (intro _; with_unfolding_all rfl)); k_whole); intro _ _ _ _ _; (try k_sweep)))
    k_with "subscriptTail Name Slice str ref!" => (walk_at "subscriptTail")
    k_with "subscriptTail Name Constant str int!" => (walk_at "subscriptTail")
    k_with "subscriptTail Name Name str int!" => (walk_at "subscriptTail")
    k_with "subscriptTail Name UnaryOp str int!" => (walk_at "subscriptTail")
    k_with "my openH!" => ((refine con_row ?_; unfold ConH; k_fill; intro _))
    k_with "my hd!" => ((with_reducible first | exact HdC.none | assumption | (refine' HdC.here ?hqq1 ?hqq2 ?hqq3; (case hqq2 => assumption); (case hqq3 => assumption); (case hqq1 => assumption))))
    k_with "getMethod str!" => ((k_here; (with_reducible refine m_tr ?_)))
    k_with "call builtin:str.translate!" => ((k_here; k_dflt (refine' call_trK ?hqk1 ?hqk2 ?hqk3 ?hqk4 ?_; (case hqk1 => k_asm); (case hqk2 => k_asm); (case hqk3 => k_asm); (case hqk4 => assumption); intro t' h' k' F' N'; (try k_sweep))))
    k_with "call type:object!" => ((k_here; k_dflt (refine' call_objK ?hqk1 ?hqk2 ?_; (case hqk1 => k_asm); (case hqk2 => k_asm); k_whole); intro a' h' tk' F' N' l1; (try k_lt l1); (try k_sweep)))
    k_with "getAttr ref!" => ((k_here; k_dflt (refine' getAttr_appK ?hqk1 ?hqk2 ?hqk3 ?_; (case hqk1 => k_asm); (case hqk2 => k_asm); (case hqk3 => k_mem); k_whole); intro a' h' tk' F' N' l1; (try k_lt l1); (try k_sweep)))
    k_with "call ref!" => ((k_here; k_dflt (refine' call_boundK ?hqk1 ?hqk2 ?hqkb ?hqk3 ?_ ?hqz; (case hqk1 => k_asm); (case hqk2 => k_asm); (case hqkb => k_mem); (case hqk3 => k_upd); (case hqz => size_fits); k_whole); intro h' F' N'; (try k_sweep)))
    k_with "unpackItems ref!" => ((k_here; (with_reducible show wpAny _ _ (unpackItems (Value.ref _) _ none) _ _ _); k_dflt (refine' unpackK ?hqk1 ?hqk2 ?hqkh ?hqk3 ?hqk4 ?_; (case hqk1 => k_asm); (case hqk2 => k_asm); (case hqkh => assumption); (case hqk3 => k_mem); (case hqk4 => exact rfl); k_whole); intro h' F' N'; (try k_sweep)))
    k_with "subscriptTail!" => ((k_here; (with_reducible show wpAny _ _ (subscriptTail _ _ (Value.ref _) (Value.int _ _)) _ _ _); k_dflt (refine' item_at ?hqk1 ?hqk2 ?hqk3 ?hqk4 ?hqk5 ?_ ?hqk6; (case hqk1 => k_asm); (case hqk2 => k_mem); (case hqk3 => omega); (case hqk4 => omega); (case hqk5 => with_reducible assumption); (case hqk6 => with_unfolding_all rfl); k_whole)))
    k_with "WhlIf!" => ((first | (refine WhlIf.yes (decide_eq_true (by assumption)) ?_) | (refine WhlIf.no (decide_eq_false (by assumption)) ?_)))
    k_with "call builtin:str.join!" => ((k_here; (with_reducible show wpAny _ _ (call (Value.builtin _) [Value.str _ _, Value.ref _]) _ _ _); k_dflt (refine' join_listK ?hqk1 ?hqk2 ?hqk3 ?hqk4 ?hqk5 ?_; (case hqk1 => k_asm); (case hqk2 => k_mem); (case hqk3 => with_reducible assumption); (case hqk4 => decide +kernel); (case hqk5 => with_reducible assumption); k_whole); intro _ _))
    k_with "compareOp IsNot!" => ((k_here; (with_reducible show wpAny _ _ (compareOp CmpOp.IsNot (Value.str _ _) (Value.ref _)) _ _ _); refine wpAny_isNot_other (by rfl) (by intro x; cases x) ?_))
    k_with "callWith ref!" => ((k_here; (with_reducible show wpAny _ _ (callWith _ (Value.ref _) _ (backTo _ (starEach (_ :: _) _)) []) _ _ _); k_dflt (refine' callWith_app ?hqkfbN ?hqkfbM ?_; (case hqkfbN => k_asm); (case hqkfbM => k_mem); k_whole)))
    k_with "And!" => (((with_reducible show BAt _ _ _ ∧ _); refine ⟨bat_of (by assumption) (by k_mem), ?_⟩))
    k_with "my cat!" => (first | with_reducible exact empty_ofL | walk_at "my lit" | ((with_reducible apply cat_ofL); (focus walk_at "my cat"); (focus walk_at "my cat")))
    k_with "formatField str!" => ((k_here; k_dflt (refine' fieldK ?hqe1 ?hqz ?_; (case hqe1 => walk_at "my lit"); (case hqz => walk_at "my size"); k_whole); intro _ _))
    k_with "joinParts!" => ((k_here; (first | (with_reducible show wpAny _ _ (joinParts _ []) _ _ _) | (with_reducible show wpAny _ _ (joinParts _ (evalEach [] _)) _ _ _)); k_dflt (refine' jp_nil ?hqe1 ?hqz ?_; (case hqe1 => walk_at "my cat"); (case hqz => walk_at "my size"); k_whole)))
    k_with "le!" => ((k_here; (with_reducible show PySem.Str.length (_ ++ _) ≤ sizeLine); (refine' le_cat ?hqe1 ?hqe2 ?hqz; (case hqe1 => walk_at "my cat"); (case hqe2 => walk_at "my cat"); (case hqz => walk_at "my size"))))
    k_with "call builtin:str.join!" => ((k_here; (with_reducible show wpAny _ _ (call (Value.builtin _) [Value.str _ _, Value.ref _]) _ _ _); k_dflt (refine' joinE_K ?hqk1 ?hqk2 ?hqk3 ?hqk5 ?_; (case hqk1 => k_asm); (case hqk2 => k_mem); (case hqk3 => with_reducible assumption); (case hqk5 => with_reducible assumption); k_whole); intro _ _))
    k_with "BAt!" => (exact bat_of (by assumption) (by k_mem))
    k_with "my samew!" => ((
  intro z z2 z3
  simp only [List.forall_mem_cons, List.not_mem_nil, false_implies, implies_true, and_true, ne_eq] at z2
  simp only [List.contains_cons, List.contains_nil, Bool.or_false, Bool.or_eq_false_iff, beq_eq_false_iff_ne, ne_eq] at z3
  first | rfl | (simp [kstB, z2, z3]; done) | (simp [kstB, z2]; done) | fail "my samew"))
    k_with "my at!" => (first
  | exact at_off (k := 0) (by with_reducible assumption) (by omega) rfl
  | exact at_off (k := 1) (by with_reducible assumption) (by omega) rfl
  | exact at_off (k := 2) (by with_reducible assumption) (by omega) rfl
  | exact at_off (k := 3) (by with_reducible assumption) (by omega) rfl
  | exact at_off (k := 4) (by with_reducible assumption) (by omega) rfl
  | exact at_off (k := 5) (by with_reducible assumption) (by omega) rfl
  | exact at_off (k := 6) (by with_reducible assumption) (by omega) rfl
  | exact at_off (k := 7) (by with_reducible assumption) (by omega) rfl
  | exact at_off (k := 8) (by with_reducible assumption) (by omega) rfl)
    k_with "subscriptTail!" => ((k_here; (with_reducible show wpAny _ _ (subscriptTail _ _ (Value.str _ _) (Value.int _ _)) _ _ _); k_dflt (refine' s_item ?hqe1 ?hqz ?hqc ?_ ?hqs ?hqt; (case hqe1 => walk_at "my lit"); (case hqz => walk_at "my size"); (case hqc => walk_at "my at"); (case hqs => with_unfolding_all rfl); (case hqt => (intro _; with_unfolding_all rfl)); k_whole)))
    k_with "compareOp Lt int int!" => ((k_here; first | refine lt_yes (by omega) ?_ | refine lt_no (by omega) ?_))
    k_with "compareOp GtE int int!" => ((k_here; first | refine ge_yes (by omega) ?_ | refine ge_no (by omega) ?_))
    k_with "my cutout!" => (first
  | exact slice_off 1 2 (by with_reducible assumption) (by omega) (by omega) (by omega) (by decide) rfl
  | exact slice_off 1 8 (by with_reducible assumption) (by omega) (by omega) (by omega) (by decide) rfl
  | exact slice_off 1 3 (by with_reducible assumption) (by omega) (by omega) (by omega) (by decide) rfl
  | exact slice_off 4 6 (by with_reducible assumption) (by omega) (by omega) (by omega) (by decide) rfl
  | exact slice_off 7 8 (by with_reducible assumption) (by omega) (by omega) (by omega) (by decide) rfl)
    k_with "subscriptTail!" => ((k_here; (with_reducible show wpAny _ _ (subscriptTail _ (Expr.Slice (some _) (some _) none _) (Value.str _ _) (Value.ref _)) _ _ _); k_dflt (refine' s_slice_ss (s := ⟨_, _, _, _, _⟩) ?hqe1 ?hqF ?hqN ?hqc ?hqz ?_ ?hqs ?hqt; (case hqe1 => walk_at "my lit"); (case hqF => k_asm); (case hqN => k_asm); (case hqc => walk_at "my cutout"); (case hqz => walk_at "my size"); (case hqs => with_unfolding_all rfl); (case hqt => (intro _; with_unfolding_all rfl)); k_whole); intro _ _ _ _ _; (try simp only [List.drop, List.take, List.cons_append, List.nil_append, Nat.reduceSub]); (try k_sweep)))
    k_with "call builtin:str.replace!" => ((k_here; k_dflt (refine' replace_none ?hqe1 ?hqe2 ?hqhd ?_; (case hqe1 => walk_at "my lit"); (case hqe2 => walk_at "my lit"); (case hqhd => first | decide | (simp only [List.mem_cons, List.not_mem_nil, or_false]; omega)); k_whole)))
    k_with "getMethod ref!" => ((k_here; (with_reducible show wpAny _ _ (getMethod (Value.ref 43) (PySem.Str.ofString "sub") _) _ _ _); k_dflt (refine' m_sub ?hqk1 ?hqk2 ?_; (case hqk1 => k_asm); (case hqk2 => k_asm); k_whole)))
    k_with "call builtin:re.Pattern.sub!" => ((k_here; k_dflt (refine' call_subK ?hqk1 ?hqk2 ?hqk3 ?hqk4 ?hqk5 ?hqe1 ?hqhx ?hqz1 ?hqz2 ?_; (case hqk1 => k_asm); (case hqk2 => k_asm); (case hqk3 => k_asm); (case hqk4 => k_mem); (case hqk5 => with_reducible assumption); (case hqe1 => walk_at "my lit"); (case hqhx => with_reducible assumption); (case hqz1 => walk_at "my size"); (case hqz2 => exact Nat.zero_lt_succ _); k_whole); intro h' t' k' F' N'; (try k_sweep)))
    k_with "eval Lambda!" => ((k_here; kn_here; k_dflt (refine' kla_eval ?hqd0 ?_; (case hqd0 => exact rfl)); (k_dflt (refine' lam_any ?hqF ?hqN ?hqT ?hqC ?hqcd ?hqU ?hqt ?hqcl ?_; (case hqF => k_asm); (case hqN => k_asm); (case hqT => k_asm); (case hqcd => exact rfl); (case hqC => kn_code); (case hqU => k_updF); (case hqt => with_reducible assumption); (case hqcl => exact rfl); k_whole); intro f' fo' ps' h' tk' ht' hf' F' N' l1; (try dsimp only at N'); (try k_lt l1))))
    k_with "truthy str!" => ((k_here; k_dflt (refine' truthyK ?hqe1 ?hqz ?_; (case hqe1 => walk_at "my lit"); (case hqz => walk_at "my size"); k_whole); intro _))
    k_with "my openG!" => ((refine con_row ?_; unfold ConG; k_fill; intro _))
    k_with "KgPost!" => ((dsimp only [KgPost]))
    k_with "call builtin:str.find!" => ((k_here; first
  | (refine' find_here 3 8 ?hqe1 ?hqe2 ?hqhx ?hqhi ?hqhj ?hqhb ?hqhab ?hqhc ?_; (case hqe1 => walk_at "my lit"); (case hqe2 => walk_at "my lit"); (case hqhx => with_reducible assumption); (case hqhi => omega); (case hqhj => omega); (case hqhb => omega); (case hqhab => decide); (case hqhc => exact rfl))
  | (refine' find_here 6 8 ?hqe1 ?hqe2 ?hqhx ?hqhi ?hqhj ?hqhb ?hqhab ?hqhc ?_; (case hqe1 => walk_at "my lit"); (case hqe2 => walk_at "my lit"); (case hqhx => with_reducible assumption); (case hqhi => omega); (case hqhj => omega); (case hqhb => omega); (case hqhab => decide); (case hqhc => exact rfl))
  | (refine' find_past 9 8 ?hqe1 ?hqhx ?hqhi ?hqhj ?hqhb ?hqhab ?_; (case hqe1 => walk_at "my lit"); (case hqhx => with_reducible assumption); (case hqhi => omega); (case hqhj => omega); (case hqhb => omega); (case hqhab => decide))))
    k_with "subscriptTail Name Name ref int!" => (walk_at "subscriptTail")
    k_with "subscriptTail Name BinOp ref int!" => (walk_at "subscriptTail")
    k_with "compareOp Gt str str!" => ((k_here; k_dflt (refine' s_gt ?hqe1 ?hqe2 ?hqhb ?_; (case hqe1 => walk_at "my lit"); (case hqe2 => walk_at "my lit"); (case hqhb => decide); k_whole)))
    k_with "eval Name!" => (((with_reducible show wpAny _ _ (eval (Expr.Name _ _) (genEnv _ _ _ _ _ _)) _ _ _); (rename Fr _ _ _ _ => F'); (k_dflt (refine' ldVarG F' ?hqhv ?_ ?hqhk ?hqhl ?hqhd; (case hqhv => with_reducible assumption); (case hqhk => exact rfl); (case hqhl => exact rfl); (case hqhd => decide)))))
    k_with "call ref" => ((k_call_by "conH" (con_escape w hd _ _ _)); intro v9 n9 h9 tk9 F9 N9 r9; obtain ⟨rfl, t9, rfl⟩ := r9; (try dsimp only); (try k_fold))
    by_cases h2 : (c = 42 ∨ c = 63 ∨ c = 91) ∨ c ∈ BLl
    · have hcc : qCh b c = [91, c, 93] := by unfold qCh; rw [if_neg h1, if_pos h2]
      rw [hcc] at hx
      have hlen : (quo b y).length = (quo b pre).length + (3 + (quo b post).length) := by rw [hx]; simp only [List.length_append, List.length_cons, List.length_nil]
      have hd := hd_facts h2
      obtain ⟨n1, n2, n3, n4, n5, n6, n7, n8⟩ := hd
      have hcq : quo b (pre ++ [c]) = quo b pre ++ [91, c, 93] := by rw [quo_snoc, hcc]
      have hfl : fails [c] = true := by
        have hm : c ∈ [42, 63, 91] ++ BLl := by
          rcases h2 with h2 | h2
          · rcases h2 with h2 | h2 | h2 <;> simp [h2]
          · exact List.mem_append_right _ h2
        exact List.all_eq_true.mp fails_bl c hm
      k_with "exec While BoolOp" => (k_here; k_dflt (refine whl_start 20 ?_))
      have hi3 : ((quo b pre).length : Int) + 1 + 1 + 1 = ((quo b (pre ++ [c])).length : Nat) := by rw [hcq, List.length_append]; simp only [List.length_cons, List.length_nil]; omega
      k_steps
      · have hc9 := hat_yes (by assumption) n5
        have ht : tCh b c = [91, 92, c, 93] := by unfold tCh; rw [if_neg h1, if_pos h2, if_pos hc9, hc9]
        (rename News _ _ _ _ => nE'); (rename Fr _ _ _ _ => fE')
        rw [hi3] at fE'
        rw [List.push_toArray] at nE'
        refine hK9 _ _ ?_; dsimp only [KgPost]; refine (kg_end (pre ++ [c], vs ++ [_], _, _) (by assumption) fE' (news_drop1 (news_drop1 nE')) (by rw [List.length_append]; exact fun _ h => h) (by kst_all) (by walk_at "my samew") ⟨⟨post, by rw [hyp]; simp⟩, ?_, by assumption⟩ (by show y.length - (pre ++ [c]).length < y.length - pre.length; rw [hyp]; simp only [List.length_append, List.length_cons, List.length_nil]; omega))
        rw [List.map_append, List.map_append]
        show StrsAre _ (_ ++ [ofL (tCh b c)])
        rw [ht]
        exact hv.append' (.cons _ _ .nil)
      · have hc9 : c ≠ 91 := hat_no (by assumption)
        have ht : tCh b c = [91, c, 93] := by unfold tCh; rw [if_neg h1, if_pos h2, if_neg hc9]
        (rename News _ _ _ _ => nE'); (rename Fr _ _ _ _ => fE')
        rw [hi3] at fE'
        rw [List.push_toArray] at nE'
        refine hK9 _ _ ?_; dsimp only [KgPost]; refine (kg_end (pre ++ [c], vs ++ [_], _, _) (by assumption) fE' (news_drop1 (news_drop1 nE')) (by rw [List.length_append]; exact fun _ h => h) (by kst_all) (by walk_at "my samew") ⟨⟨post, by rw [hyp]; simp⟩, ?_, by assumption⟩ (by show y.length - (pre ++ [c]).length < y.length - pre.length; rw [hyp]; simp only [List.length_append, List.length_cons, List.length_nil]; omega))
        rw [List.map_append, List.map_append]
        show StrsAre _ (_ ++ [ofL (tCh b c)])
        rw [ht]
        exact hv.append' (.cons _ _ .nil)
    have hcc : qCh b c = [c] := by unfold qCh; rw [if_neg h1, if_neg h2]
    rw [hcc] at hx
    have n1 : c ≠ 42 := fun e => h2 (.inl (.inl e))
    have n2 : c ≠ 63 := fun e => h2 (.inl (.inr (.inl e)))
    have n3 : c ≠ 91 := fun e => h2 (.inl (.inr (.inr e)))
    have hcq : quo b (pre ++ [c]) = quo b pre ++ [c] := by rw [quo_snoc, hcc]
    k_steps
    (rename News _ _ _ _ => nE'); (rename Fr _ _ _ _ => fE')
    have hi : ((quo b pre).length : Int) + 1 = ((quo b (pre ++ [c])).length : Nat) := by rw [hcq, List.length_append]; rfl
    rw [hi] at fE'
    rw [List.push_toArray] at nE'
    refine hK9 _ _ ?_; dsimp only [KgPost]; refine (kg_end (pre ++ [c], vs ++ [_], ps, _) (by assumption) fE' nE' (by rw [List.length_append]; exact fun _ h => h) (by kst_all) (by walk_at "my samew") ⟨⟨post, by rw [hyp]; simp⟩, ?_, hps'⟩ (by show y.length - (pre ++ [c]).length < y.length - pre.length; rw [hyp]; simp only [List.length_append, List.length_cons, List.length_nil]; omega))
    have ht : tCh b c = esc c := by unfold tCh; rw [if_neg h1, if_neg h2]
    rw [List.map_append, List.map_append]
    show StrsAre _ (_ ++ [ofL (tCh b c)])
    rw [ht]
    exact hv.append' (.cons _ _ .nil)
  · have hye := quo_full hyp (by assumption)
    subst hye
    simp
  · have hye := quo_full hyp (by assumption)
    subst hye
    exact hret _ _ _ _ _ (by assumption) (by k_asm) (cb_drop (by k_asm) (by intro p hp; exact List.mem_cons_of_mem _ hp)) ⟨_, _, _, _, rfl, hps', rfl, hv⟩

end
theorem kwl30 : True := by
  k_with_none
  k_with "my room!" => ((
  (try simp only [depth_under_make, depth_under_kw, depth_in1, depth_deeper, depth_caller, units_in1, units_deeper, Around.mark_units, units_caller]); (try dsimp only); omega))
  k_with "my open!" => ((refine con_row ?_; unfold Con; k_fill; intro _))
  k_with "my same!" => ((
  intro z z1 z2 z3
  simp only [List.forall_mem_cons, List.not_mem_nil, false_implies, implies_true, and_true, ne_eq] at z2
  simp only [List.contains_cons, List.contains_nil, Bool.or_false, Bool.or_eq_false_iff, beq_eq_false_iff_ne, ne_eq] at z3
  first | (simp [kstB, z1, z2, z3]; done) | (simp [kstB, z1, z2]; done) | fail "my same"))
  k_with "InvEndN!" => ((refine Held.out ?_))
  k_with "KgEnd!" => ((refine Held.out ?_))
  k_with "KswEnd!" => ((refine Held.out ?_))
  k_with "storeName!" => (((first | (with_reducible refine tok_vs fun k => ?_) | (with_reducible refine tok_vi fun k => ?_)); walk_at "storeName"))
  k_with "storeName!" => (((with_reducible refine tok_st fun k => ?_); walk_at "storeName"))
  k_with "call ref!" => ((k_here; (with_reducible show wpAny _ _ (call (Value.ref 220) _) _ _ _); k_call_by "con" (con_blanks _ _ _); intro v9 n9 h9 tk9 F9 N9 r9; obtain ⟨e9, t9, e8⟩ := r9; subst e9 e8; (try dsimp only); (try k_fold)))
  k_with "my inv!" => (((rename News _ _ _ _ => nE'); (try simp only [List.push_toArray] at nE')))
  k_with "subscriptTail!" => ((k_here; (with_reducible show wpAny _ _ (subscriptTail _ _ (Value.ref _) (Value.int _ _)) _ _ _); k_dflt (refine' item_at ?hqk1 ?hqk2 ?hqk3 ?hqk4 ?hqk5 ?_ ?hqk6; (case hqk1 => k_asm); (case hqk2 => k_mem); (case hqk3 => decide); (case hqk4 => decide); (case hqk5 => exact rfl); (case hqk6 => with_unfolding_all rfl); k_whole)))
  k_with "my lit!" => (first
  | with_reducible exact rfl | with_reducible exact l_empty | with_reducible exact l_eq | with_reducible exact l_star | with_reducible exact l_quest | with_reducible exact l_lb | with_reducible exact l_rb | with_reducible exact l_bang | with_reducible exact l_dash
  | with_reducible exact l_hat | with_reducible exact l_bs | with_reducible exact l_bslb | with_reducible exact l_bsbs | with_reducible exact l_bsdash | with_reducible exact l_bar7 | with_reducible exact l_dot | with_reducible exact l_wrap | with_reducible exact l_pre | with_reducible exact l_suf | with_reducible assumption | fail "my lit")
  k_with "my size!" => (first | (simp only [List.length_append, List.length_cons, List.length_nil]; omega) | omega | fail "my size")
  k_with "my cut!" => (first
  | (exfalso; (first | contradiction | omega | (simp at *; done) | (simp_all; done)); done)
  | skip)
  k_with "compareOp Eq str str!" => ((k_here; k_dflt (refine' s_eq_ ?hqe1 ?hqe2 ?_ ?_; (case hqe1 => walk_at "my lit"); (case hqe2 => walk_at "my lit"); k_whole); all_goals (intro hE9; first | (exfalso; revert hE9; first | decide | (simp; done) | (simp; omega) | (intro h9; exact absurd h9 (by with_reducible assumption)) | (intro h9; exact absurd (by with_reducible assumption) h9)) | ((try simp only [List.cons.injEq, and_true] at hE9); (try dsimp only)))))
  k_with "compareOp NotEq str str!" => ((k_here; k_dflt (refine' s_ne_ ?hqe1 ?hqe2 ?_ ?_; (case hqe1 => walk_at "my lit"); (case hqe2 => walk_at "my lit"); k_whole); all_goals (intro hE9; first | (exfalso; revert hE9; first | decide | (simp; done) | (simp; omega) | (intro h9; exact absurd h9 (by with_reducible assumption)) | (intro h9; exact absurd (by with_reducible assumption) h9)) | ((try simp only [List.cons.injEq, and_true] at hE9); (try dsimp only)))))
  k_with "compareOp In str str!" => ((k_here; k_dflt (refine' s_in ?hqe1 ?hqe2 ?_ ?_; (case hqe1 => walk_at "my lit"); (case hqe2 => walk_at "my lit"); k_whole); all_goals (intro hE9; first | (exfalso; revert hE9; first | decide | (simp; done) | (simp; omega) | (intro h9; exact absurd h9 (by with_reducible assumption)) | (intro h9; exact absurd (by with_reducible assumption) h9)) | (try dsimp only))))
  k_with "compareOp NotIn str str!" => ((k_here; k_dflt (refine' s_notin ?hqe1 ?hqe2 ?_ ?_; (case hqe1 => walk_at "my lit"); (case hqe2 => walk_at "my lit"); k_whole); all_goals (intro hE9; first | (exfalso; revert hE9; first | decide | (simp; done) | (simp; omega) | (intro h9; exact absurd h9 (by with_reducible assumption)) | (intro h9; exact absurd (by with_reducible assumption) h9)) | (try dsimp only))))
  k_with "binaryOp Add str str!" => ((k_here; k_dflt (refine' s_add ?hqe1 ?hqe2 ?hqz ?_; (case hqe1 => walk_at "my lit"); (case hqe2 => walk_at "my lit"); (case hqz => walk_at "my size"); k_whole); intro _ _; (try dsimp only [List.cons_append, List.nil_append])))
  k_with "inplaceOp Add str str!" => ((k_here; k_dflt (refine' s_iadd ?hqe1 ?hqe2 ?hqz ?_; (case hqe1 => walk_at "my lit"); (case hqe2 => walk_at "my lit"); (case hqz => walk_at "my size"); k_whole); intro _ _; (try dsimp only [List.cons_append, List.nil_append])))
  k_with "call builtin:len!" => ((k_here; (with_reducible show wpAny _ _ (call (Value.builtin "len") [Value.str _ _]) _ _ _); k_dflt (refine' s_len ?hqe1 ?hqz ?hqn ?_; (case hqe1 => walk_at "my lit"); (case hqz => walk_at "my size"); (case hqn => first | with_reducible assumption | (simp only [List.length_cons, List.length_nil, Nat.reduceAdd]; exact rfl) | exact rfl); k_whole)))
  k_with "call builtin:ord!" => ((k_here; k_dflt (refine' s_ord ?hqe1 ?_; (case hqe1 => walk_at "my lit"); k_whole)))
  k_with "subscriptTail!" => ((k_here; (with_reducible show wpAny _ _ (subscriptTail _ _ (Value.str _ _) (Value.int _ _)) _ _ _); k_dflt (refine' s_item ?hqe1 ?hqz ?hqc ?_ ?hqs ?hqt; (case hqe1 => walk_at "my lit"); (case hqz => walk_at "my size"); (case hqc => first | with_reducible assumption | exact rfl); (case hqs => with_unfolding_all rfl); (case hqt => (intro _; with_unfolding_all rfl)); k_whole)))
  k_with "subscriptTail!" => ((k_here; (with_reducible show wpAny _ _ (subscriptTail _ (Expr.Slice (some _) (some _) none _) (Value.str _ _) (Value.ref _)) _ _ _); k_dflt (refine' s_slice_ss (s := ⟨_, _, _, _, _⟩) ?hqe1 ?hqF ?hqN ?hqc ?hqz ?_ ?hqs ?hqt; (case hqe1 => walk_at "my lit"); (case hqF => k_asm); (case hqN => k_asm); (case hqc => with_reducible assumption); (case hqz => walk_at "my size"); (case hqs => with_unfolding_all rfl); (case hqt => (intro _; with_unfolding_all rfl)); k_whole); intro _ _ _ _ _; (try k_sweep)))
  k_with "subscriptTail!" => ((k_here; (with_reducible show wpAny _ _ (subscriptTail _ (Expr.Slice (some _) none none _) (Value.str _ _) (Value.ref _)) _ _ _); k_dflt (refine' s_slice_sn (s := ⟨_, _, _, _, _⟩) ?hqe1 ?hqF ?hqN ?hqc ?hqz ?_ ?hqs ?hqt; (case hqe1 => walk_at "my lit"); (case hqF => k_asm); (case hqN => k_asm); (case hqc => with_reducible assumption); (case hqz => walk_at "my size"); (case hqs => with_unfolding_all rfl); (case hqt => (intro _; with_unfolding_all rfl)); k_whole); intro _ _ _ _ _; (try k_sweep)))
  k_with "subscriptTail!" => ((k_here; (with_reducible show wpAny _ _ (subscriptTail _ (Expr.Slice none (some _) none _) (Value.str _ _) (Value.ref _)) _ _ _); k_dflt (refine' s_slice_ns (s := ⟨_, _, _, _, _⟩) ?hqe1 ?hqF ?hqN ?hqc ?hqz ?_ ?hqs ?hqt; (case hqe1 => walk_at "my lit"); (case hqF => k_asm); (case hqN => k_asm); (case hqc => with_reducible assumption); (case hqz => walk_at "my size"); (case hqs => with_unfolding_all rfl); (case hqt => (intro _; with_unfolding_all rfl)); k_whole); intro _ _ _ _ _; (try k_sweep)))
  k_with "subscriptTail Name Slice str ref!" => (walk_at "subscriptTail")
  k_with "subscriptTail Name Constant str int!" => (walk_at "subscriptTail")
  k_with "subscriptTail Name Name str int!" => (walk_at "subscriptTail")
  k_with "subscriptTail Name UnaryOp str int!" => (walk_at "subscriptTail")
  k_with "my openH!" => ((refine con_row ?_; unfold ConH; k_fill; intro _))
  k_with "my hd!" => ((with_reducible first | exact HdC.none | assumption | (refine' HdC.here ?hqq1 ?hqq2 ?hqq3; (case hqq2 => assumption); (case hqq3 => assumption); (case hqq1 => assumption))))
  k_with "getMethod str!" => ((k_here; (with_reducible refine m_tr ?_)))
  k_with "call builtin:str.translate!" => ((k_here; k_dflt (refine' call_trK ?hqk1 ?hqk2 ?hqk3 ?hqk4 ?_; (case hqk1 => k_asm); (case hqk2 => k_asm); (case hqk3 => k_asm); (case hqk4 => assumption); intro t' h' k' F' N'; (try k_sweep))))
  k_with "call type:object!" => ((k_here; k_dflt (refine' call_objK ?hqk1 ?hqk2 ?_; (case hqk1 => k_asm); (case hqk2 => k_asm); k_whole); intro a' h' tk' F' N' l1; (try k_lt l1); (try k_sweep)))
  k_with "getAttr ref!" => ((k_here; k_dflt (refine' getAttr_appK ?hqk1 ?hqk2 ?hqk3 ?_; (case hqk1 => k_asm); (case hqk2 => k_asm); (case hqk3 => k_mem); k_whole); intro a' h' tk' F' N' l1; (try k_lt l1); (try k_sweep)))
  k_with "call ref!" => ((k_here; k_dflt (refine' call_boundK ?hqk1 ?hqk2 ?hqkb ?hqk3 ?_ ?hqz; (case hqk1 => k_asm); (case hqk2 => k_asm); (case hqkb => k_mem); (case hqk3 => k_upd); (case hqz => size_fits); k_whole); intro h' F' N'; (try k_sweep)))
  k_with "unpackItems ref!" => ((k_here; (with_reducible show wpAny _ _ (unpackItems (Value.ref _) _ none) _ _ _); k_dflt (refine' unpackK ?hqk1 ?hqk2 ?hqkh ?hqk3 ?hqk4 ?_; (case hqk1 => k_asm); (case hqk2 => k_asm); (case hqkh => assumption); (case hqk3 => k_mem); (case hqk4 => exact rfl); k_whole); intro h' F' N'; (try k_sweep)))
  k_with "subscriptTail!" => ((k_here; (with_reducible show wpAny _ _ (subscriptTail _ _ (Value.ref _) (Value.int _ _)) _ _ _); k_dflt (refine' item_at ?hqk1 ?hqk2 ?hqk3 ?hqk4 ?hqk5 ?_ ?hqk6; (case hqk1 => k_asm); (case hqk2 => k_mem); (case hqk3 => omega); (case hqk4 => omega); (case hqk5 => with_reducible assumption); (case hqk6 => with_unfolding_all rfl); k_whole)))
  k_with "WhlIf!" => ((first | (refine WhlIf.yes (decide_eq_true (by assumption)) ?_) | (refine WhlIf.no (decide_eq_false (by assumption)) ?_)))
  k_with "call builtin:str.join!" => ((k_here; (with_reducible show wpAny _ _ (call (Value.builtin _) [Value.str _ _, Value.ref _]) _ _ _); k_dflt (refine' join_listK ?hqk1 ?hqk2 ?hqk3 ?hqk4 ?hqk5 ?_; (case hqk1 => k_asm); (case hqk2 => k_mem); (case hqk3 => with_reducible assumption); (case hqk4 => decide +kernel); (case hqk5 => with_reducible assumption); k_whole); intro _ _))
  k_with "compareOp IsNot!" => ((k_here; (with_reducible show wpAny _ _ (compareOp CmpOp.IsNot (Value.str _ _) (Value.ref _)) _ _ _); refine wpAny_isNot_other (by rfl) (by intro x; cases x) ?_))
  k_with "callWith ref!" => ((k_here; (with_reducible show wpAny _ _ (callWith _ (Value.ref _) _ (backTo _ (starEach (_ :: _) _)) []) _ _ _); k_dflt (refine' callWith_app ?hqkfbN ?hqkfbM ?_; (case hqkfbN => k_asm); (case hqkfbM => k_mem); k_whole)))
  k_with "And!" => (((with_reducible show BAt _ _ _ ∧ _); refine ⟨bat_of (by assumption) (by k_mem), ?_⟩))
  k_with "my cat!" => (first | with_reducible exact empty_ofL | walk_at "my lit" | ((with_reducible apply cat_ofL); (focus walk_at "my cat"); (focus walk_at "my cat")))
  k_with "formatField str!" => ((k_here; k_dflt (refine' fieldK ?hqe1 ?hqz ?_; (case hqe1 => walk_at "my lit"); (case hqz => walk_at "my size"); k_whole); intro _ _))
  k_with "joinParts!" => ((k_here; (first | (with_reducible show wpAny _ _ (joinParts _ []) _ _ _) | (with_reducible show wpAny _ _ (joinParts _ (evalEach [] _)) _ _ _)); k_dflt (refine' jp_nil ?hqe1 ?hqz ?_; (case hqe1 => walk_at "my cat"); (case hqz => walk_at "my size"); k_whole)))
  k_with "le!" => ((k_here; (with_reducible show PySem.Str.length (_ ++ _) ≤ sizeLine); (refine' le_cat ?hqe1 ?hqe2 ?hqz; (case hqe1 => walk_at "my cat"); (case hqe2 => walk_at "my cat"); (case hqz => walk_at "my size"))))
  k_with "call builtin:str.join!" => ((k_here; (with_reducible show wpAny _ _ (call (Value.builtin _) [Value.str _ _, Value.ref _]) _ _ _); k_dflt (refine' joinE_K ?hqk1 ?hqk2 ?hqk3 ?hqk5 ?_; (case hqk1 => k_asm); (case hqk2 => k_mem); (case hqk3 => with_reducible assumption); (case hqk5 => with_reducible assumption); k_whole); intro _ _))
  k_with "BAt!" => (exact bat_of (by assumption) (by k_mem))
  k_with "my samew!" => ((
  intro z z2 z3
  simp only [List.forall_mem_cons, List.not_mem_nil, false_implies, implies_true, and_true, ne_eq] at z2
  simp only [List.contains_cons, List.contains_nil, Bool.or_false, Bool.or_eq_false_iff, beq_eq_false_iff_ne, ne_eq] at z3
  first | rfl | (simp [kstB, z2, z3]; done) | (simp [kstB, z2]; done) | fail "my samew"))
  k_with "my at!" => (first
  | exact at_off (k := 0) (by with_reducible assumption) (by omega) rfl
  | exact at_off (k := 1) (by with_reducible assumption) (by omega) rfl
  | exact at_off (k := 2) (by with_reducible assumption) (by omega) rfl
  | exact at_off (k := 3) (by with_reducible assumption) (by omega) rfl
  | exact at_off (k := 4) (by with_reducible assumption) (by omega) rfl
  | exact at_off (k := 5) (by with_reducible assumption) (by omega) rfl
  | exact at_off (k := 6) (by with_reducible assumption) (by omega) rfl
  | exact at_off (k := 7) (by with_reducible assumption) (by omega) rfl
  | exact at_off (k := 8) (by with_reducible assumption) (by omega) rfl)
  k_with "subscriptTail!" => ((k_here; (with_reducible show wpAny _ _ (subscriptTail _ _ (Value.str _ _) (Value.int _ _)) _ _ _); k_dflt (refine' s_item ?hqe1 ?hqz ?hqc ?_ ?hqs ?hqt; (case hqe1 => walk_at "my lit"); (case hqz => walk_at "my size"); (case hqc => walk_at "my at"); (case hqs => with_unfolding_all rfl); (case hqt => (intro _; with_unfolding_all rfl)); k_whole)))
  k_with "compareOp Lt int int!" => ((k_here; first | refine lt_yes (by omega) ?_ | refine lt_no (by omega) ?_))
  k_with "compareOp GtE int int!" => ((k_here; first | refine ge_yes (by omega) ?_ | refine ge_no (by omega) ?_))
  k_with "my cutout!" => (first
  | exact slice_off 1 2 (by with_reducible assumption) (by omega) (by omega) (by omega) (by decide) rfl
  | exact slice_off 1 8 (by with_reducible assumption) (by omega) (by omega) (by omega) (by decide) rfl
  | exact slice_off 1 3 (by with_reducible assumption) (by omega) (by omega) (by omega) (by decide) rfl
  | exact slice_off 4 6 (by with_reducible assumption) (by omega) (by omega) (by omega) (by decide) rfl
  | exact slice_off 7 8 (by with_reducible assumption) (by omega) (by omega) (by omega) (by decide) rfl)
  k_with "subscriptTail!" => ((k_here; (with_reducible show wpAny _ _ (subscriptTail _ (Expr.Slice (some _) (some _) none _) (Value.str _ _) (Value.ref _)) _ _ _); k_dflt (refine' s_slice_ss (s := ⟨_, _, _, _, _⟩) ?hqe1 ?hqF ?hqN ?hqc ?hqz ?_ ?hqs ?hqt; (case hqe1 => walk_at "my lit"); (case hqF => k_asm); (case hqN => k_asm); (case hqc => walk_at "my cutout"); (case hqz => walk_at "my size"); (case hqs => with_unfolding_all rfl); (case hqt => (intro _; with_unfolding_all rfl)); k_whole); intro _ _ _ _ _; (try simp only [List.drop, List.take, List.cons_append, List.nil_append, Nat.reduceSub]); (try k_sweep)))
  k_with "call builtin:str.replace!" => ((k_here; k_dflt (refine' replace_none ?hqe1 ?hqe2 ?hqhd ?_; (case hqe1 => walk_at "my lit"); (case hqe2 => walk_at "my lit"); (case hqhd => first | decide | (simp only [List.mem_cons, List.not_mem_nil, or_false]; omega)); k_whole)))
  k_with "getMethod ref!" => ((k_here; (with_reducible show wpAny _ _ (getMethod (Value.ref 43) (PySem.Str.ofString "sub") _) _ _ _); k_dflt (refine' m_sub ?hqk1 ?hqk2 ?_; (case hqk1 => k_asm); (case hqk2 => k_asm); k_whole)))
  k_with "call builtin:re.Pattern.sub!" => ((k_here; k_dflt (refine' call_subK ?hqk1 ?hqk2 ?hqk3 ?hqk4 ?hqk5 ?hqe1 ?hqhx ?hqz1 ?hqz2 ?_; (case hqk1 => k_asm); (case hqk2 => k_asm); (case hqk3 => k_asm); (case hqk4 => k_mem); (case hqk5 => with_reducible assumption); (case hqe1 => walk_at "my lit"); (case hqhx => with_reducible assumption); (case hqz1 => walk_at "my size"); (case hqz2 => exact Nat.zero_lt_succ _); k_whole); intro h' t' k' F' N'; (try k_sweep)))
  k_with "eval Lambda!" => ((k_here; kn_here; k_dflt (refine' kla_eval ?hqd0 ?_; (case hqd0 => exact rfl)); (k_dflt (refine' lam_any ?hqF ?hqN ?hqT ?hqC ?hqcd ?hqU ?hqt ?hqcl ?_; (case hqF => k_asm); (case hqN => k_asm); (case hqT => k_asm); (case hqcd => exact rfl); (case hqC => kn_code); (case hqU => k_updF); (case hqt => with_reducible assumption); (case hqcl => exact rfl); k_whole); intro f' fo' ps' h' tk' ht' hf' F' N' l1; (try dsimp only at N'); (try k_lt l1))))
  k_with "truthy str!" => ((k_here; k_dflt (refine' truthyK ?hqe1 ?hqz ?_; (case hqe1 => walk_at "my lit"); (case hqz => walk_at "my size"); k_whole); intro _))
  k_with "my openG!" => ((refine con_row ?_; unfold ConG; k_fill; intro _))
  k_with "KgPost!" => ((dsimp only [KgPost]))
  k_with "call builtin:str.find!" => ((k_here; first
  | (refine' find_here 3 8 ?hqe1 ?hqe2 ?hqhx ?hqhi ?hqhj ?hqhb ?hqhab ?hqhc ?_; (case hqe1 => walk_at "my lit"); (case hqe2 => walk_at "my lit"); (case hqhx => with_reducible assumption); (case hqhi => omega); (case hqhj => omega); (case hqhb => omega); (case hqhab => decide); (case hqhc => exact rfl))
  | (refine' find_here 6 8 ?hqe1 ?hqe2 ?hqhx ?hqhi ?hqhj ?hqhb ?hqhab ?hqhc ?_; (case hqe1 => walk_at "my lit"); (case hqe2 => walk_at "my lit"); (case hqhx => with_reducible assumption); (case hqhi => omega); (case hqhj => omega); (case hqhb => omega); (case hqhab => decide); (case hqhc => exact rfl))
  | (refine' find_past 9 8 ?hqe1 ?hqhx ?hqhi ?hqhj ?hqhb ?hqhab ?_; (case hqe1 => walk_at "my lit"); (case hqhx => with_reducible assumption); (case hqhi => omega); (case hqhj => omega); (case hqhb => omega); (case hqhab => decide))))
  k_with "subscriptTail Name Name ref int!" => (walk_at "subscriptTail")
  k_with "subscriptTail Name BinOp ref int!" => (walk_at "subscriptTail")
  trivial

-- g4
theorem HdC.sub {hd : Option Value} {h : Heap} {n n' : List (Addr × Obj)} (x : HdC hd h n) (hs : ∀ p ∈ n', p ∈ n) : HdC hd h n' := fun v e => by
  obtain ⟨a, b, c, d⟩ := x v e
  refine ⟨a, b, c, fun q => d ?_⟩
  obtain ⟨p, hp, e'⟩ := List.mem_map.mp q
  exact List.mem_map.mpr ⟨p, hs p hp, e'⟩
/-- `ConG` of a def that hands the handled exception back as it was -/
def ConG2 (w : World) (hd : Option Value) (f : Addr) (need : Nat) (news : List (Addr × Obj)) (vs : List Value) (R : Value → List (Addr × Obj) → Prop) : Prop :=
  ∀ (p : Program) (loose : List PySem.Str) (mean : ExcName → Option Value) (mg mb : PySem.Str → Option Value) (dp un : Nat) (gd : Option (List PySem.Code)) (env : Env) (outer : List Env) (A₀ : Around) (base h₀ : Heap) (L : Addr) (m : PySem.Str → Option Value) (s : Shared) (Q E : Value → Shared → Prop),
    Below A₀ base outer h₀ → Fr h₀ L s.heap m → (K w.params).In h₀ → News h₀ L s.heap news → Top p loose mean mg mb h₀ → HdC hd s.heap news → env.frame = some L → env.scope.kind = .function → dp + need < recursionLimit → un + 8 * need < cLine →
    (∀ v news' h' tk' gs', (AllBare s.gens → AllBare gs') → Fr h₀ L h' m → News h₀ L h' news' → HdC hd h' news' → R v news' → Q v { s with heap := h', toks := tk', gens := gs' }) →
    wpAny (model PySem.Challenge.pw_ij0084_01 w) { handled := hd, depth := dp, frames := some (env :: outer), guards := gd, units := un } (call (.ref f) vs) Q E s
theorem con_useG2 {w : World} {f : Addr} {need : Nat} {news : List (Addr × Obj)} {vs : List Value} {R : Value → List (Addr × Obj) → Prop} {p : Program} {loose : List PySem.Str} {mean : ExcName → Option Value} {mg mb : PySem.Str → Option Value} {hd : Option Value} {dp un : Nat} {gd : Option (List PySem.Code)} {env : Env} {outer : List Env} {A₀ : Around} {base h₀ : Heap} {L : Addr} {m : PySem.Str → Option Value} {s : Shared} {Q E : Value → Shared → Prop}
    (B : Below A₀ base outer h₀) (F : Fr h₀ L s.heap m) (X : (K w.params).In h₀) (N : News h₀ L s.heap news) (T : Top p loose mean mg mb h₀) (H : HdC hd s.heap news) (he : env.frame = some L) (hk : env.scope.kind = .function) (C : ConG2 w hd f need news vs R)
    (hdp : dp + need < recursionLimit) (hun : un + 8 * need < cLine)
    (ret : ∀ v news' h' tk' gs', (AllBare s.gens → AllBare gs') → Fr h₀ L h' m → News h₀ L h' news' → HdC hd h' news' → R v news' → Q v { s with heap := h', toks := tk', gens := gs' }) :
    wpAny (model PySem.Challenge.pw_ij0084_01 w) { handled := hd, depth := dp, frames := some (env :: outer), guards := gd, units := un } (call (.ref f) vs) Q E s :=
  C p loose mean mg mb dp un gd env outer A₀ base h₀ L m s Q E B F X N T H he hk hdp hun ret
local macro_rules | `(tactic| k_call_by "conG2" $t) => `(tactic| (
  k_here
  k_dflt (refine' con_useG2 ?k1 ?k2 ?k3 ?k4 ?k5 ?kH ?kA ?kK ?kC ?kd ?ku ?_
          (case k1 => k_asm); (case k2 => k_asm); (case k3 => k_asm); (case k4 => k_asm); (case k5 => k_asm); (case kH => walk_at "my hd"); (case kA => exact rfl); (case kK => exact rfl); (case kC => exact $t); (case kd => walk_at "my room"); (case ku => walk_at "my room"))))

section

-- p9
def trs (b : Bool) (y : List Nat) : List Nat := [40, 63, 115, 58] ++ (y.map (tCh b)).flatten ++ [41, 92, 90]
theorem news_swap {h₀ h : Heap} {L : Addr} {p q : Addr × Obj} {r : List (Addr × Obj)} (N : News h₀ L h (p :: q :: r)) : News h₀ L h (q :: p :: r) := fun x hx => by
  rcases List.mem_cons.mp hx with rfl | hx
  · exact N _ (.tail _ (.head _))
  · rcases List.mem_cons.mp hx with rfl | hx
    · exact N _ (.head _)
    · exact N _ (.tail _ (.tail _ hx))
theorem no64 {a : Addr} {o : Obj} {news : List (Addr × Obj)} (h : ∀ p ∈ news, p.1 ≠ 64) (ha : a ≠ 64) : ∀ p ∈ (a, o) :: news, p.1 ≠ 64 := fun p hp => by
  rcases List.mem_cons.mp hp with rfl | hp
  · exact ha
  · exact h p hp
theorem tCh_len (b : Bool) (c : Nat) : (tCh b c).length ≤ 9 := by
  unfold tCh
  split
  · decide
  · split
    · split <;> simp
    · unfold esc; split <;> simp
theorem trs_len (b : Bool) (y : List Nat) : ((y.map (tCh b)).flatten).length ≤ 9 * y.length := by
  induction y with
  | nil => simp
  | cons c r ih => have := tCh_len b c; simp only [List.map_cons, List.flatten_cons, List.length_append, List.length_cons]; omega
theorem con_translate (w : World) (hd : Option Value) (news : List (Addr × Obj)) (ps₀ : Array Value) (b : Bool) (y : List Nat) (t : Tok) (hy : y.length ≤ 40000) (h64 : ∀ p ∈ news, p.1 ≠ 64) (hps : TabOk ps₀) :
    ConG2 w hd 50 8 ((64, tabObj ps₀) :: news) [.str (ofL (quo b y)) t] (fun v n => ∃ ps, n = (64, tabObj ps) :: news ∧ TabOk ps ∧ ∃ t, v = .str (ofL (trs b y)) t) := by
  have hz := trs_len b y
  have hy2 : (y.map (tCh b)).length ≤ 40000 := by rw [List.length_map]; exact hy
  refine con_row ?_; unfold ConG2; k_fill; intro _
  intro p loose mean mg mb dp un gd env outer A₀ base h₀ L m s Q E B F X N T H he hk hdp hun hret
  k_call_by "enterH" [("pat", .str (ofL (quo b y)) t)]
  k_with "call ref" => ((k_call_by "conH" (con_join w hd _ _ _ _ _ (y.map (tCh b)) (.head _) (by assumption) hy2 (by omega))); intro v9 n9 h9 tk9 F9 N9 r9; obtain ⟨rfl, t9, rfl⟩ := r9; (try dsimp only); (try k_fold))
  k_with "call ref" => ((rename News _ _ _ _ => lN'); (have lN9 := news_swap lN'); clear lN'
                        (k_call_by "conG" (con_trans w hd _ _ b y _ _ _ _ hy (no64 h64 (by (rename 64 < _ ∧ _ => l9); exact Nat.ne_of_gt l9.1)) hps)); intro v9 n9 h9 tk9 gs9 G9 F9 N9 r9; obtain ⟨r8, vs8, k8, ps8, rfl, hp8, rfl, hv8⟩ := r9; (try dsimp only); (try k_fold))
  k_steps
  (rename Hd _ _ => z1)
  have hsub : ∀ {a b c : Addr × Obj} {l : List (Addr × Obj)}, ∀ p ∈ c :: l, p ∈ a :: c :: b :: l := fun {a b c l} p hp => by
    rcases List.mem_cons.mp hp with rfl | hp
    · exact List.mem_cons_of_mem _ (.head _)
    · exact List.mem_cons_of_mem _ (List.mem_cons_of_mem _ (List.mem_cons_of_mem _ hp))
  exact hret _ _ _ _ _ (by assumption) (by k_asm) (cb_drop (by k_asm) hsub) (HdC.sub (HdC.here z1 (by assumption) (by assumption)) hsub) ⟨_, rfl, hp8, _, rfl⟩

-- o1
def trB (b : Bool) (y : List Nat) : List Nat := (y.map (tCh b)).flatten
inductive Step (d : Nat) : List Nat → Nat → List Nat → Prop
  | go (pc : List Nat) (n : Nat) (s : List Nat) (q : List Nat) : n ≠ 93 → s ≠ [] → pc ++ [n] = 91 :: q → Step d pc n s
  | bar : d = 61 → Step d [91, 94, 0, 45, 60, 62, 45, 1114111] 93 []
  | br : d = 91 → Step d [91, 92, 91] 93 []
  | one : d ≠ 91 → d ≠ 94 → d ≠ 93 → d ≠ 92 → d ≠ 45 → Step d [91, d] 93 []
  | esc1 : SP.contains d = true → Step d [] 92 [d]
  | esc2 : SP.contains d = true → Step d [92] d []
  | sign : SP.contains d = false → Step d [] d []
theorem step_of {b : Bool} {d n : Nat} {pc s : List Nat} (h : tCh b d = pc ++ n :: s) : Step d pc n s := by
  unfold tCh at h
  split at h
  · rename_i h61
    rcases pc with _ | ⟨a0, _ | ⟨a1, _ | ⟨a2, _ | ⟨a3, _ | ⟨a4, _ | ⟨a5, _ | ⟨a6, _ | ⟨a7, _ | ⟨a8, r⟩⟩⟩⟩⟩⟩⟩⟩⟩ <;>
      simp only [List.nil_append, List.cons_append, List.cons.injEq] at h
    · obtain ⟨rfl, rfl⟩ := h; exact .go _ _ _ [] (by decide) (by simp) rfl
    · obtain ⟨rfl, rfl, rfl⟩ := h; exact .go _ _ _ _ (by decide) (by simp) rfl
    · obtain ⟨rfl, rfl, rfl, rfl⟩ := h; exact .go _ _ _ _ (by decide) (by simp) rfl
    · obtain ⟨rfl, rfl, rfl, rfl, rfl⟩ := h; exact .go _ _ _ _ (by decide) (by simp) rfl
    · obtain ⟨rfl, rfl, rfl, rfl, rfl, rfl⟩ := h; exact .go _ _ _ _ (by decide) (by simp) rfl
    · obtain ⟨rfl, rfl, rfl, rfl, rfl, rfl, rfl⟩ := h; exact .go _ _ _ _ (by decide) (by simp) rfl
    · obtain ⟨rfl, rfl, rfl, rfl, rfl, rfl, rfl, rfl⟩ := h; exact .go _ _ _ _ (by decide) (by simp) rfl
    · obtain ⟨rfl, rfl, rfl, rfl, rfl, rfl, rfl, rfl, rfl⟩ := h; exact .go _ _ _ _ (by decide) (by simp) rfl
    · obtain ⟨rfl, rfl, rfl, rfl, rfl, rfl, rfl, rfl, rfl, rfl⟩ := h; exact .bar h61.1
    · exfalso; simp at h
  · split at h
    · rename_i h2
      split at h
      · rename_i h91
        rcases pc with _ | ⟨a0, _ | ⟨a1, _ | ⟨a2, _ | ⟨a3, r⟩⟩⟩⟩ <;> simp only [List.nil_append, List.cons_append, List.cons.injEq] at h
        · obtain ⟨rfl, rfl⟩ := h; exact .go _ _ _ [] (by decide) (by simp) rfl
        · obtain ⟨rfl, rfl, rfl⟩ := h; exact .go _ _ _ _ (by decide) (by simp) rfl
        · obtain ⟨rfl, rfl, rfl, rfl⟩ := h; exact .go _ _ _ _ (by decide) (by simp) rfl
        · obtain ⟨rfl, rfl, rfl, rfl, rfl⟩ := h; exact .br h91
        · exfalso; simp at h
      · rename_i h91
        have hd : d ≠ 93 ∧ d ≠ 92 ∧ d ≠ 94 ∧ d ≠ 45 := by simp only [BLl, List.mem_cons, List.not_mem_nil, or_false] at h2; omega
        rcases pc with _ | ⟨a0, _ | ⟨a1, _ | ⟨a2, r⟩⟩⟩ <;> simp only [List.nil_append, List.cons_append, List.cons.injEq] at h
        · obtain ⟨rfl, rfl⟩ := h; exact .go _ _ _ [] (by decide) (by simp) rfl
        · obtain ⟨rfl, rfl, rfl⟩ := h; exact .go _ _ _ _ hd.1 (by simp) rfl
        · obtain ⟨rfl, rfl, rfl, rfl⟩ := h; exact .one h91 hd.2.2.1 hd.1 hd.2.1 hd.2.2.2
        · exfalso; simp at h
    · unfold esc at h
      split at h
      · rename_i hc
        rcases pc with _ | ⟨a0, _ | ⟨a1, r⟩⟩ <;> simp only [List.nil_append, List.cons_append, List.cons.injEq] at h
        · obtain ⟨rfl, rfl⟩ := h; exact .esc1 hc
        · obtain ⟨rfl, rfl, rfl⟩ := h; exact .esc2 hc
        · exfalso; simp at h
      · rename_i hc
        rcases pc with _ | ⟨a0, r⟩ <;> simp only [List.nil_append, List.cons_append, List.cons.injEq] at h
        · obtain ⟨rfl, rfl⟩ := h; exact .sign (by simpa using hc)
        · exfalso; simp at h

-- o2
theorem tCh_pos (b : Bool) (c : Nat) : 1 ≤ (tCh b c).length := by
  unfold tCh
  split
  · decide
  · split
    · split <;> simp
    · unfold esc; split <;> simp
theorem trB_app (b : Bool) (x y : List Nat) : trB b (x ++ y) = trB b x ++ trB b y := by simp [trB]
theorem trB_cons (b : Bool) (d : Nat) (r : List Nat) : trB b (d :: r) = tCh b d ++ trB b r := by simp [trB]
theorem only_end {b : Bool} {y x1 x2 pc : List Nat} (hI : trB b y = trB b x1 ++ pc) (hx : y = x1 ++ x2) (hn : x2 = [] → pc = []) (hc : ∀ d r, x2 = d :: r → ∃ z, z ≠ [] ∧ tCh b d = pc ++ z) : x1 = y ∧ pc = [] := by
  rw [hx, trB_app] at hI
  have h1 := List.append_cancel_left hI
  cases x2 with
  | nil => exact ⟨by simpa using hx.symm, hn rfl⟩
  | cons d r =>
    exfalso
    obtain ⟨z, hz, e⟩ := hc d r rfl
    rw [trB_cons, e] at h1
    have := congrArg List.length h1
    simp only [List.length_append] at this
    have : z.length = 0 := by omega
    exact hz (List.length_eq_zero_iff.mp this)
theorem only_turn {b : Bool} {y x1 x2 pc p1 p2 : List Nat} {n : Nat} (hs : trB b y = p1 ++ n :: p2) (hI : p1 = trB b x1 ++ pc) (hx : y = x1 ++ x2) (hn : x2 = [] → pc = []) (hc : ∀ d r, x2 = d :: r → ∃ z, z ≠ [] ∧ tCh b d = pc ++ z) :
    ∃ d r z, y = x1 ++ d :: r ∧ tCh b d = pc ++ n :: z := by
  rw [hI, hx, trB_app, List.append_assoc] at hs
  have h1 := List.append_cancel_left hs
  cases x2 with
  | nil => simp [trB] at h1
  | cons d r =>
    obtain ⟨z, hz, e⟩ := hc d r rfl
    rw [trB_cons, e, List.append_assoc] at h1
    have h2 := List.append_cancel_left h1
    cases z with
    | nil => exact absurd rfl hz
    | cons a z =>
      simp only [List.cons_append, List.cons.injEq] at h2
      exact ⟨d, r, z, hx, by rw [e, h2.1]⟩

-- o3
theorem trs_e1 (b : Bool) (y : List Nat) : Txt.slice (ofL (trs b y)) none (some 4) = ofL [40, 63, 115, 58] := by
  have hl : (trs b y).length = 7 + (trB b y).length := by unfold trs trB; simp only [List.length_append, List.length_cons, List.length_nil]; omega
  rw [slice_ofL]
  have h1 : kms_lo none (trs b y).length = 0 := rfl
  have h2 : kms_hi (some 4) (trs b y).length = 4 := by unfold kms_hi; dsimp only; rw [if_neg (by decide)]; omega
  rw [h1, h2]
  rfl
theorem trs_e2 (b : Bool) (y : List Nat) : Txt.slice (ofL (trs b y)) (some (-3)) none = ofL [41, 92, 90] := by
  have hl : (trs b y).length = 7 + (trB b y).length := by unfold trs trB; simp only [List.length_append, List.length_cons, List.length_nil]; omega
  rw [slice_ofL]
  have h1 : kms_lo (some (-3)) (trs b y).length = 4 + (trB b y).length := by unfold kms_lo; dsimp only; rw [if_pos (by decide)]; omega
  have h2 : kms_hi none (trs b y).length = 7 + (trB b y).length := hl
  rw [h1, h2]
  have e : trs b y = ([40, 63, 115, 58] ++ trB b y) ++ [41, 92, 90] := rfl
  rw [e, List.drop_left' (by simp; omega)]
  rw [show 7 + (trB b y).length - (4 + (trB b y).length) = 3 by omega]
  rfl
theorem trs_e3 (b : Bool) (y : List Nat) : Txt.slice (ofL (trs b y)) (some 4) (some (-3)) = ofL (trB b y) := by
  have hl : (trs b y).length = 7 + (trB b y).length := by unfold trs trB; simp only [List.length_append, List.length_cons, List.length_nil]; omega
  rw [slice_ofL]
  have h1 : kms_lo (some 4) (trs b y).length = 4 := by unfold kms_lo; dsimp only; rw [if_neg (by decide)]; omega
  have h2 : kms_hi (some (-3)) (trs b y).length = 4 + (trB b y).length := by unfold kms_hi; dsimp only; rw [if_pos (by decide)]; omega
  rw [h1, h2]
  have e : trs b y = [40, 63, 115, 58] ++ (trB b y ++ [41, 92, 90]) := by simp [trs, trB]
  rw [e, show List.drop 4 ([40, 63, 115, 58] ++ (trB b y ++ [41, 92, 90])) = trB b y ++ [41, 92, 90] from rfl, Nat.add_sub_cancel_left, List.take_left]
theorem sign_facts {n : Nat} (h : SP.contains n = false) : n ≠ 91 ∧ n ≠ 92 ∧ n ∉ [46, 94, 36, 42, 43, 63, 123, 125, 124, 40, 41] := by
  have hn : n ∉ SP := fun q => by rw [List.contains_iff_mem.mpr q] at h; cases h
  have k : ∀ x ∈ [91, 92, 46, 94, 36, 42, 43, 63, 123, 125, 124, 40, 41], x ∈ SP := by decide +kernel
  exact ⟨fun e => hn (e ▸ k 91 (by decide)), fun e => hn (e ▸ k 92 (by decide)), fun q => hn (k n (List.mem_cons_of_mem _ (List.mem_cons_of_mem _ q)))⟩

-- o4
def ALN : List Nat := [48,49,50,51,52,53,54,55,56,57,65,66,67,68,69,70,71,72,73,74,75,76,77,78,79,80,81,82,83,84,85,86,87,88,89,90,97,98,99,100,101,102,103,104,105,106,107,108,109,110,111,112,113,114,115,116,117,118,119,120,121,122]
theorem l_spec : PySem.Str.ofString ".^$*+?{}|()" = ofL [46, 94, 36, 42, 43, 63, 123, 125, 124, 40, 41] := by decide +kernel
theorem l_aln : PySem.Str.ofString "0123456789ABCDEFGHIJKLMNOPQRSTUVWXYZabcdefghijklmnopqrstuvwxyz" = ofL ALN := by decide +kernel
theorem sp_aln : ∀ x ∈ SP, x ∉ ALN := by decide +kernel
theorem esc2_facts {d : Nat} (h : SP.contains d = true) : d ∉ ALN := sp_aln d (List.contains_iff_mem.mp h)
theorem kwl31 : True := by
  k_with "my lit!" => (first | with_reducible exact l_spec | with_reducible exact l_aln)
  trivial
inductive Way (d : Nat) : List Nat → Nat → List Nat → Prop
  | go (pc : List Nat) (n : Nat) (s : List Nat) (q : List Nat) : n ≠ 93 → s ≠ [] → (seqIndex? 0 (pc ++ [n]).length).bind ((pc ++ [n])[·]?) = some 91 → Way d pc n s
  | bar : d = 61 → Way d [91, 94, 0, 45, 60, 62, 45, 1114111] 93 []
  | br : d = 91 → Way d [91, 92, 91] 93 []
  | one : d ≠ 91 → d ≠ 94 → d ≠ 93 → d ≠ 92 → d ≠ 45 → Way d [91, d] 93 []
  | esc1 : Way d [] 92 [d]
  | esc2 : d ∉ ALN → Way d [92] d []
  | sign : d ≠ 91 → d ≠ 92 → d ∉ [46, 94, 36, 42, 43, 63, 123, 125, 124, 40, 41] → Way d [] d []
theorem way_of {d n : Nat} {pc s : List Nat} (h : Step d pc n s) : Way d pc n s := by
  cases h with
  | go pc n s q g1 g2 g3 => exact .go _ _ _ q g1 g2 (at_off (pre := []) (rest := pc ++ [n]) (k := 0) rfl rfl (by rw [g3]; rfl))
  | bar h => exact .bar h
  | br h => exact .br h
  | one a b c d e => exact .one a b c d e
  | esc1 _ => exact .esc1
  | esc2 h => exact .esc2 (esc2_facts h)
  | sign h => obtain ⟨a, b, c⟩ := sign_facts h; exact .sign a b c

-- o5
theorem turn_go {b : Bool} {y x1 pc r z : List Nat} {n d : Nat} {pre : List Int} (hI : pre.map Int.toNat = trB b x1 ++ pc) (hyd : y = x1 ++ d :: r) (hst : tCh b d = pc ++ n :: z) (hz : z ≠ []) :
    (pre ++ [(n : Int)]).map Int.toNat = trB b x1 ++ (pc ++ [n]) ∧ ∃ x2, y = x1 ++ x2 ∧ (x2 = [] → pc ++ [n] = []) ∧ ∀ d r, x2 = d :: r → ∃ z, z ≠ [] ∧ tCh b d = (pc ++ [n]) ++ z := by
  refine ⟨by rw [toNat_snoc, hI, List.append_assoc], d :: r, hyd, (fun h => nomatch h), fun d' r' h => ⟨z, hz, ?_⟩⟩
  rw [List.cons.injEq] at h
  rw [← h.1, hst]; simp
theorem turn_end {b : Bool} {y x1 pc r : List Nat} {n d : Nat} {pre : List Int} (hI : pre.map Int.toNat = trB b x1 ++ pc) (hyd : y = x1 ++ d :: r) (hst : tCh b d = pc ++ [n]) :
    (pre ++ [(n : Int)]).map Int.toNat = trB b (x1 ++ [d]) ++ [] ∧ ∃ x2, y = (x1 ++ [d]) ++ x2 ∧ (x2 = [] → ([] : List Nat) = []) ∧ ∀ d r, x2 = d :: r → ∃ z, z ≠ [] ∧ tCh b d = [] ++ z := by
  refine ⟨?_, r, by rw [hyd]; simp, fun _ => rfl, fun d' r' _ => ⟨tCh b d', fun e => ?_, rfl⟩⟩
  · rw [toNat_snoc, hI, trB_app, List.append_nil, List.append_assoc, ← hst]; simp [trB]
  · have := tCh_pos b d'; rw [e] at this; simp at this

-- t6h
theorem lit_one (n : Nat) : (⟨#[n]⟩ : PySem.Str) = ofL [n] := rfl
theorem kwl32 : True := by
  k_with "my lit!" => (with_reducible exact lit_one _)
  trivial
theorem con_only (w : World) (hd : Option Value) (news : List (Addr × Obj)) (b : Bool) (y : List Nat) (t : Tok) (hy : y.length ≤ 40000) :
    ConH w hd 269 3 news [.str (ofL (trs b y)) t] (fun v n => news = n ∧ ∃ t, v = .str (ofL y) t) := by
  have hz := trs_len b y
  have hlen : (trs b y).length = 7 + (trB b y).length := by unfold trs trB; simp only [List.length_append, List.length_cons, List.length_nil]; omega
  have hzb : (trB b y).length ≤ 360000 := by unfold trB; omega
  have e1 : Txt.slice (ofL (trs b y)) none (some 4) = ofL [40, 63, 115, 58] := trs_e1 b y
  have e2 : Txt.slice (ofL (trs b y)) (some (-3)) none = ofL [41, 92, 90] := trs_e2 b y
  have e3 : Txt.slice (ofL (trs b y)) (some 4) (some (-3)) = ofL (trB b y) := trs_e3 b y
  walk_at "my openH"
  intro p loose mean mg mb dp un gd env outer A₀ base h₀ L m s Q E B F X N T H he hk hdp hun hret
  k_call_by "enterH" [("written", .str (ofL (trs b y)) t)]
  k_with "exec For Name Subscript cons nil" => (k_here; (rename Fr _ _ _ _ => lF'); (with_unfolding_all refine' For_invVF lF' ?k1 ?k2 ?_; (case k1 => exact rfl); (case k2 => exact rfl); k_whole))
  k_with "exec For Name Subscript" => (k_here; (rename Fr _ _ _ _ => lF'); (with_unfolding_all refine' For_invVF lF' ?k1 ?k2 ?_; (case k1 => exact rfl); (case k2 => exact rfl); k_whole))
  k_with "pyIter str" => (
    (rename Fr _ _ _ _ => lF'); (rename News _ _ _ _ => lN')
    (with_unfolding_all refine' kst_textH (σ := List Nat × List Nat × PySem.Str × Tok × Tok) (fun _ => news) (fun c => [("text", .str (ofL c.1) c.2.2.2.1), ("piece", .str (ofL c.2.1) c.2.2.2.2)]) (fun _ => True) ["one"] (fun pre c => pre.map Int.toNat = trB b c.1 ++ c.2.1 ∧ ∃ x2, y = c.1 ++ x2 ∧ (x2 = [] → c.2.1 = []) ∧ ∀ d r, x2 = d :: r → ∃ z, z ≠ [] ∧ tCh b d = c.2.1 ++ z) ([], [], "", _, _) ?kh ?kF ?kN trivial ?kk ?kp ?kt ?kd)
    (case kF => exact lF'); (case kN => exact lN'); (case kh => assumption)
    (case kk => kst_all)
    (case kp => exact ⟨rfl, y, rfl, fun _ => rfl, fun d r _ => ⟨tCh b d, fun e => absurd (congrArg List.length e) (by have := tCh_pos b d; simp only [List.length_nil]; omega), rfl⟩⟩)
    (case' kt =>
      rintro ⟨x1, pc, qq, t1, t2⟩ pre post n t u h tk own hc hoff - ⟨hI, x2, hx2, hnil, hcons⟩ F1 N1
      dsimp only at hI hx2 hnil hcons F1 N1
      clear lF' lN'
      obtain ⟨d, r, z, hyd, hst⟩ := only_turn (codes_split hc) hI hx2 hnil hcons
      have hpl : pc.length ≤ 8 := by
        have := tCh_len b d
        rw [hst] at this
        simp only [List.length_append, List.length_cons] at this
        omega
      have hxl : x1.length ≤ 40000 := by have := congrArg List.length hyd; simp only [List.length_append] at this; omega
      have hst' := way_of (step_of hst)
      clear hnil hcons hx2
      refine wpAny_hide fun Q9 hQ9 => ?_
      dsimp only
      rcases hst' with ⟨_, _, _, q, g1, g2, g3⟩ | g1 | g1 | ⟨g1, g2, g3, g4, g5⟩ | _ | g1 | ⟨g1, g2, g3⟩
      all_goals (try simp only [List.nil_append])
      all_goals (try k_fold))
    (case' kd =>
      rintro ⟨x1, pc, qq, t1, t2⟩ u h tk - ⟨hI, x2, hx2, hnil, hcons⟩ F1 N1
      dsimp only at hI hx2 hnil hcons F1 N1
      clear lF' lN'
      rw [codes_toNat] at hI
      obtain ⟨hx9, hp9⟩ := only_end hI hx2 hnil hcons
      subst hx9 hp9
      dsimp only
      (try k_fold)))
  k_with "call ref" => ((first | k_call_by "con" (con_one_bar w hd _ _) | k_call_by "con" (con_one_b w hd _ _) | k_call_by "con" (con_one_c w hd _ _ _ (by assumption))); intro v9 n9 h9 tk9 F9 N9 r9; obtain ⟨rfl, t9, rfl⟩ := r9; (try dsimp only); (try k_fold))
  k_steps
  · exact hret _ _ _ _ (by k_asm) (by k_asm) ⟨rfl, _, rfl⟩
  · (rename News _ _ _ _ => nE')
    refine hQ9 _ _ ?_; dsimp only [InvPostN]; exact (kst_end (x1, pc ++ [n], qq, _, _) (by assumption) nE' (by first | kst_in | kst_inAny) (by first | (intro p hp; kst_mem) | kst_anyIn) (by rfl) (by kst_facts) (by kst_all) (by walk_at "my same") (turn_go hI hyd hst g2))
  · subst g1
    (rename News _ _ _ _ => nE')
    refine hQ9 _ _ ?_; dsimp only [InvPostN]; exact (kst_end (x1 ++ [61], [], qq, _, _) (by assumption) nE' (by first | kst_in | kst_inAny) (by first | (intro p hp; kst_mem) | kst_anyIn) (by rfl) (by kst_facts) (by kst_all) (by walk_at "my same") (turn_end hI hyd hst))
  · subst g1
    (rename News _ _ _ _ => nE')
    refine hQ9 _ _ ?_; dsimp only [InvPostN]; exact (kst_end (x1 ++ [91], [], qq, _, _) (by assumption) nE' (by first | kst_in | kst_inAny) (by first | (intro p hp; kst_mem) | kst_anyIn) (by rfl) (by kst_facts) (by kst_all) (by walk_at "my same") (turn_end hI hyd hst))
  · (rename News _ _ _ _ => nE')
    refine hQ9 _ _ ?_; dsimp only [InvPostN]; exact (kst_end (x1 ++ [d], [], qq, _, _) (by assumption) nE' (by first | kst_in | kst_inAny) (by first | (intro p hp; kst_mem) | kst_anyIn) (by rfl) (by kst_facts) (by kst_all) (by walk_at "my same") (turn_end hI hyd hst))
  · (rename News _ _ _ _ => nE')
    refine hQ9 _ _ ?_; dsimp only [InvPostN]; exact (kst_end (x1, [92], qq, _, _) (by assumption) nE' (by first | kst_in | kst_inAny) (by first | (intro p hp; kst_mem) | kst_anyIn) (by rfl) (by kst_facts) (by kst_all) (by walk_at "my same") (turn_go hI hyd hst (by simp)))
  · (rename News _ _ _ _ => nE')
    refine hQ9 _ _ ?_; dsimp only [InvPostN]; exact (kst_end (x1 ++ [n], [], qq, _, _) (by assumption) nE' (by first | kst_in | kst_inAny) (by first | (intro p hp; kst_mem) | kst_anyIn) (by rfl) (by kst_facts) (by kst_all) (by walk_at "my same") (turn_end hI hyd hst))
  · (rename News _ _ _ _ => nE')
    refine hQ9 _ _ ?_; dsimp only [InvPostN]; exact (kst_end (x1 ++ [n], [], qq, _, _) (by assumption) nE' (by first | kst_in | kst_inAny) (by first | (intro p hp; kst_mem) | kst_anyIn) (by rfl) (by kst_facts) (by kst_all) (by walk_at "my same") (turn_end hI hyd hst))

end
theorem kwl33 : True := by
  k_with_none
  k_with "my room!" => ((
  (try simp only [depth_under_make, depth_under_kw, depth_in1, depth_deeper, depth_caller, units_in1, units_deeper, Around.mark_units, units_caller]); (try dsimp only); omega))
  k_with "my open!" => ((refine con_row ?_; unfold Con; k_fill; intro _))
  k_with "my same!" => ((
  intro z z1 z2 z3
  simp only [List.forall_mem_cons, List.not_mem_nil, false_implies, implies_true, and_true, ne_eq] at z2
  simp only [List.contains_cons, List.contains_nil, Bool.or_false, Bool.or_eq_false_iff, beq_eq_false_iff_ne, ne_eq] at z3
  first | (simp [kstB, z1, z2, z3]; done) | (simp [kstB, z1, z2]; done) | fail "my same"))
  k_with "InvEndN!" => ((refine Held.out ?_))
  k_with "KgEnd!" => ((refine Held.out ?_))
  k_with "KswEnd!" => ((refine Held.out ?_))
  k_with "storeName!" => (((first | (with_reducible refine tok_vs fun k => ?_) | (with_reducible refine tok_vi fun k => ?_)); walk_at "storeName"))
  k_with "storeName!" => (((with_reducible refine tok_st fun k => ?_); walk_at "storeName"))
  k_with "call ref!" => ((k_here; (with_reducible show wpAny _ _ (call (Value.ref 220) _) _ _ _); k_call_by "con" (con_blanks _ _ _); intro v9 n9 h9 tk9 F9 N9 r9; obtain ⟨e9, t9, e8⟩ := r9; subst e9 e8; (try dsimp only); (try k_fold)))
  k_with "my inv!" => (((rename News _ _ _ _ => nE'); (try simp only [List.push_toArray] at nE')))
  k_with "subscriptTail!" => ((k_here; (with_reducible show wpAny _ _ (subscriptTail _ _ (Value.ref _) (Value.int _ _)) _ _ _); k_dflt (refine' item_at ?hqk1 ?hqk2 ?hqk3 ?hqk4 ?hqk5 ?_ ?hqk6; (case hqk1 => k_asm); (case hqk2 => k_mem); (case hqk3 => decide); (case hqk4 => decide); (case hqk5 => exact rfl); (case hqk6 => with_unfolding_all rfl); k_whole)))
  k_with "my lit!" => (first
  | with_reducible exact rfl | with_reducible exact l_empty | with_reducible exact l_eq | with_reducible exact l_star | with_reducible exact l_quest | with_reducible exact l_lb | with_reducible exact l_rb | with_reducible exact l_bang | with_reducible exact l_dash
  | with_reducible exact l_hat | with_reducible exact l_bs | with_reducible exact l_bslb | with_reducible exact l_bsbs | with_reducible exact l_bsdash | with_reducible exact l_bar7 | with_reducible exact l_dot | with_reducible exact l_wrap | with_reducible exact l_pre | with_reducible exact l_suf | with_reducible assumption | fail "my lit")
  k_with "my size!" => (first | (simp only [List.length_append, List.length_cons, List.length_nil]; omega) | omega | fail "my size")
  k_with "my cut!" => (first
  | (exfalso; (first | contradiction | omega | (simp at *; done) | (simp_all; done)); done)
  | skip)
  k_with "compareOp Eq str str!" => ((k_here; k_dflt (refine' s_eq_ ?hqe1 ?hqe2 ?_ ?_; (case hqe1 => walk_at "my lit"); (case hqe2 => walk_at "my lit"); k_whole); all_goals (intro hE9; first | (exfalso; revert hE9; first | decide | (simp; done) | (simp; omega) | (intro h9; exact absurd h9 (by with_reducible assumption)) | (intro h9; exact absurd (by with_reducible assumption) h9)) | ((try simp only [List.cons.injEq, and_true] at hE9); (try dsimp only)))))
  k_with "compareOp NotEq str str!" => ((k_here; k_dflt (refine' s_ne_ ?hqe1 ?hqe2 ?_ ?_; (case hqe1 => walk_at "my lit"); (case hqe2 => walk_at "my lit"); k_whole); all_goals (intro hE9; first | (exfalso; revert hE9; first | decide | (simp; done) | (simp; omega) | (intro h9; exact absurd h9 (by with_reducible assumption)) | (intro h9; exact absurd (by with_reducible assumption) h9)) | ((try simp only [List.cons.injEq, and_true] at hE9); (try dsimp only)))))
  k_with "compareOp In str str!" => ((k_here; k_dflt (refine' s_in ?hqe1 ?hqe2 ?_ ?_; (case hqe1 => walk_at "my lit"); (case hqe2 => walk_at "my lit"); k_whole); all_goals (intro hE9; first | (exfalso; revert hE9; first | decide | (simp; done) | (simp; omega) | (intro h9; exact absurd h9 (by with_reducible assumption)) | (intro h9; exact absurd (by with_reducible assumption) h9)) | (try dsimp only))))
  k_with "compareOp NotIn str str!" => ((k_here; k_dflt (refine' s_notin ?hqe1 ?hqe2 ?_ ?_; (case hqe1 => walk_at "my lit"); (case hqe2 => walk_at "my lit"); k_whole); all_goals (intro hE9; first | (exfalso; revert hE9; first | decide | (simp; done) | (simp; omega) | (intro h9; exact absurd h9 (by with_reducible assumption)) | (intro h9; exact absurd (by with_reducible assumption) h9)) | (try dsimp only))))
  k_with "binaryOp Add str str!" => ((k_here; k_dflt (refine' s_add ?hqe1 ?hqe2 ?hqz ?_; (case hqe1 => walk_at "my lit"); (case hqe2 => walk_at "my lit"); (case hqz => walk_at "my size"); k_whole); intro _ _; (try dsimp only [List.cons_append, List.nil_append])))
  k_with "inplaceOp Add str str!" => ((k_here; k_dflt (refine' s_iadd ?hqe1 ?hqe2 ?hqz ?_; (case hqe1 => walk_at "my lit"); (case hqe2 => walk_at "my lit"); (case hqz => walk_at "my size"); k_whole); intro _ _; (try dsimp only [List.cons_append, List.nil_append])))
  k_with "call builtin:len!" => ((k_here; (with_reducible show wpAny _ _ (call (Value.builtin "len") [Value.str _ _]) _ _ _); k_dflt (refine' s_len ?hqe1 ?hqz ?hqn ?_; (case hqe1 => walk_at "my lit"); (case hqz => walk_at "my size"); (case hqn => first | with_reducible assumption | (simp only [List.length_cons, List.length_nil, Nat.reduceAdd]; exact rfl) | exact rfl); k_whole)))
  k_with "call builtin:ord!" => ((k_here; k_dflt (refine' s_ord ?hqe1 ?_; (case hqe1 => walk_at "my lit"); k_whole)))
  k_with "subscriptTail!" => ((k_here; (with_reducible show wpAny _ _ (subscriptTail _ _ (Value.str _ _) (Value.int _ _)) _ _ _); k_dflt (refine' s_item ?hqe1 ?hqz ?hqc ?_ ?hqs ?hqt; (case hqe1 => walk_at "my lit"); (case hqz => walk_at "my size"); (case hqc => first | with_reducible assumption | exact rfl); (case hqs => with_unfolding_all rfl); (case hqt => (intro _; with_unfolding_all rfl)); k_whole)))
  k_with "subscriptTail!" => ((k_here; (with_reducible show wpAny _ _ (subscriptTail _ (Expr.Slice (some _) (some _) none _) (Value.str _ _) (Value.ref _)) _ _ _); k_dflt (refine' s_slice_ss (s := ⟨_, _, _, _, _⟩) ?hqe1 ?hqF ?hqN ?hqc ?hqz ?_ ?hqs ?hqt; (case hqe1 => walk_at "my lit"); (case hqF => k_asm); (case hqN => k_asm); (case hqc => with_reducible assumption); (case hqz => walk_at "my size"); (case hqs => with_unfolding_all rfl); (case hqt => (intro _; with_unfolding_all rfl)); k_whole); intro _ _ _ _ _; (try k_sweep)))
  k_with "subscriptTail!" => ((k_here; (with_reducible show wpAny _ _ (subscriptTail _ (Expr.Slice (some _) none none _) (Value.str _ _) (Value.ref _)) _ _ _); k_dflt (refine' s_slice_sn (s := ⟨_, _, _, _, _⟩) ?hqe1 ?hqF ?hqN ?hqc ?hqz ?_ ?hqs ?hqt; (case hqe1 => walk_at "my lit"); (case hqF => k_asm); (case hqN => k_asm); (case hqc => with_reducible assumption); (case hqz => walk_at "my size"); (case hqs => with_unfolding_all rfl); (case hqt => (intro _; with_unfolding_all rfl)); k_whole); intro _ _ _ _ _; (try k_sweep)))
  k_with "subscriptTail!" => ((k_here; (with_reducible show wpAny _ _ (subscriptTail _ (Expr.Slice none (some _) none _) (Value.str _ _) (Value.ref _)) _ _ _); k_dflt (refine' s_slice_ns (s := ⟨_, _, _, _, _⟩) ?hqe1 ?hqF ?hqN ?hqc ?hqz ?_ ?hqs ?hqt; (case hqe1 => walk_at "my lit"); (case hqF => k_asm); (case hqN => k_asm); (case hqc => with_reducible assumption); (case hqz => walk_at "my size"); (case hqs => with_unfolding_all rfl); (case hqt => (intro _; with_unfolding_all rfl)); k_whole); intro _ _ _ _ _; (try k_sweep)))
  k_with "subscriptTail Name Slice str ref!" => (walk_at "subscriptTail")
  k_with "subscriptTail Name Constant str int!" => (walk_at "subscriptTail")
  k_with "subscriptTail Name Name str int!" => (walk_at "subscriptTail")
  k_with "subscriptTail Name UnaryOp str int!" => (walk_at "subscriptTail")
  k_with "my openH!" => ((refine con_row ?_; unfold ConH; k_fill; intro _))
  k_with "my hd!" => ((with_reducible first | exact HdC.none | assumption | (refine' HdC.here ?hqq1 ?hqq2 ?hqq3; (case hqq2 => assumption); (case hqq3 => assumption); (case hqq1 => assumption))))
  k_with "getMethod str!" => ((k_here; (with_reducible refine m_tr ?_)))
  k_with "call builtin:str.translate!" => ((k_here; k_dflt (refine' call_trK ?hqk1 ?hqk2 ?hqk3 ?hqk4 ?_; (case hqk1 => k_asm); (case hqk2 => k_asm); (case hqk3 => k_asm); (case hqk4 => assumption); intro t' h' k' F' N'; (try k_sweep))))
  k_with "call type:object!" => ((k_here; k_dflt (refine' call_objK ?hqk1 ?hqk2 ?_; (case hqk1 => k_asm); (case hqk2 => k_asm); k_whole); intro a' h' tk' F' N' l1; (try k_lt l1); (try k_sweep)))
  k_with "getAttr ref!" => ((k_here; k_dflt (refine' getAttr_appK ?hqk1 ?hqk2 ?hqk3 ?_; (case hqk1 => k_asm); (case hqk2 => k_asm); (case hqk3 => k_mem); k_whole); intro a' h' tk' F' N' l1; (try k_lt l1); (try k_sweep)))
  k_with "call ref!" => ((k_here; k_dflt (refine' call_boundK ?hqk1 ?hqk2 ?hqkb ?hqk3 ?_ ?hqz; (case hqk1 => k_asm); (case hqk2 => k_asm); (case hqkb => k_mem); (case hqk3 => k_upd); (case hqz => size_fits); k_whole); intro h' F' N'; (try k_sweep)))
  k_with "unpackItems ref!" => ((k_here; (with_reducible show wpAny _ _ (unpackItems (Value.ref _) _ none) _ _ _); k_dflt (refine' unpackK ?hqk1 ?hqk2 ?hqkh ?hqk3 ?hqk4 ?_; (case hqk1 => k_asm); (case hqk2 => k_asm); (case hqkh => assumption); (case hqk3 => k_mem); (case hqk4 => exact rfl); k_whole); intro h' F' N'; (try k_sweep)))
  k_with "subscriptTail!" => ((k_here; (with_reducible show wpAny _ _ (subscriptTail _ _ (Value.ref _) (Value.int _ _)) _ _ _); k_dflt (refine' item_at ?hqk1 ?hqk2 ?hqk3 ?hqk4 ?hqk5 ?_ ?hqk6; (case hqk1 => k_asm); (case hqk2 => k_mem); (case hqk3 => omega); (case hqk4 => omega); (case hqk5 => with_reducible assumption); (case hqk6 => with_unfolding_all rfl); k_whole)))
  k_with "WhlIf!" => ((first | (refine WhlIf.yes (decide_eq_true (by assumption)) ?_) | (refine WhlIf.no (decide_eq_false (by assumption)) ?_)))
  k_with "call builtin:str.join!" => ((k_here; (with_reducible show wpAny _ _ (call (Value.builtin _) [Value.str _ _, Value.ref _]) _ _ _); k_dflt (refine' join_listK ?hqk1 ?hqk2 ?hqk3 ?hqk4 ?hqk5 ?_; (case hqk1 => k_asm); (case hqk2 => k_mem); (case hqk3 => with_reducible assumption); (case hqk4 => decide +kernel); (case hqk5 => with_reducible assumption); k_whole); intro _ _))
  k_with "compareOp IsNot!" => ((k_here; (with_reducible show wpAny _ _ (compareOp CmpOp.IsNot (Value.str _ _) (Value.ref _)) _ _ _); refine wpAny_isNot_other (by rfl) (by intro x; cases x) ?_))
  k_with "callWith ref!" => ((k_here; (with_reducible show wpAny _ _ (callWith _ (Value.ref _) _ (backTo _ (starEach (_ :: _) _)) []) _ _ _); k_dflt (refine' callWith_app ?hqkfbN ?hqkfbM ?_; (case hqkfbN => k_asm); (case hqkfbM => k_mem); k_whole)))
  k_with "And!" => (((with_reducible show BAt _ _ _ ∧ _); refine ⟨bat_of (by assumption) (by k_mem), ?_⟩))
  k_with "my cat!" => (first | with_reducible exact empty_ofL | walk_at "my lit" | ((with_reducible apply cat_ofL); (focus walk_at "my cat"); (focus walk_at "my cat")))
  k_with "formatField str!" => ((k_here; k_dflt (refine' fieldK ?hqe1 ?hqz ?_; (case hqe1 => walk_at "my lit"); (case hqz => walk_at "my size"); k_whole); intro _ _))
  k_with "joinParts!" => ((k_here; (first | (with_reducible show wpAny _ _ (joinParts _ []) _ _ _) | (with_reducible show wpAny _ _ (joinParts _ (evalEach [] _)) _ _ _)); k_dflt (refine' jp_nil ?hqe1 ?hqz ?_; (case hqe1 => walk_at "my cat"); (case hqz => walk_at "my size"); k_whole)))
  k_with "le!" => ((k_here; (with_reducible show PySem.Str.length (_ ++ _) ≤ sizeLine); (refine' le_cat ?hqe1 ?hqe2 ?hqz; (case hqe1 => walk_at "my cat"); (case hqe2 => walk_at "my cat"); (case hqz => walk_at "my size"))))
  k_with "call builtin:str.join!" => ((k_here; (with_reducible show wpAny _ _ (call (Value.builtin _) [Value.str _ _, Value.ref _]) _ _ _); k_dflt (refine' joinE_K ?hqk1 ?hqk2 ?hqk3 ?hqk5 ?_; (case hqk1 => k_asm); (case hqk2 => k_mem); (case hqk3 => with_reducible assumption); (case hqk5 => with_reducible assumption); k_whole); intro _ _))
  k_with "BAt!" => (exact bat_of (by assumption) (by k_mem))
  k_with "my samew!" => ((
  intro z z2 z3
  simp only [List.forall_mem_cons, List.not_mem_nil, false_implies, implies_true, and_true, ne_eq] at z2
  simp only [List.contains_cons, List.contains_nil, Bool.or_false, Bool.or_eq_false_iff, beq_eq_false_iff_ne, ne_eq] at z3
  first | rfl | (simp [kstB, z2, z3]; done) | (simp [kstB, z2]; done) | fail "my samew"))
  k_with "my at!" => (first
  | exact at_off (k := 0) (by with_reducible assumption) (by omega) rfl
  | exact at_off (k := 1) (by with_reducible assumption) (by omega) rfl
  | exact at_off (k := 2) (by with_reducible assumption) (by omega) rfl
  | exact at_off (k := 3) (by with_reducible assumption) (by omega) rfl
  | exact at_off (k := 4) (by with_reducible assumption) (by omega) rfl
  | exact at_off (k := 5) (by with_reducible assumption) (by omega) rfl
  | exact at_off (k := 6) (by with_reducible assumption) (by omega) rfl
  | exact at_off (k := 7) (by with_reducible assumption) (by omega) rfl
  | exact at_off (k := 8) (by with_reducible assumption) (by omega) rfl)
  k_with "subscriptTail!" => ((k_here; (with_reducible show wpAny _ _ (subscriptTail _ _ (Value.str _ _) (Value.int _ _)) _ _ _); k_dflt (refine' s_item ?hqe1 ?hqz ?hqc ?_ ?hqs ?hqt; (case hqe1 => walk_at "my lit"); (case hqz => walk_at "my size"); (case hqc => walk_at "my at"); (case hqs => with_unfolding_all rfl); (case hqt => (intro _; with_unfolding_all rfl)); k_whole)))
  k_with "compareOp Lt int int!" => ((k_here; first | refine lt_yes (by omega) ?_ | refine lt_no (by omega) ?_))
  k_with "compareOp GtE int int!" => ((k_here; first | refine ge_yes (by omega) ?_ | refine ge_no (by omega) ?_))
  k_with "my cutout!" => (first
  | exact slice_off 1 2 (by with_reducible assumption) (by omega) (by omega) (by omega) (by decide) rfl
  | exact slice_off 1 8 (by with_reducible assumption) (by omega) (by omega) (by omega) (by decide) rfl
  | exact slice_off 1 3 (by with_reducible assumption) (by omega) (by omega) (by omega) (by decide) rfl
  | exact slice_off 4 6 (by with_reducible assumption) (by omega) (by omega) (by omega) (by decide) rfl
  | exact slice_off 7 8 (by with_reducible assumption) (by omega) (by omega) (by omega) (by decide) rfl)
  k_with "subscriptTail!" => ((k_here; (with_reducible show wpAny _ _ (subscriptTail _ (Expr.Slice (some _) (some _) none _) (Value.str _ _) (Value.ref _)) _ _ _); k_dflt (refine' s_slice_ss (s := ⟨_, _, _, _, _⟩) ?hqe1 ?hqF ?hqN ?hqc ?hqz ?_ ?hqs ?hqt; (case hqe1 => walk_at "my lit"); (case hqF => k_asm); (case hqN => k_asm); (case hqc => walk_at "my cutout"); (case hqz => walk_at "my size"); (case hqs => with_unfolding_all rfl); (case hqt => (intro _; with_unfolding_all rfl)); k_whole); intro _ _ _ _ _; (try simp only [List.drop, List.take, List.cons_append, List.nil_append, Nat.reduceSub]); (try k_sweep)))
  k_with "call builtin:str.replace!" => ((k_here; k_dflt (refine' replace_none ?hqe1 ?hqe2 ?hqhd ?_; (case hqe1 => walk_at "my lit"); (case hqe2 => walk_at "my lit"); (case hqhd => first | decide | (simp only [List.mem_cons, List.not_mem_nil, or_false]; omega)); k_whole)))
  k_with "getMethod ref!" => ((k_here; (with_reducible show wpAny _ _ (getMethod (Value.ref 43) (PySem.Str.ofString "sub") _) _ _ _); k_dflt (refine' m_sub ?hqk1 ?hqk2 ?_; (case hqk1 => k_asm); (case hqk2 => k_asm); k_whole)))
  k_with "call builtin:re.Pattern.sub!" => ((k_here; k_dflt (refine' call_subK ?hqk1 ?hqk2 ?hqk3 ?hqk4 ?hqk5 ?hqe1 ?hqhx ?hqz1 ?hqz2 ?_; (case hqk1 => k_asm); (case hqk2 => k_asm); (case hqk3 => k_asm); (case hqk4 => k_mem); (case hqk5 => with_reducible assumption); (case hqe1 => walk_at "my lit"); (case hqhx => with_reducible assumption); (case hqz1 => walk_at "my size"); (case hqz2 => exact Nat.zero_lt_succ _); k_whole); intro h' t' k' F' N'; (try k_sweep)))
  k_with "eval Lambda!" => ((k_here; kn_here; k_dflt (refine' kla_eval ?hqd0 ?_; (case hqd0 => exact rfl)); (k_dflt (refine' lam_any ?hqF ?hqN ?hqT ?hqC ?hqcd ?hqU ?hqt ?hqcl ?_; (case hqF => k_asm); (case hqN => k_asm); (case hqT => k_asm); (case hqcd => exact rfl); (case hqC => kn_code); (case hqU => k_updF); (case hqt => with_reducible assumption); (case hqcl => exact rfl); k_whole); intro f' fo' ps' h' tk' ht' hf' F' N' l1; (try dsimp only at N'); (try k_lt l1))))
  k_with "truthy str!" => ((k_here; k_dflt (refine' truthyK ?hqe1 ?hqz ?_; (case hqe1 => walk_at "my lit"); (case hqz => walk_at "my size"); k_whole); intro _))
  k_with "my openG!" => ((refine con_row ?_; unfold ConG; k_fill; intro _))
  k_with "KgPost!" => ((dsimp only [KgPost]))
  k_with "call builtin:str.find!" => ((k_here; first
  | (refine' find_here 3 8 ?hqe1 ?hqe2 ?hqhx ?hqhi ?hqhj ?hqhb ?hqhab ?hqhc ?_; (case hqe1 => walk_at "my lit"); (case hqe2 => walk_at "my lit"); (case hqhx => with_reducible assumption); (case hqhi => omega); (case hqhj => omega); (case hqhb => omega); (case hqhab => decide); (case hqhc => exact rfl))
  | (refine' find_here 6 8 ?hqe1 ?hqe2 ?hqhx ?hqhi ?hqhj ?hqhb ?hqhab ?hqhc ?_; (case hqe1 => walk_at "my lit"); (case hqe2 => walk_at "my lit"); (case hqhx => with_reducible assumption); (case hqhi => omega); (case hqhj => omega); (case hqhb => omega); (case hqhab => decide); (case hqhc => exact rfl))
  | (refine' find_past 9 8 ?hqe1 ?hqhx ?hqhi ?hqhj ?hqhb ?hqhab ?_; (case hqe1 => walk_at "my lit"); (case hqhx => with_reducible assumption); (case hqhi => omega); (case hqhj => omega); (case hqhb => omega); (case hqhab => decide))))
  k_with "subscriptTail Name Name ref int!" => (walk_at "subscriptTail")
  k_with "subscriptTail Name BinOp ref int!" => (walk_at "subscriptTail")
  trivial

-- c1
/-- the run stands beneath the claim's caller -/
def hasC (Γ : Ctx) : Bool := Γ.code.isCaller || Γ.below.any (·.1.isCaller)
/-- `wpAny` for the runs beneath the claim's caller alone -/
def wpC {α : Type} (M : Model) (A : Around) (t : Sem α) (Q : α → Shared → Prop) (E : Value → Shared → Prop) (s : Shared) : Prop :=
  ∀ Γ p, Γ.In A → hasC Γ = true → Sem.wp M Γ t (fun a _ s' => Q a s') (fun e _ s' => E e s') p s
def codeC (M : Model) (A : Around) (c : PySem.Code) (R : Result → Shared → Prop) (s : Shared) : Prop :=
  ∀ Γ p, Γ.code = c → Γ.Below A → Γ.below.any (·.1.isCaller) = true → wpCode M Γ R p s
section
variable {α β : Type} {M : Model} {A : Around} {E : Value → Shared → Prop} {s : Shared}
theorem wpC_any {t : Sem α} {Q : α → Shared → Prop} (h : wpAny M A t Q E s) : wpC M A t Q E s := fun Γ p hΓ _ => h Γ p hΓ
theorem codeC_any {c : PySem.Code} {R : Result → Shared → Prop} (h : codeAny M A c R s) : codeC M A c R s := fun Γ p hc hΓ _ => h Γ p hc hΓ
theorem wpC_mono {t : Sem α} {Q Q' : α → Shared → Prop} {E' : Value → Shared → Prop} (h : wpC M A t Q E s) (hQ : ∀ a s, Q a s → Q' a s) (hE : ∀ e s, E e s → E' e s) : wpC M A t Q' E' s :=
  fun Γ p hΓ hC => Sem.wp_mono M Γ t (fun a _ s => hQ a s) (fun e _ s => hE e s) p s (h Γ p hΓ hC)
theorem wpC_pure {a : α} {Q : α → Shared → Prop} (h : Q a s) : wpC M A (pure a) Q E s := wpC_any (wpAny_pure h)
theorem wpC_bind {m : Sem α} {f : α → Sem β} {Q : β → Shared → Prop} (h : wpC M A m (fun a s' => wpC M A (f a) Q E s') E s) : wpC M A (m >>= f) Q E s := fun Γ p hΓ hC => by
  rw [Sem.wp_bind']
  exact Sem.wp_mono M Γ m (fun a p' s' h' => h' Γ p' hΓ hC) (fun _ _ _ h' => h') p s (h Γ p hΓ hC)
/-- what comes ahead is walked for any run -/
theorem wpC_abind {m : Sem α} {f : α → Sem β} {Q : β → Shared → Prop} (h : wpAny M A m (fun a s' => wpC M A (f a) Q E s') E s) : wpC M A (m >>= f) Q E s := wpC_bind (wpC_any h)
theorem wpC_tryCatch {m : Sem α} {k : Value → Sem α} {Q : α → Shared → Prop} (h : wpC M A m Q (fun e s' => wpC M A (k e) Q E s') s) : wpC M A (tryCatch m k) Q E s := fun Γ p hΓ hC => by
  rw [Sem.wp_tryCatch']
  exact Sem.wp_mono M Γ m (fun _ _ _ h' => h') (fun e p' s' h' => h' Γ p' hΓ hC) p s (h Γ p hΓ hC)
theorem wpC_onRaise {m : Sem α} {k : Value → Sem Unit} {Q : α → Shared → Prop} (h : wpC M A m Q (fun e s' => wpC M A (k e) (fun _ s'' => E e s'') E s') s) : wpC M A (m.onRaise k) Q E s := fun Γ p hΓ hC => by
  rw [Sem.wp_onRaise]
  exact Sem.wp_mono M Γ m (fun _ _ _ h' => h') (fun e p' s' h' => h' Γ p' hΓ hC) p s (h Γ p hΓ hC)
theorem wpC_attempt {m : Sem α} {Q : Except Value α → Shared → Prop} (h : wpC M A m (fun a => Q (.ok a)) (fun e => Q (.error e)) s) : wpC M A m.attempt Q E s := fun Γ p hΓ hC => by rw [Sem.wp_attempt]; exact h Γ p hΓ hC
theorem wpC_holding {vs : List Value} {m : Sem α} {Q : α → Shared → Prop} (h : wpC M A m Q E s) : wpC M A (holding vs m) Q E s := fun Γ p hΓ hC => by rw [Sem.wp_holding]; exact h Γ p hΓ hC
theorem hasC_enter {Γ : Ctx} {c : PySem.Code} {h : Option Value} {p : Pos} (hC : hasC Γ = true) : (Γ.enter c h p).below.any (·.1.isCaller) = true := by
  show ((Γ.code, p) :: Γ.below).any (·.1.isCaller) = true
  rw [List.any_cons]; exact hC
theorem hasC_of_below {Γ : Ctx} (h : Γ.below.any (·.1.isCaller) = true) : hasC Γ = true := by unfold hasC; rw [h, Bool.or_true]
theorem wpC_run {c : PySem.Code} {h : Option Value} {Q : Flow → Shared → Prop} (hc : codeC M (A.mark h) c (fun r s' => match r with | .ok f => Q f s' | .error e => E e s') s) (hnb : h ≠ some byPass := by intro x; cases x) : wpC M A (run c h) Q E s :=
  fun Γ p hΓ hC => by rw [Sem.wp_run]; exact hc _ p rfl (hΓ.enter c h p hnb) (hasC_enter hC)
theorem wpC_runValue {c : PySem.Code} {Q : Value → Shared → Prop} (hc : codeC M A c (fun r s' => match r with | .ok (.ret v) => Q v s' | .ok _ => False | .error e => E e s') s) : wpC M A (runValue c) Q E s :=
  fun Γ p hΓ hC => by rw [Sem.wp_runValue]; exact hc _ p rfl (hΓ.enter c none p (by intro x; cases x)) (hasC_enter hC)
theorem wpC_call {f : Value} {pos : List Value} {kw : List (PySem.Str × Value)} {Q : Value → Shared → Prop} (hc : codeC M A (.call f ⟨pos, kw⟩) (fun r s' => match r with | .ok (.ret v) => Q v s' | .ok _ => False | .error e => E e s') s) : wpC M A (call f pos kw) Q E s := wpC_runValue hc
theorem codeC_of_tree {c : PySem.Code} {R : Result → Shared → Prop} (h : wpC M (A.under c) (M.den c) (fun fin s' => match fin with | .done f => R (.ok f) s' | .again c' => c'.quiet = true ∧ codeC M A c' R s') (fun e s' => R (.error e) s') s) : codeC M A c R s := fun Γ p hc hΓ hC => by
  rw [wpCode_iff_wp, hc]
  refine Sem.wp_mono M Γ _ (fun fin p' s' h' => ?_) (fun _ _ _ h' => h') p s (h Γ p (hc ▸ hΓ.in) (hasC_of_below hC))
  cases fin with
  | done f => exact h'
  | again c' => exact ⟨h'.1, h'.2 (Γ.goto c') p' rfl (hΓ.goto c') hC⟩
theorem codeC_mono {c : PySem.Code} {R R' : Result → Shared → Prop} (h : codeC M A c R s) (hR : ∀ r s, R r s → R' r s) : codeC M A c R' s := fun Γ p hc hΓ hC => wpCode_mono hR (h Γ p hc hΓ hC)
/-- the binder's refusal leaves no mark beneath the claim's caller -/
theorem wpC_noMark {own : List String} {e : Value} {Q : Unit → Shared → Prop} (h : Q () s) : wpC M A (markTheRefusal own e) Q E s := fun Γ p hΓ hC => by
  unfold markTheRefusal
  rw [Sem.wp_bind']
  show Sem.wp M Γ (if pythonCodeMadeTheCall own ((((Γ.code, p) :: Γ.below)).map (·.1)) = true then _ else _) _ _ p s
  have : pythonCodeMadeTheCall own ((((Γ.code, p) :: Γ.below)).map (·.1)) = false := by
    cases hx : pythonCodeMadeTheCall own ((((Γ.code, p) :: Γ.below)).map (·.1)) with
    | false => rfl
    | true =>
      exfalso
      unfold pythonCodeMadeTheCall at hx
      simp only [Bool.and_eq_true, Bool.not_eq_true'] at hx
      have h1 := hx.1.1
      have h2 : (((Γ.code, p) :: Γ.below).map (·.1)).any PySem.Code.isCaller = true := by rw [List.any_map]; exact hC
      exact Bool.noConfusion (h2.symm.trans h1)
  rw [this, if_neg (by decide)]
  exact h
end

-- c2
section
variable {prog : Program} {w : World} {A : Around} {E : Value → Shared → Prop} {s : Shared} {env : Env}
theorem wpC_execs_nil {Q : Flow → Shared → Prop} (h : Q .next s) : wpC (model prog w) A (execs [] env) Q E s := wpC_any (wpAny_execs_nil h)
/-- what the rest of a suite wants -/
def RestC (prog : Program) (w : World) (A : Around) (rest : List Stmt) (env : Env) (Q : Flow → Shared → Prop) (E : Value → Shared → Prop) (f : Flow) (s : Shared) : Prop :=
  match f with
  | .next => wpC (model prog w) A (execs rest env) Q E s
  | f => Q f s
theorem wpC_execs_path {st : Stmt} {rest : List Stmt} {Q : Flow → Shared → Prop} (h : wpC (model prog w) A (exec st env) (RestC prog w A rest env Q E) E s) : wpC (model prog w) A (execs (st :: rest) env) Q E s := by
  rw [execs_cons]
  refine wpC_bind (wpC_mono h (fun f s₁ h₁ => ?_) fun _ _ x => x)
  cases f with
  | next => exact h₁
  | _ => exact wpC_pure h₁
theorem wpC_execs_any {st : Stmt} {rest : List Stmt} {Q : Flow → Shared → Prop} (h : wpAny (model prog w) A (exec st env) (RestC prog w A rest env Q E) E s) : wpC (model prog w) A (execs (st :: rest) env) Q E s := wpC_execs_path (wpC_any h)
theorem wpC_Return {e : Expr} {pos : Pos} {Q : Flow → Shared → Prop} (h : wpC (model prog w) A (eval e env) (fun v => Q (.ret v)) E s) : wpC (model prog w) A (exec (.Return (some e) pos) env) Q E s := by
  rw [exec_Return_some]
  exact wpC_abind (wpAny_standAt (wpC_bind (wpC_mono h (fun v s₁ h₁ => wpC_pure h₁) fun _ _ x => x)))
theorem wpC_Try {body orelse : List Stmt} {h₀ : ExceptHandler} {hs : List ExceptHandler} {pos : Pos} {Q : Flow → Shared → Prop}
    (h : wpC (model prog w) A (execs body env) (fun f s₁ => match f with | .next => wpC (model prog w) A (execs orelse env) Q E s₁ | f => Q f s₁)
      (fun e s₁ => wpAny (model prog w) A (noteFrame e env) (fun _ s₂ => wpAny (model prog w) A (setFlight e none) (fun _ s₃ => wpAny (model prog w) A (handleBy e env (h₀ :: hs)) Q E s₃) E s₂) E s₁) s) :
    wpC (model prog w) A (exec (.Try body (h₀ :: hs) orelse [] pos) env) Q E s := by
  rw [arm_exec_Try]
  refine wpC_abind (wpAny_standAt ?_)
  unfold tryStmt
  simp only [List.isEmpty_nil, if_true]
  refine wpC_bind (wpC_attempt (wpC_mono h (fun f s₁ h₁ => ?_) fun e s₁ h₁ => ?_))
  · cases f with
    | next => exact h₁
    | _ => exact wpC_pure h₁
  · refine wpC_any (wpAny_bind (wpAny_mono h₁ (fun _ s₂ h₂ => ?_) fun _ _ x => x))
    simp only [List.isEmpty_cons, Bool.false_eq_true, if_false, Bool.false_and]
    exact wpAny_bind (wpAny_mono h₂ (fun _ s₃ h₃ => h₃) fun _ _ x => x)
theorem codeC_func {body : List Stmt} {R : Result → Shared → Prop}
    (h : wpC (model prog w) (A.deeper env) (execs body env) (fun f s' => R (.ok (.ret (match f with | .ret v => v | _ => .none))) s')
      (fun e s' => wpAny (model prog w) (A.deeper env) (leaving env e) (fun _ s'' => R (.error e) s'') (fun e' s'' => R (.error e') s'') s') s) :
    codeC (model prog w) A (.func body env) R s := by
  refine codeC_of_tree ?_
  show wpC _ (A.deeper env) (do point; match ← (execs body env).onRaise (leaving env) with | .ret v => ret v | _ => ret .none) _ _ s
  refine wpC_abind (wpAny_point (wpC_bind (wpC_onRaise (wpC_mono h (fun f s' h' => ?_) fun _ _ h' => wpC_any h'))))
  cases f <;> exact wpC_pure h'
theorem codeC_call_function {a : Addr} {args : Args} {o : Obj} {fd : FuncData} {body : List Stmt} {R : Result → Shared → Prop} (hroom : A.depth < recursionLimit)
    (ho : s.heap.get? a = some o) (hd' : o.data = .func fd) (hco : fd.scope.isCoroutine = false) (hgen : fd.scope.isGenerator = false) (hbody : fd.body = .stmts body) (hcd : s.heap.CodeRec fd.code fd.qualname)
    (h : wpC (model prog w) A.in1 (bindArgs fd args) (fun binds s₁ =>
      wpAny (model prog w) A.in1 (newFunctionEnv fd.scope fd.globals fd.closure binds (fd.qualname ++ ".<locals>.") (some a) fd.code none fd.builtins)
        (fun env s₂ => s₂.heap.NoLimit ∧ codeC (model prog w) A (.func body env) R s₂) (fun e s' => R (.error e) s') s₁) (fun e s' => R (.error e) s') s) :
    codeC (model prog w) A (.call (.ref a) args) R s := by
  refine codeC_of_tree ?_
  show wpC _ A.in1 (callAny (.ref a) args) _ _ s
  simp only [callAny]
  refine wpC_abind (wpAny_load ho ?_)
  obtain ⟨c, oc, vs, tq, hc, hoc, hdc, hq⟩ := hcd
  simp only [hd', callFunction, hco, hgen, hbody, hc]
  rw [hc] at h
  refine wpC_abind (m := field (.ref c) 1) (wpAny_field hoc hdc hq ?_)
  show wpC _ _ (do let compiled ← pure fd.qualname; let binds ← bindArgs fd args; let env ← newFunctionEnv fd.scope fd.globals fd.closure binds (compiled ++ ".<locals>.") (some a) (.ref c) none fd.builtins; enterFrame; again (.func body env)) _ _ _
  refine wpC_abind (wpAny_pure ?_)
  exact wpC_bind (wpC_mono h (fun binds s₁ h₁ => wpC_abind (wpAny_mono h₁ (fun env s₂ h₂ => wpC_abind (wpAny_enterFrame h₂.1 hroom (wpC_pure (And.intro rfl h₂.2)))) fun _ _ h' => h')) fun _ _ h' => h')
theorem codeC_call_def {R : Result → Shared → Prop} {a : Addr} {o : Obj} {fd : FuncData} {body : List Stmt} {args : Args} {binds : List (PySem.Str × Value)}
    (hroom : A.depth < recursionLimit) (ho : s.heap.get? a = some o) (hdata : o.data = .func fd) (hlim : s.heap.NoLimit) (hcd : s.heap.CodeRec fd.code fd.qualname)
    (hbody : fd.body = .stmts body) (hbind : BindsTo s fd args binds)
    (hcell : ∀ x ∈ fd.scope.names, x.2 ≠ .cell) (hloc : ∀ x ∈ binds, fd.scope.names.lookup x.1 = some .local)
    (h : ∀ h₀, h₀.Ns s.heap.objs.size (fun x => binds.reverse.lookup x) → (∀ b o, s.heap.get? b = some o → h₀.get? b = some o) →
      wpC (model prog w) (A.deeper (callEnv fd s.heap.objs.size a)) (execs body (callEnv fd s.heap.objs.size a)) (fun f s' => R (.ok (.ret (match f with | .ret v => v | _ => .none))) s')
        (fun e s' => wpAny (model prog w) (A.deeper (callEnv fd s.heap.objs.size a)) (leaving (callEnv fd s.heap.objs.size a) e) (fun _ s'' => R (.error e) s'') (fun e' s'' => R (.error e') s'') s')
        { s with heap := h₀, toks := s.toks + binds.length })
    (hco : fd.scope.isCoroutine = false := by rfl) (hgen : fd.scope.isGenerator = false := by rfl) (hk : fd.scope.kind = .function := by rfl) :
    codeC (model prog w) A (.call (.ref a) args) R s := by
  refine codeC_call_function hroom ho hdata hco hgen hbody hcd (wpC_any (hbind _ _ _ _ ?_))
  refine wpAny_newFunctionEnv hcell hloc (fun h₀ hns₀ hsb₀ => ⟨hlim.fresh _ hsb₀, codeC_func (h h₀ hns₀ fun b o e => ?_)⟩) hk
  exact hsb₀.extBut b o (Nat.ne_of_lt (Heap.lt_size e)) (Heap.get?_push_of_some _ e)
end
section
variable {prog : Program} {w : World} {A A₀ : Around} {E : Value → Shared → Prop} {s : Shared} {h₀ base : Heap} {L : Addr} {m mg mb : PySem.Str → Option Value} {news : List (Addr × Obj)} {p : Program} {loose : List PySem.Str} {mean : ExcName → Option Value}
/-- a call of a def of the text's, beneath the claim's caller -/
theorem code_defC1 {hd : Option Value} {K : Frag} {env : Env} {outer : List Env} {R : Result → Shared → Prop} {name qual : PySem.Str} {params : Arguments} {body : List Stmt} {scope : Scope} {dV kV doc pm cdv ct oc : Value} {an od : Option Addr} {osl : Array (Option Value)} {f : Addr} {args : Args} {binds : List (PySem.Str × Value)}
    (B : Below A₀ base outer h₀) (F : Fr h₀ L s.heap m) (X₀ : K.In h₀) (N : News h₀ L s.heap news) (T : Top p loose mean mg mb h₀) (hH : HdC hd s.heap news) (hA : A.frames = some (env :: outer)) (hf : env.frame = some L) (hke : env.scope.kind = .function)
    (ho : K.lookup f = some ⟨oc, od, .func (fnOf name qual params body scope dV kV doc pm an cdv ct), osl⟩) (hcd : codeIn K cdv qual = true) (hroom : A.depth < recursionLimit)
    (hbind : BindsTo s (fnOf name qual params body scope dV kV doc pm an cdv ct) args binds) (hloc : ∀ y ∈ binds, scope.names.lookup y.1 = some .local)
    (h : ∀ g L' h₁, Fr h₀ L g m → Fr g L' h₁ (fun y => binds.reverse.lookup y) → News g L' h₁ news → Below A base (env :: outer) g → K.In g → Top p loose mean mg mb g → Hd hd g →
      wpC (model prog w) (A.deeper (envOf qual scope L' f cdv)) (execs body (envOf qual scope L' f cdv))
        (fun fl s' => LeaveK h₀ L m g R (match fl with | .ret v => v | _ => .none) s')
        (fun e s' => wpAny (model prog w) (A.deeper (envOf qual scope L' f cdv)) (leaving (envOf qual scope L' f cdv) e) (fun _ s'' => R (.error e) s'') (fun e' s'' => R (.error e') s'') s')
        { s with heap := h₁, toks := s.toks + binds.length })
    (hco : scope.isCoroutine = false) (hgen : scope.isGenerator = false) (hk : scope.kind = .function)
    (hcell : ∀ x ∈ scope.names, x.2 ≠ .cell) : codeC (model prog w) A (.call (.ref f) args) R s := by
  obtain ⟨FG, BG, st, lv⟩ := groundX (R := R) B F N hA hf hke
  refine codeC_call_def (fd := fnX name qual params body scope [] dV kV doc pm an cdv ct) (body := body) (binds := binds) hroom ((X₀.keeps F.keep) _ _ ho) rfl (T.nolimit.keeps F.keep) (codeRec_of (X₀.keeps F.keep) hcd) rfl hbind hcell hloc (fun h₁ hns hk₁ => ?_) hco hgen hk
  exact wpC_mono (h _ s.heap.objs.size h₁ FG ⟨hns, fun b o e => hk₁ b o (of_hideAll _ e), Nat.le_of_eq (hideAll_size _ _)⟩
    (fun p hp => ⟨hk₁ _ _ (N p hp).1, Nat.ne_of_lt (Heap.lt_size (N p hp).1), hideAll_none _ (List.mem_map_of_mem hp)⟩) BG (X₀.keeps st) (T.keeps st)
    (fun v e => by
      obtain ⟨a, b, ⟨o, vs, c1, c2, c3⟩, d⟩ := hH v e
      exact ⟨a, b, o, vs, hideAll_get _ c1 d, c2, c3⟩)) (fun fl s' hl => lv _ _ hl) fun _ _ y => y
end

-- c3
/-- `typeOf` and its kin of a thing of the heap -/
theorem looks_ofObj {M : Model} {h : Heap} {a : Addr} {o : Obj} (e : h.get? a = some o) : Looks M h (typeOf (.ref a)) o.cls := (Looks.ld e).andThen .now
abbrev pairObj (dx : Addr) (va vb : Value) : Obj := { cls := .ref 210, dict := some dx, data := .seq #[va, vb] }
section
variable {w : World} {A : Around} {s : Shared}
theorem codeC_builtin_call {id : String} {b : Builtin} {args : Args} {R : Result → Shared → Prop} (hq : (PySem.Code.builtin id args).quiet = true) (he : entryFor table id = some b)
    (hc : wpAny (model PySem.Challenge.pw_ij0084_01 w) (A.under (.call (.builtin id) args)) (checkBuiltinCall id args) (fun _ s' => s' = s) (fun _ _ => False) s)
    (h : wpC (model PySem.Challenge.pw_ij0084_01 w) (A.under (.builtin id args)) (b args) (fun fin s' => match fin with | .done f => R (.ok f) s' | .again c' => c'.quiet = true ∧ codeC (model PySem.Challenge.pw_ij0084_01 w) A c' R s') (fun e s' => R (.error e) s') s) :
    codeC (model PySem.Challenge.pw_ij0084_01 w) A (.call (.builtin id) args) R s := by
  refine codeC_of_tree ?_
  show wpC _ _ (callAny (.builtin id) args) _ _ s
  unfold callAny
  refine wpC_abind (wpAny_mono hc (fun _ s' e => ?_) fun _ _ x => x.elim)
  subst e
  refine wpC_pure ⟨hq, codeC_of_tree ?_⟩
  show wpC _ _ (match entryFor table id with | some b => b args | none => _) _ _ s'
  rw [he]
  exact h
theorem sp_call (P : Params) : specialIn (K P) (.ref 210) "__call__" = some (some (.builtin "type.__call__")) := by kernel_rfl
theorem sp_init (P : Params) : findIn (K P) (.ref 210) "__init__" = some (some (.builtin "object.__init__")) := by kernel_rfl
theorem inst_pair (P : Params) : instIn (K P) (.ref 210) (.type "type") = some true := by kernel_rfl
theorem sub_pair (P : Params) : mroIn (K P) 210 (.ref 210) = some true := by kernel_rfl
theorem find_new (P : Params) : findCls (K P) (.ref 210) (.type "type") "__new__" = some (.get (.builtin "staticmethod.__get__") (.ref 188) .none (.ref 210)) := by kernel_rfl
theorem reads_pair (P : Params) : readsIn (K P) 210 (.type "type") = true := by kernel_rfl
theorem rec_sm (P : Params) : recIn (K P) 188 "staticmethod" = some [.ref 137] := by kernel_rfl
def pairMro : List Value := [.ref 210, .ref 187, .type "tuple", .type "object"]
theorem looks_pairMro {M : Model} {P : Params} {h : Heap} (X : (K P).In h) : Looks M h (mroOf (.ref 210)) pairMro := ((Looks.ld (part := none) (X 210 _ rfl)).andThen .now).andThen .now
theorem looks_madeBy {P : Params} {h : Heap} (X : (K P).In h) {M : Model} : Looks M h (Bind.madeBy (.ref 210)) none := fun A Q E s k q => by
  unfold Bind.madeBy
  refine wpAny_bind ((looks_pairMro X).keeps k |>.here ?_)
  rw [show pairMro = .ref 210 :: [.ref 187, .type "tuple", .type "object"] from rfl, List.forIn_cons]
  refine wpAny_bind (wpAny_bind (wpAny_bind (wpAny_bind (wpAny_loadPart (k _ _ (X 210 _ rfl)) (wpAny_pure ?_)))))
  exact wpAny_pure (wpAny_pure (wpAny_pure q))
theorem init_pair {A : Around} {P : Params} {M : Model} {E : Value → Shared → Prop} {s : Shared} {x : Addr} {o : Obj} {args : List Value} {Q : Fin → Shared → Prop} (X : (K P).In s.heap) (hx : s.heap.get? x = some o) (ho : o.cls = .ref 210) (h : Q (.done (.ret .none)) s) :
    wpAny M A (Builtin.«object.__init__» ⟨.ref x :: args, []⟩) Q E s := by
  unfold Builtin.«object.__init__»
  dsimp only
  split
  · refine wpAny_bind (Looks.here (looks_ofObj hx) ?_)
    rw [ho]
    refine wpAny_bind (Looks.here (looks_findIn X (sp_init _)) ?_)
    refine wpAny_bind (Looks.here (looks_madeBy X) ?_)
    exact wpAny_pure h
  · exact wpAny_pure h
theorem codeC_pair {args : List Value} {R : Result → Shared → Prop} (X : (K w.params).In s.heap)
    (h : wpC (model PySem.Challenge.pw_ij0084_01 w) (A.under (.builtin "type.__call__" ⟨.ref 210 :: args, []⟩)) (call (.ref 137) (.ref 210 :: args))
      (fun v s' => ∃ x dx va vb, v = .ref x ∧ s'.heap.get? x = some (pairObj dx va vb) ∧ (K w.params).In s'.heap ∧ R (.ok (.ret (.ref x))) s') (fun e s' => R (.error e) s') { s with toks := s.toks + 1 }) :
    codeC (model PySem.Challenge.pw_ij0084_01 w) A (.call (.ref 210) ⟨args, []⟩) R s := by
  refine codeC_of_tree ?_
  show wpC _ _ (callAny (.ref 210) _) _ _ _
  unfold callAny
  refine wpC_abind (wpAny_load (X 210 _ rfl) ?_)
  show wpC _ _ (callAny.viaDunder (.ref 210) _) _ _ _
  unfold callAny.viaDunder
  refine wpC_abind (Looks.here (looks_specialIn X (sp_call _)) ?_)
  dsimp only
  rw [tc_bind]
  refine wpC_abind (wpAny_pure (wpC_abind (wpAny_pure ?_)))
  refine wpC_pure (And.intro rfl ?_)
  refine codeC_builtin_call (Code.quiet_builtin _ (by decide +kernel)) entry_typeCall (check_slot tc_kind tc_split (looks_instIn X (inst_pair _)) (tc_args _ _ _) rfl) ?_
  unfold Builtin.«type.__call__»
  show wpC _ _ (if (Value.ref 210 == Value.type "type") = true then _ else _) _ _ _
  rw [if_neg (by decide)]
  show wpC _ _ (mroOf (.ref 210) >>= _) _ _ _
  refine wpC_abind (Looks.here (looks_pairMro X) ?_)
  rw [if_neg (by decide)]
  refine wpC_abind (Looks.here (looks_madeBy X) ?_)
  show wpC _ _ (getAttr (.ref 210) "__new__" >>= _) _ _ _
  refine wpC_abind (cls_bind X (reads_pair _) (find_new _) (wpAny_call (sm_get (s := { s with toks := s.toks + 1 }) X (rec_sm _) (handed_on rfl ?_))))
  refine wpC_bind (wpC_holding (wpC_mono h (fun v s' hv => ?_) fun _ _ x => x))
  obtain ⟨x, dx, va, vb, rfl, hx, X', hR⟩ := hv
  refine wpC_any ?_
  refine wpAny_bind (Looks.here ((looks_ofObj hx).andThen (looks_mroIn X' (sub_pair _))) ?_)
  rw [if_neg (by decide)]
  refine wpAny_bind (wpAny_holding ?_)
  unfold callSpecial? specialOf
  refine wpAny_bind (Looks.here ((looks_ofObj hx).andThen (looks_findIn X' (sp_init _))) ?_)
  dsimp only
  refine wpAny_holding ?_
  rw [oi_bind]
  refine wpAny_bind (wpAny_pure ?_)
  refine wpAny_bind (wpAny_call (codeAny_call_builtin oi_plain entry_oi (check_slot oi_kind oi_split ((looks_ofObj hx).andThen (looks_mroIn X' (show mroIn (K w.params) 210 (.type "object") = some true by kernel_rfl))) (by unfold argsOk; kernel_rfl) ?_)))
  refine init_pair X' hx rfl ?_
  exact wpAny_pure (wpAny_pure hR)
end

-- y1
theorem called_map : TypeCalled "map" "map.__new__" "object.__init__" where
  notType := by decide +kernel
  canCreate := by decide +kernel
  mro := ⟨.type "map", [.type "object"], by rw [mroOf_type]; kernel_rfl⟩
  made := madeBy_type (c := .type "map") (tl := [.type "object"]) (by rw [mroOf_type]; kernel_rfl) (by rw [typeLookup_type, builtinLookup_eq_fast]; kernel_rfl) (by decide +kernel)
  plain := by decide +kernel
  sub := by rw [isSubtype_type]; kernel_rfl
  init := .of (owner := "object") (n := "__init__") (by rw [typeLookup_type, builtinLookup_eq_fast]; kernel_rfl) (by decide +kernel) (by decide +kernel) (by decide +kernel)
    (by first | exact .inl (by decide +kernel) | exact .inr (by decide +kernel)) (by rw [isSubtype_type]; kernel_rfl)
theorem entry_map_new : entryFor table "map.__new__" = some Builtin.«map.__new__» := entryFor_of_fast (by kernel_rfl)
theorem entry_map_next : entryFor table "map.__next__" = some Builtin.«map.__next__» := entryFor_of_fast (by kernel_rfl)
theorem entry_map_iter : entryFor table "map.__iter__" = some Builtin.«dict_keyiterator.__iter__» :=
  entryFor_alias (id' := "dict_keyiterator.__iter__") (by kernel_rfl) (by decide +kernel) (by decide +kernel) (by kernel_rfl)
theorem slot_map_next : Slot "map" "__next__" "map.__next__" :=
  .of (owner := "map") (n := "__next__") (by rw [typeLookup_type, builtinLookup_eq_fast]; kernel_rfl) (by decide +kernel) (by decide +kernel) (by decide +kernel)
    (by first | exact .inl (by decide +kernel) | exact .inr (by decide +kernel)) (by rw [isSubtype_type]; kernel_rfl)
theorem slot_map_iter : Slot "map" "__iter__" "map.__iter__" :=
  .of (owner := "map") (n := "__iter__") (by rw [typeLookup_type, builtinLookup_eq_fast]; kernel_rfl) (by decide +kernel) (by decide +kernel) (by decide +kernel)
    (by first | exact .inl (by decide +kernel) | exact .inr (by decide +kernel)) (by rw [isSubtype_type]; kernel_rfl)
theorem args_map_next (a : Value) : argsOk "map.__next__" ⟨[a], []⟩ := by unfold argsOk; kernel_rfl
theorem args_map_iter (a : Value) : argsOk "map.__iter__" ⟨[a], []⟩ := by unfold argsOk; kernel_rfl
theorem map_no_len : typeLookup (.type "map") "__len__" = pure none := by rw [typeLookup_type, builtinLookup_eq_fast]; kernel_rfl
theorem map_no_hint : typeLookup (.type "map") "__length_hint__" = pure none := by rw [typeLookup_type, builtinLookup_eq_fast]; kernel_rfl
theorem madeHere_map : Bind.madeHere "map.__new__" (.type "map") = pure () := by kernel_rfl
def mapObj (f : Value) (T : Addr) : Obj := { cls := .type "map", data := .fields #[.ref T, f] }
section
variable {prog : Program} {w : World} {A : Around} {E : Value → Shared → Prop} {s : Shared}
open PySem.Builtin.SmallTypes in
theorem nextOf_list_item {it l : Addr} {i : Nat} {items} {x : Value} {Q : Value → Shared → Prop} (hit : s.heap.IsListIter it l i)
    (hl : s.heap.IsList l items) (hx : items[i]? = some x)
    (hQ : ∀ h', h'.IsListIter it l (i + 1) → Heap.SameBut it s.heap h' → Q x { s with heap := h' }) :
    wpAny (model prog w) A (nextOf (.ref it)) Q E s := by
  obtain ⟨o, ho, hc, hd⟩ := id hit
  obtain ⟨ol, hol, _, nl, hdl⟩ := hl
  unfold nextOf
  refine wpAny_bind (wpAny_callSpecial?_slot (name := PySem.Str.ofString "__next__") hit.typeIs slot_listiter_next
    (wpAny_call_entry slot_listiter_next hit.typeIs entry_listiter_next ?_ (args_listiter_next _)))
  show wpAny _ _ (field (.ref it) 0 >>= _) _ _ s
  refine wpAny_bind (wpAny_field ho hd (x := .ref l) rfl ?_)
  show wpAny _ _ (if (Value.ref l == Value.none) = true then _ else _) _ _ s
  rw [if_neg (show ¬ ((Value.ref l == Value.none) = true) from Bool.false_ne_true)]
  show wpAny _ _ (field (.ref it) 1 >>= _) _ _ s
  refine wpAny_bind (wpAny_field ho hd (x := .int i 0) rfl ?_)
  show wpAny _ _ (seqItems? (.ref l) >>= _) _ _ s
  refine wpAny_bind (wpAny_seqItems hol hdl ?_)
  simp only [Int.toNat_natCast, hx]
  refine wpAny_bind (wpAny_setField ho hd (by simp) (wpAny_pure ⟨x, rfl, wpAny_pure (hQ _ ?_ (Heap.SameBut.update ..))⟩))
  exact ⟨_, Heap.get?_update_self _ ho (Obj.isFreed_of_fields (Obj.data_mapFields hd _)), (Obj.cls_mapFields ..).trans hc, by
    rw [Obj.data_mapFields hd]; simp [rawInt]⟩
open PySem.Builtin.SmallTypes in
theorem nextOf_list_end {it l : Addr} {i : Nat} {items} {Q : Value → Shared → Prop} (hh : Hd A.handled s.heap)
    (hit : s.heap.IsListIter it l i) (hl : s.heap.IsList l items) (hx : items[i]? = none)
    (h : ∀ h' e, Heap.ExtBut it s.heap h' → (∃ ob, h'.get? e = some ob ∧ ob.cls = .type "StopIteration") → E (.ref e) { s with heap := h' }) : wpAny (model prog w) A (nextOf (.ref it)) Q E s := by
  obtain ⟨o, ho, hc, hd⟩ := id hit
  obtain ⟨ol, hol, _, nl, hdl⟩ := hl
  unfold nextOf
  refine wpAny_bind (wpAny_callSpecial?_slot (name := PySem.Str.ofString "__next__") hit.typeIs slot_listiter_next
    (wpAny_call_entry slot_listiter_next hit.typeIs entry_listiter_next ?_ (args_listiter_next _)))
  show wpAny _ _ (field (.ref it) 0 >>= _) _ _ s
  refine wpAny_bind (wpAny_field ho hd (x := .ref l) rfl ?_)
  show wpAny _ _ (if (Value.ref l == Value.none) = true then _ else _) _ _ s
  rw [if_neg (show ¬ ((Value.ref l == Value.none) = true) from Bool.false_ne_true)]
  show wpAny _ _ (field (.ref it) 1 >>= _) _ _ s
  refine wpAny_bind (wpAny_field ho hd (x := .int i 0) rfl ?_)
  show wpAny _ _ (seqItems? (.ref l) >>= _) _ _ s
  refine wpAny_bind (wpAny_seqItems hol hdl ?_)
  simp only [Int.toNat_natCast, hx]
  refine wpAny_bind (wpAny_rule (wpAny_bind (wpAny_setField ho hd (by simp) ?_)))
  exact stopH (A := A.in1) (hh.sameBut ho hd (by simp) (Heap.SameBut.update ..)) fun h' e K c => h h' e (fun b o hb e => K b o ((Heap.SameBut.update ..).extBut b o hb e)) c
/-- a map of `str.strip` over a list of texts: where it stands behind `i` of them -/
def MapAt (M T it l : Addr) (xs : List (List Nat)) (k : Nat) (hd : Option Value) (i : Nat) (h : Heap) : Prop :=
  h.get? M = some (mapObj (.builtin "str.strip") T) ∧ h.get? T = some { cls := .type "tuple", data := .seq #[.ref it] k } ∧ h.IsListIter it l i ∧ (∃ vs, h.IsList l vs.toArray ∧ StrsAre vs (xs.map ofL)) ∧ Hd hd h
theorem walks_map {M T it l : Addr} {xs : List (List Nat)} {k : Nat} (h1 : M ≠ it) (h2 : T ≠ it) (h3 : l ≠ it) (hz : ∀ x ∈ xs, x.length ≤ 100000) :
    Walks prog w A M (M :: T :: it :: l :: exA A.handled) [it] xs.length (fun i v => ∃ t, v = .str (Txt.strip (ofL (xs.getD i []))) t) (MapAt M T it l xs k A.handled) where
  sub := fun b hb => by rw [List.mem_singleton.mp hb]; simp
  frame := fun _ _ _ st hk => ⟨hk M (by simp) _ st.1, hk T (by simp) _ st.2.1, st.2.2.1.at fun o e => hk it (by simp) o e, (let ⟨vs, a, b⟩ := st.2.2.2.1; ⟨vs, a.at fun o e => hk l (by simp) o e, b⟩), st.2.2.2.2.kept fun b hb o e => hk b (by simp [hb]) o e⟩
  item := fun i s Q E hi st hQ => by
    obtain ⟨g1, g2, g3, ⟨vs, g4, g5⟩, g6⟩ := st
    obtain ⟨y, t, hv, hy⟩ := strsAre_at (i := i) g5 (by simpa using hi)
    have hy2 : y = ofL (xs.getD i []) := by
      rw [List.getElem?_map, List.getElem?_eq_getElem hi] at hy
      simp only [Option.map_some, Option.some.injEq] at hy
      rw [← hy, List.getD_eq_getElem?_getD, List.getElem?_eq_getElem hi]; rfl
    have hyl : y.length ≤ 100000 := by rw [hy2, ofL_length, List.getD_eq_getElem?_getD, List.getElem?_eq_getElem hi]; exact hz _ (List.getElem_mem hi)
    have hT : s.TypeIs (.ref M) "map" := ⟨_, g1, rfl⟩
    unfold pyNext
    refine wpAny_bind (wpAny_attempt (wpAny_callSpecial?_slot (name := PySem.Str.ofString "__next__") hT slot_map_next
      (wpAny_call_entry slot_map_next hT entry_map_next ?_ (args_map_next _))))
    show wpAny _ _ (field (.ref M) 0 >>= _) _ _ s
    refine wpAny_bind (wpAny_field g1 rfl (x := .ref T) rfl ?_)
    refine wpAny_bind (wpAny_seqItems g2 rfl ?_)
    dsimp only
    rw [List.forIn_toArray, List.forIn_cons]
    refine wpAny_bind (wpAny_bind (wpAny_bind (wpAny_holding (nextOf_list_item g3 g4 (by simpa using hv) fun h' hit' hs' => ?_))))
    refine wpAny_pure ?_
    dsimp only
    rw [List.forIn_nil]
    have ob : ∀ b o, b ∉ [it] → s.heap.get? b = some o → h'.get? b = some o := fun b o hb e => hs'.extBut b o (fun q => hb (by simp [q])) e
    have g1' := ob M _ (by simpa using h1) g1
    refine wpAny_pure ?_
    refine wpAny_bind (wpAny_field g1' rfl (x := .builtin "str.strip") rfl ?_)
    refine wpAny_bind (wpAny_holding ?_)
    rw [hy2] at *
    refine SC.strip (fun t' k' => ?_) (by rw [sizeLine_eq]; omega)
    refine wpAny_bind (wpAny_letGo ?_)
    refine wpAny_pure ⟨_, rfl, wpAny_pure ?_⟩
    refine hQ _ h' k' ⟨_, rfl⟩ ⟨g1', ob T _ (by simpa using h2) g2, hit', ⟨vs, g4.at fun o e => ob l o (by simpa using h3) e, g5⟩, ?_⟩ ob
    obtain ⟨o, ho, _, hd⟩ := g3
    exact g6.sameBut ho hd rfl hs'
  done := fun s Q E st hQ => by
    obtain ⟨g1, g2, g3, ⟨vs, g4, g5⟩, g6⟩ := st
    have hT : s.TypeIs (.ref M) "map" := ⟨_, g1, rfl⟩
    unfold pyNext
    refine wpAny_bind (wpAny_attempt (wpAny_callSpecial?_slot (name := PySem.Str.ofString "__next__") hT slot_map_next
      (wpAny_call_entry slot_map_next hT entry_map_next ?_ (args_map_next _))))
    show wpAny _ _ (field (.ref M) 0 >>= _) _ _ s
    refine wpAny_bind (wpAny_field g1 rfl (x := .ref T) rfl ?_)
    refine wpAny_bind (wpAny_seqItems g2 rfl ?_)
    dsimp only
    rw [List.forIn_toArray, List.forIn_cons]
    refine wpAny_bind (wpAny_bind (wpAny_bind (wpAny_holding (nextOf_list_end g6 g3 g4 (by have := strsAre_len g5; simp at this; simp [this]) fun h' e hx ⟨ob, ho', hc'⟩ => ?_))))
    refine wpAny_bind (wpAny_isInstance (T := "StopIteration") (b := true) ⟨_, ho', hc'⟩ isSubtype_stop ?_)
    exact wpAny_pure (hQ h' s.toks fun b o hb e => hx b o (fun q => hb (by simp [q])) e)
  self := fun i s Q E st hQ => by
    have hT : s.TypeIs (.ref M) "map" := ⟨_, st.1, rfl⟩
    refine wpAny_pyIter_slot hT slot_map_iter (wpAny_call_entry slot_map_iter hT entry_map_iter ?_ (args_map_iter _))
    show wpAny _ _ (ret (.ref M)) _ _ s
    exact wpAny_pure ⟨_, rfl, "map", _, hT, slot_map_next.lookup, hQ⟩
end

-- y2
section
variable {prog : Program} {w : World} {A : Around} {E : Value → Shared → Prop} {s : Shared} {I : Addr} {fp wr : List Addr} {G : Array GenState → Array GenState → Prop} {n : Nat} {P : Nat → Value → Prop} {St : Nat → Shared → Prop}
/-- all that a map hands out, in a list -/
theorem collect_map {Q : List Value → Shared → Prop} (W : WalksS prog w A.in1 I fp wr G n P St) (hT : ∀ i s, St i s → s.TypeIs (.ref I) "map") (hst : St 0 s) (hfp : ∀ b ∈ fp, b < s.heap.objs.size) (hI : I ∈ fp)
    (hQ : ∀ s' acc, Moved wr G s s' → ItemsOf P acc n → Q acc.toList s') (hn : n ≤ sizeLine) : wpAny (model prog w) A (collect (.ref I)) Q E s := by
  have nf : s.heap.objs.size ∉ fp := fun q => absurd (hfp _ q) (Nat.lt_irrefl _)
  have nI : s.heap.objs.size ≠ I := fun e => nf (e ▸ hI)
  generalize hL : ({ cls := .type "list", data := .seq ([] : List Value).toArray } : Obj) = lo
  have k₁ : ∀ b o, s.heap.get? b = some o → (s.heap.push lo).get? b = some o := fun b o e => Heap.get?_push_of_some _ e
  have st₁ : St 0 { s with heap := s.heap.push lo } := W.frame 0 s _ s.toks hst (Nat.le_refl _) fun b _ o e => k₁ b o e
  have g₁ : (s.heap.push lo).get? s.heap.objs.size = some { cls := .type "list", data := .seq ([] : List Value).toArray } := by rw [hL]; exact Heap.get?_push_size _ (by rw [← hL]; rfl)
  unfold collect
  refine wpAny_bind (wpAny_runValue (codeAny_builtin PySem.F.entry_proto_collect ?_))
  rw [Around.under_plainId PySem.F.plain_proto_collect _]
  show wpAny _ A.in1 (newList [] >>= fun l => again (.builtin "list.__iadd__" ⟨[l, .ref I], []⟩)) _ _ s
  refine wpAny_bind (wpAny_newObj_type ?_)
  rw [hL]
  refine wpAny_pure ⟨plainId_quiet PySem.F.plain_list_iadd _, codeAny_builtin PySem.F.entry_list_iadd ?_⟩
  rw [Around.under_plainId PySem.F.plain_list_iadd _]
  show wpAny _ A.in1 (Builtin.List.listExtendWith (.ref s.heap.objs.size) (.ref I) (.ref s.heap.objs.size)) _ _ _
  unfold Builtin.List.listExtendWith
  refine wpAny_bind (wpAny_typeOf (hT 0 _ st₁) ?_)
  rw [if_neg (by simp [Builtin.List.listSameRef, nI])]
  refine wpAny_bind (W.self 0 _ _ _ st₁ ?_)
  refine wpAny_bind (wpAny_holding ?_)
  unfold Builtin.List.listLengthHint
  refine wpAny_bind (wpAny_specialOf (hT 0 _ st₁) map_no_len ?_)
  refine wpAny_bind (wpAny_specialOf (hT 0 _ st₁) map_no_hint ?_)
  refine wpAny_pure ?_
  refine wpAny_bind (wpAny_rule (wpAny_bind ?_))
  unfold Builtin.List.listTouch
  have g₂ := Heap.get?_update_self (Obj.mapSeq (·.push Value.none)) g₁ rfl
  have g₃ := Heap.get?_update_self (Obj.mapSeq (·.pop)) g₂ rfl
  refine wpAny_bind (wpAny_updateSeq g₁ rfl (wpAny_updateSeq g₂ rfl ?_))
  have oth : ∀ b o, b ≠ s.heap.objs.size → (s.heap.push lo).get? b = some o → (((s.heap.push lo).update s.heap.objs.size (Obj.mapSeq (·.push Value.none))).update s.heap.objs.size (Obj.mapSeq (·.pop))).get? b = some o :=
    fun b o hb e => by rw [Heap.get?_update_other _ _ (Ne.symm hb), Heap.get?_update_other _ _ (Ne.symm hb)]; exact e
  refine wpAny_pure ⟨plainId_quiet PySem.F.plain_extend_loop _, codeAny_extend_loopS W hn _ nf _ n 0 _ _ _ rfl (Nat.zero_le _)
    (W.frame 0 ({ s with heap := s.heap.push lo } : Shared) _ s.toks st₁ (Nat.le_refl _) fun b hb o e => oth b o (fun q => nf (q ▸ hb)) e) g₃ (ItemsOf.nil P) fun s' acc c hm hS hacc => ?_⟩
  show wpAny _ A (load s.heap.objs.size >>= _) _ _ s'
  refine wpAny_bind (wpAny_load hS (wpAny_pure (hQ s' acc ?_ hacc)))
  refine ⟨fun b o hb e => hm.heap b o (fun q => ?_) (oth b o (Nat.ne_of_lt (Heap.lt_size e)) (k₁ b o e)), hm.gens, hm.drawn, hm.os, hm.toks⟩
  rcases List.mem_cons.mp q with q | q
  · exact absurd (q ▸ Heap.lt_size e) (Nat.lt_irrefl _)
  · exact hb q
end

-- y4
section
variable {prog : Program} {w : World} {A : Around} {E : Value → Shared → Prop} {s : Shared} {K : Frag} {T : String} {name : PySem.Str} {v : Value}
/-- an attribute that is read off a built-in class -/
theorem type_attr {expr : Bool} {Q : Value → Shared → Prop} (X : K.In s.heap) (hstub : Manifest.isStub T = false) (ht : typeOf (.type T) = pure (.type "type")) (hr : subIn K (.type "type") (.type "type") = some true) (hg : findIn K (.type "type") "__getattribute__" = some (some (.builtin "type.__getattribute__")))
    (e : findCls K (.type T) (.type "type") name = some (.val v)) (hh : handedIn v = true) (h : Q v { s with toks := s.toks + 1 }) : wpAny (model prog w) A (getAttr (.type T) name expr) Q E s := by
  have LO : Looks (model prog w) s.heap (opaqueClassAbove (.type T)) none := Looks.of_pure (by unfold opaqueClassAbove; dsimp only; rw [hstub]; rfl)
  exact cls_open X LO (Looks.of_pure ht) hg (looks_hook X (r := none) (by rfl)) hr e (wpAny_pure (by show wpAny _ _ (handedOut v) _ _ _; rw [handedOut_of hh]; exact wpAny_pure h))
theorem type_meth {pl : Sem Bool} {Q : Value × List Value → Shared → Prop} (X : K.In s.heap) (hstub : Manifest.isStub T = false) (ht : typeOf (.type T) = pure (.type "type")) (hr : subIn K (.type "type") (.type "type") = some true) (hg : findIn K (.type "type") "__getattribute__" = some (some (.builtin "type.__getattribute__")))
    (e : findCls K (.type T) (.type "type") name = some (.val v)) (hh : handedIn v = true) (h : Q (v, []) { s with toks := s.toks + 1 }) : wpAny (model prog w) A (getMethod (.type T) name pl) Q E s := by
  unfold getMethod specialOf
  refine wpAny_bind (wpAny_bind (Looks.here (Looks.of_pure ht) ((looks_findIn X hg).here ?_)))
  dsimp only
  rw [if_pos canon_tga]
  exact wpAny_bind (type_attr (Q := fun v s' => wpAny (model prog w) A (pure (v, [])) Q E s') X hstub ht hr hg e hh (wpAny_pure h))
end
theorem find_tnew (P : Params) : findCls (Mine.K P) (.type "tuple") (.type "type") "__new__" = some (.val (.builtin "tuple.__new__")) := by kernel_rfl
theorem find_strip (P : Params) : findCls (Mine.K P) (.type "str") (.type "type") "strip" = some (.val (.builtin "str.strip")) := by kernel_rfl
theorem sub_tt (P : Params) : subIn (Mine.K P) (.type "type") (.type "type") = some true := by kernel_rfl
theorem find_tga (P : Params) : findIn (Mine.K P) (.type "type") "__getattribute__" = some (some (.builtin "type.__getattribute__")) := by kernel_rfl
theorem type_tuple : typeOf (.type "tuple") = pure (.type "type") := by kernel_rfl
theorem stub_tuple : Manifest.isStub "tuple" = false := by decide +kernel
theorem stub_str : Manifest.isStub "str" = false := by decide +kernel
theorem hand_tnew : handedIn (.builtin "tuple.__new__") = true := by kernel_rfl
theorem hand_strip : handedIn (.builtin "str.strip") = true := by kernel_rfl
theorem type_str : typeOf (.type "str") = pure (.type "type") := by kernel_rfl
section
variable {prog : Program} {w : World} {A : Around} {E : Value → Shared → Prop} {s : Shared} {h₀ : Heap} {L : Addr} {m : PySem.Str → Option Value} {news : List (Addr × Obj)}
theorem tnewK {pl : Sem Bool} {Q : Value × List Value → Shared → Prop} (F : Fr h₀ L s.heap m) (X : (Mine.K w.params).In h₀) (h : Q (.builtin "tuple.__new__", []) { s with toks := s.toks + 1 }) : wpAny (model prog w) A (getMethod (.type "tuple") "__new__" pl) Q E s :=
  type_meth (T := "tuple") (v := .builtin "tuple.__new__") (K := Mine.K w.params) (X.keeps F.keep) stub_tuple type_tuple (sub_tt _) (find_tga _) (find_tnew _) hand_tnew h
theorem stripK {expr : Bool} {Q : Value → Shared → Prop} (F : Fr h₀ L s.heap m) (X : (Mine.K w.params).In h₀) (h : Q (.builtin "str.strip") { s with toks := s.toks + 1 }) : wpAny (model prog w) A (getAttr (.type "str") "strip" expr) Q E s :=
  type_attr (T := "str") (v := .builtin "str.strip") (K := Mine.K w.params) (X.keeps F.keep) stub_str type_str (sub_tt _) (find_tga _) (find_strip _) hand_strip h
end

-- c4
theorem kwl34 : True := by
  k_with "getMethod type:tuple!" => ((k_here; k_dflt (refine' tnewK ?hqk1 ?hqk2 ?_; (case hqk1 => k_asm); (case hqk2 => k_asm); k_whole)))
  k_with "getAttr type:str!" => ((k_here; k_dflt (refine' stripK ?hqk1 ?hqk2 ?_; (case hqk1 => k_asm); (case hqk2 => k_asm); k_whole)))
  trivial
theorem pk_type (S : Setting) (P : Params) : peek (K P) S (isType (.ref 210)) = some true := by kernel_rfl
theorem pk_sub (S : Setting) (P : Params) : peek (K P) S (isSubtype (.ref 210) (.type "tuple")) = some true := by kernel_rfl
theorem pk_made (S : Setting) (P : Params) : peek (K P) S (Bind.madeBy (.ref 210)) = some none := by kernel_rfl
theorem pk_base (S : Setting) (P : Params) : peek (K P) S (Builtin.Slots.bestBase [.ref 187]) = some (.ref 187) := by kernel_rfl
theorem pk_base2 (S : Setting) (P : Params) : peek (K P) S (Builtin.Slots.bestBase [.type "tuple"]) = some (.type "tuple") := by kernel_rfl
theorem pk_madeT (S : Setting) (P : Params) : peek (K P) S (Bind.madeBy (.type "tuple")) = some (some "tuple.__new__") := by kernel_rfl
theorem pk_static (S : Setting) (P : Params) : peek (K P) S (Bind.staticBase (.ref 210)) = some (.type "tuple") := by kernel_rfl
theorem pk_init (S : Setting) (P : Params) : peek (K P) S (typeLookup (.ref 210) "__init__") = some (some (.builtin "object.__init__")) := by kernel_rfl
theorem pk_check (S : Setting) (P : Params) (t : Addr) : peek (K P) S (checkBuiltinCall "tuple.__new__" ⟨[.ref 210, .ref t], []⟩) = some () := by kernel_rfl
theorem pk_here (S : Setting) (P : Params) : peek (K P) S (Bind.madeHere "tuple.__new__" (.ref 210)) = some () := by kernel_rfl
section
variable {w : World} {A : Around} {E : Value → Shared → Prop} {s : Shared} {h₀ : Heap} {L : Addr} {m : PySem.Str → Option Value} {news : List (Addr × Obj)}
theorem tnew_pair {t : Addr} {its : List Value} {Q : Value → Shared → Prop} (X : (K w.params).In h₀) (F : Fr h₀ L s.heap m) (N : News h₀ L s.heap news) (hm : (t, ({ cls := .type "tuple", data := .seq its.toArray } : Obj)) ∈ news) (hz : its.length ≤ 16384)
    (h : ∀ x dx h', Fr h₀ L h' m → News h₀ L h' ((x, ({ cls := .ref 210, dict := some dx, data := .seq its.toArray } : Obj)) :: (dx, { cls := .type "dict", data := .dict #[] }) :: news) → (∀ p ∈ news, p.1 < dx) → dx < x → Q (.ref x) { s with heap := h' }) :
    wpAny (model PySem.Challenge.pw_ij0084_01 w) A (call (.builtin "tuple.__new__") [.ref 210, .ref t]) Q E s := by
  have X₁ := X.keeps F.keep
  refine wpAny_call (codeAny_call_builtin_code (Code.quiet_builtin _ (by decide +kernel)) ((Looks.of_peek X₁ (pk_check _ _ t)).here ?_))
  refine codeAny_builtin PySem.F.entry_tuple_new ?_
  unfold Builtin.«tuple.__new__»
  dsimp only
  refine wpAny_bind ((Looks.of_peek X₁ (pk_type _ _)).here ?_)
  rw [if_neg (by decide)]
  refine wpAny_bind ((Looks.of_peek X₁ (pk_sub _ _)).here ?_)
  rw [if_neg (by decide)]
  refine wpAny_bind ((Looks.of_peek X₁ (pk_here _ _)).here ?_)
  refine wpAny_bind ((Looks.of_peek X₁ (pk_init _ _)).here ?_)
  rw [if_pos (by decide)]
  have e1 : noKeywords "tuple" { pos := [Value.ref 210, Value.ref t] } = pure () := by kernel_rfl
  rw [e1]
  refine wpAny_bind (wpAny_pure ?_)
  have e2 : checkCount "tuple" 0 1 [Value.ref t].length = pure () := by kernel_rfl
  rw [e2]
  refine wpAny_bind (wpAny_pure ?_)
  rw [if_neg (by decide)]
  refine wpAny_bind (wpAny_collect_seq t (.inr rfl) (N _ hm).1 rfl rfl (fun h' hk => ?_) (by rw [List.size_toArray, sizeLine_eq]; omega))
  have F' : Fr h₀ L h' m := F.keeps hk
  have N' : News h₀ L h' news := fun p hp => ⟨hk _ _ (N p hp).1, (N p hp).2⟩
  have X' := X.keeps F'.keep
  refine wpAny_bind (wpAny_pure ?_)
  refine wpAny_bind (wpAny_alloc ?_)
  have F2 := F'.push { cls := .type "dict", data := .dict #[] }
  have N2 := N'.push F' { cls := .type "dict", data := .dict #[] }
  have N3 := N2.push F2 { cls := .ref 210, dict := some h'.objs.size, data := .seq its.toArray }
  refine wpAny_bind ?_
  unfold newObj
  dsimp only
  rw [if_neg (by rw [show (its.toArray.toList.toArray).size = its.length by simp, sizeLine_eq]; omega)]
  unfold newObjAsIs
  refine wpAny_bind (wpAny_alloc ?_)
  unfold classHasDel
  dsimp only
  refine wpAny_bind (wpAny_bind (wpAny_load (Heap.get?_push_of_some _ (Heap.get?_push_of_some _ (X' 210 _ rfl))) (wpAny_pure ?_)))
  dsimp only
  rw [if_neg (by decide)]
  refine wpAny_pure (wpAny_pure ?_)
  have ea : its.toArray.toList.toArray = its.toArray := by simp
  rw [ea]
  exact h _ _ _ (F2.push _) N3 (fun p hp => Heap.lt_size (N' p hp).1) (by rw [Heap.size_push]; exact Nat.lt_succ_self _)
end

-- y3
theorem kwl35 : True := by
  k_with "call builtin:tuple.__new__!" => ((k_here; (k_dflt (refine' tnew_pair ?hqk1 ?hqk2 ?hqk3 ?hqk4 ?hqk5 ?_; (case hqk1 => k_asm); (case hqk2 => k_asm); (case hqk3 => k_asm); (case hqk4 => k_mem); (case hqk5 => (first | decide | (simp only [List.length_cons, List.length_nil]; omega))); k_whole))))
  trivial
section
open PySem.Builtin PySem.Builtin.SmallTypes
theorem newClass_map (f : Value) (l : Addr) : newClass "map" ⟨[.type "map", f, .ref l], []⟩ = pure (.type "map", [f, .ref l]) := by kernel_rfl
theorem refuseKw_map (f : Value) (l : Addr) : refuseKeywords "map" (.type "map") ⟨[.type "map", f, .ref l], []⟩ = pure () := by rfl
theorem typeCall_map (f : Value) (l : Addr) : checkTypeCall "map" ⟨[f, .ref l], []⟩ = pure () := by kernel_rfl
theorem newCall_map (f : Value) (l : Addr) : checkBuiltinCall "map.__new__" ⟨[.type "map", f, .ref l], []⟩ = pure () := by kernel_rfl
def itObj (l : Addr) (i : Nat) : Obj := { cls := .type "list_iterator", data := .fields #[.ref l, .int i 0] }
def mapH (h : Heap) (f : Value) (l : Addr) : Heap := ((h.push (itObj l 0)).push { cls := .type "tuple", data := .seq #[.ref h.objs.size] }).push (mapObj f (h.objs.size + 1))
theorem meets_map_new (f : Value) (l : Addr) (vs : Array Value) : Meets (Builtin.«map.__new__» ⟨[.type "map", f, .ref l], []⟩)
    (fun _ R s => s.heap.IsList l vs ∧ R (.ok (.ret (.ref (s.heap.objs.size + 2)))) { s with heap := mapH s.heap f l }) := .of_wp fun prog w A R s h => by
  obtain ⟨hl, h⟩ := h
  unfold Builtin.«map.__new__»
  rw [newClass_map]
  refine wpAny_bind (wpAny_pure ?_)
  dsimp only
  rw [refuseKw_map]
  refine wpAny_bind (wpAny_pure ?_)
  rw [if_neg (by simp)]
  unfold iterAll
  rw [show List.drop 1 [f, Value.ref l] = [.ref l] from rfl]
  dsimp only
  rw [List.forIn_cons]
  refine wpAny_bind (wpAny_bind (wpAny_bind (wpAny_bind (wpAny_holding (wpAny_pyIter_list hl ?_)))))
  refine wpAny_pure ?_
  dsimp only
  rw [List.forIn_nil]
  refine wpAny_pure (wpAny_pure ?_)
  refine wpAny_bind (wpAny_newTuple ?_ (by simp [sizeLine_eq]))
  unfold newRecord
  refine wpAny_bind (wpAny_newObj_type ?_)
  refine wpAny_pure ⟨_, rfl, ?_⟩
  have e : ((s.heap.push (itObj l 0)).push { cls := .type "tuple", data := .seq #[.ref s.heap.objs.size] }).objs.size = s.heap.objs.size + 2 := by rw [Heap.size_push, Heap.size_push]
  have e' : (s.heap.push (itObj l 0)).objs.size = s.heap.objs.size + 1 := Heap.size_push ..
  show R (.ok (.ret (.ref ((s.heap.push (itObj l 0)).push { cls := .type "tuple", data := .seq #[.ref s.heap.objs.size] }).objs.size))) { s with heap := ((s.heap.push (itObj l 0)).push { cls := .type "tuple", data := .seq #[.ref s.heap.objs.size] }).push (mapObj f (s.heap.push (itObj l 0)).objs.size) }
  rw [e, e']
  exact h
end
section
variable {prog : Program} {w : World} {A : Around} {E : Value → Shared → Prop} {s : Shared} {h₀ : Heap} {L : Addr} {m : PySem.Str → Option Value} {news : List (Addr × Obj)}
theorem call_map {f : Value} {l : Addr} {vs : Array Value} {Q : Value → Shared → Prop} (hl : s.heap.IsList l vs) (h : Q (.ref (s.heap.objs.size + 2)) { s with heap := mapH s.heap f l }) : wpAny (model prog w) A (call (.type "map") [f, .ref l]) Q E s := by
  refine callType_new called_map (by decide) (typeCall_map _ _) (newCall_map _ _) (fun obj => PySem.F.args_object_init_3 obj _ _) entry_map_new (meets_map_new f l vs) ⟨hl, ⟨mapObj f (s.heap.objs.size + 1), ?_, rfl⟩, h⟩
  · show (mapH s.heap f l).get? (s.heap.objs.size + 2) = _
    have e : ((s.heap.push (itObj l 0)).push { cls := .type "tuple", data := .seq #[.ref s.heap.objs.size] }).objs.size = s.heap.objs.size + 2 := by rw [Heap.size_push, Heap.size_push]
    rw [← e]
    exact Heap.get?_push_size _ rfl
theorem call_mapK {f : Value} {l : Addr} {vs : Array Value} {Q : Value → Shared → Prop} (F : Fr h₀ L s.heap m) (N : News h₀ L s.heap news) (hm : (l, ({ cls := .type "list", data := .seq vs } : Obj)) ∈ news)
    (h : ∀ M T it h', Fr h₀ L h' m → News h₀ L h' ((M, mapObj f T) :: (T, { cls := .type "tuple", data := .seq #[.ref it] }) :: (it, itObj l 0) :: news) → (∀ p ∈ news, p.1 < it) → it < T → T < M → Q (.ref M) { s with heap := h' }) :
    wpAny (model prog w) A (call (.type "map") [f, .ref l]) Q E s := by
  refine call_map (vs := vs) ⟨_, (N _ hm).1, rfl, _, rfl⟩ ?_
  have F1 := F.push (itObj l 0)
  have N1 := N.push F (itObj l 0)
  have F2 := F1.push { cls := .type "tuple", data := .seq #[.ref s.heap.objs.size] }
  have N2 := N1.push F1 { cls := .type "tuple", data := .seq #[.ref s.heap.objs.size] }
  have F3 := F2.push (mapObj f (s.heap.objs.size + 1))
  have N3 := N2.push F2 (mapObj f (s.heap.objs.size + 1))
  rw [Heap.size_push, Heap.size_push] at N3
  exact h _ _ _ _ F3 N3 (fun p hp => Heap.lt_size (N p hp).1) (Nat.lt_succ_self _) (Nat.lt_succ_self _)
theorem strsAre_of_items {f : List Nat → PySem.Str} : ∀ {vs : List Value} {xs : List (List Nat)}, vs.length = xs.length → (∀ j v, vs[j]? = some v → ∃ t, v = Value.str (f (xs.getD j [])) t) → StrsAre vs (xs.map f)
  | [], [], _, _ => .nil
  | v :: vs, x :: xs, hl, h => by
    obtain ⟨t, rfl⟩ := h 0 v rfl
    exact .cons _ _ (strsAre_of_items (by simpa using hl) fun j v hj => h (j + 1) v hj)
theorem star_map {hd : Option Value} {M T it l : Addr} {vs : Array Value} {xs : List (List Nat)} {Q : List Value → Shared → Prop} (hA : A.handled = hd) (F : Fr h₀ L s.heap m)
    (N : News h₀ L s.heap ((M, mapObj (.builtin "str.strip") T) :: (T, { cls := .type "tuple", data := .seq #[.ref it] }) :: (it, itObj l 0) :: news)) (hm : (l, ({ cls := .type "list", data := .seq vs } : Obj)) ∈ news)
    (l1 : ∀ p ∈ news, p.1 < it) (l2 : it < T) (l3 : T < M) (H : HdC hd s.heap ((M, mapObj (.builtin "str.strip") T) :: (T, { cls := .type "tuple", data := .seq #[.ref it] }) :: (it, itObj l 0) :: news)) (hv : StrsAre vs.toList (xs.map ofL)) (hz : ∀ x ∈ xs, x.length ≤ 100000) (hn : xs.length ≤ 16384)
    (h : ∀ ws h' tk, StrsAre ws (xs.map fun x => Txt.strip (ofL x)) → Fr h₀ L h' m → News h₀ L h' news → Q ws { s with heap := h', toks := tk }) :
    StarOf (model prog w) A E (.ref M) Q s := by
  have gM := (N _ (List.mem_cons_self ..)).1
  have gT := (N _ (List.mem_cons_of_mem _ (List.mem_cons_self ..))).1
  have gi := N _ (List.mem_cons_of_mem _ (List.mem_cons_of_mem _ (List.mem_cons_self ..)))
  have gl := (N _ (List.mem_cons_of_mem _ (List.mem_cons_of_mem _ (List.mem_cons_of_mem _ hm)))).1
  have hT : s.TypeIs (.ref M) "map" := ⟨_, gM, rfl⟩
  have ll := l1 _ hm
  have nlt : ∀ {a b : Nat}, a < b → a ≠ b := fun q => Nat.ne_of_lt q
  have hH : Hd A.handled s.heap := by
    rw [hA]
    intro v e
    obtain ⟨a, b, c, d⟩ := H v e
    exact ⟨a, b, c⟩
  have W := (walks_map (prog := prog) (w := w) (A := A.in1) (M := M) (T := T) (it := it) (l := l) (xs := xs) (k := 0) (Nat.ne_of_gt (Nat.lt_trans l2 l3)) (Nat.ne_of_gt l2) (nlt ll) hz).toS
  unfold StarOf notIterableAtAll
  refine wpAny_bind (wpAny_specialOf hT slot_map_iter.lookup (wpAny_pure ⟨rfl, ?_⟩))
  refine collect_map W (fun i s st => ⟨_, st.1, rfl⟩) ⟨gM, gT, ⟨_, gi.1, rfl, rfl⟩, ⟨vs.toList, ⟨_, gl, rfl, 0, by simp⟩, hv⟩, hH⟩ (fun b hb => ?_) (List.mem_cons_self ..) (fun s' acc hmv hacc => ?_) (by rw [sizeLine_eq]; omega)
  · simp only [List.mem_cons] at hb
    rcases hb with rfl | rfl | rfl | rfl | hb
    · exact Heap.lt_size gM
    · exact Heap.lt_size gT
    · exact Heap.lt_size gi.1
    · exact Heap.lt_size gl
    · obtain ⟨o, ho⟩ := hH.mem hb
      exact Heap.lt_size ho
  · have k : ∀ b o, b ≠ it → s.heap.get? b = some o → s'.heap.get? b = some o := fun b o hb e => hmv.heap b o (by simpa using hb) e
    have e : s' = { s with heap := s'.heap, toks := s'.toks } := by
      obtain ⟨_, h1, h2, h3, _⟩ := hmv
      obtain ⟨a1, a2, a3, a4, a5⟩ := s'
      dsimp only at h1 h2 h3 ⊢
      subst h1 h2 h3
      rfl
    rw [e]
    refine h _ _ _ (strsAre_of_items (by rw [Array.length_toList]; exact hacc.1) fun j v hj => hacc.2 j v (by rw [← Array.getElem?_toList]; exact hj)) ⟨F.ns.at' fun o e => k _ o gi.2.1.symm e, fun b o e => k b o (fun q => by rw [q, gi.2.2] at e; cases e) (F.keep b o e), F.above⟩
      fun p hp => ?_
    have hp' := N p (List.mem_cons_of_mem _ (List.mem_cons_of_mem _ (List.mem_cons_of_mem _ hp)))
    exact ⟨k _ _ (nlt (l1 p hp)) hp'.1, hp'.2⟩
end

-- c5
theorem kwl36 : True := by
  k_with "call type:map!" => ((k_here; (k_dflt (refine' call_mapK ?hqk1 ?hqk2 ?hqk3 ?_; (case hqk1 => k_asm); (case hqk2 => k_asm); (case hqk3 => k_mem); k_whole; intro M' T' it' h' F' N' l1' l2' l3'; (try dsimp only)))))
  trivial
section
variable {α : Type} {M : Model} {A : Around} {E : Value → Shared → Prop} {s : Shared}
theorem wpC_keep {vs : List Value} {m : Sem α} {Q : α → Shared → Prop} (h : wpC M A m Q E s) : wpC M A (m.keep vs) Q E s := fun Γ p hΓ hC => by rw [Sem.wp_keep]; exact h Γ p hΓ hC
theorem wpC_operate {vs : List Value} {m : Sem Value} {Q : Value → Shared → Prop} (h : wpC M A m Q E s) : wpC M A (operate vs m) Q E s := fun Γ p hΓ hC => by rw [Sem.wp_operate]; exact h Γ p hΓ hC
theorem wpC_callWith {f : Value} {first : List Value} {pos : Pos} {Q : Value → Shared → Prop} {P : Heap → Prop} {args : List (Bool × Sem Value)}
    (hk : ∀ h, P h → ∃ k, (k = Keeper.frame ∨ k = Keeper.machine ∨ k = Keeper.boundFrame) ∧ Looks M h (keeperOf f) k) (hn : args.length ≤ 30)
    (h : wpAny M A (evalArgs f true args []) (fun a s₁ => P s₁.heap ∧ wpC M A (call f (first ++ a.pos) a.kw) Q E s₁) E s) : wpC M A (callWith pos f first args []) Q E s := by
  unfold callWith
  refine wpC_abind (wpAny_holding (wpAny_mono h (fun a s₁ h₁ => wpC_abind (wpAny_standAt ?_)) fun _ _ x => x))
  obtain ⟨k, hk', L⟩ := hk _ h₁.1
  refine wpC_abind (L.here ?_)
  have tail : ∀ {t : Sem Value}, wpC M A t Q E s₁ → wpC M A (t >>= fun r => holding [r] point >>= fun _ => pure r) Q E s₁ :=
    fun ht => wpC_bind (wpC_mono ht (fun r s₂ hr => wpC_abind (wpAny_holding (wpAny_point (wpC_pure hr)))) fun _ _ x => x)
  have marked (mk : Value) : wpC M A (callMarked mk f (first ++ a.pos) a.kw) Q E s₁ := by unfold callMarked; exact wpC_keep h₁.2
  have hn' : ¬ (args.length + 2 * ([] : List (Option PySem.Str × Sem Value)).length > 30) := by simp; exact hn
  cases hst : args.any (·.1) <;> simp only [List.any_nil, Bool.or_false] <;> rcases hk' with rfl | rfl | rfl <;> dsimp only <;> (try rw [if_neg hn']) <;> first | exact tail (marked _) | exact tail (wpC_operate h₁.2) | exact tail h₁.2
end
section
variable {M : Model} {A : Around} {E : Value → Shared → Prop} {s : Shared} {env : Env}
theorem wpC_Call_Name {x : PySem.Str} {p pos : Pos} {args : List Expr} {Q : Value → Shared → Prop}
    (h : wpAny M A (eval (.Name x p) env) (fun f s₁ => wpC M A (callWith pos f [] (backTo pos (starEach args env)) []) Q E s₁) E s) :
    wpC M A (eval (.Call (.Name x p) args [] pos) env) Q E s := by
  show wpC M A (do callWith pos (← eval (.Name x p) env) [] (backTo pos (starEach args env)) (backToKw pos (keywordEach [] env))) Q E s
  exact wpC_abind h
theorem wpC_MethodCall {o : Expr} {name : PySem.Str} {apos pos : Pos} {args : List Expr} {pl : Sem Bool} {Q : Value → Shared → Prop}
    (h : wpAny M A (eval o env) (fun ov s₁ => wpAny M A (getMethod ov name pl) (fun fx s₂ => wpC M A (callWith pos fx.1 fx.2 (backTo pos (starEach args env)) []) Q E s₂) E s₁) E s)
    (he : eval (.Call (.Attribute o name apos) args [] pos) env = (do
      let ov ← eval o env
      standAt apos.atName
      let (f, first) ← holding [ov] (getMethod ov name pl)
      callWith pos f first (backTo pos (starEach args env)) []) := by rfl) :
    wpC M A (eval (.Call (.Attribute o name apos) args [] pos) env) Q E s := by
  rw [he]
  refine wpC_abind (wpAny_mono h (fun ov s₁ h₁ => wpC_abind (wpAny_standAt (wpC_abind (wpAny_holding (wpAny_mono h₁ (fun fx s₂ h₂ => ?_) fun _ _ x => x))))) fun _ _ x => x)
  exact h₂
end

-- c6
noncomputable def fd137 : FuncData := match o137.data with
  | .func fd => fd
  | _ => default
theorem o137_data : o137.data = .func fd137 := by kernel_rfl
section
variable {M : Model} {A : Around} {E : Value → Shared → Prop} {s : Shared}
theorem wpC_refuses {α : Type} {msg : String} {Q : α → Shared → Prop} (hm : (msg : PySem.Str).length ≤ sizeLine) (hh : A.handled = none) (h : ∀ h' tk e, Heap.NewExc s.heap h' e "TypeError" → E (.ref e) { s with heap := h', toks := tk }) : wpC M A (theBinderRefuses msg : Sem α) Q E s := by
  unfold theBinderRefuses
  refine wpC_abind (wpAny_mkStr (wpC_abind (wpAny_newExc_plain plainExc_TypeError (fun h' e hx => ?_))) hm)
  refine wpC_bind (wpC_noMark ?_)
  exact wpC_any (wpAny_raiseNew_none hh (h h' (s.toks + 1) e hx.newExc))
theorem wpC_short {a b : Value} {Q : List (PySem.Str × Value) → Shared → Prop} (hh : A.handled = none) (h : ∀ h' tk e, Heap.NewExc s.heap h' e "TypeError" → E (.ref e) { s with heap := h', toks := tk }) : wpC M A (bindArgs fd137 ⟨[a, b], []⟩) Q E s := by
  unfold bindArgs fd137 o137
  dsimp only
  rw [List.forIn_nil]
  refine wpC_abind (wpAny_pure ?_)
  rw [show seqItems? Value.none = pure none from rfl]
  refine wpC_abind (wpAny_pure ?_)
  dsimp only
  rw [if_neg (by simp)]
  rw [if_pos (by rfl)]
  refine wpC_abind (wpAny_rule ?_)
  exact wpC_bind (wpC_refuses (Nat.le_of_ble_eq_true (by kernel_rfl)) hh h)
variable {w : World} {R : Result → Shared → Prop}
theorem codeC_call_short {a b : Value} (X : (K w.params).In s.heap) (hh : A.handled = none) (hroom : A.depth < recursionLimit) (h : ∀ h' tk e, Heap.NewExc s.heap h' e "TypeError" → R (.error (.ref e)) { s with heap := h', toks := tk }) :
    codeC (model PySem.Challenge.pw_ij0084_01 w) A (.call (.ref 137) ⟨[a, b], []⟩) R s :=
  codeC_call_function (fd := fd137) (body := fdB (sub (st 13) 4)) hroom (X 137 o137 rfl) o137_data (by kernel_rfl) (by kernel_rfl) (by kernel_rfl) (codeRec_of X (by kernel_rfl)) (wpC_short hh h)
theorem codeC_method {p : Addr} {f self : Value} {pos : List Value} {kw : List (PySem.Str × Value)} {prog : Program} (ho : s.heap.get? p = some (methodObj f self))
    (h : codeC (model prog w) A (.call f ⟨self :: pos, kw⟩) R s) : codeC (model prog w) A (.call (.ref p) ⟨pos, kw⟩) R s := by
  refine codeC_of_tree ?_
  show wpC _ _ (callAny (.ref p) _) _ _ _
  unfold callAny
  refine wpC_abind (wpAny_load ho ?_)
  cases f <;> exact wpC_pure ⟨rfl, h⟩
end

-- d1
theorem mem_skip2 {α : Type} {a b c : α} {l : List α} : ∀ p ∈ a :: b :: l, p ∈ a :: b :: c :: l := fun p hp => by
  simp only [List.mem_cons] at hp ⊢
  rcases hp with q | q | q
  · exact .inl q
  · exact .inr (.inl q)
  · exact .inr (.inr (.inr q))
theorem con_new (w : World) (hd : Option Value) (news : List (Addr × Obj)) (va vb : Value) : ConH w hd 137 1 news [.ref 210, va, vb] (fun v n => ∃ x dx, v = .ref x ∧ n = (x, pairObj dx va vb) :: (dx, { cls := .type "dict", data := .dict #[] }) :: news) := by
  walk_at "my openH"
  intro p loose mean mg mb dp un gd env outer A₀ base h₀ L m s Q E B F X N T H he hk hdp hun hret
  k_call_by "enterH" [("_cls", .ref 210), ("name", va), ("value", vb)]
  k_steps
  exact hret _ _ _ _ (by k_asm) (cb_drop (by k_asm) mem_skip2) ⟨_, _, rfl, rfl⟩

-- y5
section
open PySem.Builtin PySem.Builtin.Str
theorem at_one {x : List Nat} {c i : Nat} : StrLaws.At (ofL x) (ofL [c]) (ofL x).length i ↔ x[i]? = some c := by
  unfold StrLaws.At
  rw [StrLaws.subAt_eq, ofL_length, ofL_length]
  show i + 1 ≤ x.length ∧ ((x.drop i).take 1 == [c]) = true ↔ _
  constructor
  · rintro ⟨h1, h2⟩
    rw [List.drop_eq_getElem_cons (by omega)] at h2
    rw [List.getElem?_eq_getElem (by omega)]
    simp only [List.take_succ_cons, List.take_zero, beq_iff_eq, List.cons.injEq, and_true] at h2
    rw [h2]
  · intro h
    obtain ⟨h1, h2⟩ := List.getElem?_eq_some_iff.mp h
    refine ⟨h1, ?_⟩
    rw [List.drop_eq_getElem_cons h1, h2]; simp
theorem occ_split {a b : List Nat} {c : Nat} (ha : c ∉ a) : occurrences (ofL (a ++ c :: b)) (ofL [c]) 0 (ofL (a ++ c :: b)).length 1 = [a.length] := by
  have hl := StrLaws.occ_length_le (ofL (a ++ c :: b)) (ofL [c]) 0 (ofL (a ++ c :: b)).length 1
  have hat : (a ++ c :: b)[a.length]? = some c := by simp
  rcases StrLaws.occ_head (ofL (a ++ c :: b)) (ofL [c]) 1 (Nat.le_refl _) with ⟨-, n⟩ | ⟨i, r, e, h1, h2⟩
  · exact absurd (at_one.mpr hat) (n a.length)
  · rw [e] at hl ⊢
    have hr : r = [] := by cases r with | nil => rfl | cons y r => simp at hl
    subst hr
    rcases Nat.lt_trichotomy i a.length with q | q | q
    · have := at_one.mp h1
      rw [List.getElem?_append_left q] at this
      exact absurd (List.mem_of_getElem? this) ha
    · rw [q]
    · exact absurd (at_one.mpr hat) (h2 _ q)
theorem strSub_ofL (x : List Nat) (i j : Nat) : strSub (ofL x) i j = ofL ((x.take j).drop i) := by
  refine PySem.Str.ext' (Array.toList_inj.mp ?_)
  show (x.toArray.extract i j).toList = _
  simp [ofL, List.drop_take]
theorem kind_le (x : PySem.Str) (c : Nat) (hc : c < 256) : decide (Builtin.Str.strKind x < Builtin.Str.strKind (ofL [c])) = false := by
  have e : Builtin.Str.strKind (ofL [c]) = 1 := by
    unfold Builtin.Str.strKind
    rw [if_pos (by simp [ofL, hc])]
  rw [e]
  unfold Builtin.Str.strKind
  rw [decide_eq_false_iff_not]
  split
  · decide
  · split <;> decide
theorem splitMax_at {a b : List Nat} (ha : 61 ∉ a) : Txt.splitMax (ofL (a ++ 61 :: b)) (ofL [61]) 1 = [ofL a, ofL b] := by
  unfold Txt.splitMax
  have h1 : (decide ((ofL (a ++ 61 :: b)).length < (ofL [61]).length) || decide (Builtin.Str.strKind (ofL (a ++ 61 :: b)) < Builtin.Str.strKind (ofL [61]))) = false := by
    rw [kind_le _ 61 (by decide), Bool.or_false, ofL_length, ofL_length]; simp
  rw [h1, show limitOf (ofL (a ++ 61 :: b)) 1 = 1 from rfl, occ_split ha]
  simp only [Bool.false_eq_true, if_false, List.isEmpty_cons]
  unfold partsBetween
  simp only [List.map_cons, List.map_nil, List.singleton_append, List.zip_cons_cons, List.zip_nil_left, strSub_ofL, ofL_length]
  congr 2
  · simp
  · congr 2
    rw [List.take_of_length_le (by simp), show a ++ 61 :: b = (a ++ [61]) ++ b by simp, List.drop_left' (by simp)]
theorem splitMax_no {x : List Nat} (hx : 61 ∉ x) : Txt.splitMax (ofL x) (ofL [61]) 1 = [ofL x] := by
  unfold Txt.splitMax
  have h : (occurrences (ofL x) (ofL [61]) 0 (ofL x).length (limitOf (ofL x) 1)).isEmpty = true := by
    rw [show ofL [61] = (⟨#[61]⟩ : PySem.Str) from rfl, show limitOf (ofL x) 1 = 1 from rfl, ofL_in]; simp [hx]
  rw [h]
  simp
end
section
variable {prog : Program} {w : World} {A : Around} {E : Value → Shared → Prop} {s : Shared} {h₀ : Heap} {L : Addr} {m : PySem.Str → Option Value} {news : List (Addr × Obj)}
theorem call_split {x : List Nat} {xs : List (List Nat)} {Y : PySem.Str} {t u v : Tok} {Q : Value → Shared → Prop} (e1 : Y = ofL [61]) (hF : Fr h₀ L s.heap m) (hN : News h₀ L s.heap news) (hx : Txt.splitMax (ofL x) (ofL [61]) 1 = xs.map ofL) (hz : x.length ≤ 100000)
    (h : ∀ vs D h' tk, StrsAre vs (xs.map ofL) → Fr h₀ L h' m → News h₀ L h' ((D, { cls := .type "list", data := .seq vs.toArray }) :: news) → (∀ p ∈ news, p.1 < D) → Q (.ref D) { s with heap := h', toks := tk }) :
    wpAny (model prog w) A (call (.builtin "str.split") [.str (ofL x) t, .str Y u, .int 1 v]) Q E s := by
  subst e1
  refine splitN2A hF hN (by rfl) (by decide) (fun l h' tk e hs _ _ F N => ?_) (by rw [ofL_length, sizeLine_eq]; omega)
  rw [e, hx] at hs
  exact h _ _ _ _ hs F N fun p hp => Heap.lt_size (hN p hp).1
end

-- c8
theorem kwl37 : True := by
  k_with "call builtin:str.split!" => ((k_here; (k_dflt (refine' call_split ?hqe1 ?hqk1 ?hqk2 ?hqk3 ?hqk4 ?_; (case hqe1 => walk_at "my lit"); (case hqk1 => k_asm); (case hqk2 => k_asm); (case hqk3 => assumption); (case hqk4 => assumption); k_whole; intro vs' D' h' tk' hvs' F' N' l'; (try dsimp only); (try k_fold)))))
  trivial
/-- an update that leaves the third field of a record none, if it was none -/
def Keep2 (f : Obj → Obj) : Prop := ∀ o vs, o.data = .fields vs → vs[2]? = some .none → ∃ vs', (f o).data = .fields vs' ∧ vs'[2]? = some .none
/-- a tree that hands nothing on to other code, and whose updates are all such -/
def Mild {α : Type} : Sem α → Prop
  | .pure _ | .raise _ | .unsupported _ | .finish _ | .register _ _ | .yield .. | .fork .. | .await .. => True
  | .rule _ k | .at _ k | .point _ k => Mild (k ())
  | .load _ _ k => ∀ o, Mild (k o)
  | .update _ _ f k => Keep2 f ∧ Mild (k ())
  | .loadIfAlive _ k => ∀ o, Mild (k o)
  | .alloc _ k => ∀ a, Mild (k a)
  | .fresh k => ∀ a, Mild (k a)
  | .ask k => ∀ a, Mild (k a)
  | .stack k => ∀ a, Mild (k a)
  | .handled _ k => ∀ a, Mild (k a)
  | .thread k => Mild (k 0)
  | _ => False
theorem Mild.bind {α β : Type} {f : α → Sem β} (hf : ∀ a, Mild (f a)) : ∀ {t : Sem α}, Mild t → Mild (t >>= f) := fun {t} ht => by
  show Mild (t.bind f)
  induction t with
  | pure a => exact hf a
  | raise | unsupported | finish | register | yield | fork | await => trivial
  | rule _ k ih => exact ih () ht
  | «at» _ k ih => exact ih () ht
  | point _ k ih => exact ih () ht
  | load _ _ k ih => exact fun o => ih o (ht o)
  | update _ _ g k ih => exact ⟨ht.1, ih () ht.2⟩
  | loadIfAlive _ k ih => exact fun o => ih o (ht o)
  | alloc _ k ih => exact fun o => ih o (ht o)
  | fresh k ih => exact fun o => ih o (ht o)
  | ask k ih => exact fun o => ih o (ht o)
  | stack k ih => exact fun o => ih o (ht o)
  | handled _ k ih => exact fun o => ih o (ht o)
  | thread k ih => exact ih 0 ht
  | choose | os | call | newGen | genState | resume => exact ht.elim
theorem ExcIn.update {h : Heap} {e a : Addr} {f : Obj → Obj} (hf : Keep2 f) (x : ExcIn h e) : ExcIn (h.update a f) e := by
  obtain ⟨o, vs, ho, hd, h2⟩ := x
  by_cases q : a = e
  · subst q
    obtain ⟨vs', hd', h2'⟩ := hf o vs hd h2
    exact ⟨f o, vs', Heap.get?_update_self f ho (Obj.isFreed_of_fields hd'), hd', h2'⟩
  · exact ⟨o, vs, (Heap.get?_update_other _ _ q).trans ho, hd, h2⟩
theorem Mild.wp {α : Type} {M : Model} {Γ : Ctx} {e : Addr} {Q : α → Pos → Shared → Prop} {E : Value → Pos → Shared → Prop} : ∀ {t : Sem α} {p : Pos} {s : Shared}, Mild t → ExcIn s.heap e → Sem.wp M Γ t Q E p s →
    Sem.wp M Γ t (fun a p' s' => Q a p' s' ∧ ExcIn s'.heap e) (fun x p' s' => E x p' s' ∧ ExcIn s'.heap e) p s := fun {t} => by
  induction t with
  | pure a => intro p s _ x h; exact ⟨h, x⟩
  | raise a => intro p s _ x h; exact ⟨h, x⟩
  | unsupported | finish | register | yield | fork | await => intro p s _ x h; exact h.elim
  | rule _ k ih => intro p s m x h; exact ih () m x h
  | «at» _ k ih => intro p s m x h; exact ih () m x h
  | point _ k ih => intro p s m x h; exact ih () m x h
  | load _ _ k ih => intro p s m x h; obtain ⟨o, ho, h⟩ := h; exact ⟨o, ho, ih o (m o) x h⟩
  | update _ _ g k ih => intro p s m x h; exact ⟨h.1, ih () m.2 (x.update m.1) h.2⟩
  | loadIfAlive _ k ih => intro p s m x h; exact ih _ (m _) x h
  | alloc _ k ih => intro p s m x h; exact ih _ (m _) (x.keeps fun b o q => Heap.get?_push_of_some _ q) h
  | fresh k ih => intro p s m x h; exact ih _ (m _) x h
  | ask k ih => intro p s m x h; exact ih _ (m _) x h
  | stack k ih => intro p s m x h; exact ih _ (m _) x h
  | handled _ k ih => intro p s m x h; exact ih _ (m _) x h
  | thread k ih => intro p s m x h; exact ih _ m x h
  | choose | os | call | newGen | genState | resume => intro p s m; exact m.elim
theorem wpAny_mild {α : Type} {M : Model} {A : Around} {s : Shared} {e : Addr} {t : Sem α} {Q : α → Shared → Prop} {E : Value → Shared → Prop} (m : Mild t) (x : ExcIn s.heap e) (h : wpAny M A t Q E s) :
    wpAny M A t (fun a s' => Q a s' ∧ ExcIn s'.heap e) (fun v s' => E v s' ∧ ExcIn s'.heap e) s := fun Γ p hΓ => Mild.wp m x (h Γ p hΓ)
theorem keep2_set (i : Nat) (v : Value) (hi : i ≠ 2) : Keep2 (Obj.mapFields (·.setIfInBounds i v)) := fun o vs hd h2 => ⟨_, Obj.data_mapFields hd _, by rw [Array.getElem?_setIfInBounds_ne hi]; exact h2⟩
theorem mild_pure {α : Type} {a : α} : Mild (pure a : Sem α) := True.intro
theorem mild_fieldsOf (v : Value) : Mild (fieldsOf v) := by
  unfold fieldsOf
  split
  · exact fun o => by show Mild (match o.data with | .fields vs => pure vs | _ => _); split <;> trivial
  · trivial
theorem mild_field (v : Value) (i : Nat) : Mild (field v i) := by
  unfold field
  exact Mild.bind (fun a => by split <;> trivial) (mild_fieldsOf v)
theorem mild_setField (v : Value) (i : Nat) (x : Value) (hi : i ≠ 2) : Mild (setField v i x) := by
  unfold setField
  split
  · unfold updateField
    intro o
    show Mild (match o.data with | .fields vs => if i < vs.size then update _ _ else _ | _ => _)
    split
    · split
      · exact ⟨keep2_set i x hi, trivial⟩
      · trivial
    · trivial
  · trivial
theorem mild_flight (e : Value) (f : Option Addr) : Mild (setFlight e f) := by
  unfold setFlight
  refine Mild.bind (fun a => ?_) (mild_field _ _)
  split
  · exact mild_setField _ _ _ (by decide)
  · trivial
theorem mild_behind (env : Env) (outer : List Env) : Mild (behindIsImport env outer) := by
  unfold behindIsImport
  split
  · trivial
  · split
    · trivial
    · refine Mild.bind ?_ (mild_field _ _)
      intro a; exact mild_pure
theorem mild_under : Mild underTheClaimsCaller := fun _ => trivial
theorem mild_kept (env : Env) (b : Bool) (l : List Env) : Mild (keptBack env b l) := by
  unfold keptBack
  split
  · split
    · trivial
    · refine Mild.bind ?_ mild_under
      intro a; exact mild_pure
  · trivial
theorem mild_ready : ∀ l : List Env, Mild (readyFrames l)
  | [] => trivial
  | env :: outer => by
    unfold readyFrames
    split
    · intro o
      show Mild (if _ then _ else _)
      split
      · trivial
      · refine Mild.bind ?_ (mild_behind _ _)
        intro a
        refine Mild.bind ?_ (mild_kept _ _ _)
        intro b
        exact And.intro (fun o vs hd h2 => ⟨vs, hd, h2⟩) (mild_ready outer)
    · trivial
theorem mild_frames : Mild frameEnvs := fun _ => True.intro
theorem mild_frameOf (env : Env) : Mild (PySem.frameOf env) := by
  unfold PySem.frameOf
  refine Mild.bind ?_ mild_frames
  intro l
  refine Mild.bind ?_ ?_
  · intro r
    split <;> trivial
  · unfold frameObject
    split
    · trivial
    · refine Mild.bind ?_ (mild_ready _)
      intro a; exact mild_pure
theorem mild_place (f : Addr) (b : Bool) : Mild (entryPlaceOf f b) := fun l => by
  show Mild (match l.find? fun (c, _) => c.env?.bind (·.frame) == some f with
  | some (_, pos) => pure (if pos.line == 0 then [] else [rawInt pos.line, rawInt pos.endLine, rawInt pos.col, rawInt pos.endCol] ++ EntryCells.cells f b l)
  | none => pure [])
  split <;> exact mild_pure
theorem mild_entry (a b c d e : Value) (l : List Value) : Mild (EntryCells.newEntry a b c d e l) := by
  unfold EntryCells.newEntry newFields newObj newObjAsIs
  dsimp only
  split <;> split
  · trivial
  · exact fun _ => True.intro
  · trivial
  · exact fun _ => True.intro
theorem mild_note (e : Value) (env : Env) : Mild (noteFrame e env) := by
  unfold noteFrame
  split
  · refine Mild.bind (fun hd => ?_) (mild_field _ _)
    have tail : ∀ f b, Mild (do setField e 1 (← EntryCells.newEntry hd (← PySem.frameOf env) .none (rawInt f) .none (← entryPlaceOf f b))) := fun f b =>
      Mild.bind (fun _ => Mild.bind (fun _ => Mild.bind (fun _ => mild_setField _ _ _ (by decide)) (mild_entry _ _ _ _ _ _)) (mild_place _ _)) (mild_frameOf _)
    split
    · refine Mild.bind (fun _ => ?_) (mild_field _ _)
      split
      · trivial
      · exact Mild.bind (fun _ => tail _ _) (mild_setField _ _ _ (by decide))
    · exact tail _ _
  · trivial
theorem mild_leaving (env : Env) (e : Value) : Mild (leaving env e) := by
  unfold leaving
  exact Mild.bind (fun _ => mild_flight _ _) (mild_note _ _)

-- c7
/-- a contract beneath the claim's caller -/
def ConCA (w : World) (f : Addr) (need : Nat) (news : List (Addr × Obj)) (vs : List Value) (R : Value → List (Addr × Obj) → Prop) : Prop :=
  ∀ (p : Program) (loose : List PySem.Str) (mean : ExcName → Option Value) (mg mb : PySem.Str → Option Value) (dp un : Nat) (gd : Option (List PySem.Code)) (env : Env) (outer : List Env) (A₀ : Around) (base h₀ : Heap) (L : Addr) (m : PySem.Str → Option Value) (s : Shared) (Q E : Value → Shared → Prop),
    Below A₀ base outer h₀ → Fr h₀ L s.heap m → (K w.params).In h₀ → News h₀ L s.heap news → Top p loose mean mg mb h₀ → env.frame = some L → env.scope.kind = .function → dp + need < recursionLimit → un + 8 * need < cLine →
    (∀ v news' h' tk', Fr h₀ L h' m → News h₀ L h' news' → R v news' → Q v { s with heap := h', toks := tk' }) →
    codeC (model PySem.Challenge.pw_ij0084_01 w) { handled := none, depth := dp, frames := some (env :: outer), guards := gd, units := un } (.call (.ref f) ⟨vs, []⟩) (fun r s' => match r with | .ok (.ret v) => Q v s' | .ok _ => False | .error e => E e s') s
/-- a contract beneath the claim's caller of a call that ends in a TypeError -/
def ConCE (w : World) (f : Addr) (need : Nat) (news : List (Addr × Obj)) (vs : List Value) : Prop :=
  ∀ (p : Program) (loose : List PySem.Str) (mean : ExcName → Option Value) (mg mb : PySem.Str → Option Value) (dp un : Nat) (gd : Option (List PySem.Code)) (env : Env) (outer : List Env) (A₀ : Around) (base h₀ : Heap) (L : Addr) (m : PySem.Str → Option Value) (s : Shared) (Q E : Value → Shared → Prop),
    Below A₀ base outer h₀ → Fr h₀ L s.heap m → (K w.params).In h₀ → News h₀ L s.heap news → Top p loose mean mg mb h₀ → env.frame = some L → env.scope.kind = .function → dp + need < recursionLimit → un + 8 * need < cLine →
    (∀ g e h' tk', Fr h₀ L g m → RaisedSN base g (env :: outer) e (.type "TypeError") news h' → g.UpToSlots h' → ExcIn h' e → E (.ref e) { s with heap := h', toks := tk' }) →
    codeC (model PySem.Challenge.pw_ij0084_01 w) { handled := none, depth := dp, frames := some (env :: outer), guards := gd, units := un } (.call (.ref f) ⟨vs, []⟩) (fun r s' => match r with | .ok (.ret v) => Q v s' | .ok _ => False | .error e => E e s') s
theorem con_rowC {P : Prop} (h : PySem.Challenge.rw_ij0084_01 = PySem.Challenge.rw_ij0084_01 → P) : P := h rfl
local macro_rules | `(tactic| k_call_by "enterC" $t) => `(tactic| (
  k_dflt (refine' code_defC1 (hd := none) (binds := $t) ?k1 ?k2 ?k3 ?k4 ?k5 ?kH ?kA ?kF ?kK ?k6 ?k7 ?k8 ?k9 ?kB ?_ ?c2 ?c3 ?c4 ?c5; (case kA => exact rfl); (case kF => assumption); (case kK => assumption); (case k1 => k_asm); (case k2 => k_asm); (case k3 => k_asm); (case k4 => k_asm); (case k5 => k_asm); (case kH => exact HdC.none); (case k6 => k_is); (case k7 => k_is); (case k8 => walk_at "my room"); (case k9 => exact BindsTo.of_eq rfl); (case c5 => decide); (case kB => exact locs rfl); (case c2 => exact rfl); (case c3 => exact rfl); (case c4 => exact rfl); k_whole; intro g' L' h' FG' F' N' B' X' T' H'; (try dsimp only); (try k_fold))))
section
variable {M : Model} {A : Around} {E : Value → Shared → Prop} {s : Shared} {env : Env}
theorem lone_S {f : Value} {e : Expr} {p pos : Pos} {Q : Args → Shared → Prop} (h : wpAny M A (eval e env) (fun v s₁ => StarOf M A E v (fun vs s₂ => Q ⟨vs, []⟩ s₂) s₁) E s)
    (he : starEach [.Starred e p] env = [(true, eval e env)] := by rfl) : wpAny M A (evalArgs f true (backTo pos (starEach [.Starred e p] env)) []) Q E s := by
  rw [he]
  exact ks_lone h
end
theorem keep_pair (P : Params) : keepIn (K P) (.ref 210) = true := by kernel_rfl
theorem wpC_star_pair {w : World} {A : Around} {E : Value → Shared → Prop} {s : Shared} {env : Env} {e : Expr} {p pos : Pos} {Q : Value → Shared → Prop}
    (h : wpAny (model PySem.Challenge.pw_ij0084_01 w) A (eval e env) (fun v s₁ => StarOf (model PySem.Challenge.pw_ij0084_01 w) A E v (fun vs s₂ => (K w.params).In s₂.heap ∧ wpC (model PySem.Challenge.pw_ij0084_01 w) A (call (.ref 210) vs) Q E s₂) s₁) E s)
    (he : starEach [.Starred e p] env = [(true, eval e env)] := by rfl) : wpC (model PySem.Challenge.pw_ij0084_01 w) A (callWith pos (.ref 210) [] (backTo pos (starEach [.Starred e p] env)) []) Q E s :=
  wpC_callWith (P := (K w.params).In) (keeps_K (keep_pair w.params)) (by rw [he]; exact Nat.le_of_ble_eq_true rfl) (lone_S h he)
theorem two_le {a b : List Nat} {c n : Nat} (h : (a ++ c :: b).length ≤ n) : ∀ x ∈ [a, b], x.length ≤ n := fun x hx => by
  rw [List.length_append, List.length_cons] at h
  simp only [List.mem_cons, List.not_mem_nil, or_false] at hx
  rcases hx with rfl | rfl <;> omega
theorem con_parse_c (w : World) (news : List (Addr × Obj)) (a b : List Nat) (t : Tok) (ha : 61 ∉ a) (hz : (a ++ 61 :: b).length ≤ 100000) : ConCA w 204 4 news [.ref 210, .str (ofL (a ++ 61 :: b)) t] (fun v n => ∃ x dx t1 t2, v = .ref x ∧ n = (x, pairObj dx (.str (Txt.strip (ofL a)) t1) (.str (Txt.strip (ofL b)) t2)) :: (dx, { cls := .type "dict", data := .dict #[] }) :: news) := by
  refine con_row ?_; unfold ConCA; k_fill; intro _
  intro p loose mean mg mb dp un gd env outer A₀ base h₀ L m s Q E B F X N T he hk hdp hun hret
  have hsp : Txt.splitMax (ofL (a ++ 61 :: b)) (ofL [61]) 1 = [a, b].map ofL := splitMax_at ha
  k_call_by "enterC" [("cls", .ref 210), ("text", .str (ofL (a ++ 61 :: b)) t)]
  refine wpC_execs_path (wpC_Return (wpC_Call_Name ?_))
  k_steps
  refine wpC_star_pair ?_
  k_steps
  (rename News _ _ _ _ => nE'); (rename StrsAre _ _ => hS'); (rename Below _ _ _ _ => bE'); rename_i l1' l2' l3'
  refine' star_map (hd := none) (xs := [a, b]) ?hA ?F ?N ?hm ?l1 ?l2 ?l3 ?H ?hv ?hz ?hn ?_
  case hA => exact rfl
  case F => k_asm
  case N => exact nE'
  case hm => exact List.mem_cons_self ..
  case l1 => exact l1'
  case l2 => exact l2'
  case l3 => exact l3'
  case H => exact HdC.none
  case hv => exact hS'
  case hz => exact two_le hz
  case hn => exact Nat.le_of_ble_eq_true rfl
  intro ws h9 tk9 hws F9 N9
  obtain ⟨t1, ws1, rfl, hws1⟩ := hws.cons_inv
  obtain ⟨t2, ws2, rfl, hws2⟩ := hws1.cons_inv
  cases hws2.nil_inv
  have X9 : (K w.params).In h9 := by
    refine' (?z : (K w.params).In _).keeps F9.keep
    assumption
  refine ⟨X9, wpC_call (codeC_pair X9 (wpC_any ?_))⟩
  show wpAny _ { handled := none, depth := _, frames := some (_ :: _), guards := _, units := _ } _ _ _ _
  refine' con_useH (hd := none) ?k1 F9 ?k3 N9 ?k5 HdC.none ?kA ?kK (con_new _ none _ _ _) ?kd ?ku ?_
  case k1 => assumption
  case k3 => assumption
  case k5 => assumption
  case kA => exact rfl
  case kK => exact rfl
  case kd => (show dp + 1 + 1 + 1 < recursionLimit; omega)
  case ku => (show un + 3 + 1 + 8 * 1 < cLine; omega)
  intro v9 n9 h10 tk10 F10 N10 r9
  obtain ⟨x, dx, rfl, rfl⟩ := r9
  have X10 : (K w.params).In h10 := by
    refine' (?z : (K w.params).In _).keeps F10.keep
    all_goals assumption
  refine ⟨x, dx, _, _, rfl, (N10 _ (List.mem_cons_self ..)).1, X10, ?_⟩
  dsimp only [RestC]
  exact leaveK_ F10 N10 (fun kF kN => hret _ _ _ _ kF (cb_drop kN mem_skip2) ⟨_, _, _, _, rfl, rfl⟩)
theorem con_parse_e (w : World) (news : List (Addr × Obj)) (x : List Nat) (t : Tok) (hx : 61 ∉ x) (hz : x.length ≤ 100000) : ConCE w 204 4 news [.ref 210, .str (ofL x) t] := by
  refine con_row ?_; unfold ConCE; k_fill; intro _
  intro p loose mean mg mb dp un gd env outer A₀ base h₀ L m s Q E B F X N T he hk hdp hun hret
  have hsp : Txt.splitMax (ofL x) (ofL [61]) 1 = [x].map ofL := splitMax_no hx
  k_call_by "enterC" [("cls", .ref 210), ("text", .str (ofL x) t)]

  refine wpC_execs_path (wpC_Return (wpC_Call_Name ?_))
  k_steps
  refine wpC_star_pair ?_
  k_steps
  (rename News _ _ _ _ => nE'); (rename StrsAre _ _ => hS'); (rename Below _ _ _ _ => bE'); rename_i l1' l2' l3'
  refine' star_map (hd := none) (xs := [x]) ?hA ?F ?N ?hm ?l1 ?l2 ?l3 ?H ?hv ?hz ?hn ?_
  case hA => exact rfl
  case F => k_asm
  case N => exact nE'
  case hm => exact List.mem_cons_self ..
  case l1 => exact l1'
  case l2 => exact l2'
  case l3 => exact l3'
  case H => exact HdC.none
  case hv => exact hS'
  case hz => exact fun z q => by rw [List.mem_singleton.mp q]; exact hz
  case hn => exact Nat.le_of_ble_eq_true rfl
  intro ws h9 tk9 hws F9 N9
  obtain ⟨t1, ws1, rfl, hws1⟩ := hws.cons_inv
  cases hws1.nil_inv
  have X9 : (K w.params).In h9 := by
    refine' (?z : (K w.params).In _).keeps F9.keep
    all_goals assumption
  refine ⟨X9, wpC_call (codeC_pair X9 ?_)⟩
  refine wpC_call (codeC_call_short X9 rfl (by show dp + 1 + 1 < recursionLimit; omega) ?_)
  intro h10 tk10 e10 hx10
  dsimp only
  have x10 : ExcIn h10 e10 := by
    obtain ⟨ob, t, he, _, hd⟩ := hx10.there
    exact ⟨ob, _, he, hd, rfl⟩
  refine wpAny_mono (wpAny_mild (mild_leaving _ _) x10 (leave_newS (Q := fun _ s₂ => ∃ h' g, s₂ = { s with heap := h', toks := tk10 } ∧ Fr h₀ L g m ∧ RaisedSN base g (env :: outer) e10 (.type "TypeError") news h' ∧ g.UpToSlots h') bE' hx10 F9 (news_drop1 N9) (fun h' R R' up => ⟨h', _, rfl, by assumption, R, up⟩))) (fun _ s₂ h => ?_) (fun _ _ h => h.1)
  obtain ⟨⟨h', g, rfl, Fg, R, up⟩, x⟩ := h
  exact hret _ _ _ _ Fg R up x

-- c9
section
variable {A₀ A : Around} {base h₀ g g' h' G B₉ h₅ : Heap} {env : Env} {outer : List Env} {L L' : Addr} {m m' : PySem.Str → Option Value} {news' : List (Addr × Obj)}
theorem frames_at (hf : env.frame = some L) : (env :: outer).filterMap (·.frame) = L :: outer.filterMap (·.frame) := by rw [List.filterMap_cons, hf]
/-- what a call hands back when exceptions have been caught within it: the frames' slots have turned -/
theorem turn_out (B : Below A₀ base outer h₀) (FG : Fr h₀ L g m) (hf : env.frame = some L) (T' : KtsTurn ((env :: outer).filterMap (·.frame)) g g') (F' : Fr g' L' h' m') (N' : News g' L' h' news') :
    ∃ h₁, KtsTurn (outer.filterMap (·.frame)) h₀ h₁ ∧ Fr h₁ L h' m ∧ News h₁ L h' news' ∧ Below A₀ base outer h₁ := by
  rw [frames_at hf] at T'
  obtain ⟨oL, es, ep, hLg, hLd, r1, r2⟩ := FG.ns
  have nL := kts_self FG
  obtain ⟨sl, hs⟩ := T'.up hLg
  obtain ⟨T₁, S₁⟩ := kts_turn_at (h := h') (fs := outer.filterMap (·.frame)) (g := h₀)
    (fun b hb => let ⟨_, o, ho, _⟩ := B.frames.mem hb; ⟨o, ho⟩)
    (fun b o e nm => F'.keep b o (T'.other b o (FG.keep b o e) fun q => by
      rcases List.mem_cons.mp q with z | z
      · rw [z, nL] at e; cases e
      · exact nm z))
    (fun b o e _ => let ⟨sl', hs'⟩ := T'.up (FG.keep b o e); ⟨sl', F'.keep _ _ hs'⟩)
  refine ⟨_, T₁, ⟨⟨_, es, ep, F'.keep _ _ hs, hLd, r1, r2⟩, S₁, by rw [T₁.size]; exact FG.above⟩, fun p hp => ⟨(N' p hp).1, fun q => ?_, T₁.none_ _ ?_⟩, B.stack, fun b o e => T₁.other b o (B.stays b o e) fun hm => ?_, B.frames.of_keeps fun b o e _ => ?_⟩
  · have := (N' p hp).2.2; rw [q, hs] at this; cases this
  · cases q : h₀.get? p.1 with
    | none => rfl
    | some o =>
      obtain ⟨sl', hs'⟩ := T'.up (FG.keep _ _ q)
      have := (N' p hp).2.2
      rw [hs'] at this; cases this
  · rw [(B.frames.mem hm).1] at e; cases e
  · obtain ⟨sl', hs'⟩ := T₁.up e
    exact ⟨_, hs', rfl⟩
theorem ground_turn (K : Below A₀ base outer g) (F : Fr g L G m) (hf : env.frame = some L) (hBG : ∀ b o, G.get? b = some o → b ∉ (env :: outer).filterMap (·.frame) → B₉.get? b = some o) (hBh : B₉.StaysIn h₅) (hsm : G.UpToSlots h₅) :
    ∃ g', KtsTurn (outer.filterMap (·.frame)) g g' ∧ Fr g' L h₅ m ∧ Below A₀ base outer g' :=
  kts_ground (name := "") (scope := env.scope) (a := 0) (cd := .none) K F (fun b o e n => hBG b o e (by rw [frames_at hf]; exact n)) hBh hsm
end
section
variable {prog : Program} {w : World} {A₀ : Around} {E : Value → Shared → Prop} {s' : Shared} {base g G : Heap} {outer : List Env} {L a e : Addr} {m : PySem.Str → Option Value} {name : PySem.Str} {scope : Scope} {cd : Value} {cl : List (PySem.Str × Addr)}
  {b₀ : Stmt} {suite : List Stmt} {pos np : Pos} {rest : List ExceptHandler} {Q : Flow → Shared → Prop} {news : List (Addr × Obj)} {KF : Frag}
  {p : Program} {loose : List PySem.Str} {mean : ExcName → Option Value} {mg mb : PySem.Str → Option Value} {x : PySem.Str} {X T' : String}
theorem caughtX (R : RaisedSN base G (envX name scope L a cd cl :: outer) e (.type X) news s'.heap) (F : Fr g L G m) (K : Below A₀ base outer g) (hsm : G.UpToSlots s'.heap) (hx₀ : ExcIn s'.heap e) (XB : KF.In base) (TB : Top p loose mean mg mb base)
    (D : KtsDicts (outer.filterMap (·.frame)) g)
    (ex : nsIn KF mainGlobals x = some none) (hv : bootBuiltins x = some (.type T')) (hn' : x ≠ "__name__")
    (hexc : isSubtype (.type T') (.type "BaseException") = pure true) (hnt : isSubtype (.type ((Manifest.find? T').elim "type" fun y => y.metatype)) (.type "tuple") = pure false) (hsub : isSubtype (.type X) (.type T') = pure true)
    (k : ∀ h' g', KtsTurn (outer.filterMap (·.frame)) g g' → Fr g' L h' m → News g' L h' news → Below A₀ base outer g' → KF.In g' → Top p loose mean mg mb g' → KtsDicts (outer.filterMap (·.frame)) g' → HdC (some (.ref e)) h' news →
      wpAny (model prog w) ((A₀.deeper (envX name scope L a cd cl)).mark (some (.ref e))) (execs (b₀ :: suite) (envX name scope L a cd cl)) Q (fun _ _ => False) { s' with heap := h' })
    (hk : scope.kind = .function := by rfl) (hx : (envX name scope L a cd cl).kindOf x = some .globalImplicit := by rfl) (hd : (x == ("__debug__" : PySem.Str)) = false := by decide) :
    wpAny (model prog w) (A₀.deeper (envX name scope L a cd cl)) (noteFrame (.ref e) (envX name scope L a cd cl))
      (fun _ s₂ => wpAny (model prog w) (A₀.deeper (envX name scope L a cd cl)) (setFlight (.ref e) none) (fun _ s₃ =>
        wpAny (model prog w) (A₀.deeper (envX name scope L a cd cl)) (handleBy (.ref e) (envX name scope L a cd cl) (.ExceptHandler (some (.Name x np)) none (b₀ :: suite) pos :: rest)) Q E s₃) E s₂) E s' := by
  obtain ⟨B, a0, hB, hBG, hl, hfl⟩ := R
  have hL : B.get? L = none := by
    obtain ⟨_, ⟨L', _, hf, hn', _⟩, _⟩ := hfl.2.2.1
    obtain rfl : L = L' := Option.some.inj hf
    exact hn'
  have hen : B.get? e = none := hfl.2.1
  refine wpAny_mono (wpAny_mild (mild_note _ _) hx₀ (wpAny_looks_onW (E := E) (Q := fun _ s₂ => ∃ h', s₂ = { s' with heap := h' } ∧ Heap.HeldW B (envX name scope L a cd cl :: outer) e (.type X) a0 L h' ∧ s'.heap.UpToSlots h') (Around.frames_deeper K.stack) rfl hfl fun h₄ q1 q2 => ⟨h₄, rfl, q1, q2⟩)) (fun _ s₂ h₂ => ?_) fun _ _ y => y.1
  obtain ⟨⟨h₄, rfl, hheld₄, hsm₄⟩, hx₄⟩ := h₂
  refine wpAny_mono (wpAny_mild (mild_flight _ _) hx₄ (wpAny_landsW (E := E) (Q := fun _ s₃ => ∃ h', s₃ = { s' with heap := h' } ∧ Heap.FlyingW B (envX name scope L a cd cl :: outer) e (.type X) a0 h' ∧ h₄.UpToSlots h') hheld₄ fun h₅ q1 q2 => ⟨h₅, rfl, q1, q2⟩)) (fun _ s₃ h₃ => ?_) fun _ _ y => y.1
  obtain ⟨⟨h₅, rfl, hheld, hsm₅'⟩, hx₅⟩ := h₃
  have hsm₅ := hsm₄.trans hsm₅'
  obtain ⟨g₅, T₅, F₅, K₅⟩ := ground_turn K F rfl hBG hheld.1 (hsm.trans hsm₅)
  have X₅ : KF.In g₅ := XB.keeps K₅.stays
  have P₅ : TopRead p loose mg mb g₅ := topRead_of (TB.keeps K₅.stays)
  obtain ⟨ob, hob, hobc⟩ := hheld.there
  refine wpAny_handleBy_builtin (X := X) (T := T') (b := true) hexc hnt hsub (nameX_B F₅ X₅ P₅ ex hv hn' ⟨rfl, ⟨ob, hob, hobc⟩, ?_⟩ hk hx hd)
  refine wpAny_mono (wpAny_mild (mild_flight _ _) hx₅ (lands_againW (E := fun _ _ => False) (Q := fun _ s₃ => ∃ h', s₃ = { s' with heap := h' } ∧ Heap.FlyingW B (envX name scope L a cd cl :: outer) e (.type X) a0 h' ∧ h₅.UpToSlots h') hheld fun h₆ q1 q2 => ⟨h₆, rfl, q1, q2⟩)) (fun _ s₃ h₃ => ?_) fun _ _ y => y.1.elim
  obtain ⟨⟨h₆, rfl, hfl₆, hsm₆⟩, hx₆⟩ := h₃
  obtain ⟨g₆, T₆, F₆, K₆⟩ := ground_turn K F rfl hBG hfl₆.1 ((hsm.trans hsm₅).trans hsm₆)
  have Nl : News g₆ L h₆ news := fun q hq => ⟨hfl₆.1 _ _ (hl q hq).1, (fun z => by have := (hl q hq).1; rw [z, hL] at this; cases this), T₆.none_ _ (kts_none F.keep (hl q hq).2.1)⟩
  have X₆ : KF.In g₆ := XB.keeps K₆.stays
  have P₆ : Top p loose mean mg mb g₆ := TB.keeps K₆.stays
  have H₆ : HdC (some (.ref e)) h₆ news := fun v q => by
    cases q
    refine ⟨e, rfl, hx₆, fun z => ?_⟩
    obtain ⟨q, hq, rfl⟩ := List.mem_map.mp z
    have := (hl q hq).1
    rw [hen] at this; cases this
  exact wpAny_noRaise (k h₆ g₆ T₆ F₆ Nl K₆ X₆ P₆ (D.turn T₆) H₆)
end
/-- what the body of a def hands back when exceptions may have been caught within it -/
def LeaveT (fs : List Addr) (A₀ : Around) (base : Heap) (outer : List Env) (K : Frag) (p : Program) (loose : List PySem.Str) (mean : ExcName → Option Value) (mg mb : PySem.Str → Option Value) (h₀ : Heap) (L : Addr) (m : PySem.Str → Option Value) (g : Heap) (R : Result → Shared → Prop) (v : Value) (s' : Shared) : Prop :=
  ∃ g' L' m' news', KtsTurn fs g g' ∧ Fr g' L' s'.heap m' ∧ News g' L' s'.heap news' ∧ ∀ h₁, KtsTurn (outer.filterMap (·.frame)) h₀ h₁ → Fr h₁ L s'.heap m → News h₁ L s'.heap news' → Below A₀ base outer h₁ → K.In h₁ → Top p loose mean mg mb h₁ →
    KtsDicts (outer.filterMap (·.frame)) h₁ → R (.ok (.ret v)) s'
section
variable {prog : Program} {w : World} {A₀ A : Around} {s : Shared} {base h₀ : Heap} {env : Env} {outer : List Env} {L : Addr} {m : PySem.Str → Option Value} {news : List (Addr × Obj)} {K : Frag} {p : Program} {loose : List PySem.Str} {mean : ExcName → Option Value} {mg mb : PySem.Str → Option Value}
    {R : Result → Shared → Prop} {name qual : PySem.Str} {params : Arguments} {body : List Stmt} {scope : Scope} {dV kV doc pm cdv ct oc : Value} {an od : Option Addr} {osl : Array (Option Value)} {f : Addr} {args : Args} {binds : List (PySem.Str × Value)}
/-- a call of a def with cells beneath the claim's caller, that catches exceptions and raises none -/
theorem code_cellsT (B : Below A₀ base outer h₀) (F : Fr h₀ L s.heap m) (N : News h₀ L s.heap news) (XB : K.In base) (TB : Top p loose mean mg mb base) (D : KtsDicts (outer.filterMap (·.frame)) h₀) (hA : A.frames = some (env :: outer)) (hf : env.frame = some L) (hke : env.scope.kind = .function)
    (ho : K.lookup f = some ⟨oc, od, .func (fnOf name qual params body scope dV kV doc pm an cdv ct), osl⟩) (hcd : codeIn K cdv qual = true) (hroom : A.depth < recursionLimit)
    (hbind : BindsTo s (fnOf name qual params body scope dV kV doc pm an cdv ct) args binds) (hkind : (binds.all fun y => scope.names.lookup y.1 == some .local || scope.names.lookup y.1 == some .cell) = true)
    (hnd : ((cellsFrom 0 scope.names []).map (·.1)).Nodup)
    (h : ∀ g L' h₁ tk cells, Fr g L' h₁ (bindL (envOfC qual scope L' f cdv).kindOf binds fun _ => none) → News g L' h₁ (cells ++ news) →
      CellsAre (bindC (envOfC qual scope L' f cdv).kindOf binds fun _ => none) (cellsFrom (L' + 1) scope.names []) cells → Below A base (env :: outer) g → K.In g → Top p loose mean mg mb g → KtsDicts ((env :: outer).filterMap (·.frame)) g → (∀ q ∈ news, q.1 < L') →
      wpC (model prog w) (A.deeper (envOfC qual scope L' f cdv)) (execs body (envOfC qual scope L' f cdv))
        (fun fl s' => LeaveT ((env :: outer).filterMap (·.frame)) A₀ base outer K p loose mean mg mb h₀ L m g R (match fl with | .ret v => v | _ => .none) s')
        (fun _ _ => False) { s with heap := h₁, toks := tk })
    (hco : scope.isCoroutine = false) (hgen : scope.isGenerator = false) (hk : scope.kind = .function) : codeC (model prog w) A (.call (.ref f) args) R s := by
  obtain ⟨FG, BG, st, -⟩ := groundX (R := R) B F N hA hf hke
  have X₀ : K.In h₀ := XB.keeps B.stays
  have hlim : h₀.NoLimit := (TB.keeps B.stays).nolimit
  refine codeC_call_function hroom ((X₀.keeps F.keep) _ _ ho) rfl hco hgen rfl (codeRec_of (X₀.keeps F.keep) hcd) (wpC_any (hbind _ _ _ _ ?_))
  refine wpAny_newFunctionEnv_cells hk (kindsX hkind _) fun env' he s' x => ?_
  subst he
  refine ⟨(hlim.keeps F.keep).keeps x.toInCall.keep, codeC_func ?_⟩
  obtain ⟨h₁, tk, rfl, _⟩ := x.done
  have hk₁ := x.toInCall.keep
  obtain ⟨cells, NC, Y⟩ := Cl.news (h₀ := s.heap) (Nat.le_refl _) fun n c hm => ⟨x.cell n c (lookup_of_mem_nodup (cellsFrom_names scope.names 0 (s.heap.objs.size + 1) [] [] rfl ▸ hnd) hm), x.above n c hm⟩
  obtain ⟨oL, es, ep, hLg, hLd, -⟩ := id FG.ns
  refine wpC_mono (h _ s.heap.objs.size h₁ tk cells ⟨x.toInCall.ns, fun b o e => hk₁ b o (of_hideAll _ e), Nat.le_of_eq (hideAll_size _ _)⟩ (fun p hp => ?_) Y BG (X₀.keeps st) ((TB.keeps B.stays).keeps st) (fun b hb => ?_) (fun q hq => Heap.lt_size (N q hq).1)) (fun fl s' hl => ?_) fun _ _ y => y.elim
  · rcases List.mem_append.mp hp with hp | hp
    · refine ⟨(NC p hp).1, (NC p hp).2.1, ?_⟩
      cases q : (hideAll s.heap (news.map (·.1))).get? p.1 with
      | none => rfl
      | some o => have := of_hideAll _ q; rw [(NC p hp).2.2] at this; cases this
    · exact ⟨hk₁ _ _ (N p hp).1, Nat.ne_of_lt (Heap.lt_size (N p hp).1), hideAll_none _ (List.mem_map_of_mem hp)⟩
  · rw [frames_at hf] at hb
    rcases List.mem_cons.mp hb with rfl | hb
    · exact ⟨oL, es, ep, hLg, hLd⟩
    · obtain ⟨o, es', n', ho', hd'⟩ := D b hb
      exact ⟨o, es', n', st b o ho', hd'⟩
  · obtain ⟨g', L', m', news', T', F', N', k⟩ := hl
    obtain ⟨h₂, T₂, F₂, N₂, B₂⟩ := turn_out B FG hf T' F' N'
    exact k h₂ T₂ F₂ N₂ B₂ (XB.keeps B₂.stays) (TB.keeps B₂.stays) (D.turn T₂)
end

-- c10
abbrev NoE : Value → Shared → Prop := fun _ _ => False
section
variable {M : Model} {A : Around} {s : Shared} {env : Env}
/-- what the turns of a comprehension want, beneath the claim's caller -/
def compPostC (Q : Value → Shared → Prop) (acc : Value) (C : Addr) (r : Result) (s' : Shared) : Prop := match r with
  | .ok _ => ∃ m, s'.heap.Ns C m ∧ ∀ h', Heap.SameBut C s'.heap h' → Q acc { s' with heap := h' }
  | .error _ => False
theorem wpC_comprehension {e : Expr} {scope : Scope} {pos : Pos} {newAcc first : Sem Value} {g : Comprehension} {gs : List Comprehension} {cl : List (PySem.Str × Addr)} {Q : Value → Shared → Prop} {E : Value → Shared → Prop}
    (hcl : clausesOf e = g :: gs) (hs : ∀ x, foldedSetIterable g.iter env x = pure x) (hclos : closureFor scope env = pure cl)
    (hkind : scope.kind = .function) (hnames : ∀ x ∈ scope.names, x.2 = .local → scope.names.lookup x.1 = some .local)
    (h : wpAny M A first (fun x s₁ => wpAny M A (pyIter x) (fun it s₂ => wpAny M A newAcc (fun acc s₃ =>
      wpAny M A (newFunctionEnv scope env.globals cl [] env.qual none .none (some env)) (fun cenv s₄ =>
        codeC M A (.compStart e 0 it acc { cenv with scope := relabel scope env }) (compPostC Q acc cenv.locals) s₄) E s₃) E s₂) E s₁) E s) :
    wpC M A (comprehension e scope env pos newAcc false first none) Q E s := by
  unfold comprehension
  rw [hclos, hcl]
  refine wpC_abind (wpAny_mono h (fun x s₁ h₁ => wpC_abind (wpAny_standAt (wpC_abind (wpAny_of_eq (hs x) (wpC_abind (wpAny_holding (wpAny_mono h₁ (fun it s₂ h₂ => ?_) fun _ _ h' => h'))))))) fun _ _ h' => h')
  refine wpC_abind (wpAny_mono h₂ (fun acc s₃ h₃ => ?_) fun _ _ h' => h')
  refine wpC_abind (wpAny_pure ?_)
  refine wpC_abind (wpAny_mono h₃ (fun cenv s₄ h₄ => ?_) fun _ _ h' => h')
  dsimp only
  have hv : ∀ x ∈ (scope.names.filter fun x => (x.2 == .local || x.2 == .cell) && x.1 != (".0" : PySem.Str)).reverse, x.2 = .local →
      Env.kindOf { cenv with scope := relabel scope env } x.1 = some .local := fun x hx hl => lookup_relabel_local (hnames x (List.mem_filter.mp (List.mem_reverse.mp hx)).1 hl)
  refine wpC_holding (wpC_bind (wpC_attempt (wpC_holding (wpC_run (codeC_mono (R := compPostC Q acc cenv.locals) h₄ fun r s' hr => ?_) (by intro x; cases x)))))
  cases r with
  | error x => exact hr.elim
  | ok f =>
    obtain ⟨m, hn, hr⟩ := hr
    exact wpC_abind (wpAny_holding (wpAny_comp_letGo (cenv := { cenv with scope := relabel scope env }) hkind _ s' m hv hn fun h' m' _ hs' => wpC_pure (hr h' hs')))
end
section
variable {prog : Program} {w : World} {A : Around}
theorem codeC_compStart {elt target iter ifs rest scope pos it acc env} {R : Result → Shared → Prop} {s : Shared}
    (h0 : codeC (model prog w) A (.compLoop (.ListComp elt (⟨target, iter, ifs, 0⟩ :: rest) scope pos) 0 it acc env) R s)
    (h : wpAny (model prog w) A (pyIter it) (fun it' s' => codeC (model prog w) A (.compLoop (.ListComp elt (⟨target, iter, ifs, 0⟩ :: rest) scope pos) 0 it' acc env) R s') NoE s) :
    codeC (model prog w) A (.compStart (.ListComp elt (⟨target, iter, ifs, 0⟩ :: rest) scope pos) 0 it acc env) R s := by
  refine codeC_of_tree ?_
  rw [Around.under_of_weight rfl]
  show wpC _ _ ((compStart (.ListComp elt (⟨target, iter, ifs, 0⟩ :: rest) scope pos) 0 it acc env).onRaise (fun x => do noteFrame x env; standAt theWindowsPlace)) _ _ s
  refine wpC_onRaise (wpC_mono (E := NoE) ?_ (fun _ _ x => x) fun _ _ x => x.elim)
  unfold compStart
  show wpC _ _ (ask >>= _) _ _ s
  refine wpC_abind (wpAny_askSetting ?_)
  by_cases hq : (Params.followText (Setting.params ⟨(model prog w).prog, (model prog w).w.params⟩) "comprehension-iter-twice") = true
  · rw [if_pos hq]
    exact wpC_pure ⟨rfl, h0⟩
  · rw [if_neg hq]
    refine wpC_abind (wpAny_rule ?_)
    show wpC _ _ (standAt iter.pos >>= fun _ => pyIter it >>= _) _ _ s
    exact wpC_abind (wpAny_standAt (wpC_abind (wpAny_mono h (fun it' s' h' => wpC_pure ⟨rfl, h'⟩) fun _ _ x => x)))
theorem codeC_compLoop {elt iter : Expr} {x : PySem.Str} {px pos : Pos} {scope : Scope} {it acc : Value} {env : Env} {R : Result → Shared → Prop} {n : Nat} (Inv : Nat → Shared → Prop)
    (item : ∀ i s, i < n → Inv i s → wpAny (model prog w) A (pyNext it) (fun r s₁ => ∃ v, r = some v ∧ wpAny (model prog w) A (assign (.Name x px) env v) (fun _ s₂ =>
      wpC (model prog w) A (eval elt env) (fun y s₃ => wpAny (model prog w) A (call (.builtin "list.append") [acc, y]) (fun _ s₄ => Inv (i + 1) s₄) NoE s₃) NoE s₂) NoE s₁) NoE s)
    (done : ∀ s, Inv n s → wpAny (model prog w) A (pyNext it) (fun r s₁ => r = none ∧ R (.ok .next) s₁) NoE s) :
    ∀ (k i : Nat) (s : Shared), i + k = n → Inv i s → codeC (model prog w) A (.compLoop (.ListComp elt [⟨.Name x px, iter, [], 0⟩] scope pos) 0 it acc env) R s
  | k, i, s, hk, hI => by
    refine codeC_of_tree ?_
    rw [Around.under_of_weight rfl]
    show wpC _ _ ((compTurn (.ListComp elt [⟨.Name x px, iter, [], 0⟩] scope pos) 0 it acc env).onRaise (fun x => do noteFrame x env; theTreesLotGoes x)) _ _ s
    refine wpC_onRaise (wpC_mono (E := NoE) ?_ (fun _ _ x => x) fun _ _ x => x.elim)
    rw [compTurn_list1]
    refine wpC_abind (wpAny_standAt ?_)
    cases k with
    | zero =>
      obtain rfl : i = n := hk
      refine wpC_abind (wpAny_mono (done s hI) (fun r s₁ h₁ => ?_) fun _ _ x => x)
      obtain ⟨rfl, h₁⟩ := h₁
      exact wpC_pure h₁
    | succ k =>
      refine wpC_abind (wpAny_mono (item i s (by omega) hI) (fun r s₁ h₁ => ?_) fun _ _ x => x)
      obtain ⟨v, rfl, h₁⟩ := h₁
      refine wpC_abind (wpAny_of_eq (show letOwnedTupleGo (.Name x px) it v = pure () from rfl) ?_)
      refine wpC_abind (wpAny_mono h₁ (fun _ s₂ h₂ => ?_) fun _ _ x => x)
      refine wpC_bind (wpC_bind (wpC_mono h₂ (fun y s₃ h₃ => ?_) fun _ _ x => x))
      refine wpC_abind (wpAny_mono h₃ (fun _ s₄ h₄ => ?_) fun _ _ x => x)
      exact wpC_pure (wpC_pure ⟨rfl, codeC_compLoop Inv item done k (i + 1) s₄ (by omega) h₄⟩)
end

-- c11
theorem below_turn {A₀ : Around} {base g g' : Heap} {outer : List Env} (B : Below A₀ base outer g) (T : KtsTurn (outer.filterMap (·.frame)) g g') : Below A₀ base outer g' :=
  ⟨B.stack, fun b o e => T.other b o (B.stays b o e) (fun hm => by rw [(B.frames.mem hm).1] at e; cases e), B.frames.of_keeps fun _ _ e _ => let ⟨_, hs'⟩ := T.up e; ⟨_, hs', rfl⟩⟩
/-- an iterator that lies at `I` and hands out `vals`; `St i` is what it looks like after `i` of them, `oT` what it reads -/
structure IterOn (w : World) (A : Around) (I T : Addr) (St : Nat → Obj → Prop) (oT : Obj) (vals : List Value) : Prop where
  item : ∀ (i : Nat) (v : Value) (s : Shared) (oI : Obj) (Q : Option Value → Shared → Prop), vals[i]? = some v → s.heap.get? I = some oI → St i oI → s.heap.get? T = some oT →
    (∀ h' o', h'.get? I = some o' → St (i + 1) o' → Heap.SameBut I s.heap h' → Q (some v) { s with heap := h' }) → wpAny (model PySem.Challenge.pw_ij0084_01 w) A (pyNext (.ref I)) Q NoE s
  done : ∀ (s : Shared) (oI : Obj) (Q : Option Value → Shared → Prop), s.heap.get? I = some oI → St vals.length oI → s.heap.get? T = some oT →
    (∀ h', Heap.ExtBut I s.heap h' → Q none { s with heap := h' }) → wpAny (model PySem.Challenge.pw_ij0084_01 w) A (pyNext (.ref I)) Q NoE s
  self : ∀ (s : Shared) (oI : Obj) (Q : Value → Shared → Prop), s.heap.get? I = some oI → St 0 oI → Q (.ref I) s → wpAny (model PySem.Challenge.pw_ij0084_01 w) A (pyIter (.ref I)) Q NoE s
/-- an iterator whose items are known by a property alone -/
structure IterP (w : World) (A : Around) (I T : Addr) (St : Nat → Obj → Prop) (oT : Obj) (n : Nat) (P : Nat → Value → Prop) : Prop where
  item : ∀ (i : Nat) (s : Shared) (oI : Obj) (Q : Option Value → Shared → Prop), i < n → s.heap.get? I = some oI → St i oI → s.heap.get? T = some oT →
    (∀ v h' tk o', P i v → h'.get? I = some o' → St (i + 1) o' → Heap.SameBut I s.heap h' → Q (some v) { s with heap := h', toks := tk }) → wpAny (model PySem.Challenge.pw_ij0084_01 w) A (pyNext (.ref I)) Q NoE s
  done : ∀ (s : Shared) (oI : Obj) (Q : Option Value → Shared → Prop), s.heap.get? I = some oI → St n oI → s.heap.get? T = some oT →
    (∀ h', Heap.ExtBut I s.heap h' → Q none { s with heap := h' }) → wpAny (model PySem.Challenge.pw_ij0084_01 w) A (pyNext (.ref I)) Q NoE s
  self : ∀ (s : Shared) (oI : Obj) (Q : Value → Shared → Prop), s.heap.get? I = some oI → St 0 oI → Q (.ref I) s → wpAny (model PySem.Challenge.pw_ij0084_01 w) A (pyIter (.ref I)) Q NoE s
theorem IterOn.toP {w : World} {A : Around} {I T : Addr} {St : Nat → Obj → Prop} {oT : Obj} {vals : List Value} (X : IterOn w A I T St oT vals) : IterP w A I T St oT vals.length (fun i v => vals[i]? = some v) where
  item := fun i s oI Q hi hI st hT k => X.item i _ s oI Q (List.getElem?_eq_getElem hi) hI st hT fun h' o' a b c => k _ h' s.toks o' (List.getElem?_eq_getElem hi) a b c
  done := X.done
  self := X.self
def plainL (vs : List Value) (k : Nat) : Obj := { cls := .type "list", data := .seq vs.toArray k }
/-- the state of a comprehension after `i` turns -/
structure CompI (s : Shared) (fs : List Addr) (h₀ : Heap) (L : Addr) (m : PySem.Str → Option Value) (news : List (Addr × Obj)) (St : Nat → Obj → Prop) (PE : Nat → Value → List (Addr × Obj) → Prop) (C D I : Addr) (i : Nat) (s' : Shared)
    (g h : Heap) (tk : Nat) (gs : Array GenState) (oC oI : Obj) (vs : List Value) (k : Nat) (extra : List (Addr × Obj)) (mC : PySem.Str → Option Value) (ps : Array Value) : Prop where
  tab : TabOk ps
  eq : s' = { s with heap := h, toks := tk, gens := gs }
  bare : AllBare s.gens → AllBare gs
  turn : KtsTurn fs h₀ g
  fr : Fr g L h m
  led : News g L h ((C, oC) :: (D, plainL vs k) :: (I, oI) :: (extra ++ (64, tabObj ps) :: news))
  st : St i oI
  ns : h.Ns C mC
  len : vs.length = i
  res : ∀ j y, vs[j]? = some y → PE j y extra
  cd : C ≠ D
  ci : C ≠ I
  di : D ≠ I
  ap : ∀ p ∈ extra ++ (64, tabObj ps) :: news, p.1 ≠ C ∧ p.1 ≠ D ∧ p.1 ≠ I
  up : ∀ p ∈ extra, ∀ q ∈ (64, tabObj ps) :: news, q.1 < p.1
section
variable {w : World} {A A₀ : Around} {s : Shared} {base h₀ : Heap} {env : Env} {outer : List Env} {L : Addr} {m : PySem.Str → Option Value} {news : List (Addr × Obj)} {K : Frag} {p : Program} {loose : List PySem.Str} {mean : ExcName → Option Value} {mg mb : PySem.Str → Option Value}
  {elt iter : Expr} {x : PySem.Str} {px pos : Pos} {scope : Scope} {cl : List (PySem.Str × Addr)} {Q : Value → Shared → Prop} {vals : List Value} {St : Nat → Obj → Prop} {PE : Nat → Value → List (Addr × Obj) → Prop}
theorem wpC_compP {n : Nat} {P : Nat → Value → Prop} (hclos : closureFor scope env = pure cl) (hkind : scope.kind = .function) (hnames : ∀ y ∈ scope.names, y.2 = .local → scope.names.lookup y.1 = some .local) (hcell : ∀ y ∈ scope.names, y.2 ≠ .cell) (hx : scope.names.lookup x = some .local)
    (hs : ∀ v, foldedSetIterable iter env v = pure v) (B : Below A₀ base outer h₀) (XB : K.In base) (TB : Top p loose mean mg mb base) (D₀ : KtsDicts (outer.filterMap (·.frame)) h₀) (hz : n ≤ 16384)
    (mono : ∀ j y (l l' : List (Addr × Obj)), (∀ q ∈ l, q ∈ l') → PE j y l → PE j y l')
    (h : wpAny (model PySem.Challenge.pw_ij0084_01 w) A (eval iter env) (fun xv s₁ => wpAny (model PySem.Challenge.pw_ij0084_01 w) A (pyIter xv) (fun it s₂ => ∃ I T oI oT h tk ps, TabOk ps ∧ it = .ref I ∧ s₂ = { s with heap := h, toks := tk } ∧ Fr h₀ L h m ∧ News h₀ L h ((I, oI) :: (64, tabObj ps) :: news) ∧ (T, oT) ∈ news ∧ St 0 oI ∧ IterP w A I T St oT n P ∧ (∀ q ∈ (64, tabObj ps) :: news, q.1 < I)) NoE s₁) NoE s)
    (helt : ∀ j v C D I oC oD oI g s' mC extra ps, TabOk ps → P j v → KtsTurn (outer.filterMap (·.frame)) h₀ g → Fr g L s'.heap m → News g L s'.heap ((C, oC) :: (D, oD) :: (I, oI) :: (extra ++ (64, tabObj ps) :: news)) → (∀ q ∈ (C, oC) :: (D, oD) :: (I, oI) :: extra, q.1 ≠ 64) → Below A₀ base outer g → K.In g → Top p loose mean mg mb g → KtsDicts (outer.filterMap (·.frame)) g →
      s'.heap.Ns C mC → mC x = some v → (AllBare s.gens → AllBare s'.gens) →
      wpC (model PySem.Challenge.pw_ij0084_01 w) A (eval elt (compEnvC scope cl C env)) (fun y s₃ => ∃ g' h' tk gs extra' ps', TabOk ps' ∧ s₃ = { s' with heap := h', toks := tk, gens := gs } ∧ (AllBare s'.gens → AllBare gs) ∧ KtsTurn (outer.filterMap (·.frame)) g g' ∧ Fr g' L h' m ∧
        News g' L h' (extra' ++ (C, oC) :: (D, oD) :: (I, oI) :: (extra ++ (64, tabObj ps') :: news)) ∧ PE j y extra' ∧ (∀ q ∈ extra', ∀ r ∈ (C, oC) :: (D, oD) :: (I, oI) :: (extra ++ (64, tabObj ps') :: news), r.1 < q.1)) NoE s')
    (ret : ∀ D vs k g h' tk gs extra ps, TabOk ps → KtsTurn (outer.filterMap (·.frame)) h₀ g → Fr g L h' m → News g L h' ((D, plainL vs k) :: (extra ++ (64, tabObj ps) :: news)) → Below A₀ base outer g → K.In g → Top p loose mean mg mb g → KtsDicts (outer.filterMap (·.frame)) g →
      vs.length = n → (∀ j y, vs[j]? = some y → PE j y extra) → (∀ q ∈ extra, ∀ r ∈ (64, tabObj ps) :: news, r.1 < q.1) → (∀ q ∈ (64, tabObj ps) :: news, q.1 < D) → (AllBare s.gens → AllBare gs) → Q (.ref D) { s with heap := h', toks := tk, gens := gs }) :
    wpC (model PySem.Challenge.pw_ij0084_01 w) A (eval (.ListComp elt [⟨.Name x px, iter, [], 0⟩] scope pos) env) Q NoE s := by
  rw [eval_ListComp]
  refine wpC_comprehension rfl hs hclos hkind hnames (wpAny_mono h (fun xv s₁ h₁ => wpAny_mono h₁ (fun it s₂ h₂ => ?_) fun _ _ e => e) fun _ _ e => e)
  obtain ⟨I, T, oI, oT, h, tk, ps, tab, rfl, rfl, F, N, hT, hSt, It, lI⟩ := h₂
  refine wpAny_newObj_type ?_
  refine wpAny_newFunctionEnv hcell (by intro y hy; simp at hy) (fun h₁ hns₁ hsb₁ => ?_) hkind
  dsimp only at hns₁ hsb₁ ⊢
  have F1 := F.push { cls := .type "list", dict := none, data := .seq ([] : List Value).toArray }
  have N1 := N.push F { cls := .type "list", dict := none, data := .seq ([] : List Value).toArray }
  generalize hH2 : h.push { cls := .type "list", dict := none, data := .seq ([] : List Value).toArray } = H2 at F1 N1 hns₁ hsb₁ ⊢
  have hC : H2.objs.size = h.objs.size + 1 := by rw [← hH2, Heap.size_push]
  generalize hDD : h.objs.size = D at N1 hC ⊢
  generalize hCC : H2.objs.size = C at hns₁ hsb₁ hC ⊢
  have lD : ∀ q ∈ (I, oI) :: (64, tabObj ps) :: news, q.1 < D := fun q hq => hDD ▸ Heap.lt_size (N q hq).1
  have lC : ∀ q ∈ (D, ({ cls := .type "list", dict := none, data := .seq ([] : List Value).toArray } : Obj)) :: (I, oI) :: (64, tabObj ps) :: news, q.1 < C := fun q hq => hCC ▸ Heap.lt_size (N1 q hq).1
  have k1 : ∀ b o, H2.get? b = some o → h₁.get? b = some o := fun b o e => hsb₁.extBut b o (by rw [← hCC]; exact Nat.ne_of_lt (Heap.lt_size e)) (Heap.get?_push_of_some _ e)
  obtain ⟨oC, es, ep, hgC, hrC⟩ := id hns₁
  have F2 : Fr h₀ L h₁ m := Fr.of_keeps F1 k1
  have N2 : News h₀ L h₁ ((C, oC) :: (D, plainL [] 0) :: (I, oI) :: ([] ++ (64, tabObj ps) :: news)) := fun q hq => by
    rcases List.mem_cons.mp hq with rfl | hq
    · refine ⟨hgC, fun z => ?_, ?_⟩
      · obtain ⟨oL, _, _, hL, _⟩ := F1.ns
        exact absurd (Heap.lt_size hL) (by rw [← z, hCC]; exact Nat.lt_irrefl _)
      · cases z : h₀.get? C with
        | none => rfl
        | some o => exact absurd (Heap.lt_size (F1.keep _ _ z)) (by rw [hCC]; exact Nat.lt_irrefl _)
    · exact ⟨k1 _ _ (N1 q hq).1, (N1 q hq).2⟩
  have hI0 : CompI s (outer.filterMap (·.frame)) h₀ L m news St PE C D I 0 { s with heap := h₁, toks := tk } h₀ h₁ tk s.gens oC oI [] 0 [] (fun x => List.lookup x [].reverse) ps :=
    { tab := tab, eq := rfl, bare := _root_.id, turn := KtsTurn.refl, fr := F2, led := N2, st := hSt, ns := hns₁, len := rfl, res := (fun j y e => by simp at e), cd := Nat.ne_of_gt (lC _ (List.mem_cons_self ..)), ci := Nat.ne_of_gt (lC _ (List.mem_cons_of_mem _ (List.mem_cons_self ..))), di := Nat.ne_of_gt (lD _ (List.mem_cons_self ..)),
      ap := (fun q hq => ⟨Nat.ne_of_lt (lC _ (List.mem_cons_of_mem _ (List.mem_cons_of_mem _ hq))), Nat.ne_of_lt (lD _ (List.mem_cons_of_mem _ hq)), Nat.ne_of_lt (lI _ hq)⟩), up := (fun q hq => by simp at hq) }
  show codeC _ A (.compStart (.ListComp elt [⟨.Name x px, iter, [], 0⟩] scope pos) 0 (.ref I) (.ref D) (compEnvC scope cl C env)) (compPostC Q (.ref D) C) { s with heap := h₁, toks := tk }
  have loop : codeC (model PySem.Challenge.pw_ij0084_01 w) A (.compLoop (.ListComp elt [⟨.Name x px, iter, [], 0⟩] scope pos) 0 (.ref I) (.ref D) (compEnvC scope cl C env)) (compPostC Q (.ref D) C) { s with heap := h₁, toks := tk } := by
    refine codeC_compLoop (n := n) (fun i s' => ∃ g h tk gs oC oI vs k extra mC ps, CompI s (outer.filterMap (·.frame)) h₀ L m news St PE C D I i s' g h tk gs oC oI vs k extra mC ps) ?_ ?_ n 0 _ (Nat.zero_add _) ⟨_, _, _, _, _, _, _, _, _, _, _, hI0⟩
    · rintro i s' hi ⟨g, h, tk, gs, oC, oI, vs, k, extra, mC, ps, ci⟩
      obtain ⟨tab, rfl, bare, turn, fr, led, st, ns, len, res, cd, cI, di, ap, up⟩ := ci
      have hnI := led _ (List.mem_cons_of_mem _ (List.mem_cons_of_mem _ (List.mem_cons_self ..)))
      have hnT := led _ (List.mem_cons_of_mem _ (List.mem_cons_of_mem _ (List.mem_cons_of_mem _ (List.mem_append_right extra (List.mem_cons_of_mem _ hT)))))
      refine It.item i _ oI _ hi hnI.1 st hnT.1 fun v h2 tk2 oI' hv hgI' st' sb2 => ⟨v, rfl, ?_⟩
      have fr2 := Fr.change fr sb2 hnI.2.1 hnI.2.2
      have led2 : News g L h2 ([(C, oC), (D, plainL vs k)] ++ (I, oI') :: (extra ++ (64, tabObj ps) :: news)) := News.setAt (own := [(C, oC), (D, plainL vs k)]) led (by simp; exact ⟨cI, di⟩) (fun q hq => (ap q hq).2.2) sb2 hgI'
      refine wpAny_assign_Name (wpAny_storeName_local (lookup_relabel_local hx) (ns.sameBut sb2 cI) (fun h3 ns3 sb3 => ?_) (by simp [compEnvC, relabel, hkind]))
      dsimp only at ns3 sb3 ⊢
      obtain ⟨oC', es', ep', hgC', hrC'⟩ := id ns3
      have hnC := led _ (List.mem_cons_self ..)
      have fr3 := Fr.change fr2 sb3 hnC.2.1 hnC.2.2
      have led3 : News g L h3 ((C, oC') :: (D, plainL vs k) :: (I, oI') :: (extra ++ (64, tabObj ps) :: news)) := News.setHead led2 (fun q hq => by
        simp only [List.mem_cons] at hq
        rcases hq with rfl | rfl | hq
        · exact cd.symm
        · exact cI.symm
        · exact (ap q hq).1) sb3 hgC'
      have B3 := below_turn B turn
      have m64 : ((64, tabObj ps) : Addr × Obj) ∈ extra ++ (64, tabObj ps) :: news := List.mem_append_right _ (List.mem_cons_self ..)
      have ap64 : ∀ q ∈ (C, oC') :: (D, plainL vs k) :: (I, oI') :: extra, q.1 ≠ 64 := fun q hq => by
        simp only [List.mem_cons] at hq
        rcases hq with rfl | rfl | rfl | hq
        · exact (ap _ m64).1.symm
        · exact (ap _ m64).2.1.symm
        · exact (ap _ m64).2.2.symm
        · exact Nat.ne_of_gt (up q hq _ (List.mem_cons_self ..))
      refine wpC_mono (helt i _ C D I oC' (plainL vs k) oI' g _ _ extra ps tab hv turn fr3 led3 ap64 B3 (XB.keeps B3.stays) (TB.keeps B3.stays) (D₀.turn turn) ns3 (by simp) bare) (fun y s₃ h₃ => ?_) fun _ _ z => z
      obtain ⟨g4, h4, tk4, gs4, extra4, ps4, tab4, rfl, bare4, turn4, fr4, led4, pe4, up4⟩ := h₃
      have hD4 := led4 _ (List.mem_append_right extra4 (List.mem_cons_of_mem _ (List.mem_cons_self ..)))
      have hC4 := led4 _ (List.mem_append_right extra4 (List.mem_cons_self ..))
      refine wpAny_list_append_plain (items := vs.toArray) ⟨k, hD4.1⟩ (fun h5 hl5 sb5 => ?_) (by rw [List.size_toArray, sizeLine_eq]; omega)
      obtain ⟨k5, hg5⟩ := hl5
      have fr5 := Fr.change fr4 sb5 hD4.2.1 hD4.2.2
      have e4 : extra4 ++ (C, oC') :: (D, plainL vs k) :: (I, oI') :: (extra ++ (64, tabObj ps4) :: news) = (extra4 ++ [(C, oC')]) ++ (D, plainL vs k) :: ((I, oI') :: (extra ++ (64, tabObj ps4) :: news)) := by simp
      rw [e4] at led4
      have ap4 : ∀ p ∈ extra ++ (64, tabObj ps4) :: news, p.1 ≠ C ∧ p.1 ≠ D ∧ p.1 ≠ I := fun q hq => by
        rcases List.mem_append.mp hq with z | z
        · exact ap q (List.mem_append_left _ z)
        · rcases List.mem_cons.mp z with z | z
          · rw [z]; exact ap (64, tabObj ps) m64
          · exact ap q (List.mem_append_right _ (List.mem_cons_of_mem _ z))
      have led5 := News.setAt (o' := plainL (vs ++ [y]) k5) led4 (fun q hq => by
        rcases List.mem_append.mp hq with hq | hq
        · exact Nat.ne_of_gt (up4 q hq (D, plainL vs k) (by simp))
        · rw [List.mem_singleton.mp hq]; exact cd) (fun q hq => by
        rcases List.mem_cons.mp hq with rfl | hq
        · exact di.symm
        · exact (ap4 q hq).2.1) sb5 (by rw [hg5]; unfold plainL; simp)
      refine ⟨g4, h5, tk4, gs4, oC', oI', vs ++ [y], k5, extra4 ++ extra, _, ps4, tab4, rfl, fun q => bare4 (bare q), turn.trans turn4, fr5, fun q hq => led5 q ?_, st', ⟨oC', es', ep', (sb5.2 C cd).trans hC4.1, hrC'⟩, by rw [List.length_append, len]; rfl, fun j y' hj => ?_, cd, cI, di, fun q hq => ?_, fun q hq r hr => ?_⟩
      · simp only [List.mem_cons, List.mem_append, List.not_mem_nil, or_false] at hq ⊢
        rcases hq with q1 | q1 | q1 | (q1 | q1) | q1 | q1
        · exact .inl (.inr q1)
        · exact .inr (.inl q1)
        · exact .inr (.inr (.inl q1))
        · exact .inl (.inl q1)
        · exact .inr (.inr (.inr (.inl q1)))
        · exact .inr (.inr (.inr (.inr (.inl q1))))
        · exact .inr (.inr (.inr (.inr (.inr q1))))
      · by_cases hj' : j < vs.length
        · rw [List.getElem?_append_left hj'] at hj
          exact mono _ _ _ _ (fun q hq => List.mem_append_right _ hq) (res j y' hj)
        · rw [List.getElem?_append_right (by omega)] at hj
          have : j - vs.length = 0 := by
            obtain ⟨q1, _⟩ := List.getElem?_eq_some_iff.mp hj
            simp at q1; omega
          rw [this] at hj
          have ej : j = i := by omega
          subst ej
          simp at hj
          subst hj
          exact mono _ _ _ _ (fun q hq => List.mem_append_left _ hq) pe4
      · rw [List.append_assoc] at hq
        rcases List.mem_append.mp hq with hq | hq
        · exact ⟨Nat.ne_of_gt (up4 q hq (C, oC') (by simp)), Nat.ne_of_gt (up4 q hq (D, plainL vs k) (by simp)), Nat.ne_of_gt (up4 q hq (I, oI') (by simp))⟩
        · exact ap4 q hq
      · rcases List.mem_append.mp hq with hq | hq
        · exact up4 q hq r (List.mem_cons_of_mem _ (List.mem_cons_of_mem _ (List.mem_cons_of_mem _ (List.mem_append_right _ hr))))
        · rcases List.mem_cons.mp hr with z | z
          · rw [z]; exact up q hq (64, tabObj ps) (List.mem_cons_self ..)
          · exact up q hq r (List.mem_cons_of_mem _ z)
    · rintro s' ⟨g, h, tk, gs, oC, oI, vs, k, extra, mC, ps, ci⟩
      obtain ⟨tab, rfl, bare, turn, fr, led, st, ns, len, res, cd, cI, di, ap, up⟩ := ci
      have hnI := led _ (List.mem_cons_of_mem _ (List.mem_cons_of_mem _ (List.mem_cons_self ..)))
      have hnC := led _ (List.mem_cons_self ..)
      have hnT := led _ (List.mem_cons_of_mem _ (List.mem_cons_of_mem _ (List.mem_cons_of_mem _ (List.mem_append_right extra (List.mem_cons_of_mem _ hT)))))
      refine It.done _ oI _ hnI.1 st hnT.1 fun h2 xb => ⟨rfl, ?_⟩
      refine ⟨mC, ns.extBut xb cI, fun h3 sb3 => ?_⟩
      have kk : ∀ b o, b ≠ I → b ≠ C → h.get? b = some o → h3.get? b = some o := fun b o q1 q2 e => (sb3.2 b q2).trans (xb b o q1 e)
      have B3 := below_turn B turn
      refine ret D vs k g h3 tk gs extra ps tab turn ⟨fr.ns.at' fun o e => kk _ o hnI.2.1.symm hnC.2.1.symm e, fun b o e => kk b o (fun z => by rw [z, hnI.2.2] at e; cases e) (fun z => by rw [z, hnC.2.2] at e; cases e) (fr.keep b o e), fr.above⟩ (fun q hq => ?_) B3 (XB.keeps B3.stays) (TB.keeps B3.stays) (D₀.turn turn) len res up (fun q hq => by
        rcases List.mem_cons.mp hq with z | z
        · have z' := lD _ (List.mem_cons_of_mem _ (List.mem_cons_self ..))
          rw [z]; exact z'
        · exact lD q (List.mem_cons_of_mem _ (List.mem_cons_of_mem _ z))) bare
      have hq' := led q (List.mem_cons_of_mem _ (by
        rcases List.mem_cons.mp hq with z | z
        · rw [z]; exact List.mem_cons_self ..
        · exact List.mem_cons_of_mem _ (List.mem_cons_of_mem _ z)))
      refine ⟨kk _ _ ?_ ?_ hq'.1, hq'.2⟩
      · rcases List.mem_cons.mp hq with z | z
        · rw [z]; exact di
        · exact (ap q z).2.2
      · rcases List.mem_cons.mp hq with z | z
        · rw [z]; exact cd.symm
        · exact (ap q z).1
  exact codeC_compStart loop (It.self _ oI _ (N2 _ (List.mem_cons_of_mem _ (List.mem_cons_of_mem _ (List.mem_cons_self ..)))).1 hSt loop)
theorem wpC_compK (hclos : closureFor scope env = pure cl) (hkind : scope.kind = .function) (hnames : ∀ y ∈ scope.names, y.2 = .local → scope.names.lookup y.1 = some .local) (hcell : ∀ y ∈ scope.names, y.2 ≠ .cell) (hx : scope.names.lookup x = some .local)
    (hs : ∀ v, foldedSetIterable iter env v = pure v) (B : Below A₀ base outer h₀) (XB : K.In base) (TB : Top p loose mean mg mb base) (D₀ : KtsDicts (outer.filterMap (·.frame)) h₀) (hz : vals.length ≤ 16384)
    (mono : ∀ j y (l l' : List (Addr × Obj)), (∀ q ∈ l, q ∈ l') → PE j y l → PE j y l')
    (h : wpAny (model PySem.Challenge.pw_ij0084_01 w) A (eval iter env) (fun xv s₁ => wpAny (model PySem.Challenge.pw_ij0084_01 w) A (pyIter xv) (fun it s₂ => ∃ I T oI oT h tk ps, TabOk ps ∧ it = .ref I ∧ s₂ = { s with heap := h, toks := tk } ∧ Fr h₀ L h m ∧ News h₀ L h ((I, oI) :: (64, tabObj ps) :: news) ∧ (T, oT) ∈ news ∧ St 0 oI ∧ IterOn w A I T St oT vals ∧ (∀ q ∈ (64, tabObj ps) :: news, q.1 < I)) NoE s₁) NoE s)
    (helt : ∀ j v C D I oC oD oI g s' mC extra ps, TabOk ps → vals[j]? = some v → KtsTurn (outer.filterMap (·.frame)) h₀ g → Fr g L s'.heap m → News g L s'.heap ((C, oC) :: (D, oD) :: (I, oI) :: (extra ++ (64, tabObj ps) :: news)) → (∀ q ∈ (C, oC) :: (D, oD) :: (I, oI) :: extra, q.1 ≠ 64) → Below A₀ base outer g → K.In g → Top p loose mean mg mb g → KtsDicts (outer.filterMap (·.frame)) g →
      s'.heap.Ns C mC → mC x = some v → (AllBare s.gens → AllBare s'.gens) →
      wpC (model PySem.Challenge.pw_ij0084_01 w) A (eval elt (compEnvC scope cl C env)) (fun y s₃ => ∃ g' h' tk gs extra' ps', TabOk ps' ∧ s₃ = { s' with heap := h', toks := tk, gens := gs } ∧ (AllBare s'.gens → AllBare gs) ∧ KtsTurn (outer.filterMap (·.frame)) g g' ∧ Fr g' L h' m ∧
        News g' L h' (extra' ++ (C, oC) :: (D, oD) :: (I, oI) :: (extra ++ (64, tabObj ps') :: news)) ∧ PE j y extra' ∧ (∀ q ∈ extra', ∀ r ∈ (C, oC) :: (D, oD) :: (I, oI) :: (extra ++ (64, tabObj ps') :: news), r.1 < q.1)) NoE s')
    (ret : ∀ D vs k g h' tk gs extra ps, TabOk ps → KtsTurn (outer.filterMap (·.frame)) h₀ g → Fr g L h' m → News g L h' ((D, plainL vs k) :: (extra ++ (64, tabObj ps) :: news)) → Below A₀ base outer g → K.In g → Top p loose mean mg mb g → KtsDicts (outer.filterMap (·.frame)) g →
      vs.length = vals.length → (∀ j y, vs[j]? = some y → PE j y extra) → (∀ q ∈ extra, ∀ r ∈ (64, tabObj ps) :: news, r.1 < q.1) → (∀ q ∈ (64, tabObj ps) :: news, q.1 < D) → (AllBare s.gens → AllBare gs) → Q (.ref D) { s with heap := h', toks := tk, gens := gs }) :
    wpC (model PySem.Challenge.pw_ij0084_01 w) A (eval (.ListComp elt [⟨.Name x px, iter, [], 0⟩] scope pos) env) Q NoE s :=
  wpC_compP hclos hkind hnames hcell hx hs B XB TB D₀ hz mono (wpAny_mono h (fun xv s₁ h₁ => wpAny_mono h₁ (fun it s₂ h₂ => by
    obtain ⟨I, T, oI, oT, h, tk, ps, q1, q2, q3, q4, q5, q6, q7, q8, q9⟩ := h₂
    exact ⟨I, T, oI, oT, h, tk, ps, q1, q2, q3, q4, q5, q6, q7, q8.toP, q9⟩) fun _ _ e => e) fun _ _ e => e) helt ret
theorem wpC_compK2 {ps₀ : Array Value} (_F : Fr h₀ L s.heap m) (_N : News h₀ L s.heap ((64, tabObj ps₀) :: news)) (hclos : closureFor scope env = pure cl) (hkind : scope.kind = .function) (hnames : ∀ y ∈ scope.names, y.2 = .local → scope.names.lookup y.1 = some .local) (hcell : ∀ y ∈ scope.names, y.2 ≠ .cell) (hx : scope.names.lookup x = some .local)
    (hs : ∀ v, foldedSetIterable iter env v = pure v) (B : Below A₀ base outer h₀) (XB : K.In base) (TB : Top p loose mean mg mb base) (D₀ : KtsDicts (outer.filterMap (·.frame)) h₀) (hz : vals.length ≤ 16384)
    (mono : ∀ j y (l l' : List (Addr × Obj)), (∀ q ∈ l, q ∈ l') → PE j y l → PE j y l')
    (h : wpAny (model PySem.Challenge.pw_ij0084_01 w) A (eval iter env) (fun xv s₁ => wpAny (model PySem.Challenge.pw_ij0084_01 w) A (pyIter xv) (fun it s₂ => ∃ I T oI oT h tk ps, TabOk ps ∧ it = .ref I ∧ s₂ = { s with heap := h, toks := tk } ∧ Fr h₀ L h m ∧ News h₀ L h ((I, oI) :: (64, tabObj ps) :: news) ∧ (T, oT) ∈ news ∧ St 0 oI ∧ IterOn w A I T St oT vals ∧ (∀ q ∈ (64, tabObj ps) :: news, q.1 < I)) NoE s₁) NoE s)
    (helt : ∀ j v C D I oC oD oI g s' mC extra ps, TabOk ps → vals[j]? = some v → KtsTurn (outer.filterMap (·.frame)) h₀ g → Fr g L s'.heap m → News g L s'.heap ((C, oC) :: (D, oD) :: (I, oI) :: (extra ++ (64, tabObj ps) :: news)) → (∀ q ∈ (C, oC) :: (D, oD) :: (I, oI) :: extra, q.1 ≠ 64) → Below A₀ base outer g → K.In g → Top p loose mean mg mb g → KtsDicts (outer.filterMap (·.frame)) g →
      s'.heap.Ns C mC → mC x = some v → (AllBare s.gens → AllBare s'.gens) →
      wpC (model PySem.Challenge.pw_ij0084_01 w) A (eval elt (compEnvC scope cl C env)) (fun y s₃ => ∃ g' h' tk gs extra' ps', TabOk ps' ∧ s₃ = { s' with heap := h', toks := tk, gens := gs } ∧ (AllBare s'.gens → AllBare gs) ∧ KtsTurn (outer.filterMap (·.frame)) g g' ∧ Fr g' L h' m ∧
        News g' L h' (extra' ++ (C, oC) :: (D, oD) :: (I, oI) :: (extra ++ (64, tabObj ps') :: news)) ∧ PE j y extra' ∧ (∀ q ∈ extra', ∀ r ∈ (C, oC) :: (D, oD) :: (I, oI) :: (extra ++ (64, tabObj ps') :: news), r.1 < q.1)) NoE s')
    (ret : ∀ D vs k g h' tk gs extra ps, TabOk ps → KtsTurn (outer.filterMap (·.frame)) h₀ g → Fr g L h' m → News g L h' ((D, plainL vs k) :: (extra ++ (64, tabObj ps) :: news)) → Below A₀ base outer g → K.In g → Top p loose mean mg mb g → KtsDicts (outer.filterMap (·.frame)) g →
      vs.length = vals.length → (∀ j y, vs[j]? = some y → PE j y extra) → (∀ q ∈ extra, ∀ r ∈ (64, tabObj ps) :: news, r.1 < q.1) → (∀ q ∈ (64, tabObj ps) :: news, q.1 < D) → (AllBare s.gens → AllBare gs) → Q (.ref D) { s with heap := h', toks := tk, gens := gs }) :
    wpC (model PySem.Challenge.pw_ij0084_01 w) A (eval (.ListComp elt [⟨.Name x px, iter, [], 0⟩] scope pos) env) Q NoE s :=
  wpC_compK hclos hkind hnames hcell hx hs B XB TB D₀ hz mono h helt ret
end

-- c12
def titObj (t : Addr) (i : Nat) : Obj := { cls := .type "tuple_iterator", data := .fields #[.ref t, .int i 0] }
theorem find_iter (P : Params) : findIn (K P) (.ref 210) "__iter__" = some (some (.builtin "tuple.__iter__")) := by kernel_rfl
theorem sub_pairT (P : Params) : mroIn (K P) 210 (.type "tuple") = some true := by kernel_rfl
theorem ti_kind : builtinKind "tuple.__iter__" = some .slot := by decide +kernel
theorem ti_split : splitId "tuple.__iter__" = some ("tuple", "__iter__") := by decide +kernel
section
variable {w : World} {A : Around} {E : Value → Shared → Prop} {s : Shared}
theorem iter_pair {x dx : Addr} {va vb : Value} {Q : Value → Shared → Prop} (X : (K w.params).In s.heap) (hx : s.heap.get? x = some (pairObj dx va vb)) (h : Q (.ref s.heap.objs.size) { s with heap := s.heap.push (titObj x 0) }) :
    wpAny (model PySem.Challenge.pw_ij0084_01 w) A (pyIter (.ref x)) Q E s := by
  have L : Looks (model PySem.Challenge.pw_ij0084_01 w) s.heap (specialOf (.ref x) "__iter__") (some (.builtin "tuple.__iter__")) := (looks_ofObj hx).andThen (looks_findIn X (find_iter _))
  have call' : wpAny (model PySem.Challenge.pw_ij0084_01 w) A (call (.builtin "tuple.__iter__") [.ref x]) (fun it s' => s'.TypeIs it "tuple_iterator" ∧ Q it s') E s := by
    refine wpAny_call (codeAny_call_builtin PySem.F.slot_tuple_iter.plain PySem.F.entry_tuple_iter (check_slot ti_kind ti_split ((looks_ofObj hx).andThen (looks_mroIn X (sub_pairT _))) (PySem.F.args_tuple_iter_1 _) ?_))
    show wpAny _ _ (do ret (← newFields "tuple_iterator" [.ref x, rawInt 0])) _ _ s
    exact wpAny_bind (wpAny_newObj_type (wpAny_pure ⟨⟨_, Heap.get?_push_size _ rfl, rfl⟩, h⟩))
  unfold pyIter
  refine wpAny_bind (L.here ?_)
  show wpAny _ A (callSpecialIfBoundUnlessNone? (.ref x) "__iter__" _ >>= _) Q E s
  simp only [callSpecialIfBoundUnlessNone?, bindSpecialIfBound?]
  have fin : wpAny (model PySem.Challenge.pw_ij0084_01 w) A (if (Value.builtin "tuple.__iter__" == Value.none) = true then ((do rule "iter.none"; raiseError "TypeError" s!"'{← typeNameOf (.ref x)}' object is not iterable") >>= fun v => pure (some v)) else (call (.builtin "tuple.__iter__") [.ref x] >>= fun v => pure (some v)))
      (fun r s' => wpAny (model PySem.Challenge.pw_ij0084_01 w) A (match r with
        | some it => do
          match ← specialOf it "__next__" with
          | none => rule "iter.non-iterator"; raiseError "TypeError" s!"iter() returned non-iterator of type '{← typeNameOf it}'"
          | some _ => pure it
        | none => do
          match ← bindSpecialIfBound? (.ref x) "__getitem__" with
          | none => rule "iter.not-iterable"; raiseError "TypeError" s!"'{← typeNameOf (.ref x)}' object is not iterable"
          | some _ => rule "iter.getitem-fallback"; newFields "iterator" [.ref x, ← mkInt 0]) Q E s') E s := by
    rw [if_neg (by decide)]
    refine wpAny_bind (wpAny_mono call' (fun v s' h' => wpAny_pure ?_) fun _ _ h' => h')
    exact wpAny_bind (wpAny_specialOf h'.1 PySem.F.slot_tuple_iterator_next.lookup (wpAny_pure h'.2))
  refine wpAny_bind (wpAny_holding (wpAny_bind (wpAny_bind (L.here ?_))))
  simp only [PySem.F.slot_tuple_iter.bind]
  refine wpAny_bind (wpAny_askSetting (wpAny_ite ?_))
  split
  · exact wpAny_bind (wpAny_pure (wpAny_pure fin))
  · exact wpAny_tryCatch (wpAny_bind (wpAny_pure (wpAny_pure fin)))
theorem next_tup {it t : Addr} {o ot : Obj} {i n : Nat} {items : Array Value} {x : Value} {Q : Option Value → Shared → Prop} (ho : s.heap.get? it = some o) (hc : o.cls = .type "tuple_iterator") (hd : o.data = .fields #[.ref t, .int i 0]) (hol : s.heap.get? t = some ot) (hdl : ot.data = .seq items n) (hx : items[i]? = some x)
    (hQ : ∀ h', h'.IsTupleIter it t (i + 1) → Heap.SameBut it s.heap h' → Q (some x) { s with heap := h' }) : wpAny (model PySem.Challenge.pw_ij0084_01 w) A (pyNext (.ref it)) Q E s := by
  have hit : s.heap.IsTupleIter it t i := ⟨o, ho, hc, hd⟩
  unfold pyNext
  refine wpAny_bind (wpAny_attempt (wpAny_callSpecial?_slot (name := PySem.Str.ofString "__next__") hit.typeIs PySem.F.slot_tuple_iterator_next
    (wpAny_call_entry PySem.F.slot_tuple_iterator_next hit.typeIs PySem.F.entry_tuple_iterator_next ?_ (PySem.F.args_tuple_iterator_next_1 _))))
  show wpAny _ _ (field (.ref it) 0 >>= _) _ _ s
  refine wpAny_bind (wpAny_field ho hd (x := .ref t) rfl ?_)
  rw [if_neg (show ¬ ((Value.ref t == Value.none) = true) from Bool.false_ne_true)]
  refine wpAny_bind (wpAny_field ho hd (x := .int i 0) rfl ?_)
  refine wpAny_bind (wpAny_seqItems hol hdl ?_)
  simp only [Int.toNat_natCast, hx]
  refine wpAny_bind (wpAny_setField ho hd (by simp) (wpAny_pure ⟨x, rfl, wpAny_pure (hQ _ ?_ (Heap.SameBut.update ..))⟩))
  exact ⟨_, Heap.get?_update_self _ ho (Obj.isFreed_of_fields (Obj.data_mapFields hd _)), (Obj.cls_mapFields ..).trans hc, by rw [Obj.data_mapFields hd]; simp [rawInt]⟩
theorem next_tup_end {it t : Addr} {o ot : Obj} {i n : Nat} {items : Array Value} {Q : Option Value → Shared → Prop} (hh : A.handled = none) (ho : s.heap.get? it = some o) (hc : o.cls = .type "tuple_iterator") (hd : o.data = .fields #[.ref t, .int i 0]) (hol : s.heap.get? t = some ot) (hdl : ot.data = .seq items n) (hx : items[i]? = none)
    (hQ : ∀ h', Heap.ExtBut it s.heap h' → Q none { s with heap := h' }) : wpAny (model PySem.Challenge.pw_ij0084_01 w) A (pyNext (.ref it)) Q E s := by
  have hit : s.heap.IsTupleIter it t i := ⟨o, ho, hc, hd⟩
  unfold pyNext
  refine wpAny_bind (wpAny_attempt (wpAny_callSpecial?_slot (name := PySem.Str.ofString "__next__") hit.typeIs PySem.F.slot_tuple_iterator_next
    (wpAny_call_entry PySem.F.slot_tuple_iterator_next hit.typeIs PySem.F.entry_tuple_iterator_next ?_ (PySem.F.args_tuple_iterator_next_1 _))))
  show wpAny _ _ (field (.ref it) 0 >>= _) _ _ s
  refine wpAny_bind (wpAny_field ho hd (x := .ref t) rfl ?_)
  rw [if_neg (show ¬ ((Value.ref t == Value.none) = true) from Bool.false_ne_true)]
  refine wpAny_bind (wpAny_field ho hd (x := .int i 0) rfl ?_)
  refine wpAny_bind (wpAny_seqItems hol hdl ?_)
  simp only [Int.toNat_natCast, hx]
  refine wpAny_bind (wpAny_rule (wpAny_bind (wpAny_setField ho hd (by simp) ?_)))
  refine stopH (A := A.in1) (fun v q => by rw [show A.in1.handled = none from hh] at q; cases q) fun h' e K c => ?_
  obtain ⟨ob, he, hcls⟩ := c
  refine wpAny_bind (wpAny_isInstance (T := "StopIteration") (b := true) ⟨_, he, hcls⟩ isSubtype_stop ?_)
  exact wpAny_pure (hQ _ fun b o' hb e' => K b o' ((Heap.get?_update_other _ _ hb.symm).trans e'))
theorem iterOn_list {I T : Addr} {n : Nat} {vals : List Value} (hh : A.handled = none) : IterOn w A I T (fun i o => o.cls = .type "list_iterator" ∧ o.data = .fields #[.ref T, .int i 0]) (plainL vals n) vals where
  item := fun i v s oI Q hv hI st hT hQ => wpAny_pyNext_list_item ⟨oI, hI, st.1, st.2⟩ ⟨_, hT, rfl, _, rfl⟩ (by simpa using hv) fun h' hit sb => let ⟨o', a, b, c⟩ := hit; hQ h' o' a ⟨b, c⟩ sb
  done := fun s oI Q hI st hT hQ => wpAny_pyNext_list_end hh ⟨oI, hI, st.1, st.2⟩ ⟨_, hT, rfl, _, rfl⟩ (by simp) hQ
  self := fun s oI Q hI st hQ => wpAny_pyIter_listiter ⟨oI, hI, st.1, st.2⟩ hQ
theorem iterOn_pair {I T dx : Addr} {va vb : Value} (hh : A.handled = none) : IterOn w A I T (fun i o => o.cls = .type "tuple_iterator" ∧ o.data = .fields #[.ref T, .int i 0]) (pairObj dx va vb) [va, vb] where
  item := fun i v s oI Q hv hI st hT hQ => next_tup hI st.1 st.2 hT rfl (by simpa using hv) fun h' hit sb => let ⟨o', a, b, c⟩ := hit; hQ h' o' a ⟨b, c⟩ sb
  done := fun s oI Q hI st hT hQ => next_tup_end hh hI st.1 st.2 hT rfl (by simp) hQ
  self := fun s oI Q hI st hQ => wpAny_pyIter_tupleiter ⟨oI, hI, st.1, st.2⟩ hQ
end

-- c13
section
variable {M : Model} {A : Around} {E : Value → Shared → Prop} {s : Shared} {env : Env} {K : Frag} {pos p : Pos} {f : Value} {first : List Value} {Q : Value → Shared → Prop}
theorem wpC_callWith_K {e : Expr} {rest : List Expr} (hk : keepIn K f = true) (h : wpAny M A (spliced (backTo pos (starEach (e :: rest) env))) (fun vs s₁ => K.In s₁.heap ∧ wpC M A (call f (first ++ vs)) Q E s₁) E s)
    (he : starEach (e :: rest) env = (false, eval e env) :: starEach rest env := by rfl) (hn : (backTo pos (starEach (e :: rest) env)).length ≤ 30 := by exact Nat.le_of_ble_eq_true rfl) :
    wpC M A (callWith pos f first (backTo pos (starEach (e :: rest) env)) []) Q E s := by
  refine wpC_callWith (keeps_K hk) hn ?_
  rw [he] at h ⊢
  exact PySem.Calls.evalArgs_plain h
theorem wpC_callWith_M {q g : Addr} {self : Value} {e : Expr} {rest : List Expr} (hf : fnIn K g = true) (h : wpAny M A (spliced (backTo pos (starEach (e :: rest) env))) (fun vs s₁ => MethP K q g self s₁.heap ∧ wpC M A (call (.ref q) (first ++ vs)) Q E s₁) E s)
    (he : starEach (e :: rest) env = (false, eval e env) :: starEach rest env := by rfl) (hn : (backTo pos (starEach (e :: rest) env)).length ≤ 30 := by exact Nat.le_of_ble_eq_true rfl) :
    wpC M A (callWith pos (.ref q) first (backTo pos (starEach (e :: rest) env)) []) Q E s := by
  refine wpC_callWith (P := MethP K q g self) (keeps_M hf) hn ?_
  rw [he] at h ⊢
  exact PySem.Calls.evalArgs_plain h
theorem wpC_Assign {x : PySem.Str} {px : Pos} {e : Expr} {Q : Flow → Shared → Prop} (h : wpC M A (eval e env) (fun v s₁ => wpAny M A (assign (.Name x px) env v) (fun _ s₂ => Q .next s₂) E s₁) E s)
    (he : exec (.Assign [.Name x px] e pos) env = (standAt pos >>= fun _ => eval e env >>= fun v => assign (.Name x px) env v >>= fun _ => pure .next) := by rfl) : wpC M A (exec (.Assign [.Name x px] e pos) env) Q E s := by
  rw [he]
  exact wpC_abind (wpAny_standAt (wpC_bind (wpC_mono h (fun v s₁ h₁ => wpC_abind (wpAny_mono h₁ (fun _ s₂ h₂ => wpC_pure h₂) fun _ _ x => x)) fun _ _ x => x)))
end
/-- the value of a text that `_law_read` reads -/
inductive Rd : List Nat → Nat → Tr → Prop
  | leaf {x : List Nat} {d : Nat} : 61 ∉ quo true x → x.length ≤ 10000 → Rd (quo true x) d (.leaf x)
  | pair {a b ya yb : List Nat} {d : Nat} {l r : Tr} : 61 ∉ a → (a ++ 61 :: b).length ≤ 100000 → Txt.strip (ofL a) = ofL (quo true ya) → Txt.strip (ofL b) = ofL (quo false yb) → ya.length ≤ 10000 → yb.length ≤ 10000 → Rd ya d l → Rd yb d r → Rd (a ++ 61 :: b) (d + 1) (.pair l r)
/-- the contract of `_law_read`, beneath the claim's caller -/
def ConS (w : World) (need : Nat) (news : List (Addr × Obj)) (vs : List Value) (tree : Tr) : Prop :=
  ∀ (p : Program) (loose : List PySem.Str) (mean : ExcName → Option Value) (mg mb : PySem.Str → Option Value) (dp un : Nat) (gd : Option (List PySem.Code)) (env : Env) (outer : List Env) (A₀ : Around) (base h₀ : Heap) (L : Addr) (m : PySem.Str → Option Value) (s : Shared) (Q : Value → Shared → Prop) (ps : Array Value),
    TabOk ps → (∀ q ∈ news, q.1 ≠ 64) → Below A₀ base outer h₀ → Fr h₀ L s.heap m → (K w.params).In base → News h₀ L s.heap ((64, tabObj ps) :: news) → Top p loose mean mg mb base → KtsDicts (outer.filterMap (·.frame)) h₀ → env.frame = some L → env.scope.kind = .function → dp + need < recursionLimit → un + 8 * need < cLine →
    (∀ v extra ps' g h' tk' gs', TabOk ps' → (AllBare s.gens → AllBare gs') → KtsTurn (outer.filterMap (·.frame)) h₀ g → Fr g L h' m → News g L h' (extra ++ (64, tabObj ps') :: news) → (∀ q ∈ extra, ∀ r ∈ (64, tabObj ps') :: news, r.1 < q.1) → TrIn extra v tree → Q v { s with heap := h', toks := tk', gens := gs' }) →
    wpC (model PySem.Challenge.pw_ij0084_01 w) { handled := none, depth := dp, frames := some (env :: outer), guards := gd, units := un } (call (.ref 274) vs) Q NoE s
local macro_rules | `(tactic| k_call_by "enterT" $t) => `(tactic| (
  refine wpC_call ?_
  k_dflt (refine' code_cellsT (binds := $t) ?k1 ?k2 ?k3 ?k4 ?k5 ?kE ?kA ?kF ?kK ?k6 ?k7 ?k8 ?k9 ?kB ?kD ?_ ?c2 ?c3 ?c4; (case kA => exact rfl); (case kF => assumption); (case kK => assumption); (case k1 => assumption); (case k2 => assumption); (case k3 => assumption); (case k4 => assumption); (case k5 => assumption); (case kE => assumption); (case k6 => k_is); (case k7 => k_is); (case k8 => walk_at "my room"); (case k9 => exact BindsTo.of_eq rfl); (case kB => exact rfl); (case kD => decide +kernel); (case c2 => exact rfl); (case c3 => exact rfl); (case c4 => exact rfl); k_whole; intro g' L' h' tk' cells' F' N' Y' B' X' T' D' lL'; k_cells Y'; (try simp only [List.cons_append, List.nil_append] at N'); (try dsimp only); (try k_lift B'); (try k_fold))))
theorem ga_pair (P : Params) : specialIn (K P) (.ref 210) "__getattribute__" = some (some (.builtin "type.__getattribute__")) := by kernel_rfl
theorem ty_pair (P : Params) : typeIn (K P) (.ref 210) = some (.type "type") := by kernel_rfl
theorem find_parse (P : Params) : findCls (K P) (.ref 210) (.type "type") "parse" = some (.get (.builtin "classmethod.__get__") (.ref 206) .none (.ref 210)) := by kernel_rfl
theorem rec_parse (P : Params) : recIn (K P) 206 "classmethod" = some (.ref 204 :: [.bool false]) := by kernel_rfl
theorem getM_parse {w : World} {A : Around} {E : Value → Shared → Prop} {s : Shared} {h₀ : Heap} {L : Addr} {m : PySem.Str → Option Value} {news : List (Addr × Obj)} {pl : Sem Bool} {Q : Value × List Value → Shared → Prop} (F : Fr h₀ L s.heap m) (X : (K w.params).In h₀) (N : News h₀ L s.heap news)
    (h : ∀ q h', Fr h₀ L h' m → News h₀ L h' ((q, methodObj (.ref 204) (.ref 210)) :: news) → (∀ p ∈ news, p.1 < q) → Q (.ref q, []) { s with heap := h', toks := s.toks + 1 }) :
    wpAny (model PySem.Challenge.pw_ij0084_01 w) A (getMethod (.ref 210) "parse" pl) Q E s :=
  method_of_cls F X (ga_pair _) (cls_cm (K := K w.params) F X N (ty_pair _) (reads_pair _) (find_parse _) (rec_parse _) h)
theorem kwl38 : True := by
  k_with "getMethod ref!" => ((k_here; (k_dflt (refine' getM_parse ?hqk1 ?hqk2 ?hqk3 ?_; (case hqk1 => k_asm); (case hqk2 => k_asm); (case hqk3 => k_asm); k_whole; intro q' h' F' N' l'; (try dsimp only); (try k_fold)))))
  trivial
theorem fn_parse (P : Params) : fnIn (K P) 204 = true := by kernel_rfl
theorem apart3 {q L' : Addr} {o o' : Obj} {ps : Array Value} {news : List (Addr × Obj)} (h64 : ∀ r ∈ news, r.1 ≠ 64) (lL : ∀ r ∈ (64, tabObj ps) :: news, r.1 < L') (lq : ∀ r ∈ (L' + 1, o') :: (64, tabObj ps) :: news, r.1 < q) : ∀ r ∈ (q, o) :: (L' + 1, o') :: news, r.1 ≠ 64 := fun r hr => by
  have h1 : (64 : Nat) < L' := lL _ (List.mem_cons_self ..)
  have h2 : (64 : Nat) < q := lq _ (List.mem_cons_of_mem _ (List.mem_cons_self ..))
  simp only [List.mem_cons] at hr
  rcases hr with rfl | rfl | hr
  · exact Nat.ne_of_gt h2
  · exact Nat.ne_of_gt (Nat.lt_succ_of_lt h1)
  · exact h64 r hr
theorem mem_rot3 {α : Type} {a b c : α} {l : List α} : ∀ p ∈ c :: a :: b :: l, p ∈ a :: b :: c :: l := fun p hp => by
  simp only [List.mem_cons] at hp ⊢
  rcases hp with q | q | q | q
  · exact .inr (.inr (.inl q))
  · exact .inl q
  · exact .inr (.inl q)
  · exact .inr (.inr (.inr q))
theorem mem_skip3 {α : Type} {a b c : α} {l : List α} : ∀ p ∈ c :: l, p ∈ c :: a :: b :: l := fun p hp => by
  simp only [List.mem_cons] at hp ⊢
  rcases hp with q | q
  · exact .inl q
  · exact .inr (.inr (.inr q))
theorem ns_te (P : Params) : nsIn (K P) mainGlobals "TypeError" = some none := by kernel_rfl
theorem boot_te : bootBuiltins "TypeError" = some (.type "TypeError") := by kernel_rfl
theorem te_sub : isSubtype (.type "TypeError") (.type "BaseException") = pure true := by rw [isSubtype_type]; kernel_rfl
theorem te_self : isSubtype (.type "TypeError") (.type "TypeError") = pure true := by rw [isSubtype_type]; kernel_rfl
theorem te_meta : isSubtype (.type ((Manifest.find? "TypeError").elim "type" fun y => y.metatype)) (.type "tuple") = pure false := by
  rw [show ((Manifest.find? "TypeError").elim "type" fun y => y.metatype) = "type" by decide +kernel, isSubtype_type]; kernel_rfl
theorem con_read_leaf (w : World) (news : List (Addr × Obj)) (x : List Nat) (d : Nat) (t td : Tok) (h61 : 61 ∉ quo true x) (hx : x.length ≤ 10000) : ConS w (12 + 2 * d) news [.str (ofL (quo true x)) t, .int d td] (.leaf x) := by
  refine con_row ?_; unfold ConS; k_fill; intro _
  intro p loose mean mg mb dp un gd env outer A₀ base h₀ L m s Q ps hps h64 B F XB N TB D he hk hdp hun hret
  k_call_by "enterT" [("text", .str (ofL (quo true x)) t), ("deep", .int d td)]
  refine wpC_execs_any ?_
  k_steps
  dsimp only [RestC]
  refine wpC_execs_path (wpC_Try ?_)
  refine wpC_execs_path (wpC_Assign (wpC_MethodCall ?_))
  k_steps
  (try dsimp only)
  refine wpC_callWith_M (K := K w.params) (g := 204) (self := .ref 210) (fn_parse _) ?_
  k_steps
  (rename ∀ q ∈ _ :: (64, tabObj ps) :: news, q.1 < _ => lq9)
  (rename News _ _ _ _ => nE'); (rename Below _ _ _ _ => bE'); (rename KtsDicts _ _ => dE'); (rename Top _ _ _ _ _ _ => tE')
  have gq := (nE' _ (List.mem_cons_self ..)).1
  refine wpC_call (codeC_method gq ?_)
  refine' con_parse_e w _ _ _ h61 ?l p loose mean mg mb _ _ _ _ _ _ _ _ _ _ _ _ _ bE' ?F ?X nE' tE' rfl rfl ?d ?u ?_
  case F => k_asm
  case l => (have := quo_len true x; omega)
  case X => assumption
  case d => (show dp + 1 + 4 < recursionLimit; omega)
  case u => (show un + 3 + 8 * 4 < cLine; omega)
  intro g2 e2 h2 tk2 F2 R2 up2 x2
  refine' caughtX (X := "TypeError") (T' := "TypeError") (x := "TypeError") (KF := K w.params) R2 F2 bE' up2 x2 XB TB dE' (ns_te _) boot_te (by decide) te_sub te_meta te_self ?_ ?hk ?hx ?hd
  case hk => exact rfl
  case hx => exact rfl
  case hd => decide
  clear dE' tE' bE' nE' gq R2 F2 up2 x2
  intro h3 g3 T3 F3 N3 B3 X3 P3 D3 H3
  (rename ∀ q ∈ (64, tabObj ps) :: news, q.1 < _ => lL9)
  have a64 := apart3 (o := methodObj (.ref 204) (.ref 210)) h64 lL9 lq9
  have N4 : News _ _ _ _ := fun r hr => N3 r (mem_rot3 r hr)
  have H4 := HdC.sub H3 mem_rot3
  clear N3 H3 h64
  show wpAny _ { handled := some (.ref e2), depth := dp + 1, frames := some (_ :: _), guards := gd, units := un + 3 } _ _ _ _
  k_with "call ref" => (first
    | (k_call_by "conG2" (con_translate w _ _ _ true x _ (by omega) (by assumption) (by assumption)); intro v9 n9 h9 tk9 gs9 G9 F9 N9 H9 r9; obtain ⟨ps9, rfl, hp9, t9, rfl⟩ := r9; (try dsimp only); (try k_fold))
    | (k_call_by "conH" (con_only w _ _ true x _ (by omega)); intro v9 n9 h9 tk9 F9 N9 r9; obtain ⟨rfl, t9, rfl⟩ := r9; (try dsimp only); (try k_fold)))
  k_steps
  dsimp only [RestC]
  refine ⟨_, _, _, (64, tabObj _) :: news, T3, F9, fun r hr => N9 r (mem_skip3 r hr), fun h1 T1 F1 N1 B1 X1 P1 D1 => ?_⟩
  exact hret _ [] _ h1 _ _ _ (by assumption) (by assumption) T1 F1 N1 (fun q hq => nomatch hq) ⟨_, rfl⟩

-- c14
theorem isIn_pair (P : Params) : isIn (K P) (.ref 210) 210 = true := by kernel_rfl
theorem isi_pair {w : World} {prog : Program} {A : Around} {E : Value → Shared → Prop} {s : Shared} {h₀ : Heap} {L : Addr} {m : PySem.Str → Option Value} {news : List (Addr × Obj)} {x dx : Addr} {va vb : Value} {Q : Value → Shared → Prop} (F : Fr h₀ L s.heap m) (N : News h₀ L s.heap news) (hm : (x, pairObj dx va vb) ∈ news) (X : (K w.params).In h₀) (h : Q (.bool true) s) :
    wpAny (model prog w) A (call (.builtin "isinstance") [.ref x, .ref 210]) Q E s :=
  isi_call (X.keeps F.keep) (fun _ => looks_ofObj (N _ hm).1) (isIn_pair _) (by intro e; cases e) h
theorem kwl39 : True := by
  k_with "call builtin:isinstance!" => ((k_here; (k_dflt (refine' isi_pair ?hqk1 ?hqk2 ?hqk3 ?hqk4 ?_; (case hqk1 => k_asm); (case hqk2 => k_asm); (case hqk3 => k_mem); (case hqk4 => k_asm); k_whole))))
  trivial
section
variable {M : Model} {A : Around} {E : Value → Shared → Prop} {s : Shared} {env : Env}
theorem wpC_spliced1 {x : Sem Value} {Q : List Value → Shared → Prop} (h : wpC M A x (fun v s₁ => Q [v] s₁) E s) : wpC M A (spliced [(false, x)]) Q E s := by
  rw [spliced]
  refine wpC_bind (wpC_mono h (fun v s₁ h₁ => ?_) fun _ _ x => x)
  simp only [Bool.false_eq_true, if_false]
  exact wpC_any (wpAny_bind (wpAny_pure (wpAny_bind (wpAny_holding (wpAny_pure (wpAny_pure h₁))))))
/-- a call of a built-in class with one argument, the argument being on the path -/
theorem wpC_type1 {T : String} {e : Expr} {pos : Pos} {Q : Value → Shared → Prop} (h : wpC M A (eval e env) (fun v s₁ => wpAny M A (call (.type T) [v]) Q E s₁) E s)
    (he : backTo pos (starEach [e] env) = [(false, eval e env)] := by rfl) : wpC M A (callWith pos (.type T) [] (backTo pos (starEach [e] env)) []) Q E s := by
  rw [he]
  unfold callWith
  have h2 : wpC M A (evalArgs (.type T) true [(false, eval e env)] []) (fun a s₁ => wpAny M A (call (.type T) a.pos a.kw) Q E s₁) E s := by
    unfold evalArgs
    show wpC M A (spliced [(false, eval e env)] >>= _) _ E s
    refine wpC_bind (wpC_spliced1 (wpC_mono h (fun v s' h' => ?_) fun _ _ x => x))
    refine wpC_holding ?_
    exact wpC_any (wpAny_bind (wpAny_pure (wpAny_bind (wpAny_pure (wpAny_pure h')))))
  refine wpC_bind (wpC_holding (wpC_mono h2 (fun a s₁ h₁ => ?_) fun _ _ x => x))
  refine wpC_any (wpAny_bind (wpAny_standAt (wpAny_bind (wpAny_pure ?_))))
  exact wpAny_bind (wpAny_mono h₁ (fun r s₂ hr => wpAny_bind (wpAny_holding (wpAny_point (wpAny_pure hr)))) fun _ _ x => x)
end
theorem mem_rot5 {α : Type} {a b c d e : α} {l : List α} : ∀ p ∈ e :: a :: b :: c :: d :: l, p ∈ a :: b :: c :: d :: e :: l := fun p hp => by
  simp only [List.mem_cons] at hp ⊢
  rcases hp with q | q | q | q | q | q
  · exact .inr (.inr (.inr (.inr (.inl q))))
  · exact .inl q
  · exact .inr (.inl q)
  · exact .inr (.inr (.inl q))
  · exact .inr (.inr (.inr (.inl q)))
  · exact .inr (.inr (.inr (.inr (.inr q))))
theorem mem_skip5 {α : Type} {a b c d e : α} {l : List α} : ∀ p ∈ e :: l, p ∈ e :: a :: b :: c :: d :: l := fun p hp => by
  simp only [List.mem_cons] at hp ⊢
  rcases hp with q | q
  · exact .inl q
  · exact .inr (.inr (.inr (.inr (.inr q))))
theorem apart5 {h₀ h : Heap} {L₀ x dx q L' : Addr} {va vb : Value} {o o' : Obj} {ps : Array Value} {news : List (Addr × Obj)} (N : News h₀ L₀ h ((x, pairObj dx va vb) :: (dx, { cls := .type "dict", data := .dict #[] }) :: (q, o) :: (L' + 1, o') :: (64, tabObj ps) :: news)) (h64 : ∀ r ∈ news, r.1 ≠ 64) (lL : ∀ r ∈ (64, tabObj ps) :: news, r.1 < L') (lq : ∀ r ∈ (L' + 1, o') :: (64, tabObj ps) :: news, r.1 < q) :
    ∀ r ∈ (x, pairObj dx va vb) :: (dx, ({ cls := .type "dict", data := .dict #[] } : Obj)) :: (q, o) :: (L' + 1, o') :: news, r.1 ≠ 64 := fun r hr => by
  have m64 : ((64, tabObj ps) : Addr × Obj) ∈ (x, pairObj dx va vb) :: (dx, ({ cls := .type "dict", data := .dict #[] } : Obj)) :: (q, o) :: (L' + 1, o') :: (64, tabObj ps) :: news := by simp
  have hne : ∀ {a : Addr} {oa : Obj}, (a, oa) ∈ (x, pairObj dx va vb) :: (dx, ({ cls := .type "dict", data := .dict #[] } : Obj)) :: (q, o) :: (L' + 1, o') :: (64, tabObj ps) :: news → oa ≠ tabObj ps → a ≠ 64 := fun {a oa} h1 h2 e => by
    subst e
    exact h2 (Option.some.inj ((N _ h1).1.symm.trans (N _ m64).1))
  rcases List.mem_cons.mp hr with rfl | hr
  · exact hne (List.mem_cons_self ..) (fun e => by have := congrArg Obj.cls e; cases this)
  · rcases List.mem_cons.mp hr with rfl | hr
    · exact hne (List.mem_cons_of_mem _ (List.mem_cons_self ..)) (fun e => by have := congrArg Obj.data e; cases this)
    · exact apart3 h64 lL lq r hr
theorem mem_c64 {α : Type} {a b c z : α} {l l' : List α} : ∀ p ∈ z :: a :: b :: c :: (l ++ l'), p ∈ a :: b :: c :: (l ++ z :: l') := fun p hp => by
  simp only [List.mem_cons, List.mem_append] at hp ⊢
  rcases hp with q | q | q | q | q | q
  · exact .inr (.inr (.inr (.inr (.inl q))))
  · exact .inl q
  · exact .inr (.inl q)
  · exact .inr (.inr (.inl q))
  · exact .inr (.inr (.inr (.inl q)))
  · exact .inr (.inr (.inr (.inr (.inr q))))
theorem mem_c64' {α : Type} {a b c z : α} {e l l' : List α} : ∀ p ∈ e ++ a :: b :: c :: (l ++ z :: l'), p ∈ e ++ z :: a :: b :: c :: (l ++ l') := fun p hp => by
  simp only [List.mem_cons, List.mem_append] at hp ⊢
  rcases hp with q | q | q | q | q | q | q
  · exact .inl q
  · exact .inr (.inr (.inl q))
  · exact .inr (.inr (.inr (.inl q)))
  · exact .inr (.inr (.inr (.inr (.inl q))))
  · exact .inr (.inr (.inr (.inr (.inr (.inl q)))))
  · exact .inr (.inl q)
  · exact .inr (.inr (.inr (.inr (.inr (.inr q)))))
theorem news_dup {h₀ h : Heap} {L : Addr} {p z : Addr × Obj} {n : List (Addr × Obj)} (hp : h.get? p.1 = some p.2 ∧ p.1 ≠ L ∧ h₀.get? p.1 = none) (N : News h₀ L h (z :: n)) : News h₀ L h (z :: p :: n) := fun q hq => by
  rcases List.mem_cons.mp hq with rfl | hq
  · exact N _ (List.mem_cons_self ..)
  · rcases List.mem_cons.mp hq with rfl | hq
    · exact hp
    · exact N q (List.mem_cons_of_mem _ hq)
theorem cons_ne {a : Addr × Obj} {n : List (Addr × Obj)} (h : a.1 ≠ 64) (hn : ∀ q ∈ n, q.1 ≠ 64) : ∀ q ∈ a :: n, q.1 ≠ 64 := fun q hq => by
  rcases List.mem_cons.mp hq with rfl | hq
  · exact h
  · exact hn q hq
theorem memD {α : Type} {z C D I x dx q o : α} {n : List α} (extra : List α) (_ : Unit) : o ∈ z :: C :: D :: I :: (extra ++ x :: dx :: q :: o :: n) := by simp
theorem mem_c66 {α : Type} {a b c y z : α} {l l' : List α} : ∀ p ∈ a :: b :: c :: (l ++ z :: l'), p ∈ z :: y :: a :: b :: c :: (l ++ l') := fun p hp => by
  simp only [List.mem_cons, List.mem_append] at hp ⊢
  rcases hp with q | q | q | q | q | q
  · exact .inr (.inr (.inl q))
  · exact .inr (.inr (.inr (.inl q)))
  · exact .inr (.inr (.inr (.inr (.inl q))))
  · exact .inr (.inr (.inr (.inr (.inr (.inl q)))))
  · exact .inl q
  · exact .inr (.inr (.inr (.inr (.inr (.inr q)))))
theorem mem_c65 {α : Type} {a b c y z : α} {e l l' : List α} : ∀ p ∈ e ++ a :: b :: c :: (l ++ z :: l'), p ∈ e ++ z :: y :: a :: b :: c :: (l ++ l') := fun p hp => by
  rcases List.mem_append.mp hp with q | q
  · exact List.mem_append_left _ q
  · exact List.mem_append_right _ (mem_c66 p q)
theorem news_ne {h₀ h : Heap} {L a b : Addr} {o o' : Obj} {n : List (Addr × Obj)} (N : News h₀ L h n) (h1 : (a, o) ∈ n) (h2 : (b, o') ∈ n) (hne : o ≠ o') : a ≠ b := fun e => by
  subst e
  exact hne (Option.some.inj ((N _ h1).1.symm.trans (N _ h2).1))
theorem two_of {vs : List Value} (h : vs.length = 2) : ∃ a b, vs = [a, b] := by
  match vs, h with
  | [a, b], _ => exact ⟨a, b, rfl⟩
section
variable {M : Model} {A : Around} {E : Value → Shared → Prop} {s : Shared} {scope : Scope} {cl : List (PySem.Str × Addr)} {C : Addr} {env : Env} {x : PySem.Str} {pos : Pos} {v : Value} {Q : Value → Shared → Prop}
theorem nameC_L {mC : PySem.Str → Option Value} (ns : s.heap.Ns C mC) (hv : mC x = some v) (h : Q v s) (hk : (compEnvC scope cl C env).scope.kind = .function) (hx : (compEnvC scope cl C env).kindOf x = some .local) (hd : (x == ("__debug__" : PySem.Str)) = false) :
    wpAny M A (eval (.Name x pos) (compEnvC scope cl C env)) Q E s := wpAny_Name (wpAny_loadName_local hk hx ns hv h) hd
theorem nameC_C {h₀ : Heap} {L c : Addr} {o : Obj} {news : List (Addr × Obj)} (N : News h₀ L s.heap news) (hm : (c, o) ∈ news) (hd : o.data = .cell (some v)) (h : Q v s) (hc : cl.lookup x = some c) (hk : (compEnvC scope cl C env).scope.kind = .function) (hx : (compEnvC scope cl C env).kindOf x = some .cell) (hb : (x == ("__debug__" : PySem.Str)) = false) :
    wpAny M A (eval (.Name x pos) (compEnvC scope cl C env)) Q E s := wpAny_Name (wpAny_loadName_cell hk hx hc ⟨o, N.get hm, hd⟩ h) hb
end
theorem kwl40 : True := by
  k_with "eval Name!" => ((k_here; (with_reducible show wpAny _ _ (eval (Expr.Name _ _) (compEnvC _ _ _ _)) _ _ _); first
  | (k_dflt (refine' nameG_K ?hqk1 ?hqk2 ?hqk3 ?hqk4 ?_ ?hqg ?hqk ?hqx ?hqd; (case hqk1 => k_asm); (case hqk2 => k_asm); (case hqk3 => exact topRead_of (by assumption)); (case hqk4 => k_is); (case hqg => exact rfl); (case hqk => exact rfl); (case hqx => exact rfl); (case hqd => decide); k_whole))
  | (k_dflt (refine' nameC_L ?hqk1 ?hqk2 ?_ ?hqk ?hqx ?hqd; (case hqk => exact rfl); (case hqx => exact rfl); (case hqd => decide); (case hqk1 => assumption); (case hqk2 => assumption); k_whole))
  | (k_dflt (refine' nameC_C ?hqk1 ?hqk2 ?hqk3 ?_ ?hqc ?hqk ?hqx ?hqd; (case hqk => exact rfl); (case hqx => exact rfl); (case hqd => decide); (case hqc => exact rfl); (case hqk1 => k_asm); (case hqk2 => k_mem); (case hqk3 => assumption); k_whole))))
  trivial
theorem ns_read (P : Params) : nsIn (K P) mainGlobals "_law_read" = some (some (.ref 274)) := by kernel_rfl
theorem keep_read (P : Params) : keepIn (K P) (.ref 274) = true := by kernel_rfl
set_option rowWalk.seconds 60 in
theorem con_read_pair (w : World) (news : List (Addr × Obj)) {a b ya yb : List Nat} {d : Nat} {l r : Tr} (t td : Tok) (h61 : 61 ∉ a) (hz : (a ++ 61 :: b).length ≤ 100000) (ea : Txt.strip (ofL a) = ofL (quo true ya)) (eb : Txt.strip (ofL b) = ofL (quo false yb)) (la : ya.length ≤ 10000) (lb : yb.length ≤ 10000)
    (ihl : ∀ news t td, ConS w (12 + 2 * d) news [.str (ofL ya) t, .int d td] l) (ihr : ∀ news t td, ConS w (12 + 2 * d) news [.str (ofL yb) t, .int d td] r) :
    ConS w (12 + 2 * (d + 1)) news [.str (ofL (a ++ 61 :: b)) t, .int ((d + 1 : Nat) : Int) td] (.pair l r) := by
  refine con_row ?_; unfold ConS; k_fill; intro _
  intro p loose mean mg mb dp un gd env outer A₀ base h₀ L m s Q ps hps h64 B F XB N TB D he hk hdp hun hret
  k_call_by "enterT" [("text", .str (ofL (a ++ 61 :: b)) t), ("deep", .int ((d + 1 : Nat) : Int) td)]
  refine wpC_execs_any ?_
  k_steps
  dsimp only [RestC]
  refine wpC_execs_path (wpC_Try ?_)
  refine wpC_execs_path (wpC_Assign (wpC_MethodCall ?_))
  k_steps
  (try dsimp only)
  refine wpC_callWith_M (K := K w.params) (g := 204) (self := .ref 210) (fn_parse _) ?_
  k_steps
  (rename ∀ q ∈ _ :: (64, tabObj ps) :: news, q.1 < _ => lq9)
  (rename News _ _ _ _ => nE'); (rename Below _ _ _ _ => bE'); (rename KtsDicts _ _ => dE'); (rename Top _ _ _ _ _ _ => tE')
  have gq := (nE' _ (List.mem_cons_self ..)).1
  refine wpC_call (codeC_method gq ?_)
  refine' con_parse_c w _ _ _ _ h61 hz p loose mean mg mb _ _ _ _ _ _ _ _ _ _ _ _ _ bE' ?F ?X nE' tE' rfl rfl ?d ?u ?_
  case F => k_asm
  case X => assumption
  case d => (show dp + 1 + 4 < recursionLimit; omega)
  case u => (show un + 3 + 8 * 4 < cLine; omega)
  intro v9 n9 h9 tk9 F9 N9 r9
  obtain ⟨x, dx, t1, t2, rfl, rfl⟩ := r9
  rw [ea, eb] at N9
  dsimp only
  k_steps
  dsimp only [RestC]
  refine wpC_execs_nil ?_
  dsimp only
  refine wpC_execs_nil ?_
  dsimp only [RestC]
  refine wpC_execs_any ?_
  k_steps
  · exfalso; omega
  dsimp only [RestC]
  refine wpC_execs_path (wpC_Return (wpC_Call_Name ?_))
  k_steps
  refine wpC_type1 ?_

  (rename News _ _ _ _ => nE'); (rename Fr _ _ _ _ => fE')
  have N5 : News _ _ _ _ := fun r hr => nE' r (mem_rot5 r hr)
  (rename ∀ q ∈ (64, tabObj ps) :: news, q.1 < _ => lL9)
  (rename _ = Data.cell _ => dO9)
  have anw := apart5 nE' h64 lL9 lq9
  refine' wpC_compK2 (base := base) (outer := env :: outer) (K := K w.params) (vals := [.str (ofL (quo true ya)) t1, .str (ofL (quo false yb)) t2]) (St := fun i o => o.cls = .type "tuple_iterator" ∧ o.data = .fields #[.ref x, .int i 0]) (PE := fun j y l' => TrIn l' y (if j = 0 then l else r)) fE' N5 ?hclos ?hkind ?hnames ?hcell ?hx ?hs bE' XB TB dE' ?hz ?mono ?start ?elt ?ret
  case hclos => (with_unfolding_all exact rfl)
  case hkind => exact rfl
  case hnames => decide
  case hcell => decide
  case hx => exact rfl
  case hs => (intro _; rfl)
  case hz => exact Nat.le_of_ble_eq_true rfl
  case mono => exact fun j y l₁ l₂ hl hq => TrIn.mono hl hq
  case start =>
    k_steps
    have hx9 := nE' _ (List.mem_cons_self ..)
    refine iter_pair (X := by refine' Frag.In.keeps ?_ fE'.keep; assumption) hx9.1 ?_
    exact ⟨_, x, titObj x 0, _, _, _, ps, hps, rfl, rfl, fE'.push _, N5.push fE' _, List.mem_cons_self .., ⟨rfl, rfl⟩, iterOn_pair rfl, fun q hq => Heap.lt_size (N5 q hq).1⟩
  case elt =>
    intro j v C D I oC oD oI g s' mC extra ps9 hps9 hv T9 F9 N9 a9 B9 X9 P9 D9 ns9 hm9 bare9
    obtain ⟨bb, yy, tt, rfl, hyy, ih⟩ : ∃ bb yy tt, v = .str (ofL (quo bb yy)) tt ∧ yy.length ≤ 10000 ∧ ∀ news t td, ConS w (12 + 2 * d) news [.str (ofL yy) t, .int d td] (if j = 0 then l else r) := by
      match j, hv with
      | 0, hv => exact ⟨true, ya, t1, (Option.some.inj hv).symm, la, ihl⟩
      | 1, hv => exact ⟨false, yb, t2, (Option.some.inj hv).symm, lb, ihr⟩
    have N10 : News _ _ _ _ := news_dup (N9 _ (mem_c64 _ (memD extra ()))) (fun q hq => N9 q (mem_c64 q hq))
    have aD := anw _ (List.mem_cons_of_mem _ (List.mem_cons_of_mem _ (List.mem_cons_of_mem _ (List.mem_cons_self ..))))
    have a10 : ∀ q ∈ (C, oC) :: (D, oD) :: (I, oI) :: (extra ++ _), q.1 ≠ 64 := fun q hq => by
      rcases List.mem_append.mp (show q ∈ ((C, oC) :: (D, oD) :: (I, oI) :: extra) ++ _ from hq) with z | z
      · exact a9 q z
      · exact anw q z
    have a11 := cons_ne aD a10
    clear nE' N5 fE' N9 h64 lL9 a9 a10 aD anw
    refine wpC_Call_Name (nameG_K F9 X9 (topRead_of P9) (ns_read _) ?_ rfl rfl rfl (by decide))
    refine wpC_callWith_K (K := K w.params) (f := .ref 274) (keep_read _) ?_
    show wpAny _ { handled := none, depth := dp + 1, frames := some (_ :: env :: outer), guards := gd, units := un + 3 } _ _ _ _
    k_with "call ref" => (first
      | (k_call_by "conG2" (con_translate w _ _ _ bb yy _ (by omega) (by assumption) (by assumption)); intro v9 n9 h9 tk9 gs9 G9 F9 N9 H9 r9; obtain ⟨ps9, rfl, hp9, t9, rfl⟩ := r9; (try dsimp only); (try k_fold))
      | (k_call_by "conH" (con_only w _ _ bb yy _ (by omega)); intro v9 n9 h9 tk9 F9 N9 r9; obtain ⟨rfl, t9, rfl⟩ := r9; (try dsimp only); (try k_fold)))
    k_steps
    (rename News _ _ _ _ => nE9); (rename Fr _ _ _ _ => fE9); (rename TabOk _ => tab9)
    rw [show ((d + 1 : Nat) : Int) - 1 = (d : Int) by omega]
    show wpC _ { handled := none, depth := dp + 1, frames := some (_ :: env :: outer), guards := gd, units := un + 3 } _ _ _ _
    refine' ih _ _ _ p loose mean mg mb _ _ _ _ _ _ base _ _ _ _ _ _ tab9 a11 B9 fE9 XB nE9 TB D9 rfl rfl ?hd ?hu ?_
    case hd => omega
    case hu => omega
    intro v2 extra2 ps2 g2 h2 tk2 gs2 hp2 G2 T2 F2 N2 l2 R2
    exact ⟨g2, h2, tk2, gs2, extra2, ps2, hp2, rfl, fun q => G2 (by first | exact q | (apply_assumption; exact q)), T2, F2, fun q hq => N2 q (mem_c65 q hq), R2, fun q hq r hr => l2 q hq r (mem_c66 r hr)⟩
  case ret =>
    intro D vs k g h2 tk gs extra ps9 hps9 T9 F9 N9 B9 X9 P9 D9 hl hres hup hD bare
    obtain ⟨y1, y2, rfl⟩ := two_of hl
    refine kde_tupleOf (zs := [y1, y2]) F9 N9 ⟨_, (N9 _ (List.mem_cons_self ..)).1, rfl, k, rfl⟩ (Nat.le_of_ble_eq_true rfl) rfl ?_
    intro T' h3 F3 N3 l3
    dsimp only [RestC]
    refine ⟨g, _, _, (T', tupObj y1 y2 0) :: extra ++ (64, tabObj ps9) :: news, T9, F3, fun q hq => N3 q ?_, fun h1 T1 F1 N1 B1 X1 P1 D1 => ?_⟩
    · simp only [List.mem_cons, List.mem_append] at hq ⊢
      rcases hq with (q1 | q1) | q1 | q1
      · exact .inl q1
      · exact .inr (.inr (.inl q1))
      · exact .inr (.inr (.inr (.inl q1)))
      · exact .inr (.inr (.inr (.inr (.inr (.inr (.inr (.inr q1)))))))
    · refine hret (.ref T') ((T', tupObj y1 y2 0) :: extra) ps9 h1 _ _ _ hps9 bare T1 F1 N1 (fun q hq q' hq' => ?_) ⟨T', y1, y2, 0, rfl, List.mem_cons_self .., ?_, ?_⟩
      · rcases List.mem_cons.mp hq with z | z
        · rw [z]; exact l3 q' (List.mem_cons_of_mem _ (List.mem_append_right _ (mem_skip5 q' hq')))
        · exact hup q z q' (mem_skip5 q' hq')
      · exact TrIn.mono (fun q hq => List.mem_cons_of_mem _ hq) (hres 0 y1 rfl)
      · exact TrIn.mono (fun q hq => List.mem_cons_of_mem _ hq) (hres 1 y2 rfl)

-- c15
/-- `_law_read` of a text that reads as a tree -/
theorem con_read (w : World) {x : List Nat} {d : Nat} {tree : Tr} (h : Rd x d tree) : ∀ (news : List (Addr × Obj)) (t td : Tok), ConS w (12 + 2 * d) news [.str (ofL x) t, .int ((d : Nat) : Int) td] tree := by
  induction h with
  | leaf h61 hx => exact fun news t td => con_read_leaf w news _ _ t td h61 hx
  | pair h61 hz ea eb la lb _ _ ihl ihr => exact fun news t td => con_read_pair w news t td h61 hz ea eb la lb ihl ihr

-- fr1
section
variable {prog : Program} {w : World} {A : Around} {E : Value → Shared → Prop} {s : Shared} {env : Env} {h₀ : Heap} {x : PySem.Str} {body : List Stmt} {Q : Flow → Shared → Prop}
/-- a list or a tuple: what the growing part of a loop's ledger holds -/
def Seqy (p : Addr × Obj) : Prop := p.2.cls = .type "list" ∨ p.2.cls = .type "tuple"
/-- what a turn leaves when a part of the ledger may grow -/
def GrowEnd {σ : Type} (h₀ : Heap) (L : Addr) (Led : σ → List (Addr × Obj)) (ps : σ → List (PySem.Str × Value)) (x : PySem.Str) (stored : List PySem.Str) (m₀ : PySem.Str → Option Value) (P : σ → Prop) (base own : List (Addr × Obj)) (s₁ s₂ : Shared) : Prop :=
  ∃ (c : σ) (h' : Heap) (tk : Nat) (m' : PySem.Str → Option Value) (news' : List (Addr × Obj)), s₂ = { s₁ with heap := h', toks := tk } ∧ Fr h₀ L h' m' ∧ News h₀ L h' news' ∧ (∀ p ∈ Led c, p ∈ news') ∧ (∀ p ∈ base, p ∈ news') ∧ (∀ p ∈ own, p ∈ news') ∧ (∀ p ∈ Led c, Seqy p) ∧
    (∀ p ∈ ps c, m' p.1 = some p.2) ∧ (∀ z, z ≠ x → (∀ p ∈ ps c, z ≠ p.1) → stored.contains z = false → m' z = m₀ z) ∧ P c
def GrowPost {σ : Type} (h₀ : Heap) (L : Addr) (Led : σ → List (Addr × Obj)) (ps : σ → List (PySem.Str × Value)) (x : PySem.Str) (stored : List PySem.Str) (m₀ : PySem.Str → Option Value) (P : σ → Prop) (base own : List (Addr × Obj)) (s₁ : Shared) (Q : Flow → Shared → Prop) (f : Flow) (s₂ : Shared) : Prop :=
  match f with
  | .ret v => Q (.ret v) s₂
  | .brk => Q .next s₂
  | _ => GrowEnd h₀ L Led ps x stored m₀ P base own s₁ s₂
theorem grow_loop {σ : Type} {I : Addr} {fp : List Addr} {n : Nat} {P : Nat → Value → Prop} {St : Nat → Heap → Prop} {m₀ : PySem.Str → Option Value} (Led : σ → List (Addr × Obj)) (ps : σ → List (PySem.Str × Value)) (stored : List PySem.Str) (PP : Nat → σ → Prop) (c₀ : σ) (base : List (Addr × Obj))
    (W : Walks prog w A I fp [I] n P St) (hLf : env.locals ∉ fp) (hI : h₀.get? I = none) (hnw : ∀ p ∈ Led c₀ ++ base, p.1 ≠ I) (hcl : ∀ i h, St i h → ∃ o, h.get? I = some o ∧ o.cls ≠ .type "list" ∧ o.cls ≠ .type "tuple")
    (hIf : I ∈ fp) (hst : St 0 s.heap) (F : Fr h₀ env.locals s.heap m₀) (N : News h₀ env.locals s.heap (Led c₀ ++ base)) (hk : ∀ p ∈ ps c₀, m₀ p.1 = some p.2) (hp : PP 0 c₀)
    (turn : ∀ (c : σ) (i : Nat) (v : Value) (u : PySem.Str → Option Value) (h : Heap) (tk : Nat) (own : List (Addr × Obj)), i < n → P i v → (∀ q ∈ own, q.1 ∈ fp) → (∀ p ∈ Led c ++ base, p.1 ≠ I) → PP i c →
      Fr h₀ env.locals h (fun y => if y = x then some v else kstB (fun z => if stored.contains z then u z else m₀ z) (ps c) y) → News h₀ env.locals h (Led c ++ base ++ own) →
      wpAny (model prog w) A (execs body env) (GrowPost h₀ env.locals Led ps x stored m₀ (PP (i + 1)) base own { s with heap := h, toks := tk } Q) E { s with heap := h, toks := tk })
    (done : ∀ (c : σ) (u : PySem.Str → Option Value) (h : Heap) (tk : Nat), PP n c → Fr h₀ env.locals h (fun y => if y = x then u y else kstB (fun z => if stored.contains z then u z else m₀ z) (ps c) y) → News h₀ env.locals h (Led c ++ base) → Q .next { s with heap := h, toks := tk }) :
    LoopAtV prog w A h₀ env x body Q E (.ref I) s := by
  refine ⟨I, fp, [I], n, P, St, m₀, Led c₀ ++ base, (fun i m nx => ∃ c, nx = Led c ++ base ∧ (∀ p ∈ ps c, m p.1 = some p.2) ∧ (∀ z, z ≠ x → (∀ p ∈ ps c, z ≠ p.1) → stored.contains z = false → m z = m₀ z) ∧ PP i c), rfl, W, hLf, (fun b hb => by rw [List.mem_singleton.mp hb]; exact hI), (fun p hp hb => hnw p hp (List.mem_singleton.mp hb)), hst, F, N, ⟨c₀, rfl, hk, fun _ _ _ _ => rfl, hp⟩, ?_, ?_⟩
  · rintro i v m₁ news₁ s₁ own ⟨hh', tk', rfl⟩ hin hP ⟨c, rfl, h1, h2, hpc⟩ hoff hown hget hfp hSt F₁ N₁
    obtain ⟨oI, hgI, hn1, hn2⟩ := hcl _ _ hSt
    have hmI : (I, oI) ∈ own := hfp I hIf hI oI hgI
    have N₂ : News h₀ env.locals hh' (Led c ++ base ++ own) := fun p hp => N₁ p ((List.mem_append.mp hp).elim (fun h => List.mem_append.mpr (.inr h)) fun h => List.mem_append.mpr (.inl h))
    refine wpAny_mono (turn c i v m₁ hh' tk' own hin hP hown (fun p hp q => hoff p hp (by rw [q]; exact List.mem_singleton.mpr rfl)) hpc (kst_fr h1 h2 F₁) N₂) (fun f s₂ p => ?_) fun _ _ e => e
    have fin : GrowEnd h₀ env.locals Led ps x stored m₀ (PP (i + 1)) base own { s with heap := hh', toks := tk' } s₂ → LoopStepU h₀ env.locals [I] own (fun m nx => ∃ c, nx = Led c ++ base ∧ (∀ p ∈ ps c, m p.1 = some p.2) ∧ (∀ z, z ≠ x → (∀ p ∈ ps c, z ≠ p.1) → stored.contains z = false → m z = m₀ z) ∧ PP (i + 1) c) { s with heap := hh', toks := tk' } .next s₂ := by
      rintro ⟨c', h', tk, m', news', e, F', N', hl, hb, ho, hs, k1, k2, hp'⟩
      refine ⟨rfl, h', tk, m', Led c' ++ base, e, F', fun p hp => ?_, fun p hp hq => ?_, c', rfl, k1, k2, hp'⟩
      · rcases List.mem_append.mp hp with hp | hp
        · exact N' p (ho p hp)
        · exact N' p ((List.mem_append.mp hp).elim (hl p) (hb p))
      · have hq' := List.mem_singleton.mp hq
        rcases List.mem_append.mp hp with hp | hp
        · have e1 := (N' p (hl p hp)).1
          have e2 := (N' _ (ho _ hmI)).1
          rw [hq', e2] at e1
          have e3 := Option.some.inj e1
          rcases hs p hp with q | q
          · exact hn1 ((congrArg Obj.cls e3).trans q)
          · exact hn2 ((congrArg Obj.cls e3).trans q)
        · exact hnw p (List.mem_append_right _ hp) hq'
    cases f with
    | ret v => exact .ret p
    | brk => exact .brk p
    | next => exact .next (fin p)
    | cont => exact .cont (fin p)
  · rintro h' tk m' news' F' N' _ ⟨c, rfl, h1, h2, hpc⟩
    exact done c m' h' tk hpc (kst_frOut h1 h2 F') N'
/-- a loop over a made list whose turns make objects that stay -/
theorem grow_list {σ : Type} {l : Addr} {vs : List Value} {nn : Nat} {m₀ : PySem.Str → Option Value} (Led : σ → List (Addr × Obj)) (ps : σ → List (PySem.Str × Value)) (stored : List PySem.Str) (PP : Nat → σ → Prop) (c₀ : σ) (base : List (Addr × Obj))
    (hh : A.handled = none) (hl : (l, W.listOf vs.toArray nn) ∈ base) (F : Fr h₀ env.locals s.heap m₀) (N : News h₀ env.locals s.heap (Led c₀ ++ base)) (hk : ∀ p ∈ ps c₀, m₀ p.1 = some p.2) (hp : PP 0 c₀)
    (turn : ∀ (c : σ) (i : Nat) (v : Value) (I : Addr) (u : PySem.Str → Option Value) (h : Heap) (tk : Nat) (own : List (Addr × Obj)), vs[i]? = some v → (∀ q ∈ own, q.1 = I ∨ q.1 = l) → (∀ p ∈ Led c ++ base, p.1 ≠ I) → PP i c →
      Fr h₀ env.locals h (fun y => if y = x then some v else kstB (fun z => if stored.contains z then u z else m₀ z) (ps c) y) → News h₀ env.locals h (Led c ++ base ++ own) →
      wpAny (model prog w) A (execs body env) (GrowPost h₀ env.locals Led ps x stored m₀ (PP (i + 1)) base own { s with heap := h, toks := tk } Q) E { s with heap := h, toks := tk })
    (done : ∀ (c : σ) (u : PySem.Str → Option Value) (h : Heap) (tk : Nat), PP vs.length c → Fr h₀ env.locals h (fun y => if y = x then u y else kstB (fun z => if stored.contains z then u z else m₀ z) (ps c) y) → News h₀ env.locals h (Led c ++ base) → Q .next { s with heap := h, toks := tk }) :
    wpAny (model prog w) A (pyIter (.ref l)) (fun it s₂ => LoopAtV prog w A h₀ env x body Q E it s₂) E s := by
  have hl' := List.mem_append_right (Led c₀) hl
  have hol : s.heap.get? l = some (W.listOf vs.toArray nn) := (N _ hl').1
  have hls : s.heap.IsList l vs.toArray := ⟨_, hol, rfl, nn, rfl⟩
  have hne : l ≠ s.heap.objs.size := Nat.ne_of_lt (Heap.lt_size hol)
  refine wpAny_pyIter_list hls ?_
  have W := Walks.list (prog := prog) (w := w) hh s.heap.objs.size l hne vs.toArray
  rw [List.size_toArray] at W
  refine grow_loop (s := { s with heap := s.heap.push _ }) Led ps stored PP c₀ base W ?_ ?_ (fun p hp e => absurd (Heap.lt_size (N p hp).1) (by rw [e]; exact Nat.lt_irrefl _)) ?_ (List.mem_cons_self ..) ⟨⟨_, Heap.get?_push_size _ rfl, rfl, rfl⟩, hls.at fun o e => Heap.get?_push_of_some _ e⟩ (F.push _) (fun p hp => ⟨Heap.get?_push_of_some _ (N p hp).1, (N p hp).2⟩) hk hp ?_ ?_
  · intro hm
    rcases List.mem_cons.mp hm with e | hm
    · exact absurd F.ns.lt (e ▸ Nat.lt_irrefl _)
    · exact (N _ hl').2.1 ((List.mem_singleton.mp hm).symm)
  · exact next_is_new F
  · rintro i h ⟨⟨o, h1, h2, _⟩, _⟩
    exact ⟨o, h1, by rw [h2]; decide, by rw [h2]; decide⟩
  · intro c i v u h tk own hi hv hown hoff hpc F1 N1
    exact turn c i v _ u h tk own (by simpa using hv) (fun q hq => by
      rcases List.mem_cons.mp (hown q hq) with e | e
      · exact .inl e
      · exact .inr (List.mem_singleton.mp e)) hoff hpc F1 N1
  · exact done
/-- a loop over a range whose turns make objects that stay -/
theorem grow_range {σ : Type} {r : Addr} {a b c₁ : Int} {t₀ u₀ v₀ : Tok} {n : Nat} {m₀ : PySem.Str → Option Value} (Led : σ → List (Addr × Obj)) (ps : σ → List (PySem.Str × Value)) (stored : List PySem.Str) (PP : Nat → σ → Prop) (c₀ : σ) (base : List (Addr × Obj))
    (hh : A.handled = none) (hr : IsRange s.heap r a b c₁ t₀ u₀ v₀) (hsmall : Builtin.Range.small a b c₁ = true) (hn : Builtin.Range.rangeSize a b c₁ = (n : Int)) (F : Fr h₀ env.locals s.heap m₀) (N : News h₀ env.locals s.heap (Led c₀ ++ base)) (hk : ∀ p ∈ ps c₀, m₀ p.1 = some p.2) (hp : PP 0 c₀)
    (turn : ∀ (c : σ) (i : Nat) (v : Value) (I : Addr) (u : PySem.Str → Option Value) (h : Heap) (tk : Nat) (own : List (Addr × Obj)), i < n → (∃ t, v = .int (a + i * c₁) t) → (∀ q ∈ own, q.1 = I) → (∀ p ∈ Led c ++ base, p.1 ≠ I) → PP i c →
      Fr h₀ env.locals h (fun y => if y = x then some v else kstB (fun z => if stored.contains z then u z else m₀ z) (ps c) y) → News h₀ env.locals h (Led c ++ base ++ own) →
      wpAny (model prog w) A (execs body env) (GrowPost h₀ env.locals Led ps x stored m₀ (PP (i + 1)) base own { s with heap := h, toks := tk } Q) E { s with heap := h, toks := tk })
    (done : ∀ (c : σ) (u : PySem.Str → Option Value) (h : Heap) (tk : Nat), PP n c → Fr h₀ env.locals h (fun y => if y = x then u y else kstB (fun z => if stored.contains z then u z else m₀ z) (ps c) y) → News h₀ env.locals h (Led c ++ base) → Q .next { s with heap := h, toks := tk }) :
    wpAny (model prog w) A (pyIter (.ref r)) (fun it s₂ => LoopAtV prog w A h₀ env x body Q E it s₂) E s := by
  refine wpAny_pyIter_range hr hsmall ?_
  refine grow_loop (s := { s with heap := s.heap.push _ }) Led ps stored PP c₀ base (Walks.range hh s.heap.objs.size a c₁ n) ?_ ?_ (fun p hp e => absurd (Heap.lt_size (N p hp).1) (by rw [e]; exact Nat.lt_irrefl _)) ?_ (List.mem_cons_self ..) (by show IsRangeIter _ _ _ _ _; rw [hn]; simpa using Heap.get?_push_size _ rfl) (F.push _) (fun p hp => ⟨Heap.get?_push_of_some _ (N p hp).1, (N p hp).2⟩) hk hp ?_ ?_
  · intro hm
    exact absurd F.ns.lt ((List.mem_singleton.mp hm) ▸ Nat.lt_irrefl _)
  · exact next_is_new F
  · intro i h st
    exact ⟨_, st, fun e => by have e2 : Value.type "range_iterator" = Value.type "list" := e; revert e2; decide, fun e => by have e2 : Value.type "range_iterator" = Value.type "tuple" := e; revert e2; decide⟩
  · intro c i v u h tk own hi hv hown hoff hpc F1 N1
    exact turn c i v _ u h tk own hi hv (fun q hq => List.mem_singleton.mp (hown q hq)) hoff hpc F1 N1
  · exact done
theorem grow_end {σ : Type} {Led : σ → List (Addr × Obj)} {ps : σ → List (PySem.Str × Value)} {stored : List PySem.Str} {m₀ : PySem.Str → Option Value} {P : σ → Prop} (c : σ) {L : Addr} {m' : PySem.Str → Option Value} {base own news' : List (Addr × Obj)} {s₁ : Shared} {h' : Heap} {tk : Nat}
    (F : Fr h₀ L h' m') (N : News h₀ L h' news') (hl : ∀ p ∈ Led c, p ∈ news') (hb : ∀ p ∈ base, p ∈ news') (ho : ∀ p ∈ own, p ∈ news') (hs : ∀ p ∈ Led c, Seqy p) (hk : ∀ p ∈ ps c, m' p.1 = some p.2) (hr : ∀ z, z ≠ x → (∀ p ∈ ps c, z ≠ p.1) → stored.contains z = false → m' z = m₀ z) (hp : P c) :
    GrowEnd h₀ L Led ps x stored m₀ P base own s₁ { s₁ with heap := h', toks := tk } := ⟨c, h', tk, m', news', rfl, F, N, hl, hb, ho, hs, hk, hr, hp⟩
end

-- fr2
/-- every text of the tree is of code points -/
def Tr.sok : Tr → Prop
  | .leaf x => PyData.strOk (ofL x) = true
  | .pair a b => a.sok ∧ b.sok
/-- the state of the forest's loops -/
structure FSt where
  F : Addr
  k : Nat
  vs : List Value
  extra : List (Addr × Obj)
def FSt.led (c : FSt) : List (Addr × Obj) := (c.F, W.listOf c.vs.toArray c.k) :: c.extra
def FSt.ps (c : FSt) : List (PySem.Str × Value) := [("forest", .ref c.F)]
/-- the forest's trees, and where they lie -/
structure FSt.Good (c : FSt) (base : List (Addr × Obj)) (n : Nat) : Prop where
  len : c.vs.length ≤ n
  tree : ∀ v ∈ c.vs, ∃ t, TrIn c.extra v t ∧ t.ok ∧ t.depth ≤ 2 ∧ t.sok
  off : ∀ q ∈ base, q.1 ≠ c.F
  tup : ∀ p ∈ c.extra, ∃ a b n, p.2 = tupObj a b n
theorem FSt.Good.seqy {c : FSt} {base : List (Addr × Obj)} {n : Nat} (G : c.Good base n) : ∀ p ∈ c.led, Seqy p := fun p hp => by
  rcases List.mem_cons.mp hp with e | e
  · rw [e]; exact .inl rfl
  · obtain ⟨a, b, n, e2⟩ := G.tup p e
    exact .inr (by rw [e2])
section
variable {prog : Program} {w : World} {A : Around} {E : Value → Shared → Prop} {s : Shared} {h₀ : Heap} {L l : Addr} {m : PySem.Str → Option Value} {news rest : List (Addr × Obj)} {value slice : PySem.Expr} {vs ws : List Value} {a b : Value} {k : Nat} {u : Tok} {Q : Value → Shared → Prop}
theorem app_grow {x : Value} (F : Fr h₀ L s.heap m) (N : News h₀ L s.heap ((l, W.listOf vs.toArray k) :: rest)) (ap : ∀ p ∈ rest, p.1 ≠ l) (hz : vs.length ≤ 1000)
    (h : ∀ h' k', Fr h₀ L h' m → News h₀ L h' ((l, W.listOf (vs ++ [x]).toArray k') :: rest) → Q .none { s with heap := h' }) :
    wpAny (model prog w) A (call (.builtin "list.append") [.ref l, x]) Q E s := by
  have hl := N _ (List.mem_cons_self ..)
  refine wpAny_list_append_plain (items := vs.toArray) ⟨k, hl.1⟩ (fun h' p sb => ?_) (by rw [List.size_toArray, sizeLine_eq]; omega)
  obtain ⟨k', hg⟩ := p
  exact h h' k' (F.change sb hl.2.1 hl.2.2) (N.setHead ap sb (by rw [hg]; unfold W.listOf; simp))
theorem len_grow {n : Nat} (N : News h₀ L s.heap news) (hm : (l, W.listOf vs.toArray k) ∈ news) (hn : vs.length = n) (hz : n ≤ 1000) (h : Q (.int (n : Nat) (s.toks + 1)) { s with toks := s.toks + 1 + 1 }) :
    wpAny (model prog w) A (call (.builtin "len") [.ref l]) Q E s :=
  Calls.call_len_list (News.isList N hm) (by rw [List.size_toArray]; omega) (by rw [List.size_toArray, hn]; exact h)
theorem last1 (N : News h₀ L s.heap news) (hm : (l, W.listOf (ws ++ [a, b]).toArray k) ∈ news) (hz : ws.length ≤ 1000) (h : Q b s)
    (hs : subscripted slice false (.ref l) (.int (-1) u) = operate [.ref l, .int (-1) u] (getItem (.ref l) (.int (-1) u)) := by with_unfolding_all rfl) :
    wpAny (model prog w) A (subscriptTail value slice (.ref l) (.int (-1) u)) Q E s :=
  have hl := News.isList N hm
  tail_any hl.typeIs slot_list_getitem.lookup (wpAny_getItem_list_neg hl (by decide) (by simp; omega) (by decide) (by
    rw [List.size_toArray, List.getElem?_toArray]
    have : ((-1 : Int) + ((ws ++ [a, b]).length : Nat)).toNat = ws.length + 1 := by simp; omega
    rw [this, List.getElem?_append_right (by omega)]; simp) h) hs
theorem last2 (N : News h₀ L s.heap news) (hm : (l, W.listOf (ws ++ [a, b]).toArray k) ∈ news) (hz : ws.length ≤ 1000) (h : Q a s)
    (hs : subscripted slice false (.ref l) (.int (-2) u) = operate [.ref l, .int (-2) u] (getItem (.ref l) (.int (-2) u)) := by with_unfolding_all rfl) :
    wpAny (model prog w) A (subscriptTail value slice (.ref l) (.int (-2) u)) Q E s :=
  have hl := News.isList N hm
  tail_any hl.typeIs slot_list_getitem.lookup (wpAny_getItem_list_neg hl (by decide) (by simp; omega) (by decide) (by
    rw [List.size_toArray, List.getElem?_toArray]
    have : ((-2 : Int) + ((ws ++ [a, b]).length : Nat)).toNat = ws.length := by simp; omega
    rw [this, List.getElem?_append_right (by omega)]; simp) h) hs
theorem but2 {vl : Value} (F : Fr h₀ L s.heap m) (N : News h₀ L s.heap news) (hm : (l, W.listOf (ws ++ [a, b]).toArray k) ∈ news) (hz : ws.length ≤ 1000)
    (h : ∀ D h', Fr h₀ L h' m → News h₀ L h' ((D, W.listOf ws.toArray 0) :: news) → (∀ p ∈ news, p.1 < D) → Q (.ref D) { s with heap := h' })
    (hs : subscripted slice false (.ref l) (.ref s.heap.objs.size) = operate [.ref s.heap.objs.size, .ref l] (getItem (.ref l) (.ref s.heap.objs.size)) := by with_unfolding_all rfl)
    (ht : ∀ r, letTemporaryGo value (.ref l) r = pure () := by intro _; with_unfolding_all rfl) :
    wpAny (model prog w) A (subscriptTail value slice (.ref l) (.ref s.heap.objs.size)) Q E { s with heap := s.heap.push { cls := .type "slice", data := .fields #[.none, .int (-2) u, .none] } } := by
  refine slice_list F N (News.isList N hm) .none (.int _ _) (fun h' F' N' => ?_) hs ht (by rw [List.size_toArray, sizeLine_eq]; simp; omega)
  have e : slicePick (ws ++ [a, b]).toArray none (some (-2)) none = ws.toArray := by
    rw [show (-2 : Int) = -((2 : Nat) : Int) from rfl, slicePick_butLast _ 2 (by decide)]
    simp
  rw [e] at N'
  exact h _ h' F' N' fun p hp => Nat.lt_succ_of_lt (Heap.lt_size (N p hp).1)
theorem add_grow {l₂ : Addr} {k₂ : Nat} (F : Fr h₀ L s.heap m) (N : News h₀ L s.heap news) (h1 : (l, W.listOf vs.toArray k) ∈ news) (h2 : (l₂, W.listOf ws.toArray k₂) ∈ news) (hz : vs.length ≤ 1000) (hz2 : ws.length ≤ 1000)
    (h : ∀ D h', Fr h₀ L h' m → News h₀ L h' ((D, W.listOf (vs ++ ws).toArray 0) :: news) → (∀ p ∈ news, p.1 < D) → Q (.ref D) { s with heap := h' }) :
    wpAny (model prog w) A (binaryOp .Add (.ref l) (.ref l₂)) Q E s :=
  add_lists F N (News.isList N h1) (News.isList N h2) (fun h' F' N' => h _ h' F' N' fun p hp => Heap.lt_size (N p hp).1) (by rw [sizeLine_eq]; omega)
/-- `[1, 2, 0][i]` at an index below three -/
theorem pick3 {t1 t2 t3 : Tok} {i : Int} (N : News h₀ L s.heap news) (hm : (l, W.listOf #[.int 1 t1, .int 2 t2, .int 0 t3] k) ∈ news) (h0 : 0 ≤ i) (h3 : i < 3) (h : ∀ (n : Nat) (t : Tok), n ≤ 2 → Q (.int (n : Int) t) s)
    (hs : subscripted slice false (.ref l) (.int i u) = operate [.ref l, .int i u] (getItem (.ref l) (.int i u)) := by with_unfolding_all rfl) :
    wpAny (model prog w) A (subscriptTail value slice (.ref l) (.int i u)) Q E s := by
  have hl := News.isList N hm
  have hi : i = 0 ∨ i = 1 ∨ i = 2 := by omega
  rcases hi with rfl | rfl | rfl
  · exact tail_any hl.typeIs slot_list_getitem.lookup (wpAny_getItem_list hl h0 (by decide) rfl (h 1 t1 (by decide))) hs
  · exact tail_any hl.typeIs slot_list_getitem.lookup (wpAny_getItem_list hl h0 (by decide) rfl (h 2 t2 (by decide))) hs
  · exact tail_any hl.typeIs slot_list_getitem.lookup (wpAny_getItem_list hl h0 (by decide) rfl (h 0 t3 (by decide))) hs
end

-- fr0h
theorem so_nil : PyData.strOk ("" : PySem.Str) = true := by decide +kernel
theorem so_app {a b : PySem.Str} (ha : PyData.strOk a = true) (hb : PyData.strOk b = true) : PyData.strOk (a ++ b) = true := by
  unfold PyData.strOk at ha hb ⊢
  rw [PySem.Str.cps_append, Array.all_append, ha, hb]; rfl
theorem so_one {c : Nat} (h : c < 1114112) : PyData.strOk (⟨#[c]⟩ : PySem.Str) = true := by
  unfold PyData.strOk
  simp; exact h
theorem so_item {X : PySem.Str} (h : PyData.strOk X = true) (i : Int) : PyData.strOk (Txt.item X i) = true := by
  unfold Txt.item
  cases hc : Txt.charAt X i with
  | none => exact so_one (c := 0) (by decide)
  | some c =>
    unfold Txt.charAt at hc
    obtain ⟨j, _, hj⟩ := Option.bind_eq_some_iff.mp hc
    unfold PyData.strOk at h
    rw [Array.all_eq_true] at h
    obtain ⟨hlt, e⟩ := Array.getElem?_eq_some_iff.mp hj
    have := h j hlt
    rw [e] at this
    exact so_one (of_decide_eq_true this)
theorem so_tempt : PyData.strOk (Str.ofString " =[*?]!-a.\\^&\t\u3000b") = true := by decide +kernel
theorem con_text2 (w : World) (news : List (Addr × Obj)) (y : Int) (t : Tok) (h0 : 0 ≤ y) (h1 : y < 1080926208) : Con w none 227 1 news [.int y t] (fun v n => news = n ∧ ∃ x t, v = .str (ofL x) t ∧ x.length ≤ 2 ∧ PyData.strOk (ofL x) = true) := by
  walk_at "my open"
  intro p loose mean mg mb dp un gd env outer A₀ base h₀ L m s Q E B F X N T he hk hdp hun hret
  k_call_by "enter" [("y", .int y t)]
  k_with "pyIter ref" => (
    (rename Fr _ _ _ _ => lF'); (rename News _ _ _ _ => lN')
    (with_unfolding_all refine' kst_listL (σ := Str × Tok) (ns := [y.fmod 18, (y.fdiv 18).fmod 18]) (fun _ => (_, W.listOf #[Value.int (y.fmod 18) _, Value.int ((y.fdiv 18).fmod 18) _] 0) :: news) (fun c => [("text", .str c.1 c.2)]) (fun _ => True) ["digit"] (fun pre c => c.1.length ≤ pre.length ∧ PyData.strOk c.1 = true) ("", _) (by rfl) (fun _ => .head _) (.cons _ _ (.cons _ _ .nil)) lF' lN' trivial (by kst_all) ⟨Nat.zero_le _, so_nil⟩ ?_ ?_)
    (intro c pre post n t u h tk own hc hm hoff _ hI F1 N1
     obtain ⟨q, tq⟩ := c
     dsimp only at hI
     obtain ⟨hI, hI2⟩ := hI
     have hx1 := congrArg List.length hc
     have hn : 0 ≤ n ∧ n < 18 := by
        simp only [List.mem_cons, List.not_mem_nil, or_false] at hm
        rcases hm with rfl | rfl
        · exact fmod_lt18 _
        · exact fmod_lt18 _
     have hl1 : q.length ≤ 2 := by simp only [List.length_append, List.length_cons, List.length_nil] at hx1; omega
     clear lF' lN' hx1 hm
     refine wpAny_hide fun Q9 hQ9 => ?_
     (try dsimp only)
     (try k_fold))
    rotate_left
    (intro c u h tk _ hI F1 N1
     obtain ⟨hI, hI2⟩ := hI
     clear lF' lN'
     (try dsimp only)
     (try k_fold)))
  k_steps
  all_goals first
    | exact hret _ _ _ _ (by k_asm) (cb_drop (by k_asm) (by intro p hp; exact .tail _ hp)) ⟨rfl, _, _, by rw [ofL_self], by simpa [Str.length] using hI, by rw [ofL_self]; exact hI2⟩
    | (refine hQ9 _ _ ?_
       dsimp only [InvPostN]
       (rename News _ _ _ _ => nE')
       refine kst_end (_, _) (by assumption) nE' (by first | kst_in | kst_inAny) (by first | (intro p hp; kst_mem) | kst_anyIn) (by rfl) (by kst_facts) (by kst_all) (by walk_at "my same") ⟨?_, ?_⟩
       (show Str.length _ ≤ _
        simp only [List.length_append, List.length_cons, List.length_nil]
        first | omega | (simp only [Str.length] at *; simp at *; omega))
       first | exact hI2 | exact so_app hI2 (so_item so_tempt _) | exact so_app hI2 (so_one (by rw [Int.fdiv_eq_ediv_of_nonneg _ (by decide)] at *; omega)))

-- fr4
theorem kwl41 : True := by
  k_with "call builtin:list.append!" => ((k_here; (with_reducible show wpAny _ _ (call (Value.builtin "list.append") [Value.ref _, _]) _ _ _); k_dflt (refine' app_grow ?hqF ?hqN ?hqap ?hqz ?_; (case hqF => k_asm); (case hqN => k_asm); (case hqap => assumption); (case hqz => assumption); k_whole); intro h' k' F' N'))
  k_with "call builtin:len!" => ((k_here; (with_reducible show wpAny _ _ (call (Value.builtin "len") [Value.ref _]) _ _ _); k_dflt (refine' len_grow ?hqN ?hqm ?hqe ?hqz ?_; (case hqN => k_asm); (case hqm => k_mem); (case hqe => assumption); (case hqz => omega); k_whole)))
  k_with "subscriptTail Name Slice ref ref!" => ((k_here; (with_reducible show wpAny _ _ (subscriptTail _ (PySem.Expr.Slice none _ none _) (Value.ref _) (Value.ref _)) _ _ _); k_dflt (refine' but2 (vl := .none) ?hqF ?hqN ?hqm ?hqz ?_ ?hqs ?hqt; (case hqF => k_asm); (case hqN => k_asm); (case hqm => k_mem); (case hqz => omega); (case hqs => with_unfolding_all rfl); (case hqt => (intro _; with_unfolding_all rfl)); k_whole); intro D' h' F' N' l1))
  k_with "binaryOp Add ref ref!" => ((k_here; (with_reducible show wpAny _ _ (binaryOp _ (Value.ref _) (Value.ref _)) _ _ _); k_dflt (refine' add_grow (ws := [_]) ?hqF ?hqN ?hqa ?hqb ?hqy ?hqz ?_; (case hqF => k_asm); (case hqN => k_asm); (case hqa => k_mem); (case hqb => k_mem); (case hqy => omega); (case hqz => exact Nat.le_of_ble_eq_true rfl); k_whole); intro D' h' F' N' l1))
  k_with "call type:range!" => ((k_here; (rename Fr _ _ _ _ => F'); (rename News _ _ _ _ => N'); (with_unfolding_all refine range1_rows F' N' ?_); intro h' tk' t1' t2' t3' R' F' N' kp'))
  trivial
theorem last1K {prog : Program} {w : World} {A : Around} {E : Value → Shared → Prop} {s : Shared} {h₀ : Heap} {L l : Addr} {news : List (Addr × Obj)} {value slice : PySem.Expr} {ws : List Value} {a b : Value} {k : Nat} {u : Tok} {i : Int} {Q : Value → Shared → Prop} (hi : i = -1) (N : News h₀ L s.heap news) (hm : (l, W.listOf (ws ++ [a, b]).toArray k) ∈ news) (hz : ws.length ≤ 1000) (h : Q b s)
    (hs : subscripted slice false (.ref l) (.int i u) = operate [.ref l, .int i u] (getItem (.ref l) (.int i u)) := by with_unfolding_all rfl) :
    wpAny (model prog w) A (subscriptTail value slice (.ref l) (.int i u)) Q E s := by
  subst hi; exact last1 N hm hz h hs
theorem last2K {prog : Program} {w : World} {A : Around} {E : Value → Shared → Prop} {s : Shared} {h₀ : Heap} {L l : Addr} {news : List (Addr × Obj)} {value slice : PySem.Expr} {ws : List Value} {a b : Value} {k : Nat} {u : Tok} {i : Int} {Q : Value → Shared → Prop} (hi : i = -2) (N : News h₀ L s.heap news) (hm : (l, W.listOf (ws ++ [a, b]).toArray k) ∈ news) (hz : ws.length ≤ 1000) (h : Q a s)
    (hs : subscripted slice false (.ref l) (.int i u) = operate [.ref l, .int i u] (getItem (.ref l) (.int i u)) := by with_unfolding_all rfl) :
    wpAny (model prog w) A (subscriptTail value slice (.ref l) (.int i u)) Q E s := by
  subst hi; exact last2 N hm hz h hs
theorem kwl42 : True := by
  k_with "subscriptTail Name UnaryOp ref int!" => ((k_here; (with_reducible show wpAny _ _ (subscriptTail _ _ (Value.ref _) (Value.int _ _)) _ _ _); first
  | (k_dflt (refine' last1K ?hqi ?hqN ?hqm ?hqz ?_ ?hqs; (case hqi => decide); (case hqN => k_asm); (case hqm => k_mem); (case hqz => omega); (case hqs => with_unfolding_all rfl); k_whole))
  | (k_dflt (refine' last2K ?hqi ?hqN ?hqm ?hqz ?_ ?hqs; (case hqi => decide); (case hqN => k_asm); (case hqm => k_mem); (case hqz => omega); (case hqs => with_unfolding_all rfl); k_whole))))
  trivial
theorem FSt.Good.app {cF : Addr} {ck : Nat} {cvs : List Value} {cex base : List (Addr × Obj)} {n k' : Nat} {x : List Nat} {t : Tok} (G : FSt.Good ⟨cF, ck, cvs, cex⟩ base n) (hx : x.length ≤ 2) (hs : PyData.strOk (ofL x) = true) : FSt.Good ⟨cF, k', cvs ++ [.str (ofL x) t], cex⟩ base (n + 1) where
  len := by have := G.len; simp only [List.length_append, List.length_cons, List.length_nil] at this ⊢; omega
  tree := fun v hv => by
    rcases List.mem_append.mp hv with q | q
    · exact G.tree v q
    · rw [List.mem_singleton.mp q]; exact ⟨.leaf x, ⟨t, rfl⟩, hx, Nat.zero_le _, hs⟩
  off := G.off
  tup := G.tup
theorem getD3 (k : Nat) : 0 ≤ ([1, 2, 0] : List Int).getD k 0 ∧ ([1, 2, 0] : List Int).getD k 0 ≤ 2 := by
  match k with
  | 0 => decide
  | 1 => decide
  | 2 => decide
  | k + 3 => exact ⟨Int.le_refl 0, (by decide : (0 : Int) ≤ 2)⟩
theorem range_int {v : Int} (h : 0 ≤ v) : Builtin.Range.rangeSize 0 v 1 = (v.toNat : Int) := by rw [rangeSize_one]; split <;> omega
theorem split2 {α : Type} (vs : List α) : vs.length ≤ 1 ∨ ∃ ws a b, vs = ws ++ [a, b] := by
  rcases List.eq_nil_or_concat vs with rfl | ⟨r, b, rfl⟩
  · exact .inl (Nat.zero_le _)
  · rcases List.eq_nil_or_concat r with rfl | ⟨r2, a, rfl⟩
    · exact .inl (by simp)
    · exact .inr ⟨r2, a, b, by simp⟩
theorem mem_sk {α : Type} {z a : α} {b c d : List α} : ∀ p ∈ a :: (b ++ (c ++ d)), p ∈ z :: a :: (b ++ c ++ d) := fun p hp => List.mem_cons_of_mem _ (by rw [List.append_assoc]; exact hp)
theorem off_led {h₀ h : Heap} {L cF : Addr} {cvs : List Value} {ck : Nat} {cex base : List (Addr × Obj)} (N : News h₀ L h ((cF, W.listOf cvs.toArray ck) :: (cex ++ base))) (ht : ∀ p ∈ cex, ∃ a b n, p.2 = tupObj a b n) (hb : ∀ p ∈ base, p.1 ≠ cF) : ∀ p ∈ cex ++ base, p.1 ≠ cF := fun p hp => by
  rcases List.mem_append.mp hp with q | q
  · intro e
    have e1 := (N _ (List.mem_cons_self ..)).1
    have e2 := (N p (List.mem_cons_of_mem _ hp)).1
    rw [e, e1] at e2
    obtain ⟨_, _, _, e5⟩ := ht p q
    have e3 := (congrArg Obj.cls (Option.some.inj e2)).trans (congrArg Obj.cls e5)
    have e4 : Value.type "list" = Value.type "tuple" := e3
    revert e4; decide
  · exact hb p q
theorem m_led {α : Type} {a : α} {e b o : List α} : ∀ p ∈ a :: e, p ∈ a :: (e ++ b ++ o) := fun p hp => by
  rcases List.mem_cons.mp hp with h | h
  · rw [h]; exact List.mem_cons_self ..
  · exact List.mem_cons_of_mem _ (List.mem_append_left _ (List.mem_append_left _ h))
theorem m_base {α : Type} {a : α} {e b o : List α} : ∀ p ∈ b, p ∈ a :: (e ++ b ++ o) := fun p h => List.mem_cons_of_mem _ (List.mem_append_left _ (List.mem_append_right _ h))
theorem m_own {α : Type} {a : α} {e b o : List α} : ∀ p ∈ o, p ∈ a :: (e ++ b ++ o) := fun p h => List.mem_cons_of_mem _ (List.mem_append_right _ h)
theorem forest_built {h₀ h' : Heap} {L D₃ T dF : Addr} {m' m₀ : PySem.Str → Option Value} {xl x1 xF : Addr × Obj} {k₃ nt dk n : Nat} {ws : List Value} {a b : Value} {ta tb : Tr} {dex base base₀ own : List (Addr × Obj)} {s₁ : Shared} {tk : Nat} {x : PySem.Str} {stored : List PySem.Str}
    (G : FSt.Good ⟨dF, dk, ws ++ [a, b], dex⟩ base₀ n) (F : Fr h₀ L h' m') (N : News h₀ L h' ((D₃, W.listOf (ws ++ [Value.ref T]).toArray k₃) :: xl :: (T, tupObj a b nt) :: x1 :: xF :: (dex ++ base ++ own))) (l1 : ∀ p ∈ xl :: (T, tupObj a b nt) :: x1 :: xF :: (dex ++ base ++ own), p.1 < D₃) (hb : ∀ q ∈ base₀, q ∈ base)
    (TA : TrIn dex a ta) (oka : ta.ok) (TB : TrIn dex b tb) (okb : tb.ok) (da : ta.depth ≤ 1) (db : tb.depth ≤ 1) (ska : ta.sok) (skb : tb.sok) (hk : m' "forest" = some (.ref D₃)) (hr : ∀ z, z ≠ x → z ≠ "forest" → stored.contains z = false → m' z = m₀ z) :
    GrowEnd h₀ L FSt.led FSt.ps x stored m₀ (fun c => c.Good base₀ n) base own s₁ { s₁ with heap := h', toks := tk } := by
  have G' : FSt.Good ⟨D₃, k₃, ws ++ [Value.ref T], (T, tupObj a b nt) :: dex⟩ base₀ n := {
    len := by have := G.len; simp only [List.length_append, List.length_cons, List.length_nil] at this ⊢; omega
    tree := fun v hv => by
      rcases List.mem_append.mp hv with q | q
      · obtain ⟨t, h1, h2⟩ := G.tree v (List.mem_append_left _ q)
        exact ⟨t, TrIn.mono (fun p hp => List.mem_cons_of_mem _ hp) h1, h2⟩
      · rw [List.mem_singleton.mp q]
        refine ⟨.pair ta tb, ⟨T, a, b, nt, rfl, List.mem_cons_self .., TrIn.mono (fun p hp => List.mem_cons_of_mem _ hp) TA, TrIn.mono (fun p hp => List.mem_cons_of_mem _ hp) TB⟩, ⟨oka, okb⟩, ?_⟩
        exact ⟨by simp only [Tr.depth]; omega, ska, skb⟩
    off := fun q hq => Nat.ne_of_lt (l1 q (List.mem_cons_of_mem _ (List.mem_cons_of_mem _ (List.mem_cons_of_mem _ (List.mem_cons_of_mem _ (List.mem_append_left _ (List.mem_append_right _ (hb q hq))))))))
    tup := fun p hp => by
      rcases List.mem_cons.mp hp with h | h
      · exact ⟨a, b, nt, by rw [h]⟩
      · exact G.tup p h }
  refine grow_end ⟨D₃, k₃, ws ++ [Value.ref T], (T, tupObj a b nt) :: dex⟩ F N (fun p hp => ?_) (fun p hp => ?_) (fun p hp => ?_) G'.seqy (fun p hp => ?_) (fun z z1 z2 z3 => hr z z1 (z2 _ (List.mem_cons_self ..)) z3) G'
  · simp only [FSt.led, List.mem_cons, List.mem_append] at hp ⊢
    rcases hp with h | h | h
    · exact .inl h
    · exact .inr (.inr (.inl h))
    · exact .inr (.inr (.inr (.inr (.inr (.inl (.inl h))))))
  · simp only [List.mem_cons, List.mem_append]
    exact .inr (.inr (.inr (.inr (.inr (.inl (.inr hp))))))
  · simp only [List.mem_cons, List.mem_append]
    exact .inr (.inr (.inr (.inr (.inr (.inr hp)))))
  · rw [List.mem_singleton.mp hp]; exact hk
theorem kwl43 : True := by
  k_with "gr same!" => ((
  intro z z1 z2 z3
  have z2 := z2 _ (List.mem_cons_self ..)
  simp only [List.contains_cons, List.contains_nil, Bool.or_false, Bool.or_eq_false_iff, beq_eq_false_iff_ne, ne_eq] at z1 z2 z3
  first | (simp [kstB, FSt.ps, z1, z2, z3]; done) | (simp [kstB, FSt.ps, z1, z2]; done) | fail "gr same"))
  k_with "gr same2!" => ((
  intro z z1 z2 z3
  simp only [List.contains_cons, List.contains_nil, Bool.or_false, Bool.or_eq_false_iff, beq_eq_false_iff_ne, ne_eq] at z1 z2 z3
  first | (simp [kstB, FSt.ps, z1, z2, z3]; done) | (simp [kstB, FSt.ps, z1, z2]; done) | fail "gr same2"))
  trivial
theorem con_forest (w : World) (news : List (Addr × Obj)) (NA : Addr) (ns : List Value) (nn : Nat) (hNA : (NA, W.listOf ns.toArray nn) ∈ news) (hns : ∀ v ∈ ns, ∃ y t, v = .int y t ∧ 0 ≤ y ∧ y < 1080926208) (hlen : ns.length ≤ 100) :
    Con w none 241 6 news [.ref NA] (fun v n => ∃ c : FSt, v = .ref c.F ∧ n = c.led ++ news ∧ c.Good news 100) := by
  walk_at "my open"
  intro p loose mean mg mb dp un gd env outer A₀ base h₀ L m s Q E B F X N T he hk hdp hun hret
  k_call_by "enter" [("numbers", .ref NA)]
  k_with "call ref" => (first
    | (k_call_by "con" (con_text2 w _ y _ hy0 hy1); intro v9 n9 h9 tk9 F9 N9 r9; obtain ⟨rfl, x9, t9, rfl, hx9, so9⟩ := r9; (try dsimp only); (try k_fold))
    | (k_call_by "con" (con_depth w _ ta a (TrIn.mono (by intro p hp; simp [hp]) TA)); intro v9 n9 h9 tk9 F9 N9 r9; obtain ⟨rfl, t9, rfl⟩ := r9; (try dsimp only); (try k_fold))
    | (k_call_by "con" (con_depth w _ tb b (TrIn.mono (by intro p hp; simp [hp]) TB)); intro v9 n9 h9 tk9 F9 N9 r9; obtain ⟨rfl, t9, rfl⟩ := r9; (try dsimp only); (try k_fold)))
  k_with "pyIter ref" => (
    (rename Fr _ _ _ _ => lF'); (rename News _ _ _ _ => lN')
    first
    | ((rename IsRange _ _ _ _ _ _ _ _ => lR'); (refine Held.out ?_))
    | ((with_unfolding_all refine' grow_list (σ := FSt) (vs := ns) (nn := nn) FSt.led FSt.ps ["turn"] (fun i c => c.Good news i) ⟨_, 0, [], []⟩ news (by rfl) hNA lF' lN' ?kk ?kp ?kt ?kd)
       (case kk => (intro p hp; rw [List.mem_singleton.mp hp]; rfl))
       (case kp => exact ⟨Nat.zero_le _, fun v hv => (nomatch hv), fun q hq => Nat.ne_of_lt ((by assumption : ∀ p ∈ news, p.1 < _) q hq), fun p hp => (nomatch hp)⟩)
       (case' kt =>
         intro c i v I u h tk own hv hown hoff hG F1 N1
         obtain ⟨y, ty, rfl, hy0, hy1⟩ := hns v (List.mem_of_getElem? hv)
         obtain ⟨cF, ck, cvs, cex⟩ := c
         have hi := (List.getElem?_eq_some_iff.mp hv).1
         have hi2 : i ≤ 900 := by omega
         have hcl : cvs.length ≤ 1000 := Nat.le_trans hG.len (by omega)
         have N2 : News _ _ _ ((cF, W.listOf cvs.toArray ck) :: (cex ++ (news ++ own))) := kst_newsOf N1 (by intro p hp; show p ∈ (cF, W.listOf cvs.toArray ck) :: (cex ++ news) ++ own; rw [List.cons_append, List.append_assoc]; exact hp)
         have ap := off_led N2 hG.tup (fun p hp => (List.mem_append.mp hp).elim (hG.off p) fun hp => (hown p hp).elim (fun e => by rw [e]; exact (hoff (cF, W.listOf cvs.toArray ck) (List.mem_cons_self ..)).symm) (fun e => by rw [e]; exact hG.off _ hNA))
         have r0 : 0 ≤ (y.fdiv 324).fmod 3 := (by rw [Int.fmod_eq_emod_of_nonneg _ (by decide)]; omega)
         have r3 : (y.fdiv 324).fmod 3 < 3 := (by rw [Int.fmod_eq_emod_of_nonneg _ (by decide)]; omega)
         obtain ⟨r5, r6⟩ := getD3 ((y.fdiv 324).fmod 3).toNat
         clear N1 lF' lN' hv hi
         refine wpAny_hide fun Q9 hQ9 => ?_
         (try dsimp only)
         (try k_fold))
       (case' kd =>
         intro c u h tk hG F1 N1
         clear lF' lN'
         (try dsimp only)
         (try k_fold))))
  k_steps
  all_goals (try k_data)
  rotate_left
  refine Held.mk ?_
  (rename Fr _ _ _ _ => lF'); (rename News _ _ _ _ => lN')
  (rename IsRange _ _ _ _ _ _ _ _ => lR')
  (have lN2 : News _ _ _ ((cF, W.listOf (cvs ++ [_]).toArray _) :: (cex ++ (news ++ own))) := kst_newsOf lN' (fun p hp => List.mem_cons_of_mem _ hp))
  (with_unfolding_all refine' grow_range (σ := FSt) (n := (([1, 2, 0] : List Int).getD ((y.fdiv 324).fmod 3).toNat 0).toNat) FSt.led FSt.ps [] (fun _ c => c.Good news (i + 1)) ⟨cF, _, cvs ++ [_], cex⟩ (news ++ own) (by rfl) lR' ?rs ?rn lF' lN2 ?rk ?rp ?rt ?rd)
  (case rn => exact range_int (by assumption))
  (case rs => exact small_one (by omega) (by omega) (by omega) (by omega))
  (case rk => (intro p hp; rw [List.mem_singleton.mp hp]; rfl))
  (case rp => exact FSt.Good.app hG hx9 so9)
  (case' rt =>
    intro c2 j v2 I2 u2 h2 tk2 own2 hj hv2 hown2 hoff2 hG2 F2 N2
    obtain ⟨jt, rfl⟩ := hv2
    obtain ⟨dF, dk, dvs, dex⟩ := c2
    have N3 : News _ _ _ ((dF, W.listOf dvs.toArray dk) :: (dex ++ (news ++ own) ++ own2)) := N2
    clear N2 lF' lN' lR' lN2
    refine wpAny_hide fun Q8 hQ8 => ?_
    rcases split2 dvs with hlt | ⟨ws, a, b, rfl⟩
    (obtain ⟨n8, hn8⟩ : ∃ n, dvs.length = n := ⟨_, rfl⟩; rw [hn8] at hlt)
    rotate_left
    (obtain ⟨ta, TA, oka, da, ska⟩ := hG2.tree a (by simp); obtain ⟨tb, TB, okb, db, skb⟩ := hG2.tree b (by simp); (have hn8 : (ws ++ [a, b]).length = ws.length + 2 := by simp); (have hwl : ws.length ≤ 998 := by have := hG2.len; simp only [List.length_append, List.length_cons, List.length_nil] at this; have := hG.len; omega))
    all_goals (try dsimp only)
    all_goals (try k_fold))
  (case' rd =>
    intro c2 u2 h2 tk2 hG2 F2 N2
    clear lF' lN' lR' lN2
    (try dsimp only)
    (try k_fold))
  all_goals k_steps
  all_goals (try k_data)
  · refine hQ9 _ _ ?_
    dsimp only [GrowPost]
    exact grow_end c2 F2 N2 (fun p hp => List.mem_append_left _ hp) (fun p hp => List.mem_append_right _ (List.mem_append_left _ hp)) (fun p hp => List.mem_append_right _ (List.mem_append_right _ hp)) hG2.seqy (by intro p hp; rw [List.mem_singleton.mp hp]; rfl) (by walk_at "gr same") hG2
  · refine hQ8 _ _ ?_
    dsimp only [GrowPost]
    refine forest_built hG2 (by assumption) (by assumption) (by assumption) (fun q hq => List.mem_append_left _ hq) TA oka TB okb (by omega) (by omega) ska skb rfl (by walk_at "gr same2")
  · refine hQ8 _ _ ?_
    dsimp only [GrowPost]
    exact grow_end ⟨dF, dk, _, dex⟩ (by assumption) (by assumption) m_led m_base m_own hG2.seqy (by intro p hp; rw [List.mem_singleton.mp hp]; rfl) (by walk_at "gr same") hG2
  · refine hQ8 _ _ ?_
    dsimp only [GrowPost]
    exact grow_end ⟨dF, dk, _, dex⟩ (by assumption) (by assumption) m_led m_base m_own hG2.seqy (by intro p hp; rw [List.mem_singleton.mp hp]; rfl) (by walk_at "gr same") hG2
  · refine hret _ _ _ _ (by assumption) (by assumption) ⟨c, rfl, rfl, ⟨Nat.le_trans hG.len hlen, hG.tree, hG.off, hG.tup⟩⟩

-- lw0
/-- what a tree reads as -/
def Tr.pd : Tr → PyData
  | .leaf x => .str (ofL x)
  | .pair a b => .tuple [a.pd, b.pd]
theorem tr_reads {h₀ h : Heap} {L : Addr} {news : List (Addr × Obj)} (N : News h₀ L h news) : ∀ {t : Tr} {v : Value}, TrIn news v t → ∃ as, Reads h v t.pd as
  | .leaf x, v, ⟨tk, e⟩ => ⟨[], by subst e; exact Reads.str _ _⟩
  | .pair a b, v, ⟨ad, va, vb, n, e, hm, ha, hb⟩ => by
    obtain ⟨as, ra⟩ := tr_reads N ha
    obtain ⟨bs, rb⟩ := tr_reads N hb
    subst e
    exact ⟨_, reads_tuple_at (xs := [a.pd, b.pd]) (N _ hm).1 rfl rfl (.cons ra (.cons rb .nil))⟩
theorem tr_lay : ∀ {t : Tr}, t.sok → t.pd.canLay0 = true
  | .leaf x, h => by simp only [Tr.pd, PyData.canLay0]; exact h
  | .pair a b, h => by simp only [Tr.pd, PyData.canLay0, PyData.canLayAll0, tr_lay h.1, tr_lay h.2, Bool.and_self]
theorem tr_dep : ∀ {t : Tr}, t.pd.depth ≤ t.depth
  | .leaf x => by simp [Tr.pd, PyData.depth]
  | .pair a b => by
    have h1 := tr_dep (t := a)
    have h2 := tr_dep (t := b)
    simp only [Tr.pd, PyData.depth, PyData.depthAll, Tr.depth]
    omega
theorem trs_reads {h₀ h : Heap} {L : Addr} {news : List (Addr × Obj)} (N : News h₀ L h news) : ∀ {vs : List Value} {ts : List Tr}, vs.length = ts.length → (∀ (i : Nat) (v : Value) (t : Tr), vs[i]? = some v → ts[i]? = some t → TrIn news v t) → ∃ as, ReadsAll h vs (ts.map Tr.pd) as
  | [], [], _, _ => ⟨_, .nil⟩
  | [], _ :: _, e, _ => by cases e
  | _ :: _, [], e, _ => by cases e
  | v :: vs, t :: ts, e, k => by
    obtain ⟨as, ra⟩ := tr_reads N (k 0 v t rfl rfl)
    obtain ⟨bs, rb⟩ := trs_reads N (vs := vs) (ts := ts) (Nat.succ.inj e) fun i v t h1 h2 => k (i + 1) v t h1 h2
    exact ⟨_, .cons ra rb⟩
theorem trs_lay : ∀ {ts : List Tr}, (∀ t ∈ ts, t.sok) → PyData.canLayAll0 (ts.map Tr.pd) = true
  | [], _ => rfl
  | t :: ts, h => by simp only [List.map_cons, PyData.canLayAll0, tr_lay (h t (List.mem_cons_self ..)), trs_lay fun t q => h t (List.mem_cons_of_mem _ q), Bool.and_self]
theorem trs_dep : ∀ {ts : List Tr}, (∀ t ∈ ts, t.depth ≤ 2) → PyData.depthAll (ts.map Tr.pd) ≤ 2
  | [], _ => by simp [PyData.depthAll]
  | t :: ts, h => by
    have h1 := trs_dep (ts := ts) fun t q => h t (List.mem_cons_of_mem _ q)
    have h2 := h t (List.mem_cons_self ..)
    have h3 := tr_dep (t := t)
    simp only [List.map_cons, PyData.depthAll]
    omega
/-- two lists of the same trees are equal -/
theorem eq_trees {prog : Program} {w : World} {A : Around} {E : Value → Shared → Prop} {s : Shared} {h₀ : Heap} {L a b : Addr} {news : List (Addr × Obj)} {xs ys : List Value} {ka kb : Nat} {ts : List Tr} {Q : Value → Shared → Prop} (N : News h₀ L s.heap news) (ma : (a, W.listOf xs.toArray ka) ∈ news) (mb : (b, W.listOf ys.toArray kb) ∈ news)
    (lx : xs.length = ts.length) (hx : ∀ (i : Nat) (v : Value) (t : Tr), xs[i]? = some v → ts[i]? = some t → TrIn news v t) (ly : ys.length = ts.length) (hy : ∀ (i : Nat) (v : Value) (t : Tr), ys[i]? = some v → ts[i]? = some t → TrIn news v t)
    (hs : ∀ t ∈ ts, t.sok) (hd : ∀ t ∈ ts, t.depth ≤ 2) (hu : A.units + 64 < cLine) (h : Q (.bool true) s) : wpAny (model prog w) A (compareOp .Eq (.ref a) (.ref b)) Q E s := by
  obtain ⟨as, ra⟩ := trs_reads N lx hx
  obtain ⟨bs, rb⟩ := trs_reads N ly hy
  have lay : (PyData.list (ts.map Tr.pd)).canLay0 = true := by simp only [PyData.canLay0]; exact trs_lay hs
  have sh : PySem.SeqAt.shaped (.list (ts.map Tr.pd)) = true := by
    unfold PySem.SeqAt.shaped
    rw [lay, Bool.true_and]
    have := trs_dep hd
    simp only [PyData.depth]
    exact decide_eq_true (by omega)
  exact eq_dataH (reads_list_at (N _ ma).1 rfl rfl ra) (reads_list_at (N _ mb).1 rfl rfl rb) sh sh hu (by rw [PySem.SeqAt.eqv_refl _ lay]; exact h)
theorem pick_all {α β : Type} {P : α → β → Prop} : ∀ {vs : List α}, (∀ v ∈ vs, ∃ t, P v t) → ∃ ts : List β, vs.length = ts.length ∧ ∀ (i : Nat) (v : α) (t : β), vs[i]? = some v → ts[i]? = some t → P v t
  | [], _ => ⟨[], rfl, fun i v t h => by cases h⟩
  | v :: vs, h => by
    obtain ⟨t, ht⟩ := h v (List.mem_cons_self ..)
    obtain ⟨ts, l, k⟩ := pick_all (vs := vs) fun v q => h v (List.mem_cons_of_mem _ q)
    refine ⟨t :: ts, by simp [l], fun i v' t' h1 h2 => ?_⟩
    cases i with
    | zero => cases h1; cases h2; exact ht
    | succ i => exact k i v' t' h1 h2

-- lw1
section
variable {prog : Program} {w : World} {A : Around} {s : Shared} {g : Heap} {news : List (Addr × Obj)} {K : Frag} {p : Program} {loose : List PySem.Str} {mean : ExcName → Option Value} {mg mb : PySem.Str → Option Value}
    {R : Result → Shared → Prop} {name qual : PySem.Str} {params : Arguments} {body : List Stmt} {scope : Scope} {dV kV doc pm cdv ct oc : Value} {an od : Option Addr} {osl : Array (Option Value)} {f : Addr} {args : Args} {binds : List (PySem.Str × Value)}
/-- the claim's call of a def with cells, over a ground `g` that hides the ledger -/
theorem code_cellsTop (X : K.In g) (T : Top p loose mean mg mb g) (hgk : ∀ b o, g.get? b = some o → s.heap.get? b = some o) (hsz : g.objs.size = s.heap.objs.size) (N : ∀ q ∈ news, s.heap.get? q.1 = some q.2 ∧ g.get? q.1 = none)
    (ho : K.lookup f = some ⟨oc, od, .func (fnOf name qual params body scope dV kV doc pm an cdv ct), osl⟩) (hcd : codeIn K cdv qual = true) (hroom : A.depth < recursionLimit)
    (hbind : BindsTo s (fnOf name qual params body scope dV kV doc pm an cdv ct) args binds) (hkind : (binds.all fun y => scope.names.lookup y.1 == some .local || scope.names.lookup y.1 == some .cell) = true)
    (hnd : ((cellsFrom 0 scope.names []).map (·.1)).Nodup)
    (h : ∀ L' h₁ tk cells, Fr g L' h₁ (bindL (envOfC qual scope L' f cdv).kindOf binds fun _ => none) → News g L' h₁ (cells ++ news) →
      CellsAre (bindC (envOfC qual scope L' f cdv).kindOf binds fun _ => none) (cellsFrom (L' + 1) scope.names []) cells → (∀ q ∈ news, q.1 < L') →
      wpC (model prog w) (A.deeper (envOfC qual scope L' f cdv)) (execs body (envOfC qual scope L' f cdv))
        (fun fl s' => R (.ok (.ret (match fl with | .ret v => v | _ => .none))) s')
        (fun _ _ => False) { s with heap := h₁, toks := tk })
    (hco : scope.isCoroutine = false) (hgen : scope.isGenerator = false) (hk : scope.kind = .function) : codeC (model prog w) A (.call (.ref f) args) R s := by
  have lt : ∀ q ∈ news, q.1 < s.heap.objs.size := fun q hq => Heap.lt_size (N q hq).1
  refine codeC_call_function hroom ((X.keeps hgk) _ _ ho) rfl hco hgen rfl (codeRec_of (X.keeps hgk) hcd) (wpC_any (hbind _ _ _ _ ?_))
  refine wpAny_newFunctionEnv_cells hk (kindsX hkind _) fun env' he s' x => ?_
  subst he
  refine ⟨(T.nolimit.keeps hgk).keeps x.toInCall.keep, codeC_func ?_⟩
  obtain ⟨h₁, tk, rfl, _⟩ := x.done
  have hk₁ := x.toInCall.keep
  obtain ⟨cells, NC, Y⟩ := Cl.news (h₀ := s.heap) (Nat.le_refl _) fun n c hm => ⟨x.cell n c (lookup_of_mem_nodup (cellsFrom_names scope.names 0 (s.heap.objs.size + 1) [] [] rfl ▸ hnd) hm), x.above n c hm⟩
  refine wpC_mono (h s.heap.objs.size h₁ tk cells ⟨x.toInCall.ns, fun b o e => hk₁ b o (hgk b o e), Nat.le_of_eq hsz⟩ (fun p hp => ?_) Y lt) (fun fl s' hl => hl) fun _ _ y => y.elim
  rcases List.mem_append.mp hp with hp | hp
  · refine ⟨(NC p hp).1, (NC p hp).2.1, ?_⟩
    cases q : g.get? p.1 with
    | none => rfl
    | some o => have := hgk _ _ q; rw [(NC p hp).2.2] at this; cases this
  · exact ⟨hk₁ _ _ (N p hp).1, Nat.ne_of_lt (lt p hp), (N p hp).2⟩
end
section
variable {M : Model} {A : Around} {E : Value → Shared → Prop} {s : Shared} {env : Env}
theorem wpC_Compare1 {l : Expr} {op : CmpOp} {r : Expr} {pos : Pos} {Q : Value → Shared → Prop}
    (h : wpC M A (eval l env) (fun a s₁ => wpAny M A (eval r env) (fun b s₂ => wpAny M A (compareOp op a b) Q E s₂) E s₁) E s)
    (hm : behindInMarks op r = false := by with_unfolding_all rfl) : wpC M A (eval (.Compare l [op] [r] pos) env) Q E s := by
  rw [eval_Compare1, markedBehindIn_of_false hm]
  refine wpC_bind (wpC_mono h (fun a s₁ h₁ => ?_) fun _ _ x => x)
  refine wpC_abind (wpAny_holding (wpAny_mono h₁ (fun b s₂ h₂ => ?_) fun _ _ x => x))
  refine wpC_abind (wpAny_standAt (wpC_any ?_))
  exact fun Γ p hΓ => by rw [Sem.wp_operate]; exact h₂ Γ p hΓ
end
local macro_rules | `(tactic| k_call_by "enterTop" $t) => `(tactic| (
  refine wpC_call ?_
  k_dflt (refine' code_cellsTop (binds := $t) ?k1 ?k2 ?k3 ?k4 ?k5 ?k6 ?k7 ?k8 ?k9 ?kB ?kD ?_ ?c2 ?c3 ?c4; (case k1 => assumption); (case k2 => assumption); (case k3 => assumption); (case k4 => assumption); (case k5 => assumption); (case k6 => k_is); (case k7 => k_is); (case k8 => walk_at "my room"); (case k9 => exact BindsTo.of_eq rfl); (case kB => exact rfl); (case kD => decide +kernel); (case c2 => exact rfl); (case c3 => exact rfl); (case c4 => exact rfl); k_whole; intro L' h' tk' cells' F' N' Y' lL'; k_cells Y'; (try simp only [List.cons_append, List.nil_append] at N'); (try dsimp only); (try k_fold))))

-- lw1b
theorem add_comp {prog : Program} {w : World} {A : Around} {E : Value → Shared → Prop} {s : Shared} {h₀ : Heap} {L l D : Addr} {m : PySem.Str → Option Value} {news : List (Addr × Obj)} {vs ys : List Value} {ns₀ ns : List Int} {f : Int → Int} {k : Nat} {Q : Value → Shared → Prop} (F : Fr h₀ L s.heap m) (N : News h₀ L s.heap news) (nP : NewPlain s.heap news D ys.toArray)
    (cA : CarriedAll ys ((ns.filter fun _ => true).map fun a => PyData.int (f a))) (ha : (l, W.listOf vs.toArray k) ∈ news) (hi : IntsAre vs ns₀) (hz : ns₀.length + ns.length ≤ 1000)
    (h : ∀ D₂ us h', Fr h₀ L h' m → News h₀ L h' ((D₂, W.listOf (List.toArray us) 0) :: news) → (∀ p ∈ news, p.1 < D₂) → IntsAre us (ns₀ ++ ns.map f) → Q (.ref D₂) { s with heap := h' }) :
    wpAny (model prog w) A (binaryOp .Add (.ref l) (.ref D)) Q E s := by
  have hf : (ns.filter fun _ => true) = ns := List.filter_eq_self.mpr fun _ _ => rfl
  rw [hf] at cA
  have iD := CarriedAll.intsOf (f := f) cA
  obtain ⟨⟨kD, eD⟩, _⟩ := nP
  refine kmk_add_ints F N (News.isList N ha) ⟨_, eD, rfl, kD, rfl⟩ hi iD (fun D us h' F' N' l1 i => h D us h' F' N' l1 i) ?_
  rw [List.length_map, sizeLine_eq]; omega
theorem kwl44 : True := by
  k_with "binaryOp Add ref ref!" => ((k_here; (with_reducible show wpAny _ _ (binaryOp _ (Value.ref _) (Value.ref _)) _ _ _); k_dflt (refine' add_comp ?hqF ?hqN ?hqp ?hqc ?hqa ?hqi ?hqz ?_; (case hqF => assumption); (case hqN => assumption); (case hqp => assumption); (case hqc => assumption); (case hqa => k_mem); (case hqi => exact .cons _ _ .nil); (case hqz => (simp only [List.length_cons, List.length_nil]; omega)); k_whole); intro D' us' h' F' N' l1 hI'; (try k_lt l1); (try k_sweep)))
  trivial
theorem take3_len (ns : List Int) : (ns.take 3).length ≤ 3 := by rw [List.length_take]; omega
theorem ints_vals {vs : List Value} {ns : List Int} (h : IntsAre vs ns) {P : Int → Prop} (hp : ∀ n ∈ ns, P n) : ∀ v ∈ vs, ∃ y t, v = .int y t ∧ P y := by
  induction h with
  | nil => exact fun v hv => nomatch hv
  | cons n t _ ih =>
    intro v hv
    rcases List.mem_cons.mp hv with e | e
    · exact ⟨n, t, e, hp n (List.mem_cons_self ..)⟩
    · exact ih (fun m hm => hp m (List.mem_cons_of_mem _ hm)) v e
theorem nums_ok (ns : List Int) : ∀ n ∈ [20] ++ (ns.take 3).map (fun a => a.fmod 1080926208) ++ [651, 493], 0 ≤ n ∧ n < 1080926208 := fun n hn => by
  simp only [List.mem_append, List.mem_cons, List.not_mem_nil, or_false, List.mem_map] at hn
  rcases hn with (rfl | ⟨a, _, rfl⟩) | rfl | rfl
  · decide
  · rw [Int.fmod_eq_emod_of_nonneg _ (by decide)]; omega
  · decide
  · decide

-- lw1c
theorem store_C2 {M : Model} {A : Around} {E : Value → Shared → Prop} {s : Shared} {h₀ : Heap} {L a : Addr} {m : PySem.Str → Option Value} {cn : PySem.Str} {cs : Scope} {ccd : Value} {cl : List (PySem.Str × Addr)}
    {x : PySem.Str} {v : Value} {pre post : List (Addr × Obj)} {c : Addr} {o : Obj} {v₀ : Option Value} {Q : Unit → Shared → Prop} (F : Fr h₀ L s.heap m) (N : News h₀ L s.heap (pre ++ (c, o) :: post)) (hd : o.data = .cell v₀) (h1 : ∀ p ∈ pre, p.1 ≠ c) (h2 : ∀ p ∈ post, p.1 ≠ c)
    (h : ∀ h' o', Fr h₀ L h' m → News h₀ L h' (pre ++ (c, o') :: post) → o'.data = .cell (some v) → Q () { s with heap := h' })
    (hc : cl.lookup x = some c := by rfl) (hk : cs.kind = .function := by rfl) (hx : (envX cn cs L a ccd cl).kindOf x = some .cell := by rfl) : wpAny M A (storeName (envX cn cs L a ccd cl) x v) Q E s := by
  have hmem := N (c, o) (List.mem_append_right _ (List.mem_cons_self ..))
  refine wpAny_storeName_cell hk hx hc ⟨o, hmem.1, hd⟩ fun h' hv hs => ?_
  obtain ⟨o', ho', hd'⟩ := hv
  exact h h' o' (F.change hs hmem.2.1 hmem.2.2) (N.setAt h1 h2 hs ho') hd'
theorem cex_off {h₀ h : Heap} {L q : Addr} {o : Obj} {cex led : List (Addr × Obj)} (N : News h₀ L h led) (hm : (q, o) ∈ led) (ho : ∀ a b n, o ≠ tupObj a b n) (hs : ∀ p ∈ cex, p ∈ led) (ht : ∀ p ∈ cex, ∃ a b n, p.2 = tupObj a b n) : ∀ p ∈ cex, p.1 ≠ q := fun p hp e => by
  obtain ⟨a, b, n, e2⟩ := ht p hp
  have h1 := (N p (hs p hp)).1
  rw [e, (N _ hm).1] at h1
  exact ho a b n ((Option.some.inj h1).trans e2)
theorem cell_ne {o : Obj} {v : Option Value} (h : o.data = .cell v) : ∀ a b n, o ≠ tupObj a b n := fun a b n e => by
  rw [e] at h; cases h
abbrev rngObj (x left step : Int) : Obj := { cls := .type "range_iterator", dict := none, data := .fields #[rawInt x, rawInt left, rawInt step], slots := #[] }
theorem iterP_range {w : World} {A : Around} {I T : Addr} {oT : Obj} {n : Nat} (hh : A.handled = none) : IterP w A I T (fun i o => o = rngObj (i : Int) ((n : Int) - i) 1) oT n (fun i v => i < n ∧ ∃ t, v = .int (i : Int) t) where
  item := fun i s oI Q hi hI st _ k => by
    subst st
    refine wpAny_pyNext_range_item (x := (i : Int)) (left := (n : Int) - i) (step := 1) hI (by omega) fun h' hit hs => k _ h' (s.toks + 1) _ ⟨hi, _, rfl⟩ hit ?_ hs
    show rngObj _ _ _ = rngObj _ _ _
    rw [show ((i + 1 : Nat) : Int) = (i : Int) + 1 by omega, show (n : Int) - ((i : Int) + 1) = (n : Int) - i - 1 by omega]
  done := fun s oI Q hI st _ k => by
    subst st
    exact wpAny_pyNext_range_end hh (x := (n : Int)) (left := (n : Int) - n) (step := 1) hI (by omega) k
  self := fun s oI Q hI st k => by
    subst st
    exact wpAny_pyIter_rangeiter hI k
/-- a character of the blanks, at any place -/
theorem blank_item {prog : Program} {w : World} {A : Around} {E : Value → Shared → Prop} {s : Shared} {value slice : PySem.Expr} {t u : Tok} {i : Int} {Q : Value → Shared → Prop} (h0 : 0 ≤ i) (h1 : i < 29)
    (h : ∀ (c : Nat) (t' : Tok) (k : Nat), c ∈ BLl → Q (.str (ofL [c]) t') { s with toks := k })
    (hs : subscripted slice false (.str (ofL BLl) t) (.int i u) = operate [.str (ofL BLl) t, .int i u] (getItem (.str (ofL BLl) t) (.int i u)) := by with_unfolding_all rfl)
    (ht : ∀ r, letTemporaryGo value (.str (ofL BLl) t) r = pure () := by intro _; with_unfolding_all rfl) :
    wpAny (model prog w) A (subscriptTail value slice (.str (ofL BLl) t) (.int i u)) Q E s := by
  have hl : BLl.length = 29 := rfl
  have hn : i.toNat < BLl.length := by rw [hl]; omega
  refine s_item (x := BLl) (c := BLl[i.toNat]) rfl (by rw [hl]; decide) ?_ (h _ _ _ (List.getElem_mem hn)) hs ht
  have : seqIndex? i BLl.length = some i.toNat := seqIndex_of h0 (by rw [hl]; exact h1)
  rw [this]
  exact List.getElem?_eq_getElem hn
theorem blank_mul {prog : Program} {w : World} {A : Around} {E : Value → Shared → Prop} {s : Shared} {t u : Tok} {c : Nat} {n : Int} {Q : Value → Shared → Prop} (hc : c ∈ BLl) (h0 : 0 ≤ n) (h2 : n < 3)
    (h : ∀ (x : List Nat) (t' : Tok) (k : Nat), x.length ≤ 2 → (∀ d ∈ x, d ∈ BLl) → Q (.str (ofL x) t') { s with toks := k }) :
    wpAny (model prog w) A (binaryOp .Mult (.str (ofL [c]) t) (.int n u)) Q E s := by
  have hok : MulOk (ofL [c]) n := mulOk_of 16 1048576 (by rw [ofL_length]; exact Nat.le_of_ble_eq_true rfl) (by omega) (by omega) (by decide) (by decide)
  refine SB.mul hok fun t' k => ?_
  have hn : n = 0 ∨ n = 1 ∨ n = 2 := by omega
  rcases hn with rfl | rfl | rfl
  · rw [show Txt.mul (ofL [c]) 0 = ofL [] from rfl]; exact h [] t' k (by decide) (fun d hd => nomatch hd)
  · rw [show Txt.mul (ofL [c]) 1 = ofL [c] from rfl]; exact h [c] t' k (Nat.le_of_ble_eq_true rfl) (fun d hd => by rw [List.mem_singleton.mp hd]; exact hc)
  · rw [show Txt.mul (ofL [c]) 2 = ofL [c, c] from rfl]
    exact h [c, c] t' k (Nat.le_of_ble_eq_true rfl) (fun d hd => by
      simp only [List.mem_cons, List.not_mem_nil, or_false, or_self] at hd
      rw [hd]; exact hc)

-- q1
theorem kwl45 : True := by
  k_with "subscriptTail Call BinOp str int!" => ((k_here; (with_reducible show wpAny _ _ (subscriptTail _ _ (Value.str (ofL BLl) _) (Value.int _ _)) _ _ _); k_dflt (refine' blank_item ?hqa ?hqb ?_ ?hqs ?hqt; (case hqa => walk_at "fmod 29"); (case hqb => walk_at "fmod 29"); (case hqs => with_unfolding_all rfl); (case hqt => (intro _; with_unfolding_all rfl)); k_whole); intro c9 t9 k9 hc9))
  k_with "fmod 29!" => ((rw [Int.fmod_eq_emod_of_nonneg _ (by decide)]; omega))
  k_with "binaryOp Mult str int!" => ((k_here; (with_reducible show wpAny _ _ (binaryOp Operator.Mult (Value.str (ofL [_]) _) (Value.int _ _)) _ _ _); k_dflt (refine' blank_mul ?hqc ?hqa ?hqb ?_; (case hqc => assumption); (case hqa => walk_at "fmod 29"); (case hqb => walk_at "fmod 29"); k_whole); intro x9 t9 k9 hx9 hb9))
  trivial
theorem no61 (h : Bool) (hh : h = true) (x : List Nat) : 61 ∉ quo h x := fun hm => by
  obtain ⟨c, -, hc⟩ := List.mem_flatMap.mp hm
  unfold qCh at hc
  split at hc
  · revert hc; decide
  · rename_i h1
    have hc61 : c ≠ 61 := fun e => h1 ⟨e, hh⟩
    split at hc
    · simp only [List.mem_cons, List.not_mem_nil, or_false] at hc
      rcases hc with q | q | q
      · exact absurd q (by decide)
      · exact hc61 q.symm
      · exact absurd q (by decide)
    · exact hc61 (List.mem_singleton.mp hc).symm
theorem takeW_all {p : Nat → Bool} {g r : List Nat} (h : ∀ c ∈ g, p c = true) (hr : ∀ c, r.head? = some c → p c = false) : (g ++ r).takeWhile p = g := by
  induction g with
  | nil =>
    cases r with
    | nil => rfl
    | cons c r => rw [List.nil_append, List.takeWhile_cons, if_neg (by rw [hr c rfl]; decide)]
  | cons a g ih =>
    rw [List.cons_append, List.takeWhile_cons, if_pos (h a (List.mem_cons_self ..)), ih fun c hc => h c (List.mem_cons_of_mem _ hc)]
theorem strip_mid {g1 g2 m : List Nat} (h1 : ∀ c ∈ g1, Unicode.isSpace c = true) (h2 : ∀ c ∈ g2, Unicode.isSpace c = true) (hm : m ≠ []) (ha : ∀ c, m.head? = some c → Unicode.isSpace c = false) (hb : ∀ c, m.getLast? = some c → Unicode.isSpace c = false) :
    Txt.strip (ofL (g1 ++ m ++ g2)) = ofL m := by
  have e0 : (ofL (g1 ++ m ++ g2)).cps.toList = g1 ++ (m ++ g2) := by simp [ofL]
  have hd : ∀ c, (m ++ g2).head? = some c → Unicode.isSpace c = false := fun c hc => by
    cases m with
    | nil => exact absurd rfl hm
    | cons a r => exact ha c hc
  have elo : stripLo Unicode.isSpace true (ofL (g1 ++ m ++ g2)) = g1.length := by
    unfold stripLo
    rw [if_pos rfl, e0, takeW_all h1 hd]
  have ehi : stripHi Unicode.isSpace true (ofL (g1 ++ m ++ g2)) g1.length = g1.length + m.length := by
    unfold stripHi
    rw [if_pos rfl, e0, List.drop_left, List.reverse_append, takeW_all (fun c hc => h2 c (List.mem_reverse.mp hc)) (fun c hc => hb c (by rw [← hc]; simp)), ofL_length]
    simp only [List.length_append, List.length_reverse]
    omega
  have es : PySem.stripped Unicode.isSpace true true (ofL (g1 ++ m ++ g2)) = ofL m := by
    unfold PySem.stripped
    rw [elo, ehi, strSub_ofL]
    congr 1
    rw [show g1 ++ m ++ g2 = (g1 ++ m) ++ g2 from rfl, List.take_left' (by simp), List.drop_left]
  show Txt.stripBy Unicode.isSpace true true (ofL (g1 ++ m ++ g2)) = ofL m
  unfold Txt.stripBy
  split
  · rename_i hs
    rw [← es]
    unfold stripSame at hs
    simp only [Bool.and_eq_true, beq_iff_eq] at hs
    rw [elo, ehi] at hs
    have l1 : g1 = [] := List.length_eq_zero_iff.mp hs.1
    have l2 : g2 = [] := by
      have := hs.2
      rw [ofL_length] at this
      simp only [List.length_append] at this
      exact List.length_eq_zero_iff.mp (by omega)
    subst l1 l2
    rw [es]; simp
  · exact es
theorem strip_all {g : List Nat} (h : ∀ c ∈ g, Unicode.isSpace c = true) : Txt.strip (ofL g) = ofL [] := by
  have e0 : (ofL g).cps.toList = g := by simp [ofL]
  have elo : stripLo Unicode.isSpace true (ofL g) = g.length := by
    unfold stripLo
    have := takeW_all (r := []) h (fun c hc => by cases hc)
    rw [List.append_nil] at this
    rw [if_pos rfl, e0, this]
  have ehi : stripHi Unicode.isSpace true (ofL g) g.length = g.length := by
    unfold stripHi
    rw [if_pos rfl, e0, List.drop_length, ofL_length]; simp
  have es : PySem.stripped Unicode.isSpace true true (ofL g) = ofL [] := by
    unfold PySem.stripped
    rw [elo, ehi, strSub_ofL]
    congr 1
    simp
  show Txt.stripBy Unicode.isSpace true true (ofL g) = ofL []
  unfold Txt.stripBy
  split
  · rename_i hs
    unfold stripSame at hs
    simp only [Bool.and_eq_true, beq_iff_eq] at hs
    rw [elo] at hs
    rw [List.length_eq_zero_iff.mp hs.1]
  · exact es
theorem bl_space : ∀ c ∈ BLl, Unicode.isSpace c = true := by decide +kernel
theorem rng_bl {a n c : Nat} (h : ∀ k < n, a + k ∈ BLl) (h1 : a ≤ c) (h2 : c < a + n) : c ∈ BLl := by
  have := h (c - a) (by omega)
  rwa [show a + (c - a) = c by omega] at this
theorem peel {c a b : Nat} {r : Bool} (h : (if c < a then false else (decide (c ≤ b) || r)) = true) : (a ≤ c ∧ c < b + 1) ∨ r = true := by
  split at h
  · cases h
  · rw [Bool.or_eq_true, decide_eq_true_eq] at h
    exact h.imp (fun h => ⟨by omega, by omega⟩) _root_.id
theorem peel1 {c a b : Nat} (h : (if c < a then false else decide (c ≤ b)) = true) : a ≤ c ∧ c < b + 1 := by
  split at h
  · cases h
  · rw [decide_eq_true_eq] at h
    exact ⟨by omega, by omega⟩
theorem space_bl (c : Nat) (h : Unicode.isSpace c = true) : c ∈ BLl := by
  unfold Unicode.isSpace UnicodeData.space UnicodeData.space0 at h
  simp only [Unicode.within] at h
  rcases peel h with ⟨h1, h2⟩ | h
  · exact rng_bl (a := 9) (n := 5) (by decide +kernel) h1 h2
  rcases peel h with ⟨h1, h2⟩ | h
  · exact rng_bl (a := 28) (n := 5) (by decide +kernel) h1 h2
  rcases peel h with ⟨h1, h2⟩ | h
  · exact rng_bl (a := 133) (n := 1) (by decide +kernel) h1 h2
  rcases peel h with ⟨h1, h2⟩ | h
  · exact rng_bl (a := 160) (n := 1) (by decide +kernel) h1 h2
  rcases peel h with ⟨h1, h2⟩ | h
  · exact rng_bl (a := 5760) (n := 1) (by decide +kernel) h1 h2
  rcases peel h with ⟨h1, h2⟩ | h
  · exact rng_bl (a := 8192) (n := 11) (by decide +kernel) h1 h2
  rcases peel h with ⟨h1, h2⟩ | h
  · exact rng_bl (a := 8232) (n := 2) (by decide +kernel) h1 h2
  rcases peel h with ⟨h1, h2⟩ | h
  · exact rng_bl (a := 8239) (n := 1) (by decide +kernel) h1 h2
  rcases peel h with ⟨h1, h2⟩ | h
  · exact rng_bl (a := 8287) (n := 1) (by decide +kernel) h1 h2
  obtain ⟨h1, h2⟩ := peel1 (a := 12288) (b := 12288) (by simpa using h)
  exact rng_bl (a := 12288) (n := 1) (by decide +kernel) h1 h2
theorem bl_not {c : Nat} (h : c ∉ BLl) : Unicode.isSpace c = false := by
  cases q : Unicode.isSpace c with
  | false => rfl
  | true => exact absurd (space_bl c q) h
theorem qCh_head (h : Bool) (c : Nat) : ∃ a r, qCh h c = a :: r ∧ Unicode.isSpace a = false := by
  unfold qCh
  split
  · exact ⟨91, _, rfl, by decide +kernel⟩
  · split
    · exact ⟨91, _, rfl, by decide +kernel⟩
    · rename_i h2
      exact ⟨c, [], rfl, bl_not fun q => h2 (.inr q)⟩
theorem qCh_last (h : Bool) (c : Nat) : ∃ r a, qCh h c = r ++ [a] ∧ Unicode.isSpace a = false := by
  unfold qCh
  split
  · exact ⟨[91, 33, 0, 45, 60, 62, 45, 1114111], 93, rfl, by decide +kernel⟩
  · split
    · exact ⟨[91, c], 93, rfl, by decide +kernel⟩
    · rename_i h2
      exact ⟨[], c, rfl, bl_not fun q => h2 (.inr q)⟩
theorem strip_quo {g1 g2 : List Nat} (h : Bool) (x : List Nat) (h1 : ∀ c ∈ g1, c ∈ BLl) (h2 : ∀ c ∈ g2, c ∈ BLl) : Txt.strip (ofL (g1 ++ quo h x ++ g2)) = ofL (quo h x) := by
  have s1 : ∀ c ∈ g1, Unicode.isSpace c = true := fun c hc => bl_space c (h1 c hc)
  have s2 : ∀ c ∈ g2, Unicode.isSpace c = true := fun c hc => bl_space c (h2 c hc)
  rcases List.eq_nil_or_concat x with rfl | ⟨r, c, rfl⟩
  · rw [quo_nil, List.append_nil]
    exact strip_all fun c hc => (List.mem_append.mp hc).elim (s1 c) (s2 c)
  · refine strip_mid s1 s2 ?_ (fun a ha => ?_) (fun a ha => ?_)
    · rw [List.concat_eq_append, quo_snoc]
      obtain ⟨a, r', e, -⟩ := qCh_head h c
      rw [e]; simp
    · cases hr : r.concat c with
      | nil => simp at hr
      | cons d r2 =>
        rw [hr] at ha
        obtain ⟨a', r', e, hs⟩ := qCh_head h d
        have : quo h (d :: r2) = qCh h d ++ quo h r2 := by simp [quo]
        rw [this, e] at ha
        simp at ha
        rw [← ha]; exact hs
    · rw [List.concat_eq_append, quo_snoc] at ha
      obtain ⟨r', a', e, hs⟩ := qCh_last h c
      rw [e, ← List.append_assoc, List.getLast?_concat] at ha
      rw [← Option.some.inj ha]; exact hs

-- q2
theorem rd_wr : ∀ {t : Tr} {d : Nat} {g0 g1 g2 g3 g4 : List Nat}, t.ok → t.depth ≤ d → t.depth ≤ 2 → (∀ c ∈ g0, c ∈ BLl) → (∀ c ∈ g1, c ∈ BLl) → (∀ c ∈ g2, c ∈ BLl) → (∀ c ∈ g3, c ∈ BLl) → (∀ c ∈ g4, c ∈ BLl) → g0.length ≤ 2 → g1.length ≤ 2 → g2.length ≤ 2 → g3.length ≤ 2 → g4.length ≤ 2 → Rd (wr t g0 g1 g2 g3 g4) d t
  | .leaf x, d, _, _, _, _, _, h, _, _, _, _, _, _, _, _, _, _, _, _ => .leaf (no61 true rfl x) (Nat.le_trans (show x.length ≤ 2 from h) (by decide))
  | .pair a b, 0, _, _, _, _, _, _, hd, _, _, _, _, _, _, _, _, _, _, _ => by simp only [Tr.depth] at hd; omega
  | .pair a b, d + 1, g0, g1, g2, g3, g4, hok, hd, h2, b0, b1, b2, b3, b4, l0, l1, l2, l3, l4 => by
    simp only [Tr.depth] at hd h2
    have hwa : (wr a g1 g2 g3 g4 g0).length ≤ 333 := Nat.le_trans (wr_len hok.1 l1 l2 l3 l4 l0) (bd_mono (by omega : a.depth ≤ 1))
    have hwb : (wr b g2 g3 g4 g0 g1).length ≤ 333 := Nat.le_trans (wr_len hok.2 l2 l3 l4 l0 l1) (bd_mono (by omega : b.depth ≤ 1))
    have e : wr (.pair a b) g0 g1 g2 g3 g4 = (g0 ++ quo true (wr a g1 g2 g3 g4 g0) ++ g1) ++ 61 :: (g2 ++ quo false (wr b g2 g3 g4 g0 g1) ++ g3) := by
      show g0 ++ quo true (wr a g1 g2 g3 g4 g0) ++ g1 ++ [61] ++ g2 ++ quo false (wr b g2 g3 g4 g0 g1) ++ g3 = _
      simp
    rw [e]
    have q1 := quo_len true (wr a g1 g2 g3 g4 g0)
    have q2 := quo_len false (wr b g2 g3 g4 g0 g1)
    refine .pair (fun hm => ?_) (by simp only [List.length_append, List.length_cons]; omega) (strip_quo true _ b0 b1) (strip_quo false _ b2 b3) (by omega) (by omega) (rd_wr hok.1 (by omega) (by omega) b1 b2 b3 b4 b0 l1 l2 l3 l4 l0) (rd_wr hok.2 (by omega) (by omega) b2 b3 b4 b0 b1 l2 l3 l4 l0 l1)
    rcases List.mem_append.mp hm with hm | hm
    · rcases List.mem_append.mp hm with hm | hm
      · exact absurd (b0 _ hm) (by decide)
      · exact no61 true rfl _ hm
    · exact absurd (b1 _ hm) (by decide)

-- lw1d
section
variable {w : World} {A A₀ : Around} {s : Shared} {base h₀ : Heap} {env : Env} {outer : List Env} {L : Addr} {m : PySem.Str → Option Value} {news : List (Addr × Obj)} {K : Frag} {p : Program} {loose : List PySem.Str} {mean : ExcName → Option Value} {mg mb : PySem.Str → Option Value}
  {elt iter : Expr} {x : PySem.Str} {px pos : Pos} {scope : Scope} {cl : List (PySem.Str × Addr)} {Q : Value → Shared → Prop} {vals : List Value} {St : Nat → Obj → Prop} {PE : Nat → Value → List (Addr × Obj) → Prop}
theorem wpC_compP2 {n : Nat} {P : Nat → Value → Prop} {ps₀ : Array Value} (_F : Fr h₀ L s.heap m) (_N : News h₀ L s.heap ((64, tabObj ps₀) :: news)) (hclos : closureFor scope env = pure cl) (hkind : scope.kind = .function) (hnames : ∀ y ∈ scope.names, y.2 = .local → scope.names.lookup y.1 = some .local) (hcell : ∀ y ∈ scope.names, y.2 ≠ .cell) (hx : scope.names.lookup x = some .local)
    (hs : ∀ v, foldedSetIterable iter env v = pure v) (B : Below A₀ base outer h₀) (XB : K.In base) (TB : Top p loose mean mg mb base) (D₀ : KtsDicts (outer.filterMap (·.frame)) h₀) (hz : n ≤ 16384)
    (mono : ∀ j y (l l' : List (Addr × Obj)), (∀ q ∈ l, q ∈ l') → PE j y l → PE j y l')
    (h : wpAny (model PySem.Challenge.pw_ij0084_01 w) A (eval iter env) (fun xv s₁ => wpAny (model PySem.Challenge.pw_ij0084_01 w) A (pyIter xv) (fun it s₂ => ∃ I T oI oT h tk ps, TabOk ps ∧ it = .ref I ∧ s₂ = { s with heap := h, toks := tk } ∧ Fr h₀ L h m ∧ News h₀ L h ((I, oI) :: (64, tabObj ps) :: news) ∧ (T, oT) ∈ news ∧ St 0 oI ∧ IterP w A I T St oT n P ∧ (∀ q ∈ (64, tabObj ps) :: news, q.1 < I)) NoE s₁) NoE s)
    (helt : ∀ j v C D I oC oD oI g s' mC extra ps, TabOk ps → P j v → KtsTurn (outer.filterMap (·.frame)) h₀ g → Fr g L s'.heap m → News g L s'.heap ((C, oC) :: (D, oD) :: (I, oI) :: (extra ++ (64, tabObj ps) :: news)) → (∀ q ∈ (C, oC) :: (D, oD) :: (I, oI) :: extra, q.1 ≠ 64) → Below A₀ base outer g → K.In g → Top p loose mean mg mb g → KtsDicts (outer.filterMap (·.frame)) g →
      s'.heap.Ns C mC → mC x = some v → (AllBare s.gens → AllBare s'.gens) →
      wpC (model PySem.Challenge.pw_ij0084_01 w) A (eval elt (compEnvC scope cl C env)) (fun y s₃ => ∃ g' h' tk gs extra' ps', TabOk ps' ∧ s₃ = { s' with heap := h', toks := tk, gens := gs } ∧ (AllBare s'.gens → AllBare gs) ∧ KtsTurn (outer.filterMap (·.frame)) g g' ∧ Fr g' L h' m ∧
        News g' L h' (extra' ++ (C, oC) :: (D, oD) :: (I, oI) :: (extra ++ (64, tabObj ps') :: news)) ∧ PE j y extra' ∧ (∀ q ∈ extra', ∀ r ∈ (C, oC) :: (D, oD) :: (I, oI) :: (extra ++ (64, tabObj ps') :: news), r.1 < q.1)) NoE s')
    (ret : ∀ D vs k g h' tk gs extra ps, TabOk ps → KtsTurn (outer.filterMap (·.frame)) h₀ g → Fr g L h' m → News g L h' ((D, plainL vs k) :: (extra ++ (64, tabObj ps) :: news)) → Below A₀ base outer g → K.In g → Top p loose mean mg mb g → KtsDicts (outer.filterMap (·.frame)) g →
      vs.length = n → (∀ j y, vs[j]? = some y → PE j y extra) → (∀ q ∈ extra, ∀ r ∈ (64, tabObj ps) :: news, r.1 < q.1) → (∀ q ∈ (64, tabObj ps) :: news, q.1 < D) → (AllBare s.gens → AllBare gs) → Q (.ref D) { s with heap := h', toks := tk, gens := gs }) :
    wpC (model PySem.Challenge.pw_ij0084_01 w) A (eval (.ListComp elt [⟨.Name x px, iter, [], 0⟩] scope pos) env) Q NoE s :=
  wpC_compP hclos hkind hnames hcell hx hs B XB TB D₀ hz mono h helt ret
end
section
variable {M : Model} {A : Around} {E : Value → Shared → Prop} {s : Shared} {scope : Scope} {cl : List (PySem.Str × Addr)} {C : Addr} {env : Env} {x : PySem.Str} {pos : Pos} {v : Value} {Q : Value → Shared → Prop}
theorem nameC_O {h₀ : Heap} {L : Addr} {oC : Obj} {mC : PySem.Str → Option Value} {news : List (Addr × Obj)} (N : News h₀ L s.heap news) (hm : (C, oC) ∈ news) (k : ∀ h : Heap, h.get? C = some oC → h.Ns C mC) (hv : mC x = some v) (h : Q v s) (hk : (compEnvC scope cl C env).scope.kind = .function) (hx : (compEnvC scope cl C env).kindOf x = some .local) (hd : (x == ("__debug__" : PySem.Str)) = false) :
    wpAny M A (eval (.Name x pos) (compEnvC scope cl C env)) Q E s := wpAny_Name (wpAny_loadName_local hk hx (k _ (N _ hm).1) hv h) hd
theorem ns_obj {h : Heap} {C : Addr} {oC : Obj} {mC : PySem.Str → Option Value} (x : h.Ns C mC) (e : h.get? C = some oC) : ∀ h' : Heap, h'.get? C = some oC → h'.Ns C mC := fun h' e' => by
  obtain ⟨o, es, ep, e1, r⟩ := x
  rw [e] at e1
  cases e1
  exact ⟨oC, es, ep, e', r⟩
end
theorem kwl46 : True := by
  k_with "eval Name!" => ((k_here; (with_reducible show wpAny _ _ (eval (Expr.Name _ _) (compEnvC _ _ _ _)) _ _ _); (k_dflt (refine' nameC_O ?hqk1 ?hqk2 ?hqk3 ?hqk4 ?_ ?hqk ?hqx ?hqd; (case hqk => exact rfl); (case hqx => exact rfl); (case hqd => decide); (case hqk3 => assumption); (case hqk1 => k_asm); (case hqk2 => k_mem); (case hqk4 => assumption); k_whole))))
  trivial
theorem blank_at {i : Int} (h0 : 0 ≤ i) (h1 : i < 29) : ∃ c, c ∈ BLl ∧ Txt.item (ofL BLl) i = ofL [c] := by
  have hl : BLl.length = 29 := rfl
  have hn : i.toNat < BLl.length := by rw [hl]; omega
  refine ⟨BLl[i.toNat], List.getElem_mem hn, ?_⟩
  have e : Txt.charAt (ofL BLl) i = some BLl[i.toNat] := by
    unfold Txt.charAt
    rw [ofL_length, seqIndex_of h0 (by rw [hl]; exact h1), Option.bind_some]
    show BLl.toArray[i.toNat]? = _
    rw [List.getElem?_toArray]
    exact List.getElem?_eq_getElem hn
  unfold Txt.item
  rw [e]; rfl
theorem blank_mul2 {prog : Program} {w : World} {A : Around} {E : Value → Shared → Prop} {s : Shared} {t u : Tok} {i n : Int} {Q : Value → Shared → Prop} (hi0 : 0 ≤ i) (hi1 : i < 29) (h0 : 0 ≤ n) (h2 : n < 3)
    (h : ∀ (x : List Nat) (t' : Tok) (k : Nat), x.length ≤ 2 → (∀ d ∈ x, d ∈ BLl) → Q (.str (ofL x) t') { s with toks := k }) :
    wpAny (model prog w) A (binaryOp .Mult (.str (Txt.item (ofL BLl) i) t) (.int n u)) Q E s := by
  obtain ⟨c, hc, e⟩ := blank_at hi0 hi1
  rw [e]
  exact blank_mul hc h0 h2 h
theorem fm_lo (a : Int) {b : Int} (hb : 0 < b) : 0 ≤ a.fmod b := by rw [Int.fmod_eq_emod_of_nonneg _ (Int.le_of_lt hb)]; exact Int.emod_nonneg _ (by omega)
theorem fm_hi (a : Int) {b : Int} (hb : 0 < b) : a.fmod b < b := by rw [Int.fmod_eq_emod_of_nonneg _ (Int.le_of_lt hb)]; exact Int.emod_lt_of_pos _ hb
theorem mem_dup {α : Type} {a b : α} {l : List α} : ∀ p ∈ [] ++ a :: l, p ∈ a :: b :: l := fun p hp => by
  rcases List.mem_cons.mp hp with q | q
  · rw [q]; exact List.mem_cons_self ..
  · exact List.mem_cons_of_mem _ (List.mem_cons_of_mem _ q)
theorem pow3 {prog : Program} {w : World} {A : Around} {E : Value → Shared → Prop} {s : Shared} {t u : Tok} {n : Nat} {Q : Value → Shared → Prop} (h2 : n < 5) (h : ∀ (P : Int) (t' : Tok), 0 < P → P ≤ 81 → Q (.int P t') { s with toks := s.toks + 1 }) :
    wpAny (model prog w) A (binaryOp .Pow (.int 3 t) (.int (n : Int) u)) Q E s :=
  pow_int_small (by omega) (by omega) (by decide) (h _ _ (Int.pow_pos (by decide)) (by
    rw [Int.toNat_natCast]
    have hn : n = 0 ∨ n = 1 ∨ n = 2 ∨ n = 3 ∨ n = 4 := by omega
    rcases hn with rfl | rfl | rfl | rfl | rfl <;> decide))
theorem kwl47 : True := by
  k_with "binaryOp Pow int int!" => ((k_here; (with_reducible show wpAny _ _ (binaryOp Operator.Pow (Value.int 3 _) (Value.int _ _)) _ _ _); k_dflt (refine' pow3 ?hqa ?_; (case hqa => assumption); k_whole); intro P9 t9 hP9 hQ9))
  trivial
/-- the five gaps -/
theorem five_of {vs : List Value} {P : Value → List Nat → Prop} (hl : vs.length = 5) (h : ∀ (j : Nat) (y : Value), vs[j]? = some y → ∃ x t, y = .str (ofL x) t ∧ P y x) :
    ∃ g0 g1 g2 g3 g4 t0 t1 t2 t3 t4, vs = [.str (ofL g0) t0, .str (ofL g1) t1, .str (ofL g2) t2, .str (ofL g3) t3, .str (ofL g4) t4] ∧ P (.str (ofL g0) t0) g0 ∧ P (.str (ofL g1) t1) g1 ∧ P (.str (ofL g2) t2) g2 ∧ P (.str (ofL g3) t3) g3 ∧ P (.str (ofL g4) t4) g4 := by
  match vs, hl with
  | [a, b, c, d, e], _ =>
    obtain ⟨g0, t0, rfl, p0⟩ := h 0 a rfl
    obtain ⟨g1, t1, rfl, p1⟩ := h 1 b rfl
    obtain ⟨g2, t2, rfl, p2⟩ := h 2 c rfl
    obtain ⟨g3, t3, rfl, p3⟩ := h 3 d rfl
    obtain ⟨g4, t4, rfl, p4⟩ := h 4 e rfl
    exact ⟨g0, g1, g2, g3, g4, t0, t1, t2, t3, t4, rfl, p0, p1, p2, p3, p4⟩
theorem kwl48 : True := by
  k_with "compareOp Eq ref ref!" => ((refine Held.out ?_))
  trivial
theorem mem_w1 {α : Type} {z a b c : α} {l l' : List α} : ∀ p ∈ z :: a :: b :: c :: (l ++ l'), p ∈ a :: b :: c :: (l ++ z :: l') := mem_c64

-- lw2
theorem con_law (w : World) {p : Program} {loose : List PySem.Str} {mean : ExcName → Option Value} {mg mb : PySem.Str → Option Value} {g : Heap} {s : Shared} (T : Top p loose mean mg mb g) (hgk : ∀ b o, g.get? b = some o → s.heap.get? b = some o) (hsz : g.objs.size = s.heap.objs.size)
    (N : ∀ q ∈ [((64 : Addr), tabObj #[])], s.heap.get? q.1 = some q.2 ∧ g.get? q.1 = none) (a : Addr) (xs : List Value) (ns : List Int) (hl : g.IsList a xs.toArray) (hi : IntsAre xs ns) (hz : ns.length ≤ 63) (Q : Value → Shared → Prop) (E : Value → Shared → Prop) (dp un : Nat) (gd : Option (List PySem.Code)) (hdp : dp + 30 < recursionLimit) (hun : un + 8 * 30 < cLine)
    (hR : ∀ h' tk gs ps, (∀ b o, g.get? b = some o → h'.get? b = some o) → h'.get? 64 = some (tabObj ps) → (AllBare s.gens → AllBare gs) → Q (.bool true) { s with heap := h', toks := tk, gens := gs }) :
    (K w.params).In g → wpC (model PySem.Challenge.pw_ij0084_01 w) { handled := none, depth := dp, frames := some [], guards := gd, units := un } (call (.ref 279) [.ref a]) Q E s := by
  k_with_none
  k_with "my room!" => ((
  (try simp only [depth_under_make, depth_under_kw, depth_in1, depth_deeper, depth_caller, units_in1, units_deeper, Around.mark_units, units_caller]); (try dsimp only); omega))
  k_with "my open!" => ((refine con_row ?_; unfold Con; k_fill; intro _))
  k_with "my same!" => ((
  intro z z1 z2 z3
  simp only [List.forall_mem_cons, List.not_mem_nil, false_implies, implies_true, and_true, ne_eq] at z2
  simp only [List.contains_cons, List.contains_nil, Bool.or_false, Bool.or_eq_false_iff, beq_eq_false_iff_ne, ne_eq] at z3
  first | (simp [kstB, z1, z2, z3]; done) | (simp [kstB, z1, z2]; done) | fail "my same"))
  k_with "InvEndN!" => ((refine Held.out ?_))
  k_with "KgEnd!" => ((refine Held.out ?_))
  k_with "KswEnd!" => ((refine Held.out ?_))
  k_with "storeName!" => (((first | (with_reducible refine tok_vs fun k => ?_) | (with_reducible refine tok_vi fun k => ?_)); walk_at "storeName"))
  k_with "storeName!" => (((with_reducible refine tok_st fun k => ?_); walk_at "storeName"))
  k_with "call ref!" => ((k_here; (with_reducible show wpAny _ _ (call (Value.ref 220) _) _ _ _); k_call_by "con" (con_blanks _ _ _); intro v9 n9 h9 tk9 F9 N9 r9; obtain ⟨e9, t9, e8⟩ := r9; subst e9 e8; (try dsimp only); (try k_fold)))
  k_with "my inv!" => (((rename News _ _ _ _ => nE'); (try simp only [List.push_toArray] at nE')))
  k_with "subscriptTail!" => ((k_here; (with_reducible show wpAny _ _ (subscriptTail _ _ (Value.ref _) (Value.int _ _)) _ _ _); k_dflt (refine' item_at ?hqk1 ?hqk2 ?hqk3 ?hqk4 ?hqk5 ?_ ?hqk6; (case hqk1 => k_asm); (case hqk2 => k_mem); (case hqk3 => decide); (case hqk4 => decide); (case hqk5 => exact rfl); (case hqk6 => with_unfolding_all rfl); k_whole)))
  k_with "my lit!" => (first
  | with_reducible exact rfl | with_reducible exact l_empty | with_reducible exact l_eq | with_reducible exact l_star | with_reducible exact l_quest | with_reducible exact l_lb | with_reducible exact l_rb | with_reducible exact l_bang | with_reducible exact l_dash
  | with_reducible exact l_hat | with_reducible exact l_bs | with_reducible exact l_bslb | with_reducible exact l_bsbs | with_reducible exact l_bsdash | with_reducible exact l_bar7 | with_reducible exact l_dot | with_reducible exact l_wrap | with_reducible exact l_pre | with_reducible exact l_suf | with_reducible assumption | fail "my lit")
  k_with "my size!" => (first | (simp only [List.length_append, List.length_cons, List.length_nil]; omega) | omega | fail "my size")
  k_with "my cut!" => (first
  | (exfalso; (first | contradiction | omega | (simp at *; done) | (simp_all; done)); done)
  | skip)
  k_with "compareOp Eq str str!" => ((k_here; k_dflt (refine' s_eq_ ?hqe1 ?hqe2 ?_ ?_; (case hqe1 => walk_at "my lit"); (case hqe2 => walk_at "my lit"); k_whole); all_goals (intro hE9; first | (exfalso; revert hE9; first | decide | (simp; done) | (simp; omega) | (intro h9; exact absurd h9 (by with_reducible assumption)) | (intro h9; exact absurd (by with_reducible assumption) h9)) | ((try simp only [List.cons.injEq, and_true] at hE9); (try dsimp only)))))
  k_with "compareOp NotEq str str!" => ((k_here; k_dflt (refine' s_ne_ ?hqe1 ?hqe2 ?_ ?_; (case hqe1 => walk_at "my lit"); (case hqe2 => walk_at "my lit"); k_whole); all_goals (intro hE9; first | (exfalso; revert hE9; first | decide | (simp; done) | (simp; omega) | (intro h9; exact absurd h9 (by with_reducible assumption)) | (intro h9; exact absurd (by with_reducible assumption) h9)) | ((try simp only [List.cons.injEq, and_true] at hE9); (try dsimp only)))))
  k_with "compareOp In str str!" => ((k_here; k_dflt (refine' s_in ?hqe1 ?hqe2 ?_ ?_; (case hqe1 => walk_at "my lit"); (case hqe2 => walk_at "my lit"); k_whole); all_goals (intro hE9; first | (exfalso; revert hE9; first | decide | (simp; done) | (simp; omega) | (intro h9; exact absurd h9 (by with_reducible assumption)) | (intro h9; exact absurd (by with_reducible assumption) h9)) | (try dsimp only))))
  k_with "compareOp NotIn str str!" => ((k_here; k_dflt (refine' s_notin ?hqe1 ?hqe2 ?_ ?_; (case hqe1 => walk_at "my lit"); (case hqe2 => walk_at "my lit"); k_whole); all_goals (intro hE9; first | (exfalso; revert hE9; first | decide | (simp; done) | (simp; omega) | (intro h9; exact absurd h9 (by with_reducible assumption)) | (intro h9; exact absurd (by with_reducible assumption) h9)) | (try dsimp only))))
  k_with "binaryOp Add str str!" => ((k_here; k_dflt (refine' s_add ?hqe1 ?hqe2 ?hqz ?_; (case hqe1 => walk_at "my lit"); (case hqe2 => walk_at "my lit"); (case hqz => walk_at "my size"); k_whole); intro _ _; (try dsimp only [List.cons_append, List.nil_append])))
  k_with "inplaceOp Add str str!" => ((k_here; k_dflt (refine' s_iadd ?hqe1 ?hqe2 ?hqz ?_; (case hqe1 => walk_at "my lit"); (case hqe2 => walk_at "my lit"); (case hqz => walk_at "my size"); k_whole); intro _ _; (try dsimp only [List.cons_append, List.nil_append])))
  k_with "call builtin:len!" => ((k_here; (with_reducible show wpAny _ _ (call (Value.builtin "len") [Value.str _ _]) _ _ _); k_dflt (refine' s_len ?hqe1 ?hqz ?hqn ?_; (case hqe1 => walk_at "my lit"); (case hqz => walk_at "my size"); (case hqn => first | with_reducible assumption | (simp only [List.length_cons, List.length_nil, Nat.reduceAdd]; exact rfl) | exact rfl); k_whole)))
  k_with "call builtin:ord!" => ((k_here; k_dflt (refine' s_ord ?hqe1 ?_; (case hqe1 => walk_at "my lit"); k_whole)))
  k_with "subscriptTail!" => ((k_here; (with_reducible show wpAny _ _ (subscriptTail _ _ (Value.str _ _) (Value.int _ _)) _ _ _); k_dflt (refine' s_item ?hqe1 ?hqz ?hqc ?_ ?hqs ?hqt; (case hqe1 => walk_at "my lit"); (case hqz => walk_at "my size"); (case hqc => first | with_reducible assumption | exact rfl); (case hqs => with_unfolding_all rfl); (case hqt => (intro _; with_unfolding_all rfl)); k_whole)))
  k_with "subscriptTail!" => ((k_here; (with_reducible show wpAny _ _ (subscriptTail _ (Expr.Slice (some _) (some _) none _) (Value.str _ _) (Value.ref _)) _ _ _); k_dflt (refine' s_slice_ss (s := ⟨_, _, _, _, _⟩) ?hqe1 ?hqF ?hqN ?hqc ?hqz ?_ ?hqs ?hqt; (case hqe1 => walk_at "my lit"); (case hqF => k_asm); (case hqN => k_asm); (case hqc => with_reducible assumption); (case hqz => walk_at "my size"); (case hqs => with_unfolding_all rfl); (case hqt => (intro _; with_unfolding_all rfl)); k_whole); intro _ _ _ _ _; (try k_sweep)))
  k_with "subscriptTail!" => ((k_here; (with_reducible show wpAny _ _ (subscriptTail _ (Expr.Slice (some _) none none _) (Value.str _ _) (Value.ref _)) _ _ _); k_dflt (refine' s_slice_sn (s := ⟨_, _, _, _, _⟩) ?hqe1 ?hqF ?hqN ?hqc ?hqz ?_ ?hqs ?hqt; (case hqe1 => walk_at "my lit"); (case hqF => k_asm); (case hqN => k_asm); (case hqc => with_reducible assumption); (case hqz => walk_at "my size"); (case hqs => with_unfolding_all rfl); (case hqt => (intro _; with_unfolding_all rfl)); k_whole); intro _ _ _ _ _; (try k_sweep)))
  k_with "subscriptTail!" => ((k_here; (with_reducible show wpAny _ _ (subscriptTail _ (Expr.Slice none (some _) none _) (Value.str _ _) (Value.ref _)) _ _ _); k_dflt (refine' s_slice_ns (s := ⟨_, _, _, _, _⟩) ?hqe1 ?hqF ?hqN ?hqc ?hqz ?_ ?hqs ?hqt; (case hqe1 => walk_at "my lit"); (case hqF => k_asm); (case hqN => k_asm); (case hqc => with_reducible assumption); (case hqz => walk_at "my size"); (case hqs => with_unfolding_all rfl); (case hqt => (intro _; with_unfolding_all rfl)); k_whole); intro _ _ _ _ _; (try k_sweep)))
  k_with "subscriptTail Name Slice str ref!" => (walk_at "subscriptTail")
  k_with "subscriptTail Name Constant str int!" => (walk_at "subscriptTail")
  k_with "subscriptTail Name Name str int!" => (walk_at "subscriptTail")
  k_with "subscriptTail Name UnaryOp str int!" => (walk_at "subscriptTail")
  k_with "my openH!" => ((refine con_row ?_; unfold ConH; k_fill; intro _))
  k_with "my hd!" => ((with_reducible first | exact HdC.none | assumption | (refine' HdC.here ?hqq1 ?hqq2 ?hqq3; (case hqq2 => assumption); (case hqq3 => assumption); (case hqq1 => assumption))))
  k_with "getMethod str!" => ((k_here; (with_reducible refine m_tr ?_)))
  k_with "call builtin:str.translate!" => ((k_here; k_dflt (refine' call_trK ?hqk1 ?hqk2 ?hqk3 ?hqk4 ?_; (case hqk1 => k_asm); (case hqk2 => k_asm); (case hqk3 => k_asm); (case hqk4 => assumption); intro t' h' k' F' N'; (try k_sweep))))
  k_with "call type:object!" => ((k_here; k_dflt (refine' call_objK ?hqk1 ?hqk2 ?_; (case hqk1 => k_asm); (case hqk2 => k_asm); k_whole); intro a' h' tk' F' N' l1; (try k_lt l1); (try k_sweep)))
  k_with "getAttr ref!" => ((k_here; k_dflt (refine' getAttr_appK ?hqk1 ?hqk2 ?hqk3 ?_; (case hqk1 => k_asm); (case hqk2 => k_asm); (case hqk3 => k_mem); k_whole); intro a' h' tk' F' N' l1; (try k_lt l1); (try k_sweep)))
  k_with "call ref!" => ((k_here; k_dflt (refine' call_boundK ?hqk1 ?hqk2 ?hqkb ?hqk3 ?_ ?hqz; (case hqk1 => k_asm); (case hqk2 => k_asm); (case hqkb => k_mem); (case hqk3 => k_upd); (case hqz => size_fits); k_whole); intro h' F' N'; (try k_sweep)))
  k_with "unpackItems ref!" => ((k_here; (with_reducible show wpAny _ _ (unpackItems (Value.ref _) _ none) _ _ _); k_dflt (refine' unpackK ?hqk1 ?hqk2 ?hqkh ?hqk3 ?hqk4 ?_; (case hqk1 => k_asm); (case hqk2 => k_asm); (case hqkh => assumption); (case hqk3 => k_mem); (case hqk4 => exact rfl); k_whole); intro h' F' N'; (try k_sweep)))
  k_with "subscriptTail!" => ((k_here; (with_reducible show wpAny _ _ (subscriptTail _ _ (Value.ref _) (Value.int _ _)) _ _ _); k_dflt (refine' item_at ?hqk1 ?hqk2 ?hqk3 ?hqk4 ?hqk5 ?_ ?hqk6; (case hqk1 => k_asm); (case hqk2 => k_mem); (case hqk3 => omega); (case hqk4 => omega); (case hqk5 => with_reducible assumption); (case hqk6 => with_unfolding_all rfl); k_whole)))
  k_with "WhlIf!" => ((first | (refine WhlIf.yes (decide_eq_true (by assumption)) ?_) | (refine WhlIf.no (decide_eq_false (by assumption)) ?_)))
  k_with "call builtin:str.join!" => ((k_here; (with_reducible show wpAny _ _ (call (Value.builtin _) [Value.str _ _, Value.ref _]) _ _ _); k_dflt (refine' join_listK ?hqk1 ?hqk2 ?hqk3 ?hqk4 ?hqk5 ?_; (case hqk1 => k_asm); (case hqk2 => k_mem); (case hqk3 => with_reducible assumption); (case hqk4 => decide +kernel); (case hqk5 => with_reducible assumption); k_whole); intro _ _))
  k_with "compareOp IsNot!" => ((k_here; (with_reducible show wpAny _ _ (compareOp CmpOp.IsNot (Value.str _ _) (Value.ref _)) _ _ _); refine wpAny_isNot_other (by rfl) (by intro x; cases x) ?_))
  k_with "callWith ref!" => ((k_here; (with_reducible show wpAny _ _ (callWith _ (Value.ref _) _ (backTo _ (starEach (_ :: _) _)) []) _ _ _); k_dflt (refine' callWith_app ?hqkfbN ?hqkfbM ?_; (case hqkfbN => k_asm); (case hqkfbM => k_mem); k_whole)))
  k_with "And!" => (((with_reducible show BAt _ _ _ ∧ _); refine ⟨bat_of (by assumption) (by k_mem), ?_⟩))
  k_with "my cat!" => (first | with_reducible exact empty_ofL | walk_at "my lit" | ((with_reducible apply cat_ofL); (focus walk_at "my cat"); (focus walk_at "my cat")))
  k_with "formatField str!" => ((k_here; k_dflt (refine' fieldK ?hqe1 ?hqz ?_; (case hqe1 => walk_at "my lit"); (case hqz => walk_at "my size"); k_whole); intro _ _))
  k_with "joinParts!" => ((k_here; (first | (with_reducible show wpAny _ _ (joinParts _ []) _ _ _) | (with_reducible show wpAny _ _ (joinParts _ (evalEach [] _)) _ _ _)); k_dflt (refine' jp_nil ?hqe1 ?hqz ?_; (case hqe1 => walk_at "my cat"); (case hqz => walk_at "my size"); k_whole)))
  k_with "le!" => ((k_here; (with_reducible show PySem.Str.length (_ ++ _) ≤ sizeLine); (refine' le_cat ?hqe1 ?hqe2 ?hqz; (case hqe1 => walk_at "my cat"); (case hqe2 => walk_at "my cat"); (case hqz => walk_at "my size"))))
  k_with "call builtin:str.join!" => ((k_here; (with_reducible show wpAny _ _ (call (Value.builtin _) [Value.str _ _, Value.ref _]) _ _ _); k_dflt (refine' joinE_K ?hqk1 ?hqk2 ?hqk3 ?hqk5 ?_; (case hqk1 => k_asm); (case hqk2 => k_mem); (case hqk3 => with_reducible assumption); (case hqk5 => with_reducible assumption); k_whole); intro _ _))
  k_with "BAt!" => (exact bat_of (by assumption) (by k_mem))
  k_with "my samew!" => ((
  intro z z2 z3
  simp only [List.forall_mem_cons, List.not_mem_nil, false_implies, implies_true, and_true, ne_eq] at z2
  simp only [List.contains_cons, List.contains_nil, Bool.or_false, Bool.or_eq_false_iff, beq_eq_false_iff_ne, ne_eq] at z3
  first | rfl | (simp [kstB, z2, z3]; done) | (simp [kstB, z2]; done) | fail "my samew"))
  k_with "my at!" => (first
  | exact at_off (k := 0) (by with_reducible assumption) (by omega) rfl
  | exact at_off (k := 1) (by with_reducible assumption) (by omega) rfl
  | exact at_off (k := 2) (by with_reducible assumption) (by omega) rfl
  | exact at_off (k := 3) (by with_reducible assumption) (by omega) rfl
  | exact at_off (k := 4) (by with_reducible assumption) (by omega) rfl
  | exact at_off (k := 5) (by with_reducible assumption) (by omega) rfl
  | exact at_off (k := 6) (by with_reducible assumption) (by omega) rfl
  | exact at_off (k := 7) (by with_reducible assumption) (by omega) rfl
  | exact at_off (k := 8) (by with_reducible assumption) (by omega) rfl)
  k_with "subscriptTail!" => ((k_here; (with_reducible show wpAny _ _ (subscriptTail _ _ (Value.str _ _) (Value.int _ _)) _ _ _); k_dflt (refine' s_item ?hqe1 ?hqz ?hqc ?_ ?hqs ?hqt; (case hqe1 => walk_at "my lit"); (case hqz => walk_at "my size"); (case hqc => walk_at "my at"); (case hqs => with_unfolding_all rfl); (case hqt => (intro _; with_unfolding_all rfl)); k_whole)))
  k_with "compareOp Lt int int!" => ((k_here; first | refine lt_yes (by omega) ?_ | refine lt_no (by omega) ?_))
  k_with "compareOp GtE int int!" => ((k_here; first | refine ge_yes (by omega) ?_ | refine ge_no (by omega) ?_))
  k_with "my cutout!" => (first
  | exact slice_off 1 2 (by with_reducible assumption) (by omega) (by omega) (by omega) (by decide) rfl
  | exact slice_off 1 8 (by with_reducible assumption) (by omega) (by omega) (by omega) (by decide) rfl
  | exact slice_off 1 3 (by with_reducible assumption) (by omega) (by omega) (by omega) (by decide) rfl
  | exact slice_off 4 6 (by with_reducible assumption) (by omega) (by omega) (by omega) (by decide) rfl
  | exact slice_off 7 8 (by with_reducible assumption) (by omega) (by omega) (by omega) (by decide) rfl)
  k_with "subscriptTail!" => ((k_here; (with_reducible show wpAny _ _ (subscriptTail _ (Expr.Slice (some _) (some _) none _) (Value.str _ _) (Value.ref _)) _ _ _); k_dflt (refine' s_slice_ss (s := ⟨_, _, _, _, _⟩) ?hqe1 ?hqF ?hqN ?hqc ?hqz ?_ ?hqs ?hqt; (case hqe1 => walk_at "my lit"); (case hqF => k_asm); (case hqN => k_asm); (case hqc => walk_at "my cutout"); (case hqz => walk_at "my size"); (case hqs => with_unfolding_all rfl); (case hqt => (intro _; with_unfolding_all rfl)); k_whole); intro _ _ _ _ _; (try simp only [List.drop, List.take, List.cons_append, List.nil_append, Nat.reduceSub]); (try k_sweep)))
  k_with "call builtin:str.replace!" => ((k_here; k_dflt (refine' replace_none ?hqe1 ?hqe2 ?hqhd ?_; (case hqe1 => walk_at "my lit"); (case hqe2 => walk_at "my lit"); (case hqhd => first | decide | (simp only [List.mem_cons, List.not_mem_nil, or_false]; omega)); k_whole)))
  k_with "getMethod ref!" => ((k_here; (with_reducible show wpAny _ _ (getMethod (Value.ref 43) (PySem.Str.ofString "sub") _) _ _ _); k_dflt (refine' m_sub ?hqk1 ?hqk2 ?_; (case hqk1 => k_asm); (case hqk2 => k_asm); k_whole)))
  k_with "call builtin:re.Pattern.sub!" => ((k_here; k_dflt (refine' call_subK ?hqk1 ?hqk2 ?hqk3 ?hqk4 ?hqk5 ?hqe1 ?hqhx ?hqz1 ?hqz2 ?_; (case hqk1 => k_asm); (case hqk2 => k_asm); (case hqk3 => k_asm); (case hqk4 => k_mem); (case hqk5 => with_reducible assumption); (case hqe1 => walk_at "my lit"); (case hqhx => with_reducible assumption); (case hqz1 => walk_at "my size"); (case hqz2 => exact Nat.zero_lt_succ _); k_whole); intro h' t' k' F' N'; (try k_sweep)))
  k_with "eval Lambda!" => ((k_here; kn_here; k_dflt (refine' kla_eval ?hqd0 ?_; (case hqd0 => exact rfl)); (k_dflt (refine' lam_any ?hqF ?hqN ?hqT ?hqC ?hqcd ?hqU ?hqt ?hqcl ?_; (case hqF => k_asm); (case hqN => k_asm); (case hqT => k_asm); (case hqcd => exact rfl); (case hqC => kn_code); (case hqU => k_updF); (case hqt => with_reducible assumption); (case hqcl => exact rfl); k_whole); intro f' fo' ps' h' tk' ht' hf' F' N' l1; (try dsimp only at N'); (try k_lt l1))))
  k_with "truthy str!" => ((k_here; k_dflt (refine' truthyK ?hqe1 ?hqz ?_; (case hqe1 => walk_at "my lit"); (case hqz => walk_at "my size"); k_whole); intro _))
  k_with "my openG!" => ((refine con_row ?_; unfold ConG; k_fill; intro _))
  k_with "KgPost!" => ((dsimp only [KgPost]))
  k_with "call builtin:str.find!" => ((k_here; first
  | (refine' find_here 3 8 ?hqe1 ?hqe2 ?hqhx ?hqhi ?hqhj ?hqhb ?hqhab ?hqhc ?_; (case hqe1 => walk_at "my lit"); (case hqe2 => walk_at "my lit"); (case hqhx => with_reducible assumption); (case hqhi => omega); (case hqhj => omega); (case hqhb => omega); (case hqhab => decide); (case hqhc => exact rfl))
  | (refine' find_here 6 8 ?hqe1 ?hqe2 ?hqhx ?hqhi ?hqhj ?hqhb ?hqhab ?hqhc ?_; (case hqe1 => walk_at "my lit"); (case hqe2 => walk_at "my lit"); (case hqhx => with_reducible assumption); (case hqhi => omega); (case hqhj => omega); (case hqhb => omega); (case hqhab => decide); (case hqhc => exact rfl))
  | (refine' find_past 9 8 ?hqe1 ?hqhx ?hqhi ?hqhj ?hqhb ?hqhab ?_; (case hqe1 => walk_at "my lit"); (case hqhx => with_reducible assumption); (case hqhi => omega); (case hqhj => omega); (case hqhb => omega); (case hqhab => decide))))
  k_with "subscriptTail Name Name ref int!" => (walk_at "subscriptTail")
  k_with "subscriptTail Name BinOp ref int!" => (walk_at "subscriptTail")
  k_with "getMethod type:tuple!" => ((k_here; k_dflt (refine' tnewK ?hqk1 ?hqk2 ?_; (case hqk1 => k_asm); (case hqk2 => k_asm); k_whole)))
  k_with "getAttr type:str!" => ((k_here; k_dflt (refine' stripK ?hqk1 ?hqk2 ?_; (case hqk1 => k_asm); (case hqk2 => k_asm); k_whole)))
  k_with "call builtin:tuple.__new__!" => ((k_here; (k_dflt (refine' tnew_pair ?hqk1 ?hqk2 ?hqk3 ?hqk4 ?hqk5 ?_; (case hqk1 => k_asm); (case hqk2 => k_asm); (case hqk3 => k_asm); (case hqk4 => k_mem); (case hqk5 => (first | decide | (simp only [List.length_cons, List.length_nil]; omega))); k_whole))))
  k_with "call type:map!" => ((k_here; (k_dflt (refine' call_mapK ?hqk1 ?hqk2 ?hqk3 ?_; (case hqk1 => k_asm); (case hqk2 => k_asm); (case hqk3 => k_mem); k_whole; intro M' T' it' h' F' N' l1' l2' l3'; (try dsimp only)))))
  k_with "call builtin:str.split!" => ((k_here; (k_dflt (refine' call_split ?hqe1 ?hqk1 ?hqk2 ?hqk3 ?hqk4 ?_; (case hqe1 => walk_at "my lit"); (case hqk1 => k_asm); (case hqk2 => k_asm); (case hqk3 => assumption); (case hqk4 => assumption); k_whole; intro vs' D' h' tk' hvs' F' N' l'; (try dsimp only); (try k_fold)))))
  k_with "getMethod ref!" => ((k_here; (k_dflt (refine' getM_parse ?hqk1 ?hqk2 ?hqk3 ?_; (case hqk1 => k_asm); (case hqk2 => k_asm); (case hqk3 => k_asm); k_whole; intro q' h' F' N' l'; (try dsimp only); (try k_fold)))))
  k_with "call builtin:isinstance!" => ((k_here; (k_dflt (refine' isi_pair ?hqk1 ?hqk2 ?hqk3 ?hqk4 ?_; (case hqk1 => k_asm); (case hqk2 => k_asm); (case hqk3 => k_mem); (case hqk4 => k_asm); k_whole))))
  k_with "eval Name!" => ((k_here; (with_reducible show wpAny _ _ (eval (Expr.Name _ _) (compEnvC _ _ _ _)) _ _ _); first
  | (k_dflt (refine' nameG_K ?hqk1 ?hqk2 ?hqk3 ?hqk4 ?_ ?hqg ?hqk ?hqx ?hqd; (case hqk1 => k_asm); (case hqk2 => k_asm); (case hqk3 => exact topRead_of (by assumption)); (case hqk4 => k_is); (case hqg => exact rfl); (case hqk => exact rfl); (case hqx => exact rfl); (case hqd => decide); k_whole))
  | (k_dflt (refine' nameC_L ?hqk1 ?hqk2 ?_ ?hqk ?hqx ?hqd; (case hqk => exact rfl); (case hqx => exact rfl); (case hqd => decide); (case hqk1 => assumption); (case hqk2 => assumption); k_whole))
  | (k_dflt (refine' nameC_C ?hqk1 ?hqk2 ?hqk3 ?_ ?hqc ?hqk ?hqx ?hqd; (case hqk => exact rfl); (case hqx => exact rfl); (case hqd => decide); (case hqc => exact rfl); (case hqk1 => k_asm); (case hqk2 => k_mem); (case hqk3 => assumption); k_whole))))
  k_with "call builtin:list.append!" => ((k_here; (with_reducible show wpAny _ _ (call (Value.builtin "list.append") [Value.ref _, _]) _ _ _); k_dflt (refine' app_grow ?hqF ?hqN ?hqap ?hqz ?_; (case hqF => k_asm); (case hqN => k_asm); (case hqap => assumption); (case hqz => assumption); k_whole); intro h' k' F' N'))
  k_with "call builtin:len!" => ((k_here; (with_reducible show wpAny _ _ (call (Value.builtin "len") [Value.ref _]) _ _ _); k_dflt (refine' len_grow ?hqN ?hqm ?hqe ?hqz ?_; (case hqN => k_asm); (case hqm => k_mem); (case hqe => assumption); (case hqz => omega); k_whole)))
  k_with "subscriptTail Name Slice ref ref!" => ((k_here; (with_reducible show wpAny _ _ (subscriptTail _ (PySem.Expr.Slice none _ none _) (Value.ref _) (Value.ref _)) _ _ _); k_dflt (refine' but2 (vl := .none) ?hqF ?hqN ?hqm ?hqz ?_ ?hqs ?hqt; (case hqF => k_asm); (case hqN => k_asm); (case hqm => k_mem); (case hqz => omega); (case hqs => with_unfolding_all rfl); (case hqt => (intro _; with_unfolding_all rfl)); k_whole); intro D' h' F' N' l1))
  k_with "binaryOp Add ref ref!" => ((k_here; (with_reducible show wpAny _ _ (binaryOp _ (Value.ref _) (Value.ref _)) _ _ _); k_dflt (refine' add_grow (ws := [_]) ?hqF ?hqN ?hqa ?hqb ?hqy ?hqz ?_; (case hqF => k_asm); (case hqN => k_asm); (case hqa => k_mem); (case hqb => k_mem); (case hqy => omega); (case hqz => exact Nat.le_of_ble_eq_true rfl); k_whole); intro D' h' F' N' l1))
  k_with "call type:range!" => ((k_here; (rename Fr _ _ _ _ => F'); (rename News _ _ _ _ => N'); (with_unfolding_all refine range1_rows F' N' ?_); intro h' tk' t1' t2' t3' R' F' N' kp'))
  k_with "subscriptTail Name UnaryOp ref int!" => ((k_here; (with_reducible show wpAny _ _ (subscriptTail _ _ (Value.ref _) (Value.int _ _)) _ _ _); first
  | (k_dflt (refine' last1K ?hqi ?hqN ?hqm ?hqz ?_ ?hqs; (case hqi => decide); (case hqN => k_asm); (case hqm => k_mem); (case hqz => omega); (case hqs => with_unfolding_all rfl); k_whole))
  | (k_dflt (refine' last2K ?hqi ?hqN ?hqm ?hqz ?_ ?hqs; (case hqi => decide); (case hqN => k_asm); (case hqm => k_mem); (case hqz => omega); (case hqs => with_unfolding_all rfl); k_whole))))
  k_with "gr same!" => ((
  intro z z1 z2 z3
  have z2 := z2 _ (List.mem_cons_self ..)
  simp only [List.contains_cons, List.contains_nil, Bool.or_false, Bool.or_eq_false_iff, beq_eq_false_iff_ne, ne_eq] at z1 z2 z3
  first | (simp [kstB, FSt.ps, z1, z2, z3]; done) | (simp [kstB, FSt.ps, z1, z2]; done) | fail "gr same"))
  k_with "gr same2!" => ((
  intro z z1 z2 z3
  simp only [List.contains_cons, List.contains_nil, Bool.or_false, Bool.or_eq_false_iff, beq_eq_false_iff_ne, ne_eq] at z1 z2 z3
  first | (simp [kstB, FSt.ps, z1, z2, z3]; done) | (simp [kstB, FSt.ps, z1, z2]; done) | fail "gr same2"))
  k_with "binaryOp Add ref ref!" => ((k_here; (with_reducible show wpAny _ _ (binaryOp _ (Value.ref _) (Value.ref _)) _ _ _); k_dflt (refine' add_comp ?hqF ?hqN ?hqp ?hqc ?hqa ?hqi ?hqz ?_; (case hqF => assumption); (case hqN => assumption); (case hqp => assumption); (case hqc => assumption); (case hqa => k_mem); (case hqi => exact .cons _ _ .nil); (case hqz => (simp only [List.length_cons, List.length_nil]; omega)); k_whole); intro D' us' h' F' N' l1 hI'; (try k_lt l1); (try k_sweep)))
  k_with "subscriptTail Call BinOp str int!" => ((k_here; (with_reducible show wpAny _ _ (subscriptTail _ _ (Value.str (ofL BLl) _) (Value.int _ _)) _ _ _); k_dflt (refine' blank_item ?hqa ?hqb ?_ ?hqs ?hqt; (case hqa => walk_at "fmod 29"); (case hqb => walk_at "fmod 29"); (case hqs => with_unfolding_all rfl); (case hqt => (intro _; with_unfolding_all rfl)); k_whole); intro c9 t9 k9 hc9))
  k_with "fmod 29!" => ((rw [Int.fmod_eq_emod_of_nonneg _ (by decide)]; omega))
  k_with "binaryOp Mult str int!" => ((k_here; (with_reducible show wpAny _ _ (binaryOp Operator.Mult (Value.str (ofL [_]) _) (Value.int _ _)) _ _ _); k_dflt (refine' blank_mul ?hqc ?hqa ?hqb ?_; (case hqc => assumption); (case hqa => walk_at "fmod 29"); (case hqb => walk_at "fmod 29"); k_whole); intro x9 t9 k9 hx9 hb9))
  k_with "eval Name!" => ((k_here; (with_reducible show wpAny _ _ (eval (Expr.Name _ _) (compEnvC _ _ _ _)) _ _ _); (k_dflt (refine' nameC_O ?hqk1 ?hqk2 ?hqk3 ?hqk4 ?_ ?hqk ?hqx ?hqd; (case hqk => exact rfl); (case hqx => exact rfl); (case hqd => decide); (case hqk3 => assumption); (case hqk1 => k_asm); (case hqk2 => k_mem); (case hqk4 => assumption); k_whole))))
  k_with "binaryOp Pow int int!" => ((k_here; (with_reducible show wpAny _ _ (binaryOp Operator.Pow (Value.int 3 _) (Value.int _ _)) _ _ _); k_dflt (refine' pow3 ?hqa ?_; (case hqa => assumption); k_whole); intro P9 t9 hP9 hQ9))
  k_with "compareOp Eq ref ref!" => ((refine Held.out ?_))
  refine con_row ?_; k_fill; intro _ X
  have B : Below { handled := none, depth := dp, frames := some [], guards := gd, units := un } g [] g := ⟨rfl, fun _ _ e => e, trivial⟩
  refine wpC_call ?_
  refine' code_cellsTop (binds := [("script", .ref a)]) ?k1 ?k2 ?k3 ?k4 ?k5 ?k6 ?k7 ?k8 ?k9 ?kB ?kD ?_ ?c2 ?c3 ?c4
  (case k1 => assumption); (case k2 => assumption); (case k3 => assumption); (case k4 => assumption); (case k5 => assumption); (case k6 => k_is); (case k7 => k_is)
  (case k8 => walk_at "my room")
  (case k9 => exact BindsTo.of_eq rfl); (case kB => exact rfl); (case kD => decide +kernel); (case c2 => exact rfl); (case c3 => exact rfl); (case c4 => exact rfl)
  k_whole; intro L' h' tk' cells' F' N' Y' lL'; obtain ⟨oG, oT, hE', dG, dT⟩ := CellsAre.two Y'; subst hE'; clear Y'; (try simp only [List.cons_append, List.nil_append] at N'); (try dsimp only); (try k_fold)
  have h3 := take3_len ns
  refine wpC_execs_any ?_
  k_steps
  dsimp only [RestC]
  (rename IntsAre _ (_ ++ [651, 493]) => hU); (rename News _ _ _ _ => nE); (rename Fr _ _ _ _ => fE)
  have hUl := hU.length
  rename_i NA us _ lNA h1
  have l64 : (64 : Nat) < L' := lL' _ (List.mem_cons_self ..)
  have dG : oG.data = .cell none := dG
  have dT : oT.data = .cell none := dT
  have nE2 : News g L' h1 [(NA, W.listOf (List.toArray us) 0), (L' + 1 + 1, oG), (L' + 1, oT), (64, tabObj #[])] := kst_newsOf nE (by
    intro p hp
    simp only [List.mem_cons, List.not_mem_nil, or_false] at hp
    rcases hp with h | h | h | h <;> rw [h] <;> simp)
  have hUz : us.length ≤ 100 := by rw [hUl]; simp only [List.length_append, List.length_cons, List.length_nil, List.length_map]; omega
  have lG : L' + 1 + 1 < NA := lNA.2.2.2.2.1
  clear lNA
  clear nE
  clear hgk hsz N lL'
  (try dsimp only)
  refine wpC_execs_any ?_
  k_with "call ref" => (k_call_by "con" (con_forest w _ NA us 0 (List.mem_cons_self ..) (ints_vals hU (nums_ok ns)) hUz); intro v9 n9 h9 tk9 F9 N9 r9; obtain ⟨c, rfl, rfl, G⟩ := r9; obtain ⟨cF, ck, cvs, cex⟩ := c; (try dsimp only); (try k_fold))
  k_steps
  dsimp only [RestC]
  (rename News _ _ _ _ => nE3); (rename Fr _ _ _ _ => fE3)
  have nE4 : News _ _ _ (((cF, W.listOf cvs.toArray ck) :: (cex ++ [(NA, W.listOf (List.toArray us) 0), (L' + 1 + 1, oG)])) ++ (L' + 1, oT) :: [(64, tabObj #[])]) := kst_newsOf nE3 (by intro p hp; simpa [FSt.led, or_assoc] using hp)
  have hcx := G.tup
  have tG := cex_off (cex := cex) nE4 (List.mem_append_left _ (List.mem_cons_of_mem _ (List.mem_append_right _ (List.mem_cons_of_mem _ (List.mem_cons_self ..))))) (cell_ne dG) (fun p hp => List.mem_append_left _ (List.mem_cons_of_mem _ (List.mem_append_left _ hp))) hcx
  have tT := cex_off (cex := cex) nE4 (List.mem_append_right _ (List.mem_cons_self ..)) (cell_ne dT) (fun p hp => List.mem_append_left _ (List.mem_cons_of_mem _ (List.mem_append_left _ hp))) hcx
  have gF := G.off
  clear nE3
  refine wpC_execs_path (wpC_Assign (wpC_any ?_))
  have hNA : (NA, W.listOf (List.toArray us) 0) ∈ ((cF, W.listOf cvs.toArray ck) :: (cex ++ [(NA, W.listOf (List.toArray us) 0), (L' + 1 + 1, oG)])) ++ (L' + 1, oT) :: [(64, tabObj #[])] := List.mem_append_left _ (List.mem_cons_of_mem _ (List.mem_append_right _ (List.mem_cons_self ..)))
  k_with "call builtin:sum" => (refine LSm.sum_ints (by assumption) (by assumption) rfl (News.isList nE4 hNA) hU ?_; intro h2 tk2 tT2 fE4 nE5; (try dsimp only); (try k_fold))
  k_steps
  have oF : ∀ q ∈ [(NA, W.listOf (List.toArray us) 0), (L' + 1 + 1, oG), (L' + 1, oT), ((64 : Addr), tabObj #[])], q.1 ≠ cF := gF
  have cT : cF ≠ L' + 1 := fun e => oF _ (List.mem_cons_of_mem _ (List.mem_cons_of_mem _ (List.mem_cons_self ..))) e.symm
  have cG : cF ≠ L' + 1 + 1 := fun e => oF _ (List.mem_cons_of_mem _ (List.mem_cons_self ..)) e.symm
  have c64 : cF ≠ 64 := fun e => oF _ (List.mem_cons_of_mem _ (List.mem_cons_of_mem _ (List.mem_cons_of_mem _ (List.mem_cons_self ..)))) e.symm
  have t64 := cex_off (cex := cex) nE5 (List.mem_append_right _ (List.mem_cons_of_mem _ (List.mem_cons_self ..))) (by intro _ _ _ e; have := congrArg Obj.cls e; cases this) (fun p hp => List.mem_append_left _ (List.mem_cons_of_mem _ (List.mem_append_left _ hp))) hcx
  generalize ([20] ++ List.map (fun a => a.fmod 1080926208) (List.take 3 ns) ++ [651, 493] : List Int).sum = TS
  refine store_C2 fE4 nE5 dT (fun p hp => ?_) (fun p hp => ?_) (fun h3 oT2 fE5 nE6 dT2 => ?_)
  · rcases List.mem_cons.mp hp with e | e
    · rw [e]; exact cT
    · rcases List.mem_append.mp e with e | e
      · exact tT p e
      · simp only [List.mem_cons, List.not_mem_nil, or_false] at e
        rcases e with e | e <;> rw [e]
        · exact Nat.ne_of_gt (Nat.lt_trans (Nat.lt_succ_self _) lG)
        · exact Nat.ne_of_gt (Nat.lt_succ_self _)
  · rw [List.mem_singleton.mp hp]
    exact Nat.ne_of_lt (Nat.lt_succ_of_lt l64)
  clear nE5 nE4 fE4 fE3 dT hNA
  dsimp only [RestC]
  have nE7 : News _ _ _ ((64, tabObj #[]) :: ((cF, W.listOf cvs.toArray ck) :: (cex ++ [(NA, W.listOf (List.toArray us) 0), (L' + 1 + 1, oG), (L' + 1, oT2)]))) := kst_newsOf nE6 (by intro p hp; simp only [List.mem_cons, List.mem_append, List.not_mem_nil, or_false] at hp ⊢; rcases hp with e | e | e | e | e | e <;> simp [e])
  clear nE6
  refine wpC_execs_path (wpC_Assign ?_)
  have D₀ : KtsDicts (([] : List Env).filterMap (·.frame)) g := fun b hb => by cases hb
  refine' wpC_compP2 (base := g) (outer := []) (K := K w.params) (n := 5) (P := fun i v => i < 5 ∧ ∃ t, v = .int (i : Int) t) (St := fun i o => o = rngObj (i : Int) (((5 : Nat) : Int) - i) 1) (PE := fun j y _ => ∃ x t, y = .str (ofL x) t ∧ x.length ≤ 2 ∧ ∀ d ∈ x, d ∈ BLl) fE5 nE7 ?hclos ?hkind ?hnames ?hcell ?hx ?hs B X T D₀ ?hz ?mono ?start ?e9 ?r9
  case hclos => (with_unfolding_all exact rfl)
  case hkind => exact rfl
  case hnames => decide
  case hcell => decide
  case hx => exact rfl
  case hs => (intro _; rfl)
  case hz => exact Nat.le_of_ble_eq_true rfl
  case mono => exact fun j y l₁ l₂ hl hq => hq
  case start =>
    k_steps
    (rename IsRange _ _ _ _ _ _ _ _ => rR); (rename News _ _ _ _ => nR); (rename Fr _ _ _ _ => fR)
    refine wpAny_pyIter_range rR (by decide +kernel) ?_
    refine ⟨_, NA, rngObj 0 5 1, W.listOf (List.toArray us) 0, _, _, #[], TabOk.nil, rfl, rfl, fR.push _, nR.push fR _, ?_, ?_, iterP_range rfl, fun q hq => Heap.lt_size (nR q hq).1⟩
    · simp
    · rfl
  case e9 =>
    intro j v C D I oC oD oI g' s' mC extra ps9 hps9 hv T9 F9 N9 a9 B9 X9 P9 D9 ns9 hm9 bare9
    obtain ⟨hj5, tj, rfl⟩ := hv
    refine wpC_any ?_
    have N10 : News _ _ _ ((C, oC) :: (L' + 1, oT2) :: (D, oD) :: (I, oI) :: (extra ++ (64, tabObj ps9) :: (cF, W.listOf cvs.toArray ck) :: (cex ++ [(NA, W.listOf (List.toArray us) 0), (L' + 1 + 1, oG), (L' + 1, oT2)]))) := news_dup (N9 _ (by simp)) N9
    have nsO := ns_obj ns9 (N9 _ (List.mem_cons_self ..)).1
    clear N9 nE7 fE5 ns9
    k_steps
    (rename News _ _ _ _ => nZ); (rename Fr _ _ _ _ => fZ)
    (with_reducible show wpAny _ _ (binaryOp _ _ _) _ _ _)
    refine blank_mul2 (fm_lo _ (by decide)) (fm_hi _ (by decide)) (fm_lo _ (by decide)) (fm_hi _ (by decide)) fun x9 t9 k9 hx9 hb9 => ?_
    exact ⟨g', _, _, _, [], ps9, hps9, rfl, _root_.id, KtsTurn.refl, fZ, fun q hq => nZ q (mem_dup q hq), ⟨x9, t9, rfl, hx9, hb9⟩, fun q hq => nomatch hq⟩
  case r9 =>
    intro D vs k gH h4 tk4 gs4 extra ps4 hps4 T4 F4 N4 B4 X4 P4 D4 hlen4 hres4 hup4 hD4 bare4
    obtain ⟨g0, g1, g2, g3, g4, t0, t1, t2, t3, t4, rfl, ⟨l0, b0⟩, ⟨l1, b1⟩, ⟨l2, b2⟩, ⟨l3, b3⟩, ⟨l4, b4⟩⟩ := five_of (P := fun _ x => x.length ≤ 2 ∧ ∀ d ∈ x, d ∈ BLl) hlen4 hres4
    have N5 : News _ _ _ (((D, plainL [.str (ofL g0) t0, .str (ofL g1) t1, .str (ofL g2) t2, .str (ofL g3) t3, .str (ofL g4) t4] k) :: (64, tabObj ps4) :: (cF, W.listOf cvs.toArray ck) :: cex) ++ (L' + 1 + 1, oG) :: []) := kst_newsOf N4 (by
      intro p hp
      simp only [List.mem_cons, List.mem_append, List.not_mem_nil, or_false] at hp ⊢
      rcases hp with (h | h | h | h) | h <;> simp [h])
    have lD64 : (64 : Nat) < D := hD4 _ (List.mem_cons_self ..)
    have lDF : cF < D := hD4 _ (List.mem_cons_of_mem _ (List.mem_cons_self ..))
    have lDG : L' + 1 + 1 < D := hD4 _ (List.mem_cons_of_mem _ (List.mem_cons_of_mem _ (List.mem_append_right _ (List.mem_cons_of_mem _ (List.mem_cons_self ..)))))
    clear N4 hD4 hup4 hres4 hlen4 nE7 fE5
    refine wpAny_assign_Name (store_C2 F4 N5 dG (fun p hp => ?_) (fun p hp => nomatch hp) (fun h5 oG2 F5 N6 dG2 => ?_))
    · simp only [List.mem_cons] at hp
      rcases hp with e | e | e | e
      · rw [e]; exact Nat.ne_of_gt lDG
      · rw [e]; exact Nat.ne_of_lt (Nat.lt_succ_of_lt (Nat.lt_succ_of_lt l64))
      · rw [e]; exact cG
      · exact tG p e
    clear N5 dG
    dsimp only [RestC]
    refine wpC_execs_path (wpC_Return (wpC_Compare1 ?_))
    obtain ⟨ts, lts, hts⟩ := pick_all G.tree
    have anw : ∀ q ∈ (cF, W.listOf cvs.toArray ck) :: (cex ++ [(D, plainL [.str (ofL g0) t0, .str (ofL g1) t1, .str (ofL g2) t2, .str (ofL g3) t3, .str (ofL g4) t4] k), (L' + 1 + 1, oG2)]), q.1 ≠ 64 := fun q hq => by
      simp only [List.mem_cons, List.mem_append, List.not_mem_nil, or_false] at hq
      rcases hq with e | e | e | e
      · rw [e]; exact c64
      · exact t64 q e
      · rw [e]; exact Nat.ne_of_gt lD64
      · rw [e]; exact Nat.ne_of_gt (Nat.lt_succ_of_lt (Nat.lt_succ_of_lt l64))
    have N7 : News _ _ _ ((64, tabObj ps4) :: ((cF, W.listOf cvs.toArray ck) :: (cex ++ [(D, plainL [.str (ofL g0) t0, .str (ofL g1) t1, .str (ofL g2) t2, .str (ofL g3) t3, .str (ofL g4) t4] k), (L' + 1 + 1, oG2)]))) := kst_newsOf N6 (by
      intro p hp
      simp only [List.mem_cons, List.mem_append, List.not_mem_nil, or_false] at hp ⊢
      rcases hp with h | h | h | h | h <;> simp [h])
    clear N6
    refine' wpC_compK2 (base := g) (outer := []) (K := K w.params) (vals := cvs) (St := fun i o => o.cls = .type "list_iterator" ∧ o.data = .fields #[.ref cF, .int i 0]) (PE := fun j y l' => ∃ t, ts[j]? = some t ∧ TrIn l' y t) F5 N7 ?hclos ?hkind ?hnames ?hcell ?hx ?hs B4 X T D4 ?hz ?mono ?s5 ?e5 ?r5
    case hclos => (with_unfolding_all exact rfl)
    case hkind => exact rfl
    case hnames => decide
    case hcell => decide
    case hx => exact rfl
    case hs => (intro _; rfl)
    case hz => exact Nat.le_trans G.len (by decide)
    case mono => exact fun j y l₁ l₂ hl hq => by obtain ⟨t, e, h⟩ := hq; exact ⟨t, e, TrIn.mono hl h⟩
    case s5 =>
      k_steps
      (rename News _ _ _ _ => nR); (rename Fr _ _ _ _ => fR)
      have hcF := nR _ (List.mem_cons_of_mem _ (List.mem_cons_self ..))
      refine wpAny_pyIter_list ⟨_, hcF.1, rfl, ck, rfl⟩ ?_
      refine ⟨_, cF, _, plainL cvs ck, _, _, ps4, hps4, rfl, rfl, fR.push _, nR.push fR _, List.mem_cons_self .., ⟨rfl, rfl⟩, iterOn_list rfl, fun q hq => Heap.lt_size (nR q hq).1⟩
    case e5 =>
      intro j v C D2 I oC oD oI g' s' mC extra ps9 hps9 hv T9 F9 N9 a9 B9 X9 P9 D9 ns9 hm9 bare9
      obtain ⟨t, htj⟩ : ∃ t, ts[j]? = some t := ⟨_, List.getElem?_eq_getElem (by rw [← lts]; exact (List.getElem?_eq_some_iff.mp hv).1)⟩
      obtain ⟨TA, tok, tdp, tsk⟩ := hts j v t hv htj
      have rd := rd_wr (d := 2) tok tdp tdp b0 b1 b2 b3 b4 l0 l1 l2 l3 l4
      have nsO := ns_obj ns9 (N9 _ (List.mem_cons_self ..)).1
      have N10 : News _ _ _ ((64, tabObj ps9) :: (L' + 1 + 1, oG2) :: (C, oC) :: (D2, oD) :: (I, oI) :: (extra ++ ((cF, W.listOf cvs.toArray ck) :: (cex ++ [(D, plainL [.str (ofL g0) t0, .str (ofL g1) t1, .str (ofL g2) t2, .str (ofL g3) t3, .str (ofL g4) t4] k), (L' + 1 + 1, oG2)])))) := news_dup (N9 _ (by simp)) (fun q hq => N9 q (mem_c64 q hq))
      have mD : (D, plainL [.str (ofL g0) t0, .str (ofL g1) t1, .str (ofL g2) t2, .str (ofL g3) t3, .str (ofL g4) t4] k) ∈ (64, tabObj ps9) :: (L' + 1 + 1, oG2) :: (C, oC) :: (D2, oD) :: (I, oI) :: (extra ++ ((cF, W.listOf cvs.toArray ck) :: (cex ++ [(D, plainL [.str (ofL g0) t0, .str (ofL g1) t1, .str (ofL g2) t2, .str (ofL g3) t3, .str (ofL g4) t4] k), (L' + 1 + 1, oG2)]))) := by simp
      have mC9 : (C, oC) ∈ (64, tabObj ps9) :: (L' + 1 + 1, oG2) :: (C, oC) :: (D2, oD) :: (I, oI) :: (extra ++ ((cF, W.listOf cvs.toArray ck) :: (cex ++ [(D, plainL [.str (ofL g0) t0, .str (ofL g1) t1, .str (ofL g2) t2, .str (ofL g3) t3, .str (ofL g4) t4] k), (L' + 1 + 1, oG2)]))) := by simp
      have TA9 : TrIn ((64, tabObj ps9) :: (L' + 1 + 1, oG2) :: (C, oC) :: (D2, oD) :: (I, oI) :: (extra ++ ((cF, W.listOf cvs.toArray ck) :: (cex ++ [(D, plainL [.str (ofL g0) t0, .str (ofL g1) t1, .str (ofL g2) t2, .str (ofL g3) t3, .str (ofL g4) t4] k), (L' + 1 + 1, oG2)])))) v t := TrIn.mono (fun q hq => by simp only [List.mem_cons, List.mem_append]; exact .inr (.inr (.inr (.inr (.inr (.inr (.inr (.inl hq)))))))) TA
      have a11 : ∀ q ∈ (L' + 1 + 1, oG2) :: (C, oC) :: (D2, oD) :: (I, oI) :: (extra ++ ((cF, W.listOf cvs.toArray ck) :: (cex ++ [(D, plainL [.str (ofL g0) t0, .str (ofL g1) t1, .str (ofL g2) t2, .str (ofL g3) t3, .str (ofL g4) t4] k), (L' + 1 + 1, oG2)]))), q.1 ≠ 64 := cons_ne (Nat.ne_of_gt (Nat.lt_succ_of_lt (Nat.lt_succ_of_lt l64))) fun q hq => by
        rcases List.mem_append.mp (show q ∈ ((C, oC) :: (D2, oD) :: (I, oI) :: extra) ++ _ from hq) with z | z
        · exact a9 q z
        · exact anw q z
      clear N9 N7 F5 ns9 a9 TA
      refine wpC_Call_Name (nameG_K F9 X9 (topRead_of P9) (ns_read _) ?_ rfl rfl rfl (by decide))
      refine wpC_callWith_K (K := K w.params) (f := .ref 274) (keep_read _) ?_
      show wpAny _ { handled := none, depth := dp + 1, frames := some (_ :: []), guards := gd, units := un + 3 } _ _ _ _
      k_with "call ref" => (k_call_by "con" (con_written w t _ v D k g0 g1 g2 g3 g4 t0 t1 t2 t3 t4 TA9 mD tok tdp l0 l1 l2 l3 l4); intro v9 n9 h9 tk9 F9 N9 r9; obtain ⟨rfl, t9, rfl⟩ := r9; (try dsimp only); (try k_fold))
      k_steps
      (rename News _ _ _ _ => nE9); (rename Fr _ _ _ _ => fE9)
      show wpC _ { handled := none, depth := dp + 1, frames := some (_ :: []), guards := gd, units := un + 3 } _ _ _ _
      refine' con_read w rd _ _ _ p loose mean mg mb _ _ _ _ _ _ g _ _ _ _ _ _ hps9 a11 B9 fE9 X nE9 T D9 rfl rfl ?hd9 ?hu9 ?_
      case hd9 => omega
      case hu9 => omega
      intro v2 extra2 ps2 gK h8 tk8 gs8 hp8 G8 T8 F8 N8 l8 R8
      exact ⟨gK, h8, tk8, gs8, extra2, ps2, hp8, rfl, G8, T8, F8, fun q hq => N8 q (mem_c65 q hq), ⟨t, htj, R8⟩, fun q hq r hr => l8 q hq r (mem_c66 r hr)⟩
    case r5 =>
      intro D3 vs3 k3 gJ h6 tk6 gs6 extra6 ps6 hps6 T6 F6 N8 B6 X6 P6 D6 hlen6 hres6 hup6 hD6 bare6
      k_steps
      refine Held.mk ?_
      refine eq_trees (xs := vs3) (ys := cvs) (ts := ts) (ka := k3) (kb := ck) N8 (List.mem_cons_self ..) (by simp) (hlen6.trans lts) (fun i v t h1 h2 => ?_) lts (fun i v t h1 h2 => ?_) (fun t ht => ?_) (fun t ht => ?_) ?_ ?_
      · obtain ⟨t', e, h⟩ := hres6 i v h1
        rw [h2] at e
        cases e
        exact TrIn.mono (fun q hq => List.mem_cons_of_mem _ (List.mem_append_left _ hq)) h
      · refine TrIn.mono (fun q hq => ?_) (hts i v t h1 h2).1
        simp only [List.mem_cons, List.mem_append]
        exact .inr (.inr (.inr (.inr (.inl hq))))
      · obtain ⟨i, hi⟩ := List.getElem?_of_mem ht
        obtain ⟨v, hv⟩ : ∃ v, cvs[i]? = some v := ⟨_, List.getElem?_eq_getElem (by rw [lts]; exact (List.getElem?_eq_some_iff.mp hi).1)⟩
        exact (hts i v t hv hi).2.2.2
      · obtain ⟨i, hi⟩ := List.getElem?_of_mem ht
        obtain ⟨v, hv⟩ : ∃ v, cvs[i]? = some v := ⟨_, List.getElem?_eq_getElem (by rw [lts]; exact (List.getElem?_eq_some_iff.mp hi).1)⟩
        exact (hts i v t hv hi).2.2.1
      · show un + 3 + 64 < cLine
        omega
      · dsimp only [RestC]
        exact hR _ _ _ ps6 (fun b o e => F6.keep b o (B6.stays b o e)) (N8 _ (List.mem_cons_of_mem _ (List.mem_append_right _ (List.mem_cons_self ..)))).1 (fun q => bare6 (bare4 q))

-- tp1
/-- a tree that runs beneath the claim's caller alone; elsewhere another stands for it -/
def guardT {α : Type} (t d : Sem α) : Sem α := .stack fun acts => if acts.any (fun a => a.1.isCaller) then t else d
theorem wp_guard {α : Type} {M : Model} {A : Around} {t d : Sem α} {Q : α → Shared → Prop} {E : Value → Shared → Prop} {s : Shared} (h : wpC M A t Q E s) (h' : wpAny M A d Q E s) : wpAny M A (guardT t d) Q E s := fun Γ p hΓ => by
  unfold guardT
  rw [Sem.wp_stack]
  cases q : ((Γ.code, p) :: Γ.below).any (fun a => a.1.isCaller) with
  | true => exact h Γ p hΓ q
  | false => exact h' Γ p hΓ
theorem wp_guard_out {α : Type} {M : Model} {A : Around} {t d : Sem α} {Q : α → Shared → Prop} {E : Value → Shared → Prop} {s : Shared} (h : wpAny M A (guardT t d) Q E s) : wpC M A t Q E s := fun Γ p hΓ hC => by
  have := h Γ p hΓ
  unfold guardT at this
  rw [Sem.wp_stack] at this
  have q : ((Γ.code, p) :: Γ.below).any (fun a => a.1.isCaller) = true := hC
  rwa [if_pos q] at this
/-- the guard costs one step of the machine -/
theorem holds_guard {c : ClaimW} {tree dummy : List Value → Sem Fin} {defs keeps : List PySem.Str} {writes : Bool}
    (H : c.HoldsOpenBy (fun vs => ⟨guardT (tree vs) (dummy vs), .builtin "claim.caller" {}, default, []⟩) defs keeps writes) :
    c.HoldsOpenBy (fun vs => ⟨tree vs, .builtin "claim.caller" {}, default, []⟩) defs keeps writes := by
  refine ⟨H.1, H.2.1, fun w => ⟨(H.2.2 w).1, fun s hs => ?_⟩⟩
  obtain ⟨s₀, hf, hg, s₁, hT, hd, hr, hu, hc⟩ := (H.2.2 w).2 s hs
  refine ⟨s₀, hf, hg, s₁, hT, hd, hr, hu, fun args hp hl ord ho => ?_⟩
  have hs' : AfterImport (opening c.prog) w s := hs
  have z₀ : s₀.asleep := Shared.asleep_of_life (fence_lifeW hf) hs'.life
  have z₁ : s₁.asleep := Shared.asleep_of_life hT.2.1 z₀
  obtain ⟨vs, s₂, hlaid, n, o, s', hn, rest⟩ := hc args hp hl ord ho
  have z₂ : s₂.asleep := Shared.asleep_of_life (layAllW_rest _ _ _ hlaid).2.2.2 z₁
  refine ⟨vs, s₂, hlaid, ?_⟩
  cases n with
  | zero => cases hn
  | succ n =>
    refine ⟨n, o, s', ?_, rest⟩
    have hstep : step (denote table) c.prog w s₂ ⟨guardT (tree vs) (dummy vs), .builtin "claim.caller" {}, default, []⟩ = .go s₂ ⟨tree vs, .builtin "claim.caller" {}, default, []⟩ := rfl
    have e : sstep (denote table) c.prog w (.single s₂ ⟨guardT (tree vs) (dummy vs), .builtin "claim.caller" {}, default, []⟩) = .go (.single s₂ ⟨tree vs, .builtin "claim.caller" {}, default, []⟩) := by
      rcases sstep_single (denote table) c.prog w s₂ ⟨guardT (tree vs) (dummy vs), .builtin "claim.caller" {}, default, []⟩ rfl z₂ with q | q
      · rw [q, hstep]; rfl
      · rw [hstep] at q; cases q
    simp only [schedN, e] at hn
    exact hn

-- tp2
abbrev rowL : PySem.W.OpenRow := OpenLaw.row PySem.Challenge.rw_ij0084_01
noncomputable def gRun (f : Value) (vs : List Value) : Sem Value := guardT (PySem.call f vs) (pure (.bool true))
noncomputable def gReal (vs : List Value) : Sem Fin := do match ← nsGet mainNs rowL.name with
  | some f => do ret (← PySem.call f vs)
  | none => unsupported "claim.caller:no-such-global"
noncomputable def gDummy (_ : List Value) : Sem Fin := do match ← nsGet mainNs rowL.name with
  | some _ => ret (.bool true)
  | none => unsupported "claim.caller:no-such-global"
theorem g_ht {prog : Program} (vs : List Value) (w : World) (s : Shared) (mg : PySem.Str → Option Value) (f : Value) (Q : Fin → Shared → Prop) (E : Value → Shared → Prop) (hg : s.heap.Ns mainGlobals mg) (hf : mg rowL.name = some f)
    (h : wpAny (model prog w) callerA (gRun f vs) (fun v s' => Q (.done (.ret v)) s') E s) : wpAny (model prog w) callerA (guardT (gReal vs) (gDummy vs)) Q E s := fun Γ p hΓ => by
  have h' := wp_guard_out h
  have hr : wpC (model prog w) callerA (gReal vs) Q E s := by
    unfold gReal
    refine wpC_abind (wpAny_nsGet hg ?_)
    rw [hf]
    exact wpC_bind (wpC_mono h' (fun v s' x => wpC_any (wpAny_pure x)) fun _ _ x => x)
  unfold guardT
  rw [Sem.wp_stack]
  cases q : ((Γ.code, p) :: Γ.below).any (fun a => a.1.isCaller) with
  | true => exact hr Γ p hΓ q
  | false =>
    have h2 := h Γ p hΓ
    unfold gRun guardT at h2
    rw [Sem.wp_stack, q] at h2
    have hq : Q (.done (.ret (.bool true))) s := by
      have h3 := h2
      rw [if_neg (by decide)] at h3
      exact h3
    have hd : wpAny (model prog w) callerA (gDummy vs) Q E s := by
      unfold gDummy
      refine wpAny_bind (wpAny_nsGet hg ?_)
      rw [hf]
      exact wpAny_pure hq
    exact hd Γ p hΓ
/-- what the claim wants of a run that hands back True and grows the one table -/
theorem good_true {cl : PySem.Str → Option Addr} {mean : ExcName → Option Value} {args : List WData} {s₁ : Shared} {h' : Heap} {tk : Nat} {gs : Array GenState} {ps : Array Value} {tabs : List (Addr × Addr)} (hT : TabsAt tabs s₁.heap) (ht : tabs = [(68, 64)])
    (keep : ∀ b o, (ghostOf s₁.heap tabs).get? b = some o → h'.get? b = some o) (h64 : h'.get? 64 = some (tabObj ps)) (hb : AllBare gs) :
    GoodWG rowL.toRowW.claim cl mean args s₁ (.ok (.ret (.bool true))) { s₁ with heap := h', toks := tk, gens := gs } := by
  subst ht
  have e64 := (hT _ (List.mem_cons_self ..)).2
  have isT : isCodeTable s₁.heap 64 := ((hT _ (List.mem_cons_self ..)).1.tab e64).isCodeTable
  refine ⟨.inl ⟨.bool true, .bool true, [], rfl, fun cls => rfl, ReadsW.bool _, ?_, fun _ => ⟨List.nodup_nil, fun a ha => nomatch ha⟩⟩, ⟨fun b o e => ?_, fun b o e => ?_⟩, rfl, hb⟩
  · wrow_post
  · by_cases q : b = 64
    · subst q
      rw [e64] at e
      cases e
      exact .inr (.inl ⟨isT, rfl, #[], ps, rfl, by rw [Array.empty_append]; exact h64⟩)
    · exact .inl (keep b o (ghost_ne e (by simpa using q)))
  · by_cases q : b = 64
    · subst q; exact ⟨_, h64⟩
    · exact ⟨o, keep b o (ghost_ne e (by simpa using q))⟩

open Hd

-- tp4
theorem law_call (w : World) (s₀ s₁ : Shared) (mg mb : PySem.Str → Option Value) (G : Ground q loose rowL.toRowW.records (XL q []) w s₀ mg mb s₁.heap) (Y : hook.says w s₁.heap) (args : List WData) (vs : List Value) (as : List Addr)
    (hpre : rowL.toRowW.claim.pre args = true) (hlay : WData.layableAll args = true) (L : Laid rowL.toRowW.records w s₀ s₁ args vs as) (low : sysModules < s₀.heap.objs.size) : ∃ f, mg rowL.name = some f ∧
      wpAny (model rowL.toRowW.prog w) callerA (gRun f vs) (fun v s' => GoodWG rowL.toRowW.claim (classAt s₀.heap) (ExcName.means s₀.heap) args s₁ (.ok (.ret v)) s')
        (fun e s' => GoodWG rowL.toRowW.claim (classAt s₀.heap) (ExcName.means s₀.heap) args s₁ (.error e) s') s₁ := by
  have X : (K w.params).In s₁.heap := km_in_of Y
  have T := G.T
  have h1 : mg rowL.name = some (.ref 279) := mg_of X T.g (by kernel_rfl)
  have hT : TabsAt [(68, 64)] s₁.heap := fun q hq => by
    rw [List.mem_singleton.mp hq]
    exact ⟨codeHd_of_K (c := 68) (P := 64) X (by kernel_rfl), km_tabs_of Y 64 (List.mem_singleton.mpr rfl)⟩
  have hbare : AllBare s₁.gens := .of_eq L.gens
  have hrd := L.reads
  have hwl := L.well
  have hlo := L.low low
  refine ⟨_, h1, ?_⟩
  have e64 := (hT _ (List.mem_cons_self ..)).2
  have main : ∀ (a : Addr) (xs : List Value) (ns : List Int), s₁.heap.IsList a xs.toArray → IntsAre xs ns → ns.length ≤ 63 → wpAny (model rowL.toRowW.prog w) callerA (gRun (.ref 279) [.ref a]) (fun v s' => GoodWG rowL.toRowW.claim (classAt s₀.heap) (ExcName.means s₀.heap) args s₁ (.ok (.ret v)) s')
        (fun e s' => GoodWG rowL.toRowW.claim (classAt s₀.heap) (ExcName.means s₀.heap) args s₁ (.error e) s') s₁ := by
    intro a xs ns hl hi hz
    refine wp_guard ?_ ?_
    · refine con_law w (g := ghostOf s₁.heap [(68, 64)]) (ghost_top hT T) (fun b o e => of_hideAll _ e) (hideAll_size _ _) (fun q hq => ?_) a xs ns (ghost_list hT hl) hi hz _ _ _ _ _ (by decide) (by decide +kernel) (fun h' tk gs ps k1 k2 k3 => good_true hT rfl k1 k2 (k3 hbare)) (ghost_K hT X (by kernel_rfl))
      rw [List.mem_singleton.mp hq]
      exact ⟨e64, hideAll_none _ (List.mem_singleton.mpr rfl)⟩
    · exact wpAny_pure (good_true hT rfl (fun b o e => of_hideAll _ e) e64 hbare)
  wrow_args hpre hlay hrd hwl hlo
  exact main _ _ _ (by assumption) (by assumption) (by omega)

-- tp5
theorem def_law : ∃ d kwd, defOf q rowL.name = some (d, kwd) ∧ rowL.prog.theDef rowL.name = some (d.params, d.body, d.scope) ∧ kwWritten? d.params.kwonlyargs d.params.kw_defaults = some kwd := ⟨_, _, by rfl, by rfl, by rfl⟩
theorem row_holds (k1 : rowL.wellSaid = true) : rowL.Holds := by
  have hw : rowL.toRowW.promised := by w_witness2
  refine ⟨k1, hw, holds_guard (tree := gReal) (dummy := gDummy) (open_anyG (r := rowL.toRowW) (run := gRun) (tree := fun vs => guardT (gReal vs) (gDummy vs)) (q := q) (loose := loose) (Xt := Xt0) (XP := XL q []) (Yf := hook.obs) (Ya := hook.val) (YP := hook.says) (N := 7032) left hook.of hook.keeps
    (fun s e => xl_of s (Bool.and_eq_true_iff.mp e).1) XL.keeps (fun s e => recFacts_of (Bool.and_eq_true_iff.mp e).2) (by rfl) (by decide +kernel) ⟨rfl, rfl, rfl, rfl, rfl, by decide +kernel⟩ hw (fun vs w s mg f Q E hg hf h => g_ht vs w s mg f Q E hg hf h) (fun w s hg G n hn => ?_) law_call)⟩
  obtain ⟨d, kwd, e1, e2, e3⟩ := def_law
  obtain rfl : n = rowL.name := by split at hn <;> simp_all
  exact pinned_of_view hg G e1 e2 e3

theorem said_law : OpenLaw.wellSaid PySem.Challenge.rw_ij0084_01 = true := by kernel_rfl

end Mine
set_option maxRecDepth 100000 in
set_option maxHeartbeats 8000000 in
theorem PySem.Challenge.cw_ij0084_01_holds : PySem.Challenge.rw_ij0084_01.Holds := by
  exact holds_law Mine.said_law (fun said => Mine.row_holds said)

import PyProof.Rows.All
import Wide.All
import OpenK.AllK
import Wide.FinOn
import PySem.Challenge.RW_in0011_01
set_option Elab.async false
set_option maxRecDepth 100000
set_option maxHeartbeats 8000000
namespace Mine
open PySem PySem.W PyProof.Rows
open PySem.Calls PySem.Spec
/-! the head: the opening and the top of the text, each run by the kernel over trees -/

noncomputable abbrev pw : Program := PySem.Challenge.pw_in0011_01
noncomputable def nL : List Stmt → Nat → Stmt
  | [], _ => .Pass ⟨0, 0, 0, 0⟩
  | a :: _, 0 => a
  | _ :: l, n + 1 => nL l n
noncomputable def nS (p : Program) (i : Nat) : Stmt := nL p.main.body i
noncomputable def nC : Stmt → Nat → Stmt
  | .ClassDef _ _ _ b _ _ _ _ _ _ _, j => nL b j
  | s, _ => s
/-- the text that stands first in a body -/
noncomputable def dS : Stmt → Str
  | .FunctionDef _ _ (.Expr (.Constant (.str s) _ _) _ :: _) _ _ _ _ _ _ _ => s
  | .ClassDef _ _ _ (.Expr (.Constant (.str s) _ _) _ :: _) _ _ _ _ _ _ _ => s
  | _ => ""
/-- the object of a def -/
noncomputable def fO (d : Stmt) (qual : Str) (globals : Addr) (closure : List (Str × Addr)) (defaults kwdefaults doc pyModule : Value) (annotations : Option Addr) (code closureTuple : Value) (builtins : Addr) : Obj := match d with
  | .FunctionDef name args body _ _ _ scope _ _ _ => ⟨.type "function", none, .func ⟨name, qual, args, .stmts body, scope, globals, closure, defaults, kwdefaults, doc, pyModule, annotations, code, closureTuple, builtins⟩, #[]⟩
  | _ => default
noncomputable def o39 : Obj := by
  refine (?f : (x : Obj) → fO (nS pw 1) "_wall" 3 [] .none .none .none (.str "__main__" 164) .none (.ref 38) .none 0 = x → Obj) ?x ?h
  (case f => exact fun x _ => x)
  (case h => conv => lhs; whnf)
noncomputable def o53 : Obj := by
  refine (?f : (x : Obj) → fO (nC (nS pw 3) 0) "_tuplegetter.__init__" 3 [] .none .none .none (.str "cpy313.importlib.metadata._collections" 286) .none (.ref 52) .none 0 = x → Obj) ?x ?h
  (case f => exact fun x _ => x)
  (case h => conv => lhs; whnf)
noncomputable def o61 : Obj := by
  refine (?f : (x : Obj) → fO (nC (nS pw 3) 1) "_tuplegetter.__get__" 3 [] (.ref 54) .none .none (.str "cpy313.importlib.metadata._collections" 286) .none (.ref 60) .none 0 = x → Obj) ?x ?h
  (case f => exact fun x _ => x)
  (case h => conv => lhs; whnf)
noncomputable def o68 : Obj := by
  refine (?f : (x : Obj) → fO (nC (nS pw 3) 2) "_tuplegetter.__set__" 3 [] .none .none .none (.str "cpy313.importlib.metadata._collections" 286) .none (.ref 67) .none 0 = x → Obj) ?x ?h
  (case f => exact fun x _ => x)
  (case h => conv => lhs; whnf)
noncomputable def o75 : Obj := by
  refine (?f : (x : Obj) → fO (nC (nS pw 3) 3) "_tuplegetter.__delete__" 3 [] .none .none .none (.str "cpy313.importlib.metadata._collections" 286) .none (.ref 74) .none 0 = x → Obj) ?x ?h
  (case f => exact fun x _ => x)
  (case h => conv => lhs; whnf)
noncomputable def o98 : Obj := by
  refine (?f : (x : Obj) → fO (nC (nS pw 5) 1) "FreezableDefaultDict.__missing__" 3 [⟨"__class__", 86⟩] .none .none .none (.str "cpy313.importlib.metadata._collections" 286) .none (.ref 97) (.ref 91) 0 = x → Obj) ?x ?h
  (case f => exact fun x _ => x)
  (case h => conv => lhs; whnf)
noncomputable def o105 : Obj := by
  refine (?f : (x : Obj) → fO (nC (nS pw 5) 2) "FreezableDefaultDict.freeze" 3 [] .none .none .none (.str "cpy313.importlib.metadata._collections" 286) .none (.ref 104) .none 0 = x → Obj) ?x ?h
  (case f => exact fun x _ => x)
  (case h => conv => lhs; whnf)
noncomputable def o130 : Obj := by
  refine (?f : (x : Obj) → fO (nC (nS pw 6) 4) "Pair.__new__" 3 [] .none .none (.str (dS (nC (nS pw 6) 4)) 417) (.str "cpy313.importlib.metadata._collections" 286) .none (.ref 129) .none 0 = x → Obj) ?x ?h
  (case f => exact fun x _ => x)
  (case h => conv => lhs; whnf)
noncomputable def o137 : Obj := by
  refine (?f : (x : Obj) → fO (nC (nS pw 6) 5) "Pair._make" 3 [] .none .none (.str (dS (nC (nS pw 6) 5)) 427) (.str "cpy313.importlib.metadata._collections" 286) (.some 140) (.ref 136) .none 0 = x → Obj) ?x ?h
  (case f => exact fun x _ => x)
  (case h => conv => lhs; whnf)
noncomputable def o148 : Obj := by
  refine (?f : (x : Obj) → fO (nC (nS pw 6) 6) "Pair._replace" 3 [⟨"__class__", 116⟩] .none .none (.str (dS (nC (nS pw 6) 6)) 450) (.str "cpy313.importlib.metadata._collections" 286) .none (.ref 147) (.ref 141) 0 = x → Obj) ?x ?h
  (case f => exact fun x _ => x)
  (case h => conv => lhs; whnf)
noncomputable def o155 : Obj := by
  refine (?f : (x : Obj) → fO (nC (nS pw 6) 8) "Pair.__repr__" 3 [] .none .none (.str (dS (nC (nS pw 6) 8)) 459) (.str "cpy313.importlib.metadata._collections" 286) .none (.ref 154) .none 0 = x → Obj) ?x ?h
  (case f => exact fun x _ => x)
  (case h => conv => lhs; whnf)
noncomputable def o162 : Obj := by
  refine (?f : (x : Obj) → fO (nC (nS pw 6) 9) "Pair._asdict" 3 [] .none .none .none (.str "cpy313.importlib.metadata._collections" 286) .none (.ref 161) .none 0 = x → Obj) ?x ?h
  (case f => exact fun x _ => x)
  (case h => conv => lhs; whnf)
noncomputable def o169 : Obj := by
  refine (?f : (x : Obj) → fO (nC (nS pw 6) 10) "Pair.__getnewargs__" 3 [] .none .none (.str (dS (nC (nS pw 6) 10)) 474) (.str "cpy313.importlib.metadata._collections" 286) .none (.ref 168) .none 0 = x → Obj) ?x ?h
  (case f => exact fun x _ => x)
  (case h => conv => lhs; whnf)
noncomputable def o197 : Obj := by
  refine (?f : (x : Obj) → fO (nC (nS pw 7) 0) "Pair.parse" 3 [] .none .none .none (.str "cpy313.importlib.metadata._collections" 286) (.some 200) (.ref 196) .none 0 = x → Obj) ?x ?h
  (case f => exact fun x _ => x)
  (case h => conv => lhs; whnf)
noncomputable def o220 : Obj := by
  refine (?f : (x : Obj) → fO (nC (nS pw 9) 0) "_tuplegetter.__init__" 3 [] .none .none .none (.str "cpy313.unittest.util" 542) .none (.ref 219) .none 0 = x → Obj) ?x ?h
  (case f => exact fun x _ => x)
  (case h => conv => lhs; whnf)
noncomputable def o228 : Obj := by
  refine (?f : (x : Obj) → fO (nC (nS pw 9) 1) "_tuplegetter.__get__" 3 [] (.ref 221) .none .none (.str "cpy313.unittest.util" 542) .none (.ref 227) .none 0 = x → Obj) ?x ?h
  (case f => exact fun x _ => x)
  (case h => conv => lhs; whnf)
noncomputable def o235 : Obj := by
  refine (?f : (x : Obj) → fO (nC (nS pw 9) 2) "_tuplegetter.__set__" 3 [] .none .none .none (.str "cpy313.unittest.util" 542) .none (.ref 234) .none 0 = x → Obj) ?x ?h
  (case f => exact fun x _ => x)
  (case h => conv => lhs; whnf)
noncomputable def o242 : Obj := by
  refine (?f : (x : Obj) → fO (nC (nS pw 9) 3) "_tuplegetter.__delete__" 3 [] .none .none .none (.str "cpy313.unittest.util" 542) .none (.ref 241) .none 0 = x → Obj) ?x ?h
  (case f => exact fun x _ => x)
  (case h => conv => lhs; whnf)
noncomputable def o257 : Obj := by
  refine (?f : (x : Obj) → fO (nS pw 12) "safe_repr" 3 [] (.ref 250) .none .none (.str "cpy313.unittest.util" 542) .none (.ref 256) .none 0 = x → Obj) ?x ?h
  (case f => exact fun x _ => x)
  (case h => conv => lhs; whnf)
noncomputable def o275 : Obj := by
  refine (?f : (x : Obj) → fO (nC (nS pw 13) 4) "Mismatch.__new__" 3 [] .none .none (.str (dS (nC (nS pw 13) 4)) 643) (.str "cpy313.unittest.util" 542) .none (.ref 274) .none 0 = x → Obj) ?x ?h
  (case f => exact fun x _ => x)
  (case h => conv => lhs; whnf)
noncomputable def o282 : Obj := by
  refine (?f : (x : Obj) → fO (nC (nS pw 13) 5) "Mismatch._make" 3 [] .none .none (.str (dS (nC (nS pw 13) 5)) 653) (.str "cpy313.unittest.util" 542) (.some 285) (.ref 281) .none 0 = x → Obj) ?x ?h
  (case f => exact fun x _ => x)
  (case h => conv => lhs; whnf)
noncomputable def o293 : Obj := by
  refine (?f : (x : Obj) → fO (nC (nS pw 13) 6) "Mismatch._replace" 3 [⟨"__class__", 261⟩] .none .none (.str (dS (nC (nS pw 13) 6)) 676) (.str "cpy313.unittest.util" 542) .none (.ref 292) (.ref 286) 0 = x → Obj) ?x ?h
  (case f => exact fun x _ => x)
  (case h => conv => lhs; whnf)
noncomputable def o300 : Obj := by
  refine (?f : (x : Obj) → fO (nC (nS pw 13) 8) "Mismatch.__repr__" 3 [] .none .none (.str (dS (nC (nS pw 6) 8)) 685) (.str "cpy313.unittest.util" 542) .none (.ref 299) .none 0 = x → Obj) ?x ?h
  (case f => exact fun x _ => x)
  (case h => conv => lhs; whnf)
noncomputable def o307 : Obj := by
  refine (?f : (x : Obj) → fO (nC (nS pw 13) 9) "Mismatch._asdict" 3 [] .none .none .none (.str "cpy313.unittest.util" 542) .none (.ref 306) .none 0 = x → Obj) ?x ?h
  (case f => exact fun x _ => x)
  (case h => conv => lhs; whnf)
noncomputable def o314 : Obj := by
  refine (?f : (x : Obj) → fO (nC (nS pw 13) 10) "Mismatch.__getnewargs__" 3 [] .none .none (.str (dS (nC (nS pw 6) 10)) 700) (.str "cpy313.unittest.util" 542) .none (.ref 313) .none 0 = x → Obj) ?x ?h
  (case f => exact fun x _ => x)
  (case h => conv => lhs; whnf)
noncomputable def o338 : Obj := by
  refine (?f : (x : Obj) → fO (nS pw 15) "_count_diff_all_purpose" 3 [] .none .none (.str (dS (nS pw 15)) 762) (.str "cpy313.unittest.util" 542) .none (.ref 337) .none 0 = x → Obj) ?x ?h
  (case f => exact fun x _ => x)
  (case h => conv => lhs; whnf)
noncomputable def o345 : Obj := by
  refine (?f : (x : Obj) → fO (nS pw 17) "_law_noted" 3 [] .none .none .none (.str "law_in0011_01" 764) .none (.ref 344) .none 0 = x → Obj) ?x ?h
  (case f => exact fun x _ => x)
  (case h => conv => lhs; whnf)
noncomputable def o352 : Obj := by
  refine (?f : (x : Obj) → fO (nS pw 18) "_law_texts" 3 [] .none .none .none (.str "law_in0011_01" 764) .none (.ref 351) .none 0 = x → Obj) ?x ?h
  (case f => exact fun x _ => x)
  (case h => conv => lhs; whnf)
noncomputable def o359 : Obj := by
  refine (?f : (x : Obj) → fO (nS pw 19) "_law_thing" 3 [] .none .none .none (.str "law_in0011_01" 764) .none (.ref 358) .none 0 = x → Obj) ?x ?h
  (case f => exact fun x _ => x)
  (case h => conv => lhs; whnf)
noncomputable def o366 : Obj := by
  refine (?f : (x : Obj) → fO (nS pw 20) "_law_drawn" 3 [] .none .none .none (.str "law_in0011_01" 764) .none (.ref 365) .none 0 = x → Obj) ?x ?h
  (case f => exact fun x _ => x)
  (case h => conv => lhs; whnf)
noncomputable def o371 : Obj := by
  refine (?f : (x : Obj) → fO (nS pw 21) "_law_bags" 3 [] .none .none .none (.str "law_in0011_01" 764) .none (.ref 370) .none 0 = x → Obj) ?x ?h
  (case f => exact fun x _ => x)
  (case h => conv => lhs; whnf)
noncomputable def o376 : Obj := by
  refine (?f : (x : Obj) → fO (nS pw 22) "_law_due" 3 [] .none .none .none (.str "law_in0011_01" 764) .none (.ref 375) .none 0 = x → Obj) ?x ?h
  (case f => exact fun x _ => x)
  (case h => conv => lhs; whnf)
noncomputable def o383 : Obj := by
  refine (?f : (x : Obj) → fO (nS pw 23) "_law_written" 3 [] .none .none .none (.str "law_in0011_01" 764) .none (.ref 382) .none 0 = x → Obj) ?x ?h
  (case f => exact fun x _ => x)
  (case h => conv => lhs; whnf)
noncomputable def o390 : Obj := by
  refine (?f : (x : Obj) → fO (nS pw 24) "_law_add" 3 [] .none .none .none (.str "law_in0011_01" 764) .none (.ref 389) .none 0 = x → Obj) ?x ?h
  (case f => exact fun x _ => x)
  (case h => conv => lhs; whnf)
noncomputable def o395 : Obj := by
  refine (?f : (x : Obj) → fO (nS pw 25) "_law_laid" 3 [] .none .none .none (.str "law_in0011_01" 764) .none (.ref 394) .none 0 = x → Obj) ?x ?h
  (case f => exact fun x _ => x)
  (case h => conv => lhs; whnf)
noncomputable def o400 : Obj := by
  refine (?f : (x : Obj) → fO (nS pw 26) "law" 3 [] .none .none .none (.str "law_in0011_01" 764) .none (.ref 399) .none 0 = x → Obj) ?x ?h
  (case f => exact fun x _ => x)
  (case h => conv => lhs; whnf)
-- the objects that stand behind the top: those that the law reaches, then the others
noncomputable def x2 (P : Params) : Obj := ⟨.none, .none, (.dict #[⟨(PyData.keyHash P "\x69mport.loaded._collections"), (.str "\x69mport.loaded._collections" 185), (.bool true)⟩, ⟨(PyData.keyHash P "class._frozen_importlib.BuiltinImporter"), (.str "class._frozen_importlib.BuiltinImporter" 187), (.ref 15)⟩, ⟨(PyData.keyHash P "watched.\x69mport"), (.str "watched.\x69mport" 208), (.ref 19)⟩, ⟨(PyData.keyHash P "class._frozen_importlib.ModuleSpec"), (.str "class._frozen_importlib.ModuleSpec" 218), (.ref 23)⟩, ⟨(PyData.keyHash P "sys.modules.booked-epoch"), (.str "sys.modules.booked-epoch" 247), (.int 3 0)⟩, ⟨(PyData.keyHash P "sys.modules.landed._collections"), (.str "sys.modules.landed._collections" 248), (.bool true)⟩, ⟨(PyData.keyHash P "\x69mport.later-laid._collections"), (.str "\x69mport.later-laid._collections" 263), (.bool true)⟩, ⟨(PyData.keyHash P "watched.library"), (.str "watched.library" 265), (.ref 28)⟩, ⟨(PyData.keyHash P "watched.library-objects"), (.str "watched.library-objects" 0), (.str "\x0d" 0)⟩, ⟨(PyData.keyHash P "watched.library-deep._collections"), (.str "watched.library-deep._collections" 266), (.str "\x04\x00\x00\x0c\x04\x00\x00\x0c\x04\x00\x00\x03\x04\x00\x00\x0c\x08\x04dict\x02" 0)⟩, ⟨(PyData.keyHash P "type.__subclasses__.collections.defaultdict.0"), (.str "type.__subclasses__.collections.defaultdict.0" 385), (.int 108 0)⟩, ⟨(PyData.keyHash P "type.__subclasses__.collections.defaultdict.n"), (.str "type.__subclasses__.collections.defaultdict.n" 386), (.int 1 0)⟩] 12), #[]⟩
noncomputable def x3 (P : Params) : Obj := ⟨(.type "dict"), .none, (.dict #[⟨(PyData.keyHash P "__name__"), (.str "__name__" 165), (.str "law_in0011_01" 764)⟩, ⟨(PyData.keyHash P "__doc__"), (.str "__doc__" 166), .none⟩, ⟨(PyData.keyHash P "__package__"), (.str "__package__" 167), .none⟩, ⟨(PyData.keyHash P "__loader__"), (.str "__loader__" 168), (.builtin "__main__.__loader__#opaque")⟩, ⟨(PyData.keyHash P "__spec__"), (.str "__spec__" 169), .none⟩, ⟨(PyData.keyHash P "__annotations__"), (.str "__annotations__" 170), (.ref 6)⟩, ⟨(PyData.keyHash P "__builtins__"), (.str "__builtins__" 171), (.ref 4)⟩, ⟨(PyData.keyHash P "__file__"), (.str "__file__" 173), (.str "/claim/cut.py" 172)⟩, ⟨(PyData.keyHash P "__cached__"), (.str "__cached__" 174), .none⟩, ⟨(PyData.keyHash P "defaultdict"), (.str "defaultdict" 272), (.type "collections.defaultdict")⟩, ⟨(PyData.keyHash P "_wall"), (.str "_wall" 285), (.ref 39)⟩, ⟨(PyData.keyHash P "_tuplegetter"), (.str "_tuplegetter" 344), (.ref 245)⟩, ⟨(PyData.keyHash P "tuplegetter_collections"), (.str "tuplegetter_collections" 345), (.ref 78)⟩, ⟨(PyData.keyHash P "FreezableDefaultDict"), (.str "FreezableDefaultDict" 388), (.ref 108)⟩, ⟨(PyData.keyHash P "Pair"), (.str "Pair" 503), (.ref 203)⟩, ⟨(PyData.keyHash P "tuplegetter_util"), (.str "tuplegetter_util" 601), (.ref 245)⟩, ⟨(PyData.keyHash P "_MAX_LENGTH"), (.str "_MAX_LENGTH" 603), (.int 80 602)⟩, ⟨(PyData.keyHash P "safe_repr"), (.str "safe_repr" 612), (.ref 257)⟩, ⟨(PyData.keyHash P "Mismatch"), (.str "Mismatch" 740), (.ref 328)⟩, ⟨(PyData.keyHash P "_Mismatch"), (.str "_Mismatch" 741), (.ref 328)⟩, ⟨(PyData.keyHash P "_count_diff_all_purpose"), (.str "_count_diff_all_purpose" 763), (.ref 338)⟩, ⟨(PyData.keyHash P "_law_noted"), (.str "_law_noted" 772), (.ref 345)⟩, ⟨(PyData.keyHash P "_law_texts"), (.str "_law_texts" 779), (.ref 352)⟩, ⟨(PyData.keyHash P "_law_thing"), (.str "_law_thing" 788), (.ref 359)⟩, ⟨(PyData.keyHash P "_law_drawn"), (.str "_law_drawn" 798), (.ref 366)⟩, ⟨(PyData.keyHash P "_law_bags"), (.str "_law_bags" 804), (.ref 371)⟩, ⟨(PyData.keyHash P "_law_due"), (.str "_law_due" 810), (.ref 376)⟩, ⟨(PyData.keyHash P "_law_written"), (.str "_law_written" 821), (.ref 383)⟩, ⟨(PyData.keyHash P "_law_add"), (.str "_law_add" 832), (.ref 390)⟩, ⟨(PyData.keyHash P "_law_laid"), (.str "_law_laid" 838), (.ref 395)⟩, ⟨(PyData.keyHash P "law"), (.str "law" 844), (.ref 400)⟩] 31), #[]⟩
noncomputable def x33 (P : Params) : Obj := ⟨(.type "tuple"), .none, (.seq #[] 0), #[]⟩
noncomputable def x35 (P : Params) : Obj := ⟨(.type "tuple"), .none, (.seq #[(.str "k" 282)] 0), #[]⟩
noncomputable def x36 (P : Params) : Obj := ⟨(.type "tuple"), .none, (.seq #[] 0), #[]⟩
noncomputable def x38 (P : Params) : Obj := ⟨(.type "code"), .none, (.fields #[(.str "_wall" 279), (.str "_wall" 280), (.str "/claim/cut.py" 281), (.int 2 0), (.int 1 0), (.int 0 0), (.int 0 0), (.int 3 0), (.ref 33), (.bool true), (.int 273 0), (.ref 34), .none, (.ref 35), (.ref 36), (.ref 37), (.int 283 0), (.int 2 0), (.str "/claim/cut.py" 284)]), #[]⟩
noncomputable def x47 (P : Params) : Obj := ⟨(.type "tuple"), .none, (.seq #[] 0), #[]⟩
noncomputable def x49 (P : Params) : Obj := ⟨(.type "tuple"), .none, (.seq #[(.str "self" 303), (.str "index" 304), (.str "doc" 305)] 0), #[]⟩
noncomputable def x50 (P : Params) : Obj := ⟨(.type "tuple"), .none, (.seq #[] 0), #[]⟩
noncomputable def x52 (P : Params) : Obj := ⟨(.type "code"), .none, (.fields #[(.str "__init__" 300), (.str "_tuplegetter.__init__" 301), (.str "/claim/cut.py" 302), (.int 8 0), (.int 3 0), (.int 0 0), (.int 0 0), (.int 3 0), (.ref 47), (.bool true), (.int 273 0), (.ref 48), .none, (.ref 49), (.ref 50), (.ref 51), (.int 306 0), (.int 8 0), (.str "/claim/cut.py" 307)]), #[]⟩
noncomputable def x54 (P : Params) : Obj := ⟨(.type "tuple"), .none, (.seq #[.none] 0), #[]⟩
noncomputable def x55 (P : Params) : Obj := ⟨(.type "tuple"), .none, (.seq #[] 0), #[]⟩
noncomputable def x57 (P : Params) : Obj := ⟨(.type "tuple"), .none, (.seq #[(.str "self" 312), (.str "obj" 313), (.str "objtype" 314)] 0), #[]⟩
noncomputable def x58 (P : Params) : Obj := ⟨(.type "tuple"), .none, (.seq #[] 0), #[]⟩
noncomputable def x60 (P : Params) : Obj := ⟨(.type "code"), .none, (.fields #[(.str "__get__" 309), (.str "_tuplegetter.__get__" 310), (.str "/claim/cut.py" 311), (.int 12 0), (.int 3 0), (.int 0 0), (.int 0 0), (.int 3 0), (.ref 55), (.bool true), (.int 273 0), (.ref 56), .none, (.ref 57), (.ref 58), (.ref 59), (.int 315 0), (.int 12 0), (.str "/claim/cut.py" 316)]), #[]⟩
noncomputable def x62 (P : Params) : Obj := ⟨(.type "tuple"), .none, (.seq #[] 0), #[]⟩
noncomputable def x64 (P : Params) : Obj := ⟨(.type "tuple"), .none, (.seq #[(.str "self" 321), (.str "obj" 322), (.str "value" 323)] 0), #[]⟩
noncomputable def x65 (P : Params) : Obj := ⟨(.type "tuple"), .none, (.seq #[] 0), #[]⟩
noncomputable def x67 (P : Params) : Obj := ⟨(.type "code"), .none, (.fields #[(.str "__set__" 318), (.str "_tuplegetter.__set__" 319), (.str "/claim/cut.py" 320), (.int 19 0), (.int 3 0), (.int 0 0), (.int 0 0), (.int 3 0), (.ref 62), (.bool true), (.int 273 0), (.ref 63), .none, (.ref 64), (.ref 65), (.ref 66), (.int 324 0), (.int 19 0), (.str "/claim/cut.py" 325)]), #[]⟩
noncomputable def x69 (P : Params) : Obj := ⟨(.type "tuple"), .none, (.seq #[] 0), #[]⟩
noncomputable def x71 (P : Params) : Obj := ⟨(.type "tuple"), .none, (.seq #[(.str "self" 330), (.str "obj" 331)] 0), #[]⟩
noncomputable def x72 (P : Params) : Obj := ⟨(.type "tuple"), .none, (.seq #[] 0), #[]⟩
noncomputable def x74 (P : Params) : Obj := ⟨(.type "code"), .none, (.fields #[(.str "__delete__" 327), (.str "_tuplegetter.__delete__" 328), (.str "/claim/cut.py" 329), (.int 22 0), (.int 2 0), (.int 0 0), (.int 0 0), (.int 3 0), (.ref 69), (.bool true), (.int 273 0), (.ref 70), .none, (.ref 71), (.ref 72), (.ref 73), (.int 332 0), (.int 22 0), (.str "/claim/cut.py" 333)]), #[]⟩
noncomputable def x76 (P : Params) : Obj := ⟨(.type "tuple"), .none, (.seq #[(.str "__doc__" 335), (.str "index" 336)] 0), #[]⟩
noncomputable def x77 (P : Params) : Obj := ⟨(.type "dict"), .none, (.dict #[⟨(PyData.keyHash P "__module__"), (.str "__module__" 295), (.str "cpy313.importlib.metadata._collections" 286)⟩, ⟨(PyData.keyHash P "__firstlineno__"), (.str "__firstlineno__" 299), (.int 6 298)⟩, ⟨(PyData.keyHash P "__init__"), (.str "__init__" 308), (.ref 53)⟩, ⟨(PyData.keyHash P "__get__"), (.str "__get__" 317), (.ref 61)⟩, ⟨(PyData.keyHash P "__set__"), (.str "__set__" 326), (.ref 68)⟩, ⟨(PyData.keyHash P "__delete__"), (.str "__delete__" 334), (.ref 75)⟩, ⟨(PyData.keyHash P "__static_attributes__"), (.str "__static_attributes__" 337), (.ref 76)⟩, ⟨(PyData.keyHash P "__dict__"), (.str "__dict__" 339), (.ref 79)⟩, ⟨(PyData.keyHash P "__weakref__"), (.str "__weakref__" 341), (.ref 80)⟩, ⟨(PyData.keyHash P "__doc__"), (.str "__doc__" 342), .none⟩] 4), #[]⟩
noncomputable def x78 (P : Params) : Obj := ⟨(.type "type"), .none, (.cls ⟨"_tuplegetter", [(.type "object")], [(.ref 78), (.type "object")], 77, "_tuplegetter", true, [], [], false, .none, false⟩), #[.none, .none, (.some (.str "_tuplegetter" 288)), (.some (.str "_tuplegetter" 296)), (.some (.builtin "object.__new__")), (.some (.bool true))]⟩
noncomputable def x79 (P : Params) : Obj := ⟨(.type "getset_descriptor"), .none, (.fields #[(.str "__dict__" 338), (.ref 78), (.builtin "function.__dict__"), (.builtin "function.__dict__#set")]), #[]⟩
noncomputable def x80 (P : Params) : Obj := ⟨(.type "getset_descriptor"), .none, (.fields #[(.str "__weakref__" 340), (.ref 78), (.builtin "ExceptionGroup.__weakref__"), .none]), #[]⟩
noncomputable def x83 (P : Params) : Obj := ⟨(.type "tuple"), .none, (.seq #[(.type "collections.defaultdict")] 0), #[]⟩
noncomputable def x86 (P : Params) : Obj := ⟨(.type "cell"), .none, (.cell (.some (.ref 108))), #[]⟩
noncomputable def x91 (P : Params) : Obj := ⟨(.type "tuple"), .none, (.seq #[(.ref 86)] 0), #[]⟩
noncomputable def x92 (P : Params) : Obj := ⟨(.type "tuple"), .none, (.seq #[(.str "__class__" 364)] 0), #[]⟩
noncomputable def x94 (P : Params) : Obj := ⟨(.type "tuple"), .none, (.seq #[(.str "self" 365), (.str "key" 366)] 0), #[]⟩
noncomputable def x95 (P : Params) : Obj := ⟨(.type "tuple"), .none, (.seq #[] 0), #[]⟩
noncomputable def x97 (P : Params) : Obj := ⟨(.type "code"), .none, (.fields #[(.str "__missing__" 361), (.str "FreezableDefaultDict.__missing__" 362), (.str "/claim/cut.py" 363), (.int 40 0), (.int 2 0), (.int 0 0), (.int 0 0), (.int 3 0), (.ref 92), (.bool true), (.int 273 0), (.ref 93), .none, (.ref 94), (.ref 95), (.ref 96), (.int 367 0), (.int 40 0), (.str "/claim/cut.py" 368)]), #[]⟩
noncomputable def x99 (P : Params) : Obj := ⟨(.type "tuple"), .none, (.seq #[] 0), #[]⟩
noncomputable def x101 (P : Params) : Obj := ⟨(.type "tuple"), .none, (.seq #[(.str "self" 373)] 0), #[]⟩
noncomputable def x102 (P : Params) : Obj := ⟨(.type "tuple"), .none, (.seq #[(.str "self" 374)] 0), #[]⟩
noncomputable def x104 (P : Params) : Obj := ⟨(.type "code"), .none, (.fields #[(.str "freeze" 370), (.str "FreezableDefaultDict.freeze" 371), (.str "/claim/cut.py" 372), (.int 43 0), (.int 1 0), (.int 0 0), (.int 0 0), (.int 3 0), (.ref 99), (.bool true), (.int 273 0), (.ref 100), .none, (.ref 101), (.ref 102), (.ref 103), (.int 375 0), (.int 43 0), (.str "/claim/cut.py" 376)]), #[]⟩
noncomputable def x106 (P : Params) : Obj := ⟨(.type "tuple"), .none, (.seq #[(.str "_frozen" 378)] 0), #[]⟩
noncomputable def x107 (P : Params) : Obj := ⟨(.type "dict"), .none, (.dict #[⟨(PyData.keyHash P "__module__"), (.str "__module__" 353), (.str "cpy313.importlib.metadata._collections" 286)⟩, ⟨(PyData.keyHash P "__firstlineno__"), (.str "__firstlineno__" 357), (.int 25 356)⟩, ⟨(PyData.keyHash P "__doc__"), (.str "__doc__" 359), (.str (dS (nS pw 5)) 358)⟩, ⟨(PyData.keyHash P "__missing__"), (.str "__missing__" 369), (.ref 98)⟩, ⟨(PyData.keyHash P "freeze"), (.str "freeze" 377), (.ref 105)⟩, ⟨(PyData.keyHash P "__static_attributes__"), (.str "__static_attributes__" 379), (.ref 106)⟩, ⟨(PyData.keyHash P "__dict__"), (.str "__dict__" 382), (.ref 109)⟩, ⟨(PyData.keyHash P "__weakref__"), (.str "__weakref__" 384), (.ref 110)⟩] 4), #[]⟩
noncomputable def x108 (P : Params) : Obj := ⟨(.type "type"), .none, (.cls ⟨"FreezableDefaultDict", [(.type "collections.defaultdict")], [(.ref 108), (.type "collections.defaultdict"), (.type "dict"), (.type "object")], 107, "FreezableDefaultDict", true, [""], [], false, .none, false⟩), #[(.some (.ref 83)), .none, (.some (.str "FreezableDefaultDict" 346)), (.some (.str "FreezableDefaultDict" 354)), (.some (.builtin "dict.__new__")), (.some (.bool true))]⟩
noncomputable def x109 (P : Params) : Obj := ⟨(.type "getset_descriptor"), .none, (.fields #[(.str "__dict__" 381), (.ref 108), (.builtin "function.__dict__"), (.builtin "function.__dict__#set")]), #[]⟩
noncomputable def x110 (P : Params) : Obj := ⟨(.type "getset_descriptor"), .none, (.fields #[(.str "__weakref__" 383), (.ref 108), (.builtin "ExceptionGroup.__weakref__"), .none]), #[]⟩
noncomputable def x113 (P : Params) : Obj := ⟨(.type "tuple"), .none, (.seq #[(.type "tuple")] 0), #[]⟩
noncomputable def x116 (P : Params) : Obj := ⟨(.type "cell"), .none, (.cell (.some (.ref 180))), #[]⟩
noncomputable def x121 (P : Params) : Obj := ⟨(.type "tuple"), .none, (.seq #[] 0), #[]⟩
noncomputable def x122 (P : Params) : Obj := ⟨(.type "tuple"), .none, (.seq #[(.str "name" 405), (.str "value" 406)] 0), #[]⟩
noncomputable def x123 (P : Params) : Obj := ⟨(.type "dict"), .none, (.dict #[] 0), #[]⟩
noncomputable def x124 (P : Params) : Obj := ⟨(.type "tuple"), .none, (.seq #[] 0), #[]⟩
noncomputable def x126 (P : Params) : Obj := ⟨(.type "tuple"), .none, (.seq #[(.str "_cls" 412), (.str "name" 413), (.str "value" 414)] 0), #[]⟩
noncomputable def x127 (P : Params) : Obj := ⟨(.type "tuple"), .none, (.seq #[] 0), #[]⟩
noncomputable def x129 (P : Params) : Obj := ⟨(.type "code"), .none, (.fields #[(.str "__new__" 409), (.str "Pair.__new__" 410), (.str "/claim/cut.py" 411), (.int 51 0), (.int 3 0), (.int 0 0), (.int 0 0), (.int 3 0), (.ref 124), (.bool true), (.int 273 0), (.ref 125), .none, (.ref 126), (.ref 127), (.ref 128), (.int 415 0), (.int 51 0), (.str "/claim/cut.py" 416)]), #[]⟩
noncomputable def x131 (P : Params) : Obj := ⟨(.type "tuple"), .none, (.seq #[] 0), #[]⟩
noncomputable def x133 (P : Params) : Obj := ⟨(.type "tuple"), .none, (.seq #[(.str "cls" 422), (.str "iterable" 423), (.str "result" 424)] 0), #[]⟩
noncomputable def x134 (P : Params) : Obj := ⟨(.type "tuple"), .none, (.seq #[] 0), #[]⟩
noncomputable def x136 (P : Params) : Obj := ⟨(.type "code"), .none, (.fields #[(.str "_make" 419), (.str "Pair._make" 420), (.str "/claim/cut.py" 421), (.int 55 0), (.int 2 0), (.int 0 0), (.int 0 0), (.int 3 0), (.ref 131), (.bool true), (.int 273 0), (.ref 132), .none, (.ref 133), (.ref 134), (.ref 135), (.int 425 0), (.int 55 0), (.str "/claim/cut.py" 426)]), #[]⟩
noncomputable def x138 (P : Params) : Obj := ⟨(.type "dict"), .none, (.dict #[⟨(PyData.keyHash P "__module__"), (.str "__module__" 429), (.str "cpy313.importlib.metadata._collections" 286)⟩, ⟨(PyData.keyHash P "__name__"), (.str "__name__" 432), (.str "_make" 431)⟩, ⟨(PyData.keyHash P "__qualname__"), (.str "__qualname__" 435), (.str "Pair._make" 434)⟩, ⟨(PyData.keyHash P "__doc__"), (.str "__doc__" 437), (.str (dS (nC (nS pw 6) 5)) 427)⟩, ⟨(PyData.keyHash P "__annotations__"), (.str "__annotations__" 439), (.ref 140)⟩] 5), #[]⟩
noncomputable def x139 (P : Params) : Obj := ⟨(.type "classmethod"), (.some 138), (.fields #[(.ref 137), (.bool false)]), #[]⟩
noncomputable def x140 (P : Params) : Obj := ⟨(.type "dict"), .none, (.dict #[] 0), #[]⟩
noncomputable def x141 (P : Params) : Obj := ⟨(.type "tuple"), .none, (.seq #[(.ref 116)] 0), #[]⟩
noncomputable def x142 (P : Params) : Obj := ⟨(.type "tuple"), .none, (.seq #[(.str "__class__" 444)] 0), #[]⟩
noncomputable def x144 (P : Params) : Obj := ⟨(.type "tuple"), .none, (.seq #[(.str "self" 445), (.str "kwds" 446), (.str "result" 447)] 0), #[]⟩
noncomputable def x145 (P : Params) : Obj := ⟨(.type "tuple"), .none, (.seq #[] 0), #[]⟩
noncomputable def x147 (P : Params) : Obj := ⟨(.type "code"), .none, (.fields #[(.str "_replace" 441), (.str "Pair._replace" 442), (.str "/claim/cut.py" 443), (.int 63 0), (.int 1 0), (.int 1 0), (.int 0 0), (.int 11 0), (.ref 142), (.bool true), (.int 273 0), (.ref 143), .none, (.ref 144), (.ref 145), (.ref 146), (.int 448 0), (.int 63 0), (.str "/claim/cut.py" 449)]), #[]⟩
noncomputable def x149 (P : Params) : Obj := ⟨(.type "tuple"), .none, (.seq #[] 0), #[]⟩
noncomputable def x151 (P : Params) : Obj := ⟨(.type "tuple"), .none, (.seq #[(.str "self" 456)] 0), #[]⟩
noncomputable def x152 (P : Params) : Obj := ⟨(.type "tuple"), .none, (.seq #[] 0), #[]⟩
noncomputable def x154 (P : Params) : Obj := ⟨(.type "code"), .none, (.fields #[(.str "__repr__" 453), (.str "Pair.__repr__" 454), (.str "/claim/cut.py" 455), (.int 74 0), (.int 1 0), (.int 0 0), (.int 0 0), (.int 3 0), (.ref 149), (.bool true), (.int 273 0), (.ref 150), .none, (.ref 151), (.ref 152), (.ref 153), (.int 457 0), (.int 74 0), (.str "/claim/cut.py" 458)]), #[]⟩
noncomputable def x156 (P : Params) : Obj := ⟨(.type "tuple"), .none, (.seq #[] 0), #[]⟩
noncomputable def x158 (P : Params) : Obj := ⟨(.type "tuple"), .none, (.seq #[(.str "self" 464)] 0), #[]⟩
noncomputable def x159 (P : Params) : Obj := ⟨(.type "tuple"), .none, (.seq #[] 0), #[]⟩
noncomputable def x161 (P : Params) : Obj := ⟨(.type "code"), .none, (.fields #[(.str "_asdict" 461), (.str "Pair._asdict" 462), (.str "/claim/cut.py" 463), (.int 78 0), (.int 1 0), (.int 0 0), (.int 0 0), (.int 3 0), (.ref 156), (.bool true), (.int 273 0), (.ref 157), .none, (.ref 158), (.ref 159), (.ref 160), (.int 465 0), (.int 78 0), (.str "/claim/cut.py" 466)]), #[]⟩
noncomputable def x163 (P : Params) : Obj := ⟨(.type "tuple"), .none, (.seq #[] 0), #[]⟩
noncomputable def x165 (P : Params) : Obj := ⟨(.type "tuple"), .none, (.seq #[(.str "self" 471)] 0), #[]⟩
noncomputable def x166 (P : Params) : Obj := ⟨(.type "tuple"), .none, (.seq #[] 0), #[]⟩
noncomputable def x168 (P : Params) : Obj := ⟨(.type "code"), .none, (.fields #[(.str "__getnewargs__" 468), (.str "Pair.__getnewargs__" 469), (.str "/claim/cut.py" 470), (.int 81 0), (.int 1 0), (.int 0 0), (.int 0 0), (.int 3 0), (.ref 163), (.bool true), (.int 273 0), (.ref 164), .none, (.ref 165), (.ref 166), (.ref 167), (.int 472 0), (.int 81 0), (.str "/claim/cut.py" 473)]), #[]⟩
noncomputable def x170 (P : Params) : Obj := ⟨(.type "tuple"), .none, (.seq #[(.str "name" 476), (.str "value" 477)] 0), #[]⟩
noncomputable def x171 (P : Params) : Obj := ⟨(.type "dict"), .none, (.dict #[⟨(PyData.keyHash P "index"), (.str "index" 485), (.int 0 479)⟩, ⟨(PyData.keyHash P "__doc__"), (.str "__doc__" 487), (.str "Alias for field number 0" 480)⟩] 2), #[]⟩
noncomputable def x172 (P : Params) : Obj := ⟨(.ref 78), (.some 171), .plain, #[]⟩
noncomputable def x174 (P : Params) : Obj := ⟨(.type "dict"), .none, (.dict #[⟨(PyData.keyHash P "index"), (.str "index" 495), (.int 1 489)⟩, ⟨(PyData.keyHash P "__doc__"), (.str "__doc__" 497), (.str "Alias for field number 1" 490)⟩] 2), #[]⟩
noncomputable def x175 (P : Params) : Obj := ⟨(.ref 78), (.some 174), .plain, #[]⟩
noncomputable def x177 (P : Params) : Obj := ⟨(.type "tuple"), .none, (.seq #[] 0), #[]⟩
noncomputable def x179 (P : Params) : Obj := ⟨(.type "dict"), .none, (.dict #[⟨(PyData.keyHash P "__module__"), (.str "__module__" 396), (.str "cpy313.importlib.metadata._collections" 286)⟩, ⟨(PyData.keyHash P "__firstlineno__"), (.str "__firstlineno__" 400), (.int 45 399)⟩, ⟨(PyData.keyHash P "__doc__"), (.str "__doc__" 402), (.str (dS (nS pw 6)) 401)⟩, ⟨(PyData.keyHash P "__slots__"), (.str "__slots__" 404), (.ref 121)⟩, ⟨(PyData.keyHash P "_fields"), (.str "_fields" 407), (.ref 122)⟩, ⟨(PyData.keyHash P "_field_defaults"), (.str "_field_defaults" 408), (.ref 123)⟩, ⟨(PyData.keyHash P "__new__"), (.str "__new__" 418), (.ref 181)⟩, ⟨(PyData.keyHash P "_make"), (.str "_make" 440), (.ref 139)⟩, ⟨(PyData.keyHash P "_replace"), (.str "_replace" 451), (.ref 148)⟩, ⟨(PyData.keyHash P "__replace__"), (.str "__replace__" 452), (.ref 148)⟩, ⟨(PyData.keyHash P "__repr__"), (.str "__repr__" 460), (.ref 155)⟩, ⟨(PyData.keyHash P "_asdict"), (.str "_asdict" 467), (.ref 162)⟩, ⟨(PyData.keyHash P "__getnewargs__"), (.str "__getnewargs__" 475), (.ref 169)⟩, ⟨(PyData.keyHash P "__match_args__"), (.str "__match_args__" 478), (.ref 170)⟩, ⟨(PyData.keyHash P "name"), (.str "name" 488), (.ref 172)⟩, ⟨(PyData.keyHash P "value"), (.str "value" 498), (.ref 175)⟩, ⟨(PyData.keyHash P "__static_attributes__"), (.str "__static_attributes__" 499), (.ref 177)⟩] 2), #[]⟩
noncomputable def x180 (P : Params) : Obj := ⟨(.type "type"), .none, (.cls ⟨"Pair", [(.type "tuple")], [(.ref 180), (.type "tuple"), (.type "object")], 179, "Pair", false, [], [(.ref 203)], false, .none, false⟩), #[(.some (.ref 113)), .none, (.some (.str "Pair" 389)), (.some (.str "Pair" 397)), (.some .none), (.some (.bool false))]⟩
noncomputable def x181 (P : Params) : Obj := ⟨(.type "staticmethod"), .none, (.fields #[(.ref 130)]), #[]⟩
noncomputable def x184 (P : Params) : Obj := ⟨(.type "tuple"), .none, (.seq #[(.ref 180)] 0), #[]⟩
noncomputable def x191 (P : Params) : Obj := ⟨(.type "tuple"), .none, (.seq #[] 0), #[]⟩
noncomputable def x193 (P : Params) : Obj := ⟨(.type "tuple"), .none, (.seq #[(.str "cls" 519), (.str "text" 520)] 0), #[]⟩
noncomputable def x194 (P : Params) : Obj := ⟨(.type "tuple"), .none, (.seq #[] 0), #[]⟩
noncomputable def x196 (P : Params) : Obj := ⟨(.type "code"), .none, (.fields #[(.str "parse" 516), (.str "Pair.parse" 517), (.str "/claim/cut.py" 518), (.int 89 0), (.int 2 0), (.int 0 0), (.int 0 0), (.int 3 0), (.ref 191), (.bool true), (.int 273 0), (.ref 192), .none, (.ref 193), (.ref 194), (.ref 195), (.int 521 0), (.int 89 0), (.str "/claim/cut.py" 522)]), #[]⟩
noncomputable def x198 (P : Params) : Obj := ⟨(.type "dict"), .none, (.dict #[⟨(PyData.keyHash P "__module__"), (.str "__module__" 524), (.str "cpy313.importlib.metadata._collections" 286)⟩, ⟨(PyData.keyHash P "__name__"), (.str "__name__" 527), (.str "parse" 526)⟩, ⟨(PyData.keyHash P "__qualname__"), (.str "__qualname__" 530), (.str "Pair.parse" 529)⟩, ⟨(PyData.keyHash P "__doc__"), (.str "__doc__" 532), .none⟩, ⟨(PyData.keyHash P "__annotations__"), (.str "__annotations__" 534), (.ref 200)⟩] 5), #[]⟩
noncomputable def x199 (P : Params) : Obj := ⟨(.type "classmethod"), (.some 198), (.fields #[(.ref 197), (.bool false)]), #[]⟩
noncomputable def x200 (P : Params) : Obj := ⟨(.type "dict"), .none, (.dict #[] 0), #[]⟩
noncomputable def x201 (P : Params) : Obj := ⟨(.type "tuple"), .none, (.seq #[] 0), #[]⟩
noncomputable def x202 (P : Params) : Obj := ⟨(.type "dict"), .none, (.dict #[⟨(PyData.keyHash P "__module__"), (.str "__module__" 511), (.str "cpy313.importlib.metadata._collections" 286)⟩, ⟨(PyData.keyHash P "__firstlineno__"), (.str "__firstlineno__" 515), (.int 87 514)⟩, ⟨(PyData.keyHash P "parse"), (.str "parse" 535), (.ref 199)⟩, ⟨(PyData.keyHash P "__static_attributes__"), (.str "__static_attributes__" 536), (.ref 201)⟩, ⟨(PyData.keyHash P "__dict__"), (.str "__dict__" 538), (.ref 204)⟩, ⟨(PyData.keyHash P "__doc__"), (.str "__doc__" 539), .none⟩] 3), #[]⟩
noncomputable def x203 (P : Params) : Obj := ⟨(.type "type"), .none, (.cls ⟨"Pair", [(.ref 180)], [(.ref 203), (.ref 180), (.type "tuple"), (.type "object")], 202, "Pair", true, [], [], false, .none, false⟩), #[(.some (.ref 184)), .none, (.some (.str "Pair" 504)), (.some (.str "Pair" 512)), (.some .none), (.some (.bool false))]⟩
noncomputable def x204 (P : Params) : Obj := ⟨(.type "getset_descriptor"), .none, (.fields #[(.str "__dict__" 537), (.ref 203), (.builtin "function.__dict__"), (.builtin "function.__dict__#set")]), #[]⟩
noncomputable def x214 (P : Params) : Obj := ⟨(.type "tuple"), .none, (.seq #[] 0), #[]⟩
noncomputable def x216 (P : Params) : Obj := ⟨(.type "tuple"), .none, (.seq #[(.str "self" 559), (.str "index" 560), (.str "doc" 561)] 0), #[]⟩
noncomputable def x217 (P : Params) : Obj := ⟨(.type "tuple"), .none, (.seq #[] 0), #[]⟩
noncomputable def x219 (P : Params) : Obj := ⟨(.type "code"), .none, (.fields #[(.str "__init__" 556), (.str "_tuplegetter.__init__" 557), (.str "/claim/cut.py" 558), (.int 95 0), (.int 3 0), (.int 0 0), (.int 0 0), (.int 3 0), (.ref 214), (.bool true), (.int 273 0), (.ref 215), .none, (.ref 216), (.ref 217), (.ref 218), (.int 562 0), (.int 95 0), (.str "/claim/cut.py" 563)]), #[]⟩
noncomputable def x221 (P : Params) : Obj := ⟨(.type "tuple"), .none, (.seq #[.none] 0), #[]⟩
noncomputable def x222 (P : Params) : Obj := ⟨(.type "tuple"), .none, (.seq #[] 0), #[]⟩
noncomputable def x224 (P : Params) : Obj := ⟨(.type "tuple"), .none, (.seq #[(.str "self" 568), (.str "obj" 569), (.str "objtype" 570)] 0), #[]⟩
noncomputable def x225 (P : Params) : Obj := ⟨(.type "tuple"), .none, (.seq #[] 0), #[]⟩
noncomputable def x227 (P : Params) : Obj := ⟨(.type "code"), .none, (.fields #[(.str "__get__" 565), (.str "_tuplegetter.__get__" 566), (.str "/claim/cut.py" 567), (.int 99 0), (.int 3 0), (.int 0 0), (.int 0 0), (.int 3 0), (.ref 222), (.bool true), (.int 273 0), (.ref 223), .none, (.ref 224), (.ref 225), (.ref 226), (.int 571 0), (.int 99 0), (.str "/claim/cut.py" 572)]), #[]⟩
noncomputable def x229 (P : Params) : Obj := ⟨(.type "tuple"), .none, (.seq #[] 0), #[]⟩
noncomputable def x231 (P : Params) : Obj := ⟨(.type "tuple"), .none, (.seq #[(.str "self" 577), (.str "obj" 578), (.str "value" 579)] 0), #[]⟩
noncomputable def x232 (P : Params) : Obj := ⟨(.type "tuple"), .none, (.seq #[] 0), #[]⟩
noncomputable def x234 (P : Params) : Obj := ⟨(.type "code"), .none, (.fields #[(.str "__set__" 574), (.str "_tuplegetter.__set__" 575), (.str "/claim/cut.py" 576), (.int 106 0), (.int 3 0), (.int 0 0), (.int 0 0), (.int 3 0), (.ref 229), (.bool true), (.int 273 0), (.ref 230), .none, (.ref 231), (.ref 232), (.ref 233), (.int 580 0), (.int 106 0), (.str "/claim/cut.py" 581)]), #[]⟩
noncomputable def x236 (P : Params) : Obj := ⟨(.type "tuple"), .none, (.seq #[] 0), #[]⟩
noncomputable def x238 (P : Params) : Obj := ⟨(.type "tuple"), .none, (.seq #[(.str "self" 586), (.str "obj" 587)] 0), #[]⟩
noncomputable def x239 (P : Params) : Obj := ⟨(.type "tuple"), .none, (.seq #[] 0), #[]⟩
noncomputable def x241 (P : Params) : Obj := ⟨(.type "code"), .none, (.fields #[(.str "__delete__" 583), (.str "_tuplegetter.__delete__" 584), (.str "/claim/cut.py" 585), (.int 109 0), (.int 2 0), (.int 0 0), (.int 0 0), (.int 3 0), (.ref 236), (.bool true), (.int 273 0), (.ref 237), .none, (.ref 238), (.ref 239), (.ref 240), (.int 588 0), (.int 109 0), (.str "/claim/cut.py" 589)]), #[]⟩
noncomputable def x243 (P : Params) : Obj := ⟨(.type "tuple"), .none, (.seq #[(.str "__doc__" 591), (.str "index" 592)] 0), #[]⟩
noncomputable def x244 (P : Params) : Obj := ⟨(.type "dict"), .none, (.dict #[⟨(PyData.keyHash P "__module__"), (.str "__module__" 551), (.str "cpy313.unittest.util" 542)⟩, ⟨(PyData.keyHash P "__firstlineno__"), (.str "__firstlineno__" 555), (.int 93 554)⟩, ⟨(PyData.keyHash P "__init__"), (.str "__init__" 564), (.ref 220)⟩, ⟨(PyData.keyHash P "__get__"), (.str "__get__" 573), (.ref 228)⟩, ⟨(PyData.keyHash P "__set__"), (.str "__set__" 582), (.ref 235)⟩, ⟨(PyData.keyHash P "__delete__"), (.str "__delete__" 590), (.ref 242)⟩, ⟨(PyData.keyHash P "__static_attributes__"), (.str "__static_attributes__" 593), (.ref 243)⟩, ⟨(PyData.keyHash P "__dict__"), (.str "__dict__" 595), (.ref 246)⟩, ⟨(PyData.keyHash P "__weakref__"), (.str "__weakref__" 597), (.ref 247)⟩, ⟨(PyData.keyHash P "__doc__"), (.str "__doc__" 598), .none⟩] 4), #[]⟩
noncomputable def x245 (P : Params) : Obj := ⟨(.type "type"), .none, (.cls ⟨"_tuplegetter", [(.type "object")], [(.ref 245), (.type "object")], 244, "_tuplegetter", true, [], [], false, .none, false⟩), #[.none, .none, (.some (.str "_tuplegetter" 544)), (.some (.str "_tuplegetter" 552)), (.some (.builtin "object.__new__")), (.some (.bool true))]⟩
noncomputable def x246 (P : Params) : Obj := ⟨(.type "getset_descriptor"), .none, (.fields #[(.str "__dict__" 594), (.ref 245), (.builtin "function.__dict__"), (.builtin "function.__dict__#set")]), #[]⟩
noncomputable def x247 (P : Params) : Obj := ⟨(.type "getset_descriptor"), .none, (.fields #[(.str "__weakref__" 596), (.ref 245), (.builtin "ExceptionGroup.__weakref__"), .none]), #[]⟩
noncomputable def x250 (P : Params) : Obj := ⟨(.type "tuple"), .none, (.seq #[(.bool false)] 0), #[]⟩
noncomputable def x251 (P : Params) : Obj := ⟨(.type "tuple"), .none, (.seq #[] 0), #[]⟩
noncomputable def x253 (P : Params) : Obj := ⟨(.type "tuple"), .none, (.seq #[(.str "obj" 607), (.str "short" 608), (.str "result" 609)] 0), #[]⟩
noncomputable def x254 (P : Params) : Obj := ⟨(.type "tuple"), .none, (.seq #[] 0), #[]⟩
noncomputable def x256 (P : Params) : Obj := ⟨(.type "code"), .none, (.fields #[(.str "safe_repr" 604), (.str "safe_repr" 605), (.str "/claim/cut.py" 606), (.int 113 0), (.int 2 0), (.int 0 0), (.int 0 0), (.int 3 0), (.ref 251), (.bool true), (.int 273 0), (.ref 252), .none, (.ref 253), (.ref 254), (.ref 255), (.int 610 0), (.int 113 0), (.str "/claim/cut.py" 611)]), #[]⟩
noncomputable def x258 (P : Params) : Obj := ⟨(.type "tuple"), .none, (.seq #[(.type "tuple")] 0), #[]⟩
noncomputable def x261 (P : Params) : Obj := ⟨(.type "cell"), .none, (.cell (.some (.ref 328))), #[]⟩
noncomputable def x266 (P : Params) : Obj := ⟨(.type "tuple"), .none, (.seq #[] 0), #[]⟩
noncomputable def x267 (P : Params) : Obj := ⟨(.type "tuple"), .none, (.seq #[(.str "actual" 629), (.str "expected" 630), (.str "value" 631)] 0), #[]⟩
noncomputable def x268 (P : Params) : Obj := ⟨(.type "dict"), .none, (.dict #[] 0), #[]⟩
noncomputable def x269 (P : Params) : Obj := ⟨(.type "tuple"), .none, (.seq #[] 0), #[]⟩
noncomputable def x271 (P : Params) : Obj := ⟨(.type "tuple"), .none, (.seq #[(.str "_cls" 637), (.str "actual" 638), (.str "expected" 639), (.str "value" 640)] 0), #[]⟩
noncomputable def x272 (P : Params) : Obj := ⟨(.type "tuple"), .none, (.seq #[] 0), #[]⟩
noncomputable def x274 (P : Params) : Obj := ⟨(.type "code"), .none, (.fields #[(.str "__new__" 634), (.str "Mismatch.__new__" 635), (.str "/claim/cut.py" 636), (.int 127 0), (.int 4 0), (.int 0 0), (.int 0 0), (.int 3 0), (.ref 269), (.bool true), (.int 273 0), (.ref 270), .none, (.ref 271), (.ref 272), (.ref 273), (.int 641 0), (.int 127 0), (.str "/claim/cut.py" 642)]), #[]⟩
noncomputable def x276 (P : Params) : Obj := ⟨(.type "tuple"), .none, (.seq #[] 0), #[]⟩
noncomputable def x278 (P : Params) : Obj := ⟨(.type "tuple"), .none, (.seq #[(.str "cls" 648), (.str "iterable" 649), (.str "result" 650)] 0), #[]⟩
noncomputable def x279 (P : Params) : Obj := ⟨(.type "tuple"), .none, (.seq #[] 0), #[]⟩
noncomputable def x281 (P : Params) : Obj := ⟨(.type "code"), .none, (.fields #[(.str "_make" 645), (.str "Mismatch._make" 646), (.str "/claim/cut.py" 647), (.int 131 0), (.int 2 0), (.int 0 0), (.int 0 0), (.int 3 0), (.ref 276), (.bool true), (.int 273 0), (.ref 277), .none, (.ref 278), (.ref 279), (.ref 280), (.int 651 0), (.int 131 0), (.str "/claim/cut.py" 652)]), #[]⟩
noncomputable def x283 (P : Params) : Obj := ⟨(.type "dict"), .none, (.dict #[⟨(PyData.keyHash P "__module__"), (.str "__module__" 655), (.str "cpy313.unittest.util" 542)⟩, ⟨(PyData.keyHash P "__name__"), (.str "__name__" 658), (.str "_make" 657)⟩, ⟨(PyData.keyHash P "__qualname__"), (.str "__qualname__" 661), (.str "Mismatch._make" 660)⟩, ⟨(PyData.keyHash P "__doc__"), (.str "__doc__" 663), (.str (dS (nC (nS pw 13) 5)) 653)⟩, ⟨(PyData.keyHash P "__annotations__"), (.str "__annotations__" 665), (.ref 285)⟩] 5), #[]⟩
noncomputable def x284 (P : Params) : Obj := ⟨(.type "classmethod"), (.some 283), (.fields #[(.ref 282), (.bool false)]), #[]⟩
noncomputable def x285 (P : Params) : Obj := ⟨(.type "dict"), .none, (.dict #[] 0), #[]⟩
noncomputable def x286 (P : Params) : Obj := ⟨(.type "tuple"), .none, (.seq #[(.ref 261)] 0), #[]⟩
noncomputable def x287 (P : Params) : Obj := ⟨(.type "tuple"), .none, (.seq #[(.str "__class__" 670)] 0), #[]⟩
noncomputable def x289 (P : Params) : Obj := ⟨(.type "tuple"), .none, (.seq #[(.str "self" 671), (.str "kwds" 672), (.str "result" 673)] 0), #[]⟩
noncomputable def x290 (P : Params) : Obj := ⟨(.type "tuple"), .none, (.seq #[] 0), #[]⟩
noncomputable def x292 (P : Params) : Obj := ⟨(.type "code"), .none, (.fields #[(.str "_replace" 667), (.str "Mismatch._replace" 668), (.str "/claim/cut.py" 669), (.int 139 0), (.int 1 0), (.int 1 0), (.int 0 0), (.int 11 0), (.ref 287), (.bool true), (.int 273 0), (.ref 288), .none, (.ref 289), (.ref 290), (.ref 291), (.int 674 0), (.int 139 0), (.str "/claim/cut.py" 675)]), #[]⟩
noncomputable def x294 (P : Params) : Obj := ⟨(.type "tuple"), .none, (.seq #[] 0), #[]⟩
noncomputable def x296 (P : Params) : Obj := ⟨(.type "tuple"), .none, (.seq #[(.str "self" 682)] 0), #[]⟩
noncomputable def x297 (P : Params) : Obj := ⟨(.type "tuple"), .none, (.seq #[] 0), #[]⟩
noncomputable def x299 (P : Params) : Obj := ⟨(.type "code"), .none, (.fields #[(.str "__repr__" 679), (.str "Mismatch.__repr__" 680), (.str "/claim/cut.py" 681), (.int 150 0), (.int 1 0), (.int 0 0), (.int 0 0), (.int 3 0), (.ref 294), (.bool true), (.int 273 0), (.ref 295), .none, (.ref 296), (.ref 297), (.ref 298), (.int 683 0), (.int 150 0), (.str "/claim/cut.py" 684)]), #[]⟩
noncomputable def x301 (P : Params) : Obj := ⟨(.type "tuple"), .none, (.seq #[] 0), #[]⟩
noncomputable def x303 (P : Params) : Obj := ⟨(.type "tuple"), .none, (.seq #[(.str "self" 690)] 0), #[]⟩
noncomputable def x304 (P : Params) : Obj := ⟨(.type "tuple"), .none, (.seq #[] 0), #[]⟩
noncomputable def x306 (P : Params) : Obj := ⟨(.type "code"), .none, (.fields #[(.str "_asdict" 687), (.str "Mismatch._asdict" 688), (.str "/claim/cut.py" 689), (.int 154 0), (.int 1 0), (.int 0 0), (.int 0 0), (.int 3 0), (.ref 301), (.bool true), (.int 273 0), (.ref 302), .none, (.ref 303), (.ref 304), (.ref 305), (.int 691 0), (.int 154 0), (.str "/claim/cut.py" 692)]), #[]⟩
noncomputable def x308 (P : Params) : Obj := ⟨(.type "tuple"), .none, (.seq #[] 0), #[]⟩
noncomputable def x310 (P : Params) : Obj := ⟨(.type "tuple"), .none, (.seq #[(.str "self" 697)] 0), #[]⟩
noncomputable def x311 (P : Params) : Obj := ⟨(.type "tuple"), .none, (.seq #[] 0), #[]⟩
noncomputable def x313 (P : Params) : Obj := ⟨(.type "code"), .none, (.fields #[(.str "__getnewargs__" 694), (.str "Mismatch.__getnewargs__" 695), (.str "/claim/cut.py" 696), (.int 157 0), (.int 1 0), (.int 0 0), (.int 0 0), (.int 3 0), (.ref 308), (.bool true), (.int 273 0), (.ref 309), .none, (.ref 310), (.ref 311), (.ref 312), (.int 698 0), (.int 157 0), (.str "/claim/cut.py" 699)]), #[]⟩
noncomputable def x315 (P : Params) : Obj := ⟨(.type "tuple"), .none, (.seq #[(.str "actual" 702), (.str "expected" 703), (.str "value" 704)] 0), #[]⟩
noncomputable def x316 (P : Params) : Obj := ⟨(.type "dict"), .none, (.dict #[⟨(PyData.keyHash P "index"), (.str "index" 712), (.int 0 706)⟩, ⟨(PyData.keyHash P "__doc__"), (.str "__doc__" 714), (.str "Alias for field number 0" 707)⟩] 2), #[]⟩
noncomputable def x317 (P : Params) : Obj := ⟨(.ref 245), (.some 316), .plain, #[]⟩
noncomputable def x319 (P : Params) : Obj := ⟨(.type "dict"), .none, (.dict #[⟨(PyData.keyHash P "index"), (.str "index" 722), (.int 1 716)⟩, ⟨(PyData.keyHash P "__doc__"), (.str "__doc__" 724), (.str "Alias for field number 1" 717)⟩] 2), #[]⟩
noncomputable def x320 (P : Params) : Obj := ⟨(.ref 245), (.some 319), .plain, #[]⟩
noncomputable def x322 (P : Params) : Obj := ⟨(.type "dict"), .none, (.dict #[⟨(PyData.keyHash P "index"), (.str "index" 732), (.int 2 726)⟩, ⟨(PyData.keyHash P "__doc__"), (.str "__doc__" 734), (.str "Alias for field number 2" 727)⟩] 2), #[]⟩
noncomputable def x323 (P : Params) : Obj := ⟨(.ref 245), (.some 322), .plain, #[]⟩
noncomputable def x325 (P : Params) : Obj := ⟨(.type "tuple"), .none, (.seq #[] 0), #[]⟩
noncomputable def x327 (P : Params) : Obj := ⟨(.type "dict"), .none, (.dict #[⟨(PyData.keyHash P "__module__"), (.str "__module__" 620), (.str "cpy313.unittest.util" 542)⟩, ⟨(PyData.keyHash P "__firstlineno__"), (.str "__firstlineno__" 624), (.int 121 623)⟩, ⟨(PyData.keyHash P "__doc__"), (.str "__doc__" 626), (.str (dS (nS pw 13)) 625)⟩, ⟨(PyData.keyHash P "__slots__"), (.str "__slots__" 628), (.ref 266)⟩, ⟨(PyData.keyHash P "_fields"), (.str "_fields" 632), (.ref 267)⟩, ⟨(PyData.keyHash P "_field_defaults"), (.str "_field_defaults" 633), (.ref 268)⟩, ⟨(PyData.keyHash P "__new__"), (.str "__new__" 644), (.ref 329)⟩, ⟨(PyData.keyHash P "_make"), (.str "_make" 666), (.ref 284)⟩, ⟨(PyData.keyHash P "_replace"), (.str "_replace" 677), (.ref 293)⟩, ⟨(PyData.keyHash P "__replace__"), (.str "__replace__" 678), (.ref 293)⟩, ⟨(PyData.keyHash P "__repr__"), (.str "__repr__" 686), (.ref 300)⟩, ⟨(PyData.keyHash P "_asdict"), (.str "_asdict" 693), (.ref 307)⟩, ⟨(PyData.keyHash P "__getnewargs__"), (.str "__getnewargs__" 701), (.ref 314)⟩, ⟨(PyData.keyHash P "__match_args__"), (.str "__match_args__" 705), (.ref 315)⟩, ⟨(PyData.keyHash P "actual"), (.str "actual" 715), (.ref 317)⟩, ⟨(PyData.keyHash P "expected"), (.str "expected" 725), (.ref 320)⟩, ⟨(PyData.keyHash P "value"), (.str "value" 735), (.ref 323)⟩, ⟨(PyData.keyHash P "__static_attributes__"), (.str "__static_attributes__" 736), (.ref 325)⟩] 2), #[]⟩
noncomputable def x328 (P : Params) : Obj := ⟨(.type "type"), .none, (.cls ⟨"Mismatch", [(.type "tuple")], [(.ref 328), (.type "tuple"), (.type "object")], 327, "Mismatch", false, [], [], false, .none, false⟩), #[(.some (.ref 258)), .none, (.some (.str "Mismatch" 613)), (.some (.str "Mismatch" 621)), (.some .none), (.some (.bool false))]⟩
noncomputable def x329 (P : Params) : Obj := ⟨(.type "staticmethod"), .none, (.fields #[(.ref 275)]), #[]⟩
noncomputable def x332 (P : Params) : Obj := ⟨(.type "tuple"), .none, (.seq #[] 0), #[]⟩
noncomputable def x334 (P : Params) : Obj := ⟨(.type "tuple"), .none, (.seq #[(.str "actual" 745), (.str "expected" 746), (.str "s" 747), (.str "t" 748), (.str "m" 749), (.str "n" 750), (.str "NULL" 751), (.str "result" 752), (.str "i" 753), (.str "elem" 754), (.str "cnt_s" 755), (.str "cnt_t" 756), (.str "j" 757), (.str "other_elem" 758), (.str "diff" 759)] 0), #[]⟩
noncomputable def x335 (P : Params) : Obj := ⟨(.type "tuple"), .none, (.seq #[] 0), #[]⟩
noncomputable def x337 (P : Params) : Obj := ⟨(.type "code"), .none, (.fields #[(.str "_count_diff_all_purpose" 742), (.str "_count_diff_all_purpose" 743), (.str "/claim/cut.py" 744), (.int 165 0), (.int 2 0), (.int 0 0), (.int 0 0), (.int 3 0), (.ref 332), (.bool true), (.int 273 0), (.ref 333), .none, (.ref 334), (.ref 335), (.ref 336), (.int 760 0), (.int 165 0), (.str "/claim/cut.py" 761)]), #[]⟩
noncomputable def x339 (P : Params) : Obj := ⟨(.type "tuple"), .none, (.seq #[] 0), #[]⟩
noncomputable def x341 (P : Params) : Obj := ⟨(.type "tuple"), .none, (.seq #[(.str "notes" 769)] 0), #[]⟩
noncomputable def x342 (P : Params) : Obj := ⟨(.type "tuple"), .none, (.seq #[] 0), #[]⟩
noncomputable def x344 (P : Params) : Obj := ⟨(.type "code"), .none, (.fields #[(.str "_law_noted" 766), (.str "_law_noted" 767), (.str "/claim/cut.py" 768), (.int 198 0), (.int 1 0), (.int 0 0), (.int 0 0), (.int 3 0), (.ref 339), (.bool true), (.int 273 0), (.ref 340), .none, (.ref 341), (.ref 342), (.ref 343), (.int 770 0), (.int 198 0), (.str "/claim/cut.py" 771)]), #[]⟩
noncomputable def x346 (P : Params) : Obj := ⟨(.type "tuple"), .none, (.seq #[] 0), #[]⟩
noncomputable def x348 (P : Params) : Obj := ⟨(.type "tuple"), .none, (.seq #[(.str "signs" 776)] 0), #[]⟩
noncomputable def x349 (P : Params) : Obj := ⟨(.type "tuple"), .none, (.seq #[] 0), #[]⟩
noncomputable def x351 (P : Params) : Obj := ⟨(.type "code"), .none, (.fields #[(.str "_law_texts" 773), (.str "_law_texts" 774), (.str "/claim/cut.py" 775), (.int 201 0), (.int 0 0), (.int 0 0), (.int 0 0), (.int 3 0), (.ref 346), (.bool true), (.int 273 0), (.ref 347), .none, (.ref 348), (.ref 349), (.ref 350), (.int 777 0), (.int 201 0), (.str "/claim/cut.py" 778)]), #[]⟩
noncomputable def x353 (P : Params) : Obj := ⟨(.type "tuple"), .none, (.seq #[] 0), #[]⟩
noncomputable def x355 (P : Params) : Obj := ⟨(.type "tuple"), .none, (.seq #[(.str "y" 783), (.str "ahead" 784), (.str "z" 785)] 0), #[]⟩
noncomputable def x356 (P : Params) : Obj := ⟨(.type "tuple"), .none, (.seq #[] 0), #[]⟩
noncomputable def x358 (P : Params) : Obj := ⟨(.type "code"), .none, (.fields #[(.str "_law_thing" 780), (.str "_law_thing" 781), (.str "/claim/cut.py" 782), (.int 204 0), (.int 2 0), (.int 0 0), (.int 0 0), (.int 3 0), (.ref 353), (.bool true), (.int 273 0), (.ref 354), .none, (.ref 355), (.ref 356), (.ref 357), (.int 786 0), (.int 204 0), (.str "/claim/cut.py" 787)]), #[]⟩
noncomputable def x360 (P : Params) : Obj := ⟨(.type "tuple"), .none, (.seq #[] 0), #[]⟩
noncomputable def x362 (P : Params) : Obj := ⟨(.type "tuple"), .none, (.seq #[(.str "numbers" 792), (.str "drawn" 793), (.str "ahead" 794), (.str "x" 795)] 0), #[]⟩
noncomputable def x363 (P : Params) : Obj := ⟨(.type "tuple"), .none, (.seq #[] 0), #[]⟩
noncomputable def x365 (P : Params) : Obj := ⟨(.type "code"), .none, (.fields #[(.str "_law_drawn" 789), (.str "_law_drawn" 790), (.str "/claim/cut.py" 791), (.int 213 0), (.int 1 0), (.int 0 0), (.int 0 0), (.int 3 0), (.ref 360), (.bool true), (.int 273 0), (.ref 361), .none, (.ref 362), (.ref 363), (.ref 364), (.int 796 0), (.int 213 0), (.str "/claim/cut.py" 797)]), #[]⟩
noncomputable def x367 (P : Params) : Obj := ⟨(.type "tuple"), .none, (.seq #[] 0), #[]⟩
noncomputable def x370 (P : Params) : Obj := ⟨(.type "code"), .none, (.fields #[(.str "_law_bags" 799), (.str "_law_bags" 800), (.str "/claim/cut.py" 801), (.int 220 0), (.int 1 0), (.int 0 0), (.int 0 0), (.int 3 0), (.ref 367), (.bool true), (.int 273 0), (.ref 368), .none, .none, .none, (.ref 369), (.int 802 0), (.int 220 0), (.str "/claim/cut.py" 803)]), #[]⟩
noncomputable def x372 (P : Params) : Obj := ⟨(.type "tuple"), .none, (.seq #[] 0), #[]⟩
noncomputable def x375 (P : Params) : Obj := ⟨(.type "code"), .none, (.fields #[(.str "_law_due" 805), (.str "_law_due" 806), (.str "/claim/cut.py" 807), (.int 225 0), (.int 2 0), (.int 0 0), (.int 0 0), (.int 3 0), (.ref 372), (.bool true), (.int 273 0), (.ref 373), .none, .none, .none, (.ref 374), (.int 808 0), (.int 225 0), (.str "/claim/cut.py" 809)]), #[]⟩
noncomputable def x377 (P : Params) : Obj := ⟨(.type "tuple"), .none, (.seq #[] 0), #[]⟩
noncomputable def x379 (P : Params) : Obj := ⟨(.type "tuple"), .none, (.seq #[(.str "rows" 814), (.str "written" 815), (.str "k" 816), (.str "row" 817), (.str "blank" 818)] 0), #[]⟩
noncomputable def x380 (P : Params) : Obj := ⟨(.type "tuple"), .none, (.seq #[] 0), #[]⟩
noncomputable def x382 (P : Params) : Obj := ⟨(.type "code"), .none, (.fields #[(.str "_law_written" 811), (.str "_law_written" 812), (.str "/claim/cut.py" 813), (.int 234 0), (.int 1 0), (.int 0 0), (.int 0 0), (.int 3 0), (.ref 377), (.bool true), (.int 273 0), (.ref 378), .none, (.ref 379), (.ref 380), (.ref 381), (.int 819 0), (.int 234 0), (.str "/claim/cut.py" 820)]), #[]⟩
noncomputable def x384 (P : Params) : Obj := ⟨(.type "tuple"), .none, (.seq #[] 0), #[]⟩
noncomputable def x386 (P : Params) : Obj := ⟨(.type "tuple"), .none, (.seq #[(.str "book" 825), (.str "pairs" 826), (.str "pair" 827), (.str "now" 828), (.str "then" 829)] 0), #[]⟩
noncomputable def x387 (P : Params) : Obj := ⟨(.type "tuple"), .none, (.seq #[] 0), #[]⟩
noncomputable def x389 (P : Params) : Obj := ⟨(.type "code"), .none, (.fields #[(.str "_law_add" 822), (.str "_law_add" 823), (.str "/claim/cut.py" 824), (.int 240 0), (.int 2 0), (.int 0 0), (.int 0 0), (.int 3 0), (.ref 384), (.bool true), (.int 273 0), (.ref 385), .none, (.ref 386), (.ref 387), (.ref 388), (.int 830 0), (.int 240 0), (.str "/claim/cut.py" 831)]), #[]⟩
noncomputable def x391 (P : Params) : Obj := ⟨(.type "tuple"), .none, (.seq #[] 0), #[]⟩
noncomputable def x394 (P : Params) : Obj := ⟨(.type "code"), .none, (.fields #[(.str "_law_laid" 833), (.str "_law_laid" 834), (.str "/claim/cut.py" 835), (.int 244 0), (.int 2 0), (.int 0 0), (.int 0 0), (.int 3 0), (.ref 391), (.bool true), (.int 273 0), (.ref 392), .none, .none, .none, (.ref 393), (.int 836 0), (.int 244 0), (.str "/claim/cut.py" 837)]), #[]⟩
noncomputable def x396 (P : Params) : Obj := ⟨(.type "tuple"), .none, (.seq #[] 0), #[]⟩
noncomputable def x399 (P : Params) : Obj := ⟨(.type "code"), .none, (.fields #[(.str "law" 839), (.str "law" 840), (.str "/claim/cut.py" 841), (.int 246 0), (.int 1 0), (.int 0 0), (.int 0 0), (.int 3 0), (.ref 396), (.bool true), (.int 273 0), (.ref 397), .none, .none, .none, (.ref 398), (.int 842 0), (.int 246 0), (.str "/claim/cut.py" 843)]), #[]⟩
/-- the objects that the law reaches, as they stand behind the top -/
noncomputable def heap0 : Params → Frag := fun P =>
  (nat_lit 2, x2 P) ::
  (nat_lit 3, x3 P) ::
  (nat_lit 33, x33 P) ::
  (nat_lit 35, x35 P) ::
  (nat_lit 36, x36 P) ::
  (nat_lit 38, x38 P) ::
  (nat_lit 39, o39) ::
  (nat_lit 47, x47 P) ::
  (nat_lit 49, x49 P) ::
  (nat_lit 50, x50 P) ::
  (nat_lit 52, x52 P) ::
  (nat_lit 53, o53) ::
  (nat_lit 54, x54 P) ::
  (nat_lit 55, x55 P) ::
  (nat_lit 57, x57 P) ::
  (nat_lit 58, x58 P) ::
  (nat_lit 60, x60 P) ::
  (nat_lit 61, o61) ::
  (nat_lit 62, x62 P) ::
  (nat_lit 64, x64 P) ::
  (nat_lit 65, x65 P) ::
  (nat_lit 67, x67 P) ::
  (nat_lit 68, o68) ::
  (nat_lit 69, x69 P) ::
  (nat_lit 71, x71 P) ::
  (nat_lit 72, x72 P) ::
  (nat_lit 74, x74 P) ::
  (nat_lit 75, o75) ::
  (nat_lit 76, x76 P) ::
  (nat_lit 77, x77 P) ::
  (nat_lit 78, x78 P) ::
  (nat_lit 79, x79 P) ::
  (nat_lit 80, x80 P) ::
  (nat_lit 83, x83 P) ::
  (nat_lit 86, x86 P) ::
  (nat_lit 91, x91 P) ::
  (nat_lit 92, x92 P) ::
  (nat_lit 94, x94 P) ::
  (nat_lit 95, x95 P) ::
  (nat_lit 97, x97 P) ::
  (nat_lit 98, o98) ::
  (nat_lit 99, x99 P) ::
  (nat_lit 101, x101 P) ::
  (nat_lit 102, x102 P) ::
  (nat_lit 104, x104 P) ::
  (nat_lit 105, o105) ::
  (nat_lit 106, x106 P) ::
  (nat_lit 107, x107 P) ::
  (nat_lit 108, x108 P) ::
  (nat_lit 109, x109 P) ::
  (nat_lit 110, x110 P) ::
  (nat_lit 113, x113 P) ::
  (nat_lit 116, x116 P) ::
  (nat_lit 121, x121 P) ::
  (nat_lit 122, x122 P) ::
  (nat_lit 123, x123 P) ::
  (nat_lit 124, x124 P) ::
  (nat_lit 126, x126 P) ::
  (nat_lit 127, x127 P) ::
  (nat_lit 129, x129 P) ::
  (nat_lit 130, o130) ::
  (nat_lit 131, x131 P) ::
  (nat_lit 133, x133 P) ::
  (nat_lit 134, x134 P) ::
  (nat_lit 136, x136 P) ::
  (nat_lit 137, o137) ::
  (nat_lit 138, x138 P) ::
  (nat_lit 139, x139 P) ::
  (nat_lit 140, x140 P) ::
  (nat_lit 141, x141 P) ::
  (nat_lit 142, x142 P) ::
  (nat_lit 144, x144 P) ::
  (nat_lit 145, x145 P) ::
  (nat_lit 147, x147 P) ::
  (nat_lit 148, o148) ::
  (nat_lit 149, x149 P) ::
  (nat_lit 151, x151 P) ::
  (nat_lit 152, x152 P) ::
  (nat_lit 154, x154 P) ::
  (nat_lit 155, o155) ::
  (nat_lit 156, x156 P) ::
  (nat_lit 158, x158 P) ::
  (nat_lit 159, x159 P) ::
  (nat_lit 161, x161 P) ::
  (nat_lit 162, o162) ::
  (nat_lit 163, x163 P) ::
  (nat_lit 165, x165 P) ::
  (nat_lit 166, x166 P) ::
  (nat_lit 168, x168 P) ::
  (nat_lit 169, o169) ::
  (nat_lit 170, x170 P) ::
  (nat_lit 171, x171 P) ::
  (nat_lit 172, x172 P) ::
  (nat_lit 174, x174 P) ::
  (nat_lit 175, x175 P) ::
  (nat_lit 177, x177 P) ::
  (nat_lit 179, x179 P) ::
  (nat_lit 180, x180 P) ::
  (nat_lit 181, x181 P) ::
  (nat_lit 184, x184 P) ::
  (nat_lit 191, x191 P) ::
  (nat_lit 193, x193 P) ::
  (nat_lit 194, x194 P) ::
  (nat_lit 196, x196 P) ::
  (nat_lit 197, o197) ::
  (nat_lit 198, x198 P) ::
  (nat_lit 199, x199 P) ::
  (nat_lit 200, x200 P) ::
  (nat_lit 201, x201 P) ::
  (nat_lit 202, x202 P) ::
  (nat_lit 203, x203 P) ::
  (nat_lit 204, x204 P) ::
  (nat_lit 214, x214 P) ::
  (nat_lit 216, x216 P) ::
  (nat_lit 217, x217 P) ::
  (nat_lit 219, x219 P) ::
  (nat_lit 220, o220) ::
  (nat_lit 221, x221 P) ::
  (nat_lit 222, x222 P) ::
  (nat_lit 224, x224 P) ::
  (nat_lit 225, x225 P) ::
  (nat_lit 227, x227 P) ::
  (nat_lit 228, o228) ::
  (nat_lit 229, x229 P) ::
  (nat_lit 231, x231 P) ::
  (nat_lit 232, x232 P) ::
  (nat_lit 234, x234 P) ::
  (nat_lit 235, o235) ::
  (nat_lit 236, x236 P) ::
  (nat_lit 238, x238 P) ::
  (nat_lit 239, x239 P) ::
  (nat_lit 241, x241 P) ::
  (nat_lit 242, o242) ::
  (nat_lit 243, x243 P) ::
  (nat_lit 244, x244 P) ::
  (nat_lit 245, x245 P) ::
  (nat_lit 246, x246 P) ::
  (nat_lit 247, x247 P) ::
  (nat_lit 250, x250 P) ::
  (nat_lit 251, x251 P) ::
  (nat_lit 253, x253 P) ::
  (nat_lit 254, x254 P) ::
  (nat_lit 256, x256 P) ::
  (nat_lit 257, o257) ::
  (nat_lit 258, x258 P) ::
  (nat_lit 261, x261 P) ::
  (nat_lit 266, x266 P) ::
  (nat_lit 267, x267 P) ::
  (nat_lit 268, x268 P) ::
  (nat_lit 269, x269 P) ::
  (nat_lit 271, x271 P) ::
  (nat_lit 272, x272 P) ::
  (nat_lit 274, x274 P) ::
  (nat_lit 275, o275) ::
  (nat_lit 276, x276 P) ::
  (nat_lit 278, x278 P) ::
  (nat_lit 279, x279 P) ::
  (nat_lit 281, x281 P) ::
  (nat_lit 282, o282) ::
  (nat_lit 283, x283 P) ::
  (nat_lit 284, x284 P) ::
  (nat_lit 285, x285 P) ::
  (nat_lit 286, x286 P) ::
  (nat_lit 287, x287 P) ::
  (nat_lit 289, x289 P) ::
  (nat_lit 290, x290 P) ::
  (nat_lit 292, x292 P) ::
  (nat_lit 293, o293) ::
  (nat_lit 294, x294 P) ::
  (nat_lit 296, x296 P) ::
  (nat_lit 297, x297 P) ::
  (nat_lit 299, x299 P) ::
  (nat_lit 300, o300) ::
  (nat_lit 301, x301 P) ::
  (nat_lit 303, x303 P) ::
  (nat_lit 304, x304 P) ::
  (nat_lit 306, x306 P) ::
  (nat_lit 307, o307) ::
  (nat_lit 308, x308 P) ::
  (nat_lit 310, x310 P) ::
  (nat_lit 311, x311 P) ::
  (nat_lit 313, x313 P) ::
  (nat_lit 314, o314) ::
  (nat_lit 315, x315 P) ::
  (nat_lit 316, x316 P) ::
  (nat_lit 317, x317 P) ::
  (nat_lit 319, x319 P) ::
  (nat_lit 320, x320 P) ::
  (nat_lit 322, x322 P) ::
  (nat_lit 323, x323 P) ::
  (nat_lit 325, x325 P) ::
  (nat_lit 327, x327 P) ::
  (nat_lit 328, x328 P) ::
  (nat_lit 329, x329 P) ::
  (nat_lit 332, x332 P) ::
  (nat_lit 334, x334 P) ::
  (nat_lit 335, x335 P) ::
  (nat_lit 337, x337 P) ::
  (nat_lit 338, o338) ::
  (nat_lit 339, x339 P) ::
  (nat_lit 341, x341 P) ::
  (nat_lit 342, x342 P) ::
  (nat_lit 344, x344 P) ::
  (nat_lit 345, o345) ::
  (nat_lit 346, x346 P) ::
  (nat_lit 348, x348 P) ::
  (nat_lit 349, x349 P) ::
  (nat_lit 351, x351 P) ::
  (nat_lit 352, o352) ::
  (nat_lit 353, x353 P) ::
  (nat_lit 355, x355 P) ::
  (nat_lit 356, x356 P) ::
  (nat_lit 358, x358 P) ::
  (nat_lit 359, o359) ::
  (nat_lit 360, x360 P) ::
  (nat_lit 362, x362 P) ::
  (nat_lit 363, x363 P) ::
  (nat_lit 365, x365 P) ::
  (nat_lit 366, o366) ::
  (nat_lit 367, x367 P) ::
  (nat_lit 370, x370 P) ::
  (nat_lit 371, o371) ::
  (nat_lit 372, x372 P) ::
  (nat_lit 375, x375 P) ::
  (nat_lit 376, o376) ::
  (nat_lit 377, x377 P) ::
  (nat_lit 379, x379 P) ::
  (nat_lit 380, x380 P) ::
  (nat_lit 382, x382 P) ::
  (nat_lit 383, o383) ::
  (nat_lit 384, x384 P) ::
  (nat_lit 386, x386 P) ::
  (nat_lit 387, x387 P) ::
  (nat_lit 389, x389 P) ::
  (nat_lit 390, o390) ::
  (nat_lit 391, x391 P) ::
  (nat_lit 394, x394 P) ::
  (nat_lit 395, o395) ::
  (nat_lit 396, x396 P) ::
  (nat_lit 399, x399 P) ::
  (nat_lit 400, o400) :: []
noncomputable def heapK : Params → Frag := fun P => by
  refine (?f : (x : Frag) → heap0 P = x → Frag) ?x ?h
  (case f => exact fun x _ => x)
  (case h =>
    delta heap0 x2 x3 x33 x35 x36 x38 x47 x49 x50 x52 x54 x55 x57 x58 x60 x62 x64 x65 x67 x69 x71 x72 x74 x76 x77 x78 x79 x80 x83 x86 x91 x92 x94 x95 x97 x99 x101 x102 x104 x106 x107 x108 x109 x110 x113 x116 x121 x122 x123 x124 x126 x127 x129 x131 x133 x134 x136 x138 x139 x140 x141 x142 x144 x145 x147 x149 x151 x152 x154 x156 x158 x159 x161 x163 x165 x166 x168 x170 x171 x172 x174 x175 x177 x179 x180 x181 x184 x191 x193 x194 x196 x198 x199 x200 x201 x202 x203 x204 x214 x216 x217 x219 x221 x222 x224 x225 x227 x229 x231 x232 x234 x236 x238 x239 x241 x243 x244 x245 x246 x247 x250 x251 x253 x254 x256 x258 x261 x266 x267 x268 x269 x271 x272 x274 x276 x278 x279 x281 x283 x284 x285 x286 x287 x289 x290 x292 x294 x296 x297 x299 x301 x303 x304 x306 x308 x310 x311 x313 x315 x316 x317 x319 x320 x322 x323 x325 x327 x328 x329 x332 x334 x335 x337 x339 x341 x342 x344 x346 x348 x349 x351 x353 x355 x356 x358 x360 x362 x363 x365 x367 x370 x372 x375 x377 x379 x380 x382 x384 x386 x387 x389 x391 x394 x396 x399 o39 o53 o61 o68 o75 o98 o105 o130 o137 o148 o155 o162 o169 o197 o220 o228 o235 o242 o257 o275 o282 o293 o300 o307 o314 o338 o345 o352 o359 o366 o371 o376 o383 o390 o395 o400
    exact rfl)
noncomputable def hkAs : List Addr := [2, 3, 33, 35, 36, 38, 39, 47, 49, 50, 52, 53, 54, 55, 57, 58, 60, 61, 62, 64, 65, 67, 68, 69, 71, 72, 74, 75, 76, 77, 78, 79, 80, 83, 86, 91, 92, 94, 95, 97, 98, 99, 101, 102, 104, 105, 106, 107, 108, 109, 110, 113, 116, 121, 122, 123, 124, 126, 127, 129, 130, 131, 133, 134, 136, 137, 138, 139, 140, 141, 142, 144, 145, 147, 148, 149, 151, 152, 154, 155, 156, 158, 159, 161, 162, 163, 165, 166, 168, 169, 170, 171, 172, 174, 175, 177, 179, 180, 181, 184, 191, 193, 194, 196, 197, 198, 199, 200, 201, 202, 203, 204, 214, 216, 217, 219, 220, 221, 222, 224, 225, 227, 228, 229, 231, 232, 234, 235, 236, 238, 239, 241, 242, 243, 244, 245, 246, 247, 250, 251, 253, 254, 256, 257, 258, 261, 266, 267, 268, 269, 271, 272, 274, 275, 276, 278, 279, 281, 282, 283, 284, 285, 286, 287, 289, 290, 292, 293, 294, 296, 297, 299, 300, 301, 303, 304, 306, 307, 308, 310, 311, 313, 314, 315, 316, 317, 319, 320, 322, 323, 325, 327, 328, 329, 332, 334, 335, 337, 338, 339, 341, 342, 344, 345, 346, 348, 349, 351, 352, 353, 355, 356, 358, 359, 360, 362, 363, 365, 366, 367, 370, 371, 372, 375, 376, 377, 379, 380, 382, 383, 384, 386, 387, 389, 390, 391, 394, 395, 396, 399, 400]
theorem hk_as (P : Params) : hkAs = (heapK P).map (·.1) := by kernel_rfl
noncomputable abbrev hkH : Hook := kmHook heapK hkAs hk_as [100, 397]
noncomputable def b1 (P : Params) : Obj := ⟨(.type "dict"), .none, (.dict #[⟨(PyData.keyHash P "builtins"), (.str "builtins" 162), (.ref 4)⟩, ⟨(PyData.keyHash P "__main__"), (.str "__main__" 163), (.ref 5)⟩, ⟨(PyData.keyHash P "_collections"), (.str "_collections" 246), (.ref 13)⟩] 3), #[]⟩
noncomputable def b2 (P : Params) : Obj := ⟨.none, .none, (.dict #[⟨(PyData.keyHash P "\x69mport.loaded._collections"), (.str "\x69mport.loaded._collections" 185), (.bool true)⟩, ⟨(PyData.keyHash P "class._frozen_importlib.BuiltinImporter"), (.str "class._frozen_importlib.BuiltinImporter" 187), (.ref 15)⟩, ⟨(PyData.keyHash P "watched.\x69mport"), (.str "watched.\x69mport" 208), (.ref 19)⟩, ⟨(PyData.keyHash P "class._frozen_importlib.ModuleSpec"), (.str "class._frozen_importlib.ModuleSpec" 218), (.ref 23)⟩, ⟨(PyData.keyHash P "sys.modules.booked-epoch"), (.str "sys.modules.booked-epoch" 247), (.int 3 0)⟩, ⟨(PyData.keyHash P "sys.modules.landed._collections"), (.str "sys.modules.landed._collections" 248), (.bool true)⟩, ⟨(PyData.keyHash P "\x69mport.later-laid._collections"), (.str "\x69mport.later-laid._collections" 263), (.bool true)⟩, ⟨(PyData.keyHash P "watched.library"), (.str "watched.library" 265), (.ref 28)⟩, ⟨(PyData.keyHash P "watched.library-objects"), (.str "watched.library-objects" 0), (.str "\x0d" 0)⟩, ⟨(PyData.keyHash P "watched.library-deep._collections"), (.str "watched.library-deep._collections" 266), (.str "\x04\x00\x00\x0c\x04\x00\x00\x0c\x04\x00\x00\x03\x04\x00\x00\x0c\x08\x04dict\x02" 0)⟩] 10), #[]⟩
noncomputable def b3 (P : Params) : Obj := ⟨(.type "dict"), .none, (.dict #[⟨(PyData.keyHash P "__name__"), (.str "__name__" 165), (.str "__main__" 164)⟩, ⟨(PyData.keyHash P "__doc__"), (.str "__doc__" 166), .none⟩, ⟨(PyData.keyHash P "__package__"), (.str "__package__" 167), .none⟩, ⟨(PyData.keyHash P "__loader__"), (.str "__loader__" 168), (.builtin "__main__.__loader__#opaque")⟩, ⟨(PyData.keyHash P "__spec__"), (.str "__spec__" 169), .none⟩, ⟨(PyData.keyHash P "__annotations__"), (.str "__annotations__" 170), (.ref 6)⟩, ⟨(PyData.keyHash P "__builtins__"), (.str "__builtins__" 171), (.ref 4)⟩, ⟨(PyData.keyHash P "__file__"), (.str "__file__" 173), (.str "/claim/cut.py" 172)⟩, ⟨(PyData.keyHash P "__cached__"), (.str "__cached__" 174), .none⟩, ⟨(PyData.keyHash P "defaultdict"), (.str "defaultdict" 272), (.type "collections.defaultdict")⟩] 10), #[]⟩
noncomputable def b11 (P : Params) : Obj := ⟨(.type "tuple"), .none, (.seq #[(.str "defaultdict" 182)] 0), #[]⟩
noncomputable def c12 (P : Params) : Obj := ⟨(.type "dict"), .none, (.dict #[⟨(PyData.keyHash P "__name__"), (.str "__name__" 250), (.str "_collections" 249)⟩, ⟨(PyData.keyHash P "__doc__"), (.str "__doc__" 251), (.builtin "off-the-table:_collections.__doc__:shared#opaque")⟩, ⟨(PyData.keyHash P "__package__"), (.str "__package__" 253), (.str "" 252)⟩, ⟨(PyData.keyHash P "__loader__"), (.str "__loader__" 254), (.builtin "off-the-table:_collections.__loader__:shared#opaque")⟩, ⟨(PyData.keyHash P "__spec__"), (.str "__spec__" 255), (.builtin "off-the-table:_collections.__spec__:shared#opaque")⟩, ⟨(PyData.keyHash P "_count_elements"), (.str "_count_elements" 256), (.builtin "_collections._count_elements")⟩, ⟨(PyData.keyHash P "deque"), (.str "deque" 257), (.type "collections.deque")⟩, ⟨(PyData.keyHash P "defaultdict"), (.str "defaultdict" 258), (.type "collections.defaultdict")⟩, ⟨(PyData.keyHash P "_deque_iterator"), (.str "_deque_iterator" 259), (.builtin "off-the-table:_collections._deque_iterator:shared#opaque")⟩, ⟨(PyData.keyHash P "_deque_reverse_iterator"), (.str "_deque_reverse_iterator" 260), (.builtin "off-the-table:_collections._deque_reverse_iterator:shared#opaque")⟩, ⟨(PyData.keyHash P "_tuplegetter"), (.str "_tuplegetter" 261), (.type "collections._tuplegetter")⟩, ⟨(PyData.keyHash P "OrderedDict"), (.str "OrderedDict" 262), (.type "collections.OrderedDict")⟩] 12), #[]⟩
noncomputable def b12 (P : Params) : Obj := ⟨(.type "dict"), .none, (.dict #[⟨(PyData.keyHash P "__name__"), (.str "__name__" 250), (.str "_collections" 249)⟩, ⟨(PyData.keyHash P "__doc__"), (.str "__doc__" 251), (.builtin "_collections.__doc__:str#opaque")⟩, ⟨(PyData.keyHash P "__package__"), (.str "__package__" 253), (.str "" 252)⟩, ⟨(PyData.keyHash P "__loader__"), (.str "__loader__" 254), (.ref 15)⟩, ⟨(PyData.keyHash P "__spec__"), (.str "__spec__" 255), (.ref 27)⟩, ⟨(PyData.keyHash P "_count_elements"), (.str "_count_elements" 256), (.builtin "_collections._count_elements")⟩, ⟨(PyData.keyHash P "deque"), (.str "deque" 257), (.type "collections.deque")⟩, ⟨(PyData.keyHash P "defaultdict"), (.str "defaultdict" 258), (.type "collections.defaultdict")⟩, ⟨(PyData.keyHash P "_deque_iterator"), (.str "_deque_iterator" 259), (.type "collections._deque_iterator")⟩, ⟨(PyData.keyHash P "_deque_reverse_iterator"), (.str "_deque_reverse_iterator" 260), (.type "collections._deque_reverse_iterator")⟩, ⟨(PyData.keyHash P "_tuplegetter"), (.str "_tuplegetter" 261), (.type "collections._tuplegetter")⟩, ⟨(PyData.keyHash P "OrderedDict"), (.str "OrderedDict" 262), (.type "collections.OrderedDict")⟩] 12), #[]⟩
noncomputable def b13 (P : Params) : Obj := ⟨(.type "module"), (.some 12), .plain, #[]⟩
noncomputable def b14 (P : Params) : Obj := ⟨(.type "dict"), .none, (.dict #[⟨(PyData.keyHash P "__module__"), (.str "__module__" 191), (.str "_frozen_importlib" 188)⟩, ⟨(PyData.keyHash P "__firstlineno__"), (.str "__firstlineno__" 192), (.int 971 189)⟩, ⟨(PyData.keyHash P "__doc__"), (.str "__doc__" 193), (.builtin "_frozen_importlib.BuiltinImporter.__doc__:str#opaque")⟩, ⟨(PyData.keyHash P "_ORIGIN"), (.str "_ORIGIN" 194), (.str "built-in" 190)⟩, ⟨(PyData.keyHash P "find_spec"), (.str "find_spec" 195), (.builtin "_frozen_importlib.BuiltinImporter.find_spec#opaque")⟩, ⟨(PyData.keyHash P "create_module"), (.str "create_module" 196), (.builtin "_frozen_importlib.BuiltinImporter.create_module#opaque")⟩, ⟨(PyData.keyHash P "exec_module"), (.str "exec_module" 197), (.builtin "_frozen_importlib.BuiltinImporter.exec_module#opaque")⟩, ⟨(PyData.keyHash P "get_code"), (.str "get_code" 198), (.builtin "_frozen_importlib.BuiltinImporter.get_code#opaque")⟩, ⟨(PyData.keyHash P "get_source"), (.str "get_source" 199), (.builtin "_frozen_importlib.BuiltinImporter.get_source#opaque")⟩, ⟨(PyData.keyHash P "is_package"), (.str "is_package" 200), (.builtin "_frozen_importlib.BuiltinImporter.is_package#opaque")⟩, ⟨(PyData.keyHash P "load_module"), (.str "load_module" 201), (.builtin "_frozen_importlib.BuiltinImporter.load_module#opaque")⟩, ⟨(PyData.keyHash P "__static_attributes__"), (.str "__static_attributes__" 202), (.ref 16)⟩, ⟨(PyData.keyHash P "__dict__"), (.str "__dict__" 204), (.ref 17)⟩, ⟨(PyData.keyHash P "__weakref__"), (.str "__weakref__" 206), (.ref 18)⟩] 14), #[]⟩
noncomputable def b15 (P : Params) : Obj := ⟨(.type "type"), .none, (.cls ⟨"BuiltinImporter", [(.type "object")], [(.ref 15), (.type "object")], 14, "BuiltinImporter", true, [], [], false, .none, false⟩), #[]⟩
noncomputable def b16 (P : Params) : Obj := ⟨(.type "tuple"), .none, (.seq #[] 0), #[]⟩
noncomputable def b17 (P : Params) : Obj := ⟨(.type "getset_descriptor"), .none, (.fields #[(.str "__dict__" 203), (.ref 15), (.builtin "function.__dict__"), (.builtin "function.__dict__#set")]), #[]⟩
noncomputable def b18 (P : Params) : Obj := ⟨(.type "getset_descriptor"), .none, (.fields #[(.str "__weakref__" 205), (.ref 15), (.builtin "ExceptionGroup.__weakref__"), .none]), #[]⟩
noncomputable def b19 (P : Params) : Obj := ⟨.none, .none, (.seq #[(.int 14 0), (.str ⟨⟨[6, 191, 10, 95, 95, 109, 111, 100, 117, 108, 101, 95, 95, 6, 188, 17, 95, 102, 114, 111, 122, 101, 110, 95, 105, 109, 112, 111, 114, 116, 108, 105, 98, 6, 192, 15, 95, 95, 102, 105, 114, 115, 116, 108, 105, 110, 101, 110, 111, 95, 95, 4, 189, 0, 971, 6, 193, 7, 95, 95, 100, 111, 99, 95, 95, 9, 52, 95, 102, 114, 111, 122, 101, 110, 95, 105, 109, 112, 111, 114, 116, 108, 105, 98, 46, 66, 117, 105, 108, 116, 105, 110, 73, 109, 112, 111, 114, 116, 101, 114, 46, 95, 95, 100, 111, 99, 95, 95, 58, 115, 116, 114, 35, 111, 112, 97, 113, 117, 101, 6, 194, 7, 95, 79, 82, 73, 71, 73, 78, 6, 190, 8, 98, 117, 105, 108, 116, 45, 105, 110, 6, 195, 9, 102, 105, 110, 100, 95, 115, 112, 101, 99, 9, 50, 95, 102, 114, 111, 122, 101, 110, 95, 105, 109, 112, 111, 114, 116, 108, 105, 98, 46, 66, 117, 105, 108, 116, 105, 110, 73, 109, 112, 111, 114, 116, 101, 114, 46, 102, 105, 110, 100, 95, 115, 112, 101, 99, 35, 111, 112, 97, 113, 117, 101, 6, 196, 13, 99, 114, 101, 97, 116, 101, 95, 109, 111, 100, 117, 108, 101, 9, 54, 95, 102, 114, 111, 122, 101, 110, 95, 105, 109, 112, 111, 114, 116, 108, 105, 98, 46, 66, 117, 105, 108, 116, 105, 110, 73, 109, 112, 111, 114, 116, 101, 114, 46, 99, 114, 101, 97, 116, 101, 95, 109, 111, 100, 117, 108, 101, 35, 111, 112, 97, 113, 117, 101, 6, 197, 11, 101, 120, 101, 99, 95, 109, 111, 100, 117, 108, 101, 9, 52, 95, 102, 114, 111, 122, 101, 110, 95, 105, 109, 112, 111, 114, 116, 108, 105, 98, 46, 66, 117, 105, 108, 116, 105, 110, 73, 109, 112, 111, 114, 116, 101, 114, 46, 101, 120, 101, 99, 95, 109, 111, 100, 117, 108, 101, 35, 111, 112, 97, 113, 117, 101, 6, 198, 8, 103, 101, 116, 95, 99, 111, 100, 101, 9, 49, 95, 102, 114, 111, 122, 101, 110, 95, 105, 109, 112, 111, 114, 116, 108, 105, 98, 46, 66, 117, 105, 108, 116, 105, 110, 73, 109, 112, 111, 114, 116, 101, 114, 46, 103, 101, 116, 95, 99, 111, 100, 101, 35, 111, 112, 97, 113, 117, 101, 6, 199, 10, 103, 101, 116, 95, 115, 111, 117, 114, 99, 101, 9, 51, 95, 102, 114, 111, 122, 101, 110, 95, 105, 109, 112, 111, 114, 116, 108, 105, 98, 46, 66, 117, 105, 108, 116, 105, 110, 73, 109, 112, 111, 114, 116, 101, 114, 46, 103, 101, 116, 95, 115, 111, 117, 114, 99, 101, 35, 111, 112, 97, 113, 117, 101, 6, 200, 10, 105, 115, 95, 112, 97, 99, 107, 97, 103, 101, 9, 51, 95, 102, 114, 111, 122, 101, 110, 95, 105, 109, 112, 111, 114, 116, 108, 105, 98, 46, 66, 117, 105, 108, 116, 105, 110, 73, 109, 112, 111, 114, 116, 101, 114, 46, 105, 115, 95, 112, 97, 99, 107, 97, 103, 101, 35, 111, 112, 97, 113, 117, 101, 6, 201, 11, 108, 111, 97, 100, 95, 109, 111, 100, 117, 108, 101, 9, 52, 95, 102, 114, 111, 122, 101, 110, 95, 105, 109, 112, 111, 114, 116, 108, 105, 98, 46, 66, 117, 105, 108, 116, 105, 110, 73, 109, 112, 111, 114, 116, 101, 114, 46, 108, 111, 97, 100, 95, 109, 111, 100, 117, 108, 101, 35, 111, 112, 97, 113, 117, 101, 6, 202, 21, 95, 95, 115, 116, 97, 116, 105, 99, 95, 97, 116, 116, 114, 105, 98, 117, 116, 101, 115, 95, 95, 4, 0, 0, 16, 6, 204, 8, 95, 95, 100, 105, 99, 116, 95, 95, 4, 0, 0, 17, 6, 206, 11, 95, 95, 119, 101, 97, 107, 114, 101, 102, 95, 95, 4, 0, 0, 18]⟩⟩ 0), (.bool true), (.bool true), (.str "" 207), (.int 22 0), (.str ⟨⟨[6, 229, 10, 95, 95, 109, 111, 100, 117, 108, 101, 95, 95, 6, 219, 17, 95, 102, 114, 111, 122, 101, 110, 95, 105, 109, 112, 111, 114, 116, 108, 105, 98, 6, 230, 15, 95, 95, 102, 105, 114, 115, 116, 108, 105, 110, 101, 110, 111, 95, 95, 4, 220, 0, 562, 6, 231, 7, 95, 95, 100, 111, 99, 95, 95, 9, 47, 95, 102, 114, 111, 122, 101, 110, 95, 105, 109, 112, 111, 114, 116, 108, 105, 98, 46, 77, 111, 100, 117, 108, 101, 83, 112, 101, 99, 46, 95, 95, 100, 111, 99, 95, 95, 58, 115, 116, 114, 35, 111, 112, 97, 113, 117, 101, 6, 232, 8, 95, 95, 105, 110, 105, 116, 95, 95, 9, 44, 95, 102, 114, 111, 122, 101, 110, 95, 105, 109, 112, 111, 114, 116, 108, 105, 98, 46, 77, 111, 100, 117, 108, 101, 83, 112, 101, 99, 46, 95, 95, 105, 110, 105, 116, 95, 95, 35, 111, 112, 97, 113, 117, 101, 6, 233, 8, 95, 95, 114, 101, 112, 114, 95, 95, 9, 44, 95, 102, 114, 111, 122, 101, 110, 95, 105, 109, 112, 111, 114, 116, 108, 105, 98, 46, 77, 111, 100, 117, 108, 101, 83, 112, 101, 99, 46, 95, 95, 114, 101, 112, 114, 95, 95, 35, 111, 112, 97, 113, 117, 101, 6, 234, 6, 95, 95, 101, 113, 95, 95, 9, 42, 95, 102, 114, 111, 122, 101, 110, 95, 105, 109, 112, 111, 114, 116, 108, 105, 98, 46, 77, 111, 100, 117, 108, 101, 83, 112, 101, 99, 46, 95, 95, 101, 113, 95, 95, 35, 111, 112, 97, 113, 117, 101, 6, 235, 6, 99, 97, 99, 104, 101, 100, 9, 42, 95, 102, 114, 111, 122, 101, 110, 95, 105, 109, 112, 111, 114, 116, 108, 105, 98, 46, 77, 111, 100, 117, 108, 101, 83, 112, 101, 99, 46, 99, 97, 99, 104, 101, 100, 35, 111, 112, 97, 113, 117, 101, 6, 236, 6, 112, 97, 114, 101, 110, 116, 9, 42, 95, 102, 114, 111, 122, 101, 110, 95, 105, 109, 112, 111, 114, 116, 108, 105, 98, 46, 77, 111, 100, 117, 108, 101, 83, 112, 101, 99, 46, 112, 97, 114, 101, 110, 116, 35, 111, 112, 97, 113, 117, 101, 6, 237, 12, 104, 97, 115, 95, 108, 111, 99, 97, 116, 105, 111, 110, 9, 48, 95, 102, 114, 111, 122, 101, 110, 95, 105, 109, 112, 111, 114, 116, 108, 105, 98, 46, 77, 111, 100, 117, 108, 101, 83, 112, 101, 99, 46, 104, 97, 115, 95, 108, 111, 99, 97, 116, 105, 111, 110, 35, 111, 112, 97, 113, 117, 101, 6, 238, 21, 95, 95, 115, 116, 97, 116, 105, 99, 95, 97, 116, 116, 114, 105, 98, 117, 116, 101, 115, 95, 95, 4, 0, 0, 24, 6, 240, 8, 95, 95, 100, 105, 99, 116, 95, 95, 4, 0, 0, 25, 6, 242, 11, 95, 95, 119, 101, 97, 107, 114, 101, 102, 95, 95, 4, 0, 0, 26, 6, 243, 8, 95, 95, 104, 97, 115, 104, 95, 95, 0]⟩⟩ 0), (.bool true), (.bool true), (.str "" 244)] 1), #[]⟩
noncomputable def b20 (P : Params) : Obj := ⟨(.type "list"), .none, (.seq #[] 0), #[]⟩
noncomputable def b21 (P : Params) : Obj := ⟨(.type "dict"), .none, (.dict #[⟨(PyData.keyHash P "name"), (.str "name" 210), (.str "_collections" 209)⟩, ⟨(PyData.keyHash P "loader"), (.str "loader" 211), (.ref 15)⟩, ⟨(PyData.keyHash P "origin"), (.str "origin" 212), (.str "built-in" 186)⟩, ⟨(PyData.keyHash P "loader_state"), (.str "loader_state" 213), .none⟩, ⟨(PyData.keyHash P "submodule_search_locations"), (.str "submodule_search_locations" 214), .none⟩, ⟨(PyData.keyHash P "_uninitialized_submodules"), (.str "_uninitialized_submodules" 215), (.ref 20)⟩, ⟨(PyData.keyHash P "_set_fileattr"), (.str "_set_fileattr" 216), (.bool false)⟩, ⟨(PyData.keyHash P "_cached"), (.str "_cached" 217), .none⟩, ⟨(PyData.keyHash P "_initializing"), (.str "_initializing" 245), (.bool false)⟩] 9), #[]⟩
noncomputable def b22 (P : Params) : Obj := ⟨(.type "dict"), .none, (.dict #[⟨(PyData.keyHash P "__module__"), (.str "__module__" 229), (.str "_frozen_importlib" 219)⟩, ⟨(PyData.keyHash P "__firstlineno__"), (.str "__firstlineno__" 230), (.int 562 220)⟩, ⟨(PyData.keyHash P "__doc__"), (.str "__doc__" 231), (.builtin "_frozen_importlib.ModuleSpec.__doc__:str#opaque")⟩, ⟨(PyData.keyHash P "__init__"), (.str "__init__" 232), (.builtin "_frozen_importlib.ModuleSpec.__init__#opaque")⟩, ⟨(PyData.keyHash P "__repr__"), (.str "__repr__" 233), (.builtin "_frozen_importlib.ModuleSpec.__repr__#opaque")⟩, ⟨(PyData.keyHash P "__eq__"), (.str "__eq__" 234), (.builtin "_frozen_importlib.ModuleSpec.__eq__#opaque")⟩, ⟨(PyData.keyHash P "cached"), (.str "cached" 235), (.builtin "_frozen_importlib.ModuleSpec.cached#opaque")⟩, ⟨(PyData.keyHash P "parent"), (.str "parent" 236), (.builtin "_frozen_importlib.ModuleSpec.parent#opaque")⟩, ⟨(PyData.keyHash P "has_location"), (.str "has_location" 237), (.builtin "_frozen_importlib.ModuleSpec.has_location#opaque")⟩, ⟨(PyData.keyHash P "__static_attributes__"), (.str "__static_attributes__" 238), (.ref 24)⟩, ⟨(PyData.keyHash P "__dict__"), (.str "__dict__" 240), (.ref 25)⟩, ⟨(PyData.keyHash P "__weakref__"), (.str "__weakref__" 242), (.ref 26)⟩, ⟨(PyData.keyHash P "__hash__"), (.str "__hash__" 243), .none⟩] 13), #[]⟩
noncomputable def b23 (P : Params) : Obj := ⟨(.type "type"), .none, (.cls ⟨"ModuleSpec", [(.type "object")], [(.ref 23), (.type "object")], 22, "ModuleSpec", true, [], [], false, .none, false⟩), #[]⟩
noncomputable def b24 (P : Params) : Obj := ⟨(.type "tuple"), .none, (.seq #[(.str "_cached" 221), (.str "_set_fileattr" 222), (.str "_uninitialized_submodules" 223), (.str "loader" 224), (.str "loader_state" 225), (.str "name" 226), (.str "origin" 227), (.str "submodule_search_locations" 228)] 0), #[]⟩
noncomputable def b25 (P : Params) : Obj := ⟨(.type "getset_descriptor"), .none, (.fields #[(.str "__dict__" 239), (.ref 23), (.builtin "function.__dict__"), (.builtin "function.__dict__#set")]), #[]⟩
noncomputable def b26 (P : Params) : Obj := ⟨(.type "getset_descriptor"), .none, (.fields #[(.str "__weakref__" 241), (.ref 23), (.builtin "ExceptionGroup.__weakref__"), .none]), #[]⟩
noncomputable def b27 (P : Params) : Obj := ⟨(.ref 23), (.some 21), .plain, #[]⟩
noncomputable def b28 (P : Params) : Obj := ⟨.none, .none, (.seq #[(.int 12 0), (.str ⟨⟨[6, 250, 8, 95, 95, 110, 97, 109, 101, 95, 95, 6, 249, 12, 95, 99, 111, 108, 108, 101, 99, 116, 105, 111, 110, 115, 6, 251, 7, 95, 95, 100, 111, 99, 95, 95, 9, 31, 95, 99, 111, 108, 108, 101, 99, 116, 105, 111, 110, 115, 46, 95, 95, 100, 111, 99, 95, 95, 58, 115, 116, 114, 35, 111, 112, 97, 113, 117, 101, 6, 253, 11, 95, 95, 112, 97, 99, 107, 97, 103, 101, 95, 95, 6, 252, 0, 6, 254, 10, 95, 95, 108, 111, 97, 100, 101, 114, 95, 95, 4, 0, 0, 15, 6, 255, 8, 95, 95, 115, 112, 101, 99, 95, 95, 4, 0, 0, 27, 6, 256, 15, 95, 99, 111, 117, 110, 116, 95, 101, 108, 101, 109, 101, 110, 116, 115, 9, 28, 95, 99, 111, 108, 108, 101, 99, 116, 105, 111, 110, 115, 46, 95, 99, 111, 117, 110, 116, 95, 101, 108, 101, 109, 101, 110, 116, 115, 6, 257, 5, 100, 101, 113, 117, 101, 8, 17, 99, 111, 108, 108, 101, 99, 116, 105, 111, 110, 115, 46, 100, 101, 113, 117, 101, 6, 258, 11, 100, 101, 102, 97, 117, 108, 116, 100, 105, 99, 116, 8, 23, 99, 111, 108, 108, 101, 99, 116, 105, 111, 110, 115, 46, 100, 101, 102, 97, 117, 108, 116, 100, 105, 99, 116, 6, 259, 15, 95, 100, 101, 113, 117, 101, 95, 105, 116, 101, 114, 97, 116, 111, 114, 8, 27, 99, 111, 108, 108, 101, 99, 116, 105, 111, 110, 115, 46, 95, 100, 101, 113, 117, 101, 95, 105, 116, 101, 114, 97, 116, 111, 114, 6, 260, 23, 95, 100, 101, 113, 117, 101, 95, 114, 101, 118, 101, 114, 115, 101, 95, 105, 116, 101, 114, 97, 116, 111, 114, 8, 35, 99, 111, 108, 108, 101, 99, 116, 105, 111, 110, 115, 46, 95, 100, 101, 113, 117, 101, 95, 114, 101, 118, 101, 114, 115, 101, 95, 105, 116, 101, 114, 97, 116, 111, 114, 6, 261, 12, 95, 116, 117, 112, 108, 101, 103, 101, 116, 116, 101, 114, 8, 24, 99, 111, 108, 108, 101, 99, 116, 105, 111, 110, 115, 46, 95, 116, 117, 112, 108, 101, 103, 101, 116, 116, 101, 114, 6, 262, 11, 79, 114, 100, 101, 114, 101, 100, 68, 105, 99, 116, 8, 23, 99, 111, 108, 108, 101, 99, 116, 105, 111, 110, 115, 46, 79, 114, 100, 101, 114, 101, 100, 68, 105, 99, 116]⟩⟩ 0), (.bool true), (.bool false), (.str "_collections" 264)] 0), #[]⟩
noncomputable def T0 (P : Params) : BT := (.node (boot_o_0 P) (.node (b1 P) (.node (b3 P) (.node (boot_o_7 P) (.node (b15 P) .nil .nil) (.node (b23 P) .nil .nil)) (.node (b11 P) (.node (b19 P) .nil .nil) (.node (b27 P) .nil .nil))) (.node (boot_o_5 P) (.node (boot_o_9 P) (.node (b17 P) .nil .nil) (.node (b25 P) .nil .nil)) (.node (b13 P) (.node (b21 P) .nil .nil) .nil))) (.node (b2 P) (.node (boot_o_4 P) (.node (boot_o_8 P) (.node (b16 P) .nil .nil) (.node (b24 P) .nil .nil)) (.node (b12 P) (.node (b20 P) .nil .nil) (.node (b28 P) .nil .nil))) (.node (boot_o_6 P) (.node (boot_o_10 P) (.node (b18 P) .nil .nil) (.node (b26 P) .nil .nil)) (.node (b14 P) (.node (b22 P) .nil .nil) .nil))))
noncomputable def T1 (P : Params) : BT := (.node (boot_o_0 P) (.node (b1 P) (.node (b3 P) (.node (boot_o_7 P) (.node (b15 P) .nil .nil) (.node (b23 P) .nil .nil)) (.node (b11 P) (.node (b19 P) .nil .nil) (.node (b27 P) .nil .nil))) (.node (boot_o_5 P) (.node (boot_o_9 P) (.node (b17 P) .nil .nil) (.node (b25 P) .nil .nil)) (.node (b13 P) (.node (b21 P) .nil .nil) .nil))) (.node (b2 P) (.node (boot_o_4 P) (.node (boot_o_8 P) (.node (b16 P) .nil .nil) (.node (b24 P) .nil .nil)) (.node (c12 P) (.node (b20 P) .nil .nil) (.node (b28 P) .nil .nil))) (.node (boot_o_6 P) (.node (boot_o_10 P) (.node (b18 P) .nil .nil) (.node (b26 P) .nil .nil)) (.node (b14 P) (.node (b22 P) .nil .nil) .nil))))
noncomputable def fN (d : Stmt) (qual : Str) (globals : Addr) (closure : List (Str × Addr)) (defaults kwdefaults doc pyModule : Value) (annotations : Option Addr) (code closureTuple : Value) (builtins : Addr) : Obj := match d with
  | .FunctionDef name args body _ _ _ scope _ _ _ => ⟨.none, none, .func ⟨name, qual, args, .stmts body, scope, globals, closure, defaults, kwdefaults, doc, pyModule, annotations, code, closureTuple, builtins⟩, #[]⟩
  | _ => default
noncomputable def y29 (P : Params) : Obj := ⟨(.type "tuple"), .none, (.seq #[] 0), #[]⟩
noncomputable def y30 (P : Params) : Obj := ⟨.none, .none, (.fields #[(.int 2 0), (.int 0 0), (.ref 38), (.int 6 0), (.int 0 0), (.ref 45), (.int 25 0), (.int 0 0), (.ref 89), (.int 45 0), (.int 0 0), (.ref 119), (.int 87 0), (.int 0 0), (.ref 189), (.int 93 0), (.int 0 0), (.ref 212), (.int 113 0), (.int 0 0), (.ref 256), (.int 121 0), (.int 0 0), (.ref 264), (.int 165 0), (.int 0 0), (.ref 337), (.int 198 0), (.int 0 0), (.ref 344), (.int 201 0), (.int 0 0), (.ref 351), (.int 204 0), (.int 0 0), (.ref 358), (.int 213 0), (.int 0 0), (.ref 365), (.int 220 0), (.int 0 0), (.ref 370), (.int 225 0), (.int 0 0), (.ref 375), (.int 234 0), (.int 0 0), (.ref 382), (.int 240 0), (.int 0 0), (.ref 389), (.int 244 0), (.int 0 0), (.ref 394), (.int 246 0), (.int 0 0), (.ref 399)]), #[]⟩
noncomputable def y31 (P : Params) : Obj := ⟨(.type "code"), .none, (.fields #[(.str "<module>" 274), (.str "<module>" 275), (.str "/claim/cut.py" 276), (.int 1 0), (.int 0 0), (.int 0 0), (.int 0 0), (.int 0 0), (.ref 29), (.bool false), (.int 273 0), (.ref 30), .none, .none, .none, .none, (.int 277 0), (.int 1 0), (.str "/claim/cut.py" 278)]), #[]⟩
noncomputable def y32 (P : Params) : Obj := ⟨(.type "frame"), .none, .plain, #[(.some (.ref 31)), (.some (.ref 3)), (.some (.ref 3)), .none, (.some (.str "__main__" 164)), .none, (.some (.ref 0))]⟩
noncomputable def y34 (P : Params) : Obj := ⟨.none, .none, (.fields #[]), #[]⟩
noncomputable def y37 (P : Params) : Obj := (fN (nS pw 1) "_wall" 0 [] .none .none .none .none .none .none .none 0)
noncomputable def y40 (P : Params) : Obj := ⟨(.type "tuple"), .none, (.seq #[] 0), #[]⟩
noncomputable def y41 (P : Params) : Obj := ⟨(.type "builtin_function_or_method"), .none, (.fields #[(.builtin "type.__prepare__"), (.type "type")]), #[]⟩
noncomputable def y42 (P : Params) : Obj := ⟨(.type "dict"), .none, (.dict #[⟨(PyData.keyHash P "__module__"), (.str "__module__" 295), (.str "cpy313.importlib.metadata._collections" 286)⟩, ⟨(PyData.keyHash P "__qualname__"), (.str "__qualname__" 297), (.str "_tuplegetter" 296)⟩, ⟨(PyData.keyHash P "__firstlineno__"), (.str "__firstlineno__" 299), (.int 6 298)⟩, ⟨(PyData.keyHash P "__init__"), (.str "__init__" 308), (.ref 53)⟩, ⟨(PyData.keyHash P "__get__"), (.str "__get__" 317), (.ref 61)⟩, ⟨(PyData.keyHash P "__set__"), (.str "__set__" 326), (.ref 68)⟩, ⟨(PyData.keyHash P "__delete__"), (.str "__delete__" 334), (.ref 75)⟩, ⟨(PyData.keyHash P "__static_attributes__"), (.str "__static_attributes__" 337), (.ref 76)⟩] 8), #[]⟩
noncomputable def y43 (P : Params) : Obj := ⟨(.type "tuple"), .none, (.seq #[] 0), #[]⟩
noncomputable def y44 (P : Params) : Obj := ⟨.none, .none, (.fields #[(.int 8 0), (.int 4 0), (.ref 52), (.int 12 0), (.int 4 0), (.ref 60), (.int 19 0), (.int 4 0), (.ref 67), (.int 22 0), (.int 4 0), (.ref 74)]), #[]⟩
noncomputable def y45 (P : Params) : Obj := ⟨(.type "code"), .none, (.fields #[(.str "_tuplegetter" 290), (.str "_tuplegetter" 291), (.str "/claim/cut.py" 292), (.int 6 0), (.int 0 0), (.int 0 0), (.int 0 0), (.int 0 0), (.ref 43), (.bool false), (.int 273 0), (.ref 44), .none, .none, .none, .none, (.int 293 0), (.int 6 0), (.str "/claim/cut.py" 294)]), #[]⟩
noncomputable def y46 (P : Params) : Obj := ⟨(.type "frame"), .none, .plain, #[(.some (.ref 45)), (.some (.ref 3)), (.some (.ref 42)), .none, (.some (.str "cpy313.importlib.metadata._collections" 286)), .none, (.some (.ref 0))]⟩
noncomputable def y48 (P : Params) : Obj := ⟨.none, .none, (.fields #[]), #[]⟩
noncomputable def y51 (P : Params) : Obj := (fN (nC (nS pw 3) 0) "_tuplegetter.__init__" 0 [] .none .none .none .none .none .none .none 0)
noncomputable def y56 (P : Params) : Obj := ⟨.none, .none, (.fields #[]), #[]⟩
noncomputable def y59 (P : Params) : Obj := (fN (nC (nS pw 3) 1) "_tuplegetter.__get__" 0 [] .none .none .none .none .none .none .none 0)
noncomputable def y63 (P : Params) : Obj := ⟨.none, .none, (.fields #[]), #[]⟩
noncomputable def y66 (P : Params) : Obj := (fN (nC (nS pw 3) 2) "_tuplegetter.__set__" 0 [] .none .none .none .none .none .none .none 0)
noncomputable def y70 (P : Params) : Obj := ⟨.none, .none, (.fields #[]), #[]⟩
noncomputable def y73 (P : Params) : Obj := (fN (nC (nS pw 3) 3) "_tuplegetter.__delete__" 0 [] .none .none .none .none .none .none .none 0)
noncomputable def y81 (P : Params) : Obj := ⟨(.type "super"), .none, (.fields #[(.ref 78), (.ref 78), (.ref 78)]), #[]⟩
noncomputable def y82 (P : Params) : Obj := ⟨(.type "builtin_function_or_method"), .none, (.fields #[(.builtin "object.__init_subclass__"), (.ref 78)]), #[]⟩
noncomputable def y84 (P : Params) : Obj := ⟨(.type "builtin_function_or_method"), .none, (.fields #[(.builtin "type.__prepare__"), (.type "type")]), #[]⟩
noncomputable def y85 (P : Params) : Obj := ⟨(.type "dict"), .none, (.dict #[⟨(PyData.keyHash P "__module__"), (.str "__module__" 353), (.str "cpy313.importlib.metadata._collections" 286)⟩, ⟨(PyData.keyHash P "__qualname__"), (.str "__qualname__" 355), (.str "FreezableDefaultDict" 354)⟩, ⟨(PyData.keyHash P "__firstlineno__"), (.str "__firstlineno__" 357), (.int 25 356)⟩, ⟨(PyData.keyHash P "__doc__"), (.str "__doc__" 359), (.str (dS (nS pw 5)) 358)⟩, ⟨(PyData.keyHash P "__missing__"), (.str "__missing__" 369), (.ref 98)⟩, ⟨(PyData.keyHash P "freeze"), (.str "freeze" 377), (.ref 105)⟩, ⟨(PyData.keyHash P "__static_attributes__"), (.str "__static_attributes__" 379), (.ref 106)⟩, ⟨(PyData.keyHash P "__classcell__"), (.str "__classcell__" 380), (.ref 86)⟩] 8), #[]⟩
noncomputable def y87 (P : Params) : Obj := ⟨(.type "tuple"), .none, (.seq #[] 0), #[]⟩
noncomputable def y88 (P : Params) : Obj := ⟨.none, .none, (.fields #[(.int 40 0), (.int 4 0), (.ref 97), (.int 43 0), (.int 4 0), (.ref 104)]), #[]⟩
noncomputable def y89 (P : Params) : Obj := ⟨(.type "code"), .none, (.fields #[(.str "FreezableDefaultDict" 348), (.str "FreezableDefaultDict" 349), (.str "/claim/cut.py" 350), (.int 25 0), (.int 0 0), (.int 0 0), (.int 0 0), (.int 0 0), (.ref 87), (.bool false), (.int 273 0), (.ref 88), .none, .none, .none, .none, (.int 351 0), (.int 25 0), (.str "/claim/cut.py" 352)]), #[]⟩
noncomputable def y90 (P : Params) : Obj := ⟨(.type "frame"), .none, .plain, #[(.some (.ref 89)), (.some (.ref 3)), (.some (.ref 85)), .none, (.some (.str "cpy313.importlib.metadata._collections" 286)), .none, (.some (.ref 0))]⟩
noncomputable def y93 (P : Params) : Obj := ⟨.none, .none, (.fields #[]), #[]⟩
noncomputable def y96 (P : Params) : Obj := (fN (nC (nS pw 5) 1) "FreezableDefaultDict.__missing__" 0 [] .none .none .none .none .none .none .none 0)
noncomputable def y100 (P : Params) : Obj := ⟨.none, .none, (.fields #[]), #[]⟩
noncomputable def y103 (P : Params) : Obj := (fN (nC (nS pw 5) 2) "FreezableDefaultDict.freeze" 0 [] .none .none .none .none .none .none .none 0)
noncomputable def y111 (P : Params) : Obj := ⟨(.type "super"), .none, (.fields #[(.ref 108), (.ref 108), (.ref 108)]), #[]⟩
noncomputable def y112 (P : Params) : Obj := ⟨(.type "builtin_function_or_method"), .none, (.fields #[(.builtin "object.__init_subclass__"), (.ref 108)]), #[]⟩
noncomputable def y114 (P : Params) : Obj := ⟨(.type "builtin_function_or_method"), .none, (.fields #[(.builtin "type.__prepare__"), (.type "type")]), #[]⟩
noncomputable def y115 (P : Params) : Obj := ⟨(.type "dict"), .none, (.dict #[⟨(PyData.keyHash P "__module__"), (.str "__module__" 396), (.str "cpy313.importlib.metadata._collections" 286)⟩, ⟨(PyData.keyHash P "__qualname__"), (.str "__qualname__" 398), (.str "Pair" 397)⟩, ⟨(PyData.keyHash P "__firstlineno__"), (.str "__firstlineno__" 400), (.int 45 399)⟩, ⟨(PyData.keyHash P "__doc__"), (.str "__doc__" 402), (.str (dS (nS pw 6)) 401)⟩, ⟨(PyData.keyHash P "__slots__"), (.str "__slots__" 404), (.ref 121)⟩, ⟨(PyData.keyHash P "_fields"), (.str "_fields" 407), (.ref 122)⟩, ⟨(PyData.keyHash P "_field_defaults"), (.str "_field_defaults" 408), (.ref 123)⟩, ⟨(PyData.keyHash P "__new__"), (.str "__new__" 418), (.ref 130)⟩, ⟨(PyData.keyHash P "_make"), (.str "_make" 440), (.ref 139)⟩, ⟨(PyData.keyHash P "_replace"), (.str "_replace" 451), (.ref 148)⟩, ⟨(PyData.keyHash P "__replace__"), (.str "__replace__" 452), (.ref 148)⟩, ⟨(PyData.keyHash P "__repr__"), (.str "__repr__" 460), (.ref 155)⟩, ⟨(PyData.keyHash P "_asdict"), (.str "_asdict" 467), (.ref 162)⟩, ⟨(PyData.keyHash P "__getnewargs__"), (.str "__getnewargs__" 475), (.ref 169)⟩, ⟨(PyData.keyHash P "__match_args__"), (.str "__match_args__" 478), (.ref 170)⟩, ⟨(PyData.keyHash P "name"), (.str "name" 488), (.ref 172)⟩, ⟨(PyData.keyHash P "value"), (.str "value" 498), (.ref 175)⟩, ⟨(PyData.keyHash P "__static_attributes__"), (.str "__static_attributes__" 499), (.ref 177)⟩, ⟨(PyData.keyHash P "__classcell__"), (.str "__classcell__" 500), (.ref 116)⟩] 19), #[]⟩
noncomputable def y117 (P : Params) : Obj := ⟨(.type "tuple"), .none, (.seq #[] 0), #[]⟩
noncomputable def y118 (P : Params) : Obj := ⟨.none, .none, (.fields #[(.int 51 0), (.int 4 0), (.ref 129), (.int 56 0), (.int 4 0), (.ref 136), (.int 63 0), (.int 4 0), (.ref 147), (.int 74 0), (.int 4 0), (.ref 154), (.int 78 0), (.int 4 0), (.ref 161), (.int 81 0), (.int 4 0), (.ref 168)]), #[]⟩
noncomputable def y119 (P : Params) : Obj := ⟨(.type "code"), .none, (.fields #[(.str "Pair" 391), (.str "Pair" 392), (.str "/claim/cut.py" 393), (.int 45 0), (.int 0 0), (.int 0 0), (.int 0 0), (.int 0 0), (.ref 117), (.bool false), (.int 273 0), (.ref 118), .none, .none, .none, .none, (.int 394 0), (.int 45 0), (.str "/claim/cut.py" 395)]), #[]⟩
noncomputable def y120 (P : Params) : Obj := ⟨(.type "frame"), .none, .plain, #[(.some (.ref 119)), (.some (.ref 3)), (.some (.ref 115)), .none, (.some (.str "cpy313.importlib.metadata._collections" 286)), .none, (.some (.ref 0))]⟩
noncomputable def y125 (P : Params) : Obj := ⟨.none, .none, (.fields #[]), #[]⟩
noncomputable def y128 (P : Params) : Obj := (fN (nC (nS pw 6) 4) "Pair.__new__" 0 [] .none .none .none .none .none .none .none 0)
noncomputable def y132 (P : Params) : Obj := ⟨.none, .none, (.fields #[]), #[]⟩
noncomputable def y135 (P : Params) : Obj := (fN (nC (nS pw 6) 5) "Pair._make" 0 [] .none .none .none .none .none .none .none 0)
noncomputable def y143 (P : Params) : Obj := ⟨.none, .none, (.fields #[]), #[]⟩
noncomputable def y146 (P : Params) : Obj := (fN (nC (nS pw 6) 6) "Pair._replace" 0 [] .none .none .none .none .none .none .none 0)
noncomputable def y150 (P : Params) : Obj := ⟨.none, .none, (.fields #[]), #[]⟩
noncomputable def y153 (P : Params) : Obj := (fN (nC (nS pw 6) 8) "Pair.__repr__" 0 [] .none .none .none .none .none .none .none 0)
noncomputable def y157 (P : Params) : Obj := ⟨.none, .none, (.fields #[]), #[]⟩
noncomputable def y160 (P : Params) : Obj := (fN (nC (nS pw 6) 9) "Pair._asdict" 0 [] .none .none .none .none .none .none .none 0)
noncomputable def y164 (P : Params) : Obj := ⟨.none, .none, (.fields #[]), #[]⟩
noncomputable def y167 (P : Params) : Obj := (fN (nC (nS pw 6) 10) "Pair.__getnewargs__" 0 [] .none .none .none .none .none .none .none 0)
noncomputable def y173 (P : Params) : Obj := ⟨(.type "frame"), .none, (.dict #[⟨(PyData.keyHash P "self"), (.str "self" 481), (.ref 172)⟩, ⟨(PyData.keyHash P "index"), (.str "index" 482), (.int 0 479)⟩, ⟨(PyData.keyHash P "doc"), (.str "doc" 483), (.str "Alias for field number 0" 480)⟩] 3), #[]⟩
noncomputable def y176 (P : Params) : Obj := ⟨(.type "frame"), .none, (.dict #[⟨(PyData.keyHash P "self"), (.str "self" 491), (.ref 175)⟩, ⟨(PyData.keyHash P "index"), (.str "index" 492), (.int 1 489)⟩, ⟨(PyData.keyHash P "doc"), (.str "doc" 493), (.str "Alias for field number 1" 490)⟩] 3), #[]⟩
noncomputable def y178 (P : Params) : Obj := ⟨(.type "list"), .none, (.seq #[] 0), #[]⟩
noncomputable def y182 (P : Params) : Obj := ⟨(.type "super"), .none, (.fields #[(.ref 180), (.ref 180), (.ref 180)]), #[]⟩
noncomputable def y183 (P : Params) : Obj := ⟨(.type "builtin_function_or_method"), .none, (.fields #[(.builtin "object.__init_subclass__"), (.ref 180)]), #[]⟩
noncomputable def y185 (P : Params) : Obj := ⟨(.type "builtin_function_or_method"), .none, (.fields #[(.builtin "type.__prepare__"), (.type "type")]), #[]⟩
noncomputable def y186 (P : Params) : Obj := ⟨(.type "dict"), .none, (.dict #[⟨(PyData.keyHash P "__module__"), (.str "__module__" 511), (.str "cpy313.importlib.metadata._collections" 286)⟩, ⟨(PyData.keyHash P "__qualname__"), (.str "__qualname__" 513), (.str "Pair" 512)⟩, ⟨(PyData.keyHash P "__firstlineno__"), (.str "__firstlineno__" 515), (.int 87 514)⟩, ⟨(PyData.keyHash P "parse"), (.str "parse" 535), (.ref 199)⟩, ⟨(PyData.keyHash P "__static_attributes__"), (.str "__static_attributes__" 536), (.ref 201)⟩] 5), #[]⟩
noncomputable def y187 (P : Params) : Obj := ⟨(.type "tuple"), .none, (.seq #[] 0), #[]⟩
noncomputable def y188 (P : Params) : Obj := ⟨.none, .none, (.fields #[(.int 90 0), (.int 4 0), (.ref 196)]), #[]⟩
noncomputable def y189 (P : Params) : Obj := ⟨(.type "code"), .none, (.fields #[(.str "Pair" 506), (.str "Pair" 507), (.str "/claim/cut.py" 508), (.int 87 0), (.int 0 0), (.int 0 0), (.int 0 0), (.int 0 0), (.ref 187), (.bool false), (.int 273 0), (.ref 188), .none, .none, .none, .none, (.int 509 0), (.int 87 0), (.str "/claim/cut.py" 510)]), #[]⟩
noncomputable def y190 (P : Params) : Obj := ⟨(.type "frame"), .none, .plain, #[(.some (.ref 189)), (.some (.ref 3)), (.some (.ref 186)), .none, (.some (.str "cpy313.importlib.metadata._collections" 286)), .none, (.some (.ref 0))]⟩
noncomputable def y192 (P : Params) : Obj := ⟨.none, .none, (.fields #[]), #[]⟩
noncomputable def y195 (P : Params) : Obj := (fN (nC (nS pw 7) 0) "Pair.parse" 0 [] .none .none .none .none .none .none .none 0)
noncomputable def y205 (P : Params) : Obj := ⟨(.type "super"), .none, (.fields #[(.ref 203), (.ref 203), (.ref 203)]), #[]⟩
noncomputable def y206 (P : Params) : Obj := ⟨(.type "builtin_function_or_method"), .none, (.fields #[(.builtin "object.__init_subclass__"), (.ref 203)]), #[]⟩
noncomputable def y207 (P : Params) : Obj := ⟨(.type "tuple"), .none, (.seq #[] 0), #[]⟩
noncomputable def y208 (P : Params) : Obj := ⟨(.type "builtin_function_or_method"), .none, (.fields #[(.builtin "type.__prepare__"), (.type "type")]), #[]⟩
noncomputable def y209 (P : Params) : Obj := ⟨(.type "dict"), .none, (.dict #[⟨(PyData.keyHash P "__module__"), (.str "__module__" 551), (.str "cpy313.unittest.util" 542)⟩, ⟨(PyData.keyHash P "__qualname__"), (.str "__qualname__" 553), (.str "_tuplegetter" 552)⟩, ⟨(PyData.keyHash P "__firstlineno__"), (.str "__firstlineno__" 555), (.int 93 554)⟩, ⟨(PyData.keyHash P "__init__"), (.str "__init__" 564), (.ref 220)⟩, ⟨(PyData.keyHash P "__get__"), (.str "__get__" 573), (.ref 228)⟩, ⟨(PyData.keyHash P "__set__"), (.str "__set__" 582), (.ref 235)⟩, ⟨(PyData.keyHash P "__delete__"), (.str "__delete__" 590), (.ref 242)⟩, ⟨(PyData.keyHash P "__static_attributes__"), (.str "__static_attributes__" 593), (.ref 243)⟩] 8), #[]⟩
noncomputable def y210 (P : Params) : Obj := ⟨(.type "tuple"), .none, (.seq #[] 0), #[]⟩
noncomputable def y211 (P : Params) : Obj := ⟨.none, .none, (.fields #[(.int 95 0), (.int 4 0), (.ref 219), (.int 99 0), (.int 4 0), (.ref 227), (.int 106 0), (.int 4 0), (.ref 234), (.int 109 0), (.int 4 0), (.ref 241)]), #[]⟩
noncomputable def y212 (P : Params) : Obj := ⟨(.type "code"), .none, (.fields #[(.str "_tuplegetter" 546), (.str "_tuplegetter" 547), (.str "/claim/cut.py" 548), (.int 93 0), (.int 0 0), (.int 0 0), (.int 0 0), (.int 0 0), (.ref 210), (.bool false), (.int 273 0), (.ref 211), .none, .none, .none, .none, (.int 549 0), (.int 93 0), (.str "/claim/cut.py" 550)]), #[]⟩
noncomputable def y213 (P : Params) : Obj := ⟨(.type "frame"), .none, .plain, #[(.some (.ref 212)), (.some (.ref 3)), (.some (.ref 209)), .none, (.some (.str "cpy313.unittest.util" 542)), .none, (.some (.ref 0))]⟩
noncomputable def y215 (P : Params) : Obj := ⟨.none, .none, (.fields #[]), #[]⟩
noncomputable def y218 (P : Params) : Obj := (fN (nC (nS pw 9) 0) "_tuplegetter.__init__" 0 [] .none .none .none .none .none .none .none 0)
noncomputable def y223 (P : Params) : Obj := ⟨.none, .none, (.fields #[]), #[]⟩
noncomputable def y226 (P : Params) : Obj := (fN (nC (nS pw 9) 1) "_tuplegetter.__get__" 0 [] .none .none .none .none .none .none .none 0)
noncomputable def y230 (P : Params) : Obj := ⟨.none, .none, (.fields #[]), #[]⟩
noncomputable def y233 (P : Params) : Obj := (fN (nC (nS pw 9) 2) "_tuplegetter.__set__" 0 [] .none .none .none .none .none .none .none 0)
noncomputable def y237 (P : Params) : Obj := ⟨.none, .none, (.fields #[]), #[]⟩
noncomputable def y240 (P : Params) : Obj := (fN (nC (nS pw 9) 3) "_tuplegetter.__delete__" 0 [] .none .none .none .none .none .none .none 0)
noncomputable def y248 (P : Params) : Obj := ⟨(.type "super"), .none, (.fields #[(.ref 245), (.ref 245), (.ref 245)]), #[]⟩
noncomputable def y249 (P : Params) : Obj := ⟨(.type "builtin_function_or_method"), .none, (.fields #[(.builtin "object.__init_subclass__"), (.ref 245)]), #[]⟩
noncomputable def y252 (P : Params) : Obj := ⟨.none, .none, (.fields #[]), #[]⟩
noncomputable def y255 (P : Params) : Obj := (fN (nS pw 12) "safe_repr" 0 [] .none .none .none .none .none .none .none 0)
noncomputable def y259 (P : Params) : Obj := ⟨(.type "builtin_function_or_method"), .none, (.fields #[(.builtin "type.__prepare__"), (.type "type")]), #[]⟩
noncomputable def y260 (P : Params) : Obj := ⟨(.type "dict"), .none, (.dict #[⟨(PyData.keyHash P "__module__"), (.str "__module__" 620), (.str "cpy313.unittest.util" 542)⟩, ⟨(PyData.keyHash P "__qualname__"), (.str "__qualname__" 622), (.str "Mismatch" 621)⟩, ⟨(PyData.keyHash P "__firstlineno__"), (.str "__firstlineno__" 624), (.int 121 623)⟩, ⟨(PyData.keyHash P "__doc__"), (.str "__doc__" 626), (.str (dS (nS pw 13)) 625)⟩, ⟨(PyData.keyHash P "__slots__"), (.str "__slots__" 628), (.ref 266)⟩, ⟨(PyData.keyHash P "_fields"), (.str "_fields" 632), (.ref 267)⟩, ⟨(PyData.keyHash P "_field_defaults"), (.str "_field_defaults" 633), (.ref 268)⟩, ⟨(PyData.keyHash P "__new__"), (.str "__new__" 644), (.ref 275)⟩, ⟨(PyData.keyHash P "_make"), (.str "_make" 666), (.ref 284)⟩, ⟨(PyData.keyHash P "_replace"), (.str "_replace" 677), (.ref 293)⟩, ⟨(PyData.keyHash P "__replace__"), (.str "__replace__" 678), (.ref 293)⟩, ⟨(PyData.keyHash P "__repr__"), (.str "__repr__" 686), (.ref 300)⟩, ⟨(PyData.keyHash P "_asdict"), (.str "_asdict" 693), (.ref 307)⟩, ⟨(PyData.keyHash P "__getnewargs__"), (.str "__getnewargs__" 701), (.ref 314)⟩, ⟨(PyData.keyHash P "__match_args__"), (.str "__match_args__" 705), (.ref 315)⟩, ⟨(PyData.keyHash P "actual"), (.str "actual" 715), (.ref 317)⟩, ⟨(PyData.keyHash P "expected"), (.str "expected" 725), (.ref 320)⟩, ⟨(PyData.keyHash P "value"), (.str "value" 735), (.ref 323)⟩, ⟨(PyData.keyHash P "__static_attributes__"), (.str "__static_attributes__" 736), (.ref 325)⟩, ⟨(PyData.keyHash P "__classcell__"), (.str "__classcell__" 737), (.ref 261)⟩] 20), #[]⟩
noncomputable def y262 (P : Params) : Obj := ⟨(.type "tuple"), .none, (.seq #[] 0), #[]⟩
noncomputable def y263 (P : Params) : Obj := ⟨.none, .none, (.fields #[(.int 127 0), (.int 4 0), (.ref 274), (.int 132 0), (.int 4 0), (.ref 281), (.int 139 0), (.int 4 0), (.ref 292), (.int 150 0), (.int 4 0), (.ref 299), (.int 154 0), (.int 4 0), (.ref 306), (.int 157 0), (.int 4 0), (.ref 313)]), #[]⟩
noncomputable def y264 (P : Params) : Obj := ⟨(.type "code"), .none, (.fields #[(.str "Mismatch" 615), (.str "Mismatch" 616), (.str "/claim/cut.py" 617), (.int 121 0), (.int 0 0), (.int 0 0), (.int 0 0), (.int 0 0), (.ref 262), (.bool false), (.int 273 0), (.ref 263), .none, .none, .none, .none, (.int 618 0), (.int 121 0), (.str "/claim/cut.py" 619)]), #[]⟩
noncomputable def y265 (P : Params) : Obj := ⟨(.type "frame"), .none, .plain, #[(.some (.ref 264)), (.some (.ref 3)), (.some (.ref 260)), .none, (.some (.str "cpy313.unittest.util" 542)), .none, (.some (.ref 0))]⟩
noncomputable def y270 (P : Params) : Obj := ⟨.none, .none, (.fields #[]), #[]⟩
noncomputable def y273 (P : Params) : Obj := (fN (nC (nS pw 13) 4) "Mismatch.__new__" 0 [] .none .none .none .none .none .none .none 0)
noncomputable def y277 (P : Params) : Obj := ⟨.none, .none, (.fields #[]), #[]⟩
noncomputable def y280 (P : Params) : Obj := (fN (nC (nS pw 13) 5) "Mismatch._make" 0 [] .none .none .none .none .none .none .none 0)
noncomputable def y288 (P : Params) : Obj := ⟨.none, .none, (.fields #[]), #[]⟩
noncomputable def y291 (P : Params) : Obj := (fN (nC (nS pw 13) 6) "Mismatch._replace" 0 [] .none .none .none .none .none .none .none 0)
noncomputable def y295 (P : Params) : Obj := ⟨.none, .none, (.fields #[]), #[]⟩
noncomputable def y298 (P : Params) : Obj := (fN (nC (nS pw 13) 8) "Mismatch.__repr__" 0 [] .none .none .none .none .none .none .none 0)
noncomputable def y302 (P : Params) : Obj := ⟨.none, .none, (.fields #[]), #[]⟩
noncomputable def y305 (P : Params) : Obj := (fN (nC (nS pw 13) 9) "Mismatch._asdict" 0 [] .none .none .none .none .none .none .none 0)
noncomputable def y309 (P : Params) : Obj := ⟨.none, .none, (.fields #[]), #[]⟩
noncomputable def y312 (P : Params) : Obj := (fN (nC (nS pw 13) 10) "Mismatch.__getnewargs__" 0 [] .none .none .none .none .none .none .none 0)
noncomputable def y318 (P : Params) : Obj := ⟨(.type "frame"), .none, (.dict #[⟨(PyData.keyHash P "self"), (.str "self" 708), (.ref 317)⟩, ⟨(PyData.keyHash P "index"), (.str "index" 709), (.int 0 706)⟩, ⟨(PyData.keyHash P "doc"), (.str "doc" 710), (.str "Alias for field number 0" 707)⟩] 3), #[]⟩
noncomputable def y321 (P : Params) : Obj := ⟨(.type "frame"), .none, (.dict #[⟨(PyData.keyHash P "self"), (.str "self" 718), (.ref 320)⟩, ⟨(PyData.keyHash P "index"), (.str "index" 719), (.int 1 716)⟩, ⟨(PyData.keyHash P "doc"), (.str "doc" 720), (.str "Alias for field number 1" 717)⟩] 3), #[]⟩
noncomputable def y324 (P : Params) : Obj := ⟨(.type "frame"), .none, (.dict #[⟨(PyData.keyHash P "self"), (.str "self" 728), (.ref 323)⟩, ⟨(PyData.keyHash P "index"), (.str "index" 729), (.int 2 726)⟩, ⟨(PyData.keyHash P "doc"), (.str "doc" 730), (.str "Alias for field number 2" 727)⟩] 3), #[]⟩
noncomputable def y326 (P : Params) : Obj := ⟨(.type "list"), .none, (.seq #[] 0), #[]⟩
noncomputable def y330 (P : Params) : Obj := ⟨(.type "super"), .none, (.fields #[(.ref 328), (.ref 328), (.ref 328)]), #[]⟩
noncomputable def y331 (P : Params) : Obj := ⟨(.type "builtin_function_or_method"), .none, (.fields #[(.builtin "object.__init_subclass__"), (.ref 328)]), #[]⟩
noncomputable def y333 (P : Params) : Obj := ⟨.none, .none, (.fields #[]), #[]⟩
noncomputable def y336 (P : Params) : Obj := (fN (nS pw 15) "_count_diff_all_purpose" 0 [] .none .none .none .none .none .none .none 0)
noncomputable def y340 (P : Params) : Obj := ⟨.none, .none, (.fields #[]), #[]⟩
noncomputable def y343 (P : Params) : Obj := (fN (nS pw 17) "_law_noted" 0 [] .none .none .none .none .none .none .none 0)
noncomputable def y347 (P : Params) : Obj := ⟨.none, .none, (.fields #[]), #[]⟩
noncomputable def y350 (P : Params) : Obj := (fN (nS pw 18) "_law_texts" 0 [] .none .none .none .none .none .none .none 0)
noncomputable def y354 (P : Params) : Obj := ⟨.none, .none, (.fields #[]), #[]⟩
noncomputable def y357 (P : Params) : Obj := (fN (nS pw 19) "_law_thing" 0 [] .none .none .none .none .none .none .none 0)
noncomputable def y361 (P : Params) : Obj := ⟨.none, .none, (.fields #[]), #[]⟩
noncomputable def y364 (P : Params) : Obj := (fN (nS pw 20) "_law_drawn" 0 [] .none .none .none .none .none .none .none 0)
noncomputable def y368 (P : Params) : Obj := ⟨.none, .none, (.fields #[]), #[]⟩
noncomputable def y369 (P : Params) : Obj := (fN (nS pw 21) "_law_bags" 0 [] .none .none .none .none .none .none .none 0)
noncomputable def y373 (P : Params) : Obj := ⟨.none, .none, (.fields #[]), #[]⟩
noncomputable def y374 (P : Params) : Obj := (fN (nS pw 22) "_law_due" 0 [] .none .none .none .none .none .none .none 0)
noncomputable def y378 (P : Params) : Obj := ⟨.none, .none, (.fields #[]), #[]⟩
noncomputable def y381 (P : Params) : Obj := (fN (nS pw 23) "_law_written" 0 [] .none .none .none .none .none .none .none 0)
noncomputable def y385 (P : Params) : Obj := ⟨.none, .none, (.fields #[]), #[]⟩
noncomputable def y388 (P : Params) : Obj := (fN (nS pw 24) "_law_add" 0 [] .none .none .none .none .none .none .none 0)
noncomputable def y392 (P : Params) : Obj := ⟨.none, .none, (.fields #[]), #[]⟩
noncomputable def y393 (P : Params) : Obj := (fN (nS pw 25) "_law_laid" 0 [] .none .none .none .none .none .none .none 0)
noncomputable def y397 (P : Params) : Obj := ⟨.none, .none, (.fields #[]), #[]⟩
noncomputable def y398 (P : Params) : Obj := (fN (nS pw 26) "law" 0 [] .none .none .none .none .none .none .none 0)
noncomputable def T2 (P : Params) : BT := (.node (boot_o_0 P) (.node (b1 P) (.node (x3 P) (.node (boot_o_7 P) (.node (b15 P) (.node (y31 P) (.node (y63 P) (.node (x127 P) (.node (y255 P) .nil .nil) (.node o383 .nil .nil)) (.node (x191 P) (.node (x319 P) .nil .nil) .nil)) (.node (x95 P) (.node (x159 P) (.node (x287 P) .nil .nil) .nil) (.node (y223 P) (.node (x351 P) .nil .nil) .nil))) (.node (x47 P) (.node (x79 P) (.node (y143 P) (.node (x271 P) .nil .nil) (.node (x399 P) .nil .nil)) (.node (y207 P) (.node (x335 P) .nil .nil) .nil)) (.node (y111 P) (.node (x175 P) (.node (x303 P) .nil .nil) .nil) (.node (x239 P) (.node (x367 P) .nil .nil) .nil)))) (.node (b23 P) (.node o39 (.node (x71 P) (.node (y135 P) (.node (y263 P) .nil .nil) (.node (x391 P) .nil .nil)) (.node (x199 P) (.node (x327 P) .nil .nil) .nil)) (.node (y103 P) (.node (y167 P) (.node (y295 P) .nil .nil) .nil) (.node (x231 P) (.node o359 .nil .nil) .nil))) (.node (x55 P) (.node (y87 P) (.node (x151 P) (.node (x279 P) .nil .nil) .nil) (.node (y215 P) (.node (y343 P) .nil .nil) .nil)) (.node (y119 P) (.node (y183 P) (.node (x311 P) .nil .nil) .nil) (.node (x247 P) (.node (x375 P) .nil .nil) .nil))))) (.node (b11 P) (.node (b19 P) (.node (x35 P) (.node (x67 P) (.node (x131 P) (.node (y259 P) .nil .nil) (.node (x387 P) .nil .nil)) (.node (y195 P) (.node (x323 P) .nil .nil) .nil)) (.node (x99 P) (.node (x163 P) (.node (y291 P) .nil .nil) .nil) (.node (x227 P) (.node (x355 P) .nil .nil) .nil))) (.node (y51 P) (.node (x83 P) (.node (x147 P) (.node o275 .nil .nil) .nil) (.node (y211 P) (.node (x339 P) .nil .nil) .nil)) (.node (y115 P) (.node (x179 P) (.node o307 .nil .nil) .nil) (.node (x243 P) (.node o371 .nil .nil) .nil)))) (.node (b27 P) (.node (y43 P) (.node o75 (.node (x139 P) (.node (x267 P) .nil .nil) (.node o395 .nil .nil)) (.node (x203 P) (.node (y331 P) .nil .nil) .nil)) (.node (x107 P) (.node (x171 P) (.node (x299 P) .nil .nil) .nil) (.node o235 (.node (x363 P) .nil .nil) .nil))) (.node (y59 P) (.node (x91 P) (.node o155 (.node (x283 P) .nil .nil) .nil) (.node (x219 P) (.node (y347 P) .nil .nil) .nil)) (.node (x123 P) (.node (y187 P) (.node (x315 P) .nil .nil) .nil) (.node (x251 P) (.node (x379 P) .nil .nil) .nil)))))) (.node (boot_o_5 P) (.node (boot_o_9 P) (.node (b17 P) (.node (x33 P) (.node (x65 P) (.node (x129 P) (.node o257 .nil .nil) (.node (y385 P) .nil .nil)) (.node (x193 P) (.node (y321 P) .nil .nil) .nil)) (.node (x97 P) (.node (x161 P) (.node (x289 P) .nil .nil) .nil) (.node (x225 P) (.node (x353 P) .nil .nil) .nil))) (.node (x49 P) (.node (y81 P) (.node (x145 P) (.node (y273 P) .nil .nil) .nil) (.node (y209 P) (.node (x337 P) .nil .nil) .nil)) (.node (x113 P) (.node (x177 P) (.node (y305 P) .nil .nil) .nil) (.node (x241 P) (.node (y369 P) .nil .nil) .nil)))) (.node (b25 P) (.node (y41 P) (.node (y73 P) (.node o137 (.node (y265 P) .nil .nil) (.node (y393 P) .nil .nil)) (.node (x201 P) (.node (x329 P) .nil .nil) .nil)) (.node o105 (.node o169 (.node (x297 P) .nil .nil) .nil) (.node (y233 P) (.node (y361 P) .nil .nil) .nil))) (.node (x57 P) (.node (y89 P) (.node (y153 P) (.node (x281 P) .nil .nil) .nil) (.node (x217 P) (.node o345 .nil .nil) .nil)) (.node (x121 P) (.node (y185 P) (.node (x313 P) .nil .nil) .nil) (.node (y249 P) (.node (x377 P) .nil .nil) .nil))))) (.node (b13 P) (.node (b21 P) (.node (y37 P) (.node (x69 P) (.node (x133 P) (.node (x261 P) .nil .nil) (.node (x389 P) .nil .nil)) (.node o197 (.node (x325 P) .nil .nil) .nil)) (.node (x101 P) (.node (x165 P) (.node o293 .nil .nil) .nil) (.node (x229 P) (.node (y357 P) .nil .nil) .nil))) (.node o53 (.node (y85 P) (.node (x149 P) (.node (y277 P) .nil .nil) .nil) (.node (y213 P) (.node (x341 P) .nil .nil) .nil)) (.node (y117 P) (.node (x181 P) (.node (y309 P) .nil .nil) .nil) (.node (x245 P) (.node (y373 P) .nil .nil) .nil)))) (.node (y29 P) (.node (y45 P) (.node (x77 P) (.node (x141 P) (.node (x269 P) .nil .nil) (.node (y397 P) .nil .nil)) (.node (y205 P) (.node (y333 P) .nil .nil) .nil)) (.node (x109 P) (.node (y173 P) (.node (x301 P) .nil .nil) .nil) (.node (y237 P) (.node (x365 P) .nil .nil) .nil))) (.node o61 (.node (y93 P) (.node (y157 P) (.node (x285 P) .nil .nil) .nil) (.node (x221 P) (.node (x349 P) .nil .nil) .nil)) (.node (y125 P) (.node (y189 P) (.node (x317 P) .nil .nil) .nil) (.node (x253 P) (.node (y381 P) .nil .nil) .nil))))))) (.node (x2 P) (.node (boot_o_4 P) (.node (boot_o_8 P) (.node (b16 P) (.node (y32 P) (.node (x64 P) (.node (y128 P) (.node (x256 P) .nil .nil) (.node (x384 P) .nil .nil)) (.node (y192 P) (.node (x320 P) .nil .nil) .nil)) (.node (y96 P) (.node (y160 P) (.node (y288 P) .nil .nil) .nil) (.node (x224 P) (.node o352 .nil .nil) .nil))) (.node (y48 P) (.node (x80 P) (.node (x144 P) (.node (x272 P) .nil .nil) (.node o400 .nil .nil)) (.node (y208 P) (.node (y336 P) .nil .nil) .nil)) (.node (y112 P) (.node (y176 P) (.node (x304 P) .nil .nil) .nil) (.node (y240 P) (.node (y368 P) .nil .nil) .nil)))) (.node (b24 P) (.node (y40 P) (.node (x72 P) (.node (x136 P) (.node (y264 P) .nil .nil) (.node (y392 P) .nil .nil)) (.node (x200 P) (.node (x328 P) .nil .nil) .nil)) (.node (x104 P) (.node (x168 P) (.node (x296 P) .nil .nil) .nil) (.node (x232 P) (.node (x360 P) .nil .nil) .nil))) (.node (y56 P) (.node (y88 P) (.node (x152 P) (.node (y280 P) .nil .nil) .nil) (.node (x216 P) (.node (x344 P) .nil .nil) .nil)) (.node (y120 P) (.node (x184 P) (.node (y312 P) .nil .nil) .nil) (.node (y248 P) (.node o376 .nil .nil) .nil))))) (.node (c12 P) (.node (b20 P) (.node (x36 P) (.node o68 (.node (y132 P) (.node (y260 P) .nil .nil) (.node (y388 P) .nil .nil)) (.node (x196 P) (.node (y324 P) .nil .nil) .nil)) (.node (y100 P) (.node (y164 P) (.node (x292 P) .nil .nil) .nil) (.node o228 (.node (x356 P) .nil .nil) .nil))) (.node (x52 P) (.node (y84 P) (.node o148 (.node (x276 P) .nil .nil) .nil) (.node (y212 P) (.node (y340 P) .nil .nil) .nil)) (.node (x116 P) (.node (x180 P) (.node (x308 P) .nil .nil) .nil) (.node (x244 P) (.node (x372 P) .nil .nil) .nil)))) (.node (b28 P) (.node (y44 P) (.node (x76 P) (.node (x140 P) (.node (x268 P) .nil .nil) (.node (x396 P) .nil .nil)) (.node (x204 P) (.node (x332 P) .nil .nil) .nil)) (.node (x108 P) (.node (x172 P) (.node o300 .nil .nil) .nil) (.node (x236 P) (.node (y364 P) .nil .nil) .nil))) (.node (x60 P) (.node (x92 P) (.node (x156 P) (.node (x284 P) .nil .nil) .nil) (.node o220 (.node (x348 P) .nil .nil) .nil)) (.node (x124 P) (.node (y188 P) (.node (x316 P) .nil .nil) .nil) (.node (y252 P) (.node (x380 P) .nil .nil) .nil)))))) (.node (boot_o_6 P) (.node (boot_o_10 P) (.node (b18 P) (.node (y34 P) (.node (y66 P) (.node o130 (.node (x258 P) .nil .nil) (.node (x386 P) .nil .nil)) (.node (x194 P) (.node (x322 P) .nil .nil) .nil)) (.node o98 (.node o162 (.node (x290 P) .nil .nil) .nil) (.node (y226 P) (.node (y354 P) .nil .nil) .nil))) (.node (x50 P) (.node (y82 P) (.node (y146 P) (.node (x274 P) .nil .nil) .nil) (.node (y210 P) (.node o338 .nil .nil) .nil)) (.node (y114 P) (.node (y178 P) (.node (x306 P) .nil .nil) .nil) (.node o242 (.node (x370 P) .nil .nil) .nil)))) (.node (b26 P) (.node (y42 P) (.node (x74 P) (.node (x138 P) (.node (x266 P) .nil .nil) (.node (x394 P) .nil .nil)) (.node (x202 P) (.node (y330 P) .nil .nil) .nil)) (.node (x106 P) (.node (x170 P) (.node (y298 P) .nil .nil) .nil) (.node (x234 P) (.node (x362 P) .nil .nil) .nil))) (.node (x58 P) (.node (y90 P) (.node (x154 P) (.node o282 .nil .nil) .nil) (.node (y218 P) (.node (x346 P) .nil .nil) .nil)) (.node (x122 P) (.node (y186 P) (.node o314 .nil .nil) .nil) (.node (x250 P) (.node (y378 P) .nil .nil) .nil))))) (.node (b14 P) (.node (b22 P) (.node (x38 P) (.node (y70 P) (.node (x134 P) (.node (y262 P) .nil .nil) (.node o390 .nil .nil)) (.node (x198 P) (.node (y326 P) .nil .nil) .nil)) (.node (x102 P) (.node (x166 P) (.node (x294 P) .nil .nil) .nil) (.node (y230 P) (.node (x358 P) .nil .nil) .nil))) (.node (x54 P) (.node (x86 P) (.node (y150 P) (.node (x278 P) .nil .nil) .nil) (.node (x214 P) (.node (x342 P) .nil .nil) .nil)) (.node (y118 P) (.node (y182 P) (.node (x310 P) .nil .nil) .nil) (.node (x246 P) (.node (y374 P) .nil .nil) .nil)))) (.node (y30 P) (.node (y46 P) (.node (x78 P) (.node (x142 P) (.node (y270 P) .nil .nil) (.node (y398 P) .nil .nil)) (.node (y206 P) (.node (x334 P) .nil .nil) .nil)) (.node (x110 P) (.node (x174 P) (.node (y302 P) .nil .nil) .nil) (.node (x238 P) (.node o366 .nil .nil) .nil))) (.node (x62 P) (.node (x94 P) (.node (x158 P) (.node (x286 P) .nil .nil) .nil) (.node (x222 P) (.node (y350 P) .nil .nil) .nil)) (.node (x126 P) (.node (y190 P) (.node (y318 P) .nil .nil) .nil) (.node (x254 P) (.node (x382 P) .nil .nil) .nil))))))))
-- the runs over trees, by any word for one step
section
noncomputable def impEndsG {β : Type} (ae : Thread → Option (List β)) (stp : SharedT → Thread → Option (SharedT × Thread)) : Nat → SharedT → Thread → Option SharedT
  | 0, _, _ => none
  | n + 1, s, t => match ae t with
    | some [] => some s
    | some (_ :: _) => none
    | none => match stp s t with
      | some (s', t') => impEndsG ae stp n s' t'
      | none => none
noncomputable def topRunG (ok : Thread → Bool) (stp : SharedT → Thread → Option (SharedT × Thread)) : Nat → SharedT → Thread → Option SharedT
  | 0, _, _ => none
  | n + 1, s, t => match through t with
    | true => some s
    | false => match ok t with
      | false => none
      | true => match stp s t with
        | some (s', t') => topRunG ok stp n s' t'
        | none => none
end
section
variable {tb : String → Option Builtin} {p : Program} {w : World} {n₀ : Nat} {ann : Option Value}
theorem impEnds_of : ∀ {n : Nat} {s r : SharedT} {t : Thread}, impEndsG Thread.atExitBegin (stepT (denote tb) p w) n s t = some r → importEnds tb p w n s.abs t = some r.abs
  | 0, _, _, _, h => by cases h
  | n + 1, s, r, t, h => by
    unfold impEndsG at h
    unfold importEnds
    cases he : t.atExitBegin with
    | some l =>
      rw [he] at h
      cases l with
      | nil => cases h; rfl
      | cons _ _ => cases h
    | none =>
      rw [he] at h
      cases hs : stepT (denote tb) p w s t with
      | none => rw [hs] at h; cases h
      | some q => obtain ⟨s₂, t₂⟩ := q; rw [hs] at h; dsimp only; rw [stepT_spec hs]; exact impEnds_of h
theorem topRun_of : ∀ {n : Nat} {s r : SharedT} {t : Thread}, topRunG (stepOk n₀ ann) (stepT (denote tb) p w) n s t = some r → topRun tb p w n₀ ann n s.abs t = some r.abs
  | 0, _, _, _, h => by cases h
  | n + 1, s, r, t, h => by
    unfold topRunG at h
    unfold topRun
    cases ht : through t with
    | true => rw [ht] at h; cases h; rfl
    | false =>
      rw [ht] at h
      cases hq : stepOk n₀ ann t with
      | false => rw [hq] at h; cases h
      | true =>
        rw [hq] at h
        cases hs : stepT (denote tb) p w s t with
        | none => rw [hs] at h; cases h
        | some q => obtain ⟨s₂, t₂⟩ := q; rw [hs] at h; dsimp only; rw [stepT_spec hs]; exact topRun_of h
end
theorem left_of {p q : Program} {loose : List Str} {Xt : Shared → Bool} {α : Type} {Yf : Shared → α} {Ya : World → α} {N : Nat} {H₀ : Params → BT} {z k₀ m₀ : Nat} {ann : Option Value} {M : Nat}
    (open_ : ∀ w : World, (fencedOpening treeTable p w N).map (fun s => (s.heap, s.gens, s.drawn, s.toks)) = some (absHeap (H₀ w.params) z {}, #[], {}, k₀))
    (size : ∀ w : World, ((absHeap (H₀ w.params) z {}).isNs mainGlobals, (absHeap (H₀ w.params) z {}).objs.size, (absHeap (H₀ w.params) z {}).nsMap mainGlobals "__annotations__") = (true, m₀, ann))
    {H₁ : Params → BT} {z₁ k₁ : Nat}
    (run : ∀ (w : World), (fun os => topRunG (stepOk m₀ ann) (stepT (denote treeTable) p w) M ⟨H₀ w.params, z, {}, #[], {}, k₀, os⟩ (topStub p)) = fun os => some ⟨H₁ w.params, z₁, {}, #[], {}, k₁, os⟩)
    (look : ∀ (w : World), (fun os => (staticsOk (importedModules p.main.body) (absHeap (H₀ w.params) z {}) (absHeap (H₁ w.params) z₁ {}) && namesBound p (absHeap (H₁ w.params) z₁ {}) && gensDone (SharedT.abs ⟨H₁ w.params, z₁, {}, #[], {}, k₁, os⟩) && laidKept (absHeap (H₀ w.params) z {}) (absHeap (H₁ w.params) z₁ {}))) = fun _ => true)
    (seen_ : ∀ (w : World), (fun os => openSeen q loose (importedModules p.main.body) Xt true (SharedT.abs ⟨H₁ w.params, z₁, {}, #[], {}, k₁, os⟩)) = fun _ => openGood q loose)
    (obs_ : ∀ (w : World), (fun os => Yf (SharedT.abs ⟨H₁ w.params, z₁, {}, #[], {}, k₁, os⟩)) = fun _ => Ya w) (le : Nat.ble M N = true) : LeftO p q loose Xt Yf Ya N := fun w => by
  obtain ⟨⟨h, gs, d, k, os⟩, e, e'⟩ := Option.map_eq_some_iff.mp (open_ w)
  obtain ⟨rfl, rfl, rfl, rfl⟩ : h = absHeap (H₀ w.params) z {} ∧ gs = #[] ∧ d = {} ∧ k = k₀ := by simpa using e'
  obtain ⟨z1, z2, z3⟩ : _ ∧ _ ∧ _ := by simpa only [Prod.mk.injEq] using size w
  obtain ⟨r, hr, l1, l2, l3⟩ : ∃ r : SharedT, topRunG (stepOk m₀ ann) (stepT (denote treeTable) p w) M ⟨H₀ w.params, z, {}, #[], {}, k, os⟩ (topStub p) = some r ∧
      (staticsOk (importedModules p.main.body) (absHeap (H₀ w.params) z {}) r.abs.heap && namesBound p r.abs.heap && gensDone r.abs && laidKept (absHeap (H₀ w.params) z {}) r.abs.heap) = true ∧
      openSeen q loose (importedModules p.main.body) Xt true r.abs = openGood q loose ∧ Yf r.abs = Ya w := ⟨_, congrFun (run w) os, congrFun (look w) os, congrFun (seen_ w) os, congrFun (obs_ w) os⟩
  have r' := topRun_mono (N - M) _ _ _ _ (topRun_of hr)
  rw [show M + (N - M) = N by have := Nat.le_of_ble_eq_true le; omega] at r'
  have t : topFrom treeTable p w N ⟨absHeap (H₀ w.params) z {}, #[], {}, k, os⟩ = some r.abs := by
    unfold topFrom
    dsimp only
    rw [z1, z2, z3]
    show (topRun treeTable p w m₀ ann N (SharedT.abs ⟨H₀ w.params, z, {}, #[], {}, k, os⟩) (topStub p)).bind _ = _
    rw [r']
    show (match staticsOk (importedModules p.main.body) (absHeap (H₀ w.params) z {}) r.abs.heap && namesBound p r.abs.heap && gensDone r.abs && laidKept (absHeap (H₀ w.params) z {}) r.abs.heap with | true => _ | false => _) = _
    rw [l1]
  unfold openEnds
  rw [e]
  show (topFrom treeTable p w N _).map _ = _
  rw [t]
  exact congrArg some (Prod.ext l2 l3)
/-- the view: the statements of the text that are read back -/
noncomputable def vw : Program := view pw [0, 1, 3, 4, 5, 6, 7, 9, 10, 11, 13, 14, 15, 17, 18, 19, 20, 21, 22, 23, 24, 25, 26]
noncomputable def lo : List Str := ["_tuplegetter", "tuplegetter_collections", "Pair", "tuplegetter_util", "safe_repr", "Mismatch", "_Mismatch"]
noncomputable abbrev rW : RowW := PySem.Challenge.rw_in0011_01.row.toRowW
/-- one step, in the words that the kernel runs quickly -/
theorem stepQ : stepT (denote treeTable) = PySem.W.Fast.tw10156331382660048174 (PySem.W.Fast.tw11892475500146522536 PySem.W.Fast.tw14364793385576792824) := by rw [PySem.W.Fast.te10156331382660048174, PySem.W.Fast.te11892475500146522536, PySem.W.Fast.te14364793385576792824]
theorem open_run (w : World) : (fun os => impEndsG Thread.atExitBegin (stepT (denote treeTable) (opening pw) w) 900 ⟨.nil, 0, {}, #[], {}, 1, os⟩ (start (opening pw)).2) = fun os => some ⟨T0 w.params, 29, {}, #[], {}, 273, os⟩ := by
  rw [stepQ, PySem.W.Fast.te1435165496053646825, PySem.W.Fast.te3805553451399329143]
  kernel_rfl
theorem open_fence (w : World) : (fun os => (fenceModules? pw ⟨absHeap (T0 w.params) 29 {}, #[], {}, 273, os⟩).map (fun s => (s.heap, s.gens, s.drawn, s.toks))) = fun _ => some (absHeap (T1 w.params) 29 {}, #[], {}, 273) := by
  rw [PySem.W.Fast.te14289696077712309145]
  kernel_rfl
theorem open_start : (start (opening pw)).1 = SharedT.abs ⟨.nil, 0, {}, #[], {}, 1, (start (opening pw)).1.os⟩ := by kernel_rfl
theorem open_at (w : World) : (fencedOpening treeTable pw w 7576).map (fun s => (s.heap, s.gens, s.drawn, s.toks)) = some (absHeap (T1 w.params) 29 {}, #[], {}, 273) := by
  refine open_cut (M := 900) (He := fun P => absHeap (T0 P) 29 {}) (H₀ := fun P => absHeap (T1 P) 29 {}) (fun w => ?_) rfl open_fence w
  have h := impEnds_of (congrFun (open_run w) (start (opening pw)).1.os)
  rw [← open_start] at h
  exact h
theorem open_size (w : World) : ((absHeap (T1 w.params) 29 {}).isNs mainGlobals, (absHeap (T1 w.params) 29 {}).objs.size, (absHeap (T1 w.params) 29 {}).nsMap mainGlobals "__annotations__") = (true, 29, some (.ref 6)) := by kernel_rfl
theorem top_run (w : World) : (fun os => topRunG (stepOk 29 (some (.ref 6))) (stepT (denote treeTable) pw w) 3800 ⟨T1 w.params, 29, {}, #[], {}, 273, os⟩ (topStub pw)) = fun os => some ⟨T2 w.params, 401, {}, #[], {}, 845, os⟩ := by
  rw [stepQ, PySem.W.Fast.te6613529449190102663]
  kernel_rfl
theorem top_look (w : World) : (fun os => (staticsOk (importedModules pw.main.body) (absHeap (T1 w.params) 29 {}) (absHeap (T2 w.params) 401 {}) && namesBound pw (absHeap (T2 w.params) 401 {}) && gensDone (SharedT.abs ⟨T2 w.params, 401, {}, #[], {}, 845, os⟩) && laidKept (absHeap (T1 w.params) 29 {}) (absHeap (T2 w.params) 401 {}))) = fun _ => true := by
  rw [PySem.W.Fast.te5923862056798008813]
  kernel_rfl
theorem top_seen (w : World) : (fun os => openSeen vw lo (importedModules pw.main.body) (fun s => xlAt vw [] s && recOk (RowW.records rW) s) true (SharedT.abs ⟨T2 w.params, 401, {}, #[], {}, 845, os⟩)) = fun _ => openGood vw lo := by
  rw [PySem.W.Fast.te4187177175401517315, PySem.W.Fast.te5923862056798008813]
  kernel_rfl
theorem top_obs (w : World) : (fun os => Hook.obs hkH (SharedT.abs ⟨T2 w.params, 401, {}, #[], {}, 845, os⟩)) = fun _ => Hook.val hkH w := by kernel_rfl
theorem left_all : LeftO pw vw lo (fun s => xlAt vw [] s && recOk (RowW.records rW) s) (Hook.obs hkH) (Hook.val hkH) 7576 := left_of open_at open_size top_run top_look top_seen top_obs rfl
theorem law_said : PySem.Challenge.rw_in0011_01.wellSaid = true := by
  rw [PySem.W.Fast.te9446332074065402090]
  kernel_rfl
-- facts with many parts, taken apart and put together at once
theorem ex2 {α β : Type} {T : Prop} {P : α → β → Prop} (k : ∀ a b, P a b → T) (h : ∃ a b, P a b) : T := h.elim fun a h => h.elim fun b h => k a b h
theorem ex3 {α β γ : Type} {T : Prop} {P : α → β → γ → Prop} (k : ∀ a b c, P a b c → T) (h : ∃ a b c, P a b c) : T := h.elim fun a h => h.elim fun b h => h.elim fun c h => k a b c h
theorem ix3 {α β γ : Type} {P : α → β → γ → Prop} {a b c} (h : P a b c) : ∃ a b c, P a b c := ⟨a, b, c, h⟩
theorem ex4 {α β γ δ : Type} {T : Prop} {P : α → β → γ → δ → Prop} (k : ∀ a b c d, P a b c d → T) (h : ∃ a b c d, P a b c d) : T := h.elim fun a h => h.elim fun b h => h.elim fun c h => h.elim fun d h => k a b c d h
theorem ix4 {α β γ δ : Type} {P : α → β → γ → δ → Prop} {a b c d} (h : P a b c d) : ∃ a b c d, P a b c d := ⟨a, b, c, d, h⟩
theorem ex5 {α β γ δ ε : Type} {T : Prop} {P : α → β → γ → δ → ε → Prop} (k : ∀ a b c d e, P a b c d e → T) (h : ∃ a b c d e, P a b c d e) : T := h.elim fun a h => h.elim fun b h => h.elim fun c h => h.elim fun d h => h.elim fun e h => k a b c d e h
theorem ix5 {α β γ δ ε : Type} {P : α → β → γ → δ → ε → Prop} {a b c d e} (h : P a b c d e) : ∃ a b c d e, P a b c d e := ⟨a, b, c, d, e, h⟩
theorem ex6 {α β γ δ ε ζ : Type} {T : Prop} {P : α → β → γ → δ → ε → ζ → Prop} (k : ∀ a b c d e f, P a b c d e f → T) (h : ∃ a b c d e f, P a b c d e f) : T := h.elim fun a h => h.elim fun b h => h.elim fun c h => h.elim fun d h => h.elim fun e h => h.elim fun f h => k a b c d e f h
theorem ix6 {α β γ δ ε ζ : Type} {P : α → β → γ → δ → ε → ζ → Prop} {a b c d e f} (h : P a b c d e f) : ∃ a b c d e f, P a b c d e f := ⟨a, b, c, d, e, f, h⟩
theorem an2 {P0 P1 T : Prop} (k : P0 → P1 → T) (h : P0 ∧ P1) : T := k h.1 h.2
theorem an3 {P0 P1 P2 T : Prop} (k : P0 → P1 → P2 → T) (h : P0 ∧ P1 ∧ P2) : T := k h.1 h.2.1 h.2.2
theorem in3 {P0 P1 P2 : Prop} (p0 : P0) (p1 : P1) (p2 : P2) : P0 ∧ P1 ∧ P2 := ⟨p0, p1, p2⟩
theorem an4 {P0 P1 P2 P3 T : Prop} (k : P0 → P1 → P2 → P3 → T) (h : P0 ∧ P1 ∧ P2 ∧ P3) : T := k h.1 h.2.1 h.2.2.1 h.2.2.2
theorem in4 {P0 P1 P2 P3 : Prop} (p0 : P0) (p1 : P1) (p2 : P2) (p3 : P3) : P0 ∧ P1 ∧ P2 ∧ P3 := ⟨p0, p1, p2, p3⟩
theorem an5 {P0 P1 P2 P3 P4 T : Prop} (k : P0 → P1 → P2 → P3 → P4 → T) (h : P0 ∧ P1 ∧ P2 ∧ P3 ∧ P4) : T := k h.1 h.2.1 h.2.2.1 h.2.2.2.1 h.2.2.2.2
theorem in5 {P0 P1 P2 P3 P4 : Prop} (p0 : P0) (p1 : P1) (p2 : P2) (p3 : P3) (p4 : P4) : P0 ∧ P1 ∧ P2 ∧ P3 ∧ P4 := ⟨p0, p1, p2, p3, p4⟩
theorem an6 {P0 P1 P2 P3 P4 P5 T : Prop} (k : P0 → P1 → P2 → P3 → P4 → P5 → T) (h : P0 ∧ P1 ∧ P2 ∧ P3 ∧ P4 ∧ P5) : T := k h.1 h.2.1 h.2.2.1 h.2.2.2.1 h.2.2.2.2.1 h.2.2.2.2.2
theorem in6 {P0 P1 P2 P3 P4 P5 : Prop} (p0 : P0) (p1 : P1) (p2 : P2) (p3 : P3) (p4 : P4) (p5 : P5) : P0 ∧ P1 ∧ P2 ∧ P3 ∧ P4 ∧ P5 := ⟨p0, p1, p2, p3, p4, p5⟩
theorem an8 {P0 P1 P2 P3 P4 P5 P6 P7 T : Prop} (k : P0 → P1 → P2 → P3 → P4 → P5 → P6 → P7 → T) (h : P0 ∧ P1 ∧ P2 ∧ P3 ∧ P4 ∧ P5 ∧ P6 ∧ P7) : T := k h.1 h.2.1 h.2.2.1 h.2.2.2.1 h.2.2.2.2.1 h.2.2.2.2.2.1 h.2.2.2.2.2.2.1 h.2.2.2.2.2.2.2
theorem in8 {P0 P1 P2 P3 P4 P5 P6 P7 : Prop} (p0 : P0) (p1 : P1) (p2 : P2) (p3 : P3) (p4 : P4) (p5 : P5) (p6 : P6) (p7 : P7) : P0 ∧ P1 ∧ P2 ∧ P3 ∧ P4 ∧ P5 ∧ P6 ∧ P7 := ⟨p0, p1, p2, p3, p4, p5, p6, p7⟩
theorem an11 {P0 P1 P2 P3 P4 P5 P6 P7 P8 P9 P10 T : Prop} (k : P0 → P1 → P2 → P3 → P4 → P5 → P6 → P7 → P8 → P9 → P10 → T) (h : P0 ∧ P1 ∧ P2 ∧ P3 ∧ P4 ∧ P5 ∧ P6 ∧ P7 ∧ P8 ∧ P9 ∧ P10) : T := k h.1 h.2.1 h.2.2.1 h.2.2.2.1 h.2.2.2.2.1 h.2.2.2.2.2.1 h.2.2.2.2.2.2.1 h.2.2.2.2.2.2.2.1 h.2.2.2.2.2.2.2.2.1 h.2.2.2.2.2.2.2.2.2.1 h.2.2.2.2.2.2.2.2.2.2
theorem in11 {P0 P1 P2 P3 P4 P5 P6 P7 P8 P9 P10 : Prop} (p0 : P0) (p1 : P1) (p2 : P2) (p3 : P3) (p4 : P4) (p5 : P5) (p6 : P6) (p7 : P7) (p8 : P8) (p9 : P9) (p10 : P10) : P0 ∧ P1 ∧ P2 ∧ P3 ∧ P4 ∧ P5 ∧ P6 ∧ P7 ∧ P8 ∧ P9 ∧ P10 := ⟨p0, p1, p2, p3, p4, p5, p6, p7, p8, p9, p10⟩
theorem ea2 {α : Type} {A B : α → Prop} {T : Prop} (k : ∀ a, A a → B a → T) (h : ∃ a, A a ∧ B a) : T := h.elim fun a h => k a h.1 h.2
theorem ea3 {α : Type} {A B C : α → Prop} {T : Prop} (k : ∀ a, A a → B a → C a → T) (h : ∃ a, A a ∧ B a ∧ C a) : T := h.elim fun a h => k a h.1 h.2.1 h.2.2
/-- a state: the heap and the count of tokens move, the rest stands -/
@[reducible] noncomputable def sh (s₀ : Shared) (h : Heap) (t : Nat) : Shared := ⟨h, s₀.gens, s₀.drawn, t, s₀.os⟩

noncomputable abbrev OP := Obj → Prop
noncomputable abbrev Own := List (Addr × OP)
noncomputable def NsO (m : Str → Option Value) : OP := fun o => ∃ es ep, o.data = .dict es ep ∧ StrKeys es ∧ ∀ n, nsFind es n = m n
noncomputable abbrev lstObj (vs : List Value) (n : Nat) : Obj := { cls := .type "list", data := .seq vs.toArray n }
noncomputable abbrev tupObj (vs : List Value) (n : Nat) : Obj := { cls := .type "tuple", data := .seq vs.toArray n }
noncomputable def LstO (vs : List Value) : OP := fun o => ∃ n, o = lstObj vs n
noncomputable def TupO (vs : List Value) : OP := fun o => ∃ n, o = tupObj vs n
noncomputable def CellO (v : Option Value) : OP := fun o => o.data = .cell v
noncomputable def LitO (l : Addr) (i : Nat) : OP := fun o => o.cls = .type "list_iterator" ∧ o.data = .fields #[.ref l, .int i 0]
noncomputable def TitO (l : Addr) (i : Nat) : OP := fun o => o.cls = .type "tuple_iterator" ∧ o.data = .fields #[.ref l, .int i 0]
noncomputable def IsO (x : Obj) : OP := fun o => o = x

noncomputable abbrev Kp (h h' : Heap) : Prop := ∀ b o, h.get? b = some o → h'.get? b = some o

/-- what a call leaves: all stands, the frozen part has grown by new objects -/
structure ZX (Z h Z' h' : Heap) : Prop where
  keep : Kp h h'
  le : Kp Z Z'
  sub : Kp Z' h'
  new : ∀ a o, Z'.get? a = some o → Z.get? a = some o ∨ h.get? a = none

theorem ZX.trans {Z h Z1 h1 Z2 h2 : Heap} (a : ZX Z h Z1 h1) (b : ZX Z1 h1 Z2 h2) : ZX Z h Z2 h2 :=
  ⟨fun x o e => b.keep x o (a.keep x o e), fun x o e => b.le x o (a.le x o e), b.sub, fun x o e => by
    rcases b.new x o e with q | q
    · exact a.new x o q
    · refine .inr ?_
      cases hq : h.get? x with
      | none => rfl
      | some o' => rw [a.keep x o' hq] at q; cases q⟩
theorem ZX.refl {Z h : Heap} (s : Kp Z h) : ZX Z h Z h := ⟨fun _ _ e => e, fun _ _ e => e, s, fun _ _ e => .inl e⟩

structure St (Z₀ h₀ : Heap) (L : Addr) (Z : Heap) (m : Str → Option Value) (own : Own) (h : Heap) : Prop where
  zx : ZX Z₀ h₀ Z h
  ns : h.Ns L m
  lz : Z.get? L = none
  lb : h₀.objs.size ≤ L
  ow : ∀ p ∈ own, (∃ o, h.get? p.1 = some o ∧ p.2 o) ∧ Z.get? p.1 = none ∧ h₀.get? p.1 = none ∧ p.1 ≠ L
  nd : (own.map (·.1)).Nodup

theorem St.fr {Z₀ h₀ : Heap} {L : Addr} {Z : Heap} {m : Str → Option Value} {own : Own} {h : Heap} (S : St Z₀ h₀ L Z m own h) : Fr h₀ L h m := ⟨S.ns, S.zx.keep, S.lb⟩

inductive Rp (a : Addr) (P P' : OP) : Own → Own → Prop
  | head {r} : Rp a P P' ((a, P) :: r) ((a, P') :: r)
  | tail {p r r'} : Rp a P P' r r' → Rp a P P' (p :: r) (p :: r')
inductive Dl (a : Addr) (P : OP) : Own → Own → Prop
  | head {r} : Dl a P ((a, P) :: r) r
  | tail {p r r'} : Dl a P r r' → Dl a P (p :: r) (p :: r')

theorem Rp.mem {a P P'} {l l' : Own} (u : Rp a P P' l l') : (a, P) ∈ l := by induction u with | head => exact .head _ | tail _ ih => exact .tail _ ih
theorem Dl.mem {a P} {l l' : Own} (u : Dl a P l l') : (a, P) ∈ l := by induction u with | head => exact .head _ | tail _ ih => exact .tail _ ih
theorem Rp.addrs {a P P'} {l l' : Own} (u : Rp a P P' l l') : l'.map (·.1) = l.map (·.1) := by
  induction u with
  | head => rfl
  | tail _ ih => simp only [List.map_cons, ih]
theorem Rp.cases {a P P'} {l l' : Own} (u : Rp a P P' l l') (nd : (l.map (·.1)).Nodup) : ∀ p ∈ l', (p = (a, P')) ∨ (p ∈ l ∧ p.1 ≠ a) := by
  induction u with
  | head =>
    intro p hp
    rename_i r
    rcases List.mem_cons.mp hp with rfl | hp
    · exact .inl rfl
    · refine .inr ⟨.tail _ hp, ?_⟩
      have := (List.nodup_cons.mp nd).1
      intro e
      exact this (List.mem_map.mpr ⟨p, hp, e⟩)
  | tail u ih =>
    intro p hp
    rename_i q r r'
    have h2 := List.nodup_cons.mp nd
    rcases List.mem_cons.mp hp with rfl | hp
    · refine .inr ⟨.head _, fun e => ?_⟩
      exact h2.1 (List.mem_map.mpr ⟨_, u.mem, e.symm⟩)
    · rcases ih h2.2 p hp with h | ⟨h, h'⟩
      · exact .inl h
      · exact .inr ⟨.tail _ h, h'⟩
theorem Dl.cases {a P} {l l' : Own} (u : Dl a P l l') (nd : (l.map (·.1)).Nodup) : (∀ p ∈ l', p ∈ l ∧ p.1 ≠ a) ∧ (l'.map (·.1)).Nodup := by
  induction u with
  | head =>
    rename_i r
    have h2 := List.nodup_cons.mp nd
    exact ⟨fun p hp => ⟨.tail _ hp, fun e => h2.1 (List.mem_map.mpr ⟨p, hp, e⟩)⟩, h2.2⟩
  | tail u ih =>
    rename_i q r r'
    have h2 := List.nodup_cons.mp nd
    obtain ⟨i1, i2⟩ := ih h2.2
    refine ⟨fun p hp => ?_, ?_⟩
    · rcases List.mem_cons.mp hp with rfl | hp
      · exact ⟨.head _, fun e => h2.1 (List.mem_map.mpr ⟨_, u.mem, e.symm⟩)⟩
      · exact ⟨.tail _ (i1 p hp).1, (i1 p hp).2⟩
    · refine List.nodup_cons.mpr ⟨fun hq => ?_, i2⟩
      obtain ⟨p, hp, e⟩ := List.mem_map.mp hq
      exact h2.1 (List.mem_map.mpr ⟨p, (i1 p hp).1, e⟩)

section
variable {Z₀ h₀ : Heap} {L : Addr} {Z Z' : Heap} {m m' : Str → Option Value} {own own' : Own} {h h' : Heap} {a : Addr} {P P' : OP} {o o' : Obj}

theorem Kp.ns (k : Kp h h') (n : h.Ns L m) : h'.Ns L m := n.keeps k

theorem St.keep (S : St Z₀ h₀ L Z m own h) (k : Kp h h') : St Z₀ h₀ L Z m own h' where
  zx := ⟨fun b o e => k b o (S.zx.keep b o e), S.zx.le, fun b o e => k b o (S.zx.sub b o e), S.zx.new⟩
  ns := S.ns.keeps k
  lz := S.lz
  lb := S.lb
  ow := fun p hp => let ⟨⟨o, ho, q⟩, r⟩ := S.ow p hp; ⟨⟨o, k _ o ho, q⟩, r⟩
  nd := S.nd

theorem St.mem (S : St Z₀ h₀ L Z m own h) (hm : (a, P) ∈ own) : ∃ o, h.get? a = some o ∧ P o := (S.ow _ hm).1
theorem St.zi (S : St Z₀ h₀ L Z m own h) : Kp Z h := S.zx.sub
theorem St.hi (S : St Z₀ h₀ L Z m own h) : Kp h₀ h := S.zx.keep
theorem St.Llt (S : St Z₀ h₀ L Z m own h) : L < h.objs.size := S.ns.lt

/-- an owned object turned -/
theorem St.upd (S : St Z₀ h₀ L Z m own h) (u : Rp a P P' own own') (k : Heap.ExtBut a h h') (ho : h'.get? a = some o') (hp : P' o') : St Z₀ h₀ L Z m own' h' := by
  obtain ⟨_, q2, q3, q4⟩ := S.ow _ u.mem
  dsimp only at q2 q3 q4
  have nz : ∀ {H : Heap}, H.get? a = none → ∀ b o, H.get? b = some o → b ≠ a := fun e b o e' hb => by subst hb; rw [e] at e'; cases e'
  refine ⟨⟨fun b o e => k b o (nz q3 b o e) (S.zx.keep b o e), S.zx.le, fun b o e => k b o (nz q2 b o e) (S.zx.sub b o e), S.zx.new⟩, S.ns.extBut k (Ne.symm q4), S.lz, S.lb, fun p hp' => ?_, u.addrs ▸ S.nd⟩
  rcases u.cases S.nd p hp' with rfl | ⟨hm, hne⟩
  · exact ⟨⟨o', ho, hp⟩, q2, q3, q4⟩
  · obtain ⟨⟨x, hx, q⟩, r⟩ := S.ow p hm
    exact ⟨⟨x, k _ x hne hx, q⟩, r⟩

/-- an owned object forgotten -/
theorem St.del (S : St Z₀ h₀ L Z m own h) (u : Dl a P own own') (k : Heap.ExtBut a h h') : St Z₀ h₀ L Z m own' h' := by
  obtain ⟨_, q2, q3, q4⟩ := S.ow _ u.mem
  dsimp only at q2 q3 q4
  have nz : ∀ {H : Heap}, H.get? a = none → ∀ b o, H.get? b = some o → b ≠ a := fun e b o e' hb => by subst hb; rw [e] at e'; cases e'
  obtain ⟨c1, c2⟩ := u.cases S.nd
  refine ⟨⟨fun b o e => k b o (nz q3 b o e) (S.zx.keep b o e), S.zx.le, fun b o e => k b o (nz q2 b o e) (S.zx.sub b o e), S.zx.new⟩, S.ns.extBut k (Ne.symm q4), S.lz, S.lb, fun p hp' => ?_, c2⟩
  obtain ⟨⟨x, hx, q⟩, r⟩ := S.ow p (c1 p hp').1
  exact ⟨⟨x, k _ x (c1 p hp').2 hx, q⟩, r⟩

/-- a new object, owned -/
theorem St.add (S : St Z₀ h₀ L Z m own h) (k : Kp h h') (hn : h.get? a = none) (ho : h'.get? a = some o) (hp : P o) : St Z₀ h₀ L Z m ((a, P) :: own) h' := by
  have S' := S.keep k
  have nz : ∀ {H : Heap}, Kp H h → H.get? a = none := fun {H} kk => by
    cases e : H.get? a with
    | none => rfl
    | some o => rw [kk _ _ e] at hn; cases hn
  refine ⟨S'.zx, S'.ns, S'.lz, S'.lb, fun p hp' => ?_, ?_⟩
  · rcases List.mem_cons.mp hp' with rfl | hp'
    · refine ⟨⟨o, ho, hp⟩, nz S.zi, nz S.hi, fun e => ?_⟩
      obtain ⟨oL, _, _, hL, _⟩ := S.ns
      dsimp only at e
      rw [e, hL] at hn; cases hn
    · exact S'.ow p hp'
  · refine List.nodup_cons.mpr ⟨fun hq => ?_, S.nd⟩
    obtain ⟨p, hp', e⟩ := List.mem_map.mp hq
    obtain ⟨⟨x, hx, _⟩, _⟩ := S.ow p hp'
    rw [e, hn] at hx; cases hx
theorem get?_size (h : Heap) : h.get? h.objs.size = none := by
  cases e : h.get? h.objs.size with
  | none => rfl
  | some o => exact absurd (Heap.lt_size e) (Nat.lt_irrefl _)
theorem St.push (S : St Z₀ h₀ L Z m own h) (hf : o.isFreed = false) (hp : P o) : St Z₀ h₀ L Z m ((h.objs.size, P) :: own) (h.push o) :=
  S.add (fun _ _ e => Heap.get?_push_of_some _ e) (get?_size h) (Heap.get?_push_size _ hf) hp

/-- a heap cut down to a part of it -/
noncomputable def cutTo (h : Heap) (q : Addr → Prop) : Heap := by
  classical
  exact ⟨h.objs.mapIdx fun i o => if q i then o else { o with data := .freed }, h.life⟩
theorem cutTo_get (h : Heap) (q : Addr → Prop) (a : Addr) (o : Obj) : (cutTo h q).get? a = some o ↔ q a ∧ h.get? a = some o := by
  classical
  rw [Heap.get?_some_iff, Heap.get?_some_iff]
  unfold cutTo
  simp only [Array.getElem?_mapIdx]
  cases e : h.objs[a]? with
  | none => simp
  | some x =>
    simp only [Option.map_some, Option.some.injEq]
    by_cases hq : q a
    · simp [hq]
    · simp only [hq, if_false, false_and, iff_false, not_and]
      rintro rfl
      simp [Obj.isFreed]

/-- an owned object frozen -/
theorem St.frz (S : St Z₀ h₀ L Z m own h) (u : Dl a P own own') : ∃ Z' o, Kp Z Z' ∧ Z'.get? a = some o ∧ P o ∧ St Z₀ h₀ L Z' m own' h := by
  obtain ⟨⟨o, ho, hp⟩, q2, q3, q4⟩ := S.ow _ u.mem
  dsimp only at ho hp q2 q3 q4
  obtain ⟨c1, c2⟩ := u.cases S.nd
  have g := cutTo_get h (fun b => b = a ∨ (Z.get? b).isSome)
  refine ⟨cutTo h fun b => b = a ∨ (Z.get? b).isSome, o, fun b x e => (g b x).mpr ⟨.inr (by rw [e]; rfl), S.zi b x e⟩, (g a o).mpr ⟨.inl rfl, ho⟩, hp, ⟨?_, ?_, ?_, ?_⟩, S.ns, ?_, S.lb, fun p hp' => ?_, c2⟩
  · exact S.zx.keep
  · exact fun b x e => (g b x).mpr ⟨.inr (by rw [S.zx.le b x e]; rfl), S.zi b x (S.zx.le b x e)⟩
  · exact fun b x e => ((g b x).mp e).2
  · intro b x e
    obtain ⟨e1, e2⟩ := (g b x).mp e
    rcases e1 with rfl | e1
    · exact .inr q3
    · obtain ⟨y, hy⟩ := Option.isSome_iff_exists.mp e1
      have := S.zi b y hy
      rw [e2] at this
      cases this
      exact S.zx.new b _ hy
  · cases e : (cutTo h fun b => b = a ∨ (Z.get? b).isSome).get? L with
    | none => rfl
    | some x =>
      obtain ⟨e1, _⟩ := (g L x).mp e
      rcases e1 with e1 | e1
      · exact absurd e1.symm q4
      · rw [S.lz] at e1; cases e1
  · obtain ⟨m1, m2⟩ := c1 p hp'
    obtain ⟨r1, r2, r3⟩ := S.ow p m1
    refine ⟨r1, ?_, r3⟩
    cases e : (cutTo h fun b => b = a ∨ (Z.get? b).isSome).get? p.1 with
    | none => rfl
    | some x =>
      obtain ⟨e1, _⟩ := (g p.1 x).mp e
      rcases e1 with e1 | e1
      · exact absurd e1 m2
      · rw [r2] at e1; cases e1

/-- behind a call that keeps all -/
theorem St.ext (S : St Z₀ h₀ L Z m own h) (x : ZX Z h Z' h') : St Z₀ h₀ L Z' m own h' := by
  have S' := S.keep x.keep
  have nz : ∀ b o, h.get? b = some o → Z.get? b = none → Z'.get? b = none := fun b o e hz => by
    cases q : Z'.get? b with
    | none => rfl
    | some y =>
      rcases x.new b y q with r | r
      · rw [hz] at r; cases r
      · rw [e] at r; cases r
  refine ⟨S.zx.trans x, S'.ns, ?_, S.lb, fun p hp => ?_, S.nd⟩
  · obtain ⟨oL, _, _, hL, _⟩ := S.ns
    exact nz L oL hL S.lz
  · obtain ⟨⟨y, hy, _⟩, q2, _⟩ := S.ow p hp
    obtain ⟨r1, _, r3⟩ := S'.ow p hp
    exact ⟨r1, nz _ y hy q2, r3⟩

theorem St.setL (S : St Z₀ h₀ L Z m own h) (k : Heap.SameBut L h h') (n : h'.Ns L m') : St Z₀ h₀ L Z m' own h' where
  zx := ⟨fun b o e => k.extBut b o (fun hb => by subst hb; exact absurd (Heap.lt_size e) (Nat.not_lt.mpr S.lb)) (S.zx.keep b o e), S.zx.le,
    fun b o e => k.extBut b o (fun hb => by subst hb; rw [S.lz] at e; cases e) (S.zx.sub b o e), S.zx.new⟩
  ns := n
  lz := S.lz
  lb := S.lb
  ow := fun p hp => let ⟨⟨o, ho, q⟩, r1, r2, r3⟩ := S.ow p hp; ⟨⟨o, k.extBut _ o r3 ho, q⟩, r1, r2, r3⟩
  nd := S.nd

/-- into a frame within the frame (a comprehension's) and back -/
theorem St.into (S : St Z₀ h₀ L Z m own h) {C : Addr} (k : Kp h h') (hn : h.get? C = none) (hb : h.objs.size ≤ C) (n : h'.Ns C m') : St Z₀ h₀ C Z m' ((L, NsO m) :: own) h' := by
  have S' := S.keep k
  have nz : ∀ {H : Heap}, Kp H h → H.get? C = none := fun {H} kk => by
    cases e : H.get? C with
    | none => rfl
    | some o => rw [kk _ _ e] at hn; cases hn
  have alive : ∀ b o, h.get? b = some o → b ≠ C := fun b o e q => by subst q; rw [hn] at e; cases e
  refine ⟨S'.zx, n, nz S.zi, Nat.le_trans (Nat.le_trans S.lb (Nat.le_of_lt S.Llt)) hb, fun p hp => ?_, ?_⟩
  · rcases List.mem_cons.mp hp with rfl | hp
    · obtain ⟨oL, es, ep, hL, r⟩ := id S.ns
      refine ⟨⟨oL, k _ _ hL, es, ep, r⟩, S.lz, ?_, alive _ _ hL⟩
      cases e : h₀.get? L with
      | none => rfl
      | some o => exact absurd (Heap.lt_size e) (Nat.not_lt.mpr S.lb)
    · obtain ⟨r1, r2, r3, _⟩ := S'.ow p hp
      obtain ⟨⟨y, hy, _⟩, _⟩ := S.ow p hp
      exact ⟨r1, r2, r3, alive _ _ hy⟩
  · refine List.nodup_cons.mpr ⟨fun hq => ?_, S.nd⟩
    obtain ⟨p, hp, e⟩ := List.mem_map.mp hq
    exact (S.ow p hp).2.2.2 e
theorem St.back (S : St Z₀ h₀ L Z m own h) {L₁ : Addr} {m₁ : Str → Option Value} (u : Dl L₁ (NsO m₁) own own') (k : Kp h h' ∨ Heap.SameBut L h h') (hb : h₀.objs.size ≤ L₁) : St Z₀ h₀ L₁ Z m₁ own' h' := by
  obtain ⟨c1, c2⟩ := u.cases S.nd
  obtain ⟨⟨o, ho, es, ep, hr⟩, q2, q3, q4⟩ := S.ow _ u.mem
  dsimp only at ho q2 q3 q4
  have kk : ∀ b o, b ≠ L → h.get? b = some o → h'.get? b = some o := fun b o hb e => k.elim (fun k => k b o e) fun k => k.extBut b o hb e
  have hL : ∀ {H : Heap}, H.get? L = none → ∀ b o, H.get? b = some o → b ≠ L := fun e b o e' q => by subst q; rw [e] at e'; cases e'
  have hL0 : h₀.get? L = none := by
    cases e : h₀.get? L with
    | none => rfl
    | some o => exact absurd (Heap.lt_size e) (Nat.not_lt.mpr S.lb)
  refine ⟨⟨fun b o e => kk b o (hL hL0 b o e) (S.zx.keep b o e), S.zx.le, fun b o e => kk b o (hL S.lz b o e) (S.zx.sub b o e), S.zx.new⟩, ⟨o, es, ep, kk _ _ q4 ho, hr⟩, q2, hb, fun p hp => ?_, c2⟩
  obtain ⟨m1, m2⟩ := c1 p hp
  obtain ⟨⟨y, hy, r1⟩, r2, r3, r4⟩ := S.ow p m1
  exact ⟨⟨y, kk _ _ r4 hy, r1⟩, r2, r3, m2⟩
end

theorem LstO.at {h : Heap} {a : Addr} {vs : List Value} {o : Obj} (e : h.get? a = some o) (p : LstO vs o) : h.IsList a vs.toArray := let ⟨n, q⟩ := p; ⟨o, e, q ▸ rfl, n, q ▸ rfl⟩
theorem TupO.at {h : Heap} {a : Addr} {vs : List Value} {o : Obj} (e : h.get? a = some o) (p : TupO vs o) : IsTup h a vs.toArray := let ⟨n, q⟩ := p; ⟨o, e, q ▸ rfl, n, q ▸ rfl⟩

/-- the ground: the top's own objects, written out; the globals' and the builtins' names -/
structure Gnd (w : World) (Z : Heap) : Prop where
  X : (heapK w.params).In Z
  T : ∃ p loose mg mb, TopRead p loose mg mb Z
theorem Gnd.keeps {w : World} {Z Z' : Heap} (G : Gnd w Z) (k : Kp Z Z') : Gnd w Z' := ⟨G.X.keeps k, let ⟨p, l, mg, mb, T⟩ := G.T; ⟨p, l, mg, mb, T.keeps k⟩⟩

structure Rm (A : Around) (d u : Nat) : Prop where
  hd : A.handled = none
  dp : A.depth + d < 1000
  un : A.units + u < 9900
  gd : A.guards = some []
  fr : ∃ l, A.frames = some l
section
variable {prog : Program} {w : World} {A : Around} {Q : Value → Shared → Prop} {E : Value → Shared → Prop} {s₀ : Shared} {h : Heap} {t : Nat} {Z : Heap}


noncomputable def mOf (l : List (Str × Value)) (x : Str) : Option Value := l.lookup x
noncomputable def upd (m : Str → Option Value) (x : Str) (v : Value) (y : Str) : Option Value := if y = x then some v else m y
theorem upd_s {m : Str → Option Value} {x : Str} {v : Value} : upd m x v x = some v := if_pos rfl
theorem upd_n {m : Str → Option Value} {x y : Str} {v : Value} {r : Option Value} (hn : (y == x) = false) (h : m y = r) : upd m x v y = r := by unfold upd; rw [if_neg (by intro e; rw [e, beq_self_eq_true] at hn; cases hn)]; exact h
theorem mOf_s {l : List (Str × Value)} {x : Str} {v : Value} : mOf ((x, v) :: l) x = some v := by unfold mOf; rw [List.lookup_cons, beq_self_eq_true]
theorem mOf_n {l : List (Str × Value)} {x y : Str} {v : Value} {r : Option Value} (hn : (y == x) = false) (h : mOf l y = r) : mOf ((x, v) :: l) y = r := by unfold mOf at h ⊢; rw [List.lookup_cons, hn]; exact h
/-- a plain def of the top is entered -/
theorem enterP {name qual : Str} {params : Arguments} {body : List Stmt} {scope : Scope} {dV kV doc pm cdv ct oc : Value} {an od : Option Addr} {osl : Array (Option Value)} {f : Addr} {pos : List Value} {kw : List (Str × Value)} {binds bl : List (Str × Value)}
    (G : Gnd w Z) (hz : Kp Z h) (ho : (heapK w.params).lookup f = some ⟨oc, od, .func (fnOf name qual params body scope dV kV doc pm an cdv ct), osl⟩) (hcd : codeIn (heapK w.params) cdv qual = true) (hroom : A.depth < recursionLimit)
    (hbind : BindsTo (sh s₀ h t) (fnOf name qual params body scope dV kV doc pm an cdv ct) ⟨pos, kw⟩ binds) (hbl : binds.reverse = bl) (hloc : ∀ y ∈ binds, scope.names.lookup y.1 = some .local)
    (hbody : ∀ E' h' t', St Z h h.objs.size Z (mOf bl) [] h' →
      wpAny (model prog w) (A.deeper (envX qual scope h.objs.size f cdv [])) (execs body (envX qual scope h.objs.size f cdv [])) (fun fl s' => Q (match fl with | .ret v => v | _ => .none) s') E' (sh s₀ h' t'))
    (hcell : ∀ x ∈ scope.names, x.2 ≠ .cell) (hco : scope.isCoroutine = false := by rfl) (hgen : scope.isGenerator = false := by rfl) (hk : scope.kind = .function := by rfl) :
    wpAny (model prog w) A (call (.ref f) pos kw) Q E (sh s₀ h t) := by
  subst hbl
  have X : (heapK w.params).In h := G.X.keeps hz
  obtain ⟨p, l, mg, mb, T⟩ := G.T
  refine wpAny_call (codeAny_call_def (fd := fnOf name qual params body scope dV kV doc pm an cdv ct) (body := body) (binds := binds) hroom (X _ _ ho) rfl (T.nolimit.keeps hz) (codeRec_of X hcd) rfl hbind hcell hloc (fun h₁ hns hk₁ => ?_) hco hgen hk)
  refine hbody _ h₁ _ ⟨⟨hk₁, fun _ _ e => e, fun b o e => hk₁ b o (hz b o e), fun _ _ e => .inl e⟩, hns, ?_, Nat.le_refl _, fun _ hp => (nomatch hp), List.nodup_nil⟩
  cases e : Z.get? h.objs.size with
  | none => rfl
  | some o => exact absurd (Heap.lt_size (hz _ _ e)) (Nat.lt_irrefl _)
end

section
variable {prog : Program} {w : World} {A : Around} {Q : Value → Shared → Prop} {E : Value → Shared → Prop} {s₀ : Shared} {h : Heap} {t : Nat} {Z Z₀ h₀ : Heap} {L a : Addr} {m : Str → Option Value} {own : Own} {cn : Str} {cs : Scope} {ccd : Value} {cl : List (Str × Addr)} {env : Env}

theorem nmL {x : Str} {pos : Pos} {v : Value} (S : St Z₀ h₀ L Z m own h) (hv : m x = some v) (q : Q v (sh s₀ h t)) (hL : env.locals = L := by rfl)
    (hk : env.scope.kind = .function := by rfl) (hx : env.kindOf x = some .local := by kernel_rfl!) (hd : (x == ("__debug__" : Str)) = false := by kernel_rfl!) :
    wpAny (model prog w) A (eval (.Name x pos) env) Q E (sh s₀ h t) := by subst hL; exact wpAny_Name (wpAny_loadName_local hk hx S.ns hv q) hd
theorem ldL {x : Str} {v : Value} (S : St Z₀ h₀ L Z m own h) (hv : m x = some v) (q : Q v (sh s₀ h t)) (hL : env.locals = L := by rfl)
    (hk : env.scope.kind = .function := by rfl) (hx : env.kindOf x = some .local := by kernel_rfl!) :
    wpAny (model prog w) A (loadName env x) Q E (sh s₀ h t) := by subst hL; exact wpAny_loadName_local hk hx S.ns hv q
theorem nmC {x : Str} {pos : Pos} {v : Value} {c : Addr} (S : St Z₀ h₀ L Z m own h) (hm : (c, CellO (some v)) ∈ own) (q : Q v (sh s₀ h t)) (hc : env.cells.lookup x = some c := by rfl)
    (hk : env.scope.kind = .function := by rfl) (hx : env.kindOf x = some .cell := by kernel_rfl!) (hd : (x == ("__debug__" : Str)) = false := by kernel_rfl!) :
    wpAny (model prog w) A (eval (.Name x pos) env) Q E (sh s₀ h t) := by
  obtain ⟨o, ho, hp⟩ := S.mem hm
  exact wpAny_Name (wpAny_loadName_cell hk hx hc ⟨o, ho, hp⟩ q) hd
theorem nmF {x : Str} {pos : Pos} {v : Value} {c : Addr} (S : St Z₀ h₀ L Z m own h) (hm : (c, CellO (some v)) ∈ own) (q : Q v (sh s₀ h t)) (hc : env.cells.lookup x = some c := by rfl)
    (hk : env.scope.kind = .function := by rfl) (hx : env.kindOf x = some .free := by kernel_rfl!) (hd : (x == ("__debug__" : Str)) = false := by kernel_rfl!) (hn : (x == ("__classdict__" : Str)) = false := by kernel_rfl!) :
    wpAny (model prog w) A (eval (.Name x pos) env) Q E (sh s₀ h t) := by
  obtain ⟨o, ho, hp⟩ := S.mem hm
  exact wpAny_Name (wpAny_loadName_free hk hx hc ⟨o, ho, hp⟩ q hn) hd
theorem St.z0 (S : St Z₀ h₀ L Z m own h) : Kp Z₀ h := fun b o e => S.zi b o (S.zx.le b o e)
theorem gX (G : Gnd w Z₀) (S : St Z₀ h₀ L Z m own h) : (heapK w.params).In h := G.X.keeps S.z0
theorem nmG {x : Str} {pos : Pos} {v : Value} (G : Gnd w Z₀) (S : St Z₀ h₀ L Z m own h) (e : nsIn (heapK w.params) mainGlobals x = some (some v)) (q : Q v (sh s₀ h t))
    (hg : env.globals = mainGlobals := by rfl) (hk : env.scope.kind = .function := by rfl) (hx : env.kindOf x = some .globalImplicit := by kernel_rfl!) (hd : (x == ("__debug__" : Str)) = false := by kernel_rfl!) :
    wpAny (model prog w) A (eval (.Name x pos) env) Q E (sh s₀ h t) := by
  obtain ⟨p, l, mg, mb, T⟩ := (G.keeps S.z0).T
  exact Name_function_global hk hx (loadGlobal_global (env := env) (hg ▸ T.g) (mg_of (gX G S) T.g e) q) hd
theorem nmB {x : Str} {pos : Pos} {v : Value} (G : Gnd w Z₀) (S : St Z₀ h₀ L Z m own h) (e : nsIn (heapK w.params) mainGlobals x = some none) (hv : bootBuiltins x = some v) (hn : x ≠ "__name__") (q : Q v (sh s₀ h t))
    (hg : env.globals = mainGlobals := by rfl) (hb : env.builtins = builtinsNs := by rfl) (hk : env.scope.kind = .function := by rfl) (hx : env.kindOf x = some .globalImplicit := by kernel_rfl!) (hd : (x == ("__debug__" : Str)) = false := by kernel_rfl!) :
    wpAny (model prog w) A (eval (.Name x pos) env) Q E (sh s₀ h t) := by
  obtain ⟨p, l, mg, mb, T⟩ := (G.keeps S.z0).T
  exact Name_function_global hk hx (loadGlobal_builtin (env := env) (hg ▸ T.g) (mg_none_of (gX G S) T.g e) (hb ▸ T.b) ((T.builtins x hn).trans hv) q) hd

theorem stL {x : Str} {v : Value} {Q : Unit → Shared → Prop} (S : St Z₀ h₀ L Z m own h) (q : ∀ h' t', St Z₀ h₀ L Z (upd m x v) own h' → Q () (sh s₀ h' t')) (hL : env.locals = L := by rfl)
    (hk : env.scope.kind = .function := by rfl) (hx : env.kindOf x = some .local := by kernel_rfl!) : wpAny (model prog w) A (storeName env x v) Q E (sh s₀ h t) := by
  subst hL
  exact wpAny_storeName_local hx S.ns (fun h' hn hs => q h' _ (S.setL hs hn)) (by rw [hk]; rfl)
theorem stC {x : Str} {v : Value} {v₀ : Option Value} {c : Addr} {own' : Own} {Q : Unit → Shared → Prop} (S : St Z₀ h₀ L Z m own h) (u : Rp c (CellO v₀) (CellO (some v)) own own') (q : ∀ h' t', St Z₀ h₀ L Z m own' h' → Q () (sh s₀ h' t'))
    (hc : env.cells.lookup x = some c := by rfl) (hk : env.scope.kind = .function := by rfl) (hx : env.kindOf x = some .cell := by kernel_rfl!) : wpAny (model prog w) A (storeName env x v) Q E (sh s₀ h t) := by
  obtain ⟨o, ho, hp⟩ := S.mem u.mem
  refine wpAny_storeName_cell hk hx hc ⟨o, ho, hp⟩ fun h' hv hs => ?_
  obtain ⟨o', ho', hd'⟩ := hv
  exact q h' _ (S.upd u hs.extBut ho' hd')

theorem cInt {i : Int} {k : Nat} {pos : Pos} (q : ∀ tk t', Q (.int i tk) (sh s₀ h t')) : wpAny (model prog w) A (eval (.Constant (.int i) k pos) env) Q E (sh s₀ h t) := wpAny_Constant_int (q _ _)
theorem cStr {x : Str} {k : Nat} {pos : Pos} (q : ∀ tk t', Q (.str x tk) (sh s₀ h t')) : wpAny (model prog w) A (eval (.Constant (.str x) k pos) env) Q E (sh s₀ h t) := wpAny_Constant_str (q _ _)
theorem cNone {k : Nat} {pos : Pos} (q : Q .none (sh s₀ h t)) : wpAny (model prog w) A (eval (.Constant .none k pos) env) Q E (sh s₀ h t) := wpAny_Constant_none q
theorem cBool {b : Bool} {k : Nat} {pos : Pos} (q : Q (.bool b) (sh s₀ h t)) : wpAny (model prog w) A (eval (.Constant (.bool b) k pos) env) Q E (sh s₀ h t) := wpAny_Constant_bool q

theorem nTup {vs : List Value} (S : St Z₀ h₀ L Z m own h) (q : ∀ x h', St Z₀ h₀ L Z m ((x, TupO vs) :: own) h' → Q (.ref x) (sh s₀ h' t)) (hsz : vs.length ≤ sizeLine := by exact Nat.le_of_ble_eq_true rfl) : wpAny (model prog w) A (newTuple vs) Q E (sh s₀ h t) :=
  wpAny_newObj_type (q _ _ (S.push rfl ⟨0, rfl⟩)) (by show vs.toArray.size ≤ sizeLine; rw [List.size_toArray]; exact hsz)
theorem nLst {vs : List Value} (S : St Z₀ h₀ L Z m own h) (q : ∀ x h', St Z₀ h₀ L Z m ((x, LstO vs) :: own) h' → Q (.ref x) (sh s₀ h' t)) (hsz : vs.length ≤ sizeLine := by exact Nat.le_of_ble_eq_true rfl) : wpAny (model prog w) A (newList vs) Q E (sh s₀ h t) :=
  wpAny_newObj_type (q _ _ (S.push rfl ⟨0, rfl⟩)) (by show vs.toArray.size ≤ sizeLine; rw [List.size_toArray]; exact hsz)
/-- a tuple of frozen things is frozen at once -/
theorem nTupZ {vs : List Value} (S : St Z₀ h₀ L Z m own h) (q : ∀ x h' Z', Kp Z Z' → IsTup Z' x vs.toArray → St Z₀ h₀ L Z' m own h' → Q (.ref x) (sh s₀ h' t)) (hsz : vs.length ≤ sizeLine := by exact Nat.le_of_ble_eq_true rfl) : wpAny (model prog w) A (newTuple vs) Q E (sh s₀ h t) :=
  nTup S (fun x h' S' => by
    obtain ⟨Z', o, k, e, p, S''⟩ := S'.frz .head
    exact q x h' Z' k (p.at e) S'') hsz
theorem nLstZ {vs : List Value} (S : St Z₀ h₀ L Z m own h) (q : ∀ x h' Z', Kp Z Z' → Z'.IsList x vs.toArray → St Z₀ h₀ L Z' m own h' → Q (.ref x) (sh s₀ h' t)) (hsz : vs.length ≤ sizeLine := by exact Nat.le_of_ble_eq_true rfl) : wpAny (model prog w) A (newList vs) Q E (sh s₀ h t) :=
  nLst S (fun x h' S' => by
    obtain ⟨Z', o, k, e, p, S''⟩ := S'.frz .head
    exact q x h' Z' k (p.at e) S'') hsz

/-- the plain operations, their states said as sh -/
theorem oFdiv {a b : Int} {u v : Tok} (hb : b ≠ 0) (hp : Builtin.divisionGoesByPylong a b = false) (q : ∀ tk t', Q (.int (Int.fdiv a b) tk) (sh s₀ h t')) : wpAny (model prog w) A (binaryOp .FloorDiv (.int a u) (.int b v)) Q E (sh s₀ h t) := floordiv_int hb (q _ _) (.inl hp)
theorem oMod {a b : Int} {u v : Tok} (hb : b ≠ 0) (q : ∀ tk t', Q (.int (Int.fmod a b) tk) (sh s₀ h t')) : wpAny (model prog w) A (binaryOp .Mod (.int a u) (.int b v)) Q E (sh s₀ h t) := mod_int' hb (q _ _)
theorem oSub {a b : Int} {u v : Tok} (q : ∀ tk t', Q (.int (a - b) tk) (sh s₀ h t')) : wpAny (model prog w) A (binaryOp .Sub (.int a u) (.int b v)) Q E (sh s₀ h t) := sub_int (q _ _)
theorem oAdd {a b : Int} {u v : Tok} (q : ∀ tk t', Q (.int (a + b) tk) (sh s₀ h t')) : wpAny (model prog w) A (binaryOp .Add (.int a u) (.int b v)) Q E (sh s₀ h t) := add_int (q _ _)
theorem oEqI {a b : Int} {u v : Tok} (q : Q (.bool (a == b)) (sh s₀ h t)) : wpAny (model prog w) A (compareOp .Eq (.int a u) (.int b v)) Q E (sh s₀ h t) := eq_int q
theorem oCat {x y : Str} {u v : Tok} (hz : x.length + y.length ≤ sizeLine) (q : ∀ tk t', Q (.str (x ++ y) tk) (sh s₀ h t')) : wpAny (model prog w) A (binaryOp .Add (.str x u) (.str y v)) Q E (sh s₀ h t) := add_str (fun _ _ => q _ _) hz
theorem oRep {x : Str} {n : Int} {u v : Tok} (hok : MulOk x n) (q : ∀ tk t', Q (.str (Txt.mul x n) tk) (sh s₀ h t')) : wpAny (model prog w) A (binaryOp .Mult (.str x u) (.int n v)) Q E (sh s₀ h t) := SB.mul hok fun _ _ => q _ _
end
theorem Rm.sub {A : Around} {d u d' u' : Nat} {env : Env} (R : Rm A d u) (hd : d' + 1 ≤ d) (hu : u' + 3 ≤ u) : Rm (A.deeper env) d' u' :=
  ⟨R.hd, by have := R.dp; show A.depth + 1 + d' < 1000; omega, by have := R.un; show A.units + 3 + u' < 9900; omega, R.gd, let ⟨_, e⟩ := R.fr; ⟨_, Around.frames_deeper e⟩⟩
theorem Rm.le {A : Around} {d u d' u' : Nat} (R : Rm A d u) (hd : d' ≤ d) (hu : u' ≤ u) : Rm A d' u' := ⟨R.hd, by have := R.dp; omega, by have := R.un; omega, R.gd, R.fr⟩
theorem Rm.in1 {A : Around} {d u u' : Nat} (R : Rm A d u) (hu : u' + 1 ≤ u) : Rm A.in1 d u' := ⟨R.hd, R.dp, by have := R.un; show A.units + 1 + u' < 9900; omega, R.gd, R.fr⟩
set_option hygiene false in
local macro_rules | `(tactic| ktr_member) => `(tactic| first
  | ((with_reducible show wpAny _ _ (eval _ _) _ _ _); first
    | ((with_reducible show wpAny _ _ (eval (Expr.BinOp _ _ _ _) _) _ _ _); refine wpAny_BinOp ?_)
    | ((with_reducible show wpAny _ _ (eval (Expr.Tuple _ _ _) _) _ _ _); refine Tuple_ ?_)
    | ((with_reducible show wpAny _ _ (eval (Expr.List _ _) _) _ _ _); refine List_ ?_)
    | ((with_reducible show wpAny _ _ (eval (Expr.Constant (Const.int _) _ _) _) _ _ _); refine cInt ?_; intro tk t)
    | ((with_reducible show wpAny _ _ (eval (Expr.Constant (Const.str _) _ _) _) _ _ _); refine cStr ?_; intro tk t)
    | ((with_reducible show wpAny _ _ (eval (Expr.Constant Const.none _ _) _) _ _ _); refine cNone ?_)
    | ((with_reducible show wpAny _ _ (eval (Expr.Constant (Const.bool _) _ _) _) _ _ _); refine cBool ?_)
    | ((with_reducible show wpAny _ _ (eval (Expr.Name _ _) _) _ _ _); refine' nmL S ?hv ?_; (case hv => (repeat (first | with_reducible exact upd_s | with_reducible exact mOf_s | with_reducible assumption | with_reducible refine upd_n (by kernel_rfl!) ?_ | with_reducible refine mOf_n (by kernel_rfl!) ?_))))
    | ((with_reducible show wpAny _ _ (eval (Expr.Name _ _) _) _ _ _); refine' nmG G S ?hv ?_; (case hv => k_is))
    | ((with_reducible show wpAny _ _ (eval (Expr.Name _ _) _) _ _ _); refine' nmB G S ?hv ?hb (by decide) ?_; (case hv => k_is); (case hb => boot_by_name))
    | ((with_reducible show wpAny _ _ (eval (Expr.Subscript _ (Expr.Slice none (some _) none _) _) _) _ _ _); refine slcTo ?_)
    | ((with_reducible show wpAny _ _ (eval (Expr.Subscript _ _ _) _) _ _ _); refine Subscript_ ?_)
    | ((with_reducible show wpAny _ _ (eval (Expr.IfExp _ _ _ _) _) _ _ _); refine xIfE ?_)
    | ((with_reducible show wpAny _ _ (eval (Expr.Attribute (Expr.Name _ _) _ _) _) _ _ _); refine' Attribute_any_ ?_ ?w1; (case w1 => exact rfl))
    | ((with_reducible show wpAny _ _ (eval (Expr.Call (Expr.Name _ _) _ [] _) _) _ _ _); refine evCall ?_)
    | ((with_reducible show wpAny _ _ (eval (Expr.Call (Expr.Attribute _ _ _) _ [] _) _) _ _ _); refine evMeth ?_)
    | ((with_reducible show wpAny _ _ (eval (Expr.Name _ _) _) _ _ _); refine' nmC S ?hm ?_; (case hm => (repeat (first | exact List.Mem.head _ | apply List.Mem.tail))))
    | ((with_reducible show wpAny _ _ (eval (Expr.Name _ _) _) _ _ _); refine' nmF S ?hm ?_; (case hm => (repeat (first | exact List.Mem.head _ | apply List.Mem.tail))))
    | ((with_reducible show wpAny _ _ (eval (Expr.ListComp _ _ _ _) _) _ _ _); refine' compN ?_ ?c1 ?c2 ?c3; (case c1 => exact rfl); (case c2 => exact rfl); (case c3 => decide)))
  | ((with_reducible show wpAny _ _ (spliced (backTo _ (starEach [] _))) _ _ _); refine spN ?_)
  | ((with_reducible show wpAny _ _ (spliced (backTo _ (starEach (_ :: _) _))) _ _ _); refine spC ?_)
  | ((with_reducible show Aft _ _ _ _ _ _ Flow.next _); refine aft_next ?_)
  | ((with_reducible show Aft _ _ _ _ _ _ (Flow.ret _) _); refine aft_ret ?_)
  | ((with_reducible show Aft _ _ _ _ _ _ Flow.cont _); refine aft_cont ?_)
  | ((with_reducible show Lv _ (Flow.ret _) _); refine lv_ret ?_)
  | ((with_reducible show Frag.In _ _ ∧ _); refine ⟨gX G S, ?_⟩)
  | ((with_reducible show wpAny _ _ (storeName _ _ _) _ _ _); refine stL S ?_; clear S; intro h t S)
  | ((with_reducible show wpAny _ _ (storeName _ _ _) _ _ _); refine' stC S ?hu ?_; (case hu => (repeat (first | exact Rp.head | apply Rp.tail))); clear S; intro h t S)
  | ((with_reducible show wpAny _ _ (execs (_ :: _) _) _ _ _); refine xsC ?_)
  | ((with_reducible show wpAny _ _ (execs [] _) _ _ _); refine xsN ?_)
  | ((with_reducible show wpAny _ _ (exec _ _) _ _ _); first
    | ((with_reducible show wpAny _ _ (exec (Stmt.Return (some _) _) _) _ _ _); refine wpAny_Return_some ?_)
    | ((with_reducible show wpAny _ _ (exec (Stmt.Assign [Expr.Name _ _] _ _) _) _ _ _); refine wpAny_Assign_Name ?_)
    | ((with_reducible show wpAny _ _ (exec (Stmt.If _ _ _ _) _) _ _ _); refine xIf ?_)
    | ((with_reducible show wpAny _ _ (exec (Stmt.Expr _ _) _) _ _ _); refine wpAny_Expr_any ?_)
    | ((with_reducible show wpAny _ _ (exec (Stmt.For _ _ _ [] _) _) _ _ _); refine xFor ?_)
    | ((with_reducible show wpAny _ _ (exec (Stmt.AugAssign (Expr.Name _ _) _ _ _) _) _ _ _); refine xAug ?_)
    | ((with_reducible show wpAny _ _ (exec (Stmt.Assign [Expr.Subscript _ _ _] _ _) _) _ _ _); refine' wpAny_Assign_Subscript ?_ ?ws; (case ws => exact rfl))
    | ((with_reducible show wpAny _ _ (exec (Stmt.Assign [Expr.Name _ _, Expr.Name _ _] _ _) _) _ _ _); refine' wpAny_Assign_two ?_ ?w1 ?w2; (case w1 => exact rfl); (case w2 => exact rfl))
    | ((with_reducible show wpAny _ _ (exec (Stmt.Continue _) _) _ _ _); refine wpAny_Continue ?_)
    | ((with_reducible show wpAny _ _ (exec (Stmt.Assign [Expr.Name _ _] (Expr.ListComp _ _ _ _) _) _) _ _ _); refine' compU ?_ ?c0 ?c1 ?c2 ?c3; (case c0 => exact rfl); (case c1 => exact rfl); (case c2 => exact rfl); (case c3 => decide)))
  | ((with_reducible show wpAny _ _ (callWith _ _ _ _ _) _ _ _); first
    | ((with_reducible show wpAny _ _ (callWith _ (Value.ref _) _ _ []) _ _ _); refine' cwK ?hk ?_; (case hk => k_is))
    | ((with_reducible show wpAny _ _ (callWith _ (Value.builtin _) _ _ []) _ _ _); refine cwB ?_)
    | ((with_reducible show wpAny _ _ (callWith _ (Value.type _) _ _ []) _ _ _); refine cwT ?_))
  | ((with_reducible show wpAny _ _ (binaryOp _ _ _) _ _ _); first
    | ((with_reducible show wpAny _ _ (binaryOp Operator.Mod (Value.int _ _) (Value.int _ _)) _ _ _); refine oMod (by decide) ?_; intro tk t)
    | ((with_reducible show wpAny _ _ (binaryOp Operator.FloorDiv (Value.int _ _) (Value.int _ _)) _ _ _); refine oFdiv (by decide) (PyProof.noPylong_small (by decide)) ?_; intro tk t)
    | ((with_reducible show wpAny _ _ (binaryOp Operator.Sub (Value.int _ _) (Value.int _ _)) _ _ _); refine oSub ?_; intro tk t)
    | ((with_reducible show wpAny _ _ (binaryOp Operator.Add (Value.int _ _) (Value.int _ _)) _ _ _); refine oAdd ?_; intro tk t))
  | ((with_reducible show wpAny _ _ (compareOp CmpOp.Eq (Value.int _ _) (Value.int _ _)) _ _ _); refine oEqI ?_)
  | ((with_reducible show wpAny _ _ (truthy (Value.bool _)) _ _ _); refine trB ?_)
  | ((with_reducible show wpAny _ _ (PySem.isTrue (Expr.Compare _ [_] [_] _) _ _) _ _ _); refine wpAny_isTrue_Compare1 ?_)
  | ((with_reducible show wpAny _ _ (getMethod (Value.ref _) (Str.ofString "append") _) _ _ _); refine' gmAp S ?hm ?_; (case hm => (repeat (first | exact List.Mem.head _ | apply List.Mem.tail))))
  | ((with_reducible show wpAny _ _ (assign (Expr.Name _ _) _ _) _ _ _); refine asN ?_)
  | ((with_reducible show wpAny _ _ (loadName _ _) _ _ _); refine' ldL S ?hv ?_; (case hv => (repeat (first | with_reducible exact upd_s | with_reducible exact mOf_s | with_reducible assumption | with_reducible refine upd_n (by kernel_rfl!) ?_ | with_reducible refine mOf_n (by kernel_rfl!) ?_))))
  | ((with_reducible show wpAny _ _ (inplaceOp Operator.Add (Value.int _ _) (Value.int _ _)) _ _ _); refine iAdd ?_; intro tk t)
  | ((with_reducible show wpAny _ _ (letOwnedTupleGo (Expr.Name _ _) _ _) _ _ _); refine lgN ?_)
  | ((with_reducible show wpAny _ _ (letOwnedTupleGo (Expr.Tuple _ _ _) (Value.ref _) (Value.ref _)) _ _ _); refine' lgL S ?hm ?_; (case hm => (repeat (first | exact List.Mem.head _ | apply List.Mem.tail))))
  | ((with_reducible show wpAny _ _ (forIn [] true _) _ _ _); refine ct0 ?_)
  | ((with_reducible show wpAny _ _ (forIn [_] true _) _ _ _); refine ct1 ?_)
  | ((with_reducible show wpAny _ _ (assignInOrder _ _) _ _ _); first
    | ((show wpAny _ _ (assignInOrder [] []) _ _ _); refine aoN ?_)
    | ((show wpAny _ _ (assignInOrder (_ :: _) (_ :: _)) _ _ _); refine aoC ?_; show wpAny _ _ (assign _ _ _) _ _ _))
  | ((with_reducible show wpAny _ _ (getMethod (Value.ref _) (Str.ofString "count") _) _ _ _); refine' gmCount S ?hm ?_; (case hm => assumption))
  | ((with_reducible show wpAny _ _ (compareOp CmpOp.NotEq (Value.int _ _) (Value.int _ _)) _ _ _); refine oNeI ?_)
  | ((with_reducible show wpAny _ _ (PySem.isTrue (Expr.BoolOp _ _ _) _ _) _ _ _); refine xBool ?_)
  | ((with_reducible show wpAny _ _ (PySem.isTrue (Expr.UnaryOp UnaryOp.Not _ _) _ _) _ _ _); refine wpAny_isTrue_Not ?_)
  | ((with_reducible show wpAny _ _ (PySem.isTrue (Expr.Name _ _) _ _) _ _ _); refine' wpAny_isTrue_value ?_ ?w1; (case w1 => exact rfl))
  | ((with_reducible show wpAny _ _ (PySem.isTrue (Expr.Call _ _ _ _) _ _) _ _ _); refine' wpAny_isTrue_value ?_ ?w1; (case w1 => exact rfl))
  | ((with_reducible show wpAny _ _ (allTrue BoolOp.And [] _) _ _ _); refine andN ?_)
  | ((with_reducible show wpAny _ _ (allTrue BoolOp.And (_ :: _) _) _ _ _); refine andC ?_)
  | ((with_reducible show wpAny _ _ (allTrue BoolOp.Or [] _) _ _ _); refine orN ?_)
  | ((with_reducible show wpAny _ _ (allTrue BoolOp.Or (_ :: _) _) _ _ _); refine orC ?_)
  | ((with_reducible show ((!true) = true → _) ∧ ((!true) = false → _)); refine ⟨fun e => (nomatch e), fun _ => ?_⟩)
  | ((with_reducible show ((!false) = true → _) ∧ ((!false) = false → _)); refine ⟨fun _ => ?_, fun e => (nomatch e)⟩)
  | ((with_reducible show (true = true → _) ∧ (true = false → _)); refine ⟨fun _ => ?_, fun e => (nomatch e)⟩)
  | ((with_reducible show (false = true → _) ∧ (false = false → _)); refine ⟨fun e => (nomatch e), fun _ => ?_⟩))
section
variable {prog : Program} {w : World} {A : Around} {E : Value → Shared → Prop} {s : Shared} {env : Env}
noncomputable def Aft (M : Model) (A : Around) (rest : List Stmt) (env : Env) (Q : Flow → Shared → Prop) (E : Value → Shared → Prop) (f : Flow) (s : Shared) : Prop := match f with
  | .next => wpAny M A (execs rest env) Q E s
  | f => Q f s
noncomputable def Lv (Q : Value → Shared → Prop) (f : Flow) (s : Shared) : Prop := Q (match f with | .ret v => v | _ => .none) s
theorem lv_ret {Q : Value → Shared → Prop} {v : Value} (q : Q v s) : Lv Q (.ret v) s := q
theorem lv_next {Q : Value → Shared → Prop} (q : Q .none s) : Lv Q .next s := q
theorem aft_next {M : Model} {rest : List Stmt} {Q : Flow → Shared → Prop} (h : wpAny M A (execs rest env) Q E s) : Aft M A rest env Q E .next s := h
theorem aft_ret {M : Model} {rest : List Stmt} {Q : Flow → Shared → Prop} {v : Value} (h : Q (.ret v) s) : Aft M A rest env Q E (.ret v) s := h
theorem aft_cont {M : Model} {rest : List Stmt} {Q : Flow → Shared → Prop} (h : Q .cont s) : Aft M A rest env Q E .cont s := h
theorem xsC {M : Model} {st : Stmt} {rest : List Stmt} {Q : Flow → Shared → Prop} (h : wpAny M A (exec st env) (Aft M A rest env Q E) E s) : wpAny M A (execs (st :: rest) env) Q E s := wpAny_execs_cons h
theorem xsN {M : Model} {Q : Flow → Shared → Prop} (h : Q .next s) : wpAny M A (execs [] env) Q E s := wpAny_execs_nil h
theorem xIf {M : Model} {test : Expr} {body orelse : List Stmt} {pos : Pos} {Q : Flow → Shared → Prop} (h : wpAny M A (PySem.isTrue test env (eval test env)) (fun b s₂ => (b = true → wpAny M A (execs body env) Q E s₂) ∧ (b = false → wpAny M A (execs orelse env) Q E s₂)) E s) :
    wpAny M A (exec (.If test body orelse pos) env) Q E s := wpAny_If (wpAny_mono h (fun b s₂ q => by cases b <;> simp_all) fun _ _ x => x)
theorem xIfE {M : Model} {test body orelse : Expr} {pos : Pos} {Q : Value → Shared → Prop} (h : wpAny M A (PySem.isTrue test env (eval test env)) (fun b s₂ => (b = true → wpAny M A (eval body env) Q E s₂) ∧ (b = false → wpAny M A (eval orelse env) Q E s₂)) E s) :
    wpAny M A (eval (.IfExp test body orelse pos) env) Q E s := wpAny_IfExp (wpAny_mono h (fun b s₂ q => by cases b <;> simp_all) fun _ _ x => x)
theorem trB {M : Model} {b : Bool} {Q : Bool → Shared → Prop} (h : Q b s) : wpAny M A (truthy (.bool b)) Q E s := wpAny_truthy_bool h

/-- calls -/
theorem evA {f : Value} {args : List (Bool × Sem Value)} {Q : Args → Shared → Prop} (hp : args.any (·.1) = false) (h : wpAny (model prog w) A (spliced args) (fun vs s₁ => Q ⟨vs, []⟩ s₁) E s) : wpAny (model prog w) A (evalArgs f true args []) Q E s := by
  cases args with
  | nil =>
    unfold evalArgs
    show wpAny (model prog w) A (spliced [] >>= _) Q E s
    refine wpAny_bind (wpAny_mono h (fun vs s' h' => ?_) fun _ _ x => x)
    refine wpAny_holding ?_
    exact wpAny_bind (wpAny_pure (wpAny_bind (wpAny_pure (wpAny_pure h'))))
  | cons x r =>
    obtain ⟨b, t⟩ := x
    cases b with
    | true => simp at hp
    | false => exact evalArgs_plain h
theorem cwB {id : String} {pos : Pos} {first : List Value} {args : List (Bool × Sem Value)} {Q : Value → Shared → Prop} (h : wpAny (model prog w) A (spliced args) (fun vs s₁ => wpAny (model prog w) A (call (.builtin id) (first ++ vs)) Q E s₁) E s)
    (hp : args.any (·.1) = false := by rfl) : wpAny (model prog w) A (callWith pos (.builtin id) first args []) Q E s := by
  refine callWith_of (P := fun _ => True) (by rw [hp]; rfl) (fun _ _ => ⟨.machine, .inr (.inl rfl), Looks.of_pure rfl⟩) ?_
  exact evA hp (wpAny_mono h (fun _ _ q => ⟨trivial, q⟩) fun _ _ x => x)
theorem cwT {T : String} {pos : Pos} {first : List Value} {args : List (Bool × Sem Value)} {Q : Value → Shared → Prop} (h : wpAny (model prog w) A (spliced args) (fun vs s₁ => wpAny (model prog w) A (call (.type T) (first ++ vs)) Q E s₁) E s)
    (hp : args.any (·.1) = false := by rfl) : wpAny (model prog w) A (callWith pos (.type T) first args []) Q E s := by
  refine callWith_of (P := fun _ => True) (by rw [hp]; rfl) (fun _ _ => ⟨.machine, .inr (.inl rfl), Looks.of_pure rfl⟩) ?_
  exact evA hp (wpAny_mono h (fun _ _ q => ⟨trivial, q⟩) fun _ _ x => x)
theorem cwK {f : Addr} {pos : Pos} {first : List Value} {args : List (Bool × Sem Value)} {Q : Value → Shared → Prop} (hk : keepIn (heapK w.params) (.ref f) = true)
    (h : wpAny (model prog w) A (spliced args) (fun vs s₁ => (heapK w.params).In s₁.heap ∧ wpAny (model prog w) A (call (.ref f) (first ++ vs)) Q E s₁) E s)
    (hp : args.any (·.1) = false := by rfl) : wpAny (model prog w) A (callWith pos (.ref f) first args []) Q E s := by
  refine callWith_of (P := (heapK w.params).In) (by rw [hp]; rfl) (fun h X => let ⟨k, e, l⟩ := looks_keep hk X; ⟨k, e.elim .inl fun e => .inr (.inl e), l⟩) ?_
  exact evA hp h
theorem evCall {f : Expr} {args : List Expr} {pos : Pos} {Q : Value → Shared → Prop} (h : wpAny (model prog w) A (eval f env) (fun fv s₁ => wpAny (model prog w) A (callWith pos fv [] (backTo pos (starEach args env)) []) Q E s₁) E s)
    (he : eval (.Call f args [] pos) env = (do callWith pos (← eval f env) [] (backTo pos (starEach args env)) []) := by rfl) : wpAny (model prog w) A (eval (.Call f args [] pos) env) Q E s := by
  rw [he]; exact wpAny_bind h
theorem evMeth {o : Expr} {name : Str} {args : List Expr} {apos pos : Pos} {pl : Sem Bool} {Q : Value → Shared → Prop}
    (h : wpAny (model prog w) A (eval o env) (fun ov s₁ => wpAny (model prog w) A (getMethod ov name pl) (fun fx s₂ => wpAny (model prog w) A (callWith pos fx.1 fx.2 (backTo pos (starEach args env)) []) Q E s₂) E s₁) E s)
    (he : eval (.Call (.Attribute o name apos) args [] pos) env = (do
      let ov ← eval o env
      standAt apos.atName
      let (f, first) ← holding [ov] (getMethod ov name pl)
      callWith pos f first (backTo pos (starEach args env)) (backToKw pos (keywordEach [] env))) := by rfl) :
    wpAny (model prog w) A (eval (.Call (.Attribute o name apos) args [] pos) env) Q E s := methodCall_KW h he
theorem spN {pos : Pos} {Q : List Value → Shared → Prop} (h : Q [] s) : wpAny (model prog w) A (spliced (backTo pos (starEach [] env))) Q E s := spliced_none h
theorem spC {e : Expr} {rest : List Expr} {pos : Pos} {Q : List Value → Shared → Prop} (h : wpAny (model prog w) A (eval e env) (fun v s₁ => wpAny (model prog w) A (spliced (backTo pos (starEach rest env))) (fun vs s₂ => Q (v :: vs) s₂) E s₁) E s)
    (he : starEach (e :: rest) env = (false, eval e env) :: starEach rest env := by rfl) : wpAny (model prog w) A (spliced (backTo pos (starEach (e :: rest) env))) Q E s := spliced_more h he
end

/-- what is read as data -/
noncomputable def RD (Z : Heap) (v : Value) (d : PyData) : Prop := ∃ as, Reads Z v d as
noncomputable def RDs (Z : Heap) (vs : List Value) (ds : List PyData) : Prop := ∃ as, ReadsAll Z vs ds as
section
variable {Z Z' : Heap} {v : Value} {vs : List Value} {d : PyData} {ds : List PyData} {a : Addr}
theorem RD.keeps (k : Kp Z Z') (r : RD Z v d) : RD Z' v d := let ⟨as, r⟩ := r; ⟨as, Reads.keeps k r⟩
theorem RDs.keeps (k : Kp Z Z') (r : RDs Z vs ds) : RDs Z' vs ds := let ⟨as, r⟩ := r; ⟨as, ReadsAll.keeps k r⟩
theorem RD.int (i : Int) (t : Tok) : RD Z (.int i t) (.int i) := ⟨_, .int i t⟩
theorem RD.str (x : Str) (t : Tok) : RD Z (.str x t) (.str x) := ⟨_, .str x t⟩
theorem RD.none : RD Z .none .none := ⟨_, .none⟩
theorem RDs.nil : RDs Z [] [] := ⟨_, .nil⟩
theorem RDs.cons (r : RD Z v d) (q : RDs Z vs ds) : RDs Z (v :: vs) (d :: ds) := let ⟨_, r⟩ := r; let ⟨_, q⟩ := q; ⟨_, .cons r q⟩
theorem RD.tup (t : IsTup Z a vs.toArray) (q : RDs Z vs ds) : RD Z (.ref a) (.tuple ds) := let ⟨_, ho, hc, _, hd⟩ := t; let ⟨_, q⟩ := q; ⟨_, reads_tuple_at ho hc hd (by simpa using q)⟩
theorem RD.lst (t : Z.IsList a vs.toArray) (q : RDs Z vs ds) : RD Z (.ref a) (.list ds) := let ⟨_, ho, hc, _, hd⟩ := t; let ⟨_, q⟩ := q; ⟨_, reads_list_at ho hc hd (by simpa using q)⟩
theorem RD.lst_inv (r : RD Z v (.list ds)) : ∃ a vs, v = .ref a ∧ Z.IsList a vs.toArray ∧ RDs Z vs ds := by
  obtain ⟨as, r⟩ := r
  cases r with
  | list h1 h2 h3 h4 => rename_i a o vs n as'; exact ⟨a, vs.toList, rfl, ⟨o, h1, h2, n, by simpa using h3⟩, ⟨_, h4⟩⟩
theorem RD.tup_inv (r : RD Z v (.tuple ds)) : ∃ a vs, v = .ref a ∧ IsTup Z a vs.toArray ∧ RDs Z vs ds := by
  obtain ⟨as, r⟩ := r
  cases r with
  | tuple h1 h2 h3 h4 => rename_i a o vs n; exact ⟨a, vs.toList, rfl, ⟨o, h1, h2, n, by simpa using h3⟩, ⟨_, h4⟩⟩
theorem RD.int_inv {i : Int} (r : RD Z v (.int i)) : ∃ t, v = .int i t := by obtain ⟨as, r⟩ := r; cases r; exact ⟨_, rfl⟩
theorem RD.str_inv {x : Str} (r : RD Z v (.str x)) : ∃ t, v = .str x t := by obtain ⟨as, r⟩ := r; cases r; exact ⟨_, rfl⟩
theorem RD.none_inv (r : RD Z v .none) : v = .none := by obtain ⟨as, r⟩ := r; cases r; rfl
theorem RDs.nil_inv (r : RDs Z vs []) : vs = [] := by obtain ⟨as, r⟩ := r; cases r; rfl
theorem RDs.cons_inv (r : RDs Z vs (d :: ds)) : ∃ v vs', vs = v :: vs' ∧ RD Z v d ∧ RDs Z vs' ds := by
  obtain ⟨as, r⟩ := r
  cases r with
  | cons h1 h2 => exact ⟨_, _, rfl, ⟨_, h1⟩, ⟨_, h2⟩⟩
theorem RDs.get : ∀ {ds : List PyData} {vs : List Value} {k : Nat}, RDs Z vs ds → ds[k]? = some d → ∃ v, vs[k]? = some v ∧ RD Z v d
  | [], _, _, _, e => by simp at e
  | x :: ds, vs, k, q, e => by
    obtain ⟨v, vs', rfl, hv, hq⟩ := q.cons_inv
    cases k with
    | zero => simp at e; subst e; exact ⟨v, rfl, hv⟩
    | succ k => exact RDs.get (k := k) hq (by simpa using e)
theorem RDs.append {ds ds' : List PyData} {vs vs' : List Value} (q : RDs Z vs ds) (q' : RDs Z vs' ds') : RDs Z (vs ++ vs') (ds ++ ds') := by
  induction ds generalizing vs with
  | nil => rw [q.nil_inv]; exact q'
  | cons d ds ih =>
    obtain ⟨v, vs₁, rfl, hv, hq⟩ := q.cons_inv
    exact .cons hv (ih hq)
theorem RDs.len (q : RDs Z vs ds) : vs.length = ds.length := by
  obtain ⟨as, q⟩ := q
  exact SeqAt.ReadsAll.length _ _ _ q
end

section
variable {prog : Program} {w : World} {A : Around} {Q : Value → Shared → Prop} {E : Value → Shared → Prop} {s₀ : Shared} {h : Heap} {t : Nat} {Z Z₀ h₀ : Heap} {L a : Addr} {m : Str → Option Value} {own : Own} {value slice : Expr} {vs : List Value} {k : Int} {u : Tok} {v : Value}
theorem sTup' (i : IsTup h a vs.toArray) (h0 : 0 ≤ k) (hhi : k < 2 ^ 63) (hx : vs[k.toNat]? = some v) (q : Q v (sh s₀ h t))
    (hs : subscripted slice false (.ref a) (.int k u) = operate [.ref a, .int k u] (getItem (.ref a) (.int k u)) := by with_unfolding_all rfl) :
    wpAny (model prog w) A (subscriptTail value slice (.ref a) (.int k u)) Q E (sh s₀ h t) := by
  have hlt : k.toNat < vs.length := by
    cases e : vs[k.toNat]? with
    | none => rw [e] at hx; cases hx
    | some _ => exact (List.getElem?_eq_some_iff.mp e).1
  refine item_tupleT i (by omega) hhi (j := k.toNat) ?_ hx q hs
  have e : (if k < 0 then k + (vs.length : Int) else k) = k := if_neg (by omega)
  show (if (decide (0 ≤ (if k < 0 then k + (vs.length : Int) else k)) && decide ((if k < 0 then k + (vs.length : Int) else k) < (vs.length : Int))) = true then some (if k < 0 then k + (vs.length : Int) else k).toNat else none) = some k.toNat
  rw [e, decide_eq_true h0, decide_eq_true (show k < (vs.length : Int) by omega)]
  rfl
theorem sLst' (i : h.IsList a vs.toArray) (h0 : 0 ≤ k) (hhi : k < 2 ^ 63) (hx : vs[k.toNat]? = some v) (q : Q v (sh s₀ h t))
    (hs : subscripted slice false (.ref a) (.int k u) = operate [.ref a, .int k u] (getItem (.ref a) (.int k u)) := by with_unfolding_all rfl) :
    wpAny (model prog w) A (subscriptTail value slice (.ref a) (.int k u)) Q E (sh s₀ h t) :=
  tail_any i.typeIs slot_list_getitem.lookup (wpAny_getItem_list i h0 hhi (by simpa using hx) q) hs
theorem sTupZ (S : St Z₀ h₀ L Z m own h) (i : IsTup Z a vs.toArray) (h0 : 0 ≤ k) (hhi : k < 2 ^ 63) (hx : vs[k.toNat]? = some v) (q : Q v (sh s₀ h t))
    (hs : subscripted slice false (.ref a) (.int k u) = operate [.ref a, .int k u] (getItem (.ref a) (.int k u)) := by with_unfolding_all rfl) :
    wpAny (model prog w) A (subscriptTail value slice (.ref a) (.int k u)) Q E (sh s₀ h t) := sTup' (i.keeps S.zi) h0 hhi hx q hs
theorem IsL.keeps {h h' : Heap} (i : h.IsList a vs.toArray) (k : Kp h h') : h'.IsList a vs.toArray := let ⟨o, e, r⟩ := i; ⟨o, k _ _ e, r⟩
theorem sLstZ (S : St Z₀ h₀ L Z m own h) (i : Z.IsList a vs.toArray) (h0 : 0 ≤ k) (hhi : k < 2 ^ 63) (hx : vs[k.toNat]? = some v) (q : Q v (sh s₀ h t))
    (hs : subscripted slice false (.ref a) (.int k u) = operate [.ref a, .int k u] (getItem (.ref a) (.int k u)) := by with_unfolding_all rfl) :
    wpAny (model prog w) A (subscriptTail value slice (.ref a) (.int k u)) Q E (sh s₀ h t) := sLst' (IsL.keeps i S.zi) h0 hhi hx q hs
theorem sLstO (S : St Z₀ h₀ L Z m own h) (i : (a, LstO vs) ∈ own) (h0 : 0 ≤ k) (hhi : k < 2 ^ 63) (hx : vs[k.toNat]? = some v) (q : Q v (sh s₀ h t))
    (hs : subscripted slice false (.ref a) (.int k u) = operate [.ref a, .int k u] (getItem (.ref a) (.int k u)) := by with_unfolding_all rfl) :
    wpAny (model prog w) A (subscriptTail value slice (.ref a) (.int k u)) Q E (sh s₀ h t) := let ⟨_, e, p⟩ := S.mem i; sLst' (p.at e) h0 hhi hx q hs
/-- an item of data -/
theorem sRDl {d : PyData} {ds : List PyData} {c : Value} (S : St Z₀ h₀ L Z m own h) (i : RD Z c (.list ds)) (h0 : 0 ≤ k) (hhi : k < 2 ^ 63) (hx : ds[k.toNat]? = some d) (q : ∀ v, RD Z v d → Q v (sh s₀ h t))
    (hs : ∀ a, subscripted slice false (.ref a) (.int k u) = operate [.ref a, .int k u] (getItem (.ref a) (.int k u)) := by intro _; with_unfolding_all rfl) :
    wpAny (model prog w) A (subscriptTail value slice c (.int k u)) Q E (sh s₀ h t) := by
  obtain ⟨a, vs, rfl, il, r⟩ := i.lst_inv
  obtain ⟨v, hv, hr⟩ := r.get hx
  exact sLstZ S il h0 hhi hv (q v hr) (hs a)
theorem sRDt {d : PyData} {ds : List PyData} {c : Value} (S : St Z₀ h₀ L Z m own h) (i : RD Z c (.tuple ds)) (h0 : 0 ≤ k) (hhi : k < 2 ^ 63) (hx : ds[k.toNat]? = some d) (q : ∀ v, RD Z v d → Q v (sh s₀ h t))
    (hs : ∀ a, subscripted slice false (.ref a) (.int k u) = operate [.ref a, .int k u] (getItem (.ref a) (.int k u)) := by intro _; with_unfolding_all rfl) :
    wpAny (model prog w) A (subscriptTail value slice c (.int k u)) Q E (sh s₀ h t) := by
  obtain ⟨a, vs, rfl, il, r⟩ := i.tup_inv
  obtain ⟨v, hv, hr⟩ := r.get hx
  exact sTupZ S il h0 hhi hv (q v hr) (hs a)
theorem sLstOD {d : PyData} {ds : List PyData} (S : St Z₀ h₀ L Z m own h) (i : (a, LstO vs) ∈ own) (r : RDs Z vs ds) (h0 : 0 ≤ k) (hhi : k < 2 ^ 63) (hx : ds[k.toNat]? = some d) (q : ∀ v, RD Z v d → Q v (sh s₀ h t))
    (hs : subscripted slice false (.ref a) (.int k u) = operate [.ref a, .int k u] (getItem (.ref a) (.int k u)) := by with_unfolding_all rfl) :
    wpAny (model prog w) A (subscriptTail value slice (.ref a) (.int k u)) Q E (sh s₀ h t) := by
  obtain ⟨v, hv, hr⟩ := r.get hx
  exact sLstO S i h0 hhi hv (q v hr) hs
end
theorem map_get {α β : Type} {l : List α} {f : α → β} {k : Nat} (d : α) (hk : k < l.length) : (l.map f)[k]? = some (f (l.getD k d)) := by
  rw [List.getElem?_map, List.getElem?_eq_getElem hk, List.getD_eq_getElem?_getD, List.getElem?_eq_getElem hk]; rfl
theorem RD.tup2 {Z : Heap} {v : Value} {a b : PyData} (r : RD Z v (.tuple [a, b])) : ∃ T x y, v = .ref T ∧ IsTup Z T [x, y].toArray ∧ RD Z x a ∧ RD Z y b := by
  obtain ⟨T, vs, rfl, i, q⟩ := r.tup_inv
  obtain ⟨x, vs, rfl, hx, q⟩ := q.cons_inv
  obtain ⟨y, vs, rfl, hy, q⟩ := q.cons_inv
  rw [q.nil_inv] at i
  exact ⟨T, x, y, rfl, i, hx, hy⟩
theorem RD.tup3 {Z : Heap} {v : Value} {a b c : PyData} (r : RD Z v (.tuple [a, b, c])) : ∃ T x y z, v = .ref T ∧ IsTup Z T [x, y, z].toArray ∧ RD Z x a ∧ RD Z y b ∧ RD Z z c := by
  obtain ⟨T, vs, rfl, i, q⟩ := r.tup_inv
  obtain ⟨x, vs, rfl, hx, q⟩ := q.cons_inv
  obtain ⟨y, vs, rfl, hy, q⟩ := q.cons_inv
  obtain ⟨z, vs, rfl, hz, q⟩ := q.cons_inv
  rw [q.nil_inv] at i
  exact ⟨T, x, y, z, rfl, i, hx, hy, hz⟩
theorem RDs.at {Z : Heap} {α : Type} {f : α → PyData} {vs : List Value} {xs : List α} {i : Nat} (q : RDs Z vs (xs.map f)) (hi : i < xs.length) : ∃ v, vs[i]? = some v ∧ RD Z v (f xs[i]) :=
  q.get (by rw [List.getElem?_map, List.getElem?_eq_getElem hi]; rfl)
theorem RDs.len' {Z : Heap} {α : Type} {f : α → PyData} {vs : List Value} {xs : List α} (q : RDs Z vs (xs.map f)) : vs.length = xs.length := by have := q.len; simpa using this
theorem take_snoc {α : Type} {xs : List α} {i : Nat} (hi : i < xs.length) : xs.take (i + 1) = xs.take i ++ [xs[i]] := by rw [List.take_add_one, List.getElem?_eq_getElem hi]; rfl
theorem fillK (P : Params) : PySem.Challenge.rw_in0011_01 = PySem.Challenge.rw_in0011_01 ∧ heapK P = heapK P := by k_fill; exact ⟨rfl, rfl⟩


noncomputable def sgn : Str := Txt.mul (Str.ofString "a=b") 26
noncomputable def texts : List (Str × Str) := [(Str.ofString "", Str.ofString "''"), (Str.ofString " ", Str.ofString "' '"), (sgn, Str.ofString "'" ++ sgn ++ Str.ofString "'"), (Str.ofString "it's", Str.ofString "\"it's\""), (Str.ofString "\\", Str.ofString "'\\\\'"), (Str.ofString " =  1\n", Str.ofString "' =  1\\n'")]
noncomputable def txtD (p : Str × Str) : PyData := .tuple [.str p.1, .str p.2]

section
variable {prog : Program} {w : World} {A : Around} {E : Value → Shared → Prop} {s₀ : Shared} {h : Heap} {t : Nat} {Z : Heap}

theorem texts_spec {Q : Value → Shared → Prop} (G : Gnd w Z) (hz : Kp Z h) (R : Rm A 10 40)
    (q : ∀ h' t' Z' v, ZX Z h Z' h' → RD Z' v (.list (texts.map txtD)) → Q v (sh s₀ h' t')) :
    wpAny (model prog w) A (call (.ref 352) [] []) Q E (sh s₀ h t) := by
  refine' enterP (binds := []) (bl := []) G hz ?ho ?hcd ?hroom ?hbind rfl ?hloc ?body ?hcell ?c2 ?c3 ?c4
  (case ho => k_is)
  (case hcd => k_is)
  (case hroom => (have := R.dp; show _ < 1000; omega))
  (case hbind => exact BindsTo.of_eq rfl)
  (case hloc => exact locs rfl)
  (case hcell => decide)
  (case c2 => exact rfl)
  (case c3 => exact rfl)
  (case c4 => exact rfl)
  intro E' h t S
  show wpAny _ _ _ (Lv Q) _ _
  repeat' ktr_member
  refine oRep ⟨by decide, fun _ _ => by decide +kernel, fun _ _ => by decide +kernel⟩ ?_; intro tk t
  repeat' ktr_member
  refine nTupZ S ?_; intro x1 h Z1 k1 i1 S
  repeat' ktr_member
  refine nTupZ S ?_; intro x2 h Z2 k2 i2 S
  repeat' ktr_member
  (refine' oCat ?hsz ?_); (case hsz => decide +kernel); intro tk t
  repeat' ktr_member
  (refine' oCat ?hsz ?_); (case hsz => decide +kernel); intro tk t
  repeat' ktr_member
  refine nTupZ S ?_; intro x3 h Z3 k3 i3 S
  repeat' ktr_member
  refine nTupZ S ?_; intro x4 h Z4 k4 i4 S
  repeat' ktr_member
  refine nTupZ S ?_; intro x5 h Z5 k5 i5 S
  repeat' ktr_member
  refine nTupZ S ?_; intro x6 h Z6 k6 i6 S
  repeat' ktr_member
  refine nLstZ S ?_; intro x7 h Z7 k7 i7 S
  repeat' ktr_member
  exact q _ _ _ _ S.zx (RD.lst i7 (.cons (.tup (i1.keeps fun b o e => k7 b o (k6 b o (k5 b o (k4 b o (k3 b o (k2 b o e)))))) (.cons (.str _ _) (.cons (.str _ _) .nil)))
    (.cons (.tup (i2.keeps fun b o e => k7 b o (k6 b o (k5 b o (k4 b o (k3 b o e))))) (.cons (.str _ _) (.cons (.str _ _) .nil)))
    (.cons (.tup (i3.keeps fun b o e => k7 b o (k6 b o (k5 b o (k4 b o e)))) (.cons (.str _ _) (.cons (.str _ _) .nil)))
    (.cons (.tup (i4.keeps fun b o e => k7 b o (k6 b o (k5 b o e))) (.cons (.str _ _) (.cons (.str _ _) .nil)))
    (.cons (.tup (i5.keeps fun b o e => k7 b o (k6 b o e)) (.cons (.str _ _) (.cons (.str _ _) .nil)))
    (.cons (.tup (i6.keeps fun b o e => k7 b o e) (.cons (.str _ _) (.cons (.str _ _) .nil))) .nil)))))))
end
section
variable {prog : Program} {w : World} {A : Around} {E : Value → Shared → Prop} {s₀ : Shared} {h : Heap} {t : Nat} {Z : Heap}
/-- a thing and its writing -/
noncomputable def pD (p : PyData × Str) : PyData := .tuple [p.1, .str p.2]
noncomputable def ints5 : List Str := [Str.ofString "-2", Str.ofString "-1", Str.ofString "0", Str.ofString "1", Str.ofString "2"]
noncomputable def thg (y : Int) (a : PyData × Str) : PyData × Str :=
  if Int.fmod y 4 = 0 then (.int (Int.fmod (Int.fdiv y 4) 5 - 2), ints5.getD (Int.fmod (Int.fdiv y 4) 5).toNat Str.empty)
  else if Int.fmod y 4 = 1 then ((texts.map fun p => (PyData.str p.1, p.2)).getD (Int.fmod (Int.fdiv y 4) 6).toNat (.none, Str.empty))
  else if Int.fmod y 4 = 2 then ([(PyData.none, Str.ofString "None"), (.list [], Str.ofString "[]")].getD (Int.fmod (Int.fdiv y 4) 2).toNat (.none, Str.empty))
  else (.list [a.1, .int (Int.fmod (Int.fdiv y 4) 2)], Str.ofString "[" ++ a.2 ++ [Str.ofString ", 0]", Str.ofString ", 1]"].getD (Int.fmod (Int.fdiv y 4) 2).toNat Str.empty)

theorem thing_spec {Q : Value → Shared → Prop} {y : Int} {u : Tok} {av : Value} {a : PyData × Str} (G : Gnd w Z) (hz : Kp Z h) (R : Rm A 20 60) (ha : RD Z av (pD a)) (hl : a.2.length ≤ 1000000)
    (q : ∀ h' t' Z' v, ZX Z h Z' h' → RD Z' v (pD (thg y a)) → Q v (sh s₀ h' t')) :
    wpAny (model prog w) A (call (.ref 359) [.int y u, av] []) Q E (sh s₀ h t) := by
  refine' enterP (binds := [(Str.ofString "y", .int y u), (Str.ofString "ahead", av)]) (bl := [(Str.ofString "ahead", av), (Str.ofString "y", .int y u)]) G hz ?ho ?hcd ?hroom ?hbind rfl ?hloc ?body ?hcell ?c2 ?c3 ?c4
  (case ho => k_is)
  (case hcd => k_is)
  (case hroom => (have := R.dp; show _ < 1000; omega))
  (case hbind => exact BindsTo.of_eq rfl)
  (case hloc => exact locs rfl)
  (case hcell => decide)
  (case c2 => exact rfl)
  (case c3 => exact rfl)
  (case c4 => exact rfl)
  intro E' h t S
  show wpAny _ _ _ (Lv Q) _ _
  repeat' ktr_member
  have f2 : ∀ x : Int, 0 ≤ Int.fmod x 2 ∧ Int.fmod x 2 < 2 := fun x => ⟨Int.fmod_nonneg_of_pos x (by decide), Int.fmod_lt_of_pos x (by decide)⟩
  have f5 : ∀ x : Int, 0 ≤ Int.fmod x 5 ∧ Int.fmod x 5 < 5 := fun x => ⟨Int.fmod_nonneg_of_pos x (by decide), Int.fmod_lt_of_pos x (by decide)⟩
  have f6 : ∀ x : Int, 0 ≤ Int.fmod x 6 ∧ Int.fmod x 6 < 6 := fun x => ⟨Int.fmod_nonneg_of_pos x (by decide), Int.fmod_lt_of_pos x (by decide)⟩
  refine ⟨fun c0 => ?_, fun c0 => ?_⟩
  · have c0 : Int.fmod y 4 = 0 := by simpa using c0
    repeat' ktr_member
    refine nLst S ?_; intro x1 h S
    repeat' ktr_member
    obtain ⟨g0, g1⟩ := f5 (Int.fdiv y 4)
    refine sLstOD (ds := ints5.map PyData.str) S (.head _) (.cons (.str _ _) (.cons (.str _ _) (.cons (.str _ _) (.cons (.str _ _) (.cons (.str _ _) .nil))))) g0 (by omega) (map_get Str.empty (by show _ < 5; omega)) fun v9 r9 => ?_
    obtain ⟨tk9, rfl⟩ := r9.str_inv
    repeat' ktr_member
    refine nTupZ S ?_; intro x2 h Z2 k2 i2 S
    repeat' ktr_member
    refine q _ _ _ _ S.zx ?_
    unfold thg
    rw [if_pos c0]
    exact .tup i2 (.cons (.int _ _) (.cons (.str _ _) .nil))
  have c0 : ¬ Int.fmod y 4 = 0 := by simpa using c0
  repeat' ktr_member
  refine ⟨fun c1 => ?_, fun c1 => ?_⟩
  · have c1 : Int.fmod y 4 = 1 := by simpa using c1
    repeat' ktr_member
    refine texts_spec G S.zi (R.sub (by decide) (by decide)) ?_
    intro h t Z1 v1 x1 r1
    have S := S.ext x1
    repeat' ktr_member
    obtain ⟨g0, g1⟩ := f6 (Int.fdiv y 4)
    refine sRDl S r1 g0 (by omega) (map_get (Str.empty, Str.empty) (by show _ < 6; omega)) fun v9 r9 => ?_
    repeat' ktr_member
    refine q _ _ _ _ S.zx ?_
    unfold thg
    rw [if_neg c0, if_pos c1]
    have e : (texts.map fun p => (PyData.str p.1, p.2)).getD (Int.fmod (Int.fdiv y 4) 6).toNat (.none, Str.empty) = (fun p : Str × Str => (PyData.str p.1, p.2)) (texts.getD (Int.fmod (Int.fdiv y 4) 6).toNat (Str.empty, Str.empty)) := by
      rw [List.getD_eq_getElem?_getD, map_get (Str.empty, Str.empty) (by show _ < 6; omega)]; rfl
    rw [e]
    exact r9
  have c1 : ¬ Int.fmod y 4 = 1 := by simpa using c1
  repeat' ktr_member
  refine ⟨fun c2 => ?_, fun c2 => ?_⟩
  · have c2 : Int.fmod y 4 = 2 := by simpa using c2
    repeat' ktr_member
    refine nTupZ S ?_; intro x1 h Z1 k1 i1 S
    repeat' ktr_member
    refine nLstZ S ?_; intro x2 h Z2 k2 i2 S
    repeat' ktr_member
    refine nTupZ S ?_; intro x3 h Z3 k3 i3 S
    repeat' ktr_member
    refine nLst S ?_; intro x4 h S
    repeat' ktr_member
    obtain ⟨g0, g1⟩ := f2 (Int.fdiv y 4)
    refine sLstOD (ds := [(PyData.none, Str.ofString "None"), (.list [], Str.ofString "[]")].map pD) S (.head _)
      (.cons (.tup (i1.keeps fun b o e => k3 b o (k2 b o e)) (.cons .none (.cons (.str _ _) .nil))) (.cons (.tup i3 (.cons (.lst (IsL.keeps i2 k3) .nil) (.cons (.str _ _) .nil))) .nil)) g0 (by omega) (map_get (PyData.none, Str.empty) (by show _ < 2; omega)) fun v9 r9 => ?_
    repeat' ktr_member
    refine q _ _ _ _ S.zx ?_
    unfold thg
    rw [if_neg c0, if_neg c1, if_pos c2]
    exact r9
  have c2 : ¬ Int.fmod y 4 = 2 := by simpa using c2
  repeat' ktr_member
  refine sRDt S ha (by decide) (by decide) rfl fun v1 r1 => ?_
  repeat' ktr_member
  refine nLstZ S ?_; intro x1 h Z1 k1 i1 S
  repeat' ktr_member
  refine sRDt S (ha.keeps k1) (by decide) (by decide) rfl fun v2 r2 => ?_
  obtain ⟨u2, rfl⟩ := r2.str_inv
  repeat' ktr_member
  (refine' oCat ?hsz ?_); (case hsz => (rw [sizeLine_eq]; show 1 + _ ≤ _; omega)); intro tk t
  repeat' ktr_member
  refine nLst S ?_; intro x3 h S
  repeat' ktr_member
  obtain ⟨g0, g1⟩ := f2 (Int.fdiv y 4)
  refine sLstOD (ds := [Str.ofString ", 0]", Str.ofString ", 1]"].map PyData.str) S (.head _) (.cons (.str _ _) (.cons (.str _ _) .nil)) g0 (by omega) (map_get Str.empty (by show _ < 2; omega)) fun v9 r9 => ?_
  obtain ⟨tk9, rfl⟩ := r9.str_inv
  repeat' ktr_member
  (refine' oCat ?hsz ?_)
  case hsz =>
    have : ([Str.ofString ", 0]", Str.ofString ", 1]"].getD (Int.fmod (Int.fdiv y 4) 2).toNat Str.empty).length = 4 := by
      generalize Int.fmod (Int.fdiv y 4) 2 = n at g0 g1
      obtain rfl | rfl : n = 0 ∨ n = 1 := by omega
      all_goals rfl
    rw [sizeLine_eq, this, Str.length_append]; show 1 + _ + 4 ≤ _; omega
  intro tk t
  repeat' ktr_member
  refine nTupZ S ?_; intro x2 h Z2 k2 i2 S
  repeat' ktr_member
  refine q _ _ _ _ S.zx ?_
  unfold thg
  rw [if_neg c0, if_neg c1, if_neg c2]
  exact .tup i2 (.cons (.lst (IsL.keeps i1 k2) (.cons (r1.keeps fun b o e => k2 b o (k1 b o e)) (.cons (.int _ _) .nil))) (.cons (.str _ _) .nil))
end
section
variable {prog : Program} {w : World} {A : Around} {E : Value → Shared → Prop} {s₀ : Shared} {h : Heap} {t : Nat} {Z Z₀ h₀ : Heap} {L l it d : Addr} {m : Str → Option Value} {own own' : Own} {vs : List Value} {i : Nat} {v x : Value} {env : Env}

theorem itL' {Q : Value → Shared → Prop} (S : St Z₀ h₀ L Z m own h) (i : h.IsList l vs.toArray) (q : ∀ it h', St Z₀ h₀ L Z m ((it, LitO l 0) :: own) h' → Q (.ref it) (sh s₀ h' t)) : wpAny (model prog w) A (pyIter (.ref l)) Q E (sh s₀ h t) :=
  wpAny_pyIter_list i (q _ _ (S.push rfl ⟨rfl, rfl⟩))
theorem itLZ {Q : Value → Shared → Prop} (S : St Z₀ h₀ L Z m own h) (i : Z.IsList l vs.toArray) (q : ∀ it h', St Z₀ h₀ L Z m ((it, LitO l 0) :: own) h' → Q (.ref it) (sh s₀ h' t)) : wpAny (model prog w) A (pyIter (.ref l)) Q E (sh s₀ h t) := itL' S (IsL.keeps i S.zi) q
theorem nxL {Q : Option Value → Shared → Prop} (S : St Z₀ h₀ L Z m own h) (u : Rp it (LitO l i) (LitO l (i + 1)) own own') (hl : h.IsList l vs.toArray) (hx : vs[i]? = some v) (q : ∀ h', St Z₀ h₀ L Z m own' h' → Q (some v) (sh s₀ h' t)) :
    wpAny (model prog w) A (pyNext (.ref it)) Q E (sh s₀ h t) := by
  obtain ⟨o, ho, hp⟩ := S.mem u.mem
  refine wpAny_pyNext_list_item ⟨o, ho, hp⟩ hl (by simpa using hx) fun h' hi hs => ?_
  obtain ⟨o', ho', hp'⟩ := hi
  exact q h' (S.upd u hs.extBut ho' hp')
theorem nxLe {Q : Option Value → Shared → Prop} (S : St Z₀ h₀ L Z m own h) (hh : A.handled = none) (u : Dl it (LitO l i) own own') (hl : h.IsList l vs.toArray) (hx : vs[i]? = none) (q : ∀ h', St Z₀ h₀ L Z m own' h' → Q none (sh s₀ h' t)) :
    wpAny (model prog w) A (pyNext (.ref it)) Q E (sh s₀ h t) := by
  obtain ⟨o, ho, hp⟩ := S.mem u.mem
  exact wpAny_pyNext_list_end hh ⟨o, ho, hp⟩ hl (by simpa using hx) fun h' hk => q h' (S.del u hk)

/-- a for: what holds of the turn's number and the heap -/
theorem floop {R : Result → Shared → Prop} {target : Expr} {it : Value} {body : List Stmt} (J : Nat → Heap → Prop) (n : Nat) (h0 : J 0 h)
    (item : ∀ i h t E', i < n → J i h → wpAny (model prog w) A (pyNext it) (fun r s₁ => ∃ v, r = some v ∧ wpAny (model prog w) A (assign target env v) (fun _ s₂ => wpAny (model prog w) A (execs body env)
      (fun f s₃ => (f = .next ∨ f = .cont) ∧ ∃ h' t', s₃ = sh s₀ h' t' ∧ J (i + 1) h') E' s₂) E' s₁) E' (sh s₀ h t))
    (stop : ∀ h t E', J n h → wpAny (model prog w) A (pyNext it) (fun r s₁ => r = none ∧ R (.ok .next) s₁) E' (sh s₀ h t))
    (ht : ∀ v, letOwnedTupleGo target it v = pure () := by intro _; rfl) : codeAny (model prog w) A (.forLoop target it body [] env) R (sh s₀ h t) := by
  refine codeAny_forLoop (fun k s => ∃ i h t, s = sh s₀ h t ∧ i ≤ n ∧ k = n - i ∧ J i h) ?_ n ⟨0, h, t, rfl, Nat.zero_le _, rfl, h0⟩ ht
  rintro k s ⟨i, h, t, rfl, hi, rfl, hJ⟩
  rcases Nat.lt_or_ge i n with lt | ge
  · refine wpAny_mono (item i h t _ lt hJ) (fun r s₁ h₁ => ?_) fun _ _ x => x
    obtain ⟨v, rfl, h₁⟩ := h₁
    refine wpAny_mono h₁ (fun _ s₂ h₂ => wpAny_mono h₂ (fun f s₃ h₃ => ?_) fun _ _ x => x) fun _ _ x => x
    obtain ⟨hf, h', t', rfl, hJ'⟩ := h₃
    rcases hf with rfl | rfl
    · exact ⟨n - (i + 1), by omega, i + 1, h', t', rfl, lt, rfl, hJ'⟩
    · exact ⟨n - (i + 1), by omega, i + 1, h', t', rfl, lt, rfl, hJ'⟩
  · obtain rfl : i = n := Nat.le_antisymm hi ge
    refine wpAny_mono (stop h t _ hJ) (fun r s₁ h₁ => ?_) fun _ _ x => x
    obtain ⟨rfl, h₁⟩ := h₁
    exact wpAny_execs_nil h₁
/-- the whole for statement -/
theorem xFor {target iter : Expr} {body : List Stmt} {pos : Pos} {Q : Flow → Shared → Prop}
    (h : wpAny (model prog w) A (eval iter env) (fun x s₁ => wpAny (model prog w) A (pyIter x) (fun it s₂ => ∀ E' : Value → Shared → Prop, codeAny (model prog w) A (.forLoop target it body [] env) (fun r s' => match r with | .ok f => Q f s' | .error e => E' e s') s₂) E s₁) E s₀)
    (hs : ∀ x, foldedSetIterable iter env x = pure x := by intro _; rfl) : wpAny (model prog w) A (exec (.For target iter body [] pos) env) Q E s₀ :=
  wpAny_For (wpAny_mono h (fun _ _ h₁ => wpAny_mono h₁ (fun _ _ h₂ => h₂ _) fun _ _ x => x) fun _ _ x => x) hs
theorem asN {x : Str} {pos : Pos} {Q : Unit → Shared → Prop} {s : Shared} (h : wpAny (model prog w) A (storeName env x v) Q E s) : wpAny (model prog w) A (assign (.Name x pos) env v) Q E s := wpAny_assign_Name h

theorem gmAp {pl : Sem Bool} {Q : Value × List Value → Shared → Prop} (S : St Z₀ h₀ L Z m own h) (i : (d, LstO vs) ∈ own) (q : Q (.builtin "list.append", [.ref d]) (sh s₀ h t)) : wpAny (model prog w) A (getMethod (.ref d) "append" pl) Q E (sh s₀ h t) := by
  obtain ⟨_, e, n, rfl⟩ := S.mem i
  exact getMethod_list_append e rfl rfl q
theorem apL {Q : Value → Shared → Prop} (S : St Z₀ h₀ L Z m own h) (u : Rp d (LstO vs) (LstO (vs ++ [x])) own own') (hsz : vs.length ≤ sizeLine) (q : ∀ h', St Z₀ h₀ L Z m own' h' → Q .none (sh s₀ h' t)) :
    wpAny (model prog w) A (call (.builtin "list.append") [.ref d, x]) Q E (sh s₀ h t) := by
  obtain ⟨_, e, n, rfl⟩ := S.mem u.mem
  refine wpAny_list_append_plain (items := vs.toArray) ⟨n, e⟩ (fun h' hp hs => ?_) (by simpa using hsz)
  obtain ⟨n', e'⟩ := hp
  exact q h' (S.upd u hs.extBut e' ⟨n', by simp⟩)
/-- the object of an owned entry, at the heap -/
theorem St.lst (S : St Z₀ h₀ L Z m own h) (i : (l, LstO vs) ∈ own) : h.IsList l vs.toArray := let ⟨_, e, p⟩ := S.mem i; p.at e
/-- a list freezes -/
theorem St.frzL (S : St Z₀ h₀ L Z m own h) (u : Dl l (LstO vs) own own') : ∃ Z', Kp Z Z' ∧ Z'.IsList l vs.toArray ∧ St Z₀ h₀ L Z' m own' h := let ⟨Z', _, k, e, p, S'⟩ := S.frz u; ⟨Z', k, p.at e, S'⟩
end
/-- the drawn: a mask, a thing, its writing -/
noncomputable def dD (p : Int × PyData × Str) : PyData := .tuple [.int p.1, p.2.1, .str p.2.2]
noncomputable def drStep (s : List (Int × PyData × Str) × (PyData × Str)) (x : Int) : List (Int × PyData × Str) × (PyData × Str) :=
  (s.1 ++ [(Int.fmod x 8, thg (Int.fdiv x 8) s.2)], thg (Int.fdiv x 8) s.2)
noncomputable def drAll (xs : List Int) : List (Int × PyData × Str) × (PyData × Str) := xs.foldl drStep ([], (.none, Str.ofString "None"))
theorem drAll_snoc (xs : List Int) (x : Int) : drAll (xs ++ [x]) = drStep (drAll xs) x := by unfold drAll; rw [List.foldl_append]; rfl
theorem thg_len (y : Int) (a : PyData × Str) : (thg y a).2.length ≤ a.2.length + 100 := by
  have f2 : ∀ x : Int, 0 ≤ Int.fmod x 2 ∧ Int.fmod x 2 < 2 := fun x => ⟨Int.fmod_nonneg_of_pos x (by decide), Int.fmod_lt_of_pos x (by decide)⟩
  have f5 : ∀ x : Int, 0 ≤ Int.fmod x 5 ∧ Int.fmod x 5 < 5 := fun x => ⟨Int.fmod_nonneg_of_pos x (by decide), Int.fmod_lt_of_pos x (by decide)⟩
  have f6 : ∀ x : Int, 0 ≤ Int.fmod x 6 ∧ Int.fmod x 6 < 6 := fun x => ⟨Int.fmod_nonneg_of_pos x (by decide), Int.fmod_lt_of_pos x (by decide)⟩
  unfold thg
  split
  · obtain ⟨g0, g1⟩ := f5 (Int.fdiv y 4)
    generalize Int.fmod (Int.fdiv y 4) 5 = n at g0 g1
    obtain rfl | rfl | rfl | rfl | rfl : n = 0 ∨ n = 1 ∨ n = 2 ∨ n = 3 ∨ n = 4 := by omega
    all_goals exact Nat.le_trans (by decide +kernel : _ ≤ 100) (Nat.le_add_left _ _)
  split
  · obtain ⟨g0, g1⟩ := f6 (Int.fdiv y 4)
    generalize Int.fmod (Int.fdiv y 4) 6 = n at g0 g1
    obtain rfl | rfl | rfl | rfl | rfl | rfl : n = 0 ∨ n = 1 ∨ n = 2 ∨ n = 3 ∨ n = 4 ∨ n = 5 := by omega
    all_goals exact Nat.le_trans (by decide +kernel : _ ≤ 100) (Nat.le_add_left _ _)
  obtain ⟨g0, g1⟩ := f2 (Int.fdiv y 4)
  generalize Int.fmod (Int.fdiv y 4) 2 = n at g0 g1
  split
  · obtain rfl | rfl : n = 0 ∨ n = 1 := by omega
    all_goals exact Nat.le_trans (by decide +kernel : _ ≤ 100) (Nat.le_add_left _ _)
  · have : ([Str.ofString ", 0]", Str.ofString ", 1]"].getD n.toNat Str.empty).length = 4 := by
      obtain rfl | rfl : n = 0 ∨ n = 1 := by omega
      all_goals rfl
    show (Str.ofString "[" ++ a.2 ++ _).length ≤ _
    rw [Str.length_append, Str.length_append, this]
    show 1 + _ + 4 ≤ _
    omega
theorem drAll_len (xs : List Int) : (drAll xs).2.2.length ≤ 4 + 100 * xs.length ∧ (drAll xs).1.length = xs.length := by
  generalize hn : xs.length = n
  induction n generalizing xs with
  | zero => obtain rfl := List.length_eq_zero_iff.mp hn; exact ⟨by decide +kernel, rfl⟩
  | succ n ih =>
    obtain ⟨ys, y, rfl⟩ : ∃ ys y, xs = ys ++ [y] := ⟨xs.dropLast, xs.getLast (by intro e; rw [e] at hn; cases hn), (List.dropLast_concat_getLast _).symm⟩
    have hy : ys.length = n := by simpa using hn
    obtain ⟨i1, i2⟩ := ih ys hy
    rw [drAll_snoc]
    have := thg_len (Int.fdiv y 8) (drAll ys).2
    exact ⟨by show (thg _ _).2.length ≤ _; omega, by show ((drAll ys).1 ++ [_]).length = _; simp [i2]⟩
section
variable {prog : Program} {w : World} {A : Around} {E : Value → Shared → Prop} {s₀ : Shared} {h : Heap} {t : Nat} {Z : Heap}
theorem drawn_spec {Q : Value → Shared → Prop} {l : Addr} {vs : List Value} {xs : List Int} (G : Gnd w Z) (hz : Kp Z h) (R : Rm A 30 80) (hl : Z.IsList l vs.toArray) (hi : RDs Z vs (xs.map PyData.int)) (hn : xs.length ≤ 1000)
    (q : ∀ h' t' Z' v, ZX Z h Z' h' → RD Z' v (.list ((drAll xs).1.map dD)) → Q v (sh s₀ h' t')) :
    wpAny (model prog w) A (call (.ref 366) [.ref l] []) Q E (sh s₀ h t) := by
  refine' enterP (binds := [(Str.ofString "numbers", .ref l)]) (bl := [(Str.ofString "numbers", .ref l)]) G hz ?ho ?hcd ?hroom ?hbind rfl ?hloc ?body ?hcell ?c2 ?c3 ?c4
  (case ho => k_is)
  (case hcd => k_is)
  (case hroom => (have := R.dp; show _ < 1000; omega))
  (case hbind => exact BindsTo.of_eq rfl)
  (case hloc => exact locs rfl)
  (case hcell => decide)
  (case c2 => exact rfl)
  (case c3 => exact rfl)
  (case c4 => exact rfl)
  intro E' h t S
  show wpAny _ _ _ (Lv Q) _ _
  repeat' ktr_member
  refine nLst S ?_; intro d h S
  repeat' ktr_member
  refine nTupZ S ?_; intro x1 h Z1 k1 i1 S
  repeat' ktr_member
  refine itLZ S (IsL.keeps hl k1) ?_; intro it h S
  intro E2
  have hlen : vs.length = xs.length := by have := hi.len; simpa using this
  refine floop (fun i h => ∃ Z2 m ys va, Kp Z1 Z2 ∧ St _ _ _ Z2 m [(it, LitO l i), (d, LstO ys)] h ∧ m (Str.ofString "drawn") = some (.ref d) ∧ m (Str.ofString "ahead") = some va ∧
    RD Z2 va (pD (drAll (xs.take i)).2) ∧ RDs Z2 ys ((drAll (xs.take i)).1.map dD)) xs.length (ix4 (a := Z1) (in6 (fun _ _ e => e) S rfl rfl (.tup i1 (.cons .none (.cons (.str _ _) .nil))) .nil)) ?item ?stop
  case item =>
    rintro i h t E3 hlt
    refine ex4 ?_; intro Z2 m ys va
    refine an6 ?_; intro k2 S hm1 hm2 ra rd
    obtain ⟨v, hv, rv⟩ := hi.get (k := i) (d := .int xs[i]) (by rw [List.getElem?_map, List.getElem?_eq_getElem hlt]; rfl)
    obtain ⟨u, rfl⟩ := rv.int_inv
    have il := IsL.keeps hl fun b o e => S.zi b o (k2 b o (k1 b o e))
    refine nxL S (by (repeat (first | exact Rp.head | apply Rp.tail))) il hv ?_; intro h S
    refine ⟨_, rfl, ?_⟩
    repeat' ktr_member
    have hl9 := (drAll_len (xs.take i)).1
    rw [List.length_take] at hl9
    refine thing_spec (G.keeps S.zx.le) S.zi (R.sub (by decide) (by decide)) ra (by omega) ?_
    intro h t Z3 v3 x3 r3
    have S := S.ext x3
    have r3' : RD Z3 v3 (.tuple _) := r3
    repeat' ktr_member
    refine sRDt S r3' (by decide) (by decide) rfl fun v4 r4 => ?_
    repeat' ktr_member
    refine sRDt S r3' (by decide) (by decide) rfl fun v5 r5 => ?_
    obtain ⟨u5, rfl⟩ := r5.str_inv
    repeat' ktr_member
    refine nTupZ S ?_; intro x6 h Z6 k6 i6 S
    repeat' ktr_member
    have hy := rd.len
    rw [List.length_map, (drAll_len _).2, List.length_take] at hy
    refine apL S (by (repeat (first | exact Rp.head | apply Rp.tail))) (by rw [sizeLine_eq]; omega) ?_; intro h S
    repeat' ktr_member
    have e : xs.take (i + 1) = xs.take i ++ [xs[i]] := by rw [List.take_add_one, List.getElem?_eq_getElem hlt]; rfl
    refine ⟨.inl rfl, _, _, rfl, ix4 (a := Z6) (in6 (fun b o q => k6 b o (x3.le b o (k2 b o q))) S hm1 rfl ?_ ?_)⟩
    · rw [e, drAll_snoc]; exact r3.keeps k6
    · rw [e, drAll_snoc]
      show RDs Z6 _ (((drAll (xs.take i)).1 ++ [_]).map dD)
      rw [List.map_append]
      exact (rd.keeps fun b o q => k6 b o (x3.le b o q)).append (.cons (.tup i6 (.cons (.int _ _) (.cons (r4.keeps k6) (.cons (.str _ _) .nil)))) .nil)
  case stop =>
    rintro h t E3
    refine ex4 ?_; intro Z2 m ys va
    refine an6 ?_; intro k2 S hm1 hm2 ra rd
    have il := IsL.keeps hl fun b o e => S.zi b o (k2 b o (k1 b o e))
    refine nxLe S R.hd (by (repeat (first | exact Dl.head | apply Dl.tail))) il (by rw [List.getElem?_eq_none]; omega) ?_; intro h S
    refine ⟨rfl, ?_⟩
    repeat' ktr_member
    obtain ⟨Z5, k5, i5, S⟩ := S.frzL (by (repeat (first | exact Dl.head | apply Dl.tail)))
    rw [List.take_of_length_le (Nat.le_refl _)] at rd
    exact q _ _ _ _ S.zx (.lst i5 (rd.keeps k5))
end
section
variable {Z₀ h₀ : Heap} {L : Addr} {Z Z' : Heap} {m m₁ : Str → Option Value} {own own' : Own} {h h' : Heap}
theorem St.swap (S : St Z₀ h₀ L Z m own h) {L₁ : Addr} (u : Dl L₁ (NsO m₁) own own') (hb : h₀.objs.size ≤ L₁) : St Z₀ h₀ L₁ Z m₁ ((L, NsO m) :: own') h := by
  obtain ⟨c1, c2⟩ := u.cases S.nd
  obtain ⟨⟨o, ho, es, ep, hr⟩, q2, q3, q4⟩ := S.ow _ u.mem
  dsimp only at ho q2 q3 q4
  have hL0 : h₀.get? L = none := by
    cases e : h₀.get? L with
    | none => rfl
    | some o => exact absurd (Heap.lt_size e) (Nat.not_lt.mpr S.lb)
  refine ⟨S.zx, ⟨o, es, ep, ho, hr⟩, q2, hb, fun p hp => ?_, ?_⟩
  · rcases List.mem_cons.mp hp with rfl | hp
    · obtain ⟨oL, es', ep', hL, r⟩ := id S.ns
      exact ⟨⟨oL, hL, es', ep', r⟩, S.lz, hL0, Ne.symm q4⟩
    · obtain ⟨m1, m2⟩ := c1 p hp
      obtain ⟨r1, r2, r3, _⟩ := S.ow p m1
      exact ⟨r1, r2, r3, m2⟩
  · refine List.nodup_cons.mpr ⟨fun hq => ?_, c2⟩
    obtain ⟨p, hp, e⟩ := List.mem_map.mp hq
    exact (S.ow p (c1 p hp).1).2.2.2 e
end
section
variable {prog : Program} {w : World} {A : Around} {E : Value → Shared → Prop} {s₀ : Shared} {h : Heap} {t : Nat} {Z Z₀ h₀ : Heap} {L l it d : Addr} {m : Str → Option Value} {own own' : Own} {env : Env}
  {elt target iter : Expr} {ifs : List Expr} {scope : Scope} {pos : Pos} {cl : List (Str × Addr)}

noncomputable def CompGo (prog : Program) (w : World) (A : Around) (E : Value → Shared → Prop) (env : Env) (scope : Scope) (cl : List (Str × Addr)) (elt : Expr) (gs : List Comprehension) (pos : Pos) (use : Option (Value → Sem Unit)) (Q : Value → Shared → Prop) (it : Value) (s : Shared) : Prop :=
  wpAny (model prog w) A (newList []) (fun acc s₃ => wpAny (model prog w) A (newFunctionEnv scope env.globals cl [] env.qual none .none (some env)) (fun cenv s₄ =>
    codeAny (model prog w) A (.compStart (.ListComp elt gs scope pos) 0 it acc { cenv with scope := relabel scope env }) (compPost (model prog w) A E use Q acc cenv.locals) s₄) E s₃) E s

theorem compN {Q : Value → Shared → Prop} {s : Shared} (h : wpAny (model prog w) A (eval iter env) (fun x s₁ => wpAny (model prog w) A (pyIter x) (CompGo prog w A E env scope cl elt [⟨target, iter, ifs, 0⟩] pos none Q) E s₁) E s)
    (hclos : closureFor scope env = pure cl) (hkind : scope.kind = .function) (hnames : ∀ x ∈ scope.names, x.2 = .local → scope.names.lookup x.1 = some .local) (hs : ∀ x, foldedSetIterable iter env x = pure x := by intro _; rfl) :
    wpAny (model prog w) A (eval (.ListComp elt [⟨target, iter, ifs, 0⟩] scope pos) env) Q E s := by
  rw [eval_ListComp]
  exact wpAny_comprehension_free rfl hs hclos hkind hnames h
theorem compU {Q : Flow → Shared → Prop} {y : Str} {py spos : Pos} {s : Shared} (h : wpAny (model prog w) A (eval iter env) (fun x s₁ => wpAny (model prog w) A (pyIter x) (CompGo prog w A E env scope cl elt [⟨target, iter, ifs, 0⟩] pos (some (assign (.Name y py) env)) (fun _ s' => Q .next s')) E s₁) E s)
    (hsw : swapsWith (.ListComp elt [⟨target, iter, ifs, 0⟩] scope pos) (some (.Name y py)) spos.line env = pure true)
    (hclos : closureFor scope env = pure cl) (hkind : scope.kind = .function) (hnames : ∀ x ∈ scope.names, x.2 = .local → scope.names.lookup x.1 = some .local) (hs : ∀ x, foldedSetIterable iter env x = pure x := by intro _; rfl) :
    wpAny (model prog w) A (exec (.Assign [.Name y py] (.ListComp elt [⟨target, iter, ifs, 0⟩] scope pos) spos) env) Q E s := by
  rw [exec_Assign_Name_used _ _ _ _ hsw]
  refine wpAny_bind (wpAny_standAt (wpAny_bind ?_))
  show wpAny _ A (do let _ ← comprehension (.ListComp elt [⟨target, iter, ifs, 0⟩] scope pos) scope env _ (newList []) false (eval iter env) (some (assign (.Name y py) env))) _ _ s
  exact wpAny_bind (wpAny_mono (wpAny_comprehension_free (Q := fun _ s' => Q .next s') rfl hs hclos hkind hnames h) (fun _ s' hq => wpAny_pure (wpAny_pure hq)) fun _ _ e => e)

/-- the new frame of a comprehension -/
theorem compFrame {Q : Env → Shared → Prop} (S : St Z₀ h₀ L Z m own h) (hcell : ∀ y ∈ scope.names, y.2 ≠ .cell) (hkind : scope.kind = .function)
    (q : ∀ C h' t', St Z₀ h₀ C Z (fun _ => none) ((L, NsO m) :: own) h' → Q { scope := scope, locals := C, globals := env.globals, cells := cl, qual := env.qual, func := none, code := env.code, frame := env.frame, builtins := env.builtins } (sh s₀ h' t')) :
    wpAny (model prog w) A (newFunctionEnv scope env.globals cl [] env.qual none .none (some env)) Q E (sh s₀ h t) := by
  refine wpAny_newFunctionEnv hcell (by intro y hy; simp at hy) (fun h₁ hns₁ hsb₁ => ?_) hkind
  refine q _ _ _ (S.into (C := h.objs.size) (fun b o e => ?_) (get?_size h) (Nat.le_refl _) hns₁)
  exact hsb₁.extBut b o (Nat.ne_of_lt (Heap.lt_size e)) (Heap.get?_push_of_some _ e)

theorem compStartN {R : Result → Shared → Prop} {it acc : Value} {s : Shared} {env : Env} (h : codeAny (model prog w) A (.compLoop (.ListComp elt [⟨target, iter, ifs, 0⟩] scope pos) 0 it acc env) R s) (hi : ∀ (Q : Value → Shared → Prop) E, Q it s → wpAny (model prog w) A (pyIter it) Q E s) :
    codeAny (model prog w) A (.compStart (.ListComp elt [⟨target, iter, ifs, 0⟩] scope pos) 0 it acc env) R s := codeAny_compStart_list h (hi _ _ h)

/-- into the loop: the answer is handed on -/
theorem compGo {Q : Value → Shared → Prop} (S : St Z₀ h₀ L Z m own h) (hcell : ∀ y ∈ scope.names, y.2 ≠ .cell) (hkind : scope.kind = .function)
    (hi : ∀ h' t' (Q : Value → Shared → Prop) E, (∃ C m' d, St Z₀ h₀ C Z m' ((L, NsO m) :: (d, LstO []) :: own) h') → Q (.ref it) (sh s₀ h' t') → wpAny (model prog w) A (pyIter (.ref it)) Q E (sh s₀ h' t'))
    (body : ∀ acc C h' t' (R : Result → Shared → Prop), St Z₀ h₀ C Z (fun _ => none) ((L, NsO m) :: (acc, LstO []) :: own) h' →
      (∀ h₁ t₁ Z₁ m₁ own₁ own₂, St Z₀ h₀ C Z₁ m₁ own₁ h₁ → Dl L (NsO m) own₁ own₂ → (∀ h₂, St Z₀ h₀ L Z₁ m own₂ h₂ → Q (.ref acc) (sh s₀ h₂ t₁)) → R (.ok .next) (sh s₀ h₁ t₁)) →
      codeAny (model prog w) A (.compLoop (.ListComp elt [⟨target, iter, ifs, 0⟩] scope pos) 0 (.ref it) (.ref acc) (compEnvC scope cl C env)) R (sh s₀ h' t')) :
    CompGo prog w A E env scope cl elt [⟨target, iter, ifs, 0⟩] pos none Q (.ref it) (sh s₀ h t) := by
  refine nLst S (fun acc h1 S1 => ?_) (by size_fits)
  refine compFrame S1 hcell hkind fun C h2 t2 S2 => ?_
  refine compStartN (body acc C h2 t2 _ S2 fun h3 t3 Z3 m3 own3 own4 S3 u3 k3 => ?_) fun Q' E' q => hi h2 t2 Q' E' ⟨C, _, acc, S2⟩ q
  exact ⟨m3, S3.ns, fun h4 hs4 => k3 h4 (S3.back u3 (.inr hs4) S.lb)⟩
theorem compGoU {Q : Value → Shared → Prop} {y : Str} {py : Pos} (S : St Z₀ h₀ L Z m own h) (hcell : ∀ y ∈ scope.names, y.2 ≠ .cell) (hkind : scope.kind = .function) (hy : env.kindOf y = some .local) (hke : env.scope.kind = .function) (hL : env.locals = L)
    (hi : ∀ h' t' (Q : Value → Shared → Prop) E, (∃ C m' d, St Z₀ h₀ C Z m' ((L, NsO m) :: (d, LstO []) :: own) h') → Q (.ref it) (sh s₀ h' t') → wpAny (model prog w) A (pyIter (.ref it)) Q E (sh s₀ h' t'))
    (body : ∀ acc C h' t' (R : Result → Shared → Prop), St Z₀ h₀ C Z (fun _ => none) ((L, NsO m) :: (acc, LstO []) :: own) h' →
      (∀ h₁ t₁ Z₁ m₁ own₁ own₂, St Z₀ h₀ C Z₁ m₁ own₁ h₁ → Dl L (NsO m) own₁ own₂ → (∀ h₂ t₂, St Z₀ h₀ L Z₁ (upd m y (.ref acc)) own₂ h₂ → Q .none (sh s₀ h₂ t₂)) → R (.ok .next) (sh s₀ h₁ t₁)) →
      codeAny (model prog w) A (.compLoop (.ListComp elt [⟨target, iter, ifs, 0⟩] scope pos) 0 (.ref it) (.ref acc) (compEnvC scope cl C env)) R (sh s₀ h' t')) :
    CompGo prog w A E env scope cl elt [⟨target, iter, ifs, 0⟩] pos (some (assign (.Name y py) env)) Q (.ref it) (sh s₀ h t) := by
  refine nLst S (fun acc h1 S1 => ?_) (by size_fits)
  refine compFrame S1 hcell hkind fun C h2 t2 S2 => ?_
  refine compStartN (body acc C h2 t2 _ S2 fun h3 t3 Z3 m3 own3 own4 S3 u3 k3 => ?_) fun Q' E' q => hi h2 t2 Q' E' ⟨C, _, acc, S2⟩ q
  refine asN (stL (S3.swap u3 S.lb) (fun h4 t4 S4 => ?_) hL hke hy)
  have hm : (C, NsO m3) ∈ (C, NsO m3) :: own4 := .head _
  obtain ⟨o, ho, es, ep, hr⟩ := S4.mem hm
  exact ⟨m3, ⟨o, es, ep, ho, hr⟩, fun h5 hs5 => k3 h5 t4 (S4.del .head hs5.extBut)⟩

/-- the turns of a comprehension -/
theorem cloop {R : Result → Shared → Prop} {it acc : Value} {env : Env} (J : Nat → Heap → Prop) (n : Nat) (h0 : J 0 h)
    (item : ∀ i h t E', i < n → J i h → wpAny (model prog w) A (pyNext it) (fun r s₁ => ∃ v, r = some v ∧ wpAny (model prog w) A (letOwnedTupleGo target it v) (fun _ s₁' => wpAny (model prog w) A (assign target env v) (fun _ s₂ =>
      wpAny (model prog w) A (forIn ifs true fun c r => if r = true then do let ok ← isTrue c env (eval c env); pure (ForInStep.yield ok) else pure (ForInStep.yield r)) (fun ok s₃ =>
        (ok = true → wpAny (model prog w) A (eval elt env) (fun x s₄ => wpAny (model prog w) A (call (.builtin "list.append") [acc, x]) (fun _ s₅ => ∃ h' t', s₅ = sh s₀ h' t' ∧ J (i + 1) h') E' s₄) E' s₃) ∧
        (ok = false → ∃ h' t', s₃ = sh s₀ h' t' ∧ J (i + 1) h')) E' s₂) E' s₁') E' s₁) E' (sh s₀ h t))
    (stop : ∀ h t E', J n h → wpAny (model prog w) A (pyNext it) (fun r s₁ => r = none ∧ R (.ok .next) s₁) E' (sh s₀ h t)) :
    codeAny (model prog w) A (.compLoop (.ListComp elt [⟨target, iter, ifs, 0⟩] scope pos) 0 it acc env) R (sh s₀ h t) := by
  refine codeAny_loop rfl (fun k s => ∃ i h t, s = sh s₀ h t ∧ i ≤ n ∧ k = n - i ∧ J i h) (fun k s hI => ?_) n ⟨0, h, t, rfl, Nat.zero_le _, rfl, h0⟩
  show wpAny _ A ((compTurn (.ListComp elt [⟨target, iter, ifs, 0⟩] scope pos) 0 it acc env).onRaise (fun x => do noteFrame x env; theTreesLotGoes x)) _ _ s
  refine wpAny_noted ?_
  rw [compTurn_list]
  obtain ⟨i, h, t, rfl, hi, rfl, hJ⟩ := hI
  rcases Nat.lt_or_ge i n with lt | ge
  · refine wpAny_bind (wpAny_standAt (wpAny_bind (wpAny_mono (item i h t _ lt hJ) (fun r s₁ h₁ => ?_) fun _ _ h' => h')))
    obtain ⟨v, rfl, h₁⟩ := h₁
    refine wpAny_bind (wpAny_mono h₁ (fun _ s₁' h₁' => ?_) fun _ _ h' => h')
    refine wpAny_bind (wpAny_mono h₁' (fun _ s₂ h₂ => wpAny_bind (wpAny_mono h₂ (fun ok s₃ h₃ => ?_) fun _ _ h' => h')) fun _ _ h' => h')
    cases ok with
    | false =>
      obtain ⟨h', t', rfl, hJ'⟩ := h₃.2 rfl
      exact wpAny_pure ⟨rfl, n - (i + 1), by omega, i + 1, h', t', rfl, lt, rfl, hJ'⟩
    | true =>
      refine wpAny_bind (wpAny_bind (wpAny_mono (h₃.1 rfl) (fun x s₄ h₄ => wpAny_bind (wpAny_mono h₄ (fun _ s₅ h₅ => ?_) fun _ _ h' => h')) fun _ _ h' => h'))
      obtain ⟨h', t', rfl, hJ'⟩ := h₅
      exact wpAny_pure (wpAny_pure ⟨rfl, n - (i + 1), by omega, i + 1, h', t', rfl, lt, rfl, hJ'⟩)
  · obtain rfl : i = n := Nat.le_antisymm hi ge
    refine wpAny_bind (wpAny_standAt (wpAny_bind (wpAny_mono (stop h t _ hJ) (fun r s₁ h₁ => ?_) fun _ _ h' => h')))
    obtain ⟨rfl, h₁⟩ := h₁
    exact wpAny_pure h₁
theorem ct0 {Q : Bool → Shared → Prop} {s : Shared} {env : Env} (q : Q true s) : wpAny (model prog w) A (forIn ([] : List Expr) true fun c r => if r = true then do let ok ← isTrue c env (eval c env); pure (ForInStep.yield ok) else pure (ForInStep.yield r)) Q E s := wpAny_tests_nil q
theorem ct1 {Q : Bool → Shared → Prop} {s : Shared} {env : Env} {c : Expr} (q : wpAny (model prog w) A (isTrue c env (eval c env)) Q E s) : wpAny (model prog w) A (forIn [c] true fun c r => if r = true then do let ok ← isTrue c env (eval c env); pure (ForInStep.yield ok) else pure (ForInStep.yield r)) Q E s := wpAny_tests_one q
theorem lgN {x : Str} {px : Pos} {it v : Value} {Q : Unit → Shared → Prop} {s : Shared} (q : Q () s) : wpAny (model prog w) A (letOwnedTupleGo (.Name x px) it v) Q E s := wpAny_pure q
theorem lgL {elts : List Expr} {x1 : Nat} {pos : Pos} {T : Addr} {i : Nat} {Q : Unit → Shared → Prop} (S : St Z₀ h₀ L Z m own h) (i : (it, LitO l i) ∈ own) (q : Q () (sh s₀ h t)) : wpAny (model prog w) A (letOwnedTupleGo (.Tuple elts x1 pos) (.ref it) (.ref T)) Q E (sh s₀ h t) := by
  obtain ⟨o, ho, hp⟩ := S.mem i
  exact wpAny_letOwnedTupleGo_listiter ⟨o, ho, hp⟩ q
theorem itSelf {i : Nat} {Q : Value → Shared → Prop} (S : St Z₀ h₀ L Z m own h) (i : (it, LitO l i) ∈ own) (q : Q (.ref it) (sh s₀ h t)) : wpAny (model prog w) A (pyIter (.ref it)) Q E (sh s₀ h t) := by
  obtain ⟨o, ho, hp⟩ := S.mem i
  exact wpAny_pyIter_listiter ⟨o, ho, hp⟩ q
/-- a tuple is taken apart -/
theorem asT {elts : List Expr} {x1 : Nat} {pos : Pos} {a : Addr} {vs : List Value} {Q : Unit → Shared → Prop} (S : St Z₀ h₀ L Z m own h) (hh : A.handled = none) (i : IsTup h a vs.toArray) (hn : elts.length = vs.length) (he : (assignEach elts env).length = elts.length) (hf : (assignEach elts env).findIdx? (·.1) = none)
    (q : ∀ h', St Z₀ h₀ L Z m own h' → wpAny (model prog w) A (assignInOrder ((assignEach elts env).map (·.2)) vs) Q E (sh s₀ h' t)) : wpAny (model prog w) A (assign (.Tuple elts x1 pos) env (.ref a)) Q E (sh s₀ h t) := by
  have i' : h.IsTuple a vs.toArray := by obtain ⟨o, e, c, n, dd⟩ := i; exact ⟨o, e, c, n, dd⟩
  refine wpAny_assign_Tuple hh i' (by rw [he, hn]; simp) hf fun h' hk => ?_
  have S' : St Z₀ h₀ L Z m own h' := S.keep fun b o e => hk b o (Nat.ne_of_lt (Heap.lt_size e)) e
  have := q h' S'
  simpa using this
theorem aoN {Q : Unit → Shared → Prop} {s : Shared} (q : Q () s) : wpAny (model prog w) A (assignInOrder [] []) Q E s := wpAny_assignInOrder_none q
theorem aoC {f : Value → Sem Unit} {ts : List (Value → Sem Unit)} {x : Value} {xs : List Value} {Q : Unit → Shared → Prop} {s : Shared} (q : wpAny (model prog w) A (f x) (fun _ s₁ => wpAny (model prog w) A (assignInOrder ts xs) Q E s₁) E s) : wpAny (model prog w) A (assignInOrder (f :: ts) (x :: xs)) Q E s := wpAny_assignInOrder_more q
end
section
variable {prog : Program} {w : World} {A : Around} {Q : Value → Shared → Prop} {E : Value → Shared → Prop} {s₀ : Shared} {h : Heap} {t : Nat} {Z : Heap}
noncomputable def ownCells (cs : List (Str × Addr)) (cm : Str → Option Value) : Own := cs.map fun x => (x.2, CellO (cm x.1))
/-- a def of the top with cells is entered -/
theorem enterC {name qual : Str} {params : Arguments} {body : List Stmt} {scope : Scope} {dV kV doc pm cdv ct oc : Value} {an od : Option Addr} {osl : Array (Option Value)} {f : Addr} {pos : List Value} {binds : List (Str × Value)}
    {m cm : Str → Option Value} {own : Own}
    (G : Gnd w Z) (hz : Kp Z h) (ho : (heapK w.params).lookup f = some ⟨oc, od, .func (fnOf name qual params body scope dV kV doc pm an cdv ct), osl⟩) (hcd : codeIn (heapK w.params) cdv qual = true) (hroom : A.depth < recursionLimit)
    (hbind : bindArgs (fnOf name qual params body scope dV kV doc pm an cdv ct) ⟨pos, []⟩ = pure binds)
    (hkind : (binds.all fun y => scope.names.lookup y.1 == some .local || scope.names.lookup y.1 == some .cell) = true) (hnd : ((cellsFrom 0 scope.names []).map (·.1)).Nodup)
    (hm : bindL (fun x => scope.names.lookup x) binds (fun _ => none) = m) (hcm : bindC (fun x => scope.names.lookup x) binds (fun _ => none) = cm) (how : ownCells (cellsFrom (h.objs.size + 1) scope.names []) cm = own)
    (hbody : ∀ E' h' t', St Z h h.objs.size Z m own h' →
      wpAny (model prog w) (A.deeper (envX qual scope h.objs.size f cdv (cellsFrom (h.objs.size + 1) scope.names []))) (execs body (envX qual scope h.objs.size f cdv (cellsFrom (h.objs.size + 1) scope.names []))) (Lv Q) E' (sh s₀ h' t'))
    (hco : scope.isCoroutine = false) (hgen : scope.isGenerator = false) (hk : scope.kind = .function) :
    wpAny (model prog w) A (call (.ref f) pos []) Q E (sh s₀ h t) := by
  subst hm hcm how
  have X : (heapK w.params).In h := G.X.keeps hz
  obtain ⟨p, l, mg, mb, T⟩ := G.T
  refine wpAny_call (codeAny_call_cells (fd := fnOf name qual params body scope dV kV doc pm an cdv ct) (body := body) (binds := binds) hroom (X _ _ ho) rfl (T.nolimit.keeps hz) (codeRec_of X hcd) rfl hbind rfl (kindsX hkind _) (fun s₁ x => ?_) hco hgen hk)
  obtain ⟨h₁, tk, rfl, hk₁⟩ := x.done
  have hz' : Z.get? h.objs.size = none := by
    cases e : Z.get? h.objs.size with
    | none => rfl
    | some o => exact absurd (Heap.lt_size (hz _ _ e)) (Nat.lt_irrefl _)
  have fresh : ∀ c, h.objs.size < c → Z.get? c = none ∧ h.get? c = none := fun c hc => by
    have e2 : h.get? c = none := by
      cases e : h.get? c with
      | none => rfl
      | some o => exact absurd (Heap.lt_size e) (Nat.not_lt.mpr (Nat.le_of_lt hc))
    refine ⟨?_, e2⟩
    cases e : Z.get? c with
    | none => rfl
    | some o => rw [hz _ _ e] at e2; cases e2
  refine hbody _ h₁ _ ⟨⟨hk₁, fun _ _ e => e, fun b o e => hk₁ b o (hz b o e), fun _ _ e => .inl e⟩, x.toInCall.ns, hz', Nat.le_refl _, fun p hp => ?_, ?_⟩
  · obtain ⟨⟨n, c⟩, hc, rfl⟩ := List.mem_map.mp hp
    have hlt : h.objs.size < c := x.above n c hc
    obtain ⟨o, e, d⟩ := x.cell n c (lookup_of_mem_nodup (cellsFrom_names scope.names 0 (h.objs.size + 1) [] [] rfl ▸ hnd) hc)
    exact ⟨⟨o, e, d⟩, (fresh c hlt).1, (fresh c hlt).2, Nat.ne_of_gt hlt⟩
  · unfold ownCells
    rw [List.map_map]
    exact (List.pairwise_map.mpr x.apart : List.Nodup (List.map (fun x : Str × Addr => x.2) _))
end
section
variable {prog : Program} {w : World} {A : Around} {E : Value → Shared → Prop} {s₀ : Shared} {h : Heap} {t : Nat} {Z Z₀ h₀ : Heap} {L l it d : Addr} {m : Str → Option Value} {own own' : Own} {vs ws : List Value} {i : Nat} {v x : Value} {env : Env}
theorem IsTup.tuple {h : Heap} {a : Addr} {items : Array Value} (i : IsTup h a items) : h.IsTuple a items := let ⟨o, e, c, n, d⟩ := i; ⟨o, e, c, n, d⟩
theorem itT {Q : Value → Shared → Prop} (S : St Z₀ h₀ L Z m own h) (i : IsTup h l vs.toArray) (q : ∀ it h', St Z₀ h₀ L Z m ((it, TitO l 0) :: own) h' → Q (.ref it) (sh s₀ h' t)) : wpAny (model prog w) A (pyIter (.ref l)) Q E (sh s₀ h t) :=
  wpAny_pyIter_tuple (IsTup.tuple i) (q _ _ (S.push rfl ⟨rfl, rfl⟩))
theorem nxT {Q : Option Value → Shared → Prop} (S : St Z₀ h₀ L Z m own h) (u : Rp it (TitO l i) (TitO l (i + 1)) own own') (hl : IsTup h l vs.toArray) (hx : vs[i]? = some v) (q : ∀ h', St Z₀ h₀ L Z m own' h' → Q (some v) (sh s₀ h' t)) :
    wpAny (model prog w) A (pyNext (.ref it)) Q E (sh s₀ h t) := by
  obtain ⟨o, ho, hp⟩ := S.mem u.mem
  refine wpAny_pyNext_tuple_item ⟨o, ho, hp⟩ (IsTup.tuple hl) (by simpa using hx) fun h' hi hs => ?_
  obtain ⟨o', ho', hp'⟩ := hi
  exact q h' (S.upd u hs.extBut ho' hp')
theorem nxTe {Q : Option Value → Shared → Prop} (S : St Z₀ h₀ L Z m own h) (hh : A.handled = none) (u : Dl it (TitO l i) own own') (hl : IsTup h l vs.toArray) (hx : vs[i]? = none) (q : ∀ h', St Z₀ h₀ L Z m own' h' → Q none (sh s₀ h' t)) :
    wpAny (model prog w) A (pyNext (.ref it)) Q E (sh s₀ h t) := by
  obtain ⟨o, ho, hp⟩ := S.mem u.mem
  exact wpAny_pyNext_tuple_end hh ⟨o, ho, hp⟩ (IsTup.tuple hl) (by simpa using hx) fun h' hk => q h' (S.del u hk)
theorem oAddL {Q : Value → Shared → Prop} {a b : Addr} (S : St Z₀ h₀ L Z m own h) (ha : h.IsList a vs.toArray) (hb : h.IsList b ws.toArray) (hsz : vs.length + ws.length ≤ sizeLine) (q : ∀ x h', St Z₀ h₀ L Z m ((x, LstO (vs ++ ws)) :: own) h' → Q (.ref x) (sh s₀ h' t)) :
    wpAny (model prog w) A (binaryOp .Add (.ref a) (.ref b)) Q E (sh s₀ h t) := by
  obtain ⟨⟨cls, dd, data, sl⟩, ho, hc, n, hd⟩ := id ha
  obtain ⟨⟨cls2, dd2, data2, sl2⟩, ho2, hc2, n2, hd2⟩ := id hb
  simp only at hc hd hc2 hd2
  subst hc hd hc2 hd2
  refine concat_meets ⟨_, ho, rfl⟩ ⟨_, ho2, rfl⟩ noFill_list_add seq_list_add PySem.F.slot_list_add PySem.F.entry_list_add (PySem.F.args_list_add_2 _ _) (list_addW a b vs.toArray ws.toArray n n2 dd dd2 sl sl2 (by simpa using hsz)) ⟨ho, ho2, ?_⟩
  have e : vs.toArray ++ ws.toArray = (vs ++ ws).toArray := by simp
  rw [e]
  exact q _ _ (S.push rfl ⟨0, rfl⟩)
end
noncomputable def bagOf (f : Int) (dr : List (Int × PyData × Str)) : List (PyData × Str) := (dr.filter fun p => Int.fmod (Int.fdiv p.1 f) 2 == 1).map (·.2)
noncomputable def bagsAll (dr : List (Int × PyData × Str)) : List (List (PyData × Str)) := [] :: [1, 2, 4].map (bagOf · dr) ++ [[]]
noncomputable def bagD (b : List (PyData × Str)) : PyData := .list (b.map pD)
section
variable {prog : Program} {w : World} {A : Around} {E : Value → Shared → Prop} {s₀ : Shared} {h : Heap} {t : Nat} {Z : Heap}
theorem bags_spec {Q : Value → Shared → Prop} {dv : Value} {dr : List (Int × PyData × Str)} (G : Gnd w Z) (hz : Kp Z h) (R : Rm A 30 80) (hd : RD Z dv (.list (dr.map dD))) (hn : dr.length ≤ 1000)
    (q : ∀ h' t' Z' v, ZX Z h Z' h' → RD Z' v (.list ((bagsAll dr).map bagD)) → Q v (sh s₀ h' t')) :
    wpAny (model prog w) A (call (.ref 371) [dv] []) Q E (sh s₀ h t) := by
  obtain ⟨l, vs, rfl, il0, rs0⟩ := hd.lst_inv
  refine' enterC (binds := [(Str.ofString "drawn", .ref l)]) (m := upd (fun _ => none) (Str.ofString "drawn") (.ref l)) (own := [(h.objs.size + 1, CellO none)]) G hz ?ho ?hcd ?hroom ?hbind ?hkind ?hnd ?hm rfl ?how ?body ?c2 ?c3 ?c4
  (case ho => k_is)
  (case hcd => k_is)
  (case hroom => (have := R.dp; show _ < 1000; omega))
  (case hbind => exact rfl)
  (case hkind => exact rfl)
  (case hnd => decide +kernel)
  (case hm => exact rfl)
  (case how => exact rfl)
  (case c2 => exact rfl)
  (case c3 => exact rfl)
  (case c4 => exact rfl)
  intro E' h t S
  repeat' ktr_member
  refine nLstZ S ?_; intro x0 h Z1 k1 i1 S
  repeat' ktr_member
  refine nLst S ?_; intro bg h S
  repeat' ktr_member
  refine nTupZ S ?_; intro tp h Z2 k2 i2 S
  obtain ⟨vs2, i2, r2⟩ : ∃ vs2, IsTup Z2 tp vs2.toArray ∧ RDs Z2 vs2 ([(1 : Int), 2, 4].map PyData.int) := ⟨_, i2, .cons (.int _ _) (.cons (.int _ _) (.cons (.int _ _) .nil))⟩
  repeat' ktr_member
  refine itT S (i2.keeps S.zi) ?_; intro it h S
  intro E2
  refine floop (fun i h => ∃ Z3 m ys cv, Kp Z2 Z3 ∧ St _ _ _ Z3 m [(it, TitO tp i), (bg, LstO ys), (_, CellO cv)] h ∧ m (Str.ofString "drawn") = some (.ref l) ∧ m (Str.ofString "bags") = some (.ref bg) ∧
    RDs Z3 ys (([] :: ([1, 2, 4].take i).map (bagOf · dr)).map bagD)) 3 (ix4 (a := Z2) (in5 (fun _ _ e => e) S rfl rfl (.cons (.lst (IsL.keeps i1 k2) .nil) .nil))) ?item ?stop
  case item =>
    rintro i h t E3 hlt
    refine ex4 ?_; intro Z3 m ys cv
    refine an5 ?_; intro k3 S hm1 hm2 rd
    obtain ⟨v0, hv, rv0⟩ := r2.at (f := PyData.int) (xs := [(1 : Int), 2, 4]) hlt
    obtain ⟨tf, rfl⟩ := rv0.int_inv
    have hf := take_snoc (xs := [(1 : Int), 2, 4]) hlt
    obtain ⟨hf0, hf1⟩ : [(1 : Int), 2, 4][i] ≠ 0 ∧ ([(1 : Int), 2, 4][i]).natAbs < 1073741824 := by
      obtain rfl | rfl | rfl : i = 0 ∨ i = 1 ∨ i = 2 := by have : i < 3 := hlt; omega
      all_goals exact ⟨by simp, by simp⟩
    generalize [(1 : Int), 2, 4][i] = f at hf hf0 hf1 hv
    refine nxT S (by (repeat (first | exact Rp.head | apply Rp.tail))) (i2.keeps fun b o e => S.zi b o (k3 b o e)) hv ?_; intro h S
    refine ⟨_, rfl, ?_⟩
    repeat' ktr_member
    have il := IsL.keeps il0 fun b o e => k3 b o (k2 b o (k1 b o e))
    have rs := rs0.keeps fun b o e => k3 b o (k2 b o (k1 b o e))
    refine itLZ S il ?_; intro it2 h S
    refine compGo S (by decide) rfl (fun h' t' Q' E' hh q' => ?_) ?_
    · obtain ⟨C, m', d, S'⟩ := hh
      exact itSelf S' (by (repeat (first | exact List.Mem.head _ | apply List.Mem.tail))) q'
    intro acc C h t R9 S k9
    refine cloop (fun j h => ∃ Z4 m4 zs, Kp Z3 Z4 ∧ St _ _ _ Z4 m4 [(_, NsO m), (acc, LstO zs), (it2, LitO l j), (it, TitO tp (i + 1)), (bg, LstO ys), (_, CellO (some (.int f tf)))] h ∧
      RDs Z4 zs ((bagOf f (dr.take j)).map pD)) dr.length (ix3 (a := Z3) (in3 (fun _ _ e => e) S .nil)) ?item2 ?stop2
    case item2 =>
      rintro j h t E4 hlt2
      refine ex3 ?_; intro Z4 m4 zs
      refine an3 ?_; intro k4 S rz
      obtain ⟨v, hv2, rv⟩ := rs.at hlt2
      refine nxL S (by (repeat (first | exact Rp.head | apply Rp.tail))) (IsL.keeps il fun b o e => S.zi b o (k4 b o e)) hv2 ?_; intro h S
      refine ⟨_, rfl, ?_⟩
      obtain ⟨T, x, y, z, rfl, iT, rx, ry, rz'⟩ := RD.tup3 (rv.keeps k4)
      obtain ⟨ux, rfl⟩ := rx.int_inv
      obtain ⟨uz, rfl⟩ := rz'.str_inv
      repeat' ktr_member
      refine asT S R.hd (iT.keeps S.zi) rfl rfl rfl ?_; intro h S
      repeat' ktr_member
      refine oFdiv hf0 (PyProof.noPylong_small hf1) ?_; intro tk t
      repeat' ktr_member
      have e := take_snoc hlt2
      have e2 : (bagOf f (dr.take (j + 1))) = bagOf f (dr.take j) ++ (if Int.fmod (Int.fdiv dr[j].1 f) 2 == 1 then [dr[j].2] else []) := by
        rw [e]; unfold bagOf; rw [List.filter_append, List.map_append]
        congr 1
        by_cases hb : (Int.fmod (Int.fdiv dr[j].1 f) 2 == 1) = true
        · simp [hb]
        · simp [hb]
      refine ⟨fun hb => ?_, fun hb => ?_⟩
      · repeat' ktr_member
        refine nTupZ S ?_; intro x6 h Z6 k6 i6 S
        have hy := rz.len'
        have hle : (bagOf f (dr.take j)).length ≤ j := by unfold bagOf; rw [List.length_map]; exact Nat.le_trans (List.length_filter_le _ _) (by rw [List.length_take]; omega)
        refine apL S (by (repeat (first | exact Rp.head | apply Rp.tail))) (by rw [sizeLine_eq]; omega) ?_; intro h S
        refine ⟨_, _, rfl, ix3 (a := Z6) (in3 (fun b o q => k6 b o (k4 b o q)) S ?_)⟩
        rw [e2, if_pos hb, List.map_append]
        exact (rz.keeps k6).append (.cons (.tup i6 (.cons (ry.keeps k6) (.cons (.str _ _) .nil))) .nil)
      · refine ⟨_, _, rfl, ix3 (a := Z4) (in3 k4 S ?_)⟩
        rw [e2, if_neg (by rw [hb]; decide), List.append_nil]
        exact rz
    case stop2 =>
      rintro h t E4
      refine ex3 ?_; intro Z4 m4 zs
      refine an3 ?_; intro k4 S rz
      refine nxLe S R.hd (by (repeat (first | exact Dl.head | apply Dl.tail))) (IsL.keeps il fun b o e => S.zi b o (k4 b o e)) (by rw [List.getElem?_eq_none]; rw [rs.len']; exact Nat.le_refl _) ?_; intro h S
      refine ⟨rfl, k9 _ _ _ _ _ _ S .head ?_⟩
      intro h S
      rw [List.take_of_length_le (Nat.le_refl _)] at rz
      obtain ⟨Z5, k5, i5, S⟩ := S.frzL (by (repeat (first | exact Dl.head | apply Dl.tail)))
      repeat' ktr_member
      have hy := rd.len'
      refine apL S (by (repeat (first | exact Rp.head | apply Rp.tail))) (by rw [hy, sizeLine_eq]; simp; omega) ?_; intro h S
      repeat' ktr_member
      refine ⟨.inl rfl, _, _, rfl, ix4 (a := Z5) (in5 (fun b o q => k5 b o (k4 b o (k3 b o q))) S hm1 hm2 ?_)⟩
      rw [hf, List.map_append, ← List.cons_append, List.map_append]
      exact (rd.keeps fun b o q => k5 b o (k4 b o q)).append (.cons (.lst i5 (rz.keeps k5)) .nil)
  case stop =>
    rintro h t E3
    refine ex4 ?_; intro Z3 m ys cv
    refine an5 ?_; intro k3 S hm1 hm2 rd
    refine nxTe S R.hd (by (repeat (first | exact Dl.head | apply Dl.tail))) (i2.keeps fun b o e => S.zi b o (k3 b o e)) (by rw [List.getElem?_eq_none]; rw [r2.len']; exact Nat.le_refl _) ?_; intro h S
    refine ⟨rfl, ?_⟩
    repeat' ktr_member
    refine nLstZ S ?_; intro x7 h Z7 k7 i7 S
    repeat' ktr_member
    refine nLst S ?_; intro x8 h S
    repeat' ktr_member
    have hy := rd.len'
    refine oAddL S (S.lst (by (repeat (first | exact List.Mem.head _ | apply List.Mem.tail)))) (S.lst (by (repeat (first | exact List.Mem.head _ | apply List.Mem.tail)))) (by rw [hy, sizeLine_eq]; simp) ?_; intro x9 h S
    repeat' ktr_member
    obtain ⟨Z5, k5, i5, S⟩ := S.frzL .head
    refine q _ _ _ _ S.zx (.lst i5 ?_)
    have e : (bagsAll dr).map bagD = (([] :: ([1, 2, 4].take 3).map (bagOf · dr)).map bagD) ++ [bagD []] := rfl
    rw [e]
    exact (rd.keeps fun b o q => k5 b o (k7 b o q)).append (.cons (.lst (IsL.keeps i7 k5) .nil) .nil)
end
/-- exactly a list, as its making left it -/
noncomputable def ZL (Z : Heap) (l : Addr) (vs : List Value) : Prop := ∃ n, Z.get? l = some (lstObj vs n)
theorem ZL.is {Z : Heap} {l : Addr} {vs : List Value} (z : ZL Z l vs) : Z.IsList l vs.toArray := let ⟨n, e⟩ := z; ⟨_, e, rfl, n, rfl⟩
theorem ZL.keeps {Z Z' : Heap} {l : Addr} {vs : List Value} (z : ZL Z l vs) (k : Kp Z Z') : ZL Z' l vs := let ⟨n, e⟩ := z; ⟨n, k _ _ e⟩
theorem RDs.strs {Z : Heap} : ∀ {ss : List Str} {vs : List Value}, RDs Z vs (ss.map PyData.str) → StrsAre vs ss
  | [], _, r => by rw [r.nil_inv]; exact .nil
  | s :: ss, vs, r => by
    obtain ⟨v, vs', rfl, hv, hr⟩ := r.cons_inv
    obtain ⟨t, rfl⟩ := hv.str_inv
    exact .cons s t hr.strs
theorem countIn_strs (k : Str) : ∀ ss : List Str, PySem.Spec.countIn (.str k) (ss.map PyData.str) = (ss.count k : Nat)
  | [] => rfl
  | s :: ss => by
    have ih := countIn_strs k ss
    simp only [List.map_cons, PySem.Spec.countIn, ih, List.count_cons, PySem.Spec.same]
    by_cases h : s = k
    · simp [h]; omega
    · simp [h]
noncomputable def istr (n : Int) : Str := Str.ofString (toString n)
section
variable {prog : Program} {w : World} {A : Around} {E : Value → Shared → Prop} {s₀ : Shared} {h : Heap} {t : Nat} {Z Z₀ h₀ : Heap} {L l it d : Addr} {m : Str → Option Value} {own own' : Own} {vs ws : List Value} {i : Nat} {v x : Value} {env : Env}
theorem St.frzE (S : St Z₀ h₀ L Z m own h) (u : Dl l (LstO vs) own own') : ∃ Z', Kp Z Z' ∧ ZL Z' l vs ∧ St Z₀ h₀ L Z' m own' h := let ⟨Z', o, k, e, ⟨n, p⟩, S'⟩ := S.frz u; ⟨Z', k, ⟨n, p ▸ e⟩, S'⟩
theorem gmList {name : Str} {id : String} {pl : Sem Bool} {Q : Value × List Value → Shared → Prop} (slot : Slot "list" name id) (hty : typeOf (.builtin id) = pure (.type "method_descriptor")) (S : St Z₀ h₀ L Z m own h) (z : ZL Z l vs)
    (q : Q (.builtin id, [.ref l]) (sh s₀ h t)) : wpAny (model prog w) A (getMethod (.ref l) name pl) Q E (sh s₀ h t) := by
  obtain ⟨n, e⟩ := z.keeps S.zi
  exact getMethod_list_of slot hty (vs.toArray |> fun _ => (⟨_, e, rfl, n, rfl⟩ : h.IsList l vs.toArray)) ⟨_, e, rfl⟩ q
theorem gmCount {pl : Sem Bool} {Q : Value × List Value → Shared → Prop} (S : St Z₀ h₀ L Z m own h) (z : ZL Z l vs) (q : Q (.builtin "list.count", [.ref l]) (sh s₀ h t)) : wpAny (model prog w) A (getMethod (.ref l) "count" pl) Q E (sh s₀ h t) :=
  gmList PySem.F.slot_list_count PySem.F.type_list_count S z q
theorem cCount {Q : Value → Shared → Prop} {ss : List Str} {k : Str} {u : Tok} (S : St Z₀ h₀ L Z m own h) (z : ZL Z l vs) (r : RDs Z vs (ss.map PyData.str)) (q : ∀ tk t', Q (.int (ss.count k : Nat) tk) (sh s₀ h t')) : wpAny (model prog w) A (call (.builtin "list.count") [.ref l, .str k u]) Q E (sh s₀ h t) :=
  count_list_strs (IsL.keeps z.is S.zi) r.strs (by rw [countIn_strs]; exact q _ _)
theorem cStrI {Q : Value → Shared → Prop} {a : Int} {u : Tok} (ha : a.natAbs < 1000000) (q : ∀ tk t', Q (.str (istr a) tk) (sh s₀ h t')) : wpAny (model prog w) A (call (.type "str") [.int a u]) Q E (sh s₀ h t) :=
  str_of_int_fit (N := 4611686018427387904) (by split <;> omega) (Int.le_refl _) fun _ => q _ _
theorem istr_len {a : Int} (ha : a.natAbs < 1000000) : (istr a).length ≤ 1000002 := by
  have := len_str_of_int a
  unfold istr; omega
theorem oNeI {a b : Int} {u v : Tok} {Q : Value → Shared → Prop} (q : Q (.bool (a != b)) (sh s₀ h t)) : wpAny (model prog w) A (compareOp .NotEq (.int a u) (.int b v)) Q E (sh s₀ h t) := by first | exact PySem.P.ne_int q | exact PyProof.Rows.ne_int q | exact ne_int q
theorem xBool {M : Model} {op : BoolOp} {values : List Expr} {pos : Pos} {whole : Sem Value} {Q : Bool → Shared → Prop} {s : Shared} (h : wpAny M A (allTrue op values env) Q E s) : wpAny M A (PySem.isTrue (.BoolOp op values pos) env whole) Q E s := wpAny_isTrue_BoolOp h
theorem andN {M : Model} {Q : Bool → Shared → Prop} {s : Shared} (q : Q true s) : wpAny M A (allTrue .And [] env) Q E s := wpAny_allTrue_And_nil q
theorem andC {M : Model} {x : Expr} {rest : List Expr} {Q : Bool → Shared → Prop} {s : Shared} (q : wpAny M A (PySem.isTrue x env (eval x env)) (fun b s₁ => (b = true → wpAny M A (allTrue .And rest env) Q E s₁) ∧ (b = false → Q false s₁)) E s) : wpAny M A (allTrue .And (x :: rest) env) Q E s :=
  wpAny_allTrue_And_cons (wpAny_mono q (fun b _ hb => by cases b <;> simp_all) fun _ _ x => x)
theorem orN {M : Model} {Q : Bool → Shared → Prop} {s : Shared} (q : Q false s) : wpAny M A (allTrue .Or [] env) Q E s := wpAny_allTrue_Or_nil q
theorem orC {M : Model} {x : Expr} {rest : List Expr} {Q : Bool → Shared → Prop} {s : Shared} (q : wpAny M A (PySem.isTrue x env (eval x env)) (fun b s₁ => (b = true → Q true s₁) ∧ (b = false → wpAny M A (allTrue .Or rest env) Q E s₁)) E s) : wpAny M A (allTrue .Or (x :: rest) env) Q E s :=
  wpAny_allTrue_Or_cons (wpAny_mono q (fun b _ hb => by cases b <;> simp_all) fun _ _ x => x)
/-- membership in a list, owned or frozen -/
theorem oNotIn {Q : Value → Shared → Prop} {ds : List PyData} {d : PyData} (S : St Z₀ h₀ L Z m own h) (il : h.IsList l vs.toArray) (r : RDs Z vs ds) (rx : RD Z x d) (hxs : PyData.canLayAll0 ds = true) (hd : d.canLay0 = true) (hu : A.units + 1 + d.depth < 9900)
    (q : Q (.bool (!ds.any fun y => PyData.eqv y d)) (sh s₀ h t)) : wpAny (model prog w) A (compareOp .NotIn x (.ref l)) Q E (sh s₀ h t) := by
  obtain ⟨o, ho, hc, n, hd'⟩ := il
  obtain ⟨as, r'⟩ := r.keeps S.zi
  obtain ⟨bs, rx'⟩ := rx.keeps S.zi
  have := Nat.min_le_right (PyData.depthAll ds) d.depth
  exact SeqAt.notIn_list_reads (reads_list_at ho hc hd' (by simpa using r')) rx' hxs hd (by show A.units + 1 + _ < 9900; omega) q
theorem eqv_str (a b : Str) : PyData.eqv (.str a) (.str b) = decide (a = b) := by simp only [PyData.eqv]; by_cases e : a = b <;> simp [e]
end
section
variable {prog : Program} {w : World} {A : Around} {E : Value → Shared → Prop} {s₀ : Shared} {h : Heap} {t : Nat} {Z Z₀ h₀ : Heap} {L C l it acc : Addr} {m m₀ : Str → Option Value} {rest : Own} {vs : List Value} {env : Env}
  {iter : Expr} {scope : Scope} {pos : Pos} {α : Type} {xs : List α}

/-- [b for a, b in l] -/
theorem loopPair {R : Result → Shared → Prop} {a b c : Str} {pa pb pc pt : Pos} {x1 : Nat} {f g : α → PyData} {sel : Bool} (hh : A.handled = none) (hC : env.locals = C) (hk : env.scope.kind = .function)
    (ha : env.kindOf a = some .local) (hb : env.kindOf b = some .local) (hc : env.kindOf c = some .local) (hd : (c == ("__debug__" : Str)) = false)
    (hv : ∀ (m : Str → Option Value) x y, upd (upd m a x) b y c = some (cond sel x y)) (S : St Z₀ h₀ C Z m₀ ((L, NsO m) :: (acc, LstO []) :: (it, LitO l 0) :: rest) h) (il : Z.IsList l vs.toArray) (rs : RDs Z vs (xs.map fun x => .tuple [f x, g x])) (hn : xs.length ≤ 1000000)
    (k : ∀ h t m' zs, St Z₀ h₀ C Z m' ((L, NsO m) :: (acc, LstO zs) :: rest) h → RDs Z zs (xs.map (cond sel f g)) → R (.ok .next) (sh s₀ h t)) :
    codeAny (model prog w) A (.compLoop (.ListComp (.Name c pc) [⟨.Tuple [.Name a pa, .Name b pb] x1 pt, iter, [], 0⟩] scope pos) 0 (.ref it) (.ref acc) env) R (sh s₀ h t) := by
  refine cloop (fun j h => ∃ m' zs, St Z₀ h₀ C Z m' ((L, NsO m) :: (acc, LstO zs) :: (it, LitO l j) :: rest) h ∧ RDs Z zs ((xs.take j).map (cond sel f g))) xs.length ⟨_, _, S, .nil⟩ ?item ?stop
  case item =>
    rintro j h t E4 hlt ⟨m', zs, S, rz⟩
    obtain ⟨v, hv2, rv⟩ := rs.at hlt
    refine nxL S (.tail (.tail .head)) (IsL.keeps il S.zi) hv2 fun h S => ⟨_, rfl, ?_⟩
    obtain ⟨T, x, y, rfl, iT, rx, ry⟩ := RD.tup2 rv
    refine lgL S (.tail _ (.tail _ (.head _))) (asT S hh (iT.keeps S.zi) rfl rfl rfl fun h S => ?_)
    refine aoC (asN (stL S (fun h t S => ?_) hC hk ha))
    refine aoC (asN (stL S (fun h t S => ?_) hC hk hb))
    refine aoN (ct0 ⟨fun _ => ?_, fun e => (nomatch e)⟩)
    refine nmL S (hv m' x y) ?_ hC hk hc hd
    have hz := rz.len'
    rw [List.length_take] at hz
    refine apL S (.tail .head) (by rw [sizeLine_eq]; omega) fun h S => ⟨_, _, rfl, _, _, S, ?_⟩
    rw [take_snoc hlt, List.map_append]
    exact rz.append (.cons (by cases sel <;> assumption) .nil)
  case stop =>
    rintro h t E4 ⟨m', zs, S, rz⟩
    refine nxLe S hh (.tail (.tail .head)) (IsL.keeps il S.zi) (by rw [List.getElem?_eq_none]; rw [rs.len']; exact Nat.le_refl _) fun h S => ⟨rfl, ?_⟩
    rw [List.take_of_length_le (Nat.le_refl _)] at rz
    exact k h t m' zs S rz
/-- [c for a, b, c in l] -/
theorem loopTriple {R : Result → Shared → Prop} {a b c : Str} {pa pb pc pd pt : Pos} {x1 : Nat} {f g k' : α → PyData} (hh : A.handled = none) (hC : env.locals = C) (hk : env.scope.kind = .function)
    (ha : env.kindOf a = some .local) (hb : env.kindOf b = some .local) (hc : env.kindOf c = some .local) (hd : (c == ("__debug__" : Str)) = false)
    (S : St Z₀ h₀ C Z m₀ ((L, NsO m) :: (acc, LstO []) :: (it, LitO l 0) :: rest) h) (il : Z.IsList l vs.toArray) (rs : RDs Z vs (xs.map fun x => .tuple [f x, g x, k' x])) (hn : xs.length ≤ 1000000)
    (k : ∀ h t m' zs, St Z₀ h₀ C Z m' ((L, NsO m) :: (acc, LstO zs) :: rest) h → RDs Z zs (xs.map k') → R (.ok .next) (sh s₀ h t)) :
    codeAny (model prog w) A (.compLoop (.ListComp (.Name c pc) [⟨.Tuple [.Name a pa, .Name b pb, .Name c pd] x1 pt, iter, [], 0⟩] scope pos) 0 (.ref it) (.ref acc) env) R (sh s₀ h t) := by
  refine cloop (fun j h => ∃ m' zs, St Z₀ h₀ C Z m' ((L, NsO m) :: (acc, LstO zs) :: (it, LitO l j) :: rest) h ∧ RDs Z zs ((xs.take j).map k')) xs.length ⟨_, _, S, .nil⟩ ?item ?stop
  case item =>
    rintro j h t E4 hlt ⟨m', zs, S, rz⟩
    obtain ⟨v, hv2, rv⟩ := rs.at hlt
    refine nxL S (.tail (.tail .head)) (IsL.keeps il S.zi) hv2 fun h S => ⟨_, rfl, ?_⟩
    obtain ⟨T, x, y, z, rfl, iT, rx, ry, rw⟩ := RD.tup3 rv
    refine lgL S (.tail _ (.tail _ (.head _))) (asT S hh (iT.keeps S.zi) rfl rfl rfl fun h S => ?_)
    refine aoC (asN (stL S (fun h t S => ?_) hC hk ha))
    refine aoC (asN (stL S (fun h t S => ?_) hC hk hb))
    refine aoC (asN (stL S (fun h t S => ?_) hC hk hc))
    refine aoN (ct0 ⟨fun _ => ?_, fun e => (nomatch e)⟩)
    refine nmL S upd_s ?_ hC hk hc hd
    have hz := rz.len'
    rw [List.length_take] at hz
    refine apL S (.tail .head) (by rw [sizeLine_eq]; omega) fun h S => ⟨_, _, rfl, _, _, S, ?_⟩
    rw [take_snoc hlt, List.map_append]
    exact rz.append (.cons rw .nil)
  case stop =>
    rintro h t E4 ⟨m', zs, S, rz⟩
    refine nxLe S hh (.tail (.tail .head)) (IsL.keeps il S.zi) (by rw [List.getElem?_eq_none]; rw [rs.len']; exact Nat.le_refl _) fun h S => ⟨rfl, ?_⟩
    rw [List.take_of_length_le (Nat.le_refl _)] at rz
    exact k h t m' zs S rz
end
noncomputable def dueName (bf af : List Str) (w : Str) : Str := istr (af.count w : Nat) ++ Str.ofString " for " ++ istr (bf.count w : Nat)
noncomputable def dueD (p : Str × Str) : PyData := .tuple [.str p.1, .str p.2]
noncomputable def dueStep (bf af : List Str) (due : List (Str × Str)) (w : Str) : List (Str × Str) :=
  if ((af.count w : Nat) : Int) != (bf.count w : Nat) then (if (!(due.map dueD).any fun y => PyData.eqv y (dueD (dueName bf af w, w))) then due ++ [(dueName bf af w, w)] else due) else due
noncomputable def dueOf (old new : List (PyData × Str)) : List (Str × Str) := (old.map (·.2) ++ new.map (·.2)).foldl (dueStep (old.map (·.2)) (new.map (·.2))) []
theorem strOk_append {x y : Str} (hx : PyData.strOk x = true) (hy : PyData.strOk y = true) : PyData.strOk (x ++ y) = true := by
  unfold PyData.strOk at *
  rw [Str.cps_append, Array.all_append, hx, hy]; rfl
theorem strOk_ofString (s : String) : PyData.strOk (Str.ofString s) = true := by
  unfold PyData.strOk Str.ofString
  rw [List.all_toArray, cpsOfBytes_string, List.all_map, List.all_eq_true]
  intro c _
  have h := c.valid
  simp only [UInt32.isValidChar, Nat.isValidChar] at h
  have ht : c.toNat = c.val.toNat := rfl
  simp only [Function.comp_apply, decide_eq_true_eq, ht]
  omega
theorem strOk_istr (a : Int) : PyData.strOk (istr a) = true := strOk_ofString _
section
variable {prog : Program} {w : World} {A : Around} {E : Value → Shared → Prop} {s₀ : Shared} {h : Heap} {t : Nat} {Z : Heap}
theorem due_spec {Q : Value → Shared → Prop} {ov nv : Value} {old new : List (PyData × Str)} (G : Gnd w Z) (hz : Kp Z h) (R : Rm A 30 80) (ho : RD Z ov (bagD old)) (hn : RD Z nv (bagD new)) (ho1 : old.length ≤ 1000) (hn1 : new.length ≤ 1000)
    (hw : ∀ p ∈ old ++ new, PyData.strOk p.2 = true)
    (q : ∀ h' t' Z' v, ZX Z h Z' h' → RD Z' v (.list ((dueOf old new).map dueD)) → Q v (sh s₀ h' t')) :
    wpAny (model prog w) A (call (.ref 376) [ov, nv] []) Q E (sh s₀ h t) := by
  obtain ⟨l, vs, rfl, il, rs⟩ := ho.lst_inv
  obtain ⟨l2, vs2, rfl, il2, rs2⟩ := hn.lst_inv
  refine' enterP (binds := [(Str.ofString "old", .ref l), (Str.ofString "new", .ref l2)]) (bl := [(Str.ofString "new", .ref l2), (Str.ofString "old", .ref l)]) G hz ?ho ?hcd ?hroom ?hbind rfl ?hloc ?body ?hcell ?c2 ?c3 ?c4
  (case ho => k_is)
  (case hcd => k_is)
  (case hroom => (have := R.dp; show _ < 1000; omega))
  (case hbind => exact BindsTo.of_eq rfl)
  (case hloc => exact locs rfl)
  (case hcell => decide)
  (case c2 => exact rfl)
  (case c3 => exact rfl)
  (case c4 => exact rfl)
  intro E' h t S
  show wpAny _ _ _ (Lv Q) _ _
  repeat' ktr_member
  refine itLZ S il ?_; intro it h S
  refine compGoU S (by decide) rfl (by kernel_rfl!) rfl rfl (fun h' t' Q' E' hh q' => ?_) ?_
  · obtain ⟨C, m', d, S'⟩ := hh
    exact itSelf S' (by (repeat (first | exact List.Mem.head _ | apply List.Mem.tail))) q'
  intro acc C h t R9 S k9
  refine loopPair (sel := false) R.hd rfl rfl (by kernel_rfl!) (by kernel_rfl!) (by kernel_rfl!) (by kernel_rfl!) (fun m x y => upd_s) S il rs (by omega) fun h t m' bs S rb => k9 _ _ _ _ _ _ S .head fun h t S => ?_
  obtain ⟨Z1, k1, z1, S⟩ := S.frzE .head
  repeat' ktr_member
  refine itLZ S (IsL.keeps il2 k1) ?_; intro it h S
  refine compGoU S (by decide) rfl (by kernel_rfl!) rfl rfl (fun h' t' Q' E' hh q' => ?_) ?_
  · obtain ⟨C, m', d, S'⟩ := hh
    exact itSelf S' (by (repeat (first | exact List.Mem.head _ | apply List.Mem.tail))) q'
  intro acc2 C h t R9 S k9
  refine loopPair (sel := false) R.hd rfl rfl (by kernel_rfl!) (by kernel_rfl!) (by kernel_rfl!) (by kernel_rfl!) (fun m x y => upd_s) S (IsL.keeps il2 k1) (rs2.keeps k1) (by omega) fun h t m' bs2 S rb2 => k9 _ _ _ _ _ _ S .head fun h t S => ?_
  obtain ⟨Z2, k2, z2, S⟩ := S.frzE .head
  repeat' ktr_member
  refine nLst S ?_; intro du h S
  repeat' ktr_member
  have rb := (rb.keeps fun b o e => k2 b o (k1 b o e))
  have rb2 := rb2.keeps k2
  have z1 := z1.keeps k2
  refine oAddL S (IsL.keeps z1.is S.zi) (IsL.keeps z2.is S.zi) (by have := rb.len'; have := rb2.len'; rw [sizeLine_eq]; omega) ?_; intro al h S
  repeat' ktr_member
  obtain ⟨Z3, k3, z3, S⟩ := S.frzE .head
  repeat' ktr_member
  refine itLZ S z3.is ?_; intro it h S
  intro E2
  have z1 := z1.keeps k3
  have z2 := z2.keeps k3
  have r1 : RDs Z3 bs ((old.map (·.2)).map PyData.str) := by have := rb.keeps k3; rw [List.map_map]; exact this
  have r2 : RDs Z3 bs2 ((new.map (·.2)).map PyData.str) := by have := rb2.keeps k3; rw [List.map_map]; exact this
  have r3 : RDs Z3 (bs ++ bs2) ((old.map (·.2) ++ new.map (·.2)).map PyData.str) := by rw [List.map_append]; exact r1.append r2
  have hok : ∀ w ∈ old.map (·.2) ++ new.map (·.2), PyData.strOk w = true := fun w hm => by
    rw [← List.map_append] at hm
    obtain ⟨p, hp, rfl⟩ := List.mem_map.mp hm
    exact hw p hp
  have hl1 : (old.map (·.2)).length ≤ 1000 := by simpa using ho1
  have hl2 : (new.map (·.2)).length ≤ 1000 := by simpa using hn1
  unfold dueOf at q
  generalize old.map (·.2) = bf at r1 r3 hok hl1 q
  generalize new.map (·.2) = af at r2 r3 hok hl2 q
  refine floop (fun i h => ∃ Z4 m ys, Kp Z3 Z4 ∧ St _ _ _ Z4 m [(it, LitO al i), (du, LstO ys)] h ∧ m (Str.ofString "before") = some (.ref acc) ∧ m (Str.ofString "after") = some (.ref acc2) ∧ m (Str.ofString "due") = some (.ref du) ∧
    RDs Z4 ys ((((bf ++ af).take i).foldl (dueStep bf af) []).map dueD) ∧ (((bf ++ af).take i).foldl (dueStep bf af) []).length ≤ i ∧ ∀ p ∈ ((bf ++ af).take i).foldl (dueStep bf af) [], PyData.strOk p.1 = true ∧ PyData.strOk p.2 = true) (bf ++ af).length
    (ix3 (a := Z3) (in8 (fun _ _ e => e) S (by (repeat (first | with_reducible exact upd_s | with_reducible exact mOf_s | with_reducible assumption | with_reducible refine upd_n (by kernel_rfl!) ?_ | with_reducible refine mOf_n (by kernel_rfl!) ?_))) (by (repeat (first | with_reducible exact upd_s | with_reducible exact mOf_s | with_reducible assumption | with_reducible refine upd_n (by kernel_rfl!) ?_ | with_reducible refine mOf_n (by kernel_rfl!) ?_))) (by (repeat (first | with_reducible exact upd_s | with_reducible exact mOf_s | with_reducible assumption | with_reducible refine upd_n (by kernel_rfl!) ?_ | with_reducible refine mOf_n (by kernel_rfl!) ?_))) .nil (Nat.le_refl _) (fun _ hp => (nomatch hp)))) ?item ?stop
  case item =>
    rintro i h t E3 hlt
    refine ex3 ?_; intro Z4 m ys
    refine an8 ?_; intro k4 S hm1 hm2 hm3 rd hlen hstr
    obtain ⟨v, hv, rv⟩ := r3.at hlt
    obtain ⟨u, rfl⟩ := rv.str_inv
    refine nxL S (by (repeat (first | exact Rp.head | apply Rp.tail))) (IsL.keeps z3.is fun b o e => S.zi b o (k4 b o e)) hv ?_; intro h S
    refine ⟨_, rfl, ?_⟩
    have z1 := z1.keeps k4
    have z2 := z2.keeps k4
    have hwi : PyData.strOk (bf ++ af)[i] = true := hok _ (List.getElem_mem hlt)
    have htk := take_snoc hlt
    have hi : i ≤ 2000 := by rw [List.length_append] at hlt; omega
    generalize (bf ++ af)[i] = wd at hv rv hwi htk
    have c1 : bf.count wd ≤ 1000 := Nat.le_trans List.count_le_length hl1
    have c2 : af.count wd ≤ 1000 := Nat.le_trans List.count_le_length hl2
    repeat' ktr_member
    have r1 := r1.keeps k4
    have r2 := r2.keeps k4
    have l1 := istr_len (a := (bf.count wd : Nat)) (by omega)
    have l2 := istr_len (a := (af.count wd : Nat)) (by omega)
    refine cCount S z2 r2 ?_; intro tk t
    repeat' ktr_member
    refine cStrI (by omega) ?_; intro tk t
    repeat' ktr_member
    refine oCat (by rw [sizeLine_eq]; show _ + 5 ≤ _; omega) ?_; intro tk t
    repeat' ktr_member
    refine cCount S z1 r1 ?_; intro tk t
    repeat' ktr_member
    refine cStrI (by omega) ?_; intro tk t
    repeat' ktr_member
    refine oCat (by rw [sizeLine_eq, Str.length_append]; show _ + 5 + _ ≤ _; omega) ?_; intro tk t
    repeat' ktr_member
    refine cCount S z2 r2 ?_; intro tk t
    repeat' ktr_member
    refine cCount S z1 r1 ?_; intro tk t
    repeat' ktr_member
    have hstep : ((bf ++ af).take (i + 1)).foldl (dueStep bf af) [] = dueStep bf af (((bf ++ af).take i).foldl (dueStep bf af) []) wd := by rw [htk, List.foldl_append]; rfl
    generalize ((bf ++ af).take i).foldl (dueStep bf af) [] = due at rd hlen hstr hstep
    have hsn : PyData.strOk (dueName bf af wd) = true := strOk_append (strOk_append (strOk_istr _) (by decide +kernel)) (strOk_istr _)
    refine ⟨fun hb => ?_, fun hb => ?_⟩
    · repeat' ktr_member
      refine nTupZ S ?_; intro x6 h Z6 k6 i6 S
      repeat' ktr_member
      refine oNotIn S (S.lst (by (repeat (first | exact List.Mem.head _ | apply List.Mem.tail)))) (rd.keeps k6) (d := dueD (dueName bf af wd, wd)) (.tup i6 (.cons (.str _ _) (.cons (.str _ _) .nil))) ?_ ?_ ?_ ?_
      · clear hstep rd hlen
        induction due with
        | nil => rfl
        | cons p r ih =>
          show (PyData.canLay0 (dueD p) && PyData.canLayAll0 (r.map dueD)) = true
          rw [ih fun p hp => hstr p (.tail _ hp)]
          obtain ⟨a, b⟩ := hstr p (.head _)
          simp [dueD, PyData.canLay0, PyData.canLayAll0, a, b]
      · simp [dueD, PyData.canLay0, PyData.canLayAll0, hsn, hwi]
      · have := R.un
        show A.units + 3 + 1 + 1 < 9900
        omega
      repeat' ktr_member
      refine ⟨fun hb2 => ?_, fun hb2 => ?_⟩
      · repeat' ktr_member
        refine nTupZ S ?_; intro x7 h Z7 k7 i7 S
        repeat' ktr_member
        have hy := rd.len'
        refine apL S (by (repeat (first | exact Rp.head | apply Rp.tail))) (by rw [sizeLine_eq]; omega) ?_; intro h S
        repeat' ktr_member
        refine ⟨.inl rfl, _, _, rfl, ix3 (a := Z7) (in6 (fun b o q => k7 b o (k6 b o (k4 b o q))) S (by (repeat (first | with_reducible exact upd_s | with_reducible exact mOf_s | with_reducible assumption | with_reducible refine upd_n (by kernel_rfl!) ?_ | with_reducible refine mOf_n (by kernel_rfl!) ?_))) (by (repeat (first | with_reducible exact upd_s | with_reducible exact mOf_s | with_reducible assumption | with_reducible refine upd_n (by kernel_rfl!) ?_ | with_reducible refine mOf_n (by kernel_rfl!) ?_))) (by (repeat (first | with_reducible exact upd_s | with_reducible exact mOf_s | with_reducible assumption | with_reducible refine upd_n (by kernel_rfl!) ?_ | with_reducible refine mOf_n (by kernel_rfl!) ?_))) ?_)⟩
        rw [hstep]
        unfold dueStep
        rw [if_pos hb, if_pos hb2, List.map_append]
        refine ⟨(rd.keeps fun b o q => k7 b o (k6 b o q)).append (.cons (.tup i7 (.cons (.str _ _) (.cons (.str _ _) .nil))) .nil), by simp; exact hlen, fun p hp => ?_⟩
        rcases List.mem_append.mp hp with hp | hp
        · exact hstr p hp
        · rw [List.mem_singleton.mp hp]; exact ⟨hsn, hwi⟩
      · repeat' ktr_member
        refine ⟨.inl rfl, _, _, rfl, ix3 (a := Z6) (in6 (fun b o q => k6 b o (k4 b o q)) S (by (repeat (first | with_reducible exact upd_s | with_reducible exact mOf_s | with_reducible assumption | with_reducible refine upd_n (by kernel_rfl!) ?_ | with_reducible refine mOf_n (by kernel_rfl!) ?_))) (by (repeat (first | with_reducible exact upd_s | with_reducible exact mOf_s | with_reducible assumption | with_reducible refine upd_n (by kernel_rfl!) ?_ | with_reducible refine mOf_n (by kernel_rfl!) ?_))) (by (repeat (first | with_reducible exact upd_s | with_reducible exact mOf_s | with_reducible assumption | with_reducible refine upd_n (by kernel_rfl!) ?_ | with_reducible refine mOf_n (by kernel_rfl!) ?_))) ?_)⟩
        rw [hstep]
        unfold dueStep
        rw [if_pos hb, if_neg (by rw [hb2]; decide)]
        exact ⟨rd.keeps k6, Nat.le_succ_of_le hlen, hstr⟩
    · repeat' ktr_member
      refine ⟨.inl rfl, _, _, rfl, ix3 (a := Z4) (in6 k4 S (by (repeat (first | with_reducible exact upd_s | with_reducible exact mOf_s | with_reducible assumption | with_reducible refine upd_n (by kernel_rfl!) ?_ | with_reducible refine mOf_n (by kernel_rfl!) ?_))) (by (repeat (first | with_reducible exact upd_s | with_reducible exact mOf_s | with_reducible assumption | with_reducible refine upd_n (by kernel_rfl!) ?_ | with_reducible refine mOf_n (by kernel_rfl!) ?_))) (by (repeat (first | with_reducible exact upd_s | with_reducible exact mOf_s | with_reducible assumption | with_reducible refine upd_n (by kernel_rfl!) ?_ | with_reducible refine mOf_n (by kernel_rfl!) ?_))) ?_)⟩
      rw [hstep]
      unfold dueStep
      rw [if_neg (by rw [hb]; decide)]
      exact ⟨rd, Nat.le_succ_of_le hlen, hstr⟩
  case stop =>
    rintro h t E3
    refine ex3 ?_; intro Z4 m ys
    refine an8 ?_; intro k4 S hm1 hm2 hm3 rd hlen hstr
    refine nxLe S R.hd (by (repeat (first | exact Dl.head | apply Dl.tail))) (IsL.keeps z3.is fun b o e => S.zi b o (k4 b o e)) (by rw [List.getElem?_eq_none]; rw [r3.len']; exact Nat.le_refl _) ?_; intro h S
    refine ⟨rfl, ?_⟩
    repeat' ktr_member
    obtain ⟨Z5, k5, i5, S⟩ := S.frzL (by (repeat (first | exact Dl.head | apply Dl.tail)))
    rw [List.take_of_length_le (Nat.le_refl _)] at rd
    exact q _ _ _ _ S.zx (.lst i5 (rd.keeps k5))
end
noncomputable def EnO (it : Addr) (i : Nat) (old : Value) : OP := IsO { cls := .type "enumerate", dict := none, data := .fields #[.none, .bool false, .ref it, rawInt i, .none, old], slots := #[] }
section
variable {prog : Program} {w : World} {A : Around} {E : Value → Shared → Prop} {s₀ : Shared} {h h' : Heap} {t : Nat} {Z Z₀ h₀ : Heap} {L l it e b : Addr} {m : Str → Option Value} {own own₁ own₂ own' : Own} {vs ws : List Value} {i : Nat} {v x old : Value} {env : Env} {P : OP} {o : Obj}
theorem St.take (S : St Z₀ h₀ L Z m own h) (ho : h.get? b = some o) (hp : P o) (hz : Z.get? b = none) (h0 : h₀.get? b = none) (hL : b ≠ L) (hn : ∀ p ∈ own, p.1 ≠ b) : St Z₀ h₀ L Z m ((b, P) :: own) h := by
  refine ⟨S.zx, S.ns, S.lz, S.lb, fun p hp' => ?_, ?_⟩
  · rcases List.mem_cons.mp hp' with rfl | hp'
    · exact ⟨⟨o, ho, hp⟩, hz, h0, hL⟩
    · exact S.ow p hp'
  · refine List.nodup_cons.mpr ⟨fun hq => ?_, S.nd⟩
    obtain ⟨p, hp', e⟩ := List.mem_map.mp hq
    exact hn p hp' e
theorem St.fresh (S : St Z₀ h₀ L Z m own h) (hb : h.get? b = none) : Z.get? b = none ∧ h₀.get? b = none ∧ b ≠ L ∧ ∀ p ∈ own, p.1 ≠ b := by
  have nz : ∀ {H : Heap}, Kp H h → H.get? b = none := fun {H} kk => by
    cases e : H.get? b with
    | none => rfl
    | some o => rw [kk _ _ e] at hb; cases hb
  refine ⟨nz S.zi, nz S.hi, fun q => ?_, fun p hp q => ?_⟩
  · obtain ⟨oL, _, _, hL, _⟩ := S.ns
    rw [q, hL] at hb; cases hb
  · obtain ⟨⟨y, hy, _⟩, _⟩ := S.ow p hp
    rw [q, hb] at hy; cases hy
theorem cEnum {Q : Value → Shared → Prop} (S : St Z₀ h₀ L Z m own h) (il : h.IsList l vs.toArray) (q : ∀ e it h', e ≠ it → St Z₀ h₀ L Z m ((e, EnO it 0 .none) :: (it, LitO l 0) :: own) h' → Q (.ref e) (sh s₀ h' t)) : wpAny (model prog w) A (call (.type "enumerate") [.ref l]) Q E (sh s₀ h t) := by
  refine call_enumerate_list il fun h' he hi hs hk => ?_
  obtain ⟨o, ho, hp⟩ := hi
  have n1 : h.get? (h.objs.size + 1) = none := by
    cases e : h.get? (h.objs.size + 1) with
    | none => rfl
    | some o => exact absurd (Heap.lt_size e) (Nat.not_lt.mpr (Nat.le_succ _))
  have S1 := S.add (P := LitO l 0) hk (get?_size h) ho hp
  obtain ⟨f1, f2, f3, f4⟩ := S.fresh n1
  refine q _ _ h' (Nat.succ_ne_self _) (S1.take he rfl f1 f2 f3 fun p hp => ?_)
  rcases List.mem_cons.mp hp with rfl | hp
  · exact Nat.ne_of_lt (Nat.lt_succ_self _)
  · exact f4 p hp
theorem itE {Q : Value → Shared → Prop} (S : St Z₀ h₀ L Z m own h) (i : (e, EnO it i old) ∈ own) (q : Q (.ref e) (sh s₀ h t)) : wpAny (model prog w) A (pyIter (.ref e)) Q E (sh s₀ h t) := by
  obtain ⟨o, ho, rfl⟩ := S.mem i
  exact wpAny_pyIter_enum ho q
theorem St.upd2 {a c : Addr} {P P' R R' : OP} {o o' : Obj} (S : St Z₀ h₀ L Z m own h) (u1 : Rp a P P' own own₁) (u2 : Rp c R R' own₁ own₂) (hne : c ≠ a) (k : ∀ x o, x ≠ a → x ≠ c → h.get? x = some o → h'.get? x = some o)
    (ha : h'.get? a = some o) (hp : P' o) (hc : h'.get? c = some o') (hr : R' o') : St Z₀ h₀ L Z m own₂ h' := by
  obtain ⟨_, a2, a3, a4⟩ := S.ow _ u1.mem
  have hm : (c, R) ∈ own := by
    rcases u1.cases S.nd _ u2.mem with h | h
    · exact absurd (congrArg Prod.fst h) hne
    · exact h.1
  obtain ⟨_, c2, c3, c4⟩ := S.ow _ hm
  dsimp only at a2 a3 a4 c2 c3 c4
  have nz : ∀ {H : Heap} {x : Addr}, H.get? x = none → ∀ b o, H.get? b = some o → b ≠ x := fun e b o e' hb => by subst hb; rw [e] at e'; cases e'
  have nd1 : (own₁.map (·.1)).Nodup := u1.addrs ▸ S.nd
  refine ⟨⟨fun b o e => k b o (nz a3 b o e) (nz c3 b o e) (S.zx.keep b o e), S.zx.le, fun b o e => k b o (nz a2 b o e) (nz c2 b o e) (S.zx.sub b o e), S.zx.new⟩, ?_, S.lz, S.lb, fun p hp' => ?_, u2.addrs ▸ nd1⟩
  · obtain ⟨oL, es, ep, hL, r⟩ := S.ns
    exact ⟨oL, es, ep, k _ _ (Ne.symm a4) (Ne.symm c4) hL, r⟩
  · rcases u2.cases nd1 p hp' with rfl | ⟨hm', hne'⟩
    · exact ⟨⟨o', hc, hr⟩, c2, c3, c4⟩
    · rcases u1.cases S.nd p hm' with rfl | ⟨hm, hne2⟩
      · exact ⟨⟨o, ha, hp⟩, a2, a3, a4⟩
      · obtain ⟨⟨x, hx, q⟩, r⟩ := S.ow p hm
        exact ⟨⟨x, k _ x hne2 hne' hx, q⟩, r⟩
theorem enAt (S : St Z₀ h₀ L Z m own h) (hm : (e, EnO it i old) ∈ own) : IsEnum h e it i old := by
  obtain ⟨o, ho, rfl⟩ := S.mem hm
  exact ho
theorem nxE {P : Value → Unit → Shared → Prop} {elts : List Expr} {x1 : Nat} {pos : Pos} {E' : Value → Shared → Prop} (S : St Z₀ h₀ L Z m own h) (u1 : Rp it (LitO l i) (LitO l (i + 1)) own own₁) (u2 : Rp e (EnO it i old) (EnO it (i + 1) v) own₁ own₂) (hne : e ≠ it)
    (hl : h.IsList l vs.toArray) (hx : vs[i]? = some v) (q : ∀ T h' tk t', St Z₀ h₀ L Z m own₂ h' → IsTup h' T [.int i tk, v].toArray → P (.ref T) () (sh s₀ h' t')) :
    wpAny (model prog w) A (pyNext (.ref e)) (fun r s₁ => ∃ v', r = some v' ∧ wpAny (model prog w) A (letOwnedTupleGo (.Tuple elts x1 pos) (.ref e) v') (P v') E' s₁) E (sh s₀ h t) := by
  obtain ⟨o, ho, hp⟩ := S.mem u1.mem
  have hm : (e, EnO it i old) ∈ own := by
    rcases u1.cases S.nd _ u2.mem with h | h
    · exact absurd (congrArg Prod.fst h) hne
    · exact h.1
  have he := enAt S hm
  refine wpAny_pyNext_enum_item he ⟨o, ho, hp⟩ hl (by simpa using hx) hne fun h1 heo hit ht hz hk => ⟨_, rfl, ?_⟩
  refine wpAny_letOwnedTupleGo_enum heo fun h2 he2 hs2 => ?_
  obtain ⟨o1, ho1, hp1⟩ := hit
  have ne2 : h.objs.size ≠ e := Ne.symm (Nat.ne_of_lt (Heap.lt_size he))
  refine q _ h2 _ _ (S.upd2 u1 u2 hne (fun b o n1 n2 e' => hs2.extBut b o n2 (hk b o n2 n1 e')) (hs2.extBut it o1 (Ne.symm hne) ho1) hp1 he2 rfl) ⟨_, hs2.extBut _ _ ne2 ht, rfl, 0, rfl⟩
theorem nxEe {Q : Option Value → Shared → Prop} (S : St Z₀ h₀ L Z m own h) (hh : A.handled = none) (hm : (e, EnO it i old) ∈ own) (u : Dl it (LitO l i) own own') (hl : h.IsList l vs.toArray) (hx : vs[i]? = none) (q : ∀ h', St Z₀ h₀ L Z m own' h' → Q none (sh s₀ h' t)) :
    wpAny (model prog w) A (pyNext (.ref e)) Q E (sh s₀ h t) := by
  obtain ⟨o, ho, hp⟩ := S.mem u.mem
  exact wpAny_pyNext_enum_end hh (enAt S hm) ⟨o, ho, hp⟩ hl (by simpa using hx) fun h' hk => q h' (S.del u hk)
/-- a for over pairs that the iterator owns -/
theorem floopT {R : Result → Shared → Prop} {target : Expr} {it : Value} {body : List Stmt} (J : Nat → Heap → Prop) (n : Nat) (h0 : J 0 h)
    (item : ∀ i h t E', i < n → J i h → wpAny (model prog w) A (pyNext it) (fun r s₁ => ∃ v, r = some v ∧ wpAny (model prog w) A (letOwnedTupleGo target it v) (fun _ s₁' => wpAny (model prog w) A (assign target env v) (fun _ s₂ => wpAny (model prog w) A (execs body env)
      (fun f s₃ => (f = .next ∨ f = .cont) ∧ ∃ h' t', s₃ = sh s₀ h' t' ∧ J (i + 1) h') E' s₂) E' s₁') E' s₁) E' (sh s₀ h t))
    (stop : ∀ h t E', J n h → wpAny (model prog w) A (pyNext it) (fun r s₁ => r = none ∧ R (.ok .next) s₁) E' (sh s₀ h t)) : codeAny (model prog w) A (.forLoop target it body [] env) R (sh s₀ h t) := by
  refine codeAny_forLoop_any (fun k s => ∃ i h t, s = sh s₀ h t ∧ i ≤ n ∧ k = n - i ∧ J i h) ?_ n ⟨0, h, t, rfl, Nat.zero_le _, rfl, h0⟩
  rintro k s ⟨i, h, t, rfl, hi, rfl, hJ⟩
  rcases Nat.lt_or_ge i n with lt | ge
  · refine wpAny_mono (item i h t _ lt hJ) (fun r s₁ h₁ => ?_) fun _ _ x => x
    obtain ⟨v, rfl, h₁⟩ := h₁
    refine wpAny_mono h₁ (fun _ s₂ h₂ => wpAny_mono h₂ (fun _ s₂' h₂' => wpAny_mono h₂' (fun f s₃ h₃ => ?_) fun _ _ x => x) fun _ _ x => x) fun _ _ x => x
    obtain ⟨hf, h', t', rfl, hJ'⟩ := h₃
    rcases hf with rfl | rfl
    · exact ⟨n - (i + 1), by omega, i + 1, h', t', rfl, lt, rfl, hJ'⟩
    · exact ⟨n - (i + 1), by omega, i + 1, h', t', rfl, lt, rfl, hJ'⟩
  · obtain rfl : i = n := Nat.le_antisymm hi ge
    refine wpAny_mono (stop h t _ hJ) (fun r s₁ h₁ => ?_) fun _ _ x => x
    obtain ⟨rfl, h₁⟩ := h₁
    exact wpAny_execs_nil h₁
end
noncomputable def layS (acc : List Str) (x : Str) : List Str := if x ∈ acc then acc else acc ++ [x]
noncomputable def laid (ws more : List Str) : List Str := more.foldl layS ws
noncomputable def SliceTo (Q : Value → Shared → Prop) (o u : Value) (s : Shared) : Prop := ∃ l, ∃ vs : List Value, ∃ b : Nat, ∃ tk, o = .ref l ∧ u = .int b tk ∧ s.heap.IsList l vs.toArray ∧ vs.length ≤ sizeLine ∧
  Q (.ref (s.heap.objs.size + 1)) { s with heap := (s.heap.push { cls := .type "slice", data := .fields #[.none, u, .none] }).push { cls := .type "list", data := .seq (vs.take b).toArray } }
section
variable {prog : Program} {w : World} {A : Around} {E : Value → Shared → Prop} {s₀ : Shared} {h : Heap} {t : Nat} {Z Z₀ h₀ : Heap} {L l it d : Addr} {m : Str → Option Value} {own own' : Own} {vs ws : List Value} {i : Nat} {v x : Value} {env : Env}
theorem slcTo {value upper : Expr} {p pos : Pos} {Q : Value → Shared → Prop} {s : Shared} (h : wpAny (model prog w) A (eval value env) (fun o s₁ => wpAny (model prog w) A (eval upper env) (fun u s₂ => SliceTo Q o u s₂) E s₁) E s)
    (ht : ∀ o r, letTemporaryGo value o r = pure () := by intro _ _; rfl) : wpAny (model prog w) A (eval (.Subscript value (.Slice none (some upper) none p) pos) env) Q E s := by
  refine wpAny_Subscript_list_slice (wpAny_mono h (fun o s₁ h₁ => ?_) fun _ _ x => x) ht
  rw [evalPart_none]
  refine wpAny_pure ?_
  rw [evalPart_some]
  refine wpAny_mono h₁ (fun u s₂ h₂ => ?_) fun _ _ x => x
  obtain ⟨l, vs, b, tk, rfl, rfl, hl, hn, hq⟩ := h₂
  refine ⟨l, vs.toArray, none, some (b : Int), rfl, hl, by simpa using hn, .none, .int _ _, ?_⟩
  rw [slicePick_upto']
  exact hq
theorem slcS {Q : Value → Shared → Prop} {b : Nat} {tk : Tok} (S : St Z₀ h₀ L Z m own h) (il : h.IsList l vs.toArray) (hn : vs.length ≤ sizeLine) (q : ∀ x h', St Z₀ h₀ L Z m ((x, LstO (vs.take b)) :: own) h' → Q (.ref x) (sh s₀ h' t)) :
    SliceTo Q (.ref l) (.int b tk) (sh s₀ h t) := by
  refine ⟨l, vs, b, tk, rfl, rfl, il, hn, ?_⟩
  have S1 : St Z₀ h₀ L Z m own (h.push { cls := .type "slice", data := .fields #[.none, .int b tk, .none] }) := S.keep fun _ _ e => Heap.get?_push_of_some _ e
  have := q _ _ (S1.push (o := lstObj (vs.take b) 0) (P := LstO (vs.take b)) rfl ⟨0, rfl⟩)
  rw [Heap.size_push] at this
  exact this
theorem RDs.take {Z : Heap} : ∀ {ds : List PyData} {vs : List Value} (_ : RDs Z vs ds) (k : Nat), RDs Z (vs.take k) (ds.take k)
  | [], _, r, k => by rw [r.nil_inv]; simp; exact .nil
  | d :: ds, vs, r, 0 => by simp; exact .nil
  | d :: ds, vs, r, k + 1 => by
    obtain ⟨v, vs', rfl, hv, hr⟩ := r.cons_inv
    exact .cons hv (hr.take k)
theorem strs_canLay : ∀ {ss : List Str}, (∀ x ∈ ss, PyData.strOk x = true) → PyData.canLayAll0 (ss.map PyData.str) = true
  | [], _ => rfl
  | x :: r, o => by
    show (PyData.canLay0 (.str x) && PyData.canLayAll0 (r.map PyData.str)) = true
    rw [strs_canLay fun y hy => o y (.tail _ hy)]
    simp [PyData.canLay0, o x (.head _)]
theorem any_strs (ss : List Str) (x : Str) : ((ss.map PyData.str).any fun y => PyData.eqv y (.str x)) = decide (x ∈ ss) := by
  induction ss with
  | nil => rfl
  | cons a r ih =>
    rw [List.map_cons, List.any_cons, ih, eqv_str]
    by_cases h : a = x
    · subst h; simp
    · have : ¬ x = a := fun e => h e.symm
      simp [h, this]
theorem laid_spec {Q : Value → Shared → Prop} {wv mv : Value} {ss more : List Str} (G : Gnd w Z) (hz : Kp Z h) (R : Rm A 30 80) (hw : RD Z wv (.list (ss.map PyData.str))) (hm : RD Z mv (.list (more.map PyData.str))) (n1 : ss.length ≤ 1000) (n2 : more.length ≤ 1000)
    (o1 : ∀ x ∈ ss, PyData.strOk x = true) (o2 : ∀ x ∈ more, PyData.strOk x = true)
    (q : ∀ h' t' Z' v, ZX Z h Z' h' → RD Z' v (.list ((laid ss more).map PyData.str)) → Q v (sh s₀ h' t')) :
    wpAny (model prog w) A (call (.ref 395) [wv, mv] []) Q E (sh s₀ h t) := by
  obtain ⟨l1, vs1, rfl, il1, rs1⟩ := hw.lst_inv
  obtain ⟨l2, vs2, rfl, il2, rs2⟩ := hm.lst_inv
  refine' enterC (binds := [(Str.ofString "words", .ref l1), (Str.ofString "more", .ref l2)]) (m := fun _ => none) (own := [(h.objs.size + 1 + 1, CellO (some (.ref l2))), (h.objs.size + 1, CellO (some (.ref l1)))]) G hz ?ho ?hcd ?hroom ?hbind ?hkind ?hnd ?hm rfl ?how ?body ?c2 ?c3 ?c4
  (case ho => k_is)
  (case hcd => k_is)
  (case hroom => (have := R.dp; show _ < 1000; omega))
  (case hbind => exact rfl)
  (case hkind => exact rfl)
  (case hnd => decide +kernel)
  (case hm => exact rfl)
  (case how => kernel_rfl!)
  (case c2 => exact rfl)
  (case c3 => exact rfl)
  (case c4 => exact rfl)
  intro E' h t S
  repeat' ktr_member
  refine cEnum S (IsL.keeps il2 S.zi) ?_; intro e it h hne S
  repeat' ktr_member
  refine itE S (by (repeat (first | exact List.Mem.head _ | apply List.Mem.tail))) ?_
  refine compGo S (by decide) rfl (fun h' t' Q' E' hh q' => ?_) ?_
  · obtain ⟨C, m', d, S'⟩ := hh
    exact itE S' (by (repeat (first | exact List.Mem.head _ | apply List.Mem.tail))) q'
  intro acc C h t R9 S k9
  refine cloop (fun j h => ∃ Z1 m1 zs old, Kp Z Z1 ∧ St _ _ _ Z1 m1 [(_, NsO _), (acc, LstO zs), (e, EnO it j old), (it, LitO l2 j), (_, CellO (some (.ref l2))), (_, CellO (some (.ref l1)))] h ∧ ∃ ys : List Str, RDs Z1 zs (ys.map PyData.str) ∧ ss ++ ys = (more.take j).foldl layS ss ∧ ys.length ≤ j ∧
    ∀ x, (x ∈ ss ++ ys ↔ x ∈ ss ∨ x ∈ more.take j)) more.length ⟨Z, _, _, _, fun _ _ e => e, S, [], .nil, by simp, Nat.le_refl _, by simp⟩ ?item ?stop
  case item =>
    rintro j h t E4 hlt
    refine ex4 ?_; intro Z1 m1 zs old
    refine an3 ?_; intro k1 S H5
    obtain ⟨ys, rz, ey, hy, hiff⟩ := H5
    obtain ⟨v, hv, rv⟩ := rs2.at hlt
    obtain ⟨u, rfl⟩ := rv.str_inv
    have htk := take_snoc hlt
    have hok : PyData.strOk more[j] = true := o2 _ (List.getElem_mem hlt)
    generalize more[j] = wd at hv rv htk hok
    refine nxE S (by (repeat (first | exact Rp.head | apply Rp.tail))) (by (repeat (first | exact Rp.head | apply Rp.tail))) hne (IsL.keeps il2 fun b o e => S.zi b o (k1 b o e)) hv ?_; intro T h tk t S iT
    refine asT S R.hd iT rfl rfl rfl ?_; intro h S
    repeat' ktr_member
    have e1 : (PyData.str wd).canLay0 = true := by simp [PyData.canLay0, hok]
    refine oNotIn S (IsL.keeps il1 fun b o e => S.zi b o (k1 b o e)) (rs1.keeps k1) (.str wd u) (strs_canLay o1) e1 (by have := R.un; show A.units + 3 + 1 + 0 < 9900; omega) ?_
    rw [any_strs]
    have hstep : (more.take (j + 1)).foldl layS ss = layS (ss ++ ys) wd := by rw [htk, List.foldl_append, ← ey]; rfl
    have hin : wd ∈ ss ++ ys → ss ++ ys = (more.take (j + 1)).foldl layS ss ∧ ∀ x, (x ∈ ss ++ ys ↔ x ∈ ss ∨ x ∈ more.take (j + 1)) := fun hin => ⟨by rw [hstep]; unfold layS; rw [if_pos hin], fun x => by
      rw [htk, hiff, List.mem_append, List.mem_singleton]
      constructor
      · rintro (q | q)
        · exact .inl q
        · exact .inr (.inl q)
      · rintro (q | q | rfl)
        · exact .inl q
        · exact .inr q
        · exact (hiff x).mp hin⟩
    have hout : wd ∉ ss ++ ys → ss ++ (ys ++ [wd]) = (more.take (j + 1)).foldl layS ss ∧ ∀ x, (x ∈ ss ++ (ys ++ [wd]) ↔ x ∈ ss ∨ x ∈ more.take (j + 1)) := fun hout => ⟨by rw [hstep]; unfold layS; rw [if_neg hout, List.append_assoc], fun x => by
      rw [htk, ← List.append_assoc, List.mem_append, hiff, List.mem_append, or_assoc]⟩
    repeat' ktr_member
    refine ⟨fun c1 => ?_, fun c1 => ?_⟩
    · repeat' ktr_member
      refine slcS S (IsL.keeps il2 fun b o e => S.zi b o (k1 b o e)) (by rw [rs2.len', sizeLine_eq]; omega) ?_; intro sx h S
      have rs2j : RDs Z1 (vs2.take j) ((more.take j).map PyData.str) := by rw [List.map_take]; exact (rs2.keeps k1).take j
      have o2j : ∀ x ∈ more.take j, PyData.strOk x = true := fun x hx => o2 x (List.mem_of_mem_take hx)
      repeat' ktr_member
      refine oNotIn S (S.lst (by (repeat (first | exact List.Mem.head _ | apply List.Mem.tail)))) rs2j (.str wd u) (strs_canLay o2j) e1 (by have := R.un; show A.units + 3 + 1 + 0 < 9900; omega) ?_
      rw [any_strs]
      obtain ⟨Z2, k2, i2, S⟩ := S.frzL .head
      repeat' ktr_member
      refine ⟨fun c2 => ?_, fun c2 => ?_⟩
      · have c1 : wd ∉ ss := by simpa using c1
        have c2 : wd ∉ more.take j := by simpa using c2
        have c3 : wd ∉ ss ++ ys := fun q => ((hiff wd).mp q).elim c1 c2
        repeat' ktr_member
        have hzl := rz.len'
        refine apL S (by (repeat (first | exact Rp.head | apply Rp.tail))) (by rw [sizeLine_eq]; omega) ?_; intro h S
        refine ⟨_, _, rfl, Z2, _, _, _, fun b o q => k2 b o (k1 b o q), S, ys ++ [wd], ?_, (hout c3).1, by simpa using hy, (hout c3).2⟩
        rw [List.map_append]
        exact (rz.keeps k2).append (.cons (.str _ _) .nil)
      · have c2 : wd ∈ more.take j := by simpa using c2
        have c3 : wd ∈ ss ++ ys := (hiff wd).mpr (.inr c2)
        exact ⟨fun e => (nomatch e), fun _ => ⟨_, _, rfl, Z2, _, _, _, fun b o q => k2 b o (k1 b o q), S, ys, rz.keeps k2, (hin c3).1, Nat.le_succ_of_le hy, (hin c3).2⟩⟩
    · have c3 : wd ∈ ss ++ ys := List.mem_append.mpr (.inl (by simpa using c1))
      exact ⟨fun e => (nomatch e), fun _ => ⟨_, _, rfl, Z1, _, _, _, k1, S, ys, rz, (hin c3).1, Nat.le_succ_of_le hy, (hin c3).2⟩⟩
  case stop =>
    rintro h t E4
    refine ex4 ?_; intro Z1 m1 zs old
    refine an3 ?_; intro k1 S H5
    obtain ⟨ys, rz, ey, hy, hiff⟩ := H5
    refine nxEe S R.hd (by (repeat (first | exact List.Mem.head _ | apply List.Mem.tail))) (by (repeat (first | exact Dl.head | apply Dl.tail))) (IsL.keeps il2 fun b o e => S.zi b o (k1 b o e)) (by rw [List.getElem?_eq_none]; rw [rs2.len']; exact Nat.le_refl _) ?_; intro h S
    refine ⟨rfl, k9 _ _ _ _ _ _ S .head ?_⟩
    intro h S
    rw [List.take_of_length_le (Nat.le_refl _)] at ey hiff
    have hzl := rz.len'
    refine oAddL S (IsL.keeps il1 fun b o e => S.zi b o (k1 b o e)) (S.lst (by (repeat (first | exact List.Mem.head _ | apply List.Mem.tail)))) (by rw [hzl, rs1.len', sizeLine_eq]; omega) ?_; intro xr h S
    repeat' ktr_member
    obtain ⟨Z5, k5, i5, S⟩ := S.frzL .head
    refine q _ _ _ _ S.zx (.lst i5 ?_)
    unfold laid
    rw [← ey, List.map_append]
    exact (rs1.keeps fun b o q => k5 b o (k1 b o q)).append (rz.keeps k5)
end
noncomputable abbrev nullObj : Obj := { cls := .type "object", data := .plain }
theorem mro_object : mroOf (.type "object") = pure [.type "object"] := by rw [mroOf_type]; kernel_rfl
theorem lookup_object_new : typeLookup (.type "object") "__new__" = pure (some (.builtin "object.__new__")) := by rw [typeLookup_type, builtinLookup_eq_fast]; kernel_rfl
theorem slot_object_initO : Slot "object" "__init__" "object.__init__" :=
  .of (owner := "object") (n := "__init__") (by rw [typeLookup_type, builtinLookup_eq_fast]; kernel_rfl) (by decide +kernel) (by decide +kernel) (by decide +kernel)
    (by first | exact .inl (by decide +kernel) | exact .inr (by decide +kernel)) (by rw [isSubtype_type]; kernel_rfl)
theorem called_object : TypeCalled "object" "object.__new__" "object.__init__" :=
  ⟨by decide +kernel, by decide +kernel, ⟨_, _, mro_object⟩, madeBy_type mro_object lookup_object_new (by decide +kernel), by decide +kernel, by rw [isSubtype_type]; kernel_rfl, slot_object_initO⟩
theorem typeCall_object_0 : checkTypeCall "object" ⟨[], []⟩ = pure () := by kernel_rfl
theorem newCall_object_0 : checkBuiltinCall "object.__new__" ⟨[.type "object"], []⟩ = pure () := by kernel_rfl
theorem args_object_init_1' (a : Value) : argsOk "object.__init__" ⟨[a], []⟩ := by
  first | exact PySem.F.args_object_init_1 a | (unfold argsOk; rw [signature?_of (id := "object.__init__") (n := ['_', '_', 't', 'i', 'n', 'i', '_', '_']) (o := ['t', 'c', 'e', 'j', 'b', 'o']) (by kernel_rfl) (by decide +kernel)]; kernel_rfl)
theorem object_new_meets : Meets (Builtin.«object.__new__» ⟨[.type "object"], []⟩) (fun _ R s => R (.ok (.ret (.ref s.heap.objs.size))) { s with heap := s.heap.push nullObj }) := .of_wp fun prog w A R s h => by
  obtain ⟨hp, g, d, tk, os⟩ := s
  have hmade : ∀ H : Heap, Looks (model prog w) H (Bind.madeBy (.type "object")) (some "object.__new__") := fun _ => Looks.of_pure called_object.made
  have hm := hmade hp
  unfold Builtin.«object.__new__»
  repeat lk
  exact ⟨_, rfl, h⟩
theorem object_init_meets0 (self : Value) : Meets (Builtin.«object.__init__» ⟨[self], []⟩) (fun _ R s => R (.ok (.ret .none)) s) := .of_wp fun _ _ _ _ _ h => wpAny_pure ⟨_, rfl, h⟩
section
variable {prog : Program} {w : World} {A : Around} {E : Value → Shared → Prop} {s : Shared} {Q : Value → Shared → Prop} {n : Addr}
theorem call_object (h : Q (.ref s.heap.objs.size) { s with heap := s.heap.push nullObj }) : wpAny (model prog w) A (call (.type "object") []) Q E s :=
  callType_meets (Q₁ := fun obj s₁ => s₁.TypeIs obj "object" ∧ Q obj s₁) called_object typeCall_object_0 newCall_object_0 PySem.F.entry_object_new PySem.F.entry_object_init object_new_meets ⟨⟨_, Heap.get?_push_size _ rfl, rfl⟩, h⟩
    fun obj _ hq => ⟨hq.1, args_object_init_1' obj, _, object_init_meets0 obj, rfl, hq.2⟩
theorem sub_obj_int : isSubtype (.type "object") (.type "int") = pure false := by rw [isSubtype_type]; kernel_rfl
theorem sub_obj_str : isSubtype (.type "object") (.type "str") = pure false := by rw [isSubtype_type]; kernel_rfl
theorem sub_obj_list : isSubtype (.type "object") (.type "list") = pure false := by rw [isSubtype_type]; kernel_rfl
theorem none_eq_null : Meets (Builtin.«NoneType.__eq__» ⟨[.none, .ref n], []⟩) (fun _ R s => s.heap.get? n = some nullObj ∧ R (.ok (.ret .notImplemented)) s) := .of_wp fun prog w A R s h => by
  obtain ⟨hp, g, d, tk, os⟩ := s
  obtain ⟨hn, h⟩ := h
  wp_walk
  exact ⟨_, rfl, h⟩
theorem int_eq_null {i : Int} {t : Tok} : Meets (Builtin.«int.__eq__» ⟨[.int i t, .ref n], []⟩) (fun _ R s => s.heap.get? n = some nullObj ∧ R (.ok (.ret .notImplemented)) s) := .of_wp fun prog w A R s h => by
  obtain ⟨hp, g, d, tk, os⟩ := s
  obtain ⟨hn, h⟩ := h
  have h1 := sub_obj_int
  wp_walk
  exact ⟨_, rfl, h⟩
theorem str_eq_null {x : Str} {t : Tok} : Meets (Builtin.«str.__eq__» ⟨[.str x t, .ref n], []⟩) (fun _ R s => s.heap.get? n = some nullObj ∧ R (.ok (.ret .notImplemented)) s) := .of_wp fun prog w A R s h => by
  obtain ⟨hp, g, d, tk, os⟩ := s
  obtain ⟨hn, h⟩ := h
  have h1 := sub_obj_str
  wp_walk
  exact ⟨_, rfl, h⟩
theorem list_eq_null {l : Addr} : Meets (Builtin.«list.__eq__» ⟨[.ref l, .ref n], []⟩) (fun _ R s => s.heap.get? n = some nullObj ∧ R (.ok (.ret .notImplemented)) s) := .of_wp fun prog w A R s h => by
  obtain ⟨hp, g, d, tk, os⟩ := s
  obtain ⟨hn, h⟩ := h
  have h1 := sub_obj_list
  wp_walk
  exact ⟨_, rfl, h⟩
theorem obj_eq_null {v : Value} : Meets (Builtin.«object.__eq__» ⟨[.ref n, v], []⟩) (fun _ R s => s.heap.get? n = some nullObj ∧ (isSame (.ref n) v = pure false ∨ ∃ b, v = .ref b ∧ b ≠ n ∧ ∃ o, s.heap.get? b = some o) ∧ R (.ok (.ret .notImplemented)) s) := .of_wp fun prog w A R s h => by
  obtain ⟨hn, hv, h⟩ := h
  refine wpAny_bind (m := slotArgs "__eq__" 1 _) (wpAny_pure ?_)
  refine wpAny_bind ?_
  have k : wpAny (model prog w) A.in1 (if false = true then ret (.bool true) else ret .notImplemented) (fun fin s' => ∃ v, fin = .done (.ret v) ∧ R (.ok (.ret v)) s') (fun e s' => R (.error e) s') s := wpAny_pure ⟨_, rfl, h⟩
  rcases hv with hp | ⟨b, rfl, hb, o, ho⟩
  · exact wpAny_of_eq hp k
  · exact wpAny_isSame_ref_other (Ne.symm hb) hn ho (by intro e; injection e with e; exact absurd e (by decide)) k
theorem null_eq_core {v : Value} {T id : String} {B : Builtin} {S : PySem.Spec} (hn : s.heap.get? n = some nullObj) (hT : s.TypeIs v T) (hsub : isSubtype (.type T) (.type "object") = pure true) (hne : (Value.type "object" != Value.type T) = true)
    (slot : Slot T (cmpInfo .Eq).2.2 id) (entry : entryFor table id = some B) (ok : argsOk id ⟨[v, .ref n], []⟩) (g : Meets (B ⟨[v, .ref n], []⟩) S) (hS : ∀ A R, R (.ok (.ret .notImplemented)) s → S A R s)
    (hv : isSame (.ref n) v = pure false ∨ ∃ b, v = .ref b ∧ b ≠ n ∧ ∃ o, s.heap.get? b = some o) (hu : A.units < cLine) (h : Q (.bool false) s) : wpAny (model prog w) A (compareOp .Eq (.ref n) v) Q E s := by
  show wpAny _ _ (richCompare .Eq _ _) _ _ _
  have hO : s.TypeIs (.ref n) "object" := ⟨_, hn, rfl⟩
  have h1 := PySem.F.slot_object_eq
  have h2 := slot
  rcases hi : cmpInfo CmpOp.Eq with ⟨sym, f, r⟩
  rw [hi] at h1 h2
  simp only [richCompare, hi, hO.oneThing_none]
  try with_reducible refine wpAny_holding ?_
  refine wpAny_bind (wpAny_cRoomFor_or (.inr hu) ?_)
  refine wpAny_bind (wpAny_typeOf hO (wpAny_bind (wpAny_typeOf hT ?_)))
  simp only [hne, if_true]
  refine wpAny_bind (wpAny_of_eq hsub ?_)
  simp only [if_true, Bool.not_true, Bool.false_eq_true, if_false]
  refine wpAny_bind (m := tryCompare v _ (.ref n)) (wpAny_tryCompare_declines hT h2 (call_meets h2 hT entry ok g (hS _ _ ⟨rfl, ?_⟩)))
  refine wpAny_bind (m := tryCompare (.ref n) _ v) (wpAny_tryCompare_declines hO h1 (call_meets h1 hO PySem.F.entry_object_eq (PySem.F.args_object_eq_2 _ _) obj_eq_null ⟨hn, hv, rfl, ?_⟩))
  refine wpAny_bind (wpAny_rule (wpAny_bind ?_))
  rcases hv with hp | ⟨b, rfl, hb, o, ho⟩
  · exact wpAny_of_eq hp (wpAny_pure h)
  · exact wpAny_isSame_ref_other (Ne.symm hb) hn ho (by intro e; injection e with e; exact absurd e (by decide)) (wpAny_pure h)
noncomputable def kindly : PyData → Bool
  | .none => true | .int _ => true | .str _ => true | .list _ => true | _ => false
theorem null_eq {v : Value} {d : PyData} (hn : s.heap.get? n = some nullObj) (r : RD s.heap v d) (hd : kindly d = true) (hu : A.units < cLine) (h : Q (.bool false) s) : wpAny (model prog w) A (compareOp .Eq (.ref n) v) Q E s := by
  cases d with
  | none =>
    obtain rfl := r.none_inv
    exact null_eq_core (T := "NoneType") (id := "NoneType.__eq__") hn rfl (by rw [isSubtype_type]; kernel_rfl) (by decide) PySem.F.slot_NoneType_eq_refl PySem.F.entry_NoneType_eq (PySem.F.args_NoneType_eq_2 _ _) none_eq_null (fun _ _ hR => ⟨hn, hR⟩) (.inl rfl) hu h
  | int i =>
    obtain ⟨t, rfl⟩ := r.int_inv
    exact null_eq_core (T := "int") (id := "int.__eq__") hn rfl (by rw [isSubtype_type]; kernel_rfl) (by decide) PySem.F.slot_int_eq_refl PySem.F.entry_int_eq (PySem.F.args_int_eq_2 _ _) int_eq_null (fun _ _ hR => ⟨hn, hR⟩) (.inl rfl) hu h
  | str x =>
    obtain ⟨t, rfl⟩ := r.str_inv
    exact null_eq_core (T := "str") (id := "str.__eq__") hn rfl (by rw [isSubtype_type]; kernel_rfl) (by decide) PySem.F.slot_str_eq_refl PySem.F.entry_str_eq (PySem.F.args_str_eq_2 _ _) str_eq_null (fun _ _ hR => ⟨hn, hR⟩) (.inl rfl) hu h
  | list ds =>
    obtain ⟨l, vs, rfl, ⟨o, ho, hc, hd'⟩, _⟩ := r.lst_inv
    refine null_eq_core (T := "list") (id := "list.__eq__") hn ⟨o, ho, hc⟩ (by rw [isSubtype_type]; kernel_rfl) (by decide) PySem.F.slot_list_eq_refl PySem.F.entry_list_eq (PySem.F.args_list_eq_2 _ _) list_eq_null (fun _ _ hR => ⟨hn, hR⟩) (.inr ⟨l, rfl, ?_, o, ho⟩) hu h
    rintro rfl
    rw [hn] at ho
    obtain rfl := Option.some.inj ho
    injection hc with e
    exact absurd e (by decide)
  | _ => cases hd
end
section
variable {prog : Program} {w : World} {A : Around} {E : Value → Shared → Prop} {h : Heap} {C : Addr} {M : Model}
structure TMk (M : Model) (h : Heap) (C : Addr) : Prop where
  obj : ∃ oc od cd sl, h.get? C = some ⟨oc, od, .cls cd, sl⟩ ∧ cd.abstract = false ∧ cd.hasDel = false ∧ cd.mro.isEmpty = false
  made : Looks M h (Bind.madeBy (.ref C)) none
  base : Looks M h (Bind.staticBase (.ref C)) (.type "tuple")
  self : Looks M h (isSubtype (.ref C) (.ref C)) true
  top : Looks M h (isSubtype (.ref C) (.type "tuple")) true
  topO : Looks M h (isSubtype (.ref C) (.type "object")) true
  init : Looks M h (typeLookup (.ref C) "__init__") (some (.builtin "object.__init__"))
  call : Looks M h (specialOf (.ref C) "__call__") (some (.builtin "type.__call__"))
  typ : Looks M h (isInstance (.ref C) (.type "type")) true
theorem made_tuple : Bind.madeBy (.type "tuple") = pure (some "tuple.__new__") := PySem.F.called_tuple.made
theorem solid_tuple : Builtin.Slots.bestBase [.type "tuple"] = pure (.type "tuple") := by kernel_rfl
theorem looks_at {α : Type} {t : Sem α} {r : α} {a : Addr} {o : Obj} (X : (heapK w.params).In h) (e : (heapK w.params).lookup a = some o)
    (q : ∀ (A : Around) (Q : α → Shared → Prop) (E : Value → Shared → Prop) (hh : Heap) g d tk os, (∀ b o, h.get? b = some o → hh.get? b = some o) → hh.get? a = some o → Q r ⟨hh, g, d, tk, os⟩ → wpAny M A t Q E ⟨hh, g, d, tk, os⟩) : Looks M h t r := by
  intro A Q E s k h
  obtain ⟨hh, g, d, tk, os⟩ := s
  exact q _ _ _ _ _ _ _ _ k (k _ _ (X _ _ e)) h
theorem made_328 (X : (heapK w.params).In h) : Looks M h (Bind.madeBy (.ref 328)) none := by
  refine' looks_at (a := 328) X ?e ?r
  (case e => k_is)
  intro A Q E hh g d tk os k ho q
  unfold Bind.madeBy
  repeat lk
  exact q
theorem base_328 (X : (heapK w.params).In h) : Looks M h (Bind.staticBase (.ref 328)) (.type "tuple") := by
  have hm := made_328 (M := M) X
  refine' looks_at (a := 328) X ?e ?r
  (case e => k_is)
  intro A Q E hh g d tk os k ho q
  have hm := hm.keeps k
  have h2 : Looks M hh (Bind.madeBy (.type "tuple")) (some "tuple.__new__") := Looks.of_pure made_tuple
  have h3 : Looks M hh (Builtin.Slots.bestBase [.type "tuple"]) (.type "tuple") := Looks.of_pure solid_tuple
  unfold Bind.staticBase
  repeat lk
  exact q
theorem made_180 (X : (heapK w.params).In h) : Looks M h (Bind.madeBy (.ref 180)) none := by
  refine' looks_at (a := 180) X ?e ?r
  (case e => k_is)
  intro A Q E hh g d tk os k ho q
  unfold Bind.madeBy
  repeat lk
  exact q
theorem made_203 (X : (heapK w.params).In h) : Looks M h (Bind.madeBy (.ref 203)) none := by
  refine' looks_at (a := 203) X ?e ?r
  (case e => k_is)
  intro A Q E hh g d tk os k ho q
  unfold Bind.madeBy
  repeat lk
  exact q
theorem names_tuple : Builtin.Slots.slotNamesOf (.type "tuple") = pure [] := by kernel_rfl
theorem own_tuple : ((Manifest.find? "tuple").elim false (·.ownLayout)) = true := by decide +kernel
theorem solid_180 (X : (heapK w.params).In h) : Looks M h (Builtin.Slots.bestBase [.ref 180]) (.ref 180) := by
  refine' looks_at (a := 180) X ?e ?r
  (case e => k_is)
  intro A Q E hh g d tk os k ho q
  have h2 : Looks M hh (Builtin.Slots.slotNamesOf (.type "tuple")) [] := Looks.of_pure names_tuple
  unfold Builtin.Slots.bestBase Builtin.Slots.solid
  repeat lk
  exact q
theorem looks_at2 {α : Type} {t : Sem α} {r : α} {a b : Addr} {o o' : Obj} (X : (heapK w.params).In h) (e : (heapK w.params).lookup a = some o) (e' : (heapK w.params).lookup b = some o')
    (q : ∀ (A : Around) (Q : α → Shared → Prop) (E : Value → Shared → Prop) (hh : Heap) g d tk os, (∀ b o, h.get? b = some o → hh.get? b = some o) → hh.get? a = some o → hh.get? b = some o' → Q r ⟨hh, g, d, tk, os⟩ → wpAny M A t Q E ⟨hh, g, d, tk, os⟩) : Looks M h t r := by
  intro A Q E s k h
  obtain ⟨hh, g, d, tk, os⟩ := s
  exact q _ _ _ _ _ _ _ _ k (k _ _ (X _ _ e)) (k _ _ (X _ _ e')) h
theorem base_203 (X : (heapK w.params).In h) : Looks M h (Bind.staticBase (.ref 203)) (.type "tuple") := by
  have hm := made_203 (M := M) X
  have hm2 := made_180 (M := M) X
  have hs := solid_180 (M := M) X
  refine' looks_at2 (a := 203) (b := 180) X ?e ?e' ?r
  (case e => k_is)
  (case e' => k_is)
  intro A Q E hh g d tk os k ho ho' q
  have hm := hm.keeps k
  have hm2 := hm2.keeps k
  have hs := hs.keeps k
  have h2 : Looks M hh (Bind.madeBy (.type "tuple")) (some "tuple.__new__") := Looks.of_pure made_tuple
  have h3 : Looks M hh (Builtin.Slots.bestBase [.type "tuple"]) (.type "tuple") := Looks.of_pure solid_tuple
  unfold Bind.staticBase
  repeat lk
  exact q
theorem Rm.crt {d u d' u' : Nat} {rest : List Value} (R : Rm A d u) (hd : d' + 1 ≤ d) (hu : u' + 1 ≤ u) : Rm (A.under (.builtin "type.__call__" ⟨.ref C :: rest, []⟩)) d' u' := by
  obtain ⟨l, hl⟩ := R.fr
  refine ⟨R.hd, ?_, ?_, ?_, ⟨l, ?_⟩⟩
  · have := R.dp; show A.depth + 1 + d' < 1000; omega
  · have := R.un; show A.units + 1 + u' < 9900; omega
  · have e : (Code.builtin "type.__call__" ⟨.ref C :: rest, []⟩).guards = [] := by
      have : (Code.builtin "type.__call__" ⟨.ref C :: rest, []⟩).isGuard = false := by show guardIds.contains "type.__call__" = false; decide
      simp [Code.guards, this]
    simp only [Around.under, e, pushGuards_eq, R.gd]; rfl
  · have e : (Code.builtin "type.__call__" ⟨.ref C :: rest, []⟩).envs = [] := by rfl
    simp only [Around.under, e, pushEnvs_eq, hl]; rfl
theorem tn_split : splitId "tuple.__new__" = some ("tuple", "__new__") := by decide +kernel
theorem tn_kind : builtinKind "tuple.__new__" = some .builtinFn := by decide +kernel
theorem tn_row : ∃ sig, Manifest.signature? "tuple.__new__" = some sig ∧ ∀ a b : Value, Bind.checkArgs "tuple.__new__" sig ⟨[a, b], []⟩ = pure () := by
  refine ⟨_, rfl, fun a b => ?_⟩
  kernel_rfl
noncomputable abbrev subTup (C dx : Addr) (vs : List Value) : Obj := { cls := .ref C, dict := some dx, data := .seq vs.toArray }
theorem tnew {R : Result → Shared → Prop} {T : Addr} {vs : List Value} {g : Array GenState} {d : Drawn} {t : Nat} {os : OsState} (Y : TMk (model prog w) h C) (hT : IsTup h T vs.toArray) (hsz : vs.length ≤ sizeLine)
    (hq : ∀ h', Kp h h' → R (.ok (.ret (.ref (h'.objs.size + 1)))) ⟨(h'.push emptyDict).push (subTup C h'.objs.size vs), g, d, t, os⟩) :
    codeAny (model prog w) A (.call (.builtin "tuple.__new__") ⟨[.ref C, .ref T], []⟩) R ⟨h, g, d, t, os⟩ := by
  have Y' := Y
  obtain ⟨⟨oc, od, cd, sl, hC, e1, e2, e4⟩, made, base, self, top, topO, init, call, typ⟩ := Y
  obtain ⟨o, ho, hc, n, hd⟩ := hT
  obtain ⟨sig, hsig, hargs⟩ := tn_row
  have h2 : Looks (model prog w) h (Bind.madeBy (.type "tuple")) (some "tuple.__new__") := Looks.of_pure made_tuple
  refine codeAny_call_builtin (by decide +kernel) PySem.F.entry_tuple_new ?_
  simp only [checkBuiltinCall, tn_kind, tn_split, hsig]
  rw [hargs]
  repeat (first | simp only [bne_self_eq_false, Bool.false_eq_true, if_false] | (with_reducible refine wpAny_collect_seq (T := "tuple") T (.inr rfl) ho hc hd ?_ (by simpa using hsz)) | lk)
  intro h' k
  have hC := k _ _ hC
  have hC2 := Heap.get?_push_of_some (subTup C h'.objs.size vs) (Heap.get?_push_of_some emptyDict hC)
  repeat lk
  rw [if_neg (by simpa using hsz)]
  unfold newObjAsIs classHasDel
  repeat lk
  rw [e2]
  repeat lk
  have := hq h' k
  rw [← Heap.size_push h' emptyDict] at this
  exact this
/-- a subclass of tuple is called: its own __new__ runs, object.__init__ follows -/
theorem make_T {R : Result → Shared → Prop} {p fN : Addr} {a0 : Value} {rest0 rest : List Value} {g : Array GenState} {d : Drawn} {t : Nat} {os : OsState} (X : (heapK w.params).In h) (Y : TMk (model prog w) h C)
    (hr : readsIn (heapK w.params) C (.type "type") = true) (hf : findCls (heapK w.params) (.ref C) (.type "type") "__new__" = some (.get (.builtin "staticmethod.__get__") (.ref p) .none (.ref C)))
    (hp : recIn (heapK w.params) p "staticmethod" = some [.ref fN]) (hh : handedIn (.ref fN) = true) (hrest : rest = a0 :: rest0) (hargs : ∀ x, argsOk "object.__init__" ⟨.ref x :: rest, []⟩)
    (hcall : ∀ tk, wpAny (model prog w) (A.under (.builtin "type.__call__" ⟨.ref C :: rest, []⟩)) (call (.ref fN) (.ref C :: rest) []) (fun v s' => ∃ x o, v = .ref x ∧ Kp h s'.heap ∧ s'.heap.get? x = some o ∧ o.cls = .ref C ∧ R (.ok (.ret (.ref x))) s') (fun e s' => R (.error e) s') ⟨h, g, d, tk, os⟩) :
    codeAny (model prog w) A (.call (.ref C) ⟨rest, []⟩) R ⟨h, g, d, t, os⟩ := by
  have Y' := Y
  obtain ⟨⟨oc, od, cd, sl, hC, e1, e2, e4⟩, made, base, self, top, topO, init, call, typ⟩ := Y
  refine codeAny_of_tree ?_
  show wpAny _ _ (callAny (.ref C) _) _ _ _
  refine nd_load hC ?_
  show wpAny _ _ (callAny.viaDunder (.ref C) _) _ _ _
  unfold callAny.viaDunder
  refine wpAny_bind (call.at ?_)
  dsimp only
  rw [tc_bind]
  refine wpAny_bind (wpAny_pure (wpAny_bind (wpAny_pure ?_)))
  refine wpAny_pure (a := Fin.again (.call (.builtin "type.__call__") ⟨.ref C :: rest, []⟩)) (And.intro rfl ?_)
  refine codeAny_call_builtin_at (Code.quiet_builtin _ (by decide +kernel)) entry_typeCall (check_slot tc_kind tc_split typ (tc_args _ _ _) ?_)
  unfold Builtin.«type.__call__»
  have hm : Looks (model prog w) h (mroOf (.ref C)) cd.mro := ((Looks.ld (part := none) hC).andThen .now).andThen .now
  repeat (first | simp only [e4, Bool.false_eq_true, if_false] | (with_reducible refine cls_bind X hr hf ?_) | (with_reducible refine wpAny_call ?_) | lk)
  refine sm_get X hp ?_
  show wpAny _ _ (handedOut _) _ _ _
  refine handed_on hh ?_
  refine wpAny_bind (wpAny_holding (wpAny_mono (hcall _) (fun v s' hv => ?_) fun _ _ z => z))
  obtain ⟨x, o, rfl, k, hx, hc, hR⟩ := hv
  obtain ⟨h', g, d, t, os⟩ := s'
  have made := made.keeps k
  have self := self.keeps k
  have init := init.keeps k
  have t1 : Looks (model prog w) h' (typeOf (.ref x)) (.ref C) := hc ▸ (Looks.ld hx).andThen .now
  unfold isInstance callSpecial? specialOf
  have topO := topO.keeps k
  repeat (first | simp only [Bool.not_true, Bool.false_eq_true, if_false] | (with_reducible refine wpAny_call ?_) | lk)
  have tO : Looks (model prog w) h' (isInstance (.ref x) (.type "object")) true := t1.andThen topO
  with_reducible refine codeAny_call_builtin oi_plain entry_oi (@check_slot (model prog w) _ _ ⟨h', g, d, t, os⟩ "object.__init__" "object" "__init__" (.ref x) rest [] _ oi_kind oi_split tO (hargs x) ?_)
  subst hrest
  unfold Builtin.«object.__init__»
  repeat (first | simp only [bne_self_eq_false, Bool.not_true, Bool.false_eq_true, if_false] | lk)
  exact hR
end
section
variable {prog : Program} {w : World} {A : Around} {E : Value → Shared → Prop} {s₀ : Shared} {h : Heap} {t : Nat} {Z : Heap}
theorem clsAt {C : Addr} {oc : Value} {od : Option Addr} {cd : ClassData} {sl : Array (Option Value)} (X : (heapK w.params).In h) (e : (heapK w.params).lookup C = some ⟨oc, od, .cls cd, sl⟩)
    (h1 : cd.abstract = false) (h2 : cd.hasDel = false) (h3 : cd.mro.isEmpty = false) : ∃ oc od cd sl, h.get? C = some ⟨oc, od, .cls cd, sl⟩ ∧ cd.abstract = false ∧ cd.hasDel = false ∧ cd.mro.isEmpty = false := ⟨_, _, _, _, X _ _ e, h1, h2, h3⟩
theorem tmk_328 {M : Model} (X : (heapK w.params).In h) : TMk M h 328 := by
  refine' ⟨?o, made_328 X, base_328 X, looks_mroIn X ?a, looks_mroIn X ?b, looks_mroIn X ?c, looks_findIn X ?d, looks_specialIn X ?e, looks_instIn X ?f⟩
  (case o => (refine' clsAt X ?o1 ?o2 ?o3 ?o4; (case o1 => k_is); (case o2 => rfl); (case o3 => rfl); (case o4 => rfl)))
  all_goals k_is
theorem tmk_203 {M : Model} (X : (heapK w.params).In h) : TMk M h 203 := by
  refine' ⟨?o, made_203 X, base_203 X, looks_mroIn X ?a, looks_mroIn X ?b, looks_mroIn X ?c, looks_findIn X ?d, looks_specialIn X ?e, looks_instIn X ?f⟩
  (case o => (refine' clsAt X ?o1 ?o2 ?o3 ?o4; (case o1 => k_is); (case o2 => rfl); (case o3 => rfl); (case o4 => rfl)))
  all_goals k_is
theorem St.tup {Z₀ h₀ : Heap} {L l : Addr} {m : Str → Option Value} {own own' : Own} {vs : List Value} (S : St Z₀ h₀ L Z m own h) (i : Dl l (TupO vs) own own') : IsTup h l vs.toArray := let ⟨_, e, p⟩ := S.mem i.mem; p.at e
theorem gmTupNew {Z₀ h₀ : Heap} {L : Addr} {m : Str → Option Value} {own : Own} {pl : Sem Bool} {Q : Value × List Value → Shared → Prop} (X : (heapK w.params).In h₀) (S : St Z₀ h₀ L Z m own h)
    (e : findCls (heapK w.params) (.type "tuple") (.type "type") "__new__" = some (.val (.builtin "tuple.__new__"))) (q : Q (.builtin "tuple.__new__", []) (sh s₀ h (t + 1))) : wpAny (model prog w) A (getMethod (.type "tuple") "__new__" pl) Q E (sh s₀ h t) :=
  by with_reducible exact method_type S.fr X PyProof.Rows.meta_tuple (by decide +kernel) e (by decide +kernel) q
theorem cTupNew {Z₀ h₀ : Heap} {L T C : Addr} {m : Str → Option Value} {own : Own} {vs : List Value} {Q : Value → Shared → Prop} (Y : TMk (model prog w) h C) (S : St Z₀ h₀ L Z m own h) (i : IsTup h T vs.toArray) (hsz : vs.length ≤ sizeLine)
    (q : ∀ x dx h' Z', Kp Z Z' → Z'.get? x = some (subTup C dx vs) → Z'.get? dx = some emptyDict → St Z₀ h₀ L Z' m own h' → Q (.ref x) (sh s₀ h' t)) :
    wpAny (model prog w) A (call (.builtin "tuple.__new__") [.ref C, .ref T] []) Q E (sh s₀ h t) := by
  refine wpAny_call (tnew Y i hsz fun h' k => ?_)
  obtain ⟨Z1, o1, k1, e1, rfl, S1⟩ := ((S.keep k).push (o := emptyDict) (P := IsO emptyDict) rfl rfl).frz .head
  obtain ⟨Z2, o2, k2, e2, rfl, S2⟩ := (S1.push (o := subTup C h'.objs.size vs) (P := IsO (subTup C h'.objs.size vs)) rfl rfl).frz .head
  rw [Heap.size_push] at e2
  exact q _ _ _ Z2 (fun b o e => k2 b o (k1 b o e)) e2 (k2 _ _ e1) S2
theorem new275 {Q : Value → Shared → Prop} {a b c : Value} (G : Gnd w Z) (hz : Kp Z h) (R : Rm A 20 60)
    (q : ∀ h' t' Z' x dx, ZX Z h Z' h' → Z'.get? x = some (subTup 328 dx [a, b, c]) → Z'.get? dx = some emptyDict → Q (.ref x) (sh s₀ h' t')) :
    wpAny (model prog w) A (call (.ref 275) [.ref 328, a, b, c] []) Q E (sh s₀ h t) := by
  refine' enterP (binds := [(Str.ofString "_cls", .ref 328), (Str.ofString "actual", a), (Str.ofString "expected", b), (Str.ofString "value", c)]) (bl := [(Str.ofString "value", c), (Str.ofString "expected", b), (Str.ofString "actual", a), (Str.ofString "_cls", .ref 328)]) G hz ?ho ?hcd ?hroom ?hbind rfl ?hloc ?body ?hcell ?c2 ?c3 ?c4
  (case ho => k_is)
  (case hcd => k_is)
  (case hroom => (have := R.dp; show _ < 1000; omega))
  (case hbind => exact BindsTo.of_eq rfl)
  (case hloc => exact locs rfl)
  (case hcell => decide)
  (case c2 => exact rfl)
  (case c3 => exact rfl)
  (case c4 => exact rfl)
  intro E' h t S
  show wpAny _ _ _ (Lv Q) _ _
  repeat' ktr_member
  with_reducible refine' gmTupNew (G.X.keeps hz) S ?e ?_
  (case e => k_is)
  repeat' ktr_member
  refine nTup S ?_; intro T h S
  repeat' ktr_member
  refine cTupNew (tmk_328 (gX G S)) S (S.tup .head) (by rw [sizeLine_eq]; show 3 ≤ _; decide) ?_; intro x dx h Z' kz hx hd S
  repeat' ktr_member
  exact q _ _ _ _ _ S.zx hx hd
theorem oi_args3 (x a b c : Value) : argsOk "object.__init__" ⟨[x, a, b, c], []⟩ := by unfold argsOk; kernel_rfl
theorem oi_args2 (x a b : Value) : argsOk "object.__init__" ⟨[x, a, b], []⟩ := by unfold argsOk; kernel_rfl
theorem mm_spec {Q : Value → Shared → Prop} {a b c : Value} (G : Gnd w Z) (hz : Kp Z h) (R : Rm A 21 61)
    (q : ∀ h' t' Z' x dx, ZX Z h Z' h' → Z'.get? x = some (subTup 328 dx [a, b, c]) → Z'.get? dx = some emptyDict → Q (.ref x) (sh s₀ h' t')) :
    wpAny (model prog w) A (call (.ref 328) [a, b, c] []) Q E (sh s₀ h t) := by
  have X := G.X.keeps hz
  refine' wpAny_call (make_T X (tmk_328 X) ?a ?b ?c rfl rfl (fun x => oi_args3 _ _ _ _) fun tk => ?d)
  (case a => k_is)
  (case b => k_is)
  (case c => k_is)
  exact new275 G hz (R.crt (by decide) (by decide)) fun h' t' Z' x dx z hx hd => ⟨x, _, rfl, z.keep, z.sub _ _ hx, rfl, q h' t' Z' x dx z hx hd⟩
theorem new130 {Q : Value → Shared → Prop} {a b : Value} (G : Gnd w Z) (hz : Kp Z h) (R : Rm A 20 60)
    (q : ∀ h' t' Z' x dx, ZX Z h Z' h' → Z'.get? x = some (subTup 203 dx [a, b]) → Z'.get? dx = some emptyDict → Q (.ref x) (sh s₀ h' t')) :
    wpAny (model prog w) A (call (.ref 130) [.ref 203, a, b] []) Q E (sh s₀ h t) := by
  refine' enterP (binds := [(Str.ofString "_cls", .ref 203), (Str.ofString "name", a), (Str.ofString "value", b)]) (bl := [(Str.ofString "value", b), (Str.ofString "name", a), (Str.ofString "_cls", .ref 203)]) G hz ?ho ?hcd ?hroom ?hbind rfl ?hloc ?body ?hcell ?c2 ?c3 ?c4
  (case ho => k_is)
  (case hcd => k_is)
  (case hroom => (have := R.dp; show _ < 1000; omega))
  (case hbind => exact BindsTo.of_eq rfl)
  (case hloc => exact locs rfl)
  (case hcell => decide)
  (case c2 => exact rfl)
  (case c3 => exact rfl)
  (case c4 => exact rfl)
  intro E' h t S
  show wpAny _ _ _ (Lv Q) _ _
  repeat' ktr_member
  with_reducible refine' gmTupNew (G.X.keeps hz) S ?e ?_
  (case e => k_is)
  repeat' ktr_member
  refine nTup S ?_; intro T h S
  repeat' ktr_member
  refine cTupNew (tmk_203 (gX G S)) S (S.tup .head) (by rw [sizeLine_eq]; show 2 ≤ _; decide) ?_; intro x dx h Z' kz hx hd S
  repeat' ktr_member
  exact q _ _ _ _ _ S.zx hx hd
theorem pair_spec {Q : Value → Shared → Prop} {a b : Value} (G : Gnd w Z) (hz : Kp Z h) (R : Rm A 21 61)
    (q : ∀ h' t' Z' x dx, ZX Z h Z' h' → Z'.get? x = some (subTup 203 dx [a, b]) → Z'.get? dx = some emptyDict → Q (.ref x) (sh s₀ h' t')) :
    wpAny (model prog w) A (call (.ref 203) [a, b] []) Q E (sh s₀ h t) := by
  have X := G.X.keeps hz
  refine' wpAny_call (make_T X (tmk_203 X) ?a ?b ?c rfl rfl (fun x => oi_args2 _ _ _) fun tk => ?d)
  (case a => k_is)
  (case b => k_is)
  (case c => k_is)
  exact new130 G hz (R.crt (by decide) (by decide)) fun h' t' Z' x dx z hx hd => ⟨x, _, rfl, z.keep, z.sub _ _ hx, rfl, q h' t' Z' x dx z hx hd⟩
end
noncomputable def LsO (vs : List Value) : OP := fun o => o.cls = .type "list" ∧ ∃ n, o.data = .seq vs.toArray n
noncomputable def RngO (a b : Int) : OP := fun o => ∃ t u v, o = { cls := .type "range", dict := none, data := .fields #[.int a t, .int b u, .int 1 v], slots := #[] }
noncomputable def RitO (x left : Int) : OP := IsO { cls := .type "range_iterator", dict := none, data := .fields #[rawInt x, rawInt left, rawInt 1], slots := #[] }
section
variable {prog : Program} {w : World} {A : Around} {E : Value → Shared → Prop} {s₀ : Shared} {h : Heap} {t : Nat} {Z Z₀ h₀ : Heap} {L l it d : Addr} {m : Str → Option Value} {own own' : Own} {vs ws : List Value} {v x : Value} {env : Env} {tk u : Tok} {n : Addr}
theorem cRange {a b : Int} {Q : Value → Shared → Prop} (S : St Z₀ h₀ L Z m own h) (q : ∀ r h' t', St Z₀ h₀ L Z m ((r, RngO a b) :: own) h' → Q (.ref r) (sh s₀ h' t')) : wpAny (model prog w) A (call (.type "range") [.int a tk, .int b u]) Q E (sh s₀ h t) :=
  PySem.call_range_2 (q _ _ _ (S.push rfl ⟨_, _, _, rfl⟩))
theorem cRange1 {b : Int} {Q : Value → Shared → Prop} (S : St Z₀ h₀ L Z m own h) (q : ∀ r h' t', St Z₀ h₀ L Z m ((r, RngO 0 b) :: own) h' → Q (.ref r) (sh s₀ h' t')) : wpAny (model prog w) A (call (.type "range") [.int b u]) Q E (sh s₀ h t) :=
  PySem.call_range_1 (q _ _ _ (S.push rfl ⟨_, _, _, rfl⟩))
theorem itR {a b : Int} {Q : Value → Shared → Prop} (S : St Z₀ h₀ L Z m own h) (i : (l, RngO a b) ∈ own) (h0 : 0 ≤ a) (h1 : a ≤ b) (h2 : b < 1000000) (q : ∀ it h', St Z₀ h₀ L Z m ((it, RitO a (b - a)) :: own) h' → Q (.ref it) (sh s₀ h' t)) : wpAny (model prog w) A (pyIter (.ref l)) Q E (sh s₀ h t) := by
  obtain ⟨o, ho, _, _, _, rfl⟩ := S.mem i
  refine wpAny_pyIter_range ho (small_one (by omega) (by omega) (by omega) (by omega)) ?_
  have e : Builtin.Range.rangeSize a b 1 = b - a := by rw [rangeSize_one]; split <;> omega
  rw [e]
  exact q _ _ (S.push rfl rfl)
theorem nxR {a left : Int} {Q : Option Value → Shared → Prop} (S : St Z₀ h₀ L Z m own h) (u : Rp it (RitO a left) (RitO (a + 1) (left - 1)) own own') (hl : 0 < left) (q : ∀ h' tk t', St Z₀ h₀ L Z m own' h' → Q (some (.int a tk)) (sh s₀ h' t')) :
    wpAny (model prog w) A (pyNext (.ref it)) Q E (sh s₀ h t) := by
  obtain ⟨o, ho, rfl⟩ := S.mem u.mem
  exact wpAny_pyNext_range_item ho hl fun h' hi hs => q h' _ _ (S.upd u hs.extBut hi rfl)
theorem nxRe {a left : Int} {Q : Option Value → Shared → Prop} (S : St Z₀ h₀ L Z m own h) (hh : A.handled = none) (u : Dl it (RitO a left) own own') (hl : left ≤ 0) (q : ∀ h', St Z₀ h₀ L Z m own' h' → Q none (sh s₀ h' t)) :
    wpAny (model prog w) A (pyNext (.ref it)) Q E (sh s₀ h t) := by
  obtain ⟨o, ho, rfl⟩ := S.mem u.mem
  exact wpAny_pyNext_range_end hh ho hl fun h' hk => q h' (S.del u hk)
theorem cLenL {Q : Value → Shared → Prop} (il : h.IsList l vs.toArray) (hn : vs.length < 1000000000) (q : ∀ tk t', Q (.int vs.length tk) (sh s₀ h t')) : wpAny (model prog w) A (call (.builtin "len") [.ref l]) Q E (sh s₀ h t) :=
  PySem.Calls.call_len_list il (by simp; omega) (by have := q (t + 1) (t + 1 + 1); simpa using this)
theorem cListL {Q : Value → Shared → Prop} (S : St Z₀ h₀ L Z m own h) (il : h.IsList l vs.toArray) (hn : vs.length ≤ sizeLine) (q : ∀ x h', St Z₀ h₀ L Z m ((x, LsO vs) :: own) h' → Q (.ref x) (sh s₀ h' t)) : wpAny (model prog w) A (call (.type "list") [.ref l]) Q E (sh s₀ h t) := by
  obtain ⟨o, ho, hc, n, hd⟩ := il
  refine call_list_seq (hsz := by simpa using hn) l (.inl rfl) ho hc hd fun h' c' k hx => q _ h' (S.add k (get?_size h) hx ⟨rfl, c', rfl⟩)
theorem St.ls (S : St Z₀ h₀ L Z m own h) (i : (l, LsO vs) ∈ own) : h.IsList l vs.toArray := let ⟨o, e, c, p⟩ := S.mem i; ⟨o, e, c, p⟩
theorem sSet {Q : Unit → Shared → Prop} {k : Int} (S : St Z₀ h₀ L Z m own h) (u : Rp l (LsO vs) (LsO (vs.set k.toNat v)) own own') (h0 : 0 ≤ k) (hk : k < vs.length) (hn : vs.length < 1000000) (q : ∀ h', St Z₀ h₀ L Z m own' h' → Q () (sh s₀ h' t)) :
    wpAny (model prog w) A (setItem (.ref l) (.int k tk) v) Q E (sh s₀ h t) := by
  refine wpAny_setItem_list (S.ls u.mem) h0 (by omega) (by simpa using hk) fun h' hl hs => ?_
  obtain ⟨o, ho, hc, n, hd⟩ := hl
  exact q h' (S.upd u hs.extBut ho ⟨hc, n, by simpa using hd⟩)
theorem xAug {x : Str} {pos' pos : Pos} {op : Operator} {value : Expr} {Q : Flow → Shared → Prop} {s : Shared}
    (h : wpAny (model prog w) A (loadName env x) (fun old s₁ => wpAny (model prog w) A (eval value env) (fun v s₂ => wpAny (model prog w) A (inplaceOp op old v) (fun r s₃ => wpAny (model prog w) A (storeName env x r) (fun _ => Q .next) E s₃) E s₂) E s₁) E s) :
    wpAny (model prog w) A (exec (.AugAssign (.Name x pos') op value pos) env) Q E s := wpAny_AugAssign_Name h
theorem iAdd {a b : Int} {Q : Value → Shared → Prop} (q : ∀ tk t', Q (.int (a + b) tk) (sh s₀ h t')) : wpAny (model prog w) A (inplaceOp .Add (.int a tk) (.int b u)) Q E (sh s₀ h t) := wpAny_iadd_int (q _ _)
theorem isNull {d : PyData} {Q : Value → Shared → Prop} {s : Shared} (hn : s.heap.get? n = some nullObj) (r : RD s.heap v d) (hd : kindly d = true) (q : Q (.bool false) s) : wpAny (model prog w) A (compareOp .Is v (.ref n)) Q E s := by
  cases d with
  | none => obtain rfl := r.none_inv; exact wpAny_is_other rfl (by intro e; cases e) q
  | int i => obtain ⟨t, rfl⟩ := r.int_inv; exact wpAny_is_other rfl (by intro e; cases e) q
  | str i => obtain ⟨t, rfl⟩ := r.str_inv; exact wpAny_is_other rfl (by intro e; cases e) q
  | list ds =>
    obtain ⟨l, vs, rfl, ⟨o, ho, hc, _⟩, _⟩ := r.lst_inv
    refine wpAny_is_ref_other ?_ ho hn (by rw [hc]; intro e; injection e with e; exact absurd e (by decide)) q
    rintro rfl
    rw [hn] at ho
    obtain rfl := Option.some.inj ho
    injection hc with e
    exact absurd e (by decide)
  | _ => cases hd
theorem eqRD {a b : Value} {da db : PyData} {Q : Value → Shared → Prop} {s : Shared} (ra : RD s.heap a da) (rb : RD s.heap b db) (ha : da.canLay0 = true) (hb : db.canLay0 = true) (hu : A.units + db.depth < 9900) (q : Q (.bool (PyData.eqv da db)) s) :
    wpAny (model prog w) A (compareOp .Eq a b) Q E s := let ⟨_, ra⟩ := ra; let ⟨_, rb⟩ := rb; PySem.SeqAt.compareEq_reads ra rb ha hb (by have := Nat.min_le_right da.depth db.depth; show _ < 9900; omega) q
noncomputable def RitE (x e : Nat) : OP := RitO x ((e : Int) - x)
theorem itRE {x e : Nat} {a b : Int} {Q : Value → Shared → Prop} (S : St Z₀ h₀ L Z m own h) (i : (l, RngO a b) ∈ own) (ha : a = x) (hb : b = e) (h1 : x ≤ e) (h2 : e < 1000000) (q : ∀ it h', St Z₀ h₀ L Z m ((it, RitE x e) :: own) h' → Q (.ref it) (sh s₀ h' t)) : wpAny (model prog w) A (pyIter (.ref l)) Q E (sh s₀ h t) := by
  subst ha hb
  exact itR S i (by omega) (by omega) (by omega) q
theorem nxRE {x e : Nat} {Q : Option Value → Shared → Prop} (S : St Z₀ h₀ L Z m own h) (u : Rp it (RitE x e) (RitE (x + 1) e) own own') (hl : x < e) (q : ∀ h' tk t', St Z₀ h₀ L Z m own' h' → Q (some (.int x tk)) (sh s₀ h' t')) :
    wpAny (model prog w) A (pyNext (.ref it)) Q E (sh s₀ h t) := by
  have e1 : RitE (x + 1) e = RitO ((x : Int) + 1) ((e : Int) - x - 1) := by unfold RitE; congr 1; omega
  rw [e1] at u
  exact nxR S u (by omega) q
theorem nxREe {x e : Nat} {Q : Option Value → Shared → Prop} (S : St Z₀ h₀ L Z m own h) (hh : A.handled = none) (u : Dl it (RitE x e) own own') (hl : e ≤ x) (q : ∀ h', St Z₀ h₀ L Z m own' h' → Q none (sh s₀ h' t)) :
    wpAny (model prog w) A (pyNext (.ref it)) Q E (sh s₀ h t) := nxRe S hh u (by omega) q
end
inductive Good : PyData → Prop
  | none : Good .none
  | int (i : Int) : i.natAbs < 1000 → Good (.int i)
  | str (s : Str) : PyData.strOk s = true → Good (.str s)
  | nil : Good (.list [])
  | pair {a : PyData} (i : Int) : i.natAbs < 1000 → Good a → Good (.list [a, .int i])
theorem Good.kind {d : PyData} (g : Good d) : kindly d = true := by cases g <;> rfl
theorem Good.can {d : PyData} (g : Good d) : d.canLay0 = true := by
  induction g with
  | pair i _ g ih => simp [PyData.canLay0, PyData.canLayAll0, ih]
  | str s h => simp [PyData.canLay0, h]
  | _ => simp [PyData.canLay0, PyData.canLayAll0]
theorem log_small {n : Nat} (h : n < 1000) : n.log2 < 1920 := by
  rcases Nat.eq_zero_or_pos n with rfl | hp
  · decide
  · have : n.log2 < 10 := (Nat.log2_lt (by omega)).mpr (by omega)
    omega
theorem Good.show {d : PyData} (g : Good d) : d.showable = true := by
  induction g with
  | pair i h g ih => simp [PyData.showable, PyData.showableAll, ih, log_small h]
  | int i h => simp [PyData.showable, log_small h]
  | _ => simp [PyData.showable, PyData.showableAll]
theorem Good.nodict {d : PyData} (g : Good d) : d.hasDict = false := by
  induction g with
  | pair i h g ih => simp [PyData.hasDict, PyData.hasDictAll, ih]
  | _ => simp [PyData.hasDict, PyData.hasDictAll]
theorem Good.eqv {x y : PyData} (gx : Good x) (gy : Good y) : PyData.eqv x y = true ↔ x = y := by
  induction gx generalizing y with
  | none => cases gy <;> simp [PyData.eqv]
  | int i _ => cases gy <;> simp [PyData.eqv]
  | str s h => cases gy <;> simp [PyData.eqv]
  | nil => cases gy <;> simp [PyData.eqv, PyData.eqvAll]
  | pair i _ g ih =>
    cases gy with
    | pair j _ g2 => simp [PyData.eqv, PyData.eqvAll, ih g2]
    | _ => simp [PyData.eqv, PyData.eqvAll]
noncomputable def seenB (seen : List PyData) (d : PyData) : Bool := seen.any fun y => PyData.eqv y d
noncomputable def cnt (ds : List PyData) (e : PyData) : Nat := ds.countP fun y => PyData.eqv y e
noncomputable abbrev Row := Nat × Nat × PyData
noncomputable def cdStep (old new : List PyData) (st : List PyData × List Row) (e : PyData) : List PyData × List Row :=
  if seenB st.1 e then st else (st.1 ++ [e], if cnt old e != cnt new e then st.2 ++ [(cnt old e, cnt new e, e)] else st.2)
noncomputable def cdSt (old new pre : List PyData) : List PyData × List Row := pre.foldl (cdStep old new) ([], [])
noncomputable def cdiff (old new : List PyData) : List Row := (cdSt old new (old ++ new)).2
theorem seenB_iff {seen : List PyData} {d : PyData} (gs : ∀ y ∈ seen, Good y) (gd : Good d) : seenB seen d = true ↔ d ∈ seen := by
  unfold seenB
  rw [List.any_eq_true]
  constructor
  · rintro ⟨y, hy, e⟩
    rw [← ((gs y hy).eqv gd).mp e]; exact hy
  · intro h; exact ⟨d, h, (gd.eqv gd).mpr rfl⟩
theorem cd_snoc (old new pre : List PyData) (e : PyData) : cdSt old new (pre ++ [e]) = cdStep old new (cdSt old new pre) e := by unfold cdSt; rw [List.foldl_append]; rfl
theorem cd_inv {old new : List PyData} : ∀ (n : Nat) (pre : List PyData), pre.length = n → (∀ d ∈ pre, Good d) → (∀ d, d ∈ (cdSt old new pre).1 ↔ d ∈ pre) ∧ (cdSt old new pre).2.length ≤ pre.length ∧ (∀ r ∈ (cdSt old new pre).2, r.2.2 ∈ pre ∧ r.1 = cnt old r.2.2 ∧ r.2.1 = cnt new r.2.2)
  | 0, pre, hn, _ => by obtain rfl := List.eq_nil_of_length_eq_zero hn; exact ⟨fun d => Iff.rfl, Nat.le_refl _, fun r hr => nomatch hr⟩
  | n + 1, pre, hn, g => by
    obtain ⟨p, e, rfl⟩ : ∃ p e, pre = p ++ [e] := ⟨pre.dropLast, pre.getLast (by intro h; rw [h] at hn; cases hn), (List.dropLast_concat_getLast _).symm⟩
    obtain ⟨i1, i2, i3⟩ := cd_inv n p (by simpa using hn) fun d hd => g d (List.mem_append.mpr (.inl hd))
    have ge : Good e := g e (by simp)
    have gs : ∀ y ∈ (cdSt old new p).1, Good y := fun y hy => g y (List.mem_append.mpr (.inl ((i1 y).mp hy)))
    rw [cd_snoc]
    unfold cdStep
    by_cases hs : seenB (cdSt old new p).1 e = true
    · rw [if_pos hs]
      have he : e ∈ p := (i1 e).mp ((seenB_iff gs ge).mp hs)
      refine ⟨fun d => ?_, by simp; omega, fun r hr => ?_⟩
      · rw [i1, List.mem_append, List.mem_singleton]
        constructor
        · exact .inl
        · rintro (h | rfl)
          · exact h
          · exact he
      · obtain ⟨a, b⟩ := i3 r hr
        exact ⟨List.mem_append.mpr (.inl a), b⟩
    · rw [if_neg hs]
      refine ⟨fun d => ?_, ?_, fun r hr => ?_⟩
      · rw [List.mem_append, i1, List.mem_append]
      · rw [List.length_append, List.length_singleton]
        split
        · show ((cdSt old new p).2 ++ [_]).length ≤ _; rw [List.length_append, List.length_singleton]; omega
        · show (cdSt old new p).2.length ≤ _; omega
      · by_cases hc : (cnt old e != cnt new e) = true
        · simp only [hc, if_true] at hr
          rcases List.mem_append.mp hr with hr | hr
          · obtain ⟨a, b⟩ := i3 r hr
            exact ⟨List.mem_append.mpr (.inl a), b⟩
          · rw [List.mem_singleton] at hr
            subst hr
            exact ⟨by simp, rfl, rfl⟩
        · simp only [hc] at hr
          obtain ⟨a, b⟩ := i3 r hr
          exact ⟨List.mem_append.mpr (.inl a), b⟩
theorem cnt_zero {old : List PyData} {e : PyData} (go : ∀ d ∈ old, Good d) (ge : Good e) (h : e ∉ old) : cnt old e = 0 := by
  unfold cnt
  rw [List.countP_eq_zero]
  intro y hy hq
  rw [((go y hy).eqv ge).mp hq] at hy
  exact h hy
theorem cnt_pos {new : List PyData} {e : PyData} (ge : Good e) (h : e ∈ new) : 0 < cnt new e := by
  unfold cnt
  rw [List.countP_pos_iff]
  exact ⟨e, h, (ge.eqv ge).mpr rfl⟩
theorem cnt_le (ds : List PyData) (e : PyData) : cnt ds e ≤ ds.length := List.countP_le_length
theorem cnt_snoc {ds : List PyData} {e : PyData} {i : Nat} (hi : i < ds.length) : cnt (ds.take (i + 1)) e = cnt (ds.take i) e + (if PyData.eqv ds[i] e = true then 1 else 0) := by
  unfold cnt
  rw [take_snoc hi, List.countP_append]
  by_cases h : PyData.eqv ds[i] e = true <;> simp [h]
/-- a list part of whose items are crossed out -/
noncomputable def Msk (xs vs : List Value) (p : Nat → Bool) (n : Value) : Prop := xs.length = vs.length ∧ ∀ j, j < vs.length → xs[j]? = cond (p j) (some n) vs[j]?
theorem Msk.init {vs : List Value} {p : Nat → Bool} {n : Value} (h : ∀ j, j < vs.length → p j = false) : Msk vs vs p n := ⟨rfl, fun j hj => by rw [h j hj]; rfl⟩
theorem Msk.congr {xs vs : List Value} {p q : Nat → Bool} {n : Value} (m : Msk xs vs p n) (h : ∀ j, j < vs.length → q j = p j) : Msk xs vs q n := ⟨m.1, fun j hj => by rw [h j hj]; exact m.2 j hj⟩
theorem Msk.on {xs vs : List Value} {p : Nat → Bool} {n : Value} (m : Msk xs vs p n) {j : Nat} (hj : j < vs.length) (h : p j = true) : xs[j]? = some n := by rw [m.2 j hj, h]; rfl
theorem Msk.off {xs vs : List Value} {p : Nat → Bool} {n v : Value} (m : Msk xs vs p n) {j : Nat} (hv : vs[j]? = some v) (h : p j = false) : xs[j]? = some v := by
  have hj : j < vs.length := by rcases Nat.lt_or_ge j vs.length with h | h; exact h; rw [List.getElem?_eq_none h] at hv; cases hv
  rw [m.2 j hj, h]; exact hv
theorem Msk.set {xs vs : List Value} {p q : Nat → Bool} {n : Value} (m : Msk xs vs p n) {k : Nat} (hk : k < vs.length) (h : ∀ j, j < vs.length → q j = (decide (j = k) || p j)) : Msk (xs.set k n) vs q n := by
  refine ⟨by rw [List.length_set]; exact m.1, fun j hj => ?_⟩
  rw [h j hj, List.getElem?_set]
  by_cases e : k = j
  · subst e; simp [m.1, hk]
  · have e2 : ¬ j = k := fun q => e q.symm
    simp [e, e2, m.2 j hj]
noncomputable def RowAt (Z : Heap) (v : Value) (r : Row) : Prop := ∃ x dx ta tb e, v = .ref x ∧ Z.get? x = some (subTup 328 dx [.int r.1 ta, .int r.2.1 tb, e]) ∧ Z.get? dx = some emptyDict ∧ RD Z e r.2.2
inductive RowsAt (Z : Heap) : List Value → List Row → Prop
  | nil : RowsAt Z [] []
  | cons {v r vs rs} : RowAt Z v r → RowsAt Z vs rs → RowsAt Z (v :: vs) (r :: rs)
theorem RowAt.keeps {Z Z' : Heap} {v : Value} {r : Row} (k : Kp Z Z') (a : RowAt Z v r) : RowAt Z' v r := by obtain ⟨x, dx, ta, tb, e, h1, h2, h3, h4⟩ := a; exact ⟨x, dx, ta, tb, e, h1, k _ _ h2, k _ _ h3, h4.keeps k⟩
theorem RowsAt.keeps {Z Z' : Heap} {vs : List Value} {rs : List Row} (k : Kp Z Z') (a : RowsAt Z vs rs) : RowsAt Z' vs rs := by
  induction a with
  | nil => exact .nil
  | cons a _ ih => exact .cons (a.keeps k) ih
theorem RowsAt.snoc {Z : Heap} {vs : List Value} {rs : List Row} {v : Value} {r : Row} (a : RowsAt Z vs rs) (b : RowAt Z v r) : RowsAt Z (vs ++ [v]) (rs ++ [r]) := by
  induction a with
  | nil => exact .cons b .nil
  | cons a _ ih => exact .cons a ih
theorem dec_ne {j n : Nat} (h : ¬ j = n) : decide (j < n + 1) = decide (j < n) := by rw [decide_eq_decide]; omega
theorem ne_cast (a b : Nat) : ((a : Int) != (b : Int)) = (a != b) := by rw [Bool.eq_iff_iff, bne_iff_ne, bne_iff_ne]; omega
theorem RowsAt.len {Z : Heap} {vs : List Value} {rs : List Row} (a : RowsAt Z vs rs) : vs.length = rs.length := by
  induction a with
  | nil => rfl
  | cons _ _ ih => simp [ih]
section
variable {prog : Program} {w : World} {A : Around} {E : Value → Shared → Prop} {s₀ : Shared} {h : Heap} {t : Nat} {Z : Heap}
theorem xSw2 {a b : Str} {pa pb tpos pos : Pos} {k : Nat} {value : Expr} {env : Env} {Q : Flow → Shared → Prop} (hh : A.handled = none)
    (hx : wpAny (model prog w) A (eval value env) (fun v s₁ => ∃ T x y h t, v = .ref T ∧ s₁ = sh s₀ h t ∧ IsTup h T [x, y].toArray ∧ ∀ h', Kp h h' → wpAny (model prog w) A (storeName env b y) (fun _ s₂ => wpAny (model prog w) A (storeName env a x) (fun _ => Q .next) E s₂) E (sh s₀ h' t)) E (sh s₀ h t))
    (hs : swapsWithSole [.Tuple [.Name a pa, .Name b pb] k tpos] value pos.line env = pure false := by rfl)
    (hw : swappedStores [.Tuple [.Name a pa, .Name b pb] k tpos] value env = pure (some [a, b]) := by rfl) :
    wpAny (model prog w) A (exec (.Assign [.Tuple [.Name a pa, .Name b pb] k tpos] value pos) env) Q E (sh s₀ h t) := by
  refine Assign_Tuple_swapped (names := [a, b]) (wpAny_mono hx (fun v s₁ h₁ => ?_) fun _ _ x => x) hs hw
  obtain ⟨T, x, y, h, t, rfl, rfl, iT, h₁⟩ := h₁
  show wpAny _ _ (unpackItems (.ref T) ([x, y].toArray.size) none) _ _ _
  refine unpackItems_tuple hh iT fun h' he => ?_
  have := h₁ h' fun b o e => he b o (Nat.ne_of_lt (Heap.lt_size e)) e
  show wpAny _ _ (assignInOrder [bindName env b, bindName env a] [y, x]) _ _ _
  exact aoC (PyProof.Rows.bindName_ (wpAny_mono this (fun _ s₂ h₂ => aoC (PyProof.Rows.bindName_ (wpAny_mono h₂ (fun _ _ h₃ => aoN h₃) fun _ _ x => x))) fun _ _ x => x))
theorem St.drop {Z₀ h₀ : Heap} {L l : Addr} {m : Str → Option Value} {own own' : Own} {P : OP} (S : St Z₀ h₀ L Z m own h) (u : Dl l P own own') : St Z₀ h₀ L Z m own' h := S.del u fun _ _ _ e => e
theorem cObj {Z₀ h₀ : Heap} {L : Addr} {m : Str → Option Value} {own : Own} {Q : Value → Shared → Prop} (S : St Z₀ h₀ L Z m own h) (q : ∀ x h', St Z₀ h₀ L Z m ((x, IsO nullObj) :: own) h' → Q (.ref x) (sh s₀ h' t)) : wpAny (model prog w) A (call (.type "object") []) Q E (sh s₀ h t) :=
  call_object (q _ _ (S.push rfl rfl))
theorem St.isO {Z₀ h₀ : Heap} {L l : Addr} {m : Str → Option Value} {own : Own} {o : Obj} (S : St Z₀ h₀ L Z m own h) (i : (l, IsO o) ∈ own) : h.get? l = some o := let ⟨_, e, p⟩ := S.mem i; p ▸ e
theorem cdiff_spec {Q : Value → Shared → Prop} {av bv : Value} {old new : List PyData} (G : Gnd w Z) (hz : Kp Z h) (R : Rm A 40 120) (ha : RD Z av (.list old)) (hb : RD Z bv (.list new)) (n1 : old.length ≤ 1000) (n2 : new.length ≤ 1000)
    (go : ∀ d ∈ old ++ new, Good d ∧ d.depth ≤ 60)
    (q : ∀ h' t' Z' l vs, ZX Z h Z' h' → Z'.IsList l vs.toArray → RowsAt Z' vs (cdiff old new) → Q (.ref l) (sh s₀ h' t')) :
    wpAny (model prog w) A (call (.ref 338) [av, bv] []) Q E (sh s₀ h t) := by
  obtain ⟨l1, vs1, rfl, il1, rs1⟩ := ha.lst_inv
  obtain ⟨l2, vs2, rfl, il2, rs2⟩ := hb.lst_inv
  refine' enterP (binds := [(Str.ofString "actual", .ref l1), (Str.ofString "expected", .ref l2)]) (bl := [(Str.ofString "expected", .ref l2), (Str.ofString "actual", .ref l1)]) G hz ?ho ?hcd ?hroom ?hbind rfl ?hloc ?body ?hcell ?c2 ?c3 ?c4
  (case ho => k_is)
  (case hcd => k_is)
  (case hroom => (have := R.dp; show _ < 1000; omega))
  (case hbind => exact BindsTo.of_eq rfl)
  (case hloc => exact locs rfl)
  (case hcell => decide)
  (case c2 => exact rfl)
  (case c3 => exact rfl)
  (case c4 => exact rfl)
  intro E' h t S
  show wpAny _ _ _ (Lv Q) _ _
  repeat' ktr_member
  refine' xSw2 R.hd ?_ ?w1 ?w2
  (case w1 => exact rfl)
  (case w2 => exact rfl)
  repeat' ktr_member
  refine cListL S (IsL.keeps il1 S.zi) (by rw [rs1.len, sizeLine_eq]; omega) ?_; intro ls h S
  repeat' ktr_member
  refine cListL S (IsL.keeps il2 S.zi) (by rw [rs2.len, sizeLine_eq]; omega) ?_; intro lt h S
  repeat' ktr_member
  refine nTup S ?_; intro T h S
  refine ⟨T, _, _, _, _, rfl, rfl, S.tup .head, fun h' k => ?_⟩
  have S := (S.keep k).drop .head
  clear k
  repeat' ktr_member
  refine' xSw2 R.hd ?_ ?w1 ?w2
  (case w1 => exact rfl)
  (case w2 => exact rfl)
  repeat' ktr_member
  refine cLenL (S.ls (by (repeat (first | exact List.Mem.head _ | apply List.Mem.tail)))) (by rw [rs1.len]; omega) ?_; intro tkm t
  repeat' ktr_member
  refine cLenL (S.ls (by (repeat (first | exact List.Mem.head _ | apply List.Mem.tail)))) (by rw [rs2.len]; omega) ?_; intro tkn t
  repeat' ktr_member
  refine nTup S ?_; intro T2 h S
  refine ⟨T2, _, _, _, _, rfl, rfl, S.tup .head, fun h' k => ?_⟩
  have S := (S.keep k).drop .head
  clear k
  repeat' ktr_member
  refine cObj S ?_; intro nu h S
  repeat' ktr_member
  refine nLst S ?_; intro lr h S
  repeat' ktr_member
  refine cEnum S (S.ls (by (repeat (first | exact List.Mem.head _ | apply List.Mem.tail)))) ?_; intro e1 it1 h hne S
  repeat' ktr_member
  refine itE S (by (repeat (first | exact List.Mem.head _ | apply List.Mem.tail))) ?_
  intro E2
  have l1e := rs1.len
  have l2e := rs2.len
  have go1 : ∀ d ∈ old, Good d := fun d hd => (go d (List.mem_append.mpr (.inl hd))).1
  have go2 : ∀ d ∈ new, Good d := fun d hd => (go d (List.mem_append.mpr (.inr hd))).1
  refine floopT (fun i h => ∃ Z4 m xs ys rvs ov, Kp Z Z4 ∧ St _ _ _ Z4 m [(e1, EnO it1 i ov), (it1, LitO ls i), (lr, LstO rvs), (nu, IsO nullObj), (lt, LsO ys), (ls, LsO xs)] h ∧
    m (Str.ofString "s") = some (.ref ls) ∧ m (Str.ofString "t") = some (.ref lt) ∧ m (Str.ofString "m") = some (.int vs1.length tkm) ∧ m (Str.ofString "n") = some (.int vs2.length tkn) ∧ m (Str.ofString "NULL") = some (.ref nu) ∧ m (Str.ofString "result") = some (.ref lr) ∧
    Msk xs vs1 (fun j => seenB (cdSt old new (old.take i)).1 (old.getD j .none)) (.ref nu) ∧ Msk ys vs2 (fun j => seenB (cdSt old new (old.take i)).1 (new.getD j .none)) (.ref nu) ∧ RowsAt Z4 rvs (cdSt old new (old.take i)).2) old.length
    (ix6 (a := Z) (in11 (fun _ _ e => e) S (by (repeat (first | with_reducible exact upd_s | with_reducible exact mOf_s | with_reducible assumption | with_reducible refine upd_n (by kernel_rfl!) ?_ | with_reducible refine mOf_n (by kernel_rfl!) ?_))) (by (repeat (first | with_reducible exact upd_s | with_reducible exact mOf_s | with_reducible assumption | with_reducible refine upd_n (by kernel_rfl!) ?_ | with_reducible refine mOf_n (by kernel_rfl!) ?_))) (by (repeat (first | with_reducible exact upd_s | with_reducible exact mOf_s | with_reducible assumption | with_reducible refine upd_n (by kernel_rfl!) ?_ | with_reducible refine mOf_n (by kernel_rfl!) ?_))) (by (repeat (first | with_reducible exact upd_s | with_reducible exact mOf_s | with_reducible assumption | with_reducible refine upd_n (by kernel_rfl!) ?_ | with_reducible refine mOf_n (by kernel_rfl!) ?_))) (by (repeat (first | with_reducible exact upd_s | with_reducible exact mOf_s | with_reducible assumption | with_reducible refine upd_n (by kernel_rfl!) ?_ | with_reducible refine mOf_n (by kernel_rfl!) ?_))) (by (repeat (first | with_reducible exact upd_s | with_reducible exact mOf_s | with_reducible assumption | with_reducible refine upd_n (by kernel_rfl!) ?_ | with_reducible refine mOf_n (by kernel_rfl!) ?_))) (.init fun j _ => rfl) (.init fun j _ => rfl) .nil)) ?item ?stop
  case item =>
    rintro i h t E3 hlt
    refine ex6 ?_; intro Z4 m xs ys rvs ov
    refine an11 ?_; intro k4 S hs ht hm hn hN hr mx my rw
    obtain ⟨inv1, inv2, inv3⟩ := cd_inv (old := old) (new := new) _ (old.take i) rfl fun d hd => go1 d (List.mem_of_mem_take hd)
    have hst : cdSt old new (old.take (i + 1)) = cdStep old new (cdSt old new (old.take i)) old[i] := by rw [take_snoc hlt, cd_snoc]
    have hseen : ∀ d, Good d → (seenB (cdSt old new (old.take i)).1 d = true ↔ d ∈ old.take i) := fun d gd => (seenB_iff (fun y hy => go1 y (List.mem_of_mem_take ((inv1 y).mp hy))) gd).trans (inv1 d)
    have ge : Good old[i] := go1 _ (List.getElem_mem hlt)
    have hde : old[i].depth ≤ 60 := (go old[i] (List.mem_append.mpr (.inl (List.getElem_mem hlt)))).2
    have hgd : old.getD i .none = old[i] := by rw [List.getD_eq_getElem?_getD, List.getElem?_eq_getElem hlt]; rfl
    obtain ⟨v, hv, rv⟩ := rs1.get (List.getElem?_eq_getElem hlt)
    have rv := rv.keeps k4
    by_cases hsn : seenB (cdSt old new (old.take i)).1 old[i] = true
    · have hxi := mx.on (j := i) (by omega) (by show seenB _ (old.getD i .none) = true; rw [hgd]; exact hsn)
      refine nxE S (by (repeat (first | exact Rp.head | apply Rp.tail))) (by (repeat (first | exact Rp.head | apply Rp.tail))) hne (S.ls (by (repeat (first | exact List.Mem.head _ | apply List.Mem.tail)))) hxi ?_; intro T h tkk t S iT
      refine asT S R.hd iT rfl rfl rfl ?_; intro h S
      repeat' ktr_member
      refine wpAny_is_ref_self ?_
      repeat' ktr_member
      have e : cdSt old new (old.take (i + 1)) = cdSt old new (old.take i) := by rw [hst]; unfold cdStep; rw [if_pos hsn]
      rw [e]
      exact ⟨.inr rfl, _, _, rfl, ix6 (a := Z4) (in11 k4 S (by (repeat (first | with_reducible exact upd_s | with_reducible exact mOf_s | with_reducible assumption | with_reducible refine upd_n (by kernel_rfl!) ?_ | with_reducible refine mOf_n (by kernel_rfl!) ?_))) (by (repeat (first | with_reducible exact upd_s | with_reducible exact mOf_s | with_reducible assumption | with_reducible refine upd_n (by kernel_rfl!) ?_ | with_reducible refine mOf_n (by kernel_rfl!) ?_))) (by (repeat (first | with_reducible exact upd_s | with_reducible exact mOf_s | with_reducible assumption | with_reducible refine upd_n (by kernel_rfl!) ?_ | with_reducible refine mOf_n (by kernel_rfl!) ?_))) (by (repeat (first | with_reducible exact upd_s | with_reducible exact mOf_s | with_reducible assumption | with_reducible refine upd_n (by kernel_rfl!) ?_ | with_reducible refine mOf_n (by kernel_rfl!) ?_))) (by (repeat (first | with_reducible exact upd_s | with_reducible exact mOf_s | with_reducible assumption | with_reducible refine upd_n (by kernel_rfl!) ?_ | with_reducible refine mOf_n (by kernel_rfl!) ?_))) (by (repeat (first | with_reducible exact upd_s | with_reducible exact mOf_s | with_reducible assumption | with_reducible refine upd_n (by kernel_rfl!) ?_ | with_reducible refine mOf_n (by kernel_rfl!) ?_))) mx my rw)⟩
    · have hsn : seenB (cdSt old new (old.take i)).1 old[i] = false := by simpa using hsn
      have hxi := mx.off hv (by show seenB _ (old.getD i .none) = false; rw [hgd]; exact hsn)
      refine nxE S (by (repeat (first | exact Rp.head | apply Rp.tail))) (by (repeat (first | exact Rp.head | apply Rp.tail))) hne (S.ls (by (repeat (first | exact List.Mem.head _ | apply List.Mem.tail)))) hxi ?_; intro T h tkk t S iT
      refine asT S R.hd iT rfl rfl rfl ?_; intro h S
      repeat' ktr_member
      refine isNull (S.isO (by (repeat (first | exact List.Mem.head _ | apply List.Mem.tail)))) (rv.keeps S.zi) ge.kind ?_
      repeat' ktr_member
      refine cRange S ?_; intro rg h t S
      repeat' ktr_member
      refine itRE (x := i) (e := old.length) S (by (repeat (first | exact List.Mem.head _ | apply List.Mem.tail))) rfl (by rw [l1e]) (by omega) (by omega) ?_; intro rit h S
      intro E4
      have c0 : cnt (old.take i) old[i] = 0 := cnt_zero (fun d hd => go1 d (List.mem_of_mem_take hd)) ge fun hin => by rw [(hseen _ ge).mpr hin] at hsn; cases hsn
      have hns : ∀ d, Good d → seenB (cdSt old new (old.take i)).1 d = true → PyData.eqv d old[i] = false := fun d gd hd => by
        cases hq : PyData.eqv d old[i] with
        | false => rfl
        | true => rw [(gd.eqv ge).mp hq, hsn] at hd; cases hd
      have hgd : ∀ {l : List PyData} {j : Nat} (hj : j < l.length), l.getD j .none = l[j] := fun hj => by rw [List.getD_eq_getElem?_getD, List.getElem?_eq_getElem hj]; rfl
      refine floop (fun k h => ∃ m' xs' tc tz, St _ _ _ Z4 m' [(rit, RitE (i + k) old.length), (rg, RngO i vs1.length), (e1, EnO it1 (i + 1) v), (it1, LitO ls (i + 1)), (lr, LstO rvs), (nu, IsO nullObj), (lt, LsO ys), (ls, LsO xs')] h ∧
        m' (Str.ofString "s") = some (.ref ls) ∧ m' (Str.ofString "t") = some (.ref lt) ∧ m' (Str.ofString "m") = some (.int vs1.length tkm) ∧ m' (Str.ofString "n") = some (.int vs2.length tkn) ∧ m' (Str.ofString "NULL") = some (.ref nu) ∧ m' (Str.ofString "result") = some (.ref lr) ∧
        m' (Str.ofString "elem") = some v ∧ m' (Str.ofString "cnt_t") = some (.int 0 tz) ∧ m' (Str.ofString "cnt_s") = some (.int (cnt (old.take (i + k)) old[i] : Nat) tc) ∧
        Msk xs' vs1 (fun j => seenB (cdSt old new (old.take i)).1 (old.getD j .none) || (decide (j < i + k) && PyData.eqv (old.getD j .none) old[i])) (.ref nu)) (old.length - i)
        (ix4 (in11 S (by (repeat (first | with_reducible exact upd_s | with_reducible exact mOf_s | with_reducible assumption | with_reducible refine upd_n (by kernel_rfl!) ?_ | with_reducible refine mOf_n (by kernel_rfl!) ?_))) (by (repeat (first | with_reducible exact upd_s | with_reducible exact mOf_s | with_reducible assumption | with_reducible refine upd_n (by kernel_rfl!) ?_ | with_reducible refine mOf_n (by kernel_rfl!) ?_))) (by (repeat (first | with_reducible exact upd_s | with_reducible exact mOf_s | with_reducible assumption | with_reducible refine upd_n (by kernel_rfl!) ?_ | with_reducible refine mOf_n (by kernel_rfl!) ?_))) (by (repeat (first | with_reducible exact upd_s | with_reducible exact mOf_s | with_reducible assumption | with_reducible refine upd_n (by kernel_rfl!) ?_ | with_reducible refine mOf_n (by kernel_rfl!) ?_))) (by (repeat (first | with_reducible exact upd_s | with_reducible exact mOf_s | with_reducible assumption | with_reducible refine upd_n (by kernel_rfl!) ?_ | with_reducible refine mOf_n (by kernel_rfl!) ?_))) (by (repeat (first | with_reducible exact upd_s | with_reducible exact mOf_s | with_reducible assumption | with_reducible refine upd_n (by kernel_rfl!) ?_ | with_reducible refine mOf_n (by kernel_rfl!) ?_))) (by (repeat (first | with_reducible exact upd_s | with_reducible exact mOf_s | with_reducible assumption | with_reducible refine upd_n (by kernel_rfl!) ?_ | with_reducible refine mOf_n (by kernel_rfl!) ?_))) (by (repeat (first | with_reducible exact upd_s | with_reducible exact mOf_s | with_reducible assumption | with_reducible refine upd_n (by kernel_rfl!) ?_ | with_reducible refine mOf_n (by kernel_rfl!) ?_))) (by rw [show i + 0 = i from rfl, c0]; show _ = some (Value.int 0 _); (repeat (first | with_reducible exact upd_s | with_reducible exact mOf_s | with_reducible assumption | with_reducible refine upd_n (by kernel_rfl!) ?_ | with_reducible refine mOf_n (by kernel_rfl!) ?_))) (mx.congr fun j hj => ?init1))) ?item1 ?stop1
      case init1 =>
        try dsimp only
        by_cases hji : j < i
        · have : seenB (cdSt old new (old.take i)).1 (old.getD j .none) = true := (hseen _ (by rw [hgd (by omega)]; exact go1 _ (List.getElem_mem _))).mpr (by rw [hgd (by omega)]; exact List.mem_take_iff_getElem.mpr ⟨j, by omega, rfl⟩)
          rw [this]; rfl
        · simp [hji]
      case item1 =>
        rintro k h t E5 hk
        refine ex4 ?_; intro m' xs' tc tz
        refine an11 ?_; intro S hs ht hm hn hN hr hel hct hcs mx'
        have hk2 : i + k < old.length := by omega
        have gd : Good old[i + k] := go1 _ (List.getElem_mem hk2)
        obtain ⟨v2, hv2, rv2⟩ := rs1.get (List.getElem?_eq_getElem hk2)
        have rv2 := rv2.keeps k4
        have hcn := cnt_snoc (e := old[i]) hk2
        refine nxRE S (by (repeat (first | exact Rp.head | apply Rp.tail))) hk2 ?_; intro h tk3 t S
        refine ⟨_, rfl, ?_⟩
        repeat' ktr_member
        by_cases hsd : seenB (cdSt old new (old.take i)).1 old[i + k] = true
        · have hq := hns _ gd hsd
          refine sLst' (S.ls (by (repeat (first | exact List.Mem.head _ | apply List.Mem.tail)))) (by omega) (by omega) (show xs'[i + k]? = _ from mx'.on (by omega) (by (try dsimp only); rw [hgd hk2, hsd]; rfl)) ?_
          repeat' ktr_member
          refine null_eq (S.isO (by (repeat (first | exact List.Mem.head _ | apply List.Mem.tail)))) (rv.keeps S.zi) ge.kind (by have := R.un; show A.units + 3 < 9900; omega) ?_
          repeat' ktr_member
          refine ⟨.inl rfl, _, _, rfl, ix4 (b := xs') (c := tc) (d := tz) (in11 S (by (repeat (first | with_reducible exact upd_s | with_reducible exact mOf_s | with_reducible assumption | with_reducible refine upd_n (by kernel_rfl!) ?_ | with_reducible refine mOf_n (by kernel_rfl!) ?_))) (by (repeat (first | with_reducible exact upd_s | with_reducible exact mOf_s | with_reducible assumption | with_reducible refine upd_n (by kernel_rfl!) ?_ | with_reducible refine mOf_n (by kernel_rfl!) ?_))) (by (repeat (first | with_reducible exact upd_s | with_reducible exact mOf_s | with_reducible assumption | with_reducible refine upd_n (by kernel_rfl!) ?_ | with_reducible refine mOf_n (by kernel_rfl!) ?_))) (by (repeat (first | with_reducible exact upd_s | with_reducible exact mOf_s | with_reducible assumption | with_reducible refine upd_n (by kernel_rfl!) ?_ | with_reducible refine mOf_n (by kernel_rfl!) ?_))) (by (repeat (first | with_reducible exact upd_s | with_reducible exact mOf_s | with_reducible assumption | with_reducible refine upd_n (by kernel_rfl!) ?_ | with_reducible refine mOf_n (by kernel_rfl!) ?_))) (by (repeat (first | with_reducible exact upd_s | with_reducible exact mOf_s | with_reducible assumption | with_reducible refine upd_n (by kernel_rfl!) ?_ | with_reducible refine mOf_n (by kernel_rfl!) ?_))) (by (repeat (first | with_reducible exact upd_s | with_reducible exact mOf_s | with_reducible assumption | with_reducible refine upd_n (by kernel_rfl!) ?_ | with_reducible refine mOf_n (by kernel_rfl!) ?_))) (by (repeat (first | with_reducible exact upd_s | with_reducible exact mOf_s | with_reducible assumption | with_reducible refine upd_n (by kernel_rfl!) ?_ | with_reducible refine mOf_n (by kernel_rfl!) ?_))) ?_ (mx'.congr fun j hj => ?_))⟩
          · rw [show i + (k + 1) = i + k + 1 from rfl, hcn, hq, if_neg (by decide), Nat.add_zero]; (repeat (first | with_reducible exact upd_s | with_reducible exact mOf_s | with_reducible assumption | with_reducible refine upd_n (by kernel_rfl!) ?_ | with_reducible refine mOf_n (by kernel_rfl!) ?_))
          · try dsimp only
            by_cases hj2 : j = i + k
            · subst hj2; rw [hgd hk2, hsd]; rfl
            · rw [show decide (j < i + (k + 1)) = decide (j < i + k) from dec_ne hj2]
        · have hsd : seenB (cdSt old new (old.take i)).1 old[i + k] = false := by simpa using hsd
          refine sLst' (S.ls (by (repeat (first | exact List.Mem.head _ | apply List.Mem.tail)))) (by omega) (by omega) (show xs'[i + k]? = _ from mx'.off hv2 (by (try dsimp only); rw [hgd hk2, hsd]; simp)) ?_
          repeat' ktr_member
          refine eqRD (rv2.keeps S.zi) (rv.keeps S.zi) gd.can ge.can (by have := R.un; show A.units + 3 + _ < 9900; omega) ?_
          repeat' ktr_member
          refine ⟨fun hq => ?_, fun hq => ?_⟩
          · repeat' ktr_member
            refine sSet S (by (repeat (first | exact Rp.head | apply Rp.tail))) (by omega) (by rw [mx'.1]; omega) (by rw [mx'.1]; omega) ?_; intro h S
            repeat' ktr_member
            refine ⟨.inl rfl, _, _, rfl, ix4 (b := xs'.set (i + k) (.ref nu)) (d := tz) (in11 S (by (repeat (first | with_reducible exact upd_s | with_reducible exact mOf_s | with_reducible assumption | with_reducible refine upd_n (by kernel_rfl!) ?_ | with_reducible refine mOf_n (by kernel_rfl!) ?_))) (by (repeat (first | with_reducible exact upd_s | with_reducible exact mOf_s | with_reducible assumption | with_reducible refine upd_n (by kernel_rfl!) ?_ | with_reducible refine mOf_n (by kernel_rfl!) ?_))) (by (repeat (first | with_reducible exact upd_s | with_reducible exact mOf_s | with_reducible assumption | with_reducible refine upd_n (by kernel_rfl!) ?_ | with_reducible refine mOf_n (by kernel_rfl!) ?_))) (by (repeat (first | with_reducible exact upd_s | with_reducible exact mOf_s | with_reducible assumption | with_reducible refine upd_n (by kernel_rfl!) ?_ | with_reducible refine mOf_n (by kernel_rfl!) ?_))) (by (repeat (first | with_reducible exact upd_s | with_reducible exact mOf_s | with_reducible assumption | with_reducible refine upd_n (by kernel_rfl!) ?_ | with_reducible refine mOf_n (by kernel_rfl!) ?_))) (by (repeat (first | with_reducible exact upd_s | with_reducible exact mOf_s | with_reducible assumption | with_reducible refine upd_n (by kernel_rfl!) ?_ | with_reducible refine mOf_n (by kernel_rfl!) ?_))) (by (repeat (first | with_reducible exact upd_s | with_reducible exact mOf_s | with_reducible assumption | with_reducible refine upd_n (by kernel_rfl!) ?_ | with_reducible refine mOf_n (by kernel_rfl!) ?_))) (by (repeat (first | with_reducible exact upd_s | with_reducible exact mOf_s | with_reducible assumption | with_reducible refine upd_n (by kernel_rfl!) ?_ | with_reducible refine mOf_n (by kernel_rfl!) ?_))) (by rw [show i + (k + 1) = i + k + 1 from rfl, hcn, hq, if_pos rfl]; show _ = some (Value.int ((cnt (old.take (i + k)) old[i] : Nat) + 1) _); (repeat (first | with_reducible exact upd_s | with_reducible exact mOf_s | with_reducible assumption | with_reducible refine upd_n (by kernel_rfl!) ?_ | with_reducible refine mOf_n (by kernel_rfl!) ?_))) (mx'.set (k := i + k) (by omega) fun j hj => ?_))⟩
            · try dsimp only
              by_cases hj2 : j = i + k
              · subst hj2; rw [hgd hk2, hq]; simp
              · rw [show decide (j < i + (k + 1)) = decide (j < i + k) from dec_ne hj2]; simp [hj2]
          · repeat' ktr_member
            refine ⟨.inl rfl, _, _, rfl, ix4 (b := xs') (c := tc) (d := tz) (in11 S (by (repeat (first | with_reducible exact upd_s | with_reducible exact mOf_s | with_reducible assumption | with_reducible refine upd_n (by kernel_rfl!) ?_ | with_reducible refine mOf_n (by kernel_rfl!) ?_))) (by (repeat (first | with_reducible exact upd_s | with_reducible exact mOf_s | with_reducible assumption | with_reducible refine upd_n (by kernel_rfl!) ?_ | with_reducible refine mOf_n (by kernel_rfl!) ?_))) (by (repeat (first | with_reducible exact upd_s | with_reducible exact mOf_s | with_reducible assumption | with_reducible refine upd_n (by kernel_rfl!) ?_ | with_reducible refine mOf_n (by kernel_rfl!) ?_))) (by (repeat (first | with_reducible exact upd_s | with_reducible exact mOf_s | with_reducible assumption | with_reducible refine upd_n (by kernel_rfl!) ?_ | with_reducible refine mOf_n (by kernel_rfl!) ?_))) (by (repeat (first | with_reducible exact upd_s | with_reducible exact mOf_s | with_reducible assumption | with_reducible refine upd_n (by kernel_rfl!) ?_ | with_reducible refine mOf_n (by kernel_rfl!) ?_))) (by (repeat (first | with_reducible exact upd_s | with_reducible exact mOf_s | with_reducible assumption | with_reducible refine upd_n (by kernel_rfl!) ?_ | with_reducible refine mOf_n (by kernel_rfl!) ?_))) (by (repeat (first | with_reducible exact upd_s | with_reducible exact mOf_s | with_reducible assumption | with_reducible refine upd_n (by kernel_rfl!) ?_ | with_reducible refine mOf_n (by kernel_rfl!) ?_))) (by (repeat (first | with_reducible exact upd_s | with_reducible exact mOf_s | with_reducible assumption | with_reducible refine upd_n (by kernel_rfl!) ?_ | with_reducible refine mOf_n (by kernel_rfl!) ?_))) ?_ (mx'.congr fun j hj => ?_))⟩
            · rw [show i + (k + 1) = i + k + 1 from rfl, hcn, hq, if_neg (by decide), Nat.add_zero]; (repeat (first | with_reducible exact upd_s | with_reducible exact mOf_s | with_reducible assumption | with_reducible refine upd_n (by kernel_rfl!) ?_ | with_reducible refine mOf_n (by kernel_rfl!) ?_))
            · try dsimp only
              by_cases hj2 : j = i + k
              · subst hj2; rw [hgd hk2, hq]; simp
              · rw [show decide (j < i + (k + 1)) = decide (j < i + k) from dec_ne hj2]
      case stop1 =>
        rintro h t E5
        refine ex4 ?_; intro m' xs' tc tz
        refine an11 ?_; intro S hs ht hm hn hN hr hel hct hcs mx'
        refine nxREe S R.hd (by (repeat (first | exact Dl.head | apply Dl.tail))) (by omega) ?_; intro h S
        refine ⟨rfl, ?_⟩
        rw [show i + (old.length - i) = old.length by omega, List.take_of_length_le (Nat.le_refl _)] at hcs
        have mx' : Msk xs' vs1 (fun j => seenB ((cdSt old new (old.take i)).1 ++ [old[i]]) (old.getD j .none)) (.ref nu) := mx'.congr fun j hj => by
          (try dsimp only)
          rw [hgd (by omega)]
          have gj := go1 _ (List.getElem_mem (show j < old.length by omega))
          unfold seenB
          rw [List.any_append]
          have : PyData.eqv old[i] old[j] = PyData.eqv old[j] old[i] := by rw [Bool.eq_iff_iff, ge.eqv gj, gj.eqv ge, eq_comm]
          simp [this, show j < i + (old.length - i) by omega]
        have S := S.drop .head
        repeat' ktr_member
        refine cEnum S (S.ls (by (repeat (first | exact List.Mem.head _ | apply List.Mem.tail)))) ?_; intro e2 it2 h hne2 S
        repeat' ktr_member
        refine itE S (by (repeat (first | exact List.Mem.head _ | apply List.Mem.tail))) ?_
        intro E6
        have q0 : cnt (new.take 0) old[i] = 0 := rfl
        refine floopT (fun k h => ∃ m' ys' tz ov, St _ _ _ Z4 m' [(e2, EnO it2 k ov), (it2, LitO lt k), (e1, EnO it1 (i + 1) v), (it1, LitO ls (i + 1)), (lr, LstO rvs), (nu, IsO nullObj), (lt, LsO ys'), (ls, LsO xs')] h ∧
          m' (Str.ofString "s") = some (.ref ls) ∧ m' (Str.ofString "t") = some (.ref lt) ∧ m' (Str.ofString "m") = some (.int vs1.length tkm) ∧ m' (Str.ofString "n") = some (.int vs2.length tkn) ∧ m' (Str.ofString "NULL") = some (.ref nu) ∧ m' (Str.ofString "result") = some (.ref lr) ∧
          m' (Str.ofString "elem") = some v ∧ m' (Str.ofString "cnt_s") = some (.int (cnt old old[i] : Nat) tc) ∧ m' (Str.ofString "cnt_t") = some (.int (cnt (new.take k) old[i] : Nat) tz) ∧
          Msk ys' vs2 (fun j => seenB (cdSt old new (old.take i)).1 (new.getD j .none) || (decide (j < k) && PyData.eqv (new.getD j .none) old[i])) (.ref nu)) new.length
          (ix4 (in11 S (by (repeat (first | with_reducible exact upd_s | with_reducible exact mOf_s | with_reducible assumption | with_reducible refine upd_n (by kernel_rfl!) ?_ | with_reducible refine mOf_n (by kernel_rfl!) ?_))) (by (repeat (first | with_reducible exact upd_s | with_reducible exact mOf_s | with_reducible assumption | with_reducible refine upd_n (by kernel_rfl!) ?_ | with_reducible refine mOf_n (by kernel_rfl!) ?_))) (by (repeat (first | with_reducible exact upd_s | with_reducible exact mOf_s | with_reducible assumption | with_reducible refine upd_n (by kernel_rfl!) ?_ | with_reducible refine mOf_n (by kernel_rfl!) ?_))) (by (repeat (first | with_reducible exact upd_s | with_reducible exact mOf_s | with_reducible assumption | with_reducible refine upd_n (by kernel_rfl!) ?_ | with_reducible refine mOf_n (by kernel_rfl!) ?_))) (by (repeat (first | with_reducible exact upd_s | with_reducible exact mOf_s | with_reducible assumption | with_reducible refine upd_n (by kernel_rfl!) ?_ | with_reducible refine mOf_n (by kernel_rfl!) ?_))) (by (repeat (first | with_reducible exact upd_s | with_reducible exact mOf_s | with_reducible assumption | with_reducible refine upd_n (by kernel_rfl!) ?_ | with_reducible refine mOf_n (by kernel_rfl!) ?_))) (by (repeat (first | with_reducible exact upd_s | with_reducible exact mOf_s | with_reducible assumption | with_reducible refine upd_n (by kernel_rfl!) ?_ | with_reducible refine mOf_n (by kernel_rfl!) ?_))) (by (repeat (first | with_reducible exact upd_s | with_reducible exact mOf_s | with_reducible assumption | with_reducible refine upd_n (by kernel_rfl!) ?_ | with_reducible refine mOf_n (by kernel_rfl!) ?_))) (by show _ = some (Value.int 0 _); (repeat (first | with_reducible exact upd_s | with_reducible exact mOf_s | with_reducible assumption | with_reducible refine upd_n (by kernel_rfl!) ?_ | with_reducible refine mOf_n (by kernel_rfl!) ?_))) (my.congr fun j hj => by simp))) ?item2 ?stop2
        case item2 =>
          rintro k h t E7 hk2
          refine ex4 ?_; intro m' ys' tz ov2
          refine an11 ?_; intro S hs ht hm hn hN hr hel hcs hct my'
          have gd : Good new[k] := go2 _ (List.getElem_mem hk2)
          obtain ⟨v2, hv2, rv2⟩ := rs2.get (List.getElem?_eq_getElem hk2)
          have rv2 := rv2.keeps k4
          have hcn := cnt_snoc (e := old[i]) hk2
          by_cases hsd : seenB (cdSt old new (old.take i)).1 new[k] = true
          · have hq := hns _ gd hsd
            refine nxE S (by (repeat (first | exact Rp.head | apply Rp.tail))) (by (repeat (first | exact Rp.head | apply Rp.tail))) hne2 (S.ls (by (repeat (first | exact List.Mem.head _ | apply List.Mem.tail)))) (my'.on (j := k) (by omega) (by (try dsimp only); rw [hgd hk2, hsd]; rfl)) ?_; intro T h tkk2 t S iT
            refine asT S R.hd iT rfl rfl rfl ?_; intro h S
            repeat' ktr_member
            refine null_eq (S.isO (by (repeat (first | exact List.Mem.head _ | apply List.Mem.tail)))) (rv.keeps S.zi) ge.kind (by have := R.un; show A.units + 3 < 9900; omega) ?_
            repeat' ktr_member
            refine ⟨.inl rfl, _, _, rfl, ix4 (b := ys') (c := tz) (in11 S (by (repeat (first | with_reducible exact upd_s | with_reducible exact mOf_s | with_reducible assumption | with_reducible refine upd_n (by kernel_rfl!) ?_ | with_reducible refine mOf_n (by kernel_rfl!) ?_))) (by (repeat (first | with_reducible exact upd_s | with_reducible exact mOf_s | with_reducible assumption | with_reducible refine upd_n (by kernel_rfl!) ?_ | with_reducible refine mOf_n (by kernel_rfl!) ?_))) (by (repeat (first | with_reducible exact upd_s | with_reducible exact mOf_s | with_reducible assumption | with_reducible refine upd_n (by kernel_rfl!) ?_ | with_reducible refine mOf_n (by kernel_rfl!) ?_))) (by (repeat (first | with_reducible exact upd_s | with_reducible exact mOf_s | with_reducible assumption | with_reducible refine upd_n (by kernel_rfl!) ?_ | with_reducible refine mOf_n (by kernel_rfl!) ?_))) (by (repeat (first | with_reducible exact upd_s | with_reducible exact mOf_s | with_reducible assumption | with_reducible refine upd_n (by kernel_rfl!) ?_ | with_reducible refine mOf_n (by kernel_rfl!) ?_))) (by (repeat (first | with_reducible exact upd_s | with_reducible exact mOf_s | with_reducible assumption | with_reducible refine upd_n (by kernel_rfl!) ?_ | with_reducible refine mOf_n (by kernel_rfl!) ?_))) (by (repeat (first | with_reducible exact upd_s | with_reducible exact mOf_s | with_reducible assumption | with_reducible refine upd_n (by kernel_rfl!) ?_ | with_reducible refine mOf_n (by kernel_rfl!) ?_))) (by (repeat (first | with_reducible exact upd_s | with_reducible exact mOf_s | with_reducible assumption | with_reducible refine upd_n (by kernel_rfl!) ?_ | with_reducible refine mOf_n (by kernel_rfl!) ?_))) ?_ (my'.congr fun j hj => ?_))⟩
            · rw [hcn, hq, if_neg (by decide), Nat.add_zero]; (repeat (first | with_reducible exact upd_s | with_reducible exact mOf_s | with_reducible assumption | with_reducible refine upd_n (by kernel_rfl!) ?_ | with_reducible refine mOf_n (by kernel_rfl!) ?_))
            · (try dsimp only)
              by_cases hj2 : j = k
              · subst hj2; rw [hgd hk2, hsd]; rfl
              · rw [show decide (j < k + 1) = decide (j < k) from dec_ne hj2]
          · have hsd : seenB (cdSt old new (old.take i)).1 new[k] = false := by simpa using hsd
            refine nxE S (by (repeat (first | exact Rp.head | apply Rp.tail))) (by (repeat (first | exact Rp.head | apply Rp.tail))) hne2 (S.ls (by (repeat (first | exact List.Mem.head _ | apply List.Mem.tail)))) (my'.off hv2 (by (try dsimp only); rw [hgd hk2, hsd]; simp)) ?_; intro T h tkk2 t S iT
            refine asT S R.hd iT rfl rfl rfl ?_; intro h S
            repeat' ktr_member
            refine eqRD (rv2.keeps S.zi) (rv.keeps S.zi) gd.can ge.can (by have := R.un; show A.units + 3 + _ < 9900; omega) ?_
            repeat' ktr_member
            refine ⟨fun hq => ?_, fun hq => ?_⟩
            · repeat' ktr_member
              refine sSet S (by (repeat (first | exact Rp.head | apply Rp.tail))) (by omega) (by rw [my'.1]; omega) (by rw [my'.1]; omega) ?_; intro h S
              repeat' ktr_member
              refine ⟨.inl rfl, _, _, rfl, ix4 (b := ys'.set k (.ref nu)) (in11 S (by (repeat (first | with_reducible exact upd_s | with_reducible exact mOf_s | with_reducible assumption | with_reducible refine upd_n (by kernel_rfl!) ?_ | with_reducible refine mOf_n (by kernel_rfl!) ?_))) (by (repeat (first | with_reducible exact upd_s | with_reducible exact mOf_s | with_reducible assumption | with_reducible refine upd_n (by kernel_rfl!) ?_ | with_reducible refine mOf_n (by kernel_rfl!) ?_))) (by (repeat (first | with_reducible exact upd_s | with_reducible exact mOf_s | with_reducible assumption | with_reducible refine upd_n (by kernel_rfl!) ?_ | with_reducible refine mOf_n (by kernel_rfl!) ?_))) (by (repeat (first | with_reducible exact upd_s | with_reducible exact mOf_s | with_reducible assumption | with_reducible refine upd_n (by kernel_rfl!) ?_ | with_reducible refine mOf_n (by kernel_rfl!) ?_))) (by (repeat (first | with_reducible exact upd_s | with_reducible exact mOf_s | with_reducible assumption | with_reducible refine upd_n (by kernel_rfl!) ?_ | with_reducible refine mOf_n (by kernel_rfl!) ?_))) (by (repeat (first | with_reducible exact upd_s | with_reducible exact mOf_s | with_reducible assumption | with_reducible refine upd_n (by kernel_rfl!) ?_ | with_reducible refine mOf_n (by kernel_rfl!) ?_))) (by (repeat (first | with_reducible exact upd_s | with_reducible exact mOf_s | with_reducible assumption | with_reducible refine upd_n (by kernel_rfl!) ?_ | with_reducible refine mOf_n (by kernel_rfl!) ?_))) (by (repeat (first | with_reducible exact upd_s | with_reducible exact mOf_s | with_reducible assumption | with_reducible refine upd_n (by kernel_rfl!) ?_ | with_reducible refine mOf_n (by kernel_rfl!) ?_))) (by rw [hcn, hq, if_pos rfl]; show _ = some (Value.int ((cnt (new.take k) old[i] : Nat) + 1) _); (repeat (first | with_reducible exact upd_s | with_reducible exact mOf_s | with_reducible assumption | with_reducible refine upd_n (by kernel_rfl!) ?_ | with_reducible refine mOf_n (by kernel_rfl!) ?_))) (my'.set (k := k) (by omega) fun j hj => ?_))⟩
              · (try dsimp only)
                by_cases hj2 : j = k
                · subst hj2; rw [hgd hk2, hq]; simp
                · rw [show decide (j < k + 1) = decide (j < k) from dec_ne hj2]; simp [hj2]
            · repeat' ktr_member
              refine ⟨.inl rfl, _, _, rfl, ix4 (b := ys') (c := tz) (in11 S (by (repeat (first | with_reducible exact upd_s | with_reducible exact mOf_s | with_reducible assumption | with_reducible refine upd_n (by kernel_rfl!) ?_ | with_reducible refine mOf_n (by kernel_rfl!) ?_))) (by (repeat (first | with_reducible exact upd_s | with_reducible exact mOf_s | with_reducible assumption | with_reducible refine upd_n (by kernel_rfl!) ?_ | with_reducible refine mOf_n (by kernel_rfl!) ?_))) (by (repeat (first | with_reducible exact upd_s | with_reducible exact mOf_s | with_reducible assumption | with_reducible refine upd_n (by kernel_rfl!) ?_ | with_reducible refine mOf_n (by kernel_rfl!) ?_))) (by (repeat (first | with_reducible exact upd_s | with_reducible exact mOf_s | with_reducible assumption | with_reducible refine upd_n (by kernel_rfl!) ?_ | with_reducible refine mOf_n (by kernel_rfl!) ?_))) (by (repeat (first | with_reducible exact upd_s | with_reducible exact mOf_s | with_reducible assumption | with_reducible refine upd_n (by kernel_rfl!) ?_ | with_reducible refine mOf_n (by kernel_rfl!) ?_))) (by (repeat (first | with_reducible exact upd_s | with_reducible exact mOf_s | with_reducible assumption | with_reducible refine upd_n (by kernel_rfl!) ?_ | with_reducible refine mOf_n (by kernel_rfl!) ?_))) (by (repeat (first | with_reducible exact upd_s | with_reducible exact mOf_s | with_reducible assumption | with_reducible refine upd_n (by kernel_rfl!) ?_ | with_reducible refine mOf_n (by kernel_rfl!) ?_))) (by (repeat (first | with_reducible exact upd_s | with_reducible exact mOf_s | with_reducible assumption | with_reducible refine upd_n (by kernel_rfl!) ?_ | with_reducible refine mOf_n (by kernel_rfl!) ?_))) ?_ (my'.congr fun j hj => ?_))⟩
              · rw [hcn, hq, if_neg (by decide), Nat.add_zero]; (repeat (first | with_reducible exact upd_s | with_reducible exact mOf_s | with_reducible assumption | with_reducible refine upd_n (by kernel_rfl!) ?_ | with_reducible refine mOf_n (by kernel_rfl!) ?_))
              · (try dsimp only)
                by_cases hj2 : j = k
                · subst hj2; rw [hgd hk2, hq]; simp
                · rw [show decide (j < k + 1) = decide (j < k) from dec_ne hj2]
        case stop2 =>
          rintro h t E7
          refine ex4 ?_; intro m' ys' tz ov2
          refine an11 ?_; intro S hs ht hm hn hN hr hel hcs hct my'
          refine nxEe S R.hd (by (repeat (first | exact List.Mem.head _ | apply List.Mem.tail))) (by (repeat (first | exact Dl.head | apply Dl.tail))) (S.ls (by (repeat (first | exact List.Mem.head _ | apply List.Mem.tail)))) (by rw [List.getElem?_eq_none]; rw [my'.1]; omega) ?_; intro h S
          refine ⟨rfl, ?_⟩
          rw [List.take_of_length_le (Nat.le_refl _)] at hct
          have my' : Msk ys' vs2 (fun j => seenB ((cdSt old new (old.take i)).1 ++ [old[i]]) (new.getD j .none)) (.ref nu) := my'.congr fun j hj => by
            (try dsimp only)
            rw [hgd (by omega)]
            have gj := go2 _ (List.getElem_mem (show j < new.length by omega))
            unfold seenB
            rw [List.any_append]
            have : PyData.eqv old[i] new[j] = PyData.eqv new[j] old[i] := by rw [Bool.eq_iff_iff, ge.eqv gj, gj.eqv ge, eq_comm]
            simp [this, show j < new.length by omega]
          have S := S.drop .head
          have est : cdSt old new (old.take (i + 1)) = ((cdSt old new (old.take i)).1 ++ [old[i]], if cnt old old[i] != cnt new old[i] then (cdSt old new (old.take i)).2 ++ [(cnt old old[i], cnt new old[i], old[i])] else (cdSt old new (old.take i)).2) := by
            rw [hst]; unfold cdStep; rw [if_neg (by rw [hsn]; decide)]
          rw [est]
          repeat' ktr_member
          refine ⟨fun hq => ?_, fun hq => ?_⟩
          · repeat' ktr_member
            refine mm_spec (G.keeps S.zx.le) S.zi (R.sub (by decide) (by decide)) ?_
            intro h t Z5 x dx z5 hx hdx
            have S := S.ext z5
            repeat' ktr_member
            have hrl := rw.len
            have htl : (old.take i).length ≤ 1000 := by rw [List.length_take]; omega
            refine apL S (by (repeat (first | exact Rp.head | apply Rp.tail))) (by rw [hrl, sizeLine_eq]; omega) ?_; intro h S
            repeat' ktr_member
            refine ⟨.inl rfl, _, _, rfl, ix6 (a := Z5) (c := xs') (d := ys') (in11 (fun b o e => z5.le b o (k4 b o e)) S (by (repeat (first | with_reducible exact upd_s | with_reducible exact mOf_s | with_reducible assumption | with_reducible refine upd_n (by kernel_rfl!) ?_ | with_reducible refine mOf_n (by kernel_rfl!) ?_))) (by (repeat (first | with_reducible exact upd_s | with_reducible exact mOf_s | with_reducible assumption | with_reducible refine upd_n (by kernel_rfl!) ?_ | with_reducible refine mOf_n (by kernel_rfl!) ?_))) (by (repeat (first | with_reducible exact upd_s | with_reducible exact mOf_s | with_reducible assumption | with_reducible refine upd_n (by kernel_rfl!) ?_ | with_reducible refine mOf_n (by kernel_rfl!) ?_))) (by (repeat (first | with_reducible exact upd_s | with_reducible exact mOf_s | with_reducible assumption | with_reducible refine upd_n (by kernel_rfl!) ?_ | with_reducible refine mOf_n (by kernel_rfl!) ?_))) (by (repeat (first | with_reducible exact upd_s | with_reducible exact mOf_s | with_reducible assumption | with_reducible refine upd_n (by kernel_rfl!) ?_ | with_reducible refine mOf_n (by kernel_rfl!) ?_))) (by (repeat (first | with_reducible exact upd_s | with_reducible exact mOf_s | with_reducible assumption | with_reducible refine upd_n (by kernel_rfl!) ?_ | with_reducible refine mOf_n (by kernel_rfl!) ?_))) mx' my' ?_)⟩
            have hq2 : (cnt old old[i] != cnt new old[i]) = true := (ne_cast _ _).symm.trans hq
            rw [hq2]
            exact (rw.keeps z5.le).snoc ⟨x, dx, _, _, v, rfl, hx, hdx, rv.keeps z5.le⟩
          · repeat' ktr_member
            refine ⟨.inl rfl, _, _, rfl, ix6 (a := Z4) (c := xs') (d := ys') (e := rvs) (in11 k4 S (by (repeat (first | with_reducible exact upd_s | with_reducible exact mOf_s | with_reducible assumption | with_reducible refine upd_n (by kernel_rfl!) ?_ | with_reducible refine mOf_n (by kernel_rfl!) ?_))) (by (repeat (first | with_reducible exact upd_s | with_reducible exact mOf_s | with_reducible assumption | with_reducible refine upd_n (by kernel_rfl!) ?_ | with_reducible refine mOf_n (by kernel_rfl!) ?_))) (by (repeat (first | with_reducible exact upd_s | with_reducible exact mOf_s | with_reducible assumption | with_reducible refine upd_n (by kernel_rfl!) ?_ | with_reducible refine mOf_n (by kernel_rfl!) ?_))) (by (repeat (first | with_reducible exact upd_s | with_reducible exact mOf_s | with_reducible assumption | with_reducible refine upd_n (by kernel_rfl!) ?_ | with_reducible refine mOf_n (by kernel_rfl!) ?_))) (by (repeat (first | with_reducible exact upd_s | with_reducible exact mOf_s | with_reducible assumption | with_reducible refine upd_n (by kernel_rfl!) ?_ | with_reducible refine mOf_n (by kernel_rfl!) ?_))) (by (repeat (first | with_reducible exact upd_s | with_reducible exact mOf_s | with_reducible assumption | with_reducible refine upd_n (by kernel_rfl!) ?_ | with_reducible refine mOf_n (by kernel_rfl!) ?_))) mx' my' ?_)⟩
            have hq2 : (cnt old old[i] != cnt new old[i]) = false := (ne_cast _ _).symm.trans hq
            rw [hq2]
            exact rw
  case stop =>
    rintro h t E3
    refine ex6 ?_; intro Z4 m xs ys rvs ov
    refine an11 ?_; intro k4 S hs ht hm hn hN hr mx my rw
    refine nxEe S R.hd (by (repeat (first | exact List.Mem.head _ | apply List.Mem.tail))) (by (repeat (first | exact Dl.head | apply Dl.tail))) (S.ls (by (repeat (first | exact List.Mem.head _ | apply List.Mem.tail)))) (by rw [List.getElem?_eq_none]; rw [mx.1]; omega) ?_; intro h S
    refine ⟨rfl, ?_⟩
    rw [List.take_of_length_le (Nat.le_refl _)] at mx my rw
    have S := S.drop .head
    repeat' ktr_member
    clear hne
    refine cEnum S (S.ls (by (repeat (first | exact List.Mem.head _ | apply List.Mem.tail)))) ?_; intro e3 it3 h hne S
    repeat' ktr_member
    refine itE S (by (repeat (first | exact List.Mem.head _ | apply List.Mem.tail))) ?_
    intro E4
    refine floopT (fun i h => ∃ Z5 m ys rvs ov, Kp Z Z5 ∧ St _ _ _ Z5 m [(e3, EnO it3 i ov), (it3, LitO lt i), (lr, LstO rvs), (nu, IsO nullObj), (lt, LsO ys), (ls, LsO xs)] h ∧
      m (Str.ofString "t") = some (.ref lt) ∧ m (Str.ofString "n") = some (.int vs2.length tkn) ∧ m (Str.ofString "NULL") = some (.ref nu) ∧ m (Str.ofString "result") = some (.ref lr) ∧
      Msk ys vs2 (fun j => seenB (cdSt old new (old ++ new.take i)).1 (new.getD j .none)) (.ref nu) ∧ RowsAt Z5 rvs (cdSt old new (old ++ new.take i)).2) new.length
      (ix5 (a := Z4) (in8 k4 S (by (repeat (first | with_reducible exact upd_s | with_reducible exact mOf_s | with_reducible assumption | with_reducible refine upd_n (by kernel_rfl!) ?_ | with_reducible refine mOf_n (by kernel_rfl!) ?_))) (by (repeat (first | with_reducible exact upd_s | with_reducible exact mOf_s | with_reducible assumption | with_reducible refine upd_n (by kernel_rfl!) ?_ | with_reducible refine mOf_n (by kernel_rfl!) ?_))) (by (repeat (first | with_reducible exact upd_s | with_reducible exact mOf_s | with_reducible assumption | with_reducible refine upd_n (by kernel_rfl!) ?_ | with_reducible refine mOf_n (by kernel_rfl!) ?_))) (by (repeat (first | with_reducible exact upd_s | with_reducible exact mOf_s | with_reducible assumption | with_reducible refine upd_n (by kernel_rfl!) ?_ | with_reducible refine mOf_n (by kernel_rfl!) ?_))) (by rw [List.take_zero, List.append_nil]; exact my) (by rw [List.take_zero, List.append_nil]; exact rw))) ?itemB ?stopB
    case itemB =>
      clear k4 S hs ht hm hn hN hr mx my rw
      rintro i h t E5 hlt
      refine ex5 ?_; intro Z4 m ys rvs ov
      refine an8 ?_; intro k4 S ht hn hN hr my rw
      have gp : ∀ d ∈ old ++ new.take i, Good d := fun d hd => by
        rcases List.mem_append.mp hd with hd | hd
        · exact go1 d hd
        · exact go2 d (List.mem_of_mem_take hd)
      obtain ⟨inv1, inv2, inv3⟩ := cd_inv (old := old) (new := new) _ (old ++ new.take i) rfl gp
      have hst : cdSt old new (old ++ new.take (i + 1)) = cdStep old new (cdSt old new (old ++ new.take i)) new[i] := by rw [take_snoc hlt, ← List.append_assoc, cd_snoc]
      have hseen : ∀ d, Good d → (seenB (cdSt old new (old ++ new.take i)).1 d = true ↔ d ∈ old ++ new.take i) := fun d gd => (seenB_iff (fun y hy => gp y ((inv1 y).mp hy)) gd).trans (inv1 d)
      have ge : Good new[i] := go2 _ (List.getElem_mem hlt)
      have hde : new[i].depth ≤ 60 := (go new[i] (List.mem_append.mpr (.inr (List.getElem_mem hlt)))).2
      have hgd : ∀ {l : List PyData} {j : Nat} (hj : j < l.length), l.getD j .none = l[j] := fun hj => by rw [List.getD_eq_getElem?_getD, List.getElem?_eq_getElem hj]; rfl
      obtain ⟨v, hv, rv⟩ := rs2.get (List.getElem?_eq_getElem hlt)
      have rv := rv.keeps k4
      by_cases hsn : seenB (cdSt old new (old ++ new.take i)).1 new[i] = true
      · have hxi := my.on (j := i) (by omega) (by show seenB _ (new.getD i .none) = true; rw [hgd hlt]; exact hsn)
        refine nxE S (by (repeat (first | exact Rp.head | apply Rp.tail))) (by (repeat (first | exact Rp.head | apply Rp.tail))) hne (S.ls (by (repeat (first | exact List.Mem.head _ | apply List.Mem.tail)))) hxi ?_; intro T h tkk t S iT
        refine asT S R.hd iT rfl rfl rfl ?_; intro h S
        repeat' ktr_member
        refine wpAny_is_ref_self ?_
        repeat' ktr_member
        have e : cdSt old new (old ++ new.take (i + 1)) = cdSt old new (old ++ new.take i) := by rw [hst]; unfold cdStep; rw [if_pos hsn]
        rw [e]
        exact ⟨.inr rfl, _, _, rfl, ix5 (a := Z4) (in8 k4 S (by (repeat (first | with_reducible exact upd_s | with_reducible exact mOf_s | with_reducible assumption | with_reducible refine upd_n (by kernel_rfl!) ?_ | with_reducible refine mOf_n (by kernel_rfl!) ?_))) (by (repeat (first | with_reducible exact upd_s | with_reducible exact mOf_s | with_reducible assumption | with_reducible refine upd_n (by kernel_rfl!) ?_ | with_reducible refine mOf_n (by kernel_rfl!) ?_))) (by (repeat (first | with_reducible exact upd_s | with_reducible exact mOf_s | with_reducible assumption | with_reducible refine upd_n (by kernel_rfl!) ?_ | with_reducible refine mOf_n (by kernel_rfl!) ?_))) (by (repeat (first | with_reducible exact upd_s | with_reducible exact mOf_s | with_reducible assumption | with_reducible refine upd_n (by kernel_rfl!) ?_ | with_reducible refine mOf_n (by kernel_rfl!) ?_))) my rw)⟩
      · have hsn : seenB (cdSt old new (old ++ new.take i)).1 new[i] = false := by simpa using hsn
        have hxi := my.off hv (by show seenB _ (new.getD i .none) = false; rw [hgd hlt]; exact hsn)
        refine nxE S (by (repeat (first | exact Rp.head | apply Rp.tail))) (by (repeat (first | exact Rp.head | apply Rp.tail))) hne (S.ls (by (repeat (first | exact List.Mem.head _ | apply List.Mem.tail)))) hxi ?_; intro T h tkk t S iT
        refine asT S R.hd iT rfl rfl rfl ?_; intro h S
        repeat' ktr_member
        refine isNull (S.isO (by (repeat (first | exact List.Mem.head _ | apply List.Mem.tail)))) (rv.keeps S.zi) ge.kind ?_
        repeat' ktr_member
        refine cRange S ?_; intro rg h t S
        repeat' ktr_member
        refine itRE (x := i) (e := new.length) S (by (repeat (first | exact List.Mem.head _ | apply List.Mem.tail))) rfl (by rw [l2e]) (by omega) (by omega) ?_; intro rit h S
        intro E6
        have hnot : new[i] ∉ old ++ new.take i := fun hin => by rw [(hseen _ ge).mpr hin] at hsn; cases hsn
        have c0 : cnt (new.take i) new[i] = 0 := cnt_zero (fun d hd => go2 d (List.mem_of_mem_take hd)) ge fun hin => hnot (List.mem_append.mpr (.inr hin))
        have c1 : cnt old new[i] = 0 := cnt_zero go1 ge fun hin => hnot (List.mem_append.mpr (.inl hin))
        have c2 : 0 < cnt new new[i] := cnt_pos ge (List.getElem_mem hlt)
        have hns : ∀ d, Good d → seenB (cdSt old new (old ++ new.take i)).1 d = true → PyData.eqv d new[i] = false := fun d gd hd => by
          cases hq : PyData.eqv d new[i] with
          | false => rfl
          | true => rw [(gd.eqv ge).mp hq, hsn] at hd; cases hd
        refine floop (fun k h => ∃ m' ys' tc, St _ _ _ Z4 m' [(rit, RitE (i + k) new.length), (rg, RngO i vs2.length), (e3, EnO it3 (i + 1) v), (it3, LitO lt (i + 1)), (lr, LstO rvs), (nu, IsO nullObj), (lt, LsO ys'), (ls, LsO xs)] h ∧
          m' (Str.ofString "t") = some (.ref lt) ∧ m' (Str.ofString "n") = some (.int vs2.length tkn) ∧ m' (Str.ofString "NULL") = some (.ref nu) ∧ m' (Str.ofString "result") = some (.ref lr) ∧
          m' (Str.ofString "elem") = some v ∧ m' (Str.ofString "cnt_t") = some (.int (cnt (new.take (i + k)) new[i] : Nat) tc) ∧
          Msk ys' vs2 (fun j => seenB (cdSt old new (old ++ new.take i)).1 (new.getD j .none) || (decide (j < i + k) && PyData.eqv (new.getD j .none) new[i])) (.ref nu)) (new.length - i)
          (ix3 (in8 S (by (repeat (first | with_reducible exact upd_s | with_reducible exact mOf_s | with_reducible assumption | with_reducible refine upd_n (by kernel_rfl!) ?_ | with_reducible refine mOf_n (by kernel_rfl!) ?_))) (by (repeat (first | with_reducible exact upd_s | with_reducible exact mOf_s | with_reducible assumption | with_reducible refine upd_n (by kernel_rfl!) ?_ | with_reducible refine mOf_n (by kernel_rfl!) ?_))) (by (repeat (first | with_reducible exact upd_s | with_reducible exact mOf_s | with_reducible assumption | with_reducible refine upd_n (by kernel_rfl!) ?_ | with_reducible refine mOf_n (by kernel_rfl!) ?_))) (by (repeat (first | with_reducible exact upd_s | with_reducible exact mOf_s | with_reducible assumption | with_reducible refine upd_n (by kernel_rfl!) ?_ | with_reducible refine mOf_n (by kernel_rfl!) ?_))) (by (repeat (first | with_reducible exact upd_s | with_reducible exact mOf_s | with_reducible assumption | with_reducible refine upd_n (by kernel_rfl!) ?_ | with_reducible refine mOf_n (by kernel_rfl!) ?_))) (by rw [show i + 0 = i from rfl, c0]; show _ = some (Value.int 0 _); (repeat (first | with_reducible exact upd_s | with_reducible exact mOf_s | with_reducible assumption | with_reducible refine upd_n (by kernel_rfl!) ?_ | with_reducible refine mOf_n (by kernel_rfl!) ?_))) (my.congr fun j hj => ?init2))) ?item3 ?stop3
        case init2 =>
          (try dsimp only)
          by_cases hji : j < i
          · have : seenB (cdSt old new (old ++ new.take i)).1 (new.getD j .none) = true := (hseen _ (by rw [hgd (by omega)]; exact go2 _ (List.getElem_mem _))).mpr (by rw [hgd (by omega)]; exact List.mem_append.mpr (.inr (List.mem_take_iff_getElem.mpr ⟨j, by omega, rfl⟩)))
            rw [this]; rfl
          · simp [hji]
        case item3 =>
          rintro k h t E7 hk
          refine ex3 ?_; intro m' ys' tc
          refine an8 ?_; intro S ht hn hN hr hel hct my'
          have hk2 : i + k < new.length := by omega
          have gd : Good new[i + k] := go2 _ (List.getElem_mem hk2)
          obtain ⟨v2, hv2, rv2⟩ := rs2.get (List.getElem?_eq_getElem hk2)
          have rv2 := rv2.keeps k4
          have hcn := cnt_snoc (e := new[i]) hk2
          refine nxRE S (by (repeat (first | exact Rp.head | apply Rp.tail))) hk2 ?_; intro h tk3 t S
          refine ⟨_, rfl, ?_⟩
          repeat' ktr_member
          by_cases hsd : seenB (cdSt old new (old ++ new.take i)).1 new[i + k] = true
          · have hq := hns _ gd hsd
            refine sLst' (S.ls (by (repeat (first | exact List.Mem.head _ | apply List.Mem.tail)))) (by omega) (by omega) (show ys'[i + k]? = _ from my'.on (by omega) (by (try dsimp only); rw [hgd hk2, hsd]; rfl)) ?_
            repeat' ktr_member
            refine null_eq (S.isO (by (repeat (first | exact List.Mem.head _ | apply List.Mem.tail)))) (rv.keeps S.zi) ge.kind (by have := R.un; show A.units + 3 < 9900; omega) ?_
            repeat' ktr_member
            refine ⟨.inl rfl, _, _, rfl, ix3 (b := ys') (c := tc) (in8 S (by (repeat (first | with_reducible exact upd_s | with_reducible exact mOf_s | with_reducible assumption | with_reducible refine upd_n (by kernel_rfl!) ?_ | with_reducible refine mOf_n (by kernel_rfl!) ?_))) (by (repeat (first | with_reducible exact upd_s | with_reducible exact mOf_s | with_reducible assumption | with_reducible refine upd_n (by kernel_rfl!) ?_ | with_reducible refine mOf_n (by kernel_rfl!) ?_))) (by (repeat (first | with_reducible exact upd_s | with_reducible exact mOf_s | with_reducible assumption | with_reducible refine upd_n (by kernel_rfl!) ?_ | with_reducible refine mOf_n (by kernel_rfl!) ?_))) (by (repeat (first | with_reducible exact upd_s | with_reducible exact mOf_s | with_reducible assumption | with_reducible refine upd_n (by kernel_rfl!) ?_ | with_reducible refine mOf_n (by kernel_rfl!) ?_))) (by (repeat (first | with_reducible exact upd_s | with_reducible exact mOf_s | with_reducible assumption | with_reducible refine upd_n (by kernel_rfl!) ?_ | with_reducible refine mOf_n (by kernel_rfl!) ?_))) ?_ (my'.congr fun j hj => ?_))⟩
            · rw [show i + (k + 1) = i + k + 1 from rfl, hcn, hq, if_neg (by decide), Nat.add_zero]; (repeat (first | with_reducible exact upd_s | with_reducible exact mOf_s | with_reducible assumption | with_reducible refine upd_n (by kernel_rfl!) ?_ | with_reducible refine mOf_n (by kernel_rfl!) ?_))
            · (try dsimp only)
              by_cases hj2 : j = i + k
              · subst hj2; rw [hgd hk2, hsd]; rfl
              · rw [show decide (j < i + (k + 1)) = decide (j < i + k) from dec_ne hj2]
          · have hsd : seenB (cdSt old new (old ++ new.take i)).1 new[i + k] = false := by simpa using hsd
            refine sLst' (S.ls (by (repeat (first | exact List.Mem.head _ | apply List.Mem.tail)))) (by omega) (by omega) (show ys'[i + k]? = _ from my'.off hv2 (by (try dsimp only); rw [hgd hk2, hsd]; simp)) ?_
            repeat' ktr_member
            refine eqRD (rv2.keeps S.zi) (rv.keeps S.zi) gd.can ge.can (by have := R.un; show A.units + 3 + _ < 9900; omega) ?_
            repeat' ktr_member
            refine ⟨fun hq => ?_, fun hq => ?_⟩
            · repeat' ktr_member
              refine sSet S (by (repeat (first | exact Rp.head | apply Rp.tail))) (by omega) (by rw [my'.1]; omega) (by rw [my'.1]; omega) ?_; intro h S
              repeat' ktr_member
              refine ⟨.inl rfl, _, _, rfl, ix3 (b := ys'.set (i + k) (.ref nu)) (in8 S (by (repeat (first | with_reducible exact upd_s | with_reducible exact mOf_s | with_reducible assumption | with_reducible refine upd_n (by kernel_rfl!) ?_ | with_reducible refine mOf_n (by kernel_rfl!) ?_))) (by (repeat (first | with_reducible exact upd_s | with_reducible exact mOf_s | with_reducible assumption | with_reducible refine upd_n (by kernel_rfl!) ?_ | with_reducible refine mOf_n (by kernel_rfl!) ?_))) (by (repeat (first | with_reducible exact upd_s | with_reducible exact mOf_s | with_reducible assumption | with_reducible refine upd_n (by kernel_rfl!) ?_ | with_reducible refine mOf_n (by kernel_rfl!) ?_))) (by (repeat (first | with_reducible exact upd_s | with_reducible exact mOf_s | with_reducible assumption | with_reducible refine upd_n (by kernel_rfl!) ?_ | with_reducible refine mOf_n (by kernel_rfl!) ?_))) (by (repeat (first | with_reducible exact upd_s | with_reducible exact mOf_s | with_reducible assumption | with_reducible refine upd_n (by kernel_rfl!) ?_ | with_reducible refine mOf_n (by kernel_rfl!) ?_))) (by rw [show i + (k + 1) = i + k + 1 from rfl, hcn, hq, if_pos rfl]; show _ = some (Value.int ((cnt (new.take (i + k)) new[i] : Nat) + 1) _); (repeat (first | with_reducible exact upd_s | with_reducible exact mOf_s | with_reducible assumption | with_reducible refine upd_n (by kernel_rfl!) ?_ | with_reducible refine mOf_n (by kernel_rfl!) ?_))) (my'.set (k := i + k) (by omega) fun j hj => ?_))⟩
              (try dsimp only)
              by_cases hj2 : j = i + k
              · subst hj2; rw [hgd hk2, hq]; simp
              · rw [show decide (j < i + (k + 1)) = decide (j < i + k) from dec_ne hj2]; simp [hj2]
            · repeat' ktr_member
              refine ⟨.inl rfl, _, _, rfl, ix3 (b := ys') (c := tc) (in8 S (by (repeat (first | with_reducible exact upd_s | with_reducible exact mOf_s | with_reducible assumption | with_reducible refine upd_n (by kernel_rfl!) ?_ | with_reducible refine mOf_n (by kernel_rfl!) ?_))) (by (repeat (first | with_reducible exact upd_s | with_reducible exact mOf_s | with_reducible assumption | with_reducible refine upd_n (by kernel_rfl!) ?_ | with_reducible refine mOf_n (by kernel_rfl!) ?_))) (by (repeat (first | with_reducible exact upd_s | with_reducible exact mOf_s | with_reducible assumption | with_reducible refine upd_n (by kernel_rfl!) ?_ | with_reducible refine mOf_n (by kernel_rfl!) ?_))) (by (repeat (first | with_reducible exact upd_s | with_reducible exact mOf_s | with_reducible assumption | with_reducible refine upd_n (by kernel_rfl!) ?_ | with_reducible refine mOf_n (by kernel_rfl!) ?_))) (by (repeat (first | with_reducible exact upd_s | with_reducible exact mOf_s | with_reducible assumption | with_reducible refine upd_n (by kernel_rfl!) ?_ | with_reducible refine mOf_n (by kernel_rfl!) ?_))) ?_ (my'.congr fun j hj => ?_))⟩
              · rw [show i + (k + 1) = i + k + 1 from rfl, hcn, hq, if_neg (by decide), Nat.add_zero]; (repeat (first | with_reducible exact upd_s | with_reducible exact mOf_s | with_reducible assumption | with_reducible refine upd_n (by kernel_rfl!) ?_ | with_reducible refine mOf_n (by kernel_rfl!) ?_))
              · (try dsimp only)
                by_cases hj2 : j = i + k
                · subst hj2; rw [hgd hk2, hq]; simp
                · rw [show decide (j < i + (k + 1)) = decide (j < i + k) from dec_ne hj2]
        case stop3 =>
          rintro h t E7
          refine ex3 ?_; intro m' ys' tc
          refine an8 ?_; intro S ht hn hN hr hel hct my'
          refine nxREe S R.hd (by (repeat (first | exact Dl.head | apply Dl.tail))) (by omega) ?_; intro h S
          refine ⟨rfl, ?_⟩
          rw [show i + (new.length - i) = new.length by omega, List.take_of_length_le (Nat.le_refl _)] at hct
          have my' : Msk ys' vs2 (fun j => seenB ((cdSt old new (old ++ new.take i)).1 ++ [new[i]]) (new.getD j .none)) (.ref nu) := my'.congr fun j hj => by
            (try dsimp only)
            rw [hgd (by omega)]
            have gj := go2 _ (List.getElem_mem (show j < new.length by omega))
            unfold seenB
            rw [List.any_append]
            have : PyData.eqv new[i] new[j] = PyData.eqv new[j] new[i] := by rw [Bool.eq_iff_iff, ge.eqv gj, gj.eqv ge, eq_comm]
            simp [this, show j < i + (new.length - i) by omega]
          have S := S.drop .head
          have est : cdSt old new (old ++ new.take (i + 1)) = ((cdSt old new (old ++ new.take i)).1 ++ [new[i]], (cdSt old new (old ++ new.take i)).2 ++ [(0, cnt new new[i], new[i])]) := by
            rw [hst]; unfold cdStep; rw [if_neg (by rw [hsn]; decide), c1, if_pos (bne_iff_ne.mpr (by omega))]
          rw [est]
          repeat' ktr_member
          refine mm_spec (G.keeps S.zx.le) S.zi (R.sub (by decide) (by decide)) ?_
          intro h t Z5 x dx z5 hx hdx
          have S := S.ext z5
          repeat' ktr_member
          have hrl := rw.len
          have htl : (old ++ new.take i).length ≤ 2000 := by rw [List.length_append, List.length_take]; omega
          refine apL S (by (repeat (first | exact Rp.head | apply Rp.tail))) (by rw [hrl, sizeLine_eq]; omega) ?_; intro h S
          repeat' ktr_member
          refine ⟨.inl rfl, _, _, rfl, ix5 (a := Z5) (c := ys') (in8 (fun b o e => z5.le b o (k4 b o e)) S (by (repeat (first | with_reducible exact upd_s | with_reducible exact mOf_s | with_reducible assumption | with_reducible refine upd_n (by kernel_rfl!) ?_ | with_reducible refine mOf_n (by kernel_rfl!) ?_))) (by (repeat (first | with_reducible exact upd_s | with_reducible exact mOf_s | with_reducible assumption | with_reducible refine upd_n (by kernel_rfl!) ?_ | with_reducible refine mOf_n (by kernel_rfl!) ?_))) (by (repeat (first | with_reducible exact upd_s | with_reducible exact mOf_s | with_reducible assumption | with_reducible refine upd_n (by kernel_rfl!) ?_ | with_reducible refine mOf_n (by kernel_rfl!) ?_))) (by (repeat (first | with_reducible exact upd_s | with_reducible exact mOf_s | with_reducible assumption | with_reducible refine upd_n (by kernel_rfl!) ?_ | with_reducible refine mOf_n (by kernel_rfl!) ?_))) my' ?_)⟩
          exact (rw.keeps z5.le).snoc ⟨x, dx, _, _, v, rfl, hx, hdx, rv.keeps z5.le⟩
    case stopB =>
      rintro h t E3
      refine ex5 ?_; intro Z4 m ys rvs ov
      refine an8 ?_; intro k4 S ht hn hN hr my rw
      refine nxEe S R.hd (by (repeat (first | exact List.Mem.head _ | apply List.Mem.tail))) (by (repeat (first | exact Dl.head | apply Dl.tail))) (S.ls (by (repeat (first | exact List.Mem.head _ | apply List.Mem.tail)))) (by rw [List.getElem?_eq_none]; rw [my.1]; omega) ?_; intro h S
      refine ⟨rfl, ?_⟩
      rw [List.take_of_length_le (Nat.le_refl _)] at rw
      repeat' ktr_member
      obtain ⟨Z5, k5, i5, S⟩ := S.frzL (by (repeat (first | exact Dl.head | apply Dl.tail)))
      exact q _ _ _ _ _ S.zx i5 (rw.keeps k5)
end
section
variable {prog : Program} {w : World} {A : Around} {E : Value → Shared → Prop} {s₀ : Shared} {h : Heap} {t : Nat} {Z : Heap} {C : Addr}
theorem find_data {K : Frag} {od : Option Obj} {name : Str} {cd : ClassData} {a g : Value} (h1 : clsIn K C = some cd) (h2 : findIn K (.ref C) name = some (some a)) (h3 : specialIn K a "__get__" = some (some g)) (h4 : takesIn K a = some true) :
    findObj K C od name = some (.bind g a) := by
  unfold findObj; rw [h1, Option.bind_some, h2, Option.bind_some]; simp only [h3, Option.bind_some, h4]
theorem find_val {K : Frag} {o : Obj} {name : Str} {cd : ClassData} {v : Value} (h1 : clsIn K C = some cd) (h2 : findIn K (.ref C) name = some none) (h3 : cd.hasDict = true) (h4 : lookIn name o = some (some v)) :
    findObj K C (some o) name = some (.value v) := by
  unfold findObj PySem.W.ownOf; rw [h1, Option.bind_some, h2, Option.bind_some]; simp only [Option.bind_some, h3, if_true, h4]
theorem c_issub {s : Shared} {Q : Value → Shared → Prop} (Y : TMk (model prog w) s.heap C) (hq : Q (.bool true) s) : wpAny (model prog w) A (call (.builtin "issubclass") [.ref C, .type "tuple"]) Q E s := by
  have top := Y.top
  obtain ⟨oc, od, cd, sl, ho, _⟩ := Y.obj
  obtain ⟨h, g, d, t, os⟩ := s
  refine wpAny_call (codeAny_call_builtin PySem.F.plain_issubclass PySem.F.entry_issubclass ?_)
  simp only [checkBuiltinCall, PySem.F.kind_issubclass]
  have hargs := PySem.F.args_issubclass_2 (.ref C) (.type "tuple")
  unfold argsOk at hargs
  repeat lk
  refine ⟨Code.quiet_builtin _ (by decide +kernel), codeAny_builtin PySem.F.entry_issubclass_nested ?_⟩
  rw [Around.under_plain (show (Code.builtin "issubclass.nested" ⟨[.ref C, .type "tuple", rawInt 0], []⟩).weight = 0 from rfl) rfl]
  repeat lk
  exact hq
theorem c_tget {s : Shared} {Q : Value → Shared → Prop} {x dx : Addr} {vs : List Value} {k : Nat} {tk : Tok} {v : Value} (Y : TMk (model prog w) s.heap C) (hx : s.heap.get? x = some (subTup C dx vs)) (hk : k < 1000) (hv : vs[k]? = some v) (hq : Q v s) :
    wpAny (model prog w) A (call (.builtin "tuple.__getitem__") [.ref x, .int k tk]) Q E s := by
  have top := Y.top
  obtain ⟨h, g, d, t, os⟩ := s
  have t1 : Looks (model prog w) h (typeOf (.ref x)) (.ref C) := (Looks.ld hx).andThen .now
  have i1 : Looks (model prog w) h (isInstance (.ref x) (.type "tuple")) true := t1.andThen top
  refine wpAny_call (codeAny_call_builtin (by decide +kernel) PySem.F.entry_tuple_getitem (@check_slot (model prog w) _ _ ⟨h, g, d, t, os⟩ "tuple.__getitem__" "tuple" "__getitem__" (.ref x) [.int k tk] [] _ (by decide +kernel) (by decide +kernel) i1 (PySem.F.args_tuple_getitem_2 _ _) ?_))
  unfold Builtin.«tuple.__getitem__»
  repeat lk
  have hlt : k < vs.length := by rcases Nat.lt_or_ge k vs.length with h | h; exact h; rw [List.getElem?_eq_none h] at hv; cases hv
  have e0 : seqIndex? (k : Int) vs.toArray.size = some k := by
    unfold seqIndex?
    have e : (if (k : Int) < 0 then (k : Int) + (vs.length : Int) else k) = k := if_neg (by omega)
    show (if (decide (0 ≤ (if (k : Int) < 0 then (k : Int) + (vs.length : Int) else k)) && decide ((if (k : Int) < 0 then (k : Int) + (vs.length : Int) else k) < (vs.length : Int))) = true then some (if (k : Int) < 0 then (k : Int) + (vs.length : Int) else k).toNat else none) = some k
    rw [e, decide_eq_true (show (0 : Int) ≤ k by omega), decide_eq_true (show (k : Int) < (vs.length : Int) by omega)]
    rfl
  have e1 : (seqIndex? (k : Int) vs.toArray.size).bind (fun x => vs.toArray[x]?) = some v := by rw [e0]; simpa using hv
  rw [if_neg (by simp; omega), e1]
  repeat lk
  exact hq
theorem instAt_of {K : Frag} {p D pd : Addr} {od : Obj} (X : K.In h) (h1 : K.lookup p = some ⟨.ref D, some pd, .plain, #[]⟩) (h2 : K.lookup pd = some od) : InstAt h p ⟨.ref D, some pd, .plain, #[]⟩ D (some od) := ⟨X _ _ h1, rfl, rfl, X _ _ h2⟩
theorem gmTT {Z₀ h₀ : Heap} {L : Addr} {m : Str → Option Value} {own : Own} {pl : Sem Bool} {T id : String} {name : Str} {Q : Value × List Value → Shared → Prop} (X : (heapK w.params).In h₀) (S : St Z₀ h₀ L Z m own h) (ht : typeOf (.type T) = pure (.type "type")) (hs : Manifest.isStub T = false)
    (e : findCls (heapK w.params) (.type T) (.type "type") name = some (.val (.builtin id))) (hh : handedIn (.builtin id) = true) (q : Q (.builtin id, []) (sh s₀ h (t + 1))) : wpAny (model prog w) A (getMethod (.type T) name pl) Q E (sh s₀ h t) :=
  by with_reducible exact method_type S.fr X ht hs e hh q
theorem bindsD {fd : FuncData} {args : Args} {binds : List (Str × Value)} {T : Addr} {o : Obj} {items : Array Value} {n : Nat} {k : Option (Array Value) → Sem (List (Str × Value))} (X : (heapK w.params).In h) (hl : (heapK w.params).lookup T = some o)
    (hs : o.data = .seq items n) (hd' : fd.defaults = .ref T) (h1 : bindArgs fd args = seqItems? fd.defaults >>= k) (h2 : k (some items) = pure binds) : BindsTo (sh s₀ h t) fd args binds := BindsTo.of_defaults hd' (X _ _ hl) hs h1 h2
theorem get228 {Q : Value → Shared → Prop} {p pd x dx : Addr} {pdo : Obj} {vs : List Value} {k : Nat} {tk0 : Tok} {v : Value} (G : Gnd w Z) (hz : Kp Z h) (R : Rm A 20 60)
    (h1 : (heapK w.params).lookup p = some ⟨.ref 245, some pd, .plain, #[]⟩) (h2 : (heapK w.params).lookup pd = some pdo) (h3 : lookIn (Str.ofString "index") pdo = some (some (.int k tk0)))
    (hx : Z.get? x = some (subTup 328 dx vs)) (hdx : Z.get? dx = some emptyDict) (hk : k < 1000) (hv : vs[k]? = some v)
    (q : ∀ h' t', ZX Z h Z h' → Q v (sh s₀ h' t')) : wpAny (model prog w) A (call (.ref 228) [.ref p, .ref x, .ref 328] []) Q E (sh s₀ h t) := by
  refine' enterP (binds := [(Str.ofString "self", .ref p), (Str.ofString "obj", .ref x), (Str.ofString "objtype", .ref 328)]) (bl := [(Str.ofString "objtype", .ref 328), (Str.ofString "obj", .ref x), (Str.ofString "self", .ref p)]) G hz ?ho ?hcd ?hroom ?hbind rfl ?hloc ?body ?hcell ?c2 ?c3 ?c4
  (case ho => k_is)
  (case hcd => k_is)
  (case hroom => (have := R.dp; show _ < 1000; omega))
  (case hbind => (refine' bindsD (T := 221) (G.X.keeps hz) ?l ?b1 ?b2 ?b3 ?b4; (case l => k_is); (case b1 => exact rfl); (case b2 => exact rfl); (case b3 => exact rfl); (case b4 => exact rfl)))
  (case hloc => exact locs rfl)
  (case hcell => decide)
  (case c2 => exact rfl)
  (case c3 => exact rfl)
  (case c4 => exact rfl)
  intro E' h t S
  show wpAny _ _ _ (Lv Q) _ _
  repeat' ktr_member
  refine wpAny_is_other rfl (by intro e; cases e) ?_
  repeat' ktr_member
  have hXe := gX G S
  have I : InstAt h x (subTup 328 dx vs) 328 (some emptyDict) := ⟨S.zi _ _ hx, rfl, rfl, S.zi _ _ hdx⟩
  refine kto_own I ?_
  repeat' ktr_member
  refine c_issub (tmk_328 (gX G S)) ?_
  repeat' ktr_member
  refine' gmTT (T := "tuple") (G.X.keeps hz) S (PySem.TypeEq.meta_tuple (sh s₀ h t)) (by decide +kernel) ?e ?hh ?_
  (case e => k_is)
  (case hh => rfl)
  repeat' ktr_member
  refine' get_value (gX G S) (instAt_of (gX G S) h1 h2) ?ga (find_val ?f1 ?f2 ?f3 h3) rfl ?_
  (case ga => k_is)
  (case f1 => k_is)
  (case f2 => k_is)
  (case f3 => rfl)
  repeat' ktr_member
  refine c_tget (tmk_328 (gX G S)) (S.zi _ _ hx) hk hv ?_
  repeat' ktr_member
  exact q _ _ S.zx
theorem tup_ga_ne : (onTheHeap (.ref C) && Value.builtin "tuple.__getattribute__" == Value.builtin "object.__getattribute__") = false := by
  rw [show (Value.builtin "tuple.__getattribute__" == Value.builtin "object.__getattribute__") = false from by decide +kernel, Bool.and_false]
theorem args_tuple_ga2 (a b : Value) : argsOk "tuple.__getattribute__" ⟨[a, b], []⟩ := by first | exact PySem.F.args_tuple_getattribute_2 a b | (unfold argsOk; kernel_rfl)
theorem get_bindT {K : Frag} {s : Shared} {x : Addr} {ox : Obj} {od : Option Obj} {name : Str} {expr : Bool} {Q : Value → Shared → Prop} {g a : Value} (X : K.In s.heap) (I : InstAt s.heap x ox C od)
    (hga : findIn K (.ref C) "__getattribute__" = some (some (.builtin "tuple.__getattribute__"))) (htup : mroIn K C (.type "tuple") = some true) (hf : findObj K C od name = some (.bind g a)) (hk : findIn K (.ref C) "__getattr__" = some none) (hg : ∃ f, g = .ref f)
    (h : wpAny (model prog w) A.in1 (call g [a, .ref x, .ref C]) (fun v s' => wpAny (model prog w) A (handedOut v) Q E s') (fun _ _ => False) { s with toks := s.toks + 1 }) :
    wpAny (model prog w) A (getAttr (.ref x) name expr) Q E s := by
  have L0 := I.type (M := model prog w)
  have L1 := looks_findIn (M := model prog w) X hga
  have L2 := looks_find (M := model prog w) X I hf
  have L3 := looks_findIn (M := model prog w) X hk
  have L4 : Looks (model prog w) s.heap (isInstance (.ref x) (.type "tuple")) true := L0.andThen (looks_mroIn X htup)
  obtain ⟨hh, gg, d, t, os⟩ := s
  unfold getAttr getAttrBy
  refine wpAny_bind (wpAny_mkText (wpAny_holding (wpAny_bind (L0.at (wpAny_bind (L1.at ?_))))))
  dsimp only
  rw [tup_ga_ne, if_neg (by decide)]
  unfold getAttrByItsOwn
  have hb : Looks (model prog w) hh (hookBefore (.ref C)) none := by unfold hookBefore; rw [if_pos (show onTheHeap (.ref C) = true from rfl)]; exact L3
  refine wpAny_bind (hb.at (wpAny_bind (wpAny_attempt (wpAny_holding ?_))))
  unfold callGetattribute
  rw [show (expr && onTheHeap (Value.builtin "tuple.__getattribute__")) = false from Bool.and_false _, if_neg (by decide)]
  unfold boundAndCalled
  rw [PySem.F.slot_tuple_getattribute.bind]
  refine wpAny_bind (wpAny_pure ?_)
  show wpAny _ _ (call (.builtin "tuple.__getattribute__") [.ref x, .str name t]) _ _ _
  refine wpAny_call (codeAny_call_builtin PySem.F.slot_tuple_getattribute.plain am_entry_tuple_getattribute (@check_slot (model prog w) _ _ ⟨hh, gg, d, t + 1, os⟩ "tuple.__getattribute__" "tuple" "__getattribute__" (.ref x) [.str name t] [] _ (by decide +kernel) (by decide +kernel) L4 (args_tuple_ga2 _ _) ?_))
  unfold Builtin.«object.__getattribute__»
  obtain ⟨f, rfl⟩ := hg
  repeat (first | (with_reducible refine wpAny_mono h (fun v s' z => ?_) (fun _ _ z => z.elim)) | lk)
  exact z
end
theorem find228 {w : World} {name : Str} {p : Addr} {cd : ClassData} (h1 : clsIn (heapK w.params) 328 = some cd) (h2 : findIn (heapK w.params) (.ref 328) name = some (some (.ref p))) (h3 : specialIn (heapK w.params) (.ref p) "__get__" = some (some (.ref 228))) (h4 : takesIn (heapK w.params) (.ref p) = some true) (od : Option Obj) :
    findObj (heapK w.params) 328 od name = some (.bind (.ref 228) (.ref p)) := find_data h1 h2 h3 h4
section
variable {prog : Program} {w : World} {A : Around} {E : Value → Shared → Prop} {s₀ : Shared} {h : Heap} {t : Nat} {Z Z₀ h₀ : Heap} {L : Addr} {m : Str → Option Value} {own : Own}
theorem gaMM {Q : Value → Shared → Prop} {name : Str} {expr : Bool} {p pd x dx : Addr} {pdo : Obj} {vs : List Value} {k : Nat} {tk0 : Tok} {v : Value} (G : Gnd w Z₀) (S : St Z₀ h₀ L Z m own h) (R : Rm A 20 61)
    (f : findObj (heapK w.params) 328 (some emptyDict) name = some (.bind (.ref 228) (.ref p)))
    (ga : findIn (heapK w.params) (.ref 328) "__getattribute__" = some (some (.builtin "tuple.__getattribute__"))) (gt : mroIn (heapK w.params) 328 (.type "tuple") = some true) (gk : findIn (heapK w.params) (.ref 328) "__getattr__" = some none)
    (h1 : (heapK w.params).lookup p = some ⟨.ref 245, some pd, .plain, #[]⟩) (h2 : (heapK w.params).lookup pd = some pdo) (h3 : lookIn (Str.ofString "index") pdo = some (some (.int k tk0)))
    (hx : Z.get? x = some (subTup 328 dx vs)) (hdx : Z.get? dx = some emptyDict) (hk : k < 1000) (hv : vs[k]? = some v) (hh : handedIn v = true)
    (q : ∀ h' t', St Z₀ h₀ L Z m own h' → Q v (sh s₀ h' t')) : wpAny (model prog w) A (getAttr (.ref x) name expr) Q E (sh s₀ h t) := by
  have I : InstAt h x (subTup 328 dx vs) 328 (some emptyDict) := ⟨S.zi _ _ hx, rfl, rfl, S.zi _ _ hdx⟩
  refine get_bindT (gX G S) I ga gt f gk ⟨_, rfl⟩ ?_
  exact get228 (G.keeps S.zx.le) S.zi (R.in1 (by decide)) h1 h2 h3 hx hdx hk hv fun h' t' z => handed_on hh (q h' t' (S.ext z))
theorem reprG {Q : Value → Shared → Prop} {v : Value} {d : PyData} (S : St Z₀ h₀ L Z m own h) (r : RD Z v d) (g : Good d) (hg : A.guards = some []) (hu : A.units + (d.depth + 1) < 9900) (hsz : d.shown.length ≤ sizeLine)
    (q : ∀ h' u tk, St Z₀ h₀ L Z m own h' → Q (.str d.shown u) (sh s₀ h' tk)) : wpAny (model prog w) A (call (.builtin "repr") [v]) Q E (sh s₀ h t) := by
  have hi : ∀ {a : Addr} {as : List Addr}, Reads h (.ref a) d as → wpAny (model prog w) A (call (.builtin "repr") [.ref a]) Q E (sh s₀ h t) := fun r1 => repr_of_reads' r1 g.show (PyData.noDict_hsm g.nodict) hg hu (fun _ _ e => e) (fun h' u tk hk => q h' u tk (S.keep hk)) hsz
  cases g with
  | none => obtain rfl := r.none_inv; exact PySem.P.repr_of_none (q _ _ _ S)
  | int i h0 => obtain ⟨u, rfl⟩ := r.int_inv; exact PySem.P.repr_of_int (log_small h0) (q _ _ _ S)
  | str x hx => obtain ⟨u, rfl⟩ := r.str_inv; exact PySem.P.repr_of_str (q _ _ _ S) hsz
  | nil => obtain ⟨l, vs, rfl, _⟩ := r.lst_inv; obtain ⟨as, r1⟩ := r.keeps S.zi; exact hi r1
  | pair i _ _ => obtain ⟨l, vs, rfl, _⟩ := r.lst_inv; obtain ⟨as, r1⟩ := r.keeps S.zi; exact hi r1
theorem srepr_spec {Q : Value → Shared → Prop} {v : Value} {d : PyData} {Z : Heap} {h : Heap} (G : Gnd w Z) (hz : Kp Z h) (R : Rm A 20 80) (r : RD Z v d) (g : Good d) (hdp : d.depth ≤ 60) (hsz : d.shown.length ≤ 1000000)
    (q : ∀ h' t' u, ZX Z h Z h' → Q (.str d.shown u) (sh s₀ h' t')) : wpAny (model prog w) A (call (.ref 257) [v] []) Q E (sh s₀ h t) := by
  refine' enterP (binds := [(Str.ofString "obj", v), (Str.ofString "short", .bool false)]) (bl := [(Str.ofString "short", .bool false), (Str.ofString "obj", v)]) G hz ?ho ?hcd ?hroom ?hbind rfl ?hloc ?body ?hcell ?c2 ?c3 ?c4
  (case ho => k_is)
  (case hcd => k_is)
  (case hroom => (have := R.dp; show _ < 1000; omega))
  (case hbind => (refine' bindsD (T := 250) (G.X.keeps hz) ?l ?b1 ?b2 ?b3 ?b4; (case l => k_is); (case b1 => exact rfl); (case b2 => exact rfl); (case b3 => exact rfl); (case b4 => exact rfl)))
  (case hloc => exact locs rfl)
  (case hcell => decide)
  (case c2 => exact rfl)
  (case c3 => exact rfl)
  (case c4 => exact rfl)
  intro E' h t S
  show wpAny _ _ _ (Lv Q) _ _
  repeat' ktr_member
  refine wpAny_Try_except ?_
  repeat' ktr_member
  refine reprG S r g R.gd (by have := R.un; show A.units + 3 + _ < 9900; omega) (by rw [sizeLine_eq]; omega) ?_; intro h u t S
  repeat' ktr_member
  exact q _ _ _ S.zx
end
noncomputable def blankOf (k : Int) : Str := [Str.ofString "", Str.ofString " ", Str.ofString "\n\t "].getD (Int.fmod k 3).toNat Str.empty
noncomputable def writtenOf (k : Nat) (r : Row) : Str := blankOf k ++ istr (r.2.1 : Nat) ++ Str.ofString " for " ++ istr (r.1 : Nat) ++ blankOf k ++ Str.ofString "=" ++ blankOf k ++ r.2.2.shown ++ blankOf k
noncomputable def writtenAll (rs : List Row) : List Str := rs.mapIdx writtenOf
structure RowOk (r : Row) : Prop where
  good : Good r.2.2
  dp : r.2.2.depth ≤ 60
  sz : r.2.2.shown.length ≤ 100000
  n1 : r.1 ≤ 1000
  n2 : r.2.1 ≤ 1000
theorem RowsAt.at {Z : Heap} {vs : List Value} {rs : List Row} (a : RowsAt Z vs rs) {i : Nat} (hi : i < rs.length) : ∃ v, vs[i]? = some v ∧ RowAt Z v rs[i] := by
  induction a generalizing i with
  | nil => cases hi
  | cons a _ ih =>
    cases i with
    | zero => exact ⟨_, rfl, a⟩
    | succ i => exact ih (by simpa using hi)
theorem handed_RD {Z : Heap} {v : Value} {d : PyData} (r : RD Z v d) : handedIn v = true := by
  obtain ⟨as, r⟩ := r
  cases r <;> rfl
theorem blank_len (k : Int) : (blankOf k).length ≤ 3 := by
  unfold blankOf
  have h0 := Int.fmod_nonneg_of_pos k (b := 3) (by decide)
  have h1 := Int.fmod_lt_of_pos k (b := 3) (by decide)
  generalize Int.fmod k 3 = n at h0 h1
  obtain rfl | rfl | rfl : n = 0 ∨ n = 1 ∨ n = 2 := by omega
  all_goals decide
section
variable {prog : Program} {w : World} {A : Around} {E : Value → Shared → Prop} {s₀ : Shared} {h : Heap} {t : Nat} {Z : Heap}
theorem written_spec {Q : Value → Shared → Prop} {l : Addr} {vs : List Value} {rs : List Row} (G : Gnd w Z) (hz : Kp Z h) (R : Rm A 40 120) (il : Z.IsList l vs.toArray) (ra : RowsAt Z vs rs) (hn : rs.length ≤ 2000) (ok : ∀ r ∈ rs, RowOk r)
    (q : ∀ h' t' Z' v, ZX Z h Z' h' → RD Z' v (.list ((writtenAll rs).map PyData.str)) → Q v (sh s₀ h' t')) :
    wpAny (model prog w) A (call (.ref 383) [.ref l] []) Q E (sh s₀ h t) := by
  refine' enterP (binds := [(Str.ofString "rows", .ref l)]) (bl := [(Str.ofString "rows", .ref l)]) G hz ?ho ?hcd ?hroom ?hbind rfl ?hloc ?body ?hcell ?c2 ?c3 ?c4
  (case ho => k_is)
  (case hcd => k_is)
  (case hroom => (have := R.dp; show _ < 1000; omega))
  (case hbind => exact BindsTo.of_eq rfl)
  (case hloc => exact locs rfl)
  (case hcell => decide)
  (case c2 => exact rfl)
  (case c3 => exact rfl)
  (case c4 => exact rfl)
  intro E' h t S
  show wpAny _ _ _ (Lv Q) _ _
  repeat' ktr_member
  refine nLst S ?_; intro lr h S
  repeat' ktr_member
  refine cEnum S (IsL.keeps il S.zi) ?_; intro e it h hne S
  repeat' ktr_member
  refine itE S (by (repeat (first | exact List.Mem.head _ | apply List.Mem.tail))) ?_
  intro E2
  have lv := ra.len
  refine floopT (fun i h => ∃ m xs ov, St _ _ _ Z m [(e, EnO it i ov), (it, LitO l i), (lr, LstO xs)] h ∧ m (Str.ofString "written") = some (.ref lr) ∧ RDs Z xs ((writtenAll (rs.take i)).map PyData.str)) rs.length
    (ix3 (in3 S (by (repeat (first | with_reducible exact upd_s | with_reducible exact mOf_s | with_reducible assumption | with_reducible refine upd_n (by kernel_rfl!) ?_ | with_reducible refine mOf_n (by kernel_rfl!) ?_))) .nil)) ?item ?stop
  case item =>
    rintro i h t E3 hlt
    refine ex3 ?_; intro m xs ov
    refine an3 ?_; intro S hw rx
    obtain ⟨v, hv, x, dx, ta, tb, ev, rfl, hx, hdx, rv⟩ := ra.at hlt
    have hok := ok _ (List.getElem_mem hlt)
    have htk : writtenAll (rs.take (i + 1)) = writtenAll (rs.take i) ++ [writtenOf i rs[i]] := by
      unfold writtenAll; rw [take_snoc hlt, List.mapIdx_concat, List.length_take, Nat.min_eq_left (Nat.le_of_lt hlt)]
    generalize rs[i] = r at hx rv hok htk
    refine nxE S (by (repeat (first | exact Rp.head | apply Rp.tail))) (by (repeat (first | exact Rp.head | apply Rp.tail))) hne (IsL.keeps il S.zi) hv ?_; intro T h tkk t S iT
    refine asT S R.hd iT rfl rfl rfl ?_; intro h S
    repeat' ktr_member
    refine nLst S ?_; intro xb h S
    repeat' ktr_member
    have f3a := Int.fmod_nonneg_of_pos (i : Int) (b := 3) (by decide)
    have f3b := Int.fmod_lt_of_pos (i : Int) (b := 3) (by decide)
    refine sLstOD (ds := [Str.ofString "", Str.ofString " ", Str.ofString "\n\t "].map PyData.str) S (.head _) (.cons (.str _ _) (.cons (.str _ _) (.cons (.str _ _) .nil))) f3a (by omega) (map_get Str.empty (by show _ < 3; omega)) fun v9 r9 => ?_
    obtain ⟨tk9, rfl⟩ := r9.str_inv
    change St _ _ _ _ _ _ _ at S
    have S := S.drop .head
    have bl := blank_len i
    have l1 := istr_len (a := (r.1 : Nat)) (by have := hok.n1; omega)
    have l2 := istr_len (a := (r.2.1 : Nat)) (by have := hok.n2; omega)
    have l3 := hok.sz
    have e9 : [Str.ofString "", Str.ofString " ", Str.ofString "\n\t "].getD (Int.fmod i 3).toNat Str.empty = blankOf i := rfl
    rw [e9]
    repeat' ktr_member
    refine' gaMM (p := 320) (pd := 319) (k := 1) G S (R.sub (by decide) (by decide)) (find228 ?f1 ?f2 ?f3 ?f4 _) ?ga ?gt ?gk ?h1 ?h2 ?h3 hx hdx (by decide) rfl rfl ?_
    (case f1 => k_is)
    (case f2 => k_is)
    (case f3 => k_is)
    (case f4 => k_is)
    (case ga => k_is)
    (case gt => k_is)
    (case gk => k_is)
    (case h1 => k_is)
    (case h2 => k_is)
    (case h3 => rfl)
    intro h t S
    repeat' ktr_member
    refine cStrI (by have := hok.n2; omega) ?_; intro tk t
    repeat' ktr_member
    have c5 : (Str.ofString " for ").length = 5 := by decide +kernel
    have c1 : (Str.ofString "=").length = 1 := by decide +kernel
    refine oCat (by simp only [sizeLine_eq, Str.length_append, c5, c1]; omega) ?_; intro tk t
    repeat' ktr_member
    refine oCat (by simp only [sizeLine_eq, Str.length_append, c5, c1]; omega) ?_; intro tk t
    repeat' ktr_member
    refine' gaMM (p := 317) (pd := 316) (k := 0) G S (R.sub (by decide) (by decide)) (find228 ?f1 ?f2 ?f3 ?f4 _) ?ga ?gt ?gk ?h1 ?h2 ?h3 hx hdx (by decide) rfl rfl ?_
    (case f1 => k_is)
    (case f2 => k_is)
    (case f3 => k_is)
    (case f4 => k_is)
    (case ga => k_is)
    (case gt => k_is)
    (case gk => k_is)
    (case h1 => k_is)
    (case h2 => k_is)
    (case h3 => rfl)
    intro h t S
    repeat' ktr_member
    refine cStrI (by have := hok.n1; omega) ?_; intro tk t
    repeat' ktr_member
    refine oCat (by simp only [sizeLine_eq, Str.length_append, c5, c1]; omega) ?_; intro tk t
    repeat' ktr_member
    refine oCat (by simp only [sizeLine_eq, Str.length_append, c5, c1]; omega) ?_; intro tk t
    repeat' ktr_member
    refine oCat (by simp only [sizeLine_eq, Str.length_append, c5, c1]; omega) ?_; intro tk t
    repeat' ktr_member
    refine oCat (by simp only [sizeLine_eq, Str.length_append, c5, c1]; omega) ?_; intro tk t
    repeat' ktr_member
    refine' gaMM (p := 323) (pd := 322) (k := 2) G S (R.sub (by decide) (by decide)) (find228 ?f1 ?f2 ?f3 ?f4 _) ?ga ?gt ?gk ?h1 ?h2 ?h3 hx hdx (by decide) rfl (handed_RD rv) ?_
    (case f1 => k_is)
    (case f2 => k_is)
    (case f3 => k_is)
    (case f4 => k_is)
    (case ga => k_is)
    (case gt => k_is)
    (case gk => k_is)
    (case h1 => k_is)
    (case h2 => k_is)
    (case h3 => rfl)
    intro h t S
    repeat' ktr_member
    refine srepr_spec (G.keeps S.zx.le) S.zi (R.sub (by decide) (by decide)) rv hok.good hok.dp (by omega) ?_
    intro h t u z
    have S := S.ext z
    repeat' ktr_member
    refine oCat (by simp only [sizeLine_eq, Str.length_append, c5, c1]; omega) ?_; intro tk t
    repeat' ktr_member
    refine oCat (by simp only [sizeLine_eq, Str.length_append, c5, c1]; omega) ?_; intro tk t
    repeat' ktr_member
    have hxl := rx.len'
    have hwl : (writtenAll (rs.take i)).length ≤ i := by unfold writtenAll; rw [List.length_mapIdx, List.length_take]; omega
    refine apL S (by (repeat (first | exact Rp.head | apply Rp.tail))) (by rw [hxl, sizeLine_eq]; omega) ?_; intro h S
    repeat' ktr_member
    refine ⟨.inl rfl, _, _, rfl, ix3 (in3 S (by (repeat (first | with_reducible exact upd_s | with_reducible exact mOf_s | with_reducible assumption | with_reducible refine upd_n (by kernel_rfl!) ?_ | with_reducible refine mOf_n (by kernel_rfl!) ?_))) ?_)⟩
    rw [htk, List.map_append]
    exact rx.append (.cons (.str _ _) .nil)
  case stop =>
    rintro h t E3
    refine ex3 ?_; intro m xs ov
    refine an3 ?_; intro S hw rx
    refine nxEe S R.hd (by (repeat (first | exact List.Mem.head _ | apply List.Mem.tail))) (by (repeat (first | exact Dl.head | apply Dl.tail))) (IsL.keeps il S.zi) (by rw [List.getElem?_eq_none]; rw [lv]; exact Nat.le_refl _) ?_; intro h S
    refine ⟨rfl, ?_⟩
    rw [List.take_of_length_le (Nat.le_refl _)] at rx
    repeat' ktr_member
    refine ea3 ?_ (S.frzL (by (repeat (first | exact Dl.head | apply Dl.tail)))); intro Z5 k5 i5 S
    exact q _ _ _ _ S.zx (.lst i5 (rx.keeps k5))
end
theorem mro_map : mroOf (.type "map") = pure [.type "map", .type "object"] := by rw [mroOf_type]; kernel_rfl
theorem lookup_map_new : typeLookup (.type "map") "__new__" = pure (some (.builtin "map.__new__")) := by rw [typeLookup_type, builtinLookup_eq_fast]; kernel_rfl
theorem slot_map_init : Slot "map" "__init__" "object.__init__" :=
  .of (owner := "object") (n := "__init__") (by rw [typeLookup_type, builtinLookup_eq_fast]; kernel_rfl) (by decide +kernel) (by decide +kernel) (by decide +kernel)
    (by first | exact .inl (by decide +kernel) | exact .inr (by decide +kernel)) (by rw [isSubtype_type]; kernel_rfl)
theorem called_map : TypeCalled "map" "map.__new__" "object.__init__" :=
  ⟨by decide +kernel, by decide +kernel, ⟨_, _, mro_map⟩, madeBy_type mro_map lookup_map_new (by decide +kernel), by decide +kernel, by rw [isSubtype_type]; kernel_rfl, slot_map_init⟩
theorem typeCall_map_2 (a b : Value) : checkTypeCall "map" ⟨[a, b], []⟩ = pure () := by kernel_rfl
theorem newCall_map_2 (a b : Value) : checkBuiltinCall "map.__new__" ⟨[.type "map", a, b], []⟩ = pure () := by kernel_rfl
theorem entry_map_new : entryFor table "map.__new__" = some Builtin.«map.__new__» := entryFor_of_tree (by kernel_rfl)
noncomputable abbrev mapObj (its : Addr) (f : Value) : Obj := { cls := .type "map", data := .fields #[.ref its, f] }
theorem slot_map_next : Slot "map" "__next__" "map.__next__" :=
  .of (owner := "map") (n := "__next__") (by rw [typeLookup_type, builtinLookup_eq_fast]; kernel_rfl) (by decide +kernel) (by decide +kernel) (by decide +kernel)
    (by first | exact .inl (by decide +kernel) | exact .inr (by decide +kernel)) (by rw [isSubtype_type]; kernel_rfl)
theorem entry_map_next : entryFor table "map.__next__" = some Builtin.«map.__next__» := entryFor_of_tree (by kernel_rfl)
theorem args_map_next (a : Value) : argsOk "map.__next__" ⟨[a], []⟩ := by unfold argsOk; kernel_rfl
theorem slot_map_iter : Slot "map" "__iter__" "map.__iter__" :=
  .of (owner := "map") (n := "__iter__") (by rw [typeLookup_type, builtinLookup_eq_fast]; kernel_rfl) (by decide +kernel) (by decide +kernel) (by decide +kernel)
    (by first | exact .inl (by decide +kernel) | exact .inr (by decide +kernel)) (by rw [isSubtype_type]; kernel_rfl)
theorem entry_map_iter : entryFor table "map.__iter__" = some Builtin.«dict_keyiterator.__iter__» :=
  entryFor_alias (id' := "dict_keyiterator.__iter__") (by kernel_rfl) (by first | rfl | decide +kernel | (unfold String.splitOn; simp +decide [String.splitOnAux])) (by decide +kernel) (by kernel_rfl)
theorem map_no_len : typeLookup (.type "map") "__len__" = pure none := by rw [typeLookup_type, builtinLookup_eq_fast]; kernel_rfl
theorem map_no_hint : typeLookup (.type "map") "__length_hint__" = pure none := by rw [typeLookup_type, builtinLookup_eq_fast]; kernel_rfl
section
variable {prog : Program} {w : World} {A : Around} {E : Value → Shared → Prop} {s : Shared} {Q : Value → Shared → Prop} {l : Addr} {vs : List Value}
theorem map_new_meets {f : Value} {n : Nat} : Meets (Builtin.«map.__new__» ⟨[.type "map", f, .ref l], []⟩) (fun _ R s => s.heap.get? l = some (lstObj vs n) ∧
    R (.ok (.ret (.ref (s.heap.objs.size + 2)))) { s with heap := ((s.heap.push { cls := .type "list_iterator", data := .fields #[.ref l, .int 0 0] }).push { cls := .type "tuple", data := .seq #[.ref s.heap.objs.size] }).push (mapObj (s.heap.objs.size + 1) f) }) := .of_wp fun prog w A R s h => by
  obtain ⟨hp, g, d, tk, os⟩ := s
  obtain ⟨hl, h⟩ := h
  have hL : (⟨hp, g, d, tk, os⟩ : Shared).heap.IsList l vs.toArray := ⟨_, hl, rfl, n, rfl⟩
  have hsub : Looks (model prog w) hp _ _ := Looks.of_pure called_map.sub
  have hmade : Looks (model prog w) hp _ _ := Looks.of_pure called_map.made
  unfold Builtin.«map.__new__»
  repeat (first | (with_reducible refine wpAny_pyIter_list hL ?_) | lk)
  refine ⟨_, rfl, ?_⟩
  simpa [Heap.size_push] using h
theorem call_map {f : Value} {n : Nat} (hl : s.heap.get? l = some (lstObj vs n))
    (h : Q (.ref (s.heap.objs.size + 2)) { s with heap := ((s.heap.push { cls := .type "list_iterator", data := .fields #[.ref l, .int 0 0] }).push { cls := .type "tuple", data := .seq #[.ref s.heap.objs.size] }).push (mapObj (s.heap.objs.size + 1) f) }) :
    wpAny (model prog w) A (call (.type "map") [f, .ref l]) Q E s := by
  refine callType_new called_map (by decide) (typeCall_map_2 _ _) (newCall_map_2 _ _) (fun obj => PySem.F.args_object_init_3 obj _ _) entry_map_new map_new_meets ⟨hl, ⟨mapObj (s.heap.objs.size + 1) f, ?_, rfl⟩, h⟩
  exact Heap.get?_push_at (by simp [Heap.size_push]) rfl
theorem strsAre_get {vs : List Value} {xs : List Str} (h : StrsAre vs xs) {i : Nat} (hi : i < xs.length) : ∃ tk, vs[i]? = some (.str xs[i] tk) := by
  induction h generalizing i with
  | nil => cases hi
  | cons s t _ ih =>
    cases i with
    | zero => exact ⟨_, rfl⟩
    | succ i => exact ih (by simpa using hi)
theorem strsAre_len {vs : List Value} {xs : List Str} (h : StrsAre vs xs) : vs.length = xs.length := by
  induction h with
  | nil => rfl
  | cons _ _ _ ih => simp [ih]
/-- what a walk over map(str.strip, l) reads -/
noncomputable def MapSt (I its it l : Addr) (xs : List Str) (vs : List Value) (i : Nat) (s : Shared) : Prop :=
  s.heap.get? I = some (mapObj its (.builtin "str.strip")) ∧ s.heap.get? its = some { cls := .type "tuple", data := .seq #[.ref it] } ∧ s.heap.IsListIter it l i ∧ s.heap.IsList l vs.toArray ∧ I ≠ it ∧ its ≠ it ∧ l ≠ it
theorem map_next_item {I its it l : Addr} {x : Str} {tk : Tok} {i : Nat} {Qo : Option Value → Shared → Prop} (hI : s.heap.get? I = some (mapObj its (.builtin "str.strip"))) (hits : s.heap.get? its = some { cls := .type "tuple", data := .seq #[.ref it] }) (hit : s.heap.IsListIter it l i)
    (hl : s.heap.IsList l vs.toArray) (hx : vs[i]? = some (.str x tk)) (hsz : x.length ≤ sizeLine) (h1 : I ≠ it)
    (hq : ∀ h' u k, h'.IsListIter it l (i + 1) → Heap.SameBut it s.heap h' → Qo (some (.str (Txt.strip x) u)) { s with heap := h', toks := k }) : wpAny (model prog w) A (pyNext (.ref I)) Qo E s := by
  have hT : s.TypeIs (.ref I) "map" := ⟨_, hI, rfl⟩
  unfold pyNext
  refine wpAny_bind (wpAny_attempt (wpAny_callSpecial?_slot (name := Str.ofString "__next__") hT slot_map_next (wpAny_call_entry slot_map_next hT entry_map_next ?_ (args_map_next _))))
  unfold Builtin.«map.__next__»
  refine wpAny_bind (m := slotArgs "__next__" 0 _) (wpAny_pure ?_)
  show wpAny _ _ (field (.ref I) 0 >>= _) _ _ _
  refine wpAny_bind (wpAny_field hI rfl (x := .ref its) rfl ?_)
  obtain ⟨hp, g, d, t0, os⟩ := s
  have hx' : vs.toArray[i]? = some (.str x tk) := by simpa using hx
  repeat (first | ((with_reducible show wpAny _ _ (Builtin.SmallTypes.nextOf _) _ _ _); refine wpAny_nextOf_list_item (it := it) hit hl hx' fun h' hit' hs => ?_) | lk)
  have hI' := hs.extBut I _ h1 hI
  repeat (first | ((with_reducible show wpAny _ _ (call _ _ _) _ _ _); refine SC.strip (x := x) (t := tk) (fun u k => ?_) hsz) | lk)
  exact ⟨_, rfl, wpAny_pure (hq h' u k hit' hs)⟩
theorem map_next_end {I its it l : Addr} {i : Nat} {Qo : Option Value → Shared → Prop} (hh : A.handled = none) (hI : s.heap.get? I = some (mapObj its (.builtin "str.strip"))) (hits : s.heap.get? its = some { cls := .type "tuple", data := .seq #[.ref it] }) (hit : s.heap.IsListIter it l i)
    (hl : s.heap.IsList l vs.toArray) (hx : vs[i]? = none) (h1 : I ≠ it)
    (hq : ∀ h', Heap.ExtBut it s.heap h' → Qo none { s with heap := h' }) : wpAny (model prog w) A (pyNext (.ref I)) Qo E s := by
  have hT : s.TypeIs (.ref I) "map" := ⟨_, hI, rfl⟩
  unfold pyNext
  refine wpAny_bind (wpAny_attempt (wpAny_callSpecial?_slot (name := Str.ofString "__next__") hT slot_map_next (wpAny_call_entry slot_map_next hT entry_map_next ?_ (args_map_next _))))
  unfold Builtin.«map.__next__»
  refine wpAny_bind (m := slotArgs "__next__" 0 _) (wpAny_pure ?_)
  show wpAny _ _ (field (.ref I) 0 >>= _) _ _ _
  refine wpAny_bind (wpAny_field hI rfl (x := .ref its) rfl ?_)
  obtain ⟨hp, g, d, t0, os⟩ := s
  have hx' : vs.toArray[i]? = none := by simpa using hx
  repeat (first | ((with_reducible show wpAny _ _ (Builtin.SmallTypes.nextOf _) _ _ _); refine wpAny_nextOf_list_end (it := it) hh hit hl hx' fun h' e he hx => ?_) | lk)
  obtain ⟨⟨oc, od, dt, sl⟩, ho, hc⟩ := hx
  dsimp only at hc
  subst hc
  have hst : Looks (model prog w) h' (isSubtype (.type "StopIteration") (.type "StopIteration")) true := Looks.of_pure isSubtype_stop
  repeat lk
  exact hq _ he
theorem mapWalks {I its it l : Addr} {xs : List Str} (hh : A.handled = none) (hne : I ≠ it) (hne2 : its ≠ it) (hne3 : l ≠ it) (hv : StrsAre vs xs) (hsz : ∀ x ∈ xs, x.length ≤ sizeLine) :
    WalksS prog w A I [I, its, it, l] [it] (fun a b => a = b) xs.length (fun i v => ∃ x tk, xs[i]? = some x ∧ v = .str (Txt.strip x) tk)
      (fun i s => s.heap.get? I = some (mapObj its (.builtin "str.strip")) ∧ s.heap.get? its = some { cls := .type "tuple", data := .seq #[.ref it] } ∧ s.heap.IsListIter it l i ∧ s.heap.IsList l vs.toArray) where
  sub := fun b hb => by simp at hb; simp [hb]
  grefl := fun _ => rfl
  gtrans := fun _ _ _ a b => a.trans b
  frame := fun i s h' tk st _ hk => ⟨hk I (by simp) _ st.1, hk its (by simp) _ st.2.1, st.2.2.1.at fun o e => hk it (by simp) o e, st.2.2.2.at fun o e => hk l (by simp) o e⟩
  item := fun i s Q E hi st hQ => by
    obtain ⟨tk, hx⟩ : ∃ tk, vs[i]? = some (.str xs[i] tk) := strsAre_get hv hi
    refine wpAny_mono (wpAny_toks (map_next_item (Qo := fun r s' => ∃ u h' k, r = some (.str (Txt.strip xs[i]) u) ∧ s' = { s with heap := h', toks := k } ∧ h'.IsListIter it l (i + 1) ∧ Heap.SameBut it s.heap h') st.1 st.2.1 st.2.2.1 st.2.2.2 hx (hsz _ (List.getElem_mem hi)) hne
      fun h' u k a b => ⟨u, h', k, rfl, rfl, a, b⟩)) (fun r s' hr => ?_) fun _ _ e => e.2
    obtain ⟨hk, u, h', k, rfl, rfl, a, b⟩ := hr
    have kb := b.extBut
    obtain ⟨ol, hol, cl⟩ := st.2.2.2
    refine hQ _ _ ⟨_, u, List.getElem?_eq_getElem hi, rfl⟩ ⟨kb _ _ hne st.1, kb _ _ hne2 st.2.1, a, ⟨ol, kb _ _ hne3 hol, cl⟩⟩ ⟨fun b o hb e => kb b o (by simpa using hb) e, rfl, rfl, rfl, hk⟩
  done := fun s Q E st hQ => by
    refine map_next_end hh st.1 st.2.1 st.2.2.1 st.2.2.2 (by rw [List.getElem?_eq_none]; rw [strsAre_len hv]; exact Nat.le_refl _) hne fun h' he => ?_
    exact hQ _ ⟨fun b o hb e => he b o (by simpa using hb) e, rfl, rfl, rfl, Nat.le_refl _⟩
  self := fun i s Q E st hq => by
    have hT : s.TypeIs (.ref I) "map" := ⟨_, st.1, rfl⟩
    refine wpAny_pyIter_slot hT slot_map_iter (wpAny_call_entry slot_map_iter hT (b := Builtin.«dict_keyiterator.__iter__») entry_map_iter ?_ (by unfold argsOk; kernel_rfl))
    show wpAny _ _ (ret (.ref I)) _ _ s
    exact wpAny_pure ⟨_, rfl, "map", _, hT, slot_map_next.lookup, hq⟩
theorem collect_map {I its it l : Addr} {xs : List Str} {Q : List Value → Shared → Prop} (hh : A.handled = none) (hne : I ≠ it) (hne2 : its ≠ it) (hne3 : l ≠ it) (hv : StrsAre vs xs) (hsz : ∀ x ∈ xs, x.length ≤ sizeLine) (hn : xs.length ≤ sizeLine)
    (h1 : s.heap.get? I = some (mapObj its (.builtin "str.strip"))) (h2 : s.heap.get? its = some { cls := .type "tuple", data := .seq #[.ref it] }) (h3 : s.heap.IsListIter it l 0) (h4 : s.heap.IsList l vs.toArray)
    (hQ : ∀ s' acc, Moved [it] (fun a b => a = b) s s' → ItemsOf (fun i v => ∃ x tk, xs[i]? = some x ∧ v = .str (Txt.strip x) tk) acc xs.length → Q acc.toList s') : wpAny (model prog w) A (collect (.ref I)) Q E s := by
  have W := mapWalks (prog := prog) (w := w) (A := A.in1) (vs := vs) (xs := xs) hh hne hne2 hne3 hv hsz
  have hfp : ∀ b ∈ [I, its, it, l], b < s.heap.objs.size := by
    intro b hb
    simp only [List.mem_cons, List.not_mem_nil, or_false] at hb
    rcases hb with rfl | rfl | rfl | rfl
    · exact Heap.lt_size h1
    · exact Heap.lt_size h2
    · obtain ⟨o, e, _⟩ := h3; exact Heap.lt_size e
    · obtain ⟨o, e, _⟩ := h4; exact Heap.lt_size e
  have hSf : s.heap.objs.size ∉ [I, its, it, l] := fun hm => Nat.lt_irrefl _ (hfp _ hm)
  have hSI : s.heap.objs.size ≠ I := fun e => hSf (e ▸ by simp)
  unfold collect
  refine wpAny_bind (wpAny_runValue (codeAny_builtin PySem.F.entry_proto_collect ?_))
  rw [Around.under_plainId PySem.F.plain_proto_collect _]
  show wpAny _ A.in1 (newList [] >>= fun l => again (.builtin "list.__iadd__" ⟨[l, .ref I], []⟩)) _ _ s
  refine wpAny_bind (wpAny_newObj_type ?_)
  refine wpAny_pure ⟨plainId_quiet PySem.F.plain_list_iadd _, codeAny_builtin PySem.F.entry_list_iadd ?_⟩
  rw [Around.under_plainId PySem.F.plain_list_iadd _]
  have hst₁ := W.frame 0 s (s.heap.push { cls := .type "list", data := .seq ([] : List Value).toArray }) s.toks ⟨h1, h2, h3, h4⟩ (Nat.le_refl _) fun b _ o e => Heap.get?_push_of_some _ e
  show wpAny _ A.in1 (Builtin.List.listExtendWith (.ref s.heap.objs.size) (.ref I) (.ref s.heap.objs.size)) _ _ _
  unfold Builtin.List.listExtendWith
  have hT : ({ s with heap := s.heap.push { cls := .type "list", data := .seq ([] : List Value).toArray } } : Shared).TypeIs (.ref I) "map" := ⟨_, hst₁.1, rfl⟩
  refine wpAny_bind (wpAny_typeOf hT ?_)
  have h1' : Builtin.List.listSameRef (.ref s.heap.objs.size) (.ref I) = false := by simp [Builtin.List.listSameRef, hSI]
  have h2' : (Value.type "map" == Value.type "list") = false := by decide
  have h3' : (Value.type "map" == Value.type "tuple") = false := by decide
  simp only [h1', h2', h3', Bool.or_false, Bool.false_eq_true, if_false]
  refine wpAny_bind (W.self 0 _ _ _ hst₁ ?_)
  refine wpAny_bind (wpAny_holding ?_)
  unfold Builtin.List.listLengthHint
  refine wpAny_bind (wpAny_specialOf hT map_no_len ?_)
  show wpAny _ A.in1 (specialOf (Value.ref I) (Str.ofString "__length_hint__") >>= _) _ _ _
  refine wpAny_bind (wpAny_specialOf hT map_no_hint ?_)
  refine wpAny_pure ?_
  show wpAny _ A.in1 (rule "list.extend.makes-room" >>= fun _ => Builtin.List.listTouch (.ref s.heap.objs.size) >>= fun _ =>
    again (.builtin "list.extend.loop" ⟨[.ref s.heap.objs.size, .ref I, .ref s.heap.objs.size], []⟩)) _ _ _
  refine wpAny_bind (wpAny_rule ?_)
  have hS₁ : (s.heap.push { cls := .type "list", data := .seq ([] : List Value).toArray }).get? s.heap.objs.size = some { cls := .type "list", data := .seq ([] : List Value).toArray } := Heap.get?_push_size _ rfl
  refine wpAny_bind ?_
  show wpAny _ A.in1 (updateSeq s.heap.objs.size (·.push .none) >>= fun _ => updateSeq s.heap.objs.size (·.pop)) _ _ _
  refine wpAny_bind (wpAny_updateSeq hS₁ rfl ?_)
  have hS₂ := Heap.get?_update_self (Obj.mapSeq (·.push Value.none)) hS₁ rfl
  refine wpAny_updateSeq hS₂ rfl ?_
  have hS₃ := Heap.get?_update_self (Obj.mapSeq (·.pop)) hS₂ rfl
  have oth : ∀ b o, b ≠ s.heap.objs.size → (s.heap.push { cls := .type "list", data := .seq ([] : List Value).toArray }).get? b = some o →
      (((s.heap.push { cls := .type "list", data := .seq ([] : List Value).toArray }).update s.heap.objs.size (Obj.mapSeq (·.push Value.none))).update s.heap.objs.size (Obj.mapSeq (·.pop))).get? b = some o :=
    fun b o hb e => (Heap.get?_update_other _ _ (Ne.symm hb)).trans ((Heap.get?_update_other _ _ (Ne.symm hb)).trans e)
  refine wpAny_pure ⟨plainId_quiet PySem.F.plain_extend_loop _, codeAny_extend_loopS W hn _ hSf _ xs.length 0 _ _ _ rfl (Nat.zero_le _)
    (W.frame 0 ({ s with heap := s.heap.push { cls := .type "list", data := .seq ([] : List Value).toArray } } : Shared) _ s.toks hst₁ (Nat.le_refl _) fun b hb o e => oth b o (fun h => hSf (h ▸ hb)) e) hS₃ (ItemsOf.nil _) fun s' acc' c' hm hS' hacc => ?_⟩
  show wpAny _ A (load s.heap.objs.size >>= _) _ _ s'
  refine wpAny_bind (wpAny_load hS' ?_)
  exact wpAny_pure (hQ s' acc' (Moved.drop_new (o := { cls := .type "list", data := .seq ([] : List Value).toArray }) (tk := s.toks) (Moved.trans W.gtrans ((Moved.refl W.grefl).then_heap (Nat.le_refl _) fun b o hb e => oth b o (fun h => hb (by rw [h]; exact List.mem_cons_self)) e) hm) (Nat.le_refl _)) hacc)
end
section
variable {prog : Program} {w : World} {A : Around} {E : Value → Shared → Prop} {s₀ : Shared} {h h' : Heap} {t : Nat} {Z Z₀ h₀ : Heap} {L : Addr} {m m' : Str → Option Value} {own : Own}
theorem St.setL' (S : St Z₀ h₀ L Z m own h) (k : Heap.ExtBut L h h') (n : h'.Ns L m') : St Z₀ h₀ L Z m' own h' where
  zx := ⟨fun b o e => k b o (fun hb => by subst hb; exact absurd (Heap.lt_size e) (Nat.not_lt.mpr S.lb)) (S.zx.keep b o e), S.zx.le,
    fun b o e => k b o (fun hb => by subst hb; rw [S.lz] at e; cases e) (S.zx.sub b o e), S.zx.new⟩
  ns := n
  lz := S.lz
  lb := S.lb
  ow := fun p hp => let ⟨⟨o, ho, q⟩, r1, r2, r3⟩ := S.ow p hp; ⟨⟨o, k _ o r3 ho, q⟩, r1, r2, r3⟩
  nd := S.nd
/-- all that stands beside the frame and the ground, as the K layer's news -/
theorem St.newsAll (S : St Z₀ h₀ L Z m own h) : ∃ news, News h₀ L h news ∧ ∀ h' m' news', (∀ p ∈ news, p ∈ news') → Fr h₀ L h' m' → News h₀ L h' news' → St Z₀ h₀ L Z m' own h' := by
  classical
  refine ⟨(List.range h.objs.size).filterMap fun a => if a ≠ L ∧ h₀.get? a = none then (h.get? a).map (a, ·) else none, fun p hp => ?_, fun h' m' news' hs F N => S.setL' (fun b o hb e => ?_) F.ns⟩
  · obtain ⟨a, _, e⟩ := List.mem_filterMap.mp hp
    split at e
    · rename_i c
      obtain ⟨o, ho, rfl⟩ := Option.map_eq_some_iff.mp e
      exact ⟨ho, c.1, c.2⟩
    · cases e
  · cases e0 : h₀.get? b with
    | some o' =>
      have := S.hi _ _ e0
      rw [e] at this; cases this
      exact F.keep _ _ e0
    | none =>
      refine (N (b, o) (hs _ (List.mem_filterMap.mpr ⟨b, List.mem_range.mpr (Heap.lt_size e), ?_⟩))).1
      rw [if_pos ⟨hb, e0⟩, e]; rfl
theorem cSplitMax {x y : Str} {k : Int} {tx u v : Tok} {Q : Value → Shared → Prop} (S : St Z₀ h₀ L Z m own h) (hy : (y.length == 0) = false) (hk : (decide (k < -(2 ^ 63 : Int)) || decide (k ≥ 2 ^ 63)) = false) (hsz : x.length + 2 ≤ sizeLine)
    (q : ∀ l vs h' t', StrsAre vs (Txt.splitMax x y k) → (∀ a ∈ Txt.splitMax x y k, a.length ≤ x.length) → St Z₀ h₀ L Z m ((l, LstO vs) :: own) h' → Q (.ref l) (sh s₀ h' t')) : wpAny (model prog w) A (call (.builtin "str.split") [.str x tx, .str y u, .int k v]) Q E (sh s₀ h t) := by
  obtain ⟨news, N, back⟩ := S.newsAll
  refine splitN2A (s := sh s₀ h t) S.fr N hy hk (fun l h' tk e sa hle il F' N' => ?_) hsz
  have S' := back h' m _ (fun p hp => List.mem_cons_of_mem _ hp) F' N'
  have hn := get?_size h
  obtain ⟨f1, f2, f3, f4⟩ := S.fresh hn
  rw [e] at sa hle
  exact q _ _ h' tk sa hle (S'.take (N' _ (List.mem_cons_self ..)).1 ⟨0, rfl⟩ f1 f2 f3 f4)
end
section
variable {prog : Program} {w : World} {A : Around} {E : Value → Shared → Prop}
theorem evStar {f : Value} {e : Expr} {pos : Pos} {env : Env} {Q : Args → Shared → Prop} {s : Shared}
    (h : wpAny (model prog w) A (eval e env) (fun v s₁ => wpAny (model prog w) A (notIterableAtAll v) (fun b s₂ => b = false ∧ wpAny (model prog w) A (collect v) (fun vs s₃ => Q ⟨vs, []⟩ s₃) E s₂) E s₁) E s) :
    wpAny (model prog w) A (evalArgs f true [(true, do let v ← eval e env; standAt pos; pure v)] []) Q E s := by
  unfold evalArgs
  refine wpAny_bind ?_
  refine wpAny_bind (wpAny_mono h (fun v s₁ h₁ => wpAny_bind (wpAny_standAt (wpAny_pure ?_))) fun _ _ x => x)
  refine wpAny_bind (wpAny_pure ?_)
  refine wpAny_holding ?_
  dsimp only
  rw [if_pos (show (([] : List (Option Str × Sem Value)).all fun x => x.fst.isSome) = true from rfl)]
  refine wpAny_bind (wpAny_of_eq (a := ([] : List Value)) rfl ?_)
  refine wpAny_bind (wpAny_bind (wpAny_mono h₁ (fun b s₂ h₂ => ?_) fun _ _ x => x))
  obtain ⟨rfl, h₂⟩ := h₂
  rw [if_neg (by decide)]
  exact wpAny_holding (wpAny_mono h₂ (fun vs s₃ h₃ => wpAny_pure h₃) fun _ _ x => x)
theorem cwStar {f : Addr} {pos sp : Pos} {e : Expr} {env : Env} {Q : Value → Shared → Prop} {s : Shared} (hk : keepIn (heapK w.params) (.ref f) = true)
    (h : wpAny (model prog w) A (eval e env) (fun v s₁ => wpAny (model prog w) A (notIterableAtAll v) (fun b s₂ => b = false ∧ wpAny (model prog w) A (collect v) (fun vs s₃ => (heapK w.params).In s₃.heap ∧ wpAny (model prog w) A (call (.ref f) vs []) Q E s₃) E s₂) E s₁) E s) :
    wpAny (model prog w) A (callWith pos (.ref f) [] (backTo pos (starEach [.Starred e sp] env)) []) Q E s := by
  unfold callWith
  refine wpAny_bind (wpAny_holding (wpAny_mono (evStar (Q := fun a s₁ => a.kw = [] ∧ (heapK w.params).In s₁.heap ∧ wpAny (model prog w) A (call (.ref f) a.pos []) Q E s₁) (wpAny_mono h (fun v s₁ h₁ => wpAny_mono h₁ (fun b s₂ h₂ => ⟨h₂.1, wpAny_mono h₂.2 (fun vs s₃ h₃ => ⟨rfl, h₃⟩) fun _ _ x => x⟩) fun _ _ x => x) fun _ _ x => x)) (fun a s₁ h₁ => wpAny_bind (wpAny_standAt ?_)) fun _ _ x => x))
  obtain ⟨ps, kw⟩ := a
  obtain ⟨hkw, X, h₁⟩ := h₁
  dsimp only at hkw
  subst hkw
  obtain ⟨k, hkk, L⟩ := looks_keep (M := model prog w) hk X
  have tail : ∀ {t : Sem Value}, wpAny (model prog w) A t Q E s₁ → wpAny (model prog w) A (t >>= fun r => holding [r] point >>= fun _ => pure r) Q E s₁ :=
    fun ht => wpAny_bind (wpAny_mono ht (fun r s₂ hr => wpAny_bind (wpAny_holding (wpAny_point (wpAny_pure hr)))) fun _ _ x => x)
  have hany : ((backTo pos (starEach [.Starred e sp] env)).any (·.1) || ([] : List (Option Str × Sem Value)).any (·.1.isNone)) = true := rfl
  simp only [hany]
  refine wpAny_bind (L.here ?_)
  rcases hkk with rfl | rfl
  · exact tail (by unfold callMarked; exact Calls.wpAny_keep (by simpa using h₁))
  · exact tail (wpAny_operate' (by simpa using h₁))
end
section
variable {prog : Program} {w : World} {A : Around} {E : Value → Shared → Prop} {s₀ : Shared} {h h' : Heap} {t : Nat} {Z Z₀ h₀ : Heap} {L : Addr} {m m' : Str → Option Value} {own own' : Own}
theorem gmStr {x : Str} {u : Tok} {name : Str} {id : String} {pl : Sem Bool} {Q : Value × List Value → Shared → Prop} (slot : Slot "str" name id) (ty : typeOf (.builtin id) = pure (.type "method_descriptor")) (q : Q (.builtin id, [.str x u]) (sh s₀ h t)) :
    wpAny (model prog w) A (getMethod (.str x u) name pl) Q E (sh s₀ h t) := by with_reducible exact getMethod_builtin (typeIs_str _ _ _) PySem.F.plainAttrs_str slot ty (fun _ e => nomatch e) q
theorem gmSplit {x : Str} {u : Tok} {pl : Sem Bool} {Q : Value × List Value → Shared → Prop} (q : Q (.builtin "str.split", [.str x u]) (sh s₀ h t)) :
    wpAny (model prog w) A (getMethod (.str x u) "split" pl) Q E (sh s₀ h t) := by with_reducible exact gmStr PySem.F.slot_str_split PySem.F.type_str_split q
theorem gaTT {T : String} {v : Value} {name : Str} {expr : Bool} {Q : Value → Shared → Prop} {s : Shared} (X : (heapK w.params).In s.heap) (ht : typeOf (.type T) = pure (.type "type")) (hs : Manifest.isStub T = false)
    (e : findCls (heapK w.params) (.type T) (.type "type") name = some (.val v)) (hh : handedIn v = true) (q : Q v { s with toks := s.toks + 1 }) : wpAny (model prog w) A (getAttr (.type T) name expr) Q E s := by
  have hstub : opaqueClassAbove (.type T) = pure none := by unfold opaqueClassAbove; dsimp only; rw [hs]; rfl
  have hg : findIn (heapK w.params) (.type "type") "__getattribute__" = some (some (.builtin "type.__getattribute__")) := type_tga
  have LO : Looks (model prog w) s.heap (opaqueClassAbove (.type T)) none := Looks.of_pure hstub
  exact cls_open X LO (Looks.of_pure ht) hg (looks_hook X (r := none) (by rfl)) (by show subIn _ _ _ = _; rfl) e (wpAny_pure (handed_on hh q))
theorem not_iter_map {I : Addr} {its : Addr} {f : Value} {s : Shared} {Q : Bool → Shared → Prop} (hI : s.heap.get? I = some (mapObj its f)) (q : Q false s) : wpAny (model prog w) A (notIterableAtAll (.ref I)) Q E s := by
  have hT : s.TypeIs (.ref I) "map" := ⟨_, hI, rfl⟩
  unfold notIterableAtAll
  refine wpAny_bind (wpAny_specialOf hT slot_map_iter.lookup ?_)
  exact wpAny_pure q
theorem len2 {α : Type} {l : List α} (h : l.length = 2) : ∃ a b, l = [a, b] := by
  cases l with
  | nil => cases h
  | cons a l => cases l with
    | nil => cases h
    | cons b l => cases l with
      | nil => exact ⟨a, b, rfl⟩
      | cons _ _ => exact absurd (Nat.succ.inj (Nat.succ.inj h)) (Nat.succ_ne_zero _)
theorem items2 {P : Nat → Value → Prop} {acc : Array Value} (h : ItemsOf P acc 2) : ∃ a b, acc.toList = [a, b] ∧ P 0 a ∧ P 1 b := by
  obtain ⟨h1, h2⟩ := h
  obtain ⟨a, b, hl⟩ := len2 (l := acc.toList) (by simpa using h1)
  have g0 : acc[0]? = some a := by rw [← Array.getElem?_toList, hl]; rfl
  have g1 : acc[1]? = some b := by rw [← Array.getElem?_toList, hl]; rfl
  exact ⟨a, b, hl, h2 0 a g0, h2 1 b g1⟩
/-- map(str.strip, l) taken to its end -/
theorem mapColl {Q : List Value → Shared → Prop} {l : Addr} {vs : List Value} {a b : Str} (S : St Z₀ h₀ L Z m own h) (hh : A.handled = none) (il : (l, LstO vs) ∈ own) (hv : StrsAre vs [a, b]) (ha : a.length ≤ sizeLine) (hb : b.length ≤ sizeLine)
    (q : ∀ h' t' ta tb, St Z₀ h₀ L Z m own h' → Q [.str (Txt.strip a) ta, .str (Txt.strip b) tb] (sh s₀ h' t')) :
    wpAny (model prog w) A (call (.type "map") [.builtin "str.strip", .ref l]) (fun v s₁ => wpAny (model prog w) A (notIterableAtAll v) (fun b s₂ => b = false ∧ wpAny (model prog w) A (collect v) Q E s₂) E s₁) E (sh s₀ h t) := by
  obtain ⟨_, e, n, rfl⟩ := S.mem il
  refine call_map e ?_
  have S1 := S.push (o := { cls := .type "list_iterator", data := .fields #[.ref l, .int 0 0] }) (P := LitO l 0) rfl ⟨rfl, rfl⟩
  have S2 := S1.push (o := { cls := .type "tuple", data := .seq #[.ref h.objs.size] }) (P := IsO { cls := .type "tuple", data := .seq #[.ref h.objs.size] }) rfl rfl
  have S3 := S2.push (o := mapObj (h.objs.size + 1) (.builtin "str.strip")) (P := IsO (mapObj (h.objs.size + 1) (.builtin "str.strip"))) rfl rfl
  rw [Heap.size_push, Heap.size_push] at S3
  have i1 := S3.isO (.head _)
  have i2 := S3.isO (.tail _ (.head _))
  obtain ⟨o3, e3, p3⟩ := S3.mem (.tail _ (.tail _ (.head _)))
  have hlt : l < h.objs.size := Heap.lt_size e
  refine not_iter_map i1 ⟨rfl, ?_⟩
  have il3 := S3.lst (l := l) (vs := vs) (.tail _ (.tail _ (.tail _ il)))
  refine collect_map (xs := [a, b]) hh (show h.objs.size + 1 + 1 ≠ h.objs.size by omega) (show h.objs.size + 1 ≠ h.objs.size by omega) (Nat.ne_of_lt hlt) hv (by intro x hx; simp at hx; rcases hx with rfl | rfl <;> assumption) (by rw [sizeLine_eq]; show 2 ≤ _; decide) i1 i2 ⟨o3, e3, p3⟩ il3 fun s' acc hm hi => ?_
  obtain ⟨x, y, ea, ⟨x1, tx, gx, rfl⟩, y1, ty, gy, rfl⟩ := items2 hi
  cases gx
  cases gy
  rw [ea]
  obtain ⟨hp, g, d, tk, os⟩ := s'
  obtain ⟨m1, m2, m3, m4, m5⟩ := hm
  dsimp only at m1 m2 m3 m4
  subst m2 m3 m4
  have S4 := S3.del (.tail (.tail .head)) (fun b o hb e => m1 b o (by simpa using hb) e)
  have S5 := (S4.drop .head).drop .head
  exact q hp tk tx ty S5
/-- a plain def of the top is entered (the code itself) -/
theorem enterPC {R : Result → Shared → Prop} {name qual : Str} {params : Arguments} {body : List Stmt} {scope : Scope} {dV kV doc pm cdv ct oc : Value} {an od : Option Addr} {osl : Array (Option Value)} {f : Addr} {pos : List Value} {kw : List (Str × Value)} {binds bl : List (Str × Value)}
    (G : Gnd w Z) (hz : Kp Z h) (ho : (heapK w.params).lookup f = some ⟨oc, od, .func (fnOf name qual params body scope dV kV doc pm an cdv ct), osl⟩) (hcd : codeIn (heapK w.params) cdv qual = true) (hroom : A.depth < recursionLimit)
    (hbind : BindsTo (sh s₀ h t) (fnOf name qual params body scope dV kV doc pm an cdv ct) ⟨pos, kw⟩ binds) (hbl : binds.reverse = bl) (hloc : ∀ y ∈ binds, scope.names.lookup y.1 = some .local)
    (hbody : ∀ E' h' t', St Z h h.objs.size Z (mOf bl) [] h' →
      wpAny (model prog w) (A.deeper (envX qual scope h.objs.size f cdv [])) (execs body (envX qual scope h.objs.size f cdv [])) (Lv fun v s' => R (.ok (.ret v)) s') E' (sh s₀ h' t'))
    (hcell : ∀ x ∈ scope.names, x.2 ≠ .cell) (hco : scope.isCoroutine = false := by rfl) (hgen : scope.isGenerator = false := by rfl) (hk : scope.kind = .function := by rfl) :
    codeAny (model prog w) A (.call (.ref f) ⟨pos, kw⟩) R (sh s₀ h t) := by
  subst hbl
  have X : (heapK w.params).In h := G.X.keeps hz
  obtain ⟨p, l, mg, mb, T⟩ := G.T
  refine codeAny_call_def (fd := fnOf name qual params body scope dV kV doc pm an cdv ct) (body := body) (binds := binds) hroom (X _ _ ho) rfl (T.nolimit.keeps hz) (codeRec_of X hcd) rfl hbind hcell hloc (fun h₁ hns hk₁ => ?_) hco hgen hk
  refine hbody _ h₁ _ ⟨⟨hk₁, fun _ _ e => e, fun b o e => hk₁ b o (hz b o e), fun _ _ e => .inl e⟩, hns, ?_, Nat.le_refl _, fun _ hp => (nomatch hp), List.nodup_nil⟩
  cases e : Z.get? h.objs.size with
  | none => rfl
  | some o => exact absurd (Heap.lt_size (hz _ _ e)) (Nat.lt_irrefl _)
theorem parse_spec {R : Result → Shared → Prop} {x a b : Str} {u : Tok} (G : Gnd w Z) (hz : Kp Z h) (Ro : Rm A 30 80) (hx : x.length ≤ 1000000) (e : Txt.splitMax x (Str.ofString "=") 1 = [a, b])
    (q : ∀ h' t' Z' p dx ta tb, ZX Z h Z' h' → Z'.get? p = some (subTup 203 dx [.str (Txt.strip a) ta, .str (Txt.strip b) tb]) → Z'.get? dx = some emptyDict → R (.ok (.ret (.ref p))) (sh s₀ h' t')) :
    codeAny (model prog w) A (.call (.ref 197) ⟨[.ref 203, .str x u], []⟩) R (sh s₀ h t) := by
  refine' enterPC (binds := [(Str.ofString "cls", .ref 203), (Str.ofString "text", .str x u)]) (bl := [(Str.ofString "text", .str x u), (Str.ofString "cls", .ref 203)]) G hz ?ho ?hcd ?hroom ?hbind rfl ?hloc ?body ?hcell ?c2 ?c3 ?c4
  (case ho => k_is)
  (case hcd => k_is)
  (case hroom => (have := Ro.dp; show _ < 1000; omega))
  (case hbind => exact BindsTo.of_eq rfl)
  (case hloc => exact locs rfl)
  (case hcell => decide)
  (case c2 => exact rfl)
  (case c3 => exact rfl)
  (case c4 => exact rfl)
  intro E' h t S
  repeat' ktr_member
  refine' cwStar ?hk ?_
  (case hk => k_is)
  repeat' ktr_member
  refine' gaTT (v := .builtin "str.strip") ?x1 ?x2 ?x3 ?fc ?x5 ?_
  (case x1 => exact gX G S)
  (case x2 => exact PyProof.Rows.meta_str)
  (case x3 => decide +kernel)
  (case fc => k_is)
  (case x5 => decide +kernel)
  repeat' ktr_member
  with_reducible refine gmSplit ?_
  repeat' ktr_member
  refine cSplitMax S (by decide) (by decide) (by rw [sizeLine_eq]; omega) ?_
  intro l vs h t hv hlen S
  rw [e] at hv hlen
  repeat' ktr_member
  refine mapColl S Ro.hd (.head _) hv (by have := hlen a (by simp); rw [sizeLine_eq]; omega) (by have := hlen b (by simp); rw [sizeLine_eq]; omega) ?_
  intro h t ta tb S
  refine ⟨gX G S, ?_⟩
  refine pair_spec (G.keeps S.zx.le) S.zi (Ro.sub (by decide) (by decide)) ?_
  intro h t Z5 p dx z hp hdx
  have S := S.ext z
  repeat' ktr_member
  exact q _ _ _ _ _ _ _ S.zx hp hdx
end
theorem dn_split : splitId "dict.__new__" = some ("dict", "__new__") := by decide +kernel
theorem dn_kind : builtinKind "dict.__new__" = some .builtinFn := by decide +kernel
theorem dn_row : ∃ sig, Manifest.signature? "dict.__new__" = some sig ∧ ∀ a b : Value, Bind.checkArgs "dict.__new__" sig ⟨[a, b], []⟩ = pure () := by
  refine ⟨_, rfl, fun a b => ?_⟩
  kernel_rfl
theorem entry_dict_new' : entryFor table "dict.__new__" = some Builtin.«dict.__new__» := entryFor_of_tree (by kernel_rfl)
theorem entry_dd_init : entryFor table "collections.defaultdict.__init__" = some Builtin.«collections.defaultdict.__init__» := entryFor_of_tree (by kernel_rfl)
theorem entry_dict_init' : entryFor table "dict.__init__" = some Builtin.«dict.__init__» := entryFor_of_tree (by kernel_rfl)
/-- a book: the words it has, as they came -/
noncomputable def BkO (w : World) (prog : Program) (f : Value) (dx : Addr) (kvs : List (Str × Value)) : OP := fun o => o.cls = .ref 108 ∧ o.dict = some dx ∧ o.slots = #[some f] ∧ ∃ es ep, o.data = .dict es ep ∧ KeysOf (strKind prog w) es ∧ Pairs (strKind prog w) es.toList kvs ∧ (kvs.map (·.1)).Nodup
noncomputable abbrev bookObj (dx : Addr) (f : Value) : Obj := { cls := .ref 108, dict := some dx, data := .dict #[], slots := #[some f] }
section
variable {prog : Program} {w : World} {A : Around} {E : Value → Shared → Prop} {h : Heap} {M : Model}
structure TMB (M : Model) (h : Heap) : Prop where
  obj : ∃ oc od cd sl, h.get? 108 = some ⟨oc, od, .cls cd, sl⟩ ∧ cd.abstract = false ∧ cd.hasDel = false ∧ cd.mro = [.ref 108, .type "collections.defaultdict", .type "dict", .type "object"]
  made : Looks M h (Bind.madeBy (.ref 108)) (some "dict.__new__")
  base : Looks M h (Bind.staticBase (.ref 108)) (.ref 108)
  self : Looks M h (isSubtype (.ref 108) (.ref 108)) true
  top : Looks M h (isSubtype (.ref 108) (.type "dict")) true
  topD : Looks M h (isSubtype (.ref 108) (.type "collections.defaultdict")) true
  topO : Looks M h (isSubtype (.ref 108) (.type "object")) true
  nord : Looks M h (isSubtype (.ref 108) (.type "collections.OrderedDict")) false
  init : Looks M h (typeLookup (.ref 108) "__init__") (some (.builtin "collections.defaultdict.__init__"))
  call : Looks M h (specialOf (.ref 108) "__call__") (some (.builtin "type.__call__"))
  typ : Looks M h (isInstance (.ref 108) (.type "type")) true
theorem made_108 (X : (heapK w.params).In h) : Looks M h (Bind.madeBy (.ref 108)) (some "dict.__new__") := by
  refine' looks_at (a := 108) X ?e ?r
  (case e => k_is)
  intro A Q E hh g d tk os k ho q
  unfold Bind.madeBy
  repeat lk
  exact q
theorem base_108 (X : (heapK w.params).In h) : Looks M h (Bind.staticBase (.ref 108)) (.ref 108) := by
  have hm := made_108 (M := M) X
  refine' looks_at (a := 108) X ?e ?r
  (case e => k_is)
  intro A Q E hh g d tk os k ho q
  have hm := hm.keeps k
  unfold Bind.staticBase
  repeat lk
  exact q
theorem clsAt' {C : Addr} {oc : Value} {od : Option Addr} {cd : ClassData} {sl : Array (Option Value)} {l : List Value} (X : (heapK w.params).In h) (e : (heapK w.params).lookup C = some ⟨oc, od, .cls cd, sl⟩)
    (h1 : cd.abstract = false) (h2 : cd.hasDel = false) (h3 : cd.mro = l) : ∃ oc od cd sl, h.get? C = some ⟨oc, od, .cls cd, sl⟩ ∧ cd.abstract = false ∧ cd.hasDel = false ∧ cd.mro = l := ⟨_, _, _, _, X _ _ e, h1, h2, h3⟩
theorem tmb {M : Model} (X : (heapK w.params).In h) : TMB M h := by
  refine' ⟨?o, made_108 X, base_108 X, looks_mroIn X ?a, looks_mroIn X ?b, looks_mroIn X ?c, looks_mroIn X ?d, looks_mroIn X ?e, looks_findIn X ?f, looks_specialIn X ?g, looks_instIn X ?i⟩
  (case o => (refine' clsAt' X ?o1 ?o2 ?o3 ?o4; (case o1 => k_is); (case o2 => rfl); (case o3 => rfl); (case o4 => rfl)))
  all_goals k_is
theorem TMB.keeps {h' : Heap} (Y : TMB M h) (k : Kp h h') : TMB M h' :=
  ⟨let ⟨oc, od, cd, sl, e, r⟩ := Y.obj; ⟨oc, od, cd, sl, k _ _ e, r⟩, Y.made.keeps k, Y.base.keeps k, Y.self.keeps k, Y.top.keeps k, Y.topD.keeps k, Y.topO.keeps k, Y.nord.keeps k, Y.init.keeps k, Y.call.keeps k, Y.typ.keeps k⟩
end
theorem slot_dd_init : Slot "collections.defaultdict" "__init__" "collections.defaultdict.__init__" :=
  .of (owner := "collections.defaultdict") (n := "__init__") (by rw [typeLookup_type, builtinLookup_eq_fast]; kernel_rfl) (by decide +kernel) (by decide +kernel) (by decide +kernel)
    (by first | exact .inl (by decide +kernel) | exact .inr (by decide +kernel)) (by rw [isSubtype_type]; kernel_rfl)
theorem args_dd_init (a b : Value) : argsOk "collections.defaultdict.__init__" ⟨[a, b], []⟩ := by unfold argsOk; kernel_rfl
theorem plain_dict_init : plainId "dict.__init__" = true := by decide +kernel
section
variable {prog : Program} {w : World} {A : Around} {h : Heap} {g : Array GenState} {d : Drawn} {t : Nat} {os : OsState} {R : Result → Shared → Prop}
/-- dict.__new__ for the books' class -/
theorem bnew {lam : Value} (Y : TMB (model prog w) h)
    (hq : R (.ok (.ret (.ref (h.objs.size + 1)))) ⟨(h.push emptyDict).push { cls := .ref 108, dict := some h.objs.size, data := .dict #[] }, g, d, t, os⟩) :
    codeAny (model prog w) A (.call (.builtin "dict.__new__") ⟨[.ref 108, lam], []⟩) R ⟨h, g, d, t, os⟩ := by
  obtain ⟨⟨oc, od, cd, sl, hC, e1, e2, e4⟩, made, base, self, top, topD, topO, nord, init, call, typ⟩ := Y
  obtain ⟨sig, hsig, hargs⟩ := dn_row
  have hm : Looks (model prog w) h (mroOf (.ref 108)) [.ref 108, .type "collections.defaultdict", .type "dict", .type "object"] := e4 ▸ ((Looks.ld (part := none) hC).andThen .now).andThen .now
  have hC2 := Heap.get?_push_of_some { cls := .ref 108, dict := some h.objs.size, data := .dict #[] } (Heap.get?_push_of_some emptyDict hC)
  with_reducible refine codeAny_call_builtin (by decide +kernel) entry_dict_new' ?_
  simp only [checkBuiltinCall, dn_kind, dn_split, hsig]
  rw [hargs]
  unfold Builtin.«dict.__new__»
  repeat (first | simp only [bne_self_eq_false, Bool.false_eq_true, if_false, Bool.not_true] | lk)
  rw [e2]
  repeat lk
  rw [Heap.size_push]
  exact hq
/-- defaultdict.__init__ with a function -/
theorem binit {lam x dx : Addr} {olam : Obj} {fd : FuncData} (Y : TMB (model prog w) h) (Y' : ∀ h', Heap.ExtBut x h h' → TMB (model prog w) h') (hl : h.get? lam = some olam) (hlc : olam.cls = .type "function") (hlf : olam.data = .func fd) (hx : h.get? x = some { cls := .ref 108, dict := some dx, data := .dict #[] })
    (hq : ∀ h', Heap.ExtBut x h h' → h'.get? x = some (bookObj dx (.ref lam)) → R (.ok (.ret .none)) ⟨h', g, d, t, os⟩) :
    codeAny (model prog w) A (.call (.builtin "collections.defaultdict.__init__") ⟨[.ref x, .ref lam], []⟩) R ⟨h, g, d, t, os⟩ := by
  obtain ⟨⟨oc, od, cd, sl, hC, e1, e2, e4⟩, made, base, self, top, topD, topO, nord, init, call, typ⟩ := Y
  have t1 : Looks (model prog w) h (typeOf (.ref x)) (.ref 108) := (Looks.ld hx).andThen .now
  have tD : Looks (model prog w) h (isInstance (.ref x) (.type "collections.defaultdict")) true := t1.andThen topD
  have t2 : Looks (model prog w) h (specialOf (.ref lam) "__call__") (some (.builtin "function.__call__")) := by
    have a1 : Looks (model prog w) h (typeOf (.ref lam)) (.type "function") := hlc ▸ (Looks.ld hl).andThen .now
    exact a1.andThen (Looks.of_pure (by rw [typeLookup_type, builtinLookup_eq_fast]; kernel_rfl))
  with_reducible refine codeAny_call_builtin (by decide +kernel) entry_dd_init (@check_slot (model prog w) _ _ ⟨h, g, d, t, os⟩ "collections.defaultdict.__init__" "collections.defaultdict" "__init__" (.ref x) [.ref lam] [] _ (by decide +kernel) (by decide +kernel) tD (args_dd_init _ _) ?_)
  unfold Builtin.«collections.defaultdict.__init__»
  repeat (first | simp only [bne_self_eq_false, Bool.false_eq_true, if_false, Bool.not_true] | lk)
  have hx' := Heap.get?_update_self (fun o => { o with slots := (o.slots ++ Array.replicate (0 + 1 - o.slots.size) none).setIfInBounds 0 (some (.ref lam)) }) hx rfl
  have he : Heap.ExtBut x h (h.update x fun o => { o with slots := (o.slots ++ Array.replicate (0 + 1 - o.slots.size) none).setIfInBounds 0 (some (.ref lam)) }) := fun b o hb e => (Heap.get?_update_other _ _ (Ne.symm hb)).trans e
  refine wpAny_updatePart' (f := fun o => { o with slots := (o.slots ++ Array.replicate (0 + 1 - o.slots.size) none).setIfInBounds 0 (some (.ref lam)) }) hx ?_
  revert hx' he
  generalize h.update x _ = h'
  intro hx' he
  dsimp only at hx'
  have nord' := (Y' h' he).nord
  have t1' : Looks (model prog w) h' (typeOf (.ref x)) (.ref 108) := (Looks.ld hx').andThen .now
  repeat (first | simp only [bne_self_eq_false, Bool.false_eq_true, if_false, Bool.not_true] | (with_reducible refine wpAny_runValue ?_) | lk)
  refine codeAny_builtin entry_dict_init' ?_
  rw [Around.under_plainId plain_dict_init _]
  unfold Builtin.«dict.__init__» Builtin.Dict.selfAndRest Builtin.Dict.notOrdered isInstance
  repeat (first | simp only [bne_self_eq_false, Bool.false_eq_true, if_false, Bool.not_true] | lk)
  exact hq h' he hx'
theorem bk_call {lam : Addr} {olam : Obj} {fd : FuncData} (Y : TMB (model prog w) h) (Y' : ∀ h', (∀ b o, b < h.objs.size → h.get? b = some o → h'.get? b = some o) → TMB (model prog w) h') (hl : h.get? lam = some olam) (hlc : olam.cls = .type "function") (hlf : olam.data = .func fd)
    (hq : ∀ h', Heap.ExtBut (h.objs.size + 1) ((h.push emptyDict).push { cls := .ref 108, dict := some h.objs.size, data := .dict #[] }) h' → h'.get? (h.objs.size + 1) = some (bookObj h.objs.size (.ref lam)) → R (.ok (.ret (.ref (h.objs.size + 1)))) ⟨h', g, d, t, os⟩) :
    codeAny (model prog w) A (.call (.ref 108) ⟨[.ref lam], []⟩) R ⟨h, g, d, t, os⟩ := by
  have YY := Y
  obtain ⟨⟨oc, od, cd, sl, hC, e1, e2, e4⟩, made, base, self, top, topD, topO, nord, init, call, typ⟩ := Y
  with_reducible refine codeAny_of_tree ?_
  show wpAny _ _ (callAny (.ref 108) _) _ _ _
  refine nd_load hC ?_
  show wpAny _ _ (callAny.viaDunder (.ref 108) _) _ _ _
  unfold callAny.viaDunder
  refine wpAny_bind (call.at ?_)
  dsimp only
  rw [tc_bind]
  refine wpAny_bind (wpAny_pure (wpAny_bind (wpAny_pure ?_)))
  refine wpAny_pure (a := Fin.again (.call (.builtin "type.__call__") ⟨[.ref 108, .ref lam], []⟩)) (And.intro rfl ?_)
  with_reducible refine codeAny_call_builtin_at (Code.quiet_builtin _ (by decide +kernel)) entry_typeCall (check_slot tc_kind tc_split typ (tc_args _ _ _) ?_)
  unfold Builtin.«type.__call__»
  have hm : Looks (model prog w) h (mroOf (.ref 108)) [.ref 108, .type "collections.defaultdict", .type "dict", .type "object"] := e4 ▸ ((Looks.ld (part := none) hC).andThen .now).andThen .now
  repeat (first | simp only [Bool.false_eq_true, if_false] | (with_reducible refine wpAny_call ?_) | lk)
  with_reducible refine bnew YY ?_
  have k : ∀ b o, h.get? b = some o → ((h.push emptyDict).push { cls := .ref 108, dict := some h.objs.size, data := .dict #[] }).get? b = some o := fun b o e => Heap.get?_push_of_some _ (Heap.get?_push_of_some _ e)
  have hx : ((h.push emptyDict).push { cls := .ref 108, dict := some h.objs.size, data := .dict #[] }).get? (h.objs.size + 1) = some { cls := .ref 108, dict := some h.objs.size, data := .dict #[] } := by heap_get
  have t1 : Looks (model prog w) ((h.push emptyDict).push { cls := .ref 108, dict := some h.objs.size, data := .dict #[] }) (typeOf (.ref (h.objs.size + 1))) (.ref 108) := (Looks.ld hx).andThen .now
  have s1 := self.keeps k
  have i1 := init.keeps k
  have b1 : Looks (model prog w) ((h.push emptyDict).push { cls := .ref 108, dict := some h.objs.size, data := .dict #[] }) (bindSpecial (.builtin "collections.defaultdict.__init__") (.ref (h.objs.size + 1))) (.builtin "collections.defaultdict.__init__", [.ref (h.objs.size + 1)]) := Looks.of_pure (slot_dd_init.bind _)
  unfold isInstance callSpecial? specialOf
  repeat (first | (with_reducible refine wpAny_call ?_) | lk)
  have yy : ∀ h', Heap.ExtBut (h.objs.size + 1) ((h.push emptyDict).push { cls := .ref 108, dict := some h.objs.size, data := .dict #[] }) h' → TMB (model prog w) h' := fun h' he => Y' h' fun b o hb e => he b o (Nat.ne_of_lt (Nat.lt_succ_of_lt hb)) (k b o e)
  have hl' := k _ _ hl
  show codeAny _ _ (.call (.builtin "collections.defaultdict.__init__") ⟨[.ref (h.objs.size + 1), .ref lam], []⟩) _ _
  with_reducible refine binit (x := h.objs.size + 1) (YY.keeps k) yy hl' hlc hlf hx fun h' he hx' => ?_
  repeat lk
  exact hq h' he hx'
theorem cBook {s₀ : Shared} {E : Value → Shared → Prop} {lam : Addr} {olam : Obj} {fd : FuncData} {Z Z₀ h₀ : Heap} {L : Addr} {m : Str → Option Value} {own : Own} {Q : Value → Shared → Prop} (G : Gnd w Z₀) (S : St Z₀ h₀ L Z m own h) (hl : Z.get? lam = some olam) (hlc : olam.cls = .type "function") (hlf : olam.data = .func fd) (h3 : 3 < h.objs.size)
    (q : ∀ x dx h', 3 < x → x ≠ dx → St Z₀ h₀ L Z m ((x, BkO w prog (.ref lam) dx []) :: (dx, IsO emptyDict) :: own) h' → Q (.ref x) (sh s₀ h' t)) : wpAny (model prog w) A (call (.ref 108) [.ref lam] []) Q E (sh s₀ h t) := by
  refine wpAny_call (bk_call (tmb (gX G S)) (fun h' k => tmb (G.X.keeps fun b o e => k b o (Heap.lt_size (S.z0 b o e)) (S.z0 b o e))) (S.zi _ _ hl) hlc hlf fun h' he hx => ?_)
  have S1 := S.push (o := emptyDict) (P := IsO emptyDict) rfl rfl
  have S2 := S1.push (o := { cls := .ref 108, dict := some h.objs.size, data := .dict #[] }) (P := fun _ => True) rfl trivial
  rw [Heap.size_push] at S2
  exact q (h.objs.size + 1) h.objs.size h' (Nat.lt_succ_of_lt h3) (Nat.succ_ne_self _) (S2.upd .head he hx ⟨rfl, rfl, rfl, #[], 0, rfl, fun _ he => by simp at he, .nil, .nil⟩)
end
section
variable {prog : Program} {w : World} {A : Around} {Q : Value → Shared → Prop} {E : Value → Shared → Prop} {s₀ : Shared} {h : Heap} {t : Nat} {Z Z₀ h₀ : Heap} {L : Addr} {m : Str → Option Value} {own : Own}
/-- a def of the top (its closure may hold cells) is entered with all that the caller owns -/
theorem enterS {name qual : Str} {params : Arguments} {body : List Stmt} {scope : Scope} {clos : List (Str × Addr)} {dV kV doc pm cdv ct oc : Value} {an od : Option Addr} {osl : Array (Option Value)} {f : Addr} {pos : List Value} {kw : List (Str × Value)} {binds bl : List (Str × Value)}
    (G : Gnd w Z₀) (S : St Z₀ h₀ L Z m own h) (ho : (heapK w.params).lookup f = some ⟨oc, od, .func (fnX name qual params body scope clos dV kV doc pm an cdv ct), osl⟩) (hcd : codeIn (heapK w.params) cdv qual = true) (hroom : A.depth < recursionLimit)
    (hbind : BindsTo (sh s₀ h t) (fnX name qual params body scope clos dV kV doc pm an cdv ct) ⟨pos, kw⟩ binds) (hbl : binds.reverse = bl) (hloc : ∀ y ∈ binds, scope.names.lookup y.1 = some .local)
    (hbody : ∀ E' C h' t', h.objs.size ≤ C → St Z₀ h₀ C Z (mOf bl) ((L, NsO m) :: own) h' →
      wpAny (model prog w) (A.deeper (envX qual scope C f cdv clos)) (execs body (envX qual scope C f cdv clos)) (fun fl s' => Q (match fl with | .ret v => v | _ => .none) s') E' (sh s₀ h' t'))
    (hcell : ∀ x ∈ scope.names, x.2 ≠ .cell) (hco : scope.isCoroutine = false := by rfl) (hgen : scope.isGenerator = false := by rfl) (hk : scope.kind = .function := by rfl) :
    wpAny (model prog w) A (call (.ref f) pos kw) Q E (sh s₀ h t) := by
  subst hbl
  have X : (heapK w.params).In h := gX G S
  obtain ⟨p, l, mg, mb, T⟩ := (G.keeps S.z0).T
  refine wpAny_call (codeAny_call_def (fd := fnX name qual params body scope clos dV kV doc pm an cdv ct) (body := body) (binds := binds) hroom (X _ _ ho) rfl T.nolimit (codeRec_of X hcd) rfl hbind hcell hloc (fun h₁ hns hk₁ => ?_) hco hgen hk)
  exact hbody _ _ h₁ _ (Nat.le_refl _) (S.into hk₁ (get?_size h) (Nat.le_refl _) hns)
/-- the same, its own code in sight -/
theorem enterAt {R : Result → Shared → Prop} {name qual : Str} {params : Arguments} {body : List Stmt} {scope : Scope} {clos : List (Str × Addr)} {dV kV doc pm cdv ct oc : Value} {an od : Option Addr} {osl : Array (Option Value)} {f : Addr} {pos : List Value} {kw : List (Str × Value)} {binds bl : List (Str × Value)}
    (G : Gnd w Z₀) (S : St Z₀ h₀ L Z m own h) (ho : (heapK w.params).lookup f = some ⟨oc, od, .func (fnX name qual params body scope clos dV kV doc pm an cdv ct), osl⟩) (hcd : codeIn (heapK w.params) cdv qual = true) (hroom : A.depth < recursionLimit)
    (hbind : BindsTo (sh s₀ h t) (fnX name qual params body scope clos dV kV doc pm an cdv ct) ⟨pos, kw⟩ binds) (hbl : binds.reverse = bl) (hloc : ∀ y ∈ binds, scope.names.lookup y.1 = some .local)
    (hbody : ∀ E' C h' t', h.objs.size ≤ C → St Z₀ h₀ C Z (mOf bl) ((L, NsO m) :: own) h' →
      _root_.PySem.wpAt (model prog w) (A.deeper (envX qual scope C f cdv clos)) (.func body (envX qual scope C f cdv clos)) (execs body (envX qual scope C f cdv clos)) (fun fl s' => R (.ok (.ret (match fl with | .ret v => v | _ => .none))) s') E' (sh s₀ h' t'))
    (hcell : ∀ x ∈ scope.names, x.2 ≠ .cell) (hco : scope.isCoroutine = false := by rfl) (hgen : scope.isGenerator = false := by rfl) (hk : scope.kind = .function := by rfl) :
    codeAny (model prog w) A (.call (.ref f) ⟨pos, kw⟩) R (sh s₀ h t) := by
  subst hbl
  have X : (heapK w.params).In h := gX G S
  obtain ⟨p, l, mg, mb, T⟩ := (G.keeps S.z0).T
  refine ks_codeAny_call_defAt (fd := fnX name qual params body scope clos dV kV doc pm an cdv ct) (body := body) (binds := binds) hroom (X _ _ ho) rfl T.nolimit (codeRec_of X hcd) rfl hbind hcell hloc (fun h₁ hns hk₁ => ?_) hco hgen hk
  exact hbody _ _ h₁ _ (Nat.le_refl _) (S.into hk₁ (get?_size h) (Nat.le_refl _) hns)
/-- back out of it -/
theorem St.out {C : Addr} {h' : Heap} {m' : Str → Option Value} {Z' : Heap} {own' : Own} (S : St Z₀ h₀ L Z m own h) (S' : St Z₀ h₀ C Z' m' ((L, NsO m) :: own') h') : St Z₀ h₀ L Z' m own' h' := S'.back .head (.inl fun _ _ e => e) S.lb
end
/-- the notes: all that is asked of them is how many they are -/
noncomputable def NtO (n : Nat) : OP := fun o => ∃ vs : List Value, vs.length = n ∧ LstO vs o
section
variable {prog : Program} {w : World} {A : Around} {E : Value → Shared → Prop} {s₀ : Shared} {h : Heap} {t : Nat} {Z Z₀ h₀ : Heap} {L : Addr} {m : Str → Option Value} {own own' : Own} {d : Addr} {n : Nat}
theorem gmApN {pl : Sem Bool} {Q : Value × List Value → Shared → Prop} (S : St Z₀ h₀ L Z m own h) (i : (d, NtO n) ∈ own) (q : Q (.builtin "list.append", [.ref d]) (sh s₀ h t)) : wpAny (model prog w) A (getMethod (.ref d) "append" pl) Q E (sh s₀ h t) := by
  obtain ⟨_, e, vs, _, k, rfl⟩ := S.mem i
  exact getMethod_list_append e rfl rfl q
theorem apN {Q : Value → Shared → Prop} {x : Value} (S : St Z₀ h₀ L Z m own h) (u : Rp d (NtO n) (NtO (n + 1)) own own') (hsz : n ≤ sizeLine) (q : ∀ h', St Z₀ h₀ L Z m own' h' → Q .none (sh s₀ h' t)) :
    wpAny (model prog w) A (call (.builtin "list.append") [.ref d, x]) Q E (sh s₀ h t) := by
  obtain ⟨_, e, vs, hv, k, rfl⟩ := S.mem u.mem
  refine wpAny_list_append_plain (items := vs.toArray) ⟨k, e⟩ (fun h' hp hs => ?_) (by simpa [hv] using hsz)
  obtain ⟨n', e'⟩ := hp
  exact q h' (S.upd u hs.extBut e' ⟨vs ++ [x], by simp [hv], n', by simp⟩)
theorem noted_spec {Q : Value → Shared → Prop} (G : Gnd w Z₀) (S : St Z₀ h₀ L Z m own h) (R : Rm A 10 30) (u : Rp d (NtO n) (NtO (n + 1)) own own') (hn : n ≤ 1000000) (q : ∀ h' t' tk, St Z₀ h₀ L Z m own' h' → Q (.int 7 tk) (sh s₀ h' t')) :
    wpAny (model prog w) A (call (.ref 345) [.ref d] []) Q E (sh s₀ h t) := by
  refine' enterS (binds := [(Str.ofString "notes", .ref d)]) (bl := [(Str.ofString "notes", .ref d)]) G S ?ho ?hcd ?hroom ?hbind rfl ?hloc ?body ?hcell ?c2 ?c3 ?c4
  (case ho => k_is)
  (case hcd => k_is)
  (case hroom => (have := R.dp; show _ < 1000; omega))
  (case hbind => exact BindsTo.of_eq rfl)
  (case hloc => exact locs rfl)
  (case hcell => decide)
  (case c2 => exact rfl)
  (case c3 => exact rfl)
  (case c4 => exact rfl)
  intro E' C h' t hC S'
  have S0 := S
  have S := S'
  clear S'
  show wpAny _ _ _ (Lv Q) _ _
  repeat' ktr_member
  refine gmApN S (.tail _ u.mem) ?_
  repeat' ktr_member
  obtain ⟨_, e, vs, hv, k, rfl⟩ := S.mem (.tail _ u.mem)
  refine cLenL (vs := vs) ⟨_, e, rfl, k, rfl⟩ (by rw [hv]; omega) ?_; intro tk t
  repeat' ktr_member
  refine apN S (.tail u) (by rw [sizeLine_eq]; omega) ?_; intro h S
  repeat' ktr_member
  exact q _ _ _ (S0.out S)
end
/-- what a lambda's making reads of the top -/
noncomputable def GndL (Z : Heap) : Prop := ∃ mg bm ob, Z.Ns mainGlobals mg ∧ mg "__builtins__" = some (.ref bm) ∧ bm ≠ builtinsNs ∧ Z.get? bm = some ob ∧ ob.cls = .type "module" ∧ ob.dict = some builtinsNs ∧ ob.data = .plain ∧ CodeHd Z 104 100 ∧ CodeHd Z 399 397
/-- a lambda that stands -/
noncomputable def LamAt (Z : Heap) (f : Addr) (qual : Str) (params : Arguments) (body : Expr) (scope : Scope) (clos : List (Str × Addr)) : Prop :=
  ∃ pm c ctv, Z.get? f = some (kla_obj "<lambda>" qual params body scope clos pm c ctv) ∧ Z.CodeRec (.ref c) qual
theorem LamAt.keeps {Z Z' : Heap} {f : Addr} {qual : Str} {params : Arguments} {body : Expr} {scope : Scope} {clos : List (Str × Addr)} (l : LamAt Z f qual params body scope clos) (k : Kp Z Z') : LamAt Z' f qual params body scope clos :=
  let ⟨pm, c, ctv, a, b⟩ := l; ⟨pm, c, ctv, k _ _ a, b.keeps k⟩
section
variable {prog : Program} {w : World} {A : Around} {E : Value → Shared → Prop} {s₀ : Shared} {h : Heap} {t : Nat} {Z Z₀ h₀ : Heap} {L : Addr} {m : Str → Option Value} {own : Own}
theorem mkLam {params : Arguments} {body : Expr} {scope : Scope} {pos : Pos} {env : Env} {clos : List (Str × Addr)} {c P : Addr} {ps : Array Value} {own' : OP → Own} {Q : Value → Shared → Prop} (B : GndL Z₀) (S : St Z₀ h₀ L Z m own h) (C : CodeHd Z₀ c P) (hgP : mainGlobals ≠ P)
    (hdef : defaultsOf params env = ([], [])) (hcl : closureFor scope env = pure clos) (hge0 : env.globals = mainGlobals) (hcode : env.code = .ref c) (ht : TriplesOk ps.toList) (hnf : codeAmong pos ps.toList = none)
    (u : ∀ P', Rp P (IsO (tabObj ps)) P' own (own' P'))
    (q : ∀ f c' h' t' Z', Kp Z Z' → LamAt Z' f (env.qual ++ "<lambda>") params body scope clos → St Z₀ h₀ L Z' m (own' (IsO (tabObj (ps ++ #[rawInt pos.line, rawInt pos.col, .ref c'])))) h' → Q (.ref f) (sh s₀ h' t')) :
    wpAny (model prog w) A (eval (.Lambda params body scope pos) env) Q E (sh s₀ h t) := by
  obtain ⟨mg, bm, ob, g, b1, b2, b3, b4, b5, b6, _, _⟩ := B
  have hP := S.isO (u (IsO (tabObj ps))).mem
  have hP0 : Z₀.get? P = none := by
    cases e : Z₀.get? P with
    | none => rfl
    | some o => have := (S.ow _ (u (IsO (tabObj ps))).mem).2.1; dsimp only at this; rw [S.zx.le _ _ e] at this; cases this
  have hbP : bm ≠ P := fun q => by rw [q, hP0] at b3; cases b3
  have hbG : bm ≠ mainGlobals := fun q => by
    obtain ⟨o, es, ep, e, hd, _⟩ := id g
    rw [q, e] at b3; cases b3; rw [hd] at b6; cases b6
  refine kla_eval hdef (kla_makeFunction (s := sh s₀ h t) (mg := mg) hcl hge0 (g.keeps S.z0) hcode (C.keeps S.z0) hP ht hnf hgP ⟨bm, ob, b1, b2, hbG, hbP, S.z0 _ _ b3, b4, b5, b6⟩ fun c' ctv h' tk hx hge hlt hrec htb => ?_)
  have S1 := S.upd (u (IsO (tabObj (ps ++ #[rawInt pos.line, rawInt pos.col, .ref c'])))) hx htb rfl
  obtain ⟨c₂, oc, vs, tt, e2, hoc, hd, hv⟩ := hrec
  cases e2
  have hc' : h.get? c' = none := Heap.get?_none_of_le hge
  obtain ⟨f1, f2, f3, f4⟩ := S.fresh hc'
  have hn4 : ∀ p ∈ own' (IsO (tabObj (ps ++ #[rawInt pos.line, rawInt pos.col, .ref c']))), p.1 ≠ c' := fun p hp => by
    have hp' : p.1 ∈ (own' (IsO (tabObj (ps ++ #[rawInt pos.line, rawInt pos.col, .ref c'])))).map (·.1) := List.mem_map.mpr ⟨p, hp, rfl⟩
    rw [(u _).addrs] at hp'
    obtain ⟨p', hp', e⟩ := List.mem_map.mp hp'
    rw [← e]; exact f4 p' hp'
  have S2 := S1.take (P := IsO oc) hoc rfl f1 f2 f3 hn4
  obtain ⟨Z1, o1, k1, e1, rfl, S3⟩ := S2.frz .head
  obtain ⟨Z2, o2, k2, e2, rfl, S4⟩ := (S3.push (o := kla_obj "<lambda>" (env.qual ++ "<lambda>") params body scope clos ((mg "__name__").getD .none) c' ctv) (P := IsO (kla_obj "<lambda>" (env.qual ++ "<lambda>") params body scope clos ((mg "__name__").getD .none) c' ctv)) rfl rfl).frz .head
  exact q _ c' _ _ Z2 (fun b o e => k2 b o (k1 b o e)) ⟨_, c', ctv, e2, c', o1, vs, tt, rfl, k2 _ _ e1, hd, hv⟩ S4
/-- a lambda is called -/
theorem callLam {f : Addr} {qual : Str} {params : Arguments} {body : Expr} {scope : Scope} {clos : List (Str × Addr)} {pos : List Value} {binds bl : List (Str × Value)} {Q : Value → Shared → Prop} (G : Gnd w Z₀) (S : St Z₀ h₀ L Z m own h) (l : LamAt Z f qual params body scope clos) (hroom : A.depth < recursionLimit)
    (hbind : ∀ pm cdv ctv, bindArgs (kla_fn "<lambda>" qual params body scope clos pm cdv ctv) ⟨pos, []⟩ = pure binds) (hbl : binds.reverse = bl) (hloc : ∀ y ∈ binds, scope.names.lookup y.1 = some .local)
    (hbody : ∀ E' C c' h' t', h.objs.size ≤ C → St Z₀ h₀ C Z (mOf bl) ((L, NsO m) :: own) h' →
      wpAny (model prog w) (A.deeper (envX qual scope C f (.ref c') clos)) (eval body (envX qual scope C f (.ref c') clos)) Q E' (sh s₀ h' t'))
    (hcell : ∀ x ∈ scope.names, x.2 ≠ .cell) (hco : scope.isCoroutine = false := by rfl) (hgen : scope.isGenerator = false := by rfl) (hk : scope.kind = .function := by rfl) :
    wpAny (model prog w) A (call (.ref f) pos []) Q E (sh s₀ h t) := by
  subst hbl
  obtain ⟨pm, c', ctv, hf, hcd⟩ := l
  obtain ⟨p, lo, mg, mb, T⟩ := (G.keeps S.z0).T
  refine wpAny_call (kla_callFunE (s := sh s₀ h t) hroom (S.zi _ _ hf) rfl hco hgen rfl (hcd.keeps S.zi) ?_)
  rw [hbind]
  refine wpAny_pure (wpAny_newFunctionEnv hcell hloc (fun h₁ hns hsb => ⟨T.nolimit.fresh _ hsb, ?_⟩) hk)
  have hk₁ : ∀ b o, h.get? b = some o → h₁.get? b = some o := fun b o e => hsb.extBut b o (Nat.ne_of_lt (Heap.lt_size e)) (Heap.get?_push_of_some _ e)
  exact kla_codeExpr (hbody _ _ c' h₁ _ (Nat.le_refl _) (S.into hk₁ (get?_size h) (Nat.le_refl _) hns))
end
noncomputable abbrev noParams : Arguments := { posonlyargs := [], args := [], vararg := none, kwonlyargs := [], kw_defaults := [], kwarg := none, defaults := [] }
noncomputable abbrev facScope : Scope := { kind := .function, names := [(Str.ofString "notes", .free), (Str.ofString "_law_noted", .globalImplicit)], isGenerator := false, isCoroutine := false }
/-- a factory that notes its runs -/
noncomputable def FacAt (Z : Heap) (f cn : Addr) : Prop := ∃ qual p1 p2 p3, LamAt Z f qual noParams (.Call (.Name (Str.ofString "_law_noted") p1) [.Name (Str.ofString "notes") p2] [] p3) facScope [(Str.ofString "notes", cn)]
theorem FacAt.keeps {Z Z' : Heap} {f cn : Addr} (l : FacAt Z f cn) (k : Kp Z Z') : FacAt Z' f cn := let ⟨q, a, b, c, l⟩ := l; ⟨q, a, b, c, l.keeps k⟩
section
variable {prog : Program} {w : World} {A : Around} {E : Value → Shared → Prop} {s₀ : Shared} {h : Heap} {t : Nat} {Z Z₀ h₀ : Heap} {L : Addr} {m : Str → Option Value} {own own' : Own} {f cn d : Addr} {n : Nat}
theorem fac_spec {Q : Value → Shared → Prop} (G : Gnd w Z₀) (S : St Z₀ h₀ L Z m own h) (R : Rm A 20 60) (l : FacAt Z f cn) (hc : (cn, CellO (some (.ref d))) ∈ own) (u : Rp d (NtO n) (NtO (n + 1)) own own') (hn : n ≤ 1000000)
    (q : ∀ h' t' tk, St Z₀ h₀ L Z m own' h' → Q (.int 7 tk) (sh s₀ h' t')) : wpAny (model prog w) A (call (.ref f) [] []) Q E (sh s₀ h t) := by
  obtain ⟨qual, p1, p2, p3, l⟩ := l
  refine' callLam (binds := []) (bl := []) G S l ?hroom ?hbind rfl ?hloc ?body ?hcell ?c2 ?c3 ?c4
  (case hroom => (have := R.dp; show _ < 1000; omega))
  (case hbind => (intro _ _ _; exact rfl))
  (case hloc => exact locs rfl)
  (case hcell => decide)
  (case c2 => exact rfl)
  (case c3 => exact rfl)
  (case c4 => exact rfl)
  intro E' C c' h' t hC S'
  have S0 := S
  have S := S'
  clear S'
  have hc : (cn, CellO (some (.ref d))) ∈ (L, NsO m) :: own := .tail _ hc
  repeat' ktr_member
  refine' nmF S ?hm ?_
  (case hm => exact hc)
  repeat' ktr_member
  refine noted_spec G S (R.sub (by decide) (by decide)) (.tail u) hn ?_
  intro h t tk S
  exact q _ _ _ (S0.out S)
end
theorem slot_md_get : Slot "method_descriptor" "__get__" "method_descriptor.__get__" :=
  .of (owner := "method_descriptor") (n := "__get__") (by rw [typeLookup_type, builtinLookup_eq_fast]; kernel_rfl) (by decide +kernel) (by decide +kernel) (by decide +kernel)
    (by first | exact .inl (by decide +kernel) | exact .inr (by decide +kernel)) (by rw [isSubtype_type]; kernel_rfl)
theorem entry_md_get : entryFor table "method_descriptor.__get__" = some Builtin.«method_descriptor.__get__» := entryFor_of_tree (by kernel_rfl)
theorem args_md_get (a b c : Value) : argsOk "method_descriptor.__get__" ⟨[a, b, c], []⟩ := by unfold argsOk; kernel_rfl
theorem type_dd_missing : typeOf (.builtin "collections.defaultdict.__missing__") = pure (.type "method_descriptor") := by show builtinType _ = _; rw [builtinType_eq_fast]; kernel_rfl
noncomputable abbrev bmObj (id : String) (x : Addr) : Obj := { cls := .type "builtin_function_or_method", data := .fields #[.builtin id, .ref x] }
section
variable {prog : Program} {w : World} {A : Around} {E : Value → Shared → Prop} {h : Heap} {g : Array GenState} {d : Drawn} {t : Nat} {os : OsState}
theorem isInst_of {M : Model} {v c : Value} {b : Bool} {Q : Bool → Shared → Prop} (hc : c = .type "collections.defaultdict") (i : Looks M h (isInstance v (.type "collections.defaultdict")) b) (q : Q b ⟨h, g, d, t, os⟩) : wpAny M A (isInstance v c) Q E ⟨h, g, d, t, os⟩ := by subst hc; exact i.at q
/-- method_descriptor.__get__ on an object of the books' class -/
theorem md_get {x : Addr} {tp : Value} {Q : Fin → Shared → Prop} (Y : TMB (model prog w) h) (hT : Looks (model prog w) h (typeOf (.ref x)) (.ref 108)) (htp : (tp == Value.none) = false)
    (hq : Q (.done (.ret (.ref h.objs.size))) ⟨h.push (bmObj "collections.defaultdict.__missing__" x), g, d, t, os⟩) :
    wpAny (model prog w) A (Builtin.«method_descriptor.__get__» ⟨[.builtin "collections.defaultdict.__missing__", .ref x, tp], []⟩) Q E ⟨h, g, d, t, os⟩ := by
  have topD := Y.topD
  have i1 : Looks (model prog w) h (isInstance (.ref x) (.type "collections.defaultdict")) true := hT.andThen topD
  unfold Builtin.«method_descriptor.__get__»
  repeat (first | simp only [htp, bne_self_eq_false, Bool.false_eq_true, if_false, Bool.not_true] | (with_reducible refine isInst_of (by decide +kernel) i1 ?_) | lk)
  exact hq
theorem own_dd_missing : classOwn (.type "collections.defaultdict") (Str.ofString "__missing__") = pure (some (.builtin "collections.defaultdict.__missing__")) := by show pure (builtinOwn _ _) = _; kernel_rfl
theorem canon_super_ga : (Manifest.canonical "super.__getattribute__" != "object.__getattribute__") = true := by decide +kernel
/-- super().__missing__ -/
theorem sup_ga {so x : Addr} {ox : Obj} {tk : Tok} {Q : Fin → Shared → Prop} (X : (heapK w.params).In h) (hso : h.get? so = some (ks_superObj 108 x 108)) (hx : h.get? x = some ox) (hc : ox.cls = .ref 108) (hx3 : x ≠ 108)
    (hno : Looks (model prog w) h (opaqueClassAbove (.ref 108)) none)
    (hq : Q (.done (.ret (.ref h.objs.size))) ⟨h.push (bmObj "collections.defaultdict.__missing__" x), g, d, t, os⟩) :
    wpAny (model prog w) A (Builtin.«super.__getattribute__» ⟨[.ref so, .str (Str.ofString "__missing__") tk], []⟩) Q E ⟨h, g, d, t, os⟩ := by
  have Y : TMB (model prog w) h := tmb X
  obtain ⟨⟨oc, od, cd, sl, hC, e1, e2, e4⟩, _⟩ := id Y
  have hm : Looks (model prog w) h (mroOf (.ref 108)) [.ref 108, .type "collections.defaultdict", .type "dict", .type "object"] := e4 ▸ ((Looks.ld (part := none) hC).andThen .now).andThen .now
  have hl : ([Value.ref 108, .type "collections.defaultdict", .type "dict", .type "object"].dropWhile (· != Value.ref 108)).drop 1 = [.type "collections.defaultdict", .type "dict", .type "object"] := by decide
  have hlk := slot_md_get.lookup
  have hne : (Value.ref x == Value.ref 108) = false := by simp [hx3]
  have hT : Looks (model prog w) h (typeOf (.ref x)) (.ref 108) := hc ▸ (Looks.ld hx).andThen .now
  have hTf : (⟨h, g, d, t, os⟩ : Shared).TypeIs (.builtin "collections.defaultdict.__missing__") "method_descriptor" := type_dd_missing
  have hn : (Str.ofString "__missing__" == Str.ofString "__class__") = false := by decide +kernel
  have f0 : (#[.ref 108, .ref x, .ref 108] : Array Value)[0]? = some (.ref 108) := rfl
  have f1 : (#[.ref 108, .ref x, .ref 108] : Array Value)[1]? = some (.ref x) := rfl
  have f2 : (#[.ref 108, .ref x, .ref 108] : Array Value)[2]? = some (.ref 108) := rfl
  have hdt : (ks_superObj 108 x 108).data = .fields #[.ref 108, .ref x, .ref 108] := rfl
  unfold Builtin.«super.__getattribute__»
  iterate 45 (first
    | (with_reducible refine wpAny_field hso hdt f0 ?_) | (with_reducible refine wpAny_field hso hdt f1 ?_) | (with_reducible refine wpAny_field hso hdt f2 ?_)
    | (with_reducible refine ks_wpAny_notOpaque hno ?_)
    | (with_reducible refine Looks.at hm ?_; rw [hl])
    | rw [List.forIn_cons]
    | (with_reducible refine wpAny_of_eq own_dd_missing ?_)
    | (with_reducible refine wpAny_typeOf hTf ?_)
    | (with_reducible refine wpAny_call_entry slot_md_get hTf entry_md_get ?_ (args_md_get _ _ _))
    | (with_reducible refine md_get Y hT (by decide) ?_)
    | (with_reducible refine ⟨_, rfl, ?_⟩)
    | (simp only [hn, hne, Bool.or_false, Bool.false_eq_true, if_false])
    | wp_step
    | dsimp only)
  exact wpAny_pure hq
theorem sup_get {so x : Addr} {ox : Obj} {Q : Value → Shared → Prop} (X : (heapK w.params).In h) (hso : h.get? so = some (ks_superObj 108 x 108)) (hx : h.get? x = some ox) (hc : ox.cls = .ref 108) (hx3 : x ≠ 108)
    (hno : Looks (model prog w) h (opaqueClassAbove (.ref 108)) none)
    (hq : Q (.ref h.objs.size) ⟨h.push (bmObj "collections.defaultdict.__missing__" x), g, d, t + 1, os⟩) :
    wpAny (model prog w) A (getAttr (.ref so) (Str.ofString "__missing__") true) Q E ⟨h, g, d, t, os⟩ := by
  have hlk := PySem.F.ks_slot_super_ga.lookup
  have hT : ∀ t', (⟨h, g, d, t', os⟩ : Shared).TypeIs (.ref so) "super" := fun _ => ⟨_, hso, rfl⟩
  unfold getAttr getAttrBy
  refine wpAny_bind (wpAny_mkText (wpAny_holding (wpAny_bind (wpAny_typeOf (hT _) (wpAny_bind (wpAny_of_eq hlk ?_))))))
  show wpAny _ _ (getAttrByItsOwn (.ref so) (.str (Str.ofString "__missing__") t) (.type "super") (.builtin "super.__getattribute__") true true) _ _ _
  unfold getAttrByItsOwn hookBefore callGetattribute boundAndCalled
  refine wpAny_bind (wpAny_of_eq (show (if onTheHeap (.type "super") then typeLookup (.type "super") "__getattr__" else pure none) = pure none from rfl) ?_)
  refine wpAny_bind (wpAny_attempt (wpAny_holding ?_))
  show wpAny _ _ (bindSpecial (.builtin "super.__getattribute__") (.ref so) >>= _) _ _ _
  refine wpAny_bind (wpAny_of_eq (PySem.F.ks_slot_super_ga.bind _) ?_)
  refine wpAny_mono (Q := fun v s' => v = .ref h.objs.size ∧ s' = ⟨h.push (bmObj "collections.defaultdict.__missing__" x), g, d, t + 1, os⟩) (E := fun _ _ => False)
    (wpAny_call_entry PySem.F.ks_slot_super_ga (hT _) PySem.F.ks_entry_super_ga (sup_ga X hso hx hc hx3 hno ⟨_, rfl, rfl, rfl⟩) (PySem.F.ks_gaArgs_super _ _)) (fun v s' hv => ?_) fun _ _ z => z.elim
  obtain ⟨rfl, rfl⟩ := hv
  exact wpAny_pure hq
end
theorem find_miss {K : Frag} {C : Addr} {o : Obj} {name : Str} {cd : ClassData} (h1 : clsIn K C = some cd) (h2 : findIn K (.ref C) name = some none) (h3 : cd.hasDict = true) (h4 : lookIn name o = some none) (h5 : copiedNames.contains name = false) :
    findObj K C (some o) name = some .missing := by
  unfold findObj PySem.W.ownOf; rw [h1, Option.bind_some, h2, Option.bind_some]; simp only [Option.bind_some, h3, if_true, h4, h5, Bool.false_and, Bool.false_eq_true, if_false]
theorem slot_dd_ga : Slot "collections.defaultdict" "__getattribute__" "collections.defaultdict.__getattribute__" :=
  .of (owner := "collections.defaultdict") (n := "__getattribute__") (by rw [typeLookup_type, builtinLookup_eq_fast]; kernel_rfl) (by decide +kernel) (by decide +kernel) (by decide +kernel)
    (by first | exact .inl (by decide +kernel) | exact .inr (by decide +kernel)) (by rw [isSubtype_type]; kernel_rfl)
theorem entry_dd_ga : entryFor table "collections.defaultdict.__getattribute__" = some Builtin.«object.__getattribute__» :=
  entryFor_alias (id' := "object.__getattribute__") (by kernel_rfl) (by decide +kernel) (by decide +kernel) (by kernel_rfl)
theorem args_dd_ga (a b : Value) : argsOk "collections.defaultdict.__getattribute__" ⟨[a, b], []⟩ := by unfold argsOk; kernel_rfl
theorem dd_ga_ne : (onTheHeap (.ref 108) && Value.builtin "collections.defaultdict.__getattribute__" == Value.builtin "object.__getattribute__") = false := by
  rw [show (Value.builtin "collections.defaultdict.__getattribute__" == Value.builtin "object.__getattribute__") = false from by decide +kernel, Bool.and_false]
theorem nameAt {w : World} {h : Heap} {C : Addr} {oc : Value} {od : Option Addr} {cd : ClassData} {sl : Array (Option Value)} {n : Str} (X : (heapK w.params).In h) (e : (heapK w.params).lookup C = some ⟨oc, od, .cls cd, sl⟩) (hn : cd.name = n) :
    ∃ oc od cd sl, h.get? C = some ⟨oc, od, .cls cd, sl⟩ ∧ cd.name = n := ⟨_, _, _, _, X _ _ e, hn⟩
theorem name_108 {w : World} {h : Heap} (X : (heapK w.params).In h) : ∃ oc od cd sl, h.get? 108 = some ⟨oc, od, .cls cd, sl⟩ ∧ cd.name = Str.ofString "FreezableDefaultDict" := by
  refine' nameAt X ?e ?n
  (case e => k_is)
  (case n => rfl)
section
variable {prog : Program} {w : World} {A : Around} {E : Value → Shared → Prop} {h : Heap} {g : Array GenState} {d : Drawn} {t : Nat} {os : OsState} {x : Addr} {ox : Obj} {od : Option Obj}
/-- the facts about an attribute of a book -/
structure AttrB (w : World) (h : Heap) (x : Addr) (ox : Obj) (od : Option Obj) (name : Str) (r : Builtin.ObjectAttr.Found) : Prop where
  X : (heapK w.params).In h
  I : InstAt h x ox 108 od
  f : findObj (heapK w.params) 108 od name = some r
  ga : findIn (heapK w.params) (.ref 108) "__getattribute__" = some (some (.builtin "collections.defaultdict.__getattribute__"))
  gk : findIn (heapK w.params) (.ref 108) "__getattr__" = some none
  md : mroIn (heapK w.params) 108 (.type "module") = some false
/-- the look-up itself -/
theorem bkGa_miss {tk : Tok} {R : Result → Shared → Prop} (B : AttrB w h x ox od (Str.ofString "_frozen") .missing) (hh : A.handled = none)
    (hq : ∀ h' tk e, Heap.NewAttrErr h h' e (.ref x) (Str.ofString "_frozen") → R (.error (.ref e)) ⟨h', g, d, tk, os⟩) :
    codeAny (model prog w) A (.call (.builtin "collections.defaultdict.__getattribute__") ⟨[.ref x, .str (Str.ofString "_frozen") tk], []⟩) R ⟨h, g, d, t, os⟩ := by
  obtain ⟨X, I, f, ga, gk, md⟩ := B
  have L0 := I.type (M := model prog w)
  have L2 := looks_find (M := model prog w) X I f
  have Y : TMB (model prog w) h := tmb X
  have topD := Y.topD
  obtain ⟨oc, od', cd, sl, hC, hname⟩ := name_108 X
  have L4 : Looks (model prog w) h (isInstance (.ref x) (.type "collections.defaultdict")) true := L0.andThen topD
  with_reducible refine codeAny_call_builtin slot_dd_ga.plain entry_dd_ga (@check_slot (model prog w) _ _ ⟨h, g, d, t, os⟩ "collections.defaultdict.__getattribute__" "collections.defaultdict" "__getattribute__" (.ref x) [.str (Str.ofString "_frozen") tk] [] _ (by decide +kernel) (by decide +kernel) L4 (args_dd_ga _ _) ?_)
  unfold Builtin.«object.__getattribute__»
  repeat lk
  rw [hname, if_pos (by decide +kernel)]
  repeat (first | (with_reducible refine wpAny_raiseAttrError (hm := ?hm) hh ?_) | lk)
  · exact hq
  · exact attrMsg_fits (by decide +kernel) (by rw [sizeLine_eq]; decide +kernel)
theorem bkGa_val {tk : Tok} {name : Str} {v : Value} {R : Result → Shared → Prop} (B : AttrB w h x ox od name (.value v)) (hq : R (.ok (.ret v)) ⟨h, g, d, t, os⟩) :
    codeAny (model prog w) A (.call (.builtin "collections.defaultdict.__getattribute__") ⟨[.ref x, .str name tk], []⟩) R ⟨h, g, d, t, os⟩ := by
  obtain ⟨X, I, f, ga, gk, md⟩ := B
  have L0 := I.type (M := model prog w)
  have L2 := looks_find (M := model prog w) X I f
  have topD := (tmb (M := model prog w) X).topD
  have L4 : Looks (model prog w) h (isInstance (.ref x) (.type "collections.defaultdict")) true := L0.andThen topD
  with_reducible refine codeAny_call_builtin slot_dd_ga.plain entry_dd_ga (@check_slot (model prog w) _ _ ⟨h, g, d, t, os⟩ "collections.defaultdict.__getattribute__" "collections.defaultdict" "__getattribute__" (.ref x) [.str name tk] [] _ (by decide +kernel) (by decide +kernel) L4 (args_dd_ga _ _) ?_)
  unfold Builtin.«object.__getattribute__»
  repeat lk
  exact hq
theorem nd_raise {α : Type} {M : Model} {A : Around} {E : Value → Shared → Prop} {s : Shared} {Q : α → Shared → Prop} {e : Value} (q : E e s) : wpAny M A (.raise e) Q E s := fun _ _ _ => q
theorem getattr_kind : builtinKind "getattr" = none := by decide +kernel
theorem getattr_entry : entryFor table "getattr" = some Builtin.«getattr» := entryFor_of_tree (by kernel_rfl)
theorem getattr_args (a b c : Value) : argsOk "getattr" ⟨[a, b, c], []⟩ := by unfold argsOk; kernel_rfl
theorem getattr_plain : plainId "getattr" = true := by decide +kernel
theorem getattr_miss {tk : Tok} {dflt : Value} {Q : Value → Shared → Prop} (B : AttrB w h x ox od (Str.ofString "_frozen") .missing) (hh : A.handled = none)
    (hq : ∀ h' t', Kp h h' → Q dflt ⟨h', g, d, t', os⟩) :
    wpAny (model prog w) A (call (.builtin "getattr") [.ref x, .str (Str.ofString "_frozen") tk, dflt]) Q E ⟨h, g, d, t, os⟩ := by
  have B' := B
  obtain ⟨X, I, f, ga, gk, md⟩ := B
  have L0 := I.type (M := model prog w)
  have L1 := looks_findIn (M := model prog w) X ga
  have L3 := looks_findIn (M := model prog w) X gk
  have L5 : Looks (model prog w) h (isInstance (.ref x) (.type "module")) false := L0.andThen (looks_mroIn X md)
  have hargs := getattr_args (.ref x) (.str (Str.ofString "_frozen") tk) dflt
  unfold argsOk at hargs
  with_reducible refine wpAny_call (codeAny_call_builtin getattr_plain getattr_entry ?_)
  simp only [checkBuiltinCall, getattr_kind]
  repeat (first | (with_reducible refine wpAny_attempt ?_) | (with_reducible refine wpAny_call ?_) | lk)
  show codeAny _ _ (.call (.builtin "collections.defaultdict.__getattribute__") ⟨[.ref x, .str (Str.ofString "_frozen") tk], []⟩) _ _
  with_reducible refine bkGa_miss B' ?hh ?_
  (case hh => exact hh)
  intro h' tk' e hx
  obtain ⟨t', u', he⟩ := hx.there
  have hk := hx.keeps
  have f1 := sub_AttributeError
  repeat (first | (with_reducible refine nd_raise ?_) | lk)
  repeat (first | (with_reducible refine nd_raise ?_) | lk)
  exact hq _ _ hk
theorem getattr_val {tk : Tok} {dflt v : Value} {Q : Value → Shared → Prop} (B : AttrB w h x ox od (Str.ofString "_frozen") (.value v)) (hv : handedIn v = true)
    (hq : Q v ⟨h, g, d, t, os⟩) : wpAny (model prog w) A (call (.builtin "getattr") [.ref x, .str (Str.ofString "_frozen") tk, dflt]) Q E ⟨h, g, d, t, os⟩ := by
  have B' := B
  obtain ⟨X, I, f, ga, gk, md⟩ := B
  have L0 := I.type (M := model prog w)
  have L1 := looks_findIn (M := model prog w) X ga
  have L3 := looks_findIn (M := model prog w) X gk
  have L5 : Looks (model prog w) h (isInstance (.ref x) (.type "module")) false := L0.andThen (looks_mroIn X md)
  have hargs := getattr_args (.ref x) (.str (Str.ofString "_frozen") tk) dflt
  unfold argsOk at hargs
  with_reducible refine wpAny_call (codeAny_call_builtin getattr_plain getattr_entry ?_)
  simp only [checkBuiltinCall, getattr_kind]
  repeat (first | (with_reducible refine wpAny_attempt ?_) | (with_reducible refine wpAny_call ?_) | lk)
  show codeAny _ _ (.call (.builtin "collections.defaultdict.__getattribute__") ⟨[.ref x, .str (Str.ofString "_frozen") tk], []⟩) _ _
  with_reducible refine bkGa_val B' ?_
  repeat (first | (with_reducible refine handed_on hv ?_) | lk)
  exact hq
end
theorem callBorrowed_eq (f : Value) (pos : List Value) : callBorrowed f pos = (call f pos []).keep [borrowed] := by
  unfold callBorrowed call runValue run
  show Sem.call _ _ _ _ _ = Sem.call _ _ _ _ _
  congr 1
  funext r
  rcases r with e | (v | _ | _ | _) <;> rfl
theorem wpAny_callBorrowed {M : Model} {A : Around} {E : Value → Shared → Prop} {s : Shared} {f : Value} {pos : List Value} {Q : Value → Shared → Prop} (h : wpAny M A (call f pos []) Q E s) : wpAny M A (callBorrowed f pos) Q E s := by
  rw [callBorrowed_eq]; exact Calls.wpAny_keep h
theorem entry_dd_missing : entryFor table "collections.defaultdict.__missing__" = some Builtin.«collections.defaultdict.__missing__» := entryFor_of_tree (by kernel_rfl)
theorem plain_dd_missing : plainId "collections.defaultdict.__missing__" = true := by decide +kernel
theorem plain_setdefault : plainId "dict.setdefault" = true := by decide +kernel
theorem entry_setdefault : entryFor table "dict.setdefault" = some Builtin.«dict.setdefault» := entryFor_of_tree (by kernel_rfl)
theorem qualAt {w : World} {h : Heap} {C : Addr} {oc : Value} {od : Option Addr} {cd : ClassData} {sl : Array (Option Value)} {n : Str} (X : (heapK w.params).In h) (e : (heapK w.params).lookup C = some ⟨oc, od, .cls cd, sl⟩) (hn : cd.qualname = n) (hc : oc = .type "type") :
    ∃ od cd sl, h.get? C = some ⟨.type "type", od, .cls cd, sl⟩ ∧ cd.qualname = n := ⟨_, _, _, hc ▸ X _ _ e, hn⟩
theorem qual_108 {w : World} {h : Heap} (X : (heapK w.params).In h) : ∃ od cd sl, h.get? 108 = some ⟨.type "type", od, .cls cd, sl⟩ ∧ cd.qualname = Str.ofString "FreezableDefaultDict" := by
  refine' qualAt X ?e ?n ?c
  (case e => k_is)
  (case n => rfl)
  (case c => rfl)
theorem sig_dd_missing : ∃ sig, Manifest.signature? "collections.defaultdict.__missing__" = some sig ∧ ∀ (n : String) (a b : Value), n = "FreezableDefaultDict.__missing__" → Bind.checkArgs "collections.defaultdict.__missing__" { sig with full := n } ⟨[a, b], []⟩ = pure () := by
  refine ⟨_, rfl, fun n a b hn => ?_⟩
  subst hn
  kernel_rfl
theorem kind_dd_missing : builtinKind "collections.defaultdict.__missing__" = some .method := by decide +kernel
section
variable {prog : Program} {w : World} {A : Around} {E : Value → Shared → Prop} {h : Heap} {g : Array GenState} {d : Drawn} {t : Nat} {os : OsState} {x dx : Addr} {ox : Obj} {od : Option Obj}
/-- the bound __missing__ of a defaultdict is called -/
theorem bm_call {b lam : Addr} {olam : Obj} {fd : FuncData} {key : Value} {R : Result → Shared → Prop} (X : (heapK w.params).In h) (hb : h.get? b = some (bmObj "collections.defaultdict.__missing__" x)) (hx : h.get? x = some ox) (hc : ox.cls = .ref 108) {es : Array DictEntry} {ep : Nat} (hdt : ox.data = .dict es ep) (hs : ox.slots = #[some (.ref lam)])
    (hmd : mroIn (heapK w.params) 108 (.type "module") = some false)
    (hl : h.get? lam = some olam) (hlf : olam.data = .func fd)
    (hq : wpAny (model prog w) A.in1 (call (.ref lam) [] []) (fun v s' => codeAny (model prog w) A (.builtin "dict.setdefault" ⟨[.ref x, key, v], []⟩) R s') (fun e s' => R (.error e) s') ⟨h, g, d, t, os⟩) :
    codeAny (model prog w) A (.call (.ref b) ⟨[key], []⟩) R ⟨h, g, d, t, os⟩ := by
  obtain ⟨oxc, oxd, oxt, oxs⟩ := ox
  obtain ⟨olc, old, olt, ols⟩ := olam
  dsimp only at hc hdt hs hlf
  subst hc hdt hs hlf
  obtain ⟨odc, cd, sl, hC, hqn⟩ := qual_108 X
  obtain ⟨sig, hsig, hargs⟩ := sig_dd_missing
  have t1 : Looks (model prog w) h (typeOf (.ref x)) (.ref 108) := (Looks.ld hx).andThen .now
  have L5 : Looks (model prog w) h (isInstance (.ref x) (.type "module")) false := t1.andThen (looks_mroIn X hmd)
  with_reducible refine codeAny_of_tree ?_
  show wpAny _ _ (callAny (.ref b) _) _ _ _
  refine nd_load hb ?_
  show wpAny _ _ (checkBoundCall "collections.defaultdict.__missing__" ⟨[.ref x, key], []⟩ >>= _) _ _ _
  unfold checkBoundCall
  simp only [hsig, kind_dd_missing]
  have hca : Looks (model prog w) h (Bind.checkArgs "collections.defaultdict.__missing__" { sig with full := s!"{cd.qualname.toString}.{Bind.lastOf "collections.defaultdict.__missing__"}" } ⟨[.ref x, key], []⟩) () := Looks.of_pure (hargs _ _ _ (by rw [hqn]; decide +kernel))
  repeat lk
  refine ⟨plainId_quiet plain_dd_missing _, codeAny_builtin entry_dd_missing ?_⟩
  rw [Around.under_plainId plain_dd_missing _]
  show wpAny _ _ (Builtin.«collections.defaultdict.__missing__» ⟨[.ref x, key], []⟩) _ _ _
  unfold Builtin.«collections.defaultdict.__missing__»
  repeat (first | (with_reducible refine wpAny_callBorrowed (wpAny_mono hq (fun v s' hv => ?_) fun _ _ e => e)) | lk)
  exact ⟨plainId_quiet plain_setdefault _, hv⟩
end
section
variable {prog : Program} {w : World} {A : Around} {E : Value → Shared → Prop} {s₀ : Shared} {h : Heap} {t : Nat} {Z Z₀ h₀ : Heap} {L : Addr} {m : Str → Option Value} {own own' : Own} {x dx : Addr} {f v : Value} {kvs : List (Str × Value)} {k : Str} {tk : Tok}
theorem BkO.idx {es : Array DictEntry} {kvs : List (Str × Value)} (hp : Pairs (strKind prog w) es.toList kvs) (k : Str) : (es.findIdx? fun e => (strKind prog w).is k e.key) = kvs.findIdx? fun kv => decide (kv.1 = k) := by
  rw [← hp.findIdx k]; obtain ⟨l⟩ := es; simp
theorem idx_none {kvs : List (Str × Value)} {k : Str} (hk : k ∉ kvs.map (·.1)) : (kvs.findIdx? fun kv => decide (kv.1 = k)) = none := by
  rw [List.findIdx?_eq_none_iff]
  intro kv hkv
  simp only [decide_eq_false_iff_not]
  intro e
  exact hk (e ▸ List.mem_map_of_mem hkv)
theorem bkNotOrd {M : Model} {h : Heap} {g : Array GenState} {d : Drawn} {t : Nat} {os : OsState} {o : Obj} {name : String} {rest : List Value} {kw : List (Str × Value)} {Q : Unit → Shared → Prop} (X : (heapK w.params).In h) (ho : h.get? x = some o) (hc : o.cls = .ref 108) (q : Q () ⟨h, g, d, t, os⟩) :
    wpAny M A (Builtin.Dict.notOrdered name ⟨.ref x :: rest, kw⟩) Q E ⟨h, g, d, t, os⟩ := by
  obtain ⟨oc, od, odt, os'⟩ := o
  dsimp only at hc
  subst hc
  have nord := (tmb (M := M) X).nord
  unfold Builtin.Dict.notOrdered isInstance
  split
  · repeat lk
    exact q
  · exact wpAny_pure q
theorem ne_sys (h3 : 3 < x) : (x == sysModules) = false := by rw [beq_eq_false_iff_ne]; exact fun e => by rw [e] at h3; exact absurd h3 (by decide)
theorem bkPush {h' : Heap} {o : Obj} {es : Array DictEntry} {ep : Nat} (S : St Z₀ h₀ L Z m own h) (u : Rp x (BkO w prog f dx kvs) (BkO w prog f dx (kvs ++ [(k, v)])) own own') (hkey : (strKind prog w).is k (.str k tk) = true) (ho : h.get? x = some o) (hc : o.cls = .ref 108) (hdx : o.dict = some dx) (hsl : o.slots = #[some f]) (hd : o.data = .dict es ep)
    (hke : KeysOf (strKind prog w) es) (hp : Pairs (strKind prog w) es.toList kvs) (hnd : (kvs.map (·.1)).Nodup) (hk : k ∉ kvs.map (·.1)) (e : h' = h.update x (Obj.mapDictKeys (·.push ⟨(strKind prog w).hash k, .str k tk, v⟩))) : St Z₀ h₀ L Z m own' h' := by
  subst e
  obtain ⟨oc, od, odt, os'⟩ := o
  dsimp only at hc hdx hsl hd
  subst hc hdx hsl hd
  refine S.upd u (Heap.SameBut.update ..).extBut (Heap.get?_update_self _ ho rfl) ⟨rfl, rfl, rfl, _, ep + 1, rfl, hke.push hkey v, ?_, ?_⟩
  · have := hp.append hkey ((strKind prog w).hash k) v
    simpa using this
  · rw [List.map_append, List.nodup_append]
    refine ⟨hnd, by simp, ?_⟩
    intro a ha b hb
    simp only [List.map_cons, List.map_nil, List.mem_singleton] at hb
    subst hb
    exact fun e => hk (e ▸ ha)
theorem bkSetD {R : Result → Shared → Prop} (G : Gnd w Z₀) (S : St Z₀ h₀ L Z m own h) (u : Rp x (BkO w prog f dx kvs) (BkO w prog f dx (kvs ++ [(k, v)])) own own') (h3 : 3 < x) (hk : k ∉ kvs.map (·.1)) (hn : kvs.length ≤ 1000000)
    (q : ∀ h' t', St Z₀ h₀ L Z m own' h' → R (.ok (.ret v)) (sh s₀ h' t')) : codeAny (model prog w) A (.builtin "dict.setdefault" ⟨[.ref x, .str k tk, v], []⟩) R (sh s₀ h t) := by
  obtain ⟨o, ho, hc, hdx, hsl, es, ep, hd, hke, hp, hnd⟩ := S.mem u.mem
  have X := gX G S
  have hkey := strKind_is prog w k tk
  have hes : es.size ≤ sizeLine := by
    have e1 := hp.length
    have e2 : es.toList.length = es.size := by simp
    rw [sizeLine_eq]; omega
  with_reducible refine codeAny_builtin entry_setdefault ?_
  rw [Around.under_plainId plain_setdefault _]
  unfold Builtin.«dict.setdefault»
  refine wpAny_bind ?_
  unfold Builtin.Dict.keyAndDefault
  refine wpAny_bind (bkNotOrd X ho hc ?_)
  show wpAny _ _ (pure (x, (Value.str k tk, some v))) _ _ _
  refine wpAny_pure ?_
  show wpAny _ _ (if (x == sysModules) = true then _ else (dictSetDefault x (.str k tk) v >>= _)) _ _ _
  rw [if_neg (by rw [ne_sys h3]; exact Bool.false_ne_true)]
  refine wpAny_bind ?_
  unfold dictSetDefault
  try with_reducible refine wpAny_holding ?_
  refine wpAny_bind ((strKind prog w).pyHash hkey ?_)
  refine wpAny_bind (wpAny_dictFind_of (s := sh s₀ h (t + 1)) hkey ho hd hke ?_)
  rw [BkO.idx hp, idx_none hk]
  refine wpAny_bind (wpAny_rule (wpAny_bind (wpAny_updateDictKeys (hz := hes) (s := sh s₀ h (t + 1)) ho hd (wpAny_pure (wpAny_pure ?_)))))
  exact q _ _ (bkPush S u hkey ho hc hdx hsl hd hke hp hnd hk rfl)
end
theorem entry_dict_getitem' : entryFor table "dict.__getitem__" = some Builtin.«dict.__getitem__» := entryFor_of_tree (by kernel_rfl)
theorem plain_dict_getitem : plainId "dict.__getitem__" = true := by decide +kernel
theorem kind_dict_getitem : builtinKind "dict.__getitem__" = some .method := by decide +kernel
theorem split_dict_getitem : splitId "dict.__getitem__" = some ("dict", "__getitem__") := by decide +kernel
theorem sig_dict_getitem : ∃ sig, Manifest.signature? "dict.__getitem__" = some sig ∧ ∀ a b : Value, Bind.checkArgs "dict.__getitem__" sig ⟨[a, b], []⟩ = pure () := by
  refine ⟨_, rfl, fun a b => ?_⟩
  kernel_rfl
section
variable {prog : Program} {w : World} {A : Around} {E : Value → Shared → Prop} {s₀ : Shared} {h : Heap} {t : Nat} {Z Z₀ h₀ : Heap} {L : Addr} {m : Str → Option Value} {own own' : Own} {x dx : Addr} {f v : Value} {kvs : List (Str × Value)} {k : Str} {tk : Tok}
theorem bkDictGet {o : Obj} {es : Array DictEntry} {ep : Nat} {Q : Option Value → Shared → Prop} {s : Shared} (ho : s.heap.get? x = some o) (hd : o.data = .dict es ep) (hke : KeysOf (strKind prog w) es) (hp : Pairs (strKind prog w) es.toList kvs) (q : Q (valueAt kvs k) { s with toks := s.toks + 1 }) :
    wpAny (model prog w) A (dictGet x (.str k tk)) Q E s := by
  have hkey := strKind_is prog w k tk
  have hf : findBy (strKind prog w).is es k = valueAt kvs k := by
    rw [← hp.find k]
    obtain ⟨l⟩ := es
    simp [findBy]
  rw [← hf, findBy_of_findIdx?] at q
  unfold dictGet
  try with_reducible refine wpAny_holding ?_
  refine wpAny_bind ((strKind prog w).pyHash hkey (wpAny_bind (wpAny_dictFind_of (s := { s with toks := s.toks + 1 }) hkey ho hd hke ?_)))
  cases hi : es.findIdx? fun e => (strKind prog w).is k e.key with
  | none => rw [hi] at q; exact wpAny_pure q
  | some i => rw [hi] at q; exact wpAny_bind (wpAny_dictEntries (s := { s with toks := s.toks + 1 }) ho hd (wpAny_pure q))
theorem valueAt_none {kvs : List (Str × Value)} {k : Str} (hk : k ∉ kvs.map (·.1)) : valueAt kvs k = none := by
  unfold valueAt
  rw [List.find?_eq_none.mpr]
  · rfl
  · intro kv hkv e
    have e : kv.1 = k := by simpa using e
    exact hk (e ▸ List.mem_map_of_mem hkv)
theorem bkGetHit {Q : Value → Shared → Prop} (G : Gnd w Z₀) (S : St Z₀ h₀ L Z m own h) (i : (x, BkO w prog f dx kvs) ∈ own) (hv : valueAt kvs k = some v) (q : ∀ t', Q v (sh s₀ h t')) : wpAny (model prog w) A (call (.builtin "dict.__getitem__") [.ref x, .str k tk] []) Q E (sh s₀ h t) := by
  obtain ⟨o, ho, hc, hdx, hsl, es, ep, hd, hke, hp, hnd⟩ := S.mem i
  obtain ⟨oc, od, odt, os'⟩ := o
  dsimp only at hc hdx hsl hd
  subst hc hdx hsl hd
  have X := gX G S
  have hkey := strKind_is prog w k tk
  have top := (tmb (M := model prog w) X).top
  have t1 : Looks (model prog w) h (typeOf (.ref x)) (.ref 108) := (Looks.ld ho).andThen .now
  have i1 : Looks (model prog w) h (isInstance (.ref x) (.type "dict")) true := t1.andThen top
  obtain ⟨sig, hsig, hargs⟩ := sig_dict_getitem
  have hca : Looks (model prog w) h (Bind.checkArgs "dict.__getitem__" sig ⟨[.ref x, .str k tk], []⟩) () := Looks.of_pure (hargs _ _)
  with_reducible refine wpAny_call (codeAny_call_builtin plain_dict_getitem entry_dict_getitem' ?_)
  simp only [checkBuiltinCall, kind_dict_getitem, split_dict_getitem, hsig]
  repeat (first | (with_reducible refine bkDictGet ho rfl hke hp ?_) | lk)
  rw [hv]
  repeat lk
  exact q _
/-- a word that the book lacks: its class is asked -/
theorem bkGetMiss {Q : Value → Shared → Prop} (G : Gnd w Z₀) (S : St Z₀ h₀ L Z m own h) (i : (x, BkO w prog f dx kvs) ∈ own) (h3 : 3 < x) (hk : k ∉ kvs.map (·.1))
    (fm : findIn (heapK w.params) (.ref 108) "__missing__" = some (some (.ref 98))) (ft : typeIn (heapK w.params) (.ref 98) = some (.type "function"))
    (q : ∀ t', codeAny (model prog w) A.in1 (.call (.ref 98) ⟨[.ref x, .str k tk], []⟩) (fun r s' => match r with | .ok (.ret v) => Q v s' | .ok _ => False | .error e => E e s') (sh s₀ h t')) : wpAny (model prog w) A (call (.builtin "dict.__getitem__") [.ref x, .str k tk] []) Q E (sh s₀ h t) := by
  obtain ⟨o, ho, hc, hdx, hsl, es, ep, hd, hke, hp, hnd⟩ := S.mem i
  obtain ⟨oc, od, odt, os'⟩ := o
  dsimp only at hc hdx hsl hd
  subst hc hdx hsl hd
  have X := gX G S
  have top := (tmb (M := model prog w) X).top
  have t1 : Looks (model prog w) h (typeOf (.ref x)) (.ref 108) := (Looks.ld ho).andThen .now
  have i1 : Looks (model prog w) h (isInstance (.ref x) (.type "dict")) true := t1.andThen top
  have m1 : Looks (model prog w) h (specialOf (.ref x) "__missing__") (some (.ref 98)) := t1.andThen (looks_findIn X fm)
  have m2 : Looks (model prog w) h (bindSpecial (.ref 98) (.ref x)) (.ref 98, [.ref x]) := bind_fn X _ ft
  have hvn : valueAt kvs k = none := valueAt_none hk
  have hms : Looks (model prog w) h (Builtin.Dict.missed x (.str k tk)) none := by
    unfold Builtin.Dict.missed
    rw [if_neg (by rw [ne_sys h3]; exact Bool.false_ne_true)]
    exact .now
  obtain ⟨sig, hsig, hargs⟩ := sig_dict_getitem
  have hca : Looks (model prog w) h (Bind.checkArgs "dict.__getitem__" sig ⟨[.ref x, .str k tk], []⟩) () := Looks.of_pure (hargs _ _)
  with_reducible refine wpAny_call (codeAny_call_builtin plain_dict_getitem entry_dict_getitem' ?_)
  simp only [checkBuiltinCall, kind_dict_getitem, split_dict_getitem, hsig]
  repeat (first | (with_reducible refine bkDictGet ho rfl hke hp ?_) | lk)
  rw [hvn]
  unfold callSpecial?
  repeat (first | (with_reducible refine wpAny_call ?_) | lk)
  show codeAny _ _ (.call (.ref 98) ⟨[.ref x, .str k tk], []⟩) _ _
  refine codeAny_mono (q _) fun r s' z => ?_
  rcases r with e | (v | _ | _ | _) <;> first | exact z | exact z.elim | skip
  repeat lk
  exact z
end
section
variable {prog : Program} {w : World} {M : Model} {A : Around} {c : Code} {E : Value → Shared → Prop} {s : Shared} {env : Env}
open _root_.PySem (wpAt)
theorem atCall {f : Expr} {args : List Expr} {pos : Pos} {Q : Value → Shared → Prop} (h : _root_.PySem.wpAt M A c (eval f env) (fun fv s₁ => wpAny M A (callWith pos fv [] (backTo pos (starEach args env)) []) Q E s₁) E s)
    (he : eval (.Call f args [] pos) env = (do callWith pos (← eval f env) [] (backTo pos (starEach args env)) []) := by rfl) : _root_.PySem.wpAt M A c (eval (.Call f args [] pos) env) Q E s := by
  rw [he]
  exact _root_.PySem.wpAt_bind (_root_.PySem.wpAt_mono h (fun fv s₁ h₁ => _root_.PySem.wpAt_of_wpAny h₁) fun _ _ x => x)
theorem atCall2 {f : Expr} {args : List Expr} {pos : Pos} {Q : Value → Shared → Prop} (h : wpAny M A (eval f env) (fun fv s₁ => _root_.PySem.wpAt M A c (callWith pos fv [] (backTo pos (starEach args env)) []) Q E s₁) E s)
    (he : eval (.Call f args [] pos) env = (do callWith pos (← eval f env) [] (backTo pos (starEach args env)) []) := by rfl) : _root_.PySem.wpAt M A c (eval (.Call f args [] pos) env) Q E s := by
  rw [he]
  exact _root_.PySem.wpAt_bind (_root_.PySem.wpAt_of_wpAny h)
theorem atCwB {id : String} {pos : Pos} {x : Sem Value} {rest : List (Bool × Sem Value)} {Q : Value → Shared → Prop} (h : _root_.PySem.wpAt M A c (spliced ((false, x) :: rest)) (fun vs s₁ => wpAny M A (call (.builtin id) vs []) Q E s₁) E s)
    (hp : rest.any (·.1) = false) : _root_.PySem.wpAt M A c (callWith pos (.builtin id) [] ((false, x) :: rest) []) Q E s := by
  have ev : _root_.PySem.wpAt M A c (evalArgs (.builtin id) true ((false, x) :: rest) []) (fun a s₁ => a.kw = [] ∧ wpAny M A (call (.builtin id) a.pos []) Q E s₁) E s := by
    unfold evalArgs
    show _root_.PySem.wpAt M A c (spliced ((false, x) :: rest) >>= _) _ E s
    refine _root_.PySem.wpAt_bind (_root_.PySem.wpAt_mono h (fun vs s' h' => _root_.PySem.wpAt_of_wpAny ?_) fun _ _ x => x)
    refine wpAny_holding ?_
    exact wpAny_bind (wpAny_pure (wpAny_bind (wpAny_pure (wpAny_pure ⟨rfl, h'⟩))))
  unfold callWith
  refine _root_.PySem.wpAt_bind (ks_wpAt_holding (_root_.PySem.wpAt_mono ev (fun a s₁ h₁ => _root_.PySem.wpAt_of_wpAny (wpAny_bind (wpAny_standAt ?_))) fun _ _ x => x))
  obtain ⟨ps, kw⟩ := a
  obtain ⟨hk, h₁⟩ := h₁
  dsimp only at hk
  subst hk
  have hany : (((false, x) :: rest).any (·.1) || ([] : List (Option Str × Sem Value)).any (·.1.isNone)) = false := by simp [hp]
  simp only [hany]
  refine wpAny_bind (wpAny_pure ?_)
  exact wpAny_bind (wpAny_mono (by simpa using h₁) (fun r s₂ hr => wpAny_bind (wpAny_holding (wpAny_point (wpAny_pure hr)))) fun _ _ x => x)
theorem atSpN {Q : List Value → Shared → Prop} (h : Q [] s) : _root_.PySem.wpAt M A c (spliced []) Q E s := _root_.PySem.wpAt_of_wpAny (wpAny_pure h)
theorem atSpC {x : Sem Value} {rest : List (Bool × Sem Value)} {Q : List Value → Shared → Prop} (h : _root_.PySem.wpAt M A c x (fun v s₁ => _root_.PySem.wpAt M A c (spliced rest) (fun vs s₂ => Q (v :: vs) s₂) E s₁) E s) : _root_.PySem.wpAt M A c (spliced ((false, x) :: rest)) Q E s := by
  rw [spliced]
  refine _root_.PySem.wpAt_bind (_root_.PySem.wpAt_mono h (fun v s₁ h₁ => ?_) fun _ _ x => x)
  simp only [Bool.false_eq_true, if_false]
  exact _root_.PySem.wpAt_bind (_root_.PySem.wpAt_of_wpAny (wpAny_pure (_root_.PySem.wpAt_bind (ks_wpAt_holding (_root_.PySem.wpAt_mono h₁ (fun vs s₂ h₂ => _root_.PySem.wpAt_of_wpAny (wpAny_pure h₂)) fun _ _ x => x)))))
theorem atAttr {value : Expr} {attr : Str} {pos : Pos} {Q : Value → Shared → Prop} (h : _root_.PySem.wpAt (model prog w) A c (attributeBase value attr env (eval value env)) (fun o s₁ => wpAny (model prog w) A (getAttr o attr true) Q E s₁) E s)
    (he : eval (.Attribute value attr pos) env = (do
      let o ← attributeBase value attr env (eval value env)
      standAt pos.atName
      let r ← holding [o] (getAttr o attr true)
      letTemporaryGo value o r
      pure r) := by rfl) : _root_.PySem.wpAt (model prog w) A c (eval (.Attribute value attr pos) env) Q E s := by
  rw [he]
  refine _root_.PySem.wpAt_bind (_root_.PySem.wpAt_mono h (fun o s₁ h₁ => _root_.PySem.wpAt_of_wpAny (wpAny_bind (wpAny_standAt (wpAny_bind (wpAny_holding (wpAny_mono h₁ (fun r s₂ h₂ => ?_) fun _ _ x => x)))))) fun _ _ x => x)
  exact wpAny_bind (wpAny_letTemporaryGo (wpAny_pure h₂))
end
structure PrgOk (prog : Program) : Prop where
  file : ((prog.main.file : Str) == Str.ofString "/claim/cut.py") = true
  top : (prog.main.scope.names.lookup ("super" : Str)).isSome = false
noncomputable abbrev missScope : Scope := { kind := .function, names := [(Str.ofString "self", .local), (Str.ofString "key", .local), (Str.ofString "__class__", .free), (Str.ofString "getattr", .globalImplicit), (Str.ofString "super", .globalImplicit)], isGenerator := false, isCoroutine := false }
theorem clsData {w : World} {h : Heap} {C : Addr} {oc : Value} {od : Option Addr} {cd : ClassData} {sl : Array (Option Value)} (X : (heapK w.params).In h) (e : (heapK w.params).lookup C = some ⟨oc, od, .cls cd, sl⟩) : ∃ o cd, h.get? C = some o ∧ o.data = .cls cd := ⟨_, _, X _ _ e, rfl⟩
theorem supFacts {w : World} {h : Heap} {o1 o2 o3 : Value} {d1 d2 d3 : Option Addr} {s1 s2 s3 : Array (Option Value)} {fd : FuncData} {vs : Array Value} {ar : Arg} {tf : Tok} (X : (heapK w.params).In h) (e1 : (heapK w.params).lookup 98 = some ⟨o1, d1, .func fd, s1⟩) (e2 : (heapK w.params).lookup 97 = some ⟨o2, d2, .fields vs, s2⟩)
    (e3 : (heapK w.params).lookup 86 = some ⟨o3, d3, .cell (some (.ref 108)), s3⟩) (h1 : (fd.params.posonlyargs ++ fd.params.args).head? = some ar) (h2 : ar.arg = Str.ofString "self") (h3 : vs[2]? = some (.str (Str.ofString "/claim/cut.py") tf)) :
    ∃ of fd ar oc vs tf cl, h.get? 98 = some of ∧ of.data = .func fd ∧ (fd.params.posonlyargs ++ fd.params.args).head? = some ar ∧ ar.arg = Str.ofString "self" ∧ h.get? 97 = some oc ∧ oc.data = .fields vs ∧ vs[2]? = some (.str (Str.ofString "/claim/cut.py") tf) ∧ h.get? 86 = some cl ∧ cl.data = .cell (some (.ref 108)) :=
  ⟨_, _, _, _, _, _, _, X _ _ e1, rfl, h1, h2, X _ _ e2, rfl, h3, X _ _ e3, rfl⟩
theorem sup_facts {w : World} {h : Heap} (X : (heapK w.params).In h) : ∃ of fd ar oc vs tf cl, h.get? 98 = some of ∧ of.data = .func fd ∧ (fd.params.posonlyargs ++ fd.params.args).head? = some ar ∧ ar.arg = Str.ofString "self" ∧ h.get? 97 = some oc ∧ oc.data = .fields vs ∧ vs[2]? = some (.str (Str.ofString "/claim/cut.py") tf) ∧ h.get? 86 = some cl ∧ cl.data = .cell (some (.ref 108)) := by
  refine' supFacts X ?e1 ?e2 ?e3 ?h1 ?h2 ?h3
  (case e1 => k_is)
  (case e2 => k_is)
  (case e3 => k_is)
  (case h1 => rfl)
  (case h2 => rfl)
  (case h3 => rfl)
theorem cls_108 {w : World} {h : Heap} (X : (heapK w.params).In h) : ∃ o cd, h.get? 108 = some o ∧ o.data = .cls cd := by
  refine' clsData X ?e
  (case e => k_is)
section
variable {prog : Program} {w : World} {A : Around} {E : Value → Shared → Prop} {s₀ : Shared} {h : Heap} {t : Nat} {Z Z₀ h₀ : Heap} {L : Addr} {m : Str → Option Value} {own own' : Own} {x dx : Addr} {ox : Obj}
theorem supNode {body : List Stmt} {p0 p1 : Pos} {whole : Sem Value} {Q : Value → Shared → Prop} (G : Gnd w Z₀) (P : PrgOk prog) (S : St Z₀ h₀ L Z m own h) (hx : h.get? x = some ox) (hc : ox.cls = .ref 108) (hnc : notCls ox = true) (hv : m (Str.ofString "self") = some (.ref x))
    (q : ∀ so h', St Z₀ h₀ L Z m ((so, IsO (ks_superObj 108 x 108)) :: own) h' → Q (.ref so) (sh s₀ h' t)) :
    _root_.PySem.wpAt (model prog w) A (.func body (ksEnv (Str.ofString "FreezableDefaultDict.__missing__") missScope L 98 (.ref 97) 86)) (attributeBase (.Call (.Name (Str.ofString "super") p0) [] [] p1) (Str.ofString "__missing__") (ksEnv (Str.ofString "FreezableDefaultDict.__missing__") missScope L 98 (.ref 97) 86) whole) Q E (sh s₀ h t) := by
  have X := gX G S
  obtain ⟨p, l, mg, mb, T⟩ := (G.keeps S.z0).T
  obtain ⟨oD, cd, hD1, hD2⟩ := cls_108 X
  obtain ⟨of, fd, ar, oc, vs, tf, cl, f1, f2, f3, f4, f5, f6, f7, f8, f9⟩ := sup_facts X
  have hsub := (tmb (M := model prog w) X).self
  refine ks_wpAt_super_base (env := ksEnv (Str.ofString "FreezableDefaultDict.__missing__") missScope L 98 (.ref 97) 86) (by kernel_rfl!) (by kernel_rfl!) (by decide +kernel) rfl f1 f2 f3 rfl f5 f6 f7 P.file P.top ?_
  refine' ks_loadName_global (by rfl) (by kernel_rfl!) (loadGlobal_builtin (env := ksEnv (Str.ofString "FreezableDefaultDict.__missing__") missScope L 98 (.ref 97) 86) T.g (mg_none_of X T.g ?g1) T.b ((T.builtins _ (by decide +kernel)).trans ?g2) ⟨rfl, ?_⟩)
  (case g1 => k_is)
  (case g2 => boot_by_name)
  refine wpAny_loadName_free (by rfl) (by kernel_rfl!) rfl ⟨_, f8, f9⟩ ?_
  rw [f4]
  refine wpAny_loadName_local (by rfl) (by kernel_rfl!) S.ns hv ?_
  refine ks_wpAny_isType_cls hD1 hD2 ⟨rfl, ?_⟩
  refine ks_wpAny_call_super hD1 hD2 hx hc (fun c e => ?_) hsub (fun h' e k => ?_)
  · unfold notCls at hnc
    rw [e] at hnc
    exact Bool.noConfusion hnc
  · exact q _ h' (S.add k (get?_size h) e rfl)
end
inductive KV : List (Str × Value) → List (Str × Int) → Prop
  | nil : KV [] []
  | cons {k : Str} {i : Int} {t : Tok} {kvs : List (Str × Value)} {b : List (Str × Int)} : KV kvs b → KV ((k, .int i t) :: kvs) ((k, i) :: b)
noncomputable def bkAt (b : List (Str × Int)) (k : Str) : Option Int := (b.find? fun p => p.1 = k).map (·.2)
noncomputable def bkPut (b : List (Str × Int)) (k : Str) (i : Int) : List (Str × Int) := if b.any (fun p => p.1 = k) then b.map (fun p => if p.1 = k then (p.1, i) else p) else b ++ [(k, i)]
theorem KV.keys {kvs : List (Str × Value)} {b : List (Str × Int)} (h : KV kvs b) : kvs.map (·.1) = b.map (·.1) := by
  induction h with
  | nil => rfl
  | cons _ ih => simp [ih]
theorem KV.len {kvs : List (Str × Value)} {b : List (Str × Int)} (h : KV kvs b) : kvs.length = b.length := by
  have := congrArg List.length h.keys; simpa using this
theorem KV.snoc {kvs : List (Str × Value)} {b : List (Str × Int)} (h : KV kvs b) (k : Str) (i : Int) (t : Tok) : KV (kvs ++ [(k, .int i t)]) (b ++ [(k, i)]) := by
  induction h with
  | nil => exact .cons .nil
  | cons _ ih => exact .cons ih
theorem KV.val {kvs : List (Str × Value)} {b : List (Str × Int)} (h : KV kvs b) {k : Str} {i : Int} (e : bkAt b k = some i) : ∃ t, valueAt kvs k = some (.int i t) := by
  induction h with
  | nil => cases e
  | @cons k' i' t kvs b _ ih =>
    unfold bkAt at e ih
    unfold valueAt at ih ⊢
    rw [List.find?_cons] at e ⊢
    by_cases hk : k' = k
    · simp only [hk, decide_true] at e ⊢
      cases e
      exact ⟨t, rfl⟩
    · simp only [hk, decide_false] at e ⊢
      exact ih e
theorem KV.anyk {kvs : List (Str × Value)} {b : List (Str × Int)} (h : KV kvs b) (k : Str) : (kvs.any fun p => decide (p.1 = k)) = b.any fun p => decide (p.1 = k) := by
  induction h with
  | nil => rfl
  | cons _ ih => simp only [List.any_cons, ih]
theorem KV.mapk {kvs : List (Str × Value)} {b : List (Str × Int)} (h : KV kvs b) (k : Str) (i : Int) (t : Tok) : KV (kvs.map fun kv => if kv.1 = k then (kv.1, .int i t) else kv) (b.map fun p => if p.1 = k then (p.1, i) else p) := by
  induction h with
  | nil => exact .nil
  | @cons k' i' t' kvs b _ ih =>
    simp only [List.map_cons]
    by_cases hk : k' = k
    · simp only [hk, if_true]; exact .cons ih
    · simp only [hk, if_false]; exact .cons ih
theorem KV.put {kvs : List (Str × Value)} {b : List (Str × Int)} (h : KV kvs b) (k : Str) (i : Int) (t : Tok) : KV (stored kvs k (.int i t)) (bkPut b k i) := by
  unfold stored bkPut
  rw [h.anyk k]
  split
  · exact h.mapk k i t
  · exact h.snoc k i t
noncomputable def BkI (w : World) (prog : Program) (f : Value) (dx : Addr) (b : List (Str × Int)) : OP := fun o => ∃ kvs, KV kvs b ∧ BkO w prog f dx kvs o
theorem bkAt_none {b : List (Str × Int)} {k : Str} : bkAt b k = none ↔ k ∉ b.map (·.1) := by
  unfold bkAt
  rw [Option.map_eq_none_iff, List.find?_eq_none]
  constructor
  · intro h hm
    obtain ⟨p, hp, e⟩ := List.mem_map.mp hm
    have := h p hp
    simp [e] at this
  · intro h p hp e
    have e : p.1 = k := by simpa using e
    exact h (e ▸ List.mem_map_of_mem hp)
section
variable {w : World} {prog : Program} {h : Heap} {Z Z₀ h₀ : Heap} {L : Addr} {m : Str → Option Value} {own own' : Own} {a : Addr} {P P' : OP} {o : Obj}
/-- an owned object said otherwise -/
theorem St.cast (S : St Z₀ h₀ L Z m own h) (u : Rp a P P' own own') (hp : ∀ o, h.get? a = some o → P o → P' o) : St Z₀ h₀ L Z m own' h := by
  obtain ⟨o, ho, q⟩ := S.mem u.mem
  exact S.upd u (fun _ _ _ e => e) ho (hp o ho q)
theorem Rp.mem' {a : Addr} {P P' : OP} {l l' : Own} (u : Rp a P P' l l') : (a, P') ∈ l' := by induction u with | head => exact .head _ | tail _ ih => exact .tail _ ih
theorem Rp.re {a : Addr} {P P' : OP} {l l' : Own} (u : Rp a P P' l l') (P₂ : OP) : ∃ l₂, Rp a P P₂ l l₂ ∧ Rp a P₂ P' l₂ l' := by
  induction u with
  | head => exact ⟨_, .head, .head⟩
  | tail _ ih => obtain ⟨l₂, x, y⟩ := ih; exact ⟨_, .tail x, .tail y⟩
/-- the entry that may be turned -/
theorem Rp.mk {a : Addr} {P : OP} : ∀ {own : Own}, (a, P) ∈ own → ∃ own' : OP → Own, (∀ P', Rp a P P' own (own' P'))
  | [], h => nomatch h
  | p :: r, h => by
    rcases List.mem_cons.mp h with rfl | h
    · exact ⟨fun P' => (a, P') :: r, fun P' => .head⟩
    · obtain ⟨f, hf⟩ := Rp.mk h
      exact ⟨fun P' => p :: f P', fun P' => .tail (hf P')⟩
end
section
variable {prog : Program} {w : World} {A : Around} {E : Value → Shared → Prop} {s₀ : Shared} {h : Heap} {t : Nat} {Z Z₀ h₀ : Heap} {L : Addr} {m : Str → Option Value} {own own' : Own} {x dx : Addr} {f : Value} {b : List (Str × Int)} {k : Str} {tk tk2 : Tok} {i : Int}
theorem bkSetDI {R : Result → Shared → Prop} (G : Gnd w Z₀) (S : St Z₀ h₀ L Z m own h) (u : Rp x (BkI w prog f dx b) (BkI w prog f dx (b ++ [(k, i)])) own own') (h3 : 3 < x) (hk : k ∉ b.map (·.1)) (hn : b.length ≤ 1000000)
    (q : ∀ h' t', St Z₀ h₀ L Z m own' h' → R (.ok (.ret (.int i tk2))) (sh s₀ h' t')) : codeAny (model prog w) A (.builtin "dict.setdefault" ⟨[.ref x, .str k tk, .int i tk2], []⟩) R (sh s₀ h t) := by
  obtain ⟨o, ho, kvs, hkv, hbk⟩ := S.mem u.mem
  obtain ⟨l3, ua, ub⟩ := u.re (BkO w prog f dx kvs)
  obtain ⟨l4, uc, ud⟩ := ub.re (BkO w prog f dx (kvs ++ [(k, .int i tk2)]))
  have S1 := S.upd ua (fun _ _ _ e => e) ho hbk
  exact bkSetD G S1 uc h3 (by rw [hkv.keys]; exact hk) (by rw [hkv.len]; exact hn) fun h' t' S2 => q h' t' (S2.cast ud fun o _ e => ⟨_, hkv.snoc k i tk2, e⟩)
theorem bkGetI {Q : Value → Shared → Prop} (G : Gnd w Z₀) (S : St Z₀ h₀ L Z m own h) (im : (x, BkI w prog f dx b) ∈ own) (hv : bkAt b k = some i) (q : ∀ t' tk, Q (.int i tk) (sh s₀ h t')) : wpAny (model prog w) A (call (.builtin "dict.__getitem__") [.ref x, .str k tk] []) Q E (sh s₀ h t) := by
  obtain ⟨o, ho, kvs, hkv, hbk⟩ := S.mem im
  obtain ⟨own', hu⟩ := Rp.mk im
  have S1 := S.upd (hu (BkO w prog f dx kvs)) (fun _ _ _ e => e) ho hbk
  obtain ⟨tk', e⟩ := hkv.val hv
  exact bkGetHit G S1 (hu (BkO w prog f dx kvs)).mem' e fun t' => q t' tk'
end
theorem attrB_miss {w : World} {h : Heap} {x : Addr} {ox : Obj} (X : (heapK w.params).In h) (I : InstAt h x ox 108 (some emptyDict)) : AttrB w h x ox (some emptyDict) (Str.ofString "_frozen") .missing := by
  refine' ⟨X, I, find_miss ?a ?b ?c ?d ?e, ?f, ?g, ?h⟩
  (case a => k_is)
  (case b => k_is)
  (case c => rfl)
  (case d => rfl)
  (case e => decide +kernel)
  (case f => k_is)
  (case g => k_is)
  (case h => k_is)
theorem md_108 {w : World} : mroIn (heapK w.params) 108 (.type "module") = some false := by k_is
theorem opq_108 {w : World} {h : Heap} {M : Model} (X : (heapK w.params).In h) : Looks M h (opaqueClassAbove (.ref 108)) none := by
  refine' looks_opaque X ?e
  (case e => k_is)
section
variable {prog : Program} {w : World} {A : Around} {E : Value → Shared → Prop} {s₀ : Shared} {h : Heap} {t : Nat} {Z Z₀ h₀ : Heap} {L : Addr} {m : Str → Option Value} {own own1 own2 : Own} {x dx lam cn ln : Addr} {b : List (Str × Int)} {k : Str} {tk : Tok} {n : Nat}
theorem St.inst {f : Value} (S : St Z₀ h₀ L Z m own h) (im : (x, BkI w prog f dx b) ∈ own) {od : Obj} (id : (dx, IsO od) ∈ own) : ∃ ox es ep, h.get? x = some ox ∧ ox.cls = .ref 108 ∧ ox.slots = #[some f] ∧ ox.data = .dict es ep ∧ notCls ox = true ∧ InstAt h x ox 108 (some od) := by
  obtain ⟨ox, ho, kvs, hkv, hc, hdx, hsl, es, ep, hd, _⟩ := S.mem im
  have hn : notCls ox = true := by unfold notCls; rw [hd]
  exact ⟨ox, es, ep, ho, hc, hsl, hd, hn, ho, hc, hn, by rw [hdx]; exact S.isO id⟩
theorem miss_warm {R : Result → Shared → Prop} (G : Gnd w Z₀) (P : PrgOk prog) (S : St Z₀ h₀ L Z m own h) (Ro : Rm A 30 80) (h3 : 3 < x) (h108 : x ≠ 108) (im : (x, BkI w prog (.ref lam) dx b) ∈ own) (idd : (dx, IsO emptyDict) ∈ own) (fa : FacAt Z lam cn) (ic : (cn, CellO (some (.ref ln))) ∈ own)
    (hk : k ∉ b.map (·.1)) (u1 : Rp ln (NtO n) (NtO (n + 1)) own own1) (u2 : Rp x (BkI w prog (.ref lam) dx b) (BkI w prog (.ref lam) dx (b ++ [(k, 7)])) own1 own2) (hn : n ≤ 1000000) (hb : b.length ≤ 1000000)
    (q : ∀ h' t' tk, St Z₀ h₀ L Z m own2 h' → R (.ok (.ret (.int 7 tk))) (sh s₀ h' t')) : codeAny (model prog w) A (.call (.ref 98) ⟨[.ref x, .str k tk], []⟩) R (sh s₀ h t) := by
  refine' enterAt (binds := [(Str.ofString "self", .ref x), (Str.ofString "key", .str k tk)]) (bl := [(Str.ofString "key", .str k tk), (Str.ofString "self", .ref x)]) G S ?ho ?hcd ?hroom ?hbind rfl ?hloc ?body ?hcell ?c2 ?c3 ?c4
  (case ho => k_is)
  (case hcd => k_is)
  (case hroom => (have := Ro.dp; show _ < 1000; omega))
  (case hbind => exact BindsTo.of_eq rfl)
  (case hloc => exact locs rfl)
  (case hcell => decide)
  (case c2 => exact rfl)
  (case c3 => exact rfl)
  (case c4 => exact rfl)
  intro E' C h' t hC S'
  have S0 := S
  have S := S'
  clear S'
  have Ro2 := Ro.sub (d' := 29) (u' := 77) (env := envX (Str.ofString "FreezableDefaultDict.__missing__") missScope C 98 (.ref 97) [(Str.ofString "__class__", 86)]) (by decide) (by decide)
  refine ks_wpAt_execs_cons (ks_wpAt_Return_some ?_)
  refine atCall (atCall2 ?_)
  refine' nmB G S ?hv ?hb (by decide) ?_
  (case hv => k_is)
  (case hb => boot_by_name)
  show _root_.PySem.wpAt _ _ _ (callWith _ _ [] [(false, eval _ _), (false, eval _ _), (false, eval _ _)] []) _ _ _
  refine atCwB (atSpC ?_) rfl
  refine _root_.PySem.wpAt_of_wpAny (nmL S (by (repeat (first | with_reducible exact upd_s | with_reducible exact mOf_s | with_reducible assumption | with_reducible refine upd_n (by kernel_rfl!) ?_ | with_reducible refine mOf_n (by kernel_rfl!) ?_))) ?_)
  refine atSpC (_root_.PySem.wpAt_of_wpAny (cStr ?_)); intro tk2 t
  refine atSpC (atAttr ?_)
  obtain ⟨ox, es, ep, hx, hc, hsl, hdt, hnc, I⟩ := S.inst (.tail _ im) (.tail _ idd)
  refine supNode G P S hx hc hnc (by (repeat (first | with_reducible exact upd_s | with_reducible exact mOf_s | with_reducible assumption | with_reducible refine upd_n (by kernel_rfl!) ?_ | with_reducible refine mOf_n (by kernel_rfl!) ?_))) ?_; intro so h S
  have hx := (S.inst (.tail _ (.tail _ im)) (.tail _ (.tail _ idd)))
  obtain ⟨ox, es, ep, hx, hc, hsl, hdt, hnc, I⟩ := hx
  refine sup_get (gX G S) (S.isO (.head _)) hx hc h108 (opq_108 (gX G S)) ?_
  have S := S.push (o := bmObj "collections.defaultdict.__missing__" x) (P := IsO (bmObj "collections.defaultdict.__missing__" x)) rfl rfl
  refine atSpN ?_
  obtain ⟨ox, es, ep, hx, hc, hsl, hdt, hnc, I⟩ := S.inst (.tail _ (.tail _ (.tail _ im))) (.tail _ (.tail _ (.tail _ idd)))
  refine getattr_miss (attrB_miss (gX G S) I) Ro.hd ?_; intro h t k1
  have S := S.keep k1
  refine callWith_of (P := fun h => h.get? _ = some (bmObj "collections.defaultdict.__missing__" x)) rfl (fun h e => ⟨.machine, .inr (.inl rfl), (Looks.ld e).andThen .now⟩) ?_
  refine evA rfl (spC (nmL S (by (repeat (first | with_reducible exact upd_s | with_reducible exact mOf_s | with_reducible assumption | with_reducible refine upd_n (by kernel_rfl!) ?_ | with_reducible refine mOf_n (by kernel_rfl!) ?_))) (spN ⟨S.isO (.head _), ?_⟩)))
  obtain ⟨ox, es, ep, hx, hc, hsl, hdt, hnc, I⟩ := S.inst (.tail _ (.tail _ (.tail _ im))) (.tail _ (.tail _ (.tail _ idd)))
  obtain ⟨qual, p1, p2, p3, pm, c, ctv, hl, hcr⟩ := id fa
  refine wpAny_call (bm_call (gX G S) (S.isO (.head _)) hx hc hdt hsl md_108 (S.zi _ _ hl) rfl ?_)
  refine fac_spec G S (Ro2.in1 (u' := 70) (by decide) |>.le (by decide) (by decide)) fa (.tail _ (.tail _ (.tail _ ic))) (.tail (.tail (.tail u1))) hn ?_
  intro h t tk3 S
  refine bkSetDI G S (.tail (.tail (.tail u2))) h3 hk hb ?_
  intro h t S
  exact q _ _ _ (S0.out ((S.drop .head).drop .head))
end
theorem type_dfac : typeOf (.builtin "collections.defaultdict.default_factory") = pure (.type "member_descriptor") := by show builtinType _ = _; rw [builtinType_eq_fast]; kernel_rfl
theorem owner_dfac : Builtin.Getset_descriptor.descrOwnerAndName "collections.defaultdict.default_factory" = ("collections.defaultdict", "default_factory") := by decide +kernel
theorem entry_dfac : entryFor table "collections.defaultdict.default_factory" = some Builtin.«collections.defaultdict.default_factory» := entryFor_of_tree (by kernel_rfl)
theorem canon_dd_ga : (Manifest.canonical "collections.defaultdict.__getattribute__" != "object.__getattribute__") = false := by decide +kernel
section
variable {prog : Program} {w : World} {A : Around} {E : Value → Shared → Prop} {h : Heap} {g : Array GenState} {d : Drawn} {t : Nat} {os : OsState} {x lam : Addr} {ox : Obj} {od : Option Obj}
/-- the slot's own getter -/
theorem dfac_get {tp : Value} {R : Result → Shared → Prop} (X : (heapK w.params).In h) (hx : h.get? x = some ox) (hc : ox.cls = .ref 108) (hsl : ox.slots = #[some (.ref lam)]) (hq : R (.ok (.ret (.ref lam))) ⟨h, g, d, t, os⟩) :
    codeAny (model prog w) A (.call (.builtin "member_descriptor.__get__") ⟨[.builtin "collections.defaultdict.default_factory", .ref x, tp], []⟩) R ⟨h, g, d, t, os⟩ := by
  obtain ⟨oxc, oxd, oxt, oxs⟩ := ox
  dsimp only at hc hsl
  subst hc hsl
  have L0 : Looks (model prog w) h (typeOf (.ref x)) (.ref 108) := (Looks.ld hx).andThen .now
  have L1 := (tmb (M := model prog w) X).topD
  have hTd : (⟨h, g, d, t, os⟩ : Shared).TypeIs (.builtin "collections.defaultdict.default_factory") "member_descriptor" := type_dfac
  with_reducible refine codeAny_call_builtin KF.slot_mem.plain KF.entry_mem (KF.slot_mem.check _ _ _ _ _ _ _ _ hTd (KF.args_mem _ _ _) ?_)
  unfold Builtin.«member_descriptor.__get__» Builtin.Getset_descriptor.descrGet
  rw [dga_obj]
  refine wpAny_bind (wpAny_pure ?_)
  unfold Builtin.Getset_descriptor.descrGetter Builtin.Getset_descriptor.descrCheckInstance Builtin.Getset_descriptor.descrNameAndClass isInstance
  simp only [owner_dfac]
  repeat lk
  refine ⟨Code.quiet_builtin _ (by decide +kernel), codeAny_builtin entry_dfac ?_⟩
  unfold Builtin.«collections.defaultdict.default_factory»
  repeat lk
  exact hq
/-- self.default_factory -/
theorem dfac_attr {Q : Value → Shared → Prop} {name : Str} (B : AttrB w h x ox od name (.bind (.builtin "member_descriptor.__get__") (.builtin "collections.defaultdict.default_factory"))) (hsl : ox.slots = #[some (.ref lam)])
    (hq : Q (.ref lam) ⟨h, g, d, t + 1, os⟩) : wpAny (model prog w) A (getAttr (.ref x) name false) Q E ⟨h, g, d, t, os⟩ := by
  obtain ⟨X, I, f, ga, gk, md⟩ := B
  have L0 := I.type (M := model prog w)
  have L1 := looks_findIn (M := model prog w) X ga
  have L2 := looks_find (M := model prog w) X I f
  have L3 := looks_findIn (M := model prog w) X gk
  have topD := (tmb (M := model prog w) X).topD
  have L4 : Looks (model prog w) h (isInstance (.ref x) (.type "collections.defaultdict")) true := L0.andThen topD
  have I' := I
  obtain ⟨hx, hc, _, _⟩ := I'
  unfold getAttr getAttrBy
  refine wpAny_bind (wpAny_mkText (wpAny_holding (wpAny_bind (L0.at (wpAny_bind (L1.at ?_))))))
  dsimp only
  rw [dd_ga_ne, if_neg (by decide)]
  unfold getAttrByItsOwn
  have hb : Looks (model prog w) h (hookBefore (.ref 108)) none := by unfold hookBefore; rw [if_pos (show onTheHeap (.ref 108) = true from rfl)]; exact L3
  refine wpAny_bind (hb.at (wpAny_bind (wpAny_attempt (wpAny_holding ?_))))
  unfold callGetattribute
  rw [if_neg (by decide)]
  unfold boundAndCalled
  rw [slot_dd_ga.bind]
  refine wpAny_bind (wpAny_pure ?_)
  show wpAny _ _ (call (.builtin "collections.defaultdict.__getattribute__") [.ref x, .str name t]) _ _ _
  with_reducible refine wpAny_call (codeAny_call_builtin slot_dd_ga.plain entry_dd_ga (@check_slot (model prog w) _ _ ⟨h, g, d, t + 1, os⟩ "collections.defaultdict.__getattribute__" "collections.defaultdict" "__getattribute__" (.ref x) [.str name t] [] _ (by decide +kernel) (by decide +kernel) L4 (args_dd_ga _ _) ?_))
  unfold Builtin.«object.__getattribute__»
  repeat (first | (with_reducible refine wpAny_call ?_) | lk)
  show codeAny _ _ (.call (.builtin "member_descriptor.__get__") ⟨[.builtin "collections.defaultdict.default_factory", .ref x, .ref 108], []⟩) _ _
  with_reducible refine dfac_get X hx hc hsl ?_
  repeat lk
  exact hq
theorem gm_usual {Q : Value × List Value → Shared → Prop} {pl : Sem Bool} (B : AttrB w h x ox od (Str.ofString "default_factory") (.bind (.builtin "member_descriptor.__get__") (.builtin "collections.defaultdict.default_factory"))) (hsl : ox.slots = #[some (.ref lam)])
    (hf : findIn (heapK w.params) (.ref 108) (Str.ofString "default_factory") = some (some (.builtin "collections.defaultdict.default_factory")))
    (hq : Q (.ref lam, []) ⟨h, g, d, t + 1, os⟩) : wpAny (model prog w) A (getMethod (.ref x) (Str.ofString "default_factory") pl) Q E ⟨h, g, d, t, os⟩ := by
  have B' := B
  obtain ⟨X, I, f, ga, gk, md⟩ := B
  have L0 := I.type (M := model prog w)
  have L1 := looks_findIn (M := model prog w) X ga
  have L3 := looks_findIn (M := model prog w) X gk
  have L5 := looks_findIn (M := model prog w) X hf
  unfold getMethod specialOf
  refine wpAny_bind (wpAny_bind (L0.at (L1.at ?_)))
  dsimp only
  rw [canon_dd_ga, if_neg (by decide)]
  refine wpAny_bind (wpAny_bind (L0.at (L3.at ?_)))
  rw [if_neg (by decide)]
  refine wpAny_bind (wpAny_bind (L0.at (L5.at ?_)))
  dsimp only
  refine wpAny_bind (wpAny_of_eq type_dfac ?_)
  rw [if_pos (by decide +kernel)]
  exact wpAny_bind (dfac_attr B' hsl (wpAny_pure hq))
end
noncomputable abbrev keyParams (p : Pos) : Arguments := { posonlyargs := [], args := [{ arg := Str.ofString "key", annotation := none, pos := p }], vararg := none, kwonlyargs := [], kw_defaults := [], kwarg := none, defaults := [] }
noncomputable abbrev frzScope : Scope := { kind := .function, names := [(Str.ofString "key", .local), (Str.ofString "self", .free)], isGenerator := false, isCoroutine := false }
noncomputable abbrev frzP : Arguments := keyParams { line := 44, col := 30, endLine := 44, endCol := 33 }
noncomputable abbrev frzBody : Expr := .Call (.Attribute (.Name (Str.ofString "self") { line := 44, col := 35, endLine := 44, endCol := 39 }) (Str.ofString "default_factory") { line := 44, col := 35, endLine := 44, endCol := 55 }) [] [] { line := 44, col := 35, endLine := 44, endCol := 57 }
/-- what freeze has laid -/
noncomputable def FrzAt (Z : Heap) (f x : Addr) : Prop := ∃ qual c oc, LamAt Z f qual frzP frzBody frzScope [(Str.ofString "self", c)] ∧ Z.get? c = some oc ∧ oc.data = .cell (some (.ref x))
theorem FrzAt.keeps {Z Z' : Heap} {f x : Addr} (l : FrzAt Z f x) (k : Kp Z Z') : FrzAt Z' f x := by obtain ⟨q, e, oc, l, h1, h2⟩ := l; exact ⟨q, e, oc, l.keeps k, k _ _ h1, h2⟩
noncomputable def FrzO (f : Addr) : OP := fun o => lookIn (Str.ofString "_frozen") o = some (some (.ref f))
theorem attrB_val {w : World} {h : Heap} {x f : Addr} {ox od : Obj} (X : (heapK w.params).In h) (I : InstAt h x ox 108 (some od)) (hl : lookIn (Str.ofString "_frozen") od = some (some (.ref f))) : AttrB w h x ox (some od) (Str.ofString "_frozen") (.value (.ref f)) := by
  refine' ⟨X, I, find_val ?a ?b ?c hl, ?f, ?g, ?h⟩
  (case a => k_is)
  (case b => k_is)
  (case c => rfl)
  (case f => k_is)
  (case g => k_is)
  (case h => k_is)
theorem attrB_dfac {w : World} {h : Heap} {x : Addr} {ox : Obj} {od : Option Obj} (X : (heapK w.params).In h) (I : InstAt h x ox 108 od) : AttrB w h x ox od (Str.ofString "default_factory") (.bind (.builtin "member_descriptor.__get__") (.builtin "collections.defaultdict.default_factory")) := by
  refine' ⟨X, I, find_data ?a ?b ?c ?d, ?f, ?g, ?h⟩
  (case a => k_is)
  (case b => k_is)
  (case c => k_is)
  (case d => k_is)
  (case f => k_is)
  (case g => k_is)
  (case h => k_is)
theorem dfac_108 {w : World} : findIn (heapK w.params) (.ref 108) (Str.ofString "default_factory") = some (some (.builtin "collections.defaultdict.default_factory")) := by k_is
section
variable {prog : Program} {w : World} {A : Around} {E : Value → Shared → Prop} {s₀ : Shared} {h : Heap} {t : Nat} {Z Z₀ h₀ : Heap} {L : Addr} {m : Str → Option Value} {own own1 own2 : Own} {x dx lam cn ln fz : Addr} {b : List (Str × Int)} {k : Str} {tk : Tok} {n : Nat}
theorem St.inst2 {f : Value} {P : OP} (S : St Z₀ h₀ L Z m own h) (im : (x, BkI w prog f dx b) ∈ own) (id : (dx, P) ∈ own) : ∃ ox od es ep, h.get? x = some ox ∧ ox.cls = .ref 108 ∧ ox.slots = #[some f] ∧ ox.data = .dict es ep ∧ notCls ox = true ∧ P od ∧ InstAt h x ox 108 (some od) := by
  obtain ⟨ox, ho, kvs, hkv, hc, hdx, hsl, es, ep, hd, _⟩ := S.mem im
  obtain ⟨od, hod, hp⟩ := S.mem id
  have hn : notCls ox = true := by unfold notCls; rw [hd]
  exact ⟨ox, od, es, ep, ho, hc, hsl, hd, hn, hp, ho, hc, hn, by rw [hdx]; exact hod⟩
theorem nmFZ {env : Env} {y : Str} {pos : Pos} {v : Value} {c : Addr} {oc : Obj} {Q : Value → Shared → Prop} (S : St Z₀ h₀ L Z m own h) (hz : Z.get? c = some oc) (hd : oc.data = .cell (some v)) (q : Q v (sh s₀ h t)) (hc : env.cells.lookup y = some c := by rfl)
    (hk : env.scope.kind = .function := by rfl) (hx : env.kindOf y = some .free := by kernel_rfl!) (hdd : (y == ("__debug__" : Str)) = false := by kernel_rfl!) (hn : (y == ("__classdict__" : Str)) = false := by kernel_rfl!) :
    wpAny (model prog w) A (eval (.Name y pos) env) Q E (sh s₀ h t) := wpAny_Name (wpAny_loadName_free hk hx hc ⟨oc, S.zi _ _ hz, hd⟩ q hn) hdd
/-- the frozen book's own maker -/
theorem frz_call {Q : Value → Shared → Prop} (G : Gnd w Z₀) (S : St Z₀ h₀ L Z m own h) (Ro : Rm A 25 70) (im : (x, BkI w prog (.ref lam) dx b) ∈ own) (idd : (dx, FrzO fz) ∈ own) (l : FrzAt Z fz x) (fa : FacAt Z lam cn) (ic : (cn, CellO (some (.ref ln))) ∈ own)
    (u1 : Rp ln (NtO n) (NtO (n + 1)) own own1) (hn : n ≤ 1000000)
    (q : ∀ h' t' tk, St Z₀ h₀ L Z m own1 h' → Q (.int 7 tk) (sh s₀ h' t')) : wpAny (model prog w) A (call (.ref fz) [.str k tk] []) Q E (sh s₀ h t) := by
  obtain ⟨qual, c, oc, l, hz, hcd⟩ := l
  refine' callLam (binds := [(Str.ofString "key", .str k tk)]) (bl := [(Str.ofString "key", .str k tk)]) G S l ?hroom ?hbind rfl ?hloc ?body ?hcell ?c2 ?c3 ?c4
  (case hroom => (have := Ro.dp; show _ < 1000; omega))
  (case hbind => (intro _ _ _; exact rfl))
  (case hloc => exact locs rfl)
  (case hcell => decide)
  (case c2 => exact rfl)
  (case c3 => exact rfl)
  (case c4 => exact rfl)
  intro E' C c' h' t hC S'
  have S0 := S
  have S := S'
  clear S'
  repeat' ktr_member
  refine nmFZ S hz hcd ?_
  repeat' ktr_member
  obtain ⟨ox, od, es, ep, hx, hc, hsl, hdt, hnc, hP, I⟩ := S.inst2 (.tail _ im) (.tail _ idd)
  refine gm_usual (attrB_dfac (gX G S) I) hsl dfac_108 ?_
  obtain ⟨ql, q1, q2, q3, pm, c3, ctv, hl, hcr⟩ := id fa
  refine callWith_of (P := fun h => ∃ o fd, h.get? lam = some o ∧ o.data = .func fd) rfl (fun h e => ⟨.frame, .inl rfl, ?_⟩) (evA rfl (spN ⟨⟨_, _, S.zi _ _ hl, rfl⟩, ?_⟩))
  · obtain ⟨⟨c0, d0, dt0, s0⟩, fd, e, hf⟩ := e
    dsimp only at hf
    subst hf
    exact (Looks.ld e).andThen .now
  refine fac_spec G S (Ro.sub (by decide) (by decide)) fa (.tail _ ic) (.tail u1) hn ?_
  intro h t tk3 S
  exact q _ _ _ (S0.out S)
theorem miss_cold {R : Result → Shared → Prop} (G : Gnd w Z₀) (P : PrgOk prog) (S : St Z₀ h₀ L Z m own h) (Ro : Rm A 30 80) (h108 : x ≠ 108) (im : (x, BkI w prog (.ref lam) dx b) ∈ own) (idd : (dx, FrzO fz) ∈ own) (l : FrzAt Z fz x) (fa : FacAt Z lam cn) (ic : (cn, CellO (some (.ref ln))) ∈ own)
    (u1 : Rp ln (NtO n) (NtO (n + 1)) own own1) (hn : n ≤ 1000000)
    (q : ∀ h' t' tk, St Z₀ h₀ L Z m own1 h' → R (.ok (.ret (.int 7 tk))) (sh s₀ h' t')) : codeAny (model prog w) A (.call (.ref 98) ⟨[.ref x, .str k tk], []⟩) R (sh s₀ h t) := by
  refine' enterAt (binds := [(Str.ofString "self", .ref x), (Str.ofString "key", .str k tk)]) (bl := [(Str.ofString "key", .str k tk), (Str.ofString "self", .ref x)]) G S ?ho ?hcd ?hroom ?hbind rfl ?hloc ?body ?hcell ?c2 ?c3 ?c4
  (case ho => k_is)
  (case hcd => k_is)
  (case hroom => (have := Ro.dp; show _ < 1000; omega))
  (case hbind => exact BindsTo.of_eq rfl)
  (case hloc => exact locs rfl)
  (case hcell => decide)
  (case c2 => exact rfl)
  (case c3 => exact rfl)
  (case c4 => exact rfl)
  intro E' C h' t hC S'
  have S0 := S
  have S := S'
  clear S'
  have Ro2 := Ro.sub (d' := 29) (u' := 77) (env := envX (Str.ofString "FreezableDefaultDict.__missing__") missScope C 98 (.ref 97) [(Str.ofString "__class__", 86)]) (by decide) (by decide)
  refine ks_wpAt_execs_cons (ks_wpAt_Return_some ?_)
  refine atCall (atCall2 ?_)
  refine' nmB G S ?hv ?hb (by decide) ?_
  (case hv => k_is)
  (case hb => boot_by_name)
  show _root_.PySem.wpAt _ _ _ (callWith _ _ [] [(false, eval _ _), (false, eval _ _), (false, eval _ _)] []) _ _ _
  refine atCwB (atSpC ?_) rfl
  refine _root_.PySem.wpAt_of_wpAny (nmL S (by (repeat (first | with_reducible exact upd_s | with_reducible exact mOf_s | with_reducible assumption | with_reducible refine upd_n (by kernel_rfl!) ?_ | with_reducible refine mOf_n (by kernel_rfl!) ?_))) ?_)
  refine atSpC (_root_.PySem.wpAt_of_wpAny (cStr ?_)); intro tk2 t
  refine atSpC (atAttr ?_)
  obtain ⟨ox, od, es, ep, hx, hc, hsl, hdt, hnc, hP, I⟩ := S.inst2 (.tail _ im) (.tail _ idd)
  refine supNode G P S hx hc hnc (by (repeat (first | with_reducible exact upd_s | with_reducible exact mOf_s | with_reducible assumption | with_reducible refine upd_n (by kernel_rfl!) ?_ | with_reducible refine mOf_n (by kernel_rfl!) ?_))) ?_; intro so h S
  obtain ⟨ox, od, es, ep, hx, hc, hsl, hdt, hnc, hP, I⟩ := S.inst2 (.tail _ (.tail _ im)) (.tail _ (.tail _ idd))
  refine sup_get (gX G S) (S.isO (.head _)) hx hc h108 (opq_108 (gX G S)) ?_
  have S := S.push (o := bmObj "collections.defaultdict.__missing__" x) (P := IsO (bmObj "collections.defaultdict.__missing__" x)) rfl rfl
  refine atSpN ?_
  obtain ⟨ox, od, es, ep, hx, hc, hsl, hdt, hnc, hP, I⟩ := S.inst2 (.tail _ (.tail _ (.tail _ im))) (.tail _ (.tail _ (.tail _ idd)))
  refine getattr_val (attrB_val (gX G S) I hP) rfl ?_
  have l' := l
  obtain ⟨q1, q2, q3, ⟨pm, c3, ctv, hl, hcr⟩, _⟩ := l'
  refine callWith_of (P := fun h => ∃ o fd, h.get? fz = some o ∧ o.data = .func fd) rfl (fun h e => ⟨.frame, .inl rfl, ?_⟩) (evA rfl (spC (nmL S (by (repeat (first | with_reducible exact upd_s | with_reducible exact mOf_s | with_reducible assumption | with_reducible refine upd_n (by kernel_rfl!) ?_ | with_reducible refine mOf_n (by kernel_rfl!) ?_))) (spN ⟨⟨_, _, S.zi _ _ hl, rfl⟩, ?_⟩))))
  · obtain ⟨⟨c0, d0, dt0, s0⟩, fd, e, hf⟩ := e
    dsimp only at hf
    subst hf
    exact (Looks.ld e).andThen .now
  refine frz_call G S (Ro2.le (by decide) (by decide)) (.tail _ (.tail _ (.tail _ im))) (.tail _ (.tail _ (.tail _ idd))) l fa (.tail _ (.tail _ (.tail _ ic))) (.tail (.tail (.tail u1))) hn ?_
  intro h t tk3 S
  exact q _ _ _ (S0.out ((S.drop .head).drop .head))
end
/-- what reading a book gives: the number, the book behind it, the runs of the factory -/
noncomputable def bkGet (frz : Bool) (b : List (Str × Int)) (k : Str) : Int × List (Str × Int) × Nat := match bkAt b k with
  | some i => (i, b, 0)
  | none => (7, cond frz b (b ++ [(k, 7)]), 1)
noncomputable def DxP : Bool → Addr → OP
  | true, fz => FrzO fz
  | false, _ => IsO emptyDict
theorem Rp.same {a : Addr} {P : OP} {l l' : Own} (u : Rp a P P l l') : l' = l := by
  induction u with
  | head => rfl
  | tail _ ih => rw [ih]
theorem Rp.eqv {a : Addr} {P P' : OP} {l l' : Own} (u : Rp a P P' l l') (e : P = P') : l' = l := by subst e; exact u.same
theorem book_facts {w : World} : findIn (heapK w.params) (.ref 108) "__getitem__" = some (some (.builtin "dict.__getitem__")) ∧ findIn (heapK w.params) (.ref 108) "__missing__" = some (some (.ref 98)) ∧ typeIn (heapK w.params) (.ref 98) = some (.type "function") ∧ noSeq (heapK w.params) 108 = true ∧
    findIn (heapK w.params) (.ref 108) "__setitem__" = some (some (.builtin "dict.__setitem__")) := by
  refine' ⟨?a, ?b, ?c, ?d, ?e⟩
  (case a => k_is)
  (case b => k_is)
  (case c => k_is)
  (case d => k_is)
  (case e => k_is)
section
variable {prog : Program} {w : World} {A : Around} {E : Value → Shared → Prop} {s₀ : Shared} {h : Heap} {t : Nat} {Z Z₀ h₀ : Heap} {L : Addr} {m : Str → Option Value} {own own1 own2 : Own} {x dx lam cn ln fz : Addr} {b : List (Str × Int)} {k : Str} {tk : Tok} {n : Nat} {frz : Bool}
/-- the way to the built-in behind [] -/
theorem bkTail {value slice : Expr} {f : Value} {P : OP} {Q : Value → Shared → Prop} (G : Gnd w Z₀) (S : St Z₀ h₀ L Z m own h) (im : (x, BkI w prog f dx b) ∈ own) (idd : (dx, P) ∈ own)
    (q : wpAny (model prog w) A (call (.builtin "dict.__getitem__") [.ref x, .str k tk] []) Q E (sh s₀ h t))
    (hs : subscripted slice false (.ref x) (.str k tk) = operate [.ref x, .str k tk] (getItem (.ref x) (.str k tk)) := by rfl) (ht : ∀ o r, letTemporaryGo value o r = pure () := by intro _ _; rfl) :
    wpAny (model prog w) A (subscriptTail value slice (.ref x) (.str k tk)) Q E (sh s₀ h t) := by
  obtain ⟨f1, f2, f3, f4, f5⟩ := book_facts (w := w)
  have X := gX G S
  obtain ⟨ox, od, es, ep, hx, hc, hsl, hdt, hnc, hP, I⟩ := S.inst2 im idd
  have L0 := I.type (M := model prog w)
  have L1 : Looks (model prog w) h (specialOf (.ref x) "__getitem__") (some (.builtin "dict.__getitem__")) := L0.andThen (looks_findIn X f1)
  unfold subscriptTail getitemInPython
  refine wpAny_bind (wpAny_bind (L1.at (wpAny_pure ?_)))
  rw [hs]
  refine wpAny_bind (wpAny_operate' ?_)
  refine wpAny_mono (Q := Q) (E := E) ?_ (fun r s' hr => wpAny_bind (by rw [ht]; exact wpAny_pure (wpAny_pure hr))) fun _ _ e => e
  unfold getItem sequenceKey
  refine wpAny_holding (wpAny_bind (wpAny_bind (L0.at ?_)))
  refine wpAny_bind ((anyM_none X f4).at ?_)
  rw [if_pos (show (!false) = true from rfl)]
  refine wpAny_pure (wpAny_bind ?_)
  unfold callSpecial?
  refine wpAny_bind (L1.at ?_)
  refine wpAny_holding (wpAny_bind (wpAny_of_eq (slot_dict_getitem.bind (.ref x)) ?_))
  exact wpAny_bind (wpAny_mono q (fun _ _ z => wpAny_pure (wpAny_pure z)) fun _ _ z => z)
/-- book[k] -/
theorem bk_read {value slice : Expr} {Q : Value → Shared → Prop} (G : Gnd w Z₀) (P : PrgOk prog) (S : St Z₀ h₀ L Z m own h) (Ro : Rm A 31 82) (h3 : 3 < x) (h108 : x ≠ 108) (im : (x, BkI w prog (.ref lam) dx b) ∈ own) (idd : (dx, DxP frz fz) ∈ own) (hfz : frz = true → FrzAt Z fz x) (fa : FacAt Z lam cn) (ic : (cn, CellO (some (.ref ln))) ∈ own)
    (u1 : Rp ln (NtO n) (NtO (n + (bkGet frz b k).2.2)) own own1) (u2 : Rp x (BkI w prog (.ref lam) dx b) (BkI w prog (.ref lam) dx (bkGet frz b k).2.1) own1 own2) (hn : n ≤ 1000000) (hb : b.length ≤ 1000000)
    (q : ∀ h' t' tk, St Z₀ h₀ L Z m own2 h' → Q (.int (bkGet frz b k).1 tk) (sh s₀ h' t'))
    (hs : subscripted slice false (.ref x) (.str k tk) = operate [.ref x, .str k tk] (getItem (.ref x) (.str k tk)) := by rfl) (ht : ∀ o r, letTemporaryGo value o r = pure () := by intro _ _; rfl) :
    wpAny (model prog w) A (subscriptTail value slice (.ref x) (.str k tk)) Q E (sh s₀ h t) := by
  obtain ⟨f1, f2, f3, f4, f5⟩ := book_facts (w := w)
  refine bkTail G S im idd ?_ hs ht
  cases hk : bkAt b k with
  | some i =>
    have e : bkGet frz b k = (i, b, 0) := by unfold bkGet; rw [hk]
    rw [e] at u1 u2 q
    have e1 := u1.eqv rfl
    subst e1
    have e2 := u2.same
    subst e2
    exact bkGetI G S im hk fun t' tk => q _ _ _ S
  | none =>
    have e : bkGet frz b k = (7, cond frz b (b ++ [(k, 7)]), 1) := by unfold bkGet; rw [hk]
    rw [e] at u1 u2 q
    have hkn := bkAt_none.mp hk
    obtain ⟨o, ho, kvs, hkv, hbk⟩ := S.mem im
    obtain ⟨own', hu⟩ := Rp.mk im
    have S1 := S.upd (hu (BkO w prog (.ref lam) dx kvs)) (fun _ _ _ e => e) ho hbk
    refine bkGetMiss G S1 (hu _).mem' h3 (by rw [hkv.keys]; exact hkn) f2 f3 fun t' => ?_
    cases frz with
    | false => exact miss_warm G P S (Ro.in1 (u' := 81) (by decide) |>.le (by decide) (by decide)) h3 h108 im idd fa ic hkn u1 u2 hn hb fun h' t' tk S' => q h' t' tk S'
    | true =>
      have e2 := u2.same
      subst e2
      exact miss_cold G P S (Ro.in1 (u' := 81) (by decide) |>.le (by decide) (by decide)) h108 im idd (hfz rfl) fa ic u1 hn fun h' t' tk S' => q h' t' tk S'
end
theorem entry_dict_setitem' : entryFor table "dict.__setitem__" = some Builtin.«dict.__setitem__» := entryFor_of_tree (by kernel_rfl)
theorem plain_dict_setitem : plainId "dict.__setitem__" = true := by decide +kernel
theorem slot_dict_setitem' : Slot "dict" "__setitem__" "dict.__setitem__" :=
  .of (owner := "dict") (n := "__setitem__") (by rw [typeLookup_type, builtinLookup_eq_fast]; kernel_rfl) (by decide +kernel) (by decide +kernel) (by decide +kernel)
    (by first | exact .inl (by decide +kernel) | exact .inr (by decide +kernel)) (by rw [isSubtype_type]; kernel_rfl)
theorem args_dict_setitem (a b c : Value) : argsOk "dict.__setitem__" ⟨[a, b, c], []⟩ := by unfold argsOk; kernel_rfl
theorem any_none {kvs : List (Str × Value)} {k : Str} (hk : k ∉ kvs.map (·.1)) : ¬ (kvs.any fun kv => decide (kv.1 = k)) = true := by
  rw [List.any_eq_true]
  rintro ⟨kv, hkv, he⟩
  exact hk (List.mem_map.mpr ⟨kv, hkv, of_decide_eq_true he⟩)
section
variable {prog : Program} {w : World} {A : Around} {E : Value → Shared → Prop} {s₀ : Shared} {h : Heap} {t : Nat} {Z Z₀ h₀ : Heap} {L : Addr} {m : Str → Option Value} {own own' : Own} {x dx : Addr} {f v : Value} {kvs : List (Str × Value)} {b : List (Str × Int)} {k : Str} {tk tk2 : Tok} {i : Int}
theorem bkDictSet {Q : Unit → Shared → Prop} (S : St Z₀ h₀ L Z m own h) (u : Rp x (BkO w prog f dx kvs) (BkO w prog f dx (stored kvs k v)) own own') (hn : kvs.length ≤ 1000000)
    (q : ∀ h' t', St Z₀ h₀ L Z m own' h' → Q () (sh s₀ h' t')) : wpAny (model prog w) A (dictSet x (.str k tk) v) Q E (sh s₀ h t) := by
  obtain ⟨o, ho, hc, hdx, hsl, es, ep, hd, hke, hp, hnd⟩ := S.mem u.mem
  have hkey := strKind_is prog w k tk
  have hes : es.size ≤ sizeLine := by
    have e1 := hp.length
    have e2 : es.toList.length = es.size := by simp
    rw [sizeLine_eq]; omega
  unfold dictSet
  try with_reducible refine wpAny_holding ?_
  refine wpAny_bind ((strKind prog w).pyHash hkey ?_)
  unfold dictSetHashed
  try with_reducible refine wpAny_holding ?_
  refine wpAny_bind (wpAny_dictFind_of (s := sh s₀ h (t + 1)) hkey ho hd hke ?_)
  have hidx := BkO.idx (prog := prog) (w := w) hp k
  cases hi : es.findIdx? fun e => (strKind prog w).is k e.key with
  | some j =>
    have est : stored kvs k v = kvs.map (fun kv => if kv.1 = k then (kv.1, v) else kv) := by unfold stored; rw [if_pos (any_of_findIdx_some (hidx ▸ hi))]
    rw [est] at u
    have ho' := ho
    obtain ⟨oc, od, odt, os'⟩ := o
    dsimp only at hc hdx hsl hd
    subst hc hdx hsl hd
    refine wpAny_bind (wpAny_rule (wpAny_bind (wpAny_updateDict (s := sh s₀ h (t + 1)) ho rfl (wpAny_point (q _ _ ?_)))))
    refine S.upd u (Heap.SameBut.update ..).extBut (Heap.get?_update_self _ ho rfl) ⟨rfl, rfl, rfl, _, ep, rfl, hke.modify _ _, ?_, ?_⟩
    · have hl : (es.toList.findIdx? fun e => (strKind prog w).is k e.key) = some j := by rw [← hi]; obtain ⟨l⟩ := es; simp
      have := hp.modify hnd hl v
      obtain ⟨l⟩ := es
      simpa using this
    · rw [keys_map_store]; exact hnd
  | none =>
    have hnot : k ∉ kvs.map (·.1) := not_mem_of_findIdx_none (hidx ▸ hi)
    have est : stored kvs k v = kvs ++ [(k, v)] := by unfold stored; rw [if_neg (any_none hnot)]
    rw [est] at u
    refine wpAny_bind (wpAny_rule (wpAny_updateDictKeys (hz := hes) (s := sh s₀ h (t + 1)) ho hd (q _ _ ?_)))
    exact bkPush S u hkey ho hc hdx hsl hd hke hp hnd hnot rfl
/-- book[k] = i -/
theorem bk_write {P : OP} {Q : Unit → Shared → Prop} (G : Gnd w Z₀) (S : St Z₀ h₀ L Z m own h) (idd : (dx, P) ∈ own) (u : Rp x (BkI w prog f dx b) (BkI w prog f dx (bkPut b k i)) own own') (hn : b.length ≤ 1000000)
    (q : ∀ h' t', St Z₀ h₀ L Z m own' h' → Q () (sh s₀ h' t')) : wpAny (model prog w) A (setItem (.ref x) (.str k tk) (.int i tk2)) Q E (sh s₀ h t) := by
  obtain ⟨f1, f2, f3, f4, f5⟩ := book_facts (w := w)
  have X := gX G S
  obtain ⟨ox, od, es, ep, hx, hc, hsl, hdt, hnc, hP, I⟩ := S.inst2 u.mem idd
  have L0 := I.type (M := model prog w)
  have L1 : Looks (model prog w) h (specialOf (.ref x) "__setitem__") (some (.builtin "dict.__setitem__")) := L0.andThen (looks_findIn X f5)
  have top := (tmb (M := model prog w) X).top
  have i1 : Looks (model prog w) h (isInstance (.ref x) (.type "dict")) true := L0.andThen top
  obtain ⟨o, ho, kvs, hkv, hbk⟩ := S.mem u.mem
  obtain ⟨l3, ua, ub⟩ := u.re (BkO w prog f dx kvs)
  obtain ⟨l4, uc, ud⟩ := ub.re (BkO w prog f dx (stored kvs k (.int i tk2)))
  have S1 := S.upd ua (fun _ _ _ e => e) ho hbk
  unfold setItem sequenceKey
  refine wpAny_holding (wpAny_bind (wpAny_bind (L0.at ?_)))
  refine wpAny_bind ((anyM_none X f4).at ?_)
  rw [if_pos (show (!false) = true from rfl)]
  refine wpAny_pure (wpAny_bind ?_)
  unfold callSpecial?
  refine wpAny_bind (L1.at ?_)
  refine wpAny_holding (wpAny_bind (wpAny_of_eq (slot_dict_setitem'.bind (.ref x)) ?_))
  refine wpAny_bind ?_
  show wpAny _ _ (call (.builtin "dict.__setitem__") [.ref x, .str k tk, .int i tk2] []) _ _ _
  with_reducible refine wpAny_call (codeAny_call_builtin plain_dict_setitem entry_dict_setitem' (@check_slot (model prog w) _ _ (sh s₀ h t) "dict.__setitem__" "dict" "__setitem__" (.ref x) [.str k tk, .int i tk2] [] _ (by decide +kernel) (by decide +kernel) i1 (args_dict_setitem _ _ _) ?_))
  unfold Builtin.«dict.__setitem__»
  refine wpAny_bind (bkNotOrd X ho hbk.1 ?_)
  show wpAny _ _ (dictSet x (.str k tk) (.int i tk2) >>= _) _ _ _
  refine wpAny_bind (bkDictSet S1 uc (by rw [hkv.len]; exact hn) fun h' t' S2 => ?_)
  exact wpAny_pure (wpAny_pure (wpAny_pure (q _ _ (S2.cast ud fun o _ e => ⟨_, hkv.put k i tk2, e⟩))))
end
theorem passes_dd (self : Value) : refuseLoop self "__setattr__" [.type "collections.defaultdict", .type "dict", .type "object"] = pure () := by kernel_rfl
theorem setattr_108 {w : World} : findIn (heapK w.params) (.ref 108) "__setattr__" = some (some (.builtin "object.__setattr__")) ∧ findIn (heapK w.params) (.ref 108) (Str.ofString "_frozen") = some none ∧ hasDictIn (heapK w.params) 108 = true := by
  refine' ⟨?a, ?b, ?c⟩
  (case a => k_is)
  (case b => k_is)
  (case c => k_is)
section
variable {prog : Program} {w : World} {A : Around} {E : Value → Shared → Prop} {s₀ : Shared} {h : Heap} {t : Nat} {Z Z₀ h₀ : Heap} {L : Addr} {m : Str → Option Value} {own own' : Own} {x dx fz : Addr} {f : Value} {b : List (Str × Int)}
theorem frz_put (hsh : Int) (tk : Tok) (v : Value) : Obj.putName (Str.ofString "_frozen") hsh (.str (Str.ofString "_frozen") tk) v emptyDict = dictOf [⟨hsh, .str (Str.ofString "_frozen") tk, v⟩] 1 := by
  have e : (emptyDict : Obj) = dictOf [] 0 := rfl
  rw [e, putName_dict]
  simp [putL, putN]
theorem frz_look (hsh : Int) (tk : Tok) (v : Value) : lookIn (Str.ofString "_frozen") (Obj.putName (Str.ofString "_frozen") hsh (.str (Str.ofString "_frozen") tk) v emptyDict) = some (some v) := by
  have e : (emptyDict : Obj) = dictOf [] 0 := rfl
  rw [e, putName_dict, lookIn_dict]
  have hs : (Value.str (Str.ofString "_frozen") tk).isStr (Str.ofString "_frozen") = true := by simp [Value.isStr]
  simp [putL, getL, hs]
theorem bk_setattr {Q : Unit → Shared → Prop} (G : Gnd w Z₀) (S : St Z₀ h₀ L Z m own h) (im : (x, BkI w prog f dx b) ∈ own) (u : Rp dx (IsO emptyDict) (FrzO fz) own own')
    (q : ∀ h' t', St Z₀ h₀ L Z m own' h' → Q () (sh s₀ h' t')) : wpAny (model prog w) A (setAttr (.ref x) (Str.ofString "_frozen") (.ref fz)) Q E (sh s₀ h t) := by
  obtain ⟨f1, f2, f3⟩ := setattr_108 (w := w)
  have X := gX G S
  have SF := PySem.F.store_object
  obtain ⟨ox, ho, kvs, hkv, hc, hdx, hsl, es, ep, hd, _⟩ := S.mem im
  have D := S.isO u.mem
  have hn : notCls ox = true := by unfold notCls; rw [hd]
  have I : InstAt h x ox 108 (some emptyDict) := ⟨ho, hc, hn, by rw [hdx]; exact D⟩
  have L0 := I.type (M := model prog w)
  have topO := (tmb (M := model prog w) X).topO
  have sub : Looks (model prog w) h (isInstance (.ref x) (.type "object")) true := L0.andThen topO
  obtain ⟨oc, od, cd, sl, hC, e1, e2, e4⟩ := (tmb (M := model prog w) X).obj
  have hm : Looks (model prog w) h (mroOf (.ref 108)) [.ref 108, .type "collections.defaultdict", .type "dict", .type "object"] := e4 ▸ ((Looks.ld (part := none) hC).andThen .now).andThen .now
  refine set_plain (s := sh s₀ h t) X I f1 ?_
  refine codeAny_call_builtin SF.slot.plain SF.entry (@check_slot (model prog w) _ _ (sh s₀ h (t + 1)) "object.__setattr__" "object" "__setattr__" (.ref x) [.str (Str.ofString "_frozen") t, .ref fz] [] _ SF.kind SF.split sub (SF.args (.ref x) (.str (Str.ofString "_frozen") t) (.ref fz)) ?_)
  rw [osa_eq, refuse_eq]
  refine wpAny_bind (wpAny_bind (L0.at (wpAny_bind (hm.at ?_))))
  rw [refuseLoop_ref, passes_dd]
  refine wpAny_pure (wpAny_bind (L0.at (wpAny_bind ((looks_findIn X f2).at (wpAny_bind (wpAny_pure ?_))))))
  show wpAny _ _ (Builtin.ObjectAttr.storeInOwnDict _ _ _ _ _ _) _ _ _
  obtain ⟨cd, hc2, hd2⟩ := any_some f3
  obtain ⟨oc, odi, oda, osl⟩ := ox
  dsimp only at hc hdx
  subst hc hdx
  refine wpAny_bind (wpAny_pure (wpAny_bind (wpAny_bind (wpAny_loadPart ho (wpAny_bind ((looks_clsIn X hc2).at ?_))))))
  rw [hd2]
  refine wpAny_pure (a := some dx) (wpAny_bind (wpAny_pure (wpAny_bind ?_)))
  unfold nsSet
  refine wpAny_bind (wpAny_bind (wpAny_askSetting (wpAny_pure (wpAny_bind (wpAny_mkText (wpAny_bind (wpAny_loadPart D ?_)))))))
  dsimp only
  rw [if_neg (by decide +kernel)]
  refine wpAny_updatePart D ?_
  have D' := Heap.get?_update_self (Obj.putName (Str.ofString "_frozen") (if (Str.ofString "_frozen").cps.isEmpty = true then 0 else reduceHash ((model prog w).w.params.strHash (Str.ofString "_frozen").cps)) (.str (Str.ofString "_frozen") (t + 1)) (.ref fz)) D (by rw [frz_put]; rfl)
  refine wpAny_bind (wpAny_lookBehind D' (by rw [frz_put]; exact pastItsLine_dict (by rw [List.size_toArray, sizeLine_eq]; show 1 ≤ _; decide)) ?_)
  refine wpAny_pure ?_
  have S' := S.upd (h' := h.update dx (Obj.putName (Str.ofString "_frozen") (if (Str.ofString "_frozen").cps.isEmpty = true then 0 else reduceHash ((model prog w).w.params.strHash (Str.ofString "_frozen").cps)) (.str (Str.ofString "_frozen") (t + 1)) (.ref fz))) u (Heap.SameBut.update ..).extBut D' (frz_look _ _ _)
  exact q _ _ S'
end
theorem Rp.fn {a : Addr} {P P' : OP} {l l' : Own} (u : Rp a P P' l l') : ∃ f : OP → Own, (∀ P₂ P₃, Rp a P₂ P₃ (f P₂) (f P₃)) ∧ f P = l ∧ f P' = l' := by
  induction u with
  | @head r => exact ⟨fun P₂ => (a, P₂) :: r, fun _ _ => .head, rfl, rfl⟩
  | @tail p r r' _ ih => obtain ⟨f, x, y, z⟩ := ih; exact ⟨fun P₂ => p :: f P₂, fun _ _ => .tail (x _ _), by rw [← y], by rw [← z]⟩
theorem gmf_facts {w : World} : findIn (heapK w.params) (.ref 108) "__getattribute__" = some (some (.builtin "collections.defaultdict.__getattribute__")) ∧ findIn (heapK w.params) (.ref 108) "__getattr__" = some none ∧ findIn (heapK w.params) (.ref 108) (Str.ofString "freeze") = some (some (.ref 105)) ∧ typeIn (heapK w.params) (.ref 105) = some (.type "function") := by
  refine' ⟨?a, ?b, ?c, ?d⟩
  (case a => k_is)
  (case b => k_is)
  (case c => k_is)
  (case d => k_is)
section
variable {prog : Program} {w : World} {A : Around} {E : Value → Shared → Prop} {s₀ : Shared} {h : Heap} {t : Nat} {Z Z₀ h₀ : Heap} {L : Addr} {m : Str → Option Value} {own own1 : Own} {own2 : Addr → Own} {x dx : Addr} {f : Value} {b : List (Str × Int)}
/-- cold.freeze, as a method -/
theorem gmFreeze {pl : Sem Bool} {Q : Value × List Value → Shared → Prop} (G : Gnd w Z₀) (S : St Z₀ h₀ L Z m own h) (im : (x, BkI w prog f dx b) ∈ own) (idd : (dx, IsO emptyDict) ∈ own) (q : Q (.ref 105, [.ref x]) (sh s₀ h t)) :
    wpAny (model prog w) A (getMethod (.ref x) (Str.ofString "freeze") pl) Q E (sh s₀ h t) := by
  obtain ⟨f1, f2, f3, f4⟩ := gmf_facts (w := w)
  have X := gX G S
  obtain ⟨ox, ho, kvs, hkv, hc, hdx, hsl, es, ep, hd, _⟩ := S.mem im
  have D := S.isO idd
  have L0 : Looks (model prog w) h (typeOf (.ref x)) (.ref 108) := hc ▸ (Looks.ld ho).andThen .now
  have L1 := looks_findIn (M := model prog w) X f1
  have L3 := looks_findIn (M := model prog w) X f2
  have L5 := looks_findIn (M := model prog w) X f3
  unfold getMethod specialOf
  refine wpAny_bind (wpAny_bind (L0.at (L1.at ?_)))
  dsimp only
  rw [canon_dd_ga, if_neg (by decide)]
  refine wpAny_bind (wpAny_bind (L0.at (L3.at ?_)))
  rw [if_neg (by decide)]
  refine wpAny_bind (wpAny_bind (L0.at (L5.at ?_)))
  dsimp only
  refine wpAny_bind ((looks_typeIn X f4).at ?_)
  rw [if_neg (by decide +kernel)]
  refine wpAny_bind (wpAny_loadPart ho ?_)
  rw [hdx]
  dsimp only
  refine wpAny_bind (wpAny_bind (wpAny_loadPart D ?_))
  rw [nsLook_of (r := none) (show lookIn (Str.ofString "freeze") emptyDict = some none from rfl)]
  refine wpAny_pure ?_
  rw [if_neg (by decide)]
  exact wpAny_bind (wpAny_rule (wpAny_pure q))
/-- a def with one cell is entered with all that the caller owns -/
theorem enterSC {name qual : Str} {params : Arguments} {body : List Stmt} {scope : Scope} {dV kV doc pm cdv ct oc : Value} {an od : Option Addr} {osl : Array (Option Value)} {g : Addr} {pos : List Value} {binds : List (Str × Value)} {y : Str} {v : Value} {m' : Str → Option Value} {Q : Value → Shared → Prop}
    (G : Gnd w Z₀) (S : St Z₀ h₀ L Z m own h) (ho : (heapK w.params).lookup g = some ⟨oc, od, .func (fnOf name qual params body scope dV kV doc pm an cdv ct), osl⟩) (hcd : codeIn (heapK w.params) cdv qual = true) (hroom : A.depth < recursionLimit)
    (hbind : bindArgs (fnOf name qual params body scope dV kV doc pm an cdv ct) ⟨pos, []⟩ = pure binds)
    (hkind : (binds.all fun y => scope.names.lookup y.1 == some .local || scope.names.lookup y.1 == some .cell) = true)
    (hm : bindL (fun x => scope.names.lookup x) binds (fun _ => none) = m') (hcl : ∀ a, cellsFrom a scope.names [] = [(y, a)]) (hcm : bindC (fun x => scope.names.lookup x) binds (fun _ => none) y = some v)
    (hbody : ∀ E' C h' t', h.objs.size ≤ C → St Z₀ h₀ C Z m' ((C + 1, CellO (some v)) :: (L, NsO m) :: own) h' →
      wpAny (model prog w) (A.deeper (envX qual scope C g cdv [(y, C + 1)])) (execs body (envX qual scope C g cdv [(y, C + 1)])) (Lv Q) E' (sh s₀ h' t'))
    (hco : scope.isCoroutine = false) (hgen : scope.isGenerator = false) (hk : scope.kind = .function) :
    wpAny (model prog w) A (call (.ref g) pos []) Q E (sh s₀ h t) := by
  subst hm
  have X : (heapK w.params).In h := gX G S
  obtain ⟨p, l, mg, mb, T⟩ := (G.keeps S.z0).T
  refine wpAny_call (codeAny_call_cells (fd := fnOf name qual params body scope dV kV doc pm an cdv ct) (body := body) (binds := binds) hroom (X _ _ ho) rfl T.nolimit (codeRec_of X hcd) rfl hbind rfl (kindsX hkind _) (fun s₁ x => ?_) hco hgen hk)
  obtain ⟨h₁, tk, rfl, hk₁⟩ := x.done
  have hcells : cellsFrom (h.objs.size + 1) scope.names [] = [(y, h.objs.size + 1)] := hcl _
  obtain ⟨o, eo, ed⟩ := x.cell y (h.objs.size + 1) (by show (cellsFrom (h.objs.size + 1) scope.names []).lookup y = _; rw [hcells]; simp [List.lookup])
  have S1 := S.into (C := h.objs.size) hk₁ (get?_size h) (Nat.le_refl _) x.toInCall.ns
  have hn : h.get? (h.objs.size + 1) = none := Heap.get?_none_of_le (Nat.le_succ _)
  obtain ⟨f1, f2, f3, f4⟩ := S.fresh hn
  have S2 := S1.take (P := CellO (some v)) (b := h.objs.size + 1) eo (by show o.data = _; rw [ed]; exact congrArg Data.cell hcm) f1 f2 (Nat.succ_ne_self _) (fun p hp => by
    rcases List.mem_cons.mp hp with rfl | hp
    · exact fun e => f3 e.symm
    · exact f4 p hp)
  have := hbody (fun e s' => wpAny (model prog w) (A.deeper (callEnvC (fnOf name qual params body scope dV kV doc pm an cdv ct) h.objs.size g)) (leaving (callEnvC (fnOf name qual params body scope dV kV doc pm an cdv ct) h.objs.size g) e) (fun _ s'' => E e s'') (fun e' s'' => E e' s'') s') h.objs.size h₁ tk (Nat.le_refl _) S2
  rw [← hcells] at this
  exact this
theorem freeze_spec {P1 : OP} {Q : Value → Shared → Prop} (G : Gnd w Z₀) (B : GndL Z₀) (S : St Z₀ h₀ L Z m own h) (Ro : Rm A 10 40) (im : (x, BkI w prog f dx b) ∈ own1) (hP1 : ∀ ps, P1 (tabObj ps))
    (u1 : Rp 100 (IsO (tabObj #[])) P1 own own1) (u2 : ∀ fz, Rp dx (IsO emptyDict) (FrzO fz) own1 (own2 fz))
    (q : ∀ h' t' Z' fz, Kp Z Z' → FrzAt Z' fz x → St Z₀ h₀ L Z' m (own2 fz) h' → Q .none (sh s₀ h' t')) : wpAny (model prog w) A (call (.ref 105) [.ref x] []) Q E (sh s₀ h t) := by
  refine' enterSC (binds := [(Str.ofString "self", .ref x)]) (m' := fun _ => none) (y := Str.ofString "self") (v := .ref x) G S ?ho ?hcd ?hroom ?hbind ?hkind ?hm ?hcl ?hcm ?body ?c2 ?c3 ?c4
  (case ho => k_is)
  (case hcd => k_is)
  (case hroom => (have := Ro.dp; show _ < 1000; omega))
  (case hbind => exact rfl)
  (case hkind => exact rfl)
  (case hm => exact rfl)
  (case hcl => (intro a; exact rfl))
  (case hcm => exact rfl)
  (case c2 => exact rfl)
  (case c3 => exact rfl)
  (case c4 => exact rfl)
  intro E' C h' t hC S'
  have S0 := S
  have S := S'
  clear S'
  obtain ⟨_, _, _, _, _, _, _, _, _, _, hcode, _⟩ := id B
  refine xsC ?_
  refine plainObj_wpAny_Assign_Attribute ?_
  obtain ⟨owf, hwf, hw0, hw1⟩ := u1.fn
  subst hw0 hw1
  refine' mkLam (own' := fun P' => (C + 1, CellO (some (.ref x))) :: (L, NsO m) :: owf P') (ps := #[]) (P := 100) (c := 104) (clos := [(Str.ofString "self", C + 1)]) B S hcode (by decide) rfl ?hcl rfl rfl trivial rfl (fun P' => .tail (.tail (hwf _ P'))) ?_
  (case hcl => exact rfl)
  intro fz c' h t Z' kz l S
  repeat' ktr_member
  have S := S.cast (.tail (.tail (hwf _ P1))) fun o _ e => by have e : o = tabObj _ := e; rw [e]; exact hP1 _
  refine bk_setattr (b := b) (f := f) G S (.tail _ (.tail _ im)) (.tail (.tail (u2 fz))) ?_
  intro h t S
  repeat' ktr_member
  obtain ⟨Z2, oc, k2, e2, p2, S⟩ := S.frz .head
  exact lv_next (q _ _ Z2 fz (fun b o e => k2 b o (kz b o e)) ⟨_, _, oc, l.keeps k2, e2, p2⟩ (S0.out S))
end
section
variable {prog : Program} {w : World} {A : Around} {E : Value → Shared → Prop} {s₀ : Shared} {h : Heap} {t : Nat} {Z Z₀ h₀ : Heap} {L l : Addr} {m : Str → Option Value} {own : Own} {env : Env} {a b : Value}
theorem asL2 {elts : List Expr} {x1 : Nat} {pos : Pos} {Q : Unit → Shared → Prop} (S : St Z₀ h₀ L Z m own h) (hh : A.handled = none) (il : (l, LstO [a, b]) ∈ own) (hn : (assignEach elts env).length = 2) (hf : (assignEach elts env).findIdx? (·.1) = none)
    (q : ∀ h', St Z₀ h₀ L Z m own h' → wpAny (model prog w) A (assignInOrder ((assignEach elts env).map (·.2)) [a, b]) Q E (sh s₀ h' t)) : wpAny (model prog w) A (assign (.Tuple elts x1 pos) env (.ref l)) Q E (sh s₀ h t) := by
  rw [arm_assign_Tuple]
  refine wpAny_bind (wpAny_standAt ?_)
  unfold unpack
  rw [hn, hf]
  refine wpAny_bind (wpAny_holding ?_)
  unfold unpackItems
  have i0 := S.lst il
  refine wpAny_bind ?_
  unfold notIterableAtAll
  refine wpAny_bind (wpAny_specialOf (s := sh s₀ h t) i0.typeIs slot_list_iter.lookup ?_)
  refine wpAny_pure ?_
  simp only [Bool.false_eq_true, if_false]
  refine wpAny_bind (wpAny_holding (itL' S i0 fun it h S => ?_))
  refine wpAny_bind (wpAny_holding ?_)
  show wpAny _ _ (pyNext (.ref it) >>= _) _ _ _
  refine wpAny_bind (nxL S .head (S.lst (.tail _ il)) (v := a) rfl fun h S => ?_)
  refine wpAny_bind (wpAny_holding ?_)
  show wpAny _ _ (pyNext (.ref it) >>= _) _ _ _
  refine wpAny_bind (nxL S .head (S.lst (.tail _ il)) (v := b) rfl fun h S => ?_)
  refine wpAny_bind (wpAny_holding (wpAny_pure (wpAny_pure (wpAny_pure ?_))))
  rw [if_neg (by simp)]
  refine wpAny_bind (wpAny_holding (nxLe S hh .head (S.lst (.tail _ il)) rfl fun h S => ?_))
  simp only [Option.isSome_none, Bool.false_eq_true, if_false]
  exact wpAny_pure (q h S)
theorem cSplit1 {x y : Str} {tx u : Tok} {Q : Value → Shared → Prop} (S : St Z₀ h₀ L Z m own h) (hy : (y.length == 0) = false) (hsz : x.length + 2 ≤ sizeLine)
    (q : ∀ l vs h' t', StrsAre vs (Txt.split x y) → St Z₀ h₀ L Z m ((l, LstO vs) :: own) h' → Q (.ref l) (sh s₀ h' t')) : wpAny (model prog w) A (call (.builtin "str.split") [.str x tx, .str y u]) Q E (sh s₀ h t) := by
  obtain ⟨news, N, back⟩ := S.newsAll
  refine splitN1A (s := sh s₀ h t) S.fr N hy (fun l h' tk e sa hle il F' N' => ?_) hsz
  have S' := back h' m _ (fun p hp => List.mem_cons_of_mem _ hp) F' N'
  have hn := get?_size h
  obtain ⟨f1, f2, f3, f4⟩ := S.fresh hn
  rw [e] at sa
  exact q _ _ h' tk sa (S'.take (N' _ (List.mem_cons_self ..)).1 ⟨0, rfl⟩ f1 f2 f3 f4)
theorem cIntI {n : Int} {u : Tok} {Q : Value → Shared → Prop} (h0 : 0 ≤ n) (h1 : n < 1000000) (q : ∀ tk t', Q (.int n tk) (sh s₀ h t')) : wpAny (model prog w) A (call (.type "int") [.str (istr n) u]) Q E (sh s₀ h t) :=
  KIN.call_num (s := sh s₀ h t) h0 (by omega) (q _ _)
end
section
variable {prog : Program} {w : World} {A : Around} {E : Value → Shared → Prop} {s₀ : Shared} {h : Heap} {t : Nat} {Z : Heap} {C : Addr}
theorem get61 {Q : Value → Shared → Prop} {p pd x dx : Addr} {pdo : Obj} {vs : List Value} {k : Nat} {tk0 : Tok} {v : Value} (G : Gnd w Z) (hz : Kp Z h) (R : Rm A 20 60)
    (h1 : (heapK w.params).lookup p = some ⟨.ref 78, some pd, .plain, #[]⟩) (h2 : (heapK w.params).lookup pd = some pdo) (h3 : lookIn (Str.ofString "index") pdo = some (some (.int k tk0)))
    (hx : Z.get? x = some (subTup 203 dx vs)) (hdx : Z.get? dx = some emptyDict) (hk : k < 1000) (hv : vs[k]? = some v)
    (q : ∀ h' t', ZX Z h Z h' → Q v (sh s₀ h' t')) : wpAny (model prog w) A (call (.ref 61) [.ref p, .ref x, .ref 203] []) Q E (sh s₀ h t) := by
  refine' enterP (binds := [(Str.ofString "self", .ref p), (Str.ofString "obj", .ref x), (Str.ofString "objtype", .ref 203)]) (bl := [(Str.ofString "objtype", .ref 203), (Str.ofString "obj", .ref x), (Str.ofString "self", .ref p)]) G hz ?ho ?hcd ?hroom ?hbind rfl ?hloc ?body ?hcell ?c2 ?c3 ?c4
  (case ho => k_is)
  (case hcd => k_is)
  (case hroom => (have := R.dp; show _ < 1000; omega))
  (case hbind => (refine' bindsD (T := 54) (G.X.keeps hz) ?l ?b1 ?b2 ?b3 ?b4; (case l => k_is); (case b1 => exact rfl); (case b2 => exact rfl); (case b3 => exact rfl); (case b4 => exact rfl)))
  (case hloc => exact locs rfl)
  (case hcell => decide)
  (case c2 => exact rfl)
  (case c3 => exact rfl)
  (case c4 => exact rfl)
  intro E' h t S
  show wpAny _ _ _ (Lv Q) _ _
  repeat' ktr_member
  refine wpAny_is_other rfl (by intro e; cases e) ?_
  repeat' ktr_member
  have hXe := gX G S
  have I : InstAt h x (subTup 203 dx vs) 203 (some emptyDict) := ⟨S.zi _ _ hx, rfl, rfl, S.zi _ _ hdx⟩
  refine kto_own I ?_
  repeat' ktr_member
  refine c_issub (tmk_203 (gX G S)) ?_
  repeat' ktr_member
  refine' gmTT (T := "tuple") (G.X.keeps hz) S (PySem.TypeEq.meta_tuple (sh s₀ h t)) (by decide +kernel) ?e ?hh ?_
  (case e => k_is)
  (case hh => rfl)
  repeat' ktr_member
  refine' get_value (gX G S) (instAt_of (gX G S) h1 h2) ?ga (find_val ?f1 ?f2 ?f3 h3) rfl ?_
  (case ga => k_is)
  (case f1 => k_is)
  (case f2 => k_is)
  (case f3 => rfl)
  repeat' ktr_member
  refine c_tget (tmk_203 (gX G S)) (S.zi _ _ hx) hk hv ?_
  repeat' ktr_member
  exact q _ _ S.zx
end
theorem find61 {w : World} {name : Str} {p : Addr} {cd : ClassData} (h1 : clsIn (heapK w.params) 203 = some cd) (h2 : findIn (heapK w.params) (.ref 203) name = some (some (.ref p))) (h3 : specialIn (heapK w.params) (.ref p) "__get__" = some (some (.ref 61))) (h4 : takesIn (heapK w.params) (.ref p) = some true) (od : Option Obj) :
    findObj (heapK w.params) 203 od name = some (.bind (.ref 61) (.ref p)) := find_data h1 h2 h3 h4
section
variable {prog : Program} {w : World} {A : Around} {E : Value → Shared → Prop} {s₀ : Shared} {h : Heap} {t : Nat} {Z Z₀ h₀ : Heap} {L : Addr} {m : Str → Option Value} {own : Own}
theorem gaPP {Q : Value → Shared → Prop} {name : Str} {expr : Bool} {p pd x dx : Addr} {pdo : Obj} {vs : List Value} {k : Nat} {tk0 : Tok} {v : Value} (G : Gnd w Z₀) (S : St Z₀ h₀ L Z m own h) (R : Rm A 20 61)
    (f : findObj (heapK w.params) 203 (some emptyDict) name = some (.bind (.ref 61) (.ref p)))
    (ga : findIn (heapK w.params) (.ref 203) "__getattribute__" = some (some (.builtin "tuple.__getattribute__"))) (gt : mroIn (heapK w.params) 203 (.type "tuple") = some true) (gk : findIn (heapK w.params) (.ref 203) "__getattr__" = some none)
    (h1 : (heapK w.params).lookup p = some ⟨.ref 78, some pd, .plain, #[]⟩) (h2 : (heapK w.params).lookup pd = some pdo) (h3 : lookIn (Str.ofString "index") pdo = some (some (.int k tk0)))
    (hx : Z.get? x = some (subTup 203 dx vs)) (hdx : Z.get? dx = some emptyDict) (hk : k < 1000) (hv : vs[k]? = some v) (hh : handedIn v = true)
    (q : ∀ h' t', St Z₀ h₀ L Z m own h' → Q v (sh s₀ h' t')) : wpAny (model prog w) A (getAttr (.ref x) name expr) Q E (sh s₀ h t) := by
  have I : InstAt h x (subTup 203 dx vs) 203 (some emptyDict) := ⟨S.zi _ _ hx, rfl, rfl, S.zi _ _ hdx⟩
  refine get_bindT (gX G S) I ga gt f gk ⟨_, rfl⟩ ?_
  exact get61 (G.keeps S.zx.le) S.zi (R.in1 (by decide)) h1 h2 h3 hx hdx hk hv fun h' t' z => handed_on hh (q h' t' (S.ext z))
theorem pp_facts {w : World} : findIn (heapK w.params) (.ref 203) "__getattribute__" = some (some (.builtin "tuple.__getattribute__")) ∧ mroIn (heapK w.params) 203 (.type "tuple") = some true ∧ findIn (heapK w.params) (.ref 203) "__getattr__" = some none := by
  refine' ⟨?ga, ?gt, ?gk⟩
  (case ga => k_is)
  (case gt => k_is)
  (case gk => k_is)
theorem gaName {Q : Value → Shared → Prop} {expr : Bool} {x dx : Addr} {a b : Value} (G : Gnd w Z₀) (S : St Z₀ h₀ L Z m own h) (R : Rm A 20 61) (hx : Z.get? x = some (subTup 203 dx [a, b])) (hdx : Z.get? dx = some emptyDict) (hh : handedIn a = true)
    (q : ∀ h' t', St Z₀ h₀ L Z m own h' → Q a (sh s₀ h' t')) : wpAny (model prog w) A (getAttr (.ref x) (Str.ofString "name") expr) Q E (sh s₀ h t) := by
  obtain ⟨f1, f2, f3⟩ := pp_facts (w := w)
  refine' gaPP (p := 172) (pd := 171) (k := 0) G S R (find61 ?f1 ?f2 ?f3 ?f4 _) f1 f2 f3 ?h1 ?h2 ?h3 hx hdx (by decide) rfl hh q
  (case f1 => k_is)
  (case f2 => k_is)
  (case f3 => k_is)
  (case f4 => k_is)
  (case h1 => k_is)
  (case h2 => k_is)
  (case h3 => rfl)
theorem gaValue {Q : Value → Shared → Prop} {expr : Bool} {x dx : Addr} {a b : Value} (G : Gnd w Z₀) (S : St Z₀ h₀ L Z m own h) (R : Rm A 20 61) (hx : Z.get? x = some (subTup 203 dx [a, b])) (hdx : Z.get? dx = some emptyDict) (hh : handedIn b = true)
    (q : ∀ h' t', St Z₀ h₀ L Z m own h' → Q b (sh s₀ h' t')) : wpAny (model prog w) A (getAttr (.ref x) (Str.ofString "value") expr) Q E (sh s₀ h t) := by
  obtain ⟨f1, f2, f3⟩ := pp_facts (w := w)
  refine' gaPP (p := 175) (pd := 174) (k := 1) G S R (find61 ?f1 ?f2 ?f3 ?f4 _) f1 f2 f3 ?h1 ?h2 ?h3 hx hdx (by decide) rfl hh q
  (case f1 => k_is)
  (case f2 => k_is)
  (case f3 => k_is)
  (case f4 => k_is)
  (case h1 => k_is)
  (case h2 => k_is)
  (case h3 => rfl)
end
noncomputable def PrAt (Z : Heap) (v : Value) (p : Str × Str) : Prop := ∃ x dx ta tb, v = .ref x ∧ Z.get? x = some (subTup 203 dx [.str p.1 ta, .str p.2 tb]) ∧ Z.get? dx = some emptyDict
inductive PrsAt (Z : Heap) : List Value → List (Str × Str) → Prop
  | nil : PrsAt Z [] []
  | cons {v p vs ps} : PrAt Z v p → PrsAt Z vs ps → PrsAt Z (v :: vs) (p :: ps)
theorem PrAt.keeps {Z Z' : Heap} {v : Value} {p : Str × Str} (k : Kp Z Z') (a : PrAt Z v p) : PrAt Z' v p := by obtain ⟨x, dx, ta, tb, h1, h2, h3⟩ := a; exact ⟨x, dx, ta, tb, h1, k _ _ h2, k _ _ h3⟩
theorem PrsAt.keeps {Z Z' : Heap} {vs : List Value} {ps : List (Str × Str)} (k : Kp Z Z') (a : PrsAt Z vs ps) : PrsAt Z' vs ps := by
  induction a with
  | nil => exact .nil
  | cons a _ ih => exact .cons (a.keeps k) ih
theorem PrsAt.snoc {Z : Heap} {vs : List Value} {ps : List (Str × Str)} {v : Value} {p : Str × Str} (a : PrsAt Z vs ps) (b : PrAt Z v p) : PrsAt Z (vs ++ [v]) (ps ++ [p]) := by
  induction a with
  | nil => exact .cons b .nil
  | cons a _ ih => exact .cons a ih
theorem PrsAt.len {Z : Heap} {vs : List Value} {ps : List (Str × Str)} (a : PrsAt Z vs ps) : vs.length = ps.length := by
  induction a with
  | nil => rfl
  | cons _ _ ih => simp [ih]
theorem PrsAt.at {Z : Heap} {vs : List Value} {ps : List (Str × Str)} (a : PrsAt Z vs ps) {i : Nat} (hi : i < ps.length) : ∃ v, vs[i]? = some v ∧ PrAt Z v ps[i] := by
  induction a generalizing i with
  | nil => cases hi
  | cons a _ ih =>
    cases i with
    | zero => exact ⟨_, rfl, a⟩
    | succ i => exact ih (by simpa using hi)
noncomputable abbrev addScope : Scope := { kind := .function, names := [(Str.ofString "book", .local), (Str.ofString "pairs", .local), (Str.ofString "pair", .local), (Str.ofString "now", .local), (Str.ofString "then", .local), (Str.ofString "int", .globalImplicit)], isGenerator := false, isCoroutine := false }
/-- how many there are, how many there were, the word -/
noncomputable abbrev Chg := Nat × Nat × Str
noncomputable def chgName (c : Chg) : Str := istr (c.1 : Nat) ++ Str.ofString " for " ++ istr (c.2.1 : Nat)
noncomputable def chgP (c : Chg) : Str × Str := (chgName c, c.2.2)
noncomputable def addStep (frz : Bool) (st : List (Str × Int) × Nat) (c : Chg) : List (Str × Int) × Nat := (bkPut (bkGet frz st.1 c.2.2).2.1 c.2.2 ((bkGet frz st.1 c.2.2).1 + (c.1 : Nat) - (c.2.1 : Nat)), st.2 + (bkGet frz st.1 c.2.2).2.2)
noncomputable def addAll (frz : Bool) (st : List (Str × Int) × Nat) (cs : List Chg) : List (Str × Int) × Nat := cs.foldl (addStep frz) st
theorem bkGet_len (frz : Bool) (b : List (Str × Int)) (k : Str) : (bkGet frz b k).2.1.length ≤ b.length + 1 ∧ (bkGet frz b k).2.2 ≤ 1 := by
  unfold bkGet
  cases bkAt b k with
  | some i => exact ⟨Nat.le_succ _, Nat.zero_le _⟩
  | none => cases frz <;> simp
theorem bkPut_len (b : List (Str × Int)) (k : Str) (i : Int) : (bkPut b k i).length ≤ b.length + 1 := by
  unfold bkPut; split <;> simp
theorem addAll_len (frz : Bool) (cs : List Chg) (st : List (Str × Int) × Nat) : (addAll frz st cs).1.length ≤ st.1.length + 2 * cs.length ∧ (addAll frz st cs).2 ≤ st.2 + cs.length := by
  induction cs generalizing st with
  | nil => exact ⟨Nat.le_refl _, Nat.le_refl _⟩
  | cons c cs ih =>
    obtain ⟨a, b⟩ := ih (addStep frz st c)
    obtain ⟨g1, g2⟩ := bkGet_len frz st.1 c.2.2
    have g3 := bkPut_len (bkGet frz st.1 c.2.2).2.1 c.2.2 ((bkGet frz st.1 c.2.2).1 + (c.1 : Nat) - (c.2.1 : Nat))
    show (addAll frz (addStep frz st c) cs).1.length ≤ _ ∧ _
    rw [List.length_cons]
    have e1 : (addStep frz st c).1.length ≤ st.1.length + 2 := Nat.le_trans g3 (by omega)
    have e2 : (addStep frz st c).2 ≤ st.2 + 1 := by show st.2 + _ ≤ _; omega
    exact ⟨by omega, by show (addAll frz (addStep frz st c) cs).2 ≤ _; omega⟩
section
variable {prog : Program} {w : World} {A : Around} {E : Value → Shared → Prop} {s₀ : Shared} {h : Heap} {t : Nat} {Z Z₀ h₀ : Heap} {L : Addr} {m : Str → Option Value} {x dx lam cn ln fz lp : Addr} {b : List (Str × Int)} {n : Nat} {frz : Bool} {F : OP → OP → Own}
theorem add_spec {cs : List Chg} {vs : List Value} {Q : Value → Shared → Prop} (G : Gnd w Z₀) (P : PrgOk prog) (S : St Z₀ h₀ L Z m (F (NtO n) (BkI w prog (.ref lam) dx b)) h) (Ro : Rm A 35 100) (h3 : 3 < x) (h108 : x ≠ 108)
    (hF1 : ∀ p p' q, Rp ln p p' (F p q) (F p' q)) (hF2 : ∀ p q q', Rp x q q' (F p q) (F p q')) (idd : ∀ p q, (dx, DxP frz fz) ∈ F p q) (ic : ∀ p q, (cn, CellO (some (.ref ln))) ∈ F p q) (hfz : frz = true → FrzAt Z fz x) (fa : FacAt Z lam cn)
    (il : Z.IsList lp vs.toArray) (pr : PrsAt Z vs (cs.map chgP)) (hsp : ∀ c ∈ cs, Txt.split (chgName c) (Str.ofString " for ") = [istr (c.1 : Nat), istr (c.2.1 : Nat)]) (hcs : ∀ c ∈ cs, c.1 ≤ 1000 ∧ c.2.1 ≤ 1000) (hn : n ≤ 500000) (hb : b.length ≤ 500000) (hc : cs.length ≤ 2000)
    (q : ∀ h' t', St Z₀ h₀ L Z m (F (NtO (addAll frz (b, n) cs).2) (BkI w prog (.ref lam) dx (addAll frz (b, n) cs).1)) h' → Q .none (sh s₀ h' t')) : wpAny (model prog w) A (call (.ref 390) [.ref x, .ref lp] []) Q E (sh s₀ h t) := by
  refine' enterS (binds := [(Str.ofString "book", .ref x), (Str.ofString "pairs", .ref lp)]) (bl := [(Str.ofString "pairs", .ref lp), (Str.ofString "book", .ref x)]) G S ?ho ?hcd ?hroom ?hbind rfl ?hloc ?body ?hcell ?c2 ?c3 ?c4
  (case ho => k_is)
  (case hcd => k_is)
  (case hroom => (have := Ro.dp; show _ < 1000; omega))
  (case hbind => exact BindsTo.of_eq rfl)
  (case hloc => exact locs rfl)
  (case hcell => decide)
  (case c2 => exact rfl)
  (case c3 => exact rfl)
  (case c4 => exact rfl)
  intro E' C h' t hC S'
  have S0 := S
  have S := S'
  clear S'
  show wpAny _ _ _ (Lv Q) _ _
  repeat' ktr_member
  refine itLZ S il ?_; intro it h S
  intro E2
  have lv := pr.len
  rw [List.length_map] at lv
  refine floop (fun i h => ∃ m', St Z₀ h₀ C Z m' ((it, LitO lp i) :: (L, NsO m) :: F (NtO (addAll frz (b, n) (cs.take i)).2) (BkI w prog (.ref lam) dx (addAll frz (b, n) (cs.take i)).1)) h ∧ m' (Str.ofString "book") = some (.ref x)) cs.length ⟨_, S, by (repeat (first | with_reducible exact upd_s | with_reducible exact mOf_s | with_reducible assumption | with_reducible refine upd_n (by kernel_rfl!) ?_ | with_reducible refine mOf_n (by kernel_rfl!) ?_))⟩ ?item ?stop
  case item =>
    rintro i h t E3 hlt ⟨m', S, hm1⟩
    obtain ⟨v, hv, p, dp, ta, tb, rfl, hp, hdp⟩ := pr.at (i := i) (by simpa using hlt)
    have hsi := hsp _ (List.getElem_mem hlt)
    have hci := hcs _ (List.getElem_mem hlt)
    have htk : addAll frz (b, n) (cs.take (i + 1)) = addStep frz (addAll frz (b, n) (cs.take i)) cs[i] := by unfold addAll; rw [take_snoc hlt, List.foldl_append]; rfl
    have hlen := addAll_len frz (cs.take i) (b, n)
    rw [List.length_take] at hlen
    rw [List.getElem_map] at hp
    rw [htk]
    generalize addAll frz (b, n) (cs.take i) = st at S hlen
    generalize cs[i] = c at hp hsi hci
    obtain ⟨b1, n1⟩ := st
    dsimp only at S hlen
    refine nxL S (by (repeat (first | exact Rp.head | apply Rp.tail))) (IsL.keeps il S.zi) hv ?_; intro h S
    refine ⟨_, rfl, ?_⟩
    repeat' ktr_member
    refine Assign_Tuple ?_
    repeat' ktr_member
    have R1 := Ro.sub (d' := 34) (u' := 97) (env := envX (Str.ofString "_law_add") addScope C 390 (.ref 389) []) (by decide) (by decide)
    refine gaName G S (R1.le (by decide) (by decide)) hp hdp rfl ?_; intro h t S
    repeat' ktr_member
    with_reducible refine gmSplit ?_
    repeat' ktr_member
    have c5 : (Str.ofString " for ").length = 5 := by decide +kernel
    have l1 := istr_len (a := (c.1 : Nat)) (by omega)
    have l2 := istr_len (a := (c.2.1 : Nat)) (by omega)
    have hnl : (chgName c).length ≤ 2000010 := by unfold chgName; rw [Str.length_append, Str.length_append, c5]; omega
    refine cSplit1 S (by decide +kernel) (by show (chgName c).length + 2 ≤ _; rw [sizeLine_eq]; omega) ?_; intro l ws h t hws S
    change StrsAre ws (Txt.split (chgName c) (Str.ofString " for ")) at hws
    rw [hsi] at hws
    obtain ⟨t1, ws1, rfl, hws1⟩ : ∃ t1 ws1, ws = .str (istr (c.1 : Nat)) t1 :: ws1 ∧ StrsAre ws1 [istr (c.2.1 : Nat)] := by cases hws with | cons _ t1 h => exact ⟨t1, _, rfl, h⟩
    obtain ⟨t2, rfl⟩ : ∃ t2, ws1 = [.str (istr (c.2.1 : Nat)) t2] := by cases hws1 with | cons _ t2 h => cases h; exact ⟨t2, rfl⟩
    refine asL2 S Ro.hd (.head _) rfl rfl ?_; intro h S
    have S := S.drop .head
    repeat' ktr_member
    refine gaValue G S (R1.le (by decide) (by decide)) hp hdp rfl ?_; intro h t S
    repeat' ktr_member
    obtain ⟨g1, g2⟩ := bkGet_len frz b1 c.2.2
    refine bk_read (frz := frz) G P S (R1.le (by decide) (by decide)) h3 h108 (.tail _ (.tail _ (hF2 _ _ (fun _ => True)).mem)) (.tail _ (.tail _ (idd _ _))) hfz fa (.tail _ (.tail _ (ic _ _))) (.tail (.tail (hF1 _ _ _))) (.tail (.tail (hF2 _ _ _))) (by omega) (by omega) ?_; intro h t tk S
    repeat' ktr_member
    refine cIntI (by omega) (by omega) ?_; intro tk t
    repeat' ktr_member
    refine cIntI (by omega) (by omega) ?_; intro tk t
    repeat' ktr_member
    refine gaValue G S (R1.le (by decide) (by decide)) hp hdp rfl ?_; intro h t S
    repeat' ktr_member
    refine bk_write G S (.tail _ (.tail _ (idd _ _))) (.tail (.tail (hF2 _ _ _))) (by show (bkGet frz b1 c.2.2).2.1.length ≤ 1000000; omega) ?_; intro h t S
    repeat' ktr_member
    exact ⟨.inl rfl, _, _, rfl, _, S, by (repeat (first | with_reducible exact upd_s | with_reducible exact mOf_s | with_reducible assumption | with_reducible refine upd_n (by kernel_rfl!) ?_ | with_reducible refine mOf_n (by kernel_rfl!) ?_))⟩
  case stop =>
    rintro h t E3 ⟨m', S, hm1⟩
    refine nxLe S Ro.hd .head (IsL.keeps il S.zi) (by rw [List.getElem?_eq_none]; rw [lv]; exact Nat.le_refl _) ?_; intro h S
    refine ⟨rfl, ?_⟩
    rw [List.take_of_length_le (Nat.le_refl _)] at S
    repeat' ktr_member
    exact lv_next (q _ _ (S0.out S))
end
section
variable {prog : Program} {w w' : World} {A : Around} {E : Value → Shared → Prop} {h : Heap} {g : Array GenState} {d : Drawn} {t : Nat} {os : OsState}
theorem sub_tup_203 : isSubtype (.type "tuple") (.ref 203) = pure false := by kernel_rfl
theorem entry_tuple_eq' : entryFor table "tuple.__eq__" = some Builtin.«tuple.__eq__» := entryFor_of_tree (by kernel_rfl)
theorem slot_tuple_eq' : Slot "tuple" "__eq__" "tuple.__eq__" :=
  .of (owner := "tuple") (n := "__eq__") (by rw [typeLookup_type, builtinLookup_eq_fast]; kernel_rfl) (by decide +kernel) (by decide +kernel) (by decide +kernel)
    (by first | exact .inl (by decide +kernel) | exact .inr (by decide +kernel)) (by rw [isSubtype_type]; kernel_rfl)
theorem args_tuple_eq' (a b : Value) : argsOk "tuple.__eq__" ⟨[a, b], []⟩ := by unfold argsOk; kernel_rfl
/-- a pair against a plain tuple of the same texts -/
theorem pair_eq {p q dx : Addr} {a b : Str} {ta tb ua ub : Tok} {Q : Bool → Shared → Prop} (X : (heapK w'.params).In h) (hu : A.units < cLine) (heq : findIn (heapK w'.params) (.ref 203) "__eq__" = some (some (.builtin "tuple.__eq__"))) (hp : h.get? p = some (subTup 203 dx [.str a ta, .str b tb])) (hq : IsTup h q [.str a ua, .str b ub].toArray) (k : Q true ⟨h, g, d, t, os⟩) :
    wpAny (model prog w) A (eqBool (.ref p) (.ref q)) Q E ⟨h, g, d, t, os⟩ := by
  obtain ⟨⟨oc, od, dt, sl⟩, hq, hqc, n, hqd⟩ := hq
  dsimp only at hqc hqd
  subst hqc hqd
  have Y : TMk (model prog w) h 203 := tmk_203 X
  have top := Y.top
  have hpq : (Value.ref p == Value.ref q) = false := by
    rw [beq_eq_false_iff_ne]
    intro e
    injection e with e
    subst e
    rw [hp] at hq
    injection hq with hq
    injection hq with h1
    cases h1
  have L1 : Looks (model prog w) h (typeOf (.ref p)) (.ref 203) := (Looks.ld hp).andThen .now
  have L2 : Looks (model prog w) h (typeOf (.ref q)) (.type "tuple") := (Looks.ld hq).andThen .now
  have L3 : Looks (model prog w) h (isSubtype (.type "tuple") (.ref 203)) false := Looks.of_pure sub_tup_203
  have L4 : Looks (model prog w) h (specialOf (.ref p) "__eq__") (some (.builtin "tuple.__eq__")) := L1.andThen (looks_findIn X heq)
  have L5 : Looks (model prog w) h (bindSpecial (.builtin "tuple.__eq__") (.ref p)) (.builtin "tuple.__eq__", [.ref p]) := Looks.of_pure (slot_tuple_eq'.bind _)
  have L6 : Looks (model prog w) h (isInstance (.ref p) (.type "tuple")) true := L1.andThen top
  unfold eqBool
  rw [hpq]
  refine wpAny_holding ?_
  rw [if_neg (by decide)]
  show wpAny _ _ (richCompare .Eq (.ref p) (.ref q) >>= truthOfDropped) _ _ _
  refine wpAny_bind ?_
  unfold richCompare
  refine wpAny_holding (wpAny_bind (wpAny_cRoomFor hu ?_))
  rw [show oneThing? .Eq (.ref p) (.ref q) = none from rfl]
  dsimp only [cmpInfo]
  refine wpAny_bind (L1.at (wpAny_bind (L2.at ?_)))
  rw [if_pos (show (Value.ref 203 != Value.type "tuple") = true from rfl)]
  refine wpAny_bind (L3.at ?_)
  rw [if_neg (by decide)]
  refine wpAny_bind ?_
  unfold tryCompare
  refine wpAny_bind ?_
  have body : wpAny (model prog w) A (call (.builtin "tuple.__eq__") ([.ref p] ++ [.ref q])) (fun v s' => v = .bool true ∧ s' = ⟨h, g, d, t, os⟩) (fun _ _ => False) ⟨h, g, d, t, os⟩ := by
    show wpAny _ _ (call (.builtin "tuple.__eq__") [.ref p, .ref q] []) _ _ _
    with_reducible refine wpAny_call (codeAny_call_builtin (by decide +kernel) entry_tuple_eq' (@check_slot (model prog w) _ _ ⟨h, g, d, t, os⟩ "tuple.__eq__" "tuple" "__eq__" (.ref p) [.ref q] [] _ (by decide +kernel) (by decide +kernel) L6 (args_tuple_eq' _ _) ?_))
    unfold Builtin.«tuple.__eq__»
    have L7 : Looks (model prog w) h (isInstance (.ref q) (.type "tuple")) true := L2.andThen (Looks.of_pure (by rw [isSubtype_type]; kernel_rfl))
    repeat (first | (with_reducible refine wpAny_eqBool_str ?_; rw [decide_eq_true rfl]) | lk)
    exact ⟨rfl, rfl⟩
  simp only [callSpecialIfBound?, bindSpecialIfBound?]
  refine wpAny_holding (wpAny_bind (wpAny_bind (L4.at ?_)))
  have fin : wpAny (model prog w) A (call (.builtin "tuple.__eq__") ([.ref p] ++ [.ref q]) >>= fun v => pure (some v)) (fun r s' => r = some (.bool true) ∧ s' = ⟨h, g, d, t, os⟩) (fun _ _ => False) ⟨h, g, d, t, os⟩ := wpAny_bind (wpAny_mono body (fun v s' hv => wpAny_pure ⟨by rw [hv.1], hv.2⟩) fun _ _ z => z)
  have rest : ∀ {Q' : Bool → Shared → Prop}, Q' true ⟨h, g, d, t, os⟩ → wpAny (model prog w) A (truthOfDropped (.bool true)) Q' E ⟨h, g, d, t, os⟩ := fun hq => wpAny_truthy_bool hq
  have fin2 : wpAny (model prog w) A (call (.builtin "tuple.__eq__") ([.ref p] ++ [.ref q]) >>= fun v => pure (some v)) (fun r s' => wpAny (model prog w) A (match r with
      | some Value.notImplemented => pure none
      | none => pure none
      | some v => pure (some v)) (fun r s' => r = some (.bool true) ∧ s' = ⟨h, g, d, t, os⟩) E s') E ⟨h, g, d, t, os⟩ := wpAny_mono fin (fun r s' hr => by obtain ⟨rfl, rfl⟩ := hr; exact wpAny_pure ⟨rfl, rfl⟩) fun _ _ z => z.elim
  refine wpAny_bind (wpAny_askSetting (wpAny_ite ?_))
  split
  · exact wpAny_bind (L5.at (wpAny_pure (wpAny_mono fin2 (fun r s' hr => wpAny_mono hr (fun r s' hr => by obtain ⟨rfl, rfl⟩ := hr; exact wpAny_pure (rest k)) fun _ _ z => z) fun _ _ z => z)))
  · exact wpAny_tryCatch (wpAny_bind (L5.at (wpAny_pure (wpAny_mono fin2 (fun r s' hr => wpAny_mono hr (fun r s' hr => by obtain ⟨rfl, rfl⟩ := hr; exact wpAny_pure (rest k)) fun _ _ z => z) fun _ _ z => z))))
end
section
variable {prog : Program} {w : World} {A : Around} {E : Value → Shared → Prop} {s₀ : Shared} {h : Heap} {t : Nat} {Z Z₀ h₀ : Heap} {L : Addr} {m : Str → Option Value} {own : Own}
/-- a list of pairs is no other than the list of plain tuples -/
theorem ne_pairs {Q : Value → Shared → Prop} {l1 l2 : Addr} {vs ws : List Value} {ps : List (Str × Str)} (X : (heapK w.params).In h) (hu : A.units + 3 < cLine) (heq : findIn (heapK w.params) (.ref 203) "__eq__" = some (some (.builtin "tuple.__eq__"))) (i1 : h.IsList l1 vs.toArray) (i2 : h.IsList l2 ws.toArray) (p1 : PrsAt h vs ps) (p2 : RDs h ws (ps.map dueD))
    (q : Q (.bool false) (sh s₀ h t)) : wpAny (model prog w) A (compareOp .NotEq (.ref l1) (.ref l2)) Q E (sh s₀ h t) := by
  have hlen : vs.length = ps.length := p1.len
  have hlen2 : ws.length = ps.length := p2.len'
  have hall : (!(List.range vs.toArray.size).all fun _ => true) = false := by simp
  show wpAny _ _ (richCompare .NotEq _ _) _ _ _
  refine SeqAt.RcNeAt.lists (s := sh s₀ h t) (e := fun _ => true) i1 i2 (by simp [hlen, hlen2]) (by omega) (fun j h1 h2 prog w' E' Q' hq => ?_) prog w E Q (by rw [hall]; exact q)
  have hj : j < ps.length := by rw [← hlen]; simpa using h1
  obtain ⟨v, hv, p, dp, ta, tb, rfl, hp, _⟩ := p1.at hj
  refine ea2 ?_ (p2.at hj); intro v2 hv2 rv2
  obtain ⟨T, x, y, rfl, iT, rx, ry⟩ := RD.tup2 rv2
  obtain ⟨ua, rfl⟩ := rx.str_inv
  obtain ⟨ub, rfl⟩ := ry.str_inv
  have e1 : vs.toArray[j] = .ref p := by
    have : vs.toArray[j]? = some (.ref p) := by simpa using hv
    rw [Array.getElem?_eq_getElem h1] at this
    exact Option.some.inj this
  have e2 : ws.toArray[j] = .ref T := by
    have : ws.toArray[j]? = some (.ref T) := by simpa using hv2
    rw [Array.getElem?_eq_getElem h2] at this
    exact Option.some.inj this
  rw [e1, e2]
  exact pair_eq X (by show A.units + 1 < cLine; omega) heq hp iT hq
end
theorem parse_facts {w : World} : specialIn (heapK w.params) (.ref 203) "__getattribute__" = some (some (.builtin "type.__getattribute__")) ∧ readsIn (heapK w.params) 203 (.type "type") = true ∧
    findCls (heapK w.params) (.ref 203) (.type "type") (Str.ofString "parse") = some (.get (.builtin "classmethod.__get__") (.ref 199) .none (.ref 203)) ∧ recIn (heapK w.params) 199 "classmethod" = some [.ref 197, .bool false] ∧ fnIn (heapK w.params) 197 = true ∧
    findIn (heapK w.params) (.ref 203) "__eq__" = some (some (.builtin "tuple.__eq__")) := by
  refine' ⟨?a, ?b, ?c, ?d, ?e, ?f⟩
  (case a => k_is)
  (case b => k_is)
  (case c => k_is)
  (case d => k_is)
  (case e => k_is)
  (case f => k_is)
section
variable {prog : Program} {w : World} {A : Around} {E : Value → Shared → Prop} {s₀ : Shared} {h : Heap} {t : Nat} {Z Z₀ h₀ : Heap} {L : Addr} {m : Str → Option Value} {own : Own}
theorem gmParse {pl : Sem Bool} {Q : Value × List Value → Shared → Prop} (G : Gnd w Z₀) (S : St Z₀ h₀ L Z m own h) (q : ∀ qa h' Z', Kp Z Z' → Z'.get? qa = some (methodObj (.ref 197) (.ref 203)) → St Z₀ h₀ L Z' m own h' → Q (.ref qa, []) (sh s₀ h' (t + 1))) :
    wpAny (model prog w) A (getMethod (.ref 203) (Str.ofString "parse") pl) Q E (sh s₀ h t) := by
  obtain ⟨f1, f2, f3, f4, f5, f6⟩ := parse_facts (w := w)
  have X := gX G S
  refine method_cls (s := sh s₀ h t) X f1 (cls_bind (s := sh s₀ h t) X f2 f3 (wpAny_call (cm_get (s := sh s₀ h (t + 1)) X f4 (handed_on rfl ?_))))
  obtain ⟨Z1, o1, k1, e1, rfl, S1⟩ := (S.push (o := methodObj (.ref 197) (.ref 203)) (P := IsO (methodObj (.ref 197) (.ref 203))) rfl rfl).frz .head
  exact q _ _ Z1 k1 e1 S1
theorem cwParse {env : Env} {e : Expr} {pos : Pos} {qa : Addr} {Q : Value → Shared → Prop} {s : Shared}
    (h : wpAny (model prog w) A (eval e env) (fun x s₁ => MethP (heapK w.params) qa 197 (.ref 203) s₁.heap ∧ codeAny (model prog w) A (.call (.ref 197) ⟨[.ref 203, x], []⟩) (fun r s' => match r with | .ok (.ret v) => Q v s' | .ok _ => False | .error e => E e s') s₁) E s)
    (he : starEach [e] env = [(false, eval e env)] := by rfl) : wpAny (model prog w) A (callWith pos (.ref qa) [] (backTo pos (starEach [e] env)) []) Q E s := by
  obtain ⟨f1, f2, f3, f4, f5, f6⟩ := parse_facts (w := w)
  rw [he]
  refine callWith_of (P := MethP (heapK w.params) qa 197 (.ref 203)) rfl (fun h X => keeps_M f5 h X) (evalArgs_plain ?_)
  refine Calls.spliced_cons (wpAny_mono h (fun x s₁ h₁ => Calls.spliced_nil ⟨h₁.1, wpAny_call (method_call h₁.1.1 h₁.2)⟩) fun _ _ z => z)
end
noncomputable def GrO : OP := fun o => ∃ ps, o = tabObj ps
noncomputable def xsOf (ns : List Int) : List Int := [75, 61, 6, 73, 170, 16, 108] ++ ns.take 6
noncomputable def drOf (ns : List Int) : List (Int × PyData × Str) := (drAll (xsOf ns)).1
noncomputable def askedOf (ns : List Int) : List Str := (drOf ns).map (·.2.2)
noncomputable def bagK (ns : List Int) (k : Nat) : List (PyData × Str) := (bagsAll (drOf ns)).getD k []
noncomputable def thingsK (ns : List Int) (k : Nat) : List PyData := (bagK ns k).map (·.1)
noncomputable def wordsK (ns : List Int) (k : Nat) : List Str := (bagK ns k).map (·.2)
noncomputable def rowsK (ns : List Int) (k : Nat) : List Row := cdiff (thingsK ns k) (thingsK ns (k + 1))
noncomputable def rowChg (r : Row) : Chg := (r.2.1, r.1, r.2.2.shown)
noncomputable def csK (ns : List Int) (k : Nat) : List Chg := (rowsK ns k).map rowChg
noncomputable def readStep (frz : Bool) (st : List Int × List (Str × Int) × Nat) (w : Str) : List Int × List (Str × Int) × Nat := (st.1 ++ [(bkGet frz st.2.1 w).1], (bkGet frz st.2.1 w).2.1, st.2.2 + (bkGet frz st.2.1 w).2.2)
noncomputable def readAll (frz : Bool) (b : List (Str × Int)) (n : Nat) (ws : List Str) : List Int × List (Str × Int) × Nat := ws.foldl (readStep frz) ([], b, n)
structure LSt where
  b1 : List (Str × Int)
  b2 : List (Str × Int)
  n : Nat
  kept : List Str
  stored : List Str
  vain : Nat
noncomputable def countsK (ns : List Int) (k : Nat) : List Int := (askedOf ns).map fun one => 7 + (((bagK ns (k + 1)).filter fun p => p.2 == one).length : Nat)
noncomputable def add1 (ns : List Int) (k : Nat) (s : LSt) : List (Str × Int) × Nat := addAll false (s.b1, s.n) (csK ns k)
noncomputable def add2 (ns : List Int) (k : Nat) (s : LSt) : List (Str × Int) × Nat := addAll (decide (0 < k)) (s.b2, (add1 ns k s).2) (csK ns k)
noncomputable def read1 (ns : List Int) (k : Nat) (s : LSt) : List Int × List (Str × Int) × Nat := readAll false (add1 ns k s).1 (add2 ns k s).2 (askedOf ns)
noncomputable def read2 (ns : List Int) (k : Nat) (s : LSt) : List Int × List (Str × Int) × Nat := readAll true (add2 ns k s).1 (read1 ns k s).2.2 (askedOf ns)
noncomputable def roundK (ns : List Int) (k : Nat) (s : LSt) : LSt where
  b1 := (read1 ns k s).2.1
  b2 := (read2 ns k s).2.1
  n := (read2 ns k s).2.2
  kept := laid (laid s.kept ((csK ns k).map (·.2.2))) (askedOf ns)
  stored := laid s.stored ((csK ns k).map (·.2.2))
  vain := s.vain + ((askedOf ns).filter fun one => !decide (one ∈ laid s.stored ((csK ns k).map (·.2.2)))).length
noncomputable def stAt (ns : List Int) : Nat → LSt
  | 0 => ⟨[], [], 0, [], [], 0⟩
  | k + 1 => roundK ns k (stAt ns k)
/-- what the plain law says -/
structure PlainOk (ns : List Int) : Prop where
  good : ∀ k, ∀ p ∈ bagK ns k, Good p.1 ∧ p.1.depth ≤ 60 ∧ PyData.strOk p.2 = true ∧ p.1.shown.length ≤ 100000
  rows : ∀ k, ∀ r ∈ rowsK ns k, RowOk r
  len : ∀ k, (bagK ns k).length ≤ 13
  asked : ∀ x ∈ askedOf ns, PyData.strOk x = true
  dr : (drOf ns).length ≤ 13
  csn : ∀ k, (csK ns k).length ≤ 26
  cso : ∀ k, ∀ c ∈ csK ns k, PyData.strOk c.2.2 = true ∧ c.1 ≤ 1000 ∧ c.2.1 ≤ 1000
  due : ∀ k, dueOf (bagK ns k) (bagK ns (k + 1)) = (csK ns k).map chgP
  parse : ∀ k i, (hi : i < (csK ns k).length) → (writtenAll (rowsK ns k)).length = (csK ns k).length ∧ ∃ x a b, (writtenAll (rowsK ns k))[i]? = some x ∧ x.length ≤ 1000000 ∧ Txt.splitMax x (Str.ofString "=") 1 = [a, b] ∧ Txt.strip a = chgName (csK ns k)[i] ∧ Txt.strip b = (csK ns k)[i].2.2
  split : ∀ k, ∀ c ∈ csK ns k, Txt.split (chgName c) (Str.ofString " for ") = [istr (c.1 : Nat), istr (c.2.1 : Nat)]
  vals1 : ∀ k, k < 4 → (read1 ns k (stAt ns k)).1 = countsK ns k
  vals2 : ∀ k, k < 4 → (read2 ns k (stAt ns k)).1 = countsK ns k
  fin1 : (stAt ns 4).b1.map (·.1) = (stAt ns 4).kept
  fin2 : (stAt ns 4).b2.map (·.1) = (stAt ns 4).stored
  fin3 : (stAt ns 4).n = (stAt ns 4).kept.length + (stAt ns 4).stored.length + (stAt ns 4).vain
theorem lawEnter {w : World} {T : List Stmt → Scope → Prop} {oc : Value} {od : Option Addr} {osl : Array (Option Value)} {name qual : Str} {params : Arguments} {body : List Stmt} {scope : Scope} {dV kV doc pm cdv ct : Value} {an : Option Addr}
    (ho : (heapK w.params).lookup 400 = some ⟨oc, od, .func (fnOf name qual params body scope dV kV doc pm an cdv ct), osl⟩) (g : T body scope) :
    ∀ {oc : Value} {od : Option Addr} {osl : Array (Option Value)} {name qual : Str} {params : Arguments} {body : List Stmt} {scope : Scope} {dV kV doc pm cdv ct : Value} {an : Option Addr},
      (heapK w.params).lookup 400 = some ⟨oc, od, .func (fnOf name qual params body scope dV kV doc pm an cdv ct), osl⟩ → T body scope := by
  intro oc' od' osl' name' qual' params' body' scope' dV' kV' doc' pm' cdv' ct' an' h
  rw [ho] at h
  have h := Option.some.inj h
  injection h with _ _ h _
  injection h with h
  injection h with _ _ _ hb hs
  injection hb with hb
  subst hb hs
  exact g
noncomputable abbrev ownL (L : Addr) (bags warm cold stored k notes : Option Value) (T1 T2 : OP) : Own := [(L + 1 + 1 + 1 + 1 + 1 + 1, CellO notes), (L + 1 + 1 + 1 + 1 + 1, CellO k), (L + 1 + 1 + 1 + 1, CellO stored), (L + 1 + 1 + 1, CellO cold), (L + 1 + 1, CellO warm), (L + 1, CellO bags), (100, T1), (397, T2)]
noncomputable def LawT (w : World) (body : List Stmt) (scope : Scope) : Prop := ∀ {prog : Program} {A : Around} {E : Value → Shared → Prop} {s₀ : Shared} {h g : Heap} {t : Nat} {L fa : Addr} {m : Str → Option Value} {Q : Flow → Shared → Prop} {sl : Addr} {vs : List Value} {ns : List Int},
  Gnd w g → GndL g → PrgOk prog → Rm A 60 200 → 400 < L → St g g L g m (ownL L none none none none none none (IsO (tabObj #[])) (IsO (tabObj #[]))) h →
  m (Str.ofString "script") = some (.ref sl) → g.IsList sl vs.toArray → RDs g vs (ns.map PyData.int) → ns.length ≤ 63 → PlainOk ns →
  (∀ h' t' Z' m' a b c d e f, St g g L Z' m' (ownL L a b c d e f GrO GrO) h' → Q (.ret (.bool true)) (sh s₀ h' t')) →
  wpAny (model prog w) A (execs body (envX (Str.ofString "law") scope L fa (.ref 399) (cellsFrom (L + 1) scope.names []))) Q E (sh s₀ h t)
noncomputable def bagsD (ns : List Int) : PyData := .list ((bagsAll (drOf ns)).map bagD)
noncomputable def thingsD (b : List (PyData × Str)) : PyData := .list (b.map (·.1))
noncomputable def listsD (ns : List Int) : PyData := .list ((bagsAll (drOf ns)).map thingsD)
/-- behind the first five statements -/
noncomputable def LawF5 (w : World) (body : List Stmt) (scope : Scope) : Prop := ∀ {prog : Program} {A : Around} {E : Value → Shared → Prop} {s₀ : Shared} {h g Z : Heap} {t : Nat} {L fa : Addr} {m : Str → Option Value} {Q : Flow → Shared → Prop} {la ln : Addr} {lsv lb : Value} {las : List Value} {ns : List Int},
  Gnd w g → GndL g → PrgOk prog → Rm A 60 200 → 400 < L → St g g L Z m ((ln, NtO 0) :: ownL L (some lb) none none none none (some (.ref ln)) (IsO (tabObj #[])) (IsO (tabObj #[]))) h →
  m (Str.ofString "asked") = some (.ref la) → m (Str.ofString "lists") = some lsv → Z.IsList la las.toArray → RDs Z las ((askedOf ns).map PyData.str) → RD Z lsv (listsD ns) → RD Z lb (bagsD ns) → PlainOk ns →
  (∀ h' t' Z' m' a b c d e f, St g g L Z' m' (ownL L a b c d e f GrO GrO) h' → Q (.ret (.bool true)) (sh s₀ h' t')) →
  wpAny (model prog w) A (execs (body.drop 5) (envX (Str.ofString "law") scope L fa (.ref 399) (cellsFrom (L + 1) scope.names []))) Q E (sh s₀ h t)
theorem bagsAll_len (dr : List (Int × PyData × Str)) : (bagsAll dr).length = 5 := rfl
theorem law_p1 {w : World} : ∀ {oc : Value} {od : Option Addr} {osl : Array (Option Value)} {name qual : Str} {params : Arguments} {body : List Stmt} {scope : Scope} {dV kV doc pm cdv ct : Value} {an : Option Addr},
      (heapK w.params).lookup 400 = some ⟨oc, od, .func (fnOf name qual params body scope dV kV doc pm an cdv ct), osl⟩ → (LawF5 w body scope → LawT w body scope) := by
  refine' lawEnter (T := fun body scope => LawF5 w body scope → LawT w body scope) ?ho ?g
  (case ho => k_is)
  intro F prog A E s₀ h g t L fa m Q sl vs ns G B P R hL S hsc il rs hns PO q
  have hvl := rs.len'
  repeat' ktr_member
  refine nLst S ?_; intro l0 h S
  repeat' ktr_member
  refine slcS S (IsL.keeps il S.zi) (by rw [hvl, sizeLine_eq]; omega) ?_; intro l1 h S
  repeat' ktr_member
  refine oAddL S (S.lst (.tail _ (.head _))) (S.lst (.head _)) (by simp only [List.length_cons, List.length_nil, List.length_take, sizeLine_eq]; omega) ?_; intro l2 h S
  refine ea3 ?_ (S.frzL .head); intro Z1 k1 i1 S
  have S := (S.drop .head).drop .head
  repeat' ktr_member
  refine drawn_spec (xs := xsOf ns) (G.keeps S.zx.le) S.zi ⟨R.hd, by have := R.dp; omega, by have := R.un; omega, R.gd, R.fr⟩ i1 (by rw [xsOf, List.map_append, List.map_take]; exact RDs.append (.cons (.int _ _) (.cons (.int _ _) (.cons (.int _ _) (.cons (.int _ _) (.cons (.int _ _) (.cons (.int _ _) (.cons (.int _ _) .nil))))))) ((rs.keeps k1).take 6)) (by unfold xsOf; simp only [List.length_append, List.length_cons, List.length_nil, List.length_take]; omega) ?_
  intro h t Z2 v2 z2 rdr
  have S := S.ext z2
  obtain ⟨ld, dvs, rfl, ild, rdd⟩ := rdr.lst_inv
  have hdr := PO.dr
  have rdd : RDs Z2 dvs ((drOf ns).map dD) := rdd
  have rdr : RD Z2 (.ref ld) (.list ((drOf ns).map dD)) := rdr
  repeat' ktr_member
  refine itLZ S ild ?_; intro it h S
  refine compGoU S (by decide) rfl (by kernel_rfl!) rfl rfl (fun h' t' Q' E' hh q' => ?_) ?_
  · obtain ⟨C, m', d, S'⟩ := hh
    exact itSelf S' (by (repeat (first | exact List.Mem.head _ | apply List.Mem.tail))) q'
  intro acc C h t R9 S k9
  refine loopTriple (xs := drOf ns) (f := fun x : Int × PyData × Str => PyData.int x.1) (g := fun x => x.2.1) (k' := fun x => PyData.str x.2.2) R.hd rfl rfl (by kernel_rfl!) (by kernel_rfl!) (by kernel_rfl!) (by kernel_rfl!) S ild rdd (by omega) fun h t m' las S rl => k9 _ _ _ _ _ _ S .head fun h t S => ?_
  refine ea3 ?_ (S.frzL .head); intro Z3 k3 i3 S
  have rl := rl.keeps k3
  have rdr := rdr.keeps k3
  repeat' ktr_member
  refine bags_spec (G.keeps S.zx.le) S.zi ⟨R.hd, by have := R.dp; omega, by have := R.un; omega, R.gd, R.fr⟩ rdr (by omega) ?_
  intro h t Z4 lb z4 rb
  have S := S.ext z4
  repeat' ktr_member
  obtain ⟨lbg, bvs, rfl, ilb, rbs⟩ := rb.lst_inv
  have hlen : ∀ b ∈ bagsAll (drOf ns), b.length ≤ 13 := fun b hb => by
    obtain ⟨k, hk, e⟩ := List.getElem_of_mem hb
    have := PO.len k
    unfold bagK at this
    rw [List.getD_eq_getElem?_getD, List.getElem?_eq_getElem hk] at this
    rw [← e]; exact this
  refine itLZ S ilb ?_; intro it h S
  refine compGoU S (by decide) rfl (by kernel_rfl!) rfl rfl (fun h' t' Q' E' hh q' => ?_) ?_
  · obtain ⟨C, m', d, S'⟩ := hh
    exact itSelf S' (by (repeat (first | exact List.Mem.head _ | apply List.Mem.tail))) q'
  intro acc2 C h t R9 S k9
  refine cloop (fun j h => ∃ Z5 m5 zs, Kp Z4 Z5 ∧ St _ _ _ Z5 m5 ((L, NsO _) :: (acc2, LstO zs) :: (it, LitO lbg j) :: ownL L (some (.ref lbg)) none none none none none (IsO (tabObj #[])) (IsO (tabObj #[]))) h ∧ RDs Z5 zs (((bagsAll (drOf ns)).take j).map thingsD)) (bagsAll (drOf ns)).length ⟨Z4, _, _, fun _ _ e => e, S, .nil⟩ ?item ?stop
  case item =>
    rintro j h t E4 hlt
    refine ex3 ?_; intro Z5 m5 zs
    refine an3 ?_; intro k5 S rz
    refine ea2 ?_ (rbs.at hlt); intro v hv rv
    refine nxL S (by (repeat (first | exact Rp.head | apply Rp.tail))) (IsL.keeps ilb fun b o e => S.zi b o (k5 b o e)) hv ?_; intro h S
    refine ⟨_, rfl, ?_⟩
    obtain ⟨l3, vs3, rfl, il3, rs3⟩ := (rv.keeps k5).lst_inv
    have hl3 := hlen _ (List.getElem_mem hlt)
    repeat' ktr_member
    refine itLZ S il3 ?_; intro it3 h S
    refine compGo S (by decide) rfl (fun h' t' Q' E' hh q' => ?_) ?_
    · obtain ⟨C, m', d, S'⟩ := hh
      exact itSelf S' (by (repeat (first | exact List.Mem.head _ | apply List.Mem.tail))) q'
    intro acc3 C3 h t R8 S k8
    refine loopPair (xs := (bagsAll (drOf ns))[j]) (f := fun x : PyData × Str => x.1) (g := fun x => PyData.str x.2) (sel := true) R.hd rfl rfl (by kernel_rfl!) (by kernel_rfl!) (by kernel_rfl!) (by kernel_rfl!) (fun m x y => (upd_n (by kernel_rfl!) upd_s)) S il3 rs3 (by omega) fun h t m' ys S ry => k8 _ _ _ _ _ _ S .head fun h S => ?_
    refine ea3 ?_ (S.frzL .head); intro Z6 k6 i6 S
    have hz := rz.len'
    rw [List.length_take] at hz
    have h5 : (bagsAll (drOf ns)).length = 5 := rfl
    refine apL S (by (repeat (first | exact Rp.head | apply Rp.tail))) (by rw [sizeLine_eq]; omega) ?_; intro h S
    refine ⟨_, _, rfl, ix3 (a := Z6) (in3 (fun b o q => k6 b o (k5 b o q)) S ?_)⟩
    rw [take_snoc hlt, List.map_append]
    exact (rz.keeps k6).append (.cons (.lst i6 (ry.keeps k6)) .nil)
  case stop =>
    rintro h t E4
    refine ex3 ?_; intro Z5 m5 zs
    refine an3 ?_; intro k5 S rz
    refine nxLe S R.hd (by (repeat (first | exact Dl.head | apply Dl.tail))) (IsL.keeps ilb fun b o e => S.zi b o (k5 b o e)) (by rw [List.getElem?_eq_none]; rw [rbs.len']; exact Nat.le_refl _) ?_; intro h S
    refine ⟨rfl, k9 _ _ _ _ _ _ S .head ?_⟩
    intro h t S
    rw [List.take_of_length_le (Nat.le_refl _)] at rz
    refine ea3 ?_ (S.frzL .head); intro Z6 k6 i6 S
    repeat' ktr_member
    refine nLst S ?_; intro ln h S
    repeat' ((fail_if_success (with_reducible show wpAny _ _ (execs _ _) _ _ _)); ktr_member)
    have S := S.cast (P := LstO []) (P' := NtO 0) .head fun o _ p => ⟨[], rfl, p⟩
    have rl : RDs Z3 las ((askedOf ns).map PyData.str) := by unfold askedOf; rw [List.map_map]; exact rl
    refine F (ns := ns) (G) B P R hL S (by (repeat (first | with_reducible exact upd_s | with_reducible exact mOf_s | with_reducible assumption | with_reducible refine upd_n (by kernel_rfl!) ?_ | with_reducible refine mOf_n (by kernel_rfl!) ?_))) (by (repeat (first | with_reducible exact upd_s | with_reducible exact mOf_s | with_reducible assumption | with_reducible refine upd_n (by kernel_rfl!) ?_ | with_reducible refine mOf_n (by kernel_rfl!) ?_))) (IsL.keeps i3 fun b o e => k6 b o (k5 b o (z4.le b o e))) (rl.keeps fun b o e => k6 b o (k5 b o (z4.le b o e))) (.lst i6 (rz.keeps k6)) (rb.keeps fun b o e => k6 b o (k5 b o e)) PO q
noncomputable abbrev own10 (w : World) (prog : Program) (L : Addr) (lb : Value) (x1 d1 l1 x2 d2 l2 ln : Addr) (b1 b2 : List (Str × Int)) (n : Nat) (D2 : OP) (stored k : Option Value) (T1 : OP) : Own :=
  (x2, BkI w prog (.ref l2) d2 b2) :: (d2, D2) :: (x1, BkI w prog (.ref l1) d1 b1) :: (d1, DxP false 0) :: (ln, NtO n) :: ownL L (some lb) (some (.ref x1)) (some (.ref x2)) stored k (some (.ref ln)) T1 GrO
/-- behind the first ten statements -/
noncomputable def LawF10 (w : World) (body : List Stmt) (scope : Scope) : Prop := ∀ {prog : Program} {A : Around} {E : Value → Shared → Prop} {s₀ : Shared} {h g Z : Heap} {t : Nat} {L fa : Addr} {m : Str → Option Value} {Q : Flow → Shared → Prop} {la ln x1 d1 l1 x2 d2 l2 lk ls : Addr} {lsv lb : Value} {las : List Value} {ns : List Int} {tk : Tok},
  Gnd w g → GndL g → PrgOk prog → Rm A 60 200 → 400 < L → St g g L Z m (own10 w prog L lb x1 d1 l1 x2 d2 l2 ln [] [] 0 (DxP false 0) (some (.ref ls)) none (IsO (tabObj #[]))) h →
  3 < x1 → x1 ≠ 108 → 3 < x2 → x2 ≠ 108 → FacAt Z l1 (L + 1 + 1 + 1 + 1 + 1 + 1) → FacAt Z l2 (L + 1 + 1 + 1 + 1 + 1 + 1) →
  m (Str.ofString "asked") = some (.ref la) → m (Str.ofString "lists") = some lsv → m (Str.ofString "kept") = some (.ref lk) → m (Str.ofString "vain") = some (.int 0 tk) → RD Z (.ref lk) (.list []) → RD Z (.ref ls) (.list []) → Z.IsList la las.toArray → RDs Z las ((askedOf ns).map PyData.str) → RD Z lsv (listsD ns) → RD Z lb (bagsD ns) → PlainOk ns →
  (∀ h' t' Z' m' a b c d e f, St g g L Z' m' (ownL L a b c d e f GrO GrO) h' → Q (.ret (.bool true)) (sh s₀ h' t')) →
  wpAny (model prog w) A (execs (body.drop 10) (envX (Str.ofString "law") scope L fa (.ref 399) (cellsFrom (L + 1) scope.names []))) Q E (sh s₀ h t)
theorem law_p2 {w : World} : ∀ {oc : Value} {od : Option Addr} {osl : Array (Option Value)} {name qual : Str} {params : Arguments} {body : List Stmt} {scope : Scope} {dV kV doc pm cdv ct : Value} {an : Option Addr},
      (heapK w.params).lookup 400 = some ⟨oc, od, .func (fnOf name qual params body scope dV kV doc pm an cdv ct), osl⟩ → (LawF10 w body scope → LawF5 w body scope) := by
  refine' lawEnter (T := fun body scope => LawF10 w body scope → LawF5 w body scope) ?ho ?g
  (case ho => k_is)
  intro F prog A E s₀ h g Z t L fa m Q la ln lsv lb las ns G B P R hL S hm1 hm2 il rl rls rlb PO q
  have B' := B
  obtain ⟨mg, bm, ob, _, _, _, _, _, _, _, _, hcd⟩ := B'
  obtain ⟨o108, e108⟩ : ∃ o, g.get? 108 = some o := by obtain ⟨oc, od, cd, sl, e, _⟩ := (tmb (M := model prog w) G.X).obj; exact ⟨_, e⟩
  have hgt : ∀ {h : Heap} {Z m own}, St g g L Z m own h → 3 < h.objs.size := fun S => Nat.lt_of_lt_of_le (Nat.lt_trans (by omega) hL) (Nat.le_of_lt S.Llt)
  show wpAny _ _ (execs (_ :: _) _) _ _ _
  repeat' ktr_member
  refine' mkLam (own' := fun P' => (ln, NtO 0) :: [(L + 1 + 1 + 1 + 1 + 1 + 1, CellO (some (.ref ln))), (L + 1 + 1 + 1 + 1 + 1, CellO none), (L + 1 + 1 + 1 + 1, CellO none), (L + 1 + 1 + 1, CellO none), (L + 1 + 1, CellO none), (L + 1, CellO (some lb)), (100, IsO (tabObj #[])), (397, P')]) (ps := #[]) (P := 397) (c := 399) (clos := [(Str.ofString "notes", L + 1 + 1 + 1 + 1 + 1 + 1)]) B S hcd (by decide) rfl ?hcl rfl rfl trivial rfl (fun P' => by (repeat (first | exact Rp.head | apply Rp.tail))) ?_
  (case hcl => exact rfl)
  intro l1 c1 h t Z1 k1 fa1 S
  have fa1 : FacAt Z1 l1 _ := ⟨_, _, _, _, fa1⟩
  repeat' ktr_member
  obtain ⟨qu, q1, q2, q3, pm, cc, ctv, el, _⟩ := id fa1
  refine cBook G S el rfl rfl (hgt S) ?_
  intro x1 d1 h hx3 hxd S
  have hx108 : x1 ≠ 108 := fun e => by have := (S.ow _ (.head _)).2.2.1; dsimp only at this; rw [e, e108] at this; cases this
  have S := S.cast (P' := BkI w prog (.ref l1) d1 []) .head fun o _ p => ⟨[], .nil, p⟩
  repeat' ktr_member
  refine' mkLam (own' := fun P' => (x1, BkI w prog (.ref l1) d1 []) :: (d1, IsO emptyDict) :: (ln, NtO 0) :: [(L + 1 + 1 + 1 + 1 + 1 + 1, CellO (some (.ref ln))), (L + 1 + 1 + 1 + 1 + 1, CellO none), (L + 1 + 1 + 1 + 1, CellO none), (L + 1 + 1 + 1, CellO none), (L + 1 + 1, CellO (some (.ref x1))), (L + 1, CellO (some lb)), (100, IsO (tabObj #[])), (397, P')]) (ps := _) (P := 397) (c := 399) (clos := [(Str.ofString "notes", L + 1 + 1 + 1 + 1 + 1 + 1)]) B S hcd (by decide) rfl ?hcl2 rfl rfl ?ht2 ?hn2 (fun P' => by (repeat (first | exact Rp.head | apply Rp.tail))) ?_
  (case hcl2 => exact rfl)
  (case ht2 => trivial)
  (case hn2 => rfl)
  intro l2 c2 h t Z2 k2 fa2 S
  have fa1 := fa1.keeps k2
  have fa2 : FacAt Z2 l2 _ := ⟨_, _, _, _, fa2⟩
  repeat' ktr_member
  obtain ⟨qu2, q12, q22, q32, pm2, cc2, ctv2, el2, _⟩ := id fa2
  refine cBook G S el2 rfl rfl (hgt S) ?_
  intro x2 d2 h hx32 hxd2 S
  have hx1082 : x2 ≠ 108 := fun e => by have := (S.ow _ (.head _)).2.2.1; dsimp only at this; rw [e, e108] at this; cases this
  have S := S.cast (P' := BkI w prog (.ref l2) d2 []) .head fun o _ p => ⟨[], .nil, p⟩
  repeat' ktr_member
  refine nLstZ S ?_; intro lk h Z3 k3 i3 S
  repeat' ktr_member
  refine nLstZ S ?_; intro ls h Z4 k4 i4 S
  repeat' ((fail_if_success (with_reducible show wpAny _ _ (execs _ _) _ _ _)); ktr_member)
  refine xsC ?_
  repeat' ((fail_if_success (with_reducible show wpAny _ _ (execs _ _) _ _ _)); ktr_member)
  have S := S.cast (a := 397) (P := IsO (tabObj _)) (P' := GrO) (by (repeat (first | exact Rp.head | apply Rp.tail))) fun o _ p => ⟨_, p⟩
  have kk : ∀ b o, Z.get? b = some o → Z4.get? b = some o := fun b o e => k4 b o (k3 b o (k2 b o (k1 b o e)))
  have S : St g g L Z4 _ (own10 w prog L lb x1 d1 l1 x2 d2 l2 ln [] [] 0 (DxP false 0) (some (.ref ls)) none (IsO (tabObj #[]))) h := S
  refine F (ns := ns) G B P R hL S hx3 hx108 hx32 hx1082 (fa1.keeps fun b o e => k4 b o (k3 b o e)) (fa2.keeps fun b o e => k4 b o (k3 b o e)) (by (repeat (first | with_reducible exact upd_s | with_reducible exact mOf_s | with_reducible assumption | with_reducible refine upd_n (by kernel_rfl!) ?_ | with_reducible refine mOf_n (by kernel_rfl!) ?_))) (by (repeat (first | with_reducible exact upd_s | with_reducible exact mOf_s | with_reducible assumption | with_reducible refine upd_n (by kernel_rfl!) ?_ | with_reducible refine mOf_n (by kernel_rfl!) ?_))) (by (repeat (first | with_reducible exact upd_s | with_reducible exact mOf_s | with_reducible assumption | with_reducible refine upd_n (by kernel_rfl!) ?_ | with_reducible refine mOf_n (by kernel_rfl!) ?_))) (by (repeat (first | with_reducible exact upd_s | with_reducible exact mOf_s | with_reducible assumption | with_reducible refine upd_n (by kernel_rfl!) ?_ | with_reducible refine mOf_n (by kernel_rfl!) ?_))) (.lst (IsL.keeps i3 k4) .nil) (.lst i4 .nil) (IsL.keeps il kk) (rl.keeps kk) (rls.keeps kk) (rlb.keeps kk) PO q
noncomputable def inFor : List Stmt → List Stmt
  | .For _ _ b _ _ :: _ => b
  | _ => []
noncomputable def TabP : Bool → OP
  | true => GrO
  | false => IsO (tabObj #[])
theorem layS_len (acc : List Str) (x : Str) : (layS acc x).length ≤ acc.length + 1 := by unfold layS; split <;> simp
theorem laid_len (more : List Str) : ∀ ws : List Str, (laid ws more).length ≤ ws.length + more.length := by
  induction more with
  | nil => intro ws; exact Nat.le_refl _
  | cons x r ih =>
    intro ws
    have := ih (layS ws x)
    have h2 := layS_len ws x
    show (laid (layS ws x) r).length ≤ _
    rw [List.length_cons]; omega
theorem laid_mem {x : Str} (more : List Str) : ∀ ws : List Str, x ∈ laid ws more ↔ x ∈ ws ∨ x ∈ more := by
  induction more with
  | nil => intro ws; simp [laid]
  | cons y r ih =>
    intro ws
    show x ∈ laid (layS ws y) r ↔ _
    rw [ih]
    unfold layS
    by_cases hy : y ∈ ws
    · rw [if_pos hy, List.mem_cons]
      constructor
      · rintro (h | h)
        · exact .inl h
        · exact .inr (.inr h)
      · rintro (h | rfl | h)
        · exact .inl h
        · exact .inl hy
        · exact .inr h
    · rw [if_neg hy, List.mem_append, List.mem_singleton, List.mem_cons]
      constructor
      · rintro ((h | h) | h)
        · exact .inl h
        · exact .inr (.inl h)
        · exact .inr (.inr h)
      · rintro (h | h | h)
        · exact .inl (.inl h)
        · exact .inl (.inr h)
        · exact .inr h
theorem readAll_len (frz : Bool) (ws : List Str) : ∀ st : List Int × List (Str × Int) × Nat, (ws.foldl (readStep frz) st).2.1.length ≤ st.2.1.length + ws.length ∧ (ws.foldl (readStep frz) st).2.2 ≤ st.2.2 + ws.length := by
  induction ws with
  | nil => intro st; exact ⟨Nat.le_refl _, Nat.le_refl _⟩
  | cons x r ih =>
    intro st
    obtain ⟨a, b⟩ := ih (readStep frz st x)
    obtain ⟨g1, g2⟩ := bkGet_len frz st.2.1 x
    have e1 : (readStep frz st x).2.1.length ≤ st.2.1.length + 1 := g1
    have e2 : (readStep frz st x).2.2 ≤ st.2.2 + 1 := Nat.add_le_add_left g2 _
    rw [List.foldl_cons, List.length_cons]
    exact ⟨by omega, by omega⟩
structure SzOk (s : LSt) (k : Nat) : Prop where
  b1 : s.b1.length ≤ 1000 * k
  b2 : s.b2.length ≤ 1000 * k
  n : s.n ≤ 1000 * k
  kept : s.kept.length ≤ 100 * k
  stored : s.stored.length ≤ 100 * k
  vain : s.vain ≤ 100 * k
  ks : ∀ x ∈ s.kept, PyData.strOk x = true
  ss : ∀ x ∈ s.stored, PyData.strOk x = true
theorem asked_len {ns : List Int} (P : PlainOk ns) : (askedOf ns).length ≤ 13 := by unfold askedOf; rw [List.length_map]; exact P.dr
theorem words_ok {ns : List Int} (P : PlainOk ns) (k : Nat) : ∀ x ∈ (csK ns k).map (·.2.2), PyData.strOk x = true := fun x hx => by
  obtain ⟨c, hc, rfl⟩ := List.mem_map.mp hx
  exact (P.cso k c hc).1
theorem read1_len {ns : List Int} (P : PlainOk ns) {k : Nat} {s : LSt} (z : SzOk s k) : (add1 ns k s).1.length ≤ 1000 * k + 100 ∧ (add1 ns k s).2 ≤ 1000 * k + 100 ∧ (add2 ns k s).1.length ≤ 1000 * k + 100 ∧ (add2 ns k s).2 ≤ 1000 * k + 200 ∧
    (read1 ns k s).2.1.length ≤ 1000 * k + 200 ∧ (read1 ns k s).2.2 ≤ 1000 * k + 300 ∧ (read2 ns k s).2.1.length ≤ 1000 * k + 200 ∧ (read2 ns k s).2.2 ≤ 1000 * k + 400 := by
  have hc := P.csn k
  have ha := asked_len P
  have z1 := z.b1
  have z2 := z.b2
  have z3 := z.n
  obtain ⟨a1, a2⟩ := addAll_len false (csK ns k) (s.b1, s.n)
  obtain ⟨a3, a4⟩ := addAll_len (decide (0 < k)) (csK ns k) (s.b2, (add1 ns k s).2)
  obtain ⟨a5, a6⟩ := readAll_len false (askedOf ns) ([], (add1 ns k s).1, (add2 ns k s).2)
  obtain ⟨a7, a8⟩ := readAll_len true (askedOf ns) ([], (add2 ns k s).1, (read1 ns k s).2.2)
  have b1 : (add1 ns k s).1.length ≤ 1000 * k + 100 := by unfold add1; dsimp only at a1; omega
  have b2 : (add1 ns k s).2 ≤ 1000 * k + 100 := by unfold add1; dsimp only at a2; omega
  have b3 : (add2 ns k s).1.length ≤ 1000 * k + 100 := by unfold add2; dsimp only at a3; omega
  have b4 : (add2 ns k s).2 ≤ 1000 * k + 200 := by unfold add2; dsimp only at a4; omega
  have b5 : (read1 ns k s).2.1.length ≤ 1000 * k + 200 := by unfold read1 readAll; dsimp only at a5; omega
  have b6 : (read1 ns k s).2.2 ≤ 1000 * k + 300 := by unfold read1 readAll; dsimp only at a6; omega
  have b7 : (read2 ns k s).2.1.length ≤ 1000 * k + 200 := by unfold read2 readAll; dsimp only at a7; omega
  have b8 : (read2 ns k s).2.2 ≤ 1000 * k + 400 := by unfold read2 readAll; dsimp only at a8; omega
  exact ⟨b1, b2, b3, b4, b5, b6, b7, b8⟩
theorem roundK_sz {ns : List Int} (P : PlainOk ns) {k : Nat} {s : LSt} (z : SzOk s k) : SzOk (roundK ns k s) (k + 1) := by
  obtain ⟨_, _, _, _, b5, b6, b7, b8⟩ := read1_len P z
  have hc := P.csn k
  have ha := asked_len P
  have l1 := laid_len ((csK ns k).map (·.2.2)) s.kept
  have l2 := laid_len (askedOf ns) (laid s.kept ((csK ns k).map (·.2.2)))
  have l3 := laid_len ((csK ns k).map (·.2.2)) s.stored
  have l4 := List.length_filter_le (fun one => !decide (one ∈ laid s.stored ((csK ns k).map (·.2.2)))) (askedOf ns)
  rw [List.length_map] at l1 l3
  have z4 := z.kept
  have z5 := z.stored
  have z6 := z.vain
  refine ⟨?_, ?_, ?_, ?_, ?_, ?_, fun x hx => ?_, fun x hx => ?_⟩
  · show (read1 ns k s).2.1.length ≤ _; omega
  · show (read2 ns k s).2.1.length ≤ _; omega
  · show (read2 ns k s).2.2 ≤ _; omega
  · show (laid (laid s.kept ((csK ns k).map (·.2.2))) (askedOf ns)).length ≤ _; omega
  · show (laid s.stored ((csK ns k).map (·.2.2))).length ≤ _; omega
  · show s.vain + ((askedOf ns).filter fun one => !decide (one ∈ laid s.stored ((csK ns k).map (·.2.2)))).length ≤ _; omega
  · rcases (laid_mem _ _).mp hx with hx | hx
    · rcases (laid_mem _ _).mp hx with hx | hx
      · exact z.ks _ hx
      · exact words_ok P k _ hx
    · exact P.asked _ hx
  · rcases (laid_mem _ _).mp hx with hx | hx
    · exact z.ss _ hx
    · exact words_ok P k _ hx
structure RIn (ns : List Int) (m : Str → Option Value) (Z : Heap) (la : Addr) (las : List Value) (lsv lb kv stv : Value) (s : LSt) : Prop where
  asked : m (Str.ofString "asked") = some (.ref la)
  lists : m (Str.ofString "lists") = some lsv
  kept : m (Str.ofString "kept") = some kv
  vain : ∃ tk, m (Str.ofString "vain") = some (.int s.vain tk)
  il : Z.IsList la las.toArray
  rl : RDs Z las ((askedOf ns).map PyData.str)
  rls : RD Z lsv (listsD ns)
  rlb : RD Z lb (bagsD ns)
  rk : RD Z kv (.list (s.kept.map PyData.str))
  rst : RD Z stv (.list (s.stored.map PyData.str))
noncomputable abbrev ownR (w : World) (prog : Program) (L : Addr) (rit rg : Addr) (i : Nat) (lb : Value) (x1 d1 l1 x2 d2 l2 ln : Addr) (b1 b2 : List (Str × Int)) (n : Nat) (D2 : OP) (stored k : Option Value) (T1 : OP) : Own :=
  (rit, RitE i 4) :: (rg, RngO 0 4) :: own10 w prog L lb x1 d1 l1 x2 d2 l2 ln b1 b2 n D2 stored k T1
noncomputable abbrev cNotes (L : Addr) : Addr := L + 1 + 1 + 1 + 1 + 1 + 1
/-- a round -/
noncomputable def Rd0 (w : World) (body : List Stmt) (scope : Scope) : Prop := ∀ {prog : Program} {A : Around} {E : Value → Shared → Prop} {s₀ : Shared} {h g Z : Heap} {t : Nat} {L fa : Addr} {m : Str → Option Value} {Q : Flow → Shared → Prop} {la ln x1 d1 l1 x2 d2 l2 rit rg fz : Addr} {lsv lb kv stv : Value} {las : List Value} {ns : List Int} {k i : Nat} {tk : Tok} {s : LSt},
  Gnd w g → GndL g → PrgOk prog → Rm A 60 200 → St g g L Z m (ownR w prog L rit rg i lb x1 d1 l1 x2 d2 l2 ln s.b1 s.b2 s.n (DxP (decide (0 < k)) fz) (some stv) (some (.int k tk)) (TabP (decide (0 < k)))) h →
  3 < x1 → x1 ≠ 108 → 3 < x2 → x2 ≠ 108 → FacAt Z l1 (cNotes L) → FacAt Z l2 (cNotes L) → (decide (0 < k) = true → FrzAt Z fz x2) →
  RIn ns m Z la las lsv lb kv stv s → PlainOk ns → k < 4 → s = stAt ns k → SzOk s k →
  (∀ h' t' Z' m' fz' kv' stv', Kp Z Z' → St g g L Z' m' (ownR w prog L rit rg i lb x1 d1 l1 x2 d2 l2 ln (roundK ns k s).b1 (roundK ns k s).b2 (roundK ns k s).n (DxP true fz') (some stv') (some (.int k tk)) (TabP true)) h' →
    FrzAt Z' fz' x2 → RIn ns m' Z' la las lsv lb kv' stv' (roundK ns k s) → Q .next (sh s₀ h' t')) →
  wpAny (model prog w) A (execs (inFor (body.drop 10)) (envX (Str.ofString "law") scope L fa (.ref 399) (cellsFrom (L + 1) scope.names []))) Q E (sh s₀ h t)
/-- behind the loop -/
noncomputable def LawF11 (w : World) (body : List Stmt) (scope : Scope) : Prop := ∀ {prog : Program} {A : Around} {E : Value → Shared → Prop} {s₀ : Shared} {h g Z : Heap} {t : Nat} {L fa : Addr} {m : Str → Option Value} {Q : Flow → Shared → Prop} {la ln x1 d1 l1 x2 d2 l2 fz rg : Addr} {lsv lb kv stv : Value} {las : List Value} {ns : List Int} {kc : Option Value} {s : LSt},
  Gnd w g → GndL g → PrgOk prog → Rm A 60 200 → St g g L Z m ((rg, RngO 0 4) :: own10 w prog L lb x1 d1 l1 x2 d2 l2 ln s.b1 s.b2 s.n (DxP true fz) (some stv) kc GrO) h →
  3 < x1 → x1 ≠ 108 → 3 < x2 → x2 ≠ 108 → RIn ns m Z la las lsv lb kv stv s → PlainOk ns → s = stAt ns 4 → SzOk s 4 →
  (∀ h' t' Z' m' a b c d e f, St g g L Z' m' (ownL L a b c d e f GrO GrO) h' → Q (.ret (.bool true)) (sh s₀ h' t')) →
  wpAny (model prog w) A (execs (body.drop 11) (envX (Str.ofString "law") scope L fa (.ref 399) (cellsFrom (L + 1) scope.names []))) Q E (sh s₀ h t)
theorem stAt_sz {ns : List Int} (P : PlainOk ns) : ∀ k, SzOk (stAt ns k) k
  | 0 => ⟨Nat.zero_le _, Nat.zero_le _, Nat.zero_le _, Nat.zero_le _, Nat.zero_le _, Nat.zero_le _, fun _ h => (nomatch h), fun _ h => (nomatch h)⟩
  | k + 1 => roundK_sz P (stAt_sz P k)
theorem law_p3 {w : World} : ∀ {oc : Value} {od : Option Addr} {osl : Array (Option Value)} {name qual : Str} {params : Arguments} {body : List Stmt} {scope : Scope} {dV kV doc pm cdv ct : Value} {an : Option Addr},
      (heapK w.params).lookup 400 = some ⟨oc, od, .func (fnOf name qual params body scope dV kV doc pm an cdv ct), osl⟩ → (Rd0 w body scope → LawF11 w body scope → LawF10 w body scope) := by
  refine' lawEnter (T := fun body scope => Rd0 w body scope → LawF11 w body scope → LawF10 w body scope) ?ho ?g
  (case ho => k_is)
  intro F F' prog A E s₀ h g Z t L fa m Q la ln x1 d1 l1 x2 d2 l2 lk ls lsv lb las ns tk G B P R hL S hx1 hx108 hx2 hx1082 fa1 fa2 hm1 hm2 hm3 hm4 rk rst il rl rls rlb PO q
  show wpAny _ _ (execs (_ :: _) _) _ _ _
  repeat' ktr_member
  refine cRange1 S ?_; intro rg h t S
  refine itRE (x := 0) (e := 4) S (.head _) rfl rfl (by decide) (by decide) ?_; intro it h S
  intro E2
  refine floop (fun k h => ∃ Z' m' fz kv stv kc, Kp Z Z' ∧ St g g L Z' m' (ownR w prog L it rg k lb x1 d1 l1 x2 d2 l2 ln (stAt ns k).b1 (stAt ns k).b2 (stAt ns k).n (DxP (decide (0 < k)) fz) (some stv) kc (TabP (decide (0 < k)))) h ∧
    (decide (0 < k) = true → FrzAt Z' fz x2) ∧ RIn ns m' Z' la las lsv lb kv stv (stAt ns k)) 4 (ix6 (a := Z) (c := 0) (in4 (fun _ _ e => e) S (fun e => (nomatch e)) ⟨hm1, hm2, hm3, ⟨_, hm4⟩, il, rl, rls, rlb, rk, rst⟩)) ?item ?stop
  case item =>
    rintro k h t E3 hlt
    refine ex6 ?_; intro Z' m' fz kv stv kc
    refine an4 ?_; intro kz S hfz I
    refine nxRE S (by (repeat (first | exact Rp.head | apply Rp.tail))) hlt ?_; intro h tk t S
    refine ⟨_, rfl, asN ?_⟩
    refine' stC S ?hu ?_; (case hu => (repeat (first | exact Rp.head | apply Rp.tail))); clear S; intro h t S
    refine F G B P R S hx1 hx108 hx2 hx1082 (fa1.keeps kz) (fa2.keeps kz) hfz I PO hlt rfl (stAt_sz PO k) ?_
    intro h' t' Z2 m2 fz' kv' stv' kz2 S hfz' I'
    exact ⟨.inl rfl, _, _, rfl, ix6 (a := Z2) (b := m2) (c := fz') (d := kv') (e := stv') (in4 (fun b o e => kz2 b o (kz b o e)) S (fun _ => hfz') I')⟩
  case stop =>
    rintro h t E3
    refine ex6 ?_; intro Z' m' fz kv stv kc
    refine an4 ?_; intro kz S hfz I
    refine nxREe S R.hd (by (repeat (first | exact Dl.head | apply Dl.tail))) (Nat.le_refl _) ?_; intro h S
    refine ⟨rfl, ?_⟩
    refine aft_next ?_
    exact F' G B P R S hx1 hx108 hx2 hx1082 I PO rfl (stAt_sz PO 4) q
structure RDue (ns : List Int) (k : Nat) (m : Str → Option Value) (Z : Heap) (dv : Value) (lp : Addr) (pvs : List Value) : Prop where
  due : m (Str.ofString "due") = some dv
  rd : RD Z dv (.list (((csK ns k).map chgP).map dueD))
  pairs : m (Str.ofString "pairs") = some (.ref lp)
  il : Z.IsList lp pvs.toArray
  pr : PrsAt Z pvs ((csK ns k).map chgP)
/-- the round behind its first four statements -/
noncomputable def Rd4 (w : World) (body : List Stmt) (scope : Scope) : Prop := ∀ {prog : Program} {A : Around} {E : Value → Shared → Prop} {s₀ : Shared} {h g Z : Heap} {t : Nat} {L fa : Addr} {m : Str → Option Value} {Q : Flow → Shared → Prop} {la ln x1 d1 l1 x2 d2 l2 rit rg fz lp : Addr} {lsv lb kv stv dv : Value} {las pvs : List Value} {ns : List Int} {k i : Nat} {tk : Tok} {s : LSt},
  Gnd w g → GndL g → PrgOk prog → Rm A 60 200 → St g g L Z m (ownR w prog L rit rg i lb x1 d1 l1 x2 d2 l2 ln s.b1 s.b2 s.n (DxP (decide (0 < k)) fz) (some stv) (some (.int k tk)) (TabP (decide (0 < k)))) h →
  3 < x1 → x1 ≠ 108 → 3 < x2 → x2 ≠ 108 → FacAt Z l1 (cNotes L) → FacAt Z l2 (cNotes L) → (decide (0 < k) = true → FrzAt Z fz x2) →
  RIn ns m Z la las lsv lb kv stv s → RDue ns k m Z dv lp pvs → PlainOk ns → k < 4 → s = stAt ns k → SzOk s k →
  (∀ h' t' Z' m' fz' kv' stv', Kp Z Z' → St g g L Z' m' (ownR w prog L rit rg i lb x1 d1 l1 x2 d2 l2 ln (roundK ns k s).b1 (roundK ns k s).b2 (roundK ns k s).n (DxP true fz') (some stv') (some (.int k tk)) (TabP true)) h' →
    FrzAt Z' fz' x2 → RIn ns m' Z' la las lsv lb kv' stv' (roundK ns k s) → Q .next (sh s₀ h' t')) →
  wpAny (model prog w) A (execs ((inFor (body.drop 10)).drop 4) (envX (Str.ofString "law") scope L fa (.ref 399) (cellsFrom (L + 1) scope.names []))) Q E (sh s₀ h t)
theorem Rm.le' {A : Around} {d u : Nat} (R : Rm A 60 200) (h1 : d ≤ 60) (h2 : u ≤ 200) : Rm A d u := ⟨R.hd, by have := R.dp; omega, by have := R.un; omega, R.gd, R.fr⟩
theorem bag_at {ns : List Int} {k : Nat} (hk : k < 5) {α : Type} (f : List (PyData × Str) → α) : ((bagsAll (drOf ns)).map f)[k]? = some (f (bagK ns k)) := map_get [] hk
theorem RIn.keeps {ns : List Int} {m : Str → Option Value} {Z Z' : Heap} {la : Addr} {las : List Value} {lsv lb kv stv : Value} {s : LSt} (I : RIn ns m Z la las lsv lb kv stv s) (k : Kp Z Z') {m' : Str → Option Value}
    (h1 : m' (Str.ofString "asked") = m (Str.ofString "asked")) (h2 : m' (Str.ofString "lists") = m (Str.ofString "lists")) (h3 : m' (Str.ofString "kept") = m (Str.ofString "kept")) (h4 : m' (Str.ofString "vain") = m (Str.ofString "vain")) : RIn ns m' Z' la las lsv lb kv stv s :=
  ⟨h1.trans I.asked, h2.trans I.lists, h3.trans I.kept, I.vain.imp fun _ e => h4.trans e, IsL.keeps I.il k, I.rl.keeps k, I.rls.keeps k, I.rlb.keeps k, I.rk.keeps k, I.rst.keeps k⟩
theorem neRD {prog : Program} {w : World} {A : Around} {E : Value → Shared → Prop} {a b : Value} {da db : PyData} {Q : Value → Shared → Prop} {s : Shared} (ra : RD s.heap a da) (rb : RD s.heap b db) (ha : da.canLay0 = true) (hb : db.canLay0 = true) (hu : A.units + db.depth < 9900) (q : Q (.bool (!PyData.eqv da db)) s) :
    wpAny (model prog w) A (compareOp .NotEq a b) Q E s := let ⟨_, ra⟩ := ra; let ⟨_, rb⟩ := rb; PySem.SeqAt.compareNe_reads ra rb ha hb (by have := Nat.min_le_right da.depth db.depth; show _ < 9900; omega) q
theorem law_r1 {w : World} : ∀ {oc : Value} {od : Option Addr} {osl : Array (Option Value)} {name qual : Str} {params : Arguments} {body : List Stmt} {scope : Scope} {dV kV doc pm cdv ct : Value} {an : Option Addr},
      (heapK w.params).lookup 400 = some ⟨oc, od, .func (fnOf name qual params body scope dV kV doc pm an cdv ct), osl⟩ → (Rd4 w body scope → Rd0 w body scope) := by
  refine' lawEnter (T := fun body scope => Rd4 w body scope → Rd0 w body scope) ?ho ?g
  (case ho => k_is)
  intro F prog A E s₀ h g Z t L fa m Q la ln x1 d1 l1 x2 d2 l2 rit rg fz lsv lb kv stv las ns k i kt s G B P R S hx1 hx108 hx2 hx1082 fa1 fa2 hfz I PO hk hs hz q
  have hm1 := I.asked
  have hm2 := I.lists
  have hm3 := I.kept
  obtain ⟨tv, hm4⟩ := I.vain
  have l1' := PO.len k
  have l2' := PO.len (k + 1)
  have hk63 : (k : Int) < 2 ^ 63 := by omega
  show wpAny _ _ (execs (_ :: _) _) _ _ _
  repeat' ktr_member
  refine sRDl S I.rlb (Int.natCast_nonneg _) hk63 (d := bagD (bagK ns k)) (by rw [Int.toNat_natCast]; exact bag_at (by omega) bagD) ?_; intro bv1 rb1
  repeat' ktr_member
  refine sRDl S I.rlb (by omega) (by omega) (d := bagD (bagK ns (k + 1))) (by rw [show ((k : Int) + 1).toNat = k + 1 by omega]; exact bag_at (by omega) bagD) ?_; intro bv2 rb2
  repeat' ktr_member
  refine due_spec (G.keeps S.zx.le) S.zi (R.le' (by decide) (by decide)) rb1 rb2 (by omega) (by omega) (fun p hp => by
    rcases List.mem_append.mp hp with hp | hp
    · exact (PO.good k p hp).2.2.1
    · exact (PO.good (k + 1) p hp).2.2.1) ?_
  intro h t Z1 dv z1 rd
  rw [PO.due] at rd
  have S := S.ext z1
  have I1 := I.keeps z1.le (m' := m) rfl rfl rfl rfl
  repeat' ktr_member
  refine sRDl S I1.rls (Int.natCast_nonneg _) hk63 (d := thingsD (bagK ns k)) (by rw [Int.toNat_natCast]; exact bag_at (by omega) thingsD) ?_; intro bv3 rb3
  repeat' ktr_member
  refine sRDl S I1.rls (by omega) (by omega) (d := thingsD (bagK ns (k + 1))) (by rw [show ((k : Int) + 1).toNat = k + 1 by omega]; exact bag_at (by omega) thingsD) ?_; intro bv4 rb4
  repeat' ktr_member
  refine cdiff_spec (old := thingsK ns k) (new := thingsK ns (k + 1)) (G.keeps S.zx.le) S.zi (R.le' (by decide) (by decide)) rb3 rb4 (by unfold thingsK; rw [List.length_map]; omega) (by unfold thingsK; rw [List.length_map]; omega) (fun d hd => by
    rcases List.mem_append.mp hd with hd | hd
    · obtain ⟨p, hp, rfl⟩ := List.mem_map.mp hd; exact ⟨(PO.good k p hp).1, (PO.good k p hp).2.1⟩
    · obtain ⟨p, hp, rfl⟩ := List.mem_map.mp hd; exact ⟨(PO.good (k + 1) p hp).1, (PO.good (k + 1) p hp).2.1⟩) ?_
  intro h t Z2 lr rvs z2 ilr ra
  have S := S.ext z2
  have rd := rd.keeps z2.le
  have ra : RowsAt Z2 rvs (rowsK ns k) := ra
  have hlen := PO.csn k
  have hrl : (rowsK ns k).length = (csK ns k).length := by unfold csK; rw [List.length_map]
  repeat' ktr_member
  refine written_spec (G.keeps S.zx.le) S.zi (R.le' (by decide) (by decide)) ilr ra (by omega) (PO.rows k) ?_
  intro h t Z3 wv z3 rw3
  have S := S.ext z3
  obtain ⟨lw, wvs, rfl, ilw, rws⟩ := rw3.lst_inv
  repeat' ktr_member
  refine itLZ S ilw ?_; intro it h S
  refine compGoU S (by decide) rfl (by kernel_rfl!) rfl rfl (fun h' t' Q' E' hh q' => ?_) ?_
  · obtain ⟨C, m', d, S'⟩ := hh
    exact itSelf S' (by (repeat (first | exact List.Mem.head _ | apply List.Mem.tail))) q'
  intro acc C h t R9 S k9
  obtain ⟨hwl, _⟩ : (writtenAll (rowsK ns k)).length = (csK ns k).length ∧ True := ⟨by unfold writtenAll; rw [List.length_mapIdx]; exact hrl, trivial⟩
  refine cloop (fun j h => ∃ Z5 m5 zs, Kp Z3 Z5 ∧ St _ _ _ Z5 m5 ((L, NsO _) :: (acc, LstO zs) :: (it, LitO lw j) :: ownR w prog L rit rg i lb x1 d1 l1 x2 d2 l2 ln s.b1 s.b2 s.n (DxP (decide (0 < k)) fz) (some stv) (some (.int k kt)) (TabP (decide (0 < k)))) h ∧ PrsAt Z5 zs (((csK ns k).map chgP).take j)) (csK ns k).length ⟨Z3, _, _, fun _ _ e => e, S, .nil⟩ ?item ?stop
  case item =>
    rintro j h t E4 hlt
    refine ex3 ?_; intro Z5 m5 zs
    refine an3 ?_; intro k5 S rz
    obtain ⟨_, x, a, b, hx, hxl, hsp, ha, hb⟩ := PO.parse k j hlt
    refine ea2 ?_ (rws.get (by rw [List.getElem?_map, hx]; rfl)); intro v hv rv
    obtain ⟨tx, rfl⟩ := rv.str_inv
    refine nxL S (by (repeat (first | exact Rp.head | apply Rp.tail))) (IsL.keeps ilw fun b o e => S.zi b o (k5 b o e)) hv ?_; intro h S
    refine ⟨_, rfl, ?_⟩
    repeat' ktr_member
    refine gmParse G S ?_
    intro qa h Z6 k6 eqa S
    repeat' ktr_member
    refine cwParse ?_
    repeat' ktr_member
    refine ⟨⟨S.zi _ _ eqa, gX G S⟩, parse_spec (G.keeps S.zx.le) S.zi (R.le' (by decide) (by decide)) hxl hsp ?_⟩
    intro h t Z7 p dx ta tb z7 e1 e2
    have S := S.ext z7
    show wpAny _ _ (call _ _) _ _ _
    have hzl := rz.len
    rw [List.length_take, List.length_map] at hzl
    refine apL S (by (repeat (first | exact Rp.head | apply Rp.tail))) (by rw [sizeLine_eq]; omega) ?_; intro h S
    refine ⟨_, _, rfl, ix3 (a := Z7) (in3 (fun b o q => z7.le b o (k6 b o (k5 b o q))) S ?_)⟩
    have hlt' : j < ((csK ns k).map chgP).length := by rw [List.length_map]; exact hlt
    rw [take_snoc hlt']
    refine (rz.keeps fun b o q => z7.le b o (k6 b o q)).snoc ⟨p, dx, ta, tb, rfl, ?_, e2⟩
    rw [List.getElem_map]
    rw [ha, hb] at e1
    exact e1
  case stop =>
    rintro h t E4
    refine ex3 ?_; intro Z5 m5 zs
    refine an3 ?_; intro k5 S rz
    refine nxLe S R.hd (by (repeat (first | exact Dl.head | apply Dl.tail))) (IsL.keeps ilw fun b o e => S.zi b o (k5 b o e)) (by rw [List.getElem?_eq_none]; rw [rws.len', hwl]; exact Nat.le_refl _) ?_; intro h S
    refine ⟨rfl, k9 _ _ _ _ _ _ S .head ?_⟩
    intro h t S
    rw [List.take_of_length_le (by rw [List.length_map]; exact Nat.le_refl _)] at rz
    refine ea3 ?_ (S.frzL .head); intro Z6 k6 i6 S
    repeat' ktr_member
    obtain ⟨ol, el, cl, _⟩ := IsL.keeps ilr fun b o e => S.zi b o (k6 b o (k5 b o (z3.le b o e)))
    refine call_type_obj el (by rw [cl]; rfl) ?_
    rw [cl]
    repeat' ktr_member
    refine isnot_type_same ?_
    repeat' ktr_member
    have rdv := rd.keeps (Z' := Z6) fun b o e => k6 b o (k5 b o (z3.le b o e))
    obtain ⟨ld, dvs, rfl, ild, rds⟩ := rdv.lst_inv
    have rz := rz.keeps k6
    refine ne_pairs (gX G S) (by have := R.un; show _ + 3 < 9900; omega) parse_facts.2.2.2.2.2 (IsL.keeps i6 S.zi) (IsL.keeps ild S.zi) (rz.keeps S.zi) (rds.keeps S.zi) ?_
    repeat' ktr_member
    refine itLZ S i6 ?_; intro it h S
    refine compGo S (by decide) rfl (fun h' t' Q' E' hh q' => ?_) ?_
    · obtain ⟨C, m', d, S'⟩ := hh
      exact itSelf S' (by (repeat (first | exact List.Mem.head _ | apply List.Mem.tail))) q'
    intro acc2 C2 h t R8 S k8
    have hzl : zs.length = (csK ns k).length := by rw [rz.len, List.length_map]
    refine cloop (fun j h => ∃ m5, St _ _ _ Z6 m5 ((L, NsO _) :: (acc2, LstO []) :: (it, LitO acc j) :: ownR w prog L rit rg i lb x1 d1 l1 x2 d2 l2 ln s.b1 s.b2 s.n (DxP (decide (0 < k)) fz) (some stv) (some (.int k kt)) (TabP (decide (0 < k)))) h) (csK ns k).length ⟨_, S⟩ ?item2 ?stop2
    case item2 =>
      rintro j h t E4 hlt ⟨m5, S⟩
      obtain ⟨v, hv, x, dx, ta, tb, rfl, ex, edx⟩ := rz.at (i := j) (by rw [List.length_map]; exact hlt)
      refine nxL S (by (repeat (first | exact Rp.head | apply Rp.tail))) (IsL.keeps i6 S.zi) hv ?_; intro h S
      refine ⟨_, rfl, ?_⟩
      repeat' ktr_member
      refine call_type_obj (S.zi _ _ ex) rfl ?_
      repeat' ktr_member
      refine isnot_ref_same ?_
      repeat' ktr_member
      exact ⟨_, _, rfl, _, S⟩
    case stop2 =>
      rintro h t E4 ⟨m5, S⟩
      refine nxLe S R.hd (by (repeat (first | exact Dl.head | apply Dl.tail))) (IsL.keeps i6 S.zi) (by rw [List.getElem?_eq_none]; omega) ?_; intro h S
      refine ⟨rfl, k8 _ _ _ _ _ _ S .head ?_⟩
      intro h S
      refine ea3 ?_ (S.frzL .head); intro Z8 k8' i8 S
      repeat' ktr_member
      refine nLstZ S ?_; intro l9 h Z9 k9' i9 S
      refine neRD (da := .list []) (db := .list []) ((RD.lst (IsL.keeps i8 k9') .nil).keeps S.zi) ((RD.lst i9 .nil).keeps S.zi) rfl rfl (by have := R.un; show _ + 1 < 9900; omega) ?_
      rw [show PyData.eqv (.list []) (.list []) = true from rfl]
      repeat' ((fail_if_success (with_reducible show wpAny _ _ (execs _ _) _ _ _)); ktr_member)
      have kk : ∀ b o, Z.get? b = some o → Z9.get? b = some o := fun b o e => k9' b o (k8' b o (k6 b o (k5 b o (z3.le b o (z2.le b o (z1.le b o e))))))
      have kk6 : ∀ b o, Z6.get? b = some o → Z9.get? b = some o := fun b o e => k9' b o (k8' b o e)
      refine xsN ?_
      repeat' ((fail_if_success (with_reducible show wpAny _ _ (execs _ _) _ _ _)); ktr_member)
      refine F G B P R S hx1 hx108 hx2 hx1082 (fa1.keeps kk) (fa2.keeps kk) (fun e => (hfz e).keeps kk) ⟨by (repeat (first | with_reducible exact upd_s | with_reducible exact mOf_s | with_reducible assumption | with_reducible refine upd_n (by kernel_rfl!) ?_ | with_reducible refine mOf_n (by kernel_rfl!) ?_)), by (repeat (first | with_reducible exact upd_s | with_reducible exact mOf_s | with_reducible assumption | with_reducible refine upd_n (by kernel_rfl!) ?_ | with_reducible refine mOf_n (by kernel_rfl!) ?_)), by (repeat (first | with_reducible exact upd_s | with_reducible exact mOf_s | with_reducible assumption | with_reducible refine upd_n (by kernel_rfl!) ?_ | with_reducible refine mOf_n (by kernel_rfl!) ?_)), ⟨_, by (repeat (first | with_reducible exact upd_s | with_reducible exact mOf_s | with_reducible assumption | with_reducible refine upd_n (by kernel_rfl!) ?_ | with_reducible refine mOf_n (by kernel_rfl!) ?_))⟩, IsL.keeps I.il kk, I.rl.keeps kk, I.rls.keeps kk, I.rlb.keeps kk, I.rk.keeps kk, I.rst.keeps kk⟩ ⟨by (repeat (first | with_reducible exact upd_s | with_reducible exact mOf_s | with_reducible assumption | with_reducible refine upd_n (by kernel_rfl!) ?_ | with_reducible refine mOf_n (by kernel_rfl!) ?_)), (RD.lst ild rds).keeps kk6, by (repeat (first | with_reducible exact upd_s | with_reducible exact mOf_s | with_reducible assumption | with_reducible refine upd_n (by kernel_rfl!) ?_ | with_reducible refine mOf_n (by kernel_rfl!) ?_)), IsL.keeps i6 kk6, rz.keeps kk6⟩ PO hk hs hz ?_
      intro h' t' Z' m' fz' kv' stv' kz
      exact q h' t' Z' m' fz' kv' stv' fun b o e => kz b o (kk b o e)
/-- the round behind its first seven statements -/
noncomputable def Rd7 (w : World) (body : List Stmt) (scope : Scope) : Prop := ∀ {prog : Program} {A : Around} {E : Value → Shared → Prop} {s₀ : Shared} {h g Z : Heap} {t : Nat} {L fa : Addr} {m : Str → Option Value} {Q : Flow → Shared → Prop} {la ln x1 d1 l1 x2 d2 l2 rit rg fz lp : Addr} {lsv lb kv stv dv : Value} {las pvs : List Value} {ns : List Int} {k i : Nat} {tk : Tok} {s : LSt},
  Gnd w g → GndL g → PrgOk prog → Rm A 60 200 → St g g L Z m (ownR w prog L rit rg i lb x1 d1 l1 x2 d2 l2 ln (add1 ns k s).1 (add2 ns k s).1 (add2 ns k s).2 (DxP true fz) (some stv) (some (.int k tk)) (TabP true)) h →
  3 < x1 → x1 ≠ 108 → 3 < x2 → x2 ≠ 108 → FacAt Z l1 (cNotes L) → FacAt Z l2 (cNotes L) → FrzAt Z fz x2 →
  RIn ns m Z la las lsv lb kv stv s → RDue ns k m Z dv lp pvs → PlainOk ns → k < 4 → s = stAt ns k → SzOk s k →
  (∀ h' t' Z' m' kv' stv', Kp Z Z' → St g g L Z' m' (ownR w prog L rit rg i lb x1 d1 l1 x2 d2 l2 ln (roundK ns k s).b1 (roundK ns k s).b2 (roundK ns k s).n (DxP true fz) (some stv') (some (.int k tk)) (TabP true)) h' →
    RIn ns m' Z' la las lsv lb kv' stv' (roundK ns k s) → Q .next (sh s₀ h' t')) →
  wpAny (model prog w) A (execs ((inFor (body.drop 10)).drop 7) (envX (Str.ofString "law") scope L fa (.ref 399) (cellsFrom (L + 1) scope.names []))) Q E (sh s₀ h t)
theorem law_r2 {w : World} : ∀ {oc : Value} {od : Option Addr} {osl : Array (Option Value)} {name qual : Str} {params : Arguments} {body : List Stmt} {scope : Scope} {dV kV doc pm cdv ct : Value} {an : Option Addr},
      (heapK w.params).lookup 400 = some ⟨oc, od, .func (fnOf name qual params body scope dV kV doc pm an cdv ct), osl⟩ → (Rd7 w body scope → Rd4 w body scope) := by
  refine' lawEnter (T := fun body scope => Rd7 w body scope → Rd4 w body scope) ?ho ?g
  (case ho => k_is)
  intro F prog A E s₀ h g Z t L fa m Q la ln x1 d1 l1 x2 d2 l2 rit rg fz lp lsv lb kv stv dv las pvs ns k i kt s G B P R S hx1 hx108 hx2 hx1082 fa1 fa2 hfz I D PO hk hs hz q
  have hm1 := I.asked
  have hm2 := I.lists
  have hm3 := I.kept
  obtain ⟨tv, hm4⟩ := I.vain
  have hm5 := D.due
  have hm6 := D.pairs
  obtain ⟨z1, z2, z3, z4, _⟩ := read1_len PO hz
  have y1 := hz.b1
  have y2 := hz.b2
  have y3 := hz.n
  have hc := PO.csn k
  show wpAny _ _ (execs (_ :: _) _) _ _ _
  repeat' ktr_member
  refine add_spec (F := fun p q' => (rit, RitE i 4) :: (rg, RngO 0 4) :: (x2, BkI w prog (.ref l2) d2 s.b2) :: (d2, DxP (decide (0 < k)) fz) :: (x1, q') :: (d1, DxP false 0) :: (ln, p) :: ownL L (some lb) (some (.ref x1)) (some (.ref x2)) (some stv) (some (.int k kt)) (some (.ref ln)) (TabP (decide (0 < k))) GrO)
    (dx := d1) (cn := cNotes L) (frz := false) (fz := 0) G P S (R.le' (by decide) (by decide)) hx1 hx108 (fun _ _ _ => by (repeat (first | exact Rp.head | apply Rp.tail))) (fun _ _ _ => by (repeat (first | exact Rp.head | apply Rp.tail))) (fun _ _ => by (repeat (first | exact List.Mem.head _ | apply List.Mem.tail))) (fun _ _ => by (repeat (first | exact List.Mem.head _ | apply List.Mem.tail))) (fun e => (nomatch e)) fa1 D.il D.pr (PO.split k) (fun c hc => (PO.cso k c hc).2) (by omega) (by omega) (by omega) ?_
  intro h t S
  repeat' ktr_member
  refine add_spec (F := fun p q' => (rit, RitE i 4) :: (rg, RngO 0 4) :: (x2, q') :: (d2, DxP (decide (0 < k)) fz) :: (x1, BkI w prog (.ref l1) d1 (add1 ns k s).1) :: (d1, DxP false 0) :: (ln, p) :: ownL L (some lb) (some (.ref x1)) (some (.ref x2)) (some stv) (some (.int k kt)) (some (.ref ln)) (TabP (decide (0 < k))) GrO)
    (dx := d2) (cn := cNotes L) (frz := decide (0 < k)) (fz := fz) (n := (add1 ns k s).2) G P S (R.le' (by decide) (by decide)) hx2 hx1082 (fun _ _ _ => by (repeat (first | exact Rp.head | apply Rp.tail))) (fun _ _ _ => by (repeat (first | exact Rp.head | apply Rp.tail))) (fun _ _ => by (repeat (first | exact List.Mem.head _ | apply List.Mem.tail))) (fun _ _ => by (repeat (first | exact List.Mem.head _ | apply List.Mem.tail))) hfz fa2 D.il D.pr (PO.split k) (fun c hc => (PO.cso k c hc).2) (by omega) (by omega) (by omega) ?_
  intro h t S
  have S : St g g L Z m (ownR w prog L rit rg i lb x1 d1 l1 x2 d2 l2 ln (add1 ns k s).1 (add2 ns k s).1 (add2 ns k s).2 (DxP (decide (0 < k)) fz) (some stv) (some (.int k kt)) (TabP (decide (0 < k)))) h := S
  repeat' ktr_member
  refine ⟨fun hb => ?_, fun hb => ?_⟩
  · have hk0 : k = 0 := by have := beq_iff_eq.mp hb; omega
    subst hk0
    have S : St g g L Z m (ownR w prog L rit rg i lb x1 d1 l1 x2 d2 l2 ln (add1 ns 0 s).1 (add2 ns 0 s).1 (add2 ns 0 s).2 (IsO emptyDict) (some stv) (some (.int (0 : Nat) kt)) (IsO (tabObj #[]))) h := S
    repeat' ktr_member
    refine gmFreeze (b := (add2 ns 0 s).1) (dx := d2) (f := .ref l2) G S (by (repeat (first | exact List.Mem.head _ | apply List.Mem.tail))) (by (repeat (first | exact List.Mem.head _ | apply List.Mem.tail))) ?_
    repeat' ktr_member
    refine freeze_spec (P1 := GrO) (b := (add2 ns 0 s).1) (dx := d2) (f := .ref l2) (own1 := ownR w prog L rit rg i lb x1 d1 l1 x2 d2 l2 ln (add1 ns 0 s).1 (add2 ns 0 s).1 (add2 ns 0 s).2 (IsO emptyDict) (some stv) (some (.int (0 : Nat) kt)) GrO)
      (own2 := fun fz => ownR w prog L rit rg i lb x1 d1 l1 x2 d2 l2 ln (add1 ns 0 s).1 (add2 ns 0 s).1 (add2 ns 0 s).2 (FrzO fz) (some stv) (some (.int (0 : Nat) kt)) GrO) G B S (R.le' (by decide) (by decide)) (by (repeat (first | exact List.Mem.head _ | apply List.Mem.tail))) (fun ps => ⟨ps, rfl⟩) (by (repeat (first | exact Rp.head | apply Rp.tail))) (fun fz => by (repeat (first | exact Rp.head | apply Rp.tail))) ?_
    intro h t Z1 fz' k1 hfz' S
    repeat' ktr_member
    refine isnot_none_none ?_
    repeat' ((fail_if_success (with_reducible show wpAny _ _ (execs _ _) _ _ _)); ktr_member)
    refine xsN ?_
    repeat' ((fail_if_success (with_reducible show wpAny _ _ (execs _ _) _ _ _)); ktr_member)
    exact F G B P R S hx1 hx108 hx2 hx1082 (fa1.keeps k1) (fa2.keeps k1) hfz' (I.keeps k1 rfl rfl rfl rfl) ⟨D.due, D.rd.keeps k1, D.pairs, IsL.keeps D.il k1, D.pr.keeps k1⟩ PO hk hs hz fun h' t' Z' m' kv' stv' kz S I' => q h' t' Z' m' fz' kv' stv' (fun b o e => kz b o (k1 b o e)) S (hfz'.keeps kz) I'
  · have hk0 : 0 < k := by have := beq_eq_false_iff_ne.mp hb; omega
    have e1 : decide (0 < k) = true := decide_eq_true hk0
    rw [e1] at S
    repeat' ((fail_if_success (with_reducible show wpAny _ _ (execs _ _) _ _ _)); ktr_member)
    refine xsN ?_
    repeat' ((fail_if_success (with_reducible show wpAny _ _ (execs _ _) _ _ _)); ktr_member)
    exact F G B P R S hx1 hx108 hx2 hx1082 fa1 fa2 (hfz e1) I D PO hk hs hz fun h' t' Z' m' kv' stv' kz S I' => q h' t' Z' m' fz kv' stv' kz S ((hfz e1).keeps kz) I'
noncomputable abbrev cellObj : Obj := { cls := .type "cell", data := .cell none }
section
variable {prog : Program} {w : World} {A : Around} {E : Value → Shared → Prop} {s₀ : Shared} {h : Heap} {t : Nat} {Z Z₀ h₀ : Heap} {L l it d : Addr} {m : Str → Option Value} {own own' : Own} {env : Env}
  {elt target iter : Expr} {ifs : List Expr} {scope : Scope} {pos : Pos} {cl : List (Str × Addr)} {y : Str}
/-- the new frame of a comprehension with one cell -/
theorem compFrameC {Q : Env → Shared → Prop} (S : St Z₀ h₀ L Z m own h) (hcl : ∀ a, cellsFrom a scope.names cl = (y, a) :: cl) (hpc : ∀ h, pushCells h scope.names = h.push cellObj)
    (q : ∀ C h' t', St Z₀ h₀ C Z (fun _ => none) ((C + 1, CellO none) :: (L, NsO m) :: own) h' → Q { scope := scope, locals := C, globals := env.globals, cells := (y, C + 1) :: cl, qual := env.qual, func := none, code := env.code, frame := env.frame, builtins := env.builtins } (sh s₀ h' t')) :
    wpAny (model prog w) A (newFunctionEnv scope env.globals cl [] env.qual none .none (some env)) Q E (sh s₀ h t) := by
  simp only [newFunctionEnv, Option.isSome_some, if_true]
  refine wpAny_bind (wpAny_alloc ?_)
  refine wpAny_bind (wpAny_layCells _ (fun name kind cells => by cases hkc : kind == NameKind.cell <;> simp [hkc]) _ _ _ _ ?_)
  rw [hcl]
  refine wpAny_bind ?_
  rw [List.forIn_nil]
  refine wpAny_pure (wpAny_pure ?_)
  have S1 := S.into (C := h.objs.size) (h' := h.push { cls := .type "dict", data := .dict #[] }) (fun b o e => Heap.get?_push_of_some _ e) (get?_size h) (Nat.le_refl _) (Heap.Ns.new h (.type "dict"))
  have S2 := S1.push (o := cellObj) (P := CellO none) rfl rfl
  have e : (h.push { cls := .type "dict", data := .dict #[] }).objs.size = h.objs.size + 1 := Heap.size_push ..
  rw [e] at S2
  have := q _ _ t S2
  rw [← hpc (h.push { cls := .type "dict", data := .dict #[] })] at this
  show Q { scope := scope, locals := h.objs.size, globals := env.globals, cells := (y, (h.push { cls := .type "dict", data := .dict #[] }).objs.size) :: cl, qual := env.qual, func := none, code := env.code, frame := env.frame, builtins := env.builtins } _
  rw [e]
  exact this
theorem compGoUC {Q : Value → Shared → Prop} {x : Str} {py : Pos} (S : St Z₀ h₀ L Z m own h) (hcl : ∀ a, cellsFrom a scope.names cl = (y, a) :: cl) (hpc : ∀ h, pushCells h scope.names = h.push cellObj) (hy : env.kindOf x = some .local) (hke : env.scope.kind = .function) (hL : env.locals = L)
    (hi : ∀ h' t' (Q : Value → Shared → Prop) E, (∃ C m' d c, St Z₀ h₀ C Z m' ((c, CellO none) :: (L, NsO m) :: (d, LstO []) :: own) h') → Q (.ref it) (sh s₀ h' t') → wpAny (model prog w) A (pyIter (.ref it)) Q E (sh s₀ h' t'))
    (body : ∀ acc C h' t' (R : Result → Shared → Prop), St Z₀ h₀ C Z (fun _ => none) ((C + 1, CellO none) :: (L, NsO m) :: (acc, LstO []) :: own) h' →
      (∀ h₁ t₁ Z₁ m₁ own₁ own₂, St Z₀ h₀ C Z₁ m₁ own₁ h₁ → Dl L (NsO m) own₁ own₂ → (∀ h₂ t₂, St Z₀ h₀ L Z₁ (upd m x (.ref acc)) own₂ h₂ → Q .none (sh s₀ h₂ t₂)) → R (.ok .next) (sh s₀ h₁ t₁)) →
      codeAny (model prog w) A (.compLoop (.ListComp elt [⟨target, iter, ifs, 0⟩] scope pos) 0 (.ref it) (.ref acc) (compEnvC scope ((y, C + 1) :: cl) C env)) R (sh s₀ h' t')) :
    CompGo prog w A E env scope cl elt [⟨target, iter, ifs, 0⟩] pos (some (assign (.Name x py) env)) Q (.ref it) (sh s₀ h t) := by
  refine nLst S (fun acc h1 S1 => ?_) (by size_fits)
  refine compFrameC S1 hcl hpc fun C h2 t2 S2 => ?_
  refine compStartN (body acc C h2 t2 _ S2 fun h3 t3 Z3 m3 own3 own4 S3 u3 k3 => ?_) fun Q' E' q => hi h2 t2 Q' E' ⟨C, _, acc, _, S2⟩ q
  refine asN (stL (S3.swap u3 S.lb) (fun h4 t4 S4 => ?_) hL hke hy)
  have hm : (C, NsO m3) ∈ (C, NsO m3) :: own4 := .head _
  obtain ⟨o, ho, es, ep, hr⟩ := S4.mem hm
  exact ⟨m3, ⟨o, es, ep, ho, hr⟩, fun h5 hs5 => k3 h5 t4 (S4.del .head hs5.extBut)⟩
end
theorem ints_canLay : ∀ l : List Int, PyData.canLayAll0 (l.map PyData.int) = true
  | [] => rfl
  | _ :: r => by show (true && PyData.canLayAll0 (r.map PyData.int)) = true; rw [ints_canLay r]; rfl
theorem ints_depth : ∀ l : List Int, PyData.depthAll (l.map PyData.int) = 0
  | [] => rfl
  | _ :: r => by show max 0 (PyData.depthAll (r.map PyData.int)) = 0; rw [ints_depth r]; rfl
/-- the round behind its first nine statements -/
noncomputable def Rd9 (w : World) (body : List Stmt) (scope : Scope) : Prop := ∀ {prog : Program} {A : Around} {E : Value → Shared → Prop} {s₀ : Shared} {h g Z : Heap} {t : Nat} {L fa : Addr} {m : Str → Option Value} {Q : Flow → Shared → Prop} {la ln x1 d1 l1 x2 d2 l2 rit rg fz lp : Addr} {lsv lb kv stv dv : Value} {las pvs : List Value} {ns : List Int} {k i : Nat} {tk : Tok} {s : LSt},
  Gnd w g → GndL g → PrgOk prog → Rm A 60 200 → St g g L Z m (ownR w prog L rit rg i lb x1 d1 l1 x2 d2 l2 ln (read1 ns k s).2.1 (read2 ns k s).2.1 (read2 ns k s).2.2 (DxP true fz) (some stv) (some (.int k tk)) (TabP true)) h →
  RIn ns m Z la las lsv lb kv stv s → RDue ns k m Z dv lp pvs → PlainOk ns → k < 4 → s = stAt ns k → SzOk s k →
  (∀ h' t' Z' m' kv' stv', Kp Z Z' → St g g L Z' m' (ownR w prog L rit rg i lb x1 d1 l1 x2 d2 l2 ln (roundK ns k s).b1 (roundK ns k s).b2 (roundK ns k s).n (DxP true fz) (some stv') (some (.int k tk)) (TabP true)) h' →
    RIn ns m' Z' la las lsv lb kv' stv' (roundK ns k s) → Q .next (sh s₀ h' t')) →
  wpAny (model prog w) A (execs ((inFor (body.drop 10)).drop 9) (envX (Str.ofString "law") scope L fa (.ref 399) (cellsFrom (L + 1) scope.names []))) Q E (sh s₀ h t)
/-- the round behind its first eight statements -/
noncomputable def Rd8 (w : World) (body : List Stmt) (scope : Scope) : Prop := ∀ {prog : Program} {A : Around} {E : Value → Shared → Prop} {s₀ : Shared} {h g Z : Heap} {t : Nat} {L fa : Addr} {m : Str → Option Value} {Q : Flow → Shared → Prop} {la ln x1 d1 l1 x2 d2 l2 rit rg fz lp lc : Addr} {lsv lb kv stv dv : Value} {las pvs cvs : List Value} {ns : List Int} {k i : Nat} {tk : Tok} {s : LSt},
  Gnd w g → GndL g → PrgOk prog → Rm A 60 200 → St g g L Z m (ownR w prog L rit rg i lb x1 d1 l1 x2 d2 l2 ln (add1 ns k s).1 (add2 ns k s).1 (add2 ns k s).2 (DxP true fz) (some stv) (some (.int k tk)) (TabP true)) h →
  3 < x1 → x1 ≠ 108 → 3 < x2 → x2 ≠ 108 → FacAt Z l1 (cNotes L) → FacAt Z l2 (cNotes L) → FrzAt Z fz x2 →
  RIn ns m Z la las lsv lb kv stv s → RDue ns k m Z dv lp pvs → m (Str.ofString "counts") = some (.ref lc) → Z.IsList lc cvs.toArray → RDs Z cvs ((countsK ns k).map PyData.int) → PlainOk ns → k < 4 → s = stAt ns k → SzOk s k →
  (∀ h' t' Z' m' kv' stv', Kp Z Z' → St g g L Z' m' (ownR w prog L rit rg i lb x1 d1 l1 x2 d2 l2 ln (roundK ns k s).b1 (roundK ns k s).b2 (roundK ns k s).n (DxP true fz) (some stv') (some (.int k tk)) (TabP true)) h' →
    RIn ns m' Z' la las lsv lb kv' stv' (roundK ns k s) → Q .next (sh s₀ h' t')) →
  wpAny (model prog w) A (execs ((inFor (body.drop 10)).drop 8) (envX (Str.ofString "law") scope L fa (.ref 399) (cellsFrom (L + 1) scope.names []))) Q E (sh s₀ h t)
theorem law_r3 {w : World} : ∀ {oc : Value} {od : Option Addr} {osl : Array (Option Value)} {name qual : Str} {params : Arguments} {body : List Stmt} {scope : Scope} {dV kV doc pm cdv ct : Value} {an : Option Addr},
      (heapK w.params).lookup 400 = some ⟨oc, od, .func (fnOf name qual params body scope dV kV doc pm an cdv ct), osl⟩ → (Rd8 w body scope → Rd7 w body scope) := by
  refine' lawEnter (T := fun body scope => Rd8 w body scope → Rd7 w body scope) ?ho ?g
  (case ho => k_is)
  intro F prog A E s₀ h g Z t L fa m Q la ln x1 d1 l1 x2 d2 l2 rit rg fz lp lsv lb kv stv dv las pvs ns k i kt s G B P R S hx1 hx108 hx2 hx1082 fa1 fa2 hfz I D PO hk hs hz q
  have hm1 := I.asked
  have hm2 := I.lists
  have hm3 := I.kept
  obtain ⟨tv, hm4⟩ := I.vain
  have hm5 := D.due
  have hm6 := D.pairs
  have ha := asked_len PO
  have hbl := PO.len (k + 1)
  show wpAny _ _ (execs (_ :: _) _) _ _ _
  repeat' ktr_member
  refine itLZ S I.il ?_; intro it h S
  refine' compGoUC (y := Str.ofString "one") S ?hcl ?hpc (by kernel_rfl!) rfl rfl (fun h' t' Q' E' hh q' => ?_) ?_
  (case hcl => (intro a; exact rfl))
  (case hpc => (intro a; exact rfl))
  · obtain ⟨C, m', d, c, S'⟩ := hh
    exact itSelf S' (by (repeat (first | exact List.Mem.head _ | apply List.Mem.tail))) q'
  intro acc C h t R9 S k9
  refine cloop (fun j h => ∃ m5 zs cv, St _ _ _ Z m5 ((C + 1, CellO cv) :: (L, NsO _) :: (acc, LstO zs) :: (it, LitO la j) :: ownR w prog L rit rg i lb x1 d1 l1 x2 d2 l2 ln (add1 ns k s).1 (add2 ns k s).1 (add2 ns k s).2 (DxP true fz) (some stv) (some (.int k kt)) (TabP true)) h ∧ RDs Z zs (((countsK ns k).take j).map PyData.int)) (askedOf ns).length ⟨_, _, _, S, .nil⟩ ?item ?stop
  case item =>
    rintro j h t E4 hlt
    refine ex3 ?_; intro m5 zs cv
    refine an2 ?_; intro S rz
    refine ea2 ?_ (I.rl.at hlt); intro v hv rv
    obtain ⟨tx, rfl⟩ := rv.str_inv
    refine nxL S (by (repeat (first | exact Rp.head | apply Rp.tail))) (IsL.keeps I.il S.zi) hv ?_; intro h S
    refine ⟨_, rfl, ?_⟩
    have hok : PyData.strOk (askedOf ns)[j] = true := PO.asked _ (List.getElem_mem hlt)
    have hcnt : (countsK ns k).take (j + 1) = (countsK ns k).take j ++ [7 + ((((bagK ns (k + 1)).filter fun p => p.2 == (askedOf ns)[j]).length : Nat) : Int)] := by
      rw [take_snoc (by unfold countsK; rw [List.length_map]; exact hlt)]
      unfold countsK
      rw [List.getElem_map]
    generalize (askedOf ns)[j] = one at hv hok hcnt
    repeat' ktr_member
    refine sRDl S I.rlb (by omega) (by omega) (d := bagD (bagK ns (k + 1))) (by rw [show ((k : Int) + 1).toNat = k + 1 by omega]; exact bag_at (by omega) bagD) ?_; intro bv rb
    obtain ⟨lbg, bvs, rfl, ilb, rbs⟩ := rb.lst_inv
    refine itLZ S ilb ?_; intro it3 h S
    refine compGo S (by decide) rfl (fun h' t' Q' E' hh q' => ?_) ?_
    · obtain ⟨C, m', d, S'⟩ := hh
      exact itSelf S' (by (repeat (first | exact List.Mem.head _ | apply List.Mem.tail))) q'
    intro acc3 C3 h t R8 S k8
    have rbs : RDs Z bvs ((bagK ns (k + 1)).map pD) := rbs
    have hgood := PO.good (k + 1)
    generalize bagK ns (k + 1) = bag at rbs hcnt hbl hgood
    refine cloop (fun i h => ∃ m6 zs3, St _ _ _ Z m6 ((C, NsO _) :: (acc3, LstO zs3) :: (it3, LitO lbg i) :: (C + 1, CellO (some (.str one tx))) :: (L, NsO _) :: (acc, LstO zs) :: (it, LitO la (j + 1)) :: ownR w prog L rit rg _ lb x1 d1 l1 x2 d2 l2 ln (add1 ns k s).1 (add2 ns k s).1 (add2 ns k s).2 (DxP true fz) (some stv) (some (.int k kt)) (TabP true)) h ∧
      zs3.length = ((bag.take i).filter fun p => p.2 == one).length) bag.length ⟨_, _, S, rfl⟩ ?item3 ?stop3
    case item3 =>
      rintro j3 h t E4 hlt3
      refine ex2 ?_; intro m6 zs3
      refine an2 ?_; intro S hz3
      refine ea2 ?_ (rbs.at hlt3); intro v hv3 rv3
      refine nxL S (by (repeat (first | exact Rp.head | apply Rp.tail))) (IsL.keeps ilb S.zi) hv3 ?_; intro h S
      refine ⟨_, rfl, ?_⟩
      obtain ⟨T, x, y, rfl, iT, rx, ry⟩ := RD.tup2 rv3
      obtain ⟨uy, rfl⟩ := ry.str_inv
      have hok3 := (hgood _ (List.getElem_mem hlt3)).2.2.1
      repeat' ktr_member
      refine asT S R.hd (iT.keeps S.zi) rfl rfl rfl ?_; intro h S
      repeat' ktr_member
      refine eqRD (da := .str bag[j3].2) (db := .str one) (.str _ _) (.str _ _) hok3 hok (by have := R.un; show _ + 0 < 9900; omega) ?_
      rw [eqv_str]
      repeat' ktr_member
      have e3 : ((bag.take (j3 + 1)).filter fun p => p.2 == one).length = ((bag.take j3).filter fun p => p.2 == one).length + (if bag[j3].2 = one then 1 else 0) := by
        rw [take_snoc hlt3, List.filter_append, List.length_append]
        by_cases e : bag[j3].2 = one
        · simp [e]
        · simp [e]
      refine ⟨fun hb => ?_, fun hb => ?_⟩
      · repeat' ktr_member
        have hl3 : ((bag.take j3).filter fun p => p.2 == one).length ≤ bag.length := Nat.le_trans (List.length_filter_le _ _) (by rw [List.length_take]; omega)
        refine apL S (by (repeat (first | exact Rp.head | apply Rp.tail))) (by rw [sizeLine_eq]; omega) ?_; intro h S
        refine ⟨_, _, rfl, _, _, S, ?_⟩
        rw [e3, if_pos (of_decide_eq_true hb), List.length_append, hz3]; rfl
      · refine ⟨_, _, rfl, _, _, S, ?_⟩
        rw [e3, if_neg (of_decide_eq_false hb), hz3]; rfl
    case stop3 =>
      rintro h t E4
      refine ex2 ?_; intro m6 zs3
      refine an2 ?_; intro S hz3
      refine nxLe S R.hd (by (repeat (first | exact Dl.head | apply Dl.tail))) (IsL.keeps ilb S.zi) (by rw [List.getElem?_eq_none]; rw [rbs.len']; exact Nat.le_refl _) ?_; intro h S
      refine ⟨rfl, k8 _ _ _ _ _ _ S .head ?_⟩
      intro h S
      rw [List.take_of_length_le (Nat.le_refl _)] at hz3
      repeat' ktr_member
      have hl3 : (bag.filter fun p => p.2 == one).length ≤ bag.length := List.length_filter_le _ _
      refine cLenL (S.lst (by (repeat (first | exact List.Mem.head _ | apply List.Mem.tail)))) (by omega) ?_; intro tk t
      repeat' ktr_member
      have hzl := rz.len'
      rw [List.length_take] at hzl
      have hcl : (countsK ns k).length = (askedOf ns).length := by unfold countsK; rw [List.length_map]
      refine apL S (by (repeat (first | exact Rp.head | apply Rp.tail))) (by rw [sizeLine_eq]; omega) ?_; intro h S
      refine ⟨_, _, rfl, _, _, _, S.drop .head, ?_⟩
      rw [hcnt, List.map_append, hz3]
      exact rz.append (.cons (.int _ _) .nil)
  case stop =>
    rintro h t E4
    refine ex3 ?_; intro m5 zs cv
    refine an2 ?_; intro S rz
    refine nxLe S R.hd (by (repeat (first | exact Dl.head | apply Dl.tail))) (IsL.keeps I.il S.zi) (by rw [List.getElem?_eq_none]; rw [I.rl.len']; exact Nat.le_refl _) ?_; intro h S
    refine ⟨rfl, k9 _ _ _ _ _ _ S (.tail .head) ?_⟩
    intro h t S
    have S := S.drop .head
    rw [List.take_of_length_le (by unfold countsK; rw [List.length_map]; exact Nat.le_refl _)] at rz
    refine ea3 ?_ (S.frzL .head); intro Z6 k6 i6 S
    repeat' ((fail_if_success (with_reducible show wpAny _ _ (execs _ _) _ _ _)); ktr_member)
    exact F G B P R S hx1 hx108 hx2 hx1082 (fa1.keeps k6) (fa2.keeps k6) (hfz.keeps k6) ⟨by (repeat (first | with_reducible exact upd_s | with_reducible exact mOf_s | with_reducible assumption | with_reducible refine upd_n (by kernel_rfl!) ?_ | with_reducible refine mOf_n (by kernel_rfl!) ?_)), by (repeat (first | with_reducible exact upd_s | with_reducible exact mOf_s | with_reducible assumption | with_reducible refine upd_n (by kernel_rfl!) ?_ | with_reducible refine mOf_n (by kernel_rfl!) ?_)), by (repeat (first | with_reducible exact upd_s | with_reducible exact mOf_s | with_reducible assumption | with_reducible refine upd_n (by kernel_rfl!) ?_ | with_reducible refine mOf_n (by kernel_rfl!) ?_)), ⟨_, by (repeat (first | with_reducible exact upd_s | with_reducible exact mOf_s | with_reducible assumption | with_reducible refine upd_n (by kernel_rfl!) ?_ | with_reducible refine mOf_n (by kernel_rfl!) ?_))⟩, IsL.keeps I.il k6, I.rl.keeps k6, I.rls.keeps k6, I.rlb.keeps k6, I.rk.keeps k6, I.rst.keeps k6⟩
      ⟨by (repeat (first | with_reducible exact upd_s | with_reducible exact mOf_s | with_reducible assumption | with_reducible refine upd_n (by kernel_rfl!) ?_ | with_reducible refine mOf_n (by kernel_rfl!) ?_)), D.rd.keeps k6, by (repeat (first | with_reducible exact upd_s | with_reducible exact mOf_s | with_reducible assumption | with_reducible refine upd_n (by kernel_rfl!) ?_ | with_reducible refine mOf_n (by kernel_rfl!) ?_)), IsL.keeps D.il k6, D.pr.keeps k6⟩ (by (repeat (first | with_reducible exact upd_s | with_reducible exact mOf_s | with_reducible assumption | with_reducible refine upd_n (by kernel_rfl!) ?_ | with_reducible refine mOf_n (by kernel_rfl!) ?_))) i6 (rz.keeps k6) PO hk hs hz fun h' t' Z' m' kv' stv' kz => q h' t' Z' m' kv' stv' fun b o e => kz b o (k6 b o e)
noncomputable def rdAt (frz : Bool) (ns : List Int) (b : List (Str × Int)) (n j : Nat) : List Int × List (Str × Int) × Nat := ((askedOf ns).take j).foldl (readStep frz) ([], b, n)
theorem rdAt_succ {frz : Bool} {ns : List Int} {b : List (Str × Int)} {n j : Nat} (h : j < (askedOf ns).length) : rdAt frz ns b n (j + 1) = readStep frz (rdAt frz ns b n j) (askedOf ns)[j] := by
  unfold rdAt; rw [take_snoc h, List.foldl_append]; rfl
theorem rdAt_all {frz : Bool} {ns : List Int} {b : List (Str × Int)} {n : Nat} : rdAt frz ns b n (askedOf ns).length = readAll frz b n (askedOf ns) := by
  unfold rdAt; rw [List.take_of_length_le (Nat.le_refl _)]; rfl
theorem rdAt_len (frz : Bool) (ns : List Int) (b : List (Str × Int)) (n j : Nat) : (rdAt frz ns b n j).2.1.length ≤ b.length + (askedOf ns).length ∧ (rdAt frz ns b n j).2.2 ≤ n + (askedOf ns).length := by
  obtain ⟨a, c⟩ := readAll_len frz ((askedOf ns).take j) ([], b, n)
  have : ((askedOf ns).take j).length ≤ (askedOf ns).length := by rw [List.length_take]; omega
  exact ⟨by unfold rdAt; dsimp only at a; omega, by unfold rdAt; dsimp only at c; omega⟩
theorem rdAt_vals (frz : Bool) (ns : List Int) (b : List (Str × Int)) (n j : Nat) : (rdAt frz ns b n j).1.length = ((askedOf ns).take j).length := by
  unfold rdAt
  have : ∀ (ws : List Str) (st : List Int × List (Str × Int) × Nat), (ws.foldl (readStep frz) st).1.length = st.1.length + ws.length := by
    intro ws
    induction ws with
    | nil => intro st; rfl
    | cons x r ih => intro st; rw [List.foldl_cons, ih, List.length_cons]; show (st.1 ++ [_]).length + _ = _; rw [List.length_append, List.length_singleton]; omega
  rw [this]; exact Nat.zero_add _
theorem law_r4 {w : World} : ∀ {oc : Value} {od : Option Addr} {osl : Array (Option Value)} {name qual : Str} {params : Arguments} {body : List Stmt} {scope : Scope} {dV kV doc pm cdv ct : Value} {an : Option Addr},
      (heapK w.params).lookup 400 = some ⟨oc, od, .func (fnOf name qual params body scope dV kV doc pm an cdv ct), osl⟩ → (Rd9 w body scope → Rd8 w body scope) := by
  refine' lawEnter (T := fun body scope => Rd9 w body scope → Rd8 w body scope) ?ho ?g
  (case ho => k_is)
  intro F prog A E s₀ h g Z t L fa m Q la ln x1 d1 l1 x2 d2 l2 rit rg fz lp lc lsv lb kv stv dv las pvs cvs ns k i kt s G B P R S hx1 hx108 hx2 hx1082 fa1 fa2 hfz I D hm7 ilc rc PO hk hs hz q
  have hm1 := I.asked
  have ha := asked_len PO
  obtain ⟨y1, y2, y3, y4, y5, y6, y7, y8⟩ := read1_len PO hz
  show wpAny _ _ (execs (_ :: _) _) _ _ _
  repeat' ktr_member
  refine itLZ S I.il ?_; intro it h S
  refine compGo S (by decide) rfl (fun h' t' Q' E' hh q' => ?_) ?_
  · obtain ⟨C, m', d, S'⟩ := hh
    exact itSelf S' (by (repeat (first | exact List.Mem.head _ | apply List.Mem.tail))) q'
  intro acc C h t R9 S k9
  refine cloop (fun j h => ∃ m5 zs, St _ _ _ Z m5 ((L, NsO _) :: (acc, LstO zs) :: (it, LitO la j) :: ownR w prog L rit rg i lb x1 d1 l1 x2 d2 l2 ln (rdAt false ns (add1 ns k s).1 (add2 ns k s).2 j).2.1 (add2 ns k s).1 (rdAt false ns (add1 ns k s).1 (add2 ns k s).2 j).2.2 (DxP true fz) (some stv) (some (.int k kt)) (TabP true)) h ∧ RDs Z zs ((rdAt false ns (add1 ns k s).1 (add2 ns k s).2 j).1.map PyData.int)) (askedOf ns).length ⟨_, _, S, .nil⟩ ?item ?stop
  case item =>
    rintro j h t E4 hlt
    refine ex2 ?_; intro m5 zs
    refine an2 ?_; intro S rz
    refine ea2 ?_ (I.rl.at hlt); intro v hv rv
    obtain ⟨tx, rfl⟩ := rv.str_inv
    refine nxL S (by (repeat (first | exact Rp.head | apply Rp.tail))) (IsL.keeps I.il S.zi) hv ?_; intro h S
    refine ⟨_, rfl, ?_⟩
    obtain ⟨n1, n2⟩ := rdAt_len false ns (add1 ns k s).1 (add2 ns k s).2 j
    have n3 := rdAt_vals false ns (add1 ns k s).1 (add2 ns k s).2 j
    rw [List.length_take] at n3
    have hzl := rz.len'
    rw [rdAt_succ hlt]
    generalize (askedOf ns)[j] = one at hv
    generalize rdAt false ns (add1 ns k s).1 (add2 ns k s).2 j = st at S rz n1 n2 n3 hzl
    repeat' ktr_member
    refine bk_read (b := st.2.1) (k := one) (dx := d1) (lam := l1) (cn := cNotes L) (ln := ln) (n := st.2.2) (frz := false) (fz := 0) G P S (R.le' (by decide) (by decide)) hx1 hx108 (by (repeat (first | exact List.Mem.head _ | apply List.Mem.tail))) (by (repeat (first | exact List.Mem.head _ | apply List.Mem.tail))) (fun e => (nomatch e)) fa1 (by (repeat (first | exact List.Mem.head _ | apply List.Mem.tail))) (by (repeat (first | exact Rp.head | apply Rp.tail))) (by (repeat (first | exact Rp.head | apply Rp.tail))) (by omega) (by omega) ?_
    intro h t tk S
    repeat' ktr_member
    refine apL S (by (repeat (first | exact Rp.head | apply Rp.tail))) (by rw [sizeLine_eq]; omega) ?_; intro h S
    refine ⟨_, _, rfl, _, _, S, ?_⟩
    show RDs Z _ ((st.1 ++ [(bkGet false st.2.1 one).1]).map PyData.int)
    rw [List.map_append]
    exact rz.append (.cons (.int _ _) .nil)
  case stop =>
    rintro h t E4
    refine ex2 ?_; intro m5 zs
    refine an2 ?_; intro S rz
    refine nxLe S R.hd (by (repeat (first | exact Dl.head | apply Dl.tail))) (IsL.keeps I.il S.zi) (by rw [List.getElem?_eq_none]; rw [I.rl.len']; exact Nat.le_refl _) ?_; intro h S
    refine ⟨rfl, k9 _ _ _ _ _ _ S .head ?_⟩
    intro h S
    rw [rdAt_all] at S rz
    refine ea3 ?_ (S.frzL .head); intro Z6 k6 i6 S
    repeat' ktr_member
    have e1 : (readAll false (add1 ns k s).1 (add2 ns k s).2 (askedOf ns)).1 = countsK ns k := by subst hs; exact PO.vals1 k hk
    rw [e1] at rz
    refine neRD (da := .list ((countsK ns k).map PyData.int)) (db := .list ((countsK ns k).map PyData.int)) ((RD.lst i6 (rz.keeps k6)).keeps S.zi) ((RD.lst ilc rc).keeps fun b o e => S.zi b o (k6 b o e)) (ints_canLay _) (ints_canLay _) (by have := R.un; show _ + (PyData.depthAll _ + 1) < 9900; rw [ints_depth]; omega) ?_
    rw [PySem.SeqAt.eqv_refl _ (show PyData.canLay0 (.list ((countsK ns k).map PyData.int)) = true from ints_canLay _)]
    repeat' ktr_member
    refine itLZ S (IsL.keeps I.il k6) ?_; intro it h S
    refine compGo S (by decide) rfl (fun h' t' Q' E' hh q' => ?_) ?_
    · obtain ⟨C, m', d, S'⟩ := hh
      exact itSelf S' (by (repeat (first | exact List.Mem.head _ | apply List.Mem.tail))) q'
    intro acc2 C2 h t R8 S k8
    refine cloop (fun j h => ∃ m5 zs, St _ _ _ Z6 m5 ((L, NsO _) :: (acc2, LstO zs) :: (it, LitO la j) :: ownR w prog L rit rg i lb x1 d1 l1 x2 d2 l2 ln (read1 ns k s).2.1 (rdAt true ns (add2 ns k s).1 (read1 ns k s).2.2 j).2.1 (rdAt true ns (add2 ns k s).1 (read1 ns k s).2.2 j).2.2 (DxP true fz) (some stv) (some (.int k kt)) (TabP true)) h ∧ RDs Z6 zs ((rdAt true ns (add2 ns k s).1 (read1 ns k s).2.2 j).1.map PyData.int)) (askedOf ns).length ⟨_, _, S, .nil⟩ ?item2 ?stop2
    case item2 =>
      rintro j h t E4 hlt
      refine ex2 ?_; intro m5 zs
      refine an2 ?_; intro S rz
      refine ea2 ?_ ((I.rl.keeps k6).at hlt); intro v hv rv
      obtain ⟨tx, rfl⟩ := rv.str_inv
      refine nxL S (by (repeat (first | exact Rp.head | apply Rp.tail))) (IsL.keeps (IsL.keeps I.il k6) S.zi) hv ?_; intro h S
      refine ⟨_, rfl, ?_⟩
      obtain ⟨n1, n2⟩ := rdAt_len true ns (add2 ns k s).1 (read1 ns k s).2.2 j
      have n3 := rdAt_vals true ns (add2 ns k s).1 (read1 ns k s).2.2 j
      rw [List.length_take] at n3
      have hzl := rz.len'
      rw [rdAt_succ hlt]
      generalize (askedOf ns)[j] = one at hv
      generalize rdAt true ns (add2 ns k s).1 (read1 ns k s).2.2 j = st at S rz n1 n2 n3 hzl
      repeat' ktr_member
      refine bk_read (b := st.2.1) (k := one) (dx := d2) (lam := l2) (cn := cNotes L) (ln := ln) (n := st.2.2) (frz := true) (fz := fz) G P S (R.le' (by decide) (by decide)) hx2 hx1082 (by (repeat (first | exact List.Mem.head _ | apply List.Mem.tail))) (by (repeat (first | exact List.Mem.head _ | apply List.Mem.tail))) (fun _ => hfz.keeps k6) (fa2.keeps k6) (by (repeat (first | exact List.Mem.head _ | apply List.Mem.tail))) (by (repeat (first | exact Rp.head | apply Rp.tail))) (by (repeat (first | exact Rp.head | apply Rp.tail))) (by omega) (by omega) ?_
      intro h t tk S
      repeat' ktr_member
      refine apL S (by (repeat (first | exact Rp.head | apply Rp.tail))) (by rw [sizeLine_eq]; omega) ?_; intro h S
      refine ⟨_, _, rfl, _, _, S, ?_⟩
      show RDs Z6 _ ((st.1 ++ [(bkGet true st.2.1 one).1]).map PyData.int)
      rw [List.map_append]
      exact rz.append (.cons (.int _ _) .nil)
    case stop2 =>
      rintro h t E4
      refine ex2 ?_; intro m5 zs
      refine an2 ?_; intro S rz
      refine nxLe S R.hd (by (repeat (first | exact Dl.head | apply Dl.tail))) (IsL.keeps (IsL.keeps I.il k6) S.zi) (by rw [List.getElem?_eq_none]; rw [I.rl.len']; exact Nat.le_refl _) ?_; intro h S
      refine ⟨rfl, k8 _ _ _ _ _ _ S .head ?_⟩
      intro h S
      rw [rdAt_all] at S rz
      refine ea3 ?_ (S.frzL .head); intro Z7 k7 i7 S
      have kk : ∀ b o, Z.get? b = some o → Z7.get? b = some o := fun b o e => k7 b o (k6 b o e)
      repeat' ktr_member
      have e2 : (readAll true (add2 ns k s).1 (read1 ns k s).2.2 (askedOf ns)).1 = countsK ns k := by subst hs; exact PO.vals2 k hk
      rw [e2] at rz
      refine neRD (da := .list ((countsK ns k).map PyData.int)) (db := .list ((countsK ns k).map PyData.int)) ((RD.lst i7 (rz.keeps k7)).keeps S.zi) ((RD.lst ilc rc).keeps fun b o e => S.zi b o (kk b o e)) (ints_canLay _) (ints_canLay _) (by have := R.un; show _ + (PyData.depthAll _ + 1) < 9900; rw [ints_depth]; omega) ?_
      rw [PySem.SeqAt.eqv_refl _ (show PyData.canLay0 (.list ((countsK ns k).map PyData.int)) = true from ints_canLay _)]
      repeat' ((fail_if_success (with_reducible show wpAny _ _ (execs _ _) _ _ _)); ktr_member)
      refine xsN ?_
      repeat' ((fail_if_success (with_reducible show wpAny _ _ (execs _ _) _ _ _)); ktr_member)
      exact F (s := s) (fz := fz) G B P R S (I.keeps kk rfl rfl rfl rfl) ⟨D.due, D.rd.keeps kk, D.pairs, IsL.keeps D.il kk, D.pr.keeps kk⟩ PO hk hs hz fun h' t' Z' m' kv' stv' kz => q h' t' Z' m' kv' stv' fun b o e => kz b o (kk b o e)
theorem law_r5 {w : World} : ∀ {oc : Value} {od : Option Addr} {osl : Array (Option Value)} {name qual : Str} {params : Arguments} {body : List Stmt} {scope : Scope} {dV kV doc pm cdv ct : Value} {an : Option Addr},
      (heapK w.params).lookup 400 = some ⟨oc, od, .func (fnOf name qual params body scope dV kV doc pm an cdv ct), osl⟩ → Rd9 w body scope := by
  refine' lawEnter (T := fun body scope => Rd9 w body scope) ?ho ?g
  (case ho => k_is)
  intro prog A E s₀ h g Z t L fa m Q la ln x1 d1 l1 x2 d2 l2 rit rg fz lp lsv lb kv stv dv las pvs ns k i kt s G B P R S I D PO hk hs hz q
  have hm1 := I.asked
  have hm2 := I.lists
  have hm3 := I.kept
  obtain ⟨tv, hm4⟩ := I.vain
  have hm5 := D.due
  have ha := asked_len PO
  have hc := PO.csn k
  have hwk := words_ok PO k
  have z1 := hz.kept
  have z2 := hz.stored
  have z3 := hz.vain
  obtain ⟨ld, dvs, hdv, ild, rds⟩ := D.rd.lst_inv
  subst hdv
  have hlw : ((csK ns k).map (·.2.2)).length = (csK ns k).length := List.length_map ..
  have emap : ((csK ns k).map chgP).map (cond false (fun p : Str × Str => PyData.str p.1) (fun p => PyData.str p.2)) = ((csK ns k).map (·.2.2)).map PyData.str := by rw [List.map_map, List.map_map]; rfl
  show wpAny _ _ (execs (_ :: _) _) _ _ _
  repeat' ktr_member
  refine itLZ S ild ?_; intro it h S
  refine compGo S (by decide) rfl (fun h' t' Q' E' hh q' => ?_) ?_
  · obtain ⟨C, m', d, S'⟩ := hh
    exact itSelf S' (by (repeat (first | exact List.Mem.head _ | apply List.Mem.tail))) q'
  intro acc C h t R9 S k9
  refine loopPair (xs := (csK ns k).map chgP) (f := fun p : Str × Str => PyData.str p.1) (g := fun p => PyData.str p.2) (sel := false) R.hd rfl rfl (by kernel_rfl!) (by kernel_rfl!) (by kernel_rfl!) (by kernel_rfl!) (fun m x y => upd_s) S ild rds (by rw [List.length_map]; omega) fun h t m' ys S ry => k9 _ _ _ _ _ _ S .head fun h S => ?_
  rw [emap] at ry
  refine ea3 ?_ (S.frzL .head); intro Z1 k1 i1 S
  repeat' ktr_member
  refine laid_spec (ss := s.stored) (more := (csK ns k).map (·.2.2)) (G.keeps S.zx.le) S.zi (R.le' (by decide) (by decide)) (I.rst.keeps k1) (.lst i1 (ry.keeps k1)) (by omega) (by omega) hz.ss hwk ?_
  intro h t Z2 stv' z2' rst'
  have S := S.ext z2'
  have kk2 : ∀ b o, Z.get? b = some o → Z2.get? b = some o := fun b o e => z2'.le b o (k1 b o e)
  repeat' ktr_member
  refine itLZ S (IsL.keeps ild kk2) ?_; intro it h S
  refine compGo S (by decide) rfl (fun h' t' Q' E' hh q' => ?_) ?_
  · obtain ⟨C, m', d, S'⟩ := hh
    exact itSelf S' (by (repeat (first | exact List.Mem.head _ | apply List.Mem.tail))) q'
  intro acc2 C2 h t R8 S k8
  refine loopPair (xs := (csK ns k).map chgP) (f := fun p : Str × Str => PyData.str p.1) (g := fun p => PyData.str p.2) (sel := false) R.hd rfl rfl (by kernel_rfl!) (by kernel_rfl!) (by kernel_rfl!) (by kernel_rfl!) (fun m x y => upd_s) S (IsL.keeps ild kk2) (rds.keeps kk2) (by rw [List.length_map]; omega) fun h t m' ys S ry => k8 _ _ _ _ _ _ S .head fun h S => ?_
  rw [emap] at ry
  refine ea3 ?_ (S.frzL .head); intro Z3 k3 i3 S
  repeat' ktr_member
  refine laid_spec (ss := s.kept) (more := (csK ns k).map (·.2.2)) (G.keeps S.zx.le) S.zi (R.le' (by decide) (by decide)) (I.rk.keeps fun b o e => k3 b o (kk2 b o e)) (.lst i3 (ry.keeps k3)) (by omega) (by omega) hz.ks hwk ?_
  intro h t Z4 kv1 z4 rk1
  have S := S.ext z4
  have kk4 : ∀ b o, Z.get? b = some o → Z4.get? b = some o := fun b o e => z4.le b o (k3 b o (kk2 b o e))
  repeat' ktr_member
  have n1 := laid_len ((csK ns k).map (·.2.2)) s.kept
  have n2 := laid_len ((csK ns k).map (·.2.2)) s.stored
  refine laid_spec (ss := laid s.kept ((csK ns k).map (·.2.2))) (more := askedOf ns) (G.keeps S.zx.le) S.zi (R.le' (by decide) (by decide)) rk1 (.lst (IsL.keeps I.il kk4) (I.rl.keeps kk4)) (by omega) (by omega) (fun x hx => by
    rcases (laid_mem _ _).mp hx with hx | hx
    · exact hz.ks _ hx
    · exact hwk _ hx) PO.asked ?_
  intro h t Z5 kv2 z5 rk2
  have S := S.ext z5
  have kk5 : ∀ b o, Z.get? b = some o → Z5.get? b = some o := fun b o e => z5.le b o (kk4 b o e)
  have rst' := rst'.keeps (Z' := Z5) fun b o e => z5.le b o (z4.le b o (k3 b o e))
  repeat' ktr_member
  obtain ⟨ls', svs, hsv, ils, rss⟩ := rst'.lst_inv
  subst hsv
  have il5 := IsL.keeps I.il kk5
  have rl5 := I.rl.keeps kk5
  have hlo : ∀ x ∈ laid s.stored ((csK ns k).map (·.2.2)), PyData.strOk x = true := fun x hx => by
    rcases (laid_mem _ _).mp hx with hx | hx
    · exact hz.ss _ hx
    · exact hwk _ hx
  refine itLZ S il5 ?_; intro it h S
  refine compGo S (by decide) rfl (fun h' t' Q' E' hh q' => ?_) ?_
  · obtain ⟨C, m', d, S'⟩ := hh
    exact itSelf S' (by (repeat (first | exact List.Mem.head _ | apply List.Mem.tail))) q'
  intro acc3 C3 h t R7 S k7
  refine cloop (fun j h => ∃ m5 zs, St _ _ _ Z5 m5 ((L, NsO _) :: (acc3, LstO zs) :: (it, LitO la j) :: ownR w prog L rit rg i lb x1 d1 l1 x2 d2 l2 ln (read1 ns k s).2.1 (read2 ns k s).2.1 (read2 ns k s).2.2 (DxP true fz) (some (.ref ls')) (some (.int k kt)) (TabP true)) h ∧
    zs.length = (((askedOf ns).take j).filter fun one => !decide (one ∈ laid s.stored ((csK ns k).map (·.2.2)))).length) (askedOf ns).length ⟨_, _, S, rfl⟩ ?item ?stop
  case item =>
    rintro j h t E4 hlt
    refine ex2 ?_; intro m5 zs
    refine an2 ?_; intro S hzs
    refine ea2 ?_ (rl5.at hlt); intro v hv rv
    obtain ⟨tx, rfl⟩ := rv.str_inv
    have hok : PyData.strOk (askedOf ns)[j] = true := PO.asked _ (List.getElem_mem hlt)
    have e3 : (((askedOf ns).take (j + 1)).filter fun one => !decide (one ∈ laid s.stored ((csK ns k).map (·.2.2)))).length = (((askedOf ns).take j).filter fun one => !decide (one ∈ laid s.stored ((csK ns k).map (·.2.2)))).length + (if (!decide ((askedOf ns)[j] ∈ laid s.stored ((csK ns k).map (·.2.2)))) = true then 1 else 0) := by
      rw [take_snoc hlt, List.filter_append, List.length_append]
      congr 1
      by_cases e : (!decide ((askedOf ns)[j] ∈ laid s.stored ((csK ns k).map (·.2.2)))) = true
      · rw [if_pos e, List.filter_cons, if_pos e]; rfl
      · rw [if_neg e, List.filter_cons, if_neg e]; rfl
    have hle : (((askedOf ns).take j).filter fun one => !decide (one ∈ laid s.stored ((csK ns k).map (·.2.2)))).length ≤ 13 := Nat.le_trans (List.length_filter_le _ _) (by rw [List.length_take]; omega)
    refine nxL S (by (repeat (first | exact Rp.head | apply Rp.tail))) (IsL.keeps il5 S.zi) hv ?_; intro h S
    refine ⟨_, rfl, ?_⟩
    generalize (askedOf ns)[j] = one at hv hok e3
    repeat' ktr_member
    refine oNotIn S (IsL.keeps ils S.zi) rss (d := .str one) (.str _ _) (strs_canLay hlo) hok (by have := R.un; show _ + 1 + 0 < 9900; omega) ?_
    rw [any_strs]
    repeat' ktr_member
    refine ⟨fun hb => ?_, fun hb => ?_⟩
    · repeat' ktr_member
      refine apL S (by (repeat (first | exact Rp.head | apply Rp.tail))) (by rw [sizeLine_eq]; omega) ?_; intro h S
      refine ⟨_, _, rfl, _, _, S, ?_⟩
      rw [e3, if_pos hb, List.length_append, hzs]; rfl
    · refine ⟨_, _, rfl, _, _, S, ?_⟩
      rw [e3, if_neg (by rw [hb]; decide), hzs]; rfl
  case stop =>
    rintro h t E4
    refine ex2 ?_; intro m5 zs
    refine an2 ?_; intro S hzs
    refine nxLe S R.hd (by (repeat (first | exact Dl.head | apply Dl.tail))) (IsL.keeps il5 S.zi) (by rw [List.getElem?_eq_none]; rw [rl5.len']; exact Nat.le_refl _) ?_; intro h S
    refine ⟨rfl, k7 _ _ _ _ _ _ S .head ?_⟩
    intro h S
    rw [List.take_of_length_le (Nat.le_refl _)] at hzs
    have hle : ((askedOf ns).filter fun one => !decide (one ∈ laid s.stored ((csK ns k).map (·.2.2)))).length ≤ 13 := Nat.le_trans (List.length_filter_le _ _) ha
    repeat' ktr_member
    refine cLenL (S.lst (by (repeat (first | exact List.Mem.head _ | apply List.Mem.tail)))) (by omega) ?_; intro tk t
    repeat' ktr_member
    have S := S.drop .head
    refine q _ _ Z5 _ kv2 _ kk5 S ⟨by (repeat (first | with_reducible exact upd_s | with_reducible exact mOf_s | with_reducible assumption | with_reducible refine upd_n (by kernel_rfl!) ?_ | with_reducible refine mOf_n (by kernel_rfl!) ?_)), by (repeat (first | with_reducible exact upd_s | with_reducible exact mOf_s | with_reducible assumption | with_reducible refine upd_n (by kernel_rfl!) ?_ | with_reducible refine mOf_n (by kernel_rfl!) ?_)), by (repeat (first | with_reducible exact upd_s | with_reducible exact mOf_s | with_reducible assumption | with_reducible refine upd_n (by kernel_rfl!) ?_ | with_reducible refine mOf_n (by kernel_rfl!) ?_)), ⟨tk, upd_s.trans ?_⟩, il5, rl5, I.rls.keeps kk5, I.rlb.keeps kk5, rk2, rst'⟩
    have e9 : ((roundK ns k s).vain : Int) = s.vain + zs.length := by
      rw [hzs]; rfl
    rw [e9]
theorem entry_dict_iter' : entryFor table "dict.__iter__" = some Builtin.«dict.__iter__» := entryFor_of_tree (by kernel_rfl)
theorem plain_dict_iter : plainId "dict.__iter__" = true := by decide +kernel
theorem kind_dict_iter : builtinKind "dict.__iter__" = some .slot := by decide +kernel
theorem split_dict_iter : splitId "dict.__iter__" = some ("dict", "__iter__") := by decide +kernel
theorem sig_dict_iter : ∃ sig, Manifest.signature? "dict.__iter__" = some sig ∧ ∀ a : Value, Bind.checkArgs "dict.__iter__" sig ⟨[a], []⟩ = pure () := by
  refine ⟨_, rfl, fun a => ?_⟩
  kernel_rfl
theorem entry_dict_len' : entryFor table "dict.__len__" = some Builtin.«dict.__len__» := entryFor_of_tree (by kernel_rfl)
theorem plain_dict_len : plainId "dict.__len__" = true := by decide +kernel
theorem kind_dict_len : builtinKind "dict.__len__" = some .slot := by decide +kernel
theorem split_dict_len : splitId "dict.__len__" = some ("dict", "__len__") := by decide +kernel
theorem sig_dict_len : ∃ sig, Manifest.signature? "dict.__len__" = some sig ∧ ∀ a : Value, Bind.checkArgs "dict.__len__" sig ⟨[a], []⟩ = pure () := by
  refine ⟨_, rfl, fun a => ?_⟩
  kernel_rfl
noncomputable abbrev kitObj (d : Addr) (i n ep : Nat) : Obj := { cls := .type "dict_keyiterator", data := .fields #[.ref d, .int i 0, .int n 0, .int ep 0] }
section
variable {prog : Program} {w : World} {A : Around} {E : Value → Shared → Prop} {h : Heap} {g : Array GenState} {d : Drawn} {t : Nat} {os : OsState} {x : Addr} {ox : Obj} {es : Array DictEntry} {ep : Nat}
theorem callIf_looks {M : Model} {x : Value} {T : String} {id : String} {name : Str} {refuse : Sem Value} {Q : Option Value → Shared → Prop} (hs : Slot T name id) (s1 : Looks M h (specialOf x name) (some (.builtin id)))
    (hc : wpAny M A (call (.builtin id) [x]) (fun v => Q (some v)) E ⟨h, g, d, t, os⟩) : wpAny M A (callSpecialIfBoundUnlessNone? x name refuse) Q E ⟨h, g, d, t, os⟩ := by
  simp only [callSpecialIfBoundUnlessNone?, bindSpecialIfBound?]
  refine wpAny_holding (wpAny_bind (wpAny_bind (s1.at ?_)))
  simp only [hs.bind]
  have e0 : (Value.builtin id == Value.none) = false := rfl
  refine wpAny_bind (wpAny_askSetting (wpAny_ite ?_))
  split
  · refine wpAny_bind (wpAny_pure (wpAny_pure ?_))
    simp only [e0, Bool.false_eq_true, if_false]
    exact wpAny_bind (wpAny_mono hc (fun _ _ z => wpAny_pure z) fun _ _ z => z)
  · refine wpAny_tryCatch (wpAny_bind (wpAny_pure (wpAny_pure ?_)))
    simp only [e0, Bool.false_eq_true, if_false]
    exact wpAny_bind (wpAny_mono hc (fun _ _ z => wpAny_pure z) fun _ _ z => z)
theorem bkd_iter {Q : Value → Shared → Prop} (X : (heapK w.params).In h) (hf : findIn (heapK w.params) (.ref 108) "__iter__" = some (some (.builtin "dict.__iter__"))) (h3 : 3 < x) (hx : h.get? x = some ox) (hc : ox.cls = .ref 108) (hdt : ox.data = .dict es ep)
    (q : Q (.ref h.objs.size) ⟨h.push (kitObj x 0 es.size ep), g, d, t, os⟩) : wpAny (model prog w) A (pyIter (.ref x)) Q E ⟨h, g, d, t, os⟩ := by
  obtain ⟨oc, od, odt, os'⟩ := ox
  dsimp only at hc hdt
  subst hc hdt
  have top := (tmb (M := model prog w) X).top
  have t1 : Looks (model prog w) h (typeOf (.ref x)) (.ref 108) := (Looks.ld hx).andThen .now
  have i1 : Looks (model prog w) h (isInstance (.ref x) (.type "dict")) true := t1.andThen top
  have nord := (tmb (M := model prog w) X).nord
  have i2 : Looks (model prog w) h (isInstance (.ref x) (.type "collections.OrderedDict")) false := t1.andThen nord
  have s1 : Looks (model prog w) h (specialOf (.ref x) "__iter__") (some (.builtin "dict.__iter__")) := t1.andThen (looks_findIn X hf)
  obtain ⟨sig, hsig, hargs⟩ := sig_dict_iter
  have hca : Looks (model prog w) h (Bind.checkArgs "dict.__iter__" sig ⟨[.ref x], []⟩) () := Looks.of_pure (hargs _)
  unfold pyIter
  refine wpAny_bind (s1.at ?_)
  refine wpAny_bind (callIf_looks PySem.F.slot_dict_iter s1 ?_)
  with_reducible refine wpAny_call (codeAny_call_builtin plain_dict_iter entry_dict_iter' ?_)
  simp only [checkBuiltinCall, kind_dict_iter, split_dict_iter, hsig]
  repeat lk
  rw [if_neg (by rw [ne_sys h3]; exact Bool.false_ne_true)]
  repeat ((fail_if_success (with_reducible show wpAny _ _ (Builtin.ret _) _ _ _)); (fail_if_success (with_reducible show wpAny _ _ (newFields _ _) _ _ _)); lk)
  refine wpAny_newObj_type ?_
  show wpAny _ _ (ret _) _ _ (⟨h.push (kitObj x 0 es.size ep), g, d, t, os⟩ : Shared)
  have t2 : Looks (model prog w) (h.push (kitObj x 0 es.size ep)) (typeOf (.ref h.objs.size)) (.type "dict_keyiterator") := (Looks.ld (Heap.get?_push_size _ rfl)).andThen .now
  have s2 : Looks (model prog w) (h.push (kitObj x 0 es.size ep)) (specialOf (.ref h.objs.size) "__next__") (some (.builtin "dict_keyiterator.__next__")) := t2.andThen (Looks.of_pure PySem.F.slot_dict_keyiterator_next.lookup)
  repeat lk
  exact q
theorem bkd_next {Q : Option Value → Shared → Prop} {I : Addr} {i ep n : Nat} {e : DictEntry} (hI : h.get? I = some (kitObj x i n ep)) (hx : h.get? x = some ox) (hdt : ox.data = .dict es ep) (hn : es.size = n) (he : es[i]? = some e)
    (q : ∀ h', h'.get? I = some (kitObj x (i + 1) n ep) → Heap.SameBut I h h' → Q (some e.key) ⟨h', g, d, t, os⟩) : wpAny (model prog w) A (pyNext (.ref I)) Q E ⟨h, g, d, t, os⟩ := by
  have hT : (⟨h, g, d, t, os⟩ : Shared).TypeIs (.ref I) "dict_keyiterator" := ⟨_, hI, rfl⟩
  obtain ⟨oc, od, odt, os'⟩ := ox
  dsimp only at hdt
  subst hdt
  have t1 : Looks (model prog w) h (typeOf (.ref I)) (.type "dict_keyiterator") := (Looks.ld hI).andThen .now
  unfold pyNext
  refine wpAny_bind (wpAny_attempt (wpAny_callSpecial?_slot (name := Str.ofString "__next__") hT PySem.F.slot_dict_keyiterator_next (wpAny_call_entry PySem.F.slot_dict_keyiterator_next hT PySem.F.entry_dict_keyiterator_next ?_ (PySem.F.args_dict_keyiterator_next_1 _))))
  repeat lk
  rw [if_neg (by rw [hn]; simp)]
  repeat lk
  rw [if_neg (by simp)]
  repeat lk
  simp only [show ¬ ((i : Int) < 0) from by omega, if_false, Int.toNat_natCast, he]
  repeat lk
  generalize hF : Obj.mapFields _ = F
  have hU : F (kitObj x i n ep) = kitObj x (i + 1) n ep := by rw [← hF]; kernel_rfl
  refine wpAny_update (s := ⟨h, g, d, t, os⟩) hI ?_
  have hI' : (h.update I F).get? I = some (kitObj x (i + 1) n ep) := by rw [Heap.get?_update_self F hI (by rw [hU]; rfl), hU]
  have hs := Heap.SameBut.update h I F
  generalize h.update I F = h' at hI' hs
  have t2 : Looks (model prog w) h' (typeOf (.ref I)) (.type "dict_keyiterator") := (Looks.ld hI').andThen .now
  repeat lk
  exact ⟨_, rfl, wpAny_pure (q h' hI' hs)⟩
theorem bkd_end {Q : Option Value → Shared → Prop} {I : Addr} {i ep n : Nat} (hh : A.handled = none) (hI : h.get? I = some (kitObj x i n ep)) (hx : h.get? x = some ox) (hdt : ox.data = .dict es ep) (hn : es.size = n) (he : es[i]? = none)
    (q : ∀ h', Heap.ExtBut I h h' → Q none ⟨h', g, d, t, os⟩) : wpAny (model prog w) A (pyNext (.ref I)) Q E ⟨h, g, d, t, os⟩ := by
  have hT : (⟨h, g, d, t, os⟩ : Shared).TypeIs (.ref I) "dict_keyiterator" := ⟨_, hI, rfl⟩
  obtain ⟨oc, od, odt, os'⟩ := ox
  dsimp only at hdt
  subst hdt
  have t1 : Looks (model prog w) h (typeOf (.ref I)) (.type "dict_keyiterator") := (Looks.ld hI).andThen .now
  unfold pyNext
  refine wpAny_bind (wpAny_attempt (wpAny_callSpecial?_slot (name := Str.ofString "__next__") hT PySem.F.slot_dict_keyiterator_next (wpAny_call_entry PySem.F.slot_dict_keyiterator_next hT PySem.F.entry_dict_keyiterator_next ?_ (PySem.F.args_dict_keyiterator_next_1 _))))
  repeat lk
  rw [if_neg (by rw [hn]; simp)]
  repeat lk
  rw [if_neg (by simp)]
  repeat lk
  simp only [show ¬ ((i : Int) < 0) from by omega, if_false, Int.toNat_natCast, he]
  repeat ((fail_if_success (with_reducible show wpAny _ _ (newExc _ _) _ _ _)); lk)
  generalize hF : Obj.mapFields _ = F
  have hU : (F (kitObj x i n ep)).isFreed = false := by rw [← hF]; kernel_rfl
  refine wpAny_update (s := ⟨h, g, d, t, os⟩) hI ?_
  have hs := (Heap.SameBut.update h I F).extBut
  generalize h.update I F = h' at hs
  have hst : ∀ H : Heap, Looks (model prog w) H (isSubtype (.type "StopIteration") (.type "StopIteration")) true := fun _ => Looks.of_pure isSubtype_stop
  repeat lk
  refine wpAny_handled ?_
  rw [show A.in1.handled = none from hh]
  repeat lk
  refine wpAny_throw ?_
  refine wpAny_bind (wpAny_isInstance (T := "StopIteration") (b := true) ⟨_, Heap.get?_push_size _ rfl, rfl⟩ isSubtype_stop ?_)
  repeat lk
  exact q _ ((hs.push _).push _)
end
section
variable {prog : Program} {w : World} {A : Around} {E : Value → Shared → Prop} {h : Heap} {g : Array GenState} {d : Drawn} {t : Nat} {os : OsState} {x : Addr} {ox : Obj} {es : Array DictEntry} {ep : Nat}
theorem bkWalks {I : Addr} (hh : A.handled = none) (hne : x ≠ I) : Walks prog w A I [I, x] [I] es.size (fun i v => ∃ e, es[i]? = some e ∧ v = e.key) (fun i h => h.get? I = some (kitObj x i es.size ep) ∧ ∃ ox, h.get? x = some ox ∧ ox.data = .dict es ep) where
  sub := fun b hb => by simp at hb; simp [hb]
  frame := fun _ _ _ st hk => ⟨hk I (by simp) _ st.1, let ⟨ox, e, dd⟩ := st.2; ⟨ox, hk x (by simp) _ e, dd⟩⟩
  item := fun i s Q E hi st hQ => by
    obtain ⟨hp, g, d, t, os⟩ := s
    obtain ⟨h1, ox, h2, h3⟩ := st
    refine bkd_next h1 h2 h3 rfl (Array.getElem?_eq_getElem hi) fun h' a b => ?_
    exact hQ _ h' t ⟨_, Array.getElem?_eq_getElem hi, rfl⟩ ⟨a, ox, b.extBut _ _ hne h2, h3⟩ fun b' o hb e => b.extBut b' o (fun hb' => hb (by simp [hb'])) e
  done := fun s Q E st hQ => by
    obtain ⟨hp, g, d, t, os⟩ := s
    obtain ⟨h1, ox, h2, h3⟩ := st
    exact bkd_end hh h1 h2 h3 rfl (Array.getElem?_eq_none (Nat.le_refl _)) fun h' he => hQ h' t fun b o hb e => he b o (fun hb' => hb (by simp [hb'])) e
  self := fun i s Q E st hq => wpAny_pyIter_keyiter (i := i) (n := es.size) (ep := ep) (d := x) ⟨_, st.1, rfl, rfl⟩ hq
theorem bkd_hint {Q : Bool → Shared → Prop} (X : (heapK w.params).In h) (hf : findIn (heapK w.params) (.ref 108) "__len__" = some (some (.builtin "dict.__len__"))) (h3 : 3 < x) (hx : h.get? x = some ox) (hc : ox.cls = .ref 108) (hdt : ox.data = .dict es ep) (hn : es.size ≤ 1000000)
    (q : ∀ b t', Q b ⟨h, g, d, t', os⟩) : wpAny (model prog w) A (Builtin.List.listLengthHint (.ref x)) Q E ⟨h, g, d, t, os⟩ := by
  obtain ⟨oc, od, odt, os'⟩ := ox
  dsimp only at hc hdt
  subst hc hdt
  have top := (tmb (M := model prog w) X).top
  have nord := (tmb (M := model prog w) X).nord
  have t1 : Looks (model prog w) h (typeOf (.ref x)) (.ref 108) := (Looks.ld hx).andThen .now
  have i1 : Looks (model prog w) h (isInstance (.ref x) (.type "dict")) true := t1.andThen top
  have i2 : Looks (model prog w) h (isInstance (.ref x) (.type "collections.OrderedDict")) false := t1.andThen nord
  have s1 : Looks (model prog w) h (specialOf (.ref x) "__len__") (some (.builtin "dict.__len__")) := t1.andThen (looks_findIn X hf)
  obtain ⟨sig, hsig, hargs⟩ := sig_dict_len
  have hca : Looks (model prog w) h (Bind.checkArgs "dict.__len__" sig ⟨[.ref x], []⟩) () := Looks.of_pure (hargs _)
  unfold Builtin.List.listLengthHint
  refine wpAny_bind (s1.at ?_)
  simp only [split_dict_len]
  repeat ((fail_if_success (with_reducible show wpAny _ _ (call _ _ _) _ _ _)); lk)
  refine PySem.Calls.call_function_entry kind_len plain_len entry_len (args_len1 _) ?_
  unfold Builtin.«len»
  repeat ((fail_if_success (with_reducible show wpAny _ _ (callSpecial? _ _ _ _) _ _ _)); lk)
  simp only [callSpecial?]
  refine wpAny_bind (s1.at ?_)
  simp only [PySem.F.slot_dict_len.bind, List.append_nil]
  refine wpAny_holding (wpAny_bind (wpAny_pure (wpAny_bind ?_)))
  with_reducible refine wpAny_call (codeAny_call_builtin plain_dict_len entry_dict_len' ?_)
  simp only [checkBuiltinCall, kind_dict_len, split_dict_len, hsig]
  repeat lk
  rw [if_neg (by rw [ne_sys h3]; exact Bool.false_ne_true)]
  repeat lk
  rw [if_neg (by simp only [Int.natCast_zero, Int.add_zero]; omega)]
  repeat lk
  refine ⟨_, rfl, ?_⟩
  repeat lk
  exact q _ _
/-- list(book), the way in -/
theorem bkd_list {Q : Value → Shared → Prop} (Xk : ∀ h', (∀ b o, b < h.objs.size → h.get? b = some o → h'.get? b = some o) → (heapK w.params).In h') (hf1 : findIn (heapK w.params) (.ref 108) "__iter__" = some (some (.builtin "dict.__iter__"))) (hf2 : findIn (heapK w.params) (.ref 108) "__len__" = some (some (.builtin "dict.__len__")))
    (hh : A.handled = none) (h3 : 3 < x) (hx : h.get? x = some ox) (hc : ox.cls = .ref 108) (hdt : ox.data = .dict es ep) (hn : es.size ≤ 1000000)
    (q : ∀ h' t' acc c', (∀ b o, h.get? b = some o → h'.get? b = some o) → h'.get? h.objs.size = some { cls := .type "list", dict := none, data := .seq acc c', slots := #[] } → ItemsOf (fun i v => ∃ e, es[i]? = some e ∧ v = e.key) acc es.size → Q (.ref h.objs.size) ⟨h', g, d, t', os⟩) :
    wpAny (model prog w) A (call (.type "list") [.ref x]) Q E ⟨h, g, d, t, os⟩ := by
  have hlt := Heap.lt_size hx
  have hxS : x ≠ h.objs.size := Nat.ne_of_lt hlt
  refine callType_codes (Q₁ := fun obj s₁ => obj = .ref h.objs.size ∧ s₁ = (⟨h.push { cls := .type "list", data := .seq #[] }, g, d, t, os⟩ : Shared)) PySem.F.called_list (PySem.F.typeCall_list_1 _) PySem.F.entry_list_init
    (code_list_new _ ⟨rfl, rfl⟩) fun obj s₁ h₁ => ?_
  obtain ⟨rfl, rfl⟩ := h₁
  have hS : (h.push { cls := .type "list", data := .seq #[] }).get? h.objs.size = some { cls := .type "list", data := .seq #[] } := Heap.get?_push_size _ rfl
  refine ⟨⟨_, hS, rfl⟩, PySem.F.args_list_init_2 _ _, ?_⟩
  have kS : ∀ b o, h.get? b = some o → (h.push { cls := .type "list", data := .seq #[] }).get? b = some o := fun b o e => Heap.get?_push_of_some _ e
  generalize h.push { cls := .type "list", data := .seq #[] } = h1 at hS kS
  show wpAny _ _ (Builtin.«list.__init__» ⟨[.ref h.objs.size, .ref x], []⟩) _ _ _
  unfold Builtin.«list.__init__»
  repeat ((fail_if_success (with_reducible show wpAny _ _ (Builtin.List.listExtendWith _ _ _) _ _ _)); (fail_if_success (with_reducible show wpAny _ _ (Builtin.List.listUpdate _ _) _ _ _)); lk)
  show wpAny _ _ (updateSeq h.objs.size fun _ => #[]) _ _ _
  refine wpAny_updateSeq hS rfl ?_
  have hS2 := Heap.get?_update_self (Obj.mapSeq (fun _ => (#[] : Array Value))) hS rfl
  have k2 : ∀ b o, b ≠ h.objs.size → h1.get? b = some o → (h1.update h.objs.size (Obj.mapSeq (fun _ => (#[] : Array Value)))).get? b = some o := fun b o hb e => (Heap.get?_update_other _ _ (Ne.symm hb)).trans e
  generalize h1.update h.objs.size (Obj.mapSeq (fun _ => (#[] : Array Value))) = h2 at hS2 k2
  repeat ((fail_if_success (with_reducible show wpAny _ _ (Builtin.List.listExtendWith _ _ _) _ _ _)); lk)
  have kk : ∀ b o, h.get? b = some o → h2.get? b = some o := fun b o e => k2 b o (Nat.ne_of_lt (Heap.lt_size e)) (kS b o e)
  have hx2 := kk _ _ hx
  have hT : Looks (model prog w) h2 (typeOf (.ref x)) (.ref 108) := by
    obtain ⟨oc, od, odt, os'⟩ := ox
    dsimp only at hc
    subst hc
    exact (Looks.ld hx2).andThen .now
  unfold Builtin.List.listExtendWith
  refine wpAny_bind (hT.at ?_)
  have e1 : Builtin.List.listSameRef (.ref h.objs.size) (.ref x) = false := by simp [Builtin.List.listSameRef, Ne.symm hxS]
  have e2 : (Value.ref 108 == Value.type "list") = false := rfl
  have e3 : (Value.ref 108 == Value.type "tuple") = false := rfl
  simp only [e1, e2, e3, Bool.or_false, Bool.false_eq_true, if_false]
  refine wpAny_bind (bkd_iter (Xk h2 fun b o _ e => kk b o e) hf1 h3 hx2 hc hdt ?_)
  have kI : ∀ b o, h2.get? b = some o → (h2.push (kitObj x 0 es.size ep)).get? b = some o := fun b o e => Heap.get?_push_of_some _ e
  have hI : (h2.push (kitObj x 0 es.size ep)).get? h2.objs.size = some (kitObj x 0 es.size ep) := Heap.get?_push_size _ rfl
  have hlt2 : h.objs.size < h2.objs.size := Heap.lt_size hS2
  have hx2lt : x < h2.objs.size := Heap.lt_size hx2
  have nI : ∀ b o, h.get? b = some o → b ≠ h2.objs.size := fun b o e q => Nat.lt_irrefl _ (Nat.lt_trans hlt2 (q ▸ Heap.lt_size e))
  generalize h2.push (kitObj x 0 es.size ep) = h3' at kI hI
  generalize h2.objs.size = I at hI hlt2 hx2lt nI
  refine wpAny_bind (wpAny_holding (bkd_hint (Xk h3' fun b o _ e => kI b o (kk b o e)) hf2 h3 (kI _ _ hx2) hc hdt hn fun b t' => ?_))
  have hS3 := kI _ _ hS2
  have W := bkWalks (prog := prog) (w := w) (A := A.in1) (x := x) (es := es) (ep := ep) (I := I) hh (Nat.ne_of_lt hx2lt)
  have hSf : h.objs.size ∉ [I, x] := by simp only [List.mem_cons, List.not_mem_nil, or_false, not_or]; exact ⟨Nat.ne_of_lt hlt2, Ne.symm hxS⟩
  have key : ∀ (h4 : Heap) (c₁ tk : Nat) {R : Result → Shared → Prop}, (∀ b o, b ≠ h.objs.size → h3'.get? b = some o → h4.get? b = some o) → h4.get? h.objs.size = some { cls := .type "list", data := .seq #[] c₁ } →
      (∀ h' t' acc c', (∀ b o, h.get? b = some o → h'.get? b = some o) → h'.get? h.objs.size = some { cls := .type "list", dict := none, data := .seq acc c', slots := #[] } → ItemsOf (fun i v => ∃ e, es[i]? = some e ∧ v = e.key) acc es.size → R (.ok (.ret .none)) ⟨h', g, d, t', os⟩) →
      codeAny (model prog w) A.in1 (.builtin "list.extend.loop" ⟨[.ref h.objs.size, .ref I, .none], []⟩) R ⟨h4, g, d, tk, os⟩ := by
    intro h4 c₁ tk R hk hS₁ hR
    refine codeAny_extend_loopS (bkWalks (prog := prog) (w := w) (A := A.in1.in1) (x := x) (es := es) (ep := ep) (I := I) hh (Nat.ne_of_lt hx2lt)).toS (by rw [sizeLine_eq]; omega) h.objs.size hSf .none es.size 0 _ #[] c₁ rfl (Nat.zero_le _) ⟨hk _ _ (Nat.ne_of_gt hlt2) hI, ox, hk _ _ hxS (kI _ _ hx2), hdt⟩ hS₁ (ItemsOf.nil _) fun s' acc' c' hm hS' hacc => ?_
    have := hR s'.heap s'.toks acc' c' (fun b o e => hm.heap b o (fun hmem => ?_) (hk b o (Nat.ne_of_lt (Heap.lt_size e)) (kI _ _ (kk _ _ e)))) hS' hacc
    · rw [Moved.eq_with hm]; exact this
    · rcases List.mem_cons.mp hmem with e' | hmem
      · exact Nat.ne_of_lt (Heap.lt_size e) e'
      · exact nI b o e (List.mem_singleton.mp hmem)
  refine wpAny_ite_split (fun _ => ?_) (fun _ => ?_)
  · refine wpAny_bind (wpAny_rule ?_)
    refine wpAny_bind ?_
    show wpAny _ _ (updateSeq h.objs.size (·.push .none) >>= fun _ => updateSeq h.objs.size (·.pop)) _ _ _
    refine wpAny_bind (wpAny_updateSeq hS3 rfl ?_)
    have hS4 := Heap.get?_update_self (Obj.mapSeq (·.push Value.none)) hS3 rfl
    refine wpAny_updateSeq (hz := by seq_fits) hS4 rfl ?_
    have hS5 := Heap.get?_update_self (Obj.mapSeq (·.pop)) hS4 rfl
    refine wpAny_pure ⟨plainId_quiet PySem.F.plain_extend_loop _, key _ _ _ (fun b o hb e => (Heap.get?_update_other _ _ (Ne.symm hb)).trans ((Heap.get?_update_other _ _ (Ne.symm hb)).trans e)) hS5 ?_⟩
    intro h' t' acc c' a b c
    exact ⟨rfl, q h' t' acc c' a b c⟩
  · refine wpAny_pure ⟨plainId_quiet PySem.F.plain_extend_loop _, key _ _ _ (fun b o _ e => e) hS3 ?_⟩
    intro h' t' acc c' a b c
    exact ⟨rfl, q h' t' acc c' a b c⟩
end
theorem bk_facts2 {w : World} : findIn (heapK w.params) (.ref 108) "__iter__" = some (some (.builtin "dict.__iter__")) ∧ findIn (heapK w.params) (.ref 108) "__len__" = some (some (.builtin "dict.__len__")) := by
  refine' ⟨?a, ?b⟩
  (case a => k_is)
  (case b => k_is)
theorem RDs.ofStrs {Z : Heap} : ∀ {ss : List Str} {vs : List Value}, vs.length = ss.length → (∀ i (hi : i < ss.length), ∃ tk, vs[i]? = some (.str ss[i] tk)) → RDs Z vs (ss.map PyData.str)
  | [], [], _, _ => .nil
  | s :: ss, v :: vs, hl, h => by
    obtain ⟨tk, e⟩ := h 0 (Nat.zero_lt_succ _)
    simp only [List.getElem?_cons_zero, Option.some.injEq, List.getElem_cons_zero] at e
    subst e
    refine .cons (.str _ _) (RDs.ofStrs (by simpa using hl) fun i hi => ?_)
    obtain ⟨tk', e'⟩ := h (i + 1) (Nat.succ_lt_succ hi)
    exact ⟨tk', by simpa using e'⟩
  | [], _ :: _, hl, _ => by simp at hl
  | _ :: _, [], hl, _ => by simp at hl
section
variable {prog : Program} {w : World} {A : Around} {E : Value → Shared → Prop} {s₀ : Shared} {h : Heap} {t : Nat} {Z Z₀ h₀ : Heap} {L : Addr} {m : Str → Option Value} {own : Own} {x dx : Addr} {f : Value} {b : List (Str × Int)}
theorem cBkList {Q : Value → Shared → Prop} (G : Gnd w Z₀) (S : St Z₀ h₀ L Z m own h) (hh : A.handled = none) (h3 : 3 < x) (im : (x, BkI w prog f dx b) ∈ own) (hn : b.length ≤ 1000000)
    (q : ∀ l h' t' vs, St Z₀ h₀ L Z m ((l, LstO vs) :: own) h' → RDs Z vs ((b.map (·.1)).map PyData.str) → Q (.ref l) (sh s₀ h' t')) : wpAny (model prog w) A (call (.type "list") [.ref x]) Q E (sh s₀ h t) := by
  obtain ⟨f1, f2⟩ := bk_facts2 (w := w)
  obtain ⟨o, ho, kvs, hkv, hc, hdx, hsl, es, ep, hd, hke, hp, hnd⟩ := S.mem im
  have hsz : es.size = kvs.length := by rw [← hp.length]; simp
  have hkb := hkv.keys
  have hkl := hkv.len
  refine bkd_list (fun h' k => G.X.keeps fun b o e => k b o (Heap.lt_size (S.z0 b o e)) (S.z0 b o e)) f1 f2 hh h3 ho hc hd (by omega) ?_
  intro h' t' acc c' hk hl hacc
  refine q _ _ _ acc.toList (S.add (o := { cls := .type "list", dict := none, data := .seq acc c', slots := #[] }) hk (get?_size h) hl ⟨c', by simp⟩) (RDs.ofStrs (by rw [List.length_map, Array.length_toList, hacc.1]; omega) fun i hi => ?_)
  rw [List.length_map] at hi
  have hia : i < acc.size := by rw [hacc.1]; omega
  obtain ⟨e, he, hv⟩ := hacc.2 i acc[i] (Array.getElem?_eq_getElem hia)
  have hik : i < kvs.length := by omega
  obtain ⟨hkey, _⟩ := hp.get? (i := i) (e := e) (k := kvs[i].1) (v := kvs[i].2) (by rw [Array.getElem?_toList]; exact he) (List.getElem?_eq_getElem hik)
  obtain ⟨tk, ek⟩ := Value.isStrOf_shape hkey
  refine ⟨tk, ?_⟩
  rw [Array.getElem?_toList, Array.getElem?_eq_getElem hia, hv, ek]
  have e1 : kvs[i].1 = (b.map (·.1))[i]'(by rw [List.length_map]; exact hi) := by
    have : (kvs.map (·.1))[i]'(by rw [List.length_map]; exact hik) = (b.map (·.1))[i]'(by rw [List.length_map]; exact hi) := by simp only [hkb]
    rw [← this, List.getElem_map]
  rw [e1]
end
theorem canLayAll0_of {l : List PyData} (h : ∀ d ∈ l, d.canLay0 = true) : PyData.canLayAll0 l = true := by
  induction l with
  | nil => rfl
  | cons x r ih =>
    show (PyData.canLay0 x && PyData.canLayAll0 r) = true
    rw [h x (.head _), ih fun d hd => h d (.tail _ hd)]; rfl
theorem depthAll_le {l : List PyData} {n : Nat} (h : ∀ d ∈ l, d.depth ≤ n) : PyData.depthAll l ≤ n := by
  induction l with
  | nil => exact Nat.zero_le _
  | cons x r ih =>
    show max (PyData.depth x) (PyData.depthAll r) ≤ n
    exact Nat.max_le.mpr ⟨h x (.head _), ih fun d hd => h d (.tail _ hd)⟩
theorem bag_mem {ns : List Int} {b : List (PyData × Str)} (hb : b ∈ bagsAll (drOf ns)) : ∃ k, b = bagK ns k := by
  obtain ⟨k, hk, e⟩ := List.getElem_of_mem hb
  refine ⟨k, ?_⟩
  unfold bagK
  rw [List.getD_eq_getElem?_getD, List.getElem?_eq_getElem hk, ← e]; rfl
theorem lists_canLay {ns : List Int} (P : PlainOk ns) : (listsD ns).canLay0 = true := canLayAll0_of fun d hd => by
  obtain ⟨b, hb, rfl⟩ := List.mem_map.mp hd
  obtain ⟨k, rfl⟩ := bag_mem hb
  refine canLayAll0_of fun d hd => ?_
  obtain ⟨p, hp, rfl⟩ := List.mem_map.mp hd
  exact (P.good k p hp).1.can
theorem lists_depth {ns : List Int} (P : PlainOk ns) : (listsD ns).depth ≤ 62 := Nat.succ_le_succ (depthAll_le fun d hd => by
  obtain ⟨b, hb, rfl⟩ := List.mem_map.mp hd
  obtain ⟨k, rfl⟩ := bag_mem hb
  refine Nat.succ_le_succ (depthAll_le fun d hd => ?_)
  obtain ⟨p, hp, rfl⟩ := List.mem_map.mp hd
  exact (P.good k p hp).2.1)
theorem law_p4 {w : World} : ∀ {oc : Value} {od : Option Addr} {osl : Array (Option Value)} {name qual : Str} {params : Arguments} {body : List Stmt} {scope : Scope} {dV kV doc pm cdv ct : Value} {an : Option Addr},
      (heapK w.params).lookup 400 = some ⟨oc, od, .func (fnOf name qual params body scope dV kV doc pm an cdv ct), osl⟩ → LawF11 w body scope := by
  refine' lawEnter (T := fun body scope => LawF11 w body scope) ?ho ?g
  (case ho => k_is)
  intro prog A E s₀ h g Z t L fa m Q la ln x1 d1 l1 x2 d2 l2 fz rg lsv lb kv stv las ns kc s G B P R S hx1 hx108 hx2 hx1082 I PO hs hz q
  have hm2 := I.lists
  have hm3 := I.kept
  obtain ⟨tv, hm4⟩ := I.vain
  have S := S.drop .head
  obtain ⟨lbg, bvs, elb, ilb, rbs⟩ := I.rlb.lst_inv
  subst elb
  have hlen : ∀ b ∈ bagsAll (drOf ns), b.length ≤ 13 := fun b hb => by
    obtain ⟨k, rfl⟩ := bag_mem hb
    exact PO.len k
  show wpAny _ _ (execs (_ :: _) _) _ _ _
  repeat' ktr_member
  refine itLZ S ilb ?_; intro it h S
  refine compGo S (by decide) rfl (fun h' t' Q' E' hh q' => ?_) ?_
  · obtain ⟨C, m', d, S'⟩ := hh
    exact itSelf S' (by (repeat (first | exact List.Mem.head _ | apply List.Mem.tail))) q'
  intro acc2 C h t R9 S k9
  refine cloop (fun j h => ∃ Z5 m5 zs, Kp Z Z5 ∧ St _ _ _ Z5 m5 ((L, NsO _) :: (acc2, LstO zs) :: (it, LitO lbg j) :: own10 w prog L (.ref lbg) x1 d1 l1 x2 d2 l2 ln s.b1 s.b2 s.n (DxP true fz) (some stv) kc GrO) h ∧ RDs Z5 zs (((bagsAll (drOf ns)).take j).map thingsD)) (bagsAll (drOf ns)).length ⟨Z, _, _, fun _ _ e => e, S, .nil⟩ ?item ?stop
  case item =>
    rintro j h t E4 hlt
    refine ex3 ?_; intro Z5 m5 zs
    refine an3 ?_; intro k5 S rz
    refine ea2 ?_ (rbs.at hlt); intro v hv rv
    refine nxL S (by (repeat (first | exact Rp.head | apply Rp.tail))) (IsL.keeps ilb fun b o e => S.zi b o (k5 b o e)) hv ?_; intro h S
    refine ⟨_, rfl, ?_⟩
    obtain ⟨l3, vs3, rfl, il3, rs3⟩ := (rv.keeps k5).lst_inv
    have hl3 := hlen _ (List.getElem_mem hlt)
    repeat' ktr_member
    refine itLZ S il3 ?_; intro it3 h S
    refine compGo S (by decide) rfl (fun h' t' Q' E' hh q' => ?_) ?_
    · obtain ⟨C, m', d, S'⟩ := hh
      exact itSelf S' (by (repeat (first | exact List.Mem.head _ | apply List.Mem.tail))) q'
    intro acc3 C3 h t R8 S k8
    refine loopPair (xs := (bagsAll (drOf ns))[j]) (f := fun x : PyData × Str => x.1) (g := fun x => PyData.str x.2) (sel := true) R.hd rfl rfl (by kernel_rfl!) (by kernel_rfl!) (by kernel_rfl!) (by kernel_rfl!) (fun m x y => (upd_n (by kernel_rfl!) upd_s)) S il3 rs3 (by omega) fun h t m' ys S ry => k8 _ _ _ _ _ _ S .head fun h S => ?_
    refine ea3 ?_ (S.frzL .head); intro Z6 k6 i6 S
    have hz := rz.len'
    rw [List.length_take] at hz
    have h5 : (bagsAll (drOf ns)).length = 5 := rfl
    refine apL S (by (repeat (first | exact Rp.head | apply Rp.tail))) (by rw [sizeLine_eq]; omega) ?_; intro h S
    refine ⟨_, _, rfl, ix3 (a := Z6) (in3 (fun b o q => k6 b o (k5 b o q)) S ?_)⟩
    rw [take_snoc hlt, List.map_append]
    exact (rz.keeps k6).append (.cons (.lst i6 (ry.keeps k6)) .nil)
  case stop =>
    rintro h t E4
    refine ex3 ?_; intro Z5 m5 zs
    refine an3 ?_; intro k5 S rz
    refine nxLe S R.hd (by (repeat (first | exact Dl.head | apply Dl.tail))) (IsL.keeps ilb fun b o e => S.zi b o (k5 b o e)) (by rw [List.getElem?_eq_none]; rw [rbs.len']; exact Nat.le_refl _) ?_; intro h S
    refine ⟨rfl, k9 _ _ _ _ _ _ S .head ?_⟩
    intro h S
    rw [List.take_of_length_le (Nat.le_refl _)] at rz
    refine ea3 ?_ (S.frzL .head); intro Z6 k6 i6 S
    have kk : ∀ b o, Z.get? b = some o → Z6.get? b = some o := fun b o e => k6 b o (k5 b o e)
    have r6 : RD Z6 (.ref acc2) (listsD ns) := .lst i6 (rz.keeps k6)
    repeat' ktr_member
    have hd := lists_depth PO
    refine neRD (I.rls.keeps fun b o e => S.zi b o (kk b o e)) (r6.keeps S.zi) (lists_canLay PO) (lists_canLay PO) (by have := R.un; omega) ?_
    rw [PySem.SeqAt.eqv_refl _ (lists_canLay PO)]
    repeat' ((fail_if_success (with_reducible show wpAny _ _ (execs _ _) _ _ _)); ktr_member)
    refine xsN ?_
    repeat' ((fail_if_success (with_reducible show wpAny _ _ (execs _ _) _ _ _)); ktr_member)
    refine xsC ?_
    repeat' ((fail_if_success (with_reducible show wpAny _ _ (execs _ _) _ _ _)); ktr_member)
    refine BoolOp_and ?_
    refine wpAny_Compare1 ?_
    repeat' ktr_member
    have y1 := hz.b1
    have y2 := hz.b2
    have y3 := hz.n
    have y4 := hz.kept
    have y5 := hz.stored
    have hok1 : PyData.canLayAll0 (s.kept.map PyData.str) = true := strs_canLay hz.ks
    have hok2 : PyData.canLayAll0 (s.stored.map PyData.str) = true := strs_canLay hz.ss
    have hd1 : PyData.depthAll (s.kept.map PyData.str) ≤ 0 := depthAll_le fun d hd => by obtain ⟨x, _, rfl⟩ := List.mem_map.mp hd; exact Nat.le_refl _
    have hd2 : PyData.depthAll (s.stored.map PyData.str) ≤ 0 := depthAll_le fun d hd => by obtain ⟨x, _, rfl⟩ := List.mem_map.mp hd; exact Nat.le_refl _
    have e1 : s.b1.map (·.1) = s.kept := by subst hs; exact PO.fin1
    have e2 : s.b2.map (·.1) = s.stored := by subst hs; exact PO.fin2
    have e3 : s.n = s.kept.length + s.stored.length + s.vain := by subst hs; exact PO.fin3
    refine cBkList (b := s.b1) (f := .ref l1) (dx := d1) G S R.hd hx1 (by (repeat (first | exact List.Mem.head _ | apply List.Mem.tail))) (by omega) ?_
    intro lw h t wvs S rw1
    rw [e1] at rw1
    repeat' ktr_member
    refine eqRD (da := .list (s.kept.map PyData.str)) (db := .list (s.kept.map PyData.str)) (.lst (S.lst (by (repeat (first | exact List.Mem.head _ | apply List.Mem.tail)))) (rw1.keeps S.zi)) ((I.rk.keeps kk).keeps S.zi) hok1 hok1 (by have := R.un; show _ + (PyData.depthAll _ + 1) < 9900; omega) ?_
    rw [PySem.SeqAt.eqv_refl _ (show PyData.canLay0 (.list (s.kept.map PyData.str)) = true from hok1)]
    have S := S.drop .head
    refine trB ?_
    rw [if_pos rfl]
    refine BoolOp_and ?_
    refine wpAny_Compare1 ?_
    repeat' ktr_member
    refine cBkList (b := s.b2) (f := .ref l2) (dx := d2) G S R.hd hx2 (by (repeat (first | exact List.Mem.head _ | apply List.Mem.tail))) (by omega) ?_
    intro lw2 h t wvs2 S rw2
    rw [e2] at rw2
    repeat' ktr_member
    refine eqRD (da := .list (s.stored.map PyData.str)) (db := .list (s.stored.map PyData.str)) (.lst (S.lst (by (repeat (first | exact List.Mem.head _ | apply List.Mem.tail)))) (rw2.keeps S.zi)) ((I.rst.keeps kk).keeps S.zi) hok2 hok2 (by have := R.un; show _ + (PyData.depthAll _ + 1) < 9900; omega) ?_
    rw [PySem.SeqAt.eqv_refl _ (show PyData.canLay0 (.list (s.stored.map PyData.str)) = true from hok2)]
    have S := S.drop .head
    refine trB ?_
    rw [if_pos rfl]
    refine BoolOp_one ?_
    refine wpAny_Compare1 ?_
    obtain ⟨lkk, kvs, ekv, ilk, rlk⟩ := (I.rk.keeps kk).lst_inv
    obtain ⟨lss, svs, esv, ils, rls⟩ := (I.rst.keeps kk).lst_inv
    subst ekv esv
    repeat' ktr_member
    obtain ⟨on, hon, nvs, hnl, c0, rfl⟩ := S.mem (show (ln, NtO s.n) ∈ _ by (repeat (first | exact List.Mem.head _ | apply List.Mem.tail)))
    refine cLenL (vs := nvs) ⟨_, hon, rfl, c0, rfl⟩ (by omega) ?_; intro tk t
    rw [hnl]
    repeat' ktr_member
    refine cLenL (IsL.keeps ilk S.zi) (by rw [rlk.len']; omega) ?_; intro tk t
    rw [rlk.len']
    repeat' ktr_member
    refine cLenL (IsL.keeps ils S.zi) (by rw [rls.len']; omega) ?_; intro tk t
    rw [rls.len']
    repeat' ktr_member
    have e9 : ((s.n : Int) == (s.kept.length : Int) + (s.stored.length : Int) + (s.vain : Int)) = true := by rw [beq_iff_eq, e3]; omega
    rw [e9]
    have S := ((((S.drop .head).drop .head).drop .head).drop .head).drop .head
    exact q _ _ _ _ _ _ _ _ _ _ S

theorem law_main {w : World} {oc : Value} {od : Option Addr} {osl : Array (Option Value)} {name qual : Str} {params : Arguments} {body : List Stmt} {scope : Scope} {dV kV doc pm cdv ct : Value} {an : Option Addr}
    (ho : (heapK w.params).lookup 400 = some ⟨oc, od, .func (fnOf name qual params body scope dV kV doc pm an cdv ct), osl⟩) : LawT w body scope :=
  law_p1 ho (law_p2 ho (law_p3 ho (law_r1 ho (law_r2 ho (law_r3 ho (law_r4 ho (law_r5 ho))))) (law_p4 ho)))
theorem RDs.ofInts {Z : Heap} : ∀ {ns : List Int} {vs : List Value}, IntsAre vs ns → RDs Z vs (ns.map PyData.int)
  | _, _, .nil => .nil
  | _, _, .cons _ _ h => .cons (.int _ _) (RDs.ofInts h)
theorem nd_step {l : List Nat} {a b : Nat} (h : l.Nodup ∧ ∀ x ∈ l, x < b) (k : b ≤ a) : (a :: l).Nodup ∧ ∀ x ∈ a :: l, x < a + 1 :=
  ⟨List.nodup_cons.mpr ⟨fun q => Nat.lt_irrefl a (Nat.lt_of_lt_of_le (h.2 a q) k), h.1⟩, fun x hx => (List.mem_cons.mp hx).elim (fun e => e ▸ Nat.lt_succ_self a) fun q => Nat.lt_succ_of_lt (Nat.lt_of_lt_of_le (h.2 x q) k)⟩
theorem own_nodup (L : Nat) (h : 400 < L) : [L + 1 + 1 + 1 + 1 + 1 + 1, L + 1 + 1 + 1 + 1 + 1, L + 1 + 1 + 1 + 1, L + 1 + 1 + 1, L + 1 + 1, L + 1, 100, 397].Nodup :=
  have h0 : [100, 397].Nodup ∧ ∀ x ∈ [100, 397], x < 401 := ⟨by decide, by decide⟩
  (nd_step (nd_step (nd_step (nd_step (nd_step (nd_step h0 (Nat.le_succ_of_le h)) (Nat.le_refl _)) (Nat.le_refl _)) (Nat.le_refl _)) (Nat.le_refl _)) (Nat.le_refl _)).1
theorem law_join {w : World} {oc : Value} {od : Option Addr} {osl : Array (Option Value)} {name qual : Str} {params : Arguments} {body : List Stmt} {scope : Scope} {dV kV doc pm cdv ct : Value} {an : Option Addr}
    (ho : (heapK w.params).lookup 400 = some ⟨oc, od, .func (fnOf name qual params body scope dV kV doc pm an cdv ct), osl⟩) (PL : ∀ ns : List Int, PlainOk ns)
    {prog : Program} {A : Around} {E : Value → Shared → Prop} {Q : Flow → Shared → Prop} {s₀ : Shared} {g h : Heap} {t : Nat} {L fa sl : Addr} {m : Str → Option Value} {vs : List Value} {ns : List Int} {p : Program} {loose : List Str} {mean : ExcName → Option Value} {mg mb : Str → Option Value} {o6 o5 o4 o3 o2 o1 : Obj}
    (X : (heapK w.params).In g) (T : Top p loose mean mg mb g) (F : Fr g L h m)
    (N : News g L h [(L + 1 + 1 + 1 + 1 + 1 + 1, o6), (L + 1 + 1 + 1 + 1 + 1, o5), (L + 1 + 1 + 1 + 1, o4), (L + 1 + 1 + 1, o3), (L + 1 + 1, o2), (L + 1, o1), (100, tabObj #[]), (397, tabObj #[])])
    (h6 : o6.data = .cell none) (h5 : o5.data = .cell none) (h4 : o4.data = .cell none) (h3 : o3.data = .cell none) (h2 : o2.data = .cell none) (h1 : o1.data = .cell none)
    (c1 : CodeHd g 104 100) (c2 : CodeHd g 399 397) (P : PrgOk prog) (R : Rm A 60 200) (hsc : m (Str.ofString "script") = some (.ref sl)) (il : g.IsList sl vs.toArray) (hI : IntsAre vs ns) (hn : ns.length ≤ 63)
    (q : ∀ h' t' m', Fr g L h' m' → GrownAll [(104, 100), (399, 397)] h' → Q (.ret (.bool true)) (sh s₀ h' t')) :
    wpAny (model prog w) A (execs body (envX (Str.ofString "law") scope L fa (.ref 399) (cellsFrom (L + 1) scope.names []))) Q E (sh s₀ h t) := by
  have hL : 400 < L := Nat.lt_of_lt_of_le (Heap.lt_size (X _ _ ho)) F.above
  obtain ⟨bm, ob, b1, b2, b3, b4, b5, b6⟩ := T.bmain
  have gL : g.get? L = none := Heap.get?_none_of_le F.above
  have S : St g g L g m (ownL L none none none none none none (IsO (tabObj #[])) (IsO (tabObj #[]))) h := by
    refine ⟨⟨F.keep, fun _ _ e => e, F.keep, fun _ _ e => .inl e⟩, F.ns, gL, F.above, fun p hp => ?_, ?_⟩
    · simp only [ownL, List.mem_cons, List.not_mem_nil, or_false] at hp
      have nn : ∀ {a : Addr} {o : Obj} {P : OP}, (a, o) ∈ [(L + 1 + 1 + 1 + 1 + 1 + 1, o6), (L + 1 + 1 + 1 + 1 + 1, o5), (L + 1 + 1 + 1 + 1, o4), (L + 1 + 1 + 1, o3), (L + 1 + 1, o2), (L + 1, o1), (100, tabObj #[]), (397, tabObj #[])] → P o → (∃ o, h.get? a = some o ∧ P o) ∧ g.get? a = none ∧ g.get? a = none ∧ a ≠ L := fun hm hp => let ⟨x, y, z⟩ := N _ hm; ⟨⟨_, x, hp⟩, z, z, y⟩
      rcases hp with rfl | rfl | rfl | rfl | rfl | rfl | rfl | rfl
      · exact nn (by (repeat (first | exact List.Mem.head _ | apply List.Mem.tail))) h6
      · exact nn (by (repeat (first | exact List.Mem.head _ | apply List.Mem.tail))) h5
      · exact nn (by (repeat (first | exact List.Mem.head _ | apply List.Mem.tail))) h4
      · exact nn (by (repeat (first | exact List.Mem.head _ | apply List.Mem.tail))) h3
      · exact nn (by (repeat (first | exact List.Mem.head _ | apply List.Mem.tail))) h2
      · exact nn (by (repeat (first | exact List.Mem.head _ | apply List.Mem.tail))) h1
      · exact nn (by (repeat (first | exact List.Mem.head _ | apply List.Mem.tail))) rfl
      · exact nn (by (repeat (first | exact List.Mem.head _ | apply List.Mem.tail))) rfl
    · exact own_nodup L hL
  refine law_main ho ⟨X, p, loose, mg, mb, topRead_of T⟩ ⟨mg, bm, ob, T.g, b1, b2, b3, b4, b5, b6, c1, c2⟩ P R hL S hsc il (RDs.ofInts hI) hn (PL ns) ?_
  intro h' t' Z' m' a b c d e f S
  obtain ⟨o, ho', ps, e1⟩ := S.mem (show ((100 : Addr), GrO) ∈ _ by (repeat (first | exact List.Mem.head _ | apply List.Mem.tail)))
  obtain ⟨o', ho2, ps', e2⟩ := S.mem (show ((397 : Addr), GrO) ∈ _ by (repeat (first | exact List.Mem.head _ | apply List.Mem.tail)))
  subst e1 e2
  exact q h' t' m' S.fr ⟨⟨ps, ho'⟩, ⟨ps', ho2⟩, trivial⟩
theorem rm_caller (e : Env) : Rm (callerA.deeper e) 60 200 := ⟨rfl, Nat.le_of_ble_eq_true rfl, Nat.le_of_ble_eq_true rfl, rfl, _, rfl⟩
theorem join_row (PL : ∀ ns : List Int, PlainOk ns) : PySem.Challenge.rw_in0011_01.Holds := by
  w_on
  refine holds_law law_said fun said => ?_
  refine PySem.W.holds_open (q := vw) (loose := lo) (Xt := fun s => xlAt vw [] s && recOk (RowW.records rW) s) (XP := XL vw []) (Yf := Hook.obs hkH) (Ya := Hook.val hkH) (YP := Hook.says hkH) (N := 7576) left_all (Hook.of hkH) (Hook.keeps hkH) (fun s e => xl_of s (Bool.and_eq_true_iff.mp e).1) XL.keeps (by rfl) (by rfl) (by rfl) (fun s e => recFacts_of (Bool.and_eq_true_iff.mp e).2) (by rfl) said (by decide +kernel) ⟨rfl, rfl, rfl, rfl, rfl, by decide +kernel⟩ ?hw ?hc
  (case hw => w_witness2)
  clear said
  k_go0
  with_reducible rename (heapK _).In (ghostOf _ _) => X'
  with_reducible rename Top topProg _ _ _ _ (ghostOf _ _) => T'
  with_reducible rename Fr (ghostOf _ _) _ _ _ => F'
  with_reducible rename News (ghostOf _ _) _ _ _ => N'
  with_reducible rename IntsAre _ _ => hI'
  with_reducible rename Heap.IsList (ghostOf _ _) _ _ => il'
  with_reducible rename ¬ _ < _ => hlen'
  refine' law_join (w := _) ?ho PL X' T' F' N' ?h6 ?h5 ?h4 ?h3 ?h2 ?h1 ?c1 ?c2 ?P ?R ?hsc il' hI' ?hn ?q
  (case ho => k_is)
  (case h6 => assumption)
  (case h5 => assumption)
  (case h4 => assumption)
  (case h3 => assumption)
  (case h2 => assumption)
  (case h1 => assumption)
  (case c1 => assumption)
  (case c2 => assumption)
  (case R => exact rm_caller _)
  (case hn => omega)
  (case hsc => exact rfl)
  (case P => exact ⟨rfl, rfl⟩)
  (case q =>
    intro h' t' m' F G
    refine ⟨?_, G⟩
    refine goodW_bool F (by assumption) (raisesW_false ?_) ?_
    · wrow_none_raised
    · wrow_post)
noncomputable def ints13 : List (PyData × Str) := [(.int (-2), Str.ofString "-2"), (.int (-1), Str.ofString "-1"), (.int 0, Str.ofString "0"), (.int 1, Str.ofString "1"), (.int 2, Str.ofString "2")]
noncomputable def base13 : List (PyData × Str) := ints13 ++ texts.map (fun p => (PyData.str p.1, p.2)) ++ [(.none, Str.ofString "None"), (.list [], Str.ofString "[]")]
noncomputable def tail2 (b : Bool) : Str := if b then Str.ofString ", 1]" else Str.ofString ", 0]"
inductive Th : PyData × Str → Prop
  | base {p : PyData × Str} : p ∈ base13 → Th p
  | pair {p : PyData × Str} (b : Bool) : Th p → Th (.list [p.1, .int (if b then 1 else 0)], Str.ofString "[" ++ p.2 ++ tail2 b)
theorem f2cases (x : Int) : Int.fmod x 2 = 0 ∨ Int.fmod x 2 = 1 := by
  have h1 := Int.fmod_nonneg_of_pos x (b := 2) (by decide)
  have h2 := Int.fmod_lt_of_pos x (b := 2) (by decide)
  omega
theorem f5cases (x : Int) : Int.fmod x 5 = 0 ∨ Int.fmod x 5 = 1 ∨ Int.fmod x 5 = 2 ∨ Int.fmod x 5 = 3 ∨ Int.fmod x 5 = 4 := by
  have h1 := Int.fmod_nonneg_of_pos x (b := 5) (by decide)
  have h2 := Int.fmod_lt_of_pos x (b := 5) (by decide)
  generalize Int.fmod x 5 = z at h1 h2
  match z, h1, h2 with
  | .ofNat 0, _, _ => exact .inl rfl
  | .ofNat 1, _, _ => exact .inr (.inl rfl)
  | .ofNat 2, _, _ => exact .inr (.inr (.inl rfl))
  | .ofNat 3, _, _ => exact .inr (.inr (.inr (.inl rfl)))
  | .ofNat 4, _, _ => exact .inr (.inr (.inr (.inr rfl)))
  | .ofNat (n + 5), _, h => exact absurd (Int.ofNat_lt.mp h) (Nat.not_lt.mpr (Nat.le_add_left 5 n))
theorem f6cases (x : Int) : Int.fmod x 6 = 0 ∨ Int.fmod x 6 = 1 ∨ Int.fmod x 6 = 2 ∨ Int.fmod x 6 = 3 ∨ Int.fmod x 6 = 4 ∨ Int.fmod x 6 = 5 := by
  have h1 := Int.fmod_nonneg_of_pos x (b := 6) (by decide)
  have h2 := Int.fmod_lt_of_pos x (b := 6) (by decide)
  generalize Int.fmod x 6 = z at h1 h2
  match z, h1, h2 with
  | .ofNat 0, _, _ => exact .inl rfl
  | .ofNat 1, _, _ => exact .inr (.inl rfl)
  | .ofNat 2, _, _ => exact .inr (.inr (.inl rfl))
  | .ofNat 3, _, _ => exact .inr (.inr (.inr (.inl rfl)))
  | .ofNat 4, _, _ => exact .inr (.inr (.inr (.inr (.inl rfl))))
  | .ofNat 5, _, _ => exact .inr (.inr (.inr (.inr (.inr rfl))))
  | .ofNat (n + 6), _, h => exact absurd (Int.ofNat_lt.mp h) (Nat.not_lt.mpr (Nat.le_add_left 6 n))
theorem inB (k : Nat) (h : k < 13) : base13[k]'h ∈ base13 := List.getElem_mem _
theorem thg_th {y : Int} {a : PyData × Str} (h : Th a) : Th (thg y a) := by
  unfold thg
  split
  · rcases f5cases (Int.fdiv y 4) with e | e | e | e | e <;> rw [e]
    · exact .base (inB 0 (by decide))
    · exact .base (inB 1 (by decide))
    · exact .base (inB 2 (by decide))
    · exact .base (inB 3 (by decide))
    · exact .base (inB 4 (by decide))
  · split
    · rcases f6cases (Int.fdiv y 4) with e | e | e | e | e | e <;> rw [e]
      · exact .base (inB 5 (by decide))
      · exact .base (inB 6 (by decide))
      · exact .base (inB 7 (by decide))
      · exact .base (inB 8 (by decide))
      · exact .base (inB 9 (by decide))
      · exact .base (inB 10 (by decide))
    · split
      · rcases f2cases (Int.fdiv y 4) with e | e <;> rw [e]
        · exact .base (inB 11 (by decide))
        · exact .base (inB 12 (by decide))
      · rcases f2cases (Int.fdiv y 4) with e | e <;> rw [e]
        · exact .pair false h
        · exact .pair true h
theorem base_cases {P : PyData × Str → Prop} (h : ∀ k, (hk : k < 13) → P (base13[k]'hk)) : ∀ p ∈ base13, P p := fun p hp => by
  obtain ⟨k, hk, rfl⟩ := List.getElem_of_mem hp
  exact h k hk
theorem base_strOk : (base13.all fun p => PyData.strOk p.2) = true := by decide +kernel
theorem base_shown : (base13.all fun p => p.1.shown == p.2) = true := by decide +kernel
theorem base_depth : (base13.all fun p => decide (p.1.depth ≤ 1)) = true := by decide +kernel
theorem base_len : (base13.all fun p => decide (p.2.length ≤ 100)) = true := by decide +kernel
theorem texts_strOk : (texts.all fun p => PyData.strOk p.1) = true := by decide +kernel
theorem base_good : ∀ p ∈ base13, Good p.1 := fun p hp => by
  unfold base13 at hp
  rcases List.mem_append.mp hp with hp | hp
  · rcases List.mem_append.mp hp with hp | hp
    · simp only [ints13, List.mem_cons, List.not_mem_nil, or_false] at hp
      rcases hp with rfl | rfl | rfl | rfl | rfl <;> exact .int _ (by decide)
    · obtain ⟨q, hq, rfl⟩ := List.mem_map.mp hp
      exact .str _ (List.all_eq_true.mp texts_strOk q hq)
  · simp only [List.mem_cons, List.not_mem_nil, or_false] at hp
    rcases hp with rfl | rfl
    · exact .none
    · exact .nil
theorem Th.good {p : PyData × Str} (h : Th p) : Good p.1 := by
  induction h with
  | base h => exact base_good _ h
  | pair b _ ih => exact .pair _ (by cases b <;> decide) ih
theorem Th.ok {p : PyData × Str} (h : Th p) : PyData.strOk p.2 = true := by
  induction h with
  | base h => exact List.all_eq_true.mp base_strOk _ h
  | pair b _ ih => exact strOk_append (strOk_append (by decide +kernel) ih) (by cases b <;> decide +kernel)
theorem Th.shown {p : PyData × Str} (h : Th p) : p.1.shown = p.2 := by
  induction h with
  | base h => exact beq_iff_eq.mp (List.all_eq_true.mp base_shown _ h)
  | @pair p b _ ih =>
    show listText [p.1.shown, _] = _
    rw [ih]
    have e : ∀ s t : Str, listText [s, t] = Str.ofString "[" ++ s ++ (Str.ofString ", " ++ t ++ Str.ofString "]") := fun s t => by
      show (Str.ofString "[" ++ Str.ofString "" ++ s) ++ Str.ofString ", " ++ t ++ Str.ofString "]" = _
      rw [show Str.ofString "" = Str.empty by decide +kernel, Str.append_empty]
      simp only [Str.append_assoc]
    rw [e]
    have t0 : Str.ofString ", " ++ PyData.shown (.int 0) ++ Str.ofString "]" = tail2 false := by decide +kernel
    have t1 : Str.ofString ", " ++ PyData.shown (.int 1) ++ Str.ofString "]" = tail2 true := by decide +kernel
    cases b
    · exact congrArg _ t0
    · exact congrArg _ t1
noncomputable def tl (s : Str) : List Nat := s.cps.toList
theorem tl_append (a b : Str) : tl (a ++ b) = tl a ++ tl b := by unfold tl; rw [Str.cps_append, Array.toList_append]
theorem tl_inj {a b : Str} (h : tl a = tl b) : a = b := Str.ext' (Array.toList_inj.mp h)
theorem tl_len (a : Str) : (tl a).length = a.length := Array.length_toList
noncomputable def isPairW (s : Str) : Bool := decide (5 ≤ s.length) && (tl s).getLast? == some 93
theorem base_notPair : (base13.all fun p => !isPairW p.2) = true := by decide +kernel
theorem base_nodup : (base13.map (·.2)).Nodup := by decide +kernel
theorem pair_is (s : Str) (b : Bool) : isPairW (Str.ofString "[" ++ s ++ tail2 b) = true := by
  unfold isPairW
  rw [tl_append, List.getLast?_append, Str.length_append, Str.length_append]
  have h1 : (tl (tail2 b)).getLast? = some 93 := by cases b <;> decide +kernel
  have h2 : (tail2 b).length = 4 := by cases b <;> decide +kernel
  have h3 : (Str.ofString "[").length = 1 := by decide +kernel
  rw [h1, h2, h3]
  simp
theorem pair_inj {s s' : Str} {b b' : Bool} (h : Str.ofString "[" ++ s ++ tail2 b = Str.ofString "[" ++ s' ++ tail2 b') : s = s' ∧ b = b' := by
  have e := congrArg tl h
  rw [tl_append, tl_append, tl_append, tl_append] at e
  have hl : (tl (tail2 b)).length = (tl (tail2 b')).length := by cases b <;> cases b' <;> decide +kernel
  obtain ⟨e1, e2⟩ := List.append_inj' e hl
  refine ⟨tl_inj (List.append_cancel_left e1), ?_⟩
  cases b <;> cases b'
  · rfl
  · exact absurd e2 (by decide +kernel)
  · exact absurd e2 (by decide +kernel)
  · rfl
theorem Th.inj {p q : PyData × Str} (hp : Th p) (hq : Th q) (h : p.2 = q.2) : p.1 = q.1 := by
  induction hp generalizing q with
  | base hp =>
    cases hq with
    | base hq =>
      obtain ⟨i, hi, rfl⟩ := List.getElem_of_mem hp
      obtain ⟨j, hj, rfl⟩ := List.getElem_of_mem hq
      have hi' : i < (base13.map (·.2)).length := by rw [List.length_map]; exact hi
      have hj' : j < (base13.map (·.2)).length := by rw [List.length_map]; exact hj
      have := (List.getElem_inj (h₀ := hi') (h₁ := hj') base_nodup).mp (by simpa using h)
      subst this; rfl
    | pair b hq =>
      have := List.all_eq_true.mp base_notPair _ hp
      rw [h, pair_is] at this
      cases this
  | pair b hp ih =>
    cases hq with
    | base hq =>
      have := List.all_eq_true.mp base_notPair _ hq
      rw [← h, pair_is] at this
      cases this
    | pair b' hq =>
      obtain ⟨e1, rfl⟩ := pair_inj h
      rw [ih hq e1]
structure DrOk (p : PyData × Str) (n : Nat) : Prop where
  th : Th p
  dp : p.1.depth ≤ n + 1
  ln : p.2.length ≤ 100 + 100 * n
theorem thg_dp {y : Int} {a : PyData × Str} : (thg y a).1.depth ≤ a.1.depth + 1 ∨ thg y a ∈ base13 := by
  unfold thg
  split
  · right
    rcases f5cases (Int.fdiv y 4) with e | e | e | e | e <;> rw [e]
    · exact inB 0 (by decide)
    · exact inB 1 (by decide)
    · exact inB 2 (by decide)
    · exact inB 3 (by decide)
    · exact inB 4 (by decide)
  · split
    · right
      rcases f6cases (Int.fdiv y 4) with e | e | e | e | e | e <;> rw [e]
      · exact inB 5 (by decide)
      · exact inB 6 (by decide)
      · exact inB 7 (by decide)
      · exact inB 8 (by decide)
      · exact inB 9 (by decide)
      · exact inB 10 (by decide)
    · split
      · right
        rcases f2cases (Int.fdiv y 4) with e | e <;> rw [e]
        · exact inB 11 (by decide)
        · exact inB 12 (by decide)
      · left
        show max a.1.depth (max 0 0) + 1 ≤ _
        omega
theorem thg_ok {y : Int} {a : PyData × Str} {n : Nat} (h : DrOk a n) : DrOk (thg y a) (n + 1) := by
  refine ⟨thg_th h.th, ?_, ?_⟩
  · rcases thg_dp (y := y) (a := a) with e | e
    · have := h.dp; omega
    · have := of_decide_eq_true (List.all_eq_true.mp base_depth _ e); omega
  · have := thg_len y a
    have := h.ln
    omega
theorem DrOk.mono {p : PyData × Str} {n m : Nat} (h : DrOk p n) (hm : n ≤ m) : DrOk p m := ⟨h.th, by have := h.dp; omega, by have := h.ln; omega⟩
theorem drAll_ok (xs : List Int) : DrOk (drAll xs).2 xs.length ∧ (∀ q ∈ (drAll xs).1, DrOk q.2 xs.length) ∧ (drAll xs).1.length = xs.length := by
  have : ∀ n, ∀ xs : List Int, xs.length = n → DrOk (drAll xs).2 xs.length ∧ (∀ q ∈ (drAll xs).1, DrOk q.2 xs.length) ∧ (drAll xs).1.length = xs.length := by
    intro n
    induction n with
    | zero =>
      intro xs h
      obtain rfl := List.eq_nil_of_length_eq_zero h
      exact ⟨⟨.base (inB 11 (by decide)), by decide, by decide +kernel⟩, fun q hq => (nomatch hq), rfl⟩
    | succ n ih =>
      intro xs h
      obtain ⟨p, e, rfl⟩ : ∃ p e, xs = p ++ [e] := ⟨xs.dropLast, xs.getLast (by intro h'; rw [h'] at h; cases h), (List.dropLast_concat_getLast _).symm⟩
      obtain ⟨i1, i2, i3⟩ := ih p (by simpa using h)
      rw [drAll_snoc, List.length_append, List.length_singleton]
      unfold drStep
      refine ⟨thg_ok i1, fun q hq => ?_, by rw [List.length_append, i3]; rfl⟩
      rcases List.mem_append.mp hq with hq | hq
      · exact (i2 q hq).mono (Nat.le_succ _)
      · rw [List.mem_singleton.mp hq]; exact thg_ok i1
  exact this _ xs rfl
theorem eqv_dueD (p q : Str × Str) : PyData.eqv (dueD p) (dueD q) = decide (p = q) := by
  obtain ⟨a, b⟩ := p
  obtain ⟨c, d⟩ := q
  have e : PyData.eqv (dueD (a, b)) (dueD (c, d)) = (PyData.eqv (.str a) (.str c) && (PyData.eqv (.str b) (.str d) && true)) := by
    simp [dueD, PyData.eqv, PyData.eqvAll]
  rw [e, eqv_str, eqv_str]
  by_cases h1 : a = c <;> by_cases h2 : b = d <;> simp [h1, h2]
theorem any_dueD (l : List (Str × Str)) (q : Str × Str) : ((l.map dueD).any fun y => PyData.eqv y (dueD q)) = decide (q ∈ l) := by
  induction l with
  | nil => rfl
  | cons x r ih =>
    rw [List.map_cons, List.any_cons, ih, eqv_dueD]
    by_cases h1 : x = q
    · subst h1; simp
    · have h2 : ¬ q = x := fun e => h1 e.symm
      simp [h1, h2]
theorem eqv_th {p q : PyData × Str} (hp : Th p) (hq : Th q) : PyData.eqv p.1 q.1 = (p.2 == q.2) := by
  rw [Bool.eq_iff_iff, hp.good.eqv hq.good, beq_iff_eq]
  exact ⟨fun e => by rw [← hp.shown, ← hq.shown, e], fun e => hp.inj hq e⟩
theorem cnt_th {l : List (PyData × Str)} {p : PyData × Str} (hp : Th p) (hl : ∀ q ∈ l, Th q) : cnt (l.map (·.1)) p.1 = (l.map (·.2)).count p.2 := by
  unfold cnt
  induction l with
  | nil => rfl
  | cons x r ih =>
    rw [List.map_cons, List.map_cons, List.countP_cons, List.count_cons, ih fun q hq => hl q (.tail _ hq), eqv_th (hl x (.head _)) hp]
theorem dueName_eq (bf af : List Str) (w : Str) : dueName bf af w = chgName (af.count w, bf.count w, w) := rfl
section
variable {old new : List (PyData × Str)}
structure DueInv (old new pre : List (PyData × Str)) : Prop where
  du : (pre.map (·.2)).foldl (dueStep (old.map (·.2)) (new.map (·.2))) [] = ((cdSt (old.map (·.1)) (new.map (·.1)) (pre.map (·.1))).2.map rowChg).map chgP
  wd : ∀ c ∈ (cdSt (old.map (·.1)) (new.map (·.1)) (pre.map (·.1))).2.map rowChg, c.2.2 ∈ pre.map (·.2) ∧ c.1 = (new.map (·.2)).count c.2.2 ∧ c.2.1 = (old.map (·.2)).count c.2.2
  all : ∀ p ∈ pre, (new.map (·.2)).count p.2 ≠ (old.map (·.2)).count p.2 → ((new.map (·.2)).count p.2, (old.map (·.2)).count p.2, p.2) ∈ (cdSt (old.map (·.1)) (new.map (·.1)) (pre.map (·.1))).2.map rowChg
  nd : (((cdSt (old.map (·.1)) (new.map (·.1)) (pre.map (·.1))).2.map rowChg).map (·.2.2)).Nodup
theorem due_inv (ho : ∀ q ∈ old, Th q) (hn : ∀ q ∈ new, Th q) : ∀ (n : Nat) (pre : List (PyData × Str)), pre.length = n → (∀ q ∈ pre, Th q) → DueInv old new pre
  | 0, pre, h, _ => by
    obtain rfl := List.eq_nil_of_length_eq_zero h
    exact ⟨rfl, fun c hc => (nomatch hc), fun p hp => (nomatch hp), .nil⟩
  | n + 1, pre, h, hp => by
    obtain ⟨p, e, rfl⟩ : ∃ p e, pre = p ++ [e] := ⟨pre.dropLast, pre.getLast (by intro h'; rw [h'] at h; cases h), (List.dropLast_concat_getLast _).symm⟩
    have hpp : ∀ q ∈ p, Th q := fun q hq => hp q (List.mem_append.mpr (.inl hq))
    have he : Th e := hp e (by simp)
    have I := due_inv ho hn n p (by simpa using h) hpp
    obtain ⟨i1, _, _⟩ := cd_inv (old := old.map (·.1)) (new := new.map (·.1)) (p.map (·.1)).length (p.map (·.1)) rfl fun d hd => by obtain ⟨q, hq, rfl⟩ := List.mem_map.mp hd; exact (hpp q hq).good
    have gs : ∀ y ∈ (cdSt (old.map (·.1)) (new.map (·.1)) (p.map (·.1))).1, Good y := fun y hy => by
      obtain ⟨q, hq, rfl⟩ := List.mem_map.mp ((i1 y).mp hy); exact (hpp q hq).good
    have hseen : seenB (cdSt (old.map (·.1)) (new.map (·.1)) (p.map (·.1))).1 e.1 = true ↔ e.2 ∈ p.map (·.2) := by
      rw [seenB_iff gs he.good, i1]
      constructor
      · intro hm
        obtain ⟨q, hq, e1⟩ := List.mem_map.mp hm
        refine List.mem_map.mpr ⟨q, hq, ?_⟩
        rw [← (hpp q hq).shown, ← he.shown, e1]
      · intro hm
        obtain ⟨q, hq, e1⟩ := List.mem_map.mp hm
        exact List.mem_map.mpr ⟨q, hq, (hpp q hq).inj he e1⟩
    have hc1 := cnt_th he ho
    have hc2 := cnt_th he hn
    have e2 : (p ++ [e]).map (fun x : PyData × Str => x.2) = p.map (fun x => x.2) ++ [e.2] := by simp
    have e3 : cdSt (old.map (·.1)) (new.map (·.1)) ((p ++ [e]).map (·.1)) = cdStep (old.map (·.1)) (new.map (·.1)) (cdSt (old.map (·.1)) (new.map (·.1)) (p.map (·.1))) e.1 := by rw [List.map_append]; exact cd_snoc _ _ _ _
    obtain ⟨d1, d2, d3, d4⟩ := I
    generalize cdSt (old.map (·.1)) (new.map (·.1)) (p.map (·.1)) = st at i1 gs hseen e3 d1 d2 d3 d4
    unfold cdStep at e3
    rw [hc1, hc2] at e3
    have step : ((p ++ [e]).map (fun x : PyData × Str => x.2)).foldl (dueStep (old.map (·.2)) (new.map (·.2))) [] = dueStep (old.map (·.2)) (new.map (·.2)) ((st.2.map rowChg).map chgP) e.2 := by
      rw [e2, List.foldl_append, d1]; rfl
    have key : ∀ c ∈ st.2.map rowChg, c.2.2 = e.2 → e.2 ∈ p.map (·.2) := fun c hc hw => hw ▸ (d2 c hc).1
    by_cases hs : e.2 ∈ p.map (·.2)
    · rw [if_pos (hseen.mpr hs)] at e3
      have hold : (new.map (·.2)).count e.2 ≠ (old.map (·.2)).count e.2 → ((new.map (·.2)).count e.2, (old.map (·.2)).count e.2, e.2) ∈ st.2.map rowChg := fun hne => by
        obtain ⟨q, hq, e1⟩ := List.mem_map.mp hs
        have := d3 q hq
        rw [e1] at this
        exact this hne
      refine ⟨?_, ?_, ?_, ?_⟩
      · rw [step, e3]
        unfold dueStep
        split
        · rename_i hne
          have hne' : (new.map (·.2)).count e.2 ≠ (old.map (·.2)).count e.2 := fun q => by
            have h9 := bne_iff_ne.mp hne
            exact h9 (congrArg _ q)
          rw [any_dueD, if_neg]
          have := List.mem_map_of_mem (f := chgP) (hold hne')
          rw [dueName_eq]
          simpa [chgP] using this
        · rfl
      · rw [e3]
        intro c hc
        obtain ⟨a, b, c'⟩ := d2 c hc
        exact ⟨by rw [e2]; exact List.mem_append.mpr (.inl a), b, c'⟩
      · rw [e3]
        intro q hq hne
        rcases List.mem_append.mp hq with hq | hq
        · exact d3 q hq hne
        · rw [List.mem_singleton.mp hq] at hne ⊢
          exact hold hne
      · rw [e3]; exact d4
    · rw [if_neg (fun q => hs (hseen.mp q))] at e3
      by_cases hne : (new.map (·.2)).count e.2 = (old.map (·.2)).count e.2
      · have hb : ((old.map (·.2)).count e.2 != (new.map (·.2)).count e.2) = false := by rw [hne]; simp
        rw [hb] at e3
        refine ⟨?_, ?_, ?_, ?_⟩
        · rw [step, e3]
          unfold dueStep
          rw [if_neg (by rw [hne]; simp)]
          rfl
        · rw [e3]
          intro c hc
          obtain ⟨a, b, c'⟩ := d2 c hc
          exact ⟨by rw [e2]; exact List.mem_append.mpr (.inl a), b, c'⟩
        · rw [e3]
          intro q hq hne'
          rcases List.mem_append.mp hq with hq | hq
          · exact d3 q hq hne'
          · rw [List.mem_singleton.mp hq] at hne'
            exact absurd hne hne'
        · rw [e3]; exact d4
      · have hb : ((old.map (·.2)).count e.2 != (new.map (·.2)).count e.2) = true := bne_iff_ne.mpr fun q => hne q.symm
        rw [hb] at e3
        have e4 : (cdSt (old.map (·.1)) (new.map (·.1)) ((p ++ [e]).map (·.1))).2.map rowChg = st.2.map rowChg ++ [((new.map (·.2)).count e.2, (old.map (·.2)).count e.2, e.2)] := by
          rw [e3]
          show (st.2 ++ [_]).map rowChg = _
          rw [List.map_append]
          show _ ++ [((new.map (·.2)).count e.2, (old.map (·.2)).count e.2, e.1.shown)] = _
          rw [he.shown]
        refine ⟨?_, ?_, ?_, ?_⟩
        · rw [step, e4]
          unfold dueStep
          rw [if_pos (bne_iff_ne.mpr fun q => hne (by omega)), any_dueD, if_pos]
          · rw [List.map_append]; rfl
          · rw [Bool.not_eq_true']
            refine decide_eq_false fun hm => ?_
            obtain ⟨c, hc, e5⟩ := List.mem_map.mp hm
            exact hs (key c hc (congrArg Prod.snd e5))
        · rw [e4]
          intro c hc
          rcases List.mem_append.mp hc with hc | hc
          · obtain ⟨a, b, c'⟩ := d2 c hc
            exact ⟨by rw [e2]; exact List.mem_append.mpr (.inl a), b, c'⟩
          · rw [List.mem_singleton.mp hc, e2]
            exact ⟨List.mem_append.mpr (.inr (by simp)), rfl, rfl⟩
        · rw [e4]
          intro q hq hne'
          rcases List.mem_append.mp hq with hq | hq
          · exact List.mem_append.mpr (.inl (d3 q hq hne'))
          · rw [List.mem_singleton.mp hq]
            exact List.mem_append.mpr (.inr (by simp))
        · rw [e4, List.map_append, List.nodup_append]
          refine ⟨d4, by simp, fun a ha b hb' => ?_⟩
          obtain ⟨c, hc, rfl⟩ := List.mem_map.mp ha
          have hb2 : b = e.2 := by simpa using hb'
          rw [hb2]
          exact fun q => hs (key c hc q)
end
structure BInv (b : List (Str × Int)) (keys : List Str) (ct : Str → Nat) : Prop where
  ks : b.map (·.1) = keys
  nd : keys.Nodup
  val : ∀ w ∈ keys, bkAt b w = some (7 + ((ct w : Nat) : Int))
  zero : ∀ w, w ∉ keys → ct w = 0
theorem bkAt_cons (p : Str × Int) (b : List (Str × Int)) (k : Str) : bkAt (p :: b) k = if p.1 = k then some p.2 else bkAt b k := by
  unfold bkAt
  rw [List.find?_cons]
  by_cases h : p.1 = k <;> simp [h]
theorem bkAt_append (b : List (Str × Int)) (w : Str) (v : Int) (k : Str) : bkAt (b ++ [(w, v)]) k = match bkAt b k with | some i => some i | none => if w = k then some v else none := by
  induction b with
  | nil => show bkAt [(w, v)] k = _; rw [bkAt_cons]; rfl
  | cons p r ih =>
    rw [List.cons_append, bkAt_cons, bkAt_cons, ih]
    by_cases h : p.1 = k <;> simp [h]
theorem bkAt_map (b : List (Str × Int)) (w : Str) (v : Int) (k : Str) : bkAt (b.map fun p => if p.1 = w then (p.1, v) else p) k = if k = w then (if b.any (fun p => p.1 = w) then some v else none) else bkAt b k := by
  induction b with
  | nil => by_cases h : k = w <;> simp [bkAt, h]
  | cons p r ih =>
    rw [List.map_cons, bkAt_cons, ih, bkAt_cons]
    by_cases h : k = w
    · subst h
      rw [if_pos rfl, if_pos rfl, List.any_cons]
      by_cases h2 : p.1 = k
      · rw [if_pos h2, if_pos h2, decide_eq_true h2]; rfl
      · rw [if_neg h2, if_neg h2, decide_eq_false h2, Bool.false_or]
    · by_cases h2 : p.1 = w
      · have h3 : ¬ w = k := fun e => h e.symm
        simp [h, h2, h3]
      · simp [h, h2]
theorem any_keys (b : List (Str × Int)) (w : Str) : (b.any fun p => p.1 = w) = decide (w ∈ b.map (·.1)) := by
  induction b with
  | nil => rfl
  | cons p r ih =>
    rw [List.any_cons, ih]
    by_cases h : p.1 = w
    · subst h; simp
    · have h2 : ¬ w = p.1 := fun e => h e.symm
      simp [h, h2]
theorem bkPut_self (b : List (Str × Int)) (w : Str) (v : Int) : bkAt (bkPut b w v) w = some v := by
  unfold bkPut
  by_cases h : (b.any fun p => p.1 = w) = true
  · rw [if_pos h, bkAt_map, if_pos rfl, if_pos h]
  · rw [if_neg h, bkAt_append]
    rw [any_keys] at h
    have : bkAt b w = none := bkAt_none.mpr (by simpa using h)
    rw [this]; simp
theorem bkPut_ne (b : List (Str × Int)) {w k : Str} (v : Int) (hk : k ≠ w) : bkAt (bkPut b w v) k = bkAt b k := by
  unfold bkPut
  by_cases h : (b.any fun p => p.1 = w) = true
  · rw [if_pos h, bkAt_map, if_neg hk]
  · rw [if_neg h, bkAt_append]
    cases bkAt b k with
    | some i => rfl
    | none => simp [Ne.symm hk]
theorem bkPut_keys (b : List (Str × Int)) (w : Str) (v : Int) : (bkPut b w v).map (·.1) = layS (b.map (·.1)) w := by
  unfold bkPut layS
  by_cases h : (b.any fun p => p.1 = w) = true
  · rw [if_pos h, if_pos (by rw [any_keys] at h; simpa using h), List.map_map]
    refine List.map_congr_left fun p _ => ?_
    by_cases h2 : p.1 = w <;> simp [h2]
  · rw [if_neg h, if_neg (by rw [any_keys] at h; simpa using h), List.map_append]; rfl
theorem layS_nd {keys : List Str} {w : Str} (h : keys.Nodup) : (layS keys w).Nodup := by
  unfold layS
  by_cases hw : w ∈ keys
  · rw [if_pos hw]; exact h
  · rw [if_neg hw, List.nodup_append]
    exact ⟨h, by simp, fun a ha b hb => by have : b = w := by simpa using hb
                                           rw [this]; exact fun e => hw (e ▸ ha)⟩
theorem layS_mem {keys : List Str} {w x : Str} : x ∈ layS keys w ↔ x ∈ keys ∨ x = w := by
  unfold layS
  by_cases hw : w ∈ keys
  · rw [if_pos hw]
    exact ⟨.inl, fun h => h.elim id fun e => e ▸ hw⟩
  · rw [if_neg hw, List.mem_append, List.mem_singleton]
theorem addStep_inv {b : List (Str × Int)} {keys : List Str} {ct : Str → Nat} {frz : Bool} {n : Nat} {c : Chg} (I : BInv b keys ct) (h : c.2.1 = ct c.2.2) :
    BInv (addStep frz (b, n) c).1 (layS keys c.2.2) (fun x => if x = c.2.2 then c.1 else ct x) ∧ (addStep frz (b, n) c).2 + keys.length = n + (layS keys c.2.2).length := by
  obtain ⟨now, thn, w⟩ := c
  dsimp only at h
  subst h
  obtain ⟨ks, nd, val, zero⟩ := I
  by_cases hw : w ∈ keys
  · have hg : bkGet frz b w = (7 + ((ct w : Nat) : Int), b, 0) := by unfold bkGet; rw [val w hw]
    have hl : layS keys w = keys := if_pos hw
    refine ⟨⟨?_, layS_nd nd, fun x hx => ?_, fun x hx => ?_⟩, ?_⟩
    · show (bkPut (bkGet frz b w).2.1 w _).map (·.1) = _
      rw [hg, bkPut_keys, ks]
    · show bkAt (bkPut (bkGet frz b w).2.1 w ((bkGet frz b w).1 + (now : Nat) - (ct w : Nat))) x = _
      rw [hg]
      by_cases hx2 : x = w
      · subst hx2
        rw [bkPut_self, if_pos rfl]
        congr 1
        show (7 : Int) + (ct x : Nat) + (now : Nat) - (ct x : Nat) = 7 + (now : Nat)
        omega
      · rw [bkPut_ne _ _ hx2, if_neg hx2]
        rw [hl] at hx
        exact val x hx
    · rw [hl] at hx
      have : x ≠ w := fun e => hx (e ▸ hw)
      dsimp only
      rw [if_neg this]; exact zero x hx
    · show n + (bkGet frz b w).2.2 + keys.length = n + (layS keys w).length
      rw [hg, hl]; rfl
  · have hz := zero w hw
    have hnone : bkAt b w = none := bkAt_none.mpr (by rw [ks]; exact hw)
    have hg : bkGet frz b w = (7, cond frz b (b ++ [(w, 7)]), 1) := by unfold bkGet; rw [hnone]
    have hl : layS keys w = keys ++ [w] := if_neg hw
    have hk1 : layS ((cond frz b (b ++ [(w, 7)])).map (fun p : Str × Int => p.1)) w = keys ++ [w] := by
      cases frz
      · show layS ((b ++ [(w, (7 : Int))]).map (fun p : Str × Int => p.1)) w = _
        rw [List.map_append, ks]
        show layS (keys ++ [w]) w = _
        unfold layS; rw [if_pos (by simp)]
      · show layS (b.map (·.1)) w = _
        rw [ks]; exact hl
    have hk2 : ∀ x, x ≠ w → bkAt (cond frz b (b ++ [(w, 7)])) x = bkAt b x := fun x hx => by
      cases frz
      · show bkAt (b ++ [(w, 7)]) x = _
        rw [bkAt_append]
        cases bkAt b x with
        | some i => rfl
        | none => simp [Ne.symm hx]
      · rfl
    refine ⟨⟨?_, layS_nd nd, fun x hx => ?_, fun x hx => ?_⟩, ?_⟩
    · show (bkPut (bkGet frz b w).2.1 w _).map (·.1) = _
      rw [hg, bkPut_keys, hl]; exact hk1
    · show bkAt (bkPut (bkGet frz b w).2.1 w ((bkGet frz b w).1 + (now : Nat) - (ct w : Nat))) x = _
      rw [hg]
      by_cases hx2 : x = w
      · subst hx2
        rw [bkPut_self, if_pos rfl, hz]
        exact congrArg some (Int.sub_zero _)
      · rw [bkPut_ne _ _ hx2, if_neg hx2]
        show bkAt (cond frz b (b ++ [(w, 7)])) x = _
        rw [hk2 x hx2]
        exact val x ((layS_mem.mp hx).resolve_right hx2)
    · have hx1 : x ∉ keys := fun e => hx (layS_mem.mpr (.inl e))
      have hx2 : x ≠ w := fun e => hx (layS_mem.mpr (.inr e))
      dsimp only
      rw [if_neg hx2]; exact zero x hx1
    · show n + (bkGet frz b w).2.2 + keys.length = n + (layS keys w).length
      rw [hg, hl, List.length_append, List.length_singleton]
      show n + 1 + _ = _
      omega
theorem BInv.congr {b : List (Str × Int)} {keys : List Str} {ct ct' : Str → Nat} (I : BInv b keys ct) (h : ∀ x, ct' x = ct x) : BInv b keys ct' := by
  rw [show ct' = ct from funext h]; exact I
theorem addAll_inv {frz : Bool} : ∀ (cs : List Chg) {b : List (Str × Int)} {keys : List Str} {ct ct' : Str → Nat} {n : Nat}, BInv b keys ct → (cs.map (·.2.2)).Nodup → (∀ c ∈ cs, c.2.1 = ct c.2.2) → (∀ c ∈ cs, ct' c.2.2 = c.1) → (∀ x, x ∉ cs.map (·.2.2) → ct' x = ct x) →
    BInv (addAll frz (b, n) cs).1 (laid keys (cs.map (·.2.2))) ct' ∧ (addAll frz (b, n) cs).2 + keys.length = n + (laid keys (cs.map (·.2.2))).length
  | [], b, keys, ct, ct', n, I, _, _, _, h => ⟨I.congr fun x => h x (by simp), rfl⟩
  | c :: r, b, keys, ct, ct', n, I, nd, h1, h2, h3 => by
    obtain ⟨a1, a2⟩ := addStep_inv (frz := frz) (n := n) I (h1 c (.head _))
    rw [List.map_cons, List.nodup_cons] at nd
    have hne : ∀ c' ∈ r, c'.2.2 ≠ c.2.2 := fun c' hc e => nd.1 (e ▸ List.mem_map_of_mem (f := fun x : Chg => x.2.2) hc)
    obtain ⟨b1, b2⟩ := addAll_inv (frz := frz) r (ct' := ct') (n := (addStep frz (b, n) c).2) a1 nd.2 (fun c' hc => by rw [if_neg (hne c' hc)]; exact h1 c' (.tail _ hc)) (fun c' hc => h2 c' (.tail _ hc)) (fun x hx => by
      by_cases e : x = c.2.2
      · rw [if_pos e, e]; exact h2 c (.head _)
      · rw [if_neg e]; exact h3 x (by rw [List.map_cons, List.mem_cons]; exact fun q => q.elim e hx))
    refine ⟨b1, ?_⟩
    have b2' : (addAll frz (b, n) (c :: r)).2 + (layS keys c.2.2).length = (addStep frz (b, n) c).2 + (laid keys ((c :: r).map (·.2.2))).length := b2
    omega
theorem readF_inv : ∀ (ws : List Str) {b : List (Str × Int)} {keys : List Str} {ct : Str → Nat} {n : Nat} {vs : List Int}, BInv b keys ct →
    (ws.foldl (readStep false) (vs, b, n)).1 = vs ++ ws.map (fun w => (7 : Int) + ((ct w : Nat) : Int)) ∧ BInv (ws.foldl (readStep false) (vs, b, n)).2.1 (laid keys ws) ct ∧ (ws.foldl (readStep false) (vs, b, n)).2.2 + keys.length = n + (laid keys ws).length
  | [], b, keys, ct, n, vs, I => ⟨by simp, I, rfl⟩
  | w :: r, b, keys, ct, n, vs, I => by
    rw [List.foldl_cons]
    obtain ⟨ks, nd, val, zero⟩ := id I
    by_cases hw : w ∈ keys
    · have hg : bkGet false b w = (7 + ((ct w : Nat) : Int), b, 0) := by unfold bkGet; rw [val w hw]
      have hl : layS keys w = keys := if_pos hw
      have e : readStep false (vs, b, n) w = (vs ++ [7 + ((ct w : Nat) : Int)], b, n) := by unfold readStep; rw [hg]; rfl
      obtain ⟨a1, a2, a3⟩ := readF_inv r (n := n) (vs := vs ++ [7 + ((ct w : Nat) : Int)]) I
      have hl2 : laid keys (w :: r) = laid keys r := by show laid (layS keys w) r = _; rw [hl]
      rw [e, hl2]
      exact ⟨by rw [a1]; simp, a2, a3⟩
    · have hz := zero w hw
      have hnone : bkAt b w = none := bkAt_none.mpr (by rw [ks]; exact hw)
      have hg : bkGet false b w = (7, b ++ [(w, 7)], 1) := by unfold bkGet; rw [hnone]; rfl
      have hl : layS keys w = keys ++ [w] := if_neg hw
      have e : readStep false (vs, b, n) w = (vs ++ [7 + ((ct w : Nat) : Int)], b ++ [(w, 7)], n + 1) := by unfold readStep; rw [hg, hz]; rfl
      have I2 : BInv (b ++ [(w, 7)]) (keys ++ [w]) ct := by
        refine ⟨by rw [List.map_append, ks]; rfl, hl ▸ layS_nd nd, fun x hx => ?_, fun x hx => zero x fun e => hx (List.mem_append.mpr (.inl e))⟩
        rw [bkAt_append]
        rcases List.mem_append.mp hx with hx | hx
        · rw [val x hx]
        · have hxw : x = w := by simpa using hx
          subst hxw
          rw [hnone, hz]; simp
      obtain ⟨a1, a2, a3⟩ := readF_inv r (n := n + 1) (vs := vs ++ [7 + ((ct w : Nat) : Int)]) I2
      have hl2 : laid keys (w :: r) = laid (keys ++ [w]) r := by show laid (layS keys w) r = _; rw [hl]
      rw [e, hl2]
      rw [List.length_append, List.length_singleton] at a3
      exact ⟨by rw [a1]; simp, a2, by omega⟩
theorem readT_inv : ∀ (ws : List Str) {b : List (Str × Int)} {keys : List Str} {ct : Str → Nat} {n : Nat} {vs : List Int}, BInv b keys ct →
    (ws.foldl (readStep true) (vs, b, n)).1 = vs ++ ws.map (fun w => (7 : Int) + ((ct w : Nat) : Int)) ∧ (ws.foldl (readStep true) (vs, b, n)).2.1 = b ∧ (ws.foldl (readStep true) (vs, b, n)).2.2 = n + (ws.filter fun w => !decide (w ∈ keys)).length
  | [], b, keys, ct, n, vs, I => ⟨by simp, rfl, rfl⟩
  | w :: r, b, keys, ct, n, vs, I => by
    rw [List.foldl_cons]
    obtain ⟨ks, nd, val, zero⟩ := id I
    by_cases hw : w ∈ keys
    · have hg : bkGet true b w = (7 + ((ct w : Nat) : Int), b, 0) := by unfold bkGet; rw [val w hw]
      have e : readStep true (vs, b, n) w = (vs ++ [7 + ((ct w : Nat) : Int)], b, n) := by unfold readStep; rw [hg]; rfl
      obtain ⟨a1, a2, a3⟩ := readT_inv r (n := n) (vs := vs ++ [7 + ((ct w : Nat) : Int)]) I
      rw [e]
      exact ⟨by rw [a1]; simp, a2, by rw [a3, List.filter_cons, if_neg (by simp [hw])]⟩
    · have hz := zero w hw
      have hnone : bkAt b w = none := bkAt_none.mpr (by rw [ks]; exact hw)
      have hg : bkGet true b w = (7, b, 1) := by unfold bkGet; rw [hnone]; rfl
      have e : readStep true (vs, b, n) w = (vs ++ [7 + ((ct w : Nat) : Int)], b, n + 1) := by unfold readStep; rw [hg, hz]; rfl
      obtain ⟨a1, a2, a3⟩ := readT_inv r (n := n + 1) (vs := vs ++ [7 + ((ct w : Nat) : Int)]) I
      rw [e]
      exact ⟨by rw [a1]; simp, a2, by rw [a3, List.filter_cons, if_pos (by simp [hw]), List.length_cons]; omega⟩
section
open PySem.Builtin PySem.Builtin.Str PySem.StrLaws
noncomputable def eqS : Str := Str.ofString "="
theorem eqS_tl : tl eqS = [61] := by decide +kernel
theorem eqS_len : eqS.length = 1 := by decide +kernel
theorem kind_eq : PySem.Builtin.Str.strKind eqS = 1 := by decide +kernel
theorem kind_ge (x : Str) : 1 ≤ PySem.Builtin.Str.strKind x := by unfold PySem.Builtin.Str.strKind; split; exact Nat.le_refl _; split <;> decide
theorem at_iff (x : Str) (i : Nat) : At x eqS x.length i ↔ (tl x)[i]? = some 61 := by
  unfold At
  rw [eqS_len, subAt_eq]
  have e1 : eqS.cps.toList = [61] := eqS_tl
  rw [e1]
  have hl : (tl x).length = x.length := tl_len x
  show (i + 1 ≤ x.length ∧ (((tl x).drop i).take (eqS.length) == [61]) = true) ↔ _
  rw [eqS_len, ← hl]
  generalize tl x = L
  constructor
  · rintro ⟨h1, h2⟩
    have h2 := eq_of_beq h2
    rw [List.take_one, List.head?_drop] at h2
    rw [List.getElem?_eq_getElem h1] at h2 ⊢
    simpa using h2
  · intro h
    have h1 : i < L.length := by rcases Nat.lt_or_ge i L.length with q | q; exact q; rw [List.getElem?_eq_none q] at h; cases h
    refine ⟨h1, ?_⟩
    rw [beq_iff_eq, List.take_one, List.head?_drop, h]; rfl
theorem splitMax_eq {a b : Str} (ha : 61 ∉ tl a) : Txt.splitMax (a ++ eqS ++ b) eqS 1 = [a, b] := by
  have hlen : (a ++ eqS ++ b).length = a.length + 1 + b.length := by rw [Str.length_append, Str.length_append, eqS_len]
  have htl : tl (a ++ eqS ++ b) = tl a ++ [61] ++ tl b := by rw [tl_append, tl_append, eqS_tl]
  generalize hx : a ++ eqS ++ b = x at hlen htl
  have hat : ∀ i, At x eqS x.length i ↔ (tl x)[i]? = some 61 := at_iff x
  have hA : (tl x)[a.length]? = some 61 := by
    rw [htl, List.append_assoc, List.getElem?_append_right (by rw [tl_len]; exact Nat.le_refl _), tl_len, Nat.sub_self]; rfl
  have hocc : occurrences x eqS 0 x.length 1 = [a.length] := by
    rcases occ_head x eqS 1 (by decide) with ⟨_, h⟩ | ⟨i, r, h, h1, h2⟩
    · exact absurd ((hat _).mpr hA) (h _)
    · have hr := occ_length_le x eqS 0 x.length 1
      rw [h, List.length_cons] at hr
      have hr : r = [] := List.eq_nil_of_length_eq_zero (by omega)
      subst hr
      rw [h]
      congr 1
      rcases Nat.lt_trichotomy i a.length with q | q | q
      · have := (hat _).mp h1
        rw [htl, List.append_assoc, List.getElem?_append_left (by rw [tl_len]; exact q)] at this
        exact absurd (List.mem_of_getElem? this) ha
      · exact q
      · exact absurd ((hat _).mpr hA) (h2 _ q)
  unfold Txt.splitMax
  have hc : (decide (x.length < eqS.length) || decide (PySem.Builtin.Str.strKind x < PySem.Builtin.Str.strKind eqS)) = false := by
    rw [eqS_len, kind_eq]
    have := kind_ge x
    simp only [Bool.or_eq_false_iff, decide_eq_false_iff_not]
    omega
  rw [hc]
  have hlim : limitOf x 1 = 1 := rfl
  rw [hlim, hocc]
  show partsBetween x [a.length] eqS.length = _
  rw [eqS_len]
  show [strSub x 0 a.length, strSub x (a.length + 1) x.length] = _
  have t1 : tl (strSub x 0 a.length) = tl a := by
    show (strSub x 0 a.length).cps.toList = _
    rw [strSub_toList]
    show ((tl x).drop 0).take _ = _
    rw [htl, List.drop_zero, List.append_assoc, Nat.sub_zero]
    exact List.take_left' (tl_len a)
  have t2 : tl (strSub x (a.length + 1) x.length) = tl b := by
    show (strSub x (a.length + 1) x.length).cps.toList = _
    rw [strSub_toList]
    show ((tl x).drop _).take _ = _
    rw [htl]
    have : (tl a ++ [61] ++ tl b).drop (a.length + 1) = tl b := List.drop_left' (by rw [List.length_append, tl_len]; rfl)
    rw [this]
    exact List.take_of_length_le (by rw [tl_len]; omega)
  rw [tl_inj t1, tl_inj t2]
theorem strip_mid {p s q : Str} (hp : (tl p).all Unicode.isSpace = true) (hq : (tl q).all Unicode.isSpace = true) {c d : Nat} (h1 : (tl s).head? = some c) (h2 : (tl s).getLast? = some d) (hc : Unicode.isSpace c = false) (hd : Unicode.isSpace d = false) :
    Txt.strip (p ++ s ++ q) = s := by
  have htl : tl (p ++ s ++ q) = tl p ++ tl s ++ tl q := by rw [tl_append, tl_append]
  have hlen : (p ++ s ++ q).length = (tl p).length + (tl s).length + (tl q).length := by rw [Str.length_append, Str.length_append, tl_len, tl_len, tl_len]
  generalize hx : p ++ s ++ q = x at htl hlen
  have tw : ∀ (P S : List Nat), P.all Unicode.isSpace = true → S.head? = some c → (P ++ S).takeWhile Unicode.isSpace = P := by
    intro P S hP hS
    rw [List.takeWhile_append_of_pos (fun a ha => List.all_eq_true.mp hP a ha)]
    cases S with
    | nil => cases hS
    | cons y r =>
      have : y = c := by simpa using hS
      rw [this, List.takeWhile_cons_of_neg (by rw [hc]; decide), List.append_nil]
  have lo : stripLo Unicode.isSpace true x = (tl p).length := by
    unfold stripLo
    rw [if_pos rfl]
    show ((tl x).takeWhile Unicode.isSpace).length = _
    rw [htl, List.append_assoc, tw _ _ hp (by rw [List.head?_append, h1]; rfl)]
  have hi : stripHi Unicode.isSpace true x (tl p).length = (tl p).length + (tl s).length := by
    unfold stripHi
    rw [if_pos rfl]
    show x.length - (((tl x).drop _).reverse.takeWhile Unicode.isSpace).length = _
    rw [htl, List.append_assoc, List.drop_left, List.reverse_append, hlen]
    have : ((tl q).reverse ++ (tl s).reverse).takeWhile Unicode.isSpace = (tl q).reverse := by
      rw [List.takeWhile_append_of_pos (fun a ha => List.all_eq_true.mp hq a (List.mem_reverse.mp ha))]
      have h3 : (tl s).reverse.head? = some d := by rw [List.head?_reverse]; exact h2
      cases hS : (tl s).reverse with
      | nil => rw [hS] at h3; cases h3
      | cons y r =>
        rw [hS] at h3
        have : y = d := by simpa using h3
        rw [this, List.takeWhile_cons_of_neg (by rw [hd]; decide), List.append_nil]
    rw [this, List.length_reverse]
    omega
  have hsub : PySem.stripped Unicode.isSpace true true x = s := by
    unfold PySem.stripped
    rw [lo, hi]
    apply tl_inj
    show (strSub x _ _).cps.toList = _
    rw [strSub_toList]
    show ((tl x).drop _).take _ = _
    rw [htl, List.append_assoc, List.drop_left, Nat.add_sub_cancel_left]
    exact List.take_left
  unfold Txt.strip Txt.stripBy
  split
  · rename_i hs
    unfold stripSame at hs
    rw [lo, Bool.and_eq_true, beq_iff_eq, beq_iff_eq, hi] at hs
    unfold PySem.stripped at hsub
    rw [lo, hi] at hsub
    rw [← hsub, hs.1]
    have := hs.2
    rw [hs.1] at this
    rw [this]
    apply tl_inj
    show _ = (strSub x 0 x.length).cps.toList
    rw [strSub_toList]
    show tl x = ((tl x).drop 0).take _
    rw [List.drop_zero, Nat.sub_zero]
    exact (List.take_of_length_le (by rw [tl_len]; exact Nat.le_refl _)).symm
  · exact hsub
end
noncomputable def numOk (s : Str) : Bool := (tl s).all (fun c => decide (48 ≤ c) && decide (c ≤ 57)) && !(tl s).isEmpty && decide (s.length ≤ 2)
theorem num_fin : ∀ n : Fin 14, numOk (istr (n.val : Nat)) = true := by decide +kernel
theorem split_fin : ∀ n m : Fin 14, Txt.split (istr (n.val : Nat) ++ Str.ofString " for " ++ istr (m.val : Nat)) (Str.ofString " for ") = [istr (n.val : Nat), istr (m.val : Nat)] := by decide +kernel
theorem dig_space : ∀ c : Fin 10, PySem.Unicode.isSpace (c.val + 48) = false := by decide +kernel
theorem blank_fin : ∀ k : Fin 3, ((tl (blankOf ((k.val : Nat) : Int))).all PySem.Unicode.isSpace && decide ((blankOf ((k.val : Nat) : Int)).length ≤ 3) && !(tl (blankOf ((k.val : Nat) : Int))).contains 61) = true := by decide +kernel
noncomputable def wordOk (s : Str) : Bool := (tl s).head?.any (fun c => !PySem.Unicode.isSpace c) && (tl s).getLast?.any (fun c => !PySem.Unicode.isSpace c)
theorem base_word : (base13.all fun p => wordOk p.2) = true := by decide +kernel
structure NumP (s : Str) : Prop where
  dig : ∀ c ∈ tl s, 48 ≤ c ∧ c ≤ 57
  ne : tl s ≠ []
  ln : s.length ≤ 2
theorem numP {n : Nat} (h : n < 14) : NumP (istr (n : Nat)) := by
  have e := num_fin ⟨n, h⟩
  unfold numOk at e
  rw [Bool.and_eq_true, Bool.and_eq_true] at e
  obtain ⟨⟨e1, e2⟩, e3⟩ := e
  refine ⟨fun c hc => ?_, fun q => ?_, of_decide_eq_true e3⟩
  · have := List.all_eq_true.mp e1 c hc
    rw [Bool.and_eq_true] at this
    exact ⟨of_decide_eq_true this.1, of_decide_eq_true this.2⟩
  · rw [q] at e2; cases e2
theorem dig_sp {c : Nat} (h : 48 ≤ c ∧ c ≤ 57) : PySem.Unicode.isSpace c = false := by
  have := dig_space ⟨c - 48, by omega⟩
  rwa [show c - 48 + 48 = c by omega] at this
theorem NumP.head {s : Str} (h : NumP s) : ∃ c, (tl s).head? = some c ∧ PySem.Unicode.isSpace c = false := by
  cases e : tl s with
  | nil => exact absurd e h.ne
  | cons c r => exact ⟨c, rfl, dig_sp (h.dig c (by rw [e]; exact .head _))⟩
theorem NumP.last {s : Str} (h : NumP s) : ∃ c, (tl s).getLast? = some c ∧ PySem.Unicode.isSpace c = false := by
  refine ⟨(tl s).getLast h.ne, List.getLast?_eq_some_getLast h.ne, dig_sp (h.dig _ (List.getLast_mem h.ne))⟩
structure BlankP (s : Str) : Prop where
  sp : (tl s).all PySem.Unicode.isSpace = true
  ln : s.length ≤ 3
  ne : 61 ∉ tl s
theorem blankP (k : Int) : BlankP (blankOf k) := by
  have h1 := Int.fmod_nonneg_of_pos k (b := 3) (by decide)
  have h2 := Int.fmod_lt_of_pos k (b := 3) (by decide)
  obtain ⟨j, hj⟩ : ∃ j : Fin 3, blankOf k = blankOf ((j.val : Nat) : Int) := by
    unfold blankOf
    obtain e | e | e : Int.fmod k 3 = 0 ∨ Int.fmod k 3 = 1 ∨ Int.fmod k 3 = 2 := by omega
    · exact ⟨0, by rw [e]; rfl⟩
    · exact ⟨1, by rw [e]; rfl⟩
    · exact ⟨2, by rw [e]; rfl⟩
  rw [hj]
  have e := blank_fin j
  rw [Bool.and_eq_true, Bool.and_eq_true] at e
  refine ⟨e.1.1, of_decide_eq_true e.1.2, fun q => ?_⟩
  have := e.2
  rw [Bool.not_eq_true'] at this
  rw [List.contains_iff_mem.mpr q] at this
  cases this
theorem Th.word {p : PyData × Str} (h : Th p) : ∃ c d, (tl p.2).head? = some c ∧ (tl p.2).getLast? = some d ∧ PySem.Unicode.isSpace c = false ∧ PySem.Unicode.isSpace d = false := by
  cases h with
  | base h =>
    have e := List.all_eq_true.mp base_word _ h
    unfold wordOk at e
    rw [Bool.and_eq_true] at e
    obtain ⟨e1, e2⟩ := e
    cases hc : (tl _).head? with
    | none => rw [hc] at e1; cases e1
    | some c =>
      cases hd : (tl _).getLast? with
      | none => rw [hd] at e2; cases e2
      | some d =>
        rw [hc] at e1
        rw [hd] at e2
        exact ⟨c, d, rfl, rfl, by simpa using e1, by simpa using e2⟩
  | @pair p b _ =>
    refine ⟨91, 93, ?_, ?_, by decide +kernel, by decide +kernel⟩
    · rw [tl_append, tl_append, show tl (Str.ofString "[") = [91] by decide +kernel]; rfl
    · rw [tl_append, List.getLast?_append, show (tl (tail2 b)).getLast? = some 93 by cases b <;> decide +kernel]; rfl
theorem for_tl : 61 ∉ tl (Str.ofString " for ") := by decide +kernel
theorem for_len : (Str.ofString " for ").length = 5 := by decide +kernel
theorem parse_ok {k : Nat} {r : Row} {w : PyData × Str} (h1 : r.1 < 14) (h2 : r.2.1 < 14) (hw : Th w) (e : r.2.2 = w.1) (hl : w.2.length ≤ 10000) :
    (writtenOf k r).length ≤ 1000000 ∧ ∃ a b, Txt.splitMax (writtenOf k r) (Str.ofString "=") 1 = [a, b] ∧ Txt.strip a = chgName (rowChg r) ∧ Txt.strip b = (rowChg r).2.2 := by
  have n1 := numP h1
  have n2 := numP h2
  have bl := blankP (k : Int)
  have hs : r.2.2.shown = w.2 := by rw [e]; exact hw.shown
  have hx : writtenOf k r = (blankOf (k : Int) ++ (istr (r.2.1 : Nat) ++ Str.ofString " for " ++ istr (r.1 : Nat)) ++ blankOf (k : Int)) ++ eqS ++ (blankOf (k : Int) ++ w.2 ++ blankOf (k : Int)) := by
    unfold writtenOf
    rw [hs]
    simp only [Str.append_assoc]
    rfl
  have hne : 61 ∉ tl (blankOf (k : Int) ++ (istr (r.2.1 : Nat) ++ Str.ofString " for " ++ istr (r.1 : Nat)) ++ blankOf (k : Int)) := by
    simp only [tl_append, List.mem_append, not_or]
    have d1 : 61 ∉ tl (istr (r.2.1 : Nat)) := fun q => by have := n2.dig 61 q; omega
    have d2 : 61 ∉ tl (istr (r.1 : Nat)) := fun q => by have := n1.dig 61 q; omega
    exact ⟨⟨bl.ne, ⟨d1, for_tl⟩, d2⟩, bl.ne⟩
  refine ⟨?_, blankOf (k : Int) ++ (istr (r.2.1 : Nat) ++ Str.ofString " for " ++ istr (r.1 : Nat)) ++ blankOf (k : Int), blankOf (k : Int) ++ w.2 ++ blankOf (k : Int), by rw [hx]; exact splitMax_eq hne, ?_, ?_⟩
  · rw [hx]
    simp only [Str.length_append, eqS_len, for_len]
    have := n1.ln; have := n2.ln; have := bl.ln
    omega
  · obtain ⟨c, hc, sc⟩ := n2.head
    obtain ⟨d, hd, sd⟩ := n1.last
    exact strip_mid (c := c) (d := d) bl.sp bl.sp (by rw [tl_append, tl_append, List.append_assoc, List.head?_append, hc]; rfl) (by rw [tl_append, List.getLast?_append, hd]; rfl) sc sd
  · obtain ⟨c, d, hc, hd, sc, sd⟩ := hw.word
    show _ = r.2.2.shown
    rw [hs]
    exact strip_mid bl.sp bl.sp hc hd sc sd
theorem xs_len (ns : List Int) : (xsOf ns).length ≤ 13 := by
  unfold xsOf
  simp only [List.length_append, List.length_cons, List.length_nil, List.length_take]
  omega
theorem dr_ok (ns : List Int) : (∀ q ∈ drOf ns, DrOk q.2 13) ∧ (drOf ns).length ≤ 13 := by
  obtain ⟨_, h2, h3⟩ := drAll_ok (xsOf ns)
  have := xs_len ns
  exact ⟨fun q hq => (h2 q hq).mono this, by unfold drOf; omega⟩
theorem bag_ok (ns : List Int) (k : Nat) : (∀ p ∈ bagK ns k, DrOk p 13) ∧ (bagK ns k).length ≤ 13 := by
  obtain ⟨h1, h2⟩ := dr_ok ns
  have hb : ∀ b ∈ bagsAll (drOf ns), (∀ p ∈ b, DrOk p 13) ∧ b.length ≤ 13 := fun b hb => by
    have hbag : ∀ f, (∀ p ∈ bagOf f (drOf ns), DrOk p 13) ∧ (bagOf f (drOf ns)).length ≤ 13 := fun f => by
      unfold bagOf
      refine ⟨fun p hp => ?_, by rw [List.length_map]; exact Nat.le_trans (List.length_filter_le _ _) h2⟩
      obtain ⟨q, hq, rfl⟩ := List.mem_map.mp hp
      exact h1 q (List.mem_filter.mp hq).1
    have hnil : (∀ p ∈ ([] : List (PyData × Str)), DrOk p 13) ∧ ([] : List (PyData × Str)).length ≤ 13 := ⟨fun p hp => (nomatch hp), by decide⟩
    unfold bagsAll at hb
    simp only [List.map_cons, List.map_nil, List.cons_append, List.nil_append, List.mem_cons, List.not_mem_nil, or_false] at hb
    rcases hb with rfl | rfl | rfl | rfl | rfl
    · exact hnil
    · exact hbag _
    · exact hbag _
    · exact hbag _
    · exact hnil
  unfold bagK
  rw [List.getD_eq_getElem?_getD]
  rcases Nat.lt_or_ge k (bagsAll (drOf ns)).length with h | h
  · rw [List.getElem?_eq_getElem h]; exact hb _ (List.getElem_mem h)
  · rw [List.getElem?_eq_none h]; exact ⟨fun p hp => (nomatch hp), by decide⟩
noncomputable def ctK (ns : List Int) (k : Nat) (w : Str) : Nat := ((bagK ns k).map (·.2)).count w
theorem dueK (ns : List Int) (k : Nat) : DueInv (bagK ns k) (bagK ns (k + 1)) (bagK ns k ++ bagK ns (k + 1)) :=
  due_inv (fun q hq => ((bag_ok ns k).1 q hq).th) (fun q hq => ((bag_ok ns (k + 1)).1 q hq).th) _ _ rfl fun q hq => by
    rcases List.mem_append.mp hq with hq | hq
    · exact ((bag_ok ns k).1 q hq).th
    · exact ((bag_ok ns (k + 1)).1 q hq).th
theorem rowsK_eq (ns : List Int) (k : Nat) : rowsK ns k = (cdSt ((bagK ns k).map (·.1)) ((bagK ns (k + 1)).map (·.1)) ((bagK ns k ++ bagK ns (k + 1)).map (·.1))).2 := by
  unfold rowsK cdiff thingsK
  rw [List.map_append]
theorem csK_eq (ns : List Int) (k : Nat) : csK ns k = (cdSt ((bagK ns k).map (·.1)) ((bagK ns (k + 1)).map (·.1)) ((bagK ns k ++ bagK ns (k + 1)).map (·.1))).2.map rowChg := by
  unfold csK; rw [rowsK_eq]
theorem row_ok (ns : List Int) (k : Nat) : (rowsK ns k).length ≤ 26 ∧ ∀ r ∈ rowsK ns k, ∃ w : PyData × Str, DrOk w 13 ∧ r.2.2 = w.1 ∧ r.1 < 14 ∧ r.2.1 < 14 := by
  have hth : ∀ q ∈ bagK ns k ++ bagK ns (k + 1), DrOk q 13 := fun q hq => by
    rcases List.mem_append.mp hq with hq | hq
    · exact (bag_ok ns k).1 q hq
    · exact (bag_ok ns (k + 1)).1 q hq
  have l1 := (bag_ok ns k).2
  have l2 := (bag_ok ns (k + 1)).2
  obtain ⟨_, c2, c3⟩ := cd_inv (old := (bagK ns k).map (·.1)) (new := (bagK ns (k + 1)).map (·.1)) ((bagK ns k ++ bagK ns (k + 1)).map (·.1)).length _ rfl fun d hd => by
    obtain ⟨q, hq, rfl⟩ := List.mem_map.mp hd; exact (hth q hq).th.good
  rw [rowsK_eq]
  refine ⟨by rw [List.length_map, List.length_append] at c2; omega, fun r hr => ?_⟩
  obtain ⟨a, b, c⟩ := c3 r hr
  obtain ⟨q, hq, e⟩ := List.mem_map.mp a
  have m1 := cnt_le ((bagK ns k).map (·.1)) r.2.2
  have m2 := cnt_le ((bagK ns (k + 1)).map (·.1)) r.2.2
  rw [List.length_map] at m1 m2
  exact ⟨q, hth q hq, e.symm, by omega, by omega⟩
theorem cs_facts (ns : List Int) (k : Nat) : ((csK ns k).map (·.2.2)).Nodup ∧ (∀ c ∈ csK ns k, c.2.1 = ctK ns k c.2.2) ∧ (∀ c ∈ csK ns k, ctK ns (k + 1) c.2.2 = c.1) ∧ ∀ x, x ∉ (csK ns k).map (·.2.2) → ctK ns (k + 1) x = ctK ns k x := by
  obtain ⟨d1, d2, d3, d4⟩ := dueK ns k
  rw [← csK_eq] at d1 d2 d3 d4
  refine ⟨d4, fun c hc => (d2 c hc).2.2, fun c hc => (d2 c hc).2.1.symm, fun x hx => ?_⟩
  rcases Nat.decEq (ctK ns (k + 1) x) (ctK ns k x) with q | q
  · exfalso
    have hm : x ∈ (bagK ns k ++ bagK ns (k + 1)).map (·.2) := by
      rw [List.map_append, List.mem_append]
      rcases Nat.eq_zero_or_pos (ctK ns k x) with h | h
      · right
        exact List.count_pos_iff.mp (show 0 < ctK ns (k + 1) x by omega)
      · left
        exact List.count_pos_iff.mp h
    obtain ⟨p, hp, rfl⟩ := List.mem_map.mp hm
    exact hx (List.mem_map.mpr ⟨_, d3 p hp q, rfl⟩)
  · exact q
structure Inv (ns : List Int) (k : Nat) (s : LSt) : Prop where
  i1 : BInv s.b1 s.kept (ctK ns k)
  i2 : BInv s.b2 s.stored (ctK ns k)
  n : s.n = s.kept.length + s.stored.length + s.vain
theorem inv_round {ns : List Int} {k : Nat} {s : LSt} (I : Inv ns k s) : (read1 ns k s).1 = countsK ns k ∧ (read2 ns k s).1 = countsK ns k ∧ Inv ns (k + 1) (roundK ns k s) := by
  obtain ⟨c1, c2, c3, c4⟩ := cs_facts ns k
  obtain ⟨a1, a2⟩ := addAll_inv (frz := false) (csK ns k) (n := s.n) I.i1 c1 c2 c3 c4
  obtain ⟨b1, b2⟩ := addAll_inv (frz := decide (0 < k)) (csK ns k) (n := (add1 ns k s).2) I.i2 c1 c2 c3 c4
  obtain ⟨r1, r2, r3⟩ := readF_inv (askedOf ns) (n := (add2 ns k s).2) (vs := []) a1
  obtain ⟨t1, t2, t3⟩ := readT_inv (askedOf ns) (n := (read1 ns k s).2.2) (vs := []) b1
  have hn := I.n
  have hcnt : (askedOf ns).map (fun w => (7 : Int) + ((ctK ns (k + 1) w : Nat) : Int)) = countsK ns k := by
    unfold countsK
    refine List.map_congr_left fun w _ => ?_
    congr 2
    unfold ctK
    rw [List.count_eq_countP, List.countP_map, List.countP_eq_length_filter]
    rfl
  have e1 : (add1 ns k s).2 + s.kept.length = s.n + (laid s.kept ((csK ns k).map (·.2.2))).length := a2
  have e2 : (add2 ns k s).2 + s.stored.length = (add1 ns k s).2 + (laid s.stored ((csK ns k).map (·.2.2))).length := b2
  have e3 : (read1 ns k s).2.2 + (laid s.kept ((csK ns k).map (·.2.2))).length = (add2 ns k s).2 + (laid (laid s.kept ((csK ns k).map (·.2.2))) (askedOf ns)).length := r3
  have e4 : (read2 ns k s).2.2 = (read1 ns k s).2.2 + ((askedOf ns).filter fun w => !decide (w ∈ laid s.stored ((csK ns k).map (·.2.2)))).length := t3
  refine ⟨by rw [← hcnt]; exact r1, by rw [← hcnt]; exact t1, ⟨r2, ?_, ?_⟩⟩
  · show BInv (read2 ns k s).2.1 _ _
    have : (read2 ns k s).2.1 = (add2 ns k s).1 := t2
    rw [this]; exact b1
  · show (read2 ns k s).2.2 = (laid (laid s.kept ((csK ns k).map (·.2.2))) (askedOf ns)).length + (laid s.stored ((csK ns k).map (·.2.2))).length + (s.vain + ((askedOf ns).filter fun one => !decide (one ∈ laid s.stored ((csK ns k).map (·.2.2)))).length)
    omega
theorem inv_at (ns : List Int) : ∀ k, Inv ns k (stAt ns k)
  | 0 => ⟨⟨rfl, .nil, fun _ h => (nomatch h), fun _ _ => rfl⟩, ⟨rfl, .nil, fun _ h => (nomatch h), fun _ _ => rfl⟩, rfl⟩
  | k + 1 => (inv_round (inv_at ns k)).2.2
theorem plain_ok (ns : List Int) : PlainOk ns := by
  have hcl : ∀ k, (csK ns k).length = (rowsK ns k).length := fun k => by unfold csK; rw [List.length_map]
  refine ⟨fun k p hp => ?_, fun k r hr => ?_, fun k => (bag_ok ns k).2, fun x hx => ?_, (dr_ok ns).2, fun k => by rw [hcl]; exact (row_ok ns k).1, fun k c hc => ?_, fun k => ?_, fun k i hi => ?_, fun k c hc => ?_, fun k _ => (inv_round (inv_at ns k)).1, fun k _ => (inv_round (inv_at ns k)).2.1, (inv_at ns 4).i1.ks, (inv_at ns 4).i2.ks, (inv_at ns 4).n⟩
  · have h := (bag_ok ns k).1 p hp
    refine ⟨h.th.good, by have := h.dp; omega, h.th.ok, ?_⟩
    rw [h.th.shown]; have := h.ln; omega
  · obtain ⟨w, h, e, h1, h2⟩ := (row_ok ns k).2 r hr
    refine ⟨by rw [e]; exact h.th.good, by rw [e]; have := h.dp; omega, by rw [e, h.th.shown]; have := h.ln; omega, by omega, by omega⟩
  · obtain ⟨q, hq, rfl⟩ := List.mem_map.mp hx
    exact ((dr_ok ns).1 q hq).th.ok
  · obtain ⟨r, hr, rfl⟩ := List.mem_map.mp hc
    obtain ⟨w, h, e, h1, h2⟩ := (row_ok ns k).2 r hr
    refine ⟨?_, by show r.2.1 ≤ _; omega, by show r.1 ≤ _; omega⟩
    show PyData.strOk r.2.2.shown = true
    rw [e, h.th.shown]; exact h.th.ok
  · have := (dueK ns k).du
    rw [← csK_eq, List.map_append] at this
    exact this
  · have hi' : i < (rowsK ns k).length := by rw [← hcl]; exact hi
    obtain ⟨w, h, e, h1, h2⟩ := (row_ok ns k).2 _ (List.getElem_mem hi')
    obtain ⟨p1, a, b, p2, p3, p4⟩ := parse_ok (k := i) h1 h2 h.th e (by have := h.ln; omega)
    have ec : (csK ns k)[i] = rowChg (rowsK ns k)[i] := List.getElem_map ..
    refine ⟨by unfold writtenAll; rw [List.length_mapIdx, hcl], writtenOf i (rowsK ns k)[i], a, b, ?_, p1, p2, by rw [ec]; exact p3, by rw [ec]; exact p4⟩
    unfold writtenAll
    rw [List.getElem?_mapIdx, List.getElem?_eq_getElem hi']; rfl
  · obtain ⟨r, hr, rfl⟩ := List.mem_map.mp hc
    obtain ⟨w, h, e, h1, h2⟩ := (row_ok ns k).2 r hr
    exact split_fin ⟨r.2.1, h2⟩ ⟨r.1, h1⟩
theorem the_row : PySem.Challenge.rw_in0011_01.Holds := join_row plain_ok
end Mine
theorem PySem.Challenge.cw_in0011_01_holds : PySem.Challenge.rw_in0011_01.Holds :=
  Mine.the_row

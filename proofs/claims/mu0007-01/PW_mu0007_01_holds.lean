import PyProof.Rows.All
import Open.Line
import OpenK.KWalk
import Open.Boot
import Open.Tree
import Open.FastRun
import Open.FastT9
import KE.KPar
import KE.KSortAsk
import PySem.Challenge.RW_mu0007_01
open PySem PySem.W PyProof.Rows
set_option Elab.async false
set_option maxRecDepth 100000
set_option linter.unusedSimpArgs false
set_option linter.unusedVariables false
set_option genSizeOf false
set_option genInjectivity false
namespace Mine.Internal
section
set_option maxHeartbeats 0
noncomputable abbrev pw : Program := PySem.Challenge.pw_mu0007_01
noncomputable abbrev s (x : String) : Str := Str.ofString x
noncomputable def noPos : Pos := ⟨0, 0, 0, 0⟩
noncomputable def stI (i : Nat) : Stmt := pw.main.body.getD i (.Pass noPos)
noncomputable def clB : Stmt → List Stmt
 | .ClassDef _ _ _ b _ _ _ _ _ _ _ => b
 | _ => []
noncomputable def meI (i j : Nat) : Stmt := (clB (stI i)).getD j (.Pass noPos)
noncomputable def fA : Stmt → Arguments
 | .FunctionDef _ a _ _ _ _ _ _ _ _ => a
 | _ => ⟨[], [], none, [], [], none, []⟩
noncomputable def fB : Stmt → List Stmt
 | .FunctionDef _ _ b _ _ _ _ _ _ _ => b
 | _ => []
noncomputable def fS : Stmt → Scope
 | .FunctionDef _ _ _ _ _ _ sc _ _ _ => sc
 | _ => { kind := .module, names := [], isGenerator := false, isCoroutine := false, more := [] }
noncomputable def docC : Const → Str
 | .str x => x
 | _ => Str.ofString ""
noncomputable def docE : Expr → Str
 | .Constant x _ _ => docC x
 | _ => Str.ofString ""
noncomputable def docS : Stmt → Str
 | .Expr e _ => docE e
 | _ => Str.ofString ""
noncomputable def docB : List Stmt → Str
 | [] => Str.ofString ""
 | st :: _ => docS st
noncomputable def fDoc (st : Stmt) : Str := docB (fB st)
noncomputable def docOf (st : Stmt) : Str := docB (clB st)
noncomputable def setC (x : Str) : Const → Const
 | .str _ => .str x
 | k => k
noncomputable def setE (x : Str) : Expr → Expr
 | .Constant k u p => .Constant (setC x k) u p
 | e => e
noncomputable def setSt (x : Str) : Stmt → Stmt
 | .Expr e p => .Expr (setE x e) p
 | st => st
noncomputable def setB (x : Str) : List Stmt → List Stmt
 | [] => []
 | st :: r => setSt x st :: r
noncomputable def setDoc (x : Str) : Stmt → Stmt
 | .ClassDef n b k bd d t sc ts bi st pos => .ClassDef n b k (setB x bd) d t sc ts bi st pos
 | st => st
theorem setC_self (k : Const) : setC (docC k) k = k := by cases k <;> rfl
theorem setE_self (e : Expr) : setE (docE e) e = e := by
 cases e
 case Constant k u p => exact congrArg (fun k => Expr.Constant k u p) (setC_self k)
 all_goals rfl
theorem setSt_self (st : Stmt) : setSt (docS st) st = st := by
 cases st
 case Expr e p => exact congrArg (fun e => Stmt.Expr e p) (setE_self e)
 all_goals rfl
theorem setB_self (b : List Stmt) : setB (docB b) b = b := by
 cases b with
 | nil => rfl
 | cons st r => exact congrArg (· :: r) (setSt_self st)
theorem setDoc_self (st : Stmt) : setDoc (docOf st) st = st := by
 cases st
 case ClassDef n b k bd d t sc ts bi st pos => exact congrArg (fun bd => Stmt.ClassDef n b k bd d t sc ts bi st pos) (setB_self bd)
 all_goals rfl
noncomputable def mapAt (i : Nat) (f : Stmt → Stmt) : List Stmt → List Stmt
 | [] => []
 | st :: r => match i with | 0 => f st :: r | i + 1 => st :: mapAt i f r
theorem mapAt_self (f : Stmt → Stmt) (i : Nat) (l : List Stmt) (h : f (l.getD i (.Pass noPos)) = l.getD i (.Pass noPos)) : mapAt i f l = l := by
 induction l generalizing i with
 | nil => cases i <;> rfl
 | cons st r ih =>
  cases i with
  | zero => exact congrArg (· :: r) h
  | succ i => exact congrArg (st :: ·) (ih i h)
noncomputable def doc5 : { d : Str // docOf (stI 5) = d } := ⟨_, (show Str.ofString _ = _ from PySem.W.Fast.ofString_ofList _)⟩
noncomputable def doc13 : { d : Str // docOf (stI 13) = d } := ⟨_, (show Str.ofString _ = _ from PySem.W.Fast.ofString_ofList _)⟩
noncomputable def doc14 : { d : Str // docOf (stI 14) = d } := ⟨_, (show Str.ofString _ = _ from PySem.W.Fast.ofString_ofList _)⟩
noncomputable def o3 (P : Params) : Obj := ⟨(.type "dict"), none, (.dict [⟨PyData.keyHash P (s "__name__"), (.str (s "__name__") 165), (.str (s "law_mu0007_01") 805)⟩, ⟨PyData.keyHash P (s "__doc__"), (.str (s "__doc__") 166), .none⟩, ⟨PyData.keyHash P (s "__package__"), (.str (s "__package__") 167), .none⟩, ⟨PyData.keyHash P (s "__loader__"), (.str (s "__loader__") 168), (.builtin "__main__.__loader__#opaque")⟩, ⟨PyData.keyHash P (s "__spec__"), (.str (s "__spec__") 169), .none⟩, ⟨PyData.keyHash P (s "__annotations__"), (.str (s "__annotations__") 170), (.ref 6)⟩, ⟨PyData.keyHash P (s "__builtins__"), (.str (s "__builtins__") 171), (.ref 4)⟩, ⟨PyData.keyHash P (s "__file__"), (.str (s "__file__") 173), (.str (s "/claim/cut.py") 172)⟩, ⟨PyData.keyHash P (s "__cached__"), (.str (s "__cached__") 174), .none⟩, ⟨PyData.keyHash P (s "_wall"), (.str (s "_wall") 193), (.ref 21)⟩, ⟨PyData.keyHash P (s "_tuplegetter"), (.str (s "_tuplegetter") 252), (.ref 60)⟩, ⟨PyData.keyHash P (s "Match"), (.str (s "Match") 380), (.ref 135)⟩, ⟨PyData.keyHash P (s "_calculate_ratio"), (.str (s "_calculate_ratio") 388), (.ref 145)⟩, ⟨PyData.keyHash P (s "SequenceMatcher"), (.str (s "SequenceMatcher") 582), (.ref 242)⟩, ⟨PyData.keyHash P (s "insort_left"), (.str (s "insort_left") 598), (.ref 255)⟩, ⟨PyData.keyHash P (s "bisect_left"), (.str (s "bisect_left") 613), (.ref 264)⟩, ⟨PyData.keyHash P (s "_NODE_OUT"), (.str (s "_NODE_OUT") 618), (.int (-1) 617)⟩, ⟨PyData.keyHash P (s "_NODE_DONE"), (.str (s "_NODE_DONE") 621), (.int (-2) 620)⟩, ⟨PyData.keyHash P (s "_NodeInfo"), (.str (s "_NodeInfo") 658), (.ref 283)⟩, ⟨PyData.keyHash P (s "CycleError"), (.str (s "CycleError") 678), (.ref 298)⟩, ⟨PyData.keyHash P (s "TopologicalSorter"), (.str (s "TopologicalSorter") 804), (.ref 380)⟩, ⟨PyData.keyHash P (s "_law_whole"), (.str (s "_law_whole") 812), (.ref 389)⟩, ⟨PyData.keyHash P (s "_law_order"), (.str (s "_law_order") 825), (.ref 396)⟩, ⟨PyData.keyHash P (s "law"), (.str (s "law") 831), (.ref 401)⟩].toArray 24), [].toArray⟩
noncomputable def o81 (P : Params) : Obj := ⟨(.type "code"), none, (.fields [(.str (s "__new__") 274), (.str (s "Match.__new__") 275), (.str (s "/claim/cut.py") 276), (.int 29 0), (.int 4 0), (.int 0 0), (.int 0 0), (.int 3 0), (.ref 76), (.bool true), (.int 181 0), (.ref 77), .none, (.ref 78), (.ref 79), (.ref 80), (.int 281 0), (.int 29 0), (.str (s "/claim/cut.py") 282)].toArray), [].toArray⟩
noncomputable def o82 (P : Params) : Obj := ⟨(.type "function"), none, (.func { name := (s "__new__"), qualname := (s "Match.__new__"), params := fA (meI 3 4), body := .stmts (fB (meI 3 4)), scope := fS (meI 3 4), globals := 3, closure := [], defaults := .none, kwdefaults := .none, code := (.ref 81), closureTuple := .none, builtins := 0, doc := (.str (fDoc (meI 3 4)) 283), pyModule := (.str (s "cpy313.difflib") 194), annotations := none }), [].toArray⟩
noncomputable def o88 (P : Params) : Obj := ⟨(.type "code"), none, (.fields [(.str (s "_make") 285), (.str (s "Match._make") 286), (.str (s "/claim/cut.py") 287), (.int 33 0), (.int 2 0), (.int 0 0), (.int 0 0), (.int 3 0), (.ref 83), (.bool true), (.int 181 0), (.ref 84), .none, (.ref 85), (.ref 86), (.ref 87), (.int 291 0), (.int 33 0), (.str (s "/claim/cut.py") 292)].toArray), [].toArray⟩
noncomputable def o89 (P : Params) : Obj := ⟨(.type "function"), none, (.func { name := (s "_make"), qualname := (s "Match._make"), params := fA (meI 3 5), body := .stmts (fB (meI 3 5)), scope := fS (meI 3 5), globals := 3, closure := [], defaults := .none, kwdefaults := .none, code := (.ref 88), closureTuple := .none, builtins := 0, doc := (.str (fDoc (meI 3 5)) 293), pyModule := (.str (s "cpy313.difflib") 194), annotations := some 92 }), [].toArray⟩
noncomputable def o91 (P : Params) : Obj := ⟨(.type "classmethod"), (some 90), (.fields [(.ref 89), (.bool false)].toArray), [].toArray⟩
noncomputable def o134 (P : Params) : Obj := ⟨(.type "dict"), none, (.dict [⟨PyData.keyHash P (s "__module__"), (.str (s "__module__") 260), (.str (s "cpy313.difflib") 194)⟩, ⟨PyData.keyHash P (s "__firstlineno__"), (.str (s "__firstlineno__") 264), (.int 23 263)⟩, ⟨PyData.keyHash P (s "__doc__"), (.str (s "__doc__") 266), (.str (docOf (stI 3)) 265)⟩, ⟨PyData.keyHash P (s "__slots__"), (.str (s "__slots__") 268), (.ref 73)⟩, ⟨PyData.keyHash P (s "_fields"), (.str (s "_fields") 272), (.ref 74)⟩, ⟨PyData.keyHash P (s "_field_defaults"), (.str (s "_field_defaults") 273), (.ref 75)⟩, ⟨PyData.keyHash P (s "__new__"), (.str (s "__new__") 284), (.ref 136)⟩, ⟨PyData.keyHash P (s "_make"), (.str (s "_make") 306), (.ref 91)⟩, ⟨PyData.keyHash P (s "_replace"), (.str (s "_replace") 317), (.ref 100)⟩, ⟨PyData.keyHash P (s "__replace__"), (.str (s "__replace__") 318), (.ref 100)⟩, ⟨PyData.keyHash P (s "__repr__"), (.str (s "__repr__") 326), (.ref 107)⟩, ⟨PyData.keyHash P (s "_asdict"), (.str (s "_asdict") 333), (.ref 114)⟩, ⟨PyData.keyHash P (s "__getnewargs__"), (.str (s "__getnewargs__") 341), (.ref 121)⟩, ⟨PyData.keyHash P (s "__match_args__"), (.str (s "__match_args__") 345), (.ref 122)⟩, ⟨PyData.keyHash P (s "a"), (.str (s "a") 355), (.ref 124)⟩, ⟨PyData.keyHash P (s "b"), (.str (s "b") 365), (.ref 127)⟩, ⟨PyData.keyHash P (s "size"), (.str (s "size") 375), (.ref 130)⟩, ⟨PyData.keyHash P (s "__static_attributes__"), (.str (s "__static_attributes__") 376), (.ref 132)⟩].toArray 2), [].toArray⟩
noncomputable def o135 (P : Params) : Obj := ⟨(.type "type"), none, (.cls { name := (s "Match"), bases := [(.type "tuple")], mro := [(.ref 135), (.type "tuple"), (.type "object")], ns := 134, qualname := (s "Match"), hasDict := false, slotNames := [], subclasses := [], abstract := false, hasDel := false }), [(some (.ref 65)), none, (some (.str (s "Match") 253)), (some (.str (s "Match") 261)), (some .none), (some (.bool false))].toArray⟩
noncomputable def o136 (P : Params) : Obj := ⟨(.type "staticmethod"), none, (.fields [(.ref 82)].toArray), [].toArray⟩
noncomputable def o153 (P : Params) : Obj := ⟨(.type "tuple"), none, (.seq [.none, (.str (s "") 404), (.str (s "") 405), (.bool true)].toArray 0), [].toArray⟩
noncomputable def o159 (P : Params) : Obj := ⟨(.type "code"), none, (.fields [(.str (s "__init__") 406), (.str (s "SequenceMatcher.__init__") 407), (.str (s "/claim/cut.py") 408), (.int 145 0), (.int 5 0), (.int 0 0), (.int 0 0), (.int 3 0), (.ref 154), (.bool true), (.int 181 0), (.ref 155), .none, (.ref 156), (.ref 157), (.ref 158), (.int 414 0), (.int 145 0), (.str (s "/claim/cut.py") 415)].toArray), [].toArray⟩
noncomputable def o160 (P : Params) : Obj := ⟨(.type "function"), none, (.func { name := (s "__init__"), qualname := (s "SequenceMatcher.__init__"), params := fA (meI 5 1), body := .stmts (fB (meI 5 1)), scope := fS (meI 5 1), globals := 3, closure := [], defaults := (.ref 153), kwdefaults := .none, code := (.ref 159), closureTuple := .none, builtins := 0, doc := (.str (fDoc (meI 5 1)) 416), pyModule := (.str (s "cpy313.difflib") 194), annotations := none }), [].toArray⟩
noncomputable def o166 (P : Params) : Obj := ⟨(.type "code"), none, (.fields [(.str (s "set_seqs") 418), (.str (s "SequenceMatcher.set_seqs") 419), (.str (s "/claim/cut.py") 420), (.int 173 0), (.int 3 0), (.int 0 0), (.int 0 0), (.int 3 0), (.ref 161), (.bool true), (.int 181 0), (.ref 162), .none, (.ref 163), (.ref 164), (.ref 165), (.int 424 0), (.int 173 0), (.str (s "/claim/cut.py") 425)].toArray), [].toArray⟩
noncomputable def o167 (P : Params) : Obj := ⟨(.type "function"), none, (.func { name := (s "set_seqs"), qualname := (s "SequenceMatcher.set_seqs"), params := fA (meI 5 2), body := .stmts (fB (meI 5 2)), scope := fS (meI 5 2), globals := 3, closure := [], defaults := .none, kwdefaults := .none, code := (.ref 166), closureTuple := .none, builtins := 0, doc := (.str (fDoc (meI 5 2)) 426), pyModule := (.str (s "cpy313.difflib") 194), annotations := none }), [].toArray⟩
noncomputable def o173 (P : Params) : Obj := ⟨(.type "code"), none, (.fields [(.str (s "set_seq1") 428), (.str (s "SequenceMatcher.set_seq1") 429), (.str (s "/claim/cut.py") 430), (.int 184 0), (.int 2 0), (.int 0 0), (.int 0 0), (.int 3 0), (.ref 168), (.bool true), (.int 181 0), (.ref 169), .none, (.ref 170), (.ref 171), (.ref 172), (.int 433 0), (.int 184 0), (.str (s "/claim/cut.py") 434)].toArray), [].toArray⟩
noncomputable def o174 (P : Params) : Obj := ⟨(.type "function"), none, (.func { name := (s "set_seq1"), qualname := (s "SequenceMatcher.set_seq1"), params := fA (meI 5 3), body := .stmts (fB (meI 5 3)), scope := fS (meI 5 3), globals := 3, closure := [], defaults := .none, kwdefaults := .none, code := (.ref 173), closureTuple := .none, builtins := 0, doc := (.str (fDoc (meI 5 3)) 435), pyModule := (.str (s "cpy313.difflib") 194), annotations := none }), [].toArray⟩
noncomputable def o180 (P : Params) : Obj := ⟨(.type "code"), none, (.fields [(.str (s "set_seq2") 437), (.str (s "SequenceMatcher.set_seq2") 438), (.str (s "/claim/cut.py") 439), (.int 209 0), (.int 2 0), (.int 0 0), (.int 0 0), (.int 3 0), (.ref 175), (.bool true), (.int 181 0), (.ref 176), .none, (.ref 177), (.ref 178), (.ref 179), (.int 442 0), (.int 209 0), (.str (s "/claim/cut.py") 443)].toArray), [].toArray⟩
noncomputable def o181 (P : Params) : Obj := ⟨(.type "function"), none, (.func { name := (s "set_seq2"), qualname := (s "SequenceMatcher.set_seq2"), params := fA (meI 5 4), body := .stmts (fB (meI 5 4)), scope := fS (meI 5 4), globals := 3, closure := [], defaults := .none, kwdefaults := .none, code := (.ref 180), closureTuple := .none, builtins := 0, doc := (.str (fDoc (meI 5 4)) 444), pyModule := (.str (s "cpy313.difflib") 194), annotations := none }), [].toArray⟩
noncomputable def o187 (P : Params) : Obj := ⟨(.type "code"), none, (.fields [(.str (s "__chain_b") 446), (.str (s "SequenceMatcher.__chain_b") 447), (.str (s "/claim/cut.py") 448), (.int 236 0), (.int 1 0), (.int 0 0), (.int 0 0), (.int 3 0), (.ref 182), (.bool true), (.int 181 0), (.ref 183), .none, (.ref 184), (.ref 185), (.ref 186), (.int 461 0), (.int 236 0), (.str (s "/claim/cut.py") 462)].toArray), [].toArray⟩
noncomputable def o188 (P : Params) : Obj := ⟨(.type "function"), none, (.func { name := (s "__chain_b"), qualname := (s "SequenceMatcher.__chain_b"), params := fA (meI 5 5), body := .stmts (fB (meI 5 5)), scope := fS (meI 5 5), globals := 3, closure := [], defaults := .none, kwdefaults := .none, code := (.ref 187), closureTuple := .none, builtins := 0, doc := .none, pyModule := (.str (s "cpy313.difflib") 194), annotations := none }), [].toArray⟩
noncomputable def o189 (P : Params) : Obj := ⟨(.type "tuple"), none, (.seq [(.int 0 464), .none, (.int 0 465), .none].toArray 0), [].toArray⟩
noncomputable def o195 (P : Params) : Obj := ⟨(.type "code"), none, (.fields [(.str (s "find_longest_match") 466), (.str (s "SequenceMatcher.find_longest_match") 467), (.str (s "/claim/cut.py") 468), (.int 260 0), (.int 5 0), (.int 0 0), (.int 0 0), (.int 3 0), (.ref 190), (.bool true), (.int 181 0), (.ref 191), .none, (.ref 192), (.ref 193), (.ref 194), (.int 488 0), (.int 260 0), (.str (s "/claim/cut.py") 489)].toArray), [].toArray⟩
noncomputable def o196 (P : Params) : Obj := ⟨(.type "function"), none, (.func { name := (s "find_longest_match"), qualname := (s "SequenceMatcher.find_longest_match"), params := fA (meI 5 6), body := .stmts (fB (meI 5 6)), scope := fS (meI 5 6), globals := 3, closure := [], defaults := (.ref 189), kwdefaults := .none, code := (.ref 195), closureTuple := .none, builtins := 0, doc := (.str (fDoc (meI 5 6)) 490), pyModule := (.str (s "cpy313.difflib") 194), annotations := none }), [].toArray⟩
noncomputable def o202 (P : Params) : Obj := ⟨(.type "code"), none, (.fields [(.str (s "get_matching_blocks") 492), (.str (s "SequenceMatcher.get_matching_blocks") 493), (.str (s "/claim/cut.py") 494), (.int 335 0), (.int 1 0), (.int 0 0), (.int 0 0), (.int 3 0), (.ref 197), (.bool true), (.int 181 0), (.ref 198), .none, (.ref 199), (.ref 200), (.ref 201), (.int 515 0), (.int 335 0), (.str (s "/claim/cut.py") 516)].toArray), [].toArray⟩
noncomputable def o203 (P : Params) : Obj := ⟨(.type "function"), none, (.func { name := (s "get_matching_blocks"), qualname := (s "SequenceMatcher.get_matching_blocks"), params := fA (meI 5 7), body := .stmts (fB (meI 5 7)), scope := fS (meI 5 7), globals := 3, closure := [], defaults := .none, kwdefaults := .none, code := (.ref 202), closureTuple := .none, builtins := 0, doc := (.str (fDoc (meI 5 7)) 517), pyModule := (.str (s "cpy313.difflib") 194), annotations := none }), [].toArray⟩
noncomputable def o209 (P : Params) : Obj := ⟨(.type "code"), none, (.fields [(.str (s "get_opcodes") 519), (.str (s "SequenceMatcher.get_opcodes") 520), (.str (s "/claim/cut.py") 521), (.int 383 0), (.int 1 0), (.int 0 0), (.int 0 0), (.int 3 0), (.ref 204), (.bool true), (.int 181 0), (.ref 205), .none, (.ref 206), (.ref 207), (.ref 208), (.int 530 0), (.int 383 0), (.str (s "/claim/cut.py") 531)].toArray), [].toArray⟩
noncomputable def o210 (P : Params) : Obj := ⟨(.type "function"), none, (.func { name := (s "get_opcodes"), qualname := (s "SequenceMatcher.get_opcodes"), params := fA (meI 5 8), body := .stmts (fB (meI 5 8)), scope := fS (meI 5 8), globals := 3, closure := [], defaults := .none, kwdefaults := .none, code := (.ref 209), closureTuple := .none, builtins := 0, doc := (.str (fDoc (meI 5 8)) 532), pyModule := (.str (s "cpy313.difflib") 194), annotations := none }), [].toArray⟩
noncomputable def o241 (P : Params) : Obj := ⟨(.type "dict"), none, (.dict [⟨PyData.keyHash P (s "__module__"), (.str (s "__module__") 396), (.str (s "cpy313.difflib") 194)⟩, ⟨PyData.keyHash P (s "__firstlineno__"), (.str (s "__firstlineno__") 400), (.int 70 399)⟩, ⟨PyData.keyHash P (s "__doc__"), (.str (s "__doc__") 402), (.str doc5.1 401)⟩, ⟨PyData.keyHash P (s "__init__"), (.str (s "__init__") 417), (.ref 160)⟩, ⟨PyData.keyHash P (s "set_seqs"), (.str (s "set_seqs") 427), (.ref 167)⟩, ⟨PyData.keyHash P (s "set_seq1"), (.str (s "set_seq1") 436), (.ref 174)⟩, ⟨PyData.keyHash P (s "set_seq2"), (.str (s "set_seq2") 445), (.ref 181)⟩, ⟨PyData.keyHash P (s "_SequenceMatcher__chain_b"), (.str (s "_SequenceMatcher__chain_b") 463), (.ref 188)⟩, ⟨PyData.keyHash P (s "find_longest_match"), (.str (s "find_longest_match") 491), (.ref 196)⟩, ⟨PyData.keyHash P (s "get_matching_blocks"), (.str (s "get_matching_blocks") 518), (.ref 203)⟩, ⟨PyData.keyHash P (s "get_opcodes"), (.str (s "get_opcodes") 533), (.ref 210)⟩, ⟨PyData.keyHash P (s "get_grouped_opcodes"), (.str (s "get_grouped_opcodes") 542), (.ref 218)⟩, ⟨PyData.keyHash P (s "ratio"), (.str (s "ratio") 551), (.ref 225)⟩, ⟨PyData.keyHash P (s "quick_ratio"), (.str (s "quick_ratio") 558), (.ref 232)⟩, ⟨PyData.keyHash P (s "real_quick_ratio"), (.str (s "real_quick_ratio") 565), (.ref 239)⟩, ⟨PyData.keyHash P (s "__static_attributes__"), (.str (s "__static_attributes__") 576), (.ref 240)⟩, ⟨PyData.keyHash P (s "__dict__"), (.str (s "__dict__") 578), (.ref 243)⟩, ⟨PyData.keyHash P (s "__weakref__"), (.str (s "__weakref__") 580), (.ref 244)⟩].toArray 3), [].toArray⟩
noncomputable def o242 (P : Params) : Obj := ⟨(.type "type"), none, (.cls { name := (s "SequenceMatcher"), bases := [(.type "object")], mro := [(.ref 242), (.type "object")], ns := 241, qualname := (s "SequenceMatcher"), hasDict := true, slotNames := [], subclasses := [], abstract := false, hasDel := false }), [none, none, (some (.str (s "SequenceMatcher") 389)), (some (.str (s "SequenceMatcher") 397)), (some (.builtin "object.__new__")), (some (.bool true))].toArray⟩
noncomputable def o247 (P : Params) : Obj := ⟨(.type "tuple"), none, (.seq [(.int 0 585), .none].toArray 0), [].toArray⟩
noncomputable def o248 (P : Params) : Obj := ⟨(.type "dict"), none, (.dict [⟨PyData.keyHash P (s "key"), (.str (s "key") 586), .none⟩].toArray 1), [].toArray⟩
noncomputable def o254 (P : Params) : Obj := ⟨(.type "code"), none, (.fields [(.str (s "insort_left") 587), (.str (s "insort_left") 588), (.str (s "/claim/cut.py") 589), (.int 463 0), (.int 4 0), (.int 0 0), (.int 1 0), (.int 3 0), (.ref 249), (.bool true), (.int 181 0), (.ref 250), .none, (.ref 251), (.ref 252), (.ref 253), (.int 595 0), (.int 463 0), (.str (s "/claim/cut.py") 596)].toArray), [].toArray⟩
noncomputable def o255 (P : Params) : Obj := ⟨(.type "function"), none, (.func { name := (s "insort_left"), qualname := (s "insort_left"), params := fA (stI 7), body := .stmts (fB (stI 7)), scope := fS (stI 7), globals := 3, closure := [], defaults := (.ref 247), kwdefaults := (.ref 248), code := (.ref 254), closureTuple := .none, builtins := 0, doc := (.str (fDoc (stI 7)) 597), pyModule := (.str (s "cpy313.bisect") 583), annotations := none }), [].toArray⟩
noncomputable def o256 (P : Params) : Obj := ⟨(.type "tuple"), none, (.seq [(.int 0 599), .none].toArray 0), [].toArray⟩
noncomputable def o257 (P : Params) : Obj := ⟨(.type "dict"), none, (.dict [⟨PyData.keyHash P (s "key"), (.str (s "key") 600), .none⟩].toArray 1), [].toArray⟩
noncomputable def o263 (P : Params) : Obj := ⟨(.type "code"), none, (.fields [(.str (s "bisect_left") 601), (.str (s "bisect_left") 602), (.str (s "/claim/cut.py") 603), (.int 478 0), (.int 4 0), (.int 0 0), (.int 1 0), (.int 3 0), (.ref 258), (.bool true), (.int 181 0), (.ref 259), .none, (.ref 260), (.ref 261), (.ref 262), (.int 610 0), (.int 478 0), (.str (s "/claim/cut.py") 611)].toArray), [].toArray⟩
noncomputable def o264 (P : Params) : Obj := ⟨(.type "function"), none, (.func { name := (s "bisect_left"), qualname := (s "bisect_left"), params := fA (stI 8), body := .stmts (fB (stI 8)), scope := fS (stI 8), globals := 3, closure := [], defaults := (.ref 256), kwdefaults := (.ref 257), code := (.ref 263), closureTuple := .none, builtins := 0, doc := (.str (fDoc (stI 8)) 612), pyModule := (.str (s "cpy313.bisect") 583), annotations := none }), [].toArray⟩
noncomputable def o278 (P : Params) : Obj := ⟨(.type "code"), none, (.fields [(.str (s "__init__") 638), (.str (s "_NodeInfo.__init__") 639), (.str (s "/claim/cut.py") 640), (.int 515 0), (.int 2 0), (.int 0 0), (.int 0 0), (.int 3 0), (.ref 273), (.bool true), (.int 181 0), (.ref 274), .none, (.ref 275), (.ref 276), (.ref 277), (.int 643 0), (.int 515 0), (.str (s "/claim/cut.py") 644)].toArray), [].toArray⟩
noncomputable def o279 (P : Params) : Obj := ⟨(.type "function"), none, (.func { name := (s "__init__"), qualname := (s "_NodeInfo.__init__"), params := fA (meI 12 1), body := .stmts (fB (meI 12 1)), scope := fS (meI 12 1), globals := 3, closure := [], defaults := .none, kwdefaults := .none, code := (.ref 278), closureTuple := .none, builtins := 0, doc := .none, pyModule := (.str (s "cpy313.graphlib") 614), annotations := none }), [].toArray⟩
noncomputable def o282 (P : Params) : Obj := ⟨(.type "dict"), none, (.dict [⟨PyData.keyHash P (s "__module__"), (.str (s "__module__") 629), (.str (s "cpy313.graphlib") 614)⟩, ⟨PyData.keyHash P (s "__firstlineno__"), (.str (s "__firstlineno__") 633), (.int 512 632)⟩, ⟨PyData.keyHash P (s "__slots__"), (.str (s "__slots__") 637), (.ref 272)⟩, ⟨PyData.keyHash P (s "__init__"), (.str (s "__init__") 645), (.ref 279)⟩, ⟨PyData.keyHash P (s "__static_attributes__"), (.str (s "__static_attributes__") 649), (.ref 280)⟩, ⟨PyData.keyHash P (s "node"), (.str (s "node") 651), (.ref 284)⟩, ⟨PyData.keyHash P (s "npredecessors"), (.str (s "npredecessors") 653), (.ref 285)⟩, ⟨PyData.keyHash P (s "successors"), (.str (s "successors") 655), (.ref 286)⟩, ⟨PyData.keyHash P (s "__doc__"), (.str (s "__doc__") 656), .none⟩].toArray 5), [].toArray⟩
noncomputable def o283 (P : Params) : Obj := ⟨(.type "type"), none, (.cls { name := (s "_NodeInfo"), bases := [(.type "object")], mro := [(.ref 283), (.type "object")], ns := 282, qualname := (s "_NodeInfo"), hasDict := false, slotNames := [(s "node"), (s "npredecessors"), (s "successors")], subclasses := [], abstract := false, hasDel := false }), [none, none, (some (.str (s "_NodeInfo") 622)), (some (.str (s "_NodeInfo") 630)), (some (.builtin "object.__new__")), (some (.bool false))].toArray⟩
noncomputable def o284 (P : Params) : Obj := ⟨(.type "member_descriptor"), none, (.fields [(.str (s "node") 650), (.ref 283), (.builtin "proto.slot"), (.builtin "proto.slot#set"), (.int 2 0)].toArray), [].toArray⟩
noncomputable def o285 (P : Params) : Obj := ⟨(.type "member_descriptor"), none, (.fields [(.str (s "npredecessors") 652), (.ref 283), (.builtin "proto.slot"), (.builtin "proto.slot#set"), (.int 1 0)].toArray), [].toArray⟩
noncomputable def o286 (P : Params) : Obj := ⟨(.type "member_descriptor"), none, (.fields [(.str (s "successors") 654), (.ref 283), (.builtin "proto.slot"), (.builtin "proto.slot#set"), (.int 0 0)].toArray), [].toArray⟩
noncomputable def o297 (P : Params) : Obj := ⟨(.type "dict"), none, (.dict [⟨PyData.keyHash P (s "__module__"), (.str (s "__module__") 666), (.str (s "cpy313.graphlib") 614)⟩, ⟨PyData.keyHash P (s "__firstlineno__"), (.str (s "__firstlineno__") 670), (.int 519 669)⟩, ⟨PyData.keyHash P (s "__doc__"), (.str (s "__doc__") 672), (.str doc13.1 671)⟩, ⟨PyData.keyHash P (s "__static_attributes__"), (.str (s "__static_attributes__") 674), (.ref 296)⟩, ⟨PyData.keyHash P (s "__weakref__"), (.str (s "__weakref__") 676), (.ref 299)⟩].toArray 2), [].toArray⟩
noncomputable def o298 (P : Params) : Obj := ⟨(.type "type"), none, (.cls { name := (s "CycleError"), bases := [(.type "ValueError")], mro := [(.ref 298), (.type "ValueError"), (.type "Exception"), (.type "BaseException"), (.type "object")], ns := 297, qualname := (s "CycleError"), hasDict := true, slotNames := [], subclasses := [], abstract := false, hasDel := false }), [(some (.ref 289)), none, (some (.str (s "CycleError") 659)), (some (.str (s "CycleError") 667)), (some (.builtin "ValueError.__new__")), (some (.bool true))].toArray⟩
noncomputable def o309 (P : Params) : Obj := ⟨(.type "tuple"), none, (.seq [.none].toArray 0), [].toArray⟩
noncomputable def o315 (P : Params) : Obj := ⟨(.type "code"), none, (.fields [(.str (s "__init__") 694), (.str (s "TopologicalSorter.__init__") 695), (.str (s "/claim/cut.py") 696), (.int 534 0), (.int 2 0), (.int 0 0), (.int 0 0), (.int 3 0), (.ref 310), (.bool true), (.int 181 0), (.ref 311), .none, (.ref 312), (.ref 313), (.ref 314), (.int 701 0), (.int 534 0), (.str (s "/claim/cut.py") 702)].toArray), [].toArray⟩
noncomputable def o316 (P : Params) : Obj := ⟨(.type "function"), none, (.func { name := (s "__init__"), qualname := (s "TopologicalSorter.__init__"), params := fA (meI 14 1), body := .stmts (fB (meI 14 1)), scope := fS (meI 14 1), globals := 3, closure := [], defaults := (.ref 309), kwdefaults := .none, code := (.ref 315), closureTuple := .none, builtins := 0, doc := .none, pyModule := (.str (s "cpy313.graphlib") 614), annotations := none }), [].toArray⟩
noncomputable def o322 (P : Params) : Obj := ⟨(.type "code"), none, (.fields [(.str (s "_get_nodeinfo") 704), (.str (s "TopologicalSorter._get_nodeinfo") 705), (.str (s "/claim/cut.py") 706), (.int 543 0), (.int 2 0), (.int 0 0), (.int 0 0), (.int 3 0), (.ref 317), (.bool true), (.int 181 0), (.ref 318), .none, (.ref 319), (.ref 320), (.ref 321), (.int 710 0), (.int 543 0), (.str (s "/claim/cut.py") 711)].toArray), [].toArray⟩
noncomputable def o323 (P : Params) : Obj := ⟨(.type "function"), none, (.func { name := (s "_get_nodeinfo"), qualname := (s "TopologicalSorter._get_nodeinfo"), params := fA (meI 14 2), body := .stmts (fB (meI 14 2)), scope := fS (meI 14 2), globals := 3, closure := [], defaults := .none, kwdefaults := .none, code := (.ref 322), closureTuple := .none, builtins := 0, doc := .none, pyModule := (.str (s "cpy313.graphlib") 614), annotations := none }), [].toArray⟩
noncomputable def o329 (P : Params) : Obj := ⟨(.type "code"), none, (.fields [(.str (s "add") 713), (.str (s "TopologicalSorter.add") 714), (.str (s "/claim/cut.py") 715), (.int 548 0), (.int 2 0), (.int 0 0), (.int 0 0), (.int 7 0), (.ref 324), (.bool true), (.int 181 0), (.ref 325), .none, (.ref 326), (.ref 327), (.ref 328), (.int 722 0), (.int 548 0), (.str (s "/claim/cut.py") 723)].toArray), [].toArray⟩
noncomputable def o330 (P : Params) : Obj := ⟨(.type "function"), none, (.func { name := (s "add"), qualname := (s "TopologicalSorter.add"), params := fA (meI 14 3), body := .stmts (fB (meI 14 3)), scope := fS (meI 14 3), globals := 3, closure := [], defaults := .none, kwdefaults := .none, code := (.ref 329), closureTuple := .none, builtins := 0, doc := (.str (fDoc (meI 14 3)) 724), pyModule := (.str (s "cpy313.graphlib") 614), annotations := none }), [].toArray⟩
noncomputable def o334 (P : Params) : Obj := ⟨(.type "code"), none, (.fields [(.str (s "prepare") 726), (.str (s "TopologicalSorter.prepare") 727), (.str (s "/claim/cut.py") 728), (.int 571 0), (.int 1 0), (.int 0 0), (.int 0 0), (.int 3 0), (.ref 331), (.bool true), (.int 181 0), (.ref 332), .none, .none, .none, (.ref 333), (.int 729 0), (.int 571 0), (.str (s "/claim/cut.py") 730)].toArray), [].toArray⟩
noncomputable def o335 (P : Params) : Obj := ⟨(.type "function"), none, (.func { name := (s "prepare"), qualname := (s "TopologicalSorter.prepare"), params := fA (meI 14 4), body := .stmts (fB (meI 14 4)), scope := fS (meI 14 4), globals := 3, closure := [], defaults := .none, kwdefaults := .none, code := (.ref 334), closureTuple := .none, builtins := 0, doc := (.str (fDoc (meI 14 4)) 731), pyModule := (.str (s "cpy313.graphlib") 614), annotations := none }), [].toArray⟩
noncomputable def o341 (P : Params) : Obj := ⟨(.type "code"), none, (.fields [(.str (s "get_ready") 733), (.str (s "TopologicalSorter.get_ready") 734), (.str (s "/claim/cut.py") 735), (.int 586 0), (.int 1 0), (.int 0 0), (.int 0 0), (.int 3 0), (.ref 336), (.bool true), (.int 181 0), (.ref 337), .none, (.ref 338), (.ref 339), (.ref 340), (.int 740 0), (.int 586 0), (.str (s "/claim/cut.py") 741)].toArray), [].toArray⟩
noncomputable def o342 (P : Params) : Obj := ⟨(.type "function"), none, (.func { name := (s "get_ready"), qualname := (s "TopologicalSorter.get_ready"), params := fA (meI 14 5), body := .stmts (fB (meI 14 5)), scope := fS (meI 14 5), globals := 3, closure := [], defaults := .none, kwdefaults := .none, code := (.ref 341), closureTuple := .none, builtins := 0, doc := (.str (fDoc (meI 14 5)) 742), pyModule := (.str (s "cpy313.graphlib") 614), annotations := none }), [].toArray⟩
noncomputable def o348 (P : Params) : Obj := ⟨(.type "code"), none, (.fields [(.str (s "is_active") 744), (.str (s "TopologicalSorter.is_active") 745), (.str (s "/claim/cut.py") 746), (.int 606 0), (.int 1 0), (.int 0 0), (.int 0 0), (.int 3 0), (.ref 343), (.bool true), (.int 181 0), (.ref 344), .none, (.ref 345), (.ref 346), (.ref 347), (.int 748 0), (.int 606 0), (.str (s "/claim/cut.py") 749)].toArray), [].toArray⟩
noncomputable def o349 (P : Params) : Obj := ⟨(.type "function"), none, (.func { name := (s "is_active"), qualname := (s "TopologicalSorter.is_active"), params := fA (meI 14 6), body := .stmts (fB (meI 14 6)), scope := fS (meI 14 6), globals := 3, closure := [], defaults := .none, kwdefaults := .none, code := (.ref 348), closureTuple := .none, builtins := 0, doc := (.str (fDoc (meI 14 6)) 750), pyModule := (.str (s "cpy313.graphlib") 614), annotations := none }), [].toArray⟩
noncomputable def o362 (P : Params) : Obj := ⟨(.type "code"), none, (.fields [(.str (s "done") 759), (.str (s "TopologicalSorter.done") 760), (.str (s "/claim/cut.py") 761), (.int 623 0), (.int 1 0), (.int 0 0), (.int 0 0), (.int 7 0), (.ref 357), (.bool true), (.int 181 0), (.ref 358), .none, (.ref 359), (.ref 360), (.ref 361), (.int 770 0), (.int 623 0), (.str (s "/claim/cut.py") 771)].toArray), [].toArray⟩
noncomputable def o363 (P : Params) : Obj := ⟨(.type "function"), none, (.func { name := (s "done"), qualname := (s "TopologicalSorter.done"), params := fA (meI 14 8), body := .stmts (fB (meI 14 8)), scope := fS (meI 14 8), globals := 3, closure := [], defaults := .none, kwdefaults := .none, code := (.ref 362), closureTuple := .none, builtins := 0, doc := (.str (fDoc (meI 14 8)) 772), pyModule := (.str (s "cpy313.graphlib") 614), annotations := none }), [].toArray⟩
noncomputable def o369 (P : Params) : Obj := ⟨(.type "code"), none, (.fields [(.str (s "_find_cycle") 774), (.str (s "TopologicalSorter._find_cycle") 775), (.str (s "/claim/cut.py") 776), (.int 656 0), (.int 1 0), (.int 0 0), (.int 0 0), (.int 3 0), (.ref 364), (.bool true), (.int 181 0), (.ref 365), .none, (.ref 366), (.ref 367), (.ref 368), (.int 784 0), (.int 656 0), (.str (s "/claim/cut.py") 785)].toArray), [].toArray⟩
noncomputable def o370 (P : Params) : Obj := ⟨(.type "function"), none, (.func { name := (s "_find_cycle"), qualname := (s "TopologicalSorter._find_cycle"), params := fA (meI 14 9), body := .stmts (fB (meI 14 9)), scope := fS (meI 14 9), globals := 3, closure := [], defaults := .none, kwdefaults := .none, code := (.ref 369), closureTuple := .none, builtins := 0, doc := .none, pyModule := (.str (s "cpy313.graphlib") 614), annotations := none }), [].toArray⟩
noncomputable def o379 (P : Params) : Obj := ⟨(.type "dict"), none, (.dict [⟨PyData.keyHash P (s "__module__"), (.str (s "__module__") 686), (.str (s "cpy313.graphlib") 614)⟩, ⟨PyData.keyHash P (s "__firstlineno__"), (.str (s "__firstlineno__") 690), (.int 531 689)⟩, ⟨PyData.keyHash P (s "__doc__"), (.str (s "__doc__") 692), (.str doc14.1 691)⟩, ⟨PyData.keyHash P (s "__init__"), (.str (s "__init__") 703), (.ref 316)⟩, ⟨PyData.keyHash P (s "_get_nodeinfo"), (.str (s "_get_nodeinfo") 712), (.ref 323)⟩, ⟨PyData.keyHash P (s "add"), (.str (s "add") 725), (.ref 330)⟩, ⟨PyData.keyHash P (s "prepare"), (.str (s "prepare") 732), (.ref 335)⟩, ⟨PyData.keyHash P (s "get_ready"), (.str (s "get_ready") 743), (.ref 342)⟩, ⟨PyData.keyHash P (s "is_active"), (.str (s "is_active") 751), (.ref 349)⟩, ⟨PyData.keyHash P (s "__bool__"), (.str (s "__bool__") 758), (.ref 356)⟩, ⟨PyData.keyHash P (s "done"), (.str (s "done") 773), (.ref 363)⟩, ⟨PyData.keyHash P (s "_find_cycle"), (.str (s "_find_cycle") 786), (.ref 370)⟩, ⟨PyData.keyHash P (s "static_order"), (.str (s "static_order") 793), (.ref 377)⟩, ⟨PyData.keyHash P (s "__static_attributes__"), (.str (s "__static_attributes__") 798), (.ref 378)⟩, ⟨PyData.keyHash P (s "__dict__"), (.str (s "__dict__") 800), (.ref 381)⟩, ⟨PyData.keyHash P (s "__weakref__"), (.str (s "__weakref__") 802), (.ref 382)⟩].toArray 3), [].toArray⟩
noncomputable def o380 (P : Params) : Obj := ⟨(.type "type"), none, (.cls { name := (s "TopologicalSorter"), bases := [(.type "object")], mro := [(.ref 380), (.type "object")], ns := 379, qualname := (s "TopologicalSorter"), hasDict := true, slotNames := [], subclasses := [], abstract := false, hasDel := false }), [none, none, (some (.str (s "TopologicalSorter") 679)), (some (.str (s "TopologicalSorter") 687)), (some (.builtin "object.__new__")), (some (.bool true))].toArray⟩
noncomputable def o388 (P : Params) : Obj := ⟨(.type "code"), none, (.fields [(.str (s "_law_whole") 807), (.str (s "_law_whole") 808), (.str (s "/claim/cut.py") 809), (.int 688 0), (.int 3 0), (.int 0 0), (.int 0 0), (.int 3 0), (.ref 385), (.bool true), (.int 181 0), (.ref 386), .none, .none, .none, (.ref 387), (.int 810 0), (.int 688 0), (.str (s "/claim/cut.py") 811)].toArray), [].toArray⟩
noncomputable def o389 (P : Params) : Obj := ⟨(.type "function"), none, (.func { name := (s "_law_whole"), qualname := (s "_law_whole"), params := fA (stI 16), body := .stmts (fB (stI 16)), scope := fS (stI 16), globals := 3, closure := [], defaults := .none, kwdefaults := .none, code := (.ref 388), closureTuple := .none, builtins := 0, doc := .none, pyModule := (.str (s "law_mu0007_01") 805), annotations := none }), [].toArray⟩
noncomputable def o395 (P : Params) : Obj := ⟨(.type "code"), none, (.fields [(.str (s "_law_order") 813), (.str (s "_law_order") 814), (.str (s "/claim/cut.py") 815), (.int 703 0), (.int 2 0), (.int 0 0), (.int 0 0), (.int 3 0), (.ref 390), (.bool true), (.int 181 0), (.ref 391), .none, (.ref 392), (.ref 393), (.ref 394), (.int 823 0), (.int 703 0), (.str (s "/claim/cut.py") 824)].toArray), [].toArray⟩
noncomputable def o396 (P : Params) : Obj := ⟨(.type "function"), none, (.func { name := (s "_law_order"), qualname := (s "_law_order"), params := fA (stI 17), body := .stmts (fB (stI 17)), scope := fS (stI 17), globals := 3, closure := [], defaults := .none, kwdefaults := .none, code := (.ref 395), closureTuple := .none, builtins := 0, doc := .none, pyModule := (.str (s "law_mu0007_01") 805), annotations := none }), [].toArray⟩
noncomputable def o400 (P : Params) : Obj := ⟨(.type "code"), none, (.fields [(.str (s "law") 826), (.str (s "law") 827), (.str (s "/claim/cut.py") 828), (.int 716 0), (.int 1 0), (.int 0 0), (.int 0 0), (.int 3 0), (.ref 397), (.bool true), (.int 181 0), (.ref 398), .none, .none, .none, (.ref 399), (.int 829 0), (.int 716 0), (.str (s "/claim/cut.py") 830)].toArray), [].toArray⟩
noncomputable def o401 (P : Params) : Obj := ⟨(.type "function"), none, (.func { name := (s "law"), qualname := (s "law"), params := fA (stI 18), body := .stmts (fB (stI 18)), scope := fS (stI 18), globals := 3, closure := [], defaults := .none, kwdefaults := .none, code := (.ref 400), closureTuple := .none, builtins := 0, doc := .none, pyModule := (.str (s "law_mu0007_01") 805), annotations := none }), [].toArray⟩
noncomputable def K (P : Params) : Frag := [(0, boot_o_0 P), (1, boot_o_1 P), (2, boot_o_2 P), (3, o3 P), (81, o81 P), (82, o82 P), (88, o88 P), (89, o89 P), (91, o91 P), (134, o134 P), (135, o135 P), (136, o136 P), (153, o153 P), (159, o159 P), (160, o160 P), (166, o166 P), (167, o167 P), (173, o173 P), (174, o174 P), (180, o180 P), (181, o181 P), (187, o187 P), (188, o188 P), (189, o189 P), (195, o195 P), (196, o196 P), (202, o202 P), (203, o203 P), (209, o209 P), (210, o210 P), (241, o241 P), (242, o242 P), (247, o247 P), (248, o248 P), (254, o254 P), (255, o255 P), (256, o256 P), (257, o257 P), (263, o263 P), (264, o264 P), (278, o278 P), (279, o279 P), (282, o282 P), (283, o283 P), (284, o284 P), (285, o285 P), (286, o286 P), (297, o297 P), (298, o298 P), (309, o309 P), (315, o315 P), (316, o316 P), (322, o322 P), (323, o323 P), (329, o329 P), (330, o330 P), (334, o334 P), (335, o335 P), (341, o341 P), (342, o342 P), (348, o348 P), (349, o349 P), (362, o362 P), (363, o363 P), (369, o369 P), (370, o370 P), (379, o379 P), (380, o380 P), (388, o388 P), (389, o389 P), (395, o395 P), (396, o396 P), (400, o400 P), (401, o401 P)]
noncomputable def kAddrs : List Addr := [0, 1, 2, 3, 81, 82, 88, 89, 91, 134, 135, 136, 153, 159, 160, 166, 167, 173, 174, 180, 181, 187, 188, 189, 195, 196, 202, 203, 209, 210, 241, 242, 247, 248, 254, 255, 256, 257, 263, 264, 278, 279, 282, 283, 284, 285, 286, 297, 298, 309, 315, 316, 322, 323, 329, 330, 334, 335, 341, 342, 348, 349, 362, 363, 369, 370, 379, 380, 388, 389, 395, 396, 400, 401]
theorem kAddrs_eq : ∀ P, kAddrs = (K P).map (·.1) := fun P => by kernel_rfl
noncomputable def kh : Hook := kHook K kAddrs kAddrs_eq
universe u
noncomputable def anyL {α : Type u} (as : Array α) (p : α → Bool) (start : Nat := 0) (stop : Nat := as.size) : Bool := bif Nat.beq start 0 && Nat.beq stop as.size then as.toList.any p else as.any p start stop
theorem anyL_eq : @Array.any = @anyL := by
 funext α as p i n
 unfold anyL
 cases h : Nat.beq i 0 && Nat.beq n as.size with
 | false => rfl
 | true =>
  obtain ⟨h1, h2⟩ := Bool.and_eq_true_iff.mp h
  have h1 := Nat.eq_of_beq_eq_true h1
  have h2 := Nat.eq_of_beq_eq_true h2
  subst h1 h2
  exact (Array.any_toList ..).symm
noncomputable def newFof (any : {α : Type} → (as : Array α) → (α → Bool) → (start : Nat := 0) → (stop : Nat := as.size) → Bool) : Builtin := by
 refine (?g : (@Array.any.{0} = @any → PySem.W.Fast.tw4202317264376624991 = ?f) → Builtin) ?h
 case h =>
  intro h
  delta PySem.W.Fast.tw4202317264376624991
  rw [h]
 case g =>
  intro _
  exact ?f
noncomputable def newF : Builtin := newFof @anyL
theorem newF_eq : Builtin.«type.__new__» = newF := PySem.W.Fast.te4202317264376624991.trans ((show PySem.W.Fast.tw4202317264376624991 = newFof @Array.any from rfl).trans (congrArg newFof anyL_eq))
theorem entry : treeTable "type.__new__" = some Builtin.«type.__new__» := by kernel_rfl
noncomputable def newCode : Nat := 29827186395103491166823348853
noncomputable def tblF (id : String) : Option Builtin := bif Nat.beq (PySem.code id) newCode then some newF else PySem.W.Fast.tw14364793385576792824 id
theorem code_new : PySem.code "type.__new__" = newCode := by kernel_rfl
theorem tblF_eq : treeTable = tblF := by
 funext id
 unfold tblF
 cases h : Nat.beq (PySem.code id) newCode with
 | false => exact congrFun PySem.W.Fast.te14364793385576792824 id
 | true =>
  have e : id = "type.__new__" := code_inj _ _ (by rw [Nat.eq_of_beq_eq_true h, code_new])
  subst e
  show treeTable "type.__new__" = some newF
  rw [entry]; exact congrArg some newF_eq
theorem left_of {p q : Program} {loose : List Str} {Xt : Shared → Bool} {α : Type} {Yf : Shared → α} {Ya : World → α} {N : Nat} {g0 : Bool} {H₀ : Params → Heap} {gs₀ : Array GenState} {d₀ : Drawn} {k₀ : Nat}
  (open_ : ∀ w : World, (fencedOpening treeTable p w N).map (fun st => (st.heap, st.gens, st.drawn, st.toks)) = some (H₀ w.params, gs₀, d₀, k₀))
  (run : ∀ (w : World) (os : OsState), (topFrom tblF p w N ⟨H₀ w.params, gs₀, d₀, k₀, os⟩).map (fun st => (openSeen q loose (importedModules p.main.body) Xt g0 st, Yf st)) = some (openGood q loose, Ya w)) :
  LeftO p q loose Xt Yf Ya N g0 := fun w => by
 obtain ⟨⟨h, gs, d, k, os⟩, e, e'⟩ := Option.map_eq_some_iff.mp (open_ w)
 have e' : (h, gs, d, k) = (H₀ w.params, gs₀, d₀, k₀) := e'
 cases e'
 unfold openEnds
 rw [e]
 have r := run w os
 rw [← tblF_eq] at r
 exact r
noncomputable def loose : List Str := [s "_wall", s "_tuplegetter", s "Match", s "_calculate_ratio", s "SequenceMatcher", s "insort_left", s "bisect_left", s "_NODE_OUT", s "_NODE_DONE", s "_NodeInfo", s "CycleError", s "TopologicalSorter", s "_law_whole", s "_law_order"]
noncomputable def qv : Program := { pw with main := { pw.main with body := [stI 18] } }
noncomputable def pwX : Program := { pw with main := { pw.main with body := mapAt 5 (setDoc doc5.1) (mapAt 13 (setDoc doc13.1) (mapAt 14 (setDoc doc14.1) pw.main.body)) } }
theorem pwX_eq : pwX = pw := by
 have e14 : mapAt 14 (setDoc doc14.1) pw.main.body = pw.main.body := mapAt_self _ _ _ (by rw [← doc14.2]; exact setDoc_self (stI 14))
 have e13 : mapAt 13 (setDoc doc13.1) pw.main.body = pw.main.body := mapAt_self _ _ _ (by rw [← doc13.2]; exact setDoc_self (stI 13))
 have e5 : mapAt 5 (setDoc doc5.1) pw.main.body = pw.main.body := mapAt_self _ _ _ (by rw [← doc5.2]; exact setDoc_self (stI 5))
 unfold pwX
 rw [e14, e13, e5]
end
section
set_option maxHeartbeats 0
noncomputable def topRunT (tb : String → Option Builtin) (p : Program) (w : World) (n₀ : Nat) (ann : Option Value) : Nat → SharedT → Thread → Option SharedT
 | 0, _, _ => none
 | n + 1, s, t => match through t with
  | true => some s
  | false => match PySem.W.Fast.tw6613529449190102663 n₀ ann t with
   | false => none
   | true => match PySem.W.Fast.tw10156331382660048174 (PySem.W.Fast.tw11892475500146522536 tb) p w s t with
    | some (s', t') => topRunT tb p w n₀ ann n s' t'
    | none => none
theorem topRunT_of {tb : String → Option Builtin} {p : Program} {w : World} {n₀ : Nat} {ann : Option Value} : ∀ {n : Nat} {s s' : SharedT} {t : Thread}, topRunT tb p w n₀ ann n s t = some s' → topRun tb p w n₀ ann n s.abs t = some s'.abs
 | 0, _, _, _, h => by simp [topRunT] at h
 | n + 1, s, s', t, h => by
  unfold topRunT at h
  unfold topRun
  cases ht : through t with
  | true => rw [ht] at h; simp only at h ⊢; cases h; rfl
  | false =>
   rw [ht] at h
   simp only at h ⊢
   rw [← PySem.W.Fast.te6613529449190102663, ← PySem.W.Fast.te10156331382660048174, ← PySem.W.Fast.te11892475500146522536] at h
   cases ho : stepOk n₀ ann t with
   | false => rw [ho] at h; simp at h
   | true =>
    rw [ho] at h
    simp only at h ⊢
    cases hs : stepT (denote tb) p w s t with
    | none => rw [hs] at h; simp at h
    | some q =>
     obtain ⟨s2, t2⟩ := q
     rw [hs] at h
     rw [stepT_spec hs]
     exact topRunT_of h
noncomputable def treeOf : List Obj → Nat → BT → BT
 | [], _, t => t
 | o :: r, n, t => treeOf r (n + 1) (t.ins n o)
noncomputable def s0T (w : World) (os : OsState) : SharedT := ⟨treeOf (boot_heap w.params).objs.toList 0 .nil, (boot_heap w.params).objs.size, (boot_heap w.params).life, Array.mk [], boot_drawn, boot_toks, os⟩
theorem s0T_abs (w : World) (os : OsState) : (s0T w os).abs = ⟨boot_heap w.params, Array.mk [], boot_drawn, boot_toks, os⟩ := by kernel_rfl
end
section
set_option maxHeartbeats 0
noncomputable def headOk (p : Program) (h₀ : Heap) (s₁ : Shared) : Bool := staticsOk (importedModules p.main.body) h₀ s₁.heap && namesBound p s₁.heap && gensDone s₁ && laidKept h₀ s₁.heap
theorem run_tree : ∀ (w : World) (os : OsState), (topRunT tblF pwX w (boot_heap w.params).objs.size ((boot_heap w.params).nsMap mainGlobals "__annotations__") 4000 (s0T w os) (topStub pwX)).map (fun sT => (headOk pwX (boot_heap w.params) sT.abs, openSeen qv loose (importedModules pw.main.body) (fun _ => true) true sT.abs, kh.obs sT.abs)) = some (true, openGood qv loose, kh.val w) := by
 intro w os
 kernel_rfl
theorem start_ok : ∀ (w : World), ((boot_heap w.params).isNs mainGlobals && (Array.mk [] : Array GenState).size == 0) = true := by
 intro w
 kernel_rfl
theorem run_top : ∀ (w : World) (os : OsState), (topFrom tblF pwX w 4000 ⟨boot_heap w.params, Array.mk [], boot_drawn, boot_toks, os⟩).map (fun st => (openSeen qv loose (importedModules pw.main.body) (fun _ => true) true st, kh.obs st)) = some (openGood qv loose, kh.val w) := by
 intro w os
 have h := run_tree w os
 cases e : topRunT tblF pwX w (boot_heap w.params).objs.size ((boot_heap w.params).nsMap mainGlobals "__annotations__") 4000 (s0T w os) (topStub pwX) with
 | none => rw [e] at h; simp at h
 | some sT =>
  rw [e] at h
  simp only [Option.map_some, Option.some.injEq, Prod.mk.injEq] at h
  obtain ⟨h1, h2, h3⟩ := h
  have e2 := topRunT_of e
  rw [s0T_abs] at e2
  unfold topFrom
  have h0 := start_ok w
  unfold headOk at h1
  simp only [h0, e2, Option.bind_some, h1, Option.map_some, h2, h3]
end
section
set_option maxHeartbeats 0
noncomputable abbrev rowL := PySem.Challenge.rw_mu0007_01.row
theorem left_top : LeftO pw qv loose (fun _ => true) kh.obs kh.val 4000 true :=
 left_of (boot_open (by kernel_rfl) (by kernel_rfl) (fun st => by kernel_rfl)) (fun w os => by
  have h := run_top w os
  rw [pwX_eq] at h
  exact h)
theorem law_def : ∃ d kwd, defOf qv (s "law") = some (d, kwd) ∧ pw.theDef (s "law") = some (d.params, d.body, d.scope) ∧ kwWritten? d.params.kwonlyargs d.params.kw_defaults = some kwd ∧ d.name = s "law" ∧ d.params = fA (stI 18) ∧ d.body = fB (stI 18) ∧ d.scope = fS (stI 18) := ⟨_, _, rfl, rfl, rfl, rfl, rfl, rfl, rfl⟩
theorem prog_eq : rowL.prog = pw := rfl
theorem name_eq : rowL.name = s "law" := rfl
theorem left_row : LeftO rowL.prog qv loose (fun _ => true) kh.obs kh.val 4000 := by
 rw [prog_eq]; exact left_top
theorem law_def2 : ∃ d kwd, defOf qv rowL.name = some (d, kwd) ∧ rowL.prog.theDef rowL.name = some (d.params, d.body, d.scope) ∧ kwWritten? d.params.kwonlyargs d.params.kw_defaults = some kwd ∧ d.name = s "law" ∧ d.params = fA (stI 18) ∧ d.body = fB (stI 18) ∧ d.scope = fS (stI 18) := by
 rw [prog_eq, name_eq]; exact law_def
theorem ok1 : (chainsOk qv && opensWell rowL.prog && (frees rowL.toRowW && rowL.within.isEmpty)) = true := by decide +kernel
theorem ok2 : rowL.prog.bare := ⟨rfl, rfl, rfl, rfl, rfl, by decide +kernel⟩
theorem ok3 : rowL.toRowW.promised := ⟨[.list []], by decide +kernel, by decide +kernel⟩
theorem ok4 (st : Shared) : RecFacts rowL.records st.heap := recFacts_of (by rfl)
theorem hd2 (said : rowL.wellSaid = true) (call : ∀ d kwd, d.name = s "law" → d.params = fA (stI 18) → d.body = fB (stI 18) → d.scope = fS (stI 18) → WalkO qv loose (fun _ _ => True) kh.says rowL.toRowW d kwd fun f vs => PySem.call f vs) : rowL.Holds := by
 obtain ⟨d, kwd, h1, h2, h3, h4, h5, h6, h7⟩ := law_def2
 exact PySem.W.holds_open (Xt := fun _ => true) (XP := fun _ _ => True) left_row kh.of kh.keeps (fun _ _ => trivial) (fun _ _ _ _ _ => trivial) h1 h2 h3 (fun st _ => ok4 st) rfl said ok1 ok2 ok3 (call d kwd h4 h5 h6 h7)
theorem sd1 : namesResolve rowL.prog = true := by kernel_rfl
theorem sd2 : noRoadLSs { strict := !(importedModules rowL.prog.main.body).all cThrough.contains, foot := none, bare := (["vars", "dir", "locals"] : List Str).filter (readsOut rowL.prog rowL.prog.main.body) } rowL.prog.main.body = true := by kernel_rfl
theorem sd3 : (namesMeet rowL.prog rowL.prog.main.body fun _ n => attrL n) = true := by kernel_rfl
theorem sd4 : looksOpen rowL.prog = true := by
 delta looksOpen
 exact look_both (look_both (look_both (look_both (by kernel_rfl) sd1) (by kernel_rfl)) sd2) sd3
theorem sd5 : rowL.wellSaid = true := by
 delta OpenRow.wellSaid OpenRow.partSaid
 refine look_both (look_both ?_ ?_) ?_
 ·refine look_both (look_both (look_both (look_both (look_both (look_both (look_both (look_both (look_both (look_both (look_both (look_both (look_both sd4 ?_) ?_) ?_) ?_) ?_) ?_) ?_) ?_) ?_) ?_) ?_) ?_) ?_
  all_goals kernel_rfl
 all_goals kernel_rfl
theorem said_ok : PySem.Challenge.rw_mu0007_01.wellSaid = true := by
 delta OpenLaw.wellSaid
 refine look_both (look_both (look_both (look_both (look_both (look_both (look_both (look_both (look_both (look_both (look_both (look_both (look_both (look_both (look_both (look_both (look_both (look_both sd5 ?_) ?_) ?_) ?_) ?_) ?_) ?_) ?_) ?_) ?_) ?_) ?_) ?_) ?_) ?_) ?_) ?_) ?_
 all_goals kernel_rfl
theorem hd (call : ∀ d kwd, d.name = s "law" → d.params = fA (stI 18) → d.body = fB (stI 18) → d.scope = fS (stI 18) → WalkO qv loose (fun _ _ => True) kh.says rowL.toRowW d kwd fun f vs => PySem.call f vs) : PySem.Challenge.rw_mu0007_01.Holds := by
 exact holds_law said_ok fun said => hd2 said call
end
section
inductive V where
 | none
 | bool (b : Bool)
 | int (i : Int)
 | str (x : Str)
 | typ (n : String)
 | bi (n : String)
 | obj (a : Addr)
 | tup (xs : List V)
 | mat (xs : List V)
 | ref (i : Nat) (x : Int)
 | inst (C : Addr) (i : Nat) (x : Int)
 | bm (f : String) (self : V)
 | rng (a b : Int)
 | vals (i : Nat) (x : Int)
inductive O where
 | list (xs : List V)
 | dict (es : List (Int × V)) (ep : Nat)
 | set (S : Int → Bool) (n : Nat)
 | ns (fs : List (Nat × V))
 | slots (d : Nat) (fs : List (Option V))
 | iter (i : Nat) (x : Int) (k : Nat)
 | dead
inductive Fam where
 | one (o : O)
 | fam (f : Int → Option O)
noncomputable abbrev AH := List Fam
noncomputable def AH.get (H : AH) (i : Nat) (x : Int) : Option O := match H[i]? with
 | some (.one o) => if x = 0 then some o else none
 | some (.fam f) => f x
 | none => none
noncomputable def Fam.put (F : Fam) (x : Int) (o : O) : Fam := match F with
 | .one _ => .one o
 | .fam f => .fam (fun y => if y = x then some o else f y)
noncomputable def AH.put (H : AH) (i : Nat) (x : Int) (o : O) : AH := match H[i]? with
 | some F => H.set i (F.put x o)
 | none => H
theorem AH.get_put {H : AH} {i : Nat} {x : Int} {o : O} (hd : (H.get i x).isSome = true) (j : Nat) (y : Int) : (H.put i x o).get j y = if j = i ∧ y = x then some o else H.get j y := by
 unfold AH.put
 cases hF : H[i]? with
 | none => unfold AH.get at hd; rw [hF] at hd; cases hd
 | some F =>
  have hl : i < H.length := by
   rcases Nat.lt_or_ge i H.length with q | q
   ·exact q
   ·rw [List.getElem?_eq_none q] at hF; cases hF
  by_cases e : j = i
  ·subst e
   simp only [AH.get, List.getElem?_set_self hl, hF, true_and]
   cases F with
   | one o₁ =>
    have : x = 0 := by
     unfold AH.get at hd; rw [hF] at hd
     by_cases q : x = 0
     ·exact q
     ·simp [q] at hd
    subst this
    simp only [Fam.put]
    split <;> simp_all
   | fam f => simp only [Fam.put]
  ·simp only [AH.get, List.getElem?_set_ne (fun q => e q.symm), e, false_and, if_false]
structure Wd where
 w : World
 H : AH
 ρ : Nat → Int → Addr
 h : Heap
noncomputable def Imm (o : Obj) : Prop := ((o.cls = .type "tuple" ∨ o.cls = .ref 135) ∧ ∃ vs n, o.data = .seq vs n) ∨
 ((o.cls = .type "builtin_function_or_method" ∨ o.cls = .type "method-wrapper" ∨ o.cls = .type "range" ∨ o.cls = .type "dict_values") ∧ ∃ vs, o.data = .fields vs) ∨ (o.dict ≠ none ∧ o.data = .plain ∧ o.cls ≠ .ref 283)
mutual
noncomputable def VR (W : Wd) : V → Value → Prop
 | .none, v => v = .none
 | .bool b, v => v = .bool b
 | .int i, v => ∃ t, v = .int i t
 | .str x, v => ∃ t, v = .str x t
 | .typ n, v => v = .type n
 | .bi n, v => v = .builtin n
 | .obj a, v => v = .ref a
 | .tup xs, v => ∃ a o vs n, v = .ref a ∧ W.h.get? a = some o ∧ o.cls = .type "tuple" ∧ o.data = .seq vs n ∧ VRs W xs vs.toList
 | .mat xs, v => ∃ a o vs n, v = .ref a ∧ W.h.get? a = some o ∧ o.cls = .ref 135 ∧ o.data = .seq vs n ∧ VRs W xs vs.toList
 | .ref i x, v => v = .ref (W.ρ i x) ∧ (W.H.get i x).isSome = true
 | .inst C i x, v => ∃ a o, v = .ref a ∧ W.h.get? a = some o ∧ o.cls = .ref C ∧ o.dict = some (W.ρ i x) ∧ o.data = .plain ∧ C ≠ 283 ∧ (W.H.get i x).isSome = true
 | .bm f V, v => ∃ a o u, v = .ref a ∧ W.h.get? a = some o ∧ (o.cls = .type "builtin_function_or_method" ∨ o.cls = .type "method-wrapper") ∧ o.data = .fields #[.builtin f, u] ∧ VR W V u
 | .rng a b, v => ∃ r t u w, v = .ref r ∧ IsRange W.h r a b 1 t u w
 | .vals i x, v => ∃ a, v = .ref a ∧ W.h.IsValuesView a (W.ρ i x) ∧ (W.H.get i x).isSome = true
noncomputable def VRs (W : Wd) : List V → List Value → Prop
 | [], vs => vs = []
 | x :: xs, vs => ∃ v r, vs = v :: r ∧ VR W x v ∧ VRs W xs r
end
structure Ext (W W' : Wd) : Prop where
 dom : ∀ i x, (W.H.get i x).isSome = true → (W'.H.get i x).isSome = true
 same : ∀ i x, (W.H.get i x).isSome = true → W'.ρ i x = W.ρ i x
 imm : ∀ a o, W.h.get? a = some o → Imm o → W'.h.get? a = some o
theorem Ext.refl (W : Wd) : Ext W W := ⟨fun _ _ h => h, fun _ _ _ => rfl, fun _ _ h _ => h⟩
theorem Ext.trans {A B C : Wd} (x : Ext A B) (y : Ext B C) : Ext A C :=
 ⟨fun i k h => y.dom i k (x.dom i k h), fun i k h => (y.same i k (x.dom i k h)).trans (x.same i k h), fun a o h m => y.imm a o (x.imm a o h m) m⟩
theorem VR.ext {W W' : Wd} (x : Ext W W') (V : V) : ∀ v : Value, VR W V v → VR W' V v := by
 refine V.rec (motive_1 := fun V => ∀ v, VR W V v → VR W' V v) (motive_2 := fun Vs => ∀ vs, VRs W Vs vs → VRs W' Vs vs) (fun _ h => h) (fun _ _ h => h) (fun _ _ h => h) (fun _ _ h => h) (fun _ _ h => h) (fun _ _ h => h) (fun _ _ h => h) ?_ ?_ ?_ ?_ ?_ ?_ ?_ (fun _ h => h) ?_
 ·intro xs ih v h
  obtain ⟨a, o, vs, n, e, g, c, d, r⟩ := h
  exact ⟨a, o, vs, n, e, x.imm a o g (.inl ⟨.inl c, _, _, d⟩), c, d, ih _ r⟩
 ·intro xs ih v h
  obtain ⟨a, o, vs, n, e, g, c, d, r⟩ := h
  exact ⟨a, o, vs, n, e, x.imm a o g (.inl ⟨.inr c, _, _, d⟩), c, d, ih _ r⟩
 ·exact fun i k v h => ⟨h.1.trans (congrArg Value.ref (x.same i k h.2).symm), x.dom i k h.2⟩
 ·intro C i k v h
  obtain ⟨a, o, e, g, c, d, p, n, m⟩ := h
  exact ⟨a, o, e, x.imm a o g (.inr (.inr ⟨(by rw [d]; exact (fun q => nomatch q)), p, (by rw [c]; exact fun q => n (by cases q; rfl))⟩)), c, by rw [x.same i k m]; exact d, p, n, x.dom i k m⟩
 ·intro f V ih v h
  obtain ⟨a, o, u, e, g, c, d, r⟩ := h
  exact ⟨a, o, u, e, x.imm a o g (.inr (.inl ⟨c.elim .inl (fun q => .inr (.inl q)), _, d⟩)), c, d, ih u r⟩
 ·intro a b v h
  obtain ⟨r, t, u, w, e, g⟩ := h
  exact ⟨r, t, u, w, e, x.imm r _ g (.inr (.inl ⟨.inr (.inr (.inl rfl)), _, rfl⟩))⟩
 ·intro i k v h
  obtain ⟨a, e, ⟨o, g, c, d⟩, m⟩ := h
  exact ⟨a, e, ⟨o, x.imm a o g (.inr (.inl ⟨.inr (.inr (.inr c)), _, d⟩)), c, by rw [x.same i k m]; exact d⟩, x.dom i k m⟩
 ·intro V Vs i1 i2 vs h
  obtain ⟨v, r, e, a, b⟩ := h
  exact ⟨v, r, e, i1 v a, i2 r b⟩
theorem VRs.ext {W W' : Wd} (x : Ext W W') (Vs : List V) : ∀ vs : List Value, VRs W Vs vs → VRs W' Vs vs := by
 induction Vs with
 | nil => exact fun _ h => h
 | cons V Vs ih =>
  intro vs h
  obtain ⟨v, r, e, a, b⟩ := h
  exact ⟨v, r, e, VR.ext x V v a, ih r b⟩
noncomputable def DRs (W : Wd) : List (Int × V) → List (Int × Value) → Prop
 | [], ks => ks = []
 | (k, x) :: r, ks => ∃ v r', ks = (k, v) :: r' ∧ VR W x v ∧ DRs W r r'
noncomputable def attrNames : List Str := [s "isjunk", s "a", s "b", s "autojunk", s "matching_blocks", s "opcodes", s "fullbcount", s "b2j", s "bjunk", s "bpopular", s "_node2info", s "_ready_nodes", s "_npassedout", s "_nfinished"]
noncomputable def attrName (k : Nat) : Str := attrNames.getD k (s "")
noncomputable def NRs (W : Wd) : List (Nat × V) → List DictEntry → Prop
 | [], es => es = []
 | (k, x) :: r, es => ∃ e r' t, es = e :: r' ∧ e.key = .str (attrName k) t ∧ VR W x e.val ∧ NRs W r r'
noncomputable def SRs (W : Wd) : List (Option V) → List (Option Value) → Prop
 | [], vs => vs = []
 | x :: xs, vs => ∃ v r, vs = v :: r ∧ (match x, v with | some V, some u => VR W V u | none, none => True | _, _ => False) ∧ SRs W xs r
noncomputable def OR (W : Wd) (a : Addr) : O → Prop
 | .list xs => ∃ vs, W.h.PlainList a vs ∧ VRs W xs vs.toList
 | .dict es ep => ∃ kvs, W.h.DictAt (intKind pw W.w) a kvs ep ∧ DRs W es kvs
 | .set S n => W.h.SetOf (intKind pw W.w) a S n
 | .ns fs => ∃ es n, W.h.get? a = some ⟨.type "dict", none, .dict es n, #[]⟩ ∧ NRs W fs es.toList
 | .slots d fs => ∃ sl, W.h.get? a = some ⟨.ref 283, some (W.ρ d 0), .plain, sl⟩ ∧ (W.H.get d 0).isSome = true ∧ SRs W fs sl.toList
 | .iter i x k => W.h.get? a = some ⟨.type "list_iterator", none, .fields #[.ref (W.ρ i x), .int (k : Int) 0], #[]⟩ ∧ (W.H.get i x).isSome = true
 | .dead => ∃ o, W.h.get? a = some o ∧ ¬ Imm o
theorem DRs.ext {W W' : Wd} (x : Ext W W') (l : List (Int × V)) (ks : List (Int × Value)) (h : DRs W l ks) : DRs W' l ks := by
 induction l generalizing ks with
 | nil => exact h
 | cons k r ih => exact h.imp fun v h => h.imp fun r' h => ⟨h.1, h.2.1.ext x _ v, ih r' h.2.2⟩
theorem NRs.ext {W W' : Wd} (x : Ext W W') (l : List (Nat × V)) (ks : List DictEntry) (h : NRs W l ks) : NRs W' l ks := by
 induction l generalizing ks with
 | nil => exact h
 | cons k r ih => exact h.imp fun v h => h.imp fun r' h => h.imp fun t h => ⟨h.1, h.2.1, h.2.2.1.ext x _ v.val, ih r' h.2.2.2⟩
theorem SRs.ext {W W' : Wd} (x : Ext W W') (l : List (Option V)) (ks : List (Option Value)) (h : SRs W l ks) : SRs W' l ks := by
 induction l generalizing ks with
 | nil => exact h
 | cons X r ih =>
  refine h.imp fun v h => h.imp fun r' h => ⟨h.1, ?_, ih r' h.2.2⟩
  have a := h.2.1
  cases X <;> cases v
  ·trivial
  ·exact a
  ·exact a
  ·exact VR.ext x _ _ a
theorem OR.ext {W W' : Wd} (x : Ext W W') (hw : W'.w = W.w) {a : Addr} (same : ∀ o, W.h.get? a = some o → W'.h.get? a = some o) {o : O} (h : OR W a o) : OR W' a o := by
 cases o with
 | list xs => exact h.imp fun vs h => ⟨h.1.imp fun n => same _, VRs.ext x xs _ h.2⟩
 | dict es ep =>
  refine h.imp fun kvs h => ⟨?_, h.2.ext x es kvs⟩
  rw [hw]
  exact h.1.imp fun o h => h.imp fun en h => ⟨same _ h.1, h.2⟩
 | set S n =>
  unfold OR at h ⊢
  rw [hw]
  exact h.imp fun o h => h.imp fun es h => h.imp fun ep h => h.imp fun t h => ⟨same _ h.1, h.2⟩
 | ns fs => exact h.imp fun es h => h.imp fun n h => ⟨same _ h.1, NRs.ext x fs _ h.2⟩
 | slots d fs => exact h.imp fun sl h => ⟨by rw [x.same d 0 h.2.1]; exact same _ h.1, x.dom d 0 h.2.1, SRs.ext x fs _ h.2.2⟩
 | iter i k n => exact ⟨by rw [x.same i k h.2]; exact same _ h.1, x.dom i k h.2⟩
 | dead => exact h.imp fun o h => ⟨same _ h.1, h.2⟩
theorem imm_type {o : Obj} {n : String} (c : o.cls = .type n) (h : ["tuple", "builtin_function_or_method", "method-wrapper", "range", "dict_values"].contains n = false) (p : o.data ≠ .plain) : ¬ Imm o := fun him => by
 have no : ∀ {m : String}, ["tuple", "builtin_function_or_method", "method-wrapper", "range", "dict_values"].contains m = true → o.cls ≠ .type m := fun hm e => by
  rw [c] at e; cases e; rw [hm] at h; cases h
 exact him.elim (fun h => h.1.elim (no (by decide)) fun e => by rw [c] at e; cases e) fun h => h.elim (fun h => h.1.elim (no (by decide)) fun h => h.elim (no (by decide)) fun h => h.elim (no (by decide)) (no (by decide))) fun h => p h.2.1
theorem OR.at {W : Wd} {a : Addr} {o : O} (h : OR W a o) : ∃ ob, W.h.get? a = some ob ∧ ¬ Imm ob := by
 cases o with
 | list xs => exact h.elim fun vs h => h.1.elim fun n g => ⟨_, g, imm_type rfl (by decide) (fun e => nomatch e)⟩
 | dict es ep => exact h.elim fun kvs h => h.1.elim fun o h => h.elim fun en h => ⟨_, h.1, imm_type h.2.1.1 (by decide) (fun e => by rw [h.2.2.1] at e; cases e)⟩
 | set S n => exact h.elim fun o h => h.elim fun es h => h.elim fun ep h => h.elim fun t h => ⟨_, h.1, imm_type h.2.1.1 (by decide) (fun e => by rw [h.2.2.1] at e; cases e)⟩
 | ns fs => exact h.elim fun es h => h.elim fun n h => ⟨_, h.1, imm_type rfl (by decide) (fun e => nomatch e)⟩
 | slots d fs => exact h.elim fun sl h => ⟨_, h.1, fun h => h.elim (fun h => h.2.elim fun _ h => h.elim fun _ e => nomatch e) fun h => h.elim (fun h => h.2.elim fun _ e => nomatch e) fun h => h.2.2 rfl⟩
 | iter i k n => exact ⟨_, h.1, imm_type rfl (by decide) (fun e => nomatch e)⟩
 | dead => exact h
structure Cx where
 w : World
 env : Env
 names : List Str
 h1 : Heap
 h0 : Heap
 foot : Addr → Prop
 os : OsState
 outs : List Addr
noncomputable def Kept (S : List Addr) (h : Heap) (a : Addr) (o : Obj) : Prop := (∃ sl, h.get? a = some { o with slots := sl }) ∧ (a ∉ S → h.get? a = some o)
theorem Kept.same {S : List Addr} {h : Heap} {a : Addr} {o : Obj} (g : h.get? a = some o) : Kept S h a o := ⟨⟨o.slots, g⟩, fun _ => g⟩
theorem Kept.step {S : List Addr} {h h' : Heap} {a : Addr} {o : Obj} (k : Kept S h a o) (s : ∀ ob, h.get? a = some ob → h'.get? a = some ob) : Kept S h' a o := ⟨k.1.imp fun _ g => s _ g, fun n => s _ (k.2 n)⟩
theorem Kept.trans {S S' : List Addr} {h h' : Heap} {a : Addr} {o : Obj} (k : Kept S h a o) (s : ∀ ob, h.get? a = some ob → Kept S' h' a ob) (hS : a ∉ S → a ∉ S') : Kept S h' a o := ⟨let ⟨_, g⟩ := k.1; let ⟨sl, g'⟩ := (s _ g).1; ⟨sl, g'⟩, fun n => (s _ (k.2 n)).2 (hS n)⟩
structure St where
 loc : List (Option V)
 H : AH
noncomputable def LocR (W : Wd) (env : Env) (m : Str → Option Value) (x : Str) (ov : Option V) : Prop := match env.kindOf x, ov with
 | some .local, some V => ∃ v, m x = some v ∧ VR W V v
 | some .local, none => m x = none
 | some .cell, some V => ∃ ca o v, env.cells.lookup x = some ca ∧ W.h.get? ca = some o ∧ o.data = .cell (some v) ∧ VR W V v
 | some .cell, none => ∃ ca o, env.cells.lookup x = some ca ∧ W.h.get? ca = some o ∧ o.data = .cell none
 | _, _ => False
noncomputable def LocsR (W : Wd) (env : Env) (m : Str → Option Value) : List Str → List (Option V) → Prop
 | [], vs => vs = []
 | x :: xs, vs => ∃ v r, vs = v :: r ∧ LocR W env m x v ∧ LocsR W env m xs r
noncomputable def wd (c : Cx) (σ : St) (ρ : Nat → Int → Addr) (st : Shared) : Wd := ⟨c.w, σ.H, ρ, st.heap⟩
structure Den (c : Cx) (σ : St) (ρ : Nat → Int → Addr) (st : Shared) : Prop where
 gens : st.gens = #[]
 os : st.os = c.os
 keep : ∀ a o, c.h0.get? a = some o → ¬ c.foot a → Kept c.outs st.heap a o
 top : ∀ a o, c.h1.get? a = some o → st.heap.get? a = some o
 alive : ∀ a o, c.h0.get? a = some o → ∃ o', st.heap.get? a = some o'
 objs : ∀ i x o, σ.H.get i x = some o → OR (wd c σ ρ st) (ρ i x) o
 inj : ∀ i x j y, (σ.H.get i x).isSome = true → (σ.H.get j y).isSome = true → ρ i x = ρ j y → i = j ∧ x = y
 new : ∀ i x, (σ.H.get i x).isSome = true → (c.foot (ρ i x) ∨ c.h0.get? (ρ i x) = none) ∧ c.h1.get? (ρ i x) = none
 loc : ∃ m, st.heap.Ns c.env.locals m ∧ LocsR (wd c σ ρ st) c.env m c.names σ.loc
 frame : (c.foot c.env.locals ∨ c.h0.get? c.env.locals = none) ∧ c.h1.get? c.env.locals = none
 fsep : ∀ i x, (σ.H.get i x).isSome = true → ρ i x ≠ c.env.locals
 cells : ∀ x ca, (x, ca) ∈ c.env.cells → ((c.foot ca ∨ c.h0.get? ca = none) ∧ c.h1.get? ca = none) ∧ ca ≠ c.env.locals ∧ (∀ i y, (σ.H.get i y).isSome = true → ρ i y ≠ ca) ∧ ∃ o v, st.heap.get? ca = some o ∧ o.data = .cell v
 cnodup : (c.env.cells.map (·.2)).Nodup
 outs : ∀ L ∈ c.outs, c.h1.get? L = none ∧ L ≠ c.env.locals ∧ (∀ y ca, (y, ca) ∈ c.env.cells → L ≠ ca) ∧ (∀ i x, (σ.H.get i x).isSome = true → ρ i x ≠ L) ∧ ∃ o es ep, st.heap.get? L = some o ∧ o.data = .dict es ep
theorem lookup_mem {α β : Type} [BEq α] [LawfulBEq α] {x : α} {b : β} : ∀ {l : List (α × β)}, l.lookup x = some b → (x, b) ∈ l
 | (y, c) :: r, h => by
  rw [List.lookup_cons] at h
  split at h
  ·rename_i e; cases h; rw [eq_of_beq e]; exact .head _
  ·exact .tail _ (lookup_mem h)
theorem LocR.ext {W W' : Wd} (x : Ext W W') {env : Env} {m : Str → Option Value} {n : Str} {ov : Option V}
  (same : ∀ ca o, env.cells.lookup n = some ca → W.h.get? ca = some o → W'.h.get? ca = some o) (h : LocR W env m n ov) : LocR W' env m n ov := by
 unfold LocR at h ⊢
 split at h
 ·exact h.imp fun v h => ⟨h.1, h.2.ext x _ _⟩
 ·exact h
 ·exact h.imp fun ca h => h.imp fun o h => h.imp fun v h => ⟨h.1, same ca o h.1 h.2.1, h.2.2.1, h.2.2.2.ext x _ _⟩
 ·exact h.imp fun ca h => h.imp fun o h => ⟨h.1, same ca o h.1 h.2.1, h.2.2⟩
 ·exact h
theorem LocsR.ext {W W' : Wd} (x : Ext W W') {env : Env} {m : Str → Option Value} (same : ∀ n ca o, env.cells.lookup n = some ca → W.h.get? ca = some o → W'.h.get? ca = some o)
  (ns : List Str) (vs : List (Option V)) (h : LocsR W env m ns vs) : LocsR W' env m ns vs := by
 induction ns generalizing vs with
 | nil => exact h
 | cons n ns ih =>
  obtain ⟨v, r, e, a, b⟩ := h
  exact ⟨v, r, e, a.ext x (same _), ih r b⟩
section
variable {c : Cx} {σ : St} {ρ : Nat → Int → Addr} {st st' : Shared}
theorem Den.keeps (D : Den c σ ρ st) (k : ∀ b o, st.heap.get? b = some o → st'.heap.get? b = some o) (hg : st'.gens = st.gens) (ho : st'.os = st.os) :
  Den c σ ρ st' ∧ Ext (wd c σ ρ st) (wd c σ ρ st') := by
 have x : Ext (wd c σ ρ st) (wd c σ ρ st') := ⟨fun _ _ h => h, fun _ _ _ => rfl, fun a o h _ => k a o h⟩
 refine ⟨⟨hg.trans D.gens, ho.trans D.os, fun a o h f => (D.keep a o h f).step (k a), fun a o h => k _ _ (D.top a o h), fun a o h => (D.alive a o h).imp fun o' => k a o', fun i y o h => (D.objs i y o h).ext x rfl (fun ob => k _ ob), D.inj, D.new, ?_, D.frame, D.fsep, ?_, D.cnodup, fun L hL => let ⟨a, b, d, e, o, es, ep, g, q⟩ := D.outs L hL; ⟨a, b, d, e, o, es, ep, k _ _ g, q⟩⟩, x⟩
 ·obtain ⟨m, n, l⟩ := D.loc
  exact ⟨m, n.keeps k, l.ext x (fun _ ca o _ g => k ca o g) _ _⟩
 ·intro y ca h
  obtain ⟨a, b, d, o, v, g, e⟩ := D.cells y ca h
  exact ⟨a, b, d, o, v, k _ _ g, e⟩
theorem Den.upd (D : Den c σ ρ st) {i : Nat} {x : Int} {o' : O} (hd : (σ.H.get i x).isSome = true) (k : Heap.ExtBut (ρ i x) st.heap st'.heap) (hg : st'.gens = st.gens) (ho : st'.os = st.os)
  (r : OR (wd c { σ with H := σ.H.put i x o' } ρ st') (ρ i x) o') : Den c { σ with H := σ.H.put i x o' } ρ st' ∧ Ext (wd c σ ρ st) (wd c { σ with H := σ.H.put i x o' } ρ st') := by
 obtain ⟨ob₀, hx₀⟩ := Option.isSome_iff_exists.mp hd
 obtain ⟨ob, hob, him⟩ := (D.objs i x ob₀ hx₀).at
 have dm : ∀ j y, ((σ.H.put i x o').get j y).isSome = true ↔ (σ.H.get j y).isSome = true := fun j y => by
  rw [AH.get_put hd]
  split
  ·rename_i e; obtain ⟨rfl, rfl⟩ := e; simp [hd]
  ·exact Iff.rfl
 have X : Ext (wd c σ ρ st) (wd c { σ with H := σ.H.put i x o' } ρ st') := ⟨fun j y h => (dm j y).mpr h, fun _ _ _ => rfl, fun a o h m => by
  by_cases e : a = ρ i x
  ·subst e; rw [hob] at h; cases h; exact absurd m him
  ·exact k a o e h⟩
 refine ⟨⟨hg.trans D.gens, ho.trans D.os, fun a o h f => (D.keep a o h f).step fun ob => k a ob (fun e => ?_), fun a o h => k a o (fun e => ?_) (D.top a o h), fun a o h => ?_, fun j y o h => ?_, fun j y j' y' h h' => D.inj j y j' y' ((dm j y).mp h) ((dm j' y').mp h'),
  fun j y h => D.new j y ((dm j y).mp h), ?_, D.frame, fun j y h => D.fsep j y ((dm j y).mp h), ?_, D.cnodup, fun L hL => let ⟨a, b, d, e, o, es, ep, g, q⟩ := D.outs L hL; ⟨a, b, d, fun j y q => e j y ((dm j y).mp q), o, es, ep, k _ _ (fun q => e i x hd q.symm) g, q⟩⟩, X⟩
 ·subst e; rcases (D.new i x hd).1 with q | q
  ·exact f q
  ·rw [h] at q; cases q
 ·subst e; have q := (D.new i x hd).2; rw [h] at q; cases q
 ·obtain ⟨o1, g1⟩ := D.alive a o h
  by_cases e : a = ρ i x
  ·subst e; obtain ⟨z, g, _⟩ := r.at; exact ⟨z, g⟩
  ·exact ⟨o1, k a o1 e g1⟩
 ·rw [AH.get_put hd] at h
  split at h
  ·rename_i e; obtain ⟨rfl, rfl⟩ := e; cases h; exact r
  ·rename_i e
   refine (D.objs j y o h).ext X rfl fun ob g => k _ _ (fun q => e ?_) g
   obtain ⟨a, b⟩ := D.inj j y i x (by rw [h]; rfl) hd q
   exact ⟨a, b⟩
 ·obtain ⟨m, n, l⟩ := D.loc
  refine ⟨m, ?_, l.ext X (fun y ca o q g => k ca o (fun e => ?_) g) _ _⟩
  ·obtain ⟨o, es, ep, g, q⟩ := n
   exact ⟨o, es, ep, k _ _ (fun e => D.fsep i x hd e.symm) g, q⟩
  ·exact (D.cells y ca (lookup_mem q)).2.2.1 i x hd e.symm
 ·intro y ca h
  obtain ⟨a, b, d, o, v, g, e⟩ := D.cells y ca h
  exact ⟨a, b, fun j z q => d j z ((dm j z).mp q), o, v, k _ _ (fun q => d i x hd q.symm) g, e⟩
theorem AH.get_app {H : AH} {o : O} (j : Nat) (y : Int) : (H ++ [Fam.one o]).get j y = if j = H.length then (if y = 0 then some o else none) else H.get j y := by
 unfold AH.get
 by_cases e : j = H.length
 ·subst e; simp
 ·rw [if_neg e]
  rcases Nat.lt_or_ge j H.length with q | q
  ·rw [List.getElem?_append_left q]
  ·rw [List.getElem?_append_right q, List.getElem?_eq_none (by simp; grind), List.getElem?_eq_none q]
theorem AH.get_lt {H : AH} {j : Nat} {y : Int} (h : (H.get j y).isSome = true) : j < H.length := by
 rcases Nat.lt_or_ge j H.length with q | q
 ·exact q
 ·unfold AH.get at h; rw [List.getElem?_eq_none q] at h; cases h
noncomputable def ρapp (ρ : Nat → Int → Addr) (n : Nat) (a : Addr) : Nat → Int → Addr := fun j y => if j = n then a else ρ j y
structure Aside (c : Cx) (σ : St) (ρ : Nat → Int → Addr) (a : Addr) : Prop where
 h0 : c.h0.get? a = none
 h1 : c.h1.get? a = none
 ref : ∀ i x, (σ.H.get i x).isSome = true → ρ i x ≠ a
 frame : c.env.locals ≠ a
 cell : ∀ y, (y, a) ∉ c.env.cells
 outs : a ∉ c.outs
theorem Den.fresh (D : Den c σ ρ st) {a : Addr} (h : st.heap.get? a = none) : Aside c σ ρ a where
 h0 := by
  cases e : c.h0.get? a with
  | none => rfl
  | some o => obtain ⟨z, g⟩ := D.alive a o e; rw [h] at g; cases g
 h1 := by
  cases e : c.h1.get? a with
  | none => rfl
  | some o => have g := D.top a o e; rw [h] at g; cases g
 ref := fun i x d e => by
  obtain ⟨ob, q⟩ := Option.isSome_iff_exists.mp d
  obtain ⟨z, g, _⟩ := (D.objs i x ob q).at
  have g' : st.heap.get? (ρ i x) = some z := g
  rw [e, h] at g'; cases g'
 frame := fun e => by
  obtain ⟨m, ⟨o, es, ep, g, _⟩, _⟩ := D.loc
  rw [e, h] at g; cases g
 cell := fun y hy => by
  obtain ⟨_, _, _, o, v, g, _⟩ := D.cells y a hy
  rw [h] at g; cases g
 outs := fun hL => by
  obtain ⟨_, _, _, _, o, es, ep, g, _⟩ := D.outs a hL
  rw [h] at g; cases g
theorem adopt_at {H : AH} {o' : O} {ρ : Nat → Int → Addr} {a : Addr} {j : Nat} {y : Int} (h : (H.get j y).isSome = true) : (H ++ [Fam.one o']).get j y = H.get j y ∧ ρapp ρ H.length a j y = ρ j y := by
 have n := Nat.ne_of_lt (AH.get_lt h)
 exact ⟨by rw [AH.get_app, if_neg n], if_neg n⟩
theorem adopt_cases {H : AH} {o' : O} {ρ : Nat → Int → Addr} {a : Addr} {j : Nat} {y : Int} {C : Prop} (h : ((H ++ [Fam.one o']).get j y).isSome = true) (k1 : (H.get j y).isSome = true → ρapp ρ H.length a j y = ρ j y → C) (k2 : j = H.length → y = 0 → ρapp ρ H.length a j y = a → C) : C := by
 rw [AH.get_app] at h
 split at h
 ·rename_i e
  split at h
  ·rename_i e2; exact k2 e e2 (if_pos e)
  ·cases h
 ·exact k1 h (adopt_at (o' := o') h).2
theorem Den.adopt {c : Cx} {σ : St} {ρ : Nat → Int → Addr} {st : Shared} (D : Den c σ ρ st) {a : Addr} {o' : O} (S : Aside c σ ρ a) (r : OR (wd c { σ with H := σ.H ++ [.one o'] } (ρapp ρ σ.H.length a) st) a o') :
  Den c { σ with H := σ.H ++ [.one o'] } (ρapp ρ σ.H.length a) st ∧ Ext (wd c σ ρ st) (wd c { σ with H := σ.H ++ [.one o'] } (ρapp ρ σ.H.length a) st) := by
 have X : Ext (wd c σ ρ st) (wd c { σ with H := σ.H ++ [.one o'] } (ρapp ρ σ.H.length a) st) := ⟨fun j y h => by
  show ((σ.H ++ [Fam.one o']).get j y).isSome = true
  exact ((congrArg Option.isSome (adopt_at (H := σ.H) (o' := o') (ρ := ρ) (a := a) h).1).trans h), fun j y h => (adopt_at (o' := o') h).2, fun b o h _ => h⟩
 have new : ∀ {P : Addr → Prop}, (∀ i x, (σ.H.get i x).isSome = true → P (ρ i x)) → P a → ∀ i x, ((σ.H ++ [Fam.one o']).get i x).isSome = true → P (ρapp ρ σ.H.length a i x) := fun {P} h1 h2 i x h =>
  adopt_cases (ρ := ρ) (a := a) h (fun q e => by rw [e]; exact h1 i x q) fun _ _ e => by rw [e]; exact h2
 refine ⟨⟨D.gens, D.os, D.keep, D.top, D.alive, fun j y o h => ?_, fun i x j y h h' e => ?_, new (P := fun b => (c.foot b ∨ c.h0.get? b = none) ∧ c.h1.get? b = none) D.new ⟨.inr S.h0, S.h1⟩, ?_, D.frame, new (P := fun b => b ≠ c.env.locals) D.fsep fun e => S.frame e.symm, ?_, D.cnodup, fun L hL => ?_⟩, X⟩
 ·refine adopt_cases (ρ := ρ) (a := a) (by rw [show (σ.H ++ [Fam.one o']).get j y = some o from h]; rfl) (fun q e => ?_) fun e1 e2 e => ?_
  ·rw [e]
   exact (D.objs j y o ((adopt_at (ρ := ρ) (a := a) (o' := o') q).1.symm.trans h)).ext X rfl fun ob q => q
  ·subst e1 e2
   rw [e]
   have h' : (σ.H ++ [Fam.one o']).get σ.H.length 0 = some o := h
   rw [AH.get_app, if_pos rfl, if_pos rfl] at h'
   cases h'; exact r
 ·refine adopt_cases (ρ := ρ) (a := a) h (fun q e1 => adopt_cases (ρ := ρ) (a := a) h' (fun q' e2 => ?_) fun _ _ e2 => ?_) fun a1 a2 e1 => adopt_cases (ρ := ρ) (a := a) h' (fun q' e2 => ?_) fun b1 b2 e2 => ⟨a1.trans b1.symm, a2.trans b2.symm⟩
  ·rw [e1, e2] at e; exact D.inj i x j y q q' e
  ·rw [e1, e2] at e; exact absurd e (S.ref i x q)
  ·rw [e1, e2] at e; exact absurd e.symm (S.ref j y q')
 ·obtain ⟨m, n, l⟩ := D.loc
  exact ⟨m, n, l.ext X (fun _ ca o _ g => g) _ _⟩
 ·intro y ca h
  obtain ⟨a', b, d, e⟩ := D.cells y ca h
  exact ⟨a', b, new (P := fun b => b ≠ ca) d fun e => S.cell y (e ▸ h), e⟩
 ·obtain ⟨a', b, d, e, f⟩ := D.outs L hL
  exact ⟨a', b, d, new (P := fun b => b ≠ L) e fun e => S.outs (e ▸ hL), f⟩
theorem Den.alloc (D : Den c σ ρ st) {a : Addr} {o' : O} (hn : st.heap.get? a = none) (k : ∀ b o, st.heap.get? b = some o → st'.heap.get? b = some o) (hg : st'.gens = st.gens) (ho : st'.os = st.os)
  (r : OR (wd c { σ with H := σ.H ++ [.one o'] } (ρapp ρ σ.H.length a) st') a o') :
  Den c { σ with H := σ.H ++ [.one o'] } (ρapp ρ σ.H.length a) st' ∧ Ext (wd c σ ρ st) (wd c { σ with H := σ.H ++ [.one o'] } (ρapp ρ σ.H.length a) st') :=
 have K := D.keeps k hg ho
 have N := K.1.adopt (D.fresh hn) r
 ⟨N.1, K.2.trans N.2⟩
theorem LocR.other {W : Wd} {env : Env} {m : Str → Option Value} {n k : Str} {v : Option Value} {ov : Option V} (hne : n ≠ k) (h : LocR W env m n ov) :
  LocR W env (fun x => if x = k then v else m x) n ov := by
 unfold LocR at h ⊢
 split at h
 ·obtain ⟨u, e, r⟩ := h; exact ⟨u, by simp only [if_neg hne]; exact e, r⟩
 ·simp only [if_neg hne]; exact h
 ·exact h
 ·exact h
 ·exact h
theorem LocsR.set {W : Wd} {env : Env} {m : Str → Option Value} {k : Str} {v : Value} {X : V} (hk : env.kindOf k = some .local) (hv : VR W X v) :
  ∀ (ns : List Str) (vs : List (Option V)) (j : Nat), ns.Nodup → ns[j]? = some k → LocsR W env m ns vs → LocsR W env (fun x => if x = k then some v else m x) ns (vs.set j (some X))
 | [], _, _, _, hj, _ => by simp at hj
 | n :: ns, _, j, hn, hj, ⟨v₁, r, e, a, b⟩ => by
  subst e
  rw [List.nodup_cons] at hn
  cases j with
  | zero =>
   simp only [List.getElem?_cons_zero, Option.some.injEq] at hj
   subst hj
   refine ⟨some X, r, rfl, ?_, ?_⟩
   ·unfold LocR; rw [hk]; exact ⟨v, if_pos rfl, hv⟩
   ·have : ∀ (ns : List Str) (vs : List (Option V)), n ∉ ns → LocsR W env m ns vs → LocsR W env (fun x => if x = n then some v else m x) ns vs := by
     intro ns
     induction ns with
     | nil => intro vs _ h; exact h
     | cons y ys ih =>
      intro vs hy h
      obtain ⟨v₂, r₂, e₂, a₂, b₂⟩ := h
      simp only [List.mem_cons, not_or] at hy
      exact ⟨v₂, r₂, e₂, a₂.other (fun q => hy.1 q.symm), ih r₂ hy.2 b₂⟩
    exact this ns r hn.1 b
  | succ j =>
   simp only [List.getElem?_cons_succ] at hj
   refine ⟨v₁, r.set j (some X), rfl, a.other (fun q => ?_), LocsR.set hk hv ns r j hn.2 hj b⟩
   subst q
   exact hn.1 (List.mem_of_getElem? hj)
theorem Den.store (D : Den c σ ρ st) {j : Nat} {k : Str} {v : Value} {X : V} (hn : c.names.Nodup) (hj : c.names[j]? = some k) (hk : c.env.kindOf k = some .local) (hv : VR (wd c σ ρ st) X v)
  {m : Str → Option Value} (hm : st.heap.Ns c.env.locals m) (l : LocsR (wd c σ ρ st) c.env m c.names σ.loc)
  (hns : st'.heap.Ns c.env.locals (fun x => if x = k then some v else m x)) (hs : Heap.SameBut c.env.locals st.heap st'.heap) (hg : st'.gens = st.gens) (ho : st'.os = st.os) :
  Den c { σ with loc := σ.loc.set j (some X) } ρ st' ∧ Ext (wd c σ ρ st) (wd c { σ with loc := σ.loc.set j (some X) } ρ st') := by
 have kb : ∀ b o, b ≠ c.env.locals → st.heap.get? b = some o → st'.heap.get? b = some o := fun b o h e => (hs.2 b h).trans e
 obtain ⟨of, esf, epf, gf, df, _⟩ := hm
 have X0 : Ext (wd c σ ρ st) (wd c { σ with loc := σ.loc.set j (some X) } ρ st') := ⟨fun _ _ h => h, fun _ _ _ => rfl, fun a o h im => by
  by_cases e : a = c.env.locals
  ·subst e
   have h' : st.heap.get? c.env.locals = some o := h
   rw [gf] at h'; cases h'
   rcases im with ⟨_, vs, n, q⟩ | ⟨_, vs, q⟩ | ⟨_, q, _⟩ <;> (rw [df] at q; cases q)
  ·exact kb a o e h⟩
 refine ⟨⟨hg.trans D.gens, ho.trans D.os, fun a o h f => (D.keep a o h f).step fun ob => kb a ob (fun e => ?_), fun a o h => kb a o (fun e => ?_) (D.top a o h), fun a o h => ?_, fun i y o h => (D.objs i y o h).ext X0 rfl (fun ob => kb _ ob (D.fsep i y (by rw [h]; rfl))), D.inj, D.new, ?_, D.frame, D.fsep, ?_, D.cnodup, fun L hL => let ⟨a, b, d, e, o, es, ep, g, q⟩ := D.outs L hL; ⟨a, b, d, e, o, es, ep, kb _ _ b g, q⟩⟩, X0⟩
 ·subst e; rcases D.frame.1 with q | q
  ·exact f q
  ·rw [q] at h; cases h
 ·subst e; rw [D.frame.2] at h; cases h
 ·obtain ⟨o1, g1⟩ := D.alive a o h
  by_cases e : a = c.env.locals
  ·subst e; obtain ⟨z, _, _, g, _⟩ := hns; exact ⟨z, g⟩
  ·exact ⟨o1, kb a o1 e g1⟩
 ·refine ⟨_, hns, ?_⟩
  have l' := l.ext X0 (fun n ca o q g => kb ca o (D.cells n ca (lookup_mem q)).2.1 g) _ _
  exact LocsR.set hk (hv.ext X0 _ _) _ _ j hn hj l'
 ·intro y ca h
  obtain ⟨a, b, d, o, v, g, e⟩ := D.cells y ca h
  exact ⟨a, b, d, o, v, kb _ _ b g, e⟩
theorem LocsR.setCell {W W' : Wd} (x : Ext W W') {env : Env} {m : Str → Option Value} {k : Str} {v : Value} {X : V} {ca : Addr} {o' : Obj} (hk : env.kindOf k = some .cell) (hc : env.cells.lookup k = some ca)
  (hd : (env.cells.map (·.2)).Nodup) (ho : W'.h.get? ca = some o') (hdt : o'.data = .cell (some v)) (hv : VR W' X v)
  (same : ∀ n ca' o, ca' ≠ ca → env.cells.lookup n = some ca' → W.h.get? ca' = some o → W'.h.get? ca' = some o) :
  ∀ (ns : List Str) (vs : List (Option V)) (j : Nat), ns.Nodup → ns[j]? = some k → LocsR W env m ns vs → LocsR W' env m ns (vs.set j (some X))
 | [], _, _, _, hj, _ => by simp at hj
 | n :: ns, _, j, hn, hj, ⟨v₁, r, e, a, b⟩ => by
  have other : ∀ n ov, n ≠ k → LocR W env m n ov → LocR W' env m n ov := fun n ov hne h => h.ext x fun ca' o q g => same n ca' o (fun e => by
   subst e
   have h1 := lookup_mem q
   have h2 := lookup_mem hc
   exact hne (by
    obtain ⟨i, hi, e1⟩ := List.getElem_of_mem h1
    obtain ⟨j, hj, e2⟩ := List.getElem_of_mem h2
    have hi' : i < (env.cells.map (·.2)).length := by simpa using hi
    have hj' : j < (env.cells.map (·.2)).length := by simpa using hj
    have : i = j := (List.getElem_inj (h₀ := hi') (h₁ := hj') hd).mp (by simp [e1, e2])
    subst this
    rw [e1] at e2
    exact congrArg Prod.fst e2)) q g
  subst e
  rw [List.nodup_cons] at hn
  cases j with
  | zero =>
   simp only [List.getElem?_cons_zero, Option.some.injEq] at hj
   subst hj
   refine ⟨some X, r, rfl, ?_, ?_⟩
   ·unfold LocR; rw [hk]; exact ⟨ca, o', v, hc, ho, hdt, hv⟩
   ·have : ∀ (ns : List Str) (vs : List (Option V)), n ∉ ns → LocsR W env m ns vs → LocsR W' env m ns vs := by
     intro ns
     induction ns with
     | nil => intro vs _ h; exact h
     | cons y ys ih =>
      intro vs hy h
      obtain ⟨v₂, r₂, e₂, a₂, b₂⟩ := h
      simp only [List.mem_cons, not_or] at hy
      exact ⟨v₂, r₂, e₂, other _ _ (fun q => hy.1 q.symm) a₂, ih r₂ hy.2 b₂⟩
    exact this ns r hn.1 b
  | succ j =>
   simp only [List.getElem?_cons_succ] at hj
   refine ⟨v₁, r.set j (some X), rfl, other _ _ (fun q => ?_) a, LocsR.setCell x hk hc hd ho hdt hv same ns r j hn.2 hj b⟩
   subst q
   exact hn.1 (List.mem_of_getElem? hj)
theorem Den.storeCell (D : Den c σ ρ st) {j : Nat} {k : Str} {v : Value} {X : V} {ca : Addr} {o' : Obj} (hn : c.names.Nodup) (hj : c.names[j]? = some k) (hk : c.env.kindOf k = some .cell) (hc : c.env.cells.lookup k = some ca)
  (hv : VR (wd c σ ρ st) X v) (hs : Heap.SameBut ca st.heap st'.heap) (ho' : st'.heap.get? ca = some o') (hdt : o'.data = .cell (some v)) (hg : st'.gens = st.gens) (ho : st'.os = st.os) :
  Den c { σ with loc := σ.loc.set j (some X) } ρ st' ∧ Ext (wd c σ ρ st) (wd c { σ with loc := σ.loc.set j (some X) } ρ st') := by
 have kb : ∀ b o, b ≠ ca → st.heap.get? b = some o → st'.heap.get? b = some o := fun b o h e => (hs.2 b h).trans e
 have hmem := lookup_mem hc
 obtain ⟨⟨n0, n1⟩, nl, no, of, vf, gf, df⟩ := D.cells k ca hmem
 have X0 : Ext (wd c σ ρ st) (wd c { σ with loc := σ.loc.set j (some X) } ρ st') := ⟨fun _ _ h => h, fun _ _ _ => rfl, fun a o h im => by
  by_cases e : a = ca
  ·subst e
   have h' : st.heap.get? a = some o := h
   rw [gf] at h'; cases h'
   rcases im with ⟨_, vs, n, q⟩ | ⟨_, vs, q⟩ | ⟨_, q, _⟩ <;> (rw [df] at q; cases q)
  ·exact kb a o e h⟩
 refine ⟨⟨hg.trans D.gens, ho.trans D.os, fun a o h f => (D.keep a o h f).step fun ob => kb a ob (fun e => ?_), fun a o h => kb a o (fun e => ?_) (D.top a o h), fun a o h => ?_, fun i y o h => (D.objs i y o h).ext X0 rfl (fun ob => kb _ ob (no i y (by rw [h]; rfl))), D.inj, D.new, ?_, D.frame, D.fsep, ?_, D.cnodup, fun L hL => let ⟨a, b, d, e, o, es, ep, g, q⟩ := D.outs L hL; ⟨a, b, d, e, o, es, ep, kb _ _ (d k ca hmem) g, q⟩⟩, X0⟩
 ·subst e; rcases n0 with q | q
  ·exact f q
  ·rw [q] at h; cases h
 ·subst e; rw [n1] at h; cases h
 ·obtain ⟨o1, g1⟩ := D.alive a o h
  by_cases e : a = ca
  ·subst e; exact ⟨o', ho'⟩
  ·exact ⟨o1, kb a o1 e g1⟩
 ·obtain ⟨m, n, l⟩ := D.loc
  refine ⟨m, n.sameBut hs (fun e => nl e.symm), ?_⟩
  exact LocsR.setCell X0 hk hc D.cnodup ho' hdt (hv.ext X0 _ _) (fun n ca' o q _ g => kb ca' o q g) _ _ j hn hj l
 ·intro y ca2 h
  obtain ⟨a, b, d, o, v2, g, e⟩ := D.cells y ca2 h
  by_cases q : ca2 = ca
  ·subst q; exact ⟨a, b, d, o', _, ho', hdt⟩
  ·exact ⟨a, b, d, o, v2, kb _ _ q g, e⟩
noncomputable def Cx.now (c : Cx) (σ : St) (ρ : Nat → Int → Addr) (st : Shared) : Cx :=
 { c with h0 := st.heap, foot := fun a => (∃ i x, (σ.H.get i x).isSome = true ∧ a = ρ i x) ∨ a = c.env.locals ∨ ∃ y, (y, a) ∈ c.env.cells }
theorem Den.now (D : Den c σ ρ st) : Den (c.now σ ρ st) σ ρ st :=
 ⟨D.gens, D.os, fun _ _ h _ => Kept.same h, D.top, fun _ o h => ⟨o, h⟩, D.objs, D.inj, fun i x h => ⟨.inl (.inl ⟨i, x, h, rfl⟩), (D.new i x h).2⟩, D.loc, ⟨.inl (.inr (.inl rfl)), D.frame.2⟩, D.fsep,
  fun x ca h => let ⟨a, b, d⟩ := D.cells x ca h; ⟨⟨.inl (.inr (.inr ⟨x, h⟩)), a.2⟩, b, d⟩, D.cnodup, D.outs⟩
theorem Den.back {σ' : St} {ρ' : Nat → Int → Addr} (D : Den c σ ρ st) (D' : Den (c.now σ ρ st) σ' ρ' st') : Den c σ' ρ' st' := by
 have nf : ∀ a o, c.h0.get? a = some o → ¬ c.foot a → ¬ (c.now σ ρ st).foot a := by
  intro a o h f q
  rcases q with ⟨i, x, d, rfl⟩ | rfl | ⟨y, hy⟩
  ·rcases (D.new i x d).1 with q | q
   ·exact f q
   ·rw [h] at q; cases q
  ·rcases D.frame.1 with q | q
   ·exact f q
   ·rw [h] at q; cases q
  ·rcases (D.cells y a hy).1.1 with q | q
   ·exact f q
   ·rw [h] at q; cases q
 have h0n : ∀ a, st.heap.get? a = none → c.h0.get? a = none := fun a h => by
  cases e : c.h0.get? a with
  | none => rfl
  | some o => obtain ⟨z, g⟩ := D.alive a o e; rw [h] at g; cases g
 refine ⟨D'.gens, D'.os, fun a o h f => (D.keep a o h f).trans (fun ob g => D'.keep a ob g (nf a o h f)) id, D'.top, fun a o h => ?_, D'.objs, D'.inj, fun i x h => ⟨?_, (D'.new i x h).2⟩, D'.loc, ⟨?_, D'.frame.2⟩, D'.fsep, fun y ca h => ?_, D'.cnodup, D'.outs⟩
 ·obtain ⟨z, g⟩ := D.alive a o h; exact D'.alive a z g
 ·rcases (D'.new i x h).1 with (⟨j, y, d, e⟩ | e | ⟨y, hy⟩) | q
  ·rw [e]; exact (D.new j y d).1
  ·exact absurd e (D'.fsep i x h)
  ·exact absurd rfl ((D'.cells y _ hy).2.2.1 i x h)
  ·exact .inr (h0n _ q)
 ·exact D.frame.1
 ·obtain ⟨a, b, d⟩ := D'.cells y ca h
  exact ⟨⟨(D.cells y ca h).1.1, a.2⟩, b, d⟩
theorem Den.rest {σ' : St} {ρ' : Nat → Int → Addr} (D' : Den (c.now σ ρ st) σ' ρ' st') {a : Addr} {o : Obj} (h : st.heap.get? a = some o) (h1 : ∀ i x, (σ.H.get i x).isSome = true → a ≠ ρ i x) (h2 : a ≠ c.env.locals) (h3 : ∀ y, (y, a) ∉ c.env.cells) (h4 : a ∉ c.outs) :
  st'.heap.get? a = some o := (D'.keep a o h fun q => by
 rcases q with ⟨i, x, d, e⟩ | e | ⟨y, hy⟩
 ·exact h1 i x d e
 ·exact h2 e
 ·exact h3 y hy).2 h4
end
end
section
inductive TE where
 | none
 | bool (b : Bool)
 | int (i : Int)
 | str (x : Str)
 | neg (e : TE)
 | loc (k : Nat)
 | glob (k : Nat)
 | bin (op : Operator) (a b : TE)
 | cmp (op : CmpOp) (a b : TE)
 | not (a : TE)
 | bop (op : BoolOp) (es : List TE)
 | ite (t a b : TE)
 | attr (e : TE) (n : Str)
 | sub (e i : TE)
 | slice (e : TE) (lo hi : Option TE)
 | call (f : TE) (es : List TE)
 | meth (o : TE) (n : Str) (es : List TE)
 | list (es : List TE)
 | tuple (es : List TE)
 | dict0
 | named (k : Nat) (e : TE)
 | never
 | sem (p : Expr → Bool)
noncomputable abbrev MM (c : Cx) : Model := model pw c.w
noncomputable def noExc : Value → Shared → Prop := fun _ _ => False
inductive Post (c : Cx) (W : Wd) (Q : V → St → Prop) (v : Value) (st' : Shared) : Prop
 | mk (X : V) (σ' : St) (ρ' : Nat → Int → Addr) (D : Den c σ' ρ' st') (r : VR (wd c σ' ρ' st') X v) (x : Ext W (wd c σ' ρ' st')) (q : Q X σ')
inductive PostB (c : Cx) (W : Wd) (Q : Bool → St → Prop) (b : Bool) (st' : Shared) : Prop
 | mk (σ' : St) (ρ' : Nat → Int → Addr) (D : Den c σ' ρ' st') (x : Ext W (wd c σ' ρ' st')) (q : Q b σ')
inductive PostVs (c : Cx) (W : Wd) (Q : List V → St → Prop) (vs : List Value) (st' : Shared) : Prop
 | mk (Xs : List V) (σ' : St) (ρ' : Nat → Int → Addr) (D : Den c σ' ρ' st') (r : VRs (wd c σ' ρ' st') Xs vs) (x : Ext W (wd c σ' ρ' st')) (q : Q Xs σ')
inductive PostM (c : Cx) (W : Wd) (Q : V → List V → St → Prop) (fv : Value × List Value) (st' : Shared) : Prop
 | mk (F : V) (Fs : List V) (σ' : St) (ρ' : Nat → Int → Addr) (D : Den c σ' ρ' st') (r : VR (wd c σ' ρ' st') F fv.1) (rs : VRs (wd c σ' ρ' st') Fs fv.2) (x : Ext W (wd c σ' ρ' st')) (q : Q F Fs σ')
noncomputable def Ev (c : Cx) (A : Around) (σ : St) (t : Sem Value) (Q : V → St → Prop) : Prop := ∀ ρ st, Den c σ ρ st → wpAny (MM c) A t (Post c (wd c σ ρ st) Q) noExc st
noncomputable def Bo (c : Cx) (A : Around) (σ : St) (t : Sem Bool) (Q : Bool → St → Prop) : Prop := ∀ ρ st, Den c σ ρ st → wpAny (MM c) A t (PostB c (wd c σ ρ st) Q) noExc st
noncomputable def Op1 (c : Cx) (A : Around) (σ : St) (X : V) (f : Value → Sem Value) (Q : V → St → Prop) : Prop := ∀ ρ st v, Den c σ ρ st → VR (wd c σ ρ st) X v → wpAny (MM c) A (f v) (Post c (wd c σ ρ st) Q) noExc st
noncomputable def Op2 (c : Cx) (A : Around) (σ : St) (X Y : V) (f : Value → Value → Sem Value) (Q : V → St → Prop) : Prop :=
 ∀ ρ st v u, Den c σ ρ st → VR (wd c σ ρ st) X v → VR (wd c σ ρ st) Y u → wpAny (MM c) A (f v u) (Post c (wd c σ ρ st) Q) noExc st
noncomputable def Op3 (c : Cx) (A : Around) (σ : St) (X Y Z : V) (f : Value → Value → Value → Sem Value) (Q : V → St → Prop) : Prop :=
 ∀ ρ st v u t, Den c σ ρ st → VR (wd c σ ρ st) X v → VR (wd c σ ρ st) Y u → VR (wd c σ ρ st) Z t → wpAny (MM c) A (f v u t) (Post c (wd c σ ρ st) Q) noExc st
noncomputable def Ca (c : Cx) (A : Around) (σ : St) (F : V) (Xs : List V) (Q : V → St → Prop) : Prop :=
 ∀ ρ st f vs, Den c σ ρ st → VR (wd c σ ρ st) F f → VRs (wd c σ ρ st) Xs vs → wpAny (MM c) A (call f vs) (Post c (wd c σ ρ st) Q) noExc st
noncomputable def Tr (c : Cx) (A : Around) (σ : St) (X : V) (Q : Bool → St → Prop) : Prop := ∀ ρ st v, Den c σ ρ st → VR (wd c σ ρ st) X v → wpAny (MM c) A (truthy v) (PostB c (wd c σ ρ st) Q) noExc st
noncomputable def KeepV (c : Cx) (F : V) : Prop := ∀ σ ρ st v, Den c σ ρ st → VR (wd c σ ρ st) F v → ∃ k, (k = Keeper.frame ∨ k = Keeper.machine ∨ k = Keeper.boundFrame) ∧ Looks (MM c) st.heap (keeperOf v) k
noncomputable def GetM (c : Cx) (A : Around) (σ : St) (X : V) (n : Str) (Q : V → List V → St → Prop) : Prop :=
 ∀ ρ st v pl, Den c σ ρ st → VR (wd c σ ρ st) X v → wpAny (MM c) A (getMethod v n pl) (PostM c (wd c σ ρ st) Q) noExc st
noncomputable def itemOf (o i : Value) : Sem Value := do
 let b ← getitemInPython o
 match b with
 | true => runValue (.builtin "lifetime.subscript" ⟨[o, i], []⟩)
 | false => getItem o i
noncomputable def sliceOf (p : Pos) (o l u : Value) : Sem Value := do
 let i ← newFields "slice" [l, u, .none]
 standAt p
 let _ ← getitemInPython o
 getItem o i
noncomputable def gtab : List (Str × V) := [(s "len", .bi "len"), (s "range", .typ "range"), (s "enumerate", .typ "enumerate"), (s "max", .bi "max"), (s "min", .bi "min"), (s "sum", .bi "sum"), (s "list", .typ "list"), (s "map", .typ "map"), (s "tuple", .typ "tuple"), (s "set", .typ "set"), (s "iter", .bi "iter"), (s "bool", .typ "bool"),
 (s "Match", .obj 135), (s "SequenceMatcher", .obj 242), (s "insort_left", .obj 255), (s "bisect_left", .obj 264), (s "_NODE_OUT", .int (-1)), (s "_NODE_DONE", .int (-2)), (s "_NodeInfo", .obj 283), (s "TopologicalSorter", .obj 380), (s "_law_whole", .obj 389), (s "_law_order", .obj 396), (s "StopIteration", .typ "StopIteration")]
@[reducible] noncomputable def lk : List (Option V) → Nat → Option V
 | [], _ => none
 | x :: _, 0 => x
 | _ :: xs, k + 1 => lk xs k
@[reducible] noncomputable def stl : List (Option V) → Nat → V → List (Option V)
 | [], _, _ => []
 | _ :: xs, 0, X => some X :: xs
 | x :: xs, k + 1, X => x :: stl xs k X
@[reducible] noncomputable def St.set (σ : St) (k : Nat) (X : V) : St := ⟨stl σ.loc k X, σ.H⟩
@[reducible] noncomputable def St.setK (σ : St) (k : Nat) (X : V) (Q : St → Prop) : Prop := match σ with
 | ⟨l, H⟩ => Q ⟨stl l k X, H⟩
@[reducible] noncomputable def St.newK (σ : St) (o : O) (Q : V → St → Prop) : Prop := match σ with
 | ⟨l, H⟩ => Q (.ref H.length 0) ⟨l, H ++ [.one o]⟩
@[reducible] noncomputable def St.sets (σ : St) : List Nat → List V → St
 | k :: ks, x :: xs => (σ.set k x).sets ks xs
 | _, _ => σ
@[reducible] noncomputable def withV (o : Option V) (f : V → Prop) : Prop := match o with
 | some X => f X
 | none => False
inductive Tst where
 | lit (b : Bool)
 | prop (p : Prop)
noncomputable def br (p P R : Prop) : Prop := (p → P) ∧ (¬ p → R)
@[reducible] noncomputable def sel (b : Tst) (P R : Prop) : Prop := match b with
 | .lit true => P
 | .lit false => R
 | .prop p => br p P R
@[reducible] noncomputable def V.asInt (X : V) (f : Int → Prop) (d : Prop) : Prop := match X with
 | .int a => f a
 | _ => d
@[reducible] noncomputable def twoI (X Y : V) (f : Int → Int → Prop) (d : Prop) : Prop := X.asInt (fun a => Y.asInt (f a) d) d
@[reducible] noncomputable def V.asStr (X : V) (f : Str → Prop) (d : Prop) : Prop := match X with
 | .str a => f a
 | _ => d
@[reducible] noncomputable def V.asBool (X : V) (f : Bool → Prop) (d : Prop) : Prop := match X with
 | .bool a => f a
 | _ => d
@[reducible] noncomputable def eqv (X Y : V) (f : Prop → Prop) (d : Prop) : Prop := X.asInt (fun a => Y.asInt (fun b => f (a = b)) d) (X.asStr (fun a => Y.asStr (fun b => f (a = b)) d) (X.asBool (fun a => Y.asBool (fun b => f (a = b)) d) d))
@[reducible] noncomputable def isN (X Y : V) (y n d : Prop) : Prop := match Y with
 | .none => (match X with | .none => y | .int _ => n | .ref _ _ => n | _ => d)
 | _ => d
@[reducible] noncomputable def bin2 (c : Cx) (A : Around) (op : Operator) (X Y : V) (σ : St) (Q : V → St → Prop) : Prop := match op with
 | .Add => twoI X Y (fun a b => Q (.int (a + b)) σ) (Op2 c A σ X Y (binaryOp .Add) Q)
 | .Sub => twoI X Y (fun a b => Q (.int (a - b)) σ) (Op2 c A σ X Y (binaryOp .Sub) Q)
 | op => Op2 c A σ X Y (binaryOp op) Q
@[reducible] noncomputable def inp2 (c : Cx) (A : Around) (op : Operator) (X Y : V) (σ : St) (Q : V → St → Prop) : Prop := match op with
 | .Add => twoI X Y (fun a b => Q (.int (a + b)) σ) (Op2 c A σ X Y (inplaceOp .Add) Q)
 | .Sub => twoI X Y (fun a b => Q (.int (a - b)) σ) (Op2 c A σ X Y (inplaceOp .Sub) Q)
 | op => Op2 c A σ X Y (inplaceOp op) Q
@[reducible] noncomputable def tr1 (c : Cx) (A : Around) (X : V) (σ : St) (Q : Tst → St → Prop) : Prop := match X with
 | .bool b => Q (.prop (b = true)) σ
 | .none => Q (.lit false) σ
 | .int a => Q (.prop (a ≠ 0)) σ
 | X => Tr c A σ X fun b σ₁ => Q (.prop (b = true)) σ₁
@[reducible] noncomputable def cmpB (c : Cx) (A : Around) (op : CmpOp) (X Y : V) (σ : St) (Q : Tst → St → Prop) (d : Prop) : Prop := match op with
 | .Lt => twoI X Y (fun a b => Q (.prop (a < b)) σ) d
 | .LtE => twoI X Y (fun a b => Q (.prop (a ≤ b)) σ) d
 | .Gt => twoI X Y (fun a b => Q (.prop (b < a)) σ) d
 | .GtE => twoI X Y (fun a b => Q (.prop (b ≤ a)) σ) d
 | .Eq => eqv X Y (fun p => Q (.prop p) σ) d
 | .NotEq => eqv X Y (fun p => Q (.prop (¬ p)) σ) d
 | .Is => isN X Y (Q (.lit true) σ) (Q (.lit false) σ) d
 | .IsNot => isN X Y (Q (.lit false) σ) (Q (.lit true) σ) d
 | _ => d
@[reducible] noncomputable def keepQ (c : Cx) (F : V) (P : Prop) : Prop := match F with
 | .bi _ => P
 | .typ _ => P
 | .bm _ _ => P
 | F => KeepV c F ∧ P
@[reducible] noncomputable def apL : List V → List V → List V
 | [], ys => ys
 | x :: xs, ys => x :: apL xs ys
@[reducible] noncomputable def glk (k : Nat) : Option V := lk [some (.bi "len"), some (.typ "range"), some (.typ "enumerate"), some (.bi "max"), some (.bi "min"), some (.bi "sum"), some (.typ "list"), some (.typ "map"), some (.typ "tuple"), some (.typ "set"), some (.bi "iter"), some (.typ "bool"),
 some (.obj 135), some (.obj 242), some (.obj 255), some (.obj 264), some (.int (-1)), some (.int (-2)), some (.obj 283), some (.obj 380), some (.obj 389), some (.obj 396), some (.typ "StopIteration")] k
@[reducible] noncomputable def few : Nat → List TE → Prop → Prop
 | _, [], P => P
 | 0, _ :: _, _ => False
 | n + 1, _ :: es, P => few n es P
mutual
@[reducible] noncomputable def vcE (c : Cx) (A : Around) : TE → St → (V → St → Prop) → Prop
 | .none, σ, Q => Q .none σ
 | .bool b, σ, Q => Q (.bool b) σ
 | .int i, σ, Q => Q (.int i) σ
 | .str x, σ, Q => Q (.str x) σ
 | .neg e, σ, Q => vcE c A e σ fun X σ₁ => Op1 c A σ₁ X (unaryOp .USub) Q
 | .loc k, σ, Q => withV (lk σ.loc k) fun X => Q X σ
 | .glob k, σ, Q => withV (glk k) fun X => Q X σ
 | .bin op a b, σ, Q => vcE c A a σ fun X σ₁ => vcE c A b σ₁ fun Y σ₂ => bin2 c A op X Y σ₂ Q
 | .cmp op a b, σ, Q => vcE c A a σ fun X σ₁ => vcE c A b σ₁ fun Y σ₂ => Op2 c A σ₂ X Y (compareOp op) Q
 | .not a, σ, Q => vcE c A a σ fun X σ₁ => Op1 c A σ₁ X (unaryOp .Not) Q
 | .bop op es, σ, Q => vcV c A op es σ Q
 | .ite t a b, σ, Q => vcB c A t σ fun r σ₁ => sel r (vcE c A a σ₁ Q) (vcE c A b σ₁ Q)
 | .attr e n, σ, Q => vcE c A e σ fun X σ₁ => Op1 c A σ₁ X (fun v => getAttr v n true) Q
 | .sub e i, σ, Q => vcE c A e σ fun X σ₁ => vcE c A i σ₁ fun Y σ₂ => Op2 c A σ₂ X Y itemOf Q
 | .slice e lo hi, σ, Q => vcE c A e σ fun X σ₁ => vcO c A lo σ₁ fun L σ₂ => vcO c A hi σ₂ fun U σ₃ => ∀ p, Op3 c A σ₃ X L U (sliceOf p) Q
 | .call f es, σ, Q => vcE c A f σ fun F σ₁ => keepQ c F (vcEs c A es σ₁ fun Xs σ₂ => Ca c A σ₂ F Xs Q)
 | .meth o n es, σ, Q => vcE c A o σ fun X σ₁ => GetM c A σ₁ X n fun F Fs σ₂ => keepQ c F (vcEs c A es σ₂ fun Xs σ₃ => Ca c A σ₃ F (apL Fs Xs) Q)
 | .list es, σ, Q => few 5 es (vcEs c A es σ fun Xs σ₁ => σ₁.newK (.list Xs) Q)
 | .tuple es, σ, Q => few 5 es (vcEs c A es σ fun Xs σ₁ => Q (.tup Xs) σ₁)
 | .dict0, σ, Q => σ.newK (.dict [] 0) Q
 | .named k e, σ, Q => vcE c A e σ fun X σ₁ => σ₁.setK k X (Q X)
 | .never, _, _ => False
 | .sem p, σ, Q => ∀ e, p e = true → Ev c A σ (eval e c.env) Q
@[reducible] noncomputable def vcEs (c : Cx) (A : Around) : List TE → St → (List V → St → Prop) → Prop
 | [], σ, Q => Q [] σ
 | e :: es, σ, Q => vcE c A e σ fun X σ₁ => vcEs c A es σ₁ fun Xs σ₂ => Q (X :: Xs) σ₂
@[reducible] noncomputable def vcO (c : Cx) (A : Around) : Option TE → St → (V → St → Prop) → Prop
 | none, σ, Q => Q .none σ
 | some e, σ, Q => vcE c A e σ Q
@[reducible] noncomputable def vcV (c : Cx) (A : Around) (op : BoolOp) : List TE → St → (V → St → Prop) → Prop
 | [], _, _ => False
 | e :: es, σ, Q => match es with
  | [] => vcE c A e σ Q
  | _ :: _ => vcE c A e σ fun X σ₁ => tr1 c A X σ₁ fun r σ₂ => match op with
   | .And => sel r (vcV c A .And es σ₂ Q) (Q X σ₂)
   | .Or => sel r (Q X σ₂) (vcV c A .Or es σ₂ Q)
@[reducible] noncomputable def vcB (c : Cx) (A : Around) : TE → St → (Tst → St → Prop) → Prop
 | .cmp op a b, σ, Q => vcE c A a σ fun X σ₁ => vcE c A b σ₁ fun Y σ₂ => cmpB c A op X Y σ₂ Q (Op2 c A σ₂ X Y (compareOp op) fun Z σ₃ => tr1 c A Z σ₃ Q)
 | .not a, σ, Q => vcB c A a σ fun r σ₁ => sel r (Q (.lit false) σ₁) (Q (.lit true) σ₁)
 | .bop op es, σ, Q => vcT c A op es σ Q
 | .none, σ, Q => Q (.lit false) σ
 | .bool b, σ, Q => Q (.lit b) σ
 | .loc k, σ, Q => withV (lk σ.loc k) fun X => tr1 c A X σ Q
 | .attr e n, σ, Q => vcE c A e σ fun X σ₁ => Op1 c A σ₁ X (fun v => getAttr v n true) fun Z σ₂ => tr1 c A Z σ₂ Q
 | .call f es, σ, Q => vcE c A f σ fun F σ₁ => keepQ c F (vcEs c A es σ₁ fun Xs σ₂ => Ca c A σ₂ F Xs fun Z σ₃ => tr1 c A Z σ₃ Q)
 | .meth o n es, σ, Q => vcE c A o σ fun X σ₁ => GetM c A σ₁ X n fun F Fs σ₂ => keepQ c F (vcEs c A es σ₂ fun Xs σ₃ => Ca c A σ₃ F (apL Fs Xs) fun Z σ₄ => tr1 c A Z σ₄ Q)
 | _, _, _ => False
@[reducible] noncomputable def vcT (c : Cx) (A : Around) (op : BoolOp) : List TE → St → (Tst → St → Prop) → Prop
 | [], σ, Q => match op with
  | .And => Q (.lit true) σ
  | .Or => Q (.lit false) σ
 | e :: es, σ, Q => vcB c A e σ fun r σ₁ => match op with
  | .And => sel r (vcT c A .And es σ₁ Q) (Q (.lit false) σ₁)
  | .Or => sel r (Q (.lit true) σ₁) (vcT c A .Or es σ₁ Q)
end
theorem sel_d {p P R : Prop} (h1 : p → P) (h2 : ¬ p → R) : br p P R := ⟨h1, h2⟩
theorem sel_t {p P R : Prop} (h : p) (h1 : P) : br p P R := ⟨fun _ => h1, fun n => absurd h n⟩
theorem sel_f {p P R : Prop} (h : ¬ p) (h1 : R) : br p P R := ⟨fun n => absurd n h, fun _ => h1⟩
end
section
theorem dite_t {c : Prop} {C : Prop} {_ : Decidable c} {f : c → Bool} (h : (if h : c then f h else false) = true) (k : ∀ hc : c, f hc = true → C) : C := by
 by_cases hc : c
 ·rw [dif_pos hc] at h; exact k hc h
 ·rw [dif_neg hc] at h; cases h
noncomputable def onCNone (e : Const) (f : Bool) : Bool := if h : e.ctorIdx = 0 then Const.none.elim e h f else false
theorem onCNone_e {P : Const → Prop} {e : Const} {f : Bool} (h : onCNone e f = true) (k : f = true → P .none) : P e :=
 dite_t h fun hc => Const.none.elim (motive := fun e => ∀ hc : e.ctorIdx = 0, Const.none.elim (motive := fun _ => Bool) e hc f = true → P e) e hc (fun _ h => k h) hc
noncomputable def onCBool (e : Const) (f : Bool → Bool) : Bool := if h : e.ctorIdx = 1 then Const.bool.elim e h f else false
theorem onCBool_e {P : Const → Prop} {e : Const} {f : Bool → Bool} (h : onCBool e f = true) (k : ∀ a, f a = true → P (.bool a)) : P e :=
 dite_t h fun hc => Const.bool.elim (motive := fun e => ∀ hc : e.ctorIdx = 1, Const.bool.elim (motive := fun _ => Bool) e hc f = true → P e) e hc (fun a _ h => k a h) hc
noncomputable def onCInt (e : Const) (f : Int → Bool) : Bool := if h : e.ctorIdx = 2 then Const.int.elim e h f else false
theorem onCInt_e {P : Const → Prop} {e : Const} {f : Int → Bool} (h : onCInt e f = true) (k : ∀ a, f a = true → P (.int a)) : P e :=
 dite_t h fun hc => Const.int.elim (motive := fun e => ∀ hc : e.ctorIdx = 2, Const.int.elim (motive := fun _ => Bool) e hc f = true → P e) e hc (fun a _ h => k a h) hc
noncomputable def onCStr (e : Const) (f : Str → Bool) : Bool := if h : e.ctorIdx = 5 then Const.str.elim e h f else false
theorem onCStr_e {P : Const → Prop} {e : Const} {f : Str → Bool} (h : onCStr e f = true) (k : ∀ a, f a = true → P (.str a)) : P e :=
 dite_t h fun hc => Const.str.elim (motive := fun e => ∀ hc : e.ctorIdx = 5, Const.str.elim (motive := fun _ => Bool) e hc f = true → P e) e hc (fun a _ h => k a h) hc
noncomputable def onBoolOp (e : Expr) (f : BoolOp → (List Expr) → Pos → Bool) : Bool := if h : e.ctorIdx = 0 then Expr.BoolOp.elim e h f else false
theorem onBoolOp_e {P : Expr → Prop} {e : Expr} {f : BoolOp → (List Expr) → Pos → Bool} (h : onBoolOp e f = true) (k : ∀ a b c, f a b c = true → P (.BoolOp a b c)) : P e :=
 dite_t h fun hc => Expr.BoolOp.elim (motive_1 := fun e => ∀ hc : e.ctorIdx = 0, Expr.BoolOp.elim (motive_1 := fun _ => Bool) e hc f = true → P e) e hc (fun a b c _ h => k a b c h) hc
noncomputable def onNamedExpr (e : Expr) (f : Expr → Expr → Pos → Bool) : Bool := if h : e.ctorIdx = 1 then Expr.NamedExpr.elim e h f else false
theorem onNamedExpr_e {P : Expr → Prop} {e : Expr} {f : Expr → Expr → Pos → Bool} (h : onNamedExpr e f = true) (k : ∀ a b c, f a b c = true → P (.NamedExpr a b c)) : P e :=
 dite_t h fun hc => Expr.NamedExpr.elim (motive_1 := fun e => ∀ hc : e.ctorIdx = 1, Expr.NamedExpr.elim (motive_1 := fun _ => Bool) e hc f = true → P e) e hc (fun a b c _ h => k a b c h) hc
noncomputable def onBinOp (e : Expr) (f : Expr → Operator → Expr → Pos → Bool) : Bool := if h : e.ctorIdx = 2 then Expr.BinOp.elim e h f else false
theorem onBinOp_e {P : Expr → Prop} {e : Expr} {f : Expr → Operator → Expr → Pos → Bool} (h : onBinOp e f = true) (k : ∀ a b c d, f a b c d = true → P (.BinOp a b c d)) : P e :=
 dite_t h fun hc => Expr.BinOp.elim (motive_1 := fun e => ∀ hc : e.ctorIdx = 2, Expr.BinOp.elim (motive_1 := fun _ => Bool) e hc f = true → P e) e hc (fun a b c d _ h => k a b c d h) hc
noncomputable def onUnaryOp (e : Expr) (f : UnaryOp → Expr → Pos → Bool) : Bool := if h : e.ctorIdx = 3 then Expr.UnaryOp.elim e h f else false
theorem onUnaryOp_e {P : Expr → Prop} {e : Expr} {f : UnaryOp → Expr → Pos → Bool} (h : onUnaryOp e f = true) (k : ∀ a b c, f a b c = true → P (.UnaryOp a b c)) : P e :=
 dite_t h fun hc => Expr.UnaryOp.elim (motive_1 := fun e => ∀ hc : e.ctorIdx = 3, Expr.UnaryOp.elim (motive_1 := fun _ => Bool) e hc f = true → P e) e hc (fun a b c _ h => k a b c h) hc
noncomputable def onIfExp (e : Expr) (f : Expr → Expr → Expr → Pos → Bool) : Bool := if h : e.ctorIdx = 5 then Expr.IfExp.elim e h f else false
theorem onIfExp_e {P : Expr → Prop} {e : Expr} {f : Expr → Expr → Expr → Pos → Bool} (h : onIfExp e f = true) (k : ∀ a b c d, f a b c d = true → P (.IfExp a b c d)) : P e :=
 dite_t h fun hc => Expr.IfExp.elim (motive_1 := fun e => ∀ hc : e.ctorIdx = 5, Expr.IfExp.elim (motive_1 := fun _ => Bool) e hc f = true → P e) e hc (fun a b c d _ h => k a b c d h) hc
noncomputable def onDict (e : Expr) (f : (List (Option Expr)) → (List Expr) → Pos → Bool) : Bool := if h : e.ctorIdx = 6 then Expr.Dict.elim e h f else false
theorem onDict_e {P : Expr → Prop} {e : Expr} {f : (List (Option Expr)) → (List Expr) → Pos → Bool} (h : onDict e f = true) (k : ∀ a b c, f a b c = true → P (.Dict a b c)) : P e :=
 dite_t h fun hc => Expr.Dict.elim (motive_1 := fun e => ∀ hc : e.ctorIdx = 6, Expr.Dict.elim (motive_1 := fun _ => Bool) e hc f = true → P e) e hc (fun a b c _ h => k a b c h) hc
noncomputable def onListComp (e : Expr) (f : Expr → (List Comprehension) → Scope → Pos → Bool) : Bool := if h : e.ctorIdx = 8 then Expr.ListComp.elim e h f else false
theorem onListComp_e {P : Expr → Prop} {e : Expr} {f : Expr → (List Comprehension) → Scope → Pos → Bool} (h : onListComp e f = true) (k : ∀ a b c d, f a b c d = true → P (.ListComp a b c d)) : P e :=
 dite_t h fun hc => Expr.ListComp.elim (motive_1 := fun e => ∀ hc : e.ctorIdx = 8, Expr.ListComp.elim (motive_1 := fun _ => Bool) e hc f = true → P e) e hc (fun a b c d _ h => k a b c d h) hc
noncomputable def onCompare (e : Expr) (f : Expr → (List CmpOp) → (List Expr) → Pos → Bool) : Bool := if h : e.ctorIdx = 15 then Expr.Compare.elim e h f else false
theorem onCompare_e {P : Expr → Prop} {e : Expr} {f : Expr → (List CmpOp) → (List Expr) → Pos → Bool} (h : onCompare e f = true) (k : ∀ a b c d, f a b c d = true → P (.Compare a b c d)) : P e :=
 dite_t h fun hc => Expr.Compare.elim (motive_1 := fun e => ∀ hc : e.ctorIdx = 15, Expr.Compare.elim (motive_1 := fun _ => Bool) e hc f = true → P e) e hc (fun a b c d _ h => k a b c d h) hc
noncomputable def onCall (e : Expr) (f : Expr → (List Expr) → (List Keyword) → Pos → Bool) : Bool := if h : e.ctorIdx = 16 then Expr.Call.elim e h f else false
theorem onCall_e {P : Expr → Prop} {e : Expr} {f : Expr → (List Expr) → (List Keyword) → Pos → Bool} (h : onCall e f = true) (k : ∀ a b c d, f a b c d = true → P (.Call a b c d)) : P e :=
 dite_t h fun hc => Expr.Call.elim (motive_1 := fun e => ∀ hc : e.ctorIdx = 16, Expr.Call.elim (motive_1 := fun _ => Bool) e hc f = true → P e) e hc (fun a b c d _ h => k a b c d h) hc
noncomputable def onConstant (e : Expr) (f : Const → Nat → Pos → Bool) : Bool := if h : e.ctorIdx = 19 then Expr.Constant.elim e h f else false
theorem onConstant_e {P : Expr → Prop} {e : Expr} {f : Const → Nat → Pos → Bool} (h : onConstant e f = true) (k : ∀ a b c, f a b c = true → P (.Constant a b c)) : P e :=
 dite_t h fun hc => Expr.Constant.elim (motive_1 := fun e => ∀ hc : e.ctorIdx = 19, Expr.Constant.elim (motive_1 := fun _ => Bool) e hc f = true → P e) e hc (fun a b c _ h => k a b c h) hc
noncomputable def onAttribute (e : Expr) (f : Expr → Str → Pos → Bool) : Bool := if h : e.ctorIdx = 20 then Expr.Attribute.elim e h f else false
theorem onAttribute_e {P : Expr → Prop} {e : Expr} {f : Expr → Str → Pos → Bool} (h : onAttribute e f = true) (k : ∀ a b c, f a b c = true → P (.Attribute a b c)) : P e :=
 dite_t h fun hc => Expr.Attribute.elim (motive_1 := fun e => ∀ hc : e.ctorIdx = 20, Expr.Attribute.elim (motive_1 := fun _ => Bool) e hc f = true → P e) e hc (fun a b c _ h => k a b c h) hc
noncomputable def onSubscript (e : Expr) (f : Expr → Expr → Pos → Bool) : Bool := if h : e.ctorIdx = 21 then Expr.Subscript.elim e h f else false
theorem onSubscript_e {P : Expr → Prop} {e : Expr} {f : Expr → Expr → Pos → Bool} (h : onSubscript e f = true) (k : ∀ a b c, f a b c = true → P (.Subscript a b c)) : P e :=
 dite_t h fun hc => Expr.Subscript.elim (motive_1 := fun e => ∀ hc : e.ctorIdx = 21, Expr.Subscript.elim (motive_1 := fun _ => Bool) e hc f = true → P e) e hc (fun a b c _ h => k a b c h) hc
noncomputable def onName (e : Expr) (f : Str → Pos → Bool) : Bool := if h : e.ctorIdx = 23 then Expr.Name.elim e h f else false
theorem onName_e {P : Expr → Prop} {e : Expr} {f : Str → Pos → Bool} (h : onName e f = true) (k : ∀ a b, f a b = true → P (.Name a b)) : P e :=
 dite_t h fun hc => Expr.Name.elim (motive_1 := fun e => ∀ hc : e.ctorIdx = 23, Expr.Name.elim (motive_1 := fun _ => Bool) e hc f = true → P e) e hc (fun a b _ h => k a b h) hc
noncomputable def onList (e : Expr) (f : (List Expr) → Pos → Bool) : Bool := if h : e.ctorIdx = 24 then Expr.List.elim e h f else false
theorem onList_e {P : Expr → Prop} {e : Expr} {f : (List Expr) → Pos → Bool} (h : onList e f = true) (k : ∀ a b, f a b = true → P (.List a b)) : P e :=
 dite_t h fun hc => Expr.List.elim (motive_1 := fun e => ∀ hc : e.ctorIdx = 24, Expr.List.elim (motive_1 := fun _ => Bool) e hc f = true → P e) e hc (fun a b _ h => k a b h) hc
noncomputable def onTuple (e : Expr) (f : (List Expr) → Nat → Pos → Bool) : Bool := if h : e.ctorIdx = 25 then Expr.Tuple.elim e h f else false
theorem onTuple_e {P : Expr → Prop} {e : Expr} {f : (List Expr) → Nat → Pos → Bool} (h : onTuple e f = true) (k : ∀ a b c, f a b c = true → P (.Tuple a b c)) : P e :=
 dite_t h fun hc => Expr.Tuple.elim (motive_1 := fun e => ∀ hc : e.ctorIdx = 25, Expr.Tuple.elim (motive_1 := fun _ => Bool) e hc f = true → P e) e hc (fun a b c _ h => k a b c h) hc
noncomputable def onSlice (e : Expr) (f : (Option Expr) → (Option Expr) → (Option Expr) → Pos → Bool) : Bool := if h : e.ctorIdx = 26 then Expr.Slice.elim e h f else false
theorem onSlice_e {P : Expr → Prop} {e : Expr} {f : (Option Expr) → (Option Expr) → (Option Expr) → Pos → Bool} (h : onSlice e f = true) (k : ∀ a b c d, f a b c d = true → P (.Slice a b c d)) : P e :=
 dite_t h fun hc => Expr.Slice.elim (motive_1 := fun e => ∀ hc : e.ctorIdx = 26, Expr.Slice.elim (motive_1 := fun _ => Bool) e hc f = true → P e) e hc (fun a b c d _ h => k a b c d h) hc
noncomputable def onSReturn (e : Stmt) (f : (Option Expr) → Pos → Bool) : Bool := if h : e.ctorIdx = 3 then Stmt.Return.elim e h f else false
theorem onSReturn_e {P : Stmt → Prop} {e : Stmt} {f : (Option Expr) → Pos → Bool} (h : onSReturn e f = true) (k : ∀ a b, f a b = true → P (.Return a b)) : P e :=
 dite_t h fun hc => Stmt.Return.elim (motive_2 := fun e => ∀ hc : e.ctorIdx = 3, Stmt.Return.elim (motive_2 := fun _ => Bool) e hc f = true → P e) e hc (fun a b _ h => k a b h) hc
noncomputable def onSDelete (e : Stmt) (f : (List Expr) → Pos → Bool) : Bool := if h : e.ctorIdx = 4 then Stmt.Delete.elim e h f else false
theorem onSDelete_e {P : Stmt → Prop} {e : Stmt} {f : (List Expr) → Pos → Bool} (h : onSDelete e f = true) (k : ∀ a b, f a b = true → P (.Delete a b)) : P e :=
 dite_t h fun hc => Stmt.Delete.elim (motive_2 := fun e => ∀ hc : e.ctorIdx = 4, Stmt.Delete.elim (motive_2 := fun _ => Bool) e hc f = true → P e) e hc (fun a b _ h => k a b h) hc
noncomputable def onSAssign (e : Stmt) (f : (List Expr) → Expr → Pos → Bool) : Bool := if h : e.ctorIdx = 5 then Stmt.Assign.elim e h f else false
theorem onSAssign_e {P : Stmt → Prop} {e : Stmt} {f : (List Expr) → Expr → Pos → Bool} (h : onSAssign e f = true) (k : ∀ a b c, f a b c = true → P (.Assign a b c)) : P e :=
 dite_t h fun hc => Stmt.Assign.elim (motive_2 := fun e => ∀ hc : e.ctorIdx = 5, Stmt.Assign.elim (motive_2 := fun _ => Bool) e hc f = true → P e) e hc (fun a b c _ h => k a b c h) hc
noncomputable def onSAugAssign (e : Stmt) (f : Expr → Operator → Expr → Pos → Bool) : Bool := if h : e.ctorIdx = 7 then Stmt.AugAssign.elim e h f else false
theorem onSAugAssign_e {P : Stmt → Prop} {e : Stmt} {f : Expr → Operator → Expr → Pos → Bool} (h : onSAugAssign e f = true) (k : ∀ a b c d, f a b c d = true → P (.AugAssign a b c d)) : P e :=
 dite_t h fun hc => Stmt.AugAssign.elim (motive_2 := fun e => ∀ hc : e.ctorIdx = 7, Stmt.AugAssign.elim (motive_2 := fun _ => Bool) e hc f = true → P e) e hc (fun a b c d _ h => k a b c d h) hc
noncomputable def onSFor (e : Stmt) (f : Expr → Expr → (List Stmt) → (List Stmt) → Pos → Bool) : Bool := if h : e.ctorIdx = 9 then Stmt.For.elim e h f else false
theorem onSFor_e {P : Stmt → Prop} {e : Stmt} {f : Expr → Expr → (List Stmt) → (List Stmt) → Pos → Bool} (h : onSFor e f = true) (k : ∀ a b c d e, f a b c d e = true → P (.For a b c d e)) : P e :=
 dite_t h fun hc => Stmt.For.elim (motive_2 := fun e => ∀ hc : e.ctorIdx = 9, Stmt.For.elim (motive_2 := fun _ => Bool) e hc f = true → P e) e hc (fun a b c d e _ h => k a b c d e h) hc
noncomputable def onSWhile (e : Stmt) (f : Expr → (List Stmt) → (List Stmt) → Pos → Bool) : Bool := if h : e.ctorIdx = 11 then Stmt.While.elim e h f else false
theorem onSWhile_e {P : Stmt → Prop} {e : Stmt} {f : Expr → (List Stmt) → (List Stmt) → Pos → Bool} (h : onSWhile e f = true) (k : ∀ a b c d, f a b c d = true → P (.While a b c d)) : P e :=
 dite_t h fun hc => Stmt.While.elim (motive_2 := fun e => ∀ hc : e.ctorIdx = 11, Stmt.While.elim (motive_2 := fun _ => Bool) e hc f = true → P e) e hc (fun a b c d _ h => k a b c d h) hc
noncomputable def onSIf (e : Stmt) (f : Expr → (List Stmt) → (List Stmt) → Pos → Bool) : Bool := if h : e.ctorIdx = 12 then Stmt.If.elim e h f else false
theorem onSIf_e {P : Stmt → Prop} {e : Stmt} {f : Expr → (List Stmt) → (List Stmt) → Pos → Bool} (h : onSIf e f = true) (k : ∀ a b c d, f a b c d = true → P (.If a b c d)) : P e :=
 dite_t h fun hc => Stmt.If.elim (motive_2 := fun e => ∀ hc : e.ctorIdx = 12, Stmt.If.elim (motive_2 := fun _ => Bool) e hc f = true → P e) e hc (fun a b c d _ h => k a b c d h) hc
noncomputable def onSTry (e : Stmt) (f : (List Stmt) → (List ExceptHandler) → (List Stmt) → (List Stmt) → Pos → Bool) : Bool := if h : e.ctorIdx = 17 then Stmt.Try.elim e h f else false
theorem onSTry_e {P : Stmt → Prop} {e : Stmt} {f : (List Stmt) → (List ExceptHandler) → (List Stmt) → (List Stmt) → Pos → Bool} (h : onSTry e f = true) (k : ∀ a b c d e, f a b c d e = true → P (.Try a b c d e)) : P e :=
 dite_t h fun hc => Stmt.Try.elim (motive_2 := fun e => ∀ hc : e.ctorIdx = 17, Stmt.Try.elim (motive_2 := fun _ => Bool) e hc f = true → P e) e hc (fun a b c d e _ h => k a b c d e h) hc
noncomputable def onSExpr (e : Stmt) (f : Expr → Pos → Bool) : Bool := if h : e.ctorIdx = 24 then Stmt.Expr.elim e h f else false
theorem onSExpr_e {P : Stmt → Prop} {e : Stmt} {f : Expr → Pos → Bool} (h : onSExpr e f = true) (k : ∀ a b, f a b = true → P (.Expr a b)) : P e :=
 dite_t h fun hc => Stmt.Expr.elim (motive_2 := fun e => ∀ hc : e.ctorIdx = 24, Stmt.Expr.elim (motive_2 := fun _ => Bool) e hc f = true → P e) e hc (fun a b _ h => k a b h) hc
noncomputable def onSPass (e : Stmt) (f : Pos → Bool) : Bool := if h : e.ctorIdx = 25 then Stmt.Pass.elim e h f else false
theorem onSPass_e {P : Stmt → Prop} {e : Stmt} {f : Pos → Bool} (h : onSPass e f = true) (k : ∀ a, f a = true → P (.Pass a)) : P e :=
 dite_t h fun hc => Stmt.Pass.elim (motive_2 := fun e => ∀ hc : e.ctorIdx = 25, Stmt.Pass.elim (motive_2 := fun _ => Bool) e hc f = true → P e) e hc (fun a _ h => k a h) hc
noncomputable def onSBreak (e : Stmt) (f : Pos → Bool) : Bool := if h : e.ctorIdx = 26 then Stmt.Break.elim e h f else false
theorem onSBreak_e {P : Stmt → Prop} {e : Stmt} {f : Pos → Bool} (h : onSBreak e f = true) (k : ∀ a, f a = true → P (.Break a)) : P e :=
 dite_t h fun hc => Stmt.Break.elim (motive_2 := fun e => ∀ hc : e.ctorIdx = 26, Stmt.Break.elim (motive_2 := fun _ => Bool) e hc f = true → P e) e hc (fun a _ h => k a h) hc
noncomputable def onSContinue (e : Stmt) (f : Pos → Bool) : Bool := if h : e.ctorIdx = 27 then Stmt.Continue.elim e h f else false
theorem onSContinue_e {P : Stmt → Prop} {e : Stmt} {f : Pos → Bool} (h : onSContinue e f = true) (k : ∀ a, f a = true → P (.Continue a)) : P e :=
 dite_t h fun hc => Stmt.Continue.elim (motive_2 := fun e => ∀ hc : e.ctorIdx = 27, Stmt.Continue.elim (motive_2 := fun _ => Bool) e hc f = true → P e) e hc (fun a _ h => k a h) hc
end
section
structure Ck where
 names : List Str
 sc : Scope
noncomputable def Ck.isLoc (k : Ck) (x : Str) : Bool := k.sc.names.lookup x == some .local || k.sc.names.lookup x == some .cell
noncomputable def dbg : Str := s "__debug__"
theorem and_e {a b : Bool} {C : Prop} (h : (a && b) = true) (k : a = true → b = true → C) : C := by
 cases a
 ·cases h
 ·exact k rfl h
theorem nil_e {α : Type} {P : List α → Prop} {l : List α} (h : l.isEmpty = true) (k : P []) : P l := by
 cases l
 ·exact k
 ·cases h
noncomputable def onCons {α : Type} (l : List α) (f : α → List α → Bool) : Bool := match l with
 | [] => false
 | x :: r => f x r
theorem onCons_e {α : Type} {P : List α → Prop} {l : List α} {f : α → List α → Bool} (h : onCons l f = true) (k : ∀ x r, f x r = true → P (x :: r)) : P l := by
 cases l
 ·cases h
 ·exact k _ _ h
noncomputable def onOne {α : Type} (l : List α) (f : α → Bool) : Bool := onCons l fun x r => r.isEmpty && f x
theorem onOne_e {α : Type} {P : List α → Prop} {l : List α} {f : α → Bool} (h : onOne l f = true) (k : ∀ x, f x = true → P [x]) : P l :=
 onCons_e h fun x r h => and_e h fun h1 h2 => nil_e (P := fun r => P (x :: r)) h1 (k x h2)
noncomputable def onSome {α : Type} (o : Option α) (f : α → Bool) : Bool := o.any f
theorem onSome_e {α : Type} {P : Option α → Prop} {o : Option α} {f : α → Bool} (h : onSome o f = true) (k : ∀ x, f x = true → P (some x)) : P o := by
 cases o
 ·cases h
 ·exact k _ h
theorem isNone_e {α : Type} {P : Option α → Prop} {o : Option α} (h : o.isNone = true) (k : P none) : P o := by
 cases o
 ·exact k
 ·cases h
noncomputable def notSuper (v : Expr) : Bool := v.ctorIdx != 16 || onCall v fun _ as _ _ => !as.isEmpty
mutual
noncomputable def chkE (k : Ck) : TE → Expr → Bool
 | .none, e => onConstant e fun v _ _ => onCNone v true
 | .bool b, e => onConstant e fun v _ _ => onCBool v fun b' => b == b'
 | .int i, e => onConstant e fun v _ _ => onCInt v fun j => i == j
 | .str x, e => onConstant e fun v _ _ => onCStr v fun y => x == y
 | .neg a, e => onUnaryOp e fun op x _ => op == .USub && chkE k a x
 | .loc j, e => onName e fun x _ => k.names[j]? == some x && (k.isLoc x && !(x == dbg))
 | .glob j, e => onName e fun x _ => (gtab[j]?).any (fun y => y.1 == x) && (k.sc.names.lookup x == some .globalImplicit && !(x == dbg))
 | .bin op a b, e => onBinOp e fun l op' r _ => op == op' && (chkE k a l && chkE k b r)
 | .cmp op a b, e => onCompare e fun l ops rs _ => onOne ops fun op' => onOne rs fun r => op == op' && (chkE k a l && (chkE k b r && !behindInMarks op' r))
 | .not a, e => onUnaryOp e fun op x _ => op == .Not && chkE k a x
 | .bop op es, e => onBoolOp e fun op' vs _ => op == op' && chkEs k es vs
 | .ite t a b, e => onIfExp e fun t' a' b' _ => chkE k t t' && (chkE k a a' && chkE k b b')
 | .attr a n, e => onAttribute e fun v n' _ => n == n' && (notSuper v && chkE k a v)
 | .sub a i, e => onSubscript e fun v sl _ => sl.ctorIdx != 26 && (chkE k a v && chkE k i sl)
 | .slice a lo hi, e => onSubscript e fun v sl _ => onSlice sl fun l u s _ => s.isNone && (chkE k a v && (chkO k lo l && chkO k hi u))
 | .call f es, e => onCall e fun g as kw _ => kw.isEmpty && (g.ctorIdx != 20 && (chkE k f g && chkEs k es as))
 | .meth o n es, e => onCall e fun g as kw p => onAttribute g fun v n' ap => kw.isEmpty && (n == n' && (notSuper v && (chkE k o v && (chkEs k es as && (ap.endLine == p.line && decide (as.length < 20))))))
 | .list es, e => onList e fun as _ => chkEs k es as
 | .tuple es, e => onTuple e fun as _ _ => chkEs k es as
 | .dict0, e => onDict e fun ks vs _ => ks.isEmpty && vs.isEmpty
 | .named j a, e => onNamedExpr e fun tg v _ => onName tg fun x _ => k.names[j]? == some x && (k.sc.names.lookup x == some .local && chkE k a v)
 | .never, _ => true
 | .sem p, e => p e
noncomputable def chkEs (k : Ck) : List TE → List Expr → Bool
 | [], es => es.isEmpty
 | t :: ts, es => onCons es fun e r => e.ctorIdx != 22 && (chkE k t e && chkEs k ts r)
noncomputable def chkO (k : Ck) : Option TE → Option Expr → Bool
 | none, e => e.isNone
 | some t, e => onSome e fun x => chkE k t x
end
end
section
structure Fit (k : Ck) (c : Cx) : Prop where
 names : c.names = k.names
 nodup : k.names.Nodup
 sc : c.env.scope = k.sc
 kind : k.sc.kind = .function
 glob : c.env.globals = 3
 blt : c.env.builtins = 0
 top : (K c.w.params).In c.h1
theorem Fit.kd {k : Ck} {c : Cx} (F : Fit k c) : c.env.scope.kind = .function := by rw [F.sc]; exact F.kind
theorem Fit.kindOf {k : Ck} {c : Cx} (F : Fit k c) (x : Str) : c.env.kindOf x = k.sc.names.lookup x := by unfold Env.kindOf; rw [F.sc]
theorem Den.K {c : Cx} {σ : St} {ρ : Nat → Int → Addr} {st : Shared} (D : Den c σ ρ st) (h : (K c.w.params).In c.h1) : (K c.w.params).In st.heap := h.keeps D.top
theorem LocsR.cons {W : Wd} {env : Env} {m : Str → Option Value} {n : Str} {ns : List Str} {vs : List (Option V)} {C : Prop} (h : LocsR W env m (n :: ns) vs) (k : ∀ v r, vs = v :: r → LocR W env m n v → LocsR W env m ns r → C) : C := by
 obtain ⟨v, r, e, a, b⟩ := h
 exact k v r e a b
theorem LocsR.get {W : Wd} {env : Env} {m : Str → Option Value} {x : Str} {ov : Option V} {ns : List Str} {vs : List (Option V)} {j : Nat} (hj : ns[j]? = some x) (hv : vs[j]? = some ov) (h : LocsR W env m ns vs) : LocR W env m x ov := by
 induction ns generalizing vs j with
 | nil => cases hj
 | cons n ns ih =>
  refine h.cons fun v r e a b => ?_
  subst e
  cases j with
  | zero => cases hj; cases hv; exact a
  | succ j => exact ih hj hv b
theorem lk_get {l : List (Option V)} {k : Nat} {X : V} (h : lk l k = some X) : l[k]? = some (some X) := by
 induction l generalizing k with
 | nil => cases h
 | cons x l ih =>
  cases k with
  | zero => exact congrArg some h
  | succ k => exact ih h
theorem stl_eq {l : List (Option V)} {k : Nat} {X : V} : stl l k X = l.set k (some X) := by
 induction l generalizing k with
 | nil => rfl
 | cons x l ih =>
  cases k with
  | zero => rfl
  | succ k => exact congrArg _ ih
theorem withV_e {o : Option V} {f : V → Prop} {C : Prop} (h : withV o f) (k : ∀ X, o = some X → f X → C) : C := by
 cases o with
 | none => exact h.elim
 | some X => exact k X rfl h
section
variable {c : Cx} {A : Around} {σ : St} {ρ : Nat → Int → Addr} {st : Shared} {W W' : Wd} {E : Value → Shared → Prop}
theorem Post.up {Q : V → St → Prop} {v : Value} (x : Ext W W') (h : Post c W' Q v st) : Post c W Q v st := by cases h with | mk X σ' ρ' a b d e => exact ⟨X, σ', ρ', a, b, x.trans d, e⟩
theorem PostB.up {Q : Bool → St → Prop} {v : Bool} (x : Ext W W') (h : PostB c W' Q v st) : PostB c W Q v st := by cases h with | mk σ' ρ' a d e => exact ⟨σ', ρ', a, x.trans d, e⟩
theorem PostVs.up {Q : List V → St → Prop} {v : List Value} (x : Ext W W') (h : PostVs c W' Q v st) : PostVs c W Q v st := by cases h with | mk X σ' ρ' a b d e => exact ⟨X, σ', ρ', a, b, x.trans d, e⟩
theorem noE {t : Sem α} {Q Q' : α → Shared → Prop} (h : wpAny (MM c) A t Q noExc st) (i : ∀ a s', Q a s' → Q' a s') : wpAny (MM c) A t Q' noExc st := wpAny_mono h i fun _ _ x => x
theorem noted {t : Sem α} {Q Q' : α → Shared → Prop} {E : Value → Shared → Prop} {st : Shared} (h : wpAny (MM c) A t Q noExc st) (i : ∀ a s', Q a s' → Q' a s') : wpAny (MM c) A t Q' E st := wpAny_mono h i fun _ _ x => x.elim
theorem wpGen {α : Type} {t : Sem α} {Q : α → Shared → Prop} (h : ∀ R : α → Shared → Prop, (∀ v s, Q v s → R v s) → wpAny (MM c) A t R E st) : wpAny (MM c) A t Q E st := h Q fun _ _ h => h
theorem wpP {t : Sem Value} {Q : V → St → Prop} {R : Value → Shared → Prop} (h : wpAny (MM c) A t (Post c W Q) noExc st) (i : ∀ v s X σ' ρ', Den c σ' ρ' s → VR (wd c σ' ρ' s) X v → Ext W (wd c σ' ρ' s) → Q X σ' → R v s) : wpAny (MM c) A t R E st :=
 noted h fun v s p => by cases p with | mk X σ' ρ' a b d e => exact i v s X σ' ρ' a b d e
theorem wpB {t : Sem Bool} {Q : Bool → St → Prop} {R : Bool → Shared → Prop} (h : wpAny (MM c) A t (PostB c W Q) noExc st) (i : ∀ b s σ' ρ', Den c σ' ρ' s → Ext W (wd c σ' ρ' s) → Q b σ' → R b s) : wpAny (MM c) A t R E st :=
 noted h fun v s p => by cases p with | mk σ' ρ' a d e => exact i v s σ' ρ' a d e
theorem wpVs {t : Sem (List Value)} {Q : List V → St → Prop} {R : List Value → Shared → Prop} (h : wpAny (MM c) A t (PostVs c W Q) noExc st) (i : ∀ v s X σ' ρ', Den c σ' ρ' s → VRs (wd c σ' ρ' s) X v → Ext W (wd c σ' ρ' s) → Q X σ' → R v s) : wpAny (MM c) A t R E st :=
 noted h fun v s p => by cases p with | mk X σ' ρ' a b d e => exact i v s X σ' ρ' a b d e
theorem wpM {t : Sem (Value × List Value)} {Q : V → List V → St → Prop} {R : (Value × List Value) → Shared → Prop} (h : wpAny (MM c) A t (PostM c W Q) noExc st) (i : ∀ v s X Xs σ' ρ', Den c σ' ρ' s → VR (wd c σ' ρ' s) X v.1 → VRs (wd c σ' ρ' s) Xs v.2 → Ext W (wd c σ' ρ' s) → Q X Xs σ' → R v s) : wpAny (MM c) A t R E st :=
 noted h fun v s p => by cases p with | mk X Xs σ' ρ' a b b' d e => exact i v s X Xs σ' ρ' a b b' d e
theorem Post.now {Q : V → St → Prop} {X : V} {v : Value} (D : Den c σ ρ st) (r : VR (wd c σ ρ st) X v) (q : Q X σ) : Post c (wd c σ ρ st) Q v st := ⟨X, σ, ρ, D, r, .refl _, q⟩
theorem PostB.now {Q : Bool → St → Prop} {b : Bool} (D : Den c σ ρ st) (q : Q b σ) : PostB c (wd c σ ρ st) Q b st := ⟨σ, ρ, D, .refl _, q⟩
theorem Ev.mono {t : Sem Value} {Q Q' : V → St → Prop} (h : Ev c A σ t Q) (i : ∀ X σ', Q X σ' → Q' X σ') : Ev c A σ t Q' := fun ρ st D => wpP (h ρ st D) fun _ _ X σ' ρ' a b d e => ⟨X, σ', ρ', a, b, d, i _ _ e⟩
theorem Ev.then {α : Type} {t : Sem Value} {f : Value → Sem α} {P : V → St → Prop} {R : α → Shared → Prop} (h : Ev c A σ t P) (D : Den c σ ρ st)
  (i : ∀ X σ' ρ' st' v, Den c σ' ρ' st' → VR (wd c σ' ρ' st') X v → Ext (wd c σ ρ st) (wd c σ' ρ' st') → P X σ' → wpAny (MM c) A (f v) R noExc st') : wpAny (MM c) A t (fun v s₁ => wpAny (MM c) A (f v) R noExc s₁) noExc st :=
 wpP (h ρ st D) fun v st' X σ' ρ' a b d e => i X σ' ρ' st' v a b d e
end
theorem attributeBase_plain {o : Expr} {attr : Str} {env : Env} {whole : Sem Value} (h : notSuper o = true) : attributeBase o attr env whole = whole := by
 by_cases hc : o.ctorIdx = 16
 ·have h : (onCall o fun _ as _ _ => !as.isEmpty) = true := by
   unfold notSuper at h
   rw [hc] at h
   exact h
  refine onCall_e (P := fun o => attributeBase o attr env whole = whole) h fun g as kw p h => ?_
  cases as with
  | nil => cases h
  | cons a as => cases g <;> rfl
 ·cases o <;> first | rfl | exact absurd rfl hc
theorem notAttr_call {g : Expr} {as : List Expr} {pos : Pos} {env : Env} (h : (g.ctorIdx != 20) = true) : eval (.Call g as [] pos) env = (do callWith pos (← eval g env) [] (backTo pos (starEach as env)) (backToKw pos (keywordEach [] env))) := by
 cases g <;> first | rfl | cases h
theorem starEach_cons {e : Expr} {r : List Expr} {env : Env} (h : (e.ctorIdx != 22) = true) : starEach (e :: r) env = (false, eval e env) :: starEach r env := by
 cases e <;> first | rfl | cases h
theorem subscripted_item {sl : Expr} {o i : Value} {b : Bool} (h : (sl.ctorIdx != 26) = true) : subscripted sl b o i = (match b with | true => runValue (.builtin "lifetime.subscript" ⟨[o, i], []⟩) | false => operate [o, i] (getItem o i)) := by
 cases sl <;> cases b <;> first | rfl | cases h
noncomputable def gEnv : Env := { scope := { kind := .function, names := [], isGenerator := false, isCoroutine := false, more := [] }, locals := 0, globals := 3, cells := [] }
noncomputable def gvals : List Value := [.builtin "len", .type "range", .type "enumerate", .builtin "max", .builtin "min", .builtin "sum", .type "list", .type "map", .type "tuple", .type "set", .builtin "iter", .type "bool",
 .ref 135, .ref 242, .ref 255, .ref 264, .int (-1) 617, .int (-2) 620, .ref 283, .ref 380, .ref 389, .ref 396, .type "StopIteration"]
theorem gpeek (w : World) : (gtab.map fun y => peek (K w.params) ⟨pw, w.params⟩ (loadGlobal gEnv y.1)) = gvals.map some := by kernel_rfl
theorem VRs.nil (W : Wd) : VRs W [] [] := rfl
theorem VRs.cons {W : Wd} {X : V} {v : Value} {Xs : List V} {vs : List Value} (a : VR W X v) (b : VRs W Xs vs) : VRs W (X :: Xs) (v :: vs) := ⟨v, vs, rfl, a, b⟩
theorem VR.ofInt {W : Wd} {i : Int} {t : Tok} : VR W (.int i) (.int i t) := ⟨t, rfl⟩
theorem gvr (W : Wd) : VRs W (gtab.map (·.2)) gvals := by
 simp only [gtab, gvals, List.map]
 repeat first | exact VRs.nil _ | refine VRs.cons (by first | exact VR.ofInt | rfl) ?_
theorem VRs.e_cons {W : Wd} {X : V} {Xs : List V} {vs : List Value} {C : Prop} (h : VRs W (X :: Xs) vs) (k : ∀ v r, vs = v :: r → VR W X v → VRs W Xs r → C) : C := by
 obtain ⟨v, r, e, a, b⟩ := h
 exact k v r e a b
theorem VRs.get {W : Wd} {X : V} {Xs : List V} {vs : List Value} {j : Nat} (hj : Xs[j]? = some X) (h : VRs W Xs vs) : ∃ v, vs[j]? = some v ∧ VR W X v := by
 induction Xs generalizing vs j with
 | nil => cases hj
 | cons x xs ih =>
  refine h.e_cons fun v r e a b => ?_
  subst e
  cases j with
  | zero => cases hj; exact ⟨v, rfl, a⟩
  | succ j => exact ih (j := j) hj b
theorem glk_get {j : Nat} {X : V} (h : glk j = some X) : ∃ x, gtab[j]? = some (x, X) := by
 have g : (gtab.map fun y => some y.2)[j]? = some (some X) := lk_get h
 rw [List.getElem?_map] at g
 cases e : gtab[j]? with
 | none => rw [e] at g; cases g
 | some y => rw [e] at g; cases g; exact ⟨y.1, rfl⟩
theorem loadGlobal_at {env : Env} {x : Str} (h3 : env.globals = 3) (h0 : env.builtins = 0) : loadGlobal env x = loadGlobal gEnv x := by
 unfold loadGlobal
 rw [h3, h0]
 rfl
theorem gload {c : Cx} {h : Heap} {W : Wd} {j : Nat} {x : Str} {X : V} (e : gtab[j]? = some (x, X)) (k : (K c.w.params).In h) {env : Env} (h3 : env.globals = 3) (h0 : env.builtins = 0) :
  ∃ v, VR W X v ∧ Looks (MM c) h (loadGlobal env x) v := by
 obtain ⟨v, hv, r⟩ := VRs.get (j := j) (X := X) (by simp [e]) (gvr W)
 refine ⟨v, r, ?_⟩
 rw [loadGlobal_at h3 h0]
 refine Looks.of_peek k ?_
 have g := gpeek c.w
 have g' := congrArg (fun l => l[j]?) g
 simp only [List.getElem?_map, e, hv, Option.map_some] at g'
 exact Option.some.inj g'
end
section
open PySem.SeqAt
section
variable {c : Cx} {A : Around} {σ : St} {Q : V → St → Prop} {QT : Tst → St → Prop}
theorem den_toks {ρ : Nat → Int → Addr} {st : Shared} (D : Den c σ ρ st) (n : Nat) : Den c σ ρ { st with toks := n } ∧ Ext (wd c σ ρ st) (wd c σ ρ { st with toks := n }) := D.keeps (fun _ _ h => h) rfl rfl
theorem post_tok {ρ : Nat → Int → Addr} {st : Shared} {X : V} {v : Value} (D : Den c σ ρ st) (r : ∀ W, VR W X v) (q : Q X σ) (n : Nat) : Post c (wd c σ ρ st) Q v { st with toks := n } :=
 ⟨X, σ, ρ, (den_toks D n).1, r _, (den_toks D n).2, q⟩
theorem postB_tok {Q : Bool → St → Prop} {ρ : Nat → Int → Addr} {st : Shared} {b : Bool} (D : Den c σ ρ st) (q : Q b σ) (n : Nat) : PostB c (wd c σ ρ st) Q b { st with toks := n } :=
 ⟨σ, ρ, (den_toks D n).1, (den_toks D n).2, q⟩
theorem op_ii {a b : Int} {f : Value → Value → Sem Value} (h : ∀ ρ st t t', Den c σ ρ st → wpAny (MM c) A (f (.int a t) (.int b t')) (Post c (wd c σ ρ st) Q) noExc st) : Op2 c A σ (.int a) (.int b) f Q := fun ρ st v u D e e' => by
 obtain ⟨t, e⟩ := e
 obtain ⟨t', e'⟩ := e'
 subst e e'
 exact h ρ st t t' D
theorem add_ii {a b : Int} (q : Q (.int (a + b)) σ) : Op2 c A σ (.int a) (.int b) (binaryOp .Add) Q := op_ii fun ρ st t t' D => wpAny_add_int (post_tok D (fun _ => VR.ofInt) q _)
theorem iadd_ii {a b : Int} (q : Q (.int (a + b)) σ) : Op2 c A σ (.int a) (.int b) (inplaceOp .Add) Q := op_ii fun ρ st t t' D => wpAny_iadd_int (post_tok D (fun _ => VR.ofInt) q _)
theorem sub_ii {a b : Int} (q : Q (.int (a - b)) σ) : Op2 c A σ (.int a) (.int b) (binaryOp .Sub) Q := op_ii fun ρ st t t' D => PyProof.Rows.sub_int' (post_tok D (fun _ => VR.ofInt) q _)
theorem isub_ii {a b : Int} (q : Q (.int (a - b)) σ) : Op2 c A σ (.int a) (.int b) (inplaceOp .Sub) Q := op_ii fun ρ st t t' D => PyProof.Rows.isub_int (post_tok D (fun _ => VR.ofInt) q _)
theorem mod_ii {a b : Int} (hb : b ≠ 0) (q : Q (.int (a.fmod b)) σ) : Op2 c A σ (.int a) (.int b) (binaryOp .Mod) Q := op_ii fun ρ st t t' D => PyProof.Rows.mod_int' hb (post_tok D (fun _ => VR.ofInt) q _)
theorem div_ii {a b : Int} (hb : b ≠ 0) (hs : Builtin.divisionGoesByPylong a b = false) (q : Q (.int (a.fdiv b)) σ) : Op2 c A σ (.int a) (.int b) (binaryOp .FloorDiv) Q :=
 op_ii fun ρ st t t' D => PyProof.Rows.floordiv_int hb (post_tok D (fun _ => VR.ofInt) q _) (.inl hs)
theorem lt_ii {a b : Int} (q : Q (.bool (decide (a < b))) σ) : Op2 c A σ (.int a) (.int b) (compareOp .Lt) Q := op_ii fun ρ st t t' D => wpAny_lt_int (Post.now (X := .bool _) D rfl q)
theorem le_ii {a b : Int} (q : Q (.bool (decide (a ≤ b))) σ) : Op2 c A σ (.int a) (.int b) (compareOp .LtE) Q := op_ii fun ρ st t t' D => PyProof.Rows.le_int (Post.now (X := .bool _) D rfl q)
theorem gt_ii {a b : Int} (q : Q (.bool (decide (b < a))) σ) : Op2 c A σ (.int a) (.int b) (compareOp .Gt) Q := op_ii fun ρ st t t' D => PyProof.Rows.gt_int (Post.now (X := .bool _) D rfl q)
theorem ge_ii {a b : Int} (q : Q (.bool (decide (b ≤ a))) σ) : Op2 c A σ (.int a) (.int b) (compareOp .GtE) Q := op_ii fun ρ st t t' D => PyProof.Rows.ge_int (Post.now (X := .bool _) D rfl q)
theorem eq_ii {a b : Int} (q : Q (.bool (a == b)) σ) : Op2 c A σ (.int a) (.int b) (compareOp .Eq) Q := op_ii fun ρ st t t' D => PyProof.Rows.eq_int (Post.now (X := .bool _) D rfl q)
theorem ne_ii {a b : Int} (q : Q (.bool (a != b)) σ) : Op2 c A σ (.int a) (.int b) (compareOp .NotEq) Q := op_ii fun ρ st t t' D => PyProof.Rows.ne_int (Post.now (X := .bool _) D rfl q)
theorem neg_i {a : Int} (q : Q (.int (-a)) σ) : Op1 c A σ (.int a) (unaryOp .USub) Q := fun ρ st v D e => by
 obtain ⟨t, e⟩ := e
 subst e; exact PyProof.Rows.neg_int (post_tok D (fun _ => VR.ofInt) q _)
theorem op_ss {a b : Str} {f : Value → Value → Sem Value} (h : ∀ ρ st t t', Den c σ ρ st → wpAny (MM c) A (f (.str a t) (.str b t')) (Post c (wd c σ ρ st) Q) noExc st) : Op2 c A σ (.str a) (.str b) f Q := fun ρ st v u D e e' => by
 obtain ⟨t, e⟩ := e
 obtain ⟨t', e'⟩ := e'
 subst e e'
 exact h ρ st t t' D
theorem eq_ss {a b : Str} (q : Q (.bool (a == b)) σ) : Op2 c A σ (.str a) (.str b) (compareOp .Eq) Q := op_ss fun ρ st t t' D => RcAt.str_str a t b t' pw c.w _ _ (Post.now (X := .bool _) D rfl q)
theorem ne_ss {a b : Str} (q : Q (.bool (!(a == b))) σ) : Op2 c A σ (.str a) (.str b) (compareOp .NotEq) Q := op_ss fun ρ st t t' D => RcNeAt.str_str a t b t' pw c.w _ _ (Post.now (X := .bool _) D rfl q)
theorem op_bb {a b : Bool} {f : Value → Value → Sem Value} (h : ∀ ρ st, Den c σ ρ st → wpAny (MM c) A (f (.bool a) (.bool b)) (Post c (wd c σ ρ st) Q) noExc st) : Op2 c A σ (.bool a) (.bool b) f Q := fun ρ st v u D e e' => by
 have e : v = .bool a := e
 have e' : u = .bool b := e'
 subst e e'; exact h ρ st D
theorem eq_bb {a b : Bool} (q : Q (.bool (a == b)) σ) : Op2 c A σ (.bool a) (.bool b) (compareOp .Eq) Q := op_bb fun ρ st D => RcAt.bool_bool a b pw c.w _ _ (Post.now (X := .bool _) D rfl q)
theorem ne_bb {a b : Bool} (q : Q (.bool (!(a == b))) σ) : Op2 c A σ (.bool a) (.bool b) (compareOp .NotEq) Q := op_bb fun ρ st D => RcNeAt.bool_bool a b pw c.w _ _ (Post.now (X := .bool _) D rfl q)
theorem tr_bool {b : Bool} {Q : Bool → St → Prop} (q : Q b σ) : Tr c A σ (.bool b) Q := fun ρ st v D e => by
 have e : v = .bool b := e
 subst e; exact wpAny_truthy_bool (PostB.now D q)
theorem tr_none {Q : Bool → St → Prop} (q : Q false σ) : Tr c A σ .none Q := fun ρ st v D e => by
 have e : v = .none := e
 subst e; exact wpAny_of_eq (rfl : truthy .none = pure false) (PostB.now D q)
theorem tr_int {a : Int} {Q : Bool → St → Prop} (q : Q (a != 0) σ) : Tr c A σ (.int a) Q := fun ρ st v D e => by
 obtain ⟨t, e⟩ := e
 subst e; exact PyProof.Rows.truthy_int (PostB.now D q)
noncomputable def Tst.ok (r : Tst) (b : Bool) : Prop := match r with
 | .lit b' => b' = b
 | .prop p => (b = true ↔ p)
inductive TQ (Q : Tst → St → Prop) (b : Bool) (σ : St) : Prop
 | mk (r : Tst) (h : r.ok b) (q : Q r σ)
theorem TQ.lit {b : Bool} (q : QT (.lit b) σ) : TQ QT b σ := ⟨.lit b, rfl, q⟩
theorem TQ.prop {b : Bool} {p : Prop} (h : b = true ↔ p) (q : QT (.prop p) σ) : TQ QT b σ := ⟨.prop p, h, q⟩
theorem sel_yes {r : Tst} {P R : Prop} (h : r.ok true) (s : sel r P R) : P := by
 cases r with
 | lit b => cases h; exact s
 | prop p => exact s.1 (h.1 rfl)
theorem sel_no {r : Tst} {P R : Prop} (h : r.ok false) (s : sel r P R) : R := by
 cases r with
 | lit b => cases h; exact s
 | prop p => exact s.2 fun q => nomatch h.2 q
theorem Tr.mono {X : V} {P P' : Bool → St → Prop} (h : Tr c A σ X P) (i : ∀ b σ', P b σ' → P' b σ') : Tr c A σ X P' := fun ρ st v D r => wpB (h ρ st v D r) fun b s σ' ρ' D' x q => ⟨σ', ρ', D', x, i _ _ q⟩
theorem Op2.mono {X Y : V} {f : Value → Value → Sem Value} {P P' : V → St → Prop} (h : Op2 c A σ X Y f P) (i : ∀ b σ', P b σ' → P' b σ') : Op2 c A σ X Y f P' := fun ρ st v u D r r' => wpP (h ρ st v u D r r') fun b s X' σ' ρ' D' r x q => ⟨X', σ', ρ', D', r, x, i _ _ q⟩
theorem Op1.mono {X : V} {f : Value → Sem Value} {P P' : V → St → Prop} (h : Op1 c A σ X f P) (i : ∀ b σ', P b σ' → P' b σ') : Op1 c A σ X f P' := fun ρ st v D r => wpP (h ρ st v D r) fun b s X' σ' ρ' D' r x q => ⟨X', σ', ρ', D', r, x, i _ _ q⟩
theorem Ca.mono {F : V} {Xs : List V} {P P' : V → St → Prop} (h : Ca c A σ F Xs P) (i : ∀ b σ', P b σ' → P' b σ') : Ca c A σ F Xs P' := fun ρ st f vs D r r' => wpP (h ρ st f vs D r r') fun b s X' σ' ρ' D' r x q => ⟨X', σ', ρ', D', r, x, i _ _ q⟩
theorem tr1_ok {X : V} (h : tr1 c A X σ QT) : Tr c A σ X (TQ QT) := by
 have any : (Tr c A σ X fun b σ₁ => QT (.prop (b = true)) σ₁) → Tr c A σ X (TQ QT) := fun h => h.mono fun b σ' q => .prop Iff.rfl q
 cases X
 case bool b => exact tr_bool (.prop Iff.rfl h)
 case none => exact tr_none (.lit h)
 case int a => exact tr_int (.prop bne_iff_ne h)
 all_goals exact any h
theorem V.asInt_e {X : V} {f : Int → Prop} {d C : Prop} (h : X.asInt f d) (k : ∀ a, X = .int a → f a → C) (k' : d → C) : C := by
 cases X
 case int a => exact k a rfl h
 all_goals exact k' h
theorem twoI_e {X Y : V} {f : Int → Int → Prop} {d C : Prop} (h : twoI X Y f d) (k : ∀ a b, X = .int a → Y = .int b → f a b → C) (k' : d → C) : C :=
 V.asInt_e h (fun a ea h => V.asInt_e h (fun b eb h => k a b ea eb h) k') k'
theorem V.asStr_e {X : V} {f : Str → Prop} {d C : Prop} (h : X.asStr f d) (k : ∀ a, X = .str a → f a → C) (k' : d → C) : C := by
 cases X
 case str a => exact k a rfl h
 all_goals exact k' h
theorem V.asBool_e {X : V} {f : Bool → Prop} {d C : Prop} (h : X.asBool f d) (k : ∀ a, X = .bool a → f a → C) (k' : d → C) : C := by
 cases X
 case bool a => exact k a rfl h
 all_goals exact k' h
theorem eqv_e {X Y : V} {f : Prop → Prop} {d C : Prop} (h : eqv X Y f d) (k1 : ∀ a b, X = .int a → Y = .int b → f (a = b) → C) (k2 : ∀ a b, X = .str a → Y = .str b → f (a = b) → C) (k3 : ∀ a b, X = .bool a → Y = .bool b → f (a = b) → C) (k' : d → C) : C :=
 V.asInt_e h (fun a ea h => V.asInt_e h (fun b eb h => k1 a b ea eb h) k') fun h => V.asStr_e h (fun a ea h => V.asStr_e h (fun b eb h => k2 a b ea eb h) k') fun h => V.asBool_e h (fun a ea h => V.asBool_e h (fun b eb h => k3 a b ea eb h) k') k'
theorem bin2_ok {op : Operator} {X Y : V} (h : bin2 c A op X Y σ Q) : Op2 c A σ X Y (binaryOp op) Q := by
 cases op
 case Add => exact twoI_e h (fun a b ea eb q => by subst ea eb; exact add_ii q) id
 case Sub => exact twoI_e h (fun a b ea eb q => by subst ea eb; exact sub_ii q) id
 all_goals exact h
theorem inp2_ok {op : Operator} {X Y : V} (h : inp2 c A op X Y σ Q) : Op2 c A σ X Y (inplaceOp op) Q := by
 cases op
 case Add => exact twoI_e h (fun a b ea eb q => by subst ea eb; exact iadd_ii q) id
 case Sub => exact twoI_e h (fun a b ea eb q => by subst ea eb; exact isub_ii q) id
 all_goals exact h
theorem isNone_val {W : Wd} {X : V} {v : Value} {C : Prop} (r : VR W X v) (y n d : Prop) (h : isN X .none y n d) (k1 : v = .none → y → C) (k2 : v ≠ .none → (∀ m, v ≠ .builtin m) → n → C) (k3 : d → C) : C := by
 cases X
 case none => exact k1 r h
 case int a => obtain ⟨t, rfl⟩ := r; exact k2 (fun e => nomatch e) (fun _ e => nomatch e) h
 case ref i x => obtain ⟨rfl, _⟩ := r; exact k2 (fun e => nomatch e) (fun _ e => nomatch e) h
 all_goals exact k3 h
theorem isN_e {X Y : V} {y n d C : Prop} (h : isN X Y y n d) (k : Y = .none → isN X .none y n d → C) (k' : d → C) : C := by
 cases Y
 case none => exact k rfl h
 all_goals exact k' h
theorem cmpB_ok {op : CmpOp} {X Y : V} (h : cmpB c A op X Y σ QT (Op2 c A σ X Y (compareOp op) fun Z σ₁ => tr1 c A Z σ₁ QT)) : Op2 c A σ X Y (compareOp op) fun Z σ₁ => Tr c A σ₁ Z (TQ QT) := by
 have d : (Op2 c A σ X Y (compareOp op) fun Z σ₁ => tr1 c A Z σ₁ QT) → Op2 c A σ X Y (compareOp op) fun Z σ₁ => Tr c A σ₁ Z (TQ QT) := fun h => h.mono fun _ _ => tr1_ok
 cases op
 case Lt => exact twoI_e h (fun a b ea eb q => by subst ea eb; exact lt_ii (tr_bool (.prop decide_eq_true_iff q))) d
 case LtE => exact twoI_e h (fun a b ea eb q => by subst ea eb; exact le_ii (tr_bool (.prop decide_eq_true_iff q))) d
 case Gt => exact twoI_e h (fun a b ea eb q => by subst ea eb; exact gt_ii (tr_bool (.prop decide_eq_true_iff q))) d
 case GtE => exact twoI_e h (fun a b ea eb q => by subst ea eb; exact ge_ii (tr_bool (.prop decide_eq_true_iff q))) d
 case Eq => exact eqv_e (X := X) (Y := Y) (f := fun p => QT (.prop p) σ) h (fun a b ea eb q => by subst ea eb; exact eq_ii (tr_bool (.prop beq_iff_eq q))) (fun a b ea eb q => by subst ea eb; exact eq_ss (tr_bool (.prop beq_iff_eq q))) (fun a b ea eb q => by subst ea eb; exact eq_bb (tr_bool (.prop beq_iff_eq q))) d
 case NotEq => exact eqv_e (X := X) (Y := Y) (f := fun p => QT (.prop (¬ p)) σ) h (fun a b ea eb q => by subst ea eb; exact ne_ii (tr_bool (.prop bne_iff_ne q))) (fun a b ea eb q => by subst ea eb; exact ne_ss (tr_bool (.prop bne_iff_ne q))) (fun a b ea eb q => by subst ea eb; exact ne_bb (tr_bool (.prop bne_iff_ne q))) d
 case Is => exact isN_e (X := X) (Y := Y) (y := QT (.lit true) σ) (n := QT (.lit false) σ) h (fun e h => by
  subst e
  exact fun ρ st v u D r e => by
   have e : u = .none := e
   subst e
   exact isNone_val r _ _ _ h (fun e q => by subst e; exact wpAny_is_self rfl (Post.now (X := .bool _) D rfl (tr_bool (.lit q))))
    (fun n1 n2 q => wpAny_is_other (by cases v <;> first | rfl | exact absurd rfl (n2 _)) n1 (Post.now (X := .bool _) D rfl (tr_bool (.lit q)))) (fun h => d h ρ st v _ D r rfl)) d
 case IsNot => exact isN_e (X := X) (Y := Y) (y := QT (.lit false) σ) (n := QT (.lit true) σ) h (fun e h => by
  subst e
  exact fun ρ st v u D r e => by
   have e : u = .none := e
   subst e
   exact isNone_val r _ _ _ h (fun e q => by subst e; exact wpAny_isNot_self rfl (Post.now (X := .bool _) D rfl (tr_bool (.lit q))))
    (fun n1 n2 q => wpAny_isNot_other (by cases v <;> first | rfl | exact absurd rfl (n2 _)) n1 (Post.now (X := .bool _) D rfl (tr_bool (.lit q)))) (fun h => d h ρ st v _ D r rfl)) d
 all_goals exact d h
theorem keep_bi {n : String} : KeepV c (.bi n) := fun σ ρ st v D e => by
 have e : v = .builtin n := e
 subst e
 exact ⟨.machine, .inr (.inl rfl), Looks.of_pure rfl⟩
theorem keep_typ {n : String} : KeepV c (.typ n) := fun σ ρ st v D e => by
 have e : v = .type n := e
 subst e
 exact ⟨.machine, .inr (.inl rfl), Looks.of_pure rfl⟩
theorem keep_bm {f : String} {X : V} : KeepV c (.bm f X) := fun σ ρ st v D r => by
 obtain ⟨a, o, u, rfl, g, hc, hd, _⟩ := r
 refine ⟨.machine, .inr (.inl rfl), ?_⟩
 unfold keeperOf
 refine Looks.andThen (Looks.ld g) ?_
 rw [hd]
 dsimp only
 rcases hc with e | e
 ·rw [e]; exact .now
 ·rw [e]; exact .now
theorem keepQ_ok {F : V} {P : Prop} (h : keepQ c F P) : KeepV c F ∧ P := by
 cases F
 case bi n => exact ⟨keep_bi, h⟩
 case typ n => exact ⟨keep_typ, h⟩
 case bm f X => exact ⟨keep_bm, h⟩
 all_goals exact h
theorem few_ok {n : Nat} {es : List TE} {P : Prop} (h : few n es P) : es.length ≤ n ∧ P := by
 induction es generalizing n with
 | nil => cases n <;> exact ⟨Nat.zero_le _, h⟩
 | cons e es ih =>
  cases n with
  | zero => exact h.elim
  | succ n => exact ⟨Nat.succ_le_succ (ih h).1, (ih h).2⟩
end
end
section
section
variable {k : Ck} {c : Cx} {A : Around}
theorem isLoc_e {k : Ck} {x : Str} {C : Prop} (h : k.isLoc x = true) (k1 : k.sc.names.lookup x = some .local → C) (k2 : k.sc.names.lookup x = some .cell → C) : C := by
 unfold Ck.isLoc at h
 rw [Bool.or_eq_true] at h
 exact h.elim (fun h => k1 (eq_of_beq h)) fun h => k2 (eq_of_beq h)
theorem LocR.loc {W : Wd} {env : Env} {m : Str → Option Value} {x : Str} {X : V} {C : Prop} (h : LocR W env m x (some X)) (hk : env.kindOf x = some .local) (k : ∀ v, m x = some v → VR W X v → C) : C := by
 unfold LocR at h
 rw [hk] at h
 obtain ⟨v, e, r⟩ := h
 exact k v e r
theorem LocR.cell {W : Wd} {env : Env} {m : Str → Option Value} {x : Str} {X : V} {C : Prop} (h : LocR W env m x (some X)) (hk : env.kindOf x = some .cell) (k : ∀ ca o v, env.cells.lookup x = some ca → W.h.get? ca = some o → o.data = .cell (some v) → VR W X v → C) : C := by
 unfold LocR at h
 rw [hk] at h
 obtain ⟨ca, o, v, l, g, d, r⟩ := h
 exact k ca o v l g d r
theorem LocR.cell0 {W : Wd} {env : Env} {m : Str → Option Value} {x : Str} {C : Prop} {ov : Option V} (h : LocR W env m x ov) (hk : env.kindOf x = some .cell) (k : ∀ ca o v, env.cells.lookup x = some ca → W.h.get? ca = some o → o.data = .cell v → C) : C := by
 unfold LocR at h
 rw [hk] at h
 cases ov with
 | none => obtain ⟨ca, o, l, g, d⟩ := h; exact k ca o _ l g d
 | some X => obtain ⟨ca, o, v, l, g, d, r⟩ := h; exact k ca o _ l g d
theorem Ev.loc {σ : St} {Q : V → St → Prop} {x : Str} {p : Pos} {j : Nat} {X : V} (F : Fit k c) (hj : k.names[j]? = some x) (hl : k.isLoc x = true) (hd : (x == dbg) = false) (hx : lk σ.loc j = some X) (q : Q X σ) :
  Ev c A σ (eval (.Name x p) c.env) Q := fun ρ st D => by
 obtain ⟨m, hn, l⟩ := D.loc
 have r := LocsR.get (by rw [F.names]; exact hj) (lk_get hx) l
 exact wpAny_Name (isLoc_e hl (fun hl => r.loc ((F.kindOf x).trans hl) fun v e rv => wpAny_loadName_local F.kd ((F.kindOf x).trans hl) hn e (Post.now D rv q))
  fun hl => r.cell ((F.kindOf x).trans hl) fun ca o v lk g dt rv => wpAny_loadName_cell F.kd ((F.kindOf x).trans hl) lk ⟨o, g, dt⟩ (Post.now D rv q)) hd
theorem Ev.glob {σ : St} {Q : V → St → Prop} {x : Str} {p : Pos} {j : Nat} {X : V} (F : Fit k c) (hg : gtab[j]? = some (x, X)) (hl : k.sc.names.lookup x = some .globalImplicit) (hd : (x == dbg) = false) (q : Q X σ) :
  Ev c A σ (eval (.Name x p) c.env) Q := fun ρ st D => by
 refine wpAny_Name ?_ hd
 rw [loadName_read F.kd (by rw [F.kindOf, hl])]
 obtain ⟨v, r, L⟩ := gload (W := wd c σ ρ st) hg (D.K F.top) F.glob F.blt
 exact L.here (Post.now D r q)
noncomputable def valTest (e : Expr) : Bool := e.ctorIdx != 0 && (e.ctorIdx != 3 && (e.ctorIdx != 5 && e.ctorIdx != 15))
theorem isTrue_val {e : Expr} {env : Env} {whole : Sem Value} (h : valTest e = true) :
  isTrue e env whole = (do let v ← whole; standAt e.pos; holding [v] (truthy v)) := by
 cases e <;> first | rfl | cases h
theorem Bo.val {σ : St} {Q : Bool → St → Prop} {e : Expr} (h : Ev c A σ (eval e c.env) fun Z σ' => Tr c A σ' Z Q) (hs : valTest e = true) : Bo c A σ (isTrue e c.env (eval e c.env)) Q := fun ρ st D => by
 refine wpAny_isTrue_value ?_ (isTrue_val hs)
 exact h.then D fun X σ' ρ' st' v D' r x t => noE (t ρ' st' v D' r) fun _ _ p => p.up x
theorem sub_tail {sl value : Expr} {o i : Value} {st : Shared} {Q : Value → Shared → Prop} (hs : (sl.ctorIdx != 26) = true) (h : wpAny (MM c) A (itemOf o i) Q noExc st) :
  wpAny (MM c) A (do let r ← subscripted sl (← getitemInPython o) o i; letTemporaryGo value o r; pure r) Q noExc st := fun Γ p hΓ => by
 have h' := h Γ p hΓ
 unfold itemOf at h'
 rw [Sem.wp_bind'] at h' ⊢
 refine Sem.wp_mono _ _ _ (fun b p' s' hb => ?_) (fun _ _ _ x => x) _ _ h'
 rw [subscripted_item hs, Sem.wp_bind']
 cases b
 ·rw [Sem.wp_operate]
  exact Sem.wp_mono _ _ _ (fun r p₂ s₂ hr => wpAny_bind (wpAny_letTemporaryGo (wpAny_pure (Q := Q) hr)) Γ p₂ hΓ) (fun _ _ _ x => x) _ _ hb
 ·exact Sem.wp_mono _ _ _ (fun r p₂ s₂ hr => wpAny_bind (wpAny_letTemporaryGo (wpAny_pure (Q := Q) hr)) Γ p₂ hΓ) (fun _ _ _ x => x) _ _ hb
theorem slice_tail {value : Expr} {l u : Option Expr} {q p : Pos} {o lv uv : Value} {st : Shared} {Q : Value → Shared → Prop} (h : wpAny (MM c) A (sliceOf p o lv uv) Q noExc st) :
  wpAny (MM c) A (newFields "slice" [lv, uv, .none] >>= fun i => standAt p >>= fun _ => (do let r ← subscripted (.Slice l u none q) (← getitemInPython o) o i; letTemporaryGo value o r; pure r)) Q noExc st := fun Γ p' hΓ => by
 have h' := h Γ p' hΓ
 unfold sliceOf at h'
 rw [Sem.wp_bind'] at h' ⊢
 refine Sem.wp_mono _ _ _ (fun i p₀ s' hi => ?_) (fun _ _ _ x => x) _ _ h'
 rw [Sem.wp_bind'] at hi ⊢
 refine Sem.wp_mono _ _ _ (fun _ p₁ s₁ hb => ?_) (fun _ _ _ x => x) _ _ hi
 rw [Sem.wp_bind'] at hb ⊢
 refine Sem.wp_mono _ _ _ (fun b p₂ s₂ hc => ?_) (fun _ _ _ x => x) _ _ hb
 rw [Sem.wp_bind']
 show Sem.wp _ _ (operate [i, o] (getItem o i)) _ _ _ _
 rw [Sem.wp_operate]
 exact Sem.wp_mono _ _ _ (fun r p₂ s₂ hr => wpAny_bind (wpAny_letTemporaryGo (wpAny_pure (Q := Q) hr)) Γ p₂ hΓ) (fun _ _ _ x => x) _ _ hc
theorem plain_args {ts : List TE} {as : List Expr} {pos : Pos} (h : chkEs k ts as = true) : (backTo pos (starEach as c.env)).all (fun x => !x.1) = true ∧ (backTo pos (starEach as c.env)).any (·.1) = false := by
 induction ts generalizing as with
 | nil => exact nil_e (P := fun as => (backTo pos (starEach as c.env)).all (fun x => !x.1) = true ∧ (backTo pos (starEach as c.env)).any (·.1) = false) h ⟨rfl, rfl⟩
 | cons t ts ih =>
  refine onCons_e (P := fun as => (backTo pos (starEach as c.env)).all (fun x => !x.1) = true ∧ (backTo pos (starEach as c.env)).any (·.1) = false) h fun x r h => and_e h fun hn h => and_e h fun _ hr => ?_
  rw [starEach_cons hn]
  exact ih hr
theorem VRs.app {W : Wd} {Xs Ys : List V} {a b : List Value} (h : VRs W Xs a) (h' : VRs W Ys b) : VRs W (Xs ++ Ys) (a ++ b) := by
 induction Xs generalizing a with
 | nil => have e : a = [] := h; subst e; exact h'
 | cons X Xs ih => exact h.e_cons fun v r e h1 h2 => by subst e; exact ⟨v, _, rfl, h1, ih h2⟩
theorem apL_eq (Xs Ys : List V) : apL Xs Ys = Xs ++ Ys := by
 induction Xs with
 | nil => rfl
 | cons X Xs ih => exact congrArg _ ih
theorem evalArgs_any {f : Value} {pos : Pos} {ts : List TE} {as : List Expr} {st : Shared} {Q : Args → Shared → Prop} (hc : chkEs k ts as = true)
  (h : wpAny (MM c) A (spliced (backTo pos (starEach as c.env))) (fun vs s' => Q ⟨vs, []⟩ s') noExc st) : wpAny (MM c) A (evalArgs f true (backTo pos (starEach as c.env)) []) Q noExc st := by
 cases ts with
 | nil =>
  rw [nil_e (P := fun as => as = []) hc rfl] at h ⊢
  unfold evalArgs
  show wpAny _ _ (spliced [] >>= _) Q _ st
  refine wpAny_bind (noE h fun vs s' h' => ?_)
  refine wpAny_bind (wpAny_pure ?_)
  refine wpAny_holding ?_
  exact wpAny_bind (wpAny_pure (wpAny_bind (wpAny_pure (wpAny_pure h'))))
 | cons t ts =>
  revert h
  refine onCons_e (P := fun as => wpAny (MM c) A (spliced (backTo pos (starEach as c.env))) (fun vs s' => Q ⟨vs, []⟩ s') noExc st → wpAny (MM c) A (evalArgs f true (backTo pos (starEach as c.env)) []) Q noExc st) hc fun x r hc => and_e hc fun hn _ h => ?_
  rw [starEach_cons hn] at h ⊢
  exact Calls.evalArgs_plain h
theorem call_tail {σ : St} {ρ : Nat → Int → Addr} {st : Shared} {W : Wd} {FV : V} {Fs : List V} {f : Value} {first : List Value} {pos : Pos} {ts : List TE} {as : List Expr} {Q : V → St → Prop} (hc : chkEs k ts as = true)
  (rf : VR (wd c σ ρ st) FV f) (rs : VRs (wd c σ ρ st) Fs first) (x : Ext W (wd c σ ρ st)) (kv : KeepV c FV)
  (args : wpAny (MM c) A (spliced (backTo pos (starEach as c.env))) (PostVs c (wd c σ ρ st) fun Xs σ' => Ca c A σ' FV (apL Fs Xs) Q) noExc st) :
  wpAny (MM c) A (callWith pos f first (backTo pos (starEach as c.env)) (backToKw pos (keywordEach [] c.env))) (Post c W Q) noExc st := by
 refine callWith_of (P := fun h => ∃ kk, (kk = Keeper.frame ∨ kk = Keeper.machine ∨ kk = Keeper.boundFrame) ∧ Looks (MM c) h (keeperOf f) kk) (by rw [(plain_args (pos := pos) hc).2]; rfl) (fun _ h => h) ?_
 refine evalArgs_any hc (wpVs args fun vs st' Xs σ' ρ' D' r' x' q' => ⟨kv σ' ρ' st' f D' (rf.ext x' _ _), ?_⟩)
 rw [apL_eq] at q'
 exact noE (q' ρ' st' f (first ++ vs) D' (rf.ext x' _ _) (VRs.app (VRs.ext x' _ _ rs) r')) fun _ _ p => p.up (x.trans x')
theorem VRs.length {W : Wd} {Xs : List V} {vs : List Value} (h : VRs W Xs vs) : vs.length = Xs.length := by
 induction Xs generalizing vs with
 | nil => have e : vs = [] := h; subst e; rfl
 | cons X Xs ih => exact h.e_cons fun v r e _ h' => by subst e; exact congrArg (· + 1) (ih h')
theorem get_size (h : Heap) : h.get? h.objs.size = none := by
 cases e : h.get? h.objs.size with
 | none => rfl
 | some o => exact absurd (Heap.lt_size e) (Nat.lt_irrefl _)
theorem alloc_ext {σ : St} {ρ : Nat → Int → Addr} {st st' : Shared} {a : Addr} {o' : O} (D : Den c σ ρ st) (hn : st.heap.get? a = none) (kk : ∀ b o, st.heap.get? b = some o → st'.heap.get? b = some o) :
  Ext (wd c σ ρ st) (wd c { σ with H := σ.H ++ [.one o'] } (ρapp ρ σ.H.length a) st') := by
 have g0 : ∀ j y, (σ.H.get j y).isSome = true → (σ.H ++ [Fam.one o']).get j y = σ.H.get j y ∧ ρapp ρ σ.H.length a j y = ρ j y := fun j y h => by
  have := AH.get_lt h
  exact ⟨by rw [AH.get_app, if_neg (Nat.ne_of_lt this)], if_neg (Nat.ne_of_lt this)⟩
 exact ⟨fun j y h => by
  show ((σ.H ++ [Fam.one o']).get j y).isSome = true
  rw [(g0 j y h).1]; exact h, fun j y h => (g0 j y h).2, fun b o h _ => kk b o h⟩
theorem store_tail {σ : St} {ρ : Nat → Int → Addr} {st : Shared} {j : Nat} {x : Str} {v : Value} {X : V} {Q : Unit → Shared → Prop} (F : Fit k c) (hj : k.names[j]? = some x) (hk : k.sc.names.lookup x = some .local)
  (D : Den c σ ρ st) (r : VR (wd c σ ρ st) X v)
  (h : ∀ st', Den c (σ.set j X) ρ st' → Ext (wd c σ ρ st) (wd c (σ.set j X) ρ st') → Q () st') : wpAny (MM c) A (storeName c.env x v) Q noExc st := by
 obtain ⟨m, hn, l⟩ := D.loc
 have hk' : c.env.kindOf x = some .local := by rw [F.kindOf, hk]
 refine wpAny_storeName_local hk' hn (fun h' hns hs => ?_) (by rw [F.kd]; rfl)
 have := D.store (st' := { st with heap := h', toks := st.toks + 1 }) (by rw [F.names]; exact F.nodup) (by rw [F.names]; exact hj) hk' r hn l hns hs rfl rfl
 unfold St.set at h
 rw [stl_eq] at h
 exact h _ this.1 this.2
end
noncomputable abbrev EvE (c : Cx) (A : Around) (σ : St) (Q : V → St → Prop) (e : Expr) : Prop := Ev c A σ (eval e c.env) Q
noncomputable abbrev BoE (c : Cx) (A : Around) (σ : St) (Q : Tst → St → Prop) (e : Expr) : Prop := Bo c A σ (isTrue e c.env (eval e c.env)) (TQ Q)
noncomputable def IE (k : Ck) (c : Cx) (A : Around) (t : TE) : Prop := ∀ (e : Expr), chkE k t e = true → ∀ (σ : St) (Q : V → St → Prop), vcE c A t σ Q → EvE c A σ Q e
noncomputable def IB (k : Ck) (c : Cx) (A : Around) (t : TE) : Prop := ∀ (e : Expr), chkE k t e = true → ∀ (σ : St) (Q : Tst → St → Prop), vcB c A t σ Q → BoE c A σ Q e
noncomputable def IEs (k : Ck) (c : Cx) (A : Around) (ts : List TE) : Prop := ∀ (es : List Expr), chkEs k ts es = true → ∀ (pos : Pos) (σ : St) (Q : List V → St → Prop), vcEs c A ts σ Q → ∀ ρ st, Den c σ ρ st →
  wpAny (MM c) A (spliced (backTo pos (starEach es c.env))) (PostVs c (wd c σ ρ st) fun Xs σ' => Xs.length = ts.length ∧ Q Xs σ') noExc st
noncomputable def IO' (k : Ck) (c : Cx) (A : Around) (t : Option TE) : Prop := ∀ (x : Option Expr), chkO k t x = true → ∀ (σ : St) (Q : V → St → Prop), vcO c A t σ Q → Ev c A σ (valueOrNone (evalOpt x c.env)) Q
noncomputable def IV (k : Ck) (c : Cx) (A : Around) (ts : List TE) : Prop := ∀ (op : BoolOp) (p : Pos) (es : List Expr), chkEs k ts es = true → ∀ (σ : St) (Q : V → St → Prop), vcV c A op ts σ Q → Ev c A σ (boolOp p op (evalEach es c.env)) Q
noncomputable def IT (k : Ck) (c : Cx) (A : Around) (ts : List TE) : Prop := ∀ (op : BoolOp) (es : List Expr), chkEs k ts es = true → ∀ (σ : St) (Q : Tst → St → Prop), vcT c A op ts σ Q → Bo c A σ (allTrue op es c.env) (TQ Q)
theorem IEs.go {k : Ck} {c : Cx} {A : Around} {ts : List TE} (I : IEs k c A ts) {es : List Expr} (h : chkEs k ts es = true) {pos : Pos} {σ : St} {Q : List V → St → Prop} (q : vcEs c A ts σ Q) {ρ : Nat → Int → Addr} {st : Shared} (D : Den c σ ρ st) :
  wpAny (MM c) A (spliced (backTo pos (starEach es c.env))) (PostVs c (wd c σ ρ st) Q) noExc st := wpVs (I es h pos σ Q q ρ st D) fun v s X σ' ρ' a b d e => ⟨X, σ', ρ', a, b, d, e.2⟩
theorem not_e {b : Bool} (h : (!b) = true) : b = false := by cases b; rfl; cases h
section
variable {k : Ck} {c : Cx} {A : Around} {σ : St} {Q : V → St → Prop} {QT : Tst → St → Prop}
theorem constE {C : Const} {e : Expr} {f : Const → Bool} (h : (onConstant e fun v _ _ => f v) = true) (k : ∀ v, f v = true → ∀ u p, EvE c A σ Q (.Constant v u p)) : EvE c A σ Q e := onConstant_e (P := EvE c A σ Q) h fun v u p h => k v h u p
theorem keepE {X : V} {v : Value} (q : Q X σ) (r : ∀ W, VR W X v) : Ev c A σ (pure v) Q := fun ρ st D => wpAny_pure (Post.now D (r _) q)
variable (F : Fit k c)
theorem sE_none : IE k c A (.none) := fun e h σ Q q => onConstant_e (P := EvE c A σ Q) h fun v u p h => onCNone_e (P := fun v => EvE c A σ Q (.Constant v u p)) h fun _ => fun ρ st D => wpAny_pure (Post.now (X := .none) D rfl q)
theorem sE_bool (b : Bool) : IE k c A (.bool b) := fun e h σ Q q => onConstant_e (P := EvE c A σ Q) h fun v u p h => onCBool_e (P := fun v => EvE c A σ Q (.Constant v u p)) h fun b' h => by
 cases eq_of_beq h
 exact fun ρ st D => wpAny_pure (Post.now (X := .bool b) D rfl q)
theorem sE_int (i : Int) : IE k c A (.int i) := fun e h σ Q q => onConstant_e (P := EvE c A σ Q) h fun v u p h => onCInt_e (P := fun v => EvE c A σ Q (.Constant v u p)) h fun b' h => by
 cases eq_of_beq h
 exact fun ρ st D => wpAny_mkInt (post_tok (X := .int i) D (fun _ => ⟨_, rfl⟩) q _)
theorem sE_str (i : Str) : IE k c A (.str i) := fun e h σ Q q => onConstant_e (P := EvE c A σ Q) h fun v u p h => onCStr_e (P := fun v => EvE c A σ Q (.Constant v u p)) h fun b' h => by
 cases eq_of_beq h
 exact fun ρ st D => wpAny_mkText (post_tok (X := .str i) D (fun _ => ⟨_, rfl⟩) q _)
theorem sE_neg (a : TE) (Ia : IE k c A a) : IE k c A (.neg a) := fun e h σ Q q => onUnaryOp_e (P := EvE c A σ Q) h fun op x p h => and_e h fun h1 ha => by
 cases eq_of_beq h1
 exact fun ρ st D => wpAny_UnaryOp ((Ia x ha σ _ q).then D fun X σ' ρ' st' v D' r x o => noE (o ρ' st' v D' r) fun _ _ p => p.up x)
include F in
theorem sE_loc (j : Nat) : IE k c A (.loc j) := fun e h σ Q q => onName_e (P := EvE c A σ Q) h fun x p h => and_e h fun h1 h => and_e h fun h2 h3 => withV_e q fun X hx q => Ev.loc F (eq_of_beq h1) h2 (not_e h3) hx q
include F in
theorem sE_glob (j : Nat) : IE k c A (.glob j) := fun e h σ Q q => onName_e (P := EvE c A σ Q) h fun x p h => and_e h fun h1 h => and_e h fun h2 h3 => withV_e q fun X hx q => by
 obtain ⟨y, hy⟩ := glk_get hx
 rw [hy] at h1
 have e : y = x := eq_of_beq h1
 subst e
 exact Ev.glob F hy (eq_of_beq h2) (not_e h3) q
theorem ev_two {f : Value → Value → Sem Value} {x y : Expr} (Ix : Ev c A σ (eval x c.env) fun X σ₁ => Ev c A σ₁ (eval y c.env) fun Y σ₂ => Op2 c A σ₂ X Y f Q) {ρ : Nat → Int → Addr} {st : Shared} (D : Den c σ ρ st) :
  wpAny (MM c) A (eval x c.env) (fun va s₁ => wpAny (MM c) A (eval y c.env) (fun vb s₂ => wpAny (MM c) A (f va vb) (Post c (wd c σ ρ st) Q) noExc s₂) noExc s₁) noExc st :=
 wpP (Ix ρ st D) fun va s₁ X σ₁ ρ₁ D₁ rx x₁ q₁ => wpP (q₁ ρ₁ s₁ D₁) fun vb s₂ Y σ₂ ρ₂ D₂ ry x₂ q₂ => noE (q₂ ρ₂ s₂ va vb D₂ (rx.ext x₂ _ _) ry) fun _ _ p => p.up (x₁.trans x₂)
theorem sE_bin (op : Operator) (a b : TE) (Ia : IE k c A a) (Ib : IE k c A b) : IE k c A (.bin op a b) := fun e h σ Q q => onBinOp_e (P := EvE c A σ Q) h fun l op' r p h => and_e h fun h1 h => and_e h fun ha hb => by
 cases eq_of_beq h1
 exact fun ρ st D => wpAny_BinOp (ev_two ((Ia l ha σ _ q).mono fun X σ₁ q => (Ib r hb σ₁ _ q).mono fun Y σ₂ q => bin2_ok q) D)
theorem sE_cmp (op : CmpOp) (a b : TE) (Ia : IE k c A a) (Ib : IE k c A b) : IE k c A (.cmp op a b) := fun e h σ Q q => onCompare_e (P := EvE c A σ Q) h fun l ops rs p h => onOne_e (P := fun ops => EvE c A σ Q (.Compare l ops rs p)) h fun op' h => onOne_e (P := fun rs => EvE c A σ Q (.Compare l [op'] rs p)) h fun r h => and_e h fun h1 h => and_e h fun ha h => and_e h fun hb hm => by
 cases eq_of_beq h1
 exact fun ρ st D => wpAny_Compare1 (ev_two ((Ia l ha σ _ q).mono fun X σ₁ q => Ib r hb σ₁ _ q) D) (not_e hm)
theorem sE_not (a : TE) (Ia : IE k c A a) : IE k c A (.not a) := fun e h σ Q q => onUnaryOp_e (P := EvE c A σ Q) h fun op x p h => and_e h fun h1 ha => by
 cases eq_of_beq h1
 exact fun ρ st D => wpAny_UnaryOp ((Ia x ha σ _ q).then D fun X σ' ρ' st' v D' r x o => noE (o ρ' st' v D' r) fun _ _ p => p.up x)
theorem sE_bop (op : BoolOp) (es : List TE) (Wes : IV k c A es) : IE k c A (.bop op es) := fun e h σ Q q => onBoolOp_e (P := EvE c A σ Q) h fun op' vs p h => and_e h fun h1 hs => by
 cases eq_of_beq h1
 exact Wes op p vs hs σ Q q
theorem sE_ite (t a b : TE) (Jt : IB k c A t) (Ib : IE k c A b) (Ia : IE k c A a) : IE k c A (.ite t a b) := fun e h σ Q q => onIfExp_e (P := EvE c A σ Q) h fun t' a' b' p h => and_e h fun ht h => and_e h fun ha hb =>
 fun ρ st D => wpAny_IfExp (wpB (Jt t' ht σ _ q ρ st D) fun r s₁ σ₁ ρ₁ D₁ x₁ q₁ => by
   cases q₁ with
   | mk t ok q =>
   cases r
   ·exact noE (Ib b' hb σ₁ Q (sel_no ok q) ρ₁ s₁ D₁) fun _ _ p => p.up x₁
   ·exact noE (Ia a' ha σ₁ Q (sel_yes ok q) ρ₁ s₁ D₁) fun _ _ p => p.up x₁)
theorem sE_attr (a : TE) (n : Str) (Ia : IE k c A a) : IE k c A (.attr a n) := fun e h σ Q q => onAttribute_e (P := EvE c A σ Q) h fun v n' p h => and_e h fun h1 h => and_e h fun hs ha => by
 cases eq_of_beq h1
 intro ρ st D
 rw [arm_eval_Attribute, attributeBase_plain hs]
 exact wpAny_bind (wpP (Ia v ha σ _ q ρ st D) fun va s₁ X σ₁ ρ₁ D₁ rx x₁ q₁ => wpAny_bind (wpAny_standAt (wpAny_bind (wpAny_holding (noE (q₁ ρ₁ s₁ va D₁ rx) fun r s₂ P => wpAny_bind (wpAny_letTemporaryGo (wpAny_pure (P.up x₁))))))))
theorem sE_sub (a i : TE) (Ia : IE k c A a) (Ii : IE k c A i) : IE k c A (.sub a i) := fun e h σ Q q => onSubscript_e (P := EvE c A σ Q) h fun v sl p h => and_e h fun hs h => and_e h fun ha hi => by
 intro ρ st D
 rw [arm_eval_Subscript]
 exact wpAny_bind (wpP (Ia v ha σ _ q ρ st D) fun va s₁ X σ₁ ρ₁ D₁ rx x₁ q₁ => wpAny_bind (wpAny_holding (wpP (Ii sl hi σ₁ _ q₁ ρ₁ s₁ D₁) fun vb s₂ Y σ₂ ρ₂ D₂ ry x₂ q₂ => wpAny_bind (wpAny_standAt
  (sub_tail hs (noE (q₂ ρ₂ s₂ va vb D₂ (rx.ext x₂ _ _) ry) fun _ _ p => p.up (x₁.trans x₂)))))))
theorem sE_slice (a : TE) (lo hi : Option TE) (Ia : IE k c A a) (Ilo : IO' k c A lo) (Ihi : IO' k c A hi) : IE k c A (.slice a lo hi) := fun e h σ Q q => onSubscript_e (P := EvE c A σ Q) h fun v sl p h => onSlice_e (P := fun sl => EvE c A σ Q (.Subscript v sl p)) h fun l u s qp h => and_e h fun hs h => and_e h fun ha h => and_e h fun hl hu => by
 refine isNone_e (P := fun s => EvE c A σ Q (.Subscript v (.Slice l u s qp) p)) hs ?_
 intro ρ st D
 rw [arm_eval_Subscript]
 refine wpAny_bind (wpP (Ia v ha σ _ q ρ st D) fun va s₁ X σ₁ ρ₁ D₁ rx x₁ q₁ => ?_)
 have tail : wpAny (MM c) A (valueOrNone (evalOpt l c.env) >>= fun lv => valueOrNone (evalOpt u c.env) >>= fun uv => newFields "slice" [lv, uv, .none] >>= fun i => standAt p >>= fun _ => (do let r ← subscripted (.Slice l u none qp) (← getitemInPython va) va i; letTemporaryGo v va r; pure r)) (Post c (wd c σ ρ st) Q) noExc s₁ :=
   wpAny_bind (wpP (Ilo l hl σ₁ _ q₁ ρ₁ s₁ D₁) fun vl s₂ L σ₂ ρ₂ D₂ rl x₂ q₂ => wpAny_bind (wpP (Ihi u hu σ₂ _ q₂ ρ₂ s₂ D₂) fun vu s₃ U σ₃ ρ₃ D₃ ru x₃ q₃ =>
    slice_tail (noE (q₃ p ρ₃ s₃ va vl vu D₃ (VR.ext (x₂.trans x₃) _ _ rx) (VR.ext x₃ _ _ rl) ru) fun _ _ P => P.up (x₁.trans (x₂.trans x₃)))))
 intro Γ pp hΓ
 have t' := tail Γ pp hΓ
 simp only [arm_eval_Slice, Sem.wp_bind', Sem.wp_holding, valueOrNone, evalOpt, Sem.wp_pure'] at t' ⊢
 exact t'
theorem sE_call (f : TE) (es : List TE) (If : IE k c A f) (Ies : IEs k c A es) : IE k c A (.call f es) := fun e h σ Q q => onCall_e (P := EvE c A σ Q) h fun g as kw p h => and_e h fun hk h => nil_e (P := fun kw => EvE c A σ Q (.Call g as kw p)) hk (and_e h fun hn h => and_e h fun hf hs => by
 intro ρ st D
 rw [notAttr_call hn]
 exact wpAny_bind (wpP (If g hf σ _ q ρ st D) fun vf s₁ FV σ₁ ρ₁ D₁ rf x₁ q₁ => call_tail (Fs := []) hs rf (VRs.nil _) x₁ (keepQ_ok q₁).1 (Ies.go hs (keepQ_ok q₁).2 D₁)))
theorem sE_meth (o : TE) (n : Str) (es : List TE) (Io : IE k c A o) (Ies : IEs k c A es) : IE k c A (.meth o n es) := fun e h σ Q q => onCall_e (P := EvE c A σ Q) h fun g as kw p h => onAttribute_e (P := fun g => EvE c A σ Q (.Call g as kw p)) h fun v n' ap h => and_e h fun hk h => nil_e (P := fun kw => EvE c A σ Q (.Call (.Attribute v n' ap) as kw p)) hk (and_e h fun h1 h => and_e h fun hn h => and_e h fun ho h => and_e h fun hs h => and_e h fun hl hlen => by
 cases eq_of_beq h1
 intro ρ st D
 rw [arm_eval_Call, attributeBase_plain hn]
 refine wpAny_bind (wpP (Io v ho σ _ q ρ st D) fun va s₁ X σ₁ ρ₁ D₁ rx x₁ q₁ => wpAny_bind (wpAny_standAt ?_))
 have hform : methodCallForm (as.length + ([] : List Keyword).length) (backTo p (starEach as c.env)) (backToKw p (keywordEach [] c.env)) = true := by
   have hlen := of_decide_eq_true hlen
   unfold methodCallForm
   rw [(plain_args (pos := p) hs).1]
   simp [keywordEach, backToKw]; omega
 unfold methodCall
 rw [hform]
 refine wpAny_bind (wpAny_holding (wpM (q₁ ρ₁ s₁ va _ D₁ rx) fun fv s₂ FV Fs σ₂ ρ₂ D₂ rf rs x₂ q₂ => ?_))
 refine wpAny_bind ?_
 unfold methodCallPos
 rw [hl]
 exact wpAny_pure (call_tail hs rf rs (x₁.trans x₂) (keepQ_ok q₂).1 (Ies.go hs (keepQ_ok q₂).2 D₂)))
theorem sE_list (es : List TE) (Ies : IEs k c A es) : IE k c A (.list es) := fun e h σ Q q => onList_e (P := EvE c A σ Q) h fun as p hs => by
 obtain ⟨hlen, q⟩ := few_ok q
 refine fun ρ st D => wpAny_List_spliced (wpVs (Ies as hs p σ _ q ρ st D) fun vs s₁ Xs σ₁ ρ₁ D₁ rs x₁ q₁ => ⟨?_, ?_⟩)
 ·rw [VRs.length rs, q₁.1]; exact Nat.le_trans hlen (by decide)
 ·have := D₁.alloc (st' := { s₁ with heap := s₁.heap.push { cls := .type "list", data := .seq vs.toArray } }) (a := s₁.heap.objs.size) (o' := .list Xs) (get_size _) (fun b o hb => Heap.get?_push_of_some _ hb) rfl rfl
    ⟨vs.toArray, ⟨0, Heap.get?_push_size _ rfl⟩, VRs.ext (alloc_ext D₁ (get_size _) (fun b o hb => Heap.get?_push_of_some _ hb)) _ _ (by simpa using rs)⟩
  exact ⟨.ref σ₁.H.length 0, _, _, this.1, ⟨by simp [wd, ρapp], by simp [wd, AH.get_app]⟩, x₁.trans this.2, q₁.2⟩
theorem sE_tuple (es : List TE) (Ies : IEs k c A es) : IE k c A (.tuple es) := fun e h σ Q q => onTuple_e (P := EvE c A σ Q) h fun as x0 p hs => by
 obtain ⟨hlen, q⟩ := few_ok q
 refine fun ρ st D => wpAny_Tuple_spliced (wpVs (Ies as hs p σ _ q ρ st D) fun vs s₁ Xs σ₁ ρ₁ D₁ rs x₁ q₁ => ⟨?_, ?_⟩)
 ·rw [VRs.length rs, q₁.1]; exact Nat.le_trans hlen (by decide)
 ·have := D₁.keeps (st' := { s₁ with heap := s₁.heap.push { cls := .type "tuple", data := .seq vs.toArray } }) (fun b o hb => Heap.get?_push_of_some _ hb) rfl rfl
  exact ⟨.tup Xs, _, _, this.1, ⟨s₁.heap.objs.size, _, vs.toArray, 0, rfl, Heap.get?_push_size _ rfl, rfl, rfl, VRs.ext this.2 _ _ (by simpa using rs)⟩, x₁.trans this.2, q₁.2⟩
theorem sE_dict0 : IE k c A (.dict0) := fun e h σ Q q => onDict_e (P := EvE c A σ Q) h fun ks vs p h => and_e h fun h1 h2 => by
 refine nil_e (P := fun ks => EvE c A σ Q (.Dict ks vs p)) h1 (nil_e (P := fun vs => EvE c A σ Q (.Dict [] vs p)) h2 ?_)
 refine fun ρ st D => wpAny_Dict_empty ?_
 have := D.alloc (st' := { st with heap := st.heap.push { cls := .type "dict", data := .dict #[] } }) (a := st.heap.objs.size) (o' := .dict [] 0) (get_size _) (fun b o hb => Heap.get?_push_of_some _ hb) rfl rfl
   ⟨[], ⟨_, #[], Heap.get?_push_size _ rfl, ⟨rfl, rfl, rfl⟩, rfl, by intro e he; simp at he, .nil, List.nodup_nil⟩, rfl⟩
 exact ⟨.ref σ.H.length 0, _, _, this.1, ⟨by simp [wd, ρapp], by simp [wd, AH.get_app]⟩, this.2, q⟩
include F in
theorem sE_named (j : Nat) (a : TE) (Ia : IE k c A a) : IE k c A (.named j a) := fun e h σ Q q => onNamedExpr_e (P := EvE c A σ Q) h fun tg v p h => onName_e (P := fun tg => EvE c A σ Q (.NamedExpr tg v p)) h fun x qp h => and_e h fun hj h => and_e h fun hk ha =>
 fun ρ st D => wpAny_NamedExpr (wpP (Ia v ha σ _ q ρ st D) fun va s₁ X σ₁ ρ₁ D₁ rx x₁ q₁ => wpAny_assign_Name (store_tail F (eq_of_beq hj) (eq_of_beq hk) D₁ rx fun s₂ D₂ x₂ => ⟨X, _, ρ₁, D₂, VR.ext x₂ _ _ rx, x₁.trans x₂, q₁⟩))
theorem sE_never : IE k c A (.never) := fun _ _ _ _ q => absurd q id
theorem sE_sem (p : Expr → Bool) : IE k c A (.sem p) := fun e h σ Q q => q e h
theorem sB_cmp (op : CmpOp) (a b : TE) (Ia : IE k c A a) (Ib : IE k c A b) : IB k c A (.cmp op a b) := fun e h σ Q q => onCompare_e (P := BoE c A σ Q) h fun l ops rs p h => onOne_e (P := fun ops => BoE c A σ Q (.Compare l ops rs p)) h fun op' h => onOne_e (P := fun rs => BoE c A σ Q (.Compare l [op'] rs p)) h fun r h => and_e h fun h1 h => and_e h fun ha h => and_e h fun hb hm => by
 cases eq_of_beq h1
 exact fun ρ st D => wpAny_isTrue_Compare1 (wpP (Ia l ha σ _ q ρ st D) fun va s₁ X σ₁ ρ₁ D₁ rx x₁ q₁ => wpP (Ib r hb σ₁ _ q₁ ρ₁ s₁ D₁) fun vb s₂ Y σ₂ ρ₂ D₂ ry x₂ q₂ =>
   wpP (cmpB_ok q₂ ρ₂ s₂ va vb D₂ (rx.ext x₂ _ _) ry) fun vc s₃ Z σ₃ ρ₃ D₃ rz x₃ q₃ => noE (q₃ ρ₃ s₃ vc D₃ rz) fun _ _ P => P.up (x₁.trans (x₂.trans x₃))) (not_e hm)
theorem PostB.mono {W : Wd} {P P' : Bool → St → Prop} {b b' : Bool} {s : Shared} (h : PostB c W P b s) (i : ∀ σ, P b σ → P' b' σ) : PostB c W P' b' s := by cases h with | mk σ' ρ' a d e => exact ⟨σ', ρ', a, d, i _ e⟩
theorem sB_not (a : TE) (Ja : IB k c A a) : IB k c A (.not a) := fun e h σ Q q => onUnaryOp_e (P := BoE c A σ Q) h fun op x p h => and_e h fun h1 ha => by
 cases eq_of_beq h1
 exact fun ρ st D => wpAny_isTrue_Not (noE (Ja x ha σ _ q ρ st D) fun b s₁ P => P.mono fun σ₁ q => by
  cases q with
  | mk t ok q =>
  cases b
  ·exact .lit (sel_no ok q)
  ·exact .lit (sel_yes ok q))
theorem sB_bop (op : BoolOp) (es : List TE) (Ues : IT k c A es) : IB k c A (.bop op es) := fun e h σ Q q => onBoolOp_e (P := BoE c A σ Q) h fun op' vs p h => and_e h fun h1 hs => by
 cases eq_of_beq h1
 exact fun ρ st D => wpAny_isTrue_BoolOp (Ues op vs hs σ Q q ρ st D)
theorem sB_val {t : TE} (I : IE k c A t) (hv : ∀ e, chkE k t e = true → valTest e = true) (hq : ∀ σ Q, vcB c A t σ Q → vcE c A t σ fun X σ' => tr1 c A X σ' Q) : IB k c A t := fun e h σ Q q => Bo.val ((I e h σ _ (hq σ Q q)).mono fun _ _ => tr1_ok) (hv e h)
theorem vt_const {f : Const → Bool} {e : Expr} (h : (onConstant e fun v _ _ => f v) = true) : valTest e = true := onConstant_e (P := fun e => valTest e = true) h fun _ _ _ _ => rfl
theorem sB_none : IB k c A (.none) := sB_val sE_none (fun e h => vt_const h) fun _ _ q => q
theorem sB_bool (b : Bool) : IB k c A (.bool b) := fun e h σ Q q => Bo.val ((sE_bool b e h σ (fun X σ' => X = .bool b ∧ Q (.lit b) σ') ⟨rfl, q⟩).mono fun X σ' q => by
 cases q.1; exact tr_bool (.lit q.2)) (vt_const h)
include F in
theorem sB_loc (j : Nat) : IB k c A (.loc j) := sB_val (sE_loc F j) (fun e h => onName_e (P := fun e => valTest e = true) h fun _ _ _ => rfl) fun _ _ q => q
theorem sB_attr (a : TE) (n : Str) (I : IE k c A (.attr a n)) : IB k c A (.attr a n) := sB_val I (fun e h => onAttribute_e (P := fun e => valTest e = true) h fun _ _ _ _ => rfl) fun _ _ q => q
theorem sB_call (f : TE) (es : List TE) (I : IE k c A (.call f es)) : IB k c A (.call f es) := sB_val I (fun e h => onCall_e (P := fun e => valTest e = true) h fun _ _ _ _ _ => rfl) fun _ _ q => q
theorem sB_meth (o : TE) (n : Str) (es : List TE) (I : IE k c A (.meth o n es)) : IB k c A (.meth o n es) := sB_val I (fun e h => onCall_e (P := fun e => valTest e = true) h fun _ _ _ _ _ => rfl) fun _ _ q => q
theorem sB_no {t : TE} (n : ∀ σ Q, vcB c A t σ Q → False) : IB k c A t := fun _ _ σ Q q => (n σ Q q).elim
theorem sEs_nil : IEs k c A [] := fun es h pos σ Q q ρ st D => nil_e (P := fun es => wpAny (MM c) A (spliced (backTo pos (starEach es c.env))) (PostVs c (wd c σ ρ st) fun Xs σ' => Xs.length = 0 ∧ Q Xs σ') noExc st) h
 (Calls.spliced_nil ⟨[], σ, ρ, D, rfl, .refl _, rfl, q⟩)
theorem sEs_cons (t : TE) (ts : List TE) (It : IE k c A t) (Its : IEs k c A ts) : IEs k c A (t :: ts) := fun es h pos σ Q q ρ st D => onCons_e (P := fun es => wpAny (MM c) A (spliced (backTo pos (starEach es c.env))) (PostVs c (wd c σ ρ st) fun Xs σ' => Xs.length = (t :: ts).length ∧ Q Xs σ') noExc st) h fun x r h => and_e h fun hn h => and_e h fun hx hr => by
 rw [starEach_cons hn]
 exact Calls.spliced_cons (wpP (It x hx σ _ q ρ st D) fun v s₁ X σ₁ ρ₁ D₁ rx x₁ q₁ => wpVs (Its r hr pos σ₁ _ q₁ ρ₁ s₁ D₁) fun vs s₂ Xs σ₂ ρ₂ D₂ rs x₂ q₂ =>
   ⟨X :: Xs, σ₂, ρ₂, D₂, ⟨v, vs, rfl, VR.ext x₂ _ _ rx, rs⟩, x₁.trans x₂, congrArg (· + 1) q₂.1, q₂.2⟩)
theorem sO_none : IO' k c A none := fun x h σ Q q => isNone_e (P := fun x => Ev c A σ (valueOrNone (evalOpt x c.env)) Q) h fun ρ st D => wpAny_pure (Post.now (X := .none) D rfl q)
theorem sO_some (t : TE) (It : IE k c A t) : IO' k c A (some t) := fun x h σ Q q => onSome_e (P := fun x => Ev c A σ (valueOrNone (evalOpt x c.env)) Q) h fun y hy => It y hy σ Q q
theorem sV_nil : IV k c A [] := fun op p es h σ Q q => absurd q id
theorem sV_cons (t : TE) (ts : List TE) (It : IE k c A t) (Wts : IV k c A ts) : IV k c A (t :: ts) := fun op p es h σ Q q => onCons_e (P := fun es => Ev c A σ (boolOp p op (evalEach es c.env)) Q) h fun x r h => and_e h fun hn h => and_e h fun hx hr => by
 cases ts with
 | nil => exact nil_e (P := fun r => Ev c A σ (boolOp p op (evalEach (x :: r) c.env)) Q) hr (It x hx σ Q q)
 | cons t' ts =>
  revert hr
  refine fun hr => onCons_e (P := fun r => chkEs k (t' :: ts) r = true → Ev c A σ (boolOp p op (evalEach (x :: r) c.env)) Q) hr (fun x' r' _ hr => ?_) hr
  refine fun ρ st D => ?_
  show wpAny (MM c) A (eval x c.env >>= fun v => standAt p >>= fun _ => holding [v] (truthy v) >>= fun b => (match op, b with | .And, false | .Or, true => pure v | _, _ => boolOp p op (evalEach (x' :: r') c.env))) _ _ st
  refine wpAny_bind (wpP (It x hx σ _ q ρ st D) fun va s₁ X σ₁ ρ₁ D₁ rx x₁ q₁ => wpAny_bind (wpAny_standAt (wpAny_bind (wpAny_holding (wpB (tr1_ok q₁ ρ₁ s₁ va D₁ rx) fun b s₂ σ₂ ρ₂ D₂ x₂ q₂ => ?_)))))
  have rest : vcV c A op (t' :: ts) σ₂ Q → wpAny (MM c) A (boolOp p op (evalEach (x' :: r') c.env)) (Post c (wd c σ ρ st) Q) noExc s₂ := fun q₃ => noE (Wts op p (x' :: r') hr σ₂ Q q₃ ρ₂ s₂ D₂) fun _ _ P => P.up (x₁.trans x₂)
  have here : Q X σ₂ → Post c (wd c σ ρ st) Q va s₂ := fun q₃ => ⟨X, σ₂, ρ₂, D₂, VR.ext x₂ _ _ rx, x₁.trans x₂, q₃⟩
  cases q₂ with
  | mk t ok q₂ =>
  cases op <;> cases b
  ·exact wpAny_pure (here (sel_no ok q₂))
  ·exact rest (sel_yes ok q₂)
  ·exact rest (sel_no ok q₂)
  ·exact wpAny_pure (here (sel_yes ok q₂))
theorem sT_nil : IT k c A [] := fun op es h σ Q q => nil_e (P := fun es => Bo c A σ (allTrue op es c.env) (TQ Q)) h (by
  cases op
  ·exact fun ρ st D => wpAny_allTrue_And_nil (PostB.now D (.lit q))
  ·exact fun ρ st D => wpAny_allTrue_Or_nil (PostB.now D (.lit q)))
theorem sT_cons (t : TE) (ts : List TE) (Jt : IB k c A t) (Uts : IT k c A ts) : IT k c A (t :: ts) := fun op es h σ Q q => onCons_e (P := fun es => Bo c A σ (allTrue op es c.env) (TQ Q)) h fun x r h => and_e h fun hn h => and_e h fun hx hr => by
  cases op
  ·exact fun ρ st D => wpAny_allTrue_And_cons (wpB (Jt x hx σ _ q ρ st D) fun b s₁ σ₁ ρ₁ D₁ x₁ q₁ => by
    cases q₁ with
    | mk t ok q₁ =>
    cases b
    ·exact ⟨σ₁, ρ₁, D₁, x₁, .lit (sel_no ok q₁)⟩
    ·exact noE (Uts .And r hr σ₁ Q (sel_yes ok q₁) ρ₁ s₁ D₁) fun _ _ P => P.up x₁)
  ·exact fun ρ st D => wpAny_allTrue_Or_cons (wpB (Jt x hx σ _ q ρ st D) fun b s₁ σ₁ ρ₁ D₁ x₁ q₁ => by
    cases q₁ with
    | mk t ok q₁ =>
    cases b
    ·exact noE (Uts .Or r hr σ₁ Q (sel_no ok q₁) ρ₁ s₁ D₁) fun _ _ P => P.up x₁
    ·exact ⟨σ₁, ρ₁, D₁, x₁, .lit (sel_yes ok q₁)⟩)
include F in
theorem sndA (t : TE) : IE k c A t ∧ IB k c A t :=
 TE.rec (motive_1 := fun t => IE k c A t ∧ IB k c A t) (motive_2 := fun ts => IEs k c A ts ∧ IV k c A ts ∧ IT k c A ts) (motive_3 := fun o => IO' k c A o)
 ⟨sE_none, sB_none⟩
 (fun b => ⟨sE_bool b, sB_bool b⟩)
 (fun i => ⟨sE_int i, sB_no fun _ _ q => q⟩)
 (fun i => ⟨sE_str i, sB_no fun _ _ q => q⟩)
 (fun a ha => ⟨sE_neg a ha.1, sB_no fun _ _ q => q⟩)
 (fun j => ⟨sE_loc F j, sB_loc F j⟩)
 (fun j => ⟨sE_glob F j, sB_no fun _ _ q => q⟩)
 (fun op a b ha hb => ⟨sE_bin op a b ha.1 hb.1, sB_no fun _ _ q => q⟩)
 (fun op a b ha hb => ⟨sE_cmp op a b ha.1 hb.1, sB_cmp op a b ha.1 hb.1⟩)
 (fun a ha => ⟨sE_not a ha.1, sB_not a ha.2⟩)
 (fun op es hes => ⟨sE_bop op es hes.2.1, sB_bop op es hes.2.2⟩)
 (fun t a b ht ha hb => ⟨sE_ite t a b ht.2 hb.1 ha.1, sB_no fun _ _ q => q⟩)
 (fun a n ha => ⟨sE_attr a n ha.1, sB_attr a n (sE_attr a n ha.1)⟩)
 (fun a i ha hi => ⟨sE_sub a i ha.1 hi.1, sB_no fun _ _ q => q⟩)
 (fun a lo hi ha hlo hhi => ⟨sE_slice a lo hi ha.1 hlo hhi, sB_no fun _ _ q => q⟩)
 (fun f es hf hes => ⟨sE_call f es hf.1 hes.1, sB_call f es (sE_call f es hf.1 hes.1)⟩)
 (fun o n es ho hes => ⟨sE_meth o n es ho.1 hes.1, sB_meth o n es (sE_meth o n es ho.1 hes.1)⟩)
 (fun es hes => ⟨sE_list es hes.1, sB_no fun _ _ q => q⟩)
 (fun es hes => ⟨sE_tuple es hes.1, sB_no fun _ _ q => q⟩)
 ⟨sE_dict0, sB_no fun _ _ q => q⟩
 (fun j a ha => ⟨sE_named F j a ha.1, sB_no fun _ _ q => q⟩)
 ⟨sE_never, sB_no fun _ _ q => q⟩
 (fun p => ⟨sE_sem p, sB_no fun _ _ q => q⟩)
 ⟨sEs_nil, sV_nil, sT_nil⟩
 (fun t ts ht hts => ⟨sEs_cons t ts ht.1 hts.1, sV_cons t ts ht.1 hts.2.1, sT_cons t ts ht.2 hts.2.2⟩)
 sO_none
 (fun t ht => sO_some t ht.1)
 t
include F in
theorem sndE (t : TE) : IE k c A t := (sndA F t).1
include F in
theorem sndB (t : TE) : IB k c A t := (sndA F t).2
include F in
theorem sndEs (ts : List TE) : IEs k c A ts := by
 induction ts with
 | nil => exact sEs_nil
 | cons t ts ih => exact sEs_cons t ts (sndE F t) ih
include F in
theorem val_of {t : TE} {e : Expr} (h : chkE k t e = true) {σ : St} {X : V} (hv : vcE c A t σ fun Y σ₁ => Y = X ∧ σ = σ₁) {ρ : Nat → Int → Addr} {st : Shared} (D : Den c σ ρ st) {R : Value → Shared → Prop} {E : Value → Shared → Prop}
  (q : ∀ ρ₁ s₁ v, Den c σ ρ₁ s₁ → VR (wd c σ ρ₁ s₁) X v → Ext (wd c σ ρ st) (wd c σ ρ₁ s₁) → R v s₁) : wpAny (MM c) A (eval e c.env) R E st :=
 wpP (sndE F t e h σ _ hv ρ st D) fun v s Y σ₁ ρ₁ D₁ r x h => by
  obtain ⟨e1, e2⟩ := h
  subst e1 e2
  exact q ρ₁ s v D₁ r x
include F in
theorem val_is {t : TE} {e : Expr} (h : chkE k t e = true) {σ : St} {X : V} (hv : vcE c A t σ fun Y σ₁ => Y = X ∧ σ = σ₁) {v : Value} (hX : ∀ W u, VR W X u → u = v) {ρ : Nat → Int → Addr} {st : Shared} (D : Den c σ ρ st) {R : Value → Shared → Prop} {E : Value → Shared → Prop}
  (q : ∀ ρ₁ s₁, Den c σ ρ₁ s₁ → Ext (wd c σ ρ st) (wd c σ ρ₁ s₁) → R v s₁) : wpAny (MM c) A (eval e c.env) R E st :=
 val_of F h hv D fun ρ₁ s₁ u D₁ r x => hX _ u r ▸ q ρ₁ s₁ D₁ x
end
end
section
inductive TT where
 | loc (k : Nat)
 | attr (e : TE) (n : Str)
 | sub (e i : TE)
 | tup (ks : List Nat)
inductive TS where
 | expr (e : TE)
 | assign (ts : List TT) (e : TE)
 | aug (k : Nat) (op : Operator) (e : TE)
 | augA (o : TE) (n : Str) (op : Operator) (e : TE)
 | ret (e : Option TE)
 | brk
 | cont
 | pass
 | ite (t : TE) (a b : List TS)
 | loop (t : TE) (b o : List TS)
 | each (t : TT) (it : TE) (b : List TS)
 | del (e i : TE)
 | never
 | doc
 | sem (p : Stmt → Bool)
structure Kt where
 next : St → Prop
 brk : St → Prop
 cont : St → Prop
 ret : V → St → Prop
inductive PostU (c : Cx) (W : Wd) (Q : St → Prop) (u : Unit) (st' : Shared) : Prop
 | mk (σ' : St) (ρ' : Nat → Int → Addr) (D : Den c σ' ρ' st') (x : Ext W (wd c σ' ρ' st')) (q : Q σ')
noncomputable def SetA (c : Cx) (A : Around) (σ : St) (Y : V) (n : Str) (X : V) (Q : St → Prop) : Prop := ∀ ρ st y x, Den c σ ρ st → VR (wd c σ ρ st) Y y → VR (wd c σ ρ st) X x → wpAny (MM c) A (setAttr y n x) (PostU c (wd c σ ρ st) Q) noExc st
noncomputable def SetI (c : Cx) (A : Around) (σ : St) (Y I X : V) (Q : St → Prop) : Prop :=
 ∀ ρ st y i x, Den c σ ρ st → VR (wd c σ ρ st) Y y → VR (wd c σ ρ st) I i → VR (wd c σ ρ st) X x → wpAny (MM c) A (setItem y i x) (PostU c (wd c σ ρ st) Q) noExc st
noncomputable def DelI (c : Cx) (A : Around) (σ : St) (Y I : V) (Q : St → Prop) : Prop := ∀ ρ st y i, Den c σ ρ st → VR (wd c σ ρ st) Y y → VR (wd c σ ρ st) I i → wpAny (MM c) A (delItem y i) (PostU c (wd c σ ρ st) Q) noExc st
noncomputable def Unp (c : Cx) (A : Around) (σ : St) (X : V) (n : Nat) (Q : List V → St → Prop) : Prop := ∀ ρ st x, Den c σ ρ st → VR (wd c σ ρ st) X x → wpAny (MM c) A (unpackItems x n none) (PostVs c (wd c σ ρ st) Q) noExc st
noncomputable def PostF (c : Cx) (W : Wd) (K : Kt) : Flow → Shared → Prop := fun f st' => match f with
 | .next => PostU c W K.next () st'
 | .brk => PostU c W K.brk () st'
 | .cont => PostU c W K.cont () st'
 | .ret v => Post c W K.ret v st'
noncomputable def Ex (c : Cx) (A : Around) (σ : St) (t : Sem Flow) (K : Kt) : Prop := ∀ ρ st, Den c σ ρ st → wpAny (MM c) A t (PostF c (wd c σ ρ st) K) noExc st
@[reducible] noncomputable def bindK (ks : List Nat) (xs : List V) (σ : St) (Q : St → Prop) : Prop := match ks, xs with
 | [], [] => Q σ
 | k :: ks, x :: xs => σ.setK k x fun σ => bindK ks xs σ Q
 | _, _ => False
@[reducible] noncomputable def unpK (c : Cx) (A : Around) (ks : List Nat) (X : V) (σ : St) (Q : St → Prop) : Prop := match X with
 | .tup xs => bindK ks xs σ Q
 | X => Unp c A σ X ks.length fun xs σ₁ => bindK ks xs σ₁ Q
@[reducible] noncomputable def vcT1 (c : Cx) (A : Around) : TT → V → St → (St → Prop) → Prop
 | .loc k, X, σ, Q => σ.setK k X Q
 | .attr e n, X, σ, Q => vcE c A e σ fun Y σ₁ => SetA c A σ₁ Y n X Q
 | .sub e i, X, σ, Q => vcE c A e σ fun Y σ₁ => vcE c A i σ₁ fun I σ₂ => SetI c A σ₂ Y I X Q
 | .tup ks, X, σ, Q => unpK c A ks X σ Q
@[reducible] noncomputable def vcTs (c : Cx) (A : Around) : List TT → V → St → (St → Prop) → Prop
 | [], _, σ, Q => Q σ
 | t :: ts, X, σ, Q => vcT1 c A t X σ fun σ₁ => vcTs c A ts X σ₁ Q
noncomputable def seqOf (X : V) (H : AH) : Option (List V × Nat) := match X with
 | .ref i x => (match H.get i x with | some (.list xs) => some (xs, 0) | some (.dict es ep) => some (es.map (fun p => .int p.1), ep + 1) | _ => none)
 | .tup xs => some (xs, 0)
 | .rng a b => if 0 ≤ a ∧ a ≤ 1000000 ∧ 0 ≤ b ∧ b ≤ 1000000 then some ((List.range (b - a).toNat).map (fun (k : Nat) => V.int (a + (k : Int))), 0) else none
 | .vals i x => (match H.get i x with | some (.dict es ep) => some (es.map (·.2), ep + 1) | _ => none)
 | _ => none
noncomputable abbrev Cx.at (c : Cx) (h0 : Heap) (ft : Addr → Prop) : Cx := { c with h0 := h0, foot := ft }
inductive Less (I : Nat → St → Prop) (n : Nat) (σ : St) : Prop
 | mk (m : Nat) (h : m < n) (i : I m σ)
inductive LoopP (body : (Nat → St → Prop) → Nat → St → Prop) (σ : St) : Prop
 | mk (I : Nat → St → Prop) (n : Nat) (h0 : I n σ) (h : ∀ n σ', I n σ' → body I n σ')
inductive EachP (X : V) (next : St → Prop) (body : (Nat → St → Prop) → Nat → V → St → Prop) (σ : St) : Prop
 | mk (xs : List V) (ep : Nat) (I : Nat → St → Prop) (hs : seqOf X σ.H = some (xs, ep)) (h0 : I 0 σ) (h1 : ∀ σ', I xs.length σ' → seqOf X σ'.H = some (xs, ep) ∧ next σ')
   (h : ∀ j σ' Y, I j σ' → xs[j]? = some Y → seqOf X σ'.H = some (xs, ep) ∧ body I j Y σ')
mutual
@[reducible] noncomputable def vcS (A : Around) : TS → Cx → St → Kt → Prop
 | .expr e, c, σ, K => vcE c A e σ fun _ σ₁ => K.next σ₁
 | .assign ts e, c, σ, K => vcE c A e σ fun X σ₁ => vcTs c A ts X σ₁ K.next
 | .aug k op e, c, σ, K => withV (lk σ.loc k) fun X => vcE c A e σ fun Y σ₁ => inp2 c A op X Y σ₁ fun Z σ₂ => σ₂.setK k Z K.next
 | .augA o n op e, c, σ, K => vcE c A o σ fun X σ₁ => Op1 c A σ₁ X (fun v => getAttr v n true) fun Y σ₂ => vcE c A e σ₂ fun Z σ₃ => inp2 c A op Y Z σ₃ fun R σ₄ => SetA c A σ₄ X n R K.next
 | .ret e, c, σ, K => vcO c A e σ K.ret
 | .brk, _, σ, K => K.brk σ
 | .cont, _, σ, K => K.cont σ
 | .pass, _, σ, K => K.next σ
 | .ite t a b, c, σ, K => vcB c A t σ fun r σ₁ => sel r (vcSs A a c σ₁ K) (vcSs A b c σ₁ K)
 | .loop t b o, c, σ, K => LoopP (fun I n σ' => vcB c A t σ' fun r σ₁ => sel r (vcSs A b c σ₁ ⟨Less I n, K.next, Less I n, K.ret⟩) (vcSs A o c σ₁ K)) σ
 | .each t it b, c, σ, K => vcE c A it σ fun X σ₁ => EachP X K.next (fun I j Y σ' => ∀ h0 ft, vcT1 (c.at h0 ft) A t Y σ' fun σ₂ => vcSs A b (c.at h0 ft) σ₂ ⟨I (j + 1), K.next, I (j + 1), K.ret⟩) σ₁
 | .del e i, c, σ, K => vcE c A e σ fun X σ₁ => vcE c A i σ₁ fun Y σ₂ => DelI c A σ₂ X Y K.next
 | .never, _, _, _ => False
 | .doc, _, σ, K => K.next σ
 | .sem p, c, σ, K => ∀ st, p st = true → Ex c A σ (exec st c.env) K
@[reducible] noncomputable def vcSs (A : Around) : List TS → Cx → St → Kt → Prop
 | [], _, σ, K => K.next σ
 | t :: ts, c, σ, K => vcS A t c σ ⟨fun σ₁ => vcSs A ts c σ₁ K, K.brk, K.cont, K.ret⟩
end
noncomputable def envS (sc : Scope) : Env := { gEnv with scope := sc }
noncomputable def pur {α : Type} (t : Sem α) : Option α := if h : t.ctorIdx = 0 then some (Sem.pure.elim (motive := fun _ => α) t h id) else none
theorem pur_e {α : Type} {t : Sem α} {r : α} (h : pur t = some r) : t = .pure r := by
 unfold pur at h
 by_cases hc : t.ctorIdx = 0
 ·rw [dif_pos hc] at h
  exact Sem.pure.elim (motive := fun t => ∀ hc : t.ctorIdx = 0, some (Sem.pure.elim (motive := fun _ => α) t hc id) = some r → t = .pure r) t hc (fun a _ h => by cases h; rfl) hc h
 ·rw [dif_neg hc] at h; cases h
theorem sole_env (tg : List Expr) (v : Expr) (l : Nat) (env : Env) : swapsWithSole tg v l env = swapsWithSole tg v l (envS env.scope) := by
 cases tg with
 | nil => rfl
 | cons t r => cases r <;> rfl
theorem with_env (tg : Option Expr) (v : Expr) (l : Nat) (env : Env) : swapsWith v tg l env = swapsWith v tg l (envS env.scope) := rfl
theorem stores_env (tg : List Expr) (v : Expr) (env : Env) : swappedStores tg v env = swappedStores tg v (envS env.scope) := rfl
noncomputable def nameOfE (e : Expr) : Str := if h : e.ctorIdx = 23 then Expr.Name.elim (motive_1 := fun _ => Str) e h fun x _ => x else s ""
noncomputable def chkSwap (k : Ck) (tg : List Expr) (v : Expr) : Bool := (pur (swappedStores tg v (envS k.sc))).any fun r => r.isNone || onSome r fun ns => onOne tg fun t => onTuple t fun el _ _ => ns == el.map nameOfE
end
section
noncomputable def chkNs (k : Ck) : List Nat → List Expr → Bool
 | [], es => es.isEmpty
 | j :: js, es => onCons es fun e r => onName e fun x _ => k.names[j]? == some x && (k.isLoc x && chkNs k js r)
noncomputable def chkT1 (k : Ck) : TT → Expr → Bool
 | .loc j, e => onName e fun x _ => k.names[j]? == some x && k.isLoc x
 | .attr a n, e => onAttribute e fun v n' _ => n == n' && chkE k a v
 | .sub a i, e => onSubscript e fun v sl _ => sl.ctorIdx != 26 && (chkE k a v && chkE k i sl)
 | .tup js, e => onTuple e fun es _ _ => chkNs k js es && decide js.Nodup
noncomputable def chkTs (k : Ck) : List TT → List Expr → Bool
 | [], es => es.isEmpty
 | t :: ts, es => onCons es fun e r => e.ctorIdx != 22 && (chkT1 k t e && chkTs k ts r)
mutual
noncomputable def chkS (k : Ck) : TS → Stmt → Bool
 | .expr e, st => onSExpr st fun v p => pur (swapsWith v none p.line (envS k.sc)) == some false && chkE k e v
 | .assign ts e, st => onSAssign st fun tg v p => pur (swapsWithSole tg v p.line (envS k.sc)) == some false && (chkTs k ts tg && (chkE k e v && chkSwap k tg v))
 | .aug j op e, st => onSAugAssign st fun tg op' v _ => onName tg fun x _ => op == op' && (k.names[j]? == some x && (k.sc.names.lookup x == some .local && chkE k e v))
 | .augA o n op e, st => onSAugAssign st fun tg op' v _ => onAttribute tg fun w n' _ => op == op' && (n == n' && (chkE k o w && chkE k e v))
 | .ret e, st => onSReturn st fun v _ => chkO k e v
 | .brk, st => onSBreak st fun _ => true
 | .cont, st => onSContinue st fun _ => true
 | .pass, st => onSPass st fun _ => true
 | .ite t a b, st => onSIf st fun t' a' b' _ => chkE k t t' && (chkSs k a a' && chkSs k b b')
 | .loop t b o, st => onSWhile st fun t' b' o' _ => chkE k t t' && (chkSs k b b' && chkSs k o o')
 | .each t it b, st => onSFor st fun tg i b' o _ => o.isEmpty && (i.ctorIdx != 7 && (chkT1 k t tg && (chkE k it i && chkSs k b b')))
 | .del e i, st => onSDelete st fun ts _ => onOne ts fun x => onSubscript x fun v sl _ => chkE k e v && chkE k i sl
 | .never, _ => true
 | .doc, st => onSExpr st fun v _ => onConstant v fun x _ _ => onCStr x fun _ => true
 | .sem p, st => p st
noncomputable def chkSs (k : Ck) : List TS → List Stmt → Bool
 | [], ss => ss.isEmpty
 | t :: ts, ss => onCons ss fun st r => chkS k t st && chkSs k ts r
end
end
section
section
variable {k : Ck} {c : Cx} {A : Around}
theorem PostU.up {W W' : Wd} {Q : St → Prop} {st : Shared} {u : Unit} (x : Ext W W') (h : PostU c W' Q u st) : PostU c W Q u st := by cases h with | mk σ' ρ' a d e => exact ⟨σ', ρ', a, x.trans d, e⟩
theorem wpU {W : Wd} {st : Shared} {E : Value → Shared → Prop} {t : Sem Unit} {Q : St → Prop} {R : Unit → Shared → Prop} (h : wpAny (MM c) A t (PostU c W Q) noExc st) (i : ∀ u s σ' ρ', Den c σ' ρ' s → Ext W (wd c σ' ρ' s) → Q σ' → R u s) : wpAny (MM c) A t R E st :=
 noted h fun v s p => by cases p with | mk σ' ρ' a d e => exact i v s σ' ρ' a d e
theorem store_any {σ : St} {ρ : Nat → Int → Addr} {st : Shared} {j : Nat} {x : Str} {v : Value} {X : V} {Q : Unit → Shared → Prop} (F : Fit k c) (hj : k.names[j]? = some x) (hl : k.isLoc x = true) (hs : ∃ ov, σ.loc[j]? = some ov)
  (D : Den c σ ρ st) (r : VR (wd c σ ρ st) X v)
  (h : ∀ st', Den c (σ.set j X) ρ st' → Ext (wd c σ ρ st) (wd c (σ.set j X) ρ st') → Q () st') : wpAny (MM c) A (storeName c.env x v) Q noExc st := by
 refine isLoc_e hl (fun hl => store_tail F hj hl D r h) fun hl => ?_
 obtain ⟨m, hn, l⟩ := D.loc
 obtain ⟨ov, hov⟩ := hs
 have lr := LocsR.get (by rw [F.names]; exact hj) hov l
 have hk' : c.env.kindOf x = some .cell := by rw [F.kindOf, hl]
 refine lr.cell0 hk' fun ca o v₀ hc g dt => wpAny_storeName_cell F.kd hk' hc ⟨o, g, dt⟩ fun h' e sb => ?_
 obtain ⟨o', g', dt'⟩ := e
 have D' := D.storeCell (st' := { st with heap := h' }) (by rw [F.names]; exact F.nodup) (by rw [F.names]; exact hj) hk' hc r sb g' dt' rfl rfl
 unfold St.set at h
 rw [stl_eq] at h
 exact h _ D'.1 D'.2
theorem LocsR.length {W : Wd} {env : Env} {m : Str → Option Value} {ns : List Str} {vs : List (Option V)} (h : LocsR W env m ns vs) : vs.length = ns.length := by
 induction ns generalizing vs with
 | nil => have e : vs = [] := h; subst e; rfl
 | cons n ns ih => exact h.cons fun v r e _ h' => by subst e; exact congrArg (· + 1) (ih h')
theorem Den.has {σ : St} {ρ : Nat → Int → Addr} {st : Shared} (D : Den c σ ρ st) (F : Fit k c) {j : Nat} {x : Str} (hj : k.names[j]? = some x) : ∃ ov, σ.loc[j]? = some ov := by
 obtain ⟨m, _, l⟩ := D.loc
 have e := LocsR.length l
 rw [F.names] at e
 have : j < σ.loc.length := by
  rw [e]
  exact (List.getElem?_eq_some_iff.mp hj).1
 exact ⟨_, List.getElem?_eq_getElem this⟩
theorem names_tail (F : Fit k c) {js : List Nat} {es : List Expr} (h : chkNs k js es = true) {σ : St} {xs : List V} {vs : List Value} {ρ : Nat → Int → Addr} {st : Shared} {Q : St → Prop} (D : Den c σ ρ st) (r : VRs (wd c σ ρ st) xs vs)
  (q : bindK js xs σ Q) : wpAny (MM c) A (assignInOrder ((assignEach es c.env).map (·.2)) vs) (PostU c (wd c σ ρ st) Q) noExc st := by
 induction js generalizing es σ xs vs st with
 | nil =>
  rw [nil_e (P := fun es => es = []) h rfl]
  cases xs with
  | nil => exact wpAny_pure ⟨σ, ρ, D, .refl _, q⟩
  | cons _ _ => exact q.elim
 | cons j js ih =>
  refine onCons_e (P := fun es => wpAny (MM c) A (assignInOrder ((assignEach es c.env).map (·.2)) vs) (PostU c (wd c σ ρ st) Q) noExc st) h fun e es' h => onName_e (P := fun e => wpAny (MM c) A (assignInOrder ((assignEach (e :: es') c.env).map (·.2)) vs) (PostU c (wd c σ ρ st) Q) noExc st) h fun x p h => and_e h fun hj h => and_e h fun hloc hr => ?_
  cases xs with
  | nil => exact q.elim
  | cons X xs =>
   refine r.e_cons fun v vs' e rx rs => ?_
   subst e
   show wpAny (MM c) A (holding vs' (assign (.Name x p) c.env v) >>= fun _ => assignInOrder ((assignEach es' c.env).map (·.2)) vs') _ _ st
   refine wpAny_bind (wpAny_holding (wpAny_assign_Name (store_any F (eq_of_beq hj) hloc (D.has F (eq_of_beq hj)) D rx fun st' D' x' => ?_)))
   exact noE (ih hr D' (VRs.ext x' _ _ rs) q) fun _ _ P => P.up x'
theorem bindK_len {js : List Nat} {xs : List V} {σ : St} {Q : St → Prop} (q : bindK js xs σ Q) : xs.length = js.length ∧ Q (σ.sets js xs) := by
 induction js generalizing xs σ with
 | nil =>
  cases xs with
  | nil => exact ⟨rfl, q⟩
  | cons _ _ => exact q.elim
 | cons j js ih =>
  cases xs with
  | nil => exact q.elim
  | cons X xs => exact ⟨congrArg (· + 1) (ih q).1, (ih q).2⟩
theorem names_plain {js : List Nat} {es : List Expr} (env : Env) (h : chkNs k js es = true) : (assignEach es env).findIdx? (·.1) = none ∧ (assignEach es env).length = js.length := by
 induction js generalizing es with
 | nil => exact nil_e (P := fun es => (assignEach es env).findIdx? (·.1) = none ∧ (assignEach es env).length = 0) h ⟨rfl, rfl⟩
 | cons j js ih =>
  refine onCons_e (P := fun es => (assignEach es env).findIdx? (·.1) = none ∧ (assignEach es env).length = js.length + 1) h fun e es' h => onName_e (P := fun e => (assignEach (e :: es') env).findIdx? (·.1) = none ∧ (assignEach (e :: es') env).length = js.length + 1) h fun x p h => and_e h fun _ h => and_e h fun _ hr => ?_
  obtain ⟨a, b⟩ := ih hr
  refine ⟨?_, congrArg (· + 1) b⟩
  show List.findIdx? (·.1) ((false, assign (.Name x p) env) :: assignEach es' env) = none
  rw [List.findIdx?_cons, a]; rfl
theorem unp_tup {σ : St} {xs : List V} {n : Nat} {Q : List V → St → Prop} (hh : A.handled = none) (hn : xs.length = n) (q : Q xs σ) : Unp c A σ (.tup xs) n Q := fun ρ st x D r => by
 obtain ⟨a, o, vs, m, rfl, g, hc, hd, rs⟩ := r
 have len : vs.size = n := by have := VRs.length rs; simp at this; grind
 rw [← len]
 refine wpAny_unpackItems_tuple hh ⟨o, g, hc, m, hd⟩ fun h' kb => ?_
 obtain ⟨D', x'⟩ := D.keeps (st' := { st with heap := h' }) (fun b o hb => kb b o (Nat.ne_of_lt (Heap.lt_size hb)) hb) rfl rfl
 exact ⟨xs, σ, ρ, D', VRs.ext x' _ _ rs, x', q⟩
theorem unpK_ok (hh : A.handled = none) {ks : List Nat} {X : V} {σ : St} {Q : St → Prop} (q : unpK c A ks X σ Q) : Unp c A σ X ks.length fun xs σ₁ => bindK ks xs σ₁ Q := by
 cases X
 case tup xs => exact unp_tup hh (bindK_len q).1 q
 all_goals exact q
noncomputable abbrev AsE (c : Cx) (A : Around) (σ : St) (X : V) (Q : St → Prop) (e : Expr) : Prop := ∀ ρ st v, Den c σ ρ st → VR (wd c σ ρ st) X v → wpAny (MM c) A (assign e c.env v) (PostU c (wd c σ ρ st) Q) noExc st
theorem sndT1 (F : Fit k c) (hh : A.handled = none) {t : TT} {e : Expr} (h : chkT1 k t e = true) {X : V} {σ : St} {Q : St → Prop} (q : vcT1 c A t X σ Q) : AsE c A σ X Q e := by
 cases t with
 | loc j => exact onName_e (P := AsE c A σ X Q) h fun x p h => and_e h fun hj hl ρ st v D r => wpAny_assign_Name (store_any F (eq_of_beq hj) hl (D.has F (eq_of_beq hj)) D r fun st' D' x' => ⟨_, ρ, D', x', q⟩)
 | attr a n =>
  refine onAttribute_e (P := AsE c A σ X Q) h fun w n' p h => and_e h fun hn ha ρ st v D r => ?_
  cases eq_of_beq hn
  rw [arm_assign_Attribute]
  exact wpAny_bind (wpAny_holding (wpP (sndE F a w ha σ _ q ρ st D) fun va s₁ Y σ₁ ρ₁ D₁ ry x₁ q₁ => wpAny_bind (wpAny_standAt (wpAny_bind (wpAny_holding (noE (q₁ ρ₁ s₁ va v D₁ ry (r.ext x₁ _ _)) fun _ _ P => wpAny_release (P.up x₁)))))))
 | sub a i =>
  refine onSubscript_e (P := AsE c A σ X Q) h fun w sl p h => and_e h fun hs h => and_e h fun ha hi ρ st v D r => ?_
  rw [arm_assign_Subscript]
  exact wpAny_bind (wpAny_holding (wpP (sndE F a w ha σ _ q ρ st D) fun va s₁ Y σ₁ ρ₁ D₁ ry x₁ q₁ => wpAny_bind (wpAny_holding (wpP (sndE F i sl hi σ₁ _ q₁ ρ₁ s₁ D₁) fun vi s₂ I σ₂ ρ₂ D₂ ri x₂ q₂ => wpAny_bind (wpAny_standAt (wpAny_bind (wpAny_holding
   (noE (q₂ ρ₂ s₂ va vi v D₂ (ry.ext x₂ _ _) ri (VR.ext (x₁.trans x₂) _ _ r)) fun _ _ P => wpAny_release (P.up (x₁.trans x₂))))))))))
 | tup js =>
  refine onTuple_e (P := AsE c A σ X Q) h fun es x p h => and_e h fun hn _ ρ st v D r => ?_
  obtain ⟨h1, h2⟩ := names_plain c.env hn
  rw [arm_assign_Tuple]
  refine wpAny_bind (wpAny_standAt ?_)
  unfold unpack
  rw [h1, h2]
  exact wpAny_bind (wpAny_holding (wpVs (unpK_ok hh q ρ st v D r) fun vs s₁ xs σ₁ ρ₁ D₁ rs x₁ q₁ => noE (names_tail F hn D₁ rs q₁) fun _ _ P => P.up x₁))
noncomputable abbrev AsL (c : Cx) (A : Around) (σ : St) (X : V) (Q : St → Prop) (es : List Expr) : Prop := ∀ ρ st v, Den c σ ρ st → VR (wd c σ ρ st) X v → wpAny (MM c) A (assignAll v ((assignEach es c.env).map (·.2))) (PostU c (wd c σ ρ st) Q) noExc st
theorem assignEach_cons {e : Expr} {es : List Expr} {env : Env} (h : (e.ctorIdx != 22) = true) : (assignEach (e :: es) env).map (·.2) = assign e env :: (assignEach es env).map (·.2) := by
 cases e <;> first | rfl | cases h
theorem sndTs (F : Fit k c) (hh : A.handled = none) {ts : List TT} {es : List Expr} (h : chkTs k ts es = true) {X : V} {σ : St} {Q : St → Prop} (q : vcTs c A ts X σ Q) : AsL c A σ X Q es := by
 induction ts generalizing es σ with
 | nil => exact nil_e (P := AsL c A σ X Q) h fun ρ st v D r => wpAny_pure ⟨σ, ρ, D, .refl _, q⟩
 | cons t ts ih =>
  refine onCons_e (P := AsL c A σ X Q) h fun e es' h => and_e h fun hs h => and_e h fun ht hr ρ st v D r => ?_
  rw [assignEach_cons hs]
  have step := sndT1 F hh ht q ρ st v D r
  cases ts with
  | nil => rw [nil_e (P := fun es => es = []) hr rfl]; exact step
  | cons t2 ts2 =>
   have next := @ih
   revert hr
   refine fun hr => onCons_e (P := fun es' => chkTs k (t2 :: ts2) es' = true → wpAny (MM c) A (assignAll v (assign e c.env :: (assignEach es' c.env).map (·.2))) (PostU c (wd c σ ρ st) Q) noExc st) hr (fun e2 es2 h2 hr => and_e h2 fun hs2 _ => ?_) hr
   rw [assignEach_cons hs2]
   show wpAny (MM c) A (holding [v] (assign e c.env v) >>= fun _ => assignAll v (assign e2 c.env :: (assignEach es2 c.env).map (·.2))) _ _ st
   refine wpAny_bind (wpAny_holding (wpU step fun _ s₁ σ₁ ρ₁ D₁ x₁ q₁ => ?_))
   rw [← assignEach_cons hs2]
   exact noE (next hr q₁ ρ₁ s₁ v D₁ (r.ext x₁ _ _)) fun _ _ P => P.up x₁
end
end
section
theorem St.set_comm (σ : St) {i j : Nat} (h : i ≠ j) (x y : V) : (σ.set i x).set j y = (σ.set j y).set i x := by
 simp only [St.set, stl_eq]
 rw [List.set_comm _ _ h]
theorem St.sets_app {js : List Nat} {xs : List V} (σ : St) (j : Nat) (x : V) (h : xs.length = js.length) : σ.sets (js ++ [j]) (xs ++ [x]) = (σ.sets js xs).set j x := by
 induction js generalizing xs σ with
 | nil => cases xs with
  | nil => rfl
  | cons _ _ => cases h
 | cons i js ih => cases xs with
  | nil => cases h
  | cons y xs => exact ih (σ.set i y) (Nat.succ.inj h)
theorem St.set_sets {js : List Nat} {xs : List V} (σ : St) (j : Nat) (x : V) (h : j ∉ js) : (σ.set j x).sets js xs = (σ.sets js xs).set j x := by
 induction js generalizing xs σ with
 | nil => rfl
 | cons i js ih => cases xs with
  | nil => rfl
  | cons y xs =>
   rw [List.mem_cons, not_or] at h
   show ((σ.set j x).set i y).sets js xs = ((σ.set i y).sets js xs).set j x
   rw [σ.set_comm h.1, ih (σ.set i y) h.2]
theorem St.sets_rev {js : List Nat} {xs : List V} (σ : St) (hn : js.Nodup) (h : xs.length = js.length) : σ.sets js.reverse xs.reverse = σ.sets js xs := by
 induction js generalizing xs σ with
 | nil => cases xs with
  | nil => rfl
  | cons _ _ => cases h
 | cons j js ih => cases xs with
  | nil => cases h
  | cons x xs =>
   rw [List.nodup_cons] at hn
   have h' : xs.length = js.length := Nat.succ.inj h
   rw [List.reverse_cons, List.reverse_cons, St.sets_app _ _ _ (by rw [List.length_reverse, List.length_reverse, h']), ih σ hn.2 h']
   exact (St.set_sets σ j x hn.1).symm
theorem VRs.rev {W : Wd} {Xs : List V} {vs : List Value} (h : VRs W Xs vs) : VRs W Xs.reverse vs.reverse := by
 induction Xs generalizing vs with
 | nil => have e : vs = [] := h; subst e; rfl
 | cons X Xs ih => exact h.e_cons fun v r e a b => by subst e; rw [List.reverse_cons, List.reverse_cons]; exact VRs.app (ih b) ⟨v, [], rfl, a, rfl⟩
section
variable {k : Ck} {c : Cx} {A : Around}
theorem binds_tail (F : Fit k c) {ps : List (Nat × Str)} (h : ∀ p ∈ ps, k.names[p.1]? = some p.2 ∧ k.isLoc p.2 = true) {σ : St} {xs : List V} {vs : List Value} {ρ : Nat → Int → Addr} {st : Shared} {Q : St → Prop} (hl : xs.length = ps.length) (D : Den c σ ρ st)
  (r : VRs (wd c σ ρ st) xs vs) (q : Q (σ.sets (ps.map (·.1)) xs)) : wpAny (MM c) A (assignInOrder (ps.map fun p => bindName c.env p.2) vs) (PostU c (wd c σ ρ st) Q) noExc st := by
 induction ps generalizing σ xs vs st with
 | nil => cases xs with
  | nil => exact wpAny_pure ⟨σ, ρ, D, .refl _, q⟩
  | cons _ _ => cases hl
 | cons p ps ih => cases xs with
  | nil => cases hl
  | cons X xs =>
   refine r.e_cons fun v vs' e rx rs => ?_
   subst e
   have hj := h p (.head _)
   show wpAny (MM c) A (holding vs' (bindName c.env p.2 v) >>= fun _ => assignInOrder (ps.map fun p => bindName c.env p.2) vs') _ _ st
   refine wpAny_bind (wpAny_holding ?_)
   unfold bindName
   refine wpAny_bind (wpAny_holding (wpAny_point (wpAny_bind (store_any F hj.1 hj.2 (D.has F hj.1) D rx fun st' D' x' => wpAny_point ?_))))
   exact noE (ih (fun p hp => h p (.tail _ hp)) (Nat.succ.inj hl) D' (VRs.ext x' _ _ rs) q) fun _ _ P => P.up x'
theorem nameOf_eq {x : Str} {p : Pos} : nameOfE (.Name x p) = x := rfl
theorem chkns_pairs {js : List Nat} {es : List Expr} (h : chkNs k js es = true) : js.length = es.length ∧ ∀ p ∈ js.zip (es.map nameOfE), k.names[p.1]? = some p.2 ∧ k.isLoc p.2 = true := by
 induction js generalizing es with
 | nil => exact nil_e (P := fun es => 0 = es.length ∧ ∀ p ∈ [].zip (es.map nameOfE), k.names[p.1]? = some p.2 ∧ k.isLoc p.2 = true) h ⟨rfl, fun _ hp => nomatch hp⟩
 | cons j js ih =>
  refine onCons_e (P := fun es => js.length + 1 = es.length ∧ ∀ p ∈ (j :: js).zip (es.map nameOfE), k.names[p.1]? = some p.2 ∧ k.isLoc p.2 = true) h fun e r h => onName_e (P := fun e => js.length + 1 = (e :: r).length ∧ ∀ p ∈ (j :: js).zip ((e :: r).map nameOfE), k.names[p.1]? = some p.2 ∧ k.isLoc p.2 = true) h fun x p h => and_e h fun h1 h => and_e h fun h2 hr => ?_
  refine ⟨congrArg (· + 1) (ih hr).1, fun q hq => ?_⟩
  rw [List.map_cons, List.zip_cons_cons, List.mem_cons] at hq
  rcases hq with e | hq
  ·subst e; exact ⟨eq_of_beq h1, h2⟩
  ·exact (ih hr).2 q hq
theorem PostF.up {W W' : Wd} {K : Kt} {st : Shared} {f : Flow} (x : Ext W W') (h : PostF c W' K f st) : PostF c W K f st := by
 cases f with
 | next => exact PostU.up x h
 | brk => exact PostU.up x h
 | cont => exact PostU.up x h
 | ret v => exact Post.up x h
theorem snd_assign (F : Fit k c) (hh : A.handled = none) {ts : List TT} {a : TE} {tg : List Expr} {v : Expr} {p : Pos} (hc : pur (swapsWithSole tg v p.line (envS k.sc)) = some false) (ht : chkTs k ts tg = true) (ha : chkE k a v = true) (hs : chkSwap k tg v = true) (σ : St) (K : Kt)
  (q : vcE c A a σ fun X σ₁ => vcTs c A ts X σ₁ K.next) : Ex c A σ (exec (.Assign tg v p) c.env) K := fun ρ st D => by
 rw [exec_Assign_arm]
 refine wpAny_bind (wpAny_standAt ?_)
 rw [sole_env, F.sc, pur_e hc]
 refine wpAny_bind (wpAny_pure ?_)
 rw [if_neg (by decide)]
 refine wpAny_bind (wpP (sndE F a v ha σ _ q ρ st D) fun va s₁ X σ₁ ρ₁ D₁ rx x₁ q₁ => ?_)
 rw [stores_env, F.sc]
 unfold chkSwap at hs
 obtain ⟨r, hr, hs⟩ := (Option.any_eq_true _ _).mp hs
 rw [pur_e hr]
 refine wpAny_bind (wpAny_pure ?_)
 cases r with
 | none => exact wpAny_bind (wpU (sndTs F hh ht q₁ ρ₁ s₁ va D₁ rx) fun _ s₂ σ₂ ρ₂ D₂ x₂ q₂ => wpAny_pure ⟨σ₂, ρ₂, D₂, x₁.trans x₂, q₂⟩)
 | some ns =>
  have hs : (onOne tg fun t => onTuple t fun el _ _ => ns == el.map nameOfE) = true := hs
  revert ht
  refine onOne_e (P := fun tg => chkTs k ts tg = true → wpAny (MM c) A (assignStores c.env va (some ns) ((assignEach tg c.env).map (·.2))) (PostF c (wd c σ ρ st) K) noExc s₁) hs fun t hs => onTuple_e (P := fun t => chkTs k ts [t] = true → wpAny (MM c) A (assignStores c.env va (some ns) ((assignEach [t] c.env).map (·.2))) (PostF c (wd c σ ρ st) K) noExc s₁) hs fun el ea ep hs ht => ?_
  cases eq_of_beq hs
  cases ts with
  | nil => cases ht
  | cons t1 ts' =>
   have ht : ((Expr.Tuple el ea ep).ctorIdx != 22 && (chkT1 k t1 (.Tuple el ea ep) && chkTs k ts' [])) = true := ht
   refine and_e ht fun _ ht => and_e ht fun ht1 ht2 => ?_
   cases ts' with
   | cons _ _ => cases ht2
   | nil =>
    cases t1 with
    | loc j => cases ht1
    | attr a n => cases ht1
    | sub a i => cases ht1
    | tup js =>
     have ht1 : (chkNs k js el && decide js.Nodup) = true := ht1
     refine and_e ht1 fun hns hnd => ?_
     obtain ⟨hlen, hps⟩ := chkns_pairs hns
     unfold assignStores
     refine wpAny_bind (wpAny_rule ?_)
     have q₁' := unpK_ok hh q₁ ρ₁ s₁ va D₁ rx
     have hl2 : (el.map nameOfE).length = js.length := by rw [List.length_map, hlen]
     rw [hl2]
     refine wpAny_bind (wpVs q₁' fun vs' s₂ xs σ₂ ρ₂ D₂ rs x₂ q₂ => ?_)
     obtain ⟨hxl, q₂⟩ := bindK_len q₂
     have zl : (js.zip (el.map nameOfE)).map (·.1) = js := List.map_fst_zip (Nat.le_of_eq hl2.symm)
     have zr : (js.zip (el.map nameOfE)).map (·.2) = el.map nameOfE := List.map_snd_zip (Nat.le_of_eq hl2)
     have bt := binds_tail F (A := A) (ps := (js.zip (el.map nameOfE)).reverse) (fun p hp => hps p (List.mem_reverse.mp hp)) (xs := xs.reverse) (vs := vs'.reverse) (Q := K.next) (by rw [List.length_reverse, List.length_reverse, hxl, ← zl, List.length_map, zl]) D₂ (VRs.rev rs)
      (by rw [List.map_reverse, zl, St.sets_rev _ (of_decide_eq_true hnd) hxl]; exact q₂)
     have e5 : (js.zip (el.map nameOfE)).reverse.map (fun p => bindName c.env p.2) = (el.map nameOfE).reverse.map (fun n => bindName c.env n) := by
      rw [List.map_reverse, List.map_reverse]
      conv => rhs; rw [← zr, List.map_map]
      rfl
     rw [e5] at bt
     exact wpAny_bind (wpU bt fun _ s₃ σ₃ ρ₃ D₃ x₃ q₃ => wpAny_pure ⟨σ₃, ρ₃, D₃, x₁.trans (x₂.trans x₃), q₃⟩)
end
end
section
section
variable {c : Cx} {σ : St} {ρ : Nat → Int → Addr} {st st' : Shared}
theorem Den.asides (D : Den c σ ρ st) {T : Addr → Prop} (S : ∀ a, T a → Aside c σ ρ a) (hi : ∀ a, T a → ∀ o, st.heap.get? a = some o → ¬ Imm o) (kk : ∀ b o, ¬ T b → st.heap.get? b = some o → st'.heap.get? b = some o) (hg : st'.gens = st.gens) (ho : st'.os = st.os) :
  Den c σ ρ st' ∧ Ext (wd c σ ρ st) (wd c σ ρ st') := by
 have x : Ext (wd c σ ρ st) (wd c σ ρ st') := ⟨fun _ _ h => h, fun _ _ _ => rfl, fun b o h m => kk b o (fun t => absurd m (hi b t o h)) h⟩
 have n0 : ∀ {b o}, c.h0.get? b = some o → ¬ T b := fun h t => by rw [(S _ t).h0] at h; cases h
 refine ⟨⟨hg.trans D.gens, ho.trans D.os, fun b o h f => (D.keep b o h f).step fun ob => kk b ob (n0 h), fun b o h => kk b o (fun t => ?_) (D.top b o h), fun b o h => ?_, fun i y o h => (D.objs i y o h).ext x rfl (fun ob => kk _ ob (fun t => (S _ t).ref i y (by rw [h]; rfl) rfl)), D.inj, D.new, ?_, D.frame, D.fsep, fun y ca h => ?_, D.cnodup, fun L hL => ?_⟩, x⟩
 ·rw [(S b t).h1] at h; cases h
 ·obtain ⟨o1, g1⟩ := D.alive b o h
  exact ⟨o1, kk b o1 (n0 h) g1⟩
 ·obtain ⟨m, n, l⟩ := D.loc
  refine ⟨m, ?_, l.ext x (fun y ca o q g => kk ca o (fun t => (S ca t).cell y (lookup_mem q)) g) _ _⟩
  obtain ⟨o, es, ep, g, q⟩ := n
  exact ⟨o, es, ep, kk _ _ (fun t => (S _ t).frame rfl) g, q⟩
 ·obtain ⟨a', b, d, o, v, g, e⟩ := D.cells y ca h
  exact ⟨a', b, d, o, v, kk _ _ (fun t => (S ca t).cell y h) g, e⟩
 ·obtain ⟨a', b, d, e, o, es, ep, g, q⟩ := D.outs L hL
  exact ⟨a', b, d, e, o, es, ep, kk _ _ (fun t => (S _ t).outs hL) g, q⟩
theorem Den.aside (D : Den c σ ρ st) {a : Addr} (S : Aside c σ ρ a) (hi : ∀ o, st.heap.get? a = some o → ¬ Imm o) (kk : Heap.ExtBut a st.heap st'.heap) (hg : st'.gens = st.gens) (ho : st'.os = st.os) :
  Den c σ ρ st' ∧ Ext (wd c σ ρ st) (wd c σ ρ st') := D.asides (T := fun b => b = a) (fun b e => e ▸ S) (fun b e => e ▸ hi) kk hg ho
theorem Aside.next {σ' : St} {ρ' : Nat → Int → Addr} {a : Addr} {o : Obj} (S : Aside c σ ρ a) (g : st.heap.get? a = some o) (D : Den (c.now σ ρ st) σ' ρ' st') : Aside c σ' ρ' a ∧ st'.heap.get? a = some o := by
 refine ⟨⟨S.h0, S.h1, fun i x d e => ?_, S.frame, S.cell, S.outs⟩, D.rest g (fun i x d e => S.ref i x d e.symm) (fun e => S.frame e.symm) S.cell S.outs⟩
 rcases (D.new i x d).1 with h | q
 ·rcases h with h | e' | h
  ·obtain ⟨i', x', d', e'⟩ := h; exact S.ref i' x' d' (by rw [← e', e])
  ·exact S.frame (by rw [← e', e])
  ·obtain ⟨y, hy⟩ := h; rw [e] at hy; exact S.cell y hy
 ·have q' : st.heap.get? (ρ' i x) = none := q
  rw [e, g] at q'; cases q'
end
section
variable {k : Ck} {c : Cx} {A : Around}
theorem Fit.at (F : Fit k c) (h0 : Heap) (ft : Addr → Prop) : Fit k (c.at h0 ft) := ⟨F.names, F.nodup, F.sc, F.kind, F.glob, F.blt, F.top⟩
end
end
section
structure Walker (c : Cx) (A : Around) (W0 : Wd) (X : V) (xs : List V) (ep : Nat) (v : Value) (a : Addr) (IT : Nat → Heap → Prop) : Prop where
 stay : ∀ j h h', IT j h → (∀ o, h.get? a = some o → h'.get? a = some o) → IT j h'
 here : ∀ j h, IT j h → ∃ o, h.get? a = some o ∧ ¬ Imm o
 item : ∀ h0 ft j σ ρ st Y, Den (c.at h0 ft) σ ρ st → Ext W0 (wd c σ ρ st) → VR (wd c σ ρ st) X v → seqOf X σ.H = some (xs, ep) → IT j st.heap → xs[j]? = some Y → ∀ R : Option Value → Shared → Prop,
  (∀ y st', VR (wd c σ ρ st) Y y → IT (j + 1) st'.heap → Heap.ExtBut a st.heap st'.heap → st'.gens = st.gens → st'.os = st.os → R (some y) st') → wpAny (MM c) A (pyNext (.ref a)) R noExc st
 stop : ∀ h0 ft j σ ρ st, Den (c.at h0 ft) σ ρ st → Ext W0 (wd c σ ρ st) → VR (wd c σ ρ st) X v → seqOf X σ.H = some (xs, ep) → IT j st.heap → xs[j]? = none → ∀ R : Option Value → Shared → Prop,
  (∀ st', Heap.ExtBut a st.heap st'.heap → st'.gens = st.gens → st'.os = st.os → R none st') → wpAny (MM c) A (pyNext (.ref a)) R noExc st
 self : ∀ j st, IT j st.heap → ∀ R : Value → Shared → Prop, R (.ref a) st → wpAny (MM c) A (pyIter (.ref a)) R noExc st
 lot : ∀ j st tg y, IT j st.heap → ∀ R : Unit → Shared → Prop, R () st → wpAny (MM c) A (letOwnedTupleGo tg (.ref a) y) R noExc st
noncomputable def lotIds : List String := ["enumerate", "zip", "dict_itemiterator", "dict_reverseitemiterator", "odict_iterator", "itertools.zip_longest", "itertools.pairwise"]
theorem lot_tup {c : Cx} {A : Around} {st : Shared} {es : List Expr} {k : Nat} {p : Pos} {a : Addr} {y : Value} {o : Obj} {n : String} {vs : Array Value} {R : Unit → Shared → Prop} (ho : st.heap.get? a = some o) (hc : o.cls = .type n) (hd : o.data = .fields vs) (hn : lotIds.contains n = false) (h : R () st) :
  wpAny (MM c) A (letOwnedTupleGo (.Tuple es k p) (.ref a) y) R noExc st := by
 have main : ∀ b, wpAny (MM c) A (letOwnedTupleGo (.Tuple es k p) (.ref a) (.ref b)) R noExc st := fun b => by
  unfold letOwnedTupleGo
  refine wpAny_bind (wpAny_load ho ?_)
  rw [hc, hd]
  show wpAny _ A (if (lotIds.contains n && vs[0]? == some (rawInt b)) = true then _ else _) R _ st
  rw [hn, Bool.false_and, if_neg Bool.false_ne_true]
  exact wpAny_pure h
 cases y <;> first | exact main _ | exact wpAny_pure h
theorem lot_plain {c : Cx} {A : Around} {st : Shared} {tg : Expr} {a : Addr} {y : Value} {o : Obj} {n : String} {vs : Array Value} {R : Unit → Shared → Prop} (ho : st.heap.get? a = some o) (hc : o.cls = .type n) (hd : o.data = .fields vs) (hn : lotIds.contains n = false) (h : R () st) :
  wpAny (MM c) A (letOwnedTupleGo tg (.ref a) y) R noExc st := by
 cases tg <;> first | exact wpAny_pure h | exact lot_tup (es := []) (k := 0) (p := ⟨0, 0, 0, 0⟩) ho hc hd hn h
theorem VRs.at {W : Wd} {Xs : List V} {vs : List Value} (j : Nat) (h : VRs W Xs vs) : (∀ X, Xs[j]? = some X → ∃ v, vs[j]? = some v ∧ VR W X v) ∧ (Xs[j]? = none → vs[j]? = none) :=
 ⟨fun X e => VRs.get e h, fun e => by rw [List.getElem?_eq_none_iff] at e ⊢; rw [VRs.length h]; exact e⟩
theorem DRs.e_cons {W : Wd} {k : Int} {X : V} {r : List (Int × V)} {ks : List (Int × Value)} {C : Prop} (h : DRs W ((k, X) :: r) ks) (i : ∀ v r', ks = (k, v) :: r' → VR W X v → DRs W r r' → C) : C := by
 obtain ⟨v, r', e, a, b⟩ := h
 exact i v r' e a b
theorem DRs.length {W : Wd} {es : List (Int × V)} {ks : List (Int × Value)} (h : DRs W es ks) : ks.length = es.length := by
 induction es generalizing ks with
 | nil => have e : ks = [] := h; subst e; rfl
 | cons p es ih => exact h.e_cons fun v r e _ b => by subst e; exact congrArg (· + 1) (ih b)
theorem DRs.get {W : Wd} {es : List (Int × V)} {ks : List (Int × Value)} {j : Nat} {p : Int × V} (h : DRs W es ks) (e : es[j]? = some p) : ∃ v, ks[j]? = some (p.1, v) ∧ VR W p.2 v := by
 induction es generalizing ks j with
 | nil => cases e
 | cons q es ih =>
  refine h.e_cons fun v r e' a b => ?_
  subst e'
  cases j with
  | zero => cases e; exact ⟨v, rfl, a⟩
  | succ j => exact ih (ks := r) (j := j) b e
theorem DRs.no_at {W : Wd} {es : List (Int × V)} {ks : List (Int × Value)} {j : Nat} (h : DRs W es ks) (e : es[j]? = none) : ks[j]? = none := by
 rw [List.getElem?_eq_none_iff] at e ⊢; rw [DRs.length h]; exact e
theorem Den.notSys {c : Cx} {σ : St} {ρ : Nat → Int → Addr} {st : Shared} (D : Den c σ ρ st) (top : (Internal.K c.w.params).In c.h1) {i : Nat} {x : Int} (h : (σ.H.get i x).isSome = true) : (ρ i x == sysModules) = false :=
 beq_eq_false_iff_ne.mpr fun e => by
  have n := (D.new i x h).2
  rw [show ρ i x = 1 from e, top 1 _ rfl] at n
  cases n
theorem range_small {a b : Int} (h : 0 ≤ a ∧ a ≤ 1000000 ∧ 0 ≤ b ∧ b ≤ 1000000) : Builtin.Range.small a b 1 = true := by
 unfold Builtin.Range.small
 rw [rangeSize_nat]
 simp only [Builtin.Range.rangeFitsLong]
 simp
 omega
theorem seqOf_ref {i : Nat} {x : Int} {H : AH} {xs : List V} {ep : Nat} {C : Prop} (h : seqOf (.ref i x) H = some (xs, ep)) (k1 : H.get i x = some (.list xs) → ep = 0 → C) (k2 : ∀ es e0, H.get i x = some (.dict es e0) → xs = es.map (fun p => .int p.1) → ep = e0 + 1 → C) : C := by
 have h : (match H.get i x with | some (.list xs) => some (xs, 0) | some (.dict es ep) => some (es.map (fun p => V.int p.1), ep + 1) | _ => none) = some (xs, ep) := h
 cases e : H.get i x with
 | none => rw [e] at h; cases h
 | some o =>
  rw [e] at h
  cases o with
  | list ys => cases h; exact k1 e rfl
  | dict es e0 => cases h; exact k2 es e0 e rfl rfl
  | _ => cases h
theorem seqOf_vals {i : Nat} {x : Int} {H : AH} {xs : List V} {ep : Nat} {C : Prop} (h : seqOf (.vals i x) H = some (xs, ep)) (k : ∀ es e0, H.get i x = some (.dict es e0) → xs = es.map (·.2) → ep = e0 + 1 → C) : C := by
 have h : (match H.get i x with | some (.dict es ep) => some (es.map (fun p : Int × V => p.2), ep + 1) | _ => none) = some (xs, ep) := h
 cases e : H.get i x with
 | none => rw [e] at h; cases h
 | some o =>
  rw [e] at h
  cases o with
  | dict es e0 => cases h; exact k es e0 e rfl rfl
  | _ => cases h
noncomputable def immIds : List String := ["tuple", "builtin_function_or_method", "method-wrapper", "range", "dict_values"]
theorem not_imm {o : Obj} {n : String} {vs : Array Value} (hc : o.cls = .type n) (hd : o.data = .fields vs) (hn : immIds.contains n = false) : ¬ Imm o := fun m => by
 unfold Imm at m
 rw [hc, hd] at m
 have ne : ∀ t, immIds.contains t = true → n ≠ t := fun t ht e => by subst e; rw [hn] at ht; cases ht
 rcases m with m | m | m
 ·obtain ⟨_, vs, k, e⟩ := m; cases e
 ·obtain ⟨e, _⟩ := m
  rcases e with e | e | e | e <;> (cases e; exact ne _ (by decide) rfl)
 ·cases m.2.1
noncomputable def ItAt (a : Addr) (n : String) (F : Nat → Array Value) (j : Nat) (h : Heap) : Prop := ∃ o, h.get? a = some o ∧ o.cls = .type n ∧ o.data = .fields (F j)
section
variable {c : Cx} {A : Around} {W0 : Wd} {X : V} {xs : List V} {ep : Nat} {v : Value} {a : Addr} {n : String} {F : Nat → Array Value}
theorem walker_of (hl : lotIds.contains n = false) (hi : immIds.contains n = false)
  (self : ∀ j st, ItAt a n F j st.heap → ∀ R : Value → Shared → Prop, R (.ref a) st → wpAny (MM c) A (pyIter (.ref a)) R noExc st)
  (item : ∀ h0 ft j σ ρ st Y, Den (c.at h0 ft) σ ρ st → Ext W0 (wd c σ ρ st) → VR (wd c σ ρ st) X v → seqOf X σ.H = some (xs, ep) → ItAt a n F j st.heap → xs[j]? = some Y → ∀ R : Option Value → Shared → Prop,
   (∀ y st', VR (wd c σ ρ st) Y y → ItAt a n F (j + 1) st'.heap → Heap.ExtBut a st.heap st'.heap → st'.gens = st.gens → st'.os = st.os → R (some y) st') → wpAny (MM c) A (pyNext (.ref a)) R noExc st)
  (stop : ∀ h0 ft j σ ρ st, Den (c.at h0 ft) σ ρ st → Ext W0 (wd c σ ρ st) → VR (wd c σ ρ st) X v → seqOf X σ.H = some (xs, ep) → ItAt a n F j st.heap → xs[j]? = none → ∀ R : Option Value → Shared → Prop,
   (∀ st', Heap.ExtBut a st.heap st'.heap → st'.gens = st.gens → st'.os = st.os → R none st') → wpAny (MM c) A (pyNext (.ref a)) R noExc st) : Walker c A W0 X xs ep v a (ItAt a n F) where
 stay := fun j h h' it k => by obtain ⟨o, g, q⟩ := it; exact ⟨o, k o g, q⟩
 here := fun j h it => by obtain ⟨o, g, q⟩ := it; exact ⟨o, g, not_imm q.1 q.2 hi⟩
 item := item
 stop := stop
 self := self
 lot := fun j st tg y it R hR => by obtain ⟨o, g, q⟩ := it; exact lot_plain g q.1 q.2 hl hR
theorem objs_at {h0 : Heap} {ft : Addr → Prop} {σ : St} {ρ : Nat → Int → Addr} {st : Shared} {i : Nat} {x : Int} {o : O} {b : Addr} (D : Den (c.at h0 ft) σ ρ st) (r : VR (wd c σ ρ st) (.ref i x) (.ref b)) (hg : σ.H.get i x = some o) : OR (wd c σ ρ st) b o := by
 have e := r.1
 cases e
 exact D.objs i x o hg
end
noncomputable abbrev WalkTo (c : Cx) (A : Around) (st : Shared) (W0 : Wd) (X : V) (xs : List V) (ep : Nat) (v : Value) (R : Value → Shared → Prop) : Prop := ∀ a IT st', st.heap.get? a = none → (∀ b o, st.heap.get? b = some o → st'.heap.get? b = some o) → st'.gens = st.gens → st'.os = st.os → IT 0 st'.heap → Walker c A W0 X xs ep v a IT → R (.ref a) st'
section
variable {c : Cx} {A : Around} (hh : A.handled = none) {h0 : Heap} {ft : Addr → Prop} {σ : St} {ρ : Nat → Int → Addr} {st : Shared} {v : Value} {xs : List V} {ep : Nat} {R : Value → Shared → Prop}
theorem push_new {st : Shared} {X : V} {n : String} {F : Nat → Array Value} {d : Array Value} (h : WalkTo c A st (wd c σ ρ st) X xs ep v R) (hd : d = F 0)
  (W : Walker c A (wd c σ ρ st) X xs ep v st.heap.objs.size (ItAt st.heap.objs.size n F)) : R (.ref st.heap.objs.size) { st with heap := st.heap.push { cls := .type n, data := .fields d } } :=
 h _ _ _ (get_size _) (fun b o hb => Heap.get?_push_of_some _ hb) rfl rfl ⟨_, Heap.get?_push_size _ rfl, rfl, congrArg _ hd⟩ W
include hh
theorem walk_list {i : Nat} {x : Int} (D : Den (c.at h0 ft) σ ρ st) (r : VR (wd c σ ρ st) (.ref i x) v) (hg : σ.H.get i x = some (.list xs)) (h : WalkTo c A st (wd c σ ρ st) (.ref i x) xs 0 v R) : wpAny (MM c) A (pyIter v) R noExc st := by
 have e := r.1
 subst e
 obtain ⟨vs, ⟨n, g⟩, rs⟩ := D.objs i x _ hg
 have at' : ∀ {h0' : Heap} {ft' : Addr → Prop} {σ' : St} {ρ' : Nat → Int → Addr} {s' : Shared} {C : Prop}, Den (c.at h0' ft') σ' ρ' s' → VR (wd c σ' ρ' s') (.ref i x) (.ref (ρ i x)) → seqOf (.ref i x) σ'.H = some (xs, 0) → (∀ us, s'.heap.IsList (ρ i x) us → VRs (wd c σ' ρ' s') xs us.toList → C) → C :=
  fun D' r' hx k => seqOf_ref hx (fun hg' _ => by obtain ⟨us, ⟨m, g'⟩, rs'⟩ := objs_at D' r' hg'; exact k us ⟨_, g', rfl, m, rfl⟩ rs') fun _ _ _ _ e => nomatch e
 refine wpAny_pyIter_list (items := vs) ⟨_, g, rfl, n, rfl⟩ (push_new (n := "list_iterator") (F := fun j => #[.ref (ρ i x), .int j 0]) h rfl (walker_of (by decide) (by decide) (fun j s' it R' hR => wpAny_pyIter_listiter it hR) ?_ ?_))
 ·exact fun h0' ft' j σ' ρ' s' Y D' ex' r' hx' it hY R' hR => at' D' r' hx' fun us l rs' => by
   obtain ⟨y, hy, ry⟩ := (VRs.at j rs').1 Y hY
   exact wpAny_pyNext_list_item it l (by rw [← Array.getElem?_toList]; exact hy) fun h' it' sb => hR y _ ry it' sb.extBut rfl rfl
 ·exact fun h0' ft' j σ' ρ' s' D' ex' r' hx' it hY R' hR => at' D' r' hx' fun us l rs' =>
   wpAny_pyNext_list_end hh it l (by rw [← Array.getElem?_toList]; exact (VRs.at j rs').2 hY) fun h' kb => hR _ kb rfl rfl
theorem walk_tup {ys : List V} (D : Den (c.at h0 ft) σ ρ st) (r : VR (wd c σ ρ st) (.tup xs) v) (h : WalkTo c A st (wd c σ ρ st) (.tup xs) xs 0 v R) : wpAny (MM c) A (pyIter v) R noExc st := by
 obtain ⟨t, o, vs, n, e, g, hc, hd, rs⟩ := r
 subst e
 have at' : ∀ {σ' : St} {ρ' : Nat → Int → Addr} {s' : Shared} {C : Prop}, VR (wd c σ' ρ' s') (.tup xs) (.ref t) → (∀ us, s'.heap.IsTuple t us → VRs (wd c σ' ρ' s') xs us.toList → C) → C :=
  fun r' k => by obtain ⟨t', o', us, m, e, g', hc', hd', rs'⟩ := r'; cases e; exact k us ⟨_, g', hc', m, hd'⟩ rs'
 refine wpAny_pyIter_tuple (items := vs) ⟨_, g, hc, n, hd⟩ (push_new (n := "tuple_iterator") (F := fun j => #[.ref t, .int j 0]) h rfl (walker_of (by decide) (by decide) (fun j s' it R' hR => wpAny_pyIter_tupleiter it hR) ?_ ?_))
 ·exact fun h0' ft' j σ' ρ' s' Y D' ex' r' hx' it hY R' hR => at' r' fun us l rs' => by
   obtain ⟨y, hy, ry⟩ := (VRs.at j rs').1 Y hY
   exact wpAny_pyNext_tuple_item it l (by rw [← Array.getElem?_toList]; exact hy) fun h' it' sb => hR y _ ry it' sb.extBut rfl rfl
 ·exact fun h0' ft' j σ' ρ' s' D' ex' r' hx' it hY R' hR => at' r' fun us l rs' =>
   wpAny_pyNext_tuple_end hh it l (by rw [← Array.getElem?_toList]; exact (VRs.at j rs').2 hY) fun h' kb => hR _ kb rfl rfl
theorem walk_dict (top : (K c.w.params).In c.h1) {i : Nat} {x : Int} {es : List (Int × V)} {e0 : Nat} (D : Den (c.at h0 ft) σ ρ st) (r : VR (wd c σ ρ st) (.ref i x) v) (hg : σ.H.get i x = some (.dict es e0)) (h : WalkTo c A st (wd c σ ρ st) (.ref i x) (es.map fun p => V.int p.1) (e0 + 1) v R) : wpAny (MM c) A (pyIter v) R noExc st := by
 have hs := r.2
 have e := r.1
 subst e
 obtain ⟨kvs, dk, rs⟩ := D.objs i x _ hg
 have dk : st.heap.DictAt (intKind pw c.w) (ρ i x) kvs e0 := dk
 have at' : ∀ {h0' : Heap} {ft' : Addr → Prop} {σ' : St} {ρ' : Nat → Int → Addr} {s' : Shared} {C : Prop}, Den (c.at h0' ft') σ' ρ' s' → VR (wd c σ' ρ' s') (.ref i x) (.ref (ρ i x)) → seqOf (.ref i x) σ'.H = some (es.map (fun p => V.int p.1), e0 + 1) → (∀ es' us, s'.heap.DictAt (intKind pw c.w) (ρ i x) us e0 → DRs (wd c σ' ρ' s') es' us → es'.map (fun p => V.int p.1) = es.map (fun p => V.int p.1) → es.length = us.length → C) → C :=
  fun D' r' hx k => seqOf_ref hx (fun _ e => nomatch e) fun es' e1 hg' e2 e3 => by
   cases e3
   obtain ⟨us, du, rs'⟩ := objs_at D' r' hg'
   exact k es' us du rs' e2.symm (by rw [DRs.length rs']; simpa using congrArg List.length e2)
 refine wpAny_pyIter_dict (D.notSys top hs) dk (push_new (n := "dict_keyiterator") (F := fun j => #[.ref (ρ i x), .int j 0, .int es.length 0, .int e0 0]) h (by rw [DRs.length rs]; rfl) (walker_of (by decide) (by decide) (fun j s' it R' hR => wpAny_pyIter_keyiter it hR) ?_ ?_))
 ·exact fun h0' ft' j σ' ρ' s' Y D' ex' r' hx' it hY R' hR => at' D' r' hx' fun es' us l rs' em el => by
   rw [← em, List.getElem?_map] at hY
   obtain ⟨p, hk, e⟩ := Option.map_eq_some_iff.mp hY
   subst e
   obtain ⟨u, hu, ru⟩ := rs'.get hk
   have it : s'.heap.IsKeyIter st.heap.objs.size (ρ i x) j us.length e0 := by rw [← el]; exact it
   refine wpAny_pyNext_dict_item it l hu fun key h' hkey it' sb => ?_
   refine hR key _ ?_ (by rw [el]; exact it') sb.extBut rfl rfl
   have hkey : Value.isInt p.1 key = true := hkey
   cases key <;> first | cases hkey; done | exact ⟨_, by rw [eq_of_beq hkey]⟩
 ·exact fun h0' ft' j σ' ρ' s' D' ex' r' hx' it hY R' hR => at' D' r' hx' fun es' us l rs' em el => by
   rw [← em, List.getElem?_map] at hY
   have it : s'.heap.IsKeyIter st.heap.objs.size (ρ i x) j us.length e0 := by rw [← el]; exact it
   exact wpAny_pyNext_dict_end hh it l (rs'.no_at (Option.map_eq_none_iff.mp hY)) fun h' kb => hR _ kb rfl rfl
theorem walk_vals {i : Nat} {x : Int} {es : List (Int × V)} {e0 : Nat} (D : Den (c.at h0 ft) σ ρ st) (r : VR (wd c σ ρ st) (.vals i x) v) (hg : σ.H.get i x = some (.dict es e0)) (h : WalkTo c A st (wd c σ ρ st) (.vals i x) (es.map (·.2)) (e0 + 1) v R) : wpAny (MM c) A (pyIter v) R noExc st := by
 obtain ⟨va, e, hv, hs⟩ := r
 subst e
 obtain ⟨kvs, dk, rs⟩ := D.objs i x _ hg
 have dk : st.heap.DictAt (intKind pw c.w) (ρ i x) kvs e0 := dk
 have at' : ∀ {h0' : Heap} {ft' : Addr → Prop} {σ' : St} {ρ' : Nat → Int → Addr} {s' : Shared} {C : Prop}, Den (c.at h0' ft') σ' ρ' s' → Ext (wd c σ ρ st) (wd c σ' ρ' s') → seqOf (.vals i x) σ'.H = some (es.map (·.2), e0 + 1) → (∀ es' us, s'.heap.DictAt (intKind pw c.w) (ρ i x) us e0 → DRs (wd c σ' ρ' s') es' us → es'.map (·.2) = es.map (·.2) → es.length = us.length → C) → C :=
  fun D' x' hx k => seqOf_vals hx fun es' e1 hg' e2 e3 => by
   cases e3
   obtain ⟨us, du, rs'⟩ := D'.objs i x _ hg'
   have e : _ = ρ i x := x'.same i x hs
   exact k es' us (by rw [← e]; exact du) rs' e2.symm (by rw [DRs.length rs']; simpa using congrArg List.length e2)
 refine wpAny_pyIter_values hv dk (push_new (n := "dict_valueiterator") (F := fun j => #[.ref (ρ i x), .int j 0, .int es.length 0, .int e0 0]) h (by rw [DRs.length rs]; rfl) (walker_of (by decide) (by decide) (fun j s' it R' hR => wpAny_pyIter_valiter it hR) ?_ ?_))
 ·exact fun h0' ft' j σ' ρ' s' Y D' ex' r' hx' it hY R' hR => at' D' ex' hx' fun es' us l rs' em el => by
   rw [← em, List.getElem?_map] at hY
   obtain ⟨p, hk, e⟩ := Option.map_eq_some_iff.mp hY
   subst e
   obtain ⟨u, hu, ru⟩ := rs'.get hk
   have it : s'.heap.IsValIter st.heap.objs.size (ρ i x) j us.length e0 := by rw [← el]; exact it
   exact wpAny_pyNext_values_item it l hu fun h' it' sb => hR u _ ru (by rw [el]; exact it') sb.extBut rfl rfl
 ·exact fun h0' ft' j σ' ρ' s' D' ex' r' hx' it hY R' hR => at' D' ex' hx' fun es' us l rs' em el => by
   rw [← em, List.getElem?_map] at hY
   have it : s'.heap.IsValIter st.heap.objs.size (ρ i x) j us.length e0 := by rw [← el]; exact it
   exact wpAny_pyNext_values_end hh it l (rs'.no_at (Option.map_eq_none_iff.mp hY)) fun h' kb => hR _ kb rfl rfl
theorem walk_rng {a b : Int} (hb : 0 ≤ a ∧ a ≤ 1000000 ∧ 0 ≤ b ∧ b ≤ 1000000) (r : VR (wd c σ ρ st) (.rng a b) v) (h : WalkTo c A st (wd c σ ρ st) (.rng a b) ((List.range (b - a).toNat).map (fun (k : Nat) => V.int (a + (k : Int)))) 0 v R) : wpAny (MM c) A (pyIter v) R noExc st := by
 obtain ⟨rr, t, u, w, e, g⟩ := r
 subst e
 refine wpAny_pyIter_range g (range_small hb) ?_
 rw [rangeSize_nat]
 refine h _ (fun j hp => IsRangeIter hp st.heap.objs.size (a + (j : Int)) (((b - a).toNat : Int) - (j : Int)) 1) _ (get_size _) (fun b o hb => Heap.get?_push_of_some _ hb) rfl rfl (by simpa using Heap.get?_push_size _ rfl) ?_
 refine ⟨fun j hp hp' g k => k _ g, fun j hp g => ⟨_, g, not_imm rfl rfl (n := "range_iterator") (by decide)⟩, ?_, ?_, fun j s' it R' hR => wpAny_pyIter_rangeiter it hR, fun j s' tg y g R' hR => lot_plain g rfl rfl (by decide) hR⟩
 ·intro h0' ft' j σ' ρ' s' Y D' ex' r' hx' it hY R' hR
  rw [List.getElem?_map] at hY
  obtain ⟨k, hk, e⟩ := Option.map_eq_some_iff.mp hY
  subst e
  obtain ⟨hk1, hk2⟩ := List.getElem?_eq_some_iff.mp hk
  rw [List.length_range] at hk1
  rw [List.getElem_range] at hk2
  subst hk2
  refine wpAny_pyNext_range_item it (by lia) fun h' it' sb => hR _ _ ⟨_, rfl⟩ ?_ sb.extBut rfl rfl
  rw [show a + ((j + 1 : Nat) : Int) = a + (j : Int) + 1 by grind, show (((b - a).toNat : Int) - ((j + 1 : Nat) : Int)) = ((b - a).toNat : Int) - (j : Int) - 1 by grind]
  exact it'
 ·intro h0' ft' j σ' ρ' s' D' ex' r' hx' it hY R' hR
  rw [List.getElem?_eq_none_iff, List.length_map, List.length_range] at hY
  exact wpAny_pyNext_range_end hh it (by lia) fun h' kb => hR _ kb rfl rfl
theorem walks (top : (K c.w.params).In c.h1) {X : V} (D : Den (c.at h0 ft) σ ρ st) (r : VR (wd c σ ρ st) X v) (hx : seqOf X σ.H = some (xs, ep)) (h : WalkTo c A st (wd c σ ρ st) X xs ep v R) : wpAny (MM c) A (pyIter v) R noExc st := by
 cases X
 case ref i x => exact seqOf_ref hx (fun hg e => by subst e; exact walk_list hh D r hg h) fun es e0 hg e e' => by subst e e'; exact walk_dict hh top D r hg h
 case tup ys => cases hx; exact walk_tup hh (ys := []) D r h
 case vals i x => exact seqOf_vals hx fun es e0 hg e e' => by subst e e'; exact walk_vals hh D r hg h
 case rng a b =>
  have hx : (if 0 ≤ a ∧ a ≤ 1000000 ∧ 0 ≤ b ∧ b ≤ 1000000 then some ((List.range (b - a).toNat).map (fun (k : Nat) => V.int (a + (k : Int))), 0) else none) = some (xs, ep) := hx
  by_cases hb : 0 ≤ a ∧ a ≤ 1000000 ∧ 0 ≤ b ∧ b ≤ 1000000
  ·rw [if_pos hb] at hx; cases hx; exact walk_rng hh hb r h
  ·rw [if_neg hb] at hx; cases hx
 all_goals cases hx
end
end
section
section
variable {k : Ck} {c : Cx} {A : Around}
theorem it_imm {W0 : Wd} {X : V} {xs : List V} {ep : Nat} {v : Value} {ad : Addr} {IT : Nat → Heap → Prop} (Wk : Walker c A W0 X xs ep v ad IT) {j : Nat} {h : Heap} (it : IT j h) (o : Obj) (ho : h.get? ad = some o) : ¬ Imm o := by
 obtain ⟨o', g, m⟩ := Wk.here j _ it
 rw [g] at ho; cases ho; exact m
theorem set_fold {i : Expr} {env : Env} (h : (i.ctorIdx != 7) = true) (x : Value) : foldedSetIterable i env x = pure x := by cases i <;> first | rfl | cases h
inductive EachI (c : Cx) (W0 : Wd) (n : Nat) (ad : Addr) (IT : Nat → Heap → Prop) (I : Nat → St → Prop) (s' : Shared) : Nat → Prop
 | mk (j : Nat) (σ' : St) (ρ' : Nat → Int → Addr) (hj : j ≤ n) (D : Den c σ' ρ' s') (x : Ext W0 (wd c σ' ρ' s')) (S : Aside c σ' ρ' ad) (it : IT j s'.heap) (i : I j σ') : EachI c W0 n ad IT I s' (n + 1 - j)
theorem snd_each (F : Fit k c) (hh : A.handled = none) {t : TT} {a : TE} {tg i : Expr} {b : List TS} {b' : List Stmt} {p : Pos} (hs : (i.ctorIdx != 7) = true) (ht : chkT1 k t tg = true) (ha : chkE k a i = true)
  (hb : ∀ h0 ft σ K, vcSs A b (c.at h0 ft) σ K → Ex (c.at h0 ft) A σ (execs b' c.env) K) (σ : St) (K : Kt) (q : vcS A (.each t a b) c σ K) : Ex c A σ (exec (.For tg i b' [] p) c.env) K := fun ρ st D => by
 refine wpAny_For (wpP (sndE F a i ha σ _ q ρ st D) fun v s₁ X σ₁ ρ₁ D₁ rx x₁ q => ?_) (set_fold hs)
 cases q with
 | mk xs ep I hxs i0 iend istep =>
 refine walks (c := c) (h0 := c.h0) (ft := c.foot) hh F.top D₁ rx hxs fun ad IT s₂ hn kp hg ho it0 Wk => ?_
 have D₂ := D₁.keeps (st' := s₂) kp hg ho
 refine codeAny_loop' (c := .forLoop tg (.ref ad) b' [] c.env) rfl (fun n s' => EachI c (wd c σ₁ ρ₁ s₁) xs.length ad IT I s' n) (fun n s' hI => ?_) (xs.length + 1 - 0) (.mk 0 σ₁ ρ₁ (Nat.zero_le _) D₂.1 D₂.2 (D₁.fresh hn) it0 i0)
 cases hI with
 | mk j σ' ρ' hj D' x' S' it' ij =>
 show wpAny _ _ ((forTurn tg (.ref ad) b' [] c.env).onRaise (fun x => do noteFrame x c.env; theTreesLotGoes x)) _ _ s'
 have hA : A.under (.forLoop tg (.ref ad) b' [] c.env) = A := Around.under_of_weight rfl
 rw [hA]
 refine wpAny_noted ?_
 unfold forTurn
 refine wpAny_bind (wpAny_standAt (wpAny_bind (wpAny_onRaise ?_)))
 have him := it_imm Wk it'
 cases hY : xs[j]? with
 | none =>
  have hje : j = xs.length := Nat.le_antisymm hj (List.getElem?_eq_none_iff.mp hY)
  subst hje
  have hk := iend σ' ij
  refine noted (Wk.stop c.h0 c.foot xs.length σ' ρ' s' D' x' (rx.ext x' _ _) hk.1 it' hY (fun r s₃ => r = none ∧ Den c σ' ρ' s₃ ∧ Ext (wd c σ' ρ' s') (wd c σ' ρ' s₃)) fun s₃ kb hg ho => ⟨rfl, D'.aside S' him kb hg ho⟩) fun r s₃ h => ?_
  rw [h.1]
  exact wpAny_pure (.inr ⟨rfl, codeAny_block (wpAny_execs_nil ⟨σ', ρ', h.2.1, x₁.trans (x'.trans h.2.2), hk.2⟩)⟩)
 | some Y =>
  have stp := istep j σ' Y ij hY
  have hjl : j < xs.length := (List.getElem?_eq_some_iff.mp hY).1
  refine noted (Wk.item c.h0 c.foot j σ' ρ' s' Y D' x' (rx.ext x' _ _) stp.1 it' hY (fun r s₃ => ∃ y, r = some y ∧ VR (wd c σ' ρ' s') Y y ∧ IT (j + 1) s₃.heap ∧ Den c σ' ρ' s₃ ∧ Ext (wd c σ' ρ' s') (wd c σ' ρ' s₃))
   fun y s₃ ry it₃ kb hg ho => ⟨y, rfl, ry, it₃, D'.aside S' him kb hg ho⟩) fun r s₃ h => ?_
  obtain ⟨y, e, ry, it₃, D₃, x₃⟩ := h
  subst e
  refine wpAny_bind (noted (Wk.lot (j + 1) s₃ tg y it₃ (fun _ s => s₃ = s) rfl) fun _ s₄ e => ?_)
  subst e
  have DN := D₃.now
  refine wpAny_bind (wpU (c := c.at s₃.heap (c.now σ' ρ' s₃).foot) (sndT1 (F.at s₃.heap (c.now σ' ρ' s₃).foot) hh ht (stp.2 s₃.heap (c.now σ' ρ' s₃).foot) ρ' s₃ y DN (VR.ext x₃ _ _ ry)) fun _ s₅ σ₅ ρ₅ D₅ x₅ q₅ => ?_)
  refine wpAny_bind (noted (hb s₃.heap (c.now σ' ρ' s₃).foot σ₅ _ q₅ ρ₅ s₅ D₅) fun f s₆ P => ?_)
  have asd : ∀ {σ₆ : St} {ρ₆ : Nat → Int → Addr}, Den (c.now σ' ρ' s₃) σ₆ ρ₆ s₆ → Aside c σ₆ ρ₆ ad := fun D₆ => by
   obtain ⟨o', g, _⟩ := Wk.here (j + 1) _ it₃
   exact (S'.next g D₆).1
  have again : PostU (c.now σ' ρ' s₃) (wd c σ₅ ρ₅ s₅) (I (j + 1)) () s₆ → EachI c (wd c σ₁ ρ₁ s₁) xs.length ad IT I s₆ (xs.length + 1 - (j + 1)) := fun h => by
   cases h with
   | mk σ₆ ρ₆ D₆ x₆ q₆ => exact .mk (j + 1) σ₆ ρ₆ hjl (D₃.back D₆) (x'.trans (x₃.trans (Ext.trans x₅ x₆))) (asd D₆) (Wk.stay (j + 1) _ _ it₃ fun o g => (S'.next g D₆).2) q₆
  have lt : xs.length + 1 - (j + 1) < xs.length + 1 - j := Nat.sub_lt_sub_left (Nat.lt_succ_of_lt hjl) (Nat.lt_succ_self j)
  cases f with
  | next => exact wpAny_pure (.inl ⟨rfl, _, lt, again P⟩)
  | cont => exact wpAny_pure (.inl ⟨rfl, _, lt, again P⟩)
  | brk =>
   cases P with
   | mk σ₆ ρ₆ D₆ x₆ q₆ => exact wpAny_pure ⟨σ₆, ρ₆, D₃.back D₆, x₁.trans (x'.trans (x₃.trans (Ext.trans x₅ x₆))), q₆⟩
  | ret v' =>
   cases P with
   | mk Z σ₆ ρ₆ D₆ rz x₆ q₆ => exact wpAny_pure ⟨Z, σ₆, ρ₆, D₃.back D₆, rz, x₁.trans (x'.trans (x₃.trans (Ext.trans x₅ x₆))), q₆⟩
end
end
section
noncomputable abbrev ExE (c : Cx) (A : Around) (σ : St) (K : Kt) (x : Stmt) : Prop := Ex c A σ (exec x c.env) K
noncomputable def IS (k : Ck) (A : Around) (t : TS) : Prop := ∀ (x : Stmt), chkS k t x = true → ∀ (c : Cx), Fit k c → ∀ (σ : St) (K : Kt), vcS A t c σ K → ExE c A σ K x
noncomputable def ISs (k : Ck) (A : Around) (ts : List TS) : Prop := ∀ (xs : List Stmt), chkSs k ts xs = true → ∀ (c : Cx), Fit k c → ∀ (σ : St) (K : Kt), vcSs A ts c σ K → Ex c A σ (execs xs c.env) K
section
variable {k : Ck} {c : Cx} {A : Around} (hh : A.handled = none)
theorem sS_expr (e : TE) : IS k A (.expr e) := fun x h c F σ K q => onSExpr_e (P := ExE c A σ K) h fun v p h => and_e h fun hc he => fun ρ st D =>
 wpAny_Expr_any (wpP (sndE F e v he σ _ q ρ st D) fun _ s₁ X σ₁ ρ₁ D₁ _ x₁ q₁ => ⟨σ₁, ρ₁, D₁, x₁, q₁⟩) (by unfold interactive; rw [F.kd]; rfl) (by rw [with_env, F.sc]; exact pur_e (eq_of_beq hc))
include hh in
theorem sS_assign (ts : List TT) (e : TE) : IS k A (.assign ts e) := fun x h c F σ K q => onSAssign_e (P := ExE c A σ K) h fun tg v p h => and_e h fun h1 h => and_e h fun h2 h => and_e h fun h3 h4 => snd_assign F hh (eq_of_beq h1) h2 h3 h4 σ K q
theorem sS_aug (j : Nat) (op : Operator) (e : TE) : IS k A (.aug j op e) := fun x h c F σ K q => onSAugAssign_e (P := ExE c A σ K) h fun tg op' v p h => onName_e (P := fun tg => ExE c A σ K (.AugAssign tg op' v p)) h fun n qp h => and_e h fun h1 h => and_e h fun hj h => and_e h fun hl he => by
 cases eq_of_beq h1
 have hj := eq_of_beq hj
 have hl := eq_of_beq hl
 refine fun ρ st D => wpAny_AugAssign_Name (withV_e q fun X hX q => ?_)
 obtain ⟨m, hn, l⟩ := D.loc
 have hk := (F.kindOf n).trans hl
 refine (LocsR.get (by rw [F.names]; exact hj) (lk_get hX) l).loc hk fun v0 e0 rv => wpAny_loadName_local F.kd hk hn e0 ?_
 exact wpP (sndE F e v he σ _ q ρ st D) fun vb s₁ Y σ₁ ρ₁ D₁ ry x₁ q₁ => wpP (inp2_ok q₁ ρ₁ s₁ v0 vb D₁ (rv.ext x₁ _ _) ry) fun vz s₂ Z σ₂ ρ₂ D₂ rz x₂ q₂ =>
   store_tail F hj hl D₂ rz fun s₃ D₃ x₃ => ⟨_, ρ₂, D₃, x₁.trans (x₂.trans x₃), q₂⟩
theorem sS_augA (o : TE) (n : Str) (op : Operator) (e : TE) : IS k A (.augA o n op e) := fun x h c F σ K q => onSAugAssign_e (P := ExE c A σ K) h fun tg op' v p h => onAttribute_e (P := fun tg => ExE c A σ K (.AugAssign tg op' v p)) h fun w n' qp h => and_e h fun h1 h => and_e h fun h2 h => and_e h fun ho he => by
 cases eq_of_beq h1
 cases eq_of_beq h2
 exact fun ρ st D => wpAny_AugAssign_AttributeAny (wpP (sndE F o w ho σ _ q ρ st D) fun vo s₁ X σ₁ ρ₁ D₁ rx x₁ q₁ => wpP (q₁ ρ₁ s₁ vo D₁ rx) fun vy s₂ Y σ₂ ρ₂ D₂ ry x₂ q₂ =>
   wpP (sndE F e v he σ₂ _ q₂ ρ₂ s₂ D₂) fun vz s₃ Z σ₃ ρ₃ D₃ rz x₃ q₃ => wpP (inp2_ok q₃ ρ₃ s₃ vy vz D₃ (ry.ext x₃ _ _) rz) fun vr s₄ R σ₄ ρ₄ D₄ rr x₄ q₄ =>
    wpU (q₄ ρ₄ s₄ vo vr D₄ (VR.ext (x₂.trans (x₃.trans x₄)) _ _ rx) rr) fun _ s₅ σ₅ ρ₅ D₅ x₅ q₅ => ⟨σ₅, ρ₅, D₅, x₁.trans (x₂.trans (x₃.trans (x₄.trans x₅))), q₅⟩)
theorem sS_ret (e : Option TE) : IS k A (.ret e) := fun x h c F σ K q => onSReturn_e (P := ExE c A σ K) h fun v p h => by
 cases e with
 | none => exact isNone_e (P := fun v => ExE c A σ K (.Return v p)) h fun ρ st D => wpAny_Return_none ⟨.none, σ, ρ, D, rfl, .refl _, q⟩
 | some e => exact onSome_e (P := fun v => ExE c A σ K (.Return v p)) h fun y hy ρ st D => wpAny_Return_some (noE (sndE F e y hy σ _ q ρ st D) fun _ _ P => P)
theorem sS_brk : IS k A .brk := fun x h c F σ K q => onSBreak_e (P := ExE c A σ K) h fun p _ ρ st D => wpAny_Break ⟨σ, ρ, D, .refl _, q⟩
theorem sS_cont : IS k A .cont := fun x h c F σ K q => onSContinue_e (P := ExE c A σ K) h fun p _ ρ st D => wpAny_Continue ⟨σ, ρ, D, .refl _, q⟩
theorem sS_pass : IS k A .pass := fun x h c F σ K q => onSPass_e (P := ExE c A σ K) h fun p _ ρ st D => wpAny_Pass ⟨σ, ρ, D, .refl _, q⟩
theorem sS_ite (t : TE) (a b : List TS) (Ia : ISs k A a) (Ib : ISs k A b) : IS k A (.ite t a b) := fun x h c F σ K q => onSIf_e (P := ExE c A σ K) h fun t' a' b' p h => and_e h fun ht h => and_e h fun ha hb ρ st D =>
 wpAny_If (wpB (sndB F t t' ht σ _ q ρ st D) fun r s₁ σ₁ ρ₁ D₁ x₁ q₁ => by
   cases q₁ with
   | mk t ok q =>
   cases r
   ·exact noE (Ib b' hb c F σ₁ K (sel_no ok q) ρ₁ s₁ D₁) fun _ _ P => P.up x₁
   ·exact noE (Ia a' ha c F σ₁ K (sel_yes ok q) ρ₁ s₁ D₁) fun _ _ P => P.up x₁)
inductive LoopI (c : Cx) (W0 : Wd) (I : Nat → St → Prop) (n : Nat) (s' : Shared) : Prop
 | mk (σ' : St) (ρ' : Nat → Int → Addr) (D : Den c σ' ρ' s') (x : Ext W0 (wd c σ' ρ' s')) (i : I n σ')
theorem sS_loop (t : TE) (b o : List TS) (Ib : ISs k A b) (Io : ISs k A o) : IS k A (.loop t b o) := fun x h c F σ K q => onSWhile_e (P := ExE c A σ K) h fun t' b' o' p h => and_e h fun ht h => and_e h fun hb ho ρ st D => by
 cases q with
 | mk I n i0 step =>
 refine wpAny_While (codeAny_whileLoop (LoopI c (wd c σ ρ st) I) (fun n s' i => ?_) n ⟨σ, ρ, D, .refl _, i0⟩)
 cases i with
 | mk σ' ρ' D' x' i' =>
 refine wpB (sndB F t t' ht σ' _ (step n σ' i') ρ' s' D') fun r s₁ σ₁ ρ₁ D₁ x₁ q₁ => ?_
 cases q₁ with
 | mk t ok q =>
 cases r
 ·exact noted (Io o' ho c F σ₁ K (sel_no ok q) ρ₁ s₁ D₁) fun f s₂ P => P.up (x'.trans x₁)
 ·refine noted (Ib b' hb c F σ₁ _ (sel_yes ok q) ρ₁ s₁ D₁) fun f s₂ P => ?_
  have again : PostU c (wd c σ₁ ρ₁ s₁) (Less I n) () s₂ → ∃ m, m < n ∧ LoopI c (wd c σ ρ st) I m s₂ := fun P => by
   cases P with
   | mk σ₂ ρ₂ D₂ x₂ q₂ =>
   cases q₂ with
   | mk m hm q₂ => exact ⟨m, hm, σ₂, ρ₂, D₂, x'.trans (x₁.trans x₂), q₂⟩
  cases f with
  | next => exact again P
  | cont => exact again P
  | brk => exact PostU.up (x'.trans x₁) P
  | ret v => exact Post.up (x'.trans x₁) P
include hh in
theorem sS_each (t : TT) (a : TE) (b : List TS) (Ib : ISs k A b) : IS k A (.each t a b) := fun x h c F σ K q => onSFor_e (P := ExE c A σ K) h fun tg i b' o p h => and_e h fun h0 h => nil_e (P := fun o => ExE c A σ K (.For tg i b' o p)) h0 (and_e h fun h1 h => and_e h fun h2 h => and_e h fun h3 h4 =>
 snd_each F hh h1 h2 h3 (fun h0 ft σ' K' q' => Ib b' h4 (c.at h0 ft) (F.at h0 ft) σ' K' q') σ K q)
theorem sS_del (e i : TE) : IS k A (.del e i) := fun x h c F σ K q => onSDelete_e (P := ExE c A σ K) h fun ts p h => onOne_e (P := fun ts => ExE c A σ K (.Delete ts p)) h fun x h => onSubscript_e (P := fun x => ExE c A σ K (.Delete [x] p)) h fun v sl qp h => and_e h fun he hi ρ st D =>
 wpAny_Delete (wpAny_deleteEach_cons (wpAny_delete_Subscript (wpP (sndE F e v he σ _ q ρ st D) fun vo s₁ X σ₁ ρ₁ D₁ rx x₁ q₁ => wpP (sndE F i sl hi σ₁ _ q₁ ρ₁ s₁ D₁) fun vi s₂ Y σ₂ ρ₂ D₂ ry x₂ q₂ =>
   wpU (q₂ ρ₂ s₂ vo vi D₂ (rx.ext x₂ _ _) ry) fun _ s₃ σ₃ ρ₃ D₃ x₃ q₃ => wpAny_deleteEach_nil ⟨σ₃, ρ₃, D₃, x₁.trans (x₂.trans x₃), q₃⟩)))
theorem sS_never : IS k A .never := fun _ _ _ _ _ _ q => q.elim
theorem sS_sem (p : Stmt → Bool) : IS k A (.sem p) := fun x h c F σ K q => q x h
theorem sS_doc : IS k A .doc := fun x h c F σ K q => onSExpr_e (P := ExE c A σ K) h fun v qp h => onConstant_e (P := fun v => ExE c A σ K (.Expr v qp)) h fun y u p h => onCStr_e (P := fun y => ExE c A σ K (.Expr (.Constant y u p) qp)) h fun z _ ρ st D =>
 wpAny_Expr_any (wpAny_mkText ⟨σ, ρ, (den_toks D (st.toks + 1)).1, (den_toks D (st.toks + 1)).2, q⟩) (by unfold interactive; rw [F.kd]; rfl) rfl
theorem sSs_nil : ISs k A [] := fun xs h c F σ K q => nil_e (P := fun xs => Ex c A σ (execs xs c.env) K) h fun ρ st D => wpAny_execs_nil ⟨σ, ρ, D, .refl _, q⟩
theorem sSs_cons (t : TS) (ts : List TS) (It : IS k A t) (Its : ISs k A ts) : ISs k A (t :: ts) := fun xs h c F σ K q => onCons_e (P := fun xs => Ex c A σ (execs xs c.env) K) h fun x r h => and_e h fun hx hr ρ st D =>
 wpAny_execs_cons (noE (It x hx c F σ _ q ρ st D) fun f s₁ P => by
  cases f with
  | next => cases P with
   | mk σ₁ ρ₁ D₁ x₁ q₁ => exact noE (Its r hr c F σ₁ K q₁ ρ₁ s₁ D₁) fun _ _ P => P.up x₁
  | brk => exact P
  | cont => exact P
  | ret v => exact P)
include hh in
theorem sndSs (ts : List TS) : ISs k A ts :=
 TS.rec_1 (motive_1 := fun t => IS k A t) (motive_2 := fun ts => ISs k A ts)
  sS_expr (sS_assign hh) sS_aug sS_augA sS_ret sS_brk sS_cont sS_pass (fun t a b ha hb => sS_ite t a b ha hb) (fun t b o hb ho => sS_loop t b o hb ho) (fun t it b hb => sS_each hh t it b hb) sS_del sS_never sS_doc sS_sem
  sSs_nil (fun t ts ht hts => sSs_cons t ts ht hts) ts
end
end
section
structure Room (n : Nat) (A : Around) : Prop where
 depth : A.depth + 2 * n < 600
 units : A.units + 12 * n < cLine
 handled : A.handled = none
structure Good (c : Cx) : Prop where
 top : (K c.w.params).In c.h1
 lim : c.h1.NoLimit
structure DefOk (P : Params) (f : Addr) (fd : FuncData) (ns : List Str) (ts : List TS) : Prop where
 here : ∃ ob, (K P).lookup f = some ob ∧ ob.data = .func fd
 code : codeIn (K P) fd.code fd.qualname = true
 body : ∃ b, fd.body = .stmts b ∧ chkSs ⟨ns, fd.scope⟩ ts b = true
 co : fd.scope.isCoroutine = false
 gen : fd.scope.isGenerator = false
 kind : fd.scope.kind = .function
 glob : fd.globals = 3
 blt : fd.builtins = 0
 clo : fd.closure = []
 nodup : ns.Nodup
 cnd : ((cellsFrom 0 fd.scope.names []).map (·.1)).Nodup
 loc : ns.all (fun n => fd.scope.names.lookup n == some .local || (fd.scope.names.lookup n == some .cell && ((cellsFrom 0 fd.scope.names []).lookup n).isSome)) = true
theorem cells_keys : ∀ (names : List (Str × NameKind)) (k k' : Nat) (acc acc' : List (Str × Addr)), acc.map (·.1) = acc'.map (·.1) → (cellsFrom k names acc).map (·.1) = (cellsFrom k' names acc').map (·.1)
 | [], _, _, _, _, h => h
 | (n, kd) :: r, k, k', acc, acc', h => by
  unfold cellsFrom
  split
  ·exact cells_keys r _ _ _ _ (by simp [h])
  ·exact cells_keys r _ _ _ _ h
theorem lookup_keys {α : Type} (x : Str) : ∀ (l : List (Str × α)), (l.lookup x).isSome = (l.map (·.1)).contains x
 | [] => rfl
 | (y, a) :: r => by
  rw [List.lookup_cons, List.map_cons, List.contains_cons]
  cases x == y with
  | true => rfl
  | false => simpa using lookup_keys x r
theorem cells_some (names : List (Str × NameKind)) (k : Nat) (x : Str) (h : ((cellsFrom 0 names []).lookup x).isSome = true) : ((cellsFrom k names []).lookup x).isSome = true := by
 rw [lookup_keys] at h ⊢
 rw [cells_keys names k 0 [] [] rfl]; exact h
theorem bindL_other {kd : Str → Option NameKind} {x : Str} : ∀ (ks : List Str) (vs : List Value) (m : Str → Option Value), x ∉ ks → bindL kd (ks.zip vs) m x = m x
 | [], _, _, _ => rfl
 | _ :: _, [], _, _ => rfl
 | k :: ks, v :: vs, m, h => by
  simp only [List.mem_cons, not_or] at h
  rw [List.zip_cons_cons, bindL, bindL_other ks vs _ h.2]
  split
  ·exact if_neg h.1
  ·rfl
theorem bindC_other {kd : Str → Option NameKind} {x : Str} : ∀ (ks : List Str) (vs : List Value) (m : Str → Option Value), x ∉ ks → bindC kd (ks.zip vs) m x = m x
 | [], _, _, _ => rfl
 | _ :: _, [], _, _ => rfl
 | k :: ks, v :: vs, m, h => by
  simp only [List.mem_cons, not_or] at h
  rw [List.zip_cons_cons, bindC, bindC_other ks vs _ h.2]
  split
  ·rfl
  ·exact if_neg h.1
theorem bindL_at {kd : Str → Option NameKind} {x : Str} {v : Value} (hk : kd x = some .local) : ∀ (ks : List Str) (vs : List Value) (m : Str → Option Value) (j : Nat), ks.Nodup → ks[j]? = some x → vs[j]? = some v → bindL kd (ks.zip vs) m x = some v
 | [], _, _, _, _, h, _ => by simp at h
 | _ :: _, [], _, _, _, _, h => by simp at h
 | k :: ks, u :: vs, m, j, hn, h, h' => by
  rw [List.nodup_cons] at hn
  rw [List.zip_cons_cons, bindL]
  cases j with
  | zero =>
   simp at h h'
   subst h h'
   rw [bindL_other ks vs _ hn.1, if_pos hk]
   exact if_pos rfl
  | succ j => exact bindL_at hk ks vs _ j hn.2 (by simpa using h) (by simpa using h')
theorem bindC_at {kd : Str → Option NameKind} {x : Str} {v : Value} (hk : kd x ≠ some .local) : ∀ (ks : List Str) (vs : List Value) (m : Str → Option Value) (j : Nat), ks.Nodup → ks[j]? = some x → vs[j]? = some v → bindC kd (ks.zip vs) m x = some v
 | [], _, _, _, _, h, _ => by simp at h
 | _ :: _, [], _, _, _, _, h => by simp at h
 | k :: ks, u :: vs, m, j, hn, h, h' => by
  rw [List.nodup_cons] at hn
  rw [List.zip_cons_cons, bindC]
  cases j with
  | zero =>
   simp at h h'
   subst h h'
   rw [bindC_other ks vs _ hn.1, if_neg hk]
   exact if_pos rfl
  | succ j => exact bindC_at hk ks vs _ j hn.2 (by simpa using h) (by simpa using h')
theorem LocsR.of_get {W : Wd} {env : Env} {m : Str → Option Value} {ns : List Str} {vs : List (Option V)} (h : ns.length = vs.length) (f : ∀ (j : Nat) x ov, ns[j]? = some x → vs[j]? = some ov → LocR W env m x ov) : LocsR W env m ns vs := by
 induction ns generalizing vs with
 | nil => cases vs with
  | nil => rfl
  | cons _ _ => cases h
 | cons n ns ih => cases vs with
  | nil => cases h
  | cons v vs => exact ⟨v, vs, rfl, f 0 n v rfl rfl, ih (Nat.succ.inj h) fun j x ov h1 h2 => f (j + 1) x ov h1 h2⟩
noncomputable def locs0 (ns : List Str) (Ys : List V) : List (Option V) := Ys.map some ++ List.replicate (ns.length - Ys.length) none
noncomputable def Bd (c : Cx) (A : Around) (σ : St) (fd : FuncData) (ns : List Str) (Xs Ys : List V) : Prop :=
 ∀ ρ st vs, Den c σ ρ st → VRs (wd c σ ρ st) Xs vs → ∀ R : List (Str × Value) → Shared → Prop,
  (∀ vs' st1, (∀ b o, st.heap.get? b = some o → st1.heap.get? b = some o) → st1.gens = st.gens → st1.os = st.os → VRs (wd c σ ρ st1) Ys vs' → R ((ns.take Ys.length).zip vs') st1) → wpAny (MM c) A (bindArgs fd ⟨vs, []⟩) R noExc st
theorem mem_lookup {y : Str} {ca : Addr} : ∀ {l : List (Str × Addr)}, (y, ca) ∈ l → (l.map (·.1)).Nodup → l.lookup y = some ca
 | [], h, _ => by cases h
 | p :: l, h, hn => by
  rw [List.map_cons, List.nodup_cons] at hn
  rw [List.lookup_cons]
  rcases List.mem_cons.mp h with e | h'
  ·subst e; simp
  ·have : (y == p.1) = false := beq_eq_false_iff_ne.mpr fun e => hn.1 (by subst e; exact List.mem_map.mpr ⟨_, h', rfl⟩)
   rw [this]; exact mem_lookup h' hn.2
theorem take_get {α : Type} {l : List α} {n j : Nat} {x : α} (h : l[j]? = some x) (hj : j < n) : (l.take n)[j]? = some x := by rw [List.getElem?_take, if_pos hj]; exact h
noncomputable def Cd (c : Cx) (A : Around) (σ : St) (f : Addr) (Xs : List V) (Q : V → St → Prop) : Prop :=
 ∀ ρ st vs, Den c σ ρ st → VRs (wd c σ ρ st) Xs vs → codeAny (MM c) A (.call (.ref f) ⟨vs, []⟩) (fun r s' => match r with | .ok (.ret v) => Post c (wd c σ ρ st) Q v s' | .ok _ => False | .error e => noExc e s') st
theorem Cd.ca {c : Cx} {A : Around} {σ : St} {f : Addr} {Xs : List V} {Q : V → St → Prop} (h : Cd c A σ f Xs Q) : Ca c A σ (.obj f) Xs Q := by
 intro ρ st fv vs D rf rs
 have e : fv = .ref f := rf
 subst e
 exact wpAny_call (h ρ st vs D rs)
theorem call_codeE {l₀ : List (Option V)} {H₀ : AH} {c : Cx} {A : Around} {f : Addr} {Xs Ys : List V} {Q : V → St → Prop} {fd : FuncData} {ns : List Str} {ts : List TS}
  (G : Good c) (rm : Room 1 A) (ok : DefOk c.w.params f fd ns ts) (bd : Bd c A.in1 ⟨l₀, H₀⟩ fd ns Xs Ys) (hle : Ys.length ≤ ns.length)
  (vc : ∀ c', Fit ⟨ns, fd.scope⟩ c' → Good c' → c'.w = c.w → ∀ L, c'.env = callEnvC fd L f → c'.outs = c.env.locals :: c.outs → vcSs (A.deeper (callEnvC fd L f)) ts c' ⟨locs0 ns Ys, H₀⟩ ⟨fun σ' => Q .none ⟨l₀, σ'.H⟩, fun _ => False, fun _ => False, fun X σ' => Q X ⟨l₀, σ'.H⟩⟩) :
  Cd c A ⟨l₀, H₀⟩ f Xs Q := by
 intro ρ st vs D rs
 have kin := D.K G.top
 obtain ⟨ob, ho, hd⟩ := ok.here
 obtain ⟨body, hb, chk⟩ := ok.body
 have hk := ok.kind
 have hall : ∀ n ∈ ns, fd.scope.names.lookup n = some .local ∨ (fd.scope.names.lookup n = some .cell ∧ ∀ k, ((cellsFrom k fd.scope.names []).lookup n).isSome = true) := fun n hn => by
  have := List.all_eq_true.mp ok.loc n hn
  simp only [Bool.or_eq_true, Bool.and_eq_true, beq_iff_eq] at this
  rcases this with h | ⟨h1, h2⟩
  ·exact .inl h
  ·exact .inr ⟨h1, fun k => cells_some _ k _ h2⟩
 refine codeAny_call_function (by have := rm.depth; have : recursionLimit = 1000 := rfl; lia) (kin f ob ho) hd ok.co ok.gen hb (codeRec_of kin ok.code) ?_
 refine noted (bd ρ st vs D rs (fun binds st1 => ∃ vs', binds = (ns.take Ys.length).zip vs' ∧ (∀ b o, st.heap.get? b = some o → st1.heap.get? b = some o) ∧ st1.gens = st.gens ∧ st1.os = st.os ∧ VRs (wd c ⟨l₀, H₀⟩ ρ st1) Ys vs') fun vs' st1 kp hg ho' r' => ⟨vs', rfl, kp, hg, ho', r'⟩) fun binds st1 ⟨vs', eb, kp, hg, ho', r'⟩ => ?_
 subst eb
 obtain ⟨D1, x1⟩ := D.keeps (st' := st1) kp hg ho'
 rw [ok.clo]
 have mem_take : ∀ x ∈ (ns.take Ys.length).zip vs', x.1 ∈ ns := fun x hx => List.mem_of_mem_take (List.of_mem_zip hx).1
 refine wpAny_newFunctionEnv_cells hk (fun x hx => (hall x.1 (mem_take x hx)).imp id fun h => ⟨h.1, h.2 _⟩) fun env he s₁ IC => ?_
 let L := st1.heap.objs.size
 have hLn : st1.heap.get? L = none := get_size _
 have fr := D1.fresh hLn
 have he' : env = callEnvC fd L f := he
 subst he'
 have kp1 : ∀ b o, st1.heap.get? b = some o → s₁.heap.get? b = some o := IC.toInCall.keep
 obtain ⟨hh1, tk1, es1⟩ := IC.toInCall.same
 refine ⟨(G.lim.keeps D1.top).keeps kp1, codeAny_func ?_⟩
 let c' : Cx := { w := c.w, env := callEnvC fd L f, names := ns, h1 := c.h1, h0 := s₁.heap, foot := fun a => (∃ i x, (H₀.get i x).isSome = true ∧ a = ρ i x) ∨ a = L ∨ ∃ y, (y, a) ∈ (callEnvC fd L f).cells, os := c.os, outs := c.env.locals :: c.outs }
 have cn : ∀ y ca, (y, ca) ∈ (callEnvC fd L f).cells → st1.heap.get? ca = none := fun y ca h => by
  have h1 : st1.heap.objs.size < ca := IC.above y ca h
  cases e : st1.heap.get? ca with
  | none => rfl
  | some o => exact absurd (Heap.lt_size e) (Nat.not_lt.mpr (Nat.le_of_lt h1))
 have x0 : Ext (wd c ⟨l₀, H₀⟩ ρ st1) (wd c' ⟨locs0 ns Ys, H₀⟩ ρ s₁) := ⟨fun _ _ h => h, fun _ _ _ => rfl, fun a o h _ => kp1 a o h⟩
 have keys : ((callEnvC fd L f).cells.map (·.1)).Nodup := by
  show ((cellsFrom (L + 1) fd.scope.names []).map (·.1)).Nodup
  rw [cells_keys fd.scope.names (L + 1) 0 [] [] rfl]; exact ok.cnd
 have celk : ∀ y ca, (y, ca) ∈ (callEnvC fd L f).cells → ∃ o v, s₁.heap.get? ca = some o ∧ o.data = .cell v := fun y ca h => by
  obtain ⟨o, g, d⟩ := IC.cell y ca (mem_lookup h keys)
  exact ⟨o, _, g, d⟩
 have D2 : Den c' ⟨locs0 ns Ys, H₀⟩ ρ s₁ := by
  refine ⟨by rw [es1]; exact D1.gens, by rw [es1]; exact D1.os, fun a o h _ => Kept.same h, fun a o h => kp1 _ _ (D1.top a o h), fun a o h => ⟨o, h⟩, fun i x o h => (D1.objs i x o h).ext x0 rfl (fun ob' => kp1 _ ob'), D1.inj, fun i x h => ⟨.inl (.inl ⟨i, x, h, rfl⟩), (D1.new i x h).2⟩,
   ⟨_, IC.toInCall.ns, LocsR.of_get ?_ fun j x ov h1 h2 => ?_⟩, ⟨.inl (.inr (.inl rfl)), fr.h1⟩, fun i x h => fr.ref i x h, fun y ca h => ?_, ?_, fun K hK => ?_⟩
  ·show ns.length = (locs0 ns Ys).length
   unfold locs0; simp; grind
  ·have h2 : (locs0 ns Ys)[j]? = some ov := h2
   have kx : (callEnvC fd L f).kindOf x = fd.scope.names.lookup x := rfl
   have nd := ok.nodup
   unfold locs0 at h2
   by_cases hj : j < Ys.length
   ·rw [List.getElem?_append_left (by simpa using hj), List.getElem?_map] at h2
    obtain ⟨Y, hY, rfl⟩ := Option.map_eq_some_iff.mp h2
    obtain ⟨u, hu, ru⟩ := (VRs.at j r').1 Y hY
    have ndt : (ns.take Ys.length).Nodup := nd.sublist (List.take_sublist ..)
    unfold LocR
    show match (callEnvC fd L f).kindOf x, some Y with | _, _ => _
    rcases hall x (List.mem_of_getElem? h1) with hl | ⟨hl, hs⟩
    ·rw [kx, hl]
     exact ⟨u, bindL_at (by rw [kx, hl]) _ _ _ j ndt (take_get h1 hj) hu, ru.ext x0 _ _⟩
    ·rw [kx, hl]
     obtain ⟨ca, hca⟩ := Option.isSome_iff_exists.mp (hs (L + 1))
     obtain ⟨o, g, d⟩ := IC.cell x ca hca
     rw [bindC_at (by rw [kx, hl]; decide) _ _ _ j ndt (take_get h1 hj) hu] at d
     exact ⟨ca, o, u, hca, g, d, ru.ext x0 _ _⟩
   ·rw [List.getElem?_append_right (by simpa using hj)] at h2
    have : ov = none := by
     rw [List.getElem?_replicate] at h2
     split at h2 <;> simp_all
    subst this
    have nt : x ∉ ns.take Ys.length := fun hm => by
     obtain ⟨i, hi, e⟩ := List.getElem_of_mem hm
     have hi1 : i < Ys.length := by simp at hi; lia
     have e1 : ns[i]? = some x := by
      have := List.getElem?_eq_getElem hi
      rw [e, List.getElem?_take, if_pos hi1] at this
      exact this
     have hi2 := (List.getElem?_eq_some_iff.mp e1).1
     have hj2 := (List.getElem?_eq_some_iff.mp h1).1
     have : i = j := (List.getElem_inj (h₀ := hi2) (h₁ := hj2) nd).mp (by rw [(List.getElem?_eq_some_iff.mp e1).2, (List.getElem?_eq_some_iff.mp h1).2])
     lia
    unfold LocR
    show match (callEnvC fd L f).kindOf x, (none : Option V) with | _, _ => _
    rcases hall x (List.mem_of_getElem? h1) with hl | ⟨hl, hs⟩
    ·rw [kx, hl]
     exact bindL_other _ _ _ nt
    ·rw [kx, hl]
     obtain ⟨ca, hca⟩ := Option.isSome_iff_exists.mp (hs (L + 1))
     obtain ⟨o, g, d⟩ := IC.cell x ca hca
     rw [bindC_other _ _ _ nt] at d
     exact ⟨ca, o, hca, g, d⟩
  ·have h : (y, ca) ∈ (callEnvC fd L f).cells := h
   have cf := D1.fresh (cn y ca h)
   refine ⟨⟨.inl (.inr (.inr ⟨y, h⟩)), cf.h1⟩, ?_, cf.ref, celk y ca h⟩
   have : L < ca := IC.above y ca h
   exact Nat.ne_of_gt this
  ·have := IC.apart
   show ((callEnvC fd L f).cells.map (·.2)).Nodup
   exact List.pairwise_map.mpr this
  ·have hK : K ∈ c.env.locals :: c.outs := hK
   have gen : ∀ K, c.h1.get? K = none → (∀ i x, (H₀.get i x).isSome = true → ρ i x ≠ K) → (∃ o es ep, st1.heap.get? K = some o ∧ o.data = .dict es ep) → c'.h1.get? K = none ∧ K ≠ c'.env.locals ∧ (∀ y ca, (y, ca) ∈ c'.env.cells → K ≠ ca) ∧ (∀ i x, (H₀.get i x).isSome = true → ρ i x ≠ K) ∧ ∃ o es ep, s₁.heap.get? K = some o ∧ o.data = .dict es ep := fun K a b ⟨o, es, ep, g, q⟩ =>
    ⟨a, fun e => (by have e : K = L := e; subst e; rw [hLn] at g; cases g), fun y ca h e => (by subst e; rw [cn y K h] at g; cases g), b, o, es, ep, kp1 _ _ g, q⟩
   rcases List.mem_cons.mp hK with e | hK
   ·subst e
    obtain ⟨m, ⟨o, es, ep, g, q, _⟩, _⟩ := D1.loc
    exact gen _ D1.frame.2 D1.fsep ⟨o, es, ep, g, q⟩
   ·obtain ⟨a, _, _, b, q⟩ := D1.outs K hK
    exact gen K a b q
 have F' : Fit ⟨ns, fd.scope⟩ c' := ⟨rfl, ok.nodup, rfl, hk, ok.glob, ok.blt, G.top⟩
 have hh : (A.deeper (callEnvC fd L f)).handled = none := rm.handled
 have back : ∀ σ' ρ' st', Den c' σ' ρ' st' → Ext (wd c' ⟨locs0 ns Ys, H₀⟩ ρ s₁) (wd c' σ' ρ' st') → Den c ⟨l₀, σ'.H⟩ ρ' st' ∧ Ext (wd c ⟨l₀, H₀⟩ ρ st) (wd c ⟨l₀, σ'.H⟩ ρ' st') := by
  intro σ' ρ' st' D' x'
  have X' : Ext (wd c ⟨l₀, H₀⟩ ρ st1) (wd c ⟨l₀, σ'.H⟩ ρ' st') := x0.trans x'
  have nf : ∀ a o, st1.heap.get? a = some o → (∀ i x, (H₀.get i x).isSome = true → a ≠ ρ i x) → Kept (c.env.locals :: c.outs) st'.heap a o := fun a o h h1 => D'.keep a o (kp1 a o h) fun q => by
   rcases q with ⟨i, x, d, e⟩ | e | ⟨y, hy⟩
   ·exact h1 i x d e
   ·subst e; rw [hLn] at h; cases h
   ·rw [cn y a hy] at h; cases h
  have frs : ∀ i x, (σ'.H.get i x).isSome = true → (∃ j y, (H₀.get j y).isSome = true ∧ ρ' i x = ρ j y) ∨ st1.heap.get? (ρ' i x) = none := fun i x h => by
   rcases (D'.new i x h).1 with (⟨j, y, d, e⟩ | e | ⟨y, hy⟩) | q
   ·exact .inl ⟨j, y, d, e⟩
   ·exact .inr (by rw [e]; exact hLn)
   ·exact .inr (cn y _ hy)
   ·right
    cases e : st1.heap.get? (ρ' i x) with
    | none => rfl
    | some o => have q' : s₁.heap.get? (ρ' i x) = none := q; rw [kp1 _ o e] at q'; cases q'
  refine ⟨⟨D'.gens, D'.os, fun a o h f' => (D1.keep a o h f').trans (fun ob g => nf a ob g fun i x d e => ?_) (fun n q => ?_), D'.top, fun a o h => ?_, D'.objs, D'.inj, fun i x h => ⟨?_, (D'.new i x h).2⟩, ?_, D1.frame, fun i x h e => ?_, fun y ca h => ?_, D1.cnodup, fun K hK => ?_⟩, x1.trans X'⟩
  ·subst e
   rcases (D1.new i x d).1 with q | q
   ·exact f' q
   ·rw [h] at q; cases q
  ·rcases List.mem_cons.mp q with e | q'
   ·subst e
    rcases D1.frame.1 with q2 | q2
    ·exact f' q2
    ·rw [h] at q2; cases q2
   ·exact n q'
  ·obtain ⟨z, g⟩ := D1.alive a o h
   exact D'.alive a z (kp1 a z g)
  ·rcases frs i x h with ⟨j, y, d, e⟩ | q
   ·rw [e]; exact (D1.new j y d).1
   ·exact .inr (D1.fresh q).h0
  ·obtain ⟨m, n, l⟩ := D1.loc
   refine ⟨m, ?_, l.ext X' (fun y ca o q g => (nf ca o g fun i x d e => ?_).2 fun hK => ?_) _ _⟩
   ·obtain ⟨o, es, ep, g, q⟩ := n
    obtain ⟨sl, g'⟩ := (nf _ _ g (fun i x d e => D1.fsep i x d e.symm)).1
    exact ⟨_, es, ep, g', q⟩
   ·exact (D1.cells y ca (lookup_mem q)).2.2.1 i x d e.symm
   ·rcases List.mem_cons.mp hK with e | hK
    ·exact (D1.cells y ca (lookup_mem q)).2.1 e
    ·exact (D1.outs ca hK).2.2.1 y ca (lookup_mem q) rfl
  ·rcases frs i x h with ⟨j, y, d, e'⟩ | q
   ·rw [e] at e'; exact D1.fsep j y d e'.symm
   ·exact (D1.fresh q).frame e.symm
  ·obtain ⟨a', b', d', o, v, g, e⟩ := D1.cells y ca h
   refine ⟨a', b', fun i x hd e' => ?_, o, v, (nf ca o g (fun i x d e => d' i x d e.symm)).2 fun hK => ?_, e⟩
   rcases frs i x hd with ⟨j, z, d, e2⟩ | q
   ·exact d' j z d (by rw [← e2, e'])
   ·exact (D1.fresh q).cell y (by rw [e']; exact h)
   ·rcases List.mem_cons.mp hK with e | hK
    ·exact b' e
    ·exact (D1.outs ca hK).2.2.1 y ca h rfl
  ·obtain ⟨a, b, d, _⟩ := D1.outs K hK
   obtain ⟨_, _, _, e⟩ := D'.outs K (List.mem_cons_of_mem _ hK)
   exact ⟨a, b, d, e⟩
 refine noted (sndSs hh ts body chk c' F' ⟨locs0 ns Ys, H₀⟩ _ (vc c' F' ⟨G.top, G.lim⟩ rfl L rfl rfl) ρ s₁ D2) fun fl s' P => ?_
 cases fl with
 | next => obtain ⟨σ', ρ', D', x', q⟩ := P; obtain ⟨a, b⟩ := back σ' ρ' s' D' x'; exact ⟨.none, _, ρ', a, rfl, b, q⟩
 | brk => obtain ⟨σ', ρ', D', x', q⟩ := P; exact q.elim
 | cont => obtain ⟨σ', ρ', D', x', q⟩ := P; exact q.elim
 | ret v => obtain ⟨X, σ', ρ', D', r', x', q⟩ := P; obtain ⟨a, b⟩ := back σ' ρ' s' D' x'; exact ⟨X, _, ρ', a, r', b, q⟩
theorem Room.deeper {n : Nat} {A : Around} {env : Env} (h : Room (n + 1) A) : Room n (A.deeper env) := ⟨by have := h.depth; show A.depth + 1 + 2 * n < 600; lia, by have := h.units; show A.units + 3 + 12 * n < cLine; lia, h.handled⟩
theorem Room.make {n : Nat} {A : Around} {C : Addr} {vs : List Value} (h : Room (n + 1) A) : Room n (A.under (.builtin "type.__call__" ⟨.ref C :: vs, []⟩)) := ⟨by have := h.depth; show A.depth + 1 + 2 * n < 600; grind, by have := h.units; show A.units + 1 + 12 * n < cLine; lia, h.handled⟩
theorem Room.less {n m : Nat} {A : Around} (h : Room n A) (hm : m ≤ n) : Room m A := ⟨by have := h.depth; grind, by have := h.units; grind, h.handled⟩
theorem Room.hu {n : Nat} {A : Around} (h : Room n A) : A.units < cLine := by have := h.units; grind
theorem call_code {l₀ : List (Option V)} {H₀ : AH} {c : Cx} {A : Around} {f : Addr} {Xs Ys : List V} {Q : V → St → Prop} {fd : FuncData} {ns : List Str} {ts : List TS}
  (G : Good c) (rm : Room 1 A) (ok : DefOk c.w.params f fd ns ts) (bd : Bd c A.in1 ⟨l₀, H₀⟩ fd ns Xs Ys) (hle : Ys.length ≤ ns.length)
  (vc : ∀ c', Fit ⟨ns, fd.scope⟩ c' → Good c' → c'.w = c.w → ∀ L, vcSs (A.deeper (callEnvC fd L f)) ts c' ⟨locs0 ns Ys, H₀⟩ ⟨fun σ' => Q .none ⟨l₀, σ'.H⟩, fun _ => False, fun _ => False, fun X σ' => Q X ⟨l₀, σ'.H⟩⟩) :
  Cd c A ⟨l₀, H₀⟩ f Xs Q := call_codeE G rm ok bd hle fun c' F' G' hw L _ _ => vc c' F' G' hw L
noncomputable def Stk (c : Cx) (A : Around) : Prop := ∃ es, A.frames = some (c.env :: es) ∧ c.env.frame = some c.env.locals ∧ c.env.scope.kind ≠ .module ∧ (∀ e ∈ es, e.scope.kind ≠ .module) ∧ es.map (·.frame) = c.outs.map some
theorem Stk.deeper {c c' : Cx} {A : Around} {fd : FuncData} {L f : Addr} (h : Stk c A) (hk : fd.scope.kind ≠ .module) (he : c'.env = callEnvC fd L f) (ho : c'.outs = c.env.locals :: c.outs) : Stk c' (A.deeper (callEnvC fd L f)) := by
 obtain ⟨es, h1, h2, h3, h4, h5⟩ := h
 refine ⟨c.env :: es, by rw [he]; exact Around.frames_deeper h1, by rw [he]; rfl, by rw [he]; exact hk, fun e h => ?_, ?_⟩
 ·rcases List.mem_cons.mp h with q | q
  ·rw [q]; exact h3
  ·exact h4 e q
 ·rw [ho, List.map_cons, List.map_cons, h2, h5]
end
section
structure CD where
 ns : List Str
 cap : List (Nat × Nat)
 tg : TT
 it : TE
 ifs : List TE
 elt : TE
noncomputable def reK (k : Ck) (sc : Scope) : Scope := { sc with names := sc.names.map fun (n, kd) => if (kd == .free && k.sc.kind == .function && k.sc.names.lookup n == some .cell) then (n, .cell) else (n, kd) }
theorem relabel_reK {k : Ck} {c : Cx} (F : Fit k c) (sc : Scope) : relabel sc c.env = reK k sc := by
 unfold relabel reK
 have : (fun x : Str => c.env.kindOf x) = fun x => k.sc.names.lookup x := funext F.kindOf
 simp only [F.sc, F.kindOf]
noncomputable def ixOk (k : Ck) (d : CD) (sc : Scope) (i : Nat) : Bool := onSome (d.ns[i]?) fun n =>
 ((reK k sc).names.lookup n == some .local && (d.cap.lookup i).isNone) || ((reK k sc).names.lookup n == some .cell && onSome (d.cap.lookup i) fun o => k.names[o]? == some n && (k.sc.names.lookup n == some .cell && sc.names.any (fun x => x.1 == n && x.2 == .free)))
structure CompFacts (k : Ck) (d : CD) (sc : Scope) : Prop where
 kind : sc.kind = .function
 nd : d.ns.Nodup
 nocell : ∀ x ∈ sc.names, x.2 ≠ .cell
 loc : ∀ x ∈ sc.names, x.2 = .local → sc.names.lookup x.1 = some .local
 ix : ∀ i, i < d.ns.length → ixOk k d sc i = true
 free : ∀ x ∈ sc.names, x.2 = .free → x.1 ∈ d.ns ∧ k.sc.names.lookup x.1 = some .cell ∧ x.1 ∈ k.names
 ndn : (sc.names.map (·.1)).Nodup
noncomputable def cfOk (k : Ck) (d : CD) (sc : Scope) : Bool := (sc.kind == .function) && (decide d.ns.Nodup && (sc.names.all (fun x => x.2 != .cell) && (sc.names.all (fun x => x.2 != .local || sc.names.lookup x.1 == some .local) && ((List.range d.ns.length).all (ixOk k d sc) &&
 (sc.names.all (fun x => x.2 != .free || (d.ns.contains x.1 && (k.sc.names.lookup x.1 == some .cell && k.names.contains x.1))) && decide ((sc.names.map (·.1)).Nodup))))))
theorem all_e {α : Type} {l : List α} {f : α → Bool} (h : l.all f = true) (x : α) (hx : x ∈ l) : f x = true := List.all_eq_true.mp h x hx
theorem or_e {a b : Bool} {C : Prop} (h : (a || b) = true) (k1 : a = true → C) (k2 : b = true → C) : C := by
 cases a
 ·exact k2 h
 ·exact k1 rfl
theorem cf_ok {k : Ck} {d : CD} {sc : Scope} (h : cfOk k d sc = true) : CompFacts k d sc :=
 and_e h fun h1 h => and_e h fun h2 h => and_e h fun h3 h => and_e h fun h4 h => and_e h fun h5 h => and_e h fun h6 h7 =>
 ⟨eq_of_beq h1, of_decide_eq_true h2, fun x hx => bne_iff_ne.mp (all_e h3 x hx), fun x hx e => or_e (all_e h4 x hx) (fun n => absurd e (bne_iff_ne.mp n)) eq_of_beq, fun i hi => all_e h5 i (List.mem_range.mpr hi),
  fun x hx e => or_e (all_e h6 x hx) (fun n => absurd e (bne_iff_ne.mp n)) fun h => and_e h fun a h => and_e h fun b c => ⟨List.contains_iff_mem.mp a, eq_of_beq b, List.contains_iff_mem.mp c⟩, of_decide_eq_true h7⟩
noncomputable def onLC (e : Expr) (f : Expr → Expr → Expr → List Expr → Scope → Pos → Bool) : Bool := onListComp e fun elt gs sc p => onOne gs fun g => g.is_async == 0 && f elt g.target g.iter g.ifs sc p
theorem onLC_e {P : Expr → Prop} {e : Expr} {f : Expr → Expr → Expr → List Expr → Scope → Pos → Bool} (h : onLC e f = true) (k : ∀ elt tg it ifs sc p, f elt tg it ifs sc p = true → P (.ListComp elt [⟨tg, it, ifs, 0⟩] sc p)) : P e :=
 onListComp_e h fun elt gs sc p h => onOne_e (P := fun gs => P (.ListComp elt gs sc p)) h fun g h => and_e h fun h0 h => by
  cases g with
  | mk tg it ifs a => cases eq_of_beq h0; exact k elt tg it ifs sc p h
noncomputable def chkCo (k : Ck) (d : CD) (elt tg it : Expr) (ifs : List Expr) (sc : Scope) : Bool :=
 chkE k d.it it && (it.ctorIdx != 7 && (chkT1 ⟨d.ns, reK k sc⟩ d.tg tg && (chkEs ⟨d.ns, reK k sc⟩ d.ifs ifs && (chkE ⟨d.ns, reK k sc⟩ d.elt elt && cfOk k d sc))))
noncomputable def chkComp (k : Ck) (d : CD) (e : Expr) : Bool := onLC e fun elt tg it ifs sc _ => chkCo k d elt tg it ifs sc
noncomputable def CapOk (d : CD) (σ : St) (loc : List (Option V)) : Prop := loc.length = d.ns.length ∧ ∀ i o, d.cap.lookup i = some o → i < d.ns.length → loc[i]? = σ.loc[o]?
noncomputable def cloOf (names : List (Str × NameKind)) (cells : List (Str × Addr)) : List (Str × Addr) → List (Str × Addr) := fun acc => match names with
 | [] => acc
 | (n, kd) :: r => cloOf r cells (if kd == .free then (match cells.lookup n with | some a => (n, a) :: acc | none => acc) else acc)
theorem clo_forIn {env : Env} (f : Str × NameKind → List (Str × Addr) → Sem (ForInStep (List (Str × Addr))))
  (hf : ∀ n kd cs, f (n, kd) cs = if kd == .free then (do let a ← cellOf env n; pure (.yield ((n, a) :: cs))) else pure (.yield cs)) :
  ∀ (names : List (Str × NameKind)) (acc : List (Str × Addr)), (∀ x ∈ names, x.2 = .free → (env.cells.lookup x.1).isSome = true) → forIn names acc f = pure (cloOf names env.cells acc)
 | [], acc, _ => by rw [List.forIn_nil]; rfl
 | (n, kd) :: r, acc, h => by
  rw [List.forIn_cons, hf]
  cases hk : kd == NameKind.free with
  | true =>
   obtain ⟨a, ha⟩ := Option.isSome_iff_exists.mp (h (n, kd) (.head _) (eq_of_beq hk))
   simp only [if_true, cellOf, ha]
   have ih := clo_forIn f hf r ((n, a) :: acc) (fun x hx => h x (.tail _ hx))
   rw [cloOf]
   simp only [hk, ha, if_true]
   exact ih
  | false =>
   have ih := clo_forIn f hf r acc (fun x hx => h x (.tail _ hx))
   rw [cloOf]
   simp only [hk, Bool.false_eq_true, if_false]
   exact ih
theorem clo_eq {sc : Scope} {env : Env} (h : ∀ x ∈ sc.names, x.2 = .free → (env.cells.lookup x.1).isSome = true) : closureFor sc env = pure (cloOf sc.names env.cells []) := by
 unfold closureFor
 dsimp only
 rw [clo_forIn (env := env) _ (fun n kd cs => by cases hk : kd == NameKind.free <;> simp) sc.names [] h]
 rfl
theorem clo_mem {cells : List (Str × Addr)} {names : List (Str × NameKind)} {acc : List (Str × Addr)} {p : Str × Addr} (h : p ∈ cloOf names cells acc) : p ∈ acc ∨ (cells.lookup p.1 = some p.2 ∧ (p.1, NameKind.free) ∈ names) := by
 induction names generalizing acc with
 | nil => exact .inl h
 | cons q r ih =>
  rcases ih h with h' | h'
  ·split at h'
   ·rename_i hk
    split at h'
    ·rename_i a ha
     rcases List.mem_cons.mp h' with e | h''
     ·subst e; exact .inr ⟨ha, by rw [← eq_of_beq hk]; exact .head _⟩
     ·exact .inl h''
    ·exact .inl h'
   ·exact .inl h'
  ·exact .inr ⟨h'.1, .tail _ h'.2⟩
theorem clo_has {cells : List (Str × Addr)} {n : Str} {a : Addr} (ha : cells.lookup n = some a) {names : List (Str × NameKind)} {acc : List (Str × Addr)} (h : (n, NameKind.free) ∈ names ∨ (n, a) ∈ acc) : (n, a) ∈ cloOf names cells acc := by
 induction names generalizing acc with
 | nil => exact h.resolve_left (fun h => nomatch h)
 | cons q r ih =>
  refine ih ?_
  rcases h with h | h
  ·rcases List.mem_cons.mp h with e | h'
   ·subst e
    right
    rw [if_pos (by rfl), ha]
    exact .head _
   ·exact .inl h'
  ·right
   split
   ·split
    ·exact .tail _ h
    ·exact h
   ·exact h
theorem clo_keys {cells : List (Str × Addr)} {names : List (Str × NameKind)} {acc : List (Str × Addr)} (hn : (names.map (·.1)).Nodup) (ha : (acc.map (·.1)).Nodup) (hd : ∀ x ∈ names, x.1 ∉ acc.map (·.1)) : ((cloOf names cells acc).map (·.1)).Nodup := by
 induction names generalizing acc with
 | nil => exact ha
 | cons q r ih =>
  rw [List.map_cons, List.nodup_cons] at hn
  refine ih hn.2 ?_ ?_
  ·split
   ·split
    ·rw [List.map_cons, List.nodup_cons]; exact ⟨hd _ (.head _), ha⟩
    ·exact ha
   ·exact ha
  ·intro x hx
   split
   ·split
    ·rw [List.map_cons, List.mem_cons, not_or]
     exact ⟨fun e => hn.1 (List.mem_map.mpr ⟨x, hx, e⟩), hd x (.tail _ hx)⟩
    ·exact hd x (.tail _ hx)
   ·exact hd x (.tail _ hx)
noncomputable def compVc (c : Cx) (A : Around) (d : CD) (σ : St) (xs : List V) (f : V → Option V) : Prop :=
 ∀ c' : Cx, c'.w = c.w → c'.h1 = c.h1 → ∀ loc Y, CapOk d σ loc → Y ∈ xs → vcT1 c' A d.tg Y ⟨loc, σ.H⟩ fun σ₂ => vcT c' A .And d.ifs σ₂ fun b σ₃ =>
  sel b (vcE c' A d.elt σ₃ (fun Z σ₄ => f Y = some Z ∧ σ₄.H = σ.H ∧ CapOk d σ σ₄.loc)) (f Y = none ∧ σ₃.H = σ.H ∧ CapOk d σ σ₃.loc)
noncomputable abbrev ifsGo (c : Cx) (es : List Expr) (b : Bool) : Sem Bool := forIn es b fun e r => if r = true then do let ok ← isTrue e c.env (eval e c.env); pure (ForInStep.yield ok) else pure (ForInStep.yield r)
theorem ifs_stay {c : Cx} {A : Around} {P : Bool → Shared → Prop} {l : List Expr} {s : Shared} (h : P false s) : wpAny (MM c) A (ifsGo c l false) P noExc s := by
 induction l with
 | nil => unfold ifsGo; rw [List.forIn_nil]; exact wpAny_pure h
 | cons y l ih => unfold ifsGo; rw [List.forIn_cons, if_neg Bool.false_ne_true]; exact wpAny_bind (wpAny_pure ih)
theorem ifs_all {c : Cx} {A : Around} {Q : Tst → St → Prop} {k : Ck} (F : Fit k c) {ts : List TE} {es : List Expr} (h : chkEs k ts es = true) {σ : St} {ρ : Nat → Int → Addr} {st : Shared} (D : Den c σ ρ st) (q : vcT c A .And ts σ Q) :
  wpAny (MM c) A (ifsGo c es true) (PostB c (wd c σ ρ st) (TQ Q)) noExc st := by
 induction ts generalizing es σ ρ st with
 | nil =>
  refine nil_e (P := fun es => wpAny (MM c) A (ifsGo c es true) (PostB c (wd c σ ρ st) (TQ Q)) noExc st) h ?_
  unfold ifsGo
  rw [List.forIn_nil]
  exact wpAny_pure (PostB.now D (.lit q))
 | cons t ts ih =>
  refine onCons_e (P := fun es => wpAny (MM c) A (ifsGo c es true) (PostB c (wd c σ ρ st) (TQ Q)) noExc st) h fun x r h => and_e h fun hn h => and_e h fun hx hr => ?_
  unfold ifsGo
  rw [List.forIn_cons, if_pos rfl]
  refine wpAny_bind (wpAny_bind (wpB (sndB F t x hx σ _ q ρ st D) fun b s₁ σ₁ ρ₁ D₁ x₁ q₁ => wpAny_pure ?_))
  cases q₁ with
  | mk t ok q₁ =>
  cases b with
  | true => exact noE (ih hr D₁ (sel_yes ok q₁)) fun _ _ P => P.up x₁
  | false => exact ifs_stay ⟨σ₁, ρ₁, D₁, x₁, .lit (sel_no ok q₁)⟩
theorem relabel_in {k : Ck} {n : Str} (hk : k.sc.kind = .function) (hc : k.sc.names.lookup n = some .cell) {l : List (Str × NameKind)} (hn : (l.map (·.1)).Nodup) (h : (n, NameKind.free) ∈ l) : (l.map fun (n, kd) => if (kd == .free && k.sc.kind == .function && k.sc.names.lookup n == some .cell) then (n, NameKind.cell) else (n, kd)).lookup n = some .cell := by
 induction l with
 | nil => cases h
 | cons p l ih =>
  obtain ⟨m, kd⟩ := p
  rw [List.map_cons, List.nodup_cons] at hn
  rw [List.map_cons]
  rcases List.mem_cons.mp h with e | h'
  ·cases e
   simp [hk, hc]
  ·have hne : (n == m) = false := beq_eq_false_iff_ne.mpr fun e => hn.1 (by subst e; exact List.mem_map.mpr ⟨_, h', rfl⟩)
   have := ih hn.2 h'
   dsimp only
   split <;> (rw [List.lookup_cons]; simp only [hne]; exact this)
theorem lookup_relabel {k : Ck} {sc : Scope} {n : Str} (hnd : (sc.names.map (·.1)).Nodup) (h : (n, NameKind.free) ∈ sc.names) (hk : k.sc.kind = .function) (hc : k.sc.names.lookup n = some .cell) : (reK k sc).names.lookup n = some .cell := relabel_in hk hc hnd h
theorem ix_cases {k : Ck} {d : CD} {sc : Scope} (cf : CompFacts k d sc) {i : Nat} {n : Str} {C : Prop} (h : d.ns[i]? = some n)
  (k1 : (reK k sc).names.lookup n = some .local → d.cap.lookup i = none → C) (k2 : ∀ o, (reK k sc).names.lookup n = some .cell → d.cap.lookup i = some o → k.names[o]? = some n → k.sc.names.lookup n = some .cell → (n, NameKind.free) ∈ sc.names → C) : C := by
 have q := cf.ix i (List.getElem?_eq_some_iff.mp h).1
 unfold ixOk at q
 rw [h] at q
 refine or_e q (fun h => and_e h fun a b => k1 (eq_of_beq a) (Option.isNone_iff_eq_none.mp b)) fun h => and_e h fun a h => ?_
 cases e : d.cap.lookup i with
 | none => rw [e] at h; cases h
 | some o =>
  rw [e] at h
  exact and_e h fun b h => and_e h fun c' h => by
   obtain ⟨x, hx, h⟩ := List.any_eq_true.mp h
   exact and_e h fun e1 e2 => k2 o (eq_of_beq a) e (eq_of_beq b) (eq_of_beq c') (by rw [← eq_of_beq e1, ← eq_of_beq e2]; exact hx)
theorem cells_inj {l : List (Str × Addr)} (h : (l.map (·.2)).Nodup) {x y : Str} {a : Addr} (h1 : (x, a) ∈ l) (h2 : (y, a) ∈ l) : x = y := by
 induction l with
 | nil => cases h1
 | cons p l ih =>
  rw [List.map_cons, List.nodup_cons] at h
  rcases List.mem_cons.mp h1 with e1 | e1 <;> rcases List.mem_cons.mp h2 with e2 | e2
  ·rw [← e1] at e2; exact congrArg Prod.fst e2.symm
  ·exact absurd (List.mem_map.mpr ⟨_, e2, by rw [← e1]⟩) h.1
  ·exact absurd (List.mem_map.mpr ⟨_, e1, by rw [← e2]⟩) h.1
  ·exact ih h.2 e1 e2
theorem nodup_of {l m : List (Str × Addr)} (hn : (l.map (·.1)).Nodup) (hm : ∀ p ∈ l, p ∈ m) (hi : (m.map (·.2)).Nodup) : (l.map (·.2)).Nodup := by
 induction l with
 | nil => exact List.nodup_nil
 | cons p l ih =>
  rw [List.map_cons, List.nodup_cons] at hn ⊢
  refine ⟨fun hmem => ?_, ih hn.2 fun q hq => hm q (.tail _ hq)⟩
  obtain ⟨q, hq, e⟩ := List.mem_map.mp hmem
  exact hn.1 (List.mem_map.mpr ⟨q, hq, (cells_inj hi (a := p.2) (hm p (.head _)) (by rw [← e]; exact hm q (.tail _ hq))).symm⟩)
noncomputable def cloC (c : Cx) (sc : Scope) : List (Str × Addr) := cloOf sc.names c.env.cells []
theorem clm {c : Cx} {sc : Scope} {y : Str} {a : Addr} (h : (y, a) ∈ cloC c sc) : c.env.cells.lookup y = some a ∧ (y, NameKind.free) ∈ sc.names := (clo_mem h).resolve_left fun h => nomatch h
theorem clk {c : Cx} {sc : Scope} (h : (sc.names.map (·.1)).Nodup) : ((cloC c sc).map (·.1)).Nodup := clo_keys h List.nodup_nil fun _ _ h => nomatch h
noncomputable def compC (c : Cx) (d : CD) (sc : Scope) (σ : St) (ρ : Nat → Int → Addr) (h : Heap) (C : Addr) : Cx := { w := c.w, env := compEnvC sc (cloC c sc) C c.env, names := d.ns, h1 := c.h1, h0 := h, foot := fun a => (∃ i x, (σ.H.get i x).isSome = true ∧ a = ρ i x) ∨ a = C ∨ ∃ y, (y, a) ∈ cloC c sc, os := c.os, outs := c.outs }
section
variable {k : Ck} {c : Cx} {A : Around} (F : Fit k c) {d : CD} {sc : Scope} (cf : CompFacts k d sc) {σ : St} {ρ : Nat → Int → Addr} {s₁ : Shared} (D : Den c σ ρ s₁) {C : Addr} (C1 : s₁.heap.get? C = none)
include F
theorem compC_fit (cf : CompFacts k d sc) : Fit ⟨d.ns, reK k sc⟩ (compC c d sc σ ρ s₁.heap C) := ⟨rfl, cf.nd, relabel_reK F sc, cf.kind, F.glob, F.blt, F.top⟩
include cf D
theorem cap_at {i o : Nat} {n : Str} (hi : d.ns[i]? = some n) (ho : d.cap.lookup i = some o) {C : Prop} (g : ∀ ov, (reK k sc).names.lookup n = some .cell → σ.loc[o]? = some ov → (∀ m, s₁.heap.Ns c.env.locals m → LocsR (wd c σ ρ s₁) c.env m c.names σ.loc → LocR (wd c σ ρ s₁) c.env m n ov) → c.env.kindOf n = some .cell → (n, NameKind.free) ∈ sc.names → k.names[o]? = some n → C) : C :=
 ix_cases cf hi (fun _ q => by rw [ho] at q; cases q) fun o' q1 q2 q3 q4 q5 => by
  rw [ho] at q2; cases q2
  obtain ⟨ov, hov⟩ := D.has F q3
  exact g ov q1 hov (fun m _ l => LocsR.get (by rw [F.names]; exact q3) hov l) ((F.kindOf n).trans q4) q5 q3
theorem comp_out {loc' : List (Option V)} {ρ' : Nat → Int → Addr} {s' : Shared} (C1 : s₁.heap.get? C = none) (D' : Den (compC c d sc σ ρ s₁.heap C) ⟨loc', σ.H⟩ ρ' s') (x' : Ext (wd c σ ρ s₁) (wd c ⟨loc', σ.H⟩ ρ' s')) (cap : CapOk d σ loc') : Den c σ ρ' s' := by
 have same : ∀ i x, (σ.H.get i x).isSome = true → ρ' i x = ρ i x := fun i x h => x'.same i x h
 have nfK : ∀ a o, s₁.heap.get? a = some o → (∀ i x, (σ.H.get i x).isSome = true → a ≠ ρ i x) → (∀ y, (y, a) ∉ cloC c sc) → Kept c.outs s'.heap a o := fun a o h h1 h2 => D'.keep a o h fun q => by
  rcases q with q | e | q
  ·obtain ⟨i, x, d, e⟩ := q; exact h1 i x d e
  ·subst e; rw [C1] at h; cases h
  ·obtain ⟨y, hy⟩ := q; exact h2 y hy
 have nf : ∀ a o, s₁.heap.get? a = some o → (∀ i x, (σ.H.get i x).isSome = true → ρ i x ≠ a) → (∀ y, (y, a) ∉ cloC c sc) → a ∉ c.outs → s'.heap.get? a = some o := fun a o h h1 h2 h3 => (nfK a o h (fun i x d e => h1 i x d e.symm) h2).2 h3
 have cell : ∀ {y a}, (y, a) ∈ cloC c sc → (y, a) ∈ c.env.cells := fun h => lookup_mem (clm h).1
 obtain ⟨m', ns', l'⟩ := D'.loc
 obtain ⟨m₁, ns₁, l₁⟩ := D.loc
 refine ⟨D'.gens, D'.os, fun a o h f' => (D.keep a o h f').trans (fun ob g => nfK a ob g (fun i x d e => ?_) (fun y hy => ?_)) id, D'.top, fun a o h => ?_, D'.objs, D'.inj, fun i x h => ?_, ⟨m₁, ?_, LocsR.of_get l₁.length.symm fun j x ov h1 h2 => ?_⟩, D.frame, fun i x h => by rw [same i x h]; exact D.fsep i x h, fun y ca h => ?_, D.cnodup, fun L hL => ⟨(D.outs L hL).1, (D.outs L hL).2.1, (D.outs L hL).2.2.1, (D'.outs L hL).2.2.2⟩⟩
 ·subst e
  exact (D.new i x d).1.elim f' fun q => by rw [h] at q; cases q
 ·exact (D.cells y a (cell hy)).1.1.elim f' fun q => by rw [h] at q; cases q
 ·obtain ⟨z, g⟩ := D.alive a o h
  exact D'.alive a z g
 ·rw [same i x h]; exact D.new i x h
 ·obtain ⟨o, es, ep', g, q⟩ := ns₁
  exact ⟨o, es, ep', nf _ _ g D.fsep (fun y hy => (D.cells y _ (cell hy)).2.1 rfl) (fun hL => (D.outs _ hL).2.1 rfl), q⟩
 ·have r := LocsR.get h1 h2 l₁
  by_cases hf : (x, NameKind.free) ∈ sc.names
  ·have q := cf.free (x, .free) hf rfl
   have hk := (F.kindOf x).trans q.2.1
   obtain ⟨i, hi, ei⟩ := List.getElem_of_mem q.1
   have ei' : d.ns[i]? = some x := by rw [List.getElem?_eq_getElem hi, ei]
   refine ix_cases cf ei' (fun q1 _ => by rw [lookup_relabel cf.ndn hf F.kind q.2.1] at q1; cases q1) fun o q1 q2 q3 q4 q5 => ?_
   have ej : o = j := by
    have a1 := (List.getElem?_eq_some_iff.mp q3)
    rw [F.names] at h1
    have a2 := (List.getElem?_eq_some_iff.mp h1)
    exact (List.getElem_inj (h₀ := a1.1) (h₁ := a2.1) F.nodup).mp (by rw [a1.2, a2.2])
   subst ej
   have ec := cap.2 i o q2 hi
   rw [h2] at ec
   have r' := LocsR.get ei' ec l'
   unfold LocR at r' ⊢
   rw [(compC_fit F cf).kindOf, q1] at r'
   rw [hk]
   cases ov with
   | some V => obtain ⟨ca, o, v, a, b⟩ := r'; exact ⟨ca, o, v, (clm (lookup_mem a)).1, b⟩
   | none => obtain ⟨ca, o, a, b⟩ := r'; exact ⟨ca, o, (clm (lookup_mem a)).1, b⟩
  ·exact r.ext x' fun ca o lk g => nf ca o g (D.cells _ ca (lookup_mem lk)).2.2.1 (fun y hy => hf (by
    have e := cells_inj D.cnodup (cell hy) (lookup_mem lk)
    subst e; exact (clm hy).2)) fun hL => (D.outs _ hL).2.2.1 _ _ (lookup_mem lk) rfl
 ·obtain ⟨a', b', d', o, v, g, e⟩ := D.cells y ca h
  refine ⟨a', b', fun i x hd => by rw [same i x hd]; exact d' i x hd, ?_⟩
  by_cases hy : ∃ z, (z, ca) ∈ cloC c sc
  ·obtain ⟨z, hz⟩ := hy
   exact (D'.cells z ca hz).2.2.2
  ·exact ⟨o, v, nf ca o g d' (fun z hz => hy ⟨z, hz⟩) (fun hL => (D.outs _ hL).2.2.1 _ _ h rfl), e⟩
omit cf D in
omit F in
theorem cap_len (d : CD) (σ : St) : ((List.range d.ns.length).map fun i => (d.cap.lookup i).bind fun o => (σ.loc[o]?).join).length = d.ns.length := by rw [List.length_map, List.length_range]
omit cf D in
omit F in
theorem cap_get {i : Nat} (hi : i < d.ns.length) : ((List.range d.ns.length).map fun i => (d.cap.lookup i).bind fun o => (σ.loc[o]?).join)[i]? = some ((d.cap.lookup i).bind fun o => (σ.loc[o]?).join) := by
 rw [List.getElem?_map, List.getElem?_range hi]; rfl
noncomputable def capL (d : CD) (σ : St) : List (Option V) := (List.range d.ns.length).map fun i => (d.cap.lookup i).bind fun o => (σ.loc[o]?).join
theorem cap0 : CapOk d σ (capL d σ) := ⟨cap_len d σ, fun i o h hi => cap_at F cf D (List.getElem?_eq_getElem hi) h fun ov _ e _ _ _ _ => by
 unfold capL
 rw [cap_get hi, h, e]
 show some ((σ.loc[o]?).join) = some ov
 rw [e]; rfl⟩
theorem comp_in {s4 : Shared} (C1 : s₁.heap.get? C = none) (kp4 : ∀ b o, s₁.heap.get? b = some o → s4.heap.get? b = some o) (hg : s4.gens = s₁.gens) (ho : s4.os = s₁.os) (hns : s4.heap.Ns C fun _ => none) :
  Den (compC c d sc σ ρ s₁.heap C) ⟨capL d σ, σ.H⟩ ρ s4 ∧ Ext (wd c σ ρ s₁) (wd c ⟨capL d σ, σ.H⟩ ρ s4) := by
 have x4 : Ext (wd c σ ρ s₁) (wd c ⟨capL d σ, σ.H⟩ ρ s4) := ⟨fun _ _ h => h, fun _ _ _ => rfl, fun a o h _ => kp4 a o h⟩
 have frC := D.fresh C1
 have cell : ∀ {y a}, (y, a) ∈ cloC c sc → (y, a) ∈ c.env.cells := fun h => lookup_mem (clm h).1
 refine ⟨⟨hg.trans D.gens, ho.trans D.os, fun a o h _ => Kept.same (kp4 a o h), fun a o h => kp4 _ _ (D.top a o h), fun a o h => ⟨o, kp4 a o h⟩, fun i x o h => (D.objs i x o h).ext x4 rfl (fun ob => kp4 _ ob), D.inj, fun i x h => ⟨.inl (.inl ⟨i, x, h, rfl⟩), (D.new i x h).2⟩,
  ⟨_, hns, LocsR.of_get (cap0 F cf D).1.symm fun j x ov h1 h2 => ?_⟩, ⟨.inl (.inr (.inl rfl)), frC.h1⟩, frC.ref, fun y ca h => ?_, nodup_of (clk cf.ndn) (fun p hp => cell hp) D.cnodup, fun L hL => ?_⟩, x4⟩
 ·have hj : j < d.ns.length := (List.getElem?_eq_some_iff.mp h1).1
  have h2 : (capL d σ)[j]? = some ov := h2
  unfold capL at h2
  rw [cap_get hj] at h2
  have h2 := Option.some.inj h2
  unfold LocR
  rw [(compC_fit F cf).kindOf]
  refine ix_cases cf h1 (fun q1 q2 => ?_) fun o q1 q2 q3 q4 q5 => ?_
  ·rw [q2] at h2
   subst h2
   rw [q1]
   rfl
  ·refine cap_at F cf D h1 q2 fun ov' _ e4 r hk _ _ => ?_
   rw [q2] at h2
   have h2 : (σ.loc[o]?).join = ov := h2
   rw [e4] at h2
   have h2 : ov' = ov := h2
   subst h2
   obtain ⟨m₁, ns₁, l₁⟩ := D.loc
   have r := r m₁ ns₁ l₁
   unfold LocR at r
   rw [hk] at r
   rw [q1]
   have cellAt : ∀ ca, c.env.cells.lookup x = some ca → (cloC c sc).lookup x = some ca := fun ca h => mem_lookup (clo_has h (.inl q5)) (clk cf.ndn)
   cases ov' with
   | some V => obtain ⟨ca, o, v, a, g, dt, rv⟩ := r; exact ⟨ca, o, v, cellAt ca a, kp4 _ _ g, dt, rv.ext x4 _ _⟩
   | none => obtain ⟨ca, o, a, g, dt⟩ := r; exact ⟨ca, o, cellAt ca a, kp4 _ _ g, dt⟩
 ·have h : (y, ca) ∈ cloC c sc := h
  obtain ⟨a', b', d', o, v, g, e⟩ := D.cells y ca (cell h)
  exact ⟨⟨.inl (.inr (.inr ⟨y, h⟩)), a'.2⟩, fun e => frC.cell y (by rw [show C = ca from e.symm]; exact cell h), d', o, v, kp4 _ _ g, e⟩
 ·obtain ⟨a, b, d, e, o, es, ep, g, q⟩ := D.outs L hL
  exact ⟨a, fun e => (by rw [show L = C from e, C1] at g; cases g), fun y ca h => d y ca (cell h), e, o, es, ep, kp4 _ _ g, q⟩
omit cf D in
omit F in
theorem comp_aside (D : Den c σ ρ s₁) {loc' : List (Option V)} {ρ' : Nat → Int → Addr} {s' : Shared} {a : Addr} (ha : s₁.heap.get? a = none) (hac : a ≠ C) (x' : Ext (wd c σ ρ s₁) (wd c ⟨loc', σ.H⟩ ρ' s')) : Aside (compC c d sc σ ρ s₁.heap C) ⟨loc', σ.H⟩ ρ' a := by
 have fr := D.fresh ha
 refine ⟨ha, fr.h1, fun i x hd => ?_, fun e => hac e.symm, fun y hy => fr.cell y (lookup_mem (clm hy).1), fr.outs⟩
 rw [show ρ' i x = ρ i x from x'.same i x hd]; exact fr.ref i x hd
end
inductive CompI (c : Cx) (d : CD) (sc : Scope) (σ : St) (ρ : Nat → Int → Addr) (s₁ : Shared) (C Ac : Addr) (xs : List V) (f : V → Option V) (IT : Nat → Heap → Prop) (s' : Shared) (j : Nat) : Prop
 | mk (loc' : List (Option V)) (ρ' : Nat → Int → Addr) (ys : Array Value) (D : Den (compC c d sc σ ρ s₁.heap C) ⟨loc', σ.H⟩ ρ' s') (x : Ext (wd c σ ρ s₁) (wd c ⟨loc', σ.H⟩ ρ' s')) (cap : CapOk d σ loc') (it : IT j s'.heap) (pl : s'.heap.PlainList Ac ys)
   (rs : VRs (wd c ⟨loc', σ.H⟩ ρ' s') ((xs.take j).filterMap f) ys.toList)
inductive CompN (c : Cx) (d : CD) (sc : Scope) (σ : St) (ρ : Nat → Int → Addr) (s₁ : Shared) (C Ac : Addr) (xs : List V) (f : V → Option V) (IT : Nat → Heap → Prop) (s' : Shared) : Nat → Prop
 | mk (j : Nat) (hj : j ≤ xs.length) (I : CompI c d sc σ ρ s₁ C Ac xs f IT s' j) : CompN c d sc σ ρ s₁ C Ac xs f IT s' (xs.length + 1 - j)
theorem list_noimm {h : Heap} {a : Addr} {ys : Array Value} (p : h.PlainList a ys) (o : Obj) (ho : h.get? a = some o) : ¬ Imm o := fun m => by
 obtain ⟨n, g⟩ := p
 rw [g] at ho; cases ho
 rcases m with m | m | m
 ·rcases m.1 with e | e
  ·injection e with e; exact absurd e (by decide)
  ·injection e
 ·obtain ⟨_, vs, e⟩ := m; cases e
 ·exact m.1 rfl
theorem take_step {xs : List V} {j : Nat} {Y : V} {f : V → Option V} (h : xs[j]? = some Y) : (xs.take (j + 1)).filterMap f = (xs.take j).filterMap f ++ (f Y).toList := by
 rw [List.take_add_one, h, List.filterMap_append]
 cases e : f Y with
 | none => simp [e]
 | some Z => simp [e]
theorem now_at {c c' : Cx} {σ σ' : St} {ρ ρ' : Nat → Int → Addr} {st st' : Shared} {W : Wd} (h : Ext W (wd c σ' ρ' st')) (e : c'.w = c.w) : Ext W (wd c' σ' ρ' st') := ⟨h.dom, h.same, h.imm⟩
noncomputable def compRest (c : Cx) (elt tg : Expr) (ifs : List Expr) (y acc : Value) (ag : Sem Fin) : Sem Fin := assign tg c.env y >>= fun _ => ifsGo c ifs true >>= fun b => if b = true then (eval elt c.env >>= fun x => call (.builtin "list.append") [acc, x] >>= fun _ => pure ()) >>= fun _ => ag else ag
theorem comp_body {k0 : Ck} {c0 : Cx} {A : Around} (F0 : Fit k0 c0) (hh : A.handled = none) {d : CD} {elt tg : Expr} {ifs : List Expr} (ht : chkT1 k0 d.tg tg = true) (hi : chkEs k0 d.ifs ifs = true) (he : chkE k0 d.elt elt = true) {σ : St} {ρ : Nat → Int → Addr} {st : Shared} {Y : V} {y acc : Value} {ag : Sem Fin} {fY : Option V} {G : List (Option V) → Prop}
  {P : Fin → Shared → Prop} {E : Value → Shared → Prop} (D : Den c0 σ ρ st) (ry : VR (wd c0 σ ρ st) Y y)
  (q : vcT1 c0 A d.tg Y σ fun σ₂ => vcT c0 A .And d.ifs σ₂ fun b σ₃ => sel b (vcE c0 A d.elt σ₃ fun Z σ₄ => fY = some Z ∧ σ₄.H = σ.H ∧ G σ₄.loc) (fY = none ∧ σ₃.H = σ.H ∧ G σ₃.loc))
  (no : ∀ loc ρ' s', Den c0 ⟨loc, σ.H⟩ ρ' s' → Ext (wd c0 σ ρ st) (wd c0 ⟨loc, σ.H⟩ ρ' s') → fY = none → G loc → wpAny (MM c0) A ag P E s')
  (yes : ∀ loc ρ' s' Z z, Den c0 ⟨loc, σ.H⟩ ρ' s' → Ext (wd c0 σ ρ st) (wd c0 ⟨loc, σ.H⟩ ρ' s') → fY = some Z → G loc → VR (wd c0 ⟨loc, σ.H⟩ ρ' s') Z z → wpAny (MM c0) A (call (.builtin "list.append") [acc, z]) (fun _ s'' => wpAny (MM c0) A ag P E s'') E s') :
  wpAny (MM c0) A (compRest c0 elt tg ifs y acc ag) P E st := by
 unfold compRest
 refine wpAny_bind (wpU (sndT1 F0 hh ht q ρ st y D ry) fun _ s₅ σ₅ ρ₅ D₅ x₅ q₅ => wpAny_bind (wpB (ifs_all F0 hi D₅ q₅) fun b s₆ σ₆ ρ₆ D₆ x₆ q₆ => ?_))
 cases q₆ with
 | mk t ok q₆ =>
 cases b with
 | false =>
  obtain ⟨fy, eH, g⟩ := sel_no ok q₆
  obtain ⟨loc, HH⟩ := σ₆
  cases eH
  exact no loc ρ₆ s₆ D₆ (Ext.trans x₅ x₆) fy g
 | true =>
  refine wpAny_bind (wpAny_bind (wpP (sndE F0 d.elt elt he σ₆ _ (sel_yes ok q₆) ρ₆ s₆ D₆) fun z s₇ Z σ₇ ρ₇ D₇ rz x₇ q₇ => ?_))
  obtain ⟨fy, eH, g⟩ := q₇
  obtain ⟨loc, HH⟩ := σ₇
  cases eH
  exact wpAny_bind (wpAny_mono (yes loc ρ₇ s₇ Z z D₇ (Ext.trans x₅ (Ext.trans x₆ x₇)) fy g rz) (fun _ _ h => wpAny_pure h) fun _ _ e => e)
noncomputable abbrev CompR (c : Cx) (σ : St) (ρ : Nat → Int → Addr) (s₁ : Shared) (xs : List V) (f : V → Option V) (R : Value → Addr → Result → Shared → Prop) : Prop := ∀ D0 C s' ρ', Den c { σ with H := σ.H ++ [.one (.list (xs.filterMap f))] } ρ' s' → Ext (wd c σ ρ s₁) (wd c { σ with H := σ.H ++ [.one (.list (xs.filterMap f))] } ρ' s') → VR (wd c { σ with H := σ.H ++ [.one (.list (xs.filterMap f))] } ρ' s') (.ref σ.H.length 0) (.ref D0) →
   Aside c { σ with H := σ.H ++ [.one (.list (xs.filterMap f))] } ρ' C → (∃ m, s'.heap.Ns C m) → R (.ref D0) C (.ok .next) s'
section
variable {k : Ck} {c : Cx} {A : Around} (F : Fit k c) (hh : A.handled = none) {d : CD} {elt tg it : Expr} {ifs : List Expr} {sc : Scope} {p : Pos} (hok : chkCo k d elt tg it ifs sc = true) {σ : St} {ρ : Nat → Int → Addr} {s₁ : Shared} (D : Den c σ ρ s₁) {C Ac ad : Addr} {X : V} {v : Value} {xs : List V} {ep : Nat} {f : V → Option V} {IT : Nat → Heap → Prop}
include D in
theorem comp_end (C1 : s₁.heap.get? C = none) (A1 : s₁.heap.get? Ac = none) (hAC : Ac ≠ C) {loc' : List (Option V)} {ρ' : Nat → Int → Addr} {s' : Shared} {ys : Array Value} (D' : Den (compC c d sc σ ρ s₁.heap C) ⟨loc', σ.H⟩ ρ' s') (Do : Den c σ ρ' s') (x' : Ext (wd c σ ρ s₁) (wd c ⟨loc', σ.H⟩ ρ' s')) (pl : s'.heap.PlainList Ac ys)
  (rs : VRs (wd c ⟨loc', σ.H⟩ ρ' s') (xs.filterMap f) ys.toList) {R : Value → Addr → Result → Shared → Prop} (hR : CompR c σ ρ s₁ xs f R) : R (.ref Ac) C (.ok .next) s' := by
 have frA := D.fresh A1
 have frC := D.fresh C1
 have sm : ∀ i x, (σ.H.get i x).isSome = true → ρ' i x = ρ i x := fun i x h => x'.same i x h
 have SA : Aside c σ ρ' Ac := ⟨frA.h0, frA.h1, fun i x h => by rw [sm i x h]; exact frA.ref i x h, frA.frame, frA.cell, frA.outs⟩
 have g0 : Ext (wd c ⟨loc', σ.H⟩ ρ' s') (wd c { σ with H := σ.H ++ [.one (.list (xs.filterMap f))] } (ρapp ρ' σ.H.length Ac) s') :=
  ⟨fun j y h => (congrArg Option.isSome (adopt_at (H := σ.H) (ρ := ρ') (a := Ac) h).1).trans h, fun j y h => (adopt_at (o' := .list []) h).2, fun b o h _ => h⟩
 have N := Do.adopt (o' := .list (xs.filterMap f)) SA ⟨ys, pl, VRs.ext g0 _ _ rs⟩
 obtain ⟨m, nn, _⟩ := D'.loc
 refine hR Ac C s' _ N.1 (Ext.trans x' N.2) ⟨by simp [wd, ρapp], by simp [wd, AH.get_app]⟩ ⟨frC.h0, frC.h1, fun i x h => ?_, frC.frame, frC.cell, frC.outs⟩ ⟨m, nn⟩
 exact adopt_cases (ρ := ρ') (a := Ac) h (fun q e => by rw [e, sm i x q]; exact frC.ref i x q) fun _ _ e => by rw [e]; exact hAC
include F hh D hok in
theorem comp_loop (rx : VR (wd c σ ρ s₁) X v) (hxs : seqOf X σ.H = some (xs, ep)) (hlen : xs.length ≤ 1000000) (q : compVc c A d σ xs f) (C1 : s₁.heap.get? C = none) (A1 : s₁.heap.get? Ac = none) (hAC : Ac ≠ C) (I1 : s₁.heap.get? ad = none) (hIC : ad ≠ C) (hIA : ad ≠ Ac)
  (Wk : Walker c A (wd c σ ρ s₁) X xs ep v ad IT) {R : Value → Addr → Result → Shared → Prop} (hR : CompR c σ ρ s₁ xs f R) {n : Nat} {s4 : Shared} (h0 : CompN c d sc σ ρ s₁ C Ac xs f IT s4 n) :
  codeAny (MM c) A (.compLoop (.ListComp elt [⟨tg, it, ifs, 0⟩] sc p) 0 (.ref ad) (.ref Ac) (compC c d sc σ ρ s₁.heap C).env) (R (.ref Ac) C) s4 := by
 refine and_e hok fun _ hok => and_e hok fun _ hok => and_e hok fun ht hok => and_e hok fun hi hok => and_e hok fun he hcf => ?_
 have cf := cf_ok hcf
 have F0 := compC_fit (σ := σ) (ρ := ρ) (s₁ := s₁) (C := C) F cf
 refine codeAny_loop rfl (fun n s' => CompN c d sc σ ρ s₁ C Ac xs f IT s' n) (fun n s' hI => ?_) n h0
 cases hI with
 | mk j hj I =>
 cases I with
 | mk loc' ρ' ys D' x' cap' it' pl' rs' =>
 show wpAny _ A ((compTurn (.ListComp elt [⟨tg, it, ifs, 0⟩] sc p) 0 (.ref ad) (.ref Ac) (compC c d sc σ ρ s₁.heap C).env).onRaise (fun x => do noteFrame x (compC c d sc σ ρ s₁.heap C).env; theTreesLotGoes x)) _ _ s'
 refine wpAny_noted ?_
 rw [compTurn_list]
 refine wpAny_bind (wpAny_standAt (wpAny_bind ?_))
 have Do := comp_out F cf D C1 D' x' cap'
 have SI := comp_aside (sc := sc) (d := d) (C := C) D I1 hIC x'
 have him := it_imm Wk it'
 cases hY : xs[j]? with
 | none =>
  have hje : j = xs.length := Nat.le_antisymm hj (List.getElem?_eq_none_iff.mp hY)
  subst hje
  refine noted (Wk.stop c.h0 c.foot xs.length σ ρ' s' Do x' (rx.ext x' _ _) hxs it' hY (fun r s₃ => r = none ∧ R (.ref Ac) C (.ok .next) s₃) fun s₃ kb hg ho => ⟨rfl, ?_⟩) fun r s₃ h => by rw [h.1]; exact wpAny_pure h.2
  have N := D'.aside SI him kb hg ho
  obtain ⟨n, g⟩ := pl'
  rw [List.take_length] at rs'
  have x3 := Ext.trans x' N.2
  exact comp_end D C1 A1 hAC N.1 (comp_out F cf D C1 N.1 x3 cap') x3 ⟨n, kb _ _ (fun e => hIA e.symm) g⟩ (VRs.ext N.2 _ _ rs') hR
 | some Y =>
  have hjl : j < xs.length := (List.getElem?_eq_some_iff.mp hY).1
  refine noted (Wk.item c.h0 c.foot j σ ρ' s' Y Do x' (rx.ext x' _ _) hxs it' hY (fun r s₃ => ∃ y, r = some y ∧ VR (wd c σ ρ' s') Y y ∧ IT (j + 1) s₃.heap ∧ Den (compC c d sc σ ρ s₁.heap C) ⟨loc', σ.H⟩ ρ' s₃ ∧ Ext (wd c ⟨loc', σ.H⟩ ρ' s') (wd c ⟨loc', σ.H⟩ ρ' s₃) ∧ s₃.heap.PlainList Ac ys)
   fun y s₃ ry it₃ kb hg ho => ?_) fun r s₃ h => ?_
  ·have N := D'.aside SI him kb hg ho
   obtain ⟨n, g⟩ := pl'
   exact ⟨y, rfl, ry, it₃, N.1, N.2, n, kb _ _ (fun e => hIA e.symm) g⟩
  obtain ⟨y, e, ry, it₃, D₃, x₃, pl₃⟩ := h
  subst e
  have X3 := Ext.trans x' x₃
  refine wpAny_bind (noted (Wk.lot (j + 1) s₃ tg y it₃ (fun _ s => s₃ = s) rfl) fun _ s₄ e => ?_)
  subst e
  have SI := comp_aside (sc := sc) (d := d) (C := C) D I1 hIC X3
  have SA := comp_aside (sc := sc) (d := d) (C := C) D A1 hAC X3
  have back : ∀ {loc : List (Option V)} {ρ₇ : Nat → Int → Addr} {s₇ : Shared}, Den ((compC c d sc σ ρ s₁.heap C).now ⟨loc', σ.H⟩ ρ' s₃) ⟨loc, σ.H⟩ ρ₇ s₇ → IT (j + 1) s₇.heap ∧ s₇.heap.PlainList Ac ys := fun D₇ => by
   obtain ⟨n, g⟩ := pl₃
   exact ⟨Wk.stay (j + 1) _ _ it₃ fun o g => (SI.next g D₇).2, n, (SA.next g D₇).2⟩
  have lt : xs.length + 1 - (j + 1) < xs.length + 1 - j := Nat.sub_lt_sub_left (Nat.lt_succ_of_lt hjl) (Nat.lt_succ_self j)
  show wpAny _ A (compRest ((compC c d sc σ ρ s₁.heap C).now ⟨loc', σ.H⟩ ρ' s₃) elt tg ifs y (.ref Ac) (again (.compLoop (.ListComp elt [⟨tg, it, ifs, 0⟩] sc p) 0 (.ref ad) (.ref Ac) (compC c d sc σ ρ s₁.heap C).env))) _ _ s₃
  refine comp_body (F0.at s₃.heap ((compC c d sc σ ρ s₁.heap C).now ⟨loc', σ.H⟩ ρ' s₃).foot) hh ht hi he D₃.now (VR.ext x₃ _ _ ry) (q ((compC c d sc σ ρ s₁.heap C).now ⟨loc', σ.H⟩ ρ' s₃) rfl rfl loc' Y cap' (List.mem_of_getElem? hY)) (fun loc ρ₇ s₇ D₇ x₇ fy g => ?_) (fun loc ρ₇ s₇ Z z D₇ x₇ fy g rz => ?_)
  ·obtain ⟨i7, p7⟩ := back D₇
   refine wpAny_pure ⟨rfl, _, lt, .mk (j + 1) hjl ⟨loc, ρ₇, ys, D₃.back D₇, Ext.trans X3 x₇, g, i7, p7, ?_⟩⟩
   rw [take_step hY, fy]
   exact (List.append_nil _).symm ▸ VRs.ext (Ext.trans x₃ x₇) _ _ rs'
  ·obtain ⟨i7, p7⟩ := back D₇
   have rs7 := VRs.ext (Ext.trans x₃ x₇) _ _ rs'
   have ysl : ys.size ≤ xs.length := by
    have h1 := VRs.length rs'
    have h2 : ((xs.take j).filterMap f).length ≤ (xs.take j).length := List.length_filterMap_le ..
    rw [← h1, Array.length_toList] at h2
    exact Nat.le_trans h2 (List.length_take_le' ..)
   refine wpAny_list_append_plain (items := ys) p7 (fun h' hp sb => wpAny_pure ⟨rfl, _, lt, .mk (j + 1) hjl ?_⟩) (Nat.le_trans ysl (Nat.le_trans hlen (by decide)))
   have D7 := D₃.back D₇
   have X7 := Ext.trans X3 x₇
   have N := D7.aside (st' := { s₇ with heap := h' }) (comp_aside D A1 hAC X7) (list_noimm p7) sb.extBut rfl rfl
   refine ⟨loc, ρ₇, ys.push z, N.1, Ext.trans X7 N.2, g, Wk.stay (j + 1) _ _ i7 fun o g => sb.extBut _ _ hIA g, hp, ?_⟩
   rw [take_step hY, fy, Array.toList_push]
   exact VRs.app (VRs.ext N.2 _ _ rs7) (VRs.cons (VR.ext N.2 _ _ rz) (VRs.nil _))
end
theorem comp_core {k : Ck} {c : Cx} {A : Around} (F : Fit k c) (hh : A.handled = none) {d : CD} {elt tg it : Expr} {ifs : List Expr} {sc : Scope} {p : Pos} (hok : chkCo k d elt tg it ifs sc = true) (cf : CompFacts k d sc) {σ : St} {ρ : Nat → Int → Addr} {s₁ : Shared} {X : V} {v : Value} {xs : List V} {ep : Nat} {f : V → Option V} (D : Den c σ ρ s₁) (rx : VR (wd c σ ρ s₁) X v) (hxs : seqOf X σ.H = some (xs, ep)) (hlen : xs.length ≤ 1000000) (q : compVc c A d σ xs f)
  {R : Value → Addr → Result → Shared → Prop} (hR : CompR c σ ρ s₁ xs f R) :
  wpAny (MM c) A (pyIter v) (fun itv s₂ => wpAny (MM c) A (newList []) (fun acc s₃ => wpAny (MM c) A (newFunctionEnv sc c.env.globals (cloC c sc) [] c.env.qual none .none (some c.env)) (fun cenv s₄ =>
   codeAny (MM c) A (.compStart (.ListComp elt [⟨tg, it, ifs, 0⟩] sc p) 0 itv acc { cenv with scope := relabel sc c.env }) (R acc cenv.locals) s₄) noExc s₃) noExc s₂) noExc s₁ := by
 refine walks (c := c) (h0 := c.h0) (ft := c.foot) hh F.top D rx hxs fun ad IT s₂ hn kp hg ho it0 Wk => ?_
 refine wpAny_newObj_type (wpAny_newFunctionEnv (fun x hx => cf.nocell x hx) (fun y hy => nomatch hy) (fun h₁ hns hsb => ?_) cf.kind)
 dsimp only at hns hsb
 generalize hH2 : s₂.heap.push { cls := .type "list", dict := none, data := .seq ([] : List Value).toArray } = H2 at hns hsb ⊢
 have hC : H2.objs.size = s₂.heap.objs.size + 1 := by rw [← hH2, Heap.size_push]
 have no : ∀ a, s₂.heap.objs.size ≤ a → s₂.heap.get? a = none := fun a h => by
  cases e : s₂.heap.get? a with
  | none => rfl
  | some o => exact absurd (Heap.lt_size e) (Nat.not_lt.mpr h)
 have n1 : ∀ a, s₂.heap.get? a = none → s₁.heap.get? a = none := fun a h => by
  cases e : s₁.heap.get? a with
  | none => rfl
  | some o => rw [kp a o e] at h; cases h
 have C2 := no H2.objs.size (by rw [hC]; exact Nat.le_succ _)
 have hAC : s₂.heap.objs.size ≠ H2.objs.size := by rw [hC]; exact Nat.ne_of_lt (Nat.lt_succ_self _)
 obtain ⟨oi, gi, imi⟩ := Wk.here 0 _ it0
 have hIC : ad ≠ H2.objs.size := fun e => by rw [e, C2] at gi; cases gi
 have up : ∀ b o, s₂.heap.get? b = some o → h₁.get? b = some o := fun b o h => hsb.extBut b o (fun e => by rw [e, C2] at h; cases h) (Heap.get?_push_of_some _ (by rw [← hH2]; exact Heap.get?_push_of_some _ h))
 have hacc : h₁.PlainList s₂.heap.objs.size #[] := ⟨_, hsb.extBut _ _ hAC (Heap.get?_push_of_some _ (by rw [← hH2]; exact Heap.get?_push_size _ rfl))⟩
 have N := comp_in F cf D (s4 := { s₂ with heap := h₁, toks := s₂.toks + ([] : List (Str × Value)).length }) (n1 _ C2) (fun b o h => up b o (kp b o h)) hg ho hns
 have loop := comp_loop F hh (p := p) hok D rx hxs hlen q (n1 _ C2) (n1 _ (get_size _)) hAC hn hIC (Nat.ne_of_lt (Heap.lt_size gi)) Wk hR (.mk 0 (Nat.zero_le _) ⟨capL d σ, ρ, #[], N.1, N.2, cap0 F cf D, Wk.stay 0 _ _ it0 fun o g => up ad o g, hacc, VRs.nil _⟩)
 exact codeAny_compStart_list loop (noted (Wk.self 0 _ (Wk.stay 0 _ _ it0 fun o g => up ad o g) (fun v s => v = .ref ad ∧ s = _) ⟨rfl, rfl⟩) fun v s e => by rw [e.1, e.2]; exact loop)
end
section
section
variable {k : Ck} {c : Cx} {A : Around}
inductive CompQ (c : Cx) (A : Around) (d : CD) (Q : V → St → Prop) (X : V) (σ₁ : St) : Prop
 | mk (xs : List V) (ep : Nat) (f : V → Option V) (hxs : seqOf X σ₁.H = some (xs, ep)) (hlen : xs.length ≤ 1000000) (qc : compVc c A d σ₁ xs f) (hQ : σ₁.newK (.list (xs.filterMap f)) Q)
noncomputable abbrev compQ (c : Cx) (A : Around) (d : CD) (Q : V → St → Prop) : V → St → Prop := CompQ c A d Q
theorem free_cells {d : CD} {sc : Scope} (F : Fit k c) (cf : CompFacts k d sc) {σ : St} {ρ : Nat → Int → Addr} {st : Shared} (D : Den c σ ρ st) (x : Str × NameKind) (hx : x ∈ sc.names) (hf : x.2 = .free) : (c.env.cells.lookup x.1).isSome = true := by
 have q := cf.free x hx hf
 obtain ⟨m, _, l⟩ := D.loc
 obtain ⟨i, hi, e⟩ := List.getElem_of_mem q.2.2
 have e1 : k.names[i]? = some x.1 := by rw [List.getElem?_eq_getElem hi, e]
 obtain ⟨ov, hov⟩ := D.has F e1
 exact (LocsR.get (by rw [F.names]; exact e1) hov l).cell0 ((F.kindOf _).trans q.2.1) fun ca _ _ lk _ _ => by rw [lk]; rfl
theorem ns_noimm {h : Heap} {a : Addr} {m : Str → Option Value} (n : h.Ns a m) (o : Obj) (ho : h.get? a = some o) : ¬ Imm o := fun im => by
 obtain ⟨of, esf, epf, gf, df, _⟩ := n
 rw [gf] at ho; cases ho
 rcases im with m | m | m
 ·obtain ⟨_, vs, n, q⟩ := m; rw [df] at q; cases q
 ·obtain ⟨_, vs, q⟩ := m; rw [df] at q; cases q
 ·rw [df] at m; cases m.2.1
theorem ev_comp (F : Fit k c) (hh : A.handled = none) {d : CD} {σ : St} {Q : V → St → Prop} (q : vcE c A d.it σ (compQ c A d Q)) {e : Expr} (h : chkComp k d e = true) : EvE c A σ Q e := onLC_e (P := EvE c A σ Q) h fun elt tg it ifs sc p h => and_e h fun h1 h' => and_e h' fun h2 h' => and_e h' fun _ h' => and_e h' fun _ h' => and_e h' fun _ hc ρ st D => by
 have cf := cf_ok hc
 rw [eval_ListComp]
 refine wpAny_comprehension_free (use := none) rfl (set_fold h2) (clo_eq (free_cells F cf D)) cf.kind cf.loc ?_
 refine wpP (sndE F d.it it h1 σ _ q ρ st D) fun v s₁ X σ₁ ρ₁ D₁ rx x₁ q => ?_
 cases q with
 | mk xs ep f hxs hlen qc hQ =>
 refine comp_core F hh h cf D₁ rx hxs hlen qc (R := fun acc C => compPost (MM c) A noExc none (Post c (wd c σ ρ st) Q) acc C) fun D0 C s' ρ' D' x' r' S' hm => ?_
 obtain ⟨m, hm⟩ := hm
 refine ⟨m, hm, fun h' sb => ?_⟩
 have N := D'.aside (st' := { s' with heap := h' }) S' (ns_noimm hm) sb.extBut rfl rfl
 exact ⟨_, _, ρ', N.1, VR.ext N.2 _ _ r', x₁.trans (x'.trans N.2), hQ⟩
noncomputable def isLocT (t : TT) : Bool := t.ctorIdx == 0
noncomputable def chkAsgC (k : Ck) (d : CD) (t : TT) (st : Stmt) : Bool := onSAssign st fun tgs v p => onOne tgs fun tg => onLC v fun elt tg' it ifs sc p' => chkCo k d elt tg' it ifs sc && (chkT1 k t tg && (tg.ctorIdx != 22 &&
 onSome (pur (swapsWithSole [tg] (.ListComp elt [⟨tg', it, ifs, 0⟩] sc p') p.line (envS k.sc))) fun b => if b then isLocT t else pur (swappedStores [tg] (.ListComp elt [⟨tg', it, ifs, 0⟩] sc p') (envS k.sc)) == some none))
theorem pur_some {α : Type} {t : Sem α} {f : α → Bool} {C : Prop} (h : onSome (pur t) f = true) (k : ∀ a, t = .pure a → f a = true → C) : C := by
 cases e : pur t with
 | none => rw [e] at h; cases h
 | some a => rw [e] at h; exact k a (pur_e e) h
theorem ex_asgC (F : Fit k c) (hh : A.handled = none) {d : CD} {t : TT} {σ : St} {K : Kt} (q : vcE c A d.it σ (compQ c A d fun X σ' => vcT1 c A t X σ' K.next)) {st : Stmt} (h : chkAsgC k d t st = true) : ExE c A σ K st :=
 onSAssign_e (P := ExE c A σ K) h fun tgs v p h => onOne_e (P := fun tgs => ExE c A σ K (.Assign tgs v p)) h fun tg h => onLC_e (P := fun v => ExE c A σ K (.Assign [tg] v p)) h fun elt tg' it ifs sc p' h => and_e h fun hok h => and_e h fun ht h => and_e h fun hst h => pur_some h fun b eb h ρ st D => by
 have hts : chkTs k [t] [tg] = true := by
  show (tg.ctorIdx != 22 && (chkT1 k t tg && true)) = true
  rw [hst, ht]; rfl
 rw [exec_Assign_arm]
 refine wpAny_bind (wpAny_standAt ?_)
 rw [sole_env, F.sc, eb]
 refine wpAny_bind (wpAny_pure ?_)
 cases b with
 | false =>
  rw [if_neg Bool.false_ne_true] at h ⊢
  have hc' : chkComp k d (.ListComp elt [⟨tg', it, ifs, 0⟩] sc p') = true := hok
  refine wpAny_bind (wpP (ev_comp F hh q hc' ρ st D) fun va s₁ X σ₁ ρ₁ D₁ rx x₁ q₁ => ?_)
  rw [stores_env, F.sc, pur_e (eq_of_beq h)]
  refine wpAny_bind (wpAny_pure ?_)
  exact wpAny_bind (wpU (sndTs F hh (ts := [t]) hts q₁ ρ₁ s₁ va D₁ rx) fun _ s₂ σ₂ ρ₂ D₂ x₂ q₂ => wpAny_pure ⟨σ₂, ρ₂, D₂, x₁.trans x₂, q₂⟩)
 | true =>
  rw [if_pos rfl] at h ⊢
  cases t with
  | attr _ _ => cases h
  | sub _ _ => cases h
  | tup _ => cases h
  | loc j =>
  refine and_e hok fun h1 h' => and_e h' fun h2 h' => and_e h' fun _ h' => and_e h' fun _ h' => and_e h' fun _ hc => ?_
  have cf := cf_ok hc
  let u : Value → Sem Unit := fun v => assignAll v ((assignEach [tg] c.env).map (·.2))
  refine wpAny_bind ?_
  show wpAny _ A (do let _ ← comprehension (.ListComp elt [⟨tg', it, ifs, 0⟩] sc p') sc c.env _ (newList []) false (eval it c.env) (some u)) _ _ st
  refine wpAny_bind (noE (wpAny_comprehension_free (use := some u) (Q := fun _ s' => PostF c (wd c σ ρ st) K .next s') rfl (set_fold h2) (clo_eq (free_cells F cf D)) cf.kind cf.loc ?_) fun _ s' hq => wpAny_pure (wpAny_pure hq))
  refine wpP (sndE F d.it it h1 σ _ q ρ st D) fun v s₁ X σ₁ ρ₁ D₁ rx x₁ q => ?_
  cases q with
  | mk xs ep f hxs hlen qc hQ =>
  refine comp_core F hh hok cf D₁ rx hxs hlen qc (R := fun acc C => compPost (MM c) A noExc (some u) (fun _ s' => PostF c (wd c σ ρ st) K .next s') acc C) fun D0 C s' ρ' D' x' r' S' hm => ?_
  obtain ⟨m, hm⟩ := hm
  show wpAny _ A (u (.ref D0)) _ _ s'
  have hQ : K.next (St.set ⟨σ₁.loc, σ₁.H ++ [.one (.list (xs.filterMap f))]⟩ j (.ref σ₁.H.length 0)) := hQ
  obtain ⟨σ₂, eσ⟩ : ∃ σ₂ : St, σ₂ = ⟨σ₁.loc, σ₁.H ++ [.one (.list (xs.filterMap f))]⟩ := ⟨_, rfl⟩
  rw [← eσ] at D' x' r' S' hQ
  refine wpU (c := c.now σ₂ ρ' s') (sndTs (ts := [.loc j]) (F.at s'.heap (c.now σ₂ ρ' s').foot) hh hts (X := .ref σ₁.H.length 0) (Q := K.next) hQ ρ' s' (.ref D0) D'.now r') fun _ s₅ σ₅ ρ₅ D₅ x₅ q₅ => ?_
  obtain ⟨oC, esC, epC, gC, rC⟩ := hm
  obtain ⟨S5, gC5⟩ := S'.next gC D₅
  have hm5 : s₅.heap.Ns C m := ⟨oC, esC, epC, gC5, rC⟩
  refine ⟨m, hm5, fun h' sb => ?_⟩
  have N := (D'.back D₅).aside (st' := { s₅ with heap := h' }) S5 (ns_noimm hm5) sb.extBut rfl rfl
  exact ⟨σ₅, ρ₅, N.1, x₁.trans (x'.trans (Ext.trans x₅ N.2)), q₅⟩
end
end
section
noncomputable def fdOf (o : Obj) : FuncData := match o.data with | .func fd => fd | _ => { name := s "", qualname := s "", params := ⟨[], [], none, [], [], none, []⟩, body := .stmts [], scope := fS (.Pass noPos), globals := 0, closure := [], defaults := .none, kwdefaults := .none }
noncomputable def chkEnum (k : Ck) (i x : Nat) (l : TE) (b : List TS) (st : Stmt) : Bool := onSFor st fun tg it b' o _ => onCall it fun f as kw _ => onOne as fun e => o.isEmpty && (kw.isEmpty && (f.ctorIdx != 20 && (chkE k (.glob 2) f && (chkEs k [l] [e] && (chkT1 k (.tup [i, x]) tg && chkSs k b b')))))
noncomputable def onEH (h : ExceptHandler) (f : Option Expr → Option Str → List Stmt → Pos → Bool) : Bool := match h with
 | .ExceptHandler t n b p => f t n b p
theorem onEH_e {P : ExceptHandler → Prop} {h : ExceptHandler} {f : Option Expr → Option Str → List Stmt → Pos → Bool} (e : onEH h f = true) (k : ∀ t n b p, f t n b p = true → P (.ExceptHandler t n b p)) : P h := by
 cases h with
 | ExceptHandler t n b p => exact k t n b p e
noncomputable def chkTry (k : Ck) (x : Nat) (e : TE) (h : List TS) (st : Stmt) : Bool := onSTry st fun body hs oe fb _ => onCons body fun b1 body => onOne body fun b2 => onOne hs fun eh => onEH eh fun ex nm hb _ => onSome ex fun ex => onName ex fun exn _ =>
 onSAssign b1 fun tg v _ => onOne tg fun t => onName t fun tn _ => onCall v fun f as kw _ => onSBreak b2 fun _ => oe.isEmpty && (fb.isEmpty && (nm.isNone && (as.isEmpty && (kw.isEmpty && (k.names[x]? == some tn && (k.sc.names.lookup tn == some .local && (f.ctorIdx != 20 && (chkE k e f && (exn == s "StopIteration" && (k.sc.names.lookup exn == some .globalImplicit && chkSs k h hb))))))))))
noncomputable def n_new : List Str := [(s "_cls"), (s "a"), (s "b"), (s "size")]
@[reducible] noncomputable def t_new : List TS := [.doc,
 .ret (some (.meth (.glob 8) (s "__new__") [(.loc 0), (.tuple [(.loc 1), (.loc 2), (.loc 3)])]))]
noncomputable def fd_new (P : Params) : FuncData := fdOf (o82 P)
noncomputable def n_make : List Str := [(s "cls"), (s "iterable"), (s "result")]
@[reducible] noncomputable def t_make : List TS := [.doc,
 .assign [(.loc 2)] (.meth (.glob 8) (s "__new__") [(.loc 0), (.loc 1)]),
 .ite (.cmp .NotEq (.call (.glob 0) [(.loc 2)]) (.int 3)) [.never] [],
 .ret (some (.loc 2))]
noncomputable def fd_make (P : Params) : FuncData := fdOf (o89 P)
noncomputable def n_sminit : List Str := [(s "self"), (s "isjunk"), (s "a"), (s "b"), (s "autojunk")]
@[reducible] noncomputable def t_sminit : List TS := [.doc,
 .assign [(.attr (.loc 0) (s "isjunk"))] (.loc 1),
 .assign [(.attr (.loc 0) (s "a")), (.attr (.loc 0) (s "b"))] .none,
 .assign [(.attr (.loc 0) (s "autojunk"))] (.loc 4),
 .expr (.meth (.loc 0) (s "set_seqs") [(.loc 2), (.loc 3)])]
noncomputable def fd_sminit (P : Params) : FuncData := fdOf (o160 P)
noncomputable def n_seqs : List Str := [(s "self"), (s "a"), (s "b")]
@[reducible] noncomputable def t_seqs : List TS := [.doc,
 .expr (.meth (.loc 0) (s "set_seq1") [(.loc 1)]),
 .expr (.meth (.loc 0) (s "set_seq2") [(.loc 2)])]
noncomputable def fd_seqs (P : Params) : FuncData := fdOf (o167 P)
noncomputable def n_seq1 : List Str := [(s "self"), (s "a")]
@[reducible] noncomputable def t_seq1 : List TS := [.doc,
 .ite (.cmp .Is (.loc 1) (.attr (.loc 0) (s "a"))) [.ret none] [],
 .assign [(.attr (.loc 0) (s "a"))] (.loc 1),
 .assign [(.attr (.loc 0) (s "matching_blocks")), (.attr (.loc 0) (s "opcodes"))] .none]
noncomputable def fd_seq1 (P : Params) : FuncData := fdOf (o174 P)
noncomputable def n_seq2 : List Str := [(s "self"), (s "b")]
@[reducible] noncomputable def t_seq2 : List TS := [.doc,
 .ite (.cmp .Is (.loc 1) (.attr (.loc 0) (s "b"))) [.ret none] [],
 .assign [(.attr (.loc 0) (s "b"))] (.loc 1),
 .assign [(.attr (.loc 0) (s "matching_blocks")), (.attr (.loc 0) (s "opcodes"))] .none,
 .assign [(.attr (.loc 0) (s "fullbcount"))] .none,
 .expr (.meth (.loc 0) (s "_SequenceMatcher__chain_b") [])]
noncomputable def fd_seq2 (P : Params) : FuncData := fdOf (o181 P)
noncomputable def n_chain : List Str := [(s "self"), (s "b"), (s "b2j"), (s "i"), (s "elt"), (s "indices"), (s "junk"), (s "isjunk"), (s "popular"), (s "n"), (s "ntest"), (s "idxs")]
noncomputable def k_chain : Ck := ⟨n_chain, fS (meI 5 5)⟩
@[reducible] noncomputable def b_chain : List TS := [.assign [(.loc 5)] (.meth (.loc 2) (s "setdefault") [(.loc 4), (.list [])]),
 .expr (.meth (.loc 5) (s "append") [(.loc 3)])]
@[reducible] noncomputable def t_chain : List TS := [.assign [(.loc 1)] (.attr (.loc 0) (s "b")),
 .assign [(.attr (.loc 0) (s "b2j")), (.loc 2)] .dict0,
 .sem (chkEnum k_chain 3 4 (.loc 1) b_chain),
 .assign [(.attr (.loc 0) (s "bjunk")), (.loc 6)] (.call (.glob 9) []),
 .assign [(.loc 7)] (.attr (.loc 0) (s "isjunk")),
 .ite (.loc 7) [.never, .never] [],
 .assign [(.attr (.loc 0) (s "bpopular")), (.loc 8)] (.call (.glob 9) []),
 .assign [(.loc 9)] (.call (.glob 0) [(.loc 1)]),
 .ite (.bop .And [(.attr (.loc 0) (s "autojunk")), (.cmp .GtE (.loc 9) (.int 200))]) [.never, .never, .never] []]
noncomputable def fd_chain (P : Params) : FuncData := fdOf (o188 P)
noncomputable def n_flm : List Str := [(s "self"), (s "alo"), (s "ahi"), (s "blo"), (s "bhi"), (s "a"), (s "b"), (s "b2j"), (s "isbjunk"), (s "besti"), (s "bestj"), (s "bestsize"), (s "j2len"), (s "nothing"), (s "i"), (s "j2lenget"), (s "newj2len"), (s "j"), (s "k")]
@[reducible] noncomputable def l1_flm : TS := .loop (.bop .And [(.cmp .Gt (.loc 9) (.loc 1)), (.cmp .Gt (.loc 10) (.loc 3)), (.not (.call (.loc 8) [(.sub (.loc 6) (.bin .Sub (.loc 10) (.int 1)))])), (.cmp .Eq (.sub (.loc 5) (.bin .Sub (.loc 9) (.int 1))) (.sub (.loc 6) (.bin .Sub (.loc 10) (.int 1))))]) [.assign [(.tup [9, 10, 11])] (.tuple [(.bin .Sub (.loc 9) (.int 1)), (.bin .Sub (.loc 10) (.int 1)), (.bin .Add (.loc 11) (.int 1))])] []
@[reducible] noncomputable def l2_flm : TS := .loop (.bop .And [(.cmp .Lt (.bin .Add (.loc 9) (.loc 11)) (.loc 2)), (.cmp .Lt (.bin .Add (.loc 10) (.loc 11)) (.loc 4)), (.not (.call (.loc 8) [(.sub (.loc 6) (.bin .Add (.loc 10) (.loc 11)))])), (.cmp .Eq (.sub (.loc 5) (.bin .Add (.loc 9) (.loc 11))) (.sub (.loc 6) (.bin .Add (.loc 10) (.loc 11))))]) [.aug 11 .Add (.int 1)] []
@[reducible] noncomputable def l3_flm : TS := .loop (.bop .And [(.cmp .Gt (.loc 9) (.loc 1)), (.cmp .Gt (.loc 10) (.loc 3)), (.call (.loc 8) [(.sub (.loc 6) (.bin .Sub (.loc 10) (.int 1)))]), (.cmp .Eq (.sub (.loc 5) (.bin .Sub (.loc 9) (.int 1))) (.sub (.loc 6) (.bin .Sub (.loc 10) (.int 1))))]) [.assign [(.tup [9, 10, 11])] (.tuple [(.bin .Sub (.loc 9) (.int 1)), (.bin .Sub (.loc 10) (.int 1)), (.bin .Add (.loc 11) (.int 1))])] []
@[reducible] noncomputable def l4_flm : TS := .loop (.bop .And [(.cmp .Lt (.bin .Add (.loc 9) (.loc 11)) (.loc 2)), (.cmp .Lt (.bin .Add (.loc 10) (.loc 11)) (.loc 4)), (.call (.loc 8) [(.sub (.loc 6) (.bin .Add (.loc 10) (.loc 11)))]), (.cmp .Eq (.sub (.loc 5) (.bin .Add (.loc 9) (.loc 11))) (.sub (.loc 6) (.bin .Add (.loc 10) (.loc 11))))]) [.assign [(.loc 11)] (.bin .Add (.loc 11) (.int 1))] []
@[reducible] noncomputable def i_flm : List TS := [.ite (.cmp .Lt (.loc 17) (.loc 3)) [.cont] [],
 .ite (.cmp .GtE (.loc 17) (.loc 4)) [.brk] [],
 .assign [(.loc 18), (.sub (.loc 16) (.loc 17))] (.bin .Add (.call (.loc 15) [(.bin .Sub (.loc 17) (.int 1)), (.int 0)]) (.int 1)),
 .ite (.cmp .Gt (.loc 18) (.loc 11)) [.assign [(.tup [9, 10, 11])] (.tuple [(.bin .Add (.bin .Sub (.loc 14) (.loc 18)) (.int 1)), (.bin .Add (.bin .Sub (.loc 17) (.loc 18)) (.int 1)), (.loc 18)])] []]
@[reducible] noncomputable def rb_flm : List TS := [.assign [(.loc 15)] (.attr (.loc 12) (s "get")),
 .assign [(.loc 16)] .dict0,
 .each (.loc 17) (.meth (.loc 7) (s "get") [(.sub (.loc 5) (.loc 14)), (.loc 13)]) i_flm,
 .assign [(.loc 12)] (.loc 16)]
@[reducible] noncomputable def r_flm : TS := .each (.loc 14) (.call (.glob 1) [(.loc 1), (.loc 2)]) rb_flm
@[reducible] noncomputable def t_flm : List TS := [.doc,
 .assign [(.tup [5, 6, 7, 8])] (.tuple [(.attr (.loc 0) (s "a")), (.attr (.loc 0) (s "b")), (.attr (.loc 0) (s "b2j")), (.attr (.attr (.loc 0) (s "bjunk")) (s "__contains__"))]),
 .ite (.cmp .Is (.loc 2) .none) [.assign [(.loc 2)] (.call (.glob 0) [(.loc 5)])] [],
 .ite (.cmp .Is (.loc 4) .none) [.assign [(.loc 4)] (.call (.glob 0) [(.loc 6)])] [],
 .assign [(.tup [9, 10, 11])] (.tuple [(.loc 1), (.loc 3), (.int 0)]),
 .assign [(.loc 12)] .dict0,
 .assign [(.loc 13)] (.list []),
 r_flm,
 l1_flm,
 l2_flm,
 l3_flm,
 l4_flm,
 .ret (some (.call (.glob 12) [(.loc 9), (.loc 10), (.loc 11)]))]
noncomputable def fd_flm (P : Params) : FuncData := fdOf (o196 P)
noncomputable def n_gmb : List Str := [(s "self"), (s "la"), (s "lb"), (s "queue"), (s "matching_blocks"), (s "alo"), (s "ahi"), (s "blo"), (s "bhi"), (s "i"), (s "j"), (s "k"), (s "x"), (s "i1"), (s "j1"), (s "k1"), (s "non_adjacent"), (s "i2"), (s "j2"), (s "k2")]
noncomputable def k_gmb : Ck := ⟨n_gmb, fS (meI 5 7)⟩
noncomputable def fd_gmb (P : Params) : FuncData := fdOf (o203 P)
noncomputable def n_goc : List Str := [(s "self"), (s "i"), (s "j"), (s "answer"), (s "ai"), (s "bj"), (s "size"), (s "tag")]
@[reducible] noncomputable def t_goc : List TS := [.doc,
 .ite (.cmp .IsNot (.attr (.loc 0) (s "opcodes")) .none) [.ret (some (.attr (.loc 0) (s "opcodes")))] [],
 .assign [(.loc 1), (.loc 2)] (.int 0),
 .assign [(.attr (.loc 0) (s "opcodes")), (.loc 3)] (.list []),
 .each (.tup [4, 5, 6]) (.meth (.loc 0) (s "get_matching_blocks") []) [.assign [(.loc 7)] (.str (s "")),
 .ite (.bop .And [(.cmp .Lt (.loc 1) (.loc 4)), (.cmp .Lt (.loc 2) (.loc 5))]) [.assign [(.loc 7)] (.str (s "replace"))] [.ite (.cmp .Lt (.loc 1) (.loc 4)) [.assign [(.loc 7)] (.str (s "delete"))] [.ite (.cmp .Lt (.loc 2) (.loc 5)) [.assign [(.loc 7)] (.str (s "insert"))] []]],
 .ite (.loc 7) [.expr (.meth (.loc 3) (s "append") [(.tuple [(.loc 7), (.loc 1), (.loc 4), (.loc 2), (.loc 5)])])] [],
 .assign [(.tup [1, 2])] (.tuple [(.bin .Add (.loc 4) (.loc 6)), (.bin .Add (.loc 5) (.loc 6))]),
 .ite (.loc 6) [.expr (.meth (.loc 3) (s "append") [(.tuple [(.str (s "equal")), (.loc 4), (.loc 1), (.loc 5), (.loc 2)])])] []],
 .ret (some (.loc 3))]
noncomputable def fd_goc (P : Params) : FuncData := fdOf (o210 P)
noncomputable def n_insort : List Str := [(s "a"), (s "x"), (s "lo"), (s "hi"), (s "key")]
@[reducible] noncomputable def t_insort : List TS := [.doc,
 .ite (.cmp .Is (.loc 4) .none) [.assign [(.loc 2)] (.call (.glob 15) [(.loc 0), (.loc 1), (.loc 2), (.loc 3)])] [.never],
 .expr (.meth (.loc 0) (s "insert") [(.loc 2), (.loc 1)])]
noncomputable def fd_insort (P : Params) : FuncData := fdOf (o255 P)
noncomputable def n_bisect : List Str := [(s "a"), (s "x"), (s "lo"), (s "hi"), (s "key"), (s "mid")]
@[reducible] noncomputable def t_bisect : List TS := [.doc,
 .ite (.cmp .Lt (.loc 2) (.int 0)) [.never] [],
 .ite (.cmp .Is (.loc 3) .none) [.assign [(.loc 3)] (.call (.glob 0) [(.loc 0)])] [],
 .ite (.cmp .Is (.loc 4) .none) [.loop (.cmp .Lt (.loc 2) (.loc 3)) [.assign [(.loc 5)] (.bin .FloorDiv (.bin .Add (.loc 2) (.loc 3)) (.int 2)),
 .ite (.cmp .Lt (.sub (.loc 0) (.loc 5)) (.loc 1)) [.assign [(.loc 2)] (.bin .Add (.loc 5) (.int 1))] [.assign [(.loc 3)] (.loc 5)]] []] [.never],
 .ret (some (.loc 2))]
noncomputable def fd_bisect (P : Params) : FuncData := fdOf (o264 P)
noncomputable def n_niinit : List Str := [(s "self"), (s "node")]
@[reducible] noncomputable def t_niinit : List TS := [.assign [(.attr (.loc 0) (s "node"))] (.loc 1),
 .assign [(.attr (.loc 0) (s "npredecessors"))] (.int 0),
 .assign [(.attr (.loc 0) (s "successors"))] (.list [])]
noncomputable def fd_niinit (P : Params) : FuncData := fdOf (o279 P)
noncomputable def n_tsinit : List Str := [(s "self"), (s "graph"), (s "node"), (s "predecessors")]
@[reducible] noncomputable def t_tsinit : List TS := [.assign [(.attr (.loc 0) (s "_node2info"))] .dict0,
 .assign [(.attr (.loc 0) (s "_ready_nodes"))] .none,
 .assign [(.attr (.loc 0) (s "_npassedout"))] (.int 0),
 .assign [(.attr (.loc 0) (s "_nfinished"))] (.int 0),
 .ite (.cmp .IsNot (.loc 1) .none) [.never] []]
noncomputable def fd_tsinit (P : Params) : FuncData := fdOf (o316 P)
noncomputable def n_gni : List Str := [(s "self"), (s "node"), (s "result")]
@[reducible] noncomputable def t_gni : List TS := [.ite (.cmp .Is (.named 2 (.meth (.attr (.loc 0) (s "_node2info")) (s "get") [(.loc 1)])) .none) [.assign [(.sub (.attr (.loc 0) (s "_node2info")) (.loc 1)), (.loc 2)] (.call (.glob 18) [(.loc 1)])] [],
 .ret (some (.loc 2))]
noncomputable def fd_gni (P : Params) : FuncData := fdOf (o323 P)
noncomputable def n_add : List Str := [(s "self"), (s "node"), (s "predecessors"), (s "nodeinfo"), (s "pred"), (s "pred_info")]
@[reducible] noncomputable def t_add : List TS := [.doc,
 .ite (.cmp .IsNot (.attr (.loc 0) (s "_ready_nodes")) .none) [.never] [],
 .assign [(.loc 3)] (.meth (.loc 0) (s "_get_nodeinfo") [(.loc 1)]),
 .augA (.loc 3) (s "npredecessors") .Add (.call (.glob 0) [(.loc 2)]),
 .each (.loc 4) (.loc 2) [.assign [(.loc 5)] (.meth (.loc 0) (s "_get_nodeinfo") [(.loc 4)]),
 .expr (.meth (.attr (.loc 5) (s "successors")) (s "append") [(.loc 1)])]]
noncomputable def fd_add (P : Params) : FuncData := fdOf (o330 P)
noncomputable def n_prep : List Str := [(s "self"), (s "cycle")]
noncomputable def k_prep : Ck := ⟨n_prep, fS (meI 14 4)⟩
noncomputable def cd_prep_581_28 : CD := ⟨[(s "i")], [], (.loc 0), (.meth (.attr (.loc 0) (s "_node2info")) (s "values") []), [(.cmp .Eq (.attr (.loc 0) (s "npredecessors")) (.int 0))], (.attr (.loc 0) (s "node"))⟩
@[reducible] noncomputable def t_prep : List TS := [.doc,
 .ite (.cmp .IsNot (.attr (.loc 0) (s "_ready_nodes")) .none) [.never] [],
 .sem (chkAsgC k_prep cd_prep_581_28 (.attr (.loc 0) (s "_ready_nodes"))),
 .assign [(.loc 1)] (.meth (.loc 0) (s "_find_cycle") []),
 .ite (.loc 1) [.never] []]
noncomputable def fd_prep (P : Params) : FuncData := fdOf (o335 P)
noncomputable def n_ready : List Str := [(s "self"), (s "result"), (s "n2i"), (s "node")]
@[reducible] noncomputable def t_ready : List TS := [.doc,
 .ite (.cmp .Is (.attr (.loc 0) (s "_ready_nodes")) .none) [.never] [],
 .assign [(.loc 1)] (.call (.glob 8) [(.attr (.loc 0) (s "_ready_nodes"))]),
 .assign [(.loc 2)] (.attr (.loc 0) (s "_node2info")),
 .each (.loc 3) (.loc 1) [.assign [(.attr (.sub (.loc 2) (.loc 3)) (s "npredecessors"))] (.glob 16)],
 .expr (.meth (.attr (.loc 0) (s "_ready_nodes")) (s "clear") []),
 .augA (.loc 0) (s "_npassedout") .Add (.call (.glob 0) [(.loc 1)]),
 .ret (some (.loc 1))]
noncomputable def fd_ready (P : Params) : FuncData := fdOf (o342 P)
noncomputable def n_active : List Str := [(s "self")]
@[reducible] noncomputable def t_active : List TS := [.doc,
 .ite (.cmp .Is (.attr (.loc 0) (s "_ready_nodes")) .none) [.never] [],
 .ret (some (.bop .Or [(.cmp .Lt (.attr (.loc 0) (s "_nfinished")) (.attr (.loc 0) (s "_npassedout"))), (.call (.glob 11) [(.attr (.loc 0) (s "_ready_nodes"))])]))]
noncomputable def fd_active (P : Params) : FuncData := fdOf (o349 P)
noncomputable def n_done : List Str := [(s "self"), (s "nodes"), (s "n2i"), (s "node"), (s "nodeinfo"), (s "stat"), (s "successor"), (s "successor_info")]
@[reducible] noncomputable def t_done : List TS := [.doc,
 .ite (.cmp .Is (.attr (.loc 0) (s "_ready_nodes")) .none) [.never] [],
 .assign [(.loc 2)] (.attr (.loc 0) (s "_node2info")),
 .each (.loc 3) (.loc 1) [.ite (.cmp .Is (.named 4 (.meth (.loc 2) (s "get") [(.loc 3)])) .none) [.never] [],
 .assign [(.loc 5)] (.attr (.loc 4) (s "npredecessors")),
 .ite (.cmp .NotEq (.loc 5) (.glob 16)) [.ite (.cmp .GtE (.loc 5) (.int 0)) [.never] [.ite (.cmp .Eq (.loc 5) (.glob 17)) [.never] [.never]]] [],
 .assign [(.attr (.loc 4) (s "npredecessors"))] (.glob 17),
 .each (.loc 6) (.attr (.loc 4) (s "successors")) [.assign [(.loc 7)] (.sub (.loc 2) (.loc 6)),
 .augA (.loc 7) (s "npredecessors") .Sub (.int 1),
 .ite (.cmp .Eq (.attr (.loc 7) (s "npredecessors")) (.int 0)) [.expr (.meth (.attr (.loc 0) (s "_ready_nodes")) (s "append") [(.loc 6)])] []],
 .augA (.loc 0) (s "_nfinished") .Add (.int 1)]]
noncomputable def fd_done (P : Params) : FuncData := fdOf (o363 P)
noncomputable def n_cyc : List Str := [(s "self"), (s "n2i"), (s "stack"), (s "itstack"), (s "seen"), (s "node2stacki"), (s "node")]
noncomputable def k_cyc : Ck := ⟨n_cyc, fS (meI 14 9)⟩
@[reducible] noncomputable def h_cyc : List TS := [.del (.loc 5) (.meth (.loc 2) (s "pop") []), .expr (.meth (.loc 3) (s "pop") [])]
@[reducible] noncomputable def t_cyc : List TS := [.assign [(.loc 1)] (.attr (.loc 0) (s "_node2info")),
 .assign [(.loc 2)] (.list []),
 .assign [(.loc 3)] (.list []),
 .assign [(.loc 4)] (.call (.glob 9) []),
 .assign [(.loc 5)] .dict0,
 .each (.loc 6) (.loc 1) [.ite (.cmp .In (.loc 6) (.loc 4)) [.cont] [],
 .loop (.bool true) [.ite (.cmp .In (.loc 6) (.loc 4)) [.ite (.cmp .In (.loc 6) (.loc 5)) [.ret (some (.bin .Add (.slice (.loc 2) (some (.sub (.loc 5) (.loc 6))) none) (.list [(.loc 6)])))] []] [.expr (.meth (.loc 4) (s "add") [(.loc 6)]),
 .expr (.meth (.loc 3) (s "append") [(.attr (.call (.glob 10) [(.attr (.sub (.loc 1) (.loc 6)) (s "successors"))]) (s "__next__"))]),
 .assign [(.sub (.loc 5) (.loc 6))] (.call (.glob 0) [(.loc 2)]),
 .expr (.meth (.loc 2) (s "append") [(.loc 6)])],
 .loop (.loc 2) [.sem (chkTry k_cyc 6 (.sub (.loc 3) (.neg (.int 1))) h_cyc)] [.brk]] []],
 .ret (some .none)]
noncomputable def fd_cyc (P : Params) : FuncData := fdOf (o370 P)
noncomputable def n_whole : List Str := [(s "codes"), (s "first"), (s "second"), (s "place"), (s "last"), (s "word"), (s "i1"), (s "i2"), (s "j1"), (s "j2"), (s "goes"), (s "comes"), (s "due")]
noncomputable def k_whole : Ck := ⟨n_whole, fS (stI 16)⟩
noncomputable def cd_whole_695_13 : CD := ⟨[(s "x"), (s "comes")], [(1, 11)], (.loc 0), (.loc 10), [(.cmp .In (.loc 0) (.loc 1))], (.loc 0)⟩
@[reducible] noncomputable def t_whole : List TS := [.assign [(.tup [3, 4])] (.tuple [(.tuple [(.int 0), (.int 0)]), (.str (s ""))]),
 .each (.tup [5, 6, 7, 8, 9]) (.loc 0) [.assign [(.tup [10, 11])] (.tuple [(.slice (.loc 1) (some (.loc 6)) (some (.loc 7))), (.slice (.loc 2) (some (.loc 8)) (some (.loc 9)))]),
 .assign [(.loc 12)] (.sub (.list [(.str (s "")), (.str (s "insert")), (.str (s "delete")), (.str (s "replace"))]) (.bin .Add (.ite (.cmp .NotEq (.loc 10) (.list [])) (.int 2) (.int 0)) (.ite (.cmp .NotEq (.loc 11) (.list [])) (.int 1) (.int 0)))),
 .ite (.bop .And [(.cmp .Eq (.loc 5) (.str (s "equal"))), (.cmp .Eq (.loc 10) (.loc 11)), (.cmp .NotEq (.loc 10) (.list []))]) [.assign [(.loc 12)] (.str (s "equal"))] [.ite (.cmp .NotEq (.sem (chkComp k_whole cd_whole_695_13)) (.list [])) [.ret (some (.bool false))] []],
 .ite (.bop .Or [(.cmp .NotEq (.loc 5) (.loc 12)), (.bop .And [(.cmp .NotEq (.loc 4) (.str (s ""))), (.cmp .Eq (.cmp .Eq (.loc 4) (.str (s "equal"))) (.cmp .Eq (.loc 5) (.str (s "equal"))))]), (.cmp .NotEq (.tuple [(.loc 6), (.loc 8)]) (.loc 3))]) [.ret (some (.bool false))] [],
 .assign [(.tup [3, 4])] (.tuple [(.tuple [(.bin .Add (.loc 6) (.call (.glob 0) [(.loc 10)])), (.bin .Add (.loc 8) (.call (.glob 0) [(.loc 11)]))]), (.loc 5)]),
 .ite (.cmp .NotEq (.loc 3) (.tuple [(.loc 7), (.loc 9)])) [.ret (some (.bool false))] []],
 .ret (some (.cmp .Eq (.loc 3) (.tuple [(.call (.glob 0) [(.loc 1)]), (.call (.glob 0) [(.loc 2)])])))]
noncomputable def fd_whole (P : Params) : FuncData := fdOf (o389 P)
noncomputable def n_order : List Str := [(s "count"), (s "ties"), (s "sorter"), (s "k"), (s "late"), (s "early"), (s "order")]
@[reducible] noncomputable def t_order : List TS := [.assign [(.loc 2)] (.call (.glob 19) []),
 .each (.loc 3) (.call (.glob 1) [(.loc 0)]) [.expr (.meth (.loc 2) (s "add") [(.loc 3)])],
 .each (.tup [4, 5]) (.loc 1) [.expr (.meth (.loc 2) (s "add") [(.loc 4), (.loc 5)])],
 .expr (.meth (.loc 2) (s "prepare") []),
 .assign [(.loc 6)] (.list []),
 .loop (.meth (.loc 2) (s "is_active") []) [.each (.loc 3) (.meth (.loc 2) (s "get_ready") []) [.expr (.meth (.loc 6) (s "append") [(.loc 3)]),
 .expr (.meth (.loc 2) (s "done") [(.loc 3)])]] [],
 .ret (some (.loc 6))]
noncomputable def fd_order (P : Params) : FuncData := fdOf (o396 P)
noncomputable def n_law : List Str := [(s "script"), (s "way"), (s "numbers"), (s "x"), (s "cut"), (s "first"), (s "second"), (s "codes"), (s "edits"), (s "i1"), (s "i2"), (s "j1"), (s "j2"), (s "grown"), (s "ties"), (s "a"), (s "b"), (s "order"), (s "row"), (s "made"), (s "k"), (s "start"), (s "at")]
noncomputable def k_law : Ck := ⟨n_law, fS (stI 18)⟩
noncomputable def cd_law_722_18 : CD := ⟨[(s "x"), (s "way")], [(1, 1)], (.loc 0), (.loc 2), [], (.bin .Mod (.loc 0) (.bin .Add (.bin .Mod (.loc 1) (.int 4)) (.int 2)))⟩
noncomputable def cd_law_728_12 : CD := ⟨[(s "code")], [], (.loc 0), (.loc 7), [(.cmp .NotEq (.sub (.loc 0) (.int 0)) (.str (s "equal")))], (.slice (.loc 0) (some (.int 1)) none)⟩
noncomputable def cd_law_729_12 : CD := ⟨[(s "i1"), (s "i2"), (s "j1"), (s "j2")], [], (.tup [0, 1, 2, 3]), (.loc 8), [], (.bin .Sub (.bin .Sub (.loc 3) (.loc 2)) (.bin .Sub (.loc 1) (.loc 0)))⟩
noncomputable def cd_law_736_7 : CD := ⟨[(s "late"), (s "early"), (s "order")], [(2, 17)], (.tup [0, 1]), (.loc 14), [(.cmp .Lt (.meth (.loc 2) (s "index") [(.loc 0)]) (.meth (.loc 2) (s "index") [(.loc 1)]))], (.int 1)⟩
noncomputable def cd_law_741_25 : CD := ⟨[(s "c"), (s "grown")], [(1, 13)], (.loc 0), (.slice (.loc 19) none (some (.call (.glob 15) [(.loc 19), (.loc 20)]))), [], (.sub (.loc 1) (.loc 0))⟩
noncomputable def cd_law_751_25 : CD := ⟨[(s "c"), (s "grown")], [(1, 13)], (.loc 0), (.slice (.loc 19) none (some (.loc 22))), [], (.sub (.loc 1) (.loc 0))⟩
noncomputable def fd_law (P : Params) : FuncData := fdOf (o401 P)
theorem ok_new (P : Params) : DefOk P 82 (fd_new P) n_new t_new := ⟨⟨_, rfl, rfl⟩, by kernel_rfl, ⟨_, rfl, by kernel_rfl⟩, rfl, rfl, rfl, rfl, rfl, rfl, by decide +kernel, of_decide_eq_true (by kernel_rfl), by kernel_rfl⟩
theorem ok_make (P : Params) : DefOk P 89 (fd_make P) n_make t_make := ⟨⟨_, rfl, rfl⟩, by kernel_rfl, ⟨_, rfl, by kernel_rfl⟩, rfl, rfl, rfl, rfl, rfl, rfl, by decide +kernel, of_decide_eq_true (by kernel_rfl), by kernel_rfl⟩
theorem ok_sminit (P : Params) : DefOk P 160 (fd_sminit P) n_sminit t_sminit := ⟨⟨_, rfl, rfl⟩, by kernel_rfl, ⟨_, rfl, by kernel_rfl⟩, rfl, rfl, rfl, rfl, rfl, rfl, by decide +kernel, of_decide_eq_true (by kernel_rfl), by kernel_rfl⟩
theorem ok_seqs (P : Params) : DefOk P 167 (fd_seqs P) n_seqs t_seqs := ⟨⟨_, rfl, rfl⟩, by kernel_rfl, ⟨_, rfl, by kernel_rfl⟩, rfl, rfl, rfl, rfl, rfl, rfl, by decide +kernel, of_decide_eq_true (by kernel_rfl), by kernel_rfl⟩
theorem ok_seq1 (P : Params) : DefOk P 174 (fd_seq1 P) n_seq1 t_seq1 := ⟨⟨_, rfl, rfl⟩, by kernel_rfl, ⟨_, rfl, by kernel_rfl⟩, rfl, rfl, rfl, rfl, rfl, rfl, by decide +kernel, of_decide_eq_true (by kernel_rfl), by kernel_rfl⟩
theorem ok_seq2 (P : Params) : DefOk P 181 (fd_seq2 P) n_seq2 t_seq2 := ⟨⟨_, rfl, rfl⟩, by kernel_rfl, ⟨_, rfl, by kernel_rfl⟩, rfl, rfl, rfl, rfl, rfl, rfl, by decide +kernel, of_decide_eq_true (by kernel_rfl), by kernel_rfl⟩
theorem ok_chain (P : Params) : DefOk P 188 (fd_chain P) n_chain t_chain := ⟨⟨_, rfl, rfl⟩, by kernel_rfl, ⟨_, rfl, by kernel_rfl⟩, rfl, rfl, rfl, rfl, rfl, rfl, by decide +kernel, of_decide_eq_true (by kernel_rfl), by kernel_rfl⟩
theorem ok_flm (P : Params) : DefOk P 196 (fd_flm P) n_flm t_flm := ⟨⟨_, rfl, rfl⟩, by kernel_rfl, ⟨_, rfl, by kernel_rfl⟩, rfl, rfl, rfl, rfl, rfl, rfl, by decide +kernel, of_decide_eq_true (by kernel_rfl), by kernel_rfl⟩
theorem ok_goc (P : Params) : DefOk P 210 (fd_goc P) n_goc t_goc := ⟨⟨_, rfl, rfl⟩, by kernel_rfl, ⟨_, rfl, by kernel_rfl⟩, rfl, rfl, rfl, rfl, rfl, rfl, by decide +kernel, of_decide_eq_true (by kernel_rfl), by kernel_rfl⟩
theorem ok_insort (P : Params) : DefOk P 255 (fd_insort P) n_insort t_insort := ⟨⟨_, rfl, rfl⟩, by kernel_rfl, ⟨_, rfl, by kernel_rfl⟩, rfl, rfl, rfl, rfl, rfl, rfl, by decide +kernel, of_decide_eq_true (by kernel_rfl), by kernel_rfl⟩
theorem ok_bisect (P : Params) : DefOk P 264 (fd_bisect P) n_bisect t_bisect := ⟨⟨_, rfl, rfl⟩, by kernel_rfl, ⟨_, rfl, by kernel_rfl⟩, rfl, rfl, rfl, rfl, rfl, rfl, by decide +kernel, of_decide_eq_true (by kernel_rfl), by kernel_rfl⟩
theorem ok_niinit (P : Params) : DefOk P 279 (fd_niinit P) n_niinit t_niinit := ⟨⟨_, rfl, rfl⟩, by kernel_rfl, ⟨_, rfl, by kernel_rfl⟩, rfl, rfl, rfl, rfl, rfl, rfl, by decide +kernel, of_decide_eq_true (by kernel_rfl), by kernel_rfl⟩
theorem ok_tsinit (P : Params) : DefOk P 316 (fd_tsinit P) n_tsinit t_tsinit := ⟨⟨_, rfl, rfl⟩, by kernel_rfl, ⟨_, rfl, by kernel_rfl⟩, rfl, rfl, rfl, rfl, rfl, rfl, by decide +kernel, of_decide_eq_true (by kernel_rfl), by kernel_rfl⟩
theorem ok_gni (P : Params) : DefOk P 323 (fd_gni P) n_gni t_gni := ⟨⟨_, rfl, rfl⟩, by kernel_rfl, ⟨_, rfl, by kernel_rfl⟩, rfl, rfl, rfl, rfl, rfl, rfl, by decide +kernel, of_decide_eq_true (by kernel_rfl), by kernel_rfl⟩
theorem ok_add (P : Params) : DefOk P 330 (fd_add P) n_add t_add := ⟨⟨_, rfl, rfl⟩, by kernel_rfl, ⟨_, rfl, by kernel_rfl⟩, rfl, rfl, rfl, rfl, rfl, rfl, by decide +kernel, of_decide_eq_true (by kernel_rfl), by kernel_rfl⟩
theorem ok_prep (P : Params) : DefOk P 335 (fd_prep P) n_prep t_prep := ⟨⟨_, rfl, rfl⟩, by kernel_rfl, ⟨_, rfl, by kernel_rfl⟩, rfl, rfl, rfl, rfl, rfl, rfl, by decide +kernel, of_decide_eq_true (by kernel_rfl), by kernel_rfl⟩
theorem ok_ready (P : Params) : DefOk P 342 (fd_ready P) n_ready t_ready := ⟨⟨_, rfl, rfl⟩, by kernel_rfl, ⟨_, rfl, by kernel_rfl⟩, rfl, rfl, rfl, rfl, rfl, rfl, by decide +kernel, of_decide_eq_true (by kernel_rfl), by kernel_rfl⟩
theorem ok_active (P : Params) : DefOk P 349 (fd_active P) n_active t_active := ⟨⟨_, rfl, rfl⟩, by kernel_rfl, ⟨_, rfl, by kernel_rfl⟩, rfl, rfl, rfl, rfl, rfl, rfl, by decide +kernel, of_decide_eq_true (by kernel_rfl), by kernel_rfl⟩
theorem ok_done (P : Params) : DefOk P 363 (fd_done P) n_done t_done := ⟨⟨_, rfl, rfl⟩, by kernel_rfl, ⟨_, rfl, by kernel_rfl⟩, rfl, rfl, rfl, rfl, rfl, rfl, by decide +kernel, of_decide_eq_true (by kernel_rfl), by kernel_rfl⟩
theorem ok_cyc (P : Params) : DefOk P 370 (fd_cyc P) n_cyc t_cyc := ⟨⟨_, rfl, rfl⟩, by kernel_rfl, ⟨_, rfl, by kernel_rfl⟩, rfl, rfl, rfl, rfl, rfl, rfl, by decide +kernel, of_decide_eq_true (by kernel_rfl), by kernel_rfl⟩
theorem ok_whole (P : Params) : DefOk P 389 (fd_whole P) n_whole t_whole := ⟨⟨_, rfl, rfl⟩, by kernel_rfl, ⟨_, rfl, by kernel_rfl⟩, rfl, rfl, rfl, rfl, rfl, rfl, by decide +kernel, of_decide_eq_true (by kernel_rfl), by kernel_rfl⟩
theorem ok_order (P : Params) : DefOk P 396 (fd_order P) n_order t_order := ⟨⟨_, rfl, rfl⟩, by kernel_rfl, ⟨_, rfl, by kernel_rfl⟩, rfl, rfl, rfl, rfl, rfl, rfl, by decide +kernel, of_decide_eq_true (by kernel_rfl), by kernel_rfl⟩
end
section
section
variable {c : Cx} {A : Around} {σ : St} {Q : V → St → Prop}
theorem tr_list {i : Nat} {x : Int} {xs : List V} {Q : Bool → St → Prop} (hg : σ.H.get i x = some (.list xs)) (hl : xs.length < 1000000) (q : Q (decide (xs ≠ [])) σ) : Tr c A σ (.ref i x) Q := fun ρ st v D e => by
 obtain ⟨e, _⟩ := e
 subst e
 obtain ⟨vs, ⟨n, g⟩, rs⟩ := D.objs i x _ hg
 have len : vs.size = xs.length := by have := VRs.length rs; simpa using this
 refine wpAny_truthy_list (items := vs) ⟨_, g, rfl, n, rfl⟩ (by rw [len]; lia) ?_
 have e2 : (!vs.isEmpty) = decide (xs ≠ []) := by
  unfold Array.isEmpty
  rw [len]
  cases xs <;> simp
 rw [e2]
 obtain ⟨D', x'⟩ := den_toks D (st.toks + 1 + 1)
 exact ⟨σ, ρ, D', x', q⟩
end
end
section
section
variable {c : Cx} {A : Around} {σ : St} {K : Kt}
theorem s_cut {t : TS} {ts : List TS} (P : St → Prop) (h : ∀ K' : Kt, K'.ret = K.ret → (∀ σ, P σ → K'.next σ) → vcS A t c σ K') (h2 : ∀ σ, P σ → vcSs A ts c σ K) : vcSs A (t :: ts) c σ K := h ⟨fun σ₁ => vcSs A ts c σ₁ K, K.brk, K.cont, K.ret⟩ rfl h2
theorem sq_list {H : AH} {i : Nat} {x : Int} {l : List V} (h : H.get i x = some (.list l)) : seqOf (.ref i x) H = some (l, 0) := by
 show (match H.get i x with | some (.list xs) => some (xs, 0) | some (.dict es ep) => some (es.map (fun p : Int × V => V.int p.1), ep + 1) | _ => none) = _
 rw [h]
theorem sq_dict {H : AH} {i : Nat} {x : Int} {es : List (Int × V)} {ep : Nat} (h : H.get i x = some (.dict es ep)) : seqOf (.ref i x) H = some (es.map (fun p => .int p.1), ep + 1) := by
 show (match H.get i x with | some (.list xs) => some (xs, 0) | some (.dict es ep) => some (es.map (fun p : Int × V => V.int p.1), ep + 1) | _ => none) = _
 rw [h]
theorem sq_vals {H : AH} {i : Nat} {x : Int} {es : List (Int × V)} {ep : Nat} (h : H.get i x = some (.dict es ep)) : seqOf (.vals i x) H = some (es.map (·.2), ep + 1) := by
 show (match H.get i x with | some (.dict es ep) => some (es.map (fun p : Int × V => p.2), ep + 1) | _ => none) = _
 rw [h]
theorem vr1 {W : Wd} {X : V} {vs : List Value} {P : List Value → Prop} (h : VRs W [X] vs) (k : ∀ a, VR W X a → P [a]) : P vs := h.e_cons fun a r e ra h => by
 have e2 : r = [] := h
 subst e e2; exact k a ra
theorem vr2 {W : Wd} {X Y : V} {vs : List Value} {P : List Value → Prop} (h : VRs W [X, Y] vs) (k : ∀ a b, VR W X a → VR W Y b → P [a, b]) : P vs := h.e_cons fun a r e ra tl => by
 subst e; exact vr1 (P := fun r => P (a :: r)) tl fun b rb => k a b ra rb
theorem vr3 {W : Wd} {X Y Z : V} {vs : List Value} {P : List Value → Prop} (h : VRs W [X, Y, Z] vs) (k : ∀ a b c, VR W X a → VR W Y b → VR W Z c → P [a, b, c]) : P vs := h.e_cons fun a r e ra tl => by
 subst e; exact vr2 (P := fun r => P (a :: r)) tl fun b c rb rc => k a b c ra rb rc
theorem vr4 {W : Wd} {X Y Z U : V} {vs : List Value} {P : List Value → Prop} (h : VRs W [X, Y, Z, U] vs) (k : ∀ a b c d, VR W X a → VR W Y b → VR W Z c → VR W U d → P [a, b, c, d]) : P vs := h.e_cons fun a r e ra tl => by
 subst e; exact vr3 (P := fun r => P (a :: r)) tl fun b c d rb rc rd => k a b c d ra rb rc rd
theorem vr5 {W : Wd} {X Y Z U T : V} {vs : List Value} {P : List Value → Prop} (h : VRs W [X, Y, Z, U, T] vs) (k : ∀ a b c d e, VR W X a → VR W Y b → VR W Z c → VR W U d → VR W T e → P [a, b, c, d, e]) : P vs := h.e_cons fun a r e ra tl => by
 subst e; exact vr4 (P := fun r => P (a :: r)) tl fun b c d e rb rc rd re => k a b c d e ra rb rc rd re
theorem bd_of {fd : FuncData} {ns : List Str} {Xs Ys : List V} (top : (Internal.K c.w.params).In c.h1) (h : ∀ W vs, VRs W Xs vs → ∃ vs', (∀ S, peek (Internal.K c.w.params) S (bindArgs fd ⟨vs, []⟩) = some ((ns.take Ys.length).zip vs')) ∧ VRs W Ys vs') : Bd c A σ fd ns Xs Ys := by
 intro ρ st vs D rs R hR
 obtain ⟨vs', e, r'⟩ := h _ vs rs
 exact (kp_binds (D.K top) (fun S => e S)) _ _ _ _ (hR vs' st (fun _ _ h => h) rfl rfl r')
theorem bd1 {fd : FuncData} {ns : List Str} {X : V} {Ys : List V} (top : (Internal.K c.w.params).In c.h1) (h : ∀ W a, VR W X a → ∃ vs', (∀ S, peek (Internal.K c.w.params) S (bindArgs fd ⟨[a], []⟩) = some ((ns.take Ys.length).zip vs')) ∧ VRs W Ys vs') : Bd c A σ fd ns [X] Ys :=
 bd_of top fun W vs rs => vr1 (P := fun vs => ∃ vs', (∀ S, peek (Internal.K c.w.params) S (bindArgs fd ⟨vs, []⟩) = some ((ns.take Ys.length).zip vs')) ∧ VRs W Ys vs') rs (h W)
theorem bd2 {fd : FuncData} {ns : List Str} {X Y : V} {Ys : List V} (top : (Internal.K c.w.params).In c.h1) (h : ∀ W a b, VR W X a → VR W Y b → ∃ vs', (∀ S, peek (Internal.K c.w.params) S (bindArgs fd ⟨[a, b], []⟩) = some ((ns.take Ys.length).zip vs')) ∧ VRs W Ys vs') : Bd c A σ fd ns [X, Y] Ys :=
 bd_of top fun W vs rs => vr2 (P := fun vs => ∃ vs', (∀ S, peek (Internal.K c.w.params) S (bindArgs fd ⟨vs, []⟩) = some ((ns.take Ys.length).zip vs')) ∧ VRs W Ys vs') rs (h W)
theorem bd3 {fd : FuncData} {ns : List Str} {X Y Z : V} {Ys : List V} (top : (Internal.K c.w.params).In c.h1) (h : ∀ W a b d, VR W X a → VR W Y b → VR W Z d → ∃ vs', (∀ S, peek (Internal.K c.w.params) S (bindArgs fd ⟨[a, b, d], []⟩) = some ((ns.take Ys.length).zip vs')) ∧ VRs W Ys vs') : Bd c A σ fd ns [X, Y, Z] Ys :=
 bd_of top fun W vs rs => vr3 (P := fun vs => ∃ vs', (∀ S, peek (Internal.K c.w.params) S (bindArgs fd ⟨vs, []⟩) = some ((ns.take Ys.length).zip vs')) ∧ VRs W Ys vs') rs (h W)
theorem bd4 {fd : FuncData} {ns : List Str} {X Y Z U : V} {Ys : List V} (top : (Internal.K c.w.params).In c.h1) (h : ∀ W a b d e, VR W X a → VR W Y b → VR W Z d → VR W U e → ∃ vs', (∀ S, peek (Internal.K c.w.params) S (bindArgs fd ⟨[a, b, d, e], []⟩) = some ((ns.take Ys.length).zip vs')) ∧ VRs W Ys vs') : Bd c A σ fd ns [X, Y, Z, U] Ys :=
 bd_of top fun W vs rs => vr4 (P := fun vs => ∃ vs', (∀ S, peek (Internal.K c.w.params) S (bindArgs fd ⟨vs, []⟩) = some ((ns.take Ys.length).zip vs')) ∧ VRs W Ys vs') rs (h W)
theorem bd5 {fd : FuncData} {ns : List Str} {X Y Z U T : V} {Ys : List V} (top : (Internal.K c.w.params).In c.h1) (h : ∀ W a b d e f, VR W X a → VR W Y b → VR W Z d → VR W U e → VR W T f → ∃ vs', (∀ S, peek (Internal.K c.w.params) S (bindArgs fd ⟨[a, b, d, e, f], []⟩) = some ((ns.take Ys.length).zip vs')) ∧ VRs W Ys vs') : Bd c A σ fd ns [X, Y, Z, U, T] Ys :=
 bd_of top fun W vs rs => vr5 (P := fun vs => ∃ vs', (∀ S, peek (Internal.K c.w.params) S (bindArgs fd ⟨vs, []⟩) = some ((ns.take Ys.length).zip vs')) ∧ VRs W Ys vs') rs (h W)
end
end
section
section
variable {c : Cx} {A : Around} {σ : St} {Q : V → St → Prop}
theorem item_by {st : Shared} {o i : Value} {T id : String} {Q : Value → Shared → Prop} (ht : st.TypeIs o T) (hl : typeLookup (.type T) "__getitem__" = pure (some (.builtin id))) (h : wpAny (MM c) A (getItem o i) Q noExc st) : wpAny (MM c) A (itemOf o i) Q noExc st := by
 unfold itemOf getitemInPython
 refine wpAny_bind (wpAny_bind (wpAny_specialOf ht hl ?_))
 exact wpAny_pure h
theorem item_list {i : Nat} {x n : Int} {xs : List V} {Y : V} (hg : σ.H.get i x = some (.list xs)) (h0 : 0 ≤ n) (hn : n < 1000000) (hY : xs[n.toNat]? = some Y) (q : Q Y σ) : Op2 c A σ (.ref i x) (.int n) itemOf Q := fun ρ st v u D e ⟨t, e'⟩ => by
 obtain ⟨e, _⟩ := e
 subst e e'
 obtain ⟨vs, ⟨m, g⟩, rs⟩ := D.objs i x _ hg
 obtain ⟨y, hy, ry⟩ := (VRs.at n.toNat rs).1 Y hY
 have hl : st.heap.IsList (ρ i x) vs := ⟨_, g, rfl, m, rfl⟩
 exact item_by hl.typeIs slot_list_getitem.lookup (wpAny_getItem_list hl h0 (by lia) (by simpa using hy) (Post.now D ry q))
theorem keep_obj {a : Addr} (top : (K c.w.params).In c.h1) (h : keepIn (K c.w.params) (.ref a) = true) : KeepV c (.obj a) := fun σ ρ st v D e => by
 have e : v = .ref a := e
 subst e
 exact keeps_K h _ (D.K top)
theorem len_list {i : Nat} {x : Int} {xs : List V} (hg : σ.H.get i x = some (.list xs)) (hl : xs.length < 1000000) (q : Q (.int xs.length) σ) : Ca c A σ (.bi "len") [.ref i x] Q := fun ρ st f vs D e r => by
 have e : f = .builtin "len" := e
 subst e
 obtain ⟨v, r', rfl, ⟨rfl, _⟩, e2⟩ := r
 have e2 : r' = [] := e2
 subst e2
 obtain ⟨us, ⟨m, g⟩, rs⟩ := D.objs i x _ hg
 have len : us.size = xs.length := by have := VRs.length rs; simpa using this
 have hl' : st.heap.IsList (ρ i x) us := ⟨_, g, rfl, m, rfl⟩
 refine Calls.call_len_list hl' (by rw [len]; lia) ?_
 obtain ⟨D', x'⟩ := den_toks D (st.toks + 1 + 1)
 exact ⟨.int xs.length, σ, ρ, D', ⟨_, by rw [len]⟩, x', q⟩
theorem put_ext {l₀ : List (Option V)} {H₀ : AH} {ρ : Nat → Int → Addr} {st st' : Shared} {i : Nat} {x : Int} {o' : O} (D : Den c ⟨l₀, H₀⟩ ρ st) (hd : (H₀.get i x).isSome = true) (kk : Heap.ExtBut (ρ i x) st.heap st'.heap) :
  Ext (wd c ⟨l₀, H₀⟩ ρ st) (wd c ⟨l₀, H₀.put i x o'⟩ ρ st') := by
 obtain ⟨ob₀, hx₀⟩ := Option.isSome_iff_exists.mp hd
 obtain ⟨ob, hob, him⟩ := (D.objs i x ob₀ hx₀).at
 refine ⟨fun j y h => ?_, fun _ _ _ => rfl, fun a o h m => ?_⟩
 ·show ((H₀.put i x o').get j y).isSome = true
  rw [AH.get_put hd]
  split
  ·rfl
  ·exact h
 ·by_cases e : a = ρ i x
  ·subst e; rw [hob] at h; cases h; exact absurd m him
  ·exact kk a o e h
theorem getM_list {i : Nat} {x : Int} {xs : List V} {n : Str} {id : String} {Q : V → List V → St → Prop} (hg : σ.H.get i x = some (.list xs)) (slot : Slot "list" n id) (hty : typeOf (.builtin id) = pure (.type "method_descriptor"))
  (q : Q (.bi id) [.ref i x] σ) : GetM c A σ (.ref i x) n Q := fun ρ st v pl D e => by
 have e0 := e
 obtain ⟨e, _⟩ := e
 subst e
 obtain ⟨us, ⟨m, g⟩, rs⟩ := D.objs i x _ hg
 have hl' : st.heap.IsList (ρ i x) us := ⟨_, g, rfl, m, rfl⟩
 exact getMethod_builtin hl'.typeIs F.plainAttrs_list slot hty (fun a ea => by cases ea; exact ⟨_, g, rfl⟩) ⟨.bi id, [.ref i x], σ, ρ, D, rfl, ⟨_, [], rfl, e0, rfl⟩, .refl _, q⟩
theorem append_list {l₀ : List (Option V)} {H₀ : AH} {i : Nat} {x : Int} {xs : List V} {Y : V} (hg : H₀.get i x = some (.list xs)) (hl : xs.length < 1000000) (q : Q .none ⟨l₀, H₀.put i x (.list (xs ++ [Y]))⟩) : Ca c A ⟨l₀, H₀⟩ (.bi "list.append") [.ref i x, Y] Q := fun ρ st f vs D e r => by
 have e : f = .builtin "list.append" := e
 subst e
 obtain ⟨v, r', rfl, ⟨rfl, hd⟩, y, r2, rfl, ry, e2⟩ := r
 have e2 : r2 = [] := e2
 subst e2
 obtain ⟨us, ⟨m, g⟩, rs⟩ := D.objs i x _ hg
 have len : us.size = xs.length := by have := VRs.length rs; simpa using this
 refine wpAny_list_append_plain (items := us) ⟨m, g⟩ (fun h' hp sb => ?_) (by rw [len]; exact Nat.le_trans (Nat.le_of_lt hl) (by decide))
 have hd' : (H₀.get i x).isSome = true := hd
 have X0 := put_ext (st' := { st with heap := h' }) (o' := .list (xs ++ [Y])) D hd' sb.extBut
 obtain ⟨D', x'⟩ := D.upd (st' := { st with heap := h' }) (o' := .list (xs ++ [Y])) hd' sb.extBut rfl rfl ⟨us.push y, hp, by
  have := VRs.app (VRs.ext X0 _ _ rs) (VRs.cons (VR.ext X0 _ _ ry) (VRs.nil _))
  simpa using this⟩
 exact ⟨.none, _, ρ, D', rfl, x', q⟩
end
end
section
noncomputable def clip (n : Nat) (d : Nat) : V → Option Nat
 | .none => some d
 | .int i => some (if i < 0 then (i + n).toNat else min i.toNat n)
 | _ => Option.none
noncomputable def cut {α : Type} (xs : List α) (a b : Nat) : List α := (xs.drop a).take (b - a)
theorem pick_aux {α : Type} (vs : List α) (a : Nat) : ∀ n, a + n ≤ vs.length → ((List.range n).map fun (k : Nat) => ((a : Int) + 1 * (k : Int)).toNat).filterMap (vs.toArray[·]?) = (vs.drop a).take n
 | 0, _ => by simp
 | n + 1, h => by
  rw [List.range_succ, List.map_append, List.filterMap_append, pick_aux vs a n (Nat.le_of_lt h)]
  have e : ((a : Int) + 1 * (n : Int)).toNat = a + n := by grind
  have hl : a + n < vs.length := by assumption
  simp only [List.map_cons, List.map_nil, e, List.filterMap_cons, List.filterMap_nil, List.getElem?_toArray, List.getElem?_eq_getElem hl]
  rw [List.take_add_one, List.getElem?_drop, List.getElem?_eq_getElem hl]
  rfl
theorem range_pick {α : Type} (vs : List α) (a b : Nat) (hb : b ≤ vs.length) : ((sliceRange (a : Int) (b : Int) 1).filterMap (vs.toArray[·]?)) = cut vs a b := by
 unfold sliceRange cut
 simp only [show (1 : Int) > 0 from by decide, if_true]
 by_cases h : a < b
 ·have e : ((if (a : Int) < b then ((b : Int) - a + 1 - 1) / 1 else 0).toNat) = b - a := by rw [if_pos (by lia)]; grind
  rw [e]
  exact pick_aux vs a (b - a) (by omega)
 ·have e : ((if (a : Int) < b then ((b : Int) - a + 1 - 1) / 1 else 0).toNat) = 0 := by rw [if_neg (by lia)]; rfl
  rw [e, show b - a = 0 by grind]
  simp
theorem VRs.drop {W : Wd} {Xs : List V} {vs : List Value} (n : Nat) (h : VRs W Xs vs) : VRs W (Xs.drop n) (vs.drop n) := by
 induction Xs generalizing vs n with
 | nil => have e : vs = [] := h; subst e; rw [List.drop_nil, List.drop_nil]; exact rfl
 | cons X Xs ih =>
  refine h.e_cons fun v r e a b => ?_
  subst e
  cases n with
  | zero => exact VRs.cons a b
  | succ n => exact ih n b
theorem VRs.take {W : Wd} {Xs : List V} {vs : List Value} (n : Nat) (h : VRs W Xs vs) : VRs W (Xs.take n) (vs.take n) := by
 induction Xs generalizing vs n with
 | nil => have e : vs = [] := h; subst e; rw [List.take_nil, List.take_nil]; exact rfl
 | cons X Xs ih =>
  refine h.e_cons fun v r e a b => ?_
  subst e
  cases n with
  | zero => exact rfl
  | succ n => exact VRs.cons a (ih n b)
end
section
section
variable {c : Cx} {A : Around} {σ : St} {Q : V → St → Prop}
noncomputable def partOf : V → Option (Option Int)
 | .none => some Option.none
 | .int i => some (some i)
 | _ => Option.none
theorem clip_part {n d a : Nat} {X : V} (h : clip n d X = some a) : ∃ o, partOf X = some o := by
 cases X <;> simp [clip] at h <;> exact ⟨_, rfl⟩
theorem part_is {W : Wd} {X : V} {v : Value} {o : Option Int} (h : partOf X = some o) (r : VR W X v) : IsPart v o := by
 cases X <;> simp [partOf] at h <;> subst h
 ·have e : v = .none := r; subst e; exact .none
 ·obtain ⟨t, rfl⟩ := r; exact .int _ _
theorem bounds_eq {n a b : Nat} {L U : V} {lo hi : Option Int} (hl : partOf L = some lo) (hh : partOf U = some hi) (ha : clip n 0 L = some a) (hb : clip n n U = some b) : sliceBounds lo hi none n = ((a : Int), (b : Int), 1) := by
 have k : ∀ (X : V) (o : Option Int) (d e : Nat), partOf X = some o → clip n d X = some e → (match o with | none => (d : Int) | some i => max 0 (min (if i < 0 then i + n else i) n)) = (e : Int) := by
  intro X o d e h1 h2
  cases X <;> simp [partOf] at h1 <;> simp [clip] at h2 <;> subst h1 <;> subst h2
  ·rfl
  ·simp only
   split <;> grind
 have k1 := k L lo 0 a hl ha
 have k2 := k U hi n b hh hb
 unfold sliceBounds
 simp only [Option.getD_none, show (1 : Int) > 0 from by decide, if_true]
 refine Prod.ext ?_ (Prod.ext ?_ rfl)
 ·cases lo <;> simpa using k1
 ·cases hi <;> simpa using k2
theorem clip_le {n a d : Nat} (hd : d ≤ n) {X : V} (h : clip n d X = some a) : a ≤ n := by
 cases X <;> simp [clip] at h <;> subst h
 ·exact hd
 ·split <;> grind
theorem slice_list {l₀ : List (Option V)} {H₀ : AH} {i : Nat} {x : Int} {xs : List V} {L U : V} {a b : Nat} {p : Pos} (hg : H₀.get i x = some (.list xs)) (hl : xs.length < 1000000) (ha : clip xs.length 0 L = some a) (hb : clip xs.length xs.length U = some b)
  (q : Q (.ref H₀.length 0) ⟨l₀, H₀ ++ [.one (.list (cut xs a b))]⟩) : Op3 c A ⟨l₀, H₀⟩ (.ref i x) L U (sliceOf p) Q := fun ρ st v l u D r rl ru => by
 obtain ⟨e, hd⟩ := r
 subst e
 obtain ⟨lo, hlo⟩ := clip_part ha
 obtain ⟨hi, hhi⟩ := clip_part hb
 unfold sliceOf
 refine wpAny_bind (wpAny_newObj_type (T := "slice") (data := .fields #[l, u, .none]) ?_ (by show (3 : Nat) ≤ _; decide))
 obtain ⟨D₁, x₁⟩ := D.keeps (st' := { st with heap := st.heap.push { cls := .type "slice", data := .fields #[l, u, .none] } }) (fun b o hb => Heap.get?_push_of_some _ hb) rfl rfl
 obtain ⟨vs, ⟨m, g⟩, rs⟩ := D₁.objs i x _ hg
 have len : vs.size = xs.length := by have := VRs.length rs; simpa using this
 have hl' : ({ st with heap := st.heap.push { cls := .type "slice", data := .fields #[l, u, .none] } } : Shared).heap.IsList (ρ i x) vs := ⟨_, g, rfl, m, rfl⟩
 refine wpAny_bind (wpAny_standAt (wpAny_bind ?_))
 unfold getitemInPython
 refine wpAny_bind (wpAny_specialOf hl'.typeIs slot_list_getitem.lookup (wpAny_pure ?_))
 refine wpAny_getItem_list_slice hl' (Heap.IsSliceOf.new _ _ _ _) (part_is hlo rl) (part_is hhi ru) .none (by simp) ?_ (by rw [len]; exact Nat.le_trans (Nat.le_of_lt hl) (by decide))
 have pk : slicePick vs lo hi none = (cut vs.toList a b).toArray := by
  unfold slicePick
  rw [len, bounds_eq hlo hhi ha hb]
  have := range_pick vs.toList a b (by have := clip_le (Nat.le_refl _) hb; rw [Array.length_toList]; lia)
  simpa using this
 rw [pk]
 obtain ⟨D₂, x₂⟩ := D₁.alloc (st' := { st with heap := (st.heap.push { cls := .type "slice", data := .fields #[l, u, .none] }).push { cls := .type "list", data := .seq (cut vs.toList a b).toArray } }) (a := (st.heap.push { cls := .type "slice", data := .fields #[l, u, .none] }).objs.size) (o' := .list (cut xs a b)) (get_size _)
  (fun b o hb => Heap.get?_push_of_some _ hb) rfl rfl ⟨(cut vs.toList a b).toArray, ⟨0, Heap.get?_push_size _ rfl⟩, VRs.ext (alloc_ext D₁ (get_size _) (fun b o hb => Heap.get?_push_of_some _ hb)) _ _ (by simpa [cut] using VRs.take _ (VRs.drop _ rs))⟩
 exact ⟨.ref H₀.length 0, _, _, D₂, ⟨by simp [wd, ρapp], by simp [wd, AH.get_app]⟩, x₁.trans x₂, q⟩
end
end
section
section
variable {c : Cx} {A : Around} {σ : St} {Q : V → St → Prop}
theorem ints_vals {W : Wd} : ∀ {xs : List Int} {vs : List Value}, VRs W (xs.map V.int) vs → vs.length = xs.length ∧ ∀ (j : Nat) n, xs[j]? = some n → ∃ t, vs[j]? = some (.int n t)
 | [], vs, h => by have e : vs = [] := h; subst e; simp
 | x :: xs, _, ⟨v, r, e, ⟨t, a⟩, b⟩ => by
  subst e
  obtain ⟨h1, h2⟩ := ints_vals b
  refine ⟨by simp [h1], fun j n h => ?_⟩
  cases j with
  | zero => simp at h; subst h; exact ⟨t, by simp [a]⟩
  | succ j => simpa using h2 j n (by simpa using h)
theorem Den.list {ρ : Nat → Int → Addr} {st : Shared} {i : Nat} {x : Int} {xs : List V} (D : Den c σ ρ st) (hg : σ.H.get i x = some (.list xs)) :
  ∃ vs n, st.heap.get? (ρ i x) = some ⟨.type "list", none, .seq vs n, #[]⟩ ∧ vs.size = xs.length ∧ VRs (wd c σ ρ st) xs vs.toList := by
 obtain ⟨vs, ⟨n, g⟩, rs⟩ := D.objs i x _ hg
 exact ⟨vs, n, g, by have := VRs.length rs; simpa using this, rs⟩
theorem Den.relist {l₀ : List (Option V)} {H₀ : AH} {ρ : Nat → Int → Addr} {st : Shared} {i : Nat} {x : Int} {xs ys : List V} {vs us : Array Value} {n : Nat} {f : Array Value → Array Value} (D : Den c ⟨l₀, H₀⟩ ρ st) (hg : H₀.get i x = some (.list xs))
  (g : st.heap.get? (ρ i x) = some ⟨.type "list", none, .seq vs n, #[]⟩) (e : f vs = us) (rs : VRs (wd c ⟨l₀, H₀⟩ ρ st) ys us.toList) {tk : Nat} :
  Den c ⟨l₀, H₀.put i x (.list ys)⟩ ρ { st with heap := st.heap.update (ρ i x) (Obj.mapSeq f), toks := tk } ∧ Ext (wd c ⟨l₀, H₀⟩ ρ st) (wd c ⟨l₀, H₀.put i x (.list ys)⟩ ρ { st with heap := st.heap.update (ρ i x) (Obj.mapSeq f), toks := tk }) := by
 have hd : (H₀.get i x).isSome = true := by rw [hg]; rfl
 have sb : Heap.SameBut (ρ i x) st.heap (st.heap.update (ρ i x) (Obj.mapSeq f)) := Heap.SameBut.update ..
 have X0 := put_ext (st' := { st with heap := st.heap.update (ρ i x) (Obj.mapSeq f), toks := tk }) (o' := .list ys) D hd sb.extBut
 have gg : (st.heap.update (ρ i x) (Obj.mapSeq f)).get? (ρ i x) = some (Obj.mapSeq f ⟨.type "list", none, .seq vs n, #[]⟩) := Heap.get?_update_self _ g rfl
 exact D.upd (st' := { st with heap := st.heap.update (ρ i x) (Obj.mapSeq f), toks := tk }) (o' := .list ys) hd sb.extBut rfl rfl ⟨us, ⟨_, by rw [← e]; exact gg⟩, VRs.ext X0 _ _ rs⟩
theorem pop_list {l₀ : List (Option V)} {H₀ : AH} {i : Nat} {x : Int} {xs : List V} {Y : V} (hg : H₀.get i x = some (.list (xs ++ [Y]))) (hl : xs.length < 1000000) (q : Q Y ⟨l₀, H₀.put i x (.list xs)⟩) : Ca c A ⟨l₀, H₀⟩ (.bi "list.pop") [.ref i x] Q := fun ρ st f vs D e r => by
 have e : f = .builtin "list.pop" := e
 subst e
 obtain ⟨v, r', rfl, ⟨rfl, hd⟩, e2⟩ := r
 have e2 : r' = [] := e2
 subst e2
 obtain ⟨us, m, g, len, rs⟩ := D.list hg
 rw [List.length_append, List.length_singleton] at len
 obtain ⟨y, hy, ry⟩ := (VRs.at xs.length rs).1 Y (by simp)
 have hy' : us[us.size - 1]? = some y := by rw [len]; simpa using hy
 refine call_meets F.slot_list_pop ⟨_, g, rfl⟩ F.entry_list_pop (F.args_list_pop_1 _) (MeetsSeq.list_pop_last _ us m y hy' (by rw [len]; exact Nat.le_trans (by exact Nat.le.step hl : xs.length + 1 ≤ 1000001) (by decide))) ⟨g, ?_⟩
 have e3 : us.eraseIdxIfInBounds (us.size - 1) = (us.toList.take xs.length).toArray := by
  apply Array.toList_inj.mp
  have hlt : us.size - 1 < us.size := by grind
  simp only [Array.eraseIdxIfInBounds, hlt, dite_true, Array.toList_eraseIdx]
  rw [len, List.eraseIdx_eq_take_drop_succ]
  simp
  grind
 obtain ⟨D', x'⟩ := D.relist (ys := xs) (us := (us.toList.take xs.length).toArray) (f := fun xs => xs.eraseIdxIfInBounds (us.size - 1)) (tk := st.toks) hg g e3 (by have := VRs.take xs.length rs; simpa using this)
 exact ⟨Y, _, ρ, D', VR.ext x' _ _ ry, x', q⟩
theorem clear_list {l₀ : List (Option V)} {H₀ : AH} {i : Nat} {x : Int} {xs : List V} (hg : H₀.get i x = some (.list xs)) (hl : xs.length < 1000000) (q : Q .none ⟨l₀, H₀.put i x (.list [])⟩) : Ca c A ⟨l₀, H₀⟩ (.bi "list.clear") [.ref i x] Q := fun ρ st f vs D e r => by
 have e : f = .builtin "list.clear" := e
 subst e
 obtain ⟨v, r', rfl, ⟨rfl, hd⟩, e2⟩ := r
 have e2 : r' = [] := e2
 subst e2
 obtain ⟨us, m, g, len, rs⟩ := D.list hg
 refine call_meets F.slot_list_clear ⟨_, g, rfl⟩ F.entry_list_clear (F.args_list_clear_1 _) (AutoSeq1.list_clear_list_0 _ us m (by rw [len]; exact Nat.le_trans (Nat.le_of_lt hl) (by decide))) ⟨g, ?_⟩
 obtain ⟨D', x'⟩ := D.relist (ys := []) (us := #[]) (f := fun _ => #[]) (tk := st.toks) hg g rfl (VRs.nil _)
 exact ⟨.none, _, ρ, D', rfl, x', q⟩
theorem insert_list {l₀ : List (Option V)} {H₀ : AH} {i : Nat} {x n : Int} {xs : List V} {Y : V} (hg : H₀.get i x = some (.list xs)) (hl : xs.length < 1000000) (h0 : 0 ≤ n) (hn : n ≤ xs.length) (q : Q .none ⟨l₀, H₀.put i x (.list (xs.take n.toNat ++ Y :: xs.drop n.toNat))⟩) : Ca c A ⟨l₀, H₀⟩ (.bi "list.insert") [.ref i x, .int n, Y] Q := fun ρ st f vs D e r => by
 have e : f = .builtin "list.insert" := e
 subst e
 obtain ⟨v, r', rfl, ⟨rfl, hd⟩, u, r2, rfl, ⟨t, rfl⟩, y, r3, rfl, ry, e2⟩ := r
 have e2 : r3 = [] := e2
 subst e2
 obtain ⟨us, m, g, len, rs⟩ := D.list hg
 have fit : ¬(!Builtin.List.listFitsIndex n) = true := by
  unfold Builtin.List.listFitsIndex
  simp
  lia
 refine call_meets F.slot_list_insert ⟨_, g, rfl⟩ F.entry_list_insert (F.args_list_insert_3 _ _ _) (AutoSeq1.list_insert_list_int_val_1 _ us m n t y fit (by rw [len]; exact Nat.le_trans (Nat.le_of_lt hl) (by decide))) ⟨g, ?_⟩
 have e3 : (fun xs : Array Value => have k := if n < 0 then (n + (xs.size : Int)).toNat else min n.toNat xs.size; (xs.extract 0 k).push y ++ xs.extract k) us = (us.toList.take n.toNat ++ y :: us.toList.drop n.toNat).toArray := by
  apply Array.toList_inj.mp
  have k1 : (if n < 0 then (n + (us.size : Int)).toNat else min n.toNat us.size) = n.toNat := by rw [if_neg (by lia)]; grind
  simp only [k1]
  simp
  exact List.take_of_length_le (by simp)
 obtain ⟨D', x'⟩ := D.relist (ys := xs.take n.toNat ++ Y :: xs.drop n.toNat) (us := (us.toList.take n.toNat ++ y :: us.toList.drop n.toNat).toArray) (f := fun xs : Array Value => have k := if n < 0 then (n + (xs.size : Int)).toNat else min n.toNat xs.size; (xs.extract 0 k).push y ++ xs.extract k) (tk := st.toks) hg g e3 (by
  simpa using VRs.app (VRs.take n.toNat rs) (VRs.cons ry (VRs.drop n.toNat rs)))
 exact ⟨.none, _, ρ, D', rfl, x', q⟩
end
end
section
open PySem.SeqAt
section
variable {c : Cx} {A : Around} {σ : St} {Q : V → St → Prop}
theorem index_list {i : Nat} {x n : Int} {xs : List Int} {j : Nat} (hg : σ.H.get i x = some (.list (xs.map V.int))) (hl : xs.length < 1000000) (hj : xs.idxOf? n = some j) (q : Q (.int j) σ) : Ca c A σ (.bi "list.index") [.ref i x, .int n] Q := fun ρ st f vs D e r => by
 have e : f = .builtin "list.index" := e
 subst e
 obtain ⟨v, r', rfl, ⟨rfl, hd⟩, u, r2, rfl, ⟨t, rfl⟩, e2⟩ := r
 have e2 : r2 = [] := e2
 subst e2
 obtain ⟨us, m, g, len, rs⟩ := D.list hg
 obtain ⟨l1, l2⟩ := ints_vals rs
 let ee : Value → Bool := fun v => match v with | .int a _ => a == n | _ => false
 have hat : ∀ (k : Nat) (hk : k < us.size), ∃ a t, xs[k]? = some a ∧ us[k] = .int a t := fun k hk => by
  have hk' : k < xs.length := by simp at len; lia
  obtain ⟨t, ht⟩ := l2 k xs[k] (List.getElem?_eq_getElem hk')
  refine ⟨_, t, List.getElem?_eq_getElem hk', ?_⟩
  have : us.toList[k]? = some us[k] := by simp [hk]
  rw [this] at ht; exact Option.some.inj ht
 obtain ⟨hjl, hjn, hno⟩ : ∃ h : j < xs.length, xs[j] = n ∧ ∀ k (hk : k < j), xs[k]'(by lia) ≠ n := by
  rw [List.idxOf?, List.findIdx?_eq_some_iff_getElem] at hj
  obtain ⟨h, h1, h2⟩ := hj
  exact ⟨h, by simpa using h1, fun k hk => by simpa using h2 k hk⟩
 have hjs : j < us.size := by simp at len; lia
 refine call_meets F.slot_list_index ⟨_, g, rfl⟩ F.entry_list_index (F.args_list_index_2 _ _) (list_indexAt _ us m none #[] (.int n t) ee j hjs (by lia) ?_ ?_) ⟨g, ?_, ?_⟩
 ·obtain ⟨a, t', h1, h2⟩ := hat j hjs
  rw [h2]
  rw [List.getElem?_eq_getElem hjl] at h1
  have h1 := Option.some.inj h1
  show (a == n) = true
  rw [← h1, hjn]; simp
 ·intro k hk hkj
  obtain ⟨a, t', h1, h2⟩ := hat k hk
  rw [h2]
  have hkl : k < xs.length := by grind
  rw [List.getElem?_eq_getElem hkl] at h1
  have h1 := Option.some.inj h1
  show (a == n) = false
  rw [← h1]; simpa using hno k hkj
 ·intro y hy
  obtain ⟨k, hk, e3⟩ := Array.getElem_of_mem hy
  obtain ⟨a, t', _, h2⟩ := hat k hk
  rw [← e3, h2]
  exact EqAt.int_int a t' n t
 ·exact post_tok (X := .int j) D (fun _ => VR.ofInt) q _
theorem add_list {l₀ : List (Option V)} {H₀ : AH} {i j : Nat} {x y : Int} {xs ys : List V} (hg : H₀.get i x = some (.list xs)) (hg' : H₀.get j y = some (.list ys)) (hl : xs.length + ys.length < 1000000) (q : Q (.ref H₀.length 0) ⟨l₀, H₀ ++ [.one (.list (xs ++ ys))]⟩) :
  Op2 c A ⟨l₀, H₀⟩ (.ref i x) (.ref j y) (binaryOp .Add) Q := fun ρ st v u D e e' => by
 obtain ⟨e, _⟩ := e
 obtain ⟨e', _⟩ := e'
 subst e e'
 obtain ⟨vs, m, g, len, rs⟩ := D.list hg
 obtain ⟨us, m', g', len', rs'⟩ := D.list hg'
 refine concat_meets ⟨_, g, rfl⟩ ⟨_, g', rfl⟩ noFill_list_add seq_list_add F.slot_list_add F.entry_list_add (F.args_list_add_2 _ _) (AutoSeq1.list___add___list_list_0 _ vs m _ us m' (by rw [len, len']; exact Nat.le_trans (Nat.le_of_lt hl) (by decide))) ⟨g, g', ?_⟩
 obtain ⟨D₂, x₂⟩ := D.alloc (st' := { st with heap := st.heap.push { cls := .type "list", data := .seq (vs ++ us) } }) (a := st.heap.objs.size) (o' := .list (xs ++ ys)) (get_size _)
  (fun b o hb => Heap.get?_push_of_some _ hb) rfl rfl ⟨vs ++ us, ⟨0, Heap.get?_push_size _ rfl⟩, VRs.ext (alloc_ext D (get_size _) (fun b o hb => Heap.get?_push_of_some _ hb)) _ _ (by simpa using VRs.app rs rs')⟩
 exact ⟨.ref H₀.length 0, _, _, D₂, ⟨by simp [wd, ρapp], by simp [wd, AH.get_app]⟩, x₂, q⟩
theorem all_range {α : Type} [BEq α] [LawfulBEq α] (xs ys : List α) (e : Nat → Bool) (hl : xs.length = ys.length) (he : ∀ k (h1 : k < xs.length) (h2 : k < ys.length), e k = (xs[k] == ys[k])) : (List.range xs.length).all e = (xs == ys) := by
 rw [Bool.eq_iff_iff, List.all_eq_true, beq_iff_eq]
 constructor
 ·intro h
  exact List.ext_getElem hl fun k h1 h2 => by
   have := h k (by simpa using h1)
   rw [he k h1 h2] at this; simpa using this
 ·intro h k hk
  subst h
  rw [he k (by simpa using hk) (by simpa using hk)]; simp
theorem eqL_aux {ρ : Nat → Int → Addr} {st : Shared} {i j : Nat} {x y : Int} {xs ys : List Int} (D : Den c σ ρ st) (hg : σ.H.get i x = some (.list (xs.map V.int))) (hg' : σ.H.get j y = some (.list (ys.map V.int))) :
  ∃ vs us, st.heap.IsList (ρ i x) vs ∧ st.heap.IsList (ρ j y) us ∧ vs.size = xs.length ∧ us.size = ys.length ∧ ∀ (A : Around) k (h1 : k < vs.size) (h2 : k < us.size), EqAt A st vs[k] us[k] (xs[k]? == ys[k]?) := by
 obtain ⟨vs, m, g, len, rs⟩ := D.list hg
 obtain ⟨us, m', g', len', rs'⟩ := D.list hg'
 obtain ⟨l1, l2⟩ := ints_vals rs
 obtain ⟨l1', l2'⟩ := ints_vals rs'
 refine ⟨vs, us, ⟨_, g, rfl, m, rfl⟩, ⟨_, g', rfl, m', rfl⟩, by simpa using len, by simpa using len', fun A k h1 h2 => ?_⟩
 have hk : k < xs.length := by simp at len; grind
 have hk' : k < ys.length := by simp at len'; grind
 obtain ⟨t, ht⟩ := l2 k xs[k] (List.getElem?_eq_getElem hk)
 obtain ⟨t', ht'⟩ := l2' k ys[k] (List.getElem?_eq_getElem hk')
 have e1 : vs[k] = .int xs[k] t := by
  have : vs.toList[k]? = some vs[k] := by simp [h1]
  rw [this] at ht; exact Option.some.inj ht
 have e2 : us[k] = .int ys[k] t' := by
  have : us.toList[k]? = some us[k] := by simp [h2]
  rw [this] at ht'; exact Option.some.inj ht'
 rw [e1, e2, List.getElem?_eq_getElem hk, List.getElem?_eq_getElem hk']
 have := @EqAt.int_int A st xs[k] t ys[k] t'
 simpa using this
theorem eq_list {i j : Nat} {x y : Int} {xs ys : List Int} (hu : A.units < cLine) (hg : σ.H.get i x = some (.list (xs.map V.int))) (hg' : σ.H.get j y = some (.list (ys.map V.int))) (q : Q (.bool (xs == ys)) σ) :
  Op2 c A σ (.ref i x) (.ref j y) (compareOp .Eq) Q := fun ρ st v u D e e' => by
 obtain ⟨e, _⟩ := e
 obtain ⟨e', _⟩ := e'
 subst e e'
 obtain ⟨vs, us, h1, h2, l1, l2, he⟩ := eqL_aux D hg hg'
 by_cases hs : vs.size = us.size
 ·refine eq_listAt (e := fun k => xs[k]? == ys[k]?) h1 h2 hs hu (fun k a b => he _ k a b) ?_
  rw [l1, all_range xs ys _ (by grind) (fun k h1 h2 => by simp [List.getElem?_eq_getElem h1, List.getElem?_eq_getElem h2])]
  exact Post.now (X := .bool _) D rfl q
 ·refine eq_list_lengthsAt h1 h2 (by simpa using hs) hu ?_
  have : (xs == ys) = false := beq_eq_false_iff_ne.mpr fun e => hs (by rw [l1, l2, e])
  rw [this] at q
  exact Post.now (X := .bool _) D rfl q
theorem ne_list {i j : Nat} {x y : Int} {xs ys : List Int} (hu : A.units < cLine) (hg : σ.H.get i x = some (.list (xs.map V.int))) (hg' : σ.H.get j y = some (.list (ys.map V.int))) (q : Q (.bool (!(xs == ys))) σ) :
  Op2 c A σ (.ref i x) (.ref j y) (compareOp .NotEq) Q := fun ρ st v u D e e' => by
 obtain ⟨e, _⟩ := e
 obtain ⟨e', _⟩ := e'
 subst e e'
 obtain ⟨vs, us, h1, h2, l1, l2, he⟩ := eqL_aux D hg hg'
 by_cases hs : vs.size = us.size
 ·refine RcNeAt.lists (e := fun k => xs[k]? == ys[k]?) h1 h2 hs hu (fun k a b => he _ k a b) pw c.w _ _ ?_
  rw [l1, all_range xs ys _ (by grind) (fun k h1 h2 => by simp [List.getElem?_eq_getElem h1, List.getElem?_eq_getElem h2])]
  exact Post.now (X := .bool _) D rfl q
 ·refine RcNeAt.lists_lengths h1 h2 (by simpa using hs) hu pw c.w _ _ ?_
  have : (xs == ys) = false := beq_eq_false_iff_ne.mpr fun e => hs (by rw [l1, l2, e])
  rw [this] at q
  exact Post.now (X := .bool _) D rfl q
theorem ne_nil {i j : Nat} {x y : Int} {xs : List V} (hu : A.units < cLine) (hg : σ.H.get i x = some (.list xs)) (hg' : σ.H.get j y = some (.list [])) (q : Q (.bool (!xs.isEmpty)) σ) :
  Op2 c A σ (.ref i x) (.ref j y) (compareOp .NotEq) Q := fun ρ st v u D e e' => by
 obtain ⟨e, _⟩ := e
 obtain ⟨e', _⟩ := e'
 subst e e'
 obtain ⟨vs, m, g, len, rs⟩ := D.list hg
 obtain ⟨us, m', g', len', rs'⟩ := D.list hg'
 have len' : us.size = 0 := len'
 by_cases hs : vs.size = us.size
 ·refine RcNeAt.lists (e := fun _ => true) ⟨_, g, rfl, m, rfl⟩ ⟨_, g', rfl, m', rfl⟩ hs hu (fun k a b => by grind) pw c.w _ _ ?_
  have : xs = [] := List.length_eq_zero_iff.mp (by lia)
  subst this
  rw [hs, len']
  exact Post.now (X := .bool _) D rfl q
 ·refine RcNeAt.lists_lengths ⟨_, g, rfl, m, rfl⟩ ⟨_, g', rfl, m', rfl⟩ (by simpa using hs) hu pw c.w _ _ ?_
  have : xs.isEmpty = false := by cases xs with
   | nil => exact absurd (by simpa [len'] using len) hs
   | cons => rfl
  rw [this] at q
  exact Post.now (X := .bool _) D rfl q
theorem in_list {i : Nat} {x n : Int} {xs : List Int} (hg : σ.H.get i x = some (.list (xs.map V.int))) (q : Q (.bool (xs.contains n)) σ) : Op2 c A σ (.int n) (.ref i x) (compareOp .In) Q := fun ρ st v u D ⟨t, e⟩ e' => by
 obtain ⟨e', _⟩ := e'
 subst e e'
 obtain ⟨us, m, g, len, rs⟩ := D.list hg
 obtain ⟨l1, l2⟩ := ints_vals rs
 let ee : Value → Bool := fun v => match v with | .int a _ => a == n | _ => false
 have hat : ∀ y, y ∈ us.toList → ∃ a t, a ∈ xs ∧ y = .int a t := fun y hy => by
  obtain ⟨k, hk, e3⟩ := List.getElem_of_mem hy
  have hk' : k < xs.length := by rw [← l1]; exact hk
  obtain ⟨t, ht⟩ := l2 k xs[k] (List.getElem?_eq_getElem hk')
  rw [List.getElem?_eq_getElem hk] at ht
  exact ⟨_, t, List.getElem_mem hk', by rw [← e3]; exact Option.some.inj ht⟩
 refine in_listAt ee ⟨_, g, rfl, m, rfl⟩ (fun y hy => ?_) ?_
 ·obtain ⟨a, t', _, rfl⟩ := hat y (by simpa using hy)
  exact EqAt.int_int a t' n t
 ·have : us.any ee = xs.contains n := by
   rw [Bool.eq_iff_iff, Array.any_eq_true', List.contains_iff_mem]
   constructor
   ·rintro ⟨y, hy, h⟩
    obtain ⟨a, t', ha, rfl⟩ := hat y (by simpa using hy)
    have : (a == n) = true := h
    simp at this; subst this; exact ha
   ·intro hm
    obtain ⟨k, hk, e3⟩ := List.getElem_of_mem hm
    obtain ⟨t', ht⟩ := l2 k n (by rw [List.getElem?_eq_getElem hk, e3])
    exact ⟨_, by have := List.mem_of_getElem? ht; simpa using this, by simp [ee]⟩
  rw [this]
  exact Post.now (X := .bool _) D rfl q
end
end
section
open PySem.SeqAt
section
variable {c : Cx} {A : Around} {σ : St} {Q : V → St → Prop}
theorem item_tup {n : Int} {xs : List V} {Y : V} (h0 : 0 ≤ n) (hn : n < 1000000) (hY : xs[n.toNat]? = some Y) (q : Q Y σ) : Op2 c A σ (.tup xs) (.int n) itemOf Q := fun ρ st v u D r ⟨t, e'⟩ => by
 subst e'
 obtain ⟨a, o, vs, m, rfl, g, hc, hd, rs⟩ := r
 obtain ⟨y, hy, ry⟩ := (VRs.at n.toNat rs).1 Y hY
 have hlt : n.toNat < vs.size := by
  have := (List.getElem?_eq_some_iff.mp hy).1
  simpa using this
 have ht : st.TypeIs (.ref a) "tuple" := ⟨o, g, hc⟩
 refine item_by ht F.slot_tuple_getitem.lookup (PyProof.Rows.getItem_tuple ⟨o, g, hc, m, hd⟩ (by lia) (by lia) (j := n.toNat) ?_ (by simpa using hy) (Post.now D ry q))
 unfold seqIndex?
 simp
 lia
theorem slice_tup {n : Nat} {xs : List V} {p : Pos} (h1 : 1 ≤ n) (hn : n ≤ xs.length) (hl : xs.length < 1000000) (q : Q (.tup (xs.drop n)) σ) : Op3 c A σ (.tup xs) (.int n) .none (sliceOf p) Q := fun ρ st v l u D r rl ru => by
 have ru : u = .none := ru
 subst ru
 obtain ⟨tl, rfl⟩ := rl
 obtain ⟨a, o, vs, m, rfl, g, hc, hd, rs⟩ := r
 have len : vs.size = xs.length := by have := VRs.length rs; simpa using this
 unfold sliceOf
 refine wpAny_bind (wpAny_newObj_type (T := "slice") (data := .fields #[.int n tl, .none, .none]) ?_ (by show (3 : Nat) ≤ _; decide))
 obtain ⟨D₁, x₁⟩ := D.keeps (st' := { st with heap := st.heap.push { cls := .type "slice", data := .fields #[.int n tl, .none, .none] } }) (fun b o hb => Heap.get?_push_of_some _ hb) rfl rfl
 have g1 : (st.heap.push { cls := .type "slice", data := .fields #[.int n tl, .none, .none] }).get? a = some o := Heap.get?_push_of_some _ g
 refine wpAny_bind (wpAny_standAt (wpAny_bind ?_))
 unfold getitemInPython
 refine wpAny_bind (wpAny_specialOf (T := "tuple") ⟨o, g1, hc⟩ F.slot_tuple_getitem.lookup (wpAny_pure ?_))
 refine getItem_tuple_from (a := n) (items := vs) ⟨o, g1, hc, m, hd⟩ (Heap.IsSliceOf.new _ _ _ _) h1 (by lia) ?_ (by rw [len]; exact Nat.le_trans (Nat.le_of_lt hl) (by decide))
 obtain ⟨D₂, x₂⟩ := D₁.keeps (st' := { st with heap := (st.heap.push { cls := .type "slice", data := .fields #[.int n tl, .none, .none] }).push { cls := .type "tuple", data := .seq (vs.toList.drop n).toArray } }) (fun b o hb => Heap.get?_push_of_some _ hb) rfl rfl
 exact ⟨.tup (xs.drop n), σ, ρ, D₂, ⟨_, _, _, _, rfl, Heap.get?_push_size _ rfl, rfl, rfl, by simpa using VRs.drop n (VRs.ext (x₁.trans x₂) _ _ rs)⟩, x₁.trans x₂, q⟩
theorem len_tup {xs : List V} (hl : xs.length < 1000000) (q : Q (.int xs.length) σ) : Ca c A σ (.bi "len") [.tup xs] Q := fun ρ st f vs D e r => by
 have e : f = .builtin "len" := e
 subst e
 obtain ⟨v, r', rfl, ⟨a, o, us, m, rfl, g, hc, hd, rs⟩, e2⟩ := r
 have e2 : r' = [] := e2
 subst e2
 have len : us.size = xs.length := by have := VRs.length rs; simpa using this
 refine PyProof.Rows.len_tuple (items := us) ⟨o, g, hc, m, hd⟩ (by rw [len]; lia) ?_
 obtain ⟨D', x'⟩ := den_toks D (st.toks + 1 + 1)
 exact ⟨.int xs.length, σ, ρ, D', ⟨_, by rw [len]⟩, x', q⟩
theorem eqT_aux {ρ : Nat → Int → Addr} {st : Shared} {xs ys : List Int} {v u : Value} (r : VR (wd c σ ρ st) (.tup (xs.map V.int)) v) (r' : VR (wd c σ ρ st) (.tup (ys.map V.int)) u) :
  ∃ a b vs us, v = .ref a ∧ u = .ref b ∧ st.heap.IsTuple a vs ∧ st.heap.IsTuple b us ∧ vs.size = xs.length ∧ us.size = ys.length ∧ ∀ (A : Around) k (h1 : k < vs.size) (h2 : k < us.size), EqAt A st vs[k] us[k] (xs[k]? == ys[k]?) := by
 obtain ⟨a, o, vs, m, rfl, g, hc, hd, rs⟩ := r
 obtain ⟨b, o', us, m', rfl, g', hc', hd', rs'⟩ := r'
 obtain ⟨l1, l2⟩ := ints_vals rs
 obtain ⟨l1', l2'⟩ := ints_vals rs'
 refine ⟨a, b, vs, us, rfl, rfl, ⟨o, g, hc, m, hd⟩, ⟨o', g', hc', m', hd'⟩, by simpa using l1, by simpa using l1', fun A k h1 h2 => ?_⟩
 have hk : k < xs.length := by simp at l1; lia
 have hk' : k < ys.length := by simp at l1'; grind
 obtain ⟨t, ht⟩ := l2 k xs[k] (List.getElem?_eq_getElem hk)
 obtain ⟨t', ht'⟩ := l2' k ys[k] (List.getElem?_eq_getElem hk')
 have e1 : vs[k] = .int xs[k] t := by
  have : vs.toList[k]? = some vs[k] := by simp [h1]
  rw [this] at ht; exact Option.some.inj ht
 have e2 : us[k] = .int ys[k] t' := by
  have : us.toList[k]? = some us[k] := by simp [h2]
  rw [this] at ht'; exact Option.some.inj ht'
 rw [e1, e2, List.getElem?_eq_getElem hk, List.getElem?_eq_getElem hk']
 have := @EqAt.int_int A st xs[k] t ys[k] t'
 simpa using this
theorem eq_tup {a b a' b' : Int} (hu : A.units < cLine) (q : Q (.bool (a == a' && b == b')) σ) : Op2 c A σ (.tup [.int a, .int b]) (.tup [.int a', .int b']) (compareOp .Eq) Q := fun ρ st v u D r r' => by
 obtain ⟨x, y, vs, us, rfl, rfl, h1, h2, l1, l2, he⟩ := eqT_aux (xs := [a, b]) (ys := [a', b']) r r'
 refine eq_tupleAt (e := fun k => [a, b][k]? == [a', b'][k]?) h1 h2 hu (fun k p q => he _ k p q) ?_
 have l1 : vs.size = 2 := l1
 have l2 : us.size = 2 := l2
 rw [l1, l2]
 have : ((List.range (min 2 2)).all (fun k => [a, b][k]? == [a', b'][k]?) && 2 == 2) = (a == a' && b == b') := by
  show ((some a == some a') && ((some b == some b') && true) && true) = _
  simp
 rw [this]
 exact Post.now (X := .bool _) D rfl q
theorem ne_tup {a b a' b' : Int} (hu : A.units < cLine) (q : Q (.bool (!(a == a' && b == b'))) σ) : Op2 c A σ (.tup [.int a, .int b]) (.tup [.int a', .int b']) (compareOp .NotEq) Q := fun ρ st v u D r r' => by
 obtain ⟨x, y, vs, us, rfl, rfl, h1, h2, l1, l2, he⟩ := eqT_aux (xs := [a, b]) (ys := [a', b']) r r'
 refine RcNeAt.tuples (e := fun k => [a, b][k]? == [a', b'][k]?) h1 h2 hu (fun k p q => he _ k p q) pw c.w _ _ ?_
 have l1 : vs.size = 2 := l1
 have l2 : us.size = 2 := l2
 rw [l1, l2]
 have : ((List.range (min 2 2)).all (fun k => [a, b][k]? == [a', b'][k]?) && 2 == 2) = (a == a' && b == b') := by
  show ((some a == some a') && ((some b == some b') && true) && true) = _
  simp
 rw [this]
 exact Post.now (X := .bool _) D rfl q
theorem tr_str {a : Str} {Q : Bool → St → Prop} (hl : a.length < 1000) (q : Q ((a.length : Int) != 0) σ) : Tr c A σ (.str a) Q := fun ρ st v D ⟨t, e⟩ => by
 subst e
 refine PySem.P.truthy_str (by lia) ?_
 obtain ⟨D', x'⟩ := den_toks D (st.toks + 1 + 1)
 first | exact ⟨σ, ρ, D', x', q⟩ | exact ⟨σ, ρ, (den_toks D _).1, (den_toks D _).2, q⟩
theorem max_ii {a b : Int} (hh : A.handled = none) (q : Q (.int (max a b)) σ) : Ca c A σ (.bi "max") [.int a, .int b] Q := fun ρ st f vs D e r => by
 have e : f = .builtin "max" := e
 subst e
 obtain ⟨v, r', rfl, ⟨t, rfl⟩, u, r2, rfl, ⟨t', rfl⟩, e2⟩ := r
 have e2 : r2 = [] := e2
 subst e2
 refine max_two_ints hh fun h' tk kk => ?_
 obtain ⟨D', x'⟩ := D.keeps (st' := { st with heap := h', toks := tk }) kk rfl rfl
 refine ⟨.int (max a b), σ, ρ, D', ?_, x', q⟩
 split
 ·rw [Int.max_def, if_pos (by lia)]; exact ⟨_, rfl⟩
 ·rw [Int.max_def]; split
  ·have : a = b := by lia
   subst this; exact ⟨_, rfl⟩
  ·exact ⟨_, rfl⟩
theorem min_ii {a b : Int} (hh : A.handled = none) (q : Q (.int (min a b)) σ) : Ca c A σ (.bi "min") [.int a, .int b] Q := fun ρ st f vs D e r => by
 have e : f = .builtin "min" := e
 subst e
 obtain ⟨v, r', rfl, ⟨t, rfl⟩, u, r2, rfl, ⟨t', rfl⟩, e2⟩ := r
 have e2 : r2 = [] := e2
 subst e2
 refine min_two_ints hh fun h' tk kk => ?_
 obtain ⟨D', x'⟩ := D.keeps (st' := { st with heap := h', toks := tk }) kk rfl rfl
 refine ⟨.int (min a b), σ, ρ, D', ?_, x', q⟩
 split
 ·rw [Int.min_def, if_neg (by lia)]; exact ⟨_, rfl⟩
 ·rw [Int.min_def, if_pos (by lia)]; exact ⟨_, rfl⟩
theorem range1 {n : Int} (q : Q (.rng 0 n) σ) : Ca c A σ (.typ "range") [.int n] Q := fun ρ st f vs D e r => by
 have e : f = .type "range" := e
 subst e
 obtain ⟨v, r', rfl, ⟨t, rfl⟩, e2⟩ := r
 have e2 : r' = [] := e2
 subst e2
 refine call_range_1 ?_
 obtain ⟨D', x'⟩ := D.keeps (st' := { st with heap := st.heap.push { cls := .type "range", data := .fields #[.int 0 st.toks, .int n t, .int 1 (st.toks + 1)] }, toks := st.toks + 1 + 1 }) (fun b o hb => Heap.get?_push_of_some _ hb) rfl rfl
 exact ⟨.rng 0 n, σ, ρ, D', ⟨_, _, _, _, rfl, Heap.get?_push_size _ rfl⟩, x', q⟩
theorem range2 {m n : Int} (q : Q (.rng m n) σ) : Ca c A σ (.typ "range") [.int m, .int n] Q := fun ρ st f vs D e r => by
 have e : f = .type "range" := e
 subst e
 obtain ⟨v, r', rfl, ⟨t, rfl⟩, u, r2, rfl, ⟨t', rfl⟩, e2⟩ := r
 have e2 : r2 = [] := e2
 subst e2
 refine call_range_2 ?_
 obtain ⟨D', x'⟩ := D.keeps (st' := { st with heap := st.heap.push { cls := .type "range", data := .fields #[.int m t, .int n t', .int 1 st.toks] }, toks := st.toks + 1 }) (fun b o hb => Heap.get?_push_of_some _ hb) rfl rfl
 exact ⟨.rng m n, σ, ρ, D', ⟨_, _, _, _, rfl, Heap.get?_push_size _ rfl⟩, x', q⟩
theorem tuple_list {i : Nat} {x : Int} {xs : List V} (hg : σ.H.get i x = some (.list xs)) (hl : xs.length < 1000000) (q : Q (.tup xs) σ) : Ca c A σ (.typ "tuple") [.ref i x] Q := fun ρ st f vs D e r => by
 have e : f = .type "tuple" := e
 subst e
 obtain ⟨v, r', rfl, ⟨rfl, hd⟩, e2⟩ := r
 have e2 : r' = [] := e2
 subst e2
 obtain ⟨us, m, g, len, rs⟩ := D.list hg
 refine call_tuple_list ⟨_, g, rfl, m, rfl⟩ (fun h' kk => ?_) (by rw [len]; exact Nat.le_trans (Nat.le_of_lt hl) (by decide))
 obtain ⟨D', x'⟩ := D.keeps (st' := { st with heap := h'.push { cls := .type "tuple", data := .seq us } }) (fun b o hb => Heap.get?_push_of_some _ (kk b o hb)) rfl rfl
 exact ⟨.tup xs, σ, ρ, D', ⟨_, _, _, _, rfl, Heap.get?_push_size _ rfl, rfl, rfl, VRs.ext x' _ _ rs⟩, x', q⟩
theorem sum_list {i : Nat} {x : Int} {xs : List Int} (hh : A.handled = none) (hg : σ.H.get i x = some (.list (xs.map V.int))) (q : Q (.int xs.sum) σ) : Ca c A σ (.bi "sum") [.ref i x] Q := fun ρ st f vs D e r => by
 have e : f = .builtin "sum" := e
 subst e
 obtain ⟨v, r', rfl, ⟨rfl, hd⟩, e2⟩ := r
 have e2 : r' = [] := e2
 subst e2
 obtain ⟨us, m, g, len, rs⟩ := D.list hg
 have ia : ∀ {W : Wd} {xs : List Int} {vs : List Value}, VRs W (xs.map V.int) vs → IntsAre vs xs := by
  intro W xs
  induction xs with
  | nil => intro vs h; have e : vs = [] := h; subst e; exact .nil
  | cons x xs ih => intro vs ⟨v, r, e, ⟨t, a⟩, b⟩; subst e; subst a; exact .cons _ _ (ih b)
 have hi := ia rs
 obtain ⟨ys, hy⟩ := hi.allInts.items
 have hl : st.heap.IsList (ρ i x) (intItems ys) := ⟨_, g, rfl, m, by rw [← hy]⟩
 refine sum_intListG hh hl fun h' tk t' kk => ?_
 obtain ⟨D', x'⟩ := D.keeps (st' := { st with heap := h', toks := tk }) kk rfl rfl
 refine ⟨.int xs.sum, σ, ρ, D', ⟨t', ?_⟩, x', q⟩
 congr 1
 have e1 := hi.numsOf
 rw [preSum_eq, List.take_of_length_le (by simp)]
 have e2 : numsOf (intItems ys).toList = xs := by rw [← hy]; simpa using e1
 rw [nums_intItems] at e2
 rw [e2]
end
end
section
open PySem.SeqAt
noncomputable def look (es : List (Int × V)) (k : Int) : Option V := (es.find? fun p => p.1 = k).map (·.2)
noncomputable def stV (es : List (Int × V)) (k : Int) (X : V) : List (Int × V) := if es.any (fun p => p.1 = k) then es.map (fun p => if p.1 = k then (p.1, X) else p) else es ++ [(k, X)]
noncomputable def outV (es : List (Int × V)) (k : Int) : List (Int × V) := es.filter fun p => decide (p.1 ≠ k)
section
variable {W : Wd}
theorem DRs.find {k : Int} : ∀ {es : List (Int × V)} {ks : List (Int × Value)}, DRs W es ks → (look es k = none → valueAt ks k = none) ∧ (∀ X, look es k = some X → ∃ v, valueAt ks k = some v ∧ VR W X v)
 | [], ks, h => by have e : ks = [] := h; subst e; exact ⟨fun _ => rfl, fun X h => by cases h⟩
 | (a, X) :: es, _, ⟨v, r, e, q, b⟩ => by
  subst e
  obtain ⟨h1, h2⟩ := DRs.find (k := k) b
  by_cases hk : a = k
  ·subst hk
   exact ⟨fun h => by simp [look] at h, fun Y h => by simp [look] at h; subst h; exact ⟨v, by simp [valueAt], q⟩⟩
  ·have e1 : look ((a, X) :: es) k = look es k := by simp [look, hk]
   have e2 : valueAt ((a, v) :: r) k = valueAt r k := by simp [valueAt, hk]
   rw [e1, e2]; exact ⟨h1, h2⟩
theorem DRs.app : ∀ {es fs : List (Int × V)} {ks ls : List (Int × Value)}, DRs W es ks → DRs W fs ls → DRs W (es ++ fs) (ks ++ ls)
 | [], _, ks, _, h, h' => by have e : ks = [] := h; subst e; exact h'
 | (a, X) :: es, _, _, _, ⟨v, r, e, q, b⟩, h' => by subst e; exact ⟨v, _, rfl, q, DRs.app b h'⟩
theorem DRs.mapS {k : Int} {X : V} {v : Value} (hv : VR W X v) : ∀ {es : List (Int × V)} {ks : List (Int × Value)}, DRs W es ks → DRs W (es.map (fun p => if p.1 = k then (p.1, X) else p)) (ks.map (fun p => if p.1 = k then (p.1, v) else p))
 | [], ks, h => by have e : ks = [] := h; subst e; exact rfl
 | (a, Y) :: es, _, ⟨u, r, e, q, b⟩ => by
  subst e
  rw [List.map_cons, List.map_cons]
  by_cases hk : a = k
  ·simp only [if_pos hk]; exact ⟨v, _, rfl, hv, DRs.mapS hv b⟩
  ·simp only [if_neg hk]; exact ⟨u, _, rfl, q, DRs.mapS hv b⟩
theorem DRs.any {k : Int} : ∀ {es : List (Int × V)} {ks : List (Int × Value)}, DRs W es ks → (es.any (fun p => p.1 = k)) = (ks.any (fun p => decide (p.1 = k)))
 | [], ks, h => by have e : ks = [] := h; subst e; rfl
 | (a, Y) :: es, _, ⟨u, r, e, q, b⟩ => by subst e; simp [DRs.any (k := k) b]
theorem DRs.stored {k : Int} {X : V} {v : Value} (hv : VR W X v) {es : List (Int × V)} {ks : List (Int × Value)} (h : DRs W es ks) : DRs W (stV es k X) (PySem.stored ks k v) := by
 unfold stV PySem.stored
 rw [h.any (k := k)]
 split
 ·exact h.mapS hv
 ·exact h.app ⟨v, [], rfl, hv, rfl⟩
theorem DRs.without {k : Int} : ∀ {es : List (Int × V)} {ks : List (Int × Value)}, DRs W es ks → DRs W (outV es k) (without ks k)
 | [], ks, h => by have e : ks = [] := h; subst e; exact rfl
 | (a, Y) :: es, _, ⟨u, r, e, q, b⟩ => by
  subst e
  by_cases hk : a = k
  ·have e1 : outV ((a, Y) :: es) k = outV es k := by simp [outV, hk]
   have e2 : PySem.without ((a, u) :: r) k = PySem.without r k := by simp [PySem.without, hk]
   rw [e1, e2]; exact DRs.without b
  ·have e1 : outV ((a, Y) :: es) k = (a, Y) :: outV es k := by simp [outV, hk]
   have e2 : PySem.without ((a, u) :: r) k = (a, u) :: PySem.without r k := by simp [PySem.without, hk]
   rw [e1, e2]; exact ⟨u, _, rfl, q, DRs.without b⟩
end
section
variable {c : Cx} {A : Around} {σ : St} {Q : V → St → Prop}
theorem ikey {n : Int} {t : Tok} {w : World} : (intKind pw w).is n (.int n t) = true := intKind_is pw w n t
theorem Den.dict {ρ : Nat → Int → Addr} {st : Shared} {i : Nat} {x : Int} {es : List (Int × V)} {ep : Nat} (D : Den c σ ρ st) (hg : σ.H.get i x = some (.dict es ep)) :
  ∃ kvs, st.heap.DictAt (intKind pw c.w) (ρ i x) kvs ep ∧ DRs (wd c σ ρ st) es kvs := D.objs i x _ hg
theorem getM_dict {i : Nat} {x : Int} {es : List (Int × V)} {ep : Nat} {n : Str} {id : String} {Q : V → List V → St → Prop} (hg : σ.H.get i x = some (.dict es ep)) (slot : Slot "dict" n id) (hty : typeOf (.builtin id) = pure (.type "method_descriptor"))
  (q : Q (.bi id) [.ref i x] σ) : GetM c A σ (.ref i x) n Q := fun ρ st v pl D e => by
 have e0 := e
 obtain ⟨e, _⟩ := e
 subst e
 obtain ⟨kvs, dk, rs⟩ := D.dict hg
 exact getMethod_builtin dk.dictOf.typeIs F.plainAttrs_dict slot hty dk.dictOf.mapOf.noDict ⟨.bi id, [.ref i x], σ, ρ, D, rfl, ⟨_, [], rfl, e0, rfl⟩, .refl _, q⟩
theorem get1_dict {i : Nat} {x k : Int} {es : List (Int × V)} {ep : Nat} (top : (K c.w.params).In c.h1) (hg : σ.H.get i x = some (.dict es ep)) (q : Q ((look es k).getD .none) σ) : Ca c A σ (.bi "dict.get") [.ref i x, .int k] Q := fun ρ st f vs D e r => by
 have e : f = .builtin "dict.get" := e
 subst e
 obtain ⟨v, r', rfl, ⟨rfl, hd⟩, u, r2, rfl, ⟨t, rfl⟩, e2⟩ := r
 have e2 : r2 = [] := e2
 subst e2
 obtain ⟨kvs, dk, rs⟩ := D.dict hg
 refine call_meetsIn F.slot_dict_get dk.dictOf.typeIs F.entry_dict_get (F.args_dict_get_2 _ _) (meets_dict_get (intKind pw c.w) _ ikey (D.notSys top hd)) ⟨_, dk.dictOf.mapOf, ?_⟩
 obtain ⟨D', x'⟩ := den_toks D (st.toks + 1)
 obtain ⟨h1, h2⟩ := rs.find (k := k)
 cases hl : look es k with
 | none => rw [h1 hl]; rw [hl] at q; exact ⟨.none, σ, ρ, D', rfl, x', q⟩
 | some X => obtain ⟨w, hw, rw'⟩ := h2 X hl; rw [hw]; rw [hl] at q; exact ⟨X, σ, ρ, D', VR.ext x' _ _ rw', x', q⟩
theorem get2_dict {i : Nat} {x k : Int} {es : List (Int × V)} {ep : Nat} {Y : V} (top : (K c.w.params).In c.h1) (hg : σ.H.get i x = some (.dict es ep)) (q : Q ((look es k).getD Y) σ) : Ca c A σ (.bi "dict.get") [.ref i x, .int k, Y] Q := fun ρ st f vs D e r => by
 have e : f = .builtin "dict.get" := e
 subst e
 obtain ⟨v, r', rfl, ⟨rfl, hd⟩, u, r2, rfl, ⟨t, rfl⟩, y, r3, rfl, ry, e2⟩ := r
 have e2 : r3 = [] := e2
 subst e2
 obtain ⟨kvs, dk, rs⟩ := D.dict hg
 refine call_meetsIn F.slot_dict_get dk.dictOf.typeIs F.entry_dict_get (F.args_dict_get_3 _ _ _) (meets_dict_get_default (intKind pw c.w) _ ikey (D.notSys top hd) y) ⟨_, dk.dictOf.mapOf, ?_⟩
 obtain ⟨D', x'⟩ := den_toks D (st.toks + 1)
 obtain ⟨h1, h2⟩ := rs.find (k := k)
 cases hl : look es k with
 | none => rw [h1 hl]; rw [hl] at q; exact ⟨Y, σ, ρ, D', VR.ext x' _ _ ry, x', q⟩
 | some X => obtain ⟨w, hw, rw'⟩ := h2 X hl; rw [hw]; rw [hl] at q; exact ⟨X, σ, ρ, D', VR.ext x' _ _ rw', x', q⟩
theorem in_dict {i : Nat} {x k : Int} {es : List (Int × V)} {ep : Nat} (top : (K c.w.params).In c.h1) (hg : σ.H.get i x = some (.dict es ep)) (q : Q (.bool (look es k).isSome) σ) : Op2 c A σ (.int k) (.ref i x) (compareOp .In) Q := fun ρ st v u D ⟨t, e⟩ e' => by
 obtain ⟨e', hd⟩ := e'
 subst e e'
 obtain ⟨kvs, dk, rs⟩ := D.dict hg
 refine wpAny_in_of ikey (D.notSys top hd) dk.dictOf.mapOf ?_
 obtain ⟨D', x'⟩ := den_toks D (st.toks + 1)
 obtain ⟨h1, h2⟩ := rs.find (k := k)
 have : (valueAt kvs k).isSome = (look es k).isSome := by
  cases hl : look es k with
  | none => rw [h1 hl]; rfl
  | some X => obtain ⟨w, hw, _⟩ := h2 X hl; rw [hw]; rfl
 rw [this]
 exact ⟨.bool _, σ, ρ, D', rfl, x', q⟩
theorem item_dict {i : Nat} {x k : Int} {es : List (Int × V)} {ep : Nat} {X : V} (hg : σ.H.get i x = some (.dict es ep)) (hl : look es k = some X) (q : Q X σ) : Op2 c A σ (.ref i x) (.int k) itemOf Q := fun ρ st v u D e ⟨t, e'⟩ => by
 obtain ⟨e, hd⟩ := e
 subst e e'
 obtain ⟨kvs, dk, rs⟩ := D.dict hg
 obtain ⟨w, hw, rw'⟩ := (rs.find (k := k)).2 X hl
 refine item_by dk.dictOf.typeIs slot_dict_getitem.lookup (wpAny_getItem_of ikey dk.dictOf.mapOf hw ?_)
 obtain ⟨D', x'⟩ := den_toks D (st.toks + 1)
 exact ⟨X, σ, ρ, D', VR.ext x' _ _ rw', x', q⟩
theorem Den.redict {l₀ : List (Option V)} {H₀ : AH} {ρ : Nat → Int → Addr} {st : Shared} {h' : Heap} {i : Nat} {x : Int} {es fs : List (Int × V)} {ep : Nat} {kvs : List (Int × Value)} (D : Den c ⟨l₀, H₀⟩ ρ st) (hg : H₀.get i x = some (.dict es ep))
  (dk : h'.DictOf (intKind pw c.w) (ρ i x) kvs) (sb : Heap.SameBut (ρ i x) st.heap h') (rs : DRs (wd c ⟨l₀, H₀⟩ ρ st) fs kvs) {tk : Nat} :
  ∃ ep', Den c ⟨l₀, H₀.put i x (.dict fs ep')⟩ ρ { st with heap := h', toks := tk } ∧ Ext (wd c ⟨l₀, H₀⟩ ρ st) (wd c ⟨l₀, H₀.put i x (.dict fs ep')⟩ ρ { st with heap := h', toks := tk }) := by
 have hd : (H₀.get i x).isSome = true := by rw [hg]; rfl
 obtain ⟨ep', da⟩ := dk.dictAt
 have X0 := put_ext (st' := { st with heap := h', toks := tk }) (o' := .dict fs ep') D hd sb.extBut
 exact ⟨ep', D.upd (st' := { st with heap := h', toks := tk }) (o' := .dict fs ep') hd sb.extBut rfl rfl ⟨kvs, da, DRs.ext X0 _ _ rs⟩⟩
theorem set_dict {l₀ : List (Option V)} {H₀ : AH} {i : Nat} {x k : Int} {es : List (Int × V)} {ep : Nat} {X : V} {Q : St → Prop} (hg : H₀.get i x = some (.dict es ep)) (hl : es.length < 1000000) (q : ∀ ep', Q ⟨l₀, H₀.put i x (.dict (stV es k X) ep')⟩) : SetI c A ⟨l₀, H₀⟩ (.ref i x) (.int k) X Q := fun ρ st y i' x' D e ⟨t, e'⟩ r => by
 obtain ⟨e, hd⟩ := e
 subst e e'
 obtain ⟨kvs, dk, rs⟩ := D.dict hg
 refine wpAny_setItem_pairs ikey dk.dictOf (fun h' dk' sb => ?_) (by rw [DRs.length rs]; exact Nat.le_trans (Nat.le_of_lt hl) (by decide))
 obtain ⟨ep', D', x''⟩ := D.redict hg dk' sb (rs.stored r) (tk := st.toks + 1)
 exact ⟨_, ρ, D', x'', q ep'⟩
theorem del_dict {l₀ : List (Option V)} {H₀ : AH} {i : Nat} {x k : Int} {es : List (Int × V)} {ep : Nat} {Q : St → Prop} (hg : H₀.get i x = some (.dict es ep)) (hl : es.length < 1000000) (hk : (look es k).isSome = true) (q : ∀ ep', Q ⟨l₀, H₀.put i x (.dict (outV es k) ep')⟩) : DelI c A ⟨l₀, H₀⟩ (.ref i x) (.int k) Q := fun ρ st y i' D e ⟨t, e'⟩ => by
 obtain ⟨e, hd⟩ := e
 subst e e'
 obtain ⟨kvs, dk, rs⟩ := D.dict hg
 have hv : (valueAt kvs k).isSome = true := by
  obtain ⟨X, hX⟩ := Option.isSome_iff_exists.mp hk
  obtain ⟨w, hw, _⟩ := (rs.find (k := k)).2 X hX
  rw [hw]; rfl
 unfold delItem
 try with_reducible refine wpAny_holding ?_
 refine wpAny_bind (wpAny_sequenceKey dk.dictOf.typeIs (by decide) ?_)
 refine wpAny_bind (wpAny_callSpecial?_slot (name := Str.ofString "__delitem__") dk.dictOf.typeIs PySem.F.slot_dict_delitem
  (call_meetsIn PySem.F.slot_dict_delitem dk.dictOf.typeIs PySem.F.entry_dict_delitem (PySem.F.args_dict_delitem_2 _ _) (meets_dict_delitem_pairs (intKind pw c.w) _ ikey) ⟨kvs, dk.dictOf, (by rw [DRs.length rs]; exact Nat.le_trans (Nat.le_of_lt hl) (by decide)), hv, fun h' dk' sb => ?_⟩))
 obtain ⟨ep', D', x''⟩ := D.redict hg dk' sb rs.without (tk := st.toks + 1)
 exact wpAny_pure ⟨_, ρ, D', x'', q ep'⟩
theorem values_dict {i : Nat} {x : Int} {es : List (Int × V)} {ep : Nat} (top : (K c.w.params).In c.h1) (hg : σ.H.get i x = some (.dict es ep)) (q : Q (.vals i x) σ) : Ca c A σ (.bi "dict.values") [.ref i x] Q := fun ρ st f vs D e r => by
 have e : f = .builtin "dict.values" := e
 subst e
 obtain ⟨v, r', rfl, ⟨rfl, hd⟩, e2⟩ := r
 have e2 : r' = [] := e2
 subst e2
 obtain ⟨kvs, dk, rs⟩ := D.dict hg
 refine call_meetsIn F.slot_dict_values dk.dictOf.typeIs F.entry_dict_values (F.args_dict_values_1 _) (meets_dict_values (intKind pw c.w) _ (D.notSys top hd)) ⟨⟨kvs, dk.dictOf⟩, ?_⟩
 obtain ⟨D', x'⟩ := D.keeps (st' := { st with heap := st.heap.push { cls := .type "dict_values", data := .fields #[.ref (ρ i x)] } }) (fun b o hb => Heap.get?_push_of_some _ hb) rfl rfl
 exact ⟨.vals i x, σ, ρ, D', ⟨_, rfl, ⟨_, Heap.get?_push_size _ rfl, rfl, rfl⟩, hd⟩, x', q⟩
theorem setDefault_pairs {prog : Program} {w : World} {Kk : Type} [DecidableEq Kk] {knd : KeyKind prog w Kk} {E : Value → Shared → Prop} {s : Shared} {d : Addr} {kvs : List (Kk × Value)} {k : Kk} {key dflt : Value} {Q : Value → Shared → Prop} (hkey : knd.is k key = true) (hm : s.heap.DictOf knd d kvs)
  (hthere : ∀ v, valueAt kvs k = some v → Q v { s with toks := s.toks + 1 })
  (hnew : valueAt kvs k = none → ∀ h', h'.DictOf knd d (kvs ++ [(k, dflt)]) → Heap.SameBut d s.heap h' → Q dflt { s with heap := h', toks := s.toks + 1 })
  (hsz : kvs.length ≤ sizeLine) : wpAny (model prog w) A (dictSetDefault d key dflt) Q E s := by
 obtain ⟨o, es, ep, ho, hc, hd, hk, hp, hn⟩ := hm
 have hes : es.size ≤ sizeLine := by have e1 := hp.length; rw [Array.length_toList] at e1; lia
 unfold dictSetDefault
 try with_reducible refine wpAny_holding ?_
 refine wpAny_bind (knd.pyHash hkey ?_)
 refine wpAny_bind (wpAny_dictFind_of (s := { s with toks := s.toks + 1 }) hkey ho hd hk ?_)
 have hidx : (es.findIdx? fun e => knd.is k e.key) = kvs.findIdx? fun kv => decide (kv.1 = k) := by
  rw [← hp.findIdx k]; obtain ⟨l⟩ := es; simp
 cases hi : es.findIdx? fun e => knd.is k e.key with
 | some i =>
  have hl : (es.toList.findIdx? fun e => knd.is k e.key) = some i := by rw [← hi]; obtain ⟨l⟩ := es; simp
  obtain ⟨e, he, hek, hev⟩ := hp.at hl
  refine wpAny_bind (wpAny_dictEntries (s := { s with toks := s.toks + 1 }) ho hd ?_)
  have he' : es[i]? = some e := by rw [← he]; obtain ⟨l⟩ := es; simp
  rw [he']
  exact wpAny_bind (wpAny_rule (wpAny_pure (hthere e.val hev)))
 | none =>
  have hnot : k ∉ kvs.map (·.1) := not_mem_of_findIdx_none (hidx ▸ hi)
  have hnone : valueAt kvs k = none := by
   unfold valueAt
   rw [Option.map_eq_none_iff, List.find?_eq_none]
   intro kv hkv he
   exact hnot (List.mem_map.mpr ⟨kv, hkv, by simpa using he⟩)
  refine wpAny_bind (wpAny_rule (wpAny_bind (wpAny_updateDictKeys (hz := hes) (s := { s with toks := s.toks + 1 }) ho hd (wpAny_pure (hnew hnone _ ⟨_, _, ep + 1, Heap.get?_update_self _ ho (Obj.isFreed_of_dict (Obj.data_mapDictKeys hd _)),
   hc.mapDictKeys _, Obj.data_mapDictKeys hd _, hk.push hkey _, ?_, ?_⟩ (Heap.SameBut.update ..))))))
  ·have := hp.append hkey (knd.hash k) dflt
   obtain ⟨l⟩ := es
   simpa using this
  ·rw [List.map_append, List.nodup_append]
   refine ⟨hn, by simp, ?_⟩
   intro a ha b hb
   simp only [List.map_cons, List.map_nil, List.mem_singleton] at hb
   subst hb
   exact fun e => hnot (e ▸ ha)
theorem setdef_dict {l₀ : List (Option V)} {H₀ : AH} {i : Nat} {x k : Int} {es : List (Int × V)} {ep : Nat} {Y : V} (top : (K c.w.params).In c.h1) (hg : H₀.get i x = some (.dict es ep)) (hl : es.length < 1000000)
  (q1 : ∀ X, look es k = some X → Q X ⟨l₀, H₀⟩) (q2 : look es k = none → ∀ ep', Q Y ⟨l₀, H₀.put i x (.dict (es ++ [(k, Y)]) ep')⟩) : Ca c A ⟨l₀, H₀⟩ (.bi "dict.setdefault") [.ref i x, .int k, Y] Q := fun ρ st f vs D e r => by
 have e : f = .builtin "dict.setdefault" := e
 subst e
 obtain ⟨v, r', rfl, ⟨rfl, hd⟩, u, r2, rfl, ⟨t, rfl⟩, y, r3, rfl, ry, e2⟩ := r
 have e2 : r3 = [] := e2
 subst e2
 obtain ⟨kvs, dk, rs⟩ := D.dict hg
 obtain ⟨h1, h2⟩ := rs.find (k := k)
 refine wpAny_call_entry F.slot_dict_setdefault dk.dictOf.typeIs F.entry_dict_setdefault ?_ (F.args_dict_setdefault_3 _ _ _)
 unfold Builtin.«dict.setdefault»
 refine wpAny_bind ?_
 unfold Builtin.Dict.keyAndDefault
 refine wpAny_bind (wpAny_notOrdered_dict dk.dictOf.typeIs ?_)
 show wpAny _ _ (pure (ρ i x, Value.int k t, some y)) _ _ st
 refine wpAny_pure ?_
 show wpAny _ _ (if (ρ i x == sysModules) = true then _ else (dictSetDefault (ρ i x) (Value.int k t) y >>= _)) _ _ st
 rw [if_neg (by rw [D.notSys top hd]; exact Bool.false_ne_true)]
 refine wpAny_bind (setDefault_pairs ikey dk.dictOf (fun v hv => wpAny_pure ⟨v, rfl, ?_⟩) (fun hn h' dk' sb => wpAny_pure ⟨y, rfl, ?_⟩) (by rw [DRs.length rs]; exact Nat.le_trans (Nat.le_of_lt hl) (by decide)))
 ·cases hl' : look es k with
  | none => rw [h1 hl'] at hv; cases hv
  | some X =>
   obtain ⟨w, hw, rw'⟩ := h2 X hl'
   rw [hv] at hw; cases hw
   obtain ⟨D', x'⟩ := den_toks D (st.toks + 1)
   exact ⟨X, ⟨l₀, H₀⟩, ρ, D', VR.ext x' _ _ rw', x', q1 X hl'⟩
 ·have hl' : look es k = none := by
   cases hl' : look es k with
   | none => rfl
   | some X => obtain ⟨w, hw, _⟩ := h2 X hl'; rw [hn] at hw; cases hw
  obtain ⟨ep', D', x''⟩ := D.redict hg dk' sb (fs := es ++ [(k, Y)]) (rs.app (show DRs _ [(k, Y)] [(k, y)] from ⟨y, [], rfl, ry, rfl⟩)) (tk := st.toks + 1)
  exact ⟨Y, _, ρ, D', VR.ext x'' _ _ ry, x'', q2 hl' ep'⟩
end
end
section
open PySem.SeqAt
theorem isStr_str (a b : Str) (t : Tok) : (Value.str a t).isStr b = (a == b) := by rfl
theorem attr_inj0 : ∀ k : Nat, k < 14 → ∀ k' : Nat, k' < 14 → attrName k = attrName k' → k = k' := by decide +kernel
theorem attr_inj (k k' : Nat) (h : k < 14) (h' : k' < 14) (e : attrName k = attrName k') : k = k' := attr_inj0 k h k' h' e
noncomputable def fsOk (fs : List (Nat × V)) : Bool := fs.all (fun p => decide (p.1 < 14))
noncomputable def putF (fs : List (Nat × V)) (k : Nat) (X : V) : List (Nat × V) := match fs with
 | [] => [(k, X)]
 | (j, Y) :: r => if j = k then (k, X) :: r else (j, Y) :: putF r k X
section
variable {W : Wd}
theorem NRs.get {k : Nat} (hk : k < 14) : ∀ {fs : List (Nat × V)} {es : List DictEntry}, fsOk fs = true → NRs W fs es → (∀ X, fs.lookup k = some X → ∃ v, getL (attrName k) es = some (some v) ∧ VR W X v) ∧ (fs.lookup k = none → getL (attrName k) es = some none)
 | [], es, _, h => by have e : es = [] := h; subst e; exact ⟨fun X h => (by cases h), fun _ => rfl⟩
 | (j, Y) :: fs, _, ok, ⟨e, r, t, q1, q2, q3, q4⟩ => by
  subst q1
  unfold fsOk at ok
  rw [List.all_cons, Bool.and_eq_true, decide_eq_true_eq] at ok
  obtain ⟨h1, h2⟩ := NRs.get hk (fs := fs) ok.2 q4
  have refk : e.refKey = false := by unfold DictEntry.refKey; rw [q2]
  by_cases hj : j = k
  ·subst hj
   have e1 : e.key.isStr (attrName j) = true := by rw [q2, isStr_str]; simp
   refine ⟨fun X h => ?_, fun h => ?_⟩
   ·rw [List.lookup_cons] at h
    simp at h
    subst h
    exact ⟨e.val, by unfold getL; rw [List.find?_cons, e1], q3⟩
   ·rw [List.lookup_cons] at h; simp at h
  ·have e1 : e.key.isStr (attrName k) = false := by
    rw [q2, isStr_str]
    exact beq_eq_false_iff_ne.mpr fun e => hj (attr_inj j k ok.1 hk e)
   have e2 : getL (attrName k) (e :: r) = getL (attrName k) r := by
    unfold getL
    rw [List.find?_cons, e1, List.any_cons, refk]
    rfl
   have e3 : ((j, Y) :: fs).lookup k = fs.lookup k := by
    rw [List.lookup_cons]
    have : (k == j) = false := beq_eq_false_iff_ne.mpr fun e => hj e.symm
    rw [this]
   rw [e2, e3]; exact ⟨h1, h2⟩
theorem NRs.put {k : Nat} (hk : k < 14) {X : V} {v : Value} {hs : Int} {t : Tok} (hv : VR W X v) : ∀ {fs : List (Nat × V)} {es : List DictEntry}, fsOk fs = true → NRs W fs es → NRs W (putF fs k X) (putL (attrName k) hs (.str (attrName k) t) v es)
 | [], es, _, h => by have e : es = [] := h; subst e; exact ⟨_, [], t, rfl, rfl, hv, rfl⟩
 | (j, Y) :: fs, _, ok, ⟨e, r, t', q1, q2, q3, q4⟩ => by
  subst q1
  unfold fsOk at ok
  rw [List.all_cons, Bool.and_eq_true, decide_eq_true_eq] at ok
  by_cases hj : j = k
  ·subst hj
   have e1 : e.key.isStr (attrName j) = true := by rw [q2, isStr_str]; simp
   unfold putF putL
   rw [if_pos rfl, if_pos e1]
   exact ⟨_, r, t', rfl, q2, hv, q4⟩
  ·have e1 : e.key.isStr (attrName k) = false := by
    rw [q2, isStr_str]
    exact beq_eq_false_iff_ne.mpr fun e => hj (attr_inj j k ok.1 hk e)
   unfold putF putL
   rw [if_neg hj, if_neg (by rw [e1]; decide)]
   exact ⟨e, _, t', rfl, q2, q3, NRs.put hk hv ok.2 q4⟩
theorem NRs.length : ∀ {fs : List (Nat × V)} {es : List DictEntry}, NRs W fs es → es.length = fs.length
 | [], es, h => by have e : es = [] := h; subst e; rfl
 | _ :: _, _, ⟨_, _, _, q1, _, _, q4⟩ => by subst q1; simp [NRs.length q4]
end
noncomputable def attrOk (K : Frag) (C : Addr) (n : Str) : Bool := plainGet K C n && hasDictIn K C && findIn K (.ref C) n == some none && findIn K (.ref C) "__setattr__" == some (some (.builtin "object.__setattr__")) && plainOver K C && takerIn K C n == some none
noncomputable def V.plain : V → Bool
 | .bi _ => false
 | _ => true
theorem handed_V {W : Wd} {X : V} {v : Value} (r : VR W X v) (h : X.plain = true) : handedIn v = true := by
 cases X <;> first | (simp [V.plain] at h; done) | skip
 all_goals first
  | (have r : v = _ := r; subst r; rfl)
  | (obtain ⟨t, rfl⟩ := r; rfl)
  | (obtain ⟨a, o, vs, n, rfl, _⟩ := r; rfl)
  | (obtain ⟨rfl, _⟩ := r; rfl)
  | (obtain ⟨a, o, rfl, _⟩ := r; rfl)
  | (obtain ⟨a, o, u, rfl, _⟩ := r; rfl)
  | (obtain ⟨a, t, u, w, rfl, _⟩ := r; rfl)
  | (obtain ⟨a, rfl, _⟩ := r; rfl)
section
variable {c : Cx} {A : Around} {σ : St} {Q : V → St → Prop}
theorem Den.inst {ρ : Nat → Int → Addr} {st : Shared} {C : Addr} {i : Nat} {x : Int} {fs : List (Nat × V)} {v : Value} (D : Den c σ ρ st) (r : VR (wd c σ ρ st) (.inst C i x) v) (hg : σ.H.get i x = some (.ns fs)) :
  ∃ a o es n, v = .ref a ∧ InstAt st.heap a o C (some (dictOf es n)) ∧ o.dict = some (ρ i x) ∧ st.heap.get? (ρ i x) = some (dictOf es n) ∧ NRs (wd c σ ρ st) fs es := by
 obtain ⟨a, o, rfl, g, hc, hd, hp, _, _⟩ := r
 obtain ⟨es, n, g', rs⟩ := D.objs i x _ hg
 have hd : o.dict = some (ρ i x) := hd
 have g' : st.heap.get? (ρ i x) = some (dictOf es.toList n) := by
  have e : dictOf es.toList n = ⟨.type "dict", none, .dict es n, #[]⟩ := by simp [dictOf]
  rw [e]; exact g'
 refine ⟨a, o, es.toList, n, rfl, ⟨g, hc, ?_, ?_⟩, hd, g', rs⟩
 ·unfold notCls; rw [hp]
 ·rw [hd]; exact g'
theorem get_attr {C : Addr} {i : Nat} {x : Int} {fs : List (Nat × V)} {k : Nat} {n : Str} {X : V} (top : (K c.w.params).In c.h1) (hk : k < 14) (hn : attrName k = n) (ok : attrOk (K c.w.params) C n = true) (hg : σ.H.get i x = some (.ns fs)) (hfs : fsOk fs = true) (hl : fs.lookup k = some X) (hX : X.plain = true)
  (q : Q X σ) : Op1 c A σ (.inst C i x) (fun v => getAttr v n true) Q := fun ρ st v D r => by
 subst hn
 obtain ⟨a, o, es, m, rfl, I, hd, g, rs⟩ := D.inst r hg
 unfold attrOk at ok
 simp only [Bool.and_eq_true, beq_iff_eq] at ok
 obtain ⟨⟨⟨⟨⟨o1, o2⟩, o3⟩, o4⟩, o5⟩, o6⟩ := ok
 obtain ⟨w, hw, rw'⟩ := (rs.get hk hfs).1 X hl
 refine get_value (D.K top) I (plainGet_of o1).1 (findObj_own o2 o3 rfl (by show lookIn _ (dictOf es m) = _; rw [lookIn_dict, hw])) (handed_V rw' hX) ?_
 obtain ⟨D', x'⟩ := den_toks D (st.toks + 1)
 exact ⟨X, σ, ρ, D', VR.ext x' _ _ rw', x', q⟩
theorem set_attr {l₀ : List (Option V)} {H₀ : AH} {C : Addr} {i : Nat} {x : Int} {fs : List (Nat × V)} {k : Nat} {n : Str} {X : V} {Q : St → Prop} (top : (K c.w.params).In c.h1) (hk : k < 14) (hn : attrName k = n) (ok : attrOk (K c.w.params) C n = true) (hg : H₀.get i x = some (.ns fs)) (hfs : fsOk fs = true) (hz : fs.length < 500)
  (q : Q ⟨l₀, H₀.put i x (.ns (putF fs k X))⟩) : SetA c A ⟨l₀, H₀⟩ (.inst C i x) n X Q := fun ρ st y v D r rv => by
 subst hn
 obtain ⟨a, o, es, m, rfl, I, hd, g, rs⟩ := D.inst r hg
 unfold attrOk at ok
 simp only [Bool.and_eq_true, beq_iff_eq] at ok
 obtain ⟨⟨⟨⟨⟨o1, o2⟩, o3⟩, o4⟩, o5⟩, o6⟩ := ok
 have X0 := D.K top
 refine set_plain X0 I o4 ?_
 refine osa_open (s := { st with toks := st.toks + 1 }) X0 I o5 o6 fun b => ?_
 obtain ⟨cd, hc, hd'⟩ := any_some o2
 let od' := dictOf (putL (attrName k) (PyData.keyHash c.w.params (attrName k)) (.str (attrName k) (st.toks + 1)) v es) (putN (attrName k) es m)
 have e : Obj.putName (attrName k) (PyData.keyHash c.w.params (attrName k)) (.str (attrName k) (st.toks + 1)) v (dictOf es m) = od' := putName_dict ..
 have hlk : (getL (attrName k) es).isSome = true := by
  cases hl : fs.lookup k with
  | none => rw [(rs.get hk hfs).2 hl]; rfl
  | some Y => obtain ⟨w, hw, _⟩ := (rs.get hk hfs).1 Y hl; rw [hw]; rfl
 obtain ⟨hx, hcl, hn, -⟩ := I
 obtain ⟨oc, odi, oda, osl⟩ := o
 dsimp only at hcl hd
 subst hcl hd
 refine wpAny_bind (wpAny_pure (wpAny_bind (wpAny_bind (wpAny_loadPart hx (wpAny_bind ((looks_clsIn (M := model pw c.w) X0 hc).here (s := { st with toks := st.toks + 1 }) ?_))))))
 rw [hd']
 refine wpAny_pure (a := some (ρ i x)) (wpAny_bind (wpAny_pure (wpAny_bind ?_)))
 unfold nsSet
 refine wpAny_bind (wpAny_bind (wpAny_askSetting (wpAny_pure (wpAny_bind (wpAny_mkText (wpAny_bind (wpAny_loadPart g ?_)))))))
 have c1 : (!es.toArray.any (·.key.isStr (attrName k)) && es.toArray.any (·.refKey)) = false := by
  rw [← Array.any_toList, ← Array.any_toList]
  unfold getL at hlk
  simp only [List.toList_toArray]
  split at hlk
  ·rename_i en he
   rw [List.any_eq_true.mpr ⟨en, List.mem_of_find?_eq_some he, List.find?_some he⟩]; rfl
  ·split at hlk
   ·cases hlk
   ·rename_i z; rw [Bool.not_eq_true] at z; rw [z, Bool.and_false]
 show wpAny _ _ _ _ _ _
 dsimp only [dictOf]
 rw [aRefKeyMayBeTheName_at, c1]
 have sb : Heap.SameBut (ρ i x) st.heap (st.heap.update (ρ i x) (Obj.putName (attrName k) (PyData.keyHash c.w.params (attrName k)) (.str (attrName k) (st.toks + 1)) v)) := Heap.SameBut.update ..
 have gg : (st.heap.update (ρ i x) (Obj.putName (attrName k) (PyData.keyHash c.w.params (attrName k)) (.str (attrName k) (st.toks + 1)) v)).get? (ρ i x) = some od' := by
  have := Heap.get?_update_self (Obj.putName (attrName k) (PyData.keyHash c.w.params (attrName k)) (.str (attrName k) (st.toks + 1)) v) g (by rw [e]; rfl)
  rw [e] at this; exact this
 refine wpAny_updatePart g ?_
 have plen : (putL (attrName k) (PyData.keyHash c.w.params (attrName k)) (.str (attrName k) (st.toks + 1)) v es).length ≤ es.length + 1 := by
  have : ∀ l : List DictEntry, (putL (attrName k) (PyData.keyHash c.w.params (attrName k)) (.str (attrName k) (st.toks + 1)) v l).length ≤ l.length + 1 := by
   intro l
   induction l with
   | nil => simp [putL]
   | cons y l ih => unfold putL; split <;> simp; assumption
  exact this es
 refine wpAny_bind (wpAny_lookBehind gg (by exact pastItsLine_dict (by rw [List.size_toArray, sizeLine_eq]; have := NRs.length rs; lia)) ?_)
 refine wpAny_pure ?_
 have hdm : (H₀.get i x).isSome = true := by rw [hg]; rfl
 have Xp := put_ext (st' := { st with heap := st.heap.update (ρ i x) (Obj.putName (attrName k) (PyData.keyHash c.w.params (attrName k)) (.str (attrName k) (st.toks + 1)) v), toks := st.toks + 1 + 1 }) (o' := .ns (putF fs k X)) D hdm sb.extBut
 obtain ⟨D', x'⟩ := D.upd (st' := { st with heap := st.heap.update (ρ i x) (Obj.putName (attrName k) (PyData.keyHash c.w.params (attrName k)) (.str (attrName k) (st.toks + 1)) v), toks := st.toks + 1 + 1 }) (o' := .ns (putF fs k X)) hdm sb.extBut rfl rfl
  ⟨(putL (attrName k) (PyData.keyHash c.w.params (attrName k)) (.str (attrName k) (st.toks + 1)) v es).toArray, putN (attrName k) es m, gg, NRs.put hk (VR.ext Xp _ _ rv) hfs (NRs.ext Xp _ _ rs)⟩
 exact ⟨_, ρ, D', x', q⟩
end
end
section
open PySem.SeqAt Builtin Builtin.ObjectAttr Builtin.Getset_descriptor
noncomputable def slotOk (K : Frag) (C : Addr) (n : Str) (p : Addr) (i : Nat) : Bool := plainGet K C n && isClsIn K C && findIn K (.ref C) n == some (some (.ref p)) && specialIn K (.ref p) "__get__" == some (some (.builtin "member_descriptor.__get__")) && takesIn K (.ref p) == some true && slotIn K p C == some i &&
 findIn K (.ref C) "__setattr__" == some (some (.builtin "object.__setattr__")) && plainOver K C && takerIn K C n == some (some (.ref p)) && typeIn K (.ref p) == some (.type "member_descriptor")
theorem slot_node (P : Params) : slotOk (K P) 283 (s "node") 284 0 = true := by kernel_rfl
theorem slot_npred (P : Params) : slotOk (K P) 283 (s "npredecessors") 285 1 = true := by kernel_rfl
theorem slot_succ (P : Params) : slotOk (K P) 283 (s "successors") 286 2 = true := by kernel_rfl
noncomputable def setS (fs : List (Option V)) (i : Nat) (X : V) : List (Option V) := (fs ++ List.replicate (i + 1 - fs.length) none).set i (some X)
section
variable {W : Wd}
theorem SRs.length : ∀ {fs : List (Option V)} {vs : List (Option Value)}, SRs W fs vs → vs.length = fs.length
 | [], vs, h => by have e : vs = [] := h; subst e; rfl
 | _ :: _, _, ⟨_, _, e, _, b⟩ => by subst e; simp [SRs.length b]
theorem SRs.at {X : V} : ∀ {fs : List (Option V)} {vs : List (Option Value)} {i : Nat}, SRs W fs vs → fs[i]? = some (some X) → ∃ v, vs[i]? = some (some v) ∧ VR W X v
 | [], _, _, _, h => by simp at h
 | Y :: fs, _, i, ⟨v, r, e, a, b⟩, h => by
  subst e
  cases i with
  | zero =>
   simp at h
   subst h
   cases v with
   | none => exact absurd a id
   | some u => exact ⟨u, rfl, a⟩
  | succ i => exact SRs.at (i := i) b (by simpa using h)
theorem SRs.app : ∀ {es fs : List (Option V)} {ks ls : List (Option Value)}, SRs W es ks → SRs W fs ls → SRs W (es ++ fs) (ks ++ ls)
 | [], _, ks, _, h, h' => by have e : ks = [] := h; subst e; exact h'
 | X :: es, _, _, _, ⟨v, r, e, q, b⟩, h' => by subst e; exact ⟨v, _, rfl, q, SRs.app b h'⟩
theorem SRs.nones : ∀ n, SRs W (List.replicate n none) (List.replicate n none)
 | 0 => rfl
 | n + 1 => ⟨none, _, rfl, trivial, SRs.nones n⟩
theorem SRs.set {X : V} {v : Value} (hv : VR W X v) : ∀ {fs : List (Option V)} {vs : List (Option Value)} (i : Nat), SRs W fs vs → SRs W (fs.set i (some X)) (vs.set i (some v))
 | [], vs, i, h => by have e : vs = [] := h; subst e; exact rfl
 | Y :: fs, _, i, ⟨u, r, e, a, b⟩ => by
  subst e
  cases i with
  | zero => exact ⟨some v, r, rfl, hv, b⟩
  | succ i => exact ⟨u, _, rfl, a, SRs.set hv i b⟩
end
theorem findObj_none {K : Frag} {C : Addr} {n : Str} {od : Option Obj} {a g : Value} (hc : (clsIn K C).isSome = true) (ha : findIn K (.ref C) n = some (some a)) (hg : specialIn K a "__get__" = some (some g)) (ht : takesIn K a = some true) : findObj K C od n = some (.bind g a) := by
 obtain ⟨cd, hc⟩ := Option.isSome_iff_exists.mp hc
 unfold findObj
 rw [hc, Option.bind_some, ha, Option.bind_some]
 simp [hg, ht]
section
variable {c : Cx} {A : Around} {σ : St} {Q : V → St → Prop}
theorem Den.slots {ρ : Nat → Int → Addr} {st : Shared} {d i : Nat} {x : Int} {fs : List (Option V)} (D : Den c σ ρ st) (hg : σ.H.get i x = some (.slots d fs)) :
  ∃ sl od, InstAt st.heap (ρ i x) ⟨.ref 283, some (ρ d 0), .plain, sl⟩ 283 od ∧ SRs (wd c σ ρ st) fs sl.toList := by
 obtain ⟨sl, g, m, rs⟩ := D.objs i x _ hg
 obtain ⟨o, ho⟩ := Option.isSome_iff_exists.mp m
 obtain ⟨ob, hob, _⟩ := (D.objs d 0 o ho).at
 exact ⟨sl, some ob, ⟨g, rfl, rfl, hob⟩, rs⟩
theorem get_slotV {d i : Nat} {x : Int} {fs : List (Option V)} {n : Str} {p : Addr} {j : Nat} {X : V} (top : (K c.w.params).In c.h1) (ok : slotOk (K c.w.params) 283 n p j = true) (hg : σ.H.get i x = some (.slots d fs)) (hl : fs[j]? = some (some X)) (hX : X.plain = true)
  (q : Q X σ) : Op1 c A σ (.ref i x) (fun v => getAttr v n true) Q := fun ρ st v D r => by
 obtain ⟨rfl, _⟩ := r
 obtain ⟨sl, od, I, rs⟩ := D.slots hg
 unfold slotOk at ok
 simp only [Bool.and_eq_true, beq_iff_eq] at ok
 obtain ⟨⟨⟨⟨⟨⟨⟨⟨⟨o1, o2⟩, o3⟩, o4⟩, o5⟩, o6⟩, o7⟩, o8⟩, o9⟩, o10⟩ := ok
 obtain ⟨w, hw, rw'⟩ := rs.at hl
 have X0 := D.K top
 refine get_bind X0 I (plainGet_of o1).1 (findObj_none o2 o3 o4 o5) (plainGet_of o1).2 (wpAny_call (slot_get (s := { st with toks := st.toks + 1 }) X0 I o6 (v := w) ?_ (handed_on (handed_V rw' hX) ?_)))
 ·have : sl[j]? = some (some w) := by simpa using hw
  rw [this]; rfl
 ·obtain ⟨D', x'⟩ := den_toks D (st.toks + 1)
  exact ⟨X, σ, ρ, D', VR.ext x' _ _ rw', x', q⟩
theorem slot_put {prog : Program} {w : World} {s₀ : Shared} {K : Frag} {x C : Addr} {R : Result → Shared → Prop} {ox : Obj} {od : Option Obj} {v : Value} {p i : Nat} (X : K.In s₀.heap) (I : InstAt s₀.heap x ox C od) (hp : slotIn K p C = some i) (hi : i < 1000)
  (h : R (.ok (.ret .none)) { s₀ with heap := s₀.heap.update x (fun o => { o with slots := (o.slots ++ Array.replicate (i + 1 - o.slots.size) none).setIfInBounds i (some v) }) }) :
  codeAny (model prog w) A (.call (.builtin "member_descriptor.__set__") ⟨[.ref p, .ref x, v], []⟩) R s₀ := by
 obtain ⟨n, tn, owner, behind, tb, d, sl, cd, ho, hc, hm, hb, rfl⟩ := slot_of X hp
 obtain ⟨hh, g, dr, t, os⟩ := s₀
 have L0 := I.type (M := model prog w)
 have L1 := looks_mroIn (M := model prog w) X hm
 have L2 : Looks (model prog w) hh (Slots.slotNamesOf (.ref C)) cd.slotNames := (looks_clsIn X hc).andThen .now
 have hx := I.at_
 dsimp only at ho hx L0 L1
 have f0 := looks_field (M := model prog w) ho 0 (v := .str n tn) rfl
 have f1 := looks_field (M := model prog w) ho 1 (v := owner) rfl
 have f3 := looks_field (M := model prog w) ho 3 (v := .builtin "proto.slot#set") rfl
 have f4 := looks_field (M := model prog w) ho 4 (v := .int behind tb) rfl
 refine codeAny_call_builtin KF.slot_mset.plain KF.entry_mset (KF.slot_mset.check _ _ _ _ _ _ _ _ ⟨_, ho, rfl⟩ (KF.args_mset _ _ _) ?_)
 unfold Builtin.«member_descriptor.__set__» descrSet descrStoreThrough descrCheckInstance descrNameAndClass isInstance
 have f5 : Looks (model prog w) hh (descrItself (.ref p)) [.ref p] := ((Looks.ld (part := none) ho).andThen .now).andThen (Looks.of_pure (by kernel_rfl))
 repeat lk
 refine ⟨Code.quiet_builtin _ (by decide +kernel), codeAny_builtin KF.entry_slotset ?_⟩
 unfold Builtin.«proto.slot#set» Slots.target
 repeat lk
 rw [if_neg hb]
 refine wpAny_pure (wpAny_bind ?_)
 unfold setSlotAt
 dsimp only
 rw [if_neg (by rw [sizeLine_eq]; lia)]
 exact wpAny_updatePart hx (wpAny_pure h)
theorem set_slotV {l₀ : List (Option V)} {H₀ : AH} {d i : Nat} {x : Int} {fs : List (Option V)} {n : Str} {p : Addr} {j : Nat} {X : V} {Q : St → Prop} (top : (K c.w.params).In c.h1) (ok : slotOk (K c.w.params) 283 n p j = true) (hj : j < 10) (hg : H₀.get i x = some (.slots d fs))
  (q : Q ⟨l₀, H₀.put i x (.slots d (setS fs j X))⟩) : SetA c A ⟨l₀, H₀⟩ (.ref i x) n X Q := fun ρ st y v D r rv => by
 obtain ⟨rfl, _⟩ := r
 obtain ⟨sl, od, I, rs⟩ := D.slots hg
 unfold slotOk at ok
 simp only [Bool.and_eq_true, beq_iff_eq] at ok
 obtain ⟨⟨⟨⟨⟨⟨⟨⟨⟨o1, o2⟩, o3⟩, o4⟩, o5⟩, o6⟩, o7⟩, o8⟩, o9⟩, o10⟩ := ok
 have X0 := D.K top
 refine set_plain X0 I o7 (osa_descr (s := { st with toks := st.toks + 1 }) KF.slot_mset X0 I o8 o9 o10 (slot_put (s₀ := { st with toks := st.toks + 1 }) X0 I o6 (by lia) ?_))
 let f : Obj → Obj := fun o => { o with slots := (o.slots ++ Array.replicate (j + 1 - o.slots.size) none).setIfInBounds j (some v) }
 have sb : Heap.SameBut (ρ i x) st.heap (st.heap.update (ρ i x) f) := Heap.SameBut.update ..
 have gg : (st.heap.update (ρ i x) f).get? (ρ i x) = some (f ⟨.ref 283, some (ρ d 0), .plain, sl⟩) := Heap.get?_update_self f I.at_ rfl
 have hdm : (H₀.get i x).isSome = true := by rw [hg]; rfl
 have Xp := put_ext (st' := { st with heap := st.heap.update (ρ i x) f, toks := st.toks + 1 }) (o' := .slots d (setS fs j X)) D hdm sb.extBut
 obtain ⟨D', x'⟩ := D.upd (st' := { st with heap := st.heap.update (ρ i x) f, toks := st.toks + 1 }) (o' := .slots d (setS fs j X)) hdm sb.extBut rfl rfl
  ⟨_, gg, (by
   obtain ⟨sl', g', m', _⟩ := D.objs i x _ hg
   exact Xp.dom d 0 m'), by
   have len := SRs.length rs
   have len : sl.size = fs.length := by simpa using len
   have := SRs.set (VR.ext Xp _ _ rv) j ((SRs.ext Xp _ _ rs).app (SRs.nones (j + 1 - fs.length)))
   show SRs _ (setS fs j X) ((sl ++ Array.replicate (j + 1 - sl.size) none).setIfInBounds j (some v)).toList
   rw [len]
   simpa [setS] using this⟩
 exact ⟨_, ρ, D', x', q⟩
end
end
section
open PySem.SeqAt
noncomputable def methOk (K : Frag) (C : Addr) (n : Str) (f : Addr) : Bool := findIn K (.ref C) "__getattribute__" == some (some (.builtin "object.__getattribute__")) && findIn K (.ref C) "__getattr__" == some none && findIn K (.ref C) n == some (some (.ref f)) && typeIn K (.ref f) == some (.type "function") && !(attrNames.contains n)
theorem NRs.miss {W : Wd} {n : Str} (hn : attrNames.contains n = false) : ∀ {fs : List (Nat × V)} {es : List DictEntry}, fsOk fs = true → NRs W fs es → getL n es = some none
 | [], es, _, h => by have e : es = [] := h; subst e; rfl
 | (j, Y) :: fs, _, ok, ⟨e, r, t, q1, q2, q3, q4⟩ => by
  subst q1
  unfold fsOk at ok
  rw [List.all_cons, Bool.and_eq_true, decide_eq_true_eq] at ok
  have ih := NRs.miss hn (fs := fs) ok.2 q4
  have refk : e.refKey = false := by unfold DictEntry.refKey; rw [q2]
  have e1 : e.key.isStr n = false := by
   rw [q2, isStr_str]
   refine beq_eq_false_iff_ne.mpr fun e => ?_
   have hm : attrName j ∈ attrNames := by
    unfold attrName
    have hl : j < attrNames.length := ok.1
    rw [List.getD_eq_getElem?_getD, List.getElem?_eq_getElem hl]
    exact List.getElem_mem hl
   rw [e] at hm
   have := List.contains_iff_mem.mpr hm
   rw [hn] at this; cases this
  unfold getL
  rw [List.find?_cons, e1, List.any_cons, refk]
  exact ih
section
variable {c : Cx} {A : Around} {σ : St} {Q : V → St → Prop}
theorem getM_inst {C : Addr} {i : Nat} {x : Int} {fs : List (Nat × V)} {n : Str} {f : Addr} {Q : V → List V → St → Prop} (top : (K c.w.params).In c.h1) (ok : methOk (K c.w.params) C n f = true) (hg : σ.H.get i x = some (.ns fs)) (hfs : fsOk fs = true)
  (q : Q (.obj f) [.inst C i x] σ) : GetM c A σ (.inst C i x) n Q := fun ρ st v pl D r => by
 have r0 := r
 obtain ⟨a, o, es, m, rfl, I, hd, g, rs⟩ := D.inst r hg
 unfold methOk at ok
 simp only [Bool.and_eq_true, beq_iff_eq, Bool.not_eq_true'] at ok
 obtain ⟨⟨⟨⟨o1, o2⟩, o3⟩, o4⟩, o5⟩ := ok
 have X0 := D.K top
 have L0 := I.type (M := MM c)
 have sp : ∀ {nm : Str} {rr : Option Value}, findIn (K c.w.params) (.ref C) nm = some rr → Looks (MM c) st.heap (specialOf (.ref a) nm) rr := fun h => L0.andThen (looks_findIn X0 h)
 unfold getMethod
 refine wpAny_bind ((sp o1).here ?_)
 show wpAny _ _ (if (Manifest.canonical "object.__getattribute__" != "object.__getattribute__") = true then _ else _) _ _ st
 rw [if_neg (by decide +kernel)]
 refine wpAny_bind ((sp o2).here ?_)
 show wpAny _ _ (if (Option.isSome (none : Option Value)) = true then _ else _) _ _ st
 rw [if_neg (by decide)]
 refine wpAny_bind ((sp o3).here ?_)
 refine wpAny_bind ((looks_typeIn (M := MM c) X0 o4).here ?_)
 rw [if_neg (by decide)]
 refine wpAny_bind (wpAny_loadPart I.at_ ?_)
 rw [hd]
 have L5 : Looks (MM c) st.heap (nsGet (ρ i x) n) none := by
  unfold nsGet
  refine Looks.andThen (Looks.ld g) ?_
  exact Looks.of_pure (nsLook_of (by show lookIn n (dictOf es m) = _; rw [lookIn_dict, NRs.miss o5 hfs rs]))
 refine wpAny_bind (L5.here ?_)
 show wpAny _ _ (if (Option.isSome (none : Option Value)) = true then _ else _) _ _ st
 rw [if_neg (by decide)]
 exact wpAny_bind (wpAny_rule (wpAny_pure ⟨.obj f, [.inst C i x], σ, ρ, D, rfl, ⟨_, [], rfl, r0, rfl⟩, .refl _, q⟩))
end
end
section
open PySem.SeqAt
noncomputable def makeOk (K : Frag) (C fI : Addr) : Bool := makesIn K C && findIn K (.ref C) "__init__" == some (some (.ref fI)) && typeIn K (.ref fI) == some (.type "function")
theorem make_sm (P : Params) : makeOk (K P) 242 160 = true := by kernel_rfl
theorem make_ts (P : Params) : makeOk (K P) 380 316 = true := by kernel_rfl
theorem make_ni (P : Params) : makeOk (K P) 283 279 = true := by kernel_rfl
section
variable {c : Cx} {A : Around} {σ : St} {Q : V → St → Prop}
theorem mk_inst {l₀ : List (Option V)} {H₀ : AH} {C fI : Addr} {Xs : List V} {n : Nat} (top : (K c.w.params).In c.h1) (ok : makeOk (K c.w.params) C fI = true) (hC : C ≠ 283) (rm : Room (n + 1) A)
  (h : ∀ A', Room n A' → Cd c A' ⟨l₀, H₀ ++ [.one (.ns [])]⟩ fI (.inst C H₀.length 0 :: Xs) (fun X σ' => X = .none ∧ Q (.inst C H₀.length 0) σ')) : Ca c A ⟨l₀, H₀⟩ (.obj C) Xs Q := by
 refine Cd.ca fun ρ st vs D rs => ?_
 unfold makeOk at ok
 simp only [Bool.and_eq_true, beq_iff_eq] at ok
 obtain ⟨⟨o1, o2⟩, o3⟩ := ok
 have X0 := D.K top
 let d := st.heap.objs.size
 let h1 := st.heap.push emptyDict
 let h2 := h1.push (instObj C d)
 have hsz : h1.objs.size = d + 1 := Heap.size_push ..
 obtain ⟨D1, x1⟩ := D.alloc (st' := { st with heap := h1 }) (a := d) (o' := .ns []) (get_size _) (fun b o hb => Heap.get?_push_of_some _ hb) rfl rfl ⟨#[], 0, Heap.get?_push_size _ rfl, rfl⟩
 obtain ⟨D2, x2⟩ := D1.keeps (st' := { st with heap := h2 }) (fun b o hb => Heap.get?_push_of_some _ hb) rfl rfl
 have ri : VR (wd c ⟨l₀, H₀ ++ [.one (.ns [])]⟩ (ρapp ρ H₀.length d) { st with heap := h2 }) (.inst C H₀.length 0) (.ref (d + 1)) := by
  refine ⟨d + 1, instObj C d, rfl, ?_, rfl, by simp [wd, ρapp], rfl, hC, by simp [wd, AH.get_app]⟩
  have := Heap.get?_push_size h1 (o := instObj C d) rfl
  rw [hsz] at this; exact this
 have hq := h _ (rm.make (C := C) (vs := vs)) (ρapp ρ H₀.length d) { st with heap := h2 } (.ref (d + 1) :: vs) D2 (VRs.cons ri (VRs.ext (x1.trans x2) _ _ rs))
 obtain ⟨hh, g, dr, t, os⟩ := st
 refine make_core (makes_of X0 o1) (looks_findIn X0 o2) (fun self => bind_fn X0 self o3) (.inl rfl) (codeAny_mono hq fun r s' z => ?_)
 cases r with
 | error e => exact z.elim
 | ok fl => cases fl with
  | ret v =>
   obtain ⟨X, σ', ρ', D', r', x', rfl, q⟩ := z
   have r' : v = .none := r'
   exact ⟨r', _, _, ρ', D', VR.ext x' _ _ ri, (x1.trans x2).trans x', q⟩
  | next => exact z.elim
  | brk => exact z.elim
  | cont => exact z.elim
theorem mk_slots {l₀ : List (Option V)} {H₀ : AH} {Xs : List V} {n : Nat} (top : (K c.w.params).In c.h1) (rm : Room (n + 1) A)
  (h : ∀ A', Room n A' → Cd c A' ⟨l₀, (H₀ ++ [.one (.ns [])]) ++ [.one (.slots H₀.length [])]⟩ 279 (.ref (H₀.length + 1) 0 :: Xs) (fun X σ' => X = .none ∧ Q (.ref (H₀.length + 1) 0) σ')) : Ca c A ⟨l₀, H₀⟩ (.obj 283) Xs Q := by
 refine Cd.ca fun ρ st vs D rs => ?_
 have ok := make_ni c.w.params
 unfold makeOk at ok
 simp only [Bool.and_eq_true, beq_iff_eq] at ok
 obtain ⟨⟨o1, o2⟩, o3⟩ := ok
 have X0 := D.K top
 let d := st.heap.objs.size
 let h1 := st.heap.push emptyDict
 let h2 := h1.push (instObj 283 d)
 have hsz : h1.objs.size = d + 1 := Heap.size_push ..
 obtain ⟨D1, x1⟩ := D.alloc (st' := { st with heap := h1 }) (a := d) (o' := .ns []) (get_size _) (fun b o hb => Heap.get?_push_of_some _ hb) rfl rfl ⟨#[], 0, Heap.get?_push_size _ rfl, rfl⟩
 have gi : h2.get? (d + 1) = some (instObj 283 d) := by
  have := Heap.get?_push_size h1 (o := instObj 283 d) rfl
  rw [hsz] at this; exact this
 have hl : (H₀ ++ [Fam.one (O.ns [])]).length = H₀.length + 1 := by simp
 have nn : h1.get? (d + 1) = none := by rw [← hsz]; exact get_size _
 have D2' := D1.alloc (st' := { st with heap := h2 }) (a := d + 1) (o' := .slots H₀.length []) nn (fun b o hb => Heap.get?_push_of_some _ hb) rfl rfl (by
  refine ⟨#[], ?_, ?_, rfl⟩
  ·show h2.get? (d + 1) = some ⟨.ref 283, some (ρapp (ρapp ρ H₀.length d) (H₀ ++ [Fam.one (O.ns [])]).length (d + 1) H₀.length 0), .plain, #[]⟩
   rw [gi, hl]; simp [ρapp, instObj]
  ·show (((H₀ ++ [Fam.one (O.ns [])]) ++ [Fam.one (O.slots H₀.length [])]).get H₀.length 0).isSome = true
   rw [AH.get_app, if_neg (by rw [hl]; exact Nat.ne_of_lt (Nat.le_refl (List.length H₀).succ)), AH.get_app, if_pos rfl, if_pos rfl]; rfl)
 obtain ⟨D2, x2⟩ := D2'
 have ri : VR (wd c ⟨l₀, (H₀ ++ [.one (.ns [])]) ++ [.one (.slots H₀.length [])]⟩ (ρapp (ρapp ρ H₀.length d) (H₀ ++ [Fam.one (O.ns [])]).length (d + 1)) { st with heap := h2 }) (.ref (H₀.length + 1) 0) (.ref (d + 1)) := by
  refine ⟨?_, ?_⟩
  ·show Value.ref (d + 1) = .ref (ρapp (ρapp ρ H₀.length d) (H₀ ++ [Fam.one (O.ns [])]).length (d + 1) (H₀.length + 1) 0)
   rw [hl]; simp [ρapp]
  ·show (((H₀ ++ [Fam.one (O.ns [])]) ++ [Fam.one (O.slots H₀.length [])]).get (H₀.length + 1) 0).isSome = true
   rw [AH.get_app, if_pos hl.symm, if_pos rfl]; rfl
 have hq := h _ (rm.make (C := 283) (vs := vs)) (ρapp (ρapp ρ H₀.length d) (H₀ ++ [Fam.one (O.ns [])]).length (d + 1)) { st with heap := h2 } (.ref (d + 1) :: vs) D2 (VRs.cons ri (VRs.ext (x1.trans x2) _ _ rs))
 obtain ⟨hh, g, dr, t, os⟩ := st
 refine make_core (makes_of X0 o1) (looks_findIn X0 o2) (fun self => bind_fn X0 self o3) (.inl rfl) (codeAny_mono hq fun r s' z => ?_)
 cases r with
 | error e => exact z.elim
 | ok fl => cases fl with
  | ret v =>
   obtain ⟨X, σ', ρ', D', r', x', rfl, q⟩ := z
   have r' : v = .none := r'
   exact ⟨r', _, _, ρ', D', VR.ext x' _ _ ri, (x1.trans x2).trans x', q⟩
  | next => exact z.elim
  | brk => exact z.elim
  | cont => exact z.elim
end
end
section
open PySem.SeqAt
section
variable {c : Cx} {A : Around} {σ : St} {Q : V → St → Prop}
theorem set0 {l₀ : List (Option V)} {H₀ : AH} (q : Q (.ref H₀.length 0) ⟨l₀, H₀ ++ [.one (.set (fun _ => false) 0)]⟩) : Ca c A ⟨l₀, H₀⟩ (.typ "set") [] Q := fun ρ st f vs D e r => by
 have e : f = .type "set" := e
 subst e
 have e2 : vs = [] := r
 subst e2
 refine call_set_0 fun led => ?_
 have so : (st.heap.push { cls := .type "set", dict := none, data := .set #[] 0 (.fresh 0 0 led) }).SetOf (intKind pw c.w) st.heap.objs.size (fun _ => false) 0 :=
  ⟨_, #[], 0, .fresh 0 0 led, Heap.get?_push_size _ rfl, ⟨rfl, rfl, rfl⟩, rfl, fun e he => by simp at he, fun k => by simp, by decide, rfl, rfl⟩
 obtain ⟨D₂, x₂⟩ := D.alloc (st' := { st with heap := st.heap.push { cls := .type "set", dict := none, data := .set #[] 0 (.fresh 0 0 led) } }) (a := st.heap.objs.size) (o' := .set (fun _ => false) 0) (get_size _)
  (fun b o hb => Heap.get?_push_of_some _ hb) rfl rfl so
 exact ⟨.ref H₀.length 0, _, _, D₂, ⟨by simp [wd, ρapp], by simp [wd, AH.get_app]⟩, x₂, q⟩
theorem Den.sett {ρ : Nat → Int → Addr} {st : Shared} {i : Nat} {x : Int} {S : Int → Bool} {n : Nat} (D : Den c σ ρ st) (hg : σ.H.get i x = some (.set S n)) : st.heap.SetOf (intKind pw c.w) (ρ i x) S n := D.objs i x _ hg
theorem in_set {i : Nat} {x k : Int} {S : Int → Bool} {n : Nat} (hg : σ.H.get i x = some (.set S n)) (q : Q (.bool (S k)) σ) : Op2 c A σ (.int k) (.ref i x) (compareOp .In) Q := fun ρ st v u D ⟨t, e⟩ e' => by
 obtain ⟨e', hd⟩ := e'
 subst e e'
 refine wpAny_inSet_of ikey rfl (D.sett hg) ?_
 obtain ⟨D', x'⟩ := den_toks D (st.toks + 1)
 exact ⟨.bool _, σ, ρ, D', rfl, x', q⟩
theorem getM_set {i : Nat} {x : Int} {S : Int → Bool} {n : Nat} {Q : V → List V → St → Prop} (hg : σ.H.get i x = some (.set S n)) (q : Q (.bi "set.add") [.ref i x] σ) : GetM c A σ (.ref i x) (s "add") Q := fun ρ st v pl D e => by
 have e0 := e
 obtain ⟨e, _⟩ := e
 subst e
 exact getMethod_set_add (D.sett hg) ⟨.bi "set.add", [.ref i x], σ, ρ, D, rfl, ⟨_, [], rfl, e0, rfl⟩, .refl _, q⟩
theorem add_set {l₀ : List (Option V)} {H₀ : AH} {i : Nat} {x k : Int} {S : Int → Bool} {n : Nat} (hg : H₀.get i x = some (.set S n)) (hn : n < 1000) (q : Q .none ⟨l₀, H₀.put i x (.set (fun j => S j || decide (j = k)) (if S k then n else n + 1))⟩) : Ca c A ⟨l₀, H₀⟩ (.bi "set.add") [.ref i x, .int k] Q := fun ρ st f vs D e r => by
 have e : f = .builtin "set.add" := e
 subst e
 obtain ⟨v, r', rfl, ⟨rfl, hd⟩, u, r2, rfl, ⟨t, rfl⟩, e2⟩ := r
 have e2 : r2 = [] := e2
 subst e2
 refine call_set_add ikey rfl (D.sett hg) (by have : scanBound = 4096 := rfl; lia) fun h' sb so => ?_
 have hdm : (H₀.get i x).isSome = true := by rw [hg]; rfl
 obtain ⟨D', x'⟩ := D.upd (st' := { st with heap := h', toks := st.toks + 1 }) (o' := .set (fun j => S j || decide (j = k)) (if S k then n else n + 1)) hdm sb.extBut rfl rfl so
 exact ⟨.none, _, ρ, D', rfl, x', q⟩
theorem item_neg {i : Nat} {x n : Int} {xs : List V} {Y : V} (hg : σ.H.get i x = some (.list xs)) (h0 : n < 0) (hn : 0 ≤ n + xs.length) (hl : xs.length < 1000000) (hY : xs[(n + xs.length).toNat]? = some Y) (q : Q Y σ) : Op2 c A σ (.ref i x) (.int n) itemOf Q := fun ρ st v u D e ⟨t, e'⟩ => by
 obtain ⟨e, _⟩ := e
 subst e e'
 obtain ⟨vs, m, g, len, rs⟩ := D.list hg
 have hl' : st.heap.IsList (ρ i x) vs := ⟨_, g, rfl, m, rfl⟩
 obtain ⟨y, hy, ry⟩ := (VRs.at (n + xs.length).toNat rs).1 Y hY
 exact item_by hl'.typeIs slot_list_getitem.lookup (wpAny_getItem_list_neg hl' h0 (by rw [len]; lia) (by grind) (by rw [len]; simpa using hy) (Post.now D ry q))
end
end
section
section
variable {H : AH} {F : Fam} {i j : Nat} {x y : Int} {o o' : O}
theorem ga (h : H.get i x = some o) : (H ++ [F]).get i x = some o := by
 have hl : i < H.length := AH.get_lt (by rw [h]; rfl)
 unfold AH.get at h ⊢
 rw [List.getElem?_append_left hl]; exact h
theorem ge : (H ++ [Fam.one o]).get H.length 0 = some o := by rw [AH.get_app, if_pos rfl, if_pos rfl]
theorem gp_eq (h : H.get i x = some o') : (H.put i x o).get i x = some o := by rw [AH.get_put (by rw [h]; rfl), if_pos ⟨rfl, rfl⟩]
theorem gp_ne (hd : H.get i x = some o') (hne : j ≠ i) {ob : O} (h : H.get j y = some ob) : (H.put i x o).get j y = some ob := by
 rw [AH.get_put (by rw [hd]; rfl), if_neg (fun e => hne e.1)]; exact h
theorem put_length : (H.put i x o).length = H.length := by
 unfold AH.put
 split <;> simp
noncomputable def Same (M : Nat → Prop) (H H' : AH) : Prop := H.length ≤ H'.length ∧ ∀ j y ob, ¬ M j → H.get j y = some ob → H'.get j y = some ob
theorem Same.refl {M : Nat → Prop} : Same M H H := ⟨Nat.le_refl _, fun _ _ _ _ h => h⟩
theorem Same.app {M : Nat → Prop} {H0 : AH} (h : Same M H0 H) : Same M H0 (H ++ [F]) := ⟨by rw [List.length_append]; exact Nat.le_trans h.1 (Nat.le_add_right _ _), fun j y ob hj g => ga (h.2 j y ob hj g)⟩
theorem Same.put {M : Nat → Prop} {H0 : AH} (h : Same M H0 H) (hd : H.get i x = some o') (hi : M i ∨ H0.length ≤ i) : Same M H0 (H.put i x o) := by
 refine ⟨by rw [put_length]; exact h.1, fun j y ob hj g => gp_ne hd (fun e => ?_) (h.2 j y ob hj g)⟩
 subst e
 rcases hi with q | q
 ·exact hj q
 ·exact absurd (AH.get_lt (by rw [g]; rfl)) (Nat.not_lt.mpr q)
theorem Same.trans {M : Nat → Prop} {H1 H2 H3 : AH} (a : Same M H1 H2) (b : Same M H2 H3) : Same M H1 H3 := ⟨Nat.le_trans a.1 b.1, fun j y ob hj g => b.2 j y ob hj (a.2 j y ob hj g)⟩
theorem Same.mono {M M' : Nat → Prop} {H1 H2 : AH} (a : Same M H1 H2) (h : ∀ j, M j → M' j) : Same M' H1 H2 := ⟨a.1, fun j y ob hj g => a.2 j y ob (fun q => hj (h j q)) g⟩
theorem lt_len (h : H.get i x = some o) : i < H.length := AH.get_lt (by rw [h]; rfl)
end
end
section
open PySem.SeqAt
theorem alloc_peek {α : Type} {K : Frag} {M : Model} {A : Around} {E : Value → Shared → Prop} {Q : α → Shared → Prop} {s₀ : Shared} {o : Obj} {r : Addr → α} (X : K.In s₀.heap) (q : Q (r s₀.heap.objs.size) { s₀ with heap := s₀.heap.push o }) :
  ∀ (t : Sem α) (g : Addr → Option α), peek1 K ⟨M.prog, M.w.params⟩ t = some (o, g) → (∀ D, g D = some (r D)) → wpAny M A t Q E s₀ := by
 intro t
 induction t with
 | rule _ k ih => intro g e hg Γ p hΓ; exact ih () g e hg Γ p hΓ
 | point _ k ih => intro g e hg Γ p hΓ; exact ih () g e hg Γ p hΓ
 | ask k ih => intro g e hg Γ p hΓ; exact ih _ g e hg Γ p hΓ
 | load a _ k ih =>
  intro g e hg Γ p hΓ
  simp only [peek1] at e
  split at e
  ·rename_i ob ho; exact ⟨ob, X _ _ ho, ih ob g e hg Γ p hΓ⟩
  ·cases e
 | alloc ob k _ =>
  intro g e hg
  have e : some (ob, fun D => peek K ⟨M.prog, M.w.params⟩ (k D)) = some (o, g) := e
  obtain ⟨e1, e2⟩ := Prod.mk.inj (Option.some.inj e)
  subst e1
  subst e2
  have X' : K.In (s₀.heap.push ob) := X.keeps fun b x hb => Heap.get?_push_of_some _ hb
  show wpAny M A (alloc ob >>= k) Q E s₀
  refine wpAny_bind (wpAny_alloc ?_)
  exact (Looks.of_peek (M := M) (h := s₀.heap.push ob) X' (hg s₀.heap.objs.size)).here (s := { s₀ with heap := s₀.heap.push ob }) q
 | _ => intro g e; cases e
theorem meets_bool_list (l : Addr) (us : Array Value) (hl : (us.size : Int) < 2 ^ 63) : Meets (Builtin.«bool.__new__» ⟨[.type "bool", .ref l], []⟩) (fun _ R s' => s'.heap.IsList l us ∧ R (.ok (.ret (.bool (!us.isEmpty)))) { s' with toks := s'.toks + 1 + 1 }) :=
 Meets.of_wp fun prog w A R s₀ ⟨hs, h⟩ => by
  obtain ⟨hp, g, d, tk, os⟩ := s₀
  have f1 := F.conv_sub_bool
  repeat (any_goals (first | assumption | with_reducible refine wpAny_truthy_list hs (by assumption) ?_ | wp_step))
  all_goals first | exact ⟨_, rfl, h⟩ | skip
theorem kind_iter : builtinKind "iter" = none := by decide +kernel
theorem plain_iter : plainId "iter" = true := by decide +kernel
theorem entry_iter : entryFor table "iter" = some Builtin.«iter» := entryFor_of_tree (by kernel_rfl)
theorem args_iter1 (a : Value) : argsOk "iter" ⟨[a], []⟩ := by unfold argsOk; kernel_rfl
section
variable {c : Cx} {A : Around} {σ : St} {Q : V → St → Prop}
theorem bd_star {fd : FuncData} {ns : List Str} {Xs Ys Zs : List V} (top : (Internal.K c.w.params).In c.h1)
  (h : ∀ W vs, VRs W Xs vs → ∃ ys zs, VRs W Ys ys ∧ VRs W Zs zs ∧ ∃ g, (∀ M : Model, M.w = c.w → M.prog = pw → peek1 (Internal.K c.w.params) ⟨M.prog, M.w.params⟩ (bindArgs fd ⟨vs, []⟩) = some ({ cls := .type "tuple", data := .seq zs.toArray }, g)) ∧ ∀ D, g D = some ((ns.take (Ys.length + 1)).zip (ys ++ [.ref D]))) : Bd c A σ fd ns Xs (Ys ++ [.tup Zs]) := by
 intro ρ st vs D rs R hR
 obtain ⟨ys, zs, ry, rz, g, hg, hd⟩ := h _ vs rs
 obtain ⟨D', x'⟩ := D.keeps (st' := { st with heap := st.heap.push { cls := .type "tuple", data := .seq zs.toArray } }) (fun b o hb => Heap.get?_push_of_some _ hb) rfl rfl
 refine alloc_peek (K := Internal.K c.w.params) (r := fun D => (ns.take (Ys.length + 1)).zip (ys ++ [.ref D])) (D.K top) ?_ _ g (hg (MM c) rfl rfl) hd
 have e : (Ys ++ [V.tup Zs]).length = Ys.length + 1 := by simp
 have := hR (ys ++ [.ref st.heap.objs.size]) { st with heap := st.heap.push { cls := .type "tuple", data := .seq zs.toArray } } (fun b o hb => Heap.get?_push_of_some _ hb) rfl rfl
  (VRs.app (VRs.ext x' _ _ ry) (VRs.cons (show VR _ (.tup Zs) (.ref st.heap.objs.size) from ⟨_, _, zs.toArray, 0, rfl, Heap.get?_push_size _ rfl, rfl, rfl, by simpa using VRs.ext x' _ _ rz⟩) (VRs.nil _)))
 rw [e] at this
 exact this
theorem bool_list {i : Nat} {x : Int} {xs : List V} (hg : σ.H.get i x = some (.list xs)) (hl : xs.length < 1000000) (q : Q (.bool (decide (xs ≠ []))) σ) : Ca c A σ (.typ "bool") [.ref i x] Q := fun ρ st f vs D e r => by
 have e : f = .type "bool" := e
 subst e
 obtain ⟨v, r', rfl, rv, e2⟩ := r
 have e2 : r' = [] := e2
 subst e2
 obtain ⟨rfl, _⟩ := rv
 obtain ⟨us, m, g, len, rs⟩ := D.list hg
 have e2 : (!us.isEmpty) = decide (xs ≠ []) := by
  unfold Array.isEmpty
  rw [len]
  cases xs <;> simp
 refine call_bool_1 (meets_bool_list (ρ i x) us (by rw [len]; lia)) ⟨⟨_, g, rfl, m, rfl⟩, ?_⟩
 rw [e2]
 obtain ⟨D', x'⟩ := den_toks D (st.toks + 1 + 1)
 exact ⟨rfl, ⟨.bool _, σ, ρ, D', rfl, x', q⟩⟩
theorem iter_list {l₀ : List (Option V)} {H₀ : AH} {i : Nat} {x : Int} {xs : List V} (hg : H₀.get i x = some (.list xs)) (q : Q (.ref H₀.length 0) ⟨l₀, H₀ ++ [.one (.iter i x 0)]⟩) : Ca c A ⟨l₀, H₀⟩ (.bi "iter") [.ref i x] Q := fun ρ st f vs D e r => by
 have e : f = .builtin "iter" := e
 subst e
 obtain ⟨v, r', rfl, rv, e2⟩ := r
 have e2 : r' = [] := e2
 subst e2
 obtain ⟨rfl, hd⟩ := rv
 obtain ⟨us, m, g, len, rs⟩ := D.list hg
 refine Calls.call_function_entry kind_iter plain_iter entry_iter (args_iter1 _) ?_
 show wpAny _ _ (pyIter (.ref (ρ i x)) >>= fun v => ret v) _ _ st
 refine wpAny_bind (wpAny_pyIter_list (items := us) ⟨_, g, rfl, m, rfl⟩ (wpAny_pure ⟨_, rfl, ?_⟩))
 obtain ⟨D₂, x₂⟩ := D.alloc (st' := { st with heap := st.heap.push { cls := .type "list_iterator", data := .fields #[.ref (ρ i x), .int 0 0] } }) (a := st.heap.objs.size) (o' := .iter i x 0) (get_size _)
  (fun b o hb => Heap.get?_push_of_some _ hb) rfl rfl ⟨by
   have hlt : i < H₀.length := AH.get_lt hd
   have e : ρapp ρ H₀.length st.heap.objs.size i x = ρ i x := if_neg (Nat.ne_of_lt hlt)
   show (st.heap.push _).get? st.heap.objs.size = some ⟨.type "list_iterator", none, .fields #[.ref (ρapp ρ H₀.length st.heap.objs.size i x), .int ((0 : Nat) : Int) 0], #[]⟩
   rw [e]
   exact Heap.get?_push_size _ rfl, (alloc_ext D (get_size _) (fun b o hb => Heap.get?_push_of_some _ hb)).dom i x hd⟩
 exact ⟨.ref H₀.length 0, _, _, D₂, ⟨by simp [wd, ρapp], by simp [wd, AH.get_app]⟩, x₂, q⟩
end
end
section
open PySem.SeqAt Builtin Builtin.ObjectAttr
theorem md_get : typeLookup (.type "method_descriptor") "__get__" = pure (some (.builtin "method_descriptor.__get__")) := by rw [typeLookup_type, builtinLookup_eq_fast]; kernel_rfl
theorem md_set : typeLookup (.type "method_descriptor") "__set__" = pure none := by rw [typeLookup_type, builtinLookup_eq_fast]; kernel_rfl
theorem md_del : typeLookup (.type "method_descriptor") "__delete__" = pure none := by rw [typeLookup_type, builtinLookup_eq_fast]; kernel_rfl
theorem wd_get : typeLookup (.type "wrapper_descriptor") "__get__" = pure (some (.builtin "wrapper_descriptor.__get__")) := by rw [typeLookup_type, builtinLookup_eq_fast]; kernel_rfl
theorem wd_set : typeLookup (.type "wrapper_descriptor") "__set__" = pure none := by rw [typeLookup_type, builtinLookup_eq_fast]; kernel_rfl
theorem wd_del : typeLookup (.type "wrapper_descriptor") "__delete__" = pure none := by rw [typeLookup_type, builtinLookup_eq_fast]; kernel_rfl
theorem entry_mdget : entryFor table "method_descriptor.__get__" = some Builtin.«method_descriptor.__get__» := entryFor_of_tree (by kernel_rfl)
theorem entry_wdget : entryFor table "wrapper_descriptor.__get__" = some Builtin.«wrapper_descriptor.__get__» := entryFor_of_tree (by kernel_rfl)
theorem slot_mdget : Slot "method_descriptor" "__get__" "method_descriptor.__get__" :=
 .of (owner := "method_descriptor") (n := "__get__") (by rw [typeLookup_type, builtinLookup_eq_fast]; kernel_rfl) (by decide +kernel) (by decide +kernel) (by decide +kernel)
  (by first | exact .inl (by decide +kernel) | exact .inr (by decide +kernel)) (by rw [isSubtype_type]; kernel_rfl)
theorem slot_wdget : Slot "wrapper_descriptor" "__get__" "wrapper_descriptor.__get__" :=
 .of (owner := "wrapper_descriptor") (n := "__get__") (by rw [typeLookup_type, builtinLookup_eq_fast]; kernel_rfl) (by decide +kernel) (by decide +kernel) (by decide +kernel)
  (by first | exact .inl (by decide +kernel) | exact .inr (by decide +kernel)) (by rw [isSubtype_type]; kernel_rfl)
theorem args_mdget (a b c : Value) : argsOk "method_descriptor.__get__" ⟨[a, b, c], []⟩ := by unfold argsOk; kernel_rfl
theorem args_wdget (a b c : Value) : argsOk "wrapper_descriptor.__get__" ⟨[a, b, c], []⟩ := by unfold argsOk; kernel_rfl
theorem ty_setc : typeOf (.builtin "set.__contains__") = pure (.type "method_descriptor") := by show builtinType _ = _; rw [builtinType_eq_fast]; kernel_rfl
theorem ty_lin : typeOf (.builtin "list_iterator.__next__") = pure (.type "wrapper_descriptor") := by show builtinType _ = _; rw [builtinType_eq_fast]; kernel_rfl
theorem slot_li_ga : Slot "list_iterator" "__getattribute__" "object.__getattribute__" :=
 .of (owner := "object") (n := "__getattribute__") (by rw [typeLookup_type, builtinLookup_eq_fast]; kernel_rfl) (by decide +kernel) (by decide +kernel) (by decide +kernel)
  (by first | exact .inl (by decide +kernel) | exact .inr (by decide +kernel)) (by rw [isSubtype_type]; kernel_rfl)
theorem args_li_ga (a b : Value) : argsOk "object.__getattribute__" ⟨[a, b], []⟩ := by unfold argsOk; kernel_rfl
theorem slot_li_next : Slot "list_iterator" "__next__" "list_iterator.__next__" :=
 .of (owner := "list_iterator") (n := "__next__") (by rw [typeLookup_type, builtinLookup_eq_fast]; kernel_rfl) (by decide +kernel) (by decide +kernel) (by decide +kernel)
  (by first | exact .inl (by decide +kernel) | exact .inr (by decide +kernel)) (by rw [isSubtype_type]; kernel_rfl)
theorem entry_dict_ga : entryFor table "dict.__getattribute__" = some Builtin.«object.__getattribute__» := entryFor_alias (id' := "object.__getattribute__") (by kernel_rfl) (by decide +kernel) (by decide +kernel) (by kernel_rfl)
theorem entry_set_ga : entryFor table "set.__getattribute__" = some Builtin.«object.__getattribute__» := entryFor_alias (id' := "object.__getattribute__") (by kernel_rfl) (by decide +kernel) (by decide +kernel) (by kernel_rfl)
theorem entry_li_ga : entryFor table "object.__getattribute__" = some Builtin.«object.__getattribute__» := entryFor_of_tree (by kernel_rfl)
theorem no_ga_dict : typeLookup (.type "dict") "__getattr__" = pure none := by rw [typeLookup_type, builtinLookup_eq_fast]; kernel_rfl
theorem no_ga_set : typeLookup (.type "set") "__getattr__" = pure none := by rw [typeLookup_type, builtinLookup_eq_fast]; kernel_rfl
theorem no_ga_li : typeLookup (.type "list_iterator") "__getattr__" = pure none := by rw [typeLookup_type, builtinLookup_eq_fast]; kernel_rfl
theorem meets_ga_dict (a : Addr) (es : Array DictEntry) (k : Nat) (sl : Array (Option Value)) (u : Tok) :
  Meets (Builtin.«object.__getattribute__» ⟨[.ref a, .str "get" u], []⟩) (fun _ R s => s.heap.get? a = some { cls := .type "dict", dict := none, data := .dict es k, slots := sl } ∧ R (.ok (.ret (.ref s.heap.objs.size))) { s with heap := s.heap.push { cls := .type "builtin_function_or_method", data := .fields #[.builtin "dict.get", .ref a] } }) :=
 Meets.of_wp fun prog w A R s hs => by
  obtain ⟨hp, g, d, tk, os⟩ := s
  obtain ⟨hx, hs⟩ := hs
  have hT : (⟨hp, g, d, tk, os⟩ : Shared).TypeIs (.ref a) "dict" := ⟨_, hx, rfl⟩
  have f1 := F.slot_dict_get.lookup
  have f2 := F.type_dict_get
  have f3 := md_get
  have f4 := md_set
  have f5 := md_del
  unfold Builtin.«object.__getattribute__»
  repeat (any_goals (first | assumption | wp_step))
  refine codeAny_call_builtin slot_mdget.plain entry_mdget (slot_mdget.check _ _ _ _ _ _ _ _ f2 (args_mdget _ _ _) ?_)
  repeat k_node
  exact ⟨_, rfl, hs⟩
theorem getAttr_dict {prog : Program} {w : World} {A : Around} {Q : Value → Shared → Prop} {E : Value → Shared → Prop} {s₀ : Shared} {a : Addr} {es : Array DictEntry} {k : Nat} {sl : Array (Option Value)} (hx : s₀.heap.get? a = some { cls := .type "dict", dict := none, data := .dict es k, slots := sl })
  (q : Q (.ref s₀.heap.objs.size) { s₀ with heap := s₀.heap.push { cls := .type "builtin_function_or_method", data := .fields #[.builtin "dict.get", .ref a] }, toks := s₀.toks + 1 }) : wpAny (model prog w) A (getAttr (.ref a) "get" true) Q E s₀ := by
 obtain ⟨hp, g, d, tk, os⟩ := s₀
 have hT : ∀ tk', (⟨hp, g, d, tk', os⟩ : Shared).TypeIs (.ref a) "dict" := fun _ => ⟨_, hx, rfl⟩
 have f3 := F.slot_dict_getattribute.lookup
 have f4 := F.slot_dict_getattribute.bind (.ref a)
 have f5 := no_ga_dict
 unfold getAttr getAttrBy
 repeat (any_goals (first | assumption | exact hT _ | ((with_reducible show wpAny _ _ (call (Value.builtin "dict.__getattribute__") _ _) _ _ _); refine call_meets F.slot_dict_getattribute (hT _) entry_dict_ga (F.args_dict_getattribute_2 _ _) (meets_ga_dict a es k sl _) ⟨hx, ?_⟩) | wp_step))
 show wpAny (model prog w) A (handedOut (.ref hp.objs.size)) Q E _
 exact wpAny_pure q
theorem meets_ga_set (a : Addr) (es : Array (Int × Value)) (k : Nat) (tb : SetTable) (sl : Array (Option Value)) (u : Tok) :
  Meets (Builtin.«object.__getattribute__» ⟨[.ref a, .str "__contains__" u], []⟩) (fun _ R s => s.heap.get? a = some { cls := .type "set", dict := none, data := .set es k tb, slots := sl } ∧ R (.ok (.ret (.ref s.heap.objs.size))) { s with heap := s.heap.push { cls := .type "builtin_function_or_method", data := .fields #[.builtin "set.__contains__", .ref a] } }) :=
 Meets.of_wp fun prog w A R s hs => by
  obtain ⟨hp, g, d, tk, os⟩ := s
  obtain ⟨hx, hs⟩ := hs
  have hT : (⟨hp, g, d, tk, os⟩ : Shared).TypeIs (.ref a) "set" := ⟨_, hx, rfl⟩
  have f1 := F.slot_set_contains.lookup
  have f2 := ty_setc
  have f3 := md_get
  have f4 := md_set
  have f5 := md_del
  unfold Builtin.«object.__getattribute__»
  repeat (any_goals (first | assumption | wp_step))
  refine codeAny_call_builtin slot_mdget.plain entry_mdget (slot_mdget.check _ _ _ _ _ _ _ _ f2 (args_mdget _ _ _) ?_)
  repeat k_node
  exact ⟨_, rfl, hs⟩
theorem getAttr_set {prog : Program} {w : World} {A : Around} {Q : Value → Shared → Prop} {E : Value → Shared → Prop} {s₀ : Shared} {a : Addr} {es : Array (Int × Value)} {k : Nat} {tb : SetTable} {sl : Array (Option Value)} (hx : s₀.heap.get? a = some { cls := .type "set", dict := none, data := .set es k tb, slots := sl })
  (q : Q (.ref s₀.heap.objs.size) { s₀ with heap := s₀.heap.push { cls := .type "builtin_function_or_method", data := .fields #[.builtin "set.__contains__", .ref a] }, toks := s₀.toks + 1 }) : wpAny (model prog w) A (getAttr (.ref a) "__contains__" true) Q E s₀ := by
 obtain ⟨hp, g, d, tk, os⟩ := s₀
 have hT : ∀ tk', (⟨hp, g, d, tk', os⟩ : Shared).TypeIs (.ref a) "set" := fun _ => ⟨_, hx, rfl⟩
 have f3 := F.slot_set_getattribute.lookup
 have f4 := F.slot_set_getattribute.bind (.ref a)
 have f5 := no_ga_set
 unfold getAttr getAttrBy
 repeat (any_goals (first | assumption | exact hT _ | ((with_reducible show wpAny _ _ (call (Value.builtin "set.__getattribute__") _ _) _ _ _); refine call_meets F.slot_set_getattribute (hT _) entry_set_ga (F.args_set_getattribute_2 _ _) (meets_ga_set a es k tb sl _) ⟨hx, ?_⟩) | wp_step))
 show wpAny (model prog w) A (handedOut (.ref hp.objs.size)) Q E _
 exact wpAny_pure q
theorem meets_ga_li (a : Addr) (us : Array Value) (sl : Array (Option Value)) (u : Tok) :
  Meets (Builtin.«object.__getattribute__» ⟨[.ref a, .str "__next__" u], []⟩) (fun _ R s => s.heap.get? a = some { cls := .type "list_iterator", dict := none, data := .fields us, slots := sl } ∧ R (.ok (.ret (.ref s.heap.objs.size))) { s with heap := s.heap.push { cls := .type "method-wrapper", data := .fields #[.builtin "list_iterator.__next__", .ref a] } }) :=
 Meets.of_wp fun prog w A R s hs => by
  obtain ⟨hp, g, d, tk, os⟩ := s
  obtain ⟨hx, hs⟩ := hs
  have hT : (⟨hp, g, d, tk, os⟩ : Shared).TypeIs (.ref a) "list_iterator" := ⟨_, hx, rfl⟩
  have f1 := slot_li_next.lookup
  have f2 := ty_lin
  have f3 := wd_get
  have f4 := wd_set
  have f5 := wd_del
  unfold Builtin.«object.__getattribute__»
  repeat (any_goals (first | assumption | wp_step))
  refine codeAny_call_builtin slot_wdget.plain entry_wdget (slot_wdget.check _ _ _ _ _ _ _ _ f2 (args_wdget _ _ _) ?_)
  repeat k_node
  exact ⟨_, rfl, hs⟩
theorem getAttr_li {prog : Program} {w : World} {A : Around} {Q : Value → Shared → Prop} {E : Value → Shared → Prop} {s₀ : Shared} {a : Addr} {us : Array Value} {sl : Array (Option Value)} (hx : s₀.heap.get? a = some { cls := .type "list_iterator", dict := none, data := .fields us, slots := sl })
  (q : Q (.ref s₀.heap.objs.size) { s₀ with heap := s₀.heap.push { cls := .type "method-wrapper", data := .fields #[.builtin "list_iterator.__next__", .ref a] }, toks := s₀.toks + 1 }) : wpAny (model prog w) A (getAttr (.ref a) "__next__" true) Q E s₀ := by
 obtain ⟨hp, g, d, tk, os⟩ := s₀
 have hT : ∀ tk', (⟨hp, g, d, tk', os⟩ : Shared).TypeIs (.ref a) "list_iterator" := fun _ => ⟨_, hx, rfl⟩
 have f3 := slot_li_ga.lookup
 have f4 := slot_li_ga.bind (.ref a)
 have f5 := no_ga_li
 unfold getAttr getAttrBy
 repeat (any_goals (first | assumption | exact hT _ | ((with_reducible show wpAny _ _ (call (Value.builtin "object.__getattribute__") _ _) _ _ _); refine call_meets slot_li_ga (hT _) entry_li_ga (args_li_ga _ _) (meets_ga_li a us sl _) ⟨hx, ?_⟩) | wp_step))
 show wpAny (model prog w) A (handedOut (.ref hp.objs.size)) Q E _
 exact wpAny_pure q
section
variable {c : Cx} {A : Around} {σ : St} {Q : V → St → Prop}
theorem attr_get {i : Nat} {x : Int} {es : List (Int × V)} {ep : Nat} (hg : σ.H.get i x = some (.dict es ep)) (q : Q (.bm "dict.get" (.ref i x)) σ) : Op1 c A σ (.ref i x) (fun v => getAttr v (s "get") true) Q := fun ρ st v D r => by
 have r0 := r
 obtain ⟨rfl, _⟩ := r
 obtain ⟨kvs, ⟨o, en, g, ⟨hc, hd, hs⟩, hdat, _⟩, rs⟩ := D.dict hg
 obtain ⟨oc, od, odat, osl⟩ := o
 simp only at hc hd hs hdat
 subst hc hd hs hdat
 refine getAttr_dict g ?_
 obtain ⟨D', x'⟩ := D.keeps (st' := { st with heap := st.heap.push { cls := .type "builtin_function_or_method", data := .fields #[.builtin "dict.get", .ref (ρ i x)] }, toks := st.toks + 1 }) (fun b o hb => Heap.get?_push_of_some _ hb) rfl rfl
 exact ⟨.bm "dict.get" (.ref i x), σ, ρ, D', ⟨_, _, _, rfl, Heap.get?_push_size _ rfl, .inl rfl, rfl, VR.ext x' _ _ r0⟩, x', q⟩
theorem attr_contains {i : Nat} {x : Int} {S : Int → Bool} {n : Nat} (hg : σ.H.get i x = some (.set S n)) (q : Q (.bm "set.__contains__" (.ref i x)) σ) : Op1 c A σ (.ref i x) (fun v => getAttr v (s "__contains__") true) Q := fun ρ st v D r => by
 have r0 := r
 obtain ⟨rfl, _⟩ := r
 obtain ⟨o, es, ep, tb, g, ⟨hc, hd, hs⟩, hdat, _⟩ := D.sett hg
 obtain ⟨oc, od, odat, osl⟩ := o
 simp only at hc hd hs hdat
 subst hc hd hs hdat
 refine getAttr_set g ?_
 obtain ⟨D', x'⟩ := D.keeps (st' := { st with heap := st.heap.push { cls := .type "builtin_function_or_method", data := .fields #[.builtin "set.__contains__", .ref (ρ i x)] }, toks := st.toks + 1 }) (fun b o hb => Heap.get?_push_of_some _ hb) rfl rfl
 exact ⟨.bm "set.__contains__" (.ref i x), σ, ρ, D', ⟨_, _, _, rfl, Heap.get?_push_size _ rfl, .inl rfl, rfl, VR.ext x' _ _ r0⟩, x', q⟩
end
end
section
open PySem.SeqAt
theorem plain_dget : plainId "dict.get" = true := by decide +kernel
theorem plain_setc : plainId "set.__contains__" = true := by decide +kernel
section
variable {prog : Program} {w : World} {A : Around} {s₀ : Shared} {R : Result → Shared → Prop}
theorem bound_call {b : Addr} {o : Obj} {id : String} {u : Value} {vs : List Value} {B : Builtin} (ho : s₀.heap.get? b = some o) (hc : o.cls = .type "builtin_function_or_method" ∨ o.cls = .type "method-wrapper") (hd : o.data = .fields #[.builtin id, u]) (he : entryFor table id = some B) (hp : plainId id = true) (hq : (Code.builtin id ⟨u :: vs, []⟩).quiet = true)
  (hk : wpAny (model prog w) A.in1 (checkBoundCall id ⟨u :: vs, []⟩) (fun _ s' => s' = s₀) (fun _ _ => False) s₀)
  (h : wpAny (model prog w) A.in1 (B ⟨u :: vs, []⟩) (fun fin s' => match fin with | .done f => R (.ok f) s' | .again c' => c'.quiet = true ∧ codeAny (model prog w) A c' R s') (fun e s' => R (.error e) s') s₀) :
  codeAny (model prog w) A (.call (.ref b) ⟨vs, []⟩) R s₀ := by
 refine codeAny_of_tree ?_
 show wpAny _ A.in1 (callAny (.ref b) ⟨vs, []⟩) _ _ s₀
 simp only [callAny]
 refine wpAny_bind (wpAny_load ho ?_)
 rw [hd]
 dsimp only
 have e1 : (o.cls == .type "method" || o.cls == .type "builtin_function_or_method" || o.cls == .type "method-wrapper") = true := by
  rcases hc with e | e <;> (rw [e]; decide)
 have e2 : (o.cls != .type "method") = true := by
  rcases hc with e | e <;> (rw [e]; decide)
 rw [if_pos e1]
 show wpAny _ _ (if (o.cls != .type "method") = true then _ else _) _ _ s₀
 rw [if_pos e2]
 refine wpAny_bind (wpAny_mono hk (fun _ s' e => ?_) fun _ _ x => x.elim)
 subst e
 refine wpAny_pure ⟨hq, codeAny_builtin he ?_⟩
 rw [Around.under_plainId hp _]
 exact h
end
theorem chk_dget {prog : Program} {w : World} {A : Around} {s₀ : Shared} {d : Addr} {od : Option Addr} {es : Array DictEntry} {ep : Nat} {osl : Array (Option Value)} {k dv : Value} (ho : s₀.heap.get? d = some ⟨.type "dict", od, .dict es ep, osl⟩) : wpAny (model prog w) A (checkBoundCall "dict.get" ⟨[.ref d, k, dv], []⟩) (fun _ s' => s' = s₀) (fun _ _ => False) s₀ := by
 obtain ⟨hp, g, dr, tk, os⟩ := s₀
 dsimp only at ho
 repeat k_node
theorem chk_setc {prog : Program} {w : World} {A : Around} {s₀ : Shared} {d : Addr} {od : Option Addr} {es : Array (Int × Value)} {ep : Nat} {tb : SetTable} {osl : Array (Option Value)} {k : Value} (ho : s₀.heap.get? d = some ⟨.type "set", od, .set es ep tb, osl⟩) : wpAny (model prog w) A (checkBoundCall "set.__contains__" ⟨[.ref d, k], []⟩) (fun _ s' => s' = s₀) (fun _ _ => False) s₀ := by
 obtain ⟨hp, g, dr, tk, os⟩ := s₀
 dsimp only at ho
 repeat k_node
section
variable {c : Cx} {A : Around} {σ : St} {Q : V → St → Prop}
theorem bm_get {i : Nat} {x k : Int} {es : List (Int × V)} {ep : Nat} {Y : V} (top : (K c.w.params).In c.h1) (hg : σ.H.get i x = some (.dict es ep)) (q : Q ((look es k).getD Y) σ) : Ca c A σ (.bm "dict.get" (.ref i x)) [.int k, Y] Q := fun ρ st f vs D rf r => by
 obtain ⟨b, o, u0, rfl, gb, hc, hdb, ⟨rfl, hd⟩⟩ := rf
 obtain ⟨u, r2, rfl, ⟨t, rfl⟩, y, r3, rfl, ry, e2⟩ := r
 have e2 : r3 = [] := e2
 subst e2
 obtain ⟨kvs, dk, rs⟩ := D.dict hg
 have dk0 := dk
 obtain ⟨od, en, g, ⟨hcd, hdd, hs⟩, hdat, _⟩ := dk
 obtain ⟨oc, odi, odat, osl⟩ := od
 simp only at hcd hdd hs hdat
 subst hcd hdd hs hdat
 refine wpAny_call (bound_call (R := fun r s' => match r with | .ok (.ret v) => Post c (wd c σ ρ st) Q v s' | .ok _ => False | .error e => noExc e s') gb hc hdb F.entry_dict_get plain_dget (Code.quiet_builtin _ (by decide +kernel)) (chk_dget g) ?_)
 refine meets_dict_get_default (intKind pw c.w) (k := k) (ρ i x) ikey (D.notSys top hd) y A (fun r s' => match r with | .ok (.ret v) => Post c (wd c σ ρ st) Q v s' | .ok _ => False | .error e => noExc e s') st ⟨_, dk0.dictOf.mapOf, ?_⟩
 obtain ⟨D', x'⟩ := den_toks D (st.toks + 1)
 obtain ⟨h1, h2⟩ := rs.find (k := k)
 cases hl : look es k with
 | none => rw [h1 hl]; rw [hl] at q; exact ⟨Y, σ, ρ, D', VR.ext x' _ _ ry, x', q⟩
 | some X => obtain ⟨w, hw, rw'⟩ := h2 X hl; rw [hw]; rw [hl] at q; exact ⟨X, σ, ρ, D', VR.ext x' _ _ rw', x', q⟩
theorem bm_contains {i : Nat} {x k : Int} {S : Int → Bool} {n : Nat} (hg : σ.H.get i x = some (.set S n)) (q : Q (.bool (S k)) σ) : Ca c A σ (.bm "set.__contains__" (.ref i x)) [.int k] Q := fun ρ st f vs D rf r => by
 obtain ⟨b, o, u0, rfl, gb, hc, hdb, ⟨rfl, hd⟩⟩ := rf
 obtain ⟨u, r2, rfl, ⟨t, rfl⟩, e2⟩ := r
 have e2 : r2 = [] := e2
 subst e2
 have hS := D.sett hg
 have hS0 := hS
 obtain ⟨os, es, ep, tb, g, ⟨hcd, hdd, hs⟩, hdat, _⟩ := hS
 obtain ⟨oc, odi, odat, osl⟩ := os
 simp only at hcd hdd hs hdat
 subst hcd hdd hs hdat
 refine wpAny_call (bound_call gb hc hdb entry_set_contains plain_setc (Code.quiet_builtin _ (by decide +kernel)) (chk_setc g) ?_)
 unfold Builtin.«frozenset.__contains__» Builtin.Frozenset.oneOther
 simp only [List.isEmpty_nil, bind_assoc]
 unfold Builtin.Frozenset.addrOf Builtin.Frozenset.withSetAsKey setContains
 refine wpAny_bind (wpAny_pure ?_)
 try dsimp only
 refine wpAny_bind (wpAny_pure ?_)
 try dsimp only
 refine wpAny_bind (wpAny_tryCatch ?_)
 refine wpAny_holding ?_
 refine wpAny_bind ((intKind pw c.w).pyHash (k := k) ikey ?_)
 refine wpAny_bind (wpAny_setFind_of (s := { st with toks := st.toks + 1 }) ikey rfl hS0 fun r hr => ?_)
 refine wpAny_pure ?_
 show wpAny _ _ (ret (Value.bool r.isSome)) _ _ _
 rw [hr]
 obtain ⟨D', x'⟩ := den_toks D (st.toks + 1)
 exact wpAny_pure ⟨.bool _, σ, ρ, D', rfl, x', q⟩
end
end
section
open PySem.SeqAt Builtin Builtin.ObjectAttr Builtin.Getset_descriptor
theorem mt_call (P : Params) : specialIn (K P) (.ref 135) "__call__" = some (some (.builtin "type.__call__")) := by kernel_rfl
theorem mt_typ (P : Params) : instIn (K P) (.ref 135) (.type "type") = some true := by kernel_rfl
theorem mt_made (w : World) : peek (K w.params) ⟨pw, w.params⟩ (Bind.madeBy (.ref 135)) = some none := by kernel_rfl
theorem mt_mro (w : World) : peek (K w.params) ⟨pw, w.params⟩ (mroOf (.ref 135)) = some [.ref 135, .type "tuple", .type "object"] := by kernel_rfl
theorem mt_reads (P : Params) : readsIn (K P) 135 (.type "type") = true := by kernel_rfl
theorem mt_new (P : Params) : findCls (K P) (.ref 135) (.type "type") "__new__" = some (.get (.builtin "staticmethod.__get__") (.ref 136) .none (.ref 135)) := by kernel_rfl
theorem mt_rec (P : Params) : recIn (K P) 136 "staticmethod" = some [.ref 82] := by kernel_rfl
theorem mt_init (P : Params) : findIn (K P) (.ref 135) "__init__" = some (some (.builtin "object.__init__")) := by kernel_rfl
theorem mt_self (P : Params) : mroIn (K P) 135 (.ref 135) = some true := by kernel_rfl
theorem mt_tup (P : Params) : mroIn (K P) 135 (.type "tuple") = some true := by kernel_rfl
theorem mt_make (P : Params) : findCls (K P) (.ref 135) (.type "type") "_make" = some (.get (.builtin "classmethod.__get__") (.ref 91) .none (.ref 135)) := by kernel_rfl
theorem mt_recm (P : Params) : recIn (K P) 91 "classmethod" = some [.ref 89, .bool false] := by kernel_rfl
theorem entry_tnew : entryFor table "tuple.__new__" = some Builtin.«tuple.__new__» := entryFor_of_tree (by kernel_rfl)
theorem plain_tnew : plainId "tuple.__new__" = true := by decide +kernel
theorem chk_tnew (w : World) (t : Value) : peek (K w.params) ⟨pw, w.params⟩ (checkBuiltinCall "tuple.__new__" ⟨[.ref 135, t], []⟩) = some () := by kernel_rfl
theorem tn1 (w : World) : peek (K w.params) ⟨pw, w.params⟩ (isType (.ref 135)) = some true := by kernel_rfl
theorem tn2 (w : World) : peek (K w.params) ⟨pw, w.params⟩ (isSubtype (.ref 135) (.type "tuple")) = some true := by kernel_rfl
theorem tn3 (w : World) : peek (K w.params) ⟨pw, w.params⟩ (Bind.madeHere "tuple.__new__" (.ref 135)) = some () := by kernel_rfl
theorem tn4 (w : World) : peek (K w.params) ⟨pw, w.params⟩ (typeLookup (.ref 135) "__init__") = some (some (.builtin "object.__init__")) := by kernel_rfl
theorem tn5 (w : World) : peek (K w.params) ⟨pw, w.params⟩ (classHasDel 135) = some false := by kernel_rfl
theorem tg1 (w : World) : peek (K w.params) ⟨pw, w.params⟩ (specialOf (.type "tuple") "__getattribute__") = some (some (.builtin "type.__getattribute__")) := by kernel_rfl
theorem tg2 (w : World) : peek (K w.params) ⟨pw, w.params⟩ (opaqueClassAbove (.type "tuple")) = some none := by kernel_rfl
theorem tg3 (w : World) : peek (K w.params) ⟨pw, w.params⟩ (typeOf (.type "tuple")) = some (.type "type") := by kernel_rfl
theorem tg4 (P : Params) : findIn (K P) (.type "type") "__getattribute__" = some (some (.builtin "type.__getattribute__")) := by kernel_rfl
theorem tg5 (w : World) : peek (K w.params) ⟨pw, w.params⟩ (hookBefore (.type "type")) = some none := by kernel_rfl
theorem tg6 (P : Params) : subIn (K P) (.type "type") (.type "type") = some true := by kernel_rfl
theorem tg7 (P : Params) : findCls (K P) (.type "tuple") (.type "type") "__new__" = some (.val (.builtin "tuple.__new__")) := by kernel_rfl
section
variable {c : Cx} {A : Around} {σ : St} {Q : V → St → Prop}
theorem tuple_new {xs : List V} (top : (K c.w.params).In c.h1) (hl : xs.length < 1000) (q : Q (.mat xs) σ) : Ca c A σ (.bi "tuple.__new__") [.obj 135, .tup xs] Q := fun ρ st f vs D rf r => by
 have e : f = .builtin "tuple.__new__" := rf
 subst e
 obtain ⟨v0, r1, rfl, rv0, v1, r2, rfl, rt, e2⟩ := r
 have e2 : r2 = [] := e2
 subst e2
 have rv0 : v0 = .ref 135 := rv0
 subst rv0
 obtain ⟨t, o, us, m, rfl, g, hc, hd, rs⟩ := rt
 have X0 := D.K top
 have len : us.size = xs.length := by have := VRs.length rs; simpa using this
 refine wpAny_call (codeAny_call_builtin_code (Code.quiet_builtin _ (by decide +kernel)) ((Looks.of_peek X0 (chk_tnew c.w _)).here ?_))
 refine codeAny_builtin entry_tnew ?_
 rw [Around.under_plainId plain_tnew _]
 unfold Builtin.«tuple.__new__»
 dsimp only
 have L1 := Looks.of_peek (M := MM c) X0 (tn1 c.w)
 have L2 := Looks.of_peek (M := MM c) X0 (tn2 c.w)
 have L3 := Looks.of_peek (M := MM c) X0 (tn3 c.w)
 have L4 := Looks.of_peek (M := MM c) X0 (tn4 c.w)
 refine wpAny_bind (L1.here ?_)
 simp only [Bool.not_true, Bool.false_eq_true, if_false]
 refine wpAny_bind (L2.here ?_)
 simp only [Bool.not_true, Bool.false_eq_true, if_false]
 refine wpAny_bind (L3.here ?_)
 refine wpAny_bind (L4.here ?_)
 rw [if_pos (by decide +kernel)]
 refine wpAny_bind (wpAny_of_eq (rfl : noKeywords "tuple" { pos := [Value.ref 135, Value.ref t] } = pure ()) ?_)
 refine wpAny_bind (wpAny_of_eq (rfl : checkCount "tuple" 0 1 [Value.ref t].length = pure ()) ?_)
 rw [if_neg (by exact Bool.false_ne_true)]
 refine wpAny_bind (wpAny_collect_seq t (.inr rfl) g hc hd (fun h' kk => ?_) (by rw [len]; exact Nat.le_trans (Nat.le_of_lt hl) (by decide)))
 refine wpAny_bind (wpAny_pure (wpAny_bind (wpAny_alloc (wpAny_bind ?_))))
 unfold newObj
 have hz : ¬ (us.toList.toArray.size > sizeLine) := by simp; rw [len]; exact Nat.le_trans (Nat.le_of_lt hl) (by decide)
 simp only [hz, if_false]
 unfold newObjAsIs
 refine wpAny_bind (wpAny_alloc ?_)
 let hB := (h'.push { cls := .type "dict", data := .dict #[] }).push { cls := .ref 135, dict := some h'.objs.size, data := .seq us.toList.toArray }
 have kB : ∀ b o, st.heap.get? b = some o → hB.get? b = some o := fun b o hb => Heap.get?_push_of_some _ (Heap.get?_push_of_some _ (kk b o hb))
 have XB : (K c.w.params).In hB := X0.keeps kB
 refine wpAny_bind ((Looks.of_peek (M := MM c) XB (tn5 c.w)).here (s := { st with heap := hB }) ?_)
 refine wpAny_pure (wpAny_pure ?_)
 obtain ⟨D', x'⟩ := D.keeps (st' := { st with heap := hB }) kB rfl rfl
 exact ⟨.mat xs, σ, ρ, D', ⟨_, _, us.toList.toArray, 0, rfl, Heap.get?_push_size _ rfl, rfl, rfl, by simpa using VRs.ext x' _ _ rs⟩, x', q⟩
theorem getM_tnew {Q : V → List V → St → Prop} (top : (K c.w.params).In c.h1) (q : Q (.bi "tuple.__new__") [] σ) : GetM c A σ (.typ "tuple") (s "__new__") Q := fun ρ st v pl D e => by
 have e : v = .type "tuple" := e
 subst e
 have X0 := D.K top
 unfold getMethod
 refine wpAny_bind ((Looks.of_peek (M := MM c) X0 (tg1 c.w)).here ?_)
 dsimp only
 rw [if_pos canon_tga]
 refine wpAny_bind ?_
 refine cls_open X0 (Looks.of_peek X0 (tg2 c.w)) (Looks.of_peek X0 (tg3 c.w)) (tg4 c.w.params) (Looks.of_peek X0 (tg5 c.w)) (tg6 c.w.params) (tg7 c.w.params) ?_
 refine wpAny_pure ?_
 show wpAny _ _ (handedOut (.builtin "tuple.__new__")) _ _ _
 rw [handedOut_of (by decide +kernel)]
 refine wpAny_pure (wpAny_pure ?_)
 obtain ⟨D', x'⟩ := den_toks D (st.toks + 1)
 exact ⟨.bi "tuple.__new__", [], σ, ρ, D', rfl, rfl, x', q⟩
end
end
section
noncomputable def below (xs : List Int) (k : Int) : Nat := (xs.filter (fun a => decide (a < k))).length
theorem below_eq {xs : List Int} {k : Int} {n : Nat} (hn : n ≤ xs.length) (h1 : ∀ j (h : j < xs.length), j < n → xs[j] < k) (h2 : ∀ j (h : j < xs.length), n ≤ j → k ≤ xs[j]) : below xs k = n := by
 have e : xs = xs.take n ++ xs.drop n := (List.take_append_drop n xs).symm
 unfold below
 rw [e, List.filter_append]
 have e1 : (xs.take n).filter (fun a => decide (a < k)) = xs.take n := by
  rw [List.filter_eq_self]
  intro a ha
  obtain ⟨j, hj, rfl⟩ := List.getElem_of_mem ha
  have hj' : j < n ∧ j < xs.length := by simp at hj; lia
  rw [List.getElem_take]
  simpa using h1 j hj'.2 hj'.1
 have e2 : (xs.drop n).filter (fun a => decide (a < k)) = [] := by
  rw [List.filter_eq_nil_iff]
  intro a ha
  obtain ⟨j, hj, rfl⟩ := List.getElem_of_mem ha
  have hj' : j < xs.length - n := by simpa using hj
  rw [List.getElem_drop]
  have := h2 (n + j) (by lia) (by grind)
  simpa using this
 rw [e1, e2]
 simp
 grind
inductive BisI (i : Nat) (x k : Int) (xs : List Int) (H : AH) : Nat → St → Prop
 | mk (lo hi : Nat) (m : Option V) (h1 : lo ≤ hi) (h2 : hi ≤ xs.length) (h3 : ∀ j (h : j < xs.length), j < lo → xs[j] < k) (h4 : ∀ j (h : j < xs.length), hi ≤ j → k ≤ xs[j]) : BisI i x k xs H (hi - lo) ⟨[some (.ref i x), some (.int k), some (.int lo), some (.int hi), some .none, m], H⟩
theorem bis_vc {c : Cx} {A : Around} {i : Nat} {x k : Int} {xs : List Int} {H : AH} {K : Kt} (hg : H.get i x = some (.list (xs.map V.int))) (hl : xs.length < 100000) (hs : xs.Pairwise (· < ·))
  (q : ∀ loc, K.ret (.int (below xs k)) ⟨loc, H⟩) :
  vcSs A t_bisect c ⟨[some (.ref i x), some (.int k), some (.int 0), some .none, some .none, none], H⟩ K := by
 have mono : ∀ a b (ha : a < xs.length) (hb : b < xs.length), a ≤ b → xs[a] ≤ xs[b] := fun a b ha hb h => by
  rcases Nat.lt_or_ge a b with h' | h'
  ·exact Int.le_of_lt (List.pairwise_iff_getElem.mp hs a b ha hb h')
  ·have : a = b := by lia
   subst this; exact Int.le_refl _
 refine sel_f (by decide) ?_
 refine len_list (xs := xs.map V.int) hg (by rw [List.length_map]; lia) ?_
 rw [List.length_map]
 refine .mk (BisI i x k xs H) (xs.length - 0) (.mk 0 xs.length none (Nat.zero_le _) (Nat.le_refl _) (fun j h h' => nomatch h') (fun j h h' => absurd h (Nat.not_lt.mpr h'))) fun n σ I => ?_
 cases I with
 | mk lo hi m h1 h2 h3 h4 =>
 refine sel_d (fun h => ?_) (fun h => ?_)
 ·have h := Int.ofNat_lt.mp h
  refine div_ii (by decide) (PyProof.noPylong_small (by grind)) ?_
  have ef : (((lo : Int) + (hi : Int)).fdiv 2) = (((lo + hi) / 2 : Nat) : Int) := by
   rw [Int.fdiv_eq_ediv_of_nonneg _ (by decide)]; rfl
  rw [ef]
  have hm : (lo + hi) / 2 < hi := by grind
  have hm0 : lo ≤ (lo + hi) / 2 := by grind
  generalize (lo + hi) / 2 = md at hm hm0
  have hml := Nat.lt_of_lt_of_le hm h2
  refine item_list (xs := xs.map V.int) (Y := .int xs[md]) hg (Int.natCast_nonneg _) (by lia) (by rw [Int.toNat_natCast, List.getElem?_map, List.getElem?_eq_getElem hml]; rfl) ?_
  refine sel_d (fun hc => ?_) (fun hc => ?_)
  ·exact ⟨hi - (md + 1), by grind, .mk (md + 1) hi _ hm h2 (fun j hj hj' => Int.lt_of_le_of_lt (mono j md hj hml (Nat.le_of_lt_succ hj')) hc) h4⟩
  ·exact ⟨md - lo, by grind, .mk lo md _ hm0 (Nat.le_of_lt hml) h3 fun j hj hj' => Int.le_trans (Int.not_lt.mp hc) (mono md j hml hj hj')⟩
 ·have h := Nat.not_lt.mp fun q => h (Int.ofNat_lt.mpr q)
  have e : below xs k = lo := below_eq (Nat.le_trans h1 h2) h3 (fun j hj hj' => h4 j hj (Nat.le_trans h hj'))
  rw [e] at q
  exact q _
theorem call_bisect {c : Cx} {A : Around} {σ : St} {Q : V → St → Prop} {i : Nat} {x k : Int} {xs : List Int} (G : Good c) (rm : Room 1 A) (hg : σ.H.get i x = some (.list (xs.map V.int))) (hl : xs.length < 100000) (hs : xs.Pairwise (· < ·)) (q : Q (.int (below xs k)) σ) :
  Ca c A σ (.obj 264) [.ref i x, .int k] Q := by
 refine (call_code (Ys := [.ref i x, .int k, .int 0, .none, .none]) G rm (ok_bisect _) (bd2 G.top fun W v0 v1 r0 r1 => ?_) (by simp [n_bisect, n_insort]) fun c' F' G' hw L => ?_).ca
 ·exact ⟨[v0, v1, .int 0 599, .none, .none], fun S => by kernel_rfl, VRs.cons r0 (VRs.cons r1 (VRs.cons ⟨_, rfl⟩ (VRs.cons rfl (VRs.cons rfl (VRs.nil _)))))⟩
 ·exact bis_vc hg hl hs fun loc => q
theorem call_bisect4 {c : Cx} {A : Around} {σ : St} {Q : V → St → Prop} {i : Nat} {x k : Int} {xs : List Int} (G : Good c) (rm : Room 1 A) (hg : σ.H.get i x = some (.list (xs.map V.int))) (hl : xs.length < 100000) (hs : xs.Pairwise (· < ·)) (q : Q (.int (below xs k)) σ) :
  Ca c A σ (.obj 264) [.ref i x, .int k, .int 0, .none] Q := by
 refine (call_code (Ys := [.ref i x, .int k, .int 0, .none, .none]) G rm (ok_bisect _) (bd4 G.top fun W v0 v1 v2 v3 r0 r1 r2 r3 => ?_) (by simp [n_bisect, n_insort]) fun c' F' G' hw L => ?_).ca
 ·exact ⟨[v0, v1, v2, v3, .none], fun S => by kernel_rfl, VRs.cons r0 (VRs.cons r1 (VRs.cons r2 (VRs.cons r3 (VRs.cons rfl (VRs.nil _)))))⟩
 ·exact bis_vc hg hl hs fun loc => q
theorem keep_fn {c : Cx} {f : Addr} (G : Good c) (h : ∀ P, keepIn (K P) (.ref f) = true) : KeepV c (.obj f) := keep_obj G.top (h _)
theorem kp264 (P : Params) : keepIn (K P) (.ref 264) = true := by kernel_rfl
theorem kp255 (P : Params) : keepIn (K P) (.ref 255) = true := by kernel_rfl
theorem below_le (xs : List Int) (k : Int) : below xs k ≤ xs.length := List.length_filter_le ..
theorem call_insort {l₀ : List (Option V)} {H₀ : AH} {c : Cx} {A : Around} {Q : V → St → Prop} {i : Nat} {x k : Int} {xs : List Int} (G : Good c) (rm : Room 2 A) (hg : H₀.get i x = some (.list (xs.map V.int))) (hl : xs.length < 100000) (hs : xs.Pairwise (· < ·))
  (q : Q .none ⟨l₀, H₀.put i x (.list ((xs.take (below xs k) ++ k :: xs.drop (below xs k)).map V.int))⟩) : Ca c A ⟨l₀, H₀⟩ (.obj 255) [.ref i x, .int k] Q := by
 refine (call_code (Ys := [.ref i x, .int k, .int 0, .none, .none]) G (rm.less (by decide)) (ok_insort _) (bd2 G.top fun W v0 v1 r0 r1 => ?_) (by simp [n_bisect, n_insort]) fun c' F' G' hw L => ?_).ca
 ·exact ⟨[v0, v1, .int 0 585, .none, .none], fun S => by kernel_rfl, VRs.cons r0 (VRs.cons r1 (VRs.cons ⟨_, rfl⟩ (VRs.cons rfl (VRs.cons rfl (VRs.nil _)))))⟩
 ·show vcSs _ t_insort c' ⟨[some (.ref i x), some (.int k), some (.int 0), some .none, some .none], H₀⟩ _
  have rm' : Room 1 (A.deeper (callEnvC (fd_insort c.w.params) L 255)) := rm.deeper
  generalize A.deeper (callEnvC (fd_insort c.w.params) L 255) = A' at rm' ⊢
  refine ⟨keep_fn G' kp264, call_bisect4 G' rm' hg hl hs ?_⟩
  refine getM_list hg F.slot_list_insert F.type_list_insert ?_
  refine insert_list hg (by rw [List.length_map]; grind) (Int.natCast_nonneg _) (by rw [List.length_map]; exact Int.ofNat_le.mpr (below_le xs k)) ?_
  have e : (xs.map V.int).take (below xs k) ++ V.int k :: (xs.map V.int).drop (below xs k) = (xs.take (below xs k) ++ k :: xs.drop (below xs k)).map V.int := by rw [List.map_append, List.map_cons, List.map_take, List.map_drop]
  rw [Int.toNat_natCast, e]
  exact q
end
section
open PySem.SeqAt Builtin Builtin.ObjectAttr Builtin.Getset_descriptor
theorem mt_obj (P : Params) : mroIn (K P) 135 (.type "object") = some true := by kernel_rfl
theorem args_oi4 (a b d e : Value) : argsOk "object.__init__" ⟨[a, b, d, e], []⟩ := by unfold argsOk; kernel_rfl
section
variable {c : Cx} {A : Around} {σ : St} {Q : V → St → Prop}
theorem cd_new {X Y Z : V} (G : Good c) (rm : Room 1 A) (q : Q (.mat [X, Y, Z]) σ) : Cd c A σ 82 [.obj 135, X, Y, Z] Q := by
 refine call_code (Ys := [.obj 135, X, Y, Z]) G rm (ok_new _) (bd4 G.top fun W v0 v1 v2 v3 r0 r1 r2 r3 => ?_) (by simp [n_new]) fun c' F' G' hw L => ?_
 ·exact ⟨[v0, v1, v2, v3], fun S => by kernel_rfl, VRs.cons r0 (VRs.cons r1 (VRs.cons r2 (VRs.cons r3 (VRs.nil _))))⟩
 ·show vcSs _ t_new c' ⟨[some (.obj 135), some X, some Y, some Z], σ.H⟩ _
  refine getM_tnew G'.top ?_
  refine tuple_new G'.top (by simp) ?_
  exact q
theorem mk_match {X Y Z : V} (G : Good c) (rm : Room 2 A) (q : Q (.mat [X, Y, Z]) σ) : Ca c A σ (.obj 135) [X, Y, Z] Q := by
 refine Cd.ca fun ρ st vs D rs => ?_
 have X0 := D.K G.top
 have hq := cd_new (Q := fun V' σ' => V' = .mat [X, Y, Z] ∧ Q V' σ') (c := c) (X := X) (Y := Y) (Z := Z) (σ := σ) (A := (A.under (.builtin "type.__call__" ⟨.ref 135 :: vs, []⟩))) G (rm.make (n := 1)) ⟨rfl, q⟩
 obtain ⟨v1, _, rfl, r1, v2, _, rfl, r2, v3, _, rfl, r3, e⟩ := rs
 cases e
 have hq := fun tk => hq ρ { st with toks := tk } [.ref 135, v1, v2, v3] (den_toks D tk).1 (VRs.cons rfl (VRs.cons (VR.ext (den_toks D tk).2 _ _ r1) (VRs.cons (VR.ext (den_toks D tk).2 _ _ r2) (VRs.cons (VR.ext (den_toks D tk).2 _ _ r3) (VRs.nil _)))))
 have xt := fun tk => (den_toks D tk).2
 have call := looks_specialIn (M := MM c) X0 (mt_call c.w.params)
 have typ := looks_instIn (M := MM c) X0 (mt_typ c.w.params)
 have hC : st.heap.get? 135 = some (o135 c.w.params) := X0 135 _ rfl
 obtain ⟨hh, g, dr, t, os⟩ := st
 refine codeAny_of_tree ?_
 show wpAny _ _ (callAny (.ref 135) _) _ _ _
 refine nd_load hC ?_
 show wpAny _ _ (callAny.viaDunder (.ref 135) _) _ _ _
 unfold callAny.viaDunder
 refine wpAny_bind (call.at ?_)
 dsimp only
 rw [tc_bind]
 refine wpAny_bind (wpAny_pure (wpAny_bind (wpAny_pure ?_)))
 refine wpAny_pure (a := Fin.again (.call (.builtin "type.__call__") ⟨.ref 135 :: [v1, v2, v3], []⟩)) (And.intro rfl ?_)
 refine codeAny_call_builtin_at (Code.quiet_builtin _ (by decide +kernel)) entry_typeCall (check_slot tc_kind tc_split typ (tc_args _ _ _) ?_)
 unfold Builtin.«type.__call__»
 have L1 := Looks.of_peek (M := MM c) X0 (mt_mro c.w)
 have L2 := Looks.of_peek (M := MM c) X0 (mt_made c.w)
 repeat (first | with_reducible refine Looks.at (by assumption) ?_ | with_reducible refine wpAny_bind ?_ | with_reducible refine nd_bind ?_ | with_reducible refine wpAny_holding ?_ | ((fail_if_success (with_reducible show wpAny _ _ (getAttr _ _ _) _ _ _)); k_node))
 refine cls_bind X0 (mt_reads c.w.params) (mt_new c.w.params) (wpAny_call (sm_get (s := ⟨hh, g, dr, t + 1, os⟩) X0 (mt_rec c.w.params) ?_))
 show wpAny _ _ (handedOut (.ref 82)) _ _ _
 refine wpAny_pure ?_
 repeat (first | with_reducible refine wpAny_bind ?_ | with_reducible refine nd_bind ?_ | with_reducible refine wpAny_holding ?_ | with_reducible refine wpAny_pure ?_)
 refine wpAny_call (codeAny_mono (hq (t + 1)) fun r s' z => ?_)
 cases r with
 | error e => exact z.elim
 | ok fl => cases fl with
  | next => exact z.elim
  | brk => exact z.elim
  | cont => exact z.elim
  | ret v =>
   obtain ⟨V', σ', ρ', D', rv, x', rfl, q'⟩ := z
   have X1 := D'.K G.top
   have rv0 := rv
   obtain ⟨m, om, us, mn, rfl, gm, hcm, hdm, _⟩ := rv
   have L3 : Looks (MM c) s'.heap (typeOf (.ref m)) (.ref 135) := hcm ▸ (Looks.ld gm).andThen .now
   have L4 := looks_mroIn (M := MM c) X1 (mt_self c.w.params)
   have L5 := looks_findIn (M := MM c) X1 (mt_init c.w.params)
   have L6 := looks_mroIn (M := MM c) X1 (mt_obj c.w.params)
   have L7 := Looks.of_peek (M := MM c) X1 (mt_made c.w)
   have fin := fun tk => (⟨_, σ', ρ', (den_toks D' tk).1, VR.ext (den_toks D' tk).2 _ _ rv0, (xt (t + 1)).trans (x'.trans (den_toks D' tk).2), q'⟩ : Post c (wd c σ ρ { heap := hh, gens := g, drawn := dr, toks := t, os := os }) Q (.ref m) { s' with toks := tk })
   have fin0 := fin s'.toks
   obtain ⟨hh2, g2, dr2, t2, os2⟩ := s'
   show wpAny _ _ (isInstance (.ref m) (.ref 135) >>= _) _ _ _
   unfold isInstance callSpecial? specialOf
   repeat (first | with_reducible refine Looks.at (by assumption) ?_ | with_reducible refine wpAny_bind ?_ | with_reducible refine nd_bind ?_ | with_reducible refine wpAny_holding ?_ | ((fail_if_success (with_reducible show wpAny _ _ (bindSpecial _ _) _ _ _)); k_node))
   rw [oi_bind]
   refine wpAny_pure ?_
   have t2 : Looks (MM c) hh2 (isInstance (.ref m) (.type "object")) true := L3.andThen L6
   refine wpAny_bind (wpAny_call (codeAny_call_builtin oi_plain entry_oi (@check_slot (MM c) _ _ _ "object.__init__" "object" "__init__" (.ref m) [v1, v2, v3] [] _ oi_kind oi_split t2 (args_oi4 _ _ _ _) ?_)))
   unfold Builtin.«object.__init__»
   repeat (first | with_reducible refine Looks.at (by assumption) ?_ | with_reducible refine wpAny_bind ?_ | with_reducible refine nd_bind ?_ | with_reducible refine wpAny_holding ?_ | k_node)
   exact fin0
end
end
section
open PySem.SeqAt
noncomputable def IsSeqAt (h : Heap) (t : Addr) (items : Array Value) : Prop := ∃ o, h.get? t = some o ∧ ∃ n, o.data = .seq items n
theorem mt_iter (P : Params) : findIn (K P) (.ref 135) "__iter__" = some (some (.builtin "tuple.__iter__")) := by kernel_rfl
theorem mt_len (P : Params) : findIn (K P) (.ref 135) "__len__" = some (some (.builtin "tuple.__len__")) := by kernel_rfl
section
variable {prog : Program} {w : World} {A : Around} {E : Value → Shared → Prop} {s : Shared}
theorem next_item {it t : Addr} {i : Nat} {items : Array Value} {x : Value} {Q : Option Value → Shared → Prop} (hit : s.heap.IsTupleIter it t i)
  (ht : IsSeqAt s.heap t items) (hx : items[i]? = some x)
  (hQ : ∀ h', h'.IsTupleIter it t (i + 1) → Heap.SameBut it s.heap h' → Q (some x) { s with heap := h' }) :
  wpAny (model prog w) A (pyNext (.ref it)) Q E s := by
 obtain ⟨o, ho, hc, hd⟩ := id hit
 obtain ⟨ol, hol, nl, hdl⟩ := ht
 unfold pyNext
 refine wpAny_bind (wpAny_attempt (wpAny_callSpecial?_slot (name := Str.ofString "__next__") hit.typeIs F.slot_tuple_iterator_next
  (wpAny_call_entry F.slot_tuple_iterator_next hit.typeIs F.entry_tuple_iterator_next ?_ (F.args_tuple_iterator_next_1 _))))
 show wpAny _ _ (field (.ref it) 0 >>= _) _ _ s
 refine wpAny_bind (wpAny_field ho hd (x := .ref t) rfl ?_)
 show wpAny _ _ (if (Value.ref t == Value.none) = true then _ else _) _ _ s
 rw [if_neg (show ¬ ((Value.ref t == Value.none) = true) from Bool.false_ne_true)]
 show wpAny _ _ (field (.ref it) 1 >>= _) _ _ s
 refine wpAny_bind (wpAny_field ho hd (x := .int i 0) rfl ?_)
 show wpAny _ _ (seqItems? (.ref t) >>= _) _ _ s
 refine wpAny_bind (wpAny_seqItems hol hdl ?_)
 simp only [Int.toNat_natCast, hx]
 refine wpAny_bind (wpAny_setField ho hd (by simp) (wpAny_pure ⟨x, rfl, wpAny_pure (hQ _ ?_ (Heap.SameBut.update ..))⟩))
 exact ⟨_, Heap.get?_update_self _ ho (Obj.isFreed_of_fields (Obj.data_mapFields hd _)), (Obj.cls_mapFields ..).trans hc, by
  rw [Obj.data_mapFields hd]; simp [rawInt]⟩
theorem next_end {it t : Addr} {i : Nat} {items : Array Value} {Q : Option Value → Shared → Prop} (hh : A.handled = none)
  (hit : s.heap.IsTupleIter it t i) (ht : IsSeqAt s.heap t items) (hx : items[i]? = none)
  (hQ : ∀ h', Heap.ExtBut it s.heap h' → Q none { s with heap := h' }) : wpAny (model prog w) A (pyNext (.ref it)) Q E s := by
 obtain ⟨o, ho, hc, hd⟩ := id hit
 obtain ⟨ol, hol, nl, hdl⟩ := ht
 unfold pyNext
 refine wpAny_bind (wpAny_attempt (wpAny_callSpecial?_slot (name := Str.ofString "__next__") hit.typeIs F.slot_tuple_iterator_next
  (wpAny_call_entry F.slot_tuple_iterator_next hit.typeIs F.entry_tuple_iterator_next ?_ (F.args_tuple_iterator_next_1 _))))
 show wpAny _ _ (field (.ref it) 0 >>= _) _ _ s
 refine wpAny_bind (wpAny_field ho hd (x := .ref t) rfl ?_)
 show wpAny _ _ (if (Value.ref t == Value.none) = true then _ else _) _ _ s
 rw [if_neg (show ¬ ((Value.ref t == Value.none) = true) from Bool.false_ne_true)]
 show wpAny _ _ (field (.ref it) 1 >>= _) _ _ s
 refine wpAny_bind (wpAny_field ho hd (x := .int i 0) rfl ?_)
 show wpAny _ _ (seqItems? (.ref t) >>= _) _ _ s
 refine wpAny_bind (wpAny_seqItems hol hdl ?_)
 simp only [Int.toNat_natCast, hx]
 refine wpAny_bind (wpAny_rule (wpAny_bind (wpAny_setField ho hd (by simp) ?_)))
 show wpAny _ _ (newExc (.type "StopIteration") [] >>= _) _ _ _
 refine wpAny_bind ?_
 simp only [newExc, newTuple]
 refine wpAny_bind (wpAny_newObj_type ?_ (by size_fits))
 refine wpAny_bind (m := firstArgMember _ _) (wpAny_of_eq (a := Value.none) (by first | rfl | (simp only [firstArgMember]; rfl)) ?_)
 refine wpAny_newObj_type ?_ (by size_fits)
 simp only [raiseNew]
 refine wpAny_bind (wpAny_handled ?_)
 first | rw [show A.in1.handled = none from hh] | rw [hh]
 refine wpAny_bind (wpAny_pure (wpAny_throw ?_))
 refine wpAny_bind (wpAny_isInstance (T := "StopIteration") (b := true) ⟨_, Heap.get?_push_size _ rfl, rfl⟩ isSubtype_stop ?_)
 exact wpAny_pure (hQ _ (((Heap.SameBut.update ..).extBut.push _).push _))
theorem IsSeqAt.extBut {h h' : Heap} {t b : Addr} {items : Array Value} (x : IsSeqAt h t items) (k : Heap.ExtBut b h h') (hne : t ≠ b) : IsSeqAt h' t items := let ⟨o, ho, r⟩ := x; ⟨o, k t o hne ho, r⟩
theorem draw_seq {it t : Addr} {items : Array Value} (hne : t ≠ it) : ∀ (n i : Nat) (s : Shared) (Q : List Value → Shared → Prop), s.heap.IsTupleIter it t i → IsSeqAt s.heap t items → i + n ≤ items.size →
  (∀ h', h'.IsTupleIter it t (i + n) → Heap.SameBut it s.heap h' → Q ((items.toList.drop i).take n) { s with heap := h' }) → wpAny (model prog w) A (draw (.ref it) n) Q E s
 | 0, i, s, Q, hit, _, _, hQ => by
  show wpAny _ _ (pure []) Q E s
  exact wpAny_pure (by simpa using hQ s.heap hit (Heap.SameBut.refl ..))
 | n + 1, i, s, Q, hit, ht, hle, hQ => by
  have hlt : i < items.size := by grind
  show wpAny _ _ (pyNext (.ref it) >>= _) Q E s
  refine wpAny_bind (next_item hit ht (x := items[i]) (by simp [hlt]) fun h₁ hit₁ hs₁ => ?_)
  refine wpAny_bind (wpAny_holding (draw_seq hne n (i + 1) _ _ hit₁ (ht.extBut hs₁.extBut hne) (by lia) fun h₂ hit₂ hs₂ => wpAny_pure ?_))
  have hd : items.toList.drop i = items[i] :: items.toList.drop (i + 1) := by simp [List.drop_eq_getElem_cons, hlt]
  have := hQ h₂ (by rw [show i + (n + 1) = i + 1 + n by grind]; exact hit₂) (hs₁.trans hs₂)
  rw [hd, List.take_succ_cons] at this
  exact this
end
section
variable {c : Cx} {A : Around} {σ : St} {Q : V → St → Prop}
theorem iter_mat {st : Shared} {t : Addr} {o : Obj} {R : Value → Shared → Prop} (X0 : (K c.w.params).In st.heap) (g : st.heap.get? t = some o) (hc : o.cls = .ref 135)
  (hQ : R (.ref st.heap.objs.size) { st with heap := st.heap.push { cls := .type "tuple_iterator", data := .fields #[.ref t, .int 0 0] } }) : wpAny (MM c) A (pyIter (.ref t)) R noExc st := by
 have L3 : Looks (MM c) st.heap (typeOf (.ref t)) (.ref 135) := hc ▸ (Looks.ld g).andThen .now
 have L5 := looks_findIn (M := MM c) X0 (mt_iter c.w.params)
 have sp : Looks (MM c) st.heap (specialOf (.ref t) "__iter__") (some (.builtin "tuple.__iter__")) := L3.andThen L5
 have L6 := looks_mroIn (M := MM c) X0 (mt_tup c.w.params)
 have t2 : Looks (MM c) st.heap (isInstance (.ref t) (.type "tuple")) true := L3.andThen L6
 have body : wpAny (MM c) A (call (.builtin "tuple.__iter__") [.ref t]) (fun it s' => ∃ T' r, s'.TypeIs it T' ∧ typeLookup (.type T') "__next__" = pure (some r) ∧ R it s') noExc st := by
  refine wpAny_call (codeAny_call_builtin F.slot_tuple_iter.plain F.entry_tuple_iter (@check_slot (MM c) _ _ _ "tuple.__iter__" "tuple" "__iter__" (.ref t) [] [] _ (by decide +kernel) (by decide +kernel) t2 (F.args_tuple_iter_1 _) ?_))
  show wpAny _ _ (do ret (← newFields "tuple_iterator" [.ref t, rawInt 0])) _ _ st
  exact wpAny_bind (wpAny_newObj_type (wpAny_pure ⟨"tuple_iterator", _, ⟨_, Heap.get?_push_size _ rfl, rfl⟩, F.slot_tuple_iterator_next.lookup, hQ⟩))
 unfold pyIter
 refine wpAny_bind (sp.here ?_)
 show wpAny (MM c) A (callSpecialIfBoundUnlessNone? (.ref t) "__iter__" _ >>= _) R noExc st
 have tail : wpAny (MM c) A (call (.builtin "tuple.__iter__") [.ref t]) (fun v s' => wpAny (MM c) A (do match ← specialOf v "__next__" with | none => (do rule "iter.non-iterator"; raiseError "TypeError" s!"iter() returned non-iterator of type '{← typeNameOf v}'") | some _ => pure v) R noExc s') noExc st :=
  noE body fun v s' ⟨T', r, hT', hl, hr⟩ => wpAny_bind (wpAny_specialOf hT' hl (wpAny_pure hr))
 refine wpAny_bind ?_
 simp only [callSpecialIfBoundUnlessNone?, bindSpecialIfBound?]
 refine wpAny_holding (wpAny_bind (wpAny_bind (sp.here ?_)))
 simp only [F.slot_tuple_iter.bind]
 refine wpAny_bind (wpAny_askSetting (wpAny_ite ?_))
 have fin : ∀ {refuse : Sem Value} {Q : Option Value → Shared → Prop}, (wpAny (MM c) A (call (.builtin "tuple.__iter__") [.ref t]) (fun v => Q (some v)) noExc st) → wpAny (MM c) A (if (Value.builtin "tuple.__iter__" == Value.none) = true then (refuse >>= fun v => pure (some v)) else (call (.builtin "tuple.__iter__") [.ref t] >>= fun v => pure (some v))) Q noExc st := by
  intro refuse Q hc
  rw [if_neg (by decide +kernel)]
  exact wpAny_bind (wpAny_mono hc (fun v s' h' => wpAny_pure h') fun _ _ h' => h')
 split
 ·exact wpAny_bind (wpAny_pure (wpAny_pure (fin tail)))
 ·exact wpAny_tryCatch (wpAny_bind (wpAny_pure (wpAny_pure (fin tail))))
theorem unp_mat {xs : List V} {n : Nat} {Q : List V → St → Prop} (top : (K c.w.params).In c.h1) (hh : A.handled = none) (hn : xs.length = n) (q : Q xs σ) : Unp c A σ (.mat xs) n Q := fun ρ st x D r => by
 obtain ⟨t, o, vs, m, rfl, g, hc, hd, rs⟩ := r
 have len : vs.size = n := by have := VRs.length rs; simp at this; grind
 have X0 := D.K top
 have g : st.heap.get? t = some o := g
 have ht : IsSeqAt st.heap t vs := ⟨o, g, m, hd⟩
 have hlt : t ≠ st.heap.objs.size := Nat.ne_of_lt (Heap.lt_size g)
 have L3 : Looks (MM c) st.heap (typeOf (.ref t)) (.ref 135) := hc ▸ (Looks.ld g).andThen .now
 have sp : Looks (MM c) st.heap (specialOf (.ref t) "__iter__") (some (.builtin "tuple.__iter__")) := L3.andThen (looks_findIn X0 (mt_iter c.w.params))
 rw [← len]
 unfold unpackItems
 refine wpAny_bind ?_
 unfold notIterableAtAll
 refine wpAny_bind (sp.here ?_)
 refine wpAny_pure ?_
 simp only [Bool.false_eq_true, if_false]
 refine wpAny_bind (wpAny_holding (iter_mat X0 g hc ?_))
 refine wpAny_bind (wpAny_holding (draw_seq hlt vs.size 0 _ _ ⟨_, Heap.get?_push_size _ rfl, rfl, rfl⟩ ⟨o, Heap.get?_push_of_some _ g, m, hd⟩ (by grind) fun h₁ hit₁ hs₁ => ?_))
 have hall : List.take vs.size (List.drop 0 vs.toList) = vs.toList := by
  rw [List.drop_zero]; exact List.take_of_length_le (by simp)
 rw [hall]
 rw [if_neg (by simp)]
 have ht₁ : IsSeqAt h₁ t vs := IsSeqAt.extBut (b := st.heap.objs.size) ⟨o, Heap.get?_push_of_some _ g, m, hd⟩ hs₁.extBut hlt
 refine wpAny_bind (wpAny_holding (next_end hh hit₁ ht₁ (by simp) fun h₂ he₂ => ?_))
 simp only [Option.isSome_none, Bool.false_eq_true, if_false]
 obtain ⟨D', x'⟩ := D.keeps (st' := { st with heap := h₂ }) (fun b o hb => he₂ b o (Nat.ne_of_lt (Heap.lt_size hb)) (hs₁.extBut b o (Nat.ne_of_lt (Heap.lt_size hb)) (Heap.get?_push_of_some _ hb))) rfl rfl
 exact wpAny_pure ⟨xs, σ, ρ, D', VRs.ext x' _ _ rs, x', q⟩
end
end
section
structure Gr where
 ns : List Int
 np : Int → Int
 sc : Int → List Int
structure Lay where
 ni : Int → Nat
 su : Int → Nat
 dd : Int → Nat
noncomputable def upd {α : Type} (f : Int → α) (k : Int) (a : α) : Int → α := fun j => if j = k then a else f j
theorem upd_eq {α : Type} {f : Int → α} {k : Int} {a : α} : upd f k a k = a := by simp [upd]
theorem upd_ne {α : Type} {f : Int → α} {k j : Int} {a : α} (h : j ≠ k) : upd f k a j = f j := by simp [upd, h]
structure TSat (H : AH) (b0 me d : Nat) (R : V) (p f : Int) (g : Gr) (L : Lay) : Prop where
 self : H.get me 0 = some (.ns [(10, .ref d 0), (11, R), (12, .int p), (13, .int f)])
 dict : ∃ ep, H.get d 0 = some (.dict (g.ns.map fun k => (k, .ref (L.ni k) 0)) ep)
 info : ∀ k ∈ g.ns, H.get (L.ni k) 0 = some (.slots (L.dd k) [some (.int k), some (.int (g.np k)), some (.ref (L.su k) 0)])
 succ : ∀ k ∈ g.ns, H.get (L.su k) 0 = some (.list ((g.sc k).map .int))
 nij : ∀ j ∈ g.ns, ∀ k ∈ g.ns, L.ni j = L.ni k → j = k
 suj : ∀ j ∈ g.ns, ∀ k ∈ g.ns, L.su j = L.su k → j = k
 nd : g.ns.Nodup
 out : ∀ k, k ∉ g.ns → g.np k = 0 ∧ g.sc k = []
 bme : b0 ≤ me
 bd : b0 ≤ d
 bn : ∀ k ∈ g.ns, b0 ≤ L.ni k
 bs : ∀ k ∈ g.ns, b0 ≤ L.su k
theorem kp283 (P : Params) : keepIn (K P) (.ref 283) = true := by kernel_rfl
theorem at10 (P : Params) : attrOk (K P) 380 (s "_node2info") = true := by kernel_rfl
theorem at11 (P : Params) : attrOk (K P) 380 (s "_ready_nodes") = true := by kernel_rfl
theorem at12 (P : Params) : attrOk (K P) 380 (s "_npassedout") = true := by kernel_rfl
theorem at13 (P : Params) : attrOk (K P) 380 (s "_nfinished") = true := by kernel_rfl
theorem call_ni {l₀ : List (Option V)} {H₀ : AH} {c : Cx} {A : Around} {Q : V → St → Prop} {k : Int} (G : Good c) (rm : Room 2 A)
  (q : ∀ H', Same (fun _ => False) H₀ H' → H'.length = H₀.length + 3 → H'.get (H₀.length + 1) 0 = some (.slots H₀.length [some (.int k), some (.int 0), some (.ref (H₀.length + 2) 0)]) → H'.get (H₀.length + 2) 0 = some (.list []) → Q (.ref (H₀.length + 1) 0) ⟨l₀, H'⟩) :
  Ca c A ⟨l₀, H₀⟩ (.obj 283) [.int k] Q := by
 refine mk_slots G.top rm fun A' rm' => call_code (Ys := [.ref (H₀.length + 1) 0, .int k]) G rm' (ok_niinit _) (bd2 G.top fun W v0 v1 r0 r1 => ?_) (by simp [n_niinit]) fun c' F' G' hw L => ?_
 ·exact ⟨[v0, v1], fun S => by kernel_rfl, VRs.cons r0 (VRs.cons r1 (VRs.nil _))⟩
 ·show vcSs _ t_niinit c' ⟨[some (.ref (H₀.length + 1) 0), some (.int k)], ((H₀ ++ [.one (.ns [])]) ++ [.one (.slots H₀.length [])])⟩ _
  have hl : (H₀ ++ [Fam.one (O.ns [])]).length = H₀.length + 1 := by simp
  have g1 : ((H₀ ++ [Fam.one (.ns [])]) ++ [Fam.one (.slots H₀.length [])]).get (H₀.length + 1) 0 = some (.slots H₀.length []) := by rw [← hl]; exact ge
  have sm : Same (fun _ => False) H₀ ((H₀ ++ [Fam.one (.ns [])]) ++ [Fam.one (.slots H₀.length [])]) := Same.refl.app.app
  have hNl : ((H₀ ++ [Fam.one (.ns [])]) ++ [Fam.one (.slots H₀.length [])]).length = H₀.length + 2 := by simp
  generalize ((H₀ ++ [Fam.one (.ns [])]) ++ [Fam.one (.slots H₀.length [])]) = N at g1 sm hNl ⊢
  refine set_slotV G'.top (slot_node _) (by decide) g1 ?_
  refine set_slotV G'.top (slot_npred _) (by decide) (gp_eq g1) ?_
  have g2 : ∀ o o', (((N.put (H₀.length + 1) 0 o).put (H₀.length + 1) 0 o') : AH).get (H₀.length + 1) 0 = some o' := fun o o' => gp_eq (gp_eq g1)
  refine set_slotV (d := H₀.length) (i := H₀.length + 1) (x := 0) (fs := setS (setS [] 0 (.int k)) 1 (.int 0)) G'.top (slot_succ _) (by decide) (by exact ga (g2 _ _)) ?_
  refine ⟨rfl, q _ ?_ ?_ ((gp_eq (ga (g2 _ _))).trans ?_) ?_⟩
  rotate_left 2
  ·simp only [put_length, hNl]; rfl
  rotate_left 1
  ·exact ((((sm.put g1 (.inr (Nat.le.step Nat.le.refl))).put (gp_eq g1) (.inr (Nat.le.step Nat.le.refl))).app).put (ga (g2 _ _)) (.inr (Nat.le.step Nat.le.refl)))
  ·simp only [put_length, List.length_append, hNl]; rfl
  ·refine gp_ne (ga (g2 _ _)) (Nat.ne_of_gt (Nat.le_refl (List.length H₀ + 1).succ)) ?_
   have := @ge ((N.put (H₀.length + 1) 0 (.slots H₀.length (setS [] 0 (.int k)))).put (H₀.length + 1) 0 (.slots H₀.length (setS (setS [] 0 (.int k)) 1 (.int 0)))) (.list [])
   simp only [put_length, hNl] at this
   exact this
end
section
theorem look_map {ns : List Int} {f : Int → V} {k : Int} : look (ns.map fun j => (j, f j)) k = if k ∈ ns then some (f k) else none := by
 induction ns with
 | nil => rfl
 | cons a r ih =>
  unfold look at ih ⊢
  rw [List.map_cons, List.find?_cons]
  by_cases h : a = k
  ·subst h; simp
  ·have h' : ¬ k = a := fun e => h e.symm
   simp only [h, decide_false, ih, List.mem_cons, h', false_or]
theorem stV_map {ns : List Int} {f : Int → V} {k : Int} {X : V} (h : k ∉ ns) : stV (ns.map fun j => (j, f j)) k X = (ns ++ [k]).map fun j => (j, upd f k X j) := by
 unfold stV
 rw [if_neg, List.map_append]
 ·congr 1
  ·refine List.map_congr_left fun a ha => ?_
   rw [upd_ne (fun e => by subst e; exact h ha)]
  ·simp [upd_eq]
 ·simp only [List.any_map, List.any_eq_true, Function.comp_apply, decide_eq_true_eq]
  rintro ⟨a, ha, e⟩
  exact h (e ▸ ha)
noncomputable def Gr.wit (g : Gr) (k : Int) : Gr := ⟨if k ∈ g.ns then g.ns else g.ns ++ [k], g.np, g.sc⟩
noncomputable def Lay.wit (L : Lay) (k : Int) (n s d : Nat) : Lay := ⟨upd L.ni k n, upd L.su k s, upd L.dd k d⟩
theorem kp323 (P : Params) : keepIn (K P) (.ref 323) = true := by kernel_rfl
section
variable {c : Cx} {A : Around} {σ : St} {Q : V → St → Prop} {b0 me d : Nat} {R : V} {p f : Int} {g : Gr} {L : Lay}
theorem gni_vc {H : AH} {k : Int} {Kt : Kt} (G : Good c) (rm : Room 2 A) (T : TSat H b0 me d R p f g L) (hlen : g.ns.length < 1000)
  (q : ∀ loc H' L', TSat H' b0 me d R p f (g.wit k) L' → Same (fun j => b0 ≤ j) H H' → Kt.ret (.ref (L'.ni k) 0) ⟨loc, H'⟩) :
  vcSs A t_gni c ⟨[some (.inst 380 me 0), some (.int k), none], H⟩ Kt := by
 obtain ⟨ep, hd⟩ := T.dict
 refine get_attr G.top (k := 10) (by decide) rfl (at10 _) T.self rfl rfl rfl ?_
 refine getM_dict hd F.slot_dict_get F.type_dict_get ?_
 refine get1_dict G.top hd ?_
 rw [look_map]
 by_cases hk : k ∈ g.ns
 ·simp only [if_pos hk, Option.getD_some]
  refine q _ H L ?_ Same.refl
  unfold Gr.wit
  rw [if_pos hk]
  exact T
 ·simp only [if_neg hk, Option.getD_none]
  refine ⟨keep_fn G kp283, ?_⟩
  refine call_ni G rm fun H' sm hl h1 h2 => ?_
  have gs := sm.2 _ _ _ id T.self
  have gd := sm.2 _ _ _ id hd
  refine get_attr G.top (k := 10) (by decide) rfl (at10 _) gs rfl rfl rfl ?_
  refine set_dict gd (by rw [List.length_map]; lia) fun ep' => ?_
  have hdl := lt_len hd
  have hsl := lt_len T.self
  have nsd : me ≠ d := fun e => by have := T.self; rw [e, hd] at this; cases this
  have e1 : (.ref (List.length H + 1) 0 : V) = .ref ((L.wit k (H.length + 1) (H.length + 2) H.length).ni k) 0 := by simp [Lay.wit, upd_eq]
  rw [e1]
  have nin : ∀ j ∈ g.ns, j ≠ k := fun j hj e => hk (e ▸ hj)
  have lni : ∀ j ∈ g.ns, L.ni j < H.length := fun j hj => lt_len (T.info j hj)
  have lsu : ∀ j ∈ g.ns, L.su j < H.length := fun j hj => lt_len (T.succ j hj)
  have ens : (g.wit k).ns = g.ns ++ [k] := by simp [Gr.wit, hk]
  refine q _ _ (L.wit k (H.length + 1) (H.length + 2) H.length) ⟨gp_ne gd nsd gs, ⟨ep', ?_⟩, ?_, ?_, ?_, ?_, ?_, ?_, T.bme, T.bd, ?_, ?_⟩ ?_
  ·rw [gp_eq gd, stV_map hk, ens]
   congr 2
   refine List.map_congr_left fun a ha => ?_
   unfold Lay.wit upd
   simp only
   split <;> rfl
  ·rw [ens]
   intro j hj
   rw [List.mem_append, List.mem_singleton] at hj
   rcases hj with hj | rfl
   ·simp only [Lay.wit, upd_ne (nin j hj)]
    exact gp_ne gd (fun e => by have := T.info j hj; rw [e, hd] at this; cases this) (sm.2 _ _ _ id (T.info j hj))
   ·simp only [Lay.wit, upd_eq]
    have := (T.out j hk).1
    show AH.get _ _ _ = some (.slots _ [_, some (.int (g.np j)), _])
    rw [this]
    exact gp_ne gd (by grind) h1
  ·rw [ens]
   intro j hj
   rw [List.mem_append, List.mem_singleton] at hj
   rcases hj with hj | rfl
   ·simp only [Lay.wit, upd_ne (nin j hj)]
    exact gp_ne gd (fun e => by have := T.succ j hj; rw [e, hd] at this; cases this) (sm.2 _ _ _ id (T.succ j hj))
   ·simp only [Lay.wit, upd_eq]
    have := (T.out j hk).2
    show AH.get _ _ _ = some (.list ((g.sc j).map _))
    rw [this]
    exact gp_ne gd (by grind) h2
  ·rw [ens]
   intro j hj j' hj' e
   rw [List.mem_append, List.mem_singleton] at hj hj'
   rcases hj with hj | rfl <;> rcases hj' with hj' | rfl
   ·simp only [Lay.wit, upd_ne (nin _ hj), upd_ne (nin _ hj')] at e; exact T.nij j hj j' hj' e
   ·simp only [Lay.wit, upd_ne (nin _ hj), upd_eq] at e; have := lni j hj; grind
   ·simp only [Lay.wit, upd_ne (nin _ hj'), upd_eq] at e; have := lni j' hj'; grind
   ·rfl
  ·rw [ens]
   intro j hj j' hj' e
   rw [List.mem_append, List.mem_singleton] at hj hj'
   rcases hj with hj | rfl <;> rcases hj' with hj' | rfl
   ·simp only [Lay.wit, upd_ne (nin _ hj), upd_ne (nin _ hj')] at e; exact T.suj j hj j' hj' e
   ·simp only [Lay.wit, upd_ne (nin _ hj), upd_eq] at e; have := lsu j hj; grind
   ·simp only [Lay.wit, upd_ne (nin _ hj'), upd_eq] at e; have := lsu j' hj'; grind
   ·rfl
  ·rw [ens]
   exact List.nodup_append.mpr ⟨T.nd, by simp, fun a ha b hb e => by simp at hb; exact hk (hb ▸ e ▸ ha)⟩
  ·rw [ens]
   intro j hj
   exact T.out j fun h => hj (List.mem_append_left _ h)
  ·rw [ens]
   intro j hj
   rw [List.mem_append, List.mem_singleton] at hj
   rcases hj with hj | rfl
   ·simp only [Lay.wit, upd_ne (nin j hj)]; exact T.bn j hj
   ·simp only [Lay.wit, upd_eq]; have := T.bd; lia
  ·rw [ens]
   intro j hj
   rw [List.mem_append, List.mem_singleton] at hj
   rcases hj with hj | rfl
   ·simp only [Lay.wit, upd_ne (nin j hj)]; exact T.bs j hj
   ·simp only [Lay.wit, upd_eq]; have := T.bd; lia
  ·exact (sm.mono fun _ h => h.elim).put gd (.inl T.bd)
theorem call_gni {l₀ : List (Option V)} {H₀ : AH} {k : Int} (G : Good c) (rm : Room 3 A) (T : TSat H₀ b0 me d R p f g L) (hlen : g.ns.length < 1000)
  (q : ∀ H' L', TSat H' b0 me d R p f (g.wit k) L' → Same (fun j => b0 ≤ j) H₀ H' → Q (.ref (L'.ni k) 0) ⟨l₀, H'⟩) :
  Ca c A ⟨l₀, H₀⟩ (.obj 323) [.inst 380 me 0, .int k] Q := by
 refine (call_code (Ys := [.inst 380 me 0, .int k]) G (rm.less (by decide)) (ok_gni _) (bd2 G.top fun W v0 v1 r0 r1 => ?_) (by simp [n_gni]) fun c' F' G' hw L => ?_).ca
 ·exact ⟨[v0, v1], fun S => by kernel_rfl, VRs.cons r0 (VRs.cons r1 (VRs.nil _))⟩
 ·exact gni_vc G' rm.deeper T hlen fun loc H' L' T' sm => q H' L' T' sm
end
end
section
section
variable {H : AH} {b0 me d : Nat} {R : V} {p f : Int} {g : Gr} {L : Lay}
theorem kind_ne {i j : Nat} {o o' : O} (h : H.get i 0 = some o) (h' : H.get j 0 = some o') (n : o ≠ o') : i ≠ j := fun e => by subst e; rw [h] at h'; cases h'; exact n rfl
theorem TSat.setNp {k v : Int} (T : TSat H b0 me d R p f g L) (hk : k ∈ g.ns) :
  TSat (H.put (L.ni k) 0 (.slots (L.dd k) [some (.int k), some (.int v), some (.ref (L.su k) 0)])) b0 me d R p f ⟨g.ns, upd g.np k v, g.sc⟩ L := by
 have hi := T.info k hk
 obtain ⟨ep, hd⟩ := T.dict
 refine ⟨gp_ne hi (kind_ne T.self hi (by simp)) T.self, ⟨ep, gp_ne hi (kind_ne hd hi (by simp)) hd⟩, fun j hj => ?_, fun j hj => gp_ne hi (kind_ne (T.succ j hj) hi (by simp)) (T.succ j hj), T.nij, T.suj, T.nd, fun j hj => ?_, T.bme, T.bd, T.bn, T.bs⟩
 ·by_cases e : j = k
  ·subst e; simp only [upd_eq]; exact gp_eq hi
  ·simp only [upd_ne e]; exact gp_ne hi (fun e' => e (T.nij j hj k hk e')) (T.info j hj)
 ·have e : j ≠ k := fun e => hj (e ▸ hk)
  simp only [upd_ne e]; exact T.out j hj
theorem TSat.setSc {k : Int} {xs : List Int} (T : TSat H b0 me d R p f g L) (hk : k ∈ g.ns) :
  TSat (H.put (L.su k) 0 (.list (xs.map .int))) b0 me d R p f ⟨g.ns, g.np, upd g.sc k xs⟩ L := by
 have hi := T.succ k hk
 obtain ⟨ep, hd⟩ := T.dict
 refine ⟨gp_ne hi (kind_ne T.self hi (by simp)) T.self, ⟨ep, gp_ne hi (kind_ne hd hi (by simp)) hd⟩, fun j hj => gp_ne hi (kind_ne (T.info j hj) hi (by simp)) (T.info j hj), fun j hj => ?_, T.nij, T.suj, T.nd, fun j hj => ?_, T.bme, T.bd, T.bn, T.bs⟩
 ·by_cases e : j = k
  ·subst e; simp only [upd_eq]; exact gp_eq hi
  ·simp only [upd_ne e]; exact gp_ne hi (fun e' => e (T.suj j hj k hk e')) (T.succ j hj)
 ·have e : j ≠ k := fun e => hj (e ▸ hk)
  simp only [upd_ne e]; exact T.out j hj
theorem TSat.setSelf {R' : V} {p' f' : Int} (T : TSat H b0 me d R p f g L) :
  TSat (H.put me 0 (.ns [(10, .ref d 0), (11, R'), (12, .int p'), (13, .int f')])) b0 me d R' p' f' g L := by
 have hi := T.self
 obtain ⟨ep, hd⟩ := T.dict
 exact ⟨gp_eq hi, ⟨ep, gp_ne hi (kind_ne hd hi (by simp)) hd⟩, fun j hj => gp_ne hi (kind_ne (T.info j hj) hi (by simp)) (T.info j hj), fun j hj => gp_ne hi (kind_ne (T.succ j hj) hi (by simp)) (T.succ j hj), T.nij, T.suj, T.nd, T.out, T.bme, T.bd, T.bn, T.bs⟩
theorem TSat.app {F : Fam} (T : TSat H b0 me d R p f g L) : TSat (H ++ [F]) b0 me d R p f g L := by
 obtain ⟨ep, hd⟩ := T.dict
 exact ⟨ga T.self, ⟨ep, ga hd⟩, fun j hj => ga (T.info j hj), fun j hj => ga (T.succ j hj), T.nij, T.suj, T.nd, T.out, T.bme, T.bd, T.bn, T.bs⟩
end
theorem mt_gni (P : Params) : methOk (K P) 380 (s "_get_nodeinfo") 323 = true := by kernel_rfl
section
variable {c : Cx} {A : Around} {σ : St} {Q : V → St → Prop} {b0 me d : Nat} {R : V} {p f : Int} {g : Gr} {L : Lay}
theorem call_ts {l₀ : List (Option V)} {H₀ : AH} (G : Good c) (rm : Room 2 A) (q : ∀ H', Same (fun _ => False) H₀ H' → (∀ L, TSat H' H₀.length H₀.length (H₀.length + 1) .none 0 0 ⟨[], fun _ => 0, fun _ => []⟩ L) → Q (.inst 380 H₀.length 0) ⟨l₀, H'⟩) : Ca c A ⟨l₀, H₀⟩ (.obj 380) [] Q := by
 refine mk_inst G.top (make_ts _) (by decide) rm fun A' rm' => call_code (Ys := [.inst 380 H₀.length 0, .none]) G rm' (ok_tsinit _) (bd1 G.top fun W v0 r0 => ?_) (by simp [n_tsinit]) fun c' F' G' hw L => ?_
 ·exact ⟨[v0, .none], fun S => by kernel_rfl, VRs.cons r0 (VRs.cons rfl (VRs.nil _))⟩
 ·show vcSs _ t_tsinit c' ⟨[some (.inst 380 H₀.length 0), some .none, none, none], (H₀ ++ [.one (.ns [])])⟩ _
  have g1 : (H₀ ++ [Fam.one (.ns [])]).get H₀.length 0 = some (.ns []) := ge
  have sm : Same (fun _ => False) H₀ (H₀ ++ [Fam.one (.ns [])]) := Same.refl.app
  have hNl : (H₀ ++ [Fam.one (.ns [])]).length = H₀.length + 1 := by simp
  generalize (H₀ ++ [Fam.one (.ns [])]) = N at g1 sm hNl ⊢
  refine set_attr G'.top (k := 10) (by decide) rfl (at10 _) (by exact ga g1) rfl (by simp [putF]) ?_
  refine set_attr G'.top (k := 11) (by decide) rfl (at11 _) (by exact gp_eq (ga g1)) rfl (by simp [putF]) ?_
  refine set_attr G'.top (k := 12) (by decide) rfl (at12 _) (by exact gp_eq (gp_eq (ga g1))) rfl (by simp [putF]) ?_
  refine set_attr G'.top (k := 13) (by decide) rfl (at13 _) (by exact gp_eq (gp_eq (gp_eq (ga g1)))) rfl (by simp [putF]) ?_
  rw [hNl]
  have gd : (N ++ [Fam.one (O.dict [] 0)]).get (H₀.length + 1) 0 = some (.dict [] 0) := by rw [← hNl]; exact ge
  have ne : H₀.length + 1 ≠ H₀.length := by exact Nat.ne_of_gt (Nat.le_refl (List.length H₀).succ)
  refine ⟨rfl, q _ ?_ fun L => ⟨gp_eq (gp_eq (gp_eq (gp_eq (ga g1)))), ⟨0, gp_ne (gp_eq (gp_eq (gp_eq (ga g1)))) ne (gp_ne (gp_eq (gp_eq (ga g1))) ne (gp_ne (gp_eq (ga g1)) ne (gp_ne (ga g1) ne gd)))⟩, ?_, ?_, ?_, ?_, ?_, ?_, Nat.le_refl _, Nat.le_succ _, ?_, ?_⟩⟩
  ·exact (((sm.app.put (ga g1) (.inr (Nat.le_refl _))).put (gp_eq (ga g1)) (.inr (Nat.le_refl _))).put (gp_eq (gp_eq (ga g1))) (.inr (Nat.le_refl _))).put (gp_eq (gp_eq (gp_eq (ga g1)))) (.inr (Nat.le_refl _))
  all_goals simp
end
end
section
inductive One (P : St → Prop) (σ : St) : Nat → St → Prop
 | here : One P σ 0 σ
 | gone {σ' : St} (h : P σ') : One P σ 1 σ'
theorem One.gone' {P : St → Prop} {σ σ' : St} (h : One P σ 1 σ') : P σ' := by cases h; assumption
noncomputable def Gr.bump (g : Gr) (k : Int) : Gr := ⟨g.ns, upd g.np k (g.np k + 1), g.sc⟩
noncomputable def Gr.link (g : Gr) (p k : Int) : Gr := ⟨g.ns, g.np, upd g.sc p (g.sc p ++ [k])⟩
theorem wit_mem {g : Gr} {k : Int} : k ∈ (g.wit k).ns := by
 unfold Gr.wit
 simp only
 split
 ·assumption
 ·simp
theorem wit_len {g : Gr} {k : Int} : (g.wit k).ns.length ≤ g.ns.length + 1 := by
 unfold Gr.wit
 simp only
 split <;> simp
theorem Good.at {c : Cx} {h0 : Heap} {ft : Addr → Prop} (G : Good c) : Good (c.at h0 ft) := ⟨G.top, G.lim⟩
section
variable {c : Cx} {A : Around} {σ : St} {Q : V → St → Prop} {b0 me d : Nat} {R : V} {p f : Int} {g : Gr} {L : Lay}
theorem bd_star' {fd : FuncData} {ns : List Str} {Xs Ys Zs : List V} (top : (Internal.K c.w.params).In c.h1)
  (h : ∀ W vs, VRs W Xs vs → ∃ ys zs, VRs W Ys ys ∧ VRs W Zs zs ∧ (peek1 (Internal.K c.w.params) ⟨pw, c.w.params⟩ (bindArgs fd ⟨vs, []⟩)).map (·.1) = some ({ cls := .type "tuple", data := .seq zs.toArray }) ∧ ∀ D, (peek1 (Internal.K c.w.params) ⟨pw, c.w.params⟩ (bindArgs fd ⟨vs, []⟩)).bind (fun r => r.2 D) = some ((ns.take (Ys.length + 1)).zip (ys ++ [.ref D]))) : Bd c A σ fd ns Xs (Ys ++ [.tup Zs]) := by
 refine bd_star top fun W vs rs => ?_
 obtain ⟨ys, zs, ry, rz, h1, h2⟩ := h W vs rs
 cases e : peek1 (Internal.K c.w.params) ⟨pw, c.w.params⟩ (bindArgs fd ⟨vs, []⟩) with
 | none => rw [e] at h1; cases h1
 | some r =>
  obtain ⟨o, g⟩ := r
  rw [e] at h1 h2
  simp only [Option.map_some, Option.some.injEq] at h1
  refine ⟨ys, zs, ry, rz, g, fun M hw hp => ?_, fun D => h2 D⟩
  rw [hp, hw, e, h1]
theorem add0_vc {H : AH} {k : Int} {Kt : Kt} (G : Good c) (rm : Room 3 A) (T : TSat H b0 me d .none p f g L) (hlen : g.ns.length < 900)
  (q : ∀ loc H' L', TSat H' b0 me d .none p f (g.wit k) L' → Same (fun j => b0 ≤ j) H H' → Kt.next ⟨loc, H'⟩) :
  vcSs A t_add c ⟨[some (.inst 380 me 0), some (.int k), some (.tup []), none, none, none], H⟩ Kt := by
 refine get_attr G.top (k := 11) (by decide) rfl (at11 _) T.self rfl rfl rfl ?_
 refine getM_inst G.top (mt_gni _) T.self rfl ?_
 refine ⟨keep_fn G kp323, ?_⟩
 refine call_gni G rm T (by lia) fun H' L' T' sm => ?_
 refine get_slotV G.top (slot_npred _) (T'.info k wit_mem) rfl rfl ?_
 refine len_tup (by simp) ?_
 refine set_slotV G.top (slot_npred _) (by decide) (T'.info k wit_mem) ?_
 have T2 := T'.setNp (k := k) (v := (g.wit k).np k + ((0 : Nat) : Int)) wit_mem
 have e : (⟨(g.wit k).ns, upd (g.wit k).np k ((g.wit k).np k + ((0 : Nat) : Int)), (g.wit k).sc⟩ : Gr) = g.wit k := by
  have : upd (g.wit k).np k ((g.wit k).np k + ((0 : Nat) : Int)) = (g.wit k).np := by
   funext j; unfold upd; split <;> simp_all
  rw [this]
 rw [e] at T2
 refine .mk [] 0 (fun j σ' => σ' = _) rfl rfl (fun σ' h => ⟨rfl, ?_⟩) (fun j σ' Y h hj => nomatch hj)
 subst h
 exact q _ _ L' T2 (sm.put (T'.info k wit_mem) (.inl (T'.bn k wit_mem)))
theorem add1_vc {H : AH} {k e : Int} {Kt : Kt} (G : Good c) (rm : Room 3 A) (T : TSat H b0 me d .none p f g L) (hlen : g.ns.length < 900) (hsc : ∀ j, (g.sc j).length < 900)
  (q : ∀ loc H' L', TSat H' b0 me d .none p f ((((g.wit k).bump k).wit e).link e k) L' → Same (fun j => b0 ≤ j) H H' → Kt.next ⟨loc, H'⟩) :
  vcSs A t_add c ⟨[some (.inst 380 me 0), some (.int k), some (.tup [.int e]), none, none, none], H⟩ Kt := by
 refine get_attr G.top (k := 11) (by decide) rfl (at11 _) T.self rfl rfl rfl ?_
 refine getM_inst G.top (mt_gni _) T.self rfl ?_
 refine ⟨keep_fn G kp323, ?_⟩
 refine call_gni G rm T (by grind) fun H' L' T' sm => ?_
 refine get_slotV G.top (slot_npred _) (T'.info k wit_mem) rfl rfl ?_
 refine len_tup (by simp) ?_
 refine set_slotV G.top (slot_npred _) (by decide) (T'.info k wit_mem) ?_
 have T2 : TSat _ b0 me d .none p f ((g.wit k).bump k) L' := T'.setNp (k := k) (v := (g.wit k).np k + 1) wit_mem
 have sm2 := sm.put (T'.info k wit_mem) (o := .slots (L'.dd k) [some (.int k), some (.int ((g.wit k).np k + 1)), some (.ref (L'.su k) 0)]) (.inl (T'.bn k wit_mem))
 have hl2 : ((g.wit k).bump k).ns.length < 1000 := by have := @wit_len g k; show (g.wit k).ns.length < 1000; lia
 refine .mk [.int e] 0 (One Kt.next _) rfl .here (fun σ' h => ⟨rfl, h.gone'⟩) (fun j σ' Y h hj => ⟨rfl, fun h0 ft => ?_⟩)
 cases h with
 | gone _ => cases hj
 | here =>
   cases hj
   refine getM_inst G.top (mt_gni _) T2.self rfl ?_
   refine ⟨keep_fn G.at kp323, ?_⟩
   refine call_gni G.at rm T2 hl2 fun H3 L3 T3 sm3 => ?_
   refine get_slotV G.top (slot_succ _) (T3.info e wit_mem) rfl rfl ?_
   refine getM_list (T3.succ e wit_mem) F.slot_list_append F.type_list_append ?_
   refine append_list (T3.succ e wit_mem) (by rw [List.length_map]; exact Nat.lt_trans (hsc e) (by decide)) ?_
   refine .gone (q _ _ L3 ?_ ((sm2.trans sm3).put (T3.succ e wit_mem) (.inl (T3.bs e wit_mem))))
   have := T3.setSc (k := e) (xs := (((g.wit k).bump k).wit e).sc e ++ [k]) wit_mem
   rw [List.map_append] at this
   exact this
theorem call_add0 {l₀ : List (Option V)} {H₀ : AH} {k : Int} (G : Good c) (rm : Room 4 A) (T : TSat H₀ b0 me d .none p f g L) (hlen : g.ns.length < 900)
  (q : ∀ H' L', TSat H' b0 me d .none p f (g.wit k) L' → Same (fun j => b0 ≤ j) H₀ H' → Q .none ⟨l₀, H'⟩) :
  Ca c A ⟨l₀, H₀⟩ (.obj 330) [.inst 380 me 0, .int k] Q := by
 refine (call_code (Ys := [.inst 380 me 0, .int k, .tup []]) G (rm.less (by decide)) (ok_add _) (bd_star' (Ys := [.inst 380 me 0, .int k]) (Zs := []) G.top fun W vs rs => ?_) (by simp [n_add]) fun c' F' G' hw L => ?_).ca
 ·obtain ⟨v0, _, rfl, r0, v1, _, rfl, r1, e⟩ := rs
  cases e
  exact ⟨[v0, v1], [], VRs.cons r0 (VRs.cons r1 (VRs.nil _)), VRs.nil _, by kernel_rfl, fun D => by kernel_rfl⟩
 ·exact add0_vc G' rm.deeper T hlen fun loc H' L' T' sm => q H' L' T' sm
theorem call_add1 {l₀ : List (Option V)} {H₀ : AH} {k e : Int} (G : Good c) (rm : Room 4 A) (T : TSat H₀ b0 me d .none p f g L) (hlen : g.ns.length < 900) (hsc : ∀ j, (g.sc j).length < 900)
  (q : ∀ H' L', TSat H' b0 me d .none p f ((((g.wit k).bump k).wit e).link e k) L' → Same (fun j => b0 ≤ j) H₀ H' → Q .none ⟨l₀, H'⟩) :
  Ca c A ⟨l₀, H₀⟩ (.obj 330) [.inst 380 me 0, .int k, .int e] Q := by
 refine (call_code (Ys := [.inst 380 me 0, .int k, .tup [.int e]]) G (rm.less (by decide)) (ok_add _) (bd_star' (Ys := [.inst 380 me 0, .int k]) (Zs := [.int e]) G.top fun W vs rs => ?_) (by simp [n_add]) fun c' F' G' hw L => ?_).ca
 ·obtain ⟨v0, _, rfl, r0, v1, _, rfl, r1, v2, _, rfl, r2, e⟩ := rs
  cases e
  exact ⟨[v0, v1], [v2], VRs.cons r0 (VRs.cons r1 (VRs.nil _)), VRs.cons r2 (VRs.nil _), by kernel_rfl, fun D => by kernel_rfl⟩
 ·exact add1_vc G' rm.deeper T hlen hsc fun loc H' L' T' sm => q H' L' T' sm
end
end
section
theorem Same.anew {H H' : AH} (h : Same (fun j => H.length ≤ j) H H') : Same (fun _ => False) H H' := ⟨h.1, fun j y ob _ g => h.2 j y ob (Nat.not_le.mpr (lt_len g)) g⟩
noncomputable def posn (ys : List Int) (k : Int) (n : Nat) : List Int := ((List.range n).filter fun j => decide (ys[j]? = some k)).map fun (j : Nat) => (j : Int)
theorem mem_posn {ys : List Int} {k : Int} {n : Nat} {z : Int} : z ∈ posn ys k n ↔ ∃ j : Nat, j < n ∧ ys[j]? = some k ∧ z = j := by
 unfold posn
 simp only [List.mem_map, List.mem_filter, List.mem_range, decide_eq_true_eq]
 constructor
 ·rintro ⟨j, ⟨a, b⟩, rfl⟩; exact ⟨j, a, b, rfl⟩
 ·rintro ⟨j, a, b, rfl⟩; exact ⟨j, ⟨a, b⟩, rfl⟩
theorem posn_sorted {ys : List Int} {k : Int} {n : Nat} : (posn ys k n).Pairwise (· < ·) := by
 unfold posn
 refine List.Pairwise.map _ (R := fun (a b : Nat) => a < b) (fun a b h => by lia) ?_
 exact List.Pairwise.filter _ List.pairwise_lt_range
theorem posn_succ {ys : List Int} {k : Int} {n : Nat} : posn ys k (n + 1) = posn ys k n ++ (if ys[n]? = some k then [(n : Int)] else []) := by
 unfold posn
 rw [List.range_succ, List.filter_append, List.map_append]
 congr 1
 by_cases h : ys[n]? = some k
 ·simp [h]
 ·simp [h]
theorem posn_le {ys : List Int} {k : Int} {n : Nat} : (posn ys k n).length ≤ n := by
 unfold posn
 rw [List.length_map]
 exact Nat.le_trans (List.length_filter_le ..) (Nat.le_of_eq List.length_range)
theorem posn_none {ys : List Int} {k : Int} {n : Nat} (h : k ∉ ys) : posn ys k n = [] := by
 rw [List.eq_nil_iff_forall_not_mem]
 intro z hz
 obtain ⟨j, _, e, _⟩ := mem_posn.mp hz
 exact h (List.mem_of_getElem? e)
structure Blk (xs ys : List Int) (alo ahi blo bhi i j k : Int) : Prop where
 i0 : alo ≤ i
 i1 : i + k ≤ ahi
 j0 : blo ≤ j
 j1 : j + k ≤ bhi
 k0 : 0 ≤ k
 same : ∀ t : Int, 0 ≤ t → t < k → xs[(i + t).toNat]? = ys[(j + t).toNat]?
noncomputable def NoCom (xs ys : List Int) (alo ahi blo bhi : Int) : Prop := ∀ p q : Int, alo ≤ p → p < ahi → blo ≤ q → q < bhi → xs[p.toNat]? ≠ ys[q.toNat]?
theorem Blk.right {xs ys : List Int} {alo ahi blo bhi i j k : Int} (h : Blk xs ys alo ahi blo bhi i j k) (h1 : i + k < ahi) (h2 : j + k < bhi) (e : xs[(i + k).toNat]? = ys[(j + k).toNat]?) : Blk xs ys alo ahi blo bhi i j (k + 1) := by
 refine ⟨h.i0, by lia, h.j0, by grind, by have := h.k0; lia, fun t h0 ht => ?_⟩
 by_cases c : t = k
 ·subst c; exact e
 ·exact h.same t h0 (by lia)
theorem Blk.left {xs ys : List Int} {alo ahi blo bhi i j k : Int} (h : Blk xs ys alo ahi blo bhi i j k) (h1 : alo < i) (h2 : blo < j) (e : xs[(i - 1).toNat]? = ys[(j - 1).toNat]?) : Blk xs ys alo ahi blo bhi (i - 1) (j - 1) (k + 1) := by
 have := h.i1; have := h.j1
 refine ⟨by lia, by lia, by grind, by grind, by have := h.k0; grind, fun t h0 ht => ?_⟩
 by_cases c : t = 0
 ·subst c; simpa using e
 ·have e1 : i - 1 + t = i + (t - 1) := by grind
  have e2 : j - 1 + t = j + (t - 1) := by grind
  rw [e1, e2]
  exact h.same (t - 1) (by lia) (by lia)
theorem Blk.wide {xs ys : List Int} {alo ahi ahi' blo bhi i j k : Int} (h : Blk xs ys alo ahi blo bhi i j k) (hh : ahi ≤ ahi') : Blk xs ys alo ahi' blo bhi i j k := ⟨h.i0, by have := h.i1; lia, h.j0, h.j1, h.k0, h.same⟩
noncomputable def JL (xs ys : List Int) (alo blo bhi r : Int) (m : List (Int × Int)) : Prop := ∀ p ∈ m, 1 ≤ p.2 ∧ Blk xs ys alo r blo bhi (r - p.2) (p.1 - p.2 + 1) p.2
noncomputable def toV (m : List (Int × Int)) : List (Int × V) := m.map fun p => (p.1, V.int p.2)
theorem look_toV {m : List (Int × Int)} {k : Int} : (look (toV m) k = none) ∨ ∃ v, (k, v) ∈ m ∧ look (toV m) k = some (.int v) := by
 induction m with
 | nil => exact .inl rfl
 | cons p m ih =>
  obtain ⟨a, b⟩ := p
  by_cases e : a = k
  ·subst e
   exact .inr ⟨b, .head _, by simp [look, toV]⟩
  ·have e1 : look (toV ((a, b) :: m)) k = look (toV m) k := by simp [look, toV, e]
   rw [e1]
   rcases ih with h | ⟨v, h1, h2⟩
   ·exact .inl h
   ·exact .inr ⟨v, .tail _ h1, h2⟩
theorem stV_toV {m : List (Int × Int)} {k v : Int} : ∃ m', stV (toV m) k (.int v) = toV m' ∧ (∀ p ∈ m', p ∈ m ∨ p = (k, v)) ∧ m'.length ≤ m.length + 1 := by
 unfold stV
 split
 ·refine ⟨m.map fun p => if p.1 = k then (p.1, v) else p, ?_, ?_, by simp⟩
  ·simp only [toV, List.map_map]
   refine List.map_congr_left fun p _ => ?_
   simp only [Function.comp]
   split <;> rfl
  ·intro p hp
   obtain ⟨p0, h0, e⟩ := List.mem_map.mp hp
   split at e
   ·rename_i hk; right; rw [← e, hk]
   ·left; rw [← e]; exact h0
 ·refine ⟨m ++ [(k, v)], by simp [toV], fun p hp => ?_, by simp⟩
  rcases List.mem_append.mp hp with h | h
  ·exact .inl h
  ·right; simpa using h
structure SMat (H : AH) (me ia ib d ju po : Nat) (M Op : V) (xs ys : List Int) (lj : Int → Nat) : Prop where
 self : H.get me 0 = some (.ns [(0, .none), (1, .ref ia 0), (2, .ref ib 0), (3, .bool false), (4, M), (5, Op), (6, .none), (7, .ref d 0), (8, .ref ju 0), (9, .ref po 0)])
 la : H.get ia 0 = some (.list (xs.map .int))
 lb : H.get ib 0 = some (.list (ys.map .int))
 dict : ∃ (ks : List Int) (ep : Nat), H.get d 0 = some (.dict (ks.map fun k => (k, .ref (lj k) 0)) ep) ∧ ∀ k, k ∈ ks ↔ k ∈ ys
 idx : ∀ k ∈ ys, H.get (lj k) 0 = some (.list ((posn ys k ys.length).map .int))
 junk : H.get ju 0 = some (.set (fun _ => false) 0)
theorem SMat.same {H H' : AH} {me ia ib d ju po : Nat} {M Op : V} {xs ys : List Int} {lj : Int → Nat} (S : SMat H me ia ib d ju po M Op xs ys lj) (sm : Same (fun j => H.length ≤ j) H H') : SMat H' me ia ib d ju po M Op xs ys lj :=
 have k : ∀ {j y ob}, H.get j y = some ob → H'.get j y = some ob := fun g => sm.2 _ _ _ (by have := lt_len g; lia) g
 ⟨k S.self, k S.la, k S.lb, let ⟨ks, ep, a, b⟩ := S.dict; ⟨ks, ep, k a, b⟩, fun j hj => k (S.idx j hj), k S.junk⟩
theorem as_a (P : Params) : attrOk (K P) 242 (s "a") = true := by kernel_rfl
theorem as_b (P : Params) : attrOk (K P) 242 (s "b") = true := by kernel_rfl
theorem as_b2j (P : Params) : attrOk (K P) 242 (s "b2j") = true := by kernel_rfl
theorem as_bjunk (P : Params) : attrOk (K P) 242 (s "bjunk") = true := by kernel_rfl
theorem kp135 (P : Params) : keepIn (K P) (.ref 135) = true := by kernel_rfl
structure FlmP where
 me : Nat
 ia : Nat
 ib : Nat
 d : Nat
 ju : Nat
 nn : Nat
 alo : Int
 ahi : Int
 blo : Int
 bhi : Int
@[reducible] noncomputable def flmL (P : FlmP) (bi bj bs : Int) (dj : Nat) (v14 v15 v16 v17 v18 : Option V) : List (Option V) := [some (.inst 242 P.me 0), some (.int P.alo), some (.int P.ahi), some (.int P.blo), some (.int P.bhi), some (.ref P.ia 0), some (.ref P.ib 0), some (.ref P.d 0), some (.bm "set.__contains__" (.ref P.ju 0)), some (.int bi), some (.int bj), some (.int bs), some (.ref dj 0), some (.ref P.nn 0), v14, v15, v16, v17, v18]
structure FlmB (P : FlmP) (xs ys : List Int) : Prop where
 la : xs.length < 1000
 lb : ys.length < 1000
 a0 : 0 ≤ P.alo
 a1 : P.alo ≤ P.ahi
 a2 : P.ahi ≤ xs.length
 b0 : 0 ≤ P.blo
 b2 : P.bhi ≤ ys.length
theorem int_at {xs : List Int} {p : Int} (h0 : 0 ≤ p) (h1 : p < xs.length) : ∃ v, xs[p.toNat]? = some v ∧ (xs.map V.int)[p.toNat]? = some (.int v) := by
 have : p.toNat < xs.length := by lia
 exact ⟨xs[p.toNat], List.getElem?_eq_getElem this, by rw [List.getElem?_map, List.getElem?_eq_getElem this]; rfl⟩
section
variable {c : Cx} {A : Around} {σ : St} {Q : V → St → Prop} {po : Nat} {M Op : V} {xs ys : List Int} {lj : Int → Nat} {P : FlmP} {dj : Nat} {v14 v15 v16 v17 v18 : Option V} {H' : AH}
inductive FlmW (P : FlmP) (xs ys : List Int) (dj : Nat) (v14 v15 v16 v17 v18 : Option V) (H' : AH) (m : Int → Int → Nat) : Nat → St → Prop
 | mk (bi bj bs : Int) (blk : Blk xs ys P.alo P.ahi P.blo P.bhi bi bj bs) (nc : bs = 0 → NoCom xs ys P.alo P.ahi P.blo P.bhi) : FlmW P xs ys dj v14 v15 v16 v17 v18 H' m (m bi bs) ⟨flmL P bi bj bs dj v14 v15 v16 v17 v18, H'⟩
inductive FlmC (P : FlmP) (xs ys : List Int) (dj : Nat) (v14 v15 v16 v17 v18 : Option V) (H' : AH) : St → Prop
 | mk (bi bj bs : Int) (blk : Blk xs ys P.alo P.ahi P.blo P.bhi bi bj bs) (nc : bs = 0 → NoCom xs ys P.alo P.ahi P.blo P.bhi) : FlmC P xs ys dj v14 v15 v16 v17 v18 H' ⟨flmL P bi bj bs dj v14 v15 v16 v17 v18, H'⟩
noncomputable def flmM (P : FlmP) (bi bs : Int) : Nat := (P.ahi - bi - bs).toNat
variable (B : FlmB P xs ys) (ga : H'.get P.ia 0 = some (.list (xs.map .int))) (gb : H'.get P.ib 0 = some (.list (ys.map .int))) (gj : H'.get P.ju 0 = some (.set (fun _ => false) 0))
include B gb gj
theorem flm_l3 {kn kb kc : St → Prop} {kr : V → St → Prop} (hn : ∀ σ', FlmC P xs ys dj v14 v15 v16 v17 v18 H' σ' → kn σ') {σ : St} (h : FlmC P xs ys dj v14 v15 v16 v17 v18 H' σ) : vcS A l3_flm c σ ⟨kn, kb, kc, kr⟩ := by
 cases h with
 | mk bi bj bs blk nc =>
 refine .mk (FlmW P xs ys dj v14 v15 v16 v17 v18 H' fun bi _ => bi.toNat) bi.toNat (.mk bi bj bs blk nc) fun n σ' I => ?_
 cases I with
 | mk bi bj bs blk nc =>
 refine sel_d (fun h1 => sel_d (fun h2 => ?_) fun _ => hn _ ⟨bi, bj, bs, blk, nc⟩) fun _ => hn _ ⟨bi, bj, bs, blk, nc⟩
 have b0 := B.b0; have b2 := B.b2; have lb := B.lb; have j1 := blk.j1; have k0 := blk.k0
 obtain ⟨yv, ey1, ey2⟩ := int_at (xs := ys) (p := bj - 1) (by lia) (by grind)
 exact item_list gb (by grind) (by grind) ey2 (bm_contains gj (sel_f Bool.false_ne_true (hn _ ⟨bi, bj, bs, blk, nc⟩)))
theorem flm_l4 {kn kb kc : St → Prop} {kr : V → St → Prop} (hn : ∀ σ', FlmC P xs ys dj v14 v15 v16 v17 v18 H' σ' → kn σ') {σ : St} (h : FlmC P xs ys dj v14 v15 v16 v17 v18 H' σ) : vcS A l4_flm c σ ⟨kn, kb, kc, kr⟩ := by
 cases h with
 | mk bi bj bs blk nc =>
 refine .mk (FlmW P xs ys dj v14 v15 v16 v17 v18 H' (flmM P)) (flmM P bi bs) (.mk bi bj bs blk nc) fun n σ' I => ?_
 cases I with
 | mk bi bj bs blk nc =>
 refine sel_d (fun h1 => sel_d (fun h2 => ?_) fun _ => hn _ ⟨bi, bj, bs, blk, nc⟩) fun _ => hn _ ⟨bi, bj, bs, blk, nc⟩
 have b0 := B.b0; have b2 := B.b2; have lb := B.lb; have j0 := blk.j0; have k0 := blk.k0
 obtain ⟨yv, ey1, ey2⟩ := int_at (xs := ys) (p := bj + bs) (by grind) (by lia)
 exact item_list gb (by grind) (by lia) ey2 (bm_contains gj (sel_f Bool.false_ne_true (hn _ ⟨bi, bj, bs, blk, nc⟩)))
include ga
theorem flm_l1 {kn kb kc : St → Prop} {kr : V → St → Prop} (hn : ∀ σ', FlmC P xs ys dj v14 v15 v16 v17 v18 H' σ' → kn σ') {σ : St} (h : FlmC P xs ys dj v14 v15 v16 v17 v18 H' σ) : vcS A l1_flm c σ ⟨kn, kb, kc, kr⟩ := by
 cases h with
 | mk bi bj bs blk nc =>
 refine .mk (FlmW P xs ys dj v14 v15 v16 v17 v18 H' fun bi _ => bi.toNat) bi.toNat (.mk bi bj bs blk nc) fun n σ' I => ?_
 cases I with
 | mk bi bj bs blk nc =>
 refine sel_d (fun h1 => sel_d (fun h2 => ?_) fun _ => hn _ ⟨bi, bj, bs, blk, nc⟩) fun _ => hn _ ⟨bi, bj, bs, blk, nc⟩
 have a0 := B.a0; have a2 := B.a2; have la := B.la; have b0 := B.b0; have b2 := B.b2; have lb := B.lb; have i1 := blk.i1; have j1 := blk.j1; have k0 := blk.k0
 obtain ⟨yv, ey1, ey2⟩ := int_at (xs := ys) (p := bj - 1) (by grind) (by grind)
 obtain ⟨xv, ex1, ex2⟩ := int_at (xs := xs) (p := bi - 1) (by lia) (by grind)
 have u0 : 0 ≤ bj - 1 := by grind
 have u1 : bj - 1 < 1000000 := by grind
 have u2 : bi.toNat - 1 < bi.toNat := by lia
 refine item_list gb u0 u1 ey2 (bm_contains gj (sel_f Bool.false_ne_true (item_list ga (by grind) (by grind) ex2 (item_list gb u0 u1 ey2 (sel_d (fun h3 => ?_) fun _ => hn _ ⟨bi, bj, bs, blk, nc⟩)))))
 exact ⟨_, by lia, .mk (bi - 1) (bj - 1) (bs + 1) (blk.left h1 h2 (by rw [ex1, ey1, h3])) fun h => by grind⟩
theorem flm_l2 {kn kb kc : St → Prop} {kr : V → St → Prop} (hn : ∀ σ', FlmC P xs ys dj v14 v15 v16 v17 v18 H' σ' → kn σ') {σ : St} (h : FlmC P xs ys dj v14 v15 v16 v17 v18 H' σ) : vcS A l2_flm c σ ⟨kn, kb, kc, kr⟩ := by
 cases h with
 | mk bi bj bs blk nc =>
 refine .mk (FlmW P xs ys dj v14 v15 v16 v17 v18 H' (flmM P)) (flmM P bi bs) (.mk bi bj bs blk nc) fun n σ' I => ?_
 cases I with
 | mk bi bj bs blk nc =>
 refine sel_d (fun h1 => sel_d (fun h2 => ?_) fun _ => hn _ ⟨bi, bj, bs, blk, nc⟩) fun _ => hn _ ⟨bi, bj, bs, blk, nc⟩
 have a0 := B.a0; have a2 := B.a2; have la := B.la; have b0 := B.b0; have b2 := B.b2; have lb := B.lb; have i0 := blk.i0; have j0 := blk.j0; have k0 := blk.k0
 obtain ⟨yv, ey1, ey2⟩ := int_at (xs := ys) (p := bj + bs) (by grind) (by grind)
 obtain ⟨xv, ex1, ex2⟩ := int_at (xs := xs) (p := bi + bs) (by grind) (by lia)
 have u0 : 0 ≤ bj + bs := by grind
 have u1 : bj + bs < 1000000 := by grind
 refine item_list gb u0 u1 ey2 (bm_contains gj (sel_f Bool.false_ne_true (item_list ga (by grind) (by lia) ex2 (item_list gb u0 u1 ey2 (sel_d (fun h3 => ?_) fun _ => hn _ ⟨bi, bj, bs, blk, nc⟩)))))
 exact ⟨flmM P bi (bs + 1), by unfold flmM; lia, .mk bi bj (bs + 1) (blk.right h1 h2 (by rw [ex1, ey1, h3])) fun h => by grind⟩
omit B gb gj ga
inductive FlmI (P : FlmP) (xs ys : List Int) (H : AH) (n : Nat) : St → Prop
 | mk (bi bj bs : Int) (dj : Nat) (m : List (Int × Int)) (ep : Nat) (v14 v15 v16 v17 v18 : Option V) (H' : AH) (sm : Same (fun j => H.length ≤ j) H H') (gn : H'.get P.nn 0 = some (.list [])) (gd : H'.get dj 0 = some (.dict (toV m) ep))
   (blk : Blk xs ys P.alo P.ahi P.blo P.bhi bi bj bs) (nc : bs = 0 → NoCom xs ys P.alo (P.alo + n) P.blo P.bhi) (jl : JL xs ys P.alo P.blo P.bhi (P.alo + n) m) : FlmI P xs ys H n ⟨flmL P bi bj bs dj v14 v15 v16 v17 v18, H'⟩
structure FlmR (P : FlmP) (xs ys : List Int) (H : AH) (row x : Int) (z dj nd : Nat) (m : List (Int × Int)) : Prop where
 r0 : P.alo ≤ row
 r1 : row < P.ahi
 hx : xs[row.toNat]? = some x
 jl : JL xs ys P.alo P.blo P.bhi row m
 hd : dj ≠ nd
 hz : z ≠ nd
 hn : P.nn ≠ nd
 hH : H.length ≤ nd
inductive FlmJ (P : FlmP) (xs ys : List Int) (H : AH) (row x : Int) (z dj nd : Nat) (m : List (Int × Int)) (ep : Nat) (t : Nat) : St → Prop
 | mk (bi bj bs : Int) (m2 : List (Int × Int)) (ep2 : Nat) (v17 v18 : Option V) (H2 : AH) (sm : Same (fun j => H.length ≤ j) H H2) (gn : H2.get P.nn 0 = some (.list [])) (gd : H2.get dj 0 = some (.dict (toV m) ep)) (ge : H2.get nd 0 = some (.dict (toV m2) ep2)) (gz : H2.get z 0 = some (.list ((posn ys x ys.length).map .int)))
   (blk : Blk xs ys P.alo P.ahi P.blo P.bhi bi bj bs) (nc : bs = 0 → NoCom xs ys P.alo row P.blo P.bhi ∧ ∀ p ∈ (posn ys x ys.length).take t, ¬ (P.blo ≤ p ∧ p < P.bhi)) (jl : JL xs ys P.alo P.blo P.bhi (row + 1) m2) (ml : m2.length ≤ t) :
   FlmJ P xs ys H row x z dj nd m ep t ⟨flmL P bi bj bs dj (some (.int row)) (some (.bm "dict.get" (.ref dj 0))) (some (.ref nd 0)) v17 v18, H2⟩
section
variable {H : AH} {row x : Int} {z nd : Nat} {m : List (Int × Int)} {ep : Nat}
theorem FlmR.none (R : FlmR P xs ys H row x z dj nd m) (h : NoCom xs ys P.alo row P.blo P.bhi) (h2 : ∀ p ∈ posn ys x ys.length, ¬ (P.blo ≤ p ∧ p < P.bhi)) (B : FlmB P xs ys) : NoCom xs ys P.alo (row + 1) P.blo P.bhi := fun p q p0 p1 q0 q1 => by
 have b0 := B.b0; have b2 := B.b2
 by_cases hp : p = row
 ·subst hp
  rw [R.hx]
  exact fun e2 => h2 q (mem_posn.mpr ⟨q.toNat, by grind, e2.symm, by lia⟩) ⟨q0, q1⟩
 ·exact h p q p0 (by grind) q0 q1
theorem FlmR.run (R : FlmR P xs ys H row x z dj nd m) (B : FlmB P xs ys) {jn : Nat} (jeq : ys[jn]? = some x) (h1 : P.blo ≤ (jn : Int)) (h2 : (jn : Int) < P.bhi) : ∃ w : Int, (look (toV m) ((jn : Int) - 1)).getD (.int 0) = .int w ∧ 0 ≤ w ∧ Blk xs ys P.alo (row + 1) P.blo P.bhi (row + 1 - (w + 1)) ((jn : Int) - (w + 1) + 1) (w + 1) := by
 have e0 : ∀ w : Int, row + 1 - (w + 1) = row - w := fun w => by grind
 have e1 : ∀ w : Int, (jn : Int) - (w + 1) + 1 = jn - w := fun w => by grind
 have r0 := R.r0
 have hx := R.hx
 rcases look_toV (m := m) (k := (jn : Int) - 1) with h | ⟨v, h1', h2'⟩
 ·rw [h]
  refine ⟨0, rfl, Int.le_refl _, ?_⟩
  rw [e0, e1, Int.sub_zero, Int.sub_zero]
  refine ⟨r0, by exact Int.le_refl (row + (0 + 1)), h1, by assumption, by decide, fun u h0 hu => ?_⟩
  rw [show u = 0 by lia, Int.add_zero, Int.add_zero, Int.toNat_natCast, hx, jeq]
 ·rw [h2']
  obtain ⟨v1, bb⟩ := R.jl _ h1'
  have v1 : 1 ≤ v := v1
  have bb : Blk xs ys P.alo row P.blo P.bhi (row - v) ((jn : Int) - 1 - v + 1) v := bb
  refine ⟨v, rfl, by lia, ?_⟩
  rw [show (jn : Int) - 1 - v + 1 = jn - v by grind] at bb
  rw [e0, e1]
  refine (bb.wide (ahi' := row + 1) (Int.le_of_lt (Int.le_refl (row + 1)))).right (by grind) (by lia) ?_
  rw [show row - v + v = row by grind, show (jn : Int) - v + v = jn by grind, hx, Int.toNat_natCast, jeq]
theorem flm_row (G : Good c) (R : FlmR P xs ys H row x z dj nd m) (B : FlmB P xs ys) {n : Nat} (hn : P.alo + n = row) {bi bj bs : Int} {v17 v18 : Option V} (sm : Same (fun j => H.length ≤ j) H H') (gn : H'.get P.nn 0 = some (.list [])) (gd : H'.get dj 0 = some (.dict (toV m) ep)) (ge : H'.get nd 0 = some (.dict (toV []) 0)) (gz : H'.get z 0 = some (.list ((posn ys x ys.length).map .int)))
  (blk : Blk xs ys P.alo P.ahi P.blo P.bhi bi bj bs) (nc : bs = 0 → NoCom xs ys P.alo row P.blo P.bhi) {K : Kt} (hK : ∀ σ', FlmI P xs ys H (n + 1) σ' → K.next σ') :
  EachP (.ref z 0) (fun σ₁ => vcSs A [.assign [.loc 12] (.loc 16)] c σ₁ K) (fun I j Y σ' => ∀ h0 ft, vcT1 (c.at h0 ft) A (.loc 17) Y σ' fun σ₂ => vcSs A i_flm (c.at h0 ft) σ₂ ⟨I (j + 1), fun σ₁ => vcSs A [.assign [.loc 12] (.loc 16)] c σ₁ K, I (j + 1), K.ret⟩)
   ⟨flmL P bi bj bs dj (some (.int row)) (some (.bm "dict.get" (.ref dj 0))) (some (.ref nd 0)) v17 v18, H'⟩ := by
 have erow : P.alo + ((n + 1 : Nat) : Int) = row + 1 := by lia
 have done : ∀ {bi bj bs : Int} {m2 : List (Int × Int)} {ep2 : Nat} {v17 v18 : Option V} {H2 : AH}, Same (fun j => H.length ≤ j) H H2 → H2.get P.nn 0 = some (.list []) → H2.get nd 0 = some (.dict (toV m2) ep2) → Blk xs ys P.alo P.ahi P.blo P.bhi bi bj bs → (bs = 0 → NoCom xs ys P.alo row P.blo P.bhi ∧ ∀ p ∈ posn ys x ys.length, ¬ (P.blo ≤ p ∧ p < P.bhi)) → JL xs ys P.alo P.blo P.bhi (row + 1) m2 →
   vcSs A [.assign [.loc 12] (.loc 16)] c ⟨flmL P bi bj bs dj (some (.int row)) (some (.bm "dict.get" (.ref dj 0))) (some (.ref nd 0)) v17 v18, H2⟩ K :=
  fun sm gn ge blk nc jl => hK _ (.mk _ _ _ nd _ _ _ _ _ _ _ _ sm gn ge blk (fun h => by rw [erow]; exact R.none (nc h).1 (nc h).2 B) (by rw [erow]; exact jl))
 refine .mk _ 0 (FlmJ P xs ys H row x z dj nd m ep) (sq_list gz) (.mk bi bj bs [] 0 v17 v18 H' sm gn gd ge gz blk (fun h => ⟨nc h, fun p hp => nomatch hp⟩) (fun p hp => nomatch hp) (Nat.le_refl _)) (fun σ' I => ?_) (fun t σ' Y I hj => ?_)
 ·cases I with
  | mk bi bj bs m2 ep2 v17 v18 H2 sm gn gd ge gz blk nc jl ml =>
  rw [List.length_map, List.take_length] at nc
  exact ⟨sq_list gz, done sm gn ge blk nc jl⟩
 ·cases I with
  | mk bi bj bs m2 ep2 v17 v18 H2 sm gn gd ge gz blk nc jl ml =>
  refine ⟨sq_list gz, fun h0 ft => ?_⟩
  rw [List.getElem?_map] at hj
  obtain ⟨jj, hjx, e⟩ := Option.map_eq_some_iff.mp hj
  subst e
  obtain ⟨jn, jlt, jeq, e⟩ := mem_posn.mp (List.mem_of_getElem? hjx)
  subst e
  obtain ⟨tlt, hjt⟩ := List.getElem?_eq_some_iff.mp hjx
  refine sel_d (fun hb => ?_) (fun hb => sel_d (fun hb' => ?_) (fun hb' => ?_))
  ·refine .mk bi bj bs m2 ep2 _ _ H2 sm gn gd ge gz blk (fun h => ⟨(nc h).1, fun p hp => ?_⟩) jl (Nat.le_succ_of_le ml)
   rw [List.take_add_one, hjx] at hp
   rcases List.mem_append.mp hp with h' | h'
   ·exact (nc h).2 p h'
   ·rw [List.mem_singleton.mp h']; exact fun q => Int.not_le.mpr hb q.1
  ·refine done sm gn ge blk (fun h => ⟨(nc h).1, fun p hp => ?_⟩) jl
   obtain ⟨u, hu, eu⟩ := List.getElem_of_mem hp
   rcases Nat.lt_or_ge u t with h' | h'
   ·refine (nc h).2 p ?_
    rw [List.mem_take_iff_getElem]
    exact ⟨u, by lia, eu⟩
   ·have hle : (jn : Int) ≤ p := by
     rcases Nat.eq_or_lt_of_le h' with h2 | h2
     ·subst h2; rw [← eu, hjt]; exact Int.le_refl _
     ·rw [← eu, ← hjt]; exact Int.le_of_lt (List.pairwise_iff_getElem.mp (posn_sorted (ys := ys) (k := x) (n := ys.length)) t u tlt hu h2)
    exact fun q => Int.not_lt.mpr (Int.le_trans hb' hle) q.2
  ·refine bm_get G.top gd ?_
   obtain ⟨w, ew, w0, hw⟩ := R.run B jeq (Int.not_lt.mp hb) (Int.not_le.mp hb')
   rw [ew]
   have lm : (toV m2).length < 1000000 := by
    have := posn_le (ys := ys) (k := x) (n := ys.length); have := B.lb
    rw [toV, List.length_map]; lia
   refine set_dict ge lm fun ep3 => ?_
   obtain ⟨m3, em3, hm3, lm3⟩ := stV_toV (m := m2) (k := (jn : Int)) (v := w + 1)
   rw [em3]
   have jl3 : JL xs ys P.alo P.blo P.bhi (row + 1) m3 := fun p hp => (hm3 p hp).elim (jl p) fun h => by
    subst h
    exact ⟨by show 1 ≤ w + 1; lia, hw⟩
   have sm3 : Same (fun j => H.length ≤ j) H (H2.put nd 0 (.dict (toV m3) ep3)) := sm.put ge (.inl R.hH)
   have gn3 := gp_ne (o := .dict (toV m3) ep3) ge R.hn gn
   have gd3 := gp_ne (o := .dict (toV m3) ep3) ge R.hd gd
   have gz3 := gp_ne (o := .dict (toV m3) ep3) ge R.hz gz
   have ge3 := gp_eq (o := .dict (toV m3) ep3) ge
   generalize H2.put nd 0 (.dict (toV m3) ep3) = H3 at sm3 gn3 gd3 gz3 ge3 ⊢
   have lm4 : m3.length ≤ t + 1 := Nat.le_trans lm3 (Nat.succ_le_succ ml)
   refine sel_d (fun hc => ?_) (fun hc => ?_)
   ·refine .mk (row - (w + 1) + 1) ((jn : Int) - (w + 1) + 1) (w + 1) m3 ep3 _ _ H3 sm3 gn3 gd3 ge3 gz3 ?_ (fun h => by grind) jl3 lm4
    rw [show row - (w + 1) + 1 = row + 1 - (w + 1) by grind]
    exact hw.wide (Int.add_one_le_iff.mpr R.r1)
   ·exact .mk bi bj bs m3 ep3 _ _ H3 sm3 gn3 gd3 ge3 gz3 blk (fun h => by grind) jl3 lm4
end
theorem rng_seq {a b : Int} {H : AH} (h : 0 ≤ a ∧ a ≤ 1000000 ∧ 0 ≤ b ∧ b ≤ 1000000) : seqOf (.rng a b) H = some ((List.range (b - a).toNat).map (fun (k : Nat) => V.int (a + (k : Int))), 0) := if_pos h
theorem range_at {a : Int} {m n : Nat} {Y : V} (h : ((List.range m).map (fun (k : Nat) => V.int (a + (k : Int))))[n]? = some Y) : n < m ∧ Y = .int (a + n) := by
 rw [List.getElem?_map] at h
 obtain ⟨k, hk, e⟩ := Option.map_eq_some_iff.mp h
 obtain ⟨h1, h2⟩ := List.getElem?_eq_some_iff.mp hk
 rw [List.getElem_range] at h2
 rw [List.length_range] at h1
 subst h2
 exact ⟨h1, e.symm⟩
theorem flm_rows {H : AH} {kn : St → Prop} {kr : V → St → Prop} (G : Good c) (S : SMat H P.me P.ia P.ib P.d P.ju po M Op xs ys lj) (B : FlmB P xs ys) (hnn : P.nn = H.length + 1) {σ : St} (h0 : FlmI P xs ys H 0 σ) (hK : ∀ σ', FlmI P xs ys H (P.ahi - P.alo).toNat σ' → kn σ') :
  EachP (.rng P.alo P.ahi) kn (fun I j Y σ' => ∀ h0 ft, vcT1 (c.at h0 ft) A (.loc 14) Y σ' fun σ₂ => vcSs A rb_flm (c.at h0 ft) σ₂ ⟨I (j + 1), kn, I (j + 1), kr⟩) σ := by
 have a0 := B.a0; have a1 := B.a1; have a2 := B.a2; have la := B.la
 cases h0 with
 | mk bi bj bs dj m ep v14 v15 v16 v17 v18 H' sm gn gd blk nc jl =>
 have i0 : FlmI P xs ys H 0 ⟨flmL P bi bj bs dj v14 v15 v16 v17 v18, H'⟩ := .mk bi bj bs dj m ep v14 v15 v16 v17 v18 H' sm gn gd blk nc jl
 clear sm gn gd blk nc jl
 have sqR : ∀ H', seqOf (.rng P.alo P.ahi) H' = some ((List.range (P.ahi - P.alo).toNat).map (fun (k : Nat) => V.int (P.alo + (k : Int))), 0) := fun H' => rng_seq ⟨a0, by lia, by lia, by lia⟩
 refine .mk _ 0 (FlmI P xs ys H) (sqR _) i0 (fun σ' I => ⟨sqR _, hK _ (by rw [List.length_map, List.length_range] at I; exact I)⟩) (fun n σ' Y I hj => ⟨sqR _, fun h0 ft => ?_⟩)
 clear i0 hK
 obtain ⟨hn, eY⟩ := range_at hj
 subst eY
 cases I with
 | mk bi bj bs dj m ep v14 v15 v16 v17 v18 H' sm gn gd blk nc jl =>
 have S' := S.same sm
 obtain ⟨ks, epd, gdd, hks⟩ := S'.dict
 have hr : (P.alo + (n : Int)).toNat < xs.length := by lia
 refine attr_get gd ?_
 refine getM_dict (ga gdd) F.slot_dict_get F.type_dict_get ?_
 refine item_list (xs := xs.map V.int) (Y := .int xs[(P.alo + (n : Int)).toNat]) (ga S'.la) (by grind) (by grind) (by rw [List.getElem?_map, List.getElem?_eq_getElem hr]; rfl) ?_
 refine get2_dict G.top (ga gdd) ?_
 obtain ⟨z, ez, gz⟩ : ∃ z, (look (ks.map fun k => (k, V.ref (lj k) 0)) xs[(P.alo + (n : Int)).toNat]).getD (.ref P.nn 0) = .ref z 0 ∧ H'.get z 0 = some (.list ((posn ys xs[(P.alo + (n : Int)).toNat] ys.length).map .int)) := by
  rw [look_map]
  by_cases hx : xs[(P.alo + (n : Int)).toNat] ∈ ks
  ·rw [if_pos hx]
   exact ⟨_, rfl, S'.idx _ ((hks _).mp hx)⟩
  ·rw [if_neg hx]
   refine ⟨P.nn, rfl, ?_⟩
   rw [posn_none (fun h => hx ((hks _).mpr h))]
   exact gn
 rw [ez]
 have hx0 : xs[(P.alo + (n : Int)).toNat]? = some xs[(P.alo + (n : Int)).toNat] := List.getElem?_eq_getElem hr
 exact flm_row G.at ⟨by grind, by grind, hx0, jl, Nat.ne_of_lt (lt_len gd), Nat.ne_of_lt (lt_len gz), Nat.ne_of_lt (lt_len gn), sm.1⟩ B rfl sm.app (ga gn) (ga gd) ge (ga gz) blk nc fun _ h => h
theorem flm_vc {H : AH} {Kt : Kt} (G : Good c) (rm : Room 2 A) (S : SMat H P.me P.ia P.ib P.d P.ju po M Op xs ys lj) (B : FlmB P xs ys) (b1 : P.blo ≤ P.bhi) (hnn : P.nn = H.length + 1)
  (q : ∀ loc H' i j k, Same (fun _ => False) H H' → Blk xs ys P.alo P.ahi P.blo P.bhi i j k → (k = 0 → NoCom xs ys P.alo P.ahi P.blo P.bhi) → Kt.ret (.mat [.int i, .int j, .int k]) ⟨loc, H'⟩) :
  vcSs A t_flm c ⟨[some (.inst 242 P.me 0), some (.int P.alo), some (.int P.ahi), some (.int P.blo), some (.int P.bhi), none, none, none, none, none, none, none, none, none, none, none, none, none, none], H⟩ Kt := by
 have a1 := B.a1
 refine get_attr G.top (k := 1) (by decide) rfl (as_a _) S.self rfl rfl rfl ?_
 refine get_attr G.top (k := 2) (by decide) rfl (as_b _) S.self rfl rfl rfl ?_
 refine get_attr G.top (k := 7) (by decide) rfl (as_b2j _) S.self rfl rfl rfl ?_
 refine get_attr G.top (k := 8) (by decide) rfl (as_bjunk _) S.self rfl rfl rfl ?_
 refine attr_contains S.junk ?_
 have hl1 : (H ++ [Fam.one (O.dict [] 0)]).length = P.nn := by rw [List.length_append, hnn]; rfl
 have gd1 : ((H ++ [Fam.one (O.dict [] 0)]) ++ [Fam.one (O.list [])]).get H.length 0 = some (.dict (toV []) 0) := ga ge
 have gn1 : ((H ++ [Fam.one (O.dict [] 0)]) ++ [Fam.one (O.list [])]).get P.nn 0 = some (.list []) := by rw [← hl1]; exact ge
 have sm1 : Same (fun j => H.length ≤ j) H ((H ++ [Fam.one (O.dict [] 0)]) ++ [Fam.one (O.list [])]) := Same.refl.app.app
 have I0 : FlmI P xs ys H 0 ⟨flmL P P.alo P.blo 0 H.length none none none none none, (H ++ [Fam.one (O.dict [] 0)]) ++ [Fam.one (O.list [])]⟩ :=
  .mk _ _ _ _ [] 0 _ _ _ _ _ _ sm1 gn1 gd1 ⟨Int.le_refl _, by lia, Int.le_refl _, by lia, Int.le_refl _, fun t h0 ht => by grind⟩ (fun _ p q h1 h2 => by lia) (fun p hp => nomatch hp)
 refine range2 (flm_rows G S B hnn ?_ fun σ' I => ?_)
 ·rw [hl1]; exact I0
 cases I with
 | mk bi bj bs dj m ep v14 v15 v16 v17 v18 H' sm gn gd blk nc jl =>
 rw [show P.alo + (((P.ahi - P.alo).toNat : Nat) : Int) = P.ahi by grind] at nc
 have S' := S.same sm
 refine flm_l1 B S'.la S'.lb S'.junk (fun σ' h => ?_) (.mk bi bj bs blk nc)
 refine flm_l2 B S'.la S'.lb S'.junk (fun σ' h => ?_) h
 refine flm_l3 B S'.lb S'.junk (fun σ' h => ?_) h
 refine flm_l4 B S'.lb S'.junk (fun σ' h => ?_) h
 cases h with
 | mk bi bj bs blk nc => exact ⟨keep_fn G kp135, mk_match G rm (q _ H' bi bj bs sm.anew blk nc)⟩
theorem call_flm {l₀ : List (Option V)} {H₀ : AH} {me ia ib d ju : Nat} {alo ahi blo bhi : Int} (G : Good c) (rm : Room 3 A) (S : SMat H₀ me ia ib d ju po M Op xs ys lj) (la : xs.length < 1000) (lb : ys.length < 1000)
  (a0 : 0 ≤ alo) (a1 : alo ≤ ahi) (a2 : ahi ≤ xs.length) (b0 : 0 ≤ blo) (b1 : blo ≤ bhi) (b2 : bhi ≤ ys.length)
  (q : ∀ H' i j k, Same (fun _ => False) H₀ H' → Blk xs ys alo ahi blo bhi i j k → (k = 0 → NoCom xs ys alo ahi blo bhi) → Q (.mat [.int i, .int j, .int k]) ⟨l₀, H'⟩) :
  Ca c A ⟨l₀, H₀⟩ (.obj 196) [.inst 242 me 0, .int alo, .int ahi, .int blo, .int bhi] Q := by
 refine (call_code (Ys := [.inst 242 me 0, .int alo, .int ahi, .int blo, .int bhi]) G (rm.less (by decide)) (ok_flm _) (bd5 G.top fun W v0 v1 v2 v3 v4 r0 r1 r2 r3 r4 => ?_) (Nat.le_of_ble_eq_true rfl) fun c' F' G' hw L => ?_).ca
 ·exact ⟨[v0, v1, v2, v3, v4], fun S => by kernel_rfl, VRs.cons r0 (VRs.cons r1 (VRs.cons r2 (VRs.cons r3 (VRs.cons r4 (VRs.nil _)))))⟩
 ·exact flm_vc (P := ⟨me, ia, ib, d, ju, H₀.length + 1, alo, ahi, blo, bhi⟩) G' rm.deeper S ⟨la, lb, a0, a1, a2, b0, b2⟩ b1 rfl fun loc => q
end
end
section
noncomputable def PerN (n : Nat) (p : Array Nat) : Prop := p.toList.Perm (List.range n)
noncomputable def AscN (k : Nat → Int) (p : Array Nat) (m : Nat) : Prop := ∀ i j, i < j → j < m → k (p.getD i 0) < k (p.getD j 0)
section
variable {n : Nat} {k : Nat → Int} {p : Array Nat}
theorem PerN.size (P : PerN n p) : p.size = n := by
 have := List.Perm.length_eq P
 simpa using this
theorem PerN.lt (P : PerN n p) {i : Nat} (h : i < n) : p.getD i 0 < n := by
 have hs : i < p.size := by rw [P.size]; exact h
 have e : p.getD i 0 = p[i] := by simp [Array.getD, hs]
 rw [e]
 have : p[i] ∈ p.toList := by simp
 exact List.mem_range.mp ((List.Perm.mem_iff P).mp this)
theorem PerN.inj (P : PerN n p) {i j : Nat} (hi : i < n) (hj : j < n) (h : i ≠ j) : p.getD i 0 ≠ p.getD j 0 := by
 have hs : i < p.size := by rw [P.size]; exact hi
 have hs' : j < p.size := by rw [P.size]; exact hj
 have e : p.getD i 0 = p.toList[i]'(by simpa using hs) := by simp [Array.getD, hs]
 have e' : p.getD j 0 = p.toList[j]'(by simpa using hs') := by simp [Array.getD, hs']
 have nd : p.toList.Nodup := (List.Perm.nodup_iff P).mpr List.nodup_range
 rw [e, e']
 intro q
 exact h ((List.getElem_inj nd).mp q)
theorem PerN.of {q : Array Nat} (P : PerN n p) (h : q.Perm p) : PerN n q := List.Perm.trans (by simpa [Array.perm_iff_toList_perm] using h) P
theorem getD_get {p : Array Nat} {i : Nat} : p.getD i 0 = (p[i]?).getD 0 := by simp [Array.getD_eq_getD_getElem?]
theorem rev_getD {m : Nat} (P : PerN n p) (hm : m ≤ n) (i : Nat) : (kas_rev p 0 m).getD i 0 = if i < m then p.getD (m - 1 - i) 0 else p.getD i 0 := by
 rw [getD_get]
 unfold kas_rev
 rw [getElem?_mirror_all (by rw [P.size]; exact hm)]
 by_cases h : i < m
 ·rw [if_pos ⟨Nat.zero_le _, h⟩, if_pos h, getD_get, Nat.zero_add]
 ·rw [if_neg (fun q => h q.2), if_neg h, getD_get]
theorem AscN.rev {m : Nat} (P : PerN n p) (hm : m ≤ n) (D : AscN (fun i => - k i) p m) : AscN k (kas_rev p 0 m) m := fun i j h1 h2 => by
 have hi := Nat.lt_trans h1 h2
 rw [rev_getD P hm, rev_getD P hm, if_pos hi, if_pos h2]
 exact Int.lt_of_neg_lt_neg (D _ _ (Nat.sub_lt_sub_left (Nat.lt_of_lt_of_le h1 (Nat.le_sub_one_of_lt h2)) h1) (Nat.sub_one_sub_lt_of_lt hi))
theorem AscN.snoc {m : Nat} (a : AscN k p (m + 1)) (h : k (p.getD m 0) < k (p.getD (m + 1) 0)) : AscN k p (m + 1 + 1) := fun x y h1 h2 => by
 rcases Nat.lt_or_eq_of_le (Nat.le_of_lt_succ h2) with h3 | e
 ·exact a x y h1 h3
 ·subst e
  rcases Nat.lt_or_eq_of_le (Nat.le_of_lt_succ h1) with h4 | e
  ·exact Int.lt_trans (a x m h4 (Nat.lt_succ_self m)) h
  ·subst e; exact h
theorem AscN.one : AscN k p (0 + 1) := fun x y h1 h2 => absurd (Nat.lt_of_lt_of_le h1 (Nat.le_of_lt_succ h2)) (Nat.not_lt_zero _)
variable {I : Shared → Prop} {cmp : Nat → Nat → (Bool → Shared → Prop) → Shared → Prop} {α : Type} {Q : α → Shared → Prop} {s : Shared}
theorem kas_t {T₁ T₂ : KasT α} (h : T₁.kasWp cmp Q s) : (if true = true then T₁ else T₂).kasWp cmp Q s := by rw [if_pos rfl]; exact h
theorem kas_f {T₁ T₂ : KasT α} (h : T₂.kasWp cmp Q s) : (if false = true then T₁ else T₂).kasWp cmp Q s := by rw [if_neg Bool.false_ne_true]; exact h
theorem kas_z {T₁ T₂ : KasT α} (h : T₂.kasWp cmp Q s) : (if 0 > 0 then T₁ else T₂).kasWp cmp Q s := by rw [if_neg (Nat.lt_irrefl 0)]; exact h
variable (hc : ∀ i j (C : Bool → Shared → Prop) s, i < n → j < n → i ≠ j → I s → (∀ s', I s' → C (decide (k i < k j)) s') → cmp i j C s)
variable (hk : ∀ i j, i < n → j < n → k i = k j → i = j)
include hc hk
theorem ask_wp {T : Bool → KasT α} {x y : Nat} (P : PerN n p) (hx : x < n) (hy : y < n) (ne : x ≠ y) (i : I s) (t : k (p.getD x 0) < k (p.getD y 0) → ∀ s', I s' → (T true).kasWp cmp Q s') (f : k (p.getD y 0) < k (p.getD x 0) → ∀ s', I s' → (T false).kasWp cmp Q s') : (KasT.ask (p.getD x 0) (p.getD y 0) T).kasWp cmp Q s := by
 refine hc _ _ _ _ (P.lt hx) (P.lt hy) (P.inj hx hy ne) i fun s' i' => ?_
 by_cases h : k (p.getD x 0) < k (p.getD y 0)
 ·rw [decide_eq_true h]; exact t h s' i'
 ·rw [decide_eq_false h]
  exact f ((Int.lt_or_gt_of_ne fun e => P.inj hx hy ne (hk _ _ (P.lt hx) (P.lt hy) e)).resolve_left h) s' i'
theorem asc_wp (P : PerN n p) {f m : Nat} {s : Shared} {Q : Nat → Shared → Prop} (hm : m + 1 + f = n) (a : AscN k p (m + 1)) (i : I s)
  (q : ∀ m' s', m ≤ m' → m' + 1 ≤ n → AscN k p (m' + 1) → (m' + 1 < n → k (p.getD (m' + 1) 0) < k (p.getD m' 0)) → I s' → Q (m' + 1) s') : (kas_asc p f (m + 1)).kasWp cmp Q s := by
 induction f generalizing m s with
 | zero => exact q m s (Nat.le_refl _) (Nat.le_of_eq hm) a (fun h => absurd hm (Nat.ne_of_lt h)) i
 | succ f ih =>
  have lt : m + 1 < n := by rw [← hm]; exact Nat.lt_add_of_pos_right (Nat.succ_pos f)
  refine ask_wp hc hk P lt (Nat.lt_of_succ_lt lt) (Nat.succ_ne_self m) i (fun h s' i' => kas_t (q m s' (Nat.le_refl _) (Nat.le_of_lt lt) a (fun _ => h) i')) fun h s' i' => kas_f ?_
  exact ih ((Nat.add_right_comm (m + 1) 1 f).trans hm) (a.snoc h) i' fun m' s2 l1 => q m' s2 (Nat.le_of_lt l1)
theorem desc_wp (P : PerN n p) {f m : Nat} {s : Shared} {Q : Array Nat × Nat × Nat → Shared → Prop} (hm : m + 1 + f = n) (a : AscN (fun i => - k i) p (m + 1)) (i : I s)
  (q : ∀ m' s', m ≤ m' → m' + 1 ≤ n → AscN (fun i => - k i) p (m' + 1) → I s' → Q (p, m' + 1, 0) s') : (kas_desc f p (m + 1) 0).kasWp cmp Q s := by
 induction f generalizing m s with
 | zero => exact q m s (Nat.le_refl _) (Nat.le_of_eq hm) a i
 | succ f ih =>
  have lt : m + 1 < n := by rw [← hm]; exact Nat.lt_add_of_pos_right (Nat.succ_pos f)
  have l := Nat.lt_of_succ_lt lt
  have ne := Nat.succ_ne_self m
  refine ask_wp hc hk P lt l ne i (fun h s' i' => kas_t (kas_z ?_)) fun h s' i' => kas_f (ask_wp hc hk P l lt ne.symm i' (fun _ s2 i2 => kas_t (q m s2 (Nat.le_refl _) (Nat.le_of_lt lt) a i2)) fun h' => absurd (Int.lt_trans h h') (Int.lt_irrefl _))
  exact ih ((Nat.add_right_comm (m + 1) 1 f).trans hm) (a.snoc (Int.neg_lt_neg h)) i' fun m' s2 l1 => q m' s2 (Nat.le_of_lt l1)
noncomputable def CountQ (n : Nat) (k : Nat → Int) (I : Shared → Prop) (Q : Nat × Array Nat → Shared → Prop) : Prop := ∀ m p s, PerN n p → m + 1 ≤ n → AscN k p (m + 1) → I s → Q (m + 1, p) s
theorem tail3_wp {m : Nat} {Q : Nat × Array Nat → Shared → Prop} (P : PerN n p) (hm : m + 1 ≤ n) (D : AscN (fun i => - k i) p (m + 1)) (i : I s) (q : CountQ n k I Q) : (kas_tail3 (m + 1) n p).kasWp cmp Q s := by
 unfold kas_tail3
 rw [KasT.kasWp_bind]
 have P' : PerN n (kas_rev p 0 (m + 1)) := P.of (mirror_perm _ _ _ _)
 exact asc_wp hc hk P' (Nat.add_sub_of_le hm) (D.rev P hm) i fun m' s' _ l2 a _ i' => q m' _ s' P' l2 a i'
theorem count_wp {Q : Nat × Array Nat → Shared → Prop} (P : PerN n p) (hn : 2 ≤ n) (i : I s) (q : CountQ n k I Q) : (kas_count n p).kasWp cmp Q s := by
 unfold kas_count
 rw [KasT.kasWp_bind]
 refine asc_wp hc hk P (m := 0) (Nat.add_sub_of_le (Nat.le_of_lt hn)) AscN.one i fun m s' _ l2 a b i' => ?_
 by_cases e : m + 1 = n
 ·subst e
  rw [if_pos (beq_self_eq_true _)]
  exact q m p s' P (Nat.le_refl _) a i'
 ·rw [if_neg fun h => e (eq_of_beq h)]
  cases m with
  | zero =>
   rw [if_neg (Nat.lt_irrefl 1)]
   unfold kas_descPart
   rw [KasT.kasWp_bind]
   exact desc_wp hc hk P (m := 1) (Nat.add_sub_of_le hn) (AscN.one.snoc (Int.neg_lt_neg (b hn))) i' fun m' s2 l1 l2 d i2 => kas_z (tail3_wp hc hk P l2 d i2 q)
  | succ m =>
   rw [if_pos (Nat.succ_lt_succ (Nat.succ_pos m))]
   refine ask_wp hc hk P (y := m + 1) (Nat.lt_of_lt_of_le Nat.zero_lt_two hn) l2 (Nat.succ_ne_zero m).symm i' (fun h s2 i2 => kas_t (q (m + 1) p s2 P l2 a i2)) fun h => ?_
   exact absurd (Int.lt_trans h (a 0 (m + 1) (Nat.succ_pos _) (Nat.lt_succ_self _))) (Int.lt_irrefl _)
omit hc hk in
theorem mid_lt {l r : Nat} (h : l < r) : l ≤ (l + r) / 2 ∧ (l + r) / 2 < r := by lia
structure PlaceN (k : Nat → Int) (p : Array Nat) (K l r : Nat) : Prop where
 low : ∀ i, i < l → k (p.getD i 0) < k (p.getD K 0)
 high : ∀ i, r ≤ i → i < K → k (p.getD K 0) < k (p.getD i 0)
theorem place_wp {K f l r : Nat} {s : Shared} {Q : Nat → Shared → Prop} (P : PerN n p) (hK : K < n) (a : AscN k p K) (h1 : l ≤ r) (h2 : r ≤ K) (h3 : r ≤ l + f) (i : I s) (N : PlaceN k p K l r)
  (q : ∀ l' s', l' ≤ K → PlaceN k p K l' l' → I s' → Q l' s') : (kas_place p K f l r).kasWp cmp Q s := by
 induction f generalizing l r s with
 | zero => exact q l s (Nat.le_trans h1 h2) ⟨N.low, fun j h => N.high j (Nat.le_trans h3 h)⟩ i
 | succ f ih =>
  unfold kas_place
  by_cases e : l ≥ r
  ·rw [if_pos e]
   exact q l s (Nat.le_trans h1 h2) ⟨N.low, fun j h => N.high j (Nat.le_trans e h)⟩ i
  ·rw [if_neg e]
   obtain ⟨hl, hm⟩ := mid_lt (Nat.lt_of_not_ge e)
   generalize (l + r) / 2 = m at hm hl ⊢
   have mK := Nat.lt_of_lt_of_le hm h2
   refine ask_wp hc hk P hK (Nat.lt_trans mK hK) (Nat.ne_of_gt mK) i (fun h s' i' => kas_t ?_) fun h s' i' => kas_f ?_
   ·refine ih hl (Nat.le_of_lt mK) (Nat.le_of_lt_succ (Nat.lt_of_lt_of_le hm h3)) i' ⟨N.low, fun j h1 h2 => ?_⟩
    rcases Nat.lt_or_eq_of_le h1 with h1 | e
    ·exact Int.lt_trans h (a m j h1 h2)
    ·subst e; exact h
   ·refine ih hm h2 (Nat.le_trans h3 (by rw [Nat.add_right_comm]; exact Nat.add_le_add_right hl (f + 1))) i' ⟨fun j h1 => ?_, N.high⟩
    rcases Nat.lt_or_eq_of_le (Nat.le_of_lt_succ h1) with h1 | e
    ·exact Int.lt_trans (a j m h1 mK) h
    ·subst e; exact h
omit hc hk in
theorem ins_asc {q : Array Nat} {K l : Nat} (a : AscN k p K) (hl : l ≤ K) (N : PlaceN k p K l l) (g1 : ∀ j, j < l → q.getD j 0 = p.getD j 0) (g2 : q.getD l 0 = p.getD K 0) (g3 : ∀ j, l ≤ j → j < K → q.getD (j + 1) 0 = p.getD j 0) : AscN k q (K + 1) := fun x y h1 h2 => by
 have up : ∀ {z : Nat}, l < z → ∃ j, z = j + 1 ∧ l ≤ j := fun {z} h => by
  cases z with
  | zero => exact absurd h (Nat.not_lt_zero _)
  | succ j => exact ⟨j, rfl, Nat.le_of_lt_succ h⟩
 rcases Nat.lt_trichotomy x l with hx | hx | hx
 ·rw [g1 x hx]
  rcases Nat.lt_trichotomy y l with hy | hy | hy
  ·rw [g1 y hy]; exact a x y h1 (Nat.lt_of_lt_of_le hy hl)
  ·rw [hy, g2]; exact N.low x hx
  ·obtain ⟨j, e, hj⟩ := up hy
   subst e
   rw [g3 j hj (Nat.lt_of_succ_lt_succ h2)]
   exact a x j (Nat.lt_of_lt_of_le hx hj) (Nat.lt_of_succ_lt_succ h2)
 ·subst hx
  obtain ⟨j, e, hj⟩ := up h1
  subst e
  rw [g2, g3 j hj (Nat.lt_of_succ_lt_succ h2)]
  exact N.high j hj (Nat.lt_of_succ_lt_succ h2)
 ·obtain ⟨i, e, hi⟩ := up hx
  obtain ⟨j, e', hj⟩ := up (Nat.lt_trans hx h1)
  subst e e'
  have h2 := Nat.lt_of_succ_lt_succ h2
  have h1 := Nat.lt_of_succ_lt_succ h1
  rw [g3 i hi (Nat.lt_trans h1 h2), g3 j hj h2]
  exact a i j h1 h2
theorem bin_wp {f K : Nat} {p : Array Nat} {s : Shared} {Q : Array Nat → Shared → Prop} (P : PerN n p) (hK : K + f = n) (a : AscN k p K) (i : I s)
  (q : ∀ p s, PerN n p → AscN k p n → I s → Q p s) : (kas_bin f p K).kasWp cmp Q s := by
 induction f generalizing K p s with
 | zero =>
  have e : K = n := hK
  subst e
  exact q p s P a i
 | succ f ih =>
  have lt : K < n := by rw [← hK]; exact Nat.lt_add_of_pos_right (Nat.succ_pos f)
  show ((kas_place p K K 0 K).bind fun l => kas_bin f (bubble p K (K - l)) (K + 1)).kasWp cmp Q s
  rw [KasT.kasWp_bind]
  refine place_wp hc hk P lt a (Nat.zero_le K) (Nat.le_refl _) (Nat.le_of_eq (Nat.zero_add K).symm) i ⟨fun _ h => absurd h (Nat.not_lt_zero _), fun _ h h' => absurd h (Nat.not_le_of_gt h')⟩ fun l s' hl N i' => ?_
  have g : ∀ j, (bubble p K (K - l)).getD j 0 = if j = l then p.getD K 0 else if l < j ∧ j ≤ K then p.getD (j - 1) 0 else p.getD j 0 := fun j => by
   rw [getD_get, getElem?_bubble (by rw [P.size]; exact lt) _ (Nat.sub_le ..), Nat.sub_sub_self hl]
   split
   ·rw [getD_get]
   ·split <;> rw [getD_get]
  refine ih (P.of (bubble_perm _ _ _)) ((Nat.add_right_comm K 1 f).trans hK) (ins_asc a hl N (fun j h => ?_) ?_ fun j h h' => ?_) i'
  ·rw [g, if_neg (Nat.ne_of_lt h), if_neg fun q => Nat.lt_asymm h q.1]
  ·rw [g, if_pos rfl]
  ·rw [g, if_neg (Nat.ne_of_gt (Nat.lt_succ_of_le h)), if_pos ⟨Nat.lt_succ_of_le h, h'⟩]; rfl
theorem sort_wp {Q : Array Nat → Shared → Prop} (hn : 2 ≤ n) (i : I s) (q : ∀ p s, PerN n p → AscN k p n → I s → Q p s) : (kas_sort n).kasWp cmp Q s := by
 unfold kas_sort
 rw [KasT.kasWp_bind]
 refine count_wp hc hk (List.Perm.refl _) hn i fun m p s' P hm a i' => ?_
 show KasT.kasWp _ (if m + 1 < n then kas_bin (n - max (m + 1) 1) p (max (m + 1) 1) else .ret p) _ _
 rw [Nat.max_eq_left (Nat.succ_le_succ (Nat.zero_le m))]
 by_cases h : m + 1 < n
 ·rw [if_pos h]
  exact bin_wp hc hk P (Nat.add_sub_of_le hm) a i' q
 ·rw [if_neg h]
  have e : m + 1 = n := Nat.le_antisymm hm (Nat.le_of_not_lt h)
  subst e
  exact q p s' P a i'
end
end
section
open PySem.SeqAt
theorem mt_lt (P : Params) : findIn (K P) (.ref 135) "__lt__" = some (some (.builtin "tuple.__lt__")) := by kernel_rfl
section
variable {c : Cx} {A : Around} {s : Shared}
theorem mat_lt {E : Value → Shared → Prop} {x y : Addr} {ox oy : Obj} {xs ys : Array Value} {n m : Nat} {a b : Int} {t u : Tok} {r r' : List Value} {Q : Bool → Shared → Prop} (hu : A.units < cLine) (X0 : (K c.w.params).In s.heap)
  (gx : s.heap.get? x = some ox) (cx : ox.cls = .ref 135) (dx : ox.data = .seq xs n) (ex : xs.toList = .int a t :: r)
  (gy : s.heap.get? y = some oy) (cy : oy.cls = .ref 135) (dy : oy.data = .seq ys m) (ey : ys.toList = .int b u :: r') (hab : a ≠ b)
  (h : Q (decide (a < b)) s) : wpAny (MM c) A (keyLt' oneType' (.ref x) (.ref y)) Q E s := by
 rw [keyLt'_oneType, oneLt'_eq]
 simp only [if_true]
 refine wpAny_bind (wpAny_cRoomFor hu ?_)
 have L3 : Looks (MM c) s.heap (typeOf (.ref x)) (.ref 135) := cx ▸ (Looks.ld gx).andThen .now
 have L3y : Looks (MM c) s.heap (typeOf (.ref y)) (.ref 135) := cy ▸ (Looks.ld gy).andThen .now
 have sp : Looks (MM c) s.heap (specialOf (.ref x) "__lt__") (some (.builtin "tuple.__lt__")) := L3.andThen (looks_findIn X0 (mt_lt c.w.params))
 have L6 := looks_mroIn (M := MM c) X0 (mt_tup c.w.params)
 have t2 : Looks (MM c) s.heap (isInstance (.ref x) (.type "tuple")) true := L3.andThen L6
 have t2y : Looks (MM c) s.heap (isInstance (.ref y) (.type "tuple")) true := L3y.andThen L6
 have body : ∀ {E : Value → Shared → Prop} {R : Value → Shared → Prop}, R (.bool (decide (a < b))) s → wpAny (MM c) A (call (.builtin "tuple.__lt__") [.ref x, .ref y]) R E s := by
  intro E R hR
  refine wpAny_call (codeAny_call_builtin F.slot_tuple_lt.plain F.entry_tuple_lt (@check_slot (MM c) _ _ _ "tuple.__lt__" "tuple" "__lt__" (.ref x) [.ref y] [] _ (by decide +kernel) (by decide +kernel) t2 (F.args_tuple_lt_2 _ _) ?_))
  show wpAny _ _ (isInstance (.ref y) (.type "tuple") >>= _) _ _ s
  refine wpAny_bind (t2y.here ?_)
  simp only [Bool.not_true, Bool.false_eq_true, if_false]
  refine wpAny_bind (wpAny_tupleItemsOf gx dx ?_)
  refine wpAny_bind (wpAny_tupleItemsOf gy dy ?_)
  rw [ex, ey, List.zip_cons_cons, List.forIn_cons]
  refine wpAny_bind (wpAny_bind ?_)
  refine wpAny_bind (EqAt.int_int a t b u _ _ _ _ ?_)
  rw [show (a == b) = false by simpa using hab]
  simp only [Bool.not_false, if_true]
  refine wpAny_bind (wpAny_rule (wpAny_bind ?_))
  show wpAny (MM c) _ (compareOp .Lt (.int a t) (.int b u)) _ _ s
  refine wpAny_lt_int ?_
  refine wpAny_bind (wpAny_pure ?_)
  refine wpAny_pure ?_
  refine wpAny_pure ?_
  exact wpAny_pure hR
 have fin : ∀ {E : Value → Shared → Prop} {Q' : Option Value → Shared → Prop}, Q' (some (.bool (decide (a < b)))) s → wpAny (MM c) A (call (.builtin "tuple.__lt__") [.ref x, .ref y] >>= fun v => pure (some v)) Q' E s := fun hq => wpAny_bind (body (wpAny_pure hq))
 refine wpAny_bind ?_
 simp only [callSpecialIfBound?, bindSpecialIfBound?]
 refine wpAny_holding (wpAny_bind (wpAny_bind (sp.here ?_)))
 simp only [show bindSpecial (.builtin "tuple.__lt__") (.ref x) = pure (.builtin "tuple.__lt__", [.ref x]) from F.slot_tuple_lt.bind _]
 refine wpAny_bind (wpAny_askSetting (wpAny_ite ?_))
 have last : wpAny (MM c) A (truthOfDropped (.bool (decide (a < b)))) Q E s := wpAny_truthy_bool h
 split
 ·exact wpAny_bind (wpAny_pure (wpAny_pure (fin last)))
 ·exact wpAny_tryCatch (wpAny_bind (wpAny_pure (wpAny_pure (fin last))))
noncomputable def KeepsB (a : Addr) (s s' : Shared) : Prop := (∀ b o, b ≠ a → s.heap.get? b = some o → s'.heap.get? b = some o) ∧ s'.gens = s.gens ∧ s'.os = s.os
theorem sort_own {prog : Program} {w : World} {E : Value → Shared → Prop} {a : Addr} {vs : List Value} {e : Nat} {T : Value} {k : Nat → Int} {P : PySem.Fin → Shared → Prop} (ho : s.heap.get? a = some (seqObj "list" vs.toArray e)) (h64 : vs.length < 64)
  (hk : ∀ i j, i < vs.length → j < vs.length → k i = k j → i = j)
  (hT : ∀ s', KeepsB a s s' → ∀ v ∈ vs, Looks (model prog w) s'.heap (typeOf v) T) (hT1 : (T != Value.type "tuple") = true) (hT2 : (T == T) = true)
  (hc : ∀ i j (C : Bool → Shared → Prop) s', i < vs.length → j < vs.length → i ≠ j → KeepsB a s s' → C (decide (k i < k j)) s' → wpAny (model prog w) A (keyLt' oneType' (vs.getD i .none) (vs.getD j .none)) C (fun _ _ => False) s')
  (h : ∀ p s', PerN vs.length p → AscN k p vs.length → KeepsB a s s' → (∃ e', s'.heap.get? a = some (seqObj "list" (List.toArray (p.toList.map fun i => vs.getD i .none)) e')) → P (.done (.ret .none)) s') :
  wpAny (model prog w) A (Builtin.«list.sort» ⟨[.ref a], []⟩) P E s := by
 have ha : a < s.heap.objs.size := Heap.lt_size ho
 obtain ⟨e1, ho1⟩ : ∃ e1, (s.heap.update a (Obj.mapSeq fun _ => (#[] : Array Value))).get? a = some (seqObj "list" #[] e1) := ⟨_, get?_update_seq ho fun _ => #[]⟩
 have up : ∀ (h' : Heap) (f : Array Value → Array Value), ∀ b o, b ≠ a → h'.get? b = some o → (h'.update a (Obj.mapSeq f)).get? b = some o := fun h' f b o hb g => by rw [Heap.get?_update_ne _ _ _ _ hb]; exact g
 have ho6 : (((s.heap.update a (Obj.mapSeq fun _ => #[])).push (seqObj "tuple" vs.toArray 0)).push (seqObj "list" #[] 0)).get? a = some (seqObj "list" #[] e1) := Heap.get?_push_of_some _ (Heap.get?_push_of_some _ ho1)
 have kp0 : ∀ tk, KeepsB a s { s with heap := ((s.heap.update a (Obj.mapSeq fun _ => (#[] : Array Value))).push (seqObj "tuple" vs.toArray 0)).push (seqObj "list" #[] 0), toks := tk } := fun tk => ⟨fun b o hb g => Heap.get?_push_of_some _ (Heap.get?_push_of_some _ (up _ _ b o hb g)), rfl, rfl⟩
 rw [list_sort_plain]
 refine wpAny_bind (listItems_at ho rfl ?_)
 refine wpAny_bind (listUpdate_at ho rfl ?_ (by rw [List.size_toArray, sizeLine_eq]; lia) (Nat.zero_le _))
 refine wpAny_bind (seqEpoch_at ho1 rfl ?_)
 refine wpAny_bind (wpAny_newTuple ?_ (by show vs.length ≤ _; rw [sizeLine_eq]; grind))
 refine wpAny_bind (wpAny_newList ?_ (Nat.zero_le _))
 refine wpAny_holding ?_
 show wpAny (model prog w) A _ P E { s with heap := ((s.heap.update a (Obj.mapSeq fun _ => (#[] : Array Value))).push (seqObj "tuple" vs.toArray 0)).push (seqObj "list" #[] 0) }
 have kp0 := kp0 s.toks
 have kp0 : KeepsB a s { s with heap := ((s.heap.update a (Obj.mapSeq fun _ => (#[] : Array Value))).push (seqObj "tuple" vs.toArray 0)).push (seqObj "list" #[] 0) } := kp0
 generalize hs0 : ({ s with heap := ((s.heap.update a (Obj.mapSeq fun _ => (#[] : Array Value))).push (seqObj "tuple" vs.toArray 0)).push (seqObj "list" #[] 0) } : Shared) = s0 at kp0 ⊢
 have ho7 : s0.heap.get? a = some (seqObj "list" #[] e1) := by rw [← hs0]; exact ho6
 have tail : ∀ (st' : SortSt) (s' : Shared) (p : Array Nat), PerN vs.length p → AscN k p vs.length → (arrOf st').map (·.2) = List.toArray (p.toList.map fun i => vs.getD i .none) → failedOf st' = none → KeepsB a s s' → s'.heap.get? a = some (seqObj "list" #[] e1) →
   wpAny (model prog w) A (do
    let sorted := (arrOf st').map (·.2)
    let touched := (← seqEpoch a) != e1
    Builtin.List.listUpdate (.ref a) fun _ => sorted
    if let some e := failedOf st' then rule "list.sort.comparison-raised"; throw e
    if touched then rule "list.sort.modified"; raiseError "ValueError" "list modified during sort"
    ret .none) P E s' := by
  intro st' s' p hp ha hout hf hkp hl
  dsimp only
  have hsz : (List.toArray (p.toList.map fun i => vs.getD i Value.none)).size = vs.length := by rw [List.size_toArray, List.length_map, Array.length_toList, hp.size]
  rw [hout]
  obtain ⟨c2, hc2⟩ : ∃ c2, (s'.heap.update a (Obj.mapSeq fun _ => List.toArray (p.toList.map fun i => vs.getD i Value.none))).get? a = some (seqObj "list" (List.toArray (p.toList.map fun i => vs.getD i Value.none)) c2) := ⟨_, get?_update_seq hl fun _ => List.toArray (p.toList.map fun i => vs.getD i Value.none)⟩
  refine wpAny_bind (seqEpoch_at hl rfl ?_)
  refine wpAny_bind (listUpdate_at hl rfl ?_ (Nat.zero_le _) (Nat.le_trans (Nat.le_of_eq hsz) (by rw [sizeLine_eq]; lia)))
  rw [hf]
  simp only [bne_self_eq_false, Bool.false_eq_true, if_false]
  exact wpAny_pure (h p _ hp ha ⟨fun b o hb g => up _ _ b o hb (hkp.1 b o hb g), hkp.2⟩ ⟨c2, hc2⟩)
 dsimp only
 by_cases h2 : vs.toArray.size < 2
 ·rw [if_pos h2, if_pos h2]
  refine wpAny_bind (wpAny_pure ?_)
  rw [StateT.run_pure]
  refine wpAny_bind (wpAny_pure ?_)
  refine tail (SortSt.mk' general' (vs.toArray.zip vs.toArray) #[] 7 none) _ (List.toArray (List.range vs.length)) (by unfold PerN; simp) (fun i j h1 h3 => ?_) ?_ rfl kp0 ho7
  ·rw [List.size_toArray] at h2; omega
  ·show (vs.toArray.zip vs.toArray).map (·.2) = _
   apply Array.toList_inj.mp
   refine List.ext_getElem (by simp) fun i h1 h3 => ?_
   have hi : i < vs.length := by simpa using h1
   simp [hi]
 ·have hn2 : 2 ≤ vs.length := by rw [List.size_toArray] at h2; lia
  rw [if_neg h2, if_neg h2]
  refine wpAny_bind (kas_kind hn2 (hT s0 kp0) hT1 hT2 ?_)
  have est : SortSt.mk' oneType' (vs.toArray.zip vs.toArray) #[] 7 none = kas_st oneType' (pairsOf vs) (List.toArray (List.range vs.length)) := by
   have e := kas_range (pairsOf vs)
   rw [pairsOf_size] at e
   show SortSt.mk' oneType' (pairsOf vs) #[] 7 none = SortSt.mk' oneType' ((List.toArray (List.range vs.length)).map (kas_item (pairsOf vs))) #[] 7 none
   rw [e]
  rw [est]
  have run := kas_runs (prog := prog) (w := w) (A := A) (κ := oneType') (E := E) (s := s0) (it := pairsOf vs) (n := vs.length) (G := fun p s' => PerN vs.length p ∧ AscN k p vs.length ∧ KeepsB a s s' ∧ s'.heap.get? a = some (seqObj "list" #[] e1))
   (Q := fun _ st' s' => ∃ p : Array Nat, arrOf st' = p.map (kas_item (pairsOf vs)) ∧ failedOf st' = none ∧ PerN vs.length p ∧ AscN k p vs.length ∧ KeepsB a s s' ∧ s'.heap.get? a = some (seqObj "list" #[] e1))
   hn2 h64 (fun p' st' s' _ a2 a3 a4 => ⟨p', a2, a3, a4⟩) (by
    rw [← kas_ask_eq]
    refine sort_wp (n := vs.length) (k := k) (I := fun s' => KeepsB a s s' ∧ s'.heap.get? a = some (seqObj "list" #[] e1)) (fun i j C s' hi hj hij I q => ?_) hk hn2 ⟨kp0, ho7⟩ fun p s' hp ha I => ⟨hp, ha, I⟩
    exact hc i j C s' hi hj hij I.1 (q s' I))
  refine wpAny_bind (wpAny_mono run ?_ fun _ _ e => e)
  rintro ⟨⟨⟩, st'⟩ s' ⟨p, har, hf, hp, hasc, hkp, hl⟩
  refine tail st' s' p hp hasc ?_ hf hkp hl
  have har : arrOf st' = p.map (kas_item (pairsOf vs)) := har
  apply Array.toList_inj.mp
  rw [har, Array.map_map, Array.toList_map]
  exact List.map_congr_left fun i _ => by show (kas_item (pairsOf vs) i).2 = _; rw [kas_item_eq]
end
end
section
noncomputable abbrev T3 := Int × Int × Int
noncomputable def mtV (t : T3) : V := .mat [.int t.1, .int t.2.1, .int t.2.2]
section
variable {c : Cx} {A : Around} {σ : St} {Q : V → St → Prop}
theorem perm_getD {α : Type} (l : List α) (d : α) {p : List Nat} (h : p.Perm (List.range l.length)) : (p.map fun i => l.getD i d).Perm l := by
 have e : (List.range l.length).map (fun i => l.getD i d) = l := by
  refine List.ext_getElem (by simp) fun i h1 h3 => ?_
  have hi : i < l.length := by simpa using h1
  simp [hi]
 have := h.map (fun i => l.getD i d)
 rw [e] at this
 exact this
theorem VRs.pick {W : Wd} {ms : List T3} {vs : List Value} (rs : VRs W (ms.map mtV) vs) : ∀ p : List Nat, (∀ i ∈ p, i < ms.length) → VRs W ((p.map fun i => ms.getD i (0, 0, 0)).map mtV) (p.map fun i => vs.getD i .none)
 | [], _ => rfl
 | i :: p, h => by
  have hi := h i (.head _)
  obtain ⟨v, hv, r⟩ := (VRs.at i rs).1 (mtV (ms.getD i (0, 0, 0))) (by simp [hi])
  refine ⟨v, _, ?_, r, VRs.pick rs p fun j hj => h j (.tail _ hj)⟩
  rw [List.map_cons]
  congr 1
  simp [hv]
theorem sort_mats {l₀ : List (Option V)} {H₀ : AH} {i : Nat} {x : Int} {ms : List T3} (G : Good c) (rm : Room 1 A) (hg : H₀.get i x = some (.list (ms.map mtV))) (hl : ms.length < 64) (nd : (ms.map (·.1)).Nodup)
  (q : ∀ ms' : List T3, ms'.Perm ms → ms'.Pairwise (fun a b => a.1 < b.1) → Q .none ⟨l₀, H₀.put i x (.list (ms'.map mtV))⟩) : Ca c A ⟨l₀, H₀⟩ (.bi "list.sort") [.ref i x] Q := fun ρ st f vs D e r => by
 have e : f = .builtin "list.sort" := e
 subst e
 obtain ⟨v, r', rfl, ⟨rfl, hd⟩, e2⟩ := r
 have e2 : r' = [] := e2
 subst e2
 have hd : (H₀.get i x).isSome = true := hd
 obtain ⟨us, n, g, len, rs⟩ := D.list hg
 rw [List.length_map] at len
 have g' : st.heap.get? (ρ i x) = some (seqObj "list" us.toList.toArray n) := by rw [Array.toArray_toList]; exact g
 have lenT : us.toList.length = ms.length := by rw [Array.length_toList, len]
 have item : ∀ j, j < ms.length → ∃ (y : Addr) (o : Obj) (xs : Array Value) (m : Nat) (t : Tok) (rr : List Value), us.toList.getD j .none = .ref y ∧ y ≠ ρ i x ∧ st.heap.get? y = some o ∧ o.cls = .ref 135 ∧ o.data = .seq xs m ∧ xs.toList = .int (ms.getD j (0, 0, 0)).1 t :: rr := by
  intro j hj
  obtain ⟨v, hv, r⟩ := (VRs.at j rs).1 (mtV (ms.getD j (0, 0, 0))) (by simp [hj])
  obtain ⟨y, o, xs, m, rfl, gy, hc, hdt, r0⟩ := r
  obtain ⟨v0, rr, e0, ⟨t, e1⟩, _⟩ := r0
  refine ⟨y, o, xs, m, t, rr, by rw [List.getD_eq_getElem?_getD, hv]; rfl, fun e => ?_, gy, hc, hdt, by rw [e0, e1]⟩
  subst e
  have gy : st.heap.get? (ρ i x) = some o := gy
  rw [g] at gy; cases gy; cases hc
 have KI : ∀ s', KeepsB (ρ i x) st s' → (K c.w.params).In s'.heap := fun s' kp => G.top.keeps fun b o h => kp.1 b o (fun e => by
  subst e
  have := (D.new i x hd).2
  rw [this] at h; cases h) (D.top b o h)
 let k : Nat → Int := fun j => (ms.getD j (0, 0, 0)).1
 have kinj : ∀ a b, a < ms.length → b < ms.length → k a = k b → a = b := fun a b ha hb e => by
  have h1 : a < (ms.map (·.1)).length := by simpa using ha
  have h2 : b < (ms.map (·.1)).length := by simpa using hb
  refine (List.getElem_inj (h₀ := h1) (h₁ := h2) nd).mp ?_
  have e : (ms.getD a (0, 0, 0)).1 = (ms.getD b (0, 0, 0)).1 := e
  simpa [ha, hb] using e
 refine wpAny_call_entry slot_list_sort ⟨_, g, rfl⟩ entry_list_sort (sort_own (T := .ref 135) (k := k) g' (by rw [lenT]; exact hl) (by rw [lenT]; exact kinj) (fun s' kp v hv => ?_) (by decide +kernel) (by decide +kernel) (fun a b C s' ha hb hab kp hC => ?_) fun p s' hp hasc kp hl' => ?_) (args_list_sort _)
 ·obtain ⟨j, hj, rfl⟩ := List.getElem_of_mem hv
  obtain ⟨y, o, xs, m, t, rr, e1, ne, gy, hc, _⟩ := item j (by lia)
  have e1 : us.toList[j] = .ref y := by rw [← e1, List.getD_eq_getElem?_getD, List.getElem?_eq_getElem hj]; rfl
  rw [e1]
  exact hc ▸ (Looks.ld (kp.1 y o ne gy)).andThen .now
 ·rw [lenT] at ha hb
  obtain ⟨y, o, xs, m, t, rr, e1, ne, gy, hc, hd1, hx⟩ := item a ha
  obtain ⟨y', o', xs', m', t', rr', e1', ne', gy', hc', hd1', hx'⟩ := item b hb
  rw [e1, e1']
  exact mat_lt (by have := rm.units; show A.units + 1 < cLine; lia) (KI s' kp) (kp.1 y o ne gy) hc hd1 hx (kp.1 y' o' ne' gy') hc' hd1' hx' (fun e => hab (kinj a b ha hb e)) hC
 ·rw [lenT] at hp hasc
  obtain ⟨e', hl'⟩ := hl'
  let ms' := p.toList.map fun j => ms.getD j (0, 0, 0)
  have pl : ∀ j ∈ p.toList, j < ms.length := fun j hj => List.mem_range.mp ((List.Perm.mem_iff hp).mp hj)
  have X0 := put_ext (st' := s') (o' := .list (ms'.map mtV)) D hd kp.1
  obtain ⟨D', x'⟩ := D.upd (st' := s') (o' := .list (ms'.map mtV)) hd kp.1 kp.2.1 kp.2.2 ⟨_, ⟨e', hl'⟩, by
   have := VRs.ext X0 _ _ (VRs.pick rs p.toList pl)
   rw [List.toList_toArray]; exact this⟩
  refine ⟨_, rfl, .none, _, ρ, D', rfl, x', q ms' (perm_getD ms _ hp) ?_⟩
  refine List.pairwise_iff_getElem.mpr fun a b ha hb hab => ?_
  have hz := hp.size
  have ha' : a < p.size := by simpa [ms'] using ha
  have hb' : b < p.size := by simpa [ms'] using hb
  have := hasc a b hab (by lia)
  simpa [ms', k, ha', hb', Array.getD] using this
end
end
section
noncomputable abbrev T4 := Int × Int × Int × Int
noncomputable def MatchAt (xs ys : List Int) (i j k : Int) : Prop := ∀ t : Int, 0 ≤ t → t < k → xs[(i + t).toNat]? = ys[(j + t).toNat]?
structure TilC (xs ys : List Int) (a b : Int) (g : Bool) (t : T3) : Prop where
 h1 : a ≤ t.1
 h2 : b ≤ t.2.1
 h3 : 1 ≤ t.2.2
 h4 : MatchAt xs ys t.1 t.2.1 t.2.2
 h5 : g = false → NoCom xs ys a t.1 b t.2.1
noncomputable def Til (xs ys : List Int) : Int → Int → List (Bool × T3) → Bool → Prop
 | a, b, [], f => a ≤ xs.length ∧ b ≤ ys.length ∧ (f = false → NoCom xs ys a xs.length b ys.length)
 | a, b, p :: r, f => TilC xs ys a b p.1 p.2 ∧ Til xs ys (p.2.1 + p.2.2.2) (p.2.2.1 + p.2.2.2) r f
noncomputable def pnd (f : Bool) (r : T4) : List T4 := if f then [r] else []
noncomputable def Pend (la lb : Int) : Int → Int → List (Bool × T3) → Bool → List T4
 | a, b, [], f => pnd f (a, la, b, lb)
 | a, b, p :: r, f => pnd p.1 (a, p.2.1, b, p.2.2.1) ++ Pend la lb (p.2.1 + p.2.2.2) (p.2.2.1 + p.2.2.2) r f
theorem pnd_mem {f : Bool} {r u : T4} (h : r ∈ pnd f u) : f = true ∧ r = u := by
 cases f with
 | false => cases h
 | true => exact ⟨rfl, List.mem_singleton.mp h⟩
section
variable {xs ys : List Int}
theorem Til.le {l : List (Bool × T3)} {a b : Int} {f : Bool} (h : Til xs ys a b l f) : a + l.length ≤ xs.length ∧ b ≤ ys.length := by
 induction l generalizing a b with
 | nil => exact ⟨(Int.add_zero a).symm ▸ h.1, h.2.1⟩
 | cons p l ih =>
  have i := ih h.2
  have h1 := h.1.h1; have h2 := h.1.h2; have h3 := h.1.h3
  rw [List.length_cons]
  constructor <;> lia
structure Tld (xs ys : List Int) (a b : Int) (ms : List T3) (ps : List T4) (l : List (Bool × T3)) (f : Bool) : Prop where
 til : Til xs ys a b l f
 pm : ms.Perm (l.map (·.2))
 pq : ps.Perm (Pend xs.length ys.length a b l f)
theorem Tld.cons {a b : Int} {p : Bool × T3} {ms : List T3} {ps : List T4} {l : List (Bool × T3)} {f : Bool} (C : TilC xs ys a b p.1 p.2) (T : Tld xs ys (p.2.1 + p.2.2.2) (p.2.2.1 + p.2.2.2) ms ps l f) : Tld xs ys a b (p.2 :: ms) (pnd p.1 (a, p.2.1, b, p.2.2.1) ++ ps) (p :: l) f := ⟨⟨C, T.til⟩, T.pm.cons _, T.pq.append_left _⟩
structure Ins (xs ys : List Int) (r : T4) : Prop where
 r1 : 0 ≤ r.1
 r2 : r.1 ≤ r.2.1
 r3 : r.2.1 ≤ xs.length
 r4 : 0 ≤ r.2.2.1
 r5 : r.2.2.1 ≤ r.2.2.2
 r6 : r.2.2.2 ≤ ys.length
structure Spl (xs ys : List Int) (a b : Int) (ms : List T3) (r : T4) (rest : List T4) : Prop where
 none : NoCom xs ys r.1 r.2.1 r.2.2.1 r.2.2.2 → ∃ l f, Tld xs ys a b ms rest l f
 one : ∀ i j k fl fr, Blk xs ys r.1 r.2.1 r.2.2.1 r.2.2.2 i j k → 1 ≤ k → (fl = false → NoCom xs ys r.1 i r.2.2.1 j) → (fr = false → NoCom xs ys (i + k) r.2.1 (j + k) r.2.2.2) →
  ∃ l f, Tld xs ys a b ((i, j, k) :: ms) (pnd fl (r.1, i, r.2.2.1, j) ++ (pnd fr (i + k, r.2.1, j + k, r.2.2.2) ++ rest)) l f
theorem perm_mid {α : Type} (G L R rest : List α) : (L ++ (R ++ (G ++ rest))).Perm (G ++ (L ++ (R ++ rest))) := by
 have h := List.perm_append_comm_assoc (L ++ R) G rest
 rw [List.append_assoc, List.append_assoc] at h
 exact h
theorem Til.split {r : T4} {l : List (Bool × T3)} {a b : Int} {f : Bool} (a0 : 0 ≤ a) (b0 : 0 ≤ b) (h : Til xs ys a b l f) (hr : r ∈ Pend xs.length ys.length a b l f) :
  Ins xs ys r ∧ ∃ rest, (Pend xs.length ys.length a b l f).Perm (r :: rest) ∧ Spl xs ys a b (l.map (·.2)) r rest := by
 induction l generalizing a b with
 | nil =>
  obtain ⟨e, e'⟩ := pnd_mem hr
  subst e e'
  exact ⟨⟨a0, h.1, Int.le_refl _, b0, h.2.1, Int.le_refl _⟩, [], .refl _, fun nc => ⟨[], false, ⟨h.1, h.2.1, fun _ => nc⟩, .refl _, .refl _⟩, fun i j k fl fr bl hk nl nr => ⟨[(fl, (i, j, k))], fr, ⟨⟨bl.i0, bl.j0, hk, bl.same, nl⟩, bl.i1, bl.j1, nr⟩, .refl _, by rw [List.append_nil]; exact .refl _⟩⟩
 | cons p l ih =>
  obtain ⟨C, h⟩ := h
  have k0 : (0 : Int) ≤ p.2.2.2 := Int.le_of_lt C.h3
  have t0 := Int.le_trans a0 C.h1
  have u0 := Int.le_trans b0 C.h2
  cases List.mem_append.mp hr with
  | inl hr =>
   obtain ⟨e, e'⟩ := pnd_mem hr
   obtain ⟨g, t⟩ := p
   subst e e'
   have le := h.le
   have t1 : t.1 ≤ xs.length := Int.le_trans (Int.le_trans (Int.le_add_of_nonneg_right k0) (Int.le_add_of_nonneg_right (Int.natCast_nonneg _))) le.1
   exact ⟨⟨a0, C.h1, t1, b0, C.h2, Int.le_trans (Int.le_add_of_nonneg_right k0) le.2⟩, _, .refl _, fun nc => ⟨(false, t) :: l, f, ⟨⟨C.h1, C.h2, C.h3, C.h4, fun _ => nc⟩, h⟩, .refl _, .refl _⟩,
    fun i j k fl fr bl hk nl nr => ⟨(fl, (i, j, k)) :: (fr, t) :: l, f, ⟨⟨bl.i0, bl.j0, hk, bl.same, nl⟩, ⟨bl.i1, bl.j1, C.h3, C.h4, nr⟩, h⟩, .refl _, .refl _⟩⟩
  | inr hr =>
   obtain ⟨I, rest, pp, S⟩ := ih (Int.add_nonneg t0 k0) (Int.add_nonneg u0 k0) h hr
   refine ⟨I, pnd p.1 (a, p.2.1, b, p.2.2.1) ++ rest, (pp.append_left _).trans List.perm_middle, fun nc => ?_, fun i j k fl fr bl hk nl nr => ?_⟩
   ·obtain ⟨l', f', T⟩ := S.none nc
    exact ⟨_, _, T.cons C⟩
   ·obtain ⟨l', f', T⟩ := S.one i j k fl fr bl hk nl nr
    have T := T.cons C
    exact ⟨_, _, T.til, (List.Perm.swap ..).trans T.pm, (perm_mid ..).trans T.pq⟩
theorem Til.sorted {l : List (Bool × T3)} {a b : Int} {f : Bool} (h : Til xs ys a b l f) : (∀ t ∈ l.map (·.2), a ≤ t.1) ∧ (l.map (·.2)).Pairwise (fun u v => u.1 < v.1) := by
 induction l generalizing a b with
 | nil => exact ⟨fun _ h => (by cases h), List.Pairwise.nil⟩
 | cons p l ih =>
  have i := ih h.2
  have lt : p.2.1 < p.2.1 + p.2.2.2 := Int.lt_add_of_pos_right _ h.1.h3
  rw [List.map_cons]
  refine ⟨fun u hu => ?_, List.pairwise_cons.mpr ⟨fun u hu => Int.lt_of_lt_of_le lt (i.1 u hu), i.2⟩⟩
  cases hu with
  | head => exact h.1.h1
  | tail _ e => exact Int.le_trans h.1.h1 (Int.le_trans (Int.le_of_lt lt) (i.1 u e))
theorem Til.nopend {l : List (Bool × T3)} {a b : Int} {f : Bool} (h : Pend xs.length ys.length a b l f = []) : f = false ∧ ∀ p ∈ l, p.1 = false := by
 have no : ∀ {g : Bool} {u : T4}, pnd g u = [] → g = false := fun {g u} h => by
  cases g with
  | false => rfl
  | true => cases h
 induction l generalizing a b with
 | nil => exact ⟨no h, fun _ h => by cases h⟩
 | cons p l ih =>
  obtain ⟨h1, h2⟩ := List.append_eq_nil_iff.mp h
  have i := ih h2
  refine ⟨i.1, fun q hq => ?_⟩
  cases hq with
  | head => exact no h1
  | tail _ e => exact i.2 q e
theorem sorted_eq : ∀ {l m : List T3}, l.Perm m → l.Pairwise (fun u v => u.1 < v.1) → m.Pairwise (fun u v => u.1 < v.1) → l = m := fun p h1 h2 =>
 p.eq_of_pairwise (fun a b _ _ h3 h4 => absurd (Int.lt_trans h3 h4) (Int.lt_irrefl _)) h1 h2
noncomputable def merge (la lb : Int) : T3 → List T3 → List T3
 | c, [] => (if c.2.2 ≠ 0 then [c] else []) ++ [(la, lb, 0)]
 | c, t :: r => if c.1 + c.2.2 = t.1 ∧ c.2.1 + c.2.2 = t.2.1 then merge la lb (c.1, c.2.1, c.2.2 + t.2.2) r else (if c.2.2 ≠ 0 then [c] else []) ++ merge la lb t r
noncomputable def Nad (xs ys : List Int) : Bool → Int → Int → List T3 → Prop
 | _, _, _, [] => False
 | st, a, b, t :: r => a ≤ t.1 ∧ b ≤ t.2.1 ∧ NoCom xs ys a t.1 b t.2.1 ∧ ((r = [] ∧ t = ((xs.length : Int), (ys.length : Int), 0)) ∨
   (1 ≤ t.2.2 ∧ MatchAt xs ys t.1 t.2.1 t.2.2 ∧ (st = true ∨ ¬ (a = t.1 ∧ b = t.2.1)) ∧ Nad xs ys false (t.1 + t.2.2) (t.2.1 + t.2.2) r))
theorem match_app {i j k i' j' k' : Int} (h : MatchAt xs ys i j k) (h' : MatchAt xs ys i' j' k') (e : i + k = i') (e' : j + k = j') : MatchAt xs ys i j (k + k') := fun z z0 z1 => by
 subst e e'
 by_cases q : z < k
 ·exact h z z0 q
 ·have := h' (z - k) (by lia) (by lia)
  have e : ∀ i : Int, i + k + (z - k) = i + z := fun i => by lia
  rw [e, e] at this
  exact this
theorem nad_merge {l : List (Bool × T3)} {c : T3} {st : Bool} {a b : Int} (hf : ∀ p ∈ l, p.1 = false) (h1 : a ≤ c.1) (h2 : b ≤ c.2.1) (h3 : 1 ≤ c.2.2) (h4 : NoCom xs ys a c.1 b c.2.1) (h5 : MatchAt xs ys c.1 c.2.1 c.2.2) (h6 : st = true ∨ ¬ (a = c.1 ∧ b = c.2.1))
  (h7 : Til xs ys (c.1 + c.2.2) (c.2.1 + c.2.2) l false) : Nad xs ys st a b (merge xs.length ys.length c (l.map (·.2))) := by
 induction l generalizing c st a b with
 | nil =>
  rw [List.map_nil, merge, if_pos (Int.ne_of_gt h3)]
  exact ⟨h1, h2, h4, .inr ⟨h3, h5, h6, ⟨h7.1, h7.2.1, h7.2.2 rfl, .inl ⟨rfl, rfl⟩⟩⟩⟩
 | cons p l ih =>
  obtain ⟨K, k6⟩ := h7
  have hl : ∀ p ∈ l, p.1 = false := fun p hp => hf p (.tail _ hp)
  rw [List.map_cons, merge]
  by_cases e : c.1 + c.2.2 = p.2.1 ∧ c.2.1 + c.2.2 = p.2.2.1
  ·rw [if_pos e]
   refine ih (c := (c.1, c.2.1, c.2.2 + p.2.2.2)) hl h1 h2 (Int.le_trans h3 (Int.le_add_of_nonneg_right (Int.le_of_lt K.h3))) h4 (match_app h5 K.h4 e.1 e.2) h6 ?_
   show Til xs ys (c.1 + (c.2.2 + p.2.2.2)) (c.2.1 + (c.2.2 + p.2.2.2)) l false
   rw [← Int.add_assoc, ← Int.add_assoc, e.1, e.2]
   exact k6
  ·rw [if_neg e, if_pos (Int.ne_of_gt h3)]
   exact ⟨h1, h2, h4, .inr ⟨h3, h5, h6, ih hl K.h1 K.h2 K.h3 (K.h5 (hf p (.head _))) K.h4 (.inr e) k6⟩⟩
theorem nad_start {l : List (Bool × T3)} (hf : ∀ p ∈ l, p.1 = false) (h : Til xs ys 0 0 l false) : Nad xs ys true 0 0 (merge xs.length ys.length (0, 0, 0) (l.map (·.2))) := by
 cases l with
 | nil =>
  rw [List.map_nil, merge, if_neg fun h => h rfl]
  exact ⟨h.1, h.2.1, h.2.2 rfl, .inl ⟨rfl, rfl⟩⟩
 | cons p l =>
  obtain ⟨g, t⟩ := p
  obtain ⟨K, k6⟩ := h
  have hl : ∀ p ∈ l, p.1 = false := fun p hp => hf p (.tail _ hp)
  have k5 := K.h5 (hf (g, t) (.head _))
  rw [List.map_cons, merge]
  by_cases e : (0 : Int) + 0 = t.1 ∧ (0 : Int) + 0 = t.2.1
  ·rw [if_pos e, Int.zero_add]
   obtain ⟨i, j, k⟩ := t
   obtain ⟨e1, e2⟩ := e
   cases e1
   cases e2
   exact nad_merge hl (Int.le_refl _) (Int.le_refl _) K.h3 k5 K.h4 (.inl rfl) k6
  ·rw [if_neg e, if_neg fun h => h rfl]
   exact nad_merge hl K.h1 K.h2 K.h3 k5 K.h4 (.inl rfl) k6
end
end
section
section
variable {c : Cx} {A : Around} {σ : St} {Q : V → St → Prop}
theorem len_mat {xs : List V} (G : Good c) (hl : xs.length < 1000000) (q : Q (.int xs.length) σ) : Ca c A σ (.bi "len") [.mat xs] Q := fun ρ st f vs D e r => by
 have e : f = .builtin "len" := e
 subst e
 obtain ⟨v, r', rfl, rv, e2⟩ := r
 have e2 : r' = [] := e2
 subst e2
 obtain ⟨t, o, us, m, rfl, g, hc, hd, rs⟩ := rv
 have X0 := D.K G.top
 have g : st.heap.get? t = some o := g
 have len : us.size = xs.length := by have := VRs.length rs; simpa using this
 have L3 : Looks (MM c) st.heap (typeOf (.ref t)) (.ref 135) := hc ▸ (Looks.ld g).andThen .now
 have sp : Looks (MM c) st.heap (specialOf (.ref t) "__len__") (some (.builtin "tuple.__len__")) := L3.andThen (looks_findIn X0 (mt_len c.w.params))
 have t2 : Looks (MM c) st.heap (isInstance (.ref t) (.type "tuple")) true := L3.andThen (looks_mroIn (M := MM c) X0 (mt_tup c.w.params))
 refine Calls.call_function_entry kind_len plain_len entry_len (args_len1 _) ?_
 unfold Builtin.«len»
 refine wpAny_bind (m := oneArg "len" _) (wpAny_pure ?_)
 refine wpAny_bind (m := callSpecial? (.ref t) (Str.ofString "__len__")) ?_
 unfold callSpecial?
 refine wpAny_bind (sp.here ?_)
 dsimp only
 refine wpAny_holding ?_
 simp only [show bindSpecial (.builtin "tuple.__len__") (.ref t) = pure (.builtin "tuple.__len__", [.ref t]) from F.slot_tuple_len.bind _]
 refine wpAny_bind (wpAny_pure ?_)
 refine wpAny_bind ?_
 refine wpAny_call (codeAny_call_builtin F.slot_tuple_len.plain F.entry_tuple_len (@check_slot (MM c) _ _ _ "tuple.__len__" "tuple" "__len__" (.ref t) [] [] _ (by decide +kernel) (by decide +kernel) t2 (F.args_tuple_len_1 _) ?_))
 show wpAny _ _ (Builtin.Tuple.tupleItemsOf (.ref t) >>= _) _ _ st
 refine wpAny_bind (wpAny_tupleItemsOf g hd ?_)
 refine wpAny_bind (wpAny_mkInt (wpAny_pure ?_))
 refine wpAny_pure ?_
 refine wpAny_bind (wpAny_holding (wpAny_pure ?_))
 refine wpAny_bind (wpAny_letGo ?_)
 show wpAny _ _ (if (us.size : Int) < 0 then _ else _) _ _ _
 rw [if_neg (by grind)]
 show wpAny _ _ (if (us.size : Int) ≥ 2 ^ 63 then _ else _) _ _ _
 rw [if_neg (by rw [len]; lia)]
 refine wpAny_bind (wpAny_mkInt (wpAny_pure ?_))
 obtain ⟨D', x'⟩ := den_toks D (st.toks + 1 + 1)
 exact ⟨_, rfl, .int xs.length, σ, ρ, D', ⟨_, by rw [len]⟩, x', q⟩
theorem cd_make {X Y Z : V} (G : Good c) (rm : Room 1 A) (q : Q (.mat [X, Y, Z]) σ) : Cd c A σ 89 [.obj 135, .tup [X, Y, Z]] Q := by
 refine call_code (Ys := [.obj 135, .tup [X, Y, Z]]) G rm (ok_make _) (bd2 G.top fun W v0 v1 r0 r1 => ?_) (by simp [n_make]) fun c' F' G' hw L => ?_
 ·exact ⟨[v0, v1], fun S => by kernel_rfl, VRs.cons r0 (VRs.cons r1 (VRs.nil _))⟩
 ·show vcSs _ t_make c' ⟨[some (.obj 135), some (.tup [X, Y, Z]), none], σ.H⟩ _
  refine getM_tnew G'.top ?_
  refine tuple_new G'.top (by simp) ?_
  refine len_mat G' (by simp) (sel_f (fun h => h rfl) q)
end
end
section
open PySem.SeqAt
section
variable {c : Cx} {A : Around} {σ : St} {Q : V → St → Prop}
theorem attr_next {i j : Nat} {x y : Int} {n : Nat} (hg : σ.H.get i x = some (.iter j y n)) (q : Q (.bm "list_iterator.__next__" (.ref i x)) σ) : Op1 c A σ (.ref i x) (fun v => getAttr v (s "__next__") true) Q := fun ρ st v D r => by
 have r0 := r
 obtain ⟨rfl, _⟩ := r
 obtain ⟨g, _⟩ := D.objs i x _ hg
 refine getAttr_li g ?_
 obtain ⟨D', x'⟩ := D.keeps (st' := { st with heap := st.heap.push { cls := .type "method-wrapper", data := .fields #[.builtin "list_iterator.__next__", .ref (ρ i x)] }, toks := st.toks + 1 }) (fun b o hb => Heap.get?_push_of_some _ hb) rfl rfl
 exact ⟨.bm "list_iterator.__next__" (.ref i x), σ, ρ, D', ⟨_, _, _, rfl, Heap.get?_push_size _ rfl, .inr rfl, rfl, VR.ext x' _ _ r0⟩, x', q⟩
end
theorem plain_lin : plainId "list_iterator.__next__" = true := by decide +kernel
theorem chk_lin {prog : Program} {w : World} {A : Around} {s₀ : Shared} {d : Addr} {od : Option Addr} {es : Array Value} {osl : Array (Option Value)} (ho : s₀.heap.get? d = some ⟨.type "list_iterator", od, .fields es, osl⟩) : wpAny (model prog w) A (checkBoundCall "list_iterator.__next__" ⟨[.ref d], []⟩) (fun _ s' => s' = s₀) (fun _ _ => False) s₀ := by
 obtain ⟨hp, g, dr, tk, os⟩ := s₀
 dsimp only at ho
 repeat k_node
noncomputable def NewExc (h h' : Heap) (e : Addr) (cls : String) : Prop := h.get? e = none ∧ ∃ oe vs, h'.get? e = some oe ∧ oe.cls = .type cls ∧ oe.data = .fields vs ∧ vs[1]? = some .none
theorem next_call {prog : Program} {w : World} {A : Around} {s₀ : Shared} {E : Value → Shared → Prop} {Q : Value → Shared → Prop} {b it l : Addr} {o ol : Obj} {i : Nat} {items : Array Value} {nl : Nat} (hh : A.handled = none)
  (ho : s₀.heap.get? b = some o) (hc : o.cls = .type "builtin_function_or_method" ∨ o.cls = .type "method-wrapper") (hd : o.data = .fields #[.builtin "list_iterator.__next__", .ref it])
  (hit : s₀.heap.get? it = some ⟨.type "list_iterator", none, .fields #[.ref l, .int (i : Int) 0], #[]⟩) (hol : s₀.heap.get? l = some ol) (hdl : ol.data = .seq items nl)
  (h1 : ∀ v, items[i]? = some v → ∀ h', Heap.SameBut it s₀.heap h' → h'.get? it = some ⟨.type "list_iterator", none, .fields #[.ref l, .int ((i + 1 : Nat) : Int) 0], #[]⟩ → Q v { s₀ with heap := h' })
  (h2 : items[i]? = none → ∀ h' e, Heap.ExtBut it s₀.heap h' → (∃ o', h'.get? it = some o' ∧ ¬ Imm o') → NewExc s₀.heap h' e "StopIteration" → E (.ref e) { s₀ with heap := h' }) :
  wpAny (model prog w) A (call (.ref b) []) Q E s₀ := by
 refine wpAny_call (bound_call (R := fun r s' => match r with | .ok (.ret v) => Q v s' | .ok _ => False | .error e => E e s') ho hc hd entry_listiter_next plain_lin (Code.quiet_builtin _ (by decide +kernel)) (chk_lin hit) ?_)
 show wpAny _ _ (field (.ref it) 0 >>= _) _ _ s₀
 refine wpAny_bind (wpAny_field hit rfl (x := .ref l) rfl ?_)
 show wpAny _ _ (if (Value.ref l == Value.none) = true then _ else _) _ _ s₀
 rw [if_neg (show ¬ ((Value.ref l == Value.none) = true) from Bool.false_ne_true)]
 show wpAny _ _ (field (.ref it) 1 >>= _) _ _ s₀
 refine wpAny_bind (wpAny_field hit rfl (x := .int i 0) rfl ?_)
 show wpAny _ _ (seqItems? (.ref l) >>= _) _ _ s₀
 refine wpAny_bind (wpAny_seqItems hol hdl ?_)
 cases hx : items[i]? with
 | some v =>
  simp only [Int.toNat_natCast, hx]
  refine wpAny_bind (wpAny_setField hit rfl (by simp) (wpAny_pure (h1 v hx _ (Heap.SameBut.update ..) ?_)))
  rw [Heap.get?_update_self _ hit (Obj.isFreed_of_fields (Obj.data_mapFields rfl _))]
  simp [Obj.mapFields, rawInt]
 | none =>
  simp only [Int.toNat_natCast, hx]
  refine wpAny_bind (wpAny_rule (wpAny_bind (wpAny_setField hit rfl (by simp) ?_)))
  show wpAny _ _ (newExc (.type "StopIteration") [] >>= _) _ _ _
  refine wpAny_bind ?_
  simp only [newExc, newTuple]
  refine wpAny_bind (wpAny_newObj_type ?_ (by size_fits))
  refine wpAny_bind (m := firstArgMember _ _) (wpAny_of_eq (a := Value.none) (by first | rfl | (simp only [firstArgMember]; rfl)) ?_)
  refine wpAny_newObj_type ?_ (by size_fits)
  simp only [raiseNew]
  refine wpAny_bind (wpAny_handled ?_)
  rw [show A.in1.handled = none from hh]
  refine wpAny_bind (wpAny_pure (wpAny_throw ?_))
  have hu := Heap.get?_update_self (Obj.mapFields (·.setIfInBounds 0 Value.none)) hit (Obj.isFreed_of_fields (Obj.data_mapFields rfl _))
  refine h2 hx _ _ (((Heap.SameBut.update ..).extBut.push _).push _) ⟨_, Heap.get?_push_of_some _ (Heap.get?_push_of_some _ hu), imm_type rfl (by decide) (fun e => nomatch e)⟩ ⟨?_, _, _, Heap.get?_push_size _ rfl, rfl, rfl, rfl⟩
  refine Heap.get?_none_of_le ?_
  rw [Heap.size_push, Heap.size_after_update]
  exact Nat.le_succ _
end
section
section
variable {k : Ck} {c : Cx} {A : Around}
theorem chkEnum_e {P : Stmt → Prop} {i x : Nat} {l : TE} {b : List TS} {st : Stmt} (h : chkEnum k i x l b st = true)
  (g : ∀ tg f e pc b' pos, (f.ctorIdx != 20) = true → chkE k (.glob 2) f = true → chkEs k [l] [e] = true → chkT1 k (.tup [i, x]) tg = true → chkSs k b b' = true → P (.For tg (.Call f [e] [] pc) b' [] pos)) : P st := by
 refine onSFor_e (P := P) h fun tg it b' o pos h => onCall_e (P := fun it => P (.For tg it b' o pos)) h fun f as kw pc h => onOne_e (P := fun as => P (.For tg (.Call f as kw pc) b' o pos)) h fun e h => and_e h fun h1 h => and_e h fun h2 h => ?_
 refine nil_e (P := fun o => P (.For tg (.Call f [e] kw pc) b' o pos)) h1 (nil_e (P := fun kw => P (.For tg (.Call f [e] kw pc) b' [] pos)) h2 ?_)
 exact and_e h fun h3 h => and_e h fun h4 h => and_e h fun h5 h => and_e h fun h6 h7 => g _ _ _ _ _ _ h3 h4 h5 h6 h7
inductive EnumQ (c : Cx) (A : Around) (i x : Nat) (b : List TS) (K : Kt) (X : V) (σ₁ : St) : Prop
 | mk (n : Nat) (y : Int) (xs : List V) (hX : X = .ref n y) (hl : σ₁.H.get n y = some (.list xs)) (I : Nat → St → Prop) (i0 : I 0 σ₁) (iend : ∀ σ', I xs.length σ' → σ'.H.get n y = some (.list xs) ∧ K.next σ')
   (istep : ∀ j σ' Y, I j σ' → xs[j]? = some Y → σ'.H.get n y = some (.list xs) ∧ ∀ h0 ft, vcT1 (c.at h0 ft) A (.tup [i, x]) (.tup [.int j, Y]) σ' fun σ₂ => vcSs A b (c.at h0 ft) σ₂ ⟨I (j + 1), K.next, I (j + 1), K.ret⟩)
inductive EnumI (c : Cx) (W0 : Wd) (m : Nat) (ae ai : Addr) (L : Addr) (I : Nat → St → Prop) (s' : Shared) : Nat → Prop
 | mk (j : Nat) (σ' : St) (ρ' : Nat → Int → Addr) (old : Value) (hj : j ≤ m) (D : Den c σ' ρ' s') (x : Ext W0 (wd c σ' ρ' s')) (Se : Aside c σ' ρ' ae) (Si : Aside c σ' ρ' ai) (en : IsEnum s'.heap ae ai (j : Int) old) (it : s'.heap.IsListIter ai L j) (i : I j σ') : EnumI c W0 m ae ai L I s' (m + 1 - j)
theorem two_a {P : Addr → Prop} {a b : Addr} (ha : P a) (hb : P b) (x : Addr) (h : x = a ∨ x = b) : P x := h.elim (fun e => e ▸ ha) fun e => e ▸ hb
theorem li_imm {h : Heap} {ai L : Addr} {j : Nat} (it : h.IsListIter ai L j) (o : Obj) (ho : h.get? ai = some o) : ¬ Imm o := by
 obtain ⟨o', g, hc, hd⟩ := it
 rw [g] at ho; cases ho
 exact not_imm hc hd (by decide)
theorem ob_imm {h : Heap} {a : Addr} {o' : Obj} (g : h.get? a = some o') (n : ¬ Imm o') (o : Obj) (ho : h.get? a = some o) : ¬ Imm o := by
 rw [g] at ho; cases ho; exact n
theorem ex_enum (F : Fit k c) (hh : A.handled = none) {i x : Nat} {l : TE} {b : List TS} {stm : Stmt} (hc : chkEnum k i x l b stm = true) {σ : St} {K : Kt}
  (q : vcE c A l σ (EnumQ c A i x b K)) : ExE c A σ K stm := by
 refine chkEnum_e (P := ExE c A σ K) hc fun tg f e pc b' pos c1 c2 c3 c4 c5 ρ st D => ?_
 refine wpAny_For ?_ (fun x => rfl)
 rw [notAttr_call c1]
 refine wpAny_bind (wpP (sndE F (.glob 2) f c2 σ (fun X σ₁ => X = .typ "enumerate" ∧ vcE c A l σ₁ (EnumQ c A i x b K)) ⟨rfl, q⟩ ρ st D) fun vf s₀ FV σ₀ ρ₀ D₀ rf x₀ q₀ => ?_)
 rw [q₀.1] at rf
 have rf : vf = .type "enumerate" := rf
 subst rf
 refine callWith_of (P := fun h => ∃ kk, (kk = Keeper.frame ∨ kk = Keeper.machine ∨ kk = Keeper.boundFrame) ∧ Looks (MM c) h (keeperOf (.type "enumerate")) kk) (by rw [(plain_args (pos := pc) c3).2]; rfl) (fun _ h => h) ?_
 refine evalArgs_any c3 (wpVs (sndEs F [l] [e] c3 pc σ₀ (fun Xs σ₁ => EnumQ c A i x b K (Xs.headD .none) σ₁) q₀.2 ρ₀ s₀ D₀) fun vs s₁ Xs σ₁ ρ₁ D₁ rs x₁ hQ => ?_)
 cases Xs with
 | nil => cases hQ.1
 | cons X Xr =>
 cases Xr with
 | cons _ _ => cases hQ.1
 | nil =>
 cases hQ.2 with
 | mk n y xs hX hl I i0 iend istep =>
 have hX : X = .ref n y := hX
 subst hX
 obtain ⟨v, vr, e0, ⟨e1, hd⟩, e2⟩ := rs
 have e2 : vr = [] := e2
 subst e0 e1 e2
 refine ⟨keep_typ σ₁ ρ₁ s₁ _ D₁ rfl, ?_⟩
 obtain ⟨us, m, gus, len, rus⟩ := D₁.list hl
 show wpAny (MM c) A (call (.type "enumerate") [.ref (ρ₁ n y)]) _ _ _
 refine call_enumerate_list ⟨_, gus, rfl, m, rfl⟩ fun h₂ en₂ it₂ sz₂ kp₂ => ?_
 have aE : Aside c σ₁ ρ₁ (s₁.heap.objs.size + 1) := D₁.fresh (Heap.get?_none_of_le (Nat.le_succ _))
 have aI : Aside c σ₁ ρ₁ s₁.heap.objs.size := D₁.fresh (Heap.get?_none_of_le (Nat.le_refl _))
 have hne : s₁.heap.objs.size + 1 ≠ s₁.heap.objs.size := Nat.succ_ne_self _
 generalize s₁.heap.objs.size + 1 = ae at en₂ aE hne ⊢
 generalize s₁.heap.objs.size = ai at en₂ it₂ aI hne
 have N₂ := D₁.keeps (st' := { s₁ with heap := h₂ }) kp₂ rfl rfl
 refine wpAny_pyIter_enum en₂ ?_
 revert c4
 refine fun c4 => onTuple_e (P := fun tg => chkT1 k (.tup [i, x]) tg = true → codeAny (MM c) A (.forLoop tg (.ref ae) b' [] c.env) _ { s₁ with heap := h₂ }) c4 (fun es tx tp _ c4 => ?_) c4
 refine codeAny_loop' (c := .forLoop (.Tuple es tx tp) (.ref ae) b' [] c.env) rfl (fun nn s' => EnumI c (wd c σ₁ ρ₁ s₁) xs.length ae ai (ρ₁ n y) I s' nn) (fun nn s' hI => ?_) (xs.length + 1 - 0) (.mk 0 σ₁ ρ₁ _ (Nat.zero_le _) N₂.1 N₂.2 aE aI en₂ it₂ i0)
 cases hI with
 | mk j σ' ρ' old hj D' x' Se Si en' it' ij =>
 show wpAny _ _ ((forTurn (.Tuple es tx tp) (.ref ae) b' [] c.env).onRaise (fun x => do noteFrame x c.env; theTreesLotGoes x)) _ _ s'
 have hA : A.under (.forLoop (.Tuple es tx tp) (.ref ae) b' [] c.env) = A := Around.under_of_weight rfl
 rw [hA]
 refine wpAny_noted ?_
 unfold forTurn
 refine wpAny_bind (wpAny_standAt (wpAny_bind (wpAny_onRaise ?_)))
 have S' := two_a (P := Aside c σ' ρ') Se Si
 have him := two_a (P := fun a => ∀ o, s'.heap.get? a = some o → ¬ Imm o) (ob_imm en' (not_imm rfl rfl (by decide))) (li_imm it')
 have eρ : ρ' n y = ρ₁ n y := x'.same n y (by show (σ₁.H.get n y).isSome = true; rw [hl]; rfl)
 cases hY : xs[j]? with
 | none =>
  have hje : j = xs.length := Nat.le_antisymm hj (List.getElem?_eq_none_iff.mp hY)
  subst hje
  have hk := iend σ' ij
  obtain ⟨us', m', gus', len', rus'⟩ := D'.list hk.1
  rw [eρ] at gus'
  refine wpAny_pyNext_enum_end hh en' it' ⟨_, gus', rfl, m', rfl⟩ (by rw [← Array.getElem?_toList]; exact (VRs.at _ rus').2 hY) fun h₃ xb => ?_
  have N := D'.asides (st' := { s' with heap := h₃ }) S' him (fun b o t g => xb b o (fun e => t (.inr e)) g) rfl rfl
  exact wpAny_pure (.inr ⟨rfl, codeAny_block (wpAny_execs_nil ⟨σ', ρ', N.1, x₀.trans (x₁.trans (x'.trans N.2)), hk.2⟩)⟩)
 | some Y =>
  have hs := istep j σ' Y ij hY
  have hjl : j < xs.length := (List.getElem?_eq_some_iff.mp hY).1
  obtain ⟨us', m', gus', len', rus'⟩ := D'.list hs.1
  rw [eρ] at gus'
  obtain ⟨yv, hyv, ryv⟩ := (VRs.at j rus').1 Y hY
  have hyv' : us'[j]? = some yv := by rw [← Array.getElem?_toList]; exact hyv
  refine wpAny_pyNext_enum_item en' it' ⟨_, gus', rfl, m', rfl⟩ hyv' hne fun h₃ eno it₃ tup₃ sz₃ kp₃ => ?_
  have N₃ := D'.asides (st' := { s' with heap := h₃, toks := s'.toks + 1 }) S' him (fun b o t g => kp₃ b o (fun e => t (.inl e)) (fun e => t (.inr e)) g) rfl rfl
  have ry : VR (wd c σ' ρ' { s' with heap := h₃, toks := s'.toks + 1 }) (.tup [.int j, Y]) (.ref s'.heap.objs.size) := ⟨_, _, _, _, rfl, tup₃, rfl, rfl, ⟨_, _, rfl, ⟨_, rfl⟩, _, _, rfl, ryv.ext N₃.2 _ _, rfl⟩⟩
  refine wpAny_bind (wpAny_letOwnedTupleGo_enum eno fun h₄ en₄ sb₄ => ?_)
  have sb₄ : Heap.SameBut ae h₃ h₄ := sb₄
  have N₄ := N₃.1.aside (st' := { s' with heap := h₄, toks := s'.toks + 1 }) Se (ob_imm eno (not_imm rfl rfl (by decide))) sb₄.extBut rfl rfl
  have it₄ : h₄.IsListIter ai (ρ₁ n y) (j + 1) := it₃.extBut sb₄.extBut (Ne.symm hne)
  generalize hs4 : ({ s' with heap := h₄, toks := s'.toks + 1 } : Shared) = s₄ at N₄ ⊢
  have eh4 : s₄.heap = h₄ := by rw [← hs4]
  rw [← eh4] at it₄ en₄
  refine wpAny_bind (wpU (c := c.now σ' ρ' s₄) (sndT1 (F.at s₄.heap (c.now σ' ρ' s₄).foot) hh c4 (hs.2 s₄.heap (c.now σ' ρ' s₄).foot) ρ' s₄ _ N₄.1.now (VR.ext N₄.2 _ _ ry)) fun _ s₅ σ₅ ρ₅ D₅ x₅ q₅ => ?_)
  refine wpAny_bind (noted (sndSs hh b b' c5 (c.at s₄.heap (c.now σ' ρ' s₄).foot) (F.at s₄.heap (c.now σ' ρ' s₄).foot) σ₅ _ q₅ ρ₅ s₅ D₅) fun f s₆ P => ?_)
  have X6 : ∀ {σ₆ : St} {ρ₆ : Nat → Int → Addr}, Ext (wd c σ₅ ρ₅ s₅) (wd c σ₆ ρ₆ s₆) → Ext (wd c σ₁ ρ₁ s₁) (wd c σ₆ ρ₆ s₆) := fun x₆ => x'.trans (N₃.2.trans (N₄.2.trans (Ext.trans x₅ x₆)))
  have again : PostU (c.now σ' ρ' s₄) (wd c σ₅ ρ₅ s₅) (I (j + 1)) () s₆ → EnumI c (wd c σ₁ ρ₁ s₁) xs.length ae ai (ρ₁ n y) I s₆ (xs.length + 1 - (j + 1)) := fun h => by
   cases h with
   | mk σ₆ ρ₆ D₆ x₆ q₆ =>
    have ie : IsEnum s₆.heap ae ai ((j : Int) + 1) _ := (Se.next en₄ D₆).2
    obtain ⟨o', g, r⟩ := it₄
    have s' := Si.next g D₆
    exact .mk (j + 1) σ₆ ρ₆ _ hjl (N₄.1.back D₆) (X6 x₆) (Se.next en₄ D₆).1 s'.1 ie ⟨o', s'.2, r⟩ q₆
  have lt : xs.length + 1 - (j + 1) < xs.length + 1 - j := Nat.sub_lt_sub_left (Nat.lt_succ_of_lt hjl) (Nat.lt_succ_self j)
  cases f with
  | next => exact wpAny_pure (.inl ⟨rfl, _, lt, again P⟩)
  | cont => exact wpAny_pure (.inl ⟨rfl, _, lt, again P⟩)
  | brk =>
   cases P with
   | mk σ₆ ρ₆ D₆ x₆ q₆ => exact wpAny_pure ⟨σ₆, ρ₆, N₄.1.back D₆, x₀.trans (x₁.trans (X6 x₆)), q₆⟩
  | ret v' =>
   cases P with
   | mk Z σ₆ ρ₆ D₆ rz x₆ q₆ => exact wpAny_pure ⟨Z, σ₆, ρ₆, N₄.1.back D₆, rz, x₀.trans (x₁.trans (X6 x₆)), q₆⟩
end
end
section
open PySem.SeqAt
theorem slot_map_init : Slot "map" "__init__" "object.__init__" :=
 .of (owner := "object") (n := "__init__") (by rw [typeLookup_type, builtinLookup_eq_fast]; kernel_rfl) (by decide +kernel) (by decide +kernel) (by decide +kernel)
  (by first | exact .inl (by decide +kernel) | exact .inr (by decide +kernel)) (by rw [isSubtype_type]; kernel_rfl)
theorem mro_map : mroOf (.type "map") = pure [.type "map", .type "object"] := by rw [mroOf_type]; kernel_rfl
theorem lookup_map_new : typeLookup (.type "map") "__new__" = pure (some (.builtin "map.__new__")) := by rw [typeLookup_type, builtinLookup_eq_fast]; kernel_rfl
theorem called_map : TypeCalled "map" "map.__new__" "object.__init__" :=
 ⟨by decide +kernel, by decide +kernel, ⟨_, _, mro_map⟩, madeBy_type mro_map lookup_map_new (by decide +kernel), by decide +kernel, by rw [isSubtype_type]; kernel_rfl, slot_map_init⟩
theorem typeCall_map_2 (a b : Value) : checkTypeCall "map" ⟨[a, b], []⟩ = pure () := by kernel_rfl
theorem newCall_map_2 (a b : Value) : checkBuiltinCall "map.__new__" ⟨[.type "map", a, b], []⟩ = pure () := by kernel_rfl
theorem entry_map_new : entryFor table "map.__new__" = some Builtin.«map.__new__» := entryFor_of_tree (by kernel_rfl)
theorem args_oi3 (a b d : Value) : argsOk "object.__init__" ⟨[a, b, d], []⟩ := by unfold argsOk; kernel_rfl
theorem sub_map : isSubtype (.type "map") (.type "map") = pure true := by rw [isSubtype_type]; kernel_rfl
theorem slot_map_next : Slot "map" "__next__" "map.__next__" :=
 .of (owner := "map") (n := "__next__") (by rw [typeLookup_type, builtinLookup_eq_fast]; kernel_rfl) (by decide +kernel) (by decide +kernel) (by decide +kernel)
  (by first | exact .inl (by decide +kernel) | exact .inr (by decide +kernel)) (by rw [isSubtype_type]; kernel_rfl)
theorem entry_map_next : entryFor table "map.__next__" = some Builtin.«map.__next__» := entryFor_of_tree (by kernel_rfl)
theorem args_map_next (a : Value) : argsOk "map.__next__" ⟨[a], []⟩ := by unfold argsOk; kernel_rfl
noncomputable def mapObj (T F : Addr) : Obj := { cls := .type "map", data := .fields #[.ref T, .ref F] }
noncomputable def liObj (l : Addr) (i : Nat) : Obj := ⟨.type "list_iterator", none, .fields #[.ref l, .int (i : Int) 0], #[]⟩
section
variable {prog : Program} {w : World} {A : Around} {E : Value → Shared → Prop} {s : Shared}
theorem meets_map_new (F l : Addr) (items : Array Value) (n : Nat) :
  Meets (Builtin.«map.__new__» ⟨[.type "map", .ref F, .ref l], []⟩) (fun _ R s => s.heap.get? l = some { cls := .type "list", dict := none, data := .seq items n, slots := #[] } ∧
   R (.ok (.ret (.ref ((s.heap.push (liObj l 0)).push { cls := .type "tuple", data := .seq #[.ref s.heap.objs.size] }).objs.size)))
    { s with heap := ((s.heap.push (liObj l 0)).push { cls := .type "tuple", data := .seq #[.ref s.heap.objs.size] }).push (mapObj (s.heap.push (liObj l 0)).objs.size F) }) :=
 .of_wp fun prog w A R s h => by
  obtain ⟨hp, g, d, tk, os⟩ := s; obtain ⟨hl, h⟩ := h
  have hsub := sub_map
  have hL : Heap.IsList (Shared.heap ⟨hp, g, d, tk, os⟩) l items := ⟨_, hl, rfl, n, rfl⟩
  unfold Builtin.«map.__new__»
  refine wpAny_bind ?_
  unfold Builtin.SmallTypes.newClass
  wp_walk using wpAny_loadPart' hl, wpAny_pyIter_list hL
  exact ⟨_, rfl, h⟩
theorem call_map {F l : Addr} {items : Array Value} {n : Nat} {Q : Value → Shared → Prop} (hl : s.heap.get? l = some { cls := .type "list", dict := none, data := .seq items n, slots := #[] })
  (h : ∀ h' M T I, h'.get? M = some (mapObj T F) → h'.get? T = some { cls := .type "tuple", data := .seq #[.ref I] } → h'.get? I = some (liObj l 0) → s.heap.get? I = none → s.heap.get? M = none → s.heap.get? T = none →
   (∀ b o, s.heap.get? b = some o → h'.get? b = some o) → Q (.ref M) { s with heap := h' }) :
  wpAny (model prog w) A (call (.type "map") [.ref F, .ref l]) Q E s := by
 refine callType_new called_map (by decide) (typeCall_map_2 _ _) (newCall_map_2 _ _) (fun obj => args_oi3 obj _ _) entry_map_new (meets_map_new F l items n) ⟨hl, ?_⟩
 have z1 : (s.heap.push (liObj l 0)).objs.size = s.heap.objs.size + 1 := Heap.size_push ..
 have z2 : ((s.heap.push (liObj l 0)).push { cls := .type "tuple", data := .seq #[.ref s.heap.objs.size] }).objs.size = s.heap.objs.size + 2 := by rw [Heap.size_push, z1]
 have gM := Heap.get?_push_size ((s.heap.push (liObj l 0)).push { cls := .type "tuple", data := .seq #[.ref s.heap.objs.size] }) (o := mapObj (s.heap.push (liObj l 0)).objs.size F) rfl
 have gT := Heap.get?_push_of_some (mapObj (s.heap.push (liObj l 0)).objs.size F) (Heap.get?_push_size (s.heap.push (liObj l 0)) (o := { cls := .type "tuple", data := .seq #[.ref s.heap.objs.size] }) rfl)
 have gI := Heap.get?_push_of_some (mapObj (s.heap.push (liObj l 0)).objs.size F) (Heap.get?_push_of_some { cls := .type "tuple", data := .seq #[.ref s.heap.objs.size] } (Heap.get?_push_size s.heap (o := liObj l 0) rfl))
 exact ⟨⟨_, gM, rfl⟩, h _ _ _ _ gM gT gI (Heap.get?_none_of_le (Nat.le_refl _)) (Heap.get?_none_of_le (by rw [z2]; grind)) (Heap.get?_none_of_le (by rw [z1]; exact Nat.le.step Nat.le.refl)) fun b o x => Heap.get?_push_of_some _ (Heap.get?_push_of_some _ (Heap.get?_push_of_some _ x))⟩
theorem li_call {I l : Addr} {ol : Obj} {i : Nat} {items : Array Value} {nl : Nat} {Q : Value → Shared → Prop} (hh : A.handled = none)
  (hit : s.heap.get? I = some (liObj l i)) (hol : s.heap.get? l = some ol) (hdl : ol.data = .seq items nl)
  (h1 : ∀ v, items[i]? = some v → ∀ h', Heap.SameBut I s.heap h' → h'.get? I = some (liObj l (i + 1)) → Q v { s with heap := h' })
  (h2 : items[i]? = none → ∀ h' e, Heap.ExtBut I s.heap h' → (∃ o', h'.get? I = some o' ∧ ¬ Imm o') → NewExc s.heap h' e "StopIteration" → E (.ref e) { s with heap := h' }) :
  wpAny (model prog w) A (call (.builtin "list_iterator.__next__") [.ref I]) Q E s := by
 have hT : s.TypeIs (.ref I) "list_iterator" := ⟨_, hit, rfl⟩
 refine wpAny_call (codeAny_call_builtin slot_li_next.plain entry_listiter_next (slot_li_next.check _ _ _ _ _ _ _ _ hT (args_listiter_next _) ?_))
 show wpAny _ _ (field (.ref I) 0 >>= _) _ _ s
 refine wpAny_bind (wpAny_field hit rfl (x := .ref l) rfl ?_)
 show wpAny _ _ (if (Value.ref l == Value.none) = true then _ else _) _ _ s
 rw [if_neg (show ¬ ((Value.ref l == Value.none) = true) from Bool.false_ne_true)]
 show wpAny _ _ (field (.ref I) 1 >>= _) _ _ s
 refine wpAny_bind (wpAny_field hit rfl (x := .int i 0) rfl ?_)
 show wpAny _ _ (seqItems? (.ref l) >>= _) _ _ s
 refine wpAny_bind (wpAny_seqItems hol hdl ?_)
 cases hx : items[i]? with
 | some v =>
  simp only [Int.toNat_natCast, hx]
  refine wpAny_bind (wpAny_setField hit rfl (by simp) (wpAny_pure (h1 v hx _ (Heap.SameBut.update ..) ?_)))
  rw [Heap.get?_update_self _ hit (Obj.isFreed_of_fields (Obj.data_mapFields rfl _))]
  simp [Obj.mapFields, rawInt, liObj]
 | none =>
  simp only [Int.toNat_natCast, hx]
  refine wpAny_bind (wpAny_rule (wpAny_bind (wpAny_setField hit rfl (by simp) ?_)))
  show wpAny _ _ (newExc (.type "StopIteration") [] >>= _) _ _ _
  refine wpAny_bind ?_
  simp only [newExc, newTuple]
  refine wpAny_bind (wpAny_newObj_type ?_ (by size_fits))
  refine wpAny_bind (m := firstArgMember _ _) (wpAny_of_eq (a := Value.none) (by first | rfl | (simp only [firstArgMember]; rfl)) ?_)
  refine wpAny_newObj_type ?_ (by size_fits)
  simp only [raiseNew]
  refine wpAny_bind (wpAny_handled ?_)
  rw [show A.in1.handled = none from hh]
  refine wpAny_bind (wpAny_pure (wpAny_throw ?_))
  have hu := Heap.get?_update_self (Obj.mapFields (·.setIfInBounds 0 Value.none)) hit (Obj.isFreed_of_fields (Obj.data_mapFields rfl _))
  refine h2 hx _ _ (((Heap.SameBut.update ..).extBut.push _).push _) ⟨_, Heap.get?_push_of_some _ (Heap.get?_push_of_some _ hu), imm_type rfl (by decide) (fun e => nomatch e)⟩ ⟨?_, _, _, Heap.get?_push_size _ rfl, rfl, rfl, rfl⟩
  refine Heap.get?_none_of_le ?_
  rw [Heap.size_push, Heap.size_after_update]
  exact Nat.le_succ _
theorem map_next {M T F I l : Addr} {ol : Obj} {i : Nat} {items : Array Value} {nl : Nat} {Q : Option Value → Shared → Prop} (hh : A.handled = none)
  (hM : s.heap.get? M = some (mapObj T F)) (hT : s.heap.get? T = some { cls := .type "tuple", data := .seq #[.ref I] }) (hit : s.heap.get? I = some (liObj l i)) (hol : s.heap.get? l = some ol) (hdl : ol.data = .seq items nl) (hMI : M ≠ I)
  (h1 : ∀ v, items[i]? = some v → ∀ h', Heap.SameBut I s.heap h' → h'.get? I = some (liObj l (i + 1)) → wpAny (model prog w) A.in1 (call (.ref F) [v]) (fun r s' => Q (some r) s') (fun _ _ => False) { s with heap := h' })
  (h2 : items[i]? = none → ∀ h', Heap.ExtBut I s.heap h' → (∃ o', h'.get? I = some o' ∧ ¬ Imm o') → Q none { s with heap := h' }) :
  wpAny (model prog w) A (pyNext (.ref M)) Q E s := by
 have hTM : s.TypeIs (.ref M) "map" := ⟨_, hM, rfl⟩
 unfold pyNext
 refine wpAny_bind (wpAny_attempt (wpAny_callSpecial?_slot (name := Str.ofString "__next__") hTM slot_map_next
  (wpAny_call_entry slot_map_next hTM entry_map_next ?_ (args_map_next _))))
 show wpAny _ _ (field (.ref M) 0 >>= _) _ _ s
 refine wpAny_bind (wpAny_field hM rfl (x := .ref T) rfl ?_)
 show wpAny _ _ (seqItems? (.ref T) >>= _) _ _ s
 refine wpAny_bind (wpAny_seqItems hT rfl ?_)
 dsimp only
 rw [← Array.forIn_toList]
 simp only [List.forIn_cons, List.forIn_nil]
 have hTI : s.TypeIs (.ref I) "list_iterator" := ⟨_, hit, rfl⟩
 refine wpAny_bind (wpAny_bind (wpAny_bind (wpAny_holding ?_)))
 unfold Builtin.SmallTypes.nextOf
 refine wpAny_bind (wpAny_callSpecial?_slot (name := Str.ofString "__next__") hTI slot_li_next (li_call (by exact hh) hit hol hdl (fun v hv h' sb hI => ?_) (fun hv h' e eb hd hne => ?_)))
 ·refine wpAny_pure (wpAny_pure ?_)
  dsimp only
  refine wpAny_pure ?_
  have hM' : h'.get? M = some (mapObj T F) := sb.extBut M _ hMI hM
  refine wpAny_bind (wpAny_field (s := { s with heap := h' }) hM' rfl (x := .ref F) rfl ?_)
  refine wpAny_bind (wpAny_holding (wpAny_mono (h1 v hv h' sb hI) (fun r s' hr => ?_) fun _ _ x => x.elim))
  exact wpAny_bind (wpAny_letGo (wpAny_pure ⟨_, rfl, wpAny_pure hr⟩))
 ·obtain ⟨hn, oe, vs, ge, ce, _⟩ := hne
  refine wpAny_bind (wpAny_isInstance (T := "StopIteration") (b := true) ⟨_, ge, ce⟩ isSubtype_stop ?_)
  exact wpAny_pure (h2 hv h' eb hd)
end
end
section
open PySem.SeqAt
theorem slot_map_iter : Slot "map" "__iter__" "map.__iter__" :=
 .of (owner := "map") (n := "__iter__") (by rw [typeLookup_type, builtinLookup_eq_fast]; kernel_rfl) (by decide +kernel) (by decide +kernel) (by decide +kernel)
  (by first | exact .inl (by decide +kernel) | exact .inr (by decide +kernel)) (by rw [isSubtype_type]; kernel_rfl)
theorem entry_map_iter : entryFor table "map.__iter__" = some Builtin.«dict_keyiterator.__iter__» :=
 entryFor_alias (id' := "dict_keyiterator.__iter__") (by kernel_rfl) (by decide +kernel) (by decide +kernel) (by kernel_rfl)
theorem args_map_iter (a : Value) : argsOk "map.__iter__" ⟨[a], []⟩ := by unfold argsOk; kernel_rfl
theorem map_no_len : typeLookup (.type "map") "__len__" = pure none := by rw [typeLookup_type, builtinLookup_eq_fast]; kernel_rfl
theorem map_no_hint : typeLookup (.type "map") "__length_hint__" = pure none := by rw [typeLookup_type, builtinLookup_eq_fast]; kernel_rfl
noncomputable def tpV (t : T3) : V := .tup [.int t.1, .int t.2.1, .int t.2.2]
theorem iter_map {prog : Program} {w : World} {A : Around} {E : Value → Shared → Prop} {s : Shared} {M T F : Addr} {Q : Value → Shared → Prop} (hM : s.heap.get? M = some (mapObj T F)) (h : Q (.ref M) s) : wpAny (model prog w) A (pyIter (.ref M)) Q E s := by
 have hT : s.TypeIs (.ref M) "map" := ⟨_, hM, rfl⟩
 refine wpAny_pyIter_slot hT slot_map_iter (wpAny_call_entry slot_map_iter hT entry_map_iter ?_ (args_map_iter _))
 show wpAny _ _ (ret (.ref M)) _ _ s
 exact wpAny_pure ⟨_, rfl, "map", _, hT, slot_map_next.lookup, h⟩
theorem Room.in1 {n : Nat} {A : Around} (h : Room (n + 1) A) : Room n A.in1 := ⟨by have := h.depth; show A.depth + 2 * n < 600; lia, by have := h.units; show A.units + 1 + 12 * n < cLine; lia, h.handled⟩
section
variable {c : Cx} {A : Around} {σ : St}
theorem liObj_imm {l : Addr} {j : Nat} : ¬ Imm (liObj l j) := imm_type rfl (by decide) (fun e => nomatch e)
theorem list_imm {acc : Array Value} {c' : Nat} : ¬ Imm { cls := .type "list", dict := none, data := .seq acc c', slots := #[] } := imm_type rfl (by decide) (fun e => nomatch e)
structure MapAp (S M T F I : Addr) : Prop where
 SM : S ≠ M
 ST : S ≠ T
 SF : S ≠ F
 SI : S ≠ I
 MI : M ≠ I
 TI : T ≠ I
 FI : F ≠ I
structure MapS (c : Cx) (σ : St) (S M T F I : Addr) (n : Nat) (y : Int) (j : Nat) (Ys : List V) (ρ : Nat → Int → Addr) (s : Shared) : Prop where
 den : Den c σ ρ s
 aS : Aside c σ ρ S
 aM : Aside c σ ρ M
 aT : Aside c σ ρ T
 aF : Aside c σ ρ F
 aI : Aside c σ ρ I
 gM : s.heap.get? M = some (mapObj T F)
 gT : s.heap.get? T = some { cls := .type "tuple", data := .seq #[.ref I] }
 gF : s.heap.get? F = some (methodObj (.ref 89) (.ref 135))
 gI : s.heap.get? I = some (liObj (ρ n y) j)
 gS : ∃ acc c', s.heap.get? S = some { cls := .type "list", dict := none, data := .seq acc c', slots := #[] } ∧ VRs (wd c σ ρ s) Ys acc.toList
structure MapR (c : Cx) (σ : St) (S : Addr) (Ys : List V) (ρ : Nat → Int → Addr) (s : Shared) (acc : Array Value) (c' : Nat) : Prop where
 den : Den c σ ρ s
 aS : Aside c σ ρ S
 gS : s.heap.get? S = some { cls := .type "list", dict := none, data := .seq acc c', slots := #[] }
 rs : VRs (wd c σ ρ s) Ys acc.toList
section
variable {S M T F I : Addr} {n : Nat} {y : Int} {j : Nat} {Ys : List V} {ρ : Nat → Int → Addr} {s : Shared}
theorem MapS.iter (ap : MapAp S M T F I) (m : MapS c σ S M T F I n y j Ys ρ s) {h' : Heap} {j' : Nat} (eb : Heap.ExtBut I s.heap h') (gI : h'.get? I = some (liObj (ρ n y) j')) : MapS c σ S M T F I n y j' Ys ρ { s with heap := h' } ∧ Ext (wd c σ ρ s) (wd c σ ρ { s with heap := h' }) := by
 obtain ⟨D1, x1⟩ := m.den.aside (st' := { s with heap := h' }) m.aI (fun o ho => by rw [m.gI] at ho; cases ho; exact liObj_imm) eb rfl rfl
 exact ⟨⟨D1, m.aS, m.aM, m.aT, m.aF, m.aI, eb M _ ap.MI m.gM, eb T _ ap.TI m.gT, eb F _ ap.FI m.gF, gI, m.gS.imp fun acc h => h.imp fun c' h => ⟨eb S _ ap.SI h.1, VRs.ext x1 _ _ h.2⟩⟩, x1⟩
theorem MapS.last (ap : MapAp S M T F I) (m : MapS c σ S M T F I n y j Ys ρ s) {h' : Heap} (eb : Heap.ExtBut I s.heap h') : (∃ acc c', MapR c σ S Ys ρ { s with heap := h' } acc c') ∧ Ext (wd c σ ρ s) (wd c σ ρ { s with heap := h' }) := by
 obtain ⟨D1, x1⟩ := m.den.aside (st' := { s with heap := h' }) m.aI (fun o ho => by rw [m.gI] at ho; cases ho; exact liObj_imm) eb rfl rfl
 exact ⟨m.gS.imp fun acc h => h.imp fun c' h => ⟨D1, m.aS, eb S _ ap.SI h.1, VRs.ext x1 _ _ h.2⟩, x1⟩
theorem MapS.call (m : MapS c σ S M T F I n y j Ys ρ s) (hn : (σ.H.get n y).isSome = true) {ρ' : Nat → Int → Addr} {s' : Shared} (D : Den (c.now σ ρ s) σ ρ' s') (x : Ext (wd c σ ρ s) (wd c σ ρ' s')) : MapS c σ S M T F I n y j Ys ρ' s' := by
 obtain ⟨aM, gM⟩ := m.aM.next m.gM D
 obtain ⟨aT, gT⟩ := m.aT.next m.gT D
 obtain ⟨aF, gF⟩ := m.aF.next m.gF D
 obtain ⟨aI, gI⟩ := m.aI.next m.gI D
 obtain ⟨acc, c', gS, rs⟩ := m.gS
 obtain ⟨aS, gS⟩ := m.aS.next gS D
 exact ⟨m.den.back D, aS, aM, aT, aF, aI, gM, gT, gF, by rw [show ρ' n y = ρ n y from x.same n y hn]; exact gI, acc, c', gS, VRs.ext x _ _ rs⟩
theorem MapS.push (ap : MapAp S M T F I) (m : MapS c σ S M T F I n y j Ys ρ s) {X : V} {u : Value} (ru : VR (wd c σ ρ s) X u) : MapS c σ S M T F I n y j (Ys ++ [X]) ρ { s with heap := s.heap.update S (Obj.mapSeq (·.push u)) } ∧ Ext (wd c σ ρ s) (wd c σ ρ { s with heap := s.heap.update S (Obj.mapSeq (·.push u)) }) := by
 obtain ⟨acc, c', gS, rs⟩ := m.gS
 have up : Heap.ExtBut S s.heap (s.heap.update S (Obj.mapSeq (·.push u))) := fun b o hb e => (Heap.get?_update_other _ _ (Ne.symm hb)).trans e
 obtain ⟨D, x⟩ := m.den.aside (st' := { s with heap := s.heap.update S (Obj.mapSeq (·.push u)) }) m.aS (fun o ho => by rw [gS] at ho; cases ho; exact list_imm) up rfl rfl
 exact ⟨⟨D, m.aS, m.aM, m.aT, m.aF, m.aI, up M _ ap.SM.symm m.gM, up T _ ap.ST.symm m.gT, up F _ ap.SF.symm m.gF, up I _ ap.SI.symm m.gI, acc.push u, _, Heap.get?_update_self _ gS rfl, by
  rw [Array.toList_push]
  exact VRs.app (VRs.ext x _ _ rs) (VRs.cons (VR.ext x _ _ ru) (VRs.nil _))⟩, x⟩
theorem map_loop (G : Good c) (rm : Room 4 A) (ap : MapAp S M T F I) {W0 : Wd} {xs : List T3} (hg : σ.H.get n y = some (.list (xs.map tpV))) (hl : xs.length < 1000) {R : Result → Shared → Prop}
  (hR : ∀ ρ' s' acc c', MapR c σ S (xs.map mtV) ρ' s' acc c' → Ext W0 (wd c σ ρ' s') → R (.ok (.ret .none)) s') {k : Nat} (hk : j + k = xs.length) (m : MapS c σ S M T F I n y j ((xs.take j).map mtV) ρ s) (x : Ext W0 (wd c σ ρ s)) :
  codeAny (MM c) A (.builtin "list.extend.loop" ⟨[.ref S, .ref M, .none], []⟩) R s := by
 induction k generalizing j s ρ with
 | zero =>
  subst hk
  rw [List.take_length] at m
  obtain ⟨us, _, gus, len, rus⟩ := m.den.list hg
  rw [List.length_map] at len
  refine codeAny_builtin PySem.F.entry_extend_loop ?_
  rw [Around.under_plainId PySem.F.plain_extend_loop _]
  show wpAny _ A.in1 (pyNext (.ref M) >>= _) _ _ s
  refine wpAny_bind (map_next (A := A.in1) rm.handled m.gM m.gT m.gI gus rfl ap.MI (fun v hv => by rw [Array.getElem?_eq_none (Nat.le_of_eq len)] at hv; cases hv) fun _ h' eb hd => ?_)
  obtain ⟨⟨acc, c', r⟩, x1⟩ := m.last ap eb
  exact wpAny_pure (hR ρ _ acc c' r (x.trans x1))
 | succ k ih =>
  have hjl : j < xs.length := by rw [← hk]; exact Nat.lt_add_of_pos_right (Nat.succ_pos k)
  obtain ⟨us, _, gus, len, rus⟩ := m.den.list hg
  rw [List.length_map] at len
  refine codeAny_builtin PySem.F.entry_extend_loop ?_
  rw [Around.under_plainId PySem.F.plain_extend_loop _]
  show wpAny _ A.in1 (pyNext (.ref M) >>= _) _ _ s
  refine wpGen fun Q hQ => wpAny_bind (map_next (A := A.in1) rm.handled m.gM m.gT m.gI gus rfl ap.MI (fun v hv h' sb gI' => ?_) fun hv => absurd (len ▸ Array.getElem?_eq_none_iff.mp hv) (Nat.not_le_of_lt hjl))
  obtain ⟨v', hv', rv⟩ := (VRs.at j rus).1 (tpV xs[j]) (by rw [List.getElem?_map, List.getElem?_eq_getElem hjl]; rfl)
  have ev : v' = v := by
   rw [Array.getElem?_toList] at hv'
   exact Option.some.inj (hv'.symm.trans hv)
  subst ev
  obtain ⟨m1, x1⟩ := m.iter ap sb.extBut gI'
  have rv1 := VR.ext x1 _ _ rv
  have x := x.trans x1
  generalize ({ s with heap := h' } : Shared) = s1 at m1 rv1 x ⊢
  clear m x1 gus rv hv hv' gI' sb rus
  refine wpAny_call (method_call m1.gF (codeAny_mono (cd_make (c := c.now σ ρ s1) (A := A.in1.in1) (σ := σ) (Q := fun X σ' => X = mtV xs[j] ∧ σ' = σ) (X := .int xs[j].1) (Y := .int xs[j].2.1) (Z := .int xs[j].2.2) G.at ((rm.in1.in1).less (by decide)) ⟨rfl, rfl⟩ ρ s1 [.ref 135, v'] m1.den.now (VRs.cons rfl (VRs.cons rv1 (VRs.nil _)))) fun r s2 hr => ?_))
  cases r with
  | error e => exact hr
  | ok fl =>
   cases fl with
   | ret u =>
    obtain ⟨X, σ2, ρ2, D2, ru, x2, e1, e2⟩ := hr
    subst e1 e2
    have x2 : Ext (wd c σ2 ρ s1) (wd c σ2 ρ2 s2) := x2
    have m2 := m1.call (by rw [hg]; rfl) D2 x2
    obtain ⟨acc, c', gS, rs⟩ := m2.gS
    have hsz : acc.size = j := by have := VRs.length rs; rw [List.length_map, List.length_take, Nat.min_eq_left (Nat.le_of_lt hjl), Array.length_toList] at this; exact this
    have hj : acc.size + 1 ≤ sizeLine := by rw [hsz]; exact Nat.le_trans hjl (Nat.le_trans (Nat.le_of_lt hl) (by rw [sizeLine_eq]; decide))
    show wpAny _ A.in1 (updateSeq S (·.push u) >>= _) _ _ s2
    refine wpAny_bind (wpAny_updateSeq gS rfl (wpAny_pure (hQ _ _ ⟨plainId_quiet PySem.F.plain_extend_loop _, ?_⟩)) (Nat.le_of_succ_le hj) (by show (acc.push u).size ≤ sizeLine + 1; rw [Array.size_push]; exact Nat.le.step hj))
    obtain ⟨m3, x3⟩ := m2.push ap ru
    have e : (xs.take j).map mtV ++ [mtV xs[j]] = (xs.take (j + 1)).map mtV := by rw [List.take_add_one, List.getElem?_eq_getElem hjl, List.map_append]; rfl
    rw [e] at m3
    exact ih ((Nat.add_right_comm j 1 k).trans hk) m3 (x.trans (x2.trans x3))
   | _ => exact hr.elim
end
end
end
section
open PySem.SeqAt
noncomputable def chkMap (k : Ck) (j : Nat) (e : Expr) : Bool := onCall e fun nl as1 kw1 _ => onOne as1 fun c2 => onCall c2 fun nm as2 kw2 _ => onCons as2 fun a1 r => onOne r fun nx => onAttribute a1 fun nM at' _ =>
 kw1.isEmpty && (kw2.isEmpty && (nl.ctorIdx != 20 && (chkE k (.glob 6) nl && (nm.ctorIdx != 20 && (chkE k (.glob 7) nm && (notSuper nM && (chkE k (.glob 12) nM && (at' == s "_make" && (nx.ctorIdx != 22 && chkE k (.loc j) nx)))))))))
theorem chkMap_e {P : Expr → Prop} {k : Ck} {j : Nat} {e : Expr} (h : chkMap k j e = true)
  (g : ∀ nl nm nM pa nx pm pl, (nl.ctorIdx != 20) = true → chkE k (.glob 6) nl = true → (nm.ctorIdx != 20) = true → chkE k (.glob 7) nm = true → notSuper nM = true → chkE k (.glob 12) nM = true → (nx.ctorIdx != 22) = true → chkE k (.loc j) nx = true → P (.Call nl [.Call nm [.Attribute nM (s "_make") pa, nx] [] pm] [] pl)) : P e := by
 refine onCall_e (P := P) h fun nl as1 kw1 pl h => onOne_e (P := fun as => P (.Call nl as kw1 pl)) h fun c2 h => onCall_e (P := fun c2 => P (.Call nl [c2] kw1 pl)) h fun nm as2 kw2 pm h => onCons_e (P := fun as => P (.Call nl [.Call nm as kw2 pm] kw1 pl)) h fun a1 r h => onOne_e (P := fun r => P (.Call nl [.Call nm (a1 :: r) kw2 pm] kw1 pl)) h fun nx h => onAttribute_e (P := fun a => P (.Call nl [.Call nm [a, nx] kw2 pm] kw1 pl)) h fun nM at' pa h => and_e h fun e1 h => and_e h fun e2 h => ?_
 refine nil_e (P := fun kw => P (.Call nl [.Call nm _ kw2 pm] kw pl)) e1 (nil_e (P := fun kw => P (.Call nl [.Call nm _ kw pm] [] pl)) e2 ?_)
 exact and_e h fun c1 h => and_e h fun c2 h => and_e h fun c3 h => and_e h fun c4 h => and_e h fun c5 h => and_e h fun c6 h => and_e h fun c7 h => and_e h fun c8 c9 => by
  cases eq_of_beq c7
  exact g _ _ _ _ _ _ _ c1 c2 c3 c4 c5 c6 c8 c9
theorem adopt_ext {c : Cx} {σ : St} {ρ : Nat → Int → Addr} {st : Shared} (_D : Den c σ ρ st) {a : Addr} {o' : O} : Ext (wd c σ ρ st) (wd c { σ with H := σ.H ++ [.one o'] } (ρapp ρ σ.H.length a) st) :=
 ⟨fun j y h => (congrArg Option.isSome (adopt_at (H := σ.H) (ρ := ρ) (a := a) h).1).trans h, fun j y h => (adopt_at (o' := o') h).2, fun b o h _ => h⟩
section
variable {k : Ck} {c : Cx} {A : Around}
theorem list_of_map (G : Good c) (rm : Room 5 A) {σ : St} {n : Nat} {y : Int} {xs : List T3} (hg : σ.H.get n y = some (.list (xs.map tpV))) (hl : xs.length < 1000) {ρ : Nat → Int → Addr} {s₅ : Shared} (D₅ : Den c σ ρ s₅) {M T F I : Addr}
  (gM : s₅.heap.get? M = some (mapObj T F)) (gT : s₅.heap.get? T = some { cls := .type "tuple", data := .seq #[.ref I] }) (gF : s₅.heap.get? F = some (methodObj (.ref 89) (.ref 135))) (gI : s₅.heap.get? I = some (liObj (ρ n y) 0)) (aM : Aside c σ ρ M) (aT : Aside c σ ρ T) (aF : Aside c σ ρ F) (aI : Aside c σ ρ I) {R : Value → Shared → Prop} {E : Value → Shared → Prop}
  (q : ∀ ρ' s' v, Den c ⟨σ.loc, σ.H ++ [.one (.list (xs.map mtV))]⟩ ρ' s' → VR (wd c ⟨σ.loc, σ.H ++ [.one (.list (xs.map mtV))]⟩ ρ' s') (.ref σ.H.length 0) v → Ext (wd c σ ρ s₅) (wd c ⟨σ.loc, σ.H ++ [.one (.list (xs.map mtV))]⟩ ρ' s') → R v s') :
  wpAny (MM c) A (call (.type "list") [.ref M]) R E s₅ := by
 have aS := D₅.fresh (get_size s₅.heap)
 have nS : ∀ {a o}, s₅.heap.get? a = some o → s₅.heap.objs.size ≠ a := fun g e => by rw [← e, get_size] at g; cases g
 have ap : MapAp s₅.heap.objs.size M T F I := ⟨nS gM, nS gT, nS gF, nS gI, fun e => by rw [e, gI] at gM; simp [mapObj, liObj] at gM, fun e => by rw [e, gI] at gT; simp [liObj] at gT, fun e => by rw [e, gI] at gF; simp [liObj] at gF⟩
 refine callType_codes (Q₁ := fun obj s₁ => obj = .ref s₅.heap.objs.size ∧ s₁ = { s₅ with heap := s₅.heap.push { cls := .type "list", data := .seq #[] } }) PySem.F.called_list (PySem.F.typeCall_list_1 _) PySem.F.entry_list_init
  (code_list_new _ ⟨rfl, rfl⟩) fun obj s₆ h₆ => ?_
 obtain ⟨e1, e2⟩ := h₆
 subst e1 e2
 have hS : (s₅.heap.push { cls := .type "list", data := .seq #[] }).get? s₅.heap.objs.size = some { cls := .type "list", data := .seq #[] } := Heap.get?_push_size _ rfl
 have nS0 := get_size s₅.heap
 clear nS
 generalize s₅.heap.objs.size = S at aS hS ap nS0 ⊢
 refine ⟨⟨_, hS, rfl⟩, PySem.F.args_list_init_2 _ _, ?_⟩
 show wpAny _ _ (do let old ← Builtin.List.listItems (.ref S); Builtin.List.listUpdate (.ref S) (fun _ => #[]); letGo old.toList.reverse; Builtin.List.listExtendWith (.ref S) (.ref M) .none) _ _ _
 refine wpAny_bind ?_
 unfold Builtin.List.listItems
 refine wpAny_bind (wpAny_seqItems hS rfl (wpAny_pure ?_))
 show wpAny _ _ (updateSeq S (fun _ => #[]) >>= fun _ => letGo (#[] : Array Value).toList.reverse >>= fun _ => Builtin.List.listExtendWith (.ref S) (.ref M) .none) _ _ _
 refine wpAny_bind (wpAny_updateSeq hS rfl ?_)
 refine wpAny_bind (wpAny_letGo ?_)
 have hS₂ := Heap.get?_update_self (Obj.mapSeq (fun _ => (#[] : Array Value))) hS rfl
 have oth : ∀ b o, b ≠ S → s₅.heap.get? b = some o → ((s₅.heap.push { cls := .type "list", data := .seq #[] }).update S (Obj.mapSeq (fun _ => (#[] : Array Value)))).get? b = some o :=
  fun b o hb e => (Heap.get?_update_other _ _ (Ne.symm hb)).trans (Heap.get?_push_of_some _ e)
 generalize (s₅.heap.push { cls := .type "list", data := .seq #[] }).update S (Obj.mapSeq (fun _ => (#[] : Array Value))) = hv at hS₂ oth ⊢
 have gM2 := oth M _ ap.SM.symm gM
 unfold Builtin.List.listExtendWith
 refine wpAny_bind (wpAny_typeOf (T := "map") ⟨_, gM2, rfl⟩ ?_)
 have h1 : Builtin.List.listSameRef (.ref S) (.ref M) = false := by simp [Builtin.List.listSameRef, ap.SM]
 have h2 : (Value.type "map" == Value.type "list") = false := by decide
 have h3 : (Value.type "map" == Value.type "tuple") = false := by decide
 rw [h1, h2, h3, Bool.or_false, Bool.or_false, if_neg Bool.false_ne_true]
 refine wpAny_bind (iter_map gM2 ?_)
 refine wpAny_bind (wpAny_holding ?_)
 unfold Builtin.List.listLengthHint
 refine wpAny_bind (wpAny_specialOf ⟨_, gM2, rfl⟩ map_no_len ?_)
 show wpAny _ _ (specialOf (Value.ref M) (Str.ofString "__length_hint__") >>= _) _ _ _
 refine wpAny_bind (wpAny_specialOf ⟨_, gM2, rfl⟩ map_no_hint ?_)
 refine wpAny_pure ?_
 show wpAny _ _ (rule "list.extend.makes-room" >>= fun _ => Builtin.List.listTouch (.ref S) >>= fun _ =>
  again (.builtin "list.extend.loop" ⟨[.ref S, .ref M, .none], []⟩)) _ _ _
 refine wpAny_bind (wpAny_rule ?_)
 refine wpAny_bind ?_
 show wpAny _ _ (updateSeq S (·.push .none) >>= fun _ => updateSeq S (·.pop)) _ _ _
 refine wpAny_bind (wpAny_updateSeq hS₂ rfl ?_)
 have hS₃ := Heap.get?_update_self (Obj.mapSeq (·.push Value.none)) hS₂ rfl
 refine wpAny_updateSeq (hz := by seq_fits) hS₃ rfl ?_
 have hS₄ := Heap.get?_update_self (Obj.mapSeq (·.pop)) hS₃ rfl
 have oth' : Heap.ExtBut S s₅.heap ((hv.update S (Obj.mapSeq (·.push Value.none))).update S (Obj.mapSeq (·.pop))) :=
  fun b o hb e => (Heap.get?_update_other _ _ (Ne.symm hb)).trans ((Heap.get?_update_other _ _ (Ne.symm hb)).trans (oth b o hb e))
 generalize (hv.update S (Obj.mapSeq (·.push Value.none))).update S (Obj.mapSeq (·.pop)) = h4 at hS₄ oth' ⊢
 obtain ⟨D₈, x₈⟩ := D₅.aside (st' := { s₅ with heap := h4 }) aS (fun o ho => by rw [nS0] at ho; cases ho) oth' rfl rfl
 refine wpAny_pure ⟨plainId_quiet PySem.F.plain_extend_loop _, map_loop G rm.in1 ap (W0 := wd c σ ρ s₅) hg hl (fun ρ' s' acc c' r x' => ?_) (Nat.zero_add _) ⟨D₈, aS, aM, aT, aF, aI, oth' M _ ap.SM.symm gM, oth' T _ ap.ST.symm gT, oth' F _ ap.SF.symm gF, oth' I _ ap.SI.symm gI, _, _, hS₄, VRs.nil _⟩ x₈⟩
 refine ⟨rfl, ?_⟩
 obtain ⟨Df, xf⟩ := r.den.adopt r.aS (o' := .list (xs.map mtV)) ⟨acc, ⟨c', r.gS⟩, VRs.ext (adopt_ext r.den) _ _ r.rs⟩
 exact q _ _ _ Df ⟨by simp [wd, ρapp], by simp [wd, AH.get_app]⟩ (x'.trans xf)
theorem ev_mapmake (FF : Fit k c) (G : Good c) (rm : Room 6 A) {j : Nat} {e : Expr} (hc : chkMap k j e = true) {σ : St} {n : Nat} {y : Int} {xs : List T3} {Q : V → St → Prop} (hx : lk σ.loc j = some (.ref n y)) (hg : σ.H.get n y = some (.list (xs.map tpV))) (hl : xs.length < 1000)
  (q : Q (.ref σ.H.length 0) ⟨σ.loc, σ.H ++ [.one (.list (xs.map mtV))]⟩) : EvE c A σ Q e := by
 refine chkMap_e (P := EvE c A σ Q) hc fun nl nm nM pa nx pm pl c1 c2 c3 c4 c5 c6 c8 c9 ρ st D => ?_
 have he1 : chkEs k [.sem fun _ => true] [.Call nm [.Attribute nM (s "_make") pa, nx] [] pm] = true := rfl
 have he2 : chkEs k [.sem fun _ => true, .loc j] [.Attribute nM (s "_make") pa, nx] = true := by
  show (true && (true && (nx.ctorIdx != 22 && (chkE k (.loc j) nx && true)))) = true
  rw [c8, c9]; rfl
 refine wpGen fun R hR => ?_
 rw [notAttr_call c1]
 refine wpAny_bind (val_is FF c2 (X := .typ "list") ⟨rfl, rfl⟩ (fun _ _ r => r) D fun ρ₀ s₀ D₀ x₀ => ?_)
 refine callWith_of (P := fun h => ∃ kk, (kk = Keeper.frame ∨ kk = Keeper.machine ∨ kk = Keeper.boundFrame) ∧ Looks (MM c) h (keeperOf (.type "list")) kk) (by rw [(plain_args (pos := pl) he1).2]; rfl) (fun _ h => h) ?_
 refine evalArgs_any he1 ?_
 rw [starEach_cons (by rfl)]
 refine Calls.spliced_cons (wpGen fun R1 hR1 => ?_)
 rw [notAttr_call c3]
 refine wpAny_bind (val_is FF c4 (X := .typ "map") ⟨rfl, rfl⟩ (fun _ _ r => r) D₀ fun ρ₁ s₁ D₁ x₁ => ?_)
 refine callWith_of (P := fun h => ∃ kk, (kk = Keeper.frame ∨ kk = Keeper.machine ∨ kk = Keeper.boundFrame) ∧ Looks (MM c) h (keeperOf (.type "map")) kk) (by rw [(plain_args (pos := pm) he2).2]; rfl) (fun _ h => h) ?_
 refine evalArgs_any he2 ?_
 rw [starEach_cons (by rfl)]
 refine Calls.spliced_cons (wpGen fun R2 hR2 => ?_)
 rw [arm_eval_Attribute, attributeBase_plain c5]
 refine wpAny_bind (val_is FF c6 (X := .obj 135) ⟨rfl, rfl⟩ (fun _ _ r => r) D₁ fun ρ₂ s₂ D₂ x₂ => ?_)
 refine wpAny_bind (wpAny_standAt (wpAny_bind (wpAny_holding ?_)))
 have X2 := D₂.K G.top
 refine cls_bind X2 (mt_reads c.w.params) (mt_make c.w.params) (wpAny_call (cm_get (s := { s₂ with toks := s₂.toks + 1 }) X2 (mt_recm c.w.params) (handed_on rfl ?_)))
 refine wpAny_bind (wpAny_letTemporaryGo (wpAny_pure (hR2 _ _ ?_)))
 have aF := D₂.fresh (get_size s₂.heap)
 obtain ⟨D₃, x₃⟩ := D₂.keeps (st' := { s₂ with heap := s₂.heap.push (methodObj (.ref 89) (.ref 135)), toks := s₂.toks + 1 }) (fun b o hb => Heap.get?_push_of_some _ hb) rfl rfl
 have gF : (Shared.heap { s₂ with heap := s₂.heap.push (methodObj (.ref 89) (.ref 135)), toks := s₂.toks + 1 }).get? s₂.heap.objs.size = some (methodObj (.ref 89) (.ref 135)) := Heap.get?_push_size _ rfl
 generalize s₂.heap.objs.size = F at aF gF ⊢
 generalize ({ s₂ with heap := s₂.heap.push (methodObj (.ref 89) (.ref 135)), toks := s₂.toks + 1 } : Shared) = s₃ at D₃ x₃ gF ⊢
 have x := x₀.trans (x₁.trans (x₂.trans x₃))
 rw [starEach_cons c8]
 refine Calls.spliced_cons ?_
 refine val_of (c := c.now σ ρ₂ s₃) (FF.at s₃.heap (c.now σ ρ₂ s₃).foot) c9 (X := .ref n y) (by
  show withV (lk σ.loc j) _
  rw [hx]; exact ⟨rfl, rfl⟩) D₃.now fun ρ₄ s₄ vx D₄' rx x₄ => ?_
 obtain ⟨rx, hd⟩ := rx
 have rx : vx = .ref (ρ₄ n y) := rx
 subst rx
 have D₄ := D₃.back D₄'
 obtain ⟨aF, gF⟩ := aF.next gF D₄'
 have x : Ext (wd c σ ρ st) (wd c σ ρ₄ s₄) := x.trans x₄
 refine Calls.spliced_nil ?_
 refine ⟨keep_typ σ ρ₄ s₄ _ D₄ rfl, ?_⟩
 obtain ⟨us, m, gus, len, rus⟩ := D₄.list hg
 show wpAny (MM c) A (call (.type "map") [.ref F, .ref (ρ₄ n y)]) _ _ _
 refine call_map gus fun h' M T I gM gT gI nI nM nT kp => hR1 _ _ ?_
 obtain ⟨D₅, x₅⟩ := D₄.keeps (st' := { s₄ with heap := h' }) kp rfl rfl
 refine Calls.spliced_nil ?_
 refine ⟨keep_typ σ ρ₄ _ _ D₅ rfl, ?_⟩
 show wpAny (MM c) A (call (.type "list") [.ref M]) _ _ _
 exact list_of_map G (rm.less (by decide)) hg hl D₅ gM gT (kp F _ gF) gI (D₄.fresh nM) (D₄.fresh nT) aF (D₄.fresh nI) fun ρ' s' v Df r xf => hR _ _ ⟨_, _, _, Df, r, x.trans (x₅.trans xf), q⟩
end
end
section
theorem mt_seqs (P : Params) : methOk (K P) 242 (s "set_seqs") 167 = true := by kernel_rfl
theorem mt_seq1 (P : Params) : methOk (K P) 242 (s "set_seq1") 174 = true := by kernel_rfl
theorem mt_seq2 (P : Params) : methOk (K P) 242 (s "set_seq2") 181 = true := by kernel_rfl
theorem mt_chain (P : Params) : methOk (K P) 242 (s "_SequenceMatcher__chain_b") 188 = true := by kernel_rfl
theorem kp167 (P : Params) : keepIn (K P) (.ref 167) = true := by kernel_rfl
theorem kp174 (P : Params) : keepIn (K P) (.ref 174) = true := by kernel_rfl
theorem kp181 (P : Params) : keepIn (K P) (.ref 181) = true := by kernel_rfl
theorem kp188 (P : Params) : keepIn (K P) (.ref 188) = true := by kernel_rfl
theorem as_isjunk (P : Params) : attrOk (K P) 242 (s "isjunk") = true := by kernel_rfl
theorem as_autojunk (P : Params) : attrOk (K P) 242 (s "autojunk") = true := by kernel_rfl
theorem as_mb (P : Params) : attrOk (K P) 242 (s "matching_blocks") = true := by kernel_rfl
theorem as_oc (P : Params) : attrOk (K P) 242 (s "opcodes") = true := by kernel_rfl
theorem as_fb (P : Params) : attrOk (K P) 242 (s "fullbcount") = true := by kernel_rfl
theorem as_pop (P : Params) : attrOk (K P) 242 (s "bpopular") = true := by kernel_rfl
theorem posn_in {ys : List Int} {k : Int} {n : Nat} (h : k ∉ ys.take n) : posn ys k n = [] := by
 rw [List.eq_nil_iff_forall_not_mem]
 intro z hz
 obtain ⟨j, hj, e, _⟩ := mem_posn.mp hz
 refine h ?_
 rw [List.mem_take_iff_getElem]
 obtain ⟨hl, e⟩ := List.getElem?_eq_some_iff.mp e
 exact ⟨j, by lia, e⟩
noncomputable abbrev ns7 (ia ib : Nat) : List (Nat × V) := [(0, .none), (1, .ref ia 0), (2, .ref ib 0), (3, .bool false), (4, .none), (5, .none), (6, .none)]
structure ChI (H : AH) (me ia ib : Nat) (ys : List Int) (j : Nat) (H' : AH) (ks : List Int) (ep : Nat) (lj : Int → Nat) : Prop where
 gm : H'.get me 0 = some (.ns (ns7 ia ib ++ [(7, .ref H.length 0)]))
 gd : H'.get H.length 0 = some (.dict (ks.map fun k => (k, .ref (lj k) 0)) ep)
 hk : ∀ k, k ∈ ks ↔ k ∈ ys.take j
 gl : ∀ k ∈ ks, H'.get (lj k) 0 = some (.list ((posn ys k j).map .int))
 inj : ∀ k ∈ ks, ∀ k' ∈ ks, lj k = lj k' → k = k'
 sm : Same (fun i => i = me ∨ H.length ≤ i) H H'
 kl : ks.length ≤ j
 lb : ∀ k ∈ ks, H.length ≤ lj k
inductive ChJ (H : AH) (me ia ib : Nat) (ys : List Int) (j : Nat) : St → Prop
 | mk (v3 v4 v5 : Option V) (H' : AH) (ks : List Int) (ep : Nat) (lj : Int → Nat) (C : ChI H me ia ib ys j H' ks ep lj) : ChJ H me ia ib ys j ⟨[some (.inst 242 me 0), some (.ref ib 0), some (.ref H.length 0), v3, v4, v5, none, none, none, none, none, none], H'⟩
theorem mem_step {ys : List Int} {j : Nat} {y k : Int} (hy : ys[j]? = some y) : k ∈ ys.take (j + 1) ↔ k ∈ ys.take j ∨ k = y := by rw [List.take_add_one, hy]; simp
theorem posn_other {ys : List Int} {j : Nat} {y k : Int} (hy : ys[j]? = some y) (hne : k ≠ y) : posn ys k (j + 1) = posn ys k j := by
 rw [posn_succ, hy, if_neg (fun e => hne (Option.some.inj e).symm), List.append_nil]
theorem posn_here {ys : List Int} {j : Nat} {y : Int} (hy : ys[j]? = some y) : posn ys y (j + 1) = posn ys y j ++ [(j : Int)] := by rw [posn_succ, hy, if_pos rfl]
section
variable {H : AH} {me ia ib : Nat} {ys : List Int} {j : Nat} {H' : AH} {ks : List Int} {ep : Nat} {lj : Int → Nat} {y : Int} {F : Fam}
theorem ChI.old (C : ChI H me ia ib ys j H' ks ep lj) (hm : me < H.length) (hy : ys[j]? = some y) (hin : y ∈ ks) : ChI H me ia ib ys (j + 1) ((H' ++ [F]).put (lj y) 0 (.list ((posn ys y j).map V.int ++ [.int j]))) ks ep lj := by
 have gy := C.gl y hin
 have lby := C.lb y hin
 refine ⟨gp_ne (ga gy) (Nat.ne_of_lt (Nat.lt_of_lt_of_le hm lby)) (ga C.gm), gp_ne (ga gy) (fun e => ?_) (ga C.gd), fun k => ?_, fun k hk' => ?_, C.inj, C.sm.app.put (ga gy) (.inr lby), Nat.le_succ_of_le C.kl, C.lb⟩
 ·rw [← e, C.gd] at gy; cases gy
 ·rw [mem_step hy, C.hk]
  exact ⟨.inl, fun h => h.elim id fun h => by subst h; exact (C.hk _).mp hin⟩
 ·by_cases e : k = y
  ·subst e
   rw [posn_here hy, List.map_append]
   exact gp_eq (ga gy)
  ·rw [posn_other hy e]
   exact gp_ne (ga gy) (fun e' => e (C.inj k hk' y hin e')) (ga (C.gl k hk'))
theorem mem_snoc {P : Int → Prop} (h1 : ∀ k ∈ ks, k ≠ y → P k) (h2 : P y) (k : Int) (hk : k ∈ ks ++ [y]) : P k := by
 by_cases e : k = y
 ·rw [e]; exact h2
 ·exact h1 k ((List.mem_append.mp hk).resolve_right fun h => e (List.mem_singleton.mp h)) e
theorem ChI.new (C : ChI H me ia ib ys j H' ks ep lj) (hm : me < H.length) (hy : ys[j]? = some y) (hin : y ∉ ks) {H2 : AH} {ep' : Nat}
  (e2 : H2 = (H' ++ [Fam.one (O.list [])]).put H.length 0 (.dict ((ks.map fun k => (k, V.ref (lj k) 0)) ++ [(y, V.ref H'.length 0)]) ep')) : H2.get H'.length 0 = some (.list []) ∧ ChI H me ia ib ys (j + 1) (H2.put H'.length 0 (.list [.int j])) (ks ++ [y]) ep' (upd lj y H'.length) := by
 have gd := C.gd
 have ld := lt_len gd
 have lm := lt_len C.gm
 have smh := C.sm.1
 have gy : H2.get H'.length 0 = some (.list []) := by rw [e2]; exact gp_ne (ga gd) (Nat.ne_of_gt ld) ge
 have gd2 : H2.get H.length 0 = some (.dict ((ks.map fun k => (k, V.ref (lj k) 0)) ++ [(y, V.ref H'.length 0)]) ep') := by rw [e2]; exact gp_eq (ga gd)
 have kp2 : ∀ {j ob}, j ≠ H.length → H'.get j 0 = some ob → H2.get j 0 = some ob := fun hne g => by rw [e2]; exact gp_ne (ga gd) hne (ga g)
 have sm2 : Same (fun i => i = me ∨ H.length ≤ i) H H2 := by rw [e2]; exact C.sm.app.put (ga gd) (.inr (Nat.le_refl _))
 have ne : ∀ k ∈ ks, k ≠ y := fun k hk' e => hin (e ▸ hk')
 have es : (ks.map fun k => (k, V.ref (lj k) 0)) ++ [(y, V.ref H'.length 0)] = (ks ++ [y]).map fun k => (k, V.ref (upd lj y H'.length k) 0) := by
  rw [List.map_append, List.map_singleton, upd_eq, List.map_congr_left fun k hk' => ?_]
  rw [upd_ne (ne k hk')]
 rw [es] at gd2
 have old : ∀ k ∈ ks, k ≠ y → upd lj y H'.length k < H'.length := fun k hk' e => by rw [upd_ne e]; exact lt_len (C.gl k hk')
 refine ⟨gy, gp_ne gy (Nat.ne_of_lt lm) (kp2 (Nat.ne_of_lt hm) C.gm), gp_ne gy (Nat.ne_of_lt ld) gd2, fun k => ?_, mem_snoc (fun k hk' e => ?_) ?_, mem_snoc (P := fun k => ∀ k' ∈ ks ++ [y], upd lj y H'.length k = upd lj y H'.length k' → k = k') (fun k hk' e => mem_snoc (fun k' hk'' e' q => ?_) fun q => ?_) (mem_snoc (fun k' hk'' e' q => ?_) fun _ => rfl), sm2.put gy (.inr smh), ?_, mem_snoc (fun k hk' e => ?_) ?_⟩
 ·rw [mem_step hy, List.mem_append, C.hk, List.mem_singleton]
 ·rw [posn_other hy e, upd_ne e]
  exact gp_ne gy (Nat.ne_of_lt (lt_len (C.gl k hk'))) (kp2 (fun q => by have g := C.gl k hk'; rw [q, gd] at g; cases g) (C.gl k hk'))
 ·rw [posn_here hy, upd_eq, posn_in fun h => hin ((C.hk y).mpr h)]
  exact gp_eq gy
 ·rw [upd_ne e, upd_ne e'] at q; exact C.inj k hk' k' hk'' q
 ·rw [upd_eq] at q; exact absurd q (Nat.ne_of_lt (old k hk' e))
 ·rw [upd_eq] at q; exact absurd q.symm (Nat.ne_of_lt (old k' hk'' e'))
 ·rw [List.length_append]; exact Nat.succ_le_succ C.kl
 ·rw [upd_ne e]; exact C.lb k hk'
 ·rw [upd_eq]; exact smh
end
section
variable {c : Cx} {A : Around} {σ : St} {Q : V → St → Prop} {me ia ib : Nat} {xs ys : List Int}
theorem chain_end {H : AH} {kn : St → Prop} (G : Good c) {H' : AH} {ks : List Int} {ep : Nat} {lj : Int → Nat} {v3 v4 v5 : Option V} (C : ChI H me ia ib ys ys.length H' ks ep lj) (hm : me < H.length) (iam : ia ≠ me) (ibm : ib ≠ me) (ga0 : H.get ia 0 = some (.list (xs.map .int))) (gb : H.get ib 0 = some (.list (ys.map .int))) (ly : ys.length < 1000)
  (q : ∀ loc H' d ju po lj, SMat H' me ia ib d ju po .none .none xs ys lj → Same (fun j => j = me ∨ H.length ≤ j) H H' → kn ⟨loc, H'⟩) {kb kc : St → Prop} {kr : V → St → Prop} :
  vcSs A (t_chain.drop 3) c ⟨[some (.inst 242 me 0), some (.ref ib 0), some (.ref H.length 0), v3, v4, v5, none, none, none, none, none, none], H'⟩ ⟨kn, kb, kc, kr⟩ := by
 have keep : ∀ {j : Nat} {ob : O} {H' : AH}, j ≠ me → Same (fun i => i = me ∨ H.length ≤ i) H H' → H.get j 0 = some ob → H'.get j 0 = some ob := fun hne sm g => sm.2 _ _ _ (fun h => h.elim hne (Nat.not_le.mpr (lt_len g))) g
 refine set0 ?_
 have gm := C.gm
 refine set_attr G.top (k := 8) (by decide) rfl (as_bjunk _) (ga gm) rfl (Nat.le_of_ble_eq_true rfl) ?_
 have gm2 : ((H' ++ [Fam.one (.set (fun _ => false) 0)]).put me 0 (.ns (ns7 ia ib ++ [(7, .ref H.length 0), (8, .ref H'.length 0)]))).get me 0 = some _ := gp_eq (ga gm)
 have gj2 : ((H' ++ [Fam.one (.set (fun _ => false) 0)]).put me 0 (.ns (ns7 ia ib ++ [(7, .ref H.length 0), (8, .ref H'.length 0)]))).get H'.length 0 = some _ := gp_ne (ga gm) (Nat.ne_of_gt (lt_len gm)) ge
 have kp2 : ∀ {j : Nat} {ob : O}, j ≠ me → H'.get j 0 = some ob → ((H' ++ [Fam.one (.set (fun _ => false) 0)]).put me 0 (.ns (ns7 ia ib ++ [(7, .ref H.length 0), (8, .ref H'.length 0)]))).get j 0 = some ob := fun hne g => gp_ne (ga gm) hne (ga g)
 have sm2 : Same (fun i => i = me ∨ H.length ≤ i) H ((H' ++ [Fam.one (.set (fun _ => false) 0)]).put me 0 (.ns (ns7 ia ib ++ [(7, .ref H.length 0), (8, .ref H'.length 0)]))) := C.sm.app.put (ga gm) (.inl (.inl rfl))
 show vcTs _ _ _ _ ⟨_, (H' ++ [Fam.one (.set (fun _ => false) 0)]).put me 0 (.ns (ns7 ia ib ++ [(7, .ref H.length 0), (8, .ref H'.length 0)]))⟩ _
 generalize ((H' ++ [Fam.one (.set (fun _ => false) 0)]).put me 0 (.ns (ns7 ia ib ++ [(7, .ref H.length 0), (8, .ref H'.length 0)]))) = H2 at gm2 gj2 kp2 sm2 ⊢
 have ljm : ∀ k ∈ ys, H'.get (lj k) 0 = some (.list ((posn ys k ys.length).map .int)) ∧ lj k ≠ me := fun k hk => by
  have hk : k ∈ ks := (C.hk k).mpr (by rw [List.take_length]; exact hk)
  exact ⟨C.gl k hk, Nat.ne_of_gt (Nat.lt_of_lt_of_le hm (C.lb k hk))⟩
 have hdm : H.length ≠ me := Nat.ne_of_gt hm
 refine get_attr G.top (k := 0) (by decide) rfl (as_isjunk _) gm2 rfl rfl rfl ?_
 refine set0 ?_
 refine set_attr G.top (k := 9) (by decide) rfl (as_pop _) (ga gm2) rfl (Nat.le_of_ble_eq_true rfl) ?_
 have sm3 : Same (fun i => i = me ∨ H.length ≤ i) H ((H2 ++ [Fam.one (.set (fun _ => false) 0)]).put me 0 (.ns (ns7 ia ib ++ [(7, .ref H.length 0), (8, .ref H'.length 0), (9, .ref H2.length 0)]))) := sm2.app.put (ga gm2) (.inl (.inl rfl))
 have gm3 : ((H2 ++ [Fam.one (.set (fun _ => false) 0)]).put me 0 (.ns (ns7 ia ib ++ [(7, .ref H.length 0), (8, .ref H'.length 0), (9, .ref H2.length 0)]))).get me 0 = some _ := gp_eq (ga gm2)
 have kp3 : ∀ {j : Nat} {ob : O}, j ≠ me → H2.get j 0 = some ob → ((H2 ++ [Fam.one (.set (fun _ => false) 0)]).put me 0 (.ns (ns7 ia ib ++ [(7, .ref H.length 0), (8, .ref H'.length 0), (9, .ref H2.length 0)]))).get j 0 = some ob := fun hne g => gp_ne (ga gm2) hne (ga g)
 refine len_list (keep ibm sm3 gb) (by rw [List.length_map]; lia) ?_
 refine get_attr G.top (k := 3) (by decide) rfl (as_autojunk _) gm3 rfl rfl rfl ?_
 refine sel_f Bool.false_ne_true (q _ _ H.length H'.length H2.length lj ⟨gm3, keep iam sm3 ga0, keep ibm sm3 gb, ⟨ks, ep, kp3 hdm (kp2 hdm C.gd), fun k => by rw [C.hk, List.take_length]⟩, fun k hk' => kp3 (ljm k hk').2 (kp2 (ljm k hk').2 (ljm k hk').1), kp3 (Nat.ne_of_gt (lt_len gm)) gj2⟩ sm3)
theorem chain_vc {H : AH} {Kt : Kt} (G : Good c) (FF : Fit k_chain c) (rm : Room 1 A) (hs : H.get me 0 = some (.ns (ns7 ia ib))) (ga0 : H.get ia 0 = some (.list (xs.map .int))) (gb : H.get ib 0 = some (.list (ys.map .int))) (ly : ys.length < 1000)
  (q : ∀ loc H' d ju po lj, SMat H' me ia ib d ju po .none .none xs ys lj → Same (fun j => j = me ∨ H.length ≤ j) H H' → Kt.next ⟨loc, H'⟩) :
  vcSs A t_chain c ⟨[some (.inst 242 me 0), none, none, none, none, none, none, none, none, none, none, none], H⟩ Kt := by
 refine get_attr G.top (k := 2) (by decide) rfl (as_b _) hs rfl rfl rfl ?_
 refine set_attr G.top (k := 7) (by decide) rfl (as_b2j _) (ga hs) rfl (Nat.le_of_ble_eq_true rfl) ?_
 have mlt := lt_len hs
 have iam : ia ≠ me := fun e => by subst e; rw [hs] at ga0; cases ga0
 have ibm : ib ≠ me := fun e => by subst e; rw [hs] at gb; cases gb
 have gbs : ∀ {H' : AH}, Same (fun i => i = me ∨ H.length ≤ i) H H' → H'.get ib 0 = some (.list (ys.map .int)) := fun sm => sm.2 _ _ _ (fun h => h.elim ibm (Nat.not_le.mpr (lt_len gb))) gb
 have C1 : ChI H me ia ib ys 0 ((H ++ [Fam.one (O.dict [] 0)]).put me 0 (O.ns (ns7 ia ib ++ [(7, V.ref H.length 0)]))) [] 0 fun _ => 0 :=
  ⟨gp_eq (ga hs), gp_ne (ga hs) (Nat.ne_of_gt mlt) ge, fun k => ⟨fun h => (nomatch h), fun h => by rw [List.take_zero] at h; exact h⟩, fun k h => (nomatch h), fun k h => (nomatch h), Same.refl.app.put (ga hs) (.inl (.inl rfl)), Nat.le_refl _, fun k h => (nomatch h)⟩
 refine fun stm hst => ex_enum FF rm.handled hst ?_
 refine .mk ib 0 (ys.map .int) rfl (gbs C1.sm) (ChJ H me ia ib ys) (.mk none none none _ [] 0 _ C1) (fun σ' I => ?_) (fun j σ' Y I hj => ?_)
 ·cases I with
  | mk v3 v4 v5 H' ks ep lj C =>
  refine ⟨gbs C.sm, chain_end G (by rw [List.length_map] at C; exact C) mlt iam ibm ga0 gb ly q⟩
 ·cases I with
  | mk v3 v4 v5 H' ks ep lj C =>
  refine ⟨gbs C.sm, fun h0 ft => ?_⟩
  rw [List.getElem?_map] at hj
  obtain ⟨y, hy, e⟩ := Option.map_eq_some_iff.mp hj
  subst e
  have hjl : j < ys.length := (List.getElem?_eq_some_iff.mp hy).1
  refine getM_dict C.gd F.slot_dict_setdefault F.type_dict_setdefault ?_
  refine setdef_dict G.top (ga C.gd) (by have := C.kl; rw [List.length_map]; lia) (fun X hX => ?_) (fun hX ep' => ?_)
  ·rw [look_map] at hX
   by_cases hin : y ∈ ks
   ·rw [if_pos hin] at hX
    cases hX
    have gy := ga (F := Fam.one (O.list [])) (C.gl y hin)
    refine getM_list gy F.slot_list_append F.type_list_append ?_
    refine append_list gy (by have := posn_le (ys := ys) (k := y) (n := j); rw [List.length_map]; lia) ?_
    exact .mk _ _ _ _ ks ep lj (C.old mlt hy hin)
   ·rw [if_neg hin] at hX; cases hX
  ·rw [look_map] at hX
   by_cases hin : y ∈ ks
   ·rw [if_pos hin] at hX; cases hX
   ·have N := C.new mlt hy hin (ep' := ep') rfl
    refine getM_list N.1 F.slot_list_append F.type_list_append ?_
    refine append_list N.1 (by decide) ?_
    exact .mk _ _ _ _ (ks ++ [y]) ep' _ N.2
end
end
section
section
variable {c : Cx} {A : Around} {σ : St} {Q : V → St → Prop} {me ia ib : Nat} {xs ys : List Int}
noncomputable abbrev ns6 (ia : Nat) : List (Nat × V) := [(0, .none), (1, .ref ia 0), (2, .none), (3, .bool false), (4, .none), (5, .none)]
noncomputable abbrev ns4 : List (Nat × V) := [(0, .none), (1, .none), (2, .none), (3, .bool false)]
theorem call_chain {l₀ : List (Option V)} {H₀ : AH} (G : Good c) (rm : Room 2 A) (hs : H₀.get me 0 = some (.ns (ns7 ia ib))) (ga0 : H₀.get ia 0 = some (.list (xs.map .int))) (gb : H₀.get ib 0 = some (.list (ys.map .int))) (ly : ys.length < 1000)
  (q : ∀ H' d ju po lj, SMat H' me ia ib d ju po .none .none xs ys lj → Same (fun j => j = me ∨ H₀.length ≤ j) H₀ H' → Q .none ⟨l₀, H'⟩) : Ca c A ⟨l₀, H₀⟩ (.obj 188) [.inst 242 me 0] Q := by
 refine (call_code (Ys := [.inst 242 me 0]) G (rm.less (by decide)) (ok_chain _) (bd1 G.top fun W v0 r0 => ?_) (Nat.le_of_ble_eq_true rfl) fun c' F' G' hw L => ?_).ca
 ·exact ⟨[v0], fun S => by kernel_rfl, VRs.cons r0 (VRs.nil _)⟩
 ·exact chain_vc G' F' rm.deeper hs ga0 gb ly fun loc => q
theorem call_seq1 {l₀ : List (Option V)} {H₀ : AH} (G : Good c) (rm : Room 1 A) (hs : H₀.get me 0 = some (.ns ns4))
  (q : ∀ H', H'.get me 0 = some (.ns (ns6 ia)) → Same (fun j => j = me) H₀ H' → H'.length = H₀.length → Q .none ⟨l₀, H'⟩) : Ca c A ⟨l₀, H₀⟩ (.obj 174) [.inst 242 me 0, .ref ia 0] Q := by
 refine (call_code (Ys := [.inst 242 me 0, .ref ia 0]) G rm (ok_seq1 _) (bd2 G.top fun W v0 v1 r0 r1 => ?_) (Nat.le_of_ble_eq_true rfl) fun c' F' G' hw L => ?_).ca
 ·exact ⟨[v0, v1], fun S => by kernel_rfl, VRs.cons r0 (VRs.cons r1 (VRs.nil _))⟩
 ·show vcSs _ t_seq1 c' ⟨[some (.inst 242 me 0), some (.ref ia 0)], H₀⟩ _
  refine get_attr G'.top (k := 1) (by decide) rfl (as_a _) hs rfl rfl rfl ?_
  refine set_attr G'.top (k := 1) (by decide) rfl (as_a _) hs rfl (Nat.le_of_ble_eq_true rfl) ?_
  refine set_attr G'.top (k := 4) (by decide) rfl (as_mb _) (gp_eq hs) rfl (Nat.le_of_ble_eq_true rfl) ?_
  refine set_attr G'.top (k := 5) (by decide) rfl (as_oc _) (gp_eq (gp_eq hs)) rfl (Nat.le_of_ble_eq_true rfl) ?_
  refine q _ (gp_eq (gp_eq (gp_eq hs))) ?_ (by simp [put_length])
  have s0 : Same (fun j => j = me) H₀ H₀ := Same.refl
  exact ((s0.put hs (.inl rfl)).put (gp_eq hs) (.inl rfl)).put (gp_eq (gp_eq hs)) (.inl rfl)
theorem call_seq2 {l₀ : List (Option V)} {H₀ : AH} (G : Good c) (rm : Room 3 A) (hs : H₀.get me 0 = some (.ns (ns6 ia))) (ga0 : H₀.get ia 0 = some (.list (xs.map .int))) (gb : H₀.get ib 0 = some (.list (ys.map .int))) (ly : ys.length < 1000)
  (q : ∀ H' d ju po lj, SMat H' me ia ib d ju po .none .none xs ys lj → Same (fun j => j = me ∨ H₀.length ≤ j) H₀ H' → Q .none ⟨l₀, H'⟩) : Ca c A ⟨l₀, H₀⟩ (.obj 181) [.inst 242 me 0, .ref ib 0] Q := by
 refine (call_code (Ys := [.inst 242 me 0, .ref ib 0]) G (rm.less (by decide)) (ok_seq2 _) (bd2 G.top fun W v0 v1 r0 r1 => ?_) (Nat.le_of_ble_eq_true rfl) fun c' F' G' hw L => ?_).ca
 ·exact ⟨[v0, v1], fun S => by kernel_rfl, VRs.cons r0 (VRs.cons r1 (VRs.nil _))⟩
 ·show vcSs _ t_seq2 c' ⟨[some (.inst 242 me 0), some (.ref ib 0)], H₀⟩ _
  have iam : ia ≠ me := fun e => by subst e; rw [hs] at ga0; cases ga0
  have ibm : ib ≠ me := fun e => by subst e; rw [hs] at gb; cases gb
  refine get_attr G'.top (k := 2) (by decide) rfl (as_b _) hs rfl rfl rfl ?_
  refine set_attr G'.top (k := 2) (by decide) rfl (as_b _) hs rfl (Nat.le_of_ble_eq_true rfl) ?_
  refine set_attr G'.top (k := 4) (by decide) rfl (as_mb _) (gp_eq hs) rfl (Nat.le_of_ble_eq_true rfl) ?_
  refine set_attr G'.top (k := 5) (by decide) rfl (as_oc _) (gp_eq (gp_eq hs)) rfl (Nat.le_of_ble_eq_true rfl) ?_
  refine set_attr G'.top (k := 6) (by decide) rfl (as_fb _) (gp_eq (gp_eq (gp_eq hs))) rfl (Nat.le_of_ble_eq_true rfl) ?_
  refine getM_inst G'.top (mt_chain _) (gp_eq (gp_eq (gp_eq (gp_eq hs)))) rfl ?_
  refine ⟨keep_fn G' kp188, ?_⟩
  refine call_chain (ia := ia) (ib := ib) (xs := xs) (ys := ys) G' rm.deeper (gp_eq (gp_eq (gp_eq (gp_eq hs)))) (gp_ne (gp_eq (gp_eq (gp_eq hs))) iam (gp_ne (gp_eq (gp_eq hs)) iam (gp_ne (gp_eq hs) iam (gp_ne hs iam ga0)))) (gp_ne (gp_eq (gp_eq (gp_eq hs))) ibm (gp_ne (gp_eq (gp_eq hs)) ibm (gp_ne (gp_eq hs) ibm (gp_ne hs ibm gb)))) ly fun H' d ju po lj S sm => ?_
  refine q H' d ju po lj S (Same.trans ((((Same.refl.put hs (.inl (.inl rfl))).put (gp_eq hs) (.inl (.inl rfl))).put (gp_eq (gp_eq hs)) (.inl (.inl rfl))).put (gp_eq (gp_eq (gp_eq hs))) (.inl (.inl rfl))) (sm.mono fun j h => ?_))
  simpa [put_length] using h
theorem call_seqs {l₀ : List (Option V)} {H₀ : AH} (G : Good c) (rm : Room 4 A) (hs : H₀.get me 0 = some (.ns ns4)) (ga0 : H₀.get ia 0 = some (.list (xs.map .int))) (gb : H₀.get ib 0 = some (.list (ys.map .int))) (ly : ys.length < 1000)
  (q : ∀ H' d ju po lj, SMat H' me ia ib d ju po .none .none xs ys lj → Same (fun j => j = me ∨ H₀.length ≤ j) H₀ H' → Q .none ⟨l₀, H'⟩) : Ca c A ⟨l₀, H₀⟩ (.obj 167) [.inst 242 me 0, .ref ia 0, .ref ib 0] Q := by
 refine (call_code (Ys := [.inst 242 me 0, .ref ia 0, .ref ib 0]) G (rm.less (by decide)) (ok_seqs _) (bd3 G.top fun W v0 v1 v2 r0 r1 r2 => ?_) (Nat.le_of_ble_eq_true rfl) fun c' F' G' hw L => ?_).ca
 ·exact ⟨[v0, v1, v2], fun S => by kernel_rfl, VRs.cons r0 (VRs.cons r1 (VRs.cons r2 (VRs.nil _)))⟩
 ·show vcSs _ t_seqs c' ⟨[some (.inst 242 me 0), some (.ref ia 0), some (.ref ib 0)], H₀⟩ _
  have iam : ia ≠ me := fun e => by subst e; rw [hs] at ga0; cases ga0
  have ibm : ib ≠ me := fun e => by subst e; rw [hs] at gb; cases gb
  refine getM_inst G'.top (mt_seq1 _) hs rfl ?_
  refine ⟨keep_fn G' kp174, ?_⟩
  refine call_seq1 G' (rm.deeper.less (by decide)) hs fun H1 g1 sm1 hl1 => ?_
  refine getM_inst G'.top (mt_seq2 _) g1 rfl ?_
  refine ⟨keep_fn G' kp181, ?_⟩
  refine call_seq2 G' rm.deeper g1 (sm1.2 _ _ _ iam ga0) (sm1.2 _ _ _ ibm gb) ly fun H2 d ju po lj S sm => ?_
  exact q H2 d ju po lj S ((sm1.mono fun j h => .inl h).trans (sm.mono fun j h => by rw [← hl1]; exact h))
theorem call_sm {l₀ : List (Option V)} {H₀ : AH} (G : Good c) (rm : Room 6 A) (ga0 : H₀.get ia 0 = some (.list (xs.map .int))) (gb : H₀.get ib 0 = some (.list (ys.map .int))) (ly : ys.length < 1000)
  (q : ∀ H' d ju po lj, SMat H' H₀.length ia ib d ju po .none .none xs ys lj → Same (fun _ => False) H₀ H' → Q (.inst 242 H₀.length 0) ⟨l₀, H'⟩) : Ca c A ⟨l₀, H₀⟩ (.obj 242) [.none, .ref ia 0, .ref ib 0, .bool false] Q := by
 refine mk_inst G.top (make_sm _) (by decide) rm fun A' rm' => call_code (Ys := [.inst 242 H₀.length 0, .none, .ref ia 0, .ref ib 0, .bool false]) G (rm'.less (by decide)) (ok_sminit _) (bd5 G.top fun W v0 v1 v2 v3 v4 r0 r1 r2 r3 r4 => ?_) (Nat.le_of_ble_eq_true rfl) fun c' F' G' hw L => ?_
 ·exact ⟨[v0, v1, v2, v3, v4], fun S => by kernel_rfl, VRs.cons r0 (VRs.cons r1 (VRs.cons r2 (VRs.cons r3 (VRs.cons r4 (VRs.nil _)))))⟩
 ·show vcSs _ t_sminit c' ⟨[some (.inst 242 H₀.length 0), some .none, some (.ref ia 0), some (.ref ib 0), some (.bool false)], (H₀ ++ [.one (.ns [])])⟩ _
  have g1 : (H₀ ++ [Fam.one (.ns [])]).get H₀.length 0 = some (.ns []) := ge
  have sm : Same (fun _ => False) H₀ (H₀ ++ [Fam.one (.ns [])]) := Same.refl.app
  have hNl : (H₀ ++ [Fam.one (.ns [])]).length = H₀.length + 1 := by simp
  have la := lt_len ga0
  have lb := lt_len gb
  have ga1 : (H₀ ++ [Fam.one (.ns [])]).get ia 0 = some (.list (xs.map .int)) := ga ga0
  have gb1 : (H₀ ++ [Fam.one (.ns [])]).get ib 0 = some (.list (ys.map .int)) := ga gb
  generalize (H₀ ++ [Fam.one (.ns [])]) = N at g1 sm hNl ga1 gb1 ⊢
  have iam : ia ≠ H₀.length := by exact Nat.ne_of_lt la
  have ibm : ib ≠ H₀.length := by exact Nat.ne_of_lt lb
  refine set_attr G'.top (k := 0) (by decide) rfl (as_isjunk _) g1 rfl (Nat.le_of_ble_eq_true rfl) ?_
  refine set_attr G'.top (k := 1) (by decide) rfl (as_a _) (gp_eq g1) rfl (Nat.le_of_ble_eq_true rfl) ?_
  refine set_attr G'.top (k := 2) (by decide) rfl (as_b _) (gp_eq (gp_eq g1)) rfl (Nat.le_of_ble_eq_true rfl) ?_
  refine set_attr G'.top (k := 3) (by decide) rfl (as_autojunk _) (gp_eq (gp_eq (gp_eq g1))) rfl (Nat.le_of_ble_eq_true rfl) ?_
  have g5 := gp_eq (o := O.ns ns4) (gp_eq (o := O.ns (putF (putF (putF [] 0 V.none) 1 V.none) 2 V.none)) (gp_eq (o := O.ns (putF (putF [] 0 V.none) 1 V.none)) (gp_eq (o := O.ns (putF [] 0 V.none)) g1)))
  refine getM_inst G'.top (mt_seqs _) g5 rfl ?_
  refine ⟨keep_fn G' kp167, ?_⟩
  refine call_seqs (ia := ia) (ib := ib) (xs := xs) (ys := ys) G' rm'.deeper g5 (gp_ne (gp_eq (gp_eq (gp_eq g1))) iam (gp_ne (gp_eq (gp_eq g1)) iam (gp_ne (gp_eq g1) iam (gp_ne g1 iam ga1)))) (gp_ne (gp_eq (gp_eq (gp_eq g1))) ibm (gp_ne (gp_eq (gp_eq g1)) ibm (gp_ne (gp_eq g1) ibm (gp_ne g1 ibm gb1)))) ly fun H' d ju po lj S sm2 => ?_
  have h0 : ∀ j, H₀.length ≤ j → (fun j => H₀.length ≤ j) j := fun _ h => h
  have smN : Same (fun j => H₀.length ≤ j) H₀ N := sm.mono fun _ h => h.elim
  refine ⟨rfl, q H' d ju po lj S (Same.anew (Same.trans ((((smN.put g1 (.inl (Nat.le_refl _))).put (gp_eq g1) (.inl (Nat.le_refl _))).put (gp_eq (gp_eq g1)) (.inl (Nat.le_refl _))).put (gp_eq (gp_eq (gp_eq g1))) (.inl (Nat.le_refl _))) (sm2.mono fun j h => ?_)))⟩
  simp only [put_length, hNl] at h
  show H₀.length ≤ j
  lia
end
end
section
@[reducible] noncomputable def i2_gmb : TS := .ite (.bop .And [(.cmp .Lt (.bin .Add (.loc 9) (.loc 11)) (.loc 6)), (.cmp .Lt (.bin .Add (.loc 10) (.loc 11)) (.loc 8))]) [.expr (.meth (.loc 3) (s "append") [(.tuple [(.bin .Add (.loc 9) (.loc 11)), (.loc 6), (.bin .Add (.loc 10) (.loc 11)), (.loc 8)])])] []
@[reducible] noncomputable def b_gmb2 : List TS := [.assign [(.tup [5, 6, 7, 8])] (.meth (.loc 3) (s "pop") []),
 .assign [(.tup [9, 10, 11]), (.loc 12)] (.meth (.loc 0) (s "find_longest_match") [(.loc 5), (.loc 6), (.loc 7), (.loc 8)]),
 .ite (.loc 11) [.expr (.meth (.loc 4) (s "append") [(.loc 12)]),
 .ite (.bop .And [(.cmp .Lt (.loc 5) (.loc 9)), (.cmp .Lt (.loc 7) (.loc 10))]) [.expr (.meth (.loc 3) (s "append") [(.tuple [(.loc 5), (.loc 9), (.loc 7), (.loc 10)])])] [],
 i2_gmb] []]
@[reducible] noncomputable def t_gmb2 : List TS := [.doc,
 .ite (.cmp .IsNot (.attr (.loc 0) (s "matching_blocks")) .none) [.ret (some (.attr (.loc 0) (s "matching_blocks")))] [],
 .assign [(.tup [1, 2])] (.tuple [(.call (.glob 0) [(.attr (.loc 0) (s "a"))]), (.call (.glob 0) [(.attr (.loc 0) (s "b"))])]),
 .assign [(.loc 3)] (.list [(.tuple [(.int 0), (.loc 1), (.int 0), (.loc 2)])]),
 .assign [(.loc 4)] (.list []),
 .loop (.loc 3) b_gmb2 [],
 .expr (.meth (.loc 4) (s "sort") []),
 .assign [(.loc 13), (.loc 14), (.loc 15)] (.int 0),
 .assign [(.loc 16)] (.list []),
 .each (.tup [17, 18, 19]) (.loc 4) [.ite (.bop .And [(.cmp .Eq (.bin .Add (.loc 13) (.loc 15)) (.loc 17)), (.cmp .Eq (.bin .Add (.loc 14) (.loc 15)) (.loc 18))]) [.aug 15 .Add (.loc 19)] [.ite (.loc 15) [.expr (.meth (.loc 16) (s "append") [(.tuple [(.loc 13), (.loc 14), (.loc 15)])])] [],
 .assign [(.tup [13, 14, 15])] (.tuple [(.loc 17), (.loc 18), (.loc 19)])]],
 .ite (.loc 15) [.expr (.meth (.loc 16) (s "append") [(.tuple [(.loc 13), (.loc 14), (.loc 15)])])] [],
 .expr (.meth (.loc 16) (s "append") [(.tuple [(.loc 1), (.loc 2), (.int 0)])]),
 .assign [(.attr (.loc 0) (s "matching_blocks"))] (.sem (chkMap k_gmb 16)),
 .ret (some (.attr (.loc 0) (s "matching_blocks")))]
theorem ok_gmb2 (P : Params) : DefOk P 203 (fd_gmb P) n_gmb t_gmb2 := ⟨⟨_, rfl, rfl⟩, by kernel_rfl, ⟨_, rfl, by kernel_rfl⟩, rfl, rfl, rfl, rfl, rfl, rfl, by decide +kernel, of_decide_eq_true (by kernel_rfl), by kernel_rfl⟩
theorem mt_flm (P : Params) : methOk (K P) 242 (s "find_longest_match") 196 = true := by kernel_rfl
theorem kp196 (P : Params) : keepIn (K P) (.ref 196) = true := by kernel_rfl
noncomputable abbrev t4V (t : T4) : V := .tup [.int t.1, .int t.2.1, .int t.2.2.1, .int t.2.2.2]
noncomputable def wt (qs : List T4) : Nat := (qs.map fun r => (2 * (r.2.1 - r.1) + 1).toNat).sum
theorem wt_app (a b : List T4) : wt (a ++ b) = wt a + wt b := by unfold wt; simp
theorem wt_one (r : T4) : wt [r] = (2 * (r.2.1 - r.1) + 1).toNat := by unfold wt; simp
theorem merge_len (la lb : Int) : ∀ (l : List T3) (c : T3), (merge la lb c l).length ≤ l.length + 2
 | [], c => by unfold merge; split <;> simp
 | t :: r, c => by
  unfold merge
  split
  ·have := merge_len la lb r (c.1, c.2.1, c.2.2 + t.2.2); simp only [List.length_cons]; exact Nat.le.step this
  ·have := merge_len la lb r t
   rw [List.length_append]
   split <;> simp only [List.length_cons, List.length_nil] <;> lia
theorem wt_len (f : Bool) (r : T4) : (pnd f r).length ≤ 1 := by
 unfold pnd; cases f <;> simp
theorem wt_pnd (f : Bool) (r : T4) : wt (pnd f r) ≤ (2 * (r.2.1 - r.1) + 1).toNat := by
 unfold pnd; cases f
 ·simp [wt]
 ·exact Nat.le_of_eq (wt_one r)
theorem pend_len (la lb : Int) : ∀ (l : List (Bool × T3)) (a b : Int) (f : Bool), (Pend la lb a b l f).length ≤ l.length + 1
 | [], _, _, f => by unfold Pend pnd; cases f <;> simp
 | (g, t) :: r, a, b, f => by
  unfold Pend pnd
  have := pend_len la lb r (t.1 + t.2.2) (t.2.1 + t.2.2) f
  rw [List.length_append]
  cases g <;> simp <;> lia
noncomputable abbrev nsF (ia ib d ju po : Nat) (M Op : V) : List (Nat × V) := [(0, .none), (1, .ref ia 0), (2, .ref ib 0), (3, .bool false), (4, M), (5, Op), (6, .none), (7, .ref d 0), (8, .ref ju 0), (9, .ref po 0)]
section
variable {c : Cx} {A : Around} {σ : St} {Q : V → St → Prop} {me ia ib d ju po : Nat} {M Op : V} {xs ys : List Int} {lj : Int → Nat}
theorem SMat.reset {H : AH} {M' Op' : V} (S : SMat H me ia ib d ju po M Op xs ys lj) : SMat (H.put me 0 (.ns (nsF ia ib d ju po M' Op'))) me ia ib d ju po M' Op' xs ys lj :=
 have kn : ∀ {j : Nat} {o : O}, H.get j 0 = some o → (∀ fs, o ≠ .ns fs) → j ≠ me := fun g n e => by subst e; rw [S.self] at g; exact n _ (Option.some.inj g).symm
 ⟨gp_eq S.self, gp_ne S.self (kn S.la (fun _ e => nomatch e)) S.la, gp_ne S.self (kn S.lb (fun _ e => nomatch e)) S.lb, let ⟨ks, ep, a, b⟩ := S.dict; ⟨ks, ep, gp_ne S.self (kn a (fun _ e => nomatch e)) a, b⟩, fun j hj => gp_ne S.self (kn (S.idx j hj) (fun _ e => nomatch e)) (S.idx j hj), gp_ne S.self (kn S.junk (fun _ e => nomatch e)) S.junk⟩
theorem sel_and {p q P R : Prop} (h1 : p → q → P) (h2 : ¬ (p ∧ q) → R) : br p (br q P R) R := sel_d (fun hp => sel_d (h1 hp) fun hq => h2 fun h => hq h.2) fun hp => h2 fun h => hp h.1
theorem len_ints {H₀ : AH} {l₀ : List (Option V)} {i : Nat} {x : Int} {xs : List Int} {Q : V → St → Prop} {c : Cx} {A : Around} (hg : H₀.get i x = some (.list (xs.map .int))) (hl : xs.length < 1000000) (q : Q (.int xs.length) ⟨l₀, H₀⟩) : Ca c A ⟨l₀, H₀⟩ (.bi "len") [.ref i x] Q :=
 len_list hg (by rw [List.length_map]; exact hl) (by rw [List.length_map]; exact q)
structure GmP where
 me : Nat
 la : Int
 lb : Int
 q : Nat
 mx : Nat
@[reducible] noncomputable def gmL (P : GmP) (v5 v6 v7 v8 v9 v10 v11 v12 : Option V) : List (Option V) := [some (.inst 242 P.me 0), some (.int P.la), some (.int P.lb), some (.ref P.q 0), some (.ref P.mx 0), v5, v6, v7, v8, v9, v10, v11, v12, none, none, none, none, none, none, none]
@[reducible] noncomputable def gmT (P : GmP) (r : T4) (i j k : Int) : List (Option V) := gmL P (some (.int r.1)) (some (.int r.2.1)) (some (.int r.2.2.1)) (some (.int r.2.2.2)) (some (.int i)) (some (.int j)) (some (.int k)) (some (.mat [.int i, .int j, .int k]))
@[reducible] noncomputable def gmM (P : GmP) (nx : Nat) (v5 v6 v7 v8 v9 v10 v11 v12 : Option V) (cu : T3) (v17 v18 v19 : Option V) : List (Option V) := [some (.inst 242 P.me 0), some (.int P.la), some (.int P.lb), some (.ref P.q 0), some (.ref P.mx 0), v5, v6, v7, v8, v9, v10, v11, v12, some (.int cu.1), some (.int cu.2.1), some (.int cu.2.2), some (.ref nx 0), v17, v18, v19]
structure GmC (P : GmP) (xs ys : List Int) (H H' : AH) (qs : List T4) (ms : List T3) : Prop where
 sm : Same (fun j => H.length ≤ j) H H'
 gq : H'.get P.q 0 = some (.list (qs.map t4V))
 gm : H'.get P.mx 0 = some (.list (ms.map mtV))
 tl : ∃ l f, Tld xs ys 0 0 ms qs l f
inductive GmI (P : GmP) (xs ys : List Int) (H : AH) : Nat → St → Prop
 | mk (v5 v6 v7 v8 v9 v10 v11 v12 : Option V) (H' : AH) (qs : List T4) (ms : List T3) (C : GmC P xs ys H H' qs ms) : GmI P xs ys H (wt qs) ⟨gmL P v5 v6 v7 v8 v9 v10 v11 v12, H'⟩
structure GmD (P : GmP) (H : AH) (nx : Nat) (bs na : List T3) (cu : T3) (t : Nat) (H' : AH) : Prop where
 sm : Same (fun j => H.length ≤ j) H H'
 gm : H'.get P.mx 0 = some (.list (bs.map mtV))
 gn : H'.get nx 0 = some (.list (na.map tpV))
 hm : na ++ merge P.la P.lb cu (bs.drop t) = merge P.la P.lb (0, 0, 0) bs
 hl : na.length ≤ t
inductive GmJ (P : GmP) (H : AH) (nx : Nat) (v5 v6 v7 v8 v9 v10 v11 v12 : Option V) (bs : List T3) (t : Nat) : St → Prop
 | mk (cu : T3) (v17 v18 v19 : Option V) (na : List T3) (H' : AH) (D : GmD P H nx bs na cu t H') : GmJ P H nx v5 v6 v7 v8 v9 v10 v11 v12 bs t ⟨gmM P nx v5 v6 v7 v8 v9 v10 v11 v12 cu v17 v18 v19, H'⟩
theorem nocom_e1 {a b c d : Int} (h : ¬ a < b) : NoCom xs ys a b c d := fun p q p0 p1 _ _ => absurd (Int.lt_of_le_of_lt p0 p1) h
theorem nocom_e2 {a b c d : Int} (h : ¬ c < d) : NoCom xs ys a b c d := fun p q _ _ q0 q1 => absurd (Int.lt_of_le_of_lt q0 q1) h
section
variable {P : GmP} {H H' : AH} {nx : Nat} {bs na : List T3} {cu u : T3} {t : Nat} {v5 v6 v7 v8 v9 v10 v11 v12 : Option V}
theorem GmD.drop (hu : bs[t]? = some u) : bs.drop t = u :: bs.drop (t + 1) := by
 obtain ⟨htl, e⟩ := List.getElem?_eq_some_iff.mp hu
 rw [List.drop_eq_getElem_cons htl, e]
theorem GmD.app (D : GmD P H nx bs na cu t H') (hmx : P.mx ≠ nx) (hnx : H.length ≤ nx) (hu : bs[t]? = some u) (adj : ¬ (cu.1 + cu.2.2 = u.1 ∧ cu.2.1 + cu.2.2 = u.2.1)) (hk : cu.2.2 ≠ 0) : GmD P H nx bs (na ++ [cu]) u (t + 1) (H'.put nx 0 (.list (na.map tpV ++ [V.tup [.int cu.1, .int cu.2.1, .int cu.2.2]]))) := by
 refine ⟨D.sm.put D.gn (.inl hnx), gp_ne D.gn hmx D.gm, by rw [gp_eq D.gn, List.map_append]; rfl, ?_, by rw [List.length_append]; exact Nat.succ_le_succ D.hl⟩
 have hm := D.hm
 rw [GmD.drop hu, merge, if_neg adj, if_pos hk] at hm
 rw [← hm, List.append_assoc]
theorem GmD.skip (D : GmD P H nx bs na cu t H') (hu : bs[t]? = some u) (adj : ¬ (cu.1 + cu.2.2 = u.1 ∧ cu.2.1 + cu.2.2 = u.2.1)) (hk : ¬ cu.2.2 ≠ 0) : GmD P H nx bs na u (t + 1) H' := by
 refine ⟨D.sm, D.gm, D.gn, ?_, Nat.le_succ_of_le D.hl⟩
 have hm := D.hm
 rw [GmD.drop hu, merge, if_neg adj, if_neg hk] at hm
 exact hm
theorem GmD.grow (D : GmD P H nx bs na cu t H') (hu : bs[t]? = some u) (adj : cu.1 + cu.2.2 = u.1 ∧ cu.2.1 + cu.2.2 = u.2.1) : GmD P H nx bs na (cu.1, cu.2.1, cu.2.2 + u.2.2) (t + 1) H' := by
 refine ⟨D.sm, D.gm, D.gn, ?_, Nat.le_succ_of_le D.hl⟩
 have hm := D.hm
 rw [GmD.drop hu, merge, if_pos adj] at hm
 exact hm
variable {K : Internal.Kt} {kn kb kc : St → Prop} {kr : V → St → Prop}
theorem gmb_out (G : Good c) (FF : Fit k_gmb c) (rm : Room 6 A) (S : SMat H P.me ia ib d ju po .none Op xs ys lj) (hla : P.la = xs.length) (hlb : P.lb = ys.length) (hnx : H.length ≤ nx) {v17 v18 v19 : Option V} (sm : Same (fun j => H.length ≤ j) H H') {nb : List T3} (gn : H'.get nx 0 = some (.list (nb.map tpV))) (nl : nb.length < 65) (nad : Nad xs ys true 0 0 (nb ++ [(P.la, P.lb, 0)]))
  (q : ∀ loc H' mb na, Same (fun j => j = P.me) H H' → SMat H' P.me ia ib d ju po (.ref mb 0) Op xs ys lj → H.length ≤ mb → H'.get mb 0 = some (.list (na.map mtV)) → na.length < 66 → Nad xs ys true 0 0 na → kr (.ref mb 0) ⟨loc, H'⟩) :
  vcSs A (t_gmb2.drop 11) c ⟨gmM P nx v5 v6 v7 v8 v9 v10 v11 v12 cu v17 v18 v19, H'⟩ ⟨kn, kb, kc, kr⟩ := by
 refine getM_list gn F.slot_list_append F.type_list_append ?_
 refine append_list gn (by rw [List.length_map]; exact Nat.lt_trans nl (by decide)) ?_
 have gn2 : (H'.put nx 0 (.list (nb.map tpV ++ [V.tup [.int P.la, .int P.lb, .int 0]]))).get nx 0 = some (.list ((nb ++ [(P.la, P.lb, 0)]).map tpV)) := by
  rw [gp_eq gn, List.map_append]; rfl
 have sm2 : Same (fun j => H.length ≤ j) H (H'.put nx 0 (.list (nb.map tpV ++ [V.tup [.int P.la, .int P.lb, .int 0]]))) := sm.put gn (.inl hnx)
 generalize (H'.put nx 0 (.list (nb.map tpV ++ [V.tup [.int P.la, .int P.lb, .int 0]]))) = H6 at gn2 sm2 ⊢
 have nl2 : (nb ++ [(P.la, P.lb, (0 : Int))]).length < 66 := by rw [List.length_append]; exact Nat.succ_lt_succ nl
 generalize nb ++ [(P.la, P.lb, (0 : Int))] = na at gn2 nl2 nad
 refine fun stm hst => ev_mapmake FF G rm hst (y := 0) rfl gn2 (Nat.lt_trans nl2 (by decide)) ?_
 have S7 : SMat (H6 ++ [Fam.one (O.list (na.map mtV))]) P.me ia ib d ju po .none Op xs ys lj := (S.same sm2).same Same.refl.app
 refine set_attr G.top (k := 4) (by decide) rfl (as_mb _) S7.self rfl (Nat.le_of_ble_eq_true rfl) ?_
 have S8 : SMat ((H6 ++ [Fam.one (O.list (na.map mtV))]).put P.me 0 (.ns (nsF ia ib d ju po (.ref H6.length 0) Op))) P.me ia ib d ju po (.ref H6.length 0) Op xs ys lj := S7.reset
 refine get_attr G.top (k := 4) (by decide) rfl (as_mb _) S8.self rfl rfl rfl ?_
 have lme := lt_len S.self
 have s6l := sm2.1
 have gmb : ((H6 ++ [Fam.one (O.list (na.map mtV))]).put P.me 0 (.ns (nsF ia ib d ju po (.ref H6.length 0) Op))).get H6.length 0 = some (.list (na.map mtV)) := gp_ne S7.self (Nat.ne_of_gt (Nat.lt_of_lt_of_le lme s6l)) ge
 exact q _ _ H6.length _ (Same.put (Same.app (sm2.anew.mono fun _ h => h.elim)) S7.self (.inl rfl)) S8 s6l gmb nl2 nad
theorem gmb_end (G : Good c) (FF : Fit k_gmb c) (rm : Room 6 A) (S : SMat H P.me ia ib d ju po .none Op xs ys lj) (hla : P.la = xs.length) (hlb : P.lb = ys.length) (lax : xs.length < 63) (hmx : H.length ≤ P.mx) {ms : List T3} (C : GmC P xs ys H H' [] ms)
  (q : ∀ loc H' mb na, Same (fun j => j = P.me) H H' → SMat H' P.me ia ib d ju po (.ref mb 0) Op xs ys lj → H.length ≤ mb → H'.get mb 0 = some (.list (na.map mtV)) → na.length < 66 → Nad xs ys true 0 0 na → kr (.ref mb 0) ⟨loc, H'⟩) :
  vcSs A (t_gmb2.drop 6) c ⟨gmL P v5 v6 v7 v8 v9 v10 v11 v12, H'⟩ ⟨kn, kb, kc, kr⟩ := by
 obtain ⟨sm, gq, gm, l, f, til, pm, pq⟩ := C
 obtain ⟨hf, hg⟩ := Til.nopend (List.Perm.nil_eq pq).symm
 subst hf
 obtain ⟨_, bsort⟩ := til.sorted
 have bnd := nad_start hg til
 have bl : (l.map (·.2)).length ≤ 62 := by have := til.le.1; rw [List.length_map]; lia
 rw [← hla, ← hlb] at bnd
 generalize l.map (·.2) = bs at pm bsort bnd bl
 have nd : (ms.map (·.1)).Nodup := by
  have h1 : (bs.map (·.1)).Nodup := by
   unfold List.Nodup
   rw [List.pairwise_map]
   exact bsort.imp fun h e => Int.ne_of_lt h e
  exact ((pm.map (·.1)).nodup_iff).mpr h1
 refine getM_list gm slot_list_sort F.type_list_sort ?_
 refine sort_mats G (rm.less (by decide)) gm (by rw [pm.length_eq]; exact Nat.lt_succ_of_le (Nat.le_succ_of_le bl)) nd fun ms' pms hsort => ?_
 have e1 : ms' = bs := sorted_eq (pms.trans pm) hsort bsort
 subst e1
 have gm2 : (H'.put P.mx 0 (.list (ms'.map mtV))).get P.mx 0 = some (.list (ms'.map mtV)) := gp_eq gm
 have sm2 : Same (fun j => H.length ≤ j) H (H'.put P.mx 0 (.list (ms'.map mtV))) := sm.put gm (.inl hmx)
 generalize (H'.put P.mx 0 (.list (ms'.map mtV))) = H2 at gm2 sm2 ⊢
 have ne : P.mx ≠ H2.length := Nat.ne_of_lt (lt_len gm2)
 have D0 : GmD P H H2.length ms' [] (0, 0, 0) 0 (H2 ++ [Fam.one (O.list [])]) := ⟨sm2.app, ga gm2, ge, rfl, Nat.le_refl _⟩
 refine .mk _ 0 (GmJ P H H2.length v5 v6 v7 v8 v9 v10 v11 v12 ms') (sq_list D0.gm) (.mk (0, 0, 0) none none none [] _ D0) (fun σ' I => ?_) (fun t σ' Y I hj => ?_)
 ·cases I with
  | mk cu v17 v18 v19 na H4 D =>
  obtain ⟨sm4, gm4, gn4, hm, hl⟩ := D
  refine ⟨sq_list gm4, ?_⟩
  rw [List.length_map] at hm hl
  rw [List.drop_length, merge] at hm
  rw [← hm] at bnd
  refine sel_d (fun hk => ?_) (fun hk => ?_)
  ·rw [if_pos hk, ← List.append_assoc] at bnd
   refine getM_list gn4 F.slot_list_append F.type_list_append ?_
   refine append_list gn4 (by rw [List.length_map]; exact Nat.lt_of_le_of_lt (Nat.le_trans hl bl) (by decide)) ?_
   exact gmb_out G FF rm S hla hlb sm2.1 (sm4.put gn4 (.inl sm2.1)) (by rw [gp_eq gn4, List.map_append]; rfl) (by rw [List.length_append]; exact Nat.lt_of_le_of_lt (Nat.succ_le_succ (Nat.le_trans hl bl)) (by decide)) bnd q
  ·rw [if_neg hk, List.nil_append] at bnd
   exact gmb_out G FF rm S hla hlb sm2.1 sm4 gn4 (Nat.lt_of_le_of_lt (Nat.le_trans hl bl) (by decide)) bnd q
 ·cases I with
  | mk cu v17 v18 v19 na H4 D =>
  refine ⟨sq_list D.gm, fun h0 ft => ?_⟩
  rw [List.getElem?_map] at hj
  obtain ⟨u, hu, e⟩ := Option.map_eq_some_iff.mp hj
  subst e
  have tl : t < ms'.length := (List.getElem?_eq_some_iff.mp hu).1
  have nl : (na.map tpV).length < 1000000 := by rw [List.length_map]; exact Nat.lt_of_le_of_lt D.hl (Nat.lt_trans tl (Nat.lt_of_le_of_lt bl (by decide)))
  refine unp_mat G.top rm.handled rfl ?_
  refine sel_and (fun h1 h2 => .mk _ _ _ _ na H4 (D.grow hu ⟨h1, h2⟩)) (fun adj => sel_d (fun hk => ?_) fun hk => .mk _ _ _ _ na H4 (D.skip hu adj hk))
  refine getM_list D.gn F.slot_list_append F.type_list_append (append_list D.gn nl ?_)
  exact .mk _ _ _ _ _ _ (D.app ne sm2.1 hu adj hk)
theorem gmb_turn {H3 : AH} {qs0 : List T4} {r : T4} {ms ms' : List T3} {i j k : Int} {rest : List T4} (ne : P.mx ≠ P.q) (hmx : H.length ≤ P.mx) (hq : H.length ≤ P.q)
  (sm : Same (fun j => H.length ≤ j) H H3) (gq : H3.get P.q 0 = some (.list (qs0.map t4V))) (gm : H3.get P.mx 0 = some (.list (ms.map mtV)))
  (bl : Blk xs ys r.1 r.2.1 r.2.2.1 r.2.2.2 i j k) (nc : k = 0 → NoCom xs ys r.1 r.2.1 r.2.2.1 r.2.2.2) (pr : qs0.Perm rest) (pm : ms.Perm ms') (S : Spl xs ys 0 0 ms' r rest)
  (ql : qs0.length ≤ 62) (ml : ms.length ≤ 62) {n : Nat} (hn : n = wt (qs0 ++ [r])) :
  vcSs A (b_gmb2.drop 2) c ⟨gmT P r i j k, H3⟩ ⟨Less (GmI P xs ys H) n, kb, Less (GmI P xs ys H) n, kr⟩ := by
 subst hn
 refine sel_d (fun hk => ?_) (fun hk => ?_)
 ·have k1 : 1 ≤ k := by have := bl.k0; lia
  have fin : ∀ {fl fr : Bool} {H6 : AH}, (fl = false → NoCom xs ys r.1 i r.2.2.1 j) → (fr = false → NoCom xs ys (i + k) r.2.1 (j + k) r.2.2.2) → Same (fun j => H.length ≤ j) H H6 → H6.get P.q 0 = some (.list (((qs0 ++ pnd fl (r.1, i, r.2.2.1, j)) ++ pnd fr (i + k, r.2.1, j + k, r.2.2.2)).map t4V)) → H6.get P.mx 0 = some (.list ((ms ++ [(i, j, k)]).map mtV)) →
    Less (GmI P xs ys H) (wt (qs0 ++ [r])) ⟨gmT P r i j k, H6⟩ := fun {fl fr H6} nl nr sm6 gq6 gm6 => by
   refine ⟨_, ?_, .mk _ _ _ _ _ _ _ _ H6 _ _ ⟨sm6, gq6, gm6, (S.one i j k fl fr bl k1 nl nr).imp fun l' T => T.imp fun f' T => ⟨T.til, ((List.perm_append_singleton _ _).trans (pm.cons _)).trans T.pm, List.Perm.trans ?_ T.pq⟩⟩⟩
   ·have w1 := wt_pnd fl (r.1, i, r.2.2.1, j)
    have w2 := wt_pnd fr (i + k, r.2.1, j + k, r.2.2.2)
    have i0 := bl.i0; have i1 := bl.i1
    rw [wt_app, wt_app, wt_app, wt_one]
    simp only at w1 w2
    grind
   ·rw [List.append_assoc]
    exact List.perm_append_comm.trans ((pr.append_left _).trans (by rw [List.append_assoc]))
  have c2 : ∀ {fl : Bool} {H5 : AH}, (fl = false → NoCom xs ys r.1 i r.2.2.1 j) → Same (fun j => H.length ≤ j) H H5 → H5.get P.q 0 = some (.list ((qs0 ++ pnd fl (r.1, i, r.2.2.1, j)).map t4V)) → H5.get P.mx 0 = some (.list ((ms ++ [(i, j, k)]).map mtV)) →
    vcSs A [i2_gmb] c ⟨gmT P r i j k, H5⟩ ⟨Less (GmI P xs ys H) (wt (qs0 ++ [r])), kb, Less (GmI P xs ys H) (wt (qs0 ++ [r])), kr⟩ := fun {fl H5} nl sm5 gq5 gm5 => by
   have no : ¬ (i + k < r.2.1 ∧ j + k < r.2.2.2) → Less (GmI P xs ys H) (wt (qs0 ++ [r])) ⟨gmT P r i j k, H5⟩ := fun h =>
    fin (fr := false) nl (fun _ p q p0 p1 q0 q1 => absurd ⟨Int.lt_of_le_of_lt p0 p1, Int.lt_of_le_of_lt q0 q1⟩ h) sm5 (by rw [show pnd false _ = [] from rfl, List.append_nil]; exact gq5) gm5
   refine sel_and (fun h1 h2 => ?_) no
   refine getM_list gq5 F.slot_list_append F.type_list_append ?_
   refine append_list gq5 (by rw [List.length_map, List.length_append]; exact Nat.lt_of_le_of_lt (Nat.add_le_add ql (wt_len _ _)) (by decide)) ?_
   refine fin (fr := true) nl (fun e => nomatch e) (sm5.put gq5 (.inl hq)) ?_ (gp_ne gq5 ne gm5)
   rw [gp_eq gq5, List.map_append (l₁ := qs0 ++ _)]
   rfl
  refine getM_list gm F.slot_list_append F.type_list_append ?_
  refine append_list gm (by rw [List.length_map]; exact Nat.lt_of_le_of_lt ml (by decide)) ?_
  have gm4 : (H3.put P.mx 0 (.list (ms.map mtV ++ [V.mat [V.int i, V.int j, V.int k]]))).get P.mx 0 = some (.list ((ms ++ [(i, j, k)]).map mtV)) := by rw [gp_eq gm, List.map_append]; rfl
  have gq4 : (H3.put P.mx 0 (.list (ms.map mtV ++ [V.mat [V.int i, V.int j, V.int k]]))).get P.q 0 = some (.list (qs0.map t4V)) := gp_ne gm ne.symm gq
  have sm4 : Same (fun j => H.length ≤ j) H (H3.put P.mx 0 (.list (ms.map mtV ++ [V.mat [V.int i, V.int j, V.int k]]))) := sm.put gm (.inl hmx)
  refine sel_and (fun h1 h2 => ?_) fun h => c2 (fl := false) (fun _ p q p0 p1 q0 q1 => absurd ⟨Int.lt_of_le_of_lt p0 p1, Int.lt_of_le_of_lt q0 q1⟩ h) sm4 (by rw [show pnd false _ = [] from rfl, List.append_nil]; exact gq4) gm4
  refine getM_list gq4 F.slot_list_append F.type_list_append ?_
  refine append_list gq4 (by rw [List.length_map]; exact Nat.lt_of_le_of_lt ql (by decide)) ?_
  refine c2 (fl := true) (fun e => nomatch e) (sm4.put gq4 (.inl hq)) ?_ (gp_ne gq4 ne gm4)
  rw [gp_eq gq4, List.map_append]
  rfl
 ·have hk : k = 0 := Decidable.not_not.mp hk
  refine ⟨_, ?_, .mk _ _ _ _ _ _ _ _ H3 qs0 ms ⟨sm, gq, gm, (S.none (nc hk)).imp fun l' T => T.imp fun f' T => ⟨T.til, pm.trans T.pm, pr.trans T.pq⟩⟩⟩
  have i0 := bl.i0; have i1 := bl.i1
  rw [wt_app, wt_one]
  lia
theorem gmb_loop (G : Good c) (FF : Fit k_gmb c) (rm : Room 6 A) (S : SMat H P.me ia ib d ju po .none Op xs ys lj) (hla : P.la = xs.length) (hlb : P.lb = ys.length) (lax : xs.length < 63) (lby : ys.length < 1000) (ne : P.mx ≠ P.q) (hmx : H.length ≤ P.mx) (hq : H.length ≤ P.q) {qs : List T4} {ms : List T3} (C : GmC P xs ys H H' qs ms)
  (q : ∀ loc H' mb na, Same (fun j => j = P.me) H H' → SMat H' P.me ia ib d ju po (.ref mb 0) Op xs ys lj → H.length ≤ mb → H'.get mb 0 = some (.list (na.map mtV)) → na.length < 66 → Nad xs ys true 0 0 na → kr (.ref mb 0) ⟨loc, H'⟩) :
  vcSs A (t_gmb2.drop 5) c ⟨gmL P v5 v6 v7 v8 v9 v10 v11 v12, H'⟩ ⟨kn, kb, kc, kr⟩ := by
 refine .mk (GmI P xs ys H) _ (.mk _ _ _ _ _ _ _ _ _ _ _ C) fun n σ' I => ?_
 clear C
 cases I with
 | mk v5 v6 v7 v8 v9 v10 v11 v12 H' qs ms C =>
 have ml : ms.length ≤ 62 ∧ qs.length ≤ 63 := by
  obtain ⟨l, f, T⟩ := C.tl
  have h := T.til.le.1
  have h2 := pend_len xs.length ys.length l 0 0 f
  rw [T.pm.length_eq, T.pq.length_eq, List.length_map]
  lia
 obtain ⟨mlen, qlen⟩ := ml
 refine tr_list C.gq (by rw [List.length_map]; exact Nat.lt_of_le_of_lt qlen (by decide)) ?_
 rcases List.eq_nil_or_concat qs with e | ⟨qs0, r, e⟩
 ·subst e
  exact sel_f (by decide) (gmb_end G FF rm S hla hlb lax hmx C q)
 ·rw [List.concat_eq_append] at e
  subst e
  refine sel_t (by simp) ?_
  obtain ⟨sm, gq, gm, l, f, til, pm, pq⟩ := C
  obtain ⟨I, rest, pp, sp⟩ := Til.split (r := r) (Int.le_refl _) (Int.le_refl _) til (pq.mem_iff.mp (List.mem_append.mpr (.inr (List.mem_singleton.mpr rfl))))
  have pr : qs0.Perm rest := ((List.perm_append_singleton r qs0).symm.trans (pq.trans pp)).cons_inv
  rw [List.length_append] at qlen
  have q0len : qs0.length ≤ 62 := Nat.le_of_succ_le_succ qlen
  rw [List.map_append] at gq
  refine getM_list gq F.slot_list_pop F.type_list_pop ?_
  refine pop_list (xs := qs0.map t4V) (Y := t4V r) gq (by rw [List.length_map]; exact Nat.lt_of_le_of_lt q0len (by decide)) ?_
  have gq2 : (H'.put P.q 0 (.list (qs0.map t4V))).get P.q 0 = some (.list (qs0.map t4V)) := gp_eq gq
  have gm2 : (H'.put P.q 0 (.list (qs0.map t4V))).get P.mx 0 = some (.list (ms.map mtV)) := gp_ne gq ne gm
  have sm2 : Same (fun j => H.length ≤ j) H (H'.put P.q 0 (.list (qs0.map t4V))) := sm.put gq (.inl hq)
  have S2 := S.same sm2
  refine getM_inst G.top (mt_flm _) S2.self rfl ?_
  refine ⟨keep_fn G kp196, ?_⟩
  refine call_flm G (rm.less (by decide)) S2 (Nat.lt_trans lax (by decide)) lby I.r1 I.r2 I.r3 I.r4 I.r5 I.r6 fun H3 i j k sm3 bl nc => ?_
  refine unp_mat G.top rm.handled rfl ?_
  exact gmb_turn (kb := kb) (kr := kr) ne hmx hq (sm2.trans (sm3.mono fun _ h => h.elim)) (sm3.2 _ _ _ (fun h => h) gq2) (sm3.2 _ _ _ (fun h => h) gm2) bl nc pr pm sp q0len mlen rfl
end
theorem gmb_vc {H : AH} {kn kb kc : St → Prop} {kr : V → St → Prop} (G : Good c) (FF : Fit k_gmb c) (rm : Room 6 A) (S : SMat H me ia ib d ju po .none Op xs ys lj) (la : xs.length < 63) (lb : ys.length < 1000)
  (q : ∀ loc H' mb na, Same (fun j => j = me) H H' → SMat H' me ia ib d ju po (.ref mb 0) Op xs ys lj → H.length ≤ mb → H'.get mb 0 = some (.list (na.map mtV)) → na.length < 66 → Nad xs ys true 0 0 na → kr (.ref mb 0) ⟨loc, H'⟩) :
  vcSs A t_gmb2 c ⟨[some (.inst 242 me 0), none, none, none, none, none, none, none, none, none, none, none, none, none, none, none, none, none, none, none], H⟩ ⟨kn, kb, kc, kr⟩ := by
 refine get_attr G.top (k := 4) (by decide) rfl (as_mb _) S.self rfl rfl rfl ?_
 refine get_attr G.top (k := 1) (by decide) rfl (as_a _) S.self rfl rfl rfl ?_
 refine len_ints S.la (Nat.lt_trans la (by decide)) ?_
 refine get_attr G.top (k := 2) (by decide) rfl (as_b _) S.self rfl rfl rfl ?_
 refine len_ints S.lb (Nat.lt_trans lb (by decide)) ?_
 have hl1 : (H ++ [Fam.one (O.list [V.tup [V.int 0, V.int ↑xs.length, V.int 0, V.int ↑ys.length]])]).length = H.length + 1 := List.length_append
 have hlt : H.length < (H ++ [Fam.one (O.list [V.tup [V.int 0, V.int ↑xs.length, V.int 0, V.int ↑ys.length]])]).length := by rw [hl1]; exact Nat.lt_succ_self _
 exact gmb_loop (P := ⟨me, xs.length, ys.length, H.length, (H ++ [Fam.one (O.list [V.tup [V.int 0, V.int ↑xs.length, V.int 0, V.int ↑ys.length]])]).length⟩) (qs := [(0, (xs.length : Int), 0, (ys.length : Int))]) (ms := []) G FF rm S rfl rfl la lb (Nat.ne_of_gt hlt) (Nat.le_of_lt hlt) (Nat.le_refl _)
  ⟨Same.refl.app.app, ga ge, ge, [], true, ⟨Int.natCast_nonneg _, Int.natCast_nonneg _, fun e => nomatch e⟩, .refl _, .refl _⟩ q
theorem call_gmb (G : Good c) (rm : Room 7 A) (S : SMat σ.H me ia ib d ju po .none Op xs ys lj) (la : xs.length < 63) (lb : ys.length < 1000)
  (q : ∀ H' mb na, Same (fun j => j = me) σ.H H' → SMat H' me ia ib d ju po (.ref mb 0) Op xs ys lj → σ.H.length ≤ mb → H'.get mb 0 = some (.list (na.map mtV)) → na.length < 66 → Nad xs ys true 0 0 na → Q (.ref mb 0) { σ with H := H' }) :
  Ca c A σ (.obj 203) [.inst 242 me 0] Q := by
 refine (call_code (Ys := [.inst 242 me 0]) G (rm.less (by decide)) (ok_gmb2 _) (bd_of G.top fun W vs rs => ?_) (by simp [n_gmb]) fun c' F' G' hw L => ?_).ca
 ·obtain ⟨v0, _, rfl, r0, e⟩ := rs
  cases e
  exact ⟨[v0], fun S => by kernel_rfl, VRs.cons r0 (VRs.nil _)⟩
 ·exact gmb_vc G' F' rm.deeper S la lb fun loc => q
end
end
section
noncomputable abbrev T5 := Str × Int × Int × Int × Int
noncomputable abbrev cdV (x : T5) : V := .tup [.str x.1, .int x.2.1, .int x.2.2.1, .int x.2.2.2.1, .int x.2.2.2.2]
noncomputable def opE (i j : Int) (t : T3) : List T5 := if i < t.1 ∧ j < t.2.1 then [(s "replace", i, t.1, j, t.2.1)] else if i < t.1 then [(s "delete", i, t.1, j, t.2.1)] else if j < t.2.1 then [(s "insert", i, t.1, j, t.2.1)] else []
noncomputable def ops : Int → Int → List T3 → List T5
 | _, _, [] => []
 | i, j, t :: r => opE i j t ++ ((if t.2.2 ≠ 0 then [(s "equal", t.1, t.1 + t.2.2, t.2.1, t.2.1 + t.2.2)] else []) ++ ops (t.1 + t.2.2) (t.2.1 + t.2.2) r)
theorem len_rep : (s "replace").length = 7 := by decide +kernel
theorem len_del : (s "delete").length = 6 := by decide +kernel
theorem len_ins : (s "insert").length = 6 := by decide +kernel
theorem len_emp : (s "").length = 0 := by decide +kernel
theorem opE_len (i j : Int) (t : T3) : (opE i j t).length ≤ 1 := by unfold opE; split; simp; split; simp; split <;> simp
theorem mt_gmb (P : Params) : methOk (K P) 242 (s "get_matching_blocks") 203 = true := by kernel_rfl
theorem kp203 (P : Params) : keepIn (K P) (.ref 203) = true := by kernel_rfl
section
variable {c : Cx} {A : Around} {σ : St} {Q : V → St → Prop} {me ia ib d ju po : Nat} {M Op : V} {xs ys : List Int} {lj : Int → Nat}
@[reducible] noncomputable def e_goc : List TS := [.ite (.loc 7) [.expr (.meth (.loc 3) (s "append") [(.tuple [(.loc 7), (.loc 1), (.loc 4), (.loc 2), (.loc 5)])])] [],
 .assign [(.tup [1, 2])] (.tuple [(.bin .Add (.loc 4) (.loc 6)), (.bin .Add (.loc 5) (.loc 6))]),
 .ite (.loc 6) [.expr (.meth (.loc 3) (s "append") [(.tuple [(.str (s "equal")), (.loc 4), (.loc 1), (.loc 5), (.loc 2)])])] []]
@[reducible] noncomputable def gocL (me an : Nat) (i j : Int) (v4 v5 v6 v7 : Option V) : List (Option V) := [some (.inst 242 me 0), some (.int i), some (.int j), some (.ref an 0), v4, v5, v6, v7]
structure GocD (me an mb : Nat) (H : AH) (na : List T3) (i j : Int) (cs : List T5) (t : Nat) (H' : AH) : Prop where
 sm : Same (fun j => j = me) H H'
 gm : H'.get mb 0 = some (.list (na.map mtV))
 ga : H'.get an 0 = some (.list (cs.map cdV))
 hc : cs ++ ops i j (na.drop t) = ops 0 0 na
 hl : cs.length ≤ 2 * t
inductive GocI (me an mb : Nat) (H : AH) (na : List T3) (t : Nat) : St → Prop
 | mk (i j : Int) (v4 v5 v6 v7 : Option V) (cs : List T5) (H' : AH) (D : GocD me an mb H na i j cs t H') : GocI me an mb H na t ⟨gocL me an i j v4 v5 v6 v7, H'⟩
section
variable {an mb : Nat} {H H' : AH} {na : List T3} {t : Nat} {i j : Int} {cs : List T5} {u : T3}
theorem goc_tail {kb : St → Prop} {kr : V → St → Prop} (D : GocD me an mb H na i j cs t H') (hH : H.length ≤ an) (hmn : mb ≠ an) (tl : t < 70) (hu : na[t]? = some u) {w : Str} (wl : w.length < 1000) (h0 : w.length = 0 → opE i j u = []) (h1 : w.length ≠ 0 → opE i j u = [(w, i, u.1, j, u.2.1)]) :
  vcSs A e_goc c ⟨gocL me an i j (some (.int u.1)) (some (.int u.2.1)) (some (.int u.2.2)) (some (.str w)), H'⟩ ⟨GocI me an mb H na (t + 1), kb, GocI me an mb H na (t + 1), kr⟩ := by
 obtain ⟨sm, gm, ga, hc, hl⟩ := D
 obtain ⟨htl, e⟩ := List.getElem?_eq_some_iff.mp hu
 rw [List.drop_eq_getElem_cons htl, e, ops, ← List.append_assoc] at hc
 have ol := opE_len i j u
 have cl : (cs ++ opE i j u).length ≤ 2 * t + 1 := by rw [List.length_append]; exact Nat.add_le_add hl ol
 have fin : ∀ {H5 : AH}, Same (fun j => j = me) H H5 → H5.get mb 0 = some (.list (na.map mtV)) → H5.get an 0 = some (.list ((cs ++ opE i j u).map cdV)) →
   vcSs A (e_goc.drop 1) c ⟨gocL me an i j (some (.int u.1)) (some (.int u.2.1)) (some (.int u.2.2)) (some (.str w)), H5⟩ ⟨GocI me an mb H na (t + 1), kb, GocI me an mb H na (t + 1), kr⟩ := fun {H5} sm5 gm5 ga5 => by
  generalize cs ++ opE i j u = ds at hc cl ga5
  refine sel_d (fun hk => ?_) (fun hk => ?_)
  ·rw [if_pos hk, ← List.append_assoc] at hc
   refine getM_list ga5 F.slot_list_append F.type_list_append ?_
   refine append_list ga5 (by rw [List.length_map]; grind) ?_
   exact .mk _ _ _ _ _ _ (ds ++ [(s "equal", u.1, u.1 + u.2.2, u.2.1, u.2.1 + u.2.2)]) _ ⟨sm5.put ga5 (.inr hH), gp_ne ga5 hmn gm5, by rw [gp_eq ga5, List.map_append]; rfl, hc, by rw [List.length_append]; exact Nat.succ_le_succ cl⟩
  ·rw [if_neg hk, List.nil_append] at hc
   exact .mk _ _ _ _ _ _ ds H5 ⟨sm5, gm5, ga5, hc, Nat.le_succ_of_le cl⟩
 refine tr_str wl (sel_d (fun hb => ?_) (fun hb => ?_))
 ·have h1 := h1 (fun e => by rw [e] at hb; exact absurd hb (by decide))
  refine getM_list ga F.slot_list_append F.type_list_append ?_
  refine append_list ga (by rw [List.length_map]; grind) ?_
  exact fin (sm.put ga (.inr hH)) (gp_ne ga hmn gm) (by rw [gp_eq ga, h1, List.map_append]; rfl)
 ·have h0 := h0 (by simpa using hb)
  exact fin sm gm (by rw [h0, List.append_nil]; exact ga)
end
theorem goc_vc {H : AH} {kn kb kc : St → Prop} {kr : V → St → Prop} (G : Good c) (rm : Room 7 A) (S : SMat H me ia ib d ju po .none .none xs ys lj) (la : xs.length < 63) (lb : ys.length < 1000)
  (q : ∀ loc H' an na, Same (fun j => j = me) H H' → H'.get an 0 = some (.list ((ops 0 0 na).map cdV)) → (ops 0 0 na).length < 200 → Nad xs ys true 0 0 na → kr (.ref an 0) ⟨loc, H'⟩) :
  vcSs A t_goc c ⟨[some (.inst 242 me 0), none, none, none, none, none, none, none], H⟩ ⟨kn, kb, kc, kr⟩ := by
 refine get_attr G.top (k := 5) (by decide) rfl (as_oc _) S.self rfl rfl rfl ?_
 have S1 : SMat (H ++ [Fam.one (O.list [])]) me ia ib d ju po .none .none xs ys lj := S.same Same.refl.app
 refine set_attr G.top (k := 5) (by decide) rfl (as_oc _) S1.self rfl (Nat.le_of_ble_eq_true rfl) ?_
 have S2 : SMat ((H ++ [Fam.one (O.list [])]).put me 0 (.ns (nsF ia ib d ju po .none (.ref H.length 0)))) me ia ib d ju po .none (.ref H.length 0) xs ys lj := S1.reset
 have ga2 : ((H ++ [Fam.one (O.list [])]).put me 0 (.ns (nsF ia ib d ju po .none (.ref H.length 0)))).get H.length 0 = some (.list (List.map cdV [])) := gp_ne S1.self (Nat.ne_of_gt (lt_len S.self)) ge
 have s0 : Same (fun j => j = me) H H := Same.refl
 have lH2 : H.length < ((H ++ [Fam.one (O.list [])]).put me 0 (.ns (nsF ia ib d ju po .none (.ref H.length 0)))).length := by rw [put_length, List.length_append]; exact Nat.lt_succ_self _
 refine getM_inst G.top (mt_gmb _) S2.self rfl ?_
 refine ⟨keep_fn G kp203, ?_⟩
 refine call_gmb G rm S2 la lb fun H3 mb na sm3 S3 hmb gmb nal nad => ?_
 have hmn : mb ≠ H.length := Nat.ne_of_gt (Nat.lt_of_lt_of_le lH2 hmb)
 have D0 : GocD me H.length mb H na 0 0 [] 0 H3 := ⟨(s0.app.put S1.self (.inl rfl)).trans sm3, gmb, sm3.2 _ _ _ (Nat.ne_of_gt (lt_len S.self)) ga2, rfl, Nat.le_refl _⟩
 refine .mk _ 0 (GocI me H.length mb H na) (sq_list gmb) (.mk 0 0 none none none none [] H3 D0) (fun σ' I => ?_) (fun t σ' Y I hj => ?_)
 ·cases I with
  | mk i j v4 v5 v6 v7 cs H4 D =>
  obtain ⟨sm4, gm4, ga4, hc, hl⟩ := D
  refine ⟨sq_list gm4, ?_⟩
  rw [List.length_map] at hc hl
  rw [List.drop_length, ops, List.append_nil] at hc
  rw [hc] at ga4 hl
  exact q _ H4 H.length na sm4 ga4 (by grind) nad
 ·cases I with
  | mk i j v4 v5 v6 v7 cs H4 D =>
  refine ⟨sq_list D.gm, fun h0 ft => ?_⟩
  rw [List.getElem?_map] at hj
  obtain ⟨u, hu, e⟩ := Option.map_eq_some_iff.mp hj
  subst e
  have tl : t < 70 := Nat.lt_trans (List.getElem?_eq_some_iff.mp hu).1 (Nat.lt_trans nal (by decide))
  refine unp_mat G.at.top rm.handled rfl ?_
  refine sel_and (fun h1 h2 => ?_) (fun h => sel_d (fun h1 => ?_) fun h1 => sel_d (fun h2 => ?_) fun h2 => ?_)
  ·exact goc_tail D (Nat.le_refl _) hmn tl hu (w := s "replace") (by rw [len_rep]; decide) (fun e => by rw [len_rep] at e; exact nomatch e) fun _ => if_pos ⟨h1, h2⟩
  ·exact goc_tail D (Nat.le_refl _) hmn tl hu (w := s "delete") (by rw [len_del]; decide) (fun e => by rw [len_del] at e; exact nomatch e) fun _ => (if_neg h).trans (if_pos h1)
  ·exact goc_tail D (Nat.le_refl _) hmn tl hu (w := s "insert") (by rw [len_ins]; decide) (fun e => by rw [len_ins] at e; exact nomatch e) fun _ => (if_neg h).trans ((if_neg h1).trans (if_pos h2))
  ·exact goc_tail D (Nat.le_refl _) hmn tl hu (w := s "") (by rw [len_emp]; decide) (fun _ => (if_neg h).trans ((if_neg h1).trans (if_neg h2))) fun e => absurd len_emp e
theorem call_goc {l₀ : List (Option V)} {H₀ : AH} (G : Good c) (rm : Room 8 A) (S : SMat H₀ me ia ib d ju po .none .none xs ys lj) (la : xs.length < 63) (lb : ys.length < 1000)
  (q : ∀ H' an na, Same (fun j => j = me) H₀ H' → H'.get an 0 = some (.list ((ops 0 0 na).map cdV)) → (ops 0 0 na).length < 200 → Nad xs ys true 0 0 na → Q (.ref an 0) ⟨l₀, H'⟩) :
  Ca c A ⟨l₀, H₀⟩ (.obj 210) [.inst 242 me 0] Q := by
 refine (call_code (Ys := [.inst 242 me 0]) G (rm.less (by decide)) (ok_goc _) (bd1 G.top fun W v0 r0 => ?_) (Nat.le_of_ble_eq_true rfl) fun c' F' G' hw L => ?_).ca
 ·exact ⟨[v0], fun S => by kernel_rfl, VRs.cons r0 (VRs.nil _)⟩
 ·exact goc_vc G' rm.deeper S la lb fun loc => q
end
end
section
theorem cut_map {α β : Type} (f : α → β) (xs : List α) (a b : Nat) : cut (xs.map f) a b = (cut xs a b).map f := by unfold cut; rw [← List.map_drop, ← List.map_take]
section
variable {c : Cx} {A : Around} {σ : St} {Q : V → St → Prop}
theorem clip_in {n d : Nat} {i : Int} (h0 : 0 ≤ i) (h1 : i ≤ n) : clip n d (.int i) = some i.toNat := by
 show some (if i < 0 then (i + n).toNat else min i.toNat n) = _
 rw [if_neg (Int.not_lt.mpr h0), Nat.min_eq_left (Int.toNat_le.mpr h1)]
theorem clip_xs {xs : List Int} {d : Nat} {i : Int} (h0 : 0 ≤ i) (h1 : i ≤ xs.length) : clip (xs.map V.int).length d (.int i) = some i.toNat := clip_in h0 (by rw [List.length_map]; exact h1)
theorem lm_lt {xs : List Int} {n m : Nat} (h : xs.length < n) (e : Nat.ble n m = true) : (xs.map V.int).length < m := by rw [List.length_map]; exact Nat.lt_of_lt_of_le h (Nat.le_of_ble_eq_true e)
theorem slice_xs {l₀ : List (Option V)} {H₀ : AH} {i : Nat} {x lo hi : Int} {xs : List Int} {p : Pos} (hg : H₀.get i x = some (.list (xs.map V.int))) (hl : xs.length < 1000) (h0 : 0 ≤ lo) (h1 : lo ≤ xs.length) (h2 : 0 ≤ hi) (h3 : hi ≤ xs.length)
  (q : Q (.ref H₀.length 0) ⟨l₀, H₀ ++ [.one (.list ((cut xs lo.toNat hi.toNat).map V.int))]⟩) : Op3 c A ⟨l₀, H₀⟩ (.ref i x) (.int lo) (.int hi) (sliceOf p) Q :=
 slice_list hg (lm_lt hl rfl) (clip_xs h0 h1) (clip_xs h2 h3) (by rw [cut_map]; exact q)
theorem slice_to {l₀ : List (Option V)} {H₀ : AH} {i : Nat} {x hi : Int} {xs : List Int} {p : Pos} (hg : H₀.get i x = some (.list (xs.map V.int))) (hl : xs.length < 1000) (h2 : 0 ≤ hi) (h3 : hi ≤ xs.length)
  (q : Q (.ref H₀.length 0) ⟨l₀, H₀ ++ [.one (.list ((xs.take hi.toNat).map V.int))]⟩) : Op3 c A ⟨l₀, H₀⟩ (.ref i x) .none (.int hi) (sliceOf p) Q :=
 slice_list (a := 0) hg (lm_lt hl rfl) rfl (clip_xs h2 h3) (by rw [cut_map]; exact q)
theorem cut_end {α : Type} {l : List α} {a : Nat} : cut l a l.length = l.drop a := by unfold cut; exact List.take_of_length_le (Nat.le_of_eq List.length_drop)
theorem slice_from {l₀ : List (Option V)} {H₀ : AH} {i : Nat} {x lo : Int} {xs : List Int} {p : Pos} (hg : H₀.get i x = some (.list (xs.map V.int))) (hl : xs.length < 1000) (h0 : 0 ≤ lo) (h1 : lo ≤ xs.length)
  (q : Q (.ref H₀.length 0) ⟨l₀, H₀ ++ [.one (.list ((xs.drop lo.toNat).map V.int))]⟩) : Op3 c A ⟨l₀, H₀⟩ (.ref i x) (.int lo) .none (sliceOf p) Q :=
 slice_list hg (lm_lt hl rfl) (clip_xs h0 h1) rfl (by rw [cut_map, List.length_map, cut_end]; exact q)
end
noncomputable def due (g k : List Int) : Str := if g = [] then (if k = [] then s "" else s "insert") else (if k = [] then s "delete" else s "replace")
inductive CodeOk (last w : Str) (g k : List Int) : Prop
 | eq (hw : w = s "equal") (hgk : g = k) (hgn : g ≠ []) (hl : last ≠ s "equal") : CodeOk last w g k
 | ed (hw : w = due g k) (hwn : w ≠ s "") (hnc : ∀ z ∈ g, z ∉ k) (hl : last = s "" ∨ last = s "equal") : CodeOk last w g k
structure WC (xs ys : List Int) (i j : Int) (last : Str) (x : T5) : Prop where
 q1 : x.2.1 = i
 q2 : x.2.2.2.1 = j
 a0 : 0 ≤ i
 b0 : 0 ≤ j
 a1 : i ≤ x.2.2.1
 a2 : x.2.2.1 ≤ xs.length
 b1 : j ≤ x.2.2.2.2
 b2 : x.2.2.2.2 ≤ ys.length
 hc : CodeOk last x.1 (cut xs i.toNat x.2.2.1.toNat) (cut ys j.toNat x.2.2.2.2.toNat)
noncomputable def WOk (xs ys : List Int) : Int → Int → Str → List T5 → Prop
 | i, j, _, [] => i = xs.length ∧ j = ys.length
 | i, j, last, x :: r => WC xs ys i j last x ∧ WOk xs ys x.2.2.1 x.2.2.2.2 x.1 r
theorem cut_len {α : Type} {xs : List α} {a b : Nat} (h : b ≤ xs.length) : (cut xs a b).length = b - a := by unfold cut; rw [List.length_take, List.length_drop, Nat.min_eq_left (Nat.sub_le_sub_right h a)]
theorem cut_lenI {α : Type} {xs : List α} {a b : Int} (h0 : 0 ≤ a) (h1 : a ≤ b) (h2 : b ≤ xs.length) : ((cut xs a.toNat b.toNat).length : Int) = b - a := by
 obtain ⟨n, e⟩ := Int.eq_ofNat_of_zero_le h0
 obtain ⟨m, e'⟩ := Int.eq_ofNat_of_zero_le (Int.le_trans h0 h1)
 subst e e'
 rw [Int.toNat_natCast, Int.toNat_natCast, cut_len (Int.ofNat_le.mp h2)]
 exact Int.ofNat_sub (Int.ofNat_le.mp h1)
theorem cut_sum {α : Type} {xs : List α} {a b : Int} (h0 : 0 ≤ a) (h1 : a ≤ b) (h2 : b ≤ xs.length) : a + ((cut xs a.toNat b.toNat).length : Int) = b := by rw [cut_lenI h0 h1 h2]; lia
theorem cut_lt {α : Type} {xs : List α} {a b n : Nat} (h : xs.length < n) : (cut xs a b).length < n := by
 unfold cut
 exact Nat.lt_of_le_of_lt (Nat.le_trans (List.length_take_le' ..) (by rw [List.length_drop]; exact Nat.sub_le ..)) h
noncomputable def isIn (k : List Int) : V → Option V
 | .int n => if k.contains n then some (.int n) else none
 | _ => none
theorem isIn_pos {k : List Int} {n : Int} (h : k.contains n = true) : isIn k (.int n) = some (.int n) := by unfold isIn; exact if_pos h
theorem isIn_neg {k : List Int} {n : Int} (h : k.contains n = false) : isIn k (.int n) = none := by unfold isIn; exact if_neg (by rw [h]; decide)
theorem isIn_map (k : List Int) : ∀ g : List Int, (g.map V.int).filterMap (isIn k) = (g.filter k.contains).map V.int
 | [] => rfl
 | a :: g => by
  rw [List.map_cons, List.filterMap_cons, List.filter_cons, isIn_map k g]
  unfold isIn
  by_cases h : a ∈ k <;> simp [h]
theorem ne_e (w : Str) (g k : List Int) (h : w = due g k) : (w == s "equal") = false := by
 subst h
 unfold due
 split <;> split <;> decide +kernel
theorem ee : (s "equal" == s "equal") = true := by decide +kernel
theorem e0 : (s "equal" == s "") = false := by decide +kernel
section
variable {c : Cx} {A : Around} {σ : St} {Q : V → St → Prop} {xs ys : List Int}
section
variable {d : CD} {o : Nat} {x1 : Option V}
theorem cap1_e {loc : List (Option V)} (hn : d.ns.length = 2) (hc : d.cap = [(1, o)]) (h : σ.loc[o]? = some x1) (cap : CapOk d σ loc) {P : List (Option V) → Prop} (k : ∀ x0, P [x0, x1]) : P loc := by
 obtain ⟨hl, h2⟩ := cap
 have h3 := h2 1 o (by rw [hc]; rfl) (by rw [hn]; decide)
 rw [hn] at hl
 obtain ⟨a, r, e⟩ := List.exists_cons_of_length_eq_add_one hl
 subst e
 obtain ⟨b, r', e⟩ := List.exists_cons_of_length_eq_add_one (Nat.succ.inj hl)
 subst e
 have e : r' = [] := List.eq_nil_of_length_eq_zero (Nat.succ.inj (Nat.succ.inj hl))
 subst e
 have h3 : some b = σ.loc[o]? := h3
 rw [h] at h3
 cases h3
 exact k a
theorem cap1_i {y : Option V} (hn : d.ns.length = 2) (hc : d.cap = [(1, o)]) (h : σ.loc[o]? = some x1) : CapOk d σ [y, x1] := by
 refine ⟨hn.symm, fun i j h1 h2 => ?_⟩
 rw [hc] at h1
 by_cases e : i = 1
 ·subst e
  have e : o = j := Option.some.inj h1
  subst e
  exact h.symm
 ·have e2 : List.lookup i [(1, o)] = none := by
   show (match i == 1 with | true => some o | false => none) = none
   rw [beq_false_of_ne e]
  rw [e2] at h1; cases h1
end
@[reducible] noncomputable def b_whole : List TS := [.assign [(.tup [10, 11])] (.tuple [(.slice (.loc 1) (some (.loc 6)) (some (.loc 7))), (.slice (.loc 2) (some (.loc 8)) (some (.loc 9)))]),
 .assign [(.loc 12)] (.sub (.list [(.str (s "")), (.str (s "insert")), (.str (s "delete")), (.str (s "replace"))]) (.bin .Add (.ite (.cmp .NotEq (.loc 10) (.list [])) (.int 2) (.int 0)) (.ite (.cmp .NotEq (.loc 11) (.list [])) (.int 1) (.int 0)))),
 .ite (.bop .And [(.cmp .Eq (.loc 5) (.str (s "equal"))), (.cmp .Eq (.loc 10) (.loc 11)), (.cmp .NotEq (.loc 10) (.list []))]) [.assign [(.loc 12)] (.str (s "equal"))] [.ite (.cmp .NotEq (.sem (chkComp k_whole cd_whole_695_13)) (.list [])) [.ret (some (.bool false))] []],
 .ite (.bop .Or [(.cmp .NotEq (.loc 5) (.loc 12)), (.bop .And [(.cmp .NotEq (.loc 4) (.str (s ""))), (.cmp .Eq (.cmp .Eq (.loc 4) (.str (s "equal"))) (.cmp .Eq (.loc 5) (.str (s "equal"))))]), (.cmp .NotEq (.tuple [(.loc 6), (.loc 8)]) (.loc 3))]) [.ret (some (.bool false))] [],
 .assign [(.tup [3, 4])] (.tuple [(.tuple [(.bin .Add (.loc 6) (.call (.glob 0) [(.loc 10)])), (.bin .Add (.loc 8) (.call (.glob 0) [(.loc 11)]))]), (.loc 5)]),
 .ite (.cmp .NotEq (.loc 3) (.tuple [(.loc 7), (.loc 9)])) [.ret (some (.bool false))] []]
@[reducible] noncomputable def whL (cx ia ib : Nat) (i j : Int) (last : Str) (v5 v6 v7 v8 v9 v10 v11 v12 : Option V) : List (Option V) := [some (.ref cx 0), some (.ref ia 0), some (.ref ib 0), some (.tup [.int i, .int j]), some (.str last), v5, v6, v7, v8, v9, v10, v11, v12]
inductive WhI (cx ia ib : Nat) (H : AH) (xs ys : List Int) (codes : List T5) (t : Nat) : St → Prop
 | mk (i j : Int) (last : Str) (v5 v6 v7 v8 v9 v10 v11 v12 : Option V) (H' : AH) (sm : Same (fun _ => False) H H') (hw : WOk xs ys i j last (codes.drop t)) : WhI cx ia ib H xs ys codes t ⟨whL cx ia ib i j last v5 v6 v7 v8 v9 v10 v11 v12, H'⟩
section
variable {cx ia ib gx kx t : Nat} {H H' : AH} {codes : List T5} {i1 i2 j1 j2 : Int} {last w : Str} {g k : List Int} {kb : St → Prop} {kr : V → St → Prop}
theorem str_nn (g : List Int) : ((!(g.map V.int).isEmpty) = true) = (g ≠ []) := by cases g <;> simp
theorem whole_end (rm : Room 1 A) (lg : g.length < 1000) (lk : k.length < 1000) (e1 : i1 + (g.length : Int) = i2) (e2 : j1 + (k.length : Int) = j2) (hw : WOk xs ys i2 j2 w (codes.drop (t + 1)))
  (nl : last = s "" ∨ ¬ (last == s "equal") = (w == s "equal")) (sm : Same (fun _ => False) H H') (gg : H'.get gx 0 = some (.list (g.map V.int))) (gk : H'.get kx 0 = some (.list (k.map V.int))) :
  vcSs A (b_whole.drop 3) c ⟨whL cx ia ib i1 j1 last (some (.str w)) (some (.int i1)) (some (.int i2)) (some (.int j1)) (some (.int j2)) (some (.ref gx 0)) (some (.ref kx 0)) (some (.str w)), H'⟩ ⟨WhI cx ia ib H xs ys codes (t + 1), kb, WhI cx ia ib H xs ys codes (t + 1), kr⟩ := by
 have nt : ∀ a b : Int, ¬ (!(a == a && b == b)) = true := fun a b => by simp
 have fin : vcSs A (b_whole.drop 4) c ⟨whL cx ia ib i1 j1 last (some (.str w)) (some (.int i1)) (some (.int i2)) (some (.int j1)) (some (.int j2)) (some (.ref gx 0)) (some (.ref kx 0)) (some (.str w)), H'⟩ ⟨WhI cx ia ib H xs ys codes (t + 1), kb, WhI cx ia ib H xs ys codes (t + 1), kr⟩ := by
  subst e1 e2
  refine len_ints gg (Nat.lt_trans lg (by decide)) ?_
  refine len_ints gk (Nat.lt_trans lk (by decide)) ?_
  refine ne_tup rm.hu ?_
  exact sel_f (nt _ _) (.mk _ _ w _ _ _ _ _ _ _ _ H' sm hw)
 refine sel_f (fun h => h rfl) ?_
 refine sel_d (fun h1 => ?_) (fun h1 => ?_)
 ·refine eq_ss (eq_ss (sel_f (fun h => ?_) ?_))
  ·exact nl.elim h1 fun h2 => h2 h
  ·exact ne_tup rm.hu (sel_f (nt _ _) fin)
 ·exact ne_tup rm.hu (sel_f (nt _ _) fin)
theorem whole_mid (FF : Fit k_whole c) (rm : Room 1 A) (lg : g.length < 1000) (lk : k.length < 1000) (e1 : i1 + (g.length : Int) = i2) (e2 : j1 + (k.length : Int) = j2) (hw : WOk xs ys i2 j2 w (codes.drop (t + 1)))
  (hcase : CodeOk last w g k) (sm : Same (fun _ => False) H H') (gg : H'.get gx 0 = some (.list (g.map V.int))) (gk : H'.get kx 0 = some (.list (k.map V.int))) {d : Str} (hd : d = due g k) :
  vcSs A (b_whole.drop 2) c ⟨whL cx ia ib i1 j1 last (some (.str w)) (some (.int i1)) (some (.int i2)) (some (.int j1)) (some (.int j2)) (some (.ref gx 0)) (some (.ref kx 0)) (some (.str d)), H'⟩ ⟨WhI cx ia ib H xs ys codes (t + 1), kb, WhI cx ia ib H xs ys codes (t + 1), kr⟩ := by
 cases hcase with
 | eq hw1 hgk hgn hl =>
  subst hw1
  refine sel_t rfl ?_
  refine eq_list rm.hu gg gk (sel_t (by rw [hgk]; exact beq_self_eq_true _) ?_)
  refine ne_nil rm.hu (ga gg) ge (sel_t (by rw [str_nn]; exact hgn) ?_)
  exact whole_end rm lg lk e1 e2 hw (.inr fun h => hl (beq_iff_eq.mp (h.trans ee))) sm.app (ga gg) (ga gk)
 | ed hw1 hwn hnc hl =>
  have hwe := ne_e w g k hw1
  rw [← hw1] at hd
  subst hd
  refine sel_f (fun e => by rw [e, ee] at hwe; exact Bool.noConfusion hwe) ?_
  refine fun e he => ev_comp FF rm.handled ?_ he
  refine .mk (g.map V.int) 0 (isIn k) (sq_list gg) (by rw [List.length_map]; exact Nat.le_of_lt (Nat.lt_trans lg (by decide))) ?_ ?_
  ·refine fun c' hw' h1 loc Y cap hY => ?_
   obtain ⟨n, hn', e⟩ := List.mem_map.mp hY
   subst e
   refine cap1_e rfl rfl (o := 11) (x1 := some (.ref kx 0)) rfl cap (P := fun loc => vcT1 c' A cd_whole_695_13.tg (V.int n) ⟨loc, _⟩ _) fun x0 => ?_
   refine in_list gk (sel_d (fun hb => ?_) (fun hb => ?_))
   ·exact ⟨isIn_pos hb, rfl, cap1_i rfl rfl rfl⟩
   ·exact ⟨isIn_neg (Bool.not_eq_true _ ▸ hb), rfl, cap1_i rfl rfl rfl⟩
  ·rw [isIn_map, show g.filter k.contains = [] from List.filter_eq_nil_iff.mpr fun z hz => by simpa using hnc z hz]
   refine ne_nil rm.hu (ga ge) ge (sel_f (by decide) ?_)
   exact whole_end rm lg lk e1 e2 hw (hl.imp id fun h e => by rw [h, ee, hwe] at e; exact Bool.noConfusion e) sm.app.app (ga (ga gg)) (ga (ga gk))
theorem whole_word (FF : Fit k_whole c) (rm : Room 1 A) (lg : g.length < 1000) (lk : k.length < 1000) (e1 : i1 + (g.length : Int) = i2) (e2 : j1 + (k.length : Int) = j2) (hw : WOk xs ys i2 j2 w (codes.drop (t + 1)))
  (hcase : CodeOk last w g k) (sm : Same (fun _ => False) H H') (gg : H'.get gx 0 = some (.list (g.map V.int))) (gk : H'.get kx 0 = some (.list (k.map V.int))) {v12 : Option V} :
  vcSs A (b_whole.drop 1) c ⟨whL cx ia ib i1 j1 last (some (.str w)) (some (.int i1)) (some (.int i2)) (some (.int j1)) (some (.int j2)) (some (.ref gx 0)) (some (.ref kx 0)) v12, H'⟩ ⟨WhI cx ia ib H xs ys codes (t + 1), kb, WhI cx ia ib H xs ys codes (t + 1), kr⟩ := by
 refine ne_nil rm.hu (ga (ga gg)) ge ?_
 have nx : ∀ {hg : Prop}, hg = hg → True := fun _ => trivial
 refine sel_d (fun hg => ?_) (fun hg => ?_)
 ·rw [str_nn] at hg
  refine ne_nil rm.hu (ga (ga (ga gk))) ge (sel_d (fun hk => ?_) (fun hk => ?_))
  ·rw [str_nn] at hk
   exact item_list (ga (ga ge)) (by decide) (by decide) rfl (whole_mid FF rm lg lk e1 e2 hw hcase sm.app.app.app (ga (ga (ga gg))) (ga (ga (ga gk))) ((if_neg hg).trans (if_neg hk)).symm)
  ·rw [str_nn] at hk
   exact item_list (ga (ga ge)) (by decide) (by decide) rfl (whole_mid FF rm lg lk e1 e2 hw hcase sm.app.app.app (ga (ga (ga gg))) (ga (ga (ga gk))) ((if_neg hg).trans (if_pos (Decidable.not_not.mp hk))).symm)
 ·rw [str_nn] at hg
  refine ne_nil rm.hu (ga (ga (ga gk))) ge (sel_d (fun hk => ?_) (fun hk => ?_))
  ·rw [str_nn] at hk
   exact item_list (ga (ga ge)) (by decide) (by decide) rfl (whole_mid FF rm lg lk e1 e2 hw hcase sm.app.app.app (ga (ga (ga gg))) (ga (ga (ga gk))) ((if_pos (Decidable.not_not.mp hg)).trans (if_neg hk)).symm)
  ·rw [str_nn] at hk
   exact item_list (ga (ga ge)) (by decide) (by decide) rfl (whole_mid FF rm lg lk e1 e2 hw hcase sm.app.app.app (ga (ga (ga gg))) (ga (ga (ga gk))) ((if_pos (Decidable.not_not.mp hg)).trans (if_pos (Decidable.not_not.mp hk))).symm)
end
theorem whole_vc {H : AH} {kn kb kc : St → Prop} {kr : V → St → Prop} {cx ia ib : Nat} {codes : List T5} (G : Good c) (FF : Fit k_whole c) (rm : Room 1 A) (gc : H.get cx 0 = some (.list (codes.map cdV))) (ga0 : H.get ia 0 = some (.list (xs.map .int))) (gb : H.get ib 0 = some (.list (ys.map .int))) (la : xs.length < 1000) (lb : ys.length < 1000)
  (hw : WOk xs ys 0 0 (s "") codes) (q : ∀ loc H', Same (fun _ => False) H H' → kr (.bool true) ⟨loc, H'⟩) :
  vcSs A t_whole c ⟨[some (.ref cx 0), some (.ref ia 0), some (.ref ib 0), none, none, none, none, none, none, none, none, none, none], H⟩ ⟨kn, kb, kc, kr⟩ := by
 have kp : ∀ {H' : AH} {j : Nat} {o : O}, Same (fun _ => False) H H' → H.get j 0 = some o → H'.get j 0 = some o := fun sm => sm.2 _ _ _ (fun h => h)
 refine .mk _ 0 (WhI cx ia ib H xs ys codes) (sq_list gc) (.mk 0 0 (s "") none none none none none none none none H Same.refl hw) (fun σ' I => ?_) (fun t σ' Y I hj => ?_)
 ·cases I with
  | mk i j last v5 v6 v7 v8 v9 v10 v11 v12 H4 sm4 hw4 =>
  refine ⟨sq_list (kp sm4 gc), ?_⟩
  rw [List.length_map, List.drop_length] at hw4
  obtain ⟨e, e'⟩ := hw4
  subst e e'
  refine len_ints (kp sm4 ga0) (Nat.lt_trans la (by decide)) ?_
  refine len_ints (kp sm4 gb) (Nat.lt_trans lb (by decide)) ?_
  refine eq_tup rm.hu ?_
  rw [beq_self_eq_true, beq_self_eq_true]
  exact q _ H4 sm4
 ·cases I with
  | mk i j last v5 v6 v7 v8 v9 v10 v11 v12 H4 sm4 hw4 =>
  refine ⟨sq_list (kp sm4 gc), fun h0 ft => ?_⟩
  rw [List.getElem?_map] at hj
  obtain ⟨u, hu, e⟩ := Option.map_eq_some_iff.mp hj
  subst e
  obtain ⟨htl, e⟩ := List.getElem?_eq_some_iff.mp hu
  rw [List.drop_eq_getElem_cons htl, e, WOk] at hw4
  obtain ⟨⟨e1, e2, a0, b0, a1, a2, b1, b2, hcase⟩, hw5⟩ := hw4
  subst e1 e2
  have gx4 := kp sm4 ga0
  have gy4 := kp sm4 gb
  refine fun p1 => slice_xs gx4 la a0 (Int.le_trans a1 a2) (Int.le_trans a0 a1) a2 ?_
  refine fun p2 => slice_xs (ga gy4) lb b0 (Int.le_trans b1 b2) (Int.le_trans b0 b1) b2 ?_
  exact whole_word (FF.at h0 ft) rm (cut_lt la) (cut_lt lb) (cut_sum a0 a1 a2) (cut_sum b0 b1 b2) hw5 hcase sm4.app.app (ga ge) ge
theorem call_whole {l₀ : List (Option V)} {H₀ : AH} {cx ia ib : Nat} {codes : List T5} (G : Good c) (rm : Room 2 A) (gc : H₀.get cx 0 = some (.list (codes.map cdV))) (ga0 : H₀.get ia 0 = some (.list (xs.map .int))) (gb : H₀.get ib 0 = some (.list (ys.map .int))) (la : xs.length < 1000) (lb : ys.length < 1000)
  (hw : WOk xs ys 0 0 (s "") codes) (q : ∀ H', Same (fun _ => False) H₀ H' → Q (.bool true) ⟨l₀, H'⟩) : Ca c A ⟨l₀, H₀⟩ (.obj 389) [.ref cx 0, .ref ia 0, .ref ib 0] Q := by
 refine (call_code (Ys := [.ref cx 0, .ref ia 0, .ref ib 0]) G (rm.less (by decide)) (ok_whole _) (bd3 G.top fun W v0 v1 v2 r0 r1 r2 => ?_) (Nat.le_of_ble_eq_true rfl) fun c' F' G' hw' L => ?_).ca
 ·exact ⟨[v0, v1, v2], fun S => by kernel_rfl, VRs.cons r0 (VRs.cons r1 (VRs.cons r2 (VRs.nil _)))⟩
 ·exact whole_vc G' F' rm.deeper gc ga0 gb la lb hw fun loc => q
end
end
section
section
variable {xs ys : List Int}
theorem cut_get {α : Type} {l : List α} {a b i : Nat} : (cut l a b)[i]? = if i < b - a then l[a + i]? else none := by
 unfold cut
 rw [List.getElem?_take]
 split
 ·rw [List.getElem?_drop]
 ·rfl
theorem mem_cut {α : Type} {l : List α} {a b : Nat} {z : α} (h : z ∈ cut l a b) : ∃ i, a ≤ i ∧ i < b ∧ l[i]? = some z := by
 obtain ⟨i, e⟩ := List.mem_iff_getElem?.mp h
 rw [cut_get] at e
 by_cases c : i < b - a
 ·rw [if_pos c] at e
  exact ⟨a + i, Nat.le_add_right .., Nat.add_comm i a ▸ Nat.add_lt_of_lt_sub c, e⟩
 ·rw [if_neg c] at e; cases e
theorem cut_neI {α : Type} {l : List α} {a b : Int} (h0 : 0 ≤ a) (h1 : a ≤ b) (h2 : b ≤ l.length) : cut l a.toNat b.toNat = [] ↔ ¬ a < b := by
 have e := cut_lenI h0 h1 h2
 rw [← List.length_eq_zero_iff]
 lia
theorem cut_same {i j k : Int} (i0 : 0 ≤ i) (j0 : 0 ≤ j) (k0 : 0 ≤ k) (h : MatchAt xs ys i j k) : cut xs i.toNat (i + k).toNat = cut ys j.toNat (j + k).toNat := by
 rw [Int.toNat_add i0 k0, Int.toNat_add j0 k0]
 refine List.ext_getElem? fun n => ?_
 rw [cut_get, cut_get, Nat.add_sub_cancel_left, Nat.add_sub_cancel_left]
 by_cases c : n < k.toNat
 ·rw [if_pos c, if_pos c]
  have := h n (Int.natCast_nonneg n) (Int.lt_toNat.mp c)
  rw [Int.toNat_add i0 (Int.natCast_nonneg n), Int.toNat_add j0 (Int.natCast_nonneg n)] at this
  exact this
 ·rw [if_neg c, if_neg c]
theorem opE_ok {a b : Int} {t : T3} (a0 : 0 ≤ a) (b0 : 0 ≤ b) (h1 : a ≤ t.1) (h2 : b ≤ t.2.1) (h3 : t.1 ≤ xs.length) (h4 : t.2.1 ≤ ys.length) (nc : NoCom xs ys a t.1 b t.2.1) (hne : ¬ (a = t.1 ∧ b = t.2.1)) {last : Str} (hl : last = s "" ∨ last = s "equal") :
  ∃ w, opE a b t = [(w, a, t.1, b, t.2.1)] ∧ w ≠ s "equal" ∧ CodeOk last w (cut xs a.toNat t.1.toNat) (cut ys b.toNat t.2.1.toNat) := by
 have hnc : ∀ z ∈ cut xs a.toNat t.1.toNat, z ∉ cut ys b.toNat t.2.1.toNat := fun z hz hz' => by
  obtain ⟨p, p1, p2, p3⟩ := mem_cut hz
  obtain ⟨q, q1, q2, q3⟩ := mem_cut hz'
  exact nc p q (Int.toNat_le.mp p1) (Int.lt_toNat.mp p2) (Int.toNat_le.mp q1) (Int.lt_toNat.mp q2) (p3.trans q3.symm)
 have e1 := cut_neI a0 h1 h3
 have e2 := cut_neI b0 h2 h4
 have fin : ∀ w, opE a b t = [(w, a, t.1, b, t.2.1)] → w = due (cut xs a.toNat t.1.toNat) (cut ys b.toNat t.2.1.toNat) → (w ≠ s "" ∧ w ≠ s "equal") → ∃ w, opE a b t = [(w, a, t.1, b, t.2.1)] ∧ w ≠ s "equal" ∧ CodeOk last w (cut xs a.toNat t.1.toNat) (cut ys b.toNat t.2.1.toNat) :=
  fun w h h' n => ⟨w, h, n.2, .ed h' n.1 hnc hl⟩
 unfold due at fin
 generalize cut xs a.toNat t.1.toNat = g at *
 generalize cut ys b.toNat t.2.1.toNat = k at *
 by_cases c1 : a < t.1
 ·rw [if_neg fun h => e1.mp h c1] at fin
  by_cases c2 : b < t.2.1
  ·rw [if_neg fun h => e2.mp h c2] at fin
   exact fin _ (if_pos ⟨c1, c2⟩) rfl (by decide +kernel)
  ·rw [if_pos (e2.mpr c2)] at fin
   exact fin _ ((if_neg fun h => c2 h.2).trans (if_pos c1)) rfl (by decide +kernel)
 ·rw [if_pos (e1.mpr c1)] at fin
  by_cases c2 : b < t.2.1
  ·rw [if_neg fun h => e2.mp h c2] at fin
   exact fin _ ((if_neg fun h => c1 h.1).trans ((if_neg c1).trans (if_pos c2))) rfl (by decide +kernel)
  ·exact absurd ⟨Int.le_antisymm h1 (Int.not_lt.mp c1), Int.le_antisymm h2 (Int.not_lt.mp c2)⟩ hne
theorem opE_nil {a b : Int} {t : T3} (h : a = t.1 ∧ b = t.2.1) : opE a b t = [] := by
 unfold opE; rw [h.1, h.2, if_neg (fun h => Int.lt_irrefl _ h.1), if_neg (Int.lt_irrefl _), if_neg (Int.lt_irrefl _)]
theorem Nad.le {t : T3} {r : List T3} {st : Bool} {a b : Int} (h : Nad xs ys st a b (t :: r)) : t.1 ≤ xs.length ∧ t.2.1 ≤ ys.length ∧ (1 ≤ t.2.2 → t.1 + t.2.2 ≤ xs.length ∧ t.2.1 + t.2.2 ≤ ys.length) := by
 induction r generalizing t st a b with
 | nil =>
  cases h.2.2.2 with
  | inl h => rw [h.2]; exact ⟨Int.le_refl _, Int.le_refl _, fun h => absurd (show (1 : Int) ≤ 0 from h) (by decide)⟩
  | inr h => exact h.2.2.2.elim
 | cons v l ih =>
  cases h.2.2.2 with
  | inl h => cases h.1
  | inr h =>
   have k := ih h.2.2.2
   have g := h.2.2.2
   have k0 : (0 : Int) ≤ t.2.2 := Int.le_of_lt h.1
   have g1 := Int.le_trans g.1 k.1
   have g2 := Int.le_trans g.2.1 k.2.1
   exact ⟨Int.le_trans (Int.le_add_of_nonneg_right k0) g1, Int.le_trans (Int.le_add_of_nonneg_right k0) g2, fun _ => ⟨g1, g2⟩⟩
theorem nad_wok {na : List T3} {st : Bool} {a b : Int} {last : Str} (a0 : 0 ≤ a) (b0 : 0 ≤ b) (hN : Nad xs ys st a b na) (hlast : last = if st then s "" else s "equal") : WOk xs ys a b last (ops a b na) := by
 induction na generalizing st a b last with
 | nil => exact hN.elim
 | cons t r ih =>
  have ln := hN.le
  have h1 := hN.1
  have h2 := hN.2.1
  have h3 := hN.2.2.1
  have hl : last = s "" ∨ last = s "equal" := by
   cases st with
   | true => exact .inl hlast
   | false => exact .inr hlast
  rw [ops]
  cases hN.2.2.2 with
  | inl h =>
   obtain ⟨e, h5⟩ := h
   subst e h5
   rw [if_neg fun h => h rfl, List.nil_append, ops, List.append_nil]
   by_cases c : a = xs.length ∧ b = ys.length
   ·rw [opE_nil c]; exact c
   ·obtain ⟨w, e, w1, ok⟩ := opE_ok (t := ((xs.length : Int), (ys.length : Int), 0)) a0 b0 h1 h2 (Int.le_refl _) (Int.le_refl _) h3 c hl
    rw [e]
    exact ⟨⟨rfl, rfl, a0, b0, h1, Int.le_refl _, h2, Int.le_refl _, ok⟩, rfl, rfl⟩
  | inr h =>
   obtain ⟨k1, k2, k3, k4⟩ := h
   rw [if_pos (Int.ne_of_gt k1)]
   obtain ⟨m1, m2⟩ := ln.2.2 k1
   have k0 : (0 : Int) ≤ t.2.2 := Int.le_of_lt k1
   have t0 := Int.le_trans a0 h1
   have u0 := Int.le_trans b0 h2
   have rest := ih (last := s "equal") (Int.add_nonneg t0 k0) (Int.add_nonneg u0 k0) k4 rfl
   have tl : t.1 < t.1 + t.2.2 := Int.lt_add_of_pos_right _ k1
   have ul : t.2.1 ≤ t.2.1 + t.2.2 := Int.le_add_of_nonneg_right k0
   have eqc : ∀ last', last' ≠ s "equal" → WOk xs ys t.1 t.2.1 last' ([(s "equal", t.1, t.1 + t.2.2, t.2.1, t.2.1 + t.2.2)] ++ ops (t.1 + t.2.2) (t.2.1 + t.2.2) r) := fun last' hne =>
    ⟨⟨rfl, rfl, t0, u0, Int.le_of_lt tl, m1, ul, m2, .eq rfl (cut_same t0 u0 k0 k2) (fun e => (cut_neI t0 (Int.le_of_lt tl) m1).mp e tl) hne⟩, rest⟩
   by_cases c : a = t.1 ∧ b = t.2.1
   ·rw [opE_nil c, List.nil_append, c.1, c.2]
    have hst : st = true := k3.resolve_right fun h => h c
    exact eqc last (by rw [hlast, hst]; decide +kernel)
   ·obtain ⟨w, e, w1, ok⟩ := opE_ok a0 b0 h1 h2 ln.1 ln.2.1 h3 c hl
    rw [e]
    exact ⟨⟨rfl, rfl, a0, b0, h1, ln.1, h2, ln.2.1, ok⟩, eqc w w1⟩
noncomputable def edts (codes : List T5) : List T4 := (codes.filter fun x => !(x.1 == s "equal")).map (·.2)
structure EdC (xs ys : List Int) (i j : Int) (e : T4) : Prop where
 i0 : 0 ≤ i
 j0 : 0 ≤ j
 h1 : i ≤ e.1
 h2 : e.1 ≤ e.2.1
 h3 : e.2.1 ≤ xs.length
 h4 : j ≤ e.2.2.1
 h5 : e.2.2.1 ≤ e.2.2.2
 h6 : e.2.2.2 ≤ ys.length
 hc : cut xs i.toNat e.1.toNat = cut ys j.toNat e.2.2.1.toNat
noncomputable def Ed (xs ys : List Int) : Int → Int → List T4 → Prop
 | i, j, [] => 0 ≤ i ∧ i ≤ xs.length ∧ 0 ≤ j ∧ j ≤ ys.length ∧ xs.drop i.toNat = ys.drop j.toNat
 | i, j, e :: r => EdC xs ys i j e ∧ Ed xs ys e.2.1 e.2.2.2 r
theorem cut_two {α : Type} {l : List α} {a b : Nat} (h1 : a ≤ b) : l.drop b = (l.drop a).drop (b - a) := by rw [List.drop_drop, Nat.add_sub_cancel' h1]
theorem cut_app {α : Type} {l : List α} {a b d : Int} (h1 : a ≤ b) (h2 : b ≤ d) : cut l a.toNat b.toNat ++ cut l b.toNat d.toNat = cut l a.toNat d.toNat := by
 have h1 := Int.toNat_le_toNat h1
 have h2 := Int.toNat_le_toNat h2
 unfold cut
 rw [cut_two h1, ← List.take_add, Nat.add_comm, Nat.sub_add_sub_cancel h2 h1]
theorem cut_drop {α : Type} {l : List α} {a b : Int} (h1 : a ≤ b) : cut l a.toNat b.toNat ++ l.drop b.toNat = l.drop a.toNat := by
 unfold cut
 rw [cut_two (Int.toNat_le_toNat h1), List.take_append_drop]
theorem cut_nil {α : Type} {l : List α} {a : Nat} : cut l a a = [] := by unfold cut; rw [Nat.sub_self, List.take_zero]
theorem wok_ed {codes : List T5} {i j i0 j0 : Int} {last : Str} (h1 : 0 ≤ i0) (h2 : 0 ≤ j0) (h3 : i0 ≤ i) (h4 : j0 ≤ j) (g1 : i ≤ xs.length) (g2 : j ≤ ys.length) (h5 : cut xs i0.toNat i.toNat = cut ys j0.toNat j.toNat) (hw : WOk xs ys i j last codes) : Ed xs ys i0 j0 (edts codes) := by
 induction codes generalizing i j i0 j0 last with
 | nil =>
  obtain ⟨e, e'⟩ := hw
  subst e e'
  rw [Int.toNat_natCast, Int.toNat_natCast, cut_end, cut_end] at h5
  exact ⟨h1, h3, h2, h4, h5⟩
 | cons x r ih =>
  obtain ⟨⟨q1, q2, a0, b0, a1, a2, b1, b2, hc⟩, hr⟩ := hw
  subst q1 q2
  cases hc with
  | eq hw he _ _ =>
   have e1 : edts (x :: r) = edts r := by unfold edts; rw [List.filter_cons_of_neg (by rw [hw, ee]; decide)]
   rw [e1]
   refine ih h1 h2 (Int.le_trans h3 a1) (Int.le_trans h4 b1) a2 b2 ?_ hr
   rw [← cut_app h3 a1, ← cut_app h4 b1, h5, he]
  | ed hw _ _ _ =>
   have e1 : edts (x :: r) = x.2 :: edts r := by
    unfold edts
    rw [List.filter_cons_of_pos (by rw [ne_e _ _ _ hw]; rfl)]
    rfl
   rw [e1]
   exact ⟨⟨h1, h2, h3, a1, a2, h4, b1, b2, h5⟩, ih (Int.le_trans a0 a1) (Int.le_trans b0 b1) (Int.le_refl _) (Int.le_refl _) a2 b2 (by rw [cut_nil, cut_nil]) hr⟩
noncomputable def grw (e : T4) : Int := e.2.2.2 - e.2.2.1 - (e.2.1 - e.1)
noncomputable def Row (xs ys : List Int) (m : Nat → Bool) : Nat → Int → List T4 → List Int
 | _, i, [] => xs.drop i.toNat
 | t, i, e :: r => cut xs i.toNat e.1.toNat ++ ((if m t then cut ys e.2.2.1.toNat e.2.2.2.toNat else cut xs e.1.toNat e.2.1.toNat) ++ Row xs ys m (t + 1) e.2.1 r)
noncomputable def Off (m : Nat → Bool) : Nat → List T4 → Int
 | _, [] => 0
 | t, e :: r => (if m t then grw e else 0) + Off m (t + 1) r
theorem Row.congr {m m' : Nat → Bool} (E : List T4) (t : Nat) (i : Int) (h : ∀ c, t ≤ c → m c = m' c) : Row xs ys m t i E = Row xs ys m' t i E := by
 induction E generalizing t i with
 | nil => rfl
 | cons e r ih => rw [Row, Row, h t (Nat.le_refl _), ih (t + 1) e.2.1 fun c hc => h c (Nat.le_of_lt hc)]
theorem Row.none {m : Nat → Bool} (E : List T4) (t : Nat) (i j : Int) (h : Ed xs ys i j E) (hm : ∀ c, m c = false) : Row xs ys m t i E = xs.drop i.toNat := by
 induction E generalizing t i j with
 | nil => rfl
 | cons e r ih => rw [Row, hm t, if_neg Bool.false_ne_true, ih (t + 1) e.2.1 e.2.2.2 h.2, cut_drop h.1.h2, cut_drop h.1.h1]
theorem Row.all {m : Nat → Bool} (E : List T4) (t : Nat) (i j : Int) (h : Ed xs ys i j E) (hm : ∀ c, t ≤ c → c < t + E.length → m c = true) : Row xs ys m t i E = ys.drop j.toNat := by
 induction E generalizing t i j with
 | nil => exact h.2.2.2.2
 | cons e r ih => rw [Row, hm t (Nat.le_refl _) (Nat.lt_add_of_pos_right (Nat.succ_pos _)), if_pos rfl, ih (t + 1) e.2.1 e.2.2.2 h.2 fun c h1 h2 => hm c (Nat.le_of_lt h1) (by rw [List.length_cons]; lia), h.1.hc, cut_drop h.1.h5, cut_drop h.1.h4]
noncomputable def pieceI (xs ys : List Int) (b : Bool) (e : T4) : List Int := if b then cut ys e.2.2.1.toNat e.2.2.2.toNat else cut xs e.1.toNat e.2.1.toNat
theorem piece_len {b : Bool} {i j : Int} {e : T4} (C : EdC xs ys i j e) : ((pieceI xs ys b e).length : Int) = (if b then grw e else 0) + (e.2.1 - e.1) := by
 unfold pieceI grw
 cases b with
 | true =>
  rw [if_pos rfl, if_pos rfl, cut_lenI (Int.le_trans C.j0 C.h4) C.h5 C.h6]
  exact (Int.sub_add_cancel ..).symm
 | false =>
  rw [if_neg Bool.false_ne_true, if_neg Bool.false_ne_true, cut_lenI (Int.le_trans C.i0 C.h1) C.h2 C.h3]
  exact (Int.zero_add _).symm
theorem gap_len {i j : Int} {e : T4} (C : EdC xs ys i j e) : ((cut xs i.toNat e.1.toNat).length : Int) = e.1 - i := cut_lenI C.i0 C.h1 (Int.le_trans C.h2 C.h3)
structure RowAt (xs ys : List Int) (m : Nat → Bool) (e : T4) (E1 E2 : List T4) (t : Nat) (i : Int) (pre post : List Int) : Prop where
 len : ((pre.length : Nat) : Int) = e.1 - i + Off m t E1
 row : ∀ m' : Nat → Bool, (∀ c, c ≠ t + E1.length → m' c = m c) → Row xs ys m' t i (E1 ++ e :: E2) = pre ++ (pieceI xs ys (m' (t + E1.length)) e ++ post)
theorem sum4 {a b d i o g : Int} : a - i + (g + (b - a) + (d - b + o)) = d - i + (g + o) := by lia
theorem Row.at {m : Nat → Bool} {e : T4} {E2 E1 : List T4} {t : Nat} {i j : Int} (h : Ed xs ys i j (E1 ++ e :: E2)) : ∃ pre post, RowAt xs ys m e E1 E2 t i pre post := by
 induction E1 generalizing t i j with
 | nil =>
  refine ⟨cut xs i.toNat e.1.toNat, Row xs ys m (t + 1) e.2.1 E2, ?_, fun m' hm => ?_⟩
  ·rw [gap_len h.1, Off, Int.add_zero]
  ·rw [List.nil_append, Row, Row.congr E2 (t + 1) e.2.1 fun c hc => hm c (Nat.ne_of_gt hc)]; rfl
 | cons a E1 ih =>
  obtain ⟨pre, post, R⟩ := ih (t := t + 1) h.2
  refine ⟨cut xs i.toNat a.1.toNat ++ (pieceI xs ys (m t) a ++ pre), post, ?_, fun m' hm => ?_⟩
  ·rw [List.length_append, List.length_append, Int.natCast_add, Int.natCast_add, gap_len h.1, piece_len h.1, R.len, Off]
   exact sum4
  ·rw [List.length_cons, Nat.add_comm E1.length 1, ← Nat.add_assoc] at hm ⊢
   rw [List.cons_append, Row, hm t (Nat.ne_of_lt (Nat.lt_add_right _ (Nat.lt_succ_self t))), R.row m' hm]
   exact ((List.append_assoc ..).trans (congrArg _ (List.append_assoc ..))).symm
theorem Off.snoc {m : Nat → Bool} (e : T4) (E : List T4) (t : Nat) : Off m t (E ++ [e]) = Off m t E + if m (t + E.length) then grw e else 0 := by
 induction E generalizing t with
 | nil => rw [List.nil_append, Off, Off, Int.add_comm]; rfl
 | cons a E ih => rw [List.cons_append, Off, Off, ih (t + 1), List.length_cons, Nat.add_comm E.length 1, ← Nat.add_assoc, Int.add_assoc]
theorem Off.sum {m : Nat → Bool} (E : List T4) (k : Nat) (h : k ≤ E.length) : Off m 0 (E.take k) = (((List.range k).filter m).map fun c => grw (E.getD c (0, 0, 0, 0))).sum := by
 induction k with
 | zero => rfl
 | succ k ih =>
  have hk : k < E.length := h
  rw [List.take_add_one, List.getElem?_eq_getElem hk, Option.toList_some, Off.snoc, ih (Nat.le_of_lt h), List.range_succ, List.filter_append, List.map_append, List.sum_append, List.length_take, Nat.zero_add, Nat.min_eq_left (Nat.le_of_lt h)]
  refine congrArg _ ?_
  cases c : m k with
  | true => rw [List.filter_cons_of_pos c]; simp [hk]
  | false => rw [List.filter_cons_of_neg (Bool.eq_false_iff.mp c)]; rfl
end
end
section
theorem filter_all {mk : List Int} {p : Int → Bool} (h : ∀ z ∈ mk, p z = true) : mk.filter p = mk := List.filter_eq_self.mpr h
theorem filter_no {mk : List Int} {p : Int → Bool} (h : ∀ z ∈ mk, p z = false) : mk.filter p = [] := List.filter_eq_nil_iff.mpr fun z hz => Bool.eq_false_iff.mp (h z hz)
theorem below_split {mk : List Int} (k : Int) (h : mk.Pairwise (· < ·)) : mk.take (below mk k) = mk.filter (fun c => decide (c < k)) ∧ mk.drop (below mk k) = mk.filter (fun c => decide (k ≤ c)) := by
 induction mk with
 | nil => exact ⟨rfl, rfl⟩
 | cons a l ih =>
  obtain ⟨h1, h2⟩ := List.pairwise_cons.mp h
  have ih := ih h2
  unfold below at ih ⊢
  by_cases c : a < k
  ·rw [List.filter_cons_of_pos (p := fun c => decide (c < k)) (decide_eq_true c), List.filter_cons_of_neg (p := fun c => decide (k ≤ c)) (fun h => Int.not_le.mpr c (of_decide_eq_true h))]
   exact ⟨congrArg (a :: ·) ih.1, ih.2⟩
  ·have ge : ∀ z ∈ a :: l, k ≤ z := fun z hz => by
    cases hz with
    | head => exact Int.not_lt.mp c
    | tail _ hz => exact Int.le_trans (Int.not_lt.mp c) (Int.le_of_lt (h1 z hz))
   rw [filter_no fun z hz => decide_eq_false (Int.not_lt.mpr (ge z hz)), filter_all fun z hz => decide_eq_true (ge z hz)]
   exact ⟨rfl, rfl⟩
theorem lt_f {mk : List Int} {k z : Int} : z ∈ mk.filter (fun c => decide (c < k)) ↔ z ∈ mk ∧ z < k := by rw [List.mem_filter, decide_eq_true_iff]
theorem ge_f {mk : List Int} {k z : Int} : z ∈ mk.filter (fun c => decide (k ≤ c)) ↔ z ∈ mk ∧ k ≤ z := by rw [List.mem_filter, decide_eq_true_iff]
theorem lt_ne {a b : Int} : a ≠ b ↔ a < b ∨ b < a := Int.ne_iff_lt_or_gt
theorem ins_sorted {mk : List Int} {k : Int} (h : mk.Pairwise (· < ·)) (hk : k ∉ mk) : (mk.take (below mk k) ++ k :: mk.drop (below mk k)).Pairwise (· < ·) ∧ ∀ c, c ∈ mk.take (below mk k) ++ k :: mk.drop (below mk k) ↔ c = k ∨ c ∈ mk := by
 obtain ⟨e1, e2⟩ := below_split k h
 rw [e1, e2]
 constructor
 ·refine List.pairwise_append.mpr ⟨h.filter _, List.pairwise_cons.mpr ⟨fun z hz => ?_, h.filter _⟩, fun x hx y hy => ?_⟩
  ·have q := ge_f.mp hz
   exact (lt_ne.mp fun e : k = z => hk (e ▸ q.1)).resolve_right (Int.not_lt.mpr q.2)
  ·have x := lt_f.mp hx
   cases hy with
   | head => exact x.2
   | tail _ q => exact Int.lt_of_lt_of_le x.2 (ge_f.mp q).2
 ·intro c
  rw [List.mem_append, List.mem_cons, lt_f, ge_f]
  constructor
  ·exact fun h => h.elim (fun h => .inr h.1) fun h => h.imp id (·.1)
  ·refine fun h => h.elim (fun h => .inr (.inl h)) fun a => (Int.lt_or_le c k).elim (fun q => .inl ⟨a, q⟩) fun q => .inr (.inr ⟨a, q⟩)
theorem del_sorted {mk : List Int} {k : Int} (h : mk.Pairwise (· < ·)) : (mk.take (below mk k) ++ mk.drop (below mk k + 1)).Pairwise (· < ·) ∧ (k ∈ mk → ∀ c, c ∈ mk.take (below mk k) ++ mk.drop (below mk k + 1) ↔ c ≠ k ∧ c ∈ mk) := by
 obtain ⟨e1, e2⟩ := below_split k h
 rw [e1, ← List.drop_drop, e2]
 have hs : (mk.filter (fun c => decide (k ≤ c))).Pairwise (· < ·) := h.filter _
 have gf := fun z => ge_f (mk := mk) (k := k) (z := z)
 generalize mk.filter (fun c => decide (k ≤ c)) = g at hs gf ⊢
 constructor
 ·exact List.pairwise_append.mpr ⟨h.filter _, hs.sublist (List.drop_sublist ..), fun x hx y hy => Int.lt_of_lt_of_le (lt_f.mp hx).2 ((gf y).mp (List.mem_of_mem_drop hy)).2⟩
 ·intro hk c
  have hkm : k ∈ g := (gf k).mpr ⟨hk, Int.le_refl _⟩
  cases g with
  | nil => cases hkm
  | cons a r =>
   have hs1 := (List.pairwise_cons.mp hs).1
   have ha := ((gf a).mp (.head _)).2
   have e : k = a := (List.mem_cons.mp hkm).resolve_right fun q => Int.not_lt.mpr ha (hs1 k q)
   subst e
   rw [List.drop_succ_cons, List.drop_zero, List.mem_append, lt_f, lt_ne]
   have gc := gf c
   rw [List.mem_cons] at gc
   constructor
   ·exact fun h => h.elim (fun h => ⟨.inl h.2, h.1⟩) fun q => ⟨.inr (hs1 c q), (gc.mp (.inr q)).1⟩
   ·exact fun h => h.1.elim (fun q => .inl ⟨h.2, q⟩) fun q => .inr ((gc.mpr ⟨h.2, Int.le_of_lt q⟩).resolve_left (Int.ne_of_gt q))
theorem perm_sum {l l' : List Int} (h : l.Perm l') : l.sum = l'.sum := by
 induction h with
 | nil => rfl
 | cons x _ ih => simp [ih]
 | swap x y l => simp; grind
 | trans _ _ a b => exact a.trans b
noncomputable def inM (mk : List Int) (c : Nat) : Bool := decide ((c : Int) ∈ mk)
theorem sum_made {mk : List Int} {E : List T4} {k : Nat} (h : mk.Pairwise (· < ·)) (h0 : ∀ c ∈ mk, 0 ≤ c) (hk : k ≤ E.length) :
  ((mk.filter (fun c => decide (c < (k : Int)))).map fun c => grw (E.getD c.toNat (0, 0, 0, 0))).sum = Off (inM mk) 0 (E.take k) := by
 rw [Off.sum E k hk]
 have nd : mk.Nodup := h.imp fun h e => by grind
 have p : (mk.filter (fun c => decide (c < (k : Int)))).Perm (((List.range k).filter (inM mk)).map fun (c : Nat) => (c : Int)) := by
  refine (List.perm_ext_iff_of_nodup (List.Pairwise.filter _ nd) ?_).mpr fun c => ?_
  ·refine List.Pairwise.map _ (R := fun (a b : Nat) => a ≠ b) (fun a b h e => h (by grind)) ?_
   exact List.Pairwise.filter _ List.nodup_range
  ·rw [List.mem_filter, List.mem_map]
   simp only [decide_eq_true_eq, List.mem_filter, List.mem_range, inM]
   constructor
   ·rintro ⟨a, b⟩
    have := h0 c a
    exact ⟨c.toNat, ⟨by lia, by rw [show ((c.toNat : Nat) : Int) = c by grind]; exact a⟩, by grind⟩
   ·rintro ⟨d, ⟨a, b⟩, rfl⟩
    exact ⟨b, by lia⟩
 rw [perm_sum (p.map _), List.map_map]
 rfl
section
variable {xs ys : List Int}
theorem Row.len {m : Nat → Bool} (E : List T4) (t : Nat) (i j : Int) (h : Ed xs ys i j E) : ((Row xs ys m t i E).length : Int) + i + j ≤ xs.length + ys.length := by
 induction E generalizing t i j with
 | nil =>
  obtain ⟨i0, i1, j0, j1, e⟩ := h
  obtain ⟨n, e⟩ := Int.eq_ofNat_of_zero_le i0
  subst e
  rw [Row, List.length_drop, Int.toNat_natCast, Int.ofNat_sub (Int.ofNat_le.mp i1), Int.sub_add_cancel]
  exact Int.add_le_add_left j1 _
 | cons e r ih =>
  have l := ih (t + 1) e.2.1 e.2.2.2 h.2
  have l1 := gap_len h.1
  have l2 := piece_len (b := m t) h.1
  have l3 : (if m t then grw e else 0) + j ≤ e.2.2.2 := by
   have := h.1.h4; have := h.1.h5; have := h.1.h2
   unfold grw; split <;> lia
  rw [Row, List.length_append, List.length_append, Int.natCast_add, Int.natCast_add, l1]
  refine Int.le_trans ?_ l
  have l2 : ((if m t then cut ys e.2.2.1.toNat e.2.2.2.toNat else cut xs e.1.toNat e.2.1.toNat).length : Int) = _ := l2
  rw [l2]
  clear l l1 l2 ih
  generalize (if m t then grw e else 0) = g at *
  lia
structure EdB (xs ys : List Int) (e : T4) : Prop where
 e1 : 0 ≤ e.1
 e2 : e.1 ≤ e.2.1
 e3 : e.2.1 ≤ xs.length
 e4 : 0 ≤ e.2.2.1
 e5 : e.2.2.1 ≤ e.2.2.2
 e6 : e.2.2.2 ≤ ys.length
theorem Ed.at {i j : Int} {E1 E2 : List T4} {e : T4} (h : Ed xs ys i j (E1 ++ e :: E2)) : EdB xs ys e := by
 induction E1 generalizing i j with
 | nil => exact ⟨Int.le_trans h.1.i0 h.1.h1, h.1.h2, h.1.h3, Int.le_trans h.1.j0 h.1.h4, h.1.h5, h.1.h6⟩
 | cons a l ih => exact ih h.2
theorem cut_mid {α : Type} (pre mid post : List α) : cut (pre ++ (mid ++ post)) pre.length (pre.length + mid.length) = mid := by
 unfold cut
 rw [List.drop_left, Nat.add_sub_cancel_left, List.take_left]
structure RowT (xs ys : List Int) (E : List T4) (mk mk' : List Int) (k : Nat) (e : T4) (pre post : List Int) : Prop where
 len : e.1 + ((mk.take (below mk k)).map fun c => grw (E.getD c.toNat (0, 0, 0, 0))).sum = pre.length
 r1 : Row xs ys (inM mk) 0 0 E = pre ++ (pieceI xs ys (inM mk k) e ++ post)
 r2 : Row xs ys (inM mk') 0 0 E = pre ++ (pieceI xs ys (inM mk' k) e ++ post)
theorem row_turn {E : List T4} {mk mk' : List Int} {k : Nat} (hE : Ed xs ys 0 0 E) (hk : k < E.length) (h : mk.Pairwise (· < ·)) (h0 : ∀ c ∈ mk, 0 ≤ c) (hm : ∀ c : Int, c ≠ (k : Int) → (c ∈ mk' ↔ c ∈ mk)) :
  EdB xs ys E[k] ∧ ∃ pre post, RowT xs ys E mk mk' k E[k] pre post := by
 have e : E = E.take k ++ E[k] :: E.drop (k + 1) := by rw [List.getElem_cons_drop, List.take_append_drop]
 have hE' := hE
 rw [e] at hE'
 refine ⟨hE'.at, ?_⟩
 obtain ⟨pre, post, hp, hr⟩ := Row.at (m := inM mk) (t := 0) hE'
 rw [List.length_take, Nat.min_eq_left (Nat.le_of_lt hk), Nat.zero_add, ← e] at hr
 refine ⟨pre, post, ?_, hr _ fun _ _ => rfl, hr _ fun c hc => ?_⟩
 ·rw [(below_split (k : Int) h).1, sum_made h h0 (Nat.le_of_lt hk), hp, Int.sub_zero]
 ·exact decide_eq_decide.mpr (hm c fun e => hc (Int.ofNat_inj.mp e))
end
end
section
structure TSr (H : AH) (b0 me d rr : Nat) (p f : Int) (g : Gr) (L : Lay) (rs : List Int) : Prop where
 T : TSat H b0 me d (.ref rr 0) p f g L
 rl : H.get rr 0 = some (.list (rs.map .int))
 rn : ∀ k ∈ g.ns, rr ≠ L.su k
 rb : b0 ≤ rr
noncomputable def own (me rr : Nat) (g : Gr) (L : Lay) (j : Nat) : Prop := j = me ∨ j = rr ∨ ∃ k ∈ g.ns, j = L.ni k
section
variable {H : AH} {b0 me d rr : Nat} {p f : Int} {g : Gr} {L : Lay} {rs : List Int}
theorem TSr.setNp {k v : Int} (T : TSr H b0 me d rr p f g L rs) (hk : k ∈ g.ns) :
  TSr (H.put (L.ni k) 0 (.slots (L.dd k) [some (.int k), some (.int v), some (.ref (L.su k) 0)])) b0 me d rr p f ⟨g.ns, upd g.np k v, g.sc⟩ L rs :=
 ⟨T.T.setNp hk, gp_ne (T.T.info k hk) (kind_ne T.rl (T.T.info k hk) (by simp)) T.rl, T.rn, T.rb⟩
theorem TSr.setSelf {p' f' : Int} (T : TSr H b0 me d rr p f g L rs) :
  TSr (H.put me 0 (.ns [(10, .ref d 0), (11, .ref rr 0), (12, .int p'), (13, .int f')])) b0 me d rr p' f' g L rs :=
 ⟨T.T.setSelf, gp_ne T.T.self (kind_ne T.rl T.T.self (by simp)) T.rl, T.rn, T.rb⟩
theorem TSr.setR {xs : List Int} (T : TSr H b0 me d rr p f g L rs) : TSr (H.put rr 0 (.list (xs.map .int))) b0 me d rr p f g L xs := by
 have hi := T.rl
 obtain ⟨ep, hd⟩ := T.T.dict
 exact ⟨⟨gp_ne hi (kind_ne T.T.self hi (by simp)) T.T.self, ⟨ep, gp_ne hi (kind_ne hd hi (by simp)) hd⟩, fun j hj => gp_ne hi (kind_ne (T.T.info j hj) hi (by simp)) (T.T.info j hj), fun j hj => gp_ne hi (T.rn j hj).symm (T.T.succ j hj), T.T.nij, T.T.suj, T.T.nd, T.T.out, T.T.bme, T.T.bd, T.T.bn, T.T.bs⟩, gp_eq hi, T.rn, T.rb⟩
theorem TSr.app {F : Fam} (T : TSr H b0 me d rr p f g L rs) : TSr (H ++ [F]) b0 me d rr p f g L rs := ⟨T.T.app, ga T.rl, T.rn, T.rb⟩
end
section
variable {c : Cx} {A : Around} {σ : St} {Q : V → St → Prop} {b0 me d rr : Nat} {p f : Int} {g : Gr} {L : Lay} {rs : List Int}
theorem active_vc {H : AH} {Kt : Kt} (G : Good c) (T : TSr H b0 me d rr p f g L rs) (hr : rs.length < 1000)
  (q : ∀ loc, Kt.ret (.bool (decide (f < p) || decide (rs ≠ []))) ⟨loc, H⟩) :
  vcSs A t_active c ⟨[some (.inst 380 me 0)], H⟩ Kt := by
 refine get_attr G.top (k := 11) (by decide) rfl (at11 _) T.T.self rfl rfl rfl ?_
 refine get_attr G.top (k := 13) (by decide) rfl (at13 _) T.T.self rfl rfl rfl ?_
 refine get_attr G.top (k := 12) (by decide) rfl (at12 _) T.T.self rfl rfl rfl ?_
 refine lt_ii ?_
 refine sel_d (fun hb => ?_) (fun hb => ?_)
 ·have := q [some (.inst 380 me 0)]
  rw [hb, Bool.true_or] at this
  rw [hb]
  exact this
 ·refine get_attr G.top (k := 11) (by decide) rfl (at11 _) T.T.self rfl rfl rfl ?_
  refine bool_list T.rl (by rw [List.length_map]; lia) ?_
  have := q [some (.inst 380 me 0)]
  rw [Bool.eq_false_iff.mpr hb, Bool.false_or] at this
  have e : decide (rs.map V.int ≠ []) = decide (rs ≠ []) := decide_eq_decide.mpr (not_congr List.map_eq_nil_iff)
  rw [e]
  exact this
theorem call_active (G : Good c) (rm : Room 1 A) (T : TSr σ.H b0 me d rr p f g L rs) (hr : rs.length < 1000)
  (q : Q (.bool (decide (f < p) || decide (rs ≠ []))) σ) : Ca c A σ (.obj 349) [.inst 380 me 0] Q := by
 refine (call_code (Ys := [.inst 380 me 0]) G rm (ok_active _) (bd1 G.top fun W v0 r0 => ?_) (by simp [n_active]) fun c' F' G' hw L => ?_).ca
 ·exact ⟨[v0], fun S => by kernel_rfl, VRs.cons r0 (VRs.nil _)⟩
 ·exact active_vc G' T hr fun loc => q
noncomputable def outN (np : Int → Int) (rs : List Int) : Int → Int := rs.foldl (fun np k => upd np k (-1)) np
inductive ReadyI (H : AH) (b0 me d rr : Nat) (p f : Int) (g : Gr) (L : Lay) (rs : List Int) (j : Nat) : St → Prop
 | mk (v : Option V) (H' : AH) (T : TSr H' b0 me d rr p f ⟨g.ns, outN g.np (rs.take j), g.sc⟩ L rs) (sm : Same (own me rr g L) H H') : ReadyI H b0 me d rr p f g L rs j ⟨[some (.inst 380 me 0), some (.tup (rs.map .int)), some (.ref d 0), v], H'⟩
theorem ready_vc {H : AH} {Kt : Kt} (G : Good c) (T : TSr H b0 me d rr p f g L rs) (hr : rs.length < 1000) (hin : ∀ k ∈ rs, k ∈ g.ns)
  (q : ∀ loc H', TSr H' b0 me d rr (p + rs.length) f ⟨g.ns, outN g.np rs, g.sc⟩ L [] → Same (own me rr g L) H H' → Kt.ret (.tup (rs.map .int)) ⟨loc, H'⟩) :
  vcSs A t_ready c ⟨[some (.inst 380 me 0), none, none, none], H⟩ Kt := by
 refine get_attr G.top (k := 11) (by decide) rfl (at11 _) T.T.self rfl rfl rfl ?_
 refine get_attr G.top (k := 11) (by decide) rfl (at11 _) T.T.self rfl rfl rfl ?_
 refine tuple_list T.rl (by rw [List.length_map]; grind) ?_
 refine get_attr G.top (k := 10) (by decide) rfl (at10 _) T.T.self rfl rfl rfl ?_
 refine .mk (rs.map .int) 0 (ReadyI H b0 me d rr p f g L rs) rfl (.mk none H T Same.refl) (fun σ' I => ⟨rfl, ?_⟩) (fun j σ' Y I hj => ⟨rfl, fun h0 ft => ?_⟩)
 ·cases I with
  | mk v H' T' sm =>
  rw [List.length_map, List.take_length] at T'
  refine get_attr G.top (k := 11) (by decide) rfl (at11 _) T'.T.self rfl rfl rfl ?_
  refine getM_list T'.rl F.slot_list_clear F.type_list_clear ?_
  refine clear_list T'.rl (by rw [List.length_map]; grind) ?_
  have T2 := T'.setR (xs := [])
  rw [List.map_nil] at T2
  refine get_attr G.top (k := 12) (by decide) rfl (at12 _) T2.T.self rfl rfl rfl ?_
  refine len_tup (by rw [List.length_map]; grind) ?_
  refine set_attr G.top (k := 12) (by decide) rfl (at12 _) T2.T.self rfl (by simp) ?_
  refine q _ _ ?_ ((sm.put T'.rl (.inl (.inr (.inl rfl)))).put T2.T.self (.inl (.inl rfl)))
  rw [List.length_map]
  exact T2.setSelf
 ·cases I with
  | mk v H' T' sm =>
  rw [List.getElem?_map] at hj
  cases hk : rs[j]? with
  | none => rw [hk] at hj; cases hj
  | some k =>
   rw [hk] at hj
   cases hj
   obtain ⟨ep, hd⟩ := T'.T.dict
   have hkin : k ∈ g.ns := hin k (List.mem_of_getElem? hk)
   refine item_dict hd (by rw [look_map, if_pos hkin]) ?_
   refine set_slotV G.top (slot_npred _) (by decide) (T'.T.info k hkin) ?_
   refine .mk _ _ ?_ (sm.put (T'.T.info k hkin) (.inl (.inr (.inr ⟨k, hkin, rfl⟩))))
   have := T'.setNp (v := -1) hkin
   have e : rs.take (j + 1) = rs.take j ++ [k] := by rw [List.take_succ, hk]; rfl
   rw [e]
   unfold outN at this ⊢
   rw [List.foldl_append]
   exact this
theorem call_ready {l₀ : List (Option V)} {H₀ : AH} (G : Good c) (rm : Room 1 A) (T : TSr H₀ b0 me d rr p f g L rs) (hr : rs.length < 1000) (hin : ∀ k ∈ rs, k ∈ g.ns)
  (q : ∀ H', TSr H' b0 me d rr (p + rs.length) f ⟨g.ns, outN g.np rs, g.sc⟩ L [] → Same (own me rr g L) H₀ H' → Q (.tup (rs.map .int)) ⟨l₀, H'⟩) : Ca c A ⟨l₀, H₀⟩ (.obj 342) [.inst 380 me 0] Q := by
 refine (call_code (Ys := [.inst 380 me 0]) G rm (ok_ready _) (bd1 G.top fun W v0 r0 => ?_) (by simp [n_ready]) fun c' F' G' hw L => ?_).ca
 ·exact ⟨[v0], fun S => by kernel_rfl, VRs.cons r0 (VRs.nil _)⟩
 ·exact ready_vc G' T hr hin fun loc => q
end
end
section
noncomputable def dstep (r : (Int → Int) × List Int) (s : Int) : (Int → Int) × List Int := (upd r.1 s (r.1 s - 1), if r.1 s - 1 = 0 then r.2 ++ [s] else r.2)
noncomputable def doneN (np : Int → Int) (rs ss : List Int) : (Int → Int) × List Int := ss.foldl dstep (np, rs)
theorem doneN_len {np : Int → Int} {rs ss : List Int} : (doneN np rs ss).2.length ≤ rs.length + ss.length := by
 unfold doneN
 induction ss generalizing np rs with
 | nil => simp
 | cons a r ih =>
  rw [List.foldl_cons]
  have := @ih (dstep (np, rs) a).1 (dstep (np, rs) a).2
  have h2 : (dstep (np, rs) a).2.length ≤ rs.length + 1 := by
   unfold dstep; simp only; split <;> simp
  simp only [List.length_cons]
  exact Nat.le_trans this (by lia)
section
variable {c : Cx} {A : Around} {σ : St} {Q : V → St → Prop} {b0 me d rr : Nat} {p f : Int} {g : Gr} {L : Lay} {rs : List Int}
inductive DoneI (H : AH) (b0 me d rr : Nat) (p f : Int) (g : Gr) (L : Lay) (rs : List Int) (k : Int) (j : Nat) : St → Prop
 | mk (v w : Option V) (H' : AH) (T : TSr H' b0 me d rr p f ⟨g.ns, (doneN (upd g.np k (-2)) rs ((g.sc k).take j)).1, g.sc⟩ L (doneN (upd g.np k (-2)) rs ((g.sc k).take j)).2) (sm : Same (own me rr g L) H H') :
  DoneI H b0 me d rr p f g L rs k j ⟨[some (.inst 380 me 0), some (.tup [.int k]), some (.ref d 0), some (.int k), some (.ref (L.ni k) 0), some (.int (g.np k)), v, w], H'⟩
theorem done_vc {H : AH} {k : Int} {Kt : Kt} (G : Good c) (T : TSr H b0 me d rr p f g L rs) (hr : rs.length + (g.sc k).length < 1000) (hk : k ∈ g.ns) (hn : g.np k = -1) (hin : ∀ s ∈ g.sc k, s ∈ g.ns)
  (q : ∀ loc H', TSr H' b0 me d rr p (f + 1) ⟨g.ns, (doneN (upd g.np k (-2)) rs (g.sc k)).1, g.sc⟩ L (doneN (upd g.np k (-2)) rs (g.sc k)).2 → Same (own me rr g L) H H' → Kt.next ⟨loc, H'⟩) :
  vcSs A t_done c ⟨[some (.inst 380 me 0), some (.tup [.int k]), none, none, none, none, none, none], H⟩ Kt := by
 refine get_attr G.top (k := 11) (by decide) rfl (at11 _) T.T.self rfl rfl rfl ?_
 refine get_attr G.top (k := 10) (by decide) rfl (at10 _) T.T.self rfl rfl rfl ?_
 refine .mk [.int k] 0 (One Kt.next _) rfl .here (fun σ' h => ⟨rfl, h.gone'⟩) (fun j σ' Y h hj => ⟨rfl, fun h0 ft => ?_⟩)
 cases h with
 | gone _ => cases hj
 | here =>
 cases hj
 obtain ⟨ep, hd⟩ := T.T.dict
 refine getM_dict hd F.slot_dict_get F.type_dict_get ?_
 refine get1_dict G.top hd ?_
 rw [look_map, if_pos hk, Option.getD_some]
 refine get_slotV G.top (slot_npred _) (T.T.info k hk) rfl rfl ?_
 refine sel_f (fun h => h hn) ?_
 refine set_slotV G.top (slot_npred _) (by decide) (T.T.info k hk) ?_
 have T2 := T.setNp (v := -2) hk
 have sm2 : Same (own me rr g L) H _ := Same.refl.put (T.T.info k hk) (o := .slots (L.dd k) [some (.int k), some (.int (-2)), some (.ref (L.su k) 0)]) (.inl (.inr (.inr ⟨k, hk, rfl⟩)))
 show vcTs _ _ _ _ ⟨_, AH.put H (L.ni k) 0 (.slots (L.dd k) [some (.int k), some (.int (-2)), some (.ref (L.su k) 0)])⟩ _
 generalize AH.put H (L.ni k) 0 (.slots (L.dd k) [some (.int k), some (.int (-2)), some (.ref (L.su k) 0)]) = H2 at T2 sm2 ⊢
 refine get_slotV G.top (slot_succ _) (T2.T.info k hk) rfl rfl ?_
 have sq : ∀ {H' : AH}, H'.get (L.su k) 0 = some (.list ((g.sc k).map .int)) → seqOf (.ref (L.su k) 0) H' = some ((g.sc k).map .int, 0) := sq_list
 refine .mk ((g.sc k).map .int) 0 (DoneI H b0 me d rr p f g L rs k) (sq (T2.T.succ k hk)) (.mk none none H2 T2 sm2) (fun σ' I => ?_) (fun j σ' Y I hj => ?_)
 ·cases I with
  | mk v w H' T' sm =>
   refine ⟨sq (T'.T.succ k hk), ?_⟩
   rw [List.length_map, List.take_length] at T'
   refine get_attr G.top (k := 13) (by decide) rfl (at13 _) T'.T.self rfl rfl rfl ?_
   refine set_attr G.top (k := 13) (by decide) rfl (at13 _) T'.T.self rfl (by simp) ?_
   exact .gone (q _ _ T'.setSelf (sm.put T'.T.self (.inl (.inl rfl))))
 ·cases I with
  | mk v w H' T' sm =>
   refine ⟨sq (T'.T.succ k hk), fun h0 ft => ?_⟩
   rw [List.getElem?_map] at hj
   cases hs : (g.sc k)[j]? with
   | none => rw [hs] at hj; cases hj
   | some z =>
    rw [hs] at hj
    cases hj
    have hz : z ∈ g.ns := hin z (List.mem_of_getElem? hs)
    obtain ⟨ep', hd'⟩ := T'.T.dict
    have e : (g.sc k).take (j + 1) = (g.sc k).take j ++ [z] := by rw [List.take_add_one, hs]; rfl
    have hlen : (doneN (upd g.np k (-2)) rs ((g.sc k).take j)).2.length < 1000 := by
     refine Nat.lt_of_le_of_lt doneN_len ?_
     rw [List.length_take]; lia
    have ed : doneN (upd g.np k (-2)) rs ((g.sc k).take (j + 1)) = dstep (doneN (upd g.np k (-2)) rs ((g.sc k).take j)) z := by
     rw [e]; unfold doneN; rw [List.foldl_append]; rfl
    generalize doneN (upd g.np k (-2)) rs ((g.sc k).take j) = D at T' hlen ed
    have T3 := T'.setNp (v := D.1 z - 1) hz
    have sm3 := sm.put (T'.T.info z hz) (o := .slots (L.dd z) [some (.int z), some (.int (D.1 z - 1)), some (.ref (L.su z) 0)]) (.inl (.inr (.inr ⟨z, hz, rfl⟩)))
    refine item_dict hd' (by rw [look_map, if_pos hz]) ?_
    refine get_slotV G.top (slot_npred _) (T'.T.info z hz) rfl rfl ?_
    refine set_slotV G.top (slot_npred _) (by decide) (T'.T.info z hz) ?_
    refine get_slotV G.top (slot_npred _) (T3.T.info z hz) rfl rfl ?_
    refine sel_d (fun hb => ?_) (fun hb => ?_)
    ·have hb : D.1 z - 1 = 0 := (upd_eq (f := D.1)).symm.trans hb
     refine get_attr G.top (k := 11) (by decide) rfl (at11 _) T3.T.self rfl rfl rfl ?_
     refine getM_list T3.rl F.slot_list_append F.type_list_append ?_
     refine append_list T3.rl (by rw [List.length_map]; lia) ?_
     refine .mk _ _ _ ?_ (sm3.put T3.rl (.inl (.inr (.inl rfl))))
     rw [ed]
     unfold dstep
     rw [if_pos hb]
     have := T3.setR (xs := D.2 ++ [z])
     rw [List.map_append] at this
     exact this
    ·have hb : ¬ D.1 z - 1 = 0 := fun e => hb ((upd_eq (f := D.1)).trans e)
     refine .mk _ _ _ ?_ sm3
     rw [ed]
     unfold dstep
     rw [if_neg hb]
     exact T3
theorem call_done {l₀ : List (Option V)} {H₀ : AH} {k : Int} (G : Good c) (rm : Room 1 A) (T : TSr H₀ b0 me d rr p f g L rs) (hr : rs.length + (g.sc k).length < 1000) (hk : k ∈ g.ns) (hn : g.np k = -1) (hin : ∀ s ∈ g.sc k, s ∈ g.ns)
  (q : ∀ H', TSr H' b0 me d rr p (f + 1) ⟨g.ns, (doneN (upd g.np k (-2)) rs (g.sc k)).1, g.sc⟩ L (doneN (upd g.np k (-2)) rs (g.sc k)).2 → Same (own me rr g L) H₀ H' → Q .none ⟨l₀, H'⟩) : Ca c A ⟨l₀, H₀⟩ (.obj 363) [.inst 380 me 0, .int k] Q := by
 refine (call_code (Ys := [.inst 380 me 0, .tup [.int k]]) G (rm.less (by decide)) (ok_done _) (bd_star' (Ys := [.inst 380 me 0]) (Zs := [.int k]) G.top fun W vs rs => ?_) (by simp [n_done]) fun c' F' G' hw L => ?_).ca
 ·obtain ⟨v0, _, rfl, r0, v1, _, rfl, r1, e⟩ := rs
  cases e
  exact ⟨[v0], [v1], VRs.cons r0 (VRs.nil _), VRs.cons r1 (VRs.nil _), by kernel_rfl, fun D => by kernel_rfl⟩
 ·exact done_vc G' T hr hk hn hin fun loc => q
end
end
section
open PySem.SeqAt
theorem note_many {M : Model} {A : Around} {E : Value → Shared → Prop} {st : Shared} {base : Heap} {env : Env} {outer : List Env} {L e : Addr} {oe : Obj} {vs : Array Value} {Q : Unit → Shared → Prop}
  (hfr : A.frames = some (env :: outer)) (hl : st.heap.FunFrames base (env :: outer)) (hf : env.frame = some L) (he : st.heap.get? e = some oe) (hd : oe.data = .fields vs) (h1 : vs[1]? = some .none)
  (h : ∀ h' T oe' vs' oT ts, (∀ b o, b ∉ (env :: outer).filterMap (·.frame) → b ≠ e → st.heap.get? b = some o → h'.get? b = some o) → (∀ b o, b ≠ e → st.heap.get? b = some o → ∃ sl, h'.get? b = some { o with slots := sl }) →
   st.heap.get? T = none → h'.get? e = some oe' → oe'.cls = oe.cls → oe'.data = .fields vs' → vs'[1]? = some (.ref T) → h'.get? T = some oT → oT.cls = .type "traceback" → oT.data = .fields ts → 3 < ts.size → Q () { st with heap := h' }) :
  wpAny M A (noteFrame (.ref e) env) Q E st := by
 have hsz : 1 < vs.size := (Array.getElem?_eq_some_iff.mp h1).1
 unfold noteFrame
 simp only [hf]
 refine wpAny_bind (wpAny_field he hd h1 ?_)
 rw [if_neg (by decide)]
 have hene : e ∉ (env :: outer).filterMap (·.frame) := fun hm => by
  obtain ⟨_, o, ho, hnf⟩ := hl.mem hm
  rw [he] at ho; injection ho with ho; subst ho; exact hnf vs hd
 refine wpAny_bind (wpAny_frameOf_fun hfr hl hf fun h₁ hs₁ => ?_)
 refine wpAny_bind (wpAny_entryPlaceOf fun pl hpl => ?_)
 unfold EntryCells.newEntry newFields
 refine wpAny_bind (wpAny_newObj_type ?_ (hpl.sizeOk5 _ _ _ _ _))
 have he₁ : h₁.get? e = some oe := (hs₁.2.1 e hene).trans he
 have he₂ := Heap.get?_push_of_some (h := h₁) { cls := .type "traceback", dict := none, data := .fields ([Value.none, .ref L, .none, rawInt L, .none] ++ (if pl.isEmpty then List.replicate 6 Value.none else pl)).toArray } he₁
 refine wpAny_setField he₂ hd hsz ?_
 have hTe : h₁.objs.size ≠ e := Nat.ne_of_gt (Heap.lt_size he₁)
 have hd₃ := Obj.data_mapFields hd (·.setIfInBounds 1 (Value.ref h₁.objs.size))
 have he₃ := Heap.get?_update_self (Obj.mapFields (·.setIfInBounds 1 (Value.ref h₁.objs.size))) he₂ (Obj.isFreed_of_fields hd₃)
 have hT₃ := (Heap.get?_update_other (h₁.push { cls := .type "traceback", dict := none, data := .fields ([Value.none, .ref L, .none, rawInt L, .none] ++ (if pl.isEmpty then List.replicate 6 Value.none else pl)).toArray })
  (Obj.mapFields (·.setIfInBounds 1 (Value.ref h₁.objs.size))) (Ne.symm hTe)).trans (Heap.get?_push_size h₁ rfl)
 have keep : ∀ b o, b ≠ e → h₁.get? b = some o → ((h₁.push { cls := .type "traceback", dict := none, data := .fields ([Value.none, .ref L, .none, rawInt L, .none] ++ (if pl.isEmpty then List.replicate 6 Value.none else pl)).toArray }).update e (Obj.mapFields (·.setIfInBounds 1 (Value.ref h₁.objs.size)))).get? b = some o := fun b o hbe hb => by
  rw [Heap.get?_update_other _ _ (Ne.symm hbe)]
  exact Heap.get?_push_of_some _ hb
 refine h _ h₁.objs.size _ _ _ _ (fun b o hn hbe hb => keep b o hbe ((hs₁.2.1 b hn).trans hb)) (fun b o hbe hb => ?_) (Heap.get?_none_of_le (by rw [hs₁.1]; exact Nat.le_refl _)) he₃ (Obj.cls_mapFields _ _) hd₃ (by simp [hsz]) hT₃ rfl rfl ?_
 ·obtain ⟨sl, g⟩ := hs₁.2.2 b o hb
  exact ⟨sl, keep b _ hbe g⟩
 ·simp only [List.size_toArray, List.length_append, List.length_cons, List.length_nil] <;> grind
section
variable {c : Cx} {σ : St} {ρ : Nat → Int → Addr} {st st' : Shared}
theorem Den.framed (D : Den c σ ρ st) {e : Addr} (S : Aside c σ ρ e) (hi : ∀ o, st.heap.get? e = some o → ¬ Imm o) (k1 : ∀ b o, b ∉ c.env.locals :: c.outs → b ≠ e → st.heap.get? b = some o → st'.heap.get? b = some o)
  (k2 : ∀ b o, b ≠ e → st.heap.get? b = some o → ∃ sl, st'.heap.get? b = some { o with slots := sl }) (he : ∀ o, st.heap.get? e = some o → ∃ o', st'.heap.get? e = some o') (hg : st'.gens = st.gens) (ho : st'.os = st.os) : Den c σ ρ st' ∧ Ext (wd c σ ρ st) (wd c σ ρ st') := by
 have nof : ∀ L ∈ c.env.locals :: c.outs, c.h1.get? L = none ∧ (∀ i x, (σ.H.get i x).isSome = true → ρ i x ≠ L) ∧ ∃ o es ep, st.heap.get? L = some o ∧ o.data = .dict es ep := fun L hL => by
  rcases List.mem_cons.mp hL with q | q
  ·subst q
   obtain ⟨m, ⟨o, es, ep, g, dt, _⟩, _⟩ := D.loc
   exact ⟨D.frame.2, D.fsep, o, es, ep, g, dt⟩
  ·obtain ⟨a, _, _, b, d⟩ := D.outs L q
   exact ⟨a, b, d⟩
 have x : Ext (wd c σ ρ st) (wd c σ ρ st') := ⟨fun _ _ h => h, fun _ _ _ => rfl, fun b o h m => by
  have h : st.heap.get? b = some o := h
  by_cases q : b = e
  ·subst q; exact absurd m (hi o h)
  ·refine k1 b o (fun hL => ?_) q h
   obtain ⟨_, _, o', es, ep, g, dt⟩ := nof b hL
   rw [g] at h; cases h
   rcases m with ⟨_, vs, n, q⟩ | ⟨_, vs, q⟩ | ⟨_, q, _⟩ <;> (rw [dt] at q; cases q)⟩
 have kr : ∀ i y o, (σ.H.get i y).isSome = true → st.heap.get? (ρ i y) = some o → st'.heap.get? (ρ i y) = some o := fun i y o h g => k1 _ o (fun hL => (nof _ hL).2.1 i y h rfl) (S.ref i y h) g
 have kc : ∀ y ca o, (y, ca) ∈ c.env.cells → st.heap.get? ca = some o → st'.heap.get? ca = some o := fun y ca o h g => k1 ca o (fun hL => by
  rcases List.mem_cons.mp hL with q | q
  ·exact (D.cells y ca h).2.1 q
  ·exact (D.outs ca q).2.2.1 y ca h rfl) (fun q => S.cell y (q ▸ h)) g
 refine ⟨⟨hg.trans D.gens, ho.trans D.os, fun b o h f => ?_, fun b o h => k1 b o (fun hL => ?_) (fun q => ?_) (D.top b o h), fun b o h => ?_, fun i y o h => (D.objs i y o h).ext x rfl (fun ob => kr i y ob (by rw [h]; rfl)), D.inj, D.new, ?_, D.frame, D.fsep, ?_, D.cnodup, fun L hL => ?_⟩, x⟩
 ·have hbe : b ≠ e := fun q => by subst q; rw [S.h0] at h; cases h
  obtain ⟨⟨sl, g⟩, g2⟩ := D.keep b o h f
  refine ⟨?_, fun n => k1 b o (fun hL => ?_) hbe (g2 n)⟩
  ·obtain ⟨sl', g'⟩ := k2 b _ hbe g
   exact ⟨sl', g'⟩
  ·rcases List.mem_cons.mp hL with q | q
   ·subst q
    rcases D.frame.1 with q | q
    ·exact f q
    ·rw [h] at q; cases q
   ·exact n q
 ·rw [(nof b hL).1] at h; cases h
 ·subst q; rw [S.h1] at h; cases h
 ·obtain ⟨o1, g1⟩ := D.alive b o h
  obtain ⟨sl, g⟩ := k2 b o1 (fun q => by subst q; rw [S.h0] at h; cases h) g1
  exact ⟨_, g⟩
 ·obtain ⟨m, n, l⟩ := D.loc
  refine ⟨m, ?_, l.ext x (fun y ca o q g => kc y ca o (lookup_mem q) g) _ _⟩
  obtain ⟨o, es, ep, g, q⟩ := n
  obtain ⟨sl, g'⟩ := k2 _ o S.frame g
  exact ⟨_, es, ep, g', q⟩
 ·intro y ca h
  obtain ⟨a', b, d, o, v, g, q⟩ := D.cells y ca h
  exact ⟨a', b, d, o, v, kc y ca o h g, q⟩
 ·obtain ⟨a', b, d, r, o, es, ep, g, q⟩ := D.outs L hL
  obtain ⟨sl, g'⟩ := k2 L o (fun q => S.outs (q ▸ hL)) g
  exact ⟨a', b, d, r, _, es, ep, g', q⟩
theorem Den.funFrames (D : Den c σ ρ st) {es : List Env} (hf : c.env.frame = some c.env.locals) (hk : c.env.scope.kind ≠ .module) (hks : ∀ e ∈ es, e.scope.kind ≠ .module) (hm : es.map (·.frame) = c.outs.map some) : st.heap.FunFrames c.h1 (c.env :: es) := by
 refine ⟨hk, ?_, ?_⟩
 ·obtain ⟨m, ⟨o, es, ep, g, dt, _⟩, _⟩ := D.loc
  exact ⟨_, o, hf, D.frame.2, g, fun vs h => by rw [dt] at h; cases h⟩
 ·have : ∀ (es : List Env) (ls : List Addr), (∀ e ∈ es, e.scope.kind ≠ .module) → es.map (·.frame) = ls.map some → (∀ L ∈ ls, L ∈ c.outs) → st.heap.FunFrames c.h1 es := by
   intro es
   induction es with
   | nil => intros; trivial
   | cons e r ih =>
    intro ls hk hm hs
    cases ls with
    | nil => simp at hm
    | cons L ls =>
     simp only [List.map_cons, List.cons.injEq] at hm
     obtain ⟨a, _, _, _, o, es', ep, g, q⟩ := D.outs L (hs L (.head _))
     exact ⟨hk e (.head _), ⟨L, o, hm.1, a, g, fun vs h => by rw [q] at h; cases h⟩, ih ls (fun e' h => hk e' (.tail _ h)) hm.2 (fun L' h => hs L' (.tail _ h))⟩
  exact this es c.outs hks hm (fun _ h => h)
theorem frames_eq {es : List Env} {ls : List Addr} : es.map (·.frame) = ls.map some → es.filterMap (·.frame) = ls := by
 induction es generalizing ls with
 | nil => intro h; cases ls with
  | nil => rfl
  | cons => simp at h
 | cons e r ih =>
  intro h
  cases ls with
  | nil => simp at h
  | cons L ls =>
   simp only [List.map_cons, List.cons.injEq] at h
   rw [List.filterMap_cons, h.1]
   simp only
   rw [ih h.2]
end
end
section
open PySem.SeqAt
theorem stop_exc : isSubtype (.type "StopIteration") (.type "BaseException") = pure true := by rw [isSubtype_type]; kernel_rfl
theorem stop_tup : isSubtype (.type ((Manifest.find? "StopIteration").elim "type" fun x => x.metatype)) (.type "tuple") = pure false := by rw [isSubtype_type]; kernel_rfl
theorem put_dom {H : AH} {i : Nat} {x : Int} {o' : O} (hd : (H.get i x).isSome = true) (j : Nat) (y : Int) : ((H.put i x o').get j y).isSome = (H.get j y).isSome := by
 rw [AH.get_put hd]
 split
 ·rename_i e; rw [e.1, e.2, hd]; rfl
 ·rfl
theorem Aside.put {c : Cx} {σ : St} {ρ : Nat → Int → Addr} {a : Addr} {i : Nat} {x : Int} {o' : O} (S : Aside c σ ρ a) (hd : (σ.H.get i x).isSome = true) : Aside c { σ with H := σ.H.put i x o' } ρ a :=
 ⟨S.h0, S.h1, fun j y h => S.ref j y ((put_dom hd j y).symm.trans h), S.frame, S.cell, S.outs⟩
theorem tr_data {o : Obj} {vs : Array Value} (h : o.data = .fields vs) (hc : o.cls = .type "traceback" ∨ o.cls = .type "StopIteration") : ¬ Imm o := hc.elim (fun q => not_imm q h (by decide)) fun q => not_imm q h (by decide)
section
variable {k : Ck} {c : Cx} {A : Around}
theorem snd_two {a b d : TE} : ISs k A [.del a b, .expr d] := sSs_cons _ _ (sS_del a b) (sSs_cons _ _ (sS_expr d) sSs_nil)
inductive TryQ (c : Cx) (x : Nat) (a b d : TE) (K : Kt) (X : V) (σ₁ : St) : Prop
 | mk (i : Nat) (y : Int) (j : Nat) (z : Int) (n : Nat) (xs : List V) (hX : X = .bm "list_iterator.__next__" (.ref i y)) (gi : σ₁.H.get i y = some (.iter j z n)) (gl : σ₁.H.get j z = some (.list xs))
   (k1 : ∀ Y, xs[n]? = some Y → K.brk (St.set ⟨σ₁.loc, σ₁.H.put i y (.iter j z (n + 1))⟩ x Y)) (k2 : xs[n]? = none → ∀ A', vcSs A' [.del a b, .expr d] c ⟨σ₁.loc, σ₁.H.put i y .dead⟩ K)
theorem chkTry_e {P : Stmt → Prop} {x : Nat} {e : TE} {h : List TS} {st : Stmt} (hc : chkTry k x e h st = true)
  (g : ∀ tn pn f pc pa pb exn px hb ph pt, k.names[x]? = some tn → k.sc.names.lookup tn = some .local → (f.ctorIdx != 20) = true → chkE k e f = true → exn = s "StopIteration" → k.sc.names.lookup exn = some .globalImplicit → chkSs k h hb = true → P (.Try [.Assign [.Name tn pn] (.Call f [] [] pc) pa, .Break pb] [.ExceptHandler (some (.Name exn px)) none hb ph] [] [] pt)) : P st := by
 refine onSTry_e (P := P) hc fun body hs oe fb pt hc => onCons_e (P := fun b => P (.Try b hs oe fb pt)) hc fun b1 body hc => onOne_e (P := fun b => P (.Try (b1 :: b) hs oe fb pt)) hc fun b2 hc => onOne_e (P := fun b => P (.Try [b1, b2] b oe fb pt)) hc fun eh hc => ?_
 refine onEH_e (P := fun b => P (.Try [b1, b2] [b] oe fb pt)) hc fun ex nm hb ph hc => onSome_e (P := fun b => P (.Try [b1, b2] [.ExceptHandler b nm hb ph] oe fb pt)) hc fun ex hc => onName_e (P := fun b => P (.Try [b1, b2] [.ExceptHandler (some b) nm hb ph] oe fb pt)) hc fun exn px hc => ?_
 refine onSAssign_e (P := fun b => P (.Try [b, b2] _ oe fb pt)) hc fun tg v pa hc => onOne_e (P := fun b => P (.Try [.Assign b v pa, b2] _ oe fb pt)) hc fun t hc => onName_e (P := fun b => P (.Try [.Assign [b] v pa, b2] _ oe fb pt)) hc fun tn pn hc => ?_
 refine onCall_e (P := fun b => P (.Try [.Assign _ b pa, b2] _ oe fb pt)) hc fun f as kw pc hc => onSBreak_e (P := fun b => P (.Try [_, b] _ oe fb pt)) hc fun pb hc => and_e hc fun e1 hc => and_e hc fun e2 hc => and_e hc fun e3 hc => and_e hc fun e4 hc => and_e hc fun e5 hc => ?_
 refine nil_e (P := fun b => P (.Try _ _ b fb pt)) e1 (nil_e (P := fun b => P (.Try _ _ [] b pt)) e2 (isNone_e (P := fun b => P (.Try _ [.ExceptHandler _ b hb ph] [] [] pt)) e3 (nil_e (P := fun b => P (.Try [.Assign _ (.Call f b kw pc) pa, _] _ [] [] pt)) e4 (nil_e (P := fun b => P (.Try [.Assign _ (.Call f [] b pc) pa, _] _ [] [] pt)) e5 ?_))))
 exact and_e hc fun c1 hc => and_e hc fun c2 hc => and_e hc fun c3 hc => and_e hc fun c4 hc => and_e hc fun c5 hc => and_e hc fun c6 c7 => g _ _ _ _ _ _ _ _ _ _ _ (eq_of_beq c1) (eq_of_beq c2) c3 c4 (eq_of_beq c5) (eq_of_beq c6) c7
theorem ex_try (F : Fit k c) (hh : A.handled = none) (stk : Stk c A) {x : Nat} {e a b d : TE} {stm : Stmt} (hc : chkTry k x e [.del a b, .expr d] stm = true) {σ : St} {K : Kt} (q : vcE c A e σ (TryQ c x a b d K)) : ExE c A σ K stm := by
 refine chkTry_e (P := ExE c A σ K) hc fun nm pn f pc pa pb ex px hb ph pt c1 c2 c3 c4 c5 c6 c7 ρ st D => ?_
 obtain ⟨es, s1, s2, s3, s4, s5⟩ := stk
 revert c7
 refine fun c7 => onCons_e (P := fun hb => chkSs k [.del a b, .expr d] hb = true → wpAny (MM c) A (exec (.Try [.Assign [.Name nm pn] (.Call f [] [] pc) pa, .Break pb] [.ExceptHandler (some (.Name ex px)) none hb ph] [] [] pt) c.env) (PostF c (wd c σ ρ st) K) noExc st) c7 (fun sx sy _ c7 => ?_) c7
 refine wpAny_Try_except (wpAny_execs_cons (wpAny_Assign_Name ?_ (by rfl)))
 rw [notAttr_call c3]
 refine wpAny_bind (wpP (sndE F e f c4 σ _ q ρ st D) fun vf s₁ X σ₁ ρ₁ D₁ rf x₁ q => ?_)
 cases q with
 | mk i y j z n xs hX gi gl k1 k2 =>
 subst hX
 refine callWith_of (P := fun h => ∃ kk, (kk = Keeper.frame ∨ kk = Keeper.machine ∨ kk = Keeper.boundFrame) ∧ Looks (MM c) h (keeperOf vf) kk) rfl (fun _ h => h) ?_
 refine noted (evalArgs_any (c := c) (k := k) (ts := []) (as := []) (pos := pc) (f := vf) (st := s₁) (Q := fun a s' => a = ⟨[], []⟩ ∧ s' = s₁) rfl (wpAny_pure ⟨rfl, rfl⟩)) fun a s' e => ?_
 rw [e.1, e.2]
 refine ⟨keep_bm σ₁ ρ₁ _ vf D₁ rf, ?_⟩
 obtain ⟨bb, o, u0, e, gb, hcb, hdb, e0, hdom⟩ := rf
 subst e e0
 obtain ⟨git, hdl⟩ := D₁.objs i y _ gi
 obtain ⟨us, m, gus, len, rus⟩ := D₁.list gl
 show wpAny (MM c) A (call (.ref bb) []) _ _ _
 have hdi : (σ₁.H.get i y).isSome = true := by rw [gi]; rfl
 refine next_call hh gb hcb hdb git gus rfl (fun v hv h' sb gn => ?_) (fun hv h' ea xb dead ne => ?_)
 ·have hv' : us.toList[n]? = some v := by rw [Array.getElem?_toList]; exact hv
  cases hY : xs[n]? with
  | none => have := (VRs.at n rus).2 hY; rw [hv'] at this; cases this
  | some Y =>
  obtain ⟨v', e', rY⟩ := (VRs.at n rus).1 Y hY
  rw [hv'] at e'; cases e'
  have N := D₁.upd (st' := { s₁ with heap := h' }) (o' := .iter j z (n + 1)) hdi sb.extBut rfl rfl ⟨gn, (put_dom hdi j z).trans hdl⟩
  exact noted (store_tail (Q := fun _ s'' => Den c _ ρ₁ s'' ∧ Ext (wd c σ ρ st) (wd c _ ρ₁ s'')) F c1 c2 N.1 (VR.ext N.2 _ _ rY) fun s'' D₃ x₃ => ⟨D₃, x₁.trans (N.2.trans x₃)⟩) fun _ s'' h => wpAny_execs_cons (wpAny_Break ⟨_, ρ₁, h.1, h.2, k1 Y hY⟩)
 ·have hxn : xs[n]? = none := by
   rw [List.getElem?_eq_none_iff, ← VRs.length rus, Array.length_toList, ← Array.getElem?_eq_none_iff]; exact hv
  have N₂ := D₁.upd (st' := { s₁ with heap := h' }) (o' := .dead) hdi xb rfl rfl dead
  obtain ⟨en, oe, vs, ge', ce, de, he1⟩ := ne
  have Se : Aside c ⟨σ₁.loc, σ₁.H.put i y .dead⟩ ρ₁ ea := (D₁.fresh en).put hdi
  have k2 := k2 hxn
  obtain ⟨σ₂, eσ⟩ : ∃ σ₂ : St, σ₂ = ⟨σ₁.loc, σ₁.H.put i y .dead⟩ := ⟨_, rfl⟩
  have N₂ : Den c σ₂ ρ₁ { s₁ with heap := h' } ∧ Ext (wd c σ₁ ρ₁ s₁) (wd c σ₂ ρ₁ { s₁ with heap := h' }) := by rw [eσ]; exact N₂
  rw [← eσ] at Se k2
  refine note_many s1 (N₂.1.funFrames s2 s3 s4 s5) s2 ge' de he1 fun h₃ T oe' vs' oT ts kk1 kk2 tn ge3 ce3 de3 he3 gT cT dT tsz => ?_
  have fe : (c.env :: es).filterMap (·.frame) = c.env.locals :: c.outs := by
   rw [List.filterMap_cons, s2]; simp only; rw [frames_eq s5]
  rw [fe] at kk1
  have N₃ := N₂.1.framed (st' := { s₁ with heap := h₃ }) Se (fun o ho => by rw [show h'.get? ea = some o from ho] at ge'; cases ge'; exact tr_data de (.inr ce)) kk1 kk2 (fun _ _ => ⟨_, ge3⟩) rfl rfl
  have ST : Aside c σ₂ ρ₁ T := N₂.1.fresh tn
  have hTe : T ≠ ea := fun q => by rw [q] at tn; rw [show h'.get? ea = none from tn] at ge'; cases ge'
  refine wpAny_setFlight_none ge3 de3 he3 gT dT tsz ?_
  have N₄ := N₃.1.aside (st' := { s₁ with heap := h₃.update T (Obj.mapFields (·.setIfInBounds 3 .none)) }) ST (fun o ho => by rw [show h₃.get? T = some o from ho] at gT; cases gT; exact tr_data dT (.inl cT)) (Heap.SameBut.update ..).extBut rfl rfl
  have gT4 := Heap.get?_update_self (Obj.mapFields (·.setIfInBounds 3 Value.none)) gT (Obj.isFreed_of_fields (Obj.data_mapFields dT _))
  have ge4 : (h₃.update T (Obj.mapFields (·.setIfInBounds 3 Value.none))).get? ea = some oe' := by rw [Heap.get?_update_other _ _ hTe]; exact ge3
  refine wpAny_handleBy_builtin (X := "StopIteration") (T := "StopIteration") (b := true) stop_exc stop_tup isSubtype_stop ?_
  have hglob : chkE k (.glob 22) (.Name ex px) = true := by
   show ((gtab[22]?).any (fun y => y.1 == ex) && (k.sc.names.lookup ex == some .globalImplicit && !(ex == dbg))) = true
   rw [c6, c5]; decide +kernel
  generalize hs4 : ({ s₁ with heap := h₃.update T (Obj.mapFields (·.setIfInBounds 3 .none)) } : Shared) = s₄ at N₄
  have gT4 : s₄.heap.get? T = some (Obj.mapFields (·.setIfInBounds 3 Value.none) oT) := by rw [← hs4]; exact gT4
  have ge4 : s₄.heap.get? ea = some oe' := by rw [← hs4]; exact ge4
  refine wpP (c := c.now σ₂ ρ₁ s₄) (sndE (c := c.now σ₂ ρ₁ s₄) (A := A.mark (some (.ref ea))) (F.at _ _) (.glob 22) (.Name ex px) hglob σ₂ (fun X σ' => X = .typ "StopIteration" ∧ σ' = σ₂) ⟨rfl, rfl⟩ ρ₁ s₄ N₄.1.now) fun cv s₅ X σ₅ ρ₅ D₅ r₅ x₅ e₅ => ?_
  rw [e₅.2] at D₅ x₅
  rw [e₅.1] at r₅
  have r₅ : cv = .type "StopIteration" := r₅
  have ge5 := D₅.rest ge4 (fun i x d e => Se.ref i x d e.symm) (fun e => Se.frame e.symm) Se.cell Se.outs
  have gT5 := D₅.rest gT4 (fun i x d e => ST.ref i x d e.symm) (fun e => ST.frame e.symm) ST.cell ST.outs
  refine ⟨r₅, ⟨_, ge5, ce3.trans ce⟩, ?_⟩
  rw [if_pos rfl]
  have dT5 := Obj.data_mapFields dT (·.setIfInBounds 3 Value.none)
  refine wpAny_setFlight_none ge5 de3 he3 gT5 dT5 (by rw [Array.size_setIfInBounds]; exact tsz) ?_
  have ST5 : Aside c σ₂ ρ₅ T := by
   refine ⟨ST.h0, ST.h1, fun i x d => ?_, ST.frame, ST.cell, ST.outs⟩
   rw [show ρ₅ i x = ρ₁ i x from x₅.same i x d]; exact ST.ref i x d
  have N₇ := (N₄.1.back D₅).aside (st' := { s₅ with heap := s₅.heap.update T (Obj.mapFields (·.setIfInBounds 3 .none)) }) ST5 (fun o ho => by rw [ho] at gT5; cases gT5; exact tr_data dT5 (.inl ((Obj.cls_mapFields _ _).trans cT))) (Heap.SameBut.update ..).extBut rfl rfl
  exact noted (snd_two _ c7 c F σ₂ K (k2 _) ρ₅ _ N₇.1) fun fl s₈ P => P.up (x₁.trans (N₂.2.trans (N₃.2.trans (N₄.2.trans (Ext.trans x₅ N₇.2)))))
end
end
section
noncomputable def unl (ns : List Int) (S : Int → Bool) : List Int := ns.filter fun v => !S v
noncomputable def plus (S : Int → Bool) (k : Int) : Int → Bool := fun j => S j || decide (j = k)
noncomputable def wsum (ns : List Int) (S : Int → Bool) (w : Int → Nat) : Nat := ((unl ns S).map w).sum
theorem wsum_mono {ns : List Int} {S : Int → Bool} {k : Int} {w : Int → Nat} : wsum ns (plus S k) w ≤ wsum ns S w := by
 unfold wsum unl plus
 induction ns with
 | nil => simp
 | cons a r ih =>
  by_cases h : S a = true
  ·simpa [h] using ih
  ·by_cases e : a = k
   ·subst e; simp [h] at ih ⊢; grind
   ·simp [h, e] at ih ⊢; assumption
theorem wsum_plus {ns : List Int} {S : Int → Bool} {k : Int} {w : Int → Nat} (hk : k ∈ ns) (hS : S k = false) : wsum ns (plus S k) w + w k ≤ wsum ns S w := by
 induction ns with
 | nil => cases hk
 | cons a r ih =>
  by_cases e : a = k
  ·subst e
   have := @wsum_mono r S a w
   unfold wsum unl plus at this ⊢
   simp [hS] at this ⊢; lia
  ·have hk' : k ∈ r := by
    rcases List.mem_cons.mp hk with q | q
    ·exact absurd q.symm e
    ·exact q
   have := ih hk'
   unfold wsum unl plus at this ⊢
   by_cases h : S a = true
   ·simpa [h] using this
   ·simp [h, e] at this ⊢; lia
theorem unl_plus {ns : List Int} {S : Int → Bool} {k : Int} (hk : k ∈ ns) (hS : S k = false) : (unl ns (plus S k)).length + 1 ≤ (unl ns S).length := by
 have := wsum_plus (w := fun _ => 1) hk hS
 unfold wsum at this
 have e : ∀ l : List Int, (l.map fun _ => 1).sum = l.length := fun l => by
  induction l with
  | nil => rfl
  | cons a r ih => simp [ih]; grind
 simpa [e] using this
noncomputable abbrev Fr3 := Int × Nat × Nat
noncomputable def rest (g : Gr) (fr : List Fr3) : Nat := (fr.map fun f => (g.sc f.1).length - f.2.2).sum
structure CI (H0 H : AH) (g : Gr) (L : Lay) (r : Int → Int) (fr : List Fr3) (S : Int → Bool) : Prop where
 sm : Same (fun _ => False) H0 H
 stk : H.get H0.length 0 = some (.list (fr.map fun f => .int f.1))
 its : H.get (H0.length + 1) 0 = some (.list (fr.map fun f => .bm "list_iterator.__next__" (.ref f.2.1 0)))
 set : ∃ n, H.get (H0.length + 2) 0 = some (.set S n) ∧ n + (unl g.ns S).length ≤ g.ns.length ∧ fr.length ≤ n
 dct : ∃ es ep, H.get (H0.length + 3) 0 = some (.dict es ep) ∧ es.map (·.1) = fr.map (·.1)
 fs : ∀ f ∈ fr, f.1 ∈ g.ns ∧ H.get f.2.1 0 = some (.iter (L.su f.1) 0 f.2.2) ∧ f.2.2 ≤ (g.sc f.1).length ∧ H0.length + 4 ≤ f.2.1
 nd : (fr.map (·.2.1)).Nodup
 inc : (fr.map (·.1)).Pairwise (fun x y => r x < r y)
theorem TSat.same {H H' : AH} {b0 me d : Nat} {R : V} {p f : Int} {g : Gr} {L : Lay} (T : TSat H b0 me d R p f g L) (sm : Same (fun _ => False) H H') : TSat H' b0 me d R p f g L := by
 obtain ⟨ep, hd⟩ := T.dict
 exact ⟨sm.2 _ _ _ id T.self, ⟨ep, sm.2 _ _ _ id hd⟩, fun k hk => sm.2 _ _ _ id (T.info k hk), fun k hk => sm.2 _ _ _ id (T.succ k hk), T.nij, T.suj, T.nd, T.out, T.bme, T.bd, T.bn, T.bs⟩
theorem look_some {es : List (Int × V)} {k : Int} : (look es k).isSome = true ↔ k ∈ es.map (·.1) := by
 unfold look
 induction es with
 | nil => simp
 | cons a r ih =>
  rw [List.find?_cons]
  by_cases h : a.1 = k
  ·simp [h]
  ·have h' : ¬ k = a.1 := fun e => h e.symm
   simp only [h, decide_false, ih, List.map_cons, List.mem_cons, h', false_or]
section
variable {H0 H : AH} {g : Gr} {L : Lay} {r : Int → Int} {fr : List Fr3} {S : Int → Bool} {v : Int} {it n : Nat}
theorem CI.len (C : CI H0 H g L r fr S) : fr.length ≤ g.ns.length := by
 obtain ⟨m, _, h1, h2⟩ := C.set; grind
theorem CI.put_old {j : Nat} {o' : O} (C : CI H0 H g L r fr S) (hj : H0.length ≤ j) (ho : ∃ o, H.get j 0 = some o) : Same (fun _ => False) H0 (H.put j 0 o') := by
 obtain ⟨o, ho⟩ := ho
 exact C.sm.put ho (.inr hj)
theorem CI.draw (C : CI H0 H g L r (fr ++ [(v, it, n)]) S) (hn : n < (g.sc v).length) : CI H0 (H.put it 0 (.iter (L.su v) 0 (n + 1))) g L r (fr ++ [(v, it, n + 1)]) S := by
 obtain ⟨f1, f2, f3, f4⟩ := C.fs (v, it, n) (by simp)
 dsimp only at f1 f2 f3 f4
 obtain ⟨m, s1, s2, s3⟩ := C.set
 obtain ⟨es, ep, d1, d2⟩ := C.dct
 have hnd := C.nd
 rw [List.map_append, List.nodup_append] at hnd
 refine ⟨C.put_old (by lia) ⟨_, f2⟩, gp_ne f2 (by grind) (by simpa using C.stk), gp_ne f2 (by grind) (by simpa using C.its), ⟨m, gp_ne f2 (by grind) s1, s2, by simpa using s3⟩, ⟨es, ep, gp_ne f2 (Nat.ne_of_lt f4) d1, by simpa using d2⟩, fun f hf => ?_, by simpa using C.nd, by simpa using C.inc⟩
 rcases List.mem_append.mp hf with h | h
 ·obtain ⟨e1, e2, e3, e4⟩ := C.fs f (List.mem_append_left _ h)
  refine ⟨e1, gp_ne f2 (fun e => ?_) e2, e3, e4⟩
  exact hnd.2.2 f.2.1 (List.mem_map.mpr ⟨f, h, rfl⟩) it (by simp) e
 ·rw [List.mem_singleton] at h
  subst h
  exact ⟨f1, gp_eq f2, hn, f4⟩
end
end
section
theorem wsum_eq {ns : List Int} {S : Int → Bool} {k : Int} {w : Int → Nat} (nd : ns.Nodup) (hk : k ∈ ns) (hS : S k = false) : wsum ns (plus S k) w + w k = wsum ns S w := by
 induction ns with
 | nil => cases hk
 | cons a r ih =>
  rw [List.nodup_cons] at nd
  by_cases e : a = k
  ·subst e
   have : ∀ l : List Int, a ∉ l → wsum l (plus S a) w = wsum l S w := by
    intro l
    induction l with
    | nil => intro _; rfl
    | cons b t ih =>
     intro hn
     simp only [List.mem_cons, not_or] at hn
     have := ih hn.2
     unfold wsum unl plus at this ⊢
     have hb : ¬ b = a := fun e => hn.1 e.symm
     by_cases h : S b = true
     ·simpa [h] using this
     ·simp [h, hb] at this ⊢; assumption
   have := this r nd.1
   unfold wsum unl plus at this ⊢
   simp [hS] at this ⊢; grind
  ·have hk' : k ∈ r := by
    rcases List.mem_cons.mp hk with q | q
    ·exact absurd q.symm e
    ·exact q
   have := ih nd.2 hk'
   unfold wsum unl plus at this ⊢
   by_cases h : S a = true
   ·simpa [h] using this
   ·simp [h, e] at this ⊢; lia
theorem wsum_zero {ns : List Int} {S : Int → Bool} {w : Int → Nat} : wsum ns S w = 0 ↔ ∀ k ∈ ns, S k = false → w k = 0 := by
 induction ns with
 | nil => simp [wsum, unl]
 | cons a r ih =>
  unfold wsum unl at ih ⊢
  by_cases h : S a = true
  ·simp [h] at ih ⊢; exact ih
  ·simp [h] at ih ⊢; exact fun _ => ih
theorem doneN_spec : ∀ (ss : List Int) (np : Int → Int) (rs : List Int), (∀ z ∈ ss, (ss.count z : Int) ≤ np z) → rs.Nodup → (∀ z ∈ ss, z ∉ rs) →
  (∀ j, (doneN np rs ss).1 j = np j - ss.count j) ∧ (doneN np rs ss).2.Nodup ∧ ∀ j, j ∈ (doneN np rs ss).2 ↔ j ∈ rs ∨ (j ∈ ss ∧ np j = ss.count j)
 | [], np, rs, _, nd, _ => ⟨fun j => by simp [doneN], nd, fun j => by simp [doneN]⟩
 | a :: t, np, rs, h1, nd, h2 => by
  have ed : doneN np rs (a :: t) = doneN (dstep (np, rs) a).1 (dstep (np, rs) a).2 t := rfl
  have ha := h1 a (.head _)
  rw [List.count_cons_self] at ha
  have e1 : (dstep (np, rs) a).1 = upd np a (np a - 1) := rfl
  have e2 : (dstep (np, rs) a).2 = if np a - 1 = 0 then rs ++ [a] else rs := rfl
  have har : a ∉ rs := h2 a (.head _)
  obtain ⟨r1, r2, r3⟩ := doneN_spec t (dstep (np, rs) a).1 (dstep (np, rs) a).2 (fun z hz => by
   rw [e1]
   have := h1 z (.tail _ hz)
   by_cases e : z = a
   ·subst e; rw [upd_eq]; lia
   ·rw [upd_ne e]; rw [List.count_cons_of_ne (fun q => e q.symm)] at this; exact this) (by
   rw [e2]
   split
   ·exact List.nodup_append.mpr ⟨nd, by simp, fun x hx y hy e => by simp at hy; subst hy; subst e; exact har hx⟩
   ·exact nd) (fun z hz => by
   rw [e2]
   split
   ·rename_i hq
    rw [List.mem_append, List.mem_singleton]
    rintro (q | q)
    ·exact h2 z (.tail _ hz) q
    ·subst q
     have := List.count_pos_iff.mpr hz
     grind
   ·exact h2 z (.tail _ hz))
  rw [ed]
  refine ⟨fun j => ?_, r2, fun j => ?_⟩
  ·rw [r1, e1]
   by_cases e : j = a
   ·subst e; rw [upd_eq, List.count_cons_self]; grind
   ·rw [upd_ne e, List.count_cons_of_ne (fun q => e q.symm)]
  ·rw [r3, e1, e2]
   by_cases e : j = a
   ·subst e
    rw [upd_eq, List.count_cons_self]
    by_cases hq : np j - 1 = 0
    ·have : t.count j = 0 := by grind
     simp [hq, har]; grind
    ·simp only [hq, if_false, har, false_or, List.mem_cons, true_or, true_and]
     constructor
     ·rintro ⟨_, q⟩; lia
     ·intro q
      refine ⟨List.count_pos_iff.mp (by grind), by lia⟩
   ·rw [upd_ne e, List.count_cons_of_ne (fun q => e q.symm)]
    have : (j ∈ (if np a - 1 = 0 then rs ++ [a] else rs)) ↔ j ∈ rs := by
     split <;> simp [e]
    rw [this]
    simp [e]
theorem outN_spec {np : Int → Int} {rs : List Int} (j : Int) : outN np rs j = if j ∈ rs then -1 else np j := by
 unfold outN
 induction rs generalizing np with
 | nil => simp
 | cons a t ih =>
  rw [List.foldl_cons, ih]
  by_cases h : j ∈ t
  ·simp [h]
  ·by_cases e : j = a
   ·subst e; simp [h, upd_eq]
   ·simp [h, e, upd_ne e]
end
section
noncomputable def inl (fin : List Int) : Int → Bool := fun v => decide (v ∈ fin)
theorem inl_app {fin : List Int} {k : Int} : inl (fin ++ [k]) = plus (inl fin) k := by
 funext v; simp [inl, plus]
structure TI (g : Gr) (np : Int → Int) (fin pend rs : List Int) : Prop where
 nd : (fin ++ (pend ++ rs)).Nodup
 mem : ∀ k ∈ fin ++ (pend ++ rs), k ∈ g.ns
 onP : ∀ k ∈ pend, np k = -1
 cnt : ∀ k ∈ g.ns, k ∉ fin → k ∉ pend → np k = (wsum g.ns (inl fin) (fun e => (g.sc e).count k) : Int)
 rdy : ∀ k ∈ g.ns, k ∉ fin → k ∉ pend → (k ∈ rs ↔ wsum g.ns (inl fin) (fun e => (g.sc e).count k) = 0)
 pre : ∀ k ∈ fin ++ (pend ++ rs), ∀ e ∈ g.ns, e ∉ fin → k ∉ g.sc e
 ord : ∀ i k, fin[i]? = some k → ∀ e ∈ g.ns, k ∈ g.sc e → e ∈ fin.take i
section
variable {g : Gr} {np : Int → Int} {fin pend rs : List Int} {k : Int}
theorem TI.ready (h : TI g np fin [] rs) : TI g (outN np rs) fin rs [] := by
 have hd : ∀ k ∈ rs, k ∉ fin := fun k hk hf => by
  have := h.nd
  rw [List.nodup_append] at this
  exact this.2.2 k hf k (by simpa using hk) rfl
 refine ⟨by simpa using h.nd, by simpa using h.mem, fun k hk => by rw [outN_spec, if_pos hk], fun k hk hf hp => ?_, fun k hk hf hp => ?_, by simpa using h.pre, h.ord⟩
 ·rw [outN_spec, if_neg hp]; exact h.cnt k hk hf (by simp)
 ·have := h.rdy k hk hf (by simp)
  simp only [hp, false_iff] at this
  simpa using this
theorem TI.done (nd : g.ns.Nodup) (hin : ∀ k ∈ g.ns, ∀ z ∈ g.sc k, z ∈ g.ns) (h : TI g np fin (k :: pend) rs) :
  TI g (doneN (upd np k (-2)) rs (g.sc k)).1 (fin ++ [k]) pend (doneN (upd np k (-2)) rs (g.sc k)).2 := by
 have hk : k ∈ g.ns := h.mem k (by simp)
 have n0 := h.nd
 rw [List.nodup_append, List.cons_append, List.nodup_cons] at n0
 obtain ⟨n1, ⟨n2, n3⟩, n4⟩ := n0
 have kf : k ∉ fin := fun q => n4 k q k (by simp) rfl
 have hS : inl fin k = false := by simp [inl, kf]
 have out : ∀ z ∈ g.sc k, z ∉ fin ∧ z ∉ k :: pend ∧ z ∉ rs := fun z hz => by
  refine ⟨fun q => h.pre z (by simp [q]) k hk kf hz, fun q => h.pre z (List.mem_append_right _ (List.mem_append_left _ q)) k hk kf hz, fun q => h.pre z (by simp [q]) k hk kf hz⟩
 have eqw : ∀ j, wsum g.ns (inl (fin ++ [k])) (fun e => (g.sc e).count j) + (g.sc k).count j = wsum g.ns (inl fin) (fun e => (g.sc e).count j) := fun j => by
  rw [inl_app]; exact wsum_eq (w := fun e => (g.sc e).count j) nd hk hS
 have unp : ∀ z, z ≠ k → upd np k (-2) z = np z := fun z hz => upd_ne hz
 have nrs : rs.Nodup := (List.nodup_append.mp n3).2.1
 obtain ⟨d1, d2, d3⟩ := doneN_spec (g.sc k) (upd np k (-2)) rs (fun z hz => by
  obtain ⟨o1, o2, o3⟩ := out z hz
  rw [unp z (fun e => o2 (by simp [e])), h.cnt z (hin k hk z hz) o1 o2, ← eqw z]
  grind) nrs (fun z hz => (out z hz).2.2)
 have mrs : ∀ j, j ∈ (doneN (upd np k (-2)) rs (g.sc k)).2 → j ∈ rs ∨ j ∈ g.sc k := fun j hj => by
  rcases (d3 j).mp hj with q | q
  ·exact .inl q
  ·exact .inr q.1
 have pk : ∀ j, j ∈ pend → j ≠ k := fun j hj e => n2 (by simp [← e, hj])
 refine ⟨?_, ?_, ?_, ?_, ?_, ?_, ?_⟩
 ·rw [List.append_assoc, List.nodup_append]
  refine ⟨n1, ?_, fun a ha b hb e => ?_⟩
  ·rw [List.singleton_append, List.nodup_cons]
   refine ⟨fun q => ?_, ?_⟩
   ·rcases List.mem_append.mp q with q | q
    ·exact n2 (List.mem_append_left _ q)
    ·rcases mrs k q with q | q
     ·exact n2 (List.mem_append_right _ q)
     ·exact (out k q).2.1 (by simp)
   ·rw [List.nodup_append]
    refine ⟨(List.nodup_append.mp n3).1, d2, fun a ha b hb e => ?_⟩
    subst e
    rcases mrs a hb with q | q
    ·exact (List.nodup_append.mp n3).2.2 a ha a q rfl
    ·exact (out a q).2.1 (by simp [ha])
  ·subst e
   rw [List.singleton_append] at hb
   rcases List.mem_cons.mp hb with q | q
   ·subst q; exact kf ha
   ·rcases List.mem_append.mp q with q | q
    ·exact n4 a ha a (by simp [q]) rfl
    ·rcases mrs a q with q | q
     ·exact n4 a ha a (by simp [q]) rfl
     ·exact (out a q).1 ha
 ·intro j hj
  simp only [List.mem_append, List.mem_singleton] at hj
  rcases hj with (q | q) | q | q
  ·exact h.mem j (by simp [q])
  ·subst q; exact hk
  ·exact h.mem j (by simp [q])
  ·rcases mrs j q with q | q
   ·exact h.mem j (by simp [q])
   ·exact hin k hk j q
 ·intro j hj
  have hjk := pk j hj
  have : (g.sc k).count j = 0 := List.count_eq_zero.mpr fun q => (out j q).2.1 (by simp [hj])
  rw [d1, unp j hjk, h.onP j (by simp [hj]), this]; rfl
 ·intro j hj hf hp
  simp only [List.mem_append, List.mem_singleton, not_or] at hf
  rw [d1, unp j hf.2, h.cnt j hj hf.1 (by simp [hf.2, hp]), ← eqw j]
  grind
 ·intro j hj hf hp
  simp only [List.mem_append, List.mem_singleton, not_or] at hf
  have hp' : j ∉ k :: pend := by simp [hf.2, hp]
  rw [d3, h.rdy j hj hf.1 hp', unp j hf.2, h.cnt j hj hf.1 hp', ← eqw j]
  constructor
  ·rintro (q | ⟨_, q⟩) <;> grind
  ·intro q
   by_cases hz : j ∈ g.sc k
   ·right; exact ⟨hz, by grind⟩
   ·left
    have : (g.sc k).count j = 0 := List.count_eq_zero.mpr hz
    lia
 ·intro j hj e he hef
  simp only [List.mem_append, List.mem_singleton, not_or] at hef
  by_cases old : j ∈ fin ++ (k :: pend ++ rs)
  ·exact h.pre j old e he hef.1
  ·have hj2 : j ∈ (doneN (upd np k (-2)) rs (g.sc k)).2 := by
    simp only [List.mem_append, List.mem_singleton, List.mem_cons, not_or] at hj old
    rcases hj with (q | q) | q | q
    ·exact absurd q old.1
    ·simp at q; exact absurd q old.2.1.1
    ·exact absurd q old.2.1.2
    ·exact q
   simp only [List.mem_append, List.mem_cons, not_or] at old
   rcases (d3 j).mp hj2 with q | ⟨q1, q2⟩
   ·exact absurd q old.2.2
   ·have hj' : j ∈ g.ns := hin k hk j q1
    rw [unp j old.2.1.1, h.cnt j hj' old.1 (by simp [old.2.1.1, old.2.1.2]), ← eqw j] at q2
    have z0 : wsum g.ns (inl (fin ++ [k])) (fun e => (g.sc e).count j) = 0 := by grind
    have := wsum_zero.mp z0 e he (by simp [inl, hef])
    exact List.count_eq_zero.mp this
 ·intro i j hi e he hje
  rcases Nat.lt_or_ge i fin.length with q | q
  ·rw [List.getElem?_append_left q] at hi
   have := h.ord i j hi e he hje
   rw [List.take_append_of_le_length (Nat.le_of_lt q)]; exact this
  ·rw [List.getElem?_append_right q] at hi
   have e0 : i - fin.length = 0 := by
    cases e0 : i - fin.length with
    | zero => rfl
    | succ m => rw [e0] at hi; simp at hi
   rw [e0] at hi
   simp at hi
   subst hi
   have : e ∈ fin := Classical.byContradiction fun q => h.pre k (by simp) e he q hje
   have ei : i = fin.length := by grind
   rw [ei, List.take_left]; exact this
theorem TI.all {r : Int → Int} (hr : ∀ k ∈ g.ns, ∀ z ∈ g.sc k, r k < r z) (h : TI g np fin [] []) : ∀ k ∈ g.ns, k ∈ fin := by
 have least : ∀ l : List Int, (∃ k ∈ l, k ∉ fin) → ∃ k ∈ l, k ∉ fin ∧ ∀ j ∈ l, j ∉ fin → r k ≤ r j := by
  intro l
  induction l with
  | nil => rintro ⟨k, hk, _⟩; cases hk
  | cons a t ih =>
   intro hex
   by_cases ha : a ∈ fin
   ·obtain ⟨k, hk, hf⟩ := hex
    have hkt : k ∈ t := by
     rcases List.mem_cons.mp hk with q | q
     ·subst q; exact absurd ha hf
     ·exact q
    obtain ⟨m, hm, mf, ml⟩ := ih ⟨k, hkt, hf⟩
    refine ⟨m, .tail _ hm, mf, fun j hj jf => ?_⟩
    rcases List.mem_cons.mp hj with q | q
    ·subst q; exact absurd ha jf
    ·exact ml j q jf
   ·by_cases ht : ∃ k ∈ t, k ∉ fin
    ·obtain ⟨m, hm, mf, ml⟩ := ih ht
     by_cases hle : r a ≤ r m
     ·refine ⟨a, .head _, ha, fun j hj jf => ?_⟩
      rcases List.mem_cons.mp hj with q | q
      ·subst q; exact Int.le_refl _
      ·exact Int.le_trans hle (ml j q jf)
     ·refine ⟨m, .tail _ hm, mf, fun j hj jf => ?_⟩
      rcases List.mem_cons.mp hj with q | q
      ·subst q; lia
      ·exact ml j q jf
    ·refine ⟨a, .head _, ha, fun j hj jf => ?_⟩
     rcases List.mem_cons.mp hj with q | q
     ·subst q; exact Int.le_refl _
     ·exact absurd ⟨j, q, jf⟩ ht
 intro k hk
 refine Classical.byContradiction fun hf => ?_
 obtain ⟨m, hm, mf, ml⟩ := least g.ns ⟨k, hk, hf⟩
 have z0 : wsum g.ns (inl fin) (fun e => (g.sc e).count m) = 0 := wsum_zero.mpr fun e he hS => by
  have ef : e ∉ fin := by simpa [inl] using hS
  refine List.count_eq_zero.mpr fun hme => ?_
  have := hr e he m hme
  have := ml e he ef
  lia
 have := (h.rdy m hm mf (by simp)).mpr z0
 simp at this
end
end
section
section
variable {H0 H : AH} {g : Gr} {L : Lay} {r : Int → Int} {fr : List Fr3} {S : Int → Bool} {v k : Int} {it n : Nat}
theorem outV_keys {es : List (Int × V)} : (outV es v).map (·.1) = (es.map (·.1)).filter fun j => decide (j ≠ v) := by
 unfold outV
 rw [List.filter_map]
 rfl
theorem stV_keys {es : List (Int × V)} {X : V} (h : k ∉ es.map (·.1)) : (stV es k X).map (·.1) = es.map (·.1) ++ [k] := by
 unfold stV
 rw [if_neg]
 ·simp
 ·simp only [List.any_eq_true, decide_eq_true_eq]
  rintro ⟨a, ha, e⟩
  exact h (List.mem_map.mpr ⟨a, ha, e⟩)
theorem CI.last (C : CI H0 H g L r (fr ++ [(v, it, n)]) S) : v ∉ fr.map (·.1) := by
 have h := C.inc
 rw [List.map_append, List.pairwise_append] at h
 intro hm
 have := h.2.2 v hm v (by simp)
 grind
theorem CI.pop (C : CI H0 H g L r (fr ++ [(v, it, n)]) S) {es : List (Int × V)} {ep ep' : Nat} (hd : H.get (H0.length + 3) 0 = some (.dict es ep)) :
  CI H0 ((((H.put it 0 .dead).put H0.length 0 (.list (fr.map fun f => .int f.1))).put (H0.length + 3) 0 (.dict (outV es v) ep')).put (H0.length + 1) 0 (.list (fr.map fun f => .bm "list_iterator.__next__" (.ref f.2.1 0)))) g L r fr S := by
 obtain ⟨f1, f2, f3, f4⟩ := C.fs (v, it, n) (by simp)
 dsimp only at f1 f2 f3 f4
 obtain ⟨m, s1, s2, s3⟩ := C.set
 obtain ⟨es', ep0, d1, d2⟩ := C.dct
 rw [hd] at d1
 cases d1
 have g0 := C.stk
 have g1 := C.its
 have hnd := C.nd
 rw [List.map_append, List.nodup_append] at hnd
 have hin := C.inc
 rw [List.map_append, List.pairwise_append] at hin
 have k0 : (H.put it 0 .dead).get H0.length 0 = some (.list ((fr ++ [(v, it, n)]).map fun f => .int f.1)) := gp_ne f2 (by grind) g0
 have k3 : ∀ o, ((H.put it 0 .dead).put H0.length 0 o).get (H0.length + 3) 0 = some (.dict es ep) := fun o => gp_ne k0 (by grind) (gp_ne f2 (Nat.ne_of_lt f4) hd)
 have k1 : ∀ o o', (((H.put it 0 .dead).put H0.length 0 o).put (H0.length + 3) 0 o').get (H0.length + 1) 0 = some (.list ((fr ++ [(v, it, n)]).map fun f => .bm "list_iterator.__next__" (.ref f.2.1 0))) := fun o o' => gp_ne (k3 o) (by grind) (gp_ne k0 (Nat.ne_of_gt (Nat.le_refl (List.length H0).succ)) (gp_ne f2 (by grind) g1))
 have other : ∀ o o' o'' j ob, j ≠ it → j ≠ H0.length → j ≠ H0.length + 3 → j ≠ H0.length + 1 → H.get j 0 = some ob → ((((H.put it 0 .dead).put H0.length 0 o).put (H0.length + 3) 0 o').put (H0.length + 1) 0 o'').get j 0 = some ob := fun o o' o'' j ob a1 a2 a3 a4 h => gp_ne (k1 o o') a4 (gp_ne (k3 o) a3 (gp_ne k0 a2 (gp_ne f2 a1 h)))
 refine ⟨(((C.sm.put f2 (.inr (by lia))).put k0 (.inr (Nat.le_refl _))).put (k3 _) (.inr (by grind))).put (k1 _ _) (.inr (Nat.le.step Nat.le.refl)), gp_ne (k1 _ _) (Nat.ne_of_lt (Nat.le_refl (List.length H0).succ)) (gp_ne (k3 _) (by grind) (gp_eq k0)), gp_eq (k1 _ _), ⟨m, other _ _ _ _ _ (by grind) (by grind) (Nat.ne_of_lt (Nat.le_refl (List.length H0 + 2).succ)) (Nat.ne_of_gt (Nat.le_refl (List.length H0 + 1).succ)) s1, s2, by simp at s3; exact Nat.le_of_lt s3⟩, ⟨outV es v, ep', gp_ne (k1 _ _) (by grind) (gp_eq (k3 _)), ?_⟩, fun f hf => ?_, hnd.1, hin.1⟩
 ·rw [outV_keys, d2, List.map_append, List.filter_append]
  have e1 : (fr.map (·.1)).filter (fun j => decide (j ≠ v)) = fr.map (·.1) := by
   rw [List.filter_eq_self]
   intro a ha
   simp only [decide_eq_true_eq]
   intro e; subst e; exact C.last ha
  rw [e1]; simp
 ·obtain ⟨e1, e2, e3, e4⟩ := C.fs f (List.mem_append_left _ hf)
  exact ⟨e1, other _ _ _ _ _ (fun e => hnd.2.2 f.2.1 (List.mem_map.mpr ⟨f, hf, rfl⟩) it (by simp) e) (by lia) (Nat.ne_of_gt e4) (by lia) e2, e3, e4⟩
theorem CI.push (C : CI H0 H g L r fr S) (hk : k ∈ g.ns) (hS : S k = false) (hr : ∀ f ∈ fr, r f.1 < r k) {es : List (Int × V)} {ep ep' m : Nat} {X : V} (hs : H.get (H0.length + 2) 0 = some (.set S m)) (hd : H.get (H0.length + 3) 0 = some (.dict es ep)) :
  CI H0 ((((AH.put H (H0.length + 2) 0 (.set (plus S k) (m + 1)) ++ [Fam.one (.iter (L.su k) 0 0)] : AH).put (H0.length + 1) 0 (.list ((fr.map fun f => .bm "list_iterator.__next__" (.ref f.2.1 0)) ++ [.bm "list_iterator.__next__" (.ref H.length 0)]))).put (H0.length + 3) 0 (.dict (stV es k X) ep')).put H0.length 0 (.list ((fr.map fun f => .int f.1) ++ [.int k]))) g L r (fr ++ [(k, H.length, 0)]) (plus S k) := by
 obtain ⟨m', s1, s2, s3⟩ := C.set
 rw [hs] at s1
 cases s1
 obtain ⟨es', ep0, d1, d2⟩ := C.dct
 rw [hd] at d1
 cases d1
 have g0 := C.stk
 have g1 := C.its
 have hlt := lt_len hd
 have kn : k ∉ fr.map (·.1) := fun h => by
  obtain ⟨f, hf, e⟩ := List.mem_map.mp h
  have := hr f hf
  rw [e] at this; grind
 have a1 : ∀ j ob, j ≠ H0.length + 2 → H.get j 0 = some ob → (AH.put H (H0.length + 2) 0 (.set (plus S k) (m + 1)) ++ [Fam.one (.iter (L.su k) 0 0)] : AH).get j 0 = some ob := fun j ob h q => ga (gp_ne hs h q)
 have a2 : (AH.put H (H0.length + 2) 0 (.set (plus S k) (m + 1)) ++ [Fam.one (.iter (L.su k) 0 0)] : AH).get (H0.length + 2) 0 = some (.set (plus S k) (m + 1)) := ga (gp_eq hs)
 have a3 : (AH.put H (H0.length + 2) 0 (.set (plus S k) (m + 1)) ++ [Fam.one (.iter (L.su k) 0 0)] : AH).get H.length 0 = some (.iter (L.su k) 0 0) := by
  have := @ge (AH.put H (H0.length + 2) 0 (.set (plus S k) (m + 1))) (.iter (L.su k) 0 0)
  rw [put_length] at this; exact this
 have sm1 : Same (fun _ => False) H0 (AH.put H (H0.length + 2) 0 (.set (plus S k) (m + 1)) ++ [Fam.one (.iter (L.su k) 0 0)] : AH) := (C.sm.put hs (.inr (by grind))).app
 generalize (AH.put H (H0.length + 2) 0 (.set (plus S k) (m + 1)) ++ [Fam.one (.iter (L.su k) 0 0)] : AH) = N at a1 a2 a3 sm1
 have n1 := a1 _ _ (Nat.ne_of_lt (Nat.le_refl (List.length H0 + 1).succ)) g1
 have n3 : ∀ o, (N.put (H0.length + 1) 0 o).get (H0.length + 3) 0 = some (.dict es ep) := fun o => gp_ne n1 (by grind) (a1 _ _ (Nat.ne_of_gt (Nat.le_refl (List.length H0 + 2).succ)) hd)
 have n0 : ∀ o o', ((N.put (H0.length + 1) 0 o).put (H0.length + 3) 0 o').get H0.length 0 = some (.list (fr.map fun f => .int f.1)) := fun o o' => gp_ne (n3 o) (by grind) (gp_ne n1 (Nat.ne_of_lt (Nat.le_refl (List.length H0).succ)) (a1 _ _ (by grind) g0))
 have other : ∀ o o' o'' j ob, j ≠ H0.length → j ≠ H0.length + 3 → j ≠ H0.length + 1 → N.get j 0 = some ob → (((N.put (H0.length + 1) 0 o).put (H0.length + 3) 0 o').put H0.length 0 o'').get j 0 = some ob := fun o o' o'' j ob b1 b2 b3 h => gp_ne (n0 o o') b1 (gp_ne (n3 o) b2 (gp_ne n1 b3 h))
 have hu := unl_plus hk hS
 refine ⟨((sm1.put n1 (.inr (Nat.le.step Nat.le.refl))).put (n3 _) (.inr (by grind))).put (n0 _ _) (.inr (Nat.le_refl _)), by rw [List.map_append]; exact gp_eq (n0 _ _), by rw [List.map_append]; exact gp_ne (n0 _ _) (Nat.ne_of_gt (Nat.le_refl (List.length H0).succ)) (gp_ne (n3 _) (by grind) (gp_eq n1)), ⟨m + 1, other _ _ _ _ _ (by grind) (Nat.ne_of_lt (Nat.le_refl (List.length H0 + 2).succ)) (Nat.ne_of_gt (Nat.le_refl (List.length H0 + 1).succ)) a2, by grind, by simp; assumption⟩,
  ⟨stV es k X, ep', gp_ne (n0 _ _) (by grind) (gp_eq (n3 _)), by rw [stV_keys (by rw [d2]; exact kn), d2, List.map_append]; rfl⟩, fun f hf => ?_, ?_, ?_⟩
 ·rcases List.mem_append.mp hf with h | h
  ·obtain ⟨e1, e2, e3, e4⟩ := C.fs f h
   exact ⟨e1, other _ _ _ _ _ (by grind) (Nat.ne_of_gt e4) (by grind) (a1 _ _ (by lia) e2), e3, e4⟩
  ·rw [List.mem_singleton] at h
   subst h
   exact ⟨hk, other _ _ _ H.length _ (by grind) (Nat.ne_of_gt hlt) (by grind) a3, Nat.zero_le _, hlt⟩
 ·rw [List.map_append, List.nodup_append]
  refine ⟨C.nd, by simp, fun a ha b hb e => ?_⟩
  simp at hb
  obtain ⟨f, hf, q⟩ := List.mem_map.mp ha
  have := lt_len (C.fs f hf).2.1
  grind
 ·rw [List.map_append, List.pairwise_append]
  refine ⟨C.inc, by simp, fun a ha b hb => ?_⟩
  simp at hb
  subst hb
  obtain ⟨f, hf, q⟩ := List.mem_map.mp ha
  subst q
  exact hr f hf
end
end
section
section
variable {c : Cx} {A : Around} {σ : St} {Q : V → St → Prop} {b0 me d : Nat} {R : V} {p f : Int} {g : Gr} {L : Lay}
theorem rest_app {fr : List Fr3} {x : Fr3} : rest g (fr ++ [x]) = rest g fr + ((g.sc x.1).length - x.2.2) := by simp [rest]
@[reducible] noncomputable def cycL (me d n : Nat) (v : Option V) : List (Option V) := [some (.inst 380 me 0), some (.ref d 0), some (.ref n 0), some (.ref (n + 1) 0), some (.ref (n + 1 + 1) 0), some (.ref (n + 1 + 1 + 1) 0), v]
noncomputable def cycW (g : Gr) (S : Int → Bool) (fr : List Fr3) : Nat := wsum g.ns S (fun v => (g.sc v).length + 1) + rest g fr
inductive CycI (me d : Nat) (H : AH) (g : Gr) (L : Lay) (r : Int → Int) : St → Prop
 | mk (v : Option V) (H' : AH) (S : Int → Bool) (C : CI H H' g L r [] S) : CycI me d H g L r ⟨cycL me d H.length v, H'⟩
inductive CycJ (me d : Nat) (H : AH) (g : Gr) (L : Lay) (r : Int → Int) (S : Int → Bool) (N : Nat) : Nat → St → Prop
 | mk (v : Option V) (H' : AH) (fr : List Fr3) (C : CI H H' g L r fr S) (hN : cycW g S fr ≤ N) : CycJ me d H g L r S N fr.length ⟨cycL me d H.length v, H'⟩
inductive CycO (me d : Nat) (H : AH) (g : Gr) (L : Lay) (r : Int → Int) : Nat → St → Prop
 | mk (node : Int) (H' : AH) (fr : List Fr3) (S : Int → Bool) (C : CI H H' g L r fr S) (hk : node ∈ g.ns) (hr : ∀ f ∈ fr, r f.1 < r node) : CycO me d H g L r (cycW g S fr) ⟨cycL me d H.length (some (.int node)), H'⟩
theorem cyc_inner {H : AH} {r : Int → Int} (G : Good c) (FF : Fit k_cyc c) (hh : A.handled = none) (stk : Stk c A) (T : TSat H b0 me d R p f g L) (hlen : g.ns.length < 900)
  (hin : ∀ k ∈ g.ns, ∀ z ∈ g.sc k, z ∈ g.ns) (hr : ∀ k ∈ g.ns, ∀ z ∈ g.sc k, r k < r z) {h0 : Heap} {ft : Addr → Prop} {K' : Internal.Kt} {v : Option V} {H' : AH} {fr : List Fr3} {S : Int → Bool} {N : Nat} (C : CI H H' g L r fr S) (hN : cycW g S fr ≤ N)
  (k1 : ∀ node H2 fr2, CI H H2 g L r fr2 S → node ∈ g.ns → (∀ f ∈ fr2, r f.1 < r node) → cycW g S fr2 < N → K'.next ⟨cycL me d H.length (some (.int node)), H2⟩)
  (k2 : ∀ v H2, CI H H2 g L r [] S → K'.brk ⟨cycL me d H.length v, H2⟩) :
  vcSs A [.loop (.loc 2) [.sem (chkTry k_cyc 6 (.sub (.loc 3) (.neg (.int 1))) h_cyc)] [.brk]] (c.at h0 ft) ⟨cycL me d H.length v, H'⟩ K' := by
 refine .mk (CycJ me d H g L r S N) fr.length (.mk v H' fr C hN) fun m σ' I => ?_
 clear C hN
 cases I with
 | mk v H' fr C hN =>
  have hl := C.len
  refine tr_list C.stk (by rw [List.length_map]; lia) ?_
  rcases List.eq_nil_or_concat fr with e | ⟨fr', ⟨v1, it, n⟩, e⟩
  ·subst e
   exact sel_f (by decide) (k2 _ _ C)
  ·rw [List.concat_eq_append] at e
   subst e
   refine sel_t (by simp) ?_
   obtain ⟨f1, f2, f3, f4⟩ := C.fs (v1, it, n) (by simp)
   dsimp only at f1 f2 f3 f4
   have TT := T.same C.sm
   refine fun stm hst => ex_try (FF.at h0 ft) hh stk hst ?_
   refine neg_i ?_
   refine item_neg (Y := .bm "list_iterator.__next__" (.ref it 0)) C.its (by decide) (by simp; grind) (by simp; simp at hl; lia) ?_ ?_
   ·have e2 : (-1 + ((List.map (fun f : Fr3 => V.bm "list_iterator.__next__" (.ref f.2.1 0)) (fr' ++ [(v1, it, n)])).length : Int)).toNat = (List.map (fun f : Fr3 => V.bm "list_iterator.__next__" (.ref f.2.1 0)) fr').length := by
     simp only [List.length_map, List.length_append, List.length_cons, List.length_nil]; lia
    rw [e2, List.map_append]
    simp
   ·refine .mk it 0 (L.su v1) 0 n ((g.sc v1).map .int) rfl f2 (TT.succ v1 f1) (fun Y hY => ?_) (fun hY A' => ?_)
    ·rw [List.getElem?_map] at hY
     cases hw : (g.sc v1)[n]? with
     | none => rw [hw] at hY; cases hY
     | some w =>
      rw [hw] at hY
      cases hY
      have hn : n < (g.sc v1).length := (List.getElem?_eq_some_iff.mp hw).1
      have hwm : w ∈ g.sc v1 := List.mem_of_getElem? hw
      refine k1 w _ _ (C.draw hn) (hin v1 f1 w hwm) (fun f hf => ?_) ?_
      ·have hv := hr v1 f1 w hwm
       rcases List.mem_append.mp hf with h | h
       ·have hi := C.inc
        rw [List.map_append, List.pairwise_append] at hi
        have := hi.2.2 f.1 (List.mem_map.mpr ⟨f, h, rfl⟩) v1 (by simp)
        lia
       ·rw [List.mem_singleton] at h
        subst h; exact hv
      ·unfold cycW at hN ⊢
       rw [rest_app] at hN ⊢
       simp only at hN ⊢
       grind
    ·obtain ⟨es, ep2, d1, d2⟩ := C.dct
     have s0 := C.stk
     have i0 := C.its
     rw [List.map_append] at s0 i0
     have g0 : (H'.put it 0 .dead).get H.length 0 = some (.list ((fr'.map fun f => V.int f.1) ++ [.int v1])) := gp_ne f2 (by grind) s0
     have g3 : ∀ o, ((H'.put it 0 .dead).put H.length 0 o).get (H.length + 1 + 1 + 1) 0 = some (.dict es ep2) := fun o => gp_ne g0 (by grind) (gp_ne f2 (Nat.ne_of_lt f4) d1)
     have g1 : ∀ o o', (((H'.put it 0 .dead).put H.length 0 o).put (H.length + 1 + 1 + 1) 0 o').get (H.length + 1) 0 = some (.list ((fr'.map fun f => V.bm "list_iterator.__next__" (.ref f.2.1 0)) ++ [.bm "list_iterator.__next__" (.ref it 0)])) := fun o o' => gp_ne (g3 o) (by grind) (gp_ne g0 (Nat.ne_of_gt (Nat.le_refl (List.length H).succ)) (gp_ne f2 (by grind) i0))
     simp at hl
     refine getM_list g0 F.slot_list_pop F.type_list_pop ?_
     refine pop_list g0 (by rw [List.length_map]; lia) ?_
     have hes : es.length = fr'.length + 1 := by
      have := congrArg List.length d2
      simpa using this
     refine del_dict (g3 _) (by lia) ?_ fun ep' => ?_
     ·rw [look_some, d2]; simp
     refine getM_list (g1 _ _) F.slot_list_pop F.type_list_pop ?_
     refine pop_list (g1 _ _) (by rw [List.length_map]; grind) ?_
     refine ⟨fr'.length, by simp, .mk v _ fr' (C.pop d1) ?_⟩
     unfold cycW at hN ⊢
     rw [rest_app] at hN
     grind
theorem cyc_vc {H : AH} {Kt : Kt} {r : Int → Int} (G : Good c) (FF : Fit k_cyc c) (hh : A.handled = none) (stk : Stk c A) (T : TSat H b0 me d R p f g L) (hlen : g.ns.length < 900) (hsc : ∀ j, (g.sc j).length < 900)
  (hin : ∀ k ∈ g.ns, ∀ z ∈ g.sc k, z ∈ g.ns) (hr : ∀ k ∈ g.ns, ∀ z ∈ g.sc k, r k < r z)
  (q : ∀ loc H', Same (fun _ => False) H H' → Kt.ret .none ⟨loc, H'⟩) :
  vcSs A t_cyc c ⟨[some (.inst 380 me 0), none, none, none, none, none, none], H⟩ Kt := by
 obtain ⟨ep, hd⟩ := T.dict
 refine get_attr G.top (k := 10) (by decide) rfl (at10 _) T.self rfl rfl rfl ?_
 refine set0 ?_
 have sq : ∀ {H' : AH}, Same (fun _ => False) H H' → seqOf (.ref d 0) H' = some (g.ns.map V.int, ep + 1) := fun sm => by
  rw [sq_dict (sm.2 _ _ _ id hd), List.map_map]
  rfl
 have C0 : CI H ((((H ++ [Fam.one (.list [])]) ++ [Fam.one (.list [])]) ++ [Fam.one (.set (fun _ => false) 0)]) ++ [Fam.one (.dict [] 0)]) g L r [] (fun _ => false) := by
  have e1 : (H ++ [Fam.one (.list [])] : AH).length = H.length + 1 := by simp
  have e2 : ((H ++ [Fam.one (.list [])]) ++ [Fam.one (.list [])] : AH).length = H.length + 2 := by simp
  have e3 : (((H ++ [Fam.one (.list [])]) ++ [Fam.one (.list [])]) ++ [Fam.one (.set (fun _ => false) 0)] : AH).length = H.length + 3 := by simp
  refine ⟨Same.refl.app.app.app.app, ga (ga (ga ge)), ?_, ⟨0, ?_, ?_, by simp⟩, ⟨[], 0, ?_, rfl⟩, fun f hf => (by cases hf), by simp, by simp⟩
  ·rw [← e1]; exact ga (ga ge)
  ·rw [← e2]; exact ga ge
  ·have := List.length_filter_le (fun v => !(fun _ => false : Int → Bool) v) g.ns
   unfold unl; lia
  ·rw [← e3]; exact ge
 refine .mk (g.ns.map V.int) (ep + 1) (fun _ => CycI me d H g L r) (sq C0.sm) (by
  rw [show ((H ++ [Fam.one (.list [])]) ++ [Fam.one (.list [])] : AH).length = H.length + 1 + 1 by simp, show (((H ++ [Fam.one (.list [])]) ++ [Fam.one (.list [])]) ++ [Fam.one (.set (fun _ => false) 0)] : AH).length = H.length + 1 + 1 + 1 by simp, show (H ++ [Fam.one (.list [])] : AH).length = H.length + 1 by simp]
  exact .mk none _ _ C0) (fun σ' I => ?_) (fun j σ' Y I hj => ?_)
 ·cases I with
  | mk v H' S C => exact ⟨sq C.sm, q _ _ C.sm⟩
 ·cases I with
  | mk v H' S C =>
  refine ⟨sq C.sm, fun h0 ft => ?_⟩
  rw [List.getElem?_map] at hj
  cases hk : g.ns[j]? with
  | none => rw [hk] at hj; cases hj
  | some k =>
   rw [hk] at hj
   cases hj
   have hkin : k ∈ g.ns := List.mem_of_getElem? hk
   obtain ⟨m, s1, _, _⟩ := C.set
   refine in_set s1 ?_
   refine sel_d (fun _ => ?_) (fun _ => ?_)
   ·exact .mk _ H' S C
   ·refine .mk (CycO me d H g L r) _ (.mk k H' [] S C hkin fun f hf => nomatch hf) fun n σ' I => ?_
    clear C s1 hk hkin
    cases I with
    | mk node H' fr S C hkin hrk =>
    obtain ⟨m, s1, s2, s3⟩ := C.set
    obtain ⟨es, ep2, d1, d2⟩ := C.dct
    have hl := C.len
    refine in_set s1 ?_
    refine sel_d (fun _ => ?_) (fun hb => ?_)
    ·refine in_dict G.top d1 ?_
     have e : (look es node).isSome = false := by
      cases e : (look es node).isSome with
      | false => rfl
      | true =>
       rw [look_some, d2] at e
       obtain ⟨f, hf, q⟩ := List.mem_map.mp e
       have := hrk f hf
       rw [q] at this; grind
     refine sel_f (by rw [e]; decide) ?_
     exact cyc_inner G FF hh stk T hlen hin hr C (Nat.le_refl _) (fun node' H2 fr2 C2 a1 a2 a3 => ⟨_, a3, .mk node' H2 fr2 S C2 a1 a2⟩) (fun v H2 C2 => .mk v H2 S C2)
    ·replace hb : S node = false := Bool.eq_false_iff.mpr hb
     have TT := T.same C.sm
     obtain ⟨ep3, hd3⟩ := TT.dict
     have hm : m < 1000 := by grind
     refine getM_set s1 ?_
     refine add_set s1 hm ?_
     rw [hb, if_neg Bool.false_ne_true]
     have ne3 : H.length + 1 + 1 ≠ d := fun e => by have := lt_len hd; grind
     have q1 : ∀ o, (H'.put (H.length + 1 + 1) 0 o).get (H.length + 1) 0 = some (.list (fr.map fun f => .bm "list_iterator.__next__" (.ref f.2.1 0))) := fun o => gp_ne s1 (Nat.ne_of_lt (Nat.le_refl (List.length H + 1).succ)) C.its
     have hlo : ∀ j ob, j < H.length → H'.get j 0 = some ob → ∀ o, (H'.put (H.length + 1 + 1) 0 o).get j 0 = some ob := fun j ob hj h o => gp_ne s1 (by grind) h
     refine getM_list (q1 _) F.slot_list_append F.type_list_append ?_
     refine item_dict (hlo d _ (lt_len hd) hd3 _) (by rw [look_map, if_pos hkin]) ?_
     refine get_slotV G.top (slot_succ _) (hlo _ _ (lt_len (T.info node hkin)) (TT.info node hkin) _) rfl rfl ?_
     refine iter_list (hlo _ _ (lt_len (T.succ node hkin)) (TT.succ node hkin) _) ?_
     have eN : List.length (H'.put (H.length + 1 + 1) 0 (O.set (fun j => S j || decide (j = node)) (m + 1))) = H'.length := put_length
     rw [eN]
     have P := fun ep' => C.push (ep' := ep') (k := node) hkin hb hrk s1 d1 (X := .int fr.length)
     have hH := lt_len d1
     have r0 : (AH.put H' (H.length + 1 + 1) 0 (O.set (fun j => S j || decide (j = node)) (m + 1)) ++ [Fam.one (O.iter (L.su node) 0 0)] : AH).get H'.length 0 = some (.iter (L.su node) 0 0) := by
      have := @ge (AH.put H' (H.length + 1 + 1) 0 (O.set (fun j => S j || decide (j = node)) (m + 1))) (.iter (L.su node) 0 0)
      rw [put_length] at this; exact this
     have r1 : (AH.put H' (H.length + 1 + 1) 0 (O.set (fun j => S j || decide (j = node)) (m + 1)) ++ [Fam.one (O.iter (L.su node) 0 0)] : AH).get (H.length + 1) 0 = some (.list (fr.map fun f => .bm "list_iterator.__next__" (.ref f.2.1 0))) := ga (q1 _)
     have r2 : ∀ o, ((AH.put H' (H.length + 1 + 1) 0 (O.set (fun j => S j || decide (j = node)) (m + 1)) ++ [Fam.one (O.iter (L.su node) 0 0)] : AH).put (H.length + 1) 0 o).get H.length 0 = some (.list (fr.map fun f => .int f.1)) := fun o => gp_ne r1 (Nat.ne_of_lt (Nat.le_refl (List.length H).succ)) (ga (gp_ne s1 (by grind) C.stk))
     have r3 : ∀ o, ((AH.put H' (H.length + 1 + 1) 0 (O.set (fun j => S j || decide (j = node)) (m + 1)) ++ [Fam.one (O.iter (L.su node) 0 0)] : AH).put (H.length + 1) 0 o).get (H.length + 1 + 1 + 1) 0 = some (.dict es ep2) := fun o => gp_ne r1 (by grind) (ga (gp_ne s1 (Nat.ne_of_gt (Nat.le_refl (List.length H + 2).succ)) d1))
     have r4 : ∀ o o', (((AH.put H' (H.length + 1 + 1) 0 (O.set (fun j => S j || decide (j = node)) (m + 1)) ++ [Fam.one (O.iter (L.su node) 0 0)] : AH).put (H.length + 1) 0 o).put (H.length + 1 + 1 + 1) 0 o').get H.length 0 = some (.list (fr.map fun f => .int f.1)) := fun o o' => gp_ne (r3 o) (by grind) (r2 o)
     refine attr_next r0 ?_
     refine append_list r1 (by rw [List.length_map]; grind) ?_
     refine len_list (r2 _) (by rw [List.length_map]; grind) ?_
     have hes : es.length = fr.length := by
      have := congrArg List.length d2
      simpa using this
     refine set_dict (r3 _) (by lia) fun ep' => ?_
     refine getM_list (r4 _ _) F.slot_list_append F.type_list_append ?_
     refine append_list (r4 _ _) (by rw [List.length_map]; grind) ?_
     have hw := wsum_plus (ns := g.ns) (w := fun v => (g.sc v).length + 1) hkin hb
     refine cyc_inner G FF hh stk T hlen hin hr (fr := fr ++ [(node, H'.length, 0)]) (S := plus S node) (N := cycW g S fr) ?_ ?_ (fun node' H2 fr2 C2 a1 a2 a3 => ⟨_, a3, .mk node' H2 fr2 _ C2 a1 a2⟩) (fun v H2 C2 => .mk v H2 _ C2)
     ·rw [List.length_map]; exact P _
     ·unfold cycW; rw [rest_app]; simp only [] at hw ⊢; lia
end
end
section
theorem kp370 (P : Params) : keepIn (K P) (.ref 370) = true := by kernel_rfl
theorem mt_cyc (P : Params) : methOk (K P) 380 (s "_find_cycle") 370 = true := by kernel_rfl
section
variable {c : Cx} {A : Around} {σ : St} {Q : V → St → Prop} {b0 me d : Nat} {R : V} {p f : Int} {g : Gr} {L : Lay}
theorem call_cyc {l₀ : List (Option V)} {H₀ : AH} {r : Int → Int} (G : Good c) (rm : Room 1 A) (stk : Stk c A) (T : TSat H₀ b0 me d R p f g L) (hlen : g.ns.length < 900) (hsc : ∀ j, (g.sc j).length < 900)
  (hin : ∀ k ∈ g.ns, ∀ z ∈ g.sc k, z ∈ g.ns) (hr : ∀ k ∈ g.ns, ∀ z ∈ g.sc k, r k < r z)
  (q : ∀ H', Same (fun _ => False) H₀ H' → Q .none ⟨l₀, H'⟩) : Ca c A ⟨l₀, H₀⟩ (.obj 370) [.inst 380 me 0] Q := by
 refine (call_codeE (Ys := [.inst 380 me 0]) G rm (ok_cyc _) (bd1 G.top fun W v0 r0 => ?_) (by simp [n_cyc]) fun c' F' G' hw L he ho => ?_).ca
 ·exact ⟨[v0], fun S => by kernel_rfl, VRs.cons r0 (VRs.nil _)⟩
 ·exact cyc_vc G' F' rm.handled (stk.deeper (by rw [(ok_cyc c.w.params).kind]; decide) he ho) T hlen hsc hin hr fun loc => q
end
noncomputable def rdyF (g : Gr) (L : Lay) : V → Option V
 | .ref i _ => (g.ns.find? fun k => L.ni k = i).bind fun k => if g.np k = 0 then some (.int k) else none
 | _ => none
noncomputable def ready0 (g : Gr) : List Int := g.ns.filter fun k => decide (g.np k = 0)
theorem find_ni {ns : List Int} {ni : Int → Nat} {k : Int} (hk : k ∈ ns) (inj : ∀ j ∈ ns, ∀ k ∈ ns, ni j = ni k → j = k) : ns.find? (fun j => ni j = ni k) = some k := by
 cases e : ns.find? (fun j => ni j = ni k) with
 | none =>
  rw [List.find?_eq_none] at e
  have := e k hk
  simp at this
 | some j =>
  have h1 := List.find?_some e
  have h2 := List.mem_of_find?_eq_some e
  simp at h1
  rw [inj j h2 k hk h1]
theorem rdy_list {g : Gr} {L : Lay} (inj : ∀ j ∈ g.ns, ∀ k ∈ g.ns, L.ni j = L.ni k → j = k) : (g.ns.map fun k => V.ref (L.ni k) 0).filterMap (rdyF g L) = (ready0 g).map .int := by
 have : ∀ l : List Int, (∀ k ∈ l, k ∈ g.ns) → (l.map fun k => V.ref (L.ni k) 0).filterMap (rdyF g L) = (l.filter fun k => decide (g.np k = 0)).map .int := by
  intro l
  induction l with
  | nil => intro _; rfl
  | cons a r ih =>
   intro h
   have ia := ih fun k hk => h k (.tail _ hk)
   have ea : rdyF g L (.ref (L.ni a) 0) = if g.np a = 0 then some (.int a) else none := by
    simp only [rdyF]
    rw [find_ni (h a (.head _)) inj]; rfl
   rw [List.map_cons, List.filterMap_cons, ea]
   by_cases q : g.np a = 0
   ·simp only [q, if_pos, List.filter_cons, decide_true, List.map_cons, ia]
   ·simp only [q, if_neg, not_false_eq_true, List.filter_cons, decide_false, Bool.false_eq_true, if_false, ia]
 exact this g.ns fun _ h => h
section
variable {c : Cx} {A : Around} {σ : St} {Q : V → St → Prop} {b0 me d : Nat} {p f : Int} {g : Gr} {L : Lay}
theorem prep_vc {H : AH} {Kt : Kt} {r : Int → Int} (G : Good c) (FF : Fit k_prep c) (hh : A.handled = none) (rm : Room 1 A) (stk : Stk c A) (T : TSat H b0 me d .none p f g L) (hlen : g.ns.length < 900) (hsc : ∀ j, (g.sc j).length < 900)
  (hin : ∀ k ∈ g.ns, ∀ z ∈ g.sc k, z ∈ g.ns) (hr : ∀ k ∈ g.ns, ∀ z ∈ g.sc k, r k < r z)
  (q : ∀ loc H' rr, TSr H' b0 me d rr p f g L (ready0 g) → Same (fun j => b0 ≤ j) H H' → Kt.next ⟨loc, H'⟩) :
  vcSs A t_prep c ⟨[some (.inst 380 me 0), none], H⟩ Kt := by
 obtain ⟨ep, hd⟩ := T.dict
 refine get_attr G.top (k := 11) (by decide) rfl (at11 _) T.self rfl rfl rfl ?_
 refine fun stm hst => ex_asgC FF hh ?_ hst
 refine get_attr G.top (k := 10) (by decide) rfl (at10 _) T.self rfl rfl rfl ?_
 refine getM_dict hd F.slot_dict_values F.type_dict_values ?_
 refine values_dict G.top hd ?_
 refine .mk (g.ns.map fun k => V.ref (L.ni k) 0) (ep + 1) (rdyF g L) ?_ (by rw [List.length_map]; lia) ?_ ?_
 ·rw [sq_vals hd, List.map_map]; rfl
 ·intro c' hw h1 loc Y cap hY
  obtain ⟨k, hk, rfl⟩ := List.mem_map.mp hY
  have top : (K c'.w.params).In c'.h1 := by rw [hw, h1]; exact G.top
  have ef : rdyF g L (.ref (L.ni k) 0) = if g.np k = 0 then some (.int k) else none := by
   simp only [rdyF]
   rw [find_ni hk T.nij]; rfl
  have hl : loc.length = 1 := cap.1
  obtain ⟨x, rfl⟩ := List.length_eq_one_iff.mp hl
  refine get_slotV top (slot_npred _) (T.info k hk) rfl rfl ?_
  refine sel_d (fun hb => ?_) (fun hb => ?_)
  ·refine get_slotV top (slot_node _) (T.info k hk) rfl rfl ?_
   rw [ef, if_pos hb]
   exact ⟨rfl, rfl, rfl, fun i o h _ => nomatch h⟩
  ·rw [ef, if_neg hb]
   exact ⟨rfl, rfl, rfl, fun i o h _ => nomatch h⟩
 ·rw [rdy_list T.nij]
  have gs := ga (F := Fam.one (.list ((ready0 g).map V.int))) T.self
  refine set_attr G.top (k := 11) (by decide) rfl (at11 _) gs rfl (by simp) ?_
  have T1 : TSr ((H ++ [Fam.one (.list ((ready0 g).map V.int))] : AH).put me 0 (.ns [(10, .ref d 0), (11, .ref H.length 0), (12, .int p), (13, .int f)])) b0 me d H.length p f g L (ready0 g) := by
   refine ⟨(T.app (F := Fam.one (.list ((ready0 g).map V.int)))).setSelf, gp_ne gs (fun e => ?_) ge, fun k hk e => ?_, Nat.le_of_lt (Nat.lt_of_le_of_lt T.bd (lt_len hd))⟩
   ·have := lt_len T.self; grind
   ·have := lt_len (T.succ k hk); grind
  have sm1 : Same (fun j => b0 ≤ j) H ((H ++ [Fam.one (.list ((ready0 g).map V.int))] : AH).put me 0 (.ns [(10, .ref d 0), (11, .ref H.length 0), (12, .int p), (13, .int f)])) := Same.refl.app.put gs (.inl T.bme)
  refine getM_inst G.top (mt_cyc _) T1.T.self rfl ?_
  refine ⟨keep_fn G kp370, ?_⟩
  refine call_cyc (r := r) G rm stk T1.T hlen hsc hin hr fun H' sm => ?_
  refine q _ H' H.length ⟨T1.T.same sm, sm.2 _ _ _ id T1.rl, T1.rn, T1.rb⟩ (sm1.trans (sm.mono fun _ h => h.elim))
theorem call_prep {l₀ : List (Option V)} {H₀ : AH} {r : Int → Int} (G : Good c) (rm : Room 2 A) (stk : Stk c A) (T : TSat H₀ b0 me d .none p f g L) (hlen : g.ns.length < 900) (hsc : ∀ j, (g.sc j).length < 900)
  (hin : ∀ k ∈ g.ns, ∀ z ∈ g.sc k, z ∈ g.ns) (hr : ∀ k ∈ g.ns, ∀ z ∈ g.sc k, r k < r z)
  (q : ∀ H' rr, TSr H' b0 me d rr p f g L (ready0 g) → Same (fun j => b0 ≤ j) H₀ H' → Q .none ⟨l₀, H'⟩) : Ca c A ⟨l₀, H₀⟩ (.obj 335) [.inst 380 me 0] Q := by
 refine (call_codeE (Ys := [.inst 380 me 0]) G (rm.less (by decide)) (ok_prep _) (bd1 G.top fun W v0 r0 => ?_) (by simp [n_prep]) fun c' F' G' hw L he ho => ?_).ca
 ·exact ⟨[v0], fun S => by kernel_rfl, VRs.cons r0 (VRs.nil _)⟩
 ·exact prep_vc G' F' rm.handled rm.deeper (stk.deeper (by rw [(ok_prep c.w.params).kind]; decide) he ho) T hlen hsc hin hr fun loc => q
end
end
section
noncomputable def upto (n : Nat) : List Int := (List.range n).map fun (k : Nat) => (k : Int)
theorem mem_upto {n : Nat} {k : Int} : k ∈ upto n ↔ 0 ≤ k ∧ k < n := by
 unfold upto
 rw [List.mem_map]
 constructor
 ·rintro ⟨a, ha, rfl⟩
  rw [List.mem_range] at ha
  lia
 ·rintro ⟨h1, h2⟩
  exact ⟨k.toNat, by rw [List.mem_range]; lia, by grind⟩
theorem nodup_upto {n : Nat} : (upto n).Nodup := by
 unfold upto
 exact List.pairwise_map.mpr (List.nodup_range.imp fun h e => h (by grind))
theorem upto_succ {n : Nat} : upto (n + 1) = upto n ++ [(n : Int)] := by simp [upto, List.range_succ]
theorem upto_len {n : Nat} : (upto n).length = n := by simp [upto]
noncomputable def grT (ns : List Int) (P : List (Int × Int)) : Gr := ⟨ns, fun k => (P.countP fun x => decide (x.1 = k) : Nat), fun e => (P.filter fun x => decide (x.2 = e)).map (·.1)⟩
theorem wit_id {g : Gr} {k : Int} (h : k ∈ g.ns) : g.wit k = g := by unfold Gr.wit; rw [if_pos h]
theorem grT_step {ns : List Int} {P : List (Int × Int)} {l e : Int} (hl : l ∈ ns) (he : e ∈ ns) : (((((grT ns P).wit l).bump l).wit e).link e l) = grT ns (P ++ [(l, e)]) := by
 rw [wit_id (g := grT ns P) hl, wit_id (g := (grT ns P).bump l) he]
 unfold grT Gr.bump Gr.link
 refine congr (congrArg (Gr.mk ns) ?_) ?_
 ·funext k
  unfold upd
  rw [List.countP_append]
  by_cases h : k = l
  ·subst h; simp
  ·have h' : ¬ l = k := fun e => h e.symm
   simp [h, h']
 ·funext k
  unfold upd
  rw [List.filter_append, List.map_append]
  by_cases h : k = e
  ·subst h; simp
  ·have h' : ¬ e = k := fun q => h q.symm
   simp [h, h']
theorem grT_nil {ns : List Int} : grT ns [] = ⟨ns, fun _ => 0, fun _ => []⟩ := by simp [grT]
theorem wsum_add {ns : List Int} {S : Int → Bool} {w1 w2 : Int → Nat} : wsum ns S (fun e => w1 e + w2 e) = wsum ns S w1 + wsum ns S w2 := by
 unfold wsum
 induction unl ns S with
 | nil => rfl
 | cons a r ih => simp only [List.map_cons, List.sum_cons, ih]; grind
theorem grT_cnt {ns : List Int} {k : Int} (nd : ns.Nodup) : ∀ (P : List (Int × Int)), (∀ x ∈ P, x.2 ∈ ns) → wsum ns (inl []) (fun e => ((grT ns P).sc e).count k) = P.countP fun x => decide (x.1 = k)
 | [], _ => by
  refine wsum_zero.mpr fun e _ _ => ?_
  simp [grT]
 | (l, e0) :: P, h => by
  have ih := grT_cnt (k := k) nd P fun x hx => h x (.tail _ hx)
  have he0 : e0 ∈ ns := h (l, e0) (.head _)
  have e1 : (fun e => ((grT ns ((l, e0) :: P)).sc e).count k) = fun e => (if e0 = e then (if l = k then 1 else 0) else 0) + ((grT ns P).sc e).count k := by
   funext e
   unfold grT
   simp only [List.filter_cons]
   by_cases q : e0 = e
   ·simp [q, List.count_cons]; by_cases q' : l = k <;> simp [q'] <;> grind
   ·simp [q]
  have e2 : wsum ns (inl []) (fun e => (if e0 = e then (if l = k then 1 else 0) else 0)) = if l = k then 1 else 0 := by
   have := wsum_eq (S := inl []) (w := fun e => if e0 = e then (if l = k then 1 else 0) else 0) nd he0 (by simp [inl])
   have z : wsum ns (plus (inl []) e0) (fun e => if e0 = e then (if l = k then 1 else 0) else 0) = 0 := wsum_zero.mpr fun e _ hS => by
    have : ¬ e0 = e := fun q => by subst q; simp [plus] at hS
    simp [this]
   rw [z] at this
   simpa using this.symm
  rw [e1, wsum_add, e2, ih, List.countP_cons]
  by_cases q : l = k <;> simp [q]; grind
theorem grT_in {ns : List Int} {P : List (Int × Int)} {e z : Int} : z ∈ (grT ns P).sc e ↔ (z, e) ∈ P := by
 unfold grT
 simp only [List.mem_map, List.mem_filter, decide_eq_true_eq]
 constructor
 ·rintro ⟨⟨a, b⟩, ⟨h1, h2⟩, h3⟩
  simp only at h2 h3
  subst h2 h3; exact h1
 ·intro h; exact ⟨(z, e), ⟨h, rfl⟩, rfl⟩
theorem TI.start {ns : List Int} {P : List (Int × Int)} (nd : ns.Nodup) (h : ∀ x ∈ P, x.2 ∈ ns) : TI (grT ns P) (grT ns P).np [] [] (ready0 (grT ns P)) := by
 have cn : ∀ k, (grT ns P).np k = (wsum ns (inl []) (fun e => ((grT ns P).sc e).count k) : Int) := fun k => by
  rw [grT_cnt nd P h]; rfl
 refine ⟨?_, fun k hk => ?_, fun k hk => (by cases hk), fun k _ _ _ => cn k, fun k hk _ _ => ?_, fun k hk e he _ q => ?_, fun i k hi => (by cases hi)⟩
 ·simp only [List.nil_append]; exact nd.sublist List.filter_sublist
 ·simp only [List.nil_append] at hk
  exact (List.mem_filter.mp hk).1
 ·unfold ready0
  rw [List.mem_filter]
  simp only [decide_eq_true_eq]
  have e : (grT ns P).ns = ns := rfl
  rw [e, cn k]
  constructor
  ·rintro ⟨_, q⟩; grind
  ·intro q; exact ⟨hk, by grind⟩
 ·simp only [List.nil_append] at hk
  have := (List.mem_filter.mp hk).2
  simp only [decide_eq_true_eq] at this
  rw [cn k] at this
  have z : wsum ns (inl []) (fun e => ((grT ns P).sc e).count k) = 0 := by grind
  have := wsum_zero.mp z e he (by simp [inl])
  exact List.count_eq_zero.mp this q
end
section
theorem kp380 (P : Params) : keepIn (K P) (.ref 380) = true := by kernel_rfl
theorem kp330 (P : Params) : keepIn (K P) (.ref 330) = true := by kernel_rfl
theorem kp335 (P : Params) : keepIn (K P) (.ref 335) = true := by kernel_rfl
theorem kp342 (P : Params) : keepIn (K P) (.ref 342) = true := by kernel_rfl
theorem kp349 (P : Params) : keepIn (K P) (.ref 349) = true := by kernel_rfl
theorem kp363 (P : Params) : keepIn (K P) (.ref 363) = true := by kernel_rfl
theorem mt_add (P : Params) : methOk (K P) 380 (s "add") 330 = true := by kernel_rfl
theorem mt_prep (P : Params) : methOk (K P) 380 (s "prepare") 335 = true := by kernel_rfl
theorem mt_ready (P : Params) : methOk (K P) 380 (s "get_ready") 342 = true := by kernel_rfl
theorem mt_active (P : Params) : methOk (K P) 380 (s "is_active") 349 = true := by kernel_rfl
theorem mt_done (P : Params) : methOk (K P) 380 (s "done") 363 = true := by kernel_rfl
theorem nd_len : ∀ {l m : List Int}, l.Nodup → (∀ x ∈ l, x ∈ m) → l.length ≤ m.length
 | [], _, _, _ => Nat.zero_le _
 | a :: t, m, nd, h => by
  rw [List.nodup_cons] at nd
  have ha := h a (.head _)
  have := nd_len (m := m.erase a) nd.2 fun x hx => by
   have : x ≠ a := fun e => nd.1 (e ▸ hx)
   exact (List.mem_erase_of_ne this).mpr (h x (.tail _ hx))
  rw [List.length_erase_of_mem ha] at this
  have := List.length_pos_of_mem ha
  simp only [List.length_cons]
  lia
theorem TSr.other {H : AH} {b0 me d rr : Nat} {p f : Int} {g : Gr} {L : Lay} {rs : List Int} {i : Nat} {o o' : O} (T : TSr H b0 me d rr p f g L rs) (hi : H.get i 0 = some o') (h1 : i ≠ me) (h2 : i ≠ d) (h3 : i ≠ rr) (h4 : ∀ k ∈ g.ns, i ≠ L.ni k ∧ i ≠ L.su k) : TSr (H.put i 0 o) b0 me d rr p f g L rs :=
 ⟨⟨gp_ne hi h1.symm T.T.self, let ⟨ep, h⟩ := T.T.dict; ⟨ep, gp_ne hi h2.symm h⟩, fun k hk => gp_ne hi (h4 k hk).1.symm (T.T.info k hk), fun k hk => gp_ne hi (h4 k hk).2.symm (T.T.succ k hk), T.T.nij, T.T.suj, T.T.nd, T.T.out, T.T.bme, T.T.bd, T.T.bn, T.T.bs⟩, gp_ne hi h3.symm T.rl, T.rn, T.rb⟩
structure OrQ (H : AH) (n rr o : Nat) (L : Lay) : Prop where
 hme : H.length + 1 < o
 hr : rr < o
 rb : H.length ≤ rr
 hn : ∀ k ∈ upto n, L.ni k < o ∧ L.su k < o ∧ H.length ≤ L.ni k
structure OrS (H : AH) (n : Nat) (ts : List (Int × Int)) (rr o : Nat) (L : Lay) (p f : Int) (np : Int → Int) (rs fin pend : List Int) (H' : AH) : Prop where
 T : TSr H' H.length H.length (H.length + 1) rr p f ⟨upto n, np, (grT (upto n) ts).sc⟩ L rs
 ti : TI (grT (upto n) ts) np fin pend rs
 go : H'.get o 0 = some (.list (fin.map .int))
 sm : Same (fun j => H.length ≤ j) H H'
@[reducible] noncomputable def ordL (n t : Nat) (y : Int) (me : Nat) (v3 v4 v5 v6 : Option V) : List (Option V) := [some (.int n), some (.ref t y), some (.inst 380 me 0), v3, v4, v5, v6]
inductive OrA (n t : Nat) (y : Int) (H : AH) (j : Nat) : St → Prop
 | mk (v : Option V) (H' : AH) (L : Lay) (T : TSat H' H.length H.length (H.length + 1) .none 0 0 (grT (upto j) []) L) (sm : Same (fun j => H.length ≤ j) H H') : OrA n t y H j ⟨ordL n t y H.length v none none none, H'⟩
inductive OrB (n t : Nat) (y : Int) (H : AH) (ts : List (Int × Int)) (j : Nat) : St → Prop
 | mk (v3 v4 v5 : Option V) (H' : AH) (L : Lay) (T : TSat H' H.length H.length (H.length + 1) .none 0 0 (grT (upto n) (ts.take j)) L) (sm : Same (fun j => H.length ≤ j) H H') : OrB n t y H ts j ⟨ordL n t y H.length v3 v4 v5 none, H'⟩
inductive OrC (n t : Nat) (y : Int) (H : AH) (ts : List (Int × Int)) (rr o : Nat) (L : Lay) : Nat → St → Prop
 | mk (v3 v4 v5 : Option V) (np : Int → Int) (rs fin : List Int) (p : Int) (H' : AH) (S : OrS H n ts rr o L p p np rs fin [] H') : OrC n t y H ts rr o L (n - fin.length) ⟨ordL n t y H.length v3 v4 v5 (some (.ref o 0)), H'⟩
inductive OrD (n t : Nat) (y : Int) (H : AH) (ts : List (Int × Int)) (rr o : Nat) (L : Lay) (rs fin : List Int) (p : Int) (j : Nat) : St → Prop
 | mk (v3 v4 v5 : Option V) (np : Int → Int) (rs' : List Int) (H' : AH) (S : OrS H n ts rr o L (p + rs.length) (p + j) np rs' (fin ++ rs.take j) (rs.drop j) H') : OrD n t y H ts rr o L rs fin p j ⟨ordL n t y H.length v3 v4 v5 (some (.ref o 0)), H'⟩
section
variable {n rr o : Nat} {H : AH} {L : Lay} {ts : List (Int × Int)} {np : Int → Int} {j : Nat} {fin pend rs : List Int}
theorem OrQ.nown (Q : OrQ H n rr o L) : ¬ own H.length rr ⟨upto n, np, (grT (upto n) ts).sc⟩ L o := fun h => by
 rcases h with h | h | ⟨k, hk, h⟩
 ·exact Nat.ne_of_gt (Nat.lt_of_succ_lt Q.hme) h
 ·exact Nat.ne_of_gt Q.hr h
 ·exact Nat.ne_of_gt (Q.hn k hk).1 h
theorem OrQ.ownb (Q : OrQ H n rr o L) (h : own H.length rr ⟨upto n, np, (grT (upto n) ts).sc⟩ L j) : H.length ≤ j := by
 rcases h with h | h | ⟨k, hk, h⟩
 ·exact Nat.le_of_eq h.symm
 ·rw [h]; exact Q.rb
 ·rw [h]; exact (Q.hn k hk).2.2
theorem TI.lens (ti : TI (grT (upto n) ts) np fin pend rs) : fin.length + (pend.length + rs.length) ≤ n := by
 have h1 := nd_len ti.nd ti.mem
 rw [List.length_append, List.length_append] at h1
 exact Nat.le_trans h1 (Nat.le_of_eq upto_len)
theorem ties_in {ns : List Int} {P : List (Int × Int)} {e : Int} : ((grT ns P).sc e).length ≤ P.length := by
 show ((P.filter fun x => decide (x.2 = e)).map (·.1)).length ≤ P.length
 rw [List.length_map]; exact List.length_filter_le ..
end
section
variable {c : Cx} {A : Around} {σ : St} {Q : V → St → Prop} {H : AH} {r : Int → Int} {n t rr o : Nat} {y : Int} {ts : List (Int × Int)} {L : Lay}
theorem order_d {H' : AH} {np : Int → Int} {rs rs' fin : List Int} {p : Int} {j : Nat} {k : Int} {v4 v5 : Option V} {kb : St → Prop} {kr : V → St → Prop} (G : Good c) (rm : Room 4 A) (OQ : OrQ H n rr o L) (hn : n < 200) (hts : ts.length < 200) (hin : ∀ k ∈ (grT (upto n) ts).ns, ∀ z ∈ (grT (upto n) ts).sc k, z ∈ (grT (upto n) ts).ns)
  (hx : rs[j]? = some k) (S : OrS H n ts rr o L (p + rs.length) (p + j) np rs' (fin ++ rs.take j) (rs.drop j) H') :
  vcSs A [.expr (.meth (.loc 6) (s "append") [(.loc 3)]), .expr (.meth (.loc 2) (s "done") [(.loc 3)])] c ⟨ordL n t y H.length (some (.int k)) v4 v5 (some (.ref o 0)), H'⟩ ⟨OrD n t y H ts rr o L rs fin p (j + 1), kb, OrD n t y H ts rr o L rs fin p (j + 1), kr⟩ := by
 obtain ⟨T4, ti4, go4, sm4⟩ := S
 obtain ⟨hjl, e⟩ := List.getElem?_eq_some_iff.mp hx
 have et : rs.take (j + 1) = rs.take j ++ [k] := by rw [List.take_add_one, hx]; rfl
 rw [List.drop_eq_getElem_cons hjl, e] at ti4
 have hm : k ∈ (k :: rs.drop (j + 1)) := List.mem_cons_self
 have hkn : k ∈ upto n := ti4.mem k (List.mem_append.mpr (.inr (List.mem_append.mpr (.inl hm))))
 have l4 := ti4.lens
 rw [List.length_cons] at l4
 have lf : (fin ++ rs.take j).length < 200 := by grind
 have lr : rs'.length < 200 := by grind
 refine getM_list go4 F.slot_list_append F.type_list_append ?_
 refine append_list go4 (by rw [List.length_map]; exact Nat.lt_trans lf (by decide)) ?_
 have T5 := T4.other (o := .list (((fin ++ rs.take j).map V.int) ++ [V.int k])) go4 (Nat.ne_of_gt (Nat.lt_of_succ_lt OQ.hme)) (Nat.ne_of_gt OQ.hme) (Nat.ne_of_gt OQ.hr) (fun k hk => ⟨Nat.ne_of_gt (OQ.hn k hk).1, Nat.ne_of_gt (OQ.hn k hk).2.1⟩)
 have go5 := gp_eq (o := .list (((fin ++ rs.take j).map V.int) ++ [V.int k])) go4
 have sm5 := sm4.put (o := .list (((fin ++ rs.take j).map V.int) ++ [V.int k])) go4 (.inl (Nat.le_of_lt (Nat.lt_of_succ_lt OQ.hme)))
 refine getM_inst G.top (mt_done _) T5.T.self rfl ?_
 refine ⟨keep_fn G kp363, ?_⟩
 refine call_done G (rm.less (by decide)) T5 (Nat.lt_trans (Nat.add_lt_add lr (Nat.lt_of_le_of_lt (ties_in (ns := upto n)) hts)) (by decide)) hkn (ti4.onP k hm) (hin k hkn) fun H6 T6 sm6 => ?_
 refine .mk _ _ _ _ _ H6 ⟨by rw [Int.natCast_add, Int.natCast_one, ← Int.add_assoc]; exact T6, by rw [et, ← List.append_assoc]; exact ti4.done nodup_upto hin, ?_, sm5.trans (sm6.mono fun i => OQ.ownb)⟩
 rw [et, ← List.append_assoc, List.map_append]
 exact sm6.2 _ _ _ OQ.nown go5
theorem order_c {v3 v4 v5 : Option V} {H' : AH} {np : Int → Int} {rs fin : List Int} {p : Int} {kn kb kc : St → Prop} {kr : V → St → Prop} (G : Good c) (rm : Room 4 A) (OQ : OrQ H n rr o L) (hn : n < 200) (hts : ts.length < 200)
  (ht : ∀ x ∈ ts, x.1 ∈ upto n ∧ x.2 ∈ upto n ∧ r x.2 < r x.1) (S : OrS H n ts rr o L p p np rs fin [] H')
  (q : ∀ loc H' o (fin : List Int), Same (fun _ => False) H H' → H'.get o 0 = some (.list (fin.map .int)) → fin.Nodup → (∀ k, k ∈ fin ↔ k ∈ upto n) → (∀ x ∈ ts, ∀ i, fin[i]? = some x.1 → x.2 ∈ fin.take i) → kr (.ref o 0) ⟨loc, H'⟩) :
  vcSs A (t_order.drop 5) c ⟨ordL n t y H.length v3 v4 v5 (some (.ref o 0)), H'⟩ ⟨kn, kb, kc, kr⟩ := by
 refine .mk (OrC n t y H ts rr o L) _ (.mk v3 v4 v5 _ _ _ _ _ S) fun m σ' I => ?_
 clear S
 cases I with
 | mk v3 v4 v5 np rs fin p H' S =>
 obtain ⟨T', ti, go, sm'⟩ := S
 have hl := ti.lens
 rw [List.length_nil, Nat.zero_add] at hl
 have lr : rs.length < 1000 := by grind
 refine getM_inst G.top (mt_active _) T'.T.self rfl ?_
 refine ⟨keep_fn G kp349, ?_⟩
 refine call_active G (rm.less (by decide)) T' lr ?_
 have ep : decide (p < p) = false := decide_eq_false (Int.lt_irrefl _)
 refine sel_d (fun hb => ?_) (fun hb => ?_)
 ·rw [ep, Bool.false_or] at hb
  have hrs : rs ≠ [] := of_decide_eq_true hb
  refine getM_inst G.top (mt_ready _) T'.T.self rfl ?_
  refine ⟨keep_fn G kp342, ?_⟩
  refine call_ready G (rm.less (by decide)) T' lr (fun k hk => ti.mem k (List.mem_append.mpr (.inr hk))) fun H3 T3 sm3 => ?_
  refine .mk (rs.map V.int) 0 (OrD n t y H ts rr o L rs fin p) rfl (.mk _ _ _ _ [] H3 ⟨by rw [Int.natCast_zero, Int.add_zero]; exact T3, by rw [List.take_zero, List.append_nil]; exact ti.ready, by rw [List.take_zero, List.append_nil]; exact sm3.2 _ _ _ OQ.nown go, sm'.trans (sm3.mono fun j => OQ.ownb)⟩) (fun σ' I => ?_) (fun j σ' Y I hj => ?_)
  ·cases I with
   | mk v3 v4 v5 np' rs' H4 S4 =>
   rw [List.length_map, List.take_length, List.drop_length] at S4
   have hl' := S4.ti.lens
   have : 0 < rs.length := List.length_pos_iff.mpr hrs
   rw [List.length_append] at hl'
   exact ⟨rfl, n - (fin ++ rs).length, by rw [List.length_append]; grind, .mk v3 v4 v5 np' rs' (fin ++ rs) (p + rs.length) H4 S4⟩
  ·cases I with
   | mk v3 v4 v5 np' rs' H4 S4 =>
   refine ⟨rfl, fun h0 ft => ?_⟩
   rw [List.getElem?_map] at hj
   obtain ⟨k, hx, e⟩ := Option.map_eq_some_iff.mp hj
   subst e
   exact order_d G.at rm OQ hn hts (fun k hk z hz => (ht (z, k) (grT_in.mp hz)).1) hx S4
 ·rw [ep, Bool.false_or] at hb
  have hrs : rs = [] := Decidable.not_not.mp fun h => hb (decide_eq_true h)
  subst hrs
  have all := ti.all (r := r) fun k hk z hz => (ht (z, k) (grT_in.mp hz)).2.2
  have nd := ti.nd
  rw [List.nil_append, List.append_nil] at nd
  exact q _ H' o fin sm'.anew go nd (fun k => ⟨fun h => ti.mem k (List.mem_append.mpr (.inl h)), fun h => all k h⟩) fun x hx i hi => ti.ord i x.1 hi x.2 (ht x hx).2.1 (grT_in.mpr hx)
theorem order_b {v3 v4 v5 : Option V} {H' : AH} {kn kb kc : St → Prop} {kr : V → St → Prop} (G : Good c) (rm : Room 4 A) (stk : Stk c A) (hn : n < 200) (hts : ts.length < 200)
  (ht : ∀ x ∈ ts, x.1 ∈ upto n ∧ x.2 ∈ upto n ∧ r x.2 < r x.1) (T : TSat H' H.length H.length (H.length + 1) .none 0 0 (grT (upto n) ts) L) (sm : Same (fun j => H.length ≤ j) H H')
  (q : ∀ loc H' o (fin : List Int), Same (fun _ => False) H H' → H'.get o 0 = some (.list (fin.map .int)) → fin.Nodup → (∀ k, k ∈ fin ↔ k ∈ upto n) → (∀ x ∈ ts, ∀ i, fin[i]? = some x.1 → x.2 ∈ fin.take i) → kr (.ref o 0) ⟨loc, H'⟩) :
  vcSs A (t_order.drop 3) c ⟨ordL n t y H.length v3 v4 v5 none, H'⟩ ⟨kn, kb, kc, kr⟩ := by
 have hl1 : (grT (upto n) ts).ns.length < 900 := Nat.lt_of_le_of_lt (Nat.le_of_eq upto_len) (Nat.lt_trans hn (by decide))
 have hl2 : ∀ j, ((grT (upto n) ts).sc j).length < 200 := fun e => Nat.lt_of_le_of_lt (ties_in (ns := upto n)) hts
 refine getM_inst G.top (mt_prep _) T.self rfl ?_
 refine ⟨keep_fn G kp335, ?_⟩
 refine call_prep (r := r) G (rm.less (by decide)) stk T hl1 (fun j => Nat.lt_trans (hl2 j) (by decide)) (fun k hk z hz => (ht (z, k) (grT_in.mp hz)).1) (fun k hk z hz => (ht (z, k) (grT_in.mp hz)).2.2) fun H2 rr T2 sm2 => ?_
 have OQ : OrQ H n rr H2.length L := ⟨T2.T.dict.elim fun ep h => lt_len h, lt_len T2.rl, T2.rb, fun k hk => ⟨lt_len (T2.T.info k hk), lt_len (T2.T.succ k hk), T2.T.bn k hk⟩⟩
 exact order_c G rm OQ hn hts ht ⟨T2.app, TI.start nodup_upto fun x hx => (ht x hx).2.1, ge, (sm.trans sm2).app⟩ q
theorem order_vc {kn kb kc : St → Prop} {kr : V → St → Prop} (G : Good c) (rm : Room 4 A) (stk : Stk c A) (hn : n < 200) (hts : ts.length < 200)
  (ht : ∀ x ∈ ts, x.1 ∈ upto n ∧ x.2 ∈ upto n ∧ r x.2 < r x.1) (gt : H.get t y = some (.list (ts.map fun x => V.tup [.int x.1, .int x.2])))
  (q : ∀ loc H' o (fin : List Int), Same (fun _ => False) H H' → H'.get o 0 = some (.list (fin.map .int)) → fin.Nodup → (∀ k, k ∈ fin ↔ k ∈ upto n) → (∀ x ∈ ts, ∀ i, fin[i]? = some x.1 → x.2 ∈ fin.take i) → kr (.ref o 0) ⟨loc, H'⟩) :
  vcSs A t_order c ⟨[some (.int n), some (.ref t y), none, none, none, none, none], H⟩ ⟨kn, kb, kc, kr⟩ := by
 have sqR : ∀ H', seqOf (.rng 0 n) H' = some ((List.range ((n : Int) - 0).toNat).map (fun (k : Nat) => V.int (0 + (k : Int))), 0) := fun H' => rng_seq ⟨by decide, by decide, by exact Int.natCast_nonneg n, by lia⟩
 have en : ((n : Int) - 0).toNat = n := by rw [Int.sub_zero, Int.toNat_natCast]
 rw [en] at sqR
 have sqT : ∀ {H' : AH}, Same (fun j => H.length ≤ j) H H' → seqOf (.ref t y) H' = some (ts.map fun x => V.tup [.int x.1, .int x.2], 0) := fun sm => sq_list (sm.anew.2 _ _ _ (fun h => h) gt)
 refine ⟨keep_fn G kp380, ?_⟩
 refine call_ts G (rm.less (by decide)) fun H1 sm1 T1 => ?_
 have sm1 : Same (fun j => H.length ≤ j) H H1 := sm1.mono fun _ h => h.elim
 refine range1 ?_
 refine .mk _ 0 (OrA n t y H) (sqR _) (.mk none H1 ⟨fun _ => 0, fun _ => 0, fun _ => 0⟩ (by rw [grT_nil]; exact T1 _) sm1) (fun σ' I => ⟨sqR _, ?_⟩) (fun j σ' Y I hj => ⟨sqR _, fun h0 ft => ?_⟩)
 ·cases I with
  | mk v H' L T sm =>
  rw [List.length_map, List.length_range] at T
  refine .mk _ 0 (OrB n t y H ts) (sqT sm) (.mk v none none H' L T sm) (fun σ' I => ?_) (fun j σ' Y I hj => ?_)
  ·cases I with
   | mk v3 v4 v5 H' L T sm =>
   rw [List.length_map, List.take_length] at T
   exact ⟨sqT sm, order_b G rm stk hn hts ht T sm q⟩
  ·cases I with
   | mk v3 v4 v5 H' L T sm =>
   refine ⟨sqT sm, fun h0 ft => ?_⟩
   rw [List.getElem?_map] at hj
   obtain ⟨x, hx, e⟩ := Option.map_eq_some_iff.mp hj
   subst e
   obtain ⟨m1, m2, _⟩ := ht x (List.mem_of_getElem? hx)
   have ex : ts.take (j + 1) = ts.take j ++ [(x.1, x.2)] := by rw [List.take_add_one, hx]; rfl
   refine getM_inst G.top (mt_add _) T.self rfl ?_
   refine ⟨keep_fn G.at kp330, ?_⟩
   refine call_add1 G.at rm T (Nat.lt_of_le_of_lt (Nat.le_of_eq upto_len) (Nat.lt_trans hn (by decide))) (fun e => Nat.lt_of_le_of_lt (Nat.le_trans (ties_in (ns := upto n)) (List.length_take_le' ..)) (Nat.lt_trans hts (by decide))) fun H2 L2 T2 sm2 => ?_
   rw [grT_step m1 m2, ← ex] at T2
   exact .mk _ _ _ H2 L2 T2 (sm.trans sm2)
 ·cases I with
  | mk v H' L T sm =>
  obtain ⟨hjn, eY⟩ := range_at hj
  rw [Int.zero_add] at eY
  subst eY
  refine getM_inst G.top (mt_add _) T.self rfl ?_
  refine ⟨keep_fn G.at kp330, ?_⟩
  refine call_add0 G.at rm T (Nat.lt_of_le_of_lt (Nat.le_of_eq upto_len) (Nat.lt_trans (Nat.lt_trans hjn hn) (by decide))) fun H2 L2 T2 sm2 => ?_
  have e1 : (grT (upto j) []).wit j = grT (upto (j + 1)) [] := by
   have : (j : Int) ∉ (grT (upto j) []).ns := fun h => Int.lt_irrefl _ (mem_upto.mp h).2
   unfold Gr.wit
   rw [if_neg this, upto_succ]
   rfl
  rw [e1] at T2
  exact .mk _ H2 L2 T2 (sm.trans sm2)
theorem call_order {l₀ : List (Option V)} {H₀ : AH} {r : Int → Int} {n : Nat} {ts : List (Int × Int)} {t : Nat} {y : Int} (G : Good c) (rm : Room 5 A) (stk : Stk c A) (hn : n < 200) (hts : ts.length < 200)
  (ht : ∀ x ∈ ts, x.1 ∈ upto n ∧ x.2 ∈ upto n ∧ r x.2 < r x.1) (gt : H₀.get t y = some (.list (ts.map fun x => V.tup [.int x.1, .int x.2])))
  (q : ∀ H' o (fin : List Int), Same (fun _ => False) H₀ H' → H'.get o 0 = some (.list (fin.map .int)) → fin.Nodup → (∀ k, k ∈ fin ↔ k ∈ upto n) → (∀ x ∈ ts, ∀ i, fin[i]? = some x.1 → x.2 ∈ fin.take i) → Q (.ref o 0) ⟨l₀, H'⟩) : Ca c A ⟨l₀, H₀⟩ (.obj 396) [.int n, .ref t y] Q := by
 refine (call_codeE (Ys := [.int n, .ref t y]) G (rm.less (by decide)) (ok_order _) (bd2 G.top fun W v0 v1 r0 r1 => ?_) (Nat.le_of_ble_eq_true rfl) fun c' F' G' hw L he ho => ?_).ca
 ·exact ⟨[v0, v1], fun S => by kernel_rfl, VRs.cons r0 (VRs.cons r1 (VRs.nil _))⟩
 ·exact order_vc G' rm.deeper (stk.deeper (by rw [(ok_order c.w.params).kind]; decide) he ho) hn hts ht gt fun loc => q
end
end
section
@[reducible] noncomputable def b_e : List TS := [.assign [(.tup [9, 10, 11, 12])] (.sub (.loc 8) (.loc 20)),
 .assign [(.loc 22)] (.call (.glob 15) [(.loc 19), (.loc 20)]),
 .assign [(.loc 21)] (.bin .Add (.loc 9) (.call (.glob 5) [(.sem (chkComp k_law cd_law_751_25))])),
 .ite (.cmp .NotEq (.slice (.loc 18) (some (.loc 21)) (some (.bin .Sub (.bin .Add (.loc 21) (.loc 12)) (.loc 11)))) (.slice (.loc 6) (some (.loc 11)) (some (.loc 12)))) [.ret (some (.bool false))] [],
 .assign [(.loc 18)] (.bin .Add (.bin .Add (.slice (.loc 18) none (some (.loc 21))) (.slice (.loc 5) (some (.loc 9)) (some (.loc 10)))) (.slice (.loc 18) (some (.bin .Sub (.bin .Add (.loc 21) (.loc 12)) (.loc 11))) none)),
 .assign [(.loc 19)] (.bin .Add (.slice (.loc 19) none (some (.loc 22))) (.slice (.loc 19) (some (.bin .Add (.loc 22) (.int 1))) none))]
@[reducible] noncomputable def tl_e : List TS := [.each (.loc 20) (.loc 17) b_e, .ret (some (.cmp .Eq (.loc 18) (.loc 5)))]
noncomputable def gsel (E : List T4) : V → Option V
 | .int c => some (.int (grw (E.getD c.toNat (0, 0, 0, 0))))
 | _ => none
theorem gsel_map (E : List T4) : ∀ l : List Int, (l.map V.int).filterMap (gsel E) = (l.map fun c => grw (E.getD c.toNat (0, 0, 0, 0))).map V.int
 | [] => rfl
 | a :: l => by rw [List.map_cons, List.filterMap_cons, gsel_map E l]; rfl
section
variable {c : Cx} {A : Around} {σ : St} {Q : V → St → Prop} {xs ys : List Int}
theorem gsel_vc {loc2 : List (Option V)} {E : List T4} {gi : Nat} {l : List Int} {H : AH} {d : CD} (hd : d.tg = .loc 0) (hf : d.ifs = []) (he : d.elt = .sub (.loc 1) (.loc 0)) (hn : d.ns.length = 2) (hc : d.cap = [(1, 13)]) (h13 : loc2[13]? = some (some (.ref gi 0))) (gg : H.get gi 0 = some (.list ((E.map grw).map V.int)))
  (hl : ∀ c ∈ l, 0 ≤ c ∧ c < E.length) (hE : E.length < 1000) : compVc c A d ⟨loc2, H⟩ (l.map V.int) (gsel E) := fun c' hw' h1 loc Y cap hY => by
 obtain ⟨z, hz, e⟩ := List.mem_map.mp hY
 subst e
 obtain ⟨z0, z1⟩ := hl z hz
 rw [hd, hf, he]
 refine cap1_e (σ := ⟨loc2, H⟩) hn hc h13 cap (P := fun loc => vcT1 c' A (.loc 0) (V.int z) ⟨loc, H⟩ fun σ₂ => vcT c' A .And [] σ₂ fun b σ₃ => sel b (vcE c' A (.sub (.loc 1) (.loc 0)) σ₃ fun Z σ₄ => gsel E (V.int z) = some Z ∧ σ₄.H = H ∧ CapOk d ⟨loc2, H⟩ σ₄.loc) (gsel E (V.int z) = none ∧ σ₃.H = H ∧ CapOk d ⟨loc2, H⟩ σ₃.loc)) fun x0 => ?_
 have hk : z.toNat < E.length := by lia
 refine item_list (Y := .int (grw (E.getD z.toNat (0, 0, 0, 0)))) gg z0 (by lia) ?_ ⟨rfl, rfl, cap1_i (σ := ⟨loc2, H⟩) hn hc h13⟩
 rw [List.getElem?_map, List.getElem?_map, List.getElem?_eq_getElem hk, List.getD_eq_getElem?_getD, List.getElem?_eq_getElem hk]
 rfl
theorem add_ints {l₀ : List (Option V)} {H₀ : AH} {i j : Nat} {xs ys : List Int} (hg : H₀.get i 0 = some (.list (xs.map .int))) (hg' : H₀.get j 0 = some (.list (ys.map .int))) (hl : xs.length + ys.length < 1000000) (q : Q (.ref H₀.length 0) ⟨l₀, H₀ ++ [.one (.list ((xs ++ ys).map .int))]⟩) :
  Op2 c A ⟨l₀, H₀⟩ (.ref i 0) (.ref j 0) (binaryOp .Add) Q :=
 add_list hg hg' (by rw [List.length_map, List.length_map]; exact hl) (by rw [← List.map_append]; exact q)
section
variable {l₀ : List (Option V)} {H₀ : AH} {i : Nat} {lo hi : Int} {pre mid post : List Int} {p : Pos}
theorem slice_mid (hg : H₀.get i 0 = some (.list ((pre ++ (mid ++ post)).map .int))) (hl : (pre ++ (mid ++ post)).length < 1000) (h1 : lo = pre.length) (h2 : hi = (pre.length + mid.length : Nat)) (q : Q (.ref H₀.length 0) ⟨l₀, H₀ ++ [.one (.list (mid.map .int))]⟩) : Op3 c A ⟨l₀, H₀⟩ (.ref i 0) (.int lo) (.int hi) (sliceOf p) Q := by
 subst h1 h2
 rw [List.length_append, List.length_append] at hl
 refine slice_xs hg (by rw [List.length_append, List.length_append]; exact hl) (Int.natCast_nonneg _) ?_ (Int.natCast_nonneg _) ?_ ?_
 ·rw [List.length_append]; grind
 ·rw [List.length_append, List.length_append]; grind
 ·rw [Int.toNat_natCast, Int.toNat_natCast, cut_mid]; exact q
theorem slice_pre (hg : H₀.get i 0 = some (.list ((pre ++ post).map .int))) (hl : (pre ++ post).length < 1000) (h1 : lo = pre.length) (q : Q (.ref H₀.length 0) ⟨l₀, H₀ ++ [.one (.list (pre.map .int))]⟩) : Op3 c A ⟨l₀, H₀⟩ (.ref i 0) .none (.int lo) (sliceOf p) Q := by
 subst h1
 refine slice_to hg hl (Int.natCast_nonneg _) ?_ ?_
 ·rw [List.length_append]; grind
 ·rw [Int.toNat_natCast, List.take_left]; exact q
theorem slice_post (hg : H₀.get i 0 = some (.list ((pre ++ (mid ++ post)).map .int))) (hl : (pre ++ (mid ++ post)).length < 1000) (h2 : hi = (pre.length + mid.length : Nat)) (q : Q (.ref H₀.length 0) ⟨l₀, H₀ ++ [.one (.list (post.map .int))]⟩) : Op3 c A ⟨l₀, H₀⟩ (.ref i 0) (.int hi) .none (sliceOf p) Q := by
 subst h2
 refine slice_from hg hl (Int.natCast_nonneg _) ?_ ?_
 ·rw [List.length_append, List.length_append]; grind
 ·rw [Int.toNat_natCast, ← List.append_assoc, ← List.length_append, List.drop_left]; exact q
end
theorem slice_toN {l₀ : List (Option V)} {H₀ : AH} {i n : Nat} {xs : List Int} {p : Pos} (hg : H₀.get i 0 = some (.list (xs.map .int))) (hl : xs.length < 1000) (hn : n ≤ xs.length) (q : Q (.ref H₀.length 0) ⟨l₀, H₀ ++ [.one (.list ((xs.take n).map .int))]⟩) : Op3 c A ⟨l₀, H₀⟩ (.ref i 0) .none (.int n) (sliceOf p) Q :=
 slice_to hg hl (Int.natCast_nonneg _) (Int.ofNat_le.mpr hn) (by rw [Int.toNat_natCast]; exact q)
theorem slice_fromN {l₀ : List (Option V)} {H₀ : AH} {i n : Nat} {lo : Int} {xs : List Int} {p : Pos} (hg : H₀.get i 0 = some (.list (xs.map .int))) (hl : xs.length < 1000) (e : lo = n) (hn : n ≤ xs.length) (q : Q (.ref H₀.length 0) ⟨l₀, H₀ ++ [.one (.list ((xs.drop n).map .int))]⟩) : Op3 c A ⟨l₀, H₀⟩ (.ref i 0) (.int lo) .none (sliceOf p) Q := by
 subst e
 exact slice_from hg hl (Int.natCast_nonneg _) (Int.ofNat_le.mpr hn) (by rw [Int.toNat_natCast]; exact q)
theorem cut_hi {zs pre : List Int} {lo a b : Int} (h : lo = pre.length) (h0 : 0 ≤ a) (h1 : a ≤ b) (h2 : b ≤ zs.length) : lo + b - a = (pre.length + (cut zs a.toNat b.toNat).length : Nat) := by
 rw [Int.natCast_add, cut_lenI h0 h1 h2, h, Int.add_sub_assoc]
structure Turn (xs ys : List Int) (E : List T4) (mk mk' : List Int) (k : Int) (e : T4) (pre old new post : List Int) : Prop where
 hek : (E.map t4V)[k.toNat]? = some (t4V e)
 k0 : 0 ≤ k
 k1 : k < 1000000
 ml : mk.length < 400
 lo : e.1 + ((mk.take (below mk k)).map fun c => grw (E.getD c.toNat (0, 0, 0, 0))).sum = pre.length
 r1 : Row xs ys (inM mk) 0 0 E = pre ++ (old ++ post)
 r2 : Row xs ys (inM mk') 0 0 E = pre ++ (new ++ post)
 len : (pre ++ (old ++ post)).length < 1000
 len2 : (pre ++ (new ++ post)).length < 1000
 eb : EdB xs ys e
theorem turn {E : List T4} {mk mk' : List Int} {k : Int} (hE : Ed xs ys 0 0 E) (la : xs.length < 400) (lb : ys.length < 400) (lE : E.length < 400) (k0 : 0 ≤ k) (k1 : k < E.length) (ms : mk.Pairwise (· < ·)) (mk0 : ∀ c ∈ mk, 0 ≤ c ∧ c < E.length) (hm : ∀ c : Int, c ≠ k → (c ∈ mk' ↔ c ∈ mk)) :
  ∃ e pre post, Turn xs ys E mk mk' k e pre (pieceI xs ys (decide (k ∈ mk)) e) (pieceI xs ys (decide (k ∈ mk')) e) post := by
 obtain ⟨kn, ek⟩ := Int.eq_ofNat_of_zero_le k0
 subst ek
 have kl : kn < E.length := Int.ofNat_lt.mp k1
 obtain ⟨B, pre, post, hp, hr1, hr2⟩ := row_turn hE kl ms (fun c hc => (mk0 c hc).1) hm
 have rl1 := Row.len (m := inM mk) E 0 0 0 hE
 have rl2 := Row.len (m := inM mk') E 0 0 0 hE
 have mlen : mk.length < 400 := by
  have h1 := nd_len (ms.imp fun h e => Int.ne_of_lt h e) (m := upto E.length) fun x hx => mem_upto.mpr (mk0 x hx)
  rw [upto_len] at h1; exact Nat.lt_of_le_of_lt h1 lE
 have lt : ∀ {l : List Int}, (l.length : Int) + 0 + 0 ≤ xs.length + ys.length → l.length < 1000 := by lia
 exact ⟨E[kn], pre, post, by rw [Int.toNat_natCast, List.getElem?_map, List.getElem?_eq_getElem kl]; rfl, k0, Int.ofNat_lt.mpr (Nat.lt_trans kl (Nat.lt_trans lE (by decide))), mlen, hp, hr1, hr2, hr1 ▸ lt rl1, hr2 ▸ lt rl2, B⟩
@[reducible] noncomputable def leL (v0 v1 v2 v3 v4 : Option V) (fi si : Nat) (v7 : Option V) (ei : Nat) (v9 v10 v11 v12 : Option V) (gi : Nat) (v14 v15 v16 : Option V) (oi ri mi : Nat) (v20 v21 v22 : Option V) : List (Option V) :=
 [v0, v1, v2, v3, v4, some (.ref fi 0), some (.ref si 0), v7, some (.ref ei 0), v9, v10, v11, v12, some (.ref gi 0), v14, v15, v16, some (.ref oi 0), some (.ref ri 0), some (.ref mi 0), v20, v21, v22]
structure LwS (xs ys : List Int) (E : List T4) (order : List Int) (fi si ei gi oi : Nat) (H : AH) : Prop where
 gf : H.get fi 0 = some (.list (xs.map .int))
 gs : H.get si 0 = some (.list (ys.map .int))
 ge0 : H.get ei 0 = some (.list (E.map t4V))
 gg : H.get gi 0 = some (.list ((E.map grw).map V.int))
 go : H.get oi 0 = some (.list (order.map .int))
theorem LwS.same {E : List T4} {order : List Int} {fi si ei gi oi : Nat} {H H' : AH} (S : LwS xs ys E order fi si ei gi oi H) (sm : Same (fun _ => False) H H') : LwS xs ys E order fi si ei gi oi H' :=
 have kp : ∀ {j : Nat} {o : O}, H.get j 0 = some o → H'.get j 0 = some o := fun h => sm.2 _ _ _ (fun h => h) h
 ⟨kp S.gf, kp S.gs, kp S.ge0, kp S.gg, kp S.go⟩
structure LwE (xs ys : List Int) (E : List T4) (order : List Int) : Prop where
 hE : Ed xs ys 0 0 E
 la : xs.length < 400
 lb : ys.length < 400
 lE : E.length < 400
 nd : order.Nodup
 ho : ∀ k, k ∈ order ↔ 0 ≤ k ∧ k < E.length
structure LeD (xs ys : List Int) (E : List T4) (order : List Int) (H : AH) (ri mi : Nat) (mk : List Int) (t : Nat) (H' : AH) : Prop where
 sm : Same (fun _ => False) H H'
 gr : H'.get ri 0 = some (.list ((Row xs ys (inM mk) 0 0 E).map .int))
 gm : H'.get mi 0 = some (.list (mk.map .int))
 ms : mk.Pairwise (· < ·)
 mo : ∀ k, k ∈ mk ↔ k ∈ order.drop t
inductive LeI (xs ys : List Int) (E : List T4) (order : List Int) (H : AH) (fi si ei gi oi : Nat) (t : Nat) : St → Prop
 | mk (v0 v1 v2 v3 v4 v7 v9 v10 v11 v12 v14 v15 v16 v20 v21 v22 : Option V) (ri mi : Nat) (mk : List Int) (H' : AH) (D : LeD xs ys E order H ri mi mk t H') : LeI xs ys E order H fi si ei gi oi t ⟨leL v0 v1 v2 v3 v4 fi si v7 ei v9 v10 v11 v12 gi v14 v15 v16 oi ri mi v20 v21 v22, H'⟩
section
variable {E : List T4} {order mk : List Int} {H H' : AH} {fi si ei gi oi ri mi t : Nat} {v0 v1 v2 v3 v4 v7 v9 v10 v11 v12 v14 v15 v16 v20 v21 v22 : Option V} {k : Int} {kn kb kc : St → Prop} {kr : V → St → Prop}
noncomputable def delAt (mk : List Int) (k : Int) : List Int := mk.take (below mk k) ++ mk.drop (below mk k + 1)
theorem le_turn (L : LwE xs ys E order) (D : LeD xs ys E order H ri mi mk t H') (hu : order[t]? = some k) : (∀ c ∈ mk, 0 ≤ c ∧ c < E.length) ∧ (below mk k < mk.length) ∧ (delAt mk k).Pairwise (· < ·) ∧ (∀ c, c ∈ delAt mk k ↔ c ∈ order.drop (t + 1)) ∧ ∃ e pre post, Turn xs ys E mk (delAt mk k) k e pre (cut ys e.2.2.1.toNat e.2.2.2.toNat) (cut xs e.1.toNat e.2.1.toNat) post := by
 obtain ⟨htl, eu⟩ := List.getElem?_eq_some_iff.mp hu
 have ed : order.drop t = k :: order.drop (t + 1) := by rw [List.drop_eq_getElem_cons htl, eu]
 obtain ⟨k0, k1⟩ := (L.ho k).mp (List.mem_of_getElem? hu)
 have ndt : (order.drop t).Nodup := L.nd.sublist (List.drop_sublist ..)
 have mo := D.mo
 rw [ed] at ndt mo
 have knot := (List.nodup_cons.mp ndt).1
 have kin : k ∈ mk := (mo k).mpr (.head _)
 have mk0 : ∀ c ∈ mk, 0 ≤ c ∧ c < E.length := fun c hc => (L.ho c).mp (List.mem_of_mem_drop ((D.mo c).mp hc))
 obtain ⟨ds, dm⟩ := del_sorted (k := k) D.ms
 have dm : ∀ c, c ∈ delAt mk k ↔ c ≠ k ∧ c ∈ mk := dm kin
 obtain ⟨e, pre, post, T⟩ := turn (mk' := delAt mk k) L.hE L.la L.lb L.lE k0 k1 D.ms mk0 fun c hc => (dm c).trans ⟨fun h => h.2, fun h => ⟨hc, h⟩⟩
 rw [decide_eq_true kin, decide_eq_false (fun h => ((dm _).mp h).1 rfl)] at T
 refine ⟨mk0, ?_, ds, fun z => (dm z).trans ?_, e, pre, post, T⟩
 ·rcases Nat.lt_or_ge (below mk k) mk.length with h | h
  ·exact h
  ·have h1 : k ∈ mk.drop (below mk k) := by rw [(below_split k D.ms).2, List.mem_filter]; exact ⟨kin, decide_eq_true (Int.le_refl _)⟩
   rw [List.drop_eq_nil_of_le h] at h1
   cases h1
 ·rw [mo, List.mem_cons]
  exact ⟨fun h => h.2.resolve_left h.1, fun h => ⟨fun e => knot (e ▸ h), .inr h⟩⟩
theorem law_e_body (G : Good c) (FF : Fit k_law c) (rm : Room 3 A) (L : LwE xs ys E order) (S : LwS xs ys E order fi si ei gi oi H) (D : LeD xs ys E order H ri mi mk t H') (hu : order[t]? = some k) :
  vcSs A b_e c ⟨leL v0 v1 v2 v3 v4 fi si v7 ei v9 v10 v11 v12 gi v14 v15 v16 oi ri mi (some (.int k)) v21 v22, H'⟩ ⟨LeI xs ys E order H fi si ei gi oi (t + 1), kb, LeI xs ys E order H fi si ei gi oi (t + 1), kr⟩ := by
 obtain ⟨mk0, bl, ds, dm, e, pre, post, T⟩ := le_turn L D hu
 have S4 := S.same D.sm
 have gr := D.gr
 rw [T.r1] at gr
 have la := L.la; have lb := L.lb
 have lx : xs.length < 1000 := Nat.lt_trans la (by decide)
 have ly : ys.length < 1000 := Nat.lt_trans lb (by decide)
 have lm : mk.length < 1000 := Nat.lt_trans T.ml (by decide)
 have hlo := T.lo
 have hhi := cut_hi hlo T.eb.e4 T.eb.e5 T.eb.e6
 refine item_list S4.ge0 T.k0 T.k1 T.hek ?_
 refine ⟨keep_fn G kp264, ?_⟩
 refine call_bisect G (rm.less (by decide)) D.gm (Nat.lt_trans lm (by decide)) D.ms ?_
 refine fun stm hst => ev_comp FF rm.handled ?_ hst
 refine fun p => slice_toN D.gm lm (Nat.le_of_lt bl) ?_
 refine .mk _ 0 (gsel E) (sq_list ge) (by rw [List.length_map, List.length_take]; grind) (gsel_vc rfl rfl rfl rfl rfl rfl (ga S4.gg) (fun z hz => mk0 z (List.mem_of_mem_take hz)) (Nat.lt_trans L.lE (by decide))) ?_
 rw [gsel_map]
 refine sum_list rm.handled ge ?_
 have gr5 := ga (F := Fam.one (O.list (((mk.take (below mk k)).map fun c => grw (E.getD c.toNat (0, 0, 0, 0))).map V.int))) (ga (F := Fam.one (O.list ((mk.take (below mk k)).map V.int))) gr)
 have gm5 := ga (F := Fam.one (O.list (((mk.take (below mk k)).map fun c => grw (E.getD c.toNat (0, 0, 0, 0))).map V.int))) (ga (F := Fam.one (O.list ((mk.take (below mk k)).map V.int))) D.gm)
 have gf5 := ga (F := Fam.one (O.list (((mk.take (below mk k)).map fun c => grw (E.getD c.toNat (0, 0, 0, 0))).map V.int))) (ga (F := Fam.one (O.list ((mk.take (below mk k)).map V.int))) S4.gf)
 have gs5 := ga (F := Fam.one (O.list (((mk.take (below mk k)).map fun c => grw (E.getD c.toNat (0, 0, 0, 0))).map V.int))) (ga (F := Fam.one (O.list ((mk.take (below mk k)).map V.int))) S4.gs)
 refine fun p => slice_mid gr5 T.len hlo hhi ?_
 refine fun p => slice_xs (ga gs5) ly T.eb.e4 (Int.le_trans T.eb.e5 T.eb.e6) (Int.le_trans T.eb.e4 T.eb.e5) T.eb.e6 ?_
 refine ne_list rm.hu (ga ge) ge (sel_f (by rw [beq_self_eq_true]; decide) ?_)
 refine fun p => slice_pre (ga (ga gr5)) T.len hlo ?_
 refine fun p => slice_xs (ga (ga (ga gf5))) lx T.eb.e1 (Int.le_trans T.eb.e2 T.eb.e3) (Int.le_trans T.eb.e1 T.eb.e2) T.eb.e3 ?_
 have l2 := T.len2
 rw [List.length_append, List.length_append] at l2
 refine add_ints (ga ge) ge (by grind) ?_
 refine fun p => slice_post (ga (ga (ga (ga (ga gr5))))) T.len hhi ?_
 refine add_ints (ga ge) ge (by rw [List.length_append]; lia) ?_
 refine fun p => slice_toN (ga (ga (ga (ga (ga (ga (ga gm5))))))) lm (Nat.le_of_lt bl) ?_
 refine fun p => slice_fromN (n := below mk k + 1) (ga (ga (ga (ga (ga (ga (ga (ga gm5)))))))) lm (Int.natCast_succ _).symm bl ?_
 refine add_ints (ga ge) ge (by rw [List.length_take, List.length_drop]; grind) ?_
 refine .mk _ _ _ _ _ _ _ _ _ _ _ _ _ _ _ _ _ _ (delAt mk k) _ ⟨D.sm.app.app.app.app.app.app.app.app.app.app.app.app, ?_, ge, ds, dm⟩
 rw [T.r2, ← List.append_assoc]
 exact ga (ga (ga ge))
theorem law_e (G : Good c) (FF : Fit k_law c) (rm : Room 3 A) (L : LwE xs ys E order) (S : LwS xs ys E order fi si ei gi oi H) (D : LeD xs ys E order H ri mi mk 0 H)
  (q : ∀ loc H', Same (fun _ => False) H H' → kr (.bool true) ⟨loc, H'⟩) :
  vcSs A tl_e c ⟨leL v0 v1 v2 v3 v4 fi si v7 ei v9 v10 v11 v12 gi v14 v15 v16 oi ri mi v20 v21 v22, H⟩ ⟨kn, kb, kc, kr⟩ := by
 refine .mk _ 0 (LeI xs ys E order H fi si ei gi oi) (sq_list S.go) (.mk _ _ _ _ _ _ _ _ _ _ _ _ _ _ _ _ _ _ _ _ D) (fun σ' I => ?_) (fun t σ' Y I hj => ?_)
 ·cases I with
  | mk v0 v1 v2 v3 v4 v7 v9 v10 v11 v12 v14 v15 v16 v20 v21 v22 ri mi mk H4 D =>
  refine ⟨sq_list (S.same D.sm).go, ?_⟩
  have mo := D.mo
  have gr := D.gr
  rw [List.length_map, List.drop_length] at mo
  have hn : ∀ c, inM mk c = false := fun c => decide_eq_false fun h => nomatch (mo _).mp h
  rw [Row.none E 0 0 0 L.hE hn] at gr
  refine eq_list rm.hu gr (S.same D.sm).gf ?_
  rw [show xs.drop (0 : Int).toNat = xs from rfl, beq_self_eq_true]
  exact q _ H4 D.sm
 ·cases I with
  | mk v0 v1 v2 v3 v4 v7 v9 v10 v11 v12 v14 v15 v16 v20 v21 v22 ri mi mk H4 D =>
  refine ⟨sq_list (S.same D.sm).go, fun h0 ft => ?_⟩
  rw [List.getElem?_map] at hj
  obtain ⟨k, hu, e⟩ := Option.map_eq_some_iff.mp hj
  subst e
  exact law_e_body G.at (FF.at h0 ft) rm L S D hu
end
end
end
section
@[reducible] noncomputable def b_d : List TS := [.assign [(.tup [9, 10, 11, 12])] (.sub (.loc 8) (.loc 20)),
 .assign [(.loc 21)] (.bin .Add (.loc 9) (.call (.glob 5) [(.sem (chkComp k_law cd_law_741_25))])),
 .ite (.cmp .NotEq (.slice (.loc 18) (some (.loc 21)) (some (.bin .Sub (.bin .Add (.loc 21) (.loc 10)) (.loc 9)))) (.slice (.loc 5) (some (.loc 9)) (some (.loc 10)))) [.ret (some (.bool false))] [],
 .assign [(.loc 18)] (.bin .Add (.bin .Add (.slice (.loc 18) none (some (.loc 21))) (.slice (.loc 6) (some (.loc 11)) (some (.loc 12)))) (.slice (.loc 18) (some (.bin .Sub (.bin .Add (.loc 21) (.loc 10)) (.loc 9))) none)),
 .expr (.call (.glob 14) [(.loc 19), (.loc 20)])]
@[reducible] noncomputable def tl_d : List TS := .assign [(.tup [18, 19])] (.tuple [(.loc 5), (.list [])]) :: .each (.loc 20) (.loc 17) b_d :: .ite (.cmp .NotEq (.loc 18) (.loc 6)) [.ret (some (.bool false))] [] :: tl_e
section
variable {c : Cx} {A : Around} {σ : St} {Q : V → St → Prop} {xs ys : List Int}
structure LdD (xs ys : List Int) (E : List T4) (order : List Int) (H : AH) (ri mi : Nat) (mk : List Int) (t : Nat) (H' : AH) : Prop where
 sm : Same (fun j => H.length ≤ j) H H'
 rne : ri ≠ mi
 gr : H'.get ri 0 = some (.list ((Row xs ys (inM mk) 0 0 E).map .int))
 gm : H'.get mi 0 = some (.list (mk.map .int))
 ms : mk.Pairwise (· < ·)
 mo : ∀ k, k ∈ mk ↔ k ∈ order.take t
inductive LdI (xs ys : List Int) (E : List T4) (order : List Int) (H : AH) (fi si ei gi oi mi : Nat) (t : Nat) : St → Prop
 | mk (v0 v1 v2 v3 v4 v7 v9 v10 v11 v12 v14 v15 v16 v20 v21 v22 : Option V) (ri : Nat) (mk : List Int) (H' : AH) (D : LdD xs ys E order H ri mi mk t H') : LdI xs ys E order H fi si ei gi oi mi t ⟨leL v0 v1 v2 v3 v4 fi si v7 ei v9 v10 v11 v12 gi v14 v15 v16 oi ri mi v20 v21 v22, H'⟩
section
variable {E : List T4} {order mk : List Int} {H H' : AH} {fi si ei gi oi ri mi t : Nat} {v0 v1 v2 v3 v4 v7 v9 v10 v11 v12 v14 v15 v16 v18 v19 v20 v21 v22 : Option V} {k : Int} {kn kb kc : St → Prop} {kr : V → St → Prop}
noncomputable def insAt (mk : List Int) (k : Int) : List Int := mk.take (below mk k) ++ k :: mk.drop (below mk k)
theorem ld_turn (L : LwE xs ys E order) (D : LdD xs ys E order H ri mi mk t H') (hu : order[t]? = some k) : (∀ c ∈ mk, 0 ≤ c ∧ c < E.length) ∧ (insAt mk k).Pairwise (· < ·) ∧ (∀ c, c ∈ insAt mk k ↔ c ∈ order.take (t + 1)) ∧ ∃ e pre post, Turn xs ys E mk (insAt mk k) k e pre (cut xs e.1.toNat e.2.1.toNat) (cut ys e.2.2.1.toNat e.2.2.2.toNat) post := by
 have ed : order.take (t + 1) = order.take t ++ [k] := by rw [List.take_add_one, hu]; rfl
 obtain ⟨k0, k1⟩ := (L.ho k).mp (List.mem_of_getElem? hu)
 have ndt : (order.take (t + 1)).Nodup := L.nd.sublist (List.take_sublist ..)
 rw [ed, List.nodup_append] at ndt
 have kin : k ∉ mk := fun h => ndt.2.2 k ((D.mo k).mp h) k (.head _) rfl
 have mk0 : ∀ c ∈ mk, 0 ≤ c ∧ c < E.length := fun c hc => (L.ho c).mp (List.mem_of_mem_take ((D.mo c).mp hc))
 obtain ⟨ds, dm⟩ := ins_sorted D.ms kin
 have dm : ∀ c, c ∈ insAt mk k ↔ c = k ∨ c ∈ mk := dm
 obtain ⟨e, pre, post, T⟩ := turn (mk' := insAt mk k) L.hE L.la L.lb L.lE k0 k1 D.ms mk0 fun c hc => (dm c).trans ⟨fun h => h.resolve_left hc, .inr⟩
 rw [decide_eq_false kin, decide_eq_true ((dm _).mpr (.inl rfl))] at T
 refine ⟨mk0, ds, fun z => (dm z).trans ?_, e, pre, post, T⟩
 rw [D.mo, ed, List.mem_append, List.mem_singleton]
 exact or_comm
theorem law_d_body (G : Good c) (FF : Fit k_law c) (rm : Room 3 A) (L : LwE xs ys E order) (S : LwS xs ys E order fi si ei gi oi H) (hmi : H.length ≤ mi) (D : LdD xs ys E order H ri mi mk t H') (hu : order[t]? = some k) :
  vcSs A b_d c ⟨leL v0 v1 v2 v3 v4 fi si v7 ei v9 v10 v11 v12 gi v14 v15 v16 oi ri mi (some (.int k)) v21 v22, H'⟩ ⟨LdI xs ys E order H fi si ei gi oi mi (t + 1), kb, LdI xs ys E order H fi si ei gi oi mi (t + 1), kr⟩ := by
 obtain ⟨mk0, ds, dm, e, pre, post, T⟩ := ld_turn L D hu
 have S4 := S.same D.sm.anew
 have gr := D.gr
 rw [T.r1] at gr
 have la := L.la; have lb := L.lb
 have lx : xs.length < 1000 := Nat.lt_trans la (by decide)
 have ly : ys.length < 1000 := Nat.lt_trans lb (by decide)
 have lm : mk.length < 1000 := Nat.lt_trans T.ml (by decide)
 have hlo := T.lo
 have hhi := cut_hi hlo T.eb.e1 T.eb.e2 T.eb.e3
 refine item_list S4.ge0 T.k0 T.k1 T.hek ?_
 refine fun stm hst => ev_comp FF rm.handled ?_ hst
 refine ⟨keep_fn G kp264, ?_⟩
 refine call_bisect G (rm.less (by decide)) D.gm (Nat.lt_trans lm (by decide)) D.ms ?_
 refine fun p => slice_toN D.gm lm (below_le mk k) ?_
 refine .mk _ 0 (gsel E) (sq_list ge) (by rw [List.length_map, List.length_take]; grind) (gsel_vc rfl rfl rfl rfl rfl rfl (ga S4.gg) (fun z hz => mk0 z (List.mem_of_mem_take hz)) (Nat.lt_trans L.lE (by decide))) ?_
 rw [gsel_map]
 refine sum_list rm.handled ge ?_
 have gr5 := ga (F := Fam.one (O.list (((mk.take (below mk k)).map fun c => grw (E.getD c.toNat (0, 0, 0, 0))).map V.int))) (ga (F := Fam.one (O.list ((mk.take (below mk k)).map V.int))) gr)
 have gm5 := ga (F := Fam.one (O.list (((mk.take (below mk k)).map fun c => grw (E.getD c.toNat (0, 0, 0, 0))).map V.int))) (ga (F := Fam.one (O.list ((mk.take (below mk k)).map V.int))) D.gm)
 have gf5 := ga (F := Fam.one (O.list (((mk.take (below mk k)).map fun c => grw (E.getD c.toNat (0, 0, 0, 0))).map V.int))) (ga (F := Fam.one (O.list ((mk.take (below mk k)).map V.int))) S4.gf)
 have gs5 := ga (F := Fam.one (O.list (((mk.take (below mk k)).map fun c => grw (E.getD c.toNat (0, 0, 0, 0))).map V.int))) (ga (F := Fam.one (O.list ((mk.take (below mk k)).map V.int))) S4.gs)
 refine fun p => slice_mid gr5 T.len hlo hhi ?_
 refine fun p => slice_xs (ga gf5) lx T.eb.e1 (Int.le_trans T.eb.e2 T.eb.e3) (Int.le_trans T.eb.e1 T.eb.e2) T.eb.e3 ?_
 refine ne_list rm.hu (ga ge) ge (sel_f (by rw [beq_self_eq_true]; decide) ?_)
 refine fun p => slice_pre (ga (ga gr5)) T.len hlo ?_
 refine fun p => slice_xs (ga (ga (ga gs5))) ly T.eb.e4 (Int.le_trans T.eb.e5 T.eb.e6) (Int.le_trans T.eb.e4 T.eb.e5) T.eb.e6 ?_
 have l2 := T.len2
 rw [List.length_append, List.length_append] at l2
 refine add_ints (ga ge) ge (by grind) ?_
 refine fun p => slice_post (ga (ga (ga (ga (ga gr5))))) T.len hhi ?_
 refine add_ints (ga ge) ge (by rw [List.length_append]; lia) ?_
 refine ⟨keep_fn G kp255, ?_⟩
 refine call_insort G (rm.less (by decide)) (ga (ga (ga (ga (ga (ga (ga gm5))))))) (Nat.lt_trans lm (by decide)) D.ms ?_
 refine .mk _ _ _ _ _ _ _ _ _ _ _ _ _ _ _ _ _ (insAt mk k) _ ⟨Same.put D.sm.app.app.app.app.app.app.app.app.app (ga (ga (ga (ga (ga (ga (ga gm5))))))) (.inl hmi), Nat.ne_of_gt (lt_len (ga (ga (ga (ga (ga (ga gm5))))))), ?_, gp_eq (ga (ga (ga (ga (ga (ga (ga gm5))))))), ds, dm⟩
 rw [T.r2, ← List.append_assoc]
 exact gp_ne (ga (ga (ga (ga (ga (ga (ga gm5))))))) (Nat.ne_of_gt (lt_len (ga (ga (ga (ga (ga (ga gm5)))))))) ge
theorem law_d (G : Good c) (FF : Fit k_law c) (rm : Room 3 A) (L : LwE xs ys E order) (S : LwS xs ys E order fi si ei gi oi H)
  (q : ∀ loc H', Same (fun _ => False) H H' → kr (.bool true) ⟨loc, H'⟩) :
  vcSs A tl_d c ⟨[v0, v1, v2, v3, v4, some (.ref fi 0), some (.ref si 0), v7, some (.ref ei 0), v9, v10, v11, v12, some (.ref gi 0), v14, v15, v16, some (.ref oi 0), v18, v19, v20, v21, v22], H⟩ ⟨kn, kb, kc, kr⟩ := by
 have hr0 : Row xs ys (inM []) 0 0 E = xs := Row.none E 0 0 0 L.hE fun c => decide_eq_false fun h => nomatch h
 have S1 : LwS xs ys E order fi si ei gi oi (H ++ [Fam.one (O.list [])]) := S.same Same.refl.app
 have D0 : LdD xs ys E order H fi H.length [] 0 (H ++ [Fam.one (O.list [])]) := ⟨Same.refl.app, Nat.ne_of_lt (lt_len S.gf), by rw [hr0]; exact S1.gf, ge, List.Pairwise.nil, fun k => by rw [List.take_zero]⟩
 refine .mk _ 0 (LdI xs ys E order H fi si ei gi oi H.length) (sq_list S1.go) (.mk _ _ _ _ _ _ _ _ _ _ _ _ _ _ _ _ _ _ _ D0) (fun σ' I => ?_) (fun t σ' Y I hj => ?_)
 ·cases I with
  | mk v0 v1 v2 v3 v4 v7 v9 v10 v11 v12 v14 v15 v16 v20 v21 v22 ri mk H4 D =>
  have S4 := S.same D.sm.anew
  refine ⟨sq_list S4.go, ?_⟩
  have mo := D.mo
  rw [List.length_map, List.take_length] at mo
  have hn : Row xs ys (inM mk) 0 0 E = ys := Row.all E 0 0 0 L.hE fun c _ hc => decide_eq_true ((mo _).mpr ((L.ho _).mpr ⟨Int.natCast_nonneg _, by lia⟩))
  refine ne_list (xs := Row xs ys (inM mk) 0 0 E) rm.hu D.gr S4.gs (sel_f (by rw [hn, beq_self_eq_true]; decide) ?_)
  exact law_e G FF rm L S4 ⟨Same.refl, D.gr, D.gm, D.ms, mo⟩ fun loc H' sm => q loc H' (D.sm.anew.trans sm)
 ·cases I with
  | mk v0 v1 v2 v3 v4 v7 v9 v10 v11 v12 v14 v15 v16 v20 v21 v22 ri mk H4 D =>
  refine ⟨sq_list (S.same D.sm.anew).go, fun h0 ft => ?_⟩
  rw [List.getElem?_map] at hj
  obtain ⟨k, hu, e⟩ := Option.map_eq_some_iff.mp hj
  subst e
  exact law_d_body G.at (FF.at h0 ft) rm L S (Nat.le_refl _) D hu
end
end
end
section
structure Scr (c : Cx) (a : Addr) (xs : List Int) : Prop where
 at' : ∃ vs n, (∀ W, VRs W (xs.map V.int) vs.toList) ∧ ∀ σ ρ st, Den c σ ρ st → st.heap.get? a = some ⟨.type "list", none, .seq vs n, #[]⟩
noncomputable def chkEachS (k : Ck) (j x : Nat) (b : List TS) (st : Stmt) : Bool := onSFor st fun tg i b' o _ => o.isEmpty && (i.ctorIdx != 7 && (chkT1 k (.loc j) tg && (chkE k (.loc x) i && chkSs k b b')))
inductive EachSI (c : Cx) (W0 : Wd) (m : Nat) (ad a : Addr) (I : Nat → St → Prop) (s' : Shared) : Nat → Prop
 | mk (t : Nat) (σ' : St) (ρ' : Nat → Int → Addr) (hj : t ≤ m) (D : Den c σ' ρ' s') (x : Ext W0 (wd c σ' ρ' s')) (S : Aside c σ' ρ' ad) (it : s'.heap.IsListIter ad a t) (i : I t σ') : EachSI c W0 m ad a I s' (m + 1 - t)
section
variable {k : Ck} {c : Cx} {A : Around}
theorem ex_eachS (F : Fit k c) (hh : A.handled = none) {j x : Nat} {b : List TS} {stm : Stmt} (hc : chkEachS k j x b stm = true) {σ : St} {K : Kt} {a : Addr} {xs : List Int} (S : Scr c a xs) (hx : lk σ.loc x = some (.obj a))
  (I : Nat → St → Prop) (i0 : I 0 σ) (iend : ∀ σ', I xs.length σ' → K.next σ') (istep : ∀ t σ' z, I t σ' → xs[t]? = some z → ∀ h0 ft, vcT1 (c.at h0 ft) A (.loc j) (.int z) σ' fun σ₂ => vcSs A b (c.at h0 ft) σ₂ ⟨I (t + 1), K.next, I (t + 1), K.ret⟩) : ExE c A σ K stm :=
 onSFor_e (P := ExE c A σ K) hc fun tg i b' o p h => and_e h fun h0 h => nil_e (P := fun o => ExE c A σ K (.For tg i b' o p)) h0 (and_e h fun hs h => and_e h fun c1 h => and_e h fun c2 c3 => fun ρ st D => by
 obtain ⟨vs, n, hvs, hat⟩ := S.at'
 have len : vs.size = xs.length := by have := VRs.length (hvs (wd c σ ρ st)); rw [List.length_map, Array.length_toList] at this; exact this
 have q0 : vcE c A (.loc x) σ fun X σ₁ => X = .obj a ∧ σ₁ = σ := by
  show withV (lk σ.loc x) fun X => X = .obj a ∧ σ = σ
  rw [hx]; exact ⟨rfl, rfl⟩
 refine wpAny_For (wpP (sndE F (.loc x) i c2 σ _ q0 ρ st D) fun v s₁ X σ₁ ρ₁ D₁ rx x₁ q => ?_) (set_fold hs)
 obtain ⟨hX, hσ⟩ := q
 subst hX hσ
 have rx : v = .ref a := rx
 subst rx
 refine wpAny_pyIter_list (items := vs) ⟨_, hat _ _ _ D₁, rfl, n, rfl⟩ ?_
 have S₁ := D₁.fresh (get_size s₁.heap)
 have N₂ := D₁.keeps (st' := { s₁ with heap := s₁.heap.push { cls := .type "list_iterator", data := .fields #[.ref a, .int 0 0] } }) (fun b o hb => Heap.get?_push_of_some _ hb) rfl rfl
 have it0 : (s₁.heap.push { cls := .type "list_iterator", data := .fields #[.ref a, .int 0 0] }).IsListIter s₁.heap.objs.size a 0 := ⟨_, Heap.get?_push_size _ rfl, rfl, rfl⟩
 generalize s₁.heap.objs.size = ad at S₁ it0 ⊢
 refine codeAny_loop' (c := .forLoop tg (.ref ad) b' [] c.env) rfl (fun nn s' => EachSI c (wd c σ₁ ρ₁ s₁) xs.length ad a I s' nn) (fun nn s' hI => ?_) (xs.length + 1 - 0) (.mk 0 σ₁ ρ₁ (Nat.zero_le _) N₂.1 N₂.2 S₁ it0 i0)
 cases hI with
 | mk t σ' ρ' hj D' x' S' it' ij =>
 show wpAny _ _ ((forTurn tg (.ref ad) b' [] c.env).onRaise (fun x => do noteFrame x c.env; theTreesLotGoes x)) _ _ s'
 have hA : A.under (.forLoop tg (.ref ad) b' [] c.env) = A := Around.under_of_weight rfl
 rw [hA]
 refine wpAny_noted ?_
 unfold forTurn
 refine wpAny_bind (wpAny_standAt (wpAny_bind (wpAny_onRaise ?_)))
 have g' := hat _ _ _ D'
 cases hY : xs[t]? with
 | none =>
  have hje : t = xs.length := Nat.le_antisymm hj (List.getElem?_eq_none_iff.mp hY)
  subst hje
  refine wpAny_pyNext_list_end hh it' ⟨_, g', rfl, n, rfl⟩ (Array.getElem?_eq_none (Nat.le_of_eq len)) fun h₃ xb => ?_
  have N := D'.aside (st' := { s' with heap := h₃ }) S' (li_imm it') xb rfl rfl
  exact wpAny_pure (.inr ⟨rfl, codeAny_block (wpAny_execs_nil ⟨σ', ρ', N.1, x₁.trans (x'.trans N.2), iend σ' ij⟩)⟩)
 | some z =>
  have stp := istep t σ' z ij hY
  have hjl : t < xs.length := (List.getElem?_eq_some_iff.mp hY).1
  obtain ⟨y, hy, ry⟩ := (VRs.at t (hvs (wd c σ' ρ' s'))).1 (.int z) (by rw [List.getElem?_map, hY]; rfl)
  refine wpAny_pyNext_list_item it' ⟨_, g', rfl, n, rfl⟩ (by rw [← Array.getElem?_toList]; exact hy) fun h₃ it₃ sb => ?_
  have N₄ := D'.aside (st' := { s' with heap := h₃ }) S' (li_imm it') sb.extBut rfl rfl
  have ry4 := VR.ext N₄.2 _ _ ry
  generalize hs4 : ({ s' with heap := h₃ } : Shared) = s₄ at N₄ ry4 ⊢
  have eh4 : s₄.heap = h₃ := by rw [← hs4]
  rw [← eh4] at it₃
  obtain ⟨oi, gi, ci, di⟩ := it₃
  refine wpAny_bind (noted (lot_plain (R := fun _ s' => s' = s₄) gi ci di (by decide) rfl) fun _ s5 e5 => ?_)
  subst e5
  refine wpAny_bind (wpU (c := c.now σ' ρ' s5) (sndT1 (F.at s5.heap (c.now σ' ρ' s5).foot) hh c1 (stp s5.heap (c.now σ' ρ' s5).foot) ρ' s5 y N₄.1.now ry4) fun _ s₅ σ₅ ρ₅ D₅ x₅ q₅ => ?_)
  refine wpAny_bind (noted (sndSs hh b b' c3 (c.at s5.heap (c.now σ' ρ' s5).foot) (F.at s5.heap (c.now σ' ρ' s5).foot) σ₅ _ q₅ ρ₅ s₅ D₅) fun f s₆ P => ?_)
  have X6 : ∀ {σ₆ : St} {ρ₆ : Nat → Int → Addr}, Ext (wd c σ₅ ρ₅ s₅) (wd c σ₆ ρ₆ s₆) → Ext (wd c σ₁ ρ₁ s₁) (wd c σ₆ ρ₆ s₆) := fun x₆ => x'.trans (N₄.2.trans (Ext.trans x₅ x₆))
  have again : PostU (c.now σ' ρ' s5) (wd c σ₅ ρ₅ s₅) (I (t + 1)) () s₆ → EachSI c (wd c σ₁ ρ₁ s₁) xs.length ad a I s₆ (xs.length + 1 - (t + 1)) := fun h => by
   cases h with
   | mk σ₆ ρ₆ D₆ x₆ q₆ =>
    have asd := S'.next gi D₆
    exact .mk (t + 1) σ₆ ρ₆ hjl (N₄.1.back D₆) (X6 x₆) asd.1 ⟨oi, asd.2, ci, di⟩ q₆
  have lt : xs.length + 1 - (t + 1) < xs.length + 1 - t := Nat.sub_lt_sub_left (Nat.lt_succ_of_lt hjl) (Nat.lt_succ_self t)
  cases f with
  | next => exact wpAny_pure (.inl ⟨rfl, _, lt, again P⟩)
  | cont => exact wpAny_pure (.inl ⟨rfl, _, lt, again P⟩)
  | brk =>
   cases P with
   | mk σ₆ ρ₆ D₆ x₆ q₆ => exact wpAny_pure ⟨σ₆, ρ₆, N₄.1.back D₆, x₁.trans (X6 x₆), q₆⟩
  | ret v' =>
   cases P with
   | mk Z σ₆ ρ₆ D₆ rz x₆ q₆ => exact wpAny_pure ⟨Z, σ₆, ρ₆, N₄.1.back D₆, rz, x₁.trans (X6 x₆), q₆⟩)
end
section
variable {c : Cx} {A : Around} {σ : St} {Q : V → St → Prop}
theorem tr_scr {a : Addr} {xs : List Int} {Q : Bool → St → Prop} (S : Scr c a xs) (hl : xs.length < 1000) (q : Q (decide (xs ≠ [])) σ) : Tr c A σ (.obj a) Q := fun ρ st v D e => by
 have e : v = .ref a := e
 subst e
 obtain ⟨vs, n, hvs, hat⟩ := S.at'
 have len : vs.size = xs.length := by have := VRs.length (hvs (wd c σ ρ st)); rw [List.length_map, Array.length_toList] at this; exact this
 have g := hat _ _ _ D
 refine wpAny_truthy_list (items := vs) ⟨_, g, rfl, n, rfl⟩ (by rw [len]; lia) ?_
 have e2 : (!vs.isEmpty) = decide (xs ≠ []) := by
  unfold Array.isEmpty
  rw [len]
  cases xs <;> simp
 rw [e2]
 exact postB_tok D q _
theorem item_scr {a : Addr} {m : Int} {xs : List Int} {z : Int} (S : Scr c a xs) (h0 : 0 ≤ m) (hn : m < 1000000) (hY : xs[m.toNat]? = some z) (q : Q (.int z) σ) : Op2 c A σ (.obj a) (.int m) itemOf Q := fun ρ st v u D e ⟨t, e'⟩ => by
 have e : v = .ref a := e
 subst e e'
 obtain ⟨vs, n, hvs, hat⟩ := S.at'
 have g := hat _ _ _ D
 obtain ⟨y, hy, ry⟩ := (VRs.at m.toNat (hvs (wd c σ ρ st))).1 (.int z) (by simp [hY])
 have hl : st.heap.IsList a vs := ⟨_, g, rfl, n, rfl⟩
 exact item_by hl.typeIs slot_list_getitem.lookup (wpAny_getItem_list hl h0 (by lia) (by simpa using hy) (Post.now D ry q))
theorem slice_scr {l₀ : List (Option V)} {H₀ : AH} {a : Addr} {xs : List Int} {p : Pos} (S : Scr c a xs) (hl : xs.length < 1000) (q : Q (.ref H₀.length 0) ⟨l₀, H₀ ++ [.one (.list ((xs.drop 1).map V.int))]⟩) : Op3 c A ⟨l₀, H₀⟩ (.obj a) (.int 1) .none (sliceOf p) Q := fun ρ st v l u D e rl ru => by
 have e : v = .ref a := e
 subst e
 obtain ⟨vs, n, hvs, hat⟩ := S.at'
 have len : vs.size = xs.length := by have := VRs.length (hvs (wd c ⟨l₀, H₀⟩ ρ st)); rw [List.length_map, Array.length_toList] at this; exact this
 unfold sliceOf
 refine wpAny_bind (wpAny_newObj_type (T := "slice") (data := .fields #[l, u, .none]) ?_ (by show (3 : Nat) ≤ _; decide))
 obtain ⟨D₁, x₁⟩ := D.keeps (st' := { st with heap := st.heap.push { cls := .type "slice", data := .fields #[l, u, .none] } }) (fun b o hb => Heap.get?_push_of_some _ hb) rfl rfl
 have g := hat _ _ _ D₁
 have hl' : ({ st with heap := st.heap.push { cls := .type "slice", data := .fields #[l, u, .none] } } : Shared).heap.IsList a vs := ⟨_, g, rfl, n, rfl⟩
 refine wpAny_bind (wpAny_standAt (wpAny_bind ?_))
 unfold getitemInPython
 refine wpAny_bind (wpAny_specialOf hl'.typeIs slot_list_getitem.lookup (wpAny_pure ?_))
 refine wpAny_getItem_list_slice hl' (Heap.IsSliceOf.new _ _ _ _) (part_is (X := .int 1) (o := some 1) rfl rl) (part_is (X := .none) (o := none) rfl ru) .none (by simp) ?_ (by rw [len]; exact Nat.le_trans (Nat.le_of_lt hl) (by decide))
 have ha : clip vs.size 0 (.int 1) = some (min 1 vs.size) := rfl
 have hb : clip vs.size vs.size V.none = some vs.size := rfl
 have ev : vs.toList.length = vs.size := by simp
 have pk : slicePick vs (some 1) none none = (vs.toList.drop 1).toArray := by
  unfold slicePick
  rw [bounds_eq (L := .int 1) (U := .none) rfl rfl ha hb]
  have := range_pick vs.toList (min 1 vs.size) vs.size (Nat.le.refl)
  have e2 : cut vs.toList (min 1 vs.size) vs.size = vs.toList.drop 1 := by
   unfold cut
   rw [List.take_of_length_le (by rw [List.length_drop]; exact Nat.le.refl)]
   rcases Nat.lt_or_ge 1 vs.size with h | h
   ·rw [Nat.min_eq_left (Nat.le_of_lt h)]
   ·rw [List.drop_eq_nil_of_le (by grind), List.drop_eq_nil_of_le (by assumption)]
  rw [e2] at this
  simpa using this
 rw [pk]
 have rs : VRs (wd c ⟨l₀, H₀⟩ ρ { st with heap := st.heap.push { cls := .type "slice", data := .fields #[l, u, .none] } }) ((xs.drop 1).map V.int) (vs.toList.drop 1) := by
  rw [List.map_drop]; exact VRs.drop 1 (hvs _)
 obtain ⟨D₂, x₂⟩ := D₁.alloc (st' := { st with heap := (st.heap.push { cls := .type "slice", data := .fields #[l, u, .none] }).push { cls := .type "list", data := .seq (vs.toList.drop 1).toArray } }) (a := (st.heap.push { cls := .type "slice", data := .fields #[l, u, .none] }).objs.size) (o' := .list ((xs.drop 1).map V.int)) (get_size _)
  (fun b o hb => Heap.get?_push_of_some _ hb) rfl rfl ⟨(vs.toList.drop 1).toArray, ⟨0, Heap.get?_push_size _ rfl⟩, VRs.ext (alloc_ext D₁ (get_size _) (fun b o hb => Heap.get?_push_of_some _ hb)) _ _ (by simpa using rs)⟩
 exact ⟨.ref H₀.length 0, _, _, D₂, ⟨by simp [wd, ρapp], by simp [wd, AH.get_app]⟩, x₁.trans x₂, q⟩
end
end
section
@[reducible] noncomputable def b_ties : List TS := [.assign [(.tup [15, 16])] (.tuple [(.bin .Mod (.loc 3) (.call (.glob 3) [(.call (.glob 0) [(.loc 8)]), (.int 1)])), (.bin .Mod (.bin .FloorDiv (.loc 3) (.call (.glob 3) [(.call (.glob 0) [(.loc 8)]), (.int 1)])) (.call (.glob 3) [(.call (.glob 0) [(.loc 8)]), (.int 1)]))]),
 .ite (.cmp .NotEq (.loc 15) (.loc 16)) [.expr (.meth (.loc 14) (s "append") [(.ite (.cmp .Eq (.bin .Mod (.bin .FloorDiv (.loc 1) (.int 4)) (.int 2)) (.int 0)) (.tuple [(.call (.glob 3) [(.loc 15), (.loc 16)]), (.call (.glob 4) [(.loc 15), (.loc 16)])]) (.tuple [(.call (.glob 4) [(.loc 15), (.loc 16)]), (.call (.glob 3) [(.loc 15), (.loc 16)])]))])] []]
@[reducible] noncomputable def tl_c : List TS := .assign [(.loc 14)] (.list []) :: .sem (chkEachS k_law 3 0 b_ties) :: .assign [(.loc 17)] (.call (.glob 21) [(.call (.glob 0) [(.loc 8)]), (.loc 14)]) :: .ite (.cmp .NotEq (.sem (chkComp k_law cd_law_736_7)) (.list [])) [.ret (some (.bool false))] [] :: tl_d
theorem idx_ex {l : List Int} {a : Int} (h : a ∈ l) : ∃ i, l.idxOf? a = some i ∧ l[i]? = some a ∧ a ∉ l.take i := by
 induction l with
 | nil => cases h
 | cons b l ih =>
  by_cases e : b = a
  ·subst e; exact ⟨0, by rw [List.idxOf?_cons, beq_self_eq_true]; rfl, rfl, fun h => nomatch h⟩
  ·have h2 : a ∈ l := (List.mem_cons.mp h).resolve_left fun q => e q.symm
   obtain ⟨i, h1, h2, h3⟩ := ih h2
   refine ⟨i + 1, ?_, h2, ?_⟩
   ·rw [List.idxOf?_cons, h1, beq_false_of_ne e]; rfl
   ·rw [List.take_succ_cons, List.mem_cons]; exact fun q => q.elim (fun q => e q.symm) h3
theorem kp396 (P : Params) : keepIn (K P) (.ref 396) = true := by kernel_rfl
noncomputable def rk (way : Int) (z : Int) : Int := if (way.fdiv 4).fmod 2 = 0 then z else -z
noncomputable def tieOk (n : Nat) (way : Int) (x : Int × Int) : Prop := x.1 ∈ upto n ∧ x.2 ∈ upto n ∧ rk way x.2 < rk way x.1
noncomputable def tieV (x : Int × Int) : V := .tup [.int x.1, .int x.2]
section
variable {c : Cx} {A : Around} {σ : St} {Q : V → St → Prop} {xs ys : List Int}
theorem len_max {l₀ : List (Option V)} {H₀ : AH} {i : Nat} {l : List V} (hh : A.handled = none) (hg : H₀.get i 0 = some (.list l)) (hl : l.length < 1000000) (q : Q (.int (max (l.length : Int) 1)) ⟨l₀, H₀⟩) : Ca c A ⟨l₀, H₀⟩ (.bi "len") [.ref i 0] fun Z σ₁ => Ca c A σ₁ (.bi "max") [Z, .int 1] Q :=
 len_list hg hl (max_ii hh q)
section
variable {d : CD} {o : Nat} {x1 : Option V}
theorem cap2_e {loc : List (Option V)} (hn : d.ns.length = 3) (hc : d.cap = [(2, o)]) (h : σ.loc[o]? = some x1) (cap : CapOk d σ loc) {P : List (Option V) → Prop} (k : ∀ x0 y0, P [x0, y0, x1]) : P loc := by
 obtain ⟨hl, h2⟩ := cap
 have h3 := h2 2 o (by rw [hc]; rfl) (by rw [hn]; decide)
 rw [hn] at hl
 obtain ⟨a, r, e⟩ := List.exists_cons_of_length_eq_add_one hl
 subst e
 obtain ⟨b, r', e⟩ := List.exists_cons_of_length_eq_add_one (Nat.succ.inj hl)
 subst e
 obtain ⟨b', r'', e⟩ := List.exists_cons_of_length_eq_add_one (Nat.succ.inj (Nat.succ.inj hl))
 subst e
 have e : r'' = [] := List.eq_nil_of_length_eq_zero (Nat.succ.inj (Nat.succ.inj (Nat.succ.inj hl)))
 subst e
 have h3 : some b' = σ.loc[o]? := h3
 rw [h] at h3
 cases h3
 exact k a b
theorem cap2_i {y y' : Option V} (hn : d.ns.length = 3) (hc : d.cap = [(2, o)]) (h : σ.loc[o]? = some x1) : CapOk d σ [y, y', x1] := by
 refine ⟨hn.symm, fun i j h1 h2 => ?_⟩
 rw [hc] at h1
 by_cases e : i = 2
 ·subst e
  have e : o = j := Option.some.inj h1
  subst e
  exact h.symm
 ·have e2 : List.lookup i [(2, o)] = none := by
   show (match i == 2 with | true => some o | false => none) = none
   rw [beq_false_of_ne e]
  rw [e2] at h1; cases h1
end
theorem late_vc {loc2 : List (Option V)} {H : AH} {o : Nat} {fin : List Int} {ts : List (Int × Int)} (h17 : loc2[17]? = some (some (.ref o 0))) (go : H.get o 0 = some (.list (fin.map .int))) (hl : fin.length < 1000) (hin : ∀ x ∈ ts, x.1 ∈ fin ∧ x.2 ∈ fin) (hord : ∀ x ∈ ts, ∀ i, fin[i]? = some x.1 → x.2 ∈ fin.take i) :
  compVc c A cd_law_736_7 ⟨loc2, H⟩ (ts.map tieV) (fun _ => none) := fun c' hw' h1 loc Y cap hY => by
 obtain ⟨x, hx, e⟩ := List.mem_map.mp hY
 subst e
 obtain ⟨t1, t2⟩ := hin x hx
 obtain ⟨i, i1, i2, i3⟩ := idx_ex t1
 obtain ⟨j, j1, j2, j3⟩ := idx_ex t2
 have hji : j < i := by
  obtain ⟨m, hm, em⟩ := List.mem_take_iff_getElem.mp (hord x hx i i2)
  refine Nat.lt_of_not_le fun h => j3 (List.mem_take_iff_getElem.mpr ⟨m, ?_, em⟩)
  exact Nat.lt_min.mpr ⟨Nat.lt_of_lt_of_le (Nat.lt_min.mp hm).1 h, (Nat.lt_min.mp hm).2⟩
 refine cap2_e (σ := ⟨loc2, H⟩) (x1 := some (.ref o 0)) rfl rfl h17 cap (P := fun loc => vcT1 c' A (.tup [0, 1]) (tieV x) ⟨loc, H⟩ fun σ₂ => vcT c' A .And cd_law_736_7.ifs σ₂ fun b σ₃ => sel b (vcE c' A (.int 1) σ₃ fun Z σ₄ => none = some Z ∧ σ₄.H = H ∧ CapOk cd_law_736_7 ⟨loc2, H⟩ σ₄.loc) (none = none ∧ σ₃.H = H ∧ CapOk cd_law_736_7 ⟨loc2, H⟩ σ₃.loc)) fun x0 y0 => ?_
 refine getM_list go F.slot_list_index F.type_list_index ?_
 refine index_list go (Nat.lt_trans hl (by decide)) i1 ?_
 refine getM_list go F.slot_list_index F.type_list_index ?_
 refine index_list go (Nat.lt_trans hl (by decide)) j1 ?_
 exact sel_f (fun h => Nat.lt_asymm hji (Int.ofNat_lt.mp h)) ⟨rfl, rfl, cap2_i (σ := ⟨loc2, H⟩) rfl rfl h17⟩
@[reducible] noncomputable def lcL (a : Addr) (way : Int) (v2 v3 v4 : Option V) (fi si : Nat) (v7 : Option V) (ei : Nat) (v9 v10 v11 v12 : Option V) (gi ti : Nat) (v15 v16 v17 v18 v19 v20 v21 v22 : Option V) : List (Option V) :=
 [some (.obj a), some (.int way), v2, v3, v4, some (.ref fi 0), some (.ref si 0), v7, some (.ref ei 0), v9, v10, v11, v12, some (.ref gi 0), some (.ref ti 0), v15, v16, v17, v18, v19, v20, v21, v22]
structure LcD (n : Nat) (way : Int) (H : AH) (ti : Nat) (ts : List (Int × Int)) (t : Nat) (H' : AH) : Prop where
 sm : Same (fun j => H.length ≤ j) H H'
 gt : H'.get ti 0 = some (.list (ts.map tieV))
 ht : ∀ x ∈ ts, tieOk n way x
 hl : ts.length ≤ t
section
variable {a : Addr} {way : Int} {fi si ei gi ti : Nat} {v2 v3 v4 v7 v9 v10 v11 v12 v14 v15 v16 v17 v18 v19 v20 v21 v22 : Option V} {H H' : AH} {kn kb kc : St → Prop} {kr : V → St → Prop} {E : List T4} {ts : List (Int × Int)} {t : Nat}
inductive LcI (n : Nat) (a : Addr) (way : Int) (v2 v4 : Option V) (fi si : Nat) (v7 : Option V) (ei : Nat) (v9 v10 v11 v12 : Option V) (gi ti : Nat) (v17 v18 v19 v20 v21 v22 : Option V) (H : AH) (t : Nat) : St → Prop
 | mk (v3 v15 v16 : Option V) (H' : AH) (ts : List (Int × Int)) (D : LcD n way H ti ts t H') : LcI n a way v2 v4 fi si v7 ei v9 v10 v11 v12 gi ti v17 v18 v19 v20 v21 v22 H t ⟨lcL a way v2 v3 v4 fi si v7 ei v9 v10 v11 v12 gi ti v15 v16 v17 v18 v19 v20 v21 v22, H'⟩
theorem LcD.more {n : Nat} {x : Int × Int} (D : LcD n way H ti ts t H') (hti : H.length ≤ ti) (hx : tieOk n way x) : LcD n way H ti (ts ++ [x]) (t + 1) (H'.put ti 0 (.list (ts.map tieV ++ [tieV x]))) :=
 ⟨D.sm.put D.gt (.inl hti), by rw [gp_eq D.gt, List.map_append]; rfl, fun y hy => (List.mem_append.mp hy).elim (D.ht y) fun h => by rw [List.mem_singleton.mp h]; exact hx, by rw [List.length_append]; exact Nat.succ_le_succ D.hl⟩
theorem law_c_body (rm : Room 1 A) (lE : E.length < 200) (hti : H.length ≤ ti) (ge0 : H.get ei 0 = some (.list (E.map t4V))) (D : LcD E.length way H ti ts t H') (hlt : t < 100) (z : Int) :
  vcSs A b_ties c ⟨lcL a way v2 (some (.int z)) v4 fi si v7 ei v9 v10 v11 v12 gi ti v15 v16 v17 v18 v19 v20 v21 v22, H'⟩ ⟨LcI E.length a way v2 v4 fi si v7 ei v9 v10 v11 v12 gi ti v17 v18 v19 v20 v21 v22 H (t + 1), kb, LcI E.length a way v2 v4 fi si v7 ei v9 v10 v11 v12 gi ti v17 v18 v19 v20 v21 v22 H (t + 1), kr⟩ := by
 have ge4 := D.sm.anew.2 _ _ _ (fun h => h) ge0
 have el : (E.map t4V).length = E.length := List.length_map ..
 have lE4 : (E.map t4V).length < 1000000 := by lia
 have hn1 : 0 < max ((E.map t4V).length : Int) 1 := by lia
 have hn2 : max ((E.map t4V).length : Int) 1 = 1 ∨ max ((E.map t4V).length : Int) 1 = E.length := by lia
 have hn3 : max ((E.map t4V).length : Int) 1 < 1000 := by lia
 have len : ∀ {l₀ : List (Option V)} {Q : V → St → Prop}, Q (.int (max ((E.map t4V).length : Int) 1)) ⟨l₀, H'⟩ → Ca c A ⟨l₀, H'⟩ (.bi "len") [.ref ei 0] fun Z σ₁ => Ca c A σ₁ (.bi "max") [Z, .int 1] Q := fun q => len_max rm.handled ge4 lE4 q
 generalize max ((E.map t4V).length : Int) 1 = n at hn1 hn2 hn3 len
 have n0 : n ≠ 0 := Int.ne_of_gt hn1
 refine len (mod_ii n0 ?_)
 refine len (div_ii n0 (PyProof.noPylong_small (by grind)) ?_)
 refine len (mod_ii n0 ?_)
 have a0 := Int.fmod_nonneg_of_pos z hn1
 have a1 := Int.fmod_lt_of_pos z hn1
 have b0 := Int.fmod_nonneg_of_pos (z.fdiv n) hn1
 have b1 := Int.fmod_lt_of_pos (z.fdiv n) hn1
 generalize z.fmod n = av at a0 a1 ⊢
 generalize (z.fdiv n).fmod n = bv at b0 b1 ⊢
 refine sel_d (fun hab => ?_) fun _ => .mk _ _ _ _ ts ⟨D.sm, D.gt, D.ht, Nat.le_succ_of_le D.hl⟩
 have lts : (ts.map tieV).length < 1000000 := by rw [List.length_map]; exact Nat.lt_of_le_of_lt D.hl (Nat.lt_trans hlt (by decide))
 have mx : max av bv ∈ upto E.length := mem_upto.mpr (by lia)
 have mn : min av bv ∈ upto E.length := mem_upto.mpr (by lia)
 have lt : min av bv < max av bv := by lia
 refine getM_list D.gt F.slot_list_append F.type_list_append ?_
 refine div_ii (by decide) (PyProof.noPylong_small (by decide)) ?_
 refine mod_ii (by decide) ?_
 refine sel_d (fun h => ?_) fun h => ?_
 ·refine max_ii rm.handled (min_ii rm.handled ?_)
  exact append_list D.gt lts (.mk _ _ _ _ _ (D.more hti (x := (max av bv, min av bv)) ⟨mx, mn, by unfold rk; rw [if_pos h, if_pos h]; exact lt⟩))
 ·refine min_ii rm.handled (max_ii rm.handled ?_)
  exact append_list D.gt lts (.mk _ _ _ _ _ (D.more hti (x := (min av bv, max av bv)) ⟨mn, mx, by unfold rk; rw [if_neg h, if_neg h]; exact Int.neg_lt_neg lt⟩))
theorem law_c {script : List Int} (G : Good c) (FF : Fit k_law c) (rm : Room 6 A) (stk : Stk c A) (S : Scr c a script) (ls : script.length < 100)
  (hE : Ed xs ys 0 0 E) (la : xs.length < 400) (lb : ys.length < 400) (lE : E.length < 200)
  (gf : H.get fi 0 = some (.list (xs.map .int))) (gs : H.get si 0 = some (.list (ys.map .int))) (ge0 : H.get ei 0 = some (.list (E.map t4V))) (gg : H.get gi 0 = some (.list ((E.map grw).map V.int)))
  (q : ∀ loc H', Same (fun _ => False) H H' → kr (.bool true) ⟨loc, H'⟩) :
  vcSs A tl_c c ⟨[some (.obj a), some (.int way), v2, v3, v4, some (.ref fi 0), some (.ref si 0), v7, some (.ref ei 0), v9, v10, v11, v12, some (.ref gi 0), v14, v15, v16, v17, v18, v19, v20, v21, v22], H⟩ ⟨kn, kb, kc, kr⟩ := by
 refine fun stm hst => ex_eachS FF rm.handled hst S rfl (LcI E.length a way v2 v4 fi si v7 ei v9 v10 v11 v12 gi H.length v17 v18 v19 v20 v21 v22 H) (.mk _ _ _ _ [] ⟨Same.refl.app, ge, (fun x h => nomatch h), Nat.le_refl _⟩) (fun σ' I => ?_) fun t σ' z I hz h0 ft => ?_
 ·cases I with
  | mk v3 v15 v16 H4 ts D =>
  have S4 : ∀ {fin : List Int} {o : Nat}, H4.get o 0 = some (.list (fin.map .int)) → LwS xs ys E fin fi si ei gi o H4 := fun go =>
   have kp : ∀ {j : Nat} {o : O}, H.get j 0 = some o → H4.get j 0 = some o := fun h => D.sm.anew.2 _ _ _ (fun h => h) h
   ⟨kp gf, kp gs, kp ge0, kp gg, go⟩
  refine ⟨keep_fn G kp396, ?_⟩
  refine len_list (D.sm.anew.2 _ _ _ (fun h => h) ge0) (by rw [List.length_map]; exact Nat.lt_trans lE (by decide)) ?_
  rw [List.length_map]
  refine call_order (r := rk way) (n := E.length) (ts := ts) G (rm.less (by decide)) stk lE (Nat.lt_of_le_of_lt D.hl (Nat.lt_trans ls (by decide))) D.ht D.gt fun H5 o fin sm5 go nd hin hord => ?_
  have kp5 : ∀ {j : Nat} {o : O}, H4.get j 0 = some o → H5.get j 0 = some o := fun h => sm5.2 _ _ _ (fun h => h) h
  have kp : ∀ {j : Nat} {o : O}, H.get j 0 = some o → H5.get j 0 = some o := fun h => kp5 (D.sm.anew.2 _ _ _ (fun h => h) h)
  have finl : fin.length ≤ E.length := by
   have h1 := nd_len nd (m := upto E.length) fun x hx => (hin x).mp hx
   rw [upto_len] at h1; exact h1
  refine fun e he => ev_comp FF rm.handled ?_ he
  refine .mk _ 0 (fun _ => none) (sq_list (kp5 D.gt)) (by rw [List.length_map]; exact Nat.le_trans D.hl (Nat.le_of_lt (Nat.lt_trans ls (by decide)))) (late_vc rfl go (Nat.lt_of_le_of_lt finl (Nat.lt_trans lE (by decide))) (fun x hx => ⟨(hin _).mpr (D.ht x hx).1, (hin _).mpr (D.ht x hx).2.1⟩) hord) ?_
  rw [List.filterMap_eq_nil_iff.mpr fun a _ => rfl]
  refine ne_nil rm.hu (ga ge) ge (sel_f (by decide) ?_)
  exact law_d G FF (rm.less (by decide)) ⟨hE, la, lb, Nat.lt_trans lE (by decide), nd, fun k => by rw [hin, mem_upto]⟩ ⟨ga (ga (kp gf)), ga (ga (kp gs)), ga (ga (kp ge0)), ga (ga (kp gg)), ga (ga go)⟩ fun loc H' sm => q loc H' (D.sm.anew.trans (sm5.app.app.trans sm))
 ·cases I with
  | mk v3 v15 v16 H4 ts D => exact law_c_body (rm.less (by decide)) lE (Nat.le_refl _) ge0 D (Nat.lt_trans (List.getElem?_eq_some_iff.mp hz).1 ls) z
end
end
end
section
@[reducible] noncomputable def tl_b : List TS := .assign [(.loc 7)] (.meth (.call (.glob 13) [.none, (.loc 5), (.loc 6), (.bool false)]) (s "get_opcodes") []) ::
 .ite (.not (.call (.glob 20) [(.loc 7), (.loc 5), (.loc 6)])) [.ret (some (.bool false))] [] ::
 .sem (chkAsgC k_law cd_law_728_12 (.loc 8)) ::
 .sem (chkAsgC k_law cd_law_729_12 (.loc 13)) :: tl_c
noncomputable def csel : V → Option V
 | .tup (.str w :: r) => if w == s "equal" then none else some (.tup r)
 | _ => none
theorem csel_yes {x : T5} (h : ¬ x.1 = s "equal") : csel (cdV x) = some (t4V x.2) := if_neg fun e => h (beq_iff_eq.mp e)
theorem csel_no {x : T5} (h : x.1 = s "equal") : csel (cdV x) = none := if_pos (beq_iff_eq.mpr h)
theorem csel_map (codes : List T5) : (codes.map cdV).filterMap csel = (edts codes).map t4V := by
 unfold edts
 induction codes with
 | nil => rfl
 | cons x r ih =>
  rw [List.map_cons, List.filterMap_cons, ih]
  by_cases h : x.1 = s "equal"
  ·rw [csel_no h, List.filter_cons_of_neg (by rw [beq_iff_eq.mpr h]; decide)]
  ·rw [csel_yes h, List.filter_cons_of_pos (by rw [beq_eq_false_iff_ne.mpr h]; rfl)]; rfl
noncomputable def grsel : V → Option V
 | .tup [.int a, .int b, .int d, .int e] => some (.int (e - d - (b - a)))
 | _ => none
theorem grsel_map : ∀ E : List T4, (E.map t4V).filterMap grsel = (E.map grw).map V.int
 | [] => rfl
 | x :: r => by rw [List.map_cons, List.filterMap_cons, grsel_map r]; rfl
theorem kp242 (P : Params) : keepIn (K P) (.ref 242) = true := by kernel_rfl
theorem kp210 (P : Params) : keepIn (K P) (.ref 210) = true := by kernel_rfl
theorem kp389 (P : Params) : keepIn (K P) (.ref 389) = true := by kernel_rfl
theorem mt_goc (P : Params) : methOk (K P) 242 (s "get_opcodes") 210 = true := by kernel_rfl
section
variable {c : Cx} {A : Around} {σ : St} {Q : V → St → Prop} {xs ys : List Int}
theorem cons_e {α : Type} {l : List α} {n : Nat} {C : Prop} (h : l.length = n + 1) (k : ∀ a r, l = a :: r → r.length = n → C) : C := by
 obtain ⟨a, r, e⟩ := List.exists_cons_of_length_eq_add_one h
 subst e
 exact k a r rfl (Nat.succ.inj h)
theorem nil_len {α : Type} {l : List α} {C : Prop} (h : l.length = 0) (k : l = [] → C) : C := k (List.eq_nil_of_length_eq_zero h)
theorem csel_vc {loc2 : List (Option V)} {H : AH} {codes : List T5} : compVc c A cd_law_728_12 ⟨loc2, H⟩ (codes.map cdV) csel := fun c' hw' h1 loc Y cap hY => by
 obtain ⟨x, hx, e⟩ := List.mem_map.mp hY
 subst e
 refine cons_e (show loc.length = 0 + 1 from cap.1) fun x0 r e h => nil_len h fun e' => ?_
 subst e e'
 have ok : ∀ y : Option V, CapOk cd_law_728_12 ⟨loc2, H⟩ [y] := fun y => ⟨rfl, fun i o h _ => nomatch h⟩
 refine item_tup (by decide) (by decide) rfl (sel_d (fun hb => fun p => ?_) fun hb => ?_)
 ·exact slice_tup (n := 1) (by decide) (Nat.le_add_left 1 4) (show (5 : Nat) < 1000000 by decide) ⟨csel_yes hb, rfl, ok _⟩
 ·exact ⟨csel_no (Decidable.not_not.mp hb), rfl, ok _⟩
theorem grsel_vc {loc2 : List (Option V)} {H : AH} {E : List T4} : compVc c A cd_law_729_12 ⟨loc2, H⟩ (E.map t4V) grsel := fun c' hw' h1 loc Y cap hY => by
 obtain ⟨x, hx, e⟩ := List.mem_map.mp hY
 subst e
 refine cons_e (show loc.length = 3 + 1 from cap.1) fun x0 r e h => cons_e h fun x1 r1 e1 h => cons_e h fun x2 r2 e2 h => cons_e h fun x3 r3 e3 h => nil_len h fun e4 => ?_
 subst e e1 e2 e3 e4
 exact And.intro rfl (And.intro rfl ⟨rfl, fun i o h _ => nomatch h⟩)
theorem law_b {H : AH} {kn kb kc : St → Prop} {kr : V → St → Prop} {a : Addr} {script : List Int} {way : Int} {fi si : Nat} {v2 v3 v4 v7 v8 v9 v10 v11 v12 v13 v14 v15 v16 v17 v18 v19 v20 v21 v22 : Option V} (G : Good c) (FF : Fit k_law c) (rm : Room 8 A) (stk : Stk c A) (S : Scr c a script) (ls : script.length < 100)
  (la : xs.length < 63) (lb : ys.length < 63) (gf : H.get fi 0 = some (.list (xs.map .int))) (gs : H.get si 0 = some (.list (ys.map .int)))
  (q : ∀ loc H', Same (fun _ => False) H H' → kr (.bool true) ⟨loc, H'⟩) :
  vcSs A tl_b c ⟨[some (.obj a), some (.int way), v2, v3, v4, some (.ref fi 0), some (.ref si 0), v7, v8, v9, v10, v11, v12, v13, v14, v15, v16, v17, v18, v19, v20, v21, v22], H⟩ ⟨kn, kb, kc, kr⟩ := by
 refine ⟨keep_fn G kp242, ?_⟩
 refine call_sm G (rm.less (by decide)) gf gs (Nat.lt_trans lb (by decide)) fun H1 d ju po lj S1 sm1 => ?_
 refine getM_inst G.top (mt_goc _) S1.self rfl ?_
 refine ⟨keep_fn G kp210, ?_⟩
 refine call_goc G rm S1 la (Nat.lt_trans lb (by decide)) fun H2 an na sm2 ga2 hl2 nad => ?_
 have kp2 : ∀ {j : Nat} {o : O}, H.get j 0 = some o → H2.get j 0 = some o := fun h => sm2.2 _ _ _ (Nat.ne_of_lt (lt_len h)) (sm1.2 _ _ _ (fun h => h) h)
 have smA : Same (fun _ => False) H H2 := ⟨Nat.le_trans sm1.1 sm2.1, fun j y ob _ g => sm2.2 j y ob (Nat.ne_of_lt (lt_len g)) (sm1.2 _ _ _ (fun h => h) g)⟩
 have hw := nad_wok (Int.le_refl _) (Int.le_refl _) nad rfl
 have hEd : Ed xs ys 0 0 (edts (ops 0 0 na)) := wok_ed (i := 0) (j := 0) (Int.le_refl _) (Int.le_refl _) (Int.le_refl _) (Int.le_refl _) (Int.natCast_nonneg _) (Int.natCast_nonneg _) (by rw [cut_nil, cut_nil]) hw
 generalize ops 0 0 na = codes at ga2 hl2 hw hEd
 have lE : (edts codes).length < 200 := by
  refine Nat.lt_of_le_of_lt ?_ hl2
  unfold edts; rw [List.length_map]; exact List.length_filter_le ..
 refine ⟨keep_fn G kp389, ?_⟩
 refine call_whole G (rm.less (by decide)) ga2 (kp2 gf) (kp2 gs) (Nat.lt_trans la (by decide)) (Nat.lt_trans lb (by decide)) hw fun H3 sm3 => sel_t rfl ?_
 have kp3 : ∀ {j : Nat} {o : O}, H2.get j 0 = some o → H3.get j 0 = some o := fun h => sm3.2 _ _ _ (fun h => h) h
 refine fun stm hst => ex_asgC FF rm.handled ?_ hst
 refine .mk _ 0 csel (sq_list (kp3 ga2)) (by rw [List.length_map]; exact Nat.le_of_lt (Nat.lt_trans hl2 (by decide))) csel_vc ?_
 rw [csel_map]
 generalize edts codes = E at hEd lE ⊢
 refine fun stm hst => ex_asgC FF rm.handled ?_ hst
 refine .mk _ 0 grsel (sq_list ge) (by rw [List.length_map]; exact Nat.le_of_lt (Nat.lt_trans lE (by decide))) grsel_vc ?_
 rw [grsel_map]
 exact law_c G FF (rm.less (by decide)) stk S ls hEd (Nat.lt_trans la (by decide)) (Nat.lt_trans lb (by decide)) lE (ga (ga (kp3 (kp2 gf)))) (ga (ga (kp3 (kp2 gs)))) (ga ge) ge fun loc H' sm => q loc H' (smA.trans (sm3.trans (Same.refl.app.trans (Same.refl.app.trans sm))))
end
end
section
@[reducible] noncomputable def tl_a : List TS := .assign [(.loc 1)] (.ite (.loc 0) (.sub (.loc 0) (.int 0)) (.int 0)) ::
 .assign [(.loc 2)] (.slice (.loc 0) (some (.int 1)) none) ::
 .ite (.cmp .Lt (.call (.glob 0) [(.loc 2)]) (.int 4)) [.assign [(.loc 2)] (.bin .Add (.loc 2) (.list [(.int 1), (.int 2), (.int 2), (.int 3)]))] [] ::
 .ite (.cmp .Lt (.bin .Mod (.loc 1) (.int 4)) (.int 3)) [.sem (chkAsgC k_law cd_law_722_18 (.loc 2))] [] ::
 .assign [(.loc 4)] (.bin .Mod (.bin .Add (.bin .FloorDiv (.call (.glob 0) [(.loc 2)]) (.int 2)) (.bin .FloorDiv (.loc 1) (.int 8))) (.bin .Add (.call (.glob 0) [(.loc 2)]) (.int 1))) ::
 .assign [(.tup [5, 6])] (.tuple [(.slice (.loc 2) none (some (.loc 4))), (.slice (.loc 2) (some (.loc 4)) none)]) :: tl_b
theorem ok_law2 (P : Params) : DefOk P 401 (fd_law P) n_law tl_a := ⟨⟨_, rfl, rfl⟩, by kernel_rfl, ⟨_, rfl, by kernel_rfl⟩, rfl, rfl, rfl, rfl, rfl, rfl, by decide +kernel, of_decide_eq_true (by kernel_rfl), by kernel_rfl⟩
noncomputable def msel (m : Int) : V → Option V
 | .int x => some (.int (x.fmod m))
 | _ => none
theorem msel_map (m : Int) : ∀ l : List Int, (l.map V.int).filterMap (msel m) = (l.map fun x => x.fmod m).map V.int
 | [] => rfl
 | a :: l => by rw [List.map_cons, List.filterMap_cons, msel_map m l]; rfl
section
variable {c : Cx} {A : Around} {σ : St} {Q : V → St → Prop} {xs ys : List Int}
@[reducible] noncomputable def laL (a : Addr) (way : Int) (v2 : Option V) : List (Option V) := [some (.obj a), some (.int way), v2, none, none, none, none, none, none, none, none, none, none, none, none, none, none, none, none, none, none, none, none]
inductive LaW (a : Addr) (H : AH) : St → Prop
 | mk (way : Int) : LaW a H ⟨laL a way none, H⟩
inductive LaN (a : Addr) (way : Int) (H : AH) : St → Prop
 | mk (ni : Nat) (nums : List Int) (H' : AH) (sm : Same (fun _ => False) H H') (g : H'.get ni 0 = some (.list (nums.map V.int))) (l : nums.length < 63) : LaN a way H ⟨laL a way (some (.ref ni 0)), H'⟩
theorem msel_vc {loc2 : List (Option V)} {H : AH} {way : Int} {l : List Int} (h : loc2[1]? = some (some (.int way))) : compVc c A cd_law_722_18 ⟨loc2, H⟩ (l.map V.int) (msel (way.fmod 4 + 2)) := fun c' hw' h1 loc Y cap hY => by
 obtain ⟨z, hz, e⟩ := List.mem_map.mp hY
 subst e
 have m0 := Int.fmod_nonneg_of_pos way (show (0 : Int) < 4 by decide)
 refine cap1_e (σ := ⟨loc2, H⟩) (x1 := some (.int way)) rfl rfl h cap (P := fun loc => vcT1 c' A (.loc 0) (V.int z) ⟨loc, H⟩ fun σ₂ => vcT c' A .And [] σ₂ fun b σ₃ => sel b (vcE c' A cd_law_722_18.elt σ₃ fun Z σ₄ => msel (way.fmod 4 + 2) (V.int z) = some Z ∧ σ₄.H = H ∧ CapOk cd_law_722_18 ⟨loc2, H⟩ σ₄.loc) (msel (way.fmod 4 + 2) (V.int z) = none ∧ σ₃.H = H ∧ CapOk cd_law_722_18 ⟨loc2, H⟩ σ₃.loc)) fun x0 => ?_
 exact mod_ii (by decide) (mod_ii (by omega) ⟨rfl, rfl, cap1_i (σ := ⟨loc2, H⟩) rfl rfl h⟩)
theorem law_a {H : AH} {kn kb kc : St → Prop} {kr : V → St → Prop} {a : Addr} {script : List Int} (G : Good c) (FF : Fit k_law c) (rm : Room 8 A) (stk : Stk c A) (S : Scr c a script) (ls : script.length ≤ 63)
  (q : ∀ loc H', Same (fun _ => False) H H' → kr (.bool true) ⟨loc, H'⟩) :
  vcSs A tl_a c ⟨[some (.obj a), none, none, none, none, none, none, none, none, none, none, none, none, none, none, none, none, none, none, none, none, none, none], H⟩ ⟨kn, kb, kc, kr⟩ := by
 refine s_cut (LaW a H) (fun K' _ hn => ?_) fun σ' I => ?_
 ·refine tr_scr S (Nat.lt_of_le_of_lt ls (by decide)) (sel_d (fun hb => ?_) fun _ => hn _ (.mk 0))
  obtain ⟨z, r, e⟩ := List.exists_cons_of_ne_nil (of_decide_eq_true hb)
  exact item_scr S (z := z) (by decide) (by decide) (by rw [e]; rfl) (hn _ (.mk z))
 cases I with
 | mk way =>
 refine fun p => slice_scr S (Nat.lt_of_le_of_lt ls (by decide)) ?_
 have l1 : (script.drop 1).length < 63 := by rw [List.length_drop]; omega
 refine s_cut (LaN a way H) (fun K' _ hn => ?_) fun σ' I => ?_
 ·refine len_ints ge (Nat.lt_trans l1 (by decide)) (sel_d (fun hb => ?_) fun _ => hn _ (.mk _ _ _ Same.refl.app ge l1))
  refine add_ints (ys := [1, 2, 2, 3]) (ga ge) ge (Nat.lt_trans (Nat.add_lt_add_right l1 4) (by decide)) (hn _ (.mk _ _ _ Same.refl.app.app.app ge ?_))
  rw [List.length_append]; exact Nat.lt_of_lt_of_le (Nat.add_lt_add_right (Int.ofNat_lt.mp hb) 4) (by decide)
 cases I with
 | mk ni nums H2 sm g l2 =>
 refine s_cut (LaN a way H) (fun K' _ hn => ?_) fun σ' I => ?_
 ·refine mod_ii (by decide) (sel_d (fun _ => ?_) fun _ => hn _ (.mk ni nums H2 sm g l2))
  refine fun stm hst => ex_asgC FF rm.handled ?_ hst
  refine .mk _ 0 (msel (way.fmod 4 + 2)) (sq_list g) (by rw [List.length_map]; exact Nat.le_of_lt (Nat.lt_trans l2 (by decide))) (msel_vc rfl) ?_
  rw [msel_map]
  exact hn _ (.mk _ _ _ sm.app ge (by rw [List.length_map]; exact l2))
 cases I with
 | mk ni nums H2 sm g l2 =>
 refine len_ints g (Nat.lt_trans l2 (by decide)) ?_
 refine div_ii (by decide) (PyProof.noPylong_small (by decide)) ?_
 refine div_ii (by decide) (PyProof.noPylong_small (by decide)) ?_
 refine len_ints g (Nat.lt_trans l2 (by decide)) ?_
 refine mod_ii (Int.ne_of_gt (Int.natCast_succ_pos _)) ?_
 have c0 := Int.fmod_nonneg_of_pos ((nums.length : Int).fdiv 2 + way.fdiv 8) (show (0 : Int) < (nums.length : Int) + 1 from Int.natCast_succ_pos _)
 have c1 := Int.lt_add_one_iff.mp (Int.fmod_lt_of_pos ((nums.length : Int).fdiv 2 + way.fdiv 8) (show (0 : Int) < (nums.length : Int) + 1 from Int.natCast_succ_pos _))
 generalize ((nums.length : Int).fdiv 2 + way.fdiv 8).fmod ((nums.length : Int) + 1) = ct at c0 c1 ⊢
 have l3 : nums.length < 1000 := Nat.lt_trans l2 (by decide)
 refine fun p1 => slice_to g l3 c0 c1 ?_
 refine fun p2 => slice_from (ga g) l3 c0 c1 ?_
 exact law_b (xs := nums.take ct.toNat) (ys := nums.drop ct.toNat) G FF rm stk S (Nat.lt_of_le_of_lt ls (by decide)) (Nat.lt_of_le_of_lt (List.length_take_le' _ _) l2) (by rw [List.length_drop]; exact Nat.lt_of_le_of_lt (Nat.sub_le _ _) l2) (ga ge) ge fun loc H' sm' => q loc H' (sm.app.app.trans sm')
end
end
section
theorem pre_law {args : List WData} (h : PySem.Challenge.rw_mu0007_01.row.toRowW.claim.pre args = true) : ∃ ns : List Int, args = [.list (ns.map .int)] ∧ ns.length ≤ 63 := by
 obtain ⟨h1, h2⟩ := pre_splitW h
 obtain ⟨d, r, rfl, h3, h4⟩ := hasAllW_cons h1
 have h5 := hasAllW_nil h4
 subst h5
 obtain ⟨xs, rfl, h6⟩ := hasW_list h3
 obtain ⟨ns, rfl⟩ := items_int h6
 refine ⟨ns, rfl, ?_⟩
 have h2 : PySem.Challenge.rw_mu0007_01.pre.holds [] { args := [.list (ns.map .int)] } = true := h2
 unfold OpenLaw.pre WTm.holds at h2
 simp [PySem.Challenge.rw_mu0007_01, WTm.value] at h2
 by_cases c : ns.length ≤ 63
 ·exact c
 ·exfalso
  have e : less? (WData.int 63) (WData.int ns.length) = some true := by
   show some (decide ((63 : Int) < (ns.length : Int))) = some true
   rw [decide_eq_true (by lia)]
  rw [e] at h2
  simp at h2
theorem o3_law (P : Params) : ∃ es ep, (o3 P).data = .dict es ep ∧ nsFind es (s "law") = some (.ref 401) := ⟨_, _, rfl, by kernel_rfl⟩
theorem well_ints {P : Params} {h : Heap} : ∀ {ns : List Int} {vs : List Value}, WellAll P h vs (ns.map .int) → ∀ W, VRs W (ns.map V.int) vs
 | [], _, h, W => by cases h; exact VRs.nil W
 | n :: ns, _, h, W => by
  cases h with
  | cons a b => cases a with | int => exact VRs.cons ⟨_, rfl⟩ (well_ints b W)
theorem walk_law : ∀ (d : DefRec) (kwd : List (Str × Expr)), d.name = s "law" → WalkO qv loose (fun _ _ => True) kh.says PySem.Challenge.rw_mu0007_01.row.toRowW d kwd fun f vs => PySem.call f vs := by
 intro d kwd hn w s₀ s₁ mg mb Gr Y a o pm cd doc dV kV ho hod hcr hdf hmg hgens args vals as hpre hlay hrd hwell hsys
 have X0 : (K w.params).In s₁.heap := kIn_of Y
 obtain ⟨ns, rfl, hl⟩ := pre_law hpre
 have ha : mg (s "law") = some (.ref 401) := by
  obtain ⟨es, ep, hd3, hf3⟩ := o3_law w.params
  have g3 := X0 3 (o3 w.params) rfl
  obtain ⟨og, es', ep', gg, dd, _, hns⟩ := Gr.T.g
  have gg : s₁.heap.get? 3 = some og := gg
  rw [g3] at gg; cases gg
  rw [hd3] at dd; cases dd
  rw [← hns]; exact hf3
 rw [hn, ha] at hmg
 cases hmg
 cases hwell with
 | cons h1 h2 =>
 cases h2
 cases h1 with
 | @list b vs _ hg hw =>
 have ok := ok_law2 w.params
 obtain ⟨ob, hob, hfd⟩ := ok.here
 obtain ⟨body, hb, chk⟩ := ok.body
 have hk := ok.kind
 show wpAny (model pw w) callerA (call (.ref 401) [.ref b]) _ _ s₁
 refine wpAny_call (codeAny_call_function (by decide) (X0 401 ob hob) hfd ok.co ok.gen hb (codeRec_of X0 ok.code) ?_)
 refine (kp_binds X0 (fun S => (by kernel_rfl : peek (K w.params) S (bindArgs (fd_law w.params) ⟨[.ref b], []⟩) = some ((n_law.take 1).zip [.ref b])))) _ _ _ _ ?_
 rw [ok.clo]
 have hall : ∀ n ∈ n_law, (fd_law w.params).scope.names.lookup n = some .local ∨ ((fd_law w.params).scope.names.lookup n = some .cell ∧ ∀ k, ((cellsFrom k (fd_law w.params).scope.names []).lookup n).isSome = true) := fun n hn => by
  have := List.all_eq_true.mp ok.loc n hn
  simp only [Bool.or_eq_true, Bool.and_eq_true, beq_iff_eq] at this
  rcases this with h | ⟨h1, h2⟩
  ·exact .inl h
  ·exact .inr ⟨h1, fun k => cells_some _ k _ h2⟩
 have mem_take : ∀ x ∈ (n_law.take 1).zip [Value.ref b], x.1 ∈ n_law := fun x hx => List.mem_of_mem_take (List.of_mem_zip hx).1
 refine wpAny_newFunctionEnv_cells hk (fun x hx => (hall x.1 (mem_take x hx)).imp id fun h => ⟨h.1, h.2 _⟩) fun env he s₂ IC => ?_
 let L := s₁.heap.objs.size
 have hLn : s₁.heap.get? L = none := get_size _
 have he' : env = callEnvC (fd_law w.params) L 401 := he
 subst he'
 have kp1 : ∀ b o, s₁.heap.get? b = some o → s₂.heap.get? b = some o := IC.toInCall.keep
 obtain ⟨hh1, tk1, es1⟩ := IC.toInCall.same
 have lim : s₁.heap.NoLimit := Gr.T.nolimit
 refine ⟨lim.keeps kp1, codeAny_func ?_⟩
 let σ₀ : St := ⟨locs0 n_law [.obj b], []⟩
 let c' : Cx := { w := w, env := callEnvC (fd_law w.params) L 401, names := n_law, h1 := s₁.heap, h0 := s₂.heap, foot := fun a => a = L ∨ ∃ y, (y, a) ∈ (callEnvC (fd_law w.params) L 401).cells, os := s₁.os, outs := [] }
 have cn : ∀ y ca, (y, ca) ∈ (callEnvC (fd_law w.params) L 401).cells → s₁.heap.get? ca = none := fun y ca h => by
  have h1 : s₁.heap.objs.size < ca := IC.above y ca h
  cases e : s₁.heap.get? ca with
  | none => rfl
  | some o => exact absurd (Heap.lt_size e) (Nat.not_lt.mpr (Nat.le_of_lt h1))
 have keys : ((callEnvC (fd_law w.params) L 401).cells.map (·.1)).Nodup := by
  show ((cellsFrom (L + 1) (fd_law w.params).scope.names []).map (·.1)).Nodup
  rw [cells_keys (fd_law w.params).scope.names (L + 1) 0 [] [] rfl]; exact ok.cnd
 have celk : ∀ y ca, (y, ca) ∈ (callEnvC (fd_law w.params) L 401).cells → ∃ o v, s₂.heap.get? ca = some o ∧ o.data = .cell v := fun y ca h => by
  obtain ⟨o, g, d⟩ := IC.cell y ca (mem_lookup h keys)
  exact ⟨o, _, g, d⟩
 have nil : ∀ {i : Nat} {x : Int} {o : O}, σ₀.H.get i x = some o → False := fun h => nomatch (show (none : Option O) = some _ from h)
 have nil2 : ∀ {i : Nat} {x : Int}, (σ₀.H.get i x).isSome = true → False := fun h => nomatch (show (none : Option O).isSome = true from h)
 have D2 : Den c' σ₀ (fun _ _ => 0) s₂ := by
  refine ⟨by rw [es1]; exact hgens, by rw [es1], fun a o h _ => Kept.same h, kp1, fun a o h => ⟨o, h⟩, fun i x o h => (nil h).elim, fun i x j y h => (nil2 h).elim, fun i x h => (nil2 h).elim,
   ⟨_, IC.toInCall.ns, LocsR.of_get rfl fun j x ov h1 h2 => ?_⟩, ⟨.inl (.inl rfl), hLn⟩, fun i x h => (nil2 h).elim, fun y ca h => ?_, ?_, fun K hK => nomatch hK⟩
  ·have h2 : (locs0 n_law [V.obj b])[j]? = some ov := h2
   have kx : (callEnvC (fd_law w.params) L 401).kindOf x = (fd_law w.params).scope.names.lookup x := rfl
   have nd := ok.nodup
   unfold locs0 at h2
   by_cases hj : j < 1
   ·obtain rfl : j = 0 := by lia
    have h2 : some (some (V.obj b)) = some ov := h2
    cases h2
    have ndt : (n_law.take 1).Nodup := nd.sublist (List.take_sublist ..)
    unfold LocR
    show match (callEnvC (fd_law w.params) L 401).kindOf x, some (V.obj b) with | _, _ => _
    rcases hall x (List.mem_of_getElem? h1) with hl | ⟨hl, hs⟩
    ·rw [kx, hl]
     exact ⟨.ref b, bindL_at (by rw [kx, hl]) _ _ _ 0 ndt (take_get h1 (by decide)) rfl, rfl⟩
    ·rw [kx, hl]
     obtain ⟨ca, hca⟩ := Option.isSome_iff_exists.mp (hs (L + 1))
     obtain ⟨o, g, d⟩ := IC.cell x ca hca
     rw [bindC_at (by rw [kx, hl]; decide) _ _ _ 0 ndt (take_get h1 (by decide)) rfl] at d
     exact ⟨ca, o, .ref b, hca, g, d, rfl⟩
   ·rw [List.getElem?_append_right (by simp; grind)] at h2
    have : ov = none := by
     rw [List.getElem?_replicate] at h2
     split at h2 <;> simp_all
    subst this
    have nt : x ∉ n_law.take 1 := fun hm => by
     obtain ⟨i, hi, e⟩ := List.getElem_of_mem hm
     have hi1 : i < 1 := by simp at hi; assumption
     have e1 : n_law[i]? = some x := by
      have := List.getElem?_eq_getElem hi
      rw [e, List.getElem?_take, if_pos hi1] at this
      exact this
     have hi2 := (List.getElem?_eq_some_iff.mp e1).1
     have hj2 := (List.getElem?_eq_some_iff.mp h1).1
     have : i = j := (List.getElem_inj (h₀ := hi2) (h₁ := hj2) nd).mp (by rw [(List.getElem?_eq_some_iff.mp e1).2, (List.getElem?_eq_some_iff.mp h1).2])
     grind
    unfold LocR
    show match (callEnvC (fd_law w.params) L 401).kindOf x, (none : Option V) with | _, _ => _
    rcases hall x (List.mem_of_getElem? h1) with hl | ⟨hl, hs⟩
    ·rw [kx, hl]
     exact bindL_other _ _ _ nt
    ·rw [kx, hl]
     obtain ⟨ca, hca⟩ := Option.isSome_iff_exists.mp (hs (L + 1))
     obtain ⟨o, g, d⟩ := IC.cell x ca hca
     rw [bindC_other _ _ _ nt] at d
     exact ⟨ca, o, hca, g, d⟩
  ·have h : (y, ca) ∈ (callEnvC (fd_law w.params) L 401).cells := h
   refine ⟨⟨.inl (.inr ⟨y, h⟩), cn y ca h⟩, ?_, fun i x h => (nil2 h).elim, celk y ca h⟩
   have : L < ca := IC.above y ca h
   exact Nat.ne_of_gt this
  ·have := IC.apart
   show ((callEnvC (fd_law w.params) L 401).cells.map (·.2)).Nodup
   exact List.pairwise_map.mpr this
 have F' : Fit ⟨n_law, (fd_law w.params).scope⟩ c' := ⟨rfl, ok.nodup, rfl, hk, ok.glob, ok.blt, X0⟩
 have G' : Good c' := ⟨X0, lim⟩
 have S' : Scr c' b ns := ⟨vs.toArray, 0, fun W => by simpa using well_ints hw W, fun σ ρ st D => D.top b _ hg⟩
 have rm : Room 8 (callerA.deeper (callEnvC (fd_law w.params) L 401)) := ⟨by show 1 + claimMargin + 1 + 2 * 8 < 600; decide, by show 4 + 3 + 12 * 8 < cLine; decide, rfl⟩
 have stk : Stk c' (callerA.deeper (callEnvC (fd_law w.params) L 401)) := ⟨[], Around.frames_deeper rfl, rfl, (by rw [show c'.env.scope.kind = _ from hk]; decide), (fun e h => nomatch h), rfl⟩
 refine wpAny_mono (sndSs rfl tl_a body chk c' F' σ₀ ⟨fun _ => False, fun _ => False, fun _ => False, fun X _ => X = .bool true⟩ (law_a G' F' rm stk S' hl fun _ _ _ => rfl) (fun _ _ => 0) s₂ D2) (fun fl s' P => ?_) fun e s' x => x.elim
 cases fl with
 | next => obtain ⟨σ', ρ', D', x', q⟩ := P; exact q.elim
 | brk => obtain ⟨σ', ρ', D', x', q⟩ := P; exact q.elim
 | cont => obtain ⟨σ', ρ', D', x', q⟩ := P; exact q.elim
 | ret v =>
  obtain ⟨X, σ', ρ', D', r', x', rfl⟩ := P
  have r' : v = .bool true := r'
  subst r'
  refine ⟨.inl ⟨_, .bool true, [], rfl, fun _ => rfl, ReadsW.bool true, (by first | rfl | wrow_post), fun _ => ⟨List.nodup_nil, fun _ hm => nomatch hm⟩⟩, OldK.of_keep D'.top, D'.os, .of_eq D'.gens⟩
end
end Mine.Internal
theorem PySem.Challenge.cw_mu0007_01_holds : PySem.Challenge.rw_mu0007_01.Holds := by
 exact Mine.Internal.hd fun d kwd h1 _ _ _ => Mine.Internal.walk_law d kwd h1

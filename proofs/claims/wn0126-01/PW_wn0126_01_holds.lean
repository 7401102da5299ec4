import PyProof.Rows.All
import Wide.All
import OpenK.AllK
import Wide.FinOn
import Lean
import PySem.Challenge.RW_wn0126_01
set_option Elab.async false
set_option linter.all false
set_option compiler.extract_closed false
namespace Mine
end Mine
section
open PySem PySem.W PyProof.Rows
set_option maxRecDepth 100000
set_option linter.unusedVariables false
namespace Mine
noncomputable abbrev pw : Program := PySem.Challenge.pw_wn0126_01
noncomputable def nth : List Stmt → Nat → Stmt
  | [], _ => .Pass ⟨0, 0, 0, 0⟩
  | s :: _, 0 => s
  | _ :: r, n + 1 => nth r n
noncomputable def bodyOf : Stmt → List Stmt
  | .FunctionDef _ _ b _ _ _ _ _ _ _ => b
  | .ClassDef _ _ _ b _ _ _ _ _ _ _ => b
  | _ => []
noncomputable def argsOf : Stmt → Arguments
  | .FunctionDef _ a _ _ _ _ _ _ _ _ => a
  | _ => ⟨[], [], none, [], [], none, []⟩
noncomputable def scopeOf : Stmt → Scope
  | .FunctionDef _ _ _ _ _ _ s _ _ _ => s
  | _ => ⟨.module, [], false, false, []⟩
noncomputable def docB : List Stmt → Str
  | .Expr (.Constant (.str x) _ _) _ :: _ => x
  | _ => PySem.Str.ofString ""
noncomputable def top (i : Nat) : Stmt := nth pw.main.body i
noncomputable def inn (i j : Nat) : Stmt := nth (bodyOf (top i)) j
noncomputable def mtch : List Stmt := bodyOf (top 3)
noncomputable def smcl : List Stmt := bodyOf (top 5)
noncomputable def docS (b : List Stmt) : Str := docB b
noncomputable def newB : List Stmt := by
  refine (fun (l : List Stmt) (_ : bodyOf (inn 3 4) = l) => l) ?x ?h
  case h => (conv => lhs; whnf)
noncomputable def newP : Arguments := by
  refine (fun (l : Arguments) (_ : argsOf (inn 3 4) = l) => l) ?x ?h
  case h => (conv => lhs; whnf)
noncomputable def newS : Scope := by
  refine (fun (l : Scope) (_ : scopeOf (inn 3 4) = l) => l) ?x ?h
  case h => (conv => lhs; whnf)
noncomputable def makeB : List Stmt := by
  refine (fun (l : List Stmt) (_ : bodyOf (inn 3 5) = l) => l) ?x ?h
  case h => (conv => lhs; whnf)
noncomputable def makeP : Arguments := by
  refine (fun (l : Arguments) (_ : argsOf (inn 3 5) = l) => l) ?x ?h
  case h => (conv => lhs; whnf)
noncomputable def makeS : Scope := by
  refine (fun (l : Scope) (_ : scopeOf (inn 3 5) = l) => l) ?x ?h
  case h => (conv => lhs; whnf)
noncomputable def initB : List Stmt := by
  refine (fun (l : List Stmt) (_ : bodyOf (inn 5 1) = l) => l) ?x ?h
  case h => (conv => lhs; whnf)
noncomputable def initP : Arguments := by
  refine (fun (l : Arguments) (_ : argsOf (inn 5 1) = l) => l) ?x ?h
  case h => (conv => lhs; whnf)
noncomputable def initS : Scope := by
  refine (fun (l : Scope) (_ : scopeOf (inn 5 1) = l) => l) ?x ?h
  case h => (conv => lhs; whnf)
noncomputable def seqsB : List Stmt := by
  refine (fun (l : List Stmt) (_ : bodyOf (inn 5 2) = l) => l) ?x ?h
  case h => (conv => lhs; whnf)
noncomputable def seqsP : Arguments := by
  refine (fun (l : Arguments) (_ : argsOf (inn 5 2) = l) => l) ?x ?h
  case h => (conv => lhs; whnf)
noncomputable def seqsS : Scope := by
  refine (fun (l : Scope) (_ : scopeOf (inn 5 2) = l) => l) ?x ?h
  case h => (conv => lhs; whnf)
noncomputable def seq1B : List Stmt := by
  refine (fun (l : List Stmt) (_ : bodyOf (inn 5 3) = l) => l) ?x ?h
  case h => (conv => lhs; whnf)
noncomputable def seq1P : Arguments := by
  refine (fun (l : Arguments) (_ : argsOf (inn 5 3) = l) => l) ?x ?h
  case h => (conv => lhs; whnf)
noncomputable def seq1S : Scope := by
  refine (fun (l : Scope) (_ : scopeOf (inn 5 3) = l) => l) ?x ?h
  case h => (conv => lhs; whnf)
noncomputable def seq2B : List Stmt := by
  refine (fun (l : List Stmt) (_ : bodyOf (inn 5 4) = l) => l) ?x ?h
  case h => (conv => lhs; whnf)
noncomputable def seq2P : Arguments := by
  refine (fun (l : Arguments) (_ : argsOf (inn 5 4) = l) => l) ?x ?h
  case h => (conv => lhs; whnf)
noncomputable def seq2S : Scope := by
  refine (fun (l : Scope) (_ : scopeOf (inn 5 4) = l) => l) ?x ?h
  case h => (conv => lhs; whnf)
noncomputable def chainB : List Stmt := by
  refine (fun (l : List Stmt) (_ : bodyOf (inn 5 5) = l) => l) ?x ?h
  case h => (conv => lhs; whnf)
noncomputable def chainP : Arguments := by
  refine (fun (l : Arguments) (_ : argsOf (inn 5 5) = l) => l) ?x ?h
  case h => (conv => lhs; whnf)
noncomputable def chainS : Scope := by
  refine (fun (l : Scope) (_ : scopeOf (inn 5 5) = l) => l) ?x ?h
  case h => (conv => lhs; whnf)
noncomputable def flmB : List Stmt := by
  refine (fun (l : List Stmt) (_ : bodyOf (inn 5 6) = l) => l) ?x ?h
  case h => (conv => lhs; whnf)
noncomputable def flmP : Arguments := by
  refine (fun (l : Arguments) (_ : argsOf (inn 5 6) = l) => l) ?x ?h
  case h => (conv => lhs; whnf)
noncomputable def flmS : Scope := by
  refine (fun (l : Scope) (_ : scopeOf (inn 5 6) = l) => l) ?x ?h
  case h => (conv => lhs; whnf)
noncomputable def gmbB : List Stmt := by
  refine (fun (l : List Stmt) (_ : bodyOf (inn 5 7) = l) => l) ?x ?h
  case h => (conv => lhs; whnf)
noncomputable def gmbP : Arguments := by
  refine (fun (l : Arguments) (_ : argsOf (inn 5 7) = l) => l) ?x ?h
  case h => (conv => lhs; whnf)
noncomputable def gmbS : Scope := by
  refine (fun (l : Scope) (_ : scopeOf (inn 5 7) = l) => l) ?x ?h
  case h => (conv => lhs; whnf)
noncomputable def fmtB : List Stmt := by
  refine (fun (l : List Stmt) (_ : bodyOf (top 6) = l) => l) ?x ?h
  case h => (conv => lhs; whnf)
noncomputable def fmtP : Arguments := by
  refine (fun (l : Arguments) (_ : argsOf (top 6) = l) => l) ?x ?h
  case h => (conv => lhs; whnf)
noncomputable def fmtS : Scope := by
  refine (fun (l : Scope) (_ : scopeOf (top 6) = l) => l) ?x ?h
  case h => (conv => lhs; whnf)
noncomputable def contB : List Stmt := by
  refine (fun (l : List Stmt) (_ : bodyOf (top 8) = l) => l) ?x ?h
  case h => (conv => lhs; whnf)
noncomputable def contP : Arguments := by
  refine (fun (l : Arguments) (_ : argsOf (top 8) = l) => l) ?x ?h
  case h => (conv => lhs; whnf)
noncomputable def contS : Scope := by
  refine (fun (l : Scope) (_ : scopeOf (top 8) = l) => l) ?x ?h
  case h => (conv => lhs; whnf)
noncomputable def readB : List Stmt := by
  refine (fun (l : List Stmt) (_ : bodyOf (top 10) = l) => l) ?x ?h
  case h => (conv => lhs; whnf)
noncomputable def readP : Arguments := by
  refine (fun (l : Arguments) (_ : argsOf (top 10) = l) => l) ?x ?h
  case h => (conv => lhs; whnf)
noncomputable def readS : Scope := by
  refine (fun (l : Scope) (_ : scopeOf (top 10) = l) => l) ?x ?h
  case h => (conv => lhs; whnf)
noncomputable def lineB : List Stmt := by
  refine (fun (l : List Stmt) (_ : bodyOf (top 11) = l) => l) ?x ?h
  case h => (conv => lhs; whnf)
noncomputable def lineP : Arguments := by
  refine (fun (l : Arguments) (_ : argsOf (top 11) = l) => l) ?x ?h
  case h => (conv => lhs; whnf)
noncomputable def lineS : Scope := by
  refine (fun (l : Scope) (_ : scopeOf (top 11) = l) => l) ?x ?h
  case h => (conv => lhs; whnf)
noncomputable def linesB : List Stmt := by
  refine (fun (l : List Stmt) (_ : bodyOf (top 12) = l) => l) ?x ?h
  case h => (conv => lhs; whnf)
noncomputable def linesP : Arguments := by
  refine (fun (l : Arguments) (_ : argsOf (top 12) = l) => l) ?x ?h
  case h => (conv => lhs; whnf)
noncomputable def linesS : Scope := by
  refine (fun (l : Scope) (_ : scopeOf (top 12) = l) => l) ?x ?h
  case h => (conv => lhs; whnf)
noncomputable def tableB : List Stmt := by
  refine (fun (l : List Stmt) (_ : bodyOf (top 13) = l) => l) ?x ?h
  case h => (conv => lhs; whnf)
noncomputable def tableP : Arguments := by
  refine (fun (l : Arguments) (_ : argsOf (top 13) = l) => l) ?x ?h
  case h => (conv => lhs; whnf)
noncomputable def tableS : Scope := by
  refine (fun (l : Scope) (_ : scopeOf (top 13) = l) => l) ?x ?h
  case h => (conv => lhs; whnf)
noncomputable def lawB : List Stmt := by
  refine (fun (l : List Stmt) (_ : bodyOf (top 14) = l) => l) ?x ?h
  case h => (conv => lhs; whnf)
noncomputable def lawP : Arguments := by
  refine (fun (l : Arguments) (_ : argsOf (top 14) = l) => l) ?x ?h
  case h => (conv => lhs; whnf)
noncomputable def lawS : Scope := by
  refine (fun (l : Scope) (_ : scopeOf (top 14) = l) => l) ?x ?h
  case h => (conv => lhs; whnf)
noncomputable def o2 (P : Params) : Obj := ⟨.none, none, .dict (List.toArray []) 0, List.toArray []⟩
noncomputable def o3 (P : Params) : Obj := ⟨.type "dict", none, .dict (List.toArray [⟨PyData.keyHash P (PySem.Str.ofString "__name__"), .str (PySem.Str.ofString "__name__") 165, .str (PySem.Str.ofString "law_wn0126_01") 597⟩, ⟨PyData.keyHash P (PySem.Str.ofString "__doc__"), .str (PySem.Str.ofString "__doc__") 166, .none⟩, ⟨PyData.keyHash P (PySem.Str.ofString "__package__"), .str (PySem.Str.ofString "__package__") 167, .none⟩, ⟨PyData.keyHash P (PySem.Str.ofString "__loader__"), .str (PySem.Str.ofString "__loader__") 168, .builtin "__main__.__loader__#opaque"⟩, ⟨PyData.keyHash P (PySem.Str.ofString "__spec__"), .str (PySem.Str.ofString "__spec__") 169, .none⟩, ⟨PyData.keyHash P (PySem.Str.ofString "__annotations__"), .str (PySem.Str.ofString "__annotations__") 170, .ref 6⟩, ⟨PyData.keyHash P (PySem.Str.ofString "__builtins__"), .str (PySem.Str.ofString "__builtins__") 171, .ref 4⟩, ⟨PyData.keyHash P (PySem.Str.ofString "__file__"), .str (PySem.Str.ofString "__file__") 173, .str (PySem.Str.ofString "/claim/cut.py") 172⟩, ⟨PyData.keyHash P (PySem.Str.ofString "__cached__"), .str (PySem.Str.ofString "__cached__") 174, .none⟩, ⟨PyData.keyHash P (PySem.Str.ofString "_wall"), .str (PySem.Str.ofString "_wall") 193, .ref 21⟩, ⟨PyData.keyHash P (PySem.Str.ofString "_tuplegetter"), .str (PySem.Str.ofString "_tuplegetter") 252, .ref 60⟩, ⟨PyData.keyHash P (PySem.Str.ofString "Match"), .str (PySem.Str.ofString "Match") 380, .ref 135⟩, ⟨PyData.keyHash P (PySem.Str.ofString "_calculate_ratio"), .str (PySem.Str.ofString "_calculate_ratio") 388, .ref 145⟩, ⟨PyData.keyHash P (PySem.Str.ofString "SequenceMatcher"), .str (PySem.Str.ofString "SequenceMatcher") 574, .ref 242⟩, ⟨PyData.keyHash P (PySem.Str.ofString "_format_range_unified"), .str (PySem.Str.ofString "_format_range_unified") 585, .ref 253⟩, ⟨PyData.keyHash P (PySem.Str.ofString "contains"), .str (PySem.Str.ofString "contains") 596, .ref 260⟩, ⟨PyData.keyHash P (PySem.Str.ofString "_law_read"), .str (PySem.Str.ofString "_law_read") 604, .ref 265⟩, ⟨PyData.keyHash P (PySem.Str.ofString "_law_line"), .str (PySem.Str.ofString "_law_line") 610, .ref 270⟩, ⟨PyData.keyHash P (PySem.Str.ofString "_law_lines"), .str (PySem.Str.ofString "_law_lines") 616, .ref 275⟩, ⟨PyData.keyHash P (PySem.Str.ofString "_law_table"), .str (PySem.Str.ofString "_law_table") 622, .ref 280⟩, ⟨PyData.keyHash P (PySem.Str.ofString "law"), .str (PySem.Str.ofString "law") 628, .ref 285⟩]) 21, List.toArray []⟩
noncomputable def o81 (P : Params) : Obj := ⟨.type "code", none, .fields (List.toArray [.str (PySem.Str.ofString "__new__") 274, .str (PySem.Str.ofString "Match.__new__") 275, .str (PySem.Str.ofString "/claim/cut.py") 276, .int 29 0, .int 4 0, .int 0 0, .int 0 0, .int 3 0, .ref 76, .bool true, .int 181 0, .ref 77, .none, .ref 78, .ref 79, .ref 80, .int 281 0, .int 29 0, .str (PySem.Str.ofString "/claim/cut.py") 282]), List.toArray []⟩
noncomputable def o82 (P : Params) : Obj := ⟨.type "function", none, .func ⟨(PySem.Str.ofString "__new__"), (PySem.Str.ofString "Match.__new__"), newP, .stmts newB, newS, 3, [], .none, .none, .str (docB newB) 283, .str (PySem.Str.ofString "cpy313.difflib") 194, none, .ref 81, .none, 0⟩, List.toArray []⟩
noncomputable def o88 (P : Params) : Obj := ⟨.type "code", none, .fields (List.toArray [.str (PySem.Str.ofString "_make") 285, .str (PySem.Str.ofString "Match._make") 286, .str (PySem.Str.ofString "/claim/cut.py") 287, .int 33 0, .int 2 0, .int 0 0, .int 0 0, .int 3 0, .ref 83, .bool true, .int 181 0, .ref 84, .none, .ref 85, .ref 86, .ref 87, .int 291 0, .int 33 0, .str (PySem.Str.ofString "/claim/cut.py") 292]), List.toArray []⟩
noncomputable def o89 (P : Params) : Obj := ⟨.type "function", none, .func ⟨(PySem.Str.ofString "_make"), (PySem.Str.ofString "Match._make"), makeP, .stmts makeB, makeS, 3, [], .none, .none, .str (docB makeB) 293, .str (PySem.Str.ofString "cpy313.difflib") 194, some 92, .ref 88, .none, 0⟩, List.toArray []⟩
noncomputable def o90 (P : Params) : Obj := ⟨.type "dict", none, .dict (List.toArray [⟨PyData.keyHash P (PySem.Str.ofString "__module__"), .str (PySem.Str.ofString "__module__") 295, .str (PySem.Str.ofString "cpy313.difflib") 194⟩, ⟨PyData.keyHash P (PySem.Str.ofString "__name__"), .str (PySem.Str.ofString "__name__") 298, .str (PySem.Str.ofString "_make") 297⟩, ⟨PyData.keyHash P (PySem.Str.ofString "__qualname__"), .str (PySem.Str.ofString "__qualname__") 301, .str (PySem.Str.ofString "Match._make") 300⟩, ⟨PyData.keyHash P (PySem.Str.ofString "__doc__"), .str (PySem.Str.ofString "__doc__") 303, .str (PySem.Str.ofString "Make a new Match object from a sequence or iterable") 293⟩, ⟨PyData.keyHash P (PySem.Str.ofString "__annotations__"), .str (PySem.Str.ofString "__annotations__") 305, .ref 92⟩]) 5, List.toArray []⟩
noncomputable def o91 (P : Params) : Obj := ⟨.type "classmethod", some 90, .fields (List.toArray [.ref 89, .bool false]), List.toArray []⟩
noncomputable def o134 (P : Params) : Obj := ⟨.type "dict", none, .dict (List.toArray [⟨PyData.keyHash P (PySem.Str.ofString "__module__"), .str (PySem.Str.ofString "__module__") 260, .str (PySem.Str.ofString "cpy313.difflib") 194⟩, ⟨PyData.keyHash P (PySem.Str.ofString "__firstlineno__"), .str (PySem.Str.ofString "__firstlineno__") 264, .int 23 263⟩, ⟨PyData.keyHash P (PySem.Str.ofString "__doc__"), .str (PySem.Str.ofString "__doc__") 266, .str (docS mtch) 265⟩, ⟨PyData.keyHash P (PySem.Str.ofString "__slots__"), .str (PySem.Str.ofString "__slots__") 268, .ref 73⟩, ⟨PyData.keyHash P (PySem.Str.ofString "_fields"), .str (PySem.Str.ofString "_fields") 272, .ref 74⟩, ⟨PyData.keyHash P (PySem.Str.ofString "_field_defaults"), .str (PySem.Str.ofString "_field_defaults") 273, .ref 75⟩, ⟨PyData.keyHash P (PySem.Str.ofString "__new__"), .str (PySem.Str.ofString "__new__") 284, .ref 136⟩, ⟨PyData.keyHash P (PySem.Str.ofString "_make"), .str (PySem.Str.ofString "_make") 306, .ref 91⟩, ⟨PyData.keyHash P (PySem.Str.ofString "_replace"), .str (PySem.Str.ofString "_replace") 317, .ref 100⟩, ⟨PyData.keyHash P (PySem.Str.ofString "__replace__"), .str (PySem.Str.ofString "__replace__") 318, .ref 100⟩, ⟨PyData.keyHash P (PySem.Str.ofString "__repr__"), .str (PySem.Str.ofString "__repr__") 326, .ref 107⟩, ⟨PyData.keyHash P (PySem.Str.ofString "_asdict"), .str (PySem.Str.ofString "_asdict") 333, .ref 114⟩, ⟨PyData.keyHash P (PySem.Str.ofString "__getnewargs__"), .str (PySem.Str.ofString "__getnewargs__") 341, .ref 121⟩, ⟨PyData.keyHash P (PySem.Str.ofString "__match_args__"), .str (PySem.Str.ofString "__match_args__") 345, .ref 122⟩, ⟨PyData.keyHash P (PySem.Str.ofString "a"), .str (PySem.Str.ofString "a") 355, .ref 124⟩, ⟨PyData.keyHash P (PySem.Str.ofString "b"), .str (PySem.Str.ofString "b") 365, .ref 127⟩, ⟨PyData.keyHash P (PySem.Str.ofString "size"), .str (PySem.Str.ofString "size") 375, .ref 130⟩, ⟨PyData.keyHash P (PySem.Str.ofString "__static_attributes__"), .str (PySem.Str.ofString "__static_attributes__") 376, .ref 132⟩]) 2, List.toArray []⟩
noncomputable def o135 (P : Params) : Obj := ⟨.type "type", none, .cls ⟨(PySem.Str.ofString "Match"), [.type "tuple"], [.ref 135, .type "tuple", .type "object"], 134, (PySem.Str.ofString "Match"), false, [], [], false, none, false⟩, List.toArray [some (.ref 65), none, some (.str (PySem.Str.ofString "Match") 253), some (.str (PySem.Str.ofString "Match") 261), some (.none), some (.bool false)]⟩
noncomputable def o136 (P : Params) : Obj := ⟨.type "staticmethod", none, .fields (List.toArray [.ref 82]), List.toArray []⟩
noncomputable def o153 (P : Params) : Obj := ⟨.type "tuple", none, .seq (List.toArray [.none, .str (PySem.Str.ofString "") 404, .str (PySem.Str.ofString "") 405, .bool true]) 0, List.toArray []⟩
noncomputable def o159 (P : Params) : Obj := ⟨.type "code", none, .fields (List.toArray [.str (PySem.Str.ofString "__init__") 406, .str (PySem.Str.ofString "SequenceMatcher.__init__") 407, .str (PySem.Str.ofString "/claim/cut.py") 408, .int 145 0, .int 5 0, .int 0 0, .int 0 0, .int 3 0, .ref 154, .bool true, .int 181 0, .ref 155, .none, .ref 156, .ref 157, .ref 158, .int 414 0, .int 145 0, .str (PySem.Str.ofString "/claim/cut.py") 415]), List.toArray []⟩
noncomputable def o160 (P : Params) : Obj := ⟨.type "function", none, .func ⟨(PySem.Str.ofString "__init__"), (PySem.Str.ofString "SequenceMatcher.__init__"), initP, .stmts initB, initS, 3, [], .ref 153, .none, .str (docB initB) 416, .str (PySem.Str.ofString "cpy313.difflib") 194, none, .ref 159, .none, 0⟩, List.toArray []⟩
noncomputable def o166 (P : Params) : Obj := ⟨.type "code", none, .fields (List.toArray [.str (PySem.Str.ofString "set_seqs") 418, .str (PySem.Str.ofString "SequenceMatcher.set_seqs") 419, .str (PySem.Str.ofString "/claim/cut.py") 420, .int 173 0, .int 3 0, .int 0 0, .int 0 0, .int 3 0, .ref 161, .bool true, .int 181 0, .ref 162, .none, .ref 163, .ref 164, .ref 165, .int 424 0, .int 173 0, .str (PySem.Str.ofString "/claim/cut.py") 425]), List.toArray []⟩
noncomputable def o167 (P : Params) : Obj := ⟨.type "function", none, .func ⟨(PySem.Str.ofString "set_seqs"), (PySem.Str.ofString "SequenceMatcher.set_seqs"), seqsP, .stmts seqsB, seqsS, 3, [], .none, .none, .str (docB seqsB) 426, .str (PySem.Str.ofString "cpy313.difflib") 194, none, .ref 166, .none, 0⟩, List.toArray []⟩
noncomputable def o173 (P : Params) : Obj := ⟨.type "code", none, .fields (List.toArray [.str (PySem.Str.ofString "set_seq1") 428, .str (PySem.Str.ofString "SequenceMatcher.set_seq1") 429, .str (PySem.Str.ofString "/claim/cut.py") 430, .int 184 0, .int 2 0, .int 0 0, .int 0 0, .int 3 0, .ref 168, .bool true, .int 181 0, .ref 169, .none, .ref 170, .ref 171, .ref 172, .int 433 0, .int 184 0, .str (PySem.Str.ofString "/claim/cut.py") 434]), List.toArray []⟩
noncomputable def o174 (P : Params) : Obj := ⟨.type "function", none, .func ⟨(PySem.Str.ofString "set_seq1"), (PySem.Str.ofString "SequenceMatcher.set_seq1"), seq1P, .stmts seq1B, seq1S, 3, [], .none, .none, .str (docB seq1B) 435, .str (PySem.Str.ofString "cpy313.difflib") 194, none, .ref 173, .none, 0⟩, List.toArray []⟩
noncomputable def o180 (P : Params) : Obj := ⟨.type "code", none, .fields (List.toArray [.str (PySem.Str.ofString "set_seq2") 437, .str (PySem.Str.ofString "SequenceMatcher.set_seq2") 438, .str (PySem.Str.ofString "/claim/cut.py") 439, .int 209 0, .int 2 0, .int 0 0, .int 0 0, .int 3 0, .ref 175, .bool true, .int 181 0, .ref 176, .none, .ref 177, .ref 178, .ref 179, .int 442 0, .int 209 0, .str (PySem.Str.ofString "/claim/cut.py") 443]), List.toArray []⟩
noncomputable def o181 (P : Params) : Obj := ⟨.type "function", none, .func ⟨(PySem.Str.ofString "set_seq2"), (PySem.Str.ofString "SequenceMatcher.set_seq2"), seq2P, .stmts seq2B, seq2S, 3, [], .none, .none, .str (docB seq2B) 444, .str (PySem.Str.ofString "cpy313.difflib") 194, none, .ref 180, .none, 0⟩, List.toArray []⟩
noncomputable def o187 (P : Params) : Obj := ⟨.type "code", none, .fields (List.toArray [.str (PySem.Str.ofString "__chain_b") 446, .str (PySem.Str.ofString "SequenceMatcher.__chain_b") 447, .str (PySem.Str.ofString "/claim/cut.py") 448, .int 236 0, .int 1 0, .int 0 0, .int 0 0, .int 3 0, .ref 182, .bool true, .int 181 0, .ref 183, .none, .ref 184, .ref 185, .ref 186, .int 461 0, .int 236 0, .str (PySem.Str.ofString "/claim/cut.py") 462]), List.toArray []⟩
noncomputable def o188 (P : Params) : Obj := ⟨.type "function", none, .func ⟨(PySem.Str.ofString "__chain_b"), (PySem.Str.ofString "SequenceMatcher.__chain_b"), chainP, .stmts chainB, chainS, 3, [], .none, .none, .none, .str (PySem.Str.ofString "cpy313.difflib") 194, none, .ref 187, .none, 0⟩, List.toArray []⟩
noncomputable def o189 (P : Params) : Obj := ⟨.type "tuple", none, .seq (List.toArray [.int 0 464, .none, .int 0 465, .none]) 0, List.toArray []⟩
noncomputable def o195 (P : Params) : Obj := ⟨.type "code", none, .fields (List.toArray [.str (PySem.Str.ofString "find_longest_match") 466, .str (PySem.Str.ofString "SequenceMatcher.find_longest_match") 467, .str (PySem.Str.ofString "/claim/cut.py") 468, .int 260 0, .int 5 0, .int 0 0, .int 0 0, .int 3 0, .ref 190, .bool true, .int 181 0, .ref 191, .none, .ref 192, .ref 193, .ref 194, .int 488 0, .int 260 0, .str (PySem.Str.ofString "/claim/cut.py") 489]), List.toArray []⟩
noncomputable def o196 (P : Params) : Obj := ⟨.type "function", none, .func ⟨(PySem.Str.ofString "find_longest_match"), (PySem.Str.ofString "SequenceMatcher.find_longest_match"), flmP, .stmts flmB, flmS, 3, [], .ref 189, .none, .str (docB flmB) 490, .str (PySem.Str.ofString "cpy313.difflib") 194, none, .ref 195, .none, 0⟩, List.toArray []⟩
noncomputable def o202 (P : Params) : Obj := ⟨.type "code", none, .fields (List.toArray [.str (PySem.Str.ofString "get_matching_blocks") 492, .str (PySem.Str.ofString "SequenceMatcher.get_matching_blocks") 493, .str (PySem.Str.ofString "/claim/cut.py") 494, .int 335 0, .int 1 0, .int 0 0, .int 0 0, .int 3 0, .ref 197, .bool true, .int 181 0, .ref 198, .none, .ref 199, .ref 200, .ref 201, .int 515 0, .int 335 0, .str (PySem.Str.ofString "/claim/cut.py") 516]), List.toArray []⟩
noncomputable def o203 (P : Params) : Obj := ⟨.type "function", none, .func ⟨(PySem.Str.ofString "get_matching_blocks"), (PySem.Str.ofString "SequenceMatcher.get_matching_blocks"), gmbP, .stmts gmbB, gmbS, 3, [], .none, .none, .str (docB gmbB) 517, .str (PySem.Str.ofString "cpy313.difflib") 194, none, .ref 202, .none, 0⟩, List.toArray []⟩
noncomputable def o241 (P : Params) : Obj := ⟨.type "dict", none, .dict (List.toArray [⟨PyData.keyHash P (PySem.Str.ofString "__module__"), .str (PySem.Str.ofString "__module__") 396, .str (PySem.Str.ofString "cpy313.difflib") 194⟩, ⟨PyData.keyHash P (PySem.Str.ofString "__firstlineno__"), .str (PySem.Str.ofString "__firstlineno__") 400, .int 70 399⟩, ⟨PyData.keyHash P (PySem.Str.ofString "__doc__"), .str (PySem.Str.ofString "__doc__") 402, .str (docS smcl) 401⟩, ⟨PyData.keyHash P (PySem.Str.ofString "__init__"), .str (PySem.Str.ofString "__init__") 417, .ref 160⟩, ⟨PyData.keyHash P (PySem.Str.ofString "set_seqs"), .str (PySem.Str.ofString "set_seqs") 427, .ref 167⟩, ⟨PyData.keyHash P (PySem.Str.ofString "set_seq1"), .str (PySem.Str.ofString "set_seq1") 436, .ref 174⟩, ⟨PyData.keyHash P (PySem.Str.ofString "set_seq2"), .str (PySem.Str.ofString "set_seq2") 445, .ref 181⟩, ⟨PyData.keyHash P (PySem.Str.ofString "_SequenceMatcher__chain_b"), .str (PySem.Str.ofString "_SequenceMatcher__chain_b") 463, .ref 188⟩, ⟨PyData.keyHash P (PySem.Str.ofString "find_longest_match"), .str (PySem.Str.ofString "find_longest_match") 491, .ref 196⟩, ⟨PyData.keyHash P (PySem.Str.ofString "get_matching_blocks"), .str (PySem.Str.ofString "get_matching_blocks") 518, .ref 203⟩, ⟨PyData.keyHash P (PySem.Str.ofString "get_opcodes"), .str (PySem.Str.ofString "get_opcodes") 525, .ref 210⟩, ⟨PyData.keyHash P (PySem.Str.ofString "get_grouped_opcodes"), .str (PySem.Str.ofString "get_grouped_opcodes") 534, .ref 218⟩, ⟨PyData.keyHash P (PySem.Str.ofString "ratio"), .str (PySem.Str.ofString "ratio") 543, .ref 225⟩, ⟨PyData.keyHash P (PySem.Str.ofString "quick_ratio"), .str (PySem.Str.ofString "quick_ratio") 550, .ref 232⟩, ⟨PyData.keyHash P (PySem.Str.ofString "real_quick_ratio"), .str (PySem.Str.ofString "real_quick_ratio") 557, .ref 239⟩, ⟨PyData.keyHash P (PySem.Str.ofString "__static_attributes__"), .str (PySem.Str.ofString "__static_attributes__") 568, .ref 240⟩, ⟨PyData.keyHash P (PySem.Str.ofString "__dict__"), .str (PySem.Str.ofString "__dict__") 570, .ref 243⟩, ⟨PyData.keyHash P (PySem.Str.ofString "__weakref__"), .str (PySem.Str.ofString "__weakref__") 572, .ref 244⟩]) 3, List.toArray []⟩
noncomputable def o242 (P : Params) : Obj := ⟨.type "type", none, .cls ⟨(PySem.Str.ofString "SequenceMatcher"), [.type "object"], [.ref 242, .type "object"], 241, (PySem.Str.ofString "SequenceMatcher"), true, [], [], false, none, false⟩, List.toArray [none, none, some (.str (PySem.Str.ofString "SequenceMatcher") 389), some (.str (PySem.Str.ofString "SequenceMatcher") 397), some (.builtin "object.__new__"), some (.bool true)]⟩
noncomputable def o252 (P : Params) : Obj := ⟨.type "code", none, .fields (List.toArray [.str (PySem.Str.ofString "_format_range_unified") 575, .str (PySem.Str.ofString "_format_range_unified") 576, .str (PySem.Str.ofString "/claim/cut.py") 577, .int 418 0, .int 2 0, .int 0 0, .int 0 0, .int 3 0, .ref 247, .bool true, .int 181 0, .ref 248, .none, .ref 249, .ref 250, .ref 251, .int 582 0, .int 418 0, .str (PySem.Str.ofString "/claim/cut.py") 583]), List.toArray []⟩
noncomputable def o253 (P : Params) : Obj := ⟨.type "function", none, .func ⟨(PySem.Str.ofString "_format_range_unified"), (PySem.Str.ofString "_format_range_unified"), fmtP, .stmts fmtB, fmtS, 3, [], .none, .none, .str (docB fmtB) 584, .str (PySem.Str.ofString "cpy313.difflib") 194, none, .ref 252, .none, 0⟩, List.toArray []⟩
noncomputable def o259 (P : Params) : Obj := ⟨.type "code", none, .fields (List.toArray [.str (PySem.Str.ofString "contains") 588, .str (PySem.Str.ofString "contains") 589, .str (PySem.Str.ofString "/claim/cut.py") 590, .int 428 0, .int 2 0, .int 0 0, .int 0 0, .int 3 0, .ref 254, .bool true, .int 181 0, .ref 255, .none, .ref 256, .ref 257, .ref 258, .int 593 0, .int 428 0, .str (PySem.Str.ofString "/claim/cut.py") 594]), List.toArray []⟩
noncomputable def o260 (P : Params) : Obj := ⟨.type "function", none, .func ⟨(PySem.Str.ofString "contains"), (PySem.Str.ofString "contains"), contP, .stmts contB, contS, 3, [], .none, .none, .str (docB contB) 595, .str (PySem.Str.ofString "cpy313.operator") 586, none, .ref 259, .none, 0⟩, List.toArray []⟩
noncomputable def o264 (P : Params) : Obj := ⟨.type "code", none, .fields (List.toArray [.str (PySem.Str.ofString "_law_read") 599, .str (PySem.Str.ofString "_law_read") 600, .str (PySem.Str.ofString "/claim/cut.py") 601, .int 432 0, .int 1 0, .int 0 0, .int 0 0, .int 3 0, .ref 261, .bool true, .int 181 0, .ref 262, .none, .none, .none, .ref 263, .int 602 0, .int 432 0, .str (PySem.Str.ofString "/claim/cut.py") 603]), List.toArray []⟩
noncomputable def o265 (P : Params) : Obj := ⟨.type "function", none, .func ⟨(PySem.Str.ofString "_law_read"), (PySem.Str.ofString "_law_read"), readP, .stmts readB, readS, 3, [], .none, .none, .none, .str (PySem.Str.ofString "law_wn0126_01") 597, none, .ref 264, .none, 0⟩, List.toArray []⟩
noncomputable def o269 (P : Params) : Obj := ⟨.type "code", none, .fields (List.toArray [.str (PySem.Str.ofString "_law_line") 605, .str (PySem.Str.ofString "_law_line") 606, .str (PySem.Str.ofString "/claim/cut.py") 607, .int 439 0, .int 1 0, .int 0 0, .int 0 0, .int 3 0, .ref 266, .bool true, .int 181 0, .ref 267, .none, .none, .none, .ref 268, .int 608 0, .int 439 0, .str (PySem.Str.ofString "/claim/cut.py") 609]), List.toArray []⟩
noncomputable def o270 (P : Params) : Obj := ⟨.type "function", none, .func ⟨(PySem.Str.ofString "_law_line"), (PySem.Str.ofString "_law_line"), lineP, .stmts lineB, lineS, 3, [], .none, .none, .none, .str (PySem.Str.ofString "law_wn0126_01") 597, none, .ref 269, .none, 0⟩, List.toArray []⟩
noncomputable def o274 (P : Params) : Obj := ⟨.type "code", none, .fields (List.toArray [.str (PySem.Str.ofString "_law_lines") 611, .str (PySem.Str.ofString "_law_lines") 612, .str (PySem.Str.ofString "/claim/cut.py") 613, .int 458 0, .int 1 0, .int 0 0, .int 0 0, .int 3 0, .ref 271, .bool true, .int 181 0, .ref 272, .none, .none, .none, .ref 273, .int 614 0, .int 458 0, .str (PySem.Str.ofString "/claim/cut.py") 615]), List.toArray []⟩
noncomputable def o275 (P : Params) : Obj := ⟨.type "function", none, .func ⟨(PySem.Str.ofString "_law_lines"), (PySem.Str.ofString "_law_lines"), linesP, .stmts linesB, linesS, 3, [], .none, .none, .none, .str (PySem.Str.ofString "law_wn0126_01") 597, none, .ref 274, .none, 0⟩, List.toArray []⟩
noncomputable def o279 (P : Params) : Obj := ⟨.type "code", none, .fields (List.toArray [.str (PySem.Str.ofString "_law_table") 617, .str (PySem.Str.ofString "_law_table") 618, .str (PySem.Str.ofString "/claim/cut.py") 619, .int 468 0, .int 1 0, .int 0 0, .int 0 0, .int 3 0, .ref 276, .bool true, .int 181 0, .ref 277, .none, .none, .none, .ref 278, .int 620 0, .int 468 0, .str (PySem.Str.ofString "/claim/cut.py") 621]), List.toArray []⟩
noncomputable def o280 (P : Params) : Obj := ⟨.type "function", none, .func ⟨(PySem.Str.ofString "_law_table"), (PySem.Str.ofString "_law_table"), tableP, .stmts tableB, tableS, 3, [], .none, .none, .none, .str (PySem.Str.ofString "law_wn0126_01") 597, none, .ref 279, .none, 0⟩, List.toArray []⟩
noncomputable def o284 (P : Params) : Obj := ⟨.type "code", none, .fields (List.toArray [.str (PySem.Str.ofString "law") 623, .str (PySem.Str.ofString "law") 624, .str (PySem.Str.ofString "/claim/cut.py") 625, .int 482 0, .int 1 0, .int 0 0, .int 0 0, .int 3 0, .ref 281, .bool true, .int 181 0, .ref 282, .none, .none, .none, .ref 283, .int 626 0, .int 482 0, .str (PySem.Str.ofString "/claim/cut.py") 627]), List.toArray []⟩
noncomputable def o285 (P : Params) : Obj := ⟨.type "function", none, .func ⟨(PySem.Str.ofString "law"), (PySem.Str.ofString "law"), lawP, .stmts lawB, lawS, 3, [], .none, .none, .none, .str (PySem.Str.ofString "law_wn0126_01") 597, none, .ref 284, .none, 0⟩, List.toArray []⟩
noncomputable def K : Params → Frag := fun P => (nat_lit 2, o2 P) :: (nat_lit 3, o3 P) :: (nat_lit 81, o81 P) :: (nat_lit 82, o82 P) :: (nat_lit 88, o88 P) :: (nat_lit 89, o89 P) :: (nat_lit 90, o90 P) :: (nat_lit 91, o91 P) :: (nat_lit 134, o134 P) :: (nat_lit 135, o135 P) :: (nat_lit 136, o136 P) :: (nat_lit 153, o153 P) :: (nat_lit 159, o159 P) :: (nat_lit 160, o160 P) :: (nat_lit 166, o166 P) :: (nat_lit 167, o167 P) :: (nat_lit 173, o173 P) :: (nat_lit 174, o174 P) :: (nat_lit 180, o180 P) :: (nat_lit 181, o181 P) :: (nat_lit 187, o187 P) :: (nat_lit 188, o188 P) :: (nat_lit 189, o189 P) :: (nat_lit 195, o195 P) :: (nat_lit 196, o196 P) :: (nat_lit 202, o202 P) :: (nat_lit 203, o203 P) :: (nat_lit 241, o241 P) :: (nat_lit 242, o242 P) :: (nat_lit 252, o252 P) :: (nat_lit 253, o253 P) :: (nat_lit 259, o259 P) :: (nat_lit 260, o260 P) :: (nat_lit 264, o264 P) :: (nat_lit 265, o265 P) :: (nat_lit 269, o269 P) :: (nat_lit 270, o270 P) :: (nat_lit 274, o274 P) :: (nat_lit 275, o275 P) :: (nat_lit 279, o279 P) :: (nat_lit 280, o280 P) :: (nat_lit 284, o284 P) :: (nat_lit 285, o285 P) :: []
end Mine
end
section
open PySem PySem.W PyProof.Rows Mine PySem.Calls PySem.Spec
set_option maxRecDepth 100000
namespace Mine
noncomputable def q : Program := { pw with main := { pw.main with body := [top 0, top 2, top 3, top 4, top 5, top 6, top 8, top 10, top 11, top 12, top 13, top 14] } }
noncomputable def loose : List Str := [PySem.Str.ofString "_tuplegetter", PySem.Str.ofString "Match", PySem.Str.ofString "SequenceMatcher"]
noncomputable def as : List Addr := [2,3,81,82,88,89,90,91,134,135,136,153,159,160,166,167,173,174,180,181,187,188,189,195,196,202,203,241,242,252,253,259,260,264,265,269,270,274,275,279,280,284,285]
noncomputable abbrev smE (w : World) (nm : String) (t : Nat) (v : Value) : DictEntry := ⟨PyData.keyHash w.params (PySem.Str.ofString nm), .str (PySem.Str.ofString nm) t, v⟩
end Mine
end
section
open PySem PySem.W PyProof.Rows Mine
set_option maxRecDepth 1000000
namespace Mine
/-- the signs of the class's text, as a list -/
noncomputable def smChars : List Char := by
  refine (fun (l : List Char) (_ : ∃ s, docS smcl = Str.ofString s ∧ s = String.ofList l) => l) ?x ⟨_, rfl, ?h⟩
  case h => exact rfl
noncomputable def smDoc : Str := ⟨(smChars.map Char.toNat).toArray⟩
theorem smDoc_eq : docS smcl = smDoc := by
  have h : ∃ s, docS smcl = Str.ofString s ∧ s = String.ofList smChars := by
    refine ⟨_, rfl, ?_⟩
    kernel_rfl
  obtain ⟨s, h1, h2⟩ := h
  rw [h1, Str.ofString_eq_toList, h2, String.toList_ofList]
  rfl
noncomputable def setDocE : PySem.Expr → Str → PySem.Expr
  | .Constant (.str _) k p, d => .Constant (.str d) k p
  | e, _ => e
noncomputable def setDocB : List Stmt → Str → List Stmt
  | .Expr e p :: r, d => .Expr (setDocE e d) p :: r
  | b, _ => b
noncomputable def setDocC : Stmt → Str → Stmt
  | .ClassDef a b c body e f g h i j k, d => .ClassDef a b c (setDocB body d) e f g h i j k
  | s, _ => s
noncomputable def top5 : Stmt := setDocC (top 5) smDoc
theorem top5_eq : top 5 = top5 := by
  unfold top5
  rw [← smDoc_eq]
  rfl
end Mine
end
section
open PySem PySem.W PyProof.Rows Mine PySem.Calls
set_option maxRecDepth 1000000
namespace Mine
noncomputable def anyF {α : Type} (a : Array α) (p : α → Bool) (i j : Nat) : Bool :=
  match Nat.beq i 0, Nat.beq j a.size with
  | true, true => a.toList.any p
  | _, _ => Array.any a p i j
theorem anyF_at {α : Type} (a : Array α) (p : α → Bool) (i j : Nat) : Array.any a p i j = anyF a p i j := by
  unfold anyF
  split
  case h_1 h1 h2 =>
    rw [Nat.eq_of_beq_eq_true h1, Nat.eq_of_beq_eq_true h2, Array.any_toList]
  case h_2 => rfl
theorem anyF_eq : @Array.any.{0} = @anyF := by
  funext α a p i j
  exact anyF_at a p i j
set_option maxHeartbeats 0 in
noncomputable def newL : Builtin := by
  refine (?f : (Builtin.«type.__new__» = ?x) → Builtin) ?h
  case f => exact fun _ => ?x
  case h => (conv => lhs; delta Builtin.«type.__new__»; rw [anyF_eq])
set_option maxHeartbeats 0 in
theorem newL_eq : Builtin.«type.__new__» = newL := by
  unfold newL
  delta Builtin.«type.__new__»
  rw [anyF_eq]
end Mine
end
section
open PySem PySem.W PyProof.Rows Mine PySem.Calls
set_option maxRecDepth 1000000
namespace Mine
noncomputable def newCode : Nat := code "type.__new__"
noncomputable def tbL (id : String) : Option Builtin := match Nat.beq (code id) newCode with
  | true => some newL
  | false => entriesT.find (code id)
theorem tbL_eq : treeTable = tbL := by
  funext id
  unfold treeTable tbL
  cases h : Nat.beq (code id) newCode with
  | false => rfl
  | true =>
    rw [Nat.eq_of_beq_eq_true h, ← newL_eq]
    kernel_rfl
noncomputable def pwL : Program := { pw with main := { pw.main with body := [top 0, top 1, top 2, top 3, top 4, top5, top 6, top 7, top 8, top 9, top 10, top 11, top 12, top 13, top 14] } }
theorem pwL_eq : pw = pwL := by
  unfold pwL
  rw [← top5_eq]
  kernel_rfl
noncomputable def qL : Program := { pw with main := { pw.main with body := [top 0, top 2, top 3, top 4, top5, top 6, top 8, top 10, top 11, top 12, top 13, top 14] } }
theorem qL_eq : q = qL := by
  unfold q qL
  rw [top5_eq]
noncomputable def mk241 (P : Params) : { l : Obj // o241 P = l } := by
  refine ⟨?x, ?h⟩
  case h => (conv => lhs; unfold o241; rw [smDoc_eq])
noncomputable def mkKL (P : Params) : { l : Frag // K P = l } := by
  refine ⟨?x, ?h⟩
  case h => (conv => lhs; unfold K; dsimp only; rw [(mk241 P).2])
noncomputable def KL (P : Params) : Frag := (mkKL P).1
theorem KL_eq : K = KL := funext fun P => (mkKL P).2
end Mine
end
section
open PySem PySem.W PyProof.Rows Mine PySem.Calls
set_option maxRecDepth 1000000
set_option linter.unusedVariables false
namespace Mine
noncomputable def h3 (P : Params) : Obj := ⟨.type "dict", none, .dict (List.toArray [⟨PyData.keyHash P (PySem.Str.ofString "__name__"), .str (PySem.Str.ofString "__name__") 165, .str (PySem.Str.ofString "law_wn0126_01") 597⟩, ⟨PyData.keyHash P (PySem.Str.ofString "__doc__"), .str (PySem.Str.ofString "__doc__") 166, .none⟩, ⟨PyData.keyHash P (PySem.Str.ofString "__package__"), .str (PySem.Str.ofString "__package__") 167, .none⟩, ⟨PyData.keyHash P (PySem.Str.ofString "__loader__"), .str (PySem.Str.ofString "__loader__") 168, .builtin "__main__.__loader__#opaque"⟩, ⟨PyData.keyHash P (PySem.Str.ofString "__spec__"), .str (PySem.Str.ofString "__spec__") 169, .none⟩, ⟨PyData.keyHash P (PySem.Str.ofString "__annotations__"), .str (PySem.Str.ofString "__annotations__") 170, .ref 6⟩, ⟨PyData.keyHash P (PySem.Str.ofString "__builtins__"), .str (PySem.Str.ofString "__builtins__") 171, .ref 4⟩, ⟨PyData.keyHash P (PySem.Str.ofString "__file__"), .str (PySem.Str.ofString "__file__") 173, .str (PySem.Str.ofString "/claim/cut.py") 172⟩, ⟨PyData.keyHash P (PySem.Str.ofString "__cached__"), .str (PySem.Str.ofString "__cached__") 174, .none⟩, ⟨PyData.keyHash P (PySem.Str.ofString "_wall"), .str (PySem.Str.ofString "_wall") 193, .ref 21⟩, ⟨PyData.keyHash P (PySem.Str.ofString "_tuplegetter"), .str (PySem.Str.ofString "_tuplegetter") 252, .ref 60⟩, ⟨PyData.keyHash P (PySem.Str.ofString "Match"), .str (PySem.Str.ofString "Match") 380, .ref 135⟩, ⟨PyData.keyHash P (PySem.Str.ofString "_calculate_ratio"), .str (PySem.Str.ofString "_calculate_ratio") 388, .ref 145⟩, ⟨PyData.keyHash P (PySem.Str.ofString "SequenceMatcher"), .str (PySem.Str.ofString "SequenceMatcher") 574, .ref 242⟩, ⟨PyData.keyHash P (PySem.Str.ofString "_format_range_unified"), .str (PySem.Str.ofString "_format_range_unified") 585, .ref 253⟩, ⟨PyData.keyHash P (PySem.Str.ofString "contains"), .str (PySem.Str.ofString "contains") 596, .ref 260⟩, ⟨PyData.keyHash P (PySem.Str.ofString "_law_read"), .str (PySem.Str.ofString "_law_read") 604, .ref 265⟩, ⟨PyData.keyHash P (PySem.Str.ofString "_law_line"), .str (PySem.Str.ofString "_law_line") 610, .ref 270⟩, ⟨PyData.keyHash P (PySem.Str.ofString "_law_lines"), .str (PySem.Str.ofString "_law_lines") 616, .ref 275⟩, ⟨PyData.keyHash P (PySem.Str.ofString "_law_table"), .str (PySem.Str.ofString "_law_table") 622, .ref 280⟩, ⟨PyData.keyHash P (PySem.Str.ofString "law"), .str (PySem.Str.ofString "law") 628, .ref 285⟩]) 21, List.toArray []⟩
noncomputable def h11 (P : Params) : Obj := ⟨.type "tuple", none, .seq (List.toArray []) 0, List.toArray []⟩
noncomputable def h12 (P : Params) : Obj := ⟨.none, none, .fields (List.toArray [.int 1 0, .int 0 0, .ref 20, .int 5 0, .int 0 0, .ref 27, .int 23 0, .int 0 0, .ref 71, .int 66 0, .int 0 0, .ref 144, .int 70 0, .int 0 0, .ref 151, .int 418 0, .int 0 0, .ref 252, .int 428 0, .int 0 0, .ref 259, .int 432 0, .int 0 0, .ref 264, .int 439 0, .int 0 0, .ref 269, .int 458 0, .int 0 0, .ref 274, .int 468 0, .int 0 0, .ref 279, .int 482 0, .int 0 0, .ref 284]), List.toArray []⟩
noncomputable def h13 (P : Params) : Obj := ⟨.type "code", none, .fields (List.toArray [.str (PySem.Str.ofString "<module>") 182, .str (PySem.Str.ofString "<module>") 183, .str (PySem.Str.ofString "/claim/cut.py") 184, .int 1 0, .int 0 0, .int 0 0, .int 0 0, .int 0 0, .ref 11, .bool false, .int 181 0, .ref 12, .none, .none, .none, .none, .int 185 0, .int 1 0, .str (PySem.Str.ofString "/claim/cut.py") 186]), List.toArray []⟩
noncomputable def h14 (P : Params) : Obj := ⟨.type "frame", none, .plain, List.toArray [some (.ref 13), some (.ref 3), some (.ref 3), none, some (.str (PySem.Str.ofString "__main__") 164), none, some (.ref 0)]⟩
noncomputable def h15 (P : Params) : Obj := ⟨.type "tuple", none, .seq (List.toArray []) 0, List.toArray []⟩
noncomputable def h16 (P : Params) : Obj := ⟨.none, none, .fields (List.toArray []), List.toArray []⟩
noncomputable def h17 (P : Params) : Obj := ⟨.type "tuple", none, .seq (List.toArray [.str (PySem.Str.ofString "k") 190]) 0, List.toArray []⟩
noncomputable def h18 (P : Params) : Obj := ⟨.type "tuple", none, .seq (List.toArray []) 0, List.toArray []⟩
noncomputable def h19 (P : Params) : Obj := ⟨.none, none, .func ⟨(PySem.Str.ofString "_wall"), (PySem.Str.ofString "_wall"), argsOf (top 0), .stmts (bodyOf (top 0)), scopeOf (top 0), 0, [], .none, .none, .none, .none, none, .none, .none, 0⟩, List.toArray []⟩
noncomputable def h20 (P : Params) : Obj := ⟨.type "code", none, .fields (List.toArray [.str (PySem.Str.ofString "_wall") 187, .str (PySem.Str.ofString "_wall") 188, .str (PySem.Str.ofString "/claim/cut.py") 189, .int 1 0, .int 1 0, .int 0 0, .int 0 0, .int 3 0, .ref 15, .bool true, .int 181 0, .ref 16, .none, .ref 17, .ref 18, .ref 19, .int 191 0, .int 1 0, .str (PySem.Str.ofString "/claim/cut.py") 192]), List.toArray []⟩
noncomputable def h21 (P : Params) : Obj := ⟨.type "function", none, .func ⟨(PySem.Str.ofString "_wall"), (PySem.Str.ofString "_wall"), argsOf (top 0), .stmts (bodyOf (top 0)), scopeOf (top 0), 3, [], .none, .none, .none, .str (PySem.Str.ofString "__main__") 164, none, .ref 20, .none, 0⟩, List.toArray []⟩
noncomputable def h22 (P : Params) : Obj := ⟨.type "tuple", none, .seq (List.toArray []) 0, List.toArray []⟩
noncomputable def h23 (P : Params) : Obj := ⟨.type "builtin_function_or_method", none, .fields (List.toArray [.builtin "type.__prepare__", .type "type"]), List.toArray []⟩
noncomputable def h24 (P : Params) : Obj := ⟨.type "dict", none, .dict (List.toArray [⟨PyData.keyHash P (PySem.Str.ofString "__module__"), .str (PySem.Str.ofString "__module__") 203, .str (PySem.Str.ofString "cpy313.difflib") 194⟩, ⟨PyData.keyHash P (PySem.Str.ofString "__qualname__"), .str (PySem.Str.ofString "__qualname__") 205, .str (PySem.Str.ofString "_tuplegetter") 204⟩, ⟨PyData.keyHash P (PySem.Str.ofString "__firstlineno__"), .str (PySem.Str.ofString "__firstlineno__") 207, .int 5 206⟩, ⟨PyData.keyHash P (PySem.Str.ofString "__init__"), .str (PySem.Str.ofString "__init__") 216, .ref 35⟩, ⟨PyData.keyHash P (PySem.Str.ofString "__get__"), .str (PySem.Str.ofString "__get__") 225, .ref 43⟩, ⟨PyData.keyHash P (PySem.Str.ofString "__set__"), .str (PySem.Str.ofString "__set__") 234, .ref 50⟩, ⟨PyData.keyHash P (PySem.Str.ofString "__delete__"), .str (PySem.Str.ofString "__delete__") 242, .ref 57⟩, ⟨PyData.keyHash P (PySem.Str.ofString "__static_attributes__"), .str (PySem.Str.ofString "__static_attributes__") 245, .ref 58⟩]) 8, List.toArray []⟩
noncomputable def h25 (P : Params) : Obj := ⟨.type "tuple", none, .seq (List.toArray []) 0, List.toArray []⟩
noncomputable def h26 (P : Params) : Obj := ⟨.none, none, .fields (List.toArray [.int 7 0, .int 4 0, .ref 34, .int 11 0, .int 4 0, .ref 42, .int 18 0, .int 4 0, .ref 49, .int 21 0, .int 4 0, .ref 56]), List.toArray []⟩
noncomputable def h27 (P : Params) : Obj := ⟨.type "code", none, .fields (List.toArray [.str (PySem.Str.ofString "_tuplegetter") 198, .str (PySem.Str.ofString "_tuplegetter") 199, .str (PySem.Str.ofString "/claim/cut.py") 200, .int 5 0, .int 0 0, .int 0 0, .int 0 0, .int 0 0, .ref 25, .bool false, .int 181 0, .ref 26, .none, .none, .none, .none, .int 201 0, .int 5 0, .str (PySem.Str.ofString "/claim/cut.py") 202]), List.toArray []⟩
noncomputable def h28 (P : Params) : Obj := ⟨.type "frame", none, .plain, List.toArray [some (.ref 27), some (.ref 3), some (.ref 24), none, some (.str (PySem.Str.ofString "cpy313.difflib") 194), none, some (.ref 0)]⟩
noncomputable def h29 (P : Params) : Obj := ⟨.type "tuple", none, .seq (List.toArray []) 0, List.toArray []⟩
noncomputable def h30 (P : Params) : Obj := ⟨.none, none, .fields (List.toArray []), List.toArray []⟩
noncomputable def h31 (P : Params) : Obj := ⟨.type "tuple", none, .seq (List.toArray [.str (PySem.Str.ofString "self") 211, .str (PySem.Str.ofString "index") 212, .str (PySem.Str.ofString "doc") 213]) 0, List.toArray []⟩
noncomputable def h32 (P : Params) : Obj := ⟨.type "tuple", none, .seq (List.toArray []) 0, List.toArray []⟩
noncomputable def h33 (P : Params) : Obj := ⟨.none, none, .func ⟨(PySem.Str.ofString "__init__"), (PySem.Str.ofString "_tuplegetter.__init__"), argsOf (inn 2 0), .stmts (bodyOf (inn 2 0)), scopeOf (inn 2 0), 0, [], .none, .none, .none, .none, none, .none, .none, 0⟩, List.toArray []⟩
noncomputable def h34 (P : Params) : Obj := ⟨.type "code", none, .fields (List.toArray [.str (PySem.Str.ofString "__init__") 208, .str (PySem.Str.ofString "_tuplegetter.__init__") 209, .str (PySem.Str.ofString "/claim/cut.py") 210, .int 7 0, .int 3 0, .int 0 0, .int 0 0, .int 3 0, .ref 29, .bool true, .int 181 0, .ref 30, .none, .ref 31, .ref 32, .ref 33, .int 214 0, .int 7 0, .str (PySem.Str.ofString "/claim/cut.py") 215]), List.toArray []⟩
noncomputable def h35 (P : Params) : Obj := ⟨.type "function", none, .func ⟨(PySem.Str.ofString "__init__"), (PySem.Str.ofString "_tuplegetter.__init__"), argsOf (inn 2 0), .stmts (bodyOf (inn 2 0)), scopeOf (inn 2 0), 3, [], .none, .none, .none, .str (PySem.Str.ofString "cpy313.difflib") 194, none, .ref 34, .none, 0⟩, List.toArray []⟩
noncomputable def h36 (P : Params) : Obj := ⟨.type "tuple", none, .seq (List.toArray [.none]) 0, List.toArray []⟩
noncomputable def h37 (P : Params) : Obj := ⟨.type "tuple", none, .seq (List.toArray []) 0, List.toArray []⟩
noncomputable def h38 (P : Params) : Obj := ⟨.none, none, .fields (List.toArray []), List.toArray []⟩
noncomputable def h39 (P : Params) : Obj := ⟨.type "tuple", none, .seq (List.toArray [.str (PySem.Str.ofString "self") 220, .str (PySem.Str.ofString "obj") 221, .str (PySem.Str.ofString "objtype") 222]) 0, List.toArray []⟩
noncomputable def h40 (P : Params) : Obj := ⟨.type "tuple", none, .seq (List.toArray []) 0, List.toArray []⟩
noncomputable def h41 (P : Params) : Obj := ⟨.none, none, .func ⟨(PySem.Str.ofString "__get__"), (PySem.Str.ofString "_tuplegetter.__get__"), argsOf (inn 2 1), .stmts (bodyOf (inn 2 1)), scopeOf (inn 2 1), 0, [], .none, .none, .none, .none, none, .none, .none, 0⟩, List.toArray []⟩
noncomputable def h42 (P : Params) : Obj := ⟨.type "code", none, .fields (List.toArray [.str (PySem.Str.ofString "__get__") 217, .str (PySem.Str.ofString "_tuplegetter.__get__") 218, .str (PySem.Str.ofString "/claim/cut.py") 219, .int 11 0, .int 3 0, .int 0 0, .int 0 0, .int 3 0, .ref 37, .bool true, .int 181 0, .ref 38, .none, .ref 39, .ref 40, .ref 41, .int 223 0, .int 11 0, .str (PySem.Str.ofString "/claim/cut.py") 224]), List.toArray []⟩
noncomputable def h43 (P : Params) : Obj := ⟨.type "function", none, .func ⟨(PySem.Str.ofString "__get__"), (PySem.Str.ofString "_tuplegetter.__get__"), argsOf (inn 2 1), .stmts (bodyOf (inn 2 1)), scopeOf (inn 2 1), 3, [], .ref 36, .none, .none, .str (PySem.Str.ofString "cpy313.difflib") 194, none, .ref 42, .none, 0⟩, List.toArray []⟩
noncomputable def h44 (P : Params) : Obj := ⟨.type "tuple", none, .seq (List.toArray []) 0, List.toArray []⟩
noncomputable def h45 (P : Params) : Obj := ⟨.none, none, .fields (List.toArray []), List.toArray []⟩
noncomputable def h46 (P : Params) : Obj := ⟨.type "tuple", none, .seq (List.toArray [.str (PySem.Str.ofString "self") 229, .str (PySem.Str.ofString "obj") 230, .str (PySem.Str.ofString "value") 231]) 0, List.toArray []⟩
noncomputable def h47 (P : Params) : Obj := ⟨.type "tuple", none, .seq (List.toArray []) 0, List.toArray []⟩
noncomputable def h48 (P : Params) : Obj := ⟨.none, none, .func ⟨(PySem.Str.ofString "__set__"), (PySem.Str.ofString "_tuplegetter.__set__"), argsOf (inn 2 2), .stmts (bodyOf (inn 2 2)), scopeOf (inn 2 2), 0, [], .none, .none, .none, .none, none, .none, .none, 0⟩, List.toArray []⟩
noncomputable def h49 (P : Params) : Obj := ⟨.type "code", none, .fields (List.toArray [.str (PySem.Str.ofString "__set__") 226, .str (PySem.Str.ofString "_tuplegetter.__set__") 227, .str (PySem.Str.ofString "/claim/cut.py") 228, .int 18 0, .int 3 0, .int 0 0, .int 0 0, .int 3 0, .ref 44, .bool true, .int 181 0, .ref 45, .none, .ref 46, .ref 47, .ref 48, .int 232 0, .int 18 0, .str (PySem.Str.ofString "/claim/cut.py") 233]), List.toArray []⟩
noncomputable def h50 (P : Params) : Obj := ⟨.type "function", none, .func ⟨(PySem.Str.ofString "__set__"), (PySem.Str.ofString "_tuplegetter.__set__"), argsOf (inn 2 2), .stmts (bodyOf (inn 2 2)), scopeOf (inn 2 2), 3, [], .none, .none, .none, .str (PySem.Str.ofString "cpy313.difflib") 194, none, .ref 49, .none, 0⟩, List.toArray []⟩
noncomputable def h51 (P : Params) : Obj := ⟨.type "tuple", none, .seq (List.toArray []) 0, List.toArray []⟩
noncomputable def h52 (P : Params) : Obj := ⟨.none, none, .fields (List.toArray []), List.toArray []⟩
noncomputable def h53 (P : Params) : Obj := ⟨.type "tuple", none, .seq (List.toArray [.str (PySem.Str.ofString "self") 238, .str (PySem.Str.ofString "obj") 239]) 0, List.toArray []⟩
noncomputable def h54 (P : Params) : Obj := ⟨.type "tuple", none, .seq (List.toArray []) 0, List.toArray []⟩
noncomputable def h55 (P : Params) : Obj := ⟨.none, none, .func ⟨(PySem.Str.ofString "__delete__"), (PySem.Str.ofString "_tuplegetter.__delete__"), argsOf (inn 2 3), .stmts (bodyOf (inn 2 3)), scopeOf (inn 2 3), 0, [], .none, .none, .none, .none, none, .none, .none, 0⟩, List.toArray []⟩
noncomputable def h56 (P : Params) : Obj := ⟨.type "code", none, .fields (List.toArray [.str (PySem.Str.ofString "__delete__") 235, .str (PySem.Str.ofString "_tuplegetter.__delete__") 236, .str (PySem.Str.ofString "/claim/cut.py") 237, .int 21 0, .int 2 0, .int 0 0, .int 0 0, .int 3 0, .ref 51, .bool true, .int 181 0, .ref 52, .none, .ref 53, .ref 54, .ref 55, .int 240 0, .int 21 0, .str (PySem.Str.ofString "/claim/cut.py") 241]), List.toArray []⟩
noncomputable def h57 (P : Params) : Obj := ⟨.type "function", none, .func ⟨(PySem.Str.ofString "__delete__"), (PySem.Str.ofString "_tuplegetter.__delete__"), argsOf (inn 2 3), .stmts (bodyOf (inn 2 3)), scopeOf (inn 2 3), 3, [], .none, .none, .none, .str (PySem.Str.ofString "cpy313.difflib") 194, none, .ref 56, .none, 0⟩, List.toArray []⟩
noncomputable def h58 (P : Params) : Obj := ⟨.type "tuple", none, .seq (List.toArray [.str (PySem.Str.ofString "__doc__") 243, .str (PySem.Str.ofString "index") 244]) 0, List.toArray []⟩
noncomputable def h59 (P : Params) : Obj := ⟨.type "dict", none, .dict (List.toArray [⟨PyData.keyHash P (PySem.Str.ofString "__module__"), .str (PySem.Str.ofString "__module__") 203, .str (PySem.Str.ofString "cpy313.difflib") 194⟩, ⟨PyData.keyHash P (PySem.Str.ofString "__firstlineno__"), .str (PySem.Str.ofString "__firstlineno__") 207, .int 5 206⟩, ⟨PyData.keyHash P (PySem.Str.ofString "__init__"), .str (PySem.Str.ofString "__init__") 216, .ref 35⟩, ⟨PyData.keyHash P (PySem.Str.ofString "__get__"), .str (PySem.Str.ofString "__get__") 225, .ref 43⟩, ⟨PyData.keyHash P (PySem.Str.ofString "__set__"), .str (PySem.Str.ofString "__set__") 234, .ref 50⟩, ⟨PyData.keyHash P (PySem.Str.ofString "__delete__"), .str (PySem.Str.ofString "__delete__") 242, .ref 57⟩, ⟨PyData.keyHash P (PySem.Str.ofString "__static_attributes__"), .str (PySem.Str.ofString "__static_attributes__") 245, .ref 58⟩, ⟨PyData.keyHash P (PySem.Str.ofString "__dict__"), .str (PySem.Str.ofString "__dict__") 247, .ref 61⟩, ⟨PyData.keyHash P (PySem.Str.ofString "__weakref__"), .str (PySem.Str.ofString "__weakref__") 249, .ref 62⟩, ⟨PyData.keyHash P (PySem.Str.ofString "__doc__"), .str (PySem.Str.ofString "__doc__") 250, .none⟩]) 4, List.toArray []⟩
noncomputable def h60 (P : Params) : Obj := ⟨.type "type", none, .cls ⟨(PySem.Str.ofString "_tuplegetter"), [.type "object"], [.ref 60, .type "object"], 59, (PySem.Str.ofString "_tuplegetter"), true, [], [], false, none, false⟩, List.toArray [none, none, some (.str (PySem.Str.ofString "_tuplegetter") 196), some (.str (PySem.Str.ofString "_tuplegetter") 204), some (.builtin "object.__new__"), some (.bool true)]⟩
noncomputable def h61 (P : Params) : Obj := ⟨.type "getset_descriptor", none, .fields (List.toArray [.str (PySem.Str.ofString "__dict__") 246, .ref 60, .builtin "function.__dict__", .builtin "function.__dict__#set"]), List.toArray []⟩
noncomputable def h62 (P : Params) : Obj := ⟨.type "getset_descriptor", none, .fields (List.toArray [.str (PySem.Str.ofString "__weakref__") 248, .ref 60, .builtin "ExceptionGroup.__weakref__", .none]), List.toArray []⟩
noncomputable def h63 (P : Params) : Obj := ⟨.type "super", none, .fields (List.toArray [.ref 60, .ref 60, .ref 60]), List.toArray []⟩
noncomputable def h64 (P : Params) : Obj := ⟨.type "builtin_function_or_method", none, .fields (List.toArray [.builtin "object.__init_subclass__", .ref 60]), List.toArray []⟩
noncomputable def h65 (P : Params) : Obj := ⟨.type "tuple", none, .seq (List.toArray [.type "tuple"]) 0, List.toArray []⟩
noncomputable def h66 (P : Params) : Obj := ⟨.type "builtin_function_or_method", none, .fields (List.toArray [.builtin "type.__prepare__", .type "type"]), List.toArray []⟩
noncomputable def h67 (P : Params) : Obj := ⟨.type "dict", none, .dict (List.toArray [⟨PyData.keyHash P (PySem.Str.ofString "__module__"), .str (PySem.Str.ofString "__module__") 260, .str (PySem.Str.ofString "cpy313.difflib") 194⟩, ⟨PyData.keyHash P (PySem.Str.ofString "__qualname__"), .str (PySem.Str.ofString "__qualname__") 262, .str (PySem.Str.ofString "Match") 261⟩, ⟨PyData.keyHash P (PySem.Str.ofString "__firstlineno__"), .str (PySem.Str.ofString "__firstlineno__") 264, .int 23 263⟩, ⟨PyData.keyHash P (PySem.Str.ofString "__doc__"), .str (PySem.Str.ofString "__doc__") 266, .str (PySem.Str.ofString "Match(a, b, size)") 265⟩, ⟨PyData.keyHash P (PySem.Str.ofString "__slots__"), .str (PySem.Str.ofString "__slots__") 268, .ref 73⟩, ⟨PyData.keyHash P (PySem.Str.ofString "_fields"), .str (PySem.Str.ofString "_fields") 272, .ref 74⟩, ⟨PyData.keyHash P (PySem.Str.ofString "_field_defaults"), .str (PySem.Str.ofString "_field_defaults") 273, .ref 75⟩, ⟨PyData.keyHash P (PySem.Str.ofString "__new__"), .str (PySem.Str.ofString "__new__") 284, .ref 82⟩, ⟨PyData.keyHash P (PySem.Str.ofString "_make"), .str (PySem.Str.ofString "_make") 306, .ref 91⟩, ⟨PyData.keyHash P (PySem.Str.ofString "_replace"), .str (PySem.Str.ofString "_replace") 317, .ref 100⟩, ⟨PyData.keyHash P (PySem.Str.ofString "__replace__"), .str (PySem.Str.ofString "__replace__") 318, .ref 100⟩, ⟨PyData.keyHash P (PySem.Str.ofString "__repr__"), .str (PySem.Str.ofString "__repr__") 326, .ref 107⟩, ⟨PyData.keyHash P (PySem.Str.ofString "_asdict"), .str (PySem.Str.ofString "_asdict") 333, .ref 114⟩, ⟨PyData.keyHash P (PySem.Str.ofString "__getnewargs__"), .str (PySem.Str.ofString "__getnewargs__") 341, .ref 121⟩, ⟨PyData.keyHash P (PySem.Str.ofString "__match_args__"), .str (PySem.Str.ofString "__match_args__") 345, .ref 122⟩, ⟨PyData.keyHash P (PySem.Str.ofString "a"), .str (PySem.Str.ofString "a") 355, .ref 124⟩, ⟨PyData.keyHash P (PySem.Str.ofString "b"), .str (PySem.Str.ofString "b") 365, .ref 127⟩, ⟨PyData.keyHash P (PySem.Str.ofString "size"), .str (PySem.Str.ofString "size") 375, .ref 130⟩, ⟨PyData.keyHash P (PySem.Str.ofString "__static_attributes__"), .str (PySem.Str.ofString "__static_attributes__") 376, .ref 132⟩, ⟨PyData.keyHash P (PySem.Str.ofString "__classcell__"), .str (PySem.Str.ofString "__classcell__") 377, .ref 68⟩]) 20, List.toArray []⟩
noncomputable def h68 (P : Params) : Obj := ⟨.type "cell", none, .cell (some (.ref 135)), List.toArray []⟩
noncomputable def h69 (P : Params) : Obj := ⟨.type "tuple", none, .seq (List.toArray []) 0, List.toArray []⟩
noncomputable def h70 (P : Params) : Obj := ⟨.none, none, .fields (List.toArray [.int 29 0, .int 4 0, .ref 81, .int 34 0, .int 4 0, .ref 88, .int 41 0, .int 4 0, .ref 99, .int 52 0, .int 4 0, .ref 106, .int 56 0, .int 4 0, .ref 113, .int 59 0, .int 4 0, .ref 120]), List.toArray []⟩
noncomputable def h71 (P : Params) : Obj := ⟨.type "code", none, .fields (List.toArray [.str (PySem.Str.ofString "Match") 255, .str (PySem.Str.ofString "Match") 256, .str (PySem.Str.ofString "/claim/cut.py") 257, .int 23 0, .int 0 0, .int 0 0, .int 0 0, .int 0 0, .ref 69, .bool false, .int 181 0, .ref 70, .none, .none, .none, .none, .int 258 0, .int 23 0, .str (PySem.Str.ofString "/claim/cut.py") 259]), List.toArray []⟩
noncomputable def h72 (P : Params) : Obj := ⟨.type "frame", none, .plain, List.toArray [some (.ref 71), some (.ref 3), some (.ref 67), none, some (.str (PySem.Str.ofString "cpy313.difflib") 194), none, some (.ref 0)]⟩
noncomputable def h73 (P : Params) : Obj := ⟨.type "tuple", none, .seq (List.toArray []) 0, List.toArray []⟩
noncomputable def h74 (P : Params) : Obj := ⟨.type "tuple", none, .seq (List.toArray [.str (PySem.Str.ofString "a") 269, .str (PySem.Str.ofString "b") 270, .str (PySem.Str.ofString "size") 271]) 0, List.toArray []⟩
noncomputable def h75 (P : Params) : Obj := ⟨.type "dict", none, .dict (List.toArray []) 0, List.toArray []⟩
noncomputable def h76 (P : Params) : Obj := ⟨.type "tuple", none, .seq (List.toArray []) 0, List.toArray []⟩
noncomputable def h77 (P : Params) : Obj := ⟨.none, none, .fields (List.toArray []), List.toArray []⟩
noncomputable def h78 (P : Params) : Obj := ⟨.type "tuple", none, .seq (List.toArray [.str (PySem.Str.ofString "_cls") 277, .str (PySem.Str.ofString "a") 278, .str (PySem.Str.ofString "b") 279, .str (PySem.Str.ofString "size") 280]) 0, List.toArray []⟩
noncomputable def h79 (P : Params) : Obj := ⟨.type "tuple", none, .seq (List.toArray []) 0, List.toArray []⟩
noncomputable def h80 (P : Params) : Obj := ⟨.none, none, .func ⟨(PySem.Str.ofString "__new__"), (PySem.Str.ofString "Match.__new__"), argsOf (inn 3 4), .stmts (bodyOf (inn 3 4)), scopeOf (inn 3 4), 0, [], .none, .none, .none, .none, none, .none, .none, 0⟩, List.toArray []⟩
noncomputable def h81 (P : Params) : Obj := ⟨.type "code", none, .fields (List.toArray [.str (PySem.Str.ofString "__new__") 274, .str (PySem.Str.ofString "Match.__new__") 275, .str (PySem.Str.ofString "/claim/cut.py") 276, .int 29 0, .int 4 0, .int 0 0, .int 0 0, .int 3 0, .ref 76, .bool true, .int 181 0, .ref 77, .none, .ref 78, .ref 79, .ref 80, .int 281 0, .int 29 0, .str (PySem.Str.ofString "/claim/cut.py") 282]), List.toArray []⟩
noncomputable def h82 (P : Params) : Obj := ⟨.type "function", none, .func ⟨(PySem.Str.ofString "__new__"), (PySem.Str.ofString "Match.__new__"), argsOf (inn 3 4), .stmts (bodyOf (inn 3 4)), scopeOf (inn 3 4), 3, [], .none, .none, .str (docB (bodyOf (inn 3 4))) 283, .str (PySem.Str.ofString "cpy313.difflib") 194, none, .ref 81, .none, 0⟩, List.toArray []⟩
noncomputable def h83 (P : Params) : Obj := ⟨.type "tuple", none, .seq (List.toArray []) 0, List.toArray []⟩
noncomputable def h84 (P : Params) : Obj := ⟨.none, none, .fields (List.toArray []), List.toArray []⟩
noncomputable def h85 (P : Params) : Obj := ⟨.type "tuple", none, .seq (List.toArray [.str (PySem.Str.ofString "cls") 288, .str (PySem.Str.ofString "iterable") 289, .str (PySem.Str.ofString "result") 290]) 0, List.toArray []⟩
noncomputable def h86 (P : Params) : Obj := ⟨.type "tuple", none, .seq (List.toArray []) 0, List.toArray []⟩
noncomputable def h87 (P : Params) : Obj := ⟨.none, none, .func ⟨(PySem.Str.ofString "_make"), (PySem.Str.ofString "Match._make"), argsOf (inn 3 5), .stmts (bodyOf (inn 3 5)), scopeOf (inn 3 5), 0, [], .none, .none, .none, .none, none, .none, .none, 0⟩, List.toArray []⟩
noncomputable def h88 (P : Params) : Obj := ⟨.type "code", none, .fields (List.toArray [.str (PySem.Str.ofString "_make") 285, .str (PySem.Str.ofString "Match._make") 286, .str (PySem.Str.ofString "/claim/cut.py") 287, .int 33 0, .int 2 0, .int 0 0, .int 0 0, .int 3 0, .ref 83, .bool true, .int 181 0, .ref 84, .none, .ref 85, .ref 86, .ref 87, .int 291 0, .int 33 0, .str (PySem.Str.ofString "/claim/cut.py") 292]), List.toArray []⟩
noncomputable def h89 (P : Params) : Obj := ⟨.type "function", none, .func ⟨(PySem.Str.ofString "_make"), (PySem.Str.ofString "Match._make"), argsOf (inn 3 5), .stmts (bodyOf (inn 3 5)), scopeOf (inn 3 5), 3, [], .none, .none, .str (docB (bodyOf (inn 3 5))) 293, .str (PySem.Str.ofString "cpy313.difflib") 194, some 92, .ref 88, .none, 0⟩, List.toArray []⟩
noncomputable def h90 (P : Params) : Obj := ⟨.type "dict", none, .dict (List.toArray [⟨PyData.keyHash P (PySem.Str.ofString "__module__"), .str (PySem.Str.ofString "__module__") 295, .str (PySem.Str.ofString "cpy313.difflib") 194⟩, ⟨PyData.keyHash P (PySem.Str.ofString "__name__"), .str (PySem.Str.ofString "__name__") 298, .str (PySem.Str.ofString "_make") 297⟩, ⟨PyData.keyHash P (PySem.Str.ofString "__qualname__"), .str (PySem.Str.ofString "__qualname__") 301, .str (PySem.Str.ofString "Match._make") 300⟩, ⟨PyData.keyHash P (PySem.Str.ofString "__doc__"), .str (PySem.Str.ofString "__doc__") 303, .str (PySem.Str.ofString "Make a new Match object from a sequence or iterable") 293⟩, ⟨PyData.keyHash P (PySem.Str.ofString "__annotations__"), .str (PySem.Str.ofString "__annotations__") 305, .ref 92⟩]) 5, List.toArray []⟩
noncomputable def h91 (P : Params) : Obj := ⟨.type "classmethod", some 90, .fields (List.toArray [.ref 89, .bool false]), List.toArray []⟩
noncomputable def h92 (P : Params) : Obj := ⟨.type "dict", none, .dict (List.toArray []) 0, List.toArray []⟩
noncomputable def h93 (P : Params) : Obj := ⟨.type "tuple", none, .seq (List.toArray [.ref 68]) 0, List.toArray []⟩
noncomputable def h94 (P : Params) : Obj := ⟨.type "tuple", none, .seq (List.toArray [.str (PySem.Str.ofString "__class__") 310]) 0, List.toArray []⟩
noncomputable def h95 (P : Params) : Obj := ⟨.none, none, .fields (List.toArray []), List.toArray []⟩
noncomputable def h96 (P : Params) : Obj := ⟨.type "tuple", none, .seq (List.toArray [.str (PySem.Str.ofString "self") 311, .str (PySem.Str.ofString "kwds") 312, .str (PySem.Str.ofString "result") 313]) 0, List.toArray []⟩
noncomputable def h97 (P : Params) : Obj := ⟨.type "tuple", none, .seq (List.toArray []) 0, List.toArray []⟩
noncomputable def h98 (P : Params) : Obj := ⟨.none, none, .func ⟨(PySem.Str.ofString "_replace"), (PySem.Str.ofString "Match._replace"), argsOf (inn 3 6), .stmts (bodyOf (inn 3 6)), scopeOf (inn 3 6), 0, [], .none, .none, .none, .none, none, .none, .none, 0⟩, List.toArray []⟩
noncomputable def h99 (P : Params) : Obj := ⟨.type "code", none, .fields (List.toArray [.str (PySem.Str.ofString "_replace") 307, .str (PySem.Str.ofString "Match._replace") 308, .str (PySem.Str.ofString "/claim/cut.py") 309, .int 41 0, .int 1 0, .int 1 0, .int 0 0, .int 11 0, .ref 94, .bool true, .int 181 0, .ref 95, .none, .ref 96, .ref 97, .ref 98, .int 314 0, .int 41 0, .str (PySem.Str.ofString "/claim/cut.py") 315]), List.toArray []⟩
noncomputable def h100 (P : Params) : Obj := ⟨.type "function", none, .func ⟨(PySem.Str.ofString "_replace"), (PySem.Str.ofString "Match._replace"), argsOf (inn 3 6), .stmts (bodyOf (inn 3 6)), scopeOf (inn 3 6), 3, [((PySem.Str.ofString "__class__"), 68)], .none, .none, .str (docB (bodyOf (inn 3 6))) 316, .str (PySem.Str.ofString "cpy313.difflib") 194, none, .ref 99, .ref 93, 0⟩, List.toArray []⟩
noncomputable def h101 (P : Params) : Obj := ⟨.type "tuple", none, .seq (List.toArray []) 0, List.toArray []⟩
noncomputable def h102 (P : Params) : Obj := ⟨.none, none, .fields (List.toArray []), List.toArray []⟩
noncomputable def h103 (P : Params) : Obj := ⟨.type "tuple", none, .seq (List.toArray [.str (PySem.Str.ofString "self") 322]) 0, List.toArray []⟩
noncomputable def h104 (P : Params) : Obj := ⟨.type "tuple", none, .seq (List.toArray []) 0, List.toArray []⟩
noncomputable def h105 (P : Params) : Obj := ⟨.none, none, .func ⟨(PySem.Str.ofString "__repr__"), (PySem.Str.ofString "Match.__repr__"), argsOf (inn 3 8), .stmts (bodyOf (inn 3 8)), scopeOf (inn 3 8), 0, [], .none, .none, .none, .none, none, .none, .none, 0⟩, List.toArray []⟩
noncomputable def h106 (P : Params) : Obj := ⟨.type "code", none, .fields (List.toArray [.str (PySem.Str.ofString "__repr__") 319, .str (PySem.Str.ofString "Match.__repr__") 320, .str (PySem.Str.ofString "/claim/cut.py") 321, .int 52 0, .int 1 0, .int 0 0, .int 0 0, .int 3 0, .ref 101, .bool true, .int 181 0, .ref 102, .none, .ref 103, .ref 104, .ref 105, .int 323 0, .int 52 0, .str (PySem.Str.ofString "/claim/cut.py") 324]), List.toArray []⟩
noncomputable def h107 (P : Params) : Obj := ⟨.type "function", none, .func ⟨(PySem.Str.ofString "__repr__"), (PySem.Str.ofString "Match.__repr__"), argsOf (inn 3 8), .stmts (bodyOf (inn 3 8)), scopeOf (inn 3 8), 3, [], .none, .none, .str (docB (bodyOf (inn 3 8))) 325, .str (PySem.Str.ofString "cpy313.difflib") 194, none, .ref 106, .none, 0⟩, List.toArray []⟩
noncomputable def h108 (P : Params) : Obj := ⟨.type "tuple", none, .seq (List.toArray []) 0, List.toArray []⟩
noncomputable def h109 (P : Params) : Obj := ⟨.none, none, .fields (List.toArray []), List.toArray []⟩
noncomputable def h110 (P : Params) : Obj := ⟨.type "tuple", none, .seq (List.toArray [.str (PySem.Str.ofString "self") 330]) 0, List.toArray []⟩
noncomputable def h111 (P : Params) : Obj := ⟨.type "tuple", none, .seq (List.toArray []) 0, List.toArray []⟩
noncomputable def h112 (P : Params) : Obj := ⟨.none, none, .func ⟨(PySem.Str.ofString "_asdict"), (PySem.Str.ofString "Match._asdict"), argsOf (inn 3 9), .stmts (bodyOf (inn 3 9)), scopeOf (inn 3 9), 0, [], .none, .none, .none, .none, none, .none, .none, 0⟩, List.toArray []⟩
noncomputable def h113 (P : Params) : Obj := ⟨.type "code", none, .fields (List.toArray [.str (PySem.Str.ofString "_asdict") 327, .str (PySem.Str.ofString "Match._asdict") 328, .str (PySem.Str.ofString "/claim/cut.py") 329, .int 56 0, .int 1 0, .int 0 0, .int 0 0, .int 3 0, .ref 108, .bool true, .int 181 0, .ref 109, .none, .ref 110, .ref 111, .ref 112, .int 331 0, .int 56 0, .str (PySem.Str.ofString "/claim/cut.py") 332]), List.toArray []⟩
noncomputable def h114 (P : Params) : Obj := ⟨.type "function", none, .func ⟨(PySem.Str.ofString "_asdict"), (PySem.Str.ofString "Match._asdict"), argsOf (inn 3 9), .stmts (bodyOf (inn 3 9)), scopeOf (inn 3 9), 3, [], .none, .none, .none, .str (PySem.Str.ofString "cpy313.difflib") 194, none, .ref 113, .none, 0⟩, List.toArray []⟩
noncomputable def h115 (P : Params) : Obj := ⟨.type "tuple", none, .seq (List.toArray []) 0, List.toArray []⟩
noncomputable def h116 (P : Params) : Obj := ⟨.none, none, .fields (List.toArray []), List.toArray []⟩
noncomputable def h117 (P : Params) : Obj := ⟨.type "tuple", none, .seq (List.toArray [.str (PySem.Str.ofString "self") 337]) 0, List.toArray []⟩
noncomputable def h118 (P : Params) : Obj := ⟨.type "tuple", none, .seq (List.toArray []) 0, List.toArray []⟩
noncomputable def h119 (P : Params) : Obj := ⟨.none, none, .func ⟨(PySem.Str.ofString "__getnewargs__"), (PySem.Str.ofString "Match.__getnewargs__"), argsOf (inn 3 10), .stmts (bodyOf (inn 3 10)), scopeOf (inn 3 10), 0, [], .none, .none, .none, .none, none, .none, .none, 0⟩, List.toArray []⟩
noncomputable def h120 (P : Params) : Obj := ⟨.type "code", none, .fields (List.toArray [.str (PySem.Str.ofString "__getnewargs__") 334, .str (PySem.Str.ofString "Match.__getnewargs__") 335, .str (PySem.Str.ofString "/claim/cut.py") 336, .int 59 0, .int 1 0, .int 0 0, .int 0 0, .int 3 0, .ref 115, .bool true, .int 181 0, .ref 116, .none, .ref 117, .ref 118, .ref 119, .int 338 0, .int 59 0, .str (PySem.Str.ofString "/claim/cut.py") 339]), List.toArray []⟩
noncomputable def h121 (P : Params) : Obj := ⟨.type "function", none, .func ⟨(PySem.Str.ofString "__getnewargs__"), (PySem.Str.ofString "Match.__getnewargs__"), argsOf (inn 3 10), .stmts (bodyOf (inn 3 10)), scopeOf (inn 3 10), 3, [], .none, .none, .str (docB (bodyOf (inn 3 10))) 340, .str (PySem.Str.ofString "cpy313.difflib") 194, none, .ref 120, .none, 0⟩, List.toArray []⟩
noncomputable def h122 (P : Params) : Obj := ⟨.type "tuple", none, .seq (List.toArray [.str (PySem.Str.ofString "a") 342, .str (PySem.Str.ofString "b") 343, .str (PySem.Str.ofString "size") 344]) 0, List.toArray []⟩
noncomputable def h123 (P : Params) : Obj := ⟨.type "dict", none, .dict (List.toArray [⟨PyData.keyHash P (PySem.Str.ofString "index"), .str (PySem.Str.ofString "index") 352, .int 0 346⟩, ⟨PyData.keyHash P (PySem.Str.ofString "__doc__"), .str (PySem.Str.ofString "__doc__") 354, .str (PySem.Str.ofString "Alias for field number 0") 347⟩]) 2, List.toArray []⟩
noncomputable def h124 (P : Params) : Obj := ⟨.ref 60, some 123, .plain, List.toArray []⟩
noncomputable def h125 (P : Params) : Obj := ⟨.type "frame", none, .dict (List.toArray [⟨PyData.keyHash P (PySem.Str.ofString "self"), .str (PySem.Str.ofString "self") 348, .ref 124⟩, ⟨PyData.keyHash P (PySem.Str.ofString "index"), .str (PySem.Str.ofString "index") 349, .int 0 346⟩, ⟨PyData.keyHash P (PySem.Str.ofString "doc"), .str (PySem.Str.ofString "doc") 350, .str (PySem.Str.ofString "Alias for field number 0") 347⟩]) 3, List.toArray []⟩
noncomputable def h126 (P : Params) : Obj := ⟨.type "dict", none, .dict (List.toArray [⟨PyData.keyHash P (PySem.Str.ofString "index"), .str (PySem.Str.ofString "index") 362, .int 1 356⟩, ⟨PyData.keyHash P (PySem.Str.ofString "__doc__"), .str (PySem.Str.ofString "__doc__") 364, .str (PySem.Str.ofString "Alias for field number 1") 357⟩]) 2, List.toArray []⟩
noncomputable def h127 (P : Params) : Obj := ⟨.ref 60, some 126, .plain, List.toArray []⟩
noncomputable def h128 (P : Params) : Obj := ⟨.type "frame", none, .dict (List.toArray [⟨PyData.keyHash P (PySem.Str.ofString "self"), .str (PySem.Str.ofString "self") 358, .ref 127⟩, ⟨PyData.keyHash P (PySem.Str.ofString "index"), .str (PySem.Str.ofString "index") 359, .int 1 356⟩, ⟨PyData.keyHash P (PySem.Str.ofString "doc"), .str (PySem.Str.ofString "doc") 360, .str (PySem.Str.ofString "Alias for field number 1") 357⟩]) 3, List.toArray []⟩
noncomputable def h129 (P : Params) : Obj := ⟨.type "dict", none, .dict (List.toArray [⟨PyData.keyHash P (PySem.Str.ofString "index"), .str (PySem.Str.ofString "index") 372, .int 2 366⟩, ⟨PyData.keyHash P (PySem.Str.ofString "__doc__"), .str (PySem.Str.ofString "__doc__") 374, .str (PySem.Str.ofString "Alias for field number 2") 367⟩]) 2, List.toArray []⟩
noncomputable def h130 (P : Params) : Obj := ⟨.ref 60, some 129, .plain, List.toArray []⟩
noncomputable def h131 (P : Params) : Obj := ⟨.type "frame", none, .dict (List.toArray [⟨PyData.keyHash P (PySem.Str.ofString "self"), .str (PySem.Str.ofString "self") 368, .ref 130⟩, ⟨PyData.keyHash P (PySem.Str.ofString "index"), .str (PySem.Str.ofString "index") 369, .int 2 366⟩, ⟨PyData.keyHash P (PySem.Str.ofString "doc"), .str (PySem.Str.ofString "doc") 370, .str (PySem.Str.ofString "Alias for field number 2") 367⟩]) 3, List.toArray []⟩
noncomputable def h132 (P : Params) : Obj := ⟨.type "tuple", none, .seq (List.toArray []) 0, List.toArray []⟩
noncomputable def h133 (P : Params) : Obj := ⟨.type "list", none, .seq (List.toArray []) 0, List.toArray []⟩
noncomputable def h134 (P : Params) : Obj := ⟨.type "dict", none, .dict (List.toArray [⟨PyData.keyHash P (PySem.Str.ofString "__module__"), .str (PySem.Str.ofString "__module__") 260, .str (PySem.Str.ofString "cpy313.difflib") 194⟩, ⟨PyData.keyHash P (PySem.Str.ofString "__firstlineno__"), .str (PySem.Str.ofString "__firstlineno__") 264, .int 23 263⟩, ⟨PyData.keyHash P (PySem.Str.ofString "__doc__"), .str (PySem.Str.ofString "__doc__") 266, .str (PySem.Str.ofString "Match(a, b, size)") 265⟩, ⟨PyData.keyHash P (PySem.Str.ofString "__slots__"), .str (PySem.Str.ofString "__slots__") 268, .ref 73⟩, ⟨PyData.keyHash P (PySem.Str.ofString "_fields"), .str (PySem.Str.ofString "_fields") 272, .ref 74⟩, ⟨PyData.keyHash P (PySem.Str.ofString "_field_defaults"), .str (PySem.Str.ofString "_field_defaults") 273, .ref 75⟩, ⟨PyData.keyHash P (PySem.Str.ofString "__new__"), .str (PySem.Str.ofString "__new__") 284, .ref 136⟩, ⟨PyData.keyHash P (PySem.Str.ofString "_make"), .str (PySem.Str.ofString "_make") 306, .ref 91⟩, ⟨PyData.keyHash P (PySem.Str.ofString "_replace"), .str (PySem.Str.ofString "_replace") 317, .ref 100⟩, ⟨PyData.keyHash P (PySem.Str.ofString "__replace__"), .str (PySem.Str.ofString "__replace__") 318, .ref 100⟩, ⟨PyData.keyHash P (PySem.Str.ofString "__repr__"), .str (PySem.Str.ofString "__repr__") 326, .ref 107⟩, ⟨PyData.keyHash P (PySem.Str.ofString "_asdict"), .str (PySem.Str.ofString "_asdict") 333, .ref 114⟩, ⟨PyData.keyHash P (PySem.Str.ofString "__getnewargs__"), .str (PySem.Str.ofString "__getnewargs__") 341, .ref 121⟩, ⟨PyData.keyHash P (PySem.Str.ofString "__match_args__"), .str (PySem.Str.ofString "__match_args__") 345, .ref 122⟩, ⟨PyData.keyHash P (PySem.Str.ofString "a"), .str (PySem.Str.ofString "a") 355, .ref 124⟩, ⟨PyData.keyHash P (PySem.Str.ofString "b"), .str (PySem.Str.ofString "b") 365, .ref 127⟩, ⟨PyData.keyHash P (PySem.Str.ofString "size"), .str (PySem.Str.ofString "size") 375, .ref 130⟩, ⟨PyData.keyHash P (PySem.Str.ofString "__static_attributes__"), .str (PySem.Str.ofString "__static_attributes__") 376, .ref 132⟩]) 2, List.toArray []⟩
noncomputable def h135 (P : Params) : Obj := ⟨.type "type", none, .cls ⟨(PySem.Str.ofString "Match"), [.type "tuple"], [.ref 135, .type "tuple", .type "object"], 134, (PySem.Str.ofString "Match"), false, [], [], false, none, false⟩, List.toArray [some (.ref 65), none, some (.str (PySem.Str.ofString "Match") 253), some (.str (PySem.Str.ofString "Match") 261), some (.none), some (.bool false)]⟩
noncomputable def h136 (P : Params) : Obj := ⟨.type "staticmethod", none, .fields (List.toArray [.ref 82]), List.toArray []⟩
noncomputable def h137 (P : Params) : Obj := ⟨.type "super", none, .fields (List.toArray [.ref 135, .ref 135, .ref 135]), List.toArray []⟩
noncomputable def h138 (P : Params) : Obj := ⟨.type "builtin_function_or_method", none, .fields (List.toArray [.builtin "object.__init_subclass__", .ref 135]), List.toArray []⟩
noncomputable def h139 (P : Params) : Obj := ⟨.type "tuple", none, .seq (List.toArray []) 0, List.toArray []⟩
noncomputable def h140 (P : Params) : Obj := ⟨.none, none, .fields (List.toArray []), List.toArray []⟩
noncomputable def h141 (P : Params) : Obj := ⟨.type "tuple", none, .seq (List.toArray [.str (PySem.Str.ofString "matches") 384, .str (PySem.Str.ofString "length") 385]) 0, List.toArray []⟩
noncomputable def h142 (P : Params) : Obj := ⟨.type "tuple", none, .seq (List.toArray []) 0, List.toArray []⟩
noncomputable def h143 (P : Params) : Obj := ⟨.none, none, .func ⟨(PySem.Str.ofString "_calculate_ratio"), (PySem.Str.ofString "_calculate_ratio"), argsOf (top 4), .stmts (bodyOf (top 4)), scopeOf (top 4), 0, [], .none, .none, .none, .none, none, .none, .none, 0⟩, List.toArray []⟩
noncomputable def h144 (P : Params) : Obj := ⟨.type "code", none, .fields (List.toArray [.str (PySem.Str.ofString "_calculate_ratio") 381, .str (PySem.Str.ofString "_calculate_ratio") 382, .str (PySem.Str.ofString "/claim/cut.py") 383, .int 66 0, .int 2 0, .int 0 0, .int 0 0, .int 3 0, .ref 139, .bool true, .int 181 0, .ref 140, .none, .ref 141, .ref 142, .ref 143, .int 386 0, .int 66 0, .str (PySem.Str.ofString "/claim/cut.py") 387]), List.toArray []⟩
noncomputable def h145 (P : Params) : Obj := ⟨.type "function", none, .func ⟨(PySem.Str.ofString "_calculate_ratio"), (PySem.Str.ofString "_calculate_ratio"), argsOf (top 4), .stmts (bodyOf (top 4)), scopeOf (top 4), 3, [], .none, .none, .none, .str (PySem.Str.ofString "cpy313.difflib") 194, none, .ref 144, .none, 0⟩, List.toArray []⟩
noncomputable def h146 (P : Params) : Obj := ⟨.type "tuple", none, .seq (List.toArray []) 0, List.toArray []⟩
noncomputable def h147 (P : Params) : Obj := ⟨.type "builtin_function_or_method", none, .fields (List.toArray [.builtin "type.__prepare__", .type "type"]), List.toArray []⟩
noncomputable def h148 (P : Params) : Obj := ⟨.type "dict", none, .dict (List.toArray [⟨PyData.keyHash P (PySem.Str.ofString "__module__"), .str (PySem.Str.ofString "__module__") 396, .str (PySem.Str.ofString "cpy313.difflib") 194⟩, ⟨PyData.keyHash P (PySem.Str.ofString "__qualname__"), .str (PySem.Str.ofString "__qualname__") 398, .str (PySem.Str.ofString "SequenceMatcher") 397⟩, ⟨PyData.keyHash P (PySem.Str.ofString "__firstlineno__"), .str (PySem.Str.ofString "__firstlineno__") 400, .int 70 399⟩, ⟨PyData.keyHash P (PySem.Str.ofString "__doc__"), .str (PySem.Str.ofString "__doc__") 402, .str smDoc 401⟩, ⟨PyData.keyHash P (PySem.Str.ofString "__init__"), .str (PySem.Str.ofString "__init__") 417, .ref 160⟩, ⟨PyData.keyHash P (PySem.Str.ofString "set_seqs"), .str (PySem.Str.ofString "set_seqs") 427, .ref 167⟩, ⟨PyData.keyHash P (PySem.Str.ofString "set_seq1"), .str (PySem.Str.ofString "set_seq1") 436, .ref 174⟩, ⟨PyData.keyHash P (PySem.Str.ofString "set_seq2"), .str (PySem.Str.ofString "set_seq2") 445, .ref 181⟩, ⟨PyData.keyHash P (PySem.Str.ofString "_SequenceMatcher__chain_b"), .str (PySem.Str.ofString "_SequenceMatcher__chain_b") 463, .ref 188⟩, ⟨PyData.keyHash P (PySem.Str.ofString "find_longest_match"), .str (PySem.Str.ofString "find_longest_match") 491, .ref 196⟩, ⟨PyData.keyHash P (PySem.Str.ofString "get_matching_blocks"), .str (PySem.Str.ofString "get_matching_blocks") 518, .ref 203⟩, ⟨PyData.keyHash P (PySem.Str.ofString "get_opcodes"), .str (PySem.Str.ofString "get_opcodes") 525, .ref 210⟩, ⟨PyData.keyHash P (PySem.Str.ofString "get_grouped_opcodes"), .str (PySem.Str.ofString "get_grouped_opcodes") 534, .ref 218⟩, ⟨PyData.keyHash P (PySem.Str.ofString "ratio"), .str (PySem.Str.ofString "ratio") 543, .ref 225⟩, ⟨PyData.keyHash P (PySem.Str.ofString "quick_ratio"), .str (PySem.Str.ofString "quick_ratio") 550, .ref 232⟩, ⟨PyData.keyHash P (PySem.Str.ofString "real_quick_ratio"), .str (PySem.Str.ofString "real_quick_ratio") 557, .ref 239⟩, ⟨PyData.keyHash P (PySem.Str.ofString "__static_attributes__"), .str (PySem.Str.ofString "__static_attributes__") 568, .ref 240⟩]) 17, List.toArray []⟩
noncomputable def h149 (P : Params) : Obj := ⟨.type "tuple", none, .seq (List.toArray []) 0, List.toArray []⟩
noncomputable def h150 (P : Params) : Obj := ⟨.none, none, .fields (List.toArray [.int 145 0, .int 4 0, .ref 159, .int 173 0, .int 4 0, .ref 166, .int 184 0, .int 4 0, .ref 173, .int 209 0, .int 4 0, .ref 180, .int 236 0, .int 4 0, .ref 187, .int 260 0, .int 4 0, .ref 195, .int 335 0, .int 4 0, .ref 202, .int 383 0, .int 4 0, .ref 209, .int 386 0, .int 4 0, .ref 217, .int 389 0, .int 4 0, .ref 224, .int 413 0, .int 4 0, .ref 231, .int 416 0, .int 4 0, .ref 238]), List.toArray []⟩
noncomputable def h151 (P : Params) : Obj := ⟨.type "code", none, .fields (List.toArray [.str (PySem.Str.ofString "SequenceMatcher") 391, .str (PySem.Str.ofString "SequenceMatcher") 392, .str (PySem.Str.ofString "/claim/cut.py") 393, .int 70 0, .int 0 0, .int 0 0, .int 0 0, .int 0 0, .ref 149, .bool false, .int 181 0, .ref 150, .none, .none, .none, .none, .int 394 0, .int 70 0, .str (PySem.Str.ofString "/claim/cut.py") 395]), List.toArray []⟩
noncomputable def h152 (P : Params) : Obj := ⟨.type "frame", none, .plain, List.toArray [some (.ref 151), some (.ref 3), some (.ref 148), none, some (.str (PySem.Str.ofString "cpy313.difflib") 194), none, some (.ref 0)]⟩
noncomputable def h153 (P : Params) : Obj := ⟨.type "tuple", none, .seq (List.toArray [.none, .str (PySem.Str.ofString "") 404, .str (PySem.Str.ofString "") 405, .bool true]) 0, List.toArray []⟩
noncomputable def h154 (P : Params) : Obj := ⟨.type "tuple", none, .seq (List.toArray []) 0, List.toArray []⟩
noncomputable def h155 (P : Params) : Obj := ⟨.none, none, .fields (List.toArray []), List.toArray []⟩
noncomputable def h156 (P : Params) : Obj := ⟨.type "tuple", none, .seq (List.toArray [.str (PySem.Str.ofString "self") 409, .str (PySem.Str.ofString "isjunk") 410, .str (PySem.Str.ofString "a") 411, .str (PySem.Str.ofString "b") 412, .str (PySem.Str.ofString "autojunk") 413]) 0, List.toArray []⟩
noncomputable def h157 (P : Params) : Obj := ⟨.type "tuple", none, .seq (List.toArray []) 0, List.toArray []⟩
noncomputable def h158 (P : Params) : Obj := ⟨.none, none, .func ⟨(PySem.Str.ofString "__init__"), (PySem.Str.ofString "SequenceMatcher.__init__"), argsOf (inn 5 1), .stmts (bodyOf (inn 5 1)), scopeOf (inn 5 1), 0, [], .none, .none, .none, .none, none, .none, .none, 0⟩, List.toArray []⟩
noncomputable def h159 (P : Params) : Obj := ⟨.type "code", none, .fields (List.toArray [.str (PySem.Str.ofString "__init__") 406, .str (PySem.Str.ofString "SequenceMatcher.__init__") 407, .str (PySem.Str.ofString "/claim/cut.py") 408, .int 145 0, .int 5 0, .int 0 0, .int 0 0, .int 3 0, .ref 154, .bool true, .int 181 0, .ref 155, .none, .ref 156, .ref 157, .ref 158, .int 414 0, .int 145 0, .str (PySem.Str.ofString "/claim/cut.py") 415]), List.toArray []⟩
noncomputable def h160 (P : Params) : Obj := ⟨.type "function", none, .func ⟨(PySem.Str.ofString "__init__"), (PySem.Str.ofString "SequenceMatcher.__init__"), argsOf (inn 5 1), .stmts (bodyOf (inn 5 1)), scopeOf (inn 5 1), 3, [], .ref 153, .none, .str (docB (bodyOf (inn 5 1))) 416, .str (PySem.Str.ofString "cpy313.difflib") 194, none, .ref 159, .none, 0⟩, List.toArray []⟩
noncomputable def h161 (P : Params) : Obj := ⟨.type "tuple", none, .seq (List.toArray []) 0, List.toArray []⟩
noncomputable def h162 (P : Params) : Obj := ⟨.none, none, .fields (List.toArray []), List.toArray []⟩
noncomputable def h163 (P : Params) : Obj := ⟨.type "tuple", none, .seq (List.toArray [.str (PySem.Str.ofString "self") 421, .str (PySem.Str.ofString "a") 422, .str (PySem.Str.ofString "b") 423]) 0, List.toArray []⟩
noncomputable def h164 (P : Params) : Obj := ⟨.type "tuple", none, .seq (List.toArray []) 0, List.toArray []⟩
noncomputable def h165 (P : Params) : Obj := ⟨.none, none, .func ⟨(PySem.Str.ofString "set_seqs"), (PySem.Str.ofString "SequenceMatcher.set_seqs"), argsOf (inn 5 2), .stmts (bodyOf (inn 5 2)), scopeOf (inn 5 2), 0, [], .none, .none, .none, .none, none, .none, .none, 0⟩, List.toArray []⟩
noncomputable def h166 (P : Params) : Obj := ⟨.type "code", none, .fields (List.toArray [.str (PySem.Str.ofString "set_seqs") 418, .str (PySem.Str.ofString "SequenceMatcher.set_seqs") 419, .str (PySem.Str.ofString "/claim/cut.py") 420, .int 173 0, .int 3 0, .int 0 0, .int 0 0, .int 3 0, .ref 161, .bool true, .int 181 0, .ref 162, .none, .ref 163, .ref 164, .ref 165, .int 424 0, .int 173 0, .str (PySem.Str.ofString "/claim/cut.py") 425]), List.toArray []⟩
noncomputable def h167 (P : Params) : Obj := ⟨.type "function", none, .func ⟨(PySem.Str.ofString "set_seqs"), (PySem.Str.ofString "SequenceMatcher.set_seqs"), argsOf (inn 5 2), .stmts (bodyOf (inn 5 2)), scopeOf (inn 5 2), 3, [], .none, .none, .str (docB (bodyOf (inn 5 2))) 426, .str (PySem.Str.ofString "cpy313.difflib") 194, none, .ref 166, .none, 0⟩, List.toArray []⟩
noncomputable def h168 (P : Params) : Obj := ⟨.type "tuple", none, .seq (List.toArray []) 0, List.toArray []⟩
noncomputable def h169 (P : Params) : Obj := ⟨.none, none, .fields (List.toArray []), List.toArray []⟩
noncomputable def h170 (P : Params) : Obj := ⟨.type "tuple", none, .seq (List.toArray [.str (PySem.Str.ofString "self") 431, .str (PySem.Str.ofString "a") 432]) 0, List.toArray []⟩
noncomputable def h171 (P : Params) : Obj := ⟨.type "tuple", none, .seq (List.toArray []) 0, List.toArray []⟩
noncomputable def h172 (P : Params) : Obj := ⟨.none, none, .func ⟨(PySem.Str.ofString "set_seq1"), (PySem.Str.ofString "SequenceMatcher.set_seq1"), argsOf (inn 5 3), .stmts (bodyOf (inn 5 3)), scopeOf (inn 5 3), 0, [], .none, .none, .none, .none, none, .none, .none, 0⟩, List.toArray []⟩
noncomputable def h173 (P : Params) : Obj := ⟨.type "code", none, .fields (List.toArray [.str (PySem.Str.ofString "set_seq1") 428, .str (PySem.Str.ofString "SequenceMatcher.set_seq1") 429, .str (PySem.Str.ofString "/claim/cut.py") 430, .int 184 0, .int 2 0, .int 0 0, .int 0 0, .int 3 0, .ref 168, .bool true, .int 181 0, .ref 169, .none, .ref 170, .ref 171, .ref 172, .int 433 0, .int 184 0, .str (PySem.Str.ofString "/claim/cut.py") 434]), List.toArray []⟩
noncomputable def h174 (P : Params) : Obj := ⟨.type "function", none, .func ⟨(PySem.Str.ofString "set_seq1"), (PySem.Str.ofString "SequenceMatcher.set_seq1"), argsOf (inn 5 3), .stmts (bodyOf (inn 5 3)), scopeOf (inn 5 3), 3, [], .none, .none, .str (docB (bodyOf (inn 5 3))) 435, .str (PySem.Str.ofString "cpy313.difflib") 194, none, .ref 173, .none, 0⟩, List.toArray []⟩
noncomputable def h175 (P : Params) : Obj := ⟨.type "tuple", none, .seq (List.toArray []) 0, List.toArray []⟩
noncomputable def h176 (P : Params) : Obj := ⟨.none, none, .fields (List.toArray []), List.toArray []⟩
noncomputable def h177 (P : Params) : Obj := ⟨.type "tuple", none, .seq (List.toArray [.str (PySem.Str.ofString "self") 440, .str (PySem.Str.ofString "b") 441]) 0, List.toArray []⟩
noncomputable def h178 (P : Params) : Obj := ⟨.type "tuple", none, .seq (List.toArray []) 0, List.toArray []⟩
noncomputable def h179 (P : Params) : Obj := ⟨.none, none, .func ⟨(PySem.Str.ofString "set_seq2"), (PySem.Str.ofString "SequenceMatcher.set_seq2"), argsOf (inn 5 4), .stmts (bodyOf (inn 5 4)), scopeOf (inn 5 4), 0, [], .none, .none, .none, .none, none, .none, .none, 0⟩, List.toArray []⟩
noncomputable def h180 (P : Params) : Obj := ⟨.type "code", none, .fields (List.toArray [.str (PySem.Str.ofString "set_seq2") 437, .str (PySem.Str.ofString "SequenceMatcher.set_seq2") 438, .str (PySem.Str.ofString "/claim/cut.py") 439, .int 209 0, .int 2 0, .int 0 0, .int 0 0, .int 3 0, .ref 175, .bool true, .int 181 0, .ref 176, .none, .ref 177, .ref 178, .ref 179, .int 442 0, .int 209 0, .str (PySem.Str.ofString "/claim/cut.py") 443]), List.toArray []⟩
noncomputable def h181 (P : Params) : Obj := ⟨.type "function", none, .func ⟨(PySem.Str.ofString "set_seq2"), (PySem.Str.ofString "SequenceMatcher.set_seq2"), argsOf (inn 5 4), .stmts (bodyOf (inn 5 4)), scopeOf (inn 5 4), 3, [], .none, .none, .str (docB (bodyOf (inn 5 4))) 444, .str (PySem.Str.ofString "cpy313.difflib") 194, none, .ref 180, .none, 0⟩, List.toArray []⟩
noncomputable def h182 (P : Params) : Obj := ⟨.type "tuple", none, .seq (List.toArray []) 0, List.toArray []⟩
noncomputable def h183 (P : Params) : Obj := ⟨.none, none, .fields (List.toArray []), List.toArray []⟩
noncomputable def h184 (P : Params) : Obj := ⟨.type "tuple", none, .seq (List.toArray [.str (PySem.Str.ofString "self") 449, .str (PySem.Str.ofString "b") 450, .str (PySem.Str.ofString "b2j") 451, .str (PySem.Str.ofString "i") 452, .str (PySem.Str.ofString "elt") 453, .str (PySem.Str.ofString "indices") 454, .str (PySem.Str.ofString "junk") 455, .str (PySem.Str.ofString "isjunk") 456, .str (PySem.Str.ofString "popular") 457, .str (PySem.Str.ofString "n") 458, .str (PySem.Str.ofString "ntest") 459, .str (PySem.Str.ofString "idxs") 460]) 0, List.toArray []⟩
noncomputable def h185 (P : Params) : Obj := ⟨.type "tuple", none, .seq (List.toArray []) 0, List.toArray []⟩
noncomputable def h186 (P : Params) : Obj := ⟨.none, none, .func ⟨(PySem.Str.ofString "__chain_b"), (PySem.Str.ofString "SequenceMatcher.__chain_b"), argsOf (inn 5 5), .stmts (bodyOf (inn 5 5)), scopeOf (inn 5 5), 0, [], .none, .none, .none, .none, none, .none, .none, 0⟩, List.toArray []⟩
noncomputable def h187 (P : Params) : Obj := ⟨.type "code", none, .fields (List.toArray [.str (PySem.Str.ofString "__chain_b") 446, .str (PySem.Str.ofString "SequenceMatcher.__chain_b") 447, .str (PySem.Str.ofString "/claim/cut.py") 448, .int 236 0, .int 1 0, .int 0 0, .int 0 0, .int 3 0, .ref 182, .bool true, .int 181 0, .ref 183, .none, .ref 184, .ref 185, .ref 186, .int 461 0, .int 236 0, .str (PySem.Str.ofString "/claim/cut.py") 462]), List.toArray []⟩
noncomputable def h188 (P : Params) : Obj := ⟨.type "function", none, .func ⟨(PySem.Str.ofString "__chain_b"), (PySem.Str.ofString "SequenceMatcher.__chain_b"), argsOf (inn 5 5), .stmts (bodyOf (inn 5 5)), scopeOf (inn 5 5), 3, [], .none, .none, .none, .str (PySem.Str.ofString "cpy313.difflib") 194, none, .ref 187, .none, 0⟩, List.toArray []⟩
noncomputable def h189 (P : Params) : Obj := ⟨.type "tuple", none, .seq (List.toArray [.int 0 464, .none, .int 0 465, .none]) 0, List.toArray []⟩
noncomputable def h190 (P : Params) : Obj := ⟨.type "tuple", none, .seq (List.toArray []) 0, List.toArray []⟩
noncomputable def h191 (P : Params) : Obj := ⟨.none, none, .fields (List.toArray []), List.toArray []⟩
noncomputable def h192 (P : Params) : Obj := ⟨.type "tuple", none, .seq (List.toArray [.str (PySem.Str.ofString "self") 469, .str (PySem.Str.ofString "alo") 470, .str (PySem.Str.ofString "ahi") 471, .str (PySem.Str.ofString "blo") 472, .str (PySem.Str.ofString "bhi") 473, .str (PySem.Str.ofString "a") 474, .str (PySem.Str.ofString "b") 475, .str (PySem.Str.ofString "b2j") 476, .str (PySem.Str.ofString "isbjunk") 477, .str (PySem.Str.ofString "besti") 478, .str (PySem.Str.ofString "bestj") 479, .str (PySem.Str.ofString "bestsize") 480, .str (PySem.Str.ofString "j2len") 481, .str (PySem.Str.ofString "nothing") 482, .str (PySem.Str.ofString "i") 483, .str (PySem.Str.ofString "j2lenget") 484, .str (PySem.Str.ofString "newj2len") 485, .str (PySem.Str.ofString "j") 486, .str (PySem.Str.ofString "k") 487]) 0, List.toArray []⟩
noncomputable def h193 (P : Params) : Obj := ⟨.type "tuple", none, .seq (List.toArray []) 0, List.toArray []⟩
noncomputable def h194 (P : Params) : Obj := ⟨.none, none, .func ⟨(PySem.Str.ofString "find_longest_match"), (PySem.Str.ofString "SequenceMatcher.find_longest_match"), argsOf (inn 5 6), .stmts (bodyOf (inn 5 6)), scopeOf (inn 5 6), 0, [], .none, .none, .none, .none, none, .none, .none, 0⟩, List.toArray []⟩
noncomputable def h195 (P : Params) : Obj := ⟨.type "code", none, .fields (List.toArray [.str (PySem.Str.ofString "find_longest_match") 466, .str (PySem.Str.ofString "SequenceMatcher.find_longest_match") 467, .str (PySem.Str.ofString "/claim/cut.py") 468, .int 260 0, .int 5 0, .int 0 0, .int 0 0, .int 3 0, .ref 190, .bool true, .int 181 0, .ref 191, .none, .ref 192, .ref 193, .ref 194, .int 488 0, .int 260 0, .str (PySem.Str.ofString "/claim/cut.py") 489]), List.toArray []⟩
noncomputable def h196 (P : Params) : Obj := ⟨.type "function", none, .func ⟨(PySem.Str.ofString "find_longest_match"), (PySem.Str.ofString "SequenceMatcher.find_longest_match"), argsOf (inn 5 6), .stmts (bodyOf (inn 5 6)), scopeOf (inn 5 6), 3, [], .ref 189, .none, .str (docB (bodyOf (inn 5 6))) 490, .str (PySem.Str.ofString "cpy313.difflib") 194, none, .ref 195, .none, 0⟩, List.toArray []⟩
noncomputable def h197 (P : Params) : Obj := ⟨.type "tuple", none, .seq (List.toArray []) 0, List.toArray []⟩
noncomputable def h198 (P : Params) : Obj := ⟨.none, none, .fields (List.toArray []), List.toArray []⟩
noncomputable def h199 (P : Params) : Obj := ⟨.type "tuple", none, .seq (List.toArray [.str (PySem.Str.ofString "self") 495, .str (PySem.Str.ofString "la") 496, .str (PySem.Str.ofString "lb") 497, .str (PySem.Str.ofString "queue") 498, .str (PySem.Str.ofString "matching_blocks") 499, .str (PySem.Str.ofString "alo") 500, .str (PySem.Str.ofString "ahi") 501, .str (PySem.Str.ofString "blo") 502, .str (PySem.Str.ofString "bhi") 503, .str (PySem.Str.ofString "i") 504, .str (PySem.Str.ofString "j") 505, .str (PySem.Str.ofString "k") 506, .str (PySem.Str.ofString "x") 507, .str (PySem.Str.ofString "i1") 508, .str (PySem.Str.ofString "j1") 509, .str (PySem.Str.ofString "k1") 510, .str (PySem.Str.ofString "non_adjacent") 511, .str (PySem.Str.ofString "i2") 512, .str (PySem.Str.ofString "j2") 513, .str (PySem.Str.ofString "k2") 514]) 0, List.toArray []⟩
noncomputable def h200 (P : Params) : Obj := ⟨.type "tuple", none, .seq (List.toArray []) 0, List.toArray []⟩
noncomputable def h201 (P : Params) : Obj := ⟨.none, none, .func ⟨(PySem.Str.ofString "get_matching_blocks"), (PySem.Str.ofString "SequenceMatcher.get_matching_blocks"), argsOf (inn 5 7), .stmts (bodyOf (inn 5 7)), scopeOf (inn 5 7), 0, [], .none, .none, .none, .none, none, .none, .none, 0⟩, List.toArray []⟩
noncomputable def h202 (P : Params) : Obj := ⟨.type "code", none, .fields (List.toArray [.str (PySem.Str.ofString "get_matching_blocks") 492, .str (PySem.Str.ofString "SequenceMatcher.get_matching_blocks") 493, .str (PySem.Str.ofString "/claim/cut.py") 494, .int 335 0, .int 1 0, .int 0 0, .int 0 0, .int 3 0, .ref 197, .bool true, .int 181 0, .ref 198, .none, .ref 199, .ref 200, .ref 201, .int 515 0, .int 335 0, .str (PySem.Str.ofString "/claim/cut.py") 516]), List.toArray []⟩
noncomputable def h203 (P : Params) : Obj := ⟨.type "function", none, .func ⟨(PySem.Str.ofString "get_matching_blocks"), (PySem.Str.ofString "SequenceMatcher.get_matching_blocks"), argsOf (inn 5 7), .stmts (bodyOf (inn 5 7)), scopeOf (inn 5 7), 3, [], .none, .none, .str (docB (bodyOf (inn 5 7))) 517, .str (PySem.Str.ofString "cpy313.difflib") 194, none, .ref 202, .none, 0⟩, List.toArray []⟩
noncomputable def h204 (P : Params) : Obj := ⟨.type "tuple", none, .seq (List.toArray []) 0, List.toArray []⟩
noncomputable def h205 (P : Params) : Obj := ⟨.none, none, .fields (List.toArray []), List.toArray []⟩
noncomputable def h206 (P : Params) : Obj := ⟨.type "tuple", none, .seq (List.toArray [.str (PySem.Str.ofString "self") 522]) 0, List.toArray []⟩
noncomputable def h207 (P : Params) : Obj := ⟨.type "tuple", none, .seq (List.toArray []) 0, List.toArray []⟩
noncomputable def h208 (P : Params) : Obj := ⟨.none, none, .func ⟨(PySem.Str.ofString "get_opcodes"), (PySem.Str.ofString "SequenceMatcher.get_opcodes"), argsOf (inn 5 8), .stmts (bodyOf (inn 5 8)), scopeOf (inn 5 8), 0, [], .none, .none, .none, .none, none, .none, .none, 0⟩, List.toArray []⟩
noncomputable def h209 (P : Params) : Obj := ⟨.type "code", none, .fields (List.toArray [.str (PySem.Str.ofString "get_opcodes") 519, .str (PySem.Str.ofString "SequenceMatcher.get_opcodes") 520, .str (PySem.Str.ofString "/claim/cut.py") 521, .int 383 0, .int 1 0, .int 0 0, .int 0 0, .int 3 0, .ref 204, .bool true, .int 181 0, .ref 205, .none, .ref 206, .ref 207, .ref 208, .int 523 0, .int 383 0, .str (PySem.Str.ofString "/claim/cut.py") 524]), List.toArray []⟩
noncomputable def h210 (P : Params) : Obj := ⟨.type "function", none, .func ⟨(PySem.Str.ofString "get_opcodes"), (PySem.Str.ofString "SequenceMatcher.get_opcodes"), argsOf (inn 5 8), .stmts (bodyOf (inn 5 8)), scopeOf (inn 5 8), 3, [], .none, .none, .none, .str (PySem.Str.ofString "cpy313.difflib") 194, none, .ref 209, .none, 0⟩, List.toArray []⟩
noncomputable def h211 (P : Params) : Obj := ⟨.type "tuple", none, .seq (List.toArray [.int 3 526]) 0, List.toArray []⟩
noncomputable def h212 (P : Params) : Obj := ⟨.type "tuple", none, .seq (List.toArray []) 0, List.toArray []⟩
noncomputable def h213 (P : Params) : Obj := ⟨.none, none, .fields (List.toArray []), List.toArray []⟩
noncomputable def h214 (P : Params) : Obj := ⟨.type "tuple", none, .seq (List.toArray [.str (PySem.Str.ofString "self") 530, .str (PySem.Str.ofString "n") 531]) 0, List.toArray []⟩
noncomputable def h215 (P : Params) : Obj := ⟨.type "tuple", none, .seq (List.toArray []) 0, List.toArray []⟩
noncomputable def h216 (P : Params) : Obj := ⟨.none, none, .func ⟨(PySem.Str.ofString "get_grouped_opcodes"), (PySem.Str.ofString "SequenceMatcher.get_grouped_opcodes"), argsOf (inn 5 9), .stmts (bodyOf (inn 5 9)), scopeOf (inn 5 9), 0, [], .none, .none, .none, .none, none, .none, .none, 0⟩, List.toArray []⟩
noncomputable def h217 (P : Params) : Obj := ⟨.type "code", none, .fields (List.toArray [.str (PySem.Str.ofString "get_grouped_opcodes") 527, .str (PySem.Str.ofString "SequenceMatcher.get_grouped_opcodes") 528, .str (PySem.Str.ofString "/claim/cut.py") 529, .int 386 0, .int 2 0, .int 0 0, .int 0 0, .int 3 0, .ref 212, .bool true, .int 181 0, .ref 213, .none, .ref 214, .ref 215, .ref 216, .int 532 0, .int 386 0, .str (PySem.Str.ofString "/claim/cut.py") 533]), List.toArray []⟩
noncomputable def h218 (P : Params) : Obj := ⟨.type "function", none, .func ⟨(PySem.Str.ofString "get_grouped_opcodes"), (PySem.Str.ofString "SequenceMatcher.get_grouped_opcodes"), argsOf (inn 5 9), .stmts (bodyOf (inn 5 9)), scopeOf (inn 5 9), 3, [], .ref 211, .none, .none, .str (PySem.Str.ofString "cpy313.difflib") 194, none, .ref 217, .none, 0⟩, List.toArray []⟩
noncomputable def h219 (P : Params) : Obj := ⟨.type "tuple", none, .seq (List.toArray []) 0, List.toArray []⟩
noncomputable def h220 (P : Params) : Obj := ⟨.none, none, .fields (List.toArray []), List.toArray []⟩
noncomputable def h221 (P : Params) : Obj := ⟨.type "tuple", none, .seq (List.toArray [.str (PySem.Str.ofString "self") 538, .str (PySem.Str.ofString "matches") 539]) 0, List.toArray []⟩
noncomputable def h222 (P : Params) : Obj := ⟨.type "tuple", none, .seq (List.toArray []) 0, List.toArray []⟩
noncomputable def h223 (P : Params) : Obj := ⟨.none, none, .func ⟨(PySem.Str.ofString "ratio"), (PySem.Str.ofString "SequenceMatcher.ratio"), argsOf (inn 5 10), .stmts (bodyOf (inn 5 10)), scopeOf (inn 5 10), 0, [], .none, .none, .none, .none, none, .none, .none, 0⟩, List.toArray []⟩
noncomputable def h224 (P : Params) : Obj := ⟨.type "code", none, .fields (List.toArray [.str (PySem.Str.ofString "ratio") 535, .str (PySem.Str.ofString "SequenceMatcher.ratio") 536, .str (PySem.Str.ofString "/claim/cut.py") 537, .int 389 0, .int 1 0, .int 0 0, .int 0 0, .int 3 0, .ref 219, .bool true, .int 181 0, .ref 220, .none, .ref 221, .ref 222, .ref 223, .int 540 0, .int 389 0, .str (PySem.Str.ofString "/claim/cut.py") 541]), List.toArray []⟩
noncomputable def h225 (P : Params) : Obj := ⟨.type "function", none, .func ⟨(PySem.Str.ofString "ratio"), (PySem.Str.ofString "SequenceMatcher.ratio"), argsOf (inn 5 10), .stmts (bodyOf (inn 5 10)), scopeOf (inn 5 10), 3, [], .none, .none, .str (docB (bodyOf (inn 5 10))) 542, .str (PySem.Str.ofString "cpy313.difflib") 194, none, .ref 224, .none, 0⟩, List.toArray []⟩
noncomputable def h226 (P : Params) : Obj := ⟨.type "tuple", none, .seq (List.toArray []) 0, List.toArray []⟩
noncomputable def h227 (P : Params) : Obj := ⟨.none, none, .fields (List.toArray []), List.toArray []⟩
noncomputable def h228 (P : Params) : Obj := ⟨.type "tuple", none, .seq (List.toArray [.str (PySem.Str.ofString "self") 547]) 0, List.toArray []⟩
noncomputable def h229 (P : Params) : Obj := ⟨.type "tuple", none, .seq (List.toArray []) 0, List.toArray []⟩
noncomputable def h230 (P : Params) : Obj := ⟨.none, none, .func ⟨(PySem.Str.ofString "quick_ratio"), (PySem.Str.ofString "SequenceMatcher.quick_ratio"), argsOf (inn 5 11), .stmts (bodyOf (inn 5 11)), scopeOf (inn 5 11), 0, [], .none, .none, .none, .none, none, .none, .none, 0⟩, List.toArray []⟩
noncomputable def h231 (P : Params) : Obj := ⟨.type "code", none, .fields (List.toArray [.str (PySem.Str.ofString "quick_ratio") 544, .str (PySem.Str.ofString "SequenceMatcher.quick_ratio") 545, .str (PySem.Str.ofString "/claim/cut.py") 546, .int 413 0, .int 1 0, .int 0 0, .int 0 0, .int 3 0, .ref 226, .bool true, .int 181 0, .ref 227, .none, .ref 228, .ref 229, .ref 230, .int 548 0, .int 413 0, .str (PySem.Str.ofString "/claim/cut.py") 549]), List.toArray []⟩
noncomputable def h232 (P : Params) : Obj := ⟨.type "function", none, .func ⟨(PySem.Str.ofString "quick_ratio"), (PySem.Str.ofString "SequenceMatcher.quick_ratio"), argsOf (inn 5 11), .stmts (bodyOf (inn 5 11)), scopeOf (inn 5 11), 3, [], .none, .none, .none, .str (PySem.Str.ofString "cpy313.difflib") 194, none, .ref 231, .none, 0⟩, List.toArray []⟩
noncomputable def h233 (P : Params) : Obj := ⟨.type "tuple", none, .seq (List.toArray []) 0, List.toArray []⟩
noncomputable def h234 (P : Params) : Obj := ⟨.none, none, .fields (List.toArray []), List.toArray []⟩
noncomputable def h235 (P : Params) : Obj := ⟨.type "tuple", none, .seq (List.toArray [.str (PySem.Str.ofString "self") 554]) 0, List.toArray []⟩
noncomputable def h236 (P : Params) : Obj := ⟨.type "tuple", none, .seq (List.toArray []) 0, List.toArray []⟩
noncomputable def h237 (P : Params) : Obj := ⟨.none, none, .func ⟨(PySem.Str.ofString "real_quick_ratio"), (PySem.Str.ofString "SequenceMatcher.real_quick_ratio"), argsOf (inn 5 12), .stmts (bodyOf (inn 5 12)), scopeOf (inn 5 12), 0, [], .none, .none, .none, .none, none, .none, .none, 0⟩, List.toArray []⟩
noncomputable def h238 (P : Params) : Obj := ⟨.type "code", none, .fields (List.toArray [.str (PySem.Str.ofString "real_quick_ratio") 551, .str (PySem.Str.ofString "SequenceMatcher.real_quick_ratio") 552, .str (PySem.Str.ofString "/claim/cut.py") 553, .int 416 0, .int 1 0, .int 0 0, .int 0 0, .int 3 0, .ref 233, .bool true, .int 181 0, .ref 234, .none, .ref 235, .ref 236, .ref 237, .int 555 0, .int 416 0, .str (PySem.Str.ofString "/claim/cut.py") 556]), List.toArray []⟩
noncomputable def h239 (P : Params) : Obj := ⟨.type "function", none, .func ⟨(PySem.Str.ofString "real_quick_ratio"), (PySem.Str.ofString "SequenceMatcher.real_quick_ratio"), argsOf (inn 5 12), .stmts (bodyOf (inn 5 12)), scopeOf (inn 5 12), 3, [], .none, .none, .none, .str (PySem.Str.ofString "cpy313.difflib") 194, none, .ref 238, .none, 0⟩, List.toArray []⟩
noncomputable def h240 (P : Params) : Obj := ⟨.type "tuple", none, .seq (List.toArray [.str (PySem.Str.ofString "a") 558, .str (PySem.Str.ofString "autojunk") 559, .str (PySem.Str.ofString "b") 560, .str (PySem.Str.ofString "b2j") 561, .str (PySem.Str.ofString "bjunk") 562, .str (PySem.Str.ofString "bpopular") 563, .str (PySem.Str.ofString "fullbcount") 564, .str (PySem.Str.ofString "isjunk") 565, .str (PySem.Str.ofString "matching_blocks") 566, .str (PySem.Str.ofString "opcodes") 567]) 0, List.toArray []⟩
noncomputable def h241 (P : Params) : Obj := ⟨.type "dict", none, .dict (List.toArray [⟨PyData.keyHash P (PySem.Str.ofString "__module__"), .str (PySem.Str.ofString "__module__") 396, .str (PySem.Str.ofString "cpy313.difflib") 194⟩, ⟨PyData.keyHash P (PySem.Str.ofString "__firstlineno__"), .str (PySem.Str.ofString "__firstlineno__") 400, .int 70 399⟩, ⟨PyData.keyHash P (PySem.Str.ofString "__doc__"), .str (PySem.Str.ofString "__doc__") 402, .str smDoc 401⟩, ⟨PyData.keyHash P (PySem.Str.ofString "__init__"), .str (PySem.Str.ofString "__init__") 417, .ref 160⟩, ⟨PyData.keyHash P (PySem.Str.ofString "set_seqs"), .str (PySem.Str.ofString "set_seqs") 427, .ref 167⟩, ⟨PyData.keyHash P (PySem.Str.ofString "set_seq1"), .str (PySem.Str.ofString "set_seq1") 436, .ref 174⟩, ⟨PyData.keyHash P (PySem.Str.ofString "set_seq2"), .str (PySem.Str.ofString "set_seq2") 445, .ref 181⟩, ⟨PyData.keyHash P (PySem.Str.ofString "_SequenceMatcher__chain_b"), .str (PySem.Str.ofString "_SequenceMatcher__chain_b") 463, .ref 188⟩, ⟨PyData.keyHash P (PySem.Str.ofString "find_longest_match"), .str (PySem.Str.ofString "find_longest_match") 491, .ref 196⟩, ⟨PyData.keyHash P (PySem.Str.ofString "get_matching_blocks"), .str (PySem.Str.ofString "get_matching_blocks") 518, .ref 203⟩, ⟨PyData.keyHash P (PySem.Str.ofString "get_opcodes"), .str (PySem.Str.ofString "get_opcodes") 525, .ref 210⟩, ⟨PyData.keyHash P (PySem.Str.ofString "get_grouped_opcodes"), .str (PySem.Str.ofString "get_grouped_opcodes") 534, .ref 218⟩, ⟨PyData.keyHash P (PySem.Str.ofString "ratio"), .str (PySem.Str.ofString "ratio") 543, .ref 225⟩, ⟨PyData.keyHash P (PySem.Str.ofString "quick_ratio"), .str (PySem.Str.ofString "quick_ratio") 550, .ref 232⟩, ⟨PyData.keyHash P (PySem.Str.ofString "real_quick_ratio"), .str (PySem.Str.ofString "real_quick_ratio") 557, .ref 239⟩, ⟨PyData.keyHash P (PySem.Str.ofString "__static_attributes__"), .str (PySem.Str.ofString "__static_attributes__") 568, .ref 240⟩, ⟨PyData.keyHash P (PySem.Str.ofString "__dict__"), .str (PySem.Str.ofString "__dict__") 570, .ref 243⟩, ⟨PyData.keyHash P (PySem.Str.ofString "__weakref__"), .str (PySem.Str.ofString "__weakref__") 572, .ref 244⟩]) 3, List.toArray []⟩
noncomputable def h242 (P : Params) : Obj := ⟨.type "type", none, .cls ⟨(PySem.Str.ofString "SequenceMatcher"), [.type "object"], [.ref 242, .type "object"], 241, (PySem.Str.ofString "SequenceMatcher"), true, [], [], false, none, false⟩, List.toArray [none, none, some (.str (PySem.Str.ofString "SequenceMatcher") 389), some (.str (PySem.Str.ofString "SequenceMatcher") 397), some (.builtin "object.__new__"), some (.bool true)]⟩
noncomputable def h243 (P : Params) : Obj := ⟨.type "getset_descriptor", none, .fields (List.toArray [.str (PySem.Str.ofString "__dict__") 569, .ref 242, .builtin "function.__dict__", .builtin "function.__dict__#set"]), List.toArray []⟩
noncomputable def h244 (P : Params) : Obj := ⟨.type "getset_descriptor", none, .fields (List.toArray [.str (PySem.Str.ofString "__weakref__") 571, .ref 242, .builtin "ExceptionGroup.__weakref__", .none]), List.toArray []⟩
noncomputable def h245 (P : Params) : Obj := ⟨.type "super", none, .fields (List.toArray [.ref 242, .ref 242, .ref 242]), List.toArray []⟩
noncomputable def h246 (P : Params) : Obj := ⟨.type "builtin_function_or_method", none, .fields (List.toArray [.builtin "object.__init_subclass__", .ref 242]), List.toArray []⟩
noncomputable def h247 (P : Params) : Obj := ⟨.type "tuple", none, .seq (List.toArray []) 0, List.toArray []⟩
noncomputable def h248 (P : Params) : Obj := ⟨.none, none, .fields (List.toArray []), List.toArray []⟩
noncomputable def h249 (P : Params) : Obj := ⟨.type "tuple", none, .seq (List.toArray [.str (PySem.Str.ofString "start") 578, .str (PySem.Str.ofString "stop") 579, .str (PySem.Str.ofString "beginning") 580, .str (PySem.Str.ofString "length") 581]) 0, List.toArray []⟩
noncomputable def h250 (P : Params) : Obj := ⟨.type "tuple", none, .seq (List.toArray []) 0, List.toArray []⟩
noncomputable def h251 (P : Params) : Obj := ⟨.none, none, .func ⟨(PySem.Str.ofString "_format_range_unified"), (PySem.Str.ofString "_format_range_unified"), argsOf (top 6), .stmts (bodyOf (top 6)), scopeOf (top 6), 0, [], .none, .none, .none, .none, none, .none, .none, 0⟩, List.toArray []⟩
noncomputable def h252 (P : Params) : Obj := ⟨.type "code", none, .fields (List.toArray [.str (PySem.Str.ofString "_format_range_unified") 575, .str (PySem.Str.ofString "_format_range_unified") 576, .str (PySem.Str.ofString "/claim/cut.py") 577, .int 418 0, .int 2 0, .int 0 0, .int 0 0, .int 3 0, .ref 247, .bool true, .int 181 0, .ref 248, .none, .ref 249, .ref 250, .ref 251, .int 582 0, .int 418 0, .str (PySem.Str.ofString "/claim/cut.py") 583]), List.toArray []⟩
noncomputable def h253 (P : Params) : Obj := ⟨.type "function", none, .func ⟨(PySem.Str.ofString "_format_range_unified"), (PySem.Str.ofString "_format_range_unified"), argsOf (top 6), .stmts (bodyOf (top 6)), scopeOf (top 6), 3, [], .none, .none, .str (docB (bodyOf (top 6))) 584, .str (PySem.Str.ofString "cpy313.difflib") 194, none, .ref 252, .none, 0⟩, List.toArray []⟩
noncomputable def h254 (P : Params) : Obj := ⟨.type "tuple", none, .seq (List.toArray []) 0, List.toArray []⟩
noncomputable def h255 (P : Params) : Obj := ⟨.none, none, .fields (List.toArray []), List.toArray []⟩
noncomputable def h256 (P : Params) : Obj := ⟨.type "tuple", none, .seq (List.toArray [.str (PySem.Str.ofString "a") 591, .str (PySem.Str.ofString "b") 592]) 0, List.toArray []⟩
noncomputable def h257 (P : Params) : Obj := ⟨.type "tuple", none, .seq (List.toArray []) 0, List.toArray []⟩
noncomputable def h258 (P : Params) : Obj := ⟨.none, none, .func ⟨(PySem.Str.ofString "contains"), (PySem.Str.ofString "contains"), argsOf (top 8), .stmts (bodyOf (top 8)), scopeOf (top 8), 0, [], .none, .none, .none, .none, none, .none, .none, 0⟩, List.toArray []⟩
noncomputable def h259 (P : Params) : Obj := ⟨.type "code", none, .fields (List.toArray [.str (PySem.Str.ofString "contains") 588, .str (PySem.Str.ofString "contains") 589, .str (PySem.Str.ofString "/claim/cut.py") 590, .int 428 0, .int 2 0, .int 0 0, .int 0 0, .int 3 0, .ref 254, .bool true, .int 181 0, .ref 255, .none, .ref 256, .ref 257, .ref 258, .int 593 0, .int 428 0, .str (PySem.Str.ofString "/claim/cut.py") 594]), List.toArray []⟩
noncomputable def h260 (P : Params) : Obj := ⟨.type "function", none, .func ⟨(PySem.Str.ofString "contains"), (PySem.Str.ofString "contains"), argsOf (top 8), .stmts (bodyOf (top 8)), scopeOf (top 8), 3, [], .none, .none, .str (docB (bodyOf (top 8))) 595, .str (PySem.Str.ofString "cpy313.operator") 586, none, .ref 259, .none, 0⟩, List.toArray []⟩
noncomputable def h261 (P : Params) : Obj := ⟨.type "tuple", none, .seq (List.toArray []) 0, List.toArray []⟩
noncomputable def h262 (P : Params) : Obj := ⟨.none, none, .fields (List.toArray []), List.toArray []⟩
noncomputable def h263 (P : Params) : Obj := ⟨.none, none, .func ⟨(PySem.Str.ofString "_law_read"), (PySem.Str.ofString "_law_read"), argsOf (top 10), .stmts (bodyOf (top 10)), scopeOf (top 10), 0, [], .none, .none, .none, .none, none, .none, .none, 0⟩, List.toArray []⟩
noncomputable def h264 (P : Params) : Obj := ⟨.type "code", none, .fields (List.toArray [.str (PySem.Str.ofString "_law_read") 599, .str (PySem.Str.ofString "_law_read") 600, .str (PySem.Str.ofString "/claim/cut.py") 601, .int 432 0, .int 1 0, .int 0 0, .int 0 0, .int 3 0, .ref 261, .bool true, .int 181 0, .ref 262, .none, .none, .none, .ref 263, .int 602 0, .int 432 0, .str (PySem.Str.ofString "/claim/cut.py") 603]), List.toArray []⟩
noncomputable def h265 (P : Params) : Obj := ⟨.type "function", none, .func ⟨(PySem.Str.ofString "_law_read"), (PySem.Str.ofString "_law_read"), argsOf (top 10), .stmts (bodyOf (top 10)), scopeOf (top 10), 3, [], .none, .none, .none, .str (PySem.Str.ofString "law_wn0126_01") 597, none, .ref 264, .none, 0⟩, List.toArray []⟩
noncomputable def h266 (P : Params) : Obj := ⟨.type "tuple", none, .seq (List.toArray []) 0, List.toArray []⟩
noncomputable def h267 (P : Params) : Obj := ⟨.none, none, .fields (List.toArray []), List.toArray []⟩
noncomputable def h268 (P : Params) : Obj := ⟨.none, none, .func ⟨(PySem.Str.ofString "_law_line"), (PySem.Str.ofString "_law_line"), argsOf (top 11), .stmts (bodyOf (top 11)), scopeOf (top 11), 0, [], .none, .none, .none, .none, none, .none, .none, 0⟩, List.toArray []⟩
noncomputable def h269 (P : Params) : Obj := ⟨.type "code", none, .fields (List.toArray [.str (PySem.Str.ofString "_law_line") 605, .str (PySem.Str.ofString "_law_line") 606, .str (PySem.Str.ofString "/claim/cut.py") 607, .int 439 0, .int 1 0, .int 0 0, .int 0 0, .int 3 0, .ref 266, .bool true, .int 181 0, .ref 267, .none, .none, .none, .ref 268, .int 608 0, .int 439 0, .str (PySem.Str.ofString "/claim/cut.py") 609]), List.toArray []⟩
noncomputable def h270 (P : Params) : Obj := ⟨.type "function", none, .func ⟨(PySem.Str.ofString "_law_line"), (PySem.Str.ofString "_law_line"), argsOf (top 11), .stmts (bodyOf (top 11)), scopeOf (top 11), 3, [], .none, .none, .none, .str (PySem.Str.ofString "law_wn0126_01") 597, none, .ref 269, .none, 0⟩, List.toArray []⟩
noncomputable def h271 (P : Params) : Obj := ⟨.type "tuple", none, .seq (List.toArray []) 0, List.toArray []⟩
noncomputable def h272 (P : Params) : Obj := ⟨.none, none, .fields (List.toArray []), List.toArray []⟩
noncomputable def h273 (P : Params) : Obj := ⟨.none, none, .func ⟨(PySem.Str.ofString "_law_lines"), (PySem.Str.ofString "_law_lines"), argsOf (top 12), .stmts (bodyOf (top 12)), scopeOf (top 12), 0, [], .none, .none, .none, .none, none, .none, .none, 0⟩, List.toArray []⟩
noncomputable def h274 (P : Params) : Obj := ⟨.type "code", none, .fields (List.toArray [.str (PySem.Str.ofString "_law_lines") 611, .str (PySem.Str.ofString "_law_lines") 612, .str (PySem.Str.ofString "/claim/cut.py") 613, .int 458 0, .int 1 0, .int 0 0, .int 0 0, .int 3 0, .ref 271, .bool true, .int 181 0, .ref 272, .none, .none, .none, .ref 273, .int 614 0, .int 458 0, .str (PySem.Str.ofString "/claim/cut.py") 615]), List.toArray []⟩
noncomputable def h275 (P : Params) : Obj := ⟨.type "function", none, .func ⟨(PySem.Str.ofString "_law_lines"), (PySem.Str.ofString "_law_lines"), argsOf (top 12), .stmts (bodyOf (top 12)), scopeOf (top 12), 3, [], .none, .none, .none, .str (PySem.Str.ofString "law_wn0126_01") 597, none, .ref 274, .none, 0⟩, List.toArray []⟩
noncomputable def h276 (P : Params) : Obj := ⟨.type "tuple", none, .seq (List.toArray []) 0, List.toArray []⟩
noncomputable def h277 (P : Params) : Obj := ⟨.none, none, .fields (List.toArray []), List.toArray []⟩
noncomputable def h278 (P : Params) : Obj := ⟨.none, none, .func ⟨(PySem.Str.ofString "_law_table"), (PySem.Str.ofString "_law_table"), argsOf (top 13), .stmts (bodyOf (top 13)), scopeOf (top 13), 0, [], .none, .none, .none, .none, none, .none, .none, 0⟩, List.toArray []⟩
noncomputable def h279 (P : Params) : Obj := ⟨.type "code", none, .fields (List.toArray [.str (PySem.Str.ofString "_law_table") 617, .str (PySem.Str.ofString "_law_table") 618, .str (PySem.Str.ofString "/claim/cut.py") 619, .int 468 0, .int 1 0, .int 0 0, .int 0 0, .int 3 0, .ref 276, .bool true, .int 181 0, .ref 277, .none, .none, .none, .ref 278, .int 620 0, .int 468 0, .str (PySem.Str.ofString "/claim/cut.py") 621]), List.toArray []⟩
noncomputable def h280 (P : Params) : Obj := ⟨.type "function", none, .func ⟨(PySem.Str.ofString "_law_table"), (PySem.Str.ofString "_law_table"), argsOf (top 13), .stmts (bodyOf (top 13)), scopeOf (top 13), 3, [], .none, .none, .none, .str (PySem.Str.ofString "law_wn0126_01") 597, none, .ref 279, .none, 0⟩, List.toArray []⟩
noncomputable def h281 (P : Params) : Obj := ⟨.type "tuple", none, .seq (List.toArray []) 0, List.toArray []⟩
noncomputable def h282 (P : Params) : Obj := ⟨.none, none, .fields (List.toArray []), List.toArray []⟩
noncomputable def h283 (P : Params) : Obj := ⟨.none, none, .func ⟨(PySem.Str.ofString "law"), (PySem.Str.ofString "law"), argsOf (top 14), .stmts (bodyOf (top 14)), scopeOf (top 14), 0, [], .none, .none, .none, .none, none, .none, .none, 0⟩, List.toArray []⟩
noncomputable def h284 (P : Params) : Obj := ⟨.type "code", none, .fields (List.toArray [.str (PySem.Str.ofString "law") 623, .str (PySem.Str.ofString "law") 624, .str (PySem.Str.ofString "/claim/cut.py") 625, .int 482 0, .int 1 0, .int 0 0, .int 0 0, .int 3 0, .ref 281, .bool true, .int 181 0, .ref 282, .none, .none, .none, .ref 283, .int 626 0, .int 482 0, .str (PySem.Str.ofString "/claim/cut.py") 627]), List.toArray []⟩
noncomputable def h285 (P : Params) : Obj := ⟨.type "function", none, .func ⟨(PySem.Str.ofString "law"), (PySem.Str.ofString "law"), argsOf (top 14), .stmts (bodyOf (top 14)), scopeOf (top 14), 3, [], .none, .none, .none, .str (PySem.Str.ofString "law_wn0126_01") 597, none, .ref 284, .none, 0⟩, List.toArray []⟩
noncomputable def h12A (P : Params) : Obj := ⟨.none, none, .fields (List.toArray []), List.toArray []⟩
noncomputable def hpA (P : Params) : Heap := ⟨⟨[boot_o_0 P, boot_o_1 P, boot_o_2 P, boot_o_3 P, boot_o_4 P, boot_o_5 P, boot_o_6 P, boot_o_7 P, boot_o_8 P, boot_o_9 P, boot_o_10 P, h11 P, h12A P, h13 P, h14 P]⟩, {}⟩
noncomputable def h3B (P : Params) : Obj := ⟨.type "dict", none, .dict (List.toArray [⟨PyData.keyHash P (PySem.Str.ofString "__name__"), .str (PySem.Str.ofString "__name__") 165, .str (PySem.Str.ofString "cpy313.difflib") 194⟩, ⟨PyData.keyHash P (PySem.Str.ofString "__doc__"), .str (PySem.Str.ofString "__doc__") 166, .none⟩, ⟨PyData.keyHash P (PySem.Str.ofString "__package__"), .str (PySem.Str.ofString "__package__") 167, .none⟩, ⟨PyData.keyHash P (PySem.Str.ofString "__loader__"), .str (PySem.Str.ofString "__loader__") 168, .builtin "__main__.__loader__#opaque"⟩, ⟨PyData.keyHash P (PySem.Str.ofString "__spec__"), .str (PySem.Str.ofString "__spec__") 169, .none⟩, ⟨PyData.keyHash P (PySem.Str.ofString "__annotations__"), .str (PySem.Str.ofString "__annotations__") 170, .ref 6⟩, ⟨PyData.keyHash P (PySem.Str.ofString "__builtins__"), .str (PySem.Str.ofString "__builtins__") 171, .ref 4⟩, ⟨PyData.keyHash P (PySem.Str.ofString "__file__"), .str (PySem.Str.ofString "__file__") 173, .str (PySem.Str.ofString "/claim/cut.py") 172⟩, ⟨PyData.keyHash P (PySem.Str.ofString "__cached__"), .str (PySem.Str.ofString "__cached__") 174, .none⟩, ⟨PyData.keyHash P (PySem.Str.ofString "_wall"), .str (PySem.Str.ofString "_wall") 193, .ref 21⟩, ⟨PyData.keyHash P (PySem.Str.ofString "_tuplegetter"), .str (PySem.Str.ofString "_tuplegetter") 252, .ref 60⟩]) 11, List.toArray []⟩
noncomputable def h12B (P : Params) : Obj := ⟨.none, none, .fields (List.toArray [.int 1 0, .int 0 0, .ref 20, .int 5 0, .int 0 0, .ref 27]), List.toArray []⟩
noncomputable def hpB (P : Params) : Heap := ⟨⟨[boot_o_0 P, boot_o_1 P, boot_o_2 P, h3B P, boot_o_4 P, boot_o_5 P, boot_o_6 P, boot_o_7 P, boot_o_8 P, boot_o_9 P, boot_o_10 P, h11 P, h12B P, h13 P, h14 P, h15 P, h16 P, h17 P, h18 P, h19 P, h20 P, h21 P, h22 P, h23 P, h24 P, h25 P, h26 P, h27 P, h28 P, h29 P, h30 P, h31 P, h32 P, h33 P, h34 P, h35 P, h36 P, h37 P, h38 P, h39 P, h40 P, h41 P, h42 P, h43 P, h44 P, h45 P, h46 P, h47 P, h48 P, h49 P, h50 P, h51 P, h52 P, h53 P, h54 P, h55 P, h56 P, h57 P, h58 P, h59 P, h60 P, h61 P, h62 P, h63 P, h64 P]⟩, {}⟩
noncomputable def h3C (P : Params) : Obj := ⟨.type "dict", none, .dict (List.toArray [⟨PyData.keyHash P (PySem.Str.ofString "__name__"), .str (PySem.Str.ofString "__name__") 165, .str (PySem.Str.ofString "cpy313.difflib") 194⟩, ⟨PyData.keyHash P (PySem.Str.ofString "__doc__"), .str (PySem.Str.ofString "__doc__") 166, .none⟩, ⟨PyData.keyHash P (PySem.Str.ofString "__package__"), .str (PySem.Str.ofString "__package__") 167, .none⟩, ⟨PyData.keyHash P (PySem.Str.ofString "__loader__"), .str (PySem.Str.ofString "__loader__") 168, .builtin "__main__.__loader__#opaque"⟩, ⟨PyData.keyHash P (PySem.Str.ofString "__spec__"), .str (PySem.Str.ofString "__spec__") 169, .none⟩, ⟨PyData.keyHash P (PySem.Str.ofString "__annotations__"), .str (PySem.Str.ofString "__annotations__") 170, .ref 6⟩, ⟨PyData.keyHash P (PySem.Str.ofString "__builtins__"), .str (PySem.Str.ofString "__builtins__") 171, .ref 4⟩, ⟨PyData.keyHash P (PySem.Str.ofString "__file__"), .str (PySem.Str.ofString "__file__") 173, .str (PySem.Str.ofString "/claim/cut.py") 172⟩, ⟨PyData.keyHash P (PySem.Str.ofString "__cached__"), .str (PySem.Str.ofString "__cached__") 174, .none⟩, ⟨PyData.keyHash P (PySem.Str.ofString "_wall"), .str (PySem.Str.ofString "_wall") 193, .ref 21⟩, ⟨PyData.keyHash P (PySem.Str.ofString "_tuplegetter"), .str (PySem.Str.ofString "_tuplegetter") 252, .ref 60⟩, ⟨PyData.keyHash P (PySem.Str.ofString "Match"), .str (PySem.Str.ofString "Match") 380, .ref 135⟩]) 12, List.toArray []⟩
noncomputable def h12C (P : Params) : Obj := ⟨.none, none, .fields (List.toArray [.int 1 0, .int 0 0, .ref 20, .int 5 0, .int 0 0, .ref 27, .int 23 0, .int 0 0, .ref 71]), List.toArray []⟩
noncomputable def hpC (P : Params) : Heap := ⟨⟨[boot_o_0 P, boot_o_1 P, boot_o_2 P, h3C P, boot_o_4 P, boot_o_5 P, boot_o_6 P, boot_o_7 P, boot_o_8 P, boot_o_9 P, boot_o_10 P, h11 P, h12C P, h13 P, h14 P, h15 P, h16 P, h17 P, h18 P, h19 P, h20 P, h21 P, h22 P, h23 P, h24 P, h25 P, h26 P, h27 P, h28 P, h29 P, h30 P, h31 P, h32 P, h33 P, h34 P, h35 P, h36 P, h37 P, h38 P, h39 P, h40 P, h41 P, h42 P, h43 P, h44 P, h45 P, h46 P, h47 P, h48 P, h49 P, h50 P, h51 P, h52 P, h53 P, h54 P, h55 P, h56 P, h57 P, h58 P, h59 P, h60 P, h61 P, h62 P, h63 P, h64 P, h65 P, h66 P, h67 P, h68 P, h69 P, h70 P, h71 P, h72 P, h73 P, h74 P, h75 P, h76 P, h77 P, h78 P, h79 P, h80 P, h81 P, h82 P, h83 P, h84 P, h85 P, h86 P, h87 P, h88 P, h89 P, h90 P, h91 P, h92 P, h93 P, h94 P, h95 P, h96 P, h97 P, h98 P, h99 P, h100 P, h101 P, h102 P, h103 P, h104 P, h105 P, h106 P, h107 P, h108 P, h109 P, h110 P, h111 P, h112 P, h113 P, h114 P, h115 P, h116 P, h117 P, h118 P, h119 P, h120 P, h121 P, h122 P, h123 P, h124 P, h125 P, h126 P, h127 P, h128 P, h129 P, h130 P, h131 P, h132 P, h133 P, h134 P, h135 P, h136 P, h137 P, h138 P]⟩, {}⟩
noncomputable def h3D (P : Params) : Obj := ⟨.type "dict", none, .dict (List.toArray [⟨PyData.keyHash P (PySem.Str.ofString "__name__"), .str (PySem.Str.ofString "__name__") 165, .str (PySem.Str.ofString "cpy313.difflib") 194⟩, ⟨PyData.keyHash P (PySem.Str.ofString "__doc__"), .str (PySem.Str.ofString "__doc__") 166, .none⟩, ⟨PyData.keyHash P (PySem.Str.ofString "__package__"), .str (PySem.Str.ofString "__package__") 167, .none⟩, ⟨PyData.keyHash P (PySem.Str.ofString "__loader__"), .str (PySem.Str.ofString "__loader__") 168, .builtin "__main__.__loader__#opaque"⟩, ⟨PyData.keyHash P (PySem.Str.ofString "__spec__"), .str (PySem.Str.ofString "__spec__") 169, .none⟩, ⟨PyData.keyHash P (PySem.Str.ofString "__annotations__"), .str (PySem.Str.ofString "__annotations__") 170, .ref 6⟩, ⟨PyData.keyHash P (PySem.Str.ofString "__builtins__"), .str (PySem.Str.ofString "__builtins__") 171, .ref 4⟩, ⟨PyData.keyHash P (PySem.Str.ofString "__file__"), .str (PySem.Str.ofString "__file__") 173, .str (PySem.Str.ofString "/claim/cut.py") 172⟩, ⟨PyData.keyHash P (PySem.Str.ofString "__cached__"), .str (PySem.Str.ofString "__cached__") 174, .none⟩, ⟨PyData.keyHash P (PySem.Str.ofString "_wall"), .str (PySem.Str.ofString "_wall") 193, .ref 21⟩, ⟨PyData.keyHash P (PySem.Str.ofString "_tuplegetter"), .str (PySem.Str.ofString "_tuplegetter") 252, .ref 60⟩, ⟨PyData.keyHash P (PySem.Str.ofString "Match"), .str (PySem.Str.ofString "Match") 380, .ref 135⟩, ⟨PyData.keyHash P (PySem.Str.ofString "_calculate_ratio"), .str (PySem.Str.ofString "_calculate_ratio") 388, .ref 145⟩, ⟨PyData.keyHash P (PySem.Str.ofString "SequenceMatcher"), .str (PySem.Str.ofString "SequenceMatcher") 574, .ref 242⟩]) 14, List.toArray []⟩
noncomputable def h12D (P : Params) : Obj := ⟨.none, none, .fields (List.toArray [.int 1 0, .int 0 0, .ref 20, .int 5 0, .int 0 0, .ref 27, .int 23 0, .int 0 0, .ref 71, .int 66 0, .int 0 0, .ref 144, .int 70 0, .int 0 0, .ref 151]), List.toArray []⟩
noncomputable def hpD (P : Params) : Heap := ⟨⟨[boot_o_0 P, boot_o_1 P, boot_o_2 P, h3D P, boot_o_4 P, boot_o_5 P, boot_o_6 P, boot_o_7 P, boot_o_8 P, boot_o_9 P, boot_o_10 P, h11 P, h12D P, h13 P, h14 P, h15 P, h16 P, h17 P, h18 P, h19 P, h20 P, h21 P, h22 P, h23 P, h24 P, h25 P, h26 P, h27 P, h28 P, h29 P, h30 P, h31 P, h32 P, h33 P, h34 P, h35 P, h36 P, h37 P, h38 P, h39 P, h40 P, h41 P, h42 P, h43 P, h44 P, h45 P, h46 P, h47 P, h48 P, h49 P, h50 P, h51 P, h52 P, h53 P, h54 P, h55 P, h56 P, h57 P, h58 P, h59 P, h60 P, h61 P, h62 P, h63 P, h64 P, h65 P, h66 P, h67 P, h68 P, h69 P, h70 P, h71 P, h72 P, h73 P, h74 P, h75 P, h76 P, h77 P, h78 P, h79 P, h80 P, h81 P, h82 P, h83 P, h84 P, h85 P, h86 P, h87 P, h88 P, h89 P, h90 P, h91 P, h92 P, h93 P, h94 P, h95 P, h96 P, h97 P, h98 P, h99 P, h100 P, h101 P, h102 P, h103 P, h104 P, h105 P, h106 P, h107 P, h108 P, h109 P, h110 P, h111 P, h112 P, h113 P, h114 P, h115 P, h116 P, h117 P, h118 P, h119 P, h120 P, h121 P, h122 P, h123 P, h124 P, h125 P, h126 P, h127 P, h128 P, h129 P, h130 P, h131 P, h132 P, h133 P, h134 P, h135 P, h136 P, h137 P, h138 P, h139 P, h140 P, h141 P, h142 P, h143 P, h144 P, h145 P, h146 P, h147 P, h148 P, h149 P, h150 P, h151 P, h152 P, h153 P, h154 P, h155 P, h156 P, h157 P, h158 P, h159 P, h160 P, h161 P, h162 P, h163 P, h164 P, h165 P, h166 P, h167 P, h168 P, h169 P, h170 P, h171 P, h172 P, h173 P, h174 P, h175 P, h176 P, h177 P, h178 P, h179 P, h180 P, h181 P, h182 P, h183 P, h184 P, h185 P, h186 P, h187 P, h188 P, h189 P, h190 P, h191 P, h192 P, h193 P, h194 P, h195 P, h196 P, h197 P, h198 P, h199 P, h200 P, h201 P, h202 P, h203 P, h204 P, h205 P, h206 P, h207 P, h208 P, h209 P, h210 P, h211 P, h212 P, h213 P, h214 P, h215 P, h216 P, h217 P, h218 P, h219 P, h220 P, h221 P, h222 P, h223 P, h224 P, h225 P, h226 P, h227 P, h228 P, h229 P, h230 P, h231 P, h232 P, h233 P, h234 P, h235 P, h236 P, h237 P, h238 P, h239 P, h240 P, h241 P, h242 P, h243 P, h244 P, h245 P, h246 P]⟩, {}⟩
noncomputable def hpE (P : Params) : Heap := ⟨⟨[boot_o_0 P, boot_o_1 P, boot_o_2 P, h3 P, boot_o_4 P, boot_o_5 P, boot_o_6 P, boot_o_7 P, boot_o_8 P, boot_o_9 P, boot_o_10 P, h11 P, h12 P, h13 P, h14 P, h15 P, h16 P, h17 P, h18 P, h19 P, h20 P, h21 P, h22 P, h23 P, h24 P, h25 P, h26 P, h27 P, h28 P, h29 P, h30 P, h31 P, h32 P, h33 P, h34 P, h35 P, h36 P, h37 P, h38 P, h39 P, h40 P, h41 P, h42 P, h43 P, h44 P, h45 P, h46 P, h47 P, h48 P, h49 P, h50 P, h51 P, h52 P, h53 P, h54 P, h55 P, h56 P, h57 P, h58 P, h59 P, h60 P, h61 P, h62 P, h63 P, h64 P, h65 P, h66 P, h67 P, h68 P, h69 P, h70 P, h71 P, h72 P, h73 P, h74 P, h75 P, h76 P, h77 P, h78 P, h79 P, h80 P, h81 P, h82 P, h83 P, h84 P, h85 P, h86 P, h87 P, h88 P, h89 P, h90 P, h91 P, h92 P, h93 P, h94 P, h95 P, h96 P, h97 P, h98 P, h99 P, h100 P, h101 P, h102 P, h103 P, h104 P, h105 P, h106 P, h107 P, h108 P, h109 P, h110 P, h111 P, h112 P, h113 P, h114 P, h115 P, h116 P, h117 P, h118 P, h119 P, h120 P, h121 P, h122 P, h123 P, h124 P, h125 P, h126 P, h127 P, h128 P, h129 P, h130 P, h131 P, h132 P, h133 P, h134 P, h135 P, h136 P, h137 P, h138 P, h139 P, h140 P, h141 P, h142 P, h143 P, h144 P, h145 P, h146 P, h147 P, h148 P, h149 P, h150 P, h151 P, h152 P, h153 P, h154 P, h155 P, h156 P, h157 P, h158 P, h159 P, h160 P, h161 P, h162 P, h163 P, h164 P, h165 P, h166 P, h167 P, h168 P, h169 P, h170 P, h171 P, h172 P, h173 P, h174 P, h175 P, h176 P, h177 P, h178 P, h179 P, h180 P, h181 P, h182 P, h183 P, h184 P, h185 P, h186 P, h187 P, h188 P, h189 P, h190 P, h191 P, h192 P, h193 P, h194 P, h195 P, h196 P, h197 P, h198 P, h199 P, h200 P, h201 P, h202 P, h203 P, h204 P, h205 P, h206 P, h207 P, h208 P, h209 P, h210 P, h211 P, h212 P, h213 P, h214 P, h215 P, h216 P, h217 P, h218 P, h219 P, h220 P, h221 P, h222 P, h223 P, h224 P, h225 P, h226 P, h227 P, h228 P, h229 P, h230 P, h231 P, h232 P, h233 P, h234 P, h235 P, h236 P, h237 P, h238 P, h239 P, h240 P, h241 P, h242 P, h243 P, h244 P, h245 P, h246 P, h247 P, h248 P, h249 P, h250 P, h251 P, h252 P, h253 P, h254 P, h255 P, h256 P, h257 P, h258 P, h259 P, h260 P, h261 P, h262 P, h263 P, h264 P, h265 P, h266 P, h267 P, h268 P, h269 P, h270 P, h271 P, h272 P, h273 P, h274 P, h275 P, h276 P, h277 P, h278 P, h279 P, h280 P, h281 P, h282 P, h283 P, h284 P, h285 P]⟩, {}⟩
noncomputable def h67F (P : Params) : Obj := ⟨.type "dict", none, .dict (List.toArray [⟨PyData.keyHash P (PySem.Str.ofString "__module__"), .str (PySem.Str.ofString "__module__") 260, .str (PySem.Str.ofString "cpy313.difflib") 194⟩, ⟨PyData.keyHash P (PySem.Str.ofString "__qualname__"), .str (PySem.Str.ofString "__qualname__") 262, .str (PySem.Str.ofString "Match") 261⟩, ⟨PyData.keyHash P (PySem.Str.ofString "__firstlineno__"), .str (PySem.Str.ofString "__firstlineno__") 264, .int 23 263⟩, ⟨PyData.keyHash P (PySem.Str.ofString "__doc__"), .str (PySem.Str.ofString "__doc__") 266, .str (PySem.Str.ofString "Match(a, b, size)") 265⟩]) 4, List.toArray []⟩
noncomputable def h68F (P : Params) : Obj := ⟨.type "cell", none, .cell (none), List.toArray []⟩
noncomputable def hpF (P : Params) : Heap := ⟨⟨[boot_o_0 P, boot_o_1 P, boot_o_2 P, h3B P, boot_o_4 P, boot_o_5 P, boot_o_6 P, boot_o_7 P, boot_o_8 P, boot_o_9 P, boot_o_10 P, h11 P, h12C P, h13 P, h14 P, h15 P, h16 P, h17 P, h18 P, h19 P, h20 P, h21 P, h22 P, h23 P, h24 P, h25 P, h26 P, h27 P, h28 P, h29 P, h30 P, h31 P, h32 P, h33 P, h34 P, h35 P, h36 P, h37 P, h38 P, h39 P, h40 P, h41 P, h42 P, h43 P, h44 P, h45 P, h46 P, h47 P, h48 P, h49 P, h50 P, h51 P, h52 P, h53 P, h54 P, h55 P, h56 P, h57 P, h58 P, h59 P, h60 P, h61 P, h62 P, h63 P, h64 P, h65 P, h66 P, h67F P, h68F P, h69 P, h16 P, h71 P, h72 P]⟩, {}⟩
noncomputable def h67G (P : Params) : Obj := ⟨.type "dict", none, .dict (List.toArray [⟨PyData.keyHash P (PySem.Str.ofString "__module__"), .str (PySem.Str.ofString "__module__") 260, .str (PySem.Str.ofString "cpy313.difflib") 194⟩, ⟨PyData.keyHash P (PySem.Str.ofString "__qualname__"), .str (PySem.Str.ofString "__qualname__") 262, .str (PySem.Str.ofString "Match") 261⟩, ⟨PyData.keyHash P (PySem.Str.ofString "__firstlineno__"), .str (PySem.Str.ofString "__firstlineno__") 264, .int 23 263⟩, ⟨PyData.keyHash P (PySem.Str.ofString "__doc__"), .str (PySem.Str.ofString "__doc__") 266, .str (PySem.Str.ofString "Match(a, b, size)") 265⟩, ⟨PyData.keyHash P (PySem.Str.ofString "__slots__"), .str (PySem.Str.ofString "__slots__") 268, .ref 73⟩, ⟨PyData.keyHash P (PySem.Str.ofString "_fields"), .str (PySem.Str.ofString "_fields") 272, .ref 74⟩, ⟨PyData.keyHash P (PySem.Str.ofString "_field_defaults"), .str (PySem.Str.ofString "_field_defaults") 273, .ref 75⟩, ⟨PyData.keyHash P (PySem.Str.ofString "__new__"), .str (PySem.Str.ofString "__new__") 284, .ref 82⟩, ⟨PyData.keyHash P (PySem.Str.ofString "_make"), .str (PySem.Str.ofString "_make") 306, .ref 91⟩, ⟨PyData.keyHash P (PySem.Str.ofString "_replace"), .str (PySem.Str.ofString "_replace") 317, .ref 100⟩, ⟨PyData.keyHash P (PySem.Str.ofString "__replace__"), .str (PySem.Str.ofString "__replace__") 318, .ref 100⟩]) 11, List.toArray []⟩
noncomputable def h70G (P : Params) : Obj := ⟨.none, none, .fields (List.toArray [.int 29 0, .int 4 0, .ref 81, .int 34 0, .int 4 0, .ref 88, .int 41 0, .int 4 0, .ref 99]), List.toArray []⟩
noncomputable def hpG (P : Params) : Heap := ⟨⟨[boot_o_0 P, boot_o_1 P, boot_o_2 P, h3B P, boot_o_4 P, boot_o_5 P, boot_o_6 P, boot_o_7 P, boot_o_8 P, boot_o_9 P, boot_o_10 P, h11 P, h12C P, h13 P, h14 P, h15 P, h16 P, h17 P, h18 P, h19 P, h20 P, h21 P, h22 P, h23 P, h24 P, h25 P, h26 P, h27 P, h28 P, h29 P, h30 P, h31 P, h32 P, h33 P, h34 P, h35 P, h36 P, h37 P, h38 P, h39 P, h40 P, h41 P, h42 P, h43 P, h44 P, h45 P, h46 P, h47 P, h48 P, h49 P, h50 P, h51 P, h52 P, h53 P, h54 P, h55 P, h56 P, h57 P, h58 P, h59 P, h60 P, h61 P, h62 P, h63 P, h64 P, h65 P, h66 P, h67G P, h68F P, h69 P, h70G P, h71 P, h72 P, h73 P, h74 P, h75 P, h76 P, h77 P, h78 P, h79 P, h80 P, h81 P, h82 P, h83 P, h84 P, h85 P, h86 P, h87 P, h88 P, h89 P, h90 P, h91 P, h92 P, h93 P, h94 P, h95 P, h96 P, h97 P, h98 P, h99 P, h100 P]⟩, {}⟩
noncomputable def h67I (P : Params) : Obj := ⟨.type "dict", none, .dict (List.toArray [⟨PyData.keyHash P (PySem.Str.ofString "__module__"), .str (PySem.Str.ofString "__module__") 260, .str (PySem.Str.ofString "cpy313.difflib") 194⟩, ⟨PyData.keyHash P (PySem.Str.ofString "__qualname__"), .str (PySem.Str.ofString "__qualname__") 262, .str (PySem.Str.ofString "Match") 261⟩, ⟨PyData.keyHash P (PySem.Str.ofString "__firstlineno__"), .str (PySem.Str.ofString "__firstlineno__") 264, .int 23 263⟩, ⟨PyData.keyHash P (PySem.Str.ofString "__doc__"), .str (PySem.Str.ofString "__doc__") 266, .str (PySem.Str.ofString "Match(a, b, size)") 265⟩, ⟨PyData.keyHash P (PySem.Str.ofString "__slots__"), .str (PySem.Str.ofString "__slots__") 268, .ref 73⟩, ⟨PyData.keyHash P (PySem.Str.ofString "_fields"), .str (PySem.Str.ofString "_fields") 272, .ref 74⟩, ⟨PyData.keyHash P (PySem.Str.ofString "_field_defaults"), .str (PySem.Str.ofString "_field_defaults") 273, .ref 75⟩, ⟨PyData.keyHash P (PySem.Str.ofString "__new__"), .str (PySem.Str.ofString "__new__") 284, .ref 82⟩, ⟨PyData.keyHash P (PySem.Str.ofString "_make"), .str (PySem.Str.ofString "_make") 306, .ref 91⟩, ⟨PyData.keyHash P (PySem.Str.ofString "_replace"), .str (PySem.Str.ofString "_replace") 317, .ref 100⟩, ⟨PyData.keyHash P (PySem.Str.ofString "__replace__"), .str (PySem.Str.ofString "__replace__") 318, .ref 100⟩, ⟨PyData.keyHash P (PySem.Str.ofString "__repr__"), .str (PySem.Str.ofString "__repr__") 326, .ref 107⟩, ⟨PyData.keyHash P (PySem.Str.ofString "_asdict"), .str (PySem.Str.ofString "_asdict") 333, .ref 114⟩, ⟨PyData.keyHash P (PySem.Str.ofString "__getnewargs__"), .str (PySem.Str.ofString "__getnewargs__") 341, .ref 121⟩, ⟨PyData.keyHash P (PySem.Str.ofString "__match_args__"), .str (PySem.Str.ofString "__match_args__") 345, .ref 122⟩, ⟨PyData.keyHash P (PySem.Str.ofString "a"), .str (PySem.Str.ofString "a") 355, .ref 124⟩, ⟨PyData.keyHash P (PySem.Str.ofString "b"), .str (PySem.Str.ofString "b") 365, .ref 127⟩, ⟨PyData.keyHash P (PySem.Str.ofString "size"), .str (PySem.Str.ofString "size") 375, .ref 130⟩]) 18, List.toArray []⟩
noncomputable def hpI (P : Params) : Heap := ⟨⟨[boot_o_0 P, boot_o_1 P, boot_o_2 P, h3B P, boot_o_4 P, boot_o_5 P, boot_o_6 P, boot_o_7 P, boot_o_8 P, boot_o_9 P, boot_o_10 P, h11 P, h12C P, h13 P, h14 P, h15 P, h16 P, h17 P, h18 P, h19 P, h20 P, h21 P, h22 P, h23 P, h24 P, h25 P, h26 P, h27 P, h28 P, h29 P, h30 P, h31 P, h32 P, h33 P, h34 P, h35 P, h36 P, h37 P, h38 P, h39 P, h40 P, h41 P, h42 P, h43 P, h44 P, h45 P, h46 P, h47 P, h48 P, h49 P, h50 P, h51 P, h52 P, h53 P, h54 P, h55 P, h56 P, h57 P, h58 P, h59 P, h60 P, h61 P, h62 P, h63 P, h64 P, h65 P, h66 P, h67I P, h68F P, h69 P, h70 P, h71 P, h72 P, h73 P, h74 P, h75 P, h76 P, h77 P, h78 P, h79 P, h80 P, h81 P, h82 P, h83 P, h84 P, h85 P, h86 P, h87 P, h88 P, h89 P, h90 P, h91 P, h92 P, h93 P, h94 P, h95 P, h96 P, h97 P, h98 P, h99 P, h100 P, h101 P, h102 P, h103 P, h104 P, h105 P, h106 P, h107 P, h108 P, h109 P, h110 P, h111 P, h112 P, h113 P, h114 P, h115 P, h116 P, h117 P, h118 P, h119 P, h120 P, h121 P, h122 P, h123 P, h124 P, h125 P, h126 P, h127 P, h128 P, h129 P, h130 P, h131 P]⟩, {}⟩
noncomputable def h3J (P : Params) : Obj := ⟨.type "dict", none, .dict (List.toArray [⟨PyData.keyHash P (PySem.Str.ofString "__name__"), .str (PySem.Str.ofString "__name__") 165, .str (PySem.Str.ofString "cpy313.difflib") 194⟩, ⟨PyData.keyHash P (PySem.Str.ofString "__doc__"), .str (PySem.Str.ofString "__doc__") 166, .none⟩, ⟨PyData.keyHash P (PySem.Str.ofString "__package__"), .str (PySem.Str.ofString "__package__") 167, .none⟩, ⟨PyData.keyHash P (PySem.Str.ofString "__loader__"), .str (PySem.Str.ofString "__loader__") 168, .builtin "__main__.__loader__#opaque"⟩, ⟨PyData.keyHash P (PySem.Str.ofString "__spec__"), .str (PySem.Str.ofString "__spec__") 169, .none⟩, ⟨PyData.keyHash P (PySem.Str.ofString "__annotations__"), .str (PySem.Str.ofString "__annotations__") 170, .ref 6⟩, ⟨PyData.keyHash P (PySem.Str.ofString "__builtins__"), .str (PySem.Str.ofString "__builtins__") 171, .ref 4⟩, ⟨PyData.keyHash P (PySem.Str.ofString "__file__"), .str (PySem.Str.ofString "__file__") 173, .str (PySem.Str.ofString "/claim/cut.py") 172⟩, ⟨PyData.keyHash P (PySem.Str.ofString "__cached__"), .str (PySem.Str.ofString "__cached__") 174, .none⟩, ⟨PyData.keyHash P (PySem.Str.ofString "_wall"), .str (PySem.Str.ofString "_wall") 193, .ref 21⟩, ⟨PyData.keyHash P (PySem.Str.ofString "_tuplegetter"), .str (PySem.Str.ofString "_tuplegetter") 252, .ref 60⟩, ⟨PyData.keyHash P (PySem.Str.ofString "Match"), .str (PySem.Str.ofString "Match") 380, .ref 135⟩, ⟨PyData.keyHash P (PySem.Str.ofString "_calculate_ratio"), .str (PySem.Str.ofString "_calculate_ratio") 388, .ref 145⟩]) 13, List.toArray []⟩
noncomputable def h148J (P : Params) : Obj := ⟨.type "dict", none, .dict (List.toArray [⟨PyData.keyHash P (PySem.Str.ofString "__module__"), .str (PySem.Str.ofString "__module__") 396, .str (PySem.Str.ofString "cpy313.difflib") 194⟩, ⟨PyData.keyHash P (PySem.Str.ofString "__qualname__"), .str (PySem.Str.ofString "__qualname__") 398, .str (PySem.Str.ofString "SequenceMatcher") 397⟩, ⟨PyData.keyHash P (PySem.Str.ofString "__firstlineno__"), .str (PySem.Str.ofString "__firstlineno__") 400, .int 70 399⟩, ⟨PyData.keyHash P (PySem.Str.ofString "__doc__"), .str (PySem.Str.ofString "__doc__") 402, .str smDoc 401⟩]) 4, List.toArray []⟩
noncomputable def hpJ (P : Params) : Heap := ⟨⟨[boot_o_0 P, boot_o_1 P, boot_o_2 P, h3J P, boot_o_4 P, boot_o_5 P, boot_o_6 P, boot_o_7 P, boot_o_8 P, boot_o_9 P, boot_o_10 P, h11 P, h12D P, h13 P, h14 P, h15 P, h16 P, h17 P, h18 P, h19 P, h20 P, h21 P, h22 P, h23 P, h24 P, h25 P, h26 P, h27 P, h28 P, h29 P, h30 P, h31 P, h32 P, h33 P, h34 P, h35 P, h36 P, h37 P, h38 P, h39 P, h40 P, h41 P, h42 P, h43 P, h44 P, h45 P, h46 P, h47 P, h48 P, h49 P, h50 P, h51 P, h52 P, h53 P, h54 P, h55 P, h56 P, h57 P, h58 P, h59 P, h60 P, h61 P, h62 P, h63 P, h64 P, h65 P, h66 P, h67 P, h68 P, h69 P, h70 P, h71 P, h72 P, h73 P, h74 P, h75 P, h76 P, h77 P, h78 P, h79 P, h80 P, h81 P, h82 P, h83 P, h84 P, h85 P, h86 P, h87 P, h88 P, h89 P, h90 P, h91 P, h92 P, h93 P, h94 P, h95 P, h96 P, h97 P, h98 P, h99 P, h100 P, h101 P, h102 P, h103 P, h104 P, h105 P, h106 P, h107 P, h108 P, h109 P, h110 P, h111 P, h112 P, h113 P, h114 P, h115 P, h116 P, h117 P, h118 P, h119 P, h120 P, h121 P, h122 P, h123 P, h124 P, h125 P, h126 P, h127 P, h128 P, h129 P, h130 P, h131 P, h132 P, h133 P, h134 P, h135 P, h136 P, h137 P, h138 P, h139 P, h140 P, h141 P, h142 P, h143 P, h144 P, h145 P, h146 P, h147 P, h148J P, h149 P, h16 P, h151 P, h152 P]⟩, {}⟩
noncomputable def h148L (P : Params) : Obj := ⟨.type "dict", none, .dict (List.toArray [⟨PyData.keyHash P (PySem.Str.ofString "__module__"), .str (PySem.Str.ofString "__module__") 396, .str (PySem.Str.ofString "cpy313.difflib") 194⟩, ⟨PyData.keyHash P (PySem.Str.ofString "__qualname__"), .str (PySem.Str.ofString "__qualname__") 398, .str (PySem.Str.ofString "SequenceMatcher") 397⟩, ⟨PyData.keyHash P (PySem.Str.ofString "__firstlineno__"), .str (PySem.Str.ofString "__firstlineno__") 400, .int 70 399⟩, ⟨PyData.keyHash P (PySem.Str.ofString "__doc__"), .str (PySem.Str.ofString "__doc__") 402, .str smDoc 401⟩, ⟨PyData.keyHash P (PySem.Str.ofString "__init__"), .str (PySem.Str.ofString "__init__") 417, .ref 160⟩, ⟨PyData.keyHash P (PySem.Str.ofString "set_seqs"), .str (PySem.Str.ofString "set_seqs") 427, .ref 167⟩, ⟨PyData.keyHash P (PySem.Str.ofString "set_seq1"), .str (PySem.Str.ofString "set_seq1") 436, .ref 174⟩, ⟨PyData.keyHash P (PySem.Str.ofString "set_seq2"), .str (PySem.Str.ofString "set_seq2") 445, .ref 181⟩, ⟨PyData.keyHash P (PySem.Str.ofString "_SequenceMatcher__chain_b"), .str (PySem.Str.ofString "_SequenceMatcher__chain_b") 463, .ref 188⟩, ⟨PyData.keyHash P (PySem.Str.ofString "find_longest_match"), .str (PySem.Str.ofString "find_longest_match") 491, .ref 196⟩, ⟨PyData.keyHash P (PySem.Str.ofString "get_matching_blocks"), .str (PySem.Str.ofString "get_matching_blocks") 518, .ref 203⟩, ⟨PyData.keyHash P (PySem.Str.ofString "get_opcodes"), .str (PySem.Str.ofString "get_opcodes") 525, .ref 210⟩, ⟨PyData.keyHash P (PySem.Str.ofString "get_grouped_opcodes"), .str (PySem.Str.ofString "get_grouped_opcodes") 534, .ref 218⟩, ⟨PyData.keyHash P (PySem.Str.ofString "ratio"), .str (PySem.Str.ofString "ratio") 543, .ref 225⟩, ⟨PyData.keyHash P (PySem.Str.ofString "quick_ratio"), .str (PySem.Str.ofString "quick_ratio") 550, .ref 232⟩, ⟨PyData.keyHash P (PySem.Str.ofString "real_quick_ratio"), .str (PySem.Str.ofString "real_quick_ratio") 557, .ref 239⟩]) 16, List.toArray []⟩
noncomputable def hpL (P : Params) : Heap := ⟨⟨[boot_o_0 P, boot_o_1 P, boot_o_2 P, h3J P, boot_o_4 P, boot_o_5 P, boot_o_6 P, boot_o_7 P, boot_o_8 P, boot_o_9 P, boot_o_10 P, h11 P, h12D P, h13 P, h14 P, h15 P, h16 P, h17 P, h18 P, h19 P, h20 P, h21 P, h22 P, h23 P, h24 P, h25 P, h26 P, h27 P, h28 P, h29 P, h30 P, h31 P, h32 P, h33 P, h34 P, h35 P, h36 P, h37 P, h38 P, h39 P, h40 P, h41 P, h42 P, h43 P, h44 P, h45 P, h46 P, h47 P, h48 P, h49 P, h50 P, h51 P, h52 P, h53 P, h54 P, h55 P, h56 P, h57 P, h58 P, h59 P, h60 P, h61 P, h62 P, h63 P, h64 P, h65 P, h66 P, h67 P, h68 P, h69 P, h70 P, h71 P, h72 P, h73 P, h74 P, h75 P, h76 P, h77 P, h78 P, h79 P, h80 P, h81 P, h82 P, h83 P, h84 P, h85 P, h86 P, h87 P, h88 P, h89 P, h90 P, h91 P, h92 P, h93 P, h94 P, h95 P, h96 P, h97 P, h98 P, h99 P, h100 P, h101 P, h102 P, h103 P, h104 P, h105 P, h106 P, h107 P, h108 P, h109 P, h110 P, h111 P, h112 P, h113 P, h114 P, h115 P, h116 P, h117 P, h118 P, h119 P, h120 P, h121 P, h122 P, h123 P, h124 P, h125 P, h126 P, h127 P, h128 P, h129 P, h130 P, h131 P, h132 P, h133 P, h134 P, h135 P, h136 P, h137 P, h138 P, h139 P, h140 P, h141 P, h142 P, h143 P, h144 P, h145 P, h146 P, h147 P, h148L P, h149 P, h150 P, h151 P, h152 P, h153 P, h154 P, h155 P, h156 P, h157 P, h158 P, h159 P, h160 P, h161 P, h162 P, h163 P, h164 P, h165 P, h166 P, h167 P, h168 P, h169 P, h170 P, h171 P, h172 P, h173 P, h174 P, h175 P, h176 P, h177 P, h178 P, h179 P, h180 P, h181 P, h182 P, h183 P, h184 P, h185 P, h186 P, h187 P, h188 P, h189 P, h190 P, h191 P, h192 P, h193 P, h194 P, h195 P, h196 P, h197 P, h198 P, h199 P, h200 P, h201 P, h202 P, h203 P, h204 P, h205 P, h206 P, h207 P, h208 P, h209 P, h210 P, h211 P, h212 P, h213 P, h214 P, h215 P, h216 P, h217 P, h218 P, h219 P, h220 P, h221 P, h222 P, h223 P, h224 P, h225 P, h226 P, h227 P, h228 P, h229 P, h230 P, h231 P, h232 P, h233 P, h234 P, h235 P, h236 P, h237 P, h238 P, h239 P]⟩, {}⟩
noncomputable def hdEnv : Env := { scope := pwL.main.scope, locals := 3, globals := 3, cells := [], code := .ref 13, frame := some 14 }
noncomputable abbrev hdR5 : List Stmt := [top 6, top 7, top 8, top 9, top 10, top 11, top 12, top 13, top 14] ++ []
noncomputable abbrev hdR3 : List Stmt := [top 4, top5] ++ hdR5
noncomputable abbrev hdBody : List Stmt := [top 0, top 1, top 2] ++ ([top 3] ++ hdR3)
noncomputable def hdCode : Code := .body hdBody hdEnv
noncomputable abbrev hdS (h : Params → Heap) (k : Nat) (w : World) (os : OsState) : Shared := ⟨h w.params, Array.mk [], boot_drawn, k, os⟩
noncomputable abbrev hdAnn : Option Value := some (.ref 6)
noncomputable abbrev hdZ : Pos := ⟨0, 0, 0, 0⟩
noncomputable def scopeC : Stmt → Scope
  | .ClassDef _ _ _ _ _ _ s _ _ _ _ => s
  | _ => ⟨.module, [], false, false, []⟩
noncomputable def retK : List Frame → Result → Sem Fin
  | .ret k _ _ _ _ _ _ :: _ => k
  | _ => fun _ => .unsupported ""
noncomputable abbrev insideOf (b : List Stmt) (env : Env) : Sem Fin := ((execs b env).onRaise (leaving env)).bind fun f => (Sem.pure (Fin.done f) : Sem Fin)
theorem inside_rest (b : List Stmt) (env : Env) (c : Code) (p : Pos) (B : List Frame) : (⟨insideOf b env, c, p, B⟩ : Thread) = restOf b env c p B := by
  unfold insideOf restOf
  rw [Sem.bind_eq_wrap, Sem.onRaise_eq_wrap, Sem.wrap_wrap]
  rfl
/-- a stretch of a class's body, above any frames of plain calls -/
theorem pieces_in {tb : String → Option Builtin} {p : Program} {w : World} {n₀ : Nat} {ann : Option Value} {env : Env} {B : List Frame} (hB : splitAtGen B = none) {n N : Nat} {s s' r : Shared} {l rest : List Stmt} {c : Code} {pos p' : Pos}
    (h : segRun tb p w n₀ ann B.length n s (piecesOf l env c pos B) = some (.next, s', c, p')) (k : topRun tb p w n₀ ann N s' (restOf rest env c p' B) = some r) :
    topRun tb p w n₀ ann (n + N) s (restOf (l ++ rest) env c pos B) = some r := by
  have e : restOf (l ++ rest) env c pos B = ⟨(execs l env).wrap (fun f => match f with | .next => (execs rest env).wrap doneF (leaveH env) id id | f => doneF f) (leaveH env) id id, c, pos, B⟩ :=
    congrArg (fun x => Thread.mk x c pos B) (execs_app_wrap l rest doneF (leaveH env) id id)
  rw [e]
  obtain ⟨a, ha, hN⟩ := seg_top (res := id) (K' := fun f => match f with | .next => (execs rest env).wrap doneF (leaveH env) id id | f => doneF f) (H' := leaveH env) hB n s (piecesOf l env c pos B) ⟨(execs l env).wrap (fun f => match f with | .next => (execs rest env).wrap doneF (leaveH env) id id | f => doneF f) (leaveH env) id id, c, pos, B⟩ _ _ _ _ ⟨rfl, rfl, .inl ⟨rfl, rfl, _, rfl, rfl⟩⟩ h
  cases (show a = Flow.next from ha)
  exact hN N r k
theorem hd_pre (w : World) (os : OsState) : topGo tbL pwL w 11 hdAnn 12 (hdS boot_heap boot_toks w os) (topStub pwL) = some (hdS hpA 187 w os, ⟨denote tbL (.body hdBody hdEnv), hdCode, hdZ, [topFrame hdZ]⟩) := by
  kernel_rfl
theorem hd_block (w : World) (os : OsState) : segRun tbL pwL w 11 hdAnn 1 1 (hdS hpA 187 w os) (blockOf hdBody hdEnv hdCode hdZ [topFrame hdZ]) = some (.next, hdS hpA 187 w os, hdCode, hdZ) := by
  kernel_rfl
theorem hd_p1 (w : World) (os : OsState) : segRun tbL pwL w 11 hdAnn 1 400 (hdS hpA 187 w os) (piecesOf [top 0, top 1, top 2] hdEnv hdCode hdZ [topFrame hdZ]) = some (.next, hdS hpB 253 w os, hdCode, ⟨5, 0, 22, 54⟩) := by
  kernel_rfl
noncomputable abbrev hdT3 : Thread := restOf ([top 3] ++ hdR3) hdEnv hdCode ⟨5, 0, 22, 54⟩ [topFrame hdZ]
noncomputable def mEnv : Env := { scope := scopeC (top 3), locals := 67, globals := 3, cells := [(PySem.Str.ofString "__class__", 68)], qual := PySem.Str.ofString "Match.", code := .ref 71, frame := some 72 }
noncomputable abbrev mBody : List Stmt := [inn 3 0, inn 3 1, inn 3 2, inn 3 3, inn 3 4, inn 3 5, inn 3 6, inn 3 7] ++ ([inn 3 8, inn 3 9, inn 3 10, inn 3 11, inn 3 12, inn 3 13, inn 3 14] ++ [])
noncomputable def mCode : Code := .body mBody mEnv
noncomputable def mK (w : World) (os : OsState) : Result → Sem Fin := retK (((topGo tbL pwL w 11 hdAnn 69 (hdS hpB 253 w os) hdT3).map fun x => x.2.stack).getD [])
noncomputable abbrev mB (w : World) (os : OsState) : List Frame := [.ret (mK w os) none false [.ref 65, .ref 65, .ref 67, .ref 72, .ref 68] hdCode ⟨23, 0, 65, 54⟩ [], topFrame hdZ]
theorem hd_m0 (w : World) (os : OsState) : topGo tbL pwL w 11 hdAnn 69 (hdS hpB 253 w os) hdT3 = some (hdS hpF 267 w os, ⟨insideOf mBody mEnv, mCode, ⟨23, 0, 65, 54⟩, mB w os⟩) := by
  kernel_rfl
theorem hd_m1 (w : World) (os : OsState) : segRun tbL pwL w 11 hdAnn 2 300 (hdS hpF 267 w os) (piecesOf [inn 3 0, inn 3 1, inn 3 2, inn 3 3, inn 3 4, inn 3 5, inn 3 6, inn 3 7] mEnv mCode ⟨23, 0, 65, 54⟩ (mB w os)) = some (.next, hdS hpG 319 w os, mCode, ⟨50, 4, 50, 15⟩) := by
  kernel_rfl
theorem hd_m2 (w : World) (os : OsState) : segRun tbL pwL w 11 hdAnn 2 540 (hdS hpG 319 w os) (piecesOf [inn 3 8, inn 3 9, inn 3 10, inn 3 11, inn 3 12, inn 3 13, inn 3 14] mEnv mCode ⟨50, 4, 50, 15⟩ (mB w os)) = some (.next, hdS hpI 376 w os, mCode, ⟨65, 4, 65, 8⟩) := by
  kernel_rfl
theorem hd_m3 (w : World) (os : OsState) : topGo tbL pwL w 11 hdAnn 167 (hdS hpI 376 w os) ⟨doneF .next, mCode, ⟨65, 4, 65, 8⟩, mB w os⟩ = some (hdS hpC 381 w os, restOf hdR3 hdEnv hdCode ⟨23, 0, 65, 54⟩ [topFrame hdZ]) := by
  kernel_rfl
noncomputable abbrev hdT5 : Thread := restOf ([top 4, top5] ++ hdR5) hdEnv hdCode ⟨23, 0, 65, 54⟩ [topFrame hdZ]
noncomputable def sEnv : Env := { scope := scopeC (top 5), locals := 148, globals := 3, cells := [], qual := PySem.Str.ofString "SequenceMatcher.", code := .ref 151, frame := some 152 }
noncomputable abbrev sL : List Stmt := [nth (bodyOf top5) 0, inn 5 1, inn 5 2, inn 5 3, inn 5 4, inn 5 5, inn 5 6, inn 5 7, inn 5 8, inn 5 9, inn 5 10, inn 5 11, inn 5 12]
noncomputable abbrev sBody : List Stmt := sL ++ []
noncomputable def sCode : Code := .body sBody sEnv
noncomputable def sK (w : World) (os : OsState) : Result → Sem Fin := retK (((topGo tbL pwL w 11 hdAnn 95 (hdS hpC 381 w os) hdT5).map fun x => x.2.stack).getD [])
noncomputable abbrev sB (w : World) (os : OsState) : List Frame := [.ret (sK w os) none false [.ref 146, .ref 146, .ref 148, .ref 152] hdCode ⟨70, 0, 417, 16⟩ [], topFrame hdZ]
theorem hd_s0 (w : World) (os : OsState) : topGo tbL pwL w 11 hdAnn 95 (hdS hpC 381 w os) hdT5 = some (hdS hpJ 403 w os, ⟨insideOf sBody sEnv, sCode, ⟨70, 0, 417, 16⟩, sB w os⟩) := by
  kernel_rfl
theorem hd_s1 (w : World) (os : OsState) : segRun tbL pwL w 11 hdAnn 2 450 (hdS hpJ 403 w os) (piecesOf sL sEnv sCode ⟨70, 0, 417, 16⟩ (sB w os)) = some (.next, hdS hpL 558 w os, sCode, ⟨416, 4, 417, 16⟩) := by
  kernel_rfl
theorem hd_s2 (w : World) (os : OsState) : topGo tbL pwL w 11 hdAnn 148 (hdS hpL 558 w os) ⟨doneF .next, sCode, ⟨416, 4, 417, 16⟩, sB w os⟩ = some (hdS hpD 575 w os, restOf hdR5 hdEnv hdCode ⟨70, 0, 417, 16⟩ [topFrame hdZ]) := by
  kernel_rfl
theorem hd_p4 (w : World) (os : OsState) : segRun tbL pwL w 11 hdAnn 1 400 (hdS hpD 575 w os) (piecesOf [top 6, top 7, top 8, top 9, top 10, top 11, top 12, top 13, top 14] hdEnv hdCode ⟨70, 0, 417, 16⟩ [topFrame hdZ]) = some (.next, hdS hpE 629 w os, hdCode, ⟨482, 0, 498, 112⟩) := by
  kernel_rfl
theorem hd_fin (w : World) (os : OsState) : topRun tbL pwL w 11 hdAnn 3 (hdS hpE 629 w os) ⟨doneF .next, hdCode, ⟨482, 0, 498, 112⟩, [topFrame hdZ]⟩ = some (hdS hpE 629 w os) := by
  kernel_rfl
theorem hd_top (w : World) (os : OsState) : topRun tbL pwL w 11 hdAnn (12 + (1 + (400 + (69 + (300 + (540 + (167 + (95 + (450 + (148 + (400 + 3))))))))))) (hdS boot_heap boot_toks w os) (topStub pwL) = some (hdS hpE 629 w os) := by
  have z4 := piece_app (rest := []) (hd_p4 w os) (piece_nil (hd_fin w os))
  have s2 := go_top (hd_s2 w os) z4
  have s1 := pieces_in (B := sB w os) (rest := []) rfl (hd_s1 w os) s2
  rw [← inside_rest] at s1
  have s0 := go_top (hd_s0 w os) s1
  have m3 := go_top (hd_m3 w os) s0
  have m2 := pieces_in (B := mB w os) (rest := []) rfl (hd_m2 w os) m3
  have m1 := pieces_in (B := mB w os) rfl (hd_m1 w os) m2
  rw [← inside_rest] at m1
  have z2 := go_top (hd_m0 w os) m1
  have z1 := piece_app (hd_p1 w os) z2
  have z0 := piece_block (hd_block w os) z1
  exact go_top (hd_pre w os) z0
theorem hd_all (w : World) (os : OsState) : topRun tbL pwL w 11 hdAnn 4720 (hdS boot_heap boot_toks w os) (topStub pwL) = some (hdS hpE 629 w os) := by
  have h := topRun_mono 2135 _ _ _ _ (hd_top w os)
  rw [show 12 + (1 + (400 + (69 + (300 + (540 + (167 + (95 + (450 + (148 + (400 + 3)))))))))) + 2135 = 4720 from rfl] at h
  exact h
end Mine
end
section
open PySem PySem.W PyProof.Rows Mine PySem.Calls
set_option maxRecDepth 1000000
namespace Mine
noncomputable abbrev XtL (qq : Program) (s : Shared) : Bool := xlAt qq [] s && recOk (RowW.records (OpenRow.toRowW (OpenLaw.row PySem.Challenge.rw_wn0126_01))) s
noncomputable abbrev seenL (s : Shared) := (openSeen qL loose (importedModules pwL.main.body) (XtL qL) true s, as.map s.heap.get?)
theorem LeftO.of_boot {p q : Program} {loose : List Str} {Xt : Shared → Bool} {α : Type} {Yf : Shared → α} {Ya : World → α} {N : Nat} {g0 : Bool}
    (e : opening p = plainProg p.main.scope.names) (hN : Nat.ble 600 N = true) (f : ∀ s, fenceModules? p s = some s)
    (h : ∀ (w : World) (os : OsState), (topFrom treeTable p w N ⟨boot_heap w.params, Array.mk [], boot_drawn, boot_toks, os⟩).map (fun s => (openSeen q loose (importedModules p.main.body) Xt g0 s, Yf s)) = some (openGood q loose, Ya w)) :
    LeftO p q loose Xt Yf Ya N g0 := fun w => by
  obtain ⟨⟨h', gs, d, k, os⟩, e1, e2⟩ := Option.map_eq_some_iff.mp (boot_open (N := N) e hN f w)
  obtain ⟨rfl, rfl, rfl, rfl⟩ : h' = boot_heap w.params ∧ gs = Array.mk [] ∧ d = boot_drawn ∧ k = boot_toks := by simpa using e2
  unfold openEnds
  rw [e1]
  exact h w os
theorem hd_size (P : Params) : ((boot_heap P).isNs mainGlobals && (Array.mk [] : Array GenState).size == 0, (boot_heap P).objs.size, (boot_heap P).nsMap mainGlobals "__annotations__") = (true, 11, hdAnn) := by
  kernel_rfl
theorem hd_kept (w : World) (os : OsState) : (staticsOk (importedModules pwL.main.body) (boot_heap w.params) (hpE w.params) && namesBound pwL (hpE w.params) && gensDone (hdS hpE 629 w os) && laidKept (boot_heap w.params) (hpE w.params)) = true := by
  kernel_rfl
theorem hd_seen (w : World) (os : OsState) : seenL (hdS hpE 629 w os) = (openGood qL loose, (KL w.params).map fun p => some p.2) := by
  kernel_rfl
theorem head_run (w : World) (os : OsState) : (topFrom tbL pwL w 4720 ⟨boot_heap w.params, Array.mk [], boot_drawn, boot_toks, os⟩).map seenL = some (openGood qL loose, (KL w.params).map fun p => some p.2) := by
  obtain ⟨z1, z2, z3⟩ : _ ∧ _ ∧ _ := by simpa only [Prod.mk.injEq] using hd_size w.params
  have t : topFrom tbL pwL w 4720 ⟨boot_heap w.params, Array.mk [], boot_drawn, boot_toks, os⟩ = some (hdS hpE 629 w os) := by
    unfold topFrom
    dsimp only
    rw [z1, z2, z3, hd_all w os]
    show (match staticsOk (importedModules pwL.main.body) (boot_heap w.params) (hpE w.params) && namesBound pwL (hpE w.params) && gensDone (hdS hpE 629 w os) && laidKept (boot_heap w.params) (hpE w.params) with | true => _ | false => _) = _
    rw [hd_kept w os]
  rw [t]
  exact congrArg some (hd_seen w os)
end Mine
end
section
open PySem PySem.W PyProof.Rows Mine PySem.Calls
set_option maxRecDepth 1000000
namespace Mine
noncomputable def H : Hook := kHook K as (fun _ => by kernel_rfl)
theorem head_open : opening pw = plainProg pw.main.scope.names := by kernel_rfl
theorem head_fence (s : Shared) : fenceModules? pw s = some s := by kernel_rfl
theorem head_run' (w : World) (os : OsState) : (topFrom treeTable pw w 4720 ⟨boot_heap w.params, Array.mk [], boot_drawn, boot_toks, os⟩).map (fun s => (openSeen q loose (importedModules pw.main.body) (XtL q) true s, as.map s.heap.get?)) = some (openGood q loose, (K w.params).map fun p => some p.2) := by
  have h := head_run w os
  unfold seenL at h
  rw [← tbL_eq, ← pwL_eq, ← qL_eq, ← KL_eq] at h
  exact h
theorem head_left : LeftO pw q loose (XtL q) (Hook.obs H) (Hook.val H) 4720 :=
  LeftO.of_boot head_open (by decide) head_fence head_run'
end Mine
end
section
open PySem PySem.W PyProof.Rows Mine PySem.Calls PySem.Spec PySem.Challenge
set_option maxRecDepth 1000000
namespace Mine
theorem ws_and {a b : Bool} (h : a = true) (k : b = true) : (a && b) = true := by rw [h, k]; rfl
theorem law_said : OpenLaw.wellSaid rw_wn0126_01 = true := by
  unfold OpenLaw.wellSaid OpenRow.wellSaid OpenRow.partSaid looksOpen
  repeat' (with_reducible refine ws_and ?_ ?_)
  all_goals decide +kernel
end Mine
end
open PySem PySem.W PyProof.Rows Mine PySem.Calls PySem.Spec PySem.Challenge
local macro_rules | `(tactic| walk_at $s:str) => `(tactic| k_extra $s)
section
open PySem PySem.W PyProof.Rows Mine PySem.Calls PySem.Spec
set_option maxRecDepth 100000
namespace Mine
theorem up_lt {a k n N : Nat} (H : a + n < N) (h : k ≤ n) : a + k < N := Nat.lt_of_le_of_lt (Nat.add_le_add_left h a) H
theorem up_le {a b N : Nat} (H : a < b) (h : b ≤ N) : a ≤ N := Nat.le_of_lt (Nat.lt_of_lt_of_le H h)
/-- names that a frame's map tells -/
def Cst (ps : List (Str × Value)) (m : Str → Option Value) : Prop := ∀ p ∈ ps, m p.1 = some p.2
theorem cst_nil {m : Str → Option Value} : Cst [] m := fun _ h => nomatch h
theorem cst_cons {m : Str → Option Value} {n : Str} {v : Value} {ps : List (Str × Value)} (h : some v = m n) (t : Cst ps m) : Cst ((n, v) :: ps) m := List.forall_mem_cons.mpr ⟨h.symm, t⟩
noncomputable abbrev setObj (_n : Nat) (t : SetTable) : Obj := { cls := .type "set", data := .set #[] 0 (.fresh 0 0 t.led) }
noncomputable abbrev bmObj (id : String) (a : Addr) : Obj := { cls := .type "builtin_function_or_method", data := .fields #[.builtin id, .ref a] }
noncomputable abbrev mtObj (i j k : Int) (t u : Tok) (v : Tok × Addr) : Obj := { cls := .ref 135, dict := some v.2, data := .seq #[.int i t, .int j u, .int k v.1] }
/-- a stop for the walk -/
noncomputable def Stop (P : Prop) : Prop := P
theorem Stop.mk {P : Prop} (h : Stop P) : P := h
theorem Stop.on {P : Prop} (h : P) : Stop P := h
theorem allLt_ne {d : Addr} : ∀ {l : List (Addr × Obj)}, AllLt d l → ∀ p ∈ l, p.1 ≠ d
  | [], _, _, h => nomatch h
  | _ :: _, x, p, h => by
    rcases List.mem_cons.mp h with rfl | h
    · exact Nat.ne_of_lt x.1
    · exact allLt_ne x.2 p h
inductive Del (I : Addr) (it : Obj) : List (Addr × Obj) → List (Addr × Obj) → Prop
  | head {r} : Del I it ((I, it) :: r) r
  | tail {p r r'} : Del I it r r' → Del I it (p :: r) (p :: r')
theorem Del.sub {I : Addr} {it : Obj} : ∀ {l l' : List (Addr × Obj)}, Del I it l l' → ∀ p ∈ (I, it) :: l', p ∈ l
  | _, _, .head, p, h => h
  | _, _, .tail d, p, h => by
    rcases List.mem_cons.mp h with rfl | h
    · exact .tail _ (d.sub _ (.head _))
    · rcases List.mem_cons.mp h with rfl | h
      · exact .head _
      · exact .tail _ (d.sub _ (.tail _ h))
theorem unr_del {h₀ : Heap} {L I : Addr} {it : Obj} {rest : (Str → Option Value) → List (Addr × Obj) → Prop} {s₁ : Shared} {h' : Heap} {tk : Nat} {m' : Str → Option Value} {all l' : List (Addr × Obj)}
    (F : Fr h₀ L h' m') (N : News h₀ L h' all) (d : Del I it all l') (off : ∀ p ∈ l', p.1 ≠ I) (r : rest m' l') : UnrEnd h₀ L s₁ I it rest { s₁ with heap := h', toks := tk } :=
  UnrEnd.intro F N l' d.sub off r
noncomputable def All2 {α : Type} (R : Value → α → Prop) : List Value → List α → Prop
  | [], [] => True
  | v :: vs, x :: xs => R v x ∧ All2 R vs xs
  | _, _ => False
theorem All2.mono {α : Type} {R R' : Value → α → Prop} (h : ∀ v x, R v x → R' v x) : ∀ {vs : List Value} {xs : List α}, All2 R vs xs → All2 R' vs xs
  | [], [], _ => trivial
  | _ :: _, _ :: _, ⟨a, b⟩ => ⟨h _ _ a, All2.mono h b⟩
  | [], _ :: _, x => x.elim
  | _ :: _, [], x => x.elim
theorem All2.length {α : Type} {R : Value → α → Prop} : ∀ {vs : List Value} {xs : List α}, All2 R vs xs → vs.length = xs.length
  | [], [], _ => rfl
  | _ :: _, _ :: _, ⟨_, b⟩ => congrArg (· + 1) b.length
  | [], _ :: _, x => x.elim
  | _ :: _, [], x => x.elim
theorem All2.append {α : Type} {R : Value → α → Prop} : ∀ {vs ws : List Value} {xs ys : List α}, All2 R vs xs → All2 R ws ys → All2 R (vs ++ ws) (xs ++ ys)
  | [], _, [], _, _, h => h
  | _ :: _, _, _ :: _, _, ⟨a, b⟩, h => ⟨a, All2.append b h⟩
  | [], _, _ :: _, _, x, _ => x.elim
  | _ :: _, _, [], _, x, _ => x.elim
theorem All2.get {α : Type} {R : Value → α → Prop} : ∀ {vs : List Value} {xs : List α}, All2 R vs xs → ∀ {i : Nat} {x : α}, xs[i]? = some x → ∃ v, vs[i]? = some v ∧ R v x
  | [], [], _, _, _, e => by simp at e
  | v :: _, _ :: _, ⟨a, b⟩, i, x, e => by
    cases i with
    | zero => simp only [List.getElem?_cons_zero] at e ⊢; cases e; exact ⟨v, rfl, a⟩
    | succ i => simp only [List.getElem?_cons_succ] at e ⊢; exact All2.get b e
  | [], _ :: _, x, _, _, _ => x.elim
  | _ :: _, [], x, _, _, _ => x.elim
section
variable {prog : Program} {w : World} {A : Around} {E : Value → Shared → Prop} {s : Shared} {h₀ : Heap} {L : Addr} {m : Str → Option Value} {news : List (Addr × Obj)} {Q : Value → Shared → Prop}
theorem size_up (a b : Nat) (h : a ≤ b) : Builtin.Range.rangeSize (a : Int) (b : Int) 1 = ((b - a : Nat) : Int) := by
  unfold Builtin.Range.rangeSize
  simp only [show ((1 : Int) > 0) by decide, if_true]
  split <;> omega
theorem small_up {a b : Int} (ha : -(2 ^ 62) ≤ a) (ha' : a < 2 ^ 62) (hb : -(2 ^ 62) ≤ b) (hb' : b < 2 ^ 62) : Builtin.Range.small a b 1 = true := by
  unfold Builtin.Range.small Builtin.Range.rangeSize
  simp only [Builtin.Range.rangeFitsLong, Bool.and_eq_true, Bool.or_eq_true, decide_eq_true_eq, beq_iff_eq, show ((1 : Int) > 0) by decide, if_true]
  split <;> omega
theorem lf_truthy_cons {a : Addr} {n : Nat} {xs : List Value} {v : Value} {Q : Bool → Shared → Prop} (N : News h₀ L s.heap news) (hm : (a, listOf (xs ++ [v]).toArray n) ∈ news) (hfit : xs.length < 1000000) (h : ∀ tk, Q true { s with toks := tk }) : wpAny (model prog w) A (truthy (.ref a)) Q E s := by
  refine kgr_truthy N hm rfl rfl (by simp only [List.length_append, List.length_cons, List.length_nil]; omega) ?_
  have e : (!(xs ++ [v]).isEmpty) = true := by simp
  rw [e]
  exact h _
theorem lf_truthy_nil {a : Addr} {n : Nat} {Q : Bool → Shared → Prop} (N : News h₀ L s.heap news) (hm : (a, listOf #[] n) ∈ news) (h : ∀ tk, Q false { s with toks := tk }) : wpAny (model prog w) A (truthy (.ref a)) Q E s :=
  kgr_truthy (vs := []) N hm rfl rfl (by decide) (h _)
theorem lf_item {l : Addr} {vs : List Value} {n : Nat} {k : Int} {u : Tok} {v : Value} {value slice : Expr} (N : News h₀ L s.heap news) (hm : (l, listOf vs.toArray n) ∈ news) (h0 : 0 ≤ k) (hhi : k < 2 ^ 63) (hx : vs[k.toNat]? = some v) (h : Q v s)
    (hs : subscripted slice false (.ref l) (.int k u) = operate [.ref l, .int k u] (getItem (.ref l) (.int k u)) := by with_unfolding_all rfl) :
    wpAny (model prog w) A (subscriptTail value slice (.ref l) (.int k u)) Q E s :=
  have hl : s.heap.IsList l vs.toArray := ⟨_, (N _ hm).1, rfl, _, rfl⟩
  tail_any hl.typeIs slot_list_getitem.lookup (wpAny_getItem_list hl h0 hhi (by simpa using hx) h) hs
end
end Mine
end
local macro_rules | `(tactic| walk_at "om") => `(tactic| first | with_reducible assumption | exact Ne.symm (by with_reducible assumption) | exact up_lt (by with_reducible assumption) (by decide) | exact up_le (by with_reducible assumption) (by decide) | exact Nat.lt_of_lt_of_le (by with_reducible assumption) (by decide) | exact Nat.ne_of_gt (by with_reducible assumption) | exact Nat.ne_of_gt (And.left (by with_reducible assumption)) | exact Nat.ne_of_gt (And.left (And.right (by with_reducible assumption))) | exact Nat.ne_of_gt (And.left (And.right (And.right (by with_reducible assumption)))) | exact Nat.le_of_lt (by with_reducible assumption) | exact up_le (Nat.lt_of_eq_of_lt (by with_reducible assumption) (by with_reducible assumption)) (by decide) | omega)
local macro_rules | `(tactic| k_all) => `(tactic| k_extra "all")
local macro_rules | `(tactic| k_ne) => `(tactic| k_extra "ne")
local macro_rules | `(tactic| ktr_unf) => `(tactic| k_extra "unf")
local macro_rules | `(tactic| size_fits) => `(tactic| k_extra "fits")
local macro_rules | `(tactic| k_room) => `(tactic| k_extra "room")
local macro_rules | `(tactic| k_units) => `(tactic| k_extra "units")
local macro_rules | `(tactic| k_enter) => `(tactic| k_extra "enter")
section
open PySem PySem.W PyProof.Rows Mine PySem.Calls PySem.Spec
set_option maxRecDepth 100000
namespace Mine
theorem stub_tuple : Manifest.isStub "tuple" = false := by decide +kernel
theorem meta_tuple : typeOf (.type "tuple") = pure (.type "type") := by first | rfl | kernel_rfl
theorem hand_tuple : handedIn (.builtin "tuple.__new__") = true := by kernel_rfl
theorem tup_method {K : Frag} {prog : Program} {w : World} {A : Around} {E : Value → Shared → Prop} {s : Shared} {h₀ : Heap} {L : Addr} {m : Str → Option Value} {pl : Sem Bool} {Q : Value × List Value → Shared → Prop} (F : Fr h₀ L s.heap m) (X₀ : K.In h₀)
    (e : findCls K (.type "tuple") (.type "type") (PySem.Str.ofString "__new__") = some (.val (.builtin "tuple.__new__"))) (h : Q (.builtin "tuple.__new__", []) { s with toks := s.toks + 1 }) : wpAny (model prog w) A (getMethod (.type "tuple") (PySem.Str.ofString "__new__") pl) Q E s := by
  have z : ∀ (_ : typeOf (.type "tuple") = pure (.type "type")) (_ : Manifest.isStub "tuple" = false) (_ : handedIn (.builtin "tuple.__new__") = true), wpAny (model prog w) A (getMethod (.type "tuple") (PySem.Str.ofString "__new__") pl) Q E s := fun a b c => method_type (T := "tuple") (name := PySem.Str.ofString "__new__") (v := .builtin "tuple.__new__") F X₀ a b e c h
  exact z meta_tuple stub_tuple hand_tuple
section
variable {prog : Program} {w : World} {A : Around} {E : Value → Shared → Prop} {s : Shared} {h₀ : Heap} {L : Addr} {m : Str → Option Value} {news : List (Addr × Obj)} {Q : Value → Shared → Prop}
theorem lk_check (X : (Mine.K w.params).In s.heap) (T : Addr) : Looks (model prog w) s.heap (checkBuiltinCall "tuple.__new__" ⟨[.ref 135, .ref T], []⟩) () := Looks.of_peek X (by kernel_rfl)
theorem lk_mh {h : Heap} (X : (Mine.K w.params).In h) : Looks (model prog w) h (Bind.madeHere "tuple.__new__" (.ref 135)) () := Looks.of_peek X (by kernel_rfl)
theorem lk_type {h : Heap} (X : (Mine.K w.params).In h) : Looks (model prog w) h (isType (.ref 135)) true := Looks.of_peek X (by kernel_rfl)
theorem lk_sub {h : Heap} (X : (Mine.K w.params).In h) : Looks (model prog w) h (isSubtype (.ref 135) (.type "tuple")) true := Looks.of_peek X (by kernel_rfl)
theorem lk_init {h : Heap} (X : (Mine.K w.params).In h) : Looks (model prog w) h (typeLookup (.ref 135) "__init__") (some (.builtin "object.__init__")) := Looks.of_peek X (by kernel_rfl)
theorem lk_del {h : Heap} (X : (Mine.K w.params).In h) : Looks (model prog w) h (classHasDel 135) false := Looks.of_peek X (by kernel_rfl)
theorem lf_tupnew {T : Addr} {n : Nat} {vs : List Value} (F : Fr h₀ L s.heap m) (X₀ : (Mine.K w.params).In h₀) (N : News h₀ L s.heap news) (hm : (T, ({ cls := .type "tuple", data := .seq vs.toArray n } : Obj)) ∈ news) (hlen : vs.length < 1000)
    (h : ∀ q d h', Fr h₀ L h' m → News h₀ L h' ((q, { cls := .ref 135, dict := some d, data := .seq vs.toArray }) :: news) → (∀ p ∈ news, p.1 < q) → Q (.ref q) { s with heap := h' }) :
    wpAny (model prog w) A (call (.builtin "tuple.__new__") [.ref 135, .ref T]) Q E s := by
  have X := X₀.keeps F.keep
  have hT := (N _ hm).1
  have l1 := lk_type (prog := prog) (w := w) X
  have l2 := lk_sub (prog := prog) (w := w) X
  have l3 := lk_mh (prog := prog) (w := w) X
  have l4 := lk_init (prog := prog) (w := w) X
  have l5 := lk_check (prog := prog) (w := w) X T
  refine wpAny_call (codeAny_call_builtin (by decide +kernel) PySem.F.entry_tuple_new (l5.here ?_))
  unfold Builtin.«tuple.__new__»
  refine wpAny_bind (l1.here ?_)
  refine wpAny_bind (l2.here ?_)
  refine wpAny_bind (l3.here ?_)
  refine wpAny_bind (l4.here ?_)
  rw [if_pos (by rfl)]
  refine wpAny_bind (m := noKeywords "tuple" _) (wpAny_pure ?_)
  refine wpAny_bind (m := checkCount "tuple" 0 1 _) (wpAny_pure ?_)
  dsimp only
  rw [if_neg (by simp)]
  have hN : News h₀ L s.heap news := N
  refine wpAny_bind (wpAny_collect_seq T (.inr rfl) hT rfl rfl (fun h' keep => ?_) (by rw [sizeLine_eq, List.size_toArray]; walk_at "om"))
  have F' : Fr h₀ L h' m := F.kept keep
  have N' : News h₀ L h' news := N.grown keep
  have hlt : ∀ p ∈ news, p.1 < h'.objs.size := fun p hp => Heap.lt_size (N' p hp).1
  have l6 : Looks (model prog w) ((h'.push emptyDict).push { cls := .ref 135, dict := some h'.objs.size, data := .seq vs.toArray }) (classHasDel 135) false := lk_del (X₀.keeps ((F'.push _).push _).keep)
  refine wpAny_bind (wpAny_pure (wpAny_bind (wpAny_alloc ?_)))
  unfold newObj
  dsimp only
  rw [if_neg (by rw [sizeLine_eq]; simp only [List.size_toArray]; walk_at "om")]
  refine wpAny_bind ?_
  show wpAny _ _ (newObjAsIs _ _ _) _ _ _
  unfold newObjAsIs
  refine wpAny_bind (wpAny_alloc ?_)
  dsimp only
  refine wpAny_bind (l6.here ?_)
  simp only [Bool.false_eq_true, if_false]
  refine wpAny_pure ?_
  refine wpAny_pure ?_
  rw [Heap.size_push]
  refine h _ h'.objs.size _ ((F'.push _).push _) ?_ (fun p hp => Nat.lt_succ_of_lt (hlt p hp))
  have := (N'.push F' emptyDict).push (F'.push _) ({ cls := .ref 135, dict := some h'.objs.size, data := .seq vs.toArray } : Obj)
  rw [Heap.size_push] at this
  intro p hp
  rcases List.mem_cons.mp hp with rfl | hp
  · exact this _ (.head _)
  · exact this p (.tail _ (.tail _ hp))
end
end Mine
end
section
open PySem PySem.W PyProof.Rows Mine PySem.Calls PySem.Spec
set_option maxRecDepth 100000
namespace Mine
/-- an object that holds a row of values, of any class -/
noncomputable def Holds3 (h : Heap) (t : Addr) (items : Array Value) : Prop := ∃ o n, h.get? t = some o ∧ o.data = .seq items n
section
variable {prog : Program} {w : World} {A : Around} {E : Value → Shared → Prop} {s : Shared} {h₀ : Heap} {L : Addr} {m : Str → Option Value} {news : List (Addr × Obj)}
theorem Holds3.ext {h h' : Heap} {I t : Addr} {items : Array Value} (x : Holds3 h t items) (k : Heap.ExtBut I h h') (hne : t ≠ I) : Holds3 h' t items := by
  obtain ⟨o, n, a, b⟩ := x
  exact ⟨o, n, k t o hne a, b⟩
theorem m_next {it t : Addr} {i : Nat} {items : Array Value} {x : Value} {Q : Option Value → Shared → Prop} (hit : IsTupIter s.heap it t i) (ht : Holds3 s.heap t items) (hx : items[i]? = some x)
    (hQ : ∀ h', IsTupIter h' it t (i + 1) → Heap.SameBut it s.heap h' → Q (some x) { s with heap := h' }) : wpAny (model prog w) A (pyNext (.ref it)) Q E s := by
  obtain ⟨o, ho, hc, hd⟩ := id hit
  obtain ⟨ol, nl, hol, hdl⟩ := ht
  unfold pyNext
  refine wpAny_bind (wpAny_attempt (wpAny_callSpecial?_slot (name := Str.ofString "__next__") hit.typeIs slot_tupleiter_next (wpAny_call_entry slot_tupleiter_next hit.typeIs entry_tupleiter_next ?_ (args_tupleiter_next _))))
  show wpAny _ _ (field (.ref it) 0 >>= _) _ _ s
  refine wpAny_bind (wpAny_field ho hd (x := .ref t) rfl ?_)
  show wpAny _ _ (if (Value.ref t == Value.none) = true then _ else _) _ _ s
  rw [if_neg (show ¬ ((Value.ref t == Value.none) = true) from Bool.false_ne_true)]
  show wpAny _ _ (field (.ref it) 1 >>= _) _ _ s
  refine wpAny_bind (wpAny_field ho hd (x := .int i 0) rfl ?_)
  show wpAny _ _ (seqItems? (.ref t) >>= _) _ _ s
  refine wpAny_bind (wpAny_seqItems hol hdl ?_)
  simp only [Int.toNat_natCast, hx]
  refine wpAny_bind (wpAny_setField ho hd (by simp) (wpAny_pure ⟨x, rfl, wpAny_pure (hQ _ ?_ (Heap.SameBut.update ..))⟩))
  exact ⟨_, Heap.get?_update_self _ ho (Obj.isFreed_of_fields (Obj.data_mapFields hd _)), (Obj.cls_mapFields ..).trans hc, by rw [Obj.data_mapFields hd]; simp [rawInt]⟩
theorem m_end {it t : Addr} {i : Nat} {items : Array Value} {Q : Option Value → Shared → Prop} (hh : A.handled = none) (hit : IsTupIter s.heap it t i) (ht : Holds3 s.heap t items) (hx : items[i]? = none)
    (hQ : ∀ h', Heap.ExtBut it s.heap h' → Q none { s with heap := h' }) : wpAny (model prog w) A (pyNext (.ref it)) Q E s := by
  obtain ⟨o, ho, hc, hd⟩ := id hit
  obtain ⟨ol, nl, hol, hdl⟩ := ht
  unfold pyNext
  refine wpAny_bind (wpAny_attempt (wpAny_callSpecial?_slot (name := Str.ofString "__next__") hit.typeIs slot_tupleiter_next (wpAny_call_entry slot_tupleiter_next hit.typeIs entry_tupleiter_next ?_ (args_tupleiter_next _))))
  show wpAny _ _ (field (.ref it) 0 >>= _) _ _ s
  refine wpAny_bind (wpAny_field ho hd (x := .ref t) rfl ?_)
  show wpAny _ _ (if (Value.ref t == Value.none) = true then _ else _) _ _ s
  rw [if_neg (show ¬ ((Value.ref t == Value.none) = true) from Bool.false_ne_true)]
  show wpAny _ _ (field (.ref it) 1 >>= _) _ _ s
  refine wpAny_bind (wpAny_field ho hd (x := .int i 0) rfl ?_)
  show wpAny _ _ (seqItems? (.ref t) >>= _) _ _ s
  refine wpAny_bind (wpAny_seqItems hol hdl ?_)
  simp only [Int.toNat_natCast, hx]
  refine wpAny_bind (wpAny_rule (wpAny_bind (wpAny_setField ho hd (by simp) ?_)))
  show wpAny _ _ (newExc (.type "StopIteration") [] >>= _) _ _ _
  refine wpAny_bind ?_
  simp only [newExc, newTuple]
  refine wpAny_bind (wpAny_newObj_type ?_ (by size_fits))
  refine wpAny_bind (m := firstArgMember _ _) (wpAny_of_eq (a := Value.none) (by first | rfl | (simp only [firstArgMember]; rfl)) ?_)
  refine wpAny_newObj_type ?_ (by size_fits)
  simp only [raiseNew]
  refine wpAny_bind (wpAny_handled ?_)
  first | rw [show A.in1.handled = none from hh] | rw [hh]
  refine wpAny_bind (wpAny_pure (wpAny_throw ?_))
  refine wpAny_bind (wpAny_isInstance (T := "StopIteration") (b := true) ⟨_, Heap.get?_push_size _ rfl, rfl⟩ isSubtype_stop ?_)
  exact wpAny_pure (hQ _ (((Heap.SameBut.update ..).extBut.push _).push _))
theorem lk_iter {h : Heap} (X : (Mine.K w.params).In h) : Looks (model prog w) h (typeLookup (.ref 135) "__iter__") (some (.builtin "tuple.__iter__")) := Looks.of_peek X (by kernel_rfl)
theorem lk_subt {h : Heap} (X : (Mine.K w.params).In h) : Looks (model prog w) h (isSubtype (.ref 135) (.type "tuple")) true := Looks.of_peek X (by kernel_rfl)
theorem m_bindIf {M : Model} {r : Addr} {C : Value} {name : PySem.Str} {id T : String} {Q : Option (Value × List Value) → Shared → Prop} (S : Slot T name id) (t1 : Looks M s.heap (typeOf (.ref r)) C) (i1 : Looks M s.heap (typeLookup C name) (some (.builtin id)))
    (h : Q (some (.builtin id, [.ref r])) s) : wpAny M A (bindSpecialIfBound? (.ref r) name) Q E s := by
  unfold bindSpecialIfBound? specialOf
  refine wpAny_bind (wpAny_bind (t1.here (i1.here ?_)))
  refine wpAny_bind (wpAny_askSetting (wpAny_ite ?_))
  have e := S.bind (.ref r)
  split
  · rw [e]
    exact wpAny_bind (wpAny_pure (wpAny_pure h))
  · rw [e]
    exact wpAny_tryCatch (wpAny_bind (wpAny_pure (wpAny_pure h)))
theorem m_call {r : Addr} {name : PySem.Str} {id : String} {b : Builtin} {rest : List Value} {Q : Value → Shared → Prop} (S : Slot "tuple" name id) (hk : builtinKind id = some .slot) (hs : ∃ n, splitId id = some ("tuple", n)) (t2 : Looks (model prog w) s.heap (isInstance (.ref r) (.type "tuple")) true)
    (hb : entryFor table id = some b) (hc : wpAny (model prog w) A.in1 (b ⟨.ref r :: rest, []⟩) (fun fin s' => ∃ v, fin = .done (.ret v) ∧ Q v s') E s) (ha : argsOk id ⟨.ref r :: rest, []⟩) :
    wpAny (model prog w) A (call (.builtin id) (.ref r :: rest)) Q E s := by
  obtain ⟨n, hs⟩ := hs
  refine wpAny_call (codeAny_call_builtin S.plain hb (check_slot hk hs t2 ha (wpAny_mono hc (fun fin s' h' => ?_) fun _ _ h' => h')))
  obtain ⟨v, rfl, hv⟩ := h'; exact hv
theorem m_iter {r : Addr} {o : Obj} {Q : Value → Shared → Prop} (X : (Mine.K w.params).In s.heap) (ho : s.heap.get? r = some o) (hc : o.cls = .ref 135)
    (hQ : Q (.ref s.heap.objs.size) { s with heap := s.heap.push { cls := .type "tuple_iterator", data := .fields #[.ref r, .int 0 0] } }) : wpAny (model prog w) A (pyIter (.ref r)) Q E s := by
  have t1 : Looks (model prog w) s.heap (typeOf (.ref r)) (.ref 135) := hc ▸ (Looks.ld ho).andThen .now
  have i1 := lk_iter (prog := prog) (w := w) X
  have t2 : Looks (model prog w) s.heap (isInstance (.ref r) (.type "tuple")) true := t1.andThen (lk_subt X)
  unfold pyIter specialOf
  refine wpAny_bind (wpAny_bind (t1.here (i1.here ?_)))
  show wpAny _ _ (callSpecialIfBoundUnlessNone? (.ref r) "__iter__" _ >>= _) _ _ _
  refine wpAny_bind ?_
  unfold callSpecialIfBoundUnlessNone?
  refine wpAny_holding (wpAny_bind (m_bindIf slot_tuple_iter t1 i1 ?_))
  dsimp only
  rw [if_neg (by simp)]
  refine wpAny_bind (m_call slot_tuple_iter (by decide +kernel) ⟨"__iter__", by decide +kernel⟩ t2 entry_tuple_iter ?_ (args_tuple_iter _))
  show wpAny _ _ (do ret (← newFields "tuple_iterator" [.ref r, rawInt 0])) _ _ s
  refine wpAny_bind (wpAny_newObj_type (wpAny_pure ⟨_, rfl, wpAny_pure ?_⟩))
  dsimp only
  exact wpAny_bind (wpAny_specialOf (T := "tuple_iterator") ⟨_, Heap.get?_push_size _ rfl, rfl⟩ slot_tupleiter_next.lookup (wpAny_pure hQ))
theorem lf_unpackM {r : Addr} {i j k : Int} {t u : Tok} {v : Tok × Addr} {Q : List Value → Shared → Prop} (hh : A.handled = none) (F : Fr h₀ L s.heap m) (X₀ : (Mine.K w.params).In h₀) (N : News h₀ L s.heap news) (hm : (r, mtObj i j k t u v) ∈ news)
    (h : ∀ h', Fr h₀ L h' m → News h₀ L h' news → Q [.int i t, .int j u, .int k v.1] { s with heap := h' }) : wpAny (model prog w) A (unpackItems (.ref r) 3 none) Q E s := by
  have X := X₀.keeps F.keep
  have ho := (N _ hm).1
  have hlt : r ≠ s.heap.objs.size := Nat.ne_of_lt (Heap.lt_size ho)
  have t1 : Looks (model prog w) s.heap (typeOf (.ref r)) (.ref 135) := (Looks.ld ho).andThen .now
  have i1 := lk_iter (prog := prog) (w := w) X
  have hs : Holds3 s.heap r #[.int i t, .int j u, .int k v.1] := ⟨_, _, ho, rfl⟩
  unfold unpackItems
  refine wpAny_bind ?_
  unfold notIterableAtAll specialOf
  refine wpAny_bind (wpAny_bind (t1.here (i1.here (wpAny_pure ?_))))
  simp only [Bool.false_eq_true, if_false]
  refine wpAny_bind (wpAny_holding (m_iter X ho rfl ?_))
  have k0 : Heap.ExtBut s.heap.objs.size s.heap (s.heap.push { cls := .type "tuple_iterator", data := .fields #[.ref r, .int 0 0] }) := fun b o hb e => Heap.get?_push_of_some _ e
  have hit0 : IsTupIter (s.heap.push { cls := .type "tuple_iterator", data := .fields #[.ref r, .int 0 0] }) s.heap.objs.size r 0 := ⟨_, Heap.get?_push_size _ rfl, rfl, rfl⟩
  refine wpAny_bind (wpAny_holding ?_)
  show wpAny _ _ (pyNext _ >>= _) _ _ _
  refine wpAny_bind (m_next hit0 (hs.ext k0 hlt) (x := .int i t) rfl fun h1 hit1 s1 => ?_)
  dsimp only
  have k1 := fun b o hb e => s1.extBut b o hb (k0 b o hb e)
  refine wpAny_bind (wpAny_holding ?_)
  show wpAny _ _ (pyNext _ >>= _) _ _ _
  refine wpAny_bind (m_next hit1 (hs.ext k1 hlt) (x := .int j u) rfl fun h2 hit2 s2 => ?_)
  dsimp only
  have k2 := fun b o hb e => s2.extBut b o hb (k1 b o hb e)
  refine wpAny_bind (wpAny_holding ?_)
  show wpAny _ _ (pyNext _ >>= _) _ _ _
  refine wpAny_bind (m_next hit2 (hs.ext k2 hlt) (x := .int k v.1) rfl fun h3 hit3 s3 => ?_)
  dsimp only
  have k3 := fun b o hb e => s3.extBut b o hb (k2 b o hb e)
  refine wpAny_bind (wpAny_holding ?_)
  show wpAny _ _ (pure []) _ _ _
  refine wpAny_pure (wpAny_pure (wpAny_pure (wpAny_pure ?_)))
  rw [if_neg (by simp)]
  refine wpAny_bind (wpAny_holding (m_end hh hit3 (hs.ext k3 hlt) rfl fun h4 e4 => ?_))
  simp only [Option.isSome_none, Bool.false_eq_true, if_false]
  have k4 : ∀ b o, s.heap.get? b = some o → h4.get? b = some o := fun b o e => e4 b o (Nat.ne_of_lt (Heap.lt_size e)) (k3 b o (Nat.ne_of_lt (Heap.lt_size e)) e)
  exact wpAny_pure (h _ (F.kept k4) (N.grown k4))
theorem lf_assignM {env : Env} {elts : List Expr} {kk : Nat} {pos : Pos} {r : Addr} {i j k : Int} {t u : Tok} {v : Tok × Addr} {Q : Unit → Shared → Prop} (hh : A.handled = none) (F : Fr h₀ L s.heap m) (X : (Mine.K w.params).In h₀) (N : News h₀ L s.heap news) (hm : (r, mtObj i j k t u v) ∈ news)
    (hn : (assignEach elts env).length = 3) (hstar : (assignEach elts env).findIdx? (·.1) = none)
    (h : ∀ h', Fr h₀ L h' m → News h₀ L h' news → wpAny (model prog w) A (assignInOrder ((assignEach elts env).map (·.2)) [.int i t, .int j u, .int k v.1]) Q E { s with heap := h' }) :
    wpAny (model prog w) A (assign (.Tuple elts kk pos) env (.ref r)) Q E s := by
  rw [assign_Tuple]
  refine wpAny_bind (wpAny_standAt ?_)
  unfold unpack
  rw [hn, hstar]
  exact wpAny_bind (wpAny_holding (lf_unpackM hh F X N hm h))
end
end Mine
end
section
open PySem PySem.W PyProof.Rows Mine PySem.Calls PySem.Spec
set_option maxRecDepth 100000
namespace Mine
theorem slot_md_get : Slot "method_descriptor" "__get__" "method_descriptor.__get__" :=
  .of (owner := "method_descriptor") (n := "__get__") (by rw [typeLookup_type, builtinLookup_eq_fast]; kernel_rfl) (by decide +kernel) (by decide +kernel) (by decide +kernel)
    (by first | exact .inl (by decide +kernel) | exact .inr (by decide +kernel)) (by rw [isSubtype_type]; kernel_rfl)
theorem md_noset : typeLookup (.type "method_descriptor") "__set__" = pure none := by rw [typeLookup_type, builtinLookup_eq_fast]; kernel_rfl
theorem md_nodel : typeLookup (.type "method_descriptor") "__delete__" = pure none := by rw [typeLookup_type, builtinLookup_eq_fast]; kernel_rfl
theorem md_entry : entryFor table "method_descriptor.__get__" = some Builtin.«method_descriptor.__get__» := entryFor_of_tree (by kernel_rfl)
theorem md_args (a b c : Value) : argsOk "method_descriptor.__get__" ⟨[a, b, c], []⟩ := by unfold argsOk; kernel_rfl
theorem bt_set : typeOf (.builtin "set.__contains__") = pure (.type "method_descriptor") := by show builtinType _ = _; rw [builtinType_eq_fast]; kernel_rfl
theorem bt_get : typeOf (.builtin "dict.get") = pure (.type "method_descriptor") := by show builtinType _ = _; rw [builtinType_eq_fast]; kernel_rfl
theorem set_contains : typeLookup (.type "set") "__contains__" = pure (some (.builtin "set.__contains__")) := by rw [typeLookup_type, builtinLookup_eq_fast]; kernel_rfl
theorem dict_get : typeLookup (.type "dict") "get" = pure (some (.builtin "dict.get")) := by rw [typeLookup_type, builtinLookup_eq_fast]; kernel_rfl
theorem own_set : isSubtype (.type "set") (.type (".".intercalate ("set.__contains__".cutAt '.').dropLast)) = pure true := by
  rw [show (".".intercalate ("set.__contains__".cutAt '.').dropLast) = "set" by decide +kernel, isSubtype_type]; kernel_rfl
theorem own_dict : isSubtype (.type "dict") (.type (".".intercalate ("dict.get".cutAt '.').dropLast)) = pure true := by
  rw [show (".".intercalate ("dict.get".cutAt '.').dropLast) = "dict" by decide +kernel, isSubtype_type]; kernel_rfl
section
variable {prog : Program} {w : World} {A : Around} {E : Value → Shared → Prop} {h : Heap} {g : Array GenState} {d : Drawn} {t : Nat} {os : OsState} {a : Addr} {o : Obj}
theorem md_run_set {P : PySem.Fin → Shared → Prop} (hx : h.get? a = some o) (hc : o.cls = .type "set") (hq : P (.done (.ret (.ref h.objs.size))) ⟨h.push (bmObj "set.__contains__" a), g, d, t, os⟩) :
    wpAny (model prog w) A (Builtin.«method_descriptor.__get__» ⟨[.builtin "set.__contains__", .ref a, .type "set"], []⟩) P E ⟨h, g, d, t, os⟩ := by
  have hT : (⟨h, g, d, t, os⟩ : Shared).TypeIs (.ref a) "set" := ⟨_, hx, hc⟩
  unfold Builtin.«method_descriptor.__get__»
  refine wpAny_bind (wpAny_of_eq (a := (.builtin "set.__contains__", some (.ref a), some (.type "set"))) (by first | rfl | kernel_rfl) ?_)
  dsimp only
  rw [if_neg (by decide +kernel)]
  have f9 := own_set
  wp_delta
  with_reducible refine PySem.wpAny_bind ?_
  wp_delta
  with_reducible refine PySem.wpAny_bind ?_
  wp_delta
  with_reducible refine PySem.wpAny_pure ?_
  with_reducible refine PySem.wpAny_bind ?_
  with_reducible refine PySem.wpAny_isInstance (by assumption) (by assumption) ?_
  (with_reducible apply PySem.wpAny_ite_false); focus (rfl; done)
  with_reducible refine PySem.wpAny_pure ?_
  with_reducible refine PySem.wpAny_bind ?_
  wp_delta
  wp_delta
  (with_reducible apply PySem.wpAny_ite_false); focus (rfl; done)
  wp_delta
  wp_delta
  with_reducible refine PySem.wpAny_bind ?_
  with_reducible refine PySem.wpAny_alloc' ?_
  with_reducible refine PySem.wpAny_pure ?_
  wp_delta
  with_reducible refine PySem.wpAny_pure ?_
  assumption
theorem ga_set {tk : Tok} {Q : PySem.Fin → Shared → Prop} (hx : h.get? a = some o) (hc : o.cls = .type "set") (hd : o.dict = none) (hdat : ∃ n e x, o.data = .set n e x) (hq : Q (.done (.ret (.ref h.objs.size))) ⟨h.push (bmObj "set.__contains__" a), g, d, t, os⟩) :
    wpAny (model prog w) A (Builtin.«object.__getattribute__» ⟨[.ref a, .str "__contains__" tk], []⟩) Q E ⟨h, g, d, t, os⟩ := by
  have hT : (⟨h, g, d, t, os⟩ : Shared).TypeIs (.ref a) "set" := ⟨_, hx, hc⟩
  have hT5 : (⟨h, g, d, t, os⟩ : Shared).TypeIs (.builtin "set.__contains__") "method_descriptor" := bt_set
  have f4 := set_contains
  have f5 := bt_set
  have f6 := slot_md_get.lookup
  have f7 := md_noset
  have f8 := md_nodel
  obtain ⟨c, dct, dat, sl⟩ := o
  simp only at hc hdat hd
  obtain ⟨n, e, x, hdat⟩ := hdat
  subst hc hdat hd
  unfold Builtin.«object.__getattribute__»
  with_reducible refine PySem.wpAny_bind ?_
  wp_delta
  (with_reducible apply PySem.wpAny_ite_false); focus (rfl; done)
  (with_reducible apply PySem.wpAny_ite_false); focus (rfl; done)
  with_reducible refine PySem.wpAny_pure ?_
  with_reducible refine PySem.wpAny_bind ?_
  wp_delta
  with_reducible refine PySem.wpAny_pure ?_
  with_reducible refine PySem.wpAny_bind ?_
  with_reducible refine PySem.wpAny_typeOf (by assumption) ?_
  with_reducible refine PySem.wpAny_bind ?_
  wp_delta
  with_reducible refine PySem.wpAny_bind ?_
  with_reducible refine PySem.wpAny_of_eq (by assumption) ?_
  with_reducible refine PySem.wpAny_bind ?_
  wp_delta
  with_reducible refine PySem.wpAny_specialOf_val (by assumption) (by assumption) ?_
  with_reducible refine PySem.wpAny_bind ?_
  wp_delta
  with_reducible refine PySem.wpAny_bind ?_
  wp_delta
  with_reducible refine PySem.wpAny_bind ?_
  with_reducible refine PySem.wpAny_specialOf_val (by assumption) (by assumption) ?_
  (with_reducible apply PySem.wpAny_ite_false); focus (rfl; done)
  with_reducible refine PySem.wpAny_bind ?_
  with_reducible refine PySem.wpAny_specialOf_val (by assumption) (by assumption) ?_
  with_reducible refine PySem.wpAny_pure ?_
  (with_reducible apply PySem.wpAny_ite_false); focus (rfl; done)
  with_reducible refine PySem.wpAny_pure ?_
  wp_delta
  wp_delta
  with_reducible refine PySem.wpAny_bind ?_
  wp_delta
  with_reducible refine PySem.wpAny_bind ?_
  wp_delta
  with_reducible refine PySem.wpAny_bind ?_
  wp_delta
  (with_reducible apply PySem.wpAny_loadPart'); focus (heap_get; done)
  wp_delta
  wp_delta
  with_reducible refine PySem.wpAny_bind ?_
  (with_reducible apply PySem.wpAny_loadPart'); focus (heap_get; done)
  (with_reducible apply PySem.wpAny_ite_true); focus (rfl; done)
  with_reducible refine PySem.wpAny_pure ?_
  wp_delta
  with_reducible refine PySem.wpAny_pure ?_
  with_reducible refine PySem.wpAny_bind ?_
  wp_delta
  (with_reducible apply PySem.wpAny_ite_false); focus (rfl; done)
  with_reducible refine PySem.wpAny_pure ?_
  wp_delta
  with_reducible refine PySem.wpAny_bind ?_
  with_reducible refine PySem.wpAny_rule ?_
  with_reducible refine PySem.wpAny_pure ?_
  wp_delta
  wp_delta
  with_reducible refine PySem.wpAny_bind ?_
  with_reducible refine PySem.wpAny_holding ?_
  with_reducible refine PySem.wpAny_call ?_
  refine codeAny_call_builtin slot_md_get.plain md_entry (slot_md_get.check _ _ _ _ _ _ _ _ hT5 (md_args _ _ _) ?_)
  exact md_run_set hx rfl (wpAny_pure hq)
theorem md_run_dict {P : PySem.Fin → Shared → Prop} (hx : h.get? a = some o) (hc : o.cls = .type "dict") (hq : P (.done (.ret (.ref h.objs.size))) ⟨h.push (bmObj "dict.get" a), g, d, t, os⟩) :
    wpAny (model prog w) A (Builtin.«method_descriptor.__get__» ⟨[.builtin "dict.get", .ref a, .type "dict"], []⟩) P E ⟨h, g, d, t, os⟩ := by
  have hT : (⟨h, g, d, t, os⟩ : Shared).TypeIs (.ref a) "dict" := ⟨_, hx, hc⟩
  unfold Builtin.«method_descriptor.__get__»
  refine wpAny_bind (wpAny_of_eq (a := (.builtin "dict.get", some (.ref a), some (.type "dict"))) (by first | rfl | kernel_rfl) ?_)
  dsimp only
  rw [if_neg (by decide +kernel)]
  have f9 := own_dict
  wp_delta
  with_reducible refine PySem.wpAny_bind ?_
  wp_delta
  with_reducible refine PySem.wpAny_bind ?_
  wp_delta
  with_reducible refine PySem.wpAny_pure ?_
  with_reducible refine PySem.wpAny_bind ?_
  with_reducible refine PySem.wpAny_isInstance (by assumption) (by assumption) ?_
  (with_reducible apply PySem.wpAny_ite_false); focus (rfl; done)
  with_reducible refine PySem.wpAny_pure ?_
  with_reducible refine PySem.wpAny_bind ?_
  wp_delta
  wp_delta
  (with_reducible apply PySem.wpAny_ite_false); focus (rfl; done)
  wp_delta
  wp_delta
  with_reducible refine PySem.wpAny_bind ?_
  with_reducible refine PySem.wpAny_alloc' ?_
  with_reducible refine PySem.wpAny_pure ?_
  wp_delta
  with_reducible refine PySem.wpAny_pure ?_
  assumption
theorem ga_dict {tk : Tok} {Q : PySem.Fin → Shared → Prop} (hx : h.get? a = some o) (hc : o.cls = .type "dict") (hd : o.dict = none) (hdat : ∃ n e, o.data = .dict n e) (hq : Q (.done (.ret (.ref h.objs.size))) ⟨h.push (bmObj "dict.get" a), g, d, t, os⟩) :
    wpAny (model prog w) A (Builtin.«object.__getattribute__» ⟨[.ref a, .str "get" tk], []⟩) Q E ⟨h, g, d, t, os⟩ := by
  have hT : (⟨h, g, d, t, os⟩ : Shared).TypeIs (.ref a) "dict" := ⟨_, hx, hc⟩
  have hT5 : (⟨h, g, d, t, os⟩ : Shared).TypeIs (.builtin "dict.get") "method_descriptor" := bt_get
  have f4 := dict_get
  have f5 := bt_get
  have f6 := slot_md_get.lookup
  have f7 := md_noset
  have f8 := md_nodel
  obtain ⟨c, dct, dat, sl⟩ := o
  simp only at hc hdat hd
  obtain ⟨n, e, hdat⟩ := hdat
  subst hc hdat hd
  unfold Builtin.«object.__getattribute__»
  with_reducible refine PySem.wpAny_bind ?_
  wp_delta
  (with_reducible apply PySem.wpAny_ite_false); focus (rfl; done)
  (with_reducible apply PySem.wpAny_ite_false); focus (rfl; done)
  with_reducible refine PySem.wpAny_pure ?_
  with_reducible refine PySem.wpAny_bind ?_
  wp_delta
  with_reducible refine PySem.wpAny_pure ?_
  with_reducible refine PySem.wpAny_bind ?_
  with_reducible refine PySem.wpAny_typeOf (by assumption) ?_
  with_reducible refine PySem.wpAny_bind ?_
  wp_delta
  with_reducible refine PySem.wpAny_bind ?_
  with_reducible refine PySem.wpAny_of_eq (by assumption) ?_
  with_reducible refine PySem.wpAny_bind ?_
  wp_delta
  with_reducible refine PySem.wpAny_specialOf_val (by assumption) (by assumption) ?_
  with_reducible refine PySem.wpAny_bind ?_
  wp_delta
  with_reducible refine PySem.wpAny_bind ?_
  wp_delta
  with_reducible refine PySem.wpAny_bind ?_
  with_reducible refine PySem.wpAny_specialOf_val (by assumption) (by assumption) ?_
  (with_reducible apply PySem.wpAny_ite_false); focus (rfl; done)
  with_reducible refine PySem.wpAny_bind ?_
  with_reducible refine PySem.wpAny_specialOf_val (by assumption) (by assumption) ?_
  with_reducible refine PySem.wpAny_pure ?_
  (with_reducible apply PySem.wpAny_ite_false); focus (rfl; done)
  with_reducible refine PySem.wpAny_pure ?_
  wp_delta
  wp_delta
  with_reducible refine PySem.wpAny_bind ?_
  wp_delta
  with_reducible refine PySem.wpAny_bind ?_
  wp_delta
  with_reducible refine PySem.wpAny_bind ?_
  wp_delta
  (with_reducible apply PySem.wpAny_loadPart'); focus (heap_get; done)
  wp_delta
  wp_delta
  with_reducible refine PySem.wpAny_bind ?_
  (with_reducible apply PySem.wpAny_loadPart'); focus (heap_get; done)
  (with_reducible apply PySem.wpAny_ite_true); focus (rfl; done)
  with_reducible refine PySem.wpAny_pure ?_
  wp_delta
  with_reducible refine PySem.wpAny_pure ?_
  with_reducible refine PySem.wpAny_bind ?_
  wp_delta
  (with_reducible apply PySem.wpAny_ite_false); focus (rfl; done)
  with_reducible refine PySem.wpAny_pure ?_
  wp_delta
  with_reducible refine PySem.wpAny_bind ?_
  with_reducible refine PySem.wpAny_rule ?_
  with_reducible refine PySem.wpAny_pure ?_
  wp_delta
  wp_delta
  with_reducible refine PySem.wpAny_bind ?_
  with_reducible refine PySem.wpAny_holding ?_
  with_reducible refine PySem.wpAny_call ?_
  refine codeAny_call_builtin slot_md_get.plain md_entry (slot_md_get.check _ _ _ _ _ _ _ _ hT5 (md_args _ _ _) ?_)
  exact md_run_dict hx rfl (wpAny_pure hq)
theorem at_set {ex : Bool} {Q : Value → Shared → Prop} (hx : h.get? a = some o) (hc : o.cls = .type "set") (hd : o.dict = none) (hdat : ∃ n e x, o.data = .set n e x) (hq : Q (.ref h.objs.size) ⟨h.push (bmObj "set.__contains__" a), g, d, t + 1, os⟩) :
    wpAny (model prog w) A (getAttr (.ref a) (PySem.Str.ofString "__contains__") ex) Q E ⟨h, g, d, t, os⟩ := by
  have hT : ∀ tk', (⟨h, g, d, tk', os⟩ : Shared).TypeIs (.ref a) "set" := fun _ => ⟨_, hx, hc⟩
  have f3 := PySem.F.slot_set_getattribute.lookup
  have f4 := PySem.F.slot_set_getattribute.bind (.ref a)
  obtain ⟨c, dct, dat, sl⟩ := o
  simp only at hc hdat hd
  subst hc hd
  unfold getAttr getAttrBy
  with_reducible refine PySem.wpAny_bind ?_
  wp_delta
  with_reducible refine PySem.wpAny_bind ?_
  with_reducible refine PySem.wpAny_fresh' ?_
  with_reducible refine PySem.wpAny_pure ?_
  with_reducible refine PySem.wpAny_holding ?_
  with_reducible refine PySem.wpAny_bind ?_
  wp_delta
  with_reducible refine PySem.wpAny_bind ?_
  (with_reducible apply PySem.wpAny_loadPart'); focus (heap_get; done)
  with_reducible refine PySem.wpAny_pure ?_
  with_reducible refine PySem.wpAny_bind ?_
  with_reducible refine PySem.wpAny_of_eq (by assumption) ?_
  (with_reducible apply PySem.wpAny_ite_false); focus (rfl; done)
  wp_delta
  with_reducible refine PySem.wpAny_bind ?_
  wp_delta
  (with_reducible apply PySem.wpAny_ite_false); focus (rfl; done)
  with_reducible refine PySem.wpAny_pure ?_
  with_reducible refine PySem.wpAny_bind ?_
  with_reducible refine PySem.wpAny_attempt ?_
  with_reducible refine PySem.wpAny_holding ?_
  wp_delta
  rw [if_neg (by cases ex <;> decide)]
  wp_delta
  with_reducible refine PySem.wpAny_bind ?_
  with_reducible refine PySem.wpAny_of_eq (by assumption) ?_
  with_reducible refine PySem.wpAny_call ?_
  refine codeAny_call_builtin PySem.F.slot_set_getattribute.plain PySem.F.entry_set_ga (PySem.F.slot_set_getattribute.check _ _ _ _ _ _ _ _ (hT _) (PySem.F.args_set_getattribute_2 _ _) (ga_set hx rfl rfl hdat ?_))
  dsimp only
  wp_delta
  with_reducible refine PySem.wpAny_pure ?_
  first | assumption | exact hT _
theorem at_dict {ex : Bool} {Q : Value → Shared → Prop} (hx : h.get? a = some o) (hc : o.cls = .type "dict") (hd : o.dict = none) (hdat : ∃ n e, o.data = .dict n e) (hq : Q (.ref h.objs.size) ⟨h.push (bmObj "dict.get" a), g, d, t + 1, os⟩) :
    wpAny (model prog w) A (getAttr (.ref a) (PySem.Str.ofString "get") ex) Q E ⟨h, g, d, t, os⟩ := by
  have hT : ∀ tk', (⟨h, g, d, tk', os⟩ : Shared).TypeIs (.ref a) "dict" := fun _ => ⟨_, hx, hc⟩
  have f3 := PySem.F.slot_dict_getattribute.lookup
  have f4 := PySem.F.slot_dict_getattribute.bind (.ref a)
  obtain ⟨c, dct, dat, sl⟩ := o
  simp only at hc hdat hd
  subst hc hd
  unfold getAttr getAttrBy
  with_reducible refine PySem.wpAny_bind ?_
  wp_delta
  with_reducible refine PySem.wpAny_bind ?_
  with_reducible refine PySem.wpAny_fresh' ?_
  with_reducible refine PySem.wpAny_pure ?_
  with_reducible refine PySem.wpAny_holding ?_
  with_reducible refine PySem.wpAny_bind ?_
  wp_delta
  with_reducible refine PySem.wpAny_bind ?_
  (with_reducible apply PySem.wpAny_loadPart'); focus (heap_get; done)
  with_reducible refine PySem.wpAny_pure ?_
  with_reducible refine PySem.wpAny_bind ?_
  with_reducible refine PySem.wpAny_of_eq (by assumption) ?_
  (with_reducible apply PySem.wpAny_ite_false); focus (rfl; done)
  wp_delta
  with_reducible refine PySem.wpAny_bind ?_
  wp_delta
  (with_reducible apply PySem.wpAny_ite_false); focus (rfl; done)
  with_reducible refine PySem.wpAny_pure ?_
  with_reducible refine PySem.wpAny_bind ?_
  with_reducible refine PySem.wpAny_attempt ?_
  with_reducible refine PySem.wpAny_holding ?_
  wp_delta
  rw [if_neg (by cases ex <;> decide)]
  wp_delta
  with_reducible refine PySem.wpAny_bind ?_
  with_reducible refine PySem.wpAny_of_eq (by assumption) ?_
  with_reducible refine PySem.wpAny_call ?_
  refine codeAny_call_builtin PySem.F.slot_dict_getattribute.plain PySem.F.entry_dict_ga (PySem.F.slot_dict_getattribute.check _ _ _ _ _ _ _ _ (hT _) (PySem.F.args_dict_getattribute_2 _ _) (ga_dict hx rfl rfl hdat ?_))
  dsimp only
  wp_delta
  with_reducible refine PySem.wpAny_pure ?_
  first | assumption | exact hT _
end
section
variable {prog : Program} {w : World} {A : Around} {E : Value → Shared → Prop} {s : Shared} {h₀ : Heap} {L : Addr} {m : Str → Option Value} {news : List (Addr × Obj)} {Q : Value → Shared → Prop}
theorem lf_setattr {j n : Nat} {t : SetTable} {ex : Bool} (F : Fr h₀ L s.heap m) (N : News h₀ L s.heap news) (hj : (j, setObj n t) ∈ news)
    (h : ∀ q h', Fr h₀ L h' m → News h₀ L h' ((q, bmObj "set.__contains__" j) :: news) → (∀ p ∈ news, p.1 < q) → Q (.ref q) { s with heap := h', toks := s.toks + 1 }) :
    wpAny (model prog w) A (getAttr (.ref j) (PySem.Str.ofString "__contains__") ex) Q E s := by
  obtain ⟨hp, g, d, tk, os⟩ := s
  exact at_set (N _ hj).1 rfl rfl ⟨_, _, _, rfl⟩ (h _ _ (F.push _) (N.push F _) fun p hp => Heap.lt_size (N p hp).1)
end
end Mine
end
section
open PySem PySem.W PyProof.Rows Mine PySem.Calls PySem.Spec
set_option maxRecDepth 100000
namespace Mine
noncomputable def BmAt (u : Addr) (id : String) (a : Addr) (h : Heap) : Prop := h.get? u = some (bmObj id a)
section
variable {prog : Program} {w : World} {A : Around} {E : Value → Shared → Prop} {s : Shared} {h₀ : Heap} {L : Addr} {m : Str → Option Value} {news : List (Addr × Obj)} {Q : Value → Shared → Prop}
theorem cb_set {j : Addr} {x : Str} {t : Tok} {R : Unit → Shared → Prop} {dct : Option Addr} {es : Array (Int × Value)} {nn : Nat} {st : SetTable} {sl : Array (Option Value)} (hx : s.heap.get? j = some ⟨.type "set", dct, .set es nn st, sl⟩) (h : R () s) : wpAny (model prog w) A (checkBoundCall "set.__contains__" ⟨[.ref j, .str x t], []⟩) R E s := by
  obtain ⟨hp, g, dd, tk, os⟩ := s
  have hT : Shared.TypeIs ⟨hp, g, dd, tk, os⟩ (.ref j) "set" := ⟨_, hx, rfl⟩
  have f1 : isSubtype (.type "set") (.type "module") = pure false := by rw [isSubtype_type]; kernel_rfl
  have f2 : isSubtype (.type "set") (.type "type") = pure false := by rw [isSubtype_type]; kernel_rfl
  unfold checkBoundCall
  wp_delta
  (with_reducible apply PySem.wpAny_ite_false); focus (rfl; done)
  with_reducible refine PySem.wpAny_bind ?_
  with_reducible refine PySem.wpAny_isInstance (by assumption) (by assumption) ?_
  (with_reducible apply PySem.wpAny_ite_false); focus (rfl; done)
  with_reducible refine PySem.wpAny_bind ?_
  wp_delta
  with_reducible refine PySem.wpAny_bind ?_
  wp_delta
  (with_reducible apply PySem.wpAny_loadPart'); focus (heap_get; done)
  with_reducible refine PySem.wpAny_pure ?_
  (with_reducible apply PySem.wpAny_ite_false); focus (rfl; done)
  with_reducible refine PySem.wpAny_bind ?_
  with_reducible refine PySem.wpAny_typeOf (by assumption) ?_
  wp_delta
  wp_delta
  with_reducible refine PySem.wpAny_bind ?_
  wp_delta
  (with_reducible apply PySem.wpAny_ite_true); focus (rfl; done)
  with_reducible refine PySem.wpAny_pure ?_
  with_reducible refine PySem.wpAny_bind ?_
  wp_delta
  (with_reducible apply PySem.wpAny_ite_true); focus (rfl; done)
  with_reducible refine PySem.wpAny_pure ?_
  wp_delta
  wp_delta
  with_reducible_and_instances refine PySem.wpAny_pure ?_
  assumption
theorem cb_get {j : Addr} {k : Int} {t : Tok} {d : Value} {R : Unit → Shared → Prop} {dct : Option Addr} {es : Array DictEntry} {nn : Nat} {sl : Array (Option Value)} (hx : s.heap.get? j = some ⟨.type "dict", dct, .dict es nn, sl⟩) (h : R () s) : wpAny (model prog w) A (checkBoundCall "dict.get" ⟨[.ref j, .int k t, d], []⟩) R E s := by
  obtain ⟨hp, g, dd, tk, os⟩ := s
  have hT : Shared.TypeIs ⟨hp, g, dd, tk, os⟩ (.ref j) "dict" := ⟨_, hx, rfl⟩
  have f1 : isSubtype (.type "dict") (.type "module") = pure false := by rw [isSubtype_type]; kernel_rfl
  have f2 : isSubtype (.type "dict") (.type "type") = pure false := by rw [isSubtype_type]; kernel_rfl
  unfold checkBoundCall
  wp_delta
  (with_reducible apply PySem.wpAny_ite_false); focus (rfl; done)
  with_reducible refine PySem.wpAny_bind ?_
  with_reducible refine PySem.wpAny_isInstance (by assumption) (by assumption) ?_
  (with_reducible apply PySem.wpAny_ite_false); focus (rfl; done)
  with_reducible refine PySem.wpAny_bind ?_
  wp_delta
  with_reducible refine PySem.wpAny_bind ?_
  wp_delta
  (with_reducible apply PySem.wpAny_loadPart'); focus (heap_get; done)
  with_reducible refine PySem.wpAny_pure ?_
  (with_reducible apply PySem.wpAny_ite_false); focus (rfl; done)
  with_reducible refine PySem.wpAny_bind ?_
  with_reducible refine PySem.wpAny_typeOf (by assumption) ?_
  wp_delta
  wp_delta
  with_reducible refine PySem.wpAny_bind ?_
  wp_delta
  (with_reducible apply PySem.wpAny_ite_true); focus (rfl; done)
  with_reducible refine PySem.wpAny_pure ?_
  with_reducible refine PySem.wpAny_bind ?_
  wp_delta
  (with_reducible apply PySem.wpAny_ite_true); focus (rfl; done)
  with_reducible refine PySem.wpAny_pure ?_
  wp_delta
  wp_delta
  with_reducible_and_instances refine PySem.wpAny_pure ?_
  assumption
theorem bm_at {hp : Heap} {u a : Addr} {id : String} (N : News h₀ L hp news) (hm : (u, bmObj id a) ∈ news) : BmAt u id a hp := (N _ hm).1
theorem lf_dictattr {K : Type} [DecidableEq K] {knd : KeyKind prog w K} {d : Addr} {o : Obj} {kvs : List (K × Value)} {ex : Bool} (F : Fr h₀ L s.heap m) (N : News h₀ L s.heap news) (hj : (d, o) ∈ news) (hd : o.IsDictOf knd kvs)
    (h : ∀ q h', Fr h₀ L h' m → News h₀ L h' ((q, bmObj "dict.get" d) :: news) → (∀ p ∈ news, p.1 < q) → Q (.ref q) { s with heap := h', toks := s.toks + 1 }) :
    wpAny (model prog w) A (getAttr (.ref d) (PySem.Str.ofString "get") ex) Q E s := by
  obtain ⟨hp, g, dd, tk, os⟩ := s
  obtain ⟨es, ep, hx, hdat, _⟩ := hd
  exact at_dict (N _ hj).1 hx.1 hx.2.1 ⟨_, _, hdat⟩ (h _ _ (F.push _) (N.push F _) fun p hp => Heap.lt_size (N p hp).1)
theorem bm_callWith {pos : Pos} {u a : Addr} {id : String} {args : List (Bool × Sem Value)} (hplain : args.any (·.1) = false)
    (h : wpAny (model prog w) A (spliced args) (fun vs s₁ => BmAt u id a s₁.heap ∧ wpAny (model prog w) A (call (.ref u) vs) Q E s₁) E s) : wpAny (model prog w) A (callWith pos (.ref u) [] args []) Q E s := by
  unfold callWith
  have ev : wpAny (model prog w) A (evalArgs (.ref u) true args []) (fun x s₁ => BmAt u id a s₁.heap ∧ wpAny (model prog w) A (call (.ref u) ([] ++ x.pos) x.kw) Q E s₁) E s := by
    match args, hplain, h with
    | [], _, h =>
      unfold evalArgs
      exact wpAny_bind (wpAny_mono h (fun vs s' h' => wpAny_holding (wpAny_bind (wpAny_pure (wpAny_bind (wpAny_pure (wpAny_pure h')))))) fun _ _ x => x)
    | (true, x) :: r, hp, _ => simp at hp
    | (false, x) :: r, _, h => exact evalArgs_plain h
  refine wpAny_bind (wpAny_holding (wpAny_mono ev (fun x s₁ h₁ => wpAny_bind (wpAny_standAt ?_)) fun _ _ x => x))
  obtain ⟨ho, hcall⟩ := h₁
  simp only [hplain, List.any_nil, Bool.or_false]
  refine wpAny_bind (m := keeperOf (.ref u)) ?_
  unfold keeperOf
  refine wpAny_bind (wpAny_load ho ?_)
  simp only [show (Value.type "builtin_function_or_method" != Value.type "method") = true by decide, show (Value.type "builtin_function_or_method" == Value.type "builtin_function_or_method" || Value.type "builtin_function_or_method" == Value.type "method-wrapper") = true by decide, if_true]
  refine wpAny_pure ?_
  exact wpAny_bind (wpAny_mono hcall (fun r s₂ hr => wpAny_bind (wpAny_holding (wpAny_point (wpAny_pure hr)))) fun _ _ x => x)
theorem lf_callWith {pos : Pos} {u a : Addr} {id : String} {args : List (Bool × Sem Value)} (_N : News h₀ L s.heap news) (_hm : (u, bmObj id a) ∈ news) (hplain : args.any (·.1) = false)
    (h : wpAny (model prog w) A (spliced args) (fun vs s₁ => BmAt u id a s₁.heap ∧ wpAny (model prog w) A (call (.ref u) vs) Q E s₁) E s) : wpAny (model prog w) A (callWith pos (.ref u) [] args []) Q E s := bm_callWith hplain h
theorem bm_call {u a : Addr} {id : String} {args : List Value} {b : Builtin} (ho : BmAt u id a s.heap) (hq : (Code.builtin id ⟨.ref a :: args, []⟩).quiet = true) (hc : ∀ {A' : Around} {E' : Value → Shared → Prop} {R : Unit → Shared → Prop}, R () s → wpAny (model prog w) A' (checkBoundCall id ⟨.ref a :: args, []⟩) R E' s) (hb : entryFor table id = some b)
    (h : wpAny (model prog w) (A.under (.builtin id ⟨.ref a :: args, []⟩)) (b ⟨.ref a :: args, []⟩) (fun fin s' => ∃ v, fin = .done (.ret v) ∧ Q v s') E s) : wpAny (model prog w) A (call (.ref u) args) Q E s := by
  refine wpAny_call (codeAny_of_tree ?_)
  show wpAny _ A.in1 (callAny (.ref u) ⟨args, []⟩) _ _ s
  simp only [callAny]
  refine wpAny_bind (wpAny_load ho ?_)
  simp only [show (Value.type "builtin_function_or_method" == Value.type "method" || Value.type "builtin_function_or_method" == Value.type "builtin_function_or_method" || Value.type "builtin_function_or_method" == Value.type "method-wrapper") = true by decide, if_true]
  refine KFB.if_so (by decide) ?_
  refine wpAny_bind (hc ?_)
  refine wpAny_bind (wpAny_pure (wpAny_pure ?_))
  refine ⟨hq, codeAny_builtin hb (wpAny_mono h (fun fin s' h' => ?_) fun _ _ x => x)⟩
  obtain ⟨v, rfl, hv⟩ := h'
  exact hv
theorem lf_callget {u d : Addr} {o : Obj} {k : Int} {t : Tok} {dflt : Value} (N : News h₀ L s.heap news) (hm : (u, bmObj "dict.get" d) ∈ news) (hd : (d, o) ∈ news) (hz : o.IsDictOf (intKind prog w) []) (lo : (d == sysModules) = false)
    (h : Q dflt { s with toks := s.toks + 1 }) : wpAny (model prog w) A (call (.ref u) [.int k t, dflt]) Q E s := by
  have hD := kda_dict N hd hz
  obtain ⟨⟨c, dct, dat, sl⟩, hx, hc, hdat⟩ : ∃ o : Obj, s.heap.get? d = some o ∧ o.cls = .type "dict" ∧ ∃ es n, o.data = .dict es n := by
    obtain ⟨es, ep, hx, hdat, _⟩ := hz
    exact ⟨_, (N _ hd).1, hx.1, _, _, hdat⟩
  obtain ⟨es, n, rfl⟩ : ∃ es n, dat = .dict es n := hdat
  obtain rfl : c = .type "dict" := hc
  refine bm_call (bm_at N hm) (Code.quiet_builtin _ (by decide +kernel)) (fun r => cb_get hx r) PySem.F.entry_dict_get ?_
  show wpAny _ _ (dictGet d (.int k t) >>= _) _ _ s
  refine wpAny_bind (wpAny_dictGet_of (intKind_is _ _ _ _) hD.mapOf ?_)
  show wpAny _ _ (Builtin.Dict.missed d (.int k t) >>= _) _ _ _
  exact wpAny_bind (wpAny_missed_other lo (wpAny_pure ⟨dflt, rfl, h⟩))
theorem lf_callin {u j n : Addr} {st : SetTable} {x : Str} {t : Tok} (N : News h₀ L s.heap news) (hm : (u, bmObj "set.__contains__" j) ∈ news) (hd : (j, setObj n st) ∈ news)
    (h : ∀ tk, Q (.bool false) { s with toks := tk }) : wpAny (model prog w) A (call (.ref u) [.str x t]) Q E s := by
  have hx := (N _ hd).1
  have hS : s.heap.SetOf (strKind prog w) j (fun _ => false) 0 := ⟨_, #[], 0, _, hx, ⟨rfl, rfl, rfl⟩, rfl, fun e he => by simp at he, fun k => by simp, by decide, by rfl, rfl⟩
  have hkey : (strKind prog w).is x (.str x t) = true := strKind_is _ _ _ _
  refine bm_call (bm_at N hm) (Code.quiet_builtin _ (by decide +kernel)) (fun r => cb_set hx r) entry_set_contains ?_
  unfold Builtin.«frozenset.__contains__» Builtin.Frozenset.oneOther
  simp only [List.isEmpty_nil, bind_assoc]
  unfold Builtin.Frozenset.addrOf Builtin.Frozenset.withSetAsKey setContains
  refine wpAny_bind (wpAny_pure ?_)
  try dsimp only
  refine wpAny_bind (wpAny_pure ?_)
  try dsimp only
  refine wpAny_bind (wpAny_tryCatch ?_)
  refine wpAny_holding ?_
  refine wpAny_bind ((strKind prog w).pyHash hkey ?_)
  refine wpAny_bind (wpAny_setFind_of (s := { s with toks := s.toks + 1 }) hkey rfl hS fun r hr => ?_)
  refine wpAny_pure ?_
  show wpAny _ _ (ret (Value.bool r.isSome)) _ _ _
  rw [hr]
  exact wpAny_pure ⟨_, rfl, h _⟩
end
end Mine
end
section
open PySem PySem.W PyProof.Rows Mine PySem.Calls PySem.Spec PySem.Challenge
set_option maxRecDepth 100000
namespace Mine
theorem allLt_lt {d : Addr} : ∀ {l : List (Addr × Obj)}, AllLt d l → ∀ p ∈ l, p.1 < d
  | [], _, _, h => nomatch h
  | _ :: _, x, p, h => by
    rcases List.mem_cons.mp h with rfl | h
    · exact x.1
    · exact allLt_lt x.2 p h
theorem two_back {h₀ h' : Heap} {L q d : Addr} {m : Str → Option Value} {news : List (Addr × Obj)} {x : Addr × Obj} {P : Addr → Addr → Heap → Nat → Prop} {tk : Nat} {f : Addr → Obj} (F : Fr h₀ L h' m) (N : News h₀ L h' ((q, f d) :: x :: news)) (l : x.1 < q ∧ AllLt q news)
    (hret : ∀ q d h' tk, Fr h₀ L h' m → News h₀ L h' ((q, f d) :: news) → (∀ p ∈ news, p.1 < q) → P q d h' tk) : P q d h' tk :=
  hret q d h' tk F (fun p hp => N p (by
    rcases List.mem_cons.mp hp with rfl | hp
    · exact .head _
    · exact .tail _ (.tail _ hp))) (allLt_lt l.2)
end Mine
end
local macro_rules | `(tactic| walk_at "m0") => `(tactic| (refine' code_def ?k1 ?k2 ?k3 ?k4 ?k5 ?kA ?kF ?kK ?k6 ?k7 ?k8 ?k9 ?kB ?_ ?c2 ?c3 ?c4 ?c5; (case kA => exact rfl); (case kF => exact rfl); (case kK => first | assumption | exact rfl); (case k1 => k_asm); (case k2 => k_asm); (case k3 => k_asm); (case k4 => k_asm); (case k5 => k_asm); (case k6 => k_is); (case k7 => k_is); (case k8 => ktr_room); (case k9 => first | exact BindsTo.of_eq rfl | exact binds_K (by k_in) rfl (by k_is) rfl rfl rfl | fail "enter: no rule for these arguments"); (case c5 => decide); (case kB => exact locs rfl); (case c2 => exact rfl); (case c3 => exact rfl); (case c4 => exact rfl); k_whole; intro g' L' h' FG' F' N' B' X' T'; (try dsimp only); (try k_fold)))
section
open PySem PySem.W PyProof.Rows Mine PySem.Calls PySem.Spec PySem.Challenge
set_option maxRecDepth 100000
namespace Mine
section
set_option maxHeartbeats 16000000 in
theorem new_tells : ∀ {w : World} {mean : ExcName → Option Value} {mg mb : Str → Option Value}
   (dp un : Nat) (gd : Option (List Code)) (cn : Str) (cs : Scope) (a : Addr) (ccd : Value) (cl : List (Str × Addr)) (outer : List Env) (A₀ : Around) (base h₀ : Heap) (L : Addr) (m : Str → Option Value) (news : List (Addr × Obj)) (s : Shared)
   (i j k : Int) (t u v : Tok) (Q E : Value → Shared → Prop)
    (B : Below A₀ base outer h₀) (F : Fr h₀ L s.heap m) (X : (K w.params).In h₀) (N : News h₀ L s.heap news) (T : Top Mine.q (looseW Mine.q loose) mean mg mb h₀) (hk : cs.kind = .function)
    (hdp : dp + 4 < recursionLimit) (hu : un + 20 < cLine)
    (hret : ∀ q d h' tk, Fr h₀ L h' m → News h₀ L h' ((q, mtObj i j k t u (v, d)) :: news) → (∀ p ∈ news, p.1 < q) → Q (.ref q) { s with heap := h', toks := tk }),
    wpAny (model rw_wn0126_01.row.prog w) (ktrTop dp un gd cn cs L a ccd cl outer) (call (.ref 82) [.ref 135, .int i t, .int j u, .int k v]) Q E s := by
  k_with_none
  k_with "unf" => walk_at "m0"
  k_with "call builtin:tuple.__new__" => (k_here; k_dflt (refine' lf_tupnew (by k_asm) (by k_asm) (by k_asm) (by k_mem) (by (simp only [List.length_cons, List.length_nil]; walk_at "om")) ?_; k_whole); intro _ _ _ _ _ l1; (try k_lt l1); (revert l1; intro _))
  k_with "getMethod type:tuple" => (k_here; k_dflt (refine' tup_method (by k_asm) (by k_asm) (by k_is) ?_; k_whole))
  k_fill
  intro w mean mg mb dp un gd cn cs a ccd cl outer A₀ base h₀ L m news s i j k t u v Q E B F X N T hk hdp hu hret
  refine wpAny_call ?_
  k_dflt ktr_unf
  k_steps
  exact two_back (by assumption) (by assumption) (by assumption) hret
end
end Mine
end
theorem Mine.rs6 : True := by (k_with_none; trivial)
section
open PySem PySem.W PyProof.Rows Mine PySem.Calls PySem.Spec PySem.Challenge Builtin Builtin.ObjectAttr Builtin.Getset_descriptor
set_option maxRecDepth 100000
namespace Mine
theorem lk_special {prog : Program} {w : World} {h : Heap} (X : (Mine.K w.params).In h) : Looks (model prog w) h (specialOf (.ref 135) "__call__") (some (.builtin "type.__call__")) := Looks.of_peek X (by kernel_rfl)
theorem lk_isinst {prog : Program} {w : World} {h : Heap} (X : (Mine.K w.params).In h) : Looks (model prog w) h (isInstance (.ref 135) (.type "type")) true := Looks.of_peek X (by kernel_rfl)
theorem lk_mro {prog : Program} {w : World} {h : Heap} (X : (Mine.K w.params).In h) : Looks (model prog w) h (mroOf (.ref 135)) [.ref 135, .type "tuple", .type "object"] := Looks.of_peek X (by kernel_rfl)
theorem lk_made {prog : Program} {w : World} {h : Heap} (X : (Mine.K w.params).In h) : Looks (model prog w) h (Bind.madeBy (.ref 135)) none := Looks.of_peek X (by kernel_rfl)
theorem lk_self {prog : Program} {w : World} {h : Heap} (X : (Mine.K w.params).In h) : Looks (model prog w) h (isSubtype (.ref 135) (.ref 135)) true := Looks.of_peek X (by kernel_rfl)
theorem lk_top {prog : Program} {w : World} {h : Heap} (X : (Mine.K w.params).In h) : Looks (model prog w) h (isSubtype (.ref 135) (.type "object")) true := Looks.of_peek X (by kernel_rfl)
theorem lk_ty {P : Params} : typeIn (Mine.K P) (.ref 135) = some (.type "type") := by kernel_rfl
theorem lk_rd {P : Params} : readsIn (Mine.K P) 135 (.type "type") = true := by kernel_rfl
theorem lk_fc {P : Params} : findCls (Mine.K P) (.ref 135) (.type "type") (PySem.Str.ofString "__new__") = some (.get (.builtin "staticmethod.__get__") (.ref 136) .none (.ref 135)) := by kernel_rfl
theorem lk_sr {P : Params} : recIn (Mine.K P) 136 "staticmethod" = some (.ref 82 :: []) := by kernel_rfl
theorem lk_hd : handedIn (.ref 82) = true := by kernel_rfl
section
set_option maxHeartbeats 16000000 in
theorem match_tells {w : World} {mean : ExcName → Option Value} {mg mb : Str → Option Value}
   (dp un : Nat) (gd : Option (List Code)) (cn : Str) (cs : Scope) (a : Addr) (ccd : Value) (cl : List (Str × Addr)) (outer : List Env) (A₀ : Around) (base h₀ : Heap) (L : Addr) (m : Str → Option Value) (news : List (Addr × Obj)) (s : Shared)
   (i j k : Int) (t u v : Tok) (Q E : Value → Shared → Prop)
    (B : Below A₀ base outer h₀) (F : Fr h₀ L s.heap m) (X₀ : (K w.params).In h₀) (N : News h₀ L s.heap news) (T : Top Mine.q (looseW Mine.q loose) mean mg mb h₀) (hk : cs.kind = .function)
    (hdp : dp + 6 < recursionLimit) (hu : un + 30 < cLine)
    (hret : ∀ q d h' tk, Fr h₀ L h' m → News h₀ L h' ((q, mtObj i j k t u (v, d)) :: news) → (∀ p ∈ news, p.1 < q) → Q (.ref q) { s with heap := h', toks := tk }) :
    wpAny (model rw_wn0126_01.row.prog w) (ktrTop dp un gd cn cs L a ccd cl outer) (call (.ref 135) [.int i t, .int j u, .int k v]) Q E s := by
  have X := X₀.keeps F.keep
  have hC : s.heap.get? 135 = some (o135 w.params) := X _ _ (by rfl)
  have call := lk_special (prog := rw_wn0126_01.row.prog) (w := w) X
  have typ := lk_isinst (prog := rw_wn0126_01.row.prog) (w := w) X
  have hm := lk_mro (prog := rw_wn0126_01.row.prog) (w := w) X
  have made := lk_made (prog := rw_wn0126_01.row.prog) (w := w) X
  refine wpAny_call (codeAny_of_tree ?_)
  show wpAny _ _ (callAny (.ref 135) _) _ _ _
  refine nd_load hC ?_
  show wpAny _ _ (callAny.viaDunder (.ref 135) _) _ _ _
  unfold callAny.viaDunder
  refine wpAny_bind (call.at ?_)
  dsimp only
  rw [tc_bind]
  refine wpAny_bind (wpAny_pure (wpAny_bind (wpAny_pure ?_)))
  refine wpAny_pure (a := PySem.Fin.again (.call (.builtin "type.__call__") ⟨.ref 135 :: [.int i t, .int j u, .int k v], []⟩)) (And.intro rfl ?_)
  refine codeAny_call_builtin_at (Code.quiet_builtin _ (by decide +kernel)) entry_typeCall ?_
  with_reducible refine check_slot tc_kind tc_split typ (tc_args _ _ _) ?_
  unfold Builtin.«type.__call__»
  dsimp only
  rw [if_neg (by simp)]
  refine wpAny_bind (hm.at ?_)
  simp only [List.isEmpty_cons, Bool.false_eq_true, if_false]
  refine wpAny_bind (made.at ?_)
  dsimp only
  refine wpAny_bind (cls_sm (K := Mine.K w.params) (C := 135) (name := PySem.Str.ofString "__new__") (mc := .type "type") (p := 136) (f := .ref 82) (rest := []) F X₀ lk_ty lk_rd lk_fc lk_sr lk_hd ?_)
  refine wpAny_bind (wpAny_holding ?_)
  refine new_tells (dp + 1) _ _ cn cs a ccd cl outer A₀ base h₀ L m news _ i j k t u v _ _ B F X₀ N T hk ?c1 ?c2 ?_
  case c1 => walk_at "om"
  case c2 => first | (show un + 1 + 20 < cLine; walk_at "om") | (show un + 0 + 20 < cLine; walk_at "om") | (show un + 2 + 20 < cLine; walk_at "om") | (show un + 3 + 20 < cLine; walk_at "om")
  intro q d h' tk F' N' l
  have X' := X₀.keeps F'.keep
  have t1 : Looks (model rw_wn0126_01.row.prog w) h' (typeOf (.ref q)) (.ref 135) := (Looks.ld (N' _ (.head _)).1).andThen .now
  have s1 := lk_self (prog := rw_wn0126_01.row.prog) (w := w) X'
  have i1 := lk_init (prog := rw_wn0126_01.row.prog) (w := w) X'
  have made := lk_made (prog := rw_wn0126_01.row.prog) (w := w) X'
  have t2 : Looks (model rw_wn0126_01.row.prog w) h' (isInstance (.ref q) (.type "object")) true := t1.andThen (lk_top X')
  have t3 : Looks (model rw_wn0126_01.row.prog w) h' (isInstance (.ref q) (.ref 135)) true := t1.andThen s1
  have hfin := hret q d h' tk F' N' l
  refine wpAny_bind (t3.at ?_)
  simp only [Bool.not_true, Bool.false_eq_true, if_false]
  refine wpAny_bind (wpAny_holding ?_)
  unfold callSpecial? specialOf
  refine wpAny_bind (wpAny_bind (t1.at (i1.at ?_)))
  dsimp only
  refine wpAny_holding (wpAny_bind ?_)
  rw [oi_bind]
  refine wpAny_pure ?_
  dsimp only
  refine wpAny_bind (wpAny_call (codeAny_call_builtin oi_plain entry_oi ?_))
  simp only [List.cons_append, List.nil_append]
  with_reducible refine check_slot oi_kind oi_split t2 ?ao ?_
  case ao => (unfold argsOk; kernel_rfl)
  unfold Builtin.«object.__init__»
  simp only [List.cons_append, List.nil_append, List.isEmpty_cons, Bool.not_false, Bool.true_or, if_true]
  refine wpAny_bind (t1.at (wpAny_bind (i1.at (wpAny_bind (made.at ?_)))))
  rw [if_neg (by simp), if_neg (by simp)]
  refine wpAny_pure ?_
  refine wpAny_pure ?_
  dsimp only
  rw [if_neg (by simp)]
  exact wpAny_pure hfin
end
end Mine
end
section
open PySem PySem.W PyProof.Rows Mine PySem.Calls PySem.Spec
set_option maxRecDepth 100000
namespace Mine
/-- a turn of a while ends so that another may follow -/
inductive AgainS (h₀ : Heap) (L : Addr) (f : Heap → Nat → Shared) (s₃ : Shared) (n : Nat) (J : Nat → (Str → Option Value) → List (Addr × Obj) → Prop) : Prop
  | mk : ∀ h' tk m₂ news₂ n', s₃ = f h' tk → Fr h₀ L h' m₂ → News h₀ L h' news₂ → n' < n → J n' m₂ news₂ → AgainS h₀ L f s₃ n J
abbrev Again (h₀ : Heap) (L : Addr) (s s₃ : Shared) (n : Nat) (J : Nat → (Str → Option Value) → List (Addr × Obj) → Prop) : Prop := AgainS h₀ L (fun h tk => { s with heap := h, toks := tk }) s₃ n J
section
variable {prog : Program} {w : World} {A : Around} {E : Value → Shared → Prop} {s : Shared} {env : Env} {h₀ : Heap} {x : Str} {body : List Stmt} {Q : Flow → Shared → Prop}

/-- facts of a map, laid over it so that it computes -/
theorem fr_ov {L : Addr} {h : Heap} {m : Str → Option Value} (ps : List (Str × Value)) (h1 : Cst ps m) (F : Fr h₀ L h m) : Fr h₀ L h (kstB m ps) := by
  have e : kstB m ps = m := funext fun z => kstB_eq h1 fun _ => rfl
  rw [e]; exact F

/-- a loop over a range, by an invariant on the turn's number, the frame's map and the ledger -/
theorem range_ind {I : Addr} {a : Int} {n : Nat} (P : Nat → (Str → Option Value) → List (Addr × Obj) → Prop)
    (turn : ∀ i m tl t h tk, i < n → P i m tl → (∀ p ∈ tl, p.1 ≠ I) → Fr h₀ env.locals h (fun y => if y = x then some (.int (a + (i : Int)) t) else m y) →
      News h₀ env.locals h ((I, itR (a + ((i + 1 : Nat) : Int)) ((n : Int) - ((i + 1 : Nat) : Int))) :: tl) →
      wpAny (model prog w) A (execs body env) (UnrPost h₀ env.locals { s with heap := h, toks := tk } I (itR (a + ((i + 1 : Nat) : Int)) ((n : Int) - ((i + 1 : Nat) : Int))) (fun m' tl' => P (i + 1) m' tl') Q) E { s with heap := h, toks := tk })
    (done : ∀ m tl h tk, P n m tl → Fr h₀ env.locals h m → News h₀ env.locals h tl → Q .next { s with heap := h, toks := tk }) :
    ∀ k i m tl, i + k = n → P i m tl → (∀ p ∈ tl, p.1 ≠ I) → RangeRest prog w A E h₀ env x body Q s I a n k i m tl
  | 0, i, m, tl, e, hP, _ => RangeRest.zero fun h tk F N => done m tl h tk ((show i = n by walk_at "om") ▸ hP) F N
  | k + 1, i, m, tl, e, hP, hoff => RangeRest.succ fun t h tk F N => by
    refine wpAny_mono (turn i m tl t h tk (by walk_at "om") hP hoff F N) (fun f s₂ hf => ?_) fun _ _ z => z
    cases f with
    | ret v => exact hf
    | brk => exact hf
    | next =>
      obtain ⟨h', tk', m', tl', e1, F', N', off', hP'⟩ := hf
      exact ⟨h', tk', m', tl', e1, F', N', off', range_ind P turn done k (i + 1) m' tl' (by walk_at "om") hP' off'⟩
    | cont =>
      obtain ⟨h', tk', m', tl', e1, F', N', off', hP'⟩ := hf
      exact ⟨h', tk', m', tl', e1, F', N', off', range_ind P turn done k (i + 1) m' tl' (by walk_at "om") hP' off'⟩
/-- a while whose test is false at once -/
theorem while_no {test : Expr} {body : List Stmt} {pos : Pos} (hE : PassesOwn (model prog w) A env E)
    (h : wpAny (model prog w) A (isTrue test env (eval test env)) (fun b s₂ => b = false ∧ Q .next s₂) E s) : wpAny (model prog w) A (exec (.While test body [] pos) env) Q E s := by
  refine wpAny_While (codeAny_whileLoop (fun _ s' => s' = s) ?_ 0 rfl)
  rintro n s' rfl
  refine wpAny_mono h (fun b s₂ h₂ => ?_) hE
  obtain ⟨rfl, h₂⟩ := h₂
  simp only [Bool.false_eq_true, if_false]
  exact wpAny_execs_nil h₂
/-- a while by an invariant and a measure; a turn may return -/
theorem while_ind {L : Addr} {test : Expr} {body : List Stmt} {pos : Pos} {m : Str → Option Value} {news : List (Addr × Obj)} (J : Nat → (Str → Option Value) → List (Addr × Obj) → Prop) {n₀ : Nat}
    (F : Fr h₀ L s.heap m) (N : News h₀ L s.heap news) (hJ : J n₀ m news) (hE : PassesOwn (model prog w) A env E)
    (turn : ∀ n m₁ news₁ h₁ tk₁, Fr h₀ L h₁ m₁ → News h₀ L h₁ news₁ → J n m₁ news₁ →
      wpAny (model prog w) A (isTrue test env (eval test env)) (fun b s₂ =>
        if b = true then wpAny (model prog w) A (execs body env) (fun f s₃ => match f with
          | .ret v => Q (.ret v) s₃
          | .brk => Q .next s₃
          | _ => Again h₀ L s s₃ n J) E s₂ else Q .next s₂) E { s with heap := h₁, toks := tk₁ }) :
    wpAny (model prog w) A (exec (.While test body [] pos) env) Q E s := by
  refine wpAny_While (codeAny_whileLoop (fun n s' => ∃ h₁ tk₁ m₁ news₁, s' = { s with heap := h₁, toks := tk₁ } ∧ Fr h₀ L h₁ m₁ ∧ News h₀ L h₁ news₁ ∧ J n m₁ news₁) ?_ n₀ ⟨s.heap, s.toks, m, news, rfl, F, N, hJ⟩)
  rintro n s' ⟨h₁, tk₁, m₁, news₁, rfl, F₁, N₁, J₁⟩
  refine wpAny_mono (turn n m₁ news₁ h₁ tk₁ F₁ N₁ J₁) (fun b s₂ h₂ => ?_) hE
  cases b with
  | false =>
    simp only [Bool.false_eq_true, if_false] at h₂ ⊢
    exact wpAny_execs_nil h₂
  | true =>
    simp only [if_true] at h₂ ⊢
    refine wpAny_mono h₂ (fun f s₃ h₃ => ?_) hE
    cases f with
    | ret v => exact h₃
    | brk => exact h₃
    | next =>
      obtain ⟨h', tk, m₂, news₂, n', rfl, F₂, N₂, hn, J₂⟩ := h₃
      exact ⟨n', hn, h', tk, m₂, news₂, rfl, F₂, N₂, J₂⟩
    | cont =>
      obtain ⟨h', tk, m₂, news₂, n', rfl, F₂, N₂, hn, J₂⟩ := h₃
      exact ⟨n', hn, h', tk, m₂, news₂, rfl, F₂, N₂, J₂⟩
end
end Mine
end
section
open PySem PySem.W PyProof.Rows Mine PySem.Calls PySem.Spec PySem.Challenge
set_option maxRecDepth 100000
namespace Mine
noncomputable def forBody : Stmt → List Stmt
  | .For _ _ b _ _ => b
  | _ => []
noncomputable def flmLoop : List Stmt := by
  refine (fun (l : List Stmt) (_ : forBody (nth flmB 7) = l) => l) ?x ?h
  case h => (conv => lhs; whnf)
noncomputable def flmW1 : Stmt := by
  refine (fun (l : Stmt) (_ : nth flmB 8 = l) => l) ?x ?h
  case h => (conv => lhs; whnf)
noncomputable def flmW2 : Stmt := by
  refine (fun (l : Stmt) (_ : nth flmB 9 = l) => l) ?x ?h
  case h => (conv => lhs; whnf)
noncomputable def flmW3 : Stmt := by
  refine (fun (l : Stmt) (_ : nth flmB 10 = l) => l) ?x ?h
  case h => (conv => lhs; whnf)
noncomputable def flmW4 : Stmt := by
  refine (fun (l : Stmt) (_ : nth flmB 11 = l) => l) ?x ?h
  case h => (conv => lhs; whnf)
noncomputable abbrev flmN : Str := PySem.Str.ofString "SequenceMatcher.find_longest_match"
end Mine
end
local macro_rules | `(tactic| k_mem) => `(tactic| first | exact List.Mem.head _ | assumption | (refine' List.Mem.tail _ ?_; k_mem))
local macro_rules | `(tactic| passes_own) => `(tactic| assumption)
local macro_rules | `(tactic| k_subL) => `(tactic| first | exact Del.head | (apply Del.tail; k_subL))
section
open PySem PySem.W PyProof.Rows Mine PySem.Calls PySem.Spec PySem.Challenge
set_option maxRecDepth 100000
namespace Mine

/-! the first match, found from the left -/
noncomputable def hitAt (pos : Str → Option Nat) (bl bh : Nat) (x : Str) : Option Nat := match pos x with
  | some j => if bl ≤ j ∧ j < bh then some j else none
  | none => none
noncomputable def fstHit (pos : Str → Option Nat) (one : List Str) (al bl bh : Nat) : Nat → Option (Nat × Nat)
  | 0 => none
  | k + 1 => match fstHit pos one al bl bh k with
    | some r => some r
    | none => match one[al + k]? with
      | some x => (hitAt pos bl bh x).map fun j => (al + k, j)
      | none => none
noncomputable def bestI (al : Nat) : Option (Nat × Nat) → Int
  | some r => (r.1 : Int)
  | none => (al : Int)
noncomputable def bestJ (bl : Nat) : Option (Nat × Nat) → Int
  | some r => (r.2 : Int)
  | none => (bl : Int)
noncomputable def bestK : Option (Nat × Nat) → Int
  | some _ => 1
  | none => 0
structure FlmC where
  (aA bA dA qA nA : Addr)
  (al ah bl bh : Nat)
  (t1 t2 t3 t4 : Tok)
noncomputable def FlmC.ps (c : FlmC) : List (Str × Value) := [(PySem.Str.ofString "alo", .int (c.al : Int) c.t1), (PySem.Str.ofString "ahi", .int (c.ah : Int) c.t2), (PySem.Str.ofString "blo", .int (c.bl : Int) c.t3), (PySem.Str.ofString "bhi", .int (c.bh : Int) c.t4),
  (PySem.Str.ofString "a", .ref c.aA), (PySem.Str.ofString "b", .ref c.bA), (PySem.Str.ofString "b2j", .ref c.dA), (PySem.Str.ofString "isbjunk", .ref c.qA), (PySem.Str.ofString "nothing", .ref c.nA)]
inductive FlmBest (c : FlmC) (pos : Str → Option Nat) (one : List Str) (i : Nat) (m : Str → Option Value) : Prop
  | mk : ∀ v1 t1 v2 t2 v3 t3, (m (PySem.Str.ofString "besti") = some (.int v1 t1)) → (m (PySem.Str.ofString "bestj") = some (.int v2 t2)) → (m (PySem.Str.ofString "bestsize") = some (.int v3 t3)) → (v1 = bestI c.al (fstHit pos one c.al c.bl c.bh i) ∧ v2 = bestJ c.bl (fstHit pos one c.al c.bl c.bh i) ∧ v3 = bestK (fstHit pos one c.al c.bl c.bh i)) → FlmBest c pos one i m
inductive FlmJ2 (w : World) (c : FlmC) (pos : Str → Option Nat) (one : List Str) (i : Nat) (m : Str → Option Value) (tl : List (Addr × Obj)) : Prop
  | mk : ∀ d oJ ek, (m (PySem.Str.ofString "j2len") = some (.ref d)) → ((d, oJ) ∈ tl) → ((d == sysModules) = false) → (oJ.IsDictOf (intKind rw_wn0126_01.row.prog w) ek) → ((ek = [] ∨ 0 < i ∧ ((one[c.al + i - 1]?).bind pos).isSome = true)) → FlmJ2 w c pos one i m tl
structure FlmP (w : World) (N₀ : List (Addr × Obj)) (c : FlmC) (pos : Str → Option Nat) (one : List Str) (i : Nat) (m : Str → Option Value) (tl : List (Addr × Obj)) : Prop where
  sub : ∀ p ∈ N₀, p ∈ tl
  cst : Cst c.ps m
  best : FlmBest c pos one i m
  j2 : FlmJ2 w c pos one i m tl
theorem fst_next {pos : Str → Option Nat} {one : List Str} {al bl bh i : Nat} {x : Str} (hx : one[al + i]? = some x) : fstHit pos one al bl bh (i + 1) = match fstHit pos one al bl bh i with | some r => some r | none => (hitAt pos bl bh x).map fun j => (al + i, j) := by
  show (match fstHit pos one al bl bh i with | some r => some r | none => match one[al + i]? with | some x => (hitAt pos bl bh x).map fun j => (al + i, j) | none => none) = _
  rw [hx]
theorem fst_skip {pos : Str → Option Nat} {one : List Str} {al bl bh i : Nat} {x : Str} (hx : one[al + i]? = some x) (hh : hitAt pos bl bh x = none) : fstHit pos one al bl bh (i + 1) = fstHit pos one al bl bh i := by
  rw [fst_next hx, hh]
  cases fstHit pos one al bl bh i <;> rfl
structure FlmK (w : World) (N₀ : List (Addr × Obj)) (c : FlmC) (pos : Str → Option Nat) (one oth : List Str) (va vb : List Value) (na nb n0 : Nat) (oB : Obj) (kvs : List (Str × Value)) : Prop where
  haA : (c.aA, listOf va.toArray na) ∈ N₀
  hbA : (c.bA, listOf vb.toArray nb) ∈ N₀
  hdA : (c.dA, oB) ∈ N₀
  hoB : oB.IsDictOf (strKind rw_wn0126_01.row.prog w) kvs
  hdm : (c.dA == sysModules) = false
  hnA : (c.nA, listOf #[] n0) ∈ N₀
  sa : StrsAre va one
  sb : StrsAre vb oth
  get : ∀ x, match pos x with
    | some j => ∃ lj nj tj, valueAt kvs x = some (.ref lj) ∧ (lj, listOf #[.int (j : Int) tj] nj) ∈ N₀
    | none => valueAt kvs x = none
  adj : ∀ k x y j, one[k]? = some x → one[k + 1]? = some y → pos x = some j → pos y = none
  at_ : ∀ j y, oth[j]? = some y → pos y = some j
  lt : ∀ x j, pos x = some j → j < oth.length
  la : one.length < 1000
  lb : oth.length < 1000
theorem strs_get {vs : List Value} {xs : List Str} (h : StrsAre vs xs) : ∀ {k : Nat} {x : Str}, xs[k]? = some x → ∃ t, vs[k]? = some (.str x t) := by
  induction h with
  | nil => intro k x e; simp at e
  | cons x t _ ih =>
    intro k y e
    cases k with
    | zero => simp only [List.getElem?_cons_zero] at e ⊢; cases e; exact ⟨t, rfl⟩
    | succ k => simp only [List.getElem?_cons_succ] at e ⊢; exact ih e
set_option maxHeartbeats 16000000 in
theorem flm_turn : ∀ {w : World} (dp un : Nat) (gd : Option (List Code)) (outer : List Env) (g : Heap) (L : Addr) (m₁ : Str → Option Value) (tl : List (Addr × Obj)) (s : Shared) (h : Heap) (tk : Nat)
   (I : Addr) (N₀ : List (Addr × Obj)) (c : FlmC) (pos : Str → Option Nat) (one oth : List Str) (va vb : List Value) (na nb n0 : Nat) (oB : Obj) (kvs : List (Str × Value)) (i : Nat) (t : Tok) (x : Str) (it : Obj) (mg mb : Str → Option Value) (mean : ExcName → Option Value)
   (Q : Flow → Shared → Prop) (E : Value → Shared → Prop),
   (X : (K w.params).In g) → (T : Top q (looseW q loose) mean mg mb g) → FlmK w N₀ c pos one oth va vb na nb n0 oB kvs → FlmP w N₀ c pos one i m₁ tl →
   (F : Fr g L h (fun y => if y = PySem.Str.ofString "i" then some (.int ((c.al : Int) + (i : Int)) t) else m₁ y)) →
   (N : News g L h ((I, it) :: tl)) → (hoff : ∀ p ∈ tl, p.1 ≠ I) → (hx : one[c.al + i]? = some x) →
   (hE : PassesOwn (model rw_wn0126_01.row.prog w) (ktrTop dp un gd flmN flmS L 196 (.ref 195) [] outer) (envOf flmN flmS L 196 (.ref 195)) E) →
   wpAny (model rw_wn0126_01.row.prog w) (ktrTop dp un gd flmN flmS L 196 (.ref 195) [] outer) (execs flmLoop (envOf flmN flmS L 196 (.ref 195))) (UnrPost g L { s with heap := h, toks := tk } I it (fun m' tl' => FlmP w N₀ c pos one (i + 1) m' tl') Q) E { s with heap := h, toks := tk } := by
  k_with_none
  k_with "all" => first | assumption | exact allLt_ne (by first | assumption | exact And.right (by assumption) | exact And.right (And.right (by assumption)) | exact And.right (And.right (And.right (by assumption))) | exact And.right (And.right (And.right (And.right (by assumption)))) | exact And.right (And.right (And.right (And.right (And.right (by assumption))))) | exact And.right (And.right (And.right (And.right (And.right (And.right (by assumption)))))) | exact And.right (And.right (And.right (And.right (And.right (And.right (And.right (by assumption))))))) | exact And.right (And.right (And.right (And.right (And.right (And.right (And.right (And.right (by assumption)))))))) )
  k_with "getMethod ref" => (k_here; (with_reducible show wpAny _ _ (getMethod (Value.ref _) (PySem.Str.ofString "get") _) _ _ _); k_dflt (refine' kdg_method (knd := PySem.strKind _ _) (by k_asm) (by k_mem) (by k_asm) ?_; k_whole))
  k_with "call builtin:dict.get" => (k_here; k_dflt (refine' kdg_get2 (knd := PySem.strKind _ _) (by k_asm) (by k_mem) (by k_asm) (by k_asm) (strKind_is _ _ _ _) _ (by assumption) ?_; k_whole); dsimp only [Option.getD])
  k_with "subscriptTail" => (k_here; k_dflt (refine' lf_item (by k_asm) (by k_mem) ?_ ?_ (by assumption) ?_; (walk_at "om"); (walk_at "om"); k_whole))
  k_with "getAttr ref" => (k_here; (with_reducible show wpAny _ _ (getAttr (Value.ref _) (PySem.Str.ofString "get") _) _ _ _); k_dflt (refine' lf_dictattr (knd := PySem.intKind _ _) (by k_asm) (by k_asm) (by k_mem) (by k_asm) ?_; k_whole); intro _ _ _ _ l1; (try k_lt l1); (revert l1; intro _))
  k_with "pyIter ref" => ((with_reducible show wpAny _ _ (pyIter (Value.ref _)) (fun it s₂ => LoopAtV _ _ _ _ _ _ _ _ _ it s₂) _ _); k_dflt (refine' iter_listUnr (vs := []) (by rfl) (by k_asm) (by k_asm) (by k_mem) (by rfl) (by rfl) ?_; k_whole); intro _ l1; (try k_lt l1); (revert l1; intro _))
  k_with "pyIter ref" => ((with_reducible show wpAny _ _ (pyIter (Value.ref _)) (fun it s₂ => LoopAtV _ _ _ _ _ _ _ _ _ it s₂) _ _); k_dflt (refine' iter_listUnr (vs := [_]) (by rfl) (by k_asm) (by k_asm) (by k_mem) (by rfl) (by rfl) ?_; k_whole); intro _ l1; (try k_lt l1); (revert l1; intro _))
  k_with "callWith ref" => (k_here; k_dflt (refine' lf_callWith (by k_asm) (by k_mem) (by rfl) ?_; k_whole))
  k_with "And" => ((with_reducible show BmAt _ _ _ _ ∧ _); k_dflt (refine ⟨bm_at (by k_asm) (by k_mem), ?_⟩); (try dsimp only [List.nil_append, List.cons_append]))
  k_with "call ref" => (k_here; k_dflt (refine' lf_callget (by k_asm) (by k_mem) (by k_mem) (by k_asm) (by k_asm) ?_; k_whole))
  k_with "call ref" => (k_here; k_dflt (refine' lf_callin (by k_asm) (by k_mem) (by k_mem) ?_; k_whole); intro _)
  k_with "UnrEnd" => (k_dflt (refine' unr_del (by k_asm) (by k_asm) (by k_subL) (by k_all) ?_; k_whole))
  k_fill
  intro w dp un gd outer g L m₁ tl s h tk I N₀ c pos one oth va vb na nb n0 oB kvs i t x it mg mb mean Q E X T H P F N hoff hx hE
  obtain ⟨haA₀, hbA₀, hdA₀, hoB, hdm, hnA₀, sa, sb, get, adj, at_, ltb, la, lb⟩ := H
  obtain ⟨hsub, hcst, ⟨v1, b1, v2, b2, v3, b3, hm1, hm2, hm3, hz1, hz2, hz3⟩, d, oJ, ek, hm4, hd, hdm2, hoJ, hek⟩ := P
  have haA := hsub _ haA₀
  have hdA := hsub _ hdA₀
  have hnA := hsub _ hnA₀
  obtain ⟨tx, hit⟩ := strs_get sa hx
  have hit : va[((c.al : Int) + (i : Int)).toNat]? = some (.str x tx) := by rw [show ((c.al : Int) + (i : Int)).toNat = c.al + i by walk_at "om"]; exact hit
  have hlt : (c.al : Int) + (i : Int) < 1000 := by
    have := (List.getElem?_eq_some_iff.mp hx).1
    walk_at "om"
  have e : kstB m₁ (c.ps ++ [(PySem.Str.ofString "besti", .int v1 b1), (PySem.Str.ofString "bestj", .int v2 b2), (PySem.Str.ofString "bestsize", .int v3 b3), (PySem.Str.ofString "j2len", .ref d)]) = m₁ :=
    funext fun z => kstB_eq (by
      intro p hp
      rcases List.mem_append.mp hp with hp | hp
      · exact hcst p hp
      · simp only [List.mem_cons, List.not_mem_nil, or_false] at hp
        rcases hp with rfl | rfl | rfl | rfl <;> assumption) fun _ => rfl
  rw [← e] at F
  dsimp (instances := true) only [kstB, FlmC.ps, List.cons_append, List.nil_append] at F
  clear e hcst hm1 hm2 hm3 hm4
  have hgx := get x
  delta flmLoop
  dsimp only
  cases hp : pos x with
  | none =>
    rw [hp] at hgx
    dsimp only at hgx
    have hh : hitAt pos c.bl c.bh x = none := by unfold hitAt; rw [hp]
    all_goals k_steps
    all_goals (try k_mem)
    all_goals (
      refine ⟨?s1, ?s2, ?s3, ?s4⟩
      case s1 => (intro p hp; (repeat (first | exact hsub p hp | apply List.mem_cons_of_mem)))
      case s2 => (delta FlmC.ps; (repeat (first | exact cst_nil | refine cst_cons (by with_unfolding_all rfl) ?_ | exact List.forall_mem_nil _ | refine List.forall_mem_cons.mpr ⟨by with_unfolding_all rfl, ?_⟩)))
      case s3 => (refine ⟨_, _, _, _, _, _, by with_unfolding_all rfl, by with_unfolding_all rfl, by with_unfolding_all rfl, ?_⟩; (rw [fst_skip hx hh]; exact ⟨hz1, hz2, hz3⟩))
      case s4 => (refine ⟨_, _, _, by with_unfolding_all rfl, by k_mem, by assumption, by assumption, ?_⟩; first | exact Or.inl rfl | (refine Or.inr ⟨by walk_at "om", ?_⟩; (have e9 : c.al + (i + 1) - 1 = c.al + i := by walk_at "om"); rw [e9, hx, Option.bind_some, hp]; rfl)))
  | some j =>
    rw [hp] at hgx
    obtain ⟨lj, nj, tj, hlj, hmj₀⟩ := hgx
    have hmj := hsub _ hmj₀
    have hek0 : ek = [] := by
      rcases hek with e | ⟨h0, e⟩
      · exact e
      · obtain ⟨j', e'⟩ := Option.isSome_iff_exists.mp e
        obtain ⟨x', ex, ej⟩ := Option.bind_eq_some_iff.mp e'
        have := adj _ x' x j' ex (by rw [show c.al + i - 1 + 1 = c.al + i by walk_at "om"]; exact hx) ej
        rw [hp] at this
        cases this
    subst hek0
    have hjl := ltb _ _ hp
    by_cases hj1 : j < c.bl
    · have hh : hitAt pos c.bl c.bh x = none := by unfold hitAt; rw [hp]; exact if_neg (by walk_at "om")
      all_goals k_steps
      all_goals (try k_mem)
      all_goals (
      refine ⟨?s1, ?s2, ?s3, ?s4⟩
      case s1 => (intro p hp; (repeat (first | exact hsub p hp | apply List.mem_cons_of_mem)))
      case s2 => (delta FlmC.ps; (repeat (first | exact cst_nil | refine cst_cons (by with_unfolding_all rfl) ?_ | exact List.forall_mem_nil _ | refine List.forall_mem_cons.mpr ⟨by with_unfolding_all rfl, ?_⟩)))
      case s3 => (refine ⟨_, _, _, _, _, _, by with_unfolding_all rfl, by with_unfolding_all rfl, by with_unfolding_all rfl, ?_⟩; (rw [fst_skip hx hh]; exact ⟨hz1, hz2, hz3⟩))
      case s4 => (refine ⟨_, _, _, by with_unfolding_all rfl, by k_mem, by assumption, by assumption, ?_⟩; first | exact Or.inl rfl | (refine Or.inr ⟨by walk_at "om", ?_⟩; (have e9 : c.al + (i + 1) - 1 = c.al + i := by walk_at "om"); rw [e9, hx, Option.bind_some, hp]; rfl)))
    · by_cases hj2 : c.bh ≤ j
      · have hh : hitAt pos c.bl c.bh x = none := by unfold hitAt; rw [hp]; exact if_neg (by walk_at "om")
        all_goals k_steps
        all_goals (try k_mem)
        all_goals (
      refine ⟨?s1, ?s2, ?s3, ?s4⟩
      case s1 => (intro p hp; (repeat (first | exact hsub p hp | apply List.mem_cons_of_mem)))
      case s2 => (delta FlmC.ps; (repeat (first | exact cst_nil | refine cst_cons (by with_unfolding_all rfl) ?_ | exact List.forall_mem_nil _ | refine List.forall_mem_cons.mpr ⟨by with_unfolding_all rfl, ?_⟩)))
      case s3 => (refine ⟨_, _, _, _, _, _, by with_unfolding_all rfl, by with_unfolding_all rfl, by with_unfolding_all rfl, ?_⟩; (rw [fst_skip hx hh]; exact ⟨hz1, hz2, hz3⟩))
      case s4 => (refine ⟨_, _, _, by with_unfolding_all rfl, by k_mem, by assumption, by assumption, ?_⟩; first | exact Or.inl rfl | (refine Or.inr ⟨by walk_at "om", ?_⟩; (have e9 : c.al + (i + 1) - 1 = c.al + i := by walk_at "om"); rw [e9, hx, Option.bind_some, hp]; rfl)))
      · have hh : hitAt pos c.bl c.bh x = some j := by unfold hitAt; rw [hp]; exact if_pos (by walk_at "om")
        cases hf : fstHit pos one c.al c.bl c.bh i <;> rw [hf] at hz1 hz2 hz3 <;> dsimp only [bestI, bestJ, bestK] at hz1 hz2 hz3
        all_goals k_steps
        all_goals (try k_mem)
        all_goals (
      refine ⟨?s1, ?s2, ?s3, ?s4⟩
      case s1 => (intro p hp; (repeat (first | exact hsub p hp | apply List.mem_cons_of_mem)))
      case s2 => (delta FlmC.ps; (repeat (first | exact cst_nil | refine cst_cons (by with_unfolding_all rfl) ?_ | exact List.forall_mem_nil _ | refine List.forall_mem_cons.mpr ⟨by with_unfolding_all rfl, ?_⟩)))
      case s3 => (refine ⟨_, _, _, _, _, _, by with_unfolding_all rfl, by with_unfolding_all rfl, by with_unfolding_all rfl, ?_⟩; (rw [fst_next hx]; simp only [hf, hh, hz1, hz2, hz3, Option.map_some, Option.map_none, bestI, bestJ, bestK] <;> first | (refine ⟨?_, ?_, ?_⟩ <;> walk_at "om") | trivial))
      case s4 => (refine ⟨_, _, _, by with_unfolding_all rfl, by k_mem, by assumption, by assumption, ?_⟩; first | exact Or.inl rfl | (refine Or.inr ⟨by walk_at "om", ?_⟩; (have e9 : c.al + (i + 1) - 1 = c.al + i := by walk_at "om"); rw [e9, hx, Option.bind_some, hp]; rfl)))
end Mine
end
theorem Mine.rs9 : True := by (k_with_none; trivial)
section
open PySem PySem.W PyProof.Rows Mine PySem.Calls PySem.Spec PySem.Challenge
set_option maxRecDepth 100000
namespace Mine
end Mine
end
section
open PySem PySem.W PyProof.Rows Mine PySem.Calls PySem.Spec PySem.Challenge
set_option maxRecDepth 100000
namespace Mine
section
set_option maxHeartbeats 8000000 in
theorem flm_w1 : ∀ {w : World} (dp un : Nat) (gd : Option (List Code)) (outer : List Env) (g : Heap) (L : Addr) (m₁ : Str → Option Value) (tl : List (Addr × Obj)) (s : Shared)
   (aA bA qA jA sn : Addr) (st : SetTable) (va vb : List Value) (na nb : Nat) (al ah bl bh : Int) (u1 u2 u3 u4 b1 b2 b3 : Tok) (v1 v2 v3 : Int) (mg mb : Str → Option Value) (mean : ExcName → Option Value)
   (Q : Flow → Shared → Prop) (E : Value → Shared → Prop),
   (X : (K w.params).In g) → (T : Top q (looseW q loose) mean mg mb g) → 
   (F : Fr g L s.heap m₁) → (hm : Cst [(PySem.Str.ofString "a", .ref aA), (PySem.Str.ofString "b", .ref bA), (PySem.Str.ofString "isbjunk", .ref qA), (PySem.Str.ofString "alo", .int al u1), (PySem.Str.ofString "blo", .int bl u3), (PySem.Str.ofString "besti", .int v1 b1), (PySem.Str.ofString "bestj", .int v2 b2), (PySem.Str.ofString "bestsize", .int v3 b3)] m₁) → (N : News g L s.heap tl) →
   (aA, listOf va.toArray na) ∈ tl → (bA, listOf vb.toArray nb) ∈ tl → (qA, bmObj "set.__contains__" jA) ∈ tl → (jA, setObj sn st) ∈ tl → 
   0 ≤ al → 0 ≤ bl → 0 ≤ v1 → 0 ≤ v2 → 0 ≤ v3 → v1 < 1000 → v2 < 1000 → v3 < 1000 → (al < v1 → bl < v2 → ∃ x tx y ty, va[(v1 - 1).toNat]? = some (.str x tx) ∧ vb[(v2 - 1).toNat]? = some (.str y ty) ∧ x ≠ y) →
   (hE : PassesOwn (model rw_wn0126_01.row.prog w) (ktrTop dp un gd flmN flmS L 196 (.ref 195) [] outer) (envOf flmN flmS L 196 (.ref 195)) E) →
   (hret : ∀ tk', Q .next { s with toks := tk' }) →
   wpAny (model rw_wn0126_01.row.prog w) (ktrTop dp un gd flmN flmS L 196 (.ref 195) [] outer) (exec flmW1 (envOf flmN flmS L 196 (.ref 195))) Q E s := by
  k_with_none
  k_with "all" => first | assumption | exact allLt_ne (by first | assumption | exact And.right (by assumption) | exact And.right (And.right (by assumption)) | exact And.right (And.right (And.right (by assumption))) | exact And.right (And.right (And.right (And.right (by assumption)))) | exact And.right (And.right (And.right (And.right (And.right (by assumption))))) | exact And.right (And.right (And.right (And.right (And.right (And.right (by assumption)))))) | exact And.right (And.right (And.right (And.right (And.right (And.right (And.right (by assumption))))))) | exact And.right (And.right (And.right (And.right (And.right (And.right (And.right (And.right (by assumption)))))))) )
  k_with "getMethod ref" => (k_here; (with_reducible show wpAny _ _ (getMethod (Value.ref _) (PySem.Str.ofString "get") _) _ _ _); k_dflt (refine' kdg_method (knd := PySem.strKind _ _) (by k_asm) (by k_mem) (by k_asm) ?_; k_whole))
  k_with "call builtin:dict.get" => (k_here; k_dflt (refine' kdg_get2 (knd := PySem.strKind _ _) (by k_asm) (by k_mem) (by k_asm) (by k_asm) (strKind_is _ _ _ _) _ (by assumption) ?_; k_whole); dsimp only [Option.getD])
  k_with "subscriptTail" => (k_here; k_dflt (refine' lf_item (by k_asm) (by k_mem) ?_ ?_ (by assumption) ?_; (walk_at "om"); (walk_at "om"); k_whole))
  k_with "getAttr ref" => (k_here; (with_reducible show wpAny _ _ (getAttr (Value.ref _) (PySem.Str.ofString "get") _) _ _ _); k_dflt (refine' lf_dictattr (knd := PySem.intKind _ _) (by k_asm) (by k_asm) (by k_mem) (by k_asm) ?_; k_whole); intro _ _ _ _ l1; (try k_lt l1); (revert l1; intro _))
  k_with "pyIter ref" => ((with_reducible show wpAny _ _ (pyIter (Value.ref _)) (fun it s₂ => LoopAtV _ _ _ _ _ _ _ _ _ it s₂) _ _); k_dflt (refine' iter_listUnr (vs := []) (by rfl) (by k_asm) (by k_asm) (by k_mem) (by rfl) (by rfl) ?_; k_whole); intro _ l1; (try k_lt l1); (revert l1; intro _))
  k_with "pyIter ref" => ((with_reducible show wpAny _ _ (pyIter (Value.ref _)) (fun it s₂ => LoopAtV _ _ _ _ _ _ _ _ _ it s₂) _ _); k_dflt (refine' iter_listUnr (vs := [_]) (by rfl) (by k_asm) (by k_asm) (by k_mem) (by rfl) (by rfl) ?_; k_whole); intro _ l1; (try k_lt l1); (revert l1; intro _))
  k_with "callWith ref" => (k_here; k_dflt (refine' lf_callWith (by k_asm) (by k_mem) (by rfl) ?_; k_whole))
  k_with "And" => ((with_reducible show BmAt _ _ _ _ ∧ _); k_dflt (refine ⟨bm_at (by k_asm) (by k_mem), ?_⟩); (try dsimp only [List.nil_append, List.cons_append]))
  k_with "call ref" => (k_here; k_dflt (refine' lf_callget (by k_asm) (by k_mem) (by k_mem) (by k_asm) (by k_asm) ?_; k_whole))
  k_with "call ref" => (k_here; k_dflt (refine' lf_callin (by k_asm) (by k_mem) (by k_mem) ?_; k_whole); intro _)
  k_with "UnrEnd" => (k_dflt (refine' unr_del (by k_asm) (by k_asm) (by k_subL) (by k_all) ?_; k_whole))
  k_fill
  intro w dp un gd outer g L m₁ tl s aA bA qA jA sn st va vb na nb al ah bl bh u1 u2 u3 u4 b1 b2 b3 v1 v2 v3 mg mb mean Q E X T F hm N haA hbA hqA hjA h0 h0' hv1 hv2 hv3 h1 h2 h3 hf hE hret
  have F := fr_ov _ hm F
  dsimp (instances := true) only [kstB] at F
  clear hm
  delta flmW1
  dsimp only
  refine while_no hE ?_
  by_cases c1 : al < v1
  · by_cases c2 : bl < v2
    · obtain ⟨x, tx, y, ty, e1, e2, e3⟩ := hf c1 c2
      k_steps
      all_goals (first | exact hret _ | exact True.intro | rfl | (exact absurd (by assumption) e3) | (exact absurd (Eq.symm (by assumption)) e3) | exact absurd (of_decide_eq_true (by assumption)) e3)
    · k_steps
      all_goals (first | exact hret _ | exact True.intro)
  · k_steps
    all_goals (first | exact hret _ | exact True.intro)

set_option maxHeartbeats 8000000 in
theorem flm_w2 : ∀ {w : World} (dp un : Nat) (gd : Option (List Code)) (outer : List Env) (g : Heap) (L : Addr) (m₁ : Str → Option Value) (tl : List (Addr × Obj)) (s : Shared)
   (aA bA qA jA sn : Addr) (st : SetTable) (va vb : List Value) (na nb : Nat) (al ah bl bh : Int) (u1 u2 u3 u4 b1 b2 b3 : Tok) (v1 v2 v3 : Int) (mg mb : Str → Option Value) (mean : ExcName → Option Value)
   (Q : Flow → Shared → Prop) (E : Value → Shared → Prop),
   (X : (K w.params).In g) → (T : Top q (looseW q loose) mean mg mb g) → 
   (F : Fr g L s.heap m₁) → (hm : Cst [(PySem.Str.ofString "a", .ref aA), (PySem.Str.ofString "b", .ref bA), (PySem.Str.ofString "isbjunk", .ref qA), (PySem.Str.ofString "ahi", .int ah u2), (PySem.Str.ofString "bhi", .int bh u4), (PySem.Str.ofString "besti", .int v1 b1), (PySem.Str.ofString "bestj", .int v2 b2), (PySem.Str.ofString "bestsize", .int v3 b3)] m₁) → (N : News g L s.heap tl) →
   (aA, listOf va.toArray na) ∈ tl → (bA, listOf vb.toArray nb) ∈ tl → (qA, bmObj "set.__contains__" jA) ∈ tl → (jA, setObj sn st) ∈ tl → 
   0 ≤ al → 0 ≤ bl → 0 ≤ v1 → 0 ≤ v2 → 0 ≤ v3 → v1 < 1000 → v2 < 1000 → v3 < 1000 → (v1 + v3 < ah → v2 + v3 < bh → ∃ x tx y ty, va[(v1 + v3).toNat]? = some (.str x tx) ∧ vb[(v2 + v3).toNat]? = some (.str y ty) ∧ x ≠ y) →
   (hE : PassesOwn (model rw_wn0126_01.row.prog w) (ktrTop dp un gd flmN flmS L 196 (.ref 195) [] outer) (envOf flmN flmS L 196 (.ref 195)) E) →
   (hret : ∀ tk', Q .next { s with toks := tk' }) →
   wpAny (model rw_wn0126_01.row.prog w) (ktrTop dp un gd flmN flmS L 196 (.ref 195) [] outer) (exec flmW2 (envOf flmN flmS L 196 (.ref 195))) Q E s := by
  k_with_none
  k_with "all" => first | assumption | exact allLt_ne (by first | assumption | exact And.right (by assumption) | exact And.right (And.right (by assumption)) | exact And.right (And.right (And.right (by assumption))) | exact And.right (And.right (And.right (And.right (by assumption)))) | exact And.right (And.right (And.right (And.right (And.right (by assumption))))) | exact And.right (And.right (And.right (And.right (And.right (And.right (by assumption)))))) | exact And.right (And.right (And.right (And.right (And.right (And.right (And.right (by assumption))))))) | exact And.right (And.right (And.right (And.right (And.right (And.right (And.right (And.right (by assumption)))))))) )
  k_with "getMethod ref" => (k_here; (with_reducible show wpAny _ _ (getMethod (Value.ref _) (PySem.Str.ofString "get") _) _ _ _); k_dflt (refine' kdg_method (knd := PySem.strKind _ _) (by k_asm) (by k_mem) (by k_asm) ?_; k_whole))
  k_with "call builtin:dict.get" => (k_here; k_dflt (refine' kdg_get2 (knd := PySem.strKind _ _) (by k_asm) (by k_mem) (by k_asm) (by k_asm) (strKind_is _ _ _ _) _ (by assumption) ?_; k_whole); dsimp only [Option.getD])
  k_with "subscriptTail" => (k_here; k_dflt (refine' lf_item (by k_asm) (by k_mem) ?_ ?_ (by assumption) ?_; (walk_at "om"); (walk_at "om"); k_whole))
  k_with "getAttr ref" => (k_here; (with_reducible show wpAny _ _ (getAttr (Value.ref _) (PySem.Str.ofString "get") _) _ _ _); k_dflt (refine' lf_dictattr (knd := PySem.intKind _ _) (by k_asm) (by k_asm) (by k_mem) (by k_asm) ?_; k_whole); intro _ _ _ _ l1; (try k_lt l1); (revert l1; intro _))
  k_with "pyIter ref" => ((with_reducible show wpAny _ _ (pyIter (Value.ref _)) (fun it s₂ => LoopAtV _ _ _ _ _ _ _ _ _ it s₂) _ _); k_dflt (refine' iter_listUnr (vs := []) (by rfl) (by k_asm) (by k_asm) (by k_mem) (by rfl) (by rfl) ?_; k_whole); intro _ l1; (try k_lt l1); (revert l1; intro _))
  k_with "pyIter ref" => ((with_reducible show wpAny _ _ (pyIter (Value.ref _)) (fun it s₂ => LoopAtV _ _ _ _ _ _ _ _ _ it s₂) _ _); k_dflt (refine' iter_listUnr (vs := [_]) (by rfl) (by k_asm) (by k_asm) (by k_mem) (by rfl) (by rfl) ?_; k_whole); intro _ l1; (try k_lt l1); (revert l1; intro _))
  k_with "callWith ref" => (k_here; k_dflt (refine' lf_callWith (by k_asm) (by k_mem) (by rfl) ?_; k_whole))
  k_with "And" => ((with_reducible show BmAt _ _ _ _ ∧ _); k_dflt (refine ⟨bm_at (by k_asm) (by k_mem), ?_⟩); (try dsimp only [List.nil_append, List.cons_append]))
  k_with "call ref" => (k_here; k_dflt (refine' lf_callget (by k_asm) (by k_mem) (by k_mem) (by k_asm) (by k_asm) ?_; k_whole))
  k_with "call ref" => (k_here; k_dflt (refine' lf_callin (by k_asm) (by k_mem) (by k_mem) ?_; k_whole); intro _)
  k_with "UnrEnd" => (k_dflt (refine' unr_del (by k_asm) (by k_asm) (by k_subL) (by k_all) ?_; k_whole))
  k_fill
  intro w dp un gd outer g L m₁ tl s aA bA qA jA sn st va vb na nb al ah bl bh u1 u2 u3 u4 b1 b2 b3 v1 v2 v3 mg mb mean Q E X T F hm N haA hbA hqA hjA h0 h0' hv1 hv2 hv3 h1 h2 h3 hf hE hret
  have F := fr_ov _ hm F
  dsimp (instances := true) only [kstB] at F
  clear hm
  delta flmW2
  dsimp only
  refine while_no hE ?_
  by_cases c1 : v1 + v3 < ah
  · by_cases c2 : v2 + v3 < bh
    · obtain ⟨x, tx, y, ty, e1, e2, e3⟩ := hf c1 c2
      k_steps
      all_goals (first | exact hret _ | exact True.intro | rfl | (exact absurd (by assumption) e3) | (exact absurd (Eq.symm (by assumption)) e3) | exact absurd (of_decide_eq_true (by assumption)) e3)
    · k_steps
      all_goals (first | exact hret _ | exact True.intro)
  · k_steps
    all_goals (first | exact hret _ | exact True.intro)

set_option maxHeartbeats 8000000 in
theorem flm_w3 : ∀ {w : World} (dp un : Nat) (gd : Option (List Code)) (outer : List Env) (g : Heap) (L : Addr) (m₁ : Str → Option Value) (tl : List (Addr × Obj)) (s : Shared)
   (aA bA qA jA sn : Addr) (st : SetTable) (va vb : List Value) (na nb : Nat) (al ah bl bh : Int) (u1 u2 u3 u4 b1 b2 b3 : Tok) (v1 v2 v3 : Int) (mg mb : Str → Option Value) (mean : ExcName → Option Value)
   (Q : Flow → Shared → Prop) (E : Value → Shared → Prop),
   (X : (K w.params).In g) → (T : Top q (looseW q loose) mean mg mb g) → 
   (F : Fr g L s.heap m₁) → (hm : Cst [(PySem.Str.ofString "a", .ref aA), (PySem.Str.ofString "b", .ref bA), (PySem.Str.ofString "isbjunk", .ref qA), (PySem.Str.ofString "alo", .int al u1), (PySem.Str.ofString "blo", .int bl u3), (PySem.Str.ofString "besti", .int v1 b1), (PySem.Str.ofString "bestj", .int v2 b2), (PySem.Str.ofString "bestsize", .int v3 b3)] m₁) → (N : News g L s.heap tl) →
   (aA, listOf va.toArray na) ∈ tl → (bA, listOf vb.toArray nb) ∈ tl → (qA, bmObj "set.__contains__" jA) ∈ tl → (jA, setObj sn st) ∈ tl → 
   0 ≤ al → 0 ≤ bl → 0 ≤ v1 → 0 ≤ v2 → 0 ≤ v3 → v1 < 1000 → v2 < 1000 → v3 < 1000 → (al < v1 → bl < v2 → ∃ x tx y ty, va[(v1 - 1).toNat]? = some (.str x tx) ∧ vb[(v2 - 1).toNat]? = some (.str y ty) ∧ x ≠ y) →
   (hE : PassesOwn (model rw_wn0126_01.row.prog w) (ktrTop dp un gd flmN flmS L 196 (.ref 195) [] outer) (envOf flmN flmS L 196 (.ref 195)) E) →
   (hret : ∀ tk', Q .next { s with toks := tk' }) →
   wpAny (model rw_wn0126_01.row.prog w) (ktrTop dp un gd flmN flmS L 196 (.ref 195) [] outer) (exec flmW3 (envOf flmN flmS L 196 (.ref 195))) Q E s := by
  k_with_none
  k_with "all" => first | assumption | exact allLt_ne (by first | assumption | exact And.right (by assumption) | exact And.right (And.right (by assumption)) | exact And.right (And.right (And.right (by assumption))) | exact And.right (And.right (And.right (And.right (by assumption)))) | exact And.right (And.right (And.right (And.right (And.right (by assumption))))) | exact And.right (And.right (And.right (And.right (And.right (And.right (by assumption)))))) | exact And.right (And.right (And.right (And.right (And.right (And.right (And.right (by assumption))))))) | exact And.right (And.right (And.right (And.right (And.right (And.right (And.right (And.right (by assumption)))))))) )
  k_with "getMethod ref" => (k_here; (with_reducible show wpAny _ _ (getMethod (Value.ref _) (PySem.Str.ofString "get") _) _ _ _); k_dflt (refine' kdg_method (knd := PySem.strKind _ _) (by k_asm) (by k_mem) (by k_asm) ?_; k_whole))
  k_with "call builtin:dict.get" => (k_here; k_dflt (refine' kdg_get2 (knd := PySem.strKind _ _) (by k_asm) (by k_mem) (by k_asm) (by k_asm) (strKind_is _ _ _ _) _ (by assumption) ?_; k_whole); dsimp only [Option.getD])
  k_with "subscriptTail" => (k_here; k_dflt (refine' lf_item (by k_asm) (by k_mem) ?_ ?_ (by assumption) ?_; (walk_at "om"); (walk_at "om"); k_whole))
  k_with "getAttr ref" => (k_here; (with_reducible show wpAny _ _ (getAttr (Value.ref _) (PySem.Str.ofString "get") _) _ _ _); k_dflt (refine' lf_dictattr (knd := PySem.intKind _ _) (by k_asm) (by k_asm) (by k_mem) (by k_asm) ?_; k_whole); intro _ _ _ _ l1; (try k_lt l1); (revert l1; intro _))
  k_with "pyIter ref" => ((with_reducible show wpAny _ _ (pyIter (Value.ref _)) (fun it s₂ => LoopAtV _ _ _ _ _ _ _ _ _ it s₂) _ _); k_dflt (refine' iter_listUnr (vs := []) (by rfl) (by k_asm) (by k_asm) (by k_mem) (by rfl) (by rfl) ?_; k_whole); intro _ l1; (try k_lt l1); (revert l1; intro _))
  k_with "pyIter ref" => ((with_reducible show wpAny _ _ (pyIter (Value.ref _)) (fun it s₂ => LoopAtV _ _ _ _ _ _ _ _ _ it s₂) _ _); k_dflt (refine' iter_listUnr (vs := [_]) (by rfl) (by k_asm) (by k_asm) (by k_mem) (by rfl) (by rfl) ?_; k_whole); intro _ l1; (try k_lt l1); (revert l1; intro _))
  k_with "callWith ref" => (k_here; k_dflt (refine' lf_callWith (by k_asm) (by k_mem) (by rfl) ?_; k_whole))
  k_with "And" => ((with_reducible show BmAt _ _ _ _ ∧ _); k_dflt (refine ⟨bm_at (by k_asm) (by k_mem), ?_⟩); (try dsimp only [List.nil_append, List.cons_append]))
  k_with "call ref" => (k_here; k_dflt (refine' lf_callget (by k_asm) (by k_mem) (by k_mem) (by k_asm) (by k_asm) ?_; k_whole))
  k_with "call ref" => (k_here; k_dflt (refine' lf_callin (by k_asm) (by k_mem) (by k_mem) ?_; k_whole); intro _)
  k_with "UnrEnd" => (k_dflt (refine' unr_del (by k_asm) (by k_asm) (by k_subL) (by k_all) ?_; k_whole))
  k_fill
  intro w dp un gd outer g L m₁ tl s aA bA qA jA sn st va vb na nb al ah bl bh u1 u2 u3 u4 b1 b2 b3 v1 v2 v3 mg mb mean Q E X T F hm N haA hbA hqA hjA h0 h0' hv1 hv2 hv3 h1 h2 h3 hf hE hret
  have F := fr_ov _ hm F
  dsimp (instances := true) only [kstB] at F
  clear hm
  delta flmW3
  dsimp only
  refine while_no hE ?_
  by_cases c1 : al < v1
  · by_cases c2 : bl < v2
    · obtain ⟨x, tx, y, ty, e1, e2, e3⟩ := hf c1 c2
      k_steps
      all_goals (first | exact hret _ | exact True.intro | rfl | (exact absurd (by assumption) e3) | (exact absurd (Eq.symm (by assumption)) e3) | exact absurd (of_decide_eq_true (by assumption)) e3)
    · k_steps
      all_goals (first | exact hret _ | exact True.intro)
  · k_steps
    all_goals (first | exact hret _ | exact True.intro)

set_option maxHeartbeats 8000000 in
theorem flm_w4 : ∀ {w : World} (dp un : Nat) (gd : Option (List Code)) (outer : List Env) (g : Heap) (L : Addr) (m₁ : Str → Option Value) (tl : List (Addr × Obj)) (s : Shared)
   (aA bA qA jA sn : Addr) (st : SetTable) (va vb : List Value) (na nb : Nat) (al ah bl bh : Int) (u1 u2 u3 u4 b1 b2 b3 : Tok) (v1 v2 v3 : Int) (mg mb : Str → Option Value) (mean : ExcName → Option Value)
   (Q : Flow → Shared → Prop) (E : Value → Shared → Prop),
   (X : (K w.params).In g) → (T : Top q (looseW q loose) mean mg mb g) → 
   (F : Fr g L s.heap m₁) → (hm : Cst [(PySem.Str.ofString "a", .ref aA), (PySem.Str.ofString "b", .ref bA), (PySem.Str.ofString "isbjunk", .ref qA), (PySem.Str.ofString "ahi", .int ah u2), (PySem.Str.ofString "bhi", .int bh u4), (PySem.Str.ofString "besti", .int v1 b1), (PySem.Str.ofString "bestj", .int v2 b2), (PySem.Str.ofString "bestsize", .int v3 b3)] m₁) → (N : News g L s.heap tl) →
   (aA, listOf va.toArray na) ∈ tl → (bA, listOf vb.toArray nb) ∈ tl → (qA, bmObj "set.__contains__" jA) ∈ tl → (jA, setObj sn st) ∈ tl → 
   0 ≤ al → 0 ≤ bl → 0 ≤ v1 → 0 ≤ v2 → 0 ≤ v3 → v1 < 1000 → v2 < 1000 → v3 < 1000 → (v1 + v3 < ah → v2 + v3 < bh → ∃ x tx y ty, va[(v1 + v3).toNat]? = some (.str x tx) ∧ vb[(v2 + v3).toNat]? = some (.str y ty) ∧ x ≠ y) →
   (hE : PassesOwn (model rw_wn0126_01.row.prog w) (ktrTop dp un gd flmN flmS L 196 (.ref 195) [] outer) (envOf flmN flmS L 196 (.ref 195)) E) →
   (hret : ∀ tk', Q .next { s with toks := tk' }) →
   wpAny (model rw_wn0126_01.row.prog w) (ktrTop dp un gd flmN flmS L 196 (.ref 195) [] outer) (exec flmW4 (envOf flmN flmS L 196 (.ref 195))) Q E s := by
  k_with_none
  k_with "all" => first | assumption | exact allLt_ne (by first | assumption | exact And.right (by assumption) | exact And.right (And.right (by assumption)) | exact And.right (And.right (And.right (by assumption))) | exact And.right (And.right (And.right (And.right (by assumption)))) | exact And.right (And.right (And.right (And.right (And.right (by assumption))))) | exact And.right (And.right (And.right (And.right (And.right (And.right (by assumption)))))) | exact And.right (And.right (And.right (And.right (And.right (And.right (And.right (by assumption))))))) | exact And.right (And.right (And.right (And.right (And.right (And.right (And.right (And.right (by assumption)))))))) )
  k_with "getMethod ref" => (k_here; (with_reducible show wpAny _ _ (getMethod (Value.ref _) (PySem.Str.ofString "get") _) _ _ _); k_dflt (refine' kdg_method (knd := PySem.strKind _ _) (by k_asm) (by k_mem) (by k_asm) ?_; k_whole))
  k_with "call builtin:dict.get" => (k_here; k_dflt (refine' kdg_get2 (knd := PySem.strKind _ _) (by k_asm) (by k_mem) (by k_asm) (by k_asm) (strKind_is _ _ _ _) _ (by assumption) ?_; k_whole); dsimp only [Option.getD])
  k_with "subscriptTail" => (k_here; k_dflt (refine' lf_item (by k_asm) (by k_mem) ?_ ?_ (by assumption) ?_; (walk_at "om"); (walk_at "om"); k_whole))
  k_with "getAttr ref" => (k_here; (with_reducible show wpAny _ _ (getAttr (Value.ref _) (PySem.Str.ofString "get") _) _ _ _); k_dflt (refine' lf_dictattr (knd := PySem.intKind _ _) (by k_asm) (by k_asm) (by k_mem) (by k_asm) ?_; k_whole); intro _ _ _ _ l1; (try k_lt l1); (revert l1; intro _))
  k_with "pyIter ref" => ((with_reducible show wpAny _ _ (pyIter (Value.ref _)) (fun it s₂ => LoopAtV _ _ _ _ _ _ _ _ _ it s₂) _ _); k_dflt (refine' iter_listUnr (vs := []) (by rfl) (by k_asm) (by k_asm) (by k_mem) (by rfl) (by rfl) ?_; k_whole); intro _ l1; (try k_lt l1); (revert l1; intro _))
  k_with "pyIter ref" => ((with_reducible show wpAny _ _ (pyIter (Value.ref _)) (fun it s₂ => LoopAtV _ _ _ _ _ _ _ _ _ it s₂) _ _); k_dflt (refine' iter_listUnr (vs := [_]) (by rfl) (by k_asm) (by k_asm) (by k_mem) (by rfl) (by rfl) ?_; k_whole); intro _ l1; (try k_lt l1); (revert l1; intro _))
  k_with "callWith ref" => (k_here; k_dflt (refine' lf_callWith (by k_asm) (by k_mem) (by rfl) ?_; k_whole))
  k_with "And" => ((with_reducible show BmAt _ _ _ _ ∧ _); k_dflt (refine ⟨bm_at (by k_asm) (by k_mem), ?_⟩); (try dsimp only [List.nil_append, List.cons_append]))
  k_with "call ref" => (k_here; k_dflt (refine' lf_callget (by k_asm) (by k_mem) (by k_mem) (by k_asm) (by k_asm) ?_; k_whole))
  k_with "call ref" => (k_here; k_dflt (refine' lf_callin (by k_asm) (by k_mem) (by k_mem) ?_; k_whole); intro _)
  k_with "UnrEnd" => (k_dflt (refine' unr_del (by k_asm) (by k_asm) (by k_subL) (by k_all) ?_; k_whole))
  k_fill
  intro w dp un gd outer g L m₁ tl s aA bA qA jA sn st va vb na nb al ah bl bh u1 u2 u3 u4 b1 b2 b3 v1 v2 v3 mg mb mean Q E X T F hm N haA hbA hqA hjA h0 h0' hv1 hv2 hv3 h1 h2 h3 hf hE hret
  have F := fr_ov _ hm F
  dsimp (instances := true) only [kstB] at F
  clear hm
  delta flmW4
  dsimp only
  refine while_no hE ?_
  by_cases c1 : v1 + v3 < ah
  · by_cases c2 : v2 + v3 < bh
    · obtain ⟨x, tx, y, ty, e1, e2, e3⟩ := hf c1 c2
      k_steps
      all_goals (first | exact hret _ | exact True.intro | rfl | (exact absurd (by assumption) e3) | (exact absurd (Eq.symm (by assumption)) e3) | exact absurd (of_decide_eq_true (by assumption)) e3)
    · k_steps
      all_goals (first | exact hret _ | exact True.intro)
  · k_steps
    all_goals (first | exact hret _ | exact True.intro)

end
end Mine
end
theorem Mine.rs10 : True := by (k_with_none; trivial)
section
open PySem PySem.W PyProof.Rows Mine PySem.Calls PySem.Spec PySem.Challenge
set_option maxRecDepth 100000
namespace Mine
section
variable {pos : Str → Option Nat} {one oth : List Str} {al bl bh : Nat}
theorem hit_some {x : Str} {j : Nat} (h : hitAt pos bl bh x = some j) : pos x = some j ∧ bl ≤ j ∧ j < bh := by
  unfold hitAt at h
  split at h
  · split at h
    · cases h; exact ⟨by assumption, by assumption⟩
    · cases h
  · cases h
theorem fst_some : ∀ {n i j : Nat}, fstHit pos one al bl bh n = some (i, j) → al ≤ i ∧ i < al + n ∧ ∃ x, one[i]? = some x ∧ pos x = some j ∧ bl ≤ j ∧ j < bh
  | 0, i, j, h => by cases h
  | n + 1, i, j, h => by
    unfold fstHit at h
    split at h
    · rename_i r hr
      cases h
      obtain ⟨a, b, c⟩ := fst_some hr
      exact ⟨a, by omega, c⟩
    · split at h
      · rename_i x hx
        obtain ⟨j', hj, e⟩ := Option.map_eq_some_iff.mp h
        cases e
        obtain ⟨a, b, c⟩ := hit_some hj
        exact ⟨by omega, by omega, x, hx, a, b, c⟩
      · cases h
theorem fst_none : ∀ {n : Nat}, fstHit pos one al bl bh n = none → ∀ k x, k < n → one[al + k]? = some x → hitAt pos bl bh x = none
  | 0, _, k, _, hk, _ => absurd hk (Nat.not_lt_zero _)
  | n + 1, h, k, x, hk, hx => by
    unfold fstHit at h
    split at h
    · cases h
    · rename_i hr
      by_cases e : k = n
      · subst e
        rw [hx] at h
        dsimp only at h
        exact Option.map_eq_none_iff.mp h
      · exact fst_none hr k x (by omega) hx
variable {w : World} {N₀ : List (Addr × Obj)} {c : FlmC} {va vb : List Value} {na nb n0 : Nat} {oB : Obj} {kvs : List (Str × Value)}
theorem w1_fact (H : FlmK w N₀ c pos one oth va vb na nb n0 oB kvs) (n : Nat) (h1 : (c.al : Int) < bestI c.al (fstHit pos one c.al c.bl c.bh n)) (h2 : (c.bl : Int) < bestJ c.bl (fstHit pos one c.al c.bl c.bh n)) :
    ∃ x tx y ty, va[(bestI c.al (fstHit pos one c.al c.bl c.bh n) - 1).toNat]? = some (.str x tx) ∧ vb[(bestJ c.bl (fstHit pos one c.al c.bl c.bh n) - 1).toNat]? = some (.str y ty) ∧ x ≠ y := by
  cases hf : fstHit pos one c.al c.bl c.bh n with
  | none => rw [hf] at h1; exact absurd h1 (Int.lt_irrefl _)
  | some r =>
    obtain ⟨i, j⟩ := r
    rw [hf] at h1 h2
    dsimp only [bestI, bestJ] at h1 h2 ⊢
    obtain ⟨a, b, x0, hx0, hp, hj1, hj2⟩ := fst_some hf
    have hil := (List.getElem?_eq_some_iff.mp hx0).1
    have hjl := H.lt _ _ hp
    have ei : ((i : Int) - 1).toNat = i - 1 := by omega
    have ej : ((j : Int) - 1).toNat = j - 1 := by omega
    rw [ei, ej]
    have hx : one[i - 1]? = some (one[i - 1]'(by omega)) := List.getElem?_eq_getElem _
    have hy : oth[j - 1]? = some (oth[j - 1]'(by omega)) := List.getElem?_eq_getElem _
    obtain ⟨tx, htx⟩ := strs_get H.sa hx
    obtain ⟨ty, hty⟩ := strs_get H.sb hy
    refine ⟨_, tx, _, ty, htx, hty, fun e => ?_⟩
    have p1 := H.at_ _ _ hy
    rw [← e] at p1
    have := H.adj _ _ x0 _ hx (by rw [show i - 1 + 1 = i by omega]; exact hx0) p1
    rw [hp] at this
    cases this
theorem w2_fact (H : FlmK w N₀ c pos one oth va vb na nb n0 oB kvs) (hah : c.ah ≤ one.length) (hbh : c.bh ≤ oth.length) (hn : c.al ≤ c.ah)
    (h1 : bestI c.al (fstHit pos one c.al c.bl c.bh (c.ah - c.al)) + bestK (fstHit pos one c.al c.bl c.bh (c.ah - c.al)) < (c.ah : Int)) (h2 : bestJ c.bl (fstHit pos one c.al c.bl c.bh (c.ah - c.al)) + bestK (fstHit pos one c.al c.bl c.bh (c.ah - c.al)) < (c.bh : Int)) :
    ∃ x tx y ty, va[(bestI c.al (fstHit pos one c.al c.bl c.bh (c.ah - c.al)) + bestK (fstHit pos one c.al c.bl c.bh (c.ah - c.al))).toNat]? = some (.str x tx) ∧ vb[(bestJ c.bl (fstHit pos one c.al c.bl c.bh (c.ah - c.al)) + bestK (fstHit pos one c.al c.bl c.bh (c.ah - c.al))).toNat]? = some (.str y ty) ∧ x ≠ y := by
  cases hf : fstHit pos one c.al c.bl c.bh (c.ah - c.al) with
  | none =>
    rw [hf] at h1 h2
    dsimp only [bestI, bestJ, bestK] at h1 h2 ⊢
    have ei : ((c.al : Int) + 0).toNat = c.al := by omega
    have ej : ((c.bl : Int) + 0).toNat = c.bl := by omega
    rw [ei, ej]
    have hx : one[c.al]? = some (one[c.al]'(by omega)) := List.getElem?_eq_getElem _
    have hy : oth[c.bl]? = some (oth[c.bl]'(by omega)) := List.getElem?_eq_getElem _
    obtain ⟨tx, htx⟩ := strs_get H.sa hx
    obtain ⟨ty, hty⟩ := strs_get H.sb hy
    refine ⟨_, tx, _, ty, htx, hty, fun e => ?_⟩
    have p1 := H.at_ _ _ hy
    rw [← e] at p1
    have z := fst_none hf 0 _ (by omega) (by rw [Nat.add_zero]; exact hx)
    unfold hitAt at z
    rw [p1] at z
    dsimp only at z
    rw [if_pos (by omega)] at z
    cases z
  | some r =>
    obtain ⟨i, j⟩ := r
    rw [hf] at h1 h2
    dsimp only [bestI, bestJ, bestK] at h1 h2 ⊢
    obtain ⟨a, b, x0, hx0, hp, hj1, hj2⟩ := fst_some hf
    have ei : ((i : Int) + 1).toNat = i + 1 := by omega
    have ej : ((j : Int) + 1).toNat = j + 1 := by omega
    rw [ei, ej]
    have hx : one[i + 1]? = some (one[i + 1]'(by omega)) := List.getElem?_eq_getElem _
    have hy : oth[j + 1]? = some (oth[j + 1]'(by omega)) := List.getElem?_eq_getElem _
    obtain ⟨tx, htx⟩ := strs_get H.sa hx
    obtain ⟨ty, hty⟩ := strs_get H.sb hy
    refine ⟨_, tx, _, ty, htx, hty, fun e => ?_⟩
    have p1 := H.at_ _ _ hy
    rw [← e] at p1
    have := H.adj _ _ _ _ hx0 hx hp
    rw [p1] at this
    cases this
end
end Mine
end
section
open PySem PySem.W PyProof.Rows Mine PySem.Calls PySem.Spec PySem.Challenge
set_option maxRecDepth 100000
namespace Mine
end Mine
end
section
open PySem PySem.W PyProof.Rows Mine PySem.Calls PySem.Spec PySem.Challenge
set_option maxRecDepth 100000
namespace Mine
section
noncomputable def flmR : Stmt := by
  refine (fun (l : Stmt) (_ : nth flmB 12 = l) => l) ?x ?h
  case h => (conv => lhs; whnf)
structure FlmB (w : World) (N₀ : List (Addr × Obj)) (aA bA dA : Addr) (pos : Str → Option Nat) (one oth : List Str) (va vb : List Value) (na nb : Nat) (oB : Obj) (kvs : List (Str × Value)) : Prop where
  haA : (aA, listOf va.toArray na) ∈ N₀
  hbA : (bA, listOf vb.toArray nb) ∈ N₀
  hdA : (dA, oB) ∈ N₀
  hoB : oB.IsDictOf (strKind rw_wn0126_01.row.prog w) kvs
  hdm : (dA == sysModules) = false
  sa : StrsAre va one
  sb : StrsAre vb oth
  get : ∀ x, match pos x with
    | some j => ∃ lj nj tj, valueAt kvs x = some (.ref lj) ∧ (lj, listOf #[.int (j : Int) tj] nj) ∈ N₀
    | none => valueAt kvs x = none
  adj : ∀ k x y j, one[k]? = some x → one[k + 1]? = some y → pos x = some j → pos y = none
  at_ : ∀ j y, oth[j]? = some y → pos y = some j
  lt : ∀ x j, pos x = some j → j < oth.length
  la : one.length < 1000
  lb : oth.length < 1000
theorem FlmB.k {w : World} {news N₀ : List (Addr × Obj)} {c : FlmC} {pos : Str → Option Nat} {one oth : List Str} {va vb : List Value} {na nb n0 : Nat} {oB : Obj} {kvs : List (Str × Value)} (H : FlmB w news c.aA c.bA c.dA pos one oth va vb na nb oB kvs)
    (hs : ∀ p ∈ news, p ∈ N₀) (hn : (c.nA, listOf #[] n0) ∈ N₀) : FlmK w N₀ c pos one oth va vb na nb n0 oB kvs :=
  ⟨hs _ H.haA, hs _ H.hbA, hs _ H.hdA, H.hoB, H.hdm, hn, H.sa, H.sb, fun x => by
    have h := H.get x
    cases e : pos x with
    | some j =>
      rw [e] at h
      obtain ⟨lj, nj, tj, a, b⟩ := h
      exact ⟨lj, nj, tj, a, hs _ b⟩
    | none =>
      rw [e] at h
      exact h, H.adj, H.at_, H.lt, H.la, H.lb⟩
set_option maxHeartbeats 16000000 in
theorem flm_loop : ∀ {w : World} (dp un : Nat) (gd : Option (List Code)) (outer : List Env) (g : Heap) (L : Addr) (m₁ : Str → Option Value) (led : List (Addr × Obj)) (s : Shared) (h : Heap) (tk : Nat)
   (r : Addr) (r1 r2 r3 : Tok) (c : FlmC) (jA sn : Addr) (st : SetTable) (d : Addr) (oJ : Obj) (pos : Str → Option Nat) (one oth : List Str) (va vb : List Value) (na nb n0 : Nat) (oB : Obj) (kvs : List (Str × Value)) (b1 b2 b3 : Tok) (mg mb : Str → Option Value) (mean : ExcName → Option Value) (A₀ : Around) (base : Heap)
   (Q : Flow → Shared → Prop) (E : Value → Shared → Prop),
   (B : Below A₀ base outer g) → (hdp : dp + 8 < recursionLimit) → (hu : un + 40 < cLine) → (X : (K w.params).In g) → (T : Top q (looseW q loose) mean mg mb g) → 
   (F : Fr g L h m₁) → (N : News g L h led) →
   (hR : IsRange h r (c.al : Int) (c.ah : Int) 1 r1 r2 r3) → (hcst : Cst c.ps m₁) → 
   (m₁ (PySem.Str.ofString "besti") = some (.int (c.al : Int) b1)) → (m₁ (PySem.Str.ofString "bestj") = some (.int (c.bl : Int) b2)) → (m₁ (PySem.Str.ofString "bestsize") = some (.int 0 b3)) → (m₁ (PySem.Str.ofString "j2len") = some (.ref d)) →
   (d, oJ) ∈ led → (d == sysModules) = false → oJ.IsDictOf (intKind rw_wn0126_01.row.prog w) [] → 
   (H : FlmK w led c pos one oth va vb na nb n0 oB kvs) → (hqA : (c.qA, bmObj "set.__contains__" jA) ∈ led) → (hjA : (jA, setObj sn st) ∈ led) → (hal : c.al ≤ c.ah) → (hah : c.ah ≤ one.length) → (hbh : c.bh ≤ oth.length) → (hbl : c.bl ≤ c.bh) →
   (hE : PassesOwn (model rw_wn0126_01.row.prog w) (ktrTop dp un gd flmN flmS L 196 (.ref 195) [] outer) (envOf flmN flmS L 196 (.ref 195)) E) →
   (hret : ∀ r tl h' tk' m' i j k t u v, Fr g L h' m' → News g L h' tl → (∀ p ∈ led, p ∈ tl) → (r, mtObj i j k t u v) ∈ tl → (∀ p ∈ led, p.1 < r) → i = bestI c.al (fstHit pos one c.al c.bl c.bh (c.ah - c.al)) → j = bestJ c.bl (fstHit pos one c.al c.bl c.bh (c.ah - c.al)) → k = bestK (fstHit pos one c.al c.bl c.bh (c.ah - c.al)) → Q (.ret (.ref r)) { s with heap := h', toks := tk' }) →
   wpAny (model rw_wn0126_01.row.prog w) (ktrTop dp un gd flmN flmS L 196 (.ref 195) [] outer) (pyIter (.ref r)) (fun it s₂ => LoopAtV rw_wn0126_01.row.prog w (ktrTop dp un gd flmN flmS L 196 (.ref 195) [] outer) g (envOf flmN flmS L 196 (.ref 195)) (PySem.Str.ofString "i") flmLoop
     (fun f s' => match f with
       | .next => wpAny (model rw_wn0126_01.row.prog w) (ktrTop dp un gd flmN flmS L 196 (.ref 195) [] outer) (execs [flmW1, flmW2, flmW3, flmW4, flmR] (envOf flmN flmS L 196 (.ref 195))) Q E s'
       | f => Q f s') E it s₂) E { s with heap := h, toks := tk } := by
  k_with_none
  k_with "all" => first | assumption | exact allLt_ne (by first | assumption | exact And.right (by assumption) | exact And.right (And.right (by assumption)) | exact And.right (And.right (And.right (by assumption))) | exact And.right (And.right (And.right (And.right (by assumption)))) | exact And.right (And.right (And.right (And.right (And.right (by assumption))))) | exact And.right (And.right (And.right (And.right (And.right (And.right (by assumption)))))) | exact And.right (And.right (And.right (And.right (And.right (And.right (And.right (by assumption))))))) | exact And.right (And.right (And.right (And.right (And.right (And.right (And.right (And.right (by assumption)))))))) )
  k_with "getMethod ref" => (k_here; (with_reducible show wpAny _ _ (getMethod (Value.ref _) (PySem.Str.ofString "get") _) _ _ _); k_dflt (refine' kdg_method (knd := PySem.strKind _ _) (by k_asm) (by k_mem) (by k_asm) ?_; k_whole))
  k_with "call builtin:dict.get" => (k_here; k_dflt (refine' kdg_get2 (knd := PySem.strKind _ _) (by k_asm) (by k_mem) (by k_asm) (by k_asm) (strKind_is _ _ _ _) _ (by assumption) ?_; k_whole); dsimp only [Option.getD])
  k_with "subscriptTail" => (k_here; k_dflt (refine' lf_item (by k_asm) (by k_mem) ?_ ?_ (by assumption) ?_; (walk_at "om"); (walk_at "om"); k_whole))
  k_with "getAttr ref" => (k_here; (with_reducible show wpAny _ _ (getAttr (Value.ref _) (PySem.Str.ofString "get") _) _ _ _); k_dflt (refine' lf_dictattr (knd := PySem.intKind _ _) (by k_asm) (by k_asm) (by k_mem) (by k_asm) ?_; k_whole); intro _ _ _ _ l1; (try k_lt l1); (revert l1; intro _))
  k_with "pyIter ref" => ((with_reducible show wpAny _ _ (pyIter (Value.ref _)) (fun it s₂ => LoopAtV _ _ _ _ _ _ _ _ _ it s₂) _ _); k_dflt (refine' iter_listUnr (vs := []) (by rfl) (by k_asm) (by k_asm) (by k_mem) (by rfl) (by rfl) ?_; k_whole); intro _ l1; (try k_lt l1); (revert l1; intro _))
  k_with "pyIter ref" => ((with_reducible show wpAny _ _ (pyIter (Value.ref _)) (fun it s₂ => LoopAtV _ _ _ _ _ _ _ _ _ it s₂) _ _); k_dflt (refine' iter_listUnr (vs := [_]) (by rfl) (by k_asm) (by k_asm) (by k_mem) (by rfl) (by rfl) ?_; k_whole); intro _ l1; (try k_lt l1); (revert l1; intro _))
  k_with "callWith ref" => (k_here; k_dflt (refine' lf_callWith (by k_asm) (by k_mem) (by rfl) ?_; k_whole))
  k_with "And" => ((with_reducible show BmAt _ _ _ _ ∧ _); k_dflt (refine ⟨bm_at (by k_asm) (by k_mem), ?_⟩); (try dsimp only [List.nil_append, List.cons_append]))
  k_with "call ref" => (k_here; k_dflt (refine' lf_callget (by k_asm) (by k_mem) (by k_mem) (by k_asm) (by k_asm) ?_; k_whole))
  k_with "call ref" => (k_here; k_dflt (refine' lf_callin (by k_asm) (by k_mem) (by k_mem) ?_; k_whole); intro _)
  k_with "UnrEnd" => (k_dflt (refine' unr_del (by k_asm) (by k_asm) (by k_subL) (by k_all) ?_; k_whole))
  k_with "unf" => walk_at "m0"
  k_with "call ref" => (k_here; (with_reducible show wpAny _ _ (call (Value.ref _) [Value.int _ _, Value.int _ _, Value.int _ _]) _ _ _); k_dflt (refine' match_tells _ _ _ _ _ _ _ _ _ _ _ _ _ _ _ _ _ _ _ _ _ _ _ _ (by k_asm) (by k_asm) (by k_asm) (by k_asm) (by k_asm) (by rfl) (by ktr_room) (by ktr_units) ?_; k_whole); intro _ _ _ _ _ _ l1; (try k_lt l1); (revert l1; intro _))
  k_fill
  intro w dp un gd outer g L m₁ led s h tk r r1 r2 r3 c jA sn st d oJ pos one oth va vb na nb n0 oB kvs b1 b2 b3 mg mb mean A₀ base Q E B hdp hu X T F N hR hcst hb1 hb2 hb3 hj2 hd hdm hoJ H hqA hjA hal hah hbh hbl hE hret
  have ela := H.la
  have elb := H.lb
  refine iter_rangeUnr (n := c.ah - c.al) rfl hR (small_up (by walk_at "om") (by walk_at "om") (by walk_at "om") (by walk_at "om")) (size_up _ _ hal) F N fun I hI => ?_
  refine range_ind (FlmP w led c pos one) (fun i m tl t h tk hi hP hoff F N => ?_) (fun m tl h tk hP F N => ?_) _ 0 _ _ (Nat.zero_add _) ?_ (fun p hp => Nat.ne_of_lt (hI p hp))
  · have hx : one[c.al + i]? = some (one[c.al + i]'(by walk_at "om")) := List.getElem?_eq_getElem _
    exact flm_turn dp un gd outer g L m tl s h tk I led c pos one oth va vb na nb n0 oB kvs i t _ _ mg mb mean _ E X T H hP F N hoff hx hE
  · obtain ⟨hsub, hcst, ⟨v1, b1, v2, b2, v3, b3, hm1, hm2, hm3, hz1, hz2, hz3⟩, d, oJ, ek, hm4, hd, hdm2, hoJ, hek⟩ := hP
    have hv1 : 0 ≤ v1 ∧ v1 < 1000 := by
      rw [hz1]
      cases hf : fstHit pos one c.al c.bl c.bh (c.ah - c.al) with
      | none => dsimp only [bestI]; walk_at "om"
      | some r => obtain ⟨i, j⟩ := r; have := fst_some hf; dsimp only [bestI]; walk_at "om"
    have hv2 : 0 ≤ v2 ∧ v2 < 1000 := by
      rw [hz2]
      cases hf : fstHit pos one c.al c.bl c.bh (c.ah - c.al) with
      | none => dsimp only [bestJ]; walk_at "om"
      | some r => obtain ⟨i, j⟩ := r; obtain ⟨_, _, x, _, hp, _⟩ := fst_some hf; have := H.lt _ _ hp; dsimp only [bestJ]; walk_at "om"
    have hv3 : 0 ≤ v3 ∧ v3 < 1000 := by
      rw [hz3]
      cases hf : fstHit pos one c.al c.bl c.bh (c.ah - c.al) <;> dsimp only [bestK] <;> walk_at "om"
    dsimp only
    have f1 : (c.al : Int) < v1 → (c.bl : Int) < v2 → ∃ x tx y ty, va[(v1 - 1).toNat]? = some (.str x tx) ∧ vb[(v2 - 1).toNat]? = some (.str y ty) ∧ x ≠ y := by
      rw [hz1, hz2]; exact w1_fact H _
    have f2 : v1 + v3 < (c.ah : Int) → v2 + v3 < (c.bh : Int) → ∃ x tx y ty, va[(v1 + v3).toNat]? = some (.str x tx) ∧ vb[(v2 + v3).toNat]? = some (.str y ty) ∧ x ≠ y := by
      rw [hz1, hz2, hz3]; exact w2_fact H hah hbh hal
    have hmL : Cst [(PySem.Str.ofString "a", .ref c.aA), (PySem.Str.ofString "b", .ref c.bA), (PySem.Str.ofString "isbjunk", .ref c.qA), (PySem.Str.ofString "alo", .int (c.al : Int) c.t1), (PySem.Str.ofString "blo", .int (c.bl : Int) c.t3), (PySem.Str.ofString "besti", .int v1 b1), (PySem.Str.ofString "bestj", .int v2 b2), (PySem.Str.ofString "bestsize", .int v3 b3)] m := by
      intro p hp
      simp only [List.mem_cons, List.not_mem_nil, or_false] at hp
      rcases hp with rfl | rfl | rfl | rfl | rfl | rfl | rfl | rfl <;> first | assumption | exact hcst _ (by simp [FlmC.ps])
    have hmH : Cst [(PySem.Str.ofString "a", .ref c.aA), (PySem.Str.ofString "b", .ref c.bA), (PySem.Str.ofString "isbjunk", .ref c.qA), (PySem.Str.ofString "ahi", .int (c.ah : Int) c.t2), (PySem.Str.ofString "bhi", .int (c.bh : Int) c.t4), (PySem.Str.ofString "besti", .int v1 b1), (PySem.Str.ofString "bestj", .int v2 b2), (PySem.Str.ofString "bestsize", .int v3 b3)] m := by
      intro p hp
      simp only [List.mem_cons, List.not_mem_nil, or_false] at hp
      rcases hp with rfl | rfl | rfl | rfl | rfl | rfl | rfl | rfl <;> first | assumption | exact hcst _ (by simp [FlmC.ps])
    refine wpAny_execs_cons (flm_w1 dp un gd outer g L m tl _ c.aA c.bA c.qA jA sn st va vb na nb c.al c.ah c.bl c.bh c.t1 c.t2 c.t3 c.t4 b1 b2 b3 v1 v2 v3 mg mb mean _ E X T F hmL N (hsub _ H.haA) (hsub _ H.hbA) (hsub _ hqA) (hsub _ hjA) (by walk_at "om") (by walk_at "om") hv1.1 hv2.1 hv3.1 hv1.2 hv2.2 hv3.2 f1 hE fun _ => ?_)
    dsimp only
    refine wpAny_execs_cons (flm_w2 dp un gd outer g L m tl _ c.aA c.bA c.qA jA sn st va vb na nb c.al c.ah c.bl c.bh c.t1 c.t2 c.t3 c.t4 b1 b2 b3 v1 v2 v3 mg mb mean _ E X T F hmH N (hsub _ H.haA) (hsub _ H.hbA) (hsub _ hqA) (hsub _ hjA) (by walk_at "om") (by walk_at "om") hv1.1 hv2.1 hv3.1 hv1.2 hv2.2 hv3.2 f2 hE fun _ => ?_)
    dsimp only
    refine wpAny_execs_cons (flm_w3 dp un gd outer g L m tl _ c.aA c.bA c.qA jA sn st va vb na nb c.al c.ah c.bl c.bh c.t1 c.t2 c.t3 c.t4 b1 b2 b3 v1 v2 v3 mg mb mean _ E X T F hmL N (hsub _ H.haA) (hsub _ H.hbA) (hsub _ hqA) (hsub _ hjA) (by walk_at "om") (by walk_at "om") hv1.1 hv2.1 hv3.1 hv1.2 hv2.2 hv3.2 f1 hE fun _ => ?_)
    dsimp only
    refine wpAny_execs_cons (flm_w4 dp un gd outer g L m tl _ c.aA c.bA c.qA jA sn st va vb na nb c.al c.ah c.bl c.bh c.t1 c.t2 c.t3 c.t4 b1 b2 b3 v1 v2 v3 mg mb mean _ E X T F hmH N (hsub _ H.haA) (hsub _ H.hbA) (hsub _ hqA) (hsub _ hjA) (by walk_at "om") (by walk_at "om") hv1.1 hv2.1 hv3.1 hv1.2 hv2.2 hv3.2 f2 hE fun _ => ?_)
    dsimp only
    have F := fr_ov _ hmL F
    dsimp (instances := true) only [kstB] at F
    clear hmL hmH hcst
    delta flmR
    dsimp only
    k_steps
    exact hret _ _ _ _ _ _ _ _ _ _ _ (by assumption) (by assumption) (fun p hp => List.mem_cons_of_mem _ (hsub p hp)) (List.Mem.head _) (fun p hp => (by assumption : ∀ p ∈ tl, p.1 < _) p (hsub p hp)) hz1 hz2 hz3
  · exact ⟨fun p hp => hp, hcst, ⟨_, _, _, _, _, _, hb1, hb2, hb3, rfl, rfl, rfl⟩, d, oJ, [], hj2, hd, hdm, hoJ, .inl rfl⟩
end
end Mine
end
section
open PySem PySem.W PyProof.Rows Mine PySem.Calls PySem.Spec PySem.Challenge
set_option maxRecDepth 100000
namespace Mine
section
set_option maxHeartbeats 16000000 in
theorem flm_tells : ∀ {w : World} {mean : ExcName → Option Value} {mg mb : Str → Option Value}
   (dp un : Nat) (gd : Option (List Code)) (cn : Str) (cs : Scope) (a : Addr) (ccd : Value) (cl : List (Str × Addr)) (outer : List Env) (A₀ : Around) (base h₀ : Heap) (L : Addr) (m : Str → Option Value) (news : List (Addr × Obj)) (s : Shared)
   (x dx jA nd sn : Addr) (st : SetTable) (t1 t2 t3 t4 t5 t6 t7 t8 t9 t10 : Nat) (mbV ocV fbV poV : Value)
   (aA bA dA : Addr) (al ah bl bh : Nat) (u1 u2 u3 u4 : Tok) (pos : Str → Option Nat) (one oth : List Str) (va vb : List Value) (na nb : Nat) (oB : Obj) (kvs : List (Str × Value))
    (Q E : Value → Shared → Prop)
    (B : Below A₀ base outer h₀) (F : Fr h₀ L s.heap m) (X : (K w.params).In h₀) (N : News h₀ L s.heap news) (T : Top q (looseW q loose) mean mg mb h₀) (hk : cs.kind = .function)
    (hx : (x, instObj 242 dx) ∈ news)
    (hdx : (dx, dictOf [smE w "isjunk" t1 .none, smE w "a" t2 (.ref aA), smE w "b" t3 (.ref bA), smE w "autojunk" t4 (.bool true), smE w "matching_blocks" t5 mbV, smE w "opcodes" t6 ocV, smE w "fullbcount" t7 fbV, smE w "b2j" t8 (.ref dA), smE w "bjunk" t9 (.ref jA), smE w "bpopular" t10 poV] nd) ∈ news)
    (hj : (jA, setObj sn st) ∈ news) 
    (H : FlmB w news aA bA dA pos one oth va vb na nb oB kvs) (hal : al ≤ ah) (hah : ah ≤ one.length) (hbl : bl ≤ bh) (hbh : bh ≤ oth.length)
    (hdp : dp + 10 < recursionLimit) (hu : un + 80 < cLine)
    (hret : ∀ r h' tk' i j k t u v, Fr h₀ L h' m → News h₀ L h' ((r, mtObj i j k t u v) :: news) → (∀ p ∈ news, p.1 < r) → i = bestI al (fstHit pos one al bl bh (ah - al)) → j = bestJ bl (fstHit pos one al bl bh (ah - al)) → k = bestK (fstHit pos one al bl bh (ah - al)) → Q (.ref r) { s with heap := h', toks := tk' }), 
    wpAny (model rw_wn0126_01.row.prog w) (ktrTop dp un gd cn cs L a ccd cl outer) (call (.ref 196) [.ref x, .int (al : Int) u1, .int (ah : Int) u2, .int (bl : Int) u3, .int (bh : Int) u4]) Q E s := by
  k_with_none
  k_with "all" => first | assumption | exact allLt_ne (by first | assumption | exact And.right (by assumption) | exact And.right (And.right (by assumption)) | exact And.right (And.right (And.right (by assumption))) | exact And.right (And.right (And.right (And.right (by assumption)))) | exact And.right (And.right (And.right (And.right (And.right (by assumption))))) | exact And.right (And.right (And.right (And.right (And.right (And.right (by assumption)))))) | exact And.right (And.right (And.right (And.right (And.right (And.right (And.right (by assumption))))))) | exact And.right (And.right (And.right (And.right (And.right (And.right (And.right (And.right (by assumption)))))))) )
  k_with "getMethod ref" => (k_here; (with_reducible show wpAny _ _ (getMethod (Value.ref _) (PySem.Str.ofString "get") _) _ _ _); k_dflt (refine' kdg_method (knd := PySem.strKind _ _) (by k_asm) (by k_mem) (by k_asm) ?_; k_whole))
  k_with "call builtin:dict.get" => (k_here; k_dflt (refine' kdg_get2 (knd := PySem.strKind _ _) (by k_asm) (by k_mem) (by k_asm) (by k_asm) (strKind_is _ _ _ _) _ (by assumption) ?_; k_whole); dsimp only [Option.getD])
  k_with "subscriptTail" => (k_here; k_dflt (refine' lf_item (by k_asm) (by k_mem) ?_ ?_ (by assumption) ?_; (walk_at "om"); (walk_at "om"); k_whole))
  k_with "getAttr ref" => (k_here; (with_reducible show wpAny _ _ (getAttr (Value.ref _) (PySem.Str.ofString "get") _) _ _ _); k_dflt (refine' lf_dictattr (knd := PySem.intKind _ _) (by k_asm) (by k_asm) (by k_mem) (by k_asm) ?_; k_whole); intro _ _ _ _ l1; (try k_lt l1); (revert l1; intro _))
  k_with "pyIter ref" => ((with_reducible show wpAny _ _ (pyIter (Value.ref _)) (fun it s₂ => LoopAtV _ _ _ _ _ _ _ _ _ it s₂) _ _); k_dflt (refine' iter_listUnr (vs := []) (by rfl) (by k_asm) (by k_asm) (by k_mem) (by rfl) (by rfl) ?_; k_whole); intro _ l1; (try k_lt l1); (revert l1; intro _))
  k_with "pyIter ref" => ((with_reducible show wpAny _ _ (pyIter (Value.ref _)) (fun it s₂ => LoopAtV _ _ _ _ _ _ _ _ _ it s₂) _ _); k_dflt (refine' iter_listUnr (vs := [_]) (by rfl) (by k_asm) (by k_asm) (by k_mem) (by rfl) (by rfl) ?_; k_whole); intro _ l1; (try k_lt l1); (revert l1; intro _))
  k_with "callWith ref" => (k_here; k_dflt (refine' lf_callWith (by k_asm) (by k_mem) (by rfl) ?_; k_whole))
  k_with "And" => ((with_reducible show BmAt _ _ _ _ ∧ _); k_dflt (refine ⟨bm_at (by k_asm) (by k_mem), ?_⟩); (try dsimp only [List.nil_append, List.cons_append]))
  k_with "call ref" => (k_here; k_dflt (refine' lf_callget (by k_asm) (by k_mem) (by k_mem) (by k_asm) (by k_asm) ?_; k_whole))
  k_with "call ref" => (k_here; k_dflt (refine' lf_callin (by k_asm) (by k_mem) (by k_mem) ?_; k_whole); intro _)
  k_with "UnrEnd" => (k_dflt (refine' unr_del (by k_asm) (by k_asm) (by k_subL) (by k_all) ?_; k_whole))
  k_with "unf" => walk_at "m0"
  k_with "exec For Name Call cons nil" => (k_here; (with_unfolding_all refine' For_invVF (by with_reducible assumption) (by exact rfl) (by exact rfl) ?_; k_whole))
  k_with "pyIter ref" => ((with_reducible show wpAny _ _ (pyIter (Value.ref _)) (fun it s₂ => LoopAtV _ _ _ _ _ _ _ _ _ it s₂) _ _); refine Stop.mk ?_)
  k_with "getAttr ref" => (k_here; (with_reducible show wpAny _ _ (getAttr (Value.ref _) (PySem.Str.ofString "__contains__") _) _ _ _); k_dflt (refine' lf_setattr (by k_asm) (by k_asm) (by k_mem) ?_; k_whole); intro _ _ _ _ l1; (try k_lt l1); (revert l1; intro _))
  k_fill
  intro w mean mg mb dp un gd cn cs a ccd cl outer A₀ base h₀ L m news s x dx jA nd sn st t1 t2 t3 t4 t5 t6 t7 t8 t9 t10 mbV ocV fbV poV aA bA dA al ah bl bh u1 u2 u3 u4 pos one oth va vb na nb oB kvs Q E B F X N T hk hx hdx hj H hal hah hbl hbh hdp hu hret
  have ela := H.la
  have elb := H.lb
  refine wpAny_call ?_
  k_dflt ktr_unf
  k_steps
  refine Stop.on ?_
  refine' flm_loop (dp + 1) (un + 3) gd (envX cn cs L a ccd cl :: outer) _ _ _ _ _ _ _ _ _ _ _ ⟨aA, bA, dA, _, _, al, ah, bl, bh, u1, u2, u3, u4⟩ jA sn st _ _ pos one oth va vb na nb 0 oB kvs _ _ _ mg mb mean _ _ _ _ ?B (by walk_at "om") (by walk_at "om") ?X ?T ?F ?N ?hR ?hcst ?hb1 ?hb2 ?hb3 ?hb4 ?hd ?hdm ?hoJ ?H ?hq ?hj hal hah hbh hbl ?hE ?hret
  case B => assumption
  case X => assumption
  case T => assumption
  case F => assumption
  case N => assumption
  case hR => assumption
  case hcst => (delta FlmC.ps; (repeat (first | exact cst_nil | refine cst_cons (by with_unfolding_all rfl) ?_ | exact List.forall_mem_nil _ | refine List.forall_mem_cons.mpr ⟨by with_unfolding_all rfl, ?_⟩)))
  case hb1 => with_unfolding_all rfl
  case hb2 => with_unfolding_all rfl
  case hb3 => with_unfolding_all rfl
  case hb4 => with_unfolding_all rfl
  case hd => k_mem
  case hdm => assumption
  case hoJ => assumption
  case H => exact FlmB.k H (fun p hp => by repeat (first | exact hp | apply List.mem_cons_of_mem)) (by k_mem)
  case hq => k_mem
  case hj => k_mem
  case hE => passes_own
  case hret =>
    intro r tl h' tk' m' i j k t u v F N hs hm hlt h1 h2 h3
    have hin : ∀ p ∈ news, p ∈ tl := fun p hp => hs p (by repeat (first | exact hp | apply List.mem_cons_of_mem))
    refine ⟨_, _, (r, mtObj i j k t u v) :: news, F, fun p hp => ?_, fun F₀ N₀ => hret r h' tk' i j k t u v F₀ N₀ (fun p hp => hlt p (by repeat (first | exact hp | apply List.mem_cons_of_mem))) h1 h2 h3⟩
    rcases List.mem_cons.mp hp with rfl | hp
    · exact N _ hm
    · exact N _ (hin p hp)
end
end Mine
end
theorem Mine.rs12 : True := by (k_with_none; trivial)
section
open PySem PySem.W PyProof.Rows Mine PySem.Calls PySem.Spec PySem.Challenge
set_option maxRecDepth 100000
namespace Mine
theorem flm_none {w : World} {mean : ExcName → Option Value} {mg mb : Str → Option Value}
   (dp un : Nat) (gd : Option (List Code)) (cn : Str) (cs : Scope) (a : Addr) (ccd : Value) (cl : List (Str × Addr)) (outer : List Env) (A₀ : Around) (base h₀ : Heap) (L : Addr) (m : Str → Option Value) (news : List (Addr × Obj)) (s : Shared)
   (x dx jA nd sn : Addr) (st : SetTable) (t1 t2 t3 t4 t5 t6 t7 t8 t9 t10 : Nat) (mbV ocV fbV poV : Value)
   (aA bA dA : Addr) (al ah bl bh : Nat) (u1 u2 u3 u4 : Tok) (pos : Str → Option Nat) (one oth : List Str) (va vb : List Value) (na nb : Nat) (oB : Obj) (kvs : List (Str × Value))
    (Q E : Value → Shared → Prop)
    (B : Below A₀ base outer h₀) (F : Fr h₀ L s.heap m) (X : (K w.params).In h₀) (N : News h₀ L s.heap news) (T : Top q (looseW q loose) mean mg mb h₀) (hk : cs.kind = .function)
    (hx : (x, instObj 242 dx) ∈ news)
    (hdx : (dx, dictOf [smE w "isjunk" t1 .none, smE w "a" t2 (.ref aA), smE w "b" t3 (.ref bA), smE w "autojunk" t4 (.bool true), smE w "matching_blocks" t5 mbV, smE w "opcodes" t6 ocV, smE w "fullbcount" t7 fbV, smE w "b2j" t8 (.ref dA), smE w "bjunk" t9 (.ref jA), smE w "bpopular" t10 poV] nd) ∈ news)
    (hj : (jA, setObj sn st) ∈ news) 
    (H : FlmB w news aA bA dA pos one oth va vb na nb oB kvs) (hal : al ≤ ah) (hah : ah ≤ one.length) (hbl : bl ≤ bh) (hbh : bh ≤ oth.length)
    (hdp : dp + 10 < recursionLimit) (hu : un + 80 < cLine)
    (hf : fstHit pos one al bl bh (ah - al) = none)
    (hret : ∀ r h' tk' t u v, Fr h₀ L h' m → News h₀ L h' ((r, mtObj (al : Int) (bl : Int) 0 t u v) :: news) → (∀ p ∈ news, p.1 < r) → Q (.ref r) { s with heap := h', toks := tk' }) :
    wpAny (model rw_wn0126_01.row.prog w) (ktrTop dp un gd cn cs L a ccd cl outer) (call (.ref 196) [.ref x, .int (al : Int) u1, .int (ah : Int) u2, .int (bl : Int) u3, .int (bh : Int) u4]) Q E s := by
  refine flm_tells dp un gd cn cs a ccd cl outer A₀ base h₀ L m news s x dx jA nd sn st t1 t2 t3 t4 t5 t6 t7 t8 t9 t10 mbV ocV fbV poV aA bA dA al ah bl bh u1 u2 u3 u4 pos one oth va vb na nb oB kvs Q E B F X N T hk hx hdx hj H hal hah hbl hbh hdp hu ?_
  intro r h' tk' i j k t u v F N l e1 e2 e3
  rw [hf] at e1 e2 e3
  dsimp only [bestI, bestJ, bestK] at e1 e2 e3
  subst e1 e2 e3
  exact hret r h' tk' t u v F N l
theorem flm_some {w : World} {mean : ExcName → Option Value} {mg mb : Str → Option Value}
   (dp un : Nat) (gd : Option (List Code)) (cn : Str) (cs : Scope) (a : Addr) (ccd : Value) (cl : List (Str × Addr)) (outer : List Env) (A₀ : Around) (base h₀ : Heap) (L : Addr) (m : Str → Option Value) (news : List (Addr × Obj)) (s : Shared)
   (x dx jA nd sn : Addr) (st : SetTable) (t1 t2 t3 t4 t5 t6 t7 t8 t9 t10 : Nat) (mbV ocV fbV poV : Value)
   (aA bA dA : Addr) (al ah bl bh : Nat) (u1 u2 u3 u4 : Tok) (pos : Str → Option Nat) (one oth : List Str) (va vb : List Value) (na nb : Nat) (oB : Obj) (kvs : List (Str × Value))
    (Q E : Value → Shared → Prop)
    (B : Below A₀ base outer h₀) (F : Fr h₀ L s.heap m) (X : (K w.params).In h₀) (N : News h₀ L s.heap news) (T : Top q (looseW q loose) mean mg mb h₀) (hk : cs.kind = .function)
    (hx : (x, instObj 242 dx) ∈ news)
    (hdx : (dx, dictOf [smE w "isjunk" t1 .none, smE w "a" t2 (.ref aA), smE w "b" t3 (.ref bA), smE w "autojunk" t4 (.bool true), smE w "matching_blocks" t5 mbV, smE w "opcodes" t6 ocV, smE w "fullbcount" t7 fbV, smE w "b2j" t8 (.ref dA), smE w "bjunk" t9 (.ref jA), smE w "bpopular" t10 poV] nd) ∈ news)
    (hj : (jA, setObj sn st) ∈ news) 
    (H : FlmB w news aA bA dA pos one oth va vb na nb oB kvs) (hal : al ≤ ah) (hah : ah ≤ one.length) (hbl : bl ≤ bh) (hbh : bh ≤ oth.length)
    (hdp : dp + 10 < recursionLimit) (hu : un + 80 < cLine)
    {i j : Nat} (hf : fstHit pos one al bl bh (ah - al) = some (i, j))
    (hret : ∀ r h' tk' t u v, Fr h₀ L h' m → News h₀ L h' ((r, mtObj (i : Int) (j : Int) 1 t u v) :: news) → (∀ p ∈ news, p.1 < r) → Q (.ref r) { s with heap := h', toks := tk' }) :
    wpAny (model rw_wn0126_01.row.prog w) (ktrTop dp un gd cn cs L a ccd cl outer) (call (.ref 196) [.ref x, .int (al : Int) u1, .int (ah : Int) u2, .int (bl : Int) u3, .int (bh : Int) u4]) Q E s := by
  refine flm_tells dp un gd cn cs a ccd cl outer A₀ base h₀ L m news s x dx jA nd sn st t1 t2 t3 t4 t5 t6 t7 t8 t9 t10 mbV ocV fbV poV aA bA dA al ah bl bh u1 u2 u3 u4 pos one oth va vb na nb oB kvs Q E B F X N T hk hx hdx hj H hal hah hbl hbh hdp hu ?_
  intro r h' tk' i j k t u v F N l e1 e2 e3
  rw [hf] at e1 e2 e3
  dsimp only [bestI, bestJ, bestK] at e1 e2 e3
  subst e1 e2 e3
  exact hret r h' tk' t u v F N l
end Mine
end
section
open PySem PySem.W PyProof.Rows Mine PySem.Calls PySem.Spec PySem.Challenge
set_option maxRecDepth 100000
namespace Mine
noncomputable def whileBody : Stmt → List Stmt
  | .While _ b _ _ => b
  | _ => []
noncomputable def whTest : Stmt → PySem.Expr
  | .While t _ _ _ => t
  | _ => .Name (PySem.Str.ofString "x") ⟨0, 0, 0, 0⟩
noncomputable def gmbW : List Stmt := by
  refine (fun (l : List Stmt) (_ : whileBody (nth gmbB 5) = l) => l) ?x ?h
  case h => (conv => lhs; whnf)
noncomputable abbrev gmbN : Str := PySem.Str.ofString "SequenceMatcher.get_matching_blocks"
noncomputable abbrev tpObj (vs : List Value) (n : Nat) : Obj := { cls := .type "tuple", data := .seq vs.toArray n }
theorem All2.cons {α : Type} {R : Value → α → Prop} {v : Value} {x : α} {vs : List Value} {xs : List α} (a : R v x) (b : All2 R vs xs) : All2 R (v :: vs) (x :: xs) := ⟨a, b⟩
theorem All2.nil {α : Type} {R : Value → α → Prop} : All2 R [] [] := trivial
theorem FlmB.mono {w : World} {news N₀ : List (Addr × Obj)} {aA bA dA : Addr} {pos : Str → Option Nat} {one oth : List Str} {va vb : List Value} {na nb : Nat} {oB : Obj} {kvs : List (Str × Value)} (H : FlmB w news aA bA dA pos one oth va vb na nb oB kvs)
    (hs : ∀ p ∈ news, p ∈ N₀) : FlmB w N₀ aA bA dA pos one oth va vb na nb oB kvs :=
  ⟨hs _ H.haA, hs _ H.hbA, hs _ H.hdA, H.hoB, H.hdm, H.sa, H.sb, fun x => by
    have := H.get x
    cases hp : pos x <;> rw [hp] at this
    · exact this
    · obtain ⟨lj, nj, tj, a, b⟩ := this
      exact ⟨lj, nj, tj, a, hs _ b⟩, H.adj, H.at_, H.lt, H.la, H.lb⟩
noncomputable def gmbTest : PySem.Expr := by
  refine (fun (l : PySem.Expr) (_ : whTest (nth gmbB 5) = l) => l) ?x ?h
  case h => (conv => lhs; whnf)

noncomputable abbrev Rg : Type := Nat × Nat × Nat × Nat
inductive QIs (tl : List (Addr × Obj)) (v : Value) (x : Rg) : Prop
  | mk : ∀ a n y1 y2 y3 y4 u1 u2 u3 u4, (v = .ref a) → ((a, tpObj [.int y1 u1, .int y2 u2, .int y3 u3, .int y4 u4] n) ∈ tl) → (y1 = (x.1 : Int) ∧ y2 = (x.2.1 : Int) ∧ y3 = (x.2.2.1 : Int) ∧ y4 = (x.2.2.2 : Int)) → QIs tl v x
inductive MIs (tl : List (Addr × Obj)) (v : Value) (x : Nat × Nat) : Prop
  | mk : ∀ a t u z, (v = .ref a) → ((a, mtObj (x.1 : Int) (x.2 : Int) 1 t u z) ∈ tl) → MIs tl v x
theorem QIs.mono {tl tl' : List (Addr × Obj)} (h : ∀ p ∈ tl, p ∈ tl') (v : Value) (x : Rg) (q : QIs tl v x) : QIs tl' v x := by
  obtain ⟨a, n, y1, y2, y3, y4, u1, u2, u3, u4, e, hm, r⟩ := q
  exact ⟨a, n, y1, y2, y3, y4, u1, u2, u3, u4, e, h _ hm, r⟩
theorem MIs.mono {tl tl' : List (Addr × Obj)} (h : ∀ p ∈ tl, p ∈ tl') (v : Value) (x : Nat × Nat) (q : MIs tl v x) : MIs tl' v x := by
  obtain ⟨a, t, u, z, e, hm⟩ := q
  exact ⟨a, t, u, z, e, h _ hm⟩
noncomputable def gq (pos : Str → Option Nat) (one : List Str) : Nat → List Rg → List (Nat × Nat) → Option (List (Nat × Nat))
  | 0, _, _ => none
  | _ + 1, [], bs => some bs
  | f + 1, (al, ah, bl, bh) :: q, bs => match fstHit pos one al bl bh (ah - al) with
    | none => gq pos one f q bs
    | some (i, j) => gq pos one f ((if i + 1 < ah ∧ j + 1 < bh then [(i + 1, ah, j + 1, bh)] else []) ++ ((if al < i ∧ bl < j then [(al, i, bl, j)] else []) ++ q)) (bs ++ [(i, j)])
/-- what holds between the turns of get_matching_blocks' while -/
inductive GmbJ (N₀ : List (Addr × Obj)) (ps : List (Str × Value)) (pos : Str → Option Nat) (one oth : List Str) (qA mA : Addr) (res : List (Nat × Nat)) (n : Nat) (m : Str → Option Value) (nw : List (Addr × Obj)) : Prop
  | mk : (Cst ps m) → ∀ (q : List Rg) (bs : List (Nat × Nat)) (vr vm : List Value) (nq nm : Nat) (tl : List (Addr × Obj)), (nw = (qA, listOf vr.toArray nq) :: (mA, listOf vm.toArray nm) :: tl) → ((∀ p ∈ tl, p.1 ≠ qA)) → ((∀ p ∈ tl, p.1 ≠ mA)) → ((∀ p ∈ N₀, p ∈ tl)) → (All2 (QIs tl) vr.reverse q) → (All2 (MIs tl) vm bs) → ((∀ x ∈ q, x.1 ≤ x.2.1 ∧ x.2.1 ≤ one.length ∧ x.2.2.1 ≤ x.2.2.2 ∧ x.2.2.2 ≤ oth.length)) → (gq pos one n q bs = some res) → (vr.length + n < 900) → (vm.length + n < 900) → GmbJ N₀ ps pos one oth qA mA res n m nw

noncomputable def offF (qA mA : Addr) (all : List (Addr × Obj)) : List (Addr × Obj) := all.filter fun p => decide (p.1 ≠ qA ∧ p.1 ≠ mA)
theorem offF_mem {qA mA : Addr} {all : List (Addr × Obj)} {p : Addr × Obj} (h : p ∈ all) (h1 : @Ne Nat p.1 qA) (h2 : @Ne Nat p.1 mA) : p ∈ offF qA mA all := List.mem_filter.mpr ⟨h, decide_eq_true ⟨h1, h2⟩⟩
theorem ltI1 {i a : Nat} : (i : Int) + 1 < (a : Int) ↔ i + 1 < a := by walk_at "om"
theorem gmb_close {g : Heap} {L : Addr} {s : Shared} {h' : Heap} {tk n n' : Nat} {m' : Str → Option Value} {all tl N₀ : List (Addr × Obj)} {ps : List (Str × Value)} {pos : Str → Option Nat} {one oth : List Str} {qA mA : Addr} {res : List (Nat × Nat)} {vl vm : List Value} {aq am : Array Value} {nq nm : Nat} {q : List Rg} {bs : List (Nat × Nat)}
    (F : Fr g L h' m') (N : News g L h' all) (cst : Cst ps m') (hq : (qA, listOf aq nq) ∈ all) (eq : aq = vl.toArray) (hm : (mA, listOf am nm) ∈ all) (em : am = vm.toArray) (hs : ∀ p ∈ tl, p ∈ all) (hq1 : ∀ p ∈ tl, p.1 ≠ qA) (hm1 : ∀ p ∈ tl, p.1 ≠ mA) (hsub : ∀ p ∈ N₀, p ∈ tl) (hn : n' < n)
    (hQ : (∀ p ∈ tl, p ∈ offF qA mA all) → All2 (QIs (offF qA mA all)) vl.reverse q) (hM : (∀ p ∈ tl, p ∈ offF qA mA all) → All2 (MIs (offF qA mA all)) vm bs) (hrg : ∀ x ∈ q, x.1 ≤ x.2.1 ∧ x.2.1 ≤ one.length ∧ x.2.2.1 ≤ x.2.2.2 ∧ x.2.2.2 ≤ oth.length) (hg : gq pos one n' q bs = some res) (h1 : vl.length + n' < 900) (h2 : vm.length + n' < 900) :
    Again g L s { s with heap := h', toks := tk } n (GmbJ N₀ ps pos one oth qA mA res) :=
  have hin : ∀ p ∈ tl, p ∈ offF qA mA all := fun p hp => offF_mem (hs p hp) (hq1 p hp) (hm1 p hp)
  have hq : (qA, listOf vl.toArray nq) ∈ all := eq ▸ hq
  have hm : (mA, listOf vm.toArray nm) ∈ all := em ▸ hm
  ⟨h', tk, m', (qA, listOf vl.toArray nq) :: (mA, listOf vm.toArray nm) :: offF qA mA all, n', rfl, F, fun p hp => by
      rcases List.mem_cons.mp hp with rfl | hp
      · exact N _ hq
      · rcases List.mem_cons.mp hp with rfl | hp
        · exact N _ hm
        · exact N _ (List.mem_filter.mp hp).1, hn,
    ⟨cst, q, bs, vl, vm, nq, nm, _, rfl, fun p hp => (of_decide_eq_true (List.mem_filter.mp hp).2).1, fun p hp => (of_decide_eq_true (List.mem_filter.mp hp).2).2, fun p hp => hin p (hsub p hp), hQ hin, hM hin, hrg, hg, h1, h2⟩⟩
end Mine
end
local macro_rules | `(tactic| walk_at "m1") => `(tactic| (k_here; k_dflt (refine' kl_pop ?F ?N ?e ?U ?z ?_; (case F => k_asm); (case N => k_asm); (case U => k_upd); (case e => exact kpa_last _ _); (case z => (simp only [List.length_append, List.length_reverse, List.length_cons, List.length_nil]; rw [sizeLine_eq]; walk_at "om")); k_whole); intro h' F' N'; (try dsimp only [List.nil_append, List.cons_append] at N')))
section
open PySem PySem.W PyProof.Rows Mine PySem.Calls PySem.Spec PySem.Challenge
set_option maxRecDepth 100000
namespace Mine
section
set_option maxHeartbeats 16000000 in
theorem gmb_turn : ∀ {w : World} {mean : ExcName → Option Value} {mg mb : Str → Option Value} (dp un : Nat) (gd : Option (List Code)) (outer : List Env) (A₀ : Around) (base g : Heap) (L : Addr) (m₁ : Str → Option Value) (tl N₀ : List (Addr × Obj)) (s : Shared)
   (x dx jA nd sn : Addr) (st : SetTable) (t1 t2 t3 t4 t5 t6 t7 t8 t9 t10 : Nat) (mbV ocV fbV poV : Value)
   (aA bA dA qA mA : Addr) (pos : Str → Option Nat) (one oth : List Str) (va vb vl vm : List Value) (na nb nq nm ula ulb : Nat) (oB : Obj) (kvs : List (Str × Value)) (q : List Rg) (bs res : List (Nat × Nat)) (n : Nat)
    (Q : Flow → Shared → Prop) (E : Value → Shared → Prop)
    (B : Below A₀ base outer g) (X : (K w.params).In g) (T : Top Mine.q (looseW Mine.q loose) mean mg mb g)
    (F : Fr g L s.heap m₁) (N : News g L s.heap ((qA, listOf vl.toArray nq) :: (mA, listOf vm.toArray nm) :: tl))
    (hne : @Ne Nat qA mA) (hq1 : ∀ p ∈ tl, p.1 ≠ qA) (hm1 : ∀ p ∈ tl, p.1 ≠ mA)
    (hcst : Cst [(PySem.Str.ofString "self", .ref x), (PySem.Str.ofString "la", .int (one.length : Int) ula), (PySem.Str.ofString "lb", .int (oth.length : Int) ulb), (PySem.Str.ofString "queue", .ref qA), (PySem.Str.ofString "matching_blocks", .ref mA)] m₁)
    (hx : (x, instObj 242 dx) ∈ N₀)
    (hdx : (dx, dictOf [smE w "isjunk" t1 .none, smE w "a" t2 (.ref aA), smE w "b" t3 (.ref bA), smE w "autojunk" t4 (.bool true), smE w "matching_blocks" t5 mbV, smE w "opcodes" t6 ocV, smE w "fullbcount" t7 fbV, smE w "b2j" t8 (.ref dA), smE w "bjunk" t9 (.ref jA), smE w "bpopular" t10 poV] nd) ∈ N₀)
    (hj : (jA, setObj sn st) ∈ N₀) (H : FlmB w N₀ aA bA dA pos one oth va vb na nb oB kvs)
    (hsub : ∀ p ∈ N₀, p ∈ tl) (hQ : All2 (QIs tl) vl.reverse q) (hM : All2 (MIs tl) vm bs) (hrg : ∀ x ∈ q, x.1 ≤ x.2.1 ∧ x.2.1 ≤ one.length ∧ x.2.2.1 ≤ x.2.2.2 ∧ x.2.2.2 ≤ oth.length)
    (hg : gq pos one n q bs = some res) (hvr : vl.length + n < 900) (hvm : vm.length + n < 900) (hdp : dp + 20 < recursionLimit) (hu : un + 160 < cLine)
    (hE : PassesOwn (model rw_wn0126_01.row.prog w) (ktrTop dp un gd gmbN gmbS L 203 (.ref 202) [] outer) (envOf gmbN gmbS L 203 (.ref 202)) E)
    (hdone : ∀ h' tk, Fr g L h' m₁ → News g L h' ((mA, listOf vm.toArray nm) :: tl) → All2 (MIs tl) vm res → Q .next { s with heap := h', toks := tk }),
   wpAny (model rw_wn0126_01.row.prog w) (ktrTop dp un gd gmbN gmbS L 203 (.ref 202) [] outer) (isTrue gmbTest (envOf gmbN gmbS L 203 (.ref 202)) (eval gmbTest (envOf gmbN gmbS L 203 (.ref 202)))) (fun b s₂ =>
        if b = true then wpAny (model rw_wn0126_01.row.prog w) (ktrTop dp un gd gmbN gmbS L 203 (.ref 202) [] outer) (execs gmbW (envOf gmbN gmbS L 203 (.ref 202))) (fun f s₃ => match f with
          | .ret v => Q (.ret v) s₃
          | .brk => Q .next s₃
          | _ => Stop (Again g L s s₃ n (GmbJ N₀ [(PySem.Str.ofString "self", .ref x), (PySem.Str.ofString "la", .int (one.length : Int) ula), (PySem.Str.ofString "lb", .int (oth.length : Int) ulb), (PySem.Str.ofString "queue", .ref qA), (PySem.Str.ofString "matching_blocks", .ref mA)] pos one oth qA mA res))) E s₂ else Q .next s₂) E s := by
  k_with_none
  k_with "all" => first | assumption | exact allLt_ne (by first | assumption | exact And.right (by assumption) | exact And.right (And.right (by assumption)) | exact And.right (And.right (And.right (by assumption))) | exact And.right (And.right (And.right (And.right (by assumption)))) | exact And.right (And.right (And.right (And.right (And.right (by assumption))))) | exact And.right (And.right (And.right (And.right (And.right (And.right (by assumption)))))) | exact And.right (And.right (And.right (And.right (And.right (And.right (And.right (by assumption))))))) | exact And.right (And.right (And.right (And.right (And.right (And.right (And.right (And.right (by assumption)))))))) )
  k_with "call ref" => (k_here; (with_reducible show wpAny _ _ (call (Value.ref _) [Value.ref _, Value.int _ _, Value.int _ _, Value.int _ _, Value.int _ _]) _ _ _); k_dflt (refine' flm_none _ _ _ _ _ _ _ _ _ _ _ _ _ _ _ _ _ _ _ _ _ _ _ _ _ _ _ _ _ _ _ _ _ _ _ _ _ _ _ _ _ _ _ _ _ _ _ _ _ _ _ _ _ _ _ _ _ _ (by k_asm) (by k_asm) (by k_asm) (by k_asm) (by k_asm) (by rfl) (by k_mem) (by k_mem) (by k_mem) (by exact FlmB.mono (by assumption) (fun p hp => by repeat (first | exact hp | apply List.mem_cons_of_mem))) ?_ ?_ ?_ ?_ (by ktr_room) (by ktr_units) (by assumption) ?_; (walk_at "om"); (walk_at "om"); (walk_at "om"); (walk_at "om"); k_whole); intro _ _ _ _ _ _ _ _ l1; (try k_lt l1); (revert l1; intro _))
  k_with "call ref" => (k_here; (with_reducible show wpAny _ _ (call (Value.ref _) [Value.ref _, Value.int _ _, Value.int _ _, Value.int _ _, Value.int _ _]) _ _ _); k_dflt (refine' flm_some _ _ _ _ _ _ _ _ _ _ _ _ _ _ _ _ _ _ _ _ _ _ _ _ _ _ _ _ _ _ _ _ _ _ _ _ _ _ _ _ _ _ _ _ _ _ _ _ _ _ _ _ _ _ _ _ _ _ (by k_asm) (by k_asm) (by k_asm) (by k_asm) (by k_asm) (by rfl) (by k_mem) (by k_mem) (by k_mem) (by exact FlmB.mono (by assumption) (fun p hp => by repeat (first | exact hp | apply List.mem_cons_of_mem))) ?_ ?_ ?_ ?_ (by ktr_room) (by ktr_units) (by assumption) ?_; (walk_at "om"); (walk_at "om"); (walk_at "om"); (walk_at "om"); k_whole); intro _ _ _ _ _ _ _ _ l1; (try k_lt l1); (revert l1; intro _))
  k_with "call builtin:list.pop" => walk_at "m1"
  k_with "fits" => (simp only [List.size_toArray, Array.size_push, List.length_append, List.length_reverse, List.length_cons, List.length_nil]; rw [sizeLine_eq]; walk_at "om")
  k_with "assign Tuple" => ((with_reducible show wpAny _ _ (assign (Expr.Tuple _ _ _) _ (Value.ref _)) _ _ _); k_dflt (refine' lf_assignM (by exact rfl) (by k_asm) (by k_asm) (by k_asm) (by k_mem) (by exact rfl) (by exact rfl) ?_; k_whole); intro _ _ _)
  k_with "truthy ref" => (k_here; k_dflt (first | (refine' lf_truthy_cons (by k_asm) (by k_mem) (by (simp only [List.length_reverse]; walk_at "om")) ?_; k_whole; intro _) | (refine' lf_truthy_nil (by k_asm) (by k_mem) ?_; k_whole; intro _)))
  k_fill
  intro w mean mg mb dp un gd outer A₀ base g L m₁ tl N₀ s x dx jA nd sn st t1 t2 t3 t4 t5 t6 t7 t8 t9 t10 mbV ocV fbV poV aA bA dA qA mA pos one oth va vb vl vm na nb nq nm ula ulb oB kvs q bs res n Q E B X T F N hne hq1 hm1 hcst hx₀ hdx₀ hj₀ H₀ hsub hQ hM hrg hg hvr hvm hdp hu hE hdone
  have hx := hsub _ hx₀
  have hdx := hsub _ hdx₀
  have hj := hsub _ hj₀
  have H := FlmB.mono H₀ hsub
  have e := H.la
  have e' := H.lb
  have F0 := F
  have F := fr_ov _ hcst F
  dsimp (instances := true) only [kstB] at F
  delta gmbW gmbTest
  dsimp only
  obtain ⟨n, rfl⟩ : ∃ k, n = k + 1 := by
    cases n with
    | zero => cases hg
    | succ k => exact ⟨k, rfl⟩
  obtain ⟨vr, rfl⟩ : ∃ vr : List Value, vl = vr.reverse := ⟨vl.reverse, (List.reverse_reverse vl).symm⟩
  rw [List.reverse_reverse] at hQ
  rw [List.length_reverse] at hvr
  match vr, q, hQ with
  | [], [], _ =>
    have hres : res = bs := (Option.some.inj hg).symm
    subst hres
    clear F
    have F := fr_ov _ hcst F0
    dsimp (instances := true) only [kstB] at F
    k_steps
    exact hdone _ _ F0 (fun p hp => N p (List.mem_cons_of_mem _ hp)) hM
  | v :: vr, y :: q, hQ =>
    generalize hGz : wpAny _ _ _ _ _ _ = Gz
    obtain ⟨⟨tA, nt, y1, y2, y3, y4, u1, u2, u3, u4, rfl, htA, e1, e2, e3, e4⟩, hQ⟩ := hQ
    obtain ⟨al, ah, bl, bh⟩ := y
    dsimp only at e1 e2 e3 e4
    subst e1 e2 e3 e4
    obtain ⟨hal, hah, hbl, hbh⟩ := hrg _ (List.mem_cons_self ..)
    subst hGz
    dsimp only at hal hah hbl hbh
    have hrg' : ∀ x ∈ q, x.1 ≤ x.2.1 ∧ x.2.1 ≤ one.length ∧ x.2.2.1 ≤ x.2.2.2 ∧ x.2.2.2 ≤ oth.length := fun x hx => hrg x (List.mem_cons_of_mem _ hx)
    rw [List.reverse_cons] at N
    rw [List.length_cons] at hvr
    unfold gq at hg
    cases hf : fstHit pos one al bl bh (ah - al) with
    | none =>
      rw [hf] at hg
      dsimp only at hg
      k_steps
      all_goals (try dsimp only)
      refine Stop.on ?_
      refine' gmb_close ?F ?N ?cst ?hq ?eq ?hm ?em ?hs hq1 hm1 hsub (Nat.lt_succ_self _) ?hQ ?hM hrg' hg ?h1 ?h2
      case F => k_asm
      case N => k_asm
      case hq => k_mem
      case eq => ((first | rw [List.push_toArray, List.push_toArray] | rw [List.push_toArray] | skip) <;> exact rfl)
      case hm => k_mem
      case em => ((first | rw [List.push_toArray] | skip) <;> exact rfl)
      case hs => (intro p hp; exact List.mem_cons_of_mem _ (List.mem_cons_of_mem _ (List.mem_cons_of_mem _ hp)))
      case cst => (repeat (first | exact cst_nil | refine cst_cons (by with_unfolding_all rfl) ?_ | exact List.forall_mem_nil _ | refine List.forall_mem_cons.mpr ⟨by with_unfolding_all rfl, ?_⟩))
      case hQ => (intro hin; rw [List.reverse_reverse]; exact All2.mono (QIs.mono hin) hQ)
      case hM => (intro hin; exact All2.mono (MIs.mono hin) hM)
      case h1 => (rw [List.length_reverse]; walk_at "om")
      case h2 => walk_at "om"
    | some ij =>
      generalize hGz : wpAny _ _ _ _ _ _ = Gz
      obtain ⟨i, j⟩ := ij
      rw [hf] at hg
      dsimp only at hg
      obtain ⟨f1, f2, xx, f3, f4, f5, f6⟩ := fst_some hf
      have r1 : Stop (al ≤ i ∧ i ≤ one.length ∧ bl ≤ j ∧ j ≤ oth.length) := ⟨f1, Nat.le_of_lt (Nat.lt_of_lt_of_le f2 (by walk_at "om")), f5, Nat.le_trans (Nat.le_of_lt f6) hbh⟩
      have r2 : Stop (i + 1 < ah ∧ j + 1 < bh → i + 1 ≤ ah ∧ ah ≤ one.length ∧ j + 1 ≤ bh ∧ bh ≤ oth.length) := fun h => ⟨Nat.le_of_lt h.1, hah, Nat.le_of_lt h.2, hbh⟩
      subst hGz
      k_steps
      all_goals (try dsimp only)
      all_goals refine Stop.on ?_
      all_goals first
        | have c1 : al < i ∧ bl < j := ⟨Int.ofNat_lt.mp (by assumption), Int.ofNat_lt.mp (by assumption)⟩
        | have c1 : ¬(al < i ∧ bl < j) := fun h => absurd (Int.ofNat_lt.mpr h.1) (by assumption)
        | have c1 : ¬(al < i ∧ bl < j) := fun h => absurd (Int.ofNat_lt.mpr h.2) (by assumption)
      all_goals first
        | have c2 : i + 1 < ah ∧ j + 1 < bh := ⟨ltI1.mp (by assumption), ltI1.mp (by assumption)⟩
        | have c2 : ¬(i + 1 < ah ∧ j + 1 < bh) := fun h => absurd (ltI1.mpr h.1) (by assumption)
        | have c2 : ¬(i + 1 < ah ∧ j + 1 < bh) := fun h => absurd (ltI1.mpr h.2) (by assumption)
      all_goals first
        | ((first | rw [if_pos c1] at hg | rw [if_neg c1] at hg)
           (first | rw [if_pos c2] at hg | rw [if_neg c2] at hg)
           simp only [List.nil_append, List.cons_append] at hg
           refine' gmb_close ?F ?N ?cst ?hq ?eq ?hm ?em ?hs hq1 hm1 hsub (Nat.lt_succ_self _) ?hQ ?hM ?hrg hg ?h1 ?h2
           case F => k_asm
           case N => k_asm
           case hq => k_mem
           case eq => ((first | rw [List.push_toArray, List.push_toArray] | rw [List.push_toArray] | skip) <;> exact rfl)
           case hm => k_mem
           case em => ((first | rw [List.push_toArray] | skip) <;> exact rfl)
           case hs => (intro p hp; repeat (first | exact hp | apply List.mem_cons_of_mem))
           case cst => (repeat (first | exact cst_nil | refine cst_cons (by with_unfolding_all rfl) ?_ | exact List.forall_mem_nil _ | refine List.forall_mem_cons.mpr ⟨by with_unfolding_all rfl, ?_⟩))
           case hQ =>
             intro hin
             simp only [List.reverse_append, List.reverse_cons, List.reverse_nil, List.reverse_reverse, List.nil_append, List.cons_append]
             (repeat (first | exact All2.mono (QIs.mono hin) hQ | refine All2.cons ⟨_, _, _, _, _, _, _, _, _, _, rfl, offF_mem (by k_mem) (by walk_at "om") (by walk_at "om"), by first | rfl | (dsimp only; walk_at "om"), by first | rfl | (dsimp only; walk_at "om"), by first | rfl | (dsimp only; walk_at "om"), by first | rfl | (dsimp only; walk_at "om")⟩ ?_))
           case hM => (intro hin; exact All2.append (All2.mono (MIs.mono hin) hM) (All2.cons ⟨_, _, _, _, rfl, offF_mem (by k_mem) (by walk_at "om") (by walk_at "om")⟩ All2.nil))
           case hrg =>
             intro x hx
             (repeat (first | exact hrg' x hx | (rcases List.mem_cons.mp hx with rfl | hx; · first | exact r1 | exact r2 c2 | (dsimp only; walk_at "om"))))
           case h1 => (simp only [List.length_append, List.length_reverse, List.length_cons, List.length_nil]; walk_at "om")
           case h2 => (simp only [List.length_append, List.length_reverse, List.length_cons, List.length_nil]; walk_at "om"))
end
end Mine
end
theorem Mine.rs14 : True := by (k_with_none; trivial)
section
open PySem PySem.W PyProof.Rows Mine PySem.Calls PySem.Spec
set_option maxRecDepth 100000
namespace Mine
section
variable {prog : Program} {w : World} {A : Around} {E : Value → Shared → Prop} {s : Shared} {env : Env} {h₀ : Heap} {target : PySem.Expr} {body : List Stmt} {Q : Flow → Shared → Prop}
/-- a loop over a list of the ledger, any target -/
theorem list_indT {I : Addr} {lp : Addr × Obj} (P : List Value → (Str → Option Value) → List (Addr × Obj) → Prop)
    (turn : ∀ v r m tl it h tk, P (v :: r) m tl → lp ∈ tl → (∀ p ∈ tl, p.1 ≠ I) → it.cls = .type "list_iterator" → Fr h₀ env.locals h m → News h₀ env.locals h ((I, it) :: tl) →
      wpAny (model prog w) A (assign target env v) (fun _ s₂ => wpAny (model prog w) A (execs body env) (UnrPostW h₀ env.locals { s with heap := h, toks := tk } [(I, it)] (fun m' tl' => lp ∈ tl' ∧ P r m' tl') Q) E s₂) E { s with heap := h, toks := tk })
    (done : ∀ m tl h tk, P [] m tl → Fr h₀ env.locals h m → News h₀ env.locals h tl → Q .next { s with heap := h, toks := tk }) :
    ∀ r m tl, P r m tl → lp ∈ tl → (∀ p ∈ tl, p.1 ≠ I) → ItemsRest prog w A E h₀ env target body Q s [(I, "list_iterator")] [lp] (r.map .val) m tl
  | [], m, tl, hP, _, _ => ItemsRest.zero fun h tk F N => done m tl h tk hP F N
  | v :: r, m, tl, hP, hl, hoff => ItemsRest.val fun h tk F => AllObj.cons fun it hc => AllObj.nil fun N => by
    refine wpAny_mono (turn v r m tl it h tk hP hl hoff hc F N) (fun _ s₂ h₂ => wpAny_mono h₂ (fun f s₃ hf => ?_) fun _ _ z => z) fun _ _ z => z
    have fin : UnrEndW h₀ env.locals { s with heap := h, toks := tk } [(I, it)] (fun m' tl' => lp ∈ tl' ∧ P r m' tl') s₃ →
        UnrEndW h₀ env.locals { s with heap := h, toks := tk } [(I, it)] (fun m' n' => SubL [lp] n' ∧ ItemsRest prog w A E h₀ env target body Q s [(I, "list_iterator")] [lp] (r.map .val) m' n') s₃ := by
      rintro ⟨h', tk', m', tl', e1, F', N', off', hl', hP'⟩
      exact ⟨h', tk', m', tl', e1, F', N', off', ⟨hl', trivial⟩, list_indT P turn done r m' tl' hP' hl' fun p hp => off' p hp _ (List.mem_singleton_self _)⟩
    cases f with
    | ret v => exact hf
    | brk => exact hf
    | next => exact fin hf
    | cont => exact fin hf
/-- the loop itself: what pyIter leaves open -/
theorem list_at {ax : Addr} {vs : List Value} {n : Nat} {m₀ : Str → Option Value} {news : List (Addr × Obj)} (P : List Value → (Str → Option Value) → List (Addr × Obj) → Prop)
    (hh : A.handled = none) (F : Fr h₀ env.locals s.heap m₀) (N : News h₀ env.locals s.heap news) (hm : (ax, listOf vs.toArray n) ∈ news) (h0 : P vs m₀ news)
    (turn : ∀ I v r m tl it h tk, (∀ p ∈ news, p.1 < I) → P (v :: r) m tl → (ax, listOf vs.toArray n) ∈ tl → (∀ p ∈ tl, p.1 ≠ I) → Fr h₀ env.locals h m → News h₀ env.locals h ((I, it) :: tl) →
      wpAny (model prog w) A (assign target env v) (fun _ s₂ => wpAny (model prog w) A (execs body env) (UnrPostW h₀ env.locals { s with heap := h, toks := tk } [(I, it)] (fun m' tl' => (ax, listOf vs.toArray n) ∈ tl' ∧ P r m' tl') Q) E s₂) E { s with heap := h, toks := tk })
    (done : ∀ m tl h tk, P [] m tl → Fr h₀ env.locals h m → News h₀ env.locals h tl → Q .next { s with heap := h, toks := tk }) :
    wpAny (model prog w) A (pyIter (.ref ax)) (fun it s₂ => TurnsAt prog w A h₀ env target body Q E it s₂) E s :=
  iter_listTurns hh F N hm rfl rfl fun I hI => list_indT P (fun v r m tl it h tk a b c _ d e => turn I v r m tl it h tk hI a b c d e) done vs m₀ news h0 hm fun p hp => Nat.ne_of_lt (hI p hp)
end
end Mine
end
section
open PySem PySem.W PyProof.Rows Mine PySem.Calls PySem.Spec PySem.Challenge
set_option maxRecDepth 100000
namespace Mine
noncomputable def forTgt : Stmt → PySem.Expr
  | .For t _ _ _ _ => t
  | _ => .Name (PySem.Str.ofString "x") ⟨0, 0, 0, 0⟩
noncomputable def gnaBody : List Stmt := by
  refine (fun (l : List Stmt) (_ : forBody (nth gmbB 9) = l) => l) ?x ?h
  case h => (conv => lhs; whnf)
noncomputable def gnaTgt : PySem.Expr := by
  refine (fun (l : PySem.Expr) (_ : forTgt (nth gmbB 9) = l) => l) ?x ?h
  case h => (conv => lhs; whnf)
noncomputable abbrev Tri : Type := Nat × Nat × Nat
inductive TIs (tl : List (Addr × Obj)) (v : Value) (x : Tri) : Prop
  | mk : ∀ a n y1 y2 y3 u1 u2 u3, (v = .ref a) → ((a, tpObj [.int y1 u1, .int y2 u2, .int y3 u3] n) ∈ tl) → (y1 = (x.1 : Int) ∧ y2 = (x.2.1 : Int) ∧ y3 = (x.2.2 : Int)) → TIs tl v x
theorem TIs.mono {tl tl' : List (Addr × Obj)} (h : ∀ p ∈ tl, p ∈ tl') (v : Value) (x : Tri) (q : TIs tl v x) : TIs tl' v x := by
  obtain ⟨a, n, y1, y2, y3, u1, u2, u3, e, hm, r⟩ := q
  exact ⟨a, n, y1, y2, y3, u1, u2, u3, e, h _ hm, r⟩
noncomputable def naM : List (Nat × Nat) → Tri → List Tri → Tri × List Tri
  | [], s, acc => (s, acc)
  | (i2, j2) :: r, (i1, j1, k1), acc => if i1 + k1 = i2 ∧ j1 + k1 = j2 then naM r (i1, j1, k1 + 1) acc else naM r (i2, j2, 1) (if k1 = 0 then acc else acc ++ [(i1, j1, k1)])
/-- between the turns of the loop that joins adjacent blocks -/
inductive GnaP (N₀ : List (Addr × Obj)) (ps : List (Str × Value)) (nA : Addr) (res : Tri × List Tri) (vs : List Value) (m : Str → Option Value) (nw : List (Addr × Obj)) : Prop
  | mk : (Cst ps m) → ∀ (i1 j1 k1 : Nat) (t1 t2 t3 : Tok) (acc : List Tri) (bs : List (Nat × Nat)) (vn : List Value) (nn : Nat) (tl : List (Addr × Obj)), ((Cst [(PySem.Str.ofString "i1", .int (i1 : Int) t1), (PySem.Str.ofString "j1", .int (j1 : Int) t2), (PySem.Str.ofString "k1", .int (k1 : Int) t3)] m)) → (nw = (nA, listOf vn.toArray nn) :: tl) → ((∀ p ∈ tl, p.1 ≠ nA)) → ((∀ p ∈ N₀, p ∈ tl)) → (All2 (MIs tl) vs bs) → (All2 (TIs tl) vn acc) → (naM bs (i1, j1, k1) acc = res) → (vn.length + vs.length < 880) → GnaP N₀ ps nA res vs m nw
theorem eqI2 {i k j : Nat} : (i : Int) + (k : Int) = (j : Int) ↔ i + k = j := by walk_at "om"
theorem gna_close {g : Heap} {L I nA : Addr} {it : Obj} {s₁ : Shared} {h' : Heap} {tk : Nat} {m' : Str → Option Value} {all tl : List (Addr × Obj)} {an : Array Value} {vn : List Value} {nn : Nat} {R : (Str → Option Value) → List (Addr × Obj) → Prop}
    (F : Fr g L h' m') (N : News g L h' all) (hI : (I, it) ∈ all) (hn : (nA, listOf an nn) ∈ all) (en : an = vn.toArray) (hs : ∀ p ∈ tl, p ∈ all) (h1 : ∀ p ∈ tl, p.1 ≠ nA) (h2 : ∀ p ∈ tl, p.1 ≠ I) (hnI : @Ne Nat nA I)
    (hr : (∀ p ∈ tl, p ∈ offF nA I all) → R m' ((nA, listOf vn.toArray nn) :: offF nA I all)) : UnrEndW g L s₁ [(I, it)] R { s₁ with heap := h', toks := tk } := by
  subst en
  exact ⟨h', tk, m', _, rfl, F, fun p hp => by
    rcases List.mem_append.mp hp with hp | hp
    · exact N _ (List.mem_singleton.mp hp ▸ hI)
    · rcases List.mem_cons.mp hp with rfl | hp
      · exact N _ hn
      · exact N _ (List.mem_filter.mp hp).1, fun p hp q hq => by
    rw [List.mem_singleton.mp hq]
    rcases List.mem_cons.mp hp with rfl | hp
    · exact hnI
    · exact (of_decide_eq_true (List.mem_filter.mp hp).2).2, hr fun p hp => offF_mem (hs p hp) (h1 p hp) (h2 p hp)⟩
end Mine
end
section
open PySem PySem.W PyProof.Rows Mine PySem.Calls PySem.Spec PySem.Challenge
set_option maxRecDepth 100000
namespace Mine
section
set_option maxHeartbeats 16000000 in
theorem gna_turn : ∀ {w : World} {mean : ExcName → Option Value} {mg mb : Str → Option Value} (dp un : Nat) (gd : Option (List Code)) (outer : List Env) (A₀ : Around) (base g : Heap) (L : Addr) (m₁ : Str → Option Value) (tl N₀ : List (Addr × Obj)) (s : Shared) (h : Heap) (tk : Nat)
   (I nA mA x : Addr) (it : Obj) (ula ulb : Tok) (la lb : Int) (v : Value) (r vm : List Value) (nm : Nat) (res : Tri × List Tri)
    (Q : Flow → Shared → Prop) (E : Value → Shared → Prop)
    (B : Below A₀ base outer g) (X : (K w.params).In g) (T : Top Mine.q (looseW Mine.q loose) mean mg mb g)
    (F : Fr g L h m₁) (N : News g L h ((I, it) :: tl)) (hoff : ∀ p ∈ tl, p.1 ≠ I) (hlm : (mA, listOf vm.toArray nm) ∈ tl) (hnm : @Ne Nat nA mA)
    (P : GnaP N₀ [(PySem.Str.ofString "self", .ref x), (PySem.Str.ofString "la", .int la ula), (PySem.Str.ofString "lb", .int lb ulb), (PySem.Str.ofString "matching_blocks", .ref mA), (PySem.Str.ofString "non_adjacent", .ref nA)] nA res (v :: r) m₁ tl)
    (hE : PassesOwn (model rw_wn0126_01.row.prog w) (ktrTop dp un gd gmbN gmbS L 203 (.ref 202) [] outer) (envOf gmbN gmbS L 203 (.ref 202)) E),
   wpAny (model rw_wn0126_01.row.prog w) (ktrTop dp un gd gmbN gmbS L 203 (.ref 202) [] outer) (assign gnaTgt (envOf gmbN gmbS L 203 (.ref 202)) v) (fun _ s₂ => wpAny (model rw_wn0126_01.row.prog w) (ktrTop dp un gd gmbN gmbS L 203 (.ref 202) [] outer) (execs gnaBody (envOf gmbN gmbS L 203 (.ref 202)))
       (UnrPostW g L { s with heap := h, toks := tk } [(I, it)] (fun m' tl' => (mA, listOf vm.toArray nm) ∈ tl' ∧ GnaP N₀ [(PySem.Str.ofString "self", .ref x), (PySem.Str.ofString "la", .int la ula), (PySem.Str.ofString "lb", .int lb ulb), (PySem.Str.ofString "matching_blocks", .ref mA), (PySem.Str.ofString "non_adjacent", .ref nA)] nA res r m' tl') Q) E s₂) E { s with heap := h, toks := tk } := by
  k_with_none
  k_with "all" => first | assumption | exact allLt_ne (by first | assumption | exact And.right (by assumption) | exact And.right (And.right (by assumption)) | exact And.right (And.right (And.right (by assumption))) | exact And.right (And.right (And.right (And.right (by assumption)))) | exact And.right (And.right (And.right (And.right (And.right (by assumption))))) | exact And.right (And.right (And.right (And.right (And.right (And.right (by assumption)))))) | exact And.right (And.right (And.right (And.right (And.right (And.right (And.right (by assumption))))))) | exact And.right (And.right (And.right (And.right (And.right (And.right (And.right (And.right (by assumption)))))))) )
  k_with "call ref" => (k_here; (with_reducible show wpAny _ _ (call (Value.ref _) [Value.ref _, Value.int _ _, Value.int _ _, Value.int _ _, Value.int _ _]) _ _ _); k_dflt (refine' flm_none _ _ _ _ _ _ _ _ _ _ _ _ _ _ _ _ _ _ _ _ _ _ _ _ _ _ _ _ _ _ _ _ _ _ _ _ _ _ _ _ _ _ _ _ _ _ _ _ _ _ _ _ _ _ _ _ _ _ (by k_asm) (by k_asm) (by k_asm) (by k_asm) (by k_asm) (by rfl) (by k_mem) (by k_mem) (by k_mem) (by exact FlmB.mono (by assumption) (fun p hp => by repeat (first | exact hp | apply List.mem_cons_of_mem))) ?_ ?_ ?_ ?_ (by ktr_room) (by ktr_units) (by assumption) ?_; (walk_at "om"); (walk_at "om"); (walk_at "om"); (walk_at "om"); k_whole); intro _ _ _ _ _ _ _ _ l1; (try k_lt l1); (revert l1; intro _))
  k_with "call ref" => (k_here; (with_reducible show wpAny _ _ (call (Value.ref _) [Value.ref _, Value.int _ _, Value.int _ _, Value.int _ _, Value.int _ _]) _ _ _); k_dflt (refine' flm_some _ _ _ _ _ _ _ _ _ _ _ _ _ _ _ _ _ _ _ _ _ _ _ _ _ _ _ _ _ _ _ _ _ _ _ _ _ _ _ _ _ _ _ _ _ _ _ _ _ _ _ _ _ _ _ _ _ _ (by k_asm) (by k_asm) (by k_asm) (by k_asm) (by k_asm) (by rfl) (by k_mem) (by k_mem) (by k_mem) (by exact FlmB.mono (by assumption) (fun p hp => by repeat (first | exact hp | apply List.mem_cons_of_mem))) ?_ ?_ ?_ ?_ (by ktr_room) (by ktr_units) (by assumption) ?_; (walk_at "om"); (walk_at "om"); (walk_at "om"); (walk_at "om"); k_whole); intro _ _ _ _ _ _ _ _ l1; (try k_lt l1); (revert l1; intro _))
  k_with "call builtin:list.pop" => walk_at "m1"
  k_with "fits" => (simp only [List.size_toArray, Array.size_push, List.length_append, List.length_reverse, List.length_cons, List.length_nil]; rw [sizeLine_eq]; walk_at "om")
  k_with "assign Tuple" => ((with_reducible show wpAny _ _ (assign (Expr.Tuple _ _ _) _ (Value.ref _)) _ _ _); k_dflt (refine' lf_assignM (by exact rfl) (by k_asm) (by k_asm) (by k_asm) (by k_mem) (by exact rfl) (by exact rfl) ?_; k_whole); intro _ _ _)
  k_with "truthy ref" => (k_here; k_dflt (first | (refine' lf_truthy_cons (by k_asm) (by k_mem) (by (simp only [List.length_reverse]; walk_at "om")) ?_; k_whole; intro _) | (refine' lf_truthy_nil (by k_asm) (by k_mem) ?_; k_whole; intro _)))
  k_with "UnrEndW" => refine Stop.mk ?_
  k_fill
  intro w mean mg mb dp un gd outer A₀ base g L m₁ tl N₀ s h tk I nA mA x it ula ulb la lb v r vm nm res Q E B X T F N hoff hlm hnm P hE
  obtain ⟨hcst, i1, j1, k1, t1, t2, t3, acc, bs, vn, nn, tl, hv, rfl, hn1, hsub, hM, hT, hres, hlen⟩ := P
  have F := fr_ov _ (fun p hp => (List.mem_append.mp hp).elim (hv p) (hcst p)) F
  dsimp (instances := true) only [kstB, List.cons_append, List.nil_append] at F
  have hnI : @Ne Nat nA I := hoff _ (List.mem_cons_self ..)
  have hlm : (mA, listOf vm.toArray nm) ∈ tl := by
    rcases List.mem_cons.mp hlm with e | e
    · exact absurd (congrArg Prod.fst e).symm hnm
    · exact e
  have hoff : ∀ p ∈ tl, p.1 ≠ I := fun p hp => hoff p (List.mem_cons_of_mem _ hp)
  rw [List.length_cons] at hlen
  match bs, hM with
  | y :: bs, hM2 =>
    obtain ⟨⟨aM, z1, z2, z3, rfl, haM⟩, hM3⟩ := hM2
    obtain ⟨i2, j2⟩ := y
    dsimp only at haM
    unfold naM at hres
    delta gnaTgt gnaBody
    dsimp only
    k_steps
    all_goals refine Stop.on ?_
    all_goals first
      | have c1 : i1 + k1 = i2 ∧ j1 + k1 = j2 := ⟨eqI2.mp (by assumption), eqI2.mp (by assumption)⟩
      | have c1 : ¬(i1 + k1 = i2 ∧ j1 + k1 = j2) := fun h => absurd (eqI2.mpr h.1) (by assumption)
      | have c1 : ¬(i1 + k1 = i2 ∧ j1 + k1 = j2) := fun h => absurd (eqI2.mpr h.2) (by assumption)
    all_goals first
      | have c2 : k1 = 0 := Int.ofNat_eq_zero.mp (by assumption)
      | have c2 : ¬k1 = 0 := fun h => absurd (Int.ofNat_eq_zero.mpr h) (by assumption)
      | skip
    all_goals first
      | ((first | rw [if_pos c1] at hres | rw [if_neg c1] at hres)
         (first | rw [if_pos c2] at hres | rw [if_neg c2] at hres | skip)
         refine' gna_close ?F ?N ?hI ?hn ?en ?hs hn1 hoff hnI ?hr
         case F => k_asm
         case N => k_asm
         case hI => k_mem
         case hn => k_mem
         case en => ((first | rw [List.push_toArray] | skip) <;> exact rfl)
         case hs => (intro p hp; repeat (first | exact hp | apply List.mem_cons_of_mem))
         case hr =>
           intro hin
           refine' ⟨List.mem_cons_of_mem _ (hin _ hlm), ?cst, _, _, _, _, _, _, _, _, _, _, _, ?hv, rfl, ?n1, ?sub, ?M, ?T, hres, ?len⟩
           case cst => (repeat (first | exact cst_nil | refine cst_cons (by with_unfolding_all rfl) ?_ | exact List.forall_mem_nil _ | refine List.forall_mem_cons.mpr ⟨by with_unfolding_all rfl, ?_⟩))
           case hv => (repeat (first | exact cst_nil | refine cst_cons (by with_unfolding_all rfl) ?_ | exact List.forall_mem_nil _ | refine List.forall_mem_cons.mpr ⟨by with_unfolding_all rfl, ?_⟩))
           case n1 => exact fun p hp => (of_decide_eq_true (List.mem_filter.mp hp).2).1
           case sub => exact fun p hp => hin p (hsub p hp)
           case M => exact All2.mono (MIs.mono hin) hM3
           case T => first | exact All2.mono (TIs.mono hin) hT | exact All2.append (All2.mono (TIs.mono hin) hT) (All2.cons ⟨_, _, _, _, _, _, _, _, rfl, offF_mem (by k_mem) (by walk_at "om") (by walk_at "om"), rfl, rfl, rfl⟩ All2.nil)
           case len => first | walk_at "om" | (simp only [List.length_append, List.length_cons, List.length_nil]; walk_at "om"))
end
end Mine
end
theorem Mine.rs16 : True := by (k_with_none; trivial)
section
open PySem PySem.W PyProof.Rows Mine PySem.Calls PySem.Spec
set_option maxRecDepth 100000
namespace Mine
theorem slot_tup_len : Slot "tuple" "__len__" "tuple.__len__" :=
  .of (owner := "tuple") (n := "__len__") (by rw [typeLookup_type, builtinLookup_eq_fast]; kernel_rfl) (by decide +kernel) (by decide +kernel) (by decide +kernel)
    (by first | exact .inl (by decide +kernel) | exact .inr (by decide +kernel)) (by rw [isSubtype_type]; kernel_rfl)
theorem entry_tup_len : entryFor table "tuple.__len__" = some Builtin.«tuple.__len__» := entryFor_of_tree (by kernel_rfl)
theorem args_tup_len (a : Value) : argsOk "tuple.__len__" ⟨[a], []⟩ := by unfold argsOk; kernel_rfl
section
variable {prog : Program} {w : World} {A : Around} {E : Value → Shared → Prop} {s : Shared} {h₀ : Heap} {L : Addr} {m : Str → Option Value} {news : List (Addr × Obj)} {Q : Value → Shared → Prop}
theorem lk_len {h : Heap} (X : (Mine.K w.params).In h) : Looks (model prog w) h (typeLookup (.ref 135) "__len__") (some (.builtin "tuple.__len__")) := Looks.of_peek X (by kernel_rfl)
theorem lf_lenM {r d : Addr} {vs : List Value} (F : Fr h₀ L s.heap m) (X₀ : (Mine.K w.params).In h₀) (N : News h₀ L s.heap news) (hm : (r, ({ cls := .ref 135, dict := some d, data := .seq vs.toArray } : Obj)) ∈ news) (hv : vs.length < 1000)
    (h : Q (.int (vs.length : Int) (s.toks + 1)) { s with toks := s.toks + 1 + 1 }) : wpAny (model prog w) A (call (.builtin "len") [.ref r]) Q E s := by
  have X := X₀.keeps F.keep
  have ho := (N _ hm).1
  have t1 : Looks (model prog w) s.heap (typeOf (.ref r)) (.ref 135) := (Looks.ld ho).andThen .now
  have i1 := lk_len (prog := prog) (w := w) X
  have t2 : Looks (model prog w) s.heap (isInstance (.ref r) (.type "tuple")) true := t1.andThen (lk_subt X)
  refine call_function_entry kind_len plain_len entry_len (args_len1 _) ?_
  unfold Builtin.«len»
  refine wpAny_bind (m := oneArg "len" _) (wpAny_pure ?_)
  refine wpAny_bind (m := callSpecial? (.ref r) (Str.ofString "__len__")) ?_
  unfold callSpecial? specialOf
  refine wpAny_bind (wpAny_bind (t1.here (i1.here ?_)))
  dsimp only
  refine wpAny_holding (wpAny_bind ?_)
  rw [slot_tup_len.bind]
  refine wpAny_pure ?_
  dsimp only
  refine wpAny_bind (m_call slot_tup_len (by decide +kernel) ⟨"__len__", by decide +kernel⟩ t2 entry_tup_len ?_ (args_tup_len _))
  unfold Builtin.«tuple.__len__»
  refine wpAny_bind (wpAny_of_eq (a := (.ref r, [])) (by first | rfl | kernel_rfl) ?_)
  try dsimp only
  refine wpAny_bind ?_
  unfold Builtin.Tuple.tupleItemsOf
  refine wpAny_bind (wpAny_seqItems ho rfl (wpAny_pure ?_))
  refine wpAny_bind (wpAny_mkInt (wpAny_pure ⟨_, rfl, wpAny_pure ?_⟩))
  dsimp only
  refine wpAny_bind (wpAny_holding (wpAny_pure ?_))
  refine wpAny_bind (wpAny_letGo ?_)
  rw [List.size_toArray]
  show wpAny _ _ (if ((vs.length : Nat) : Int) < 0 then _ else _) _ _ _
  rw [if_neg (by walk_at "om")]
  show wpAny _ _ (if ((vs.length : Nat) : Int) ≥ 2 ^ 63 then _ else _) _ _ _
  rw [if_neg (by walk_at "om")]
  exact wpAny_bind (wpAny_mkInt (wpAny_pure ⟨_, rfl, h⟩))
end
end Mine
end
section
open PySem PySem.W PyProof.Rows Mine PySem.Calls PySem.Spec PySem.Challenge
set_option maxRecDepth 100000
namespace Mine
end Mine
end
section
open PySem PySem.W PyProof.Rows Mine PySem.Calls PySem.Spec PySem.Challenge
set_option maxRecDepth 100000
namespace Mine
section
set_option maxHeartbeats 16000000 in
theorem make_code : ∀ {w : World} {mean : ExcName → Option Value} {mg mb : Str → Option Value}
   (dp un : Nat) (gd : Option (List Code)) (cn : Str) (cs : Scope) (a : Addr) (ccd : Value) (cl : List (Str × Addr)) (outer : List Env) (A₀ : Around) (base h₀ : Heap) (L : Addr) (m : Str → Option Value) (news : List (Addr × Obj)) (s : Shared)
   (i j k : Int) (t u v : Tok) (tA n : Addr) (Q E : Value → Shared → Prop)
    (B : Below A₀ base outer h₀) (F : Fr h₀ L s.heap m) (X : (K w.params).In h₀) (N : News h₀ L s.heap news) (T : Top Mine.q (looseW Mine.q loose) mean mg mb h₀) (hk : cs.kind = .function)
    (hdp : dp + 4 < recursionLimit) (hu : un + 20 < cLine) (htA : (tA, ({ cls := .type "tuple", data := .seq ([.int i t, .int j u, .int k v] : List Value).toArray n } : Obj)) ∈ news)
    (hret : ∀ q d h' tk, Fr h₀ L h' m → News h₀ L h' ((q, mtObj i j k t u (v, d)) :: news) → (∀ p ∈ news, p.1 < q) → Q (.ref q) { s with heap := h', toks := tk }),
    codeAny (model rw_wn0126_01.row.prog w) (ktrTop dp un gd cn cs L a ccd cl outer) (.call (.ref 89) ⟨[.ref 135, .ref tA], []⟩) (fun r s' => match r with | .ok (.ret v) => Q v s' | .ok _ => False | .error e => E e s') s := by
  k_with_none
  k_with "unf" => walk_at "m0"
  k_with "call builtin:tuple.__new__" => (k_here; k_dflt (refine' lf_tupnew (by k_asm) (by k_asm) (by k_asm) (by k_mem) (by (simp only [List.length_cons, List.length_nil]; walk_at "om")) ?_; k_whole); intro _ _ _ _ _ l1; (try k_lt l1); (revert l1; intro _))
  k_with "getMethod type:tuple" => (k_here; k_dflt (refine' tup_method (by k_asm) (by k_asm) (by k_is) ?_; k_whole))
  k_with "call builtin:len" => (k_here; k_dflt (refine' lf_lenM (by k_asm) (by k_asm) (by k_asm) (by k_mem) (by (simp only [List.length_cons, List.length_nil]; walk_at "om")) ?_; k_whole); (try dsimp only [List.length_cons, List.length_nil]))
  k_fill
  intro w mean mg mb dp un gd cn cs a ccd cl outer A₀ base h₀ L m news s i j k t u v tA n Q E B F X N T hk hdp hu htA hret
  k_dflt ktr_unf
  k_steps
  exact hret _ _ _ _ (by assumption) (by assumption) (by assumption)
end
end Mine
end
theorem Mine.rs18 : True := by (k_with_none; trivial)
section
open PySem PySem.W PyProof.Rows Mine PySem.Calls PySem.Spec PySem.Challenge
set_option maxRecDepth 100000
namespace Mine
inductive M3Is (tl : List (Addr × Obj)) (v : Value) (x : Tri) : Prop
  | mk : ∀ a y1 y2 y3 t u z, (v = .ref a) → ((a, mtObj y1 y2 y3 t u z) ∈ tl) → (y1 = (x.1 : Int) ∧ y2 = (x.2.1 : Int) ∧ y3 = (x.2.2 : Int)) → M3Is tl v x
theorem M3Is.mono {tl tl' : List (Addr × Obj)} (h : ∀ p ∈ tl, p ∈ tl') (v : Value) (x : Tri) (q : M3Is tl v x) : M3Is tl' v x := by
  obtain ⟨a, y1, y2, y3, t, u, z, e, hm, r⟩ := q
  exact ⟨a, y1, y2, y3, t, u, z, e, h _ hm, r⟩
theorem map_mro : mroOf (.type "map") = pure [.type "map", .type "object"] := by rw [mroOf_type]; kernel_rfl
theorem map_lnew : typeLookup (.type "map") "__new__" = pure (some (.builtin "map.__new__")) := by rw [typeLookup_type, builtinLookup_eq_fast]; kernel_rfl
theorem slot_map_init : Slot "map" "__init__" "object.__init__" :=
  .of (owner := "object") (n := "__init__") (by rw [typeLookup_type, builtinLookup_eq_fast]; kernel_rfl) (by decide +kernel) (by decide +kernel) (by decide +kernel)
    (by first | exact .inl (by decide +kernel) | exact .inr (by decide +kernel)) (by rw [isSubtype_type]; kernel_rfl)
theorem called_map : TypeCalled "map" "map.__new__" "object.__init__" :=
  ⟨by decide +kernel, by decide +kernel, ⟨_, _, map_mro⟩, madeBy_type map_mro map_lnew (by decide +kernel), by decide +kernel, by rw [isSubtype_type]; kernel_rfl, slot_map_init⟩
theorem typeCall_map (a b : Value) : checkTypeCall "map" ⟨[a, b], []⟩ = pure () := by kernel_rfl
theorem newCall_map (a b : Value) : checkBuiltinCall "map.__new__" ⟨[.type "map", a, b], []⟩ = pure () := by kernel_rfl
theorem entry_map_new : entryFor table "map.__new__" = some Builtin.«map.__new__» := entryFor_of_tree (by kernel_rfl)
theorem sub_map_self : isSubtype (.type "map") (.type "map") = pure true := by rw [isSubtype_type]; kernel_rfl
theorem newClass_map (a b : Value) : Builtin.SmallTypes.newClass "map" ⟨[.type "map", a, b], []⟩ = pure (.type "map", [a, b]) := by
  unfold Builtin.SmallTypes.newClass
  simp only [isType, sub_map_self, pure_bind, Bool.not_true, Bool.false_eq_true, if_false]
noncomputable abbrev mapObj (T : Addr) (f : Value) : Obj := { cls := .type "map", data := .fields #[.ref T, f] }
noncomputable abbrev liObj (l : Addr) (i : Nat) : Obj := { cls := .type "list_iterator", data := .fields #[.ref l, .int (i : Int) 0] }
section
variable {prog : Program} {w : World} {A : Around} {E : Value → Shared → Prop} {s : Shared} {h₀ : Heap} {L : Addr} {m : Str → Option Value} {news : List (Addr × Obj)} {Q : Value → Shared → Prop}
theorem code_map_new {f : Value} {l : Addr} {items : Array Value} {Q₁ : Value → Shared → Prop} (hl : s.heap.IsList l items)
    (h : Q₁ (.ref (s.heap.objs.size + 2)) { s with heap := ((s.heap.push (liObj l 0)).push (tpObj [.ref s.heap.objs.size] 0)).push (mapObj (s.heap.objs.size + 1) f) }) :
    codeAny (model prog w) A (.call (.builtin "map.__new__") ⟨[.type "map", f, .ref l], []⟩) (wants Q₁ E) s := by
  refine codeAny_of_tree ?_
  show wpAny _ A.in1 (do checkBuiltinCall "map.__new__" ⟨[.type "map", f, .ref l], []⟩; again (.builtin "map.__new__" ⟨[.type "map", f, .ref l], []⟩)) _ _ s
  refine wpAny_bind (wpAny_of_eq (newCall_map _ _) (wpAny_pure ⟨plainId_quiet (by decide +kernel) _, codeAny_builtin entry_map_new ?_⟩))
  rw [Around.under_plainId (by decide +kernel) _]
  unfold Builtin.«map.__new__»
  refine wpAny_bind (wpAny_of_eq (newClass_map _ _) ?_)
  dsimp only
  refine wpAny_bind (wpAny_of_eq (a := ()) (by first | rfl | kernel_rfl) ?_)
  rw [if_neg (by simp)]
  unfold Builtin.SmallTypes.iterAll
  dsimp only [List.drop]
  simp only [List.forIn_cons, List.forIn_nil]
  refine wpAny_bind (wpAny_bind (wpAny_bind (wpAny_bind (wpAny_holding (wpAny_pyIter_list hl ?_)))))
  refine wpAny_pure (wpAny_pure (wpAny_pure (wpAny_bind ?_)))
  refine wpAny_newTuple ?_ (by rw [sizeLine_eq]; simp)
  refine wpAny_bind ?_
  unfold Builtin.SmallTypes.newRecord
  dsimp only
  refine wpAny_newObj_type ?_ (by show 2 ≤ sizeLine + 2; rw [sizeLine_eq]; walk_at "om")
  refine wpAny_pure ?_
  show Q₁ _ _
  simp only [Heap.size_push] at h ⊢
  exact h
theorem slot_map_iter : Slot "map" "__iter__" "map.__iter__" :=
  .of (owner := "map") (n := "__iter__") (by rw [typeLookup_type, builtinLookup_eq_fast]; kernel_rfl) (by decide +kernel) (by decide +kernel) (by decide +kernel)
    (by first | exact .inl (by decide +kernel) | exact .inr (by decide +kernel)) (by rw [isSubtype_type]; kernel_rfl)
theorem slot_map_next : Slot "map" "__next__" "map.__next__" :=
  .of (owner := "map") (n := "__next__") (by rw [typeLookup_type, builtinLookup_eq_fast]; kernel_rfl) (by decide +kernel) (by decide +kernel) (by decide +kernel)
    (by first | exact .inl (by decide +kernel) | exact .inr (by decide +kernel)) (by rw [isSubtype_type]; kernel_rfl)
theorem entry_map_next : entryFor table "map.__next__" = some Builtin.«map.__next__» := entryFor_of_tree (by kernel_rfl)
theorem map_no_len : typeLookup (.type "map") "__len__" = pure none := by rw [typeLookup_type, builtinLookup_eq_fast]; kernel_rfl
theorem map_no_hint : typeLookup (.type "map") "__length_hint__" = pure none := by rw [typeLookup_type, builtinLookup_eq_fast]; kernel_rfl
theorem args_map_next (a : Value) : argsOk "map.__next__" ⟨[a], []⟩ := by unfold argsOk; kernel_rfl
theorem args_map_iter (a : Value) : argsOk "map.__iter__" ⟨[a], []⟩ := by unfold argsOk; kernel_rfl
theorem args_oi_3 (a b c : Value) : argsOk "object.__init__" ⟨[a, b, c], []⟩ := by unfold argsOk; kernel_rfl
theorem lf_map {f : Value} {l n : Addr} {vs : List Value} (F : Fr h₀ L s.heap m) (N : News h₀ L s.heap news) (hm : (l, listOf vs.toArray n) ∈ news)
    (h : ∀ I h', Fr h₀ L h' m → News h₀ L h' ((I + 2, mapObj (I + 1) f) :: (I + 1, tpObj [.ref I] 0) :: (I, liObj l 0) :: news) → (∀ p ∈ news, p.1 < I) → Q (.ref (I + 2)) { s with heap := h' }) :
    wpAny (model prog w) A (call (.type "map") [f, .ref l]) Q E s := by
  have hl : s.heap.IsList l vs.toArray := ⟨_, (N _ hm).1, rfl, _, rfl⟩
  refine callType_codes (Q₁ := fun obj s₁ => obj = .ref (s.heap.objs.size + 2) ∧ s₁ = { s with heap := ((s.heap.push (liObj l 0)).push (tpObj [.ref s.heap.objs.size] 0)).push (mapObj (s.heap.objs.size + 1) f) }) called_map (typeCall_map _ _) PySem.F.entry_object_init (code_map_new hl ⟨rfl, rfl⟩) fun obj s₁ h₁ => ?_
  obtain ⟨rfl, rfl⟩ := h₁
  have e2 : ((s.heap.push (liObj l 0)).push (tpObj [.ref s.heap.objs.size] 0)).objs.size = s.heap.objs.size + 2 := by simp only [Heap.size_push]
  have hM : (((s.heap.push (liObj l 0)).push (tpObj [.ref s.heap.objs.size] 0)).push (mapObj (s.heap.objs.size + 1) f)).get? (s.heap.objs.size + 2) = some (mapObj (s.heap.objs.size + 1) f) := by rw [← e2]; exact Heap.get?_push_size _ rfl
  have hT : Shared.TypeIs { s with heap := ((s.heap.push (liObj l 0)).push (tpObj [.ref s.heap.objs.size] 0)).push (mapObj (s.heap.objs.size + 1) f) } (.ref (s.heap.objs.size + 2)) "map" := ⟨_, hM, rfl⟩
  have N' : News h₀ L (((s.heap.push (liObj l 0)).push (tpObj [.ref s.heap.objs.size] 0)).push (mapObj (s.heap.objs.size + 1) f)) ((s.heap.objs.size + 2, mapObj (s.heap.objs.size + 1) f) :: (s.heap.objs.size + 1, tpObj [.ref s.heap.objs.size] 0) :: (s.heap.objs.size, liObj l 0) :: news) := by
    have := ((N.push F (liObj l 0)).push (F.push _) (tpObj [.ref s.heap.objs.size] 0)).push ((F.push _).push _) (mapObj (s.heap.objs.size + 1) f)
    simp only [Heap.size_push] at this
    exact this
  have fin := h s.heap.objs.size _ (((F.push _).push _).push _) N' (fun p hp => Heap.lt_size (N p hp).1)
  refine ⟨hT, args_oi_3 _ _ _, ?_⟩
  have f1 := slot_map_init.lookup
  have f2 := called_map.made
  unfold Builtin.«object.__init__»
  dsimp only
  simp only [List.isEmpty_cons, Bool.not_false, Bool.true_or, if_true]
  refine wpAny_bind (wpAny_typeOf hT ?_)
  refine wpAny_bind (wpAny_of_eq f1 ?_)
  refine wpAny_bind (wpAny_of_eq f2 ?_)
  rw [if_neg (by simp)]
  rw [if_neg (by simp)]
  exact wpAny_pure ⟨rfl, fin⟩
end
end Mine
end
section
open PySem PySem.W PyProof.Rows Mine PySem.Calls PySem.Spec PySem.Challenge
set_option maxRecDepth 100000
namespace Mine
section
variable {prog : Program} {w : World} {A : Around} {E : Value → Shared → Prop} {s : Shared} {h₀ : Heap} {L : Addr} {m : Str → Option Value} {news : List (Addr × Obj)}
theorem li_step {it l : Addr} {i : Nat} {items : Array Value} {x : Value} {Q : Value → Shared → Prop} (hit : s.heap.IsListIter it l i) (hl : s.heap.IsList l items) (hx : items[i]? = some x)
    (hQ : ∀ h', h'.IsListIter it l (i + 1) → Heap.SameBut it s.heap h' → Q x { s with heap := h' }) : wpAny (model prog w) A (Builtin.SmallTypes.nextOf (.ref it)) Q E s := by
  obtain ⟨o, ho, hc, hd⟩ := id hit
  obtain ⟨ol, hol, _, nl, hdl⟩ := hl
  unfold Builtin.SmallTypes.nextOf
  refine wpAny_bind (wpAny_callSpecial?_slot (name := Str.ofString "__next__") hit.typeIs slot_listiter_next (wpAny_call_entry slot_listiter_next hit.typeIs entry_listiter_next ?_ (args_listiter_next _)))
  show wpAny _ _ (field (.ref it) 0 >>= _) _ _ s
  refine wpAny_bind (wpAny_field ho hd (x := .ref l) rfl ?_)
  show wpAny _ _ (if (Value.ref l == Value.none) = true then _ else _) _ _ s
  rw [if_neg (show ¬ ((Value.ref l == Value.none) = true) from Bool.false_ne_true)]
  show wpAny _ _ (field (.ref it) 1 >>= _) _ _ s
  refine wpAny_bind (wpAny_field ho hd (x := .int i 0) rfl ?_)
  show wpAny _ _ (seqItems? (.ref l) >>= _) _ _ s
  refine wpAny_bind (wpAny_seqItems hol hdl ?_)
  simp only [Int.toNat_natCast, hx]
  refine wpAny_bind (wpAny_setField ho hd (by simp) (wpAny_pure ⟨x, rfl, wpAny_pure (hQ _ ?_ (Heap.SameBut.update ..))⟩))
  exact ⟨_, Heap.get?_update_self _ ho (Obj.isFreed_of_fields (Obj.data_mapFields hd _)), (Obj.cls_mapFields ..).trans hc, by rw [Obj.data_mapFields hd]; simp [rawInt]⟩
/-- one item of a map over one list -/
theorem mp_item {M Tt I l : Addr} {f : Value} {i : Nat} {items : Array Value} {x : Value} {Q : Option Value → Shared → Prop} (hM : s.heap.get? M = some (mapObj Tt f)) (hTt : s.heap.get? Tt = some (tpObj [.ref I] 0)) (hit : s.heap.IsListIter I l i) (hl : s.heap.IsList l items) (hx : items[i]? = some x) (hMI : M ≠ I)
    (hQ : ∀ h', h'.IsListIter I l (i + 1) → Heap.SameBut I s.heap h' → wpAny (model prog w) A.in1 (call f [x]) (fun r s₂ => Q (some r) s₂) (fun _ _ => False) { s with heap := h' }) : wpAny (model prog w) A (pyNext (.ref M)) Q E s := by
  have hT : s.TypeIs (.ref M) "map" := ⟨_, hM, rfl⟩
  unfold pyNext
  refine wpAny_bind (wpAny_attempt (wpAny_callSpecial?_slot (name := Str.ofString "__next__") hT slot_map_next (wpAny_call_entry slot_map_next hT entry_map_next ?_ (args_map_next _))))
  unfold Builtin.«map.__next__»
  refine wpAny_bind (wpAny_of_eq (a := (.ref M, [])) (by first | rfl | kernel_rfl) ?_)
  dsimp only
  refine wpAny_bind (wpAny_field hM rfl (x := .ref Tt) rfl ?_)
  refine wpAny_bind (wpAny_seqItems hTt rfl ?_)
  dsimp only
  rw [List.forIn_toArray, List.forIn_cons]
  refine wpAny_bind (wpAny_bind (wpAny_bind (wpAny_holding (li_step hit hl hx fun h' hit' sb => ?_))))
  refine wpAny_pure ?_
  dsimp only
  rw [List.forIn_nil]
  refine wpAny_pure ?_
  have hM' : h'.get? M = some (mapObj Tt f) := (sb.2 M hMI).trans hM
  refine wpAny_bind (wpAny_field hM' rfl (x := f) rfl ?_)
  refine wpAny_bind (wpAny_holding ?_)
  have e : ((#[] : Array Value).push x).toList = [x] := by simp
  rw [e]
  refine wpAny_mono (hQ h' hit' sb) (fun r s₂ hr => ?_) fun _ _ z => z.elim
  refine wpAny_bind (wpAny_letGo ?_)
  exact wpAny_pure ⟨r, rfl, wpAny_pure hr⟩
theorem mp_stop {M Tt I l : Addr} {f : Value} {i : Nat} {items : Array Value} {Q : Option Value → Shared → Prop} (hh : A.handled = none) (hM : s.heap.get? M = some (mapObj Tt f)) (hTt : s.heap.get? Tt = some (tpObj [.ref I] 0)) (hit : s.heap.IsListIter I l i) (hl : s.heap.IsList l items) (hx : items[i]? = none)
    (hQ : ∀ h', Heap.ExtBut I s.heap h' → Q none { s with heap := h' }) : wpAny (model prog w) A (pyNext (.ref M)) Q E s := by
  have hT : s.TypeIs (.ref M) "map" := ⟨_, hM, rfl⟩
  unfold pyNext
  refine wpAny_bind (wpAny_attempt (wpAny_callSpecial?_slot (name := Str.ofString "__next__") hT slot_map_next (wpAny_call_entry slot_map_next hT entry_map_next ?_ (args_map_next _))))
  unfold Builtin.«map.__next__»
  refine wpAny_bind (wpAny_of_eq (a := (.ref M, [])) (by first | rfl | kernel_rfl) ?_)
  dsimp only
  refine wpAny_bind (wpAny_field hM rfl (x := .ref Tt) rfl ?_)
  refine wpAny_bind (wpAny_seqItems hTt rfl ?_)
  dsimp only
  rw [List.forIn_toArray, List.forIn_cons]
  refine wpAny_bind (wpAny_bind (wpAny_bind (wpAny_holding ?_)))
  obtain ⟨o, ho, hc, hd⟩ := id hit
  obtain ⟨ol, hol, _, nl, hdl⟩ := hl
  unfold Builtin.SmallTypes.nextOf
  refine wpAny_bind (wpAny_callSpecial?_slot (name := Str.ofString "__next__") hit.typeIs slot_listiter_next (wpAny_call_entry slot_listiter_next hit.typeIs entry_listiter_next ?_ (args_listiter_next _)))
  show wpAny _ _ (field (.ref I) 0 >>= _) _ _ s
  refine wpAny_bind (wpAny_field ho hd (x := .ref l) rfl ?_)
  show wpAny _ _ (if (Value.ref l == Value.none) = true then _ else _) _ _ s
  rw [if_neg (show ¬ ((Value.ref l == Value.none) = true) from Bool.false_ne_true)]
  show wpAny _ _ (field (.ref I) 1 >>= _) _ _ s
  refine wpAny_bind (wpAny_field ho hd (x := .int i 0) rfl ?_)
  show wpAny _ _ (seqItems? (.ref l) >>= _) _ _ s
  refine wpAny_bind (wpAny_seqItems hol hdl ?_)
  simp only [Int.toNat_natCast, hx]
  refine wpAny_bind (wpAny_rule (wpAny_bind (wpAny_setField ho hd (by simp) ?_)))
  show wpAny _ _ (newExc (.type "StopIteration") [] >>= _) _ _ _
  refine wpAny_bind ?_
  simp only [newExc, newTuple]
  refine wpAny_bind (wpAny_newObj_type ?_ (by size_fits))
  refine wpAny_bind (m := firstArgMember _ _) (wpAny_of_eq (a := Value.none) (by first | rfl | (simp only [firstArgMember]; rfl)) ?_)
  refine wpAny_newObj_type ?_ (by size_fits)
  simp only [raiseNew]
  refine wpAny_bind (wpAny_handled ?_)
  first | rw [show A.in1.in1.handled = none from hh] | rw [show A.in1.handled = none from hh] | rw [hh]
  refine wpAny_bind (wpAny_pure (wpAny_throw ?_))
  refine wpAny_bind (wpAny_isInstance (T := "StopIteration") (b := true) ⟨_, Heap.get?_push_size _ rfl, rfl⟩ isSubtype_stop ?_)
  exact wpAny_pure (hQ _ (((Heap.SameBut.update ..).extBut.push _).push _))
end
set_option maxHeartbeats 4000000 in
/-- list.extend's loop over map(Match._make, tuples) -/
theorem mp_loop {w : World} {mean : ExcName → Option Value} {mg mb : Str → Option Value}
   (dp un : Nat) (gd : Option (List Code)) (cn : Str) (cs : Scope) (a : Addr) (ccd : Value) (cl : List (Str × Addr)) (outer : List Env) (A₀ : Around) (base h₀ : Heap) (L : Addr) (m : Str → Option Value)
   (M Tt I l q S : Addr) (n : Nat) (vs : List Value) (res : Value) (R : Result → Shared → Prop)
    (B : Below A₀ base outer h₀) (X : (K w.params).In h₀) (T : Top Mine.q (looseW Mine.q loose) mean mg mb h₀) (hk : cs.kind = .function)
    (hdp : dp + 4 < recursionLimit) (hu : un + 40 < cLine) (hMI : M ≠ I) (hSI : S ≠ I) (hvs : vs.length < 900) :
    ∀ (r : List Value) (ts out : List Tri) (i : Nat) (acc : List Value) (c : Nat) (led : List (Addr × Obj)) (s : Shared) (oI : Obj), oI.cls = .type "list_iterator" → oI.data = .fields #[.ref l, .int (i : Int) 0] → vs.drop i = r → i + r.length = vs.length → All2 (TIs led) r ts → All2 (M3Is led) acc out → acc.length + r.length < 950 →
    Fr h₀ L s.heap m → News h₀ L s.heap ((S, listOf acc.toArray c) :: (I, oI) :: led) → (∀ p ∈ led, p.1 ≠ S ∧ p.1 ≠ I) →
    (M, mapObj Tt (.ref q)) ∈ led → (Tt, tpObj [.ref I] 0) ∈ led → (l, listOf vs.toArray n) ∈ led → (q, methodObj (.ref 89) (.ref 135)) ∈ led →
    (∀ h' tk acc' c' led', Fr h₀ L h' m → News h₀ L h' ((S, listOf acc'.toArray c') :: led') → (∀ p ∈ led, p ∈ led') → All2 (M3Is led') acc' (out ++ ts) → acc'.length < 950 → R (.ok (.ret res)) { s with heap := h', toks := tk }) →
    codeAny (model rw_wn0126_01.row.prog w) (ktrTop dp un gd cn cs L a ccd cl outer) (.builtin "list.extend.loop" ⟨[.ref S, .ref M, res], []⟩) R s
  | [], ts, out, i, acc, c, led, s, oI, hoc, hod, hd, hi, hT, hM3, hl, F, N, off, h1, h2, h3, h4, hR => by
    have hts : ts = [] := by cases ts <;> first | rfl | exact hT.elim
    subst hts
    refine codeAny_builtin PySem.F.entry_extend_loop ?_
    rw [Around.under_plainId PySem.F.plain_extend_loop _]
    show wpAny _ _ (pyNext (.ref M) >>= _) _ _ s
    have hI := (N _ (.tail _ (.head _))).1
    have hIL : s.heap.IsList l vs.toArray := ⟨_, (N _ (.tail _ (.tail _ h3))).1, rfl, _, rfl⟩
    refine wpAny_bind (mp_stop (Tt := Tt) (I := I) (l := l) (i := i) (items := vs.toArray) rfl (N _ (.tail _ (.tail _ h1))).1 (N _ (.tail _ (.tail _ h2))).1 ⟨_, hI, hoc, hod⟩ hIL (by simp at hi ⊢; walk_at "om") fun h' e => ?_)
    have F' : Fr h₀ L h' m := ⟨F.ns.at' fun o eo => e L o (N _ (.tail _ (.head _))).2.1.symm eo, fun b o eb => e b o (fun q => by rw [q, (N _ (.tail _ (.head _))).2.2] at eb; cases eb) (F.keep b o eb), F.above⟩
    refine wpAny_pure (hR h' s.toks acc c led F' (fun p hp => ?_) (fun _ hp => hp) (by rw [List.append_nil]; exact hM3) (by walk_at "om"))
    have hp' : p ∈ ((S, listOf acc.toArray c) :: (I, oI) :: led) := by
      rcases List.mem_cons.mp hp with rfl | hp
      · exact .head _
      · exact .tail _ (.tail _ hp)
    have hne : p.1 ≠ I := by
      rcases List.mem_cons.mp hp with rfl | hp
      · exact hSI
      · exact (off p hp).2
    exact ⟨e p.1 p.2 hne (N p hp').1, (N p hp').2⟩
  | v :: r, ts, out, i, acc, c, led, s, oI, hoc, hod, hd, hi, hT, hM3, hl, F, N, off, h1, h2, h3, h4, hR => by
    match ts, hT with
    | y :: ts, hT =>
    obtain ⟨⟨tA, nt, y1, y2, y3, u1, u2, u3, hv, htA, e1, e2, e3⟩, hT2⟩ := hT
    subst hv
    have hx : vs.toArray[i]? = some (.ref tA) := by
      have : (vs.drop i)[0]? = some (.ref tA) := by rw [hd]; rfl
      rw [List.getElem?_drop] at this
      simpa using this
    have hdr : vs.drop (i + 1) = r := by rw [← List.drop_drop, hd]; rfl
    rw [List.length_cons] at hi hl
    have nS := N _ (.head _)
    have nI := N _ (.tail _ (.head _))
    have hIL : s.heap.IsList l vs.toArray := ⟨_, (N _ (.tail _ (.tail _ h3))).1, rfl, _, rfl⟩
    refine codeAny_builtin PySem.F.entry_extend_loop ?_
    rw [Around.under_plainId PySem.F.plain_extend_loop _]
    show wpAny _ _ (pyNext (.ref M) >>= _) _ _ s
    refine wpAny_bind (mp_item (Tt := Tt) (I := I) (l := l) (i := i) (items := vs.toArray) (N _ (.tail _ (.tail _ h1))).1 (N _ (.tail _ (.tail _ h2))).1 ⟨_, nI.1, hoc, hod⟩ hIL hx hMI fun h' hit' sb => ?_)
    obtain ⟨oI', hI', hoc', hod'⟩ := hit'
    have F' := kas_fr F sb nI.2.1 nI.2.2
    have N' : News h₀ L h' ((S, listOf acc.toArray c) :: (I, oI') :: led) := fun p hp => by
      rcases List.mem_cons.mp hp with rfl | hp
      · exact ⟨(sb.2 _ hSI).trans nS.1, nS.2⟩
      · rcases List.mem_cons.mp hp with rfl | hp
        · exact ⟨hI', nI.2⟩
        · exact ⟨(sb.2 _ (off p hp).2).trans (N _ (.tail _ (.tail _ hp))).1, (N _ (.tail _ (.tail _ hp))).2⟩
    refine call_meth N' (.tail _ (.tail _ h4)) ?_
    refine make_code dp (un + 2) gd cn cs a ccd cl outer A₀ base h₀ L m _ { s with heap := h' } y1 y2 y3 u1 u2 u3 tA nt _ _ B F' X N' T hk (by walk_at "om") (by walk_at "om") (.tail _ (.tail _ htA)) ?_
    intro q' d h2' tk F2 N2 lt
    have nS2 := N2 _ (.tail _ (.head _))
    have hltS : @LT.lt Nat _ S q' := lt _ (.head _)
    have hltI : @LT.lt Nat _ I q' := lt _ (.tail _ (.head _))
    dsimp only
    show wpAny _ _ (Builtin.List.listUpdate (.ref S) (·.push (.ref q')) >>= _) _ _ _
    have su := Heap.SameBut.update h2' S (Obj.mapSeq (·.push (Value.ref q')))
    have gS := get?_update_seq nS2.1 (·.push (Value.ref q'))
    obtain ⟨c', gS⟩ : ∃ c', (h2'.update S (Obj.mapSeq (·.push (Value.ref q')))).get? S = some (listOf (acc ++ [Value.ref q']).toArray c') := ⟨_, by rw [← List.push_toArray]; exact gS⟩
    refine wpAny_bind (listUpdate_at nS2.1 rfl ?_ (by rw [List.size_toArray, sizeLine_eq]; walk_at "om") (by rw [Array.size_push, List.size_toArray, sizeLine_eq]; walk_at "om"))
    refine wpAny_pure ⟨plainId_quiet PySem.F.plain_extend_loop _, ?_⟩
    have F3 := kas_fr F2 su nS2.2.1 nS2.2.2
    have up : ∀ p : Addr × Obj, p ∈ ((q', mtObj y1 y2 y3 u1 u2 (u3, d)) :: led) → p.1 ≠ S ∧ p.1 ≠ I := fun p hp => by
      rcases List.mem_cons.mp hp with rfl | hp
      · exact ⟨Nat.ne_of_gt hltS, Nat.ne_of_gt hltI⟩
      · exact off p hp
    have N3 : News h₀ L (h2'.update S (Obj.mapSeq (·.push (Value.ref q')))) ((S, listOf (acc ++ [Value.ref q']).toArray c') :: (I, oI') :: (q', mtObj y1 y2 y3 u1 u2 (u3, d)) :: led) := fun p hp => by
      rcases List.mem_cons.mp hp with rfl | hp
      · exact ⟨gS, nS2.2⟩
      · have hp2 : p ∈ ((q', mtObj y1 y2 y3 u1 u2 (u3, d)) :: (S, listOf acc.toArray c) :: (I, oI') :: led) := by
          rcases List.mem_cons.mp hp with rfl | hp
          · exact .tail _ (.tail _ (.head _))
          · rcases List.mem_cons.mp hp with rfl | hp
            · exact .head _
            · exact .tail _ (.tail _ (.tail _ hp))
        have hne : p.1 ≠ S := by
          rcases List.mem_cons.mp hp with rfl | hp
          · exact hSI.symm
          · exact (up p hp).1
        exact ⟨(su.2 _ hne).trans (N2 p hp2).1, (N2 p hp2).2⟩
    refine mp_loop dp un gd cn cs a ccd cl outer A₀ base h₀ L m M Tt I l q S n vs res R B X T hk hdp hu hMI hSI hvs r ts (out ++ [y]) (i + 1) (acc ++ [Value.ref q']) _ ((q', mtObj y1 y2 y3 u1 u2 (u3, d)) :: led) _ oI' hoc' hod' hdr (by walk_at "om")
      (All2.mono (TIs.mono fun _ hp => .tail _ hp) hT2) (All2.append (All2.mono (M3Is.mono fun _ hp => .tail _ hp) hM3) (All2.cons ⟨_, _, _, _, _, _, _, rfl, .head _, e1, e2, e3⟩ All2.nil)) (by simp only [List.length_append, List.length_cons, List.length_nil]; walk_at "om")
      F3 N3 up (.tail _ h1) (.tail _ h2) (.tail _ h3) (.tail _ h4) (fun h' tk' acc' c' led' a1 a2 a3 a4 a5 => ?_)
    refine hR h' tk' acc' c' led' a1 a2 (fun p hp => a3 p (.tail _ hp)) ?_ a5
    rw [List.append_assoc] at a4
    exact a4
end Mine
end
section
open PySem PySem.W PyProof.Rows Mine PySem.Calls PySem.Spec PySem.Challenge
set_option maxRecDepth 100000
namespace Mine
theorem entry_map_iter : entryFor table "map.__iter__" = some Builtin.«dict_keyiterator.__iter__» :=
  entryFor_alias (id' := "dict_keyiterator.__iter__") (by kernel_rfl) (by first | rfl | decide +kernel | (unfold String.splitOn; simp +decide [String.splitOnAux])) (by decide +kernel) (by kernel_rfl)
set_option maxHeartbeats 4000000 in
theorem lf_listmap {w : World} {mean : ExcName → Option Value} {mg mb : Str → Option Value}
   (dp un : Nat) (gd : Option (List Code)) (cn : Str) (cs : Scope) (a : Addr) (ccd : Value) (cl : List (Str × Addr)) (outer : List Env) (A₀ : Around) (base h₀ : Heap) (L : Addr) (m : Str → Option Value)
   (I l q : Addr) (n : Nat) (vs : List Value) (ts : List Tri) (led : List (Addr × Obj)) (s : Shared) (Q E : Value → Shared → Prop)
    (B : Below A₀ base outer h₀) (X : (K w.params).In h₀) (T : Top Mine.q (looseW Mine.q loose) mean mg mb h₀) (hk : cs.kind = .function)
    (hdp : dp + 4 < recursionLimit) (hu : un + 60 < cLine) (hvs : vs.length < 900) (hT : All2 (TIs led) vs ts)
    (F : Fr h₀ L s.heap m) (N : News h₀ L s.heap ((I + 2, mapObj (I + 1) (.ref q)) :: (I + 1, tpObj [.ref I] 0) :: (I, liObj l 0) :: led)) (off : ∀ p ∈ led, p.1 < I)
    (hl : (l, listOf vs.toArray n) ∈ led) (hq : (q, methodObj (.ref 89) (.ref 135)) ∈ led)
    (hret : ∀ S h' tk acc c led', Fr h₀ L h' m → News h₀ L h' ((S, listOf acc.toArray c) :: led') → (∀ p ∈ led, p ∈ led') → (∀ p ∈ led, p.1 < S) → All2 (M3Is led') acc ts → acc.length < 950 → Q (.ref S) { s with heap := h', toks := tk }) :
    wpAny (model rw_wn0126_01.row.prog w) (ktrTop dp un gd cn cs L a ccd cl outer) (call (.type "list") [.ref (I + 2)]) Q E s := by
  refine callType_codes (Q₁ := fun obj s₁ => obj = .ref s.heap.objs.size ∧ s₁ = { s with heap := s.heap.push { cls := .type "list", data := .seq #[] } }) PySem.F.called_list (PySem.F.typeCall_list_1 _) PySem.F.entry_list_init (code_list_new _ ⟨rfl, rfl⟩) fun obj s₁ h₁ => ?_
  obtain ⟨rfl, rfl⟩ := h₁
  have hS : (s.heap.push { cls := .type "list", data := .seq #[] }).get? s.heap.objs.size = some { cls := .type "list", data := .seq #[] } := Heap.get?_push_size _ rfl
  refine ⟨⟨_, hS, rfl⟩, PySem.F.args_list_init_2 _ _, ?_⟩
  show wpAny _ _ (do let old ← Builtin.List.listItems (.ref s.heap.objs.size); Builtin.List.listUpdate (.ref s.heap.objs.size) (fun _ => #[]); letGo old.toList.reverse; Builtin.List.listExtendWith (.ref s.heap.objs.size) (.ref (I + 2)) .none) _ _ _
  generalize hSe : s.heap.objs.size = S at *
  have N0 : News h₀ L (s.heap.push { cls := .type "list", data := .seq #[] }) ((S, { cls := .type "list", data := .seq #[] }) :: (I + 2, mapObj (I + 1) (.ref q)) :: (I + 1, tpObj [.ref I] 0) :: (I, liObj l 0) :: led) := by
    have := N.push F { cls := .type "list", data := .seq #[] }
    rw [hSe] at this
    exact this
  have F0 : Fr h₀ L (s.heap.push { cls := .type "list", data := .seq #[] }) m := F.push _
  have hlt : ∀ p ∈ ((I + 2, mapObj (I + 1) (.ref q)) :: (I + 1, tpObj [.ref I] 0) :: (I, liObj l 0) :: led), p.1 < S := fun p hp => hSe ▸ Heap.lt_size (N p hp).1
  have lM : I + 2 < S := hlt _ (.head _)
  generalize s.heap.push { cls := .type "list", data := .seq #[] } = hp1 at *
  unfold Builtin.List.listItems
  refine wpAny_bind (wpAny_bind (wpAny_seqItems hS rfl (wpAny_pure ?_)))
  refine wpAny_bind (listUpdate_at hS rfl ?_ (by rw [sizeLine_eq]; simp) (by rw [sizeLine_eq]; simp))
  refine wpAny_bind (wpAny_letGo ?_)
  have nS := N0 _ (.head _)
  have s2 := Heap.SameBut.update hp1 S (Obj.mapSeq fun _ => (#[] : Array Value))
  have g2 := get?_update_seq nS.1 (fun _ => (#[] : Array Value))
  have F2 := kas_fr F0 s2 nS.2.1 nS.2.2
  generalize hp1.update S (Obj.mapSeq fun _ => (#[] : Array Value)) = hp2 at *
  have N2 : News h₀ L hp2 ((I + 2, mapObj (I + 1) (.ref q)) :: (I + 1, tpObj [.ref I] 0) :: (I, liObj l 0) :: led) := fun p hp => ⟨(s2.2 _ (Nat.ne_of_lt (hlt p hp))).trans (N0 _ (.tail _ hp)).1, (N0 _ (.tail _ hp)).2⟩
  have hT0 : Shared.TypeIs { s with heap := hp2 } (.ref (I + 2)) "map" := ⟨_, (N2 _ (.head _)).1, rfl⟩
  unfold Builtin.List.listExtendWith
  refine wpAny_bind (wpAny_typeOf hT0 ?_)
  have h1 : Builtin.List.listSameRef (.ref S) (.ref (I + 2)) = false := by simp [Builtin.List.listSameRef, Nat.ne_of_gt lM]
  have h2 : (Value.type "map" == Value.type "list") = false := by decide
  have h3 : (Value.type "map" == Value.type "tuple") = false := by decide
  simp only [h1, h2, h3, Bool.or_false, Bool.false_eq_true, if_false]
  refine wpAny_bind (wpAny_pyIter_slot hT0 slot_map_iter (wpAny_call_entry slot_map_iter hT0 entry_map_iter ?_ (args_map_iter _)))
  refine wpAny_pure ⟨_, rfl, "map", _, hT0, slot_map_next.lookup, ?_⟩
  refine wpAny_bind (wpAny_holding ?_)
  unfold Builtin.List.listLengthHint
  refine wpAny_bind (wpAny_specialOf hT0 map_no_len ?_)
  show wpAny _ _ (specialOf (Value.ref (I + 2)) (Str.ofString "__length_hint__") >>= _) _ _ _
  refine wpAny_bind (wpAny_specialOf hT0 map_no_hint ?_)
  refine wpAny_pure ?_
  rw [Bool.true_or, if_pos rfl]
  refine wpAny_bind (wpAny_rule ?_)
  refine wpAny_bind ?_
  show wpAny _ _ (updateSeq S (·.push .none) >>= fun _ => updateSeq S (·.pop)) _ _ _
  refine wpAny_bind (wpAny_updateSeq g2 rfl ?_ (by rw [sizeLine_eq]; simp) (by rw [sizeLine_eq]; simp))
  have s3 := Heap.SameBut.update hp2 S (Obj.mapSeq (·.push Value.none))
  have g3 := get?_update_seq g2 (·.push Value.none)
  have F3 := kas_fr F2 s3 nS.2.1 nS.2.2
  generalize hp2.update S (Obj.mapSeq (·.push Value.none)) = hp3 at *
  refine wpAny_updateSeq g3 rfl ?_ (by rw [sizeLine_eq]; simp) (by rw [sizeLine_eq]; simp)
  have s4 := Heap.SameBut.update hp3 S (Obj.mapSeq (·.pop))
  have g4 := get?_update_seq g3 (·.pop)
  have F4 := kas_fr F3 s4 nS.2.1 nS.2.2
  generalize hp3.update S (Obj.mapSeq (·.pop)) = hp4 at *
  obtain ⟨c, g4⟩ : ∃ c, hp4.get? S = some (listOf ([] : List Value).toArray c) := ⟨_, g4⟩
  have N4 : News h₀ L hp4 ((I + 2, mapObj (I + 1) (.ref q)) :: (I + 1, tpObj [.ref I] 0) :: (I, liObj l 0) :: led) := fun p hp =>
    ⟨(s4.2 _ (Nat.ne_of_lt (hlt p hp))).trans ((s3.2 _ (Nat.ne_of_lt (hlt p hp))).trans (N2 p hp).1), (N2 p hp).2⟩
  have hI2 : @Ne Nat (I + 2) I := by walk_at "om"
  have hSI : @Ne Nat S I := Nat.ne_of_gt (hlt (I, liObj l 0) (.tail _ (.tail _ (.head _))))
  refine wpAny_pure ⟨plainId_quiet PySem.F.plain_extend_loop _, mp_loop dp (un + 1) gd cn cs a ccd cl outer A₀ base h₀ L m (I + 2) (I + 1) I l q S n vs .none _ B X T hk hdp (by walk_at "om") hI2 hSI hvs vs ts [] 0 [] c ((I + 2, mapObj (I + 1) (.ref q)) :: (I + 1, tpObj [.ref I] 0) :: led) _ (liObj l 0) rfl rfl rfl (by simp)
    (All2.mono (TIs.mono fun _ hp => .tail _ (.tail _ hp)) hT) All2.nil (by simp only [List.length_nil]; walk_at "om") F4 (fun p hp => ?_) (fun p hp => ?_) (.head _) (.tail _ (.head _)) (.tail _ (.tail _ hl)) (.tail _ (.tail _ hq)) fun h' tk acc c' led' a1 a2 a3 a4 a5 => ?_⟩
  · rcases List.mem_cons.mp hp with rfl | hp
    · exact ⟨g4, nS.2⟩
    · refine N4 p ?_
      rcases List.mem_cons.mp hp with rfl | hp
      · exact .tail _ (.tail _ (.head _))
      · rcases List.mem_cons.mp hp with rfl | hp
        · exact .head _
        · rcases List.mem_cons.mp hp with rfl | hp
          · exact .tail _ (.head _)
          · exact .tail _ (.tail _ (.tail _ hp))
  · have hI1 : @Ne Nat (I + 1) I := by walk_at "om"
    rcases List.mem_cons.mp hp with rfl | hp
    · exact ⟨Nat.ne_of_lt lM, hI2⟩
    · rcases List.mem_cons.mp hp with rfl | hp
      · exact ⟨Nat.ne_of_lt (hlt _ (.tail _ (.head _))), hI1⟩
      · exact ⟨Nat.ne_of_lt (hlt p (.tail _ (.tail _ (.tail _ hp)))), Nat.ne_of_lt (off p hp)⟩
  · exact ⟨rfl, hret S h' tk acc c' led' a1 a2 (fun p hp => a3 p (.tail _ (.tail _ hp))) (fun p hp => hlt p (.tail _ (.tail _ (.tail _ hp)))) (by simpa using a4) a5⟩
end Mine
end
section
open PySem PySem.W PyProof.Rows Mine PySem.Calls PySem.Spec PySem.Challenge
set_option maxRecDepth 100000
namespace Mine
noncomputable def gmbTail : List Stmt := by
  refine (fun (l : List Stmt) (_ : List.drop 10 gmbB = l) => l) ?x ?h
  case h => (conv => lhs; whnf)
theorem all2_off {g h : Heap} {L S dx : Addr} {all led : List (Addr × Obj)} {oS oD : Obj} {vs : List Value} {ts : List Tri} (N : News g L h all) (hS : (S, oS) ∈ all) (hD : (dx, oD) ∈ all) (cS : oS.cls ≠ .ref 135) (cD : oD.cls ≠ .ref 135) (hs : ∀ p ∈ led, p ∈ all) (hM : All2 (M3Is led) vs ts) : All2 (M3Is (offF S dx led)) vs ts :=
  All2.mono (fun v x q => by
    obtain ⟨a, y1, y2, y3, t, u, z, e, hm, r⟩ := q
    refine ⟨a, y1, y2, y3, t, u, z, e, offF_mem hm (fun e => ?_) (fun e => ?_), r⟩
    · have e' : a = S := e
      subst e'
      have := Option.some.inj ((N _ (hs _ hm)).1.symm.trans (N _ hS).1)
      exact cS (congrArg Obj.cls this).symm
    · have e' : a = dx := e
      subst e'
      have := Option.some.inj ((N _ (hs _ hm)).1.symm.trans (N _ hD).1)
      exact cD (congrArg Obj.cls this).symm) hM
end Mine
end
section
open PySem PySem.W PyProof.Rows Mine PySem.Calls PySem.Spec PySem.Challenge
set_option maxRecDepth 100000
namespace Mine
section
set_option maxHeartbeats 16000000 in
theorem gmb_tail : ∀ {w : World} {mean : ExcName → Option Value} {mg mb : Str → Option Value} (dp un : Nat) (gd : Option (List Code)) (outer : List Env) (A₀ : Around) (base g : Heap) (L : Addr) (m₁ : Str → Option Value) (tl : List (Addr × Obj)) (s : Shared)
   (x dx nA nn : Addr) (t1 t2 t3 t4 t5 t6 t7 t8 t9 t10 : Nat) (aA bA ocV fbV dA jA poV : Value) (ula ulb z1 z2 z3 : Tok) (la lb i1 j1 k1 : Nat) (vn : List Value) (acc : List Tri)
    (Q : Flow → Shared → Prop) (E : Value → Shared → Prop)
    (B : Below A₀ base outer g) (X : (K w.params).In g) (T : Top Mine.q (looseW Mine.q loose) mean mg mb g)
    (F : Fr g L s.heap (kstB m₁ [(PySem.Str.ofString "self", .ref x), (PySem.Str.ofString "la", .int (la : Int) ula), (PySem.Str.ofString "lb", .int (lb : Int) ulb), (PySem.Str.ofString "non_adjacent", .ref nA), (PySem.Str.ofString "i1", .int (i1 : Int) z1), (PySem.Str.ofString "j1", .int (j1 : Int) z2), (PySem.Str.ofString "k1", .int (k1 : Int) z3)]))
    (N : News g L s.heap ((nA, listOf vn.toArray nn) :: (dx, dictOf [smE w "isjunk" t1 .none, smE w "a" t2 aA, smE w "b" t3 bA, smE w "autojunk" t4 (.bool true), smE w "matching_blocks" t5 .none, smE w "opcodes" t6 ocV, smE w "fullbcount" t7 fbV, smE w "b2j" t8 dA, smE w "bjunk" t9 jA, smE w "bpopular" t10 poV] 10) :: tl))
    (hx : (x, instObj 242 dx) ∈ tl) (hnd : @Ne Nat nA dx) (h1 : ∀ p ∈ tl, p.1 ≠ nA) (h2 : ∀ p ∈ tl, p.1 ≠ dx) (hT : All2 (TIs tl) vn acc) (hvn : vn.length < 890)
    (hdp : dp + 20 < recursionLimit) (hu : un + 160 < cLine) (hk : gmbS.kind = .function)
    (hret : ∀ S tl' h' tk' m' vs' n', Fr g L h' m' → News g L h' ((S, listOf vs'.toArray n') :: tl') → (∀ p ∈ tl, p ∈ tl') → (∀ p ∈ tl, p.1 < S) → All2 (M3Is tl') vs' ((if k1 = 0 then acc else acc ++ [(i1, j1, k1)]) ++ [(la, lb, 0)]) → vs'.length < 950 → Q (.ret (.ref S)) { s with heap := h', toks := tk' })
    (hE : PassesOwn (model rw_wn0126_01.row.prog w) (ktrTop dp un gd gmbN gmbS L 203 (.ref 202) [] outer) (envOf gmbN gmbS L 203 (.ref 202)) E),
   wpAny (model rw_wn0126_01.row.prog w) (ktrTop dp un gd gmbN gmbS L 203 (.ref 202) [] outer) (execs gmbTail (envOf gmbN gmbS L 203 (.ref 202))) Q E s := by
  k_with_none
  k_with "all" => first | assumption | exact allLt_ne (by first | assumption | exact And.right (by assumption) | exact And.right (And.right (by assumption)) | exact And.right (And.right (And.right (by assumption))) | exact And.right (And.right (And.right (And.right (by assumption)))) | exact And.right (And.right (And.right (And.right (And.right (by assumption))))) | exact And.right (And.right (And.right (And.right (And.right (And.right (by assumption)))))) | exact And.right (And.right (And.right (And.right (And.right (And.right (And.right (by assumption))))))) | exact And.right (And.right (And.right (And.right (And.right (And.right (And.right (And.right (by assumption)))))))) )
  k_with "call ref" => (k_here; (with_reducible show wpAny _ _ (call (Value.ref _) [Value.ref _, Value.int _ _, Value.int _ _, Value.int _ _, Value.int _ _]) _ _ _); k_dflt (refine' flm_none _ _ _ _ _ _ _ _ _ _ _ _ _ _ _ _ _ _ _ _ _ _ _ _ _ _ _ _ _ _ _ _ _ _ _ _ _ _ _ _ _ _ _ _ _ _ _ _ _ _ _ _ _ _ _ _ _ _ (by k_asm) (by k_asm) (by k_asm) (by k_asm) (by k_asm) (by rfl) (by k_mem) (by k_mem) (by k_mem) (by exact FlmB.mono (by assumption) (fun p hp => by repeat (first | exact hp | apply List.mem_cons_of_mem))) ?_ ?_ ?_ ?_ (by ktr_room) (by ktr_units) (by assumption) ?_; (walk_at "om"); (walk_at "om"); (walk_at "om"); (walk_at "om"); k_whole); intro _ _ _ _ _ _ _ _ l1; (try k_lt l1); (revert l1; intro _))
  k_with "call ref" => (k_here; (with_reducible show wpAny _ _ (call (Value.ref _) [Value.ref _, Value.int _ _, Value.int _ _, Value.int _ _, Value.int _ _]) _ _ _); k_dflt (refine' flm_some _ _ _ _ _ _ _ _ _ _ _ _ _ _ _ _ _ _ _ _ _ _ _ _ _ _ _ _ _ _ _ _ _ _ _ _ _ _ _ _ _ _ _ _ _ _ _ _ _ _ _ _ _ _ _ _ _ _ (by k_asm) (by k_asm) (by k_asm) (by k_asm) (by k_asm) (by rfl) (by k_mem) (by k_mem) (by k_mem) (by exact FlmB.mono (by assumption) (fun p hp => by repeat (first | exact hp | apply List.mem_cons_of_mem))) ?_ ?_ ?_ ?_ (by ktr_room) (by ktr_units) (by assumption) ?_; (walk_at "om"); (walk_at "om"); (walk_at "om"); (walk_at "om"); k_whole); intro _ _ _ _ _ _ _ _ l1; (try k_lt l1); (revert l1; intro _))
  k_with "call builtin:list.pop" => walk_at "m1"
  k_with "fits" => (simp only [List.size_toArray, Array.size_push, List.length_append, List.length_reverse, List.length_cons, List.length_nil]; rw [sizeLine_eq]; walk_at "om")
  k_with "assign Tuple" => ((with_reducible show wpAny _ _ (assign (Expr.Tuple _ _ _) _ (Value.ref _)) _ _ _); k_dflt (refine' lf_assignM (by exact rfl) (by k_asm) (by k_asm) (by k_asm) (by k_mem) (by exact rfl) (by exact rfl) ?_; k_whole); intro _ _ _)
  k_with "truthy ref" => (k_here; k_dflt (first | (refine' lf_truthy_cons (by k_asm) (by k_mem) (by (simp only [List.length_reverse]; walk_at "om")) ?_; k_whole; intro _) | (refine' lf_truthy_nil (by k_asm) (by k_mem) ?_; k_whole; intro _)))
  k_with "call type:map" => (k_here; (try simp only [List.push_toArray] at *); k_dflt (refine' lf_map (by k_asm) (by k_asm) (by k_mem) ?_; k_whole); intro _ _ _ _ _)
  k_with "call type:list" => refine Stop.mk ?_
  k_fill
  intro w mean mg mb dp un gd outer A₀ base g L m₁ tl s x dx nA nn t1 t2 t3 t4 t5 t6 t7 t8 t9 t10 aA bA ocV fbV dA jA poV ula ulb z1 z2 z3 la lb i1 j1 k1 vn acc Q E B X T F N hx hnd h1 h2 hT hvn hdp hu hk hret hE
  dsimp (instances := true) only [kstB] at F
  delta gmbTail
  dsimp only
  k_steps
  all_goals refine Stop.on ?_
  all_goals by_cases hz : k1 = 0
  all_goals first
    | (exfalso; walk_at "om")
    | (refine' lf_listmap dp un gd gmbN gmbS 203 (.ref 202) [] outer A₀ base g L _ _ nA _ _ _ ((if k1 = 0 then acc else acc ++ [(i1, j1, k1)]) ++ [(la, lb, 0)]) _ _ _ _ ?B ?X ?T hk ?c1 ?c2 ?c3 ?hT ?F ?N ?off ?hl ?hq ?hret
       case N => k_asm
       case B => k_asm
       case X => k_asm
       case T => k_asm
       case F => k_asm
       case c1 => walk_at "om"
       case c2 => walk_at "om"
       case hl => k_mem
       case hq => k_mem
       case off => assumption
       case c3 => (simp only [List.length_append, List.length_cons, List.length_nil]; walk_at "om")
       case hT =>
         (first | rw [if_pos hz] | rw [if_neg hz])
         first
           | exact All2.append (All2.append (All2.mono (TIs.mono fun p hp => by repeat (first | exact hp | apply List.mem_cons_of_mem)) hT) (All2.cons ⟨_, _, _, _, _, _, _, _, rfl, by k_mem, rfl, rfl, rfl⟩ All2.nil)) (All2.cons ⟨_, _, _, _, _, _, _, _, rfl, by k_mem, rfl, rfl, rfl⟩ All2.nil)
           | exact All2.append (All2.mono (TIs.mono fun p hp => by repeat (first | exact hp | apply List.mem_cons_of_mem)) hT) (All2.cons ⟨_, _, _, _, _, _, _, _, rfl, by k_mem, rfl, rfl, rfl⟩ All2.nil)
       case hret =>
         intro S h5 tk5 acc5 c5 led5 F5 N5 hs5 hlt5 hM5 hl5
         have hdS : @LT.lt Nat _ dx S := hlt5 (dx, _) (by k_mem)
         have hin5 : ∀ p ∈ tl, p ∈ led5 := fun p hp => hs5 p (by repeat (first | exact hp | apply List.mem_cons_of_mem))
         have hltl : ∀ p ∈ tl, p.1 < S := fun p hp => hlt5 p (by repeat (first | exact hp | apply List.mem_cons_of_mem))
         have hdx5 := hs5 (dx, dictOf [smE w "isjunk" t1 .none, smE w "a" t2 aA, smE w "b" t3 bA, smE w "autojunk" t4 (.bool true), smE w "matching_blocks" t5 .none, smE w "opcodes" t6 ocV, smE w "fullbcount" t7 fbV, smE w "b2j" t8 dA, smE w "bjunk" t9 jA, smE w "bpopular" t10 poV] 10) (by k_mem)
         have N6 : News g L h5 ((S, listOf acc5.toArray c5) :: (dx, dictOf [smE w "isjunk" t1 .none, smE w "a" t2 aA, smE w "b" t3 bA, smE w "autojunk" t4 (.bool true), smE w "matching_blocks" t5 .none, smE w "opcodes" t6 ocV, smE w "fullbcount" t7 fbV, smE w "b2j" t8 dA, smE w "bjunk" t9 jA, smE w "bpopular" t10 poV] 10) :: offF S dx led5) := fun p hp => by
           rcases List.mem_cons.mp hp with rfl | hp
           · exact N5 _ (.head _)
           · rcases List.mem_cons.mp hp with rfl | hp
             · exact N5 _ (.tail _ hdx5)
             · exact N5 _ (.tail _ (List.mem_filter.mp hp).1)
         have hx6 : (x, instObj 242 dx) ∈ offF S dx led5 := offF_mem (hin5 _ hx) (Nat.ne_of_lt (hltl _ hx)) (h2 _ hx)
         have hodx : ∀ p ∈ offF S dx led5, p.1 ≠ dx := fun p hp => (of_decide_eq_true (List.mem_filter.mp hp).2).2
         have hSdx : @Ne Nat S dx := Nat.ne_of_gt hdS
         have hM6 := all2_off N5 (.head _) (.tail _ hdx5) (by simp) (by simp) (fun p hp => .tail _ hp) hM5
         clear N5
         dsimp only
         k_steps
         dsimp only
         refine hret S _ _ _ _ _ _ (by assumption) (by assumption) (fun p hp => .tail _ (offF_mem (hin5 p hp) (Nat.ne_of_lt (hltl p hp)) (h2 p hp))) hltl (All2.mono (M3Is.mono fun p hp => .tail _ hp) hM6) hl5)
end
end Mine
end
theorem Mine.rs22 : True := by (k_with_none; trivial)
section
open PySem PySem.W PyProof.Rows Mine PySem.Calls PySem.Spec
set_option maxRecDepth 100000
namespace Mine
/-- the sort's questions answered by a function -/
noncomputable def runO {α : Type} (f : Nat → Nat → Option Bool) : KasT α → Option α
  | .ret a => some a
  | .ask i j k => match f i j with
    | some b => runO f (k b)
    | none => none
noncomputable def askO {α : Type} (lt : α → α → Bool) (xs : List α) (i j : Nat) : Option Bool := match xs[i]?, xs[j]? with
  | some x, some y => some (lt x y)
  | _, _ => none
/-- list.sort as a plain function -/
noncomputable def srtO {α : Type} (lt : α → α → Bool) (xs : List α) : Option (List α) :=
  if xs.length < 2 then some xs else match runO (askO lt xs) (kas_sort xs.length) with
    | some p => p.toList.mapM fun i => xs[i]?
    | none => none
section
variable {prog : Program} {w : World} {A : Around} {κ : SortKind} {vs : List Value}
theorem runO_wp {α β : Type} {lt : β → β → Bool} {xs : List β} {Q : α → Shared → Prop} {s : Shared}
    (hcmp : ∀ i j x y (C : Bool → Shared → Prop) tk, xs[i]? = some x → xs[j]? = some y → (∀ tk', C (lt x y) { s with toks := tk' }) → kas_ask prog w A κ vs i j C { s with toks := tk }) :
    ∀ (t : KasT α) (a : α) (tk : Nat), runO (askO lt xs) t = some a → (∀ tk', Q a { s with toks := tk' }) → t.kasWp (kas_ask prog w A κ vs) Q { s with toks := tk }
  | .ret _, a, tk, h, hq => by cases h; exact hq tk
  | .ask i j k, a, tk, h, hq => by
    unfold runO at h
    split at h
    · rename_i b hb
      unfold askO at hb
      split at hb
      · rename_i x y hx hy
        cases hb
        exact hcmp i j x y _ tk hx hy fun tk' => runO_wp hcmp (k (lt x y)) a tk' h hq
      · cases hb
    · cases h
theorem mapM_get {α : Type} {R : Value → α → Prop} {xs : List α} (hA : All2 R vs xs) : ∀ (l : List Nat) (ys : List α), l.mapM (fun i => xs[i]?) = some ys → All2 R (l.map fun i => vs.getD i Value.none) ys
  | [], ys, h => by
    rw [List.mapM_nil] at h
    cases h
    exact All2.nil
  | i :: l, ys, h => by
    rw [List.mapM_cons] at h
    obtain ⟨x, hx, h⟩ := Option.bind_eq_some_iff.mp h
    obtain ⟨zs, hz, h⟩ := Option.bind_eq_some_iff.mp h
    cases h
    obtain ⟨v, hv, r⟩ := All2.get hA hx
    refine All2.cons ?_ (mapM_get hA l zs hz)
    dsimp only
    rw [List.getD_eq_getElem?_getD, hv]
    exact r
end
end Mine
end
section
open PySem PySem.W PyProof.Rows Mine PySem.Calls PySem.Spec
set_option maxRecDepth 100000
namespace Mine
section
variable {prog : Program} {w : World} {A : Around} {E : Value → Shared → Prop} {s : Shared} {h₀ : Heap} {L a : Addr} {m : Str → Option Value} {news : List (Addr × Obj)} {vs : List Value} {κ : SortKind}
/-- list.sort, its comparisons told by a function -/
theorem so_list_sort {α : Type} {lt : α → α → Bool} {R : Value → α → Prop} {xs ys : List α} {n : Nat} {P : PySem.Fin → Shared → Prop} (F : Fr h₀ L s.heap m) (N : News h₀ L s.heap news)
    (ho : s.heap.get? a = some (seqObj "list" vs.toArray n)) (haL : a ≠ L) (ha0 : h₀.get? a = none) (hna : ∀ p ∈ news, p.1 ≠ a) (hR : All2 R vs xs) (h64 : vs.length < 64) (hs : srtO lt xs = some ys)
    (hk : ∀ e1 h' (Q' : SortKind → Shared → Prop), 2 ≤ vs.length → Fr h₀ L h' m → News h₀ L h' ((a, seqObj "list" #[] e1) :: news) → Q' κ { s with heap := h' } → wpAny (model prog w) A (keyKind' vs.toArray) Q' (fun _ _ => False) { s with heap := h' })
    (hc : ∀ e1 h' tk x y v u (C : Bool → Shared → Prop), Fr h₀ L h' m → News h₀ L h' ((a, seqObj "list" #[] e1) :: news) → R v x → R u y → (∀ tk', C (lt x y) { s with heap := h', toks := tk' }) → wpAny (model prog w) A (keyLt' κ v u) C (fun _ _ => False) { s with heap := h', toks := tk })
    (h : ∀ h' c tk vs', Fr h₀ L h' m → News h₀ L h' ((a, listOf vs'.toArray c) :: news) → All2 R vs' ys → P (.done (.ret .none)) { s with heap := h', toks := tk }) :
    wpAny (model prog w) A (Builtin.«list.sort» ⟨[.ref a], []⟩) P E s := by
  have hlen := hR.length
  by_cases h2 : 2 ≤ vs.length
  · refine kat_list_sort F N ho haL ha0 hna h2 h64 fun e1 h' F' N' => hk e1 h' _ h2 F' N' ?_
    unfold srtO at hs
    rw [if_neg (by walk_at "om")] at hs
    split at hs
    · rename_i p hp
      rw [hlen]
      refine runO_wp (s := { s with heap := h' }) (lt := lt) (xs := xs) (fun i j x y C tk hx hy hC => ?_) (kas_sort xs.length) p s.toks hp fun tk' => ?_
      · obtain ⟨v, hv, rv⟩ := All2.get hR hx
        obtain ⟨u, hu, ru⟩ := All2.get hR hy
        unfold kas_ask
        rw [List.getD_eq_getElem?_getD, List.getD_eq_getElem?_getD, hv, hu]
        exact hc e1 h' tk x y v u C F' N' rv ru hC
      · exact KasFin.intro F' N' (UpdF.head (fun p hp => hna p hp)) fun h'' c F'' N'' => h h'' c tk' _ F'' N'' (mapM_get hR _ _ hs)
    · cases hs
  · have h2' : vs.length < 2 := by walk_at "om"
    unfold srtO at hs
    rw [if_pos (by walk_at "om")] at hs
    cases hs
    have ha : a < s.heap.objs.size := Heap.lt_size ho
    have s1 := Heap.SameBut.update s.heap a (Obj.mapSeq fun _ => (#[] : Array Value))
    obtain ⟨e1, ho1⟩ : ∃ e1, (s.heap.update a (Obj.mapSeq fun _ => (#[] : Array Value))).get? a = some (seqObj "list" #[] e1) := ⟨_, get?_update_seq ho fun _ => #[]⟩
    have F1 := kas_fr F s1 haL ha0
    have N1 := kas_news N s1 hna
    rw [list_sort_plain]
    refine wpAny_bind (listItems_at ho rfl ?_)
    refine wpAny_bind (listUpdate_at ho rfl ?_ (by rw [List.size_toArray, sizeLine_eq]; walk_at "om") (Nat.zero_le _))
    refine wpAny_bind (seqEpoch_at ho1 rfl ?_)
    refine wpAny_bind (wpAny_newTuple ?_ (by show vs.length ≤ _; rw [sizeLine_eq]; walk_at "om"))
    refine wpAny_bind (wpAny_newList ?_ (Nat.zero_le _))
    refine wpAny_holding ?_
    dsimp only
    have hn2 : vs.toArray.size < 2 := by rw [List.size_toArray]; exact h2'
    rw [if_pos hn2, if_pos hn2]
    refine wpAny_bind (wpAny_pure ?_)
    refine wpAny_bind (m := StateT.run _ _) (wpAny_pure ?_)
    dsimp only
    have e3 : (arrOf (SortSt.mk' general' (vs.toArray.zip vs.toArray) #[] 7 none)).map (·.2) = vs.toArray := by
      show (vs.toArray.zip vs.toArray).map (·.2) = vs.toArray
      apply Array.toList_inj.mp
      simp only [Array.toList_map, Array.toList_zip]
      exact List.map_snd_zip (Nat.le_refl _)
    rw [e3]
    generalize hH : ((s.heap.update a (Obj.mapSeq fun _ => (#[] : Array Value))).push (seqObj "tuple" vs.toArray 0)).push (seqObj "list" #[] 0) = H3
    have F3 : Fr h₀ L H3 m := hH ▸ (F1.push _).push _
    have N3 : News h₀ L H3 news := hH ▸ N1.grown fun b x e => Heap.get?_push_of_some _ (Heap.get?_push_of_some _ e)
    have ho3 : H3.get? a = some (seqObj "list" #[] e1) := hH ▸ Heap.get?_push_of_some _ (Heap.get?_push_of_some _ ho1)
    have s2 := Heap.SameBut.update H3 a (Obj.mapSeq fun _ => vs.toArray)
    obtain ⟨c2, hc2⟩ : ∃ c2, (H3.update a (Obj.mapSeq fun _ => vs.toArray)).get? a = some (seqObj "list" vs.toArray c2) := ⟨_, get?_update_seq ho3 fun _ => vs.toArray⟩
    show wpAny (model prog w) A _ P E { s with heap := H3 }
    refine wpAny_bind (seqEpoch_at ho3 rfl ?_)
    refine wpAny_bind (listUpdate_at ho3 rfl ?_ (Nat.zero_le _) (by rw [List.size_toArray, sizeLine_eq]; walk_at "om"))
    simp only [bne_self_eq_false, Bool.false_eq_true, if_false]
    refine wpAny_pure (h _ c2 _ vs (kas_fr F3 s2 haL ha0) (fun p hp => ?_) hR)
    rcases List.mem_cons.mp hp with rfl | hp
    · exact ⟨hc2, haL, ha0⟩
    · exact kas_news N3 s2 hna p hp
/-- sorted(a list of the ledger), its comparisons told by a function -/
theorem so_sorted {α : Type} {lt : α → α → Bool} {R : Value → α → Prop} {xs ys : List α} {l : Addr} {n : Nat} {Q : Value → Shared → Prop} (F : Fr h₀ L s.heap m) (N : News h₀ L s.heap news)
    (hl : (l, listOf vs.toArray n) ∈ news) (hR : All2 R vs xs) (h64 : vs.length < 64) (hs : srtO lt xs = some ys)
    (hk : ∀ h' (Q' : SortKind → Shared → Prop), 2 ≤ vs.length → Fr h₀ L h' m → News h₀ L h' news → Q' κ { s with heap := h' } → wpAny (model prog w) A.in1.in1 (keyKind' vs.toArray) Q' (fun _ _ => False) { s with heap := h' })
    (hc : ∀ h' tk x y v u (C : Bool → Shared → Prop), Fr h₀ L h' m → News h₀ L h' news → R v x → R u y → (∀ tk', C (lt x y) { s with heap := h', toks := tk' }) → wpAny (model prog w) A.in1.in1 (keyLt' κ v u) C (fun _ _ => False) { s with heap := h', toks := tk })
    (h : ∀ D h' c tk vs', Fr h₀ L h' m → News h₀ L h' ((D, listOf vs'.toArray c) :: news) → (∀ p ∈ news, p.1 < D) → All2 R vs' ys → Q (.ref D) { s with heap := h', toks := tk }) :
    wpAny (model prog w) A (call (.builtin "sorted") [.ref l]) Q E s := by
  have hI : s.heap.IsList l vs.toArray := ⟨_, (N _ hl).1, rfl, _, rfl⟩
  refine Calls.call_function_entry kind_sorted plain_sorted entry_sorted (args_sorted1 _) ?_
  unfold Builtin.«sorted»
  refine wpAny_bind (m := checkCount "sorted" 1 1 _) (wpAny_pure ?_)
  refine wpAny_bind (collect_list hI ?_ (by rw [sizeLine_eq]; walk_at "om"))
  refine wpAny_bind (wpAny_newList ?_ (by rw [sizeLine_eq]; walk_at "om"))
  dsimp only
  generalize hG : (s.heap.push (seqObj "list" #[] 0)).update s.heap.objs.size (Obj.mapSeq (· ++ vs.toArray)) = g
  have keep : ∀ b o, s.heap.get? b = some o → g.get? b = some o := fun b o q => by
    have hlt : b < s.heap.objs.size := Heap.lt_size q
    rw [← hG, Heap.get?_update_ne _ _ _ _ (Nat.ne_of_lt hlt), Heap.get?_push_ne _ _ _ (Nat.ne_of_lt hlt)]
    exact q
  have Fg : Fr h₀ L g m := F.kept keep
  have Ng : News h₀ L g news := N.grown keep
  have F2 : Fr h₀ L (g.push (seqObj "list" vs.toArray 0)) m := Fg.push _
  have N2 : News h₀ L (g.push (seqObj "list" vs.toArray 0)) ((g.objs.size, seqObj "list" vs.toArray 0) :: news) := Ng.push Fg _
  have hlt : ∀ p ∈ news, p.1 < g.objs.size := fun p hp => Heap.lt_size (Ng p hp).1
  have nD := N2 _ (.head _)
  show wpAny _ _ _ _ _ { s with heap := g.push (seqObj "list" vs.toArray 0) }
  refine wpAny_bind (wpAny_holding (wpAny_call_entry slot_list_sort ⟨_, nD.1, rfl⟩ entry_list_sort ?body (args_list_sort _)))
  refine so_list_sort (s := { s with heap := g.push (seqObj "list" vs.toArray 0) }) F2 (fun p hp => N2 p (.tail _ hp)) nD.1 nD.2.1 nD.2.2 (fun p hp => Nat.ne_of_lt (hlt p hp)) hR h64 hs
    (fun e1 h' Q' h2 F' N' hq => hk h' Q' h2 F' (fun p hp => N' p (.tail _ hp)) hq) (fun e1 h' tk x y v u C F' N' rv ru hC => hc h' tk x y v u C F' (fun p hp => N' p (.tail _ hp)) rv ru hC)
    fun h' c tk vs' F' N' hR' => ⟨_, rfl, wpAny_pure ⟨_, rfl, h _ h' c tk vs' F' N' hlt hR'⟩⟩
/-- a tuple of two ints, told by a pair -/
inductive T2 (g : Nat × Nat → Int × Int) (tl : List (Addr × Obj)) (v : Value) (x : Nat × Nat) : Prop
  | mk : ∀ a n t u, (v = .ref a) → ((a, ({ cls := .type "tuple", data := .seq ([.int (g x).1 t, .int (g x).2 u] : List Value).toArray n } : Obj)) ∈ tl) → T2 g tl v x
theorem T2.mono {g : Nat × Nat → Int × Int} {tl tl' : List (Addr × Obj)} (h : ∀ p ∈ tl, p ∈ tl') (v : Value) (x : Nat × Nat) (q : T2 g tl v x) : T2 g tl' v x := by
  obtain ⟨a, n, t, u, e, hm⟩ := q
  exact ⟨a, n, t, u, e, h _ hm⟩
theorem t2_tups {g : Nat × Nat → Int × Int} {h : Heap} (N : News h₀ L h news) : ∀ {vs : List Value} {xs : List (Nat × Nat)}, All2 (T2 g news) vs xs → ∃ fs, KatTups h vs fs ∧ fs.length = vs.length ∧ ∀ v ∈ fs, ∃ i t, v = .int i t
  | [], [], _ => ⟨[], KatTups.nil, rfl, fun _ h => nomatch h⟩
  | _ :: _, _ :: _, ⟨⟨a, n, t, u, e, hm⟩, hr⟩ => by
    obtain ⟨fs, h1, h2, h3⟩ := t2_tups N hr
    subst e
    refine ⟨.int _ t :: fs, KatTups.cons (N _ hm).1 rfl rfl rfl h1, congrArg (· + 1) h2, fun v hv => ?_⟩
    rcases List.mem_cons.mp hv with rfl | hv
    · exact ⟨_, _, rfl⟩
    · exact h3 v hv
  | [], _ :: _, x => x.elim
  | _ :: _, [], x => x.elim
theorem so_of {C : Bool → Shared → Prop} {b b' : Bool} {s : Shared} (h : C b s) (e : b = b') : C b' s := e ▸ h
theorem so_sorted2 {g : Nat × Nat → Int × Int} {lt : Nat × Nat → Nat × Nat → Bool} {xs ys : List (Nat × Nat)} {l : Addr} {n : Nat} {Q : Value → Shared → Prop} (F : Fr h₀ L s.heap m) (N : News h₀ L s.heap news)
    (hl : (l, listOf vs.toArray n) ∈ news) (hR : All2 (T2 g news) vs xs) (h64 : vs.length < 64) (hs : srtO lt xs = some ys)
    (hg : ∀ x y, lt x y = if (g x).1 = (g y).1 then decide ((g x).2 < (g y).2) else decide ((g x).1 < (g y).1))
    (h : ∀ D h' c tk vs', Fr h₀ L h' m → News h₀ L h' ((D, listOf vs'.toArray c) :: news) → (∀ p ∈ news, p.1 < D) → All2 (T2 g news) vs' ys → Q (.ref D) { s with heap := h', toks := tk }) :
    wpAny (model prog w) A (call (.builtin "sorted") [.ref l]) Q E s := by
  refine so_sorted (κ := tuples' (Value.type "int" != Value.type "tuple")) F N hl hR h64 hs (fun h' Q' h2 F' N' hq => ?_) (fun h' tk x y v u C F' N' rv ru hC => ?_) h
  · obtain ⟨fs, h1, h3, h4⟩ := t2_tups N' hR
    exact kat_kind h1 (by walk_at "om") (fun v hv => by obtain ⟨i, t, rfl⟩ := h4 v hv; exact Looks.of_pure rfl) rfl hq
  · obtain ⟨a1, n1, t1, u1, rfl, hm1⟩ := rv
    obtain ⟨a2, n2, t2, u2, rfl, hm2⟩ := ru
    refine kat_lt (N' _ hm1).1 rfl (N' _ hm2).1 rfl ?_
    refine kat_cons (wpAny_eqBool_int ?_)
    refine kat_go (fun e1 => kat_yes (kat_cons (wpAny_eqBool_int (kat_go (fun e2 => kat_yes (kat_nil (so_of (hC tk) ?_))) (fun e2 => kat_no ?_))))) (fun e1 => kat_no ?_)
    · rw [hg, if_pos (by simpa using e1)]
      simp at e2
      simp [e2]
    · refine kat_one _ _ ?_
      refine wpAny_lt_int ?_
      show C _ _
      refine so_of (hC tk) ?_
      rw [hg, if_pos (by simpa using e1)]
    · refine oneLt_int (so_of (hC tk) ?_)
      rw [hg, if_neg (by simpa using e1)]
end
end Mine
end
section
open PySem PySem.W PyProof.Rows Mine PySem.Calls PySem.Spec
set_option maxRecDepth 100000
namespace Mine
noncomputable abbrev Pt : Type := Nat × Nat
noncomputable def ltP (x y : Pt) : Bool := if x.1 = y.1 then decide (x.2 < y.2) else decide (x.1 < y.1)
noncomputable def ltN (x y : Pt) : Bool := if x.2 = y.2 then decide (x.1 < y.1) else decide (y.2 < x.2)
noncomputable def hitM (bl bh : Nat) : Option Nat → Option Nat
  | some j => if bl ≤ j ∧ j < bh then some j else none
  | none => none
noncomputable def fstM (ps : List (Option Nat)) (al bl bh : Nat) : Nat → Option (Nat × Nat)
  | 0 => none
  | k + 1 => match fstM ps al bl bh k with
    | some r => some r
    | none => match ps[al + k]? with
      | some o => (hitM bl bh o).map fun j => (al + k, j)
      | none => none
noncomputable def gqM (ps : List (Option Nat)) : Nat → List Rg → List (Nat × Nat) → Option (List (Nat × Nat))
  | 0, _, _ => none
  | _ + 1, [], bs => some bs
  | f + 1, (al, ah, bl, bh) :: q, bs => match fstM ps al bl bh (ah - al) with
    | none => gqM ps f q bs
    | some (i, j) => gqM ps f ((if i + 1 < ah ∧ j + 1 < bh then [(i + 1, ah, j + 1, bh)] else []) ++ ((if al < i ∧ bl < j then [(al, i, bl, j)] else []) ++ q)) (bs ++ [(i, j)])
noncomputable def idxM (p : Pt) (l : List Pt) : Option Nat := l.findIdx? fun x => x.1 == p.1 && x.2 == p.2
noncomputable def inM (p : Pt) (l : List Pt) : Bool := l.any fun x => x.1 == p.1 && x.2 == p.2
noncomputable def bump (x : Nat) (r : List Nat) : Option Nat := (r.filter fun y => decide (x < y)).min?
noncomputable def insT (x : Nat) : List (List Nat) → List (List Nat)
  | [] => [[x]]
  | r :: t => match bump x r with
    | none => (r ++ [x]) :: t
    | some more => (r.map fun y => if y = more then x else y) :: insT more t
noncomputable def tableM (xs : List Nat) : List (List Nat) := xs.foldl (fun t x => insT x t) []
noncomputable def cornersM (lines : List (List Pt)) : List Pt := lines.flatMap fun l => (l.zip l.tail).map fun (p, q) => (q.1, p.2)
noncomputable def ptsM (cs : List Nat) : List Pt := (List.range 5).zip cs
noncomputable def putM (p n : Nat) (cs : List Nat) : List Nat := cs.take p ++ n :: cs.drop p
end Mine
end
section
open PySem PySem.W PyProof.Rows Mine PySem.Calls PySem.Spec
set_option maxRecDepth 100000
namespace Mine
section
variable {prog : Program} {w : World} {A : Around} {E : Value → Shared → Prop} {s : Shared} {h₀ : Heap} {L a : Addr} {m : Str → Option Value} {news : List (Addr × Obj)} {vs : List Value}
theorem lk_lt {h : Heap} (X : (Mine.K w.params).In h) : Looks (model prog w) h (typeLookup (.ref 135) (cmpInfo .Lt).2.1) (some (.builtin "tuple.__lt__")) := Looks.of_peek X (by kernel_rfl)
theorem mt_lt {x y : Addr} {i j i' j' : Int} {t u t' u' : Tok} {z z' : Tok × Addr} {C : Bool → Shared → Prop} (X : (Mine.K w.params).In s.heap) (hx : s.heap.get? x = some (mtObj i j 1 t u z)) (hy : s.heap.get? y = some (mtObj i' j' 1 t' u' z'))
    (h : C (if i = i' then decide (j < j') else decide (i < i')) s) :
    wpAny (model prog w) A (Builtin.«tuple.__lt__» ⟨[.ref x, .ref y], []⟩) (fun fin s' => ∃ v, fin = .done (.ret v) ∧ ∃ b, v = .bool b ∧ C b s') E s := by
  have t1 : Looks (model prog w) s.heap (typeOf (.ref y)) (.ref 135) := (Looks.ld hy).andThen .now
  have t2 : Looks (model prog w) s.heap (isInstance (.ref y) (.type "tuple")) true := t1.andThen (lk_subt X)
  unfold Builtin.«tuple.__lt__»
  with_unfolding_all refine wpAny_bind (wpAny_of_eq (a := (.ref x, [.ref y])) (by first | rfl | kernel_rfl) ?_)
  dsimp only
  refine wpAny_bind (t2.here ?_)
  simp only [Bool.not_true, Bool.false_eq_true, if_false]
  refine wpAny_bind ?_
  unfold Builtin.Tuple.tupleItemsOf
  refine wpAny_bind (wpAny_seqItems hx rfl (wpAny_pure ?_))
  dsimp only
  refine wpAny_bind ?_
  refine wpAny_bind (wpAny_seqItems hy rfl (wpAny_pure ?_))
  dsimp only
  simp only [List.zip_cons_cons, List.zip_nil_right, List.forIn_cons, List.forIn_nil]
  refine wpAny_bind (wpAny_bind (wpAny_bind (wpAny_eqBool_int ?_)))
  by_cases hi : i = i'
  · rw [show (i == i') = true by simpa using hi]
    simp only [Bool.not_true, Bool.false_eq_true, if_false]
    refine wpAny_pure ?_
    dsimp only
    refine wpAny_bind (wpAny_bind (wpAny_eqBool_int ?_))
    rw [if_pos hi] at h
    by_cases hj : j = j'
    · rw [show (j == j') = true by simpa using hj]
      simp only [Bool.not_true, Bool.false_eq_true, if_false]
      refine wpAny_pure ?_
      dsimp only
      refine wpAny_bind (wpAny_bind (wpAny_eqBool_int ?_))
      simp only [beq_self_eq_true, Bool.not_true, Bool.false_eq_true, if_false]
      refine wpAny_pure ?_
      dsimp only
      refine wpAny_pure ?_
      dsimp only
      refine wpAny_pure ⟨_, rfl, _, rfl, ?_⟩
      have e : decide (j < j') = false := by simp [hj]
      rw [e] at h
      exact h
    · rw [show (j == j') = false by simpa using hj]
      simp only [Bool.not_false, if_true]
      refine wpAny_bind (wpAny_rule (wpAny_bind (wpAny_lt_int ?_)))
      refine wpAny_bind (wpAny_pure (wpAny_pure ?_))
      dsimp only
      refine wpAny_pure ?_
      dsimp only
      exact wpAny_pure ⟨_, rfl, _, rfl, h⟩
  · rw [show (i == i') = false by simpa using hi]
    simp only [Bool.not_false, if_true]
    rw [if_neg hi] at h
    refine wpAny_bind (wpAny_rule (wpAny_bind (wpAny_lt_int ?_)))
    refine wpAny_bind (wpAny_pure (wpAny_pure ?_))
    dsimp only
    refine wpAny_pure ?_
    dsimp only
    exact wpAny_pure ⟨_, rfl, _, rfl, h⟩
/-- the comparison that list.sort asks of two Matches -/
theorem mt_key {x y : Addr} {i j i' j' : Int} {t u t' u' : Tok} {z z' : Tok × Addr} {C : Bool → Shared → Prop} (hu : A.units < cLine) (X : (Mine.K w.params).In s.heap) (hx : s.heap.get? x = some (mtObj i j 1 t u z)) (hy : s.heap.get? y = some (mtObj i' j' 1 t' u' z'))
    (h : C (if i = i' then decide (j < j') else decide (i < i')) s) : wpAny (model prog w) A (keyLt' oneType' (.ref x) (.ref y)) C (fun _ _ => False) s := by
  have t1 : Looks (model prog w) s.heap (typeOf (.ref x)) (.ref 135) := (Looks.ld hx).andThen .now
  have t2 : Looks (model prog w) s.heap (isInstance (.ref x) (.type "tuple")) true := t1.andThen (lk_subt X)
  have i1 := lk_lt (prog := prog) (w := w) X
  rw [keyLt'_oneType, oneLt'_eq]
  simp only [if_true]
  refine wpAny_bind (wpAny_cRoomFor hu ?_)
  refine wpAny_bind ?_
  show wpAny _ _ (callSpecialIfBound? (.ref x) (cmpInfo .Lt).2.1 [.ref y]) _ _ _
  unfold callSpecialIfBound?
  refine wpAny_holding (wpAny_bind (m_bindIf PySem.F.slot_tuple_lt t1 i1 ?_))
  dsimp only
  refine wpAny_bind (m_call PySem.F.slot_tuple_lt (by decide +kernel) ⟨"__lt__", by decide +kernel⟩ t2 PySem.F.entry_tuple_lt ?_ (PySem.F.args_tuple_lt_2 _ _))
  refine wpAny_mono (mt_lt X hx hy h) (fun fin s' hf => ?_) fun _ _ e => e
  obtain ⟨v, rfl, b, rfl, hb⟩ := hf
  exact ⟨_, rfl, wpAny_pure (wpAny_truthy_bool hb)⟩
theorem so_sortM {xs ys : List (Nat × Nat)} {its : Array Value} {n : Nat} {tl : List (Addr × Obj)} {Q : Value → Shared → Prop} (hu : A.in1.units < cLine) (F : Fr h₀ L s.heap m) (X₀ : (Mine.K w.params).In h₀) (N : News h₀ L s.heap ((a, listOf its n) :: tl)) (he : its = vs.toArray) (hna : ∀ p ∈ tl, p.1 ≠ a)
    (hR : All2 (MIs tl) vs xs) (h64 : vs.length < 64) (hs : srtO ltP xs = some ys)
    (h : ∀ h' c tk vs', Fr h₀ L h' m → News h₀ L h' ((a, listOf vs'.toArray c) :: tl) → All2 (MIs tl) vs' ys → Q .none { s with heap := h', toks := tk }) :
    wpAny (model prog w) A (call (.builtin "list.sort") [.ref a]) Q E s := by
  subst he
  have na := N _ (.head _)
  refine wpAny_call_entry slot_list_sort ⟨_, na.1, rfl⟩ entry_list_sort ?_ (args_list_sort _)
  refine so_list_sort (κ := oneType') F (fun p hp => N p (.tail _ hp)) na.1 na.2.1 na.2.2 hna hR h64 hs (fun e1 h' Q' h2 F' N' hq => ?_) (fun e1 h' tk x y v u C F' N' rv ru hC => ?_) fun h' c tk vs' F' N' hR' => ⟨_, rfl, h h' c tk vs' F' N' hR'⟩
  · refine kas_kind (T := .ref 135) h2 (fun v hv => ?_) (by decide) (by decide) hq
    obtain ⟨k, hk⟩ := List.getElem?_of_mem hv
    have hlen := hR.length
    have hk' := (List.getElem?_eq_some_iff.mp hk).1
    obtain ⟨v', hv', t, u, z, y, e, hm⟩ := All2.get hR (List.getElem?_eq_getElem (l := xs) (i := k) (by walk_at "om"))
    rw [hk] at hv'
    cases hv'
    subst e
    exact (Looks.ld (N' _ (.tail _ hm)).1).andThen .now
  · obtain ⟨a1, t1, u1, z1, rfl, hm1⟩ := rv
    obtain ⟨a2, t2, u2, z2, rfl, hm2⟩ := ru
    refine mt_key hu (X₀.keeps F'.keep) (N' _ (.tail _ hm1)).1 (N' _ (.tail _ hm2)).1 (so_of (hC tk) ?_)
    unfold ltP
    by_cases e : x.1 = y.1
    · rw [if_pos e, if_pos (by walk_at "om")]
      by_cases e2 : x.2 < y.2 <;> simp [e2]
    · rw [if_neg e, if_neg (by walk_at "om")]
      by_cases e2 : x.1 < y.1 <;> simp [e2]
end
end Mine
end
section
open PySem PySem.W PyProof.Rows Mine PySem.Calls PySem.Spec PySem.Challenge
set_option maxRecDepth 100000
namespace Mine
noncomputable def gmbRest : List Stmt := by
  refine (fun (l : List Stmt) (_ : List.drop 6 gmbB = l) => l) ?x ?h
  case h => (conv => lhs; whnf)
theorem tis_off {g h : Heap} {L S dx : Addr} {all led : List (Addr × Obj)} {oS oD : Obj} {vs : List Value} {ts : List Tri} (N : News g L h all) (hS : (S, oS) ∈ all) (hD : (dx, oD) ∈ all) (cS : oS.cls ≠ .type "tuple") (cD : oD.cls ≠ .type "tuple") (hs : ∀ p ∈ led, p ∈ all) (hM : All2 (TIs led) vs ts) : All2 (TIs (offF S dx led)) vs ts :=
  All2.mono (fun v x q => by
    obtain ⟨a, n, y1, y2, y3, t, u, z, e, hm, r⟩ := q
    refine ⟨a, n, y1, y2, y3, t, u, z, e, offF_mem hm (fun e => ?_) (fun e => ?_), r⟩
    · have e' : a = S := e
      subst e'
      have := Option.some.inj ((N _ (hs _ hm)).1.symm.trans (N _ hS).1)
      exact cS (congrArg Obj.cls this).symm
    · have e' : a = dx := e
      subst e'
      have := Option.some.inj ((N _ (hs _ hm)).1.symm.trans (N _ hD).1)
      exact cD (congrArg Obj.cls this).symm) hM
end Mine
end
local macro_rules | `(tactic| walk_at "m2") => `(tactic| (k_here; (rename Fr _ _ _ _ => lF'); (with_unfolding_all refine' For_turns lF' ?_; k_whole)))
section
open PySem PySem.W PyProof.Rows Mine PySem.Calls PySem.Spec PySem.Challenge
set_option maxRecDepth 100000
namespace Mine
section
set_option maxHeartbeats 16000000 in
theorem gmb_rest : ∀ {w : World} {mean : ExcName → Option Value} {mg mb : Str → Option Value} (dp un : Nat) (gd : Option (List Code)) (outer : List Env) (A₀ : Around) (base g : Heap) (L : Addr) (m₁ : Str → Option Value) (tl : List (Addr × Obj)) (s : Shared)
   (x dx mA nm : Addr) (t1 t2 t3 t4 t5 t6 t7 t8 t9 t10 : Nat) (aA bA ocV fbV dA jA poV : Value) (ula ulb : Tok) (la lb : Nat) (vm : List Value) (bs bs' : List (Nat × Nat)) (rs : Tri × List Tri)
    (Q : Flow → Shared → Prop) (E : Value → Shared → Prop)
    (B : Below A₀ base outer g) (X : (K w.params).In g) (T : Top Mine.q (looseW Mine.q loose) mean mg mb g)
    (F : Fr g L s.heap (kstB m₁ [(PySem.Str.ofString "self", .ref x), (PySem.Str.ofString "la", .int (la : Int) ula), (PySem.Str.ofString "lb", .int (lb : Int) ulb), (PySem.Str.ofString "matching_blocks", .ref mA)]))
    (N : News g L s.heap ((mA, listOf vm.toArray nm) :: tl))
    (hdx : (dx, dictOf [smE w "isjunk" t1 .none, smE w "a" t2 aA, smE w "b" t3 bA, smE w "autojunk" t4 (.bool true), smE w "matching_blocks" t5 .none, smE w "opcodes" t6 ocV, smE w "fullbcount" t7 fbV, smE w "b2j" t8 dA, smE w "bjunk" t9 jA, smE w "bpopular" t10 poV] 10) ∈ tl)
    (hx : (x, instObj 242 dx) ∈ tl) (hxd : x ≠ dx) (h1 : ∀ p ∈ tl, p.1 ≠ mA) (hM : All2 (MIs tl) vm bs) (hsr : srtO ltP bs = some bs') (hrs : naM bs' (0, 0, 0) [] = rs) (hvm : vm.length < 60) (hl' : bs'.length = bs.length)
    (hdp : dp + 20 < recursionLimit) (hu : un + 160 < cLine) (hk : gmbS.kind = .function)
    (hret : ∀ S tl' h' tk' m' vs' n', Fr g L h' m' → News g L h' ((S, listOf vs'.toArray n') :: tl') → (∀ p ∈ tl, p.1 ≠ dx → p ∈ tl') → (∀ p ∈ tl, p.1 ≠ dx → p.1 < S) → All2 (M3Is tl') vs' ((if rs.1.2.2 = 0 then rs.2 else rs.2 ++ [rs.1]) ++ [(la, lb, 0)]) → vs'.length < 950 → Q (.ret (.ref S)) { s with heap := h', toks := tk' })
    (hE : PassesOwn (model rw_wn0126_01.row.prog w) (ktrTop dp un gd gmbN gmbS L 203 (.ref 202) [] outer) (envOf gmbN gmbS L 203 (.ref 202)) E),
   wpAny (model rw_wn0126_01.row.prog w) (ktrTop dp un gd gmbN gmbS L 203 (.ref 202) [] outer) (execs gmbRest (envOf gmbN gmbS L 203 (.ref 202))) Q E s := by
  k_with_none
  k_with "all" => first | assumption | exact allLt_ne (by first | assumption | exact And.right (by assumption) | exact And.right (And.right (by assumption)) | exact And.right (And.right (And.right (by assumption))) | exact And.right (And.right (And.right (And.right (by assumption)))) | exact And.right (And.right (And.right (And.right (And.right (by assumption))))) | exact And.right (And.right (And.right (And.right (And.right (And.right (by assumption)))))) | exact And.right (And.right (And.right (And.right (And.right (And.right (And.right (by assumption))))))) | exact And.right (And.right (And.right (And.right (And.right (And.right (And.right (And.right (by assumption)))))))) )
  k_with "call builtin:list.sort" => (k_here; refine Stop.mk ?_)
  k_with "pyIter ref" => refine Stop.mk ?_
  k_with "exec For Tuple Name cons nil" => walk_at "m2"
  k_fill
  intro w mean mg mb dp un gd outer A₀ base g L m₁ tl s x dx mA nm t1 t2 t3 t4 t5 t6 t7 t8 t9 t10 aA bA ocV fbV dA jA poV ula ulb la lb vm bs bs' rs Q E B X T F N hdx hx hxd h1 hM hsr hrs hvm hl' hdp hu hk hret hE
  dsimp (instances := true) only [kstB] at F
  delta gmbRest
  dsimp only
  k_steps
  refine Stop.on ?_
  refine' so_sortM ?hu ?F ?X ?N ?he h1 hM ?h64 hsr ?_
  case hu => ktr_units
  case F => k_asm
  case X => k_asm
  case N => k_asm
  case he => exact rfl
  case h64 => walk_at "om"
  intro h2 c2 tk2 vs2 F2 N2 hM2
  k_steps
  refine Stop.on ?_
  have hlen2 := All2.length hM2
  have hlen1 := All2.length hM
  rename_i nA hb l1 hc F3 N3
  have hnm : @Ne Nat nA mA := Nat.ne_of_gt l1.1
  have hnt : ∀ p ∈ tl, p.1 ≠ nA := fun p hp => Nat.ne_of_lt (allLt_lt l1.2 p hp)
  refine list_at (h₀ := g) (GnaP tl [(PySem.Str.ofString "self", .ref x), (PySem.Str.ofString "la", .int (la : Int) ula), (PySem.Str.ofString "lb", .int (lb : Int) ulb), (PySem.Str.ofString "matching_blocks", .ref mA), (PySem.Str.ofString "non_adjacent", .ref nA)] nA rs) rfl F3 N3 (.tail _ (.head _)) ?h0 ?turn ?done
  case h0 =>
    refine' ⟨?k1, 0, 0, 0, _, _, _, [], bs', [], 0, _, ?k2, rfl, ?k3, fun p hp => .tail _ hp, All2.mono (MIs.mono fun p hp => .tail _ hp) hM2, All2.nil, hrs, ?k4⟩
    case k1 => (repeat (first | exact cst_nil | refine cst_cons (by with_unfolding_all rfl) ?_ | exact List.forall_mem_nil _ | refine List.forall_mem_cons.mpr ⟨by with_unfolding_all rfl, ?_⟩))
    case k2 => (repeat (first | exact cst_nil | refine cst_cons (by with_unfolding_all rfl) ?_ | exact List.forall_mem_nil _ | refine List.forall_mem_cons.mpr ⟨by with_unfolding_all rfl, ?_⟩))
    case k3 =>
      intro p hp
      rcases List.mem_cons.mp hp with rfl | hp
      · exact Ne.symm hnm
      · exact hnt p hp
    case k4 => rw [List.length_nil]; walk_at "om"
  case turn =>
    intro I v r m tl' it h4 tk4 hI hP hlm hoff F4 N4
    exact gna_turn dp un gd outer A₀ base g L m tl' tl s h4 tk4 I nA mA x it ula ulb la lb v r vs2 c2 rs _ E B X T F4 N4 hoff hlm hnm hP hE
  case done =>
    intro m tl' h4 tk4 hP F4 N4
    obtain ⟨hcst, i1, j1, k1, u1, u2, u3, acc, bs3, vn, nn, tl3, hv, rfl, hn1, hsub, hM3, hT3, hres, hlen⟩ := hP
    match bs3, hM3 with
    | [], _ =>
      have hres : rs = ((i1, j1, k1), acc) := hres.symm
      subst hres
      have hdx3 := hsub _ hdx
      have hx3 := hsub _ hx
      have F5 := fr_ov [(PySem.Str.ofString "self", .ref x), (PySem.Str.ofString "la", .int (la : Int) ula), (PySem.Str.ofString "lb", .int (lb : Int) ulb), (PySem.Str.ofString "non_adjacent", .ref nA), (PySem.Str.ofString "i1", .int (i1 : Int) u1), (PySem.Str.ofString "j1", .int (j1 : Int) u2), (PySem.Str.ofString "k1", .int (k1 : Int) u3)] (List.forall_mem_cons.mpr ⟨hcst _ (.head _), List.forall_mem_cons.mpr ⟨hcst _ (.tail _ (.head _)), List.forall_mem_cons.mpr ⟨hcst _ (.tail _ (.tail _ (.head _))), List.forall_mem_cons.mpr ⟨hcst _ (.tail _ (.tail _ (.tail _ (.tail _ (.head _))))), List.forall_mem_cons.mpr ⟨hv _ (.head _), List.forall_mem_cons.mpr ⟨hv _ (.tail _ (.head _)), List.forall_mem_cons.mpr ⟨hv _ (.tail _ (.tail _ (.head _))), List.forall_mem_nil _⟩⟩⟩⟩⟩⟩⟩) F4
      have N5 : News g L h4 ((nA, listOf vn.toArray nn) :: (dx, dictOf [smE w "isjunk" t1 .none, smE w "a" t2 aA, smE w "b" t3 bA, smE w "autojunk" t4 (.bool true), smE w "matching_blocks" t5 .none, smE w "opcodes" t6 ocV, smE w "fullbcount" t7 fbV, smE w "b2j" t8 dA, smE w "bjunk" t9 jA, smE w "bpopular" t10 poV] 10) :: offF nA dx tl3) := fun p hp => by
        rcases List.mem_cons.mp hp with rfl | hp
        · exact N4 _ (.head _)
        · rcases List.mem_cons.mp hp with rfl | hp
          · exact N4 _ (.tail _ hdx3)
          · exact N4 _ (.tail _ (List.mem_filter.mp hp).1)
      have hin : ∀ p ∈ tl, p.1 ≠ dx → p ∈ offF nA dx tl3 := fun p hp hd => offF_mem (hsub p hp) (hnt p hp) hd
      refine gmb_tail dp un gd outer A₀ base g L m (offF nA dx tl3) { s with heap := h4, toks := tk4 } x dx nA nn t1 t2 t3 t4 t5 t6 t7 t8 t9 t10 aA bA ocV fbV dA jA poV ula ulb u1 u2 u3 la lb i1 j1 k1 vn acc Q E B X T F5 N5 (hin _ hx hxd) (Ne.symm (hnt _ hdx)) (fun p hp => (of_decide_eq_true (List.mem_filter.mp hp).2).1) (fun p hp => (of_decide_eq_true (List.mem_filter.mp hp).2).2)
        (tis_off (all := (nA, listOf vn.toArray nn) :: tl3) N4 (.head _) (.tail _ hdx3) (by simp) (by simp) (fun p hp => .tail _ hp) hT3) ?_ hdp hu hk ?_ hE
      · rw [List.length_nil] at hlen; walk_at "om"
      · intro S tl' h' tk' m' vs' n' F6 N6 h6 h7 h8 h9
        exact hret S tl' h' tk' m' vs' n' F6 N6 (fun p hp hd => h6 p (hin p hp hd)) (fun p hp hd => h7 p (hin p hp hd)) h8 h9
end
end Mine
end
theorem Mine.rs27 : True := by (k_with_none; trivial)
section
open PySem PySem.W PyProof.Rows Mine PySem.Calls PySem.Spec PySem.Challenge
set_option maxRecDepth 100000
namespace Mine
theorem lf_len {prog : Program} {w : World} {A : Around} {E : Value → Shared → Prop} {s : Shared} {h₀ : Heap} {L : Addr} {news : List (Addr × Obj)} {l : Addr} {vs : List Value} {n k : Nat} {Q : Value → Shared → Prop} (N : News h₀ L s.heap news) (hm : (l, listOf vs.toArray n) ∈ news) (hk : vs.length = k) (hfit : k < 1000000)
    (h : Q (.int (k : Int) (s.toks + 1)) { s with toks := s.toks + 1 + 1 }) : wpAny (model prog w) A (call (.builtin "len") [.ref l]) Q E s :=
  PyProof.Rows.len_list ⟨_, (N _ hm).1, rfl, _, rfl⟩ (by rw [List.size_toArray]; walk_at "om") (by rw [List.size_toArray, hk]; exact h)
theorem lt_three {a b c d : Addr} {o1 o2 o3 : Obj} {tl : List (Addr × Obj)} (h : a < d ∧ b < d ∧ c < d ∧ AllLt d tl) : ∀ p ∈ (a, o1) :: (b, o2) :: (c, o3) :: tl, p.1 < d := fun p hp => by
  rcases List.mem_cons.mp hp with rfl | hp
  · exact h.1
  · rcases List.mem_cons.mp hp with rfl | hp
    · exact h.2.1
    · rcases List.mem_cons.mp hp with rfl | hp
      · exact h.2.2.1
      · exact allLt_lt h.2.2.2 p hp
theorem News.swap {g h : Heap} {L : Addr} {a b : Addr × Obj} {tl : List (Addr × Obj)} : News g L h (a :: b :: tl) = News g L h (b :: a :: tl) := by
  refine propext ⟨fun N p hp => N p ?_, fun N p hp => N p ?_⟩ <;> (rcases List.mem_cons.mp hp with rfl | hp; exact .tail _ (.head _); rcases List.mem_cons.mp hp with rfl | hp; exact .head _; exact .tail _ (.tail _ hp))
noncomputable def gmbWhile : Stmt := by
  refine (fun (l : Stmt) (_ : nth gmbB 5 = l) => l) ?x ?h
  case h => (conv => lhs; whnf)
theorem gmb_while {w : World} {mean : ExcName → Option Value} {mg mb : Str → Option Value} (dp un : Nat) (gd : Option (List Code)) (outer : List Env) (A₀ : Around) (base g : Heap) (L : Addr) (m₁ : Str → Option Value) (tl tlo : List (Addr × Obj)) (s : Shared)
   (x dx jA sn : Addr) (st : SetTable) (t1 t2 t3 t4 t5 t6 t7 t8 t9 t10 : Nat) (ocV fbV poV : Value)
   (aA bA dA qA mA D0 : Addr) (z : Nat) (y1 y2 y3 y4 : Tok) (pos : Str → Option Nat) (one oth : List Str) (va vb : List Value) (na nb ula ulb : Nat) (oB : Obj) (kvs : List (Str × Value)) (bs : List (Nat × Nat))
    (Q : Flow → Shared → Prop) (E : Value → Shared → Prop)
    (B : Below A₀ base outer g) (X : (K w.params).In g) (T : Top Mine.q (looseW Mine.q loose) mean mg mb g)
    (F : Fr g L s.heap m₁) (N : News g L s.heap ((qA, listOf ([.ref D0] : List Value).toArray 0) :: (mA, listOf ([] : List Value).toArray 0) :: tl))
    (hqm : @Ne Nat qA mA) (hq1 : ∀ p ∈ tl, p.1 ≠ qA) (hm1 : ∀ p ∈ tl, p.1 ≠ mA) (hD : (D0, tpObj [.int (0 : Nat) y1, .int (one.length : Int) y2, .int (0 : Nat) y3, .int (oth.length : Int) y4] z) ∈ tl)
    (hcst : Cst [(PySem.Str.ofString "self", .ref x), (PySem.Str.ofString "la", .int (one.length : Int) ula), (PySem.Str.ofString "lb", .int (oth.length : Int) ulb), (PySem.Str.ofString "queue", .ref qA), (PySem.Str.ofString "matching_blocks", .ref mA)] m₁)
    (hN₀ : ∀ p ∈ (dx, dictOf [smE w "isjunk" t1 .none, smE w "a" t2 (.ref aA), smE w "b" t3 (.ref bA), smE w "autojunk" t4 (.bool true), smE w "matching_blocks" t5 .none, smE w "opcodes" t6 ocV, smE w "fullbcount" t7 fbV, smE w "b2j" t8 (.ref dA), smE w "bjunk" t9 (.ref jA), smE w "bpopular" t10 poV] 10) :: tlo, p ∈ tl)
    (hx : (x, instObj 242 dx) ∈ tlo) (hj : (jA, setObj sn st) ∈ tlo) (H : FlmB w tlo aA bA dA pos one oth va vb na nb oB kvs)
    (hbs : gq pos one 40 [(0, one.length, 0, oth.length)] [] = some bs) (hdp : dp + 20 < recursionLimit) (hu : un + 160 < cLine)
    (hE : PassesOwn (model rw_wn0126_01.row.prog w) (ktrTop dp un gd gmbN gmbS L 203 (.ref 202) [] outer) (envOf gmbN gmbS L 203 (.ref 202)) E)
    (hdone : ∀ h' tk m₂ vm nm tl', (Cst [(PySem.Str.ofString "self", .ref x), (PySem.Str.ofString "la", .int (one.length : Int) ula), (PySem.Str.ofString "lb", .int (oth.length : Int) ulb), (PySem.Str.ofString "queue", .ref qA), (PySem.Str.ofString "matching_blocks", .ref mA)] m₂) → Fr g L h' m₂ → News g L h' ((mA, listOf vm.toArray nm) :: tl') → (∀ p ∈ (dx, dictOf [smE w "isjunk" t1 .none, smE w "a" t2 (.ref aA), smE w "b" t3 (.ref bA), smE w "autojunk" t4 (.bool true), smE w "matching_blocks" t5 .none, smE w "opcodes" t6 ocV, smE w "fullbcount" t7 fbV, smE w "b2j" t8 (.ref dA), smE w "bjunk" t9 (.ref jA), smE w "bpopular" t10 poV] 10) :: tlo, p ∈ tl') → (∀ p ∈ tl', p.1 ≠ mA) → All2 (MIs tl') vm bs → vm.length < 900 → Q .next { s with heap := h', toks := tk }) :
    wpAny (model rw_wn0126_01.row.prog w) (ktrTop dp un gd gmbN gmbS L 203 (.ref 202) [] outer) (exec gmbWhile (envOf gmbN gmbS L 203 (.ref 202))) Q E s := by
  unfold gmbWhile
  refine while_ind (GmbJ ((dx, dictOf [smE w "isjunk" t1 .none, smE w "a" t2 (.ref aA), smE w "b" t3 (.ref bA), smE w "autojunk" t4 (.bool true), smE w "matching_blocks" t5 .none, smE w "opcodes" t6 ocV, smE w "fullbcount" t7 fbV, smE w "b2j" t8 (.ref dA), smE w "bjunk" t9 (.ref jA), smE w "bpopular" t10 poV] 10) :: tlo) [(PySem.Str.ofString "self", .ref x), (PySem.Str.ofString "la", .int (one.length : Int) ula), (PySem.Str.ofString "lb", .int (oth.length : Int) ulb), (PySem.Str.ofString "queue", .ref qA), (PySem.Str.ofString "matching_blocks", .ref mA)] pos one oth qA mA bs) (n₀ := 40) F N ?hJ hE ?turn
  case hJ =>
    refine ⟨hcst, [(0, one.length, 0, oth.length)], [], [.ref D0], [], 0, 0, tl, rfl, hq1, hm1, hN₀, ?hQ, All2.nil, ?hrg, hbs, (by show 1 + 40 < 900; decide), (by show 0 + 40 < 900; decide)⟩
    case hQ => exact All2.cons ⟨D0, z, _, _, _, _, y1, y2, y3, y4, rfl, hD, rfl, rfl, rfl, rfl⟩ All2.nil
    case hrg =>
      intro p hp
      rcases List.mem_cons.mp hp with rfl | hp
      · dsimp only; walk_at "om"
      · cases hp
  case turn =>
    intro n m2 nw h2 tk2 F2 N2 hJ2
    obtain ⟨hcst2, q2, bs2, vr, vm, nq, nm, tl2, rfl, hq2, hm2, hsub, hQ, hM, hrg, hg, hvr, hvm⟩ := hJ2
    refine gmb_turn dp un gd outer A₀ base g L m2 tl2 ((dx, dictOf [smE w "isjunk" t1 .none, smE w "a" t2 (.ref aA), smE w "b" t3 (.ref bA), smE w "autojunk" t4 (.bool true), smE w "matching_blocks" t5 .none, smE w "opcodes" t6 ocV, smE w "fullbcount" t7 fbV, smE w "b2j" t8 (.ref dA), smE w "bjunk" t9 (.ref jA), smE w "bpopular" t10 poV] 10) :: tlo) { s with heap := h2, toks := tk2 } x dx jA 10 sn st t1 t2 t3 t4 t5 t6 t7 t8 t9 t10 .none ocV fbV poV aA bA dA qA mA pos one oth va vb vr vm na nb nq nm ula ulb oB kvs q2 bs2 bs n Q E B X T F2 N2 hqm hq2 hm2 hcst2 (.tail _ hx) (.head _) (.tail _ hj) (FlmB.mono H fun p hp => .tail _ hp) hsub hQ hM hrg hg hvr hvm hdp hu hE ?hdone
    case hdone =>
      intro h3 tk3 F3 N3 hM3
      exact hdone h3 tk3 m2 vm nm tl2 hcst2 F3 N3 hsub hm2 hM3 (by walk_at "om")
end Mine
end
section
open PySem PySem.W PyProof.Rows Mine PySem.Calls PySem.Spec PySem.Challenge
set_option maxRecDepth 100000
namespace Mine
section
set_option maxHeartbeats 16000000 in
theorem gmb_tells : ∀ {w : World} {mean : ExcName → Option Value} {mg mb : Str → Option Value}
   (dp un : Nat) (gd : Option (List Code)) (cn : Str) (cs : Scope) (a : Addr) (ccd : Value) (cl : List (Str × Addr)) (outer : List Env) (A₀ : Around) (base h₀ : Heap) (L : Addr) (m : Str → Option Value) (tl : List (Addr × Obj)) (s : Shared)
   (x dx jA sn : Addr) (st : SetTable) (t1 t2 t3 t4 t5 t6 t7 t8 t9 t10 : Nat) (ocV fbV poV : Value)
   (aA bA dA : Addr) (pos : Str → Option Nat) (one oth : List Str) (va vb : List Value) (na nb : Nat) (oB : Obj) (kvs : List (Str × Value)) (bs bs' : List (Nat × Nat)) (rs : Tri × List Tri)
    (Q E : Value → Shared → Prop)
    (B : Below A₀ base outer h₀) (F : Fr h₀ L s.heap m) (X : (K w.params).In h₀)
    (N : News h₀ L s.heap ((dx, dictOf [smE w "isjunk" t1 .none, smE w "a" t2 (.ref aA), smE w "b" t3 (.ref bA), smE w "autojunk" t4 (.bool true), smE w "matching_blocks" t5 .none, smE w "opcodes" t6 ocV, smE w "fullbcount" t7 fbV, smE w "b2j" t8 (.ref dA), smE w "bjunk" t9 (.ref jA), smE w "bpopular" t10 poV] 10) :: tl)) (hd : ∀ p ∈ tl, p.1 ≠ dx)
    (T : Top q (looseW q loose) mean mg mb h₀) (hk : cs.kind = .function)
    (hx : (x, instObj 242 dx) ∈ tl) (hj : (jA, setObj sn st) ∈ tl)
    (H : FlmB w tl aA bA dA pos one oth va vb na nb oB kvs) (hbs : gq pos one 40 [(0, one.length, 0, oth.length)] [] = some bs) (hsr : srtO ltP bs = some bs') (hrs : naM bs' (0, 0, 0) [] = rs) (hzl : bs.length < 60) (hzl' : bs'.length = bs.length)
    (hdp : dp + 30 < recursionLimit) (hu : un + 200 < cLine)
    (hret : ∀ S h' tk' tl' vs' n', Fr h₀ L h' m → News h₀ L h' ((S, listOf vs'.toArray n') :: tl') → (∀ p ∈ tl, p ∈ tl') → (∀ p ∈ tl, p.1 < S) → All2 (M3Is tl') vs' ((if rs.1.2.2 = 0 then rs.2 else rs.2 ++ [rs.1]) ++ [(one.length, oth.length, 0)]) → vs'.length < 950 → Q (.ref S) { s with heap := h', toks := tk' }),
    wpAny (model rw_wn0126_01.row.prog w) (ktrTop dp un gd cn cs L a ccd cl outer) (call (.ref 203) [.ref x]) Q E s := by
  k_with_none
  k_with "all" => first | assumption | exact allLt_ne (by first | assumption | exact And.right (by assumption) | exact And.right (And.right (by assumption)) | exact And.right (And.right (And.right (by assumption))) | exact And.right (And.right (And.right (And.right (by assumption)))) | exact And.right (And.right (And.right (And.right (And.right (by assumption))))) | exact And.right (And.right (And.right (And.right (And.right (And.right (by assumption)))))) | exact And.right (And.right (And.right (And.right (And.right (And.right (And.right (by assumption))))))) | exact And.right (And.right (And.right (And.right (And.right (And.right (And.right (And.right (by assumption)))))))) )
  k_with "unf" => walk_at "m0"
  k_with "exec While" => refine Stop.mk ?_
  k_with "call builtin:len" => (k_here; k_dflt (refine' lf_len (by k_asm) (by k_mem) (by exact StrsAre.length (by assumption)) (by walk_at "om") ?_; k_whole); (try dsimp only))
  k_fill
  intro w mean mg mb dp un gd cn cs a ccd cl outer A₀ base h₀ L m tl s x dx jA sn st t1 t2 t3 t4 t5 t6 t7 t8 t9 t10 ocV fbV poV aA bA dA pos one oth va vb na nb oB kvs bs bs' rs Q E B F X N hd T hk hx hj H hbs hsr hrs hzl hzl' hdp hu hret
  have ela := H.la
  have elb := H.lb
  have haA := H.haA
  have hsa := H.sa
  have hsb := H.sb
  have hbA := H.hbA

  refine wpAny_call ?_
  k_dflt ktr_unf
  k_steps
  refine Stop.on ?_
  rename_i g1 L1 hz9 FG B1 X1 T1 tkz D1 hz8 l3 hz7 hz6 hz5 tkz1 D0 hz4 l2 qA hz3 l1 hz2 tkz0 mA hz1 l0 hz F1 N1
  have hqm : @Ne Nat qA mA := Nat.ne_of_lt l0.1
  have hlm := fun o1 o2 o3 => lt_three (o1 := o1) (o2 := o2) (o3 := o3) l0.2
  have hlq := fun o1 o2 o3 => lt_three (o1 := o1) (o2 := o2) (o3 := o3) l1
  refine' gmb_while (dp + 1) (un + 3) gd (envX cn cs L a ccd cl :: outer) _ _ g1 L1 _ _ tl _ x dx jA sn st t1 t2 t3 t4 t5 t6 t7 t8 t9 t10 ocV fbV poV aA bA dA qA mA D0 0 _ _ _ _ pos one oth va vb na nb _ _ oB kvs bs _ _ B1 X1 T1 F1 (News.swap ▸ N1) hqm (fun p hp => Nat.ne_of_lt (hlq _ _ _ p hp)) (fun p hp => Nat.ne_of_lt (hlm _ _ _ p hp)) (.head _) ?cst (fun p hp => .tail _ (.tail _ hp)) hx hj H hbs (by walk_at "om") (by walk_at "om") ?hE ?hdone
  case cst => (repeat (first | exact cst_nil | refine cst_cons (by with_unfolding_all rfl) ?_ | exact List.forall_mem_nil _ | refine List.forall_mem_cons.mpr ⟨by with_unfolding_all rfl, ?_⟩))
  case hE => passes_own
  case hdone =>
    intro h2 tk2 m2 vm nm tl2 hcst2 F2 N2 hsub hm2 hM2 hvm
    dsimp only
    have hlM := All2.length hM2
    have F3 := fr_ov [(PySem.Str.ofString "self", .ref x), (PySem.Str.ofString "la", .int (one.length : Int) _), (PySem.Str.ofString "lb", .int (oth.length : Int) _), (PySem.Str.ofString "matching_blocks", .ref mA)] (List.forall_mem_cons.mpr ⟨hcst2 _ (.head _), List.forall_mem_cons.mpr ⟨hcst2 _ (.tail _ (.head _)), List.forall_mem_cons.mpr ⟨hcst2 _ (.tail _ (.tail _ (.head _))), List.forall_mem_cons.mpr ⟨hcst2 _ (.tail _ (.tail _ (.tail _ (.tail _ (.head _))))), List.forall_mem_nil _⟩⟩⟩⟩) F2
    refine gmb_rest (dp + 1) (un + 3) gd (envX cn cs L a ccd cl :: outer) _ _ g1 L1 m2 tl2 { s with heap := h2, toks := tk2 } x dx mA nm t1 t2 t3 t4 t5 t6 t7 t8 t9 t10 (.ref aA) (.ref bA) ocV fbV (.ref dA) (.ref jA) poV _ _ one.length oth.length vm bs bs' rs _ _ B1 X1 T1 F3 N2 (hsub _ (.head _)) (hsub _ (.tail _ hx)) (hd _ hx) hm2 hM2 hsr hrs (by walk_at "om") hzl' (by walk_at "om") (by walk_at "om") rfl ?hret ?hE
    case hE => passes_own
    case hret =>
      intro S tl' h' tk' m' vs' n' F4 N4 h5 h6 h7 h8
      have hin : ∀ p ∈ tl, p ∈ tl' := fun p hp => h5 p (hsub p (.tail _ hp)) (hd p hp)
      refine ⟨_, _, (S, listOf vs'.toArray n') :: tl', F4, N4, fun F₀ N₀ => hret S h' tk' tl' vs' n' F₀ N₀ hin (fun p hp => h6 p (hsub p (.tail _ hp)) (hd p hp)) h7 h8⟩
end
end Mine
end
theorem Mine.rs28 : True := by (k_with_none; trivial)
section
open PySem PySem.W PyProof.Rows Mine PySem.Calls PySem.Spec
set_option maxRecDepth 100000
namespace Mine
section
variable {prog : Program} {w : World} {A : Around} {E : Value → Shared → Prop} {s : Shared} {env : Env} {h₀ : Heap} {elts : List PySem.Expr} {kk : Nat} {pos : Pos} {body : List Stmt} {Q : Flow → Shared → Prop}
/-- a loop over enumerate(a list of the ledger) -/
theorem enum_ind {I : Addr} {lp : Addr × Obj} (P : Nat → List Value → (Str → Option Value) → List (Addr × Obj) → Prop)
    (turn : ∀ i v r m tl T t it1 it2 h tk, P i (v :: r) m tl → lp ∈ tl → (∀ p ∈ tl, p.1 ≠ I + 1 ∧ p.1 ≠ I) → IsTup h T #[.int (i : Int) t, v] → it1.cls = .type "enumerate" → it2.cls = .type "list_iterator" → Fr h₀ env.locals h m → News h₀ env.locals h ((I + 1, it1) :: (I, it2) :: tl) →
      wpAny (model prog w) A (assign (.Tuple elts kk pos) env (.ref T)) (fun _ s₂ => wpAny (model prog w) A (execs body env) (UnrPostW h₀ env.locals { s with heap := h, toks := tk } [(I + 1, it1), (I, it2)] (fun m' tl' => lp ∈ tl' ∧ P (i + 1) r m' tl') Q) E s₂) E { s with heap := h, toks := tk })
    (done : ∀ i m tl h tk, P i [] m tl → Fr h₀ env.locals h m → News h₀ env.locals h tl → Q .next { s with heap := h, toks := tk }) :
    ∀ r i m tl, P i r m tl → lp ∈ tl → (∀ p ∈ tl, p.1 ≠ I + 1 ∧ p.1 ≠ I) → ItemsRest prog w A E h₀ env (.Tuple elts kk pos) body Q s [(I + 1, "enumerate"), (I, "list_iterator")] [lp] (enumItems i r) m tl
  | [], i, m, tl, hP, _, _ => ItemsRest.zero fun h tk F N => done i m tl h tk hP F N
  | v :: r, i, m, tl, hP, hl, hoff => ItemsRest.pair fun T t h tk hT F => AllObj.cons fun it1 hc1 => AllObj.cons fun it2 hc2 => AllObj.nil fun N => by
    refine wpAny_mono (turn i v r m tl T t it1 it2 h tk hP hl hoff hT hc1 hc2 F N) (fun _ s₂ h₂ => wpAny_mono h₂ (fun f s₃ hf => ?_) fun _ _ z => z) fun _ _ z => z
    have fin : UnrEndW h₀ env.locals { s with heap := h, toks := tk } [(I + 1, it1), (I, it2)] (fun m' tl' => lp ∈ tl' ∧ P (i + 1) r m' tl') s₃ →
        UnrEndW h₀ env.locals { s with heap := h, toks := tk } [(I + 1, it1), (I, it2)] (fun m' n' => SubL [lp] n' ∧ ItemsRest prog w A E h₀ env (.Tuple elts kk pos) body Q s [(I + 1, "enumerate"), (I, "list_iterator")] [lp] (enumItems (i + 1) r) m' n') s₃ := by
      rintro ⟨h', tk', m', tl', e1, F', N', off', hl', hP'⟩
      exact ⟨h', tk', m', tl', e1, F', N', off', ⟨hl', trivial⟩, enum_ind P turn done r (i + 1) m' tl' hP' hl' fun p hp => ⟨off' p hp _ (.head _), off' p hp _ (.tail _ (.head _))⟩⟩
    cases f with
    | ret v => exact hf
    | brk => exact hf
    | next => exact fin hf
    | cont => exact fin hf
/-- the loop itself -/
theorem enum_at {ax : Addr} {vs : List Value} {n : Nat} {m₀ : Str → Option Value} {news : List (Addr × Obj)} (P : Nat → List Value → (Str → Option Value) → List (Addr × Obj) → Prop)
    (hh : A.handled = none) (F : Fr h₀ env.locals s.heap m₀) (N : News h₀ env.locals s.heap news) (hm : (ax, listOf vs.toArray n) ∈ news) (h0 : P 0 vs m₀ news)
    (turn : ∀ I i v r m tl T t it1 it2 h tk, (∀ p ∈ news, p.1 < I) → P i (v :: r) m tl → (ax, listOf vs.toArray n) ∈ tl → (∀ p ∈ tl, p.1 ≠ I + 1 ∧ p.1 ≠ I) → IsTup h T #[.int (i : Int) t, v] → Fr h₀ env.locals h m → News h₀ env.locals h ((I + 1, it1) :: (I, it2) :: tl) →
      wpAny (model prog w) A (assign (.Tuple elts kk pos) env (.ref T)) (fun _ s₂ => wpAny (model prog w) A (execs body env) (UnrPostW h₀ env.locals { s with heap := h, toks := tk } [(I + 1, it1), (I, it2)] (fun m' tl' => (ax, listOf vs.toArray n) ∈ tl' ∧ P (i + 1) r m' tl') Q) E s₂) E { s with heap := h, toks := tk })
    (done : ∀ i m tl h tk, P i [] m tl → Fr h₀ env.locals h m → News h₀ env.locals h tl → Q .next { s with heap := h, toks := tk }) :
    wpAny (model prog w) A (call (.type "enumerate") [.ref ax]) (fun xv s₁ => wpAny (model prog w) A (pyIter xv) (fun it s₂ => TurnsAt prog w A h₀ env (.Tuple elts kk pos) body Q E it s₂) E s₁) E s :=
  ktu_enum hh F N hm rfl rfl rfl fun I hI => enum_ind P (fun i v r m tl T t it1 it2 h tk a b c d _ _ e f => turn I i v r m tl T t it1 it2 h tk hI a b c d e f) done vs 0 m₀ news h0 hm fun p hp => ⟨Nat.ne_of_lt (Nat.lt_succ_of_lt (hI p hp)), Nat.ne_of_lt (hI p hp)⟩
end
end Mine
end
section
open PySem PySem.W PyProof.Rows Mine PySem.Calls PySem.Spec PySem.Challenge
set_option maxRecDepth 100000
namespace Mine
noncomputable def chBody : List Stmt := by
  refine (fun (l : List Stmt) (_ : forBody (nth chainB 2) = l) => l) ?x ?h
  case h => (conv => lhs; whnf)
noncomputable def chTgt : List PySem.Expr := by
  refine (fun (l : List PySem.Expr) (_ : (match forTgt (nth chainB 2) with | .Tuple l _ _ => l | _ => []) = l) => l) ?x ?h
  case h => (conv => lhs; whnf)
noncomputable def chPos : Pos := by
  refine (fun (l : Pos) (_ : (match forTgt (nth chainB 2) with | .Tuple _ _ p => p | _ => ⟨0, 0, 0, 0⟩) = l) => l) ?x ?h
  case h => (conv => lhs; whnf)
noncomputable abbrev chN : Str := PySem.Str.ofString "SequenceMatcher.__chain_b"
/-- the indices kept under the texts met so far -/
noncomputable def KvIs (tl : List (Addr × Obj)) (kvs : List (Str × Value)) (xs : List Str) : Prop := kvs.map (·.1) = xs ∧ ∀ (j : Nat) (kv : Str × Value), kvs[j]? = some kv → ∃ lj nj y tj, kv.2 = Value.ref lj ∧ (lj, listOf ([.int y tj] : List Value).toArray nj) ∈ tl ∧ y = (j : Int)
theorem KvIs.mono {tl tl' : List (Addr × Obj)} {kvs : List (Str × Value)} {xs : List Str} (h : ∀ p ∈ tl, p ∈ tl') (q : KvIs tl kvs xs) : KvIs tl' kvs xs :=
  ⟨q.1, fun j kv e => by
    obtain ⟨lj, nj, y, tj, a, b, c⟩ := q.2 j kv e
    exact ⟨lj, nj, y, tj, a, h _ b, c⟩⟩
inductive ChP (w : World) (N₀ : List (Addr × Obj)) (ps : List (Str × Value)) (dA : Addr) (oth : List Str) (i : Nat) (vs : List Value) (m : Str → Option Value) (nw : List (Addr × Obj)) : Prop
  | mk : (Cst ps m) → ∀ (kvs : List (Str × Value)) (oB : Obj) (tl : List (Addr × Obj)), (nw = (dA, oB) :: tl) → ((∀ p ∈ tl, p.1 ≠ dA)) → ((∀ p ∈ N₀, p ∈ tl)) → (oB.IsDictOf (strKind rw_wn0126_01.row.prog w) kvs) → (KvIs tl kvs (oth.take i)) → (StrsAre vs (oth.drop i)) → (i ≤ oth.length) → ChP w N₀ ps dA oth i vs m nw
noncomputable def off3 (d I J : Addr) (all : List (Addr × Obj)) : List (Addr × Obj) := all.filter fun p => decide (p.1 ≠ d ∧ p.1 ≠ I ∧ p.1 ≠ J)
theorem off3_mem {d I J : Addr} {all : List (Addr × Obj)} {p : Addr × Obj} (h : p ∈ all) (h1 : @Ne Nat p.1 d) (h2 : @Ne Nat p.1 I) (h3 : @Ne Nat p.1 J) : p ∈ off3 d I J all := List.mem_filter.mpr ⟨h, decide_eq_true ⟨h1, h2, h3⟩⟩
theorem ch_close {g : Heap} {L I J dA : Addr} {it1 it2 oB : Obj} {s₁ : Shared} {h' : Heap} {tk : Nat} {m' : Str → Option Value} {all tl : List (Addr × Obj)} {R : (Str → Option Value) → List (Addr × Obj) → Prop}
    (F : Fr g L h' m') (N : News g L h' all) (hI : (I, it1) ∈ all) (hJ : (J, it2) ∈ all) (hn : (dA, oB) ∈ all) (hs : ∀ p ∈ tl, p ∈ all) (h1 : ∀ p ∈ tl, p.1 ≠ dA) (h2 : ∀ p ∈ tl, p.1 ≠ I ∧ p.1 ≠ J) (hnI : @Ne Nat dA I) (hnJ : @Ne Nat dA J)
    (hr : (∀ p ∈ tl, p ∈ off3 dA I J all) → R m' ((dA, oB) :: off3 dA I J all)) : UnrEndW g L s₁ [(I, it1), (J, it2)] R { s₁ with heap := h', toks := tk } :=
  ⟨h', tk, m', _, rfl, F, fun p hp => by
    rcases List.mem_append.mp hp with hp | hp
    · rcases List.mem_cons.mp hp with rfl | hp
      · exact N _ hI
      · exact N _ (List.mem_singleton.mp hp ▸ hJ)
    · rcases List.mem_cons.mp hp with rfl | hp
      · exact N _ hn
      · exact N _ (List.mem_filter.mp hp).1, fun p hp q hq => by
    have z : p.1 ≠ I ∧ p.1 ≠ J := by
      rcases List.mem_cons.mp hp with rfl | hp
      · exact ⟨hnI, hnJ⟩
      · exact (of_decide_eq_true (List.mem_filter.mp hp).2).2
    rcases List.mem_cons.mp hq with rfl | hq
    · exact z.1
    · rw [List.mem_singleton.mp hq]; exact z.2, hr fun p hp => off3_mem (hs p hp) (h1 p hp) (h2 p hp).1 (h2 p hp).2⟩
end Mine
end
section
open PySem PySem.W PyProof.Rows Mine PySem.Calls PySem.Spec PySem.Challenge
set_option maxRecDepth 100000
namespace Mine
section
set_option maxHeartbeats 16000000 in
theorem ch_turn : ∀ {w : World} {mean : ExcName → Option Value} {mg mb : Str → Option Value} (dp un : Nat) (gd : Option (List Code)) (outer : List Env) (A₀ : Around) (base g : Heap) (L : Addr) (m₁ : Str → Option Value) (tl N₀ : List (Addr × Obj)) (s : Shared) (h : Heap) (tk : Nat)
   (I dA bA x tp i : Addr) (t : Tok) (it1 it2 : Obj) (v : Value) (r vb : List Value) (nb : Nat) (oth : List Str)
    (Q : Flow → Shared → Prop) (E : Value → Shared → Prop)
    (B : Below A₀ base outer g) (X : (K w.params).In g) (T : Top Mine.q (looseW Mine.q loose) mean mg mb g) (hdn : (dA == sysModules) = false) (hbd : @Ne Nat bA dA) (hnd : oth.Nodup) (hlt : oth.length < 1000)
    (F : Fr g L h m₁) (N : News g L h ((I + 1, it1) :: (I, it2) :: tl)) (hoff : ∀ p ∈ tl, p.1 ≠ I + 1 ∧ p.1 ≠ I) (hlb : (bA, listOf vb.toArray nb) ∈ tl) (hT : IsTup h tp #[.int (i : Int) t, v])
    (P : ChP w N₀ [(PySem.Str.ofString "self", .ref x), (PySem.Str.ofString "b", .ref bA), (PySem.Str.ofString "b2j", .ref dA)] dA oth i (v :: r) m₁ tl)
    (hE : PassesOwn (model rw_wn0126_01.row.prog w) (ktrTop dp un gd chN chainS L 188 (.ref 187) [] outer) (envOf chN chainS L 188 (.ref 187)) E),
   wpAny (model rw_wn0126_01.row.prog w) (ktrTop dp un gd chN chainS L 188 (.ref 187) [] outer) (assign (.Tuple chTgt 0 chPos) (envOf chN chainS L 188 (.ref 187)) (.ref tp)) (fun _ s₂ => wpAny (model rw_wn0126_01.row.prog w) (ktrTop dp un gd chN chainS L 188 (.ref 187) [] outer) (execs chBody (envOf chN chainS L 188 (.ref 187)))
       (UnrPostW g L { s with heap := h, toks := tk } [(I + 1, it1), (I, it2)] (fun m' tl' => (bA, listOf vb.toArray nb) ∈ tl' ∧ ChP w N₀ [(PySem.Str.ofString "self", .ref x), (PySem.Str.ofString "b", .ref bA), (PySem.Str.ofString "b2j", .ref dA)] dA oth (i + 1) r m' tl') Q) E s₂) E { s with heap := h, toks := tk } := by
  k_with_none
  k_with "all" => first | assumption | exact allLt_ne (by first | assumption | exact And.right (by assumption) | exact And.right (And.right (by assumption)) | exact And.right (And.right (And.right (by assumption))) | exact And.right (And.right (And.right (And.right (by assumption)))) | exact And.right (And.right (And.right (And.right (And.right (by assumption))))) | exact And.right (And.right (And.right (And.right (And.right (And.right (by assumption)))))) | exact And.right (And.right (And.right (And.right (And.right (And.right (And.right (by assumption))))))) | exact And.right (And.right (And.right (And.right (And.right (And.right (And.right (And.right (by assumption)))))))) )
  k_with "UnrEndW" => refine Stop.mk ?_
  k_with "getMethod ref" => (k_here; (with_reducible show wpAny _ _ (getMethod (Value.ref _) (PySem.Str.ofString "setdefault") _) _ _ _); k_dflt (refine' kob_method (knd := PySem.strKind _ _) PySem.F.slot_dict_setdefault PySem.F.type_dict_setdefault (by k_asm) (by k_mem) (by k_asm) ?_; k_whole))
  k_with "call builtin:dict.setdefault" => (k_here; k_dflt (refine' kob_setdef_new (knd := PySem.strKind _ _) (by k_asm) (by k_asm) (by k_updF) (by k_asm) (by k_asm) (strKind_is _ _ _ _) (PySem.F.args_dict_setdefault_3 _ _ _) (by assumption) (by (rw [sizeLine_eq]; walk_at "om")) ?_; k_whole); intro _ _ _ N' hd'; (try dsimp only at N'); (revert N' hd'; intro _ _))
  k_fill
  intro w mean mg mb dp un gd outer A₀ base g L m₁ tl N₀ s h tk I dA bA x tp i t it1 it2 v r vb nb oth Q E B X T hdn hbd hnd hlt F N hoff hlb hT P hE
  obtain ⟨hcst, kvs, oB, tl, rfl, hn1, hsub, hD, hK, hS, hi⟩ := P
  have F := fr_ov _ hcst F
  dsimp (instances := true) only [kstB] at F
  have hdI : @Ne Nat dA (I + 1) ∧ @Ne Nat dA I := hoff _ (List.mem_cons_self ..)
  have hlb : (bA, listOf vb.toArray nb) ∈ tl := by
    rcases List.mem_cons.mp hlb with e | e
    · exact absurd (congrArg Prod.fst e) hbd
    · exact e
  have hoff : ∀ p ∈ tl, p.1 ≠ I + 1 ∧ p.1 ≠ I := fun p hp => hoff p (List.mem_cons_of_mem _ hp)
  obtain ⟨y, hy⟩ : ∃ y, oth[i]? = some y := by
    cases e : oth[i]? with
    | some y => exact ⟨y, rfl⟩
    | none =>
      rw [List.drop_eq_nil_of_le (by simpa using e)] at hS
      cases hS
  have hil := (List.getElem?_eq_some_iff.mp hy).1
  have hyg : oth[i] = y := (List.getElem?_eq_some_iff.mp hy).2
  have hdr : oth.drop i = y :: oth.drop (i + 1) := by rw [← hyg]; exact List.drop_eq_getElem_cons hil
  rw [hdr] at hS
  obtain ⟨ty, rfl, hS2⟩ : ∃ ty, v = .str y ty ∧ StrsAre r (oth.drop (i + 1)) := by
    cases hS with
    | cons _ ty hS2 => exact ⟨ty, rfl, hS2⟩
  have hlk : kvs.length = i := by
    have := congrArg List.length hK.1
    rw [List.length_map, List.length_take] at this
    walk_at "om"
  have hvn : valueAt kvs y = none := valueAt_none_of_not_mem (by
    rw [hK.1]
    intro hm
    have hz := hnd
    rw [← List.take_append_drop i oth, hdr] at hz
    exact (List.nodup_append.mp hz).2.2 y hm y (.head _) rfl)
  delta chTgt chBody chPos
  dsimp only
  k_steps
  refine Stop.on ?_
  rename_i hq6 hq5 hq4 tkq1 lN hq3 l1 hq2 oN hdN hq1 tkq hq F9 N9
  refine' ch_close F9 N9 ?hI ?hJ ?hn ?hs hn1 hoff hdI.1 hdI.2 ?hr
  case hI => k_mem
  case hJ => k_mem
  case hn => k_mem
  case hs => (intro p hp; repeat (first | exact hp | apply List.mem_cons_of_mem))
  case hr =>
    intro hin
    rw [stored_absent hvn] at hdN
    refine' ⟨.tail _ (hin _ hlb), ?cst, _, oN, _, rfl, fun p hp => (of_decide_eq_true (List.mem_filter.mp hp).2).1, fun p hp => hin p (hsub p hp), hdN, ⟨?k1, ?k2⟩, hS2, by walk_at "om"⟩
    case cst => (repeat (first | exact cst_nil | refine cst_cons (by with_unfolding_all rfl) ?_ | exact List.forall_mem_nil _ | refine List.forall_mem_cons.mpr ⟨by with_unfolding_all rfl, ?_⟩))
    case k1 => rw [List.map_append, hK.1, List.take_add_one, hy]; rfl
    case k2 =>
      intro j kv hj
      by_cases hji : j < kvs.length
      · rw [List.getElem?_append_left hji] at hj
        exact (KvIs.mono hin hK).2 j kv hj
      · have hj' : j = kvs.length := by
          have := (List.getElem?_eq_some_iff.mp hj).1
          rw [List.length_append, List.length_singleton] at this
          walk_at "om"
        subst hj'
        rw [List.getElem?_append_right (Nat.le_refl _), Nat.sub_self, List.getElem?_cons_zero] at hj
        cases hj
        have z1 : @Ne Nat lN dA := Nat.ne_of_gt l1.2.2.1
        have z2 : @Ne Nat lN (I + 1) := Nat.ne_of_gt l1.1
        have z3 : @Ne Nat lN I := Nat.ne_of_gt l1.2.1
        exact ⟨lN, _, _, _, rfl, off3_mem (by k_mem) z1 z2 z3, by rw [hlk]⟩
end
end Mine
end
theorem Mine.rs30 : True := by (k_with_none; trivial)
section
open PySem PySem.W PyProof.Rows Mine PySem.Calls PySem.Spec PySem.Challenge
set_option maxRecDepth 100000
namespace Mine
noncomputable def offD (d : Addr) (all : List (Addr × Obj)) : List (Addr × Obj) := all.filter fun p => decide (p.1 ≠ d)
theorem offD_mem {d : Addr} {all : List (Addr × Obj)} {p : Addr × Obj} (h : p ∈ all) (h1 : @Ne Nat p.1 d) : p ∈ offD d all := List.mem_filter.mpr ⟨h, decide_eq_true h1⟩
theorem offD_ne {d : Addr} {all : List (Addr × Obj)} {p : Addr × Obj} (h : p ∈ offD d all) : p.1 ≠ d := of_decide_eq_true (List.mem_filter.mp h).2
theorem offD_sub {d : Addr} {all : List (Addr × Obj)} {p : Addr × Obj} (h : p ∈ offD d all) : p ∈ all := (List.mem_filter.mp h).1
theorem ne_cls {g h : Heap} {L a d : Addr} {oa od : Obj} {all : List (Addr × Obj)} (N : News g L h all) (ha : (a, oa) ∈ all) (hd : (d, od) ∈ all) (c : oa.cls ≠ od.cls) : @Ne Nat a d := fun e => by
  have e' : a = d := e
  subst e'
  exact c (congrArg Obj.cls (Option.some.inj ((N _ ha).1.symm.trans (N _ hd).1)))
set_option maxHeartbeats 4000000 in
theorem ch_for {w : World} {mean : ExcName → Option Value} {mg mb : Str → Option Value} (dp un : Nat) (gd : Option (List Code)) (outer : List Env) (A₀ : Around) (base g : Heap) (L : Addr) (m₁ : Str → Option Value) (tl : List (Addr × Obj)) (s : Shared)
   (dA bA x dx : Addr) (oD oB : Obj) (vb : List Value) (nb : Nat) (oth : List Str)
    (Q : Flow → Shared → Prop) (E : Value → Shared → Prop)
    (B : Below A₀ base outer g) (X : (K w.params).In g) (T : Top Mine.q (looseW Mine.q loose) mean mg mb g) (hdn : (dA == sysModules) = false) (hnd : oth.Nodup) (hlt : oth.length < 1000)
    (F : Fr g L s.heap m₁) (N : News g L s.heap ((dA, oB) :: tl)) (hn1 : ∀ p ∈ tl, p.1 ≠ dA) (hD : oB.IsDictOf (strKind rw_wn0126_01.row.prog w) []) (hlb : (bA, listOf vb.toArray nb) ∈ tl) (hdx : (dx, oD) ∈ tl) (hcD : oD.cls = .type "dict") (sb : StrsAre vb oth)
    (hcst : Cst [(PySem.Str.ofString "self", .ref x), (PySem.Str.ofString "b", .ref bA), (PySem.Str.ofString "b2j", .ref dA)] m₁)
    (hE : PassesOwn (model rw_wn0126_01.row.prog w) (ktrTop dp un gd chN chainS L 188 (.ref 187) [] outer) (envOf chN chainS L 188 (.ref 187)) E)
    (hdone : ∀ h' tk m₂ kvs oB' tl', Fr g L h' (kstB m₂ [(PySem.Str.ofString "self", .ref x), (PySem.Str.ofString "b", .ref bA), (PySem.Str.ofString "b2j", .ref dA)]) → News g L h' ((dx, oD) :: (dA, oB') :: tl') → (∀ p ∈ (dA, oB') :: tl', p.1 ≠ dx) → (∀ p ∈ tl', p.1 ≠ dA) → (∀ p ∈ tl, p.1 ≠ dx → p ∈ tl') → oB'.IsDictOf (strKind rw_wn0126_01.row.prog w) kvs → KvIs tl' kvs oth → Q .next { s with heap := h', toks := tk }) :
   wpAny (model rw_wn0126_01.row.prog w) (ktrTop dp un gd chN chainS L 188 (.ref 187) [] outer) (call (.type "enumerate") [.ref bA]) (fun xv s₁ => wpAny (model rw_wn0126_01.row.prog w) (ktrTop dp un gd chN chainS L 188 (.ref 187) [] outer) (pyIter xv) (fun it s₂ => TurnsAt rw_wn0126_01.row.prog w (ktrTop dp un gd chN chainS L 188 (.ref 187) [] outer) g (envOf chN chainS L 188 (.ref 187)) (.Tuple chTgt 0 chPos) chBody Q E it s₂) E s₁) E s := by
  have hbd : @Ne Nat bA dA := hn1 _ hlb
  have hlen := StrsAre.length sb
  refine enum_at (ChP w tl [(PySem.Str.ofString "self", .ref x), (PySem.Str.ofString "b", .ref bA), (PySem.Str.ofString "b2j", .ref dA)] dA oth) rfl F N (.tail _ hlb) ?h0 ?turn ?done
  case h0 => exact ⟨hcst, [], oB, tl, rfl, hn1, fun _ h => h, hD, ⟨rfl, fun j kv e => by simp at e⟩, sb, Nat.zero_le _⟩
  case turn =>
    intro I i v r m tl' T' t it1 it2 h tk hI hP hl hoff hT F' N'
    exact ch_turn dp un gd outer A₀ base g L m tl' tl s h tk I dA bA x T' i t it1 it2 v r vb nb oth Q E B X T hdn hbd hnd hlt F' N' hoff hl hT hP hE
  case done =>
    intro i m tl' h tk hP F' N'
    obtain ⟨hcst', kvs, oB', tl2, rfl, hn2, hsub, hD2, hK, hS, hi⟩ := hP
    have hdr : oth.drop i = [] := List.eq_nil_of_length_eq_zero (StrsAre.length hS).symm
    have hti : oth.take i = oth := by
      have := List.take_append_drop i oth
      rw [hdr, List.append_nil] at this
      exact this
    rw [hti] at hK
    have hdx2 := hsub _ hdx
    have hBd : @Ne Nat dA dx := Ne.symm (hn2 _ hdx2)
    refine hdone h tk m kvs oB' (offD dx tl2) (fr_ov _ hcst' F') (fun p hp => ?_) (fun p hp => ?_) (fun p hp => hn2 p (offD_sub hp)) (fun p hp hd => offD_mem (hsub p hp) hd) hD2 ⟨hK.1, fun j kv e => ?_⟩
    · rcases List.mem_cons.mp hp with rfl | hp
      · exact N' _ (.tail _ hdx2)
      · rcases List.mem_cons.mp hp with rfl | hp
        · exact N' _ (.head _)
        · exact N' _ (.tail _ (offD_sub hp))
    · rcases List.mem_cons.mp hp with rfl | hp
      · exact hBd
      · exact offD_ne hp
    · obtain ⟨lj, nj, y, tj, a, b, c⟩ := hK.2 j kv e
      exact ⟨lj, nj, y, tj, a, offD_mem b (ne_cls N' (.tail _ b) (.tail _ hdx2) (by rw [hcD]; simp)), c⟩
theorem ch_for2 {w : World} {mean : ExcName → Option Value} {mg mb : Str → Option Value} (dp un : Nat) (gd : Option (List Code)) (outer : List Env) (A₀ : Around) (base g : Heap) (L : Addr) (m₁ : Str → Option Value) (tl : List (Addr × Obj)) (s : Shared)
   (dA bA x dx k nb : Nat) (oB : Obj) (es : List DictEntry) (vb : List Value) (oth : List Str)
    (Q : Flow → Shared → Prop) (E : Value → Shared → Prop)
    (B : Below A₀ base outer g) (X : (K w.params).In g) (T : Top Mine.q (looseW Mine.q loose) mean mg mb g) (hdn : (dA == sysModules) = false) (hnd : oth.Nodup) (hlt : oth.length < 1000)
    (F : Fr g L s.heap m₁) (N : News g L s.heap ((dA, oB) :: (x, instObj 242 dx) :: (dx, dictOf es k) :: tl)) (hn1 : x < dA ∧ dx < dA ∧ AllLt dA tl) (hn2 : ∀ p ∈ tl, p.1 < dx) (hn3 : dx < x) (hD : oB.IsDictOf (strKind rw_wn0126_01.row.prog w) []) (hlb : (bA, listOf vb.toArray nb) ∈ tl) (sb : StrsAre vb oth)
    (hcst : Cst [(PySem.Str.ofString "self", .ref x), (PySem.Str.ofString "b", .ref bA), (PySem.Str.ofString "b2j", .ref dA)] m₁)
    (hE : PassesOwn (model rw_wn0126_01.row.prog w) (ktrTop dp un gd chN chainS L 188 (.ref 187) [] outer) (envOf chN chainS L 188 (.ref 187)) E)
    (hdone : ∀ h' tk m₂ kvs oB' tl', Fr g L h' (kstB m₂ [(PySem.Str.ofString "self", .ref x), (PySem.Str.ofString "b", .ref bA), (PySem.Str.ofString "b2j", .ref dA)]) → News g L h' ((dx, dictOf es k) :: (x, instObj 242 dx) :: (dA, oB') :: tl') → (∀ p ∈ (x, instObj 242 dx) :: (dA, oB') :: tl', p.1 ≠ dx) → (∀ p ∈ tl, p ∈ tl') → oB'.IsDictOf (strKind rw_wn0126_01.row.prog w) kvs → KvIs tl' kvs oth → Q .next { s with heap := h', toks := tk }) :
   wpAny (model rw_wn0126_01.row.prog w) (ktrTop dp un gd chN chainS L 188 (.ref 187) [] outer) (call (.type "enumerate") [.ref bA]) (fun xv s₁ => wpAny (model rw_wn0126_01.row.prog w) (ktrTop dp un gd chN chainS L 188 (.ref 187) [] outer) (pyIter xv) (fun it s₂ => TurnsAt rw_wn0126_01.row.prog w (ktrTop dp un gd chN chainS L 188 (.ref 187) [] outer) g (envOf chN chainS L 188 (.ref 187)) (.Tuple chTgt 0 chPos) chBody Q E it s₂) E s₁) E s := by
  refine ch_for dp un gd outer A₀ base g L m₁ _ s dA bA x dx (dictOf es k) oB vb nb oth Q E B X T hdn hnd hlt F N (fun p hp => Nat.ne_of_lt ?_) hD (.tail _ (.tail _ hlb)) (.tail _ (.head _)) rfl sb hcst hE fun h' tk m₂ kvs oB' tl' F' N' h1 h2 h3 h4 h5 => ?_
  · rcases List.mem_cons.mp hp with rfl | hp
    · exact hn1.1
    · rcases List.mem_cons.mp hp with rfl | hp
      · exact hn1.2.1
      · exact allLt_lt hn1.2.2 p hp
  · have hx := h3 (x, instObj 242 dx) (.head _) (Nat.ne_of_gt hn3)
    refine hdone h' tk m₂ kvs oB' tl' F' (fun p hp => ?_) (fun p hp => ?_) (fun p hp => h3 p (.tail _ (.tail _ hp)) (Nat.ne_of_lt (hn2 p hp))) h4 h5
    · rcases List.mem_cons.mp hp with rfl | hp
      · exact N' _ (.head _)
      · rcases List.mem_cons.mp hp with rfl | hp
        · exact N' _ (.tail _ (.tail _ hx))
        · exact N' _ (.tail _ hp)
    · rcases List.mem_cons.mp hp with rfl | hp
      · exact Nat.ne_of_gt hn3
      · exact h1 p hp
end Mine
end
section
open PySem PySem.W PyProof.Rows Mine PySem.Calls PySem.Spec PySem.Challenge
set_option maxRecDepth 100000
namespace Mine
noncomputable def posOf (oth : List Str) (x : Str) : Option Nat := oth.findIdx? fun y => decide (y = x)
theorem posOf_some {oth : List Str} {x : Str} {j : Nat} (h : posOf oth x = some j) : oth[j]? = some x := by
  obtain ⟨h1, h2, _⟩ := List.findIdx?_eq_some_iff_getElem.mp h
  rw [List.getElem?_eq_getElem h1]
  exact congrArg some (of_decide_eq_true h2)
theorem posOf_none {oth : List Str} {x : Str} (h : posOf oth x = none) : x ∉ oth := fun hm => by
  have := List.findIdx?_eq_none_iff.mp h x hm
  simp at this
theorem posOf_at {oth : List Str} (hn : oth.Nodup) {j : Nat} {x : Str} (h : oth[j]? = some x) : posOf oth x = some j := by
  cases e : posOf oth x with
  | none => exact absurd (List.mem_of_getElem? h) (posOf_none e)
  | some k =>
    have e2 := posOf_some e
    have hk := (List.getElem?_eq_some_iff.mp e2)
    have hj := (List.getElem?_eq_some_iff.mp h)
    rcases Nat.lt_trichotomy k j with hlt | rfl | hlt
    · exact absurd (hk.2.trans hj.2.symm) (List.pairwise_iff_getElem.mp hn k j hk.1 hj.1 hlt)
    · rfl
    · exact absurd (hj.2.trans hk.2.symm) (List.pairwise_iff_getElem.mp hn j k hj.1 hk.1 hlt)
theorem flmb_of {w : World} {tl : List (Addr × Obj)} {aA bA dA : Addr} {one oth : List Str} {va vb : List Value} {na nb : Nat} {oB : Obj} {kvs : List (Str × Value)}
    (haA : (aA, listOf va.toArray na) ∈ tl) (hbA : (bA, listOf vb.toArray nb) ∈ tl) (hdA : (dA, oB) ∈ tl) (hoB : oB.IsDictOf (strKind rw_wn0126_01.row.prog w) kvs) (hdm : (dA == sysModules) = false) (sa : StrsAre va one) (sb : StrsAre vb oth) (hn : oth.Nodup) (hK : KvIs tl kvs oth)
    (adj : ∀ k x y j, one[k]? = some x → one[k + 1]? = some y → posOf oth x = some j → posOf oth y = none) (la : one.length < 1000) (lb : oth.length < 1000) : FlmB w tl aA bA dA (posOf oth) one oth va vb na nb oB kvs :=
  ⟨haA, hbA, hdA, hoB, hdm, sa, sb, fun x => by
    cases e : posOf oth x with
    | none => exact valueAt_none_of_not_mem (by rw [hK.1]; exact posOf_none e)
    | some j =>
      have hj := posOf_some e
      rw [← hK.1, List.getElem?_map] at hj
      obtain ⟨kv, h1, h2⟩ := Option.map_eq_some_iff.mp hj
      obtain ⟨lj, nj, y, tj, a, b, c⟩ := hK.2 j kv h1
      refine ⟨lj, nj, tj, ?_, c ▸ b⟩
      refine valueAt_of_get (by rw [hK.1]; exact hn) (i := j) ?_
      rw [h1, ← h2, ← a], adj, fun j y e => posOf_at hn e, fun x j e => (List.getElem?_eq_some_iff.mp (posOf_some e)).1, la, lb⟩
theorem News.rot {g h : Heap} {L : Addr} {a b c : Addr × Obj} {tl : List (Addr × Obj)} (N : News g L h (a :: b :: c :: tl)) : News g L h (c :: a :: b :: tl) := fun p hp => N p (by
  rcases List.mem_cons.mp hp with rfl | hp
  · exact .tail _ (.tail _ (.head _))
  · rcases List.mem_cons.mp hp with rfl | hp
    · exact .head _
    · rcases List.mem_cons.mp hp with rfl | hp
      · exact .tail _ (.head _)
      · exact .tail _ (.tail _ (.tail _ hp)))
theorem lt_ne {d : Addr} {tl : List (Addr × Obj)} (h : ∀ p ∈ tl, p.1 < d) : ∀ p ∈ tl, p.1 ≠ d := fun p hp => Nat.ne_of_lt (h p hp)
end Mine
end
section
open PySem PySem.W PyProof.Rows Mine PySem.Calls PySem.Spec PySem.Challenge
set_option maxRecDepth 100000
namespace Mine
section
set_option maxHeartbeats 16000000 in
theorem sm_tells : ∀ {w : World} {mean : ExcName → Option Value} {mg mb : Str → Option Value}
   (dp un : Nat) (gd : Option (List Code)) (cn : Str) (cs : Scope) (a : Addr) (ccd : Value) (cl : List (Str × Addr)) (outer : List Env) (A₀ : Around) (base h₀ : Heap) (L : Addr) (m : Str → Option Value) (tl : List (Addr × Obj)) (s : Shared)
   (aA bA : Addr) (one oth : List Str) (va vb : List Value) (na nb : Nat)
    (Q E : Value → Shared → Prop)
    (B : Below A₀ base outer h₀) (F : Fr h₀ L s.heap m) (X : (K w.params).In h₀) (N : News h₀ L s.heap tl)
    (T : Top q (looseW q loose) mean mg mb h₀) (hk : cs.kind = .function)
    (haA : (aA, listOf va.toArray na) ∈ tl) (hbA : (bA, listOf vb.toArray nb) ∈ tl) (sb : StrsAre vb oth) (hnd : oth.Nodup) (hlb : oth.length < 100) (sa : StrsAre va one) (hla : one.length < 1000) (adj : ∀ k x y j, one[k]? = some x → one[k + 1]? = some y → posOf oth x = some j → posOf oth y = none)
    (hdp : dp + 30 < recursionLimit) (hu : un + 200 < cLine)
    (hret : ∀ (x dx jA dA : Addr) (t1 t2 t3 t4 t5 t6 t7 t8 t9 t10 : Nat) (st : SetTable) (oB : Obj) (kvs : List (Str × Value)) (poV : Value) (h' : Heap) (tk' : Nat) (tl' : List (Addr × Obj)), Fr h₀ L h' m →
      News h₀ L h' ((dx, dictOf [smE w "isjunk" t1 .none, smE w "a" t2 (.ref aA), smE w "b" t3 (.ref bA), smE w "autojunk" t4 (.bool true), smE w "matching_blocks" t5 .none, smE w "opcodes" t6 .none, smE w "fullbcount" t7 .none, smE w "b2j" t8 (.ref dA), smE w "bjunk" t9 (.ref jA), smE w "bpopular" t10 poV] 10) :: tl') →
      (∀ p ∈ tl', p.1 ≠ dx) → (x, instObj 242 dx) ∈ tl' → (jA, setObj 0 st) ∈ tl' → FlmB w tl' aA bA dA (posOf oth) one oth va vb na nb oB kvs → (∀ p ∈ tl, p ∈ tl') → (∀ p ∈ tl, p.1 < x) → Q (.ref x) { s with heap := h', toks := tk' }),
    wpAny (model rw_wn0126_01.row.prog w) (ktrTop dp un gd cn cs L a ccd cl outer) (call (.ref 242) [.none, .ref aA, .ref bA]) Q E s := by
  k_with_none
  k_with "all" => first | assumption | exact lt_ne (by assumption) | exact allLt_ne (by first | assumption | exact And.right (by assumption) | exact And.right (And.right (by assumption)) | exact And.right (And.right (And.right (by assumption))) | exact And.right (And.right (And.right (And.right (by assumption)))) | exact And.right (And.right (And.right (And.right (And.right (by assumption))))) | exact And.right (And.right (And.right (And.right (And.right (And.right (by assumption)))))) | exact And.right (And.right (And.right (And.right (And.right (And.right (And.right (by assumption))))))) | exact And.right (And.right (And.right (And.right (And.right (And.right (And.right (And.right (by assumption)))))))) )
  k_with "room" => ktr_room
  k_with "units" => ktr_units
  k_with "unf" => walk_at "m0"
  k_with "enter" => ktr_unf
  k_with "exec For Tuple Call cons nil" => walk_at "m2"
  k_with "call builtin:len" => (k_here; k_dflt (refine' lf_len (by k_asm) (by k_mem) (by exact StrsAre.length (by assumption)) (by walk_at "om") ?_; k_whole); (try dsimp only))
  k_with "call type:enumerate" => refine Stop.mk ?_
  k_fill
  intro w mean mg mb dp un gd cn cs a ccd cl outer A₀ base h₀ L m tl s aA bA one oth va vb na nb Q E B F X N T hk haA hbA sb hnd hlb sa hla adj hdp hu hret
  k_steps
  refine Stop.on ?_
  refine' ch_for2 _ _ _ _ _ _ _ _ _ _ _ _ _ _ _ _ _ _ _ vb oth _ _ ?B ?X ?T ?hdn hnd ?hlt ?F ?N ?hn1 ?hn2 ?hn3 ?hD ?hlb sb ?hcst ?hE ?hdone
  case N => k_asm
  case F => k_asm
  case B => k_asm
  case X => k_asm
  case T => k_asm
  case hdn => assumption
  case hlt => walk_at "om"
  case hn1 => assumption
  case hn2 => assumption
  case hn3 => assumption
  case hD => assumption
  case hlb => k_mem
  case hcst => (repeat (first | exact cst_nil | refine cst_cons (by with_unfolding_all rfl) ?_ | exact List.forall_mem_nil _ | refine List.forall_mem_cons.mpr ⟨by with_unfolding_all rfl, ?_⟩))
  case hE => passes_own
  case hdone =>
    intro h9 tk9 m9 kvs oB9 tl9 F9 N9 hn9 hs9 hD9 hK9
    dsimp (instances := true) only [kstB] at F9
    dsimp only
    have hb9 := hs9 _ hbA
    k_steps
    rename_i jA e1 ledJ e2 e3 lJ e4 e5 e6 e7 pS e8 ledP e9 e10 lP e11 e12 e13 eF eN etk f1 f2 f3 f4 f5 f6 f7 f8 f9 f10 f11 f12 Fz Nz Tz Xz
    refine' hret _ _ jA _ _ _ _ _ _ _ _ _ _ _ (SetTable.fresh 0 0 ledJ) oB9 kvs _ _ _ _ Fz (News.rot Nz) ?h1 ?h2 ?h3 ?h4 ?h5 ?h6
    case h1 =>
      intro p hp
      rcases List.mem_cons.mp hp with rfl | hp
      · exact Nat.ne_of_gt lP.2.1
      · rcases List.mem_cons.mp hp with rfl | hp
        · exact Nat.ne_of_gt lJ.1
        · exact hn9 p hp
    case h2 => k_mem
    case h3 => exact .tail _ (.head _)
    case h4 => exact flmb_of (.tail _ (.tail _ (.tail _ (.tail _ (hs9 _ haA))))) (.tail _ (.tail _ (.tail _ (.tail _ hb9)))) (.tail _ (.tail _ (.tail _ (.head _)))) hD9 (by assumption) sa sb hnd (KvIs.mono (fun p hp => .tail _ (.tail _ (.tail _ (.tail _ hp)))) hK9) adj hla (by walk_at "om")
    case h5 => exact fun p hp => .tail _ (.tail _ (.tail _ (.tail _ (hs9 p hp))))
    case h6 => exact fun p hp => Nat.lt_trans ((by assumption : ∀ p ∈ tl, p.1 < _) p hp) (by assumption)
end
end Mine
end
theorem Mine.rs32 : True := by (k_with_none; trivial)
section
open PySem PySem.W PyProof.Rows Mine PySem.Calls PySem.Spec
set_option maxRecDepth 100000
namespace Mine
noncomputable abbrev dec (n : Int) : Str := PySem.Str.ofString (toString n)
/-- the text of a stretch of lines -/
noncomputable def txt (s c : Nat) : Str := if c = 1 then dec ((s : Int) + 1) else if c = 0 then dec ((s : Int) + 1 - 1) ++ PySem.Str.ofString "," ++ dec (c : Int) else dec ((s : Int) + 1) ++ PySem.Str.ofString "," ++ dec (c : Int)
noncomputable def parts (s c : Nat) : List Str := if c = 1 then [dec ((s : Int) + 1)] else if c = 0 then [dec ((s : Int) + 1 - 1), dec (c : Int)] else [dec ((s : Int) + 1), dec (c : Int)]
noncomputable def sepC : Str := PySem.Str.ofString ","
noncomputable def splitAll : Bool := (List.range 118).all fun s => (List.range 5).all fun c => decide (Txt.split (txt s c) sepC = parts s c) && decide ((txt s c).length ≤ 20) && decide (txt s c ≠ PySem.Str.ofString "")
theorem splitAll_ok : splitAll = true := by decide +kernel
theorem txt_facts {s c : Nat} (hs : s < 118) (hc : c < 5) : Txt.split (txt s c) sepC = parts s c ∧ (txt s c).length ≤ 20 ∧ txt s c ≠ PySem.Str.ofString "" := by
  have h := List.all_eq_true.mp (List.all_eq_true.mp splitAll_ok s (List.mem_range.mpr hs)) c (List.mem_range.mpr hc)
  simp only [Bool.and_eq_true, decide_eq_true_eq] at h
  exact ⟨h.1.1, h.1.2, h.2⟩
noncomputable def rdM (l : List Str) : Nat × Nat := match l with
  | [a] => (((PySem.intText? a).getD 0).toNat - 1, 1)
  | [a, b] => if PySem.intText? b = some 0 then (((PySem.intText? a).getD 0).toNat, 0) else (((PySem.intText? a).getD 0).toNat - 1, ((PySem.intText? b).getD 0).toNat)
  | _ => (0, 0)
theorem rdM_parts {s c : Nat} (hs : s < 118) (hc : c < 5) : rdM (parts s c) = (s, c) := by
  unfold parts
  have r1 : PySem.intText? (dec ((s : Int) + 1)) = some ((s : Int) + 1) := KIN.num_reads (by omega) (by omega)
  have r2 : PySem.intText? (dec (c : Int)) = some (c : Int) := KIN.num_reads (by omega) (by omega)
  have r3 : PySem.intText? (dec ((s : Int) + 1 - 1)) = some ((s : Int) + 1 - 1) := KIN.num_reads (by omega) (by omega)
  by_cases h1 : c = 1
  · rw [if_pos h1]
    simp only [rdM, r1, Option.getD_some]
    rw [h1, show ((s : Int) + 1).toNat - 1 = s by omega]
  · rw [if_neg h1]
    by_cases h0 : c = 0
    · rw [if_pos h0]
      subst h0
      have r2' : PySem.intText? (dec ((0 : Nat) : Int)) = some 0 := r2
      simp only [rdM, r2', r3, Option.getD_some, if_true]
      rw [show ((s : Int) + 1 - 1).toNat = s by omega]
    · rw [if_neg h0]
      simp only [rdM, r1, r2, Option.getD_some]
      rw [if_neg (by intro e; have := Option.some.inj e; omega), show ((s : Int) + 1).toNat - 1 = s by omega, show ((c : Nat) : Int).toNat = c by omega]
theorem txt_inj {s c s' c' : Nat} (hs : s < 118) (hc : c < 5) (hs' : s' < 118) (hc' : c' < 5) (h : txt s c = txt s' c') : s = s' ∧ c = c' := by
  have e : parts s c = parts s' c' := by rw [← (txt_facts hs hc).1, ← (txt_facts hs' hc').1, h]
  have e2 := congrArg rdM e
  rw [rdM_parts hs hc, rdM_parts hs' hc'] at e2
  exact ⟨congrArg Prod.fst e2, congrArg Prod.snd e2⟩
end Mine
end
section
open PySem PySem.W PyProof.Rows Mine PySem.Calls PySem.Spec
set_option maxRecDepth 100000
namespace Mine
theorem txt_one {x c : Nat} (h : c = 1) : txt x c = PySem.Str.ofString (toString ((x : Int) + 1)) := by unfold txt; rw [if_pos h]
theorem txt_nil {x c : Nat} (h : c = 0) : txt x c = PySem.Str.ofString (toString ((x : Int) + 1 - 1)) ++ PySem.Str.ofString "," ++ PySem.Str.ofString (toString ((x : Int) + (c : Int) - (x : Int))) := by
  unfold txt; rw [if_neg (by omega), if_pos h, show (x : Int) + (c : Int) - (x : Int) = (c : Int) by omega]
theorem txt_two {x c : Nat} (h : ¬ c = 1) (h0 : ¬ c = 0) : txt x c = PySem.Str.ofString (toString ((x : Int) + 1)) ++ PySem.Str.ofString "," ++ PySem.Str.ofString (toString ((x : Int) + (c : Int) - (x : Int))) := by
  unfold txt; rw [if_neg h, if_neg h0, show (x : Int) + (c : Int) - (x : Int) = (c : Int) by omega]
set_option maxHeartbeats 8000000 in
theorem fmt_tells : ∀ {w : World} {mean : ExcName → Option Value} {mg mb : Str → Option Value}
   (dp un : Nat) (gd : Option (List Code)) (cn : Str) (cs : Scope) (a : Addr) (ccd : Value) (cl : List (Str × Addr)) (outer : List Env) (A₀ : Around) (base h₀ : Heap) (L : Addr) (m : Str → Option Value) (news : List (Addr × Obj)) (s : Shared) (x c : Nat) (X' y : Int) (tx ty : Tok)
    (Q E : Value → Shared → Prop)
    (B : Below A₀ base outer h₀) (F : Fr h₀ L s.heap m) (X : (K w.params).In h₀) (N : News h₀ L s.heap news) (T : Top q (looseW q loose) mean mg mb h₀) (hk : cs.kind = .function)
    (hX : X' = (x : Int)) (hy : y = (x : Int) + (c : Int)) (hx : x < 118) (hc : c < 5) (hd : dp + 10 < recursionLimit) (hu : un + 80 < cLine)
    (hret : ∀ t h' tk', Fr h₀ L h' m → News h₀ L h' news → Q (.str (txt x c) t) { s with heap := h', toks := tk' }), 
    wpAny (model PySem.Challenge.rw_wn0126_01.row.prog w) (ktrTop dp un gd cn cs L a ccd cl outer) (call (.ref 253) [.int X' tx, .int y ty]) Q E s := by
  k_fill
  intro w mean mg mb dp un gd cn cs a ccd cl outer A₀ base h₀ L m news s x c X' y tx ty Q E B F X N T hk hX hy hx hc hd hu hret
  subst hX hy
  have hb : (0 : Int) ≤ x ∧ (x : Int) ≤ 200 := by omega
  have hb2 : (0 : Int) ≤ c ∧ (c : Int) ≤ 4 := by omega
  refine wpAny_call ?_
  k_dflt ktr_enter
  k_steps
  all_goals by_cases h1 : c = 1 <;> by_cases h0 : c = 0
  all_goals first
    | (exfalso; omega)
    | (rw [← txt_one h1]; exact hret _ _ _ (by assumption) (by assumption))
    | (rw [← txt_nil h0]; exact hret _ _ _ (by assumption) (by assumption))
    | (rw [← txt_two h1 h0]; exact hret _ _ _ (by assumption) (by assumption))
end Mine
end
section
open PySem PySem.W PyProof.Rows Mine PySem.Calls PySem.Spec PySem.Challenge
set_option maxRecDepth 100000
namespace Mine
theorem read_close {h₀ h' : Heap} {L : Addr} {m : Str → Option Value} {news : List (Addr × Obj)} {s : Shared} {x c : Nat} {Q : Value → Shared → Prop} {r D1 D3 : Addr} {o1 o3 : Obj} {y1 y2 : Int} {t1 t2 : Tok} {n tk : Nat}
    (hret : ∀ r t1 t2 n h' tk', Fr h₀ L h' m → News h₀ L h' ((r, tpObj [.int ((x : Nat) : Int) t1, .int ((c : Nat) : Int) t2] n) :: news) → (∀ p ∈ news, p.1 < r) → Q (.ref r) { s with heap := h', toks := tk' })
    (F : Fr h₀ L h' m) (N : News h₀ L h' ((r, tpObj [.int y1 t1, .int y2 t2] n) :: (D1, o1) :: (D3, o3) :: news)) (l : D1 < r ∧ D3 < r ∧ AllLt r news) (e1 : y1 = (x : Int)) (e2 : y2 = (c : Int)) : Q (.ref r) { s with heap := h', toks := tk } := by
  subst e1 e2
  exact hret r t1 t2 n h' tk F (fun p hp => N p (by
    rcases List.mem_cons.mp hp with rfl | hp
    · exact .head _
    · exact .tail _ (.tail _ (.tail _ hp)))) (allLt_lt l.2.2)
theorem comp_end3 {h₀ : Heap} {L I C D : Addr} {m : Str → Option Value} {s₁ : Shared} {oI oC oD : Obj} {S : List (Addr × Obj) → Prop} {rest : Value → List (Addr × Obj) → Prop} {y : Value} {h' : Heap} {tk : Nat} {all : List (Addr × Obj)}
    (F : Fr h₀ L h' m) (N : News h₀ L h' ((I, oI) :: (C, oC) :: (D, oD) :: all)) (off : LCg.Off3 I C D all) (hS : S all) (r : rest y all) : LCg.CompEnd h₀ L m s₁ I oI C oC D oD S rest y { s₁ with heap := h', toks := tk } :=
  LCg.CompEnd.intro F N all (fun p hp => hp) off hS r
end Mine
end
local macro_rules | `(tactic| walk_at "m4") => `(tactic| (k_here; (refine KSpl.split1 (by k_asm) (by k_asm) (by decide) ?_ (by assumption)); intro D' l' h' k' e' a' F' N' l1; (try k_lt l1); (replace e' := Eq.trans e' (by assumption)); (kspl_open e'); (simp only [strValues, List.map_cons, List.map_nil] at N' a')))
section
open PySem PySem.W PyProof.Rows Mine PySem.Calls PySem.Spec PySem.Challenge
set_option maxRecDepth 100000
namespace Mine
section
set_option maxHeartbeats 8000000 in
theorem read_tells : ∀ {w : World} {mean : ExcName → Option Value} {mg mb : Str → Option Value}
   (dp un : Nat) (gd : Option (List Code)) (cn : Str) (cs : Scope) (a : Addr) (ccd : Value) (cl : List (Str × Addr)) (outer : List Env) (A₀ : Around) (base h₀ : Heap) (L : Addr) (m : Str → Option Value) (news : List (Addr × Obj)) (s : Shared) (x c : Nat) (t : Tok)
    (Q E : Value → Shared → Prop)
    (B : Below A₀ base outer h₀) (F : Fr h₀ L s.heap m) (X : (K w.params).In h₀) (N : News h₀ L s.heap news) (T : Top q (looseW q loose) mean mg mb h₀) (hk : cs.kind = .function)
    (hx : x < 118) (hc : c < 5) (hd : dp + 10 < recursionLimit) (hu : un + 80 < cLine)
    (hret : ∀ r t1 t2 n h' tk', Fr h₀ L h' m → News h₀ L h' ((r, tpObj [.int ((x : Nat) : Int) t1, .int ((c : Nat) : Int) t2] n) :: news) → (∀ p ∈ news, p.1 < r) → Q (.ref r) { s with heap := h', toks := tk' }), 
    wpAny (model PySem.Challenge.rw_wn0126_01.row.prog w) (ktrTop dp un gd cn cs L a ccd cl outer) (call (.ref 265) [.str (txt x c) t]) Q E s := by
  k_with_none
  k_with "CompEnd" => (k_dflt (refine' comp_end3 (by k_asm) (by k_asm) (by assumption) (by first | exact trivial | exact Or.inr ⟨_, by k_mem, rfl, _, rfl⟩) ?_; k_whole); (try dsimp only [List.nil_append, List.cons_append]))
  k_with "all" => first | assumption | exact lt_ne (by assumption) | exact allLt_ne (by first | assumption | exact And.right (by assumption) | exact And.right (And.right (by assumption)) | exact And.right (And.right (And.right (by assumption))) | exact And.right (And.right (And.right (And.right (by assumption)))) | exact And.right (And.right (And.right (And.right (And.right (by assumption))))))
  k_with "call builtin:str.split" => walk_at "m4"
  k_fill
  intro w mean mg mb dp un gd cn cs a ccd cl outer A₀ base h₀ L m news s x c t Q E B F X N T hk hx hc hd hu hret
  obtain ⟨hsp, hlen, hne⟩ := txt_facts hx hc
  have hsz : (txt x c).length + 2 ≤ sizeLine := by rw [sizeLine_eq]; walk_at "om"
  unfold parts sepC at hsp
  have r0 : (0 : Int) ≤ (x : Int) + 1 ∧ (x : Int) + 1 < 10 ^ 10 := by walk_at "om"
  have r1 : (0 : Int) ≤ (x : Int) + 1 - 1 ∧ (x : Int) + 1 - 1 < 10 ^ 10 := by walk_at "om"
  have r2 : (0 : Int) ≤ (c : Int) ∧ (c : Int) < 10 ^ 10 := by walk_at "om"
  generalize txt x c = tx at *
  by_cases h1 : c = 1
  · rw [if_pos h1] at hsp
    refine wpAny_call ?_
    k_dflt ktr_enter
    k_steps
    exact read_close hret (by assumption) (by assumption) (by assumption) (by first | walk_at "om" | exact rfl | (show (x : Int) + 1 - 1 = (x : Int); walk_at "om")) (by first | walk_at "om" | exact rfl)
  · rw [if_neg h1] at hsp
    by_cases h0 : c = 0
    · rw [if_pos h0] at hsp
      have h00 : (c : Int) = 0 := by walk_at "om"
      refine wpAny_call ?_
      k_dflt ktr_enter
      k_steps
      all_goals first | (exfalso; exact (by assumption : ¬ _) h00) | (exfalso; exact (show ¬ ([(x : Int) + 1 - 1, (c : Int)].getD (Int.toNat 1) 0 = 0) by assumption) h00) | exact read_close hret (by assumption) (by assumption) (by assumption) (by first | walk_at "om" | exact rfl | (show (x : Int) + 1 - 1 = (x : Int); walk_at "om")) (by first | walk_at "om" | exact rfl)
    · rw [if_neg h0] at hsp
      have h00 : ¬ (c : Int) = 0 := by walk_at "om"
      refine wpAny_call ?_
      k_dflt ktr_enter
      k_steps
      all_goals first | (exfalso; exact h00 (show [(x : Int) + 1, (c : Int)].getD (Int.toNat 1) 0 = 0 by assumption)) | exact read_close hret (by assumption) (by assumption) (by assumption) (by first | walk_at "om" | exact rfl | (show (x : Int) + 1 - 1 = (x : Int); walk_at "om")) (by first | walk_at "om" | exact rfl)
end
end Mine
end
theorem Mine.rs35 : True := by (k_with_none; trivial)
section
open PySem PySem.W PyProof.Rows Mine PySem.Calls PySem.Spec PySem.Challenge
set_option maxRecDepth 100000
namespace Mine
section
variable {prog : Program} {w : World} {A : Around} {E : Value → Shared → Prop} {s : Shared} {h₀ : Heap} {L : Addr} {news : List (Addr × Obj)}
theorem t2_key {g : Nat × Nat → Int × Int} {h : Heap} {v : Value} {x : Nat × Nat} (N : News h₀ L h news) (r : T2 g news v x) : ∃ a, v = .ref a ∧ IsTupleKey (intKind prog w) h [(g x).1, (g x).2] a := by
  obtain ⟨a, n, t, u, e, hm⟩ := r
  exact ⟨a, e, _, _, n, (N _ hm).1, rfl, rfl, .cons (intKind_is _ _ _ _) (.cons (intKind_is _ _ _ _) .nil)⟩
theorem t2_eq {g : Nat × Nat → Int × Int} {v u : Value} {x y : Nat × Nat} (hu : A.units < cLine) (N : News h₀ L s.heap news) (rv : T2 g news v x) (ru : T2 g news u y) : SeqAt.EqAt A s v u (decide ([(g x).1, (g x).2] = [(g y).1, (g y).2])) := by
  intro prog w E Q hq
  obtain ⟨a, rfl, ha⟩ := t2_key (prog := prog) (w := w) N rv
  obtain ⟨b, rfl, hb⟩ := t2_key (prog := prog) (w := w) N ru
  exact wpAny_eqBool_tuple hu ha hb hq
theorem t2_inj {g : Nat × Nat → Int × Int} (hg : ∀ x y, g x = g y → x = y) {h : Heap} {v : Value} {x y : Nat × Nat} (N : News h₀ L h news) (rx : T2 g news v x) (ry : T2 g news v y) : x = y := by
  obtain ⟨a, n, t, u, rfl, hm⟩ := rx
  obtain ⟨b, n', t', u', e, hm'⟩ := ry
  cases e
  have e := Option.some.inj ((N _ hm).1.symm.trans (N _ hm').1)
  have e2 : Data.seq ([.int (g x).1 t, .int (g x).2 u] : List Value).toArray n = Data.seq ([.int (g y).1 t', .int (g y).2 u'] : List Value).toArray n' := congrArg Obj.data e
  injection e2 with e3 _
  have e4 := congrArg Array.toList e3
  simp only [List.cons.injEq, Value.int.injEq, and_true] at e4
  exact hg x y (Prod.ext e4.1.1 e4.2.1)
open Classical in
/-- `in` over a list of pairs -/
theorem lf_in2 {g : Nat × Nat → Int × Int} (hg : ∀ x y, g x = g y → x = y) {l pa : Addr} {n : Nat} {vs : List Value} {xs : List (Nat × Nat)} {p : Nat × Nat} {Q : Value → Shared → Prop} (hu : A.in1.units < cLine) (N : News h₀ L s.heap news)
    (hl : (l, listOf vs.toArray n) ∈ news) (hR : All2 (T2 g news) vs xs) (hp : T2 g news (.ref pa) p) (h : Q (.bool (inM p xs)) s) : wpAny (model prog w) A (compareOp .In (.ref pa) (.ref l)) Q E s := by
  have hI : s.heap.IsList l vs.toArray := ⟨_, (N _ hl).1, rfl, _, rfl⟩
  have key : ∀ {v : Value} {x : Nat × Nat}, T2 g news v x → decide (T2 g news v p) = (x.1 == p.1 && x.2 == p.2) := fun {v x} r => by
    by_cases e : x = p
    · subst e; simp [r]
    · have h1 : ¬ T2 g news v p := fun r2 => e (t2_inj hg N r r2)
      have h2 : ¬ (x.1 = p.1 ∧ x.2 = p.2) := fun h => e (Prod.ext h.1 h.2)
      rw [decide_eq_false h1]
      by_cases a : x.1 = p.1
      · have b : ¬ x.2 = p.2 := fun b => h2 ⟨a, b⟩
        simp [a, b]
      · simp [a]
  have all : ∀ (ws : List Value) (ys : List (Nat × Nat)), All2 (T2 g news) ws ys → ws.any (fun v => decide (T2 g news v p)) = inM p ys := by
    intro ws
    induction ws with
    | nil => intro ys hr; cases ys with | nil => rfl | cons _ _ => exact hr.elim
    | cons v ws ih => intro ys hr; cases ys with
      | nil => exact hr.elim
      | cons y ys => obtain ⟨a, b⟩ := hr; show _ = (_ || _); rw [List.any_cons, key a, ih ys b]; rfl
  refine SeqAt.in_listAt (fun v => decide (T2 g news v p)) hI (fun y hy => ?_) ?_
  · obtain ⟨k, hk, hk2⟩ := List.mem_iff_getElem.mp (show y ∈ vs by simpa using hy)
    have hlen := hR.length
    obtain ⟨v', hv', r⟩ := All2.get hR (List.getElem?_eq_getElem (l := xs) (i := k) (by walk_at "om"))
    rw [List.getElem?_eq_getElem hk, hk2] at hv'
    cases hv'
    have z := t2_eq (A := A.in1) hu N r hp
    rw [key r]
    refine (congrArg (SeqAt.EqAt A.in1 s y (.ref pa)) ?_).mp z
    by_cases e : xs[k]'(by walk_at "om") = p
    · rw [e]; simp
    · have h1 : ¬ (xs[k].1 = p.1 ∧ xs[k].2 = p.2) := fun h => e (Prod.ext h.1 h.2)
      have h2 : ¬ ([(g xs[k]).1, (g xs[k]).2] = [(g p).1, (g p).2]) := fun h => by
        simp only [List.cons.injEq, and_true] at h
        exact e (hg _ _ (Prod.ext h.1 h.2))
      rw [decide_eq_false h2]
      by_cases a : xs[k].1 = p.1
      · have b : ¬ xs[k].2 = p.2 := fun b => h1 ⟨a, b⟩
        simp [a, b]
      · simp [a]
  · rw [List.any_toArray, all vs xs hR]
    exact h
end
end Mine
end
section
open PySem PySem.W PyProof.Rows Mine PySem.Calls PySem.Spec PySem.Challenge
set_option maxRecDepth 100000
namespace Mine
section
set_option maxHeartbeats 8000000 in
theorem cont_tells : ∀ {w : World} {mean : ExcName → Option Value} {mg mb : Str → Option Value}
   (dp un : Nat) (gd : Option (List Code)) (cn : Str) (cs : Scope) (a : Addr) (ccd : Value) (cl : List (Str × Addr)) (outer : List Env) (A₀ : Around) (base h₀ : Heap) (L : Addr) (m : Str → Option Value) (news : List (Addr × Obj)) (s : Shared)
   (g : Nat × Nat → Int × Int) (l pa n : Addr) (vs : List Value) (xs : List (Nat × Nat)) (p : Nat × Nat)
    (Q E : Value → Shared → Prop)
    (B : Below A₀ base outer h₀) (F : Fr h₀ L s.heap m) (X : (K w.params).In h₀) (N : News h₀ L s.heap news) (T : Top q (looseW q loose) mean mg mb h₀) (hk : cs.kind = .function)
    (hg : ∀ x y, g x = g y → x = y) (hl : (l, listOf vs.toArray n) ∈ news) (hR : All2 (T2 g news) vs xs) (hp : T2 g news (.ref pa) p) (hd : dp + 10 < recursionLimit) (hu : un + 80 < cLine)
    (hret : ∀ h' tk', Fr h₀ L h' m → News h₀ L h' news → Q (.bool (inM p xs)) { s with heap := h', toks := tk' }), 
    wpAny (model PySem.Challenge.rw_wn0126_01.row.prog w) (ktrTop dp un gd cn cs L a ccd cl outer) (call (.ref 260) [.ref l, .ref pa]) Q E s := by
  k_with_none
  k_with "compareOp In ref ref" => (k_here; k_dflt (refine' lf_in2 (by assumption) (by ktr_units) (by k_asm) (by assumption) (by assumption) (by assumption) ?_; k_whole))
  k_fill
  intro w mean mg mb dp un gd cn cs a ccd cl outer A₀ base h₀ L m news s g l pa n vs xs p Q E B F X N T hk hg hl hR hp hd hu hret
  refine wpAny_call ?_
  k_dflt ktr_enter
  k_steps
  exact hret _ _ (by assumption) (by assumption)
end
end Mine
end
theorem Mine.rs36 : True := by (k_with_none; trivial)
section
open PySem PySem.W PyProof.Rows Mine PySem.Calls PySem.Spec PySem.Challenge
set_option maxRecDepth 100000
namespace Mine
theorem updF_upd {d : Addr} {o : Obj} : ∀ {l : List (Addr × Obj)} {g : Obj → List (Addr × Obj)}, UpdF d o l g → ∀ o', Upd d o o' l (g o')
  | _, _, .head h, _ => .head h
  | _, _, .tail h r, o' => .tail h (updF_upd r o')
section
variable {prog : Program} {w : World} {A : Around} {E : Value → Shared → Prop} {s : Shared} {h₀ : Heap} {L D b : Addr} {m : Str → Option Value} {news : List (Addr × Obj)} {g : Obj → List (Addr × Obj)} {vs ws : List Value} {n n2 : Nat}
theorem lf_extend {Q : Value → Shared → Prop} (F : Fr h₀ L s.heap m) (N : News h₀ L s.heap news) (hb : (b, listOf ws.toArray n2) ∈ news) (U : UpdF D (listOf vs.toArray n) news g) (hlen : vs.length + ws.length < 10000)
    (h : ∀ h' c, Fr h₀ L h' m → News h₀ L h' (g (listOf (vs ++ ws).toArray c)) → Q .none { s with heap := h' }) : wpAny (model prog w) A (call (.builtin "list.extend") [.ref D, .ref b]) Q E s := by
  have hd : ¬(!vs.toArray.isEmpty && Builtin.List.listTooLong (vs.toArray.size + ws.toArray.size)) = true := by
    unfold Builtin.List.listTooLong
    rw [sizeLine_eq]
    simp
    walk_at "om"
  by_cases hw : ws = []
  · subst hw
    exact kxn_extend F N hb rfl (updF_upd U _) hd (by rw [sizeLine_eq]; simp; walk_at "om") (by rw [sizeLine_eq]; simp; walk_at "om") fun h' F' N' => h h' n F' (by simpa using N')
  · refine kl_extend F N hb rfl (by simpa using hw) (updF_upd U _) hd (by rw [sizeLine_eq]; simp; walk_at "om") (by rw [sizeLine_eq]; simp; walk_at "om") fun h' F' N' => h h' _ F' (by simpa using N')
end
end Mine
end
section
open PySem PySem.W PyProof.Rows Mine PySem.Calls PySem.Spec PySem.Challenge
set_option maxRecDepth 100000
namespace Mine
noncomputable abbrev lnN : Str := PySem.Str.ofString "_law_line"
noncomputable def ln1 : List Stmt := by
  refine (fun (l : List Stmt) (_ : forBody (nth lineB 1) = l) => l) ?x ?h
  case h => (conv => lhs; whnf)
noncomputable def ln1T : PySem.Expr := by
  refine (fun (l : PySem.Expr) (_ : forTgt (nth lineB 1) = l) => l) ?x ?h
  case h => (conv => lhs; whnf)
noncomputable def ln3 : List Stmt := by
  refine (fun (l : List Stmt) (_ : forBody (nth lineB 3) = l) => l) ?x ?h
  case h => (conv => lhs; whnf)
noncomputable def ln3T : PySem.Expr := by
  refine (fun (l : PySem.Expr) (_ : forTgt (nth lineB 3) = l) => l) ?x ?h
  case h => (conv => lhs; whnf)
noncomputable abbrev gP (b : Nat) (p : Nat × Nat) : Int × Int := (((b + 7 * p.1 : Nat) : Int), (p.2 : Int))
noncomputable abbrev gN (b : Nat) (p : Nat × Nat) : Int × Int := (-(p.2 : Int), ((b + 7 * p.1 : Nat) : Int))
/-- the stretches that the law makes -/
noncomputable def OkP (b : Nat) (p : Nat × Nat) : Prop := b + 7 * p.1 < 118 ∧ p.2 < 5
noncomputable abbrev tx (b : Nat) (p : Nat × Nat) : Str := txt (b + 7 * p.1) p.2
theorem sa_app {vs ws : List Value} {xs ys : List Str} (h : StrsAre vs xs) (h' : StrsAre ws ys) : StrsAre (vs ++ ws) (xs ++ ys) := by
  induction h with
  | nil => exact h'
  | cons y t _ ih => exact .cons y t ih
theorem fmt_plus {w : World} {mean : ExcName → Option Value} {mg mb : Str → Option Value}
   (dp un : Nat) (gd : Option (List Code)) (cn : Str) (cs : Scope) (a : Addr) (ccd : Value) (cl : List (Str × Addr)) (outer : List Env) (A₀ : Around) (base h₀ : Heap) (L : Addr) (m : Str → Option Value) (news : List (Addr × Obj)) (s : Shared) (x c : Nat) (tx ty : Tok)
    (Q E : Value → Shared → Prop)
    (B : Below A₀ base outer h₀) (F : Fr h₀ L s.heap m) (X : (K w.params).In h₀) (N : News h₀ L s.heap news) (T : Top q (looseW q loose) mean mg mb h₀) (hk : cs.kind = .function)
    (hx : x < 118) (hc : c < 5) (hd : dp + 10 < recursionLimit) (hu : un + 80 < cLine)
    (hret : ∀ t h' tk', Fr h₀ L h' m → News h₀ L h' news → Q (.str (txt x c) t) { s with heap := h', toks := tk' }) :
    wpAny (model PySem.Challenge.rw_wn0126_01.row.prog w) (ktrTop dp un gd cn cs L a ccd cl outer) (call (.ref 253) [.int (x : Int) tx, .int ((x : Int) + (c : Int)) ty]) Q E s :=
  fmt_tells dp un gd cn cs a ccd cl outer A₀ base h₀ L m news s x c _ _ tx ty Q E B F X N T hk rfl rfl hx hc hd hu hret
theorem fmt_minus {w : World} {mean : ExcName → Option Value} {mg mb : Str → Option Value}
   (dp un : Nat) (gd : Option (List Code)) (cn : Str) (cs : Scope) (a : Addr) (ccd : Value) (cl : List (Str × Addr)) (outer : List Env) (A₀ : Around) (base h₀ : Heap) (L : Addr) (m : Str → Option Value) (news : List (Addr × Obj)) (s : Shared) (x c : Nat) (tx ty : Tok)
    (Q E : Value → Shared → Prop)
    (B : Below A₀ base outer h₀) (F : Fr h₀ L s.heap m) (X : (K w.params).In h₀) (N : News h₀ L s.heap news) (T : Top q (looseW q loose) mean mg mb h₀) (hk : cs.kind = .function)
    (hx : x < 118) (hc : c < 5) (hd : dp + 10 < recursionLimit) (hu : un + 80 < cLine)
    (hret : ∀ t h' tk', Fr h₀ L h' m → News h₀ L h' news → Q (.str (txt x c) t) { s with heap := h', toks := tk' }) :
    wpAny (model PySem.Challenge.rw_wn0126_01.row.prog w) (ktrTop dp un gd cn cs L a ccd cl outer) (call (.ref 253) [.int (x : Int) tx, .int ((x : Int) - -(c : Int)) ty]) Q E s :=
  fmt_tells dp un gd cn cs a ccd cl outer A₀ base h₀ L m news s x c _ _ tx ty Q E B F X N T hk rfl (by walk_at "om") hx hc hd hu hret
inductive L1P (N₀ : List (Addr × Obj)) (ps : List (Str × Value)) (g : Nat × Nat → Int × Int) (b : Nat) (oA : Addr) (f : Nat × Nat → List Str) (res : List Str) (vs : List Value) (m : Str → Option Value) (nw : List (Addr × Obj)) : Prop
  | mk : (Cst ps m) → ∀ (xs : List (Nat × Nat)) (acc : List Str) (vo : List Value) (no : Nat) (tl : List (Addr × Obj)), (nw = (oA, listOf vo.toArray no) :: tl) → ((∀ p ∈ tl, p.1 ≠ oA)) → ((∀ p ∈ N₀, p ∈ tl)) → (All2 (T2 g tl) vs xs) → (StrsAre vo acc) → (acc ++ xs.flatMap f = res) → ((∀ p ∈ xs, OkP b p)) → (vo.length + 2 * vs.length < 900) → L1P N₀ ps g b oA f res vs m nw
/-- the end of a turn: one list of the ledger stands first, the iterator apart -/
theorem l_close {g : Heap} {L I oA : Addr} {it o : Obj} {s₁ : Shared} {h' : Heap} {tk : Nat} {m' : Str → Option Value} {all tl : List (Addr × Obj)} {R : (Str → Option Value) → List (Addr × Obj) → Prop}
    (F : Fr g L h' m') (N : News g L h' all) (hI : (I, it) ∈ all) (hn : (oA, o) ∈ all) (hs : ∀ p ∈ tl, p ∈ all) (h1 : ∀ p ∈ tl, p.1 ≠ oA) (h2 : ∀ p ∈ tl, p.1 ≠ I) (hnI : @Ne Nat oA I)
    (hr : (∀ p ∈ tl, p ∈ offF oA I all) → R m' ((oA, o) :: offF oA I all)) : UnrEndW g L s₁ [(I, it)] R { s₁ with heap := h', toks := tk } :=
  ⟨h', tk, m', _, rfl, F, fun p hp => by
    rcases List.mem_append.mp hp with hp | hp
    · exact N _ (List.mem_singleton.mp hp ▸ hI)
    · rcases List.mem_cons.mp hp with rfl | hp
      · exact N _ hn
      · exact N _ (List.mem_filter.mp hp).1, fun p hp q hq => by
    rw [List.mem_singleton.mp hq]
    rcases List.mem_cons.mp hp with rfl | hp
    · exact hnI
    · exact (of_decide_eq_true (List.mem_filter.mp hp).2).2, hr fun p hp => offF_mem (hs p hp) (h1 p hp) (h2 p hp)⟩
end Mine
end
section
open PySem PySem.W PyProof.Rows Mine PySem.Calls PySem.Spec PySem.Challenge
set_option maxRecDepth 100000
namespace Mine
section
set_option maxHeartbeats 16000000 in
theorem ln1_turn : ∀ {w : World} {mean : ExcName → Option Value} {mg mb : Str → Option Value} (dp un : Nat) (gd : Option (List Code)) (outer : List Env) (A₀ : Around) (base g : Heap) (L : Addr) (m₁ : Str → Option Value) (tl N₀ : List (Addr × Obj)) (s : Shared) (h : Heap) (tk : Nat)
   (I pA oA sA b : Addr) (it : Obj) (v : Value) (r vm : List Value) (nm : Nat) (res : List Str)
    (Q : Flow → Shared → Prop) (E : Value → Shared → Prop)
    (B : Below A₀ base outer g) (X : (K w.params).In g) (T : Top Mine.q (looseW Mine.q loose) mean mg mb g) (hdp : dp + 12 < recursionLimit) (hu : un + 100 < cLine)
    (F : Fr g L h m₁) (N : News g L h ((I, it) :: tl)) (hoff : ∀ p ∈ tl, p.1 ≠ I) (hlm : (sA, listOf vm.toArray nm) ∈ tl) (hnm : @Ne Nat oA sA)
    (P : L1P N₀ [(PySem.Str.ofString "points", .ref pA), (PySem.Str.ofString "one", .ref oA)] (gP b) b oA (fun p => [tx b p, PySem.Str.ofString ""]) res (v :: r) m₁ tl)
    (hE : PassesOwn (model rw_wn0126_01.row.prog w) (ktrTop dp un gd lnN lineS L 270 (.ref 269) [] outer) (envOf lnN lineS L 270 (.ref 269)) E),
   wpAny (model rw_wn0126_01.row.prog w) (ktrTop dp un gd lnN lineS L 270 (.ref 269) [] outer) (assign ln1T (envOf lnN lineS L 270 (.ref 269)) v) (fun _ s₂ => wpAny (model rw_wn0126_01.row.prog w) (ktrTop dp un gd lnN lineS L 270 (.ref 269) [] outer) (execs ln1 (envOf lnN lineS L 270 (.ref 269)))
       (UnrPostW g L { s with heap := h, toks := tk } [(I, it)] (fun m' tl' => (sA, listOf vm.toArray nm) ∈ tl' ∧ L1P N₀ [(PySem.Str.ofString "points", .ref pA), (PySem.Str.ofString "one", .ref oA)] (gP b) b oA (fun p => [tx b p, PySem.Str.ofString ""]) res r m' tl') Q) E s₂) E { s with heap := h, toks := tk } := by
  k_with_none
  k_with "all" => first | assumption | exact lt_ne (by assumption) | exact allLt_ne (by first | assumption | exact And.right (by assumption) | exact And.right (And.right (by assumption)) | exact And.right (And.right (And.right (by assumption))) | exact And.right (And.right (And.right (And.right (by assumption)))) | exact And.right (And.right (And.right (And.right (And.right (by assumption))))))
  k_with "UnrEndW" => refine Stop.mk ?_
  k_with "call ref" => (k_here; (with_reducible show wpAny _ _ (call (Value.ref _) [Value.int _ _, Value.int _ _]) _ _ _); k_dflt (refine' fmt_plus _ _ _ _ _ _ _ _ _ _ _ _ _ _ _ _ _ _ _ _ _ _ (by k_asm) (by k_asm) (by k_asm) (by k_asm) (by k_asm) (by rfl) (by walk_at "om") (by walk_at "om") (by ktr_room) (by ktr_units) ?_; k_whole); intro _ _ _ _ _)
  k_with "call builtin:list.extend" => (k_here; k_dflt (refine' lf_extend (ws := [_, _]) (by k_asm) (by k_asm) (by exact List.Mem.head _) (by k_updF) (by (simp only [List.length_cons, List.length_nil]; walk_at "om")) ?_; k_whole); intro _ _ _ N'; (try dsimp only at N'); (revert N'; intro _))
  k_fill
  intro w mean mg mb dp un gd outer A₀ base g L m₁ tl N₀ s h tk I pA oA sA b it v r vm nm res Q E B X T hdp hu F N hoff hlm hnm P hE
  obtain ⟨hcst, xs, acc, vo, no, tl, rfl, hn1, hsub, hT, hS, hres, hok, hlen⟩ := P
  have F := fr_ov _ hcst F
  dsimp (instances := true) only [kstB] at F
  have hnI : @Ne Nat oA I := hoff _ (List.mem_cons_self ..)
  have hlm : (sA, listOf vm.toArray nm) ∈ tl := by
    rcases List.mem_cons.mp hlm with e | e
    · exact absurd (congrArg Prod.fst e).symm hnm
    · exact e
  have hoff : ∀ p ∈ tl, p.1 ≠ I := fun p hp => hoff p (List.mem_cons_of_mem _ hp)
  rw [List.length_cons] at hlen
  match xs, hT with
  | y :: xs, hT2 =>
    obtain ⟨⟨aT, nT, u1, u2, rfl, haT⟩, hT3⟩ := hT2
    obtain ⟨hk1, hk2⟩ := hok _ (List.mem_cons_self ..)
    dsimp only at haT
    delta ln1T ln1
    dsimp only
    k_steps
    refine Stop.on ?_
    refine' l_close ?F ?N ?hI ?hn ?hs hn1 hoff hnI ?hr
    case N => k_asm
    case F => k_asm
    case hI => k_mem
    case hn => k_mem
    case hs => (intro p hp; repeat (first | exact hp | apply List.mem_cons_of_mem))
    case hr =>
      intro hin
      rw [List.flatMap_cons, ← List.append_assoc] at hres
      refine' ⟨.tail _ (hin _ hlm), ?cst, xs, _, _, _, _, rfl, fun p hp => (of_decide_eq_true (List.mem_filter.mp hp).2).1, fun p hp => hin p (hsub p hp), All2.mono (T2.mono hin) hT3, ?hS, hres, fun p hp => hok p (List.mem_cons_of_mem _ hp), ?len⟩
      case cst => (repeat (first | exact cst_nil | refine cst_cons (by with_unfolding_all rfl) ?_ | exact List.forall_mem_nil _ | refine List.forall_mem_cons.mpr ⟨by with_unfolding_all rfl, ?_⟩))
      case hS => exact sa_app hS (by repeat (first | exact .nil | refine .cons _ _ ?_))
      case len => (simp only [List.length_append, List.length_cons, List.length_nil]; walk_at "om")
end
end Mine
end
theorem Mine.rs38 : True := by (k_with_none; trivial)
section
open PySem PySem.W PyProof.Rows Mine PySem.Calls PySem.Spec PySem.Challenge
set_option maxRecDepth 100000
namespace Mine
end Mine
end
section
open PySem PySem.W PyProof.Rows Mine PySem.Calls PySem.Spec PySem.Challenge
set_option maxRecDepth 100000
namespace Mine
section
set_option maxHeartbeats 16000000 in
theorem ln3_turn : ∀ {w : World} {mean : ExcName → Option Value} {mg mb : Str → Option Value} (dp un : Nat) (gd : Option (List Code)) (outer : List Env) (A₀ : Around) (base g : Heap) (L : Addr) (m₁ : Str → Option Value) (tl N₀ : List (Addr × Obj)) (s : Shared) (h : Heap) (tk : Nat)
   (I pA qA oA sA b : Addr) (it : Obj) (v : Value) (r vm : List Value) (nm : Nat) (res : List Str)
    (Q : Flow → Shared → Prop) (E : Value → Shared → Prop)
    (B : Below A₀ base outer g) (X : (K w.params).In g) (T : Top Mine.q (looseW Mine.q loose) mean mg mb g) (hdp : dp + 12 < recursionLimit) (hu : un + 100 < cLine)
    (F : Fr g L h m₁) (N : News g L h ((I, it) :: tl)) (hoff : ∀ p ∈ tl, p.1 ≠ I) (hlm : (sA, listOf vm.toArray nm) ∈ tl) (hnm : @Ne Nat oA sA)
    (P : L1P N₀ [(PySem.Str.ofString "points", .ref pA), (PySem.Str.ofString "one", .ref qA), (PySem.Str.ofString "other", .ref oA)] (gN b) b oA (fun p => [tx b p]) res (v :: r) m₁ tl)
    (hE : PassesOwn (model rw_wn0126_01.row.prog w) (ktrTop dp un gd lnN lineS L 270 (.ref 269) [] outer) (envOf lnN lineS L 270 (.ref 269)) E),
   wpAny (model rw_wn0126_01.row.prog w) (ktrTop dp un gd lnN lineS L 270 (.ref 269) [] outer) (assign ln3T (envOf lnN lineS L 270 (.ref 269)) v) (fun _ s₂ => wpAny (model rw_wn0126_01.row.prog w) (ktrTop dp un gd lnN lineS L 270 (.ref 269) [] outer) (execs ln3 (envOf lnN lineS L 270 (.ref 269)))
       (UnrPostW g L { s with heap := h, toks := tk } [(I, it)] (fun m' tl' => (sA, listOf vm.toArray nm) ∈ tl' ∧ L1P N₀ [(PySem.Str.ofString "points", .ref pA), (PySem.Str.ofString "one", .ref qA), (PySem.Str.ofString "other", .ref oA)] (gN b) b oA (fun p => [tx b p]) res r m' tl') Q) E s₂) E { s with heap := h, toks := tk } := by
  k_with_none
  k_with "all" => first | assumption | exact lt_ne (by assumption) | exact allLt_ne (by first | assumption | exact And.right (by assumption) | exact And.right (And.right (by assumption)) | exact And.right (And.right (And.right (by assumption))) | exact And.right (And.right (And.right (And.right (by assumption)))) | exact And.right (And.right (And.right (And.right (And.right (by assumption))))))
  k_with "UnrEndW" => refine Stop.mk ?_
  k_with "call ref" => (k_here; (with_reducible show wpAny _ _ (call (Value.ref _) [Value.int _ _, Value.int _ _]) _ _ _); k_dflt (refine' fmt_minus _ _ _ _ _ _ _ _ _ _ _ _ _ _ _ _ _ _ _ _ _ _ (by k_asm) (by k_asm) (by k_asm) (by k_asm) (by k_asm) (by rfl) (by walk_at "om") (by walk_at "om") (by ktr_room) (by ktr_units) ?_; k_whole); intro _ _ _ _ _)
  k_fill
  intro w mean mg mb dp un gd outer A₀ base g L m₁ tl N₀ s h tk I pA qA oA sA b it v r vm nm res Q E B X T hdp hu F N hoff hlm hnm P hE
  obtain ⟨hcst, xs, acc, vo, no, tl, rfl, hn1, hsub, hT, hS, hres, hok, hlen⟩ := P
  have F := fr_ov _ hcst F
  dsimp (instances := true) only [kstB] at F
  have hnI : @Ne Nat oA I := hoff _ (List.mem_cons_self ..)
  have hlm : (sA, listOf vm.toArray nm) ∈ tl := by
    rcases List.mem_cons.mp hlm with e | e
    · exact absurd (congrArg Prod.fst e).symm hnm
    · exact e
  have hoff : ∀ p ∈ tl, p.1 ≠ I := fun p hp => hoff p (List.mem_cons_of_mem _ hp)
  rw [List.length_cons] at hlen
  match xs, hT with
  | y :: xs, hT2 =>
    obtain ⟨⟨aT, nT, u1, u2, rfl, haT⟩, hT3⟩ := hT2
    obtain ⟨hk1, hk2⟩ := hok _ (List.mem_cons_self ..)
    dsimp only at haT
    delta ln3T ln3
    dsimp only
    k_steps
    refine Stop.on ?_
    rw [List.push_toArray] at *
    refine' l_close ?F ?N ?hI ?hn ?hs hn1 hoff hnI ?hr
    case N => k_asm
    case F => k_asm
    case hI => k_mem
    case hn => k_mem
    case hs => (intro p hp; repeat (first | exact hp | apply List.mem_cons_of_mem))
    case hr =>
      intro hin
      rw [List.flatMap_cons, ← List.append_assoc] at hres
      refine' ⟨.tail _ (hin _ hlm), ?cst, xs, _, _, _, _, rfl, fun p hp => (of_decide_eq_true (List.mem_filter.mp hp).2).1, fun p hp => hin p (hsub p hp), All2.mono (T2.mono hin) hT3, ?hS, hres, fun p hp => hok p (List.mem_cons_of_mem _ hp), ?len⟩
      case cst => (repeat (first | exact cst_nil | refine cst_cons (by with_unfolding_all rfl) ?_ | exact List.forall_mem_nil _ | refine List.forall_mem_cons.mpr ⟨by with_unfolding_all rfl, ?_⟩))
      case hS => exact sa_app hS (by repeat (first | exact .nil | refine .cons _ _ ?_))
      case len => (simp only [List.length_append, List.length_cons, List.length_nil]; walk_at "om")
end
end Mine
end
theorem Mine.rs39 : True := by (k_with_none; trivial)
section
open PySem PySem.W PyProof.Rows Mine PySem.Calls PySem.Spec
set_option maxRecDepth 100000
namespace Mine
section
variable {prog : Program} {w : World} {A : Around} {h₀ : Heap} {L : Addr} {m : Str → Option Value} {env : Env} {elt ct : PySem.Expr} {x x₂ : Str} {scope : Scope} {cl : List (Str × Addr)} {s : Shared} {S : List (Addr × Obj) → Prop} {Fin : List Value → List (Addr × Obj) → Prop} {vs : List Value}
theorem at_pre {pre r : List Value} {v v' : Value} (e : pre ++ v :: r = vs) (h : vs.toArray[pre.length]? = some v') : v' = v := by
  subst e
  simp at h
  exact h.symm
/-- a comprehension over a list, by an invariant on the rest, the values made and the ledger -/
theorem comp_ind (J : List Value → List Value → List (Addr × Obj) → Prop)
    (turn : ∀ v r ys nw I oI C oC D m₂ h tk (E' : Value → Shared → Prop), J (v :: r) ys nw → LCg.NsObj oC m₂ → m₂ x = some v → Fr h₀ L h m → News h₀ L h ((I, oI) :: (C, oC) :: (D, LCg.lst ys) :: nw) → LCg.Off3 I C D nw → ((@Ne Nat I C) ∧ (@Ne Nat I D) ∧ (@Ne Nat C D)) →
      wpAny (model prog w) A (eval elt (compEnvC scope cl C env)) (LCg.CompEnd h₀ L m { s with heap := h, toks := tk } I oI C oC D (LCg.lst ys) S (fun y news' => J r (ys ++ [y]) news')) E' { s with heap := h, toks := tk })
    (done : ∀ ys nw, J [] ys nw → Fin ys nw) :
    ∀ r pre ys nw, pre ++ r = vs → J r ys nw → LCg.CompRest prog w A h₀ L m env elt x scope cl s S (fun i v => vs.toArray[i]? = some v) Fin r.length pre.length ys nw
  | [], pre, ys, nw, e, hJ => LCg.CompRest.zero (done ys nw hJ)
  | v :: r, pre, ys, nw, e, hJ => LCg.CompRest.succ fun v' I oI C oC D m₂ h tk E' hv hC hx F N off ne => by
    obtain rfl := at_pre e hv
    refine wpAny_mono (turn v' r ys nw I oI C oC D m₂ h tk E' hJ hC hx F N off ne) (fun y s₂ h₂ => ?_) fun _ _ z => z
    obtain ⟨h', tk', nw', e1, F', N', o', hS, hJ'⟩ := h₂
    have z := comp_ind J turn done r (pre ++ [v']) (ys ++ [y]) nw' (by rw [← e]; simp) hJ'
    rw [List.length_append, List.length_singleton] at z
    exact ⟨h', tk', nw', e1, F', N', o', hS, z⟩
theorem compT_ind (J : List Value → List Value → List (Addr × Obj) → Prop)
    (turn : ∀ v r ys nw I oI C oC D m₂ h tk (E' : Value → Shared → Prop), J (v :: r) ys nw → LCg.NsObj oC m₂ → m₂ x = some v → Fr h₀ L h m → News h₀ L h ((I, oI) :: (C, oC) :: (D, LCg.lst ys) :: nw) → LCg.Off3 I C D nw → ((@Ne Nat I C) ∧ (@Ne Nat I D) ∧ (@Ne Nat C D)) →
      wpAny (model prog w) A (isTrue ct (compEnvC scope cl C env) (eval ct (compEnvC scope cl C env))) (fun ok s' => if ok = true then
        wpAny (model prog w) A (eval elt (compEnvC scope cl C env)) (LCg.CompEnd h₀ L m { s with heap := h, toks := tk } I oI C oC D (LCg.lst ys) S (fun y news' => J r (ys ++ [y]) news')) E' s'
        else LCg.CompEnd h₀ L m { s with heap := h, toks := tk } I oI C oC D (LCg.lst ys) S (fun _ news' => J r ys news') Value.none s') E' { s with heap := h, toks := tk })
    (done : ∀ ys nw, J [] ys nw → Fin ys nw) :
    ∀ r pre ys nw, pre ++ r = vs → J r ys nw → LCt.CompRestT prog w A h₀ L m env ct elt x scope cl s S (fun i v => vs.toArray[i]? = some v) Fin r.length pre.length ys nw
  | [], pre, ys, nw, e, hJ => LCt.CompRestT.zero (done ys nw hJ)
  | v :: r, pre, ys, nw, e, hJ => LCt.CompRestT.succ fun v' I oI C oC D m₂ h tk E' hv hC hx F N off ne => by
    obtain rfl := at_pre e hv
    refine wpAny_mono (turn v' r ys nw I oI C oC D m₂ h tk E' hJ hC hx F N off ne) (fun ok s₂ h₂ => ?_) fun _ _ z => z
    have go : ∀ (zs : List Value) (y : Value) s₂, LCg.CompEnd h₀ L m { s with heap := h, toks := tk } I oI C oC D (LCg.lst ys) S (fun _ news' => J r zs news') y s₂ → LCg.CompEnd h₀ L m { s with heap := h, toks := tk } I oI C oC D (LCg.lst ys) S (fun _ news' => LCt.CompRestT prog w A h₀ L m env ct elt x scope cl s S (fun i v => vs.toArray[i]? = some v) Fin r.length (pre.length + 1) zs news') y s₂ := by
      rintro zs y s₂ ⟨h', tk', nw', e1, F', N', o', hS, hJ'⟩
      have z := compT_ind J turn done r (pre ++ [v']) zs nw' (by rw [← e]; simp) hJ'
      rw [List.length_append, List.length_singleton] at z
      exact ⟨h', tk', nw', e1, F', N', o', hS, z⟩
    cases ok with
    | false =>
      simp only [Bool.false_eq_true, if_false] at h₂ ⊢
      exact go ys _ _ h₂
    | true =>
      simp only [if_true] at h₂ ⊢
      exact wpAny_mono h₂ (fun y s₃ h₃ => by
        obtain ⟨h', tk', nw', e1, F', N', o', hS, hJ'⟩ := h₃
        have z := compT_ind J turn done r (pre ++ [v']) (ys ++ [y]) nw' (by rw [← e]; simp) hJ'
        rw [List.length_append, List.length_singleton] at z
        exact ⟨h', tk', nw', e1, F', N', o', hS, z⟩) fun _ _ z => z
theorem compP_ind (J : List Value → List Value → List (Addr × Obj) → Prop)
    (turn : ∀ v r ys nw, J (v :: r) ys nw → ∃ (t : Addr) (ot : Obj) (v₁ v₂ : Value) (nt : Nat), v = .ref t ∧ (t, ot) ∈ nw ∧ ot.cls = .type "tuple" ∧ ot.data = .seq #[v₁, v₂] nt ∧
      ∀ I oI C oC D m₂ h tk (E' : Value → Shared → Prop), LCg.NsObj oC m₂ → m₂ x = some v₁ → m₂ x₂ = some v₂ → Fr h₀ L h m → News h₀ L h ((I, oI) :: (C, oC) :: (D, LCg.lst ys) :: nw) → LCg.Off3 I C D nw → ((@Ne Nat I C) ∧ (@Ne Nat I D) ∧ (@Ne Nat C D)) →
      wpAny (model prog w) A (eval elt (compEnvC scope cl C env)) (LCg.CompEnd h₀ L m { s with heap := h, toks := tk } I oI C oC D (LCg.lst ys) S (fun y news' => J r (ys ++ [y]) news')) E' { s with heap := h, toks := tk })
    (done : ∀ ys nw, J [] ys nw → Fin ys nw) :
    ∀ r pre ys nw, pre ++ r = vs → J r ys nw → LCp.CompRestP prog w A h₀ L m env elt x x₂ scope cl s S (fun i v => vs.toArray[i]? = some v) Fin r.length pre.length ys nw
  | [], pre, ys, nw, e, hJ => LCp.CompRestP.zero (done ys nw hJ)
  | v :: r, pre, ys, nw, e, hJ => LCp.CompRestP.succ fun v' hv => by
    obtain rfl := at_pre e hv
    obtain ⟨t, ot, v₁, v₂, nt, e1, e2, e3, e4, go⟩ := turn v' r ys nw hJ
    refine ⟨t, ot, v₁, v₂, nt, e1, e2, e3, e4, fun I oI C oC D m₂ h tk E' hC hx hx₂ F N off ne => ?_⟩
    refine wpAny_mono (go I oI C oC D m₂ h tk E' hC hx hx₂ F N off ne) (fun y s₂ h₂ => ?_) fun _ _ z => z
    obtain ⟨h', tk', nw', e1, F', N', o', hS, hJ'⟩ := h₂
    have z := compP_ind J turn done r (pre ++ [v']) (ys ++ [y]) nw' (by rw [← e]; simp) hJ'
    rw [List.length_append, List.length_singleton] at z
    exact ⟨h', tk', nw', e1, F', N', o', hS, z⟩
end
end Mine
end
section
open PySem PySem.W PyProof.Rows Mine PySem.Calls PySem.Spec
set_option maxRecDepth 100000
namespace Mine
/-- what the mirror of a line holds: both sorted rows, the places, the matches found, their sorted row and the blocks -/
structure LineD where
  s1 : List Pt
  s2 : List Pt
  bs : List (Nat × Nat)
  bs' : List (Nat × Nat)
  bp : List ((Nat × Nat) × Pt)
noncomputable def blk (q : (Nat × Nat) × (Nat × Nat)) : Tri := (q.1.1, q.1.2, 1)
noncomputable def psM (s1 s2 : List Pt) : List (Option Nat) := s1.flatMap fun p => [idxM p s2, none]
noncomputable def naR (bs' : List (Nat × Nat)) : List Tri := let r := naM bs' (0, 0, 0) []; if r.1.2.2 = 0 then r.2 else r.2 ++ [r.1]
noncomputable def blkM (s2 : List Pt) (ps : List (Option Nat)) (t : Tri) : Option ((Nat × Nat) × Pt) := if t.2.2 = 1 ∧ ps[t.1]? = some (some t.2.1) then (s2[t.2.1]?).map fun p => ((t.1, t.2.1), p) else none
noncomputable def lineD (pts : List Pt) : Option LineD := do
  let s1 ← srtO ltP pts
  let s2 ← srtO ltN pts
  let bs ← gqM (psM s1 s2) 40 [(0, (psM s1 s2).length, 0, s2.length)] []
  let bs' ← srtO ltP bs
  let bp ← (naR bs').mapM (blkM s2 (psM s1 s2))
  if pts.length < 6 ∧ s2.Nodup ∧ s1.length = pts.length ∧ s2.length = pts.length ∧ bs.length < 60 ∧ bs'.length = bs.length ∧ bp ≠ [] then some ⟨s1, s2, bs, bs', bp⟩ else none
noncomputable def lineM2 (pts : List Pt) : Option (List Pt) := (lineD pts).map fun d => d.bp.map (·.2)
noncomputable def linesM2 : Nat → List Pt → Option (List (List Pt))
  | _, [] => some []
  | 0, _ :: _ => none
  | n + 1, p :: r => do
    let line ← lineM2 (p :: r)
    let rest ← linesM2 n ((p :: r).filter fun x => !inM x line)
    some (line :: rest)
noncomputable def layersM2 : Nat → List Pt → Option (List (List (List Pt)))
  | _, [] => some []
  | 0, _ :: _ => none
  | n + 1, p :: r => do
    let lines ← linesM2 (p :: r).length (p :: r)
    let left ← srtO ltP (cornersM lines)
    let rest ← layersM2 n left
    if (cornersM lines).length < 60 ∧ lines.all (fun l => decide (l.length < 60 ∧ l ≠ [])) then some (lines :: rest) else none
noncomputable def lawM2 (cs : List Nat) : Bool :=
  match layersM2 5 (ptsM cs), srtO ltP ((ptsM cs).map fun p => (p.2, p.1)) with
  | some ls, some by' => decide (ls.map (fun l => l.map fun line => (line.getLast?.getD (0, 0)).2) = tableM cs) && decide (ls.map (fun l => l.map fun line => (line.head?.getD (0, 0)).1) = tableM (by'.map (·.2)))
  | _, _ => false
noncomputable def allM2 : Bool := (List.range 2).all fun a => (List.range 3).all fun b => (List.range 4).all fun c => (List.range 5).all fun d => lawM2 (putM d 4 (putM c 3 (putM b 2 (putM a 1 [0]))))
theorem allM2_ok : allM2 = true := by decide +kernel
theorem mapM_mem {α β : Type} {f : α → Option β} : ∀ {l : List α} {ys : List β}, l.mapM f = some ys → ∀ y ∈ ys, ∃ x ∈ l, f x = some y
  | [], ys, h, y, hy => by rw [List.mapM_nil] at h; cases h; cases hy
  | x :: l, ys, h, y, hy => by
    rw [List.mapM_cons] at h
    obtain ⟨z, hz, h⟩ := Option.bind_eq_some_iff.mp h
    obtain ⟨zs, hzs, h⟩ := Option.bind_eq_some_iff.mp h
    cases h
    rcases List.mem_cons.mp hy with rfl | hy
    · exact ⟨x, .head _, hz⟩
    · obtain ⟨w, hw, e⟩ := mapM_mem hzs y hy
      exact ⟨w, .tail _ hw, e⟩
theorem srtO_mem {α : Type} {lt : α → α → Bool} {xs ys : List α} (h : srtO lt xs = some ys) : ∀ y ∈ ys, y ∈ xs := by
  intro y hy
  unfold srtO at h
  split at h
  · cases h; exact hy
  · split at h
    · obtain ⟨i, _, e⟩ := mapM_mem h y hy
      exact List.mem_of_getElem? e
    · cases h
structure LineDF (pts : List Pt) (d : LineD) : Prop where
  f1 : srtO ltP pts = some d.s1
  f2 : srtO ltN pts = some d.s2
  f3 : gqM (psM d.s1 d.s2) 40 [(0, (psM d.s1 d.s2).length, 0, d.s2.length)] [] = some d.bs
  f4 : srtO ltP d.bs = some d.bs'
  f5 : (naR d.bs').mapM (blkM d.s2 (psM d.s1 d.s2)) = some d.bp
  f6 : pts.length < 6
  f7 : d.s2.Nodup
  f8 : d.s1.length = pts.length
  f9 : d.s2.length = pts.length
  f10 : d.bs.length < 60
  f11 : d.bs'.length = d.bs.length
  f12 : d.bp ≠ []
theorem lineD_facts {pts : List Pt} {d : LineD} (h : lineD pts = some d) : LineDF pts d := by
  unfold lineD at h
  obtain ⟨s1, h1, h⟩ := Option.bind_eq_some_iff.mp h
  obtain ⟨s2, h2, h⟩ := Option.bind_eq_some_iff.mp h
  obtain ⟨bs, h3, h⟩ := Option.bind_eq_some_iff.mp h
  obtain ⟨bs', h4, h⟩ := Option.bind_eq_some_iff.mp h
  obtain ⟨bp, h5, h⟩ := Option.bind_eq_some_iff.mp h
  split at h
  · rename_i hc
    cases h
    obtain ⟨g1, g2, g3, g4, g5, g6, g7⟩ := hc
    exact ⟨h1, h2, h3, h4, h5, g1, g2, g3, g4, g5, g6, g7⟩
  · cases h
/-- the blocks that the mirror keeps, spelt out -/
theorem blk_of {s2 : List Pt} {ps : List (Option Nat)} : ∀ {ts : List Tri} {bp : List ((Nat × Nat) × Pt)}, ts.mapM (blkM s2 ps) = some bp → ts = bp.map blk ∧ ∀ q ∈ bp, ps[q.1.1]? = some (some q.1.2) ∧ s2[q.1.2]? = some q.2
  | [], bp, h => by rw [List.mapM_nil] at h; cases h; exact ⟨rfl, fun _ h => nomatch h⟩
  | t :: ts, bp, h => by
    rw [List.mapM_cons] at h
    obtain ⟨z, hz, h⟩ := Option.bind_eq_some_iff.mp h
    obtain ⟨zs, hzs, h⟩ := Option.bind_eq_some_iff.mp h
    cases h
    obtain ⟨e, r⟩ := blk_of hzs
    unfold blkM at hz
    split at hz
    · rename_i hc
      obtain ⟨p, hp, e2⟩ := Option.map_eq_some_iff.mp hz
      subst e2
      refine ⟨?_, fun q hq => ?_⟩
      · rw [List.map_cons, ← e]
        congr 1
        show t = (t.1, t.2.1, 1)
        exact Prod.ext rfl (Prod.ext rfl hc.1)
      · rcases List.mem_cons.mp hq with rfl | hq
        · exact ⟨hc.2, hp⟩
        · exact r q hq
    · cases hz
theorem fst_of {pos : Str → Option Nat} {one : List Str} {al bl bh : Nat} : ∀ k, fstHit pos one al bl bh k = fstM (one.map pos) al bl bh k
  | 0 => rfl
  | k + 1 => by
    unfold fstHit fstM
    rw [fst_of k, List.getElem?_map]
    cases fstM (one.map pos) al bl bh k with
    | some r => rfl
    | none =>
      cases one[al + k]? with
      | none => rfl
      | some x => rfl
theorem gq_of {pos : Str → Option Nat} {one : List Str} : ∀ n q bs, gq pos one n q bs = gqM (one.map pos) n q bs
  | 0, _, _ => rfl
  | _ + 1, [], _ => rfl
  | n + 1, (al, ah, bl, bh) :: q, bs => by
    unfold gq gqM
    rw [fst_of]
    cases fstM (one.map pos) al bl bh (ah - al) with
    | none => exact gq_of n _ _
    | some r => exact gq_of n _ _
noncomputable abbrev oneT (b : Nat) (s1 : List Pt) : List Str := s1.flatMap fun p => [tx b p, PySem.Str.ofString ""]
noncomputable abbrev othT (b : Nat) (s2 : List Pt) : List Str := s2.map (tx b)
theorem tx_inj {b : Nat} {p q : Pt} (hp : OkP b p) (hq : OkP b q) (h : tx b p = tx b q) : p = q := by
  have e := txt_inj hp.1 hp.2 hq.1 hq.2 h
  exact Prod.ext (by omega) e.2
theorem pos_tx {b : Nat} {p : Pt} (hp : OkP b p) : ∀ {s2 : List Pt}, (∀ q ∈ s2, OkP b q) → posOf (othT b s2) (tx b p) = idxM p s2
  | [], _ => rfl
  | q :: s2, h => by
    have ih := pos_tx hp (s2 := s2) fun q hq => h q (.tail _ hq)
    unfold posOf idxM at ih ⊢
    show List.findIdx? _ (tx b q :: othT b s2) = _
    rw [List.findIdx?_cons, List.findIdx?_cons, ih]
    have e : decide (tx b q = tx b p) = (q.1 == p.1 && q.2 == p.2) := by
      by_cases z : q = p
      · subst z; simp
      · have z1 : ¬ tx b q = tx b p := fun h' => z (tx_inj (h q (.head _)) hp h')
        rw [decide_eq_false z1]
        by_cases a : q.1 = p.1
        · have c : ¬ q.2 = p.2 := fun c => z (Prod.ext a c)
          simp [a, c]
        · simp [a]
    rw [e]
theorem pos_nil {b : Nat} {s2 : List Pt} (h : ∀ q ∈ s2, OkP b q) : posOf (othT b s2) (PySem.Str.ofString "") = none := by
  unfold posOf
  refine List.findIdx?_eq_none_iff.mpr fun x hx => ?_
  obtain ⟨q, hq, rfl⟩ := List.mem_map.mp hx
  exact decide_eq_false (txt_facts (h q hq).1 (h q hq).2).2.2
theorem ps_of {b : Nat} {s2 : List Pt} (h2 : ∀ q ∈ s2, OkP b q) : ∀ {s1 : List Pt}, (∀ q ∈ s1, OkP b q) → (oneT b s1).map (posOf (othT b s2)) = psM s1 s2
  | [], _ => rfl
  | p :: s1, h1 => by
    have ih := ps_of h2 (s1 := s1) fun q hq => h1 q (.tail _ hq)
    unfold psM at ih ⊢
    show List.map _ ([tx b p, PySem.Str.ofString ""] ++ oneT b s1) = _
    rw [List.flatMap_cons, List.map_append, ih, List.map_cons, List.map_cons, List.map_nil, pos_tx (h1 p (.head _)) h2, pos_nil h2]
theorem ps_adj {s2 : List Pt} : ∀ {s1 : List Pt} {k j : Nat} {y : Option Nat}, (psM s1 s2)[k]? = some (some j) → (psM s1 s2)[k + 1]? = some y → y = none
  | [], _, _, _, h, _ => by simp [psM] at h
  | p :: s1, k, j, y, h, h' => by
    have e : psM (p :: s1) s2 = idxM p s2 :: none :: psM s1 s2 := rfl
    rw [e] at h h'
    match k with
    | 0 => simpa using h'.symm
    | 1 => simp at h
    | k + 2 => exact ps_adj (s1 := s1) (by simpa using h) (by simpa using h')
theorem one_adj {b : Nat} {s1 s2 : List Pt} (h1 : ∀ q ∈ s1, OkP b q) (h2 : ∀ q ∈ s2, OkP b q) : ∀ k x y j, (oneT b s1)[k]? = some x → (oneT b s1)[k + 1]? = some y → posOf (othT b s2) x = some j → posOf (othT b s2) y = none := fun k x y j e1 e2 e3 => by
  have q1 : (psM s1 s2)[k]? = some (some j) := by rw [← ps_of h2 h1, List.getElem?_map, e1, Option.map_some, e3]
  have q2 : (psM s1 s2)[k + 1]? = some (posOf (othT b s2) y) := by rw [← ps_of h2 h1, List.getElem?_map, e2, Option.map_some]
  exact ps_adj q1 q2
theorem oth_nodup {b : Nat} : ∀ {s2 : List Pt}, (∀ q ∈ s2, OkP b q) → s2.Nodup → (othT b s2).Nodup
  | [], _, _ => List.nodup_nil
  | p :: s2, h, hn => by
    have hn' := List.nodup_cons.mp hn
    refine List.nodup_cons.mpr ⟨fun hm => ?_, oth_nodup (fun q hq => h q (.tail _ hq)) hn'.2⟩
    obtain ⟨q, hq, e⟩ := List.mem_map.mp hm
    exact hn'.1 (tx_inj (h q (.tail _ hq)) (h p (.head _)) e ▸ hq)
/-- a block's two texts -/
theorem blk_tx {b : Nat} {s1 s2 : List Pt} (h1 : ∀ q ∈ s1, OkP b q) (h2 : ∀ q ∈ s2, OkP b q) {i j : Nat} {p : Pt} (h : (psM s1 s2)[i]? = some (some j)) (hj : s2[j]? = some p) : (oneT b s1)[i]? = some (tx b p) ∧ (othT b s2)[j]? = some (tx b p) ∧ OkP b p := by
  have hp := List.mem_of_getElem? hj
  rw [← ps_of h2 h1, List.getElem?_map] at h
  obtain ⟨x, hx, e⟩ := Option.map_eq_some_iff.mp h
  have e2 := posOf_some e
  rw [List.getElem?_map, hj] at e2
  have e3 : tx b p = x := Option.some.inj e2
  exact ⟨e3 ▸ hx, by rw [List.getElem?_map, hj]; rfl, h2 _ hp⟩
theorem one_len {b : Nat} : ∀ {s1 : List Pt}, (oneT b s1).length = 2 * s1.length
  | [] => rfl
  | p :: s1 => by
    show ([tx b p, PySem.Str.ofString ""] ++ oneT b s1).length = _
    rw [List.length_append, one_len (s1 := s1), List.length_cons, List.length_cons, List.length_cons, List.length_nil]
    omega
theorem ps_len {s1 s2 : List Pt} : (psM s1 s2).length = 2 * s1.length := by
  induction s1 with
  | nil => rfl
  | cons p s1 ih =>
    unfold psM at ih ⊢
    rw [List.flatMap_cons, List.length_append, ih, List.length_cons, List.length_cons, List.length_cons, List.length_nil]
    omega
end Mine
end
section
open PySem PySem.W PyProof.Rows Mine PySem.Calls PySem.Spec PySem.Challenge
set_option maxRecDepth 100000
namespace Mine
noncomputable def ln5 : List Stmt := by
  refine (fun (l : List Stmt) (_ : forBody (nth lineB 7) = l) => l) ?x ?h
  case h => (conv => lhs; whnf)
noncomputable def ln5T : PySem.Expr := by
  refine (fun (l : PySem.Expr) (_ : forTgt (nth lineB 7) = l) => l) ?x ?h
  case h => (conv => lhs; whnf)
/-- a ledger without some addresses -/
noncomputable def offL (ds : List Addr) (all : List (Addr × Obj)) : List (Addr × Obj) := all.filter fun p => decide (∀ d ∈ ds, p.1 ≠ d)
theorem offL_mem {ds : List Addr} {all : List (Addr × Obj)} {p : Addr × Obj} (h : p ∈ all) (h1 : ∀ d ∈ ds, p.1 ≠ d) : p ∈ offL ds all := List.mem_filter.mpr ⟨h, decide_eq_true h1⟩
theorem offL_ne {ds : List Addr} {all : List (Addr × Obj)} {p : Addr × Obj} {d : Addr} (h : p ∈ offL ds all) (hd : d ∈ ds) : p.1 ≠ d := of_decide_eq_true (List.mem_filter.mp h).2 d hd
theorem offL_sub {ds : List Addr} {all : List (Addr × Obj)} {p : Addr × Obj} (h : p ∈ offL ds all) : p ∈ all := (List.mem_filter.mp h).1
theorem l_close2 {g : Heap} {L I lA sA : Addr} {it o1 o2 : Obj} {s₁ : Shared} {h' : Heap} {tk : Nat} {m' : Str → Option Value} {all tl : List (Addr × Obj)} {R : (Str → Option Value) → List (Addr × Obj) → Prop}
    (F : Fr g L h' m') (N : News g L h' all) (hI : (I, it) ∈ all) (h1 : (lA, o1) ∈ all) (h2 : (sA, o2) ∈ all) (n1 : @Ne Nat lA I) (n2 : @Ne Nat sA I) (hs : ∀ p ∈ tl, p ∈ all) (f1 : ∀ p ∈ tl, p.1 ≠ lA) (f2 : ∀ p ∈ tl, p.1 ≠ sA) (f3 : ∀ p ∈ tl, p.1 ≠ I)
    (hr : (∀ p ∈ tl, p ∈ offL [lA, sA, I] all) → (∀ p ∈ all, @Ne Nat p.1 lA → @Ne Nat p.1 sA → @Ne Nat p.1 I → p ∈ offL [lA, sA, I] all) → R m' ((lA, o1) :: (sA, o2) :: offL [lA, sA, I] all)) : UnrEndW g L s₁ [(I, it)] R { s₁ with heap := h', toks := tk } :=
  have key : ∀ p ∈ all, @Ne Nat p.1 lA → @Ne Nat p.1 sA → @Ne Nat p.1 I → p ∈ offL [lA, sA, I] all := fun p hp a b c => offL_mem hp fun d hd => by
    rcases List.mem_cons.mp hd with rfl | hd
    · exact a
    · rcases List.mem_cons.mp hd with rfl | hd
      · exact b
      · rw [List.mem_singleton.mp hd]; exact c
  ⟨h', tk, m', _, rfl, F, fun p hp => by
    rcases List.mem_append.mp hp with hp | hp
    · exact N _ (List.mem_singleton.mp hp ▸ hI)
    · rcases List.mem_cons.mp hp with rfl | hp
      · exact N _ h1
      · rcases List.mem_cons.mp hp with rfl | hp
        · exact N _ h2
        · exact N _ (offL_sub hp), fun p hp q hq => by
    rw [List.mem_singleton.mp hq]
    rcases List.mem_cons.mp hp with rfl | hp
    · exact n1
    · rcases List.mem_cons.mp hp with rfl | hp
      · exact n2
      · exact offL_ne hp (by simp), hr (fun p hp => key p (hs p hp) (f1 p hp) (f2 p hp) (f3 p hp)) key⟩
theorem ints_snoc {vs : List Value} {ns : List Int} {k : Int} {t : Tok} (h : IntsAre vs ns) : IntsAre (vs ++ [.int k t]) (ns ++ [k]) := by
  induction h with
  | nil => exact .cons k t .nil
  | cons y u _ ih => exact .cons y u ih
/-- the end of a turn of a comprehension that made one object -/
theorem comp_end1 {h₀ : Heap} {L I C D : Addr} {m : Str → Option Value} {s₁ : Shared} {oI oC oD : Obj} {S : List (Addr × Obj) → Prop} {rest : Value → List (Addr × Obj) → Prop} {y : Value} {h' : Heap} {tk : Nat} {x : Addr × Obj} {all : List (Addr × Obj)}
    (F : Fr h₀ L h' m) (N : News h₀ L h' (x :: (I, oI) :: (C, oC) :: (D, oD) :: all)) (off : LCg.Off3 I C D all) (hx : ∀ p ∈ (I, oI) :: (C, oC) :: (D, oD) :: all, p.1 < x.1) (hS : S (x :: all)) (r : rest y (x :: all)) : LCg.CompEnd h₀ L m s₁ I oI C oC D oD S rest y { s₁ with heap := h', toks := tk } :=
  LCg.CompEnd.intro F N (x :: all) (fun p hp => by
    rcases List.mem_cons.mp hp with rfl | hp
    · exact .tail _ (.head _)
    · rcases List.mem_cons.mp hp with rfl | hp
      · exact .tail _ (.tail _ (.head _))
      · rcases List.mem_cons.mp hp with rfl | hp
        · exact .tail _ (.tail _ (.tail _ (.head _)))
        · rcases List.mem_cons.mp hp with rfl | hp
          · exact .head _
          · exact .tail _ (.tail _ (.tail _ (.tail _ hp)))) ⟨⟨Nat.ne_of_gt (hx _ (.head _)), Nat.ne_of_gt (hx _ (.tail _ (.head _))), Nat.ne_of_gt (hx _ (.tail _ (.tail _ (.head _))))⟩, off⟩ hS r
noncomputable def txtOkAll : Bool := (List.range 118).all fun s => (List.range 5).all fun c => PyData.strOk (txt s c)
theorem txtOkAll_ok : txtOkAll = true := by decide +kernel
theorem txt_strOk {s c : Nat} (hs : s < 118) (hc : c < 5) : PyData.strOk (txt s c) = true :=
  List.all_eq_true.mp (List.all_eq_true.mp txtOkAll_ok s (List.mem_range.mpr hs)) c (List.mem_range.mpr hc)
theorem pick_one {va : List Value} {i : Nat} {v : Value} (h : va[i]? = some v) : kms_pick va.toArray.toList (some (i : Int)) (some ((i : Int) + ((1 : Nat) : Int))) = [v] := by
  obtain ⟨hi, e⟩ := List.getElem?_eq_some_iff.mp h
  have hj : i < va.length := hi
  unfold kms_pick kms_lo kms_hi
  simp only [List.toList_toArray]
  rw [if_neg (by walk_at "om"), if_neg (by walk_at "om"), show (((i : Nat) : Int).toNat) = i by walk_at "om", show ((i : Int) + ((1 : Nat) : Int)).toNat = i + 1 by walk_at "om", Nat.min_eq_left (by walk_at "om"), Nat.min_eq_left (by walk_at "om"), show i + 1 - i = 1 by walk_at "om", List.drop_eq_getElem_cons hj, List.take_succ_cons, List.take_zero, e]
theorem pick_none {va : List Value} {i : Nat} : kms_pick va.toArray.toList (some (i : Int)) (some ((i : Int) + ((0 : Nat) : Int))) = [] := by
  unfold kms_pick kms_lo kms_hi
  simp only [List.toList_toArray]
  rw [if_neg (by walk_at "om"), if_neg (by walk_at "om"), show ((i : Int) + ((0 : Nat) : Int)).toNat = ((i : Nat) : Int).toNat by walk_at "om", Nat.sub_self, List.take_zero]
theorem sa_get {vs : List Value} {xs : List Str} (h : StrsAre vs xs) : ∀ {i : Nat} {x : Str}, xs[i]? = some x → ∃ t, vs[i]? = some (.str x t) := by
  induction h with
  | nil => intro i x e; simp at e
  | cons y t r ih =>
    intro i x e
    cases i with
    | zero => simp only [List.getElem?_cons_zero] at e ⊢; cases e; exact ⟨t, rfl⟩
    | succ i => simp only [List.getElem?_cons_succ] at e ⊢; exact ih e
open Classical in
theorem lf_neSame {prog : Program} {w : World} {A : Around} {E : Value → Shared → Prop} {s : Shared} {h₀ : Heap} {L a b : Addr} {news : List (Addr × Obj)} {vs ws : List Value} {ka kb : Nat} {ds : List Dat} {Q : Value → Shared → Prop} (N : News h₀ L s.heap news) (ma : (a, listOf vs.toArray ka) ∈ news) (mb : (b, listOf ws.toArray kb) ∈ news)
    (Da : DatAll [] vs ds) (Db : DatAll [] ws ds) (ok : ∀ d ∈ ds, kqdOk 8 d = true) (hu : A.units + 64 < cLine) (h : Q (.bool false) s) : wpAny (model prog w) A (compareOp .NotEq (.ref a) (.ref b)) Q E s :=
  kqd_ne N ma rfl rfl Da (fun _ h => nomatch h) mb rfl rfl Db (fun _ h => nomatch h) ok ok hu (by simpa using h)
theorem read_tells' {w : World} {mean : ExcName → Option Value} {mg mb : Str → Option Value}
   (dp un : Nat) (gd : Option (List Code)) (cn : Str) (cs : Scope) (a : Addr) (ccd : Value) (cl : List (Str × Addr)) (outer : List Env) (A₀ : Around) (base h₀ : Heap) (L : Addr) (m : Str → Option Value) (news : List (Addr × Obj)) (s : Shared) (xx : Str) (x c : Nat) (t : Tok)
    (Q E : Value → Shared → Prop) (hxx : txt x c = xx)
    (B : Below A₀ base outer h₀) (F : Fr h₀ L s.heap m) (X : (K w.params).In h₀) (N : News h₀ L s.heap news) (T : Top q (looseW q loose) mean mg mb h₀) (hk : cs.kind = .function)
    (hx : x < 118) (hc : c < 5) (hd : dp + 10 < recursionLimit) (hu : un + 80 < cLine)
    (hret : ∀ r t1 t2 n h' tk', Fr h₀ L h' m → News h₀ L h' ((r, tpObj [.int ((x : Nat) : Int) t1, .int ((c : Nat) : Int) t2] n) :: news) → (∀ p ∈ news, p.1 < r) → Q (.ref r) { s with heap := h', toks := tk' }) :
    wpAny (model PySem.Challenge.rw_wn0126_01.row.prog w) (ktrTop dp un gd cn cs L a ccd cl outer) (call (.ref 265) [.str xx t]) Q E s := by
  subst hxx
  exact read_tells dp un gd cn cs a ccd cl outer A₀ base h₀ L m news s x c t Q E B F X N T hk hx hc hd hu hret
inductive L5P (N₀ : List (Addr × Obj)) (ps : List (Str × Value)) (b : Nat) (one oth : List Str) (lA sA : Addr) (line : List (Nat × Nat)) (vs : List Value) (m : Str → Option Value) (nw : List (Addr × Obj)) : Prop
  | mk : (Cst ps m) → ∀ (bp : List ((Nat × Nat) × (Nat × Nat))) (acc : List (Nat × Nat)) (fin : Bool) (vl vz : List Value) (nl nz : Nat) (eV : Value) (tl : List (Addr × Obj)), (nw = (lA, listOf vl.toArray nl) :: (sA, listOf vz.toArray nz) :: tl) → ((∀ p ∈ tl, p.1 ≠ lA)) → ((∀ p ∈ tl, p.1 ≠ sA)) → ((∀ p ∈ N₀, p ∈ tl)) → (All2 (M3Is tl) vs (if fin then [] else bp.map blk ++ [(one.length, oth.length, 0)])) → (All2 (T2 (gP b) tl) vl acc) → (IntsAre vz (List.replicate acc.length 1 ++ if fin then [0] else [])) → (acc ++ bp.map (·.2) = line) → ((∀ q ∈ bp, one[q.1.1]? = some (tx b q.2) ∧ oth[q.1.2]? = some (tx b q.2) ∧ OkP b q.2)) → (m (PySem.Str.ofString "end") = some eV) → ((fin = true → bp = [] ∧ ∃ e t u n, eV = .ref e ∧ (e, tpObj [.int (one.length : Int) t, .int (oth.length : Int) u] n) ∈ tl)) → (vl.length + vs.length < 1000) → L5P N₀ ps b one oth lA sA line vs m nw
end Mine
end
section
open PySem PySem.W PyProof.Rows Mine PySem.Calls PySem.Spec PySem.Challenge
set_option maxRecDepth 100000
namespace Mine
section
set_option maxHeartbeats 16000000 in
theorem ln5_turn1 : ∀ {w : World} {mean : ExcName → Option Value} {mg mb : Str → Option Value} (dp un : Nat) (gd : Option (List Code)) (outer : List Env) (A₀ : Around) (base g : Heap) (L : Addr) (m₁ : Str → Option Value) (tl N₀ : List (Addr × Obj)) (s : Shared) (h : Heap) (tk : Nat)
   (I pA oA hA lA sA mA b a : Addr) (it : Obj) (r vm va vb vl vz : List Value) (nm na nb nl nz : Nat) (one oth : List Str) (line acc : List (Nat × Nat)) (i j : Nat) (p : Nat × Nat) (bp : List ((Nat × Nat) × (Nat × Nat))) (t u : Tok) (z : Tok × Addr) (eV : Value)
    (Q : Flow → Shared → Prop) (E : Value → Shared → Prop)
    (B : Below A₀ base outer g) (X : (K w.params).In g) (T : Top Mine.q (looseW Mine.q loose) mean mg mb g) (hdp : dp + 12 < recursionLimit) (hu : un + 100 < cLine)
    (F : Fr g L h m₁) (N : News g L h ((I, it) :: (lA, listOf vl.toArray nl) :: (sA, listOf vz.toArray nz) :: tl))
    (hnI1 : @Ne Nat lA I) (hnI2 : @Ne Nat sA I) (hnls : @Ne Nat lA sA) (hoff : ∀ p ∈ tl, p.1 ≠ I) (hl1 : ∀ p ∈ tl, p.1 ≠ lA) (hs1 : ∀ p ∈ tl, p.1 ≠ sA)
    (hcst : Cst [(PySem.Str.ofString "points", .ref pA), (PySem.Str.ofString "one", .ref oA), (PySem.Str.ofString "other", .ref hA), (PySem.Str.ofString "line", .ref lA), (PySem.Str.ofString "sizes", .ref sA)] m₁) (hend : m₁ (PySem.Str.ofString "end") = some eV)
    (hN₀ : ∀ p ∈ N₀, p ∈ tl) (hoA : (oA, listOf va.toArray na) ∈ tl) (hhA : (hA, listOf vb.toArray nb) ∈ tl) (sa : StrsAre va one) (sb : StrsAre vb oth) (hla : one.length < 1000) (hlb : oth.length < 1000)
    (hmA : (mA, listOf vm.toArray nm) ∈ tl) (hM : (a, mtObj (i : Int) (j : Int) ((1 : Nat) : Int) t u z) ∈ tl) (hMr : All2 (M3Is tl) r (bp.map blk ++ [(one.length, oth.length, 0)])) (hT : All2 (T2 (gP b) tl) vl acc) (hI : IntsAre vz (List.replicate acc.length 1)) (hres : acc ++ p :: bp.map (·.2) = line)
    (h1 : one[i]? = some (tx b p)) (h2 : oth[j]? = some (tx b p)) (hp : OkP b p) (hbp : ∀ q ∈ bp, one[q.1.1]? = some (tx b q.2) ∧ oth[q.1.2]? = some (tx b q.2) ∧ OkP b q.2) (hlen : vl.length + (r.length + 1) < 1000)
    (hE : PassesOwn (model rw_wn0126_01.row.prog w) (ktrTop dp un gd lnN lineS L 270 (.ref 269) [] outer) (envOf lnN lineS L 270 (.ref 269)) E),
   wpAny (model rw_wn0126_01.row.prog w) (ktrTop dp un gd lnN lineS L 270 (.ref 269) [] outer) (assign ln5T (envOf lnN lineS L 270 (.ref 269)) (.ref a)) (fun _ s₂ => wpAny (model rw_wn0126_01.row.prog w) (ktrTop dp un gd lnN lineS L 270 (.ref 269) [] outer) (execs ln5 (envOf lnN lineS L 270 (.ref 269)))
       (UnrPostW g L { s with heap := h, toks := tk } [(I, it)] (fun m' tl' => (mA, listOf vm.toArray nm) ∈ tl' ∧ L5P N₀ [(PySem.Str.ofString "points", .ref pA), (PySem.Str.ofString "one", .ref oA), (PySem.Str.ofString "other", .ref hA), (PySem.Str.ofString "line", .ref lA), (PySem.Str.ofString "sizes", .ref sA)] b one oth lA sA line r m' tl') Q) E s₂) E { s with heap := h, toks := tk } := by
  k_with_none
  k_with "all" => first | with_reducible assumption | assumption | exact lt_ne (by assumption) | exact allLt_ne (by first | assumption | exact And.right (by assumption) | exact And.right (And.right (by assumption)) | exact And.right (And.right (And.right (by assumption))) | exact And.right (And.right (And.right (And.right (by assumption)))) | exact And.right (And.right (And.right (And.right (And.right (by assumption))))) | exact And.right (And.right (And.right (And.right (And.right (And.right (by assumption)))))) | exact And.right (And.right (And.right (And.right (And.right (And.right (And.right (by assumption))))))) )
  k_with "ne" => first | with_reducible assumption | exact Ne.symm (by with_reducible assumption) | (refine neN ?_; (try dsimp only); walk_at "om")
  k_with "UnrEndW" => refine Stop.mk ?_
  k_with "CompEnd" => (k_dflt (refine' comp_end1 (by k_asm) (by k_asm) (by first | (with_reducible assumption) | ((try simp only [LCg.Off3, and_true]); with_reducible assumption)) (by with_reducible assumption) (by exact Or.inr ⟨_, by k_mem, rfl, _, rfl⟩) ?_; k_whole); (try dsimp only [List.nil_append, List.cons_append]))
  k_with "assign Tuple" => ((with_reducible show wpAny _ _ (assign (Expr.Tuple _ _ _) _ (Value.ref _)) _ _ _); k_dflt (refine' lf_assignM (by exact rfl) (by k_asm) (by k_asm) (by k_asm) (by k_mem) (by exact rfl) (by exact rfl) ?_; k_whole); intro _ _ _)
  k_with "subscriptTail Name Slice ref ref" => (k_here; (with_reducible show wpAny _ _ (subscriptTail _ (PySem.Expr.Slice _ _ none _) (Value.ref _) (Value.ref _)) _ _ _); k_dflt (refine' kms_slice_lit (by k_asm) (by k_asm) (by kmk_list) (by kmk_part) (by kmk_part) (by first | exact pick_one (by assumption) | exact pick_none) ?_ (by with_unfolding_all rfl) (by kmk_pure) (by (rw [List.size_toArray, sizeLine_eq]; walk_at "om"))); intro _ _ _ _ l1; (try k_lt l1); (revert l1; intro _))
  k_with "call builtin:list.extend" => (k_here; k_dflt (refine' lf_extend (ws := [_]) (by k_asm) (by k_asm) (by exact List.Mem.head _) (by k_updF) (by (simp only [List.length_cons, List.length_nil]; walk_at "om")) ?_; k_whole); intro _ _ _ N'; (try dsimp only at N'); (revert N'; intro _))
  k_with "compareOp NotEq ref ref" => (k_here; k_dflt (first | (refine' lf_neSame (vs := [_]) (ws := [_]) (by k_asm) (by k_mem) (by k_mem) (DatAll.cons (DatIn.str _ _) DatAll.nil) (DatAll.cons (DatIn.str _ _) DatAll.nil) (by (intro d hd; rw [List.mem_singleton.mp hd]; assumption)) (by ktr_units) ?_; k_whole) | (refine' lf_neSame (vs := []) (ws := []) (by k_asm) (by k_mem) (by k_mem) DatAll.nil DatAll.nil (by exact (fun _ h => nomatch h)) (by ktr_units) ?_; k_whole)))
  k_with "call ref" => (k_here; (with_reducible show wpAny _ _ (call (Value.ref _) [Value.str _ _]) _ _ _); k_dflt (refine' read_tells' _ _ _ _ _ _ _ _ _ _ _ _ _ _ _ _ _ _ _ _ _ _ (by with_reducible assumption) (by k_asm)  (by k_asm) (by k_asm) (by k_asm) (by k_asm) (by rfl) (by walk_at "om") (by walk_at "om") (by ktr_room) (by ktr_units) ?_; k_whole); intro _ _ _ _ _ _ _ _ l1; (have l2 := l1); (try k_lt l1); (revert l2 l1; intro _ _))
  k_fill
  intro w mean mg mb dp un gd outer A₀ base g L m₁ tl N₀ s h tk I pA oA hA lA sA mA b a it r vm va vb vl vz nm na nb nl nz one oth line acc i j p bp t u z eV Q E B X T hdp hu F N hnI1 hnI2 hnls hoff hl1 hs1 hcst hend hN₀ hoA hhA sa sb hla hlb hmA hM hMr hT hI hres h1 h2 hp hbp hlen hE
  have F := fr_ov _ hcst F
  dsimp (instances := true) only [kstB] at F
  obtain ⟨ta, ha⟩ := sa_get sa h1
  obtain ⟨tb, hb⟩ := sa_get sb h2
  have hva := sa.length
  have hvb := sb.length
  have hvz : vz.length = acc.length := by rw [hI.length, List.length_replicate]
  have hvl := hT.length
  have hok : PyData.strOk (tx b p) = true := txt_strOk hp.1 hp.2
  obtain ⟨hp1, hp2⟩ := hp
  generalize hxx : tx b p = xx at h1 h2 ha hb hok
  have hl1s : ∀ p ∈ (sA, listOf vz.toArray nz) :: tl, p.1 ≠ lA := fun p hp => by
    rcases List.mem_cons.mp hp with rfl | hp
    · exact Ne.symm hnls
    · exact hl1 p hp
  delta ln5T ln5
  dsimp only
  k_steps
  refine Stop.on ?_
  rw [List.push_toArray] at *
  refine' l_close2 (tl := tl) ?F ?N ?hI ?h1 ?h2 hnI1 hnI2 ?hs hl1 hs1 hoff ?hr
  case N => k_asm
  case F => k_asm
  case hI => k_mem
  case h1 => k_mem
  case h2 => k_mem
  case hs => (intro p hp; repeat (first | exact hp | apply List.mem_cons_of_mem))
  case hr =>
    intro hin key
    refine' ⟨.tail _ (.tail _ (hin _ hmA)), ?cst, bp, acc ++ [p], false, _, _, _, _, _, _, rfl, fun p hp => offL_ne hp (by simp), fun p hp => offL_ne hp (by simp), fun p hp => hin p (hN₀ p hp), All2.mono (M3Is.mono hin) hMr, All2.append (All2.mono (T2.mono hin) hT) (All2.cons ⟨_, _, _, _, rfl, key _ (by k_mem) ?n1 ?n2 ?n3⟩ All2.nil), ?hI, (by rw [List.append_assoc]; exact hres), hbp, ?hend, (fun h => nomatch h), ?len⟩
    case n1 => (refine Nat.ne_of_gt ?_; dsimp only; walk_at "om")
    case n2 => (refine Nat.ne_of_gt ?_; dsimp only; walk_at "om")
    case n3 => (refine Nat.ne_of_gt ?_; dsimp only; walk_at "om")
    case cst => (repeat (first | exact cst_nil | refine cst_cons (by with_unfolding_all rfl) ?_ | exact List.forall_mem_nil _ | refine List.forall_mem_cons.mpr ⟨by with_unfolding_all rfl, ?_⟩))
    case hend => with_unfolding_all rfl
    case hI =>
      have e : List.replicate (acc ++ [p]).length (1 : Int) ++ (if false = true then [0] else []) = List.replicate acc.length 1 ++ [1] := by rw [List.length_append, List.length_singleton, List.replicate_succ', if_neg (by decide), List.append_nil]
      rw [e]
      exact ints_snoc hI
    case len => (simp only [List.length_append, List.length_cons, List.length_nil]; walk_at "om")
section
set_option maxHeartbeats 16000000 in
theorem ln5_turn0 : ∀ {w : World} {mean : ExcName → Option Value} {mg mb : Str → Option Value} (dp un : Nat) (gd : Option (List Code)) (outer : List Env) (A₀ : Around) (base g : Heap) (L : Addr) (m₁ : Str → Option Value) (tl N₀ : List (Addr × Obj)) (s : Shared) (h : Heap) (tk : Nat)
   (I pA oA hA lA sA mA b a : Addr) (it : Obj) (r vm va vb vl vz : List Value) (nm na nb nl nz : Nat) (one oth : List Str) (line : List (Nat × Nat)) (t u : Tok) (z : Tok × Addr) (eV : Value)
    (Q : Flow → Shared → Prop) (E : Value → Shared → Prop)
    (B : Below A₀ base outer g) (X : (K w.params).In g) (T : Top Mine.q (looseW Mine.q loose) mean mg mb g) (hdp : dp + 12 < recursionLimit) (hu : un + 100 < cLine)
    (F : Fr g L h m₁) (N : News g L h ((I, it) :: (lA, listOf vl.toArray nl) :: (sA, listOf vz.toArray nz) :: tl))
    (hnI1 : @Ne Nat lA I) (hnI2 : @Ne Nat sA I) (hnls : @Ne Nat lA sA) (hoff : ∀ p ∈ tl, p.1 ≠ I) (hl1 : ∀ p ∈ tl, p.1 ≠ lA) (hs1 : ∀ p ∈ tl, p.1 ≠ sA)
    (hcst : Cst [(PySem.Str.ofString "points", .ref pA), (PySem.Str.ofString "one", .ref oA), (PySem.Str.ofString "other", .ref hA), (PySem.Str.ofString "line", .ref lA), (PySem.Str.ofString "sizes", .ref sA)] m₁) (hend : m₁ (PySem.Str.ofString "end") = some eV)
    (hN₀ : ∀ p ∈ N₀, p ∈ tl) (hoA : (oA, listOf va.toArray na) ∈ tl) (hhA : (hA, listOf vb.toArray nb) ∈ tl) (sa : StrsAre va one) (sb : StrsAre vb oth) (hla : one.length < 1000) (hlb : oth.length < 1000)
    (hmA : (mA, listOf vm.toArray nm) ∈ tl) (hM : (a, mtObj (one.length : Int) (oth.length : Int) ((0 : Nat) : Int) t u z) ∈ tl) (hMr : r = []) (hT : All2 (T2 (gP b) tl) vl line) (hI : IntsAre vz (List.replicate line.length 1))
    (hlen : vl.length + (r.length + 1) < 1000)
    (hE : PassesOwn (model rw_wn0126_01.row.prog w) (ktrTop dp un gd lnN lineS L 270 (.ref 269) [] outer) (envOf lnN lineS L 270 (.ref 269)) E),
   wpAny (model rw_wn0126_01.row.prog w) (ktrTop dp un gd lnN lineS L 270 (.ref 269) [] outer) (assign ln5T (envOf lnN lineS L 270 (.ref 269)) (.ref a)) (fun _ s₂ => wpAny (model rw_wn0126_01.row.prog w) (ktrTop dp un gd lnN lineS L 270 (.ref 269) [] outer) (execs ln5 (envOf lnN lineS L 270 (.ref 269)))
       (UnrPostW g L { s with heap := h, toks := tk } [(I, it)] (fun m' tl' => (mA, listOf vm.toArray nm) ∈ tl' ∧ L5P N₀ [(PySem.Str.ofString "points", .ref pA), (PySem.Str.ofString "one", .ref oA), (PySem.Str.ofString "other", .ref hA), (PySem.Str.ofString "line", .ref lA), (PySem.Str.ofString "sizes", .ref sA)] b one oth lA sA line r m' tl') Q) E s₂) E { s with heap := h, toks := tk } := by
  k_with_none
  k_with "all" => first | with_reducible assumption | assumption | exact lt_ne (by assumption) | exact allLt_ne (by first | assumption | exact And.right (by assumption) | exact And.right (And.right (by assumption)) | exact And.right (And.right (And.right (by assumption))) | exact And.right (And.right (And.right (And.right (by assumption)))) | exact And.right (And.right (And.right (And.right (And.right (by assumption))))) | exact And.right (And.right (And.right (And.right (And.right (And.right (by assumption)))))) | exact And.right (And.right (And.right (And.right (And.right (And.right (And.right (by assumption))))))) )
  k_with "ne" => first | with_reducible assumption | exact Ne.symm (by with_reducible assumption) | (refine neN ?_; (try dsimp only); walk_at "om")
  k_with "UnrEndW" => refine Stop.mk ?_
  k_with "CompEnd" => (k_dflt (refine' comp_end1 (by k_asm) (by k_asm) (by first | (with_reducible assumption) | ((try simp only [LCg.Off3, and_true]); with_reducible assumption)) (by with_reducible assumption) (by exact Or.inr ⟨_, by k_mem, rfl, _, rfl⟩) ?_; k_whole); (try dsimp only [List.nil_append, List.cons_append]))
  k_with "assign Tuple" => ((with_reducible show wpAny _ _ (assign (Expr.Tuple _ _ _) _ (Value.ref _)) _ _ _); k_dflt (refine' lf_assignM (by exact rfl) (by k_asm) (by k_asm) (by k_asm) (by k_mem) (by exact rfl) (by exact rfl) ?_; k_whole); intro _ _ _)
  k_with "subscriptTail Name Slice ref ref" => (k_here; (with_reducible show wpAny _ _ (subscriptTail _ (PySem.Expr.Slice _ _ none _) (Value.ref _) (Value.ref _)) _ _ _); k_dflt (refine' kms_slice_lit (by k_asm) (by k_asm) (by kmk_list) (by kmk_part) (by kmk_part) (by first | exact pick_one (by assumption) | exact pick_none) ?_ (by with_unfolding_all rfl) (by kmk_pure) (by (rw [List.size_toArray, sizeLine_eq]; walk_at "om"))); intro _ _ _ _ l1; (try k_lt l1); (revert l1; intro _))
  k_with "call builtin:list.extend" => (k_here; k_dflt (refine' lf_extend (ws := [_]) (by k_asm) (by k_asm) (by exact List.Mem.head _) (by k_updF) (by (simp only [List.length_cons, List.length_nil]; walk_at "om")) ?_; k_whole); intro _ _ _ N'; (try dsimp only at N'); (revert N'; intro _))
  k_with "compareOp NotEq ref ref" => (k_here; k_dflt (first | (refine' lf_neSame (vs := [_]) (ws := [_]) (by k_asm) (by k_mem) (by k_mem) (DatAll.cons (DatIn.str _ _) DatAll.nil) (DatAll.cons (DatIn.str _ _) DatAll.nil) (by (intro d hd; rw [List.mem_singleton.mp hd]; assumption)) (by ktr_units) ?_; k_whole) | (refine' lf_neSame (vs := []) (ws := []) (by k_asm) (by k_mem) (by k_mem) DatAll.nil DatAll.nil (by exact (fun _ h => nomatch h)) (by ktr_units) ?_; k_whole)))
  k_with "call ref" => (k_here; (with_reducible show wpAny _ _ (call (Value.ref _) [Value.str _ _]) _ _ _); k_dflt (refine' read_tells' _ _ _ _ _ _ _ _ _ _ _ _ _ _ _ _ _ _ _ _ _ _ (by with_reducible assumption) (by k_asm)  (by k_asm) (by k_asm) (by k_asm) (by k_asm) (by rfl) (by walk_at "om") (by walk_at "om") (by ktr_room) (by ktr_units) ?_; k_whole); intro _ _ _ _ _ _ _ _ l1; (have l2 := l1); (try k_lt l1); (revert l2 l1; intro _ _))
  k_with "call builtin:list.extend" => (k_here; k_dflt (refine' lf_extend (ws := []) (by k_asm) (by k_asm) (by exact List.Mem.head _) (by k_updF) (by (simp only [List.length_cons, List.length_nil]; walk_at "om")) ?_; k_whole); intro _ _ _ N'; (try dsimp only at N'); (revert N'; intro _))
  k_fill
  intro w mean mg mb dp un gd outer A₀ base g L m₁ tl N₀ s h tk I pA oA hA lA sA mA b a it r vm va vb vl vz nm na nb nl nz one oth line t u z eV Q E B X T hdp hu F N hnI1 hnI2 hnls hoff hl1 hs1 hcst hend hN₀ hoA hhA sa sb hla hlb hmA hM hMr hT hI hlen hE
  have F := fr_ov _ hcst F
  dsimp (instances := true) only [kstB] at F
  have hva := sa.length
  have hvb := sb.length
  have hvz : vz.length = line.length := by rw [hI.length, List.length_replicate]
  have hvl := hT.length
  subst hMr
  generalize hL1 : one.length = la at hM hva hla
  generalize hL2 : oth.length = lb at hM hvb hlb
  have hl1s : ∀ p ∈ (sA, listOf vz.toArray nz) :: tl, p.1 ≠ lA := fun p hp => by
    rcases List.mem_cons.mp hp with rfl | hp
    · exact Ne.symm hnls
    · exact hl1 p hp
  delta ln5T ln5
  dsimp only
  k_steps
  refine Stop.on ?_
  rw [List.push_toArray] at *
  refine' l_close2 (tl := tl) ?F ?N ?hI ?h1 ?h2 hnI1 hnI2 ?hs hl1 hs1 hoff ?hr
  case N => k_asm
  case F => k_asm
  case hI => k_mem
  case h1 => k_mem
  case h2 => k_mem
  case hs => (intro p hp; repeat (first | exact hp | apply List.mem_cons_of_mem))
  case hr =>
    intro hin key
    refine' ⟨.tail _ (.tail _ (hin _ hmA)), ?cst, [], line, true, _, _, _, _, _, _, rfl, fun p hp => offL_ne hp (by simp), fun p hp => offL_ne hp (by simp), fun p hp => hin p (hN₀ p hp), All2.nil, ?hT, ?hI, (by rw [List.map_nil, List.append_nil]), (fun _ h => nomatch h), ?hend, (fun _ => ⟨rfl, _, _, _, _, rfl, key _ (by subst hL1 hL2; k_mem) ?n1 ?n2 ?n3⟩), ?len⟩
    case n1 => (refine Nat.ne_of_gt ?_; dsimp only; walk_at "om")
    case n2 => (refine Nat.ne_of_gt ?_; dsimp only; walk_at "om")
    case n3 => (refine Nat.ne_of_gt ?_; dsimp only; walk_at "om")
    case cst => (repeat (first | exact cst_nil | refine cst_cons (by with_unfolding_all rfl) ?_ | exact List.forall_mem_nil _ | refine List.forall_mem_cons.mpr ⟨by with_unfolding_all rfl, ?_⟩))
    case hend => with_unfolding_all rfl
    case hT => (first | exact All2.mono (T2.mono hin) hT | (rw [List.append_nil] at hin ⊢; exact All2.mono (T2.mono hin) hT))
    case hI => exact ints_snoc hI
    case len => (simp only [List.length_append, List.length_cons, List.length_nil] at *; walk_at "om")
end
end
end Mine
end
theorem Mine.rs42 : True := by (k_with_none; trivial)
section
open PySem PySem.W PyProof.Rows Mine PySem.Calls PySem.Spec PySem.Challenge
set_option maxRecDepth 100000
namespace Mine
noncomputable def lnC : List Stmt := by
  refine (fun (l : List Stmt) (_ : List.drop 4 lineB = l) => l) ?x ?h
  case h => (conv => lhs; whnf)
theorem rep_flat {n : Nat} : (List.replicate (((n : Nat) : Int)).toNat [(1 : Int)]).flatten = List.replicate n 1 := by
  rw [Int.toNat_natCast]
  induction n with
  | zero => rfl
  | succ n ih => rw [List.replicate_succ, List.flatten_cons, ih]; rfl
end Mine
end
section
open PySem PySem.W PyProof.Rows Mine PySem.Calls PySem.Spec PySem.Challenge
set_option maxRecDepth 100000
namespace Mine
section
set_option maxHeartbeats 16000000 in
theorem ln_c : ∀ {w : World} {mean : ExcName → Option Value} {mg mb : Str → Option Value} (dp un : Nat) (gd : Option (List Code)) (outer : List Env) (A₀ : Around) (base g : Heap) (L : Addr) (m₁ : Str → Option Value) (tl : List (Addr × Obj)) (s : Shared)
   (pA oA hA b : Addr) (va vb : List Value) (na nb : Nat) (d : LineD) (pts : List Pt)
    (Q : Flow → Shared → Prop) (E : Value → Shared → Prop)
    (B : Below A₀ base outer g) (X : (K w.params).In g) (T : Top Mine.q (looseW Mine.q loose) mean mg mb g) (hdp : dp + 60 < recursionLimit) (hu : un + 400 < cLine)
    (F : Fr g L s.heap (kstB m₁ [(PySem.Str.ofString "points", .ref pA), (PySem.Str.ofString "one", .ref oA), (PySem.Str.ofString "other", .ref hA)])) (N : News g L s.heap tl)
    (hoA : (oA, listOf va.toArray na) ∈ tl) (hhA : (hA, listOf vb.toArray nb) ∈ tl) (sa : StrsAre va (oneT b d.s1)) (sb : StrsAre vb (othT b d.s2)) (hD : lineD pts = some d) (hok : ∀ p ∈ pts, OkP b p)
    (hret : ∀ S h' tk' m' tl' vs' n', Fr g L h' m' → News g L h' ((S, listOf vs'.toArray n') :: tl') → (∀ p ∈ tl, p ∈ tl') → (∀ p ∈ tl, p.1 < S) → All2 (T2 (gP b) tl') vs' (d.bp.map (·.2)) → Q (.ret (.ref S)) { s with heap := h', toks := tk' })
    (hE : PassesOwn (model rw_wn0126_01.row.prog w) (ktrTop dp un gd lnN lineS L 270 (.ref 269) [] outer) (envOf lnN lineS L 270 (.ref 269)) E),
   wpAny (model rw_wn0126_01.row.prog w) (ktrTop dp un gd lnN lineS L 270 (.ref 269) [] outer) (execs lnC (envOf lnN lineS L 270 (.ref 269))) Q E s := by
  k_with_none
  k_with "all" => first | with_reducible assumption | assumption | exact lt_ne (by assumption) | exact allLt_ne (by first | assumption | exact And.right (by assumption) | exact And.right (And.right (by assumption)) | exact And.right (And.right (And.right (by assumption))) | exact And.right (And.right (And.right (And.right (by assumption)))) | exact And.right (And.right (And.right (And.right (And.right (by assumption))))) | exact And.right (And.right (And.right (And.right (And.right (And.right (by assumption)))))) | exact And.right (And.right (And.right (And.right (And.right (And.right (And.right (by assumption))))))) )
  k_with "ne" => first | with_reducible assumption | exact Ne.symm (by with_reducible assumption) | (refine neN ?_; (try dsimp only); walk_at "om")
  k_with "call ref" => refine Stop.mk ?_
  k_with "pyIter ref" => refine Stop.mk ?_
  k_with "exec For Tuple Call nil nil" => walk_at "m2"
  k_with "exec For Tuple Name cons nil" => walk_at "m2"
  k_with "exec For Tuple Call cons nil" => walk_at "m2"
  k_with "call builtin:len" => (k_here; k_dflt (refine' lf_len (by k_asm) (by k_mem) (by assumption) (by walk_at "om") ?_; k_whole); (try dsimp only))
  k_fill
  intro w mean mg mb dp un gd outer A₀ base g L m₁ tl s pA oA hA b va vb na nb d pts Q E B X T hdp hu F N hoA hhA sa sb hD hok hret hE
  dsimp (instances := true) only [kstB] at F
  generalize hGz : wpAny _ _ _ _ _ _ = Gz
  obtain ⟨f1, f2, f3, f4, f5, f6, f7, f8, f9, f10, f11, f12⟩ := lineD_facts hD
  subst hGz
  have ok1 : ∀ p ∈ d.s1, OkP b p := fun p hp => hok p (srtO_mem f1 p hp)
  have ok2 : ∀ p ∈ d.s2, OkP b p := fun p hp => hok p (srtO_mem f2 p hp)
  have l1 := one_len (b := b) (s1 := d.s1)
  have l2 : (othT b d.s2).length = d.s2.length := List.length_map _
  obtain ⟨hb1, hb2⟩ := blk_of f5
  delta lnC
  dsimp only
  k_steps
  refine Stop.on ?_
  rename_i lA hz1 hzl1 hz2 hz3 sA hz4 hzl2 hz5 hz6 eA hz7 hzl3 hz8 Fz Nz
  have hpsA : ∀ p ∈ tl, p.1 ≠ lA := fun p hp => Nat.ne_of_lt (hzl1 p hp)
  have hpsS : ∀ p ∈ tl, p.1 ≠ sA := fun p hp => Nat.ne_of_lt (allLt_lt hzl2.2 p hp)
  have hls : @Ne Nat lA sA := Nat.ne_of_lt hzl2.1
  refine' sm_tells dp un gd lnN lineS 270 (.ref 269) [] outer _ _ g L _ _ _ oA hA (oneT b d.s1) (othT b d.s2) va vb na nb _ _ ?B ?F ?X ?N ?T rfl ?hoA ?hhA sb (oth_nodup ok2 f7) (by walk_at "om") sa (by walk_at "om") (one_adj ok1 ok2) (by walk_at "om") (by walk_at "om") ?ret
  case B => k_asm
  case F => k_asm
  case X => k_asm
  case N => k_asm
  case T => k_asm
  case hoA => k_mem
  case hhA => k_mem
  case ret =>
    intro x dx jA dA t1 t2 t3 t4 t5 t6 t7 t8 t9 t10 st oB kvs poV h3 tk3 tl3 F3 N3 hdx3 hx3 hj3 H3 hs3 hlt3
    k_steps
    refine Stop.on ?_
    have e1 : (oneT b d.s1).length = (psM d.s1 d.s2).length := by rw [l1, ps_len]
    have hgq : gq (posOf (othT b d.s2)) (oneT b d.s1) 40 [(0, (oneT b d.s1).length, 0, (othT b d.s2).length)] [] = some d.bs := by rw [gq_of, ps_of ok2 ok1, e1, l2]; exact f3
    refine gmb_tells dp un gd lnN lineS 270 (.ref 269) [] outer _ _ g L _ tl3 _ x dx jA 0 st t1 t2 t3 t4 t5 t6 t7 t8 t9 t10 .none .none poV oA hA dA (posOf (othT b d.s2)) (oneT b d.s1) (othT b d.s2) va vb na nb oB kvs d.bs d.bs' _ _ _ B F3 X N3 hdx3 T rfl hx3 hj3 H3 hgq f4 rfl f10 f11 (by walk_at "om") (by walk_at "om") ?ret
    case ret =>
      intro S h4 tk4 tl4 vs4 n4 F4 N4 hs4 hlt4 hM4 hl4
      have hM4 : All2 (M3Is tl4) vs4 (d.bp.map blk ++ [((oneT b d.s1).length, (othT b d.s2).length, 0)]) := by rw [← hb1]; exact hM4
      have hin4 : ∀ p ∈ (eA, _) :: (sA, _) :: (lA, _) :: tl, p ∈ tl4 := fun p hp => hs4 p (hs3 p hp)
      k_steps
      refine Stop.on ?_
      have hSl : @Ne Nat S lA := Nat.ne_of_gt (hlt4 _ (hs3 _ (.tail _ (.tail _ (.head _)))))
      have hSs : @Ne Nat S sA := Nat.ne_of_gt (hlt4 _ (hs3 _ (.tail _ (.head _))))
      have N5 : News g L h4 ((lA, listOf ([] : List Value).toArray 0) :: (sA, listOf ([] : List Value).toArray 0) :: offL [lA, sA] ((S, listOf vs4.toArray n4) :: tl4)) := fun p hp => by
        rcases List.mem_cons.mp hp with rfl | hp
        · exact N4 _ (.tail _ (hin4 _ (.tail _ (.tail _ (.head _)))))
        · rcases List.mem_cons.mp hp with rfl | hp
          · exact N4 _ (.tail _ (hin4 _ (.tail _ (.head _))))
          · exact N4 _ (offL_sub hp)
      have hoff4 : ∀ p ∈ (S, listOf vs4.toArray n4) :: tl4, @Ne Nat p.1 lA → @Ne Nat p.1 sA → p ∈ offL [lA, sA] ((S, listOf vs4.toArray n4) :: tl4) := fun p hp a c => offL_mem hp fun d hd => by
        rcases List.mem_cons.mp hd with rfl | hd
        · exact a
        · rw [List.mem_singleton.mp hd]; exact c
      have hM5 : All2 (M3Is (offL [lA, sA] ((S, listOf vs4.toArray n4) :: tl4))) vs4 (d.bp.map blk ++ [((oneT b d.s1).length, (othT b d.s2).length, 0)]) := All2.mono (fun v y q => by
        obtain ⟨a, y1, y2, y3, u1, u2, z, e, hm, r⟩ := q
        refine ⟨a, y1, y2, y3, u1, u2, z, e, hoff4 _ (.tail _ hm) (fun e => ?_) (fun e => ?_), r⟩
        · have e' : a = lA := e
          subst e'
          have := Option.some.inj ((N4 _ (.tail _ hm)).1.symm.trans (N4 _ (.tail _ (hin4 _ (.tail _ (.tail _ (.head _)))))).1)
          exact absurd (congrArg Obj.cls this) (by simp)
        · have e' : a = sA := e
          subst e'
          have := Option.some.inj ((N4 _ (.tail _ hm)).1.symm.trans (N4 _ (.tail _ (hin4 _ (.tail _ (.head _))))).1)
          exact absurd (congrArg Obj.cls this) (by simp)) hM4
      refine list_at (h₀ := g) (L5P tl [(PySem.Str.ofString "points", .ref pA), (PySem.Str.ofString "one", .ref oA), (PySem.Str.ofString "other", .ref hA), (PySem.Str.ofString "line", .ref lA), (PySem.Str.ofString "sizes", .ref sA)] b (oneT b d.s1) (othT b d.s2) lA sA (d.bp.map (·.2))) rfl F4 N5 (.tail _ (.tail _ (hoff4 _ (.head _) hSl hSs))) ?h0 ?turn ?done
      case h0 =>
        refine' ⟨?cst, d.bp, [], false, [], [], 0, 0, _, _, rfl, fun p hp => offL_ne hp (by simp), fun p hp => offL_ne hp (by simp), fun p hp => hoff4 _ (.tail _ (hin4 _ (.tail _ (.tail _ (.tail _ hp))))) (hpsA p hp) (hpsS p hp), hM5, All2.nil, .nil, rfl, ?hbp, ?hend, (fun h => nomatch h), ?len⟩
        case cst => (repeat (first | exact cst_nil | refine cst_cons (by with_unfolding_all rfl) ?_ | exact List.forall_mem_nil _ | refine List.forall_mem_cons.mpr ⟨by with_unfolding_all rfl, ?_⟩))
        case hbp => exact fun q hq => blk_tx ok1 ok2 (hb2 q hq).1 (hb2 q hq).2
        case hend => with_unfolding_all rfl
        case len => rw [List.length_nil]; have := All2.length hM5; walk_at "om"
      case turn =>
        intro I v r m tl' it h5 tk5 hI hP hlm hoff F5 N5'
        obtain ⟨hcst, bp, acc, fin, vl, vz, nl, nz, eV, tl6, rfl, hn1, hn2, hN0, hMM, hTT, hII, hres, hbp, hend, hfin, hlen⟩ := hP
        have hmA : (S, listOf vs4.toArray n4) ∈ tl6 := by
          rcases List.mem_cons.mp hlm with e | e
          · exact absurd (congrArg Prod.fst e) hSl
          · rcases List.mem_cons.mp e with e | e
            · exact absurd (congrArg Prod.fst e) hSs
            · exact e
        have o1 : @Ne Nat lA I := hoff _ (.head _)
        have o2 : @Ne Nat sA I := hoff _ (.tail _ (.head _))
        have o3 : ∀ p ∈ tl6, p.1 ≠ I := fun p hp => hoff p (.tail _ (.tail _ hp))
        cases fin with
        | true => exact absurd (All2.length hMM) (by simp)
        | false =>
          rw [if_neg (by decide)] at hMM hII
          rw [List.append_nil] at hII
          match bp, hMM, hres, hbp with
          | [], hMM, hres, hbp =>
            have hr : r = [] := by
              have := All2.length hMM
              simp at this
              exact List.eq_nil_of_length_eq_zero (by simpa using this)
            generalize hGz : wpAny _ _ _ _ _ _ = Gz
            obtain ⟨⟨a, y1, y2, y3, u1, u2, z, rfl, hm, rfl, rfl, rfl⟩, _⟩ := hMM
            subst hGz
            rw [List.map_nil, List.append_nil] at hres
            subst hres
            exact ln5_turn0 dp un gd outer A₀ base g L m tl6 tl _ h5 tk5 I pA oA hA lA sA S b a it r vs4 va vb vl vz n4 na nb nl nz (oneT b d.s1) (othT b d.s2) _ u1 u2 z eV _ E B X T (by walk_at "om") (by walk_at "om") F5 N5' o1 o2 hls o3 hn1 hn2 hcst hend hN0 (hN0 _ hoA) (hN0 _ hhA) sa sb (by walk_at "om") (by walk_at "om") hmA hm hr hTT hII hlen hE
          | q :: bp, hMM, hres, hbp =>
            generalize hGz : wpAny _ _ _ _ _ _ = Gz
            obtain ⟨⟨a, y1, y2, y3, u1, u2, z, rfl, hm, rfl, rfl, rfl⟩, hMM2⟩ := hMM
            obtain ⟨q1, q2, q3⟩ := hbp q (.head _)
            subst hGz
            exact ln5_turn1 dp un gd outer A₀ base g L m tl6 tl _ h5 tk5 I pA oA hA lA sA S b a it r vs4 va vb vl vz n4 na nb nl nz (oneT b d.s1) (othT b d.s2) _ acc q.1.1 q.1.2 q.2 bp u1 u2 z eV _ E B X T (by walk_at "om") (by walk_at "om") F5 N5' o1 o2 hls o3 hn1 hn2 hcst hend hN0 (hN0 _ hoA) (hN0 _ hhA) sa sb (by walk_at "om") (by walk_at "om") hmA hm hMM2 hTT hII hres q1 q2 q3 (fun q hq => hbp q (.tail _ hq)) hlen hE
      case done =>
        intro m tl' h5 tk5 hP F5 N5'
        obtain ⟨hcst, bp, acc, fin, vl, vz, nl, nz, eV, tl6, rfl, hn1, hn2, hN0, hMM, hTT, hII, hres, hbp, hend, hfin, hlen⟩ := hP
        cases fin with
        | false =>
          rw [if_neg (by decide)] at hMM
          exact absurd (All2.length hMM) (by simp)
        | true =>
          generalize hGz : wpAny _ _ _ _ _ _ = Gz
          obtain ⟨rfl, e, u1, u2, ne, rfl, hem⟩ := hfin rfl
          subst hGz
          rw [List.map_nil, List.append_nil] at hres
          subst hres
          rw [if_pos rfl] at hII
          have F6 := fr_ov [(PySem.Str.ofString "points", .ref pA), (PySem.Str.ofString "one", .ref oA), (PySem.Str.ofString "other", .ref hA), (PySem.Str.ofString "line", .ref lA), (PySem.Str.ofString "sizes", .ref sA), (PySem.Str.ofString "end", .ref e)] (by
            intro p hp
            rcases List.mem_append.mp (show p ∈ [(PySem.Str.ofString "points", Value.ref pA), (PySem.Str.ofString "one", .ref oA), (PySem.Str.ofString "other", .ref hA), (PySem.Str.ofString "line", .ref lA), (PySem.Str.ofString "sizes", .ref sA)] ++ [(PySem.Str.ofString "end", .ref e)] from hp) with hp | hp
            · exact hcst p hp
            · rw [List.mem_singleton.mp hp]; exact hend) F5
          dsimp (instances := true) only [kstB] at F6
          dsimp only
          clear F5 F4
          have hoA6 := hN0 _ hoA
          have hhA6 := hN0 _ hhA
          have hva := sa.length
          have hvb := sb.length
          have hvl := hTT.length
          generalize hL1 : (oneT b d.s1).length = la at *
          generalize hL2 : (othT b d.s2).length = lb at *
          k_steps
          all_goals first
            | (exfalso; refine absurd ?_ (by assumption : ¬ (List.replicate (List.map _ _).length (1 : Int) ++ [0] = _)); rw [rep_flat]; done)
            | (exfalso; simp at *; done)
            | (refine hret lA _ _ _ tl6 _ _ (by k_asm) (fun p hp => (by k_asm : News g L _ _) p (by rcases List.mem_cons.mp hp with rfl | hp <;> (repeat (first | exact .head _ | exact hp | apply List.mem_cons_of_mem)))) hN0 hzl1 hTT)
          trace_state
end
end Mine
end
theorem Mine.rs43 : True := by (k_with_none; trivial)
section
open PySem PySem.W PyProof.Rows Mine PySem.Calls PySem.Spec PySem.Challenge
set_option maxRecDepth 100000
namespace Mine
noncomputable def lnBs : List Stmt := by
  refine (fun (l : List Stmt) (_ : List.drop 2 lineB = l) => l) ?x ?h
  case h => (conv => lhs; whnf)
/-- the comprehension that turns the pairs about -/
inductive PrJ (N₀ : List (Addr × Obj)) (b : Nat) (pts : List Pt) (r ys : List Value) (nw : List (Addr × Obj)) : Prop
  | mk : ∀ xs acc : List Pt, (All2 (T2 (gP b) nw) r xs) → (All2 (T2 (gN b) nw) ys acc) → (acc ++ xs = pts ∧ ∀ p ∈ N₀, p ∈ nw) → PrJ N₀ b pts r ys nw
theorem flat_one {b : Nat} : ∀ s2 : List Pt, (s2.flatMap fun p => [tx b p]) = othT b s2
  | [] => rfl
  | p :: s2 => by rw [List.flatMap_cons, flat_one s2]; rfl
theorem t2_off {g : Nat × Nat → Int × Int} {g₀ h : Heap} {L D : Addr} {all led : List (Addr × Obj)} {o : Obj} {vs : List Value} {xs : List Pt} (N : News g₀ L h all) (hD : (D, o) ∈ all) (c : o.cls ≠ .type "tuple") (hs : ∀ p ∈ led, p ∈ all) (h2 : All2 (T2 g led) vs xs) : All2 (T2 g (offD D led)) vs xs :=
  All2.mono (fun v x q => by
    obtain ⟨a, n, t, u, e, hm⟩ := q
    refine ⟨a, n, t, u, e, offD_mem hm fun e => ?_⟩
    have e' : a = D := e
    subst e'
    exact c (congrArg Obj.cls (Option.some.inj ((N _ (hs _ hm)).1.symm.trans (N _ hD).1))).symm) h2
theorem hgN (b : Nat) (x y : Pt) : ltN x y = if (gN b x).1 = (gN b y).1 then decide ((gN b x).2 < (gN b y).2) else decide ((gN b x).1 < (gN b y).1) := by
  unfold ltN
  by_cases h : x.2 = y.2
  · have h' : (gN b x).1 = (gN b y).1 := by dsimp only; walk_at "om"
    rw [if_pos h, if_pos h']
    by_cases k : x.1 < y.1
    · rw [decide_eq_true k, decide_eq_true (by dsimp only; walk_at "om")]
    · rw [decide_eq_false k, decide_eq_false (by dsimp only; walk_at "om")]
  · have h' : ¬ (gN b x).1 = (gN b y).1 := by dsimp only; walk_at "om"
    rw [if_neg h, if_neg h']
    by_cases k : y.2 < x.2
    · rw [decide_eq_true k, decide_eq_true (by dsimp only; walk_at "om")]
    · rw [decide_eq_false k, decide_eq_false (by dsimp only; walk_at "om")]
theorem hgP (b : Nat) (x y : Pt) : ltP x y = if (gP b x).1 = (gP b y).1 then decide ((gP b x).2 < (gP b y).2) else decide ((gP b x).1 < (gP b y).1) := by
  unfold ltP
  by_cases h : x.1 = y.1
  · have h' : (gP b x).1 = (gP b y).1 := by dsimp only; walk_at "om"
    rw [if_pos h, if_pos h']
    by_cases k : x.2 < y.2
    · rw [decide_eq_true k, decide_eq_true (by dsimp only; walk_at "om")]
    · rw [decide_eq_false k, decide_eq_false (by dsimp only; walk_at "om")]
  · have h' : ¬ (gP b x).1 = (gP b y).1 := by dsimp only; walk_at "om"
    rw [if_neg h, if_neg h']
    by_cases k : x.1 < y.1
    · rw [decide_eq_true k, decide_eq_true (by dsimp only; walk_at "om")]
    · rw [decide_eq_false k, decide_eq_false (by dsimp only; walk_at "om")]
end Mine
end
section
open PySem PySem.W PyProof.Rows Mine PySem.Calls PySem.Spec PySem.Challenge
set_option maxRecDepth 100000
namespace Mine
section
set_option maxHeartbeats 16000000 in
theorem ln_b : ∀ {w : World} {mean : ExcName → Option Value} {mg mb : Str → Option Value} (dp un : Nat) (gd : Option (List Code)) (outer : List Env) (A₀ : Around) (base g : Heap) (L : Addr) (m₁ : Str → Option Value) (tl : List (Addr × Obj)) (s : Shared)
   (pA oA b : Addr) (va vp : List Value) (na np : Nat) (d : LineD) (pts : List Pt)
    (Q : Flow → Shared → Prop) (E : Value → Shared → Prop)
    (B : Below A₀ base outer g) (X : (K w.params).In g) (T : Top Mine.q (looseW Mine.q loose) mean mg mb g) (hdp : dp + 60 < recursionLimit) (hu : un + 400 < cLine)
    (F : Fr g L s.heap (kstB m₁ [(PySem.Str.ofString "points", .ref pA), (PySem.Str.ofString "one", .ref oA)])) (N : News g L s.heap tl)
    (hoA : (oA, listOf va.toArray na) ∈ tl) (hpA : (pA, listOf vp.toArray np) ∈ tl) (hT : All2 (T2 (gP b) tl) vp pts) (sa : StrsAre va (oneT b d.s1)) (hD : lineD pts = some d) (hok : ∀ p ∈ pts, OkP b p)
    (hret : ∀ S h' tk' m' tl' vs' n', Fr g L h' m' → News g L h' ((S, listOf vs'.toArray n') :: tl') → (∀ p ∈ tl, p ∈ tl') → (∀ p ∈ tl, p.1 < S) → All2 (T2 (gP b) tl') vs' (d.bp.map (·.2)) → Q (.ret (.ref S)) { s with heap := h', toks := tk' })
    (hE : PassesOwn (model rw_wn0126_01.row.prog w) (ktrTop dp un gd lnN lineS L 270 (.ref 269) [] outer) (envOf lnN lineS L 270 (.ref 269)) E),
   wpAny (model rw_wn0126_01.row.prog w) (ktrTop dp un gd lnN lineS L 270 (.ref 269) [] outer) (execs lnBs (envOf lnN lineS L 270 (.ref 269))) Q E s := by
  k_with_none
  k_with "all" => first | with_reducible assumption | assumption | exact lt_ne (by assumption) | exact allLt_ne (by first | assumption | exact And.right (by assumption) | exact And.right (And.right (by assumption)) | exact And.right (And.right (And.right (by assumption))) | exact And.right (And.right (And.right (And.right (by assumption)))) | exact And.right (And.right (And.right (And.right (And.right (by assumption))))) | exact And.right (And.right (And.right (And.right (And.right (And.right (by assumption)))))) | exact And.right (And.right (And.right (And.right (And.right (And.right (And.right (by assumption))))))) )
  k_with "ne" => first | with_reducible assumption | exact Ne.symm (by with_reducible assumption) | (refine neN ?_; (try dsimp only); walk_at "om")
  k_with "pyIter ref" => refine Stop.mk ?_
  k_with "SrcLP" => refine Stop.mk ?_
  k_with "CompEnd" => refine Stop.mk ?_
  k_with "FinE" => refine Stop.mk ?_
  k_with "call builtin:sorted" => refine Stop.mk ?_
  k_with "exec For Tuple Call cons nil" => walk_at "m2"
  k_fill
  intro w mean mg mb dp un gd outer A₀ base g L m₁ tl s pA oA b va vp na np d pts Q E B X T hdp hu F N hoA hpA hT sa hD hok hret hE
  dsimp (instances := true) only [kstB] at F
  generalize hGz : wpAny _ _ _ _ _ _ = Gz
  obtain ⟨f1, f2, f3, f4, f5, f6, f7, f8, f9, f10, f11, f12⟩ := lineD_facts hD
  subst hGz
  have ok2 : ∀ p ∈ d.s2, OkP b p := fun p hp => hok p (srtO_mem f2 p hp)
  have hvp := hT.length
  delta lnBs
  dsimp only
  k_steps
  refine Stop.on ?_
  rename_i hA hz1 hltA hz2 Fz Nz
  have hneA : ∀ p ∈ tl, p.1 ≠ hA := fun p hp => Nat.ne_of_lt (hltA p hp)
  refine LCp.SrcLP.ledger (its := vp.toArray) (k := np) rfl (by k_asm) (by k_asm) (by k_mem) (by rw [List.size_toArray, sizeLine_eq]; walk_at "om") fun g' => ?_
  rw [List.size_toArray]
  refine compP_ind (vs := vp) (PrJ ((hA, listOf ([] : List Value).toArray 0) :: tl) b pts) ?turn ?done vp [] [] _ rfl ?h0
  case h0 => exact ⟨pts, [], All2.mono (T2.mono fun p hp => .tail _ hp) hT, All2.nil, rfl, fun p hp => hp⟩
  case turn =>
    intro v r ys nw hJ
    obtain ⟨xs, acc, hx, hy, he, hs⟩ := hJ
    match xs, hx with
    | y :: xs, hx2 =>
      obtain ⟨⟨aT, nT, u1, u2, rfl, haT⟩, hx3⟩ := hx2
      refine ⟨_, _, _, _, _, rfl, haT, rfl, rfl, ?_⟩
      intro I' oI' C' oC' D' m' h' tk' E' hC' hx' hy' F' N' off' ne'
      k_steps
      refine Stop.on ?_
      refine' comp_end1 ?F ?N off' ?hx ?S ?r
      case F => k_asm
      case N => k_asm
      case hx => exact lt_three (by assumption)
      case S => exact Or.inr ⟨_, .tail _ (hs _ (.tail _ hpA)), rfl, _, rfl⟩
      case r => exact ⟨xs, acc ++ [y], All2.mono (T2.mono fun p hp => .tail _ hp) hx3, All2.append (All2.mono (T2.mono fun p hp => .tail _ hp) hy) (All2.cons ⟨_, _, _, _, rfl, .head _⟩ All2.nil), (by rw [List.append_assoc]; exact he), fun p hp => .tail _ (hs p hp)⟩
  case done =>
    intro ys nw hJ
    obtain ⟨xs, acc, hx, hy, he, hs⟩ := hJ
    match xs, hx, he with
    | [], _, he =>
      rw [List.append_nil] at he
      subst he
      clear Fz Nz
      unfold LCg.FinE
      intro D6 h6 tk6 F6 N6 o6
      dsimp only
      k_steps
      refine Stop.on ?_
      refine so_sorted2 (g := gN b) (lt := ltN) (xs := acc) (ys := d.s2) F6 N6 (.head _) (All2.mono (T2.mono fun p hp => .tail _ hp) hy) (by rw [hy.length]; walk_at "om") f2 (hgN b) fun D7 h7 c7 tk7 vs7 F7 N7 hlt7 hR7 => ?_
      k_steps
      refine Stop.on ?_
      have hm7 : (hA, listOf ([] : List Value).toArray 0) ∈ (D7, listOf vs7.toArray c7) :: (D6, LCg.lst ys) :: nw := .tail _ (.tail _ (hs _ (.head _)))
      have N8 : News g L h7 ((hA, listOf ([] : List Value).toArray 0) :: offD hA ((D7, listOf vs7.toArray c7) :: (D6, LCg.lst ys) :: nw)) := fun p hp => by
        rcases List.mem_cons.mp hp with rfl | hp
        · exact N7 _ hm7
        · exact N7 _ (offD_sub hp)
      have hDA : @Ne Nat D7 hA := Nat.ne_of_gt (hlt7 _ (.tail _ (hs _ (.head _))))
      have hin : ∀ p ∈ tl, p ∈ offD hA ((D7, listOf vs7.toArray c7) :: (D6, LCg.lst ys) :: nw) := fun p hp => offD_mem (.tail _ (.tail _ (hs _ (.tail _ hp)))) (hneA p hp)
      have hR8 : All2 (T2 (gN b) (offD hA ((D7, listOf vs7.toArray c7) :: (D6, LCg.lst ys) :: nw))) vs7 d.s2 := t2_off N7 hm7 (by simp) (fun p hp => hp) (All2.mono (T2.mono fun p hp => .tail _ hp) hR7)
      have hl7 := hR7.length
      have hla := sa.length
      refine list_at (h₀ := g) (L1P tl [(PySem.Str.ofString "points", .ref pA), (PySem.Str.ofString "one", .ref oA), (PySem.Str.ofString "other", .ref hA)] (gN b) b hA (fun p => [tx b p]) (othT b d.s2)) rfl F7 N8 (.tail _ (offD_mem (.head _) hDA)) ?h0 ?turn ?done
      case h0 =>
        refine' ⟨?cst, d.s2, [], [], 0, _, rfl, fun p hp => offD_ne hp, hin, hR8, .nil, flat_one _, ok2, ?len⟩
        case cst => (repeat (first | exact cst_nil | refine cst_cons (by with_unfolding_all rfl) ?_ | exact List.forall_mem_nil _ | refine List.forall_mem_cons.mpr ⟨by with_unfolding_all rfl, ?_⟩))
        case len => rw [List.length_nil]; walk_at "om"
      case turn =>
        intro I v r m tl' it h5 tk5 hI hP hlm hoff F5 N5
        exact ln3_turn dp un gd outer A₀ base g L m tl' tl _ h5 tk5 I pA oA hA D7 b it v r vs7 c7 _ _ E B X T (by walk_at "om") (by walk_at "om") F5 N5 hoff hlm (Ne.symm hDA) hP hE
      case done =>
        intro m tl' h5 tk5 hP F5 N5
        obtain ⟨hcst, xs, ac2, vo, no, tl9, rfl, hn1, hsub, hT9, hS9, hres, hok9, hlen9⟩ := hP
        match xs, hT9, hres with
        | [], _, hres =>
          rw [List.flatMap_nil, List.append_nil] at hres
          have F6 := fr_ov _ hcst F5
          exact ln_c dp un gd outer A₀ base g L m ((hA, listOf vo.toArray no) :: tl9) _ pA oA hA b va vo na no d acc Q E B X T hdp hu F6 N5 (.tail _ (hsub _ hoA)) (.head _) sa (hres ▸ hS9) hD hok (fun S h' tk' m' tl' vs' n' F8 N8 a1 a2 a3 => hret S h' tk' m' tl' vs' n' F8 N8 (fun p hp => a1 p (.tail _ (hsub p hp))) (fun p hp => a2 p (.tail _ (hsub p hp))) a3) hE
end
end Mine
end
theorem Mine.rs44 : True := by (k_with_none; trivial)
section
open PySem PySem.W PyProof.Rows Mine PySem.Calls PySem.Spec PySem.Challenge
set_option maxRecDepth 100000
namespace Mine
end Mine
end
section
open PySem PySem.W PyProof.Rows Mine PySem.Calls PySem.Spec PySem.Challenge
set_option maxRecDepth 100000
namespace Mine
section
set_option maxHeartbeats 16000000 in
theorem line_tells : ∀ {w : World} {mean : ExcName → Option Value} {mg mb : Str → Option Value}
   (dp un : Nat) (gd : Option (List Code)) (cn : Str) (cs : Scope) (a : Addr) (ccd : Value) (cl : List (Str × Addr)) (outer : List Env) (A₀ : Around) (base h₀ : Heap) (L : Addr) (m : Str → Option Value) (tl : List (Addr × Obj)) (s : Shared)
   (pA b np : Nat) (vp : List Value) (pts line : List Pt)
    (Q E : Value → Shared → Prop)
    (B : Below A₀ base outer h₀) (F : Fr h₀ L s.heap m) (X : (K w.params).In h₀) (N : News h₀ L s.heap tl)
    (T : Top q (looseW q loose) mean mg mb h₀) (hk : cs.kind = .function)
    (hpA : (pA, listOf vp.toArray np) ∈ tl) (hT : All2 (T2 (gP b) tl) vp pts) (hD : lineM2 pts = some line) (hok : ∀ p ∈ pts, OkP b p)
    (hdp : dp + 70 < recursionLimit) (hu : un + 500 < cLine)
    (hret : ∀ S h' tk' tl' vs' n', Fr h₀ L h' m → News h₀ L h' ((S, listOf vs'.toArray n') :: tl') → (∀ p ∈ tl, p ∈ tl') → (∀ p ∈ tl, p.1 < S) → All2 (T2 (gP b) tl') vs' line → Q (.ref S) { s with heap := h', toks := tk' }),
    wpAny (model rw_wn0126_01.row.prog w) (ktrTop dp un gd cn cs L a ccd cl outer) (call (.ref 270) [.ref pA]) Q E s := by
  k_with_none
  k_with "all" => first | with_reducible assumption | assumption | exact lt_ne (by assumption) | exact allLt_ne (by first | assumption | exact And.right (by assumption) | exact And.right (And.right (by assumption)) | exact And.right (And.right (And.right (by assumption))) )
  k_with "ne" => first | with_reducible assumption | exact Ne.symm (by with_reducible assumption) | (refine neN ?_; (try dsimp only); walk_at "om")
  k_with "unf" => walk_at "m0"
  k_with "pyIter ref" => refine Stop.mk ?_
  k_with "call builtin:sorted" => refine Stop.mk ?_
  k_with "exec For Tuple Call cons nil" => walk_at "m2"
  k_fill
  intro w mean mg mb dp un gd cn cs a ccd cl outer A₀ base h₀ L m tl s pA b np vp pts line Q E B F X N T hk hpA hT hD hok hdp hu hret
  generalize hGz : wpAny _ _ _ _ _ _ = Gz
  obtain ⟨d, hd, he⟩ := Option.map_eq_some_iff.mp hD
  obtain ⟨f1, f2, f3, f4, f5, f6, f7, f8, f9, f10, f11, f12⟩ := lineD_facts hd
  subst hGz
  have ok1 : ∀ p ∈ d.s1, OkP b p := fun p hp => hok p (srtO_mem f1 p hp)
  have hvp := hT.length
  refine wpAny_call ?_
  k_dflt ktr_unf
  k_steps
  refine Stop.on ?_
  rename_i g1 L1 hz9 FG B1 X1 T1 oA hz1 hlt hz2 F1 N1
  have hne : ∀ p ∈ tl, p.1 ≠ oA := fun p hp => Nat.ne_of_lt (hlt p hp)
  refine so_sorted2 (g := gP b) (lt := ltP) (xs := pts) (ys := d.s1) F1 N1 (.tail _ hpA) (All2.mono (T2.mono fun p hp => .tail _ hp) hT) (by walk_at "om") f1 (hgP b) fun D7 h7 c7 tk7 vs7 F7 N7 hlt7 hR7 => ?_
  k_steps
  refine Stop.on ?_
  have hm7 : (oA, listOf ([] : List Value).toArray 0) ∈ (D7, listOf vs7.toArray c7) :: (oA, listOf ([] : List Value).toArray 0) :: tl := .tail _ (.head _)
  have N8 : News g1 L1 h7 ((oA, listOf ([] : List Value).toArray 0) :: offD oA ((D7, listOf vs7.toArray c7) :: (oA, listOf ([] : List Value).toArray 0) :: tl)) := fun p hp => by
    rcases List.mem_cons.mp hp with rfl | hp
    · exact N7 _ hm7
    · exact N7 _ (offD_sub hp)
  have hDA : @Ne Nat D7 oA := Nat.ne_of_gt (hlt7 _ (.head _))
  have hin : ∀ p ∈ tl, p ∈ offD oA ((D7, listOf vs7.toArray c7) :: (oA, listOf ([] : List Value).toArray 0) :: tl) := fun p hp => offD_mem (.tail _ (.tail _ hp)) (hne p hp)
  have hR8 : All2 (T2 (gP b) (offD oA ((D7, listOf vs7.toArray c7) :: (oA, listOf ([] : List Value).toArray 0) :: tl))) vs7 d.s1 := t2_off N7 hm7 (by simp) (fun p hp => hp) (All2.mono (T2.mono fun p hp => .tail _ hp) hR7)
  have hl7 := hR7.length
  refine list_at (h₀ := g1) (L1P tl [(PySem.Str.ofString "points", .ref pA), (PySem.Str.ofString "one", .ref oA)] (gP b) b oA (fun p => [tx b p, PySem.Str.ofString ""]) (oneT b d.s1)) rfl F7 N8 (.tail _ (offD_mem (.head _) hDA)) ?h0 ?turn ?done
  case h0 =>
    refine' ⟨?cst, d.s1, [], [], 0, _, rfl, fun p hp => offD_ne hp, hin, hR8, .nil, rfl, ok1, ?len⟩
    case cst => (repeat (first | exact cst_nil | refine cst_cons (by with_unfolding_all rfl) ?_ | exact List.forall_mem_nil _ | refine List.forall_mem_cons.mpr ⟨by with_unfolding_all rfl, ?_⟩))
    case len => rw [List.length_nil]; walk_at "om"
  case turn =>
    intro I v r m' tl' it h5 tk5 hI hP hlm hoff F5 N5
    exact ln1_turn (dp + 1) (un + 3) gd (envX cn cs L a ccd cl :: outer) _ _ g1 L1 m' tl' tl _ h5 tk5 I pA oA D7 b it v r vs7 c7 _ _ _ B1 X1 T1 (by walk_at "om") (by walk_at "om") F5 N5 hoff hlm (Ne.symm hDA) hP (by passes_own)
  case done =>
    intro m' tl' h5 tk5 hP F5 N5
    obtain ⟨hcst, xs, ac2, vo, no, tl9, rfl, hn1, hsub, hT9, hS9, hres, hok9, hlen9⟩ := hP
    match xs, hT9, hres with
    | [], _, hres =>
      rw [List.flatMap_nil, List.append_nil] at hres
      have F6 := fr_ov _ hcst F5
      have hin9 : ∀ p ∈ tl, p ∈ (oA, listOf vo.toArray no) :: tl9 := fun p hp => .tail _ (hsub p hp)
      exact ln_b (dp + 1) (un + 3) gd (envX cn cs L a ccd cl :: outer) _ _ g1 L1 m' ((oA, listOf vo.toArray no) :: tl9) _ pA oA b vo vp no np d pts _ _ B1 X1 T1 (by walk_at "om") (by walk_at "om") F6 N5 (.head _) (hin9 _ hpA) (All2.mono (T2.mono hin9) hT) (hres ▸ hS9) hd hok (fun S h' tk' m' tl' vs' n' F8 N8 a1 a2 a3 => ⟨_, _, (S, listOf vs'.toArray n') :: tl', F8, N8, fun F₀ N₀ => hret S h' tk' tl' vs' n' F₀ N₀ (fun p hp => a1 p (hin9 p hp)) (fun p hp => a2 p (hin9 p hp)) (he ▸ a3)⟩) (by passes_own)
end
end Mine
end
theorem Mine.rs45 : True := by (k_with_none; trivial)
section
open PySem PySem.W PyProof.Rows Mine PySem.Calls PySem.Spec PySem.Challenge
set_option maxRecDepth 100000
namespace Mine
noncomputable abbrev lsN : Str := PySem.Str.ofString "_law_lines"
noncomputable def lsW : List Stmt := by
  refine (fun (l : List Stmt) (_ : whileBody (nth linesB 2) = l) => l) ?x ?h
  case h => (conv => lhs; whnf)
noncomputable def lsTest : PySem.Expr := by
  refine (fun (l : PySem.Expr) (_ : whTest (nth linesB 2) = l) => l) ?x ?h
  case h => (conv => lhs; whnf)
/-- a list of pairs -/
inductive LsIs (b : Nat) (tl : List (Addr × Obj)) (v : Value) (l : List Pt) : Prop
  | mk : ∀ a n vs, (v = .ref a) → ((a, listOf vs.toArray n) ∈ tl) → (All2 (T2 (gP b) tl) vs l) → LsIs b tl v l
theorem LsIs.mono {b : Nat} {tl tl' : List (Addr × Obj)} (h : ∀ p ∈ tl, p ∈ tl') (v : Value) (x : List Pt) (q : LsIs b tl v x) : LsIs b tl' v x := by
  obtain ⟨a, n, vs, e, hm, r⟩ := q
  exact ⟨a, n, vs, e, h _ hm, All2.mono (T2.mono h) r⟩
inductive LsJ (N₀ : List (Addr × Obj)) (b pA lA cA : Nat) (pts : List Pt) (res : List (List Pt)) (n : Nat) (m : Str → Option Value) (nw : List (Addr × Obj)) : Prop
  | mk : (Cst [(PySem.Str.ofString "points", .ref pA), (PySem.Str.ofString "lines", .ref lA)] m) → ∀ (cur : List Pt) (acc rst : List (List Pt)) (vl vr : List Value) (nl nr rA : Nat) (oc : Obj) (ov : Option Value) (tl : List (Addr × Obj)), (nw = (lA, listOf vl.toArray nl) :: (cA, oc) :: tl) → (oc.data = .cell ov) → ((∀ p ∈ tl, p.1 ≠ lA)) → ((∀ p ∈ tl, p.1 ≠ cA)) → ((∀ p ∈ N₀, p ∈ tl)) → (m (PySem.Str.ofString "rest") = some (.ref rA)) → ((rA, listOf vr.toArray nr) ∈ tl) → (All2 (T2 (gP b) tl) vr cur) → (All2 (LsIs b tl) vl acc) → (linesM2 n cur = some rst) → (acc ++ rst = res) → (acc.length + n = pts.length) → ((∀ p ∈ cur, OkP b p)) → (cur.length < 60) → (∀ a, Value.ref a ∈ vl → ∀ p ∈ N₀, p.1 < a) → LsJ N₀ b pA lA cA pts res n m nw
theorem t2_dat {g : Nat × Nat → Int × Int} {news : List (Addr × Obj)} : ∀ {vs : List Value} {xs : List Pt}, All2 (T2 g news) vs xs → DatAll news vs (xs.map fun x => Dat.tuple [.int (g x).1, .int (g x).2])
  | [], [], _ => .nil
  | _ :: _, _ :: _, ⟨⟨_, _, _, _, e, hm⟩, hr⟩ => e ▸ .cons (.tuple hm (.cons (.int _ _) (.cons (.int _ _) .nil))) (t2_dat hr)
  | [], _ :: _, x => x.elim
  | _ :: _, [], x => x.elim
section
variable {prog : Program} {w : World} {A : Around} {E : Value → Shared → Prop} {s : Shared} {h₀ : Heap} {L a b : Addr} {news n₁ : List (Addr × Obj)} {vs : List Value} {ka kb : Nat} {xs : List Pt} {g : Nat × Nat → Int × Int} {Q : Value → Shared → Prop}
open Classical in
theorem lf_neNil (N : News h₀ L s.heap news) (ma : (a, listOf vs.toArray ka) ∈ news) (mb : (b, listOf ([] : List Value).toArray kb) ∈ news) (hR : All2 (T2 g n₁) vs xs) (hs : ∀ p ∈ n₁, p ∈ news) (hu : A.units + 64 < cLine) (h : Q (.bool (!xs.isEmpty)) s) : wpAny (model prog w) A (compareOp .NotEq (.ref a) (.ref b)) Q E s := by
  refine kqd_ne N ma rfl rfl (t2_dat hR) hs mb rfl rfl (DatAll.nil (news := news)) (fun _ h => h) (fun d hd => ?_) (fun _ h => nomatch h) hu ?_
  · obtain ⟨x, _, rfl⟩ := List.mem_map.mp hd
    rfl
  · cases xs with
    | nil => simpa using h
    | cons x xs => simpa using h
open Classical in
theorem lf_eqNil (N : News h₀ L s.heap news) (ma : (a, listOf vs.toArray ka) ∈ news) (mb : (b, listOf ([] : List Value).toArray kb) ∈ news) (hR : All2 (T2 g n₁) vs xs) (hs : ∀ p ∈ n₁, p ∈ news) (hu : A.units + 64 < cLine) (h : Q (.bool xs.isEmpty) s) : wpAny (model prog w) A (compareOp .Eq (.ref a) (.ref b)) Q E s := by
  refine kqd_eq N ma rfl rfl (t2_dat hR) hs mb rfl rfl (DatAll.nil (news := news)) (fun _ h => h) (fun d hd => ?_) (fun _ h => nomatch h) hu ?_
  · obtain ⟨x, _, rfl⟩ := List.mem_map.mp hd
    rfl
  · cases xs with
    | nil => simpa using h
    | cons x xs => simpa using h
end
end Mine
end
section
open PySem PySem.W PyProof.Rows Mine PySem.Calls PySem.Spec PySem.Challenge
set_option maxRecDepth 100000
namespace Mine
section
set_option maxHeartbeats 16000000 in
theorem ls_turn : ∀ {w : World} {mean : ExcName → Option Value} {mg mb : Str → Option Value} (dp un : Nat) (gd : Option (List Code)) (outer : List Env) (A₀ : Around) (base g : Heap) (L : Addr) (m₁ : Str → Option Value) (nw N₀ : List (Addr × Obj)) (s : Shared)
   (b pA lA cA np n : Nat) (vp : List Value) (pts : List Pt) (res : List (List Pt))
    (Q : Flow → Shared → Prop) (E : Value → Shared → Prop)
    (B : Below A₀ base outer g) (X : (K w.params).In g) (T : Top Mine.q (looseW Mine.q loose) mean mg mb g) (hdp : dp + 80 < recursionLimit) (hu : un + 600 < cLine)
    (F : Fr g L s.heap m₁) (N : News g L s.heap nw) (hlc : @Ne Nat lA cA) (hpA : (pA, listOf vp.toArray np) ∈ N₀) (hvp : vp.length = pts.length) (h60 : pts.length < 60)
    (hJ : LsJ N₀ b pA lA cA pts res n m₁ nw)
    (hE : PassesOwn (model rw_wn0126_01.row.prog w) (ktrTop dp un gd lsN linesS L 275 (.ref 274) [(PySem.Str.ofString "line", cA)] outer) (envX lsN linesS L 275 (.ref 274) [(PySem.Str.ofString "line", cA)]) E)
    (hdone : ∀ h' tk m' vl nl tl', Fr g L h' m' → News g L h' ((lA, listOf vl.toArray nl) :: tl') → m' (PySem.Str.ofString "lines") = some (.ref lA) → All2 (LsIs b tl') vl res → (∀ p ∈ N₀, p ∈ tl') → (∀ a, Value.ref a ∈ vl → ∀ p ∈ N₀, p.1 < a) → Q .next { s with heap := h', toks := tk }),
   wpAny (model rw_wn0126_01.row.prog w) (ktrTop dp un gd lsN linesS L 275 (.ref 274) [(PySem.Str.ofString "line", cA)] outer) (isTrue lsTest (envX lsN linesS L 275 (.ref 274) [(PySem.Str.ofString "line", cA)]) (eval lsTest (envX lsN linesS L 275 (.ref 274) [(PySem.Str.ofString "line", cA)]))) (fun b' s₂ =>
        if b' = true then wpAny (model rw_wn0126_01.row.prog w) (ktrTop dp un gd lsN linesS L 275 (.ref 274) [(PySem.Str.ofString "line", cA)] outer) (execs lsW (envX lsN linesS L 275 (.ref 274) [(PySem.Str.ofString "line", cA)])) (fun f s₃ => match f with
          | .ret v => Q (.ret v) s₃
          | .brk => Q .next s₃
          | _ => Stop (Again g L s s₃ n (LsJ N₀ b pA lA cA pts res))) E s₂ else Q .next s₂) E s := by
  k_with_none
  k_with "all" => first | with_reducible assumption | exact lt_ne (by with_reducible assumption) | exact allLt_ne (by first | with_reducible assumption | exact And.right (by assumption) | exact And.right (And.right (by assumption)) | exact And.right (And.right (And.right (by assumption)))) | (refine' List.forall_mem_cons.mpr ⟨(by k_ne), (by k_all)⟩)
  k_with "ne" => first | with_reducible assumption | exact Ne.symm (by with_reducible assumption) | (refine neN ?_; (try dsimp only); walk_at "om")
  k_with "call ref" => refine Stop.mk ?_
  k_with "CompSrcT" => refine Stop.mk ?_
  k_with "CompEnd" => refine Stop.mk ?_
  k_with "FinA" => refine Stop.mk ?_
  k_with "compareOp NotEq ref ref" => (k_here; k_dflt (refine' lf_neNil (by k_asm) (by k_mem) (by exact List.Mem.head _) (by with_reducible assumption) (by (intro p hp; repeat (first | exact hp | apply List.mem_cons_of_mem))) (by ktr_units) ?_; k_whole); (try dsimp only [List.isEmpty_cons, List.isEmpty_nil, Bool.not_false, Bool.not_true]))
  k_with "compareOp Eq ref ref" => (k_here; k_dflt (refine' lf_eqNil (by k_asm) (by k_mem) (by exact List.Mem.head _) (by with_reducible assumption) (by (intro p hp; repeat (first | exact hp | apply List.mem_cons_of_mem))) (by ktr_units) ?_; k_whole); (try dsimp only [List.isEmpty_cons, List.isEmpty_nil, Bool.not_false, Bool.not_true]))
  k_with "call builtin:len" => (k_here; k_dflt (refine' lf_len (by k_asm) (by k_mem) (by with_reducible assumption) (by walk_at "om") ?_; k_whole); (try dsimp only))
  k_fill
  intro w mean mg mb dp un gd outer A₀ base g L m₁ nw N₀ s b pA lA cA np n vp pts res Q E B X T hdp hu F N hlc hpA hvp h60 hJ hE hdone
  obtain ⟨hcst, cur, acc, rst, vl, vr, nl, nr, rA, oc, ov, tl, rfl, hoc, hn1, hn2, hsub, hrest, hrA, hR, hL, hlm, hres, hac, hok, h60', hfr⟩ := hJ
  have F0 := F
  have F := fr_ov [(PySem.Str.ofString "points", .ref pA), (PySem.Str.ofString "lines", .ref lA), (PySem.Str.ofString "rest", .ref rA)] (by
    intro p hp
    rcases List.mem_append.mp (show p ∈ [(PySem.Str.ofString "points", Value.ref pA), (PySem.Str.ofString "lines", .ref lA)] ++ [(PySem.Str.ofString "rest", .ref rA)] from hp) with hp | hp
    · exact hcst p hp
    · rw [List.mem_singleton.mp hp]; exact hrest) F
  dsimp (instances := true) only [kstB] at F
  have hvl := hL.length
  have hvr := hR.length
  have hpA' := hsub _ hpA
  delta lsW lsTest
  dsimp only
  match cur, hR, hlm, hok, h60' with
  | [], hR, hlm, _, _ =>
    have hrs : rst = [] := by
      cases n with
      | zero => exact (Option.some.inj hlm).symm
      | succ n => exact (Option.some.inj hlm).symm
    k_steps
    subst hrs
    rw [List.append_nil] at hres
    subst hres
    refine hdone _ _ _ vl nl tl (by k_asm) (fun p hp => (by k_asm : News g L _ _) p (by rcases List.mem_cons.mp hp with rfl | hp <;> (repeat (first | exact .head _ | exact hp | apply List.mem_cons_of_mem)))) (by with_unfolding_all rfl) hL hsub hfr
  | p :: r, hR, hlm, hok, h60' =>
    generalize hGz : wpAny _ _ _ _ _ _ = Gz
    obtain ⟨n, rfl⟩ : ∃ k, n = k + 1 := by
      cases n with
      | zero => cases hlm
      | succ k => exact ⟨k, rfl⟩
    obtain ⟨line, hl1, hlm⟩ := Option.bind_eq_some_iff.mp hlm
    obtain ⟨rs2, hl2, hlm⟩ := Option.bind_eq_some_iff.mp hlm
    cases hlm
    subst hGz
    have hle : line.isEmpty = false := by
      obtain ⟨d, hd, he⟩ := Option.map_eq_some_iff.mp hl1
      generalize hGz : wpAny _ _ _ _ _ _ = Gz
      obtain ⟨f1, f2, f3, f4, f5, f6, f7, f8, f9, f10, f11, f12⟩ := lineD_facts hd
      subst hGz
      subst he
      cases hz : d.bp with
      | nil => exact absurd hz f12
      | cons x y => rfl
    k_steps
    refine Stop.on ?_
    refine' line_tells dp un gd lsN linesS 275 (.ref 274) [(PySem.Str.ofString "line", cA)] outer _ _ g L _ _ _ rA b nr vr (p :: r) line _ _ B ?zF X ?zN T rfl ?zm ?zR hl1 hok (by walk_at "om") (by walk_at "om") ?zret
    case zF => k_asm
    case zN => k_asm
    case zm => k_mem
    case zR => exact All2.mono (T2.mono fun p hp => .tail _ (.tail _ (.tail _ hp))) hR
    case zret =>
      intro S h3 tk3 tl3 vs3 n3 F3 N3 hs3 hlt3 hR3
      have N4 : News g L h3 ((lA, listOf vl.toArray nl) :: (cA, oc) :: (S, listOf vs3.toArray n3) :: offL [lA, cA] tl3) := fun p hp => by
        rcases List.mem_cons.mp hp with rfl | hp
        · exact N3 _ (.tail _ (hs3 _ (.tail _ (.head _))))
        · rcases List.mem_cons.mp hp with rfl | hp
          · exact N3 _ (.tail _ (hs3 _ (.tail _ (.tail _ (.head _)))))
          · rcases List.mem_cons.mp hp with rfl | hp
            · exact N3 _ (.head _)
            · exact N3 _ (.tail _ (offL_sub hp))
      have hltS : ∀ p ∈ tl, p.1 < S := fun p hp => hlt3 p (.tail _ (.tail _ (.tail _ hp)))
      have o1 : @Ne Nat S lA := Nat.ne_of_gt (hlt3 _ (.tail _ (.head _)))
      have o2 : @Ne Nat S cA := Nat.ne_of_gt (hlt3 _ (.tail _ (.tail _ (.head _))))
      have key : ∀ p ∈ tl3, @Ne Nat p.1 lA → @Ne Nat p.1 cA → p ∈ offL [lA, cA] tl3 := fun p hp a c => offL_mem hp fun d hd => by
        rcases List.mem_cons.mp hd with rfl | hd
        · exact a
        · rw [List.mem_singleton.mp hd]; exact c
      have hin : ∀ p ∈ tl, p ∈ offL [lA, cA] tl3 := fun p hp => key p (hs3 p (.tail _ (.tail _ (.tail _ hp)))) (hn1 p hp) (hn2 p hp)
      have hR4 : All2 (T2 (gP b) (offL [lA, cA] tl3)) vs3 line := All2.mono (fun v x q => by
        obtain ⟨a, k, t, u, e, hm⟩ := q
        refine ⟨a, k, t, u, e, key _ hm (fun e => ?_) (fun e => ?_)⟩
        · have e' : a = lA := e
          subst e'
          have := Option.some.inj ((N3 _ (.tail _ hm)).1.symm.trans (N3 _ (.tail _ (hs3 _ (.tail _ (.head _))))).1)
          exact absurd (congrArg Obj.cls this) (by simp)
        · have e' : a = cA := e
          subst e'
          have := Option.some.inj ((N3 _ (.tail _ hm)).1.symm.trans (N3 _ (.tail _ (hs3 _ (.tail _ (.tail _ (.head _)))))).1)
          have z : ({ cls := .type "tuple", data := .seq ([.int (gP b x).1 t, .int (gP b x).2 u] : List Value).toArray k } : Obj).data = .cell ov := (congrArg Obj.data this).trans hoc
          cases z) hR3
      have q1 : ∀ p ∈ offL [lA, cA] tl3, p.1 ≠ lA := fun p hp => offL_ne hp (by simp)
      have q2 : ∀ p ∈ offL [lA, cA] tl3, p.1 ≠ cA := fun p hp => offL_ne hp (by simp)
      generalize offL [lA, cA] tl3 = tl4 at *
      clear N3 hs3 hlt3 hR3 key
      have hrA4 := hin _ hrA
      have hR5 := All2.mono (T2.mono hin) hR
      k_steps
      refine Stop.on ?_
      rename_i hz1 oc2 hoc2 hz2 eA hz3 hz4 hz5 F5 N5
      rw [List.push_toArray] at N5
      refine LCt.CompSrcT.ledger (its := vr.toArray) (k := nr) rfl F5 N5 (by k_mem) (by rw [List.size_toArray, sizeLine_eq]; walk_at "om") fun g' => ?_
      rw [List.size_toArray]
      refine compT_ind (vs := vr) (fun r' ys nw => nw = (eA, listOf ([] : List Value).toArray 0) :: (lA, listOf (vl ++ [Value.ref S]).toArray (nl + 1)) :: (cA, oc2) :: (S, listOf vs3.toArray n3) :: tl4 ∧ ∃ xs ac, All2 (T2 (gP b) tl4) r' xs ∧ All2 (T2 (gP b) tl4) ys ac ∧ ac ++ xs.filter (fun x => !inM x line) = (p :: r).filter (fun x => !inM x line)) ?turn ?done vr [] [] _ rfl ?h0
      case h0 => exact ⟨rfl, p :: r, [], hR5, All2.nil, rfl⟩
      case turn =>
        rintro v r' ys nw I' oI' C' oC' D' m' h' tk' E' ⟨rfl, xs, ac, hx, hy, he⟩ hC' hxv F' N' off' ne'
        match xs, hx, he with
        | y :: xs, hx2, he =>
          generalize hGz : wpAny _ _ _ _ _ _ = Gz
          obtain ⟨hyT, hx3⟩ := hx2
          obtain ⟨aT, nT, u1, u2, rfl, haT⟩ := hyT
          subst hGz
          have hsrc : LCg.SrcAt g rA vr.toArray ((eA, listOf ([] : List Value).toArray 0) :: (lA, listOf (vl ++ [Value.ref S]).toArray (nl + 1)) :: (cA, oc2) :: (S, listOf vs3.toArray n3) :: tl4) := Or.inr ⟨_, .tail _ (.tail _ (.tail _ (.tail _ hrA4))), rfl, _, rfl⟩
          k_steps
          refine Stop.on ?_
          refine cont_tells dp un gd lsN linesS 275 (.ref 274) [(PySem.Str.ofString "line", cA)] outer _ _ g L _ _ _ (gP b) S aT n3 vs3 line y _ _ B F' X N' T rfl (fun x z e => Prod.ext (by have := congrArg Prod.fst e; dsimp only at this; walk_at "om") (by have := congrArg Prod.snd e; dsimp only at this; walk_at "om")) (.tail _ (.tail _ (.tail _ (.tail _ (.tail _ (.tail _ (.head _))))))) (All2.mono (T2.mono fun p hp => .tail _ (.tail _ (.tail _ (.tail _ (.tail _ (.tail _ (.tail _ hp))))))) hR4) ⟨_, _, _, _, rfl, .tail _ (.tail _ (.tail _ (.tail _ (.tail _ (.tail _ (.tail _ haT))))))⟩ (by walk_at "om") (by walk_at "om") fun h6 tk6 F6 N6 => ?_
          clear F' N'
          cases hb : inM y line with
          | true =>
            k_steps
            refine Stop.on ?_
            refine comp_end3 F6 N6 off' hsrc ⟨rfl, xs, ac, hx3, hy, ?_⟩
            rw [← he, List.filter_cons, hb, Bool.not_true, if_neg (by decide)]
          | false =>
            k_steps
            refine Stop.on ?_
            refine comp_end3 F6 N6 off' hsrc ⟨rfl, xs, ac ++ [y], hx3, All2.append hy (All2.cons ⟨_, _, _, _, rfl, haT⟩ All2.nil), ?_⟩
            rw [← he, List.filter_cons, hb, Bool.not_false, if_pos rfl, List.append_assoc]
            rfl
      case done =>
        rintro ys nw ⟨rfl, xs, ac, hx, hy, he⟩
        match xs, hx, he with
        | [], _, he =>
          rw [List.filter_nil, List.append_nil] at he
          clear F5 N5
          k_steps
          refine Stop.on ?_
          unfold LCg.FinA
          intro D6 h6 tk6 F6 N6 o6
          dsimp only
          have hD1 : @Ne Nat D6 lA := Ne.symm o6.2.1
          have hD2 : @Ne Nat D6 cA := Ne.symm o6.2.2.1
          k_steps
          dsimp only
          refine Stop.mk ?_
          have hsub4 : ∀ p ∈ tl, p ∈ (D6, LCg.lst ys) :: (S, listOf vs3.toArray n3) :: tl4 := fun p hp => .tail _ (.tail _ (hin p hp))
          refine' ⟨_, _, _, (lA, listOf (vl ++ [Value.ref S]).toArray (nl + 1)) :: (cA, oc2) :: (D6, LCg.lst ys) :: (S, listOf vs3.toArray n3) :: tl4, n, rfl, F6, (fun p hp => N6 p ?zN), Nat.lt_succ_self _, ?zJ⟩
          case zN =>
            rcases List.mem_cons.mp hp with rfl | hp
            · exact .tail _ (.tail _ (.head _))
            · rcases List.mem_cons.mp hp with rfl | hp
              · exact .tail _ (.tail _ (.tail _ (.head _)))
              · rcases List.mem_cons.mp hp with rfl | hp
                · exact .head _
                · exact .tail _ (.tail _ (.tail _ (.tail _ hp)))
          case zJ =>
            refine' ⟨?cst, (p :: r).filter (fun x => !inM x line), acc ++ [line], rs2, vl ++ [Value.ref S], ys, nl + 1, _, D6, oc2, _, _, rfl, hoc2, ?o1, ?o2, fun p hp => hsub4 p (hsub p hp), ?rest, .head _, ?hR, ?hL, hl2, ?hr, ?hc, fun p hp => hok p (List.mem_filter.mp hp).1, Nat.lt_of_le_of_lt (List.length_filter_le _ _) h60', ?hf⟩
            case cst => (repeat (first | exact cst_nil | refine cst_cons (by with_unfolding_all rfl) ?_ | exact List.forall_mem_nil _ | refine List.forall_mem_cons.mpr ⟨by with_unfolding_all rfl, ?_⟩))
            case rest => with_unfolding_all rfl
            case o1 =>
              intro p hp
              rcases List.mem_cons.mp hp with rfl | hp
              · exact hD1
              · rcases List.mem_cons.mp hp with rfl | hp
                · exact o1
                · exact q1 p hp
            case o2 =>
              intro p hp
              rcases List.mem_cons.mp hp with rfl | hp
              · exact hD2
              · rcases List.mem_cons.mp hp with rfl | hp
                · exact o2
                · exact q2 p hp
            case hR => exact he ▸ All2.mono (T2.mono fun p hp => .tail _ (.tail _ hp)) hy
            case hL => exact All2.append (All2.mono (LsIs.mono hsub4) hL) (All2.cons ⟨S, n3, vs3, rfl, .tail _ (.head _), All2.mono (T2.mono fun p hp => .tail _ (.tail _ hp)) hR4⟩ All2.nil)
            case hr => rw [List.append_assoc]; exact hres
            case hc => rw [List.length_append, List.length_singleton]; walk_at "om"
            case hf =>
              intro a ha p hp
              rcases List.mem_append.mp ha with h | h
              · exact hfr a h p hp
              · have ea : a = S := Value.ref.inj (List.mem_singleton.mp h)
                rw [ea]
                exact hltS p (hsub p hp)
end
end Mine
end
theorem Mine.rs46 : True := by (k_with_none; trivial)
section
open PySem PySem.W PyProof.Rows Mine PySem.Calls PySem.Spec PySem.Challenge
set_option maxRecDepth 100000
namespace Mine
noncomputable def lsWhile : Stmt := by
  refine (fun (l : Stmt) (_ : nth linesB 2 = l) => l) ?x ?h
  case h => (conv => lhs; whnf)
theorem ls_while {w : World} {mean : ExcName → Option Value} {mg mb : Str → Option Value} (dp un : Nat) (gd : Option (List Code)) (outer : List Env) (A₀ : Around) (base g : Heap) (L : Addr) (m₁ : Str → Option Value) (N₀ : List (Addr × Obj)) (s : Shared)
   (b pA lA cA np : Nat) (oc : Obj) (ov : Option Value) (vp : List Value) (pts : List Pt) (res : List (List Pt))
    (Q : Flow → Shared → Prop) (E : Value → Shared → Prop)
    (B : Below A₀ base outer g) (X : (K w.params).In g) (T : Top Mine.q (looseW Mine.q loose) mean mg mb g) (hdp : dp + 80 < recursionLimit) (hu : un + 600 < cLine)
    (F : Fr g L s.heap m₁) (N : News g L s.heap ((lA, listOf ([] : List Value).toArray 0) :: (cA, oc) :: N₀)) (hoc : oc.data = .cell ov) (hlc : @Ne Nat lA cA) (n1 : ∀ p ∈ N₀, p.1 ≠ lA) (n2 : ∀ p ∈ N₀, p.1 ≠ cA)
    (hcst : Cst [(PySem.Str.ofString "points", .ref pA), (PySem.Str.ofString "lines", .ref lA)] m₁) (hrest : m₁ (PySem.Str.ofString "rest") = some (.ref pA))
    (hpA : (pA, listOf vp.toArray np) ∈ N₀) (hT : All2 (T2 (gP b) N₀) vp pts) (hD : linesM2 pts.length pts = some res) (hok : ∀ p ∈ pts, OkP b p) (h60 : pts.length < 60)
    (hE : PassesOwn (model rw_wn0126_01.row.prog w) (ktrTop dp un gd lsN linesS L 275 (.ref 274) [(PySem.Str.ofString "line", cA)] outer) (envX lsN linesS L 275 (.ref 274) [(PySem.Str.ofString "line", cA)]) E)
    (hdone : ∀ h' tk m' vl nl tl', Fr g L h' m' → News g L h' ((lA, listOf vl.toArray nl) :: tl') → m' (PySem.Str.ofString "lines") = some (.ref lA) → All2 (LsIs b tl') vl res → (∀ p ∈ N₀, p ∈ tl') → (∀ a, Value.ref a ∈ vl → ∀ p ∈ N₀, p.1 < a) → Q .next { s with heap := h', toks := tk }) :
    wpAny (model rw_wn0126_01.row.prog w) (ktrTop dp un gd lsN linesS L 275 (.ref 274) [(PySem.Str.ofString "line", cA)] outer) (exec lsWhile (envX lsN linesS L 275 (.ref 274) [(PySem.Str.ofString "line", cA)])) Q E s := by
  have hvp := hT.length
  unfold lsWhile
  refine while_ind (LsJ N₀ b pA lA cA pts res) (n₀ := pts.length) F N ?hJ hE ?turn
  case hJ => exact ⟨hcst, pts, [], res, [], vp, 0, np, pA, oc, ov, N₀, rfl, hoc, n1, n2, fun p hp => hp, hrest, hpA, hT, All2.nil, hD, rfl, by rw [List.length_nil, Nat.zero_add], hok, h60, fun _ h => nomatch h⟩
  case turn =>
    intro n m2 nw h2 tk2 F2 N2 hJ2
    exact ls_turn dp un gd outer A₀ base g L m2 nw N₀ { s with heap := h2, toks := tk2 } b pA lA cA np n vp pts res Q E B X T hdp hu F2 N2 hlc hpA hvp h60 hJ2 hE hdone
end Mine
end
local macro_rules | `(tactic| walk_at "m6") => `(tactic| (refine' code_defC ?k1 ?k2 ?k3 ?k4 ?k5 ?kA ?kF ?kK ?k6 ?k7 ?k8 ?k9 ?kB ?kD ?_ ?c2 ?c3 ?c4; (case kA => exact rfl); (case kF => exact rfl); (case kK => first | assumption | exact rfl); (case k1 => k_asm); (case k2 => k_asm); (case k3 => k_asm); (case k4 => k_asm); (case k5 => k_asm); (case k6 => k_is); (case k7 => k_is); (case k8 => ktr_room); (case k9 => first | exact BindsTo.of_eq rfl | exact binds_K (by k_in) rfl (by k_is) rfl rfl rfl | fail "k_enter: no rule for these arguments"); (case kB => exact rfl); (case kD => decide +kernel); (case c2 => exact rfl); (case c3 => exact rfl); (case c4 => exact rfl); k_whole; intro g' L' h' tk' cells' FG' F' N' Y' B' X' T' l1; k_cells Y'; (try simp only [List.cons_append, List.nil_append] at N'); (try dsimp only); (try k_fold)))
section
open PySem PySem.W PyProof.Rows Mine PySem.Calls PySem.Spec PySem.Challenge
set_option maxRecDepth 100000
namespace Mine
section
set_option maxHeartbeats 16000000 in
theorem lines_tells : ∀ {w : World} {mean : ExcName → Option Value} {mg mb : Str → Option Value}
   (dp un : Nat) (gd : Option (List Code)) (cn : Str) (cs : Scope) (a : Addr) (ccd : Value) (cl : List (Str × Addr)) (outer : List Env) (A₀ : Around) (base h₀ : Heap) (L : Addr) (m : Str → Option Value) (tl : List (Addr × Obj)) (s : Shared)
   (pA b np : Nat) (vp : List Value) (pts : List Pt) (res : List (List Pt))
    (Q E : Value → Shared → Prop)
    (B : Below A₀ base outer h₀) (F : Fr h₀ L s.heap m) (X : (K w.params).In h₀) (N : News h₀ L s.heap tl)
    (T : Top q (looseW q loose) mean mg mb h₀) (hk : cs.kind = .function)
    (hpA : (pA, listOf vp.toArray np) ∈ tl) (hT : All2 (T2 (gP b) tl) vp pts) (hD : linesM2 pts.length pts = some res) (hok : ∀ p ∈ pts, OkP b p) (h60 : pts.length < 60)
    (hdp : dp + 90 < recursionLimit) (hu : un + 700 < cLine)
    (hret : ∀ S h' tk' tl' vs' n', Fr h₀ L h' m → News h₀ L h' ((S, listOf vs'.toArray n') :: tl') → (∀ p ∈ tl, p ∈ tl') → (∀ p ∈ tl, p.1 < S) → All2 (LsIs b tl') vs' res → (∀ a, Value.ref a ∈ vs' → ∀ p ∈ tl, p.1 < a) → Q (.ref S) { s with heap := h', toks := tk' }),
    wpAny (model rw_wn0126_01.row.prog w) (ktrTop dp un gd cn cs L a ccd cl outer) (call (.ref 275) [.ref pA]) Q E s := by
  k_with_none
  k_with "all" => first | with_reducible assumption | exact lt_ne (by with_reducible assumption) | exact allLt_ne (by first | with_reducible assumption | exact And.right (by assumption) | exact And.right (And.right (by assumption)) | exact And.right (And.right (And.right (by assumption)))) | (refine' List.forall_mem_cons.mpr ⟨(by k_ne), (by k_all)⟩)
  k_with "ne" => first | with_reducible assumption | exact Ne.symm (by with_reducible assumption) | (refine neN ?_; (try dsimp only); walk_at "om")
  k_with "unf" => walk_at "m6"
  k_with "exec While" => refine Stop.mk ?_
  k_fill
  intro w mean mg mb dp un gd cn cs a ccd cl outer A₀ base h₀ L m tl s pA b np vp pts res Q E B F X N T hk hpA hT hD hok h60 hdp hu hret
  have hvp := hT.length
  refine wpAny_call ?_
  k_dflt ktr_unf
  k_steps
  refine Stop.on ?_
  rename_i g1 L1 hz1 hz2 FG B1 X1 T1 hltL oc hoc lA hz3 hl2 hz4 hz5 F1 N1
  have n1 : ∀ p ∈ tl, p.1 ≠ lA := fun p hp => Nat.ne_of_lt (allLt_lt hl2.2 p hp)
  have n2 : ∀ p ∈ tl, p.1 ≠ L1 + 1 := fun p hp => Nat.ne_of_lt (Nat.lt_succ_of_lt (hltL p hp))
  refine' ls_while (dp + 1) (un + 3) gd (envX cn cs L a ccd cl :: outer) _ _ g1 L1 _ tl _ b pA lA (L1 + 1) np oc _ vp pts res _ _ B1 X1 T1 (by walk_at "om") (by walk_at "om") F1 N1 hoc (Nat.ne_of_gt hl2.1) n1 n2 ?cst ?rest hpA hT hD hok h60 ?hE ?hdone
  case cst => (repeat (first | exact cst_nil | refine cst_cons (by with_unfolding_all rfl) ?_ | exact List.forall_mem_nil _ | refine List.forall_mem_cons.mpr ⟨by with_unfolding_all rfl, ?_⟩))
  case rest => with_unfolding_all rfl
  case hE => passes_own
  case hdone =>
    intro h6 tk6 m6 vl nl tl6 F6 N6 hm6 hL6 hs6 hf6
    dsimp only
    have F7 := fr_ov [(PySem.Str.ofString "lines", .ref lA)] (List.forall_mem_cons.mpr ⟨hm6, List.forall_mem_nil _⟩) F6
    dsimp (instances := true) only [kstB] at F7
    clear F6
    k_steps
    exact hret lA _ _ tl6 vl nl (by assumption) (by assumption) hs6 (fun p hp => allLt_lt hl2.2 p hp) hL6 hf6
end
end Mine
end
theorem Mine.rs47 : True := by (k_with_none; trivial)
section
open PySem PySem.W PyProof.Rows Mine PySem.Calls PySem.Spec PySem.Challenge
set_option maxRecDepth 100000
namespace Mine
noncomputable abbrev tbN : Str := PySem.Str.ofString "_law_table"
noncomputable def tbFor : List Stmt := by
  refine (fun (l : List Stmt) (_ : forBody (nth tableB 1) = l) => l) ?x ?h
  case h => (conv => lhs; whnf)
noncomputable def tbW : List Stmt := by
  refine (fun (l : List Stmt) (_ : whileBody (nth (forBody (nth tableB 1)) 1) = l) => l) ?x ?h
  case h => (conv => lhs; whnf)
noncomputable def tbTest : PySem.Expr := by
  refine (fun (l : PySem.Expr) (_ : whTest (nth (forBody (nth tableB 1)) 1) = l) => l) ?x ?h
  case h => (conv => lhs; whnf)
/-- a row of the table -/
inductive RowIs (e : Nat → Int) (tl : List (Addr × Obj)) (v : Value) (r : List Nat) : Prop
  | mk : ∀ a n vs, (v = .ref a) → ((a, listOf vs.toArray n) ∈ tl) → (IntsAre vs (r.map e) ∧ r ≠ [] ∧ r.length < 60) → RowIs e tl v r
theorem RowIs.mono {e : Nat → Int} {tl tl' : List (Addr × Obj)} (h : ∀ p ∈ tl, p ∈ tl') (v : Value) (x : List Nat) (q : RowIs e tl v x) : RowIs e tl' v x := by
  obtain ⟨a, n, vs, e, hm, r⟩ := q
  exact ⟨a, n, vs, e, h _ hm, r⟩
noncomputable abbrev tbCl (cX cM : Addr) : List (Str × Addr) := [(PySem.Str.ofString "more", cM), (PySem.Str.ofString "x", cX)]
inductive TbJ (e : Nat → Int) (N₀ : List (Addr × Obj)) (tA cX cM : Addr) (res : List (List Nat)) (c n : Nat) (m : Str → Option Value) (nw : List (Addr × Obj)) : Prop
  | mk : (Cst [(PySem.Str.ofString "table", .ref tA)] m) → ∀ (x : Nat) (tx tk : Tok) (pre rest : List (List Nat)) (rv : List Value) (nt : Nat) (ox om : Obj) (ov : Option Value) (tl : List (Addr × Obj)), (nw = (tA, listOf rv.toArray nt) :: (cX, ox) :: (cM, om) :: tl) → (ox.data = .cell (some (.int (e x) tx))) → (om.data = .cell ov) → ((∀ p ∈ tl, p.1 ≠ tA)) → ((∀ p ∈ tl, p.1 ≠ cX)) → ((∀ p ∈ tl, p.1 ≠ cM)) → ((∀ p ∈ N₀, p ∈ tl)) → (m (PySem.Str.ofString "k") = some (.int (pre.length : Int) tk)) → (All2 (RowIs e tl) rv (pre ++ rest)) → (rv.Nodup) → (pre ++ insT x rest = res) → (rest.length = n) → (rv.length < 60) → ((∀ r ∈ pre ++ rest, r.length + c < 60)) → (∀ p ∈ N₀, Value.ref p.1 ∉ rv) → TbJ e N₀ tA cX cM res c n m nw
inductive All2At {α : Type} (R : Value → α → Prop) (pre : List α) (r : α) (post : List α) (vs : List Value) : Prop
  | mk : ∀ va v vb, vs = va ++ v :: vb → All2 R va pre → R v r → All2 R vb post → va.length = pre.length → All2At R pre r post vs
theorem all2_at {α : Type} {R : Value → α → Prop} : ∀ {pre : List α} {r : α} {post : List α} {vs : List Value}, All2 R vs (pre ++ r :: post) → All2At R pre r post vs
  | [], r, post, v :: vs, ⟨a, b⟩ => ⟨[], v, vs, rfl, trivial, a, b, rfl⟩
  | [], _, _, [], x => x.elim
  | p :: pre, r, post, v :: vs, ⟨a, b⟩ => by
    obtain ⟨va, u, vb, e, h1, h2, h3, h4⟩ := all2_at b
    exact ⟨v :: va, u, vb, by rw [e]; rfl, ⟨a, h1⟩, h2, h3, by simp [h4]⟩
  | _ :: _, _, _, [], x => x.elim
theorem setL_at {va vb : List Value} {v u : Value} : ki_setL (va ++ v :: vb) va.length u = some (va ++ u :: vb) := by
  induction va with
  | nil => rfl
  | cons a va ih =>
    show (match ki_setL (va ++ v :: vb) va.length u with | some q => some (a :: q) | none => none) = _
    rw [ih]; rfl
theorem bump_none {x : Nat} {r : List Nat} (h : bump x r = none) : ∀ y ∈ r, ¬ x < y := fun y hy hlt => by
  unfold bump at h
  have : r.filter (fun y => decide (x < y)) = [] := List.min?_eq_none_iff.mp h
  have h2 : y ∈ r.filter (fun y => decide (x < y)) := List.mem_filter.mpr ⟨hy, decide_eq_true hlt⟩
  rw [this] at h2
  cases h2
theorem bump_some {x m : Nat} {r : List Nat} (h : bump x r = some m) : m ∈ r ∧ x < m ∧ ∀ y ∈ r, x < y → m ≤ y := by
  unfold bump at h
  obtain ⟨h1, h2⟩ := List.min?_eq_some_iff.mp h
  obtain ⟨h3, h4⟩ := List.mem_filter.mp h1
  exact ⟨h3, of_decide_eq_true h4, fun y hy hlt => h2 y (List.mem_filter.mpr ⟨hy, decide_eq_true hlt⟩)⟩
theorem ins_some {x m : Nat} {r : List Nat} {t : List (List Nat)} (h : bump x r = some m) : insT x (r :: t) = r.map (fun y => if y = m then x else y) :: insT m t := by rw [insT, h]
theorem ins_none {x : Nat} {r : List Nat} {t : List (List Nat)} (h : bump x r = none) : insT x (r :: t) = (r ++ [x]) :: t := by rw [insT, h]
theorem off1_ne {D : Addr} : ∀ {l : List (Addr × Obj)}, LCg.Off1 D l → ∀ p ∈ l, p.1 ≠ D
  | [], _, _, h => nomatch h
  | _ :: _, x, p, h => by
    rcases List.mem_cons.mp h with rfl | h
    · exact x.1
    · exact off1_ne x.2 p h
theorem rows_ne {e : Nat → Int} {tl : List (Addr × Obj)} {D : Addr} (h : ∀ p ∈ tl, p.1 ≠ D) : ∀ {vs : List Value} {rs : List (List Nat)}, All2 (RowIs e tl) vs rs → Value.ref D ∉ vs
  | [], [], _, hm => nomatch hm
  | v :: vs, r :: rs, ⟨⟨a, n, ws, e1, hm, _⟩, hr⟩, hd => by
    rcases List.mem_cons.mp hd with e2 | hd
    · rw [e1] at e2
      exact h _ hm (Value.ref.inj e2).symm
    · exact rows_ne h hr hd
  | [], _ :: _, x, _ => x.elim
  | _ :: _, [], x, _ => x.elim
theorem nodup_swap {va vb : List Value} {u v : Value} (h : (va ++ u :: vb).Nodup) (h1 : v ∉ va) (h2 : v ∉ vb) : (va ++ v :: vb).Nodup := by
  rw [List.nodup_append] at h ⊢
  obtain ⟨a, b, c⟩ := h
  have b' := List.nodup_cons.mp b
  refine ⟨a, List.nodup_cons.mpr ⟨h2, b'.2⟩, fun x hx y hy => ?_⟩
  rcases List.mem_cons.mp hy with rfl | hy
  · exact fun e => h1 (e ▸ hx)
  · exact c x hx y (.tail _ hy)
end Mine
end
local macro_rules | `(tactic| walk_at "m7") => `(tactic| (k_here; (rename Fr _ _ _ _ => kF9); k_dflt (refine wpAny_loadName_local rfl rfl (Fr.ns kF9) rfl ?_)))
section
open PySem PySem.W PyProof.Rows Mine PySem.Calls PySem.Spec PySem.Challenge
set_option maxRecDepth 100000
namespace Mine
section
set_option maxHeartbeats 16000000 in
theorem tb_turn : ∀ {w : World} {mean : ExcName → Option Value} {mg mb : Str → Option Value} (e : Nat → Int) (he : ∀ a b, a < b ↔ e a < e b) (dp un : Nat) (gd : Option (List Code)) (outer : List Env) (A₀ : Around) (base g : Heap) (L : Addr) (m₁ : Str → Option Value) (nw N₀ : List (Addr × Obj)) (s : Shared)
   (tA cX cM c n : Nat) (res : List (List Nat))
    (Q : Flow → Shared → Prop) (E : Value → Shared → Prop)
    (B : Below A₀ base outer g) (X : (K w.params).In g) (T : Top Mine.q (looseW Mine.q loose) mean mg mb g) (hdp : dp + 80 < recursionLimit) (hu : un + 600 < cLine)
    (F : Fr g L s.heap m₁) (N : News g L s.heap nw) (o1 : @Ne Nat tA cX) (o2 : @Ne Nat tA cM) (o3 : @Ne Nat cX cM)
    (hJ : TbJ e N₀ tA cX cM res c n m₁ nw)
    (hE : PassesOwn (model rw_wn0126_01.row.prog w) (ktrTop dp un gd tbN tableS L 280 (.ref 279) (tbCl cX cM) outer) (envX tbN tableS L 280 (.ref 279) (tbCl cX cM)) E)
    (hdone : ∀ h' tk m' (x : Nat) (tx tk' : Tok) (pre rest : List (List Nat)) (rv : List Value) (nt : Nat) (ox om : Obj) (ov : Option Value) (tl : List (Addr × Obj)), Fr g L h' m' → News g L h' ((tA, listOf rv.toArray nt) :: (cX, ox) :: (cM, om) :: tl) → ox.data = .cell (some (.int (e x) tx)) → om.data = .cell ov → (∀ p ∈ tl, p.1 ≠ tA) → (∀ p ∈ tl, p.1 ≠ cX) → (∀ p ∈ tl, p.1 ≠ cM) → (∀ p ∈ N₀, p ∈ tl) →
      m' (PySem.Str.ofString "table") = some (.ref tA) → m' (PySem.Str.ofString "k") = some (.int (pre.length : Int) tk') → All2 (RowIs e tl) rv (pre ++ rest) → rv.Nodup → pre ++ insT x rest = res → rv.length < 60 → (∀ r ∈ pre ++ rest, r.length + c < 60) → (∀ p ∈ N₀, Value.ref p.1 ∉ rv) → (∀ r t, rest = r :: t → bump x r = none) → Q .next { s with heap := h', toks := tk }),
   wpAny (model rw_wn0126_01.row.prog w) (ktrTop dp un gd tbN tableS L 280 (.ref 279) (tbCl cX cM) outer) (isTrue tbTest (envX tbN tableS L 280 (.ref 279) (tbCl cX cM)) (eval tbTest (envX tbN tableS L 280 (.ref 279) (tbCl cX cM)))) (fun b' s₂ =>
        if b' = true then wpAny (model rw_wn0126_01.row.prog w) (ktrTop dp un gd tbN tableS L 280 (.ref 279) (tbCl cX cM) outer) (execs tbW (envX tbN tableS L 280 (.ref 279) (tbCl cX cM))) (fun f s₃ => match f with
          | .ret v => Q (.ret v) s₃
          | .brk => Q .next s₃
          | _ => Stop (Again g L s s₃ n (TbJ e N₀ tA cX cM res c))) E s₂ else Q .next s₂) E s := by
  k_with_none
  k_with "all" => first | with_reducible assumption | exact lt_ne (by with_reducible assumption) | exact allLt_ne (by first | with_reducible assumption | exact And.right (by assumption) | exact And.right (And.right (by assumption)) | exact And.right (And.right (And.right (by assumption)))) | (refine' List.forall_mem_cons.mpr ⟨(by k_ne), (by k_all)⟩)
  k_with "ne" => first | with_reducible assumption | exact Ne.symm (by with_reducible assumption) | (refine neN ?_; (try dsimp only); walk_at "om")
  k_with "call builtin:max" => refine Stop.mk ?_
  k_with "call builtin:min" => refine Stop.mk ?_
  k_with "setItem ref int" => refine Stop.mk ?_
  k_with "CompSrcT" => refine Stop.mk ?_
  k_with "CompSrc" => refine Stop.mk ?_
  k_with "CompEnd" => refine Stop.mk ?_
  k_with "FinE" => refine Stop.mk ?_
  k_with "call builtin:len" => (k_here; k_dflt (refine' lf_len (by k_asm) (by k_mem) (by with_reducible assumption) (by walk_at "om") ?_; k_whole); (try dsimp only))
  k_with "subscriptTail" => (k_here; k_dflt (refine' lf_item (by k_asm) (by k_mem) ?_ ?_ (by with_reducible assumption) ?_; (walk_at "om"); (walk_at "om"); k_whole))
  k_with "loadName" => walk_at "m7"
  k_fill
  intro w mean mg mb e he dp un gd outer A₀ base g L m₁ nw N₀ s tA cX cM c n res Q E B X T hdp hu F N o1 o2 o3 hJ hE hdone
  obtain ⟨hcst, x, tx, tkk, pre, rest, rv, nt, ox, om, ov, tl, rfl, hox, hom, q1, q2, q3, hsub, hk, hR, hnd, hres, hrl, hrv, hc60, hdis⟩ := hJ
  have htab : m₁ (PySem.Str.ofString "table") = some (.ref tA) := hcst _ (.head _)
  have hinj : ∀ a b, e a = e b → a = b := fun a b h => by
    rcases Nat.lt_trichotomy a b with k | k | k
    · have := (he a b).mp k; walk_at "om"
    · exact k
    · have := (he b a).mp k; walk_at "om"
  have F0 := F
  have F := fr_ov [(PySem.Str.ofString "table", .ref tA), (PySem.Str.ofString "k", .int (pre.length : Int) tkk)] (List.forall_mem_cons.mpr ⟨htab, List.forall_mem_cons.mpr ⟨hk, List.forall_mem_nil _⟩⟩) F
  dsimp (instances := true) only [kstB] at F
  have hrl2 := hR.length
  rw [List.length_append] at hrl2
  delta tbW tbTest
  dsimp only
  match rest, hR, hrl, hrl2, hres, hc60 with
  | [], hR, hrl, hrl2, hres, hc60 =>
    clear F
    have F := fr_ov [(PySem.Str.ofString "table", .ref tA), (PySem.Str.ofString "k", .int (pre.length : Int) tkk)] (List.forall_mem_cons.mpr ⟨htab, List.forall_mem_cons.mpr ⟨hk, List.forall_mem_nil _⟩⟩) F0
    dsimp (instances := true) only [kstB] at F
    rw [List.length_nil, Nat.add_zero] at hrl2
    k_steps
    exact hdone _ _ _ x tx tkk pre [] rv nt ox om ov tl F0 N hox hom q1 q2 q3 hsub htab hk hR hnd hres hrv hc60 hdis (fun _ _ h => nomatch h)
  | r :: t, hR, hrl, hrl2, hres, hc60 =>
    generalize hGz : wpAny _ _ _ _ _ _ = Gz
    obtain ⟨va, v, vb, rfl, hva, hv, hvb, hvl⟩ := all2_at hR
    obtain ⟨rA, nr, vr, rfl, hrA, hI, hne, hr60⟩ := hv
    subst hGz
    have hat : (va ++ Value.ref rA :: vb)[((pre.length : Nat) : Int).toNat]? = some (.ref rA) := by
      rw [Int.toNat_natCast, ← hvl, List.getElem?_append_right (Nat.le_refl _), Nat.sub_self]; rfl
    clear F
    have F := fr_ov [(PySem.Str.ofString "table", .ref tA), (PySem.Str.ofString "k", .int (pre.length : Int) tkk)] (List.forall_mem_cons.mpr ⟨htab, List.forall_mem_cons.mpr ⟨hk, List.forall_mem_nil _⟩⟩) F0
    dsimp (instances := true) only [kstB] at F
    rw [List.length_cons] at hrl2
    have hrA' : (rA, listOf vr.toArray nr) ∈ (tA, listOf (va ++ Value.ref rA :: vb).toArray nt) :: (cX, ox) :: (cM, om) :: tl := .tail _ (.tail _ (.tail _ hrA))
    k_steps
    refine Stop.on ?_
    refine kso_max (vs := vr) (ns := r.map e) F N ⟨_, (N _ hrA').1, rfl, nr, rfl⟩ hI (by rw [List.length_map]; exact List.length_pos_iff.mpr hne) rfl fun h2 M t2 tk2 F2 N2 hM hMx => ?_
    obtain ⟨yM, hyM, rfl⟩ := List.mem_map.mp hM
    cases hb : bump x r with
    | none =>
      have hlt : ¬ e x < e yM := fun h => bump_none hb yM hyM ((he x yM).mpr h)
      k_steps
      exact hdone _ _ _ x tx tkk pre (r :: t) _ nt ox om ov tl F2 N2 hox hom q1 q2 q3 hsub (by with_unfolding_all rfl) (by with_unfolding_all rfl) hR hnd hres hrv hc60 hdis (fun _ _ h => by cases h; exact hb)
    | some more =>
      generalize hGz : wpAny _ _ _ _ _ _ = Gz
      obtain ⟨hm1, hm2, hm3⟩ := bump_some hb
      subst hGz
      have hlt : e x < e yM := Int.lt_of_lt_of_le ((he x more).mp hm2) (hMx _ (List.mem_map_of_mem hm1))
      clear F N
      k_steps
      refine Stop.on ?_
      refine LCt.CompSrcT.ledger (its := vr.toArray) (k := nr) rfl F2 N2 hrA' (by rw [List.size_toArray, hI.length, List.length_map, sizeLine_eq]; walk_at "om") fun g1 => ?_
      rw [List.size_toArray]
      refine compT_ind (vs := vr) (fun r' ys nw => nw = (tA, listOf (va ++ Value.ref rA :: vb).toArray nt) :: (cX, ox) :: (cM, om) :: tl ∧ ∃ xs ac, IntsAre r' (xs.map e) ∧ IntsAre ys (ac.map e) ∧ ac ++ xs.filter (fun y => decide (x < y)) = r.filter (fun y => decide (x < y))) ?turn1 ?done1 vr [] [] _ rfl ⟨rfl, r, [], hI, .nil, rfl⟩
      case turn1 =>
        rintro v r' ys nw I' oI' C' oC' D' m' h' tk' E' ⟨rfl, xs, ac, hx, hy, hz⟩ hC' hxv F' N' off' ne'
        have hsrc : LCg.SrcAt g rA vr.toArray ((tA, listOf (va ++ Value.ref rA :: vb).toArray nt) :: (cX, ox) :: (cM, om) :: tl) := Or.inr ⟨_, hrA', rfl, _, rfl⟩
        match xs, hx, hz with
        | [], hx, _ => exact absurd hx.length (by simp)
        | y :: xs, hx, hz =>
          obtain ⟨ty, vs', e1, hx3⟩ := IntsAre.cons_inv hx
          cases e1
          by_cases hxy : x < y
          · have hlt' : e x < e y := (he x y).mp hxy
            k_steps
            refine Stop.on ?_
            refine comp_end3 (by k_asm) (by k_asm) off' hsrc ⟨rfl, xs, ac ++ [y], hx3, by rw [List.map_append]; exact ints_snoc hy, ?_⟩
            rw [← hz, List.filter_cons, if_pos (decide_eq_true hxy), List.append_assoc]
            rfl
          · have hlt' : ¬ e x < e y := fun h => hxy ((he x y).mpr h)
            k_steps
            refine Stop.on ?_
            refine comp_end3 (by k_asm) (by k_asm) off' hsrc ⟨rfl, xs, ac, hx3, hy, ?_⟩
            rw [← hz, List.filter_cons, if_neg (by simpa using hxy)]
      case done1 =>
        rintro ys nw ⟨rfl, xs, ac, hx, hy, hz⟩
        have hxs : xs = [] := by
          have := hx.length
          exact List.eq_nil_of_length_eq_zero (by simpa using this.symm)
        subst hxs
        rw [List.filter_nil, List.append_nil] at hz
        clear F2 N2
        k_steps
        refine Stop.on ?_
        unfold LCg.FinE
        intro D6 h6 tk6 F6 N6 o6
        dsimp only
        k_steps
        refine Stop.on ?_
        have hmf : more ∈ ac := hz ▸ List.mem_filter.mpr ⟨hm1, decide_eq_true hm2⟩
        refine kso_min (vs := ys) (ns := ac.map e) F6 N6 ⟨_, (N6 _ (.head _)).1, rfl, _, rfl⟩ hy (by rw [List.length_map]; exact List.length_pos_of_mem hmf) rfl fun h7 M2 t7 tk7 F7 N7 hM2 hM2x => ?_
        obtain ⟨y2, hy2, rfl⟩ := List.mem_map.mp hM2
        have hye : e y2 = e more := by
          have a1 := hM2x _ (List.mem_map_of_mem hmf)
          have hy3 := hz ▸ hy2
          obtain ⟨b1, b2⟩ := List.mem_filter.mp hy3
          have a2 := hm3 y2 b1 (of_decide_eq_true b2)
          rcases Nat.lt_or_ge more y2 with h | h
          · have := (he more y2).mp h; walk_at "om"
          · rw [Nat.le_antisymm h a2]
        rw [hye]
        have N8 : News g L h7 ((tA, listOf (va ++ Value.ref rA :: vb).toArray nt) :: (cX, ox) :: (cM, om) :: tl) := fun p hp => N7 p (.tail _ hp)
        clear N6 N7 F6
        k_steps
        refine Stop.on ?_
        rename_i hz1 om2 Fy Ny hom2
        have hrA2 : (rA, listOf vr.toArray nr) ∈ (tA, listOf (va ++ Value.ref rA :: vb).toArray nt) :: (cX, ox) :: (cM, om2) :: tl := .tail _ (.tail _ (.tail _ hrA))
        refine LCg.CompSrc.ledger (its := vr.toArray) (k := nr) rfl Fy Ny hrA2 (by rw [List.size_toArray, hI.length, List.length_map, sizeLine_eq]; walk_at "om") fun g2 => ?_
        rw [List.size_toArray]
        refine comp_ind (vs := vr) (fun r' ys nw => nw = (tA, listOf (va ++ Value.ref rA :: vb).toArray nt) :: (cX, ox) :: (cM, om2) :: tl ∧ ∃ xs ac, IntsAre r' (xs.map e) ∧ IntsAre ys (ac.map e) ∧ ac ++ xs.map (fun y => if y = more then x else y) = r.map (fun y => if y = more then x else y)) ?turn2 ?done2 vr [] [] _ rfl ⟨rfl, r, [], hI, .nil, rfl⟩
        case turn2 =>
          clear Fy Ny
          rintro v r' ys2 nw I' oI' C' oC' D' m' h' tk' E' ⟨rfl, xs, ac2, hx2, hy2', hz2⟩ hC' hxv F' N' off' ne'
          have hsrc : LCg.SrcAt g rA vr.toArray ((tA, listOf (va ++ Value.ref rA :: vb).toArray nt) :: (cX, ox) :: (cM, om2) :: tl) := Or.inr ⟨_, hrA2, rfl, _, rfl⟩
          match xs, hx2, hz2 with
          | [], hx2, _ => exact absurd hx2.length (by simp)
          | y :: xs, hx2, hz2 =>
            obtain ⟨ty, vs', e1, hx3⟩ := IntsAre.cons_inv hx2
            cases e1
            k_steps
            all_goals refine Stop.on ?_
            all_goals first
              | (have hxy : y = more := hinj _ _ (by assumption)
                 refine comp_end3 (by k_asm) (by k_asm) off' hsrc ⟨rfl, xs, ac2 ++ [x], hx3, by rw [List.map_append]; exact ints_snoc hy2', ?_⟩
                 rw [← hz2, List.map_cons, if_pos hxy, List.append_assoc]
                 rfl)
              | (have hxy : ¬ y = more := fun h => (by assumption : e y ≠ e more) (congrArg e h)
                 refine comp_end3 (by k_asm) (by k_asm) off' hsrc ⟨rfl, xs, ac2 ++ [y], hx3, by rw [List.map_append]; exact ints_snoc hy2', ?_⟩
                 rw [← hz2, List.map_cons, if_neg hxy, List.append_assoc]
                 rfl)
        case done2 =>
          clear Fy Ny
          rintro ys2 nw ⟨rfl, xs, ac2, hx2, hy2', hz2⟩
          have hxs : xs = [] := by
            have := hx2.length
            exact List.eq_nil_of_length_eq_zero (by simpa using this.symm)
          subst hxs
          rw [List.map_nil, List.append_nil] at hz2
          k_steps
          refine Stop.on ?_
          unfold LCg.FinE
          intro D7 h8 tk8 F8 N9 o7
          dsimp only
          obtain ⟨d1, d2, d3, d4⟩ := o7
          k_steps
          refine Stop.on ?_
          refine ki_set (its := (va ++ Value.ref rA :: vb).toArray) (q := va ++ Value.ref D7 :: vb) F8 N9 (by walk_at "om") (by walk_at "om") (by rw [Int.toNat_natCast, ← hvl]; exact setL_at) (by k_upd) fun h9 F9 N10 => ?_
          (try dsimp only [List.nil_append, List.cons_append] at N10)
          k_steps
          refine Stop.on ?_
          rename_i hz5 oxx hox2 hz6 Fk Nk
          have d4' := off1_ne d4
          have hres2 : pre ++ r.map (fun y => if y = more then x else y) :: insT more t = res := by
            rw [← hres, ins_some hb]
          have hkl : (((pre ++ [r.map (fun y => if y = more then x else y)]).length : Nat) : Int) = (pre.length : Int) + 1 := by simp
          refine' ⟨_, _, _, (tA, listOf (va ++ Value.ref D7 :: vb).toArray nt) :: (cX, oxx) :: (cM, om2) :: (D7, LCg.lst ys2) :: tl, t.length, rfl, Fk, (fun p hp => Nk p ?zN), by rw [← hrl, List.length_cons]; exact Nat.lt_succ_self _, ?zJ⟩
          case zN =>
            rcases List.mem_cons.mp hp with rfl | hp
            · exact .tail _ (.head _)
            · rcases List.mem_cons.mp hp with rfl | hp
              · exact .tail _ (.tail _ (.head _))
              · rcases List.mem_cons.mp hp with rfl | hp
                · exact .tail _ (.tail _ (.tail _ (.head _)))
                · rcases List.mem_cons.mp hp with rfl | hp
                  · exact .head _
                  · exact .tail _ (.tail _ (.tail _ (.tail _ hp)))
          case zJ =>
            refine' ⟨?cst, more, _, _, pre ++ [r.map (fun y => if y = more then x else y)], t, va ++ Value.ref D7 :: vb, nt, oxx, om2, _, _, rfl, hox2, hom2, ?o1, ?o2, ?o3, fun p hp => .tail _ (hsub p hp), ?hk, ?hR, ?hnd, ?hr, rfl, ?hl, ?hc, ?hd⟩
            case cst => (repeat (first | exact cst_nil | refine cst_cons (by with_unfolding_all rfl) ?_ | exact List.forall_mem_nil _ | refine List.forall_mem_cons.mpr ⟨by with_unfolding_all rfl, ?_⟩))
            case hk => rw [hkl]; with_unfolding_all rfl
            case o1 => exact List.forall_mem_cons.mpr ⟨Ne.symm d1, q1⟩
            case o2 => exact List.forall_mem_cons.mpr ⟨Ne.symm d2, q2⟩
            case o3 => exact List.forall_mem_cons.mpr ⟨Ne.symm d3, q3⟩
            case hR =>
              rw [List.append_assoc]
              exact All2.append (All2.mono (RowIs.mono fun p hp => .tail _ hp) hva) (All2.cons ⟨D7, _, ys2, rfl, .head _, hz2 ▸ hy2', by simpa using hne, by simpa using hr60⟩ (All2.mono (RowIs.mono fun p hp => .tail _ hp) hvb))
            case hnd => exact nodup_swap hnd (rows_ne d4' hva) (rows_ne d4' hvb)
            case hr => rw [List.append_assoc]; exact hres2
            case hl => simpa using hrv
            case hd =>
              intro p hp hm
              rcases List.mem_append.mp hm with h | h
              · exact hdis p hp (List.mem_append_left _ h)
              · rcases List.mem_cons.mp h with h | h
                · exact d4' _ (hsub p hp) (Value.ref.inj h)
                · exact hdis p hp (List.mem_append_right _ (.tail _ h))
            case hc =>
              intro r' hr'
              rw [List.append_assoc] at hr'
              rcases List.mem_append.mp hr' with h | h
              · exact hc60 r' (List.mem_append_left _ h)
              · rcases List.mem_cons.mp h with rfl | h
                · rw [List.length_map]; exact hc60 r (List.mem_append_right _ (.head _))
                · exact hc60 r' (List.mem_append_right _ (.tail _ h))
end
end Mine
end
theorem Mine.rs48 : True := by (k_with_none; trivial)
section
open PySem PySem.W PyProof.Rows Mine PySem.Calls PySem.Spec PySem.Challenge
set_option maxRecDepth 100000
namespace Mine
noncomputable def tbWhile : Stmt := by
  refine (fun (l : Stmt) (_ : nth (forBody (nth tableB 1)) 1 = l) => l) ?x ?h
  case h => (conv => lhs; whnf)
noncomputable def tbTgt : PySem.Expr := by
  refine (fun (l : PySem.Expr) (_ : forTgt (nth tableB 1) = l) => l) ?x ?h
  case h => (conv => lhs; whnf)
theorem tb_while {w : World} {mean : ExcName → Option Value} {mg mb : Str → Option Value} (e : Nat → Int) (he : ∀ a b, a < b ↔ e a < e b) (dp un : Nat) (gd : Option (List Code)) (outer : List Env) (A₀ : Around) (base g : Heap) (L : Addr) (m₁ : Str → Option Value) (N₀ : List (Addr × Obj)) (s : Shared)
   (tA cX cM c x nt : Nat) (tx tk : Tok) (ox om : Obj) (ov : Option Value) (rv : List Value) (rows : List (List Nat)) (tl : List (Addr × Obj))
    (Q : Flow → Shared → Prop) (E : Value → Shared → Prop)
    (B : Below A₀ base outer g) (X : (K w.params).In g) (T : Top Mine.q (looseW Mine.q loose) mean mg mb g) (hdp : dp + 80 < recursionLimit) (hu : un + 600 < cLine)
    (F : Fr g L s.heap m₁) (N : News g L s.heap ((tA, listOf rv.toArray nt) :: (cX, ox) :: (cM, om) :: tl)) (o1 : @Ne Nat tA cX) (o2 : @Ne Nat tA cM) (o3 : @Ne Nat cX cM)
    (hox : ox.data = .cell (some (.int (e x) tx))) (hom : om.data = .cell ov) (q1 : ∀ p ∈ tl, p.1 ≠ tA) (q2 : ∀ p ∈ tl, p.1 ≠ cX) (q3 : ∀ p ∈ tl, p.1 ≠ cM) (hsub : ∀ p ∈ N₀, p ∈ tl)
    (htab : m₁ (PySem.Str.ofString "table") = some (.ref tA)) (hk : m₁ (PySem.Str.ofString "k") = some (.int ((0 : Nat) : Int) tk)) (hR : All2 (RowIs e tl) rv rows) (hnd : rv.Nodup) (hrv : rv.length < 60) (hc60 : ∀ r ∈ rows, r.length + c < 60) (hdis : ∀ p ∈ N₀, Value.ref p.1 ∉ rv)
    (hE : PassesOwn (model rw_wn0126_01.row.prog w) (ktrTop dp un gd tbN tableS L 280 (.ref 279) (tbCl cX cM) outer) (envX tbN tableS L 280 (.ref 279) (tbCl cX cM)) E)
    (hdone : ∀ h' tk m' (x' : Nat) (tx tk' : Tok) (pre rest : List (List Nat)) (rv : List Value) (nt : Nat) (ox om : Obj) (ov : Option Value) (tl : List (Addr × Obj)), Fr g L h' m' → News g L h' ((tA, listOf rv.toArray nt) :: (cX, ox) :: (cM, om) :: tl) → ox.data = .cell (some (.int (e x') tx)) → om.data = .cell ov → (∀ p ∈ tl, p.1 ≠ tA) → (∀ p ∈ tl, p.1 ≠ cX) → (∀ p ∈ tl, p.1 ≠ cM) → (∀ p ∈ N₀, p ∈ tl) →
      m' (PySem.Str.ofString "table") = some (.ref tA) → m' (PySem.Str.ofString "k") = some (.int (pre.length : Int) tk') → All2 (RowIs e tl) rv (pre ++ rest) → rv.Nodup → pre ++ insT x' rest = insT x rows → rv.length < 60 → (∀ r ∈ pre ++ rest, r.length + c < 60) → (∀ p ∈ N₀, Value.ref p.1 ∉ rv) → (∀ r t, rest = r :: t → bump x' r = none) → Q .next { s with heap := h', toks := tk }) :
    wpAny (model rw_wn0126_01.row.prog w) (ktrTop dp un gd tbN tableS L 280 (.ref 279) (tbCl cX cM) outer) (exec tbWhile (envX tbN tableS L 280 (.ref 279) (tbCl cX cM))) Q E s := by
  unfold tbWhile
  refine while_ind (TbJ e N₀ tA cX cM (insT x rows) c) (n₀ := rows.length) F N ?hJ hE ?turn
  case hJ => exact ⟨List.forall_mem_cons.mpr ⟨htab, List.forall_mem_nil _⟩, x, tx, tk, [], rows, rv, nt, ox, om, ov, tl, rfl, hox, hom, q1, q2, q3, hsub, hk, hR, hnd, rfl, rfl, hrv, hc60, hdis⟩
  case turn =>
    intro n m2 nw h2 tk2 F2 N2 hJ2
    exact tb_turn e he dp un gd outer A₀ base g L m2 nw N₀ { s with heap := h2, toks := tk2 } tA cX cM c n _ Q E B X T hdp hu F2 N2 o1 o2 o3 hJ2 hE hdone
inductive TbP (e : Nat → Int) (N₀ : List (Addr × Obj)) (tA cX cM : Addr) (res : List (List Nat)) (vs : List Value) (m : Str → Option Value) (nw : List (Addr × Obj)) : Prop
  | mk : (m (PySem.Str.ofString "table") = some (.ref tA)) → ∀ (xs : List Nat) (rows : List (List Nat)) (rv : List Value) (nt : Nat) (ox om : Obj) (ovx ov : Option Value) (tl : List (Addr × Obj)), (nw = (tA, listOf rv.toArray nt) :: (cX, ox) :: (cM, om) :: tl) → (ox.data = .cell ovx) → (om.data = .cell ov) → ((∀ p ∈ tl, p.1 ≠ tA)) → ((∀ p ∈ tl, p.1 ≠ cX)) → ((∀ p ∈ tl, p.1 ≠ cM)) → ((∀ p ∈ N₀, p ∈ tl)) → (IntsAre vs (xs.map e)) → (All2 (RowIs e tl) rv rows) → (rv.Nodup) → (xs.foldl (fun t x => insT x t) rows = res) → (rv.length + vs.length < 50) → ((∀ r ∈ rows, r.length + vs.length < 60)) → (∀ p ∈ N₀, Value.ref p.1 ∉ rv) → TbP e N₀ tA cX cM res vs m nw
theorem ins_len : ∀ (rows : List (List Nat)) (x : Nat), (insT x rows).length ≤ rows.length + 1
  | [], _ => Nat.le_refl _
  | r :: t, x => by
    cases h : bump x r with
    | none => rw [ins_none h]; exact Nat.le_succ _
    | some m => rw [ins_some h, List.length_cons, List.length_cons]; exact Nat.succ_le_succ (ins_len t m)
theorem u_close {g : Heap} {L I : Addr} {it : Obj} {s₁ : Shared} {h' : Heap} {tk : Nat} {m' : Str → Option Value} {all new : List (Addr × Obj)} {R : (Str → Option Value) → List (Addr × Obj) → Prop}
    (F : Fr g L h' m') (N : News g L h' all) (hI : (I, it) ∈ all) (hs : ∀ p ∈ new, p ∈ all) (ho : ∀ p ∈ new, p.1 ≠ I) (hr : R m' new) : UnrEndW g L s₁ [(I, it)] R { s₁ with heap := h', toks := tk } :=
  ⟨h', tk, m', new, rfl, F, fun p hp => by
    rcases List.mem_append.mp hp with hp | hp
    · exact N _ (List.mem_singleton.mp hp ▸ hI)
    · exact N _ (hs p hp), fun p hp q hq => by
    rw [List.mem_singleton.mp hq]
    exact ho p hp, hr⟩
theorem rows_mono {e : Nat → Int} {tl tl' : List (Addr × Obj)} : ∀ {vs : List Value} {rs : List (List Nat)}, All2 (RowIs e tl) vs rs → (∀ a n ws, Value.ref a ∈ vs → (a, listOf (List.toArray ws) n) ∈ tl → (a, listOf (List.toArray ws) n) ∈ tl') → All2 (RowIs e tl') vs rs
  | [], [], _, _ => trivial
  | v :: vs, r :: rs, ⟨⟨a, n, ws, e1, hm, q⟩, hr⟩, h => ⟨⟨a, n, ws, e1, h a n ws (e1 ▸ .head _) hm, q⟩, rows_mono hr fun a n ws hv hm => h a n ws (.tail _ hv) hm⟩
  | [], _ :: _, x, _ => x.elim
  | _ :: _, [], x, _ => x.elim
end Mine
end
section
open PySem PySem.W PyProof.Rows Mine PySem.Calls PySem.Spec PySem.Challenge
set_option maxRecDepth 100000
namespace Mine
section
set_option maxHeartbeats 16000000 in
theorem tb_for : ∀ {w : World} {mean : ExcName → Option Value} {mg mb : Str → Option Value} (e : Nat → Int) (he : ∀ a b, a < b ↔ e a < e b) (dp un : Nat) (gd : Option (List Code)) (outer : List Env) (A₀ : Around) (base g : Heap) (L : Addr) (m₁ : Str → Option Value) (tl N₀ : List (Addr × Obj)) (s : Shared) (h : Heap) (tk : Nat)
   (I nA nn tA cX cM : Addr) (it : Obj) (v : Value) (r vn : List Value) (res : List (List Nat))
    (Q : Flow → Shared → Prop) (E : Value → Shared → Prop)
    (B : Below A₀ base outer g) (X : (K w.params).In g) (T : Top Mine.q (looseW Mine.q loose) mean mg mb g) (hdp : dp + 90 < recursionLimit) (hu : un + 700 < cLine)
    (F : Fr g L h m₁) (N : News g L h ((I, it) :: tl)) (hoff : ∀ p ∈ tl, p.1 ≠ I) (hlm : (nA, listOf vn.toArray nn) ∈ tl) (hn0 : (nA, listOf vn.toArray nn) ∈ N₀) (o1 : @Ne Nat tA cX) (o2 : @Ne Nat tA cM) (o3 : @Ne Nat cX cM)
    (P : TbP e N₀ tA cX cM res (v :: r) m₁ tl)
    (hE : PassesOwn (model rw_wn0126_01.row.prog w) (ktrTop dp un gd tbN tableS L 280 (.ref 279) (tbCl cX cM) outer) (envX tbN tableS L 280 (.ref 279) (tbCl cX cM)) E),
   wpAny (model rw_wn0126_01.row.prog w) (ktrTop dp un gd tbN tableS L 280 (.ref 279) (tbCl cX cM) outer) (assign tbTgt (envX tbN tableS L 280 (.ref 279) (tbCl cX cM)) v) (fun _ s₂ => wpAny (model rw_wn0126_01.row.prog w) (ktrTop dp un gd tbN tableS L 280 (.ref 279) (tbCl cX cM) outer) (execs tbFor (envX tbN tableS L 280 (.ref 279) (tbCl cX cM)))
       (UnrPostW g L { s with heap := h, toks := tk } [(I, it)] (fun m' tl' => (nA, listOf vn.toArray nn) ∈ tl' ∧ TbP e N₀ tA cX cM res r m' tl') Q) E s₂) E { s with heap := h, toks := tk } := by
  k_with_none
  k_with "all" => first | with_reducible assumption | exact lt_ne (by with_reducible assumption) | exact allLt_ne (by first | with_reducible assumption | exact And.right (by assumption) | exact And.right (And.right (by assumption)) | exact And.right (And.right (And.right (by assumption)))) | (refine' List.forall_mem_cons.mpr ⟨(by k_ne), (by k_all)⟩)
  k_with "ne" => first | with_reducible assumption | exact Ne.symm (by with_reducible assumption) | (refine neN ?_; (try dsimp only); walk_at "om")
  k_with "UnrEndW" => refine Stop.mk ?_
  k_with "exec While" => refine Stop.mk ?_
  k_with "call builtin:list.append" => refine Stop.mk ?_
  k_with "call builtin:len" => (k_here; k_dflt (refine' lf_len (by k_asm) (by k_mem) (by with_reducible assumption) (by walk_at "om") ?_; k_whole); (try dsimp only))
  k_with "subscriptTail" => (k_here; k_dflt (refine' lf_item (by k_asm) (by k_mem) ?_ ?_ (by with_reducible assumption) ?_; (walk_at "om"); (walk_at "om"); k_whole))
  k_fill
  intro w mean mg mb e he dp un gd outer A₀ base g L m₁ tl N₀ s h tk I nA nn tA cX cM it v r vn res Q E B X T hdp hu F N hoff hlm hn0 o1 o2 o3 P hE
  obtain ⟨hcst, xs, rows, rv, nt, ox, om, ovx, ov, tl, rfl, hox, hom, q1, q2, q3, hsub, hI, hR, hnd, hres, hlen, hrl, hdis⟩ := P
  have F := fr_ov [(PySem.Str.ofString "table", .ref tA)] (List.forall_mem_cons.mpr ⟨hcst, List.forall_mem_nil _⟩) F
  dsimp (instances := true) only [kstB] at F
  have i1 : @Ne Nat tA I := hoff _ (.head _)
  have i2 : @Ne Nat cX I := hoff _ (.tail _ (.head _))
  have i3 : @Ne Nat cM I := hoff _ (.tail _ (.tail _ (.head _)))
  have i4 : ∀ p ∈ tl, p.1 ≠ I := fun p hp => hoff p (.tail _ (.tail _ (.tail _ hp)))
  match xs, hI, hres with
  | [], hI, _ => exact absurd hI.length (by simp)
  | x :: xs, hI, hres =>
    generalize hGz : wpAny _ _ _ _ _ _ = Gz
    obtain ⟨tx, vs', e1, hI2⟩ := IntsAre.cons_inv hI
    cases e1
    subst hGz
    rw [List.length_cons] at hlen hrl
    delta tbTgt tbFor
    dsimp only
    k_steps
    refine Stop.on ?_
    rename_i hz1 ox2 hox2 hz2 F2 N2
    have N3 : News g L hz2 ((tA, listOf rv.toArray nt) :: (cX, ox2) :: (cM, om) :: (I, it) :: tl) := fun p hp => N2 p (by
      rcases List.mem_cons.mp hp with rfl | hp
      · exact .tail _ (.head _)
      · rcases List.mem_cons.mp hp with rfl | hp
        · exact .tail _ (.tail _ (.head _))
        · rcases List.mem_cons.mp hp with rfl | hp
          · exact .tail _ (.tail _ (.tail _ (.head _)))
          · rcases List.mem_cons.mp hp with rfl | hp
            · exact .head _
            · exact .tail _ (.tail _ (.tail _ (.tail _ hp))))
    refine' tb_while e he dp un gd outer _ _ g L _ ((I, it) :: N₀) _ tA cX cM (r.length + 1) x nt tx _ ox2 om ov rv rows ((I, it) :: tl) _ _ B X T (by walk_at "om") (by walk_at "om") F2 N3 o1 o2 o3 hox2 hom ?p1 ?p2 ?p3 ?hsub ?htab ?hk (All2.mono (RowIs.mono fun p hp => .tail _ hp) hR) hnd (by walk_at "om") hrl ?hdis hE ?hdone
    case p1 => exact List.forall_mem_cons.mpr ⟨Ne.symm i1, q1⟩
    case p2 => exact List.forall_mem_cons.mpr ⟨Ne.symm i2, q2⟩
    case p3 => exact List.forall_mem_cons.mpr ⟨Ne.symm i3, q3⟩
    case hsub => exact List.forall_mem_cons.mpr ⟨.head _, fun p hp => .tail _ (hsub p hp)⟩
    case htab => with_unfolding_all rfl
    case hk => with_unfolding_all rfl
    case hdis => exact List.forall_mem_cons.mpr ⟨rows_ne i4 hR, hdis⟩
    case hdone =>
      intro h7 tk7 m7 x7 tx7 tk8 pre rest rv7 nt7 ox7 om7 ov7 tl7 F7 N7 hox7 hom7 z1 z2 z3 hsub7 htab7 hk7 hR7 hnd7 hres7 hrv7 hc7 hdis7 hb7
      dsimp only
      clear F2 N2 N3
      have hI7 : (I, it) ∈ tl7 := hsub7 _ (.head _)
      have hrl7 := hR7.length
      rw [List.length_append] at hrl7
      have F8 := fr_ov [(PySem.Str.ofString "table", .ref tA), (PySem.Str.ofString "k", .int (pre.length : Int) tk8)] (List.forall_mem_cons.mpr ⟨htab7, List.forall_mem_cons.mpr ⟨hk7, List.forall_mem_nil _⟩⟩) F7
      dsimp (instances := true) only [kstB] at F8
      clear F7
      have hil := ins_len rows x
      have hrr := hR.length
      rw [← hres7, List.length_append] at hil
      match rest, hR7, hres7, hrl7, hc7, hb7, hil with
      | [], hR7, hres7, hrl7, hc7, hb7, hil =>
        rw [List.length_nil, Nat.add_zero] at hrl7
        k_steps
        all_goals first | (exfalso; walk_at "om") | skip
        refine Stop.on ?_
        rename_i D9 hz9 F9 N9 l9
        refine append_K F9 N9 (by k_upd) ?_ (by rw [List.size_toArray, sizeLine_eq]; walk_at "om")
        intro h10 F10 N10
        rw [List.push_toArray] at N10
        (try dsimp only [List.nil_append, List.cons_append] at N10)
        k_steps
        refine Stop.on ?_
        have hlt9 : ∀ p ∈ tl7, p.1 ≠ D9 := fun p hp => Nat.ne_of_lt (allLt_lt l9.2.2.2 p hp)
        have hDI : @Ne Nat D9 I := Nat.ne_of_gt (allLt_lt l9.2.2.2 _ hI7)
        have hin : ∀ p ∈ tl7, p.1 ≠ I → p ∈ offD I tl7 := fun p hp h => offD_mem hp h
        refine u_close (new := (tA, listOf (rv7 ++ [Value.ref D9]).toArray (nt7 + 1)) :: (cX, ox7) :: (cM, om7) :: (D9, listOf #[Value.int (e x7) tx7] 0) :: offD I tl7) F10 N10 (by k_mem) ?hs ?ho ?hr
        case hs =>
          intro p hp
          rcases List.mem_cons.mp hp with rfl | hp
          · k_mem
          · rcases List.mem_cons.mp hp with rfl | hp
            · k_mem
            · rcases List.mem_cons.mp hp with rfl | hp
              · k_mem
              · rcases List.mem_cons.mp hp with rfl | hp
                · k_mem
                · exact .tail _ (.tail _ (.tail _ (.tail _ (offD_sub hp))))
        case ho => exact List.forall_mem_cons.mpr ⟨i1, List.forall_mem_cons.mpr ⟨i2, List.forall_mem_cons.mpr ⟨i3, List.forall_mem_cons.mpr ⟨hDI, fun p hp => offD_ne hp⟩⟩⟩⟩
        case hr =>
          have hN : ∀ p ∈ N₀, p ∈ (D9, listOf #[Value.int (e x7) tx7] 0) :: offD I tl7 := fun p hp => .tail _ (hin p (hsub7 p (.tail _ hp)) (i4 p (hsub p hp)))
          have hRr : ∀ {vs : List Value} {rs : List (List Nat)}, All2 (RowIs e tl7) vs rs → Value.ref I ∉ vs → All2 (RowIs e ((D9, listOf #[Value.int (e x7) tx7] 0) :: offD I tl7)) vs rs := fun {vs rs} h1 h2 => rows_mono h1 fun a n ws hv hm => .tail _ (hin _ hm fun ea => h2 (by rw [← ea]; exact hv))
          refine' ⟨.tail _ (.tail _ (.tail _ (hN _ hn0))), (by with_unfolding_all rfl), xs, pre ++ [[x7]], rv7 ++ [Value.ref D9], _, _, _, _, _, _, rfl, hox7, hom7, ?o1, ?o2, ?o3, hN, hI2, ?hR, ?hnd, ?hres, ?hl, ?hc, ?hd⟩
          case o1 => exact List.forall_mem_cons.mpr ⟨Nat.ne_of_gt l9.1, fun p hp => z1 p (offD_sub hp)⟩
          case o2 => exact List.forall_mem_cons.mpr ⟨Nat.ne_of_gt l9.2.1, fun p hp => z2 p (offD_sub hp)⟩
          case o3 => exact List.forall_mem_cons.mpr ⟨Nat.ne_of_gt l9.2.2.1, fun p hp => z3 p (offD_sub hp)⟩
          case hR =>
            rw [List.append_nil] at hR7
            exact All2.append (hRr hR7 (hdis7 _ (.head _))) (All2.cons ⟨D9, 0, [Value.int (e x7) tx7], rfl, .head _, .cons _ _ .nil, by simp, by simp⟩ All2.nil)
          case hnd =>
            refine List.nodup_append.mpr ⟨hnd7, List.nodup_cons.mpr ⟨by simp, List.nodup_nil⟩, fun y hy z hz => ?_⟩
            rw [List.mem_singleton.mp hz]
            rw [List.append_nil] at hR7
            exact fun ey => rows_ne hlt9 hR7 (ey ▸ hy)
          case hres => rw [← hres, List.foldl_cons, ← hres7]; rfl
          case hl =>
            have : (insT x7 []).length = 1 := rfl
            rw [List.length_append, List.length_singleton]; walk_at "om"
          case hc =>
            intro r' hr'
            rcases List.mem_append.mp hr' with h | h
            · have := hc7 r' (List.mem_append_left _ h); walk_at "om"
            · rw [List.mem_singleton.mp h, List.length_singleton]; walk_at "om"
          case hd =>
            intro p hp hm
            rcases List.mem_append.mp hm with h | h
            · exact hdis7 p (.tail _ hp) h
            · exact hlt9 _ (hsub7 p (.tail _ hp)) (Value.ref.inj (List.mem_singleton.mp h))
      | r1 :: t1, hR7, hres7, hrl7, hc7, hb7, hil =>
        have hb8 := hb7 r1 t1 rfl
        generalize hGz : wpAny _ _ _ _ _ _ = Gz
        obtain ⟨va, v1, vb, rfl, hva, hv, hvb, hvl⟩ := all2_at hR7
        obtain ⟨rA, nr, vr, rfl, hrA, hIr, hne, hr60⟩ := hv
        subst hGz
        have hat : (va ++ Value.ref rA :: vb)[((pre.length : Nat) : Int).toNat]? = some (.ref rA) := by
          rw [Int.toNat_natCast, ← hvl, List.getElem?_append_right (Nat.le_refl _), Nat.sub_self]; rfl
        rw [List.length_cons] at hrl7
        k_steps
        all_goals first | (exfalso; walk_at "om") | skip
        refine Stop.on ?_
        have c1 : ∀ p ∈ tl7, p.1 ≠ rA → p ∈ offL [rA] tl7 := fun p hp h => offL_mem hp fun d hd => by rw [List.mem_singleton.mp hd]; exact h
        have r1n : @Ne Nat rA tA := z1 _ hrA
        have r2n : @Ne Nat rA cX := z2 _ hrA
        have r3n : @Ne Nat rA cM := z3 _ hrA
        have hdI : @Ne Nat rA I := fun h => hdis7 _ (.head _) (h ▸ List.mem_append_right _ (.head _))
        have N9 : News g L h7 ((rA, listOf vr.toArray nr) :: (tA, listOf (va ++ Value.ref rA :: vb).toArray nt7) :: (cX, ox7) :: (cM, om7) :: offL [rA] tl7) := fun p hp => by
          rcases List.mem_cons.mp hp with rfl | hp
          · exact N7 _ (.tail _ (.tail _ (.tail _ hrA)))
          · rcases List.mem_cons.mp hp with rfl | hp
            · exact N7 _ (.head _)
            · rcases List.mem_cons.mp hp with rfl | hp
              · exact N7 _ (.tail _ (.head _))
              · rcases List.mem_cons.mp hp with rfl | hp
                · exact N7 _ (.tail _ (.tail _ (.head _)))
                · exact N7 _ (.tail _ (.tail _ (.tail _ (offL_sub hp))))
        have k4 : ∀ p ∈ offL [rA] tl7, p.1 ≠ rA := fun p hp => offL_ne hp (by simp)
        have hvrl := hIr.length
        rw [List.length_map] at hvrl
        clear N7
        refine append_K (by k_asm) N9 (by k_upd) ?_ (by rw [List.size_toArray, sizeLine_eq]; walk_at "om")
        intro h10 F10 N10
        rw [List.push_toArray] at N10
        (try dsimp only [List.nil_append, List.cons_append] at N10)
        k_steps
        refine Stop.on ?_
        have hin : ∀ p ∈ tl7, p.1 ≠ rA → p.1 ≠ I → p ∈ offL [rA, I] tl7 := fun p hp a c => offL_mem hp fun d hd => by
          rcases List.mem_cons.mp hd with rfl | hd
          · exact a
          · rw [List.mem_singleton.mp hd]; exact c
        have hdA : ∀ p ∈ N₀, p.1 ≠ rA := fun p hp h => hdis7 p (.tail _ hp) (h ▸ List.mem_append_right _ (.head _))
        refine u_close (new := (tA, listOf (va ++ Value.ref rA :: vb).toArray nt7) :: (cX, ox7) :: (cM, om7) :: (rA, listOf (vr ++ [Value.int (e x7) tx7]).toArray (nr + 1)) :: offL [rA, I] tl7) F10 N10 (.tail _ (.tail _ (.tail _ (.tail _ (c1 _ hI7 (Ne.symm hdI)))))) ?hs ?ho ?hr
        case hs =>
          intro p hp
          rcases List.mem_cons.mp hp with rfl | hp
          · k_mem
          · rcases List.mem_cons.mp hp with rfl | hp
            · k_mem
            · rcases List.mem_cons.mp hp with rfl | hp
              · k_mem
              · rcases List.mem_cons.mp hp with rfl | hp
                · k_mem
                · exact .tail _ (.tail _ (.tail _ (.tail _ (c1 _ (offL_sub hp) (offL_ne hp (by simp))))))
        case ho => exact List.forall_mem_cons.mpr ⟨i1, List.forall_mem_cons.mpr ⟨i2, List.forall_mem_cons.mpr ⟨i3, List.forall_mem_cons.mpr ⟨hdI, fun p hp => offL_ne hp (by simp)⟩⟩⟩⟩
        case hr =>
          have hN : ∀ p ∈ N₀, p ∈ (rA, listOf (vr ++ [Value.int (e x7) tx7]).toArray (nr + 1)) :: offL [rA, I] tl7 := fun p hp => .tail _ (hin p (hsub7 p (.tail _ hp)) (hdA p hp) (i4 p (hsub p hp)))
          have hRr : ∀ {vs : List Value} {rs : List (List Nat)}, All2 (RowIs e tl7) vs rs → Value.ref I ∉ vs → Value.ref rA ∉ vs → All2 (RowIs e ((rA, listOf (vr ++ [Value.int (e x7) tx7]).toArray (nr + 1)) :: offL [rA, I] tl7)) vs rs := fun {vs rs} h1 h2 h3 => rows_mono h1 fun a n ws hv hm => .tail _ (hin _ hm (fun ea => h3 (by rw [← ea]; exact hv)) fun ea => h2 (by rw [← ea]; exact hv))
          have hnA : Value.ref rA ∉ va := fun hm => (List.nodup_append.mp hnd7).2.2 _ hm _ (.head _) rfl
          have hnB : Value.ref rA ∉ vb := (List.nodup_cons.mp (List.nodup_append.mp hnd7).2.1).1
          have hIA : Value.ref I ∉ va := fun hm => hdis7 _ (.head _) (List.mem_append_left _ hm)
          have hIB : Value.ref I ∉ vb := fun hm => hdis7 _ (.head _) (List.mem_append_right _ (.tail _ hm))
          have hc8 := hc7 r1 (List.mem_append_right _ (.head _))
          refine' ⟨.tail _ (.tail _ (.tail _ (hN _ hn0))), (by with_unfolding_all rfl), xs, pre ++ (r1 ++ [x7]) :: t1, va ++ Value.ref rA :: vb, _, _, _, _, _, _, rfl, hox7, hom7, ?o1, ?o2, ?o3, hN, hI2, ?hR, hnd7, ?hres, ?hl, ?hc, ?hd⟩
          case o1 => exact List.forall_mem_cons.mpr ⟨r1n, fun p hp => z1 p (offL_sub hp)⟩
          case o2 => exact List.forall_mem_cons.mpr ⟨r2n, fun p hp => z2 p (offL_sub hp)⟩
          case o3 => exact List.forall_mem_cons.mpr ⟨r3n, fun p hp => z3 p (offL_sub hp)⟩
          case hR => exact All2.append (hRr hva hIA hnA) (All2.cons ⟨rA, _, _, rfl, .head _, by rw [List.map_append]; exact ints_snoc hIr, by simp, by rw [List.length_append, List.length_singleton]; walk_at "om"⟩ (hRr hvb hIB hnB))
          case hres => rw [← hres, List.foldl_cons, ← hres7, ins_none hb8]
          case hl =>
            rw [ins_none hb8, List.length_cons] at hil
            walk_at "om"
          case hc =>
            intro r' hr'
            rcases List.mem_append.mp hr' with h | h
            · have := hc7 r' (List.mem_append_left _ h); walk_at "om"
            · rcases List.mem_cons.mp h with rfl | h
              · rw [List.length_append, List.length_singleton]; walk_at "om"
              · have := hc7 r' (List.mem_append_right _ (.tail _ h)); walk_at "om"
          case hd => exact fun p hp => hdis7 p (.tail _ hp)
end
end Mine
end
theorem Mine.rs49 : True := by (k_with_none; trivial)
section
open PySem PySem.W PyProof.Rows Mine PySem.Calls PySem.Spec PySem.Challenge
set_option maxRecDepth 100000
namespace Mine
end Mine
end
section
open PySem PySem.W PyProof.Rows Mine PySem.Calls PySem.Spec PySem.Challenge
set_option maxRecDepth 100000
namespace Mine
section
set_option maxHeartbeats 16000000 in
theorem table_tells : ∀ {w : World} {mean : ExcName → Option Value} {mg mb : Str → Option Value} (e : Nat → Int) (he : ∀ a b, a < b ↔ e a < e b)
   (dp un : Nat) (gd : Option (List Code)) (cn : Str) (cs : Scope) (a : Addr) (ccd : Value) (cl : List (Str × Addr)) (outer : List Env) (A₀ : Around) (base h₀ : Heap) (L : Addr) (m : Str → Option Value) (tl : List (Addr × Obj)) (s : Shared)
   (nA nn : Nat) (vn : List Value) (xs : List Nat)
    (Q E : Value → Shared → Prop)
    (B : Below A₀ base outer h₀) (F : Fr h₀ L s.heap m) (X : (K w.params).In h₀) (N : News h₀ L s.heap tl)
    (T : Top q (looseW q loose) mean mg mb h₀) (hk : cs.kind = .function)
    (hn : (nA, listOf vn.toArray nn) ∈ tl) (hI : IntsAre vn (xs.map e)) (h60 : xs.length < 40)
    (hdp : dp + 100 < recursionLimit) (hu : un + 800 < cLine)
    (hret : ∀ S h' tk' tl' vs' n', Fr h₀ L h' m → News h₀ L h' ((S, listOf vs'.toArray n') :: tl') → (∀ p ∈ tl, p ∈ tl') → All2 (RowIs e tl') vs' (tableM xs) → Q (.ref S) { s with heap := h', toks := tk' }),
    wpAny (model rw_wn0126_01.row.prog w) (ktrTop dp un gd cn cs L a ccd cl outer) (call (.ref 280) [.ref nA]) Q E s := by
  k_with_none
  k_with "all" => first | with_reducible assumption | exact lt_ne (by with_reducible assumption) | exact allLt_ne (by first | with_reducible assumption | exact And.right (by assumption) | exact And.right (And.right (by assumption)) | exact And.right (And.right (And.right (by assumption)))) | (refine' List.forall_mem_cons.mpr ⟨(by k_ne), (by k_all)⟩)
  k_with "ne" => first | with_reducible assumption | exact Ne.symm (by with_reducible assumption) | (refine neN ?_; (try dsimp only); walk_at "om")
  k_with "unf" => walk_at "m6"
  k_with "pyIter ref" => refine Stop.mk ?_
  k_with "exec For Name Name cons nil" => walk_at "m2"
  k_fill
  intro w mean mg mb e he dp un gd cn cs a ccd cl outer A₀ base h₀ L m tl s nA nn vn xs Q E B F X N T hk hn hI h60 hdp hu hret
  have hvn := hI.length
  rw [List.length_map] at hvn
  refine wpAny_call ?_
  k_dflt ktr_unf
  k_steps
  refine Stop.on ?_
  rename_i g1 L1 hz1 hz2 FG B1 X1 T1 hltL om ox hom hox tA hz3 hl2 hz4 F1 N1
  have n1 : ∀ p ∈ tl, p.1 ≠ tA := fun p hp => Nat.ne_of_lt (allLt_lt hl2.2.2 p hp)
  have n2 : ∀ p ∈ tl, p.1 ≠ L1 + 1 := fun p hp => Nat.ne_of_lt (Nat.lt_succ_of_lt (hltL p hp))
  have n3 : ∀ p ∈ tl, p.1 ≠ L1 + 1 + 1 := fun p hp => Nat.ne_of_lt (Nat.lt_succ_of_lt (Nat.lt_succ_of_lt (hltL p hp)))
  have o1 : @Ne Nat tA (L1 + 1) := Nat.ne_of_gt hl2.2.1
  have o2 : @Ne Nat tA (L1 + 1 + 1) := Nat.ne_of_gt hl2.1
  have o3 : @Ne Nat (L1 + 1) (L1 + 1 + 1) := Nat.ne_of_lt (Nat.lt_succ_self _)
  have N2 : News g1 L1 hz4 ((tA, listOf ([] : List Value).toArray 0) :: (L1 + 1, ox) :: (L1 + 1 + 1, om) :: tl) := fun p hp => N1 p (by
    rcases List.mem_cons.mp hp with rfl | hp
    · exact .head _
    · rcases List.mem_cons.mp hp with rfl | hp
      · exact .tail _ (.tail _ (.head _))
      · rcases List.mem_cons.mp hp with rfl | hp
        · exact .tail _ (.head _)
        · exact .tail _ (.tail _ (.tail _ hp)))
  refine list_at (h₀ := g1) (TbP e tl tA (L1 + 1) (L1 + 1 + 1) (tableM xs)) rfl F1 N2 (.tail _ (.tail _ (.tail _ hn))) ?h0 ?turn ?done
  case h0 => exact ⟨by with_unfolding_all rfl, xs, [], [], 0, ox, om, _, _, tl, rfl, hox, hom, n1, n2, n3, fun p hp => hp, hI, All2.nil, List.nodup_nil, rfl, (by rw [List.length_nil]; walk_at "om"), (by intro r h; cases h), (by intro p _ h; cases h)⟩
  case turn =>
    intro I v r m' tl' it h5 tk5 hI5 hP hlm hoff F5 N5
    exact tb_for e he (dp + 1) (un + 3) gd (envX cn cs L a ccd cl :: outer) _ _ g1 L1 m' tl' tl _ h5 tk5 I nA nn tA (L1 + 1) (L1 + 1 + 1) it v r vn _ _ _ B1 X1 T1 (by walk_at "om") (by walk_at "om") F5 N5 hoff hlm hn o1 o2 o3 hP (by passes_own)
  case done =>
    intro m' tl' h5 tk5 hP F5 N5
    obtain ⟨hcst, xs', rows, rv, nt, ox2, om2, ovx, ov, tl9, rfl, hox2, hom2, q1, q2, q3, hsub, hI9, hR9, hnd9, hres9, hlen9, hrl9, hdis9⟩ := hP
    match xs', hI9, hres9 with
    | _ :: _, hI9, _ => exact absurd hI9.length (by simp)
    | [], _, hres9 =>
      have hres9 : rows = tableM xs := hres9
      subst hres9
      have F7 := fr_ov [(PySem.Str.ofString "table", .ref tA)] (List.forall_mem_cons.mpr ⟨hcst, List.forall_mem_nil _⟩) F5
      dsimp (instances := true) only [kstB] at F7
      dsimp only
      have N7 : News g1 L1 h5 ((tA, listOf rv.toArray nt) :: tl9) := fun p hp => N5 p (by
        rcases List.mem_cons.mp hp with rfl | hp
        · exact .head _
        · exact .tail _ (.tail _ (.tail _ hp)))
      clear F5 N5
      k_steps
      exact hret tA _ _ tl9 rv nt (by assumption) (by assumption) hsub hR9
end
end Mine
end
theorem Mine.rs50 : True := by (k_with_none; trivial)
section
open PySem PySem.W PyProof.Rows Mine PySem.Calls PySem.Spec PySem.Challenge
set_option maxRecDepth 100000
namespace Mine
noncomputable abbrev lawN : Str := PySem.Str.ofString "law"
noncomputable abbrev lawCl (cC cB : Addr) : List (Str × Addr) := [(PySem.Str.ofString "base", cB), (PySem.Str.ofString "counts", cC)]
/-- the count lists that the law makes -/
inductive Reach : Nat → List Nat → Prop
  | zero : Reach 0 [0]
  | succ {n p : Nat} {cs : List Nat} : Reach n cs → p < n + 2 → Reach (n + 1) (putM p (n + 1) cs)
theorem Reach.length {n : Nat} {cs : List Nat} (h : Reach n cs) : cs.length = n + 1 := by
  induction h with
  | zero => rfl
  | succ h hp ih => unfold putM; rw [List.length_append, List.length_cons, List.length_take, List.length_drop, ih]; walk_at "om"
theorem reach_inv {n : Nat} {cs : List Nat} (h : Reach (n + 1) cs) : ∃ p cs', Reach n cs' ∧ p < n + 2 ∧ cs = putM p (n + 1) cs' := by
  generalize e : n + 1 = k at h
  cases h with
  | zero => cases e
  | succ h hp => cases e; exact ⟨_, _, h, hp, rfl⟩
theorem reach_zero {cs : List Nat} (h : Reach 0 cs) : cs = [0] := by
  generalize e : 0 = k at h
  cases h with
  | zero => rfl
  | succ _ _ => cases e
theorem reach_law {cs : List Nat} (h : Reach 4 cs) : lawM2 cs = true := by
  obtain ⟨d, c4, h4, hd, e4⟩ := reach_inv h
  obtain ⟨c, c3, h3, hc, e3⟩ := reach_inv h4
  obtain ⟨b, c2, h2, hb, e2⟩ := reach_inv h3
  obtain ⟨a, c1, h1, ha, e1⟩ := reach_inv h2
  have e0 := reach_zero h1
  rw [e4, e3, e2, e1, e0]
  have z := allM2_ok
  unfold allM2 at z
  exact List.all_eq_true.mp (List.all_eq_true.mp (List.all_eq_true.mp (List.all_eq_true.mp z _ (List.mem_range.mpr ha)) _ (List.mem_range.mpr hb)) _ (List.mem_range.mpr hc)) _ (List.mem_range.mpr hd)
theorem ints_ins {k : Int} {t : Tok} : ∀ {p : Nat} {vs : List Value} {ns : List Int}, IntsAre vs ns → p ≤ ns.length → IntsAre (vs.take p ++ .int k t :: vs.drop p) (ns.take p ++ k :: ns.drop p)
  | 0, vs, ns, h, _ => .cons k t h
  | p + 1, _, _, .nil, hp => absurd hp (by simp)
  | p + 1, _, _, .cons n u h, hp => .cons n u (ints_ins h (by simpa using hp))
theorem kl_ins_nat {p : Nat} {vc : List Value} {y : Value} (h : p ≤ vc.length) : kl_ins vc (p : Int) y = vc.take p ++ y :: vc.drop p := by
  unfold kl_ins
  rw [if_neg (by walk_at "om"), Int.toNat_natCast, Nat.min_eq_left h]
noncomputable abbrev iN : Nat → Int := fun n => (n : Int)
inductive LaP (N₀ : List (Addr × Obj)) (sA kA : Addr) (r : List Value) (m : Str → Option Value) (nw : List (Addr × Obj)) : Prop
  | mk : (m (PySem.Str.ofString "script") = some (.ref sA)) → ∀ (rs : List Int) (cs : List Nat) (vc : List Value) (nc : Nat) (tl : List (Addr × Obj)), (nw = (kA, listOf vc.toArray nc) :: tl) → ((∀ p ∈ tl, p.1 ≠ kA)) → ((∀ p ∈ N₀, p ∈ tl)) → (IntsAre r rs) → (IntsAre vc (cs.map iN)) → (Reach (4 - r.length) cs) → (r.length ≤ 4) → LaP N₀ sA kA r m nw
noncomputable def lwFor : List Stmt := by
  refine (fun (l : List Stmt) (_ : forBody (nth lawB 1) = l) => l) ?x ?h
  case h => (conv => lhs; whnf)
noncomputable def lwTgt : PySem.Expr := by
  refine (fun (l : PySem.Expr) (_ : forTgt (nth lawB 1) = l) => l) ?x ?h
  case h => (conv => lhs; whnf)
end Mine
end
section
open PySem PySem.W PyProof.Rows Mine PySem.Calls PySem.Spec PySem.Challenge
set_option maxRecDepth 100000
namespace Mine
section
set_option maxHeartbeats 16000000 in
theorem la_turn : ∀ {w : World} {mean : ExcName → Option Value} {mg mb : Str → Option Value} (dp un : Nat) (gd : Option (List Code)) (a : Addr) (ccd : Value) (outer : List Env) (A₀ : Around) (base g : Heap) (L : Addr) (m₁ : Str → Option Value) (tl N₀ : List (Addr × Obj)) (s : Shared) (h : Heap) (tk : Nat)
   (I dA nd sA kA cC cB : Addr) (oC : Obj) (it : Obj) (v : Value) (r vd : List Value)
    (Q : Flow → Shared → Prop) (E : Value → Shared → Prop)
    (B : Below A₀ base outer g) (X : (K w.params).In g) (T : Top Mine.q (looseW Mine.q loose) mean mg mb g) (hdp : dp + 200 < recursionLimit) (hu : un + 1500 < cLine)
    (F : Fr g L h m₁) (N : News g L h ((I, it) :: tl)) (hoff : ∀ p ∈ tl, p.1 ≠ I) (hlm : (dA, listOf vd.toArray nd) ∈ tl) (hdk : @Ne Nat dA kA) (hcC : (cC, oC) ∈ N₀) (hoC : oC.data = .cell (some (.ref kA)))
    (P : LaP N₀ sA kA (v :: r) m₁ tl)
    (hE : PassesOwn (model rw_wn0126_01.row.prog w) (ktrTop dp un gd lawN lawS L a ccd (lawCl cC cB) outer) (envX lawN lawS L a ccd (lawCl cC cB)) E),
   wpAny (model rw_wn0126_01.row.prog w) (ktrTop dp un gd lawN lawS L a ccd (lawCl cC cB) outer) (assign lwTgt (envX lawN lawS L a ccd (lawCl cC cB)) v) (fun _ s₂ => wpAny (model rw_wn0126_01.row.prog w) (ktrTop dp un gd lawN lawS L a ccd (lawCl cC cB) outer) (execs lwFor (envX lawN lawS L a ccd (lawCl cC cB)))
       (UnrPostW g L { s with heap := h, toks := tk } [(I, it)] (fun m' tl' => (dA, listOf vd.toArray nd) ∈ tl' ∧ LaP N₀ sA kA r m' tl') Q) E s₂) E { s with heap := h, toks := tk } := by
  k_with_none
  k_with "all" => first | with_reducible assumption | exact lt_ne (by with_reducible assumption) | exact allLt_ne (by first | with_reducible assumption | exact And.right (by assumption) | exact And.right (And.right (by assumption)) | exact And.right (And.right (And.right (by assumption)))) | exact List.forall_mem_nil _ | (refine' List.forall_mem_cons.mpr ⟨(by k_ne), (by k_all)⟩)
  k_with "ne" => first | with_reducible assumption | exact Ne.symm (by with_reducible assumption) | (refine neN ?_; (try dsimp only); walk_at "om")
  k_with "UnrEndW" => refine Stop.mk ?_
  k_with "pyIter ref" => refine Stop.mk ?_
  k_with "exec For Name Subscript cons nil" => walk_at "m2"
  k_with "call builtin:list.insert" => refine Stop.mk ?_
  k_with "call builtin:len" => (k_here; k_dflt (refine' lf_len (by k_asm) (by k_mem) (by with_reducible assumption) (by walk_at "om") ?_; k_whole); (try dsimp only))
  k_fill
  intro w mean mg mb dp un gd a ccd outer A₀ base g L m₁ tl N₀ s h tk I dA nd sA kA cC cB oC it v r vd Q E B X T hdp hu F N hoff hlm hdk hcC hoC P hE
  obtain ⟨hcst, rs, cs, vc, nc, tl, rfl, q1, hsub, hIr, hIc, hRe, hr4⟩ := P
  have F := fr_ov [(PySem.Str.ofString "script", .ref sA)] (List.forall_mem_cons.mpr ⟨hcst, List.forall_mem_nil _⟩) F
  dsimp (instances := true) only [kstB] at F
  have hkI : @Ne Nat kA I := hoff _ (.head _)
  have hcC' := hsub _ hcC
  rw [List.length_cons] at hr4 hRe
  have hcl := hRe.length
  have hvc := hIc.length
  rw [List.length_map] at hvc
  match rs, hIr with
  | [], hIr => exact absurd hIr.length (by simp)
  | x :: rs, hIr =>
    obtain ⟨tx, vs', e1, hI2⟩ := IntsAre.cons_inv hIr
    cases e1
    delta lwTgt lwFor
    dsimp only
    k_steps
    refine Stop.on ?_
    rename_i hz1 F2 N2
    obtain ⟨p, hp, hpl⟩ : ∃ p : Nat, x.fmod ((cs.length : Int) + 1) = (p : Int) ∧ p < cs.length + 1 := by
      have h0 : (0 : Int) < (cs.length : Int) + 1 := by walk_at "om"
      have e := Int.fmod_eq_emod_of_nonneg x (Int.le_of_lt h0)
      have h1 := Int.emod_nonneg x (Int.ne_of_gt h0)
      have h2 := Int.emod_lt_of_pos x h0
      exact ⟨(x % ((cs.length : Int) + 1)).toNat, by rw [e]; walk_at "om", by walk_at "om"⟩
    rw [hp]
    refine kl_insert F2 N2 ?f rfl (by k_upd) ?z ?h
    case f =>
      unfold Builtin.List.listFitsIndex
      simp only [Bool.and_eq_true, decide_eq_true_eq]
      walk_at "om"
    case z => (rw [List.toList_toArray, sizeLine_eq]; walk_at "om")
    case h =>
      intro h7 F7 N7
      (try dsimp only [List.nil_append, List.cons_append] at N7)
      k_steps
      refine Stop.on ?_
      have hlm2 : (dA, listOf vd.toArray nd) ∈ tl := by
        rcases List.mem_cons.mp hlm with e | e
        · exact absurd (congrArg Prod.fst e) hdk
        · exact e
      have hpn : p < (4 - (r.length + 1)) + 2 := by walk_at "om"
      have hRe2 := Reach.succ hRe hpn
      have hle : 4 - (r.length + 1) + 1 = 4 - r.length := by walk_at "om"
      rw [hle] at hRe2
      have hcl2 : cs.length = 4 - r.length := by walk_at "om"
      refine u_close (new := (kA, listOf (kl_ins vc (p : Int) _).toArray (nc + 1)) :: tl) F7 N7 (.head _) (fun p hp => .tail _ hp) (List.forall_mem_cons.mpr ⟨hkI, fun p hp => hoff p (.tail _ hp)⟩) ?hr
      refine' ⟨.tail _ hlm2, by with_unfolding_all rfl, rs, putM p (4 - r.length) cs, _, _, tl, rfl, q1, hsub, hI2, ?hI, hRe2, by walk_at "om"⟩
      have e2 : (putM p (4 - r.length) cs).map iN = (cs.map iN).take p ++ ((cs.length : Nat) : Int) :: (cs.map iN).drop p := by
        unfold putM
        rw [List.map_append, List.map_cons, List.map_take, List.map_drop, hcl2]
      rw [e2, kl_ins_nat (by walk_at "om")]
      exact ints_ins hIc (by rw [List.length_map]; walk_at "om")
end
end Mine
end
theorem Mine.rs51 : True := by (k_with_none; trivial)
section
open PySem PySem.W PyProof.Rows Mine PySem.Calls PySem.Spec PySem.Challenge
set_option maxRecDepth 100000
namespace Mine
section
variable {prog : Program} {w : World} {A : Around} {h₀ : Heap} {L : Addr} {m : Str → Option Value} {env : Env} {elt : PySem.Expr} {x : Str} {scope : Scope} {cl : List (Str × Addr)} {s : Shared} {S : List (Addr × Obj) → Prop} {Fin : List Value → List (Addr × Obj) → Prop}
/-- a comprehension over a range -/
theorem compR_ind {P : Nat → Value → Prop} {n : Nat} (J : Nat → List Value → List (Addr × Obj) → Prop)
    (turn : ∀ i v ys nw I oI C oC D m₂ h tk (E' : Value → Shared → Prop), i < n → J i ys nw → P i v → LCg.NsObj oC m₂ → m₂ x = some v → Fr h₀ L h m → News h₀ L h ((I, oI) :: (C, oC) :: (D, LCg.lst ys) :: nw) → LCg.Off3 I C D nw → ((@Ne Nat I C) ∧ (@Ne Nat I D) ∧ (@Ne Nat C D)) →
      wpAny (model prog w) A (eval elt (compEnvC scope cl C env)) (LCg.CompEnd h₀ L m { s with heap := h, toks := tk } I oI C oC D (LCg.lst ys) S (fun y news' => J (i + 1) (ys ++ [y]) news')) E' { s with heap := h, toks := tk })
    (done : ∀ ys nw, J n ys nw → Fin ys nw) :
    ∀ k i ys nw, i + k = n → J i ys nw → LCg.CompRest prog w A h₀ L m env elt x scope cl s S P Fin k i ys nw
  | 0, i, ys, nw, e, hJ => LCg.CompRest.zero (done ys nw ((show i = n by walk_at "om") ▸ hJ))
  | k + 1, i, ys, nw, e, hJ => LCg.CompRest.succ fun v I oI C oC D m₂ h tk E' hv hC hx F N off ne => by
    refine wpAny_mono (turn i v ys nw I oI C oC D m₂ h tk E' (by walk_at "om") hJ hv hC hx F N off ne) (fun y s₂ h₂ => ?_) fun _ _ z => z
    obtain ⟨h', tk', nw', e1, F', N', o', hS, hJ'⟩ := h₂
    exact ⟨h', tk', nw', e1, F', N', o', hS, compR_ind J turn done k (i + 1) (ys ++ [y]) nw' (by walk_at "om") hJ'⟩
end
end Mine
end
section
open PySem PySem.W PyProof.Rows Mine PySem.Calls PySem.Spec PyProof.Rows.LCg
set_option maxRecDepth 100000
namespace Mine
theorem turn2_eq (elt t1 i1 t2 i2 : PySem.Expr) (scope : Scope) (pos : Pos) (it acc : Value) (env : Env) :
    compTurn (.ListComp elt [⟨t1, i1, [], 0⟩, ⟨t2, i2, [], 0⟩] scope pos) 1 it acc env = (do
      standAt i2.pos
      match ← pyNext it with
      | none => pure (.done .next)
      | some v =>
        letOwnedTupleGo t2 it v
        assign t2 env v
        let mut ok := true
        for c in ([] : List PySem.Expr) do
          if ok then ok ← isTrue c env (eval c env)
        if ok then
          (do let _ ← call (.builtin "list.append") [acc, ← eval elt env])
        again (.compLoop (.ListComp elt [⟨t1, i1, [], 0⟩, ⟨t2, i2, [], 0⟩] scope pos) 1 it acc env)) := by rfl
theorem turn1_eq (elt t1 i1 t2 i2 : PySem.Expr) (scope : Scope) (pos : Pos) (it acc : Value) (env : Env) :
    compTurn (.ListComp elt [⟨t1, i1, [], 0⟩, ⟨t2, i2, [], 0⟩] scope pos) 0 it acc env = (do
      standAt i1.pos
      match ← pyNext it with
      | none => pure (.done .next)
      | some v =>
        letOwnedTupleGo t1 it v
        assign t1 env v
        let mut ok := true
        for c in ([] : List PySem.Expr) do
          if ok then ok ← isTrue c env (eval c env)
        if ok then
          let x ← eval i2 env
          standAt i2.pos
          let x ← foldedSetIterable i2 env x
          let _ ← runOwn (.compStart (.ListComp elt [⟨t1, i1, [], 0⟩, ⟨t2, i2, [], 0⟩] scope pos) 1 (← holding [x] (pyIter x)) acc env) env
        again (.compLoop (.ListComp elt [⟨t1, i1, [], 0⟩, ⟨t2, i2, [], 0⟩] scope pos) 0 it acc env)) := by rfl
section
variable {prog : Program} {w : World} {A : Around} {E : Value → Shared → Prop} {R : Result → Shared → Prop} {s : Shared} {h₀ : Heap} {L : Addr} {m : Str → Option Value} {env : Env} {elt i1 i2 : PySem.Expr} {x x2 : Str} {p1 p2 : Pos} {scope : Scope} {cl : List (Str × Addr)} {pos : Pos}
theorem start2 {it acc : Value} {cenv : Env}
    (h0 : codeAny (model prog w) A (.compLoop (.ListComp elt [⟨.Name x p1, i1, [], 0⟩, ⟨.Name x2 p2, i2, [], 0⟩] scope pos) 1 it acc cenv) R s)
    (h : wpAny (model prog w) A (pyIter it) (fun it' s' => codeAny (model prog w) A (.compLoop (.ListComp elt [⟨.Name x p1, i1, [], 0⟩, ⟨.Name x2 p2, i2, [], 0⟩] scope pos) 1 it' acc cenv) R s')
      (notedBy (model prog w) A cenv fun x s' => R (.error x) s') s) :
    codeAny (model prog w) A (.compStart (.ListComp elt [⟨.Name x p1, i1, [], 0⟩, ⟨.Name x2 p2, i2, [], 0⟩] scope pos) 1 it acc cenv) R s := by
  refine codeAny_of_tree ?_
  show wpAny _ _ ((compStart (.ListComp elt [⟨.Name x p1, i1, [], 0⟩, ⟨.Name x2 p2, i2, [], 0⟩] scope pos) 1 it acc cenv).onRaise (fun x => do noteFrame x cenv; standAt theWindowsPlace)) _ _ s
  refine wpAny_notedAt ?_
  unfold compStart
  show wpAny _ _ (ask >>= _) _ _ s
  refine wpAny_bind (wpAny_askSetting (wpAny_ite ?_))
  split
  · first
      | exact wpAny_bind (wpAny_pure (wpAny_pure (And.intro rfl h0)))
      | exact wpAny_pure (And.intro rfl h0)
  · first
      | exact wpAny_bind (wpAny_rule (wpAny_bind (wpAny_standAt (wpAny_bind (wpAny_mono h (fun it' s' h' => wpAny_pure (And.intro rfl h')) fun _ _ x => x)))))
      | (refine wpAny_bind (wpAny_rule ?_); show wpAny _ _ (standAt i2.pos >>= _) _ _ s; exact wpAny_bind (wpAny_standAt (wpAny_bind (wpAny_mono h (fun it' s' h' => wpAny_pure (And.intro rfl h')) fun _ _ x => x))))

inductive In2 (h₀ : Heap) (L : Addr) (m : Str → Option Value) (s : Shared) (x : Str) (v : Value) (a : Int) (n : Nat) (JI C D I : Addr) (oI : Obj) (J : Nat → List Value → List (Addr × Obj) → Prop) (k : Nat) (s' : Shared) : Prop
  | mk : ∀ h' tk i ys m' nw', (s' = { s with heap := h', toks := tk }) → (i ≤ n) → (k = n + 1 - i) → (IsRangeIter h' JI (a + (i : Nat) * 1) ((n : Int) - (i : Nat)) 1) → (Fr h₀ L h' m) → (h'.Ns C m') → (m' x = some v) → (News h₀ L h' ((D, lst ys) :: (I, oI) :: nw')) → (Off3 JI C D ((I, oI) :: nw')) → (J i ys nw') → In2 h₀ L m s x v a n JI C D I oI J k s'
/-- the inner loop of a comprehension with two clauses, over a range -/
theorem inner2 {n : Nat} {a : Int} {JI C D I : Addr} {oI : Obj} {v : Value} (J : Nat → List Value → List (Addr × Obj) → Prop) (hh : A.handled = none) (hkind : scope.kind = .function) (hx2 : scope.names.lookup x2 = some .local) (hxx : x ≠ x2)
    (nJC : @Ne Nat JI C) (nJD : @Ne Nat JI D) (nCD : @Ne Nat C D) (nIC : @Ne Nat I C) (nJL : @Ne Nat L JI) (hJ₀ : h₀.get? JI = none) (hC₀ : h₀.get? C = none) (hD₀ : h₀.get? D = none) (hCL : @Ne Nat C L) (hDL : @Ne Nat D L) (hID : @Ne Nat I D)
    (hlen : ∀ i ys nw, J i ys nw → ys.length ≤ 10000)
    (turn : ∀ i ys nw oJ oC m₂ h tk t (E' : Value → Shared → Prop), i < n → J i ys nw → NsObj oC m₂ → m₂ x = some v → m₂ x2 = some (.int (a + (i : Int)) t) → Fr h₀ L h m → News h₀ L h ((JI, oJ) :: (C, oC) :: (D, lst ys) :: (I, oI) :: nw) → Off3 JI C D ((I, oI) :: nw) →
      wpAny (model prog w) A (eval elt (compEnvC scope cl C env)) (CompEnd h₀ L m { s with heap := h, toks := tk } JI oJ C oC D (lst ys) (fun _ => True) (fun y nw' => ∃ nw'', nw' = (I, oI) :: nw'' ∧ J (i + 1) (ys ++ [y]) nw'')) E' { s with heap := h, toks := tk })
    (done : ∀ ys nw m₂ h tk, Fr h₀ L h m → h.Ns C m₂ → News h₀ L h ((D, lst ys) :: (I, oI) :: nw) → Off3 JI C D ((I, oI) :: nw) → J n ys nw → R (.ok .next) { s with heap := h, toks := tk })
    {ys : List Value} {nw : List (Addr × Obj)} {m₂ : Str → Option Value} {h : Heap} {tk : Nat} (F : Fr h₀ L h m) (hn : h.Ns C m₂) (hm : m₂ x = some v) (hst : IsRangeIter h JI (a + (0 : Nat) * 1) ((n : Int) - (0 : Nat)) 1) (N : News h₀ L h ((D, lst ys) :: (I, oI) :: nw)) (off : Off3 JI C D ((I, oI) :: nw)) (hJ : J 0 ys nw) :
    codeAny (model prog w) A (.compLoop (.ListComp elt [⟨.Name x p1, i1, [], 0⟩, ⟨.Name x2 p2, i2, [], 0⟩] scope pos) 1 (.ref JI) (.ref D) (compEnvC scope cl C env)) R { s with heap := h, toks := tk } := by
  have W := range_walks (prog := prog) (w := w) (I := JI) hh a n
  refine codeAny_loop rfl (In2 h₀ L m s x v a n JI C D I oI J) (fun k s' hI => ?_) (n + 1)
    ⟨h, tk, 0, ys, m₂, nw, rfl, Nat.zero_le _, rfl, hst, F, hn, hm, N, off, hJ⟩
  obtain ⟨h', tk', i, ys', m', nw', rfl, hi, rfl, hst', F', hn', hm', N', off', hJ'⟩ := hI
  show wpAny _ A ((compTurn (.ListComp elt [⟨.Name x p1, i1, [], 0⟩, ⟨.Name x2 p2, i2, [], 0⟩] scope pos) 1 (.ref JI) (.ref D) (compEnvC scope cl C env)).onRaise (fun x => do noteFrame x (compEnvC scope cl C env); theTreesLotGoes x)) _ _ _
  refine wpAny_noted ?_
  rw [turn2_eq]
  refine wpAny_bind (wpAny_standAt (wpAny_bind ?_))
  have off3 := off'.mem
  by_cases hlt : i < n
  · refine W.item i _ _ _ hlt hst' fun v₂ h₂ tk₂ hPv hst₂ hk₂ => ?_
    obtain ⟨t, rfl⟩ := hPv
    dsimp only
    refine wpAny_bind (wpAny_of_eq (show letOwnedTupleGo (.Name x2 p2) (.ref JI) (.int (a + (i : Int)) t) = pure () from rfl) ?_)
    refine wpAny_bind ?_
    refine wpAny_assign_Name (wpAny_storeName_local (lookup_relabel_local hx2) (hn'.at' fun o e => hk₂ _ o (by simpa using Ne.symm nJC) e) (fun h₃ hn₃ hs₃ => ?_) (by simp [compEnvC, relabel, hkind]))
    refine wpAny_bind (wpAny_tests_nil ?_)
    simp only [if_true]
    refine wpAny_bind (wpAny_bind ?_)
    obtain ⟨oC, heC, hoC⟩ := ns_obj hn₃
    have up : ∀ b o, b ≠ JI → b ≠ C → h'.get? b = some o → h₃.get? b = some o := fun b o q1 q2 e => hs₃.extBut b o q2 (hk₂ b o (by simpa using q1) e)
    have hJ₃ : IsRangeIter h₃ JI (a + ((i + 1 : Nat) : Int) * 1) ((n : Int) - ((i + 1 : Nat) : Int)) 1 := hs₃.extBut JI _ nJC hst₂
    obtain ⟨oJ, heJ, hoJ⟩ : ∃ oJ : Obj, h₃.get? JI = some oJ ∧ ∀ hh : Heap, hh.get? JI = some oJ → IsRangeIter hh JI (a + ((i + 1 : Nat) : Int) * 1) ((n : Int) - ((i + 1 : Nat) : Int)) 1 := ⟨_, hJ₃, fun _ e => e⟩
    have F₃ : Fr h₀ L h₃ m := ⟨F'.ns.at' fun o e => up L o nJL (Ne.symm hCL) e, fun b o e => up b o (fun q => by rw [q, hJ₀] at e; cases e) (fun q => by rw [q, hC₀] at e; cases e) (F'.keep b o e), F'.above⟩
    have N₃ : News h₀ L h₃ ((JI, oJ) :: (C, oC) :: (D, lst ys') :: (I, oI) :: nw') := fun p hp => by
      rcases List.mem_cons.mp hp with rfl | hp
      · exact ⟨heJ, Ne.symm nJL, hJ₀⟩
      · rcases List.mem_cons.mp hp with rfl | hp
        · exact ⟨heC, hCL, hC₀⟩
        · have z := N' p hp
          refine ⟨up _ _ ?_ ?_ z.1, z.2⟩
          · rcases List.mem_cons.mp hp with rfl | hp
            · exact Ne.symm nJD
            · exact (off3 p hp).1
          · rcases List.mem_cons.mp hp with rfl | hp
            · exact Ne.symm nCD
            · exact (off3 p hp).2.1
    refine wpAny_mono (turn i ys' nw' oJ oC _ h₃ _ t _ hlt hJ' hoC (by simp [hxx]; exact hm') (by simp) F₃ N₃ off') (fun y s₄ h₄ => ?_) fun _ _ e => e
    obtain ⟨h₄, tk₄, news₄, rfl, F₄, N₄, off₄, _, nw₄, rfl, hJ₄⟩ := h₄
    have zJ := (N₄ (JI, oJ) (.head _)).1
    have zC := (N₄ (C, oC) (.tail _ (.head _))).1
    have zD := (N₄ (D, lst ys') (.tail _ (.tail _ (.head _)))).1
    have off4 := off₄.mem
    refine wpAny_bind (append_at (hsz := by rw [List.size_toArray, sizeLine_eq]; have := hlen _ _ _ hJ'; walk_at "om") zD fun h₅ hs₅ hD₅ => ?_)
    refine wpAny_pure (wpAny_pure ⟨rfl, n + 1 - (i + 1), by walk_at "om", h₅, tk₄, i + 1, ys' ++ [y], _, nw₄, rfl, hlt, rfl, ?_, F₄.change hs₅ hDL hD₀, (hoC.ns zC).sameBut hs₅ nCD, (by simp [hxx]; exact hm'), fun p hp => ?_, off₄, hJ₄⟩)
    · exact hs₅.extBut JI _ nJD (hoJ _ zJ)
    · rcases List.mem_cons.mp hp with rfl | hp
      · exact ⟨hD₅.trans (congrArg some (lst_snoc ys' y)), hDL, hD₀⟩
      · have z := N₄ p (.tail _ (.tail _ (.tail _ hp)))
        exact ⟨hs₅.extBut _ _ (off4 p hp).2.2 z.1, z.2⟩
  · obtain rfl : i = n := Nat.le_antisymm hi (Nat.not_lt.mp hlt)
    refine W.done _ _ _ hst' fun h₂ tk₂ hk₂ => ?_
    refine wpAny_pure (done ys' nw' m' h₂ tk₂ (fr_but F' hk₂ nJL hJ₀) (hn'.at' fun o e => hk₂ _ o (by simpa using Ne.symm nJC) e) (news_but N' hk₂ fun p hp => ?_) off' hJ')
    rcases List.mem_cons.mp hp with rfl | hp
    · exact Ne.symm nJD
    · exact (off3 p hp).1

/-- what the turns of the inner loop do -/
noncomputable def InSpec (prog : Program) (w : World) (A : Around) (h₀ : Heap) (L : Addr) (m : Str → Option Value) (env : Env) (elt : PySem.Expr) (x x2 : Str) (scope : Scope) (cl : List (Str × Addr)) (s : Shared) (v : Value) (a : Int) (n : Nat) (Ji : Nat → List Value → List (Addr × Obj) → Prop) : Prop :=
  (∀ i ys nw, Ji i ys nw → ys.length ≤ 10000) ∧ ∀ i ys nw JI oJ C oC D I oI m₂ h tk t (E' : Value → Shared → Prop), i < n → Ji i ys nw → NsObj oC m₂ → m₂ x = some v → m₂ x2 = some (.int (a + (i : Int)) t) → Fr h₀ L h m → News h₀ L h ((JI, oJ) :: (C, oC) :: (D, lst ys) :: (I, oI) :: nw) → Off3 JI C D ((I, oI) :: nw) → (∀ p ∈ nw, p.1 ≠ I) →
    wpAny (model prog w) A (eval elt (compEnvC scope cl C env)) (CompEnd h₀ L m { s with heap := h, toks := tk } JI oJ C oC D (lst ys) (fun _ => True) (fun y nw' => ∃ nw'', nw' = (I, oI) :: nw'' ∧ (∀ p ∈ nw'', p.1 ≠ I) ∧ Ji (i + 1) (ys ++ [y]) nw'')) E' { s with heap := h, toks := tk }
/-- what the evaluation of the inner clause leaves -/
inductive RgSrc (prog : Program) (w : World) (A : Around) (h₀ : Heap) (L : Addr) (m : Str → Option Value) (env : Env) (elt : PySem.Expr) (x x2 : Str) (scope : Scope) (cl : List (Str × Addr)) (s : Shared) (v : Value) (I : Addr) (oI : Obj) (C : Addr) (oC : Obj) (D : Addr) (ys : List Value) (nw : List (Addr × Obj)) (next : List Value → List (Addr × Obj) → Prop) (xv : Value) (s₁ : Shared) : Prop
  | mk : ∀ (r : Addr) (a b : Int) (n : Nat) (h' : Heap) (tk' : Nat) (t u z : Tok) (Ji : Nat → List Value → List (Addr × Obj) → Prop), (xv = .ref r) → (s₁ = { s with heap := h', toks := tk' }) → (Fr h₀ L h' m) → (News h₀ L h' ((I, oI) :: (C, oC) :: (D, lst ys) :: nw)) → (IsRange h' r a b 1 t u z) → (Builtin.Range.small a b 1 = true) → (Builtin.Range.rangeSize a b 1 = ((n : Nat) : Int)) → (InSpec prog w A h₀ L m env elt x x2 scope cl s v a n Ji) → (Ji 0 ys nw) → (∀ ys' nw', Ji n ys' nw' → next ys' nw') → RgSrc prog w A h₀ L m env elt x x2 scope cl s v I oI C oC D ys nw next xv s₁
inductive Out2 (h₀ : Heap) (L : Addr) (m : Str → Option Value) (s : Shared) (I ax C D : Addr) (vs : List Value) (Jo : List Value → List Value → List (Addr × Obj) → Prop) (k : Nat) (s' : Shared) : Prop
  | mk : ∀ h' tk i ys m' nw', (s' = { s with heap := h', toks := tk }) → (i ≤ vs.length) → (k = vs.length + 1 - i) → ((h'.IsListIter I ax i ∧ h'.IsList ax vs.toArray)) → (Fr h₀ L h' m) → (h'.Ns C m') → (News h₀ L h' ((D, lst ys) :: nw')) → (Off3 I C D nw') → (Jo (vs.drop i) ys nw') → Out2 h₀ L m s I ax C D vs Jo k s'
theorem outer2 {ax I C D : Addr} {vs : List Value} {k0 : Nat} (Jo : List Value → List Value → List (Addr × Obj) → Prop) (hh : A.handled = none) (hkind : scope.kind = .function) (hx : scope.names.lookup x = some .local) (hx2 : scope.names.lookup x2 = some .local) (hxx : x ≠ x2)
    (nIC : @Ne Nat I C) (nID : @Ne Nat I D) (nCD : @Ne Nat C D) (nIL : @Ne Nat L I) (hI₀ : h₀.get? I = none) (hC₀ : h₀.get? C = none) (hD₀ : h₀.get? D = none) (hCL : @Ne Nat C L) (hDL : @Ne Nat D L)
    (hs2 : ∀ cenv y, foldedSetIterable i2 cenv y = pure y) (hax : @Ne Nat ax I)
    (hJm : ∀ r ys nw, Jo r ys nw → (ax, listOf vs.toArray k0) ∈ nw)
    (turn : ∀ v r ys nw oI oC m₂ h tk (E' : Value → Shared → Prop), Jo (v :: r) ys nw → NsObj oC m₂ → m₂ x = some v → Fr h₀ L h m → News h₀ L h ((I, oI) :: (C, oC) :: (D, lst ys) :: nw) → Off3 I C D nw →
      wpAny (model prog w) A (eval i2 (compEnvC scope cl C env)) (RgSrc prog w A h₀ L m env elt x x2 scope cl s v I oI C oC D ys nw (fun ys' nw' => Jo r ys' nw')) E' { s with heap := h, toks := tk })
    (done : ∀ ys nw m₂ h tk, Fr h₀ L h m → h.Ns C m₂ → News h₀ L h ((D, lst ys) :: nw) → Off3 I C D nw → Jo [] ys nw → R (.ok .next) { s with heap := h, toks := tk })
    {nw : List (Addr × Obj)} {m₂ : Str → Option Value} {h : Heap} {tk : Nat} (F : Fr h₀ L h m) (hn : h.Ns C m₂) (hst : h.IsListIter I ax 0 ∧ h.IsList ax vs.toArray) (N : News h₀ L h ((D, lst []) :: nw)) (off : Off3 I C D nw) (hJ : Jo vs [] nw) :
    codeAny (model prog w) A (.compLoop (.ListComp elt [⟨.Name x p1, i1, [], 0⟩, ⟨.Name x2 p2, i2, [], 0⟩] scope pos) 0 (.ref I) (.ref D) (compEnvC scope cl C env)) R { s with heap := h, toks := tk } := by
  have W := Walks.list (prog := prog) (w := w) hh I ax hax vs.toArray
  have hsz : vs.toArray.size = vs.length := List.size_toArray
  refine codeAny_loop rfl (Out2 h₀ L m s I ax C D vs Jo) (fun k s' hI => ?_) (vs.length + 1)
    ⟨h, tk, 0, [], m₂, nw, rfl, Nat.zero_le _, rfl, hst, F, hn, N, off, by rw [List.drop_zero]; exact hJ⟩
  obtain ⟨h', tk', i, ys', m', nw', rfl, hi, rfl, hst', F', hn', N', off', hJ'⟩ := hI
  show wpAny _ A ((compTurn (.ListComp elt [⟨.Name x p1, i1, [], 0⟩, ⟨.Name x2 p2, i2, [], 0⟩] scope pos) 0 (.ref I) (.ref D) (compEnvC scope cl C env)).onRaise (fun x => do noteFrame x (compEnvC scope cl C env); theTreesLotGoes x)) _ _ _
  refine wpAny_noted ?_
  rw [turn1_eq]
  refine wpAny_bind (wpAny_standAt (wpAny_bind ?_))
  have off3 := off'.mem
  by_cases hlt : i < vs.length
  · refine W.item i _ _ _ (by rw [hsz]; exact hlt) hst' fun v h₂ tk₂ hPv hst₂ hk₂ => ?_
    have hv : vs[i]? = some v := by simpa using hPv
    have hdrop : vs.drop i = v :: vs.drop (i + 1) := by
      obtain ⟨h1, h2⟩ := List.getElem?_eq_some_iff.mp hv
      rw [List.drop_eq_getElem_cons h1, h2]
    rw [hdrop] at hJ'
    dsimp only
    refine wpAny_bind (wpAny_of_eq (show letOwnedTupleGo (.Name x p1) (.ref I) v = pure () from rfl) ?_)
    refine wpAny_bind ?_
    refine wpAny_assign_Name (wpAny_storeName_local (lookup_relabel_local hx) (hn'.at' fun o e => hk₂ _ o (by simpa using Ne.symm nIC) e) (fun h₃ hn₃ hs₃ => ?_) (by simp [compEnvC, relabel, hkind]))
    refine wpAny_bind (wpAny_tests_nil ?_)
    simp only [if_true]
    refine wpAny_bind ?_
    obtain ⟨oC, heC, hoC⟩ := ns_obj hn₃
    have up : ∀ b o, b ≠ I → b ≠ C → h'.get? b = some o → h₃.get? b = some o := fun b o q1 q2 e => hs₃.extBut b o q2 (hk₂ b o (by simpa using q1) e)
    have hI₃ : h₃.IsListIter I ax (i + 1) := hst₂.1.at fun o e => hs₃.extBut I o nIC e
    obtain ⟨oI, heI, hoI⟩ : ∃ oI : Obj, h₃.get? I = some oI ∧ ∀ hh : Heap, hh.get? I = some oI → hh.IsListIter I ax (i + 1) := by
      obtain ⟨o, e, r⟩ := hI₃
      exact ⟨o, e, fun _ e' => ⟨o, e', r⟩⟩
    have F₃ : Fr h₀ L h₃ m := ⟨F'.ns.at' fun o e => up L o nIL (Ne.symm hCL) e, fun b o e => up b o (fun q => by rw [q, hI₀] at e; cases e) (fun q => by rw [q, hC₀] at e; cases e) (F'.keep b o e), F'.above⟩
    have N₃ : News h₀ L h₃ ((I, oI) :: (C, oC) :: (D, lst ys') :: nw') := fun p hp => by
      rcases List.mem_cons.mp hp with rfl | hp
      · exact ⟨heI, Ne.symm nIL, hI₀⟩
      · rcases List.mem_cons.mp hp with rfl | hp
        · exact ⟨heC, hCL, hC₀⟩
        · have z := N' p hp
          refine ⟨up _ _ ?_ ?_ z.1, z.2⟩
          · rcases List.mem_cons.mp hp with rfl | hp
            · exact Ne.symm nID
            · exact (off3 p hp).1
          · rcases List.mem_cons.mp hp with rfl | hp
            · exact Ne.symm nCD
            · exact (off3 p hp).2.1
    refine wpAny_mono (turn v _ ys' nw' oI oC _ h₃ _ _ hJ' hoC (by simp) F₃ N₃ off') (fun xv s₄ h₄ => ?_) fun _ _ e => e
    obtain ⟨r, a, b, n, h₄, tk₄, t, u, z, Ji, rfl, rfl, F₄, N₄, hr, hsm, hsn, hin, hJi, hnx⟩ := h₄
    refine wpAny_bind (wpAny_standAt (wpAny_bind (wpAny_of_eq (hs2 _ _) ?_)))
    refine wpAny_bind (wpAny_holding (wpAny_pyIter_range hr hsm ?_))
    refine wpAny_bind (wpAny_runOwn ?_)
    have zI := (N₄ (I, oI) (.head _)).1
    have zC := (N₄ (C, oC) (.tail _ (.head _))).1
    have zD := (N₄ (D, lst ys') (.tail _ (.tail _ (.head _)))).1
    have jC : @Ne Nat h₄.objs.size C := Nat.ne_of_gt (Heap.lt_size zC)
    have jD : @Ne Nat h₄.objs.size D := Nat.ne_of_gt (Heap.lt_size zD)
    have jI : @Ne Nat I h₄.objs.size := Nat.ne_of_lt (Heap.lt_size zI)
    have jL : @Ne Nat L h₄.objs.size := Nat.ne_of_lt F₄.ns.lt
    generalize hG : h₄.push { cls := .type "range_iterator", data := .fields #[rawInt a, rawInt (Builtin.Range.rangeSize a b 1), rawInt 1] } = G
    have keep : ∀ b o, h₄.get? b = some o → G.get? b = some o := fun b o e => hG ▸ Heap.get?_push_of_some _ e
    have FG : Fr h₀ L G m := F₄.keeps keep
    have NG : News h₀ L G ((D, lst ys') :: (I, oI) :: nw') := fun p hp => by
      have z := N₄ p (by
        rcases List.mem_cons.mp hp with rfl | hp
        · exact .tail _ (.tail _ (.head _))
        · rcases List.mem_cons.mp hp with rfl | hp
          · exact .head _
          · exact .tail _ (.tail _ (.tail _ hp)))
      exact ⟨keep _ _ z.1, z.2⟩
    have hitG : IsRangeIter G h₄.objs.size (a + (0 : Nat) * 1) ((n : Int) - (0 : Nat)) 1 := by
      show IsRangeIter _ _ _ _ _
      rw [← hG, hsn]
      simpa using Heap.get?_push_size h₄ rfl
    have offJ : Off3 h₄.objs.size C D ((I, oI) :: nw') := Off3.of fun p hp => by
      rcases List.mem_cons.mp hp with rfl | hp
      · exact ⟨jI, nIC, nID⟩
      · exact ⟨Nat.ne_of_lt (Heap.lt_size (N₄ p (.tail _ (.tail _ (.tail _ hp)))).1), (off3 p hp).2.1, (off3 p hp).2.2⟩
    have core : ∀ (RR : Result → Shared → Prop), (∀ ys nw m₂ h tk, Fr h₀ L h m → h.Ns C m₂ → News h₀ L h ((D, lst ys) :: (I, oI) :: nw) → Off3 h₄.objs.size C D ((I, oI) :: nw) → (Ji n ys nw ∧ ∀ p ∈ nw, p.1 ≠ I) → RR (.ok .next) { s with heap := h, toks := tk }) →
        codeAny (model prog w) A (.compLoop (.ListComp elt [⟨.Name x p1, i1, [], 0⟩, ⟨.Name x2 p2, i2, [], 0⟩] scope pos) 1 (.ref h₄.objs.size) (.ref D) (compEnvC scope cl C env)) RR { s with heap := G, toks := tk₄ } := fun RR hd =>
      inner2 (v := v) (oI := oI) (I := I) (fun i ys nw => Ji i ys nw ∧ ∀ p ∈ nw, p.1 ≠ I) hh hkind hx2 hxx jC jD nCD nIC jL (next_is_new F₄) hC₀ hD₀ hCL hDL nID (fun i ys nw q => hin.1 i ys nw q.1)
        (fun i ys nw oJ oC m₂ h tk t E' hi hJ hoC hm hm2 F N off => wpAny_mono (hin.2 i ys nw _ oJ C oC D I oI m₂ h tk t E' hi hJ.1 hoC hm hm2 F N off hJ.2) (fun y s₅ h₅ => by
          obtain ⟨h₅, tk₅, nw₅, e1, e2, e3, e4, e5, nw₆, e6, e7, e8⟩ := h₅
          exact ⟨h₅, tk₅, nw₅, e1, e2, e3, e4, e5, nw₆, e6, e8, e7⟩) fun _ _ z => z)
        hd FG (hoC.ns (keep _ _ zC)) (by simp) hitG NG offJ ⟨hJi, fun p hp => (off3 p hp).1⟩
    have fin : ∀ ys nw m₂ h tk, Fr h₀ L h m → h.Ns C m₂ → News h₀ L h ((D, lst ys) :: (I, oI) :: nw) → Off3 h₄.objs.size C D ((I, oI) :: nw) → (Ji n ys nw ∧ ∀ p ∈ nw, p.1 ≠ I) →
        ∃ q', q' < vs.length + 1 - i ∧ Out2 h₀ L m s I ax C D vs Jo q' { s with heap := h, toks := tk } := fun ys nw m₂ h tk F N1 N off hJ => by
      have hm := hnx _ _ hJ.1
      have o3 := off.mem
      refine ⟨vs.length + 1 - (i + 1), by walk_at "om", h, tk, i + 1, ys, m₂, nw, rfl, hlt, rfl, ⟨hoI _ (N _ (.tail _ (.head _))).1, ⟨_, (N _ (.tail _ (.tail _ (hJm _ _ _ hm)))).1, rfl, _, rfl⟩⟩, F, N1, fun p hp => N p (by
        rcases List.mem_cons.mp hp with rfl | hp
        · exact .head _
        · exact .tail _ (.tail _ hp)), Off3.of fun p hp => ⟨hJ.2 p hp, (o3 p (.tail _ hp)).2.1, (o3 p (.tail _ hp)).2.2⟩, hm⟩
    refine start2 ?_ ?_
    · exact core _ fun ys nw m₂ h tk F N1 N off hJ => wpAny_pure ⟨rfl, fin ys nw m₂ h tk F N1 N off hJ⟩
    · refine wpAny_pyIter_rangeiter hitG ?_
      exact core _ fun ys nw m₂ h tk F N1 N off hJ => wpAny_pure ⟨rfl, fin ys nw m₂ h tk F N1 N off hJ⟩
  · obtain rfl : i = vs.length := Nat.le_antisymm hi (Nat.not_lt.mp hlt)
    rw [List.drop_length] at hJ'
    refine W.done _ _ _ (by rw [hsz]; exact hst') fun h₂ tk₂ hk₂ => ?_
    refine wpAny_pure (done ys' nw' m' h₂ tk₂ (fr_but F' hk₂ nIL hI₀) (hn'.at' fun o e => hk₂ _ o (by simpa using Ne.symm nIC) e) (news_but N' hk₂ fun p hp => ?_) off' hJ')
    rcases List.mem_cons.mp hp with rfl | hp
    · exact Ne.symm nID
    · exact (off3 p hp).1

theorem ListComp_2 {ax : Addr} {vs : List Value} {k0 : Nat} {news : List (Addr × Obj)} {Q : Value → Shared → Prop} (Jo : List Value → List Value → List (Addr × Obj) → Prop) (F : Fr h₀ L s.heap m) (N : News h₀ L s.heap news) (hax : (ax, listOf vs.toArray k0) ∈ news)
    (hclos : closureFor scope env = pure cl) (hcell : ∀ y ∈ scope.names, y.2 ≠ .cell) (hkind : scope.kind = .function)
    (hnames : ∀ y ∈ scope.names, y.2 = .local → scope.names.lookup y.1 = some .local) (hx : scope.names.lookup x = some .local) (hx2 : scope.names.lookup x2 = some .local) (hxx : x ≠ x2) (hh : A.handled = none)
    (hs : ∀ y, foldedSetIterable i1 env y = pure y) (hs2 : ∀ cenv y, foldedSetIterable i2 cenv y = pure y)
    (hi1 : ∀ (Q' E' : Value → Shared → Prop), Q' (.ref ax) s → wpAny (model prog w) A (eval i1 env) Q' E' s)
    (hJm : ∀ r ys nw, Jo r ys nw → (ax, listOf vs.toArray k0) ∈ nw) (hJ0 : Jo vs [] news)
    (turn : ∀ v r ys nw I oI C oC D m₂ h tk (E' : Value → Shared → Prop), Jo (v :: r) ys nw → NsObj oC m₂ → m₂ x = some v → Fr h₀ L h m → News h₀ L h ((I, oI) :: (C, oC) :: (D, lst ys) :: nw) → Off3 I C D nw →
      wpAny (model prog w) A (eval i2 (compEnvC scope cl C env)) (RgSrc prog w A h₀ L m env elt x x2 scope cl s v I oI C oC D ys nw (fun ys' nw' => Jo r ys' nw')) E' { s with heap := h, toks := tk })
    (done : ∀ ys nw, Jo [] ys nw → FinE h₀ L m s Q ys nw) :
    wpAny (model prog w) A (eval (.ListComp elt [⟨.Name x p1, i1, [], 0⟩, ⟨.Name x2 p2, i2, [], 0⟩] scope pos) env) Q E s := by
  rw [eval_ListComp]
  refine wpAny_comprehension_free (use := none) rfl hs hclos hkind hnames (hi1 _ _ ?_)
  have hl : s.heap.IsList ax vs.toArray := ⟨_, (N _ hax).1, rfl, _, rfl⟩
  have hlt : ax < s.heap.objs.size := Heap.lt_size (N _ hax).1
  refine wpAny_pyIter_list hl ?_
  generalize hS : s.heap.push { cls := .type "list_iterator", data := .fields #[.ref ax, .int 0 0] } = S2
  have up : ∀ b o, s.heap.get? b = some o → S2.get? b = some o := fun b o e => hS ▸ Heap.get?_push_of_some _ e
  have hsS : S2.objs.size = s.heap.objs.size + 1 := by rw [← hS, Heap.size_push]
  have F2 : Fr h₀ L S2 m := F.keeps up
  have N2 : News h₀ L S2 news := N.grown up
  have hit : S2.IsListIter s.heap.objs.size ax 0 := ⟨_, hS ▸ Heap.get?_push_size _ rfl, rfl, rfl⟩
  have hl2 : S2.IsList ax vs.toArray := ⟨_, (N2 _ hax).1, rfl, _, rfl⟩
  refine wpAny_newObj_type (wpAny_newFunctionEnv hcell (by intro y hy; simp at hy) (fun h₁ hns₁ hsb₁ => ?_) hkind)
  dsimp only at hns₁ hsb₁ ⊢
  generalize hH2 : S2.push { cls := .type "list", dict := none, data := .seq ([] : List Value).toArray } = H2 at hns₁ hsb₁ ⊢
  have hC : H2.objs.size = S2.objs.size + 1 := by rw [← hH2, Heap.size_push]
  have hDC : S2.objs.size ≠ H2.objs.size := by rw [hC]; exact Nat.ne_of_lt (Nat.lt_succ_self _)
  have below : ∀ b, b < S2.objs.size → b ≠ H2.objs.size ∧ b ≠ S2.objs.size := fun b hb => ⟨by rw [hC]; exact Nat.ne_of_lt (Nat.lt_succ_of_lt hb), Nat.ne_of_lt hb⟩
  have hIlt : s.heap.objs.size < S2.objs.size := by rw [hsS]; exact Nat.lt_succ_self _
  have old : ∀ b o, S2.get? b = some o → h₁.get? b = some o := fun b o e => hsb₁.extBut b o (below b (Heap.lt_size e)).1 (Heap.get?_push_of_some _ (hH2 ▸ Heap.get?_push_of_some _ e))
  have hacc : h₁.get? S2.objs.size = some (lst []) := hsb₁.extBut _ _ hDC (Heap.get?_push_of_some _ (hH2 ▸ Heap.get?_push_size _ rfl))
  have fresh : ∀ a, S2.objs.size ≤ a → S2.get? a = none := fun a ha => by
    cases e : S2.get? a with
    | none => rfl
    | some o' => exact absurd (Heap.lt_size e) (Nat.not_lt.mpr ha)
  have fresh₀ : ∀ a, S2.objs.size ≤ a → h₀.get? a = none := fun a ha => by
    cases e : h₀.get? a with
    | none => rfl
    | some o' => have := F2.keep a o' e; rw [fresh a ha] at this; cases this
  have hD₀ : h₀.get? S2.objs.size = none := fresh₀ _ (Nat.le_refl _)
  have hC₀ : h₀.get? H2.objs.size = none := fresh₀ _ (by rw [hC]; exact Nat.le_succ _)
  have hLlt : L < S2.objs.size := F2.ns.lt
  have hDL : S2.objs.size ≠ L := Ne.symm (below L hLlt).2
  have hCL : H2.objs.size ≠ L := Ne.symm (below L hLlt).1
  have hCI : s.heap.objs.size ≠ H2.objs.size := (below _ hIlt).1
  have hDI : s.heap.objs.size ≠ S2.objs.size := (below _ hIlt).2
  have off₀ : Off3 s.heap.objs.size H2.objs.size S2.objs.size news := Off3.of fun p hp => ⟨Nat.ne_of_lt (Heap.lt_size (N p hp).1), (below _ (Heap.lt_size (N2 p hp).1)).1, (below _ (Heap.lt_size (N2 p hp).1)).2⟩
  have N1 : News h₀ L h₁ ((S2.objs.size, lst []) :: news) := fun p hp => by
    rcases List.mem_cons.mp hp with rfl | hp
    · exact ⟨hacc, hDL, hD₀⟩
    · exact ⟨old _ _ (N2 p hp).1, (N2 p hp).2⟩
  have hst₁ : h₁.IsListIter s.heap.objs.size ax 0 ∧ h₁.IsList ax vs.toArray := ⟨hit.at fun o e => old _ o e, hl2.at fun o e => old _ o e⟩
  have loop : ∀ tk : Nat, codeAny (model prog w) A (.compLoop (.ListComp elt [⟨.Name x p1, i1, [], 0⟩, ⟨.Name x2 p2, i2, [], 0⟩] scope pos) 0 (.ref s.heap.objs.size) (.ref S2.objs.size) (compEnvC scope cl H2.objs.size env))
        (compPost (model prog w) A E none Q (.ref S2.objs.size) H2.objs.size) { s with heap := h₁, toks := tk } := fun tk =>
    outer2 Jo hh hkind hx hx2 hxx hCI hDI (Ne.symm hDC) (Nat.ne_of_lt F.ns.lt) (next_is_new F) hC₀ hD₀ hCL hDL hs2 (Nat.ne_of_lt hlt) hJm (fun v r ys nw oI oC m₂ h tk E' a b c d e f => turn v r ys nw _ oI _ oC _ m₂ h tk E' a b c d e f)
      (fun ys nw m₂ h tk F' hn N' off hJ => by
        have o3 := off.mem
        refine ⟨m₂, hn, fun h'' hs'' => done ys nw hJ S2.objs.size h'' tk (F'.change hs'' hCL hC₀) (fun p hp => ?_) off.one⟩
        refine ⟨hs''.extBut _ _ ?_ (N' p hp).1, (N' p hp).2⟩
        rcases List.mem_cons.mp hp with rfl | hp
        · exact hDC
        · exact (o3 p hp).2.1) (F2.keeps old) hns₁ hst₁ N1 off₀ hJ0
  exact codeAny_compStart_list (loop _) ((Walks.list (prog := prog) (w := w) hh _ ax (Nat.ne_of_lt hlt) vs.toArray).self 0 _ _ _ hst₁ (loop _))
end
end Mine
end
section
open PySem PySem.W PyProof.Rows Mine PySem.Calls PySem.Spec PySem.Challenge
set_option maxRecDepth 100000
namespace Mine
noncomputable abbrev lawN' : Str := PySem.Str.ofString "law"
noncomputable abbrev lawCl' (cC cB : Addr) : List (Str × Addr) := [(PySem.Str.ofString "base", cB), (PySem.Str.ofString "counts", cC)]
noncomputable def argE : Stmt → PySem.Expr
  | .Assign _ (.Call _ (e :: _) _ _) _ => e
  | _ => .Name (PySem.Str.ofString "x") ⟨0, 0, 0, 0⟩
noncomputable def cornE : PySem.Expr := by
  refine (fun (l : PySem.Expr) (_ : argE (nth (whileBody (nth lawB 7)) 3) = l) => l) ?x ?h
  case h => (conv => lhs; whnf)
noncomputable def corn (l : List Pt) : List Pt := (l.zip l.tail).map fun (p, q) => (q.1, p.2)
theorem corn_at : ∀ {l : List Pt} {i : Nat} {p q : Pt}, l[i]? = some p → l[i + 1]? = some q → (corn l)[i]? = some (q.1, p.2)
  | [], i, p, q, h, _ => by simp at h
  | [x], i, p, q, h, h' => by simp at h'
  | x :: y :: l, 0, p, q, h, h' => by
    simp only [List.getElem?_cons_zero, List.getElem?_cons_succ] at h h'
    cases h; cases h'
    rfl
  | x :: y :: l, i + 1, p, q, h, h' => by
    have e := corn_at (l := y :: l) (i := i) (by simpa using h) (by simpa using h')
    exact e
theorem corn_len (l : List Pt) : (corn l).length = l.length - 1 := by
  unfold corn
  rw [List.length_map, List.length_zip, List.length_tail]
  walk_at "om"
theorem corners_cons (l : List Pt) (ls : List (List Pt)) : cornersM (l :: ls) = corn l ++ cornersM ls := rfl
theorem take_at {α : Type} {l : List α} {i : Nat} {x : α} (h : l[i]? = some x) : l.take (i + 1) = l.take i ++ [x] := by
  rw [List.take_add_one, h]
  rfl
section
variable {prog : Program} {w : World} {A : Around} {E : Value → Shared → Prop} {s : Shared} {h₀ : Heap} {L : Addr} {m : Str → Option Value} {news : List (Addr × Obj)} {Q : Value → Shared → Prop}
theorem lf_titem' {t : Addr} {x0 x1 : Value} {n : Nat} {k : Int} {u : Tok} {v : Value} {value slice : PySem.Expr} (N : News h₀ L s.heap news) (hm : (t, ({ cls := .type "tuple", data := .seq ([x0, x1] : List Value).toArray n } : Obj)) ∈ news) (h0 : 0 ≤ k) (hk : k < 2) (hx : ([x0, x1] : List Value)[k.toNat]? = some v) (h : Q v s)
    (hs : subscripted slice false (.ref t) (.int k u) = operate [.ref t, .int k u] (getItem (.ref t) (.int k u)) := by rfl) :
    wpAny (model prog w) A (subscriptTail value slice (.ref t) (.int k u)) Q E s :=
  item_tupleT (l := [x0, x1]) ⟨_, (N _ hm).1, rfl, _, rfl⟩ (by walk_at "om") (by walk_at "om") (j := k.toNat) (by
    unfold seqIndex?
    simp only [show ¬ (k < 0) by walk_at "om", if_false]
    simp
    walk_at "om") hx h hs
end
end Mine
end
section
open PySem PySem.W PyProof.Rows Mine PySem.Calls PySem.Spec PySem.Challenge
set_option maxRecDepth 100000
namespace Mine
section
set_option maxHeartbeats 16000000 in
theorem corner_comp : ∀ {w : World} {mean : ExcName → Option Value} {mg mb : Str → Option Value} (dp un : Nat) (gd : Option (List Code)) (a : Addr) (ccd : Value) (outer : List Env) (A₀ : Around) (base g : Heap) (L : Addr) (m₁ : Str → Option Value) (news : List (Addr × Obj)) (s : Shared)
   (b S cC cB n3 : Nat) (vs3 : List Value) (lines : List (List Pt))
    (Q : Value → Shared → Prop) (E : Value → Shared → Prop)
    (B : Below A₀ base outer g) (X : (K w.params).In g) (T : Top Mine.q (looseW Mine.q loose) mean mg mb g) (hdp : dp + 200 < recursionLimit) (hu : un + 1500 < cLine)
    (F : Fr g L s.heap m₁) (N : News g L s.heap news) (hm : m₁ (PySem.Str.ofString "lines") = some (.ref S)) (hS : (S, listOf vs3.toArray n3) ∈ news) (hL : All2 (LsIs b news) vs3 lines) (h60 : (cornersM lines).length < 60) (hgl : ∀ l ∈ lines, l.length < 60 ∧ l ≠ [])
    (hE : PassesOwn (model rw_wn0126_01.row.prog w) (ktrTop dp un gd lawN' lawS L a ccd (lawCl' cC cB) outer) (envX lawN' lawS L a ccd (lawCl' cC cB)) E)
    (hret : ∀ D h' tk ys news', Fr g L h' m₁ → News g L h' ((D, LCg.lst ys) :: news') → (∀ p ∈ news, p ∈ news') → (∀ p ∈ news', p.1 ≠ D) → All2 (T2 (gP b) news') ys (cornersM lines) → Q (.ref D) { s with heap := h', toks := tk }),
   wpAny (model rw_wn0126_01.row.prog w) (ktrTop dp un gd lawN' lawS L a ccd (lawCl' cC cB) outer) (eval cornE (envX lawN' lawS L a ccd (lawCl' cC cB))) Q E s := by
  k_with_none
  k_with "all" => first | with_reducible assumption | exact lt_ne (by with_reducible assumption) | exact allLt_ne (by first | with_reducible assumption | exact And.right (by assumption) | exact And.right (And.right (by assumption)) | exact And.right (And.right (And.right (by assumption)))) | exact List.forall_mem_nil _ | (refine' List.forall_mem_cons.mpr ⟨(by k_ne), (by k_all)⟩)
  k_with "ne" => first | with_reducible assumption | exact Ne.symm (by with_reducible assumption) | (refine neN ?_; (try dsimp only); walk_at "om")
  k_with "CompEnd" => refine Stop.mk ?_
  k_with "RgSrc" => refine Stop.mk ?_
  k_with "subscriptTail" => (k_here; k_dflt (first | (refine' lf_item (by k_asm) (by k_mem) ?_ ?_ (by with_reducible assumption) ?_ (by rfl); (walk_at "om"); (walk_at "om"); k_whole) | (refine' lf_titem' (by k_asm) (by k_mem) (by decide) (by decide) (by rfl) ?_ (by rfl); k_whole)))
  k_with "call builtin:len" => (k_here; k_dflt (refine' lf_len (by k_asm) (by k_mem) (by with_reducible assumption) (by walk_at "om") ?_; k_whole); (try dsimp only))
  k_fill
  intro w mean mg mb dp un gd a ccd outer A₀ base g L m₁ news s b S cC cB n3 vs3 lines Q E B X T hdp hu F N hm hS hL h60 hgl hE hret
  delta cornE
  refine ListComp_2 (ax := S) (vs := vs3) (k0 := n3) (fun r ys nw => ∃ xs ac, All2 (LsIs b nw) r xs ∧ All2 (T2 (gP b) nw) ys ac ∧ ac ++ cornersM xs = cornersM lines ∧ (∀ p ∈ news, p ∈ nw) ∧ ∀ l ∈ xs, l.length < 60 ∧ l ≠ []) F N hS (by with_unfolding_all rfl) (by decide) (by rfl) (by decide) (by rfl) (by rfl) (by decide) rfl (by intro _; rfl) (by intro _ _; rfl) ?hi1 ?hJm ?hJ0 ?turn ?done
  case hi1 =>
    intro Q' E' hq
    exact nameX_L F hm hq rfl rfl (by decide)
  case hJm => rintro r ys nw ⟨xs, ac, _, _, _, hs, _⟩; exact hs _ hS
  case hJ0 => exact ⟨lines, [], hL, All2.nil, rfl, fun p hp => hp, hgl⟩
  case done =>
    rintro ys nw ⟨xs, ac, hx, hy, hz, hs, _⟩
    match xs, hx, hz with
    | _ :: _, hx, _ => exact hx.elim
    | [], _, hz =>
      have hz : ac = cornersM lines := by rw [← hz]; exact (List.append_nil _).symm
      subst hz
      unfold LCg.FinE
      intro D h' tk F' N' o'
      exact hret D h' tk ys nw F' N' hs (off1_ne o') hy
  case turn =>
    rintro v r ys nw I oI C oC D m₂ h tk E' ⟨xs, ac, hx, hy, hz, hs, hg⟩ hC hxv F' N' off'
    match xs, hx, hz, hg with
    | [], hx, _, _ => exact hx.elim
    | l :: xs, hx, hz, hg =>
      generalize hGz : wpAny _ _ _ _ _ _ = Gz
      obtain ⟨⟨lA, nl, vl, rfl, hlA, hlR⟩, hx3⟩ := hx
      obtain ⟨hl60, hlne⟩ := hg l (.head _)
      subst hGz
      have hvl := hlR.length
      k_steps
      refine Stop.on ?_
      rename_i hz1 tz1 t1 t2 t3 hr F2 N2 hk2
      have hl1 : 1 ≤ l.length := List.length_pos_iff.mpr hlne
      have hcl := corn_len l
      have hlen : ac.length + (corn l).length ≤ 60 := by
        have := congrArg List.length hz
        rw [corners_cons, List.length_append, List.length_append] at this
        walk_at "om"
      clear F N
      refine ⟨_, 1, (l.length : Int), l.length - 1, _, _, _, _, _, fun i ys' nw' => ∃ ac', All2 (T2 (gP b) nw') ys' ac' ∧ ac' = ac ++ (corn l).take i ∧ (∀ p ∈ nw, p ∈ nw') ∧ i ≤ l.length - 1, rfl, rfl, F2, N2, hr, small_up (by decide) (by decide) (by walk_at "om") (by walk_at "om"), size_up 1 l.length hl1, ⟨?bnd, ?insp⟩, ⟨ac, hy, by simp, fun p hp => hp, Nat.zero_le _⟩, ?next⟩
      case bnd =>
        rintro i ys' nw' ⟨ac', h1, rfl, _, _⟩
        rw [h1.length, List.length_append, List.length_take]
        walk_at "om"
      case next =>
        rintro ys' nw' ⟨ac', h1, rfl, h3, _⟩
        rw [List.take_of_length_le (by walk_at "om")] at h1
        exact ⟨xs, _, All2.mono (LsIs.mono h3) hx3, h1, by rw [List.append_assoc, ← corners_cons]; exact hz, fun p hp => h3 p (hs p hp), fun l hl => hg l (.tail _ hl)⟩
      case insp =>
        clear F2 N2
        rintro i ys' nw' JI oJ C' oC' D' I' oI' m3 h3 tk3 t E'' hi ⟨ac', h1, hac, h3', hil⟩ hC' hm1 hm2 F3 N3 off3 hnI
        have hp : l[i]? = some (l[i]'(by walk_at "om")) := List.getElem?_eq_getElem (by walk_at "om")
        have hq : l[i + 1]? = some (l[i + 1]'(by walk_at "om")) := List.getElem?_eq_getElem (by walk_at "om")
        generalize l[i]'(by walk_at "om") = p at hp
        generalize l[i + 1]'(by walk_at "om") = q at hq
        generalize hGz : wpAny _ _ _ _ _ _ = Gz
        obtain ⟨v0, g0, r0⟩ := All2.get hlR hp
        obtain ⟨v1, g1, r1⟩ := All2.get hlR hq
        obtain ⟨aT0, nT0, y1, y2, rfl, haT0⟩ := r0
        obtain ⟨aT1, nT1, y3, y4, rfl, haT1⟩ := r1
        subst hGz
        have hk1 : vl[((1 : Int) + (i : Int)).toNat]? = some (.ref aT1) := by rw [show ((1 : Int) + (i : Int)).toNat = i + 1 by walk_at "om"]; exact g1
        have hk0 : vl[((1 : Int) + (i : Int) - 1).toNat]? = some (.ref aT0) := by rw [show ((1 : Int) + (i : Int) - 1).toNat = i by walk_at "om"]; exact g0
        have hlA' := h3' _ hlA
        have haT0' := h3' _ haT0
        have haT1' := h3' _ haT1
        clear g0 g1
        k_steps
        refine Stop.on ?_
        rename_i T6 hz6 F6 N6 l6
        obtain ⟨oI1, off4⟩ := off3
        refine LCg.CompEnd.intro F6 N6 ((I', oI') :: (T6, ({ cls := .type "tuple", data := .seq ([.int (gP b q).1 y3, .int (gP b p).2 y2] : List Value).toArray 0 } : Obj)) :: nw') (fun z hz => ?_) ⟨oI1, ⟨Nat.ne_of_gt l6.1, Nat.ne_of_gt l6.2.1, Nat.ne_of_gt l6.2.2.1⟩, off4⟩ trivial ⟨_, rfl, List.forall_mem_cons.mpr ⟨Nat.ne_of_gt l6.2.2.2.1, hnI⟩, ac' ++ [(q.1, p.2)], All2.append (All2.mono (T2.mono fun p hp => .tail _ hp) h1) (All2.cons ⟨T6, _, _, _, rfl, .head _⟩ All2.nil), ?_, fun p hp => .tail _ (h3' p hp), by walk_at "om"⟩
        · rcases List.mem_cons.mp hz with rfl | hz
          · exact .tail _ (.head _)
          · rcases List.mem_cons.mp hz with rfl | hz
            · exact .tail _ (.tail _ (.head _))
            · rcases List.mem_cons.mp hz with rfl | hz
              · exact .tail _ (.tail _ (.tail _ (.head _)))
              · rcases List.mem_cons.mp hz with rfl | hz
                · exact .tail _ (.tail _ (.tail _ (.tail _ (.head _))))
                · rcases List.mem_cons.mp hz with rfl | hz
                  · exact .head _
                  · exact .tail _ (.tail _ (.tail _ (.tail _ (.tail _ hz))))
        · rw [hac, List.append_assoc, take_at (corn_at hp hq)]
end
end Mine
end
theorem Mine.rs54 : True := by (k_with_none; trivial)
section
open PySem PySem.W PyProof.Rows Mine PySem.Calls PySem.Spec PySem.Challenge
set_option maxRecDepth 100000
namespace Mine
noncomputable def lwW : List Stmt := by
  refine (fun (l : List Stmt) (_ : whileBody (nth lawB 7) = l) => l) ?x ?h
  case h => (conv => lhs; whnf)
noncomputable def lwTest : PySem.Expr := by
  refine (fun (l : PySem.Expr) (_ : whTest (nth lawB 7) = l) => l) ?x ?h
  case h => (conv => lhs; whnf)
noncomputable def lastC (l : List Pt) : Nat := (l.getLast?.getD (0, 0)).2
noncomputable def fstC (l : List Pt) : Nat := (l.head?.getD (0, 0)).1
noncomputable abbrev eB (b : Nat) : Nat → Int := fun k => ((b + 7 * k : Nat) : Int)
/-- a list of numbers -/
inductive IR (e : Nat → Int) (tl : List (Addr × Obj)) (v : Value) (r : List Nat) : Prop
  | mk : ∀ a n vs, (v = .ref a) → ((a, listOf vs.toArray n) ∈ tl) → (IntsAre vs (r.map e)) → IR e tl v r
theorem IR.mono {e : Nat → Int} {tl tl' : List (Addr × Obj)} (h : ∀ p ∈ tl, p ∈ tl') (v : Value) (x : List Nat) (q : IR e tl v x) : IR e tl' v x := by
  obtain ⟨a, n, vs, e1, hm, r⟩ := q
  exact ⟨a, n, vs, e1, h _ hm, r⟩
inductive LwJ (N₀ : List (Addr × Obj)) (b pA aA fA : Nat) (res : List (List (List Pt))) (n : Nat) (m : Str → Option Value) (nw : List (Addr × Obj)) : Prop
  | mk : (Cst [(PySem.Str.ofString "points", .ref pA), (PySem.Str.ofString "lasts", .ref aA), (PySem.Str.ofString "firsts", .ref fA)] m) → ∀ (cur : List Pt) (acc rst : List (List (List Pt))) (va vf vr : List Value) (na nf nr rA : Nat) (tl : List (Addr × Obj)), (nw = (aA, listOf va.toArray na) :: (fA, listOf vf.toArray nf) :: tl) → ((∀ p ∈ tl, p.1 ≠ aA)) → ((∀ p ∈ tl, p.1 ≠ fA)) → ((∀ p ∈ N₀, p ∈ tl)) → (m (PySem.Str.ofString "left") = some (.ref rA)) → ((rA, listOf vr.toArray nr) ∈ tl) → (All2 (T2 (gP b) tl) vr cur) → (All2 (IR iN tl) va (acc.map fun l => l.map lastC)) → (All2 (IR (eB b) tl) vf (acc.map fun l => l.map fstC)) → (layersM2 n cur = some rst) → (acc ++ rst = res) → (acc.length + n = 5) → ((∀ p ∈ cur, OkP b p)) → (cur.length < 60) → LwJ N₀ b pA aA fA res n m nw
section
variable {prog : Program} {w : World} {A : Around} {E : Value → Shared → Prop} {s : Shared} {h₀ : Heap} {L : Addr} {m : Str → Option Value} {news : List (Addr × Obj)} {Q : Value → Shared → Prop}
theorem lf_last {l : Addr} {vs : List Value} {n : Nat} {u : Tok} {v : Value} {value slice : PySem.Expr} (N : News h₀ L s.heap news) (hm : (l, listOf vs.toArray n) ∈ news) (hx : vs.getLast? = some v) (h : Q v s)
    (hs : subscripted slice false (.ref l) (.int (-1) u) = operate [.ref l, .int (-1) u] (getItem (.ref l) (.int (-1) u)) := by with_unfolding_all rfl) :
    wpAny (model prog w) A (subscriptTail value slice (.ref l) (.int (-1) u)) Q E s := by
  have hl : s.heap.IsList l vs.toArray := ⟨_, (N _ hm).1, rfl, _, rfl⟩
  have hne : vs ≠ [] := fun e => by rw [e] at hx; simp at hx
  have hlen : 0 < vs.length := List.length_pos_iff.mpr hne
  refine tail_any hl.typeIs slot_list_getitem.lookup (wpAny_getItem_list_neg hl (by decide) (by rw [List.size_toArray]; walk_at "om") (by decide) ?_ h) hs
  rw [List.size_toArray, List.getElem?_toArray, show ((-1 : Int) + (vs.length : Int)).toNat = vs.length - 1 by walk_at "om"]
  rw [List.getLast?_eq_getElem?] at hx
  exact hx
theorem lf_titem {t : Addr} {x0 x1 : Value} {n : Nat} {k : Int} {u : Tok} {v : Value} {value slice : PySem.Expr} (N : News h₀ L s.heap news) (hm : (t, ({ cls := .type "tuple", data := .seq ([x0, x1] : List Value).toArray n } : Obj)) ∈ news) (h0 : 0 ≤ k) (hk : k < 2) (hx : ([x0, x1] : List Value)[k.toNat]? = some v) (h : Q v s)
    (hs : subscripted slice false (.ref t) (.int k u) = operate [.ref t, .int k u] (getItem (.ref t) (.int k u)) := by rfl) :
    wpAny (model prog w) A (subscriptTail value slice (.ref t) (.int k u)) Q E s :=
  item_tupleT (l := [x0, x1]) ⟨_, (N _ hm).1, rfl, _, rfl⟩ (by walk_at "om") (by walk_at "om") (j := k.toNat) (by
    unfold seqIndex?
    simp only [show ¬ (k < 0) by walk_at "om", if_false]
    simp
    walk_at "om") hx h hs
end
theorem lsis_off {b : Nat} {tl tl' : List (Addr × Obj)} : ∀ {vs : List Value} {ls : List (List Pt)}, All2 (LsIs b tl) vs ls → (∀ a n ws, Value.ref a ∈ vs → (a, listOf (List.toArray ws) n) ∈ tl → (a, listOf (List.toArray ws) n) ∈ tl') → (∀ a n x y, (a, ({ cls := .type "tuple", data := .seq ([x, y] : List Value).toArray n } : Obj)) ∈ tl → (a, ({ cls := .type "tuple", data := .seq ([x, y] : List Value).toArray n } : Obj)) ∈ tl') → All2 (LsIs b tl') vs ls
  | [], [], _, _, _ => trivial
  | v :: vs, l :: ls, ⟨⟨a, n, ws, e, hm, hr⟩, hq⟩, h1, h2 => ⟨⟨a, n, ws, e, h1 a n ws (e ▸ .head _) hm, All2.mono (fun v x q => by
      obtain ⟨a, k, t, u, e, hm⟩ := q
      exact ⟨a, k, t, u, e, h2 _ _ _ _ hm⟩) hr⟩, lsis_off hq (fun a n ws hv hm => h1 a n ws (.tail _ hv) hm) h2⟩
  | [], _ :: _, x, _, _ => x.elim
  | _ :: _, [], x, _, _ => x.elim
theorem linesM2_len : ∀ {n : Nat} {pts : List Pt} {ls : List (List Pt)}, linesM2 n pts = some ls → ls.length ≤ n
  | 0, [], ls, h => by cases h; exact Nat.le_refl _
  | n + 1, [], ls, h => by cases h; exact Nat.zero_le _
  | 0, _ :: _, _, h => by cases h
  | n + 1, p :: r, ls, h => by
    obtain ⟨line, h1, h⟩ := Option.bind_eq_some_iff.mp h
    obtain ⟨rest, h2, h⟩ := Option.bind_eq_some_iff.mp h
    cases h
    exact Nat.succ_le_succ (linesM2_len h2)
theorem lineM2_sub {pts line : List Pt} (h : lineM2 pts = some line) : ∀ p ∈ line, p ∈ pts := by
  obtain ⟨d, hd, he⟩ := Option.map_eq_some_iff.mp h
  obtain ⟨f1, f2, f3, f4, f5, f6, f7, f8, f9, f10, f11, f12⟩ := lineD_facts hd
  obtain ⟨hb1, hb2⟩ := blk_of f5
  subst he
  intro p hp
  obtain ⟨q, hq, rfl⟩ := List.mem_map.mp hp
  exact srtO_mem f2 _ (List.mem_of_getElem? (hb2 q hq).2)
theorem linesM2_sub : ∀ {n : Nat} {pts : List Pt} {ls : List (List Pt)}, linesM2 n pts = some ls → ∀ l ∈ ls, ∀ p ∈ l, p ∈ pts
  | 0, [], ls, h => by cases h; intro l hl; cases hl
  | n + 1, [], ls, h => by cases h; intro l hl; cases hl
  | 0, _ :: _, _, h => by cases h
  | n + 1, p :: r, ls, h => by
    obtain ⟨line, h1, h⟩ := Option.bind_eq_some_iff.mp h
    obtain ⟨rest, h2, h⟩ := Option.bind_eq_some_iff.mp h
    cases h
    intro l hl x hx
    rcases List.mem_cons.mp hl with rfl | hl
    · exact lineM2_sub h1 x hx
    · exact (List.mem_filter.mp (linesM2_sub h2 l hl x hx)).1
theorem layersM2_len : ∀ {n : Nat} {pts : List Pt} {rs : List (List (List Pt))}, layersM2 n pts = some rs → pts.length < 60
  | 0, [], rs, h => by decide
  | n + 1, [], rs, h => by decide
  | 0, _ :: _, _, h => by cases h
  | n + 1, p :: r, rs, h => by
    obtain ⟨lines, h1, h⟩ := Option.bind_eq_some_iff.mp h
    obtain ⟨line, h2, _⟩ := Option.bind_eq_some_iff.mp h1
    obtain ⟨d, hd, he⟩ := Option.map_eq_some_iff.mp h2
    have := (lineD_facts hd).f6
    walk_at "om"
theorem corners_mem {lines : List (List Pt)} {p : Pt} (h : p ∈ cornersM lines) : ∃ x y l, l ∈ lines ∧ x ∈ l ∧ y ∈ l ∧ p = (x.1, y.2) := by
  unfold cornersM at h
  obtain ⟨l, hl, hp⟩ := List.mem_flatMap.mp h
  obtain ⟨⟨u, v⟩, huv, e⟩ := List.mem_map.mp hp
  have hz := List.of_mem_zip huv
  exact ⟨v, u, l, hl, List.mem_of_mem_tail hz.2, hz.1, e.symm⟩
theorem all2_last {α : Type} {R : Value → α → Prop} : ∀ {vs : List Value} {xs : List α}, All2 R vs xs → xs ≠ [] → ∃ v x, vs.getLast? = some v ∧ xs.getLast? = some x ∧ R v x
  | [v], [x], ⟨a, _⟩, _ => ⟨v, x, rfl, rfl, a⟩
  | v :: w :: vs, x :: y :: xs, ⟨_, b⟩, _ => by
    obtain ⟨v', x', e1, e2, r⟩ := all2_last (vs := w :: vs) (xs := y :: xs) b (by simp)
    exact ⟨v', x', by simpa using e1, by simpa using e2, r⟩
  | [], [], _, h => absurd rfl h
  | [_], _ :: _ :: _, ⟨_, b⟩, _ => b.elim
  | _ :: _ :: _, [_], ⟨_, b⟩, _ => b.elim
  | [], _ :: _, b, _ => b.elim
  | _ :: _, [], b, _ => b.elim
end Mine
end
section
open PySem PySem.W PyProof.Rows Mine PySem.Calls PySem.Spec PySem.Challenge
set_option maxRecDepth 100000
namespace Mine
section
set_option maxHeartbeats 16000000 in
theorem lw_turn : ∀ {w : World} {mean : ExcName → Option Value} {mg mb : Str → Option Value} (dp un : Nat) (gd : Option (List Code)) (a : Addr) (ccd : Value) (outer : List Env) (A₀ : Around) (base g : Heap) (L : Addr) (m₁ : Str → Option Value) (nw N₀ : List (Addr × Obj)) (s : Shared)
   (b pA aA fA cC cB n : Nat) (res : List (List (List Pt)))
    (Q : Flow → Shared → Prop) (E : Value → Shared → Prop)
    (B : Below A₀ base outer g) (X : (K w.params).In g) (T : Top Mine.q (looseW Mine.q loose) mean mg mb g) (hdp : dp + 200 < recursionLimit) (hu : un + 1500 < cLine)
    (F : Fr g L s.heap m₁) (N : News g L s.heap nw) (haf : @Ne Nat aA fA)
    (hJ : LwJ N₀ b pA aA fA res n m₁ nw)
    (hE : PassesOwn (model rw_wn0126_01.row.prog w) (ktrTop dp un gd lawN lawS L a ccd (lawCl cC cB) outer) (envX lawN lawS L a ccd (lawCl cC cB)) E)
    (hdone : ∀ h' tk m' va na vf nf tl', Fr g L h' m' → News g L h' ((aA, listOf va.toArray na) :: (fA, listOf vf.toArray nf) :: tl') → (Cst [(PySem.Str.ofString "points", .ref pA), (PySem.Str.ofString "lasts", .ref aA), (PySem.Str.ofString "firsts", .ref fA)] m') → (∀ p ∈ N₀, p ∈ tl') → All2 (IR iN tl') va (res.map fun l => l.map lastC) → All2 (IR (eB b) tl') vf (res.map fun l => l.map fstC) → Q .next { s with heap := h', toks := tk }),
   wpAny (model rw_wn0126_01.row.prog w) (ktrTop dp un gd lawN lawS L a ccd (lawCl cC cB) outer) (isTrue lwTest (envX lawN lawS L a ccd (lawCl cC cB)) (eval lwTest (envX lawN lawS L a ccd (lawCl cC cB)))) (fun b' s₂ =>
        if b' = true then wpAny (model rw_wn0126_01.row.prog w) (ktrTop dp un gd lawN lawS L a ccd (lawCl cC cB) outer) (execs lwW (envX lawN lawS L a ccd (lawCl cC cB))) (fun f s₃ => match f with
          | .ret v => Q (.ret v) s₃
          | .brk => Q .next s₃
          | _ => Stop (Again g L s s₃ n (LwJ N₀ b pA aA fA res))) E s₂ else Q .next s₂) E s := by
  k_with_none
  k_with "all" => first | with_reducible assumption | exact lt_ne (by with_reducible assumption) | exact allLt_ne (by first | with_reducible assumption | exact And.right (by assumption) | exact And.right (And.right (by assumption)) | exact And.right (And.right (And.right (by assumption)))) | exact List.forall_mem_nil _ | (refine' List.forall_mem_cons.mpr ⟨(by k_ne), (by k_all)⟩)
  k_with "ne" => first | with_reducible assumption | exact Ne.symm (by with_reducible assumption) | (refine neN ?_; (try dsimp only); walk_at "om")
  k_with "CompSrc" => refine Stop.mk ?_
  k_with "CompEnd" => refine Stop.mk ?_
  k_with "FinE" => refine Stop.mk ?_
  k_with "call ref" => refine Stop.mk ?_
  k_with "call builtin:sorted" => refine Stop.mk ?_
  k_with "call type:range" => refine Stop.mk ?_
  k_with "subscriptTail" => (k_here; k_dflt (first | ((with_reducible show wpAny _ _ (subscriptTail _ _ (Value.ref _) (Value.int (-1) _)) _ _ _); refine' lf_last (by k_asm) (by k_mem) (by with_reducible assumption) ?_ (by rfl); k_whole) | (refine' lf_item (by k_asm) (by k_mem) ?_ ?_ (by with_reducible assumption) ?_ (by rfl); (walk_at "om"); (walk_at "om"); k_whole) | (refine' lf_titem (by k_asm) (by k_mem) (by decide) (by decide) (by rfl) ?_ (by rfl); k_whole)))
  k_with "compareOp NotEq ref ref" => (k_here; k_dflt (refine' lf_neNil (by k_asm) (by k_mem) (by exact List.Mem.head _) (by with_reducible assumption) (by (intro p hp; repeat (first | exact hp | apply List.mem_cons_of_mem))) (by ktr_units) ?_; k_whole); (try dsimp only [List.isEmpty_cons, List.isEmpty_nil, Bool.not_false, Bool.not_true]))
  k_with "call builtin:len" => (k_here; k_dflt (refine' lf_len (by k_asm) (by k_mem) (by with_reducible assumption) (by walk_at "om") ?_; k_whole); (try dsimp only))
  k_fill
  intro w mean mg mb dp un gd a ccd outer A₀ base g L m₁ nw N₀ s b pA aA fA cC cB n res Q E B X T hdp hu F N haf hJ hE hdone
  obtain ⟨hcst, cur, acc, rst, va, vf, vr, na, nf, nr, rA, tl, rfl, q1, q2, hsub, hleft, hrA, hR, hLa, hFi, hlm, hres, hac, hok, h60⟩ := hJ
  have F0 := F
  have F := fr_ov [(PySem.Str.ofString "points", .ref pA), (PySem.Str.ofString "lasts", .ref aA), (PySem.Str.ofString "firsts", .ref fA), (PySem.Str.ofString "left", .ref rA)] (by
    intro p hp
    rcases List.mem_append.mp (show p ∈ [(PySem.Str.ofString "points", Value.ref pA), (PySem.Str.ofString "lasts", .ref aA), (PySem.Str.ofString "firsts", .ref fA)] ++ [(PySem.Str.ofString "left", .ref rA)] from hp) with hp | hp
    · exact hcst p hp
    · rw [List.mem_singleton.mp hp]; exact hleft) F
  dsimp (instances := true) only [kstB] at F
  have hva := hLa.length
  rw [List.length_map] at hva
  have hvf := hFi.length
  rw [List.length_map] at hvf
  have hvr := hR.length
  delta lwW lwTest
  dsimp only
  match cur, hR, hlm, hok, h60 with
  | [], hR, hlm, _, _ =>
    have hrs : rst = [] := by
      cases n with
      | zero => exact (Option.some.inj hlm).symm
      | succ n => exact (Option.some.inj hlm).symm
    k_steps
    subst hrs
    rw [List.append_nil] at hres
    subst hres
    refine hdone _ _ _ va na vf nf tl (by k_asm) (fun p hp => (by k_asm : News g L _ _) p (by rcases List.mem_cons.mp hp with rfl | hp <;> (repeat (first | exact .head _ | exact hp | apply List.mem_cons_of_mem)))) ?_ hsub hLa hFi
    (repeat (first | exact cst_nil | refine cst_cons (by with_unfolding_all rfl) ?_ | exact List.forall_mem_nil _ | refine List.forall_mem_cons.mpr ⟨by with_unfolding_all rfl, ?_⟩))
  | p :: r, hR, hlm, hok, h60 =>
    generalize hGz : wpAny _ _ _ _ _ _ = Gz
    obtain ⟨n, rfl⟩ : ∃ k, n = k + 1 := by
      cases n with
      | zero => cases hlm
      | succ k => exact ⟨k, rfl⟩
    obtain ⟨lines, hl1, hlm⟩ := Option.bind_eq_some_iff.mp hlm
    obtain ⟨left2, hl2, hlm⟩ := Option.bind_eq_some_iff.mp hlm
    obtain ⟨rs2, hl3, hlm⟩ := Option.bind_eq_some_iff.mp hlm
    split at hlm
    case isFalse => cases hlm
    rename_i hg
    cases hlm
    obtain ⟨hc60, hgl⟩ := hg
    subst hGz
    have hgl : ∀ l ∈ lines, l.length < 60 ∧ l ≠ [] := fun l hl => of_decide_eq_true (List.all_eq_true.mp hgl l hl)
    k_steps
    refine Stop.on ?_
    refine' lines_tells dp un gd lawN lawS a ccd (lawCl cC cB) outer _ _ g L _ _ _ rA b nr vr (p :: r) lines _ _ B ?zF X ?zN T rfl ?zm ?zR hl1 hok h60 (by walk_at "om") (by walk_at "om") ?zret
    case zF => k_asm
    case zN => k_asm
    case zm => k_mem
    case zR => exact All2.mono (T2.mono fun p hp => .tail _ (.tail _ (.tail _ hp))) hR
    case zret =>
      intro S h3 tk3 tl3 vs3 n3 F3 N3 hs3 hlt3 hL3 hfr3
      have key : ∀ p ∈ tl3, @Ne Nat p.1 aA → @Ne Nat p.1 fA → p ∈ offL [aA, fA] tl3 := fun p hp x c => offL_mem hp fun d hd => by
        rcases List.mem_cons.mp hd with rfl | hd
        · exact x
        · rw [List.mem_singleton.mp hd]; exact c
      have N4 : News g L h3 ((aA, listOf va.toArray na) :: (fA, listOf vf.toArray nf) :: (S, listOf vs3.toArray n3) :: offL [aA, fA] tl3) := fun p hp => by
        rcases List.mem_cons.mp hp with rfl | hp
        · exact N3 _ (.tail _ (hs3 _ (.tail _ (.head _))))
        · rcases List.mem_cons.mp hp with rfl | hp
          · exact N3 _ (.tail _ (hs3 _ (.tail _ (.tail _ (.head _)))))
          · rcases List.mem_cons.mp hp with rfl | hp
            · exact N3 _ (.head _)
            · exact N3 _ (.tail _ (offL_sub hp))
      have o1 : @Ne Nat S aA := Nat.ne_of_gt (hlt3 _ (.tail _ (.head _)))
      have o2 : @Ne Nat S fA := Nat.ne_of_gt (hlt3 _ (.tail _ (.tail _ (.head _))))
      have hin : ∀ p ∈ tl, p ∈ offL [aA, fA] tl3 := fun p hp => key p (hs3 p (.tail _ (.tail _ (.tail _ hp)))) (q1 p hp) (q2 p hp)
      have hL4 : All2 (LsIs b (offL [aA, fA] tl3)) vs3 lines := lsis_off hL3 (fun a n ws hv hm => key _ hm (Nat.ne_of_gt (hfr3 a hv _ (.tail _ (.head _)))) (Nat.ne_of_gt (hfr3 a hv _ (.tail _ (.tail _ (.head _)))))) (fun a n x y hm => key _ hm (fun e => by
          have e' : a = aA := e
          subst e'
          have := Option.some.inj ((N3 _ (.tail _ hm)).1.symm.trans (N3 _ (.tail _ (hs3 _ (.tail _ (.head _))))).1)
          exact absurd (congrArg Obj.cls this) (by simp)) (fun e => by
          have e' : a = fA := e
          subst e'
          have := Option.some.inj ((N3 _ (.tail _ hm)).1.symm.trans (N3 _ (.tail _ (hs3 _ (.tail _ (.tail _ (.head _)))))).1)
          exact absurd (congrArg Obj.cls this) (by simp)))
      have r1 : ∀ p ∈ offL [aA, fA] tl3, p.1 ≠ aA := fun p hp => offL_ne hp (by simp)
      have r2 : ∀ p ∈ offL [aA, fA] tl3, p.1 ≠ fA := fun p hp => offL_ne hp (by simp)
      generalize offL [aA, fA] tl3 = tl4 at *
      have hS5 := hL4.length
      have hlt5 : lines.length < 60 := Nat.lt_of_le_of_lt (linesM2_len hl1) h60
      clear N3 hs3 hlt3 hL3 key hfr3
      k_steps
      refine Stop.on ?_
      rename_i hz5 F5 N5
      refine LCg.CompSrc.ledger (its := vs3.toArray) (k := n3) rfl F5 N5 (.tail _ (.tail _ (.head _))) (by rw [List.size_toArray, sizeLine_eq]; walk_at "om") fun g5 => ?_
      rw [List.size_toArray]
      refine comp_ind (vs := vs3) (fun r' ys nw => nw = (aA, listOf va.toArray na) :: (fA, listOf vf.toArray nf) :: (S, listOf vs3.toArray n3) :: tl4 ∧ ∃ xs ac, All2 (LsIs b tl4) r' xs ∧ IntsAre ys (ac.map iN) ∧ ac ++ xs.map lastC = lines.map lastC ∧ ∀ l ∈ xs, l.length < 60 ∧ l ≠ []) ?turn1 ?done1 vs3 [] [] _ rfl ⟨rfl, lines, [], hL4, .nil, rfl, hgl⟩
      case turn1 =>
        clear F5 N5
        rintro v r' ys nw I' oI' C' oC' D' m' h' tk' E' ⟨rfl, xs, ac, hx, hy, hz, hg⟩ hC' hxv F' N' off' ne'
        have hsrc : LCg.SrcAt g S vs3.toArray ((aA, listOf va.toArray na) :: (fA, listOf vf.toArray nf) :: (S, listOf vs3.toArray n3) :: tl4) := Or.inr ⟨_, .tail _ (.tail _ (.head _)), rfl, _, rfl⟩
        match xs, hx, hz, hg with
        | [], hx, _, _ => exact hx.elim
        | l :: xs, hx, hz, hg =>
          generalize hGz : wpAny _ _ _ _ _ _ = Gz
          obtain ⟨⟨lA, nl, vl, rfl, hlA, hlR⟩, hx3⟩ := hx
          obtain ⟨hl60, hlne⟩ := hg l (.head _)
          obtain ⟨vq, q, e1, e2, hq⟩ := all2_last hlR hlne
          obtain ⟨aT, nT, u1, u2, rfl, haT⟩ := hq
          subst hGz
          k_steps
          refine Stop.on ?_
          refine comp_end3 (by k_asm) (by k_asm) off' hsrc ⟨rfl, xs, ac ++ [lastC l], hx3, ?_, ?_, fun l hl => hg l (.tail _ hl)⟩
          · rw [List.map_append]
            have e : iN (lastC l) = (gP b q).2 := by unfold lastC; rw [e2]; rfl
            show IntsAre _ (List.map iN ac ++ [iN (lastC l)])
            rw [e]
            exact ints_snoc hy
          · rw [← hz, List.map_cons, List.append_assoc]
            rfl
      case done1 =>
        clear F5 N5
        rintro ys nw ⟨rfl, xs, ac, hx, hy, hz, hg⟩
        match xs, hx, hz with
        | _ :: _, hx, _ => exact hx.elim
        | [], _, hz =>
          rw [List.map_nil, List.append_nil] at hz
          k_steps
          refine Stop.on ?_
          unfold LCg.FinE
          intro D6 h6 tk6 F6 N6 o6
          dsimp only
          obtain ⟨d1, d2, d3, d4⟩ := o6
          k_steps
          refine Stop.on ?_
          rename_i hz7 F7 N7
          rw [List.push_toArray] at N7
          have hS7 : (S, listOf vs3.toArray n3) ∈ (D6, LCg.lst ys) :: (aA, listOf (va ++ [Value.ref D6]).toArray (na + 1)) :: (fA, listOf vf.toArray nf) :: (S, listOf vs3.toArray n3) :: tl4 := .tail _ (.tail _ (.tail _ (.head _)))
          refine LCg.CompSrc.ledger (its := vs3.toArray) (k := n3) rfl F7 N7 hS7 (by rw [List.size_toArray, sizeLine_eq]; walk_at "om") fun g7 => ?_
          rw [List.size_toArray]
          refine comp_ind (vs := vs3) (fun r' ys2 nw => nw = (D6, LCg.lst ys) :: (aA, listOf (va ++ [Value.ref D6]).toArray (na + 1)) :: (fA, listOf vf.toArray nf) :: (S, listOf vs3.toArray n3) :: tl4 ∧ ∃ xs ac, All2 (LsIs b tl4) r' xs ∧ IntsAre ys2 (ac.map (eB b)) ∧ ac ++ xs.map fstC = lines.map fstC ∧ ∀ l ∈ xs, l.length < 60 ∧ l ≠ []) ?turn2 ?done2 vs3 [] [] _ rfl ⟨rfl, lines, [], hL4, .nil, rfl, hgl⟩
          case turn2 =>
            clear F7 N7
            rintro v r' ys2 nw I' oI' C' oC' D' m' h' tk' E' ⟨rfl, xs, ac2, hx2, hy2, hz2, hg2⟩ hC' hxv F' N' off' ne'
            have hsrc : LCg.SrcAt g S vs3.toArray ((D6, LCg.lst ys) :: (aA, listOf (va ++ [Value.ref D6]).toArray (na + 1)) :: (fA, listOf vf.toArray nf) :: (S, listOf vs3.toArray n3) :: tl4) := Or.inr ⟨_, hS7, rfl, _, rfl⟩
            match xs, hx2, hz2, hg2 with
            | [], hx2, _, _ => exact hx2.elim
            | l :: xs, hx2, hz2, hg2 =>
              obtain ⟨⟨lA, nl, vl, rfl, hlA, hlR⟩, hx3⟩ := hx2
              obtain ⟨hl60, hlne⟩ := hg2 l (.head _)
              match l, vl, hlR, hlne with
              | q :: l', v0 :: vl', hlR, _ =>
                obtain ⟨⟨aT, nT, u1, u2, rfl, haT⟩, _⟩ := hlR
                have h0 : (Value.ref aT :: vl')[((0 : Int)).toNat]? = some (.ref aT) := rfl
                k_steps
                refine Stop.on ?_
                refine comp_end3 (by k_asm) (by k_asm) off' hsrc ⟨rfl, xs, ac2 ++ [fstC (q :: l')], hx3, ?_, ?_, fun l hl => hg2 l (.tail _ hl)⟩
                · rw [List.map_append]
                  exact ints_snoc hy2
                · rw [← hz2, List.map_cons, List.append_assoc]
                  rfl
          case done2 =>
            clear F7 N7
            rintro ys2 nw ⟨rfl, xs, ac2, hx2, hy2, hz2, hg2⟩
            match xs, hx2, hz2 with
            | _ :: _, hx2, _ => exact hx2.elim
            | [], _, hz2 =>
              rw [List.map_nil, List.append_nil] at hz2
              k_steps
              refine Stop.on ?_
              unfold LCg.FinE
              intro D8 h8 tk8 F8 N8 o8
              dsimp only
              obtain ⟨e1, e2, e3, e4, e5⟩ := o8
              have d2' : @Ne Nat D6 fA := Ne.symm d2
              have e3' : @Ne Nat D8 fA := Ne.symm e3
              have e2' : @Ne Nat D8 aA := Ne.symm e2
              have d1' : @Ne Nat D6 aA := Ne.symm d1
              k_steps
              refine' corner_comp dp un gd a ccd outer _ _ g L _ _ _ b S cC cB n3 vs3 lines _ _ B X T (by walk_at "om") (by walk_at "om") ?zF2 ?zN2 ?zm2 ?zS2 ?zL2 hc60 hgl hE ?zret2
              case zF2 => k_asm
              case zN2 => k_asm
              case zm2 => with_unfolding_all rfl
              case zS2 => exact .tail _ (.tail _ (.tail _ (.tail _ (.head _))))
              case zL2 => exact All2.mono (LsIs.mono fun p hp => .tail _ (.tail _ (.tail _ (.tail _ (.tail _ hp))))) hL4
              case zret2 =>
                intro D9 h9 tk9 ys9 nw9 F9 N9 hs9 hD9 hT9
                have hl9 := hT9.length
                k_steps
                refine Stop.on ?_
                refine so_sorted2 (g := gP b) (lt := ltP) (xs := cornersM lines) (ys := left2) F9 N9 (.head _) (All2.mono (T2.mono fun p hp => .tail _ hp) hT9) (by walk_at "om") hl2 (hgP b) fun D10 h10 c10 tk10 vs10 F10 N10 hlt10 hR10 => ?_
                clear N9 F9
                k_steps
                dsimp only
                refine Stop.mk ?_
                rename_i hzA FA NA
                rw [List.push_toArray] at hs9
                have haA9 := hs9 _ (.tail _ (.tail _ (.head _)))
                have hfA9 := hs9 _ (.tail _ (.tail _ (.tail _ (.head _))))
                have key9 : ∀ p ∈ (D10, listOf vs10.toArray c10) :: (D9, LCg.lst ys9) :: nw9, @Ne Nat p.1 aA → @Ne Nat p.1 fA → p ∈ offL [aA, fA] ((D10, listOf vs10.toArray c10) :: (D9, LCg.lst ys9) :: nw9) := fun p hp x c => offL_mem hp fun d hd => by
                  rcases List.mem_cons.mp hd with rfl | hd
                  · exact x
                  · rw [List.mem_singleton.mp hd]; exact c
                have hin9 : ∀ p ∈ tl4, p ∈ offL [aA, fA] ((D10, listOf vs10.toArray c10) :: (D9, LCg.lst ys9) :: nw9) := fun p hp => key9 p (.tail _ (.tail _ (hs9 p (.tail _ (.tail _ (.tail _ (.tail _ (.tail _ hp)))))))) (r1 p hp) (r2 p hp)
                have hinT : ∀ p ∈ tl, p ∈ offL [aA, fA] ((D10, listOf vs10.toArray c10) :: (D9, LCg.lst ys9) :: nw9) := fun p hp => hin9 p (hin p hp)
                have t1 : @Ne Nat D10 aA := Nat.ne_of_gt (hlt10 _ (.tail _ haA9))
                have t2 : @Ne Nat D10 fA := Nat.ne_of_gt (hlt10 _ (.tail _ hfA9))
                have hD6' := key9 _ (.tail _ (.tail _ (hs9 _ (.tail _ (.head _))))) d1' d2'
                have hD8' := key9 _ (.tail _ (.tail _ (hs9 _ (.head _)))) e2' e3'
                have hD10' := key9 _ (.head _) t1 t2
                have hT10 : All2 (T2 (gP b) (offL [aA, fA] ((D10, listOf vs10.toArray c10) :: (D9, LCg.lst ys9) :: nw9))) vs10 left2 := All2.mono (fun v x q => by
                  obtain ⟨a', k, t, u, e, hm⟩ := q
                  refine ⟨a', k, t, u, e, key9 _ (.tail _ hm) (fun e => ?_) (fun e => ?_)⟩
                  · have e' : a' = aA := e
                    subst e'
                    have := Option.some.inj ((NA _ (.tail _ hm)).1.symm.trans (NA _ (.tail _ (.tail _ haA9))).1)
                    exact absurd (congrArg Obj.cls this) (by simp)
                  · have e' : a' = fA := e
                    subst e'
                    have := Option.some.inj ((NA _ (.tail _ hm)).1.symm.trans (NA _ (.tail _ (.tail _ hfA9))).1)
                    exact absurd (congrArg Obj.cls this) (by simp)) hR10
                have okL : ∀ p ∈ left2, OkP b p := fun p hp => by
                  have hc := srtO_mem hl2 p hp
                  obtain ⟨x, y, l, hl, hx, hy, e⟩ := corners_mem hc
                  have o1 := hok x (linesM2_sub hl1 l hl x hx)
                  have o2 := hok y (linesM2_sub hl1 l hl y hy)
                  exact ⟨by rw [e]; exact o1.1, by rw [e]; exact o2.2⟩
                refine' ⟨_, _, _, (aA, listOf (va ++ [Value.ref D6]).toArray (na + 1)) :: (fA, listOf (vf ++ [Value.ref D8]).toArray (nf + 1)) :: offL [aA, fA] ((D10, listOf vs10.toArray c10) :: (D9, LCg.lst ys9) :: nw9), n, rfl, FA, (fun p hp => ?zN3), Nat.lt_succ_self _, ?zJ3⟩
                case zN3 =>
                  rcases List.mem_cons.mp hp with rfl | hp
                  · exact NA _ (.tail _ (.tail _ haA9))
                  · rcases List.mem_cons.mp hp with rfl | hp
                    · exact NA _ (.tail _ (.tail _ hfA9))
                    · exact NA _ (offL_sub hp)
                case zJ3 =>
                  refine' ⟨?cst, left2, acc ++ [lines], rs2, va ++ [Value.ref D6], vf ++ [Value.ref D8], vs10, na + 1, nf + 1, c10, D10, _, rfl, fun p hp => offL_ne hp (by simp), fun p hp => offL_ne hp (by simp), fun p hp => hinT p (hsub p hp), ?lf, hD10', hT10, ?hla, ?hfi, hl3, ?hr, ?hc, okL, layersM2_len hl3⟩
                  case cst => (repeat (first | exact cst_nil | refine cst_cons (by with_unfolding_all rfl) ?_ | exact List.forall_mem_nil _ | refine List.forall_mem_cons.mpr ⟨by with_unfolding_all rfl, ?_⟩))
                  case lf => with_unfolding_all rfl
                  case hla => rw [List.map_append]; exact All2.append (All2.mono (IR.mono hinT) hLa) (All2.cons ⟨D6, _, ys, rfl, hD6', (by show IntsAre ys (List.map iN (lines.map lastC)); rw [← hz]; exact hy)⟩ All2.nil)
                  case hfi => rw [List.map_append]; exact All2.append (All2.mono (IR.mono hinT) hFi) (All2.cons ⟨D8, _, ys2, rfl, hD8', (by show IntsAre ys2 (List.map (eB b) (lines.map fstC)); rw [← hz2]; exact hy2)⟩ All2.nil)
                  case hr => rw [List.append_assoc]; exact hres
                  case hc => rw [List.length_append, List.length_singleton]; walk_at "om"
end
end Mine
end
theorem Mine.rs55 : True := by (k_with_none; trivial)
section
open PySem PySem.W PyProof.Rows Mine PySem.Calls PySem.Spec PySem.Challenge
set_option maxRecDepth 100000
namespace Mine
noncomputable def lwWhile : Stmt := by
  refine (fun (l : Stmt) (_ : nth lawB 7 = l) => l) ?x ?h
  case h => (conv => lhs; whnf)
noncomputable def lwB4 : List Stmt := by
  refine (fun (l : List Stmt) (_ : List.drop 4 lawB = l) => l) ?x ?h
  case h => (conv => lhs; whnf)
theorem lw_while {w : World} {mean : ExcName → Option Value} {mg mb : Str → Option Value} (dp un : Nat) (gd : Option (List Code)) (a : Addr) (ccd : Value) (outer : List Env) (A₀ : Around) (base g : Heap) (L : Addr) (m₁ : Str → Option Value) (N₀ : List (Addr × Obj)) (s : Shared)
   (b pA aA fA cC cB np : Nat) (vp : List Value) (pts : List Pt) (res : List (List (List Pt)))
    (Q : Flow → Shared → Prop) (E : Value → Shared → Prop)
    (B : Below A₀ base outer g) (X : (K w.params).In g) (T : Top Mine.q (looseW Mine.q loose) mean mg mb g) (hdp : dp + 200 < recursionLimit) (hu : un + 1500 < cLine)
    (F : Fr g L s.heap m₁) (N : News g L s.heap ((aA, listOf ([] : List Value).toArray 0) :: (fA, listOf ([] : List Value).toArray 0) :: N₀)) (haf : @Ne Nat aA fA) (n1 : ∀ p ∈ N₀, p.1 ≠ aA) (n2 : ∀ p ∈ N₀, p.1 ≠ fA)
    (hcst : Cst [(PySem.Str.ofString "points", .ref pA), (PySem.Str.ofString "lasts", .ref aA), (PySem.Str.ofString "firsts", .ref fA)] m₁) (hleft : m₁ (PySem.Str.ofString "left") = some (.ref pA))
    (hpA : (pA, listOf vp.toArray np) ∈ N₀) (hT : All2 (T2 (gP b) N₀) vp pts) (hD : layersM2 5 pts = some res) (hok : ∀ p ∈ pts, OkP b p)
    (hE : PassesOwn (model rw_wn0126_01.row.prog w) (ktrTop dp un gd lawN lawS L a ccd (lawCl cC cB) outer) (envX lawN lawS L a ccd (lawCl cC cB)) E)
    (hdone : ∀ h' tk m' va na vf nf tl', Fr g L h' m' → News g L h' ((aA, listOf va.toArray na) :: (fA, listOf vf.toArray nf) :: tl') → (Cst [(PySem.Str.ofString "points", .ref pA), (PySem.Str.ofString "lasts", .ref aA), (PySem.Str.ofString "firsts", .ref fA)] m') → (∀ p ∈ N₀, p ∈ tl') → All2 (IR iN tl') va (res.map fun l => l.map lastC) → All2 (IR (eB b) tl') vf (res.map fun l => l.map fstC) → Q .next { s with heap := h', toks := tk }) :
    wpAny (model rw_wn0126_01.row.prog w) (ktrTop dp un gd lawN lawS L a ccd (lawCl cC cB) outer) (exec lwWhile (envX lawN lawS L a ccd (lawCl cC cB))) Q E s := by
  unfold lwWhile
  refine while_ind (LwJ N₀ b pA aA fA res) (n₀ := 5) F N ?hJ hE ?turn
  case hJ => exact ⟨hcst, pts, [], res, [], [], vp, 0, 0, np, pA, N₀, rfl, n1, n2, fun p hp => hp, hleft, hpA, hT, All2.nil, All2.nil, hD, rfl, rfl, hok, layersM2_len hD⟩
  case turn =>
    intro n m2 nw h2 tk2 F2 N2 hJ2
    exact lw_turn dp un gd a ccd outer A₀ base g L m2 nw N₀ { s with heap := h2, toks := tk2 } b pA aA fA cC cB n res Q E B X T hdp hu F2 N2 haf hJ2 hE hdone
theorem ints_dat {news : List (Addr × Obj)} {ws : List Value} {ns : List Int} (h : IntsAre ws ns) : DatAll news ws (ns.map Dat.int) := by
  induction h with
  | nil => exact .nil
  | cons n t _ ih => exact .cons (.int n t) ih
theorem ir_dat {e : Nat → Int} {news : List (Addr × Obj)} : ∀ {vs : List Value} {rs : List (List Nat)}, All2 (IR e news) vs rs → DatAll news vs (rs.map fun r => Dat.list ((r.map e).map Dat.int))
  | [], [], _ => .nil
  | _ :: _, r :: rs, ⟨⟨_, _, ws, e1, hm, hI⟩, hr⟩ => e1 ▸ .cons (.list hm (ints_dat hI)) (ir_dat hr)
  | [], _ :: _, x => x.elim
  | _ :: _, [], x => x.elim
theorem row_ir {e : Nat → Int} {tl : List (Addr × Obj)} (v : Value) (r : List Nat) (q : RowIs e tl v r) : IR e tl v r := by
  obtain ⟨a, n, vs, e1, hm, hI, _⟩ := q
  exact ⟨a, n, vs, e1, hm, hI⟩
theorem ir_ok {e : Nat → Int} (rs : List (List Nat)) : ∀ d ∈ rs.map (fun r => Dat.list ((r.map e).map Dat.int)), kqdOk 8 d = true := fun d hd => by
  obtain ⟨r, _, rfl⟩ := List.mem_map.mp hd
  unfold kqdOk
  rw [List.all_eq_true]
  intro x hx
  obtain ⟨y, _, rfl⟩ := List.mem_map.mp hx
  rfl
section
variable {prog : Program} {w : World} {A : Around} {E : Value → Shared → Prop} {s : Shared} {h₀ : Heap} {L a b : Addr} {news n₁ n₂ : List (Addr × Obj)} {vs ws : List Value} {ka kb : Nat} {rs : List (List Nat)} {e : Nat → Int} {Q : Value → Shared → Prop}
open Classical in
theorem lf_neRows (N : News h₀ L s.heap news) (ma : (a, listOf vs.toArray ka) ∈ news) (mb : (b, listOf ws.toArray kb) ∈ news) (hR : All2 (IR e n₁) vs rs) (hs : ∀ p ∈ n₁, p ∈ news) (hR2 : All2 (IR e n₂) ws rs) (hs2 : ∀ p ∈ n₂, p ∈ news) (hu : A.units + 64 < cLine) (h : Q (.bool false) s) : wpAny (model prog w) A (compareOp .NotEq (.ref a) (.ref b)) Q E s :=
  kqd_ne N ma rfl rfl (ir_dat hR) hs mb rfl rfl (ir_dat hR2) hs2 (ir_ok rs) (ir_ok rs) hu (by simpa using h)
open Classical in
theorem lf_eqRows (N : News h₀ L s.heap news) (ma : (a, listOf vs.toArray ka) ∈ news) (mb : (b, listOf ws.toArray kb) ∈ news) (hR : All2 (IR e n₁) vs rs) (hs : ∀ p ∈ n₁, p ∈ news) (hR2 : All2 (IR e n₂) ws rs) (hs2 : ∀ p ∈ n₂, p ∈ news) (hu : A.units + 64 < cLine) (h : Q (.bool true) s) : wpAny (model prog w) A (compareOp .Eq (.ref a) (.ref b)) Q E s :=
  kqd_eq N ma rfl rfl (ir_dat hR) hs mb rfl rfl (ir_dat hR2) hs2 (ir_ok rs) (ir_ok rs) hu (by simpa using h)
end
/-- the pairs turned about, told by turned codes -/
noncomputable abbrev gS (b : Nat) (x : Nat × Nat) : Int × Int := ((x.1 : Int), ((b + 7 * x.2 : Nat) : Int))
theorem hgS (b : Nat) (x y : Pt) : ltP x y = if (gS b x).1 = (gS b y).1 then decide ((gS b x).2 < (gS b y).2) else decide ((gS b x).1 < (gS b y).1) := by
  unfold ltP
  by_cases h : x.1 = y.1
  · have h' : (gS b x).1 = (gS b y).1 := by dsimp only; walk_at "om"
    rw [if_pos h, if_pos h']
    by_cases k : x.2 < y.2
    · rw [decide_eq_true k, decide_eq_true (by dsimp only; walk_at "om")]
    · rw [decide_eq_false k, decide_eq_false (by dsimp only; walk_at "om")]
  · have h' : ¬ (gS b x).1 = (gS b y).1 := by dsimp only; walk_at "om"
    rw [if_neg h, if_neg h']
    by_cases k : x.1 < y.1
    · rw [decide_eq_true k, decide_eq_true (by dsimp only; walk_at "om")]
    · rw [decide_eq_false k, decide_eq_false (by dsimp only; walk_at "om")]
noncomputable def srtOkM (cs : List Nat) : Bool := match srtO ltP ((ptsM cs).map fun p => (p.2, p.1)) with
  | some l => decide (l.length < 40)
  | none => false
noncomputable def allS : Bool := (List.range 2).all fun a => (List.range 3).all fun b => (List.range 4).all fun c => (List.range 5).all fun d => srtOkM (putM d 4 (putM c 3 (putM b 2 (putM a 1 [0]))))
theorem allS_ok : allS = true := by decide +kernel
theorem reach_srt {cs : List Nat} (h : Reach 4 cs) : srtOkM cs = true := by
  obtain ⟨d, c4, h4, hd, e4⟩ := reach_inv h
  obtain ⟨c, c3, h3, hc, e3⟩ := reach_inv h4
  obtain ⟨b, c2, h2, hb, e2⟩ := reach_inv h3
  obtain ⟨a, c1, h1, ha, e1⟩ := reach_inv h2
  have e0 := reach_zero h1
  rw [e4, e3, e2, e1, e0]
  have z := allS_ok
  unfold allS at z
  exact List.all_eq_true.mp (List.all_eq_true.mp (List.all_eq_true.mp (List.all_eq_true.mp z _ (List.mem_range.mpr ha)) _ (List.mem_range.mpr hb)) _ (List.mem_range.mpr hc)) _ (List.mem_range.mpr hd)
/-- what the mirror of the law says -/
theorem law_facts {cs : List Nat} (h : Reach 4 cs) : ∃ ls by', layersM2 5 (ptsM cs) = some ls ∧ srtO ltP ((ptsM cs).map fun p => (p.2, p.1)) = some by' ∧ (ls.map fun l => l.map lastC) = tableM cs ∧ (ls.map fun l => l.map fstC) = tableM (by'.map (·.2)) ∧ by'.length < 40 := by
  have z := reach_law h
  have z2 := reach_srt h
  unfold lawM2 at z
  unfold srtOkM at z2
  cases h1 : layersM2 5 (ptsM cs) with
  | none => rw [h1] at z; cases z
  | some ls =>
    cases h2 : srtO ltP ((ptsM cs).map fun p => (p.2, p.1)) with
    | none => rw [h1, h2] at z; cases z
    | some by' =>
      rw [h1, h2] at z
      rw [h2] at z2
      simp only [Bool.and_eq_true, decide_eq_true_eq] at z z2
      exact ⟨ls, by', rfl, rfl, z.1, z.2, z2⟩
theorem he_iN (a b : Nat) : a < b ↔ iN a < iN b := by unfold iN; walk_at "om"
theorem he_eB (b x y : Nat) : x < y ↔ eB b x < eB b y := by unfold eB; walk_at "om"
end Mine
end
section
open PySem PySem.W PyProof.Rows Mine PySem.Calls PySem.Spec PySem.Challenge
set_option maxRecDepth 100000
namespace Mine
theorem putM_mem {p n : Nat} {cs : List Nat} {c : Nat} (h : c ∈ putM p n cs) : c = n ∨ c ∈ cs := by
  unfold putM at h
  rcases List.mem_append.mp h with h | h
  · exact .inr (List.mem_of_mem_take h)
  · rcases List.mem_cons.mp h with h | h
    · exact .inl h
    · exact .inr (List.mem_of_mem_drop h)
theorem reach_lt {n : Nat} {cs : List Nat} (h : Reach n cs) : ∀ c ∈ cs, c ≤ n := by
  induction h with
  | zero => intro c hc; rw [List.mem_singleton.mp hc]; exact Nat.le_refl _
  | succ h hp ih =>
    intro c hc
    rcases putM_mem hc with e | e
    · walk_at "om"
    · have := ih c e; walk_at "om"
theorem pts_ok {b : Nat} {cs : List Nat} (h : Reach 4 cs) (hb : b < 90) : ∀ p ∈ ptsM cs, OkP b p := fun p hp => by
  unfold ptsM at hp
  obtain ⟨x, y⟩ := p
  have z := List.of_mem_zip hp
  have h1 := List.mem_range.mp z.1
  have h2 := reach_lt h _ z.2
  exact ⟨by show b + 7 * x < 118; walk_at "om", by show y < 5; walk_at "om"⟩
end Mine
end
section
open PySem PySem.W PyProof.Rows Mine PySem.Calls PySem.Spec PySem.Challenge
set_option maxRecDepth 100000
namespace Mine
section
set_option maxHeartbeats 16000000 in
theorem law_c : ∀ {w : World} {mean : ExcName → Option Value} {mg mb : Str → Option Value} (dp un : Nat) (gd : Option (List Code)) (a : Addr) (ccd : Value) (outer : List Env) (A₀ : Around) (base g : Heap) (L : Addr) (m₁ : Str → Option Value) (tl : List (Addr × Obj)) (s : Shared)
   (b pA kA cC cB nc np : Nat) (oC : Obj) (vc vp : List Value) (cs : List Nat)
    (Q : Flow → Shared → Prop) (E : Value → Shared → Prop)
    (B : Below A₀ base outer g) (X : (K w.params).In g) (T : Top Mine.q (looseW Mine.q loose) mean mg mb g) (hdp : dp + 200 < recursionLimit) (hu : un + 1500 < cLine)
    (F : Fr g L s.heap (kstB m₁ [(PySem.Str.ofString "points", .ref pA)])) (N : News g L s.heap tl) (hkA : (kA, listOf vc.toArray nc) ∈ tl) (hcC : (cC, oC) ∈ tl) (hoC : oC.data = .cell (some (.ref kA))) (hpA : (pA, listOf vp.toArray np) ∈ tl)
    (hT : All2 (T2 (gP b) tl) vp (ptsM cs)) (hb : b < 90) (hIc : IntsAre vc (cs.map iN)) (hRe : Reach 4 cs)
    (hE : PassesOwn (model rw_wn0126_01.row.prog w) (ktrTop dp un gd lawN lawS L a ccd (lawCl cC cB) outer) (envX lawN lawS L a ccd (lawCl cC cB)) E)
    (hret : ∀ h' tk m', Fr g L h' m' → Q (.ret (.bool true)) { s with heap := h', toks := tk }),
   wpAny (model rw_wn0126_01.row.prog w) (ktrTop dp un gd lawN lawS L a ccd (lawCl cC cB) outer) (execs lwB4 (envX lawN lawS L a ccd (lawCl cC cB))) Q E s := by
  k_with_none
  k_with "all" => first | with_reducible assumption | exact lt_ne (by with_reducible assumption) | exact allLt_ne (by first | with_reducible assumption | exact And.right (by assumption) | exact And.right (And.right (by assumption)) | exact And.right (And.right (And.right (by assumption)))) | exact List.forall_mem_nil _ | (refine' List.forall_mem_cons.mpr ⟨(by k_ne), (by k_all)⟩)
  k_with "ne" => first | with_reducible assumption | exact Ne.symm (by with_reducible assumption) | (refine neN ?_; (try dsimp only); walk_at "om")
  k_with "exec While" => refine Stop.mk ?_
  k_with "call ref" => refine Stop.mk ?_
  k_with "eval ListComp" => refine Stop.mk ?_
  k_with "SrcLP" => refine Stop.mk ?_
  k_with "CompEnd" => refine Stop.mk ?_
  k_with "FinE" => refine Stop.mk ?_
  k_with "call builtin:sorted" => refine Stop.mk ?_
  k_with "compareOp NotEq ref ref" => refine Stop.mk ?_
  k_with "compareOp Eq ref ref" => refine Stop.mk ?_
  k_fill
  intro w mean mg mb dp un gd a ccd outer A₀ base g L m₁ tl s b pA kA cC cB nc np oC vc vp cs Q E B X T hdp hu F N hkA hcC hoC hpA hT hb hIc hRe hE hret
  dsimp (instances := true) only [kstB] at F
  generalize hGz : wpAny _ _ _ _ _ _ = Gz
  obtain ⟨ls, by', f1, f2, f3, f4, f5⟩ := law_facts hRe
  subst hGz
  have hcl := hRe.length
  have okP : ∀ p ∈ ptsM cs, OkP b p := pts_ok hRe hb
  delta lwB4
  dsimp only
  k_steps
  refine Stop.on ?_
  rename_i aA hz1 hl1 hz2 tz1 fA hz3 hl2 hz4 hz5 F1 N1
  have n1 : ∀ p ∈ tl, p.1 ≠ aA := fun p hp => Nat.ne_of_lt (hl1 p hp)
  have n2 : ∀ p ∈ tl, p.1 ≠ fA := fun p hp => Nat.ne_of_lt (allLt_lt hl2.2 p hp)
  have haf : @Ne Nat aA fA := Nat.ne_of_lt hl2.1
  refine' lw_while dp un gd a ccd outer _ _ g L _ tl _ b pA aA fA cC cB np vp (ptsM cs) ls _ _ B X T (by walk_at "om") (by walk_at "om") F1 (News.swap ▸ N1) haf n1 n2 ?cst ?left hpA hT f1 okP hE ?hdone
  case cst => (repeat (first | exact cst_nil | refine cst_cons (by with_unfolding_all rfl) ?_ | exact List.forall_mem_nil _ | refine List.forall_mem_cons.mpr ⟨by with_unfolding_all rfl, ?_⟩))
  case left => with_unfolding_all rfl
  case hdone =>
    intro h2 tk2 m2 va na vf nf tl2 F2 N2 hcst2 hs2 hLa hFi
    rw [f3] at hLa
    rw [f4] at hFi
    have F3 := fr_ov _ hcst2 F2
    dsimp (instances := true) only [kstB] at F3
    dsimp only
    clear F2 F1 N1
    have hkA2 := hs2 _ hkA
    have hcC2 := hs2 _ hcC
    have hpA2 := hs2 _ hpA
    k_steps
    refine Stop.on ?_
    refine' table_tells iN he_iN dp un gd lawN lawS a ccd (lawCl cC cB) outer _ _ g L _ _ _ kA nc vc cs _ _ B ?zF X ?zN T rfl ?zm hIc (by walk_at "om") (by walk_at "om") (by walk_at "om") ?zret
    case zF => k_asm
    case zN => k_asm
    case zm => k_mem
    case zret =>
      intro S h4 tk4 tl4 vs4 n4 F4 N4 hs4 hR4
      have hs4' : ∀ p ∈ tl2, p ∈ (S, listOf vs4.toArray n4) :: tl4 := fun p hp => .tail _ (hs4 p (.tail _ (.tail _ hp)))
      k_steps
      refine Stop.on ?_
      refine lf_neRows (e := iN) (rs := tableM cs) (n₁ := tl2) (n₂ := tl4) N4 (.tail _ (hs4 _ (.head _))) (.head _) hLa hs4' (All2.mono row_ir hR4) (fun p hp => .tail _ hp) (by ktr_units) ?_
      have hkA4 := hs4 _ (.tail _ (.tail _ hkA2))
      have hcC4 := hs4 _ (.tail _ (.tail _ hcC2))
      have hpA4 := hs4 _ (.tail _ (.tail _ hpA2))
      have hfA4 := hs4 _ (.tail _ (.head _))
      k_steps
      refine Stop.on ?_
      refine LCp.ListComp_P (F₀ := by k_asm) (by with_unfolding_all rfl) (by decide) (by rfl) (by decide) (by rfl) (by rfl) (by decide) ?_
      k_steps
      refine Stop.on ?_
      refine LCp.ListComp_P (F₀ := by k_asm) (by with_unfolding_all rfl) (by decide) (by rfl) (by decide) (by rfl) (by rfl) (by decide) ?_
      k_steps
      refine Stop.on ?_
      have hT4 : All2 (T2 (gP b) ((S, listOf vs4.toArray n4) :: tl4)) vp (ptsM cs) := All2.mono (T2.mono fun p hp => hs4' p (hs2 p hp)) hT
      have hvp := hT4.length
      have hpl : (ptsM cs).length = 5 := by unfold ptsM; rw [List.length_zip, List.length_range]; walk_at "om"
      refine LCp.SrcLP.ledger (its := vp.toArray) (k := np) rfl F4 N4 (.tail _ hpA4) (by rw [List.size_toArray, sizeLine_eq]; walk_at "om") fun g5 => ?_
      rw [List.size_toArray]
      refine compP_ind (vs := vp) (fun r ys nw => ∃ xs ac : List Pt, All2 (T2 (gP b) nw) r xs ∧ All2 (T2 (gS b) nw) ys (ac.map fun p => (p.2, p.1)) ∧ ac ++ xs = ptsM cs ∧ ∀ p ∈ (S, listOf vs4.toArray n4) :: tl4, p ∈ nw) ?turn1 ?done1 vp [] [] _ rfl ⟨ptsM cs, [], hT4, All2.nil, rfl, fun p hp => hp⟩
      case turn1 =>
        rintro v r ys nw ⟨xs, ac, hx, hy, hz, hs⟩
        match xs, hx, hz with
        | [], hx, _ => exact hx.elim
        | y :: xs, hx, hz =>
          obtain ⟨⟨aT, nT, u1, u2, rfl, haT⟩, hx3⟩ := hx
          refine ⟨_, _, _, _, _, rfl, haT, rfl, rfl, ?_⟩
          intro I' oI' C' oC' D' m' h' tk' E' hC' hx' hy' F' N' off' ne'
          k_steps
          refine Stop.on ?_
          refine' comp_end1 ?F ?N off' ?hx ?S ?r
          case F => k_asm
          case N => k_asm
          case hx => exact lt_three (by assumption)
          case S => exact Or.inr ⟨_, .tail _ (hs _ (.tail _ hpA4)), rfl, _, rfl⟩
          case r => exact ⟨xs, ac ++ [y], All2.mono (T2.mono fun p hp => .tail _ hp) hx3, by rw [List.map_append]; exact All2.append (All2.mono (T2.mono fun p hp => .tail _ hp) hy) (All2.cons ⟨_, _, _, _, rfl, .head _⟩ All2.nil), (by rw [List.append_assoc]; exact hz), fun p hp => .tail _ (hs p hp)⟩
      case done1 =>
        rintro ys nw ⟨xs, ac, hx, hy, hz, hs⟩
        match xs, hx, hz with
        | _ :: _, hx, _ => exact hx.elim
        | [], _, hz =>
          rw [List.append_nil] at hz
          rw [hz] at hy
          have hyl := hy.length
          rw [List.length_map] at hyl
          intro D6 h6 tk6 F6 N6 o6
          dsimp only
          k_steps
          refine Stop.on ?_
          refine so_sorted2 (g := gS b) (lt := ltP) (xs := (ptsM cs).map fun p => (p.2, p.1)) (ys := by') F6 N6 (.head _) (All2.mono (T2.mono fun p hp => .tail _ hp) hy) (by walk_at "om") f2 (hgS b) fun D7 h7 c7 tk7 vs7 F7 N7 hlt7 hR7 => ?_
          have hR8 : All2 (T2 (gS b) ((D7, listOf vs7.toArray c7) :: (D6, LCg.lst ys) :: nw)) vs7 by' := All2.mono (T2.mono fun p hp => .tail _ hp) hR7
          have hl7 := hR7.length
          refine LCp.SrcLP.ledger (its := vs7.toArray) (k := c7) rfl F7 N7 (.head _) (by rw [List.size_toArray, sizeLine_eq]; walk_at "om") fun g8 => ?_
          rw [List.size_toArray]
          refine compP_ind (vs := vs7) (fun r ys' nw' => nw' = (D7, listOf vs7.toArray c7) :: (D6, LCg.lst ys) :: nw ∧ ∃ xs ac : List Pt, All2 (T2 (gS b) nw') r xs ∧ IntsAre ys' ((ac.map (·.2)).map (eB b)) ∧ ac ++ xs = by') ?turn2 ?done2 vs7 [] [] _ rfl ⟨rfl, by', [], hR8, .nil, rfl⟩
          case turn2 =>
            rintro v r ys' nw' ⟨rfl, xs, ac2, hx2, hy2, hz2⟩
            match xs, hx2, hz2 with
            | [], hx2, _ => exact hx2.elim
            | y :: xs, hx2, hz2 =>
              obtain ⟨⟨aT, nT, u1, u2, rfl, haT⟩, hx3⟩ := hx2
              refine ⟨_, _, _, _, _, rfl, haT, rfl, rfl, ?_⟩
              intro I' oI' C' oC' D' m' h' tk' E' hC' hx' hy' F' N' off' ne'
              k_steps
              refine Stop.on ?_
              refine comp_end3 (by k_asm) (by k_asm) off' (Or.inr ⟨_, .head _, rfl, _, rfl⟩) ⟨rfl, xs, ac2 ++ [y], hx3, by rw [List.map_append, List.map_append]; exact ints_snoc hy2, by rw [List.append_assoc]; exact hz2⟩
          case done2 =>
            rintro ys' nw' ⟨rfl, xs, ac2, hx2, hy2, hz2⟩
            match xs, hx2, hz2 with
            | _ :: _, hx2, _ => exact hx2.elim
            | [], _, hz2 =>
              rw [List.append_nil] at hz2
              rw [hz2] at hy2
              intro D9 h9 tk9 F9 N9 o9
              dsimp only
              k_steps
              refine Stop.on ?_
              refine table_tells (eB b) (he_eB b) dp un gd lawN lawS a ccd (lawCl cC cB) outer _ _ g L _ _ _ D9 _ ys' (by'.map (·.2)) _ _ B F9 X N9 T rfl (.head _) hy2 (by rw [List.length_map]; exact f5) (by walk_at "om") (by walk_at "om") fun S2 h10 tk10 tl10 vs10 n10 F10 N10 hs10 hR10 => ?_
              have hin10 : ∀ p ∈ tl2, p ∈ (S2, listOf vs10.toArray n10) :: tl10 := fun p hp => .tail _ (hs10 p (.tail _ (.tail _ (.tail _ (hs _ (hs4' p hp))))))
              refine lf_eqRows (e := eB b) (rs := tableM (by'.map (·.2))) (n₁ := tl2) (n₂ := tl10) N10 (.tail _ (hs10 _ (.tail _ (.tail _ (.tail _ (hs _ (.tail _ hfA4))))))) (.head _) hFi hin10 (All2.mono row_ir hR10) (fun p hp => .tail _ hp) (by ktr_units) ?_
              exact hret _ _ _ F10
end
end Mine
end
theorem Mine.rs57 : True := by (k_with_none; trivial)
section
open PySem PySem.W PyProof.Rows Mine PySem.Calls PySem.Spec PySem.Challenge
set_option maxRecDepth 100000
namespace Mine
noncomputable def lwB2 : List Stmt := by
  refine (fun (l : List Stmt) (_ : List.drop 2 lawB = l) => l) ?x ?h
  case h => (conv => lhs; whnf)
theorem pts_at {cs : List Nat} {i c : Nat} (hi : i < 5) (hc : cs[i]? = some c) : (ptsM cs)[i]? = some (i, c) := by
  unfold ptsM
  rw [List.getElem?_zip_eq_some]
  exact ⟨List.getElem?_range hi, hc⟩
theorem ints_at {vs : List Value} {ns : List Int} (h : IntsAre vs ns) : ∀ {i : Nat} {n : Int}, ns[i]? = some n → ∃ t, vs[i]? = some (.int n t) := by
  induction h with
  | nil => intro i n e; simp at e
  | cons m t _ ih =>
    intro i n e
    cases i with
    | zero => simp only [List.getElem?_cons_zero] at e ⊢; cases e; exact ⟨t, rfl⟩
    | succ i => simp only [List.getElem?_cons_succ] at e ⊢; exact ih e
end Mine
end
section
open PySem PySem.W PyProof.Rows Mine PySem.Calls PySem.Spec PySem.Challenge
set_option maxRecDepth 100000
namespace Mine
section
set_option maxHeartbeats 16000000 in
theorem law_b : ∀ {w : World} {mean : ExcName → Option Value} {mg mb : Str → Option Value} (dp un : Nat) (gd : Option (List Code)) (a : Addr) (ccd : Value) (outer : List Env) (A₀ : Around) (base g : Heap) (L : Addr) (m₁ : Str → Option Value) (s : Shared)
   (sA kA cC cB nc : Nat) (oC oB : Obj) (ovB : Option Value) (vs vc : List Value) (ns : List Int) (cs : List Nat)
    (Q : Flow → Shared → Prop) (E : Value → Shared → Prop)
    (B : Below A₀ base outer g) (X : (K w.params).In g) (T : Top Mine.q (looseW Mine.q loose) mean mg mb g) (hdp : dp + 200 < recursionLimit) (hu : un + 1500 < cLine)
    (F : Fr g L s.heap (kstB m₁ [(PySem.Str.ofString "script", .ref sA)])) (N : News g L s.heap [(kA, listOf vc.toArray nc), (cB, oB), (cC, oC)]) (hoC : oC.data = .cell (some (.ref kA))) (hoB : oB.data = .cell ovB) (hcb : @Ne Nat cB cC) (kB : @Ne Nat kA cB) (kC : @Ne Nat kA cC)
    (hL : g.IsList sA vs.toArray) (hI : IntsAre vs ns) (h63 : ns.length ≤ 63) (hIc : IntsAre vc (cs.map iN)) (hRe : Reach 4 cs)
    (hE : PassesOwn (model rw_wn0126_01.row.prog w) (ktrTop dp un gd lawN lawS L a ccd (lawCl cC cB) outer) (envX lawN lawS L a ccd (lawCl cC cB)) E)
    (hret : ∀ h' tk m', Fr g L h' m' → Q (.ret (.bool true)) { s with heap := h', toks := tk }),
   wpAny (model rw_wn0126_01.row.prog w) (ktrTop dp un gd lawN lawS L a ccd (lawCl cC cB) outer) (execs lwB2 (envX lawN lawS L a ccd (lawCl cC cB))) Q E s := by
  k_with_none
  k_with "all" => first | with_reducible assumption | exact lt_ne (by with_reducible assumption) | exact allLt_ne (by first | with_reducible assumption | exact And.right (by assumption) | exact And.right (And.right (by assumption)) | exact And.right (And.right (And.right (by assumption)))) | exact List.forall_mem_nil _ | (refine' List.forall_mem_cons.mpr ⟨(by k_ne), (by k_all)⟩)
  k_with "ne" => first | with_reducible assumption | exact Ne.symm (by with_reducible assumption) | (refine neN ?_; (try dsimp only); walk_at "om")
  k_with "CompSrc" => refine Stop.mk ?_
  k_with "CompEnd" => refine Stop.mk ?_
  k_with "FinA" => refine Stop.mk ?_
  k_with "subscriptTail" => (k_here; k_dflt (refine' lf_item (by k_asm) (by k_mem) ?_ ?_ (by with_reducible assumption) ?_; (walk_at "om"); (walk_at "om"); k_whole))
  k_fill
  intro w mean mg mb dp un gd a ccd outer A₀ base g L m₁ s sA kA cC cB nc oC oB ovB vs vc ns cs Q E B X T hdp hu F N hoC hoB hcb kB kC hL hI h63 hIc hRe hE hret
  dsimp (instances := true) only [kstB] at F
  have hcl := hRe.length
  have hvc := hIc.length
  rw [List.length_map] at hvc
  delta lwB2
  dsimp only
  k_steps
  refine Stop.on ?_
  rename_i D1 ws1 hz1 hi1 hi2 hi3 hl1 hz2 tz1 tz2 hz3 oB2 Fz1 Nz1 hoB2 hz4 tz3 u1 u2 u3 hr F1 N1 hz5
  obtain ⟨b, hb, hb90⟩ : ∃ b : Nat, (List.take 4 ns).sum.fmod 90 = (b : Int) ∧ b < 90 := by
    have h0 : (0 : Int) < 90 := by walk_at "om"
    have e := Int.fmod_eq_emod_of_nonneg (List.take 4 ns).sum (Int.le_of_lt h0)
    have h1 := Int.emod_nonneg (List.take 4 ns).sum (Int.ne_of_gt h0)
    have h2 := Int.emod_lt_of_pos (List.take 4 ns).sum h0
    exact ⟨((List.take 4 ns).sum % 90).toNat, by rw [e]; walk_at "om", by walk_at "om"⟩
  rw [hb] at hoB2
  generalize (PySem.Shared.toks _) = tb at hoB2
  have N2 : News g L hz4 [(kA, listOf vc.toArray nc), (cB, oB2), (cC, oC)] := fun p hp => N1 p (.tail _ hp)
  clear N1 Fz1 Nz1 hi1 hi2 hi3
  refine LCg.CompSrc.range (n := 5) rfl F1 N2 hr (by decide) (by decide) (by rw [sizeLine_eq]; walk_at "om") fun g' => ?_
  refine compR_ind (n := 5) (fun i ys nw => All2 (T2 (gP b) nw) ys ((ptsM cs).take i) ∧ ∀ p ∈ [(kA, listOf vc.toArray nc), (cB, oB2), (cC, oC)], p ∈ nw) ?turn ?done 5 0 [] _ rfl ⟨All2.nil, fun p hp => hp⟩
  case turn =>
    rintro i v ys nw I' oI' C' oC' D' m' h' tk' E' hi5 ⟨hy, hs⟩ ⟨tv, rfl⟩ hC' hxv F' N' off' ne'
    clear F1 N2
    have hk1 := hs _ (.head _)
    have hk2 := hs _ (.tail _ (.head _))
    have hk3 := hs _ (.tail _ (.tail _ (.head _)))
    have hci : cs[i]? = some (cs[i]'(by walk_at "om")) := List.getElem?_eq_getElem (by walk_at "om")
    generalize cs[i]'(by walk_at "om") = c at hci
    obtain ⟨ti, hvi⟩ := ints_at hIc (by rw [List.getElem?_map, hci]; rfl : (cs.map iN)[i]? = some (iN c))
    have hvi2 : vc[((0 : Int) + (i : Int)).toNat]? = some (.int (iN c) ti) := by rw [show ((0 : Int) + (i : Int)).toNat = i by walk_at "om"]; exact hvi
    k_steps
    refine Stop.on ?_
    rename_i T6 hz6 F6 N6 l6
    have e3 : (b : Int) + 7 * (0 + (i : Int)) = ((b + 7 * i : Nat) : Int) := by walk_at "om"
    rw [e3] at N6
    refine comp_end1 F6 N6 off' (lt_three l6) trivial ⟨?_, fun p hp => .tail _ (hs p hp)⟩
    rw [take_at (pts_at hi5 hci)]
    exact All2.append (All2.mono (T2.mono fun p hp => .tail _ hp) hy) (All2.cons ⟨T6, _, _, _, rfl, .head _⟩ All2.nil)
  case done =>
    rintro ys nw ⟨hy, hs⟩
    clear F1 N2
    have hpl : (ptsM cs).length = 5 := by unfold ptsM; rw [List.length_zip, List.length_range]; walk_at "om"
    rw [List.take_of_length_le (by walk_at "om")] at hy
    k_steps
    refine Stop.on ?_
    unfold LCg.FinA
    intro D6 h6 tk6 F6 N6 o6
    dsimp only
    have F7 := fr_ov [(PySem.Str.ofString "points", .ref D6)] (List.forall_mem_cons.mpr ⟨by with_unfolding_all rfl, List.forall_mem_nil _⟩) F6
    exact law_c dp un gd a ccd outer _ _ g L _ _ _ b D6 kA cC cB nc _ oC vc ys cs Q E B X T hdp hu F7 N6 (.tail _ (hs _ (.head _))) (.tail _ (hs _ (.tail _ (.tail _ (.head _))))) hoC (.head _) (All2.mono (T2.mono fun p hp => .tail _ hp) hy) hb90 hIc hRe hE hret
end
end Mine
end
theorem Mine.rs58 : True := by (k_with_none; trivial)
section
open PySem PySem.W PyProof.Rows Mine PySem.Calls PySem.Spec PySem.Challenge
set_option maxRecDepth 100000
namespace Mine
end Mine
end
section
open PySem PySem.W PyProof.Rows Mine PySem.Calls PySem.Spec PySem.Challenge
set_option maxRecDepth 100000
namespace Mine
section
set_option maxHeartbeats 16000000 in
theorem law_a : ∀ {w : World} {mean : ExcName → Option Value} {mg mb : Str → Option Value} (dp un : Nat) (gd : Option (List Code)) (a : Addr) (ccd : Value) (outer : List Env) (A₀ : Around) (base g : Heap) (L : Addr) (m₁ : Str → Option Value) (s : Shared)
   (sA cC cB : Nat) (oC oB : Obj) (ovC ovB : Option Value) (vs : List Value) (ns : List Int)
    (Q : Flow → Shared → Prop) (E : Value → Shared → Prop)
    (B : Below A₀ base outer g) (X : (K w.params).In g) (T : Top Mine.q (looseW Mine.q loose) mean mg mb g) (hdp : dp + 200 < recursionLimit) (hu : un + 1500 < cLine)
    (F : Fr g L s.heap (kstB m₁ [(PySem.Str.ofString "script", .ref sA)])) (N : News g L s.heap [(cB, oB), (cC, oC)]) (hoC : oC.data = .cell ovC) (hoB : oB.data = .cell ovB) (hcb : @Ne Nat cB cC)
    (hL : g.IsList sA vs.toArray) (hI : IntsAre vs ns) (h63 : ns.length ≤ 63)
    (hE : PassesOwn (model rw_wn0126_01.row.prog w) (ktrTop dp un gd lawN lawS L a ccd (lawCl cC cB) outer) (envX lawN lawS L a ccd (lawCl cC cB)) E)
    (hret : ∀ h' tk m', Fr g L h' m' → Q (.ret (.bool true)) { s with heap := h', toks := tk }),
   wpAny (model rw_wn0126_01.row.prog w) (ktrTop dp un gd lawN lawS L a ccd (lawCl cC cB) outer) (execs lawB (envX lawN lawS L a ccd (lawCl cC cB))) Q E s := by
  k_with_none
  k_with "all" => first | with_reducible assumption | exact lt_ne (by with_reducible assumption) | exact allLt_ne (by first | with_reducible assumption | exact And.right (by assumption) | exact And.right (And.right (by assumption)) | exact And.right (And.right (And.right (by assumption)))) | exact List.forall_mem_nil _ | (refine' List.forall_mem_cons.mpr ⟨(by k_ne), (by k_all)⟩)
  k_with "ne" => first | with_reducible assumption | exact Ne.symm (by with_reducible assumption) | (refine neN ?_; (try dsimp only); walk_at "om")
  k_with "UnrEndW" => refine Stop.mk ?_
  k_with "pyIter ref" => refine Stop.mk ?_
  k_with "exec For Name Subscript cons nil" => walk_at "m2"
  k_with "call builtin:list.insert" => refine Stop.mk ?_
  k_with "call builtin:len" => (k_here; k_dflt (refine' lf_len (by k_asm) (by k_mem) (by with_reducible assumption) (by walk_at "om") ?_; k_whole); (try dsimp only))
  k_fill
  intro w mean mg mb dp un gd a ccd outer A₀ base g L m₁ s sA cC cB oC oB ovC ovB vs ns Q E B X T hdp hu F N hoC hoB hcb hL hI h63 hE hret
  dsimp (instances := true) only [kstB] at F
  delta lawB
  dsimp only
  k_steps
  refine Stop.on ?_
  rename_i kA hz1 hl1 hz2 oC2 hoC2 zA hz3 hl2 D1 ws1 hz4 hi1 hl3 D2 ws2 hz5 F1 N1 hI2 hC2 hL2 hl4
  have hw2 := hI2.length
  have N2 : News g L hz5 ((kA, listOf ([.int 0 _] : List Value).toArray 0) :: (D2, listOf ws2.toArray 0) :: [(cB, oB), (cC, oC2)]) := fun p hp => N1 p (by
    rcases List.mem_cons.mp hp with rfl | hp
    · exact .tail _ (.tail _ (.tail _ (.head _)))
    · rcases List.mem_cons.mp hp with rfl | hp
      · exact .head _
      · exact .tail _ (.tail _ (.tail _ (.tail _ hp))))
  have k1 : @Ne Nat D2 kA := Nat.ne_of_gt hl4.2.2.1
  refine list_at (h₀ := g) (LaP [(cB, oB), (cC, oC2)] sA kA) rfl F1 N2 (.tail _ (.head _)) ?h0 ?turn ?done
  case h0 =>
    refine ⟨by with_unfolding_all rfl, _, [0], _, 0, _, rfl, List.forall_mem_cons.mpr ⟨k1, List.forall_mem_cons.mpr ⟨Nat.ne_of_lt hl1.1, List.forall_mem_cons.mpr ⟨Nat.ne_of_lt hl1.2, List.forall_mem_nil _⟩⟩⟩, fun p hp => .tail _ hp, hI2, .cons _ _ .nil, ?hR, ?hl⟩
    case hR =>
      rw [hw2, hC2, List.length_append]
      simp only [List.length_cons, List.length_nil]
      rw [show 4 - min 4 (ns.length + (0 + 1 + 1 + 1 + 1)) = 0 by walk_at "om"]
      exact .zero
    case hl => rw [hw2, hC2]; walk_at "om"
  case turn =>
    intro I v r m tl' it h5 tk5 hI5 hP hlm hoff F5 N5
    exact la_turn dp un gd a ccd outer _ _ g L m tl' [(cB, oB), (cC, oC2)] _ h5 tk5 I D2 0 sA kA cC cB oC2 it v r ws2 _ E B X T hdp hu F5 N5 hoff hlm k1 (.tail _ (.head _)) hoC2 hP hE
  case done =>
    intro m tl' h5 tk5 hP F5 N5
    obtain ⟨hcst, rs, cs, vc, nc, tl9, rfl, q9, hsub9, hIr9, hIc9, hRe9, hr9⟩ := hP
    rw [List.length_nil] at hRe9
    have F6 := fr_ov [(PySem.Str.ofString "script", .ref sA)] (List.forall_mem_cons.mpr ⟨hcst, List.forall_mem_nil _⟩) F5
    dsimp (instances := true) only [kstB] at F6
    have N6 : News g L h5 [(kA, listOf vc.toArray nc), (cB, oB), (cC, oC2)] := fun p hp => N5 p (by
      rcases List.mem_cons.mp hp with rfl | hp
      · exact .head _
      · exact .tail _ (hsub9 _ hp))
    have kB : @Ne Nat kA cB := Nat.ne_of_gt hl1.1
    have kC : @Ne Nat kA cC := Nat.ne_of_gt hl1.2
    have hcl := hRe9.length
    have hvc := hIc9.length
    rw [List.length_map] at hvc
    clear F1 N1 N2 F5 N5
    dsimp only
    exact law_b dp un gd a ccd outer _ _ g L m _ sA kA cC cB nc oC2 oB _ vs vc ns cs Q E B X T hdp hu F6 N6 hoC2 hoB hcb kB kC hL hI h63 hIc9 hRe9 hE hret
end
end Mine
end
theorem Mine.rs59 : True := by (k_with_none; trivial)
section
open PySem PySem.W PyProof.Rows Mine PySem.Calls PySem.Spec PySem.Challenge
set_option maxRecDepth 100000
set_option maxHeartbeats 8000000 in
theorem PySem.Challenge.cw_wn0126_01_holds : PySem.Challenge.rw_wn0126_01.Holds := by
  w_on
  refine holds_law law_said fun said => ?_
  refine holds_open (q := q) (loose := loose) (Xt := fun s => xlAt q [] s && recOk (RowW.records (OpenRow.toRowW (OpenLaw.row PySem.Challenge.rw_wn0126_01))) s) (XP := XL q []) (Yf := Hook.obs H) (Ya := Hook.val H) (YP := Hook.says H) (N := 4720) head_left (Hook.of H) (Hook.keeps H) (fun s e => xl_of s (Bool.and_eq_true_iff.mp e).1) XL.keeps (by rfl) (by rfl) (by rfl) (fun s e => recFacts_of (Bool.and_eq_true_iff.mp e).2) (by rfl) (by assumption) (by decide +kernel) ⟨rfl, rfl, rfl, rfl, rfl, by decide +kernel⟩ ?hw ?hc
  case hw => w_witness2
  k_fill
  intro w s₀ s₁ mg mb G Y fa o pm cd doc dV kV ho hd hcd hD hmg hg args vals as hpre hlay hrd hwl hlo
  have KX := kIn_of Y
  have X := (Ground.X G).1
  refine Ground.open G ?_
  intro T B D TE TW
  try (refine guard_noD D (by decide +kernel) ?_; clear D)
  have TA := at_of_top T
  try (obtain ⟨_, _, he, B0⟩ := based_of_top T rfl hmg ho hd; have he' : cd = _ := he; subst he'; clear he)
  clear hmg
  wrow_args hpre hlay hrd hwl hlo
  refine enter_call ?_
  w_top on
  try refine codeAny_mono ?_ (fun _ _ g => GoodW.toG g)
  have K0 := below_caller (Top.heap T)
  w_call any ho hd hcd hD T F
  clear hd TA
  k_drop
  rename_i oB oC hoB hoC N0 X0
  rename Fr _ _ _ _ => hF
  rename Top _ _ _ _ _ _ => hT
  rename Below _ _ _ _ => hB
  rename IntsAre _ _ => hI
  rename Heap.IsList _ _ _ => hL
  rename Frag.In _ _ => hX
  rename ¬ (_ < _) => h63
  refine law_a _ _ _ _ _ _ _ _ _ _ _ _ _ _ _ oC oB _ _ _ _ _ _ hB hX hT ?hdp ?hu (fr_ov [(PySem.Str.ofString "script", .ref _)] (List.forall_mem_cons.mpr ⟨?scr, List.forall_mem_nil _⟩) hF) N0 hoC hoB ?hcb hL hI ?h63 ?hE ?hret
  case scr => with_unfolding_all rfl
  case hdp => decide
  case hu => decide
  case hcb => exact Nat.ne_of_gt (Nat.lt_succ_self _)
  case h63 => walk_at "om"
  case hE => passes_own
  case hret =>
    intro h' tk m' hF'
    dsimp only
    clear hF
    k_steps
end

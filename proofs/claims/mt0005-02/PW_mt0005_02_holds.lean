import PyProof.Rows.All
import Wide.All
import OpenK.AllK
import Wide.FinOn
import Open.Tops
import KE.KRevSl
import PySem.Challenge.RW_mt0005_02
set_option Elab.async false
section
open PySem PySem.W PyProof.Rows
set_option Elab.async false
set_option maxRecDepth 100000
set_option maxHeartbeats 8000000
set_option linter.unusedVariables false
namespace Mine
noncomputable def anyF (as : Array Nat) (p : Nat → Bool) (start stop : Nat) : Bool :=
  @Bool.rec (fun _ => Bool) (Array.any as p start stop) (PySem.W.R.anyR as.toList p) (and (Nat.beq start 0) (Nat.beq stop as.toList.length))
theorem anyF_eq : @Array.any Nat = anyF := by
  funext as p start stop
  unfold anyF
  cases h : and (Nat.beq start 0) (Nat.beq stop as.toList.length) with
  | false => rfl
  | true =>
    have h' := Bool.and_eq_true_iff.mp h
    have e1 := Nat.eq_of_beq_eq_true h'.1
    have e2 := Nat.eq_of_beq_eq_true h'.2
    subst e1 e2
    show Array.any as p 0 as.size = PySem.W.R.anyR as.toList p
    rw [← PySem.W.R.anyR_eq, Array.any_toList]
abbrev AnyT := Array Nat → (Nat → Bool) → Nat → Nat → Bool
structure Carr (b : Builtin) : Type where
def pickF {f : AnyT → Builtin} (_ : Carr PySem.W.Fast.tw4202317264376624991 → Carr (f (@Array.any Nat))) : AnyT → Builtin := f
noncomputable def tnG : AnyT → Builtin := by
  refine pickF (f := ?f) ?c
  case c =>
    delta PySem.W.Fast.tw4202317264376624991
    generalize @Array.any Nat = A
    exact id
theorem tnG_eq : PySem.W.Fast.tw4202317264376624991 = tnG (@Array.any Nat) := by kernel_rfl
noncomputable def tn : Builtin := tnG anyF
theorem tn_eq : PySem.W.Fast.tw4202317264376624991 = tn := tnG_eq.trans (congrArg tnG anyF_eq)
noncomputable def tab3 (id : String) : Option Builtin :=
  @Bool.rec (fun _ => Option Builtin) (PySem.W.Fast.tw1115789885857029328.find (PySem.W.Fast.tw13482112738370960269 id)) (some tn) (Nat.beq (PySem.W.Fast.tw13482112738370960269 id) (code "type.__new__"))
theorem find_tn : PySem.W.Fast.tw1115789885857029328.find (code "type.__new__") = some PySem.W.Fast.tw4202317264376624991 := by kernel_rfl
theorem tab_eq : treeTable = tab3 := by
  rw [PySem.W.Fast.te14364793385576792824]
  funext id
  show PySem.W.Fast.tw1115789885857029328.find (PySem.W.Fast.tw13482112738370960269 id) = _
  unfold tab3
  cases h : Nat.beq (PySem.W.Fast.tw13482112738370960269 id) (code "type.__new__") with
  | false => rfl
  | true =>
    have e := Nat.eq_of_beq_eq_true h
    rw [e, find_tn]
    exact congrArg some tn_eq
noncomputable section
noncomputable abbrev prog : Program := PySem.Challenge.pw_mt0005_02
noncomputable def stP (p : Program) (i : Nat) : Stmt := p.main.body.getD i (.Pass ⟨0, 0, 0, 0⟩)
noncomputable def stAt : Nat → Stmt := stP prog
noncomputable def fnArgs : Stmt → Arguments
  | .FunctionDef _ a _ _ _ _ _ _ _ _ => a
  | _ => ⟨[], [], none, [], [], none, []⟩
noncomputable def fnBody : Stmt → List Stmt
  | .FunctionDef _ _ b _ _ _ _ _ _ _ => b
  | _ => []
noncomputable def fnScope : Stmt → Scope
  | .FunctionDef _ _ _ _ _ _ sc _ _ _ => sc
  | _ => prog.main.scope
noncomputable def clBody : Stmt → List Stmt
  | .ClassDef _ _ _ b _ _ _ _ _ _ _ => b
  | _ => []
noncomputable def inP (p : Program) (i j : Nat) : Stmt := (clBody (stP p i)).getD j (.Pass ⟨0, 0, 0, 0⟩)
noncomputable def inAt : Nat → Nat → Stmt := inP prog
noncomputable def docS : List Stmt → Str
  | .Expr (.Constant (.str s) _ _) _ :: _ => s
  | _ => Str.empty
/-! the class's docstring, by its signs -/
noncomputable def putE (x : Str) : Stmt → Stmt
  | .Expr (.Constant (.str _) a b) c => .Expr (.Constant (.str x) a b) c
  | s => s
noncomputable def putD (x : Str) : Stmt → Stmt
  | .ClassDef a b c d e f g h i j l => .ClassDef a b c (match d with | [] => [] | s :: r => putE x s :: r) e f g h i j l
  | s => s
noncomputable def putAt (x : Str) : Nat → List Stmt → List Stmt
  | 0, s :: r => putD x s :: r
  | n + 1, s :: r => s :: putAt x n r
  | _, [] => []
noncomputable def surg (p : Program) (x : Str) : Program := { p with main := { p.main with body := putAt x 5 p.main.body } }
noncomputable def pickC {cs : List Char} (_ : docS (clBody (stAt 5)) = Str.ofString (String.ofList cs)) : List Char := cs
noncomputable def docC : List Char := pickC (cs := _) rfl
theorem doc_lit : docS (clBody (stAt 5)) = Str.ofString (String.ofList docC) := by kernel_rfl
noncomputable def docT : Str := ⟨⟨PySem.W.R.mapR Char.toNat docC⟩⟩
theorem doc_eq : docS (clBody (stAt 5)) = docT := by
  rw [doc_lit, Str.ofString_eq_toList, String.toList_ofList]
  unfold docT
  rw [← PySem.W.R.mapR_eq]
noncomputable def progT : Program := surg prog docT
theorem surg_eq : surg prog (docS (clBody (stAt 5))) = prog := by kernel_rfl
theorem prog_eq : progT = prog := by
  unfold progT
  rw [← doc_eq, surg_eq]
end
end Mine
end
section
open PySem PySem.W PyProof.Rows
set_option Elab.async false
set_option maxRecDepth 100000
set_option maxHeartbeats 8000000
set_option linter.unusedVariables false
namespace Mine
noncomputable section
noncomputable def o3 (P : Params) : Obj := ⟨(.type "dict"), none, (.dict [⟨PyData.keyHash P (Str.ofString "__name__"), (.str (Str.ofString "__name__") 165), (.str (Str.ofString "law_mt0005_02") 585)⟩, ⟨PyData.keyHash P (Str.ofString "__doc__"), (.str (Str.ofString "__doc__") 166), .none⟩, ⟨PyData.keyHash P (Str.ofString "__package__"), (.str (Str.ofString "__package__") 167), .none⟩, ⟨PyData.keyHash P (Str.ofString "__loader__"), (.str (Str.ofString "__loader__") 168), (.builtin "__main__.__loader__#opaque")⟩, ⟨PyData.keyHash P (Str.ofString "__spec__"), (.str (Str.ofString "__spec__") 169), .none⟩, ⟨PyData.keyHash P (Str.ofString "__annotations__"), (.str (Str.ofString "__annotations__") 170), (.ref 6)⟩, ⟨PyData.keyHash P (Str.ofString "__builtins__"), (.str (Str.ofString "__builtins__") 171), (.ref 4)⟩, ⟨PyData.keyHash P (Str.ofString "__file__"), (.str (Str.ofString "__file__") 173), (.str (Str.ofString "/claim/cut.py") 172)⟩, ⟨PyData.keyHash P (Str.ofString "__cached__"), (.str (Str.ofString "__cached__") 174), .none⟩, ⟨PyData.keyHash P (Str.ofString "_wall"), (.str (Str.ofString "_wall") 193), (.ref 21)⟩, ⟨PyData.keyHash P (Str.ofString "_tuplegetter"), (.str (Str.ofString "_tuplegetter") 252), (.ref 60)⟩, ⟨PyData.keyHash P (Str.ofString "Match"), (.str (Str.ofString "Match") 380), (.ref 135)⟩, ⟨PyData.keyHash P (Str.ofString "_calculate_ratio"), (.str (Str.ofString "_calculate_ratio") 388), (.ref 145)⟩, ⟨PyData.keyHash P (Str.ofString "SequenceMatcher"), (.str (Str.ofString "SequenceMatcher") 584), (.ref 242)⟩, ⟨PyData.keyHash P (Str.ofString "_law_counted"), (.str (Str.ofString "_law_counted") 595), (.ref 253)⟩, ⟨PyData.keyHash P (Str.ofString "_law_ring"), (.str (Str.ofString "_law_ring") 605), (.ref 260)⟩, ⟨PyData.keyHash P (Str.ofString "_law_part"), (.str (Str.ofString "_law_part") 611), (.ref 265)⟩, ⟨PyData.keyHash P (Str.ofString "_law_told"), (.str (Str.ofString "_law_told") 618), (.ref 272)⟩, ⟨PyData.keyHash P (Str.ofString "law"), (.str (Str.ofString "law") 624), (.ref 277)⟩].toArray 19), [].toArray⟩
noncomputable def o11 (P : Params) : Obj := ⟨(.type "tuple"), none, (.seq [].toArray 0), [].toArray⟩
noncomputable def o12 (P : Params) : Obj := ⟨.none, none, (.fields [(.int (1) 0), (.int (0) 0), (.ref 20), (.int (5) 0), (.int (0) 0), (.ref 27), (.int (23) 0), (.int (0) 0), (.ref 71), (.int (66) 0), (.int (0) 0), (.ref 144), (.int (70) 0), (.int (0) 0), (.ref 151), (.int (445) 0), (.int (0) 0), (.ref 252), (.int (454) 0), (.int (0) 0), (.ref 259), (.int (461) 0), (.int (0) 0), (.ref 264), (.int (463) 0), (.int (0) 0), (.ref 271), (.int (465) 0), (.int (0) 0), (.ref 276)].toArray), [].toArray⟩
noncomputable def s12 (P : Params) : Obj := ⟨.none, none, (.fields [].toArray), [].toArray⟩
noncomputable def o13 (P : Params) : Obj := ⟨(.type "code"), none, (.fields [(.str (Str.ofString "<module>") 182), (.str (Str.ofString "<module>") 183), (.str (Str.ofString "/claim/cut.py") 184), (.int (1) 0), (.int (0) 0), (.int (0) 0), (.int (0) 0), (.int (0) 0), (.ref 11), (.bool false), (.int (181) 0), (.ref 12), .none, .none, .none, .none, (.int (185) 0), (.int (1) 0), (.str (Str.ofString "/claim/cut.py") 186)].toArray), [].toArray⟩
noncomputable def o14 (P : Params) : Obj := ⟨(.type "frame"), none, .plain, [some (.ref 13), some (.ref 3), some (.ref 3), none, some (.str (Str.ofString "__main__") 164), none, some (.ref 0)].toArray⟩
noncomputable def o15 (P : Params) : Obj := ⟨(.type "tuple"), none, (.seq [].toArray 0), [].toArray⟩
noncomputable def o16 (P : Params) : Obj := ⟨.none, none, (.fields [].toArray), [].toArray⟩
noncomputable def o17 (P : Params) : Obj := ⟨(.type "tuple"), none, (.seq [(.str (Str.ofString "k") 190)].toArray 0), [].toArray⟩
noncomputable def o18 (P : Params) : Obj := ⟨(.type "tuple"), none, (.seq [].toArray 0), [].toArray⟩
noncomputable def ox19 (p : Program) (P : Params) : Obj := ⟨.none, none, (.func ⟨(Str.ofString "_wall"), (Str.ofString "_wall"), fnArgs (stP p 0), .stmts (fnBody (stP p 0)), fnScope (stP p 0), 0, [], .none, .none, .none, .none, none, .none, .none, 0⟩), [].toArray⟩
noncomputable def o20 (P : Params) : Obj := ⟨(.type "code"), none, (.fields [(.str (Str.ofString "_wall") 187), (.str (Str.ofString "_wall") 188), (.str (Str.ofString "/claim/cut.py") 189), (.int (1) 0), (.int (1) 0), (.int (0) 0), (.int (0) 0), (.int (3) 0), (.ref 15), (.bool true), (.int (181) 0), (.ref 16), .none, (.ref 17), (.ref 18), (.ref 19), (.int (191) 0), (.int (1) 0), (.str (Str.ofString "/claim/cut.py") 192)].toArray), [].toArray⟩
noncomputable def ox21 (p : Program) (P : Params) : Obj := ⟨(.type "function"), none, (.func ⟨(Str.ofString "_wall"), (Str.ofString "_wall"), fnArgs (stP p 0), .stmts (fnBody (stP p 0)), fnScope (stP p 0), 3, [], .none, .none, .none, (.str (Str.ofString "__main__") 164), none, (.ref 20), .none, 0⟩), [].toArray⟩
noncomputable def o21 : Params → Obj := ox21 prog
noncomputable def o22 (P : Params) : Obj := ⟨(.type "tuple"), none, (.seq [].toArray 0), [].toArray⟩
noncomputable def o23 (P : Params) : Obj := ⟨(.type "builtin_function_or_method"), none, (.fields [(.builtin "type.__prepare__"), (.type "type")].toArray), [].toArray⟩
noncomputable def o24 (P : Params) : Obj := ⟨(.type "dict"), none, (.dict [⟨PyData.keyHash P (Str.ofString "__module__"), (.str (Str.ofString "__module__") 203), (.str (Str.ofString "cpy313.difflib") 194)⟩, ⟨PyData.keyHash P (Str.ofString "__qualname__"), (.str (Str.ofString "__qualname__") 205), (.str (Str.ofString "_tuplegetter") 204)⟩, ⟨PyData.keyHash P (Str.ofString "__firstlineno__"), (.str (Str.ofString "__firstlineno__") 207), (.int (5) 206)⟩, ⟨PyData.keyHash P (Str.ofString "__init__"), (.str (Str.ofString "__init__") 216), (.ref 35)⟩, ⟨PyData.keyHash P (Str.ofString "__get__"), (.str (Str.ofString "__get__") 225), (.ref 43)⟩, ⟨PyData.keyHash P (Str.ofString "__set__"), (.str (Str.ofString "__set__") 234), (.ref 50)⟩, ⟨PyData.keyHash P (Str.ofString "__delete__"), (.str (Str.ofString "__delete__") 242), (.ref 57)⟩, ⟨PyData.keyHash P (Str.ofString "__static_attributes__"), (.str (Str.ofString "__static_attributes__") 245), (.ref 58)⟩].toArray 8), [].toArray⟩
noncomputable def o25 (P : Params) : Obj := ⟨(.type "tuple"), none, (.seq [].toArray 0), [].toArray⟩
noncomputable def o26 (P : Params) : Obj := ⟨.none, none, (.fields [(.int (7) 0), (.int (4) 0), (.ref 34), (.int (11) 0), (.int (4) 0), (.ref 42), (.int (18) 0), (.int (4) 0), (.ref 49), (.int (21) 0), (.int (4) 0), (.ref 56)].toArray), [].toArray⟩
noncomputable def o27 (P : Params) : Obj := ⟨(.type "code"), none, (.fields [(.str (Str.ofString "_tuplegetter") 198), (.str (Str.ofString "_tuplegetter") 199), (.str (Str.ofString "/claim/cut.py") 200), (.int (5) 0), (.int (0) 0), (.int (0) 0), (.int (0) 0), (.int (0) 0), (.ref 25), (.bool false), (.int (181) 0), (.ref 26), .none, .none, .none, .none, (.int (201) 0), (.int (5) 0), (.str (Str.ofString "/claim/cut.py") 202)].toArray), [].toArray⟩
noncomputable def o28 (P : Params) : Obj := ⟨(.type "frame"), none, .plain, [some (.ref 27), some (.ref 3), some (.ref 24), none, some (.str (Str.ofString "cpy313.difflib") 194), none, some (.ref 0)].toArray⟩
noncomputable def o29 (P : Params) : Obj := ⟨(.type "tuple"), none, (.seq [].toArray 0), [].toArray⟩
noncomputable def o30 (P : Params) : Obj := ⟨.none, none, (.fields [].toArray), [].toArray⟩
noncomputable def o31 (P : Params) : Obj := ⟨(.type "tuple"), none, (.seq [(.str (Str.ofString "self") 211), (.str (Str.ofString "index") 212), (.str (Str.ofString "doc") 213)].toArray 0), [].toArray⟩
noncomputable def o32 (P : Params) : Obj := ⟨(.type "tuple"), none, (.seq [].toArray 0), [].toArray⟩
noncomputable def ox33 (p : Program) (P : Params) : Obj := ⟨.none, none, (.func ⟨(Str.ofString "__init__"), (Str.ofString "_tuplegetter.__init__"), fnArgs (inP p 2 0), .stmts (fnBody (inP p 2 0)), fnScope (inP p 2 0), 0, [], .none, .none, .none, .none, none, .none, .none, 0⟩), [].toArray⟩
noncomputable def o34 (P : Params) : Obj := ⟨(.type "code"), none, (.fields [(.str (Str.ofString "__init__") 208), (.str (Str.ofString "_tuplegetter.__init__") 209), (.str (Str.ofString "/claim/cut.py") 210), (.int (7) 0), (.int (3) 0), (.int (0) 0), (.int (0) 0), (.int (3) 0), (.ref 29), (.bool true), (.int (181) 0), (.ref 30), .none, (.ref 31), (.ref 32), (.ref 33), (.int (214) 0), (.int (7) 0), (.str (Str.ofString "/claim/cut.py") 215)].toArray), [].toArray⟩
noncomputable def ox35 (p : Program) (P : Params) : Obj := ⟨(.type "function"), none, (.func ⟨(Str.ofString "__init__"), (Str.ofString "_tuplegetter.__init__"), fnArgs (inP p 2 0), .stmts (fnBody (inP p 2 0)), fnScope (inP p 2 0), 3, [], .none, .none, .none, (.str (Str.ofString "cpy313.difflib") 194), none, (.ref 34), .none, 0⟩), [].toArray⟩
noncomputable def o35 : Params → Obj := ox35 prog
noncomputable def o36 (P : Params) : Obj := ⟨(.type "tuple"), none, (.seq [.none].toArray 0), [].toArray⟩
noncomputable def o37 (P : Params) : Obj := ⟨(.type "tuple"), none, (.seq [].toArray 0), [].toArray⟩
noncomputable def o38 (P : Params) : Obj := ⟨.none, none, (.fields [].toArray), [].toArray⟩
noncomputable def o39 (P : Params) : Obj := ⟨(.type "tuple"), none, (.seq [(.str (Str.ofString "self") 220), (.str (Str.ofString "obj") 221), (.str (Str.ofString "objtype") 222)].toArray 0), [].toArray⟩
noncomputable def o40 (P : Params) : Obj := ⟨(.type "tuple"), none, (.seq [].toArray 0), [].toArray⟩
noncomputable def ox41 (p : Program) (P : Params) : Obj := ⟨.none, none, (.func ⟨(Str.ofString "__get__"), (Str.ofString "_tuplegetter.__get__"), fnArgs (inP p 2 1), .stmts (fnBody (inP p 2 1)), fnScope (inP p 2 1), 0, [], .none, .none, .none, .none, none, .none, .none, 0⟩), [].toArray⟩
noncomputable def o42 (P : Params) : Obj := ⟨(.type "code"), none, (.fields [(.str (Str.ofString "__get__") 217), (.str (Str.ofString "_tuplegetter.__get__") 218), (.str (Str.ofString "/claim/cut.py") 219), (.int (11) 0), (.int (3) 0), (.int (0) 0), (.int (0) 0), (.int (3) 0), (.ref 37), (.bool true), (.int (181) 0), (.ref 38), .none, (.ref 39), (.ref 40), (.ref 41), (.int (223) 0), (.int (11) 0), (.str (Str.ofString "/claim/cut.py") 224)].toArray), [].toArray⟩
noncomputable def ox43 (p : Program) (P : Params) : Obj := ⟨(.type "function"), none, (.func ⟨(Str.ofString "__get__"), (Str.ofString "_tuplegetter.__get__"), fnArgs (inP p 2 1), .stmts (fnBody (inP p 2 1)), fnScope (inP p 2 1), 3, [], (.ref 36), .none, .none, (.str (Str.ofString "cpy313.difflib") 194), none, (.ref 42), .none, 0⟩), [].toArray⟩
noncomputable def o43 : Params → Obj := ox43 prog
noncomputable def o44 (P : Params) : Obj := ⟨(.type "tuple"), none, (.seq [].toArray 0), [].toArray⟩
noncomputable def o45 (P : Params) : Obj := ⟨.none, none, (.fields [].toArray), [].toArray⟩
noncomputable def o46 (P : Params) : Obj := ⟨(.type "tuple"), none, (.seq [(.str (Str.ofString "self") 229), (.str (Str.ofString "obj") 230), (.str (Str.ofString "value") 231)].toArray 0), [].toArray⟩
noncomputable def o47 (P : Params) : Obj := ⟨(.type "tuple"), none, (.seq [].toArray 0), [].toArray⟩
noncomputable def ox48 (p : Program) (P : Params) : Obj := ⟨.none, none, (.func ⟨(Str.ofString "__set__"), (Str.ofString "_tuplegetter.__set__"), fnArgs (inP p 2 2), .stmts (fnBody (inP p 2 2)), fnScope (inP p 2 2), 0, [], .none, .none, .none, .none, none, .none, .none, 0⟩), [].toArray⟩
noncomputable def o49 (P : Params) : Obj := ⟨(.type "code"), none, (.fields [(.str (Str.ofString "__set__") 226), (.str (Str.ofString "_tuplegetter.__set__") 227), (.str (Str.ofString "/claim/cut.py") 228), (.int (18) 0), (.int (3) 0), (.int (0) 0), (.int (0) 0), (.int (3) 0), (.ref 44), (.bool true), (.int (181) 0), (.ref 45), .none, (.ref 46), (.ref 47), (.ref 48), (.int (232) 0), (.int (18) 0), (.str (Str.ofString "/claim/cut.py") 233)].toArray), [].toArray⟩
noncomputable def ox50 (p : Program) (P : Params) : Obj := ⟨(.type "function"), none, (.func ⟨(Str.ofString "__set__"), (Str.ofString "_tuplegetter.__set__"), fnArgs (inP p 2 2), .stmts (fnBody (inP p 2 2)), fnScope (inP p 2 2), 3, [], .none, .none, .none, (.str (Str.ofString "cpy313.difflib") 194), none, (.ref 49), .none, 0⟩), [].toArray⟩
noncomputable def o50 : Params → Obj := ox50 prog
noncomputable def o51 (P : Params) : Obj := ⟨(.type "tuple"), none, (.seq [].toArray 0), [].toArray⟩
noncomputable def o52 (P : Params) : Obj := ⟨.none, none, (.fields [].toArray), [].toArray⟩
noncomputable def o53 (P : Params) : Obj := ⟨(.type "tuple"), none, (.seq [(.str (Str.ofString "self") 238), (.str (Str.ofString "obj") 239)].toArray 0), [].toArray⟩
noncomputable def o54 (P : Params) : Obj := ⟨(.type "tuple"), none, (.seq [].toArray 0), [].toArray⟩
noncomputable def ox55 (p : Program) (P : Params) : Obj := ⟨.none, none, (.func ⟨(Str.ofString "__delete__"), (Str.ofString "_tuplegetter.__delete__"), fnArgs (inP p 2 3), .stmts (fnBody (inP p 2 3)), fnScope (inP p 2 3), 0, [], .none, .none, .none, .none, none, .none, .none, 0⟩), [].toArray⟩
noncomputable def o56 (P : Params) : Obj := ⟨(.type "code"), none, (.fields [(.str (Str.ofString "__delete__") 235), (.str (Str.ofString "_tuplegetter.__delete__") 236), (.str (Str.ofString "/claim/cut.py") 237), (.int (21) 0), (.int (2) 0), (.int (0) 0), (.int (0) 0), (.int (3) 0), (.ref 51), (.bool true), (.int (181) 0), (.ref 52), .none, (.ref 53), (.ref 54), (.ref 55), (.int (240) 0), (.int (21) 0), (.str (Str.ofString "/claim/cut.py") 241)].toArray), [].toArray⟩
noncomputable def ox57 (p : Program) (P : Params) : Obj := ⟨(.type "function"), none, (.func ⟨(Str.ofString "__delete__"), (Str.ofString "_tuplegetter.__delete__"), fnArgs (inP p 2 3), .stmts (fnBody (inP p 2 3)), fnScope (inP p 2 3), 3, [], .none, .none, .none, (.str (Str.ofString "cpy313.difflib") 194), none, (.ref 56), .none, 0⟩), [].toArray⟩
noncomputable def o57 : Params → Obj := ox57 prog
noncomputable def o58 (P : Params) : Obj := ⟨(.type "tuple"), none, (.seq [(.str (Str.ofString "__doc__") 243), (.str (Str.ofString "index") 244)].toArray 0), [].toArray⟩
noncomputable def o59 (P : Params) : Obj := ⟨(.type "dict"), none, (.dict [⟨PyData.keyHash P (Str.ofString "__module__"), (.str (Str.ofString "__module__") 203), (.str (Str.ofString "cpy313.difflib") 194)⟩, ⟨PyData.keyHash P (Str.ofString "__firstlineno__"), (.str (Str.ofString "__firstlineno__") 207), (.int (5) 206)⟩, ⟨PyData.keyHash P (Str.ofString "__init__"), (.str (Str.ofString "__init__") 216), (.ref 35)⟩, ⟨PyData.keyHash P (Str.ofString "__get__"), (.str (Str.ofString "__get__") 225), (.ref 43)⟩, ⟨PyData.keyHash P (Str.ofString "__set__"), (.str (Str.ofString "__set__") 234), (.ref 50)⟩, ⟨PyData.keyHash P (Str.ofString "__delete__"), (.str (Str.ofString "__delete__") 242), (.ref 57)⟩, ⟨PyData.keyHash P (Str.ofString "__static_attributes__"), (.str (Str.ofString "__static_attributes__") 245), (.ref 58)⟩, ⟨PyData.keyHash P (Str.ofString "__dict__"), (.str (Str.ofString "__dict__") 247), (.ref 61)⟩, ⟨PyData.keyHash P (Str.ofString "__weakref__"), (.str (Str.ofString "__weakref__") 249), (.ref 62)⟩, ⟨PyData.keyHash P (Str.ofString "__doc__"), (.str (Str.ofString "__doc__") 250), .none⟩].toArray 4), [].toArray⟩
noncomputable def o60 (P : Params) : Obj := ⟨(.type "type"), none, (.cls ⟨(Str.ofString "_tuplegetter"), [(.type "object")], [(.ref 60), (.type "object")], 59, (Str.ofString "_tuplegetter"), true, [], [], false, none, false⟩), [none, none, some (.str (Str.ofString "_tuplegetter") 196), some (.str (Str.ofString "_tuplegetter") 204), some (.builtin "object.__new__"), some (.bool true)].toArray⟩
noncomputable def o61 (P : Params) : Obj := ⟨(.type "getset_descriptor"), none, (.fields [(.str (Str.ofString "__dict__") 246), (.ref 60), (.builtin "function.__dict__"), (.builtin "function.__dict__#set")].toArray), [].toArray⟩
noncomputable def o62 (P : Params) : Obj := ⟨(.type "getset_descriptor"), none, (.fields [(.str (Str.ofString "__weakref__") 248), (.ref 60), (.builtin "ExceptionGroup.__weakref__"), .none].toArray), [].toArray⟩
noncomputable def o63 (P : Params) : Obj := ⟨(.type "super"), none, (.fields [(.ref 60), (.ref 60), (.ref 60)].toArray), [].toArray⟩
noncomputable def o64 (P : Params) : Obj := ⟨(.type "builtin_function_or_method"), none, (.fields [(.builtin "object.__init_subclass__"), (.ref 60)].toArray), [].toArray⟩
noncomputable def o65 (P : Params) : Obj := ⟨(.type "tuple"), none, (.seq [(.type "tuple")].toArray 0), [].toArray⟩
noncomputable def o66 (P : Params) : Obj := ⟨(.type "builtin_function_or_method"), none, (.fields [(.builtin "type.__prepare__"), (.type "type")].toArray), [].toArray⟩
noncomputable def ox67 (p : Program) (P : Params) : Obj := ⟨(.type "dict"), none, (.dict [⟨PyData.keyHash P (Str.ofString "__module__"), (.str (Str.ofString "__module__") 260), (.str (Str.ofString "cpy313.difflib") 194)⟩, ⟨PyData.keyHash P (Str.ofString "__qualname__"), (.str (Str.ofString "__qualname__") 262), (.str (Str.ofString "Match") 261)⟩, ⟨PyData.keyHash P (Str.ofString "__firstlineno__"), (.str (Str.ofString "__firstlineno__") 264), (.int (23) 263)⟩, ⟨PyData.keyHash P (Str.ofString "__doc__"), (.str (Str.ofString "__doc__") 266), (.str (docS (clBody (stP p 3))) 265)⟩, ⟨PyData.keyHash P (Str.ofString "__slots__"), (.str (Str.ofString "__slots__") 268), (.ref 73)⟩, ⟨PyData.keyHash P (Str.ofString "_fields"), (.str (Str.ofString "_fields") 272), (.ref 74)⟩, ⟨PyData.keyHash P (Str.ofString "_field_defaults"), (.str (Str.ofString "_field_defaults") 273), (.ref 75)⟩, ⟨PyData.keyHash P (Str.ofString "__new__"), (.str (Str.ofString "__new__") 284), (.ref 82)⟩, ⟨PyData.keyHash P (Str.ofString "_make"), (.str (Str.ofString "_make") 306), (.ref 91)⟩, ⟨PyData.keyHash P (Str.ofString "_replace"), (.str (Str.ofString "_replace") 317), (.ref 100)⟩, ⟨PyData.keyHash P (Str.ofString "__replace__"), (.str (Str.ofString "__replace__") 318), (.ref 100)⟩, ⟨PyData.keyHash P (Str.ofString "__repr__"), (.str (Str.ofString "__repr__") 326), (.ref 107)⟩, ⟨PyData.keyHash P (Str.ofString "_asdict"), (.str (Str.ofString "_asdict") 333), (.ref 114)⟩, ⟨PyData.keyHash P (Str.ofString "__getnewargs__"), (.str (Str.ofString "__getnewargs__") 341), (.ref 121)⟩, ⟨PyData.keyHash P (Str.ofString "__match_args__"), (.str (Str.ofString "__match_args__") 345), (.ref 122)⟩, ⟨PyData.keyHash P (Str.ofString "a"), (.str (Str.ofString "a") 355), (.ref 124)⟩, ⟨PyData.keyHash P (Str.ofString "b"), (.str (Str.ofString "b") 365), (.ref 127)⟩, ⟨PyData.keyHash P (Str.ofString "size"), (.str (Str.ofString "size") 375), (.ref 130)⟩, ⟨PyData.keyHash P (Str.ofString "__static_attributes__"), (.str (Str.ofString "__static_attributes__") 376), (.ref 132)⟩, ⟨PyData.keyHash P (Str.ofString "__classcell__"), (.str (Str.ofString "__classcell__") 377), (.ref 68)⟩].toArray 20), [].toArray⟩
noncomputable def o68 (P : Params) : Obj := ⟨(.type "cell"), none, (.cell (some (.ref 135))), [].toArray⟩
noncomputable def o69 (P : Params) : Obj := ⟨(.type "tuple"), none, (.seq [].toArray 0), [].toArray⟩
noncomputable def o70 (P : Params) : Obj := ⟨.none, none, (.fields [(.int (29) 0), (.int (4) 0), (.ref 81), (.int (34) 0), (.int (4) 0), (.ref 88), (.int (41) 0), (.int (4) 0), (.ref 99), (.int (52) 0), (.int (4) 0), (.ref 106), (.int (56) 0), (.int (4) 0), (.ref 113), (.int (59) 0), (.int (4) 0), (.ref 120)].toArray), [].toArray⟩
noncomputable def o71 (P : Params) : Obj := ⟨(.type "code"), none, (.fields [(.str (Str.ofString "Match") 255), (.str (Str.ofString "Match") 256), (.str (Str.ofString "/claim/cut.py") 257), (.int (23) 0), (.int (0) 0), (.int (0) 0), (.int (0) 0), (.int (0) 0), (.ref 69), (.bool false), (.int (181) 0), (.ref 70), .none, .none, .none, .none, (.int (258) 0), (.int (23) 0), (.str (Str.ofString "/claim/cut.py") 259)].toArray), [].toArray⟩
noncomputable def o72 (P : Params) : Obj := ⟨(.type "frame"), none, .plain, [some (.ref 71), some (.ref 3), some (.ref 67), none, some (.str (Str.ofString "cpy313.difflib") 194), none, some (.ref 0)].toArray⟩
noncomputable def o73 (P : Params) : Obj := ⟨(.type "tuple"), none, (.seq [].toArray 0), [].toArray⟩
noncomputable def o74 (P : Params) : Obj := ⟨(.type "tuple"), none, (.seq [(.str (Str.ofString "a") 269), (.str (Str.ofString "b") 270), (.str (Str.ofString "size") 271)].toArray 0), [].toArray⟩
noncomputable def o75 (P : Params) : Obj := ⟨(.type "dict"), none, (.dict [].toArray 0), [].toArray⟩
noncomputable def o76 (P : Params) : Obj := ⟨(.type "tuple"), none, (.seq [].toArray 0), [].toArray⟩
noncomputable def o77 (P : Params) : Obj := ⟨.none, none, (.fields [].toArray), [].toArray⟩
noncomputable def o78 (P : Params) : Obj := ⟨(.type "tuple"), none, (.seq [(.str (Str.ofString "_cls") 277), (.str (Str.ofString "a") 278), (.str (Str.ofString "b") 279), (.str (Str.ofString "size") 280)].toArray 0), [].toArray⟩
noncomputable def o79 (P : Params) : Obj := ⟨(.type "tuple"), none, (.seq [].toArray 0), [].toArray⟩
noncomputable def ox80 (p : Program) (P : Params) : Obj := ⟨.none, none, (.func ⟨(Str.ofString "__new__"), (Str.ofString "Match.__new__"), fnArgs (inP p 3 4), .stmts (fnBody (inP p 3 4)), fnScope (inP p 3 4), 0, [], .none, .none, .none, .none, none, .none, .none, 0⟩), [].toArray⟩
noncomputable def o81 (P : Params) : Obj := ⟨(.type "code"), none, (.fields [(.str (Str.ofString "__new__") 274), (.str (Str.ofString "Match.__new__") 275), (.str (Str.ofString "/claim/cut.py") 276), (.int (29) 0), (.int (4) 0), (.int (0) 0), (.int (0) 0), (.int (3) 0), (.ref 76), (.bool true), (.int (181) 0), (.ref 77), .none, (.ref 78), (.ref 79), (.ref 80), (.int (281) 0), (.int (29) 0), (.str (Str.ofString "/claim/cut.py") 282)].toArray), [].toArray⟩
noncomputable def ox82 (p : Program) (P : Params) : Obj := ⟨(.type "function"), none, (.func ⟨(Str.ofString "__new__"), (Str.ofString "Match.__new__"), fnArgs (inP p 3 4), .stmts (fnBody (inP p 3 4)), fnScope (inP p 3 4), 3, [], .none, .none, (.str (docS (fnBody (inP p 3 4))) 283), (.str (Str.ofString "cpy313.difflib") 194), none, (.ref 81), .none, 0⟩), [].toArray⟩
noncomputable def o82 : Params → Obj := ox82 prog
noncomputable def o83 (P : Params) : Obj := ⟨(.type "tuple"), none, (.seq [].toArray 0), [].toArray⟩
noncomputable def o84 (P : Params) : Obj := ⟨.none, none, (.fields [].toArray), [].toArray⟩
noncomputable def o85 (P : Params) : Obj := ⟨(.type "tuple"), none, (.seq [(.str (Str.ofString "cls") 288), (.str (Str.ofString "iterable") 289), (.str (Str.ofString "result") 290)].toArray 0), [].toArray⟩
noncomputable def o86 (P : Params) : Obj := ⟨(.type "tuple"), none, (.seq [].toArray 0), [].toArray⟩
noncomputable def ox87 (p : Program) (P : Params) : Obj := ⟨.none, none, (.func ⟨(Str.ofString "_make"), (Str.ofString "Match._make"), fnArgs (inP p 3 5), .stmts (fnBody (inP p 3 5)), fnScope (inP p 3 5), 0, [], .none, .none, .none, .none, none, .none, .none, 0⟩), [].toArray⟩
noncomputable def o88 (P : Params) : Obj := ⟨(.type "code"), none, (.fields [(.str (Str.ofString "_make") 285), (.str (Str.ofString "Match._make") 286), (.str (Str.ofString "/claim/cut.py") 287), (.int (33) 0), (.int (2) 0), (.int (0) 0), (.int (0) 0), (.int (3) 0), (.ref 83), (.bool true), (.int (181) 0), (.ref 84), .none, (.ref 85), (.ref 86), (.ref 87), (.int (291) 0), (.int (33) 0), (.str (Str.ofString "/claim/cut.py") 292)].toArray), [].toArray⟩
noncomputable def ox89 (p : Program) (P : Params) : Obj := ⟨(.type "function"), none, (.func ⟨(Str.ofString "_make"), (Str.ofString "Match._make"), fnArgs (inP p 3 5), .stmts (fnBody (inP p 3 5)), fnScope (inP p 3 5), 3, [], .none, .none, (.str (docS (fnBody (inP p 3 5))) 293), (.str (Str.ofString "cpy313.difflib") 194), (some 92), (.ref 88), .none, 0⟩), [].toArray⟩
noncomputable def o89 : Params → Obj := ox89 prog
noncomputable def ox90 (p : Program) (P : Params) : Obj := ⟨(.type "dict"), none, (.dict [⟨PyData.keyHash P (Str.ofString "__module__"), (.str (Str.ofString "__module__") 295), (.str (Str.ofString "cpy313.difflib") 194)⟩, ⟨PyData.keyHash P (Str.ofString "__name__"), (.str (Str.ofString "__name__") 298), (.str (Str.ofString "_make") 297)⟩, ⟨PyData.keyHash P (Str.ofString "__qualname__"), (.str (Str.ofString "__qualname__") 301), (.str (Str.ofString "Match._make") 300)⟩, ⟨PyData.keyHash P (Str.ofString "__doc__"), (.str (Str.ofString "__doc__") 303), (.str (docS (fnBody (inP p 3 5))) 293)⟩, ⟨PyData.keyHash P (Str.ofString "__annotations__"), (.str (Str.ofString "__annotations__") 305), (.ref 92)⟩].toArray 5), [].toArray⟩
noncomputable def o90 : Params → Obj := ox90 prog
noncomputable def o91 (P : Params) : Obj := ⟨(.type "classmethod"), (some 90), (.fields [(.ref 89), (.bool false)].toArray), [].toArray⟩
noncomputable def o92 (P : Params) : Obj := ⟨(.type "dict"), none, (.dict [].toArray 0), [].toArray⟩
noncomputable def o93 (P : Params) : Obj := ⟨(.type "tuple"), none, (.seq [(.ref 68)].toArray 0), [].toArray⟩
noncomputable def o94 (P : Params) : Obj := ⟨(.type "tuple"), none, (.seq [(.str (Str.ofString "__class__") 310)].toArray 0), [].toArray⟩
noncomputable def o95 (P : Params) : Obj := ⟨.none, none, (.fields [].toArray), [].toArray⟩
noncomputable def o96 (P : Params) : Obj := ⟨(.type "tuple"), none, (.seq [(.str (Str.ofString "self") 311), (.str (Str.ofString "kwds") 312), (.str (Str.ofString "result") 313)].toArray 0), [].toArray⟩
noncomputable def o97 (P : Params) : Obj := ⟨(.type "tuple"), none, (.seq [].toArray 0), [].toArray⟩
noncomputable def ox98 (p : Program) (P : Params) : Obj := ⟨.none, none, (.func ⟨(Str.ofString "_replace"), (Str.ofString "Match._replace"), fnArgs (inP p 3 6), .stmts (fnBody (inP p 3 6)), fnScope (inP p 3 6), 0, [], .none, .none, .none, .none, none, .none, .none, 0⟩), [].toArray⟩
noncomputable def o99 (P : Params) : Obj := ⟨(.type "code"), none, (.fields [(.str (Str.ofString "_replace") 307), (.str (Str.ofString "Match._replace") 308), (.str (Str.ofString "/claim/cut.py") 309), (.int (41) 0), (.int (1) 0), (.int (1) 0), (.int (0) 0), (.int (11) 0), (.ref 94), (.bool true), (.int (181) 0), (.ref 95), .none, (.ref 96), (.ref 97), (.ref 98), (.int (314) 0), (.int (41) 0), (.str (Str.ofString "/claim/cut.py") 315)].toArray), [].toArray⟩
noncomputable def ox100 (p : Program) (P : Params) : Obj := ⟨(.type "function"), none, (.func ⟨(Str.ofString "_replace"), (Str.ofString "Match._replace"), fnArgs (inP p 3 6), .stmts (fnBody (inP p 3 6)), fnScope (inP p 3 6), 3, [((Str.ofString "__class__"), 68)], .none, .none, (.str (docS (fnBody (inP p 3 6))) 316), (.str (Str.ofString "cpy313.difflib") 194), none, (.ref 99), (.ref 93), 0⟩), [].toArray⟩
noncomputable def o100 : Params → Obj := ox100 prog
noncomputable def o101 (P : Params) : Obj := ⟨(.type "tuple"), none, (.seq [].toArray 0), [].toArray⟩
noncomputable def o102 (P : Params) : Obj := ⟨.none, none, (.fields [].toArray), [].toArray⟩
noncomputable def o103 (P : Params) : Obj := ⟨(.type "tuple"), none, (.seq [(.str (Str.ofString "self") 322)].toArray 0), [].toArray⟩
noncomputable def o104 (P : Params) : Obj := ⟨(.type "tuple"), none, (.seq [].toArray 0), [].toArray⟩
noncomputable def ox105 (p : Program) (P : Params) : Obj := ⟨.none, none, (.func ⟨(Str.ofString "__repr__"), (Str.ofString "Match.__repr__"), fnArgs (inP p 3 8), .stmts (fnBody (inP p 3 8)), fnScope (inP p 3 8), 0, [], .none, .none, .none, .none, none, .none, .none, 0⟩), [].toArray⟩
noncomputable def o106 (P : Params) : Obj := ⟨(.type "code"), none, (.fields [(.str (Str.ofString "__repr__") 319), (.str (Str.ofString "Match.__repr__") 320), (.str (Str.ofString "/claim/cut.py") 321), (.int (52) 0), (.int (1) 0), (.int (0) 0), (.int (0) 0), (.int (3) 0), (.ref 101), (.bool true), (.int (181) 0), (.ref 102), .none, (.ref 103), (.ref 104), (.ref 105), (.int (323) 0), (.int (52) 0), (.str (Str.ofString "/claim/cut.py") 324)].toArray), [].toArray⟩
noncomputable def ox107 (p : Program) (P : Params) : Obj := ⟨(.type "function"), none, (.func ⟨(Str.ofString "__repr__"), (Str.ofString "Match.__repr__"), fnArgs (inP p 3 8), .stmts (fnBody (inP p 3 8)), fnScope (inP p 3 8), 3, [], .none, .none, (.str (docS (fnBody (inP p 3 8))) 325), (.str (Str.ofString "cpy313.difflib") 194), none, (.ref 106), .none, 0⟩), [].toArray⟩
noncomputable def o107 : Params → Obj := ox107 prog
noncomputable def o108 (P : Params) : Obj := ⟨(.type "tuple"), none, (.seq [].toArray 0), [].toArray⟩
noncomputable def o109 (P : Params) : Obj := ⟨.none, none, (.fields [].toArray), [].toArray⟩
noncomputable def o110 (P : Params) : Obj := ⟨(.type "tuple"), none, (.seq [(.str (Str.ofString "self") 330)].toArray 0), [].toArray⟩
noncomputable def o111 (P : Params) : Obj := ⟨(.type "tuple"), none, (.seq [].toArray 0), [].toArray⟩
noncomputable def ox112 (p : Program) (P : Params) : Obj := ⟨.none, none, (.func ⟨(Str.ofString "_asdict"), (Str.ofString "Match._asdict"), fnArgs (inP p 3 9), .stmts (fnBody (inP p 3 9)), fnScope (inP p 3 9), 0, [], .none, .none, .none, .none, none, .none, .none, 0⟩), [].toArray⟩
noncomputable def o113 (P : Params) : Obj := ⟨(.type "code"), none, (.fields [(.str (Str.ofString "_asdict") 327), (.str (Str.ofString "Match._asdict") 328), (.str (Str.ofString "/claim/cut.py") 329), (.int (56) 0), (.int (1) 0), (.int (0) 0), (.int (0) 0), (.int (3) 0), (.ref 108), (.bool true), (.int (181) 0), (.ref 109), .none, (.ref 110), (.ref 111), (.ref 112), (.int (331) 0), (.int (56) 0), (.str (Str.ofString "/claim/cut.py") 332)].toArray), [].toArray⟩
noncomputable def ox114 (p : Program) (P : Params) : Obj := ⟨(.type "function"), none, (.func ⟨(Str.ofString "_asdict"), (Str.ofString "Match._asdict"), fnArgs (inP p 3 9), .stmts (fnBody (inP p 3 9)), fnScope (inP p 3 9), 3, [], .none, .none, .none, (.str (Str.ofString "cpy313.difflib") 194), none, (.ref 113), .none, 0⟩), [].toArray⟩
noncomputable def o114 : Params → Obj := ox114 prog
noncomputable def o115 (P : Params) : Obj := ⟨(.type "tuple"), none, (.seq [].toArray 0), [].toArray⟩
noncomputable def o116 (P : Params) : Obj := ⟨.none, none, (.fields [].toArray), [].toArray⟩
noncomputable def o117 (P : Params) : Obj := ⟨(.type "tuple"), none, (.seq [(.str (Str.ofString "self") 337)].toArray 0), [].toArray⟩
noncomputable def o118 (P : Params) : Obj := ⟨(.type "tuple"), none, (.seq [].toArray 0), [].toArray⟩
noncomputable def ox119 (p : Program) (P : Params) : Obj := ⟨.none, none, (.func ⟨(Str.ofString "__getnewargs__"), (Str.ofString "Match.__getnewargs__"), fnArgs (inP p 3 10), .stmts (fnBody (inP p 3 10)), fnScope (inP p 3 10), 0, [], .none, .none, .none, .none, none, .none, .none, 0⟩), [].toArray⟩
noncomputable def o120 (P : Params) : Obj := ⟨(.type "code"), none, (.fields [(.str (Str.ofString "__getnewargs__") 334), (.str (Str.ofString "Match.__getnewargs__") 335), (.str (Str.ofString "/claim/cut.py") 336), (.int (59) 0), (.int (1) 0), (.int (0) 0), (.int (0) 0), (.int (3) 0), (.ref 115), (.bool true), (.int (181) 0), (.ref 116), .none, (.ref 117), (.ref 118), (.ref 119), (.int (338) 0), (.int (59) 0), (.str (Str.ofString "/claim/cut.py") 339)].toArray), [].toArray⟩
noncomputable def ox121 (p : Program) (P : Params) : Obj := ⟨(.type "function"), none, (.func ⟨(Str.ofString "__getnewargs__"), (Str.ofString "Match.__getnewargs__"), fnArgs (inP p 3 10), .stmts (fnBody (inP p 3 10)), fnScope (inP p 3 10), 3, [], .none, .none, (.str (docS (fnBody (inP p 3 10))) 340), (.str (Str.ofString "cpy313.difflib") 194), none, (.ref 120), .none, 0⟩), [].toArray⟩
noncomputable def o121 : Params → Obj := ox121 prog
noncomputable def o122 (P : Params) : Obj := ⟨(.type "tuple"), none, (.seq [(.str (Str.ofString "a") 342), (.str (Str.ofString "b") 343), (.str (Str.ofString "size") 344)].toArray 0), [].toArray⟩
noncomputable def o123 (P : Params) : Obj := ⟨(.type "dict"), none, (.dict [⟨PyData.keyHash P (Str.ofString "index"), (.str (Str.ofString "index") 352), (.int (0) 346)⟩, ⟨PyData.keyHash P (Str.ofString "__doc__"), (.str (Str.ofString "__doc__") 354), (.str (Str.ofString "Alias for field number 0") 347)⟩].toArray 2), [].toArray⟩
noncomputable def o124 (P : Params) : Obj := ⟨(.ref 60), (some 123), .plain, [].toArray⟩
noncomputable def o125 (P : Params) : Obj := ⟨(.type "frame"), none, (.dict [⟨PyData.keyHash P (Str.ofString "self"), (.str (Str.ofString "self") 348), (.ref 124)⟩, ⟨PyData.keyHash P (Str.ofString "index"), (.str (Str.ofString "index") 349), (.int (0) 346)⟩, ⟨PyData.keyHash P (Str.ofString "doc"), (.str (Str.ofString "doc") 350), (.str (Str.ofString "Alias for field number 0") 347)⟩].toArray 3), [].toArray⟩
noncomputable def o126 (P : Params) : Obj := ⟨(.type "dict"), none, (.dict [⟨PyData.keyHash P (Str.ofString "index"), (.str (Str.ofString "index") 362), (.int (1) 356)⟩, ⟨PyData.keyHash P (Str.ofString "__doc__"), (.str (Str.ofString "__doc__") 364), (.str (Str.ofString "Alias for field number 1") 357)⟩].toArray 2), [].toArray⟩
noncomputable def o127 (P : Params) : Obj := ⟨(.ref 60), (some 126), .plain, [].toArray⟩
noncomputable def o128 (P : Params) : Obj := ⟨(.type "frame"), none, (.dict [⟨PyData.keyHash P (Str.ofString "self"), (.str (Str.ofString "self") 358), (.ref 127)⟩, ⟨PyData.keyHash P (Str.ofString "index"), (.str (Str.ofString "index") 359), (.int (1) 356)⟩, ⟨PyData.keyHash P (Str.ofString "doc"), (.str (Str.ofString "doc") 360), (.str (Str.ofString "Alias for field number 1") 357)⟩].toArray 3), [].toArray⟩
noncomputable def o129 (P : Params) : Obj := ⟨(.type "dict"), none, (.dict [⟨PyData.keyHash P (Str.ofString "index"), (.str (Str.ofString "index") 372), (.int (2) 366)⟩, ⟨PyData.keyHash P (Str.ofString "__doc__"), (.str (Str.ofString "__doc__") 374), (.str (Str.ofString "Alias for field number 2") 367)⟩].toArray 2), [].toArray⟩
noncomputable def o130 (P : Params) : Obj := ⟨(.ref 60), (some 129), .plain, [].toArray⟩
noncomputable def o131 (P : Params) : Obj := ⟨(.type "frame"), none, (.dict [⟨PyData.keyHash P (Str.ofString "self"), (.str (Str.ofString "self") 368), (.ref 130)⟩, ⟨PyData.keyHash P (Str.ofString "index"), (.str (Str.ofString "index") 369), (.int (2) 366)⟩, ⟨PyData.keyHash P (Str.ofString "doc"), (.str (Str.ofString "doc") 370), (.str (Str.ofString "Alias for field number 2") 367)⟩].toArray 3), [].toArray⟩
noncomputable def o132 (P : Params) : Obj := ⟨(.type "tuple"), none, (.seq [].toArray 0), [].toArray⟩
noncomputable def o133 (P : Params) : Obj := ⟨(.type "list"), none, (.seq [].toArray 0), [].toArray⟩
noncomputable def ox134 (p : Program) (P : Params) : Obj := ⟨(.type "dict"), none, (.dict [⟨PyData.keyHash P (Str.ofString "__module__"), (.str (Str.ofString "__module__") 260), (.str (Str.ofString "cpy313.difflib") 194)⟩, ⟨PyData.keyHash P (Str.ofString "__firstlineno__"), (.str (Str.ofString "__firstlineno__") 264), (.int (23) 263)⟩, ⟨PyData.keyHash P (Str.ofString "__doc__"), (.str (Str.ofString "__doc__") 266), (.str (docS (clBody (stP p 3))) 265)⟩, ⟨PyData.keyHash P (Str.ofString "__slots__"), (.str (Str.ofString "__slots__") 268), (.ref 73)⟩, ⟨PyData.keyHash P (Str.ofString "_fields"), (.str (Str.ofString "_fields") 272), (.ref 74)⟩, ⟨PyData.keyHash P (Str.ofString "_field_defaults"), (.str (Str.ofString "_field_defaults") 273), (.ref 75)⟩, ⟨PyData.keyHash P (Str.ofString "__new__"), (.str (Str.ofString "__new__") 284), (.ref 136)⟩, ⟨PyData.keyHash P (Str.ofString "_make"), (.str (Str.ofString "_make") 306), (.ref 91)⟩, ⟨PyData.keyHash P (Str.ofString "_replace"), (.str (Str.ofString "_replace") 317), (.ref 100)⟩, ⟨PyData.keyHash P (Str.ofString "__replace__"), (.str (Str.ofString "__replace__") 318), (.ref 100)⟩, ⟨PyData.keyHash P (Str.ofString "__repr__"), (.str (Str.ofString "__repr__") 326), (.ref 107)⟩, ⟨PyData.keyHash P (Str.ofString "_asdict"), (.str (Str.ofString "_asdict") 333), (.ref 114)⟩, ⟨PyData.keyHash P (Str.ofString "__getnewargs__"), (.str (Str.ofString "__getnewargs__") 341), (.ref 121)⟩, ⟨PyData.keyHash P (Str.ofString "__match_args__"), (.str (Str.ofString "__match_args__") 345), (.ref 122)⟩, ⟨PyData.keyHash P (Str.ofString "a"), (.str (Str.ofString "a") 355), (.ref 124)⟩, ⟨PyData.keyHash P (Str.ofString "b"), (.str (Str.ofString "b") 365), (.ref 127)⟩, ⟨PyData.keyHash P (Str.ofString "size"), (.str (Str.ofString "size") 375), (.ref 130)⟩, ⟨PyData.keyHash P (Str.ofString "__static_attributes__"), (.str (Str.ofString "__static_attributes__") 376), (.ref 132)⟩].toArray 2), [].toArray⟩
noncomputable def o134 : Params → Obj := ox134 prog
noncomputable def o135 (P : Params) : Obj := ⟨(.type "type"), none, (.cls ⟨(Str.ofString "Match"), [(.type "tuple")], [(.ref 135), (.type "tuple"), (.type "object")], 134, (Str.ofString "Match"), false, [], [], false, none, false⟩), [some (.ref 65), none, some (.str (Str.ofString "Match") 253), some (.str (Str.ofString "Match") 261), some .none, some (.bool false)].toArray⟩
noncomputable def o136 (P : Params) : Obj := ⟨(.type "staticmethod"), none, (.fields [(.ref 82)].toArray), [].toArray⟩
noncomputable def o137 (P : Params) : Obj := ⟨(.type "super"), none, (.fields [(.ref 135), (.ref 135), (.ref 135)].toArray), [].toArray⟩
noncomputable def o138 (P : Params) : Obj := ⟨(.type "builtin_function_or_method"), none, (.fields [(.builtin "object.__init_subclass__"), (.ref 135)].toArray), [].toArray⟩
noncomputable def o139 (P : Params) : Obj := ⟨(.type "tuple"), none, (.seq [].toArray 0), [].toArray⟩
noncomputable def o140 (P : Params) : Obj := ⟨.none, none, (.fields [].toArray), [].toArray⟩
noncomputable def o141 (P : Params) : Obj := ⟨(.type "tuple"), none, (.seq [(.str (Str.ofString "matches") 384), (.str (Str.ofString "length") 385)].toArray 0), [].toArray⟩
noncomputable def o142 (P : Params) : Obj := ⟨(.type "tuple"), none, (.seq [].toArray 0), [].toArray⟩
noncomputable def ox143 (p : Program) (P : Params) : Obj := ⟨.none, none, (.func ⟨(Str.ofString "_calculate_ratio"), (Str.ofString "_calculate_ratio"), fnArgs (stP p 4), .stmts (fnBody (stP p 4)), fnScope (stP p 4), 0, [], .none, .none, .none, .none, none, .none, .none, 0⟩), [].toArray⟩
noncomputable def o144 (P : Params) : Obj := ⟨(.type "code"), none, (.fields [(.str (Str.ofString "_calculate_ratio") 381), (.str (Str.ofString "_calculate_ratio") 382), (.str (Str.ofString "/claim/cut.py") 383), (.int (66) 0), (.int (2) 0), (.int (0) 0), (.int (0) 0), (.int (3) 0), (.ref 139), (.bool true), (.int (181) 0), (.ref 140), .none, (.ref 141), (.ref 142), (.ref 143), (.int (386) 0), (.int (66) 0), (.str (Str.ofString "/claim/cut.py") 387)].toArray), [].toArray⟩
noncomputable def ox145 (p : Program) (P : Params) : Obj := ⟨(.type "function"), none, (.func ⟨(Str.ofString "_calculate_ratio"), (Str.ofString "_calculate_ratio"), fnArgs (stP p 4), .stmts (fnBody (stP p 4)), fnScope (stP p 4), 3, [], .none, .none, .none, (.str (Str.ofString "cpy313.difflib") 194), none, (.ref 144), .none, 0⟩), [].toArray⟩
noncomputable def o145 : Params → Obj := ox145 prog
noncomputable def o146 (P : Params) : Obj := ⟨(.type "tuple"), none, (.seq [].toArray 0), [].toArray⟩
noncomputable def o147 (P : Params) : Obj := ⟨(.type "builtin_function_or_method"), none, (.fields [(.builtin "type.__prepare__"), (.type "type")].toArray), [].toArray⟩
noncomputable def ox148 (p : Program) (P : Params) : Obj := ⟨(.type "dict"), none, (.dict [⟨PyData.keyHash P (Str.ofString "__module__"), (.str (Str.ofString "__module__") 396), (.str (Str.ofString "cpy313.difflib") 194)⟩, ⟨PyData.keyHash P (Str.ofString "__qualname__"), (.str (Str.ofString "__qualname__") 398), (.str (Str.ofString "SequenceMatcher") 397)⟩, ⟨PyData.keyHash P (Str.ofString "__firstlineno__"), (.str (Str.ofString "__firstlineno__") 400), (.int (70) 399)⟩, ⟨PyData.keyHash P (Str.ofString "__doc__"), (.str (Str.ofString "__doc__") 402), (.str (docS (clBody (stP p 5))) 401)⟩, ⟨PyData.keyHash P (Str.ofString "__init__"), (.str (Str.ofString "__init__") 417), (.ref 160)⟩, ⟨PyData.keyHash P (Str.ofString "set_seqs"), (.str (Str.ofString "set_seqs") 427), (.ref 167)⟩, ⟨PyData.keyHash P (Str.ofString "set_seq1"), (.str (Str.ofString "set_seq1") 436), (.ref 174)⟩, ⟨PyData.keyHash P (Str.ofString "set_seq2"), (.str (Str.ofString "set_seq2") 445), (.ref 181)⟩, ⟨PyData.keyHash P (Str.ofString "_SequenceMatcher__chain_b"), (.str (Str.ofString "_SequenceMatcher__chain_b") 463), (.ref 188)⟩, ⟨PyData.keyHash P (Str.ofString "find_longest_match"), (.str (Str.ofString "find_longest_match") 491), (.ref 196)⟩, ⟨PyData.keyHash P (Str.ofString "get_matching_blocks"), (.str (Str.ofString "get_matching_blocks") 518), (.ref 203)⟩, ⟨PyData.keyHash P (Str.ofString "get_opcodes"), (.str (Str.ofString "get_opcodes") 525), (.ref 210)⟩, ⟨PyData.keyHash P (Str.ofString "get_grouped_opcodes"), (.str (Str.ofString "get_grouped_opcodes") 534), (.ref 218)⟩, ⟨PyData.keyHash P (Str.ofString "ratio"), (.str (Str.ofString "ratio") 543), (.ref 225)⟩, ⟨PyData.keyHash P (Str.ofString "quick_ratio"), (.str (Str.ofString "quick_ratio") 557), (.ref 232)⟩, ⟨PyData.keyHash P (Str.ofString "real_quick_ratio"), (.str (Str.ofString "real_quick_ratio") 567), (.ref 239)⟩, ⟨PyData.keyHash P (Str.ofString "__static_attributes__"), (.str (Str.ofString "__static_attributes__") 578), (.ref 240)⟩].toArray 17), [].toArray⟩
noncomputable def o149 (P : Params) : Obj := ⟨(.type "tuple"), none, (.seq [].toArray 0), [].toArray⟩
noncomputable def o150 (P : Params) : Obj := ⟨.none, none, (.fields [(.int (145) 0), (.int (4) 0), (.ref 159), (.int (173) 0), (.int (4) 0), (.ref 166), (.int (184) 0), (.int (4) 0), (.ref 173), (.int (209) 0), (.int (4) 0), (.ref 180), (.int (236) 0), (.int (4) 0), (.ref 187), (.int (260) 0), (.int (4) 0), (.ref 195), (.int (335) 0), (.int (4) 0), (.ref 202), (.int (383) 0), (.int (4) 0), (.ref 209), (.int (386) 0), (.int (4) 0), (.ref 217), (.int (389) 0), (.int (4) 0), (.ref 224), (.int (413) 0), (.int (4) 0), (.ref 231), (.int (436) 0), (.int (4) 0), (.ref 238)].toArray), [].toArray⟩
noncomputable def o151 (P : Params) : Obj := ⟨(.type "code"), none, (.fields [(.str (Str.ofString "SequenceMatcher") 391), (.str (Str.ofString "SequenceMatcher") 392), (.str (Str.ofString "/claim/cut.py") 393), (.int (70) 0), (.int (0) 0), (.int (0) 0), (.int (0) 0), (.int (0) 0), (.ref 149), (.bool false), (.int (181) 0), (.ref 150), .none, .none, .none, .none, (.int (394) 0), (.int (70) 0), (.str (Str.ofString "/claim/cut.py") 395)].toArray), [].toArray⟩
noncomputable def o152 (P : Params) : Obj := ⟨(.type "frame"), none, .plain, [some (.ref 151), some (.ref 3), some (.ref 148), none, some (.str (Str.ofString "cpy313.difflib") 194), none, some (.ref 0)].toArray⟩
noncomputable def o153 (P : Params) : Obj := ⟨(.type "tuple"), none, (.seq [.none, (.str (Str.ofString "") 404), (.str (Str.ofString "") 405), (.bool true)].toArray 0), [].toArray⟩
noncomputable def o154 (P : Params) : Obj := ⟨(.type "tuple"), none, (.seq [].toArray 0), [].toArray⟩
noncomputable def o155 (P : Params) : Obj := ⟨.none, none, (.fields [].toArray), [].toArray⟩
noncomputable def o156 (P : Params) : Obj := ⟨(.type "tuple"), none, (.seq [(.str (Str.ofString "self") 409), (.str (Str.ofString "isjunk") 410), (.str (Str.ofString "a") 411), (.str (Str.ofString "b") 412), (.str (Str.ofString "autojunk") 413)].toArray 0), [].toArray⟩
noncomputable def o157 (P : Params) : Obj := ⟨(.type "tuple"), none, (.seq [].toArray 0), [].toArray⟩
noncomputable def ox158 (p : Program) (P : Params) : Obj := ⟨.none, none, (.func ⟨(Str.ofString "__init__"), (Str.ofString "SequenceMatcher.__init__"), fnArgs (inP p 5 1), .stmts (fnBody (inP p 5 1)), fnScope (inP p 5 1), 0, [], .none, .none, .none, .none, none, .none, .none, 0⟩), [].toArray⟩
noncomputable def o159 (P : Params) : Obj := ⟨(.type "code"), none, (.fields [(.str (Str.ofString "__init__") 406), (.str (Str.ofString "SequenceMatcher.__init__") 407), (.str (Str.ofString "/claim/cut.py") 408), (.int (145) 0), (.int (5) 0), (.int (0) 0), (.int (0) 0), (.int (3) 0), (.ref 154), (.bool true), (.int (181) 0), (.ref 155), .none, (.ref 156), (.ref 157), (.ref 158), (.int (414) 0), (.int (145) 0), (.str (Str.ofString "/claim/cut.py") 415)].toArray), [].toArray⟩
noncomputable def ox160 (p : Program) (P : Params) : Obj := ⟨(.type "function"), none, (.func ⟨(Str.ofString "__init__"), (Str.ofString "SequenceMatcher.__init__"), fnArgs (inP p 5 1), .stmts (fnBody (inP p 5 1)), fnScope (inP p 5 1), 3, [], (.ref 153), .none, (.str (docS (fnBody (inP p 5 1))) 416), (.str (Str.ofString "cpy313.difflib") 194), none, (.ref 159), .none, 0⟩), [].toArray⟩
noncomputable def o160 : Params → Obj := ox160 prog
noncomputable def o161 (P : Params) : Obj := ⟨(.type "tuple"), none, (.seq [].toArray 0), [].toArray⟩
noncomputable def o162 (P : Params) : Obj := ⟨.none, none, (.fields [].toArray), [].toArray⟩
noncomputable def o163 (P : Params) : Obj := ⟨(.type "tuple"), none, (.seq [(.str (Str.ofString "self") 421), (.str (Str.ofString "a") 422), (.str (Str.ofString "b") 423)].toArray 0), [].toArray⟩
noncomputable def o164 (P : Params) : Obj := ⟨(.type "tuple"), none, (.seq [].toArray 0), [].toArray⟩
noncomputable def ox165 (p : Program) (P : Params) : Obj := ⟨.none, none, (.func ⟨(Str.ofString "set_seqs"), (Str.ofString "SequenceMatcher.set_seqs"), fnArgs (inP p 5 2), .stmts (fnBody (inP p 5 2)), fnScope (inP p 5 2), 0, [], .none, .none, .none, .none, none, .none, .none, 0⟩), [].toArray⟩
noncomputable def o166 (P : Params) : Obj := ⟨(.type "code"), none, (.fields [(.str (Str.ofString "set_seqs") 418), (.str (Str.ofString "SequenceMatcher.set_seqs") 419), (.str (Str.ofString "/claim/cut.py") 420), (.int (173) 0), (.int (3) 0), (.int (0) 0), (.int (0) 0), (.int (3) 0), (.ref 161), (.bool true), (.int (181) 0), (.ref 162), .none, (.ref 163), (.ref 164), (.ref 165), (.int (424) 0), (.int (173) 0), (.str (Str.ofString "/claim/cut.py") 425)].toArray), [].toArray⟩
noncomputable def ox167 (p : Program) (P : Params) : Obj := ⟨(.type "function"), none, (.func ⟨(Str.ofString "set_seqs"), (Str.ofString "SequenceMatcher.set_seqs"), fnArgs (inP p 5 2), .stmts (fnBody (inP p 5 2)), fnScope (inP p 5 2), 3, [], .none, .none, (.str (docS (fnBody (inP p 5 2))) 426), (.str (Str.ofString "cpy313.difflib") 194), none, (.ref 166), .none, 0⟩), [].toArray⟩
noncomputable def o167 : Params → Obj := ox167 prog
noncomputable def o168 (P : Params) : Obj := ⟨(.type "tuple"), none, (.seq [].toArray 0), [].toArray⟩
noncomputable def o169 (P : Params) : Obj := ⟨.none, none, (.fields [].toArray), [].toArray⟩
noncomputable def o170 (P : Params) : Obj := ⟨(.type "tuple"), none, (.seq [(.str (Str.ofString "self") 431), (.str (Str.ofString "a") 432)].toArray 0), [].toArray⟩
noncomputable def o171 (P : Params) : Obj := ⟨(.type "tuple"), none, (.seq [].toArray 0), [].toArray⟩
noncomputable def ox172 (p : Program) (P : Params) : Obj := ⟨.none, none, (.func ⟨(Str.ofString "set_seq1"), (Str.ofString "SequenceMatcher.set_seq1"), fnArgs (inP p 5 3), .stmts (fnBody (inP p 5 3)), fnScope (inP p 5 3), 0, [], .none, .none, .none, .none, none, .none, .none, 0⟩), [].toArray⟩
noncomputable def o173 (P : Params) : Obj := ⟨(.type "code"), none, (.fields [(.str (Str.ofString "set_seq1") 428), (.str (Str.ofString "SequenceMatcher.set_seq1") 429), (.str (Str.ofString "/claim/cut.py") 430), (.int (184) 0), (.int (2) 0), (.int (0) 0), (.int (0) 0), (.int (3) 0), (.ref 168), (.bool true), (.int (181) 0), (.ref 169), .none, (.ref 170), (.ref 171), (.ref 172), (.int (433) 0), (.int (184) 0), (.str (Str.ofString "/claim/cut.py") 434)].toArray), [].toArray⟩
noncomputable def ox174 (p : Program) (P : Params) : Obj := ⟨(.type "function"), none, (.func ⟨(Str.ofString "set_seq1"), (Str.ofString "SequenceMatcher.set_seq1"), fnArgs (inP p 5 3), .stmts (fnBody (inP p 5 3)), fnScope (inP p 5 3), 3, [], .none, .none, (.str (docS (fnBody (inP p 5 3))) 435), (.str (Str.ofString "cpy313.difflib") 194), none, (.ref 173), .none, 0⟩), [].toArray⟩
noncomputable def o174 : Params → Obj := ox174 prog
noncomputable def o175 (P : Params) : Obj := ⟨(.type "tuple"), none, (.seq [].toArray 0), [].toArray⟩
noncomputable def o176 (P : Params) : Obj := ⟨.none, none, (.fields [].toArray), [].toArray⟩
noncomputable def o177 (P : Params) : Obj := ⟨(.type "tuple"), none, (.seq [(.str (Str.ofString "self") 440), (.str (Str.ofString "b") 441)].toArray 0), [].toArray⟩
noncomputable def o178 (P : Params) : Obj := ⟨(.type "tuple"), none, (.seq [].toArray 0), [].toArray⟩
noncomputable def ox179 (p : Program) (P : Params) : Obj := ⟨.none, none, (.func ⟨(Str.ofString "set_seq2"), (Str.ofString "SequenceMatcher.set_seq2"), fnArgs (inP p 5 4), .stmts (fnBody (inP p 5 4)), fnScope (inP p 5 4), 0, [], .none, .none, .none, .none, none, .none, .none, 0⟩), [].toArray⟩
noncomputable def o180 (P : Params) : Obj := ⟨(.type "code"), none, (.fields [(.str (Str.ofString "set_seq2") 437), (.str (Str.ofString "SequenceMatcher.set_seq2") 438), (.str (Str.ofString "/claim/cut.py") 439), (.int (209) 0), (.int (2) 0), (.int (0) 0), (.int (0) 0), (.int (3) 0), (.ref 175), (.bool true), (.int (181) 0), (.ref 176), .none, (.ref 177), (.ref 178), (.ref 179), (.int (442) 0), (.int (209) 0), (.str (Str.ofString "/claim/cut.py") 443)].toArray), [].toArray⟩
noncomputable def ox181 (p : Program) (P : Params) : Obj := ⟨(.type "function"), none, (.func ⟨(Str.ofString "set_seq2"), (Str.ofString "SequenceMatcher.set_seq2"), fnArgs (inP p 5 4), .stmts (fnBody (inP p 5 4)), fnScope (inP p 5 4), 3, [], .none, .none, (.str (docS (fnBody (inP p 5 4))) 444), (.str (Str.ofString "cpy313.difflib") 194), none, (.ref 180), .none, 0⟩), [].toArray⟩
noncomputable def o181 : Params → Obj := ox181 prog
noncomputable def o182 (P : Params) : Obj := ⟨(.type "tuple"), none, (.seq [].toArray 0), [].toArray⟩
noncomputable def o183 (P : Params) : Obj := ⟨.none, none, (.fields [].toArray), [].toArray⟩
noncomputable def o184 (P : Params) : Obj := ⟨(.type "tuple"), none, (.seq [(.str (Str.ofString "self") 449), (.str (Str.ofString "b") 450), (.str (Str.ofString "b2j") 451), (.str (Str.ofString "i") 452), (.str (Str.ofString "elt") 453), (.str (Str.ofString "indices") 454), (.str (Str.ofString "junk") 455), (.str (Str.ofString "isjunk") 456), (.str (Str.ofString "popular") 457), (.str (Str.ofString "n") 458), (.str (Str.ofString "ntest") 459), (.str (Str.ofString "idxs") 460)].toArray 0), [].toArray⟩
noncomputable def o185 (P : Params) : Obj := ⟨(.type "tuple"), none, (.seq [].toArray 0), [].toArray⟩
noncomputable def ox186 (p : Program) (P : Params) : Obj := ⟨.none, none, (.func ⟨(Str.ofString "__chain_b"), (Str.ofString "SequenceMatcher.__chain_b"), fnArgs (inP p 5 5), .stmts (fnBody (inP p 5 5)), fnScope (inP p 5 5), 0, [], .none, .none, .none, .none, none, .none, .none, 0⟩), [].toArray⟩
noncomputable def o187 (P : Params) : Obj := ⟨(.type "code"), none, (.fields [(.str (Str.ofString "__chain_b") 446), (.str (Str.ofString "SequenceMatcher.__chain_b") 447), (.str (Str.ofString "/claim/cut.py") 448), (.int (236) 0), (.int (1) 0), (.int (0) 0), (.int (0) 0), (.int (3) 0), (.ref 182), (.bool true), (.int (181) 0), (.ref 183), .none, (.ref 184), (.ref 185), (.ref 186), (.int (461) 0), (.int (236) 0), (.str (Str.ofString "/claim/cut.py") 462)].toArray), [].toArray⟩
noncomputable def ox188 (p : Program) (P : Params) : Obj := ⟨(.type "function"), none, (.func ⟨(Str.ofString "__chain_b"), (Str.ofString "SequenceMatcher.__chain_b"), fnArgs (inP p 5 5), .stmts (fnBody (inP p 5 5)), fnScope (inP p 5 5), 3, [], .none, .none, .none, (.str (Str.ofString "cpy313.difflib") 194), none, (.ref 187), .none, 0⟩), [].toArray⟩
noncomputable def o188 : Params → Obj := ox188 prog
noncomputable def o189 (P : Params) : Obj := ⟨(.type "tuple"), none, (.seq [(.int (0) 464), .none, (.int (0) 465), .none].toArray 0), [].toArray⟩
noncomputable def o190 (P : Params) : Obj := ⟨(.type "tuple"), none, (.seq [].toArray 0), [].toArray⟩
noncomputable def o191 (P : Params) : Obj := ⟨.none, none, (.fields [].toArray), [].toArray⟩
noncomputable def o192 (P : Params) : Obj := ⟨(.type "tuple"), none, (.seq [(.str (Str.ofString "self") 469), (.str (Str.ofString "alo") 470), (.str (Str.ofString "ahi") 471), (.str (Str.ofString "blo") 472), (.str (Str.ofString "bhi") 473), (.str (Str.ofString "a") 474), (.str (Str.ofString "b") 475), (.str (Str.ofString "b2j") 476), (.str (Str.ofString "isbjunk") 477), (.str (Str.ofString "besti") 478), (.str (Str.ofString "bestj") 479), (.str (Str.ofString "bestsize") 480), (.str (Str.ofString "j2len") 481), (.str (Str.ofString "nothing") 482), (.str (Str.ofString "i") 483), (.str (Str.ofString "j2lenget") 484), (.str (Str.ofString "newj2len") 485), (.str (Str.ofString "j") 486), (.str (Str.ofString "k") 487)].toArray 0), [].toArray⟩
noncomputable def o193 (P : Params) : Obj := ⟨(.type "tuple"), none, (.seq [].toArray 0), [].toArray⟩
noncomputable def ox194 (p : Program) (P : Params) : Obj := ⟨.none, none, (.func ⟨(Str.ofString "find_longest_match"), (Str.ofString "SequenceMatcher.find_longest_match"), fnArgs (inP p 5 6), .stmts (fnBody (inP p 5 6)), fnScope (inP p 5 6), 0, [], .none, .none, .none, .none, none, .none, .none, 0⟩), [].toArray⟩
noncomputable def o195 (P : Params) : Obj := ⟨(.type "code"), none, (.fields [(.str (Str.ofString "find_longest_match") 466), (.str (Str.ofString "SequenceMatcher.find_longest_match") 467), (.str (Str.ofString "/claim/cut.py") 468), (.int (260) 0), (.int (5) 0), (.int (0) 0), (.int (0) 0), (.int (3) 0), (.ref 190), (.bool true), (.int (181) 0), (.ref 191), .none, (.ref 192), (.ref 193), (.ref 194), (.int (488) 0), (.int (260) 0), (.str (Str.ofString "/claim/cut.py") 489)].toArray), [].toArray⟩
noncomputable def ox196 (p : Program) (P : Params) : Obj := ⟨(.type "function"), none, (.func ⟨(Str.ofString "find_longest_match"), (Str.ofString "SequenceMatcher.find_longest_match"), fnArgs (inP p 5 6), .stmts (fnBody (inP p 5 6)), fnScope (inP p 5 6), 3, [], (.ref 189), .none, (.str (docS (fnBody (inP p 5 6))) 490), (.str (Str.ofString "cpy313.difflib") 194), none, (.ref 195), .none, 0⟩), [].toArray⟩
noncomputable def o196 : Params → Obj := ox196 prog
noncomputable def o197 (P : Params) : Obj := ⟨(.type "tuple"), none, (.seq [].toArray 0), [].toArray⟩
noncomputable def o198 (P : Params) : Obj := ⟨.none, none, (.fields [].toArray), [].toArray⟩
noncomputable def o199 (P : Params) : Obj := ⟨(.type "tuple"), none, (.seq [(.str (Str.ofString "self") 495), (.str (Str.ofString "la") 496), (.str (Str.ofString "lb") 497), (.str (Str.ofString "queue") 498), (.str (Str.ofString "matching_blocks") 499), (.str (Str.ofString "alo") 500), (.str (Str.ofString "ahi") 501), (.str (Str.ofString "blo") 502), (.str (Str.ofString "bhi") 503), (.str (Str.ofString "i") 504), (.str (Str.ofString "j") 505), (.str (Str.ofString "k") 506), (.str (Str.ofString "x") 507), (.str (Str.ofString "i1") 508), (.str (Str.ofString "j1") 509), (.str (Str.ofString "k1") 510), (.str (Str.ofString "non_adjacent") 511), (.str (Str.ofString "i2") 512), (.str (Str.ofString "j2") 513), (.str (Str.ofString "k2") 514)].toArray 0), [].toArray⟩
noncomputable def o200 (P : Params) : Obj := ⟨(.type "tuple"), none, (.seq [].toArray 0), [].toArray⟩
noncomputable def ox201 (p : Program) (P : Params) : Obj := ⟨.none, none, (.func ⟨(Str.ofString "get_matching_blocks"), (Str.ofString "SequenceMatcher.get_matching_blocks"), fnArgs (inP p 5 7), .stmts (fnBody (inP p 5 7)), fnScope (inP p 5 7), 0, [], .none, .none, .none, .none, none, .none, .none, 0⟩), [].toArray⟩
noncomputable def o202 (P : Params) : Obj := ⟨(.type "code"), none, (.fields [(.str (Str.ofString "get_matching_blocks") 492), (.str (Str.ofString "SequenceMatcher.get_matching_blocks") 493), (.str (Str.ofString "/claim/cut.py") 494), (.int (335) 0), (.int (1) 0), (.int (0) 0), (.int (0) 0), (.int (3) 0), (.ref 197), (.bool true), (.int (181) 0), (.ref 198), .none, (.ref 199), (.ref 200), (.ref 201), (.int (515) 0), (.int (335) 0), (.str (Str.ofString "/claim/cut.py") 516)].toArray), [].toArray⟩
noncomputable def ox203 (p : Program) (P : Params) : Obj := ⟨(.type "function"), none, (.func ⟨(Str.ofString "get_matching_blocks"), (Str.ofString "SequenceMatcher.get_matching_blocks"), fnArgs (inP p 5 7), .stmts (fnBody (inP p 5 7)), fnScope (inP p 5 7), 3, [], .none, .none, (.str (docS (fnBody (inP p 5 7))) 517), (.str (Str.ofString "cpy313.difflib") 194), none, (.ref 202), .none, 0⟩), [].toArray⟩
noncomputable def o203 : Params → Obj := ox203 prog
noncomputable def o204 (P : Params) : Obj := ⟨(.type "tuple"), none, (.seq [].toArray 0), [].toArray⟩
noncomputable def o205 (P : Params) : Obj := ⟨.none, none, (.fields [].toArray), [].toArray⟩
noncomputable def o206 (P : Params) : Obj := ⟨(.type "tuple"), none, (.seq [(.str (Str.ofString "self") 522)].toArray 0), [].toArray⟩
noncomputable def o207 (P : Params) : Obj := ⟨(.type "tuple"), none, (.seq [].toArray 0), [].toArray⟩
noncomputable def ox208 (p : Program) (P : Params) : Obj := ⟨.none, none, (.func ⟨(Str.ofString "get_opcodes"), (Str.ofString "SequenceMatcher.get_opcodes"), fnArgs (inP p 5 8), .stmts (fnBody (inP p 5 8)), fnScope (inP p 5 8), 0, [], .none, .none, .none, .none, none, .none, .none, 0⟩), [].toArray⟩
noncomputable def o209 (P : Params) : Obj := ⟨(.type "code"), none, (.fields [(.str (Str.ofString "get_opcodes") 519), (.str (Str.ofString "SequenceMatcher.get_opcodes") 520), (.str (Str.ofString "/claim/cut.py") 521), (.int (383) 0), (.int (1) 0), (.int (0) 0), (.int (0) 0), (.int (3) 0), (.ref 204), (.bool true), (.int (181) 0), (.ref 205), .none, (.ref 206), (.ref 207), (.ref 208), (.int (523) 0), (.int (383) 0), (.str (Str.ofString "/claim/cut.py") 524)].toArray), [].toArray⟩
noncomputable def ox210 (p : Program) (P : Params) : Obj := ⟨(.type "function"), none, (.func ⟨(Str.ofString "get_opcodes"), (Str.ofString "SequenceMatcher.get_opcodes"), fnArgs (inP p 5 8), .stmts (fnBody (inP p 5 8)), fnScope (inP p 5 8), 3, [], .none, .none, .none, (.str (Str.ofString "cpy313.difflib") 194), none, (.ref 209), .none, 0⟩), [].toArray⟩
noncomputable def o210 : Params → Obj := ox210 prog
noncomputable def o211 (P : Params) : Obj := ⟨(.type "tuple"), none, (.seq [(.int (3) 526)].toArray 0), [].toArray⟩
noncomputable def o212 (P : Params) : Obj := ⟨(.type "tuple"), none, (.seq [].toArray 0), [].toArray⟩
noncomputable def o213 (P : Params) : Obj := ⟨.none, none, (.fields [].toArray), [].toArray⟩
noncomputable def o214 (P : Params) : Obj := ⟨(.type "tuple"), none, (.seq [(.str (Str.ofString "self") 530), (.str (Str.ofString "n") 531)].toArray 0), [].toArray⟩
noncomputable def o215 (P : Params) : Obj := ⟨(.type "tuple"), none, (.seq [].toArray 0), [].toArray⟩
noncomputable def ox216 (p : Program) (P : Params) : Obj := ⟨.none, none, (.func ⟨(Str.ofString "get_grouped_opcodes"), (Str.ofString "SequenceMatcher.get_grouped_opcodes"), fnArgs (inP p 5 9), .stmts (fnBody (inP p 5 9)), fnScope (inP p 5 9), 0, [], .none, .none, .none, .none, none, .none, .none, 0⟩), [].toArray⟩
noncomputable def o217 (P : Params) : Obj := ⟨(.type "code"), none, (.fields [(.str (Str.ofString "get_grouped_opcodes") 527), (.str (Str.ofString "SequenceMatcher.get_grouped_opcodes") 528), (.str (Str.ofString "/claim/cut.py") 529), (.int (386) 0), (.int (2) 0), (.int (0) 0), (.int (0) 0), (.int (3) 0), (.ref 212), (.bool true), (.int (181) 0), (.ref 213), .none, (.ref 214), (.ref 215), (.ref 216), (.int (532) 0), (.int (386) 0), (.str (Str.ofString "/claim/cut.py") 533)].toArray), [].toArray⟩
noncomputable def ox218 (p : Program) (P : Params) : Obj := ⟨(.type "function"), none, (.func ⟨(Str.ofString "get_grouped_opcodes"), (Str.ofString "SequenceMatcher.get_grouped_opcodes"), fnArgs (inP p 5 9), .stmts (fnBody (inP p 5 9)), fnScope (inP p 5 9), 3, [], (.ref 211), .none, .none, (.str (Str.ofString "cpy313.difflib") 194), none, (.ref 217), .none, 0⟩), [].toArray⟩
noncomputable def o218 : Params → Obj := ox218 prog
noncomputable def o219 (P : Params) : Obj := ⟨(.type "tuple"), none, (.seq [].toArray 0), [].toArray⟩
noncomputable def o220 (P : Params) : Obj := ⟨.none, none, (.fields [].toArray), [].toArray⟩
noncomputable def o221 (P : Params) : Obj := ⟨(.type "tuple"), none, (.seq [(.str (Str.ofString "self") 538), (.str (Str.ofString "matches") 539)].toArray 0), [].toArray⟩
noncomputable def o222 (P : Params) : Obj := ⟨(.type "tuple"), none, (.seq [].toArray 0), [].toArray⟩
noncomputable def ox223 (p : Program) (P : Params) : Obj := ⟨.none, none, (.func ⟨(Str.ofString "ratio"), (Str.ofString "SequenceMatcher.ratio"), fnArgs (inP p 5 10), .stmts (fnBody (inP p 5 10)), fnScope (inP p 5 10), 0, [], .none, .none, .none, .none, none, .none, .none, 0⟩), [].toArray⟩
noncomputable def o224 (P : Params) : Obj := ⟨(.type "code"), none, (.fields [(.str (Str.ofString "ratio") 535), (.str (Str.ofString "SequenceMatcher.ratio") 536), (.str (Str.ofString "/claim/cut.py") 537), (.int (389) 0), (.int (1) 0), (.int (0) 0), (.int (0) 0), (.int (3) 0), (.ref 219), (.bool true), (.int (181) 0), (.ref 220), .none, (.ref 221), (.ref 222), (.ref 223), (.int (540) 0), (.int (389) 0), (.str (Str.ofString "/claim/cut.py") 541)].toArray), [].toArray⟩
noncomputable def ox225 (p : Program) (P : Params) : Obj := ⟨(.type "function"), none, (.func ⟨(Str.ofString "ratio"), (Str.ofString "SequenceMatcher.ratio"), fnArgs (inP p 5 10), .stmts (fnBody (inP p 5 10)), fnScope (inP p 5 10), 3, [], .none, .none, (.str (docS (fnBody (inP p 5 10))) 542), (.str (Str.ofString "cpy313.difflib") 194), none, (.ref 224), .none, 0⟩), [].toArray⟩
noncomputable def o225 : Params → Obj := ox225 prog
noncomputable def o226 (P : Params) : Obj := ⟨(.type "tuple"), none, (.seq [].toArray 0), [].toArray⟩
noncomputable def o227 (P : Params) : Obj := ⟨.none, none, (.fields [].toArray), [].toArray⟩
noncomputable def o228 (P : Params) : Obj := ⟨(.type "tuple"), none, (.seq [(.str (Str.ofString "self") 547), (.str (Str.ofString "fullbcount") 548), (.str (Str.ofString "elt") 549), (.str (Str.ofString "avail") 550), (.str (Str.ofString "availhas") 551), (.str (Str.ofString "matches") 552), (.str (Str.ofString "numb") 553)].toArray 0), [].toArray⟩
noncomputable def o229 (P : Params) : Obj := ⟨(.type "tuple"), none, (.seq [].toArray 0), [].toArray⟩
noncomputable def ox230 (p : Program) (P : Params) : Obj := ⟨.none, none, (.func ⟨(Str.ofString "quick_ratio"), (Str.ofString "SequenceMatcher.quick_ratio"), fnArgs (inP p 5 11), .stmts (fnBody (inP p 5 11)), fnScope (inP p 5 11), 0, [], .none, .none, .none, .none, none, .none, .none, 0⟩), [].toArray⟩
noncomputable def o231 (P : Params) : Obj := ⟨(.type "code"), none, (.fields [(.str (Str.ofString "quick_ratio") 544), (.str (Str.ofString "SequenceMatcher.quick_ratio") 545), (.str (Str.ofString "/claim/cut.py") 546), (.int (413) 0), (.int (1) 0), (.int (0) 0), (.int (0) 0), (.int (3) 0), (.ref 226), (.bool true), (.int (181) 0), (.ref 227), .none, (.ref 228), (.ref 229), (.ref 230), (.int (554) 0), (.int (413) 0), (.str (Str.ofString "/claim/cut.py") 555)].toArray), [].toArray⟩
noncomputable def ox232 (p : Program) (P : Params) : Obj := ⟨(.type "function"), none, (.func ⟨(Str.ofString "quick_ratio"), (Str.ofString "SequenceMatcher.quick_ratio"), fnArgs (inP p 5 11), .stmts (fnBody (inP p 5 11)), fnScope (inP p 5 11), 3, [], .none, .none, (.str (docS (fnBody (inP p 5 11))) 556), (.str (Str.ofString "cpy313.difflib") 194), none, (.ref 231), .none, 0⟩), [].toArray⟩
noncomputable def o232 : Params → Obj := ox232 prog
noncomputable def o233 (P : Params) : Obj := ⟨(.type "tuple"), none, (.seq [].toArray 0), [].toArray⟩
noncomputable def o234 (P : Params) : Obj := ⟨.none, none, (.fields [].toArray), [].toArray⟩
noncomputable def o235 (P : Params) : Obj := ⟨(.type "tuple"), none, (.seq [(.str (Str.ofString "self") 561), (.str (Str.ofString "la") 562), (.str (Str.ofString "lb") 563)].toArray 0), [].toArray⟩
noncomputable def o236 (P : Params) : Obj := ⟨(.type "tuple"), none, (.seq [].toArray 0), [].toArray⟩
noncomputable def ox237 (p : Program) (P : Params) : Obj := ⟨.none, none, (.func ⟨(Str.ofString "real_quick_ratio"), (Str.ofString "SequenceMatcher.real_quick_ratio"), fnArgs (inP p 5 12), .stmts (fnBody (inP p 5 12)), fnScope (inP p 5 12), 0, [], .none, .none, .none, .none, none, .none, .none, 0⟩), [].toArray⟩
noncomputable def o238 (P : Params) : Obj := ⟨(.type "code"), none, (.fields [(.str (Str.ofString "real_quick_ratio") 558), (.str (Str.ofString "SequenceMatcher.real_quick_ratio") 559), (.str (Str.ofString "/claim/cut.py") 560), (.int (436) 0), (.int (1) 0), (.int (0) 0), (.int (0) 0), (.int (3) 0), (.ref 233), (.bool true), (.int (181) 0), (.ref 234), .none, (.ref 235), (.ref 236), (.ref 237), (.int (564) 0), (.int (436) 0), (.str (Str.ofString "/claim/cut.py") 565)].toArray), [].toArray⟩
noncomputable def ox239 (p : Program) (P : Params) : Obj := ⟨(.type "function"), none, (.func ⟨(Str.ofString "real_quick_ratio"), (Str.ofString "SequenceMatcher.real_quick_ratio"), fnArgs (inP p 5 12), .stmts (fnBody (inP p 5 12)), fnScope (inP p 5 12), 3, [], .none, .none, (.str (docS (fnBody (inP p 5 12))) 566), (.str (Str.ofString "cpy313.difflib") 194), none, (.ref 238), .none, 0⟩), [].toArray⟩
noncomputable def o239 : Params → Obj := ox239 prog
noncomputable def o240 (P : Params) : Obj := ⟨(.type "tuple"), none, (.seq [(.str (Str.ofString "a") 568), (.str (Str.ofString "autojunk") 569), (.str (Str.ofString "b") 570), (.str (Str.ofString "b2j") 571), (.str (Str.ofString "bjunk") 572), (.str (Str.ofString "bpopular") 573), (.str (Str.ofString "fullbcount") 574), (.str (Str.ofString "isjunk") 575), (.str (Str.ofString "matching_blocks") 576), (.str (Str.ofString "opcodes") 577)].toArray 0), [].toArray⟩
noncomputable def ox241 (p : Program) (P : Params) : Obj := ⟨(.type "dict"), none, (.dict [⟨PyData.keyHash P (Str.ofString "__module__"), (.str (Str.ofString "__module__") 396), (.str (Str.ofString "cpy313.difflib") 194)⟩, ⟨PyData.keyHash P (Str.ofString "__firstlineno__"), (.str (Str.ofString "__firstlineno__") 400), (.int (70) 399)⟩, ⟨PyData.keyHash P (Str.ofString "__doc__"), (.str (Str.ofString "__doc__") 402), (.str (docS (clBody (stP p 5))) 401)⟩, ⟨PyData.keyHash P (Str.ofString "__init__"), (.str (Str.ofString "__init__") 417), (.ref 160)⟩, ⟨PyData.keyHash P (Str.ofString "set_seqs"), (.str (Str.ofString "set_seqs") 427), (.ref 167)⟩, ⟨PyData.keyHash P (Str.ofString "set_seq1"), (.str (Str.ofString "set_seq1") 436), (.ref 174)⟩, ⟨PyData.keyHash P (Str.ofString "set_seq2"), (.str (Str.ofString "set_seq2") 445), (.ref 181)⟩, ⟨PyData.keyHash P (Str.ofString "_SequenceMatcher__chain_b"), (.str (Str.ofString "_SequenceMatcher__chain_b") 463), (.ref 188)⟩, ⟨PyData.keyHash P (Str.ofString "find_longest_match"), (.str (Str.ofString "find_longest_match") 491), (.ref 196)⟩, ⟨PyData.keyHash P (Str.ofString "get_matching_blocks"), (.str (Str.ofString "get_matching_blocks") 518), (.ref 203)⟩, ⟨PyData.keyHash P (Str.ofString "get_opcodes"), (.str (Str.ofString "get_opcodes") 525), (.ref 210)⟩, ⟨PyData.keyHash P (Str.ofString "get_grouped_opcodes"), (.str (Str.ofString "get_grouped_opcodes") 534), (.ref 218)⟩, ⟨PyData.keyHash P (Str.ofString "ratio"), (.str (Str.ofString "ratio") 543), (.ref 225)⟩, ⟨PyData.keyHash P (Str.ofString "quick_ratio"), (.str (Str.ofString "quick_ratio") 557), (.ref 232)⟩, ⟨PyData.keyHash P (Str.ofString "real_quick_ratio"), (.str (Str.ofString "real_quick_ratio") 567), (.ref 239)⟩, ⟨PyData.keyHash P (Str.ofString "__static_attributes__"), (.str (Str.ofString "__static_attributes__") 578), (.ref 240)⟩, ⟨PyData.keyHash P (Str.ofString "__dict__"), (.str (Str.ofString "__dict__") 580), (.ref 243)⟩, ⟨PyData.keyHash P (Str.ofString "__weakref__"), (.str (Str.ofString "__weakref__") 582), (.ref 244)⟩].toArray 3), [].toArray⟩
noncomputable def o241 : Params → Obj := ox241 prog
noncomputable def o242 (P : Params) : Obj := ⟨(.type "type"), none, (.cls ⟨(Str.ofString "SequenceMatcher"), [(.type "object")], [(.ref 242), (.type "object")], 241, (Str.ofString "SequenceMatcher"), true, [], [], false, none, false⟩), [none, none, some (.str (Str.ofString "SequenceMatcher") 389), some (.str (Str.ofString "SequenceMatcher") 397), some (.builtin "object.__new__"), some (.bool true)].toArray⟩
noncomputable def o243 (P : Params) : Obj := ⟨(.type "getset_descriptor"), none, (.fields [(.str (Str.ofString "__dict__") 579), (.ref 242), (.builtin "function.__dict__"), (.builtin "function.__dict__#set")].toArray), [].toArray⟩
noncomputable def o244 (P : Params) : Obj := ⟨(.type "getset_descriptor"), none, (.fields [(.str (Str.ofString "__weakref__") 581), (.ref 242), (.builtin "ExceptionGroup.__weakref__"), .none].toArray), [].toArray⟩
noncomputable def o245 (P : Params) : Obj := ⟨(.type "super"), none, (.fields [(.ref 242), (.ref 242), (.ref 242)].toArray), [].toArray⟩
noncomputable def o246 (P : Params) : Obj := ⟨(.type "builtin_function_or_method"), none, (.fields [(.builtin "object.__init_subclass__"), (.ref 242)].toArray), [].toArray⟩
noncomputable def o247 (P : Params) : Obj := ⟨(.type "tuple"), none, (.seq [].toArray 0), [].toArray⟩
noncomputable def o248 (P : Params) : Obj := ⟨.none, none, (.fields [].toArray), [].toArray⟩
noncomputable def o249 (P : Params) : Obj := ⟨(.type "tuple"), none, (.seq [(.str (Str.ofString "first") 590), (.str (Str.ofString "second") 591), (.str (Str.ofString "count") 592)].toArray 0), [].toArray⟩
noncomputable def o250 (P : Params) : Obj := ⟨(.type "tuple"), none, (.seq [].toArray 0), [].toArray⟩
noncomputable def ox251 (p : Program) (P : Params) : Obj := ⟨.none, none, (.func ⟨(Str.ofString "_law_counted"), (Str.ofString "_law_counted"), fnArgs (stP p 7), .stmts (fnBody (stP p 7)), fnScope (stP p 7), 0, [], .none, .none, .none, .none, none, .none, .none, 0⟩), [].toArray⟩
noncomputable def o252 (P : Params) : Obj := ⟨(.type "code"), none, (.fields [(.str (Str.ofString "_law_counted") 587), (.str (Str.ofString "_law_counted") 588), (.str (Str.ofString "/claim/cut.py") 589), (.int (445) 0), (.int (2) 0), (.int (0) 0), (.int (0) 0), (.int (3) 0), (.ref 247), (.bool true), (.int (181) 0), (.ref 248), .none, (.ref 249), (.ref 250), (.ref 251), (.int (593) 0), (.int (445) 0), (.str (Str.ofString "/claim/cut.py") 594)].toArray), [].toArray⟩
noncomputable def ox253 (p : Program) (P : Params) : Obj := ⟨(.type "function"), none, (.func ⟨(Str.ofString "_law_counted"), (Str.ofString "_law_counted"), fnArgs (stP p 7), .stmts (fnBody (stP p 7)), fnScope (stP p 7), 3, [], .none, .none, .none, (.str (Str.ofString "law_mt0005_02") 585), none, (.ref 252), .none, 0⟩), [].toArray⟩
noncomputable def o253 : Params → Obj := ox253 prog
noncomputable def o254 (P : Params) : Obj := ⟨(.type "tuple"), none, (.seq [].toArray 0), [].toArray⟩
noncomputable def o255 (P : Params) : Obj := ⟨.none, none, (.fields [].toArray), [].toArray⟩
noncomputable def o256 (P : Params) : Obj := ⟨(.type "tuple"), none, (.seq [(.str (Str.ofString "number") 599), (.str (Str.ofString "size") 600), (.str (Str.ofString "step") 601), (.str (Str.ofString "row") 602)].toArray 0), [].toArray⟩
noncomputable def o257 (P : Params) : Obj := ⟨(.type "tuple"), none, (.seq [].toArray 0), [].toArray⟩
noncomputable def ox258 (p : Program) (P : Params) : Obj := ⟨.none, none, (.func ⟨(Str.ofString "_law_ring"), (Str.ofString "_law_ring"), fnArgs (stP p 8), .stmts (fnBody (stP p 8)), fnScope (stP p 8), 0, [], .none, .none, .none, .none, none, .none, .none, 0⟩), [].toArray⟩
noncomputable def o259 (P : Params) : Obj := ⟨(.type "code"), none, (.fields [(.str (Str.ofString "_law_ring") 596), (.str (Str.ofString "_law_ring") 597), (.str (Str.ofString "/claim/cut.py") 598), (.int (454) 0), (.int (1) 0), (.int (0) 0), (.int (0) 0), (.int (3) 0), (.ref 254), (.bool true), (.int (181) 0), (.ref 255), .none, (.ref 256), (.ref 257), (.ref 258), (.int (603) 0), (.int (454) 0), (.str (Str.ofString "/claim/cut.py") 604)].toArray), [].toArray⟩
noncomputable def ox260 (p : Program) (P : Params) : Obj := ⟨(.type "function"), none, (.func ⟨(Str.ofString "_law_ring"), (Str.ofString "_law_ring"), fnArgs (stP p 8), .stmts (fnBody (stP p 8)), fnScope (stP p 8), 3, [], .none, .none, .none, (.str (Str.ofString "law_mt0005_02") 585), none, (.ref 259), .none, 0⟩), [].toArray⟩
noncomputable def o260 : Params → Obj := ox260 prog
noncomputable def o261 (P : Params) : Obj := ⟨(.type "tuple"), none, (.seq [].toArray 0), [].toArray⟩
noncomputable def o262 (P : Params) : Obj := ⟨.none, none, (.fields [].toArray), [].toArray⟩
noncomputable def ox263 (p : Program) (P : Params) : Obj := ⟨.none, none, (.func ⟨(Str.ofString "_law_part"), (Str.ofString "_law_part"), fnArgs (stP p 9), .stmts (fnBody (stP p 9)), fnScope (stP p 9), 0, [], .none, .none, .none, .none, none, .none, .none, 0⟩), [].toArray⟩
noncomputable def o264 (P : Params) : Obj := ⟨(.type "code"), none, (.fields [(.str (Str.ofString "_law_part") 606), (.str (Str.ofString "_law_part") 607), (.str (Str.ofString "/claim/cut.py") 608), (.int (461) 0), (.int (3) 0), (.int (0) 0), (.int (0) 0), (.int (3) 0), (.ref 261), (.bool true), (.int (181) 0), (.ref 262), .none, .none, .none, (.ref 263), (.int (609) 0), (.int (461) 0), (.str (Str.ofString "/claim/cut.py") 610)].toArray), [].toArray⟩
noncomputable def ox265 (p : Program) (P : Params) : Obj := ⟨(.type "function"), none, (.func ⟨(Str.ofString "_law_part"), (Str.ofString "_law_part"), fnArgs (stP p 9), .stmts (fnBody (stP p 9)), fnScope (stP p 9), 3, [], .none, .none, .none, (.str (Str.ofString "law_mt0005_02") 585), none, (.ref 264), .none, 0⟩), [].toArray⟩
noncomputable def o265 : Params → Obj := ox265 prog
noncomputable def o266 (P : Params) : Obj := ⟨(.type "tuple"), none, (.seq [].toArray 0), [].toArray⟩
noncomputable def o267 (P : Params) : Obj := ⟨.none, none, (.fields [].toArray), [].toArray⟩
noncomputable def o268 (P : Params) : Obj := ⟨(.type "tuple"), none, (.seq [(.str (Str.ofString "matcher") 615)].toArray 0), [].toArray⟩
noncomputable def o269 (P : Params) : Obj := ⟨(.type "tuple"), none, (.seq [].toArray 0), [].toArray⟩
noncomputable def ox270 (p : Program) (P : Params) : Obj := ⟨.none, none, (.func ⟨(Str.ofString "_law_told"), (Str.ofString "_law_told"), fnArgs (stP p 10), .stmts (fnBody (stP p 10)), fnScope (stP p 10), 0, [], .none, .none, .none, .none, none, .none, .none, 0⟩), [].toArray⟩
noncomputable def o271 (P : Params) : Obj := ⟨(.type "code"), none, (.fields [(.str (Str.ofString "_law_told") 612), (.str (Str.ofString "_law_told") 613), (.str (Str.ofString "/claim/cut.py") 614), (.int (463) 0), (.int (1) 0), (.int (0) 0), (.int (0) 0), (.int (3) 0), (.ref 266), (.bool true), (.int (181) 0), (.ref 267), .none, (.ref 268), (.ref 269), (.ref 270), (.int (616) 0), (.int (463) 0), (.str (Str.ofString "/claim/cut.py") 617)].toArray), [].toArray⟩
noncomputable def ox272 (p : Program) (P : Params) : Obj := ⟨(.type "function"), none, (.func ⟨(Str.ofString "_law_told"), (Str.ofString "_law_told"), fnArgs (stP p 10), .stmts (fnBody (stP p 10)), fnScope (stP p 10), 3, [], .none, .none, .none, (.str (Str.ofString "law_mt0005_02") 585), none, (.ref 271), .none, 0⟩), [].toArray⟩
noncomputable def o272 : Params → Obj := ox272 prog
noncomputable def o273 (P : Params) : Obj := ⟨(.type "tuple"), none, (.seq [].toArray 0), [].toArray⟩
noncomputable def o274 (P : Params) : Obj := ⟨.none, none, (.fields [].toArray), [].toArray⟩
noncomputable def ox275 (p : Program) (P : Params) : Obj := ⟨.none, none, (.func ⟨(Str.ofString "law"), (Str.ofString "law"), fnArgs (stP p 11), .stmts (fnBody (stP p 11)), fnScope (stP p 11), 0, [], .none, .none, .none, .none, none, .none, .none, 0⟩), [].toArray⟩
noncomputable def o276 (P : Params) : Obj := ⟨(.type "code"), none, (.fields [(.str (Str.ofString "law") 619), (.str (Str.ofString "law") 620), (.str (Str.ofString "/claim/cut.py") 621), (.int (465) 0), (.int (1) 0), (.int (0) 0), (.int (0) 0), (.int (3) 0), (.ref 273), (.bool true), (.int (181) 0), (.ref 274), .none, .none, .none, (.ref 275), (.int (622) 0), (.int (465) 0), (.str (Str.ofString "/claim/cut.py") 623)].toArray), [].toArray⟩
noncomputable def ox277 (p : Program) (P : Params) : Obj := ⟨(.type "function"), none, (.func ⟨(Str.ofString "law"), (Str.ofString "law"), fnArgs (stP p 11), .stmts (fnBody (stP p 11)), fnScope (stP p 11), 3, [], .none, .none, .none, (.str (Str.ofString "law_mt0005_02") 585), none, (.ref 276), .none, 0⟩), [].toArray⟩
noncomputable def o277 : Params → Obj := ox277 prog
noncomputable def tree4 (P : Params) : BT := (.node (PySem.W.boot_o_0 P) (.node (PySem.W.boot_o_1 P) (.node (PySem.W.boot_o_3 P) (.node (PySem.W.boot_o_7 P) .nil .nil) (.node (o11 P) .nil .nil)) (.node (PySem.W.boot_o_5 P) (.node (PySem.W.boot_o_9 P) .nil .nil) (.node (o13 P) .nil .nil))) (.node (PySem.W.boot_o_2 P) (.node (PySem.W.boot_o_4 P) (.node (PySem.W.boot_o_8 P) .nil .nil) (.node (s12 P) .nil .nil)) (.node (PySem.W.boot_o_6 P) (.node (PySem.W.boot_o_10 P) .nil .nil) (.node (o14 P) .nil .nil))))
noncomputable def tree9 (p : Program) (P : Params) : BT := (.node (PySem.W.boot_o_0 P) (.node (PySem.W.boot_o_1 P) (.node (o3 P) (.node (PySem.W.boot_o_7 P) (.node (o15 P) (.node (o31 P) (.node (o63 P) (.node (o127 P) (.node (o255 P) .nil .nil) .nil) (.node (o191 P) .nil .nil)) (.node (o95 P) (.node (o159 P) .nil .nil) (.node (ox223 p P) .nil .nil))) (.node (o47 P) (.node (o79 P) (.node (ox143 p P) (.node (o271 P) .nil .nil) .nil) (.node (o207 P) .nil .nil)) (.node (o111 P) (.node (o175 P) .nil .nil) (.node (ox239 p P) .nil .nil)))) (.node (o23 P) (.node (o39 P) (.node (o71 P) (.node (o135 P) (.node (ox263 p P) .nil .nil) .nil) (.node (o199 P) .nil .nil)) (.node (o103 P) (.node (ox167 p P) .nil .nil) (.node (o231 P) .nil .nil))) (.node (ox55 p P) (.node (ox87 p P) (.node (o151 P) .nil .nil) (.node (o215 P) .nil .nil)) (.node (ox119 p P) (.node (o183 P) .nil .nil) (.node (o247 P) .nil .nil))))) (.node (o11 P) (.node (ox19 p P) (.node (ox35 p P) (.node (ox67 p P) (.node (o131 P) (.node (o259 P) .nil .nil) .nil) (.node (o195 P) .nil .nil)) (.node (o99 P) (.node (o163 P) .nil .nil) (.node (o227 P) .nil .nil))) (.node (o51 P) (.node (o83 P) (.node (o147 P) (.node (ox275 p P) .nil .nil) .nil) (.node (o211 P) .nil .nil)) (.node (o115 P) (.node (ox179 p P) .nil .nil) (.node (o243 P) .nil .nil)))) (.node (o27 P) (.node (ox43 p P) (.node (o75 P) (.node (o139 P) (.node (o267 P) .nil .nil) .nil) (.node (ox203 p P) .nil .nil)) (.node (ox107 p P) (.node (o171 P) .nil .nil) (.node (o235 P) .nil .nil))) (.node (o59 P) (.node (o91 P) (.node (o155 P) .nil .nil) (.node (o219 P) .nil .nil)) (.node (o123 P) (.node (o187 P) .nil .nil) (.node (ox251 p P) .nil .nil)))))) (.node (PySem.W.boot_o_5 P) (.node (PySem.W.boot_o_9 P) (.node (o17 P) (.node (ox33 p P) (.node (o65 P) (.node (o129 P) (.node (o257 P) .nil .nil) .nil) (.node (o193 P) .nil .nil)) (.node (o97 P) (.node (o161 P) .nil .nil) (.node (ox225 p P) .nil .nil))) (.node (o49 P) (.node (o81 P) (.node (ox145 p P) (.node (o273 P) .nil .nil) .nil) (.node (o209 P) .nil .nil)) (.node (o113 P) (.node (o177 P) .nil .nil) (.node (ox241 p P) .nil .nil)))) (.node (o25 P) (.node (ox41 p P) (.node (o73 P) (.node (o137 P) (.node (ox265 p P) .nil .nil) .nil) (.node (ox201 p P) .nil .nil)) (.node (ox105 p P) (.node (o169 P) .nil .nil) (.node (o233 P) .nil .nil))) (.node (ox57 p P) (.node (ox89 p P) (.node (o153 P) .nil .nil) (.node (o217 P) .nil .nil)) (.node (ox121 p P) (.node (o185 P) .nil .nil) (.node (o249 P) .nil .nil))))) (.node (o13 P) (.node (ox21 p P) (.node (o37 P) (.node (o69 P) (.node (o133 P) (.node (o261 P) .nil .nil) .nil) (.node (o197 P) .nil .nil)) (.node (o101 P) (.node (ox165 p P) .nil .nil) (.node (o229 P) .nil .nil))) (.node (o53 P) (.node (o85 P) (.node (o149 P) (.node (ox277 p P) .nil .nil) .nil) (.node (o213 P) .nil .nil)) (.node (o117 P) (.node (ox181 p P) .nil .nil) (.node (o245 P) .nil .nil)))) (.node (o29 P) (.node (o45 P) (.node (o77 P) (.node (o141 P) (.node (o269 P) .nil .nil) .nil) (.node (o205 P) .nil .nil)) (.node (o109 P) (.node (o173 P) .nil .nil) (.node (ox237 p P) .nil .nil))) (.node (o61 P) (.node (o93 P) (.node (o157 P) .nil .nil) (.node (o221 P) .nil .nil)) (.node (o125 P) (.node (o189 P) .nil .nil) (.node (ox253 p P) .nil .nil))))))) (.node (PySem.W.boot_o_2 P) (.node (PySem.W.boot_o_4 P) (.node (PySem.W.boot_o_8 P) (.node (o16 P) (.node (o32 P) (.node (o64 P) (.node (o128 P) (.node (o256 P) .nil .nil) .nil) (.node (o192 P) .nil .nil)) (.node (o96 P) (.node (ox160 p P) .nil .nil) (.node (o224 P) .nil .nil))) (.node (ox48 p P) (.node (ox80 p P) (.node (o144 P) (.node (ox272 p P) .nil .nil) .nil) (.node (ox208 p P) .nil .nil)) (.node (ox112 p P) (.node (o176 P) .nil .nil) (.node (o240 P) .nil .nil)))) (.node (o24 P) (.node (o40 P) (.node (o72 P) (.node (o136 P) (.node (o264 P) .nil .nil) .nil) (.node (o200 P) .nil .nil)) (.node (o104 P) (.node (o168 P) .nil .nil) (.node (ox232 p P) .nil .nil))) (.node (o56 P) (.node (o88 P) (.node (o152 P) .nil .nil) (.node (ox216 p P) .nil .nil)) (.node (o120 P) (.node (o184 P) .nil .nil) (.node (o248 P) .nil .nil))))) (.node (o12 P) (.node (o20 P) (.node (o36 P) (.node (o68 P) (.node (o132 P) (.node (ox260 p P) .nil .nil) .nil) (.node (ox196 p P) .nil .nil)) (.node (ox100 p P) (.node (o164 P) .nil .nil) (.node (o228 P) .nil .nil))) (.node (o52 P) (.node (o84 P) (.node (ox148 p P) (.node (o276 P) .nil .nil) .nil) (.node (o212 P) .nil .nil)) (.node (o116 P) (.node (o180 P) .nil .nil) (.node (o244 P) .nil .nil)))) (.node (o28 P) (.node (o44 P) (.node (o76 P) (.node (o140 P) (.node (o268 P) .nil .nil) .nil) (.node (o204 P) .nil .nil)) (.node (o108 P) (.node (ox172 p P) .nil .nil) (.node (o236 P) .nil .nil))) (.node (o60 P) (.node (o92 P) (.node (o156 P) .nil .nil) (.node (o220 P) .nil .nil)) (.node (o124 P) (.node (ox188 p P) .nil .nil) (.node (o252 P) .nil .nil)))))) (.node (PySem.W.boot_o_6 P) (.node (PySem.W.boot_o_10 P) (.node (o18 P) (.node (o34 P) (.node (o66 P) (.node (o130 P) (.node (ox258 p P) .nil .nil) .nil) (.node (ox194 p P) .nil .nil)) (.node (ox98 p P) (.node (o162 P) .nil .nil) (.node (o226 P) .nil .nil))) (.node (ox50 p P) (.node (ox82 p P) (.node (o146 P) (.node (o274 P) .nil .nil) .nil) (.node (ox210 p P) .nil .nil)) (.node (ox114 p P) (.node (o178 P) .nil .nil) (.node (o242 P) .nil .nil)))) (.node (o26 P) (.node (o42 P) (.node (o74 P) (.node (o138 P) (.node (o266 P) .nil .nil) .nil) (.node (o202 P) .nil .nil)) (.node (o106 P) (.node (o170 P) .nil .nil) (.node (o234 P) .nil .nil))) (.node (o58 P) (.node (ox90 p P) (.node (o154 P) .nil .nil) (.node (ox218 p P) .nil .nil)) (.node (o122 P) (.node (ox186 p P) .nil .nil) (.node (o250 P) .nil .nil))))) (.node (o14 P) (.node (o22 P) (.node (o38 P) (.node (o70 P) (.node (ox134 p P) (.node (o262 P) .nil .nil) .nil) (.node (o198 P) .nil .nil)) (.node (o102 P) (.node (o166 P) .nil .nil) (.node (ox230 p P) .nil .nil))) (.node (o54 P) (.node (o86 P) (.node (o150 P) .nil .nil) (.node (o214 P) .nil .nil)) (.node (o118 P) (.node (o182 P) .nil .nil) (.node (o246 P) .nil .nil)))) (.node (o30 P) (.node (o46 P) (.node (o78 P) (.node (o142 P) (.node (ox270 p P) .nil .nil) .nil) (.node (o206 P) .nil .nil)) (.node (o110 P) (.node (ox174 p P) .nil .nil) (.node (o238 P) .nil .nil))) (.node (o62 P) (.node (o94 P) (.node (ox158 p P) .nil .nil) (.node (o222 P) .nil .nil)) (.node (o126 P) (.node (o190 P) .nil .nil) (.node (o254 P) .nil .nil))))))))
noncomputable def heap9 (p : Program) (P : Params) : Heap := ⟨⟨[PySem.W.boot_o_0 P, PySem.W.boot_o_1 P, PySem.W.boot_o_2 P, o3 P, PySem.W.boot_o_4 P, PySem.W.boot_o_5 P, PySem.W.boot_o_6 P, PySem.W.boot_o_7 P, PySem.W.boot_o_8 P, PySem.W.boot_o_9 P, PySem.W.boot_o_10 P, o11 P, o12 P, o13 P, o14 P, o15 P, o16 P, o17 P, o18 P, ox19 p P, o20 P, ox21 p P, o22 P, o23 P, o24 P, o25 P, o26 P, o27 P, o28 P, o29 P, o30 P, o31 P, o32 P, ox33 p P, o34 P, ox35 p P, o36 P, o37 P, o38 P, o39 P, o40 P, ox41 p P, o42 P, ox43 p P, o44 P, o45 P, o46 P, o47 P, ox48 p P, o49 P, ox50 p P, o51 P, o52 P, o53 P, o54 P, ox55 p P, o56 P, ox57 p P, o58 P, o59 P, o60 P, o61 P, o62 P, o63 P, o64 P, o65 P, o66 P, ox67 p P, o68 P, o69 P, o70 P, o71 P, o72 P, o73 P, o74 P, o75 P, o76 P, o77 P, o78 P, o79 P, ox80 p P, o81 P, ox82 p P, o83 P, o84 P, o85 P, o86 P, ox87 p P, o88 P, ox89 p P, ox90 p P, o91 P, o92 P, o93 P, o94 P, o95 P, o96 P, o97 P, ox98 p P, o99 P, ox100 p P, o101 P, o102 P, o103 P, o104 P, ox105 p P, o106 P, ox107 p P, o108 P, o109 P, o110 P, o111 P, ox112 p P, o113 P, ox114 p P, o115 P, o116 P, o117 P, o118 P, ox119 p P, o120 P, ox121 p P, o122 P, o123 P, o124 P, o125 P, o126 P, o127 P, o128 P, o129 P, o130 P, o131 P, o132 P, o133 P, ox134 p P, o135 P, o136 P, o137 P, o138 P, o139 P, o140 P, o141 P, o142 P, ox143 p P, o144 P, ox145 p P, o146 P, o147 P, ox148 p P, o149 P, o150 P, o151 P, o152 P, o153 P, o154 P, o155 P, o156 P, o157 P, ox158 p P, o159 P, ox160 p P, o161 P, o162 P, o163 P, o164 P, ox165 p P, o166 P, ox167 p P, o168 P, o169 P, o170 P, o171 P, ox172 p P, o173 P, ox174 p P, o175 P, o176 P, o177 P, o178 P, ox179 p P, o180 P, ox181 p P, o182 P, o183 P, o184 P, o185 P, ox186 p P, o187 P, ox188 p P, o189 P, o190 P, o191 P, o192 P, o193 P, ox194 p P, o195 P, ox196 p P, o197 P, o198 P, o199 P, o200 P, ox201 p P, o202 P, ox203 p P, o204 P, o205 P, o206 P, o207 P, ox208 p P, o209 P, ox210 p P, o211 P, o212 P, o213 P, o214 P, o215 P, ox216 p P, o217 P, ox218 p P, o219 P, o220 P, o221 P, o222 P, ox223 p P, o224 P, ox225 p P, o226 P, o227 P, o228 P, o229 P, ox230 p P, o231 P, ox232 p P, o233 P, o234 P, o235 P, o236 P, ox237 p P, o238 P, ox239 p P, o240 P, ox241 p P, o242 P, o243 P, o244 P, o245 P, o246 P, o247 P, o248 P, o249 P, o250 P, ox251 p P, o252 P, ox253 p P, o254 P, o255 P, o256 P, o257 P, ox258 p P, o259 P, ox260 p P, o261 P, o262 P, ox263 p P, o264 P, ox265 p P, o266 P, o267 P, o268 P, o269 P, ox270 p P, o271 P, ox272 p P, o273 P, o274 P, ox275 p P, o276 P, ox277 p P]⟩, {}⟩
noncomputable def K (P : Params) : Frag := [(nat_lit 2, PySem.W.boot_o_2 P), (nat_lit 3, o3 P), (nat_lit 15, o15 P), (nat_lit 17, o17 P), (nat_lit 18, o18 P), (nat_lit 20, o20 P), (nat_lit 21, o21 P), (nat_lit 29, o29 P), (nat_lit 31, o31 P), (nat_lit 32, o32 P), (nat_lit 34, o34 P), (nat_lit 35, o35 P), (nat_lit 36, o36 P), (nat_lit 37, o37 P), (nat_lit 39, o39 P), (nat_lit 40, o40 P), (nat_lit 42, o42 P), (nat_lit 43, o43 P), (nat_lit 44, o44 P), (nat_lit 46, o46 P), (nat_lit 47, o47 P), (nat_lit 49, o49 P), (nat_lit 50, o50 P), (nat_lit 51, o51 P), (nat_lit 53, o53 P), (nat_lit 54, o54 P), (nat_lit 56, o56 P), (nat_lit 57, o57 P), (nat_lit 58, o58 P), (nat_lit 59, o59 P), (nat_lit 60, o60 P), (nat_lit 61, o61 P), (nat_lit 62, o62 P), (nat_lit 65, o65 P), (nat_lit 68, o68 P), (nat_lit 73, o73 P), (nat_lit 74, o74 P), (nat_lit 75, o75 P), (nat_lit 76, o76 P), (nat_lit 78, o78 P), (nat_lit 79, o79 P), (nat_lit 81, o81 P), (nat_lit 82, o82 P), (nat_lit 83, o83 P), (nat_lit 85, o85 P), (nat_lit 86, o86 P), (nat_lit 88, o88 P), (nat_lit 89, o89 P), (nat_lit 90, o90 P), (nat_lit 91, o91 P), (nat_lit 92, o92 P), (nat_lit 93, o93 P), (nat_lit 94, o94 P), (nat_lit 96, o96 P), (nat_lit 97, o97 P), (nat_lit 99, o99 P), (nat_lit 100, o100 P), (nat_lit 101, o101 P), (nat_lit 103, o103 P), (nat_lit 104, o104 P), (nat_lit 106, o106 P), (nat_lit 107, o107 P), (nat_lit 108, o108 P), (nat_lit 110, o110 P), (nat_lit 111, o111 P), (nat_lit 113, o113 P), (nat_lit 114, o114 P), (nat_lit 115, o115 P), (nat_lit 117, o117 P), (nat_lit 118, o118 P), (nat_lit 120, o120 P), (nat_lit 121, o121 P), (nat_lit 122, o122 P), (nat_lit 123, o123 P), (nat_lit 124, o124 P), (nat_lit 126, o126 P), (nat_lit 127, o127 P), (nat_lit 129, o129 P), (nat_lit 130, o130 P), (nat_lit 132, o132 P), (nat_lit 134, o134 P), (nat_lit 135, o135 P), (nat_lit 136, o136 P), (nat_lit 139, o139 P), (nat_lit 141, o141 P), (nat_lit 142, o142 P), (nat_lit 144, o144 P), (nat_lit 145, o145 P), (nat_lit 153, o153 P), (nat_lit 154, o154 P), (nat_lit 156, o156 P), (nat_lit 157, o157 P), (nat_lit 159, o159 P), (nat_lit 160, o160 P), (nat_lit 161, o161 P), (nat_lit 163, o163 P), (nat_lit 164, o164 P), (nat_lit 166, o166 P), (nat_lit 167, o167 P), (nat_lit 168, o168 P), (nat_lit 170, o170 P), (nat_lit 171, o171 P), (nat_lit 173, o173 P), (nat_lit 174, o174 P), (nat_lit 175, o175 P), (nat_lit 177, o177 P), (nat_lit 178, o178 P), (nat_lit 180, o180 P), (nat_lit 181, o181 P), (nat_lit 182, o182 P), (nat_lit 184, o184 P), (nat_lit 185, o185 P), (nat_lit 187, o187 P), (nat_lit 188, o188 P), (nat_lit 189, o189 P), (nat_lit 190, o190 P), (nat_lit 192, o192 P), (nat_lit 193, o193 P), (nat_lit 195, o195 P), (nat_lit 196, o196 P), (nat_lit 197, o197 P), (nat_lit 199, o199 P), (nat_lit 200, o200 P), (nat_lit 202, o202 P), (nat_lit 203, o203 P), (nat_lit 204, o204 P), (nat_lit 206, o206 P), (nat_lit 207, o207 P), (nat_lit 209, o209 P), (nat_lit 210, o210 P), (nat_lit 211, o211 P), (nat_lit 212, o212 P), (nat_lit 214, o214 P), (nat_lit 215, o215 P), (nat_lit 217, o217 P), (nat_lit 218, o218 P), (nat_lit 219, o219 P), (nat_lit 221, o221 P), (nat_lit 222, o222 P), (nat_lit 224, o224 P), (nat_lit 225, o225 P), (nat_lit 226, o226 P), (nat_lit 228, o228 P), (nat_lit 229, o229 P), (nat_lit 231, o231 P), (nat_lit 232, o232 P), (nat_lit 233, o233 P), (nat_lit 235, o235 P), (nat_lit 236, o236 P), (nat_lit 238, o238 P), (nat_lit 239, o239 P), (nat_lit 240, o240 P), (nat_lit 241, o241 P), (nat_lit 242, o242 P), (nat_lit 243, o243 P), (nat_lit 244, o244 P), (nat_lit 247, o247 P), (nat_lit 249, o249 P), (nat_lit 250, o250 P), (nat_lit 252, o252 P), (nat_lit 253, o253 P), (nat_lit 254, o254 P), (nat_lit 256, o256 P), (nat_lit 257, o257 P), (nat_lit 259, o259 P), (nat_lit 260, o260 P), (nat_lit 261, o261 P), (nat_lit 264, o264 P), (nat_lit 265, o265 P), (nat_lit 266, o266 P), (nat_lit 268, o268 P), (nat_lit 269, o269 P), (nat_lit 271, o271 P), (nat_lit 272, o272 P), (nat_lit 273, o273 P), (nat_lit 276, o276 P), (nat_lit 277, o277 P)]
noncomputable def kAs : List Nat := [nat_lit 2, nat_lit 3, nat_lit 15, nat_lit 17, nat_lit 18, nat_lit 20, nat_lit 21, nat_lit 29, nat_lit 31, nat_lit 32, nat_lit 34, nat_lit 35, nat_lit 36, nat_lit 37, nat_lit 39, nat_lit 40, nat_lit 42, nat_lit 43, nat_lit 44, nat_lit 46, nat_lit 47, nat_lit 49, nat_lit 50, nat_lit 51, nat_lit 53, nat_lit 54, nat_lit 56, nat_lit 57, nat_lit 58, nat_lit 59, nat_lit 60, nat_lit 61, nat_lit 62, nat_lit 65, nat_lit 68, nat_lit 73, nat_lit 74, nat_lit 75, nat_lit 76, nat_lit 78, nat_lit 79, nat_lit 81, nat_lit 82, nat_lit 83, nat_lit 85, nat_lit 86, nat_lit 88, nat_lit 89, nat_lit 90, nat_lit 91, nat_lit 92, nat_lit 93, nat_lit 94, nat_lit 96, nat_lit 97, nat_lit 99, nat_lit 100, nat_lit 101, nat_lit 103, nat_lit 104, nat_lit 106, nat_lit 107, nat_lit 108, nat_lit 110, nat_lit 111, nat_lit 113, nat_lit 114, nat_lit 115, nat_lit 117, nat_lit 118, nat_lit 120, nat_lit 121, nat_lit 122, nat_lit 123, nat_lit 124, nat_lit 126, nat_lit 127, nat_lit 129, nat_lit 130, nat_lit 132, nat_lit 134, nat_lit 135, nat_lit 136, nat_lit 139, nat_lit 141, nat_lit 142, nat_lit 144, nat_lit 145, nat_lit 153, nat_lit 154, nat_lit 156, nat_lit 157, nat_lit 159, nat_lit 160, nat_lit 161, nat_lit 163, nat_lit 164, nat_lit 166, nat_lit 167, nat_lit 168, nat_lit 170, nat_lit 171, nat_lit 173, nat_lit 174, nat_lit 175, nat_lit 177, nat_lit 178, nat_lit 180, nat_lit 181, nat_lit 182, nat_lit 184, nat_lit 185, nat_lit 187, nat_lit 188, nat_lit 189, nat_lit 190, nat_lit 192, nat_lit 193, nat_lit 195, nat_lit 196, nat_lit 197, nat_lit 199, nat_lit 200, nat_lit 202, nat_lit 203, nat_lit 204, nat_lit 206, nat_lit 207, nat_lit 209, nat_lit 210, nat_lit 211, nat_lit 212, nat_lit 214, nat_lit 215, nat_lit 217, nat_lit 218, nat_lit 219, nat_lit 221, nat_lit 222, nat_lit 224, nat_lit 225, nat_lit 226, nat_lit 228, nat_lit 229, nat_lit 231, nat_lit 232, nat_lit 233, nat_lit 235, nat_lit 236, nat_lit 238, nat_lit 239, nat_lit 240, nat_lit 241, nat_lit 242, nat_lit 243, nat_lit 244, nat_lit 247, nat_lit 249, nat_lit 250, nat_lit 252, nat_lit 253, nat_lit 254, nat_lit 256, nat_lit 257, nat_lit 259, nat_lit 260, nat_lit 261, nat_lit 264, nat_lit 265, nat_lit 266, nat_lit 268, nat_lit 269, nat_lit 271, nat_lit 272, nat_lit 273, nat_lit 276, nat_lit 277]
noncomputable abbrev pE : Pos := ⟨465, 0, 491, 15⟩
noncomputable abbrev p0 : Pos := ⟨0, 0, 0, 0⟩
noncomputable abbrev B0 : List Frame := [topFrame p0]
noncomputable abbrev envP (p : Program) : Env := { scope := p.main.scope, locals := mainNs, globals := mainNs, cells := [], code := .ref 13, frame := some 14 }
noncomputable abbrev bdyP (p : Program) : List Stmt := behindTheImports p
noncomputable abbrev cP (p : Program) : Code := .body (bdyP p) (envP p)
noncomputable abbrev ann : Option Value := some (.ref 6)
noncomputable abbrev SB (w : World) (os : OsState) : SharedT := ⟨tree4 w.params, 15, {}, ⟨[]⟩, {}, 187, os⟩
noncomputable abbrev S9 (p : Program) (w : World) (os : OsState) : SharedT := ⟨tree9 p w.params, 278, {}, ⟨[]⟩, {}, 625, os⟩
noncomputable abbrev SFP (p : Program) (w : World) (os : OsState) : Shared := ⟨heap9 p w.params, ⟨[]⟩, {}, 625, os⟩
noncomputable abbrev S0 (w : World) (os : OsState) : Shared := ⟨boot_heap w.params, ⟨[]⟩, boot_drawn, boot_toks, os⟩
noncomputable abbrev SF : World → OsState → Shared := SFP prog
end
end Mine
end
section
open PySem PySem.W PyProof.Rows
set_option Elab.async false
set_option maxRecDepth 100000
set_option maxHeartbeats 8000000
namespace Mine
theorem whole (w : World) (os : OsState) : segRunT treeTable prog w 11 ann 1 2249 (SB w os) (piecesOf (bdyP prog) (envP prog) (cP prog) p0 B0) = some (.next, S9 prog w os, cP prog, pE) := by
  rw [← prog_eq, PySem.W.Fast.te10110043849684766642, tab_eq]
  kernel_rfl
end Mine
end
section
open PySem PySem.W PyProof.Rows
set_option Elab.async false
set_option maxRecDepth 100000
set_option maxHeartbeats 8000000
namespace Mine
noncomputable section
theorem pre (w : World) (os : OsState) : topGo treeTable prog w 11 ann 12 (S0 w os) (topStub prog) = some ((SB w os).abs, ⟨denote treeTable (cP prog), cP prog, p0, B0⟩) := by
  rw [PySem.W.Fast.te15667345088766844465, PySem.W.Fast.te14364793385576792824, PySem.W.Fast.te11892475500146522536]
  kernel_rfl
theorem block (w : World) (os : OsState) : segRun treeTable prog w 11 ann 1 1 (SB w os).abs (blockOf (bdyP prog) (envP prog) (cP prog) p0 B0) = some (.next, (SB w os).abs, cP prog, p0) := by
  rw [PySem.W.Fast.te14374325043358763698, PySem.W.Fast.te14364793385576792824]
  kernel_rfl
theorem fin (w : World) (os : OsState) : topRun treeTable prog w 11 ann 2 (S9 prog w os).abs ⟨doneF .next, cP prog, pE, B0⟩ = some (SF w os) := by
  rw [PySem.W.Fast.te14082659384304107361, PySem.W.Fast.te14364793385576792824]
  kernel_rfl
theorem bdy_eq : bdyP prog ++ [] = bdyP prog := List.append_nil _
theorem runs (w : World) (os : OsState) : topRun treeTable prog w 11 ann (12 + (1 + (2249 + 2))) (S0 w os) (topStub prog) = some (SF w os) := by
  have k := piece_app (segRun_of (whole w os)) (piece_nil (env := envP prog) (fin w os))
  rw [bdy_eq] at k
  exact go_top (pre w os) (piece_block (block w os) k)
theorem size0 (w : World) : ((boot_heap w.params).isNs mainGlobals && (Array.mk ([] : List GenState)).size == 0, (boot_heap w.params).objs.size, (boot_heap w.params).nsMap mainGlobals "__annotations__") = (true, 11, ann) := by
  rw [PySem.W.Fast.te8920871248978507458]
  kernel_rfl
end
end Mine
end
section
open PySem PySem.W PyProof.Rows
set_option Elab.async false
set_option maxRecDepth 100000
set_option maxHeartbeats 8000000
namespace Mine
noncomputable section
noncomputable def view : Program := { prog with main := { prog.main with body := [stAt 0, stAt 2, stAt 3, stAt 4, stAt 5, stAt 7, stAt 8, stAt 9, stAt 10, stAt 11] } }
noncomputable def loose : List Str := [Str.ofString "_tuplegetter", Str.ofString "Match", Str.ofString "SequenceMatcher"]
noncomputable abbrev row : OpenRow := OpenLaw.row PySem.Challenge.rw_mt0005_02
noncomputable def Xt (s : Shared) : Bool := xlAt view [] s && recOk [] s
noncomputable def mods : List Str := importedModules prog.main.body
/-- the fragment, and ratio's table of codes -/
noncomputable def KH (P : Params) : Frag := (nat_lit 220, o220 P) :: K P
noncomputable def kAsH : List Nat := nat_lit 220 :: kAs
end
end Mine
namespace Mine
noncomputable section
theorem look1 (w : World) (os : OsState) : (staticsOk mods (boot_heap w.params) (heap9 prog w.params) && namesBound prog (heap9 prog w.params) && gensDone (SF w os) && laidKept (boot_heap w.params) (heap9 prog w.params)) = true := by
  kernel_rfl
theorem look3 (w : World) (os : OsState) : kAsH.map (SF w os).heap.get? = (KH w.params).map fun p => some p.2 := by
  kernel_rfl
theorem look2 (w : World) (os : OsState) : openSeen view loose mods Xt true (SF w os) = openGood view loose := by
  unfold openSeen openGood
  refine looks_pair ?_ (looks_pair ?_ (looks_pair ?_ (looks_pair ?_ (looks_pair ?_ (looks_pair ?_ (looks_pair ?_ (looks_pair ?_ ?_)))))))
  all_goals ((try rw [PySem.W.Fast.te5160383126252970620]); (try rw [PySem.W.Fast.te3399658132070893891]); (try rw [PySem.W.Fast.te5991557255702980513]); (try rw [PySem.W.Fast.te10880121769531294198]); (try rw [PySem.W.Fast.te821141287760084731]); (try rw [PySem.W.Fast.te7409074990110511671]); (try rw [PySem.W.Fast.te13664370479719496447]); (try rw [PySem.W.Fast.te14722251495701143533]); (try rw [PySem.W.Fast.te10994771534591457954]); (try rw [PySem.W.Fast.te479339242167458305]); (try rw [PySem.W.Fast.te16090120013241838585]); (try rw [PySem.W.Fast.te3247288618530077131]); (try rw [PySem.W.Fast.te2386780881361962483]); (try rw [PySem.W.Fast.te11698064438423848299]); (try rw [PySem.W.Fast.te7317090234206586261]); (try rw [PySem.W.Fast.te7369524293546568484]); kernel_rfl)
end
end Mine
end
section
open PySem PySem.W PyProof.Rows
set_option Elab.async false
set_option maxRecDepth 100000
set_option maxHeartbeats 8000000
namespace Mine
noncomputable section
theorem opn : opening prog = plainProg prog.main.scope.names := by kernel_rfl
theorem fnc : ∀ s, fenceModules? prog s = some s := fun s => by kernel_rfl
theorem looks (w : World) : (fun os => ((staticsOk (importedModules prog.main.body) (boot_heap w.params) (heap9 prog w.params) && namesBound prog (heap9 prog w.params) && gensDone ⟨heap9 prog w.params, ⟨[]⟩, {}, 625, os⟩ && laidKept (boot_heap w.params) (heap9 prog w.params)),
        openSeen view loose (importedModules prog.main.body) Xt true ⟨heap9 prog w.params, ⟨[]⟩, {}, 625, os⟩, kAsH.map (Shared.heap ⟨heap9 prog w.params, ⟨[]⟩, {}, 625, os⟩).get?)) = fun _ => (true, openGood view loose, (KH w.params).map fun p => some p.2) :=
  funext fun os => looks_pair (look1 w os) (looks_pair (look2 w os) (look3 w os))
theorem left : LeftO prog view loose Xt (fun s => kAsH.map s.heap.get?) (fun w => (KH w.params).map fun p => some p.2) 4622 true :=
  LeftO.of_pieces (boot_open opn rfl fnc) size0 runs rfl looks
theorem ws : OpenLaw.wellSaid PySem.Challenge.rw_mt0005_02 = true := by kernel_rfl
noncomputable abbrev hook : Hook := kHook KH kAsH (fun _ => by kernel_rfl)
end
noncomputable def dlaw : DefRec := ⟨Str.ofString "law", fnArgs (stAt 11), fnBody (stAt 11), fnScope (stAt 11), ⟨465, 0, 491, 15⟩⟩
theorem hd (hc : WalkO view loose (XL view []) (Hook.says hook) row.toRowW dlaw [] fun f vs => PySem.call f vs) : PySem.Challenge.rw_mt0005_02.Holds := by
  refine holds_law ws fun said => ?_
  refine holds_open (q := view) (loose := loose) (Xt := Xt) (XP := XL view []) (Yf := Hook.obs hook) (Ya := Hook.val hook) (YP := Hook.says hook) (N := 4622) left (Hook.of hook) (Hook.keeps hook) (fun s e => xl_of s (Bool.and_eq_true_iff.mp e).1) XL.keeps (by rfl) (by rfl) (by rfl) (fun s e => recFacts_of (Bool.and_eq_true_iff.mp e).2) (by rfl) (by first | assumption | decide +kernel) (by decide +kernel) ⟨rfl, rfl, rfl, rfl, rfl, by decide +kernel⟩ ?hw ?hc
  case hw => w_witness2
  case hc => exact hc
end Mine
end
section
set_option Elab.async false
set_option maxRecDepth 100000
set_option linter.unusedVariables false
namespace Mine
open PySem PySem.W PySem.Calls PyProof.Rows

/-! locals by place -/
noncomputable def look : List Str → List (Option Value) → Str → Option Value
  | n :: ns, v :: vs, x => if x = n then v else look ns vs x
  | _, _, _ => none
theorem look_get : ∀ {nm : List Str} {vs : List (Option Value)} {x : Str} {i : Nat} {v : Value}, nm.Nodup → nm[i]? = some x → vs[i]? = some (some v) → look nm vs x = some v
  | [], _, _, _, _, _, h, _ => by simp at h
  | _ :: _, [], _, _, _, _, _, h => by simp at h
  | n :: ns, w :: vs, x, 0, v, nd, h1, h2 => by
    simp at h1 h2
    subst h1 h2
    simp [look]
  | n :: ns, w :: vs, x, i + 1, v, nd, h1, h2 => by
    have h1' : ns[i]? = some x := by simpa using h1
    have h2' : vs[i]? = some (some v) := by simpa using h2
    have hx : x ≠ n := fun e => (List.nodup_cons.mp nd).1 (e ▸ List.mem_of_getElem? h1')
    simp only [look, if_neg hx]
    exact look_get (List.nodup_cons.mp nd).2 h1' h2'
theorem look_set : ∀ {nm : List Str} {vs : List (Option Value)} {x : Str} {i : Nat}, nm.Nodup → nm[i]? = some x → i < vs.length → ∀ v : Value, (fun y => if y = x then some v else look nm vs y) = look nm (vs.set i (some v))
  | [], _, _, _, _, h, _, _ => by simp at h
  | _ :: _, [], _, _, _, _, h, _ => by simp at h
  | n :: ns, u :: vs, x, 0, nd, h1, _, v => by
    simp at h1
    subst h1
    funext y
    simp only [List.set_cons_zero, look]
    by_cases h : y = n <;> simp [h]
  | n :: ns, u :: vs, x, i + 1, nd, h1, h2, v => by
    have h1' : ns[i]? = some x := by simpa using h1
    have hx : x ≠ n := fun e => (List.nodup_cons.mp nd).1 (e ▸ List.mem_of_getElem? h1')
    have ih := look_set (List.nodup_cons.mp nd).2 h1' (by simpa using h2) v
    funext y
    simp only [List.set_cons_succ, look]
    have := congrFun ih y
    by_cases h : y = n
    · subst h; simp [Ne.symm hx]
    · simp only [if_neg h]; exact this
theorem look_nones : ∀ (os : List Str) (x : Str), look os (os.map fun _ => none) x = none := by
  intro os x
  induction os with
  | nil => rfl
  | cons o os ih => exact (ite_self (c := x = o) (none : Option Value) ▸ congrArg (fun z => if x = o then none else z) ih :)
theorem look_start : ∀ {ps : List Str} {as : List Value} {os : List Str}, ps.Nodup → ps.length = as.length → look (ps ++ os) (as.map some ++ os.map fun _ => none) = fun x => (ps.zip as).lookup x := by
  intro ps
  induction ps with
  | nil =>
    intro as os _ hl
    rw [List.length_eq_zero_iff.mp hl.symm]
    funext x; exact look_nones os x
  | cons p ps ihp =>
    intro as os nd hl
    obtain ⟨a, as, rfl⟩ := List.exists_cons_of_length_eq_add_one hl.symm
    have ih := ihp (os := os) (List.nodup_cons.mp nd).2 (Nat.succ.inj hl)
    funext x
    simp only [List.cons_append, List.map_cons, List.zip_cons_cons, List.lookup_cons]
    show (if x = p then _ else look (ps ++ os) _ x) = _
    rw [ih]
    by_cases h : x = p <;> simp [h]
    have : (x == p) = false := by simpa using h
    rw [this]

structure Var (sc : Scope) (nm : List Str) (x : Str) (i : Nat) : Prop where
  fn : sc.kind = .function
  nd : nm.Nodup
  kind : sc.names.lookup x = some .local
  place : nm[i]? = some x
  dbg : (x == ("__debug__" : Str)) = false

structure St (g : Heap) (L : Addr) (h : Heap) (nm : List Str) (vs : List (Option Value)) (mu : List (Addr × Obj)) : Prop where
  F : Fr g L h (look nm vs)
  N : News g L h mu
  nd : (mu.map (·.1)).Nodup

/-! what stands at the top -/
structure Gd (K : Frag) (mg mb : Str → Option Value) (h : Heap) : Prop where
  k : K.In h
  g : h.Ns mainGlobals mg
  b : h.Ns builtinsNs mb
  lim : h.NoLimit
  blt : ∀ x : Str, x ≠ "__name__" → mb x = bootBuiltins x
  mod : ∃ bm o, mg "__builtins__" = some (.ref bm) ∧ bm ≠ builtinsNs ∧ h.get? bm = some o ∧ o.cls = .type "module" ∧ o.dict = some builtinsNs ∧ o.data = .plain
noncomputable abbrev Sub (h h' : Heap) : Prop := ∀ b o, h.get? b = some o → h'.get? b = some o
theorem Gd.keeps {K : Frag} {mg mb : Str → Option Value} {h h' : Heap} (D : Gd K mg mb h) (k : Sub h h') : Gd K mg mb h' :=
  ⟨D.k.keeps k, D.g.keeps k, D.b.keeps k, D.lim.keeps k, D.blt, let ⟨bm, o, h1, h2, h3, h4⟩ := D.mod; ⟨bm, o, h1, h2, k _ _ h3, h4⟩⟩

section
variable {prog : Program} {w : World} {A : Around} {E : Value → Shared → Prop} {s : Shared} {g : Heap} {L a : Addr} {nm : List Str} {vs : List (Option Value)} {mu : List (Addr × Obj)} {q : Str} {sc : Scope} {cd : Value}

theorem ldV {x : Str} {pos : Pos} {i : Nat} {v : Value} {Q : Value → Shared → Prop} (S : St g L s.heap nm vs mu) (V : Var sc nm x i) (hv : vs[i]? = some (some v)) (h : Q v s) :
    wpAny (model prog w) A (eval (.Name x pos) (envOf q sc L a cd)) Q E s :=
  ld S.F (look_get V.nd V.place hv) h V.fn V.kind V.dbg
theorem stV {x : Str} {i : Nat} {v : Value} {Q : Unit → Shared → Prop} (S : St g L s.heap nm vs mu) (V : Var sc nm x i) (hi : i < vs.length)
    (h : ∀ h', St g L h' nm (vs.set i (some v)) mu → Q () { s with heap := h', toks := s.toks + 1 }) :
    wpAny (model prog w) A (storeName (envOf q sc L a cd) x v) Q E s :=
  stN S.F S.N (fun h' F' N' => h h' ⟨look_set V.nd V.place hi v ▸ F', N', S.nd⟩) V.fn V.kind
theorem St.push {h : Heap} (S : St g L h nm vs mu) (o : Obj) (hf : o.isFreed = false := by rfl) : St g L (h.push o) nm vs ((h.objs.size, o) :: mu) :=
  ⟨S.F.push o, S.N.push S.F o hf, List.nodup_cons.mpr ⟨fun hm => by
    obtain ⟨p, hp, e⟩ := List.mem_map.mp hm
    exact absurd (Heap.lt_size (S.N p hp).1) (e ▸ Nat.lt_irrefl _), S.nd⟩⟩
theorem St.upd {h : Heap} {j : Nat} {d : Addr} {o o' : Obj} {f : Obj → Obj} (S : St g L h nm vs mu) (hj : mu[j]? = some (d, o)) (e : f o = o') (hf : o'.isFreed = false := by rfl) : St g L (h.update d f) nm vs (mu.set j (d, o')) := by
  have hlt : j < mu.length := by
    rcases Nat.lt_or_ge j mu.length with h | h
    · exact h
    · rw [List.getElem?_eq_none h] at hj; cases hj
  have hmem : (d, o) ∈ mu := List.mem_of_getElem? hj
  have D := S.N _ hmem
  obtain ⟨oL, es, ep, hL, r⟩ := S.F.ns
  refine ⟨⟨⟨oL, es, ep, (Heap.get?_update_ne _ _ _ _ (Ne.symm D.2.1)).trans hL, r⟩, fun b x q => (Heap.get?_update_ne _ _ _ _ fun z => ?_).trans (S.F.keep b x q), S.F.above⟩, fun p hp => ?_, ?_⟩
  · have := D.2.2; rw [← z, q] at this; cases this
  · obtain ⟨k, hk, e'⟩ := List.getElem_of_mem hp
    rw [List.getElem_set] at e'
    split at e'
    · subst e'
      exact ⟨e ▸ Heap.get?_update_self _ D.1 (e ▸ hf), D.2⟩
    · rename_i hne
      have hk' : k < mu.length := by simpa using hk
      have P := S.N p (e' ▸ List.getElem_mem hk')
      refine ⟨(Heap.get?_update_ne _ _ _ _ fun z => hne ?_).trans P.1, P.2⟩
      have h1 : (mu.map (·.1))[j]? = some d := by simp [hj]
      have h2 : (mu.map (·.1))[k]? = some d := by
        have : mu[k]? = some p := by rw [List.getElem?_eq_getElem hk', e']
        simp [this, z]
      exact (List.getElem?_inj (by simpa using hlt) S.nd).mp (h1.trans h2.symm)
  · have : (mu.set j (d, o')).map (·.1) = mu.map (·.1) := by
      rw [List.map_set]
      apply List.ext_getElem?
      intro k
      rw [List.getElem?_set]
      split
      · rename_i hjk; subst hjk; have e2 := (List.getElem?_eq_some_iff.mp hj).2; simp [hlt, e2]
      · rfl
    rw [this]; exact S.nd
end
end Mine
end
section
set_option Elab.async false
set_option maxRecDepth 100000
set_option linter.unusedVariables false
namespace Mine
open PySem PySem.W PySem.Calls PyProof.Rows

/-- what a call may change: the objects at W, and new ones -/
structure Mod (W : List Addr) (s s' : Shared) : Prop where
  keep : ∀ b o, s.heap.get? b = some o → b ∉ W → s'.heap.get? b = some o
  size : s.heap.objs.size ≤ s'.heap.objs.size
  os : s'.os = s.os
  gens : AllBare s.gens → AllBare s'.gens
  dr : s'.drawn = s.drawn
theorem Mod.refl {s : Shared} : Mod [] s s := ⟨fun _ _ e _ => e, Nat.le_refl _, rfl, id, rfl⟩
theorem Mod.trans {W : List Addr} {s s' s'' : Shared} (x : Mod W s s') (y : Mod W s' s'') : Mod W s s'' :=
  ⟨fun b o e h => y.keep b o (x.keep b o e h) h, Nat.le_trans x.size y.size, y.os.trans x.os, fun h => y.gens (x.gens h), y.dr.trans x.dr⟩
theorem Mod.mono {W W' : List Addr} {s s' : Shared} (x : Mod W s s') (h : ∀ a ∈ W, a ∈ W') : Mod W' s s' :=
  ⟨fun b o e n => x.keep b o e fun m => n (h b m), x.size, x.os, x.gens, x.dr⟩

noncomputable def Ret (W : List Addr) (s : Shared) (P : Value → Shared → Prop) : Result → Shared → Prop
  | .ok (.ret v), s' => Mod W s s' ∧ P v s'
  | _, _ => False

structure Fn (K : Frag) (f : Addr) (fd : FuncData) (qual : Str) (sc : Scope) (body : List Stmt) (cdv : Value) : Prop where
  at_ : ∃ o, K.lookup f = some o ∧ o.data = .func fd
  q : fd.qualname = qual
  s : fd.scope = sc
  b : fd.body = .stmts body
  c : fd.code = cdv
  env : ∀ L, callEnv fd L f = envOf qual sc L f cdv
  rec_ : codeIn K cdv qual = true
  co : sc.isCoroutine = false
  gen : sc.isGenerator = false
  kind : sc.kind = .function
  cell : ∀ x ∈ sc.names, x.2 ≠ .cell

section
variable {prog : Program} {w : World} {A : Around} {E : Value → Shared → Prop} {s s' : Shared} {g : Heap} {L a : Addr} {nm : List Str} {vs : List (Option Value)} {mu : List (Addr × Obj)} {q : Str} {sc : Scope} {cd : Value}

theorem enter {K : Frag} {mg mb : Str → Option Value} {R : Result → Shared → Prop} {f : Addr} {fd : FuncData} {qual : Str} {body : List Stmt} {cdv : Value} {args : Args} {binds : List (Str × Value)} (mu : List (Addr × Obj))
    (H : Fn K f fd qual sc body cdv) (D : Gd K mg mb s.heap) (hroom : A.depth < recursionLimit) (hbind : BindsTo s fd args binds) (hloc : ∀ x ∈ binds, sc.names.lookup x.1 = some .local)
    (hvs : (fun x => binds.reverse.lookup x) = look nm vs) (hmu : ∀ p ∈ mu, s.heap.get? p.1 = some p.2) (nd : (mu.map (·.1)).Nodup)
    (h : ∀ L h₁, St (hideAll s.heap (mu.map (·.1))) L h₁ nm vs mu → s.heap.objs.size ≤ L →
      wpAny (model prog w) (A.deeper (envOf qual sc L f cdv)) (execs body (envOf qual sc L f cdv)) (fun fl s' => R (.ok (.ret (match fl with | .ret v => v | _ => .none))) s') (fun _ _ => False)
        { s with heap := h₁, toks := s.toks + binds.length }) : codeAny (model prog w) A (.call (.ref f) args) R s := by
  obtain ⟨⟨o, hl, ho⟩, hq, hs, hb, hc, henv, hrec, hco, hgen, hk, hcell⟩ := H
  subst hs hq hc
  refine codeAny_call_def (fd := fd) (body := body) (binds := binds) hroom (D.k _ _ hl) ho D.lim (codeRec_of D.k hrec) hb hbind hcell hloc (fun h₁ hns hk₁ => ?_) hco hgen hk
  rw [henv]
  rw [hvs] at hns
  refine wpAny_mono (h s.heap.objs.size h₁ ⟨⟨hns, fun b o e => hk₁ b o (of_hideAll _ e), Nat.le_of_eq (hideAll_size _ _)⟩, fun p hp => ⟨hk₁ _ _ (hmu p hp), Nat.ne_of_lt (Heap.lt_size (hmu p hp)), hideAll_none _ (List.mem_map_of_mem hp)⟩, nd⟩ (Nat.le_refl _)) (fun _ _ x => x) fun _ _ x => x.elim

theorem lookup_rev {l : List (Str × Value)} (nd : (l.map (·.1)).Nodup) (x : Str) : l.reverse.lookup x = l.lookup x := by
  induction l with
  | nil => rfl
  | cons p l ih =>
    have nd' := List.nodup_cons.mp nd
    have ih' := ih nd'.2
    obtain ⟨y, v⟩ := p
    rw [List.reverse_cons, List.lookup_append, ih', List.lookup_cons]
    by_cases h : x = y
    · subst h
      have : l.lookup x = none := by
        rw [List.lookup_eq_none_iff]
        intro p hp
        have : x ≠ p.1 := fun e => nd'.1 (List.mem_map.mpr ⟨p, hp, e.symm⟩)
        simpa using this
      simp [this]
    · have h' : (x == y) = false := by simpa using h
      simp [h', List.lookup_cons]
theorem enterP {K : Frag} {mg mb : Str → Option Value} {W : List Addr} {P : Value → Shared → Prop} {f : Addr} {fd : FuncData} {qual : Str} {body : List Stmt} {cdv : Value} {args : Args} (ps os : List Str) (xs : List Value) (mu : List (Addr × Obj))
    (H : Fn K f fd qual sc body cdv) (D : Gd K mg mb s.heap) (hroom : A.depth < recursionLimit) (hbind : BindsTo s fd args (ps.zip xs)) (hlen : ps.length = xs.length) (hps : ps.Nodup ∧ ∀ x ∈ ps, sc.names.lookup x = some .local) (hnm : nm = ps ++ os)
    (hmu : ∀ p ∈ mu, s.heap.get? p.1 = some p.2) (nd : (mu.map (·.1)).Nodup)
    (h : ∀ Po : Value → Shared → Prop, (∀ v s', Mod W s s' → P v s' → Po v s') → ∀ L h₁ tk, St (hideAll s.heap (mu.map (·.1))) L h₁ nm (xs.map some ++ os.map fun _ => none) mu → s.heap.objs.size ≤ L →
      wpAny (model prog w) (A.deeper (envOf qual sc L f cdv)) (execs body (envOf qual sc L f cdv)) (fun fl s' => Po (match fl with | .ret v => v | _ => .none) s') (fun _ _ => False)
        ⟨h₁, s.gens, s.drawn, tk, s.os⟩) : codeAny (model prog w) A (.call (.ref f) args) (Ret W s P) s := by
  have hz : (ps.zip xs).map (·.1) = ps := by rw [List.map_fst_zip]; omega
  refine enter (nm := nm) (vs := xs.map some ++ os.map fun _ => none) mu H D hroom hbind (fun x hx => hps.2 x.1 (hz ▸ List.mem_map_of_mem hx)) ?_ hmu nd fun L h₁ S hL => h (fun v s' => Mod W s s' ∧ P v s') (fun _ _ m p => ⟨m, p⟩) L h₁ _ S hL
  rw [hnm, look_start hps.1 hlen]
  funext x
  exact lookup_rev (hz.symm ▸ hps.1) x

/-- at a body's end -/
theorem St.mod {h : Heap} {W : List Addr} {t : Nat} {gs : Array GenState} {s₀ : Shared} (S : St (hideAll s₀.heap W) L h nm vs mu) (hL : s₀.heap.objs.size ≤ L) (hg : AllBare s₀.gens → AllBare gs) (hd : s'.heap = h) (hos : s'.os = s₀.os) (hgs : s'.gens = gs) (hdr : s'.drawn = s₀.drawn := by rfl) : Mod W s₀ s' :=
  ⟨fun b o e n => by rw [hd]; exact S.F.keep b o (hideAll_get _ e n), by rw [hd]; exact Nat.le_trans hL (Nat.le_of_lt S.F.ns.lt), hos, by rw [hgs]; exact hg, hdr⟩

theorem St.call {W : List Addr} {mu' : List (Addr × Obj)} (S : St g L s.heap nm vs mu) (M : Mod W s s') (hW : ∀ a ∈ W, a ∈ mu.map (·.1)) (ha : mu'.map (·.1) = mu.map (·.1)) (hn : ∀ p ∈ mu', (p ∈ mu ∧ p.1 ∉ W) ∨ s'.heap.get? p.1 = some p.2) : St g L s'.heap nm vs mu' := by
  have off : ∀ b, (∀ p ∈ mu, p.1 ≠ b) → b ∉ W := fun b h m => by
    obtain ⟨p, hp, e⟩ := List.mem_map.mp (hW b m)
    exact h p hp e
  obtain ⟨oL, es, ep, hL, r⟩ := S.F.ns
  refine ⟨⟨⟨oL, es, ep, M.keep L oL hL (off L fun p hp => (S.N p hp).2.1), r⟩, fun b o e => M.keep b o (S.F.keep b o e) (off b fun p hp z => ?_), S.F.above⟩, fun p hp => ?_, ha ▸ S.nd⟩
  · have := (S.N p hp).2.2; rw [z, e] at this; cases this
  · have hm : p.1 ∈ mu.map (·.1) := ha ▸ List.mem_map_of_mem hp
    obtain ⟨p₀, hp₀, e₀⟩ := List.mem_map.mp hm
    have P := S.N p₀ hp₀
    rw [e₀] at P
    rcases hn p hp with ⟨h1, h2⟩ | h1
    · exact ⟨M.keep _ _ (S.N p h1).1 h2, P.2⟩
    · exact ⟨h1, P.2⟩
theorem St.call0 (S : St g L s.heap nm vs mu) (M : Mod [] s s') : St g L s'.heap nm vs mu :=
  S.call M (fun _ h => (nomatch h)) rfl fun p hp => .inl ⟨hp, fun h => (nomatch h)⟩
theorem St.call1 {j : Nat} {d : Addr} {o o' : Obj} (S : St g L s.heap nm vs mu) (M : Mod [d] s s') (hj : mu[j]? = some (d, o)) (ho : s'.heap.get? d = some o') : St g L s'.heap nm vs (mu.set j (d, o')) := by
  have hlt : j < mu.length := (List.getElem?_eq_some_iff.mp hj).1
  have hmem : (d, o) ∈ mu := List.mem_of_getElem? hj
  refine S.call M (fun a ha => by rw [List.mem_singleton.mp ha]; exact List.mem_map.mpr ⟨_, hmem, rfl⟩) ?_ fun p hp => ?_
  · rw [List.map_set]
    apply List.ext_getElem?
    intro k
    rw [List.getElem?_set]
    split
    · rename_i hjk; subst hjk; have e2 := (List.getElem?_eq_some_iff.mp hj).2; simp [hlt, e2]
    · rfl
  · obtain ⟨k, hk, e'⟩ := List.getElem_of_mem hp
    rw [List.getElem_set] at e'
    split at e'
    · subst e'; exact .inr ho
    · rename_i hne
      have hk' : k < mu.length := by simpa using hk
      refine .inl ⟨e' ▸ List.getElem_mem hk', fun z => hne ?_⟩
      have z := List.mem_singleton.mp z
      have h1 : (mu.map (·.1))[j]? = some d := by simp [hj]
      have h2 : (mu.map (·.1))[k]? = some d := by
        have : mu[k]? = some p := by rw [List.getElem?_eq_getElem hk', e']
        simp [this, z]
      exact (List.getElem?_inj (by simpa using hlt) S.nd).mp (h1.trans h2.symm)
/-- read an object of the ledger, or of the base -/
theorem St.get {h : Heap} {j : Nat} {d : Addr} {o : Obj} (S : St g L h nm vs mu) (hj : mu[j]? = some (d, o)) : h.get? d = some o := (S.N _ (List.mem_of_getElem? hj)).1
theorem St.old {h : Heap} {d : Addr} {o : Obj} (S : St g L h nm vs mu) (e : g.get? d = some o) : h.get? d = some o := S.F.keep d o e
/-- forget what is no longer needed -/
theorem St.drop {h : Heap} {mu' : List (Addr × Obj)} (S : St g L h nm vs mu) (hs : List.Sublist mu' mu) : St g L h nm vs mu' :=
  ⟨S.F, fun p hp => S.N p (hs.subset hp), S.nd.sublist (hs.map _)⟩

/-- a global of the text; a built-in name -/
structure GVar (sc : Scope) (x : Str) : Prop where
  fn : sc.kind = .function
  kind : sc.names.lookup x = some .globalImplicit
  dbg : (x == ("__debug__" : Str)) = false
theorem ldG {K : Frag} {mg mb : Str → Option Value} {x : Str} {pos : Pos} {v : Value} {Q : Value → Shared → Prop} (S : St g L s.heap nm vs mu) (D : Gd K mg mb g) (V : GVar sc x) (e : nsIn K mainGlobals x = some (some v)) (h : Q v s) :
    wpAny (model prog w) A (eval (.Name x pos) (envOf q sc L a cd)) Q E s :=
  ld_global_at S.F D.g (mg_of D.k D.g e) h V.fn V.kind V.dbg
theorem ldB {K : Frag} {mg mb : Str → Option Value} {x : Str} {pos : Pos} {v : Value} {Q : Value → Shared → Prop} (S : St g L s.heap nm vs mu) (D : Gd K mg mb g) (V : GVar sc x) (e : nsIn K mainGlobals x = some none) (hv : bootBuiltins x = some v) (hn : x ≠ "__name__") (h : Q v s) :
    wpAny (model prog w) A (eval (.Name x pos) (envOf q sc L a cd)) Q E s :=
  ld_builtin_at S.F D.g (mg_none_of D.k D.g e) D.b ((D.blt x hn).trans hv) h V.fn V.kind V.dbg

theorem call_ {W : List Addr} {P : Value → Shared → Prop} {f : Value} {args : List Value} {Q : Value → Shared → Prop} (h : codeAny (model prog w) A (.call f ⟨args, []⟩) (Ret W s P) s) (k : ∀ v s', Mod W s s' → P v s' → Q v s') :
    wpAny (model prog w) A (call f args) Q E s := by
  refine wpAny_call (codeAny_mono h fun r s' hr => ?_)
  match r with
  | .ok (.ret v) => exact k v s' hr.1 hr.2
  | .ok .next => exact hr.elim
  | .ok .brk => exact hr.elim
  | .ok .cont => exact hr.elim
  | .error e => exact hr.elim
theorem callS {W : List Addr} {P : Value → Shared → Prop} {f : Value} {args : List Value} {h : Heap} {gs : Array GenState} {dr : Drawn} {tk : Nat} {os : OsState} {Q : Value → Shared → Prop} (c : codeAny (model prog w) A (.call f ⟨args, []⟩) (Ret W ⟨h, gs, dr, tk, os⟩ P) ⟨h, gs, dr, tk, os⟩)
    (k : ∀ v h' gs' tk', Mod W ⟨h, gs, dr, tk, os⟩ ⟨h', gs', dr, tk', os⟩ → P v ⟨h', gs', dr, tk', os⟩ → Q v ⟨h', gs', dr, tk', os⟩) :
    wpAny (model prog w) A (call f args) Q E ⟨h, gs, dr, tk, os⟩ :=
  call_ c fun v s' M p => by
    obtain ⟨h', gs', dr', tk', os'⟩ := s'
    obtain rfl : os' = os := M.os
    obtain rfl : dr' = dr := M.dr
    exact k v h' gs' tk' M p
end
end Mine
end
section
set_option Elab.async false
set_option maxRecDepth 100000
set_option linter.unusedVariables false
set_option exponentiation.threshold 2000
namespace Mine
open PySem PySem.W PySem.Calls PyProof.Rows

section
variable {prog : Program} {w : World} {A : Around} {E : Value → Shared → Prop} {h : Heap} {gs : Array GenState} {dr : Drawn} {tk : Nat} {os : OsState} {env : Env} {a b : Int} {t u : Tok}
theorem cInt {i : Int} {k pos} {Q : Value → Shared → Prop} (q : ∀ t tk, Q (.int i t) ⟨h, gs, dr, tk, os⟩) : wpAny (model prog w) A (eval (.Constant (.int i) k pos) env) Q E ⟨h, gs, dr, tk, os⟩ := wpAny_Constant_int (q _ _)
theorem cFloat {x : UInt64} {k pos} {Q : Value → Shared → Prop} (q : ∀ t tk, Q (.float x t) ⟨h, gs, dr, tk, os⟩) : wpAny (model prog w) A (eval (.Constant (.float x) k pos) env) Q E ⟨h, gs, dr, tk, os⟩ := wpAny_Constant_float (q _ _)
theorem cStr {x : Str} {k pos} {Q : Value → Shared → Prop} (q : ∀ t tk, Q (.str x t) ⟨h, gs, dr, tk, os⟩) : wpAny (model prog w) A (eval (.Constant (.str x) k pos) env) Q E ⟨h, gs, dr, tk, os⟩ := Calls.Constant_str (q _ _)
theorem add_ {Q : Value → Shared → Prop} (q : ∀ t tk, Q (.int (a + b) t) ⟨h, gs, dr, tk, os⟩) : wpAny (model prog w) A (binaryOp .Add (.int a t) (.int b u)) Q E ⟨h, gs, dr, tk, os⟩ := add_int (q _ _)
theorem sub_ {Q : Value → Shared → Prop} (q : ∀ t tk, Q (.int (a - b) t) ⟨h, gs, dr, tk, os⟩) : wpAny (model prog w) A (binaryOp .Sub (.int a t) (.int b u)) Q E ⟨h, gs, dr, tk, os⟩ := sub_int (q _ _)
theorem mul_ {Q : Value → Shared → Prop} (hm : IntMulOk a b) (q : ∀ t tk, Q (.int (a * b) t) ⟨h, gs, dr, tk, os⟩) : wpAny (model prog w) A (binaryOp .Mult (.int a t) (.int b u)) Q E ⟨h, gs, dr, tk, os⟩ := mul_int (q _ _) hm
theorem mod_ {Q : Value → Shared → Prop} (hb : b ≠ 0) (q : ∀ t tk, Q (.int (a.fmod b) t) ⟨h, gs, dr, tk, os⟩) : wpAny (model prog w) A (binaryOp .Mod (.int a t) (.int b u)) Q E ⟨h, gs, dr, tk, os⟩ := mod_int hb (q _ _)
theorem iadd_ {Q : Value → Shared → Prop} (q : ∀ t tk, Q (.int (a + b) t) ⟨h, gs, dr, tk, os⟩) : wpAny (model prog w) A (inplaceOp .Add (.int a t) (.int b u)) Q E ⟨h, gs, dr, tk, os⟩ := iadd_int (q _ _)
theorem isub_ {Q : Value → Shared → Prop} (q : ∀ t tk, Q (.int (a - b) t) ⟨h, gs, dr, tk, os⟩) : wpAny (model prog w) A (inplaceOp .Sub (.int a t) (.int b u)) Q E ⟨h, gs, dr, tk, os⟩ := isub_int (q _ _)
theorem neg_ {Q : Value → Shared → Prop} (q : ∀ t tk, Q (.int (-a) t) ⟨h, gs, dr, tk, os⟩) : wpAny (model prog w) A (unaryOp .USub (.int a t)) Q E ⟨h, gs, dr, tk, os⟩ := neg_int (q _ _)
/-- a float made behind another one bears a token that is not nought -/
theorem mulF1_ {x : UInt64} {Q : Value → Shared → Prop} (hf : a.natAbs < 2 ^ 1023) (q : ∀ t tk, Q (.float (Float64.mul x (Float64.ofInt a)) t) ⟨h, gs, dr, tk + 1, os⟩) : wpAny (model prog w) A (binaryOp .Mult (.float x t) (.int a u)) Q E ⟨h, gs, dr, tk, os⟩ := mul_fi_fits hf (q _ _)
theorem divF1_ {x : UInt64} {Q : Value → Shared → Prop} (hf : a.natAbs < 2 ^ 1023) (hz : a ≠ 0) (q : ∀ tk', Q (.float (Float64.div x (Float64.ofInt a)) (tk + 1)) ⟨h, gs, dr, tk', os⟩) : wpAny (model prog w) A (binaryOp .Div (.float x t) (.int a u)) Q E ⟨h, gs, dr, tk + 1, os⟩ :=
  AutoFloatOps.truediv_fi_2 (Float64.ofInt_fits hf) (fun x => hz ((Flt.isZero_ofInt a).mp x)) (q _)
end
end Mine
end
section
set_option Elab.async false
set_option maxRecDepth 100000
set_option linter.unusedVariables false
namespace Mine
open PySem PySem.W PySem.Calls PyProof.Rows

/-- an instance's dict with written names -/
noncomputable def ents (P : Params) : List Str → List Tok → List Value → List DictEntry
  | n :: ns, t :: ts, v :: vs => ⟨PyData.keyHash P n, .str n t, v⟩ :: ents P ns ts vs
  | _, _, _ => []
theorem isStr_ne {n x : Str} {t : Tok} (h : x ≠ n) : (Value.str n t).isStr x = false := by
  show (n == x) = false
  simpa using fun e => h e.symm
theorem isStr_eq {n : Str} {t : Tok} : (Value.str n t).isStr n = true := by
  show (n == n) = true
  simp
theorem ents_get (P : Params) : ∀ {nm : List Str} {ts : List Tok} {vs : List Value} {x : Str} {i : Nat} {v : Value}, nm.Nodup → nm[i]? = some x → nm.length = ts.length → vs[i]? = some v → getL x (ents P nm ts vs) = some (some v) := by
  intro nm
  unfold getL
  have key : ∀ {nm : List Str} {ts : List Tok} {vs : List Value} {x : Str} {i : Nat} {v : Value}, nm.Nodup → nm[i]? = some x → nm.length = ts.length → vs[i]? = some v → ∃ e, (ents P nm ts vs).find? (·.key.isStr x) = some e ∧ e.val = v := by
    intro nm
    induction nm with
    | nil => intro ts vs x i v _ h; simp at h
    | cons n ns ih =>
      intro ts vs x i v nd h1 hl h2
      match ts, vs with
      | [], _ => simp at hl
      | _ :: _, [] => simp at h2
      | t :: ts, u :: vs =>
        match i with
        | 0 =>
          simp at h1 h2
          subst h1 h2
          exact ⟨⟨PyData.keyHash P n, .str n t, u⟩, by simp only [ents, List.find?_cons, isStr_eq], rfl⟩
        | i + 1 =>
          have h1' : ns[i]? = some x := by simpa using h1
          have hx : x ≠ n := fun e => (List.nodup_cons.mp nd).1 (e ▸ List.mem_of_getElem? h1')
          obtain ⟨e, he, hv⟩ := ih (List.nodup_cons.mp nd).2 h1' (Nat.succ.inj hl) (by simpa using h2)
          exact ⟨e, by simp only [ents, List.find?_cons, isStr_ne hx]; exact he, hv⟩
  intro ts vs x i v a b c d
  obtain ⟨e, he, hv⟩ := key a b c d
  rw [he]
  simp [hv]
theorem ents_none (P : Params) : ∀ {nm : List Str} {ts : List Tok} {vs : List Value} {x : Str}, x ∉ nm → getL x (ents P nm ts vs) = some none := by
  intro nm ts vs x h
  unfold getL
  have k1 : ∀ {nm : List Str} {ts : List Tok} {vs : List Value}, x ∉ nm → (ents P nm ts vs).find? (·.key.isStr x) = none := by
    intro nm
    induction nm with
    | nil => intros; rfl
    | cons n ns ih =>
      intro ts vs h
      match ts, vs with
      | [], _ => rfl
      | _ :: _, [] => rfl
      | t :: ts, v :: vs =>
        have hx : x ≠ n := fun e => h (e ▸ .head _)
        simp only [ents, List.find?_cons, isStr_ne hx]
        exact ih fun m => h (.tail _ m)
  have k2 : ∀ {nm : List Str} {ts : List Tok} {vs : List Value}, (ents P nm ts vs).any (·.refKey) = false := by
    intro nm
    induction nm with
    | nil => intros; rfl
    | cons n ns ih =>
      intro ts vs
      match ts, vs with
      | [], _ => rfl
      | _ :: _, [] => rfl
      | t :: ts, v :: vs =>
        simp only [ents, List.any_cons, ih, Bool.or_false]
        rfl
  rw [k1 h, k2]
  rfl
theorem ents_put (P : Params) : ∀ {nm : List Str} {ts : List Tok} {vs : List Value} {x : Str} {i : Nat} (hsh : Int) (key v : Value), nm.Nodup → nm[i]? = some x → nm.length = ts.length → nm.length = vs.length → putL x hsh key v (ents P nm ts vs) = ents P nm ts (vs.set i v) := by
  intro nm
  induction nm with
  | nil => intro ts vs x i _ _ v _ h; simp at h
  | cons n ns ih =>
    intro ts vs x i hsh key v nd h1 hl hl'
    match ts, vs with
    | [], _ => simp at hl
    | _ :: _, [] => simp at hl'
    | t :: ts, u :: vs =>
      match i with
      | 0 =>
        simp at h1
        subst h1
        simp only [ents, putL, isStr_eq, if_true, List.set_cons_zero]
      | i + 1 =>
        have h1' : ns[i]? = some x := by simpa using h1
        have hx : x ≠ n := fun e => (List.nodup_cons.mp nd).1 (e ▸ List.mem_of_getElem? h1')
        simp only [ents, putL, isStr_ne hx, Bool.false_eq_true, if_false, List.set_cons_succ]
        rw [ih hsh key v (List.nodup_cons.mp nd).2 h1' (Nat.succ.inj hl) (Nat.succ.inj hl')]
theorem ents_putN (P : Params) {nm : List Str} {ts : List Tok} {vs : List Value} {x : Str} {i : Nat} {n : Nat} {v : Value} (nd : nm.Nodup) (h1 : nm[i]? = some x) (hl : nm.length = ts.length) (h2 : vs[i]? = some v) : putN x (ents P nm ts vs) n = n := by
  have := ents_get P nd h1 hl h2
  unfold putN
  rw [if_pos]
  unfold getL at this
  cases h : (ents P nm ts vs).find? (·.key.isStr x) with
  | none => rw [h] at this; simp at this
  | some e => exact List.any_eq_true.mpr ⟨e, List.mem_of_find?_eq_some h, by simpa using List.find?_some h⟩

theorem ents_len (P : Params) : ∀ {nm : List Str} {ts : List Tok} {vs : List Value}, (ents P nm ts vs).length ≤ nm.length
  | [], _, _ => Nat.le_refl _
  | _ :: _, [], _ => Nat.zero_le _
  | _ :: _, _ :: _, [] => Nat.zero_le _
  | _ :: _, _ :: _, _ :: _ => Nat.succ_le_succ (ents_len P)
/-- an instance of the class C with its dict -/
noncomputable abbrev inst (C d : Addr) : Obj := ⟨.ref C, some d, .plain, #[]⟩
noncomputable abbrev instD (P : Params) (nm : List Str) (ts : List Tok) (vs : List Value) (n : Nat) : Obj := dictOf (ents P nm ts vs) n
theorem instAt {h : Heap} {x C d : Addr} {od : Obj} (h1 : h.get? x = some (inst C d)) (h2 : h.get? d = some od) : InstAt h x (inst C d) C (some od) := ⟨h1, rfl, rfl, h2⟩

/-- the class reads and stores its instances' attributes plainly -/
structure Plain (K : Frag) (C : Addr) : Prop where
  get : findIn K (.ref C) "__getattribute__" = some (some (.builtin "object.__getattribute__"))
  noget : findIn K (.ref C) "__getattr__" = some none
  dict : hasDictIn K C = true
  set : findIn K (.ref C) "__setattr__" = some (some (.builtin "object.__setattr__"))
  over : plainOver K C = true
structure Attr (K : Frag) (C : Addr) (nm : List Str) (x : Str) (i : Nat) : Prop where
  nd : nm.Nodup
  place : nm[i]? = some x
  cls : ∃ a, findIn K (.ref C) x = some a ∧ noGet K a = true
  take : takerIn K C x = some none
structure Meth (K : Frag) (C : Addr) (nm : List Str) (x : Str) (f : Addr) : Prop where
  out : x ∉ nm
  find : findIn K (.ref C) x = some (some (.ref f))
  fn : typeIn K (.ref f) = some (.type "function")

section
variable {prog : Program} {w : World} {A : Around} {E : Value → Shared → Prop} {h g : Heap} {gs : Array GenState} {dr : Drawn} {tk : Nat} {os : OsState} {K : Frag} {mg mb : Str → Option Value} {L a x C d : Addr} {nm an : List Str} {ls : List (Option Value)} {mu : List (Addr × Obj)} {ts : List Tok} {vs : List Value} {n : Nat}

theorem getA {P : Params} {name : Str} {i : Nat} {v : Value} {expr : Bool} {Q : Value → Shared → Prop} (X : K.In h) (p : Plain K C) (t : Attr K C an name i) (h1 : h.get? x = some (inst C d)) (h2 : h.get? d = some (instD P an ts vs n)) (hl : an.length = ts.length)
    (hv : vs[i]? = some v) (hh : handedIn v = true) (q : ∀ tk, Q v ⟨h, gs, dr, tk, os⟩) : wpAny (model prog w) A (getAttr (.ref x) name expr) Q E ⟨h, gs, dr, tk, os⟩ := by
  obtain ⟨at', hf, hn⟩ := t.cls
  exact get_value (s := ⟨h, gs, dr, tk, os⟩) X (instAt h1 h2) p.get (findObj_own p.dict hf hn (by rw [lookIn_dict]; exact ents_get P t.nd t.place hl hv)) hh (q _)
theorem methA {P : Params} {name : Str} {f : Addr} {pl : Sem Bool} {Q : Value × List Value → Shared → Prop} (X : K.In h) (p : Plain K C) (m : Meth K C an name f) (h1 : h.get? x = some (inst C d)) (h2 : h.get? d = some (instD P an ts vs n))
    (q : Q (.ref f, [.ref x]) ⟨h, gs, dr, tk, os⟩) : wpAny (model prog w) A (getMethod (.ref x) name pl) Q E ⟨h, gs, dr, tk, os⟩ :=
  method_fn (s := ⟨h, gs, dr, tk, os⟩) X (instAt h1 h2) p.get p.noget m.find m.fn (by show (lookIn name (instD P an ts vs n)).map _ = _; rw [lookIn_dict, ents_none P m.out]; rfl) q
theorem setA {name : Str} {i j : Nat} {v v₀ : Value} {Q : Unit → Shared → Prop} (S : St g L h nm ls mu) (X : K.In h) (p : Plain K C) (t : Attr K C an name i) (h1 : h.get? x = some (inst C d)) (hj : mu[j]? = some (d, instD w.params an ts vs n)) (hl : an.length = ts.length) (hl' : an.length = vs.length) (hn : an.length ≤ 1000)
    (hv : vs[i]? = some v₀) (q : ∀ h' tk, St g L h' nm ls (mu.set j (d, instD w.params an ts (vs.set i v) n)) → Q () ⟨h', gs, dr, tk, os⟩) : wpAny (model prog w) A (setAttr (.ref x) name v) Q E ⟨h, gs, dr, tk, os⟩ := by
  have hlt : j < mu.length := (List.getElem?_eq_some_iff.mp hj).1
  have he : mu = mu.take j ++ (d, instD w.params an ts vs n) :: mu.drop (j + 1) := by
    have e2 := (List.getElem?_eq_some_iff.mp hj).2
    rw [← e2]
    rw [← List.drop_eq_getElem_cons hlt, List.take_append_drop]
  have hset : mu.set j (d, instD w.params an ts (vs.set i v) n) = mu.take j ++ (d, instD w.params an ts (vs.set i v) n) :: mu.drop (j + 1) := by
    rw [List.set_eq_take_append_cons_drop, if_pos hlt]
  have nd : ((mu.take j ++ (d, instD w.params an ts vs n) :: mu.drop (j + 1)).map (·.1)).Nodup := he ▸ S.nd
  rw [List.map_append, List.map_cons, List.nodup_append] at nd
  obtain ⟨_, nd2, nd3⟩ := nd
  have ne1 : ∀ p ∈ mu.take j, p.1 ≠ d := fun p hp e => nd3 _ (List.mem_map_of_mem hp) _ (.head _) e
  have ne2 : ∀ p ∈ mu.drop (j + 1), p.1 ≠ d := fun p hp e => (List.nodup_cons.mp nd2).1 (List.mem_map.mpr ⟨p, hp, e⟩)
  have N' : News g L h (mu.take j ++ (d, instD w.params an ts vs n) :: mu.drop (j + 1)) := he ▸ S.N
  have D : h.get? d = some (instD w.params an ts vs n) := S.get hj
  have I := instAt h1 D
  have hz : (ents w.params an ts (vs.set i v)).length ≤ 1000 := Nat.le_trans (ents_len _) hn
  refine set_plain (s := ⟨h, gs, dr, tk, os⟩) X I p.set (osa_dict (s := ⟨h, gs, dr, tk + 1, os⟩) S.F N' X I rfl p.over t.take p.dict ?_ ne1 ne2 (by rw [putName_dict, ents_put w.params _ _ v t.nd t.place hl hl', ents_putN w.params t.nd t.place hl hv]) rfl hz fun h' F' N'' => ?_)
  · show (lookIn name (dictOf _ _)).isSome = true
    rw [lookIn_dict, ents_get w.params t.nd t.place hl hv]
    rfl
  · refine q h' _ ⟨F', ?_, ?_⟩
    · rw [hset]; exact N''
    · have : (mu.set j (d, instD w.params an ts (vs.set i v) n)).map (·.1) = mu.map (·.1) := by
        rw [hset]
        conv => rhs; rw [he]
        simp
      rw [this]; exact S.nd
end
end Mine
end
section
set_option Elab.async false
set_option maxRecDepth 100000
set_option linter.unusedVariables false
namespace Mine
open PySem PySem.W PySem.Calls PyProof.Rows

section
variable {prog : Program} {w : World} {A : Around} {E : Value → Shared → Prop} {h g : Heap} {gs : Array GenState} {dr : Drawn} {tk : Nat} {os : OsState} {K : Frag} {mg mb : Str → Option Value} {L a : Addr} {nm : List Str} {ls : List (Option Value)} {mu : List (Addr × Obj)} {q : Str} {sc : Scope} {cd : Value}

/-- from the library's frame and ledger back to St -/
theorem St.re {h' : Heap} (S : St g L h nm ls mu) (F : Fr g L h' (look nm ls)) (N : News g L h' mu) : St g L h' nm ls mu := ⟨F, N, S.nd⟩

/-- name = value -/
theorem asgN {x : Str} {np : Pos} {value : Expr} {pos : Pos} {Q : Flow → Shared → Prop}
    (k : wpAny (model prog w) A (eval value (envOf q sc L a cd)) (fun v s₁ => wpAny (model prog w) A (storeName (envOf q sc L a cd) x v) (fun _ => Q .next) E s₁) E ⟨h, gs, dr, tk, os⟩)
    (hs : swapsWith value (some (.Name x np)) pos.line (envOf q sc L a cd) = pure false := by rfl) : wpAny (model prog w) A (exec (.Assign [.Name x np] value pos) (envOf q sc L a cd)) Q E ⟨h, gs, dr, tk, os⟩ :=
  wpAny_Assign_Name k hs
theorem st_ {x : Str} {i : Nat} {v : Value} {Q : Unit → Shared → Prop} (S : St g L h nm ls mu) (V : Var sc nm x i) (hi : i < ls.length)
    (k : ∀ h' tk, St g L h' nm (ls.set i (some v)) mu → Q () ⟨h', gs, dr, tk, os⟩) : wpAny (model prog w) A (storeName (envOf q sc L a cd) x v) Q E ⟨h, gs, dr, tk, os⟩ :=
  stV (s := ⟨h, gs, dr, tk, os⟩) S V hi fun h' S' => k h' _ S'
theorem ld_ {x : Str} {pos : Pos} {i : Nat} {v : Value} {Q : Value → Shared → Prop} (S : St g L h nm ls mu) (V : Var sc nm x i) (hv : ls[i]? = some (some v)) (k : Q v ⟨h, gs, dr, tk, os⟩) :
    wpAny (model prog w) A (eval (.Name x pos) (envOf q sc L a cd)) Q E ⟨h, gs, dr, tk, os⟩ := ldV (s := ⟨h, gs, dr, tk, os⟩) S V hv k
theorem newT {vs : List Value} {Q : Value → Shared → Prop} (S : St g L h nm ls mu) (hsz : vs.length ≤ 1000) (k : ∀ h', St g L h' nm ls ((h.objs.size, ⟨.type "tuple", none, .seq vs.toArray 0, #[]⟩) :: mu) → Q (.ref h.objs.size) ⟨h', gs, dr, tk, os⟩) :
    wpAny (model prog w) A (newTuple vs) Q E ⟨h, gs, dr, tk, os⟩ :=
  wpAny_newObj_type (k _ (S.push _)) (by show vs.toArray.size ≤ sizeLine; rw [List.size_toArray]; exact Nat.le_trans hsz (by decide))
theorem newL {vs : List Value} {Q : Value → Shared → Prop} (S : St g L h nm ls mu) (hsz : vs.length ≤ 1000) (k : ∀ h', St g L h' nm ls ((h.objs.size, ⟨.type "list", none, .seq vs.toArray 0, #[]⟩) :: mu) → Q (.ref h.objs.size) ⟨h', gs, dr, tk, os⟩) :
    wpAny (model prog w) A (newList vs) Q E ⟨h, gs, dr, tk, os⟩ :=
  wpAny_newObj_type (k _ (S.push _)) (by show vs.toArray.size ≤ sizeLine; rw [List.size_toArray]; exact Nat.le_trans hsz (by decide))
theorem unpk {t : Addr} {items : List Value} {n : Nat} {Q : List Value → Shared → Prop} (S : St g L h nm ls mu) (ht : IsTup h t items.toArray) (hh : A.handled = none) (hn : n = items.length) (k : ∀ h', St g L h' nm ls mu → Q items ⟨h', gs, dr, tk, os⟩) :
    wpAny (model prog w) A (unpackItems (.ref t) n none) Q E ⟨h, gs, dr, tk, os⟩ :=
  unpackItemsN_ (s := ⟨h, gs, dr, tk, os⟩) S.F S.N ht hh (by rw [hn, List.size_toArray]) fun h' F' N' => k h' (S.re F' N')
theorem ord_nil {Q : Unit → Shared → Prop} (k : Q () ⟨h, gs, dr, tk, os⟩) : wpAny (model prog w) A (assignInOrder [] []) Q E ⟨h, gs, dr, tk, os⟩ := wpAny_pure k
theorem ord_cons {t : Value → Sem Unit} {ts : List (Value → Sem Unit)} {x : Value} {xs : List Value} {Q : Unit → Shared → Prop}
    (k : wpAny (model prog w) A (t x) (fun _ s₁ => wpAny (model prog w) A (assignInOrder ts xs) Q E s₁) E ⟨h, gs, dr, tk, os⟩) : wpAny (model prog w) A (assignInOrder (t :: ts) (x :: xs)) Q E ⟨h, gs, dr, tk, os⟩ := by
  rw [assignInOrder]
  exact wpAny_bind (wpAny_holding k)
theorem tup2 {x y : Str} {i j : Nat} {v1 v2 : Value} {Q : Unit → Shared → Prop} (S : St g L h nm ls mu) (hh : A.handled = none) (Vx : Var sc nm x i) (Vy : Var sc nm y j) (hi : i < ls.length) (hj : j < ls.length)
    (k : ∀ h' tk, St g L h' nm ((ls.set j (some v2)).set i (some v1)) mu → Q () ⟨h', gs, dr, tk, os⟩) :
    wpAny (model prog w) A (newTuple [v1, v2]) (fun v s₁ => wpAny (model prog w) A (unpackItems v [x, y].length none) (fun items s₂ => wpAny (model prog w) A (assignInOrder ([x, y].reverse.map fun n => bindName (envOf q sc L a cd) n) items.reverse) Q E s₂) E s₁) E ⟨h, gs, dr, tk, os⟩ := by
  refine newT S (by simp) fun h1 S1 => ?_
  refine unpk (items := [v1, v2]) S1 ⟨_, S1.get (j := 0) rfl, rfl, 0, rfl⟩ hh rfl fun h2 S2 => ?_
  refine ord_cons (wpAny_bindName (st_ S2 Vy hj fun h3 t3 S3 => ?_))
  refine ord_cons (wpAny_bindName (st_ S3 Vx (by simpa using hi) fun h4 t4 S4 => ?_))
  exact ord_nil (k _ _ (S4.drop (List.sublist_cons_self _ _)))
theorem tup3 {x y z : Str} {i j l : Nat} {v1 v2 v3 : Value} {Q : Unit → Shared → Prop} (S : St g L h nm ls mu) (hh : A.handled = none) (Vx : Var sc nm x i) (Vy : Var sc nm y j) (Vz : Var sc nm z l) (hi : i < ls.length) (hj : j < ls.length) (hl : l < ls.length)
    (k : ∀ h' tk, St g L h' nm (((ls.set l (some v3)).set j (some v2)).set i (some v1)) mu → Q () ⟨h', gs, dr, tk, os⟩) :
    wpAny (model prog w) A (newTuple [v1, v2, v3]) (fun v s₁ => wpAny (model prog w) A (unpackItems v [x, y, z].length none) (fun items s₂ => wpAny (model prog w) A (assignInOrder ([x, y, z].reverse.map fun n => bindName (envOf q sc L a cd) n) items.reverse) Q E s₂) E s₁) E ⟨h, gs, dr, tk, os⟩ := by
  refine newT S (by simp) fun h1 S1 => ?_
  refine unpk (items := [v1, v2, v3]) S1 ⟨_, S1.get (j := 0) rfl, rfl, 0, rfl⟩ hh rfl fun h2 S2 => ?_
  refine ord_cons (wpAny_bindName (st_ S2 Vz hl fun h3 t3 S3 => ?_))
  refine ord_cons (wpAny_bindName (st_ S3 Vy (by simpa using hj) fun h4 t4 S4 => ?_))
  refine ord_cons (wpAny_bindName (st_ S4 Vx (by simpa using hi) fun h5 t5 S5 => ?_))
  exact ord_nil (k _ _ (S5.drop (List.sublist_cons_self _ _)))
theorem len_ {l : Addr} {items : List Value} {Q : Value → Shared → Prop} (hl : h.IsList l items.toArray) (hf : items.length ≤ 1000) (k : ∀ t tk, Q (.int items.length t) ⟨h, gs, dr, tk, os⟩) : wpAny (model prog w) A (call (.builtin "len") [.ref l]) Q E ⟨h, gs, dr, tk, os⟩ :=
  len_list (s := ⟨h, gs, dr, tk, os⟩) hl (by rw [List.size_toArray]; lia) (by rw [List.size_toArray]; exact k _ _)
theorem min_ {x y : Int} {t u : Tok} {Q : Value → Shared → Prop} (hh : A.handled = none) (S : St g L h nm ls mu) (k : ∀ h' tk t, St g L h' nm ls mu → Q (.int (min x y) t) ⟨h', gs, dr, tk, os⟩) : wpAny (model prog w) A (call (.builtin "min") [.int x t, .int y u]) Q E ⟨h, gs, dr, tk, os⟩ :=
  min_two_N (s := ⟨h, gs, dr, tk, os⟩) hh S.F S.N fun h' tk F' N' => by
    have e : (if y < x then y else x) = min x y := by lia
    rw [e]; exact k _ _ _ (S.re F' N')
/-- calls -/
theorem cB {id : String} {e : Expr} {rest : List Expr} {pos : Pos} {env : Env} {s : Shared} {Q : Value → Shared → Prop}
    (k : wpAny (model prog w) A (spliced (backTo pos (starEach (e :: rest) env))) (fun vs s₁ => wpAny (model prog w) A (call (.builtin id) vs) Q E s₁) E s)
    (he : starEach (e :: rest) env = (false, eval e env) :: starEach rest env := by rfl) (hplain : (backTo pos (starEach rest env)).any (·.1) = false := by rfl) :
    wpAny (model prog w) A (callWith pos (.builtin id) [] (backTo pos (starEach (e :: rest) env)) []) Q E s := callWith_builtin1 k he hplain
/-- built-in names, globals of the text -/
structure BN (K : Frag) (x : Str) (v : Value) : Prop where
  no : nsIn K mainGlobals x = some none
  boot : bootBuiltins x = some v
  ne : x ≠ "__name__"
theorem lb_ {x : Str} {pos : Pos} {v : Value} {Q : Value → Shared → Prop} (S : St g L h nm ls mu) (D : Gd K mg mb g) (V : GVar sc x) (N : BN K x v) (k : Q v ⟨h, gs, dr, tk, os⟩) :
    wpAny (model prog w) A (eval (.Name x pos) (envOf q sc L a cd)) Q E ⟨h, gs, dr, tk, os⟩ := ldB (s := ⟨h, gs, dr, tk, os⟩) S D V N.no N.boot N.ne k
theorem lg_ {x : Str} {pos : Pos} {v : Value} {Q : Value → Shared → Prop} (S : St g L h nm ls mu) (D : Gd K mg mb g) (V : GVar sc x) (N : nsIn K mainGlobals x = some (some v)) (k : Q v ⟨h, gs, dr, tk, os⟩) :
    wpAny (model prog w) A (eval (.Name x pos) (envOf q sc L a cd)) Q E ⟨h, gs, dr, tk, os⟩ := ldG (s := ⟨h, gs, dr, tk, os⟩) S D V N k
theorem at1 {x attr : Str} {xp pos : Pos} {env : Env} {s : Shared} {Q : Value → Shared → Prop} (k : wpAny (model prog w) A (eval (.Name x xp) env) (fun o s₁ => wpAny (model prog w) A (getAttr o attr true) Q E s₁) E s) : wpAny (model prog w) A (eval (.Attribute (.Name x xp) attr pos) env) Q E s := Attribute_name k
theorem arg_ {e : Expr} {rest : List Expr} {pos : Pos} {env : Env} {s : Shared} {Q : List Value → Shared → Prop}
    (k : wpAny (model prog w) A (eval e env) (fun v s₁ => wpAny (model prog w) A (spliced (backTo pos (starEach rest env))) (fun vs s₂ => Q (v :: vs) s₂) E s₁) E s)
    (he : starEach (e :: rest) env = (false, eval e env) :: starEach rest env := by rfl) : wpAny (model prog w) A (spliced (backTo pos (starEach (e :: rest) env))) Q E s := args_cons k he
theorem arg0 {pos : Pos} {env : Env} {s : Shared} {Q : List Value → Shared → Prop} (k : Q [] s) : wpAny (model prog w) A (spliced (backTo pos (starEach [] env))) Q E s := args_nil k
/-- a call of a def of the text -/
theorem cF {f : Addr} {fd : FuncData} {o : Obj} {e : Expr} {rest : List Expr} {pos : Pos} {env : Env} {s : Shared} {Q : Value → Shared → Prop} (hdat : o.data = .func fd)
    (k : wpAny (model prog w) A (spliced (backTo pos (starEach (e :: rest) env))) (fun vs s₁ => s₁.heap.get? f = some o ∧ wpAny (model prog w) A (call (.ref f) vs) Q E s₁) E s)
    (he : starEach (e :: rest) env = (false, eval e env) :: starEach rest env := by rfl) :
    wpAny (model prog w) A (callWith pos (.ref f) [] (backTo pos (starEach (e :: rest) env)) []) Q E s := callWith_def hdat k he
/-- a call of a method of the text: with arguments, without -/
theorem cM {f : Addr} {fd : FuncData} {o : Obj} {first : List Value} {e : Expr} {rest : List Expr} {pos : Pos} {env : Env} {s : Shared} {Q : Value → Shared → Prop} (hdat : o.data = .func fd)
    (k : wpAny (model prog w) A (spliced (backTo pos (starEach (e :: rest) env))) (fun vs s₁ => s₁.heap.get? f = some o ∧ wpAny (model prog w) A (call (.ref f) (first ++ vs)) Q E s₁) E s)
    (he : starEach (e :: rest) env = (false, eval e env) :: starEach rest env := by rfl) :
    wpAny (model prog w) A (callWith pos (.ref f) first (backTo pos (starEach (e :: rest) env)) []) Q E s := by
  rw [he] at k ⊢
  exact callWith_function (o := o) (fd := fd) (evalArgs_plain (wpAny_mono k (fun vs s₁ h₁ => ⟨⟨h₁.1, hdat⟩, h₁.2⟩) fun _ _ x => x))
theorem cM0 {f : Addr} {fd : FuncData} {o : Obj} {first : List Value} {pos : Pos} {env : Env} {s : Shared} {Q : Value → Shared → Prop} (hdat : o.data = .func fd) (ho : s.heap.get? f = some o)
    (k : wpAny (model prog w) A (call (.ref f) first) Q E s) : wpAny (model prog w) A (callWith pos (.ref f) first (backTo pos (starEach [] env)) []) Q E s :=
  callWith_function (o := o) (fd := fd) (PySem.evalArgs_none ⟨⟨ho, hdat⟩, by simpa using k⟩)
end
theorem Gd.hide {K : Frag} {mg mb : Str → Option Value} {G h : Heap} (D : Gd K mg mb G) (hG : Sub G h) {W : List Addr} (hW : ∀ a ∈ W, G.get? a = none) : Gd K mg mb (hideAll h W) :=
  D.keeps fun b o e => hideAll_get _ (hG b o e) fun m => by have := hW b m; rw [e] at this; cases this
end Mine
end
section
set_option Elab.async false
set_option maxRecDepth 100000
set_option linter.unusedVariables false
namespace Mine
open PySem PySem.W PySem.Calls PyProof.Rows
theorem ents_new (P : Params) {x : Str} (t : Tok) (v : Value) : ∀ {nm : List Str} {ts : List Tok} {vs : List Value}, x ∉ nm → nm.length = ts.length → nm.length = vs.length → putL x (PyData.keyHash P x) (.str x t) v (ents P nm ts vs) = ents P (nm ++ [x]) (ts ++ [t]) (vs ++ [v]) := by
  intro nm
  induction nm with
  | nil =>
    intro ts vs _ h1 h2
    rw [List.length_eq_zero_iff.mp h1.symm, List.length_eq_zero_iff.mp h2.symm]
    rfl
  | cons n ns ih =>
    intro ts vs h h1 h2
    obtain ⟨u, ts, rfl⟩ := List.exists_cons_of_length_eq_add_one h1.symm
    obtain ⟨y, vs, rfl⟩ := List.exists_cons_of_length_eq_add_one h2.symm
    show (if (Value.str n u).isStr x = true then _ else _) = _
    rw [isStr_ne (x := x) (n := n) fun e => h (e ▸ .head _), if_neg (by decide)]
    exact congrArg _ (ih (fun m => h (.tail _ m)) (Nat.succ.inj h1) (Nat.succ.inj h2))
noncomputable def putV (vs : List Value) (i : Nat) (v : Value) : List Value := if i < vs.length then vs.set i v else vs ++ [v]
theorem putV_self {vs : List Value} {i : Nat} {v : Value} (h : i ≤ vs.length) : (putV vs i v)[i]? = some v := by
  unfold putV
  split
  · simp [*]
  · have : i = vs.length := by lia
    subst this; simp
theorem putV_ne {vs : List Value} {i j : Nat} {v u : Value} (h : i ≠ j) (e : vs[j]? = some u) : (putV vs i v)[j]? = some u := by
  unfold putV
  split
  · rw [List.getElem?_set_ne h]; exact e
  · have := (List.getElem?_eq_some_iff.mp e).1
    rw [List.getElem?_append_left this]; exact e
theorem putV_len {vs : List Value} {i : Nat} {v : Value} (h : i ≤ vs.length) : (putV vs i v).length = max vs.length (i + 1) := by
  unfold putV
  split
  · simp; lia
  · simp; lia
/-- an instance's dict that holds the first of the names -/
structure IV (P : Params) (an : List Str) (vs : List Value) (o : Obj) : Prop where
  ex : ∃ ts n, o = instD P (an.take vs.length) ts vs n ∧ ts.length = vs.length
  le : vs.length ≤ an.length
/-- a name's place, class side -/
structure At (K : Frag) (C : Addr) (an : List Str) (x : Str) (i : Nat) : Prop where
  nd : an.Nodup
  place : an[i]? = some x
  cls : ∃ a, findIn K (.ref C) x = some a ∧ noGet K a = true
  take : takerIn K C x = some none
theorem At.attr {K : Frag} {C : Addr} {an : List Str} {x : Str} {i n : Nat} (t : At K C an x i) (h : i < n) : Attr K C (an.take n) x i :=
  ⟨t.nd.sublist (List.take_sublist _ _), by rw [List.getElem?_take_of_lt h]; exact t.place, t.cls, t.take⟩
section
variable {prog : Program} {w : World} {A : Around} {E : Value → Shared → Prop} {h g : Heap} {gs : Array GenState} {dr : Drawn} {tk : Nat} {os : OsState} {K : Frag} {mg mb : Str → Option Value} {L a x C d : Addr} {nm an : List Str} {ls : List (Option Value)} {mu : List (Addr × Obj)} {vs : List Value} {o : Obj}
theorem lt_of_get {α : Type} {l : List α} {i : Nat} {v : α} (e : l[i]? = some v) : i < l.length := (List.getElem?_eq_some_iff.mp e).1
theorem getV {P : Params} {name : Str} {i : Nat} {v : Value} {expr : Bool} {Q : Value → Shared → Prop} (X : K.In h) (p : Plain K C) (t : At K C an name i) (h1 : h.get? x = some (inst C d)) (h2 : h.get? d = some o) (I : IV P an vs o)
    (hv : vs[i]? = some v) (hh : handedIn v = true) (q : ∀ tk, Q v ⟨h, gs, dr, tk, os⟩) : wpAny (model prog w) A (getAttr (.ref x) name expr) Q E ⟨h, gs, dr, tk, os⟩ := by
  obtain ⟨⟨ts, n, rfl, hl⟩, hle⟩ := I
  exact getA X p (t.attr (lt_of_get hv)) h1 h2 (by rw [List.length_take, hl]; lia) hv hh q
theorem methV {P : Params} {name : Str} {f : Addr} {pl : Sem Bool} {Q : Value × List Value → Shared → Prop} (X : K.In h) (p : Plain K C) (m : Meth K C an name f) (h1 : h.get? x = some (inst C d)) (h2 : h.get? d = some o) (I : IV P an vs o)
    (q : Q (.ref f, [.ref x]) ⟨h, gs, dr, tk, os⟩) : wpAny (model prog w) A (getMethod (.ref x) name pl) Q E ⟨h, gs, dr, tk, os⟩ := by
  obtain ⟨⟨ts, n, rfl, hl⟩, hle⟩ := I
  exact methA X p ⟨fun e => m.out (List.mem_of_mem_take e), m.find, m.fn⟩ h1 h2 q
theorem setV {name : Str} {i j : Nat} {v : Value} {Q : Unit → Shared → Prop} (S : St g L h nm ls mu) (X : K.In h) (p : Plain K C) (t : At K C an name i) (h1 : h.get? x = some (inst C d)) (hj : mu[j]? = some (d, o)) (I : IV w.params an vs o) (hn : an.length ≤ 1000)
    (hi : i ≤ vs.length) (q : ∀ h' tk o', IV w.params an (putV vs i v) o' → St g L h' nm ls (mu.set j (d, o')) → Q () ⟨h', gs, dr, tk, os⟩) : wpAny (model prog w) A (setAttr (.ref x) name v) Q E ⟨h, gs, dr, tk, os⟩ := by
  obtain ⟨⟨ts, n, rfl, hl⟩, hle⟩ := I
  have hlt := lt_of_get t.place
  have hl1 : (an.take vs.length).length = ts.length := by rw [List.length_take, hl]; (clear hlt hj hi hn h1; lia)
  have hl2 : (an.take vs.length).length = vs.length := by rw [List.length_take]; (clear hlt hj hi hn h1; lia)
  by_cases hiv : i < vs.length
  · refine setA (i := i) (v := v) (v₀ := vs[i]) S X p (t.attr hiv) h1 hj hl1 hl2 (by (clear hiv hl2 hlt hj hi h1; lia)) (List.getElem?_eq_getElem hiv) fun h' tk S' => q h' tk _ ?_ S'
    unfold putV
    rw [if_pos hiv]
    refine ⟨⟨ts, n, ?_, by simpa using hl⟩, by simpa using hle⟩
    rw [List.length_set]
  · have hie : i = vs.length := by (clear hl2 hlt hj hle hn h1; lia)
    subst hie
    have hout : name ∉ an.take vs.length := by
      intro hm
      obtain ⟨k, hk, e⟩ := List.getElem_of_mem hm
      have hk' : k < vs.length := by rw [List.length_take] at hk; (clear e hk hiv hlt hi hl2 hj hle hn h1; lia)
      rw [List.getElem_take] at e
      have e1 : an[k]? = some name := by rw [List.getElem?_eq_getElem (by lia), e]
      have := (List.getElem?_inj (by lia) t.nd).mp (e1.trans t.place.symm)
      (clear e1 hk' e hiv hlt hi hl2 hj hle hn h1; lia)
    have hjl : j < mu.length := lt_of_get hj
    have he : mu = mu.take j ++ (d, instD w.params (an.take vs.length) ts vs n) :: mu.drop (j + 1) := by
      have e2 := (List.getElem?_eq_some_iff.mp hj).2
      rw [← e2, ← List.drop_eq_getElem_cons hjl, List.take_append_drop]
    have hset : ∀ o', mu.set j (d, o') = mu.take j ++ (d, o') :: mu.drop (j + 1) := fun o' => by
      rw [List.set_eq_take_append_cons_drop, if_pos hjl]
    have nd : ((mu.take j ++ (d, instD w.params (an.take vs.length) ts vs n) :: mu.drop (j + 1)).map (·.1)).Nodup := he ▸ S.nd
    rw [List.map_append, List.map_cons, List.nodup_append] at nd
    obtain ⟨_, nd2, nd3⟩ := nd
    have ne1 : ∀ p ∈ mu.take j, p.1 ≠ d := fun p hp e => nd3 _ (List.mem_map_of_mem hp) _ (.head _) e
    have ne2 : ∀ p ∈ mu.drop (j + 1), p.1 ≠ d := fun p hp e => (List.nodup_cons.mp nd2).1 (List.mem_map.mpr ⟨p, hp, e⟩)
    have N' : News g L h (mu.take j ++ (d, instD w.params (an.take vs.length) ts vs n) :: mu.drop (j + 1)) := he ▸ S.N
    have D : h.get? d = some (instD w.params (an.take vs.length) ts vs n) := S.get hj
    have Ix := instAt h1 D
    have hz : (ents w.params (an.take vs.length ++ [name]) (ts ++ [tk + 1]) (vs ++ [v])).length ≤ 1000 := Nat.le_trans (ents_len _) (by rw [List.length_append, hl2]; simp; (clear D he hjl hout hiv hi hl2 hj hle h1; lia))
    refine set_plain (s := ⟨h, gs, dr, tk, os⟩) X Ix p.set (osa_dict (s := ⟨h, gs, dr, tk + 1, os⟩) S.F N' X Ix rfl p.over t.take p.dict ?_ ne1 ne2 (by rw [putName_dict, ents_new w.params _ v hout hl1 hl2]) rfl hz fun h' F' N'' => ?_)
    · show (lookIn name (dictOf _ _)).isSome = true
      rw [lookIn_dict, ents_none w.params hout]
      rfl
    · refine q h' _ (dictOf (ents w.params (an.take vs.length ++ [name]) (ts ++ [tk + 1]) (vs ++ [v])) (putN name (ents w.params (an.take vs.length) ts vs) n)) ?_ ⟨F', by rw [hset]; exact N'', ?_⟩
      · unfold putV
        rw [if_neg hiv]
        refine ⟨⟨ts ++ [tk + 1], putN name (ents w.params (an.take vs.length) ts vs) n, ?_, by simp [hl]⟩, by simp; (clear hz D he hjl hout hiv hi hl2 hj hle hn h1; lia)⟩
        have : an.take (vs ++ [v]).length = an.take vs.length ++ [name] := by
          rw [List.length_append, List.length_singleton, List.take_succ, t.place]
          rfl
        rw [this]
      · have : (mu.set j (d, dictOf (ents w.params (an.take vs.length ++ [name]) (ts ++ [tk + 1]) (vs ++ [v])) (putN name (ents w.params (an.take vs.length) ts vs) n))).map (·.1) = mu.map (·.1) := by
          rw [hset]
          conv => rhs; rw [he]
          simp
        rw [this]; exact S.nd
end
end Mine
end
section
set_option Elab.async false
set_option maxRecDepth 100000
set_option linter.unusedVariables false
namespace Mine
open PySem PySem.W PySem.Calls PyProof.Rows
noncomputable def fdOf (o : Obj) : FuncData := match o.data with | .func f => f | _ => default
noncomputable section
/-! Match.__new__ -/
noncomputable def sc_mnew : Scope := fnScope (inAt 3 4)
noncomputable def bd_mnew : List Stmt := fnBody (inAt 3 4)
noncomputable def ps_mnew : List Str := [Str.ofString "_cls", Str.ofString "a", Str.ofString "b", Str.ofString "size"]
noncomputable def os_mnew : List Str := []
noncomputable def nm_mnew : List Str := [Str.ofString "_cls", Str.ofString "a", Str.ofString "b", Str.ofString "size"]
theorem nd_mnew : nm_mnew.Nodup := by decide +kernel
theorem kn_mnew : sc_mnew.kind = .function := by kernel_rfl
theorem fn_mnew (P : Params) : Fn (K P) 82 (fdOf (o82 P)) (Str.ofString "Match.__new__") sc_mnew bd_mnew (.ref 81) := ⟨⟨o82 P, by kernel_rfl, by kernel_rfl⟩, by kernel_rfl, by kernel_rfl, by kernel_rfl, by kernel_rfl, fun L => by kernel_rfl, by kernel_rfl, by kernel_rfl, by kernel_rfl, kn_mnew, by decide +kernel⟩
theorem p_mnew : ps_mnew.Nodup ∧ ∀ x ∈ ps_mnew, sc_mnew.names.lookup x = some .local := by decide +kernel
theorem b_mnew (P : Params) (s : Shared) (x0 x1 x2 x3 : Value) : BindsTo s (fdOf (o82 P)) ⟨[x0, x1, x2, x3], []⟩ (ps_mnew.zip [x0, x1, x2, x3]) := BindsTo.of_eq (by kernel_rfl)
theorem v_mnew__cls : Var sc_mnew nm_mnew (Str.ofString "_cls") 0 := ⟨kn_mnew, nd_mnew, by kernel_rfl, rfl, by decide +kernel⟩
theorem v_mnew_a : Var sc_mnew nm_mnew (Str.ofString "a") 1 := ⟨kn_mnew, nd_mnew, by kernel_rfl, rfl, by decide +kernel⟩
theorem v_mnew_b : Var sc_mnew nm_mnew (Str.ofString "b") 2 := ⟨kn_mnew, nd_mnew, by kernel_rfl, rfl, by decide +kernel⟩
theorem v_mnew_size : Var sc_mnew nm_mnew (Str.ofString "size") 3 := ⟨kn_mnew, nd_mnew, by kernel_rfl, rfl, by decide +kernel⟩
theorem g_mnew_tuple : GVar sc_mnew (Str.ofString "tuple") := ⟨kn_mnew, by kernel_rfl, by decide +kernel⟩
/-! Match._make -/
noncomputable def sc_make : Scope := fnScope (inAt 3 5)
noncomputable def bd_make : List Stmt := fnBody (inAt 3 5)
noncomputable def ps_make : List Str := [Str.ofString "cls", Str.ofString "iterable"]
noncomputable def os_make : List Str := [Str.ofString "result"]
noncomputable def nm_make : List Str := [Str.ofString "cls", Str.ofString "iterable", Str.ofString "result"]
theorem nd_make : nm_make.Nodup := by decide +kernel
theorem kn_make : sc_make.kind = .function := by kernel_rfl
theorem fn_make (P : Params) : Fn (K P) 89 (fdOf (o89 P)) (Str.ofString "Match._make") sc_make bd_make (.ref 88) := ⟨⟨o89 P, by kernel_rfl, by kernel_rfl⟩, by kernel_rfl, by kernel_rfl, by kernel_rfl, by kernel_rfl, fun L => by kernel_rfl, by kernel_rfl, by kernel_rfl, by kernel_rfl, kn_make, by decide +kernel⟩
theorem p_make : ps_make.Nodup ∧ ∀ x ∈ ps_make, sc_make.names.lookup x = some .local := by decide +kernel
theorem b_make (P : Params) (s : Shared) (x0 x1 : Value) : BindsTo s (fdOf (o89 P)) ⟨[x0, x1], []⟩ (ps_make.zip [x0, x1]) := BindsTo.of_eq (by kernel_rfl)
theorem v_make_cls : Var sc_make nm_make (Str.ofString "cls") 0 := ⟨kn_make, nd_make, by kernel_rfl, rfl, by decide +kernel⟩
theorem v_make_iterable : Var sc_make nm_make (Str.ofString "iterable") 1 := ⟨kn_make, nd_make, by kernel_rfl, rfl, by decide +kernel⟩
theorem v_make_result : Var sc_make nm_make (Str.ofString "result") 2 := ⟨kn_make, nd_make, by kernel_rfl, rfl, by decide +kernel⟩
theorem g_make_tuple : GVar sc_make (Str.ofString "tuple") := ⟨kn_make, by kernel_rfl, by decide +kernel⟩
theorem g_make_len : GVar sc_make (Str.ofString "len") := ⟨kn_make, by kernel_rfl, by decide +kernel⟩
/-! _calculate_ratio -/
noncomputable def sc_calc : Scope := fnScope (stAt 4)
noncomputable def bd_calc : List Stmt := fnBody (stAt 4)
noncomputable def ps_calc : List Str := [Str.ofString "matches", Str.ofString "length"]
noncomputable def os_calc : List Str := []
noncomputable def nm_calc : List Str := [Str.ofString "matches", Str.ofString "length"]
theorem nd_calc : nm_calc.Nodup := by decide +kernel
theorem kn_calc : sc_calc.kind = .function := by kernel_rfl
theorem fn_calc (P : Params) : Fn (K P) 145 (fdOf (o145 P)) (Str.ofString "_calculate_ratio") sc_calc bd_calc (.ref 144) := ⟨⟨o145 P, by kernel_rfl, by kernel_rfl⟩, by kernel_rfl, by kernel_rfl, by kernel_rfl, by kernel_rfl, fun L => by kernel_rfl, by kernel_rfl, by kernel_rfl, by kernel_rfl, kn_calc, by decide +kernel⟩
theorem p_calc : ps_calc.Nodup ∧ ∀ x ∈ ps_calc, sc_calc.names.lookup x = some .local := by decide +kernel
theorem b_calc (P : Params) (s : Shared) (x0 x1 : Value) : BindsTo s (fdOf (o145 P)) ⟨[x0, x1], []⟩ (ps_calc.zip [x0, x1]) := BindsTo.of_eq (by kernel_rfl)
theorem v_calc_matches : Var sc_calc nm_calc (Str.ofString "matches") 0 := ⟨kn_calc, nd_calc, by kernel_rfl, rfl, by decide +kernel⟩
theorem v_calc_length : Var sc_calc nm_calc (Str.ofString "length") 1 := ⟨kn_calc, nd_calc, by kernel_rfl, rfl, by decide +kernel⟩
/-! SequenceMatcher.__init__ -/
noncomputable def sc_init : Scope := fnScope (inAt 5 1)
noncomputable def bd_init : List Stmt := fnBody (inAt 5 1)
noncomputable def ps_init : List Str := [Str.ofString "self", Str.ofString "isjunk", Str.ofString "a", Str.ofString "b", Str.ofString "autojunk"]
noncomputable def os_init : List Str := []
noncomputable def nm_init : List Str := [Str.ofString "self", Str.ofString "isjunk", Str.ofString "a", Str.ofString "b", Str.ofString "autojunk"]
theorem nd_init : nm_init.Nodup := by decide +kernel
theorem kn_init : sc_init.kind = .function := by kernel_rfl
theorem fn_init (P : Params) : Fn (K P) 160 (fdOf (o160 P)) (Str.ofString "SequenceMatcher.__init__") sc_init bd_init (.ref 159) := ⟨⟨o160 P, by kernel_rfl, by kernel_rfl⟩, by kernel_rfl, by kernel_rfl, by kernel_rfl, by kernel_rfl, fun L => by kernel_rfl, by kernel_rfl, by kernel_rfl, by kernel_rfl, kn_init, by decide +kernel⟩
theorem p_init : ps_init.Nodup ∧ ∀ x ∈ ps_init, sc_init.names.lookup x = some .local := by decide +kernel
theorem b_init (P : Params) (s : Shared) (X : (K P).In s.heap) (x0 x1 x2 x3 x4 : Value) : BindsTo s (fdOf (o160 P)) ⟨[x0, x1, x2, x3, x4], []⟩ (ps_init.zip [x0, x1, x2, x3, x4]) := BindsTo.of_defaults (T := 153) rfl (X 153 (o153 P) (by kernel_rfl)) rfl rfl rfl
theorem v_init_self : Var sc_init nm_init (Str.ofString "self") 0 := ⟨kn_init, nd_init, by kernel_rfl, rfl, by decide +kernel⟩
theorem v_init_isjunk : Var sc_init nm_init (Str.ofString "isjunk") 1 := ⟨kn_init, nd_init, by kernel_rfl, rfl, by decide +kernel⟩
theorem v_init_a : Var sc_init nm_init (Str.ofString "a") 2 := ⟨kn_init, nd_init, by kernel_rfl, rfl, by decide +kernel⟩
theorem v_init_b : Var sc_init nm_init (Str.ofString "b") 3 := ⟨kn_init, nd_init, by kernel_rfl, rfl, by decide +kernel⟩
theorem v_init_autojunk : Var sc_init nm_init (Str.ofString "autojunk") 4 := ⟨kn_init, nd_init, by kernel_rfl, rfl, by decide +kernel⟩
/-! SequenceMatcher.set_seqs -/
noncomputable def sc_sets : Scope := fnScope (inAt 5 2)
noncomputable def bd_sets : List Stmt := fnBody (inAt 5 2)
noncomputable def ps_sets : List Str := [Str.ofString "self", Str.ofString "a", Str.ofString "b"]
noncomputable def os_sets : List Str := []
noncomputable def nm_sets : List Str := [Str.ofString "self", Str.ofString "a", Str.ofString "b"]
theorem nd_sets : nm_sets.Nodup := by decide +kernel
theorem kn_sets : sc_sets.kind = .function := by kernel_rfl
theorem fn_sets (P : Params) : Fn (K P) 167 (fdOf (o167 P)) (Str.ofString "SequenceMatcher.set_seqs") sc_sets bd_sets (.ref 166) := ⟨⟨o167 P, by kernel_rfl, by kernel_rfl⟩, by kernel_rfl, by kernel_rfl, by kernel_rfl, by kernel_rfl, fun L => by kernel_rfl, by kernel_rfl, by kernel_rfl, by kernel_rfl, kn_sets, by decide +kernel⟩
theorem p_sets : ps_sets.Nodup ∧ ∀ x ∈ ps_sets, sc_sets.names.lookup x = some .local := by decide +kernel
theorem b_sets (P : Params) (s : Shared) (x0 x1 x2 : Value) : BindsTo s (fdOf (o167 P)) ⟨[x0, x1, x2], []⟩ (ps_sets.zip [x0, x1, x2]) := BindsTo.of_eq (by kernel_rfl)
theorem v_sets_self : Var sc_sets nm_sets (Str.ofString "self") 0 := ⟨kn_sets, nd_sets, by kernel_rfl, rfl, by decide +kernel⟩
theorem v_sets_a : Var sc_sets nm_sets (Str.ofString "a") 1 := ⟨kn_sets, nd_sets, by kernel_rfl, rfl, by decide +kernel⟩
theorem v_sets_b : Var sc_sets nm_sets (Str.ofString "b") 2 := ⟨kn_sets, nd_sets, by kernel_rfl, rfl, by decide +kernel⟩
/-! SequenceMatcher.set_seq1 -/
noncomputable def sc_set1 : Scope := fnScope (inAt 5 3)
noncomputable def bd_set1 : List Stmt := fnBody (inAt 5 3)
noncomputable def ps_set1 : List Str := [Str.ofString "self", Str.ofString "a"]
noncomputable def os_set1 : List Str := []
noncomputable def nm_set1 : List Str := [Str.ofString "self", Str.ofString "a"]
theorem nd_set1 : nm_set1.Nodup := by decide +kernel
theorem kn_set1 : sc_set1.kind = .function := by kernel_rfl
theorem fn_set1 (P : Params) : Fn (K P) 174 (fdOf (o174 P)) (Str.ofString "SequenceMatcher.set_seq1") sc_set1 bd_set1 (.ref 173) := ⟨⟨o174 P, by kernel_rfl, by kernel_rfl⟩, by kernel_rfl, by kernel_rfl, by kernel_rfl, by kernel_rfl, fun L => by kernel_rfl, by kernel_rfl, by kernel_rfl, by kernel_rfl, kn_set1, by decide +kernel⟩
theorem p_set1 : ps_set1.Nodup ∧ ∀ x ∈ ps_set1, sc_set1.names.lookup x = some .local := by decide +kernel
theorem b_set1 (P : Params) (s : Shared) (x0 x1 : Value) : BindsTo s (fdOf (o174 P)) ⟨[x0, x1], []⟩ (ps_set1.zip [x0, x1]) := BindsTo.of_eq (by kernel_rfl)
theorem v_set1_self : Var sc_set1 nm_set1 (Str.ofString "self") 0 := ⟨kn_set1, nd_set1, by kernel_rfl, rfl, by decide +kernel⟩
theorem v_set1_a : Var sc_set1 nm_set1 (Str.ofString "a") 1 := ⟨kn_set1, nd_set1, by kernel_rfl, rfl, by decide +kernel⟩
/-! SequenceMatcher.set_seq2 -/
noncomputable def sc_set2 : Scope := fnScope (inAt 5 4)
noncomputable def bd_set2 : List Stmt := fnBody (inAt 5 4)
noncomputable def ps_set2 : List Str := [Str.ofString "self", Str.ofString "b"]
noncomputable def os_set2 : List Str := []
noncomputable def nm_set2 : List Str := [Str.ofString "self", Str.ofString "b"]
theorem nd_set2 : nm_set2.Nodup := by decide +kernel
theorem kn_set2 : sc_set2.kind = .function := by kernel_rfl
theorem fn_set2 (P : Params) : Fn (K P) 181 (fdOf (o181 P)) (Str.ofString "SequenceMatcher.set_seq2") sc_set2 bd_set2 (.ref 180) := ⟨⟨o181 P, by kernel_rfl, by kernel_rfl⟩, by kernel_rfl, by kernel_rfl, by kernel_rfl, by kernel_rfl, fun L => by kernel_rfl, by kernel_rfl, by kernel_rfl, by kernel_rfl, kn_set2, by decide +kernel⟩
theorem p_set2 : ps_set2.Nodup ∧ ∀ x ∈ ps_set2, sc_set2.names.lookup x = some .local := by decide +kernel
theorem b_set2 (P : Params) (s : Shared) (x0 x1 : Value) : BindsTo s (fdOf (o181 P)) ⟨[x0, x1], []⟩ (ps_set2.zip [x0, x1]) := BindsTo.of_eq (by kernel_rfl)
theorem v_set2_self : Var sc_set2 nm_set2 (Str.ofString "self") 0 := ⟨kn_set2, nd_set2, by kernel_rfl, rfl, by decide +kernel⟩
theorem v_set2_b : Var sc_set2 nm_set2 (Str.ofString "b") 1 := ⟨kn_set2, nd_set2, by kernel_rfl, rfl, by decide +kernel⟩
/-! SequenceMatcher.__chain_b -/
noncomputable def sc_chain : Scope := fnScope (inAt 5 5)
noncomputable def bd_chain : List Stmt := fnBody (inAt 5 5)
noncomputable def ps_chain : List Str := [Str.ofString "self"]
noncomputable def os_chain : List Str := [Str.ofString "b", Str.ofString "b2j", Str.ofString "i", Str.ofString "elt", Str.ofString "indices", Str.ofString "junk", Str.ofString "isjunk", Str.ofString "popular", Str.ofString "n", Str.ofString "ntest", Str.ofString "idxs"]
noncomputable def nm_chain : List Str := [Str.ofString "self", Str.ofString "b", Str.ofString "b2j", Str.ofString "i", Str.ofString "elt", Str.ofString "indices", Str.ofString "junk", Str.ofString "isjunk", Str.ofString "popular", Str.ofString "n", Str.ofString "ntest", Str.ofString "idxs"]
theorem nd_chain : nm_chain.Nodup := by decide +kernel
theorem kn_chain : sc_chain.kind = .function := by kernel_rfl
theorem fn_chain (P : Params) : Fn (K P) 188 (fdOf (o188 P)) (Str.ofString "SequenceMatcher.__chain_b") sc_chain bd_chain (.ref 187) := ⟨⟨o188 P, by kernel_rfl, by kernel_rfl⟩, by kernel_rfl, by kernel_rfl, by kernel_rfl, by kernel_rfl, fun L => by kernel_rfl, by kernel_rfl, by kernel_rfl, by kernel_rfl, kn_chain, by decide +kernel⟩
theorem p_chain : ps_chain.Nodup ∧ ∀ x ∈ ps_chain, sc_chain.names.lookup x = some .local := by decide +kernel
theorem b_chain (P : Params) (s : Shared) (x0 : Value) : BindsTo s (fdOf (o188 P)) ⟨[x0], []⟩ (ps_chain.zip [x0]) := BindsTo.of_eq (by kernel_rfl)
theorem v_chain_self : Var sc_chain nm_chain (Str.ofString "self") 0 := ⟨kn_chain, nd_chain, by kernel_rfl, rfl, by decide +kernel⟩
theorem v_chain_b : Var sc_chain nm_chain (Str.ofString "b") 1 := ⟨kn_chain, nd_chain, by kernel_rfl, rfl, by decide +kernel⟩
theorem v_chain_b2j : Var sc_chain nm_chain (Str.ofString "b2j") 2 := ⟨kn_chain, nd_chain, by kernel_rfl, rfl, by decide +kernel⟩
theorem v_chain_i : Var sc_chain nm_chain (Str.ofString "i") 3 := ⟨kn_chain, nd_chain, by kernel_rfl, rfl, by decide +kernel⟩
theorem v_chain_elt : Var sc_chain nm_chain (Str.ofString "elt") 4 := ⟨kn_chain, nd_chain, by kernel_rfl, rfl, by decide +kernel⟩
theorem v_chain_indices : Var sc_chain nm_chain (Str.ofString "indices") 5 := ⟨kn_chain, nd_chain, by kernel_rfl, rfl, by decide +kernel⟩
theorem v_chain_junk : Var sc_chain nm_chain (Str.ofString "junk") 6 := ⟨kn_chain, nd_chain, by kernel_rfl, rfl, by decide +kernel⟩
theorem v_chain_isjunk : Var sc_chain nm_chain (Str.ofString "isjunk") 7 := ⟨kn_chain, nd_chain, by kernel_rfl, rfl, by decide +kernel⟩
theorem v_chain_popular : Var sc_chain nm_chain (Str.ofString "popular") 8 := ⟨kn_chain, nd_chain, by kernel_rfl, rfl, by decide +kernel⟩
theorem v_chain_n : Var sc_chain nm_chain (Str.ofString "n") 9 := ⟨kn_chain, nd_chain, by kernel_rfl, rfl, by decide +kernel⟩
theorem g_chain_enumerate : GVar sc_chain (Str.ofString "enumerate") := ⟨kn_chain, by kernel_rfl, by decide +kernel⟩
theorem g_chain_set : GVar sc_chain (Str.ofString "set") := ⟨kn_chain, by kernel_rfl, by decide +kernel⟩
theorem g_chain_len : GVar sc_chain (Str.ofString "len") := ⟨kn_chain, by kernel_rfl, by decide +kernel⟩
/-! SequenceMatcher.find_longest_match -/
noncomputable def sc_flm : Scope := fnScope (inAt 5 6)
noncomputable def bd_flm : List Stmt := fnBody (inAt 5 6)
noncomputable def ps_flm : List Str := [Str.ofString "self", Str.ofString "alo", Str.ofString "ahi", Str.ofString "blo", Str.ofString "bhi"]
noncomputable def os_flm : List Str := [Str.ofString "a", Str.ofString "b", Str.ofString "b2j", Str.ofString "isbjunk", Str.ofString "besti", Str.ofString "bestj", Str.ofString "bestsize", Str.ofString "j2len", Str.ofString "nothing", Str.ofString "i", Str.ofString "j2lenget", Str.ofString "newj2len", Str.ofString "j", Str.ofString "k"]
noncomputable def nm_flm : List Str := [Str.ofString "self", Str.ofString "alo", Str.ofString "ahi", Str.ofString "blo", Str.ofString "bhi", Str.ofString "a", Str.ofString "b", Str.ofString "b2j", Str.ofString "isbjunk", Str.ofString "besti", Str.ofString "bestj", Str.ofString "bestsize", Str.ofString "j2len", Str.ofString "nothing", Str.ofString "i", Str.ofString "j2lenget", Str.ofString "newj2len", Str.ofString "j", Str.ofString "k"]
theorem nd_flm : nm_flm.Nodup := by decide +kernel
theorem kn_flm : sc_flm.kind = .function := by kernel_rfl
theorem fn_flm (P : Params) : Fn (K P) 196 (fdOf (o196 P)) (Str.ofString "SequenceMatcher.find_longest_match") sc_flm bd_flm (.ref 195) := ⟨⟨o196 P, by kernel_rfl, by kernel_rfl⟩, by kernel_rfl, by kernel_rfl, by kernel_rfl, by kernel_rfl, fun L => by kernel_rfl, by kernel_rfl, by kernel_rfl, by kernel_rfl, kn_flm, by decide +kernel⟩
theorem p_flm : ps_flm.Nodup ∧ ∀ x ∈ ps_flm, sc_flm.names.lookup x = some .local := by decide +kernel
theorem b_flm (P : Params) (s : Shared) (X : (K P).In s.heap) (x0 x1 x2 x3 x4 : Value) : BindsTo s (fdOf (o196 P)) ⟨[x0, x1, x2, x3, x4], []⟩ (ps_flm.zip [x0, x1, x2, x3, x4]) := BindsTo.of_defaults (T := 189) rfl (X 189 (o189 P) (by kernel_rfl)) rfl rfl rfl
theorem v_flm_self : Var sc_flm nm_flm (Str.ofString "self") 0 := ⟨kn_flm, nd_flm, by kernel_rfl, rfl, by decide +kernel⟩
theorem v_flm_alo : Var sc_flm nm_flm (Str.ofString "alo") 1 := ⟨kn_flm, nd_flm, by kernel_rfl, rfl, by decide +kernel⟩
theorem v_flm_ahi : Var sc_flm nm_flm (Str.ofString "ahi") 2 := ⟨kn_flm, nd_flm, by kernel_rfl, rfl, by decide +kernel⟩
theorem v_flm_blo : Var sc_flm nm_flm (Str.ofString "blo") 3 := ⟨kn_flm, nd_flm, by kernel_rfl, rfl, by decide +kernel⟩
theorem v_flm_bhi : Var sc_flm nm_flm (Str.ofString "bhi") 4 := ⟨kn_flm, nd_flm, by kernel_rfl, rfl, by decide +kernel⟩
theorem v_flm_a : Var sc_flm nm_flm (Str.ofString "a") 5 := ⟨kn_flm, nd_flm, by kernel_rfl, rfl, by decide +kernel⟩
theorem v_flm_b : Var sc_flm nm_flm (Str.ofString "b") 6 := ⟨kn_flm, nd_flm, by kernel_rfl, rfl, by decide +kernel⟩
theorem v_flm_b2j : Var sc_flm nm_flm (Str.ofString "b2j") 7 := ⟨kn_flm, nd_flm, by kernel_rfl, rfl, by decide +kernel⟩
theorem v_flm_isbjunk : Var sc_flm nm_flm (Str.ofString "isbjunk") 8 := ⟨kn_flm, nd_flm, by kernel_rfl, rfl, by decide +kernel⟩
theorem v_flm_besti : Var sc_flm nm_flm (Str.ofString "besti") 9 := ⟨kn_flm, nd_flm, by kernel_rfl, rfl, by decide +kernel⟩
theorem v_flm_bestj : Var sc_flm nm_flm (Str.ofString "bestj") 10 := ⟨kn_flm, nd_flm, by kernel_rfl, rfl, by decide +kernel⟩
theorem v_flm_bestsize : Var sc_flm nm_flm (Str.ofString "bestsize") 11 := ⟨kn_flm, nd_flm, by kernel_rfl, rfl, by decide +kernel⟩
theorem v_flm_j2len : Var sc_flm nm_flm (Str.ofString "j2len") 12 := ⟨kn_flm, nd_flm, by kernel_rfl, rfl, by decide +kernel⟩
theorem v_flm_nothing : Var sc_flm nm_flm (Str.ofString "nothing") 13 := ⟨kn_flm, nd_flm, by kernel_rfl, rfl, by decide +kernel⟩
theorem v_flm_i : Var sc_flm nm_flm (Str.ofString "i") 14 := ⟨kn_flm, nd_flm, by kernel_rfl, rfl, by decide +kernel⟩
theorem v_flm_j2lenget : Var sc_flm nm_flm (Str.ofString "j2lenget") 15 := ⟨kn_flm, nd_flm, by kernel_rfl, rfl, by decide +kernel⟩
theorem v_flm_newj2len : Var sc_flm nm_flm (Str.ofString "newj2len") 16 := ⟨kn_flm, nd_flm, by kernel_rfl, rfl, by decide +kernel⟩
theorem v_flm_j : Var sc_flm nm_flm (Str.ofString "j") 17 := ⟨kn_flm, nd_flm, by kernel_rfl, rfl, by decide +kernel⟩
theorem v_flm_k : Var sc_flm nm_flm (Str.ofString "k") 18 := ⟨kn_flm, nd_flm, by kernel_rfl, rfl, by decide +kernel⟩
theorem g_flm_range : GVar sc_flm (Str.ofString "range") := ⟨kn_flm, by kernel_rfl, by decide +kernel⟩
theorem g_flm_Match : GVar sc_flm (Str.ofString "Match") := ⟨kn_flm, by kernel_rfl, by decide +kernel⟩
/-! SequenceMatcher.get_matching_blocks -/
noncomputable def sc_gmb : Scope := fnScope (inAt 5 7)
noncomputable def bd_gmb : List Stmt := fnBody (inAt 5 7)
noncomputable def ps_gmb : List Str := [Str.ofString "self"]
noncomputable def os_gmb : List Str := [Str.ofString "la", Str.ofString "lb", Str.ofString "queue", Str.ofString "matching_blocks", Str.ofString "alo", Str.ofString "ahi", Str.ofString "blo", Str.ofString "bhi", Str.ofString "i", Str.ofString "j", Str.ofString "k", Str.ofString "x", Str.ofString "i1", Str.ofString "j1", Str.ofString "k1", Str.ofString "non_adjacent", Str.ofString "i2", Str.ofString "j2", Str.ofString "k2"]
noncomputable def nm_gmb : List Str := [Str.ofString "self", Str.ofString "la", Str.ofString "lb", Str.ofString "queue", Str.ofString "matching_blocks", Str.ofString "alo", Str.ofString "ahi", Str.ofString "blo", Str.ofString "bhi", Str.ofString "i", Str.ofString "j", Str.ofString "k", Str.ofString "x", Str.ofString "i1", Str.ofString "j1", Str.ofString "k1", Str.ofString "non_adjacent", Str.ofString "i2", Str.ofString "j2", Str.ofString "k2"]
theorem nd_gmb : nm_gmb.Nodup := by decide +kernel
theorem kn_gmb : sc_gmb.kind = .function := by kernel_rfl
theorem fn_gmb (P : Params) : Fn (K P) 203 (fdOf (o203 P)) (Str.ofString "SequenceMatcher.get_matching_blocks") sc_gmb bd_gmb (.ref 202) := ⟨⟨o203 P, by kernel_rfl, by kernel_rfl⟩, by kernel_rfl, by kernel_rfl, by kernel_rfl, by kernel_rfl, fun L => by kernel_rfl, by kernel_rfl, by kernel_rfl, by kernel_rfl, kn_gmb, by decide +kernel⟩
theorem p_gmb : ps_gmb.Nodup ∧ ∀ x ∈ ps_gmb, sc_gmb.names.lookup x = some .local := by decide +kernel
theorem b_gmb (P : Params) (s : Shared) (x0 : Value) : BindsTo s (fdOf (o203 P)) ⟨[x0], []⟩ (ps_gmb.zip [x0]) := BindsTo.of_eq (by kernel_rfl)
theorem v_gmb_self : Var sc_gmb nm_gmb (Str.ofString "self") 0 := ⟨kn_gmb, nd_gmb, by kernel_rfl, rfl, by decide +kernel⟩
theorem v_gmb_la : Var sc_gmb nm_gmb (Str.ofString "la") 1 := ⟨kn_gmb, nd_gmb, by kernel_rfl, rfl, by decide +kernel⟩
theorem v_gmb_lb : Var sc_gmb nm_gmb (Str.ofString "lb") 2 := ⟨kn_gmb, nd_gmb, by kernel_rfl, rfl, by decide +kernel⟩
theorem v_gmb_queue : Var sc_gmb nm_gmb (Str.ofString "queue") 3 := ⟨kn_gmb, nd_gmb, by kernel_rfl, rfl, by decide +kernel⟩
theorem v_gmb_matching_blocks : Var sc_gmb nm_gmb (Str.ofString "matching_blocks") 4 := ⟨kn_gmb, nd_gmb, by kernel_rfl, rfl, by decide +kernel⟩
theorem v_gmb_alo : Var sc_gmb nm_gmb (Str.ofString "alo") 5 := ⟨kn_gmb, nd_gmb, by kernel_rfl, rfl, by decide +kernel⟩
theorem v_gmb_ahi : Var sc_gmb nm_gmb (Str.ofString "ahi") 6 := ⟨kn_gmb, nd_gmb, by kernel_rfl, rfl, by decide +kernel⟩
theorem v_gmb_blo : Var sc_gmb nm_gmb (Str.ofString "blo") 7 := ⟨kn_gmb, nd_gmb, by kernel_rfl, rfl, by decide +kernel⟩
theorem v_gmb_bhi : Var sc_gmb nm_gmb (Str.ofString "bhi") 8 := ⟨kn_gmb, nd_gmb, by kernel_rfl, rfl, by decide +kernel⟩
theorem v_gmb_i : Var sc_gmb nm_gmb (Str.ofString "i") 9 := ⟨kn_gmb, nd_gmb, by kernel_rfl, rfl, by decide +kernel⟩
theorem v_gmb_j : Var sc_gmb nm_gmb (Str.ofString "j") 10 := ⟨kn_gmb, nd_gmb, by kernel_rfl, rfl, by decide +kernel⟩
theorem v_gmb_k : Var sc_gmb nm_gmb (Str.ofString "k") 11 := ⟨kn_gmb, nd_gmb, by kernel_rfl, rfl, by decide +kernel⟩
theorem v_gmb_x : Var sc_gmb nm_gmb (Str.ofString "x") 12 := ⟨kn_gmb, nd_gmb, by kernel_rfl, rfl, by decide +kernel⟩
theorem v_gmb_i1 : Var sc_gmb nm_gmb (Str.ofString "i1") 13 := ⟨kn_gmb, nd_gmb, by kernel_rfl, rfl, by decide +kernel⟩
theorem v_gmb_j1 : Var sc_gmb nm_gmb (Str.ofString "j1") 14 := ⟨kn_gmb, nd_gmb, by kernel_rfl, rfl, by decide +kernel⟩
theorem v_gmb_k1 : Var sc_gmb nm_gmb (Str.ofString "k1") 15 := ⟨kn_gmb, nd_gmb, by kernel_rfl, rfl, by decide +kernel⟩
theorem v_gmb_non_adjacent : Var sc_gmb nm_gmb (Str.ofString "non_adjacent") 16 := ⟨kn_gmb, nd_gmb, by kernel_rfl, rfl, by decide +kernel⟩
theorem v_gmb_i2 : Var sc_gmb nm_gmb (Str.ofString "i2") 17 := ⟨kn_gmb, nd_gmb, by kernel_rfl, rfl, by decide +kernel⟩
theorem v_gmb_j2 : Var sc_gmb nm_gmb (Str.ofString "j2") 18 := ⟨kn_gmb, nd_gmb, by kernel_rfl, rfl, by decide +kernel⟩
theorem v_gmb_k2 : Var sc_gmb nm_gmb (Str.ofString "k2") 19 := ⟨kn_gmb, nd_gmb, by kernel_rfl, rfl, by decide +kernel⟩
theorem g_gmb_len : GVar sc_gmb (Str.ofString "len") := ⟨kn_gmb, by kernel_rfl, by decide +kernel⟩
theorem g_gmb_list : GVar sc_gmb (Str.ofString "list") := ⟨kn_gmb, by kernel_rfl, by decide +kernel⟩
theorem g_gmb_map : GVar sc_gmb (Str.ofString "map") := ⟨kn_gmb, by kernel_rfl, by decide +kernel⟩
theorem g_gmb_Match : GVar sc_gmb (Str.ofString "Match") := ⟨kn_gmb, by kernel_rfl, by decide +kernel⟩
/-! SequenceMatcher.ratio -/
noncomputable def sc_ratio : Scope := fnScope (inAt 5 10)
noncomputable def bd_ratio : List Stmt := fnBody (inAt 5 10)
noncomputable def ps_ratio : List Str := [Str.ofString "self"]
noncomputable def os_ratio : List Str := [Str.ofString "matches"]
noncomputable def nm_ratio : List Str := [Str.ofString "self", Str.ofString "matches"]
theorem nd_ratio : nm_ratio.Nodup := by decide +kernel
theorem kn_ratio : sc_ratio.kind = .function := by kernel_rfl
theorem fn_ratio (P : Params) : Fn (K P) 225 (fdOf (o225 P)) (Str.ofString "SequenceMatcher.ratio") sc_ratio bd_ratio (.ref 224) := ⟨⟨o225 P, by kernel_rfl, by kernel_rfl⟩, by kernel_rfl, by kernel_rfl, by kernel_rfl, by kernel_rfl, fun L => by kernel_rfl, by kernel_rfl, by kernel_rfl, by kernel_rfl, kn_ratio, by decide +kernel⟩
theorem p_ratio : ps_ratio.Nodup ∧ ∀ x ∈ ps_ratio, sc_ratio.names.lookup x = some .local := by decide +kernel
theorem b_ratio (P : Params) (s : Shared) (x0 : Value) : BindsTo s (fdOf (o225 P)) ⟨[x0], []⟩ (ps_ratio.zip [x0]) := BindsTo.of_eq (by kernel_rfl)
theorem v_ratio_self : Var sc_ratio nm_ratio (Str.ofString "self") 0 := ⟨kn_ratio, nd_ratio, by kernel_rfl, rfl, by decide +kernel⟩
theorem v_ratio_matches : Var sc_ratio nm_ratio (Str.ofString "matches") 1 := ⟨kn_ratio, nd_ratio, by kernel_rfl, rfl, by decide +kernel⟩
theorem g_ratio_sum : GVar sc_ratio (Str.ofString "sum") := ⟨kn_ratio, by kernel_rfl, by decide +kernel⟩
theorem g_ratio__calculate_ratio : GVar sc_ratio (Str.ofString "_calculate_ratio") := ⟨kn_ratio, by kernel_rfl, by decide +kernel⟩
theorem g_ratio_len : GVar sc_ratio (Str.ofString "len") := ⟨kn_ratio, by kernel_rfl, by decide +kernel⟩
/-! SequenceMatcher.quick_ratio -/
noncomputable def sc_quick : Scope := fnScope (inAt 5 11)
noncomputable def bd_quick : List Stmt := fnBody (inAt 5 11)
noncomputable def ps_quick : List Str := [Str.ofString "self"]
noncomputable def os_quick : List Str := [Str.ofString "fullbcount", Str.ofString "elt", Str.ofString "avail", Str.ofString "availhas", Str.ofString "matches", Str.ofString "numb"]
noncomputable def nm_quick : List Str := [Str.ofString "self", Str.ofString "fullbcount", Str.ofString "elt", Str.ofString "avail", Str.ofString "availhas", Str.ofString "matches", Str.ofString "numb"]
theorem nd_quick : nm_quick.Nodup := by decide +kernel
theorem kn_quick : sc_quick.kind = .function := by kernel_rfl
theorem fn_quick (P : Params) : Fn (K P) 232 (fdOf (o232 P)) (Str.ofString "SequenceMatcher.quick_ratio") sc_quick bd_quick (.ref 231) := ⟨⟨o232 P, by kernel_rfl, by kernel_rfl⟩, by kernel_rfl, by kernel_rfl, by kernel_rfl, by kernel_rfl, fun L => by kernel_rfl, by kernel_rfl, by kernel_rfl, by kernel_rfl, kn_quick, by decide +kernel⟩
theorem p_quick : ps_quick.Nodup ∧ ∀ x ∈ ps_quick, sc_quick.names.lookup x = some .local := by decide +kernel
theorem b_quick (P : Params) (s : Shared) (x0 : Value) : BindsTo s (fdOf (o232 P)) ⟨[x0], []⟩ (ps_quick.zip [x0]) := BindsTo.of_eq (by kernel_rfl)
theorem v_quick_self : Var sc_quick nm_quick (Str.ofString "self") 0 := ⟨kn_quick, nd_quick, by kernel_rfl, rfl, by decide +kernel⟩
theorem v_quick_fullbcount : Var sc_quick nm_quick (Str.ofString "fullbcount") 1 := ⟨kn_quick, nd_quick, by kernel_rfl, rfl, by decide +kernel⟩
theorem v_quick_elt : Var sc_quick nm_quick (Str.ofString "elt") 2 := ⟨kn_quick, nd_quick, by kernel_rfl, rfl, by decide +kernel⟩
theorem v_quick_avail : Var sc_quick nm_quick (Str.ofString "avail") 3 := ⟨kn_quick, nd_quick, by kernel_rfl, rfl, by decide +kernel⟩
theorem v_quick_availhas : Var sc_quick nm_quick (Str.ofString "availhas") 4 := ⟨kn_quick, nd_quick, by kernel_rfl, rfl, by decide +kernel⟩
theorem v_quick_matches : Var sc_quick nm_quick (Str.ofString "matches") 5 := ⟨kn_quick, nd_quick, by kernel_rfl, rfl, by decide +kernel⟩
theorem v_quick_numb : Var sc_quick nm_quick (Str.ofString "numb") 6 := ⟨kn_quick, nd_quick, by kernel_rfl, rfl, by decide +kernel⟩
theorem g_quick__calculate_ratio : GVar sc_quick (Str.ofString "_calculate_ratio") := ⟨kn_quick, by kernel_rfl, by decide +kernel⟩
theorem g_quick_len : GVar sc_quick (Str.ofString "len") := ⟨kn_quick, by kernel_rfl, by decide +kernel⟩
/-! SequenceMatcher.real_quick_ratio -/
noncomputable def sc_rquick : Scope := fnScope (inAt 5 12)
noncomputable def bd_rquick : List Stmt := fnBody (inAt 5 12)
noncomputable def ps_rquick : List Str := [Str.ofString "self"]
noncomputable def os_rquick : List Str := [Str.ofString "la", Str.ofString "lb"]
noncomputable def nm_rquick : List Str := [Str.ofString "self", Str.ofString "la", Str.ofString "lb"]
theorem nd_rquick : nm_rquick.Nodup := by decide +kernel
theorem kn_rquick : sc_rquick.kind = .function := by kernel_rfl
theorem fn_rquick (P : Params) : Fn (K P) 239 (fdOf (o239 P)) (Str.ofString "SequenceMatcher.real_quick_ratio") sc_rquick bd_rquick (.ref 238) := ⟨⟨o239 P, by kernel_rfl, by kernel_rfl⟩, by kernel_rfl, by kernel_rfl, by kernel_rfl, by kernel_rfl, fun L => by kernel_rfl, by kernel_rfl, by kernel_rfl, by kernel_rfl, kn_rquick, by decide +kernel⟩
theorem p_rquick : ps_rquick.Nodup ∧ ∀ x ∈ ps_rquick, sc_rquick.names.lookup x = some .local := by decide +kernel
theorem b_rquick (P : Params) (s : Shared) (x0 : Value) : BindsTo s (fdOf (o239 P)) ⟨[x0], []⟩ (ps_rquick.zip [x0]) := BindsTo.of_eq (by kernel_rfl)
theorem v_rquick_self : Var sc_rquick nm_rquick (Str.ofString "self") 0 := ⟨kn_rquick, nd_rquick, by kernel_rfl, rfl, by decide +kernel⟩
theorem v_rquick_la : Var sc_rquick nm_rquick (Str.ofString "la") 1 := ⟨kn_rquick, nd_rquick, by kernel_rfl, rfl, by decide +kernel⟩
theorem v_rquick_lb : Var sc_rquick nm_rquick (Str.ofString "lb") 2 := ⟨kn_rquick, nd_rquick, by kernel_rfl, rfl, by decide +kernel⟩
theorem g_rquick_len : GVar sc_rquick (Str.ofString "len") := ⟨kn_rquick, by kernel_rfl, by decide +kernel⟩
theorem g_rquick__calculate_ratio : GVar sc_rquick (Str.ofString "_calculate_ratio") := ⟨kn_rquick, by kernel_rfl, by decide +kernel⟩
theorem g_rquick_min : GVar sc_rquick (Str.ofString "min") := ⟨kn_rquick, by kernel_rfl, by decide +kernel⟩
end
end Mine
end
section
set_option Elab.async false
set_option maxRecDepth 100000
set_option linter.unusedVariables false
namespace Mine
open PySem PySem.W PySem.Calls PyProof.Rows
/-! the matcher: the class at 242, its instances' names in order -/
noncomputable abbrev CM : Addr := 242
noncomputable def an : List Str := [Str.ofString "isjunk", Str.ofString "a", Str.ofString "b", Str.ofString "autojunk", Str.ofString "matching_blocks", Str.ofString "opcodes", Str.ofString "fullbcount", Str.ofString "b2j", Str.ofString "bjunk", Str.ofString "bpopular"]
theorem an_nd : an.Nodup := by decide +kernel
noncomputable section
theorem pl (P : Params) : Plain (K P) CM := ⟨by kernel_rfl, by kernel_rfl, by kernel_rfl, by kernel_rfl, by kernel_rfl⟩
theorem at_isjunk (P : Params) : Attr (K P) CM an (Str.ofString "isjunk") 0 := ⟨an_nd, rfl, ⟨none, by kernel_rfl, by kernel_rfl⟩, by kernel_rfl⟩
theorem at_a (P : Params) : Attr (K P) CM an (Str.ofString "a") 1 := ⟨an_nd, rfl, ⟨none, by kernel_rfl, by kernel_rfl⟩, by kernel_rfl⟩
theorem at_b (P : Params) : Attr (K P) CM an (Str.ofString "b") 2 := ⟨an_nd, rfl, ⟨none, by kernel_rfl, by kernel_rfl⟩, by kernel_rfl⟩
theorem at_autojunk (P : Params) : Attr (K P) CM an (Str.ofString "autojunk") 3 := ⟨an_nd, rfl, ⟨none, by kernel_rfl, by kernel_rfl⟩, by kernel_rfl⟩
theorem at_mb (P : Params) : Attr (K P) CM an (Str.ofString "matching_blocks") 4 := ⟨an_nd, rfl, ⟨none, by kernel_rfl, by kernel_rfl⟩, by kernel_rfl⟩
theorem at_opc (P : Params) : Attr (K P) CM an (Str.ofString "opcodes") 5 := ⟨an_nd, rfl, ⟨none, by kernel_rfl, by kernel_rfl⟩, by kernel_rfl⟩
theorem at_fb (P : Params) : Attr (K P) CM an (Str.ofString "fullbcount") 6 := ⟨an_nd, rfl, ⟨none, by kernel_rfl, by kernel_rfl⟩, by kernel_rfl⟩
theorem at_b2j (P : Params) : Attr (K P) CM an (Str.ofString "b2j") 7 := ⟨an_nd, rfl, ⟨none, by kernel_rfl, by kernel_rfl⟩, by kernel_rfl⟩
theorem at_bjunk (P : Params) : Attr (K P) CM an (Str.ofString "bjunk") 8 := ⟨an_nd, rfl, ⟨none, by kernel_rfl, by kernel_rfl⟩, by kernel_rfl⟩
theorem at_bpop (P : Params) : Attr (K P) CM an (Str.ofString "bpopular") 9 := ⟨an_nd, rfl, ⟨none, by kernel_rfl, by kernel_rfl⟩, by kernel_rfl⟩
theorem bn_len (P : Params) : BN (K P) (Str.ofString "len") (.builtin "len") := ⟨by kernel_rfl, by kernel_rfl, by decide +kernel⟩
theorem bn_min (P : Params) : BN (K P) (Str.ofString "min") (.builtin "min") := ⟨by kernel_rfl, by kernel_rfl, by decide +kernel⟩
theorem bn_sum (P : Params) : BN (K P) (Str.ofString "sum") (.builtin "sum") := ⟨by kernel_rfl, by kernel_rfl, by decide +kernel⟩
theorem bn_enumerate (P : Params) : BN (K P) (Str.ofString "enumerate") (.type "enumerate") := ⟨by kernel_rfl, by kernel_rfl, by decide +kernel⟩
theorem bn_set (P : Params) : BN (K P) (Str.ofString "set") (.type "set") := ⟨by kernel_rfl, by kernel_rfl, by decide +kernel⟩
theorem bn_range (P : Params) : BN (K P) (Str.ofString "range") (.type "range") := ⟨by kernel_rfl, by kernel_rfl, by decide +kernel⟩
theorem bn_list (P : Params) : BN (K P) (Str.ofString "list") (.type "list") := ⟨by kernel_rfl, by kernel_rfl, by decide +kernel⟩
theorem bn_map (P : Params) : BN (K P) (Str.ofString "map") (.type "map") := ⟨by kernel_rfl, by kernel_rfl, by decide +kernel⟩
theorem bn_tuple (P : Params) : BN (K P) (Str.ofString "tuple") (.type "tuple") := ⟨by kernel_rfl, by kernel_rfl, by decide +kernel⟩
theorem gn_calc (P : Params) : nsIn (K P) mainGlobals (Str.ofString "_calculate_ratio") = some (some (.ref 145)) := by kernel_rfl
theorem gn_Match (P : Params) : nsIn (K P) mainGlobals (Str.ofString "Match") = some (some (.ref 135)) := by kernel_rfl
end
end Mine
end
section
set_option Elab.async false
set_option maxRecDepth 100000
set_option linter.unusedVariables false
namespace Mine
open PySem PySem.W PySem.Calls PyProof.Rows
section
variable {w : World} {A : Around} {E : Value → Shared → Prop} {s s' : Shared} {mg mb : Str → Option Value}
noncomputable def ratioF (a b : Int) : UInt64 := Float64.div (Float64.mul 4611686018427387904 (Float64.ofInt a)) (Float64.ofInt b)
theorem calc_spec {a b : Int} {t u : Tok} (D : Gd (K w.params) mg mb s.heap) (hd : A.depth < recursionLimit) (hb : b ≠ 0) (ha : a.natAbs < 2 ^ 64) (hb' : b.natAbs < 2 ^ 64) :
    codeAny (model prog w) A (.call (.ref 145) ⟨[.int a t, .int b u], []⟩) (Ret [] s fun v s' => ∃ k, v = .float (ratioF a b) (k + 1)) s := by
  refine enterP ps_calc os_calc [.int a t, .int b u] [] (fn_calc _) D hd (b_calc _ _ _ _) rfl p_calc (nm := nm_calc) rfl (fun _ h => nomatch h) .nil ?_
  intro Po hPo L h₁ tk S hL
  refine wpAny_execs_cons (wpAny_If (isTrue_plain (ld_ S v_calc_length rfl (truthy_int ?_))))
  rw [if_pos (by simpa using hb)]
  refine wpAny_execs_cons (wpAny_Return_some (wpAny_BinOp (wpAny_BinOp (cFloat fun k1 t1 => ?_))))
  refine ld_ S v_calc_matches rfl (mulF1_ (by (clear hL hb' hb hd; omega)) fun k2 t2 => ?_)
  refine ld_ S v_calc_length rfl (divF1_ (by (clear hL ha hb hd; omega)) hb fun t3 => ?_)
  exact hPo _ _ (S.mod (t := 0) hL id rfl rfl rfl) ⟨_, rfl⟩
theorem rquick_spec {m d la lb : Addr} {ts : List Tok} {vs : List Value} {n : Nat} {xs ys : List Value} (D : Gd (K w.params) mg mb s.heap) (hA : A.handled = none) (hdep : A.depth + 2 < recursionLimit)
    (hm : s.heap.get? m = some (inst CM d)) (hd : s.heap.get? d = some (instD w.params an ts vs n)) (hts : an.length = ts.length) (ha : vs[1]? = some (.ref la)) (hb : vs[2]? = some (.ref lb))
    (hla : s.heap.IsList la xs.toArray) (hlb : s.heap.IsList lb ys.toArray) (hx : xs.length ≤ 500) (hy : ys.length ≤ 500) (hz : xs.length + ys.length ≠ 0) :
    codeAny (model prog w) A (.call (.ref 239) ⟨[.ref m], []⟩) (Ret [] s fun v s' => ∃ k, v = .float (ratioF (min xs.length ys.length : Int) (xs.length + ys.length)) (k + 1)) s := by
  refine enterP ps_rquick os_rquick [.ref m] [] (fn_rquick _) D (by lia) (b_rquick _ _ _) rfl p_rquick (nm := nm_rquick) rfl (fun _ h => nomatch h) .nil ?_
  intro Po hPo L h₁ tk S hL
  refine wpAny_execs_cons (wpAny_Expr (cStr fun k1 t1 => ?_))
  have X : (K w.params).In h₁ := D.k.keeps S.F.keep
  refine wpAny_execs_cons (Assign_Tuple_swapped (names := [Str.ofString "la", Str.ofString "lb"]) (Tuple_ (arg_ (Call_ (lb_ S D g_rquick_len (bn_len _) (cB (arg_ (at1 (ld_ S v_rquick_self rfl ?_)))))))) (hw := by kernel_rfl))
  refine getA X (pl _) (at_a _) (S.old hm) (S.old hd) hts ha rfl fun t2 => ?_
  refine arg0 (len_ (hla.at fun o e => S.old e) (by (clear hL hz hy hb ha hts hd hm hdep hA; lia)) fun k3 t3 => ?_)
  refine arg_ (Call_ (lb_ S D g_rquick_len (bn_len _) (cB (arg_ (at1 (ld_ S v_rquick_self rfl ?_))))))
  refine getA X (pl _) (at_b _) (S.old hm) (S.old hd) hts hb rfl fun t4 => ?_
  refine arg0 (len_ (hlb.at fun o e => S.old e) (by (clear hL hz hx hb ha hts hd hm hdep hA; lia)) fun k5 t5 => ?_)
  refine arg0 (tup2 S (by exact hA) v_rquick_la v_rquick_lb (Nat.le_of_ble_eq_true rfl) (Nat.le_of_ble_eq_true rfl) fun h2 t6 S2 => ?_)
  refine wpAny_execs_cons (wpAny_Return_some (Call_ (lg_ S2 D g_rquick__calculate_ratio (gn_calc _) (cF (o := o145 w.params) (fd := fdOf (o145 w.params)) rfl ?_))))
  refine arg_ (Call_ (lb_ S2 D g_rquick_min (bn_min _) (cB (arg_ (ld_ S2 v_rquick_la rfl (arg_ (ld_ S2 v_rquick_lb rfl (arg0 ?_))))))))
  refine min_ (by exact hA) S2 fun h3 t7 k7 S3 => ?_
  refine arg_ (wpAny_BinOp (ld_ S3 v_rquick_la rfl (ld_ S3 v_rquick_lb rfl (add_ fun k8 t8 => ?_))))
  refine arg0 ⟨S3.old (D.k 145 _ (by kernel_rfl)), ?_⟩
  refine call_ (calc_spec (D.keeps S3.F.keep) (by show A.depth + 1 < _; lia) (by (clear hL hy hx hb ha hts hd hm hdep hA; lia)) (by (clear hL hz hb ha hts hd hm hdep hA; omega)) (by (clear hL hz hb ha hts hd hm hdep hA; omega))) fun v s' M hv => ?_
  obtain ⟨k9, rfl⟩ := hv
  exact hPo _ _ ((S3.call0 M).mod (t := 0) hL M.gens rfl M.os rfl M.dr) ⟨_, rfl⟩
end
end Mine
end
section
set_option Elab.async false
set_option maxRecDepth 100000
set_option linter.unusedVariables false
namespace Mine
open PySem PySem.W PySem.Calls PyProof.Rows

section
variable {prog : Program} {w : World} {A : Around} {h g : Heap} {gs : Array GenState} {dr : Drawn} {tk : Nat} {os : OsState} {L a : Addr} {nm : List Str} {ls : List (Option Value)} {mu own : List (Addr × Obj)} {q : Str} {sc : Scope} {cd : Value}

/-- objects at some addresses of the ledger may have turned; all else is kept -/
theorem St.turn {h' : Heap} {wr : List Addr} (S : St g L h nm ls (mu ++ own)) (hwr : ∀ b ∈ wr, b ∈ own.map (·.1)) (keep : ∀ b o, b ∉ wr → h.get? b = some o → h'.get? b = some o) (live : ∀ b ∈ wr, ∃ o, h'.get? b = some o) :
    ∃ own', own'.map (·.1) = own.map (·.1) ∧ St g L h' nm ls (mu ++ own') := by
  have hex : ∀ p ∈ own, ∃ o, h'.get? p.1 = some o := fun p hp => by
    by_cases hb : p.1 ∈ wr
    · exact live _ hb
    · exact ⟨_, keep _ _ hb (S.N p (List.mem_append_right _ hp)).1⟩
  have key : ∀ l : List (Addr × Obj), (∀ p ∈ l, ∃ o, h'.get? p.1 = some o) → ∃ l' : List (Addr × Obj), l'.map (·.1) = l.map (·.1) ∧ ∀ p ∈ l', h'.get? p.1 = some p.2 := by
    intro l
    induction l with
    | nil => exact fun _ => ⟨[], rfl, fun _ h => nomatch h⟩
    | cons p l ih =>
      intro hl
      obtain ⟨o, ho⟩ := hl p (.head _)
      obtain ⟨l', e, hl'⟩ := ih fun q hq => hl q (.tail _ hq)
      refine ⟨(p.1, o) :: l', by simp [e], fun q hq => ?_⟩
      rcases List.mem_cons.mp hq with rfl | hq
      · exact ho
      · exact hl' q hq
  obtain ⟨own', e, ho'⟩ := key own hex
  have nd := S.nd
  have off : ∀ b, (∀ p ∈ own, p.1 ≠ b) → b ∉ wr := fun b hh m => by
    obtain ⟨p, hp, e⟩ := List.mem_map.mp (hwr b m)
    exact hh p hp e
  obtain ⟨oL, es, ep, hL, r⟩ := S.F.ns
  refine ⟨own', e, ⟨⟨oL, es, ep, keep L oL (off L fun p hp => (S.N p (List.mem_append_right _ hp)).2.1) hL, r⟩, fun b o hb => keep b o (off b fun p hp z => ?_) (S.F.keep b o hb), S.F.above⟩, fun p hp => ?_, ?_⟩
  · have := (S.N p (List.mem_append_right _ hp)).2.2; rw [z, hb] at this; cases this
  · rcases List.mem_append.mp hp with hp | hp
    · have P := S.N p (List.mem_append_left _ hp)
      refine ⟨keep _ _ (off _ fun p' hp' z => ?_) P.1, P.2⟩
      rw [List.map_append, List.nodup_append] at nd
      exact nd.2.2 _ (List.mem_map_of_mem hp) _ (List.mem_map_of_mem hp') z.symm
    · have hm : p.1 ∈ own.map (·.1) := e ▸ List.mem_map_of_mem hp
      obtain ⟨p₀, hp₀, e₀⟩ := List.mem_map.mp hm
      have P := S.N p₀ (List.mem_append_right _ hp₀)
      rw [e₀] at P
      exact ⟨ho' p hp, P.2⟩
  · rw [List.map_append, e, ← List.map_append]; exact nd

inductive LpJ1 (g : Heap) (dr : Drawn) (os : OsState) (L : Addr) (nm : List Str) (own : List (Addr × Obj)) (n : Nat) (Sx : Nat → Heap → Prop) (J : Nat → List (Option Value) → List (Addr × Obj) → Prop) (k : Nat) (s : Shared) : Prop
  | mk (i ls mu own' h gs tk) (q1 : k = n - i) (q2 : i ≤ n) (q3 : s = ⟨h, gs, dr, tk, os⟩) (q4 : J i ls mu) (q5 : own'.map (·.1) = own.map (·.1)) (q6 : AllBare gs) (q7 : St g L h nm ls (mu ++ own')) (q8 : Sx i h) : LpJ1 g dr os L nm own n Sx J k s
/-- a for over a walked thing, by an invariant over the turn's number, the locals and the ledger -/
theorem for_ {x : Str} {ix : Nat} {np : Pos} {body : List Stmt} {I : Addr} {fp wr : List Addr} {n : Nat} {P : Nat → Value → Prop} {Sx : Nat → Heap → Prop} {R : Result → Shared → Prop}
    (J : Nat → List (Option Value) → List (Addr × Obj) → Prop) (V : Var sc nm x ix) (W : Walks prog w A I fp wr n P Sx) (hfp : ∀ b ∈ fp, b ∈ own.map (·.1) ∨ (∃ o, g.get? b = some o) ∨ ∃ o, ∀ i ls mu, J i ls mu → (b, o) ∈ mu) (hwr : ∀ b ∈ wr, b ∈ own.map (·.1))
    (live : ∀ i h, Sx i h → ∀ b ∈ wr, ∃ o, h.get? b = some o) (len : ∀ i ls mu, J i ls mu → ix < ls.length)
    (turn : ∀ i v ls mu own' h gs tk, i < n → P i v → J i ls mu → own'.map (·.1) = own.map (·.1) → AllBare gs → St g L h nm (ls.set ix (some v)) (mu ++ own') →
      wpAny (model prog w) A (execs body (envOf q sc L a cd)) (fun f s' => match f with
        | .next | .cont => ∃ ls' mu' h' gs' tk', s' = ⟨h', gs', dr, tk', os⟩ ∧ AllBare gs' ∧ St g L h' nm ls' (mu' ++ own') ∧ J (i + 1) ls' mu'
        | .brk => R (.ok .next) s'
        | .ret v => R (.ok (.ret v)) s') (fun _ _ => False) ⟨h, gs, dr, tk, os⟩)
    (done : ∀ ls mu h gs tk, J n ls mu → AllBare gs → St g L h nm ls mu → R (.ok .next) ⟨h, gs, dr, tk, os⟩)
    (hJ : J 0 ls mu) (S : St g L h nm ls (mu ++ own)) (hS : Sx 0 h) (hgs : AllBare gs) :
    codeAny (model prog w) A (.forLoop (.Name x np) (.ref I) body [] (envOf q sc L a cd)) R ⟨h, gs, dr, tk, os⟩ := by
  refine codeAny_forLoop_any (LpJ1 g dr os L nm own n Sx J) ?_ n ⟨0, ls, mu, own, h, gs, tk, by omega, Nat.zero_le _, rfl, hJ, rfl, hgs, S, hS⟩
  rintro k s ⟨i, ls, mu, own', h, gs, tk, rfl, hi, rfl, hJ, ho, hgs, S, hS⟩
  rcases Nat.lt_or_ge i n with hlt | hge
  · refine W.item i _ _ _ hlt hS fun v h' tk' hP hS' keep => ?_
    obtain ⟨own'', e, S'⟩ := S.turn (wr := wr) (by rw [ho]; exact hwr) keep (live _ _ hS')
    refine wpAny_of_eq (a := ()) (by rfl) (assign_Name (stV (s := ⟨h', gs, dr, tk', os⟩) S' V (len _ _ _ hJ) fun h2 S2 => ?_))
    refine wpAny_mono (turn i v ls mu own'' h2 gs _ hlt hP hJ (e.trans ho) hgs S2) (fun f s' hf => ?_) fun _ _ x => x.elim
    have fin : (∃ ls' mu' h' gs' tk', s' = ⟨h', gs', dr, tk', os⟩ ∧ AllBare gs' ∧ St g L h' nm ls' (mu' ++ own'') ∧ J (i + 1) ls' mu') → ∃ m, m < n - i ∧ LpJ1 g dr os L nm own n Sx J m s' := by
      rintro ⟨ls', mu', h3, gs', tk3, rfl, hg3, S3, hJ3⟩
      refine ⟨n - (i + 1), by omega, i + 1, ls', mu', own'', h3, gs', tk3, rfl, hlt, rfl, hJ3, e.trans ho, hg3, S3, W.frame _ _ _ hS' fun b hb o hbo => ?_⟩
      rcases hfp b hb with hm | ⟨o', hg⟩ | ⟨o', hj⟩
      · rw [← ho, ← e] at hm
        obtain ⟨p, hp, rfl⟩ := List.mem_map.mp hm
        have e1 := (S'.N p (List.mem_append_right _ hp)).1
        have e2 := (S3.N p (List.mem_append_right _ hp)).1
        rw [e1] at hbo
        rw [e2]; exact hbo
      · have e1 := S'.F.keep b o' hg
        have e2 := S3.F.keep b o' hg
        rw [e1] at hbo
        rw [e2]; exact hbo
      · have e1 := (S'.N _ (List.mem_append_left _ (hj _ _ _ hJ))).1
        have e2 := (S3.N _ (List.mem_append_left _ (hj _ _ _ hJ3))).1
        rw [e1] at hbo
        rw [e2]; exact hbo
    cases f with
    | next => exact fin hf
    | cont => exact fin hf
    | brk => exact hf
    | ret v => exact hf
  · obtain rfl : i = n := by omega
    refine W.done _ _ _ hS fun h' tk' keep => ?_
    have off : ∀ b, (∀ p ∈ own', p.1 ≠ b) → b ∉ wr := fun b hh m => by
      have := hwr b m
      rw [← ho] at this
      obtain ⟨p, hp, e⟩ := List.mem_map.mp this
      exact hh p hp e
    obtain ⟨oL, es, ep, hL, r⟩ := S.F.ns
    have nd := S.nd
    rw [List.map_append, List.nodup_append] at nd
    refine wpAny_pure (done ls mu h' gs tk' hJ hgs ⟨⟨⟨oL, es, ep, keep L oL (off L fun p hp => (S.N p (List.mem_append_right _ hp)).2.1) hL, r⟩, fun b o hb => keep b o (off b fun p hp z => ?_) (S.F.keep b o hb), S.F.above⟩, fun p hp => ?_, nd.1⟩)
    · have := (S.N p (List.mem_append_right _ hp)).2.2; rw [z, hb] at this; cases this
    · have P := S.N p (List.mem_append_left _ hp)
      exact ⟨keep _ _ (off _ fun p' hp' z => nd.2.2 _ (List.mem_map_of_mem hp) _ (List.mem_map_of_mem hp') z.symm) P.1, P.2⟩
end
end Mine
end
section
set_option Elab.async false
set_option maxRecDepth 100000
set_option linter.unusedVariables false
namespace Mine
open PySem PySem.W PySem.Calls PyProof.Rows
section
variable {prog : Program} {w : World} {A : Around} {E : Value → Shared → Prop} {h g : Heap} {gs : Array GenState} {dr : Drawn} {tk : Nat} {os : OsState} {L a : Addr} {nm : List Str} {ls : List (Option Value)} {mu own : List (Addr × Obj)} {q : Str} {sc : Scope} {cd : Value}
theorem St.perm {mu' : List (Addr × Obj)} (S : St g L h nm ls mu) (p : mu.Perm mu') : St g L h nm ls mu' :=
  ⟨S.F, fun x hx => S.N x (p.mem_iff.mpr hx), (p.map _).nodup_iff.mp S.nd⟩
theorem St.last {p : Addr × Obj} (S : St g L h nm ls (p :: mu)) : St g L h nm ls (mu ++ [p]) := S.perm (List.perm_append_singleton p mu).symm
theorem St.first {p : Addr × Obj} (S : St g L h nm ls (mu ++ [p])) : St g L h nm ls (p :: mu) := S.perm (List.perm_append_singleton p mu)

/-- what a turn's end must show -/
noncomputable def Turn (g : Heap) (L : Addr) (nm : List Str) (own : List (Addr × Obj)) (dr : Drawn) (os : OsState) (J : List (Option Value) → List (Addr × Obj) → Prop) (R : Result → Shared → Prop) (f : Flow) (s' : Shared) : Prop := match f with
  | .next | .cont => ∃ ls' mu' h' gs' tk', s' = ⟨h', gs', dr, tk', os⟩ ∧ AllBare gs' ∧ St g L h' nm ls' (mu' ++ own) ∧ J ls' mu'
  | .brk => R (.ok .next) s'
  | .ret v => R (.ok (.ret v)) s'
theorem Turn.next {J : List (Option Value) → List (Addr × Obj) → Prop} {R : Result → Shared → Prop} (S : St g L h nm ls (mu ++ own)) (hg : AllBare gs) (j : J ls mu) : Turn g L nm own dr os J R .next ⟨h, gs, dr, tk, os⟩ := ⟨ls, mu, h, gs, tk, rfl, hg, S, j⟩
theorem Turn.cont {J : List (Option Value) → List (Addr × Obj) → Prop} {R : Result → Shared → Prop} (S : St g L h nm ls (mu ++ own)) (hg : AllBare gs) (j : J ls mu) : Turn g L nm own dr os J R .cont ⟨h, gs, dr, tk, os⟩ := ⟨ls, mu, h, gs, tk, rfl, hg, S, j⟩

theorem TN {J : List (Option Value) → List (Addr × Obj) → Prop} {R : Result → Shared → Prop} {T : Flow → Shared → Prop} (hT : ∀ f s', Turn g L nm own dr os J R f s' → T f s') (S : St g L h nm ls (mu ++ own)) (hg : AllBare gs) (j : J ls mu) : T .next ⟨h, gs, dr, tk, os⟩ := hT _ _ (Turn.next S hg j)
theorem TC {J : List (Option Value) → List (Addr × Obj) → Prop} {R : Result → Shared → Prop} {T : Flow → Shared → Prop} (hT : ∀ f s', Turn g L nm own dr os J R f s' → T f s') (S : St g L h nm ls (mu ++ own)) (hg : AllBare gs) (j : J ls mu) : T .cont ⟨h, gs, dr, tk, os⟩ := hT _ _ (Turn.cont S hg j)
theorem TB {J : List (Option Value) → List (Addr × Obj) → Prop} {R : Result → Shared → Prop} {T : Flow → Shared → Prop} {s' : Shared} (hT : ∀ f s', Turn g L nm own dr os J R f s' → T f s') (r : R (.ok .next) s') : T .brk s' := hT .brk _ r
theorem forL {x : Str} {ix : Nat} {np : Pos} {body : List Stmt} {l : Addr} {items : List Value} {R : Result → Shared → Prop} (J : Nat → List (Option Value) → List (Addr × Obj) → Prop) (V : Var sc nm x ix) (S : St g L h nm ls mu) (hh : A.handled = none) (hgs : AllBare gs)
    (hl : h.IsList l items.toArray) (hb : (∃ o, g.get? l = some o) ∨ ∃ o, ∀ i ls mu, J i ls mu → (l, o) ∈ mu) (len : ∀ i ls mu, J i ls mu → ix < ls.length)
    (turn : ∀ i v ls mu own h gs tk, items[i]? = some v → J i ls mu → AllBare gs → St g L h nm (ls.set ix (some v)) (mu ++ own) →
      ∀ T : Flow → Shared → Prop, (∀ f s', Turn g L nm own dr os (J (i + 1)) R f s' → T f s') → wpAny (model prog w) A (execs body (envOf q sc L a cd)) T (fun _ _ => False) ⟨h, gs, dr, tk, os⟩)
    (done : ∀ ls mu h gs tk, J items.length ls mu → AllBare gs → St g L h nm ls mu → R (.ok .next) ⟨h, gs, dr, tk, os⟩) (hJ : J 0 ls mu) :
    wpAny (model prog w) A (pyIter (.ref l)) (fun it s₂ => codeAny (model prog w) A (.forLoop (.Name x np) it body [] (envOf q sc L a cd)) R s₂) E ⟨h, gs, dr, tk, os⟩ := by
  refine wpAny_pyIter_list (s := ⟨h, gs, dr, tk, os⟩) hl ?_
  have hlt : l < h.objs.size := by obtain ⟨o, ho, _⟩ := hl; exact Heap.lt_size ho
  have W := Walks.list (prog := prog) (w := w) hh h.objs.size l (Nat.ne_of_lt hlt) items.toArray
  refine for_ (own := [(h.objs.size, _)]) J V W ?_ (fun b hb => by simpa using hb) ?_ len ?_ ?_ hJ (S.push _).last ⟨⟨_, Heap.get?_push_size _ rfl, rfl, rfl⟩, hl.at fun o e => Heap.get?_push_of_some _ e⟩ hgs
  · intro b hb'
    rcases List.mem_cons.mp hb' with rfl | hb'
    · exact .inl (by simp)
    · rw [List.mem_singleton.mp hb']; exact .inr hb
  · rintro i h' ⟨⟨o, ho, _⟩, _⟩ b hb
    rw [List.mem_singleton.mp hb]; exact ⟨o, ho⟩
  · intro i v ls mu own' h' gs' tk' hi hP hJ' _ hg' S'
    refine wpAny_mono (turn i v ls mu own' h' gs' tk' (by simpa using hP) hJ' hg' S' _ fun _ _ h => h) (fun f s' hf => ?_) fun _ _ x => x
    cases f <;> exact hf
  · intro ls mu h' gs' tk' hJ' hg' S'
    exact done ls mu h' gs' tk' (by simpa using hJ') hg' S'

/-- for x in range(a, b) -/
theorem forR {x : Str} {ix : Nat} {np : Pos} {body : List Stmt} {r : Addr} {lo hi : Int} {n : Nat} {t u v : Tok} {R : Result → Shared → Prop} (J : Nat → List (Option Value) → List (Addr × Obj) → Prop) (V : Var sc nm x ix) (S : St g L h nm ls mu) (hh : A.handled = none) (hgs : AllBare gs)
    (hr : IsRange h r lo hi 1 t u v) (hn : (n : Int) = if lo < hi then hi - lo else 0) (hlo : lo.natAbs < 2 ^ 32) (hhi : hi.natAbs < 2 ^ 32) (len : ∀ i ls mu, J i ls mu → ix < ls.length)
    (turn : ∀ (i : Nat) k ls mu own h gs tk, i < n → J i ls mu → AllBare gs → St g L h nm (ls.set ix (some (.int (lo + i) k))) (mu ++ own) →
      ∀ T : Flow → Shared → Prop, (∀ f s', Turn g L nm own dr os (J (i + 1)) R f s' → T f s') → wpAny (model prog w) A (execs body (envOf q sc L a cd)) T (fun _ _ => False) ⟨h, gs, dr, tk, os⟩)
    (done : ∀ ls mu h gs tk, J n ls mu → AllBare gs → St g L h nm ls mu → R (.ok .next) ⟨h, gs, dr, tk, os⟩) (hJ : J 0 ls mu) :
    wpAny (model prog w) A (pyIter (.ref r)) (fun it s₂ => codeAny (model prog w) A (.forLoop (.Name x np) it body [] (envOf q sc L a cd)) R s₂) E ⟨h, gs, dr, tk, os⟩ := by
  have hsz : Builtin.Range.rangeSize lo hi 1 = (n : Int) := by rw [rangeSize_one, hn]
  have hsmall : Builtin.Range.small lo hi 1 = true := by
    unfold Builtin.Range.small
    rw [hsz]
    simp only [Builtin.Range.rangeFitsLong]
    split at hn <;> simp <;> omega
  refine wpAny_pyIter_range (s := ⟨h, gs, dr, tk, os⟩) hr hsmall ?_
  have W := Walks.range (prog := prog) (w := w) hh h.objs.size lo 1 n
  refine for_ (own := [(h.objs.size, _)]) J V W ?_ (fun b hb => by simpa using hb) ?_ len ?_ done hJ (S.push _).last ?_ hgs
  · intro b hb'
    exact .inl (by simpa using hb')
  · intro i h' hx b hb
    rw [List.mem_singleton.mp hb]; exact ⟨_, hx⟩
  · rintro i v ls mu own' h' gs' tk' hi ⟨k, rfl⟩ hJ' _ hg' S'
    rw [Int.mul_one] at S'
    refine wpAny_mono (turn i k ls mu own' h' gs' tk' hi hJ' hg' S' _ fun _ _ h => h) (fun f s' hf => ?_) fun _ _ x => x
    cases f <;> exact hf
  · have := Heap.get?_push_size h (o := { cls := .type "range_iterator", data := .fields #[rawInt lo, rawInt (Builtin.Range.rangeSize lo hi 1), rawInt 1] }) rfl
    rw [hsz] at this
    simpa [IsRangeIter, hsz] using this
end
end Mine
end
section
set_option Elab.async false
set_option maxRecDepth 100000
set_option linter.unusedVariables false
namespace Mine
open PySem PySem.W PySem.Calls PyProof.Rows
section
variable {prog : Program} {w : World} {A : Around} {E : Value → Shared → Prop} {h g : Heap} {gs : Array GenState} {dr : Drawn} {tk : Nat} {os : OsState} {L a : Addr} {nm : List Str} {ls : List (Option Value)} {mu own : List (Addr × Obj)} {q : Str} {sc : Scope} {cd : Value}
/-- for x, y in a walked thing that yields pairs -/
theorem forT {x y : Str} {ix iy : Nat} {p1 p2 tp : Pos} {kk : Nat} {body : List Stmt} {I : Addr} {fp wr : List Addr} {n : Nat} {Pt : Nat → Array Value → Prop} {Sx : Nat → Heap → Prop} {Mid : Nat → Addr → Heap → Prop} {R : Result → Shared → Prop}
    (J : Nat → List (Option Value) → List (Addr × Obj) → Prop) (Vx : Var sc nm x ix) (Vy : Var sc nm y iy) (hh : A.handled = none) (W : WalksT prog w A I fp wr n Pt Sx Mid)
    (hfp : ∀ b ∈ fp, b ∈ own.map (·.1) ∨ (∃ o, g.get? b = some o) ∨ ∃ o, ∀ i ls mu, J i ls mu → (b, o) ∈ mu) (hwr : ∀ b ∈ wr, b ∈ own.map (·.1))
    (live : ∀ i h, Sx i h → ∀ b ∈ wr, ∃ o, h.get? b = some o) (len : ∀ i ls mu, J i ls mu → ix < ls.length ∧ iy < ls.length) (two : ∀ i vals, Pt i vals → ∃ u v, vals = #[u, v])
    (turn : ∀ i u v ls mu own' h gs tk, i < n → Pt i #[u, v] → J i ls mu → own'.map (·.1) = own.map (·.1) → AllBare gs → St g L h nm ((ls.set ix (some u)).set iy (some v)) (mu ++ own') →
      ∀ T : Flow → Shared → Prop, (∀ f s', Turn g L nm own' dr os (J (i + 1)) R f s' → T f s') → wpAny (model prog w) A (execs body (envOf q sc L a cd)) T (fun _ _ => False) ⟨h, gs, dr, tk, os⟩)
    (done : ∀ ls mu h gs tk, J n ls mu → AllBare gs → St g L h nm ls mu → R (.ok .next) ⟨h, gs, dr, tk, os⟩)
    (hJ : J 0 ls mu) (S : St g L h nm ls (mu ++ own)) (hS : Sx 0 h) (hgs : AllBare gs) :
    codeAny (model prog w) A (.forLoop (.Tuple [.Name x p1, .Name y p2] kk tp) (.ref I) body [] (envOf q sc L a cd)) R ⟨h, gs, dr, tk, os⟩ := by
  refine codeAny_forLoop_any (LpJ1 g dr os L nm own n Sx J) ?_ n ⟨0, ls, mu, own, h, gs, tk, by lia, Nat.zero_le _, rfl, hJ, rfl, hgs, S, hS⟩
  rintro k s ⟨i, ls, mu, own', h, gs, tk, rfl, hi, rfl, hJ, ho, hgs, S, hS⟩
  rcases Nat.lt_or_ge i n with hlt | hge
  · refine W.item i _ _ _ hlt hS fun T vals h' tk' hP hT hTu hMid keep => ?_
    obtain ⟨u, v, rfl⟩ := two i _ hP
    refine W.go _ _ _ i T _ _ _ hMid fun h2 hS' keep2 => ?_
    have keep' : ∀ b o, b ∉ wr → h.get? b = some o → h2.get? b = some o := fun b o hb e => keep2 b o hb (keep b o hb e)
    obtain ⟨own'', e, S'⟩ := S.turn (wr := wr) (by rw [ho]; exact hwr) keep' (live _ _ hS')
    have hT2 : IsTup h2 T #[u, v] := by
      obtain ⟨o, ho', r⟩ := hTu
      exact ⟨o, keep2 T o (W.apart i T h' hMid) ho', r⟩
    refine assign_Tuple_tuple (s := ⟨h2, gs, dr, tk', os⟩) hh hT2 rfl rfl fun h3 hx => ?_
    have S3 : St g L h3 nm ls (mu ++ own'') := S'.re (S'.F.extBut hx (Nat.le_refl _)) (S'.N.extBut hx (Nat.le_refl _))
    refine ord_cons (assign_Name (st_ S3 Vx (len _ _ _ hJ).1 fun h4 t4 S4 => ?_))
    refine ord_cons (assign_Name (st_ S4 Vy (by simpa using (len _ _ _ hJ).2) fun h5 t5 S5 => ?_))
    refine ord_nil ?_
    refine wpAny_mono (turn i u v ls mu own'' h5 gs _ hlt hP hJ (e.trans ho) hgs S5 _ fun _ _ h => h) (fun f s' hf => ?_) fun _ _ x => x.elim
    have fin : (∃ ls' mu' h' gs' tk', s' = ⟨h', gs', dr, tk', os⟩ ∧ AllBare gs' ∧ St g L h' nm ls' (mu' ++ own'') ∧ J (i + 1) ls' mu') → ∃ m, m < n - i ∧ LpJ1 g dr os L nm own n Sx J m s' := by
      rintro ⟨ls', mu', h3, gs', tk3, rfl, hg3, S3, hJ3⟩
      refine ⟨n - (i + 1), by (clear e hT ho hi hh; lia), i + 1, ls', mu', own'', h3, gs', tk3, rfl, hlt, rfl, hJ3, e.trans ho, hg3, S3, W.frame _ _ _ hS' fun b hb o hbo => ?_⟩
      rcases hfp b hb with hm | ⟨o', hg⟩ | ⟨o', hj⟩
      · rw [← ho, ← e] at hm
        obtain ⟨p, hp, rfl⟩ := List.mem_map.mp hm
        have e1 := (S'.N p (List.mem_append_right _ hp)).1
        have e2 := (S3.N p (List.mem_append_right _ hp)).1
        rw [e1] at hbo
        rw [e2]; exact hbo
      · have e1 := S'.F.keep b o' hg
        have e2 := S3.F.keep b o' hg
        rw [e1] at hbo
        rw [e2]; exact hbo
      · have e1 := (S'.N _ (List.mem_append_left _ (hj _ _ _ hJ))).1
        have e2 := (S3.N _ (List.mem_append_left _ (hj _ _ _ hJ3))).1
        rw [e1] at hbo
        rw [e2]; exact hbo
    cases f with
    | next => exact fin hf
    | cont => exact fin hf
    | brk => exact hf
    | ret v => exact hf
  · obtain rfl : i = n := by lia
    refine W.done _ _ _ hS fun h' tk' keep => ?_
    have off : ∀ b, (∀ p ∈ own', p.1 ≠ b) → b ∉ wr := fun b hh m => by
      have := hwr b m
      rw [← ho] at this
      obtain ⟨p, hp, e⟩ := List.mem_map.mp this
      exact hh p hp e
    obtain ⟨oL, es, ep, hL, r⟩ := S.F.ns
    have nd := S.nd
    rw [List.map_append, List.nodup_append] at nd
    refine wpAny_pure (done ls mu h' gs tk' hJ hgs ⟨⟨⟨oL, es, ep, keep L oL (off L fun p hp => (S.N p (List.mem_append_right _ hp)).2.1) hL, r⟩, fun b o hb => keep b o (off b fun p hp z => ?_) (S.F.keep b o hb), S.F.above⟩, fun p hp => ?_, nd.1⟩)
    · have := (S.N p (List.mem_append_right _ hp)).2.2; rw [z, hb] at this; cases this
    · have P := S.N p (List.mem_append_left _ hp)
      exact ⟨keep _ _ (off _ fun p' hp' z => nd.2.2 _ (List.mem_map_of_mem hp) _ (List.mem_map_of_mem hp') z.symm) P.1, P.2⟩
end
end Mine
end
section
set_option Elab.async false
set_option maxRecDepth 100000
set_option linter.unusedVariables false
namespace Mine
open PySem PySem.W PySem.Calls PyProof.Rows
section
variable {prog : Program} {w : World} {A : Around} {E : Value → Shared → Prop} {h g : Heap} {gs : Array GenState} {dr : Drawn} {tk : Nat} {os : OsState} {L a : Addr} {nm : List Str} {ls : List (Option Value)} {mu own : List (Addr × Obj)} {q : Str} {sc : Scope} {cd : Value}
inductive LaJ1 (h : Heap) (g : Heap) (dr : Drawn) (os : OsState) (L : Addr) (nm : List Str) (l : Addr) (items : List Value) (J : Nat → List (Option Value) → List (Addr × Obj) → Prop) (k : Nat) (s : Shared) : Prop
  | mk (i ls mu own' h2 gs tk) (q1 : k = items.length - i) (q2 : i ≤ items.length) (q3 : s = ⟨h2, gs, dr, tk, os⟩) (q4 : J i ls mu) (q5 : own'.map (·.1) = [h.objs.size]) (q6 : AllBare gs) (q7 : St g L h2 nm ls (mu ++ own')) (q8 : h2.IsListIter h.objs.size l i) (q9 : h2.IsList l items.toArray) : LaJ1 h g dr os L nm l items J k s
/-- for (x, y, ..) in a list: the target's store is the turn's own -/
theorem forLA {elts : List Expr} {kk : Nat} {tp : Pos} {body : List Stmt} {l : Addr} {items : List Value} {R : Result → Shared → Prop} (J : Nat → List (Option Value) → List (Addr × Obj) → Prop) (S : St g L h nm ls mu) (hh : A.handled = none) (hgs : AllBare gs)
    (hl : h.IsList l items.toArray) (hbase : (∃ o, g.get? l = some o) ∨ ∃ o, ∀ i ls mu, J i ls mu → (l, o) ∈ mu) (href : ∀ v ∈ items, ∃ T, v = .ref T)
    (turn : ∀ i v ls mu own h gs tk, items[i]? = some v → J i ls mu → AllBare gs → St g L h nm ls (mu ++ own) →
      ∀ T : Flow → Shared → Prop, (∀ f s', Turn g L nm own dr os (J (i + 1)) R f s' → T f s') → wpAny (model prog w) A (assign (.Tuple elts kk tp) (envOf q sc L a cd) v) (fun _ s₁ => wpAny (model prog w) A (execs body (envOf q sc L a cd)) T (fun _ _ => False) s₁) (fun _ _ => False) ⟨h, gs, dr, tk, os⟩)
    (done : ∀ ls mu h gs tk, J items.length ls mu → AllBare gs → St g L h nm ls mu → R (.ok .next) ⟨h, gs, dr, tk, os⟩) (hJ : J 0 ls mu) :
    wpAny (model prog w) A (pyIter (.ref l)) (fun it s₂ => codeAny (model prog w) A (.forLoop (.Tuple elts kk tp) it body [] (envOf q sc L a cd)) R s₂) E ⟨h, gs, dr, tk, os⟩ := by
  refine wpAny_pyIter_list (s := ⟨h, gs, dr, tk, os⟩) hl ?_
  have hlt : l < h.objs.size := by obtain ⟨o, ho, _⟩ := hl; exact Heap.lt_size ho
  have W := Walks.list (prog := prog) (w := w) hh h.objs.size l (Nat.ne_of_lt hlt) items.toArray
  have S0 := (S.push { cls := .type "list_iterator", data := .fields #[.ref l, .int 0 0] }).last
  have hS0 : (h.push { cls := .type "list_iterator", data := .fields #[.ref l, .int 0 0] }).IsListIter h.objs.size l 0 := ⟨_, Heap.get?_push_size _ rfl, rfl, rfl⟩
  have hl0 : (h.push { cls := .type "list_iterator", data := .fields #[.ref l, .int 0 0] }).IsList l items.toArray := hl.at fun o e => Heap.get?_push_of_some _ e
  refine codeAny_forLoop_any (LaJ1 h g dr os L nm l items J) ?_ items.length ⟨0, ls, mu, [(h.objs.size, _)], _, gs, tk, by lia, Nat.zero_le _, rfl, hJ, rfl, hgs, S0, hS0, hl0⟩
  rintro k s ⟨i, ls, mu, own', h9, gs, tk, rfl, hi, rfl, hJ, ho, hgs, S, hS, hls⟩
  rcases Nat.lt_or_ge i items.length with hlt | hge
  · refine W.item i _ _ _ (by rw [List.size_toArray]; exact hlt) ⟨hS, hls⟩ fun v h' tk' hP hS' keep => ?_
    have hv : items[i]? = some v := by simpa using hP
    obtain ⟨own'', e, S'⟩ := S.turn (wr := [h.objs.size]) (by rw [ho]; exact fun b hb => hb) keep (by
      obtain ⟨⟨o, ho, _⟩, _⟩ := hS'
      intro b hb
      rw [List.mem_singleton.mp hb]; exact ⟨o, ho⟩)
    obtain ⟨T, rfl⟩ := href v (List.mem_of_getElem? hv)
    refine wpAny_letOwnedTupleGo_listiter hS'.1 ?_
    refine wpAny_mono (turn i (.ref T) ls mu own'' h' gs tk' hv hJ hgs S' _ fun _ _ h => h) (fun _ s₁ h₁ => ?_) fun _ _ x => x.elim
    refine wpAny_mono h₁ (fun f s' hf => ?_) fun _ _ x => x.elim
    have fin : (∃ ls' mu' h' gs' tk', s' = ⟨h', gs', dr, tk', os⟩ ∧ AllBare gs' ∧ St g L h' nm ls' (mu' ++ own'') ∧ J (i + 1) ls' mu') → ∃ m, m < items.length - i ∧ LaJ1 h g dr os L nm l items J m s' := by
      rintro ⟨ls', mu', h3, gs', tk3, rfl, hg3, S3, hJ3⟩
      have fr := W.frame (i + 1) _ h3 hS' fun b hb o hbo => by
        rcases List.mem_cons.mp hb with rfl | hbm
        · have hm : h.objs.size ∈ own''.map (·.1) := by rw [e, ho]; simp
          obtain ⟨p, hp, e0⟩ := List.mem_map.mp hm
          have e1 := (S'.N p (List.mem_append_right _ hp)).1
          have e2 := (S3.N p (List.mem_append_right _ hp)).1
          rw [e0] at e1 e2
          rw [e1] at hbo
          rw [e2]; exact hbo
        · rw [List.mem_singleton.mp hbm] at hbo ⊢
          rcases hbase with ⟨o', hg⟩ | ⟨o', hj⟩
          · have e1 := S'.F.keep l o' hg
            have e2 := S3.F.keep l o' hg
            rw [e1] at hbo
            rw [e2]; exact hbo
          · have e1 := (S'.N _ (List.mem_append_left _ (hj _ _ _ hJ))).1
            have e2 := (S3.N _ (List.mem_append_left _ (hj _ _ _ hJ3))).1
            rw [e1] at hbo
            rw [e2]; exact hbo
      exact ⟨items.length - (i + 1), by omega, i + 1, ls', mu', own'', h3, gs', tk3, rfl, hlt, rfl, hJ3, e.trans ho, hg3, S3, fr.1, fr.2⟩
    cases f with
    | next => exact fin hf
    | cont => exact fin hf
    | brk => exact hf
    | ret v => exact hf
  · obtain rfl : i = items.length := by lia
    refine W.done _ _ _ (by rw [List.size_toArray]; exact ⟨hS, hls⟩) fun h' tk' keep => ?_
    have off : ∀ b, (∀ p ∈ own', p.1 ≠ b) → b ∉ [h.objs.size] := fun b hh m => by
      rw [← ho] at m
      obtain ⟨p, hp, e⟩ := List.mem_map.mp m
      exact hh p hp e
    obtain ⟨oL, es, ep, hL, r⟩ := S.F.ns
    have nd := S.nd
    rw [List.map_append, List.nodup_append] at nd
    refine wpAny_pure (done ls mu h' gs tk' hJ hgs ⟨⟨⟨oL, es, ep, keep L oL (off L fun p hp => (S.N p (List.mem_append_right _ hp)).2.1) hL, r⟩, fun b o hb => keep b o (off b fun p hp z => ?_) (S.F.keep b o hb), S.F.above⟩, fun p hp => ?_, nd.1⟩)
    · have := (S.N p (List.mem_append_right _ hp)).2.2; rw [z, hb] at this; cases this
    · have P := S.N p (List.mem_append_left _ hp)
      exact ⟨keep _ _ (off _ fun p' hp' z => nd.2.2 _ (List.mem_map_of_mem hp) _ (List.mem_map_of_mem hp') z.symm) P.1, P.2⟩
end
end Mine
end
section
set_option Elab.async false
set_option maxRecDepth 100000
set_option linter.unusedVariables false
namespace Mine
open PySem PySem.W PySem.Calls PyProof.Rows PySem.Builtin PySem.Builtin.ObjectAttr
/-- a built-in's method read as a value -/
structure BM (T : String) (name : Str) (id gid gai : String) : Prop where
  ga : Slot T "__getattribute__" gai
  entry : entryFor table gai = some Builtin.«object.__getattribute__»
  args : ∀ a b : Value, argsOk gai ⟨[a, b], []⟩
  look : typeLookup (.type T) name = pure (some (.builtin id))
  get : specialOf (.builtin id) "__get__" = pure (some (.builtin gid))
  takes : takesStores (.builtin id) = pure false
  hand : (withoutEnding? id "#data").isNone = true
  free : (["__module__", "__name__", "__qualname__", "__doc__", "__annotations__"] : List Str).contains name = false
section
variable {prog : Program} {w : World} {A : Around} {E : Value → Shared → Prop} {h : Heap} {gs : Array GenState} {dr : Drawn} {tk : Nat} {os : OsState}
theorem getBM {T : String} {name : Str} {id gid gai : String} {d : Addr} {o : Obj} {expr : Bool} {Q : Value → Shared → Prop} (b : BM T name id gid gai) (ho : h.get? d = some o) (hc : o.cls = .type T) (hd : o.dict = none) (hn : ∀ c, o.data ≠ .cls c)
    (k : wpAny (model prog w) A.in1 (call (.builtin gid) [.builtin id, .ref d, .type T]) (fun v s' => handedIn v = true ∧ Q v s') (fun _ _ => False) ⟨h, gs, dr, tk + 1, os⟩) :
    wpAny (model prog w) A (getAttr (.ref d) name expr) Q E ⟨h, gs, dr, tk, os⟩ := by
  unfold getAttr
  refine wpAny_bind (wpAny_mkText ?_)
  unfold getAttrBy
  have hT : Shared.TypeIs ⟨h, gs, dr, tk + 1, os⟩ (.ref d) T := ⟨o, ho, hc⟩
  refine wpAny_holding (wpAny_bind (wpAny_typeOf hT (wpAny_bind (wpAny_of_eq b.ga.lookup ?_))))
  show wpAny _ _ (getAttrByItsOwn (.ref d) (.str name tk) (.type T) (.builtin gai) true expr) _ _ _
  unfold getAttrByItsOwn
  refine wpAny_bind (wpAny_pure ?_)
  refine wpAny_bind (wpAny_attempt (wpAny_holding ?_))
  have e1 : callGetattribute (.ref d) (.str name tk) (.builtin gai) expr = boundAndCalled (.builtin gai) (.ref d) (.str name tk) := by
    unfold callGetattribute
    cases expr <;> rfl
  rw [e1]
  unfold boundAndCalled
  rw [b.ga.bind]
  refine wpAny_bind (wpAny_pure ?_)
  refine wpAny_mono (Q := fun v s' => handedIn v = true ∧ Q v s') (E := fun _ _ => False) ?_ (fun v s' hv => ?_) fun _ _ x => x.elim
  · show wpAny _ _ (call (.builtin gai) (.ref d :: [.str name tk])) _ _ _
    refine wpAny_call_entry b.ga hT b.entry ?_ (b.args _ _)
    unfold Builtin.«object.__getattribute__»
    refine wpAny_bind (wpAny_pure (wpAny_bind (wpAny_pure (wpAny_bind (wpAny_typeOf hT ?_)))))
    refine wpAny_bind (m := find (.ref d) (.type T) name) ?_
    unfold find
    refine wpAny_bind (wpAny_of_eq b.look (wpAny_bind ?_))
    show wpAny _ _ (specialOf (.builtin id) "__get__") _ _ _
    refine wpAny_of_eq b.get ?_
    refine wpAny_bind (wpAny_bind (wpAny_of_eq b.takes (wpAny_pure ?_)))
    show wpAny _ _ (ownThenClass (.ref d) name (some (.builtin id)) (some (.builtin gid))) _ _ _
    unfold ownThenClass
    refine wpAny_bind (wpAny_bind (m := ObjectAttr.ownDict d) ?_)
    unfold ObjectAttr.ownDict loadHead
    refine wpAny_bind (wpAny_loadPart ho ?_)
    refine (?_ : ∀ t, t = instanceDict d false → wpAny (model prog w) A.in1 t _ _ _) _ (by cases hdt : o.data <;> first | rfl | exact absurd hdt (hn _))
    intro t ht
    rw [ht]
    unfold instanceDict
    refine wpAny_bind (wpAny_loadPart ho ?_)
    rw [hc, hd]
    refine wpAny_pure ?_
    show wpAny _ _ (pure none) _ _ _
    refine wpAny_pure ?_
    have e3 : copiedAttributeGuard name (.ref d) = pure () := by
      unfold copiedAttributeGuard
      dsimp only
      rw [if_neg (by rw [b.free]; exact Bool.false_ne_true)]
    refine wpAny_bind (wpAny_of_eq e3 (wpAny_bind (wpAny_rule (wpAny_pure ?_))))
    show wpAny _ _ (bindTo (.builtin gid) (.builtin id) (.ref d) (.type T)) _ _ _
    unfold bindTo
    exact wpAny_bind (wpAny_holding (wpAny_mono k (fun v s' hv => wpAny_pure ⟨v, rfl, hv⟩) fun _ _ x => x.elim))
  · show wpAny _ _ (handedOut v) _ _ _
    rw [handedOut_of hv.1]
    exact wpAny_pure hv.2
end
end Mine
end
section
set_option Elab.async false
set_option maxRecDepth 100000
set_option linter.unusedVariables false
namespace Mine
open PySem PySem.W PySem.Calls PyProof.Rows PySem.Builtin PySem.Builtin.ObjectAttr
theorem ent_ga_dict : entryFor table "dict.__getattribute__" = some Builtin.«object.__getattribute__» := F.entry_dict_ga
theorem ent_ga_set : entryFor table "set.__getattribute__" = some Builtin.«object.__getattribute__» := F.entry_set_ga
theorem md_get : typeLookup (.type "method_descriptor") "__get__" = pure (some (.builtin "method_descriptor.__get__")) := by rw [typeLookup_type, builtinLookup_eq_fast]; kernel_rfl
theorem md_set : typeLookup (.type "method_descriptor") "__set__" = pure none := by rw [typeLookup_type, builtinLookup_eq_fast]; kernel_rfl
theorem md_del : typeLookup (.type "method_descriptor") "__delete__" = pure none := by rw [typeLookup_type, builtinLookup_eq_fast]; kernel_rfl
theorem bm_of {T : String} {name : Str} {id gai : String} (ga : Slot T "__getattribute__" gai) (en : entryFor table gai = some Builtin.«object.__getattribute__») (ar : ∀ a b : Value, argsOk gai ⟨[a, b], []⟩)
    (look : typeLookup (.type T) name = pure (some (.builtin id))) (e : typeOf (.builtin id) = pure (.type "method_descriptor")) (hand : (withoutEnding? id "#data").isNone = true) (free : (["__module__", "__name__", "__qualname__", "__doc__", "__annotations__"] : List Str).contains name = false) :
    BM T name id "method_descriptor.__get__" gai where
  ga := ga
  entry := en
  args := ar
  look := look
  get := by
    show (do typeLookup (← typeOf (.builtin id)) "__get__") = _
    rw [e]
    exact md_get
  takes := by
    unfold takesStores specialOf
    rw [e]
    show ((typeLookup (.type "method_descriptor") "__set__") >>= fun a => if a.isSome = true then pure true else (typeLookup (.type "method_descriptor") "__delete__") >>= fun b => pure b.isSome) = _
    rw [md_set, md_del]
    rfl
  hand := hand
  free := free
theorem bm_get : BM "dict" "get" "dict.get" "method_descriptor.__get__" "dict.__getattribute__" := bm_of F.slot_dict_getattribute ent_ga_dict F.args_dict_getattribute_2 F.slot_dict_get.lookup F.type_dict_get (by decide +kernel) (by decide +kernel)
theorem type_dcont : typeOf (.builtin "dict.__contains__") = pure (.type "method_descriptor") := by show builtinType _ = _; rw [builtinType_eq_fast]; kernel_rfl
theorem type_scont : typeOf (.builtin "set.__contains__") = pure (.type "method_descriptor") := by show builtinType _ = _; rw [builtinType_eq_fast]; kernel_rfl
theorem bm_dcont : BM "dict" "__contains__" "dict.__contains__" "method_descriptor.__get__" "dict.__getattribute__" := bm_of F.slot_dict_getattribute ent_ga_dict F.args_dict_getattribute_2 (by rw [typeLookup_type, builtinLookup_eq_fast]; kernel_rfl) (by show builtinType _ = _; rw [builtinType_eq_fast]; kernel_rfl) (by decide +kernel) (by decide +kernel)
theorem bm_scont : BM "set" "__contains__" "set.__contains__" "method_descriptor.__get__" "set.__getattribute__" := bm_of F.slot_set_getattribute ent_ga_set F.args_set_getattribute_2 (by rw [typeLookup_type, builtinLookup_eq_fast]; kernel_rfl) (by show builtinType _ = _; rw [builtinType_eq_fast]; kernel_rfl) (by decide +kernel) (by decide +kernel)
theorem slot_mdget : Slot "method_descriptor" "__get__" "method_descriptor.__get__" :=
  .of (owner := "method_descriptor") (n := "__get__") md_get (by decide +kernel) (by decide +kernel) (by decide +kernel)
    (by first | exact .inl (by decide +kernel) | exact .inr (by decide +kernel)) (by rw [isSubtype_type]; kernel_rfl)
theorem ent_mdget : entryFor table "method_descriptor.__get__" = some Builtin.«method_descriptor.__get__» := entryFor_of_tree (by kernel_rfl)
theorem args_mdget (a b c : Value) : argsOk "method_descriptor.__get__" ⟨[a, b, c], []⟩ := by unfold argsOk; kernel_rfl
noncomputable abbrev bmObj (id : String) (d : Addr) : Obj := ⟨.type "builtin_function_or_method", none, .fields #[.builtin id, .ref d], #[]⟩
section
variable {prog : Program} {w : World} {A : Around} {E : Value → Shared → Prop} {h g : Heap} {gs : Array GenState} {dr : Drawn} {tk : Nat} {os : OsState} {L : Addr} {nm : List Str} {ls : List (Option Value)} {mu : List (Addr × Obj)}
theorem bind_get {d : Addr} {o : Obj} {Q : Value → Shared → Prop} (ho : h.get? d = some o) (hc : o.cls = .type "dict") (k : Q (.ref h.objs.size) ⟨h.push (bmObj "dict.get" d), gs, dr, tk, os⟩) :
    wpAny (model prog w) A (call (.builtin "method_descriptor.__get__") [.builtin "dict.get", .ref d, .type "dict"]) Q E ⟨h, gs, dr, tk, os⟩ := by
  refine wpAny_call_entry slot_mdget (s := ⟨h, gs, dr, tk, os⟩) (show typeOf _ = _ from F.type_dict_get) ent_mdget ?_ (args_mdget _ _ _)
  unfold Builtin.«method_descriptor.__get__»
  refine wpAny_bind (wpAny_of_eq (a := (.builtin "dict.get", some (.ref d), some (.type "dict"))) (by rfl) ?_)
  dsimp only
  rw [if_neg (show ¬ (Manifest.toldItsClass.contains "dict.get" = true) by decide +kernel)]
  refine wpAny_bind (wpAny_bind (wpAny_of_eq (a := (Str.ofString "get", Value.type "dict")) (by kernel_rfl) ?_))
  dsimp only
  refine wpAny_bind (wpAny_bind (wpAny_typeOf (T := "dict") ⟨o, ho, hc⟩ (wpAny_of_eq (a := true) (by rw [isSubtype_type]; kernel_rfl) ?_)))
  exact wpAny_pure (wpAny_bind (wpAny_newObj_type (wpAny_pure ⟨_, rfl, k⟩)))
theorem bind_dcont {d : Addr} {o : Obj} {Q : Value → Shared → Prop} (ho : h.get? d = some o) (hc : o.cls = .type "dict") (k : Q (.ref h.objs.size) ⟨h.push (bmObj "dict.__contains__" d), gs, dr, tk, os⟩) :
    wpAny (model prog w) A (call (.builtin "method_descriptor.__get__") [.builtin "dict.__contains__", .ref d, .type "dict"]) Q E ⟨h, gs, dr, tk, os⟩ := by
  refine wpAny_call_entry slot_mdget (s := ⟨h, gs, dr, tk, os⟩) (show typeOf _ = _ from type_dcont) ent_mdget ?_ (args_mdget _ _ _)
  unfold Builtin.«method_descriptor.__get__»
  refine wpAny_bind (wpAny_of_eq (a := (.builtin "dict.__contains__", some (.ref d), some (.type "dict"))) (by rfl) ?_)
  dsimp only
  rw [if_neg (show ¬ (Manifest.toldItsClass.contains "dict.__contains__" = true) by decide +kernel)]
  refine wpAny_bind (wpAny_bind (wpAny_of_eq (a := (Str.ofString "__contains__", Value.type "dict")) (by kernel_rfl) ?_))
  dsimp only
  refine wpAny_bind (wpAny_bind (wpAny_typeOf (T := "dict") ⟨o, ho, hc⟩ (wpAny_of_eq (a := true) (by rw [isSubtype_type]; kernel_rfl) ?_)))
  exact wpAny_pure (wpAny_bind (wpAny_newObj_type (wpAny_pure ⟨_, rfl, k⟩)))
theorem bind_scont {d : Addr} {o : Obj} {Q : Value → Shared → Prop} (ho : h.get? d = some o) (hc : o.cls = .type "set") (k : Q (.ref h.objs.size) ⟨h.push (bmObj "set.__contains__" d), gs, dr, tk, os⟩) :
    wpAny (model prog w) A (call (.builtin "method_descriptor.__get__") [.builtin "set.__contains__", .ref d, .type "set"]) Q E ⟨h, gs, dr, tk, os⟩ := by
  refine wpAny_call_entry slot_mdget (s := ⟨h, gs, dr, tk, os⟩) (show typeOf _ = _ from type_scont) ent_mdget ?_ (args_mdget _ _ _)
  unfold Builtin.«method_descriptor.__get__»
  refine wpAny_bind (wpAny_of_eq (a := (.builtin "set.__contains__", some (.ref d), some (.type "set"))) (by rfl) ?_)
  dsimp only
  rw [if_neg (show ¬ (Manifest.toldItsClass.contains "set.__contains__" = true) by decide +kernel)]
  refine wpAny_bind (wpAny_bind (wpAny_of_eq (a := (Str.ofString "__contains__", Value.type "set")) (by kernel_rfl) ?_))
  dsimp only
  refine wpAny_bind (wpAny_bind (wpAny_typeOf (T := "set") ⟨o, ho, hc⟩ (wpAny_of_eq (a := true) (by rw [isSubtype_type]; kernel_rfl) ?_)))
  exact wpAny_pure (wpAny_bind (wpAny_newObj_type (wpAny_pure ⟨_, rfl, k⟩)))
/-- a call of a bound built-in -/
theorem callBound {x d : Addr} {id : String} {B : Builtin} {args : List Value} {Sp : PySem.Spec} {Q : Value → Shared → Prop} (ho : h.get? x = some (bmObj id d)) (chk : ∀ (A : Around) (Q : Unit → Shared → Prop), Q () ⟨h, gs, dr, tk, os⟩ → wpAny (model prog w) A (checkBoundCall id ⟨.ref d :: args, []⟩) Q E ⟨h, gs, dr, tk, os⟩) (pid : plainId id = true) (en : entryFor table id = some B)
    (gm : MeetsIn prog w (B ⟨.ref d :: args, []⟩) Sp) (k : Sp A (wants Q E) ⟨h, gs, dr, tk, os⟩) : wpAny (model prog w) A (call (.ref x) args) Q E ⟨h, gs, dr, tk, os⟩ := by
  refine wpAny_call (codeAny_of_tree ?_)
  show wpAny _ A.in1 (callAny (.ref x) ⟨args, []⟩) _ _ _
  simp only [callAny]
  refine wpAny_bind (wpAny_load ho ?_)
  simp only [show (Value.type "builtin_function_or_method" == Value.type "method" || Value.type "builtin_function_or_method" == Value.type "builtin_function_or_method" || Value.type "builtin_function_or_method" == Value.type "method-wrapper") = true by decide, if_true]
  show wpAny _ _ (if (Value.type "builtin_function_or_method" != Value.type "method") = true then (do checkBoundCall id ⟨.ref d :: args, []⟩; again (.builtin id ⟨.ref d :: args, []⟩)) else _) _ _ _
  rw [if_pos (by decide)]
  refine wpAny_bind (chk _ _ (wpAny_pure ⟨plainId_quiet pid _, codeAny_of_tree ?_⟩))
  rw [Around.under_plainId pid]
  have e : (model prog w).den (.builtin id ⟨.ref d :: args, []⟩) = B ⟨.ref d :: args, []⟩ := by
    show (match entryFor table id with | some b => b _ | none => _) = _
    rw [en]
  rw [e]
  exact gm A (wants Q E) _ k
theorem chk_get_sig : (Manifest.signature? "dict.get").isSome = true := by kernel_rfl
theorem chk_get_args (d : Addr) (x y : Value) : Bind.checkArgs "dict.get" { (Manifest.signature? "dict.get").get chk_get_sig with full := s!"{Bind.lastOf "dict"}.{Bind.lastOf "dict.get"}" } ⟨[.ref d, x, y], []⟩ = pure () := by kernel_rfl
theorem chk_get {d : Addr} {o : Obj} {x y : Value} {Q : Unit → Shared → Prop} (ho : h.get? d = some o) (hc : o.cls = .type "dict") (hn : ∀ c, o.data ≠ .cls c) (k : Q () ⟨h, gs, dr, tk, os⟩) :
    wpAny (model prog w) A (checkBoundCall "dict.get" ⟨[.ref d, x, y], []⟩) Q E ⟨h, gs, dr, tk, os⟩ := by
  unfold checkBoundCall
  rw [show Manifest.signature? "dict.get" = some ((Manifest.signature? "dict.get").get chk_get_sig) from (Option.some_get _).symm, show builtinKind "dict.get" = some .method by kernel_rfl]
  dsimp only
  rw [if_neg (by decide)]
  refine wpAny_bind (wpAny_bind (wpAny_typeOf (T := "dict") ⟨o, ho, hc⟩ (wpAny_of_eq (a := false) (by rw [isSubtype_type]; kernel_rfl) ?_)))
  rw [if_neg (by decide +kernel)]
  refine wpAny_bind (wpAny_bind (wpAny_loadPart ho (wpAny_pure ?_)))
  refine (?_ : ∀ t : Bool, t = false → wpAny (model prog w) A (if t = true then _ else _) _ _ _) _ (by cases hdt : o.data <;> first | rfl | exact absurd hdt (hn _))
  intro t ht
  rw [ht, if_neg (by decide)]
  refine wpAny_bind (wpAny_typeOf (T := "dict") ⟨o, ho, hc⟩ ?_)
  exact wpAny_of_eq (chk_get_args d x y) k
theorem chk_dcont_sig : (Manifest.signature? "dict.__contains__").isSome = true := by kernel_rfl
theorem chk_dcont_args (d : Addr) (x : Value) : Bind.checkArgs "dict.__contains__" { (Manifest.signature? "dict.__contains__").get chk_dcont_sig with full := s!"{Bind.lastOf "dict"}.{Bind.lastOf "dict.__contains__"}" } ⟨[.ref d, x], []⟩ = pure () := by kernel_rfl
theorem chk_dcont {d : Addr} {o : Obj} {x : Value} {Q : Unit → Shared → Prop} (ho : h.get? d = some o) (hc : o.cls = .type "dict") (hn : ∀ c, o.data ≠ .cls c) (k : Q () ⟨h, gs, dr, tk, os⟩) :
    wpAny (model prog w) A (checkBoundCall "dict.__contains__" ⟨[.ref d, x], []⟩) Q E ⟨h, gs, dr, tk, os⟩ := by
  unfold checkBoundCall
  rw [show Manifest.signature? "dict.__contains__" = some ((Manifest.signature? "dict.__contains__").get chk_dcont_sig) from (Option.some_get _).symm, show builtinKind "dict.__contains__" = some .method by kernel_rfl]
  dsimp only
  rw [if_neg (by decide)]
  refine wpAny_bind (wpAny_bind (wpAny_typeOf (T := "dict") ⟨o, ho, hc⟩ (wpAny_of_eq (a := false) (by rw [isSubtype_type]; kernel_rfl) ?_)))
  rw [if_neg (by decide +kernel)]
  refine wpAny_bind (wpAny_bind (wpAny_loadPart ho (wpAny_pure ?_)))
  refine (?_ : ∀ t : Bool, t = false → wpAny (model prog w) A (if t = true then _ else _) _ _ _) _ (by cases hdt : o.data <;> first | rfl | exact absurd hdt (hn _))
  intro t ht
  rw [ht, if_neg (by decide)]
  refine wpAny_bind (wpAny_typeOf (T := "dict") ⟨o, ho, hc⟩ ?_)
  exact wpAny_of_eq (chk_dcont_args d x) k
theorem chk_scont_sig : (Manifest.signature? "set.__contains__").isSome = true := by kernel_rfl
theorem chk_scont_args (d : Addr) (x : Value) : Bind.checkArgs "set.__contains__" { (Manifest.signature? "set.__contains__").get chk_scont_sig with full := s!"{Bind.lastOf "set"}.{Bind.lastOf "set.__contains__"}" } ⟨[.ref d, x], []⟩ = pure () := by kernel_rfl
theorem chk_scont {d : Addr} {o : Obj} {x : Value} {Q : Unit → Shared → Prop} (ho : h.get? d = some o) (hc : o.cls = .type "set") (hn : ∀ c, o.data ≠ .cls c) (k : Q () ⟨h, gs, dr, tk, os⟩) :
    wpAny (model prog w) A (checkBoundCall "set.__contains__" ⟨[.ref d, x], []⟩) Q E ⟨h, gs, dr, tk, os⟩ := by
  unfold checkBoundCall
  rw [show Manifest.signature? "set.__contains__" = some ((Manifest.signature? "set.__contains__").get chk_scont_sig) from (Option.some_get _).symm, show builtinKind "set.__contains__" = some .method by kernel_rfl]
  dsimp only
  rw [if_neg (by decide)]
  refine wpAny_bind (wpAny_bind (wpAny_typeOf (T := "set") ⟨o, ho, hc⟩ (wpAny_of_eq (a := false) (by rw [isSubtype_type]; kernel_rfl) ?_)))
  rw [if_neg (by decide +kernel)]
  refine wpAny_bind (wpAny_bind (wpAny_loadPart ho (wpAny_pure ?_)))
  refine (?_ : ∀ t : Bool, t = false → wpAny (model prog w) A (if t = true then _ else _) _ _ _) _ (by cases hdt : o.data <;> first | rfl | exact absurd hdt (hn _))
  intro t ht
  rw [ht, if_neg (by decide)]
  refine wpAny_bind (wpAny_typeOf (T := "set") ⟨o, ho, hc⟩ ?_)
  exact wpAny_of_eq (chk_scont_args d x) k
end
end Mine
end
section
set_option Elab.async false
set_option maxRecDepth 100000
set_option linter.unusedVariables false
namespace Mine
open PySem PySem.W PySem.Calls PyProof.Rows
/-- a dict whose keys are ints, in order -/
noncomputable abbrev DI (prog : Program) (w : World) (o : Obj) (kvs : List (Int × Value)) : Prop := o.IsDictOf (intKind prog w) kvs
section
variable {prog : Program} {w : World} {A : Around} {E : Value → Shared → Prop} {h g : Heap} {gs : Array GenState} {dr : Drawn} {tk : Nat} {os : OsState} {L a : Addr} {nm : List Str} {ls : List (Option Value)} {mu : List (Addr × Obj)} {q : Str} {sc : Scope} {cd : Value} {d : Addr} {o : Obj} {kvs : List (Int × Value)} {k : Int} {t : Tok}
theorem DI.of (x : DI prog w o kvs) (ho : h.get? d = some o) : h.DictOf (intKind prog w) d kvs := Heap.dictOf_iff.mpr ⟨o, ho, x⟩
theorem DI.cls (x : DI prog w o kvs) : o.cls = .type "dict" := let ⟨_, _, c, _⟩ := x; c.1
theorem DI.dict (x : DI prog w o kvs) : o.dict = none := let ⟨_, _, c, _⟩ := x; c.2.1
theorem DI.notCls (x : DI prog w o kvs) (c : ClassData) : o.data ≠ .cls c := by
  obtain ⟨es, ep, _, e, _⟩ := x
  rw [e]; intro z; cases z
theorem St.same {h' : Heap} {j : Nat} {d : Addr} {o o' : Obj} (S : St g L h nm ls mu) (hj : mu[j]? = some (d, o)) (hs : Heap.SameBut d h h') (ho : h'.get? d = some o') : St g L h' nm ls (mu.set j (d, o')) := by
  have M : Mod [d] (⟨h, #[], {}, 0, {}⟩ : Shared) ⟨h', #[], {}, 0, {}⟩ := ⟨fun b o e n => (hs.2 b fun z => n (by simp [z])).trans e, Nat.le_of_eq hs.1.symm, rfl, id, rfl⟩
  exact S.call1 (s := ⟨h, #[], {}, 0, {}⟩) (s' := ⟨h', #[], {}, 0, {}⟩) M hj ho
/-- {} -/
theorem newD {pos : Pos} {env : Env} {Q : Value → Shared → Prop} (S : St g L h nm ls mu) (k : ∀ h' o, DI prog w o [] → St g L h' nm ls ((h.objs.size, o) :: mu) → Q (.ref h.objs.size) ⟨h', gs, dr, tk, os⟩) :
    wpAny (model prog w) A (eval (.Dict [] [] pos) env) Q E ⟨h, gs, dr, tk, os⟩ := by
  rw [eval_Dict_empty]
  refine wpAny_bind (wpAny_standAt ?_)
  exact wpAny_newObj_type (k _ { cls := .type "dict", data := .dict #[] } ⟨_, _, ⟨rfl, rfl, rfl⟩, rfl, fun e he => by simp at he, .nil, .nil⟩ (S.push _))
/-- d[k] = v -/
theorem setI {v : Value} {j : Nat} {Q : Unit → Shared → Prop} (S : St g L h nm ls mu) (hj : mu[j]? = some (d, o)) (D : DI prog w o kvs) (hz : kvs.length ≤ 10000)
    (q : ∀ h' tk o', DI prog w o' (stored kvs k v) → St g L h' nm ls (mu.set j (d, o')) → Q () ⟨h', gs, dr, tk, os⟩) : wpAny (model prog w) A (setItem (.ref d) (.int k t) v) Q E ⟨h, gs, dr, tk, os⟩ := by
  refine wpAny_setItem_pairs (s := ⟨h, gs, dr, tk, os⟩) (intKind_is prog w k t) (D.of (S.get hj)) (fun h' hd hs => ?_) (Nat.le_trans hz (by decide))
  obtain ⟨o', ho', D'⟩ := Heap.dictOf_iff.mp hd
  exact q h' _ o' D' (S.same hj hs ho')
/-- d[k] -/
theorem getI {v : Value} {Q : Value → Shared → Prop} (D : h.DictOf (intKind prog w) d kvs) (hv : valueAt kvs k = some v) (q : ∀ tk, Q v ⟨h, gs, dr, tk, os⟩) : wpAny (model prog w) A (getItem (.ref d) (.int k t)) Q E ⟨h, gs, dr, tk, os⟩ :=
  wpAny_getItem_of (s := ⟨h, gs, dr, tk, os⟩) (intKind_is prog w k t) D.mapOf hv (q _)
theorem callGet {x : Addr} {dflt : Value} {Q : Value → Shared → Prop} (hx : h.get? x = some (bmObj "dict.get" d)) (hd : (d == sysModules) = false) (D : h.DictOf (intKind prog w) d kvs)
    (q : ∀ tk, Q ((valueAt kvs k).getD dflt) ⟨h, gs, dr, tk, os⟩) : wpAny (model prog w) A (call (.ref x) [.int k t, dflt]) Q E ⟨h, gs, dr, tk, os⟩ := by
  obtain ⟨o, ho, D'⟩ := Heap.dictOf_iff.mp D
  exact callBound hx (fun A Q k => chk_get ho (DI.cls D') (DI.notCls D') k) (by decide +kernel) F.entry_dict_get (meets_dict_get_default (intKind prog w) d (intKind_is prog w k t) hd dflt) ⟨_, D.mapOf, q _⟩
end
end Mine
end
section
set_option Elab.async false
set_option maxRecDepth 100000
set_option linter.unusedVariables false
namespace Mine
open PySem PySem.W PySem.Calls PyProof.Rows
theorem valueAt_stored {kvs : List (Int × Value)} {k j : Int} {v : Value} : valueAt (stored kvs k v) j = if j = k then some v else valueAt kvs j := by
  unfold valueAt stored
  by_cases h : (kvs.any fun kv => decide (kv.1 = k)) = true
  · rw [if_pos h]
    induction kvs with
    | nil => simp at h
    | cons p kvs ih =>
      obtain ⟨a, b⟩ := p
      by_cases hk : a = k
      · subst hk
        by_cases hj : j = a
        · subst hj; simp
        · have hj' : ¬ a = j := fun e => hj e.symm
          simp only [List.map_cons, if_true, List.find?_cons, if_neg hj]
          simp only [hj', decide_false]
          congr 1
          have : ∀ l : List (Int × Value), (l.map fun kv => if kv.1 = a then (kv.1, v) else kv).find? (fun kv => decide (kv.1 = j)) = l.find? (fun kv => decide (kv.1 = j)) := by
            intro l
            induction l with
            | nil => rfl
            | cons q l ih2 =>
              rw [List.map_cons, List.find?_cons, List.find?_cons, ih2]
              by_cases hq : q.1 = a
              · simp [hq, hj']
              · simp [hq]
          exact this kvs
      · have h' : (kvs.any fun kv => decide (kv.1 = k)) = true := by simpa [hk] using h
        have := ih h'
        simp only [List.map_cons, if_neg hk, List.find?_cons]
        by_cases hj : a = j
        · subst hj; simp [hk]
        · simp only [hj, decide_false]; exact this
  · rw [if_neg h]
    have hn : ∀ x ∈ kvs, ¬ x.1 = k := fun x hx e => h (List.any_eq_true.mpr ⟨x, hx, by simpa using e⟩)
    rw [List.find?_append]
    by_cases hj : j = k
    · subst hj
      have : kvs.find? (fun kv => decide (kv.1 = j)) = none := by
        rw [List.find?_eq_none]; intro x hx; simpa using hn x hx
      rw [this]; simp
    · rw [if_neg hj]
      cases kvs.find? (fun kv => decide (kv.1 = j)) with
      | some x => rfl
      | none => simp [List.find?_cons, Ne.symm hj]
noncomputable abbrev lob (items : List Value) (n : Nat) : Obj := ⟨.type "list", none, .seq items.toArray n, #[]⟩
section
variable {prog : Program} {w : World} {A : Around} {E : Value → Shared → Prop} {h g : Heap} {gs : Array GenState} {dr : Drawn} {tk : Nat} {os : OsState} {L a : Addr} {nm : List Str} {ls : List (Option Value)} {mu : List (Addr × Obj)} {q : Str} {sc : Scope} {cd : Value} {d l : Addr} {o : Obj} {kvs : List (Int × Value)} {k : Int} {t : Tok} {items : List Value} {n : Nat}
theorem lob_list (e : h.get? l = some (lob items n)) : h.IsList l items.toArray := ⟨_, e, rfl, n, rfl⟩
/-- methods of a dict, a list -/
theorem mD {name : Str} {id : String} {pl : Sem Bool} {Q : Value × List Value → Shared → Prop} (slot : Slot "dict" name id) (hty : typeOf (.builtin id) = pure (.type "method_descriptor")) (D : h.DictOf (intKind prog w) d kvs)
    (q : Q (.builtin id, [.ref d]) ⟨h, gs, dr, tk, os⟩) : wpAny (model prog w) A (getMethod (.ref d) name pl) Q E ⟨h, gs, dr, tk, os⟩ :=
  getMethod_builtin (s := ⟨h, gs, dr, tk, os⟩) D.typeIs PySem.F.plainAttrs_dict slot hty D.mapOf.noDict q
theorem mL {name : Str} {id : String} {pl : Sem Bool} {Q : Value × List Value → Shared → Prop} (slot : Slot "list" name id) (hty : typeOf (.builtin id) = pure (.type "method_descriptor")) (D : h.get? l = some (lob items n))
    (q : Q (.builtin id, [.ref l]) ⟨h, gs, dr, tk, os⟩) : wpAny (model prog w) A (getMethod (.ref l) name pl) Q E ⟨h, gs, dr, tk, os⟩ :=
  getMethod_builtin (s := ⟨h, gs, dr, tk, os⟩) ⟨_, D, rfl⟩ PySem.F.plainAttrs_list slot hty (fun a e => by cases e; exact ⟨_, D, rfl⟩) q
/-- d.setdefault(k, v) -/
theorem setDefault {v : Value} {j : Nat} {Q : Value → Shared → Prop} (S : St g L h nm ls mu) (hj : mu[j]? = some (d, o)) (D : DI prog w o kvs) (hd : (d == sysModules) = false) (hz : kvs.length ≤ 10000)
    (q1 : ∀ u tk, valueAt kvs k = some u → Q u ⟨h, gs, dr, tk, os⟩)
    (q2 : ∀ h' tk o', valueAt kvs k = none → DI prog w o' (stored kvs k v) → St g L h' nm ls (mu.set j (d, o')) → Q v ⟨h', gs, dr, tk, os⟩) :
    wpAny (model prog w) A (call (.builtin "dict.setdefault") [.ref d, .int k t, v]) Q E ⟨h, gs, dr, tk, os⟩ := by
  have hD := D.of (S.get hj)
  refine call_meetsIn (s := ⟨h, gs, dr, tk, os⟩) PySem.F.slot_dict_setdefault hD.typeIs PySem.F.entry_dict_setdefault (PySem.F.args_dict_setdefault_3 _ _ _) (kt_meets_setdefault (intKind prog w) d (intKind_is prog w k t) hd v)
    ⟨kvs, hD, Nat.le_trans hz (by decide), (fun u hu => q1 u _ hu), fun hn h' hmm hs => ?_⟩
  obtain ⟨o', ho', D'⟩ := Heap.dictOf_iff.mp hmm
  exact q2 h' _ o' hn D' (S.same hj hs ho')
/-- d.get(k, v) -/
theorem dGet {dflt : Value} {Q : Value → Shared → Prop} (D : h.DictOf (intKind prog w) d kvs) (hd : (d == sysModules) = false)
    (q : ∀ tk, Q ((valueAt kvs k).getD dflt) ⟨h, gs, dr, tk, os⟩) : wpAny (model prog w) A (call (.builtin "dict.get") [.ref d, .int k t, dflt]) Q E ⟨h, gs, dr, tk, os⟩ :=
  call_meetsIn (s := ⟨h, gs, dr, tk, os⟩) PySem.F.slot_dict_get D.typeIs PySem.F.entry_dict_get (PySem.F.args_dict_get_3 _ _ _) (meets_dict_get_default (intKind prog w) d (intKind_is prog w k t) hd dflt) ⟨_, D.mapOf, q _⟩
/-- l.append(v) -/
theorem append_ {v : Value} {j : Nat} {Q : Value → Shared → Prop} (S : St g L h nm ls mu) (hj : mu[j]? = some (l, lob items n)) (hz : items.length ≤ 10000)
    (q : ∀ h', St g L h' nm ls (mu.set j (l, lob (items ++ [v]) (n + 1))) → Q .none ⟨h', gs, dr, tk, os⟩) : wpAny (model prog w) A (call (.builtin "list.append") [.ref l, v]) Q E ⟨h, gs, dr, tk, os⟩ := by
  refine append_at (s := ⟨h, gs, dr, tk, os⟩) (S.get hj) (fun h' hs ho' => q h' (S.same hj hs ?_)) (by rw [List.size_toArray]; exact Nat.le_trans hz (by decide))
  rw [ho']; simp
/-- l.pop() -/
theorem pop_ {v : Value} {j : Nat} {Q : Value → Shared → Prop} (S : St g L h nm ls mu) (hj : mu[j]? = some (l, lob (items ++ [v]) n)) (hz : items.length ≤ 10000)
    (q : ∀ h', St g L h' nm ls (mu.set j (l, lob items (n + 1))) → Q v ⟨h', gs, dr, tk, os⟩) : wpAny (model prog w) A (call (.builtin "list.pop") [.ref l]) Q E ⟨h, gs, dr, tk, os⟩ := by
  refine Copied.pop_at (s := ⟨h, gs, dr, tk, os⟩) (S.get hj) (by simp) (fun h' hs ho' => q h' (S.same hj hs ?_)) (by rw [List.size_toArray]; simp; exact Nat.le_trans (Nat.succ_le_succ hz) (by decide))
  rw [ho']; simp
/-- set() -/
noncomputable abbrev sob (led : Bool) : Obj := { cls := .type "set", dict := none, data := .set #[] 0 (.fresh 0 0 led) }
theorem newS {Q : Value → Shared → Prop} (S : St g L h nm ls mu) (q : ∀ led h', St g L h' nm ls ((h.objs.size, sob led) :: mu) → Q (.ref h.objs.size) ⟨h', gs, dr, tk, os⟩) :
    wpAny (model prog w) A (call (.type "set") []) Q E ⟨h, gs, dr, tk, os⟩ :=
  call_set_0 (s := ⟨h, gs, dr, tk, os⟩) fun led => q led _ (S.push _)
end
end Mine
end
section
set_option Elab.async false
set_option linter.unusedVariables false
namespace Mine
/-! plain side: what the matcher computes -/
/-- places of k -/
noncomputable def idxs (k : Int) : List Int → Int → List Int
  | [], _ => []
  | y :: ys, n => if y = k then n :: idxs k ys (n + 1) else idxs k ys (n + 1)
/-- a block: a[i..i+k] = b[j..j+k] within the bounds -/
structure Blk (a b : List Int) (alo ahi blo bhi i j k : Nat) : Prop where
  i0 : alo ≤ i
  i1 : i + k ≤ ahi
  j0 : blo ≤ j
  j1 : j + k ≤ bhi
  eq : ∀ t, t < k → a[i + t]? = b[j + t]? ∧ (a[i + t]?).isSome
/-- the longest, then first in a, then first in b -/
structure Best (a b : List Int) (alo ahi blo bhi i j k : Nat) : Prop where
  blk : Blk a b alo ahi blo bhi i j k
  zero : k = 0 → i = alo ∧ j = blo
  most : ∀ i' j' k', Blk a b alo ahi blo bhi i' j' k' → 0 < k' → k' ≤ k ∧ (k' = k → i < i' ∨ (i = i' ∧ j ≤ j'))
inductive GM (a b : List Int) : Nat → Nat → Nat → Nat → Nat → Prop
  | none {alo ahi blo bhi : Nat} : (∀ i j, ¬ Blk a b alo ahi blo bhi i j 1) → GM a b alo ahi blo bhi 0
  | step {alo ahi blo bhi i j k m1 m2 : Nat} : Best a b alo ahi blo bhi i j k → 0 < k → GM a b alo i blo j m1 → GM a b (i + k) ahi (j + k) bhi m2 → GM a b alo ahi blo bhi (k + m1 + m2)
noncomputable def cnt (k : Int) (ys : List Int) : Int := (ys.count k : Nat)
noncomputable def qm : List Int → (Int → Int) → Nat
  | [], _ => 0
  | x :: xs, f => (if 0 < f x then 1 else 0) + qm xs fun y => if y = x then f x - 1 else f y
end Mine
end
section
set_option Elab.async false
set_option maxRecDepth 100000
set_option linter.unusedVariables false
namespace Mine
open PySem PySem.W PySem.Calls PyProof.Rows
section
variable {prog : Program} {w : World} {A : Around} {E : Value → Shared → Prop} {h g : Heap} {gs : Array GenState} {dr : Drawn} {tk : Nat} {os : OsState} {L a : Addr} {nm : List Str} {ls : List (Option Value)} {mu : List (Addr × Obj)} {q : Str} {sc : Scope} {cd : Value} {d l : Addr} {o : Obj} {kvs : List (Int × Value)} {k : Int} {t : Tok} {items : List Value} {n : Nat}
/-- f(..), f a bound built-in -/
theorem cBd {s : Shared} {pos : Pos} {u : Addr} {id : String} {x : Addr} {env : Env} {e : Expr} {rest : List Expr} {Q : Value → Shared → Prop}
    (k : wpAny (model prog w) A (spliced (backTo pos (starEach (e :: rest) env))) (fun vs s₁ => s₁.heap.get? u = some (bmObj id x) ∧ wpAny (model prog w) A (call (.ref u) vs) Q E s₁) E s)
    (he : starEach (e :: rest) env = (false, eval e env) :: starEach rest env := by rfl) (hplain : (backTo pos (starEach rest env)).any (·.1) = false := by rfl) :
    wpAny (model prog w) A (callWith pos (.ref u) [] (backTo pos (starEach (e :: rest) env)) []) Q E s := by
  rw [he] at k ⊢
  refine callWith_of (P := fun h => h.get? u = some (bmObj id x)) (by show ((false || (backTo pos (starEach rest env)).any (·.1)) || false) = false; rw [hplain]; rfl) (fun h hp => ⟨.machine, .inr (.inl rfl), ?_⟩) (evalArgs_plain k)
  refine (Looks.ld (part := none) hp).andThen ?_
  exact Looks.now
theorem contB {Q : Value → Shared → Prop} (S : St g L h nm ls mu) (D : h.DictOf (intKind prog w) d kvs)
    (q : ∀ h' tk, St g L h' nm ls ((h.objs.size, bmObj "dict.__contains__" d) :: mu) → Q (.ref h.objs.size) ⟨h', gs, dr, tk, os⟩) :
    wpAny (model prog w) A (getAttr (.ref d) (Str.ofString "__contains__") true) Q E ⟨h, gs, dr, tk, os⟩ := by
  obtain ⟨o, ho, D'⟩ := Heap.dictOf_iff.mp D
  exact getBM bm_dcont ho (DI.cls D') (DI.dict D') (DI.notCls D') (bind_dcont ho (DI.cls D') ⟨rfl, q _ _ (S.push _)⟩)
theorem callDCont {x : Addr} {Q : Value → Shared → Prop} (hx : h.get? x = some (bmObj "dict.__contains__" d)) (hd : (d == sysModules) = false) (D : h.DictOf (intKind prog w) d kvs)
    (q : ∀ tk, Q (.bool (valueAt kvs k).isSome) ⟨h, gs, dr, tk, os⟩) : wpAny (model prog w) A (call (.ref x) [.int k t]) Q E ⟨h, gs, dr, tk, os⟩ := by
  obtain ⟨o, ho, D'⟩ := Heap.dictOf_iff.mp D
  exact callBound hx (fun A Q k => chk_dcont ho (DI.cls D') (DI.notCls D') k) (by decide +kernel) F.entry_dict_contains (meets_dict_contains (intKind prog w) d (intKind_is prog w k t) hd) ⟨_, D.mapOf, q _⟩
theorem scontB {led : Bool} {Q : Value → Shared → Prop} (S : St g L h nm ls mu) (D : h.get? d = some (sob led))
    (q : ∀ h' tk, St g L h' nm ls ((h.objs.size, bmObj "set.__contains__" d) :: mu) → Q (.ref h.objs.size) ⟨h', gs, dr, tk, os⟩) :
    wpAny (model prog w) A (getAttr (.ref d) (Str.ofString "__contains__") true) Q E ⟨h, gs, dr, tk, os⟩ :=
  getBM bm_scont D rfl rfl (fun c e => nomatch e) (bind_scont D rfl ⟨rfl, q _ _ (S.push _)⟩)
theorem meets_scont (led : Bool) : MeetsIn prog w (Builtin.«frozenset.__contains__» ⟨[.ref d, .int k t], []⟩) (fun _ R s => s.heap.get? d = some (sob led) ∧ R (.ok (.ret (.bool false))) { s with toks := s.toks + 1 }) :=
  .of_wp fun A R s ⟨ho, hr⟩ => by
    have hS : s.heap.SetOf (intKind prog w) d (fun _ => false) 0 := (setObjOf_fresh (knd := intKind prog w) led).setOf ho (by unfold scanBound; omega)
    unfold Builtin.«frozenset.__contains__» Builtin.Frozenset.oneOther
    simp only [List.isEmpty_nil, bind_assoc]
    unfold Builtin.Frozenset.addrOf Builtin.Frozenset.withSetAsKey setContains
    refine wpAny_bind (wpAny_pure ?_)
    try dsimp only
    refine wpAny_bind (wpAny_pure ?_)
    try dsimp only
    refine wpAny_bind (wpAny_tryCatch ?_)
    refine wpAny_holding ?_
    refine wpAny_bind ((intKind prog w).pyHash (intKind_is prog w k t) ?_)
    refine wpAny_bind (wpAny_setFind_of (s := { s with toks := s.toks + 1 }) (intKind_is prog w k t) rfl hS fun r hr' => ?_)
    refine wpAny_pure ?_
    show wpAny _ _ (ret (Value.bool r.isSome)) _ _ _
    rw [hr']
    exact wpAny_pure ⟨_, rfl, hr⟩
theorem callSCont {x : Addr} {led : Bool} {Q : Value → Shared → Prop} (hx : h.get? x = some (bmObj "set.__contains__" d)) (D : h.get? d = some (sob led))
    (q : ∀ tk, Q (.bool false) ⟨h, gs, dr, tk, os⟩) : wpAny (model prog w) A (call (.ref x) [.int k t]) Q E ⟨h, gs, dr, tk, os⟩ :=
  callBound hx (fun A Q k => chk_scont D rfl (fun c e => nomatch e) k) (by decide +kernel) entry_set_contains (meets_scont led) ⟨D, q _⟩
/-- items -/
theorem itemD {value slice : Expr} {v : Value} {Q : Value → Shared → Prop} (D : h.DictOf (intKind prog w) d kvs) (hv : valueAt kvs k = some v) (q : ∀ tk, Q v ⟨h, gs, dr, tk, os⟩)
    (hs : subscripted slice false (.ref d) (.int k t) = operate [.ref d, .int k t] (getItem (.ref d) (.int k t)) := by with_unfolding_all rfl) : wpAny (model prog w) A (subscriptTail value slice (.ref d) (.int k t)) Q E ⟨h, gs, dr, tk, os⟩ :=
  tail_any (s := ⟨h, gs, dr, tk, os⟩) D.typeIs PySem.F.slot_dict_getitem.lookup (getI D hv q) hs
theorem itemL {value slice : Expr} {v : Value} {Q : Value → Shared → Prop} (hl : h.IsList l items.toArray) (h0 : 0 ≤ k) (hhi : k < 2 ^ 63) (hv : items[k.toNat]? = some v) (q : Q v ⟨h, gs, dr, tk, os⟩)
    (hs : subscripted slice false (.ref l) (.int k t) = operate [.ref l, .int k t] (getItem (.ref l) (.int k t)) := by with_unfolding_all rfl) : wpAny (model prog w) A (subscriptTail value slice (.ref l) (.int k t)) Q E ⟨h, gs, dr, tk, os⟩ :=
  tail_any (s := ⟨h, gs, dr, tk, os⟩) hl.typeIs slot_list_getitem.lookup (wpAny_getItem_list hl h0 hhi (by simpa using hv) q) hs
end
end Mine
end
section
set_option Elab.async false
set_option linter.unusedVariables false
namespace Mine
section
variable {a b : List Int} {alo ahi blo bhi i j k : Nat}
/-- the longest common ending of a[alo..i], b[blo..j] -/
noncomputable def suf (a b : List Int) (alo blo : Nat) : Nat → Nat → Nat
  | i + 1, j + 1 => if alo ≤ i ∧ blo ≤ j ∧ a[i]? = b[j]? ∧ (a[i]?).isSome = true then suf a b alo blo i j + 1 else 0
  | _, _ => 0
theorem suf_zero_r : suf a b alo blo i 0 = 0 := by cases i <;> rfl
theorem suf_zero_l : suf a b alo blo 0 j = 0 := by cases j <;> rfl
theorem suf_le : ∀ (i j : Nat), suf a b alo blo i j ≤ i - alo ∧ suf a b alo blo i j ≤ j - blo
  | 0, j => by rw [suf_zero_l]; lia
  | i + 1, 0 => by rw [suf_zero_r]; lia
  | i + 1, j + 1 => by
    have ih := suf_le i j
    simp only [suf]
    split
    · rename_i h; lia
    · (clear ih; lia)
theorem suf_eq : ∀ (i j t : Nat), t < suf a b alo blo i j → a[i - suf a b alo blo i j + t]? = b[j - suf a b alo blo i j + t]? ∧ (a[i - suf a b alo blo i j + t]?).isSome = true
  | 0, j, t => by rw [suf_zero_l]; lia
  | i + 1, 0, t => by rw [suf_zero_r]; lia
  | i + 1, j + 1, t => by
    have ih := suf_eq i j t
    have hl := suf_le (a := a) (b := b) (alo := alo) (blo := blo) i j
    simp only [suf]
    split
    · rename_i h
      intro ht
      have e1 : i + 1 - (suf a b alo blo i j + 1) = i - suf a b alo blo i j := by (clear ht h hl; lia)
      have e2 : j + 1 - (suf a b alo blo i j + 1) = j - suf a b alo blo i j := by (clear e1 ht h hl; lia)
      rw [e1, e2]
      by_cases e : t < suf a b alo blo i j
      · exact ih e
      · have e3 : i - suf a b alo blo i j + t = i := by (clear e1; lia)
        have e4 : j - suf a b alo blo i j + t = j := by (clear e2; lia)
        rw [e3, e4]
        exact ⟨h.2.2.1, h.2.2.2⟩
    · (clear hl; omega)
theorem suf_blk (h1 : alo ≤ i) (h2 : blo ≤ j) (h3 : i ≤ ahi) (h4 : j ≤ bhi) : Blk a b alo ahi blo bhi (i - suf a b alo blo i j) (j - suf a b alo blo i j) (suf a b alo blo i j) := by
  have hl := suf_le (a := a) (b := b) (alo := alo) (blo := blo) i j
  exact ⟨by (clear h4 h3 h2; lia), by (clear h4 h2; lia), by (clear h4 h3; lia), by (clear h3; lia), suf_eq i j⟩
theorem blk_suf : ∀ (k : Nat), Blk a b alo ahi blo bhi i j k → k ≤ suf a b alo blo (i + k) (j + k)
  | 0, _ => Nat.zero_le _
  | k + 1, h => by
    have ih := blk_suf k ⟨h.i0, by have := h.i1; lia, h.j0, by have := h.j1; lia, fun t ht => h.eq t (by lia)⟩
    have e := h.eq k (by (clear ih; lia))
    have h1 := h.i0
    have h2 := h.j0
    show k + 1 ≤ suf a b alo blo (i + k + 1) (j + k + 1)
    simp only [suf]
    rw [if_pos ⟨by lia, by (clear h1 e ih; lia), e.1, e.2⟩]
    lia
/-- the best while row i is looked at: of the places in js -/
structure BC (a b : List Int) (alo blo bhi i : Nat) (js : List Int) (bi bj bk : Nat) : Prop where
  zero : bk = 0 → bi = alo ∧ bj = blo
  blk : Blk a b alo (i + 1) blo bhi bi bj bk
  cand : 0 < bk → bi + bk ≤ i ∨ ((bj + bk : Nat) : Int) - 1 ∈ js
  most : ∀ i' j' k', Blk a b alo (i + 1) blo bhi i' j' k' → 0 < k' → (i' + k' ≤ i ∨ ((j' + k' : Nat) : Int) - 1 ∈ js) → k' ≤ bk ∧ (k' = bk → bi < i' ∨ (bi = i' ∧ bj ≤ j'))
variable {bi bj bk : Nat} {js : List Int}
theorem Blk.wide {ahi' : Nat} (h : Blk a b alo ahi blo bhi i j k) (e : ahi ≤ ahi') : Blk a b alo ahi' blo bhi i j k := ⟨h.i0, Nat.le_trans h.i1 e, h.j0, h.j1, h.eq⟩
theorem BC.start (h : Best a b alo i blo bhi bi bj bk) : BC a b alo blo bhi i [] bi bj bk where
  zero := h.zero
  blk := h.blk.wide (Nat.le_succ _)
  cand := fun _ => .inl h.blk.i1
  most := fun i' j' k' hb hk hc => h.most i' j' k' ⟨hb.i0, hc.elim id (fun m => by simp at m), hb.j0, hb.j1, hb.eq⟩ hk
theorem BC.skip (h : BC a b alo blo bhi i js bi bj bk) (hj : j < blo) : BC a b alo blo bhi i (js ++ [(j : Int)]) bi bj bk where
  zero := h.zero
  blk := h.blk
  cand := fun hk => (h.cand hk).imp id fun m => List.mem_append_left _ m
  most := fun i' j' k' hb hk hc => h.most i' j' k' hb hk (hc.imp id fun m => by
    rcases List.mem_append.mp m with m | m
    · exact m
    · have := List.mem_singleton.mp m
      have := hb.j0
      lia)
theorem BC.new (h : BC a b alo blo bhi i js bi bj bk) (hi : alo ≤ i) (hj : blo ≤ j) (hj' : j < bhi) (hk : bk < suf a b alo blo (i + 1) (j + 1)) :
    BC a b alo blo bhi i (js ++ [(j : Int)]) (i + 1 - suf a b alo blo (i + 1) (j + 1)) (j + 1 - suf a b alo blo (i + 1) (j + 1)) (suf a b alo blo (i + 1) (j + 1)) := by
  have hl := suf_le (a := a) (b := b) (alo := alo) (blo := blo) (i + 1) (j + 1)
  refine ⟨fun e => by (clear hl hj' hj hi; lia), suf_blk (by lia) (by (clear hl hk hj' hi; lia)) (Nat.le_refl _) (by (clear hl hk hj hi; lia)), fun _ => .inr (List.mem_append_right _ (List.mem_singleton.mpr (by (clear hk hj'; lia)))), fun i' j' k' hb hk' hc => ?_⟩
  have old : (i' + k' ≤ i ∨ ((j' + k' : Nat) : Int) - 1 ∈ js) → k' ≤ suf a b alo blo (i + 1) (j + 1) ∧ (k' = suf a b alo blo (i + 1) (j + 1) → i + 1 - suf a b alo blo (i + 1) (j + 1) < i' ∨ (i + 1 - suf a b alo blo (i + 1) (j + 1) = i' ∧ j + 1 - suf a b alo blo (i + 1) (j + 1) ≤ j')) := fun hc => by
    have := (h.most i' j' k' hb hk' hc).1
    exact ⟨by (clear hc hk' hl hj' hj hi; lia), fun e => by (clear hc hk' hl hj' hj hi; lia)⟩
  rcases hc with hc | hc
  · exact old (.inl hc)
  · rcases List.mem_append.mp hc with m | m
    · exact old (.inr m)
    · have e := List.mem_singleton.mp m
      have ej : j' + k' = j + 1 := by (clear hk' hl hk hj' hj hi; lia)
      by_cases hie : i' + k' ≤ i
      · exact old (.inl hie)
      · have ei : i' + k' = i + 1 := by have := hb.i1; (clear ej e hk' hl hk hj' hj hi; lia)
        have hs := blk_suf k' hb
        rw [ei, ej] at hs
        exact ⟨hs, fun e => .inr ⟨by (clear hs hie ej hk' hl hk hj' hj hi; lia), by (clear hs ei hie ej hk' hl hk hj' hj hi; omega)⟩⟩
theorem BC.same (h : BC a b alo blo bhi i js bi bj bk) (hlt : ∀ x ∈ js, x < (j : Int)) (hk : suf a b alo blo (i + 1) (j + 1) ≤ bk) : BC a b alo blo bhi i (js ++ [(j : Int)]) bi bj bk := by
  refine ⟨h.zero, h.blk, fun hk => (h.cand hk).imp id fun m => List.mem_append_left _ m, fun i' j' k' hb hk' hc => ?_⟩
  rcases hc with hc | hc
  · exact h.most i' j' k' hb hk' (.inl hc)
  · rcases List.mem_append.mp hc with m | m
    · exact h.most i' j' k' hb hk' (.inr m)
    · have e := List.mem_singleton.mp m
      have ej : j' + k' = j + 1 := by (clear hk' hk; lia)
      by_cases hie : i' + k' ≤ i
      · exact h.most i' j' k' hb hk' (.inl hie)
      · have ei : i' + k' = i + 1 := by have := hb.i1; (clear ej hk' hk; lia)
        have hs := blk_suf k' hb
        rw [ei, ej] at hs
        refine ⟨by (clear hie ej hk'; lia), fun e => ?_⟩
        rcases h.cand (by (clear hs hie ej hk; lia)) with hc | hc
        · exact .inl (by (clear hs hie ej hk' hk; lia))
        · have h1 := hlt _ hc
          have := h.blk.i1
          by_cases hb1 : bi + bk ≤ i
          · exact .inl (by (clear h1 hs hie ej hk' hk; omega))
          · exact .inr ⟨by (clear h1 hs hie ej hk' hk; lia), by (clear hs hie ej hk' hk; lia)⟩
theorem BC.end (h : BC a b alo blo bhi i js bi bj bk) (hall : ∀ t : Nat, t < bhi → b[t]? = a[i]? → (t : Int) ∈ js) : Best a b alo (i + 1) blo bhi bi bj bk where
  blk := h.blk
  zero := h.zero
  most := fun i' j' k' hb hk => h.most i' j' k' hb hk (by
    by_cases hie : i' + k' ≤ i
    · exact .inl hie
    · right
      have ei : i' + k' = i + 1 := by have := hb.i1; lia
      have e := hb.eq (k' - 1) (by lia)
      have e1 : i' + (k' - 1) = i := by lia
      rw [e1] at e
      have := hall (j' + (k' - 1)) (by have := hb.j1; lia) e.1.symm
      have e2 : ((j' + k' : Nat) : Int) - 1 = ((j' + (k' - 1) : Nat) : Int) := by lia
      rw [e2]; exact this)
theorem Best.start (h : blo ≤ bhi) : Best a b alo alo blo bhi alo blo 0 where
  blk := ⟨Nat.le_refl _, Nat.le_refl _, Nat.le_refl _, h, fun t ht => by (clear h; lia)⟩
  zero := fun _ => ⟨rfl, rfl⟩
  most := fun i' j' k' hb hk => by have := hb.i0; have := hb.i1; (clear h; lia)
/-- the row's table -/
noncomputable def Fi (a b : List Int) (alo blo bhi i : Nat) (k : Int) : Int := if k < bhi then (suf a b alo blo i (k + 1).toNat : Nat) else 0
noncomputable def Fj (a b : List Int) (alo blo bhi i : Nat) (js : List Int) (k : Int) : Int := if k ∈ js ∧ k < bhi then (suf a b alo blo (i + 1) (k + 1).toNat : Nat) else 0
theorem Fj_nil : Fj a b alo blo bhi i [] = fun _ => 0 := by funext k; simp [Fj]
theorem Fi_zero : Fi a b alo blo bhi alo = fun _ => 0 := by
  funext k
  unfold Fi
  have := suf_le (a := a) (b := b) (alo := alo) (blo := blo) alo (k + 1).toNat
  split <;> lia
theorem Fj_skip (hj : j < blo) : Fj a b alo blo bhi i (js ++ [(j : Int)]) = Fj a b alo blo bhi i js := by
  funext k
  unfold Fj
  by_cases e : k = j
  · subst e
    have := suf_le (a := a) (b := b) (alo := alo) (blo := blo) (i + 1) ((j : Int) + 1).toNat
    have h0 : suf a b alo blo (i + 1) ((j : Int) + 1).toNat = 0 := by lia
    rw [h0]; simp
  · simp [e]
theorem Fj_put (hj : j < bhi) : Fj a b alo blo bhi i (js ++ [(j : Int)]) = fun k => if k = (j : Int) then ((suf a b alo blo (i + 1) (j + 1) : Nat) : Int) else Fj a b alo blo bhi i js k := by
  funext k
  unfold Fj
  by_cases e : k = j
  · subst e
    have e2 : ((j : Int) + 1).toNat = j + 1 := by lia
    simp [hj, e2]
  · simp [e]
theorem Fj_end (hall : ∀ t : Nat, t < bhi → b[t]? = a[i]? → (t : Int) ∈ js) : Fj a b alo blo bhi i js = Fi a b alo blo bhi (i + 1) := by
  funext k
  unfold Fj Fi
  by_cases hk : k < bhi
  · by_cases hm : k ∈ js
    · simp [hk, hm]
    · simp only [hm, hk, false_and, if_false, if_true]
      by_cases h0 : k < 0
      · have : (k + 1).toNat = 0 := by (clear hm hk; lia)
        rw [this, suf_zero_r]; rfl
      · have e : (k + 1).toNat = k.toNat + 1 := by (clear hm hk; lia)
        rw [e]
        simp only [suf]
        rw [if_neg]
        · rfl
        · rintro ⟨_, _, h3, _⟩
          have := hall k.toNat (by lia) h3.symm
          have e2 : ((k.toNat : Nat) : Int) = k := by (clear h3 e hm hk; lia)
          rw [e2] at this
          exact hm this
  · simp [hk]
theorem suf_next (hi : alo ≤ i) (hj : blo ≤ j) (e : b[j]? = a[i]?) (hs : (a[i]?).isSome = true) : suf a b alo blo (i + 1) (j + 1) = suf a b alo blo i j + 1 := by
  simp only [suf]
  rw [if_pos ⟨hi, hj, e.symm, hs⟩]
theorem Fi_prev (hj : j ≤ bhi) : Fi a b alo blo bhi i ((j : Int) - 1) = (suf a b alo blo i j : Nat) := by
  unfold Fi
  rw [if_pos (by lia)]
  have : ((j : Int) - 1 + 1).toNat = j := by lia
  rw [this]
theorem mem_idxs {v : Int} : ∀ {ys : List Int} {n k : Int}, k ∈ idxs v ys n ↔ ∃ t : Nat, k = n + t ∧ ys[t]? = some v
  | [], n, k => by simp [idxs]
  | y :: ys, n, k => by
    have ih := mem_idxs (v := v) (ys := ys) (n := n + 1) (k := k)
    have shift : (∃ t : Nat, k = n + 1 + t ∧ ys[t]? = some v) ↔ ∃ t : Nat, k = n + (t + 1 : Nat) ∧ (y :: ys)[t + 1]? = some v := by
      constructor
      · rintro ⟨t, rfl, h⟩; exact ⟨t, by lia, by simpa using h⟩
      · rintro ⟨t, rfl, h⟩; exact ⟨t, by lia, by simpa using h⟩
    have split : (∃ t : Nat, k = n + t ∧ (y :: ys)[t]? = some v) ↔ (k = n ∧ y = v) ∨ ∃ t : Nat, k = n + (t + 1 : Nat) ∧ (y :: ys)[t + 1]? = some v := by
      constructor
      · rintro ⟨t, rfl, h⟩
        cases t with
        | zero => left; simpa using h
        | succ t => exact .inr ⟨t, rfl, h⟩
      · rintro (⟨rfl, rfl⟩ | ⟨t, rfl, h⟩)
        · exact ⟨0, by simp, by simp⟩
        · exact ⟨t + 1, rfl, h⟩
    rw [split, ← shift, ← ih]
    simp only [idxs]
    by_cases e : y = v <;> simp [e]
theorem idxs_sorted (v : Int) : ∀ (ys : List Int) (n : Int), (idxs v ys n).Pairwise (· < ·)
  | [], n => .nil
  | y :: ys, n => by
    have ih := idxs_sorted v ys (n + 1)
    simp only [idxs]
    split
    · refine .cons (fun k hk => ?_) ih
      obtain ⟨t, rfl, _⟩ := mem_idxs.mp hk
      lia
    · exact ih
theorem take_lt {l : List Int} (h : l.Pairwise (· < ·)) {c : Nat} {x : Int} (hx : l[c]? = some x) : ∀ y ∈ l.take c, y < x := by
  intro y hy
  obtain ⟨i, hi, rfl⟩ := List.getElem_of_mem hy
  rw [List.getElem_take]
  obtain ⟨hc, rfl⟩ := List.getElem?_eq_some_iff.mp hx
  rw [List.length_take] at hi
  exact List.pairwise_iff_getElem.mp h _ _ _ _ (by lia)
theorem notake {l : List Int} (h : l.Pairwise (· < ·)) {c : Nat} {x : Int} (hx : l[c]? = some x) {y : Int} (hy : y ∈ l) (hlt : y < x) : y ∈ l.take c := by
  obtain ⟨i, hi, rfl⟩ := List.getElem_of_mem hy
  obtain ⟨hc, rfl⟩ := List.getElem?_eq_some_iff.mp hx
  have : i < c := by
    rcases Nat.lt_or_ge i c with h' | h'
    · exact h'
    · rcases Nat.lt_or_eq_of_le h' with h' | h'
      · have := List.pairwise_iff_getElem.mp h _ _ hc hi h'
        lia
      · subst h'; lia
  exact List.mem_iff_getElem.mpr ⟨i, by rw [List.length_take]; (clear hlt hx; lia), by rw [List.getElem_take]⟩
/-- a best one can't be drawn out -/
theorem Best.left (h : Best a b alo ahi blo bhi bi bj bk) (h1 : alo < bi) (h2 : blo < bj) : ¬ (a[bi - 1]? = b[bj - 1]? ∧ (a[bi - 1]?).isSome = true) := by
  intro e
  have hb := h.blk
  by_cases hk : bk = 0
  · have := h.zero hk; lia
  have := (h.most (bi - 1) (bj - 1) (bk + 1) ⟨by (clear hk e h2; lia), by have := hb.i1; (clear hk e h2; lia), by (clear hk e h1; lia), by have := hb.j1; (clear hk e h1; lia), fun t ht => by
    cases t with
    | zero => simpa using e
    | succ t =>
      have := hb.eq t (by (clear hk e h2 h1; lia))
      have e1 : bi - 1 + (t + 1) = bi + t := by lia
      have e2 : bj - 1 + (t + 1) = bj + t := by lia
      rw [e1, e2]; exact this⟩ (by (clear hk e h2 h1; lia))).1
  (clear hk e h2 h1; lia)
theorem Best.right (h : Best a b alo ahi blo bhi bi bj bk) (h1 : bi + bk < ahi) (h2 : bj + bk < bhi) : ¬ (a[bi + bk]? = b[bj + bk]? ∧ (a[bi + bk]?).isSome = true) := by
  intro e
  have hb := h.blk
  have := (h.most bi bj (bk + 1) ⟨hb.i0, by lia, hb.j0, by (clear e h1; lia), fun t ht => by
    by_cases ht' : t < bk
    · exact hb.eq t ht'
    · have : t = bk := by (clear e h2 h1; lia)
      subst this; exact e⟩ (by (clear e h2 h1; lia))).1
  (clear e h2 h1; lia)
end
end Mine
end
section
set_option Elab.async false
set_option linter.unusedVariables false
namespace Mine
noncomputable abbrev Rg := Nat × Nat × Nat × Nat
inductive GMs (a b : List Int) : List Rg → List Nat → Prop
  | nil : GMs a b [] []
  | cons {r : Rg} {m : Nat} {Q : List Rg} {ms : List Nat} : GM a b r.1 r.2.1 r.2.2.1 r.2.2.2 m → GMs a b Q ms → GMs a b (r :: Q) (m :: ms)
section
variable {a b : List Int} {alo ahi blo bhi i j k : Nat}
theorem GMs.append {Q Q' : List Rg} {ms ms' : List Nat} (h : GMs a b Q ms) (h' : GMs a b Q' ms') : GMs a b (Q ++ Q') (ms ++ ms') := by
  induction h with
  | nil => exact h'
  | cons g _ ih => exact .cons g ih
theorem GMs.split {Q Q' : List Rg} : ∀ {ms : List Nat}, GMs a b (Q ++ Q') ms → ∃ m1 m2, ms = m1 ++ m2 ∧ GMs a b Q m1 ∧ GMs a b Q' m2 := by
  induction Q with
  | nil => intro ms h; exact ⟨[], ms, rfl, .nil, h⟩
  | cons r Q ih =>
    intro ms h
    cases h with
    | cons g h =>
      obtain ⟨m1, m2, rfl, h1, h2⟩ := ih h
      exact ⟨_ :: m1, m2, rfl, .cons g h1, h2⟩
noncomputable def mq (Q : List Rg) : Nat := (Q.map fun r => 2 * (r.2.1 - r.1) + 1).sum
structure QI (a b : List Int) (Q : List Rg) (ks : List Nat) : Prop where
  gm : ∀ ms, GMs a b Q ms → GM a b 0 a.length 0 b.length (ks.sum + ms.sum)
  bd : ∀ r ∈ Q, r.1 ≤ r.2.1 ∧ r.2.1 ≤ a.length ∧ r.2.2.1 ≤ r.2.2.2 ∧ r.2.2.2 ≤ b.length
  sa : ks.sum + (Q.map fun r => r.2.1 - r.1).sum ≤ a.length
  sb : ks.sum + (Q.map fun r => r.2.2.2 - r.2.2.1).sum ≤ b.length
  pos : ks.length ≤ ks.sum
  me : mq Q ≤ 2 * a.length + 1
theorem mq_len (Q : List Rg) : Q.length ≤ mq Q := by
  induction Q with
  | nil => exact Nat.le_refl _
  | cons r Q ih => simp only [mq, List.map_cons, List.sum_cons, List.length_cons] at ih ⊢; lia
theorem QI.start : QI a b [(0, a.length, 0, b.length)] [] where
  gm := fun ms h => by cases h with | cons g h => cases h; simpa using g
  bd := fun r hr => by rw [List.mem_singleton.mp hr]; simp
  sa := by simp
  sb := by simp
  pos := by simp
  me := by simp [mq]
theorem QI.zero {Q : List Rg} {ks : List Nat} (h : QI a b (Q ++ [(alo, ahi, blo, bhi)]) ks) (B : Best a b alo ahi blo bhi i j 0) : QI a b Q ks where
  gm := fun ms hm => by
    have := h.gm (ms ++ [0]) (hm.append (.cons (.none fun i' j' hb => by have := (B.most i' j' 1 hb (by lia)).1; lia) .nil))
    simpa using this
  bd := fun r hr => h.bd r (List.mem_append_left _ hr)
  sa := by have := h.sa; simp at this; lia
  sb := by have := h.sb; simp at this; lia
  pos := h.pos
  me := by have := h.me; simp [mq] at this ⊢; lia
noncomputable def kids (alo ahi blo bhi i j k : Nat) : List Rg := (if alo < i ∧ blo < j then [(alo, i, blo, j)] else []) ++ (if i + k < ahi ∧ j + k < bhi then [(i + k, ahi, j + k, bhi)] else [])
theorem gm_empty (h : ahi ≤ alo ∨ bhi ≤ blo) : GM a b alo ahi blo bhi 0 := .none fun i j hb => by
  have := hb.i0; have := hb.i1; have := hb.j0; have := hb.j1
  lia
theorem QI.step {Q : List Rg} {ks : List Nat} (h : QI a b (Q ++ [(alo, ahi, blo, bhi)]) ks) (B : Best a b alo ahi blo bhi i j k) (hk : 0 < k) : QI a b (Q ++ kids alo ahi blo bhi i j k) (ks ++ [k]) ∧ mq (Q ++ kids alo ahi blo bhi i j k) < mq (Q ++ [(alo, ahi, blo, bhi)]) := by
  have b1 := B.blk.i0
  have b2 := B.blk.i1
  have b3 := B.blk.j0
  have b4 := B.blk.j1
  obtain ⟨r1, r2, r3, r4⟩ := h.bd (alo, ahi, blo, bhi) (by simp)
  simp only at r1 r2 r3 r4
  have sa := h.sa
  have sb := h.sb
  have me := h.me
  have pos := h.pos
  simp only [List.map_append, List.sum_append, List.map_cons, List.map_nil, List.sum_cons, List.sum_nil, mq] at sa sb me
  have hlt : mq (Q ++ kids alo ahi blo bhi i j k) < mq (Q ++ [(alo, ahi, blo, bhi)]) := by
    simp only [mq, kids, List.map_append, List.sum_append]
    split <;> split <;> simp <;> lia
  refine ⟨⟨fun ms hm => ?_, fun r hr => ?_, ?_, ?_, ?_, Nat.le_trans (Nat.le_of_lt hlt) h.me⟩, hlt⟩
  · obtain ⟨m1, m2, rfl, h1, h2⟩ := hm.split
    obtain ⟨n1, n2, rfl, h3, h4⟩ := h2.split
    have g1 : GM a b alo i blo j n1.sum := by
      split at h3
      · cases h3 with | cons g h => cases h; simpa using g
      · cases h3; exact gm_empty (by lia)
    have g2 : GM a b (i + k) ahi (j + k) bhi n2.sum := by
      split at h4
      · cases h4 with | cons g h => cases h; simpa using g
      · cases h4; exact gm_empty (by lia)
    have := h.gm (m1 ++ [k + n1.sum + n2.sum]) (h1.append (.cons (.step B hk g1 g2) .nil))
    have e : ks.sum + (m1 ++ [k + n1.sum + n2.sum]).sum = (ks ++ [k]).sum + (m1 ++ (n1 ++ n2)).sum := by simp; lia
    rw [e] at this; exact this
  · rcases List.mem_append.mp hr with hr | hr
    · exact h.bd r (List.mem_append_left _ hr)
    · rcases List.mem_append.mp hr with hr | hr
      · split at hr
        · rw [List.mem_singleton.mp hr]; simp only; lia
        · simp at hr
      · split at hr
        · rw [List.mem_singleton.mp hr]; simp only; lia
        · simp at hr
  · simp only [kids, List.map_append, List.sum_append]
    split <;> split <;> simp <;> lia
  · simp only [kids, List.map_append, List.sum_append]
    split <;> split <;> simp <;> lia
  · simp; lia
theorem QI.done {ks : List Nat} (h : QI a b [] ks) : GM a b 0 a.length 0 b.length ks.sum := by simpa using h.gm [] .nil
theorem QI.few {Q : List Rg} {ks : List Nat} (h : QI a b Q ks) : ks.length ≤ a.length ∧ ks.length ≤ b.length := by have := h.sa; have := h.sb; have := h.pos; lia
end
end Mine
end
section
set_option Elab.async false
set_option maxRecDepth 100000
set_option linter.unusedVariables false
namespace Mine
open PySem PySem.W PySem.Calls PyProof.Rows
theorem Attr.at {K : Frag} {C : Addr} {an : List Str} {x : Str} {i : Nat} (t : Attr K C an x i) : At K C an x i := ⟨t.nd, t.place, t.cls, t.take⟩
/-- fresh objects of a call -/
structure Fresh (s s' : Shared) (new : List (Addr × Obj)) : Prop where
  here : ∀ p ∈ new, s'.heap.get? p.1 = some p.2
  not : ∀ p ∈ new, s.heap.get? p.1 = none
  nd : (new.map (·.1)).Nodup
theorem Fresh.nil {s s' : Shared} : Fresh s s' [] := ⟨fun _ h => (nomatch h), fun _ h => (nomatch h), List.nodup_nil⟩
/-- what is known: in the base, or in the ledger -/
noncomputable def Kn (g : Heap) (mu : List (Addr × Obj)) (b : Addr) (o : Obj) : Prop := g.get? b = some o ∨ (b, o) ∈ mu
noncomputable abbrev Rel := Addr → Obj → Prop
noncomputable def Rel.and (R : Rel) (new : List (Addr × Obj)) : Rel := fun b o => R b o ∨ (b, o) ∈ new
theorem Rel.nil {R : Rel} {b : Addr} {o : Obj} (h : R b o) (new : List (Addr × Obj)) : R.and new b o := .inl h
section
variable {s s' : Shared} {g h : Heap} {L : Addr} {nm : List Str} {vs : List (Option Value)} {mu mu' new : List (Addr × Obj)} {W : List Addr}
theorem St.kn (S : St g L h nm vs mu) {b : Addr} {o : Obj} (k : Kn g mu b o) : h.get? b = some o := k.elim (S.F.keep b o) fun m => (S.N _ m).1
theorem St.grow {h' : Heap} (S : St g L s.heap nm vs mu) (S' : St g L h' nm vs mu') (ha : mu'.map (·.1) = mu.map (·.1)) (hn : ∀ p ∈ new, h'.get? p.1 = some p.2 ∧ s.heap.get? p.1 = none) (nd : (new.map (·.1)).Nodup) : St g L h' nm vs (mu' ++ new) := by
  refine ⟨S'.F, fun p hp => ?_, ?_⟩
  · rcases List.mem_append.mp hp with hp | hp
    · exact S'.N p hp
    · obtain ⟨h1, h2⟩ := hn p hp
      refine ⟨h1, fun e => ?_, ?_⟩
      · obtain ⟨oL, es, ep, hL, _⟩ := S.F.ns
        rw [e, hL] at h2; cases h2
      · cases hg : g.get? p.1 with
        | none => rfl
        | some o => rw [S.F.keep _ _ hg] at h2; cases h2
  · rw [List.map_append, List.nodup_append]
    refine ⟨S'.nd, nd, fun a ha1 b hb e => ?_⟩
    subst e
    rw [ha] at ha1
    obtain ⟨p, hp, e1⟩ := List.mem_map.mp ha1
    obtain ⟨q, hq, e2⟩ := List.mem_map.mp hb
    have h1 := (S.N p hp).1
    have h2 := (hn q hq).2
    rw [e1, ← e2, h2] at h1; cases h1
/-- a call that changes the object at place j and leaves new ones -/
theorem St.callN {j : Nat} {d : Addr} {o o' : Obj} (S : St g L s.heap nm vs mu) (M : Mod [d] s s') (hj : mu[j]? = some (d, o)) (ho : s'.heap.get? d = some o') (F : Fresh s s' new) : St g L s'.heap nm vs (mu.set j (d, o') ++ new) :=
  St.grow S (S.call1 M hj ho) (by
    have hlt := lt_of_get hj
    rw [List.map_set]
    apply List.ext_getElem?
    intro k
    rw [List.getElem?_set]
    split
    · rename_i hjk; subst hjk; have e2 := (List.getElem?_eq_some_iff.mp hj).2; simp [hlt, e2]
    · rfl) (fun p hp => ⟨F.here p hp, F.not p hp⟩) F.nd
/-- at a body's end: what is left in the ledger is fresh -/
theorem St.fresh {s₀ : Shared} (S : St (hideAll s₀.heap W) L h nm vs (mu ++ new)) (hW : mu.map (·.1) = W) (e : s'.heap = h) : Fresh s₀ s' new := by
  have nd := S.nd
  rw [List.map_append, List.nodup_append] at nd
  refine ⟨fun p hp => e ▸ (S.N p (List.mem_append_right _ hp)).1, fun p hp => ?_, nd.2.1⟩
  have h1 := (S.N p (List.mem_append_right _ hp)).2.2
  cases hg : s₀.heap.get? p.1 with
  | none => rfl
  | some o =>
    rw [hideAll_get _ hg fun hm => nd.2.2 _ (hW ▸ hm) _ (List.mem_map_of_mem hp) rfl] at h1; cases h1
end
/-! lists of ints, the matcher's state -/
noncomputable def LI (R : Rel) (l : Addr) (xs : List Int) : Prop := ∃ items n, R l (lob items n) ∧ IntsAre items xs
theorem LI.mono {R R' : Rel} {l : Addr} {xs : List Int} (h : LI R l xs) (m : ∀ b o, R b o → R' b o) : LI R' l xs := let ⟨i, n, a, b⟩ := h; ⟨i, n, m _ _ a, b⟩
section
variable (prog : Program) (w : World)
/-- b2j -/
noncomputable def B2 (R : Rel) (p : Addr) (ys : List Int) : Prop := ∃ o kvs, R p o ∧ DI prog w o kvs ∧ (p == sysModules) = false ∧ ∀ k, match valueAt kvs k with
  | some v => ∃ l, v = .ref l ∧ LI R l (idxs k ys 0)
  | none => idxs k ys 0 = []
/-- a dict of counts -/
noncomputable def DF (o : Obj) (f : Int → Int) : Prop := ∃ kvs, DI prog w o kvs ∧ ∀ k, match valueAt kvs k with
  | some v => ∃ t, v = .int (f k) t
  | none => f k = 0
end
noncomputable abbrev mob (d : Addr) (items : List Value) : Obj := ⟨.ref 135, some d, .seq items.toArray 0, #[]⟩
/-- matching blocks, done -/
noncomputable def MBs (R : Rel) (p : Addr) (xs ys : List Int) : Prop := ∃ (items : List Value) (n : Nat) (ks : List Nat), R p (lob items n) ∧ items.length = ks.length ∧ (∀ (c : Nat) (v : Value) (k : Nat), items[c]? = some v → ks[c]? = some k → ∃ t dd i j ti tj tk, v = .ref t ∧ R t (mob dd [.int i ti, .int j tj, .int (k : Nat) tk])) ∧ GM xs ys 0 xs.length 0 ys.length ks.sum ∧ items.length ≤ 500
structure MS (prog : Program) (w : World) (R : Rel) (vs : List Value) (oa ob : Option (Addr × List Int)) : Prop where
  isj : vs[0]? = some .none
  a : match oa with
    | some (l, xs) => vs[1]? = some (.ref l) ∧ LI R l xs ∧ xs.length ≤ 199
    | none => ∃ t, vs[1]? = some (.str (Str.ofString "") t)
  b : match ob with
    | some (l, ys) => vs[2]? = some (.ref l) ∧ LI R l ys ∧ ys.length ≤ 199 ∧ (∃ p, vs[7]? = some (.ref p) ∧ B2 prog w R p ys) ∧ (vs[6]? = some .none ∨ ∃ p o, vs[6]? = some (.ref p) ∧ R p o ∧ (p == sysModules) = false ∧ DF prog w o fun k => cnt k ys)
    | none => ∃ t, vs[2]? = some (.str (Str.ofString "") t)
  aj : ∃ t, vs[3]? = some (.bool t)
  mb : vs[4]? = some .none ∨ ∃ l xs l' ys p, oa = some (l, xs) ∧ ob = some (l', ys) ∧ vs[4]? = some (.ref p) ∧ MBs R p xs ys
  bj : ∃ p led, vs[8]? = some (.ref p) ∧ R p (sob led)
  len : vs.length = 10
/-! calls of defs of the text -/
section
variable {prog : Program} {w : World} {A : Around} {E : Value → Shared → Prop} {K : Frag} {f : Addr} {fd : FuncData} {qual : Str} {sc : Scope} {body : List Stmt} {cdv : Value}
theorem cFn {e : Expr} {rest : List Expr} {pos : Pos} {env : Env} {s : Shared} {Q : Value → Shared → Prop} (H : Fn K f fd qual sc body cdv)
    (k : wpAny (model prog w) A (spliced (backTo pos (starEach (e :: rest) env))) (fun vs s₁ => K.In s₁.heap ∧ wpAny (model prog w) A (call (.ref f) vs) Q E s₁) E s)
    (he : starEach (e :: rest) env = (false, eval e env) :: starEach rest env := by rfl) :
    wpAny (model prog w) A (callWith pos (.ref f) [] (backTo pos (starEach (e :: rest) env)) []) Q E s := by
  obtain ⟨o, hl, ho⟩ := H.at_
  exact cF ho (wpAny_mono k (fun vs s₁ h₁ => ⟨h₁.1 _ _ hl, h₁.2⟩) fun _ _ x => x) he
theorem cMn {first : List Value} {e : Expr} {rest : List Expr} {pos : Pos} {env : Env} {s : Shared} {Q : Value → Shared → Prop} (H : Fn K f fd qual sc body cdv)
    (k : wpAny (model prog w) A (spliced (backTo pos (starEach (e :: rest) env))) (fun vs s₁ => K.In s₁.heap ∧ wpAny (model prog w) A (call (.ref f) (first ++ vs)) Q E s₁) E s)
    (he : starEach (e :: rest) env = (false, eval e env) :: starEach rest env := by rfl) :
    wpAny (model prog w) A (callWith pos (.ref f) first (backTo pos (starEach (e :: rest) env)) []) Q E s := by
  obtain ⟨o, hl, ho⟩ := H.at_
  exact cM ho (wpAny_mono k (fun vs s₁ h₁ => ⟨h₁.1 _ _ hl, h₁.2⟩) fun _ _ x => x) he
theorem cMn0 {first : List Value} {pos : Pos} {env : Env} {s : Shared} {Q : Value → Shared → Prop} (H : Fn K f fd qual sc body cdv) (X : K.In s.heap)
    (k : wpAny (model prog w) A (call (.ref f) first) Q E s) : wpAny (model prog w) A (callWith pos (.ref f) first (backTo pos (starEach [] env)) []) Q E s := by
  obtain ⟨o, hl, ho⟩ := H.at_
  exact cM0 ho (X _ _ hl) k
end
end Mine
end
section
set_option Elab.async false
set_option maxRecDepth 100000
set_option linter.unusedVariables false
namespace Mine
open PySem PySem.W PySem.Calls PyProof.Rows
section
variable {prog : Program} {w : World} {R R' : Rel}
theorem B2.mono {p : Addr} {ys : List Int} (h : B2 prog w R p ys) (m : ∀ b o, R b o → R' b o) : B2 prog w R' p ys := by
  obtain ⟨o, kvs, h1, h2, h3, h4⟩ := h
  refine ⟨o, kvs, m _ _ h1, h2, h3, fun k => ?_⟩
  have := h4 k
  split at this
  · obtain ⟨l, e, hl⟩ := this
    exact ⟨l, e, hl.mono m⟩
  · exact this
theorem MBs.mono {p : Addr} {xs ys : List Int} (h : MBs R p xs ys) (m : ∀ b o, R b o → R' b o) : MBs R' p xs ys := by
  obtain ⟨items, n, ks, h1, h2, h3, h4, h5⟩ := h
  refine ⟨items, n, ks, m _ _ h1, h2, fun c v k e1 e2 => ?_, h4, h5⟩
  obtain ⟨t, dd, i, j, ti, tj, tk, e, hr⟩ := h3 c v k e1 e2
  exact ⟨t, dd, i, j, ti, tj, tk, e, m _ _ hr⟩
theorem MS.mono {vs : List Value} {oa ob : Option (Addr × List Int)} (h : MS prog w R vs oa ob) (m : ∀ b o, R b o → R' b o) : MS prog w R' vs oa ob where
  isj := h.isj
  a := by
    have := h.a
    match oa, this with
    | some (l, xs), h => exact ⟨h.1, h.2.1.mono m, h.2.2⟩
    | none, h => exact h
  b := by
    have := h.b
    match ob, this with
    | some (l, ys), h =>
      obtain ⟨h1, h2, h3, ⟨p, h4, h5⟩, h6⟩ := h
      refine ⟨h1, h2.mono m, h3, ⟨p, h4, h5.mono m⟩, ?_⟩
      rcases h6 with h6 | ⟨p, o, h6, h7, h8, h9⟩
      · exact .inl h6
      · exact .inr ⟨p, o, h6, m _ _ h7, h8, h9⟩
    | none, h => exact h
  aj := h.aj
  mb := by
    rcases h.mb with h | ⟨l, xs, l', ys, p, h1, h2, h3, h4⟩
    · exact .inl h
    · exact .inr ⟨l, xs, l', ys, p, h1, h2, h3, h4.mono m⟩
  bj := let ⟨p, led, h1, h2⟩ := h.bj; ⟨p, led, h1, m _ _ h2⟩
  len := h.len
theorem IntsAre.uniq : ∀ {vs : List Value} {xs ys : List Int}, IntsAre vs xs → IntsAre vs ys → xs = ys := by
  intro vs xs ys h
  induction h generalizing ys with
  | nil => intro h; cases h; rfl
  | cons _ _ _ ih => intro h; cases h with | cons _ _ h' => rw [ih h']
theorem lob_inj {i i' : List Value} {n n' : Nat} (e : lob i n = lob i' n') : i = i' := by
  have : (lob i n).data = (lob i' n').data := by rw [e]
  injection this with h1 h2
  simpa using congrArg Array.toList h1
theorem MS.aVal {vs : List Value} {oa ob : Option (Addr × List Int)} (h : MS prog w R vs oa ob) : ∃ va, vs[1]? = some va ∧ handedIn va = true ∧ (∀ i, va ≠ .builtin i) ∧ ∀ y, va = .ref y → ∃ xs, oa = some (y, xs) ∧ LI R y xs := by
  have := h.a
  match oa, this with
  | some (l, xs), h => exact ⟨_, h.1, rfl, fun i e => (nomatch e), fun y e => by cases e; exact ⟨xs, rfl, h.2.1⟩⟩
  | none, ⟨t, h⟩ => exact ⟨_, h, rfl, fun i e => (nomatch e), fun y e => nomatch e⟩
theorem MS.bVal {vs : List Value} {oa ob : Option (Addr × List Int)} (h : MS prog w R vs oa ob) : ∃ va, vs[2]? = some va ∧ handedIn va = true ∧ (∀ i, va ≠ .builtin i) ∧ ∀ y, va = .ref y → ∃ xs, ob = some (y, xs) ∧ LI R y xs := by
  have := h.b
  match ob, this with
  | some (l, xs), h => exact ⟨_, h.1, rfl, fun i e => (nomatch e), fun y e => by cases e; exact ⟨xs, rfl, h.2.1⟩⟩
  | none, ⟨t, h⟩ => exact ⟨_, h, rfl, fun i e => (nomatch e), fun y e => nomatch e⟩
end
section
variable {w : World} {A : Around} {E : Value → Shared → Prop} {s s' : Shared} {mg mb : Str → Option Value} {G h g : Heap} {gs : Array GenState} {dr : Drawn} {tk : Nat} {os : OsState} {L : Addr} {nm : List Str} {ls : List (Option Value)} {mu : List (Addr × Obj)}
theorem is_list {x : Addr} {ox : Obj} {va : Value} {Q : Value → Shared → Prop} (hb : ∀ i, va ≠ .builtin i) (hx : h.get? x = some ox) (hc : ox.cls = .type "list") (hy : ∀ y, va = .ref y → ∃ oy, h.get? y = some oy)
    (k : Q (.bool (decide (va = .ref x))) ⟨h, gs, dr, tk, os⟩) : wpAny (model prog w) A (compareOp .Is (.ref x) va) Q E ⟨h, gs, dr, tk, os⟩ := by
  cases va with
  | ref y =>
    by_cases e : x = y
    · subst e
      exact wpAny_is_ref_self (by simpa using k)
    · obtain ⟨oy, ho⟩ := hy y rfl
      refine wpAny_is_ref_other e hx ho (by rw [hc]; decide) ?_
      have : decide (Value.ref y = Value.ref x) = false := by simpa using fun z => e z.symm
      rw [this] at k; exact k
  | builtin i => exact absurd rfl (hb i)
  | _ => exact wpAny_is_other rfl (by intro z; cases z) (by simpa using k)
theorem asA {o : Expr} {attr : Str} {pos : Pos} {env : Env} {v : Value} {s : Shared} {Q : Unit → Shared → Prop} (k : wpAny (model prog w) A (eval o env) (fun ov s₁ => wpAny (model prog w) A (setAttr ov attr v) Q E s₁) E s) : wpAny (model prog w) A (assign (.Attribute o attr pos) env v) Q E s := by
  show wpAny (model prog w) A (do
    let ov ← holding [v] (eval o env)
    standAt pos.atName
    holding [v, ov] (setAttr ov attr v)
    release [v, ov] []) Q E s
  refine wpAny_bind (wpAny_holding (wpAny_mono k (fun ov s₁ h₁ => wpAny_bind (wpAny_standAt (wpAny_bind (wpAny_holding (wpAny_mono h₁ (fun _ s₂ h₂ => ?_) fun _ _ x => x))))) fun _ _ x => x))
  exact fun Γ p hΓ => by rw [Sem.wp_release]; exact h₂
/-- the ground below a call on a matcher with its dict at d -/
structure Gr (w : World) (mg mb : Str → Option Value) (G : Heap) (d : Addr) (A : Around) (s : Shared) (n : Nat) : Prop where
  D : Gd (K w.params) mg mb G
  sub : Sub G s.heap
  out : G.get? d = none
  hA : A.handled = none
  dep : A.depth + n < recursionLimit
/-- a matcher's object at m, dict at d -/
structure MA (w : World) (R : Rel) (m d : Addr) (vs : List Value) (oa ob : Option (Addr × List Int)) (s : Shared) : Prop where
  hm : R m (inst CM d)
  hd : ∃ o, s.heap.get? d = some o ∧ IV w.params an vs o
  hR : ∀ b o, R b o → s.heap.get? b = some o ∧ b ≠ d
  hS : MS prog w R vs oa ob
theorem putV_set {vs : List Value} {i : Nat} {v : Value} (h : i < vs.length) : putV vs i v = vs.set i v := by unfold putV; rw [if_pos h]
theorem an_le : an.length ≤ 1000 := Nat.le_of_ble_eq_true rfl
theorem hide_old {d : Addr} {R : Rel} (hR : ∀ b o, R b o → s.heap.get? b = some o ∧ b ≠ d) (b : Addr) (o : Obj) (e : R b o) : (hideAll s.heap [d]).get? b = some o := hideAll_get _ (hR _ _ e).1 (by simpa using (hR _ _ e).2)
theorem Gr.gd {d : Addr} {n : Nat} (x : Gr w mg mb G d A s n) : Gd (K w.params) mg mb (hideAll s.heap [d]) := x.D.hide x.sub fun a ha => by rw [List.mem_singleton.mp ha]; exact x.out
theorem set1_spec {m d x : Addr} {vs : List Value} {oa ob : Option (Addr × List Int)} {R : Rel} {xs : List Int} (X : Gr w mg mb G d A s 2) (M : MA w R m d vs oa ob s) (hx : LI R x xs) (hl : xs.length ≤ 199) :
    codeAny (model prog w) A (.call (.ref 174) ⟨[.ref m, .ref x], []⟩) (Ret [d] s fun v s' => v = .none ∧ ∃ vs' o', s'.heap.get? d = some o' ∧ IV w.params an vs' o' ∧ MS prog w R vs' (some (x, xs)) ob) s := by
  obtain ⟨od, hd, I⟩ := M.hd
  have hA := X.hA
  have hdep := X.dep
  refine enterP ps_set1 os_set1 [.ref m, .ref x] [(d, od)] (fn_set1 _) (X.D.keeps X.sub) (by (clear hA hd hl; lia)) (b_set1 _ _ _ _) rfl p_set1 (nm := nm_set1) rfl (fun p hp => by rw [List.mem_singleton.mp hp]; exact hd) (by simp) ?_
  intro Po hPo L h₁ tk S hL
  have Dg := X.gd
  have old := hide_old M.hR
  obtain ⟨va, ha, hhand, hb, hy⟩ := M.hS.aVal
  have len := M.hS.len
  refine wpAny_execs_cons (wpAny_Expr (cStr fun k1 t1 => ?_))
  refine wpAny_execs_cons (wpAny_If (wpAny_isTrue_Compare1 (ld_ S v_set1_a rfl (at1 (ld_ S v_set1_self rfl ?_)))))
  refine getV (Dg.k.keeps S.F.keep) (pl _) (at_a _).at (S.old (old _ _ M.hm)) (S.get (j := 0) rfl) I ha hhand fun t2 => ?_
  obtain ⟨items, n, hxo, hxi⟩ := hx
  refine is_list hb (S.old (old _ _ hxo)) rfl (fun y e => by obtain ⟨ys, -, i', n', ho, -⟩ := hy y e; exact ⟨_, S.old (old _ _ ho)⟩) ?_
  refine wpAny_truthy_bool ?_
  by_cases hva : va = .ref x
  · rw [if_pos (by simpa using hva)]
    refine wpAny_execs_cons (wpAny_Return_none ?_)
    refine hPo _ _ (S.mod (t := 0) hL id rfl rfl rfl) ⟨rfl, vs, od, S.get (j := 0) rfl, I, ?_⟩
    obtain ⟨ys, rfl, i', n', ho, hi⟩ := hy x hva
    have : ys = xs := by
      have e1 := (M.hR _ _ hxo).1
      have e2 := (M.hR _ _ ho).1
      rw [e1] at e2
      have e3 := lob_inj (Option.some.inj e2)
      subst e3
      exact IntsAre.uniq hi hxi
    subst this
    exact M.hS
  · rw [if_neg (by simpa using hva)]
    refine wpAny_execs_nil ?_
    refine wpAny_execs_cons (plainObj_wpAny_Assign_Attribute (ld_ S v_set1_a rfl (ld_ S v_set1_self rfl ?_)))
    refine setV (j := 0) S (Dg.k.keeps S.F.keep) (pl _) (at_a _).at (S.old (old _ _ M.hm)) rfl I an_le (by (clear hva hhand ha hL hdep hA hd hl; lia)) fun h2 t3 o2 I2 S2 => ?_
    rw [putV_set (by (clear hva hhand ha hL hdep hA hd hl; lia))] at I2
    refine wpAny_execs_cons (wpAny_Assign_two (Constant_none (asA (ld_ S2 v_set1_self rfl ?_))))
    refine setV (j := 0) S2 (Dg.k.keeps S2.F.keep) (pl _) (at_mb _).at (S2.old (old _ _ M.hm)) rfl I2 an_le (by simp only [List.length_set]; (clear hva hhand ha hL hdep hA hd hl; lia)) fun h3 t4 o3 I3 S3 => ?_
    rw [putV_set (by simp only [List.length_set]; (clear hva hhand ha hL hdep hA hd hl; lia))] at I3
    refine asA (ld_ S3 v_set1_self rfl ?_)
    refine setV (j := 0) S3 (Dg.k.keeps S3.F.keep) (pl _) (at_opc _).at (S3.old (old _ _ M.hm)) rfl I3 an_le (by simp only [List.length_set]; (clear hva hhand ha hL hdep hA hd hl; lia)) fun h4' t5 o4 I4 S4 => ?_
    rw [putV_set (by simp only [List.length_set]; (clear hva hhand ha hL hdep hA hd hl; lia))] at I4
    refine wpAny_execs_nil ?_
    refine hPo _ _ (S4.mod (t := 0) hL id rfl rfl rfl) ⟨rfl, _, o4, S4.get (j := 0) rfl, I4, ?_⟩
    have H := M.hS
    refine ⟨?_, ⟨?_, ⟨items, n, hxo, hxi⟩, hl⟩, ?_, ?_, .inl ?_, ?_, by simp [len]⟩
    · simpa [List.getElem?_set] using H.isj
    · simp [List.getElem?_set, len]
    · have := H.b
      match ob, this with
      | some (l, ys), h => simpa [List.getElem?_set] using h
      | none, h => simpa [List.getElem?_set] using h
    · simpa [List.getElem?_set] using H.aj
    · simp [List.getElem?_set, len]
    · simpa [List.getElem?_set] using H.bj
end
end Mine
end
section
set_option Elab.async false
set_option maxRecDepth 100000
set_option linter.unusedVariables false
namespace Mine
open PySem PySem.W PySem.Calls PyProof.Rows
section
variable {prog : Program} {w : World} {A : Around} {E : Value → Shared → Prop} {h g : Heap} {gs : Array GenState} {dr : Drawn} {tk : Nat} {os : OsState} {L a : Addr} {nm : List Str} {ls : List (Option Value)} {mu own : List (Addr × Obj)} {q : Str} {sc : Scope} {cd : Value}
theorem St.more {h' : Heap} {new : List (Addr × Obj)} (S : St g L h nm ls mu) (hk : ∀ b o, h.get? b = some o → h'.get? b = some o) (hn : ∀ p ∈ new, h'.get? p.1 = some p.2 ∧ h.get? p.1 = none) (nd : (new.map (·.1)).Nodup) : St g L h' nm ls (mu ++ new) :=
  St.grow (s := ⟨h, #[], {}, 0, {}⟩) S (S.re (S.F.keeps hk) (S.N.grown hk)) rfl hn nd
theorem get_none_of_size {b : Addr} (e : h.objs.size ≤ b) : h.get? b = none := by
  cases hg : h.get? b with
  | none => rfl
  | some o => exact absurd (Heap.lt_size hg) (Nat.not_lt.mpr e)
/-- for x, y in enumerate(a list) -/
theorem forE {x y : Str} {ix iy : Nat} {p1 p2 tp : Pos} {kk : Nat} {body : List Stmt} {l : Addr} {items : List Value} {R : Result → Shared → Prop}
    (J : Nat → List (Option Value) → List (Addr × Obj) → Prop) (Vx : Var sc nm x ix) (Vy : Var sc nm y iy) (S : St g L h nm ls mu) (hh : A.handled = none) (hgs : AllBare gs)
    (hl : h.IsList l items.toArray) (hb : (∃ o, g.get? l = some o) ∨ ∃ o, ∀ i ls mu, J i ls mu → (l, o) ∈ mu) (len : ∀ i ls mu, J i ls mu → ix < ls.length ∧ iy < ls.length)
    (turn : ∀ i v t ls mu own h gs tk, items[i]? = some v → J i ls mu → AllBare gs → St g L h nm ((ls.set ix (some (.int i t))).set iy (some v)) (mu ++ own) →
      ∀ T : Flow → Shared → Prop, (∀ f s', Turn g L nm own dr os (J (i + 1)) R f s' → T f s') → wpAny (model prog w) A (execs body (envOf q sc L a cd)) T (fun _ _ => False) ⟨h, gs, dr, tk, os⟩)
    (done : ∀ ls mu h gs tk, J items.length ls mu → AllBare gs → St g L h nm ls mu → R (.ok .next) ⟨h, gs, dr, tk, os⟩) (hJ : J 0 ls mu) :
    wpAny (model prog w) A (call (.type "enumerate") [.ref l]) (fun it0 s₁ => wpAny (model prog w) A (pyIter it0) (fun it s₂ => codeAny (model prog w) A (.forLoop (.Tuple [.Name x p1, .Name y p2] kk tp) it body [] (envOf q sc L a cd)) R s₂) E s₁) E ⟨h, gs, dr, tk, os⟩ := by
  refine call_enumerate_list (s := ⟨h, gs, dr, tk, os⟩) hl fun h' he hit hsz hk => ?_
  refine wpAny_pyIter_enum he ?_
  have hlt : l < h.objs.size := by obtain ⟨o, ho, _⟩ := hl; exact Heap.lt_size ho
  obtain ⟨oi, hoi, ri⟩ := hit
  have S' : St g L h' nm ls (mu ++ [(h.objs.size + 1, _), (h.objs.size, oi)]) := S.more hk (fun p hp => by
    rcases List.mem_cons.mp hp with rfl | hp
    · exact ⟨he, get_none_of_size (by simp)⟩
    · rw [List.mem_singleton.mp hp]; exact ⟨hoi, get_none_of_size (by simp)⟩) (by simp)
  have W := WalksT.enumerate (prog := prog) (w := w) hh (h.objs.size + 1) h.objs.size l (Nat.succ_ne_self _) (Nat.ne_of_lt (Nat.lt_succ_of_lt hlt)) (Nat.ne_of_lt hlt) items.toArray
  refine forT (own := [(h.objs.size + 1, _), (h.objs.size, oi)]) J Vx Vy hh W ?_ (fun b hb => by simpa using hb) ?_ len ?_ ?_ ?_ hJ S' ⟨⟨_, he⟩, ⟨oi, hoi, ri⟩, hl.at fun o e => hk _ _ e⟩ hgs
  · intro b hb'
    rcases List.mem_cons.mp hb' with rfl | hb'
    · exact .inl (by simp)
    · rcases List.mem_cons.mp hb' with rfl | hb'
      · exact .inl (by simp)
      · rw [List.mem_singleton.mp hb']; exact .inr hb
  · rintro i h2 ⟨⟨old, h1⟩, ⟨o, ho, _⟩, _⟩ b hb
    rcases List.mem_cons.mp hb with rfl | hb
    · exact ⟨_, h1⟩
    · rw [List.mem_singleton.mp hb]; exact ⟨o, ho⟩
  · rintro i vals ⟨t, x, _, rfl⟩
    exact ⟨_, _, rfl⟩
  · rintro i u v ls mu own' h2 gs2 tk2 hi ⟨t, x, hx, e⟩ hJ2 _ hg2 S2
    have e1 := congrArg (·[0]?) e
    have e2 := congrArg (·[1]?) e
    simp at e1 e2
    subst e1 e2
    exact turn i v t ls mu own' h2 gs2 tk2 (by simpa using hx) hJ2 hg2 S2
  · intro ls mu h2 gs2 tk2 hJ2 hg2 S2
    exact done ls mu h2 gs2 tk2 (by simpa using hJ2) hg2 S2
theorem forE0 {x y : Str} {ix iy : Nat} {p1 p2 tp : Pos} {kk : Nat} {body : List Stmt} {t : Tok} {R : Result → Shared → Prop}
    (Vx : Var sc nm x ix) (Vy : Var sc nm y iy) (S : St g L h nm ls mu) (hh : A.handled = none) (hgs : AllBare gs) (len : ix < ls.length ∧ iy < ls.length)
    (done : ∀ h gs tk, AllBare gs → St g L h nm ls mu → R (.ok .next) ⟨h, gs, dr, tk, os⟩) :
    wpAny (model prog w) A (call (.type "enumerate") [.str (Str.ofString "") t]) (fun it0 s₁ => wpAny (model prog w) A (pyIter it0) (fun it s₂ => codeAny (model prog w) A (.forLoop (.Tuple [.Name x p1, .Name y p2] kk tp) it body [] (envOf q sc L a cd)) R s₂) E s₁) E ⟨h, gs, dr, tk, os⟩ := by
  refine call_enumerate_str (s := ⟨h, gs, dr, tk, os⟩) fun h' he hit hsz hk => ?_
  refine wpAny_pyIter_enum he ?_
  have hit' : h'.IsStrIter h.objs.size "str_ascii_iterator" (Str.ofString "") t 0 := by
    have e : strIterType (Str.ofString "") = "str_ascii_iterator" := by decide +kernel
    rw [e] at hit; exact hit
  obtain ⟨oi, hoi, ri⟩ := id hit'
  have S' : St g L h' nm ls (mu ++ [(h.objs.size + 1, _), (h.objs.size, oi)]) := S.more hk (fun p hp => by
    rcases List.mem_cons.mp hp with rfl | hp
    · exact ⟨he, get_none_of_size (by simp)⟩
    · rw [List.mem_singleton.mp hp]; exact ⟨hoi, get_none_of_size (by simp)⟩) (by simp)
  have W := WalksT.enumerateD (Draws.strAscii (prog := prog) (w := w) (A := A.in1) hh h.objs.size (Str.ofString "") t) (h.objs.size + 1) (Nat.succ_ne_self _) (by simp) (by simp)
  refine forT (own := [(h.objs.size + 1, _), (h.objs.size, oi)]) (fun _ ls' mu' => ls' = ls ∧ mu' = mu) Vx Vy hh W ?_ (fun b hb => by simpa using hb) ?_ ?_ ?_ ?_ ?_ ⟨rfl, rfl⟩ S' ⟨⟨_, he⟩, hit'⟩ hgs
  · intro b hb'
    rcases List.mem_cons.mp hb' with rfl | hb'
    · exact .inl (by simp)
    · rw [List.mem_singleton.mp hb']; exact .inl (by simp)
  · rintro i h2 ⟨⟨old, h1⟩, ⟨o, ho, _⟩⟩ b hb
    rcases List.mem_cons.mp hb with rfl | hb
    · exact ⟨_, h1⟩
    · rw [List.mem_singleton.mp hb]; exact ⟨o, ho⟩
  · rintro i _ _ ⟨rfl, rfl⟩; exact len
  · rintro i vals ⟨t, x, _, rfl⟩
    exact ⟨_, _, rfl⟩
  · rintro i u v ls mu own' h2 gs2 tk2 hi
    exact absurd hi (by simp [show (Str.ofString "").cps.size = 0 from rfl])
  · rintro _ _ h2 gs2 tk2 ⟨rfl, rfl⟩ hg2 S2
    exact done h2 gs2 tk2 hg2 S2
end
end Mine
end
section
set_option Elab.async false
set_option maxRecDepth 100000
set_option linter.unusedVariables false
namespace Mine
open PySem PySem.W PySem.Calls PyProof.Rows
theorem idxs_append (k : Int) : ∀ (xs : List Int) (y n : Int), idxs k (xs ++ [y]) n = idxs k xs n ++ (if y = k then [n + xs.length] else [])
  | [], y, n => by by_cases h : y = k <;> simp [idxs, h]
  | x :: xs, y, n => by
    have ih := idxs_append k xs y (n + 1)
    have e : n + 1 + (xs.length : Int) = n + ((x :: xs).length : Nat) := by simp; lia
    rw [e] at ih
    by_cases h : x = k <;> simp only [List.cons_append, idxs, h, if_true, if_false, ih]
theorem take_succ_of {α : Type} {l : List α} {i : Nat} {v : α} (h : l[i]? = some v) : l.take (i + 1) = l.take i ++ [v] := by
  rw [List.take_add_one, h]; rfl
/-- the second sequence -/
noncomputable def BV (R : Rel) (vb : Value) (ys : List Int) : Prop := (∃ l, vb = .ref l ∧ LI R l ys) ∨ (∃ t, vb = .str (Str.ofString "") t ∧ ys = [])
theorem IntsAre.get : ∀ {vs : List Value} {xs : List Int} {i : Nat} {v : Value}, IntsAre vs xs → vs[i]? = some v → ∃ n t, v = .int n t ∧ xs[i]? = some n := by
  intro vs xs i v h
  induction h generalizing i with
  | nil => intro e; simp at e
  | cons t n hs ih =>
    intro e
    cases i with
    | zero => simp at e; exact ⟨_, _, e.symm, by simp⟩
    | succ i => simpa using ih (by simpa using e)
theorem IntsAre.append {vs us : List Value} {xs ys : List Int} (h : IntsAre vs xs) (h' : IntsAre us ys) : IntsAre (vs ++ us) (xs ++ ys) := by
  induction h with
  | nil => exact h'
  | cons _ _ _ ih => exact .cons _ _ ih
/-- the table of places while it is built -/
structure B2I (prog : Program) (w : World) (o : Obj) (lists : List (Addr × Obj)) (ys : List Int) : Prop where
  ex : ∃ kvs, DI prog w o kvs ∧ kvs.length ≤ ys.length ∧ (∀ k, match valueAt kvs k with
    | some v => ∃ l items n, v = .ref l ∧ (l, lob items n) ∈ lists ∧ IntsAre items (idxs k ys 0)
    | none => idxs k ys 0 = []) ∧ ∀ k k' l, valueAt kvs k = some (.ref l) → valueAt kvs k' = some (.ref l) → k = k'
theorem stored_len {kvs : List (Int × Value)} {k : Int} {v : Value} : (stored kvs k v).length ≤ kvs.length + 1 := by
  unfold stored; split <;> simp
theorem B2I.step1 {prog : Program} {w : World} {o : Obj} {lists : List (Addr × Obj)} {ys : List Int} {kvs : List (Int × Value)} (D : DI prog w o kvs) (hl : kvs.length ≤ ys.length) (f : ∀ k, match valueAt kvs k with
    | some v => ∃ l items n, v = .ref l ∧ (l, lob items n) ∈ lists ∧ IntsAre items (idxs k ys 0)
    | none => idxs k ys 0 = []) (inj : ∀ k k' l, valueAt kvs k = some (.ref l) → valueAt kvs k' = some (.ref l) → k = k')
    {v : Int} {l : Addr} {items : List Value} {n n' j : Nat} {t : Tok} (hv : valueAt kvs v = some (.ref l)) (hj : lists[j]? = some (l, lob items n)) (hi : IntsAre items (idxs v ys 0)) :
    B2I prog w o (lists.set j (l, lob (items ++ [.int ys.length t]) n')) (ys ++ [v]) := by
  refine ⟨kvs, D, by simp; lia, fun k => ?_, inj⟩
  have hk := f k
  by_cases e : k = v
  · subst e
    rw [hv]
    refine ⟨l, _, n', rfl, List.mem_of_getElem? (i := j) (by rw [List.getElem?_set_self (lt_of_get hj)]), ?_⟩
    rw [idxs_append, if_pos rfl, Int.zero_add]
    exact hi.append (.cons _ _ .nil)
  · cases hc : valueAt kvs k with
    | none =>
      rw [hc] at hk
      show idxs k (ys ++ [v]) 0 = []
      rw [idxs_append, if_neg (fun z => e z.symm), hk]; rfl
    | some u =>
      rw [hc] at hk
      obtain ⟨l', items', n2, rfl, hm, hi'⟩ := hk
      obtain ⟨j', hj'⟩ := List.getElem?_of_mem hm
      refine ⟨l', items', n2, rfl, List.mem_of_getElem? (i := j') ?_, ?_⟩
      · rw [List.getElem?_set_ne (fun z => ?_)]
        · exact hj'
        · subst z
          rw [hj] at hj'
          have := congrArg (fun x => (x.map Prod.fst)) hj'
          simp at this
          subst this
          exact e (inj _ _ _ hc hv)
      · rw [idxs_append, if_neg (fun z => e z.symm), List.append_nil]; exact hi'
theorem B2I.step2 {prog : Program} {w : World} {o : Obj} {lists : List (Addr × Obj)} {ys : List Int} {kvs : List (Int × Value)} (hl : kvs.length ≤ ys.length) (f : ∀ k, match valueAt kvs k with
    | some v => ∃ l items n, v = .ref l ∧ (l, lob items n) ∈ lists ∧ IntsAre items (idxs k ys 0)
    | none => idxs k ys 0 = []) (inj : ∀ k k' l, valueAt kvs k = some (.ref l) → valueAt kvs k' = some (.ref l) → k = k')
    {v : Int} {l : Addr} {n' : Nat} {t : Tok} (hv : valueAt kvs v = none) (D : DI prog w o (stored kvs v (.ref l))) (hn : ∀ p ∈ lists, p.1 ≠ l) :
    B2I prog w o ((l, lob [.int ys.length t] n') :: lists) (ys ++ [v]) := by
  refine ⟨_, D, Nat.le_trans stored_len (by simp; omega), fun k => ?_, fun k k' l' h1 h2 => ?_⟩
  · rw [valueAt_stored]
    have hk := f k
    by_cases e : k = v
    · subst e
      rw [if_pos rfl]
      rw [hv] at hk
      refine ⟨l, _, n', rfl, .head _, ?_⟩
      rw [idxs_append, if_pos rfl, Int.zero_add, hk]
      exact .cons _ _ .nil
    · rw [if_neg e]
      cases hc : valueAt kvs k with
      | none =>
        rw [hc] at hk
        show idxs k (ys ++ [v]) 0 = []
        rw [idxs_append, if_neg (fun z => e z.symm), hk]; rfl
      | some u =>
        rw [hc] at hk
        obtain ⟨l', items', n2, rfl, hm, hi'⟩ := hk
        refine ⟨l', items', n2, rfl, .tail _ hm, ?_⟩
        rw [idxs_append, if_neg (fun z => e z.symm), List.append_nil]; exact hi'
  · rw [valueAt_stored] at h1 h2
    have key : ∀ k, valueAt kvs k ≠ some (.ref l) := fun k e => by
      have := f k
      rw [e] at this
      obtain ⟨l', items', n2, e', hm, _⟩ := this
      cases e'
      exact hn _ hm rfl
    by_cases e1 : k = v <;> by_cases e2 : k' = v
    · rw [e1, e2]
    · rw [if_pos e1] at h1; rw [if_neg e2] at h2; cases h1; exact absurd h2 (key _)
    · rw [if_neg e1] at h1; rw [if_pos e2] at h2; cases h2; exact absurd h1 (key _)
    · rw [if_neg e1] at h1; rw [if_neg e2] at h2; exact inj _ _ _ h1 h2
section
variable {w : World} {A : Around} {E : Value → Shared → Prop} {s s' : Shared} {mg mb : Str → Option Value} {G h g : Heap} {gs : Array GenState} {dr : Drawn} {tk : Nat} {os : OsState} {L a : Addr} {nm : List Str} {ls : List (Option Value)} {mu : List (Addr × Obj)}
theorem forEV {prog : Program} {q : Str} {sc : Scope} {cd : Value} {x y : Str} {ix iy : Nat} {p1 p2 tp : Pos} {kk : Nat} {body : List Stmt} {vb : Value} {ys : List Int} {R : Result → Shared → Prop}
    (J : Nat → List (Option Value) → List (Addr × Obj) → Prop) (Vx : Var sc nm x ix) (Vy : Var sc nm y iy) (S : St g L h nm ls mu) (hh : A.handled = none) (hgs : AllBare gs)
    (hb : (∃ l items n, vb = .ref l ∧ g.get? l = some (lob items n) ∧ IntsAre items ys) ∨ (∃ t, vb = .str (Str.ofString "") t ∧ ys = [])) (len : ∀ i ls mu, J i ls mu → ix < ls.length ∧ iy < ls.length)
    (turn : ∀ i (v : Int) u t ls mu own h gs tk, ys[i]? = some v → J i ls mu → AllBare gs → St g L h nm ((ls.set ix (some (.int i t))).set iy (some (.int v u))) (mu ++ own) →
      ∀ T : Flow → Shared → Prop, (∀ f s', Turn g L nm own dr os (J (i + 1)) R f s' → T f s') → wpAny (model prog w) A (execs body (envOf q sc L a cd)) T (fun _ _ => False) ⟨h, gs, dr, tk, os⟩)
    (done : ∀ ls mu h gs tk, J ys.length ls mu → AllBare gs → St g L h nm ls mu → R (.ok .next) ⟨h, gs, dr, tk, os⟩) (hJ : J 0 ls mu) :
    wpAny (model prog w) A (call (.type "enumerate") [vb]) (fun it0 s₁ => wpAny (model prog w) A (pyIter it0) (fun it s₂ => codeAny (model prog w) A (.forLoop (.Tuple [.Name x p1, .Name y p2] kk tp) it body [] (envOf q sc L a cd)) R s₂) E s₁) E ⟨h, gs, dr, tk, os⟩ := by
  rcases hb with ⟨l, items, n, rfl, ho, hi⟩ | ⟨t, rfl, rfl⟩
  · refine forE J Vx Vy S hh hgs (lob_list (S.old ho)) (.inl ⟨_, ho⟩) len (fun i v t ls mu own h gs tk hv hJ hg S => ?_) (fun ls mu h gs tk hJ hg S => done ls mu h gs tk (hi.length ▸ hJ) hg S) hJ
    obtain ⟨k, u, rfl, hk⟩ := IntsAre.get hi hv
    exact turn i k u t ls mu own h gs tk hk hJ hg S
  · exact forE0 Vx Vy S hh hgs (len _ _ _ hJ) fun h gs tk hg S => done _ _ h gs tk hJ hg S
theorem idxs_len (k : Int) : ∀ (xs : List Int) (n : Int), (idxs k xs n).length ≤ xs.length
  | [], _ => Nat.le_refl _
  | x :: xs, n => by
    have := idxs_len k xs (n + 1)
    simp only [idxs]
    split <;> simp <;> omega
theorem lenBV {prog : Program} {vb : Value} {ys : List Int} {Q : Value → Shared → Prop} (hb : (∃ l items n, vb = .ref l ∧ h.get? l = some (lob items n) ∧ IntsAre items ys) ∨ (∃ t, vb = .str (Str.ofString "") t ∧ ys = [])) (hf : ys.length ≤ 1000) (k : ∀ t tk, Q (.int ys.length t) ⟨h, gs, dr, tk, os⟩) : wpAny (model prog w) A (call (.builtin "len") [vb]) Q E ⟨h, gs, dr, tk, os⟩ := by
  rcases hb with ⟨l, items, n, rfl, ho, hi⟩ | ⟨t, rfl, rfl⟩
  · rw [← hi.length] at hf k
    exact len_ (lob_list ho) hf k
  · exact PySem.P.len_str (s := ⟨h, gs, dr, tk, os⟩) (by decide) (k _ _)
theorem Gr.big {d : Addr} {n : Nat} (X : Gr w mg mb G d A s n) : 188 < s.heap.objs.size := by
  obtain ⟨o, ho, _⟩ := (fn_chain w.params).at_
  exact Heap.lt_size (X.sub _ _ (X.D.k _ _ ho))
theorem notSys {b : Addr} (h : 188 < b) : (b == sysModules) = false := by
  have h3 : sysModules ≤ 188 := by decide
  exact beq_eq_false_iff_ne.mpr fun e => Nat.lt_irrefl _ (Nat.lt_of_lt_of_le (e ▸ h) h3)
inductive BJ1 (w : World) (m : Addr) (d : Addr) (vb : Value) (ys : List Int) (h2 : Heap) (o4 : Obj) (i : Nat) (ls : List (Option Value)) (mu : List (Addr × Obj)) : Prop
  | mk (o : Obj) (lists : List (Addr × Obj)) (x3 x4 x5 : Option Value) (q1 : ls = [some (.ref m), some vb, some (.ref h2.objs.size), x3, x4, x5, none, none, none, none, none, none]) (q2 : mu = (h2.objs.size, o) :: (d, o4) :: lists) (q3 : B2I prog w o lists (ys.take i)) : BJ1 w m d vb ys h2 o4 i ls mu
theorem chain_spec {m d : Addr} {vs : List Value} {R : Rel} {vb : Value} {ys : List Int} (X : Gr w mg mb G d A s 2) (hgs : AllBare s.gens) (hm : R m (inst CM d)) (hd : ∃ o, s.heap.get? d = some o ∧ IV w.params an vs o)
    (hR : ∀ b o, R b o → s.heap.get? b = some o ∧ b ≠ d) (e0 : vs[0]? = some .none) (e2 : vs[2]? = some vb) (hb : BV R vb ys) (e3 : ∃ t, vs[3]? = some (.bool t)) (hlen : 7 ≤ vs.length) (hys : ys.length ≤ 199) :
    codeAny (model prog w) A (.call (.ref 188) ⟨[.ref m], []⟩) (Ret [d] s fun v s' => v = .none ∧ ∃ vs' o' new, s'.heap.get? d = some o' ∧ IV w.params an vs' o' ∧ Fresh s s' new ∧ vs'.length = 10 ∧ (∀ i, i < 7 → vs'[i]? = vs[i]?) ∧
      (∃ p, vs'[7]? = some (.ref p) ∧ B2 prog w (R.and new) p ys) ∧ ∃ p led, vs'[8]? = some (.ref p) ∧ (R.and new) p (sob led)) s := by
  obtain ⟨od, hd, I⟩ := hd
  have hA := X.hA
  have hdep := X.dep
  refine enterP ps_chain os_chain [.ref m] [(d, od)] (fn_chain _) (X.D.keeps X.sub) (by (clear hA hd hys hlen e2 e0; lia)) (b_chain _ _ _) rfl p_chain (nm := nm_chain) rfl (fun p hp => by rw [List.mem_singleton.mp hp]; exact hd) (by simp) ?_
  intro Po hPo L h₁ tk S hL
  have Dg := X.gd
  have old := hide_old hR
  have hle := I.le
  have hanl : an.length = 10 := rfl
  refine wpAny_execs_cons (asgN (at1 (ld_ S v_chain_self rfl ?_)))
  refine getV (Dg.k.keeps S.F.keep) (pl _) (at_b _).at (S.old (old _ _ hm)) (S.get (j := 0) rfl) I e2 (by rcases hb with ⟨l, rfl, _⟩ | ⟨t, rfl, _⟩ <;> rfl) fun t2 => ?_
  refine st_ S v_chain_b (Nat.le_of_ble_eq_true rfl) fun h2 t2 S2 => ?_
  refine wpAny_execs_cons (wpAny_Assign_two (newD S2 fun h3 o3 D3 S3 => asA (ld_ S3 v_chain_self rfl ?_)))
  refine setV (j := 1) S3 (Dg.k.keeps S3.F.keep) (pl _) (at_b2j _).at (S3.old (old _ _ hm)) rfl I an_le (by omega) fun h4 t4 o4 I4 S4 => ?_
  refine assign_Name (st_ S4 v_chain_b2j (Nat.le_of_ble_eq_true rfl) fun h5 t5 S5 => ?_)
  have hsys : (h2.objs.size == sysModules) = false := by
    exact notSys (Nat.lt_of_lt_of_le X.big (Nat.le_trans hL (Nat.le_of_lt S2.F.ns.lt)))
  refine wpAny_execs_cons (wpAny_For (Call_ (lb_ S5 Dg g_chain_enumerate (bn_enumerate _) (callWith_type1 (arg_ (ld_ S5 v_chain_b rfl (arg0 ?_)))))))
  refine forEV (ys := ys) (BJ1 w m d vb ys h2 o4)
    v_chain_i v_chain_elt S5 hA hgs ?_ ?_ ?_ ?_ ?_
  · rcases hb with ⟨l, rfl, items, n, ho, hi⟩ | ⟨t, rfl, rfl⟩
    · exact .inl ⟨l, items, n, rfl, old _ _ ho, hi⟩
    · exact .inr ⟨t, rfl, rfl⟩
  · rintro i _ _ ⟨o, lists, x3, x4, x5, rfl, rfl, _⟩
    exact ⟨Nat.le_of_ble_eq_true rfl, Nat.le_of_ble_eq_true rfl⟩
  · rintro i v u t _ _ own h6 gs6 tk6 hv ⟨o, lists, x3, x4, x5, rfl, rfl, B⟩ hg6 S6 T hT
    obtain ⟨kvs, D, hkl, f, inj⟩ := B
    have hil := lt_of_get hv
    have hlt : (ys.take i).length = i := by rw [List.length_take]; (clear hkl hv hsys hanl hle hL hdep hA hd hys hlen e2 e0; lia)
    refine wpAny_execs_cons (asgN (MethodCall_ (ld_ S6 v_chain_b2j rfl (mD PySem.F.slot_dict_setdefault PySem.F.type_dict_setdefault (D.of (S6.get (j := 0) rfl)) (callWith_method1 (arg_ (ld_ S6 v_chain_elt rfl (arg_ (List_ (arg0 (newL S6 (by simp) fun h7 S7 => arg0 ?_)))))))))))
    refine setDefault (j := 1) S7 rfl D hsys (by (clear hv hsys hanl hle hL hdep hA hd hlen e2 e0; lia)) (fun u2 t7 hu => ?_) (fun h8 t8 o8 hn D8 S8 => ?_)
    · have fv := f v
      rw [hu] at fv
      obtain ⟨l, items, n, rfl, hm, hi⟩ := fv
      obtain ⟨j, hj⟩ := List.getElem?_of_mem hm
      have hj' : (lists ++ own)[j]? = some (l, lob items n) := by rw [List.getElem?_append_left (lt_of_get hj)]; exact hj
      refine st_ (S7.drop (List.sublist_cons_self _ _)) v_chain_indices (Nat.le_of_ble_eq_true rfl) fun h8 t8 S8 => ?_
      refine wpAny_execs_cons (wpAny_Expr (MethodCall_ (ld_ S8 v_chain_indices rfl (mL PySem.F.slot_list_append PySem.F.type_list_append (S8.get (j := j + 2) hj') (callWith_method1 (arg_ (ld_ S8 v_chain_i rfl (arg0 ?_))))))))
      have hil : items.length ≤ 10000 := by have := hi.length; have := idxs_len v (ys.take i) 0; (clear hj' hj hu hkl hv hsys hanl hle hL hdep hA hd hlen e2 e0; lia)
      refine append_ (j := j + 2) S8 hj' hil fun h9 S9 => ?_
      · have e : ((h2.objs.size, o) :: (d, o4) :: (lists ++ own)).set (j + 2) (l, lob (items ++ [.int i t]) (n + 1)) = ((h2.objs.size, o) :: (d, o4) :: lists.set j (l, lob (items ++ [.int i t]) (n + 1))) ++ own := by
          show (h2.objs.size, o) :: (d, o4) :: (lists ++ own).set j _ = _
          rw [List.set_append_left _ _ (lt_of_get hj)]; rfl
        replace S9 := Eq.mp (congrArg (St _ L h9 nm_chain _) e) S9
        refine wpAny_execs_nil (TN hT S9 hg6 ⟨o, _, _, _, _, rfl, rfl, ?_⟩)
        rw [take_succ_of hv]
        have := B2I.step1 (n' := n + 1) (t := t) D hkl f inj hu hj hi
        rw [hlt] at this
        exact this
    · refine st_ S8 v_chain_indices (Nat.le_of_ble_eq_true rfl) fun h9 t9 S9 => ?_
      refine wpAny_execs_cons (wpAny_Expr (MethodCall_ (ld_ S9 v_chain_indices rfl (mL PySem.F.slot_list_append PySem.F.type_list_append (S9.get (j := 0) rfl) (callWith_method1 (arg_ (ld_ S9 v_chain_i rfl (arg0 ?_))))))))
      refine append_ (j := 0) S9 rfl (by simp) fun h10 S10 => ?_
      · have S11 := S10.perm (mu' := ((h2.objs.size, o8) :: (d, o4) :: ((h6.objs.size, lob [.int i t] 1) :: lists)) ++ own) (by
          show List.Perm ((h6.objs.size, lob [.int i t] 1) :: (h2.objs.size, o8) :: (d, o4) :: (lists ++ own)) ((h2.objs.size, o8) :: (d, o4) :: (h6.objs.size, lob [.int i t] 1) :: (lists ++ own))
          exact (List.Perm.swap _ _ _).trans ((List.Perm.swap _ _ _).cons _))
        refine wpAny_execs_nil (TN hT S11 hg6 ⟨o8, _, _, _, _, rfl, rfl, ?_⟩)
        rw [take_succ_of hv]
        have := B2I.step2 (n' := 1) (t := t) hkl f inj hn D8 (fun p hp e => by
          have nd := S8.nd
          exact (List.nodup_cons.mp nd).1 (List.mem_map.mpr ⟨p, .tail _ (.tail _ (List.mem_append_left _ hp)), e⟩))
        rw [hlt] at this
        exact this
  · rintro _ _ h7 gs7 tk7 ⟨o, lists, x3, x4, x5, rfl, rfl, B⟩ hg7 S7
    rw [List.take_length] at B
    refine wpAny_execs_cons (wpAny_Assign_two (Call_ (lb_ S7 Dg g_chain_set (bn_set _) (callWith_type0 (newS S7 fun led h8 S8 => asA (ld_ S8 v_chain_self rfl ?_))))))
    refine setV (j := 2) S8 (Dg.k.keeps S8.F.keep) (pl _) (at_bjunk _).at (S8.old (old _ _ hm)) rfl I4 an_le (by rw [putV_len (by omega)]; (clear hsys hanl hle hL hdep hA hd hys hlen e2 e0; lia)) fun h9 t9 o9 I9 S9 => ?_
    refine assign_Name (st_ S9 v_chain_junk (Nat.le_of_ble_eq_true rfl) fun h10 t10 S10 => ?_)
    refine wpAny_execs_cons (asgN (at1 (ld_ S10 v_chain_self rfl ?_)))
    refine getV (Dg.k.keeps S10.F.keep) (pl _) (at_isjunk _).at (S10.old (old _ _ hm)) (S10.get (j := 2) rfl) I9 (putV_ne (by decide) (putV_ne (by decide) e0)) rfl fun t11 => ?_
    refine st_ S10 v_chain_isjunk (Nat.le_of_ble_eq_true rfl) fun h11 t11 S11 => ?_
    refine wpAny_execs_cons (wpAny_If (isTrue_plain (ld_ S11 v_chain_isjunk rfl (truthy_none ?_))))
    rw [if_neg (by decide)]
    refine wpAny_execs_nil ?_
    refine wpAny_execs_cons (wpAny_Assign_two (Call_ (lb_ S11 Dg g_chain_set (bn_set _) (callWith_type0 (newS S11 fun led2 h12 S12 => asA (ld_ S12 v_chain_self rfl ?_))))))
    have l9 : (putV (putV vs 7 (.ref h2.objs.size)) 8 (.ref h7.objs.size)).length = max (max vs.length 8) 9 := by rw [putV_len (by rw [putV_len (by omega)]; (clear hsys hanl hle hL hdep hA hd hys hlen e2 e0; lia)), putV_len (by omega)]
    refine setV (j := 3) S12 (Dg.k.keeps S12.F.keep) (pl _) (at_bpop _).at (S12.old (old _ _ hm)) rfl I9 an_le (by rw [l9]; (clear hsys hanl hle hL hdep hA hd hys hlen e2 e0; lia)) fun h13 t13 o13 I13 S13 => ?_
    refine assign_Name (st_ S13 v_chain_popular (Nat.le_of_ble_eq_true rfl) fun h14 t14 S14 => ?_)
    refine wpAny_execs_cons (asgN (Call_ (lb_ S14 Dg g_chain_len (bn_len _) (cB (arg_ (ld_ S14 v_chain_b rfl (arg0 ?_)))))))
    refine lenBV (ys := ys) (by
      rcases hb with ⟨l, rfl, items, n, ho, hi⟩ | ⟨t, rfl, rfl⟩
      · exact .inl ⟨l, items, n, rfl, S14.old (old _ _ ho), hi⟩
      · exact .inr ⟨t, rfl, rfl⟩) (by (clear l9 hsys hanl hle hL hdep hA hd hlen e2 e0; lia)) fun t15 k15 => ?_
    refine st_ S14 v_chain_n (Nat.le_of_ble_eq_true rfl) fun h15 t15 S15 => ?_
    obtain ⟨aj, e3⟩ := e3
    refine wpAny_execs_cons (wpAny_If (isTrue_and (isTrue_plain (at1 (ld_ S15 v_chain_self rfl ?_)))))
    refine getV (Dg.k.keeps S15.F.keep) (pl _) (at_autojunk _).at (S15.old (old _ _ hm)) (S15.get (j := 3) rfl) I13 (putV_ne (by decide) (putV_ne (by decide) (putV_ne (by decide) e3))) rfl fun t16 => ?_
    refine wpAny_truthy_bool ?_
    have fin : ∀ tk, Po .none ⟨h15, gs7, s.drawn, tk, s.os⟩ := by
      intro tk
      have S16 := S15.perm (List.perm_middle (l₁ := [(h11.objs.size, sob led2), (h7.objs.size, sob led), (h2.objs.size, o)]) (a := (d, o13)) (l₂ := lists))
      obtain ⟨kvs, D, hkl, f, inj⟩ := B
      have l13 : (putV (putV (putV vs 7 (.ref h2.objs.size)) 8 (.ref h7.objs.size)) 9 (.ref h11.objs.size)).length = max (max (max vs.length 8) 9) 10 := by rw [putV_len (by rw [l9]; (clear hkl e3 hsys hanl hle hL hdep hA hd hys hlen e2 e0; lia)), l9]
      refine hPo _ _ (S15.mod (t := 0) hL (fun _ => hg7) rfl rfl rfl) ⟨rfl, _, o13, _, S15.get (j := 3) rfl, I13, St.fresh (s' := ⟨h15, gs7, s.drawn, tk, s.os⟩) (mu := [(d, o13)]) S16 rfl rfl, by rw [l13]; (clear hkl e3 l9 hsys hL hdep hA hd hys hlen e2 e0; lia), fun i hi => ?_, ⟨_, putV_ne (by decide) (putV_ne (by decide) (putV_self (by omega))), o, kvs, .inr (by simp), D, hsys, fun k => ?_⟩, _, led, putV_ne (by decide) (putV_self (by rw [putV_len (by omega)]; (clear l13 hkl e3 l9 hsys hL hdep hA hd hys hlen e2 e0; lia))), .inr (by simp)⟩
      · have e : vs[i]? = some (vs[i]'(by (clear l13 hkl e3 l9 hsys hanl hle hL hdep hA hd hys e2 e0; lia))) := List.getElem?_eq_getElem (by (clear l13 hkl e3 l9 hsys hanl hle hL hdep hA hd hys e2 e0; lia))
        rw [putV_ne (by (clear e l13 hkl e3 l9 hsys hanl hle hL hdep hA hd hys hlen e2 e0; lia)) (putV_ne (by (clear e l13 hkl e3 l9 hsys hanl hle hL hdep hA hd hys hlen e2 e0; lia)) (putV_ne (by (clear e l13 hkl e3 l9 hsys hanl hle hL hdep hA hd hys hlen e2 e0; lia)) e)), e]
      · have := f k
        cases hc : valueAt kvs k with
        | some v =>
          rw [hc] at this
          obtain ⟨l, items, n, e, hm, hi⟩ := this
          exact ⟨l, e, items, n, .inr (by simp [hm]), hi⟩
        | none =>
          rw [hc] at this
          exact this
    cases aj with
    | false =>
      rw [if_neg (by decide)]
      exact wpAny_execs_nil (wpAny_execs_nil (fin _))
    | true =>
      rw [if_pos rfl]
      refine isTrue_and (wpAny_isTrue_Compare1 (ld_ S15 v_chain_n rfl (cInt fun k17 t17 => P.ge_int (wpAny_truthy_bool ?_))))
      rw [if_neg (by simp; (clear e3 l9 hsys hanl hle hL hdep hA hd hlen e2 e0; lia))]
      exact wpAny_execs_nil (wpAny_execs_nil (fin _))
  · refine ⟨o3, [], _, _, _, rfl, rfl, ⟨[], D3, by simp, fun k => ?_, fun k k' l e => ?_⟩⟩
    · simp [valueAt, idxs]
    · simp [valueAt] at e
end
end Mine
end
section
set_option Elab.async false
set_option maxRecDepth 100000
set_option linter.unusedVariables false
namespace Mine
open PySem PySem.W PySem.Calls PyProof.Rows
section
variable {prog : Program} {w : World} {A : Around} {E : Value → Shared → Prop} {h g : Heap} {gs : Array GenState} {dr : Drawn} {tk : Nat} {os : OsState} {L a : Addr} {nm : List Str} {ls : List (Option Value)} {mu : List (Addr × Obj)} {q : Str} {sc : Scope} {cd : Value}
theorem asS {o i : Expr} {pos : Pos} {env : Env} {v : Value} {s : Shared} {Q : Unit → Shared → Prop}
    (k : wpAny (model prog w) A (eval o env) (fun ov s₁ => wpAny (model prog w) A (eval i env) (fun iv s₂ => wpAny (model prog w) A (setItem ov iv v) Q E s₂) E s₁) E s) :
    wpAny (model prog w) A (assign (.Subscript o i pos) env v) Q E s := by
  rw [assign_Subscript]
  refine wpAny_bind (wpAny_holding (wpAny_mono k (fun ov s₁ h₁ => wpAny_bind (wpAny_holding (wpAny_mono h₁ (fun iv s₂ h₂ => wpAny_bind (wpAny_standAt (wpAny_bind (wpAny_holding (wpAny_mono h₂ (fun _ s₃ h₃ => ?_) fun _ _ x => x))))) fun _ _ x => x))) fun _ _ x => x))
  exact fun Γ p hΓ => by rw [Sem.wp_release]; exact h₃
/-- for x in range(a, b) -/
theorem forR2 {x : Str} {ix : Nat} {np : Pos} {body : List Stmt} {lo hi : Int} {n : Nat} {t u : Tok} {R : Result → Shared → Prop} (J : Nat → List (Option Value) → List (Addr × Obj) → Prop) (V : Var sc nm x ix) (S : St g L h nm ls mu) (hh : A.handled = none) (hgs : AllBare gs)
    (hn : (n : Int) = if lo < hi then hi - lo else 0) (hlo : lo.natAbs < 2 ^ 32) (hhi : hi.natAbs < 2 ^ 32) (len : ∀ i ls mu, J i ls mu → ix < ls.length)
    (turn : ∀ (i : Nat) k ls mu own h gs tk, i < n → J i ls mu → AllBare gs → St g L h nm (ls.set ix (some (.int (lo + i) k))) (mu ++ own) →
      ∀ T : Flow → Shared → Prop, (∀ f s', Turn g L nm own dr os (J (i + 1)) R f s' → T f s') → wpAny (model prog w) A (execs body (envOf q sc L a cd)) T (fun _ _ => False) ⟨h, gs, dr, tk, os⟩)
    (done : ∀ ls mu h gs tk, J n ls mu → AllBare gs → St g L h nm ls mu → R (.ok .next) ⟨h, gs, dr, tk, os⟩) (hJ : J 0 ls mu) :
    wpAny (model prog w) A (call (.type "range") [.int lo t, .int hi u]) (fun it0 s₁ => wpAny (model prog w) A (pyIter it0) (fun it s₂ => codeAny (model prog w) A (.forLoop (.Name x np) it body [] (envOf q sc L a cd)) R s₂) E s₁) E ⟨h, gs, dr, tk, os⟩ := by
  refine call_range_2 (s := ⟨h, gs, dr, tk, os⟩) ?_
  exact forR J V ((S.push _).drop (List.sublist_cons_self _ _)) hh hgs (IsRange.new h lo hi 1 t u tk) hn hlo hhi len turn done hJ
/-- a while that does not turn -/
theorem while0 {test : Expr} {body : List Stmt} {pos : Pos} {env : Env} {s : Shared} {Q : Flow → Shared → Prop}
    (k : wpAny (model prog w) A (isTrue test env (eval test env)) (fun b s₂ => b = false ∧ Q .next s₂) (fun _ _ => False) s) : wpAny (model prog w) A (exec (.While test body [] pos) env) Q E s := by
  refine wpAny_While (codeAny_whileLoop (fun _ s' => s' = s) (fun n s' e => ?_) 0 rfl)
  subst e
  refine wpAny_mono k (fun b s₂ hb => ?_) fun _ _ x => x.elim
  obtain ⟨rfl, hq⟩ := hb
  rw [if_neg (by decide)]
  exact wpAny_execs_nil hq
theorem asN {x : Str} {np : Pos} {env : Env} {v : Value} {s : Shared} {Q : Unit → Shared → Prop} (k : wpAny (model prog w) A (storeName env x v) Q E s) : wpAny (model prog w) A (assign (.Name x np) env v) Q E s := assign_Name k
theorem cT1 {pos : Pos} {T : String} {e : Expr} {rest : List Expr} {env : Env} {s : Shared} {Q : Value → Shared → Prop}
    (k : wpAny (model prog w) A (spliced (backTo pos (starEach (e :: rest) env))) (fun vs s₁ => wpAny (model prog w) A (call (.type T) vs) Q E s₁) E s)
    (he : starEach (e :: rest) env = (false, eval e env) :: starEach rest env := by rfl) (hplain : (backTo pos (starEach rest env)).any (·.1) = false := by rfl) :
    wpAny (model prog w) A (callWith pos (.type T) [] (backTo pos (starEach (e :: rest) env)) []) Q E s := PyProof.Rows.callWith_type1 k he hplain
theorem getBd {d : Addr} {kvs : List (Int × Value)} {Q : Value → Shared → Prop} (S : St g L h nm ls mu) (D : h.DictOf (intKind prog w) d kvs)
    (q : ∀ h' tk, St g L h' nm ls ((h.objs.size, bmObj "dict.get" d) :: mu) → Q (.ref h.objs.size) ⟨h', gs, dr, tk, os⟩) :
    wpAny (model prog w) A (getAttr (.ref d) (Str.ofString "get") true) Q E ⟨h, gs, dr, tk, os⟩ := by
  obtain ⟨o, ho, D'⟩ := Heap.dictOf_iff.mp D
  exact getBM bm_get ho (DI.cls D') (DI.dict D') (DI.notCls D') (bind_get ho (DI.cls D') ⟨rfl, q _ _ (S.push _)⟩)
end
end Mine
end
section
set_option Elab.async false
set_option maxRecDepth 100000
set_option linter.unusedVariables false
namespace Mine
open PySem PySem.W PySem.Calls PyProof.Rows
noncomputable section
theorem me_chain (P : Params) : Meth (K P) CM an (Str.ofString "_SequenceMatcher__chain_b") 188 := ⟨by decide +kernel, by kernel_rfl, by kernel_rfl⟩
theorem me_set1 (P : Params) : Meth (K P) CM an (Str.ofString "set_seq1") 174 := ⟨by decide +kernel, by kernel_rfl, by kernel_rfl⟩
theorem me_set2 (P : Params) : Meth (K P) CM an (Str.ofString "set_seq2") 181 := ⟨by decide +kernel, by kernel_rfl, by kernel_rfl⟩
theorem me_sets (P : Params) : Meth (K P) CM an (Str.ofString "set_seqs") 167 := ⟨by decide +kernel, by kernel_rfl, by kernel_rfl⟩
theorem me_flm (P : Params) : Meth (K P) CM an (Str.ofString "find_longest_match") 196 := ⟨by decide +kernel, by kernel_rfl, by kernel_rfl⟩
theorem me_gmb (P : Params) : Meth (K P) CM an (Str.ofString "get_matching_blocks") 203 := ⟨by decide +kernel, by kernel_rfl, by kernel_rfl⟩
theorem me_ratio (P : Params) : Meth (K P) CM an (Str.ofString "ratio") 225 := ⟨by decide +kernel, by kernel_rfl, by kernel_rfl⟩
theorem me_quick (P : Params) : Meth (K P) CM an (Str.ofString "quick_ratio") 232 := ⟨by decide +kernel, by kernel_rfl, by kernel_rfl⟩
theorem me_rquick (P : Params) : Meth (K P) CM an (Str.ofString "real_quick_ratio") 239 := ⟨by decide +kernel, by kernel_rfl, by kernel_rfl⟩
end
/-- what `is` is asked of -/
noncomputable def IsOk (R : Rel) (vx va : Value) : Prop := (∃ t, vx = .str (Str.ofString "") t ∧ va = .none) ∨ ∃ x ox, vx = .ref x ∧ R x ox ∧ ox.cls = .type "list" ∧ (∀ i, va ≠ .builtin i) ∧ ∀ y, va = .ref y → ∃ oy, R y oy
section
variable {w : World} {A : Around} {E : Value → Shared → Prop} {s s' : Shared} {mg mb : Str → Option Value} {G h g : Heap} {gs : Array GenState} {dr : Drawn} {tk : Nat} {os : OsState} {L a : Addr} {nm : List Str} {ls : List (Option Value)} {mu : List (Addr × Obj)}
theorem is_ok {R : Rel} {vx va : Value} {Q : Value → Shared → Prop} (hk : IsOk R vx va) (hR : ∀ b o, R b o → h.get? b = some o) (k : Q (.bool (decide (va = vx))) ⟨h, gs, dr, tk, os⟩) : wpAny (model prog w) A (compareOp .Is vx va) Q E ⟨h, gs, dr, tk, os⟩ := by
  rcases hk with ⟨t, rfl, rfl⟩ | ⟨x, ox, rfl, hx, hc, hb, hy⟩
  · exact wpAny_is_other rfl (by intro z; cases z) (by simpa using k)
  · exact is_list hb (hR _ _ hx) hc (fun y e => let ⟨oy, h⟩ := hy y e; ⟨oy, hR _ _ h⟩) k
theorem Gr.in {d : Addr} {n : Nat} {env : Env} (X : Gr w mg mb G d A s (n + 1)) (S : St (hideAll s.heap [d]) L h nm ls mu) : Gr w mg mb G d (A.deeper env) ⟨h, gs, dr, tk, os⟩ n :=
  ⟨X.D, fun b o e => S.F.keep b o (hideAll_get _ (X.sub b o e) (fun m => by rw [List.mem_singleton.mp m, X.out] at e; cases e)), X.out, X.hA, by have := X.dep; show A.depth + 1 + n < _; lia⟩
theorem Gr.le {d : Addr} {n k : Nat} (X : Gr w mg mb G d A s n) (h : k ≤ n) : Gr w mg mb G d A s k := ⟨X.D, X.sub, X.out, X.hA, by have := X.dep; lia⟩
theorem set1_raw {m d : Addr} {vx va : Value} {vs : List Value} {od : Obj} {R : Rel} (X : Gr w mg mb G d A s 2) (hm : R m (inst CM d)) (hd : s.heap.get? d = some od) (I : IV w.params an vs od)
    (hR : ∀ b o, R b o → s.heap.get? b = some o ∧ b ≠ d) (e1 : vs[1]? = some va) (hh : handedIn va = true) (hk : IsOk R vx va) (hlen : 4 ≤ vs.length) :
    codeAny (model prog w) A (.call (.ref 174) ⟨[.ref m, vx], []⟩) (Ret [d] s fun v s' => v = .none ∧ ∃ vs' o', s'.heap.get? d = some o' ∧ IV w.params an vs' o' ∧ ((va = vx ∧ vs' = vs) ∨ vs' = putV (putV (putV vs 1 vx) 4 .none) 5 .none)) s := by
  have hA := X.hA
  have hdep := X.dep
  refine enterP ps_set1 os_set1 [.ref m, vx] [(d, od)] (fn_set1 _) (X.D.keeps X.sub) (by (clear hA hlen hh e1 hd; lia)) (b_set1 _ _ _ _) rfl p_set1 (nm := nm_set1) rfl (fun p hp => by rw [List.mem_singleton.mp hp]; exact hd) (by simp) ?_
  intro Po hPo L h₁ tk S hL
  have Dg := X.gd
  have old := hide_old hR
  refine wpAny_execs_cons (wpAny_Expr (cStr fun k1 t1 => ?_))
  refine wpAny_execs_cons (wpAny_If (wpAny_isTrue_Compare1 (ld_ S v_set1_a rfl (at1 (ld_ S v_set1_self rfl ?_)))))
  refine getV (Dg.k.keeps S.F.keep) (pl _) (at_a _).at (S.old (old _ _ hm)) (S.get (j := 0) rfl) I e1 hh fun t2 => ?_
  refine is_ok hk (fun b o e => S.old (old _ _ e)) ?_
  refine wpAny_truthy_bool ?_
  by_cases hva : va = vx
  · rw [if_pos (by simpa using hva)]
    refine wpAny_execs_cons (wpAny_Return_none ?_)
    exact hPo _ _ (S.mod (t := 0) hL id rfl rfl rfl) ⟨rfl, vs, od, S.get (j := 0) rfl, I, .inl ⟨hva, rfl⟩⟩
  · rw [if_neg (by simpa using hva)]
    refine wpAny_execs_nil ?_
    refine wpAny_execs_cons (plainObj_wpAny_Assign_Attribute (ld_ S v_set1_a rfl (ld_ S v_set1_self rfl ?_)))
    refine setV (j := 0) S (Dg.k.keeps S.F.keep) (pl _) (at_a _).at (S.old (old _ _ hm)) rfl I an_le (by lia) fun h2 t3 o2 I2 S2 => ?_
    refine wpAny_execs_cons (wpAny_Assign_two (Constant_none (asA (ld_ S2 v_set1_self rfl ?_))))
    refine setV (j := 0) S2 (Dg.k.keeps S2.F.keep) (pl _) (at_mb _).at (S2.old (old _ _ hm)) rfl I2 an_le (by rw [putV_len (by lia)]; (clear hva hL hdep hA hh e1 hd; lia)) fun h3 t4 o3 I3 S3 => ?_
    refine asA (ld_ S3 v_set1_self rfl ?_)
    refine setV (j := 0) S3 (Dg.k.keeps S3.F.keep) (pl _) (at_opc _).at (S3.old (old _ _ hm)) rfl I3 an_le (by rw [putV_len (by rw [putV_len (by lia)]; (clear hva hL hdep hA hh e1 hd; lia)), putV_len (by lia)]; (clear hva hL hdep hA hlen hh e1 hd; lia)) fun h4' t5 o4 I4 S4 => ?_
    exact wpAny_execs_nil (hPo _ _ (S4.mod (t := 0) hL id rfl rfl rfl) ⟨rfl, _, o4, S4.get (j := 0) rfl, I4, .inr rfl⟩)
theorem set2_raw {m d : Addr} {vx va : Value} {vs : List Value} {od : Obj} {R : Rel} {ys : List Int} (X : Gr w mg mb G d A s 4) (hgs : AllBare s.gens) (hm : R m (inst CM d)) (hd : s.heap.get? d = some od) (I : IV w.params an vs od)
    (hR : ∀ b o, R b o → s.heap.get? b = some o ∧ b ≠ d) (e0 : vs[0]? = some .none) (e2 : vs[2]? = some va) (e3 : ∃ t, vs[3]? = some (.bool t)) (hh : handedIn va = true) (hk : IsOk R vx va) (hlen : 6 ≤ vs.length) (hb : BV R vx ys) (hys : ys.length ≤ 199) :
    codeAny (model prog w) A (.call (.ref 181) ⟨[.ref m, vx], []⟩) (Ret [d] s fun v s' => v = .none ∧ ∃ vs' o', s'.heap.get? d = some o' ∧ IV w.params an vs' o' ∧ ((va = vx ∧ vs' = vs) ∨
      ∃ new, Fresh s s' new ∧ vs'.length = 10 ∧ vs'[0]? = vs[0]? ∧ vs'[1]? = vs[1]? ∧ vs'[2]? = some vx ∧ vs'[3]? = vs[3]? ∧ vs'[4]? = some .none ∧ vs'[6]? = some .none ∧
        (∃ p, vs'[7]? = some (.ref p) ∧ B2 prog w (R.and new) p ys) ∧ ∃ p led, vs'[8]? = some (.ref p) ∧ (R.and new) p (sob led))) s := by
  have hA := X.hA
  have hdep := X.dep
  refine enterP ps_set2 os_set2 [.ref m, vx] [(d, od)] (fn_set2 _) (X.D.keeps X.sub) (by (clear hA hys hlen hh e2 e0 hd; lia)) (b_set2 _ _ _ _) rfl p_set2 (nm := nm_set2) rfl (fun p hp => by rw [List.mem_singleton.mp hp]; exact hd) (by simp) ?_
  intro Po hPo L h₁ tk S hL
  have Dg := X.gd
  have old := hide_old hR
  refine wpAny_execs_cons (wpAny_Expr (cStr fun k1 t1 => ?_))
  refine wpAny_execs_cons (wpAny_If (wpAny_isTrue_Compare1 (ld_ S v_set2_b rfl (at1 (ld_ S v_set2_self rfl ?_)))))
  refine getV (Dg.k.keeps S.F.keep) (pl _) (at_b _).at (S.old (old _ _ hm)) (S.get (j := 0) rfl) I e2 hh fun t2 => ?_
  refine is_ok hk (fun b o e => S.old (old _ _ e)) ?_
  refine wpAny_truthy_bool ?_
  by_cases hva : va = vx
  · rw [if_pos (by simpa using hva)]
    refine wpAny_execs_cons (wpAny_Return_none ?_)
    exact hPo _ _ (S.mod (t := 0) hL id rfl rfl rfl) ⟨rfl, vs, od, S.get (j := 0) rfl, I, .inl ⟨hva, rfl⟩⟩
  · rw [if_neg (by simpa using hva)]
    refine wpAny_execs_nil ?_
    have l2 : (putV vs 2 vx).length = vs.length := by rw [putV_len (by lia)]; (clear hva hL hdep hA hys hh e2 e0 hd; lia)
    have l3 : (putV (putV vs 2 vx) 4 .none).length = vs.length := by rw [putV_len (by (clear hva hL hdep hA hys hh e2 e0 hd; lia)), l2]; (clear hva hL hdep hA hys hh e2 e0 hd; lia)
    have l4 : (putV (putV (putV vs 2 vx) 4 .none) 5 .none).length = vs.length := by rw [putV_len (by (clear hva hL hdep hA hys hh e2 e0 hd; lia)), l3]; (clear hva hL hdep hA hys hh e2 e0 hd; lia)
    have l5 : (putV (putV (putV (putV vs 2 vx) 4 .none) 5 .none) 6 .none).length = max vs.length 7 := by rw [putV_len (by (clear hva hL hdep hA hys hh e2 e0 hd; lia)), l4]
    refine wpAny_execs_cons (plainObj_wpAny_Assign_Attribute (ld_ S v_set2_b rfl (ld_ S v_set2_self rfl ?_)))
    refine setV (j := 0) S (Dg.k.keeps S.F.keep) (pl _) (at_b _).at (S.old (old _ _ hm)) rfl I an_le (by (clear l5 hva hL hdep hA hys hh e2 e0 hd; lia)) fun h2 t3 o2 I2 S2 => ?_
    refine wpAny_execs_cons (wpAny_Assign_two (Constant_none (asA (ld_ S2 v_set2_self rfl ?_))))
    refine setV (j := 0) S2 (Dg.k.keeps S2.F.keep) (pl _) (at_mb _).at (S2.old (old _ _ hm)) rfl I2 an_le (by (clear l5 hva hL hdep hA hys hh e2 e0 hd; lia)) fun h3 t4 o3 I3 S3 => ?_
    refine asA (ld_ S3 v_set2_self rfl ?_)
    refine setV (j := 0) S3 (Dg.k.keeps S3.F.keep) (pl _) (at_opc _).at (S3.old (old _ _ hm)) rfl I3 an_le (by (clear l5 hva hL hdep hA hys hh e2 e0 hd; lia)) fun h4 t5 o4 I4 S4 => ?_
    refine wpAny_execs_cons (plainObj_wpAny_Assign_Attribute (Constant_none (ld_ S4 v_set2_self rfl ?_)))
    refine setV (j := 0) S4 (Dg.k.keeps S4.F.keep) (pl _) (at_fb _).at (S4.old (old _ _ hm)) rfl I4 an_le (by (clear l5 hva hL hdep hA hys hh e2 e0 hd; lia)) fun h5 t6 o5 I5 S5 => ?_
    refine wpAny_execs_cons (wpAny_Expr (MethodCall_ (ld_ S5 v_set2_self rfl (methV (Dg.k.keeps S5.F.keep) (pl _) (me_chain _) (S5.old (old _ _ hm)) (S5.get (j := 0) rfl) I5 (cMn0 (fn_chain _) (Dg.k.keeps S5.F.keep) ?_)))))
    obtain ⟨aj, e3⟩ := e3
    refine callS (chain_spec (R := R) (vb := vx) (ys := ys) ((X.le (by decide)).in (n := 2) S5) hgs hm ⟨o5, S5.get (j := 0) rfl, I5⟩ (fun b o e => ⟨S5.old (old _ _ e), (hR _ _ e).2⟩) ?_ ?_ hb ⟨aj, ?_⟩ (by (clear e3 hva hL hdep hA hys hlen hh e2 e0 hd; lia)) hys) fun v h6 gs6 t7 M hv => ?_
    · exact putV_ne (by decide) (putV_ne (by decide) (putV_ne (by decide) (putV_ne (by decide) e0)))
    · exact putV_ne (by decide) (putV_ne (by decide) (putV_ne (by decide) (putV_self (by (clear e3 l5 hva hL hdep hA hys hh e2 e0 hd; lia)))))
    · exact putV_ne (by decide) (putV_ne (by decide) (putV_ne (by decide) (putV_ne (by decide) e3)))
    obtain ⟨rfl, vs', o', new, ho', I', F', hl', hk', hb2, hbj⟩ := hv
    have S6 := S5.callN (s := ⟨h5, s.gens, s.drawn, t6, s.os⟩) (s' := ⟨h6, gs6, s.drawn, t7, s.os⟩) (j := 0) M rfl ho' F'
    refine wpAny_execs_nil (hPo _ _ (S6.mod (t := 0) hL M.gens rfl rfl rfl) ⟨rfl, vs', o', ho', I', .inr ⟨new, St.fresh (s' := ⟨h6, gs6, s.drawn, t7, s.os⟩) (mu := [(d, o')]) S6 rfl rfl, hl', ?_, ?_, ?_, ?_, ?_, ?_, hb2, hbj⟩⟩)
    · rw [hk' 0 (by (clear hl' ho' e3 l5 l4 l3 l2 hva hL hdep hA hys hlen hh e2 e0 hd; lia)), e0]; exact putV_ne (by decide) (putV_ne (by decide) (putV_ne (by decide) (putV_ne (by decide) e0)))
    · have e : vs[1]? = some (vs[1]'(by (clear hl' ho' e3 l5 hva hL hdep hA hys hh e2 e0 hd; lia))) := List.getElem?_eq_getElem (by (clear hl' ho' e3 l5 hva hL hdep hA hys hh e2 e0 hd; lia))
      rw [hk' 1 (by (clear e hl' ho' e3 l5 l4 l3 l2 hva hL hdep hA hys hlen hh e2 e0 hd; lia)), e]; exact putV_ne (by decide) (putV_ne (by decide) (putV_ne (by decide) (putV_ne (by decide) e)))
    · rw [hk' 2 (by (clear hl' ho' e3 l5 l4 l3 l2 hva hL hdep hA hys hlen hh e2 e0 hd; lia))]; exact putV_ne (by decide) (putV_ne (by decide) (putV_ne (by decide) (putV_self (by (clear hl' ho' e3 l5 hva hL hdep hA hys hh e2 e0 hd; lia)))))
    · rw [hk' 3 (by (clear hl' ho' e3 l5 l4 l3 l2 hva hL hdep hA hys hlen hh e2 e0 hd; lia)), e3]; exact putV_ne (by decide) (putV_ne (by decide) (putV_ne (by decide) (putV_ne (by decide) e3)))
    · rw [hk' 4 (by (clear hl' ho' e3 l5 l4 l3 l2 hva hL hdep hA hys hlen hh e2 e0 hd; lia))]; exact putV_ne (by decide) (putV_ne (by decide) (putV_self (by (clear hl' ho' e3 l5 hva hL hdep hA hys hh e2 e0 hd; lia))))
    · rw [hk' 6 (by (clear hl' ho' e3 l5 l4 l3 l2 hva hL hdep hA hys hlen hh e2 e0 hd; lia))]; exact putV_self (by (clear hl' ho' e3 l5 hva hL hdep hA hys hh e2 e0 hd; lia))
end
end Mine
end
section
set_option Elab.async false
set_option maxRecDepth 100000
set_option linter.unusedVariables false
namespace Mine
open PySem PySem.W PySem.Calls PyProof.Rows
section
variable {w : World} {A : Around} {E : Value → Shared → Prop} {s s' : Shared} {mg mb : Str → Option Value} {G h g : Heap} {gs : Array GenState} {dr : Drawn} {tk : Nat} {os : OsState} {L a : Addr} {nm : List Str} {ls : List (Option Value)} {mu : List (Addr × Obj)}
theorem ret_mono {W : List Addr} {P P' : Value → Shared → Prop} {c : Code} (h : codeAny (model prog w) A c (Ret W s P) s) (k : ∀ v s', Mod W s s' → P v s' → P' v s') : codeAny (model prog w) A c (Ret W s P') s :=
  codeAny_mono h fun r s' hr => match r, hr with
    | .ok (.ret v), ⟨M, p⟩ => ⟨M, k v s' M p⟩
theorem LI.uniq {R : Rel} {x : Addr} {xs ys : List Int} (hR : ∀ b o, R b o → s.heap.get? b = some o) (h : LI R x xs) (h' : LI R x ys) : xs = ys := by
  obtain ⟨i1, n1, o1, a1⟩ := h
  obtain ⟨i2, n2, o2, a2⟩ := h'
  have e1 := hR _ _ o1
  have e2 := hR _ _ o2
  rw [e1] at e2
  have e3 := lob_inj (Option.some.inj e2)
  subst e3
  exact IntsAre.uniq a1 a2
theorem set2_spec {m d x : Addr} {vs : List Value} {oa ob : Option (Addr × List Int)} {R : Rel} {ys : List Int} (X : Gr w mg mb G d A s 4) (hgs : AllBare s.gens) (M : MA w R m d vs oa ob s) (hx : LI R x ys) (hl : ys.length ≤ 199) :
    codeAny (model prog w) A (.call (.ref 181) ⟨[.ref m, .ref x], []⟩) (Ret [d] s fun v s' => v = .none ∧ ∃ vs' o' new, s'.heap.get? d = some o' ∧ IV w.params an vs' o' ∧ Fresh s s' new ∧ MS prog w (R.and new) vs' oa (some (x, ys))) s := by
  obtain ⟨od, hd, I⟩ := M.hd
  obtain ⟨va, hb, hhand, hbi, hy⟩ := M.hS.bVal
  have H := M.hS
  obtain ⟨items, n, hxo, hxi⟩ := id hx
  refine ret_mono (set2_raw X hgs M.hm hd I M.hR H.isj hb H.aj hhand (.inr ⟨x, _, rfl, hxo, rfl, hbi, fun y e => by obtain ⟨xs, _, i, n, ho, _⟩ := hy y e; exact ⟨_, ho⟩⟩) (by rw [H.len]; lia) (.inl ⟨x, rfl, hx⟩) hl) fun v s' M' hv => ?_
  obtain ⟨rfl, vs', o', ho', I', hv⟩ := hv
  rcases hv with ⟨rfl, rfl⟩ | ⟨new, F, l, e0, e1, e2, e3, e4, e6, h7, h8⟩
  · obtain ⟨ys', rfl, hl'⟩ := hy x rfl
    have : ys' = ys := LI.uniq (s := s) (fun b o e => (M.hR b o e).1) hl' hx
    subst this
    exact ⟨rfl, _, o', [], ho', I', Fresh.nil, H.mono fun b o e => .inl e⟩
  · refine ⟨rfl, vs', o', new, ho', I', F, ⟨by rw [e0]; exact H.isj, ?_, ⟨e2, hx.mono fun b o e => .inl e, hl, h7, .inl e6⟩, by rw [e3]; exact H.aj, .inl e4, h8, l⟩⟩
    have := H.a
    match oa, this with
    | some (l, xs), h => exact ⟨by rw [e1]; exact h.1, h.2.1.mono fun b o e => .inl e, h.2.2⟩
    | none, h => rw [e1]; exact h
noncomputable def AV (R : Rel) (va : Value) (oa : Option (Addr × List Int)) : Prop := (∃ l xs, va = .ref l ∧ oa = some (l, xs) ∧ LI R l xs ∧ xs.length ≤ 199) ∨ (∃ t, va = .str (Str.ofString "") t ∧ oa = none)
theorem AV.isOk {R : Rel} {va : Value} {oa : Option (Addr × List Int)} (h : AV R va oa) : IsOk R va .none := by
  rcases h with ⟨l, xs, rfl, _, ⟨i, n, ho, _⟩, _⟩ | ⟨t, rfl, _⟩
  · refine .inr ⟨l, _, rfl, ho, rfl, ?_, ?_⟩
    · intro i e; cases e
    · intro y e; cases e
  · exact .inl ⟨t, rfl, rfl⟩
theorem AV.bv {R : Rel} {va : Value} {oa : Option (Addr × List Int)} (h : AV R va oa) : ∃ ys, BV R va ys ∧ ys.length ≤ 199 ∧ ∀ l xs, oa = some (l, xs) → ys = xs := by
  rcases h with ⟨l, xs, rfl, rfl, hl, hn⟩ | ⟨t, rfl, rfl⟩
  · exact ⟨xs, .inl ⟨l, rfl, hl⟩, hn, fun l xs e => by cases e; rfl⟩
  · exact ⟨[], .inr ⟨t, rfl, rfl⟩, by simp, fun l xs e => nomatch e⟩
theorem AV.ne {R : Rel} {va : Value} {oa : Option (Addr × List Int)} (h : AV R va oa) : Value.none ≠ va := by
  rcases h with ⟨l, xs, rfl, _⟩ | ⟨t, rfl, _⟩ <;> intro e <;> cases e
theorem sets_spec {m d : Addr} {vs : List Value} {va vb : Value} {oa ob : Option (Addr × List Int)} {od : Obj} {R : Rel} (X : Gr w mg mb G d A s 6) (hgs : AllBare s.gens) (hm : R m (inst CM d)) (hd : s.heap.get? d = some od) (I : IV w.params an vs od)
    (hR : ∀ b o, R b o → s.heap.get? b = some o ∧ b ≠ d) (e0 : vs[0]? = some .none) (e1 : vs[1]? = some .none) (e2 : vs[2]? = some .none) (e3 : ∃ t, vs[3]? = some (.bool t)) (hl : vs.length = 4) (ha : AV R va oa) (hb : AV R vb ob) :
    codeAny (model prog w) A (.call (.ref 167) ⟨[.ref m, va, vb], []⟩) (Ret [d] s fun v s' => v = .none ∧ ∃ vs' o' new, s'.heap.get? d = some o' ∧ IV w.params an vs' o' ∧ Fresh s s' new ∧ MS prog w (R.and new) vs' oa ob) s := by
  have hA := X.hA
  have hdep := X.dep
  refine enterP ps_sets os_sets [.ref m, va, vb] [(d, od)] (fn_sets _) (X.D.keeps X.sub) (by (clear hA hl e2 e1 e0 hd; lia)) (b_sets _ _ _ _ _) rfl p_sets (nm := nm_sets) rfl (fun p hp => by rw [List.mem_singleton.mp hp]; exact hd) (by simp) ?_
  intro Po hPo L h₁ tk S hL
  have Dg := X.gd
  have old := hide_old hR
  obtain ⟨aj, e3⟩ := e3
  refine wpAny_execs_cons (wpAny_Expr (cStr fun k1 t1 => ?_))
  refine wpAny_execs_cons (wpAny_Expr (MethodCall_ (ld_ S v_sets_self rfl (methV (Dg.k.keeps S.F.keep) (pl _) (me_set1 _) (S.old (old _ _ hm)) (S.get (j := 0) rfl) I (cMn (fn_set1 _) (arg_ (ld_ S v_sets_a rfl (arg0 ⟨Dg.k.keeps S.F.keep, ?_⟩))))))))
  refine callS (set1_raw (R := R) (va := .none) ((X.le (k := 3) (by decide)).in S) hm (S.get (j := 0) rfl) I (fun b o e => ⟨S.old (old _ _ e), (hR _ _ e).2⟩) e1 rfl ha.isOk (by lia)) fun v h2 gs2 t2 M2 hv => ?_
  obtain ⟨rfl, vs2, o2, ho2, I2, hv⟩ := hv
  have S2 := S.call1 (s := ⟨h₁, s.gens, s.drawn, t1, s.os⟩) (s' := ⟨h2, gs2, s.drawn, t2, s.os⟩) (j := 0) M2 rfl ho2
  rcases hv with ⟨e, _⟩ | rfl
  · exact absurd e ha.ne
  have l1 : (putV vs 1 va).length = 4 := by rw [putV_len (by lia)]; (clear ho2 e3 hL hdep hA e2 e1 e0 hd; lia)
  have l2 : (putV (putV vs 1 va) 4 .none).length = 5 := by rw [putV_len (by (clear ho2 e3 hL hdep hA hl e2 e1 e0 hd; lia))]; (clear ho2 e3 hL hdep hA hl e2 e1 e0 hd; lia)
  have l3 : (putV (putV (putV vs 1 va) 4 .none) 5 .none).length = 6 := by rw [putV_len (by (clear l1 ho2 e3 hL hdep hA hl e2 e1 e0 hd; lia))]; (clear l1 ho2 e3 hL hdep hA hl e2 e1 e0 hd; lia)
  refine wpAny_execs_cons (wpAny_Expr (MethodCall_ (ld_ S2 v_sets_self rfl (methV (Dg.k.keeps S2.F.keep) (pl _) (me_set2 _) (S2.old (old _ _ hm)) (S2.get (j := 0) rfl) I2 (cMn (fn_set2 _) (arg_ (ld_ S2 v_sets_b rfl (arg0 ⟨Dg.k.keeps S2.F.keep, ?_⟩))))))))
  obtain ⟨ys, hbv, hys, hyx⟩ := hb.bv
  refine callS (set2_raw (R := R) (va := .none) (ys := ys) ((X.le (k := 5) (by decide)).in S2) (M2.gens hgs) hm (S2.get (j := 0) rfl) I2 (fun b o e => ⟨S2.old (old _ _ e), (hR _ _ e).2⟩) ?_ ?_ ⟨aj, ?_⟩ rfl hb.isOk (by (clear hys l2 l1 ho2 e3 hL hdep hA hl e2 e1 e0 hd; lia)) hbv hys) fun v h3 gs3 t3 M3 hv => ?_
  · exact putV_ne (by decide) (putV_ne (by decide) (putV_ne (by decide) e0))
  · exact putV_ne (by decide) (putV_ne (by decide) (putV_ne (by decide) e2))
  · exact putV_ne (by decide) (putV_ne (by decide) (putV_ne (by decide) e3))
  obtain ⟨rfl, vs3, o3, ho3, I3, hv⟩ := hv
  rcases hv with ⟨e, _⟩ | ⟨new, F, l, d0, d1, d2, d3, d4, d6, h7, h8⟩
  · exact absurd e hb.ne
  have S3 := S2.callN (s := ⟨h2, gs2, s.drawn, t2, s.os⟩) (s' := ⟨h3, gs3, s.drawn, t3, s.os⟩) (j := 0) M3 rfl ho3 F
  refine wpAny_execs_nil (hPo _ _ (S3.mod (t := 0) hL (fun _ => M3.gens (M2.gens hgs)) rfl rfl rfl) ⟨rfl, vs3, o3, new, ho3, I3, St.fresh (s' := ⟨h3, gs3, s.drawn, t3, s.os⟩) (mu := [(d, o3)]) S3 rfl rfl, ⟨?_, ?_, ?_, ⟨aj, ?_⟩, .inl d4, h8, l⟩⟩)
  · rw [d0]; exact putV_ne (by decide) (putV_ne (by decide) (putV_ne (by decide) e0))
  · have d1' : vs3[1]? = some va := by rw [d1]; exact putV_ne (by decide) (putV_ne (by decide) (putV_self (by (clear d6 d4 d3 d2 d1 d0 l ho3 hys l3 l2 l1 ho2 e3 hL hdep hA e2 e1 e0 hd; lia))))
    rcases ha with ⟨l, xs, rfl, rfl, hl, hn⟩ | ⟨t, rfl, rfl⟩
    · exact ⟨d1', hl.mono fun b o e => .inl e, hn⟩
    · exact ⟨t, d1'⟩
  · rcases hb with ⟨l, xs, rfl, rfl, hl, hn⟩ | ⟨t, rfl, rfl⟩
    · obtain rfl := hyx l xs rfl
      exact ⟨d2, hl.mono fun b o e => .inl e, hn, h7, .inl d6⟩
    · exact ⟨t, d2⟩
  · rw [d3]; exact putV_ne (by decide) (putV_ne (by decide) (putV_ne (by decide) e3))
theorem init_spec {m d : Addr} {va vb : Value} {aj : Bool} {oa ob : Option (Addr × List Int)} {od : Obj} {R : Rel} (X : Gr w mg mb G d A s 8) (hgs : AllBare s.gens) (hm : R m (inst CM d)) (hd : s.heap.get? d = some od) (I : IV w.params an [] od)
    (hR : ∀ b o, R b o → s.heap.get? b = some o ∧ b ≠ d) (ha : AV R va oa) (hb : AV R vb ob) (args : Args) (hbind : BindsTo s (fdOf (o160 w.params)) args (ps_init.zip [.ref m, .none, va, vb, .bool aj])) :
    codeAny (model prog w) A (.call (.ref 160) args) (Ret [d] s fun v s' => v = .none ∧ ∃ vs' o' new, s'.heap.get? d = some o' ∧ IV w.params an vs' o' ∧ Fresh s s' new ∧ MS prog w (R.and new) vs' oa ob) s := by
  have hA := X.hA
  have hdep := X.dep
  refine enterP ps_init os_init [.ref m, .none, va, vb, .bool aj] [(d, od)] (fn_init _) (X.D.keeps X.sub) (by lia) hbind rfl p_init (nm := nm_init) rfl (fun p hp => by rw [List.mem_singleton.mp hp]; exact hd) (by simp) ?_
  intro Po hPo L h₁ tk S hL
  have Dg := X.gd
  have old := hide_old hR
  refine wpAny_execs_cons (wpAny_Expr (cStr fun k1 t1 => ?_))
  refine wpAny_execs_cons (plainObj_wpAny_Assign_Attribute (ld_ S v_init_isjunk rfl (ld_ S v_init_self rfl ?_)))
  refine setV (j := 0) S (Dg.k.keeps S.F.keep) (pl _) (at_isjunk _).at (S.old (old _ _ hm)) rfl I an_le (by simp) fun h2 t3 o2 I2 S2 => ?_
  refine wpAny_execs_cons (wpAny_Assign_two (Constant_none (asA (ld_ S2 v_init_self rfl ?_))))
  refine setV (j := 0) S2 (Dg.k.keeps S2.F.keep) (pl _) (at_a _).at (S2.old (old _ _ hm)) rfl I2 an_le (by simp [putV]) fun h3 t4 o3 I3 S3 => ?_
  refine asA (ld_ S3 v_init_self rfl ?_)
  refine setV (j := 0) S3 (Dg.k.keeps S3.F.keep) (pl _) (at_b _).at (S3.old (old _ _ hm)) rfl I3 an_le (by simp [putV]) fun h4 t5 o4 I4 S4 => ?_
  refine wpAny_execs_cons (plainObj_wpAny_Assign_Attribute (ld_ S4 v_init_autojunk rfl (ld_ S4 v_init_self rfl ?_)))
  refine setV (j := 0) S4 (Dg.k.keeps S4.F.keep) (pl _) (at_autojunk _).at (S4.old (old _ _ hm)) rfl I4 an_le (by simp [putV]) fun h5 t6 o5 I5 S5 => ?_
  have hv5 : putV (putV (putV (putV [] 0 .none) 1 .none) 2 .none) 3 (.bool aj) = [.none, .none, .none, .bool aj] := rfl
  rw [hv5] at I5
  refine wpAny_execs_cons (wpAny_Expr (MethodCall_ (ld_ S5 v_init_self rfl (methV (Dg.k.keeps S5.F.keep) (pl _) (me_sets _) (S5.old (old _ _ hm)) (S5.get (j := 0) rfl) I5 (cMn (fn_sets _) (arg_ (ld_ S5 v_init_a rfl (arg_ (ld_ S5 v_init_b rfl (arg0 ⟨Dg.k.keeps S5.F.keep, ?_⟩))))))))))
  refine callS (sets_spec (R := R) ((X.le (k := 7) (by decide)).in S5) hgs hm (S5.get (j := 0) rfl) I5 (fun b o e => ⟨S5.old (old _ _ e), (hR _ _ e).2⟩) rfl rfl rfl ⟨aj, rfl⟩ rfl ha hb) fun v h6 gs6 t7 M6 hv => ?_
  obtain ⟨rfl, vs6, o6, new, ho6, I6, F, hS⟩ := hv
  have S6 := S5.callN (s := ⟨h5, s.gens, s.drawn, t6, s.os⟩) (s' := ⟨h6, gs6, s.drawn, t7, s.os⟩) (j := 0) M6 rfl ho6 F
  exact wpAny_execs_nil (hPo _ _ (S6.mod (t := 0) hL M6.gens rfl rfl rfl) ⟨rfl, vs6, o6, new, ho6, I6, St.fresh (s' := ⟨h6, gs6, s.drawn, t7, s.os⟩) (mu := [(d, o6)]) S6 rfl rfl, hS⟩)
end
end Mine
end
section
set_option Elab.async false
set_option maxRecDepth 100000
set_option linter.unusedVariables false
namespace Mine
open PySem PySem.W PySem.Calls PyProof.Rows
theorem join {M : Model} {A : Around} {E : Value → Shared → Prop} {s : Shared} {env : Env} {st : Stmt} {rest : List Stmt} {Q : Flow → Shared → Prop} (I : Shared → Prop) (h : ∀ I' : Shared → Prop, (∀ s', I s' → I' s') → wpAny M A (exec st env) (fun f s' => f = .next ∧ I' s') E s) (k : ∀ s', I s' → wpAny M A (execs rest env) Q E s') : wpAny M A (execs (st :: rest) env) Q E s :=
  wpAny_execs_cons (wpAny_mono (h I fun _ x => x) (fun f s' hf => by obtain ⟨rfl, i⟩ := hf; exact k s' i) fun _ _ x => x)
theorem joinO {M : Model} {A : Around} {E : Value → Shared → Prop} {s : Shared} {env : Env} {st : Stmt} {rest : List Stmt} {Q : Flow → Shared → Prop} (I : Shared → Prop) (h : wpAny M A (exec st env) (fun f s' => f = .next ∧ I s') E s) (k : ∀ s', I s' → wpAny M A (execs rest env) Q E s') : wpAny M A (execs (st :: rest) env) Q E s :=
  wpAny_execs_cons (wpAny_mono h (fun f s' hf => by obtain ⟨rfl, i⟩ := hf; exact k s' i) fun _ _ x => x)
theorem cnt_append (k : Int) (ys : List Int) (y : Int) : cnt k (ys ++ [y]) = cnt k ys + (if y = k then 1 else 0) := by
  unfold cnt
  rw [List.count_append, List.count_singleton]
  by_cases h : y = k <;> simp [h]
/-- a dict of ints -/
noncomputable def DG (prog : Program) (w : World) (o : Obj) (n : Nat) (F f : Int → Int) : Prop := ∃ kvs, DI prog w o kvs ∧ kvs.length ≤ n ∧ ∀ k, match valueAt kvs k with
  | some v => ∃ t, v = .int (F k) t
  | none => F k = f k
theorem DG.get {prog : Program} {w : World} {kvs : List (Int × Value)} {F f : Int → Int} (h : ∀ k, match valueAt kvs k with
  | some v => ∃ t, v = .int (F k) t
  | none => F k = f k) (k : Int) (t : Tok) : ∃ t', (valueAt kvs k).getD (.int (f k) t) = .int (F k) t' := by
  have := h k
  cases hc : valueAt kvs k with
  | some v => rw [hc] at this; obtain ⟨t', rfl⟩ := this; exact ⟨t', rfl⟩
  | none => rw [hc] at this; exact ⟨t, by rw [this]; rfl⟩
theorem DG.put {kvs : List (Int × Value)} {F f : Int → Int} (h : ∀ k, match valueAt kvs k with
  | some v => ∃ t, v = .int (F k) t
  | none => F k = f k) (x n : Int) (t : Tok) (k : Int) : match valueAt (stored kvs x (.int n t)) k with
  | some v => ∃ t, v = .int ((fun k => if k = x then n else F k) k) t
  | none => (fun k => if k = x then n else F k) k = f k := by
  rw [valueAt_stored]
  by_cases e : k = x
  · rw [if_pos e]
    exact ⟨t, by simp [e]⟩
  · rw [if_neg e]
    have := h k
    cases hc : valueAt kvs k with
    | some v => rw [hc] at this; obtain ⟨t', rfl⟩ := this; exact ⟨t', by simp [e]⟩
    | none => rw [hc] at this; simpa [e] using this
theorem Kn.mono {g : Heap} {mu mu' : List (Addr × Obj)} {b : Addr} {o : Obj} (k : Kn g mu b o) (h : ∀ p ∈ mu, p ∈ mu') : Kn g mu' b o := k.elim .inl fun m => .inr (h _ m)
theorem cntI {α : Type} {l : List α} {i : Nat} {v : α} (h : l[i]? = some v) : l.drop i = v :: l.drop (i + 1) := by
  have := (List.getElem?_eq_some_iff.mp h)
  obtain ⟨hl, rfl⟩ := this
  exact List.drop_eq_getElem_cons hl
theorem qm_le : ∀ (xs : List Int) (f : Int → Int), qm xs f ≤ xs.length
  | [], _ => Nat.le_refl _
  | x :: xs, f => by
    have := qm_le xs fun y => if y = x then f x - 1 else f y
    simp only [qm, List.length_cons]
    split <;> omega
section
variable {w : World} {A : Around} {E : Value → Shared → Prop} {s s' : Shared} {mg mb : Str → Option Value} {G h g : Heap} {gs : Array GenState} {dr : Drawn} {tk : Nat} {os : OsState} {L a : Addr} {nm : List Str} {ls : List (Option Value)} {mu : List (Addr × Obj)}
inductive NJ1 (w : World) (s : Shared) (m : Addr) (d : Addr) (vs : List Value) (ys : List Int) (R : Rel) (L : Addr) (s' : Shared) : Prop
  | mk (h' gs' tk' o' vs' x1 x2 p op new) (q1 : s' = ⟨h', gs', s.drawn, tk', s.os⟩) (q2 : AllBare gs') (q3 : St (hideAll s.heap [d]) L h' nm_quick [some (.ref m), x1, x2, none, none, none, none] ((d, o') :: new)) (q4 : IV w.params an vs' o') (q5 : vs'.length = 10) (q6 : vs'[6]? = some (.ref p)) (q7 : (∀ i, i ≠ 6 → vs'[i]? = vs[i]?)) (q8 : (R.and new) p op) (q9 : (p == sysModules) = false) (q10 : DF prog w op fun k => cnt k ys) : NJ1 w s m d vs ys R L s'
inductive NJ2 (w : World) (m : Addr) (d : Addr) (ys : List Int) (h₁ : Heap) (o4 : Obj) (i : Nat) (ls : List (Option Value)) (mu : List (Addr × Obj)) : Prop
  | mk (o : Obj) (x2 : Option Value) (q1 : ls = [some (.ref m), some (.ref h₁.objs.size), x2, none, none, none, none]) (q2 : mu = [(h₁.objs.size, o), (d, o4)]) (q3 : DG prog w o i (fun k => cnt k (ys.take i)) fun _ => 0) : NJ2 w m d ys h₁ o4 i ls mu
inductive NJ3 (w : World) (m : Addr) (d : Addr) (xs : List Int) (ys : List Int) (o2 : Obj) (p : Addr) (new : List (Addr × Obj)) (h3 : Heap) (h5 : Heap) (i : Nat) (ls : List (Option Value)) (mu : List (Addr × Obj)) : Prop
  | mk (o : Obj) (y2 y6 : Option Value) (F : Int → Int) (c : Nat) (t : Tok) (q1 : ls = [some (.ref m), some (.ref p), y2, some (.ref h3.objs.size), some (.ref h5.objs.size), some (.int c t), y6]) (q2 : mu = (h5.objs.size, bmObj "dict.__contains__" h3.objs.size) :: (h3.objs.size, o) :: (d, o2) :: new) (q3 : DG prog w o i F (fun k => cnt k ys)) (q4 : c + qm (xs.drop i) F = qm xs fun k => cnt k ys) : NJ3 w m d xs ys o2 p new h3 h5 i ls mu
inductive NJ4 (s : Shared) (m : Addr) (d : Addr) (L : Addr) (o2 : Obj) (p : Addr) (new : List (Addr × Obj)) (h3 : Heap) (h5 : Heap) (own : List (Addr × Obj)) (gs9 : Array GenState) (o : Obj) (F : Int → Int) (c : Nat) (t : Tok) (x : Int) (u : Tok) (s' : Shared) : Prop
  | mk (h' tk' t') (q1 : s' = ⟨h', gs9, s.drawn, tk', s.os⟩) (q2 : St (hideAll s.heap [d]) L h' nm_quick [some (.ref m), some (.ref p), some (.int x u), some (.ref h3.objs.size), some (.ref h5.objs.size), some (.int c t), some (.int (F x) t')] ((h5.objs.size, bmObj "dict.__contains__" h3.objs.size) :: (h3.objs.size, o) :: (d, o2) :: new ++ own)) : NJ4 s m d L o2 p new h3 h5 own gs9 o F c t x u s'
theorem quick_spec {m d la lb : Addr} {vs : List Value} {xs ys : List Int} {R : Rel} (X : Gr w mg mb G d A s 3) (hgs : AllBare s.gens) (M : MA w R m d vs (some (la, xs)) (some (lb, ys)) s) (hz : xs.length + ys.length ≠ 0) :
    codeAny (model prog w) A (.call (.ref 232) ⟨[.ref m], []⟩) (Ret [d] s fun v s' => (∃ k, v = .float (ratioF (qm xs fun k => cnt k ys : Nat) (xs.length + ys.length)) (k + 1)) ∧ ∃ vs' o' new, s'.heap.get? d = some o' ∧ IV w.params an vs' o' ∧ Fresh s s' new ∧ MS prog w (R.and new) vs' (some (la, xs)) (some (lb, ys))) s := by
  obtain ⟨od, hd, I⟩ := M.hd
  have H := M.hS
  have hm := M.hm
  have hR := M.hR
  have hA := X.hA
  have hdep := X.dep
  refine enterP ps_quick os_quick [.ref m] [(d, od)] (fn_quick _) (X.D.keeps X.sub) (by omega) (b_quick _ _ _) rfl p_quick (nm := nm_quick) rfl (fun p hp => by rw [List.mem_singleton.mp hp]; exact hd) (by simp) ?_
  intro Po hPo L h₁ tk S hL
  have Dg := X.gd
  have old := hide_old hR
  have hlen := H.len
  obtain ⟨e1, ⟨ia, na, hao, hai⟩, hxl⟩ := H.a
  obtain ⟨e2, ⟨ib, nb, hbo, hbi⟩, hyl, h7, h6⟩ := H.b
  refine wpAny_execs_cons (wpAny_Expr (cStr fun k1 t1 => ?_))
  refine join (NJ1 w s m d vs ys R L) ?_ ?_
  · intro I' hI
    refine wpAny_If (wpAny_isTrue_Compare1 (at1 (ld_ S v_quick_self rfl ?_)))
    rcases h6 with h6 | ⟨p, op, h6, hp, hsys, hD⟩
    · refine getV (Dg.k.keeps S.F.keep) (pl _) (at_fb _).at (S.old (old _ _ hm)) (S.get (j := 0) rfl) I h6 rfl fun t2 => ?_
      refine Constant_none (wpAny_is_self rfl (wpAny_truthy_bool ?_))
      rw [if_pos rfl]
      refine wpAny_execs_cons (wpAny_Assign_two (newD S fun h3 o3 D3 S3 => asA (ld_ S3 v_quick_self rfl ?_)))
      refine setV (j := 1) S3 (Dg.k.keeps S3.F.keep) (pl _) (at_fb _).at (S3.old (old _ _ hm)) rfl I an_le (by (clear h6 hyl e2 hxl e1 hL hdep hA hd hz; omega)) fun h4 t4 o4 I4 S4 => ?_
      rw [putV_set (by (clear h6 hyl e2 hxl e1 hL hdep hA hd hz; omega))] at I4
      refine assign_Name (st_ S4 v_quick_fullbcount (Nat.le_of_ble_eq_true rfl) fun h5 t5 S5 => ?_)
      have hsys : (h₁.objs.size == sysModules) = false := notSys (Nat.lt_of_lt_of_le X.big (Nat.le_trans hL (Nat.le_of_lt S.F.ns.lt)))
      refine wpAny_execs_cons (wpAny_For (at1 (ld_ S5 v_quick_self rfl ?_)))
      refine getV (Dg.k.keeps S5.F.keep) (pl _) (at_b _).at (S5.old (old _ _ hm)) (S5.get (j := 1) rfl) I4 (by rw [List.getElem?_set_ne (by decide)]; exact e2) rfl fun t6 => ?_
      refine forL (items := ib) (NJ2 w m d ys h₁ o4)
        v_quick_elt S5 hA hgs (lob_list (S5.old (old _ _ hbo))) (.inl ⟨_, old _ _ hbo⟩) ?_ ?_ ?_ ?_
      · rintro i _ _ ⟨o, x2, rfl, rfl, _⟩
        exact Nat.le_of_ble_eq_true rfl
      · rintro i v _ _ own h6 gs6 tk6 hv ⟨o, x2, rfl, rfl, kvs, D, hkl, f⟩ hg6 S6 T hT
        obtain ⟨y, u, rfl, hy⟩ := IntsAre.get hbi hv
        have hyi := lt_of_get hy
        refine wpAny_execs_cons (wpAny_Assign_Subscript (wpAny_BinOp (MethodCall_ (ld_ S6 v_quick_fullbcount rfl (mD PySem.F.slot_dict_get PySem.F.type_dict_get (D.of (S6.get (j := 0) rfl)) (callWith_method1 (arg_ (ld_ S6 v_quick_elt rfl (arg_ (cInt fun k7 t7 => arg0 ?_))))))))))
        refine dGet (D.of (S6.get (j := 0) rfl)) hsys fun t8 => ?_
        obtain ⟨t', e⟩ := DG.get (prog := prog) (w := w) f y k7
        rw [e]
        refine cInt fun k9 t9 => add_ fun k10 t10 => ld_ S6 v_quick_fullbcount rfl (ld_ S6 v_quick_elt rfl ?_)
        refine setI (j := 0) S6 rfl D (by (clear e hv hy hsys e2 hxl e1 hlen hL hdep hA hd hz; omega)) fun h11 t11 o11 D11 S11 => wpAny_execs_nil (TN hT (mu := [(h₁.objs.size, o11), (d, o4)]) S11 hg6 ⟨o11, _, rfl, rfl, _, D11, Nat.le_trans stored_len (by (clear e hyi hv hy hsys hyl e2 hxl e1 hlen hL hdep hA hd hz; omega)), fun k => ?_⟩)
        have := DG.put f y (cnt y (ys.take i) + 1) k10 k
        have e2 : (fun k => cnt k (ys.take (i + 1))) = fun k => if k = y then cnt y (ys.take i) + 1 else cnt k (ys.take i) := by
          funext k
          rw [take_succ_of hy, cnt_append]
          by_cases hk : k = y
          · subst hk; simp
          · have : ¬ y = k := fun z => hk z.symm
            simp [hk, this]
        have e3 := congrFun e2 k
        dsimp only at e3 this ⊢
        rw [e3]
        exact this
      · rintro _ _ h7 gs7 tk7 ⟨o, x2, rfl, rfl, kvs, D, hkl, f⟩ hg7 S7
        have S8 := S7.perm (List.Perm.swap _ _ _)
        refine wpAny_execs_nil ⟨rfl, hI _ ⟨h7, gs7, tk7, o4, _, _, _, _, o, [(h₁.objs.size, o)], rfl, hg7, S8, I4, by simpa using hlen, by simp [hlen], fun i hi => ?_, .inr (.head _), hsys, kvs, D, ?_⟩⟩
        · rw [List.getElem?_set_ne (fun z => hi z.symm)]
        · rw [hbi.length, List.take_length] at f
          exact f
      · refine ⟨o3, none, rfl, rfl, [], D3, Nat.le_refl _, fun k => ?_⟩
        simp [valueAt, cnt]
    · refine getV (Dg.k.keeps S.F.keep) (pl _) (at_fb _).at (S.old (old _ _ hm)) (S.get (j := 0) rfl) I h6 rfl fun t2 => ?_
      refine Constant_none (wpAny_is_other rfl (by intro z; cases z) (wpAny_truthy_bool ?_))
      rw [if_neg (by decide)]
      exact wpAny_execs_nil ⟨rfl, hI _ ⟨h₁, s.gens, t2, od, vs, none, none, p, op, [], rfl, hgs, S, I, hlen, h6, fun _ _ => rfl, .inl hp, hsys, hD⟩⟩
  · rintro _ ⟨h2, gs2, tk2, o2, vs2, x1, x2, p, op, new, rfl, hg2, S2, I2, hl2, f6, fk, hp, hsys, kf, DF, ff⟩
    have big : 188 < s.heap.objs.size := X.big
    have f1 : vs2[1]? = some (.ref la) := by rw [fk 1 (by decide)]; exact e1
    have f2 : vs2[2]? = some (.ref lb) := by rw [fk 2 (by decide)]; exact e2
    have hpk : Kn (hideAll s.heap [d]) new p op := hp.elim (fun e => .inl (old _ _ e)) .inr
    refine wpAny_execs_cons (asgN (at1 (ld_ S2 v_quick_self rfl ?_)))
    refine getV (Dg.k.keeps S2.F.keep) (pl _) (at_fb _).at (S2.old (old _ _ hm)) (S2.get (j := 0) rfl) I2 f6 rfl fun t3 => ?_
    refine st_ S2 v_quick_fullbcount (Nat.le_of_ble_eq_true rfl) fun h3 t3 S3 => ?_
    refine wpAny_execs_cons (asgN (newD S3 fun h4 o4 D4 S4 => st_ S4 v_quick_avail (Nat.le_of_ble_eq_true rfl) fun h5 t5 S5 => ?_))
    have hsa : (h3.objs.size == sysModules) = false := notSys (Nat.lt_of_lt_of_le big (Nat.le_trans hL (Nat.le_of_lt S3.F.ns.lt)))
    refine wpAny_execs_cons (Assign_Tuple_swapped (names := [Str.ofString "availhas", Str.ofString "matches"]) (Tuple_ (arg_ (at1 (ld_ S5 v_quick_avail rfl (contB S5 (D4.of (S5.get (j := 0) rfl)) fun h6 t6 S6 => ?_))))) (hw := by kernel_rfl))
    refine arg_ (cInt fun k7 t7 => arg0 (tup2 S6 (by exact hA) v_quick_availhas v_quick_matches (Nat.le_of_ble_eq_true rfl) (Nat.le_of_ble_eq_true rfl) fun h8 t8 S8 => ?_))
    refine wpAny_execs_cons (wpAny_For (at1 (ld_ S8 v_quick_self rfl ?_)))
    refine getV (Dg.k.keeps S8.F.keep) (pl _) (at_a _).at (S8.old (old _ _ hm)) (S8.get (j := 2) rfl) I2 f1 rfl fun t9 => ?_
    refine forL (items := ia) (NJ3 w m d xs ys o2 p new h3 h5)
      v_quick_elt S8 hA hg2 (lob_list (S8.old (old _ _ hao))) (.inl ⟨_, old _ _ hao⟩) ?_ ?_ ?_ ?_
    · rintro i _ _ ⟨o, y2, y6, F, c, t, rfl, rfl, _⟩
      exact Nat.le_of_ble_eq_true rfl
    · rintro i v _ _ own h9 gs9 tk9 hv ⟨o, y2, y6, F, c, t, rfl, rfl, ⟨kvs, D, hkl, f⟩, hq⟩ hg9 S9 T hT
      obtain ⟨x, u, rfl, hx⟩ := IntsAre.get hai hv
      have hxi := lt_of_get hx
      refine join (NJ4 s m d L o2 p new h3 h5 own gs9 o F c t x u) ?_ ?_
      · intro I' hI
        refine wpAny_If (isTrue_plain (Call_ (ld_ S9 v_quick_availhas rfl (cBd (arg_ (ld_ S9 v_quick_elt rfl (arg0 ⟨S9.get (j := 0) rfl, ?_⟩)))))))
        refine callDCont (S9.get (j := 0) rfl) hsa (D.of (S9.get (j := 1) rfl)) fun t10 => wpAny_truthy_bool ?_
        have fx := f x
        cases hc : valueAt kvs x with
        | some v =>
          rw [hc] at fx
          obtain ⟨t', rfl⟩ := fx
          rw [if_pos (by rfl)]
          refine wpAny_execs_cons (asgN (Subscript_ (ld_ S9 v_quick_avail rfl (ld_ S9 v_quick_elt rfl (itemD (D.of (S9.get (j := 1) rfl)) hc fun t11 => ?_)))))
          exact st_ S9 v_quick_numb (Nat.le_of_ble_eq_true rfl) fun h12 t12 S12 => wpAny_execs_nil ⟨rfl, hI _ ⟨h12, t12, t', rfl, S12⟩⟩
        | none =>
          rw [hc] at fx
          replace fx : F x = cnt x ys := fx
          rw [if_neg (by decide)]
          have hpD : h9.DictOf (intKind prog w) p kf := DF.of (S9.kn (hpk.mono fun q hq => List.mem_append_left _ (.tail _ (.tail _ (.tail _ hq)))))
          refine wpAny_execs_cons (asgN (MethodCall_ (ld_ S9 v_quick_fullbcount rfl (mD PySem.F.slot_dict_get PySem.F.type_dict_get hpD (callWith_method1 (arg_ (ld_ S9 v_quick_elt rfl (arg_ (cInt fun k11 t11 => arg0 ?_)))))))))
          refine dGet hpD hsys fun t12 => ?_
          obtain ⟨t', e⟩ := DG.get (prog := prog) (w := w) (f := fun _ => 0) ff x k11
          rw [e]
          rw [← fx]
          exact st_ S9 v_quick_numb (Nat.le_of_ble_eq_true rfl) fun h12 t12 S12 => wpAny_execs_nil ⟨rfl, hI _ ⟨h12, t12, t', rfl, S12⟩⟩
      · rintro _ ⟨h10, t10, t', rfl, S10⟩
        refine wpAny_execs_cons (wpAny_Assign_Subscript (wpAny_BinOp (ld_ S10 v_quick_numb rfl (cInt fun k11 t11 => sub_ fun k12 t12 => ld_ S10 v_quick_avail rfl (ld_ S10 v_quick_elt rfl ?_)))))
        refine setI (j := 1) S10 rfl D (by (clear hv hx hq hsa f2 f1 big hsys f6 hl2 hyl e2 e1 hlen hL hdep hA hd hz; omega)) fun h11 t11 o11 D11 S11 => ?_
        have D12 : DG prog w o11 (i + 1) (fun k => if k = x then F x - 1 else F k) (fun k => cnt k ys) := ⟨_, D11, Nat.le_trans stored_len (by (clear hxi hv hx hq hsa f2 f1 big hsys f6 hl2 hyl e2 hxl e1 hlen hL hdep hA hd hz; omega)), fun k => DG.put f x (F x - 1) k12 k⟩
        rw [cntI hx] at hq
        simp only [qm] at hq
        refine wpAny_execs_cons (wpAny_If (wpAny_isTrue_Compare1 (ld_ S11 v_quick_numb rfl (cInt fun k13 t13 => P.gt_int (wpAny_truthy_bool ?_)))))
        by_cases hpos : F x > 0
        · rw [if_pos (by simpa using hpos)]
          refine wpAny_execs_cons (asgN (wpAny_BinOp (ld_ S11 v_quick_matches rfl (cInt fun k14 t14 => add_ fun k15 t15 => ?_))))
          refine st_ S11 v_quick_matches (Nat.le_of_ble_eq_true rfl) fun h16 t16 S16 => wpAny_execs_nil (wpAny_execs_nil ?_)
          refine TN hT (mu := (h5.objs.size, bmObj "dict.__contains__" h3.objs.size) :: (h3.objs.size, o11) :: (d, o2) :: new) S16 hg9 ⟨o11, _, _, _, c + 1, k15, rfl, rfl, D12, ?_⟩
          rw [if_pos hpos] at hq
          (clear hpos hxi hv hx hkl hsa f2 f1 big hsys f6 hl2 hyl e2 hxl e1 hlen hL hdep hA hd hz; omega)
        · rw [if_neg (by simpa using hpos)]
          refine wpAny_execs_nil (wpAny_execs_nil ?_)
          refine TN hT (mu := (h5.objs.size, bmObj "dict.__contains__" h3.objs.size) :: (h3.objs.size, o11) :: (d, o2) :: new) S11 hg9 ⟨o11, _, _, _, c, t, rfl, rfl, D12, ?_⟩
          rw [if_neg hpos] at hq
          (clear hpos hxi hv hx hkl hsa f2 f1 big hsys f6 hl2 hyl e2 hxl e1 hlen hL hdep hA hd hz; omega)
    · rintro _ _ h9 gs9 tk9 ⟨o, y2, y6, F, c, t, rfl, rfl, _, hq⟩ hg9 S9
      rw [hai.length, List.drop_length] at hq
      have hc : c = qm xs fun k => cnt k ys := by simpa [qm] using hq
      subst hc
      refine wpAny_execs_cons (wpAny_Return_some (Call_ (lg_ S9 Dg g_quick__calculate_ratio (gn_calc _) (cFn (fn_calc w.params) (arg_ (ld_ S9 v_quick_matches rfl (arg_ (wpAny_BinOp (Call_ (lb_ S9 Dg g_quick_len (bn_len _) (cB (arg_ (at1 (ld_ S9 v_quick_self rfl ?_))))))))))))))
      refine getV (Dg.k.keeps S9.F.keep) (pl _) (at_a _).at (S9.old (old _ _ hm)) (S9.get (j := 2) rfl) I2 f1 rfl fun t10 => ?_
      refine arg0 (len_ (lob_list (S9.old (old _ _ hao))) (by rw [hai.length]; (clear hq hsa f2 f1 big hsys f6 hl2 hyl e2 e1 hlen hL hdep hA hd hz; omega)) fun k11 t11 => ?_)
      refine Call_ (lb_ S9 Dg g_quick_len (bn_len _) (cB (arg_ (at1 (ld_ S9 v_quick_self rfl ?_)))))
      refine getV (Dg.k.keeps S9.F.keep) (pl _) (at_b _).at (S9.old (old _ _ hm)) (S9.get (j := 2) rfl) I2 f2 rfl fun t12 => ?_
      refine arg0 (len_ (lob_list (S9.old (old _ _ hbo))) (by rw [hbi.length]; (clear hq hsa f2 f1 big hsys f6 hl2 e2 hxl e1 hlen hL hdep hA hd hz; omega)) fun k13 t13 => add_ fun k14 t14 => arg0 ⟨Dg.k.keeps S9.F.keep, ?_⟩)
      rw [hai.length, hbi.length]
      have := qm_le xs fun k => cnt k ys
      refine callS (calc_spec (Dg.keeps S9.F.keep) (by show A.depth + 1 < _; omega) (by (clear hq hsa f2 f1 big hsys f6 hl2 hyl e2 hxl e1 hlen hL hdep hA hd; omega)) (by (clear hq hsa f2 f1 big hsys f6 hl2 hyl e2 e1 hlen hL hdep hA hd hz; omega)) (by (clear hq hsa f2 f1 big hsys f6 hl2 e2 e1 hlen hL hdep hA hd hz; omega))) fun v h15 gs15 t15 M15 hv => ?_
      obtain ⟨k16, rfl⟩ := hv
      have S15 := (S9.call0 (s := ⟨h9, gs9, s.drawn, t14, s.os⟩) (s' := ⟨h15, gs15, s.drawn, t15, s.os⟩) M15).drop (mu' := (d, o2) :: new) ((List.sublist_cons_self _ _).trans (List.sublist_cons_self _ _))
      refine hPo _ _ (S15.mod (t := 0) hL (fun _ => M15.gens hg9) rfl rfl rfl) ⟨⟨_, rfl⟩, vs2, o2, new, S15.get (j := 0) rfl, I2, St.fresh (s' := ⟨h15, gs15, s.drawn, t15, s.os⟩) (mu := [(d, o2)]) S15 rfl rfl, ?_⟩
      have H' : MS prog w (R.and new) vs (some (la, xs)) (some (lb, ys)) := H.mono fun b o e => .inl e
      refine ⟨by rw [fk 0 (by decide)]; exact H'.isj, ⟨f1, H'.a.2⟩, ⟨f2, H'.b.2.1, hyl, ?_, .inr ⟨p, op, f6, hp, hsys, kf, DF, ff⟩⟩, by rw [fk 3 (by decide)]; exact H'.aj, by rw [fk 4 (by decide)]; exact H'.mb, by rw [fk 8 (by decide)]; exact H'.bj, hl2⟩
      rw [fk 7 (by decide)]; exact H'.b.2.2.2.1
    · refine ⟨o4, _, _, (fun k => cnt k ys), 0, k7, rfl, rfl, ⟨[], D4, Nat.le_refl _, fun k => by simp [valueAt]⟩, by simp⟩
end
end Mine
end
section
set_option Elab.async false
set_option maxRecDepth 100000
set_option linter.unusedVariables false
set_option maxHeartbeats 4000000
namespace Mine
open PySem PySem.W PySem.Calls PyProof.Rows PySem.Builtin
noncomputable section
theorem mk_makes (P : Params) : makesIn (K P) CM = true := by kernel_rfl
theorem mk_init (P : Params) : findIn (K P) (.ref CM) (Str.ofString "__init__") = some (some (.ref 160)) := by kernel_rfl
theorem mk_fn (P : Params) : typeIn (K P) (.ref 160) = some (.type "function") := by kernel_rfl
theorem kp_CM (P : Params) : keepIn (K P) (.ref CM) = true := by kernel_rfl
end
section
variable {w : World} {A : Around} {E : Value → Shared → Prop} {s s' : Shared} {mg mb : Str → Option Value} {g h : Heap} {gs : Array GenState} {dr : Drawn} {tk : Nat} {os : OsState} {L a : Addr} {nm : List Str} {ls : List (Option Value)} {mu : List (Addr × Obj)}
/-- a new matcher -/
theorem mkMatcher {va vb : Value} {aj : Bool} {rest : List Value} {oa ob : Option (Addr × List Int)} {Q : Value → Shared → Prop} (S : St g L h nm ls mu) (D : Gd (K w.params) mg mb g) (hA : A.handled = none) (hdep : A.depth + 10 < recursionLimit) (hgs : AllBare gs)
    {R : Rel} (hRk : ∀ b o, R b o → Kn g mu b o) (ha : AV R va oa) (hb : AV R vb ob) (hbind : ∀ (s : Shared) (x : Addr), (K w.params).In s.heap → BindsTo s (fdOf (o160 w.params)) ⟨.ref x :: rest, []⟩ (ps_init.zip [.ref x, .none, va, vb, .bool aj]))
    (k : ∀ h' gs' tk' x dx vs o new, AllBare gs' → St g L h' nm ls ((dx, o) :: (x, inst CM dx) :: (new ++ mu)) → IV w.params an vs o → MS prog w (R.and ((x, inst CM dx) :: new)) vs oa ob → Q (.ref x) ⟨h', gs', dr, tk', os⟩) :
    wpAny (model prog w) A (call (.ref CM) rest) Q E ⟨h, gs, dr, tk, os⟩ := by
  refine wpAny_call (make_K (s := ⟨h, gs, dr, tk, os⟩) S.F S.N (D.k.keeps S.F.keep) (mk_makes _) (mk_init _) (mk_fn _) fun x dx h' F' N' hlt hdx => ?_)
  have hne : x ≠ dx := Ne.symm (Nat.ne_of_lt hdx)
  have hmu : ∀ p ∈ mu, p.1 ≠ dx := fun p hp => Nat.ne_of_lt (hlt p hp)
  have hmux : ∀ p ∈ mu, p.1 ≠ x := fun p hp => Nat.ne_of_lt (Nat.lt_trans (hlt p hp) hdx)
  have S1 : St g L h' nm ls ((dx, emptyDict) :: (x, inst CM dx) :: mu) := ⟨F', fun p hp => N' p (by
    rcases List.mem_cons.mp hp with rfl | hp
    · exact .tail _ (.head _)
    · rcases List.mem_cons.mp hp with rfl | hp
      · exact .head _
      · exact .tail _ (.tail _ hp)), List.nodup_cons.mpr ⟨fun hm => by
        rcases List.mem_cons.mp hm with e | hm
        · exact hne e.symm
        · obtain ⟨p, hp, e⟩ := List.mem_map.mp hm
          exact hmu p hp e, List.nodup_cons.mpr ⟨fun hm => by
        obtain ⟨p, hp, e⟩ := List.mem_map.mp hm
        exact hmux p hp e, S.nd⟩⟩⟩
  have hgd : g.get? dx = none := (S1.N _ (.head _)).2.2
  have I0 : IV w.params an [] emptyDict := ⟨⟨[], 0, rfl, rfl⟩, Nat.zero_le _⟩
  refine codeAny_mono (init_spec (w := w) (A := A.under (.builtin "type.__call__" ⟨.ref CM :: rest, []⟩)) (mg := mg) (mb := mb) (G := g) (R := R.and [(x, inst CM dx)]) (m := x) (d := dx) (va := va) (vb := vb) (aj := aj) (oa := oa) (ob := ob) (s := ⟨h', gs, dr, tk, os⟩) ⟨D, fun b o e => S1.F.keep b o e, hgd, hA, by show A.depth + 1 + 8 < _; omega⟩ hgs (.inr (.head _)) (S1.get (j := 0) rfl) I0 (fun b o hk0 => ?_) ?_ ?_ _ (hbind _ x (D.k.keeps S1.F.keep))) fun r s' hr => ?_
  · have hk : Kn g ((x, inst CM dx) :: mu) b o := hk0.elim (fun k => (hRk b o k).elim .inl fun m => .inr (.tail _ m)) fun m => .inr (by rw [List.mem_singleton.mp m]; exact .head _)
    rcases hk with e | hm
    · exact ⟨S1.F.keep b o e, fun z => by rw [z, hgd] at e; cases e⟩
    · refine ⟨(S1.N (b, o) (.tail _ hm)).1, ?_⟩
      rcases List.mem_cons.mp hm with e | hm
      · cases e; exact hne
      · exact hmu _ hm
  · rcases ha with ⟨l, xs, e1, e2, hl, hn⟩ | h
    · exact .inl ⟨l, xs, e1, e2, hl.mono fun b o hk => .inl hk, hn⟩
    · exact .inr h
  · rcases hb with ⟨l, xs, e1, e2, hl, hn⟩ | h
    · exact .inl ⟨l, xs, e1, e2, hl.mono fun b o hk => .inl hk, hn⟩
    · exact .inr h
  · match r, hr with
    | .ok (.ret v), ⟨Mo, hv, vs', o', new, ho', I', Fn, hS⟩ =>
      subst hv
      obtain ⟨h2, gs2, dr2, tk2, os2⟩ := s'
      obtain rfl : os2 = os := Mo.os
      obtain rfl : dr2 = dr := Mo.dr
      have S2 := S1.callN (s := ⟨h', gs, dr2, tk, os2⟩) (s' := ⟨h2, gs2, dr2, tk2, os2⟩) (j := 0) Mo rfl ho' Fn
      have S3 : St g L h2 nm ls ((dx, o') :: (x, inst CM dx) :: (new ++ mu)) := S2.perm ((List.perm_append_comm.cons _).cons _)
      refine ⟨rfl, k h2 gs2 tk2 x dx vs' o' new (Mo.gens hgs) S3 I' (hS.mono fun b o hk => ?_)⟩
      rcases hk with (hk | hm) | hm
      · exact .inl hk
      · exact .inr (by rw [List.mem_singleton.mp hm]; exact .head _)
      · exact .inr (.tail _ hm)
end
end Mine
end
section
set_option Elab.async false
set_option maxRecDepth 100000
set_option linter.unusedVariables false
namespace Mine
open PySem PySem.W PySem.Calls PyProof.Rows PySem.Builtin
noncomputable section
theorem o_match (P : Params) : (K P).lookup 135 = some (o135 P) := by kernel_rfl
theorem cls_match (P : Params) : clsIn (K P) 135 = some { name := Str.ofString "Match", bases := [Value.type "tuple"], mro := [Value.ref 135, Value.type "tuple", Value.type "object"], ns := 134, qualname := Str.ofString "Match", hasDict := false } := by kernel_rfl
theorem sub_mt (P : Params) : subIn (K P) (.ref 135) (.type "tuple") = some true := by kernel_rfl
theorem sub_mm (P : Params) : subIn (K P) (.ref 135) (.ref 135) = some true := by kernel_rfl
theorem sub_mo (P : Params) : subIn (K P) (.ref 135) (.type "object") = some true := by kernel_rfl
theorem fi_init (P : Params) : findIn (K P) (.ref 135) (Str.ofString "__init__") = some (some (.builtin "object.__init__")) := by kernel_rfl
theorem fi_new (P : Params) : findCls (K P) (.ref 135) (.type "type") (Str.ofString "__new__") = some (.get (.builtin "staticmethod.__get__") (.ref 136) .none (.ref 135)) := by kernel_rfl
theorem fi_make (P : Params) : findCls (K P) (.ref 135) (.type "type") (Str.ofString "_make") = some (.get (.builtin "classmethod.__get__") (.ref 91) .none (.ref 135)) := by kernel_rfl
theorem re_new (P : Params) : ((recIn (K P) 136 "staticmethod").bind (·.head?)) = some (.ref 82) := by kernel_rfl
theorem re_make (P : Params) : ((recIn (K P) 91 "classmethod").bind (·.head?)) = some (.ref 89) := by kernel_rfl
theorem re_ex {x : Option (List Value)} {v : Value} (h : (x.bind (·.head?)) = some v) : ∃ r, x = some (v :: r) := by
  cases x with
  | none => cases h
  | some l => cases l with
    | nil => cases h
    | cons a r => cases h; exact ⟨r, rfl⟩
theorem rd_match (P : Params) : readsIn (K P) 135 (.type "type") = true := by kernel_rfl
theorem ca_match (P : Params) : specialIn (K P) (.ref 135) (Str.ofString "__call__") = some (some (.builtin "type.__call__")) := by kernel_rfl
theorem in_match (P : Params) : instIn (K P) (.ref 135) (.type "type") = some true := by kernel_rfl
theorem tn_tuple (P : Params) : findCls (K P) (.type "tuple") (.type "type") (Str.ofString "__new__") = some (.val (.builtin "tuple.__new__")) := by kernel_rfl
end
section
variable {w : World} {A : Around} {E : Value → Shared → Prop} {h : Heap} {M : Model} {P : Params}
theorem lk_mro (X : (K P).In h) : Looks M h (mroOf (.ref 135)) [Value.ref 135, Value.type "tuple", Value.type "object"] := (looks_clsIn X (cls_match P)).andThen .now
theorem lk_made (X : (K P).In h) : Looks M h (Bind.madeBy (.ref 135)) none := by
  intro A Q E s k q
  unfold Bind.madeBy
  refine wpAny_bind (lk_mro X A _ E s k ?_)
  rw [List.forIn_cons]
  refine wpAny_bind (wpAny_bind (wpAny_bind (wpAny_bind (wpAny_loadPart (k _ _ (X _ _ (o_match P))) (wpAny_pure ?_)))))
  exact wpAny_pure (wpAny_pure (wpAny_pure q))
theorem best_tuple : Builtin.Slots.bestBase [.type "tuple"] = pure (.type "tuple") := by kernel_rfl
theorem made_tuple : Bind.madeBy (.type "tuple") = pure (some "tuple.__new__") := F.called_tuple.made
theorem lk_static (X : (K P).In h) : Looks M h (Bind.staticBase (.ref 135)) (.type "tuple") := by
  intro A Q E s k q
  unfold Bind.staticBase
  refine wpAny_bind (lk_mro X A _ E s k ?_)
  rw [List.forIn_cons]
  refine wpAny_bind (wpAny_bind (wpAny_bind (lk_made X A _ E s k ?_)))
  rw [if_neg (by decide)]
  refine wpAny_bind (looks_clsIn X (cls_match P) A _ E s k ?_)
  refine wpAny_bind (wpAny_of_eq best_tuple (wpAny_pure ?_))
  dsimp only
  rw [List.forIn_cons]
  refine wpAny_bind (wpAny_bind (wpAny_of_eq made_tuple ?_))
  rw [if_pos (by decide)]
  exact wpAny_pure (wpAny_pure (wpAny_pure q))
theorem lk_here (X : (K P).In h) : Looks M h (Bind.madeHere "tuple.__new__" (.ref 135)) () := by
  unfold Bind.madeHere
  refine (lk_static X).andThen ?_
  refine Looks.andThen (Looks.of_pure made_tuple) ?_
  exact Looks.of_pure (by kernel_rfl)
theorem tnew {prog : Program} {gs : Array GenState} {dr : Drawn} {tk : Nat} {os : OsState} {T : Addr} {items : List Value} {Q : Fin → Shared → Prop} (X : (K P).In h) (ht : h.get? T = some ⟨.type "tuple", none, .seq items.toArray 0, #[]⟩) (hl : items.length ≤ 1000)
    (q : ∀ h', Sub h h' → Q (.done (.ret (.ref (h'.objs.size + 1)))) ⟨(h'.push emptyDict).push (mob h'.objs.size items), gs, dr, tk, os⟩) :
    wpAny (model prog w) A (Builtin.«tuple.__new__» ⟨[.ref 135, .ref T], []⟩) Q E ⟨h, gs, dr, tk, os⟩ := by
  unfold Builtin.«tuple.__new__»
  have hm := o_match P
  have l0 : Looks (model prog w) h (isType (.ref 135)) true := (Looks.ld (part := some .none) (X _ _ hm)).andThen .now
  have l1 : Looks (model prog w) h (isSubtype (.ref 135) (.type "tuple")) true := looks_subIn X (sub_mt P)
  have l2 : Looks (model prog w) h (Bind.madeHere "tuple.__new__" (.ref 135)) () := lk_here X
  have l3 : Looks (model prog w) h (typeLookup (.ref 135) (Str.ofString "__init__")) (some (.builtin "object.__init__")) := looks_findIn X (fi_init P)
  have fin : wpAny (model prog w) A (collect (.ref T) >>= fun l => pure l.toArray >>= fun xs => alloc { cls := .type "dict", data := .dict #[] } >>= fun d => newObj (.ref 135) (.seq xs) (some d) >>= fun r => ret r) Q E ⟨h, gs, dr, tk, os⟩ := by
    refine wpAny_bind (wpAny_collect_seq (s := ⟨h, gs, dr, tk, os⟩) T (.inr rfl) ht rfl rfl (fun h' hk => ?_) (by rw [List.size_toArray]; exact Nat.le_trans hl (by decide)))
    refine wpAny_bind (wpAny_pure (wpAny_bind (wpAny_alloc (wpAny_bind ?_))))
    show wpAny _ _ (newObj (.ref 135) (.seq items.toArray) _) _ _ _
    unfold newObj
    dsimp only
    rw [if_neg (by rw [List.size_toArray]; exact Nat.not_lt.mpr (Nat.le_trans hl (by decide)))]
    show wpAny _ _ (newObjAsIs _ _ _) _ _ _
    unfold newObjAsIs classHasDel
    refine wpAny_bind (wpAny_alloc (wpAny_bind (wpAny_bind (wpAny_load (Heap.get?_push_of_some _ (Heap.get?_push_of_some _ (hk _ _ (X _ _ hm)))) (wpAny_pure ?_)))))
    refine wpAny_pure (wpAny_pure ?_)
    have := q h' hk
    rw [show (h'.push emptyDict).objs.size = h'.objs.size + 1 from Heap.size_push ..]
    exact this
  repeat (first | exact fin | simp only [Bool.not_true, Bool.false_eq_true, if_false] | lk)
variable {prog : Program} {gs : Array GenState} {dr : Drawn} {tk : Nat} {os : OsState}
theorem getmT {pl : Sem Bool} {Q : Value × List Value → Shared → Prop} (X : (K P).In h) (q : ∀ tk, Q (.builtin "tuple.__new__", []) ⟨h, gs, dr, tk, os⟩) :
    wpAny (model prog w) A (getMethod (.type "tuple") (Str.ofString "__new__") pl) Q E ⟨h, gs, dr, tk, os⟩ := by
  have hstub : opaqueClassAbove (.type "tuple") = pure none := by unfold opaqueClassAbove; dsimp only; rw [show Manifest.isStub "tuple" = false by decide +kernel]; rfl
  have ht : typeOf (.type "tuple") = pure (.type "type") := by first | rfl | kernel_rfl
  have L0 : Looks (model prog w) h (typeOf (.type "tuple")) (.type "type") := Looks.of_pure ht
  have hg : findIn (K P) (.type "type") "__getattribute__" = some (some (.builtin "type.__getattribute__")) := type_tga
  unfold getMethod specialOf
  refine wpAny_bind (wpAny_bind (L0.at ((looks_findIn X hg).at ?_)))
  dsimp only
  rw [if_pos canon_tga]
  refine wpAny_bind (wpAny_mono (Q := fun v => Q (v, [])) (E := E) ?_ (fun _ _ z => wpAny_pure z) fun _ _ z => z)
  have LO : Looks (model prog w) h (opaqueClassAbove (.type "tuple")) none := Looks.of_pure hstub
  refine cls_open (s := ⟨h, gs, dr, tk, os⟩) X LO L0 hg (looks_hook X (r := none) (by rfl)) (by show subIn (K P) _ _ = _; rfl) (tn_tuple P) ?_
  show wpAny _ _ (ret (.builtin "tuple.__new__")) _ _ _
  refine wpAny_pure ?_
  show wpAny _ _ (handedOut (.builtin "tuple.__new__")) _ _ _
  rw [handedOut_of (by decide +kernel)]
  exact wpAny_pure (q _)
theorem tn_kind : builtinKind "tuple.__new__" = some .builtinFn := by decide +kernel
theorem tn_split : splitId "tuple.__new__" = some ("tuple", "__new__") := by decide +kernel
theorem tn_sig : Manifest.signature? "tuple.__new__" = none ∨ ∃ sig, Manifest.signature? "tuple.__new__" = some sig ∧ ∀ x, Bind.checkArgs "tuple.__new__" sig ⟨[.ref 135, x], []⟩ = pure () := by
  cases h : Manifest.signature? "tuple.__new__" with
  | none => exact .inl rfl
  | some sig =>
    refine .inr ⟨sig, rfl, ?_⟩
    have hs : Manifest.signature? "tuple.__new__" = some ((Manifest.signature? "tuple.__new__").get (by kernel_rfl)) := (Option.some_get _).symm
    rw [hs] at h
    cases h
    intro x
    kernel_rfl
theorem callTn {T : Addr} {items : List Value} {Q : Value → Shared → Prop} (X : (K P).In h) (ht : h.get? T = some ⟨.type "tuple", none, .seq items.toArray 0, #[]⟩) (hl : items.length ≤ 1000)
    (q : ∀ h', Sub h h' → Q (.ref (h'.objs.size + 1)) ⟨(h'.push emptyDict).push (mob h'.objs.size items), gs, dr, tk, os⟩) :
    wpAny (model prog w) A (call (.builtin "tuple.__new__") [.ref 135, .ref T]) Q E ⟨h, gs, dr, tk, os⟩ := by
  refine wpAny_call (codeAny_call_builtin_code (Code.quiet_builtin _ (by decide +kernel)) ?_)
  have l0 : Looks (model prog w) h (isType (.ref 135)) true := (Looks.ld (part := some .none) (X _ _ (o_match P))).andThen .now
  have l1 : Looks (model prog w) h (isSubtype (.ref 135) (.type "tuple")) true := looks_subIn X (sub_mt P)
  have l2 : Looks (model prog w) h (Bind.staticBase (.ref 135)) (.type "tuple") := lk_static X
  have l3 : Looks (model prog w) h (Bind.madeBy (.type "tuple")) (some "tuple.__new__") := Looks.of_pure made_tuple
  have fin : codeAny (model prog w) A (.builtin "tuple.__new__" ⟨[.ref 135, .ref T], []⟩) (fun r s' => match r with | .ok (.ret v) => Q v s' | .ok _ => False | .error e => E e s') ⟨h, gs, dr, tk, os⟩ := by
    refine codeAny_builtin F.entry_tuple_new ?_
    exact tnew X ht hl fun h' hk => q h' hk
  simp only [checkBuiltinCall, tn_kind, tn_split]
  rw [if_pos (by decide)]
  rcases tn_sig with hn | ⟨sig, hs, ha⟩
  · rw [hn]
    repeat (first | exact fin | simp only [Bool.not_true, Bool.false_eq_true, if_false, bne_self_eq_false] | lk)
  · rw [hs]
    dsimp only
    rw [ha]
    repeat (first | exact fin | simp only [Bool.not_true, Bool.false_eq_true, if_false, bne_self_eq_false] | lk)
end
section
variable {w : World} {A : Around} {E : Value → Shared → Prop} {s s' : Shared} {mg mb : Str → Option Value} {G h g : Heap} {gs : Array GenState} {dr : Drawn} {tk : Nat} {os : OsState} {L a : Addr} {nm : List Str} {ls : List (Option Value)} {mu : List (Addr × Obj)}
theorem St.sub {h' : Heap} (S : St g L h nm ls mu) (k : Sub h h') : St g L h' nm ls mu := S.re (S.F.keeps k) (S.N.grown k)
theorem mnew_spec {x y z : Value} (D : Gd (K w.params) mg mb s.heap) (hd : A.depth < recursionLimit) :
    codeAny (model prog w) A (.call (.ref 82) ⟨[.ref 135, x, y, z], []⟩) (Ret [] s fun v s' => ∃ t dd, v = .ref t ∧ Fresh s s' [(t, mob dd [x, y, z]), (dd, emptyDict)]) s := by
  refine enterP ps_mnew os_mnew [.ref 135, x, y, z] [] (fn_mnew _) D hd (b_mnew _ _ _ _ _ _) rfl p_mnew (nm := nm_mnew) rfl (fun _ h => nomatch h) .nil ?_
  intro Po hPo L h₁ tk S hL
  refine wpAny_execs_cons (wpAny_Expr (cStr fun k1 t1 => ?_))
  refine wpAny_execs_cons (wpAny_Return_some (MethodCall_ (lb_ S D g_mnew_tuple (bn_tuple _) (getmT (D.k.keeps S.F.keep) fun t2 => callWith_method1 ?_))))
  refine arg_ (ld_ S v_mnew__cls rfl (arg_ (Tuple_ (arg_ (ld_ S v_mnew_a rfl (arg_ (ld_ S v_mnew_b rfl (arg_ (ld_ S v_mnew_size rfl (arg0 (newT S (by simp) fun h2 S2 => arg0 ?_)))))))))))
  refine callTn (D.k.keeps S2.F.keep) (S2.get (j := 0) rfl) (by simp) fun h3 hk => ?_
  have S3 := ((((S2.sub hk).push emptyDict).push (mob h3.objs.size [x, y, z])).drop (mu' := [((h3.push emptyDict).objs.size, mob h3.objs.size [x, y, z]), (h3.objs.size, emptyDict)]) (List.sublist_append_left [_, _] [_]))
  rw [show (h3.push emptyDict).objs.size = h3.objs.size + 1 from Heap.size_push ..] at S3
  exact hPo _ _ (S3.mod (t := 0) hL id rfl rfl rfl) ⟨_, _, rfl, St.fresh (mu := []) S3 rfl rfl⟩
theorem gNew {expr : Bool} {Q : Value → Shared → Prop} (X : (K w.params).In h) (q : ∀ tk, Q (.ref 82) ⟨h, gs, dr, tk, os⟩) : wpAny (model prog w) A (getAttr (.ref 135) (Str.ofString "__new__") expr) Q E ⟨h, gs, dr, tk, os⟩ := by
  obtain ⟨r, hr⟩ := re_ex (re_new w.params)
  exact cls_bind (s := ⟨h, gs, dr, tk, os⟩) X (rd_match _) (fi_new _) (wpAny_call (sm_get (s := ⟨h, gs, dr, tk + 1, os⟩) X hr (handed_on rfl (q _))))
theorem oi_args4 (a x y z : Value) : argsOk "object.__init__" ⟨[a, x, y, z], []⟩ := by unfold argsOk; kernel_rfl
theorem match_spec {x y z : Value} (D : Gd (K w.params) mg mb s.heap) (hd : A.depth + 2 < recursionLimit) :
    codeAny (model prog w) A (.call (.ref 135) ⟨[x, y, z], []⟩) (Ret [] s fun v s' => ∃ t dd, v = .ref t ∧ Fresh s s' [(t, mob dd [x, y, z]), (dd, emptyDict)]) s := by
  obtain ⟨h, gs, dr, tk, os⟩ := s
  have X : (K w.params).In h := D.k
  have hC := X _ _ (o_match w.params)
  have call := looks_specialIn (M := model prog w) X (ca_match w.params)
  have typ := looks_instIn (M := model prog w) X (in_match w.params)
  refine codeAny_of_tree ?_
  show wpAny _ _ (callAny (.ref 135) _) _ _ _
  refine nd_load hC ?_
  show wpAny _ _ (callAny.viaDunder (.ref 135) _) _ _ _
  unfold callAny.viaDunder
  refine wpAny_bind (call.at ?_)
  dsimp only
  rw [tc_bind]
  refine wpAny_bind (wpAny_pure (wpAny_bind (wpAny_pure ?_)))
  refine wpAny_pure (a := Fin.again (.call (.builtin "type.__call__") ⟨[.ref 135, x, y, z], []⟩)) (And.intro rfl ?_)
  refine codeAny_call_builtin_at (Code.quiet_builtin _ (by decide +kernel)) entry_typeCall (check_slot tc_kind tc_split typ (tc_args _ _ _) ?_)
  unfold Builtin.«type.__call__»
  have hm := lk_mro (M := model prog w) X
  have made := lk_made (M := model prog w) X
  repeat ((fail_if_success (with_reducible refine wpAny_bind (gNew X fun _ => ?_))); first | simp only [List.isEmpty_cons, Bool.false_eq_true, if_false] | lk)
  refine wpAny_bind (gNew X fun t1 => ?_)
  refine wpAny_bind (wpAny_holding (callS (mnew_spec (x := x) (y := y) (z := z) D (by show A.depth + 1 < _; omega)) fun v h2 gs2 t2 M hv => ?_))
  obtain ⟨t, dd, rfl, F⟩ := hv
  have ht : h2.get? t = some (mob dd [x, y, z]) := F.here _ (.head _)
  have X2 : (K w.params).In h2 := X.keeps fun b o e => M.keep b o e (fun m => nomatch m)
  have u1 : Looks (model prog w) h2 (typeOf (.ref t)) (.ref 135) := (Looks.ld ht).andThen .now
  have u2 := looks_subIn (M := model prog w) X2 (sub_mm w.params)
  have u3 := looks_findIn (M := model prog w) X2 (fi_init w.params)
  have u4 : Looks (model prog w) h2 (bindSpecial (.builtin "object.__init__") (.ref t)) (.builtin "object.__init__", [.ref t]) := Looks.of_pure (oi_bind _)
  have u5 : Looks (model prog w) h2 (isInstance (.ref t) (.type "object")) true := u1.andThen (looks_subIn X2 (sub_mo w.params))
  have u6 := lk_made (M := model prog w) X2
  have fin : Ret [] ⟨h, gs, dr, tk, os⟩ (fun v s' => ∃ t dd, v = .ref t ∧ Fresh ⟨h, gs, dr, tk, os⟩ s' [(t, mob dd [x, y, z]), (dd, emptyDict)]) (.ok (.ret (.ref t))) ⟨h2, gs2, dr, t2, os⟩ :=
    ⟨⟨M.keep, M.size, M.os, M.gens, M.dr⟩, t, dd, rfl, F.here, F.not, F.nd⟩
  have ini : codeAny (model prog w) (A.under (Code.builtin "type.__call__" { pos := [Value.ref 135, x, y, z] })) (.call (.builtin "object.__init__") ⟨[.ref t, x, y, z], []⟩) (fun r s' => r = .ok (.ret .none) ∧ s' = ⟨h2, gs2, dr, t2, os⟩) ⟨h2, gs2, dr, t2, os⟩ := by
    refine codeAny_call_builtin oi_plain entry_oi (@check_slot (model prog w) _ _ _ "object.__init__" "object" "__init__" (.ref t) [x, y, z] [] _ oi_kind oi_split u5 (oi_args4 _ _ _ _) ?_)
    unfold Builtin.«object.__init__»
    repeat (first | exact ⟨rfl, rfl⟩ | lk)
  unfold isInstance callSpecial? specialOf
  repeat (first | simp only [Bool.not_true, Bool.false_eq_true, if_false] | with_reducible refine wpAny_call ?_ | lk)
  refine codeAny_mono ini fun r s' hr => ?_
  obtain ⟨rfl, rfl⟩ := hr
  exact wpAny_pure (wpAny_pure fin)
end
end Mine
end
section
set_option Elab.async false
set_option maxRecDepth 100000
set_option linter.unusedVariables false
set_option maxHeartbeats 4000000
namespace Mine
open PySem PySem.W PySem.Calls PyProof.Rows
section
variable {w : World} {A : Around} {E : Value → Shared → Prop} {s s' : Shared} {mg mb : Str → Option Value} {G h g : Heap} {gs : Array GenState} {dr : Drawn} {tk : Nat} {os : OsState} {L a : Addr} {nm : List Str} {ls : List (Option Value)} {mu : List (Addr × Obj)}
theorem kp_match (P : Params) : keepIn (K P) (.ref 135) = true := by kernel_rfl
/-- four names -/
theorem tup4 {prog : Program} {q : Str} {sc : Scope} {cd : Value} {x1 x2 x3 x4 : Str} {i1 i2 i3 i4 : Nat} {p1 p2 p3 p4 tp : Pos} {kk : Nat} {v1 v2 v3 v4 : Value} {Q : Unit → Shared → Prop} (S : St g L h nm ls mu) (hh : A.handled = none) (V1 : Var sc nm x1 i1) (V2 : Var sc nm x2 i2) (V3 : Var sc nm x3 i3) (V4 : Var sc nm x4 i4)
    (h1 : i1 < ls.length) (h2 : i2 < ls.length) (h3 : i3 < ls.length) (h4 : i4 < ls.length)
    (k : ∀ h' tk, St g L h' nm ((((ls.set i1 (some v1)).set i2 (some v2)).set i3 (some v3)).set i4 (some v4)) mu → Q () ⟨h', gs, dr, tk, os⟩) :
    wpAny (model prog w) A (newTuple [v1, v2, v3, v4]) (fun v s₁ => wpAny (model prog w) A (assign (.Tuple [.Name x1 p1, .Name x2 p2, .Name x3 p3, .Name x4 p4] kk tp) (envOf q sc L a cd) v) Q E s₁) E ⟨h, gs, dr, tk, os⟩ := by
  refine newT S (by simp) fun h1 S1 => ?_
  refine assign_Tuple_tuple (s := ⟨h1, gs, dr, tk, os⟩) (items := #[v1, v2, v3, v4]) hh ⟨_, S1.get (j := 0) rfl, rfl, 0, rfl⟩ rfl rfl fun h2 hx => ?_
  have S2 := S1.re (S1.F.extBut hx (Nat.le_refl _)) (S1.N.extBut hx (Nat.le_refl _))
  refine ord_cons (assign_Name (st_ S2 V1 (by assumption) fun h3 t3 S3 => ?_))
  refine ord_cons (assign_Name (st_ S3 V2 (by simp only [List.length_set]; assumption) fun h4 t4 S4 => ?_))
  refine ord_cons (assign_Name (st_ S4 V3 (by simp only [List.length_set]; assumption) fun h5 t5 S5 => ?_))
  refine ord_cons (assign_Name (st_ S5 V4 (by simp only [List.length_set]; assumption) fun h6 t6 S6 => ?_))
  exact ord_nil (k _ _ (S6.drop (List.sublist_cons_self _ _)))
inductive FJ1 (s : Shared) (m : Addr) (la : Addr) (lb : Addr) (xs : List Int) (ys : List Int) (alo : Nat) (ahi : Nat) (blo : Nat) (bhi : Nat) (t1 : Tok) (t2 : Tok) (t3 : Tok) (t4 : Tok) (p2 : Addr) (pj : Addr) (L : Addr) (h₁ : Heap) (h6 : Heap) (s' : Shared) : Prop
  | mk (h' gs' tk' p o) (bi bj bk : Nat) (ti tj tk x14 x15 x16 x17 x18) (q0 : s' = ⟨h', gs', s.drawn, tk', s.os⟩) (q1 : AllBare gs') (q2 : St s.heap L h' nm_flm [some (.ref m), some (.int alo t1), some (.int ahi t2), some (.int blo t3), some (.int bhi t4), some (.ref la), some (.ref lb), some (.ref p2), some (.ref h₁.objs.size), some (.int bi ti), some (.int bj tj), some (.int bk tk), some (.ref p), some (.ref h6.objs.size), x14, x15, x16, x17, x18] ((p, o) :: (h6.objs.size, lob [] 0) :: (h₁.objs.size, bmObj "set.__contains__" pj) :: [])) (q3 : Best xs ys alo ahi blo bhi bi bj bk) : FJ1 s m la lb xs ys alo ahi blo bhi t1 t2 t3 t4 p2 pj L h₁ h6 s'
inductive FJ2 (w : World) (m : Addr) (la : Addr) (lb : Addr) (xs : List Int) (ys : List Int) (alo : Nat) (ahi : Nat) (blo : Nat) (bhi : Nat) (t1 : Tok) (t2 : Tok) (t3 : Tok) (t4 : Tok) (p2 : Addr) (pj : Addr) (h₁ : Heap) (h6 : Heap) (i : Nat) (ls : List (Option Value)) (mu : List (Addr × Obj)) : Prop
  | mk (p o) (bi bj bk : Nat) (ti tj tk x14 x15 x16 x17 x18) (q0 : ls = [some (.ref m), some (.int alo t1), some (.int ahi t2), some (.int blo t3), some (.int bhi t4), some (.ref la), some (.ref lb), some (.ref p2), some (.ref h₁.objs.size), some (.int bi ti), some (.int bj tj), some (.int bk tk), some (.ref p), some (.ref h6.objs.size), x14, x15, x16, x17, x18]) (q1 : mu = ((p, o) :: (h6.objs.size, lob [] 0) :: (h₁.objs.size, bmObj "set.__contains__" pj) :: [])) (q2 : (p == sysModules) = false) (q3 : DG prog w o 199 (Fi xs ys alo blo bhi (alo + i)) (fun _ => 0)) (q4 : Best xs ys alo (alo + i) blo bhi bi bj bk) : FJ2 w m la lb xs ys alo ahi blo bhi t1 t2 t3 t4 p2 pj h₁ h6 i ls mu
inductive FJ3 (w : World) (s : Shared) (m : Addr) (la : Addr) (lb : Addr) (xs : List Int) (ys : List Int) (alo : Nat) (ahi : Nat) (blo : Nat) (bhi : Nat) (t1 : Tok) (t2 : Tok) (t3 : Tok) (t4 : Tok) (p2 : Addr) (pj : Addr) (L : Addr) (h₁ : Heap) (h6 : Heap) (i : Nat) (ki : Tok) (own : List (Addr × Obj)) (h10 : Heap) (p : Addr) (o : Obj) (h12 : Heap) (s' : Shared) : Prop
  | mk (h' gs' tk' o') (bi bj bk : Nat) (ti tj tk x17 x18) (q0 : s' = ⟨h', gs', s.drawn, tk', s.os⟩) (q1 : AllBare gs') (q2 : St s.heap L h' nm_flm [some (.ref m), some (.int alo t1), some (.int ahi t2), some (.int blo t3), some (.int bhi t4), some (.ref la), some (.ref lb), some (.ref p2), some (.ref h₁.objs.size), some (.int bi ti), some (.int bj tj), some (.int bk tk), some (.ref p), some (.ref h6.objs.size), some (.int (alo + i) ki), some (.ref h10.objs.size), some (.ref h12.objs.size), x17, x18]
          (((h12.objs.size, o') :: (h10.objs.size, bmObj "dict.get" p) :: (p, o) :: (h6.objs.size, lob [] 0) :: (h₁.objs.size, bmObj "set.__contains__" pj) :: []) ++ own)) (q3 : DG prog w o' 199 (Fi xs ys alo blo bhi (alo + i + 1)) (fun _ => 0)) (q4 : Best xs ys alo (alo + i + 1) blo bhi bi bj bk) : FJ3 w s m la lb xs ys alo ahi blo bhi t1 t2 t3 t4 p2 pj L h₁ h6 i ki own h10 p o h12 s'
inductive FJ4 (w : World) (m : Addr) (la : Addr) (lb : Addr) (xs : List Int) (ys : List Int) (alo : Nat) (ahi : Nat) (blo : Nat) (bhi : Nat) (t1 : Tok) (t2 : Tok) (t3 : Tok) (t4 : Tok) (p2 : Addr) (pj : Addr) (h₁ : Heap) (h6 : Heap) (i : Nat) (ki : Tok) (own : List (Addr × Obj)) (h10 : Heap) (p : Addr) (o : Obj) (v' : Int) (h12 : Heap) (c : Nat) (ls : List (Option Value)) (mu : List (Addr × Obj)) : Prop
  | mk (o') (bi bj bk : Nat) (ti tj tk x17 x18) (q0 : ls = [some (.ref m), some (.int alo t1), some (.int ahi t2), some (.int blo t3), some (.int bhi t4), some (.ref la), some (.ref lb), some (.ref p2), some (.ref h₁.objs.size), some (.int bi ti), some (.int bj tj), some (.int bk tk), some (.ref p), some (.ref h6.objs.size), some (.int (alo + i) ki), some (.ref h10.objs.size), some (.ref h12.objs.size), x17, x18]) (q1 : mu = (((h12.objs.size, o') :: (h10.objs.size, bmObj "dict.get" p) :: (p, o) :: (h6.objs.size, lob [] 0) :: (h₁.objs.size, bmObj "set.__contains__" pj) :: []) ++ own)) (q2 : DG prog w o' c (Fj xs ys alo blo bhi (alo + i) ((idxs v' ys 0).take c)) (fun _ => 0)) (q3 : BC xs ys alo blo bhi (alo + i) ((idxs v' ys 0).take c) bi bj bk) : FJ4 w m la lb xs ys alo ahi blo bhi t1 t2 t3 t4 p2 pj h₁ h6 i ki own h10 p o v' h12 c ls mu
inductive FJ5 (s : Shared) (h10 : Heap) (gs10 : Array GenState) (s' : Shared) : Prop
  | mk (tk') (q0 : s' = ⟨h10, gs10, s.drawn, tk', s.os⟩) : FJ5 s h10 gs10 s'
inductive FJ6 (s : Shared) (h10 : Heap) (gs10 : Array GenState) (s' : Shared) : Prop
  | mk (tk') (q0 : s' = ⟨h10, gs10, s.drawn, tk', s.os⟩) : FJ6 s h10 gs10 s'
inductive FJ7 (s : Shared) (h10 : Heap) (gs10 : Array GenState) (s' : Shared) : Prop
  | mk (tk') (q0 : s' = ⟨h10, gs10, s.drawn, tk', s.os⟩) : FJ7 s h10 gs10 s'
inductive FJ8 (s : Shared) (h10 : Heap) (gs10 : Array GenState) (s' : Shared) : Prop
  | mk (tk') (q0 : s' = ⟨h10, gs10, s.drawn, tk', s.os⟩) : FJ8 s h10 gs10 s'
theorem flm_spec {m d la lb : Addr} {vs : List Value} {xs ys : List Int} {R : Rel} {alo ahi blo bhi : Nat} {t1 t2 t3 t4 : Tok} (D : Gd (K w.params) mg mb s.heap) (hA : A.handled = none) (hdep : A.depth + 4 < recursionLimit) (hbig : 188 < s.heap.objs.size) (hgs : AllBare s.gens)
    (M : MA w R m d vs (some (la, xs)) (some (lb, ys)) s) (c1 : alo ≤ ahi) (c2 : ahi ≤ xs.length) (c3 : blo ≤ bhi) (c4 : bhi ≤ ys.length) :
    codeAny (model prog w) A (.call (.ref 196) ⟨[.ref m, .int alo t1, .int ahi t2, .int blo t3, .int bhi t4], []⟩) (Ret [] s fun v s' => ∃ t dd, ∃ i j k : Nat, ∃ ti tj tk, v = .ref t ∧ Fresh s s' [(t, mob dd [.int i ti, .int j tj, .int k tk]), (dd, emptyDict)] ∧ Best xs ys alo ahi blo bhi i j k) s := by
  obtain ⟨od, hd, I⟩ := M.hd
  have H := M.hS
  have hm := (M.hR _ _ M.hm).1
  have hR := fun b o e => (M.hR b o e).1
  obtain ⟨e1, ⟨ia, na, hao, hai⟩, hxl⟩ := H.a
  obtain ⟨e2, ⟨ib, nb, hbo, hbi⟩, hyl, ⟨p2, e7, o2, kv2, hp2, D2, hs2, f2⟩, h6⟩ := H.b
  obtain ⟨pj, led, e8, hpj⟩ := H.bj
  replace hao := hR _ _ hao
  replace hbo := hR _ _ hbo
  replace hp2 := hR _ _ hp2
  replace hpj := hR _ _ hpj
  refine enterP ps_flm os_flm [.ref m, .int alo t1, .int ahi t2, .int blo t3, .int bhi t4] [] (fn_flm _) D (by lia) (b_flm _ _ D.k _ _ _ _ _) rfl p_flm (nm := nm_flm) rfl (fun _ h => nomatch h) .nil ?_
  intro Po hPo L h₁ tk S hL
  replace S : St s.heap L h₁ nm_flm _ [] := S
  refine wpAny_execs_cons (wpAny_Expr (cStr fun k1 t1' => ?_))
  refine wpAny_execs_cons (Assign_Tuple (Tuple_ (arg_ (at1 (ld_ S v_flm_self rfl ?_)))) (hw := by kernel_rfl))
  refine getV (D.k.keeps S.F.keep) (pl _) (at_a _).at (S.old hm) (S.old hd) I e1 rfl fun t2' => ?_
  refine arg_ (at1 (ld_ S v_flm_self rfl ?_))
  refine getV (D.k.keeps S.F.keep) (pl _) (at_b _).at (S.old hm) (S.old hd) I e2 rfl fun t3' => ?_
  refine arg_ (at1 (ld_ S v_flm_self rfl ?_))
  refine getV (D.k.keeps S.F.keep) (pl _) (at_b2j _).at (S.old hm) (S.old hd) I e7 rfl fun t4' => ?_
  refine arg_ (Attribute_any_ (at1 (ld_ S v_flm_self rfl ?_)))
  refine getV (D.k.keeps S.F.keep) (pl _) (at_bjunk _).at (S.old hm) (S.old hd) I e8 rfl fun t5' => ?_
  refine scontB S (S.old hpj) fun h2 t6 S2 => arg0 ?_
  refine tup4 S2 (by exact hA) v_flm_a v_flm_b v_flm_b2j v_flm_isbjunk (Nat.le_of_ble_eq_true rfl) (Nat.le_of_ble_eq_true rfl) (Nat.le_of_ble_eq_true rfl) (Nat.le_of_ble_eq_true rfl) fun h3 t7 S3 => ?_
  refine wpAny_execs_cons (wpAny_If (wpAny_isTrue_Compare1 (ld_ S3 v_flm_ahi rfl (Constant_none (wpAny_is_other rfl (by intro z; cases z) (wpAny_truthy_bool ?_))))))
  rw [if_neg (by decide)]
  refine wpAny_execs_nil ?_
  refine wpAny_execs_cons (wpAny_If (wpAny_isTrue_Compare1 (ld_ S3 v_flm_bhi rfl (Constant_none (wpAny_is_other rfl (by intro z; cases z) (wpAny_truthy_bool ?_))))))
  rw [if_neg (by decide)]
  refine wpAny_execs_nil ?_
  refine wpAny_execs_cons (Assign_Tuple_swapped (names := [Str.ofString "besti", Str.ofString "bestj", Str.ofString "bestsize"]) (Tuple_ (arg_ (ld_ S3 v_flm_alo rfl (arg_ (ld_ S3 v_flm_blo rfl (arg_ (cInt fun k8 t8 => arg0 ?_))))))) (hw := by kernel_rfl))
  refine tup3 S3 (by exact hA) v_flm_besti v_flm_bestj v_flm_bestsize (Nat.le_of_ble_eq_true rfl) (Nat.le_of_ble_eq_true rfl) (Nat.le_of_ble_eq_true rfl) fun h4 t9 S4 => ?_
  refine wpAny_execs_cons (asgN (newD S4 fun h5 o5 D5 S5 => st_ S5 v_flm_j2len (Nat.le_of_ble_eq_true rfl) fun h6 t10 S6 => ?_))
  refine wpAny_execs_cons (asgN (List_ (arg0 (newL S6 (by simp) fun h7 S7 => st_ S7 v_flm_nothing (Nat.le_of_ble_eq_true rfl) fun h8 t11 S8 => ?_))))
  have hsz : ∀ {h : Heap} {ls : List (Option Value)} {mu : List (Addr × Obj)}, St s.heap L h nm_flm ls mu → (h.objs.size == sysModules) = false := fun S => notSys (Nat.lt_of_lt_of_le hbig (Nat.le_trans hL (Nat.le_of_lt S.F.ns.lt)))
  replace S8 : St s.heap L h8 nm_flm [some (.ref m), some (.int alo t1), some (.int ahi t2), some (.int blo t3), some (.int bhi t4), some (.ref la), some (.ref lb), some (.ref p2), some (.ref h₁.objs.size), some (.int alo t1), some (.int blo t3), some (.int 0 k8), some (.ref h4.objs.size), some (.ref h6.objs.size), none, none, none, none, none] _ := S8
  have S9 := S8.perm (List.Perm.swap _ _ _)
  refine join (FJ1 s m la lb xs ys alo ahi blo bhi t1 t2 t3 t4 p2 pj L h₁ h6) ?_ ?_
  · intro I' hI
    refine wpAny_For (Call_ (lb_ S9 D g_flm_range (bn_range _) (cT1 (arg_ (ld_ S9 v_flm_alo rfl (arg_ (ld_ S9 v_flm_ahi rfl (arg0 ?_))))))))
    refine forR2 (n := ahi - alo) (FJ2 w m la lb xs ys alo ahi blo bhi t1 t2 t3 t4 p2 pj h₁ h6) v_flm_i S9 hA hgs (by split <;> lia) (by (clear hL hpj hp2 hbo hao e8 hs2 e7 hyl e2 e1 hm hd c4 c3 hbig hdep hA; lia)) (by (clear hL hpj hp2 hbo hao e8 hs2 e7 hyl e2 e1 hm hd c4 c3 c1 hbig hdep hA; lia)) ?_ ?_ ?_ ?_
    · rintro i _ _ ⟨p, o, bi, bj, bk, ti, tj, tk, x14, x15, x16, x17, x18, rfl, rfl, _⟩
      exact Nat.le_of_ble_eq_true rfl
    · rintro i ki _ _ own h10 gs10 tk10 hi ⟨p, o, bi, bj, bk, ti, tj, tk, x14, x15, x16, x17, x18, rfl, rfl, hps, ⟨kvs, Dp, hkl, f⟩, B⟩ hg10 S10 T hT
      obtain ⟨v, hv⟩ : ∃ v, xs[alo + i]? = some v := ⟨xs[alo + i]'(by (clear hkl hps hL hpj hp2 hbo hao e8 hs2 e7 hyl e2 hxl e1 hm hd c4 c3 hbig hdep hA; lia)), List.getElem?_eq_getElem (by (clear hkl hps hL hpj hp2 hbo hao e8 hs2 e7 hyl e2 hxl e1 hm hd c4 c3 hbig hdep hA; lia))⟩
      obtain ⟨vv, hvv⟩ : ∃ vv, ia[alo + i]? = some vv := ⟨ia[alo + i]'(by rw [hai.length]; (clear hv hkl hps hL hpj hp2 hbo hao e8 hs2 e7 hyl e2 hxl e1 hm hd c4 c3 hbig hdep hA; lia)), List.getElem?_eq_getElem (by rw [hai.length]; (clear hv hkl hps hL hpj hp2 hbo hao e8 hs2 e7 hyl e2 hxl e1 hm hd c4 c3 hbig hdep hA; lia))⟩
      obtain ⟨v', u, rfl, hv'⟩ := IntsAre.get hai hvv
      obtain rfl : v' = v := by rw [hv] at hv'; exact (Option.some.inj hv').symm
      refine wpAny_execs_cons (asgN (at1 (ld_ S10 v_flm_j2len rfl (getBd S10 (Dp.of (S10.get (j := 0) rfl)) fun h11 t11 S11 => st_ S11 v_flm_j2lenget (Nat.le_of_ble_eq_true rfl) fun h12 t12 S12 => ?_))))
      refine wpAny_execs_cons (asgN (newD S12 fun h13 o13 D13 S13 => st_ S13 v_flm_newj2len (Nat.le_of_ble_eq_true rfl) fun h14 t14 S14 => ?_))
      refine join (FJ3 w s m la lb xs ys alo ahi blo bhi t1 t2 t3 t4 p2 pj L h₁ h6 i ki own h10 p o h12) ?_ ?_
      · intro I' hI
        refine wpAny_For (MethodCall_ (ld_ S14 v_flm_b2j rfl (mD PySem.F.slot_dict_get PySem.F.type_dict_get (D2.of (S14.old hp2)) (callWith_method1 (arg_ (Subscript_ (ld_ S14 v_flm_a rfl (ld_ S14 v_flm_i rfl (itemL (lob_list (S14.old hao)) (by (clear hv hvv hv' hkl hps hi hL hpj hp2 hbo hao e8 hs2 e7 hyl e2 hxl e1 hm hd c4 c3 c2 c1 hbig hdep hA; lia)) (by (clear hv hvv hv' hkl hps hL hpj hp2 hbo hao e8 hs2 e7 hyl e2 e1 hm hd c4 c3 hbig hdep hA; lia)) (v := .int v' u) ?_ (arg_ (ld_ S14 v_flm_nothing rfl (arg0 ?_)))))))))))) 
        · rw [show ((alo : Int) + (i : Int)).toNat = alo + i by (clear hv hvv hv' hkl hps hi hL hpj hp2 hbo hao e8 hs2 e7 hyl e2 hxl e1 hm hd c4 c3 c2 c1 hbig hdep hA; lia)]; exact hvv
        refine dGet (D2.of (S14.old hp2)) hs2 fun t15 => ?_
        obtain ⟨l, il, nl, el, hlo, hli, hlb⟩ : ∃ l il nl, (valueAt kv2 v').getD (.ref h6.objs.size) = .ref l ∧ h14.get? l = some (lob il nl) ∧ IntsAre il (idxs v' ys 0) ∧ ((∃ o, s.heap.get? l = some o) ∨ (l = h6.objs.size)) := by
          have := f2 v'
          cases hc : valueAt kv2 v' with
          | some uu =>
            rw [hc] at this
            obtain ⟨l, rfl, il, nl, ho, hi⟩ := this
            exact ⟨l, il, nl, rfl, S14.old (hR _ _ ho), hi, .inl ⟨_, hR _ _ ho⟩⟩
          | none =>
            rw [hc] at this
            replace this : idxs v' ys 0 = [] := this
            exact ⟨h6.objs.size, [], 0, rfl, S14.get (j := 3) rfl, by rw [this]; exact .nil, .inr rfl⟩
        rw [el]
        have hjs := idxs_sorted v' ys 0
        have hjl := idxs_len v' ys 0
        refine forL (items := il) (FJ4 w m la lb xs ys alo ahi blo bhi t1 t2 t3 t4 p2 pj h₁ h6 i ki own h10 p o v' h12) v_flm_j S14 hA hg10 (lob_list hlo) ?_ ?_ ?_ ?_ ?_
        · rcases hlb with ho | rfl
          · exact .inl ho
          · refine .inr ⟨lob [] 0, ?_⟩
            rintro c _ _ ⟨o', bi, bj, bk, ti, tj, tk, x17, x18, rfl, rfl, _⟩
            exact .tail _ (.tail _ (.tail _ (.head _)))
        · rintro c _ _ ⟨o', bi, bj, bk, ti, tj, tk, x17, x18, rfl, rfl, _⟩
          exact Nat.le_of_ble_eq_true rfl
        · rintro c jv _ _ own2 h15 gs15 tk15 hjv ⟨o', bi, bj, bk, ti, tj, tk, x17, x18, rfl, rfl, ⟨kv', D', hkl', f'⟩, BCc⟩ hg15 S15 T hT
          obtain ⟨j, tj', rfl, hj⟩ := IntsAre.get hli hjv
          obtain ⟨t, rfl, hyt⟩ := mem_idxs.mp (List.mem_of_getElem? hj)
          rw [Int.zero_add] at hj S15
          have htl := lt_of_get hyt
          have hcl : c < ys.length := by have := lt_of_get hj; (clear htl hjv hj hyt hkl' hlb hlo el hv hvv hv' hkl hps hi hL hpj hp2 hbo hao e8 hs2 e7 hyl e2 hxl e1 hm hd c4 c3 c2 c1 hbig hdep hA; lia)
          have htk := take_succ_of hj
          refine wpAny_execs_cons (wpAny_If (wpAny_isTrue_Compare1 (ld_ S15 v_flm_j rfl (ld_ S15 v_flm_blo rfl (PySem.P.lt_int (wpAny_truthy_bool ?_))))))
          by_cases hlt : t < blo
          · rw [if_pos (by simpa using hlt)]
            refine wpAny_execs_cons (wpAny_Continue ?_)
            refine TC hT (mu := (((h12.objs.size, o') :: (h10.objs.size, bmObj "dict.get" p) :: (p, o) :: (h6.objs.size, lob [] 0) :: (h₁.objs.size, bmObj "set.__contains__" pj) :: []) ++ own)) S15 hg15 ⟨o', bi, bj, bk, ti, tj, tk, _, _, rfl, rfl, ⟨kv', D', by (clear hlt htk hcl htl hjv hj hyt hjl hlb hlo el hv hvv hv' hkl hps hi hL hpj hp2 hbo hao e8 hs2 e7 hyl e2 hxl e1 hm hd c4 c3 c2 c1 hbig hdep hA; lia), ?_⟩, ?_⟩
            · rw [htk, Fj_skip hlt]; exact f'
            · rw [htk]; exact BCc.skip hlt
          rw [if_neg (by simpa using hlt)]
          refine wpAny_execs_nil ?_
          refine wpAny_execs_cons (wpAny_If (wpAny_isTrue_Compare1 (ld_ S15 v_flm_j rfl (ld_ S15 v_flm_bhi rfl (PySem.P.ge_int (wpAny_truthy_bool ?_))))))
          by_cases hge : bhi ≤ t
          · rw [if_pos (by simpa using hge)]
            refine wpAny_execs_cons (wpAny_Break ?_)
            have hall : ∀ t' : Nat, t' < bhi → ys[t']? = xs[alo + i]? → (t' : Int) ∈ (idxs v' ys 0).take c := fun t' ht' e => notake hjs hj (mem_idxs.mpr ⟨t', by (clear e ht' hge hlt htk hcl htl hjv hj hyt hkl' hjl hlb hlo el hv hvv hv' hkl hps hi hL hpj hp2 hbo hao e8 hs2 e7 hyl e2 hxl e1 hm hd c4 c3 c2 c1 hbig hdep hA; lia), by rw [e, hv]⟩) (by (clear e hlt htk hcl htl hjv hj hyt hkl' hjl hlb hlo el hv hvv hv' hkl hps hi hL hpj hp2 hbo hao e8 hs2 e7 hyl e2 hxl e1 hm hd c4 c3 c2 c1 hbig hdep hA; lia))
            rw [Fj_end hall] at f'
            exact TB hT ⟨rfl, hI _ ⟨h15, gs15, _, o', bi, bj, bk, ti, tj, tk, _, _, rfl, hg15, S15.drop (List.sublist_append_left _ _), ⟨kv', D', by (clear hge hlt htk htl hjv hj hyt hjl hlb hlo el hv hvv hv' hkl hps hi hL hpj hp2 hbo hao e8 hs2 e7 e2 hxl e1 hm hd c4 c3 c2 c1 hbig hdep hA; lia), f'⟩, BCc.end hall⟩⟩
          rw [if_neg (by simpa using hge)]
          refine wpAny_execs_nil ?_
          refine wpAny_execs_cons (wpAny_Assign_two (wpAny_BinOp (Call_ (ld_ S15 v_flm_j2lenget rfl (cBd (arg_ (wpAny_BinOp (ld_ S15 v_flm_j rfl (cInt fun k16 t16 => sub_ fun k17 t17 => arg_ (cInt fun k18 t18 => arg0 ⟨S15.get (j := 1) rfl, ?_⟩))))))))))
          refine callGet (S15.get (j := 1) rfl) hps (Dp.of (S15.get (j := 2) rfl)) fun t19 => ?_
          obtain ⟨t', e⟩ := DG.get (prog := prog) (w := w) f ((t : Int) - 1) k18
          rw [e, Fi_prev (by (clear e hlt htk hcl htl hjv hj hyt hkl' hjl hlb hlo el hv hvv hv' hkl hps hi hL hpj hp2 hbo hao e8 hs2 e7 hyl e2 hxl e1 hm hd c4 c3 c2 c1 hbig hdep hA; lia))]
          refine cInt fun k20 t20 => add_ fun k21 t21 => ?_
          have hsn := suf_next (a := xs) (b := ys) (alo := alo) (blo := blo) (i := alo + i) (j := t) (by (clear e hge hlt htk hcl htl hjv hj hyt hkl' hjl hlb hlo el hv hvv hv' hkl hps hi hL hpj hp2 hbo hao e8 hs2 e7 hyl e2 hxl e1 hm hd c4 c3 c2 c1 hbig hdep hA; lia)) (by (clear e hge htk hcl htl hjv hj hyt hkl' hjl hlb hlo el hv hvv hv' hkl hps hi hL hpj hp2 hbo hao e8 hs2 e7 hyl e2 hxl e1 hm hd c4 c3 c2 c1 hbig hdep hA; lia)) (by rw [hyt, hv]) (by rw [hv]; rfl)
          have hsi : ((suf xs ys alo blo (alo + i) t : Nat) : Int) + 1 = (suf xs ys alo blo (alo + i + 1) (t + 1) : Nat) := by rw [hsn]; (clear hsn e hge hlt htk hcl htl hjv hj hyt hkl' hjl hlb hlo el hv hvv hv' hkl hps hi hL hpj hp2 hbo hao e8 hs2 e7 hyl e2 hxl e1 hm hd c4 c3 c2 c1 hbig hdep hA; lia)
          rw [hsi]
          have hsl := suf_le (a := xs) (b := ys) (alo := alo) (blo := blo) (alo + i + 1) (t + 1)
          refine asN (st_ S15 v_flm_k (Nat.le_of_ble_eq_true rfl) fun h22 t22 S22 => ?_)
          refine asS (ld_ S22 v_flm_newj2len rfl (ld_ S22 v_flm_j rfl ?_))
          refine setI (j := 0) S22 rfl D' (by (clear hsl hsi hsn e hge hlt htk htl hjv hj hyt hjl hlb hlo el hv hvv hv' hkl hps hi hL hpj hp2 hbo hao e8 hs2 e7 e2 hxl e1 hm hd c4 c3 c2 c1 hbig hdep hA; lia)) fun h23 t23 o23 D23 S23 => ?_
          have D24 : DG prog w o23 (c + 1) (Fj xs ys alo blo bhi (alo + i) ((idxs v' ys 0).take (c + 1))) (fun _ => 0) := by
            rw [htk, Fj_put (by (clear hsl hsi hsn e hlt htk hcl htl hjv hj hyt hkl' hjl hlb hlo el hv hvv hv' hkl hps hi hL hpj hp2 hbo hao e8 hs2 e7 hyl e2 hxl e1 hm hd c4 c3 c2 c1 hbig hdep hA; lia))]
            exact ⟨_, D23, Nat.le_trans stored_len (by (clear hsl hsi hsn e hge hlt htk hcl htl hjv hj hyt hjl hlb hlo el hv hvv hv' hkl hps hi hL hpj hp2 hbo hao e8 hs2 e7 hyl e2 hxl e1 hm hd c4 c3 c2 c1 hbig hdep hA; lia)), fun k => DG.put f' t _ k21 k⟩
          refine wpAny_execs_cons (wpAny_If (wpAny_isTrue_Compare1 (ld_ S23 v_flm_k rfl (ld_ S23 v_flm_bestsize rfl (PySem.P.gt_int (wpAny_truthy_bool ?_))))))
          by_cases hgt : bk < suf xs ys alo blo (alo + i + 1) (t + 1)
          · rw [if_pos (by simpa using hgt)]
            refine wpAny_execs_cons (Assign_Tuple_swapped (names := [Str.ofString "besti", Str.ofString "bestj", Str.ofString "bestsize"]) (Tuple_ (arg_ (wpAny_BinOp (wpAny_BinOp (ld_ S23 v_flm_i rfl (ld_ S23 v_flm_k rfl (sub_ fun k24 t24 => cInt fun k25 t25 => add_ fun k26 t26 => ?_))))))) (hw := by kernel_rfl))
            refine arg_ (wpAny_BinOp (wpAny_BinOp (ld_ S23 v_flm_j rfl (ld_ S23 v_flm_k rfl (sub_ fun k27 t27 => cInt fun k28 t28 => add_ fun k29 t29 => ?_)))))
            refine arg_ (ld_ S23 v_flm_k rfl (arg0 ?_))
            rw [show (alo : Int) + (i : Int) - ((suf xs ys alo blo (alo + i + 1) (t + 1) : Nat) : Int) + 1 = ((alo + i + 1 - suf xs ys alo blo (alo + i + 1) (t + 1) : Nat) : Int) by (clear hgt hsi e hge hlt htk hcl htl hjv hj hyt hkl' hjl hlb hlo el hv hvv hv' hkl hps hi hL hpj hp2 hbo hao e8 hs2 e7 hyl e2 hxl e1 hm hd c4 c3 c2 c1 hbig hdep hA; lia), show (t : Int) - ((suf xs ys alo blo (alo + i + 1) (t + 1) : Nat) : Int) + 1 = ((t + 1 - suf xs ys alo blo (alo + i + 1) (t + 1) : Nat) : Int) by (clear hgt hsi e hge htk hcl htl hjv hj hyt hkl' hjl hlb hlo el hv hvv hv' hkl hps hi hL hpj hp2 hbo hao e8 hs2 e7 hyl e2 hxl e1 hm hd c4 c3 c2 c1 hbig hdep hA; lia)]
            refine tup3 S23 (by exact hA) v_flm_besti v_flm_bestj v_flm_bestsize (Nat.le_of_ble_eq_true rfl) (Nat.le_of_ble_eq_true rfl) (Nat.le_of_ble_eq_true rfl) fun h30 t30 S30 => wpAny_execs_nil (wpAny_execs_nil ?_)
            refine TN hT (mu := (((h12.objs.size, o23) :: (h10.objs.size, bmObj "dict.get" p) :: (p, o) :: (h6.objs.size, lob [] 0) :: (h₁.objs.size, bmObj "set.__contains__" pj) :: []) ++ own)) S30 hg15 ⟨o23, _, _, _, _, _, _, _, _, rfl, rfl, D24, ?_⟩
            rw [htk]; exact BCc.new (by (clear hgt hsl hsi hsn e hge hlt htk hcl htl hjv hj hyt hkl' hjl hlb hlo el hv hvv hv' hkl hps hi hL hpj hp2 hbo hao e8 hs2 e7 hyl e2 hxl e1 hm hd c4 c3 c2 c1 hbig hdep hA; lia)) (by (clear hgt hsl hsi hsn e hge htk hcl htl hjv hj hyt hkl' hjl hlb hlo el hv hvv hv' hkl hps hi hL hpj hp2 hbo hao e8 hs2 e7 hyl e2 hxl e1 hm hd c4 c3 c2 c1 hbig hdep hA; lia)) (by (clear hgt hsl hsi hsn e hlt htk hcl htl hjv hj hyt hkl' hjl hlb hlo el hv hvv hv' hkl hps hi hL hpj hp2 hbo hao e8 hs2 e7 hyl e2 hxl e1 hm hd c4 c3 c2 c1 hbig hdep hA; lia)) hgt
          · rw [if_neg (by simpa using hgt)]
            refine wpAny_execs_nil (wpAny_execs_nil ?_)
            refine TN hT (mu := (((h12.objs.size, o23) :: (h10.objs.size, bmObj "dict.get" p) :: (p, o) :: (h6.objs.size, lob [] 0) :: (h₁.objs.size, bmObj "set.__contains__" pj) :: []) ++ own)) S23 hg15 ⟨o23, bi, bj, bk, ti, tj, tk, _, _, rfl, rfl, D24, ?_⟩
            rw [htk]; exact BCc.same (fun x hx => take_lt hjs hj x hx) (by (clear hsl hsi e hge hlt htk hcl htl hjv hj hyt hkl' hjl hlb hlo el hv hvv hv' hkl hps hi hL hpj hp2 hbo hao e8 hs2 e7 hyl e2 hxl e1 hm hd c4 c3 c2 c1 hbig hdep hA; lia))
        · rintro _ _ h15 gs15 tk15 ⟨o', bi, bj, bk, ti, tj, tk, x17, x18, rfl, rfl, ⟨kv', D', hkl', f'⟩, BCc⟩ hg15 S15
          rw [hli.length, List.take_length] at BCc f'
          have hall : ∀ t : Nat, t < bhi → ys[t]? = xs[alo + i]? → (t : Int) ∈ idxs v' ys 0 := fun t _ e => mem_idxs.mpr ⟨t, by (clear e hkl' hjl hlb hlo el hv hvv hv' hkl hps hi hL hpj hp2 hbo hao e8 hs2 e7 hyl e2 hxl e1 hm hd c4 c3 c2 c1 hbig hdep hA; lia), by rw [e, hv]⟩
          rw [Fj_end hall] at f'
          exact ⟨rfl, hI _ ⟨h15, gs15, tk15, o', bi, bj, bk, ti, tj, tk, x17, x18, rfl, hg15, S15, ⟨kv', D', by rw [hli.length] at hkl'; (clear hlb hlo el hv hvv hv' hkl hps hi hL hpj hp2 hbo hao e8 hs2 e7 e2 hxl e1 hm hd c4 c3 c2 c1 hbig hdep hA; lia), f'⟩, BCc.end hall⟩⟩
        · refine ⟨o13, bi, bj, bk, ti, tj, tk, _, _, rfl, rfl, ⟨[], D13, Nat.zero_le _, fun k => ?_⟩, by simpa using BC.start B⟩
          rw [List.take_zero, Fj_nil]; simp [valueAt]
      · rintro _ ⟨h15, gs15, tk15, o', bi, bj, bk, ti, tj, tk, x17, x18, rfl, hg15, S15, Do, B'⟩
        refine wpAny_execs_cons (asgN (ld_ S15 v_flm_newj2len rfl (st_ S15 v_flm_j2len (Nat.le_of_ble_eq_true rfl) fun h16 t16 S16 => wpAny_execs_nil ?_)))
        have S17 := S16.drop (mu' := ((h12.objs.size, o') :: (h6.objs.size, lob [] 0) :: (h₁.objs.size, bmObj "set.__contains__" pj) :: []) ++ own) (.cons_cons _ (.cons _ (.cons _ (List.Sublist.refl _))))
        exact TN hT S17 hg15 ⟨_, o', bi, bj, bk, ti, tj, tk, _, _, _, _, _, rfl, rfl, hsz S12, Do, B'⟩
    · rintro _ _ h10 gs10 tk10 ⟨p, o, bi, bj, bk, ti, tj, tk, x14, x15, x16, x17, x18, rfl, rfl, hps, _, B⟩ hg10 S10
      exact ⟨rfl, hI _ ⟨h10, gs10, tk10, p, o, bi, bj, bk, ti, tj, tk, x14, x15, x16, x17, x18, rfl, hg10, S10, by rw [show alo + (ahi - alo) = ahi by (clear hps hL hpj hp2 hbo hao e8 hs2 e7 hyl e2 hxl e1 hm hd c4 c3 c2 hbig hdep hA; lia)] at B; exact B⟩⟩
    · refine ⟨_, o5, alo, blo, 0, _, _, _, _, _, _, _, _, rfl, rfl, hsz S4, ⟨[], D5, Nat.zero_le _, fun k => ?_⟩, Best.start c3⟩
      rw [Nat.add_zero, Fi_zero]; simp [valueAt]
  · rintro _ ⟨h10, gs10, tk10, p, o, bi, bj, bk, ti, tj, tk, x14, x15, x16, x17, x18, rfl, hg10, S10, B⟩
    have hbi1 := B.blk.i0
    have hbi2 := B.blk.i1
    have hbj1 := B.blk.j0
    have hbj2 := B.blk.j1
    have geta : ∀ n : Nat, n < xs.length → ∃ v u, ia[n]? = some (.int v u) ∧ xs[n]? = some v := fun n hn => by
      have e : ia[n]? = some (ia[n]'(by rw [hai.length]; lia)) := List.getElem?_eq_getElem (by rw [hai.length]; lia)
      obtain ⟨v, u, e1, e2⟩ := IntsAre.get hai e
      exact ⟨v, u, by rw [e, e1], e2⟩
    have getb : ∀ n : Nat, n < ys.length → ∃ v u, ib[n]? = some (.int v u) ∧ ys[n]? = some v := fun n hn => by
      have e : ib[n]? = some (ib[n]'(by rw [hbi.length]; lia)) := List.getElem?_eq_getElem (by rw [hbi.length]; lia)
      obtain ⟨v, u, e1, e2⟩ := IntsAre.get hbi e
      exact ⟨v, u, by rw [e, e1], e2⟩
    refine joinO (FJ5 s h10 gs10) (while0 (isTrue_and (wpAny_isTrue_Compare1 (ld_ S10 v_flm_besti rfl (ld_ S10 v_flm_alo rfl (PySem.P.gt_int (wpAny_truthy_bool ?_))))))) ?_
    · by_cases c5 : alo < bi
      · rw [if_pos (by simpa using c5)]
        refine isTrue_and (wpAny_isTrue_Compare1 (ld_ S10 v_flm_bestj rfl (ld_ S10 v_flm_blo rfl (PySem.P.gt_int (wpAny_truthy_bool ?_)))))
        by_cases c6 : blo < bj
        · rw [if_pos (by simpa using c6)]
          obtain ⟨va, ua, ea, ea'⟩ := geta (bi - 1) (by (clear c6 hbj2 hbj1 hbi1 hL hpj hp2 hbo hao e8 hs2 e7 hyl e2 hxl e1 hm hd c4 c3 c1 hbig hdep hA; lia))
          obtain ⟨vb, ub, eb, eb'⟩ := getb (bj - 1) (by (clear ea' ea c5 hbj1 hbi2 hbi1 hL hpj hp2 hbo hao e8 hs2 e7 hyl e2 hxl e1 hm hd c3 c2 c1 hbig hdep hA; lia))
          refine isTrue_and (isTrue_not (isTrue_plain (Call_ (ld_ S10 v_flm_isbjunk rfl (cBd (arg_ (Subscript_ (ld_ S10 v_flm_b rfl (wpAny_BinOp (ld_ S10 v_flm_bestj rfl (cInt fun k11 t11 => sub_ fun k12 t12 => itemL (v := .int vb ub) (lob_list (S10.old hbo)) (by (clear eb' eb ea' ea c5 hbj2 hbj1 hbi2 hbi1 hL hpj hp2 hbo hao e8 hs2 e7 hyl e2 hxl e1 hm hd c4 c3 c2 c1 hbig hdep hA; lia)) (by (clear eb' eb ea' ea c6 c5 hbj1 hbi2 hbi1 hL hpj hp2 hbo hao e8 hs2 e7 e2 hxl e1 hm hd c3 c2 c1 hbig hdep hA; lia)) (by rw [show ((bj : Int) - 1).toNat = bj - 1 by (clear eb' eb ea' ea c5 hbj2 hbj1 hbi2 hbi1 hL hpj hp2 hbo hao e8 hs2 e7 hyl e2 hxl e1 hm hd c4 c3 c2 c1 hbig hdep hA; lia)]; exact eb) (arg0 ⟨S10.get (j := 2) rfl, ?_⟩))))))))))))
          refine callSCont (S10.get (j := 2) rfl) (S10.old hpj) fun t13 => wpAny_truthy_bool ?_
          rw [if_pos (by decide)]
          refine isTrue_and (wpAny_isTrue_Compare1 (Subscript_ (ld_ S10 v_flm_a rfl (wpAny_BinOp (ld_ S10 v_flm_besti rfl (cInt fun k14 t14 => sub_ fun k15 t15 => itemL (v := .int va ua) (lob_list (S10.old hao)) (by (clear eb' eb ea' ea c6 hbj2 hbj1 hbi2 hbi1 hL hpj hp2 hbo hao e8 hs2 e7 hyl e2 hxl e1 hm hd c4 c3 c2 c1 hbig hdep hA; lia)) (by (clear eb' eb ea' ea c6 c5 hbj2 hbj1 hbi1 hL hpj hp2 hbo hao e8 hs2 e7 hyl e2 e1 hm hd c4 c3 c1 hbig hdep hA; lia)) (by rw [show ((bi : Int) - 1).toNat = bi - 1 by (clear eb' eb ea' ea c6 hbj2 hbj1 hbi2 hbi1 hL hpj hp2 hbo hao e8 hs2 e7 hyl e2 hxl e1 hm hd c4 c3 c2 c1 hbig hdep hA; lia)]; exact ea) ?_))))))
          refine Subscript_ (ld_ S10 v_flm_b rfl (wpAny_BinOp (ld_ S10 v_flm_bestj rfl (cInt fun k16 t16 => sub_ fun k17 t17 => itemL (v := .int vb ub) (lob_list (S10.old hbo)) (by (clear eb' eb ea' ea c5 hbj2 hbj1 hbi2 hbi1 hL hpj hp2 hbo hao e8 hs2 e7 hyl e2 hxl e1 hm hd c4 c3 c2 c1 hbig hdep hA; lia)) (by (clear eb' eb ea' ea c6 c5 hbj1 hbi2 hbi1 hL hpj hp2 hbo hao e8 hs2 e7 e2 hxl e1 hm hd c3 c2 c1 hbig hdep hA; lia)) (by rw [show ((bj : Int) - 1).toNat = bj - 1 by (clear eb' eb ea' ea c5 hbj2 hbj1 hbi2 hbi1 hL hpj hp2 hbo hao e8 hs2 e7 hyl e2 hxl e1 hm hd c4 c3 c2 c1 hbig hdep hA; lia)]; exact eb) ?_))))
          refine PySem.P.eq_int (wpAny_truthy_bool ?_)
          have hne : va ≠ vb := fun e => B.left c5 c6 ⟨by rw [ea', eb', e], by rw [ea']; rfl⟩
          rw [if_neg (by simpa using hne)]
          exact ⟨rfl, rfl, _, rfl⟩
        · rw [if_neg (by simpa using c6)]
          exact ⟨rfl, rfl, _, rfl⟩
      · rw [if_neg (by simpa using c5)]
        exact ⟨rfl, rfl, _, rfl⟩
    rintro _ ⟨tk20, rfl⟩
    refine joinO (FJ6 s h10 gs10) (while0 (isTrue_and (wpAny_isTrue_Compare1 (wpAny_BinOp (ld_ S10 v_flm_besti rfl (ld_ S10 v_flm_bestsize rfl (add_ fun k21 t21 => ld_ S10 v_flm_ahi rfl (PySem.P.lt_int (wpAny_truthy_bool ?_))))))))) ?_
    · by_cases c5 : bi + bk < ahi
      · rw [if_pos (by simp; (clear hbj2 hbj1 hbi2 hbi1 hL hpj hp2 hbo hao e8 hs2 e7 hyl e2 hxl e1 hm hd c4 c3 c2 c1 hbig hdep hA; lia))]
        refine isTrue_and (wpAny_isTrue_Compare1 (wpAny_BinOp (ld_ S10 v_flm_bestj rfl (ld_ S10 v_flm_bestsize rfl (add_ fun k22 t22 => ld_ S10 v_flm_bhi rfl (PySem.P.lt_int (wpAny_truthy_bool ?_)))))))
        by_cases c6 : bj + bk < bhi
        · rw [if_pos (by simp; (clear c5 hbj2 hbj1 hbi2 hbi1 hL hpj hp2 hbo hao e8 hs2 e7 hyl e2 hxl e1 hm hd c4 c3 c2 c1 hbig hdep hA; lia))]
          obtain ⟨va, ua, ea, ea'⟩ := geta (bi + bk) (by (clear c6 hbj2 hbj1 hbi2 hbi1 hL hpj hp2 hbo hao e8 hs2 e7 hyl e2 hxl e1 hm hd c4 c3 c1 hbig hdep hA; lia))
          obtain ⟨vb, ub, eb, eb'⟩ := getb (bj + bk) (by (clear ea' ea c5 hbj2 hbj1 hbi2 hbi1 hL hpj hp2 hbo hao e8 hs2 e7 hyl e2 hxl e1 hm hd c3 c2 c1 hbig hdep hA; lia))
          refine isTrue_and (isTrue_not (isTrue_plain (Call_ (ld_ S10 v_flm_isbjunk rfl (cBd (arg_ (Subscript_ (ld_ S10 v_flm_b rfl (wpAny_BinOp (ld_ S10 v_flm_bestj rfl (ld_ S10 v_flm_bestsize rfl (add_ fun k12 t12 => itemL (v := .int vb ub) (lob_list (S10.old hbo)) (by (clear eb' eb ea' ea c6 hbj2 hbj1 hbi2 hbi1 hL hpj hp2 hbo hao e8 hs2 e7 hyl e2 e1 hm hd c4 c3 c1 hbig hdep hA; lia)) (by (clear eb' eb ea' ea c5 hbj2 hbj1 hbi2 hbi1 hL hpj hp2 hbo hao e8 hs2 e7 e2 hxl e1 hm hd c3 c2 c1 hbig hdep hA; lia)) (by rw [show ((bj : Int) + (bk : Int)).toNat = bj + bk by (clear eb' eb ea' ea c6 hbj2 hbj1 hbi2 hbi1 hL hpj hp2 hbo hao e8 hs2 e7 hyl e2 e1 hm hd c4 c3 c1 hbig hdep hA; lia)]; exact eb) (arg0 ⟨S10.get (j := 2) rfl, ?_⟩)))))))))))))
          refine callSCont (S10.get (j := 2) rfl) (S10.old hpj) fun t13 => wpAny_truthy_bool ?_
          rw [if_pos (by decide)]
          refine isTrue_and (wpAny_isTrue_Compare1 (Subscript_ (ld_ S10 v_flm_a rfl (wpAny_BinOp (ld_ S10 v_flm_besti rfl (ld_ S10 v_flm_bestsize rfl (add_ fun k15 t15 => itemL (v := .int va ua) (lob_list (S10.old hao)) (by (clear eb' eb ea' ea c6 c5 hbj2 hbj1 hbi2 hbi1 hL hpj hp2 hbo hao e8 hs2 e7 hyl e2 hxl e1 hm hd c4 c3 c2 c1 hbig hdep hA; lia)) (by (clear eb' eb ea' ea c6 hbj2 hbj1 hbi2 hbi1 hL hpj hp2 hbo hao e8 hs2 e7 hyl e2 e1 hm hd c4 c3 c1 hbig hdep hA; lia)) (by rw [show ((bi : Int) + (bk : Int)).toNat = bi + bk by (clear eb' eb ea' ea c6 c5 hbj2 hbj1 hbi2 hbi1 hL hpj hp2 hbo hao e8 hs2 e7 hyl e2 hxl e1 hm hd c4 c3 c2 c1 hbig hdep hA; lia)]; exact ea) ?_)))))))
          refine Subscript_ (ld_ S10 v_flm_b rfl (wpAny_BinOp (ld_ S10 v_flm_bestj rfl (ld_ S10 v_flm_bestsize rfl (add_ fun k17 t17 => itemL (v := .int vb ub) (lob_list (S10.old hbo)) (by (clear eb' eb ea' ea c6 hbj2 hbj1 hbi2 hbi1 hL hpj hp2 hbo hao e8 hs2 e7 hyl e2 e1 hm hd c4 c3 c1 hbig hdep hA; lia)) (by (clear eb' eb ea' ea c5 hbj2 hbj1 hbi2 hbi1 hL hpj hp2 hbo hao e8 hs2 e7 e2 hxl e1 hm hd c3 c2 c1 hbig hdep hA; lia)) (by rw [show ((bj : Int) + (bk : Int)).toNat = bj + bk by (clear eb' eb ea' ea c6 hbj2 hbj1 hbi2 hbi1 hL hpj hp2 hbo hao e8 hs2 e7 hyl e2 e1 hm hd c4 c3 c1 hbig hdep hA; lia)]; exact eb) ?_)))))
          refine PySem.P.eq_int (wpAny_truthy_bool ?_)
          have hne : va ≠ vb := fun e => B.right c5 c6 ⟨by rw [ea', eb', e], by rw [ea']; rfl⟩
          rw [if_neg (by simpa using hne)]
          exact ⟨rfl, rfl, _, rfl⟩
        · rw [if_neg (by simp; (clear c5 hbj1 hbi2 hbi1 hL hpj hp2 hbo hao e8 hs2 e7 hyl e2 hxl e1 hm hd c4 c3 c2 c1 hbig hdep hA; lia))]
          exact ⟨rfl, rfl, _, rfl⟩
      · rw [if_neg (by simp; (clear hbj2 hbj1 hbi1 hL hpj hp2 hbo hao e8 hs2 e7 hyl e2 hxl e1 hm hd c4 c3 c2 c1 hbig hdep hA; lia))]
        exact ⟨rfl, rfl, _, rfl⟩
    rintro _ ⟨tk30, rfl⟩
    refine joinO (FJ7 s h10 gs10) (while0 (isTrue_and (wpAny_isTrue_Compare1 (ld_ S10 v_flm_besti rfl (ld_ S10 v_flm_alo rfl (PySem.P.gt_int (wpAny_truthy_bool ?_))))))) ?_
    · by_cases c5 : alo < bi
      · rw [if_pos (by simpa using c5)]
        refine isTrue_and (wpAny_isTrue_Compare1 (ld_ S10 v_flm_bestj rfl (ld_ S10 v_flm_blo rfl (PySem.P.gt_int (wpAny_truthy_bool ?_)))))
        by_cases c6 : blo < bj
        · rw [if_pos (by simpa using c6)]
          obtain ⟨vb, ub, eb, eb'⟩ := getb (bj - 1) (by (clear c5 hbj1 hbi2 hbi1 hL hpj hp2 hbo hao e8 hs2 e7 hyl e2 hxl e1 hm hd c3 c2 c1 hbig hdep hA; lia))
          refine isTrue_and (isTrue_plain (Call_ (ld_ S10 v_flm_isbjunk rfl (cBd (arg_ (Subscript_ (ld_ S10 v_flm_b rfl (wpAny_BinOp (ld_ S10 v_flm_bestj rfl (cInt fun k11 t11 => sub_ fun k12 t12 => itemL (v := .int vb ub) (lob_list (S10.old hbo)) (by (clear eb' eb c5 hbj2 hbj1 hbi2 hbi1 hL hpj hp2 hbo hao e8 hs2 e7 hyl e2 hxl e1 hm hd c4 c3 c2 c1 hbig hdep hA; lia)) (by (clear eb' eb c6 c5 hbj1 hbi2 hbi1 hL hpj hp2 hbo hao e8 hs2 e7 e2 hxl e1 hm hd c3 c2 c1 hbig hdep hA; lia)) (by rw [show ((bj : Int) - 1).toNat = bj - 1 by (clear eb' eb c5 hbj2 hbj1 hbi2 hbi1 hL hpj hp2 hbo hao e8 hs2 e7 hyl e2 hxl e1 hm hd c4 c3 c2 c1 hbig hdep hA; lia)]; exact eb) (arg0 ⟨S10.get (j := 2) rfl, ?_⟩)))))))))))
          refine callSCont (S10.get (j := 2) rfl) (S10.old hpj) fun t13 => wpAny_truthy_bool ?_
          rw [if_neg (by decide)]
          exact ⟨rfl, rfl, _, rfl⟩
        · rw [if_neg (by simpa using c6)]
          exact ⟨rfl, rfl, _, rfl⟩
      · rw [if_neg (by simpa using c5)]
        exact ⟨rfl, rfl, _, rfl⟩
    rintro _ ⟨tk40, rfl⟩
    refine joinO (FJ8 s h10 gs10) (while0 (isTrue_and (wpAny_isTrue_Compare1 (wpAny_BinOp (ld_ S10 v_flm_besti rfl (ld_ S10 v_flm_bestsize rfl (add_ fun k21 t21 => ld_ S10 v_flm_ahi rfl (PySem.P.lt_int (wpAny_truthy_bool ?_))))))))) ?_
    · by_cases c5 : bi + bk < ahi
      · rw [if_pos (by simp; (clear hbj2 hbj1 hbi2 hbi1 hL hpj hp2 hbo hao e8 hs2 e7 hyl e2 hxl e1 hm hd c4 c3 c2 c1 hbig hdep hA; lia))]
        refine isTrue_and (wpAny_isTrue_Compare1 (wpAny_BinOp (ld_ S10 v_flm_bestj rfl (ld_ S10 v_flm_bestsize rfl (add_ fun k22 t22 => ld_ S10 v_flm_bhi rfl (PySem.P.lt_int (wpAny_truthy_bool ?_)))))))
        by_cases c6 : bj + bk < bhi
        · rw [if_pos (by simp; (clear c5 hbj2 hbj1 hbi2 hbi1 hL hpj hp2 hbo hao e8 hs2 e7 hyl e2 hxl e1 hm hd c4 c3 c2 c1 hbig hdep hA; lia))]
          obtain ⟨vb, ub, eb, eb'⟩ := getb (bj + bk) (by (clear c5 hbj2 hbj1 hbi2 hbi1 hL hpj hp2 hbo hao e8 hs2 e7 hyl e2 hxl e1 hm hd c3 c2 c1 hbig hdep hA; lia))
          refine isTrue_and (isTrue_plain (Call_ (ld_ S10 v_flm_isbjunk rfl (cBd (arg_ (Subscript_ (ld_ S10 v_flm_b rfl (wpAny_BinOp (ld_ S10 v_flm_bestj rfl (ld_ S10 v_flm_bestsize rfl (add_ fun k12 t12 => itemL (v := .int vb ub) (lob_list (S10.old hbo)) (by (clear eb' eb c6 hbj2 hbj1 hbi2 hbi1 hL hpj hp2 hbo hao e8 hs2 e7 hyl e2 e1 hm hd c4 c3 c1 hbig hdep hA; lia)) (by (clear eb' eb c5 hbj2 hbj1 hbi2 hbi1 hL hpj hp2 hbo hao e8 hs2 e7 e2 hxl e1 hm hd c3 c2 c1 hbig hdep hA; lia)) (by rw [show ((bj : Int) + (bk : Int)).toNat = bj + bk by (clear eb' eb c6 hbj2 hbj1 hbi2 hbi1 hL hpj hp2 hbo hao e8 hs2 e7 hyl e2 e1 hm hd c4 c3 c1 hbig hdep hA; lia)]; exact eb) (arg0 ⟨S10.get (j := 2) rfl, ?_⟩))))))))))))
          refine callSCont (S10.get (j := 2) rfl) (S10.old hpj) fun t13 => wpAny_truthy_bool ?_
          rw [if_neg (by decide)]
          exact ⟨rfl, rfl, _, rfl⟩
        · rw [if_neg (by simp; (clear c5 hbj1 hbi2 hbi1 hL hpj hp2 hbo hao e8 hs2 e7 hyl e2 hxl e1 hm hd c4 c3 c2 c1 hbig hdep hA; lia))]
          exact ⟨rfl, rfl, _, rfl⟩
      · rw [if_neg (by simp; (clear hbj2 hbj1 hbi1 hL hpj hp2 hbo hao e8 hs2 e7 hyl e2 hxl e1 hm hd c4 c3 c2 c1 hbig hdep hA; lia))]
        exact ⟨rfl, rfl, _, rfl⟩
    rintro _ ⟨tk50, rfl⟩
    refine wpAny_execs_cons (wpAny_Return_some (Call_ (lg_ S10 D g_flm_Match (gn_Match _) (callWith_K (D.k.keeps S10.F.keep) (kp_match _) (arg_ (ld_ S10 v_flm_besti rfl (arg_ (ld_ S10 v_flm_bestj rfl (arg_ (ld_ S10 v_flm_bestsize rfl (arg0 ⟨D.k.keeps S10.F.keep, ?_⟩)))))))))))
    refine callS (match_spec (D.keeps S10.F.keep) (by show A.depth + 1 + 2 < _; (clear hbj2 hbj1 hbi2 hbi1 hL hpj hp2 hbo hao e8 hs2 e7 hyl e2 hxl e1 hm hd c4 c3 c2 c1 hbig hA; lia))) fun v h51 gs51 t51 M51 hv => ?_
    obtain ⟨t, dd, rfl, Fr⟩ := hv
    have S51 := S10.call0 (s := ⟨h10, gs10, s.drawn, tk50, s.os⟩) (s' := ⟨h51, gs51, s.drawn, t51, s.os⟩) M51
    refine hPo _ _ (St.mod (W := []) (t := 0) S51 hL (fun _ => M51.gens hg10) rfl rfl rfl) ⟨t, dd, bi, bj, bk, ti, tj, tk, rfl, ⟨Fr.here, fun q hq => ?_, Fr.nd⟩, B⟩
    cases hc : s.heap.get? q.1 with
    | none => rfl
    | some o' =>
      have := Fr.not q hq
      rw [S10.F.keep _ _ hc] at this
      cases this
end
end Mine
end
section
set_option Elab.async false
set_option maxRecDepth 100000
set_option linter.unusedVariables false
set_option maxHeartbeats 4000000
namespace Mine
open PySem PySem.W PySem.Calls PyProof.Rows PySem.Builtin
noncomputable section
theorem mf_iter (P : Params) : findIn (K P) (.ref 135) (Str.ofString "__iter__") = some (some (.builtin "tuple.__iter__")) := by kernel_rfl
theorem mf_item (P : Params) : findIn (K P) (.ref 135) (Str.ofString "__getitem__") = some (some (.builtin "tuple.__getitem__")) := by kernel_rfl
theorem mf_lt (P : Params) : findIn (K P) (.ref 135) (Str.ofString "__lt__") = some (some (.builtin "tuple.__lt__")) := by kernel_rfl
theorem mf_len (P : Params) : findIn (K P) (.ref 135) (Str.ofString "__len__") = some (some (.builtin "tuple.__len__")) := by kernel_rfl
end
section
variable {w : World} {A : Around} {E : Value → Shared → Prop} {s s' : Shared} {h : Heap} {gs : Array GenState} {dr : Drawn} {tk : Nat} {os : OsState} {t dd : Addr} {items : List Value} {P : Params}
theorem m_type {M : Model} (ht : h.get? t = some (mob dd items)) : Looks M h (typeOf (.ref t)) (.ref 135) := (Looks.ld ht).andThen .now
theorem m_inst {M : Model} (X : (K P).In h) (ht : h.get? t = some (mob dd items)) : Looks M h (isInstance (.ref t) (.type "tuple")) true := (m_type ht).andThen (looks_subIn X (sub_mt P))
theorem m_spec {M : Model} {name : Str} {v : Option Value} (X : (K P).In h) (ht : h.get? t = some (mob dd items)) (hf : findIn (K P) (.ref 135) name = some v) : Looks M h (specialOf (.ref t) name) v := (m_type ht).andThen (looks_findIn X hf)
/-- a tuple's slot called on a Match -/
theorem callM {id n : String} {B : Builtin} {args : List Value} {Q : Value → Shared → Prop} (X : (K P).In h) (ht : h.get? t = some (mob dd items)) (hk : builtinKind id = some .slot) (hs : splitId id = some ("tuple", n)) (hp : plainId id = true) (he : entryFor table id = some B) (ha : argsOk id ⟨.ref t :: args, []⟩)
    (k : wpAny (model prog w) A.in1 (B ⟨.ref t :: args, []⟩) (fun fin s' => ∃ v, fin = .done (.ret v) ∧ Q v s') E ⟨h, gs, dr, tk, os⟩) : wpAny (model prog w) A (call (.builtin id) (.ref t :: args)) Q E ⟨h, gs, dr, tk, os⟩ := by
  refine wpAny_call (codeAny_call_builtin hp he (@check_slot (model prog w) _ _ _ id "tuple" n (.ref t) args [] _ hk hs (m_inst X ht) ha ?_))
  refine wpAny_mono k (fun fin s' hf => ?_) fun _ _ x => x
  obtain ⟨v, rfl, hv⟩ := hf
  exact hv
theorem m_iter {Q : Value → Shared → Prop} (X : (K P).In h) (ht : h.get? t = some (mob dd items))
    (q : Q (.ref h.objs.size) ⟨h.push { cls := .type "tuple_iterator", data := .fields #[.ref t, .int 0 0] }, gs, dr, tk, os⟩) : wpAny (model prog w) A (pyIter (.ref t)) Q E ⟨h, gs, dr, tk, os⟩ := by
  have l1 : Looks (model prog w) h (specialOf (.ref t) (Str.ofString "__iter__")) (some (.builtin "tuple.__iter__")) := m_spec X ht (mf_iter P)
  have l2 : Looks (model prog w) h (bindSpecial (.builtin "tuple.__iter__") (.ref t)) (.builtin "tuple.__iter__", [.ref t]) := Looks.of_pure (slot_tuple_iter.bind _)
  have cal : wpAny (model prog w) A (call (.builtin "tuple.__iter__") [.ref t]) (fun v s' => v = .ref h.objs.size ∧ s' = ⟨h.push { cls := .type "tuple_iterator", data := .fields #[.ref t, .int 0 0] }, gs, dr, tk, os⟩) E ⟨h, gs, dr, tk, os⟩ := by
    refine callM (n := "__iter__") X ht (by decide +kernel) (by decide +kernel) (by decide +kernel) entry_tuple_iter (args_tuple_iter _) ?_
    show wpAny _ _ (do ret (← newFields "tuple_iterator" [.ref t, rawInt 0])) _ _ _
    exact wpAny_bind (wpAny_newObj_type (wpAny_pure ⟨_, rfl, rfl, rfl⟩))
  have l3 : Looks (model prog w) (h.push { cls := .type "tuple_iterator", data := .fields #[.ref t, .int 0 0] }) (specialOf (.ref h.objs.size) (Str.ofString "__next__")) (some (.builtin "tuple_iterator.__next__")) := by
    refine Looks.andThen (a := Value.type "tuple_iterator") ((Looks.ld (Heap.get?_push_size _ rfl)).andThen .now) (Looks.of_pure slot_tupleiter_next.lookup)
  unfold pyIter
  refine wpAny_bind (l1.at ?_)
  dsimp only
  refine wpAny_bind (wpAny_mono (Q := fun v s' => v = some (.ref h.objs.size) ∧ s' = ⟨h.push { cls := .type "tuple_iterator", data := .fields #[.ref t, .int 0 0] }, gs, dr, tk, os⟩) (E := E) ?_ (fun v s' hv => ?_) fun _ _ x => x)
  · simp only [callSpecialIfBoundUnlessNone?, bindSpecialIfBound?]
    refine wpAny_holding (wpAny_bind (wpAny_bind (l1.at ?_)))
    simp only [slot_tuple_iter.bind]
    refine wpAny_bind (wpAny_askSetting (wpAny_ite ?_))
    have fin : ∀ r : Sem Value, wpAny (model prog w) A (if (Value.builtin "tuple.__iter__" == Value.none) = true then (r >>= fun v => pure (some v)) else (call (.builtin "tuple.__iter__") [.ref t] >>= fun v => pure (some v))) (fun v s' => v = some (.ref h.objs.size) ∧ s' = ⟨h.push { cls := .type "tuple_iterator", data := .fields #[.ref t, .int 0 0] }, gs, dr, tk, os⟩) E ⟨h, gs, dr, tk, os⟩ := fun r => by
      rw [if_neg (by decide)]
      exact wpAny_bind (wpAny_mono cal (fun v s' hv => wpAny_pure ⟨by rw [hv.1], hv.2⟩) fun _ _ x => x)
    split
    · exact wpAny_bind (wpAny_pure (wpAny_pure (fin _)))
    · exact wpAny_tryCatch (wpAny_bind (wpAny_pure (wpAny_pure (fin _))))
  · obtain ⟨rfl, rfl⟩ := hv
    exact wpAny_bind (l3.at (wpAny_pure q))
theorem m_next {it : Addr} {i : Nat} {x : Value} {Q : Option Value → Shared → Prop} (hit : IsTupIter h it t i) (ht : h.get? t = some (mob dd items)) (hx : items[i]? = some x)
    (q : ∀ h', IsTupIter h' it t (i + 1) → Heap.SameBut it h h' → Q (some x) ⟨h', gs, dr, tk, os⟩) : wpAny (model prog w) A (pyNext (.ref it)) Q E ⟨h, gs, dr, tk, os⟩ := by
  obtain ⟨o, ho, hc, hd⟩ := id hit
  unfold pyNext
  refine wpAny_bind (wpAny_attempt (wpAny_callSpecial?_slot (name := Str.ofString "__next__") hit.typeIs slot_tupleiter_next (wpAny_call_entry slot_tupleiter_next hit.typeIs entry_tupleiter_next ?_ (args_tupleiter_next _))))
  show wpAny _ _ (field (.ref it) 0 >>= _) _ _ _
  refine wpAny_bind (wpAny_field ho hd (x := .ref t) rfl ?_)
  show wpAny _ _ (if (Value.ref t == Value.none) = true then _ else _) _ _ _
  rw [if_neg (show ¬ ((Value.ref t == Value.none) = true) from Bool.false_ne_true)]
  show wpAny _ _ (field (.ref it) 1 >>= _) _ _ _
  refine wpAny_bind (wpAny_field ho hd (x := .int i 0) rfl ?_)
  show wpAny _ _ (seqItems? (.ref t) >>= _) _ _ _
  refine wpAny_bind (wpAny_seqItems ht rfl ?_)
  have hx' : items.toArray[i]? = some x := by simpa using hx
  simp only [Int.toNat_natCast, hx']
  refine wpAny_bind (wpAny_setField ho hd (by simp) (wpAny_pure ⟨x, rfl, wpAny_pure (q _ ?_ (Heap.SameBut.update ..))⟩))
  exact ⟨_, Heap.get?_update_self _ ho (Obj.isFreed_of_fields (Obj.data_mapFields hd _)), (Obj.cls_mapFields ..).trans hc, by rw [Obj.data_mapFields hd]; simp [rawInt]⟩
theorem m_end {it : Addr} {i : Nat} {Q : Option Value → Shared → Prop} (hh : A.handled = none) (hit : IsTupIter h it t i) (ht : h.get? t = some (mob dd items)) (hx : items[i]? = none)
    (q : ∀ h', Heap.ExtBut it h h' → Q none ⟨h', gs, dr, tk, os⟩) : wpAny (model prog w) A (pyNext (.ref it)) Q E ⟨h, gs, dr, tk, os⟩ := by
  obtain ⟨o, ho, hc, hd⟩ := id hit
  unfold pyNext
  refine wpAny_bind (wpAny_attempt (wpAny_callSpecial?_slot (name := Str.ofString "__next__") hit.typeIs slot_tupleiter_next (wpAny_call_entry slot_tupleiter_next hit.typeIs entry_tupleiter_next ?_ (args_tupleiter_next _))))
  show wpAny _ _ (field (.ref it) 0 >>= _) _ _ _
  refine wpAny_bind (wpAny_field ho hd (x := .ref t) rfl ?_)
  show wpAny _ _ (if (Value.ref t == Value.none) = true then _ else _) _ _ _
  rw [if_neg (show ¬ ((Value.ref t == Value.none) = true) from Bool.false_ne_true)]
  show wpAny _ _ (field (.ref it) 1 >>= _) _ _ _
  refine wpAny_bind (wpAny_field ho hd (x := .int i 0) rfl ?_)
  show wpAny _ _ (seqItems? (.ref t) >>= _) _ _ _
  refine wpAny_bind (wpAny_seqItems ht rfl ?_)
  have hx' : items.toArray[i]? = none := by simpa using hx
  simp only [Int.toNat_natCast, hx']
  refine wpAny_bind (wpAny_rule (wpAny_bind (wpAny_setField ho hd (by simp) ?_)))
  show wpAny _ _ (newExc (.type "StopIteration") [] >>= _) _ _ _
  refine wpAny_bind ?_
  simp only [newExc, newTuple]
  refine wpAny_bind (wpAny_newObj_type ?_ (by size_fits))
  refine wpAny_bind (m := firstArgMember _ _) (wpAny_of_eq (a := Value.none) (by first | rfl | (simp only [firstArgMember]; rfl)) ?_)
  refine wpAny_newObj_type ?_ (by size_fits)
  simp only [raiseNew]
  refine wpAny_bind (wpAny_handled ?_)
  first | rw [show A.in1.handled = none from hh] | rw [hh]
  refine wpAny_bind (wpAny_pure (wpAny_throw ?_))
  refine wpAny_bind (wpAny_isInstance (T := "StopIteration") (b := true) ⟨_, Heap.get?_push_size _ rfl, rfl⟩ isSubtype_stop ?_)
  exact wpAny_pure (q _ (((Heap.SameBut.update ..).extBut.push _).push _))
theorem m_unpack3 {g : Heap} {L : Addr} {nm : List Str} {ls : List (Option Value)} {mu : List (Addr × Obj)} {x y z : Value} {Q : List Value → Shared → Prop} (hh : A.handled = none) (X : (K P).In h) (ht : h.get? t = some (mob dd [x, y, z])) (S : St g L h nm ls mu)
    (q : ∀ h', Sub h h' → St g L h' nm ls mu → Q [x, y, z] ⟨h', gs, dr, tk, os⟩) : wpAny (model prog w) A (unpackItems (.ref t) 3 none) Q E ⟨h, gs, dr, tk, os⟩ := by
  have hlt : t ≠ h.objs.size := Nat.ne_of_lt (Heap.lt_size ht)
  have l1 : Looks (model prog w) h (specialOf (.ref t) (Str.ofString "__iter__")) (some (.builtin "tuple.__iter__")) := m_spec X ht (mf_iter P)
  unfold unpackItems
  refine wpAny_bind ?_
  unfold notIterableAtAll
  refine wpAny_bind (l1.at ?_)
  refine wpAny_pure ?_
  simp only [Bool.false_eq_true, if_false]
  refine wpAny_bind (wpAny_holding (m_iter X ht ?_))
  have h1 := Heap.get?_push_of_some { cls := .type "tuple_iterator", data := .fields #[.ref t, .int 0 0] } ht
  refine wpAny_bind (wpAny_holding ?_)
  show wpAny _ _ (pyNext _ >>= _) _ _ _
  refine wpAny_bind (m_next (i := 0) ⟨_, Heap.get?_push_size _ rfl, rfl, rfl⟩ h1 rfl fun h2 hit2 s2 => ?_)
  have t2 : h2.get? t = some (mob dd [x, y, z]) := (s2.2 t hlt).trans h1
  refine wpAny_bind (wpAny_holding ?_)
  show wpAny _ _ (pyNext _ >>= _) _ _ _
  refine wpAny_bind (m_next hit2 t2 rfl fun h3 hit3 s3 => ?_)
  have t3 : h3.get? t = some (mob dd [x, y, z]) := (s3.2 t hlt).trans t2
  refine wpAny_bind (wpAny_holding ?_)
  show wpAny _ _ (pyNext _ >>= _) _ _ _
  refine wpAny_bind (m_next hit3 t3 rfl fun h4 hit4 s4 => ?_)
  have t4 : h4.get? t = some (mob dd [x, y, z]) := (s4.2 t hlt).trans t3
  refine wpAny_bind (wpAny_holding ?_)
  show wpAny _ _ (pure []) _ _ _
  refine wpAny_pure (wpAny_pure (wpAny_pure (wpAny_pure ?_)))
  rw [if_neg (by simp)]
  refine wpAny_bind (wpAny_holding (m_end hh hit4 t4 rfl fun h5 e5 => ?_))
  simp only [Option.isSome_none, Bool.false_eq_true, if_false]
  have hsub : Sub h h5 := fun b o e => by
    have hb : b ≠ h.objs.size := Nat.ne_of_lt (Heap.lt_size e)
    exact e5 b o hb ((s4.2 b hb).trans ((s3.2 b hb).trans ((s2.2 b hb).trans (Heap.get?_push_of_some _ e))))
  exact wpAny_pure (q h5 hsub (S.sub hsub))
end
end Mine
end
section
set_option Elab.async false
set_option maxRecDepth 100000
set_option linter.unusedVariables false
set_option maxHeartbeats 4000000
namespace Mine
open PySem PySem.W PySem.Calls PyProof.Rows PySem.Builtin
/-! whatever is answered, what comes back is a permutation -/
noncomputable def All {α : Type} (N : Nat) (P : α → Prop) : KasT α → Prop
  | .ret a => P a
  | .ask i j k => i < N ∧ j < N ∧ ∀ b, All N P (k b)
theorem All.bind {α β : Type} {N : Nat} {P : α → Prop} {P' : β → Prop} {f : α → KasT β} : ∀ {t : KasT α}, All N P t → (∀ a, P a → All N P' (f a)) → All N P' (t.bind f)
  | .ret a, h, k => k a h
  | .ask i j g, h, k => ⟨h.1, h.2.1, fun b => All.bind (h.2.2 b) k⟩
theorem All.mono {α : Type} {N : Nat} {P P' : α → Prop} (k : ∀ a, P a → P' a) : ∀ {t : KasT α}, All N P t → All N P' t
  | .ret a, h => k a h
  | .ask i j g, h => ⟨h.1, h.2.1, fun b => All.mono k (h.2.2 b)⟩
noncomputable def Bd (N : Nat) (p : Array Nat) : Prop := 0 < N ∧ ∀ x ∈ p.toList, x < N
theorem Bd.get {N : Nat} {p : Array Nat} (h : Bd N p) (i : Nat) : p.getD i 0 < N := by
  rw [Array.getD_eq_getD_getElem?]
  cases e : p[i]? with
  | none => exact h.1
  | some x => exact h.2 x (Array.mem_toList_iff.mpr (Array.mem_of_getElem? e))
theorem Bd.perm {N : Nat} {p q : Array Nat} (h : Bd N p) (e : q.Perm p) : Bd N q := ⟨h.1, fun x hx => h.2 x (e.toList.mem_iff.mp hx)⟩
theorem rev_perm (p : Array Nat) (i j : Nat) : (kas_rev p i j).Perm p := mirror_perm _ _ _ _
variable {N : Nat}
theorem asc_any {p : Array Nat} (B : Bd N p) : ∀ (f n : Nat), All N (fun _ => True) (kas_asc p f n)
  | 0, n => trivial
  | f + 1, n => ⟨B.get _, B.get _, fun b => by cases b <;> simp <;> first | exact trivial | exact asc_any B f (n + 1)⟩
theorem desc_perm : ∀ (f : Nat) {p : Array Nat} (_ : Bd N p) (n q : Nat), All N (fun r => r.1.Perm p) (kas_desc f p n q)
  | 0, p, B, n, q => Array.Perm.refl _
  | f + 1, p, B, n, q => ⟨B.get _, B.get _, fun b => by
    cases b with
    | true =>
      show All N _ (if q > 0 then kas_desc f (kas_rev p (n - (q + 1)) n) (n + 1) 0 else kas_desc f p (n + 1) 0)
      split
      · exact (desc_perm f (B.perm (rev_perm ..)) _ _).mono fun r h => h.trans (rev_perm ..)
      · exact desc_perm f B _ _
    | false =>
      refine ⟨B.get _, B.get _, fun d => ?_⟩
      cases d with
      | true => exact Array.Perm.refl _
      | false => exact desc_perm f B _ _⟩
theorem tail3_perm {p : Array Nat} (B : Bd N p) (n nrem : Nat) : All N (fun r => r.2.Perm p) (kas_tail3 n nrem p) :=
  (asc_any (B.perm (rev_perm ..)) _ _).bind fun m _ => rev_perm ..
theorem descPart_perm {p : Array Nat} (B : Bd N p) (n nrem : Nat) : All N (fun r => r.2.Perm p) (kas_descPart n nrem p) :=
  (desc_perm _ B _ _).bind fun r h => by
    split
    · exact (tail3_perm ((B.perm h).perm (rev_perm ..)) _ _).mono fun x hx => hx.trans ((rev_perm ..).trans h)
    · exact (tail3_perm (B.perm h) _ _).mono fun x hx => hx.trans h
theorem count_perm {p : Array Nat} (B : Bd N p) (nrem : Nat) : All N (fun r => r.2.Perm p) (kas_count nrem p) :=
  (asc_any B _ _).bind fun n _ => by
    split
    · exact Array.Perm.refl _
    · split
      · refine ⟨B.get _, B.get _, fun c => ?_⟩
        cases c with
        | true => exact Array.Perm.refl _
        | false => exact (descPart_perm (B.perm (rev_perm ..)) _ _).mono fun x hx => hx.trans (rev_perm ..)
      · exact descPart_perm B _ _
theorem place_any {p : Array Nat} (B : Bd N p) (k : Nat) : ∀ (f l r : Nat), All N (fun _ => True) (kas_place p k f l r)
  | 0, l, r => trivial
  | f + 1, l, r => by
    show All N _ (if l ≥ r then .ret l else .ask (p.getD k 0) (p.getD ((l + r) / 2) 0) fun c => if c = true then kas_place p k f l ((l + r) / 2) else kas_place p k f ((l + r) / 2 + 1) r)
    split
    · trivial
    · refine ⟨B.get _, B.get _, fun c => ?_⟩
      cases c with
      | true => exact place_any B k f _ _
      | false => exact place_any B k f _ _
theorem bin_perm : ∀ (f : Nat) {p : Array Nat} (_ : Bd N p) (k : Nat), All N (fun r => r.Perm p) (kas_bin f p k)
  | 0, p, B, k => Array.Perm.refl _
  | f + 1, p, B, k => (place_any B _ _ _ _).bind fun l _ => (bin_perm f (B.perm (bubble_perm ..)) _).mono fun r h => h.trans (bubble_perm ..)
theorem sort_perm (n : Nat) (h : 0 < n) : All n (fun r => r.Perm (List.range n).toArray) (kas_sort n) :=
  have B : Bd n (List.range n).toArray := ⟨h, fun x hx => by simpa using hx⟩
  (count_perm B _).bind fun r h => by
    split
    · exact (bin_perm _ (B.perm h) _).mono fun x hx => hx.trans h
    · exact h
section
variable {w : World} {A : Around} {E : Value → Shared → Prop} {s s' : Shared} {g h : Heap} {gs : Array GenState} {dr : Drawn} {tk : Nat} {os : OsState} {t u dd du : Addr} {P : Params} {L : Addr} {nm : List Str} {ls : List (Option Value)} {mu : List (Addr × Obj)}
theorem All.wp {α : Type} {Pr : α → Prop} {cmp : Nat → Nat → (Bool → Shared → Prop) → Shared → Prop} {I : Shared → Prop} {Q : α → Shared → Prop} {N : Nat} (hc : ∀ i j C s, i < N → j < N → I s → (∀ b s', I s' → C b s') → cmp i j C s) (hq : ∀ a s, Pr a → I s → Q a s) : ∀ {t : KasT α} {s : Shared}, All N Pr t → I s → t.kasWp cmp Q s
  | .ret a, s, h, i => hq a s h i
  | .ask i j k, s, h, hi => hc i j _ s h.1 h.2.1 hi fun b s' hs' => All.wp hc hq (h.2.2 b) hs'
/-- x < y of two matches -/
theorem m_ltrun {a b : Int} {x₁ x₂ x₃ y₁ y₂ y₃ : Int} {k₁ k₂ k₃ l₁ l₂ l₃ : Tok} {Q : PySem.Fin → Shared → Prop} (X : (K P).In h) (ht : h.get? t = some (mob dd [.int x₁ k₁, .int x₂ k₂, .int x₃ k₃])) (hu : h.get? u = some (mob du [.int y₁ l₁, .int y₂ l₂, .int y₃ l₃]))
    (q : ∀ b, Q (.done (.ret (.bool b))) ⟨h, gs, dr, tk, os⟩) : wpAny (model prog w) A (Builtin.«tuple.__lt__» ⟨[.ref t, .ref u], []⟩) Q E ⟨h, gs, dr, tk, os⟩ := by
  have l1 : Looks (model prog w) h (isInstance (.ref u) (.type "tuple")) true := m_inst X hu
  have rc : ∀ (a b : Int) (k l : Tok) (Q : Value → Shared → Prop), (∀ c, Q (.bool c) ⟨h, gs, dr, tk, os⟩) → wpAny (model prog w) A (richCompare .Lt (.int a k) (.int b l)) Q E ⟨h, gs, dr, tk, os⟩ := fun a b k l Q q => PySem.P.lt_int (q _)
  show wpAny _ _ (isInstance (.ref u) (.type "tuple") >>= _) _ _ _
  refine wpAny_bind (l1.at ?_)
  simp only [Bool.not_true, Bool.false_eq_true, if_false]
  refine wpAny_bind (wpAny_tupleItemsOf ht rfl ?_)
  refine wpAny_bind (wpAny_tupleItemsOf hu rfl ?_)
  refine wpAny_bind ?_
  simp only [List.zip_cons_cons, List.zip_nil_right]
  have fin : ∀ b, Q (.done (.ret (.bool b))) ⟨h, gs, dr, tk, os⟩ := q
  rw [List.forIn_cons]
  refine wpAny_bind (wpAny_bind (wpAny_eqBool_int ?_))
  by_cases e1 : x₁ = y₁
  · rw [if_neg (by simpa using e1)]
    refine wpAny_pure ?_
    dsimp only
    rw [List.forIn_cons]
    refine wpAny_bind (wpAny_bind (wpAny_eqBool_int ?_))
    by_cases e2 : x₂ = y₂
    · rw [if_neg (by simpa using e2)]
      refine wpAny_pure ?_
      dsimp only
      rw [List.forIn_cons]
      refine wpAny_bind (wpAny_bind (wpAny_eqBool_int ?_))
      by_cases e3 : x₃ = y₃
      · rw [if_neg (by simpa using e3)]
        refine wpAny_pure ?_
        dsimp only
        rw [List.forIn_nil]
        exact wpAny_pure (wpAny_pure (q _))
      · rw [if_pos (by simpa using e3)]
        exact wpAny_bind (wpAny_rule (wpAny_bind (rc _ _ _ _ _ fun c => wpAny_bind (wpAny_pure (wpAny_pure (wpAny_pure (wpAny_pure (q _))))))))
    · rw [if_pos (by simpa using e2)]
      exact wpAny_bind (wpAny_rule (wpAny_bind (rc _ _ _ _ _ fun c => wpAny_bind (wpAny_pure (wpAny_pure (wpAny_pure (wpAny_pure (q _))))))))
  · rw [if_pos (by simpa using e1)]
    exact wpAny_bind (wpAny_rule (wpAny_bind (rc _ _ _ _ _ fun c => wpAny_bind (wpAny_pure (wpAny_pure (wpAny_pure (wpAny_pure (q _))))))))
/-- a match with three ints -/
noncomputable def IsM (h : Heap) (v : Value) : Prop := ∃ t dd x y z k l m, v = .ref t ∧ h.get? t = some (mob dd [.int x k, .int y l, .int z m])
theorem m_lt {v₁ v₂ : Value} {C : Bool → Shared → Prop} (X : (K P).In h) (h1 : IsM h v₁) (h2 : IsM h v₂) (hu : A.units < cLine) (q : ∀ b, C b ⟨h, gs, dr, tk, os⟩) : wpAny (model prog w) A (keyLt' oneType' v₁ v₂) C E ⟨h, gs, dr, tk, os⟩ := by
  obtain ⟨t, dd, x, y, z, k, l, m, rfl, ht⟩ := h1
  obtain ⟨u, du, x', y', z', k', l', m', rfl, hu'⟩ := h2
  have l1 : Looks (model prog w) h (specialOf (.ref t) (Str.ofString "__lt__")) (some (.builtin "tuple.__lt__")) := m_spec X ht (mf_lt P)
  rw [keyLt'_oneType, oneLt'_eq]
  simp only [if_true]
  refine wpAny_bind (wpAny_cRoomFor hu ?_)
  have cal : wpAny (model prog w) A (call (.builtin "tuple.__lt__") [.ref t, .ref u]) (fun v s' => ∃ b, v = .bool b ∧ s' = ⟨h, gs, dr, tk, os⟩) E ⟨h, gs, dr, tk, os⟩ :=
    callM (n := "__lt__") X ht (by decide +kernel) (by decide +kernel) (by decide +kernel) PySem.F.entry_tuple_lt (PySem.F.args_tuple_lt_2 _ _) (m_ltrun (a := 0) (b := 0) X ht hu' fun b => ⟨_, rfl, b, rfl, rfl⟩)
  refine wpAny_bind (wpAny_mono (Q := fun v s' => ∃ b, v = some (.bool b) ∧ s' = ⟨h, gs, dr, tk, os⟩) (E := E) ?_ (fun v s' hv => ?_) fun _ _ x => x)
  · simp only [callSpecialIfBound?, bindSpecialIfBound?]
    refine wpAny_holding (wpAny_bind (wpAny_bind (l1.at ?_)))
    have hb := PySem.F.slot_tuple_lt.bind
    simp only [hb]
    refine wpAny_bind (wpAny_askSetting (wpAny_ite ?_))
    have fin : wpAny (model prog w) A (call (.builtin "tuple.__lt__") ([.ref t] ++ [.ref u]) >>= fun v => pure (some v)) (fun v s' => ∃ b, v = some (.bool b) ∧ s' = ⟨h, gs, dr, tk, os⟩) E ⟨h, gs, dr, tk, os⟩ :=
      wpAny_bind (wpAny_mono cal (fun v s' hv => by obtain ⟨b, rfl, rfl⟩ := hv; exact wpAny_pure ⟨b, rfl, rfl⟩) fun _ _ x => x)
    split
    · exact wpAny_bind (wpAny_pure (wpAny_pure fin))
    · exact wpAny_tryCatch (wpAny_bind (wpAny_pure (wpAny_pure fin)))
  · obtain ⟨b, rfl, rfl⟩ := hv
    exact wpAny_truthy_bool (q b)
/-- l.sort() of matches: l heads the ledger -/
theorem sortM {l : Addr} {items : List Value} {n : Nat} {Q : Value → Shared → Prop} (S : St g L h nm ls ((l, lob items n) :: mu)) (X : (K P).In g) (hu : A.units + 1 < cLine) (h64 : items.length < 64)
    (hM : ∀ v ∈ items, ∃ t dd x y z k l m, v = .ref t ∧ Kn g mu t (mob dd [.int x k, .int y l, .int z m]))
    (q : ∀ h' items' n', items'.Perm items → St g L h' nm ls ((l, lob items' n') :: mu) → Q .none ⟨h', gs, dr, tk, os⟩) :
    wpAny (model prog w) A (call (.builtin "list.sort") [.ref l]) Q E ⟨h, gs, dr, tk, os⟩ := by
  have hne : ∀ p ∈ mu, p.1 ≠ l := fun p hp e => (List.nodup_cons.mp S.nd).1 (List.mem_map.mpr ⟨p, hp, e⟩)
  have nd' : ∀ o : Obj, (((l, o) :: mu).map (·.1)).Nodup := fun o => S.nd
  have isM : ∀ h' o, Fr g L h' (look nm ls) → News g L h' ((l, o) :: mu) → ∀ v ∈ items, IsM h' v := fun h' o F' N' v hv => by
    obtain ⟨t, dd, x, y, z, k, l', m, rfl, hk⟩ := hM v hv
    exact ⟨t, dd, x, y, z, k, l', m, rfl, hk.elim (F'.keep _ _) fun hm => (N' _ (.tail _ hm)).1⟩
  by_cases h2 : 2 ≤ items.length
  · refine kas_lsort (s := ⟨h, gs, dr, tk, os⟩) (T := .ref 135) (vs := items) (its := items.toArray) (n := n) S.F S.N (UpdF.head hne) (by simp) h2 h64 (fun e1 h' F' N' v hv => ?_) (by decide) fun e1 h' F' N' => ?_
    · obtain ⟨t, dd, x, y, z, k, l', m, rfl, ht⟩ := isM h' _ F' N' v hv
      exact m_type ht
    · refine All.wp (Pr := fun r => r.Perm (List.range items.length).toArray) (I := fun s' => s' = ⟨h', gs, dr, tk, os⟩) (fun i j C s' hi hj hs hC => ?_) (fun p s' hp hs => ?_) (sort_perm _ (by (clear hu; lia))) rfl
      · subst hs
        have get : ∀ i, i < items.length → IsM h' (items.getD i .none) := fun i hi => by
          rw [List.getD_eq_getElem?_getD, List.getElem?_eq_getElem hi]
          exact isM h' _ F' N' _ (List.getElem_mem hi)
        exact m_lt (X.keeps F'.keep) (get i hi) (get j hj) (by show A.units + 1 < _; exact hu) fun b => hC b _ rfl
      · subst hs
        refine KasFin.intro F' N' (UpdF.head hne) fun h'' c F'' N'' => q h'' _ c ?_ ⟨F'', N'', nd' _⟩
        have hp' : p.toList.Perm (List.range items.length) := hp.toList
        refine (hp'.map _).trans ?_
        have e : (List.range items.length).map (fun i => items.getD i Value.none) = items := by
          apply List.ext_getElem (by simp)
          intro i h1 h2
          simp [List.getElem?_eq_getElem h2]
        rw [e]
  · have ho := S.get (j := 0) rfl
    refine wpAny_call_entry PyProof.Rows.slot_list_sort (s := ⟨h, gs, dr, tk, os⟩) ⟨_, ho, rfl⟩ PyProof.Rows.entry_list_sort ?_ (PyProof.Rows.args_list_sort _)
    have s1 := Heap.SameBut.update h l (Obj.mapSeq fun _ => (#[] : Array Value))
    obtain ⟨e1, ho1⟩ : ∃ e1, (h.update l (Obj.mapSeq fun _ => (#[] : Array Value))).get? l = some (seqObj "list" #[] e1) := ⟨_, get?_update_seq ho fun _ => #[]⟩
    have S1 := S.same (j := 0) rfl s1 ho1
    have S2 := (S1.push (seqObj "tuple" items.toArray 0)).push (seqObj "list" #[] 0)
    rw [list_sort_plain]
    refine wpAny_bind (listItems_at ho rfl ?_)
    refine wpAny_bind (listUpdate_at ho rfl ?_ (by rw [List.size_toArray, sizeLine_eq]; (clear ho1 ho hu; lia)) (Nat.zero_le _))
    refine wpAny_bind (seqEpoch_at ho1 rfl ?_)
    refine wpAny_bind (wpAny_newTuple ?_ (by show items.length ≤ _; rw [sizeLine_eq]; (clear ho1 ho hu; lia)))
    refine wpAny_bind (wpAny_newList ?_ (Nat.zero_le _))
    refine wpAny_holding ?_
    have ho6 := S2.get (j := 2) rfl
    show wpAny (model prog w) A.in1 _ _ E ⟨((h.update l (Obj.mapSeq fun _ => (#[] : Array Value))).push (seqObj "tuple" items.toArray 0)).push (seqObj "list" #[] 0), gs, dr, tk, os⟩
    dsimp only
    rw [if_pos (by rw [List.size_toArray]; (clear ho6 ho1 ho hu; lia)), if_pos (by rw [List.size_toArray]; (clear ho6 ho1 ho hu; lia))]
    refine wpAny_bind (wpAny_pure ?_)
    rw [StateT.run_pure]
    refine wpAny_bind (wpAny_pure ?_)
    dsimp only
    refine wpAny_bind (seqEpoch_at ho6 rfl ?_)
    refine wpAny_bind (listUpdate_at ho6 rfl ?_ (Nat.zero_le _) (by rw [Array.size_map]; show (pairsOf items).size ≤ _; rw [pairsOf_size, sizeLine_eq]; (clear ho6 ho1 ho hu; lia)))
    simp only [bne_self_eq_false, Bool.false_eq_true, if_false]
    refine wpAny_pure ⟨_, rfl, ?_⟩
    have e2 := get?_update_seq ho6 (fun _ => Array.map (fun x => x.snd) (arrOf (SortSt.mk' general' (items.toArray.zip items.toArray) #[] 7 none)))
    have S3 := (S2.same (j := 2) rfl (Heap.SameBut.update _ l _) e2).drop (mu' := (l, _) :: mu) (.cons _ (.cons _ (List.Sublist.refl _)))
    have e3 : Array.map (fun x => x.snd) (arrOf (SortSt.mk' general' (items.toArray.zip items.toArray) #[] 7 none)) = items.toArray := by
      show Array.map (fun x => x.snd) (items.toArray.zip items.toArray) = items.toArray
      apply Array.ext (by simp)
      intro i h1 h2
      simp
    rw [e3] at S3 ⊢
    exact q _ items _ (List.Perm.refl _) S3
end
end Mine
end
section
set_option Elab.async false
set_option maxRecDepth 100000
set_option linter.unusedVariables false
set_option maxHeartbeats 4000000
namespace Mine
open PySem PySem.W PySem.Calls PyProof.Rows PySem.Builtin
section
variable {w : World} {A : Around} {E : Value → Shared → Prop} {s s' : Shared} {mg mb : Str → Option Value} {g h : Heap} {gs : Array GenState} {dr : Drawn} {tk : Nat} {os : OsState} {t dd : Addr} {items : List Value} {P : Params} {L : Addr} {nm : List Str} {ls : List (Option Value)} {mu : List (Addr × Obj)}
/-- a tuple's slot asked of a Match -/
theorem m_special {name : Str} {id n : String} {B : Builtin} {args : List Value} {Q : Option Value → Shared → Prop} (X : (K P).In h) (ht : h.get? t = some (mob dd items)) (hf : findIn (K P) (.ref 135) name = some (some (.builtin id))) (hb : bindSpecial (.builtin id) (.ref t) = pure (.builtin id, [.ref t]))
    (hk : builtinKind id = some .slot) (hs : splitId id = some ("tuple", n)) (hp : plainId id = true) (he : entryFor table id = some B) (ha : argsOk id ⟨.ref t :: args, []⟩)
    (k : wpAny (model prog w) A.in1 (B ⟨.ref t :: args, []⟩) (fun fin s' => ∃ v, fin = .done (.ret v) ∧ Q (some v) s') E ⟨h, gs, dr, tk, os⟩) : wpAny (model prog w) A (callSpecial? (.ref t) name args) Q E ⟨h, gs, dr, tk, os⟩ := by
  simp only [callSpecial?]
  refine wpAny_bind ((m_spec X ht hf).at ?_)
  simp only [hb]
  exact wpAny_holding (wpAny_bind (wpAny_pure (wpAny_bind (wpAny_mono (callM X ht hk hs hp he ha (Q := fun v s' => Q (some v) s') k) (fun v s' h' => wpAny_pure h') fun _ _ h' => h'))))
theorem m_len {Q : Value → Shared → Prop} (X : (K P).In h) (ht : h.get? t = some (mob dd items)) (hl : items.length ≤ 1000) (q : ∀ k tk, Q (.int items.length k) ⟨h, gs, dr, tk, os⟩) : wpAny (model prog w) A (call (.builtin "len") [.ref t]) Q E ⟨h, gs, dr, tk, os⟩ := by
  refine Calls.call_function_entry kind_len plain_len entry_len (args_len1 _) ?_
  unfold Builtin.«len»
  refine wpAny_bind (m := oneArg "len" _) (wpAny_pure ?_)
  refine wpAny_bind (m := callSpecial? (.ref t) (Str.ofString "__len__")) (m_special (n := "__len__") X ht (mf_len P) (slot_tuple_len.bind _) (by decide +kernel) (by decide +kernel) (by decide +kernel) entry_tuple_len (args_tuple_len _) ?_)
  show wpAny _ _ (Builtin.Tuple.tupleItemsOf (.ref t) >>= fun xs => retInt xs.size) _ _ _
  refine wpAny_bind (wpAny_tupleItemsOf ht rfl ?_)
  refine wpAny_bind (wpAny_mkInt (wpAny_pure ⟨_, rfl, ?_⟩))
  have e : ((items.toArray.size : Nat) : Int) = items.length := by simp
  rw [e]
  refine wpAny_bind (wpAny_holding (wpAny_pure ?_))
  refine wpAny_bind (wpAny_letGo ?_)
  show wpAny _ _ (if (items.length : Int) < 0 then _ else _) _ _ _
  rw [if_neg (by omega)]
  show wpAny _ _ (if (items.length : Int) ≥ 2 ^ 63 then _ else _) _ _ _
  rw [if_neg (by omega)]
  exact wpAny_bind (wpAny_mkInt (wpAny_pure ⟨_, rfl, q _ _⟩))
theorem make_spec {T : Addr} {x y z : Value} (D : Gd (K w.params) mg mb s.heap) (hd : A.depth < recursionLimit) (hT : s.heap.get? T = some ⟨.type "tuple", none, .seq #[x, y, z] 0, #[]⟩) :
    codeAny (model prog w) A (.call (.ref 89) ⟨[.ref 135, .ref T], []⟩) (Ret [] s fun v s' => ∃ t dd, v = .ref t ∧ Fresh s s' [(t, mob dd [x, y, z]), (dd, emptyDict)]) s := by
  refine enterP ps_make os_make [.ref 135, .ref T] [] (fn_make _) D hd (b_make _ _ _ _) rfl p_make (nm := nm_make) rfl (fun _ h => nomatch h) .nil ?_
  intro Po hPo L h₁ tk S hL
  replace S : St s.heap L h₁ nm_make _ [] := S
  refine wpAny_execs_cons (wpAny_Expr (cStr fun k1 t1 => ?_))
  refine wpAny_execs_cons (asgN (MethodCall_ (lb_ S D g_make_tuple (bn_tuple _) (getmT (D.k.keeps S.F.keep) fun t2 => callWith_method1 ?_))))
  refine arg_ (ld_ S v_make_cls rfl (arg_ (ld_ S v_make_iterable rfl (arg0 ?_))))
  refine callTn (items := [x, y, z]) (D.k.keeps S.F.keep) (S.old hT) (by simp) fun h3 hk => ?_
  have S3 := ((S.sub hk).push emptyDict).push (mob h3.objs.size [x, y, z])
  rw [show (h3.push emptyDict).objs.size = h3.objs.size + 1 from Heap.size_push ..] at S3
  refine st_ S3 v_make_result (Nat.le_of_ble_eq_true rfl) fun h4 t4 S4 => ?_
  refine wpAny_execs_cons (wpAny_If (wpAny_isTrue_Compare1 (Call_ (lb_ S4 D g_make_len (bn_len _) (cB (arg_ (ld_ S4 v_make_result rfl (arg0 ?_))))))))
  refine m_len (D.k.keeps S4.F.keep) (S4.get (j := 0) rfl) (by simp) fun k5 t5 => cInt fun k6 t6 => PySem.P.ne_int (wpAny_truthy_bool ?_)
  rw [if_neg (by simp)]
  refine wpAny_execs_nil ?_
  refine wpAny_execs_cons (wpAny_Return_some (ld_ S4 v_make_result rfl ?_))
  exact hPo _ _ (St.mod (W := []) (t := 0) S4 hL id rfl rfl rfl) ⟨_, _, rfl, St.fresh (W := []) (mu := []) S4 rfl rfl⟩
end
end Mine
end
section
set_option Elab.async false
set_option maxRecDepth 100000
set_option linter.unusedVariables false
set_option maxHeartbeats 4000000
namespace Mine
open PySem PySem.W PySem.Calls PyProof.Rows PySem.Builtin
theorem mro_map : mroOf (.type "map") = pure [.type "map", .type "object"] := by rw [mroOf_type]; kernel_rfl
theorem lookup_map_new : typeLookup (.type "map") "__new__" = pure (some (.builtin "map.__new__")) := by rw [typeLookup_type, builtinLookup_eq_fast]; kernel_rfl
theorem slot_map_init : Slot "map" "__init__" "object.__init__" :=
  .of (owner := "object") (n := "__init__") (by rw [typeLookup_type, builtinLookup_eq_fast]; kernel_rfl) (by decide +kernel) (by decide +kernel) (by decide +kernel)
    (by first | exact .inl (by decide +kernel) | exact .inr (by decide +kernel)) (by rw [isSubtype_type]; kernel_rfl)
theorem slot_map_next : Slot "map" "__next__" "map.__next__" :=
  .of (owner := "map") (n := "__next__") (by rw [typeLookup_type, builtinLookup_eq_fast]; kernel_rfl) (by decide +kernel) (by decide +kernel) (by decide +kernel)
    (by first | exact .inl (by decide +kernel) | exact .inr (by decide +kernel)) (by rw [isSubtype_type]; kernel_rfl)
theorem slot_map_iter : Slot "map" "__iter__" "map.__iter__" :=
  .of (owner := "map") (n := "__iter__") (by rw [typeLookup_type, builtinLookup_eq_fast]; kernel_rfl) (by decide +kernel) (by decide +kernel) (by decide +kernel)
    (by first | exact .inl (by decide +kernel) | exact .inr (by decide +kernel)) (by rw [isSubtype_type]; kernel_rfl)
theorem called_map : TypeCalled "map" "map.__new__" "object.__init__" :=
  ⟨by decide +kernel, by decide +kernel, ⟨_, _, mro_map⟩, madeBy_type mro_map lookup_map_new (by decide +kernel), by decide +kernel, by rw [isSubtype_type]; kernel_rfl, slot_map_init⟩
theorem typeCall_map (a b : Value) : checkTypeCall "map" ⟨[a, b], []⟩ = pure () := by kernel_rfl
theorem newCall_map (a b : Value) : checkBuiltinCall "map.__new__" ⟨[.type "map", a, b], []⟩ = pure () := by kernel_rfl
theorem oi_args3 (a x y : Value) : argsOk "object.__init__" ⟨[a, x, y], []⟩ := by unfold argsOk; kernel_rfl
theorem entry_map_new : entryFor table "map.__new__" = some Builtin.«map.__new__» := entryFor_of_tree (by kernel_rfl)
theorem entry_map_next : entryFor table "map.__next__" = some Builtin.«map.__next__» := entryFor_of_tree (by kernel_rfl)
theorem args_map_next (a : Value) : argsOk "map.__next__" ⟨[a], []⟩ := by unfold argsOk; kernel_rfl
theorem args_map_iter (a : Value) : argsOk "map.__iter__" ⟨[a], []⟩ := by unfold argsOk; kernel_rfl
theorem sub_map : isSubtype (.type "map") (.type "map") = pure true := by rw [isSubtype_type]; kernel_rfl
theorem nc_map (q l : Addr) : SmallTypes.newClass "map" ⟨[.type "map", .ref q, .ref l], []⟩ = pure (.type "map", [.ref q, .ref l]) := by
  unfold SmallTypes.newClass
  show (isSubtype (.type "map") (.type "map") >>= _) = _
  rw [sub_map]; rfl
theorem map_no_len : typeLookup (.type "map") "__len__" = pure none := by rw [typeLookup_type, builtinLookup_eq_fast]; kernel_rfl
theorem map_no_hint : typeLookup (.type "map") "__length_hint__" = pure none := by rw [typeLookup_type, builtinLookup_eq_fast]; kernel_rfl
noncomputable abbrev lit (l : Addr) (i : Nat) : Obj := { cls := .type "list_iterator", data := .fields #[.ref l, .int i 0] }
noncomputable abbrev tob (items : List Value) : Obj := ⟨.type "tuple", none, .seq items.toArray 0, #[]⟩
noncomputable abbrev mapO (T q : Addr) : Obj := { cls := .type "map", data := .fields #[.ref T, .ref q] }
section
variable {w : World} {A : Around} {E : Value → Shared → Prop} {s s' : Shared} {mg mb : Str → Option Value} {g h : Heap} {gs : Array GenState} {dr : Drawn} {tk : Nat} {os : OsState} {t dd : Addr} {items : List Value} {P : Params} {L : Addr} {nm : List Str} {ls : List (Option Value)} {mu : List (Addr × Obj)}
theorem meets_map_new (q l : Addr) (items : List Value) : Meets (Builtin.«map.__new__» ⟨[.type "map", .ref q, .ref l], []⟩) (fun _ R s => s.heap.IsList l items.toArray ∧
    R (.ok (.ret (.ref (s.heap.objs.size + 2)))) { s with heap := ((s.heap.push (lit l 0)).push (tob [.ref s.heap.objs.size])).push (mapO (s.heap.objs.size + 1) q) }) :=
  .of_wp fun prog w A R s hx => by
    obtain ⟨hl, hx⟩ := hx
    obtain ⟨hp, g, d, tk, os⟩ := s
    unfold Builtin.«map.__new__»
    refine wpAny_bind (wpAny_of_eq (nc_map q l) ?_)
    refine wpAny_bind (wpAny_of_eq (a := ()) rfl ?_)
    show wpAny _ _ (SmallTypes.iterAll [.ref l] >>= _) _ _ _
    unfold SmallTypes.iterAll
    refine wpAny_bind (wpAny_bind ?_)
    rw [List.forIn_cons]
    refine wpAny_bind (wpAny_bind (wpAny_holding (wpAny_pyIter_list hl (wpAny_pure ?_))))
    dsimp only
    rw [List.forIn_nil]
    refine wpAny_pure (wpAny_pure ?_)
    refine wpAny_bind (wpAny_newTuple ?_ (by show 1 ≤ _; decide))
    show wpAny _ _ (newObj (.type "map") (.fields [.ref (hp.push (lit l 0)).objs.size, .ref q].toArray) >>= _) _ _ _
    refine wpAny_bind (wpAny_newObj_type (wpAny_pure ⟨_, rfl, ?_⟩))
    have e1 : (hp.push (lit l 0)).objs.size = hp.objs.size + 1 := Heap.size_push ..
    have e2 : ((hp.push (lit l 0)).push (tob [.ref hp.objs.size])).objs.size = hp.objs.size + 2 := by rw [Heap.size_push, e1]
    have := hx
    rw [← e1, ← e2] at this
    exact this
theorem gMake {expr : Bool} {Q : Value → Shared → Prop} (S : St g L h nm ls mu) (X : (K w.params).In h) (q : ∀ h' tk, St g L h' nm ls ((h.objs.size, methodObj (.ref 89) (.ref 135)) :: mu) → Q (.ref h.objs.size) ⟨h', gs, dr, tk, os⟩) : wpAny (model prog w) A (getAttr (.ref 135) (Str.ofString "_make") expr) Q E ⟨h, gs, dr, tk, os⟩ := by
  obtain ⟨r, hr⟩ := re_ex (re_make w.params)
  exact cls_bind (s := ⟨h, gs, dr, tk, os⟩) X (rd_match _) (fi_make _) (wpAny_call (cm_get (s := ⟨h, gs, dr, tk + 1, os⟩) X hr (handed_on rfl (q _ _ (S.push _)))))
theorem newMap {q l : Addr} {Q : Value → Shared → Prop} (S : St g L h nm ls mu) (hl : h.IsList l items.toArray)
    (k : ∀ h', St g L h' nm ls ((h.objs.size + 2, mapO (h.objs.size + 1) q) :: (h.objs.size + 1, tob [.ref h.objs.size]) :: (h.objs.size, lit l 0) :: mu) → Q (.ref (h.objs.size + 2)) ⟨h', gs, dr, tk, os⟩) :
    wpAny (model prog w) A (call (.type "map") [.ref q, .ref l]) Q E ⟨h, gs, dr, tk, os⟩ := by
  have S3 := ((S.push (lit l 0)).push (tob [.ref h.objs.size])).push (mapO (h.objs.size + 1) q)
  have e1 : (h.push (lit l 0)).objs.size = h.objs.size + 1 := Heap.size_push ..
  have e2 : ((h.push (lit l 0)).push (tob [.ref h.objs.size])).objs.size = h.objs.size + 2 := by rw [Heap.size_push, e1]
  rw [e1, e2] at S3
  exact callType_new (s := ⟨h, gs, dr, tk, os⟩) called_map (by decide) (typeCall_map _ _) (newCall_map _ _) (fun obj => oi_args3 obj _ _) entry_map_new (meets_map_new q l items) ⟨hl, ⟨_, S3.get (j := 0) rfl, rfl⟩, k _ S3⟩
/-- a call of a bound method of the text -/
theorem callMeth {q f : Addr} {self : Value} {args : List Value} {R : Value → Shared → Prop} (hq : h.get? q = some (methodObj (.ref f) self)) (c : codeAny (model prog w) A (.call (.ref f) ⟨self :: args, []⟩) (fun r s' => match r with | .ok (.ret v) => R v s' | _ => False) ⟨h, gs, dr, tk, os⟩) :
    wpAny (model prog w) A (call (.ref q) args) R E ⟨h, gs, dr, tk, os⟩ := by
  refine wpAny_call (codeAny_of_tree ?_)
  show wpAny _ A.in1 (callAny (.ref q) ⟨args, []⟩) _ _ _
  simp only [callAny]
  refine wpAny_bind (wpAny_load hq ?_)
  simp only [show (Value.type "method" == Value.type "method" || Value.type "method" == Value.type "builtin_function_or_method" || Value.type "method" == Value.type "method-wrapper") = true by decide, if_true]
  refine wpAny_pure ⟨rfl, codeAny_mono c fun r s' hr => ?_⟩
  match r, hr with
  | .ok (.ret v), hr => exact hr
noncomputable def IsIt (o : Obj) (l : Addr) (i : Nat) : Prop := o.cls = .type "list_iterator" ∧ o.data = .fields #[.ref l, .int i 0]
theorem map_next {oi : Obj} {M T it l q tv : Addr} {i : Nat} {x y z : Value} {Q : Option Value → Shared → Prop} (D : Gd (K w.params) mg mb g) (S : St g L h nm ls mu) (hd : A.depth < recursionLimit) (j : Nat) (hit : mu[j]? = some (it, oi)) (hoi : IsIt oi l i) (hM : h.get? M = some (mapO T q)) (hT : h.get? T = some (tob [.ref it]))
    (hl : h.IsList l items.toArray) (hli : l ≠ it) (hq : h.get? q = some (methodObj (.ref 89) (.ref 135))) (hqi : q ≠ it) (hv : items[i]? = some (.ref tv)) (htv : h.get? tv = some (tob [x, y, z])) (hti : tv ≠ it) (hMi : M ≠ it)
    (k : ∀ h' gs' tk' t dd oi', AllBare gs' → IsIt oi' l (i + 1) → St g L h' nm ls (mu.set j (it, oi') ++ [(t, mob dd [x, y, z]), (dd, emptyDict)]) → Q (some (.ref t)) ⟨h', gs', dr, tk', os⟩) (hgs : AllBare gs) :
    wpAny (model prog w) A (pyNext (.ref M)) Q E ⟨h, gs, dr, tk, os⟩ := by
  unfold pyNext
  refine wpAny_bind (wpAny_attempt (wpAny_callSpecial?_slot (name := Str.ofString "__next__") (s := ⟨h, gs, dr, tk, os⟩) ⟨_, hM, rfl⟩ slot_map_next (wpAny_call_entry slot_map_next ⟨_, hM, rfl⟩ entry_map_next ?_ (args_map_next _))))
  show wpAny _ _ (field (.ref M) 0 >>= _) _ _ _
  refine wpAny_bind (wpAny_field hM rfl (x := .ref T) rfl ?_)
  refine wpAny_bind (wpAny_seqItems hT rfl ?_)
  dsimp only
  refine wpAny_bind ?_
  rw [← Array.forIn_toList]
  show wpAny _ _ (forIn [Value.ref it] (#[] : Array Value) _) _ _ _
  rw [List.forIn_cons]
  refine wpAny_bind (wpAny_bind (wpAny_holding (wpAny_nextOf_list_item (s := ⟨h, gs, dr, tk, os⟩) ⟨oi, S.get hit, hoi.1, hoi.2⟩ hl (x := .ref tv) (by simpa using hv) fun h2 hit2 s2 => wpAny_pure ?_)))
  dsimp only
  rw [List.forIn_nil]
  refine wpAny_pure ?_
  obtain ⟨oi', ho', hc', hd'⟩ := hit2
  have S2 := S.same hit s2 ho'
  have hM2 : h2.get? M = some (mapO T q) := (s2.2 M hMi).trans hM
  refine wpAny_bind (wpAny_field hM2 rfl (x := .ref q) rfl ?_)
  have hq2 : h2.get? q = some (methodObj (.ref 89) (.ref 135)) := (s2.2 q hqi).trans hq
  have htv2 : h2.get? tv = some (tob [x, y, z]) := (s2.2 tv hti).trans htv
  refine wpAny_bind (wpAny_holding (callMeth hq2 (codeAny_mono (make_spec (s := ⟨h2, gs, dr, tk, os⟩) (D.keeps S2.F.keep) hd htv2) fun r s' hr => ?_)))
  match r, hr with
  | .ok (.ret v), ⟨Mo, t, dd, hv, F⟩ =>
    subst hv
    obtain ⟨h3, gs3, dr3, tk3, os3⟩ := s'
    obtain rfl : os3 = os := Mo.os
    obtain rfl : dr3 = dr := Mo.dr
    refine wpAny_bind (wpAny_letGo (wpAny_pure ⟨_, rfl, wpAny_pure (k h3 gs3 tk3 t dd oi' (Mo.gens hgs) ⟨hc', hd'⟩ ?_)⟩))
    have S3 := S2.call0 (s := ⟨h2, gs, dr3, tk, os3⟩) (s' := ⟨h3, gs3, dr3, tk3, os3⟩) Mo
    exact St.grow (s := ⟨h2, gs, dr3, tk, os3⟩) S2 S3 rfl (fun p hp => ⟨F.here p hp, F.not p hp⟩) F.nd
theorem St.but {a : Addr} {o : Obj} {h' : Heap} (S : St g L h nm ls ((a, o) :: mu)) (keep : ∀ b x, b ≠ a → h.get? b = some x → h'.get? b = some x) : St g L h' nm ls mu := by
  have P := S.N _ (.head _)
  have nd := List.nodup_cons.mp S.nd
  obtain ⟨oL, es, ep, hL, r⟩ := S.F.ns
  refine ⟨⟨⟨oL, es, ep, keep L oL (Ne.symm P.2.1) hL, r⟩, fun b x e => keep b x (fun z => ?_) (S.F.keep b x e), S.F.above⟩, fun p hp => ?_, nd.2⟩
  · have := P.2.2; rw [← z, e] at this; cases this
  · have Q := S.N p (.tail _ hp)
    exact ⟨keep _ _ (fun z => nd.1 (List.mem_map.mpr ⟨p, hp, z⟩)) Q.1, Q.2⟩
theorem map_done {oi : Obj} {M T it l q : Addr} {Q : Option Value → Shared → Prop} (hh : A.handled = none) (S : St g L h nm ls ((it, oi) :: mu)) (hoi : IsIt oi l items.length) (hM : h.get? M = some (mapO T q)) (hT : h.get? T = some (tob [.ref it]))
    (hl : h.IsList l items.toArray) (hli : l ≠ it)
    (k : ∀ h', St g L h' nm ls mu → Q none ⟨h', gs, dr, tk, os⟩) :
    wpAny (model prog w) A (pyNext (.ref M)) Q E ⟨h, gs, dr, tk, os⟩ := by
  unfold pyNext
  refine wpAny_bind (wpAny_attempt (wpAny_callSpecial?_slot (name := Str.ofString "__next__") (s := ⟨h, gs, dr, tk, os⟩) ⟨_, hM, rfl⟩ slot_map_next (wpAny_call_entry slot_map_next ⟨_, hM, rfl⟩ entry_map_next ?_ (args_map_next _))))
  show wpAny _ _ (field (.ref M) 0 >>= _) _ _ _
  refine wpAny_bind (wpAny_field hM rfl (x := .ref T) rfl ?_)
  refine wpAny_bind (wpAny_seqItems hT rfl ?_)
  dsimp only
  refine wpAny_bind ?_
  rw [← Array.forIn_toList]
  show wpAny _ _ (forIn [Value.ref it] (#[] : Array Value) _) _ _ _
  rw [List.forIn_cons]
  have Dr := Draws.list (prog := prog) (w := w) (A := A.in1) hh it l hli items.toArray
  refine wpAny_bind (wpAny_bind (wpAny_holding ?_))
  refine Dr.done ⟨h, gs, dr, tk, os⟩ _ _ ⟨⟨oi, S.get (j := 0) rfl, hoi.1, by rw [List.size_toArray]; exact hoi.2⟩, hl⟩ fun h' e hx he => ?_
  obtain ⟨o, ho, hc⟩ := he
  refine wpAny_bind (wpAny_isInstance (T := "StopIteration") (b := true) ⟨o, ho, hc⟩ isSubtype_stop ?_)
  exact wpAny_pure (k h' (S.but fun b x hb e => hx b x hb e))
end
end Mine
end
section
set_option Elab.async false
set_option maxRecDepth 100000
set_option linter.unusedVariables false
set_option maxHeartbeats 4000000
namespace Mine
open PySem PySem.W PySem.Calls PyProof.Rows PySem.Builtin
section
variable {w : World} {A : Around} {E : Value → Shared → Prop} {s s' : Shared} {mg mb : Str → Option Value} {g : Heap} {dr : Drawn} {os : OsState} {items : List Value} {L : Addr} {nm : List Str} {ls : List (Option Value)} {mu : List (Addr × Obj)} {R : Result → Shared → Prop}
/-- the triples that a list of tuples holds -/
noncomputable def Trip (g : Heap) (mu : List (Addr × Obj)) (items : List Value) (tr : List (Value × Value × Value)) : Prop := items.length = tr.length ∧ ∀ (c : Nat) (p : Value × Value × Value), tr[c]? = some p → ∃ tv, items[c]? = some (.ref tv) ∧ Kn g mu tv (tob [p.1, p.2.1, p.2.2])
theorem push_obj {h : Heap} {S : Addr} {acc : List Value} {c : Nat} (v : Value) (ho : h.get? S = some (lob acc c)) : ∃ c', (h.update S (Obj.mapSeq (·.push v))).get? S = some (lob (acc ++ [v]) c') := by
  have := get?_update_seq ho (fun a => a.push v)
  rw [List.push_toArray] at this
  exact ⟨_, this⟩
theorem map_loop {M T it l q S' : Addr} {tr : List (Value × Value × Value)} {nl : Nat} (D : Gd (K w.params) mg mb g) (hh : A.handled = none) (hd : A.depth < recursionLimit) (hn : items.length ≤ 1000) (hT : Trip g mu items tr) (hl : Kn g mu l (lob items nl))
    (k : ∀ h gs tk acc c new, AllBare gs → acc.length = items.length → (∀ (c : Nat) (p : Value × Value × Value), tr[c]? = some p → ∃ t dd, acc[c]? = some (.ref t) ∧ (t, mob dd [p.1, p.2.1, p.2.2]) ∈ new) →
      St g L h nm ls ((S', lob acc c) :: (new ++ mu)) → R (.ok (.ret .none)) ⟨h, gs, dr, tk, os⟩) :
    ∀ (n i : Nat) (h : Heap) (gs : Array GenState) (tk : Nat) (oi : Obj) (acc : List Value) (c : Nat) (new : List (Addr × Obj)), items.length - i = n → i ≤ items.length → AllBare gs → IsIt oi l i → acc.length = i →
      (∀ (c : Nat) (p : Value × Value × Value), c < i → tr[c]? = some p → ∃ t dd, acc[c]? = some (.ref t) ∧ (t, mob dd [p.1, p.2.1, p.2.2]) ∈ new) →
      St g L h nm ls ((it, oi) :: (S', lob acc c) :: (M, mapO T q) :: (T, tob [.ref it]) :: (q, methodObj (.ref 89) (.ref 135)) :: (new ++ mu)) →
      codeAny (model prog w) A (.builtin "list.extend.loop" ⟨[.ref S', .ref M, .none], []⟩) R ⟨h, gs, dr, tk, os⟩ := by
  intro n
  induction n with
  | zero =>
    intro i h gs tk oi acc c new hni hi hg hoi hacc hnew S
    have hin : i = items.length := by (clear hn hd hh; lia)
    subst hin
    have nd := List.nodup_cons.mp S.nd
    have hlk : h.get? l = some (lob items nl) := S.kn (hl.mono fun p hp => by simp [hp])
    have hli : l ≠ it := fun e => by
      have e1 := S.get (j := 0) rfl
      rw [e] at hlk
      rw [hlk] at e1
      have := hoi.1
      rw [← Option.some.inj e1] at this
      exact absurd (show Value.type "list" = Value.type "list_iterator" from this) (by decide)
    refine codeAny_builtin F.entry_extend_loop ?_
    rw [Around.under_plainId F.plain_extend_loop _]
    show wpAny _ A.in1 (pyNext (.ref M) >>= _) _ _ _
    refine wpAny_bind (map_done (A := A.in1) (items := items) hh S hoi (S.get (j := 2) rfl) (S.get (j := 3) rfl) (lob_list hlk) hli fun h' S2 => ?_)
    exact wpAny_pure (k h' gs tk acc c new hg hacc (fun c p hp => hnew c p (by have := lt_of_get hp; rw [← hT.1] at this; omega) hp) (S2.drop (.cons_cons _ (.cons _ (.cons _ (.cons _ (List.Sublist.refl _)))))))
  | succ n ih =>
    intro i h gs tk oi acc c new hni hi hg hoi hacc hnew S
    have hlt : i < items.length := by (clear hn hd hh; lia)
    have nd := List.nodup_cons.mp S.nd
    have hne : ∀ p ∈ ((S', lob acc c) :: (M, mapO T q) :: (T, tob [.ref it]) :: (q, methodObj (.ref 89) (.ref 135)) :: (new ++ mu)), p.1 ≠ it := fun p hp e => nd.1 (List.mem_map.mpr ⟨p, hp, e⟩)
    have hgit : g.get? it = none := (S.N _ (.head _)).2.2
    have knne : ∀ {b o}, Kn g mu b o → b ≠ it := fun kn => kn.elim (fun e z => by rw [z, hgit] at e; cases e) fun m => hne (_, _) (.tail _ (.tail _ (.tail _ (.tail _ (List.mem_append_right _ m)))))
    have hlk : h.get? l = some (lob items nl) := S.kn (hl.mono fun p hp => by simp [hp])
    obtain ⟨p, hp⟩ : ∃ p, tr[i]? = some p := ⟨tr[i]'(by rw [← hT.1]; exact hlt), List.getElem?_eq_getElem (by rw [← hT.1]; exact hlt)⟩
    obtain ⟨tv, hv, htv⟩ := hT.2 i p hp
    have htvk : h.get? tv = some (tob [p.1, p.2.1, p.2.2]) := S.kn (htv.mono fun p hp => by simp [hp])
    refine codeAny_builtin F.entry_extend_loop ?_
    rw [Around.under_plainId F.plain_extend_loop _]
    show wpAny _ A.in1 (pyNext (.ref M) >>= _) _ _ _
    refine wpAny_bind (map_next (A := A.in1) (items := items) (j := 0) D S hd rfl hoi (S.get (j := 2) rfl) (S.get (j := 3) rfl) (lob_list hlk) (knne hl) (S.get (j := 4) rfl) (hne _ (.tail _ (.tail _ (.tail _ (.head _))))) hv htvk (knne htv) (hne _ (.tail _ (.head _))) (fun h2 gs2 tk2 t dd oi' hg2 hoi' S2 => ?_) hg)
    have hS := S2.get (j := 1) rfl
    show wpAny _ A.in1 (updateSeq S' (·.push (.ref t)) >>= _) _ _ _
    refine wpAny_bind ?_
    refine wpAny_updateSeq hS rfl ?_ (by rw [List.size_toArray, sizeLine_eq]; (clear hS htvk hv hp hlk hgit nd hi hni hd hh; lia)) (by rw [Array.size_push, List.size_toArray, sizeLine_eq]; (clear hS htvk hv hp hlk hgit nd hi hni hd hh; lia))
    obtain ⟨c', ho'⟩ := push_obj (.ref t) hS
    have S3 := S2.same (j := 1) rfl (Heap.SameBut.update ..) ho'
    refine wpAny_pure ⟨plainId_quiet F.plain_extend_loop _, ih (i + 1) _ gs2 tk2 oi' (acc ++ [.ref t]) c' ((t, mob dd [p.1, p.2.1, p.2.2]) :: (dd, emptyDict) :: new) (by (clear ho' hS htvk hv hp hlk hgit nd hi hn hd hh; lia)) hlt hg2 hoi' (by simp [hacc]) (fun c2 p2 hc2 hp2 => ?_) (S3.perm ?_)⟩
    · by_cases e : c2 < i
      · obtain ⟨t2, d2, h1, h2⟩ := hnew c2 p2 e hp2
        exact ⟨t2, d2, by rw [List.getElem?_append_left (lt_of_get h1)]; exact h1, by simp [h2]⟩
      · have e2 : c2 = i := by (clear hp2 ho' hS htvk hv hp hlk hgit nd hlt hi hni hn hd hh; lia)
        subst e2
        rw [hp] at hp2
        cases hp2
        exact ⟨t, dd, by rw [← hacc]; simp, .head _⟩
    · show List.Perm ((it, oi') :: (S', lob (acc ++ [.ref t]) c') :: (M, mapO T q) :: (T, tob [.ref it]) :: (q, methodObj (.ref 89) (.ref 135)) :: ((new ++ mu) ++ [(t, mob dd [p.1, p.2.1, p.2.2]), (dd, emptyDict)])) ((it, oi') :: (S', lob (acc ++ [.ref t]) c') :: (M, mapO T q) :: (T, tob [.ref it]) :: (q, methodObj (.ref 89) (.ref 135)) :: ([(t, mob dd [p.1, p.2.1, p.2.2]), (dd, emptyDict)] ++ (new ++ mu)))
      exact ((((List.perm_append_comm.cons _).cons _).cons _).cons _).cons _
end
end Mine
end
section
set_option Elab.async false
set_option maxRecDepth 100000
set_option linter.unusedVariables false
set_option maxHeartbeats 4000000
namespace Mine
open PySem PySem.W PySem.Calls PyProof.Rows PySem.Builtin
theorem entry_map_iter : entryFor table "map.__iter__" = some Builtin.«dict_keyiterator.__iter__» :=
  entryFor_alias (id' := "dict_keyiterator.__iter__") (by kernel_rfl) (by first | rfl | decide +kernel | (unfold String.splitOn; simp +decide [String.splitOnAux])) (by decide +kernel) (by kernel_rfl)
section
variable {w : World} {A : Around} {E : Value → Shared → Prop} {s s' : Shared} {mg mb : Str → Option Value} {g h : Heap} {gs : Array GenState} {tk : Nat} {dr : Drawn} {os : OsState} {items : List Value} {L : Addr} {nm : List Str} {ls : List (Option Value)} {mu : List (Addr × Obj)} {R : Result → Shared → Prop}
theorem map_self {M T q : Addr} {Q : Value → Shared → Prop} (hM : h.get? M = some (mapO T q)) (k : Q (.ref M) ⟨h, gs, dr, tk, os⟩) : wpAny (model prog w) A (pyIter (.ref M)) Q E ⟨h, gs, dr, tk, os⟩ := by
  refine wpAny_pyIter_slot (s := ⟨h, gs, dr, tk, os⟩) ⟨_, hM, rfl⟩ slot_map_iter (wpAny_call_entry slot_map_iter ⟨_, hM, rfl⟩ entry_map_iter ?_ (args_map_iter _))
  exact wpAny_pure ⟨_, rfl, "map", _, ⟨_, hM, rfl⟩, slot_map_next.lookup, k⟩
theorem list_map {M T it l q : Addr} {tr : List (Value × Value × Value)} {nl : Nat} {oi : Obj} {Q : Value → Shared → Prop} (D : Gd (K w.params) mg mb g) (hh : A.handled = none) (hd : A.depth < recursionLimit) (hg : AllBare gs) (hn : items.length ≤ 1000) (hT : Trip g mu items tr) (hl : Kn g mu l (lob items nl)) (hoi : IsIt oi l 0)
    (S : St g L h nm ls ((it, oi) :: (M, mapO T q) :: (T, tob [.ref it]) :: (q, methodObj (.ref 89) (.ref 135)) :: mu))
    (k : ∀ h' gs' tk' acc c new, AllBare gs' → acc.length = items.length → (∀ (c : Nat) (p : Value × Value × Value), tr[c]? = some p → ∃ t dd, acc[c]? = some (.ref t) ∧ (t, mob dd [p.1, p.2.1, p.2.2]) ∈ new) →
      St g L h' nm ls ((h.objs.size, lob acc c) :: (new ++ mu)) → Q (.ref h.objs.size) ⟨h', gs', dr, tk', os⟩) :
    wpAny (model prog w) A (call (.type "list") [.ref M]) Q E ⟨h, gs, dr, tk, os⟩ := by
  refine callType_codes (s := ⟨h, gs, dr, tk, os⟩) (Q₁ := fun obj s₁ => obj = .ref h.objs.size ∧ s₁ = ⟨h.push { cls := .type "list", data := .seq #[] }, gs, dr, tk, os⟩) F.called_list (F.typeCall_list_1 _) F.entry_list_init (code_list_new _ ⟨rfl, rfl⟩) fun obj s₁ h₁ => ?_
  obtain ⟨rfl, rfl⟩ := h₁
  have S1 := S.push (lob [] 0)
  have hS := S1.get (j := 0) rfl
  refine ⟨⟨_, hS, rfl⟩, F.args_list_init_2 _ _, ?_⟩
  show wpAny _ A.in1.in1 (do let old ← Builtin.List.listItems (.ref h.objs.size); Builtin.List.listUpdate (.ref h.objs.size) (fun _ => #[]); letGo old.toList.reverse; Builtin.List.listExtendWith (.ref h.objs.size) (.ref M) .none) _ _ _
  refine wpAny_bind (listItems_at hS rfl ?_)
  refine wpAny_bind (listUpdate_at hS rfl ?_ (by decide) (Nat.zero_le _))
  refine wpAny_bind (wpAny_letGo ?_)
  have e2 := get?_update_seq hS (fun _ => (#[] : Array Value))
  have S2 := S1.same (j := 0) rfl (Heap.SameBut.update ..) e2
  have hM2 := S2.get (j := 2) rfl
  have hne : h.objs.size ≠ M := Ne.symm (Nat.ne_of_lt (Heap.lt_size (S.get (j := 1) rfl)))
  unfold Builtin.List.listExtendWith
  refine wpAny_bind (wpAny_typeOf (T := "map") ⟨_, hM2, rfl⟩ ?_)
  have h1 : Builtin.List.listSameRef (.ref h.objs.size) (.ref M) = false := by simp [Builtin.List.listSameRef, hne]
  have h2 : (Value.type "map" == Value.type "list") = false := by decide
  have h3 : (Value.type "map" == Value.type "tuple") = false := by decide
  simp only [h1, h2, h3, Bool.or_false, Bool.false_eq_true, if_false]
  refine wpAny_bind (map_self hM2 ?_)
  refine wpAny_bind (wpAny_holding ?_)
  unfold Builtin.List.listLengthHint
  refine wpAny_bind (wpAny_specialOf (T := "map") ⟨_, hM2, rfl⟩ map_no_len ?_)
  show wpAny _ _ (specialOf (Value.ref M) (Str.ofString "__length_hint__") >>= _) _ _ _
  refine wpAny_bind (wpAny_specialOf (T := "map") ⟨_, hM2, rfl⟩ map_no_hint ?_)
  refine wpAny_pure ?_
  show wpAny _ _ (rule "list.extend.makes-room" >>= fun _ => Builtin.List.listTouch (.ref h.objs.size) >>= fun _ => again (.builtin "list.extend.loop" ⟨[.ref h.objs.size, .ref M, .none], []⟩)) _ _ _
  refine wpAny_bind (wpAny_rule ?_)
  refine wpAny_bind ?_
  show wpAny _ _ (updateSeq h.objs.size (·.push .none) >>= fun _ => updateSeq h.objs.size (·.pop)) _ _ _
  have hS2 := S2.get (j := 0) rfl
  refine wpAny_bind (wpAny_updateSeq hS2 rfl ?_ (by decide) (by decide))
  have e3 := get?_update_seq hS2 (fun a => a.push Value.none)
  have S3 := S2.same (j := 0) rfl (Heap.SameBut.update ..) e3
  have hS3 := S3.get (j := 0) rfl
  refine wpAny_updateSeq hS3 rfl ?_ (by decide) (by decide)
  have e4 := get?_update_seq hS3 (fun a => a.pop)
  have S4 := S3.same (j := 0) rfl (Heap.SameBut.update ..) e4
  have S5 := S4.perm (List.Perm.swap _ _ _)
  refine wpAny_pure ⟨plainId_quiet F.plain_extend_loop _, map_loop (A := A.in1) (it := it) (l := l) (q := q) (T := T) D hh hd hn hT hl (fun h' gs' tk' acc c new hg' hacc hnew S' => ⟨rfl, k h' gs' tk' acc c new hg' hacc hnew S'⟩) items.length 0 _ gs _ oi [] _ [] rfl (Nat.zero_le _) hg hoi rfl (fun c p hc => absurd hc (Nat.not_lt_zero _)) S5⟩
end
end Mine
end
section
set_option Elab.async false
set_option maxRecDepth 100000
set_option linter.unusedVariables false
set_option maxHeartbeats 8000000
namespace Mine
open PySem PySem.W PySem.Calls PyProof.Rows PySem.Builtin
noncomputable def QT (objs : List (Addr × Obj)) (qi : List Value) (Q : List Rg) : Prop := qi.length = Q.length ∧ ∀ (c : Nat) (r : Rg), Q[c]? = some r → ∃ tv k1 k2 k3 k4, qi[c]? = some (.ref tv) ∧ (tv, tob [.int r.1 k1, .int r.2.1 k2, .int r.2.2.1 k3, .int r.2.2.2 k4]) ∈ objs
noncomputable def BT (objs : List (Addr × Obj)) (bi : List Value) (ks : List Nat) : Prop := bi.length = ks.length ∧ ∀ (c k : Nat), ks[c]? = some k → ∃ t dd, ∃ i j : Int, ∃ ti tj tk, bi[c]? = some (.ref t) ∧ (t, mob dd [.int i ti, .int j tj, .int (k : Nat) tk]) ∈ objs
theorem QT.mono {objs objs' : List (Addr × Obj)} {qi : List Value} {Q : List Rg} (h : QT objs qi Q) (k : ∀ p ∈ objs, p ∈ objs') : QT objs' qi Q :=
  ⟨h.1, fun c r hr => let ⟨tv, k1, k2, k3, k4, e, m⟩ := h.2 c r hr; ⟨tv, k1, k2, k3, k4, e, k _ m⟩⟩
theorem BT.mono {objs objs' : List (Addr × Obj)} {bi : List Value} {ks : List Nat} (h : BT objs bi ks) (k : ∀ p ∈ objs, p ∈ objs') : BT objs' bi ks :=
  ⟨h.1, fun c r hr => let ⟨t, dd, i, j, ti, tj, tk, e, m⟩ := h.2 c r hr; ⟨t, dd, i, j, ti, tj, tk, e, k _ m⟩⟩
theorem QT.push {objs : List (Addr × Obj)} {qi : List Value} {Q : List Rg} {r : Rg} {tv : Addr} {k1 k2 k3 k4 : Tok} (h : QT objs qi Q) (m : (tv, tob [.int r.1 k1, .int r.2.1 k2, .int r.2.2.1 k3, .int r.2.2.2 k4]) ∈ objs) : QT objs (qi ++ [.ref tv]) (Q ++ [r]) := by
  refine ⟨by simp [h.1], fun c r' hr => ?_⟩
  rcases Nat.lt_or_ge c Q.length with hc | hc
  · rw [List.getElem?_append_left hc] at hr
    obtain ⟨tv', a, b, c', d, e, m'⟩ := h.2 c r' hr
    exact ⟨tv', a, b, c', d, by rw [List.getElem?_append_left (by rw [h.1]; exact hc)]; exact e, m'⟩
  · rw [List.getElem?_append_right hc] at hr
    have : c - Q.length = 0 := by
      rcases Nat.eq_zero_or_pos (c - Q.length) with e | e
      · exact e
      · rw [List.getElem?_eq_none (by simp; (clear hc hr; lia))] at hr; cases hr
    rw [this] at hr
    simp at hr
    subst hr
    exact ⟨tv, k1, k2, k3, k4, by rw [List.getElem?_append_right (by rw [h.1]; exact hc), h.1, this]; rfl, m⟩
theorem BT.push {objs : List (Addr × Obj)} {bi : List Value} {ks : List Nat} {k : Nat} {t dd : Addr} {i j : Int} {ti tj tk : Tok} (h : BT objs bi ks) (m : (t, mob dd [.int i ti, .int j tj, .int (k : Nat) tk]) ∈ objs) : BT objs (bi ++ [.ref t]) (ks ++ [k]) := by
  refine ⟨by simp [h.1], fun c k' hr => ?_⟩
  rcases Nat.lt_or_ge c ks.length with hc | hc
  · rw [List.getElem?_append_left hc] at hr
    obtain ⟨t', d', i', j', a1, a2, a3, e, m'⟩ := h.2 c k' hr
    exact ⟨t', d', i', j', a1, a2, a3, by rw [List.getElem?_append_left (by rw [h.1]; exact hc)]; exact e, m'⟩
  · rw [List.getElem?_append_right hc] at hr
    have : c - ks.length = 0 := by
      rcases Nat.eq_zero_or_pos (c - ks.length) with e | e
      · exact e
      · rw [List.getElem?_eq_none (by simp; (clear hc hr; lia))] at hr; cases hr
    rw [this] at hr
    simp at hr
    subst hr
    exact ⟨t, dd, i, j, ti, tj, tk, by rw [List.getElem?_append_right (by rw [h.1]; exact hc), h.1, this]; rfl, m⟩
theorem QT.pop {objs : List (Addr × Obj)} {qi : List Value} {Q : List Rg} {r : Rg} (h : QT objs qi (Q ++ [r])) : ∃ qi0 tv k1 k2 k3 k4, qi = qi0 ++ [.ref tv] ∧ QT objs qi0 Q ∧ (tv, tob [.int r.1 k1, .int r.2.1 k2, .int r.2.2.1 k3, .int r.2.2.2 k4]) ∈ objs := by
  obtain ⟨tv, k1, k2, k3, k4, e, m⟩ := h.2 Q.length r (by simp)
  have hl := h.1
  simp at hl
  have e2 : qi = qi.take Q.length ++ [.ref tv] := by
    have := take_succ_of e
    rw [← this, List.take_of_length_le (by lia)]
  refine ⟨qi.take Q.length, tv, k1, k2, k3, k4, e2, ⟨by simp; lia, fun c r' hr => ?_⟩, m⟩
  have hc := lt_of_get hr
  obtain ⟨tv', a, b, c', d, e', m'⟩ := h.2 c r' (by rw [List.getElem?_append_left hc]; exact hr)
  exact ⟨tv', a, b, c', d, by rw [List.getElem?_take_of_lt hc]; exact e', m'⟩
section
variable {w : World} {A : Around} {E : Value → Shared → Prop} {s s' : Shared} {mg mb : Str → Option Value} {G h g : Heap} {gs : Array GenState} {dr : Drawn} {tk : Nat} {os : OsState} {L a : Addr} {nm : List Str} {ls : List (Option Value)} {mu : List (Addr × Obj)}
theorem while_ {test : Expr} {body : List Stmt} {pos : Pos} {env : Env} {s : Shared} {Q : Flow → Shared → Prop} (I : Nat → Shared → Prop)
    (turn : ∀ n s, I n s → wpAny (model prog w) A (isTrue test env (eval test env)) (fun b s₂ => if b then wpAny (model prog w) A (execs body env) (fun f s₃ => match f with
      | .next | .cont => ∃ m, m < n ∧ I m s₃
      | .brk => Q .next s₃
      | .ret v => Q (.ret v) s₃) (fun _ _ => False) s₂ else Q .next s₂) (fun _ _ => False) s) (n : Nat) (h : I n s) : wpAny (model prog w) A (exec (.While test body [] pos) env) Q E s := by
  refine wpAny_While (codeAny_whileLoop I (fun n s' i => wpAny_mono (turn n s' i) (fun b s₂ hb => ?_) fun _ _ x => x.elim) n h)
  cases b with
  | true => rw [if_pos rfl] at hb ⊢; exact wpAny_mono hb (fun f s₃ hf => by cases f <;> exact hf) fun _ _ x => x.elim
  | false => rw [if_neg (by decide)] at hb ⊢; exact wpAny_execs_nil hb
theorem asg3 {q : Str} {sc : Scope} {cd : Value} {x1 x2 x3 : Str} {i1 i2 i3 : Nat} {p1 p2 p3 tp : Pos} {kk : Nat} {v1 v2 v3 : Value} {t dd : Addr} {P : Params} {Q : Unit → Shared → Prop} (S : St g L h nm ls mu) (hh : A.handled = none) (X : (K P).In h) (ht : h.get? t = some (mob dd [v1, v2, v3])) (V1 : Var sc nm x1 i1) (V2 : Var sc nm x2 i2) (V3 : Var sc nm x3 i3)
    (h1 : i1 < ls.length) (h2 : i2 < ls.length) (h3 : i3 < ls.length)
    (k : ∀ h' tk, St g L h' nm (((ls.set i1 (some v1)).set i2 (some v2)).set i3 (some v3)) mu → Q () ⟨h', gs, dr, tk, os⟩) :
    wpAny (model prog w) A (assign (.Tuple [.Name x1 p1, .Name x2 p2, .Name x3 p3] kk tp) (envOf q sc L a cd) (.ref t)) Q E ⟨h, gs, dr, tk, os⟩ := by
  rw [assign_Tuple]
  refine wpAny_bind (wpAny_standAt ?_)
  unfold unpack
  refine wpAny_bind (wpAny_holding (m_unpack3 hh X ht S fun h2 hs S2 => ?_))
  refine ord_cons (assign_Name (st_ S2 V1 (by assumption) fun h3 t3 S3 => ?_))
  refine ord_cons (assign_Name (st_ S3 V2 (by simp only [List.length_set]; assumption) fun h4 t4 S4 => ?_))
  refine ord_cons (assign_Name (st_ S4 V3 (by simp only [List.length_set]; assumption) fun h5 t5 S5 => ?_))
  exact ord_nil (k _ _ S5)
theorem asg4 {q : Str} {sc : Scope} {cd : Value} {x1 x2 x3 x4 : Str} {i1 i2 i3 i4 : Nat} {p1 p2 p3 p4 tp : Pos} {kk : Nat} {v1 v2 v3 v4 : Value} {t : Addr} {Q : Unit → Shared → Prop} (S : St g L h nm ls mu) (hh : A.handled = none) (ht : h.get? t = some (tob [v1, v2, v3, v4])) (V1 : Var sc nm x1 i1) (V2 : Var sc nm x2 i2) (V3 : Var sc nm x3 i3) (V4 : Var sc nm x4 i4)
    (h1 : i1 < ls.length) (h2 : i2 < ls.length) (h3 : i3 < ls.length) (h4 : i4 < ls.length)
    (k : ∀ h' tk, St g L h' nm ((((ls.set i1 (some v1)).set i2 (some v2)).set i3 (some v3)).set i4 (some v4)) mu → Q () ⟨h', gs, dr, tk, os⟩) :
    wpAny (model prog w) A (assign (.Tuple [.Name x1 p1, .Name x2 p2, .Name x3 p3, .Name x4 p4] kk tp) (envOf q sc L a cd) (.ref t)) Q E ⟨h, gs, dr, tk, os⟩ := by
  refine assign_Tuple_tuple (s := ⟨h, gs, dr, tk, os⟩) (items := #[v1, v2, v3, v4]) hh ⟨_, ht, rfl, 0, rfl⟩ rfl rfl fun h2 hx => ?_
  have S2 := S.re (S.F.extBut hx (Nat.le_refl _)) (S.N.extBut hx (Nat.le_refl _))
  refine ord_cons (assign_Name (st_ S2 V1 (by assumption) fun h3 t3 S3 => ?_))
  refine ord_cons (assign_Name (st_ S3 V2 (by simp only [List.length_set]; assumption) fun h4 t4 S4 => ?_))
  refine ord_cons (assign_Name (st_ S4 V3 (by simp only [List.length_set]; assumption) fun h5 t5 S5 => ?_))
  refine ord_cons (assign_Name (st_ S5 V4 (by simp only [List.length_set]; assumption) fun h6 t6 S6 => ?_))
  exact ord_nil (k _ _ S6)
end
end Mine
end
section
set_option Elab.async false
set_option maxRecDepth 100000
set_option linter.unusedVariables false
set_option maxHeartbeats 8000000
namespace Mine
open PySem PySem.W PySem.Calls PyProof.Rows PySem.Builtin
theorem perm_lift {α β : Type} {f : α → β} {l' m : List β} (h : l'.Perm m) : ∀ {l : List α}, m = l.map f → ∃ l'' : List α, l''.Perm l ∧ l''.map f = l' := by
  induction h with
  | nil => intro l e; exact ⟨[], by cases l with | nil => exact .nil | cons _ _ => simp at e, rfl⟩
  | cons x _ ih =>
    intro l e
    cases l with
    | nil => simp at e
    | cons a l =>
      simp only [List.map_cons, List.cons.injEq] at e
      obtain ⟨l'', h1, h2⟩ := ih e.2
      exact ⟨a :: l'', h1.cons _, by rw [List.map_cons, h2, e.1]⟩
  | swap x y l0 =>
    intro l e
    match l, e with
    | a :: b :: l, e =>
      simp only [List.map_cons, List.cons.injEq] at e
      exact ⟨b :: a :: l, List.Perm.swap _ _ _, by simp [e.1, e.2.1, e.2.2]⟩
  | trans _ _ ih1 ih2 =>
    intro l e
    obtain ⟨l2, h1, h2⟩ := ih2 e
    obtain ⟨l1, h3, h4⟩ := ih1 h2.symm
    exact ⟨l1, h3.trans h1, h4⟩
theorem BT.perm {objs : List (Addr × Obj)} {bi bi' : List Value} {ks : List Nat} (h : BT objs bi ks) (p : bi'.Perm bi) : ∃ ks', ks'.Perm ks ∧ BT objs bi' ks' := by
  have e : bi = (bi.zip ks).map (·.1) := by rw [List.map_fst_zip]; rw [h.1]; exact Nat.le_refl _
  obtain ⟨z, h1, h2⟩ := perm_lift p e
  have e2 : (bi.zip ks).map (·.2) = ks := by rw [List.map_snd_zip]; rw [h.1]; exact Nat.le_refl _
  refine ⟨z.map (·.2), by have := h1.map (·.2); rw [e2] at this; exact this, by rw [← h2]; simp, fun c k hk => ?_⟩
  rw [List.getElem?_map] at hk
  obtain ⟨q, hq, rfl⟩ := Option.map_eq_some_iff.mp hk
  have hm : q ∈ bi.zip ks := h1.mem_iff.mp (List.mem_of_getElem? hq)
  obtain ⟨i, hi⟩ := List.getElem?_of_mem hm
  rw [List.getElem?_zip_eq_some] at hi
  obtain ⟨t, dd, i', j', ti, tj, tk, e3, m⟩ := h.2 i q.2 hi.2
  refine ⟨t, dd, i', j', ti, tj, tk, ?_, m⟩
  rw [← h2, List.getElem?_map, hq]
  rw [hi.1] at e3
  simpa using e3
structure NT (objs : List (Addr × Obj)) (ni : List Value) (tr : List (Value × Value × Value)) (kz : List Nat) : Prop where
  len : ni.length = tr.length
  lk : tr.length = kz.length
  at_ : ∀ (c : Nat) (p : Value × Value × Value), tr[c]? = some p → ∃ tv, ni[c]? = some (.ref tv) ∧ (tv, tob [p.1, p.2.1, p.2.2]) ∈ objs
  sz : ∀ (c : Nat) (p : Value × Value × Value) (k : Nat), tr[c]? = some p → kz[c]? = some k → ∃ i j : Int, ∃ ti tj tk, p = (.int i ti, .int j tj, .int (k : Nat) tk)
theorem NT.nil {objs : List (Addr × Obj)} : NT objs [] [] [] := ⟨rfl, rfl, fun c p h => by simp at h, fun c p k h => by simp at h⟩
theorem NT.mono {objs objs' : List (Addr × Obj)} {ni : List Value} {tr : List (Value × Value × Value)} {kz : List Nat} (h : NT objs ni tr kz) (k : ∀ p ∈ objs, p ∈ objs') : NT objs' ni tr kz :=
  ⟨h.len, h.lk, fun c p hp => let ⟨tv, e, m⟩ := h.at_ c p hp; ⟨tv, e, k _ m⟩, h.sz⟩
theorem get_snoc {α : Type} {l : List α} {x y : α} {c : Nat} (h : (l ++ [x])[c]? = some y) : (c < l.length ∧ l[c]? = some y) ∨ (c = l.length ∧ x = y) := by
  rcases Nat.lt_or_ge c l.length with hc | hc
  · rw [List.getElem?_append_left hc] at h; exact .inl ⟨hc, h⟩
  · rw [List.getElem?_append_right hc] at h
    rcases Nat.eq_zero_or_pos (c - l.length) with e | e
    · rw [e] at h; exact .inr ⟨by lia, by simpa using h⟩
    · rw [List.getElem?_eq_none (by simp; (clear hc h; lia))] at h; cases h
theorem NT.push {objs : List (Addr × Obj)} {ni : List Value} {tr : List (Value × Value × Value)} {kz : List Nat} {tv : Addr} {i j : Int} {k : Nat} {ti tj tk : Tok} (h : NT objs ni tr kz) (m : (tv, tob [.int i ti, .int j tj, .int (k : Nat) tk]) ∈ objs) :
    NT objs (ni ++ [.ref tv]) (tr ++ [(.int i ti, .int j tj, .int (k : Nat) tk)]) (kz ++ [k]) := by
  refine ⟨by simp [h.len], by simp [h.lk], fun c p hp => ?_, fun c p k' hp hk => ?_⟩
  · rcases get_snoc hp with ⟨hc, hp⟩ | ⟨rfl, rfl⟩
    · obtain ⟨tv', e, m'⟩ := h.at_ c p hp
      exact ⟨tv', by rw [List.getElem?_append_left (lt_of_get e)]; exact e, m'⟩
    · exact ⟨tv, by rw [← h.len]; simp, m⟩
  · rcases get_snoc hp with ⟨hc, hp⟩ | ⟨rfl, rfl⟩
    · rcases get_snoc hk with ⟨_, hk⟩ | ⟨hc', _⟩
      · exact h.sz c p k' hp hk
      · rw [h.lk] at hc; lia
    · rcases get_snoc hk with ⟨hc', hk⟩ | ⟨_, rfl⟩
      · rw [h.lk] at hc'; lia
      · exact ⟨i, j, ti, tj, tk, rfl⟩
end Mine
end
section
set_option Elab.async false
set_option maxRecDepth 100000
set_option linter.unusedVariables false
set_option maxHeartbeats 8000000
namespace Mine
open PySem PySem.W PySem.Calls PyProof.Rows PySem.Builtin
section
variable {w : World} {A : Around} {E : Value → Shared → Prop} {s s' : Shared} {mg mb : Str → Option Value} {G h g : Heap} {gs : Array GenState} {dr : Drawn} {tk : Nat} {os : OsState} {L a : Addr} {nm : List Str} {ls : List (Option Value)} {mu : List (Addr × Obj)}
theorem pm4 {α : Type} (a b c e : α) (l : List α) : (a :: b :: c :: e :: l).Perm (b :: c :: e :: a :: l) := (List.Perm.swap _ _ _).trans (((List.Perm.swap _ _ _).trans ((List.Perm.swap _ _ _).cons _)).cons _)
theorem ldN_ {q : Str} {sc : Scope} {cd : Value} {x : Str} {i : Nat} {v : Value} {Q : Value → Shared → Prop} (S : St g L h nm ls mu) (V : Var sc nm x i) (hv : ls[i]? = some (some v)) (k : Q v ⟨h, gs, dr, tk, os⟩) :
    wpAny (model prog w) A (loadName (envOf q sc L a cd) x) Q E ⟨h, gs, dr, tk, os⟩ :=
  ldn (s := ⟨h, gs, dr, tk, os⟩) S.F (look_get V.nd V.place hv) k V.fn V.kind
inductive GJ1 (s : Shared) (m : Addr) (d : Addr) (xs : List Int) (ys : List Int) (od : Obj) (L : Addr) (k3 : Tok) (k5 : Tok) (h3 : Heap) (h5 : Heap) (s' : Shared) : Prop
  | mk (h' gs' tk' bi nb objs ks nq x5 x6 x7 x8 x9 x10 x11 x12) (q0 : s' = ⟨h', gs', s.drawn, tk', s.os⟩) (q1 : AllBare gs') (q2 : St (hideAll s.heap [d]) L h' nm_gmb [some (.ref m), some (.int xs.length k3), some (.int ys.length k5), some (.ref h3.objs.size), some (.ref h5.objs.size), x5, x6, x7, x8, x9, x10, x11, x12, none, none, none, none, none, none, none] ((h3.objs.size, lob [] nq) :: (h5.objs.size, lob bi nb) :: (d, od) :: objs)) (q3 : QI xs ys [] ks) (q4 : BT objs bi ks) : GJ1 s m d xs ys od L k3 k5 h3 h5 s'
inductive GJ2 (s : Shared) (m : Addr) (d : Addr) (xs : List Int) (ys : List Int) (od : Obj) (L : Addr) (k3 : Tok) (k5 : Tok) (h3 : Heap) (h5 : Heap) (n : Nat) (s' : Shared) : Prop
  | mk (h' gs' tk' qi nq bi nb objs Q ks x5 x6 x7 x8 x9 x10 x11 x12) (q0 : s' = ⟨h', gs', s.drawn, tk', s.os⟩) (q1 : AllBare gs') (q2 : St (hideAll s.heap [d]) L h' nm_gmb [some (.ref m), some (.int xs.length k3), some (.int ys.length k5), some (.ref h3.objs.size), some (.ref h5.objs.size), x5, x6, x7, x8, x9, x10, x11, x12, none, none, none, none, none, none, none] ((h3.objs.size, lob qi nq) :: (h5.objs.size, lob bi nb) :: (d, od) :: objs)) (q3 : QI xs ys Q ks) (q4 : QT objs qi Q) (q5 : BT objs bi ks) (q6 : n = mq Q) : GJ2 s m d xs ys od L k3 k5 h3 h5 n s'
inductive GJ3 (s : Shared) (m : Addr) (d : Addr) (xs : List Int) (ys : List Int) (od : Obj) (L : Addr) (nb : Nat) (k3 : Tok) (k5 : Tok) (h3 : Heap) (h5 : Heap) (bi : List Value) (Q0 : List Rg) (qi0 : List Value) (c1 : Tok) (c2 : Tok) (c3 : Tok) (c4 : Tok) (alo : Nat) (ahi : Nat) (blo : Nat) (bhi : Nat) (gs12 : Array GenState) (t : Addr) (i : Nat) (j : Nat) (k : Nat) (ti : Tok) (tj : Tok) (tk' : Tok) (ob1 : List (Addr × Obj)) (s' : Shared) : Prop
  | mk (h' tkz qi' nq' ob') (q0 : s' = ⟨h', gs12, s.drawn, tkz, s.os⟩) (q1 : St (hideAll s.heap [d]) L h' nm_gmb [some (.ref m), some (.int xs.length k3), some (.int ys.length k5), some (.ref h3.objs.size), some (.ref h5.objs.size), some (.int alo c1), some (.int ahi c2), some (.int blo c3), some (.int bhi c4), some (.int i ti), some (.int j tj), some (.int k tk'), some (.ref t), none, none, none, none, none, none, none] ((h3.objs.size, lob qi' nq') :: (h5.objs.size, lob (bi ++ [.ref t]) (nb + 1)) :: (d, od) :: ob')) (q2 : qi'.length ≤ qi0.length + 1) (q3 : QT ob' qi' (Q0 ++ if alo < i ∧ blo < j then [(alo, i, blo, j)] else [])) (q4 : ∀ p ∈ ob1, p ∈ ob') : GJ3 s m d xs ys od L nb k3 k5 h3 h5 bi Q0 qi0 c1 c2 c3 c4 alo ahi blo bhi gs12 t i j k ti tj tk' ob1 s'
inductive GJ4 (s : Shared) (m : Addr) (d : Addr) (xs : List Int) (ys : List Int) (od : Obj) (L : Addr) (nb : Nat) (k3 : Tok) (k5 : Tok) (h3 : Heap) (h5 : Heap) (bi : List Value) (Q0 : List Rg) (c1 : Tok) (c2 : Tok) (c3 : Tok) (c4 : Tok) (alo : Nat) (ahi : Nat) (blo : Nat) (bhi : Nat) (gs12 : Array GenState) (t : Addr) (i : Nat) (j : Nat) (k : Nat) (ti : Tok) (tj : Tok) (tk' : Tok) (ob1 : List (Addr × Obj)) (s' : Shared) : Prop
  | mk (h' tkz qi' nq' ob') (q0 : s' = ⟨h', gs12, s.drawn, tkz, s.os⟩) (q1 : St (hideAll s.heap [d]) L h' nm_gmb [some (.ref m), some (.int xs.length k3), some (.int ys.length k5), some (.ref h3.objs.size), some (.ref h5.objs.size), some (.int alo c1), some (.int ahi c2), some (.int blo c3), some (.int bhi c4), some (.int i ti), some (.int j tj), some (.int k tk'), some (.ref t), none, none, none, none, none, none, none] ((h3.objs.size, lob qi' nq') :: (h5.objs.size, lob (bi ++ [.ref t]) (nb + 1)) :: (d, od) :: ob')) (q2 : QT ob' qi' (Q0 ++ kids alo ahi blo bhi i j k)) (q3 : ∀ p ∈ ob1, p ∈ ob') : GJ4 s m d xs ys od L nb k3 k5 h3 h5 bi Q0 c1 c2 c3 c4 alo ahi blo bhi gs12 t i j k ti tj tk' ob1 s'
inductive GJ5 (s : Shared) (m : Addr) (d : Addr) (xs : List Int) (ys : List Int) (od : Obj) (L : Addr) (k3 : Tok) (k5 : Tok) (h3 : Heap) (h5 : Heap) (ks : List Nat) (x5 : Option Value) (x6 : Option Value) (x7 : Option Value) (x8 : Option Value) (x9 : Option Value) (x10 : Option Value) (x11 : Option Value) (x12 : Option Value) (bi' : List Value) (nb' : Nat) (h14 : Heap) (s' : Shared) : Prop
  | mk (h' gs' tkz ni nn) (i1 j1 : Int) (k1 : Nat) (a1 a2 a3 ob tr kz x17 x18 x19) (q0 : s' = ⟨h', gs', s.drawn, tkz, s.os⟩) (q1 : AllBare gs') (q2 : St (hideAll s.heap [d]) L h' nm_gmb [some (.ref m), some (.int xs.length k3), some (.int ys.length k5), some (.ref h3.objs.size), some (.ref h5.objs.size), x5, x6, x7, x8, x9, x10, x11, x12, some (.int i1 a1), some (.int j1 a2), some (.int (k1 : Nat) a3), some (.ref h14.objs.size), x17, x18, x19] ((h14.objs.size, lob ni nn) :: (h5.objs.size, lob bi' nb') :: (d, od) :: ob)) (q3 : NT ob ni tr kz) (q4 : kz.sum + k1 = ks.sum) (q5 : ni.length ≤ 200) : GJ5 s m d xs ys od L k3 k5 h3 h5 ks x5 x6 x7 x8 x9 x10 x11 x12 bi' nb' h14 s'
inductive GJ6 (m : Addr) (d : Addr) (xs : List Int) (ys : List Int) (od : Obj) (k3 : Tok) (k5 : Tok) (h3 : Heap) (h5 : Heap) (objs : List (Addr × Obj)) (x5 : Option Value) (x6 : Option Value) (x7 : Option Value) (x8 : Option Value) (x9 : Option Value) (x10 : Option Value) (x11 : Option Value) (x12 : Option Value) (bi' : List Value) (nb' : Nat) (ks' : List Nat) (h14 : Heap) (c : Nat) (ls : List (Option Value)) (mu : List (Addr × Obj)) : Prop
  | mk (ni nn) (i1 j1 : Int) (k1 : Nat) (a1 a2 a3 ob tr kz x17 x18 x19) (q0 : ls = [some (.ref m), some (.int xs.length k3), some (.int ys.length k5), some (.ref h3.objs.size), some (.ref h5.objs.size), x5, x6, x7, x8, x9, x10, x11, x12, some (.int i1 a1), some (.int j1 a2), some (.int (k1 : Nat) a3), some (.ref h14.objs.size), x17, x18, x19]) (q1 : mu = ((h14.objs.size, lob ni nn) :: (h5.objs.size, lob bi' nb') :: (d, od) :: ob)) (q2 : NT ob ni tr kz) (q3 : kz.sum + k1 = (ks'.take c).sum) (q4 : ni.length ≤ c) (q5 : ∀ p ∈ objs, p ∈ ob) : GJ6 m d xs ys od k3 k5 h3 h5 objs x5 x6 x7 x8 x9 x10 x11 x12 bi' nb' ks' h14 c ls mu
inductive GJ7 (s : Shared) (m : Addr) (d : Addr) (xs : List Int) (ys : List Int) (od : Obj) (L : Addr) (tk : Tok) (k1 : Nat) (k3 : Tok) (k5 : Tok) (h3 : Heap) (h5 : Heap) (objs : List (Addr × Obj)) (x5 : Option Value) (x6 : Option Value) (x7 : Option Value) (x8 : Option Value) (x9 : Option Value) (x10 : Option Value) (x11 : Option Value) (x12 : Option Value) (bi' : List Value) (nb' : Nat) (h14 : Heap) (c : Nat) (own : List (Addr × Obj)) (gs17 : Array GenState) (i1 : Int) (j1 : Int) (a1 : Tok) (a2 : Tok) (a3 : Tok) (kz : List Nat) (k2 : Nat) (i2 : Int) (j2 : Int) (ti : Tok) (tj : Tok) (s' : Shared) : Prop
  | mk (h' tkz ni' nn' ob' tr' kz') (q0 : s' = ⟨h', gs17, s.drawn, tkz, s.os⟩) (q1 : St (hideAll s.heap [d]) L h' nm_gmb [some (.ref m), some (.int xs.length k3), some (.int ys.length k5), some (.ref h3.objs.size), some (.ref h5.objs.size), x5, x6, x7, x8, x9, x10, x11, x12, some (.int i1 a1), some (.int j1 a2), some (.int (k1 : Nat) a3), some (.ref h14.objs.size), some (.int i2 ti), some (.int j2 tj), some (.int (k2 : Nat) tk)] (((h14.objs.size, lob ni' nn') :: (h5.objs.size, lob bi' nb') :: (d, od) :: ob') ++ own)) (q2 : NT ob' ni' tr' kz') (q3 : kz'.sum = kz.sum + k1) (q4 : ni'.length ≤ c + 1) (q5 : ∀ p ∈ objs, p ∈ ob') : GJ7 s m d xs ys od L tk k1 k3 k5 h3 h5 objs x5 x6 x7 x8 x9 x10 x11 x12 bi' nb' h14 c own gs17 i1 j1 a1 a2 a3 kz k2 i2 j2 ti tj s'
inductive GJ8 (s : Shared) (m : Addr) (d : Addr) (xs : List Int) (ys : List Int) (od : Obj) (L : Addr) (k1 : Nat) (k3 : Tok) (k5 : Tok) (h3 : Heap) (h5 : Heap) (ks : List Nat) (x5 : Option Value) (x6 : Option Value) (x7 : Option Value) (x8 : Option Value) (x9 : Option Value) (x10 : Option Value) (x11 : Option Value) (x12 : Option Value) (bi' : List Value) (nb' : Nat) (h14 : Heap) (gs17 : Array GenState) (i1 : Int) (j1 : Int) (a1 : Tok) (a2 : Tok) (a3 : Tok) (x17 : Option Value) (x18 : Option Value) (x19 : Option Value) (s' : Shared) : Prop
  | mk (h' tkz ni' nn' ob' tr' kz') (q0 : s' = ⟨h', gs17, s.drawn, tkz, s.os⟩) (q1 : St (hideAll s.heap [d]) L h' nm_gmb [some (.ref m), some (.int xs.length k3), some (.int ys.length k5), some (.ref h3.objs.size), some (.ref h5.objs.size), x5, x6, x7, x8, x9, x10, x11, x12, some (.int i1 a1), some (.int j1 a2), some (.int (k1 : Nat) a3), some (.ref h14.objs.size), x17, x18, x19] ((h14.objs.size, lob ni' nn') :: (h5.objs.size, lob bi' nb') :: (d, od) :: ob')) (q2 : NT ob' ni' tr' kz') (q3 : kz'.sum = ks.sum) (q4 : ni'.length ≤ 201) : GJ8 s m d xs ys od L k1 k3 k5 h3 h5 ks x5 x6 x7 x8 x9 x10 x11 x12 bi' nb' h14 gs17 i1 j1 a1 a2 a3 x17 x18 x19 s'
theorem gmb_spec {m d la lb : Addr} {vs : List Value} {xs ys : List Int} {R : Rel} (X : Gr w mg mb G d A s 6) (hgs : AllBare s.gens) (M : MA w R m d vs (some (la, xs)) (some (lb, ys)) s) (hmin : xs.length < 64 ∨ ys.length < 64) (hu : A.units + 8 < cLine) :
    codeAny (model prog w) A (.call (.ref 203) ⟨[.ref m], []⟩) (Ret [d] s fun v s' => ∃ p vs' o' new, v = .ref p ∧ s'.heap.get? d = some o' ∧ IV w.params an vs' o' ∧ Fresh s s' new ∧ MS prog w (R.and new) vs' (some (la, xs)) (some (lb, ys)) ∧ MBs (R.and new) p xs ys) s := by
  obtain ⟨od, hd, I⟩ := M.hd
  have H := M.hS
  have hm := M.hm
  have hR := M.hR
  have hA := X.hA
  have hdep := X.dep
  refine enterP ps_gmb os_gmb [.ref m] [(d, od)] (fn_gmb _) (X.D.keeps X.sub) (by (clear hA hd hu hmin; lia)) (b_gmb _ _ _) rfl p_gmb (nm := nm_gmb) rfl (fun p hp => by rw [List.mem_singleton.mp hp]; exact hd) (by simp) ?_
  intro Po hPo L h₁ tk S hL
  have Dg := X.gd
  have old := hide_old hR
  have hlen := H.len
  have big := X.big
  obtain ⟨e1, ⟨ia, na, hao, hai⟩, hxl⟩ := H.a
  obtain ⟨e2, ⟨ib, nb, hbo, hbi⟩, hyl, h7, h6⟩ := H.b
  refine wpAny_execs_cons (wpAny_Expr (cStr fun k1 t1 => ?_))
  refine wpAny_execs_cons (wpAny_If (wpAny_isTrue_Compare1 (at1 (ld_ S v_gmb_self rfl ?_))))
  rcases H.mb with h4 | ⟨l0, xs0, l1, ys0, p, ea, eb, h4, hMB⟩
  rotate_left
  · refine getV (Dg.k.keeps S.F.keep) (pl _) (at_mb _).at (S.old (old _ _ hm)) (S.get (j := 0) rfl) I h4 rfl fun t2 => ?_
    refine Constant_none (wpAny_isNot_other rfl (by intro z; cases z) (wpAny_truthy_bool ?_))
    rw [if_pos rfl]
    refine wpAny_execs_cons (wpAny_Return_some (at1 (ld_ S v_gmb_self rfl ?_)))
    refine getV (Dg.k.keeps S.F.keep) (pl _) (at_mb _).at (S.old (old _ _ hm)) (S.get (j := 0) rfl) I h4 rfl fun t3 => ?_
    cases ea
    cases eb
    exact hPo _ _ (S.mod (t := 0) hL id rfl rfl rfl) ⟨p, vs, od, [], rfl, S.get (j := 0) rfl, I, Fresh.nil, H.mono fun b o e => .inl e, hMB.mono fun b o e => .inl e⟩
  refine getV (Dg.k.keeps S.F.keep) (pl _) (at_mb _).at (S.old (old _ _ hm)) (S.get (j := 0) rfl) I h4 rfl fun t2 => ?_
  refine Constant_none (wpAny_isNot_self rfl (wpAny_truthy_bool ?_))
  rw [if_neg (by decide)]
  refine wpAny_execs_nil ?_
  refine wpAny_execs_cons (Assign_Tuple_swapped (names := [Str.ofString "la", Str.ofString "lb"]) (Tuple_ (arg_ (Call_ (lb_ S Dg g_gmb_len (bn_len _) (cB (arg_ (at1 (ld_ S v_gmb_self rfl ?_)))))))) (hw := by kernel_rfl))
  refine getV (Dg.k.keeps S.F.keep) (pl _) (at_a _).at (S.old (old _ _ hm)) (S.get (j := 0) rfl) I e1 rfl fun t2 => ?_
  refine arg0 (len_ (lob_list (S.old (old _ _ hao))) (by rw [hai.length]; (clear h4 h6 hyl e2 e1 big hlen hL hdep hA hd hu hmin; lia)) fun k3 t3 => ?_)
  refine arg_ (Call_ (lb_ S Dg g_gmb_len (bn_len _) (cB (arg_ (at1 (ld_ S v_gmb_self rfl ?_))))))
  refine getV (Dg.k.keeps S.F.keep) (pl _) (at_b _).at (S.old (old _ _ hm)) (S.get (j := 0) rfl) I e2 rfl fun t4 => ?_
  refine arg0 (len_ (lob_list (S.old (old _ _ hbo))) (by rw [hbi.length]; (clear h4 h6 e2 hxl e1 big hlen hL hdep hA hd hu hmin; lia)) fun k5 t5 => ?_)
  rw [hai.length, hbi.length]
  refine arg0 (tup2 S (by exact hA) v_gmb_la v_gmb_lb (Nat.le_of_ble_eq_true rfl) (Nat.le_of_ble_eq_true rfl) fun h2 t6 S2 => ?_)
  refine wpAny_execs_cons (asgN (List_ (arg_ (Tuple_ (arg_ (cInt fun k7 t7 => arg_ (ld_ S2 v_gmb_la rfl (arg_ (cInt fun k8 t8 => arg_ (ld_ S2 v_gmb_lb rfl (arg0 (newT S2 (by simp) fun h3 S3 => arg0 (newL S3 (by simp) fun h4 S4 => ?_)))))))))))))
  refine st_ S4 v_gmb_queue (Nat.le_of_ble_eq_true rfl) fun h5 t9 S5 => ?_
  refine wpAny_execs_cons (asgN (List_ (arg0 (newL S5 (by simp) fun h6 S6 => st_ S6 v_gmb_matching_blocks (Nat.le_of_ble_eq_true rfl) fun h7 t10 S7 => ?_))))
  have S8 := S7.perm (mu' := (h3.objs.size, lob [.ref h2.objs.size] 0) :: (h5.objs.size, lob [] 0) :: (d, od) :: [(h2.objs.size, tob [.int 0 k7, .int xs.length k3, .int 0 k8, .int ys.length k5])]) ((List.Perm.swap _ _ _).trans (((List.Perm.swap _ _ _).cons _).cons _))
  replace S8 : St (hideAll s.heap [d]) L h7 nm_gmb [some (.ref m), some (.int xs.length k3), some (.int ys.length k5), some (.ref h3.objs.size), some (.ref h5.objs.size), none, none, none, none, none, none, none, none, none, none, none, none, none, none, none] _ := S8
  refine join (GJ1 s m d xs ys od L k3 k5 h3 h5) ?_ ?_
  · intro I' hI
    refine while_ (GJ2 s m d xs ys od L k3 k5 h3 h5) ?_ (mq [(0, xs.length, 0, ys.length)]) ?_
    · rintro n _ ⟨h8, gs8, tk8, qi, nq, bi, nb, objs, Q, ks, x5, x6, x7, x8, x9, x10, x11, x12, rfl, hg8, S9, hQI, hQT, hBT, rfl⟩
      have hql : qi.length ≤ 400 := by have := hQI.me; have := mq_len Q; have := hQT.1; (clear hyl e2 e1 big hlen hL hdep hA hd hu hmin; lia)
      refine isTrue_plain (ld_ S9 v_gmb_queue rfl (wpAny_truthy_list (lob_list (S9.get (j := 0) rfl)) (by rw [List.size_toArray]; (clear hyl e2 hxl e1 big hlen hL hdep hA hd hu hmin; lia)) ?_))
      rcases List.eq_nil_or_concat Q with rfl | ⟨Q0, r, rfl⟩
      · have : qi = [] := List.length_eq_zero_iff.mp hQT.1
        subst this
        rw [if_neg (by decide)]
        exact ⟨rfl, hI _ ⟨h8, gs8, _, bi, nb, objs, ks, nq, x5, x6, x7, x8, x9, x10, x11, x12, rfl, hg8, S9, hQI, hBT⟩⟩
      rw [List.concat_eq_append] at hQI hQT ⊢
      obtain ⟨qi0, tv, c1, c2, c3, c4, rfl, hQT0, htv⟩ := hQT.pop
      obtain ⟨alo, ahi, blo, bhi⟩ := r
      dsimp only at htv
      rw [if_pos (by simp)]
      obtain ⟨b1, b2, b3, b4⟩ := hQI.bd (alo, ahi, blo, bhi) (by simp)
      dsimp only at b1 b2 b3 b4
      have hfew := hQI.few
      obtain ⟨jt, hjt⟩ := List.getElem?_of_mem htv
      refine wpAny_execs_cons (Assign_Tuple (MethodCall_ (ld_ S9 v_gmb_queue rfl (mL PySem.F.slot_list_pop PySem.F.type_list_pop (S9.get (j := 0) rfl) (callWith_method0 (pop_ (j := 0) S9 rfl (by simp at hql; (clear hjt hfew b4 b3 b2 b1 hyl e2 hxl e1 big hlen hL hdep hA hd hu hmin; lia)) fun h10 S10 => ?_))))) (hw := by kernel_rfl))
      have S10' : St (hideAll s.heap [d]) L h10 nm_gmb _ ((h3.objs.size, lob qi0 (nq + 1)) :: (h5.objs.size, lob bi nb) :: (d, od) :: objs) := S10
      refine asg4 S10' (by exact hA) (S10'.get (j := jt + 3) hjt) v_gmb_alo v_gmb_ahi v_gmb_blo v_gmb_bhi (Nat.le_of_ble_eq_true rfl) (Nat.le_of_ble_eq_true rfl) (Nat.le_of_ble_eq_true rfl) (Nat.le_of_ble_eq_true rfl) fun h11 t11 S11 => ?_
      refine wpAny_execs_cons (wpAny_Assign_two (MethodCall_ (ld_ S11 v_gmb_self rfl (methV (Dg.k.keeps S11.F.keep) (pl _) (me_flm _) (S11.old (old _ _ hm)) (S11.get (j := 2) rfl) I (cMn (fn_flm _) (arg_ (ld_ S11 v_gmb_alo rfl (arg_ (ld_ S11 v_gmb_ahi rfl (arg_ (ld_ S11 v_gmb_blo rfl (arg_ (ld_ S11 v_gmb_bhi rfl (arg0 ⟨Dg.k.keeps S11.F.keep, ?_⟩))))))))))))))
      have MA11 : MA w R m d vs (some (la, xs)) (some (lb, ys)) ⟨h11, gs8, s.drawn, t11, s.os⟩ := ⟨hm, ⟨od, S11.get (j := 2) rfl, I⟩, fun b o e => ⟨S11.old (old _ _ e), (hR _ _ e).2⟩, H⟩
      refine callS (flm_spec (Dg.keeps S11.F.keep) hA (by show A.depth + 1 + 4 < _; (clear hjt hfew b4 b3 b2 b1 hql hyl e2 hxl e1 big hlen hL hA hd hu hmin; lia)) (Nat.lt_of_lt_of_le big (Nat.le_trans hL (Nat.le_of_lt S11.F.ns.lt))) hg8 MA11 b1 b2 b3 b4) fun v h12 gs12 t12 M12 hv => ?_
      obtain ⟨t, dd, i, j, k, ti, tj, tk', rfl, Fr, B⟩ := hv
      have S12 := St.grow (s := ⟨h11, gs8, s.drawn, t11, s.os⟩) S11 (S11.call0 (s := ⟨h11, gs8, s.drawn, t11, s.os⟩) (s' := ⟨h12, gs12, s.drawn, t12, s.os⟩) M12) rfl (fun p hp => ⟨Fr.here p hp, Fr.not p hp⟩) Fr.nd
      have hg12 := M12.gens hg8
      replace S12 : St (hideAll s.heap [d]) L h12 nm_gmb [some (.ref m), some (.int xs.length k3), some (.int ys.length k5), some (.ref h3.objs.size), some (.ref h5.objs.size), some (.int alo c1), some (.int ahi c2), some (.int blo c3), some (.int bhi c4), x9, x10, x11, x12, none, none, none, none, none, none, none] ((h3.objs.size, lob qi0 (nq + 1)) :: (h5.objs.size, lob bi nb) :: (d, od) :: (objs ++ [(t, mob dd [.int i ti, .int j tj, .int k tk']), (dd, emptyDict)])) := S12
      have tmem : (t, mob dd [.int i ti, .int j tj, .int k tk']) ∈ (objs ++ [(t, mob dd [.int i ti, .int j tj, .int k tk']), (dd, emptyDict)]) := by simp
      obtain ⟨jm, hjm⟩ := List.getElem?_of_mem tmem
      refine asg3 S12 (by exact hA) (Dg.k.keeps S12.F.keep) (S12.get (j := jm + 3) hjm) v_gmb_i v_gmb_j v_gmb_k (Nat.le_of_ble_eq_true rfl) (Nat.le_of_ble_eq_true rfl) (Nat.le_of_ble_eq_true rfl) fun h13 t13 S13 => ?_
      refine asN (st_ S13 v_gmb_x (Nat.le_of_ble_eq_true rfl) fun h14 t14 S14 => ?_)
      replace S14 : St (hideAll s.heap [d]) L h14 nm_gmb [some (.ref m), some (.int xs.length k3), some (.int ys.length k5), some (.ref h3.objs.size), some (.ref h5.objs.size), some (.int alo c1), some (.int ahi c2), some (.int blo c3), some (.int bhi c4), some (.int i ti), some (.int j tj), some (.int k tk'), some (.ref t), none, none, none, none, none, none, none] ((h3.objs.size, lob qi0 (nq + 1)) :: (h5.objs.size, lob bi nb) :: (d, od) :: (objs ++ [(t, mob dd [.int i ti, .int j tj, .int k tk']), (dd, emptyDict)])) := S14
      refine wpAny_execs_cons (wpAny_If (isTrue_plain (ld_ S14 v_gmb_k rfl (truthy_int ?_))))
      have hBT1 := hBT.mono (objs' := objs ++ [(t, mob dd [.int i ti, .int j tj, .int k tk']), (dd, emptyDict)]) fun p hp => List.mem_append_left _ hp
      have hQT1 := hQT0.mono (objs' := objs ++ [(t, mob dd [.int i ti, .int j tj, .int k tk']), (dd, emptyDict)]) fun p hp => List.mem_append_left _ hp
      have hbl : bi.length ≤ 199 := by rw [hBT.1]; (clear hjm hjt b4 b3 b2 b1 hql hyl e2 e1 big hlen hL hdep hA hd hu hmin; lia)
      by_cases hk : k = 0
      · subst hk
        rw [if_neg (by simp)]
        refine wpAny_execs_nil (wpAny_execs_nil ⟨mq Q0, by simp [mq], h14, gs12, t14, qi0, _, bi, nb, _, Q0, ks, _, _, _, _, _, _, _, _, rfl, hg12, S14, hQI.zero B, hQT1, hBT1, rfl⟩)
      rw [if_pos (by simp; omega)]
      obtain ⟨hQI2, hlt2⟩ := hQI.step B (by (clear hbl hjm hjt hfew b4 b3 b2 b1 hql hyl e2 hxl e1 big hlen hL hdep hA hd hu hmin; lia))
      generalize hob : objs ++ [(t, mob dd [.int i ti, .int j tj, .int k tk']), (dd, emptyDict)] = ob1 at *
      refine wpAny_execs_cons (wpAny_Expr (MethodCall_ (ld_ S14 v_gmb_matching_blocks rfl (mL PySem.F.slot_list_append PySem.F.type_list_append (S14.get (j := 1) rfl) (callWith_method1 (arg_ (ld_ S14 v_gmb_x rfl (arg0 (append_ (j := 1) S14 rfl (by (clear hjm hob hlt2 hk hjt hfew b4 b3 b2 b1 hql hyl e2 hxl e1 big hlen hL hdep hA hd hu hmin; lia)) fun h15 S15 => ?_)))))))))
      have hBT2 := hBT1.push tmem
      have hq0 : qi0.length ≤ 400 := by simp at hql; (clear hjm hob hlt2 hk hbl hjt hfew b4 b3 b2 b1 hyl e2 hxl e1 big hlen hL hdep hA hd hu hmin; lia)
      have pm : ∀ {α : Type} (a b c e : α) (l : List α), (a :: b :: c :: e :: l).Perm (b :: c :: e :: a :: l) := fun a b c e l => (List.Perm.swap _ _ _).trans (((List.Perm.swap _ _ _).trans ((List.Perm.swap _ _ _).cons _)).cons _)
      refine join (GJ3 s m d xs ys od L nb k3 k5 h3 h5 bi Q0 qi0 c1 c2 c3 c4 alo ahi blo bhi gs12 t i j k ti tj tk' ob1) ?_ ?_
      · intro I' hI
        refine wpAny_If (isTrue_and (wpAny_isTrue_Compare1 (ld_ S15 v_gmb_alo rfl (ld_ S15 v_gmb_i rfl (PySem.P.lt_int (wpAny_truthy_bool ?_))))))
        by_cases d1 : alo < i
        · rw [if_pos (by simpa using d1)]
          refine isTrue_and (wpAny_isTrue_Compare1 (ld_ S15 v_gmb_blo rfl (ld_ S15 v_gmb_j rfl (PySem.P.lt_int (wpAny_truthy_bool ?_)))))
          by_cases d2 : blo < j
          · rw [if_pos (by simpa using d2)]
            refine isTrue_and_nil ?_
            rw [if_pos rfl]
            refine wpAny_execs_cons (wpAny_Expr (MethodCall_ (ld_ S15 v_gmb_queue rfl (mL PySem.F.slot_list_append PySem.F.type_list_append (S15.get (j := 0) rfl) (callWith_method1 (arg_ (Tuple_ (arg_ (ld_ S15 v_gmb_alo rfl (arg_ (ld_ S15 v_gmb_i rfl (arg_ (ld_ S15 v_gmb_blo rfl (arg_ (ld_ S15 v_gmb_j rfl (arg0 (newT S15 (by simp) fun h16 S16 => arg0 (append_ (j := 1) S16 rfl (by (clear d2 d1 hjm hob hlt2 hk hbl hjt hfew b4 b3 b2 b1 hql hyl e2 hxl e1 big hlen hL hdep hA hd hu hmin; lia)) fun h17 S17 => ?_))))))))))))))))))
            refine wpAny_execs_nil ⟨rfl, hI _ ⟨h17, _, _, _, _, rfl, S17.perm (pm _ _ _ _ _), by simp, ?_, fun p hp => .tail _ hp⟩⟩
            rw [if_pos ⟨d1, d2⟩]
            exact (hQT1.mono fun p hp => .tail _ hp).push (r := (alo, i, blo, j)) (.head _)
          · rw [if_neg (by simpa using d2), if_neg (by decide)]
            refine wpAny_execs_nil ⟨rfl, hI _ ⟨h15, _, qi0, _, ob1, rfl, S15, by (clear d2 d1 hq0 hjm hob hlt2 hk hbl hjt hfew b4 b3 b2 b1 hql hyl e2 hxl e1 big hlen hL hdep hA hd hu hmin; lia), ?_, fun p hp => hp⟩⟩
            rw [if_neg (fun z => d2 z.2), List.append_nil]
            exact hQT1
        · rw [if_neg (by simpa using d1), if_neg (by decide)]
          refine wpAny_execs_nil ⟨rfl, hI _ ⟨h15, _, qi0, _, ob1, rfl, S15, by (clear d1 hq0 hjm hob hlt2 hk hbl hjt hfew b4 b3 b2 b1 hql hyl e2 hxl e1 big hlen hL hdep hA hd hu hmin; lia), ?_, fun p hp => hp⟩⟩
          rw [if_neg (fun z => d1 z.1), List.append_nil]
          exact hQT1
      rintro _ ⟨h18, tk18, qi2, nq2, ob2, rfl, S18, hq2, hQT2, hob2⟩
      refine join (GJ4 s m d xs ys od L nb k3 k5 h3 h5 bi Q0 c1 c2 c3 c4 alo ahi blo bhi gs12 t i j k ti tj tk' ob1) ?_ ?_
      · intro I' hI
        refine wpAny_If (isTrue_and (wpAny_isTrue_Compare1 (wpAny_BinOp (ld_ S18 v_gmb_i rfl (ld_ S18 v_gmb_k rfl (add_ fun k19 t19 => ld_ S18 v_gmb_ahi rfl (PySem.P.lt_int (wpAny_truthy_bool ?_))))))))
        by_cases d1 : i + k < ahi
        · rw [if_pos (by simp; (clear hq2 hq0 hjm hob hlt2 hk hbl hjt hfew b4 b3 b2 b1 hql hyl e2 hxl e1 big hlen hL hdep hA hd hu hmin; lia))]
          refine isTrue_and (wpAny_isTrue_Compare1 (wpAny_BinOp (ld_ S18 v_gmb_j rfl (ld_ S18 v_gmb_k rfl (add_ fun k20 t20 => ld_ S18 v_gmb_bhi rfl (PySem.P.lt_int (wpAny_truthy_bool ?_)))))))
          by_cases d2 : j + k < bhi
          · rw [if_pos (by simp; (clear d1 hq2 hq0 hjm hob hlt2 hk hbl hjt hfew b4 b3 b2 b1 hql hyl e2 hxl e1 big hlen hL hdep hA hd hu hmin; lia))]
            refine isTrue_and_nil ?_
            rw [if_pos rfl]
            refine wpAny_execs_cons (wpAny_Expr (MethodCall_ (ld_ S18 v_gmb_queue rfl (mL PySem.F.slot_list_append PySem.F.type_list_append (S18.get (j := 0) rfl) (callWith_method1 (arg_ (Tuple_ (arg_ (wpAny_BinOp (ld_ S18 v_gmb_i rfl (ld_ S18 v_gmb_k rfl (add_ fun k21 t21 => arg_ (ld_ S18 v_gmb_ahi rfl (arg_ (wpAny_BinOp (ld_ S18 v_gmb_j rfl (ld_ S18 v_gmb_k rfl (add_ fun k22 t22 => arg_ (ld_ S18 v_gmb_bhi rfl (arg0 (newT S18 (by simp) fun h16 S16 => arg0 (append_ (j := 1) S16 rfl (by (clear d2 d1 hjm hob hlt2 hk hbl hjt hfew b4 b3 b2 b1 hql hyl e2 hxl e1 big hlen hL hdep hA hd hu hmin; lia)) fun h17 S17 => ?_))))))))))))))))))))))
            refine wpAny_execs_nil ⟨rfl, hI _ ⟨h17, _, _, _, _, rfl, S17.perm (pm _ _ _ _ _), ?_, fun p hp => .tail _ (hob2 p hp)⟩⟩
            unfold kids
            rw [if_pos (show i + k < ahi ∧ j + k < bhi from ⟨d1, d2⟩), ← List.append_assoc]
            refine (hQT2.mono fun p hp => .tail _ hp).push (r := (i + k, ahi, j + k, bhi)) (k1 := k21) (k2 := c2) (k3 := k22) (k4 := c4) ?_
            dsimp only
            rw [Int.natCast_add, Int.natCast_add]
            exact .head _
          · rw [if_neg (by simp; (clear d1 hq2 hq0 hjm hob hlt2 hk hbl hjt hfew b4 b3 b2 b1 hql hyl e2 hxl e1 big hlen hL hdep hA hd hu hmin; lia)), if_neg (by decide)]
            refine wpAny_execs_nil ⟨rfl, hI _ ⟨h18, _, qi2, _, ob2, rfl, S18, ?_, hob2⟩⟩
            unfold kids
            rw [if_neg (show ¬ (i + k < ahi ∧ j + k < bhi) from fun z => d2 z.2), List.append_nil]
            exact hQT2
        · rw [if_neg (by simp; (clear hq2 hq0 hjm hob hlt2 hk hbl hjt hfew b4 b3 b2 b1 hql hyl e2 hxl e1 big hlen hL hdep hA hd hu hmin; lia)), if_neg (by decide)]
          refine wpAny_execs_nil ⟨rfl, hI _ ⟨h18, _, qi2, _, ob2, rfl, S18, ?_, hob2⟩⟩
          unfold kids
          rw [if_neg (show ¬ (i + k < ahi ∧ j + k < bhi) from fun z => d1 z.1), List.append_nil]
          exact hQT2
      rintro _ ⟨h23, tk23, qi3, nq3, ob3, rfl, S23, hQT3, hob3⟩
      exact wpAny_execs_nil (wpAny_execs_nil ⟨_, hlt2, h23, gs12, tk23, qi3, _, _, _, ob3, _, _, _, _, _, _, _, _, _, _, rfl, hg12, S23, hQI2, hQT3, hBT2.mono hob3, rfl⟩)
    · exact ⟨h7, s.gens, t10, _, _, [], _, _, _, [], _, _, _, _, _, _, _, _, rfl, hgs, S8, QI.start, QT.push (r := (0, xs.length, 0, ys.length)) (qi := []) (Q := []) ⟨rfl, fun c r hr => by simp at hr⟩ (.head _), ⟨rfl, fun c k hk => by simp at hk⟩, rfl⟩
  · rintro _ ⟨h8, gs8, tk8, bi, nb, objs, ks, nq, x5, x6, x7, x8, x9, x10, x11, x12, rfl, hg8, S9, hQI, hBT⟩
    have S10 := (S9.perm (List.Perm.swap _ _ _)).drop (mu' := (h5.objs.size, lob bi nb) :: (d, od) :: objs) (.cons_cons _ (.cons _ (List.Sublist.refl _)))
    have hfew := hQI.few
    have h64 : bi.length < 64 := by rw [hBT.1]; (clear e2 e1 big hlen hL hdep hA hd hu; lia)
    refine wpAny_execs_cons (wpAny_Expr (MethodCall_ (ld_ S10 v_gmb_matching_blocks rfl (mL PySem.F.slot_list_sort PySem.F.type_list_sort (S10.get (j := 0) rfl) (callWith_method0 (sortM S10 Dg.k (by show A.units + 3 + 1 < _; (clear h64 hfew hyl e2 hxl e1 big hlen hL hdep hA hd hmin; lia)) h64 ?_ fun h11 bi' nb' hperm S11 => ?_))))))
    · intro v hv
      obtain ⟨c, hc⟩ := List.getElem?_of_mem hv
      have hcl := lt_of_get hc
      obtain ⟨t, dd, i, j, ti, tj, tk, e, mm⟩ := hBT.2 c (ks[c]'(by rw [← hBT.1]; exact hcl)) (List.getElem?_eq_getElem _)
      rw [hc] at e
      exact ⟨t, dd, i, j, _, ti, tj, tk, Option.some.inj e, .inr (.tail _ mm)⟩
    obtain ⟨ks', hks, hBT'⟩ := hBT.perm hperm
    have hksum : ks'.sum = ks.sum := hks.sum_nat
    refine wpAny_execs_cons (wpAny_Assign_three (cInt fun k12 t12 => asN (st_ S11 v_gmb_i1 (Nat.le_of_ble_eq_true rfl) fun h12 t12 S12 => asN (st_ S12 v_gmb_j1 (Nat.le_of_ble_eq_true rfl) fun h13 t13 S13 => asN (st_ S13 v_gmb_k1 (Nat.le_of_ble_eq_true rfl) fun h14 t14 S14 => ?_)))))
    refine wpAny_execs_cons (asgN (List_ (arg0 (newL S14 (by simp) fun h15 S15 => st_ S15 v_gmb_non_adjacent (Nat.le_of_ble_eq_true rfl) fun h16 t16 S16 => ?_))))
    replace S16 : St (hideAll s.heap [d]) L h16 nm_gmb [some (.ref m), some (.int xs.length k3), some (.int ys.length k5), some (.ref h3.objs.size), some (.ref h5.objs.size), x5, x6, x7, x8, x9, x10, x11, x12, some (.int 0 k12), some (.int 0 k12), some (.int 0 k12), some (.ref h14.objs.size), none, none, none] ((h14.objs.size, lob [] 0) :: (h5.objs.size, lob bi' nb') :: (d, od) :: objs) := S16
    refine join (GJ5 s m d xs ys od L k3 k5 h3 h5 ks x5 x6 x7 x8 x9 x10 x11 x12 bi' nb' h14) ?_ ?_
    · intro I' hI
      refine wpAny_For (ld_ S16 v_gmb_matching_blocks rfl ?_)
      refine forLA (items := bi') (GJ6 m d xs ys od k3 k5 h3 h5 objs x5 x6 x7 x8 x9 x10 x11 x12 bi' nb' ks' h14) S16 hA hg8 (lob_list (S16.get (j := 1) rfl)) (.inr ⟨lob bi' nb', ?_⟩) ?_ ?_ ?_ ?_
      · rintro c _ _ ⟨ni, nn, i1, j1, k1, a1, a2, a3, ob, tr, kz, x17, x18, x19, rfl, rfl, _⟩
        exact .tail _ (.head _)
      · intro v hv
        obtain ⟨c, hc⟩ := List.getElem?_of_mem hv
        have hcl := lt_of_get hc
        obtain ⟨t, dd, i, j, ti, tj, tk, e, mm⟩ := hBT'.2 c (ks'[c]'(by rw [← hBT'.1]; exact hcl)) (List.getElem?_eq_getElem _)
        rw [hc] at e
        exact ⟨t, Option.some.inj e⟩
      · rintro c v _ _ own h17 gs17 tk17 hv ⟨ni, nn, i1, j1, k1, a1, a2, a3, ob, tr, kz, x17, x18, x19, rfl, rfl, hNT, hsum, hnl, hob⟩ hg17 S17 T hT
        have hcl := lt_of_get hv
        have hkc : ks'[c]? = some (ks'[c]'(by rw [← hBT'.1]; exact hcl)) := List.getElem?_eq_getElem _
        generalize ks'[c]'(by rw [← hBT'.1]; exact hcl) = k2 at hkc
        obtain ⟨t, dd, i2, j2, ti, tj, tk, e, mm⟩ := hBT'.2 c k2 hkc
        rw [hv] at e
        obtain rfl : v = .ref t := Option.some.inj e
        have ht : h17.get? t = some (mob dd [.int i2 ti, .int j2 tj, .int (k2 : Nat) tk]) := (S17.N (t, _) (.tail _ (.tail _ (.tail _ (List.mem_append_left _ (hob _ mm)))))).1
        have hts : (ks'.take (c + 1)).sum = (ks'.take c).sum + k2 := by rw [take_succ_of hkc]; simp
        refine asg3 S17 (by exact hA) (Dg.k.keeps S17.F.keep) ht v_gmb_i2 v_gmb_j2 v_gmb_k2 (Nat.le_of_ble_eq_true rfl) (Nat.le_of_ble_eq_true rfl) (Nat.le_of_ble_eq_true rfl) fun h18 t18 S18 => ?_
        replace S18 : St (hideAll s.heap [d]) L h18 nm_gmb [some (.ref m), some (.int xs.length k3), some (.int ys.length k5), some (.ref h3.objs.size), some (.ref h5.objs.size), x5, x6, x7, x8, x9, x10, x11, x12, some (.int i1 a1), some (.int j1 a2), some (.int (k1 : Nat) a3), some (.ref h14.objs.size), some (.int i2 ti), some (.int j2 tj), some (.int (k2 : Nat) tk)] (((h14.objs.size, lob ni nn) :: (h5.objs.size, lob bi' nb') :: (d, od) :: ob) ++ own) := S18
        refine wpAny_execs_cons (wpAny_If (wpAny_mono (Q := fun _ s' => ∃ tk0, s' = ⟨h18, gs17, s.drawn, tk0, s.os⟩) (E := fun _ _ => False) ?_ (fun cb s' hs' => ?_) fun _ _ x => x))
        · refine isTrue_and (wpAny_isTrue_Compare1 (wpAny_BinOp (ld_ S18 v_gmb_i1 rfl (ld_ S18 v_gmb_k1 rfl (add_ fun k19 t19 => ld_ S18 v_gmb_i2 rfl (PySem.P.eq_int (wpAny_truthy_bool ?_)))))))
          split
          · refine isTrue_and (wpAny_isTrue_Compare1 (wpAny_BinOp (ld_ S18 v_gmb_j1 rfl (ld_ S18 v_gmb_k1 rfl (add_ fun k20 t20 => ld_ S18 v_gmb_j2 rfl (PySem.P.eq_int (wpAny_truthy_bool ?_)))))))
            split
            · exact isTrue_and_nil ⟨_, rfl⟩
            · exact ⟨_, rfl⟩
          · exact ⟨_, rfl⟩
        obtain ⟨tk0, rfl⟩ := hs'
        cases cb with
        | true =>
          rw [if_pos rfl]
          refine wpAny_execs_cons (wpAny_AugAssign_Name (ldN_ S18 v_gmb_k1 rfl (ld_ S18 v_gmb_k2 rfl (iadd_ fun k21 t21 => st_ S18 v_gmb_k1 (Nat.le_of_ble_eq_true rfl) fun h22 t22 S22 => wpAny_execs_nil (wpAny_execs_nil ?_)))))
          exact TN hT S22 hg17 ⟨ni, nn, i1, j1, k1 + k2, a1, a2, k21, ob, tr, kz, _, _, _, rfl, rfl, hNT, by (clear ht e hv hkc hcl hnl hksum h64 hfew hyl e2 hxl e1 big hlen hL hdep hA hd hu hmin; lia), by (clear hts ht e hv hkc hcl hsum hksum h64 hfew hyl e2 hxl e1 big hlen hL hdep hA hd hu hmin; lia), hob⟩
        | false =>
          rw [if_neg (by decide)]
          refine join (GJ7 s m d xs ys od L tk k1 k3 k5 h3 h5 objs x5 x6 x7 x8 x9 x10 x11 x12 bi' nb' h14 c own gs17 i1 j1 a1 a2 a3 kz k2 i2 j2 ti tj) ?_ ?_
          · intro I' hI
            refine wpAny_If (isTrue_plain (ld_ S18 v_gmb_k1 rfl (truthy_int ?_)))
            split
            · refine wpAny_execs_cons (wpAny_Expr (MethodCall_ (ld_ S18 v_gmb_non_adjacent rfl (mL PySem.F.slot_list_append PySem.F.type_list_append (S18.get (j := 0) rfl) (callWith_method1 (arg_ (Tuple_ (arg_ (ld_ S18 v_gmb_i1 rfl (arg_ (ld_ S18 v_gmb_j1 rfl (arg_ (ld_ S18 v_gmb_k1 rfl (arg0 (newT S18 (by simp) fun h23 S23 => arg0 (append_ (j := 1) S23 rfl (by have := hperm.length_eq; (clear hts ht e hv hkc hsum hksum hfew hyl e2 hxl e1 big hlen hL hdep hA hd hu hmin; lia)) fun h24 S24 => ?_))))))))))))))))
              have S24' : St (hideAll s.heap [d]) L h24 nm_gmb _ (((h14.objs.size, lob (ni ++ [Value.ref h18.objs.size]) (nn + 1)) :: (h5.objs.size, lob bi' nb') :: (d, od) :: (h18.objs.size, tob [Value.int i1 a1, Value.int j1 a2, Value.int (k1 : Nat) a3]) :: ob) ++ own) := S24.perm (pm4 (h18.objs.size, tob [Value.int i1 a1, Value.int j1 a2, Value.int (k1 : Nat) a3]) (h14.objs.size, lob (ni ++ [Value.ref h18.objs.size]) (nn + 1)) (h5.objs.size, lob bi' nb') (d, od) (ob ++ own))
              exact wpAny_execs_nil ⟨rfl, hI _ ⟨h24, _, ni ++ [Value.ref h18.objs.size], nn + 1, _, _, _, rfl, S24', (hNT.mono fun p hp => .tail _ hp).push (.head _), by simp, by simp; omega, fun p hp => .tail _ (hob p hp)⟩⟩
            · rename_i hz
              exact wpAny_execs_nil ⟨rfl, hI _ ⟨h18, _, ni, nn, ob, tr, kz, rfl, S18, hNT, by simp at hz; (clear hts ht e hv hkc hcl hnl hsum hksum h64 hfew hyl e2 hxl e1 big hlen hL hdep hA hd hu hmin; lia), by (clear hz hts ht e hv hkc hcl hsum hksum h64 hfew hyl e2 hxl e1 big hlen hL hdep hA hd hu hmin; lia), hob⟩⟩
          · rintro _ ⟨h25, tk25, ni', nn', ob', tr', kz', rfl, S25, hNT', hs', hl', hob'⟩
            refine wpAny_execs_cons (Assign_Tuple_swapped (names := [Str.ofString "i1", Str.ofString "j1", Str.ofString "k1"]) (Tuple_ (arg_ (ld_ S25 v_gmb_i2 rfl (arg_ (ld_ S25 v_gmb_j2 rfl (arg_ (ld_ S25 v_gmb_k2 rfl (arg0 ?_)))))))) (hw := by kernel_rfl))
            refine tup3 S25 (by exact hA) v_gmb_i1 v_gmb_j1 v_gmb_k1 (Nat.le_of_ble_eq_true rfl) (Nat.le_of_ble_eq_true rfl) (Nat.le_of_ble_eq_true rfl) fun h26 t26 S26 => wpAny_execs_nil (wpAny_execs_nil ?_)
            exact TN hT S26 hg17 ⟨ni', nn', i2, j2, k2, ti, tj, tk, ob', tr', kz', _, _, _, rfl, rfl, hNT', by (clear hl' ht e hv hkc hcl hnl hksum h64 hfew hyl e2 hxl e1 big hlen hL hdep hA hd hu hmin; lia), hl', hob'⟩
      · rintro _ _ h17 gs17 tk17 ⟨ni, nn, i1, j1, k1, a1, a2, a3, ob, tr, kz, x17, x18, x19, rfl, rfl, hNT, hsum, hnl, hob⟩ hg17 S17
        rw [hBT'.1, List.take_length, hksum] at hsum
        exact ⟨rfl, hI _ ⟨h17, gs17, tk17, ni, nn, i1, j1, k1, a1, a2, a3, ob, tr, kz, x17, x18, x19, rfl, hg17, S17, hNT, hsum, by have := hperm.length_eq; (clear hsum hksum hfew hyl e2 hxl e1 big hlen hL hdep hA hd hu hmin; lia)⟩⟩
      · exact ⟨[], 0, 0, 0, 0, _, _, _, objs, [], [], _, _, _, rfl, rfl, NT.nil, by simp, by simp, fun p hp => hp⟩
    · rintro _ ⟨h17, gs17, tk17, ni, nn, i1, j1, k1, a1, a2, a3, ob, tr, kz, x17, x18, x19, rfl, hg17, S17, hNT, hsum, hnl⟩
      refine join (GJ8 s m d xs ys od L k1 k3 k5 h3 h5 ks x5 x6 x7 x8 x9 x10 x11 x12 bi' nb' h14 gs17 i1 j1 a1 a2 a3 x17 x18 x19) ?_ ?_
      · intro I' hI
        refine wpAny_If (isTrue_plain (ld_ S17 v_gmb_k1 rfl (truthy_int ?_)))
        split
        · refine wpAny_execs_cons (wpAny_Expr (MethodCall_ (ld_ S17 v_gmb_non_adjacent rfl (mL PySem.F.slot_list_append PySem.F.type_list_append (S17.get (j := 0) rfl) (callWith_method1 (arg_ (Tuple_ (arg_ (ld_ S17 v_gmb_i1 rfl (arg_ (ld_ S17 v_gmb_j1 rfl (arg_ (ld_ S17 v_gmb_k1 rfl (arg0 (newT S17 (by simp) fun h23 S23 => arg0 (append_ (j := 1) S23 rfl (by (clear hsum hksum h64 hfew hyl e2 hxl e1 big hlen hL hdep hA hd hu hmin; lia)) fun h24 S24 => ?_))))))))))))))))
          have S24' : St (hideAll s.heap [d]) L h24 nm_gmb _ ((h14.objs.size, lob (ni ++ [Value.ref h17.objs.size]) (nn + 1)) :: (h5.objs.size, lob bi' nb') :: (d, od) :: (h17.objs.size, tob [Value.int i1 a1, Value.int j1 a2, Value.int (k1 : Nat) a3]) :: ob) := S24.perm (pm4 (h17.objs.size, tob [Value.int i1 a1, Value.int j1 a2, Value.int (k1 : Nat) a3]) (h14.objs.size, lob (ni ++ [Value.ref h17.objs.size]) (nn + 1)) (h5.objs.size, lob bi' nb') (d, od) ob)
          exact wpAny_execs_nil ⟨rfl, hI _ ⟨h24, _, ni ++ [Value.ref h17.objs.size], nn + 1, _, _, _, rfl, S24', (hNT.mono fun p hp => .tail _ hp).push (.head _), by simp; omega, by simp; omega⟩⟩
        · rename_i hz
          exact wpAny_execs_nil ⟨rfl, hI _ ⟨h17, _, ni, nn, ob, tr, kz, rfl, S17, hNT, by simp at hz; (clear hnl hksum h64 hfew hyl e2 hxl e1 big hlen hL hdep hA hd hu hmin; lia), by (clear hz hsum hksum h64 hfew hyl e2 hxl e1 big hlen hL hdep hA hd hu hmin; lia)⟩⟩
      rintro _ ⟨h25, tk25, ni', nn', ob', tr', kz', rfl, S25, hNT', hs', hl'⟩
      refine wpAny_execs_cons (wpAny_Expr (MethodCall_ (ld_ S25 v_gmb_non_adjacent rfl (mL PySem.F.slot_list_append PySem.F.type_list_append (S25.get (j := 0) rfl) (callWith_method1 (arg_ (Tuple_ (arg_ (ld_ S25 v_gmb_la rfl (arg_ (ld_ S25 v_gmb_lb rfl (arg_ (cInt fun k26 t26 => arg0 (newT S25 (by simp) fun h26 S26 => arg0 (append_ (j := 1) S26 rfl (by (clear hs' hnl hsum hksum h64 hfew hyl e2 hxl e1 big hlen hL hdep hA hd hu hmin; lia)) fun h27 S27 => ?_)))))))))))))))
      have S28 : St (hideAll s.heap [d]) L h27 nm_gmb _ ((h14.objs.size, lob (ni' ++ [Value.ref h25.objs.size]) (nn' + 1)) :: (h5.objs.size, lob bi' nb') :: (d, od) :: (h25.objs.size, tob [Value.int (xs.length : Nat) k3, Value.int (ys.length : Nat) k5, Value.int ((0 : Nat) : Int) k26]) :: ob') := S27.perm (pm4 (h25.objs.size, tob [Value.int (xs.length : Nat) k3, Value.int (ys.length : Nat) k5, Value.int ((0 : Nat) : Int) k26]) (h14.objs.size, lob (ni' ++ [Value.ref h25.objs.size]) (nn' + 1)) (h5.objs.size, lob bi' nb') (d, od) ob')
      have hNT2 := (hNT'.mono fun p hp => List.Mem.tail (h25.objs.size, tob [Value.int (xs.length : Nat) k3, Value.int (ys.length : Nat) k5, Value.int ((0 : Nat) : Int) k26]) hp).push (.head _)
      generalize hob2 : (h25.objs.size, tob [Value.int (xs.length : Nat) k3, Value.int (ys.length : Nat) k5, Value.int ((0 : Nat) : Int) k26]) :: ob' = ob2 at *
      generalize hni2 : ni' ++ [Value.ref h25.objs.size] = ni2 at *
      have hl2 : ni2.length ≤ 202 := by rw [← hni2]; simp; omega
      have hs2 : (kz' ++ [0]).sum = ks.sum := by simp [hs']
      refine wpAny_execs_cons (plainObj_wpAny_Assign_Attribute (Call_ (lb_ S28 Dg g_gmb_list (bn_list _) (cT1 (arg_ (Call_ (lb_ S28 Dg g_gmb_map (bn_map _) (cT1 (arg_ (at1 (lg_ S28 Dg g_gmb_Match (gn_Match _) (gMake S28 (Dg.k.keeps S28.F.keep) fun h29 t29 S29 => arg_ (ld_ S29 v_gmb_non_adjacent rfl (arg0 (newMap (items := ni2) S29 (lob_list (S29.get (j := 1) rfl)) fun h30 S30 => arg0 ?_)))))))))))))))
      have S31 := S30.perm (List.perm_middle (l₁ := [_, _]) (a := (h29.objs.size, lit h14.objs.size 0)))
      refine list_map (items := ni2) (it := h29.objs.size) (l := h14.objs.size) Dg (by exact hA) (by show A.depth + 1 < _; (clear hs2 hl2 hni2 hob2 hl' hs' hnl hsum hksum h64 hfew hyl e2 hxl e1 big hlen hL hA hd hu hmin; lia)) hg17 (by (clear hs2 hni2 hob2 hl' hs' hnl hsum hksum h64 hfew hyl e2 hxl e1 big hlen hL hdep hA hd hu hmin; lia)) ⟨hNT2.len, fun c p hp => let ⟨tv, e, mm⟩ := hNT2.at_ c p hp; ⟨tv, e, .inr (.tail _ (.tail _ (.tail _ mm)))⟩⟩ (.inr (.head _)) ⟨rfl, rfl⟩ S31 fun h32 gs32 t32 acc cc new hg32 hacc hnew S32 => ?_
      have S33 := S32.drop (mu' := ([(h30.objs.size, lob acc cc)] ++ new) ++ (d, od) :: ob2) (.cons_cons _ ((List.Sublist.refl new).append (.cons _ (.cons _ (List.Sublist.refl _)))))
      have S34 := S33.perm List.perm_middle
      refine ld_ S34 v_gmb_self rfl ?_
      refine setV (j := 0) S34 (Dg.k.keeps S34.F.keep) (pl _) (at_mb _).at (S34.old (old _ _ hm)) rfl I an_le (by (clear hacc hs2 hl2 hni2 hob2 hl' hs' hnl hsum hksum h64 hfew hyl e2 hxl e1 big hL hdep hA hd hu hmin; lia)) fun h35 t35 o35 I35 S35 => ?_
      rw [putV_set (by (clear hacc hs2 hl2 hni2 hob2 hl' hs' hnl hsum hksum h64 hfew hyl e2 hxl e1 big hL hdep hA hd hu hmin; lia))] at I35
      refine wpAny_execs_cons (wpAny_Return_some (at1 (ld_ S35 v_gmb_self rfl ?_)))
      have h4' : (vs.set 4 (Value.ref h30.objs.size))[4]? = some (.ref h30.objs.size) := by simp [hlen]
      refine getV (Dg.k.keeps S35.F.keep) (pl _) (at_mb _).at (S35.old (old _ _ hm)) (S35.get (j := 0) rfl) I35 h4' rfl fun t36 => ?_
      have hMB : MBs (R.and (([(h30.objs.size, lob acc cc)] ++ new) ++ ob2)) h30.objs.size xs ys := by
        refine ⟨acc, cc, kz' ++ [0], .inr (.head _), by rw [hacc, hNT2.len, hNT2.lk], fun c v k e1 e2 => ?_, by rw [hs2]; exact hQI.done, by rw [hacc]; (clear h4' hs2 hni2 hob2 hl' hs' hnl hsum hksum h64 hfew hyl e2 hxl e1 big hlen hL hdep hA hd hu hmin; lia)⟩
        obtain ⟨p, hp⟩ : ∃ p, (tr' ++ [(Value.int (xs.length : Nat) k3, Value.int (ys.length : Nat) k5, Value.int ((0 : Nat) : Int) k26)])[c]? = some p := ⟨_, List.getElem?_eq_getElem (by rw [hNT2.lk]; exact lt_of_get e2)⟩
        obtain ⟨t, dd, e3, mm⟩ := hnew c p hp
        obtain ⟨i, j, ti, tj, tk, rfl⟩ := hNT2.sz c p k hp e2
        rw [e1] at e3
        exact ⟨t, dd, i, j, ti, tj, tk, Option.some.inj e3, .inr (List.mem_append_left _ (List.mem_append_right _ mm))⟩
      refine hPo _ _ (S35.mod (t := 0) hL (fun _ => hg32) rfl rfl rfl) ⟨h30.objs.size, _, o35, _, rfl, S35.get (j := 0) rfl, I35, St.fresh (s' := ⟨h35, gs32, s.drawn, t36, s.os⟩) (mu := [(d, o35)]) S35 rfl rfl, ?_, hMB⟩
      have H' : MS prog w (R.and (([(h30.objs.size, lob acc cc)] ++ new) ++ ob2)) vs (some (la, xs)) (some (lb, ys)) := H.mono fun b o e => .inl e
      refine ⟨by rw [List.getElem?_set_ne (by decide)]; exact H'.isj, ⟨by rw [List.getElem?_set_ne (by decide)]; exact e1, H'.a.2⟩, ?_, by rw [List.getElem?_set_ne (by decide)]; exact H'.aj, .inr ⟨la, xs, lb, ys, _, rfl, rfl, h4', hMB⟩, by rw [List.getElem?_set_ne (by decide)]; exact H'.bj, by simpa using hlen⟩
      have hb := H'.b
      refine ⟨by rw [List.getElem?_set_ne (by decide)]; exact e2, hb.2.1, hyl, ?_, ?_⟩
      · rw [List.getElem?_set_ne (by decide)]; exact hb.2.2.2.1
      · rw [List.getElem?_set_ne (by decide)]; exact hb.2.2.2.2
end
end Mine
end
section
set_option Elab.async false
set_option maxRecDepth 100000
set_option linter.unusedVariables false
set_option maxHeartbeats 4000000
namespace Mine
open PySem PySem.W PySem.Calls PyProof.Rows PySem.Builtin
theorem seq_no (P : Params) : ∀ n ∈ seqItemTypes, subIn (K P) (.ref 135) (.type n) = some false := by
  have : seqItemTypes.all (fun n => decide (subIn (K P) (.ref 135) (.type n) = some false)) = true := by kernel_rfl
  intro n hn
  simpa using List.all_eq_true.mp this n hn
section
variable {w : World} {A : Around} {E : Value → Shared → Prop} {s s' : Shared} {h : Heap} {gs : Array GenState} {dr : Drawn} {tk : Nat} {os : OsState} {t dd : Addr} {items : List Value} {P : Params}
theorem any_no {M : Model} (X : (K P).In h) : ∀ l : List String, (∀ n ∈ l, subIn (K P) (.ref 135) (.type n) = some false) → Looks M h (l.anyM fun n => isSubtype (.ref 135) (.type n)) false
  | [], _ => Looks.now
  | n :: l, hl => by
    rw [List.anyM_cons]
    refine (looks_subIn X (hl n (.head _))).andThen ?_
    exact any_no X l fun m hm => hl m (.tail _ hm)
theorem m_getItem {x y z : Value} {k : Tok} {Q : Value → Shared → Prop} (X : (K P).In h) (ht : h.get? t = some (mob dd [x, y, z])) (q : ∀ tk, Q z ⟨h, gs, dr, tk, os⟩) : wpAny (model prog w) A (getItem (.ref t) (.int (-1) k)) Q E ⟨h, gs, dr, tk, os⟩ := by
  unfold getItem
  refine wpAny_holding (wpAny_bind ?_)
  unfold sequenceKey
  refine wpAny_bind ((m_type ht).at ?_)
  dsimp only
  refine wpAny_bind ((any_no X seqItemTypes (seq_no P)).at ?_)
  refine wpAny_pure ?_
  have run : wpAny (model prog w) A.in1 (Builtin.«tuple.__getitem__» ⟨[.ref t, .int (-1) k], []⟩) (fun fin s' => ∃ v, fin = .done (.ret v) ∧ v = z ∧ s' = ⟨h, gs, dr, tk, os⟩) E ⟨h, gs, dr, tk, os⟩ := by
    show wpAny _ _ (Builtin.Tuple.tupleItemsOf (.ref t) >>= _) _ _ _
    refine wpAny_bind (wpAny_tupleItemsOf ht rfl ?_)
    refine wpAny_bind (wpAny_of_eq (a := .type "int") rfl ?_)
    rw [if_neg (by decide)]
    refine wpAny_bind (wpAny_specialOf (T := "int") (typeIs_int _ _ _) (show typeLookup (.type "int") "__index__" = pure (some (.builtin "int.__index__")) by rw [typeLookup_type, builtinLookup_eq_fast]; kernel_rfl) ?_)
    rw [if_neg (by decide)]
    refine wpAny_bind (wpAny_of_eq (a := (-1 : Int)) rfl ?_)
    rw [if_neg (by decide)]
    exact wpAny_pure ⟨_, rfl, rfl, rfl⟩
  refine wpAny_bind (m_special (n := "__getitem__") X ht (mf_item P) (slot_tuple_getitem.bind _) (by decide +kernel) (by decide +kernel) (by decide +kernel) entry_tuple_getitem (args_tuple_getitem _ _) (wpAny_mono run (fun fin s' hf => ?_) fun _ _ x => x))
  obtain ⟨v, rfl, rfl, rfl⟩ := hf
  exact ⟨_, rfl, wpAny_pure (q _)⟩
theorem m_last {value slice : Expr} {x y z : Value} {k : Tok} {Q : Value → Shared → Prop} (X : (K P).In h) (ht : h.get? t = some (mob dd [x, y, z])) (q : ∀ tk, Q z ⟨h, gs, dr, tk, os⟩)
    (hs : subscripted slice false (.ref t) (.int (-1) k) = operate [.ref t, .int (-1) k] (getItem (.ref t) (.int (-1) k)) := by with_unfolding_all rfl) : wpAny (model prog w) A (subscriptTail value slice (.ref t) (.int (-1) k)) Q E ⟨h, gs, dr, tk, os⟩ := by
  unfold subscriptTail
  refine wpAny_bind ?_
  unfold getitemInPython
  refine wpAny_bind ((m_spec X ht (mf_item P)).at (wpAny_pure ?_))
  refine wpAny_bind ?_
  rw [hs]
  exact wpAny_operate' (m_getItem X ht fun tk => wpAny_bind (wpAny_letTemporaryGo (wpAny_pure (q tk))))
end
end Mine
end
section
set_option Elab.async false
set_option maxRecDepth 100000
set_option linter.unusedVariables false
namespace Mine
open PySem PySem.W PySem.Calls PyProof.Rows
section
variable {h h' g : Heap} {L : Addr} {nm : List Str} {vs : List (Option Value)} {mu : List (Addr × Obj)}
/-- one object of the ledger may have turned -/
theorem St.but1 {j : Nat} {d : Addr} {o o' : Obj} (S : St g L h nm vs mu) (keep : ∀ b x, b ≠ d → h.get? b = some x → h'.get? b = some x) (hj : mu[j]? = some (d, o)) (ho : h'.get? d = some o') : St g L h' nm vs (mu.set j (d, o')) := by
  have hlt : j < mu.length := (List.getElem?_eq_some_iff.mp hj).1
  have hmem : (d, o) ∈ mu := List.mem_of_getElem? hj
  have D := S.N _ hmem
  obtain ⟨oL, es, ep, hL, r⟩ := S.F.ns
  have hk : (mu.set j (d, o')).map (·.1) = mu.map (·.1) := by
    rw [List.map_set]
    apply List.ext_getElem?
    intro k
    rw [List.getElem?_set]
    split
    · rename_i hjk; subst hjk; have e2 := (List.getElem?_eq_some_iff.mp hj).2; simp [hlt, e2]
    · rfl
  refine ⟨⟨⟨oL, es, ep, keep L oL (Ne.symm D.2.1) hL, r⟩, fun b x q => keep b x (fun z => ?_) (S.F.keep b x q), S.F.above⟩, fun p hp => ?_, hk ▸ S.nd⟩
  · have := D.2.2; rw [← z, q] at this; cases this
  · obtain ⟨k, hk, e'⟩ := List.getElem_of_mem hp
    rw [List.getElem_set] at e'
    split at e'
    · subst e'; exact ⟨ho, D.2⟩
    · rename_i hne
      have hk' : k < mu.length := by simpa using hk
      have P := S.N p (e' ▸ List.getElem_mem hk')
      refine ⟨keep _ _ (fun z => hne ?_) P.1, P.2⟩
      have h1 : (mu.map (·.1))[j]? = some d := by simp [hj]
      have h2 : (mu.map (·.1))[k]? = some d := by
        have : mu[k]? = some p := by rw [List.getElem?_eq_getElem hk', e']
        simp [this, z]
      exact (List.getElem?_inj (by simpa using hlt) S.nd).mp (h1.trans h2.symm)
/-- only newer objects turn -/
theorem St.moved {n : Nat} (S : St g L h nm vs mu) (hL : L < n) (hmu : ∀ p ∈ mu, p.1 < n) (keep : ∀ b o, b < n → h.get? b = some o → h'.get? b = some o) : St g L h' nm vs mu := by
  obtain ⟨oL, es, ep, hoL, r⟩ := S.F.ns
  refine ⟨⟨⟨oL, es, ep, keep L oL hL hoL, r⟩, fun b x q => keep b x (Nat.lt_trans (Nat.lt_of_lt_of_le (Heap.lt_size q) S.F.above) hL) (S.F.keep b x q), S.F.above⟩, fun p hp => ?_, S.nd⟩
  have P := S.N p hp
  exact ⟨keep _ _ (hmu p hp) P.1, P.2⟩
end
theorem GM.le {a b : List Int} {alo ahi blo bhi m : Nat} (h : GM a b alo ahi blo bhi m) : m ≤ ahi - alo ∧ m ≤ bhi - blo := by
  induction h with
  | none _ => exact ⟨Nat.zero_le _, Nat.zero_le _⟩
  | step B hk _ _ ih1 ih2 =>
    have := B.blk.i0
    have := B.blk.i1
    have := B.blk.j0
    have := B.blk.j1
    lia
theorem preSum_ks (ks : List Nat) : ∀ n, preSum (fun j => ((ks.getD j 0 : Nat) : Int)) n = ((ks.take n).sum : Nat)
  | 0 => by simp [preSum]
  | n + 1 => by
    rw [preSum, preSum_ks ks n]
    by_cases h : n < ks.length
    · rw [List.take_succ, List.sum_append, List.getD_eq_getElem?_getD, List.getElem?_eq_getElem h]; simp
    · rw [List.take_of_length_le (Nat.le_of_not_lt h), List.take_of_length_le (Nat.le_succ_of_le (Nat.le_of_not_lt h)), List.getD_eq_getElem?_getD, List.getElem?_eq_none (Nat.le_of_not_lt h)]; simp
theorem sum_take_le (ks : List Nat) (n : Nat) : (ks.take n).sum ≤ ks.sum := by
  conv => rhs; rw [← List.take_append_drop n ks]
  rw [List.sum_append]; lia
theorem getD_le_sum (ks : List Nat) (n : Nat) : ks.getD n 0 ≤ ks.sum := by
  by_cases h : n < ks.length
  · rw [List.getD_eq_getElem?_getD, List.getElem?_eq_getElem h]
    have := List.getElem_mem h
    induction ks generalizing n with
    | nil => simp at h
    | cons k ks ih =>
      cases n with
      | zero => simp
      | succ n =>
        have := ih n (by simpa using h) (List.getElem_mem _)
        simp at this ⊢
        lia
  · rw [List.getD_eq_getElem?_getD, List.getElem?_eq_none (Nat.le_of_not_lt h)]; simp
theorem passing_all (n : Nat) : passing (fun _ => true) n 0 = List.range n := by
  unfold passing; simp
end Mine
end
section
set_option Elab.async false
set_option maxRecDepth 100000
set_option linter.unusedVariables false
set_option maxHeartbeats 8000000
namespace Mine
open PySem PySem.W PySem.Calls PyProof.Rows PySem.Builtin
/-- a code's table of the codes within it -/
noncomputable def CodeTab (op : Obj) : Prop := ∃ ps, op = ⟨.none, none, .fields ps, #[]⟩ ∧ TriplesOk ps.toList
section
variable {w : World} {A : Around} {E : Value → Shared → Prop} {s s' : Shared} {mg mb : Str → Option Value} {G h g : Heap} {gs : Array GenState} {dr : Drawn} {tk : Nat} {os : OsState} {L a : Addr} {nm : List Str} {ls : List (Option Value)} {mu : List (Addr × Obj)}
theorem code_ratio {P : Params} {ps : Array Value} (X : (K P).In h) (ho : h.get? 220 = some ⟨.none, none, .fields ps, #[]⟩) (ht : TriplesOk ps.toList) : h.IsCode 224 220 ps ∧ h.TableAt 224 220 ps :=
  ⟨⟨o224 P, _, _, _, _, _, _, _, _, _, X 224 _ (by kernel_rfl), rfl, rfl, rfl, rfl, rfl, rfl, ho, rfl, ht, by decide⟩, ⟨⟨o224 P, _, X 224 _ (by kernel_rfl), rfl, rfl, rfl⟩, ho⟩⟩
theorem gxCode {P : Params} {op : Obj} {env : Env} {pos : Pos} {qn : Str} {sc : Scope} {Q : Value → Shared → Prop} (X : (K P).In h) (ho : h.get? 220 = some op) (hct : CodeTab op) (hc : env.code = .ref 224)
    (k : ∀ code h' tk op', Heap.ExtBut 220 h h' → h'.get? 220 = some op' → CodeTab op' → Q code ⟨h', gs, dr, tk, os⟩) : wpAny (model prog w) A (genexprCode env pos qn sc) Q E ⟨h, gs, dr, tk, os⟩ := by
  obtain ⟨ps, rfl, ht⟩ := hct
  obtain ⟨h1, h2⟩ := code_ratio X ho ht
  cases hf : codeAmong pos ps.toList with
  | some c' => exact wpAny_genexprCode_hit (s := ⟨h, gs, dr, tk, os⟩) hc h1 hf (k _ h tk _ (fun _ _ _ e => e) ho ⟨ps, rfl, ht⟩)
  | none =>
    refine wpAny_genexprCodeX (s := ⟨h, gs, dr, tk, os⟩) hc h1 h2 hf fun c' h' tk' hx _ _ hcode _ htab _ => ?_
    obtain ⟨_, _, _, _, _, _, _, _, _, op4, _, _, _, _, _, _, _, hop4, hpd4, htr4, _⟩ := hcode
    exact k _ h' tk' _ hx htab.2 ⟨_, rfl, htr4⟩
theorem ratio_spec {m d la lb : Addr} {vs : List Value} {xs ys : List Int} {R : Rel} {op : Obj} (X : Gr w mg mb G d A s 8) (hgs : AllBare s.gens) (M : MA w R m d vs (some (la, xs)) (some (lb, ys)) s) (hmin : xs.length < 64 ∨ ys.length < 64) (hu : A.units + 12 < cLine) (hz : xs.length + ys.length ≠ 0)
    (hop : s.heap.get? 220 = some op) (hct : CodeTab op) (hG : G.get? 220 = none) (hd220 : d ≠ 220) (hR220 : ∀ b o, R b o → b ≠ 220) :
    codeAny (model prog w) A (.call (.ref 225) ⟨[.ref m], []⟩) (Ret [d, 220] s fun v s' => ∃ tot : Nat, ∃ k vs' o' op' new, v = .float (ratioF tot (xs.length + ys.length)) (k + 1) ∧ GM xs ys 0 xs.length 0 ys.length tot ∧ s'.heap.get? d = some o' ∧ IV w.params an vs' o' ∧ s'.heap.get? 220 = some op' ∧ CodeTab op' ∧ Fresh s s' new ∧ MS prog w (R.and new) vs' (some (la, xs)) (some (lb, ys))) s := by
  obtain ⟨od, hd, I⟩ := M.hd
  have H := M.hS
  have hm := M.hm
  have hR := M.hR
  have hA := X.hA
  have hdep := X.dep
  refine enterP ps_ratio os_ratio [.ref m] [(d, od), (220, op)] (fn_ratio _) (X.D.keeps X.sub) (by (clear hA hd hd220 hG hop hz hu hmin; lia)) (b_ratio _ _ _) rfl p_ratio (nm := nm_ratio) rfl (fun p hp => by
    rcases List.mem_cons.mp hp with rfl | hp
    · exact hd
    · rw [List.mem_singleton.mp hp]; exact hop) (by simpa using hd220) ?_
  intro Po hPo L h₁ tk S hL
  refine wpAny_execs_cons (wpAny_Expr (cStr fun k1 t1 => ?_))
  have Dg : Gd (K w.params) mg mb (hideAll s.heap [d, 220]) := X.D.hide X.sub fun a ha => by
    rcases List.mem_cons.mp ha with rfl | ha
    · exact X.out
    · rw [List.mem_singleton.mp ha]; exact hG
  replace S : St (hideAll s.heap [d, 220]) L h₁ nm_ratio [some (.ref m), none] [(d, od), (220, op)] := S
  have old : ∀ b o, R b o → (hideAll s.heap [d, 220]).get? b = some o := fun b o e => hideAll_get _ (hR _ _ e).1 (by simp; exact ⟨(hR _ _ e).2, hR220 _ _ e⟩)
  refine wpAny_execs_cons (asgN (Call_ (lb_ S Dg g_ratio_sum (bn_sum _) (cB (arg_ (wpAny_GeneratorExp_walksQ (cl := []) (by exact hA) rfl rfl (by decide) rfl rfl rfl (by show A.depth + 1 < _; (clear hL hA hd hd220 hG hop hz hu hmin; lia)) ?_ (fun x => rfl)))))))
  refine MethodCall_ (ld_ S v_ratio_self rfl (methV (Dg.k.keeps S.F.keep) (pl _) (me_gmb _) (S.old (old _ _ hm)) (S.get (j := 0) rfl) I (cMn0 (fn_gmb _) (Dg.k.keeps S.F.keep) ?_)))
  have X1 : Gr w mg mb G d (A.deeper (envOf (Str.ofString "SequenceMatcher.ratio") sc_ratio L 225 (.ref 224))) ⟨h₁, s.gens, s.drawn, t1, s.os⟩ 6 := ⟨X.D, fun b o e => S.F.keep b o (hideAll_get _ (X.sub b o e) (fun mm => by
    rcases List.mem_cons.mp mm with rfl | mm
    · rw [X.out] at e; cases e
    · rw [List.mem_singleton.mp mm, hG] at e; cases e)), X.out, hA, by show A.depth + 1 + 6 < _; (clear hL hA hd hd220 hG hop hz hu hmin; lia)⟩
  refine callS (gmb_spec X1 hgs ⟨hm, ⟨od, S.get (j := 0) rfl, I⟩, fun b o e => ⟨S.old (old _ _ e), (hR _ _ e).2⟩, H⟩ hmin (by show A.units + 3 + 8 < _; lia)) fun v h2 gs2 t2 M2 hv => ?_
  obtain ⟨p, vs2, o2, new, rfl, ho2, I2, F2, H2, hMB⟩ := hv
  have S2 := S.callN (s := ⟨h₁, s.gens, s.drawn, t1, s.os⟩) (s' := ⟨h2, gs2, s.drawn, t2, s.os⟩) (j := 0) M2 rfl ho2 F2
  obtain ⟨items, n, ks, hp, hlen, hit, hGM, h500⟩ := hMB
  have known : ∀ b o, (R.and new) b o → h2.get? b = some o := fun b o hk => hk.elim (fun e => S2.old (old _ _ e)) fun mm => F2.here _ mm
  refine wpAny_pyIter_list (s := ⟨h2, gs2, s.drawn, t2, s.os⟩) (lob_list (known _ _ hp)) ?_
  have S3 := S2.push { cls := .type "list_iterator", data := .fields #[.ref p, .int 0 0] }
  refine ⟨(Dg.keeps S3.F.keep).lim, ?_⟩
  refine gxCode (Dg.k.keeps S3.F.keep) (S3.get (j := 2) rfl) hct rfl fun code h4 t4 op4 hx hop4 hct4 => ?_
  have S4 := (S3.but1 (j := 2) (fun b x hb e => hx b x hb e) rfl hop4)
  have D4 := Dg.keeps S4.F.keep
  obtain ⟨bm, obm, b1, b2, b3, b4, b5, b6⟩ := D4.mod
  refine wpAny_builtinsFor (s := ⟨h4, gs2, s.drawn, t4, s.os⟩) D4.g b1 b2 b3 b4 b5 b6 ?_
  have hpI : p ≠ h2.objs.size := Nat.ne_of_lt (Heap.lt_size (known _ _ hp))
  have hsz : ∀ b o, h4.get? b = some o → b < h4.objs.size := fun b o e => Heap.lt_size e
  have hL2 : L < h2.objs.size := S2.F.ns.lt
  have hmu2 : ∀ q ∈ (d, o2) :: (220, op) :: new, q.1 < h2.objs.size := fun q hq => Heap.lt_size (S2.N q hq).1
  have known4 : ∀ b o, (R.and new) b o → h4.get? b = some o := fun b o hk => hk.elim (fun e => S4.old (old _ _ e)) fun mm => (S4.N _ (.tail _ (.tail _ (.tail _ mm)))).1
  have hp4 := known4 _ _ hp
  have hc4 : cStatics < h2.objs.size := let ⟨_, hn, _⟩ := (Dg.keeps S2.F.keep).lim; hn.lt
  have hI4 : h2.objs.size < h4.objs.size := hsz _ _ (S4.get (j := 0) rfl)
  refine ⟨h2.objs.size, [h2.objs.size, p], [h2.objs.size], items.toArray.size, _, _, fun _ => true, fun i v => ∃ t, v = .int ((ks.getD i 0 : Nat) : Int) t, rfl, fun A' hA' => Walks.list hA' _ _ hpI items.toArray, ⟨⟨_, S4.get (j := 0) rfl, rfl, rfl⟩, lob_list hp4⟩, ?_, D4.lim, ?_, ?_, ?_⟩
  · intro b hb
    rcases List.mem_cons.mp hb with rfl | hb
    · exact hI4
    · rw [List.mem_singleton.mp hb]; exact hsz _ _ hp4
  · intro hm
    exact absurd (List.mem_singleton.mp hm) (Nat.ne_of_lt hc4)
  · intro href hhref
    refine ⟨fun A' E' i v s₂ m₂ hA' hP hns hx' hfp => wpAny_pure ⟨rfl, s₂.heap, s₂.toks, rfl, fun _ _ e => e⟩, fun A' E' i v s₂ m₂ hA' hP _ hns hx' hfp => ?_⟩
    have hi : items[i]? = some v := by simpa using hP
    have hilt : i < ks.length := hlen ▸ lt_of_get hi
    obtain ⟨t, dd, ii, jj, ti, tj, tkk, rfl, hR'⟩ := hit i v ks[i] hi (List.getElem?_eq_getElem hilt)
    obtain ⟨hh5, gs5, dr5, tk5, os5⟩ := s₂
    have keep5 : ∀ b o, b ≠ h2.objs.size → h4.get? b = some o → hh5.get? b = some o := fun b o hb e => hfp b (List.mem_range.mpr (hsz _ _ e)) (fun mm => hb (List.mem_singleton.mp mm)) o (hhref _ _ e)
    have X5 : (K w.params).In hh5 := fun b o e => keep5 b o (Nat.ne_of_lt (Heap.lt_size (Dg.k.keeps S2.F.keep b o e))) (D4.k b o e)
    refine Subscript_ (wpAny_Name (wpAny_loadName_local rfl rfl hns hx' ?_) (by decide))
    refine wpAny_UnaryOp (cInt fun k6 t6 => neg_ fun k7 t7 => ?_)
    refine m_last X5 (keep5 _ _ (Nat.ne_of_lt (Heap.lt_size (known _ _ hR'))) (known4 _ _ hR')) fun t8 => ⟨⟨tkk, ?_⟩, hh5, t8, rfl, fun _ _ e => e⟩
    rw [List.getD_eq_getElem?_getD, List.getElem?_eq_getElem hilt]; rfl
  · intro a h5 t5 gs5 hbare hsa hsz5 keep5 W hst
    refine arg0 (call_sum_walkS ?_)
    have W4 := W.in4_1
    refine W4.self 0 _ _ _ hst ⟨a, _, _, _, _, _, _, fun j => ((ks.getD j 0 : Nat) : Int), rfl, W4, hst, ?_, ?_, ?_, ?_⟩
    · intro b hb
      show b < h5.objs.size
      rw [hsz5]
      rcases List.mem_cons.mp hb with rfl | hb
      · exact Nat.lt_succ_self _
      · rcases List.mem_cons.mp hb with rfl | hb
        · exact Nat.lt_succ_of_lt hsa
        · exact Nat.lt_succ_of_lt (Nat.lt_trans (List.mem_range.mp hb) hsa)
    · rintro i v ⟨i', hi', t, rfl⟩
      rw [passing_all] at hi'
      have hlt := lt_of_get hi'
      rw [List.getElem?_eq_getElem hlt, List.getElem_range] at hi'
      cases hi'
      exact ⟨t, rfl⟩
    · intro j hj
      dsimp only
      rw [preSum_ks]
      have e1 := getD_le_sum ks j
      have e2 := sum_take_le ks (j + 1)
      have e3 := hGM.le
      unfold InLong
      (clear hj hsz5 hsa hbare hI4 hc4 hp4 hL2 hpI b6 b5 b4 b3 b2 b1 hop4 h500 hlen ho2 hL hdep hA hd hd220 hG hop hu; lia)
    · rintro ⟨h6, gs6, dr6, tk6, os6⟩ t6 hmv
      obtain rfl : dr6 = s.drawn := hmv.drawn
      obtain rfl : os6 = s.os := hmv.os
      have hg6 : AllBare gs6 := AllBare.movedS (AllBare.push (M2.gens hgs) hbare) hmv
      have keep6 : ∀ b o, b < h2.objs.size → h5.get? b = some o → h6.get? b = some o := fun b o hb e => hmv.heap b o (fun mm => by
        rcases List.mem_cons.mp mm with rfl | mm
        · exact absurd hb (Nat.not_lt.mpr (Nat.le_of_lt hI4))
        · exact absurd hb (by rw [List.mem_singleton.mp mm]; exact Nat.lt_irrefl _)) e
      have S5 := (S4.drop (mu' := (d, o2) :: (220, op4) :: new) (List.sublist_cons_self _ _))
      have S6 := S5.moved (h' := h6) hL2 (fun q hq => by
        rcases List.mem_cons.mp hq with rfl | hq
        · exact hmu2 _ (.head _)
        · rcases List.mem_cons.mp hq with rfl | hq
          · exact hmu2 (220, op) (.tail _ (.head _))
          · exact hmu2 _ (.tail _ (.tail _ hq))) (fun b o hb e => keep6 b o hb (keep5 b o e))
      have hps : preSum (fun j => ((ks.getD j 0 : Nat) : Int)) (passing (fun _ => true) items.toArray.size 0).length = (ks.sum : Nat) := by
        rw [passing_all, List.length_range, List.size_toArray, hlen, preSum_ks, List.take_length]
      rw [hps]
      have kn6 : ∀ b o, (R.and new) b o → h6.get? b = some o := fun b o hk => hk.elim (fun e => S6.old (old _ _ e)) fun mm => (S6.N _ (.tail _ (.tail _ mm))).1
      obtain ⟨e1, ⟨ia, na, hao, hai⟩, hxl⟩ := H2.a
      obtain ⟨e2, ⟨ib, nb, hbo, hbi⟩, hyl, _⟩ := H2.b
      refine st_ S6 v_ratio_matches (Nat.le_of_ble_eq_true rfl) fun h7 t7 S7 => ?_
      refine wpAny_execs_cons (wpAny_Return_some (Call_ (lg_ S7 Dg g_ratio__calculate_ratio (gn_calc _) (cFn (fn_calc w.params) (arg_ (ld_ S7 v_ratio_matches rfl (arg_ (wpAny_BinOp (Call_ (lb_ S7 Dg g_ratio_len (bn_len _) (cB (arg_ (at1 (ld_ S7 v_ratio_self rfl ?_))))))))))))))
      have kn7 : ∀ b o, (R.and new) b o → h7.get? b = some o := fun b o hk => hk.elim (fun e => S7.old (old _ _ e)) fun mm => (S7.N _ (.tail _ (.tail _ mm))).1
      refine getV (Dg.k.keeps S7.F.keep) (pl _) (at_a _).at (S7.old (old _ _ hm)) (S7.get (j := 0) rfl) I2 e1 rfl fun t8 => ?_
      refine arg0 (len_ (lob_list (kn7 _ _ hao)) (by rw [hai.length]; (clear hyl e2 e1 hps hsz5 hsa hbare hI4 hc4 hp4 hL2 hpI b6 b5 b4 b3 b2 b1 hop4 h500 hlen ho2 hL hdep hA hd hd220 hG hop hz hu hmin; lia)) fun k9 t9 => ?_)
      refine Call_ (lb_ S7 Dg g_ratio_len (bn_len _) (cB (arg_ (at1 (ld_ S7 v_ratio_self rfl ?_)))))
      refine getV (Dg.k.keeps S7.F.keep) (pl _) (at_b _).at (S7.old (old _ _ hm)) (S7.get (j := 0) rfl) I2 e2 rfl fun t10 => ?_
      refine arg0 (len_ (lob_list (kn7 _ _ hbo)) (by rw [hbi.length]; (clear e2 hxl e1 hps hsz5 hsa hbare hI4 hc4 hp4 hL2 hpI b6 b5 b4 b3 b2 b1 hop4 h500 hlen ho2 hL hdep hA hd hd220 hG hop hz hu hmin; lia)) fun k11 t11 => add_ fun k12 t12 => arg0 ⟨Dg.k.keeps S7.F.keep, ?_⟩)
      rw [hai.length, hbi.length]
      have hle := hGM.le
      refine callS (calc_spec (Dg.keeps S7.F.keep) (by show A.depth + 1 < _; (clear hle hyl e2 hxl e1 hps hsz5 hsa hbare hI4 hc4 hp4 hL2 hpI b6 b5 b4 b3 b2 b1 hop4 h500 hlen ho2 hL hA hd hd220 hG hop hz hu hmin; lia)) (by (clear hle e2 e1 hps hsz5 hsa hbare hI4 hc4 hp4 hL2 hpI b6 b5 b4 b3 b2 b1 hop4 h500 hlen ho2 hL hdep hA hd hd220 hG hop hu hmin; lia)) (by (clear hyl e2 e1 hps hsz5 hsa hbare hI4 hc4 hp4 hL2 hpI b6 b5 b4 b3 b2 b1 hop4 h500 hlen ho2 hL hdep hA hd hd220 hG hop hz hu hmin; lia)) (by (clear hle e2 e1 hps hsz5 hsa hbare hI4 hc4 hp4 hL2 hpI b6 b5 b4 b3 b2 b1 hop4 h500 hlen ho2 hL hdep hA hd hd220 hG hop hz hu hmin; omega))) fun v h13 gs13 t13 M13 hv => ?_
      obtain ⟨k14, rfl⟩ := hv
      have S13 := S7.call0 (s := ⟨h7, gs6, s.drawn, t12, s.os⟩) (s' := ⟨h13, gs13, s.drawn, t13, s.os⟩) M13
      refine hPo _ _ (S13.mod (t := 0) hL (fun _ => M13.gens hg6) rfl rfl rfl) ⟨ks.sum, k14, vs2, o2, op4, new, rfl, hGM, S13.get (j := 0) rfl, I2, S13.get (j := 1) rfl, hct4, St.fresh (s' := ⟨h13, gs13, s.drawn, t13, s.os⟩) (mu := [(d, o2), (220, op4)]) S13 rfl rfl, H2⟩
end
end Mine
end
section
set_option Elab.async false
set_option maxRecDepth 100000
set_option linter.unusedVariables false
namespace Mine
open PySem PySem.W PySem.Calls PyProof.Rows
/-! names in any environment: by place, in a cell, global -/
structure VE (e : Env) (nm : List Str) (x : Str) (i : Nat) : Prop where
  fn : e.scope.kind = .function
  kind : e.kindOf x = some .local
  nd : nm.Nodup
  place : nm[i]? = some x
  dbg : (x == ("__debug__" : Str)) = false
structure CE (e : Env) (x : Str) (c : Addr) : Prop where
  fn : e.scope.kind = .function
  kind : e.kindOf x = some .cell
  at_ : e.cells.lookup x = some c
  dbg : (x == ("__debug__" : Str)) = false
structure GE (e : Env) (x : Str) : Prop where
  fn : e.scope.kind = .function
  kind : e.kindOf x = some .globalImplicit
  glob : e.globals = mainGlobals
  bi : e.builtins = builtinsNs
  dbg : (x == ("__debug__" : Str)) = false
noncomputable abbrev cob (v : Option Value) : Obj := ⟨.type "cell", none, .cell v, #[]⟩
section
variable {prog : Program} {w : World} {A : Around} {E : Value → Shared → Prop} {h g : Heap} {gs : Array GenState} {dr : Drawn} {tk : Nat} {os : OsState} {L a : Addr} {nm : List Str} {ls : List (Option Value)} {mu own : List (Addr × Obj)} {q : Str} {sc : Scope} {cd : Value} {env : Env} {K : Frag} {mg mb : Str → Option Value}
theorem ldE {x : Str} {pos : Pos} {i : Nat} {v : Value} {Q : Value → Shared → Prop} (S : St g L h nm ls mu) (V : VE env nm x i) (hv : ls[i]? = some (some v)) (k : Q v ⟨h, gs, dr, tk, os⟩) (hL : env.locals = L := by rfl) :
    wpAny (model prog w) A (eval (.Name x pos) env) Q E ⟨h, gs, dr, tk, os⟩ := by
  subst hL
  exact wpAny_Name (wpAny_loadName_local V.fn V.kind S.F.ns (look_get V.nd V.place hv) k) V.dbg
theorem stE {x : Str} {i : Nat} {v : Value} {Q : Unit → Shared → Prop} (S : St g L h nm ls mu) (V : VE env nm x i) (hi : i < ls.length)
    (k : ∀ h' tk, St g L h' nm (ls.set i (some v)) mu → Q () ⟨h', gs, dr, tk, os⟩) (hL : env.locals = L := by rfl) : wpAny (model prog w) A (storeName env x v) Q E ⟨h, gs, dr, tk, os⟩ := by
  subst hL
  refine wpAny_storeName_local V.kind S.F.ns (fun h' hn hs => k h' _ ⟨look_set V.nd V.place hi v ▸ S.F.set hn hs, fun p hp => ?_, S.nd⟩) (by rw [V.fn]; rfl)
  have P := S.N p hp
  exact ⟨(hs.2 _ P.2.1).trans P.1, P.2⟩
theorem ldC_ {x : Str} {pos : Pos} {j : Nat} {c : Addr} {v : Value} {Q : Value → Shared → Prop} (S : St g L h nm ls mu) (V : CE env x c) (hj : mu[j]? = some (c, cob (some v))) (k : Q v ⟨h, gs, dr, tk, os⟩) :
    wpAny (model prog w) A (eval (.Name x pos) env) Q E ⟨h, gs, dr, tk, os⟩ :=
  wpAny_Name (wpAny_loadName_cell V.fn V.kind V.at_ ⟨_, S.get hj, rfl⟩ k) V.dbg
theorem stC_ {x : Str} {j : Nat} {c : Addr} {v : Value} {v0 : Option Value} {Q : Unit → Shared → Prop} (S : St g L h nm ls mu) (V : CE env x c) (hj : mu[j]? = some (c, cob v0))
    (k : ∀ h', St g L h' nm ls (mu.set j (c, cob (some v))) → Q () ⟨h', gs, dr, tk, os⟩) : wpAny (model prog w) A (storeName env x v) Q E ⟨h, gs, dr, tk, os⟩ := by
  unfold storeName
  simp only [V.kind, V.fn]
  refine wpAny_bind (wpAny_cellOf V.at_ ?_)
  unfold cellSet
  refine wpAny_bind (wpAny_load (s := ⟨h, gs, dr, tk, os⟩) (S.get hj) ?_)
  exact wpAny_update (s := ⟨h, gs, dr, tk, os⟩) (S.get hj) (k _ (S.upd (o' := cob (some v)) hj rfl))
theorem lgE {x : Str} {pos : Pos} {v : Value} {Q : Value → Shared → Prop} (S : St g L h nm ls mu) (D : Gd K mg mb g) (V : GE env x) (N : nsIn K mainGlobals x = some (some v)) (k : Q v ⟨h, gs, dr, tk, os⟩) :
    wpAny (model prog w) A (eval (.Name x pos) env) Q E ⟨h, gs, dr, tk, os⟩ :=
  Calls.Name_function_global V.fn V.kind (Calls.loadGlobal_global (env := env) (by rw [V.glob]; exact D.g.keeps S.F.keep) (mg_of D.k D.g N) k) V.dbg
theorem lbE {x : Str} {pos : Pos} {v : Value} {Q : Value → Shared → Prop} (S : St g L h nm ls mu) (D : Gd K mg mb g) (V : GE env x) (N : BN K x v) (k : Q v ⟨h, gs, dr, tk, os⟩) :
    wpAny (model prog w) A (eval (.Name x pos) env) Q E ⟨h, gs, dr, tk, os⟩ :=
  Calls.Name_function_global V.fn V.kind (Calls.loadGlobal_builtin (env := env) (by rw [V.glob]; exact D.g.keeps S.F.keep) (mg_none_of D.k D.g N.no) (by rw [V.bi]; exact D.b.keeps S.F.keep) ((D.blt x N.ne).trans N.boot) k) V.dbg
/-- name = value, the value no comprehension kept in place -/
theorem asgE {x : Str} {np : Pos} {value : Expr} {pos : Pos} {Q : Flow → Shared → Prop}
    (k : wpAny (model prog w) A (eval value env) (fun v s₁ => wpAny (model prog w) A (storeName env x v) (fun _ => Q .next) E s₁) E ⟨h, gs, dr, tk, os⟩)
    (hs : swapsWith value (some (.Name x np)) pos.line env = pure false := by rfl) : wpAny (model prog w) A (exec (.Assign [.Name x np] value pos) env) Q E ⟨h, gs, dr, tk, os⟩ :=
  wpAny_Assign_Name k hs
end

/-! a def with cells is entered -/
noncomputable def led0 (n : Nat) : List (Str × NameKind) → List (Addr × Obj)
  | [] => []
  | (_, kind) :: r => if kind == .cell then (n, cob none) :: led0 (n + 1) r else led0 n r
theorem led0_ge : ∀ (names : List (Str × NameKind)) (n : Nat), ∀ p ∈ led0 n names, n ≤ p.1
  | [], _, _, h => nomatch h
  | (_, kind) :: r, n, p, h => by
    unfold led0 at h
    split at h
    · rcases List.mem_cons.mp h with rfl | h
      · exact Nat.le_refl _
      · exact Nat.le_of_succ_le (led0_ge r (n + 1) p h)
    · exact led0_ge r n p h
theorem led0_nd : ∀ (names : List (Str × NameKind)) (n : Nat), ((led0 n names).map (·.1)).Nodup
  | [], _ => List.nodup_nil
  | (_, kind) :: r, n => by
    unfold led0
    split
    · refine List.nodup_cons.mpr ⟨fun h => ?_, led0_nd r (n + 1)⟩
      obtain ⟨p, hp, e⟩ := List.mem_map.mp h
      have := led0_ge r (n + 1) p hp
      exact absurd e (Nat.ne_of_gt this)
    · exact led0_nd r n
theorem led0_at : ∀ (names : List (Str × NameKind)) (h : Heap), ∀ p ∈ led0 h.objs.size names, (pushCells h names).get? p.1 = some p.2
  | [], _, _, h => nomatch h
  | (_, kind) :: r, h, p, hp => by
    unfold led0 at hp
    unfold pushCells
    split at hp
    · rename_i hk
      rw [if_pos hk]
      rcases List.mem_cons.mp hp with rfl | hp
      · exact pushCells_keeps r _ _ _ (Heap.get?_push_size _ rfl)
      · rw [show h.objs.size + 1 = (h.push (cob none)).objs.size from (Heap.size_push ..).symm] at hp
        exact led0_at r (h.push (cob none)) p hp
    · rename_i hk
      rw [if_neg hk]
      exact led0_at r h p hp
section
variable {prog : Program} {w : World} {A : Around} {E : Value → Shared → Prop} {h g : Heap} {gs : Array GenState} {dr : Drawn} {tk : Nat} {os : OsState} {L a : Addr} {nm : List Str} {ls : List (Option Value)} {mu own : List (Addr × Obj)} {q : Str} {sc : Scope} {cd : Value} {env : Env} {K : Frag} {mg mb : Str → Option Value}
/-- the parameters are bound, one after the other -/
noncomputable def bindAll (env : Env) (binds : List (Str × Value)) : Sem PUnit := forIn binds ⟨⟩ fun x _ => do storeName env x.1 x.2; pure (.yield ⟨⟩)
theorem ba_nil {Q : PUnit → Shared → Prop} (k : Q ⟨⟩ ⟨h, gs, dr, tk, os⟩) : wpAny (model prog w) A (bindAll env []) Q E ⟨h, gs, dr, tk, os⟩ := by
  unfold bindAll; rw [List.forIn_nil]; exact wpAny_pure k
theorem ba_cons {x : Str} {v : Value} {r : List (Str × Value)} {Q : PUnit → Shared → Prop} {s : Shared} (k : wpAny (model prog w) A (storeName env x v) (fun _ s' => wpAny (model prog w) A (bindAll env r) Q E s') E s) :
    wpAny (model prog w) A (bindAll env ((x, v) :: r)) Q E s := by
  unfold bindAll; rw [List.forIn_cons]
  exact wpAny_bind (wpAny_bind (wpAny_mono k (fun _ s' h' => wpAny_pure h') fun _ _ x => x))
/-- the def's own facts -/
structure FnC (K : Frag) (f : Addr) (fd : FuncData) (qual : Str) (sc : Scope) (body : List Stmt) (cdv : Value) : Prop where
  at_ : ∃ o, K.lookup f = some o ∧ o.data = .func fd
  q : fd.qualname = qual
  s : fd.scope = sc
  b : fd.body = .stmts body
  c : fd.code = cdv
  env : ∀ L, callEnvC fd L f = envOfC qual sc L f cdv
  clo : fd.closure = []
  rec_ : codeIn K cdv qual = true
  co : sc.isCoroutine = false
  gen : sc.isGenerator = false
  kind : sc.kind = .function
theorem look_none : ∀ nm : List Str, look nm (nm.map fun _ => none) = fun _ => none
  | [] => rfl
  | n :: ns => by
    funext x
    simp only [List.map_cons, look, look_none ns]
    split <;> rfl
theorem enterC {R : Result → Shared → Prop} {s : Shared} {f : Addr} {fd : FuncData} {qual : Str} {body : List Stmt} {cdv : Value} {args : Args} {binds : List (Str × Value)} (mu : List (Addr × Obj))
    (H : FnC K f fd qual sc body cdv) (D : Gd K mg mb s.heap) (hroom : A.depth < recursionLimit) (hbind : BindsTo s fd args binds)
    (hmu : ∀ p ∈ mu, s.heap.get? p.1 = some p.2) (nd : (mu.map (·.1)).Nodup) (nm : List Str)
    (h : ∀ h₁, St (hideAll s.heap (mu.map (·.1))) s.heap.objs.size h₁ nm (nm.map fun _ => none) (led0 (s.heap.objs.size + 1) sc.names ++ mu) →
      wpAny (model prog w) A.in1 (bindAll (envOfC qual sc s.heap.objs.size f cdv) binds) (fun _ s' => Sub (hideAll s.heap (mu.map (·.1))) s'.heap ∧
        wpAny (model prog w) (A.deeper (envOfC qual sc s.heap.objs.size f cdv)) (execs body (envOfC qual sc s.heap.objs.size f cdv)) (fun fl s' => R (.ok (.ret (match fl with | .ret v => v | _ => .none))) s') (fun _ _ => False) s') (fun _ _ => False)
        { s with heap := h₁ }) (hlimW : cStatics ∉ mu.map (·.1)) : codeAny (model prog w) A (.call (.ref f) args) R s := by
  obtain ⟨⟨o, hl, ho⟩, hq, hs, hb, hc, henv, hclo, hrec, hco, hgen, hk⟩ := H
  subst hs hq hc
  refine codeAny_call_function hroom (D.k _ _ hl) ho hco hgen hb (codeRec_of D.k hrec) (hbind _ _ _ _ ?_)
  rw [hclo]
  simp only [newFunctionEnv, Option.isSome_none, Bool.false_eq_true, if_false]
  refine wpAny_bind (wpAny_alloc ?_)
  refine wpAny_bind (wpAny_layCells _ (fun name kind cells => by cases hkc : kind == NameKind.cell <;> simp [hkc]) _ _ _ _ ?_)
  have e1 : ({ s with heap := s.heap.push { cls := .type "frame", data := .dict #[] } } : Shared).heap.objs.size = s.heap.objs.size + 1 := Heap.size_push ..
  rw [e1]
  have S : St (hideAll s.heap (mu.map (·.1))) s.heap.objs.size (pushCells (s.heap.push { cls := .type "frame", data := .dict #[] }) fd.scope.names) nm (nm.map fun _ => none) (led0 (s.heap.objs.size + 1) fd.scope.names ++ mu) := by
    have hnew : ∀ p ∈ led0 (s.heap.objs.size + 1) fd.scope.names, s.heap.objs.size < p.1 := fun p hp => led0_ge _ _ p hp
    refine ⟨⟨?_, fun b o e => pushCells_keeps _ _ b o (Heap.get?_push_of_some _ (of_hideAll _ e)), Nat.le_of_eq (hideAll_size _ _)⟩, fun p hp => ?_, ?_⟩
    · have := (Heap.Ns.new s.heap (.type "frame")).keeps (pushCells_keeps fd.scope.names _)
      rw [look_none]; exact this
    · rcases List.mem_append.mp hp with hp | hp
      · refine ⟨led0_at _ _ p (by rw [Heap.size_push]; exact hp), Nat.ne_of_gt (hnew p hp), ?_⟩
        cases e : (hideAll s.heap (mu.map (·.1))).get? p.1 with
        | none => rfl
        | some o' => exact absurd (Heap.lt_size (of_hideAll _ e)) (Nat.not_lt.mpr (Nat.le_of_lt (hnew p hp)))
      · exact ⟨pushCells_keeps _ _ _ _ (Heap.get?_push_of_some _ (hmu p hp)), Nat.ne_of_lt (Heap.lt_size (hmu p hp)), hideAll_none _ (List.mem_map_of_mem hp)⟩
    · rw [List.map_append, List.nodup_append]
      refine ⟨led0_nd _ _, nd, fun a ha b hb e => ?_⟩
      obtain ⟨p, hp, rfl⟩ := List.mem_map.mp ha
      obtain ⟨p', hp', rfl⟩ := List.mem_map.mp hb
      have h1 := hnew p hp
      have h2 := Heap.lt_size (hmu p' hp')
      exact absurd e (Nat.ne_of_gt (Nat.lt_trans h2 h1))
  have lim : (hideAll s.heap (mu.map (·.1))).NoLimit := by
    obtain ⟨m, hn, hm⟩ := D.lim
    exact ⟨m, hn.at' fun o e => hideAll_get _ e hlimW, hm⟩
  have := h _ S
  rw [← henv] at this
  refine wpAny_bind (wpAny_mono (this : wpAny (model prog w) A.in1 (bindAll (callEnvC fd s.heap.objs.size f) binds) _ _ _) (fun _ s' hx => wpAny_pure ⟨lim.keeps hx.1, ?_⟩) fun _ _ x => x.elim)
  refine codeAny_func (wpAny_mono hx.2 (fun _ _ x => x) fun _ _ x => x.elim)
end
end Mine
end
section
set_option Elab.async false
set_option maxRecDepth 100000
set_option linter.unusedVariables false
namespace Mine
open PySem PySem.W PySem.Calls PyProof.Rows
section
variable {prog : Program} {w : World} {A : Around} {E : Value → Shared → Prop} {h g : Heap} {gs : Array GenState} {dr : Drawn} {tk : Nat} {os : OsState} {L a : Addr} {nm : List Str} {ls : List (Option Value)} {mu own : List (Addr × Obj)} {env : Env}
/-- what an iterator's objects need to live on -/
theorem frame_on {Sx : Nat → Heap → Prop} {I : Addr} {fp wr : List Addr} {n : Nat} {P : Nat → Value → Prop} {J : List (Option Value) → List (Addr × Obj) → Prop} {J' : List (Option Value) → List (Addr × Obj) → Prop} {h' : Heap} {ls' : List (Option Value)} {mu' own' : List (Addr × Obj)} {i : Nat}
    (W : Walks prog w A I fp wr n P Sx) (hfp : ∀ b ∈ fp, b ∈ own.map (·.1) ∨ (∃ o, g.get? b = some o) ∨ ∃ o, (∀ ls mu, J ls mu → (b, o) ∈ mu) ∧ ∀ ls mu, J' ls mu → (b, o) ∈ mu) (ho : own'.map (·.1) = own.map (·.1))
    (S : St g L h nm ls (mu ++ own')) (S' : St g L h' nm ls' (mu' ++ own')) (hJ : J ls mu) (hJ' : J' ls' mu') (hS : Sx i h) : Sx i h' :=
  W.frame _ _ _ hS fun b hb o hbo => by
    rcases hfp b hb with hm | ⟨o', hg⟩ | ⟨o', hj, hj'⟩
    · rw [← ho] at hm
      obtain ⟨p, hp, rfl⟩ := List.mem_map.mp hm
      have e1 := (S.N p (List.mem_append_right _ hp)).1
      have e2 := (S'.N p (List.mem_append_right _ hp)).1
      rw [e1] at hbo
      rw [e2]; exact hbo
    · have e1 := S.F.keep b o' hg
      have e2 := S'.F.keep b o' hg
      rw [e1] at hbo
      rw [e2]; exact hbo
    · have e1 := (S.N _ (List.mem_append_left _ (hj _ _ hJ))).1
      have e2 := (S'.N _ (List.mem_append_left _ (hj' _ _ hJ'))).1
      rw [e1] at hbo
      rw [e2]; exact hbo
/-- the iterator's own objects go -/
theorem St.leftOwn {h' : Heap} {wr : List Addr} (S : St g L h nm ls (mu ++ own)) (hwr : ∀ b ∈ wr, b ∈ own.map (·.1)) (keep : ∀ b o, b ∉ wr → h.get? b = some o → h'.get? b = some o) : St g L h' nm ls mu := by
  have off : ∀ b, (∀ p ∈ own, p.1 ≠ b) → b ∉ wr := fun b hh m => by
    obtain ⟨p, hp, e⟩ := List.mem_map.mp (hwr b m)
    exact hh p hp e
  obtain ⟨oL, es, ep, hL, r⟩ := S.F.ns
  have nd := S.nd
  rw [List.map_append, List.nodup_append] at nd
  refine ⟨⟨⟨oL, es, ep, keep L oL (off L fun p hp => (S.N p (List.mem_append_right _ hp)).2.1) hL, r⟩, fun b o hb => keep b o (off b fun p hp z => ?_) (S.F.keep b o hb), S.F.above⟩, fun p hp => ?_, nd.1⟩
  · have := (S.N p (List.mem_append_right _ hp)).2.2; rw [z, hb] at this; cases this
  · have P := S.N p (List.mem_append_left _ hp)
    exact ⟨keep _ _ (off _ fun p' hp' z => nd.2.2 _ (List.mem_map_of_mem hp) _ (List.mem_map_of_mem hp') z.symm) P.1, P.2⟩
/-- a for over a walked thing, in any environment; the target's store is the turn's own -/
theorem forG {target : Expr} {body : List Stmt} {I : Addr} {fp wr : List Addr} {n : Nat} {P : Nat → Value → Prop} {Sx : Nat → Heap → Prop} {R : Result → Shared → Prop}
    (J : Nat → List (Option Value) → List (Addr × Obj) → Prop) (W : Walks prog w A I fp wr n P Sx) (hfp : ∀ b ∈ fp, b ∈ own.map (·.1) ∨ (∃ o, g.get? b = some o) ∨ ∃ o, ∀ i ls mu, J i ls mu → (b, o) ∈ mu) (hwr : ∀ b ∈ wr, b ∈ own.map (·.1))
    (live : ∀ i h, Sx i h → ∀ b ∈ wr, ∃ o, h.get? b = some o)
    (go : ∀ i v (s : Shared) (Q : Unit → Shared → Prop) (E : Value → Shared → Prop), i < n → P i v → Sx (i + 1) s.heap → Q () s → wpAny (model prog w) A (letOwnedTupleGo target (.ref I) v) Q E s)
    (turn : ∀ i v ls mu own' h gs tk, i < n → P i v → J i ls mu → own'.map (·.1) = own.map (·.1) → AllBare gs → St g L h nm ls (mu ++ own') →
      ∀ T : Flow → Shared → Prop, (∀ f s', Turn g L nm own' dr os (J (i + 1)) R f s' → T f s') → wpAny (model prog w) A (assign target env v) (fun _ s₁ => wpAny (model prog w) A (execs body env) T (fun _ _ => False) s₁) (fun _ _ => False) ⟨h, gs, dr, tk, os⟩)
    (done : ∀ ls mu h gs tk, J n ls mu → AllBare gs → St g L h nm ls mu → R (.ok .next) ⟨h, gs, dr, tk, os⟩)
    (hJ : J 0 ls mu) (S : St g L h nm ls (mu ++ own)) (hS : Sx 0 h) (hgs : AllBare gs) :
    codeAny (model prog w) A (.forLoop target (.ref I) body [] env) R ⟨h, gs, dr, tk, os⟩ := by
  refine codeAny_forLoop_any (LpJ1 g dr os L nm own n Sx J) ?_ n ⟨0, ls, mu, own, h, gs, tk, by lia, Nat.zero_le _, rfl, hJ, rfl, hgs, S, hS⟩
  rintro k s ⟨i, ls, mu, own', h, gs, tk, rfl, hi, rfl, hJ, ho, hgs, S, hS⟩
  rcases Nat.lt_or_ge i n with hlt | hge
  · refine W.item i _ _ _ hlt hS fun v h' tk' hP hS' keep => ?_
    obtain ⟨own'', e, S'⟩ := S.turn (wr := wr) (by rw [ho]; exact hwr) keep (live _ _ hS')
    refine go i v _ _ _ hlt hP hS' ?_
    refine wpAny_mono (turn i v ls mu own'' h' gs tk' hlt hP hJ (e.trans ho) hgs S' _ fun _ _ h => h) (fun _ s₁ h₁ => ?_) fun _ _ x => x.elim
    refine wpAny_mono h₁ (fun f s' hf => ?_) fun _ _ x => x.elim
    have fin : (∃ ls' mu' h' gs' tk', s' = ⟨h', gs', dr, tk', os⟩ ∧ AllBare gs' ∧ St g L h' nm ls' (mu' ++ own'') ∧ J (i + 1) ls' mu') → ∃ m, m < n - i ∧ LpJ1 g dr os L nm own n Sx J m s' := by
      rintro ⟨ls', mu', h3, gs', tk3, rfl, hg3, S3, hJ3⟩
      refine ⟨n - (i + 1), by omega, i + 1, ls', mu', own'', h3, gs', tk3, rfl, hlt, rfl, hJ3, e.trans ho, hg3, S3, frame_on (own := own) (J := J i) (J' := J (i + 1)) W (fun b hb => ?_) (e.trans ho) S' S3 hJ hJ3 hS'⟩
      rcases hfp b hb with x | x | ⟨o, x⟩
      · exact .inl x
      · exact .inr (.inl x)
      · exact .inr (.inr ⟨o, x i, x (i + 1)⟩)
    cases f with
    | next => exact fin hf
    | cont => exact fin hf
    | brk => exact hf
    | ret v => exact hf
  · obtain rfl : i = n := by lia
    refine W.done _ _ _ hS fun h' tk' keep => wpAny_pure (done ls mu h' gs tk' hJ hgs (S.leftOwn (by rw [ho]; exact hwr) keep))
theorem forLE {target : Expr} {body : List Stmt} {l : Addr} {items : List Value} {R : Result → Shared → Prop} (J : Nat → List (Option Value) → List (Addr × Obj) → Prop) (S : St g L h nm ls mu) (hh : A.handled = none) (hgs : AllBare gs)
    (hl : h.IsList l items.toArray) (hb : (∃ o, g.get? l = some o) ∨ ∃ o, ∀ i ls mu, J i ls mu → (l, o) ∈ mu)
    (turn : ∀ i v ls mu own h gs tk, items[i]? = some v → J i ls mu → AllBare gs → St g L h nm ls (mu ++ own) →
      ∀ T : Flow → Shared → Prop, (∀ f s', Turn g L nm own dr os (J (i + 1)) R f s' → T f s') → wpAny (model prog w) A (assign target env v) (fun _ s₁ => wpAny (model prog w) A (execs body env) T (fun _ _ => False) s₁) (fun _ _ => False) ⟨h, gs, dr, tk, os⟩)
    (done : ∀ ls mu h gs tk, J items.length ls mu → AllBare gs → St g L h nm ls mu → R (.ok .next) ⟨h, gs, dr, tk, os⟩) (hJ : J 0 ls mu)
    (go : (∀ it v, letOwnedTupleGo target it v = pure ()) ∨ (∃ elts kk tp, target = .Tuple elts kk tp) ∧ ∀ v ∈ items, ∃ T, v = .ref T := by exact .inl fun _ _ => rfl) :
    wpAny (model prog w) A (pyIter (.ref l)) (fun it s₂ => codeAny (model prog w) A (.forLoop target it body [] env) R s₂) E ⟨h, gs, dr, tk, os⟩ := by
  refine wpAny_pyIter_list (s := ⟨h, gs, dr, tk, os⟩) hl ?_
  have hlt : l < h.objs.size := by obtain ⟨o, ho, _⟩ := hl; exact Heap.lt_size ho
  have W := Walks.list (prog := prog) (w := w) hh h.objs.size l (Nat.ne_of_lt hlt) items.toArray
  refine forG (own := [(h.objs.size, _)]) J W ?_ (fun b hb => by simpa using hb) ?_ ?_ ?_ ?_ hJ (S.push _).last ⟨⟨_, Heap.get?_push_size _ rfl, rfl, rfl⟩, hl.at fun o e => Heap.get?_push_of_some _ e⟩ hgs
  · intro b hb'
    rcases List.mem_cons.mp hb' with rfl | hb'
    · exact .inl (by simp)
    · rw [List.mem_singleton.mp hb']; exact .inr hb
  · rintro i h' ⟨⟨o, ho, _⟩, _⟩ b hb
    rw [List.mem_singleton.mp hb]; exact ⟨o, ho⟩
  · rintro i v s Q E hi hP hS hq
    rcases go with go | go
    · rw [go]; exact wpAny_pure hq
    · obtain ⟨⟨elts, kk, tp, rfl⟩, go⟩ := go
      obtain ⟨T, rfl⟩ := go v (List.mem_of_getElem? (show items[i]? = some v by simpa using hP))
      exact wpAny_letOwnedTupleGo_listiter hS.1 hq
  · intro i v ls mu own' h' gs' tk' hi hP hJ' _ hg' S'
    exact turn i v ls mu own' h' gs' tk' (by simpa using hP) hJ' hg' S'
  · intro ls mu h' gs' tk' hJ' hg' S'
    exact done ls mu h' gs' tk' (by simpa using hJ') hg' S'
/-- for target in range(a, b) -/
theorem forRE {target : Expr} {body : List Stmt} {r : Addr} {lo hi : Int} {n : Nat} {t u v : Tok} {R : Result → Shared → Prop} (J : Nat → List (Option Value) → List (Addr × Obj) → Prop) (S : St g L h nm ls mu) (hh : A.handled = none) (hgs : AllBare gs)
    (hr : IsRange h r lo hi 1 t u v) (hn : (n : Int) = if lo < hi then hi - lo else 0) (hlo : lo.natAbs < 2 ^ 32) (hhi : hi.natAbs < 2 ^ 32)
    (turn : ∀ (i : Nat) k ls mu own h gs tk, i < n → J i ls mu → AllBare gs → St g L h nm ls (mu ++ own) →
      ∀ T : Flow → Shared → Prop, (∀ f s', Turn g L nm own dr os (J (i + 1)) R f s' → T f s') → wpAny (model prog w) A (assign target env (.int (lo + i) k)) (fun _ s₁ => wpAny (model prog w) A (execs body env) T (fun _ _ => False) s₁) (fun _ _ => False) ⟨h, gs, dr, tk, os⟩)
    (done : ∀ ls mu h gs tk, J n ls mu → AllBare gs → St g L h nm ls mu → R (.ok .next) ⟨h, gs, dr, tk, os⟩) (hJ : J 0 ls mu) (go : ∀ it v, letOwnedTupleGo target it v = pure () := by exact fun _ _ => rfl) :
    wpAny (model prog w) A (pyIter (.ref r)) (fun it s₂ => codeAny (model prog w) A (.forLoop target it body [] env) R s₂) E ⟨h, gs, dr, tk, os⟩ := by
  have hsz : Builtin.Range.rangeSize lo hi 1 = (n : Int) := by rw [rangeSize_one, hn]
  have hsmall : Builtin.Range.small lo hi 1 = true := by
    unfold Builtin.Range.small
    rw [hsz]
    simp only [Builtin.Range.rangeFitsLong]
    split at hn <;> simp <;> omega
  refine wpAny_pyIter_range (s := ⟨h, gs, dr, tk, os⟩) hr hsmall ?_
  have W := Walks.range (prog := prog) (w := w) hh h.objs.size lo 1 n
  refine forG (own := [(h.objs.size, _)]) J W ?_ (fun b hb => by simpa using hb) ?_ ?_ ?_ done hJ (S.push _).last ?_ hgs
  · intro b hb'
    exact .inl (by simpa using hb')
  · intro i h' hx b hb
    rw [List.mem_singleton.mp hb]; exact ⟨_, hx⟩
  · rintro i v s Q E hi hP hS hq
    rw [go]; exact wpAny_pure hq
  · rintro i v ls mu own' h' gs' tk' hi ⟨k, rfl⟩ hJ' _ hg' S'
    rw [Int.mul_one]
    exact turn i k ls mu own' h' gs' tk' hi hJ' hg' S'
  · have := Heap.get?_push_size h (o := { cls := .type "range_iterator", data := .fields #[rawInt lo, rawInt (Builtin.Range.rangeSize lo hi 1), rawInt 1] }) rfl
    rw [hsz] at this
    simpa [IsRangeIter, hsz] using this
/-- for target in range(n) -/
theorem forR1E {target : Expr} {body : List Stmt} {n : Nat} {u : Tok} {R : Result → Shared → Prop} (J : Nat → List (Option Value) → List (Addr × Obj) → Prop) (S : St g L h nm ls mu) (hh : A.handled = none) (hgs : AllBare gs)
    (hhi : n < 2 ^ 32)
    (turn : ∀ (i : Nat) k ls mu own h gs tk, i < n → J i ls mu → AllBare gs → St g L h nm ls (mu ++ own) →
      ∀ T : Flow → Shared → Prop, (∀ f s', Turn g L nm own dr os (J (i + 1)) R f s' → T f s') → wpAny (model prog w) A (assign target env (.int i k)) (fun _ s₁ => wpAny (model prog w) A (execs body env) T (fun _ _ => False) s₁) (fun _ _ => False) ⟨h, gs, dr, tk, os⟩)
    (done : ∀ ls mu h gs tk, J n ls mu → AllBare gs → St g L h nm ls mu → R (.ok .next) ⟨h, gs, dr, tk, os⟩) (hJ : J 0 ls mu) (go : ∀ it v, letOwnedTupleGo target it v = pure () := by exact fun _ _ => rfl) :
    wpAny (model prog w) A (call (.type "range") [.int n u]) (fun it0 s₁ => wpAny (model prog w) A (pyIter it0) (fun it s₂ => codeAny (model prog w) A (.forLoop target it body [] env) R s₂) E s₁) E ⟨h, gs, dr, tk, os⟩ := by
  refine call_range_1 (s := ⟨h, gs, dr, tk, os⟩) ?_
  refine forRE (n := n) J ((S.push _).drop (List.sublist_cons_self _ _)) hh hgs (IsRange.new h 0 n 1 tk u (tk + 1)) (by split <;> lia) (by decide) (by omega) (fun i k ls mu own h gs tk hi hJ hg S => ?_) done hJ go
  rw [Int.zero_add]
  exact turn i k ls mu own h gs tk hi hJ hg S
end
end Mine
end
section
set_option Elab.async false
set_option maxRecDepth 100000
set_option linter.unusedVariables false
set_option linter.unusedSimpArgs false
namespace Mine
open PySem PySem.W PySem.Calls PyProof.Rows
section
variable {prog : Program} {w : World} {A : Around} {E : Value → Shared → Prop} {h g : Heap} {gs : Array GenState} {dr : Drawn} {tk : Nat} {os : OsState} {L a : Addr} {nm : List Str} {ls : List (Option Value)} {mu own : List (Addr × Obj)} {env : Env}
/-- an inner frame C is left -/
theorem St.leave {h0 h' : Heap} {C : Addr} {nmc : List Str} {lsc : List (Option Value)} {mu0 mu' : List (Addr × Obj)} (S0 : St g L h0 nm ls mu0) (S' : St (hideAll h0 (mu0.map (·.1))) C h' nmc lsc mu') (hC : h0.objs.size ≤ C) :
    ∃ oC, St g L h' nm ls ((C, oC) :: mu') ∧ ∀ h3 : Heap, h3.get? C = some oC → ∃ m, h3.Ns C m := by
  obtain ⟨oL, es, ep, hL, r⟩ := S0.F.ns
  obtain ⟨oC, es', ep', hC', r'⟩ := S'.F.ns
  have hL' : (hideAll h0 (mu0.map (·.1))).get? L = some oL := hideAll_get _ hL fun m => by
    obtain ⟨p, hp, e⟩ := List.mem_map.mp m
    exact (S0.N p hp).2.1 e
  have hb : ∀ b o, g.get? b = some o → (hideAll h0 (mu0.map (·.1))).get? b = some o := fun b o e => hideAll_get _ (S0.F.keep b o e) fun m => by
    obtain ⟨p, hp, e'⟩ := List.mem_map.mp m
    have := (S0.N p hp).2.2
    rw [e', e] at this; cases this
  have hlt : L < h0.objs.size := Heap.lt_size hL
  refine ⟨oC, ⟨⟨⟨oL, es, ep, S'.F.keep _ _ hL', r⟩, fun b o e => S'.F.keep _ _ (hb b o e), S0.F.above⟩, fun p hp => ?_, ?_⟩, fun h3 e => ⟨_, oC, es', ep', e, r'⟩⟩
  · rcases List.mem_cons.mp hp with rfl | hp
    · refine ⟨hC', Nat.ne_of_gt (Nat.lt_of_lt_of_le hlt hC), ?_⟩
      cases e : g.get? C with
      | none => rfl
      | some o => exact absurd (Heap.lt_size (S0.F.keep _ _ e)) (Nat.not_lt.mpr hC)
    · have P := S'.N p hp
      refine ⟨P.1, fun e => ?_, ?_⟩
      · have := P.2.2
        rw [e, hL'] at this; cases this
      · cases e : g.get? p.1 with
        | none => rfl
        | some o => have := P.2.2; rw [hb _ _ e] at this; cases this
  · refine List.nodup_cons.mpr ⟨fun m => ?_, S'.nd⟩
    obtain ⟨p, hp, e⟩ := List.mem_map.mp m
    exact (S'.N p hp).2.1 e
theorem St.forget {h' : Heap} {C : Addr} {o : Obj} (S : St g L h nm ls ((C, o) :: mu)) (hs : Heap.SameBut C h h') : St g L h' nm ls mu := by
  obtain ⟨oL, es, ep, hL, r⟩ := S.F.ns
  have P := S.N _ (.head _)
  have nd := List.nodup_cons.mp S.nd
  refine ⟨⟨⟨oL, es, ep, (hs.2 _ (Ne.symm P.2.1)).trans hL, r⟩, fun b x e => (hs.2 _ fun z => ?_).trans (S.F.keep b x e), S.F.above⟩, fun p hp => ?_, nd.2⟩
  · have := P.2.2; rw [← z, e] at this; cases this
  · have Q := S.N p (.tail _ hp)
    exact ⟨(hs.2 _ fun z => nd.1 (List.mem_map.mpr ⟨p, hp, z⟩)).trans Q.1, Q.2⟩

/-- what a comprehension's turn must show -/
inductive CT (g : Heap) (C D : Addr) (nm : List Str) (own : List (Addr × Obj)) (dr : Drawn) (os : OsState) (J : List Value → List (Option Value) → List (Addr × Obj) → Prop) (ys : List Value) (m : Nat) (s' : Shared) : Prop
  | mk (ls' mu' h' gs' tk') (q0 : s' = ⟨h', gs', dr, tk', os⟩) (q1 : AllBare gs') (q2 : St g C h' nm ls' ((D, lob ys m) :: mu' ++ own)) (q3 : J ys ls' mu') : CT g C D nm own dr os J ys m s'
inductive CE1 (g : Heap) (C D : Addr) (nm : List Str) (own : List (Addr × Obj)) (dr : Drawn) (os : OsState) (J : List Value → List (Option Value) → List (Addr × Obj) → Prop) (ys : List Value) (m : Nat) (v : Value) (s' : Shared) : Prop
  | mk (ls' mu' h' gs' tk') (q0 : s' = ⟨h', gs', dr, tk', os⟩) (q1 : AllBare gs') (q2 : St g C h' nm ls' ((D, lob ys m) :: mu' ++ own)) (q3 : J (ys ++ [v]) ls' mu') : CE1 g C D nm own dr os J ys m v s'


inductive CmJ1 (g : Heap) (dr : Drawn) (os : OsState) (own : List (Addr × Obj)) (D : Addr) (C : Addr) (n : Nat) (Sx : Nat → Heap → Prop) (nmc : List Str) (J : Nat → List Value → List (Option Value) → List (Addr × Obj) → Prop) (k : Nat) (s : Shared) : Prop
  | mk (i ys m ls mu own' h gs tk) (q1 : k = n - i) (q2 : i ≤ n) (q3 : s = ⟨h, gs, dr, tk, os⟩) (q4 : J i ys ls mu) (q5 : ys.length ≤ i) (q6 : own'.map (·.1) = own.map (·.1)) (q7 : AllBare gs) (q8 : St g C h nmc ls ((D, lob ys m) :: mu ++ own')) (q9 : Sx i h) : CmJ1 g dr os own D C n Sx nmc J k s
theorem compLoopG {elt target iter : Expr} {ifs : List Expr} {scope : Scope} {pos : Pos} {I D C : Addr} {fp wr : List Addr} {n : Nat} {P : Nat → Value → Prop} {Sx : Nat → Heap → Prop} {R : Result → Shared → Prop} {nmc : List Str} {lsc : List (Option Value)} {m : Nat}
    (J : Nat → List Value → List (Option Value) → List (Addr × Obj) → Prop) (W : Walks prog w A I fp wr n P Sx) (hfp : ∀ b ∈ fp, b ∈ own.map (·.1) ∨ (∃ o, g.get? b = some o) ∨ ∃ o, ∀ i ys ls mu, J i ys ls mu → (b, o) ∈ mu) (hwr : ∀ b ∈ wr, b ∈ own.map (·.1))
    (live : ∀ i h, Sx i h → ∀ b ∈ wr, ∃ o, h.get? b = some o) (hn : n ≤ 1000)
    (turn : ∀ i v ys m ls mu own' h gs tk, i < n → P i v → J i ys ls mu → ys.length ≤ i → own'.map (·.1) = own.map (·.1) → AllBare gs → St g C h nmc ls ((D, lob ys m) :: mu ++ own') →
      ∀ (T1 : Value → Shared → Prop) (T0 : Shared → Prop), (∀ x s', CE1 g C D nmc own' dr os (J (i + 1)) ys m x s' → T1 x s') → (∀ s', CT g C D nmc own' dr os (J (i + 1)) ys m s' → T0 s') → wpAny (model prog w) A (assign target env v) (fun _ s₂ => wpAny (model prog w) A (forIn ifs true fun c r => if r = true then do let ok ← isTrue c env (eval c env); pure (ForInStep.yield ok) else pure (ForInStep.yield r)) (fun ok s₃ =>
        if ok = true then wpAny (model prog w) A (eval elt env) T1 (fun _ _ => False) s₃ else T0 s₃) (fun _ _ => False) s₂) (fun _ _ => False) ⟨h, gs, dr, tk, os⟩)
    (done : ∀ ys m ls mu h gs tk, J n ys ls mu → ys.length ≤ n → AllBare gs → St g C h nmc ls ((D, lob ys m) :: mu) → R (.ok .next) ⟨h, gs, dr, tk, os⟩)
    (hJ : J 0 [] lsc mu) (S : St g C h nmc lsc ((D, lob [] m) :: mu ++ own)) (hS : Sx 0 h) (hgs : AllBare gs) (ht : ∀ it v, letOwnedTupleGo target it v = pure () := by exact fun _ _ => rfl) :
    codeAny (model prog w) A (.compLoop (.ListComp elt [⟨target, iter, ifs, 0⟩] scope pos) 0 (.ref I) (.ref D) env) R ⟨h, gs, dr, tk, os⟩ := by
  refine codeAny_compLoop_tests (CmJ1 g dr os own D C n Sx nmc J) ?_ n
    ⟨0, [], m, lsc, mu, own, h, gs, tk, by lia, Nat.zero_le _, rfl, hJ, Nat.le_refl _, rfl, hgs, S, hS⟩ (ht _)
  rintro k s ⟨i, ys, m, ls, mu, own', h, gs, tk, rfl, hi, rfl, hJ, hlen, ho, hgs, S, hS⟩
  rcases Nat.lt_or_ge i n with hlt | hge
  · refine W.item i _ _ _ hlt hS fun v h' tk' hP hS' keep => ?_
    have S1 : St g C h nmc ls (((D, lob ys m) :: mu) ++ own') := S
    obtain ⟨own'', e, S'⟩ := S1.turn (wr := wr) (by rw [ho]; exact hwr) keep (live _ _ hS')
    refine wpAny_mono (turn i v ys m ls mu own'' h' gs tk' hlt hP hJ hlen (e.trans ho) hgs S' _ _ (fun _ _ h => h) fun _ h => h) (fun _ s₂ h₂ => ?_) fun _ _ x => x.elim
    refine wpAny_mono h₂ (fun ok s₃ h₃ => ?_) fun _ _ x => x.elim
    have fin : ∀ ys' m' ls' mu' h3 gs' tk3, ys'.length ≤ i + 1 → AllBare gs' → St g C h3 nmc ls' ((D, lob ys' m') :: mu' ++ own'') → J (i + 1) ys' ls' mu' → ∃ q, q < n - i ∧ CmJ1 g dr os own D C n Sx nmc J q ⟨h3, gs', dr, tk3, os⟩ := by
      intro ys' m' ls' mu' h3 gs' tk3 hl' hg3 S3 hJ3
      refine ⟨n - (i + 1), by (clear hl' e ho hlen hi hn; lia), i + 1, ys', m', ls', mu', own'', h3, gs', tk3, rfl, hlt, rfl, hJ3, hl', e.trans ho, hg3, S3, frame_on (own := own) (J := fun ls mu => ∃ mu2, mu = (D, lob ys m) :: mu2 ∧ J i ys ls mu2) (J' := fun ls mu => ∃ mu2, mu = (D, lob ys' m') :: mu2 ∧ J (i + 1) ys' ls mu2) W (fun b hb => ?_) (e.trans ho) S' S3 ⟨_, rfl, hJ⟩ ⟨_, rfl, hJ3⟩ hS'⟩
      rcases hfp b hb with x | x | ⟨o, x⟩
      · exact .inl x
      · exact .inr (.inl x)
      · refine .inr (.inr ⟨o, ?_, ?_⟩)
        · rintro ls _ ⟨mu2, rfl, j⟩; exact .tail _ (x _ _ _ _ j)
        · rintro ls _ ⟨mu2, rfl, j⟩; exact .tail _ (x _ _ _ _ j)
    cases ok with
    | false =>
      rw [if_neg (by decide)] at h₃ ⊢
      obtain ⟨ls', mu', h3, gs', tk3, rfl, hg3, S3, hJ3⟩ := h₃
      exact fin ys m ls' mu' h3 gs' tk3 (Nat.le_succ_of_le hlen) hg3 S3 hJ3
    | true =>
      rw [if_pos rfl] at h₃ ⊢
      refine wpAny_mono h₃ (fun x s₄ h₄ => ?_) fun _ _ x => x.elim
      obtain ⟨ls', mu', h3, gs', tk3, rfl, hg3, S3, hJ3⟩ := h₄
      refine append_ (j := 0) S3 rfl (by lia) fun h5 S5 => ?_
      exact fin (ys ++ [x]) (m + 1) ls' mu' h5 gs' tk3 (by simpa using hlen) hg3 S5 hJ3
  · obtain rfl : i = n := by lia
    have S1 : St g C h nmc ls (((D, lob ys m) :: mu) ++ own') := S
    refine W.done _ _ _ hS fun h' tk' keep => done ys m ls mu h' gs tk' hJ hlen hgs (S1.leftOwn (by rw [ho]; exact hwr) keep)

/-- the comprehension's own environment -/
noncomputable abbrev cenvOf (scope : Scope) (cl : List (Str × Addr)) (C : Addr) (env : Env) : Env := compEnvC scope (cellsFrom (C + 1) scope.names cl) C env
theorem newEnvC {scope : Scope} {cl : List (Str × Addr)} {Q : Env → Shared → Prop}
    (k : Q { scope := scope, locals := h.objs.size, globals := env.globals, cells := cellsFrom (h.objs.size + 1) scope.names cl, qual := env.qual, func := none, code := env.code, frame := env.frame, builtins := env.builtins } ⟨pushCells (h.push { cls := .type "dict", data := .dict #[] }) scope.names, gs, dr, tk, os⟩) :
    wpAny (model prog w) A (newFunctionEnv scope env.globals cl [] env.qual none .none (some env)) Q E ⟨h, gs, dr, tk, os⟩ := by
  simp only [newFunctionEnv, Option.isSome_some, if_true]
  refine wpAny_bind (wpAny_alloc ?_)
  refine wpAny_bind (wpAny_layCells _ (fun name kind cells => by cases hkc : kind == NameKind.cell <;> simp [hkc]) _ _ _ _ ?_)
  have e1 : (⟨h.push { cls := .type "dict", data := .dict #[] }, gs, dr, tk, os⟩ : Shared).heap.objs.size = h.objs.size + 1 := Heap.size_push ..
  rw [show ({ (⟨h, gs, dr, tk, os⟩ : Shared) with heap := (⟨h, gs, dr, tk, os⟩ : Shared).heap.push { cls := .type "dict", data := .dict #[] } } : Shared).heap.objs.size = h.objs.size + 1 from Heap.size_push ..]
  rw [List.forIn_nil]
  exact wpAny_bind (wpAny_pure (wpAny_pure k))
theorem St.inner {scope : Scope} (S : St g L h nm ls mu) (nmc : List Str) : St (hideAll h (mu.map (·.1))) h.objs.size (pushCells (h.push { cls := .type "dict", data := .dict #[] }) scope.names) nmc (nmc.map fun _ => none) (led0 (h.objs.size + 1) scope.names ++ mu) := by
  have hnew : ∀ p ∈ led0 (h.objs.size + 1) scope.names, h.objs.size < p.1 := fun p hp => led0_ge _ _ p hp
  refine ⟨⟨?_, fun b o e => pushCells_keeps _ _ b o (Heap.get?_push_of_some _ (of_hideAll _ e)), Nat.le_of_eq (hideAll_size _ _)⟩, fun p hp => ?_, ?_⟩
  · have := (Heap.Ns.new h (.type "dict")).keeps (pushCells_keeps scope.names _)
    rw [look_none]; exact this
  · rcases List.mem_append.mp hp with hp | hp
    · refine ⟨led0_at _ _ p (by rw [Heap.size_push]; exact hp), Nat.ne_of_gt (hnew p hp), ?_⟩
      cases e : (hideAll h (mu.map (·.1))).get? p.1 with
      | none => rfl
      | some o' => exact absurd (Heap.lt_size (of_hideAll _ e)) (Nat.not_lt.mpr (Nat.le_of_lt (hnew p hp)))
    · exact ⟨pushCells_keeps _ _ _ _ (Heap.get?_push_of_some _ (S.N p hp).1), Nat.ne_of_lt (Heap.lt_size (S.N p hp).1), hideAll_none _ (List.mem_map_of_mem hp)⟩
  · rw [List.map_append, List.nodup_append]
    refine ⟨led0_nd _ _, S.nd, fun a ha b hb e => ?_⟩
    obtain ⟨p, hp, rfl⟩ := List.mem_map.mp ha
    obtain ⟨p', hp', rfl⟩ := List.mem_map.mp hb
    have h1 := hnew p hp
    have h2 := Heap.lt_size (S.N p' hp').1
    exact absurd e (Nat.ne_of_gt (Nat.lt_trans h2 h1))
end
end Mine
end
section
set_option Elab.async false
set_option maxRecDepth 100000
set_option linter.unusedVariables false
set_option linter.unusedSimpArgs false
namespace Mine
open PySem PySem.W PySem.Calls PyProof.Rows
section
variable {prog : Program} {w : World} {A : Around} {E : Value → Shared → Prop} {h g : Heap} {gs : Array GenState} {dr : Drawn} {tk : Nat} {os : OsState} {L a : Addr} {nm : List Str} {ls : List (Option Value)} {mu own : List (Addr × Obj)} {env : Env}
noncomputable abbrev CJ := Addr → Addr → Nat → List Value → List (Option Value) → List (Addr × Obj) → Prop
/-- what a turn of the comprehension must show -/
noncomputable abbrev CTurn (prog : Program) (w : World) (A : Around) (env : Env) (scope : Scope) (cl : List (Str × Addr)) (target elt : Expr) (ifs : List Expr) (nmc : List Str) (dr : Drawn) (os : OsState) (J : CJ) (n : Nat) (P : Nat → Value → Prop) (base : Heap → Prop) : Prop :=
  ∀ g' C D, base g' → ∀ i v ys m ls mu own h gs tk, i < n → P i v → J C D i ys ls mu → ys.length ≤ i → AllBare gs → St g' C h nmc ls ((D, lob ys m) :: mu ++ own) →
      ∀ (T1 : Value → Shared → Prop) (T0 : Shared → Prop), (∀ x s', CE1 g' C D nmc own dr os (J C D (i + 1)) ys m x s' → T1 x s') → (∀ s', CT g' C D nmc own dr os (J C D (i + 1)) ys m s' → T0 s') → wpAny (model prog w) A (assign target (cenvOf scope cl C env) v) (fun _ s₂ => wpAny (model prog w) A (forIn ifs true fun c r => if r = true then do let ok ← isTrue c (cenvOf scope cl C env) (eval c (cenvOf scope cl C env)); pure (ForInStep.yield ok) else pure (ForInStep.yield r)) (fun ok s₃ =>
        if ok = true then wpAny (model prog w) A (eval elt (cenvOf scope cl C env)) T1 (fun _ _ => False) s₃ else T0 s₃) (fun _ _ => False) s₂) (fun _ _ => False) ⟨h, gs, dr, tk, os⟩
theorem compCore {elt target iter : Expr} {ifs : List Expr} {scope : Scope} {pos : Pos} {cl : List (Str × Addr)} {I : Addr} {fp wr : List Addr} {n : Nat} {P : Nat → Value → Prop} {Sx : Nat → Heap → Prop} {RR : Value → Addr → Result → Shared → Prop} (nmc : List Str)
    (J : CJ) (W : Walks prog w A I fp wr n P Sx) (hfp : ∀ b ∈ fp, b ∈ own.map (·.1) ∨ (∃ o, g.get? b = some o) ∨ ∃ o, ∀ C D i ys ls mu, J C D i ys ls mu → (b, o) ∈ mu) (hwr : ∀ b ∈ wr, b ∈ own.map (·.1))
    (live : ∀ i h, Sx i h → ∀ b ∈ wr, ∃ o, h.get? b = some o) (hn : n ≤ 1000)
    (turn : CTurn prog w A env scope cl target elt ifs nmc dr os J n P (Sub g))
    (done : ∀ C D oC ys m lsc mu h gs tk, J C D n ys lsc mu → ys.length ≤ n → AllBare gs → St g L h nm ls ((C, oC) :: (D, lob ys m) :: mu) → (∀ h3 : Heap, h3.get? C = some oC → ∃ m, h3.Ns C m) → RR (.ref D) C (.ok .next) ⟨h, gs, dr, tk, os⟩)
    (hJ : ∀ C D, J C D 0 [] (nmc.map fun _ => none) (led0 (C + 1) scope.names ++ mu)) (S : St g L h nm ls (mu ++ own)) (hS : Sx 0 h) (hgs : AllBare gs) (ht : ∀ it v, letOwnedTupleGo target it v = pure () := by exact fun _ _ => rfl) :
    wpAny (model prog w) A (newList []) (fun acc s₃ => wpAny (model prog w) A (newFunctionEnv scope env.globals cl [] env.qual none .none (some env)) (fun cenv s₄ =>
      codeAny (model prog w) A (.compStart (.ListComp elt [⟨target, iter, ifs, 0⟩] scope pos) 0 (.ref I) acc { cenv with scope := relabel scope env }) (RR acc cenv.locals) s₄) E s₃) E ⟨h, gs, dr, tk, os⟩ := by
  refine newL S (by simp) fun h1 S1 => ?_
  refine newEnvC (gs := gs) (dr := dr) (tk := tk) (os := os) ?_
  have S2 := S1.inner (scope := scope) nmc
  have hsub : Sub g (hideAll h1 (((h.objs.size, (⟨.type "list", none, .seq ([] : List Value).toArray 0, #[]⟩ : Obj)) :: (mu ++ own)).map (·.1))) := fun b o e => hideAll_get _ (S1.F.keep b o e) fun m => by
    obtain ⟨p, hp, e'⟩ := List.mem_map.mp m
    have := (S1.N p hp).2.2
    rw [e', e] at this; cases this
  have S3 : St (hideAll h1 (((h.objs.size, (⟨.type "list", none, .seq ([] : List Value).toArray 0, #[]⟩ : Obj)) :: (mu ++ own)).map (·.1))) h1.objs.size (pushCells (h1.push { cls := .type "dict", data := .dict #[] }) scope.names) nmc (nmc.map fun _ => none) ((h.objs.size, lob [] 0) :: (led0 (h1.objs.size + 1) scope.names ++ mu) ++ own) := by
    refine S2.perm ?_
    simp only [List.cons_append, List.append_assoc]
    exact List.perm_middle
  have hS3 : Sx 0 (pushCells (h1.push { cls := .type "dict", data := .dict #[] }) scope.names) := W.frame _ _ _ hS fun b hb o e => by
    have e1 : ∀ b o, h.get? b = some o → (pushCells (h1.push { cls := .type "dict", data := .dict #[] }) scope.names).get? b = some o → True := fun _ _ _ _ => trivial
    rcases hfp b hb with hm | ⟨o', hg⟩ | ⟨o', hj⟩
    · obtain ⟨p, hp, rfl⟩ := List.mem_map.mp hm
      have a1 := (S.N p (List.mem_append_right _ hp)).1
      have a2 := (S3.N p (List.mem_append_right _ hp)).1
      rw [a1] at e; cases e; exact a2
    · have a1 := S.F.keep _ _ hg
      rw [a1] at e; cases e
      exact S3.F.keep _ _ (hsub _ _ hg)
    · have hm := hj _ _ _ _ _ _ (hJ h1.objs.size h.objs.size)
      have a2 := (S3.N _ (List.mem_append_left _ (.tail _ hm))).1
      rcases List.mem_append.mp hm with hm | hm
      · have := led0_ge _ _ _ hm
        have h2 := Heap.lt_size e
        have h3 : h.objs.size ≤ h1.objs.size := Nat.le_of_lt (Heap.lt_size (S1.N _ (.head _)).1)
        exact absurd this (Nat.not_le.mpr (Nat.lt_succ_of_le (Nat.le_of_lt (Nat.lt_of_lt_of_le h2 h3))))
      · have a1 := (S.N _ (List.mem_append_left _ hm)).1
        rw [a1] at e; cases e; exact a2
  have loop : ∀ tk, codeAny (model prog w) A (.compLoop (.ListComp elt [⟨target, iter, ifs, 0⟩] scope pos) 0 (.ref I) (.ref h.objs.size) (cenvOf scope cl h1.objs.size env)) (RR (.ref h.objs.size) h1.objs.size) ⟨pushCells (h1.push { cls := .type "dict", data := .dict #[] }) scope.names, gs, dr, tk, os⟩ := by
    intro tk
    refine compLoopG (own := own) (J h1.objs.size h.objs.size) W (fun b hb => ?_) hwr live hn (fun i v ys m ls mu own' h gs tk hi hP hJ hl ho hg S => turn _ _ _ hsub i v ys m ls mu own' h gs tk hi hP hJ hl hg S) (fun ys m lsc mu' h' gs' tk' hJ' hl hg' S' => ?_) (hJ _ _) S3 hS3 hgs ht
    · rcases hfp b hb with x | ⟨o, x⟩ | ⟨o, x⟩
      · exact .inl x
      · exact .inr (.inl ⟨o, hsub _ _ x⟩)
      · exact .inr (.inr ⟨o, x _ _⟩)
    · obtain ⟨oC, S4, hC⟩ := S1.leave S' (Nat.le_refl _)
      exact done _ _ oC ys m lsc mu' h' gs' tk' hJ' hl hg' S4 hC
  refine codeAny_compStart_list (loop tk) (W.self 0 _ _ _ hS3 (loop tk))
/-- the list is the value of the expression -/
theorem compNone {scope : Scope} {e : Expr} {cl : List (Str × Addr)} {Q : Value → Shared → Prop} {D C : Addr} {oC : Obj} {ys : List Value} {m : Nat} (S : St g L h nm ls ((C, oC) :: (D, lob ys m) :: mu)) (hC : ∀ h3 : Heap, h3.get? C = some oC → ∃ m, h3.Ns C m)
    (k : ∀ h', St g L h' nm ls ((D, lob ys m) :: mu) → Q (.ref D) ⟨h', gs, dr, tk, os⟩) : compPost (model prog w) A E none Q (.ref D) C (.ok .next) ⟨h, gs, dr, tk, os⟩ := by
  obtain ⟨m', hm⟩ := hC h (S.N _ (.head _)).1
  exact ⟨m', hm, fun h' hs => k h' (S.forget hs)⟩
/-- an iterator over a list, a range -/
theorem overL {l : Addr} {items : List Value} {K : Value → Shared → Prop} (S : St g L h nm ls mu) (hh : A.handled = none) (hl : h.IsList l items.toArray) (hb : (∃ o, g.get? l = some o) ∨ ∃ o, (l, o) ∈ mu)
    (k : ∀ I h1 own, l ≠ I → St g L h1 nm ls (mu ++ own) → own.map (·.1) = [I] → (h1.IsListIter I l 0 ∧ h1.IsList l items.toArray) → Walks prog w A I [I, l] [I] items.length (fun i v => items[i]? = some v) (fun i h => h.IsListIter I l i ∧ h.IsList l items.toArray) → K (.ref I) ⟨h1, gs, dr, tk, os⟩) :
    wpAny (model prog w) A (pyIter (.ref l)) K E ⟨h, gs, dr, tk, os⟩ := by
  refine wpAny_pyIter_list (s := ⟨h, gs, dr, tk, os⟩) hl ?_
  have hlt : l < h.objs.size := by obtain ⟨o, ho, _⟩ := hl; exact Heap.lt_size ho
  refine k _ _ [(h.objs.size, _)] (Nat.ne_of_lt hlt) (S.push _).last rfl ⟨⟨_, Heap.get?_push_size _ rfl, rfl, rfl⟩, hl.at fun o e => Heap.get?_push_of_some _ e⟩ ?_
  have W := Walks.list (prog := prog) (w := w) hh h.objs.size l (Nat.ne_of_lt hlt) items.toArray
  simpa using W
theorem overR {r : Addr} {lo hi : Int} {n : Nat} {t u v : Tok} {K : Value → Shared → Prop} (S : St g L h nm ls mu) (hh : A.handled = none) (hr : IsRange h r lo hi 1 t u v) (hn : (n : Int) = if lo < hi then hi - lo else 0) (hlo : lo.natAbs < 2 ^ 32) (hhi : hi.natAbs < 2 ^ 32)
    (k : ∀ I h1 own, St g L h1 nm ls (mu ++ own) → own.map (·.1) = [I] → IsRangeIter h1 I (lo + (0 : Nat) * 1) ((n : Int) - (0 : Nat)) 1 → Walks prog w A I [I] [I] n (fun i v => ∃ t, v = .int (lo + i * 1) t) (fun i h => IsRangeIter h I (lo + (i : Nat) * 1) ((n : Int) - (i : Nat)) 1) → K (.ref I) ⟨h1, gs, dr, tk, os⟩) :
    wpAny (model prog w) A (pyIter (.ref r)) K E ⟨h, gs, dr, tk, os⟩ := by
  have hsz : Builtin.Range.rangeSize lo hi 1 = (n : Int) := by rw [rangeSize_one, hn]
  have hsmall : Builtin.Range.small lo hi 1 = true := by
    unfold Builtin.Range.small
    rw [hsz]
    simp only [Builtin.Range.rangeFitsLong]
    split at hn <;> simp <;> omega
  refine wpAny_pyIter_range (s := ⟨h, gs, dr, tk, os⟩) hr hsmall ?_
  have W := Walks.range (prog := prog) (w := w) hh h.objs.size lo 1 n
  refine k _ _ [(h.objs.size, _)] (S.push _).last rfl ?_ W
  have := Heap.get?_push_size h (o := { cls := .type "range_iterator", data := .fields #[rawInt lo, rawInt (Builtin.Range.rangeSize lo hi 1), rawInt 1] }) rfl
  rw [hsz] at this
  simpa [IsRangeIter, hsz] using this
end
end Mine
end
section
set_option Elab.async false
set_option maxRecDepth 100000
set_option linter.unusedVariables false
set_option linter.unusedSimpArgs false
namespace Mine
open PySem PySem.W PySem.Calls PyProof.Rows
structure ScF (scope : Scope) (env : Env) (cl : List (Str × Addr)) : Prop where
  clos : closureFor scope env = pure cl
  kind : scope.kind = .function
  names : ∀ y ∈ scope.names, y.2 = .local → scope.names.lookup y.1 = some .local
section
variable {prog : Program} {w : World} {A : Around} {E : Value → Shared → Prop} {h g : Heap} {gs : Array GenState} {dr : Drawn} {tk : Nat} {os : OsState} {L a : Addr} {nm : List Str} {ls : List (Option Value)} {mu own : List (Addr × Obj)} {env : Env}
noncomputable abbrev CB (prog : Program) (w : World) (A : Around) (E : Value → Shared → Prop) (env : Env) (scope : Scope) (cl : List (Str × Addr)) (e : Expr) (use : Option (Value → Sem Unit)) (Q : Value → Shared → Prop) (it : Value) (s₂ : Shared) : Prop :=
  wpAny (model prog w) A (newList []) (fun acc s₃ => wpAny (model prog w) A (newFunctionEnv scope env.globals cl [] env.qual none .none (some env)) (fun cenv s₄ =>
      codeAny (model prog w) A (.compStart e 0 it acc { cenv with scope := relabel scope env }) (compPost (model prog w) A E use Q acc cenv.locals) s₄) E s₃) E s₂
theorem lc_ {elt target iter : Expr} {ifs : List Expr} {rest : List Comprehension} {scope : Scope} {pos : Pos} {cl : List (Str × Addr)} {s : Shared} {Q : Value → Shared → Prop} (F : ScF scope env cl)
    (k : wpAny (model prog w) A (eval iter env) (fun xv s₁ => wpAny (model prog w) A (pyIter xv) (CB prog w A E env scope cl (.ListComp elt (⟨target, iter, ifs, 0⟩ :: rest) scope pos) none Q) E s₁) E s)
    (hs : ∀ x, foldedSetIterable iter env x = pure x := by intro _; rfl) : wpAny (model prog w) A (eval (.ListComp elt (⟨target, iter, ifs, 0⟩ :: rest) scope pos) env) Q E s := by
  rw [eval_ListComp]
  exact wpAny_comprehension_free (use := none) rfl hs F.clos F.kind F.names k
/-- over a range -/
theorem compRV {elt target iter : Expr} {ifs : List Expr} {scope : Scope} {pos : Pos} {cl : List (Str × Addr)} {r : Addr} {lo hi : Int} {n : Nat} {t u v : Tok} {Q : Value → Shared → Prop} (nmc : List Str) (J : CJ) (S : St g L h nm ls mu) (hh : A.handled = none) (hgs : AllBare gs)
    (hr : IsRange h r lo hi 1 t u v) (hn : (n : Int) = if lo < hi then hi - lo else 0) (hlo : lo.natAbs < 2 ^ 32) (hhi : hi.natAbs < 2 ^ 32) (hz : n ≤ 1000)
    (turn : CTurn prog w A env scope cl target elt ifs nmc dr os J n (fun i v => ∃ t, v = .int (lo + i * 1) t) (Sub g))
    (done : ∀ C D ys m lsc mu h gs tk, J C D n ys lsc mu → AllBare gs → St g L h nm ls ((D, lob ys m) :: mu) → Q (.ref D) ⟨h, gs, dr, tk, os⟩)
    (hJ : ∀ C D, J C D 0 [] (nmc.map fun _ => none) (led0 (C + 1) scope.names ++ mu)) (ht : ∀ it v, letOwnedTupleGo target it v = pure () := by exact fun _ _ => rfl) :
    wpAny (model prog w) A (pyIter (.ref r)) (CB prog w A E env scope cl (.ListComp elt [⟨target, iter, ifs, 0⟩] scope pos) none Q) E ⟨h, gs, dr, tk, os⟩ := by
  refine overR (n := n) S hh hr hn hlo hhi fun I h1 own S1 ho hS W => ?_
  refine compCore (own := own) nmc J W ?_ ?_ ?_ hz turn (fun C D oC ys m lsc mu' h' gs' tk' hJ' _ hg' S' hC => compNone (scope := scope) (e := elt) (cl := cl) S' hC fun h2 S2 => done C D ys m lsc mu' h2 gs' tk' hJ' hg' S2) hJ S1 hS hgs ht
  · intro b hb'; exact .inl (by rw [ho]; exact hb')
  · intro b hb'; rw [ho]; exact hb'
  · intro i h' hx b hb
    rw [List.mem_singleton.mp hb]; exact ⟨_, hx⟩
theorem tst1 {c : Expr} {Q : Bool → Shared → Prop} {s : Shared} (k : wpAny (model prog w) A (isTrue c env (eval c env)) Q E s) : wpAny (model prog w) A (forIn [c] true fun c r => if r = true then do let ok ← isTrue c env (eval c env); pure (ForInStep.yield ok) else pure (ForInStep.yield r)) Q E s := wpAny_tests_one k
end
end Mine
end
section
set_option Elab.async false
set_option maxRecDepth 100000
set_option linter.unusedVariables false
namespace Mine
open PySem PySem.W PySem.Calls PyProof.Rows
section
variable {prog : Program} {w : World} {A : Around} {E : Value → Shared → Prop} {h g : Heap} {gs : Array GenState} {dr : Drawn} {tk : Nat} {os : OsState} {L a : Addr} {nm : List Str} {ls : List (Option Value)} {mu own : List (Addr × Obj)} {q : Str} {sc : Scope} {cd : Value} {env : Env} {K : Frag} {mg mb : Str → Option Value}
theorem enterD {W : List Addr} {P : Value → Shared → Prop} {s : Shared} {f : Addr} {fd : FuncData} {qual : Str} {body : List Stmt} {cdv : Value} {args : Args} {binds : List (Str × Value)} (mu : List (Addr × Obj))
    (H : FnC K f fd qual sc body cdv) (D : Gd K mg mb s.heap) (hroom : A.depth < recursionLimit) (hbind : BindsTo s fd args binds)
    (hmu : ∀ p ∈ mu, s.heap.get? p.1 = some p.2) (nd : (mu.map (·.1)).Nodup) (hlimW : cStatics ∉ mu.map (·.1)) (nm : List Str) (lsn : List (Option Value)) (hlsn : nm.map (fun _ => none) = lsn) {cells : Nat → List (Addr × Obj)} (hcells : ∀ n, led0 n sc.names = cells n)
    (h : ∀ Po : Value → Shared → Prop, (∀ v s', Mod W s s' → P v s' → Po v s') → ∀ L h₁, L = s.heap.objs.size → St (hideAll s.heap (mu.map (·.1))) L h₁ nm lsn (cells (L + 1) ++ mu) →
      wpAny (model prog w) A.in1 (bindAll (envOfC qual sc L f cdv) binds) (fun _ s' => Sub (hideAll s.heap (mu.map (·.1))) s'.heap ∧
        wpAny (model prog w) (A.deeper (envOfC qual sc L f cdv)) (execs body (envOfC qual sc L f cdv)) (fun fl s' => Po (match fl with | .ret v => v | _ => .none) s') (fun _ _ => False) s') (fun _ _ => False)
        ⟨h₁, s.gens, s.drawn, s.toks, s.os⟩) : codeAny (model prog w) A (.call (.ref f) args) (Ret W s P) s := by
  refine enterC mu H D hroom hbind hmu nd nm (fun h₁ S => ?_) hlimW
  rw [hlsn, hcells] at S
  exact h (fun v s' => Mod W s s' ∧ P v s') (fun _ _ m p => ⟨m, p⟩) _ h₁ rfl S
/-- an end of a body, in a walk by St -/
theorem endP {W : List Addr} {P : Value → Shared → Prop} {Po : Value → Shared → Prop} {s : Shared} {v : Value} {nm : List Str} {ls : List (Option Value)} (hPo : ∀ v s', Mod W s s' → P v s' → Po v s') (S : St (hideAll s.heap W) L h nm ls mu) (hL : L = s.heap.objs.size) (hg : AllBare s.gens → AllBare gs) (hd : dr = s.drawn) (ho : os = s.os) (p : P v ⟨h, gs, dr, tk, os⟩) : Po v ⟨h, gs, dr, tk, os⟩ :=
  hPo _ _ (S.mod (t := 0) (Nat.le_of_eq hL.symm) hg rfl ho rfl hd) p
end
end Mine
end
section
set_option Elab.async false
set_option maxRecDepth 100000
set_option linter.unusedVariables false
namespace Mine
open PySem PySem.W PySem.Calls PyProof.Rows
noncomputable def MX (w : World) (R : Rel) (o : Obj) (oa ob : Option (Addr × List Int)) : Prop := ∃ vs, IV w.params an vs o ∧ MS prog w R vs oa ob
theorem MX.mono {w : World} {R R' : Rel} {o : Obj} {oa ob : Option (Addr × List Int)} (h : MX w R o oa ob) (m : ∀ b o, R b o → R' b o) : MX w R' o oa ob := let ⟨vs, i, s⟩ := h; ⟨vs, i, s.mono m⟩
section
variable {w : World} {A : Around} {E : Value → Shared → Prop} {mg mb : Str → Option Value} {h g : Heap} {gs : Array GenState} {dr : Drawn} {tk : Nat} {os : OsState} {L m d x : Addr} {nm : List Str} {ls : List (Option Value)} {mu : List (Addr × Obj)} {od op : Obj} {oa ob : Option (Addr × List Int)} {xs ys : List Int}
theorem kn_off {T : Addr} (S : St g L h nm ls ((d, od) :: (T, op) :: mu)) : ∀ b o, Kn g mu b o → h.get? b = some o ∧ b ≠ d ∧ b ≠ T := fun b o k => by
  have nd := S.nd
  rw [List.map_cons, List.map_cons, List.nodup_cons, List.nodup_cons] at nd
  rcases k with e | e
  · refine ⟨S.F.keep _ _ e, fun z => ?_, fun z => ?_⟩
    · have := (S.N _ (.head _)).2.2; rw [← z] at this; rw [e] at this; cases this
    · have := (S.N _ (.tail _ (.head _))).2.2; rw [← z] at this; rw [e] at this; cases this
  · have hm := List.mem_map_of_mem (f := (·.1)) e
    refine ⟨(S.N _ (.tail _ (.tail _ e))).1, fun z => nd.1 (.tail _ ?_), fun z => nd.2.1 ?_⟩
    · rw [← z]; exact hm
    · rw [← z]; exact hm
theorem callSet1 {Q : Value → Shared → Prop} (S : St g L h nm ls ((d, od) :: (220, op) :: mu)) (D : Gd (K w.params) mg mb g) (hA : A.handled = none) (hdep : A.depth + 2 < recursionLimit) (hgs : AllBare gs) {R : Rel} (hRk : ∀ b o, R b o → Kn g mu b o) (hm : R m (inst CM d)) (M : MX w R od oa ob) (hx : LI R x xs) (hl : xs.length ≤ 199)
    (k : ∀ h' gs' tk' od', AllBare gs' → St g L h' nm ls ((d, od') :: (220, op) :: mu) → MX w R od' (some (x, xs)) ob → Q .none ⟨h', gs', dr, tk', os⟩) : wpAny (model prog w) A (call (.ref 174) [.ref m, .ref x]) Q E ⟨h, gs, dr, tk, os⟩ := by
  obtain ⟨vs, I, H⟩ := M
  have hR : ∀ b o, R b o → h.get? b = some o ∧ b ≠ d ∧ b ≠ 220 := fun b o e => kn_off S b o (hRk b o e)
  have X : Gr w mg mb g d A ⟨h, gs, dr, tk, os⟩ 2 := ⟨D, S.F.keep, (S.N _ (.head _)).2.2, hA, hdep⟩
  refine callS (set1_spec X ⟨hm, ⟨od, S.get (j := 0) rfl, I⟩, fun b o e => ⟨(hR _ _ e).1, (hR _ _ e).2.1⟩, H⟩ hx hl) fun v h2 gs2 t2 M2 hv => ?_
  obtain ⟨rfl, vs2, o2, ho2, I2, H2⟩ := hv
  exact k h2 gs2 t2 o2 (M2.gens hgs) (S.call1 (s := ⟨h, gs, dr, tk, os⟩) (s' := ⟨h2, gs2, dr, t2, os⟩) (j := 0) M2 rfl ho2) ⟨vs2, I2, H2⟩
theorem callSet2 {Q : Value → Shared → Prop} (S : St g L h nm ls ((d, od) :: (220, op) :: mu)) (D : Gd (K w.params) mg mb g) (hA : A.handled = none) (hdep : A.depth + 4 < recursionLimit) (hgs : AllBare gs) {R : Rel} (hRk : ∀ b o, R b o → Kn g mu b o) (hm : R m (inst CM d)) (M : MX w R od oa ob) (hx : LI R x ys) (hl : ys.length ≤ 199)
    (k : ∀ h' gs' tk' od' new, AllBare gs' → St g L h' nm ls ((d, od') :: (220, op) :: (mu ++ new)) → MX w (R.and new) od' oa (some (x, ys)) → Q .none ⟨h', gs', dr, tk', os⟩) : wpAny (model prog w) A (call (.ref 181) [.ref m, .ref x]) Q E ⟨h, gs, dr, tk, os⟩ := by
  obtain ⟨vs, I, H⟩ := M
  have hR : ∀ b o, R b o → h.get? b = some o ∧ b ≠ d ∧ b ≠ 220 := fun b o e => kn_off S b o (hRk b o e)
  have X : Gr w mg mb g d A ⟨h, gs, dr, tk, os⟩ 4 := ⟨D, S.F.keep, (S.N _ (.head _)).2.2, hA, hdep⟩
  refine callS (set2_spec X hgs ⟨hm, ⟨od, S.get (j := 0) rfl, I⟩, fun b o e => ⟨(hR _ _ e).1, (hR _ _ e).2.1⟩, H⟩ hx hl) fun v h2 gs2 t2 M2 hv => ?_
  obtain ⟨rfl, vs2, o2, new, ho2, I2, F2, H2⟩ := hv
  exact k h2 gs2 t2 o2 new (M2.gens hgs) (S.callN (s := ⟨h, gs, dr, tk, os⟩) (s' := ⟨h2, gs2, dr, t2, os⟩) (j := 0) M2 rfl ho2 F2) ⟨vs2, I2, H2⟩
theorem callQuick {la lb : Addr} {Q : Value → Shared → Prop} (S : St g L h nm ls ((d, od) :: (220, op) :: mu)) (D : Gd (K w.params) mg mb g) (hA : A.handled = none) (hdep : A.depth + 3 < recursionLimit) (hgs : AllBare gs) {R : Rel} (hRk : ∀ b o, R b o → Kn g mu b o) (hm : R m (inst CM d)) (M : MX w R od (some (la, xs)) (some (lb, ys))) (hz : xs.length + ys.length ≠ 0)
    (k : ∀ h' gs' tk' od' new t, AllBare gs' → St g L h' nm ls ((d, od') :: (220, op) :: (mu ++ new)) → MX w (R.and new) od' (some (la, xs)) (some (lb, ys)) → Q (.float (ratioF (qm xs fun k => cnt k ys : Nat) (xs.length + ys.length)) (t + 1)) ⟨h', gs', dr, tk', os⟩) : wpAny (model prog w) A (call (.ref 232) [.ref m]) Q E ⟨h, gs, dr, tk, os⟩ := by
  obtain ⟨vs, I, H⟩ := M
  have hR : ∀ b o, R b o → h.get? b = some o ∧ b ≠ d ∧ b ≠ 220 := fun b o e => kn_off S b o (hRk b o e)
  have X : Gr w mg mb g d A ⟨h, gs, dr, tk, os⟩ 3 := ⟨D, S.F.keep, (S.N _ (.head _)).2.2, hA, hdep⟩
  refine callS (quick_spec X hgs ⟨hm, ⟨od, S.get (j := 0) rfl, I⟩, fun b o e => ⟨(hR _ _ e).1, (hR _ _ e).2.1⟩, H⟩ hz) fun v h2 gs2 t2 M2 hv => ?_
  obtain ⟨⟨t, rfl⟩, vs2, o2, new, ho2, I2, F2, H2⟩ := hv
  exact k h2 gs2 t2 o2 new t (M2.gens hgs) (S.callN (s := ⟨h, gs, dr, tk, os⟩) (s' := ⟨h2, gs2, dr, t2, os⟩) (j := 0) M2 rfl ho2 F2) ⟨vs2, I2, H2⟩
theorem callRquick {la lb : Addr} {Q : Value → Shared → Prop} (S : St g L h nm ls ((d, od) :: (220, op) :: mu)) (D : Gd (K w.params) mg mb g) (hA : A.handled = none) (hdep : A.depth + 2 < recursionLimit) (hgs : AllBare gs) {R : Rel} (hRk : ∀ b o, R b o → Kn g mu b o) (hm : R m (inst CM d)) (M : MX w R od (some (la, xs)) (some (lb, ys))) (hz : xs.length + ys.length ≠ 0)
    (k : ∀ h' gs' tk' t, AllBare gs' → St g L h' nm ls ((d, od) :: (220, op) :: mu) → Q (.float (ratioF (min xs.length ys.length : Int) (xs.length + ys.length)) (t + 1)) ⟨h', gs', dr, tk', os⟩) : wpAny (model prog w) A (call (.ref 239) [.ref m]) Q E ⟨h, gs, dr, tk, os⟩ := by
  obtain ⟨vs, I, H⟩ := M
  have hR : ∀ b o, R b o → h.get? b = some o ∧ b ≠ d ∧ b ≠ 220 := fun b o e => kn_off S b o (hRk b o e)
  obtain ⟨e1, ⟨ia, na, hao, hai⟩, hxl⟩ := H.a
  obtain ⟨e2, ⟨ib, nb, hbo, hbi⟩, hyl, _⟩ := H.b
  have hlen := H.len
  obtain ⟨⟨ts, n, e, hts⟩, hle⟩ := I
  have htk : an.take vs.length = an := List.take_of_length_le (by rw [hlen]; exact Nat.le_of_ble_eq_true rfl)
  rw [htk] at e
  refine callS (rquick_spec (s := ⟨h, gs, dr, tk, os⟩) (xs := ia) (ys := ib) (D.keeps S.F.keep) hA hdep (hR _ _ hm).1 (e ▸ S.get (j := 0) rfl) (by rw [hts, hlen]; rfl) e1 e2 (lob_list (hR _ _ hao).1) (lob_list (hR _ _ hbo).1) (by rw [hai.length]; (clear htk hts e hle hlen hyl e2 e1 hz hdep hA; lia)) (by rw [hbi.length]; (clear htk hts e hle hlen e2 hxl e1 hz hdep hA; lia)) (by rw [hai.length, hbi.length]; exact hz)) fun v h2 gs2 t2 M2 hv => ?_
  obtain ⟨t, rfl⟩ := hv
  rw [hai.length, hbi.length]
  exact k h2 gs2 t2 t (M2.gens hgs) (S.call0 (s := ⟨h, gs, dr, tk, os⟩) (s' := ⟨h2, gs2, dr, t2, os⟩) M2)
theorem callRatio {la lb : Addr} {Q : Value → Shared → Prop} (S : St g L h nm ls ((d, od) :: (220, op) :: mu)) (D : Gd (K w.params) mg mb g) (hA : A.handled = none) (hdep : A.depth + 8 < recursionLimit) (hu : A.units + 12 < cLine) (hgs : AllBare gs) {R : Rel} (hRk : ∀ b o, R b o → Kn g mu b o) (hm : R m (inst CM d)) (M : MX w R od (some (la, xs)) (some (lb, ys))) (hct : CodeTab op) (hz : xs.length + ys.length ≠ 0) (hmin : xs.length < 64 ∨ ys.length < 64)
    (k : ∀ h' gs' tk' od' op' new t tot, AllBare gs' → CodeTab op' → GM xs ys 0 xs.length 0 ys.length tot → St g L h' nm ls ((d, od') :: (220, op') :: (mu ++ new)) → MX w (R.and new) od' (some (la, xs)) (some (lb, ys)) → Q (.float (ratioF tot (xs.length + ys.length)) (t + 1)) ⟨h', gs', dr, tk', os⟩) : wpAny (model prog w) A (call (.ref 225) [.ref m]) Q E ⟨h, gs, dr, tk, os⟩ := by
  obtain ⟨vs, I, H⟩ := M
  have hR : ∀ b o, R b o → h.get? b = some o ∧ b ≠ d ∧ b ≠ 220 := fun b o e => kn_off S b o (hRk b o e)
  have X : Gr w mg mb g d A ⟨h, gs, dr, tk, os⟩ 8 := ⟨D, S.F.keep, (S.N _ (.head _)).2.2, hA, hdep⟩
  have nd := S.nd
  rw [List.map_cons, List.map_cons, List.nodup_cons, List.nodup_cons] at nd
  refine callS (ratio_spec X hgs ⟨hm, ⟨od, S.get (j := 0) rfl, I⟩, fun b o e => ⟨(hR _ _ e).1, (hR _ _ e).2.1⟩, H⟩ hmin hu hz (S.get (j := 1) rfl) hct (S.N _ (.tail _ (.head _))).2.2 (fun z => nd.1 (List.mem_cons.mpr (.inl z))) fun b o e => (hR _ _ e).2.2) fun v h2 gs2 t2 M2 hv => ?_
  obtain ⟨tot, t, vs2, o2, op2, new, rfl, hGM, ho2, I2, hop2, hct2, F2, H2⟩ := hv
  refine k h2 gs2 t2 o2 op2 new t tot (M2.gens hgs) hct2 hGM (?_ : St g L h2 nm ls (((d, o2) :: (220, op2) :: mu) ++ new)) ⟨vs2, I2, H2⟩
  refine St.grow (s := ⟨h, gs, dr, tk, os⟩) S (S.call (s := ⟨h, gs, dr, tk, os⟩) (s' := ⟨h2, gs2, dr, t2, os⟩) (mu' := (d, o2) :: (220, op2) :: mu) M2 (fun a ha => ?_) rfl fun p hp => ?_) rfl (fun p hp => ⟨F2.here p hp, F2.not p hp⟩) F2.nd
  · rcases List.mem_cons.mp ha with rfl | ha
    · exact .head _
    · rw [List.mem_singleton.mp ha]; exact .tail _ (.head _)
  · rcases List.mem_cons.mp hp with rfl | hp
    · exact .inr ho2
    · rcases List.mem_cons.mp hp with rfl | hp
      · exact .inr hop2
      · refine .inl ⟨.tail _ (.tail _ hp), fun mm => ?_⟩
        have h3 := kn_off S p.1 p.2 (.inr hp)
        rcases List.mem_cons.mp mm with e | mm
        · exact h3.2.1 e
        · exact h3.2.2 (List.mem_singleton.mp mm)
end
end Mine
end
section
set_option Elab.async false
set_option maxRecDepth 100000
set_option linter.unusedVariables false
namespace Mine
open PySem PySem.W PySem.Calls PyProof.Rows
section
variable {prog : Program} {w : World} {A : Around} {E : Value → Shared → Prop} {h g : Heap} {gs : Array GenState} {dr : Drawn} {tk : Nat} {os : OsState} {env : Env} {a b : Nat} {t u : Tok} {Q : Value → Shared → Prop}
theorem addN (q : ∀ t tk, Q (.int ((a + b : Nat) : Int) t) ⟨h, gs, dr, tk, os⟩) : wpAny (model prog w) A (binaryOp .Add (.int a t) (.int b u)) Q E ⟨h, gs, dr, tk, os⟩ := add_ fun t tk => by have := q t tk; rwa [Int.natCast_add] at this
theorem subN (hab : b ≤ a) (q : ∀ t tk, Q (.int ((a - b : Nat) : Int) t) ⟨h, gs, dr, tk, os⟩) : wpAny (model prog w) A (binaryOp .Sub (.int a t) (.int b u)) Q E ⟨h, gs, dr, tk, os⟩ := sub_ fun t tk => by have := q t tk; rwa [Int.natCast_sub hab] at this
theorem subN1 (hab : 1 ≤ a) (q : ∀ t tk, Q (.int ((a - 1 : Nat) : Int) t) ⟨h, gs, dr, tk, os⟩) : wpAny (model prog w) A (binaryOp .Sub (.int a t) (.int 1 u)) Q E ⟨h, gs, dr, tk, os⟩ := sub_ fun t tk => by have := q t tk; rwa [Int.natCast_sub hab] at this
theorem mulOk (ha : a ≤ 1000000) : IntMulOk (a : Int) (b : Int) := IntMulOk.of_left (by
  unfold Builtin.Int.intBits
  have h1 : (a : Int).natAbs = a := Int.natAbs_natCast a
  simp only [h1]
  split
  · exact Nat.zero_le _
  · have := (Nat.log2_lt (n := a) (k := 63) (by intro z; simp_all)).mpr (by lia)
    (clear h1 ha; lia))
theorem mulN (ha : a ≤ 1000000) (q : ∀ t tk, Q (.int ((a * b : Nat) : Int) t) ⟨h, gs, dr, tk, os⟩) : wpAny (model prog w) A (binaryOp .Mult (.int a t) (.int b u)) Q E ⟨h, gs, dr, tk, os⟩ := mul_ (mulOk ha) fun t tk => by have := q t tk; rwa [Int.natCast_mul] at this
theorem modN (hb : 0 < b) (q : ∀ t tk, Q (.int ((a % b : Nat) : Int) t) ⟨h, gs, dr, tk, os⟩) : wpAny (model prog w) A (binaryOp .Mod (.int a t) (.int b u)) Q E ⟨h, gs, dr, tk, os⟩ := mod_ (by lia) fun t tk => by
  have := q t tk
  rw [Int.fmod_eq_emod_of_nonneg _ (by lia)]
  rwa [Int.natCast_emod] at this
theorem ltN (q : Q (.bool (decide (a < b))) ⟨h, gs, dr, tk, os⟩) : wpAny (model prog w) A (compareOp .Lt (.int a t) (.int b u)) Q E ⟨h, gs, dr, tk, os⟩ := PySem.P.lt_int (by
  have e : decide ((a : Int) < b) = decide (a < b) := by simp
  rw [e]; exact q)
theorem fdivN (hb : 0 < b) (hb' : b < 1073741824) (q : ∀ t tk, Q (.int ((a / b : Nat) : Int) t) ⟨h, gs, dr, tk, os⟩) : wpAny (model prog w) A (binaryOp .FloorDiv (.int a t) (.int b u)) Q E ⟨h, gs, dr, tk, os⟩ := by
  refine PyProof.Rows.floordiv_int (s := ⟨h, gs, dr, tk, os⟩) (by lia) ?_ (.inl (PyProof.noPylong_small (by rw [Int.natAbs_natCast]; exact hb')))
  have := q tk (tk + 1)
  rw [Int.fdiv_eq_ediv_of_nonneg _ (by lia)]
  rwa [Int.natCast_ediv] at this
end
end Mine
end
section
set_option Elab.async false
set_option maxRecDepth 100000
set_option linter.unusedVariables false
namespace Mine
open PySem PySem.W PySem.Calls PyProof.Rows
section
variable {prog : Program} {w : World} {A : Around} {E : Value → Shared → Prop} {h g : Heap} {gs : Array GenState} {dr : Drawn} {tk : Nat} {os : OsState} {env : Env} {L l : Addr} {nm : List Str} {ls : List (Option Value)} {mu : List (Addr × Obj)} {items : List Value} {n : Nat} {Q : Value → Shared → Prop}
theorem getSl {vl vu vk : Value} {lo hi st : Option Int} (S : St g L h nm ls mu) (hl : h.IsList l items.toArray) (pl : IsPart vl lo) (pu : IsPart vu hi) (pk : IsPart vk st) (h0 : st ≠ some 0) (hz : items.length ≤ 1000)
    (k : ∀ h' D, St g L h' nm ls ((D, lob (slicePick items.toArray lo hi st).toList 0) :: mu) → Q (.ref D) ⟨h', gs, dr, tk, os⟩) :
    Shared.TypeIs ⟨h.push { cls := .type "slice", data := .fields #[vl, vu, vk] }, gs, dr, tk, os⟩ (.ref l) "list" ∧ wpAny (model prog w) A (getItem (.ref l) (.ref h.objs.size)) Q E ⟨h.push { cls := .type "slice", data := .fields #[vl, vu, vk] }, gs, dr, tk, os⟩ := by
  have hl2 := hl.push (o := { cls := .type "slice", data := .fields #[vl, vu, vk] })
  refine ⟨hl2.typeIs, wpAny_getItem_list_slice (s := ⟨_, gs, dr, tk, os⟩) hl2 (Heap.IsSliceOf.new ..) pl pu pk h0 ?_ (by simp; exact Nat.le_trans hz (by decide))⟩
  have S1 := (S.push { cls := .type "slice", data := .fields #[vl, vu, vk] }).drop (List.sublist_cons_self _ _)
  have S2 := S1.push (lob (slicePick items.toArray lo hi st).toList 0)
  have := k _ _ S2
  simpa using this
/-- value[lower:upper:step] -/
theorem sub3 {value st : Expr} {lower upper : Option Expr} {p pos : Pos} {s : Shared}
    (k : wpAny (model prog w) A (eval value env) (fun o s₁ => wpAny (model prog w) A (evalPart lower env) (fun a s₂ => wpAny (model prog w) A (evalPart upper env) (fun b s₃ => wpAny (model prog w) A (eval st env) (fun c s₄ =>
      Shared.TypeIs ⟨s₄.heap.push { cls := .type "slice", data := .fields #[a, b, c] }, s₄.gens, s₄.drawn, s₄.toks, s₄.os⟩ o "list" ∧ wpAny (model prog w) A (getItem o (.ref s₄.heap.objs.size)) Q E ⟨s₄.heap.push { cls := .type "slice", data := .fields #[a, b, c] }, s₄.gens, s₄.drawn, s₄.toks, s₄.os⟩) E s₃) E s₂) E s₁) E s)
    (ht : ∀ o r, letTemporaryGo value o r = pure () := by intro _ _; rfl) : wpAny (model prog w) A (eval (.Subscript value (.Slice lower upper (some st) p) pos) env) Q E s :=
  wpAny_Subscript_Slice_step slot_list_getitem.lookup (wpAny_mono k (fun o s₁ h₁ => wpAny_Slice (wpAny_mono h₁ (fun a s₂ h₂ => wpAny_mono h₂ (fun b s₃ h₃ => h₃) fun _ _ x => x) fun _ _ x => x)) fun _ _ x => x) ht
theorem pt0 {Q : Value → Shared → Prop} {s : Shared} (k : Q .none s) : wpAny (model prog w) A (evalPart none env) Q E s := wpAny_pure k
theorem pt1 {e : Expr} {Q : Value → Shared → Prop} {s : Shared} (k : wpAny (model prog w) A (eval e env) Q E s) : wpAny (model prog w) A (evalPart (some e) env) Q E s := k
/-- l + l' -/
theorem addL {l2 : Addr} {items2 : List Value} {n2 : Nat} (S : St g L h nm ls mu) (hl : h.get? l = some (lob items n)) (hl2 : h.get? l2 = some (lob items2 n2)) (hz : items.length ≤ 1000) (hz2 : items2.length ≤ 1000)
    (k : ∀ h', St g L h' nm ls ((h.objs.size, lob (items ++ items2) 0) :: mu) → Q (.ref h.objs.size) ⟨h', gs, dr, tk, os⟩) : wpAny (model prog w) A (binaryOp .Add (.ref l) (.ref l2)) Q E ⟨h, gs, dr, tk, os⟩ :=
  add_arrays (s := ⟨h, gs, dr, tk, os⟩) S.F S.N (lob_list hl) (lob_list hl2) (fun h' F' N' => k h' ⟨F', by simpa using N', List.nodup_cons.mpr ⟨fun m => by
    obtain ⟨p, hp, e⟩ := List.mem_map.mp m
    exact absurd (Heap.lt_size (S.N p hp).1) (by rw [e]; exact Nat.lt_irrefl _), S.nd⟩⟩) (by simp; have : (2000 : Nat) ≤ sizeLine := by decide
                                                                                             lia)
/-- the sum of a list of ints, of any size -/
theorem sumL {xs : List Int} (hA : A.handled = none) (S : St g L h nm ls mu) (hl : h.IsList l items.toArray) (hi : IntsAre items xs) (k : ∀ h' tk t, St g L h' nm ls mu → Q (.int xs.sum t) ⟨h', gs, dr, tk, os⟩) : wpAny (model prog w) A (call (.builtin "sum") [.ref l]) Q E ⟨h, gs, dr, tk, os⟩ := by
  obtain ⟨ys, e⟩ := hi.allInts.items
  rw [e] at hl
  refine sum_intListG (s := ⟨h, gs, dr, tk, os⟩) hA hl fun h' tk' t' hk => ?_
  have := k h' tk' t' (S.re (S.F.keeps hk) (S.N.grown hk))
  have e1 : xs.sum = preSum (numAt ys) ys.size := by
    rw [preSum_eq, List.take_of_length_le (by simp), ← nums_intItems, ← e]
    rw [show items.toArray.toList = items from rfl, hi.numsOf]
  rw [← e1]; exact this
end
end Mine
end
section
set_option Elab.async false
set_option maxRecDepth 100000
set_option linter.unusedVariables false
namespace Mine
open PySem PySem.W PySem.Calls PyProof.Rows
section
variable {w : World} {A : Around} {E : Value → Shared → Prop} {mg mb : Str → Option Value} {h g : Heap} {gs : Array GenState} {dr : Drawn} {tk : Nat} {os : OsState} {L m d l : Addr} {nm : List Str} {ls : List (Option Value)} {mu : List (Addr × Obj)} {od op : Obj} {oa ob : Option (Addr × List Int)} {xs ys : List Int} {K : Frag} {f : Addr} {fd : FuncData} {qual : Str} {sc : Scope} {body : List Stmt} {cdv : Value} {items : List Value} {n : Nat} {prog : Program}
theorem cFnC {e : Expr} {rest : List Expr} {pos : Pos} {env : Env} {s : Shared} {Q : Value → Shared → Prop} (H : FnC K f fd qual sc body cdv)
    (k : wpAny (model prog w) A (spliced (backTo pos (starEach (e :: rest) env))) (fun vs s₁ => K.In s₁.heap ∧ wpAny (model prog w) A (call (.ref f) vs) Q E s₁) E s)
    (he : starEach (e :: rest) env = (false, eval e env) :: starEach rest env := by rfl) :
    wpAny (model prog w) A (callWith pos (.ref f) [] (backTo pos (starEach (e :: rest) env)) []) Q E s := by
  obtain ⟨o, hl, ho⟩ := H.at_
  exact cF ho (wpAny_mono k (fun vs s₁ h₁ => ⟨h₁.1 _ _ hl, h₁.2⟩) fun _ _ x => x) he
theorem methM {R : Rel} {po : Addr × Obj} {name : Str} {f : Addr} {pl' : Sem Bool} {Q : Value × List Value → Shared → Prop} (S : St g L h nm ls ((d, od) :: po :: mu)) (D : Gd (Mine.K w.params) mg mb g) (hRk : ∀ b o, R b o → Kn g mu b o) (hm : R m (inst CM d)) (M : MX w R od oa ob) (me : Meth (Mine.K w.params) CM an name f)
    (q : Q (.ref f, [.ref m]) ⟨h, gs, dr, tk, os⟩) : wpAny (model Mine.prog w) A (getMethod (.ref m) name pl') Q E ⟨h, gs, dr, tk, os⟩ := by
  obtain ⟨vs, I, _⟩ := M
  exact methV (D.k.keeps S.F.keep) (pl _) me ((hRk _ _ hm).elim (fun e => S.F.keep _ _ e) fun e => (S.N _ (.tail _ (.tail _ e))).1) (S.get (j := 0) rfl) I q
theorem rng1 {u : Tok} {n : Nat} {Q : Value → Shared → Prop} (S : St g L h nm ls mu) (k : ∀ h' r t v tk, St g L h' nm ls mu → IsRange h' r 0 n 1 t u v → Q (.ref r) ⟨h', gs, dr, tk, os⟩) : wpAny (model prog w) A (call (.type "range") [.int n u]) Q E ⟨h, gs, dr, tk, os⟩ :=
  call_range_1 (s := ⟨h, gs, dr, tk, os⟩) (k _ _ _ _ _ ((S.push _).drop (List.sublist_cons_self _ _)) (IsRange.new h 0 n 1 tk u (tk + 1)))
theorem itemN {value slice : Expr} {v : Value} {k : Nat} {t : Tok} {Q : Value → Shared → Prop} (hl : h.get? l = some (lob items n)) (hv : items[k]? = some v) (hz : items.length ≤ 10000) (q : Q v ⟨h, gs, dr, tk, os⟩)
    (hs : subscripted slice false (.ref l) (.int k t) = operate [.ref l, .int k t] (getItem (.ref l) (.int k t)) := by with_unfolding_all rfl) : wpAny (model prog w) A (subscriptTail value slice (.ref l) (.int k t)) Q E ⟨h, gs, dr, tk, os⟩ := by
  have := lt_of_get hv
  exact itemL (lob_list hl) (by lia) (by lia) (by simpa using hv) q hs
theorem lenN {Q : Value → Shared → Prop} (hl : h.get? l = some (lob items n)) (hf : items.length ≤ 1000) (k : ∀ t tk, Q (.int (items.length : Nat) t) ⟨h, gs, dr, tk, os⟩) : wpAny (model prog w) A (call (.builtin "len") [.ref l]) Q E ⟨h, gs, dr, tk, os⟩ := len_ (lob_list hl) hf k
theorem intAt {vs : List Value} {xs : List Int} {k : Nat} (h : IntsAre vs xs) (hk : k < xs.length) : ∃ t, vs[k]? = some (.int (xs.getD k 0) t) := by
  have hv : vs[k]? = some (vs[k]'(by rw [h.length]; exact hk)) := List.getElem?_eq_getElem _
  obtain ⟨n, t, e, e2⟩ := Mine.IntsAre.get h hv
  refine ⟨t, ?_⟩
  rw [hv, e, List.getD_eq_getElem?_getD, e2]; rfl
theorem ints_snoc {vs : List Value} {xs : List Int} {x : Int} {t : Tok} (h : IntsAre vs xs) : IntsAre (vs ++ [.int x t]) (xs ++ [x]) := h.append (.cons _ _ .nil)
/-- a call that changes the matcher's dict and ratio's table, and leaves new objects -/
theorem St.call2 {T : Addr} {s s' : Shared} {od' op' : Obj} {new : List (Addr × Obj)} (S : St g L s.heap nm ls ((d, od) :: (T, op) :: mu)) (M : Mod [d, T] s s') (ho : s'.heap.get? d = some od') (hop : s'.heap.get? T = some op') (F : Fresh s s' new) : St g L s'.heap nm ls ((d, od') :: (T, op') :: (mu ++ new)) := by
  refine (?_ : St g L s'.heap nm ls (((d, od') :: (T, op') :: mu) ++ new))
  refine St.grow S (S.call (mu' := (d, od') :: (T, op') :: mu) M (fun a ha => ?_) rfl fun p hp => ?_) rfl (fun p hp => ⟨F.here p hp, F.not p hp⟩) F.nd
  · rcases List.mem_cons.mp ha with rfl | ha
    · exact .head _
    · rw [List.mem_singleton.mp ha]; exact .tail _ (.head _)
  · rcases List.mem_cons.mp hp with rfl | hp
    · exact .inr ho
    · rcases List.mem_cons.mp hp with rfl | hp
      · exact .inr hop
      · refine .inl ⟨.tail _ (.tail _ hp), fun mm => ?_⟩
        have h3 := kn_off S p.1 p.2 (.inr hp)
        rcases List.mem_cons.mp mm with e | mm
        · exact h3.2.1 e
        · exact h3.2.2 (List.mem_singleton.mp mm)
end
end Mine
end
section
set_option Elab.async false
set_option maxRecDepth 100000
set_option linter.unusedVariables false
namespace Mine
open PySem PySem.W PySem.Calls PyProof.Rows
noncomputable section
/-! the parts of a text -/
noncomputable def nox : Expr := .Constant .none 0 ⟨0, 0, 0, 0⟩
noncomputable def sv : Stmt → Expr
  | .Return (some v) _ => v
  | .Assign _ v _ => v
  | .AugAssign _ _ v _ => v
  | .Expr v _ => v
  | .If t _ _ _ => t
  | .For _ it _ _ _ => it
  | _ => nox
noncomputable def sb : Stmt → List Stmt
  | .For _ _ b _ _ => b
  | .If _ b _ _ => b
  | .While _ b _ _ => b
  | _ => []
noncomputable def ebr : Expr → Expr
  | .BinOp _ _ r _ => r
  | _ => nox
noncomputable def eval0 : Expr → Expr
  | .Subscript v _ _ => v
  | _ => nox
noncomputable def compSc : Expr → Scope
  | .ListComp _ _ s _ => s
  | .DictComp _ _ _ s _ => s
  | _ => ⟨.function, [], false, false, []⟩
/-! _law_counted -/
noncomputable def sc_counted : Scope := fnScope (stAt 7)
noncomputable def bd_counted : List Stmt := fnBody (stAt 7)
noncomputable def nm_counted : List Str := [(Str.ofString "first"), (Str.ofString "second"), (Str.ofString "count")]
theorem nd_counted : nm_counted.Nodup := by decide +kernel
theorem kn_counted : sc_counted.kind = .function := by kernel_rfl
noncomputable abbrev e_counted (L : Addr) : Env := envOfC (Str.ofString "_law_counted") sc_counted L 253 (.ref 252)
theorem fn_counted (P : Params) : FnC (K P) 253 (fdOf (o253 P)) (Str.ofString "_law_counted") sc_counted bd_counted (.ref 252) := ⟨⟨o253 P, by kernel_rfl, by kernel_rfl⟩, by kernel_rfl, by kernel_rfl, by kernel_rfl, by kernel_rfl, fun L => by kernel_rfl, by kernel_rfl, by kernel_rfl, by kernel_rfl, by kernel_rfl, kn_counted⟩
theorem bi_counted (P : Params) (s : Shared) (x0 x1 : Value) : BindsTo s (fdOf (o253 P)) ⟨[x0, x1], []⟩ [((Str.ofString "first"), x0), ((Str.ofString "second"), x1)] := BindsTo.of_eq (by kernel_rfl)
theorem led_counted (n : Nat) : led0 n sc_counted.names = [] := by kernel_rfl
theorem ve_counted_first (L : Addr) : VE (e_counted L) nm_counted (Str.ofString "first") 0 := ⟨kn_counted, by kernel_rfl, nd_counted, rfl, by decide +kernel⟩
theorem ve_counted_second (L : Addr) : VE (e_counted L) nm_counted (Str.ofString "second") 1 := ⟨kn_counted, by kernel_rfl, nd_counted, rfl, by decide +kernel⟩
theorem ve_counted_count (L : Addr) : VE (e_counted L) nm_counted (Str.ofString "count") 2 := ⟨kn_counted, by kernel_rfl, nd_counted, rfl, by decide +kernel⟩
/-! _law_ring -/
noncomputable def sc_ring : Scope := fnScope (stAt 8)
noncomputable def bd_ring : List Stmt := fnBody (stAt 8)
noncomputable def nm_ring : List Str := [(Str.ofString "number"), (Str.ofString "size"), (Str.ofString "step"), (Str.ofString "row")]
theorem nd_ring : nm_ring.Nodup := by decide +kernel
theorem kn_ring : sc_ring.kind = .function := by kernel_rfl
noncomputable abbrev e_ring (L : Addr) : Env := envOfC (Str.ofString "_law_ring") sc_ring L 260 (.ref 259)
theorem fn_ring (P : Params) : FnC (K P) 260 (fdOf (o260 P)) (Str.ofString "_law_ring") sc_ring bd_ring (.ref 259) := ⟨⟨o260 P, by kernel_rfl, by kernel_rfl⟩, by kernel_rfl, by kernel_rfl, by kernel_rfl, by kernel_rfl, fun L => by kernel_rfl, by kernel_rfl, by kernel_rfl, by kernel_rfl, by kernel_rfl, kn_ring⟩
theorem bi_ring (P : Params) (s : Shared) (x0 : Value) : BindsTo s (fdOf (o260 P)) ⟨[x0], []⟩ [((Str.ofString "number"), x0)] := BindsTo.of_eq (by kernel_rfl)
theorem led_ring (n : Nat) : led0 n sc_ring.names = [] := by kernel_rfl
theorem ve_ring_number (L : Addr) : VE (e_ring L) nm_ring (Str.ofString "number") 0 := ⟨kn_ring, by kernel_rfl, nd_ring, rfl, by decide +kernel⟩
theorem ve_ring_size (L : Addr) : VE (e_ring L) nm_ring (Str.ofString "size") 1 := ⟨kn_ring, by kernel_rfl, nd_ring, rfl, by decide +kernel⟩
theorem ve_ring_step (L : Addr) : VE (e_ring L) nm_ring (Str.ofString "step") 2 := ⟨kn_ring, by kernel_rfl, nd_ring, rfl, by decide +kernel⟩
theorem ve_ring_row (L : Addr) : VE (e_ring L) nm_ring (Str.ofString "row") 3 := ⟨kn_ring, by kernel_rfl, nd_ring, rfl, by decide +kernel⟩
/-! _law_part -/
noncomputable def sc_part : Scope := fnScope (stAt 9)
noncomputable def bd_part : List Stmt := fnBody (stAt 9)
noncomputable def nm_part : List Str := [(Str.ofString "foreign"), (Str.ofString "things")]
theorem nd_part : nm_part.Nodup := by decide +kernel
theorem kn_part : sc_part.kind = .function := by kernel_rfl
noncomputable abbrev e_part (L : Addr) : Env := envOfC (Str.ofString "_law_part") sc_part L 265 (.ref 264)
theorem fn_part (P : Params) : FnC (K P) 265 (fdOf (o265 P)) (Str.ofString "_law_part") sc_part bd_part (.ref 264) := ⟨⟨o265 P, by kernel_rfl, by kernel_rfl⟩, by kernel_rfl, by kernel_rfl, by kernel_rfl, by kernel_rfl, fun L => by kernel_rfl, by kernel_rfl, by kernel_rfl, by kernel_rfl, by kernel_rfl, kn_part⟩
theorem bi_part (P : Params) (s : Shared) (x0 x1 x2 : Value) : BindsTo s (fdOf (o265 P)) ⟨[x0, x1, x2], []⟩ [((Str.ofString "k"), x0), ((Str.ofString "foreign"), x1), ((Str.ofString "things"), x2)] := BindsTo.of_eq (by kernel_rfl)
theorem led_part (n : Nat) : led0 n sc_part.names = [(n, cob none)] := by kernel_rfl
theorem ve_part_foreign (L : Addr) : VE (e_part L) nm_part (Str.ofString "foreign") 0 := ⟨kn_part, by kernel_rfl, nd_part, rfl, by decide +kernel⟩
theorem ve_part_things (L : Addr) : VE (e_part L) nm_part (Str.ofString "things") 1 := ⟨kn_part, by kernel_rfl, nd_part, rfl, by decide +kernel⟩
theorem ce_part_k (L : Addr) : CE (e_part L) (Str.ofString "k") (L + 1) := ⟨kn_part, by kernel_rfl, by kernel_rfl, by decide +kernel⟩
noncomputable def sc_part_c1 : Scope := compSc (ebr (sv (bd_part.getD 0 (.Pass ⟨0, 0, 0, 0⟩))))
noncomputable def nm_part_c1 : List Str := [(Str.ofString "thing"), (Str.ofString "turn")]
theorem nd_part_c1 : nm_part_c1.Nodup := by decide +kernel
theorem kn_part_c1 : sc_part_c1.kind = .function := by kernel_rfl
noncomputable abbrev cl_part_c1 (L : Addr) : List (Str × Addr) := [((Str.ofString "k"), L + 1)]
theorem sf_part_c1 (L : Addr) : ScF sc_part_c1 (e_part L) (cl_part_c1 L) := ⟨by kernel_rfl, kn_part_c1, by decide +kernel⟩
noncomputable abbrev e_part_c1 (L C : Addr) : Env := cenvOf sc_part_c1 (cl_part_c1 L) C (e_part L)
theorem ve_part_c1_thing (L C : Addr) : VE (e_part_c1 L C) nm_part_c1 (Str.ofString "thing") 0 := ⟨by kernel_rfl, by kernel_rfl, nd_part_c1, rfl, by decide +kernel⟩
theorem ve_part_c1_turn (L C : Addr) : VE (e_part_c1 L C) nm_part_c1 (Str.ofString "turn") 1 := ⟨by kernel_rfl, by kernel_rfl, nd_part_c1, rfl, by decide +kernel⟩
theorem ce_part_c1_k (L C : Addr) : CE (e_part_c1 L C) (Str.ofString "k") (L + 1) := ⟨by kernel_rfl, by kernel_rfl, by kernel_rfl, by decide +kernel⟩
theorem ge_part_c1_range (L C : Addr) : GE (e_part_c1 L C) (Str.ofString "range") := ⟨by kernel_rfl, by kernel_rfl, rfl, rfl, by decide +kernel⟩
/-! _law_told -/
noncomputable def sc_told : Scope := fnScope (stAt 10)
noncomputable def bd_told : List Stmt := fnBody (stAt 10)
noncomputable def nm_told : List Str := [(Str.ofString "matcher")]
theorem nd_told : nm_told.Nodup := by decide +kernel
theorem kn_told : sc_told.kind = .function := by kernel_rfl
noncomputable abbrev e_told (L : Addr) : Env := envOfC (Str.ofString "_law_told") sc_told L 272 (.ref 271)
theorem fn_told (P : Params) : FnC (K P) 272 (fdOf (o272 P)) (Str.ofString "_law_told") sc_told bd_told (.ref 271) := ⟨⟨o272 P, by kernel_rfl, by kernel_rfl⟩, by kernel_rfl, by kernel_rfl, by kernel_rfl, by kernel_rfl, fun L => by kernel_rfl, by kernel_rfl, by kernel_rfl, by kernel_rfl, by kernel_rfl, kn_told⟩
theorem bi_told (P : Params) (s : Shared) (x0 : Value) : BindsTo s (fdOf (o272 P)) ⟨[x0], []⟩ [((Str.ofString "matcher"), x0)] := BindsTo.of_eq (by kernel_rfl)
theorem led_told (n : Nat) : led0 n sc_told.names = [] := by kernel_rfl
theorem ve_told_matcher (L : Addr) : VE (e_told L) nm_told (Str.ofString "matcher") 0 := ⟨kn_told, by kernel_rfl, nd_told, rfl, by decide +kernel⟩
/-! law -/
noncomputable def sc_law : Scope := fnScope (stAt 11)
noncomputable def bd_law : List Stmt := fnBody (stAt 11)
noncomputable def nm_law : List Str := [(Str.ofString "script"), (Str.ofString "order"), (Str.ofString "turned"), (Str.ofString "steps"), (Str.ofString "counts"), (Str.ofString "k"), (Str.ofString "row"), (Str.ofString "s"), (Str.ofString "total"), (Str.ofString "bounds"), (Str.ofString "turn"), (Str.ofString "ahead"), (Str.ofString "behind"), (Str.ofString "rings"), (Str.ofString "one"), (Str.ofString "other")]
theorem nd_law : nm_law.Nodup := by decide +kernel
theorem kn_law : sc_law.kind = .function := by kernel_rfl
noncomputable abbrev e_law (L : Addr) : Env := envOfC (Str.ofString "law") sc_law L 277 (.ref 276)
theorem fn_law (P : Params) : FnC (K P) 277 (fdOf (o277 P)) (Str.ofString "law") sc_law bd_law (.ref 276) := ⟨⟨o277 P, by kernel_rfl, by kernel_rfl⟩, by kernel_rfl, by kernel_rfl, by kernel_rfl, by kernel_rfl, fun L => by kernel_rfl, by kernel_rfl, by kernel_rfl, by kernel_rfl, by kernel_rfl, kn_law⟩
theorem bi_law (P : Params) (s : Shared) (x0 : Value) : BindsTo s (fdOf (o277 P)) ⟨[x0], []⟩ [((Str.ofString "script"), x0)] := BindsTo.of_eq (by kernel_rfl)
theorem led_law (n : Nat) : led0 n sc_law.names = [(n, cob none), (n + 1, cob none), (n + 1 + 1, cob none)] := by kernel_rfl
theorem ve_law_script (L : Addr) : VE (e_law L) nm_law (Str.ofString "script") 0 := ⟨kn_law, by kernel_rfl, nd_law, rfl, by decide +kernel⟩
theorem ve_law_order (L : Addr) : VE (e_law L) nm_law (Str.ofString "order") 1 := ⟨kn_law, by kernel_rfl, nd_law, rfl, by decide +kernel⟩
theorem ve_law_turned (L : Addr) : VE (e_law L) nm_law (Str.ofString "turned") 2 := ⟨kn_law, by kernel_rfl, nd_law, rfl, by decide +kernel⟩
theorem ve_law_steps (L : Addr) : VE (e_law L) nm_law (Str.ofString "steps") 3 := ⟨kn_law, by kernel_rfl, nd_law, rfl, by decide +kernel⟩
theorem ve_law_counts (L : Addr) : VE (e_law L) nm_law (Str.ofString "counts") 4 := ⟨kn_law, by kernel_rfl, nd_law, rfl, by decide +kernel⟩
theorem ve_law_k (L : Addr) : VE (e_law L) nm_law (Str.ofString "k") 5 := ⟨kn_law, by kernel_rfl, nd_law, rfl, by decide +kernel⟩
theorem ve_law_row (L : Addr) : VE (e_law L) nm_law (Str.ofString "row") 6 := ⟨kn_law, by kernel_rfl, nd_law, rfl, by decide +kernel⟩
theorem ve_law_s (L : Addr) : VE (e_law L) nm_law (Str.ofString "s") 7 := ⟨kn_law, by kernel_rfl, nd_law, rfl, by decide +kernel⟩
theorem ve_law_total (L : Addr) : VE (e_law L) nm_law (Str.ofString "total") 8 := ⟨kn_law, by kernel_rfl, nd_law, rfl, by decide +kernel⟩
theorem ve_law_bounds (L : Addr) : VE (e_law L) nm_law (Str.ofString "bounds") 9 := ⟨kn_law, by kernel_rfl, nd_law, rfl, by decide +kernel⟩
theorem ve_law_turn (L : Addr) : VE (e_law L) nm_law (Str.ofString "turn") 10 := ⟨kn_law, by kernel_rfl, nd_law, rfl, by decide +kernel⟩
theorem ve_law_ahead (L : Addr) : VE (e_law L) nm_law (Str.ofString "ahead") 11 := ⟨kn_law, by kernel_rfl, nd_law, rfl, by decide +kernel⟩
theorem ve_law_behind (L : Addr) : VE (e_law L) nm_law (Str.ofString "behind") 12 := ⟨kn_law, by kernel_rfl, nd_law, rfl, by decide +kernel⟩
theorem ve_law_rings (L : Addr) : VE (e_law L) nm_law (Str.ofString "rings") 13 := ⟨kn_law, by kernel_rfl, nd_law, rfl, by decide +kernel⟩
theorem ve_law_one (L : Addr) : VE (e_law L) nm_law (Str.ofString "one") 14 := ⟨kn_law, by kernel_rfl, nd_law, rfl, by decide +kernel⟩
theorem ve_law_other (L : Addr) : VE (e_law L) nm_law (Str.ofString "other") 15 := ⟨kn_law, by kernel_rfl, nd_law, rfl, by decide +kernel⟩
theorem ce_law_size (L : Addr) : CE (e_law L) (Str.ofString "size") (L + 1) := ⟨kn_law, by kernel_rfl, by kernel_rfl, by decide +kernel⟩
theorem ce_law_step (L : Addr) : CE (e_law L) (Str.ofString "step") (L + 1 + 1) := ⟨kn_law, by kernel_rfl, by kernel_rfl, by decide +kernel⟩
theorem ce_law_n (L : Addr) : CE (e_law L) (Str.ofString "n") (L + 1 + 1 + 1) := ⟨kn_law, by kernel_rfl, by kernel_rfl, by decide +kernel⟩
theorem ge_law_range (L : Addr) : GE (e_law L) (Str.ofString "range") := ⟨kn_law, by kernel_rfl, rfl, rfl, by decide +kernel⟩
theorem ge_law__law_ring (L : Addr) : GE (e_law L) (Str.ofString "_law_ring") := ⟨kn_law, by kernel_rfl, rfl, rfl, by decide +kernel⟩
theorem ge_law_sum (L : Addr) : GE (e_law L) (Str.ofString "sum") := ⟨kn_law, by kernel_rfl, rfl, rfl, by decide +kernel⟩
theorem ge_law_len (L : Addr) : GE (e_law L) (Str.ofString "len") := ⟨kn_law, by kernel_rfl, rfl, rfl, by decide +kernel⟩
theorem ge_law__law_counted (L : Addr) : GE (e_law L) (Str.ofString "_law_counted") := ⟨kn_law, by kernel_rfl, rfl, rfl, by decide +kernel⟩
theorem ge_law__law_part (L : Addr) : GE (e_law L) (Str.ofString "_law_part") := ⟨kn_law, by kernel_rfl, rfl, rfl, by decide +kernel⟩
theorem ge_law_SequenceMatcher (L : Addr) : GE (e_law L) (Str.ofString "SequenceMatcher") := ⟨kn_law, by kernel_rfl, rfl, rfl, by decide +kernel⟩
theorem ge_law__law_told (L : Addr) : GE (e_law L) (Str.ofString "_law_told") := ⟨kn_law, by kernel_rfl, rfl, rfl, by decide +kernel⟩
noncomputable def sc_law_c1 : Scope := compSc (eval0 (sv ((sb (bd_law.getD 2 (.Pass ⟨0, 0, 0, 0⟩))).getD 2 (.Pass ⟨0, 0, 0, 0⟩))))
noncomputable def nm_law_c1 : List Str := [(Str.ofString "place")]
theorem nd_law_c1 : nm_law_c1.Nodup := by decide +kernel
theorem kn_law_c1 : sc_law_c1.kind = .function := by kernel_rfl
noncomputable abbrev cl_law_c1 (L : Addr) : List (Str × Addr) := [((Str.ofString "step"), L + 1 + 1), ((Str.ofString "size"), L + 1), ((Str.ofString "n"), L + 1 + 1 + 1)]
theorem sf_law_c1 (L : Addr) : ScF sc_law_c1 (e_law L) (cl_law_c1 L) := ⟨by kernel_rfl, kn_law_c1, by decide +kernel⟩
noncomputable abbrev e_law_c1 (L C : Addr) : Env := cenvOf sc_law_c1 (cl_law_c1 L) C (e_law L)
theorem ve_law_c1_place (L C : Addr) : VE (e_law_c1 L C) nm_law_c1 (Str.ofString "place") 0 := ⟨by kernel_rfl, by kernel_rfl, nd_law_c1, rfl, by decide +kernel⟩
theorem ce_law_c1_n (L C : Addr) : CE (e_law_c1 L C) (Str.ofString "n") (L + 1 + 1 + 1) := ⟨by kernel_rfl, by kernel_rfl, by kernel_rfl, by decide +kernel⟩
theorem ce_law_c1_size (L C : Addr) : CE (e_law_c1 L C) (Str.ofString "size") (L + 1) := ⟨by kernel_rfl, by kernel_rfl, by kernel_rfl, by decide +kernel⟩
theorem ce_law_c1_step (L C : Addr) : CE (e_law_c1 L C) (Str.ofString "step") (L + 1 + 1) := ⟨by kernel_rfl, by kernel_rfl, by kernel_rfl, by decide +kernel⟩
end
end Mine
end
section
set_option Elab.async false
set_option maxRecDepth 100000
set_option linter.unusedVariables false
namespace Mine
open PySem PySem.W PySem.Calls PyProof.Rows
/-- how often the second is the greater, in Euclid's count -/
noncomputable def euc : Nat → Nat → Nat → Nat
  | 0, _, _ => 0
  | f + 1, a, b => if a = b then 0 else if a < b then euc f a (b - a) + 1 else euc f (a - b) b
theorem euc_succ (f a b : Nat) : euc (f + 1) a b = if a = b then 0 else if a < b then euc f a (b - a) + 1 else euc f (a - b) b := rfl
theorem euc_fuel : ∀ (f f' a b : Nat), 0 < a → 0 < b → a + b ≤ f → a + b ≤ f' → euc f a b = euc f' a b
  | 0, _, _, _, ha, _, h, _ => by lia
  | f + 1, 0, _, _, ha, _, _, h => by lia
  | f + 1, f' + 1, a, b, ha, hb, h, h' => by
    unfold euc
    by_cases e : a = b
    · rw [if_pos e, if_pos e]
    · rw [if_neg e, if_neg e]
      by_cases l : a < b
      · rw [if_pos l, if_pos l, euc_fuel f f' a (b - a) ha (by lia) (by lia) (by lia)]
      · rw [if_neg l, if_neg l, euc_fuel f f' (a - b) b (by lia) hb (by lia) (by lia)]
section
variable {w : World} {A : Around} {E : Value → Shared → Prop} {s s' : Shared} {mg mb : Str → Option Value} {g h : Heap} {gs : Array GenState} {dr : Drawn} {tk : Nat} {os : OsState} {L : Addr} {nm : List Str} {ls : List (Option Value)} {mu : List (Addr × Obj)} {env : Env} {prog : Program}
theorem ldnE {x : Str} {i : Nat} {v : Value} {Q : Value → Shared → Prop} (S : St g L h nm ls mu) (V : VE env nm x i) (hv : ls[i]? = some (some v)) (k : Q v ⟨h, gs, dr, tk, os⟩) (hL : env.locals = L := by rfl) :
    wpAny (model prog w) A (loadName env x) Q E ⟨h, gs, dr, tk, os⟩ := by
  subst hL
  exact wpAny_loadName_local V.fn V.kind S.F.ns (look_get V.nd V.place hv) k
/-- name op= value, ints -/
theorem augE {x : Str} {i : Nat} {v : Value} {op : Operator} {value : Expr} {p pos : Pos} {Q : Flow → Shared → Prop} (S : St g L h nm ls mu) (V : VE env nm x i) (hv : ls[i]? = some (some v))
    (k : wpAny (model prog w) A (eval value env) (fun u s₂ => wpAny (model prog w) A (inplaceOp op v u) (fun r s₃ => wpAny (model prog w) A (storeName env x r) (fun _ => Q .next) E s₃) E s₂) E ⟨h, gs, dr, tk, os⟩) (hL : env.locals = L := by rfl) :
    wpAny (model prog w) A (exec (.AugAssign (.Name x p) op value pos) env) Q E ⟨h, gs, dr, tk, os⟩ :=
  wpAny_AugAssign_Name (ldnE S V hv k hL)
theorem neN {a b : Nat} {t u : Tok} {Q : Value → Shared → Prop} (q : Q (.bool (decide (a ≠ b))) ⟨h, gs, dr, tk, os⟩) : wpAny (model prog w) A (compareOp .NotEq (.int a t) (.int b u)) Q E ⟨h, gs, dr, tk, os⟩ := PySem.P.ne_int (by
  have e : ((a : Int) != (b : Int)) = decide (a ≠ b) := by
    by_cases h : a = b
    · subst h; simp
    · have h' : (a : Int) ≠ b := by lia
      simp [h, h']
  rw [e]; exact q)
theorem isubN {a b : Nat} {t u : Tok} {Q : Value → Shared → Prop} (hab : b ≤ a) (q : ∀ t tk, Q (.int ((a - b : Nat) : Int) t) ⟨h, gs, dr, tk, os⟩) : wpAny (model prog w) A (inplaceOp .Sub (.int a t) (.int b u)) Q E ⟨h, gs, dr, tk, os⟩ := isub_ fun t tk => by have := q t tk; rwa [Int.natCast_sub hab] at this
theorem iaddN1 {a : Nat} {t u : Tok} {Q : Value → Shared → Prop} (q : ∀ t tk, Q (.int ((a + 1 : Nat) : Int) t) ⟨h, gs, dr, tk, os⟩) : wpAny (model prog w) A (inplaceOp .Add (.int a t) (.int 1 u)) Q E ⟨h, gs, dr, tk, os⟩ := iadd_ fun t tk => by have := q t tk; rwa [Int.natCast_add] at this
end
section
variable {w : World} {A : Around} {E : Value → Shared → Prop} {s s' : Shared} {mg mb : Str → Option Value} {g h : Heap} {gs : Array GenState} {dr : Drawn} {tk : Nat} {os : OsState} {nm : List Str} {ls : List (Option Value)} {mu : List (Addr × Obj)}
inductive EJ1 (s : Shared) (L : Nat) (tot : Nat) (n : Nat) (s' : Shared) : Prop
  | mk (a b c h' gs' tk' t u v) (q0 : s' = ⟨h', gs', s.drawn, tk', s.os⟩) (q1 : AllBare gs') (q2 : St (hideAll s.heap []) L h' nm_counted [some (.int (a : Nat) t), some (.int (b : Nat) u), some (.int (c : Nat) v)] []) (q3 : 0 < a) (q4 : 0 < b) (q5 : n = a + b) (q6 : c + euc n a b = tot) : EJ1 s L tot n s'
theorem counted_spec {a b : Nat} {t u : Tok} (D : Gd (K w.params) mg mb s.heap) (hA : A.handled = none) (hdep : A.depth + 2 < recursionLimit) (hgs : AllBare s.gens) (ha : 0 < a) (hb : 0 < b) :
    codeAny (model prog w) A (.call (.ref 253) ⟨[.int a t, .int b u], []⟩) (Ret [] s fun v s' => ∃ t, v = .int (2 + euc (a + b) a b : Nat) t) s := by
  refine enterD [] (fn_counted _) D (by lia) (bi_counted _ _ _ _) (fun _ h => nomatch h) .nil (fun h => nomatch h) nm_counted [none, none, none] rfl led_counted fun Po hPo L h₁ hL S => ?_
  refine ba_cons (stE S (ve_counted_first L) (Nat.le_of_ble_eq_true rfl) fun h2 t2 S2 => ba_cons (stE S2 (ve_counted_second L) (Nat.le_of_ble_eq_true rfl) fun h3 t3 S3 => ba_nil ⟨S3.F.keep, ?_⟩))
  refine wpAny_execs_cons (asgE (cInt fun k4 t4 => stE S3 (ve_counted_count L) (Nat.le_of_ble_eq_true rfl) fun h5 t5 S5 => ?_))
  refine wpAny_execs_cons (while_ (EJ1 s L (2 + euc (a + b) a b)) ?_ (a + b) ⟨a, b, 2, _, _, _, t, u, k4, rfl, hgs, S5, ha, hb, rfl, rfl⟩)
  rintro n _ ⟨a', b', c', h6, gs6, t6, ta, tb, tc, rfl, hg6, S6, ha', hb', rfl, hc⟩
  refine wpAny_isTrue_Compare1 (ldE S6 (ve_counted_first L) rfl (ldE S6 (ve_counted_second L) rfl (neN (wpAny_truthy_bool ?_))))
  by_cases e : a' = b'
  · subst e
    rw [if_neg (by simp)]
    refine wpAny_execs_cons (wpAny_Return_some (ldE S6 (ve_counted_count L) rfl ?_))
    have e0 : euc (a' + a') a' a' = 0 := by
      cases h : a' + a' with
      | zero => rfl
      | succ n => unfold euc; rw [if_pos rfl]
    rw [e0] at hc
    have hc' : c' = 2 + euc (a + b) a b := hc
    rw [hc']
    exact endP hPo S6 hL (fun _ => hg6) rfl rfl ⟨_, rfl⟩
  · rw [if_pos (by simpa using e)]
    refine wpAny_execs_cons (wpAny_If (wpAny_isTrue_Compare1 (ldE S6 (ve_counted_first L) rfl (ldE S6 (ve_counted_second L) rfl (ltN (wpAny_truthy_bool ?_))))))
    obtain ⟨m, hm⟩ : ∃ m, a' + b' = m + 1 := ⟨a' + b' - 1, by lia⟩
    rw [hm, euc_succ, if_neg e] at hc
    by_cases l : a' < b'
    · rw [if_pos (by simpa using l)]
      rw [if_pos l] at hc
      refine wpAny_execs_cons (augE S6 (ve_counted_second L) rfl (ldE S6 (ve_counted_first L) rfl (isubN (Nat.le_of_lt l) fun k7 t7 => stE S6 (ve_counted_second L) (Nat.le_of_ble_eq_true rfl) fun h8 t8 S8 => ?_)))
      refine wpAny_execs_cons (augE S8 (ve_counted_count L) rfl (cInt fun k9 t9 => iaddN1 fun k10 t10 => stE S8 (ve_counted_count L) (Nat.le_of_ble_eq_true rfl) fun h11 t11 S11 => ?_))
      refine wpAny_execs_nil (wpAny_execs_nil ⟨a' + (b' - a'), by lia, a', b' - a', c' + 1, h11, gs6, _, _, _, _, rfl, hg6, S11, ha', by lia, rfl, ?_⟩)
      rw [euc_fuel _ m _ _ ha' (by lia) (Nat.le_refl _) (by lia)]
      lia
    · rw [if_neg (by simpa using l)]
      rw [if_neg l] at hc
      refine wpAny_execs_cons (augE S6 (ve_counted_first L) rfl (ldE S6 (ve_counted_second L) rfl (isubN (by lia) fun k7 t7 => stE S6 (ve_counted_first L) (Nat.le_of_ble_eq_true rfl) fun h8 t8 S8 => ?_)))
      refine wpAny_execs_nil (wpAny_execs_nil ⟨a' - b' + b', by lia, a' - b', b', c', h8, gs6, _, _, _, _, rfl, hg6, S8, by lia, hb', rfl, ?_⟩)
      rw [euc_fuel _ m _ _ (by lia) hb' (Nat.le_refl _) (by lia)]
      exact hc
end
end Mine
end
section
set_option Elab.async false
set_option maxRecDepth 100000
set_option linter.unusedVariables false
namespace Mine
open PySem PySem.W PySem.Calls PyProof.Rows
/-! the rings of 02 -/
noncomputable def sz2 (N : Int) : Nat := 3 + (N.fmod 11).toNat
noncomputable def st2 (N : Int) : Nat := 1 + ((N.fdiv 11).fmod ((sz2 N - 1 : Nat) : Int)).toNat
theorem fmod_lt' (a : Int) {b : Nat} (h : 0 < b) : 0 ≤ a.fmod b ∧ a.fmod b < b := by
  rw [Int.fmod_eq_emod_of_nonneg _ (by lia)]
  exact ⟨Int.emod_nonneg _ (by lia), Int.emod_lt_of_pos _ (by lia)⟩
theorem fmod_nat (a : Int) {b : Nat} (h : 0 < b) : (a.fmod b).toNat < b :=
  (Int.toNat_lt (fmod_lt' a h).1).mpr (fmod_lt' a h).2
theorem dims2 (N : Int) : 3 ≤ sz2 N ∧ sz2 N ≤ 13 ∧ 1 ≤ st2 N ∧ st2 N < sz2 N := by
  have h1 : (N.fmod 11).toNat < 11 := fmod_nat N (b := 11) (by decide)
  have h0 : 3 ≤ sz2 N := Nat.le_add_right ..
  refine ⟨h0, Nat.add_le_add_left (Nat.le_of_lt_succ h1) 3, Nat.le_add_right .., ?_⟩
  have h2 := fmod_nat (N.fdiv 11) (Nat.sub_pos_of_lt (Nat.lt_of_lt_of_le (by decide : 1 < 3) h0))
  exact Nat.add_lt_of_lt_sub' h2
def per (n st : Nat) : Nat := n / Nat.gcd n st
noncomputable def row2 (n st k : Nat) : List Int := (List.range k).map fun i => ((i * st % n : Nat) : Int)
theorem row2_len (n st k : Nat) : (row2 n st k).length = k := by simp [row2]
theorem row2_snoc (n st k : Nat) : row2 n st k ++ [((k * st % n : Nat) : Int)] = row2 n st (k + 1) := by simp [row2, List.range_succ]
theorem row2_get {n st k i : Nat} (h : i < k) : (row2 n st k)[i]? = some ((i * st % n : Nat) : Int) := by
  simp [row2, List.getElem?_map, List.getElem?_range h]
theorem per_all : ((List.range 14).all fun n => (List.range 14).all fun st => n < 3 || st < 1 || n ≤ st || (decide (0 < per n st) && decide (per n st ≤ n) && (List.range 14).all fun k => k == 0 || per n st < k || (k * st % n == 0) == (k == per n st))) = true := by decide +kernel
theorem per_ok {n st : Nat} (h1 : 3 ≤ n) (h2 : n ≤ 13) (h3 : 1 ≤ st) (h4 : st < n) : 0 < per n st ∧ per n st ≤ n ∧ ∀ k, 0 < k → k ≤ per n st → (k * st % n = 0 ↔ k = per n st) := by
  have h := List.all_eq_true.mp (List.all_eq_true.mp per_all n (List.mem_range.mpr (by lia))) st (List.mem_range.mpr (by lia))
  have e1 : decide (n < 3) = false := by simp; lia
  have e2 : decide (st < 1) = false := by simp; lia
  have e3 : decide (n ≤ st) = false := by simp; lia
  rw [e1, e2, e3] at h
  simp only [Bool.false_or, Bool.and_eq_true, decide_eq_true_eq] at h
  refine ⟨h.1.1, h.1.2, fun k hk hk' => ?_⟩
  have := List.all_eq_true.mp h.2 k (List.mem_range.mpr (by lia))
  have e4 : (k == 0) = false := by simp; lia
  have e5 : decide (per n st < k) = false := by simp; lia
  rw [e4, e5] at this
  simp only [Bool.false_or, beq_iff_eq] at this
  by_cases c : k * st % n = 0
  · simp [c] at this
    exact ⟨fun _ => this, fun _ => c⟩
  · have c' : (k * st % n == 0) = false := by simpa using c
    rw [c'] at this
    simp at this
    exact ⟨fun z => absurd z c, fun z => absurd z this⟩
section
variable {w : World} {A : Around} {E : Value → Shared → Prop} {s s' : Shared} {mg mb : Str → Option Value} {g h : Heap} {gs : Array GenState} {dr : Drawn} {tk : Nat} {os : OsState} {L : Addr} {nm : List Str} {ls : List (Option Value)} {mu : List (Addr × Obj)} {env : Env} {prog : Program}
theorem fdiv_ {a b : Int} {t u : Tok} {Q : Value → Shared → Prop} (hb : b ≠ 0) (hb' : b.natAbs < 1073741824) (q : ∀ t tk, Q (.int (a.fdiv b) t) ⟨h, gs, dr, tk, os⟩) : wpAny (model prog w) A (binaryOp .FloorDiv (.int a t) (.int b u)) Q E ⟨h, gs, dr, tk, os⟩ :=
  PyProof.Rows.floordiv_int (s := ⟨h, gs, dr, tk, os⟩) hb (q _ _) (.inl (PyProof.noPylong_small hb'))
/-- list[-1] -/
theorem itemLast {value slice : Expr} {l : Addr} {items : List Value} {n : Nat} {v : Value} {t : Tok} {Q : Value → Shared → Prop} (hl : h.get? l = some (lob items n)) (h0 : 0 < items.length) (hz : items.length ≤ 10000) (hv : items[items.length - 1]? = some v) (q : Q v ⟨h, gs, dr, tk, os⟩)
    (hs : subscripted slice false (.ref l) (.int (-1) t) = operate [.ref l, .int (-1) t] (getItem (.ref l) (.int (-1) t)) := by with_unfolding_all rfl) : wpAny (model prog w) A (subscriptTail value slice (.ref l) (.int (-1) t)) Q E ⟨h, gs, dr, tk, os⟩ := by
  have hl' := lob_list hl
  refine tail_any (s := ⟨h, gs, dr, tk, os⟩) hl'.typeIs slot_list_getitem.lookup (wpAny_getItem_list_neg hl' (by decide) ?_ (by decide) ?_ q) hs
  · rw [List.size_toArray]; lia
  · rw [List.size_toArray, List.getElem?_toArray]
    have e : ((-1 : Int) + (items.length : Nat)).toNat = items.length - 1 := by lia
    rw [e]; exact hv
theorem Neg1_ {x : Expr} {pos : Pos} {Q : Value → Shared → Prop} {s : Shared} (k : wpAny (model prog w) A (eval x env) (fun v s₁ => wpAny (model prog w) A (unaryOp .USub v) Q E s₁) E s) : wpAny (model prog w) A (eval (.UnaryOp .USub x pos) env) Q E s := wpAny_UnaryOp k
end
section
variable {w : World} {A : Around} {E : Value → Shared → Prop} {s s' : Shared} {mg mb : Str → Option Value} {g h : Heap} {gs : Array GenState} {dr : Drawn} {tk : Nat} {os : OsState} {nm : List Str} {ls : List (Option Value)} {mu : List (Addr × Obj)}
inductive RgJ (s : Shared) (L : Nat) (N : Int) (n st : Nat) (t0 t1 t2 : Tok) (D : Addr) (m : Nat) (s' : Shared) : Prop
  | mk (k items z h' gs' tk') (q0 : s' = ⟨h', gs', s.drawn, tk', s.os⟩) (q1 : AllBare gs') (q2 : St (hideAll s.heap []) L h' nm_ring [some (.int N t0), some (.int n t1), some (.int st t2), some (.ref D)] [(D, lob items z)]) (q3 : IntsAre items (row2 n st k)) (q4 : 0 < k) (q5 : k ≤ per n st) (q6 : m = per n st - k) : RgJ s L N n st t0 t1 t2 D m s'
theorem ring_spec {N : Int} {t0 : Tok} (D : Gd (K w.params) mg mb s.heap) (hA : A.handled = none) (hdep : A.depth + 2 < recursionLimit) (hgs : AllBare s.gens) :
    codeAny (model prog w) A (.call (.ref 260) ⟨[.int N t0], []⟩) (Ret [] s fun v s' => ∃ T R items z t1 t2, v = .ref T ∧ IntsAre items (row2 (sz2 N) (st2 N) (per (sz2 N) (st2 N))) ∧ Fresh s s' [(T, tob [.int (sz2 N : Nat) t1, .int (st2 N : Nat) t2, .ref R]), (R, lob items z)]) s := by
  obtain ⟨d1, d2, d3, d4⟩ := dims2 N
  obtain ⟨p1, p2, p3⟩ := per_ok d1 d2 d3 d4
  have e11 : 0 ≤ N.fmod 11 := (fmod_lt' N (b := 11) (by decide)).1
  refine enterD [] (fn_ring _) D (by lia) (bi_ring _ _ _) (fun _ h => nomatch h) .nil (fun h => nomatch h) nm_ring [none, none, none, none] rfl led_ring fun Po hPo L h₁ hL S => ?_
  refine ba_cons (stE S (ve_ring_number L) (Nat.le_of_ble_eq_true rfl) fun h2 t2 S2 => ba_nil ⟨S2.F.keep, ?_⟩)
  refine wpAny_execs_cons (asgE (wpAny_BinOp (cInt fun k3 t3 => wpAny_BinOp (ldE S2 (ve_ring_number L) rfl (cInt fun k4 t4 => mod_ (by decide) fun k5 t5 => add_ fun k6 t6 => ?_)))))
  rw [show (3 : Int) + N.fmod 11 = (sz2 N : Nat) by unfold sz2; (clear p3 p2 p1 d4 d3 d2 d1 hL hdep hA; lia)]
  refine stE S2 (ve_ring_size L) (Nat.le_of_ble_eq_true rfl) fun h7 t7 S7 => ?_
  have es := (fmod_lt' (N.fdiv 11) (b := sz2 N - 1) (by (clear e11 p3 p2 p1 d4 d3 d2 hL hdep hA; lia))).1
  refine wpAny_execs_cons (asgE (wpAny_BinOp (cInt fun k8 t8 => wpAny_BinOp (wpAny_BinOp (ldE S7 (ve_ring_number L) rfl (cInt fun k9 t9 => fdiv_ (by decide) (by decide) fun k10 t10 => wpAny_BinOp (ldE S7 (ve_ring_size L) rfl (cInt fun k11 t11 => subN1 (by (clear es e11 p3 p2 p1 d4 d3 d2 hL hdep hA; lia)) fun k12 t12 => mod_ (by (clear es e11 p3 p2 p1 d4 d3 d2 hL hdep hA; lia)) fun k13 t13 => add_ fun k14 t14 => ?_))))))))
  rw [show (1 : Int) + (N.fdiv 11).fmod ((sz2 N - 1 : Nat) : Int) = (st2 N : Nat) by unfold st2; (clear e11 p3 p2 p1 d4 d3 d2 d1 hL hdep hA; lia)]
  generalize sz2 N = n at *
  generalize st2 N = st at *
  refine stE S7 (ve_ring_step L) (Nat.le_of_ble_eq_true rfl) fun h15 t15 S15 => ?_
  refine wpAny_execs_cons (asgE (List_ (arg_ (cInt fun k16 t16 => arg0 (newL S15 (by simp) fun h17 S17 => stE S17 (ve_ring_row L) (Nat.le_of_ble_eq_true rfl) fun h18 t18 S18 => ?_)))))
  have r1 : row2 n st 1 = [0] := by simp [row2]
  refine wpAny_execs_cons (while_ (RgJ s L N n st t0 k6 k14 h15.objs.size) ?_ (per n st - 1) ⟨1, [.int 0 k16], 0, _, _, _, rfl, hgs, S18, by rw [r1]; exact .cons _ _ .nil, by lia, p1, rfl⟩)
  rintro m _ ⟨k, items, z, h19, gs19, t19, rfl, hg19, S19, hI, hk, hk', rfl⟩
  have hlen : items.length = k := by rw [hI.length, row2_len]
  have hlast : ∃ u, items[items.length - 1]? = some (.int ((k - 1) * st % n : Nat) u) := by
    rw [hlen]
    obtain ⟨u, hu⟩ := intAt hI (k := k - 1) (by rw [row2_len]; lia)
    refine ⟨u, ?_⟩
    rw [hu, List.getD_eq_getElem?_getD, row2_get (by lia)]; rfl
  obtain ⟨u, hu⟩ := hlast
  have hnext : ((k - 1) * st % n + st) % n = k * st % n := by
    obtain ⟨k, rfl⟩ : ∃ j, k = j + 1 := ⟨k - 1, by lia⟩
    rw [Nat.add_sub_cancel, Nat.mod_add_mod, Nat.succ_mul]
  refine wpAny_isTrue_Compare1 (wpAny_BinOp (wpAny_BinOp (Subscript_ (ldE S19 (ve_ring_row L) rfl (Neg1_ (cInt fun k20 t20 => neg_ fun k21 t21 => itemLast (S19.get (j := 0) rfl) (by lia) (by lia) hu (ldE S19 (ve_ring_step L) rfl (addN fun k22 t22 => ldE S19 (ve_ring_size L) rfl (modN (by lia) fun k23 t23 => ?_)))))))))
  rw [hnext]
  refine cInt fun k24 t24 => neN (b := 0) (wpAny_truthy_bool ?_)
  by_cases e : k * st % n = 0
  · rw [if_neg (by simp [e])]
    have ek : k = per n st := (p3 k hk hk').mp e
    refine wpAny_execs_cons (wpAny_Return_some (Tuple_ (arg_ (ldE S19 (ve_ring_size L) rfl (arg_ (ldE S19 (ve_ring_step L) rfl (arg_ (ldE S19 (ve_ring_row L) rfl (arg0 (newT S19 (by simp) fun h25 S25 => ?_))))))))))
    exact endP hPo S25 hL (fun _ => hg19) rfl rfl ⟨_, _, items, z, _, _, rfl, ek ▸ hI, St.fresh (mu := []) S25 rfl rfl⟩
  · rw [if_pos (by simp [e])]
    have ek : k ≠ per n st := fun z => e ((p3 k hk hk').mpr z)
    refine wpAny_execs_cons (wpAny_Expr (MethodCall_ (ldE S19 (ve_ring_row L) rfl (mL PySem.F.slot_list_append PySem.F.type_list_append (S19.get (j := 0) rfl) (callWith_method1 (arg_ (wpAny_BinOp (wpAny_BinOp (Subscript_ (ldE S19 (ve_ring_row L) rfl (Neg1_ (cInt fun k20 t20 => neg_ fun k21 t21 => itemLast (S19.get (j := 0) rfl) (by lia) (by lia) hu (ldE S19 (ve_ring_step L) rfl (addN fun k22 t22 => ldE S19 (ve_ring_size L) rfl (modN (by lia) fun k23 t23 => arg0 (append_ (j := 0) S19 rfl (by lia) fun h24 S24 => ?_))))))))))))))))
    refine wpAny_execs_nil ⟨per n st - (k + 1), by lia, k + 1, _, _, h24, gs19, _, rfl, hg19, S24, ?_, by lia, by lia, rfl⟩
    rw [← row2_snoc, ← hnext]
    exact ints_snoc hI
end
end Mine
end
section
set_option Elab.async false
set_option maxRecDepth 100000
set_option linter.unusedVariables false
set_option linter.unusedSimpArgs false
namespace Mine
open PySem PySem.W PySem.Calls PyProof.Rows
/-! comprehensions of two generators -/
section
variable {prog : Program} {w : World} {A : Around} {E : Value → Shared → Prop} {h g : Heap} {gs : Array GenState} {dr : Drawn} {tk : Nat} {os : OsState} {L a : Addr} {nm : List Str} {ls : List (Option Value)} {mu own : List (Addr × Obj)} {env : Env} {R : Result → Shared → Prop} {s : Shared}
/-- a turn of a clause: the item is bound, then body -/
noncomputable def BodyIs (elt : Expr) (gens : List Comprehension) (scope : Scope) (pos : Pos) (depth : Nat) (acc : Value) (env : Env) (target : Expr) (p : Pos) (body : Sem Unit) : Prop :=
  ∀ it, compTurn (.ListComp elt gens scope pos) depth it acc env = (standAt p >>= fun _ => pyNext it >>= fun r => match r with
      | none => pure (.done .next)
      | some v => letOwnedTupleGo target it v >>= fun _ => assign target env v >>= fun _ => body >>= fun _ => again (.compLoop (.ListComp elt gens scope pos) depth it acc env))
theorem codeAny_compLoopB {elt target : Expr} {gens : List Comprehension} {scope : Scope} {pos p : Pos} {depth : Nat} {it acc : Value} {body : Sem Unit} (hB : BodyIs elt gens scope pos depth acc env target p body) (I : Nat → Shared → Prop)
    (turn : ∀ n s, I n s → wpAny (model prog w) A (pyNext it) (fun r s₁ => match r with
      | none => R (.ok .next) s₁
      | some v => wpAny (model prog w) A (assign target env v) (fun _ s₂ => wpAny (model prog w) A body (fun _ s₃ => ∃ m, m < n ∧ I m s₃) (fun _ _ => False) s₂) (fun _ _ => False) s₁) (fun _ _ => False) s)
    (n : Nat) (h : I n s) (ht : ∀ v, letOwnedTupleGo target it v = pure ()) :
    codeAny (model prog w) A (.compLoop (.ListComp elt gens scope pos) depth it acc env) R s := by
  refine codeAny_loop rfl I (fun n s hI => ?_) n h
  show wpAny _ _ ((compTurn (.ListComp elt gens scope pos) depth it acc env).onRaise (fun x => do noteFrame x env; theTreesLotGoes x)) _ _ s
  refine wpAny_noted ?_
  rw [hB it]
  refine wpAny_bind (wpAny_standAt (wpAny_bind (wpAny_mono (turn n s hI) (fun r s₁ h₁ => ?_) fun _ _ x => x.elim)))
  cases r with
  | none => exact wpAny_pure h₁
  | some v =>
    refine wpAny_bind (wpAny_of_eq (ht v) ?_)
    exact wpAny_bind (wpAny_mono h₁ (fun _ s₂ h₂ => wpAny_bind (wpAny_mono h₂ (fun x s₃ h₃ => wpAny_pure ⟨rfl, h₃⟩) fun _ _ x => x.elim)) fun _ _ x => x.elim)
inductive CmJB (g : Heap) (dr : Drawn) (os : OsState) (own : List (Addr × Obj)) (D : Addr) (C : Addr) (n : Nat) (Sx : Nat → Heap → Prop) (nmc : List Str) (J : Nat → List Value → List (Option Value) → List (Addr × Obj) → Prop) (k : Nat) (s : Shared) : Prop
  | mk (i ys m ls mu own' h gs tk) (q1 : k = n - i) (q2 : i ≤ n) (q3 : s = ⟨h, gs, dr, tk, os⟩) (q4 : J i ys ls mu) (q6 : own'.map (·.1) = own.map (·.1)) (q7 : AllBare gs) (q8 : St g C h nmc ls ((D, lob ys m) :: mu ++ own')) (q9 : Sx i h) : CmJB g dr os own D C n Sx nmc J k s
theorem compLoopB {elt target : Expr} {gens : List Comprehension} {scope : Scope} {pos p : Pos} {depth : Nat} {body : Sem Unit} {I D C : Addr} {fp wr : List Addr} {n : Nat} {P : Nat → Value → Prop} {Sx : Nat → Heap → Prop} {nmc : List Str} {lsc : List (Option Value)} {m : Nat} {ys0 : List Value}
    (hB : BodyIs elt gens scope pos depth (.ref D) env target p body)
    (J : Nat → List Value → List (Option Value) → List (Addr × Obj) → Prop) (W : Walks prog w A I fp wr n P Sx) (hfp : ∀ b ∈ fp, b ∈ own.map (·.1) ∨ (∃ o, g.get? b = some o) ∨ ∃ o, ∀ i ys ls mu, J i ys ls mu → (b, o) ∈ mu) (hwr : ∀ b ∈ wr, b ∈ own.map (·.1))
    (live : ∀ i h, Sx i h → ∀ b ∈ wr, ∃ o, h.get? b = some o)
    (turn : ∀ i v ys m ls mu own' h gs tk, i < n → P i v → J i ys ls mu → own'.map (·.1) = own.map (·.1) → AllBare gs → St g C h nmc ls ((D, lob ys m) :: mu ++ own') →
      ∀ T : Shared → Prop, (∀ ys' m' s', CT g C D nmc own' dr os (J (i + 1)) ys' m' s' → T s') → wpAny (model prog w) A (assign target env v) (fun _ s₂ => wpAny (model prog w) A body (fun _ => T) (fun _ _ => False) s₂) (fun _ _ => False) ⟨h, gs, dr, tk, os⟩)
    (done : ∀ ys m ls mu h gs tk, J n ys ls mu → AllBare gs → St g C h nmc ls ((D, lob ys m) :: mu) → R (.ok .next) ⟨h, gs, dr, tk, os⟩)
    (hJ : J 0 ys0 lsc mu) (S : St g C h nmc lsc ((D, lob ys0 m) :: mu ++ own)) (hS : Sx 0 h) (hgs : AllBare gs) (ht : ∀ it v, letOwnedTupleGo target it v = pure () := by exact fun _ _ => rfl) :
    codeAny (model prog w) A (.compLoop (.ListComp elt gens scope pos) depth (.ref I) (.ref D) env) R ⟨h, gs, dr, tk, os⟩ := by
  refine codeAny_compLoopB hB (CmJB g dr os own D C n Sx nmc J) ?_ n
    ⟨0, ys0, m, lsc, mu, own, h, gs, tk, by lia, Nat.zero_le _, rfl, hJ, rfl, hgs, S, hS⟩ (ht _)
  rintro k s ⟨i, ys, m, ls, mu, own', h, gs, tk, rfl, hi, rfl, hJ, ho, hgs, S, hS⟩
  rcases Nat.lt_or_ge i n with hlt | hge
  · refine W.item i _ _ _ hlt hS fun v h' tk' hP hS' keep => ?_
    have S1 : St g C h nmc ls (((D, lob ys m) :: mu) ++ own') := S
    obtain ⟨own'', e, S'⟩ := S1.turn (wr := wr) (by rw [ho]; exact hwr) keep (live _ _ hS')
    refine wpAny_mono (turn i v ys m ls mu own'' h' gs tk' hlt hP hJ (e.trans ho) hgs S' (fun s' => ∃ ys' m', CT g C D nmc own'' dr os (J (i + 1)) ys' m' s') fun ys' m' _ h => ⟨ys', m', h⟩) (fun _ s₂ h₂ => ?_) fun _ _ x => x.elim
    refine wpAny_mono h₂ (fun _ s₃ h₃ => ?_) fun _ _ x => x.elim
    obtain ⟨ys', m', ls', mu', h3, gs', tk3, rfl, hg3, S3, hJ3⟩ := h₃
    refine ⟨n - (i + 1), by (clear e ho hi; lia), i + 1, ys', m', ls', mu', own'', h3, gs', tk3, rfl, hlt, rfl, hJ3, e.trans ho, hg3, S3, frame_on (own := own) (J := fun ls mu => ∃ mu2, mu = (D, lob ys m) :: mu2 ∧ J i ys ls mu2) (J' := fun ls mu => ∃ mu2, mu = (D, lob ys' m') :: mu2 ∧ J (i + 1) ys' ls mu2) W (fun b hb => ?_) (e.trans ho) S' S3 ⟨_, rfl, hJ⟩ ⟨_, rfl, hJ3⟩ hS'⟩
    rcases hfp b hb with x | x | ⟨o, x⟩
    · exact .inl x
    · exact .inr (.inl x)
    · refine .inr (.inr ⟨o, ?_, ?_⟩)
      · rintro ls _ ⟨mu2, rfl, j⟩; exact .tail _ (x _ _ _ _ j)
      · rintro ls _ ⟨mu2, rfl, j⟩; exact .tail _ (x _ _ _ _ j)
  · obtain rfl : i = n := by lia
    have S1 : St g C h nmc ls (((D, lob ys m) :: mu) ++ own') := S
    refine W.done _ _ _ hS fun h' tk' keep => done ys m ls mu h' gs tk' hJ hgs (S1.leftOwn (by rw [ho]; exact hwr) keep)
/-- two clauses without tests: the outer one's body -/
noncomputable def body0 (elt : Expr) (gens : List Comprehension) (scope : Scope) (pos : Pos) (i2 : Expr) (acc : Value) (env : Env) : Sem Unit :=
  eval i2 env >>= fun x => standAt i2.pos >>= fun _ => foldedSetIterable i2 env x >>= fun x => holding [x] (pyIter x) >>= fun it' => runOwn (.compStart (.ListComp elt gens scope pos) 1 it' acc env) env >>= fun _ => pure ()
noncomputable def body1 (elt : Expr) (acc : Value) (env : Env) : Sem Unit := eval elt env >>= fun x => call (.builtin "list.append") [acc, x] >>= fun _ => pure ()
theorem bodyIs0 (elt t1 i1 t2 i2 : Expr) (scope : Scope) (pos : Pos) (acc : Value) (env : Env) : BodyIs elt [⟨t1, i1, [], 0⟩, ⟨t2, i2, [], 0⟩] scope pos 0 acc env t1 i1.pos (body0 elt [⟨t1, i1, [], 0⟩, ⟨t2, i2, [], 0⟩] scope pos i2 acc env) := fun it => by
  have e : compTurn (.ListComp elt [⟨t1, i1, [], 0⟩, ⟨t2, i2, [], 0⟩] scope pos) 0 it acc env = (standAt i1.pos >>= fun _ => pyNext it >>= fun r => match r with
      | none => pure (.done .next)
      | some v => letOwnedTupleGo t1 it v >>= fun _ => assign t1 env v >>= fun _ =>
        eval i2 env >>= fun x => standAt i2.pos >>= fun _ => foldedSetIterable i2 env x >>= fun x => holding [x] (pyIter x) >>= fun it' => runOwn (.compStart (.ListComp elt [⟨t1, i1, [], 0⟩, ⟨t2, i2, [], 0⟩] scope pos) 1 it' acc env) env >>= fun _ => again (.compLoop (.ListComp elt [⟨t1, i1, [], 0⟩, ⟨t2, i2, [], 0⟩] scope pos) 0 it acc env)) := by rfl
  rw [e]
  simp only [body0, bind_assoc, pure_bind]
theorem bodyIs1 (elt t1 i1 t2 i2 : Expr) (scope : Scope) (pos : Pos) (acc : Value) (env : Env) : BodyIs elt [⟨t1, i1, [], 0⟩, ⟨t2, i2, [], 0⟩] scope pos 1 acc env t2 i2.pos (body1 elt acc env) := fun it => by rfl
theorem compStart1 {elt t1 i1 t2 i2 : Expr} {scope : Scope} {pos : Pos} {it acc : Value} (h0 : codeAny (model prog w) A (.compLoop (.ListComp elt [⟨t1, i1, [], 0⟩, ⟨t2, i2, [], 0⟩] scope pos) 1 it acc env) R s)
    (h : wpAny (model prog w) A (pyIter it) (fun it' s' => codeAny (model prog w) A (.compLoop (.ListComp elt [⟨t1, i1, [], 0⟩, ⟨t2, i2, [], 0⟩] scope pos) 1 it' acc env) R s') (notedBy (model prog w) A env fun x s' => R (.error x) s') s) :
    codeAny (model prog w) A (.compStart (.ListComp elt [⟨t1, i1, [], 0⟩, ⟨t2, i2, [], 0⟩] scope pos) 1 it acc env) R s := by
  refine codeAny_of_tree ?_
  show wpAny _ _ ((compStart (.ListComp elt [⟨t1, i1, [], 0⟩, ⟨t2, i2, [], 0⟩] scope pos) 1 it acc env).onRaise (fun x => do noteFrame x env; standAt theWindowsPlace)) _ _ s
  refine wpAny_notedAt ?_
  unfold compStart
  show wpAny _ _ (ask >>= _) _ _ s
  refine wpAny_bind (wpAny_askSetting (wpAny_ite ?_))
  split
  · first
      | exact wpAny_bind (wpAny_pure (wpAny_pure (And.intro rfl h0)))
      | exact wpAny_pure (And.intro rfl h0)
  · first
      | exact wpAny_bind (wpAny_rule (wpAny_bind (wpAny_standAt (wpAny_bind (wpAny_mono h (fun it' s' h' => wpAny_pure (And.intro rfl h')) fun _ _ x => x)))))
      | (refine wpAny_bind (wpAny_rule ?_); show wpAny _ _ (standAt i2.pos >>= _) _ _ s; exact wpAny_bind (wpAny_standAt (wpAny_bind (wpAny_mono h (fun it' s' h' => wpAny_pure (And.intro rfl h')) fun _ _ x => x))))
theorem compCoreB {elt target iter : Expr} {rest : List Comprehension} {p : Pos} {body : Addr → Addr → Sem Unit} {scope : Scope} {pos : Pos} {cl : List (Str × Addr)} {I : Addr} {fp wr : List Addr} {n : Nat} {P : Nat → Value → Prop} {Sx : Nat → Heap → Prop} {RR : Value → Addr → Result → Shared → Prop} (nmc : List Str)
    (J : CJ) (W : Walks prog w A I fp wr n P Sx) (hfp : ∀ b ∈ fp, b ∈ own.map (·.1) ∨ (∃ o, g.get? b = some o) ∨ ∃ o, ∀ C D i ys ls mu, J C D i ys ls mu → (b, o) ∈ mu) (hwr : ∀ b ∈ wr, b ∈ own.map (·.1))
    (live : ∀ i h, Sx i h → ∀ b ∈ wr, ∃ o, h.get? b = some o) (hB : ∀ C D, BodyIs elt (⟨target, iter, [], 0⟩ :: rest) scope pos 0 (.ref D) (cenvOf scope cl C env) target p (body C D))
    (turn : ∀ g' C D, Sub g g' → ∀ i v ys m ls mu own h gs tk, i < n → P i v → J C D i ys ls mu → AllBare gs → St g' C h nmc ls ((D, lob ys m) :: mu ++ own) →
      ∀ T : Shared → Prop, (∀ ys' m' s', CT g' C D nmc own dr os (J C D (i + 1)) ys' m' s' → T s') → wpAny (model prog w) A (assign target (cenvOf scope cl C env) v) (fun _ s₂ => wpAny (model prog w) A (body C D) (fun _ => T) (fun _ _ => False) s₂) (fun _ _ => False) ⟨h, gs, dr, tk, os⟩)
    (done : ∀ C D oC ys m lsc mu h gs tk, J C D n ys lsc mu → AllBare gs → St g L h nm ls ((C, oC) :: (D, lob ys m) :: mu) → (∀ h3 : Heap, h3.get? C = some oC → ∃ m, h3.Ns C m) → RR (.ref D) C (.ok .next) ⟨h, gs, dr, tk, os⟩)
    (hJ : ∀ C D, J C D 0 [] (nmc.map fun _ => none) (led0 (C + 1) scope.names ++ mu)) (S : St g L h nm ls (mu ++ own)) (hS : Sx 0 h) (hgs : AllBare gs) (ht : ∀ it v, letOwnedTupleGo target it v = pure () := by exact fun _ _ => rfl) :
    wpAny (model prog w) A (newList []) (fun acc s₃ => wpAny (model prog w) A (newFunctionEnv scope env.globals cl [] env.qual none .none (some env)) (fun cenv s₄ =>
      codeAny (model prog w) A (.compStart (.ListComp elt (⟨target, iter, [], 0⟩ :: rest) scope pos) 0 (.ref I) acc { cenv with scope := relabel scope env }) (RR acc cenv.locals) s₄) E s₃) E ⟨h, gs, dr, tk, os⟩ := by
  refine newL S (by simp) fun h1 S1 => ?_
  refine newEnvC (gs := gs) (dr := dr) (tk := tk) (os := os) ?_
  have S2 := S1.inner (scope := scope) nmc
  have hsub : Sub g (hideAll h1 (((h.objs.size, (⟨.type "list", none, .seq ([] : List Value).toArray 0, #[]⟩ : Obj)) :: (mu ++ own)).map (·.1))) := fun b o e => hideAll_get _ (S1.F.keep b o e) fun m => by
    obtain ⟨p, hp, e'⟩ := List.mem_map.mp m
    have := (S1.N p hp).2.2
    rw [e', e] at this; cases this
  have S3 : St (hideAll h1 (((h.objs.size, (⟨.type "list", none, .seq ([] : List Value).toArray 0, #[]⟩ : Obj)) :: (mu ++ own)).map (·.1))) h1.objs.size (pushCells (h1.push { cls := .type "dict", data := .dict #[] }) scope.names) nmc (nmc.map fun _ => none) ((h.objs.size, lob [] 0) :: (led0 (h1.objs.size + 1) scope.names ++ mu) ++ own) := by
    refine S2.perm ?_
    simp only [List.cons_append, List.append_assoc]
    exact List.perm_middle
  have hS3 : Sx 0 (pushCells (h1.push { cls := .type "dict", data := .dict #[] }) scope.names) := W.frame _ _ _ hS fun b hb o e => by
    have e1 : ∀ b o, h.get? b = some o → (pushCells (h1.push { cls := .type "dict", data := .dict #[] }) scope.names).get? b = some o → True := fun _ _ _ _ => trivial
    rcases hfp b hb with hm | ⟨o', hg⟩ | ⟨o', hj⟩
    · obtain ⟨p, hp, rfl⟩ := List.mem_map.mp hm
      have a1 := (S.N p (List.mem_append_right _ hp)).1
      have a2 := (S3.N p (List.mem_append_right _ hp)).1
      rw [a1] at e; cases e; exact a2
    · have a1 := S.F.keep _ _ hg
      rw [a1] at e; cases e
      exact S3.F.keep _ _ (hsub _ _ hg)
    · have hm := hj _ _ _ _ _ _ (hJ h1.objs.size h.objs.size)
      have a2 := (S3.N _ (List.mem_append_left _ (.tail _ hm))).1
      rcases List.mem_append.mp hm with hm | hm
      · have := led0_ge _ _ _ hm
        have h2 := Heap.lt_size e
        have h3 : h.objs.size ≤ h1.objs.size := Nat.le_of_lt (Heap.lt_size (S1.N _ (.head _)).1)
        exact absurd this (Nat.not_le.mpr (Nat.lt_succ_of_le (Nat.le_of_lt (Nat.lt_of_lt_of_le h2 h3))))
      · have a1 := (S.N _ (List.mem_append_left _ hm)).1
        rw [a1] at e; cases e; exact a2
  have loop : ∀ tk, codeAny (model prog w) A (.compLoop (.ListComp elt (⟨target, iter, [], 0⟩ :: rest) scope pos) 0 (.ref I) (.ref h.objs.size) (cenvOf scope cl h1.objs.size env)) (RR (.ref h.objs.size) h1.objs.size) ⟨pushCells (h1.push { cls := .type "dict", data := .dict #[] }) scope.names, gs, dr, tk, os⟩ := by
    intro tk
    refine compLoopB (own := own) (hB _ _) (J h1.objs.size h.objs.size) W (fun b hb => ?_) hwr live (fun i v ys m ls mu own' h gs tk hi hP hJ ho hg S => turn _ _ _ hsub i v ys m ls mu own' h gs tk hi hP hJ hg S) (fun ys m lsc mu' h' gs' tk' hJ' hg' S' => ?_) (hJ _ _) S3 hS3 hgs ht
    · rcases hfp b hb with x | ⟨o, x⟩ | ⟨o, x⟩
      · exact .inl x
      · exact .inr (.inl ⟨o, hsub _ _ x⟩)
      · exact .inr (.inr ⟨o, x _ _⟩)
    · obtain ⟨oC, S4, hC⟩ := S1.leave S' (Nat.le_refl _)
      exact done _ _ oC ys m lsc mu' h' gs' tk' hJ' hg' S4 hC
  refine codeAny_compStart_list (loop tk) (W.self 0 _ _ _ hS3 (loop tk))
theorem body0_ {elt t1 i1 t2 i2 : Expr} {scope : Scope} {pos : Pos} {acc : Value} {Q : Unit → Shared → Prop}
    (k : wpAny (model prog w) A (eval i2 env) (fun x s₁ => wpAny (model prog w) A (pyIter x) (fun it' s₂ => codeAny (model prog w) A (.compStart (.ListComp elt [⟨t1, i1, [], 0⟩, ⟨t2, i2, [], 0⟩] scope pos) 1 it' acc env) (fun r s' => match r with | .ok _ => Q () s' | .error _ => False) s₂) (fun _ _ => False) s₁) (fun _ _ => False) s)
    (hs : ∀ x, foldedSetIterable i2 env x = pure x := by intro _; rfl) : wpAny (model prog w) A (body0 elt [⟨t1, i1, [], 0⟩, ⟨t2, i2, [], 0⟩] scope pos i2 acc env) Q (fun _ _ => False) s := by
  unfold body0
  refine wpAny_bind (wpAny_mono k (fun x s₁ h₁ => ?_) fun _ _ x => x.elim)
  refine wpAny_bind (wpAny_standAt ?_)
  refine wpAny_bind (wpAny_of_eq (hs x) ?_)
  refine wpAny_bind (wpAny_holding (wpAny_mono h₁ (fun it' s₂ h₂ => ?_) fun _ _ x => x.elim))
  refine wpAny_bind (wpAny_runOwn (h := none) ?_)
  show codeAny (model prog w) A _ _ _
  refine codeAny_mono h₂ (fun r s₃ h₃ => ?_)
  cases r with
  | ok f => exact wpAny_pure h₃
  | error e => exact h₃.elim
/-- the inner clause over range(n) -/
theorem compInner {elt t1 i1 t2 i2 : Expr} {scope : Scope} {pos : Pos} {C D r : Addr} {n : Nat} {t u v : Tok} {nmc : List Str} {ys0 : List Value} {m : Nat} (J : Nat → List Value → List (Option Value) → List (Addr × Obj) → Prop) (S : St g C h nmc ls ((D, lob ys0 m) :: mu)) (hh : A.handled = none) (hgs : AllBare gs)
    (hr : IsRange h r 0 n 1 t u v) (hn : n < 1000) (hlen : ∀ i ys ls mu, J i ys ls mu → ys.length ≤ 10000)
    (turn : ∀ i k ys m ls mu own h gs tk, i < n → J i ys ls mu → AllBare gs → St g C h nmc ls ((D, lob ys m) :: mu ++ own) →
      ∀ T : Value → Shared → Prop, (∀ x s', CE1 g C D nmc own dr os (J (i + 1)) ys m x s' → T x s') → wpAny (model prog w) A (assign t2 env (.int (i : Nat) k)) (fun _ s₂ => wpAny (model prog w) A (eval elt env) T (fun _ _ => False) s₂) (fun _ _ => False) ⟨h, gs, dr, tk, os⟩)
    (done : ∀ ys m ls mu h gs tk, J n ys ls mu → AllBare gs → St g C h nmc ls ((D, lob ys m) :: mu) → R (.ok .next) ⟨h, gs, dr, tk, os⟩) (hJ : J 0 ys0 ls mu) (ht : ∀ it v, letOwnedTupleGo t2 it v = pure () := by exact fun _ _ => rfl) :
    wpAny (model prog w) A (pyIter (.ref r)) (fun it' s₂ => codeAny (model prog w) A (.compStart (.ListComp elt [⟨t1, i1, [], 0⟩, ⟨t2, i2, [], 0⟩] scope pos) 1 it' (.ref D) env) R s₂) E ⟨h, gs, dr, tk, os⟩ := by
  refine overR (n := n) S hh hr (by split <;> lia) (by decide) (by omega) fun I h1 own S1 ho hS W => ?_
  have loop : codeAny (model prog w) A (.compLoop (.ListComp elt [⟨t1, i1, [], 0⟩, ⟨t2, i2, [], 0⟩] scope pos) 1 (.ref I) (.ref D) env) R ⟨h1, gs, dr, tk, os⟩ := by
    refine compLoopB (own := own) (bodyIs1 elt t1 i1 t2 i2 scope pos (.ref D) env) J W (fun b hb => .inl (by rw [ho]; exact hb)) (fun b hb => by rw [ho]; exact hb) ?_ ?_ done hJ S1 hS hgs ht
    · intro i h' hx b hb
      rw [List.mem_singleton.mp hb]; exact ⟨_, hx⟩
    · rintro i v ys m ls mu own' h' gs' tk' hi ⟨k, rfl⟩ hJ' ho' hg' S' T hT
      rw [show (0 : Int) + (i : Int) * 1 = (i : Nat) by omega]
      refine wpAny_mono (turn i k ys m ls mu own' h' gs' tk' hi hJ' hg' S' (fun x s' => CE1 g C D nmc own' dr os (J (i + 1)) ys m x s') fun _ _ h => h) (fun _ s₂ h₂ => ?_) fun _ _ x => x.elim
      refine wpAny_bind (wpAny_mono h₂ (fun x s₃ h₃ => ?_) fun _ _ x => x.elim)
      obtain ⟨ls', mu', h3, gs3, tk3, rfl, hg3, S3, hJ3⟩ := h₃
      refine wpAny_bind (append_ (j := 0) S3 rfl (by have := hlen _ _ _ _ hJ3; simp at this; omega) fun h5 S5 => wpAny_pure (hT (ys ++ [x]) (m + 1) _ ⟨ls', mu', h5, gs3, tk3, rfl, hg3, S5, hJ3⟩))
  exact compStart1 loop (W.self 0 _ _ _ hS loop)
end
end Mine
end
section
set_option Elab.async false
set_option maxRecDepth 100000
set_option linter.unusedVariables false
namespace Mine
open PySem PySem.W PySem.Calls PyProof.Rows
noncomputable def rep (k : Nat) (x : Int) : List Int := List.replicate (1 + k % 2) (((100 * k : Nat) : Int) + x)
noncomputable def flat (k : Nat) (xs : List Int) : List Int := xs.flatMap (rep k)
noncomputable def prt (k f : Nat) (xs : List Int) : List Int := (-(f : Int) - ((2 * k : Nat) : Int)) :: flat k xs
theorem flat_snoc (k : Nat) (xs : List Int) (x : Int) : flat k (xs ++ [x]) = flat k xs ++ rep k x := by simp [flat, List.flatMap_append]
theorem flat_len (k : Nat) : ∀ xs : List Int, (flat k xs).length = (1 + k % 2) * xs.length
  | [] => by simp [flat]
  | x :: xs => by
    have ih := flat_len k xs
    have e : flat k (x :: xs) = rep k x ++ flat k xs := by simp [flat]
    rw [e, List.length_append, ih, rep, List.length_replicate, List.length_cons, Nat.mul_succ, Nat.add_comm]
theorem take_snoc {xs : List Int} {i : Nat} (h : i < xs.length) : xs.take (i + 1) = xs.take i ++ [xs.getD i 0] := by
  rw [List.take_add_one, List.getElem?_eq_getElem h, List.getD_eq_getElem?_getD, List.getElem?_eq_getElem h]; rfl
/-- a value whose iteration hands out these ints -/
def Overs (w : World) (g : Heap) (tv : Value) (xs : List Int) : Prop :=
  ∀ (A : Around) (E : Value → Shared → Prop) (h : Heap) (gs : Array GenState) (dr : Drawn) (tk : Nat) (os : OsState) (L : Addr) (nm : List Str) (ls : List (Option Value)) (mu : List (Addr × Obj)) (K : Value → Shared → Prop),
    A.handled = none → St g L h nm ls mu →
    (∀ I h1 own fp wr P Sx, St g L h1 nm ls (mu ++ own) → (∀ b ∈ fp, b ∈ own.map (·.1) ∨ ∃ o, g.get? b = some o) → (∀ b ∈ wr, b ∈ own.map (·.1)) → (∀ i h, Sx i h → ∀ b ∈ wr, ∃ o, h.get? b = some o) → Sx 0 h1 →
      Walks prog w A I fp wr xs.length P Sx → (∀ i v, i < xs.length → P i v → ∃ t, v = .int (xs.getD i 0) t) → K (.ref I) ⟨h1, gs, dr, tk, os⟩) →
    wpAny (model prog w) A (pyIter tv) K E ⟨h, gs, dr, tk, os⟩
section
variable {w : World} {A : Around} {E : Value → Shared → Prop} {s s' : Shared} {mg mb : Str → Option Value} {g h : Heap} {gs : Array GenState} {dr : Drawn} {tk : Nat} {os : OsState} {nm : List Str} {ls : List (Option Value)} {mu : List (Addr × Obj)}
inductive PtJ1 (L : Addr) (k : Nat) (tk : Tok) (H0 : Addr) (o0 : Obj) (xs : List Int) (C D : Addr) (i : Nat) (ys : List Value) (ls : List (Option Value)) (mu : List (Addr × Obj)) : Prop
  | mk (x1 x2) (q0 : ls = [x1, x2]) (q1 : IntsAre ys (flat k (xs.take i))) (q2 : mu = [(H0, o0), (L + 1, cob (some (.int k tk)))]) : PtJ1 L k tk H0 o0 xs C D i ys ls mu
inductive PtJ2 (k : Nat) (v : Value) (xs : List Int) (x : Int) (mu0 : List (Addr × Obj)) (i : Nat) (ys : List Value) (ls : List (Option Value)) (mu : List (Addr × Obj)) : Prop
  | mk (y) (q0 : ls = [some v, y]) (q1 : IntsAre ys (flat k xs ++ List.replicate i (((100 * k : Nat) : Int) + x))) (q2 : mu = mu0) (q3 : i ≤ 2) : PtJ2 k v xs x mu0 i ys ls mu
theorem part_spec {k f : Nat} {t u : Tok} {tv : Value} {xs : List Int} (D : Gd (K w.params) mg mb s.heap) (hA : A.handled = none) (hdep : A.depth + 2 < recursionLimit) (hgs : AllBare s.gens)
    (hov : Overs w (hideAll s.heap []) tv xs) (hz : xs.length ≤ 13) (hk : k < 3) :
    codeAny (model prog w) A (.call (.ref 265) ⟨[.int k t, .int f u, tv], []⟩) (Ret [] s fun v s' => ∃ R items z, v = .ref R ∧ IntsAre items (prt k f xs) ∧ Fresh s s' [(R, lob items z)]) s := by
  refine enterD [] (fn_part _) D (by lia) (bi_part _ _ _ _ _) (fun _ h => nomatch h) .nil (fun h => nomatch h) nm_part [none, none] rfl led_part fun Po hPo L h₁ hL S => ?_
  have Dg : Gd (K w.params) mg mb (hideAll s.heap []) := D.keeps fun b o e => hideAll_get _ e (fun h => nomatch h)
  refine ba_cons (stC_ (j := 0) S (ce_part_k L) rfl fun h2 S2 => ba_cons (stE S2 (ve_part_foreign L) (Nat.le_of_ble_eq_true rfl) fun h3 t3 S3 => ba_cons (stE S3 (ve_part_things L) (Nat.le_of_ble_eq_true rfl) fun h4 t4 S4 => ba_nil ⟨S4.F.keep, ?_⟩)))
  replace S4 : St (hideAll s.heap []) L h4 nm_part [some (.int f u), some tv] [(L + 1, cob (some (.int k t)))] := S4
  refine wpAny_execs_cons (wpAny_Return_some (wpAny_BinOp (List_ (arg_ (wpAny_BinOp (Neg1_ (ldE S4 (ve_part_foreign L) rfl (neg_ fun k5 t5 => wpAny_BinOp (cInt fun k6 t6 => ldC_ (j := 0) S4 (ce_part_k L) rfl (mulN (a := 2) (by decide) fun k7 t7 => sub_ fun k8 t8 => arg0 (newL S4 (by simp) fun h9 S9 => ?_)))))))))))
  refine lc_ (sf_part_c1 L) (ldE S9 (ve_part_things L) rfl (hov _ _ _ _ _ _ _ _ _ _ _ _ hA S9 fun I h10 own fp wr P Sx S10 hfp hwr live hS W hP => ?_))
  refine compCoreB (n := xs.length) (own := own) nm_part_c1 (PtJ1 L k t h4.objs.size (lob [.int (-(f : Int) - ((2 * k : Nat) : Int)) k8] 0) xs) W (fun b hb => (hfp b hb).imp id .inl) hwr live (fun C D => bodyIs0 _ _ _ _ _ _ _ _ _) ?_ ?_ ?_ S10 hS hgs
  · rintro g' C D0 hsub i v ys m ls mu own h11 gs11 tk11 hi hv ⟨x1, x2, rfl, hI, rfl⟩ hg11 S11 T hT
    obtain ⟨tv1, rfl⟩ := hP i v hi hv
    have D11 := Dg.keeps hsub
    refine assign_Name (stE S11 (ve_part_c1_thing L C) (Nat.le_of_ble_eq_true rfl) fun h12 t12 S12 => ?_)
    refine body0_ (Call_ (lbE S12 D11 (ge_part_c1_range L C) (bn_range _) (cT1 (arg_ (wpAny_BinOp (cInt fun k13 t13 => wpAny_BinOp (ldC_ (j := 2) S12 (ce_part_c1_k L C) rfl (cInt fun k14 t14 => modN (b := 2) (by decide) fun k15 t15 => addN (a := 1) fun k16 t16 => arg0 (rng1 S12 fun h17 r17 a17 b17 t17 S17 hr17 => ?_)))))))))
    refine compInner (n := 1 + k % 2) (PtJ2 k (.int (xs.getD i 0) tv1) (xs.take i) (xs.getD i 0) ([(h4.objs.size, (lob [.int (-(f : Int) - ((2 * k : Nat) : Int)) k8] 0 : Obj)), (L + 1, cob (some (.int k t)))] ++ own)) S17 hA hg11 hr17 (by lia) ?_ ?_ ?_ ?_
    · rintro j zs ls2 mu2 ⟨y, rfl, hJ, rfl, hj⟩
      have e1 := hJ.length
      rw [List.length_append, flat_len, List.length_replicate, List.length_take] at e1
      have e2 : (1 + k % 2) * min i xs.length ≤ 2 * 13 := Nat.mul_le_mul (by lia) (by lia)
      lia
    · rintro j k18 zs m2 ls2 mu2 own2 h18 gs18 tk18 hj ⟨y, rfl, hJ, rfl, hj2⟩ hg18 S18 T2 hT2
      refine assign_Name (stE S18 (ve_part_c1_turn L C) (Nat.le_of_ble_eq_true rfl) fun h19 t19 S19 => ?_)
      refine wpAny_BinOp (wpAny_BinOp (cInt fun k20 t20 => ldC_ (j := 2) S19 (ce_part_c1_k L C) rfl (mulN (a := 100) (by decide) fun k21 t21 => ldE S19 (ve_part_c1_thing L C) rfl (add_ fun k22 t22 => ?_))))
      refine hT2 _ _ ⟨_, _, h19, gs18, _, rfl, hg18, S19, _, rfl, ?_, rfl, by lia⟩
      rw [List.replicate_succ', ← List.append_assoc]
      exact ints_snoc hJ
    · rintro zs m2 ls2 mu2 h18 gs18 tk18 ⟨y, rfl, hJ, rfl, hj2⟩ hg18 S18
      refine hT zs m2 _ ⟨_, _, h18, gs18, tk18, rfl, hg18, S18, _, _, rfl, ?_, rfl⟩
      rw [take_snoc hi, flat_snoc]
      exact hJ
    · exact ⟨x2, rfl, by simpa using hI, rfl, by lia⟩
  · rintro C D0 oC ys m lsc mu h11 gs11 tk11 ⟨x1, x2, rfl, hI, rfl⟩ hg11 S11 hC
    refine compNone (scope := sc_part_c1) (e := .Constant .none 0 ⟨0, 0, 0, 0⟩) (cl := cl_part_c1 L) S11 hC fun h12 S12 => ?_
    rw [List.take_length] at hI
    have hzy : ys.length ≤ 1000 := by
      rw [hI.length, flat_len]
      have : (1 + k % 2) * xs.length ≤ 2 * 13 := Nat.mul_le_mul (by lia) hz
      lia
    refine addL S12 (S12.get (j := 1) rfl) (S12.get (j := 0) rfl) (by simp) hzy fun h13 S13 => ?_
    have S14 := S13.drop (mu' := [(h12.objs.size, lob ([.int (-(f : Int) - ((2 * k : Nat) : Int)) k8] ++ ys) 0)]) (List.singleton_sublist.mpr (.head _))
    exact endP hPo S14 hL (fun _ => hg11) rfl rfl ⟨_, _, _, rfl, .cons _ _ hI, St.fresh (mu := []) S14 rfl rfl⟩
  · intro C D0
    exact ⟨none, none, rfl, by simpa [flat] using IntsAre.nil, by kernel_rfl⟩
end
end Mine
end
section
set_option Elab.async false
set_option maxRecDepth 100000
set_option linter.unusedVariables false
namespace Mine
open PySem PySem.W PySem.Calls PyProof.Rows
noncomputable abbrev toldL (xs ys : List Int) (tot : Nat) (t1 t2 t3 : Tok) : List Value :=
  [.float (ratioF tot (xs.length + ys.length)) (t1 + 1), .float (ratioF (qm xs fun k => cnt k ys : Nat) (xs.length + ys.length)) (t2 + 1), .float (ratioF (min xs.length ys.length : Int) (xs.length + ys.length)) (t3 + 1)]
section
variable {w : World} {A : Around} {E : Value → Shared → Prop} {s s' : Shared} {mg mb : Str → Option Value} {G g h : Heap} {gs : Array GenState} {dr : Drawn} {tk : Nat} {os : OsState} {nm : List Str} {ls : List (Option Value)} {mu : List (Addr × Obj)}
theorem told_spec {m d la lb : Addr} {od op : Obj} {R : Rel} {xs ys : List Int} (D : Gd (K w.params) mg mb G) (hsub : Sub G s.heap) (hGd : G.get? d = none) (hGT : G.get? 220 = none) (hdT : d ≠ 220) (hA : A.handled = none) (hdep : A.depth + 12 < recursionLimit) (hu : A.units + 20 < cLine) (hgs : AllBare s.gens)
    (hd : s.heap.get? d = some od) (hop : s.heap.get? 220 = some op) (hct : CodeTab op) (hR : ∀ b o, R b o → s.heap.get? b = some o ∧ b ≠ d ∧ b ≠ 220) (hm : R m (inst CM d)) (M : MX w R od (some (la, xs)) (some (lb, ys))) (hz : xs.length + ys.length ≠ 0) (hmin : xs.length < 64 ∨ ys.length < 64) :
    codeAny (model prog w) A (.call (.ref 272) ⟨[.ref m], []⟩) (Ret [d, 220] s fun v s' => ∃ T t1 t2 t3 tot od' op' new, v = .ref T ∧ GM xs ys 0 xs.length 0 ys.length tot ∧ s'.heap.get? d = some od' ∧ s'.heap.get? 220 = some op' ∧ CodeTab op' ∧ Fresh s s' ((T, lob (toldL xs ys tot t1 t2 t3) 0) :: new) ∧ MX w (R.and new) od' (some (la, xs)) (some (lb, ys))) s := by
  have hWd : ∀ a ∈ [d, 220], G.get? a = none := fun a ha => by
    rcases List.mem_cons.mp ha with rfl | ha
    · exact hGd
    · rw [List.mem_singleton.mp ha]; exact hGT
  have hSW : cStatics ∉ [d, 220] := fun hm => by
    obtain ⟨_, hn, _⟩ := D.lim
    obtain ⟨o, _, _, ho, _⟩ := hn
    have := hWd _ hm
    rw [ho] at this; cases this
  refine enterD [(d, od), (220, op)] (fn_told _) (D.keeps hsub) (by lia) (bi_told _ _ _) (fun p hp => by
    rcases List.mem_cons.mp hp with rfl | hp
    · exact hd
    · rw [List.mem_singleton.mp hp]; exact hop) (by simpa using hdT) hSW nm_told [none] rfl led_told fun Po hPo L h₁ hL S => ?_
  have Dg : Gd (K w.params) mg mb (hideAll s.heap [d, 220]) := D.hide hsub hWd
  have old : ∀ b o, R b o → Kn (hideAll s.heap [d, 220]) [] b o := fun b o e => .inl (hideAll_get _ (hR _ _ e).1 (by simp; exact (hR _ _ e).2))
  refine ba_cons (stE S (ve_told_matcher L) (Nat.le_of_ble_eq_true rfl) fun h2 t2 S2 => ba_nil ⟨S2.F.keep, ?_⟩)
  replace S2 : St (hideAll s.heap [d, 220]) L h2 nm_told [some (.ref m)] [(d, od), (220, op)] := S2
  refine wpAny_execs_cons (wpAny_Return_some (List_ (arg_ (MethodCall_ (ldE S2 (ve_told_matcher L) rfl (methM S2 Dg old hm M (me_ratio _) (cMn0 (fn_ratio _) (Dg.k.keeps S2.F.keep) ?_)))))))
  refine callRatio S2 Dg hA (by show A.depth + 1 + 8 < _; lia) (by show A.units + 3 + 12 < _; lia) hgs old hm M hct hz hmin fun h3 gs3 t3 od3 op3 new3 k3 tot hg3 hct3 hGM S3 M3 => ?_
  have old3 : ∀ b o, (R.and new3) b o → Kn (hideAll s.heap [d, 220]) new3 b o := fun b o k => k.elim (fun k => (old b o k).elim .inl fun mm => nomatch mm) .inr
  replace S3 : St (hideAll s.heap [d, 220]) L h3 nm_told [some (.ref m)] ((d, od3) :: (220, op3) :: new3) := S3
  refine arg_ (MethodCall_ (ldE S3 (ve_told_matcher L) rfl (methM S3 Dg old3 (.inl hm) M3 (me_quick _) (cMn0 (fn_quick _) (Dg.k.keeps S3.F.keep) ?_))))
  refine callQuick S3 Dg hA (by show A.depth + 1 + 3 < _; lia) hg3 old3 (.inl hm) M3 hz fun h4 gs4 t4 od4 new4 k4 hg4 S4 M4 => ?_
  have old4 : ∀ b o, ((R.and new3).and new4) b o → Kn (hideAll s.heap [d, 220]) (new3 ++ new4) b o := fun b o k => k.elim (fun k => (old3 b o k).imp id fun mm => List.mem_append_left _ mm) fun mm => .inr (List.mem_append_right _ mm)
  refine arg_ (MethodCall_ (ldE S4 (ve_told_matcher L) rfl (methM S4 Dg old4 (.inl (.inl hm)) M4 (me_rquick _) (cMn0 (fn_rquick _) (Dg.k.keeps S4.F.keep) ?_))))
  refine callRquick S4 Dg hA (by show A.depth + 1 + 2 < _; lia) hg4 old4 (.inl (.inl hm)) M4 hz fun h5 gs5 t5 k5 hg5 S5 => ?_
  refine arg0 (newL S5 (by simp) fun h6 S6 => ?_)
  have S7 : St (hideAll s.heap [d, 220]) L h6 nm_told [some (.ref m)] ([(d, od4), (220, op3)] ++ ((h5.objs.size, lob (toldL xs ys tot k3 k4 k5) 0) :: (new3 ++ new4))) := S6.perm ((List.Perm.swap _ _ _).trans ((List.Perm.swap _ _ _).cons _))
  exact endP hPo S7 hL (fun _ => hg5) rfl rfl ⟨_, k3, k4, k5, tot, od4, op3, new3 ++ new4, rfl, hGM, S7.get (j := 0) rfl, S7.get (j := 1) rfl, hct3, St.fresh (mu := [(d, od4), (220, op3)]) S7 rfl rfl, M4.mono fun b o k => k.elim (fun k => k.imp id fun mm => List.mem_append_left _ mm) fun mm => .inr (List.mem_append_right _ mm)⟩
end
end Mine
end
section
set_option Elab.async false
set_option maxRecDepth 100000
set_option linter.unusedVariables false
namespace Mine
open PySem PySem.W PySem.Calls PyProof.Rows
theorem isSameF {prog : Program} {w : World} {A : Around} {E : Value → Shared → Prop} {s : Shared} {a b : UInt64} {t u : Tok} {Q : Bool → Shared → Prop} (hb : NoneBooked s.heap) (q : ∀ k, Q k s) : wpAny (model prog w) A (isSame (.float a (t + 1)) (.float b (u + 1))) Q E s := by
  show wpAny (model prog w) A (isSame.created (a == b && !Float64.isNaN a) (t + 1) (u + 1)) Q E s
  unfold isSame.created
  refine wpAny_ite ?_
  split
  · rename_i h; simp at h
  refine wpAny_ite ?_
  split
  · exact wpAny_pure (q _)
  refine wpAny_ite ?_
  split
  · exact wpAny_pure (q _)
  refine wpAny_bind (wpAny_sharingNotTold_none hb ?_)
  first | rw [if_neg Bool.false_ne_true] | simp only [Bool.false_eq_true, if_false]
  refine wpAny_bind (wpAny_sharingNotTold_none hb ?_)
  first | rw [if_neg Bool.false_ne_true] | simp only [Bool.false_eq_true, if_false]
  exact wpAny_bind (wpAny_rule (wpAny_bind (wpAny_askSetting (wpAny_pure (q _)))))
theorem booked_none {P : Params} {h : Heap} (X : (K P).In h) : NoneBooked h :=
  ⟨fun _ => none, ⟨_, #[], 0, X 2 (PySem.W.boot_o_2 P) (by kernel_rfl), rfl, fun _ he => by simp at he, fun _ => rfl⟩, rfl⟩
theorem eqAt_float {A : Around} {s : Shared} {a b : UInt64} {t u : Tok} (hb : NoneBooked s.heap) (h : Float64.cmp a b = some .eq) : SeqAt.EqAt A s (.float a (t + 1)) (.float b (u + 1)) true := fun prog w E Q hq => by
  unfold eqBool
  refine wpAny_holding ?_
  refine wpAny_ite_split (fun hab => ?_) (fun hab => ?_)
  · exact wpAny_bind (wpAny_rule (wpAny_pure hq))
  · refine wpAny_bind (isSameF hb fun k => ?_)
    cases k with
    | true => exact wpAny_pure hq
    | false =>
      rw [if_neg (by decide)]
      refine wpAny_bind (richCompare_gives (typeIs_float s a _) (typeIs_float s b _) F.slot_float_eq F.entry_float_eq (F.args_float_eq_2 _ _) (AutoFloatG5.float___eq___float_float_0 a _ b _) (by simp [Made.takes]) ?_)
      show wpAny (model prog w) A (truthy (.bool (Float64.cmp a b == some .eq))) Q E s
      refine wpAny_truthy_bool ?_
      rw [h]; exact hq
section
variable {w : World} {A : Around} {E : Value → Shared → Prop} {s s' : Shared} {mg mb : Str → Option Value} {G g h : Heap} {gs : Array GenState} {dr : Drawn} {tk : Nat} {os : OsState} {L : Addr} {nm : List Str} {ls : List (Option Value)} {mu : List (Addr × Obj)} {prog : Program}
/-- two lists of floats, equal item by item -/
theorem neFloats {P : Params} {l1 l2 : Addr} {n1 n2 : Nat} {x1 x2 x3 y1 y2 y3 : UInt64} {a1 a2 a3 b1 b2 b3 : Tok} {Q : Value → Shared → Prop} (X : (K P).In h) (h1 : h.get? l1 = some (lob [.float x1 (a1 + 1), .float x2 (a2 + 1), .float x3 (a3 + 1)] n1)) (h2 : h.get? l2 = some (lob [.float y1 (b1 + 1), .float y2 (b2 + 1), .float y3 (b3 + 1)] n2)) (hu : A.units < cLine)
    (e1 : Float64.cmp x1 y1 = some .eq) (e2 : Float64.cmp x2 y2 = some .eq) (e3 : Float64.cmp x3 y3 = some .eq) (k : Q (.bool false) ⟨h, gs, dr, tk, os⟩) :
    wpAny (model prog w) A (compareOp .NotEq (.ref l1) (.ref l2)) Q E ⟨h, gs, dr, tk, os⟩ := by
  refine SeqAt.RcNeAt.lists (s := ⟨h, gs, dr, tk, os⟩) (e := fun _ => true) (lob_list h1) (lob_list h2) rfl hu (fun j hj1 hj2 => ?_) prog w E Q k
  have hj : j < 3 := by simpa using hj1
  match j, hj with
  | 0, _ => exact eqAt_float (booked_none X) e1
  | 1, _ => exact eqAt_float (booked_none X) e2
  | 2, _ => exact eqAt_float (booked_none X) e3
/-- l.extend(l') -/
theorem extend_ {l b : Addr} {items items2 : List Value} {n n2 : Nat} {j : Nat} {Q : Value → Shared → Prop} (S : St g L h nm ls mu) (hj : mu[j]? = some (l, lob items n)) (hb : h.get? b = some (lob items2 n2)) (hz : items.length ≤ 1000) (hz2 : items2.length ≤ 1000) (hne : items2 ≠ [])
    (q : ∀ h', St g L h' nm ls (mu.set j (l, lob (items ++ items2) (n + 1))) → Q .none ⟨h', gs, dr, tk, os⟩) : wpAny (model prog w) A (call (.builtin "list.extend") [.ref l, .ref b]) Q E ⟨h, gs, dr, tk, os⟩ := by
  have hl := S.get hj
  have hc : (2000 : Nat) ≤ sizeLine := by decide
  refine call_meets (s := ⟨h, gs, dr, tk, os⟩) PySem.F.slot_list_extend ⟨_, hl, rfl⟩ PySem.F.entry_list_extend (PySem.F.args_list_extend_2 _ _)
    (AutoSeq1.list_extend_list_list_0 l items.toArray n b items2.toArray n2 (by simp [Builtin.List.listTooLong]; intros; omega) (by rw [List.size_toArray]; omega) (by rw [List.size_toArray, List.size_toArray]; omega)) ⟨hl, hb, ?_⟩
  refine q _ (S.same hj (Heap.SameBut.update ..) ?_)
  rw [Heap.get?_update_self _ hl (by rfl)]
  simp [Obj.mapSeq, hne]
end
end Mine
end
section
set_option Elab.async false
set_option maxRecDepth 100000
set_option linter.unusedVariables false
namespace Mine
open PySem PySem.W PySem.Calls PyProof.Rows
/-- a list object, whatever its other fields -/
def IsLo (o : Obj) (items : List Value) : Prop := o.cls = .type "list" ∧ ∃ n, o.data = .seq items.toArray n
section
variable {w : World} {A : Around} {E : Value → Shared → Prop} {s s' : Shared} {mg mb : Str → Option Value} {G g h : Heap} {gs : Array GenState} {dr : Drawn} {tk : Nat} {os : OsState} {L : Addr} {nm : List Str} {ls : List (Option Value)} {mu : List (Addr × Obj)} {prog : Program} {env : Env}
theorem IsLo.at {o : Obj} {items : List Value} {l : Addr} (H : IsLo o items) (hl : h.get? l = some o) : h.IsList l items.toArray := by
  obtain ⟨hc, n, hd⟩ := H
  exact ⟨o, hl, hc, n, hd⟩
theorem isLo_lob (items : List Value) (n : Nat) : IsLo (lob items n) items := ⟨rfl, n, rfl⟩
theorem getI_ {l : Addr} {o : Obj} {items : List Value} {k : Nat} {t : Tok} {v : Value} {Q : Value → Shared → Prop} (hl : h.get? l = some o) (H : IsLo o items) (hv : items[k]? = some v) (hz : items.length ≤ 1000) (q : Q v ⟨h, gs, dr, tk, os⟩) :
    wpAny (model prog w) A (getItem (.ref l) (.int k t)) Q E ⟨h, gs, dr, tk, os⟩ := by
  have := lt_of_get hv
  exact wpAny_getItem_list (s := ⟨h, gs, dr, tk, os⟩) (H.at hl) (by omega) (by omega) (by simpa using hv) q
theorem setI_ {l : Addr} {o : Obj} {items : List Value} {j k : Nat} {t : Tok} {v : Value} {Q : Unit → Shared → Prop} (S : St g L h nm ls mu) (hj : mu[j]? = some (l, o)) (H : IsLo o items) (hk : k < items.length) (hz : items.length ≤ 1000)
    (q : ∀ h' o', IsLo o' (items.set k v) → St g L h' nm ls (mu.set j (l, o')) → Q () ⟨h', gs, dr, tk, os⟩) : wpAny (model prog w) A (setItem (.ref l) (.int k t) v) Q E ⟨h, gs, dr, tk, os⟩ := by
  refine wpAny_setItem_list (s := ⟨h, gs, dr, tk, os⟩) (H.at (S.get hj)) (by omega) (by omega) (by rw [List.size_toArray]; omega) fun h' hl' hs => ?_
  obtain ⟨o', ho, hc, m, hd⟩ := hl'
  refine q h' o' ⟨hc, m, ?_⟩ (S.same hj hs ho)
  rw [hd]
  simp
/-- x, y, z = display -/
theorem tup3E {x y z : Str} {i j l : Nat} {v1 v2 v3 : Value} {Q : Unit → Shared → Prop} (S : St g L h nm ls mu) (hh : A.handled = none) (Vx : VE env nm x i) (Vy : VE env nm y j) (Vz : VE env nm z l) (hi : i < ls.length) (hj : j < ls.length) (hl : l < ls.length)
    (k : ∀ h' tk, St g L h' nm (((ls.set l (some v3)).set j (some v2)).set i (some v1)) mu → Q () ⟨h', gs, dr, tk, os⟩) (hL : env.locals = L := by rfl) :
    wpAny (model prog w) A (newTuple [v1, v2, v3]) (fun v s₁ => wpAny (model prog w) A (unpackItems v [x, y, z].length none) (fun items s₂ => wpAny (model prog w) A (assignInOrder ([x, y, z].reverse.map fun n => bindName env n) items.reverse) Q E s₂) E s₁) E ⟨h, gs, dr, tk, os⟩ := by
  refine newT S (by simp) fun h1 S1 => ?_
  refine unpk (items := [v1, v2, v3]) S1 ⟨_, S1.get (j := 0) rfl, rfl, 0, rfl⟩ hh rfl fun h2 S2 => ?_
  refine ord_cons (wpAny_bindName (stE S2 Vz hl (fun h3 t3 S3 => ?_) hL))
  refine ord_cons (wpAny_bindName (stE S3 Vy (by simpa using hj) (fun h4 t4 S4 => ?_) hL))
  refine ord_cons (wpAny_bindName (stE S4 Vx (by simpa using hi) (fun h5 t5 S5 => ?_) hL))
  exact ord_nil (k _ _ (S5.drop (List.sublist_cons_self _ _)))
/-- a tuple of three is unpacked: what the three stores show -/
theorem unT3 {e1 e2 e3 : Expr} {x1 : Nat} {pos : Pos} {T : Addr} {v1 v2 v3 : Value} {Q : Unit → Shared → Prop} (S : St g L h nm ls mu) (hh : A.handled = none) (hT : h.get? T = some (tob [v1, v2, v3]))
    (k : ∀ h', St g L h' nm ls mu → wpAny (model prog w) A (assign e1 env v1) (fun _ s₁ => wpAny (model prog w) A (assign e2 env v2) (fun _ s₂ => wpAny (model prog w) A (assign e3 env v3) Q E s₂) E s₁) E ⟨h', gs, dr, tk, os⟩)
    (he : assignEach [e1, e2, e3] env = [(false, assign e1 env), (false, assign e2 env), (false, assign e3 env)] := by rfl) :
    wpAny (model prog w) A (assign (.Tuple [e1, e2, e3] x1 pos) env (.ref T)) Q E ⟨h, gs, dr, tk, os⟩ := by
  refine assign_Tuple_tuple (s := ⟨h, gs, dr, tk, os⟩) hh (items := [v1, v2, v3].toArray) ⟨_, hT, rfl, 0, rfl⟩ (by rw [he]; rfl) (by rw [he]; rfl) fun h' hx => ?_
  have S' : St g L h' nm ls mu := S.re (S.F.extBut hx (Nat.le_refl _)) (S.N.extBut hx (Nat.le_refl _))
  rw [he]
  refine ord_cons (wpAny_mono (k h' S') (fun _ s₁ h₁ => ?_) fun _ _ x => x)
  obtain ⟨_, _, _, _, _⟩ := s₁
  refine ord_cons (wpAny_mono h₁ (fun _ s₂ h₂ => ?_) fun _ _ x => x)
  obtain ⟨_, _, _, _, _⟩ := s₂
  refine ord_cons (wpAny_mono h₂ (fun _ s₃ h₃ => ?_) fun _ _ x => x)
  obtain ⟨_, _, _, _, _⟩ := s₃
  exact ord_nil h₃
/-- what the parts' things may be -/
theorem overs_list {l : Addr} {items : List Value} {n : Nat} {xs : List Int} (hl : g.get? l = some (lob items n)) (hi : IntsAre items xs) : Overs w g (.ref l) xs := by
  intro A E h gs dr tk os L nm ls mu K hA S k
  refine overL S hA (lob_list (S.F.keep _ _ hl)) (.inl ⟨_, hl⟩) fun I h1 own hne S1 ho hS W => ?_
  rw [hi.length] at W
  refine k I h1 own _ _ _ _ S1 (fun b hb => ?_) (fun b hb => by rw [ho]; exact hb) ?_ hS W fun i v hi' hv => ?_
  · rcases List.mem_cons.mp hb with rfl | hb
    · exact .inl (by rw [ho]; simp)
    · rw [List.mem_singleton.mp hb]; exact .inr ⟨_, hl⟩
  · rintro i h' ⟨⟨o, ho, _⟩, _⟩ b hb
    rw [List.mem_singleton.mp hb]; exact ⟨o, ho⟩
  · obtain ⟨t, ht⟩ := intAt hi hi'
    rw [ht] at hv
    exact ⟨t, (Option.some.inj hv).symm⟩
theorem overs_up {r : Addr} {n : Nat} {t u v : Tok} {xs : List Int} (hr : IsRange g r 0 n 1 t u v) (hn : n < 2 ^ 32) (hx : xs = (List.range n).map fun (i : Nat) => (i : Int)) : Overs w g (.ref r) xs := by
  intro A E h gs dr tk os L nm ls mu K hA S k
  have hlen : xs.length = n := by rw [hx]; simp
  refine overR (n := n) S hA (S.F.keep _ _ hr) (by split <;> lia) (by decide) (by omega) fun I h1 own S1 ho hS W => ?_
  rw [← hlen] at W hS
  refine k I h1 own _ _ _ _ S1 (fun b hb => .inl (by rw [ho]; exact hb)) (fun b hb => by rw [ho]; exact hb) ?_ hS W fun i w hi' hv => ?_
  · intro i h' hx' b hb
    rw [List.mem_singleton.mp hb]; exact ⟨_, hx'⟩
  · obtain ⟨t, rfl⟩ := hv
    refine ⟨t, ?_⟩
    have hi2 : i < n := by omega
    subst hx
    simp [List.getD_eq_getElem?_getD, hi2]
theorem overs_down {r : Addr} {n : Nat} {t u v : Tok} {xs : List Int} (hr : IsRange g r ((n : Int) - 1) (-1) (-1) t u v) (hn : n < 2 ^ 32) (hx : xs = ((List.range n).map fun (i : Nat) => (i : Int)).reverse) : Overs w g (.ref r) xs := by
  intro A E h gs dr tk os L nm ls mu K hA S k
  have hlen : xs.length = n := by rw [hx]; simp
  have hsz : Builtin.Range.rangeSize ((n : Int) - 1) (-1) (-1) = (n : Int) := by
    unfold Builtin.Range.rangeSize
    rw [if_neg (by decide)]
    split
    · have : ((n : Int) - 1 - -1 - 1) / (- -1) = (n : Int) - 1 := by
        rw [show (- -1 : Int) = 1 by decide, Int.ediv_one]; omega
      omega
    · omega
  have hsmall : Builtin.Range.small ((n : Int) - 1) (-1) (-1) = true := by
    unfold Builtin.Range.small
    rw [hsz]
    simp only [Builtin.Range.rangeFitsLong]
    simp; omega
  refine wpAny_pyIter_range (s := ⟨h, gs, dr, tk, os⟩) (S.F.keep _ _ hr) hsmall ?_
  have W := Walks.range (prog := prog) (w := w) hA h.objs.size ((n : Int) - 1) (-1) n
  rw [← hlen] at W
  refine k _ _ [(h.objs.size, _)] _ _ _ _ (S.push _).last (fun b hb => .inl (by simpa using hb)) (fun b hb => by simpa using hb) ?_ ?_ W fun i w hi' hv => ?_
  · intro i h' hx' b hb
    rw [List.mem_singleton.mp hb]; exact ⟨_, hx'⟩
  · have := Heap.get?_push_size h (o := { cls := .type "range_iterator", data := .fields #[rawInt ((n : Int) - 1), rawInt (Builtin.Range.rangeSize ((n : Int) - 1) (-1) (-1)), rawInt (-1)] }) rfl
    rw [hsz] at this
    rw [hlen]
    simpa [IsRangeIter, hsz] using this
  · obtain ⟨t, rfl⟩ := hv
    refine ⟨t, ?_⟩
    have hi2 : i < n := by omega
    subst hx
    rw [List.getD_eq_getElem?_getD, List.getElem?_reverse (by simpa using hi2)]
    simp only [List.length_map, List.length_range]
    rw [List.getElem?_map, List.getElem?_range (by omega)]
    simp only [Option.map_some, Option.getD_some]
    congr 1; omega
end
end Mine
end
section
set_option Elab.async false
set_option linter.unusedVariables false
namespace Mine
/-! plain: totals of matched sizes -/
section
variable {a b a' b' : List Int} {alo ahi blo bhi i j k m m1 m2 : Nat}
theorem Blk.part {i' j' k' : Nat} (h : Blk a b alo ahi blo bhi i j k) (hi : i' + k' ≤ i + k) (h0 : i ≤ i') (e : j' + i = j + i') : Blk a b alo ahi blo bhi i' j' k' := by
  have h1 := h.i0; have h2 := h.i1; have h3 := h.j0; have h4 := h.j1
  refine ⟨by lia, by lia, by lia, by lia, fun t ht => ?_⟩
  have := h.eq (i' - i + t) (by lia)
  rw [show i + (i' - i + t) = i' + t by lia, show j + (i' - i + t) = j' + t by lia] at this
  exact this
theorem Blk.one {t : Nat} (h : Blk a b alo ahi blo bhi i j k) (ht : t < k) : Blk a b alo ahi blo bhi (i + t) (j + t) 1 := h.part (by lia) (by lia) (by lia)
theorem blk_of_ones (hk : 0 < k) (h : ∀ t, t < k → Blk a b alo ahi blo bhi (i + t) (j + t) 1) : Blk a b alo ahi blo bhi i j k := by
  have h0 := h 0 hk
  have h1 := h (k - 1) (by lia)
  have := h0.i0; have := h0.j0; have := h1.i1; have := h1.j1
  refine ⟨by lia, by lia, by lia, by lia, fun t ht => ?_⟩
  exact (h t ht).eq 0 (by lia)
theorem Best.det {i' j' k' : Nat} (h : Best a b alo ahi blo bhi i j k) (h' : Best a b alo ahi blo bhi i' j' k') (hk : 0 < k) : i = i' ∧ j = j' ∧ k = k' := by
  have h1 := h'.most _ _ _ h.blk hk
  have hk' : 0 < k' := by lia
  have h2 := h.most _ _ _ h'.blk hk'
  lia
theorem GM.det (h : GM a b alo ahi blo bhi m) : ∀ {m'}, GM a b alo ahi blo bhi m' → m = m' := by
  induction h with
  | none hn =>
    intro m' h'
    cases h' with
    | none _ => rfl
    | step B hk _ _ => exact absurd (B.blk.part (i' := _) (j' := _) (k' := 1) (by lia) (Nat.le_refl _) rfl) (hn _ _)
  | step B hk _ _ ih1 ih2 =>
    intro m' h'
    cases h' with
    | none hn => exact absurd (B.blk.part (i' := _) (j' := _) (k' := 1) (by lia) (Nat.le_refl _) rfl) (hn _ _)
    | step B' hk' g1 g2 =>
      obtain ⟨rfl, rfl, rfl⟩ := B.det B' hk
      rw [ih1 g1, ih2 g2]
/-- the same matches at other places -/
theorem Blk.move {di dj : Nat} (e : ∀ i j, i < ahi → j < bhi → alo ≤ i → blo ≤ j → ((a[i]? = b[j]? ∧ (a[i]?).isSome = true) ↔ (a'[i + di]? = b'[j + dj]? ∧ (a'[i + di]?).isSome = true))) :
    Blk a b alo ahi blo bhi i j k ↔ (0 < k ∧ Blk a' b' (alo + di) (ahi + di) (blo + dj) (bhi + dj) (i + di) (j + dj) k ∨ k = 0 ∧ Blk a b alo ahi blo bhi i j k) := by
  constructor
  · intro h
    rcases Nat.eq_zero_or_pos k with hk | hk
    · exact .inr ⟨hk, h⟩
    · have h1 := h.i0; have h2 := h.i1; have h3 := h.j0; have h4 := h.j1
      refine .inl ⟨hk, by lia, by lia, by lia, by lia, fun t ht => ?_⟩
      have := (e (i + t) (j + t) (by lia) (by lia) (by lia) (by lia)).mp (h.eq t ht)
      rwa [show i + t + di = i + di + t by lia, show j + t + dj = j + dj + t by lia] at this
  · rintro (⟨hk, h⟩ | ⟨_, h⟩)
    · have h1 := h.i0; have h2 := h.i1; have h3 := h.j0; have h4 := h.j1
      refine ⟨by lia, by lia, by lia, by lia, fun t ht => ?_⟩
      have := h.eq t ht
      rw [show i + di + t = i + t + di by lia, show j + dj + t = j + t + dj by lia] at this
      exact (e (i + t) (j + t) (by lia) (by lia) (by lia) (by lia)).mpr this
    · exact h
theorem GM.move (h : GM a b alo ahi blo bhi m) {di dj : Nat} : (∀ i j, i < ahi → j < bhi → alo ≤ i → blo ≤ j → ((a[i]? = b[j]? ∧ (a[i]?).isSome = true) ↔ (a'[i + di]? = b'[j + dj]? ∧ (a'[i + di]?).isSome = true))) →
    GM a' b' (alo + di) (ahi + di) (blo + dj) (bhi + dj) m := by
  induction h with
  | @none alo ahi blo bhi hn =>
    intro e
    refine .none fun i j hb => ?_
    have h1 := hb.i0; have h3 := hb.j0
    have hb' : Blk a' b' (alo + di) (ahi + di) (blo + dj) (bhi + dj) (i - di + di) (j - dj + dj) 1 := by
      rw [show i - di + di = i by lia, show j - dj + dj = j by lia]; exact hb
    exact hn _ _ ((Blk.move e).mpr (.inl ⟨by lia, hb'⟩))
  | @step alo ahi blo bhi i j k m1 m2 B hk g1 g2 ih1 ih2 =>
    intro e
    have b1 := B.blk.i0; have b2 := B.blk.i1; have b3 := B.blk.j0; have b4 := B.blk.j1
    have B' : Best a' b' (alo + di) (ahi + di) (blo + dj) (bhi + dj) (i + di) (j + dj) k := by
      refine ⟨?_, fun z => absurd z (by lia), fun i' j' k' hb hk' => ?_⟩
      · rcases (Blk.move e).mp B.blk with ⟨_, h⟩ | ⟨z, _⟩
        · exact h
        · lia
      · have h1 := hb.i0; have h3 := hb.j0
        have hb' : Blk a' b' (alo + di) (ahi + di) (blo + dj) (bhi + dj) (i' - di + di) (j' - dj + dj) k' := by
          rw [show i' - di + di = i' by lia, show j' - dj + dj = j' by lia]; exact hb
        have := B.most _ _ _ ((Blk.move e).mpr (.inl ⟨hk', hb'⟩)) hk'
        lia
    have r1 := ih1 fun i' j' h1 h2 h3 h4 => e i' j' (by lia) (by lia) h3 h4
    have r2 := ih2 fun i' j' h1 h2 h3 h4 => e i' j' h1 h2 (by lia) (by lia)
    rw [show i + k + di = i + di + k by lia, show j + k + dj = j + dj + k by lia] at r2
    exact .step B' hk r1 r2
/-- a wider window with no more matches -/
theorem GM.sub {alo' ahi' blo' bhi' : Nat} (h : GM a b alo' ahi' blo' bhi' m) : ∀ {alo ahi blo bhi}, alo ≤ alo' → ahi' ≤ ahi → blo ≤ blo' → bhi' ≤ bhi → (∀ i j, Blk a b alo ahi blo bhi i j 1 → Blk a b alo' ahi' blo' bhi' i j 1) → GM a b alo ahi blo bhi m := by
  induction h with
  | none hn => intro alo ahi blo bhi _ _ _ _ e; exact .none fun i j hb => hn _ _ (e _ _ hb)
  | @step alo' ahi' blo' bhi' i j k m1 m2 B hk g1 g2 ih1 ih2 =>
    intro alo ahi blo bhi w1 w2 w3 w4 e
    have b1 := B.blk.i0; have b2 := B.blk.i1; have b3 := B.blk.j0; have b4 := B.blk.j1
    have B' : Best a b alo ahi blo bhi i j k := by
      refine ⟨⟨by lia, by lia, by lia, by lia, B.blk.eq⟩, fun z => absurd z (by lia), fun i' j' k' hb hk' => ?_⟩
      exact B.most _ _ _ (blk_of_ones hk' fun t ht => e _ _ (hb.one ht)) hk'
    refine .step B' hk (ih1 w1 (Nat.le_refl _) w3 (Nat.le_refl _) fun i' j' hb => ?_) (ih2 (Nat.le_refl _) w2 (Nat.le_refl _) w4 fun i' j' hb => ?_)
    · have c1 := hb.i0; have c2 := hb.i1; have c3 := hb.j0; have c4 := hb.j1
      have := e i' j' ⟨by lia, by lia, by lia, by lia, hb.eq⟩
      exact ⟨this.i0, c2, this.j0, c4, hb.eq⟩
    · have c1 := hb.i0; have c2 := hb.i1; have c3 := hb.j0; have c4 := hb.j1
      have := e i' j' ⟨by lia, by lia, by lia, by lia, hb.eq⟩
      exact ⟨c1, this.i1, c3, this.j1, hb.eq⟩
/-- a cut: what stands ahead of p matches what stands ahead of q alone -/
structure Sep (a b : List Int) (alo ahi blo bhi p q : Nat) : Prop where
  one : ∀ i j, Blk a b alo ahi blo bhi i j 1 → (i < p ↔ j < q)
  two : ∀ i j, i + 1 = p → j + 1 = q → ¬ Blk a b alo ahi blo bhi i j 2
theorem Sep.mono {alo' ahi' blo' bhi' p q : Nat} (h : Sep a b alo ahi blo bhi p q) (w1 : alo ≤ alo') (w2 : ahi' ≤ ahi) (w3 : blo ≤ blo') (w4 : bhi' ≤ bhi) : Sep a b alo' ahi' blo' bhi' p q := by
  have up : ∀ i j k, Blk a b alo' ahi' blo' bhi' i j k → Blk a b alo ahi blo bhi i j k := fun i j k hb => by
    have c1 := hb.i0; have c2 := hb.i1; have c3 := hb.j0; have c4 := hb.j1
    exact ⟨by lia, by lia, by lia, by lia, hb.eq⟩
  exact ⟨fun i j hb => h.one _ _ (up _ _ _ hb), fun i j e1 e2 hb => h.two _ _ e1 e2 (up _ _ _ hb)⟩
theorem Sep.side {p q : Nat} (h : Sep a b alo ahi blo bhi p q) (hb : Blk a b alo ahi blo bhi i j k) (hk : 0 < k) : (i + k ≤ p ∧ j + k ≤ q) ∨ (p ≤ i ∧ q ≤ j) := by
  have h0 := h.one _ _ (hb.one hk)
  have h1 := h.one _ _ (hb.one (t := k - 1) (by lia))
  simp only [Nat.add_zero] at h0
  by_cases c0 : i < p
  · have d0 := h0.mp c0
    by_cases c1 : i + (k - 1) < p
    · have d1 := h1.mp c1
      lia
    · exfalso
      have e1 := h.one _ _ (hb.one (t := p - i) (by lia))
      have e2 := h.one _ _ (hb.one (t := p - 1 - i) (by lia))
      have c2 : ¬ (j + (p - i) < q) := fun z => by have := e1.mpr z; lia
      have c3 : j + (p - 1 - i) < q := e2.mp (by lia)
      refine h.two (p - 1) (q - 1) (by lia) (by lia) (hb.part (by lia) (by lia) (by lia))
  · have d0 : ¬ j < q := fun z => c0 (h0.mpr z)
    lia
theorem GM.add : ∀ (n : Nat) {alo ahi blo bhi p q m1 m2 : Nat}, ahi - alo ≤ n → alo ≤ p → p ≤ ahi → blo ≤ q → q ≤ bhi → Sep a b alo ahi blo bhi p q → GM a b alo p blo q m1 → GM a b p ahi q bhi m2 → GM a b alo ahi blo bhi (m1 + m2) := by
  intro n
  induction n with
  | zero =>
    intro alo ahi blo bhi p q m1 m2 hn w1 w2 w3 w4 S g1 g2
    have e1 := (gm_empty (a := a) (b := b) (alo := alo) (ahi := p) (blo := blo) (bhi := q) (.inl (by lia))).det g1
    have e2 := (gm_empty (a := a) (b := b) (alo := p) (ahi := ahi) (blo := q) (bhi := bhi) (.inl (by lia))).det g2
    subst e1 e2
    exact gm_empty (.inl (by lia))
  | succ n ih =>
    intro alo ahi blo bhi p q m1 m2 hn w1 w2 w3 w4 S g1 g2
    have inL : ∀ {i j k}, Blk a b alo ahi blo bhi i j k → i + k ≤ p → j + k ≤ q → Blk a b alo p blo q i j k := fun hb h1 h2 => ⟨hb.i0, h1, hb.j0, h2, hb.eq⟩
    have inR : ∀ {i j k}, Blk a b alo ahi blo bhi i j k → p ≤ i → q ≤ j → Blk a b p ahi q bhi i j k := fun hb h1 h2 => ⟨h1, hb.i1, h2, hb.j1, hb.eq⟩
    have upL : ∀ {i j k}, Blk a b alo p blo q i j k → Blk a b alo ahi blo bhi i j k := fun hb => ⟨hb.i0, by have := hb.i1; lia, hb.j0, by have := hb.j1; lia, hb.eq⟩
    have upR : ∀ {i j k}, Blk a b p ahi q bhi i j k → Blk a b alo ahi blo bhi i j k := fun hb => ⟨by have := hb.i0; lia, hb.i1, by have := hb.j0; lia, hb.j1, hb.eq⟩
    have left : ∀ {i j k x1 x2}, Best a b alo p blo q i j k → 0 < k → GM a b alo i blo j x1 → GM a b (i + k) p (j + k) q x2 → (∀ i' j' k', Blk a b p ahi q bhi i' j' k' → 0 < k' → k' ≤ k) → GM a b alo ahi blo bhi (k + x1 + x2 + m2) := by
      intro i j k x1 x2 B hk y1 y2 hR
      have b1 := B.blk.i0; have b2 := B.blk.i1; have b3 := B.blk.j0; have b4 := B.blk.j1
      have B' : Best a b alo ahi blo bhi i j k := ⟨upL B.blk, fun z => absurd z (by lia), fun i' j' k' hb hk' => by
        rcases S.side hb hk' with ⟨s1, s2⟩ | ⟨s1, s2⟩
        · exact B.most _ _ _ (inL hb s1 s2) hk'
        · have := hR _ _ _ (inR hb s1 s2) hk'
          exact ⟨this, fun _ => .inl (by lia)⟩⟩
      have y3 := ih (p := p) (q := q) (by lia) (by lia) w2 (by lia) w4 (S.mono (alo' := i + k) (ahi' := ahi) (blo' := j + k) (bhi' := bhi) (by lia) (Nat.le_refl _) (by lia) (Nat.le_refl _)) y2 g2
      have := GM.step B' hk y1 y3
      rwa [← Nat.add_assoc] at this
    have right : ∀ {i j k x1 x2}, Best a b p ahi q bhi i j k → 0 < k → GM a b p i q j x1 → GM a b (i + k) ahi (j + k) bhi x2 → (∀ i' j' k', Blk a b alo p blo q i' j' k' → 0 < k' → k' < k) → GM a b alo ahi blo bhi (m1 + (k + x1 + x2)) := by
      intro i j k x1 x2 B hk y1 y2 hL
      have b1 := B.blk.i0; have b2 := B.blk.i1; have b3 := B.blk.j0; have b4 := B.blk.j1
      have B' : Best a b alo ahi blo bhi i j k := ⟨upR B.blk, fun z => absurd z (by lia), fun i' j' k' hb hk' => by
        rcases S.side hb hk' with ⟨s1, s2⟩ | ⟨s1, s2⟩
        · have := hL _ _ _ (inL hb s1 s2) hk'
          exact ⟨by lia, fun z => absurd z (by lia)⟩
        · exact B.most _ _ _ (inR hb s1 s2) hk'⟩
      have y3 := ih (p := p) (q := q) (by lia) w1 b1 w3 b3 (S.mono (alo' := alo) (ahi' := i) (blo' := blo) (bhi' := j) (Nat.le_refl _) (by lia) (Nat.le_refl _) (by lia)) g1 y1
      have := GM.step B' hk y3 y2
      rwa [show k + (m1 + x1) + x2 = m1 + (k + x1 + x2) by lia] at this
    rcases g1 with n1 | ⟨B1, hk1, y1, y2⟩
    · rcases g2 with n2 | ⟨B2, hk2, z1, z2⟩
      · refine .none fun i j hb => ?_
        rcases S.side hb (by lia) with ⟨s1, s2⟩ | ⟨s1, s2⟩
        · exact n1 _ _ (inL hb s1 s2)
        · exact n2 _ _ (inR hb s1 s2)
      · exact right B2 hk2 z1 z2 fun i' j' k' hb hk' => absurd (hb.one hk') (n1 _ _)
    · rename_i i1 j1 k1 x1 x2
      rcases g2 with n2 | ⟨B2, hk2, z1, z2⟩
      · exact left B1 hk1 y1 y2 fun i' j' k' hb hk' => absurd (hb.one hk') (n2 _ _)
      · rename_i i2 j2 k2 u1 u2
        by_cases c : k2 ≤ k1
        · exact left B1 hk1 y1 y2 fun i' j' k' hb hk' => Nat.le_trans (B2.most _ _ _ hb hk').1 c
        · exact right B2 hk2 z1 z2 fun i' j' k' hb hk' => Nat.lt_of_le_of_lt (B1.most _ _ _ hb hk').1 (by lia)
end
end Mine
end
section
set_option Elab.async false
set_option linter.unusedVariables false
namespace Mine
/-! totals of lists that are laid one behind the other -/
section
variable {a b : List Int} {alo ahi blo bhi i j k m m1 m2 : Nat}
theorem GM.cross {c0 c1 d0 d1 : Nat} (h : GM a b c0 c1 d0 d1 m) (hbig : ∃ i j, Blk a b c0 c1 d0 d1 i j 2) (w1 : alo ≤ c0) (w2 : c1 ≤ ahi) (w3 : blo ≤ d0) (w4 : d1 ≤ bhi)
    (one : ∀ i j, Blk a b alo ahi blo bhi i j 1 → Blk a b c0 c1 d0 d1 i j 1 ∨ (i < c0 ∧ d1 ≤ j) ∨ (c1 ≤ i ∧ j < d0)) (two : ∀ i j, Blk a b alo ahi blo bhi i j 2 → Blk a b c0 c1 d0 d1 i j 2) : GM a b alo ahi blo bhi m := by
  cases h with
  | none hn =>
    obtain ⟨i, j, hb⟩ := hbig
    exact absurd (hb.one (t := 0) (by lia)) (hn _ _)
  | @step _ _ _ _ i j k x1 x2 B hk g1 g2 =>
    have b1 := B.blk.i0; have b2 := B.blk.i1; have b3 := B.blk.j0; have b4 := B.blk.j1
    have hk2 : 2 ≤ k := by
      obtain ⟨i, j, hb⟩ := hbig
      exact (B.most _ _ _ hb (by lia)).1
    have B' : Best a b alo ahi blo bhi i j k := by
      refine ⟨⟨by lia, by lia, by lia, by lia, B.blk.eq⟩, fun z => absurd z (by lia), fun i' j' k' hb hk' => ?_⟩
      by_cases c : k' = 1
      · exact ⟨by lia, fun z => absurd z (by lia)⟩
      · refine B.most _ _ _ (blk_of_ones hk' fun t ht => ?_) hk'
        by_cases ct : t + 1 < k'
        · exact (two (i' + t) (j' + t) (hb.part (by lia) (by lia) (by lia))).one (t := 0) (by lia)
        · have := (two (i' + (t - 1)) (j' + (t - 1)) (hb.part (by lia) (by lia) (by lia))).one (t := 1) (by lia)
          rwa [show i' + (t - 1) + 1 = i' + t by lia, show j' + (t - 1) + 1 = j' + t by lia] at this
    refine .step B' hk (g1.sub w1 (Nat.le_refl _) w3 (Nat.le_refl _) fun i' j' hb => ?_) (g2.sub (Nat.le_refl _) w2 (Nat.le_refl _) w4 fun i' j' hb => ?_)
    · have e1 := hb.i0; have e2 := hb.i1; have e3 := hb.j0; have e4 := hb.j1
      rcases one i' j' ⟨by lia, by lia, by lia, by lia, hb.eq⟩ with this | this | this
      · exact ⟨this.i0, e2, this.j0, e4, hb.eq⟩
      · lia
      · lia
    · have e1 := hb.i0; have e2 := hb.i1; have e3 := hb.j0; have e4 := hb.j1
      rcases one i' j' ⟨by lia, by lia, by lia, by lia, hb.eq⟩ with this | this | this
      · exact ⟨e1, this.i1, e3, this.j1, hb.eq⟩
      · lia
      · lia
end
noncomputable def GML (x y : List Int) (m : Nat) : Prop := GM x y 0 x.length 0 y.length m
section
variable {x1 x2 y1 y2 x y A0 A1 B0 B1 : List Int} {m m1 m2 : Nat}
theorem GML.det {m' : Nat} (h : GML x y m) (h' : GML x y m') : m = m' := GM.det h h'
theorem blk_val {a b : List Int} {alo ahi blo bhi i j k t : Nat} (h : Blk a b alo ahi blo bhi i j k) (ht : t < k) : ∃ u, a[i + t]? = some u ∧ b[j + t]? = some u := by
  obtain ⟨e, s⟩ := h.eq t ht
  obtain ⟨u, hu⟩ := Option.isSome_iff_exists.mp s
  exact ⟨u, hu, e ▸ hu⟩
theorem at_two {l1 l2 : List Int} {i : Nat} {u : Int} (h : (l1 ++ l2)[i]? = some u) : (i < l1.length ∧ u ∈ l1 ∧ l1[i]? = some u) ∨ (l1.length ≤ i ∧ i < l1.length + l2.length ∧ u ∈ l2 ∧ l2[i - l1.length]? = some u) := by
  by_cases c : i < l1.length
  · rw [List.getElem?_append_left c] at h
    exact .inl ⟨c, List.mem_of_getElem? h, h⟩
  · rw [List.getElem?_append_right (by lia)] at h
    have := (List.getElem?_eq_some_iff.mp h).1
    exact .inr ⟨by lia, by lia, List.mem_of_getElem? h, h⟩
theorem GML.append (h1 : GML x1 y1 m1) (h2 : GML x2 y2 m2) (e12 : ∀ u ∈ x1, u ∉ y2) (e21 : ∀ u ∈ x2, u ∉ y1) (ns : (∀ u, x1[x1.length - 1]? = some u → u ∉ y1) ∨ (∀ u, x2[0]? = some u → u ∉ y2)) : GML (x1 ++ x2) (y1 ++ y2) (m1 + m2) := by
  have eL : ∀ {l1 l2 : List Int} {i : Nat}, i < l1.length → (l1 ++ l2)[i]? = l1[i]? := fun h => List.getElem?_append_left h
  have eR : ∀ {l1 l2 : List Int} {i : Nat}, (l1 ++ l2)[i + l1.length]? = l2[i]? := fun {l1 l2 i} => by rw [List.getElem?_append_right (by lia), show i + l1.length - l1.length = i by lia]
  have g1 : GM (x1 ++ x2) (y1 ++ y2) 0 x1.length 0 y1.length m1 := by
    have := GM.move (a' := x1 ++ x2) (b' := y1 ++ y2) h1 (di := 0) (dj := 0) fun i j hi hj _ _ => by rw [Nat.add_zero, Nat.add_zero, eL hi, eL hj]
    simpa using this
  have g2 : GM (x1 ++ x2) (y1 ++ y2) x1.length (x1 ++ x2).length y1.length (y1 ++ y2).length m2 := by
    have := GM.move (a' := x1 ++ x2) (b' := y1 ++ y2) h2 (di := x1.length) (dj := y1.length) fun i j hi hj _ _ => by rw [eR, eR]
    simpa [Nat.add_comm] using this
  refine GM.add _ (Nat.le_refl _) (Nat.zero_le _) (by simp) (Nat.zero_le _) (by simp) ⟨fun i j hb => ?_, fun i j ei ej hb => ?_⟩ g1 g2
  · obtain ⟨u, hu, hv⟩ := blk_val hb (t := 0) (by lia)
    rw [Nat.add_zero] at hu hv
    rcases at_two hu with ⟨c1, c2, _⟩ | ⟨c1, _, c2, _⟩ <;> rcases at_two hv with ⟨d1, d2, _⟩ | ⟨d1, _, d2, _⟩
    · lia
    · exact absurd d2 (e12 _ c2)
    · exact absurd d2 (e21 _ c2)
    · lia
  · obtain ⟨u, hu, hv⟩ := blk_val hb (t := 0) (by lia)
    obtain ⟨u2, hu2, hv2⟩ := blk_val hb (t := 1) (by lia)
    rw [Nat.add_zero] at hu hv
    rcases at_two hu with ⟨c1, c2, c3⟩ | ⟨c1, _, c2, _⟩
    · rcases at_two hv with ⟨d1, d2, _⟩ | ⟨d1, _, d2, _⟩
      · rcases at_two hu2 with ⟨f1, _⟩ | ⟨f1, _, f2, f3⟩
        · lia
        · rcases at_two hv2 with ⟨k1, _⟩ | ⟨k1, _, k2, k3⟩
          · lia
          · rcases ns with ns | ns
            · exact ns u (by rw [show x1.length - 1 = i by lia]; exact c3) d2
            · exact ns u2 (by rw [show 0 = i + 1 - x1.length by lia]; exact f3) k2
      · lia
    · lia
theorem at_three {l0 l l1 : List Int} {i : Nat} {u : Int} (h : (l0 ++ l ++ l1)[i]? = some u) : (i < l0.length ∧ u ∈ l0) ∨ (l0.length ≤ i ∧ i < l0.length + l.length ∧ u ∈ l) ∨ (l0.length + l.length ≤ i ∧ i < l0.length + l.length + l1.length ∧ u ∈ l1) := by
  rcases at_two h with ⟨c, _, h⟩ | ⟨c, c', m, _⟩
  · rcases at_two h with ⟨d, m, _⟩ | ⟨d, d', m, _⟩
    · exact .inl ⟨d, m⟩
    · exact .inr (.inl ⟨d, d', m⟩)
  · rw [List.length_append] at c c'
    exact .inr (.inr ⟨c, c', m⟩)
theorem GML.cross (h : GML x y m) (hbig : ∃ i j, Blk x y 0 x.length 0 y.length i j 2) (a0y : ∀ u ∈ A0, u ∉ y) (a0b : ∀ u ∈ A0, u ∉ B0) (a1y : ∀ u ∈ A1, u ∉ y) (a1b : ∀ u ∈ A1, u ∉ B1) (xb0 : ∀ u ∈ x, u ∉ B0) (xb1 : ∀ u ∈ x, u ∉ B1)
    (h01 : A0.length ≤ 1 ∨ B1.length ≤ 1) (h10 : A1.length ≤ 1 ∨ B0.length ≤ 1) : GML (A0 ++ x ++ A1) (B0 ++ y ++ B1) m := by
  have eM : ∀ {l0 l l1 : List Int} {i : Nat}, i < l.length → (l0 ++ l ++ l1)[i + l0.length]? = l[i]? := fun {l0 l l1 i} hi => by
    rw [List.getElem?_append_left (by rw [List.length_append]; lia), List.getElem?_append_right (by lia), show i + l0.length - l0.length = i by lia]
  have mv : ∀ i j, i < x.length → j < y.length → 0 ≤ i → 0 ≤ j → ((x[i]? = y[j]? ∧ (x[i]?).isSome = true) ↔ ((A0 ++ x ++ A1)[i + A0.length]? = (B0 ++ y ++ B1)[j + B0.length]? ∧ ((A0 ++ x ++ A1)[i + A0.length]?).isSome = true)) := fun i j hi hj _ _ => by rw [eM hi, eM hj]
  have g := GM.move (a' := A0 ++ x ++ A1) (b' := B0 ++ y ++ B1) h (di := A0.length) (dj := B0.length) mv
  obtain ⟨i0, j0, hb0⟩ := hbig
  have big : ∃ i j, Blk (A0 ++ x ++ A1) (B0 ++ y ++ B1) (0 + A0.length) (x.length + A0.length) (0 + B0.length) (y.length + B0.length) i j 2 := by
    rcases (Blk.move mv).mp hb0 with ⟨_, h⟩ | ⟨z, _⟩
    · exact ⟨_, _, h⟩
    · lia
  refine GM.cross g big (by lia) (by simp; lia) (by lia) (by simp; lia) (fun i j hb => ?_) fun i j hb => ?_
  · obtain ⟨u, hu, hv⟩ := blk_val hb (t := 0) (by lia)
    rw [Nat.add_zero] at hu hv
    rcases at_three hu with ⟨c1, c2⟩ | ⟨c1, c1', c2⟩ | ⟨c1, c1', c2⟩ <;> rcases at_three hv with ⟨d1, d2⟩ | ⟨d1, d1', d2⟩ | ⟨d1, d1', d2⟩
    · exact absurd d2 (a0b _ c2)
    · exact absurd d2 (a0y _ c2)
    · exact .inr (.inl ⟨by lia, by lia⟩)
    · exact absurd d2 (xb0 _ c2)
    · exact .inl ⟨by lia, by lia, by lia, by lia, hb.eq⟩
    · exact absurd d2 (xb1 _ c2)
    · exact .inr (.inr ⟨by lia, by lia⟩)
    · exact absurd d2 (a1y _ c2)
    · exact absurd d2 (a1b _ c2)
  · obtain ⟨u, hu, hv⟩ := blk_val hb (t := 0) (by lia)
    obtain ⟨u', hu', hv'⟩ := blk_val hb (t := 1) (by lia)
    rw [Nat.add_zero] at hu hv
    have fin : A0.length ≤ i → i + 1 < A0.length + x.length → B0.length ≤ j → j + 1 < B0.length + y.length → Blk (A0 ++ x ++ A1) (B0 ++ y ++ B1) (0 + A0.length) (x.length + A0.length) (0 + B0.length) (y.length + B0.length) i j 2 := fun q1 q2 q3 q4 => ⟨by lia, by lia, by lia, by lia, hb.eq⟩
    rcases at_three hu with ⟨c1, c2⟩ | ⟨c1, c1', c2⟩ | ⟨c1, c1', c2⟩ <;> rcases at_three hv with ⟨d1, d2⟩ | ⟨d1, d1', d2⟩ | ⟨d1, d1', d2⟩
    · exact absurd d2 (a0b _ c2)
    · exact absurd d2 (a0y _ c2)
    · exfalso
      rcases at_three hv' with ⟨f1, f2⟩ | ⟨f1, f1', f2⟩ | ⟨f1, f1', f2⟩
      · lia
      · lia
      · rcases at_three hu' with ⟨k1, k2⟩ | ⟨k1, k1', k2⟩ | ⟨k1, k1', k2⟩
        · lia
        · exact xb1 _ k2 f2
        · exact a1b _ k2 f2
    · exact absurd d2 (xb0 _ c2)
    · rcases at_three hu' with ⟨k1, k2⟩ | ⟨k1, k1', k2⟩ | ⟨k1, k1', k2⟩
      · lia
      · rcases at_three hv' with ⟨f1, f2⟩ | ⟨f1, f1', f2⟩ | ⟨f1, f1', f2⟩
        · lia
        · exact fin c1 k1' d1 f1'
        · exact absurd f2 (xb1 _ k2)
      · rcases at_three hv' with ⟨f1, f2⟩ | ⟨f1, f1', f2⟩ | ⟨f1, f1', f2⟩
        · lia
        · exact absurd f2 (a1y _ k2)
        · exact absurd f2 (a1b _ k2)
    · exact absurd d2 (xb1 _ c2)
    · exfalso
      rcases at_three hu' with ⟨k1, k2⟩ | ⟨k1, k1', k2⟩ | ⟨k1, k1', k2⟩
      · lia
      · lia
      · rcases at_three hv' with ⟨f1, f2⟩ | ⟨f1, f1', f2⟩ | ⟨f1, f1', f2⟩
        · lia
        · exact a1y _ k2 f2
        · exact a1b _ k2 f2
    · exact absurd d2 (a1y _ c2)
    · exact absurd d2 (a1b _ c2)
end
end Mine
end
section
set_option Elab.async false
set_option linter.unusedVariables false
namespace Mine
/-! lists whose items stand twice, side by side; items that meet nothing; other names -/
section
variable {x y : List Int} {m : Nat}
theorem GML.map {φ : Int → Int} (h : GML x y m) (inj : ∀ u ∈ x, ∀ v ∈ y, φ u = φ v → u = v) : GML (x.map φ) (y.map φ) m := by
  have := GM.move (a' := x.map φ) (b' := y.map φ) h (di := 0) (dj := 0) fun i j hi hj _ _ => by
    rw [Nat.add_zero, Nat.add_zero, List.getElem?_map, List.getElem?_map, List.getElem?_eq_getElem hi, List.getElem?_eq_getElem hj]
    simp only [Option.map_some, Option.some.injEq, Option.isSome_some, and_true]
    exact ⟨fun e => by rw [e], fun e => inj _ (List.getElem_mem hi) _ (List.getElem_mem hj) e⟩
  unfold GML
  simpa using this
theorem gml_one {f g : Int} (h : f ≠ g) : GML [f] [g] 0 := .none fun i j hb => by
  obtain ⟨u, hu, hv⟩ := blk_val hb (t := 0) (by lia)
  have h1 := List.mem_of_getElem? hu
  have h2 := List.mem_of_getElem? hv
  rw [List.mem_singleton] at h1 h2
  exact h (h1.symm.trans h2)
theorem GML.cons {f g : Int} (h : GML x y m) (hne : f ≠ g) (hf : f ∉ y) (hg : g ∉ x) : GML (f :: x) (g :: y) m := by
  have := GML.append (gml_one hne) h (fun u hu => by rw [List.mem_singleton.mp hu]; exact hf) (fun u hu z => by rw [List.mem_singleton.mp z] at hu; exact hg hu) (.inl fun u hu z => by
    have := List.mem_of_getElem? hu
    rw [List.mem_singleton] at this z
    exact hne (this.symm.trans z))
  simpa using this
theorem GML.snoc {f g : Int} (h : GML x y m) (hne : f ≠ g) (hf : f ∉ y) (hg : g ∉ x) : GML (x ++ [f]) (y ++ [g]) m :=
  GML.append h (gml_one hne) (fun u hu z => by rw [List.mem_singleton.mp z] at hu; exact hg hu) (fun u hu => by rw [List.mem_singleton.mp hu]; exact hf) (.inr fun u hu z => by
    have := List.mem_of_getElem? hu
    rw [List.mem_singleton] at this z
    exact hne (this.symm.trans z))
noncomputable def dbl : List Int → List Int
  | [] => []
  | u :: l => u :: u :: dbl l
theorem dbl_len : ∀ l : List Int, (dbl l).length = 2 * l.length
  | [] => rfl
  | u :: l => by simp [dbl, dbl_len l]; lia
theorem dbl_get : ∀ (l : List Int) (i : Nat), (dbl l)[i]? = l[i / 2]?
  | [], i => by simp [dbl]
  | u :: l, 0 => rfl
  | u :: l, 1 => rfl
  | u :: l, i + 2 => by
    show (dbl l)[i]? = (u :: l)[(i + 2) / 2]?
    rw [dbl_get l i, show (i + 2) / 2 = i / 2 + 1 by lia, List.getElem?_cons_succ]
theorem nd_at {l : List Int} (h : l.Nodup) {i j : Nat} {u : Int} (hi : l[i]? = some u) (hj : l[j]? = some u) : i = j := by
  have h1 := (List.getElem?_eq_some_iff.mp hi)
  have h2 := (List.getElem?_eq_some_iff.mp hj)
  obtain ⟨l1, e1⟩ := h1; obtain ⟨l2, e2⟩ := h2
  rcases Nat.lt_trichotomy i j with c | c | c
  · exact absurd (e1.trans e2.symm) (List.pairwise_iff_getElem.mp h i j l1 l2 c)
  · exact c
  · exact absurd (e2.trans e1.symm) (List.pairwise_iff_getElem.mp h j i l2 l1 c)
theorem GM.dbl (nx : x.Nodup) (ny : y.Nodup) {alo ahi blo bhi : Nat} (h : GM x y alo ahi blo bhi m) : GM (dbl x) (dbl y) (2 * alo) (2 * ahi) (2 * blo) (2 * bhi) (2 * m) := by
  have val : ∀ {alo ahi blo bhi i j k t : Nat}, Blk (Mine.dbl x) (Mine.dbl y) alo ahi blo bhi i j k → t < k → ∃ u, x[(i + t) / 2]? = some u ∧ y[(j + t) / 2]? = some u := fun hb ht => by
    obtain ⟨u, h1, h2⟩ := blk_val hb ht
    rw [dbl_get] at h1 h2
    exact ⟨u, h1, h2⟩
  have half : ∀ {alo ahi blo bhi i j k : Nat}, Blk (Mine.dbl x) (Mine.dbl y) (2 * alo) (2 * ahi) (2 * blo) (2 * bhi) i j k → 0 < k → (k = 1 ∨ i % 2 = j % 2) ∧ (i % 2 = j % 2 → Blk x y alo ahi blo bhi (i / 2) (j / 2) ((i % 2 + k + 1) / 2)) := fun {alo ahi blo bhi i j k} hb hk => by
    have b1 := hb.i0; have b2 := hb.i1; have b3 := hb.j0; have b4 := hb.j1
    refine ⟨?_, fun he => ⟨by lia, by lia, by lia, by lia, fun s hs => ?_⟩⟩
    · by_cases c : k = 1
      · exact .inl c
      · refine .inr ?_
        obtain ⟨u, h1, h2⟩ := val hb (t := 0) (by lia)
        obtain ⟨v, h3, h4⟩ := val hb (t := 1) (by lia)
        rw [Nat.add_zero] at h1 h2
        by_cases e : i % 2 = j % 2
        · exact e
        · exfalso
          by_cases ei : i % 2 = 0
          · have : u = v := by
              rw [show (i + 1) / 2 = i / 2 by lia, h1] at h3
              exact Option.some.inj h3
            subst this
            have := nd_at ny h2 h4
            lia
          · have : u = v := by
              rw [show (j + 1) / 2 = j / 2 by lia, h2] at h4
              exact Option.some.inj h4
            subst this
            have := nd_at nx h1 h3
            lia
    · obtain ⟨u, h1, h2⟩ := val hb (t := 2 * s - i % 2) (by lia)
      rw [show (i + (2 * s - i % 2)) / 2 = i / 2 + s by lia] at h1
      rw [show (j + (2 * s - i % 2)) / 2 = j / 2 + s by lia] at h2
      exact ⟨h1.trans h2.symm, by rw [h1]; rfl⟩
  induction h with
  | @none alo ahi blo bhi hn =>
    refine .none fun i j hb => ?_
    have b1 := hb.i0; have b2 := hb.i1; have b3 := hb.j0; have b4 := hb.j1
    obtain ⟨u, h1, h2⟩ := val hb (t := 0) (by lia)
    refine hn (i / 2) (j / 2) ⟨by lia, by lia, by lia, by lia, fun t ht => ?_⟩
    obtain rfl : t = 0 := by lia
    exact ⟨h1.trans h2.symm, by rw [Nat.add_zero, show i / 2 = (i + 0) / 2 by lia, h1]; rfl⟩
  | @step alo ahi blo bhi i j k m1 m2 B hk g1 g2 ih1 ih2 =>
    have b1 := B.blk.i0; have b2 := B.blk.i1; have b3 := B.blk.j0; have b4 := B.blk.j1
    have B' : Best (Mine.dbl x) (Mine.dbl y) (2 * alo) (2 * ahi) (2 * blo) (2 * bhi) (2 * i) (2 * j) (2 * k) := by
      refine ⟨⟨by lia, by lia, by lia, by lia, fun t ht => ?_⟩, fun z => absurd z (by lia), fun i' j' k' hb hk' => ?_⟩
      · rw [dbl_get, dbl_get, show (2 * i + t) / 2 = i + t / 2 by lia, show (2 * j + t) / 2 = j + t / 2 by lia]
        exact B.blk.eq (t / 2) (by lia)
      · obtain ⟨h1, h2⟩ := half hb hk'
        by_cases e : i' % 2 = j' % 2
        · have h3 := B.most _ _ _ (h2 e) (by lia)
          refine ⟨by lia, fun ek => ?_⟩
          have e0 : i' % 2 = 0 := by lia
          have h4 := h3.2 (by lia)
          lia
        · have : k' = 1 := h1.resolve_right e
          exact ⟨by lia, fun z => absurd z (by lia)⟩
    rw [show 2 * (i + k) = 2 * i + 2 * k by lia, show 2 * (j + k) = 2 * j + 2 * k by lia] at ih2
    have := GM.step B' (by lia) ih1 ih2
    rwa [show 2 * k + 2 * m1 + 2 * m2 = 2 * (k + m1 + m2) by lia] at this
theorem GML.dbl (nx : x.Nodup) (ny : y.Nodup) (h : GML x y m) : GML (Mine.dbl x) (Mine.dbl y) (2 * m) := by
  have := GM.dbl nx ny h
  unfold GML
  rwa [dbl_len, dbl_len]
end
end Mine
end
section
set_option Elab.async false
set_option linter.unusedVariables false
namespace Mine
/-! the total, reckoned: each item of the second list stands there once -/
def hdRun (r : Nat) : List Nat → Nat → Nat
  | [], _ => 1
  | q' :: _, q => if q' = q + 1 then r + 1 else 1
/-- the run at the head, the longest run's place and length -/
def sc : List Nat → Nat × Nat × Nat
  | [] => (0, 0, 0)
  | q :: P => match sc P with
    | (r, i, k) =>
      let r' := if q = 0 then 0 else hdRun r P q
      if k ≤ r' ∧ 0 < r' then (r', 0, r') else (r', i + 1, k)
def gmp : Nat → List Nat → Nat
  | 0, _ => 0
  | f + 1, P => match sc P with
    | (_, i, k) => if k = 0 then 0 else
      let j := P.getD i 0
      k + gmp f ((P.take i).map fun q => if q < j then q else 0) + gmp f ((P.drop (i + k)).map fun q => if j + k ≤ q then q else 0)
/-- P runs from place t on, k items -/
def RunsAt (P : List Nat) (t j k : Nat) : Prop := ∀ s, s < k → P[t + s]? = some (j + s + 1)
structure ScOk (P : List Nat) (r i k : Nat) : Prop where
  run : 0 < r → ∃ j, RunsAt P 0 j r
  rmax : ∀ j k', RunsAt P 0 j k' → k' ≤ r
  best : 0 < k → ∃ j, RunsAt P i j k
  most : ∀ t j k', 0 < k' → RunsAt P t j k' → k' ≤ k ∧ (k' = k → i ≤ t)
theorem RunsAt.tail {q : Nat} {P : List Nat} {t j k : Nat} (h : RunsAt (q :: P) (t + 1) j k) : RunsAt P t j k := fun s hs => by
  have := h s hs
  rwa [show t + 1 + s = t + s + 1 by lia, List.getElem?_cons_succ] at this
theorem RunsAt.cons {q : Nat} {P : List Nat} {t j k : Nat} (h : RunsAt P t j k) : RunsAt (q :: P) (t + 1) j k := fun s hs => by
  have := h s hs
  rwa [show t + 1 + s = t + s + 1 by lia, List.getElem?_cons_succ]
theorem sc_ok : ∀ P : List Nat, ScOk P (sc P).1 (sc P).2.1 (sc P).2.2
  | [] => by
    refine ⟨fun h => absurd h (Nat.lt_irrefl _), fun j k' h => ?_, fun h => absurd h (Nat.lt_irrefl _), fun t j k' hk h => ?_⟩
    · rcases Nat.eq_zero_or_pos k' with z | z
      · exact Nat.le_of_eq z
      · have := h 0 z; simp at this
    · have := h 0 hk; simp at this
  | q :: P => by
    have ih := sc_ok P
    obtain ⟨r, i, k, e⟩ : ∃ r i k, sc P = (r, i, k) := ⟨_, _, _, rfl⟩
    rw [e] at ih
    simp only at ih
    have eq : sc (q :: P) = (let r' := if q = 0 then 0 else hdRun r P q; if k ≤ r' ∧ 0 < r' then (r', 0, r') else (r', i + 1, k)) := by
      rw [sc, e]
    have hr : ∃ r', (if q = 0 then 0 else hdRun r P q) = r' ∧ (0 < r' → ∃ j, RunsAt (q :: P) 0 j r') ∧ (∀ j k', RunsAt (q :: P) 0 j k' → k' ≤ r') := by
      by_cases hq : q = 0
      · refine ⟨0, by rw [if_pos hq], fun h => absurd h (Nat.lt_irrefl _), fun j k' h => ?_⟩
        rcases Nat.eq_zero_or_pos k' with z | z
        · exact Nat.le_of_eq z
        · have := h 0 z
          simp at this; lia
      · refine ⟨_, by rw [if_neg hq], ?_⟩
        have one : RunsAt (q :: P) 0 (q - 1) 1 := fun s hs => by
          obtain rfl : s = 0 := by lia
          simp; lia
        have hj : ∀ j k', 0 < k' → RunsAt (q :: P) 0 j k' → j + 1 = q := fun j k' hk h => by
          have := h 0 hk; simp at this; lia
        cases P with
        | nil =>
          refine ⟨fun _ => ⟨_, one⟩, fun j k' h => ?_⟩
          by_cases c : k' ≤ 1
          · exact c
          · have := h 1 (by lia); simp at this
        | cons q' P =>
          rw [show hdRun r (q' :: P) q = if q' = q + 1 then r + 1 else 1 from rfl]
          by_cases c : q' = q + 1
          · rw [if_pos c]
            refine ⟨fun _ => ⟨q - 1, fun s hs => ?_⟩, fun j k' h => ?_⟩
            · rcases Nat.eq_zero_or_pos s with z | z
              · subst z; simp; lia
              · rcases Nat.eq_zero_or_pos r with zr | zr
                · lia
                · obtain ⟨j, hjr⟩ := ih.run zr
                  have h0 := hjr 0 zr
                  simp at h0
                  have := hjr (s - 1) (by lia)
                  obtain ⟨s', rfl⟩ : ∃ s', s = s' + 1 := ⟨s - 1, by lia⟩
                  rw [show 0 + (s' + 1 - 1) = s' by lia] at this
                  rw [show 0 + (s' + 1) = s' + 1 by lia, List.getElem?_cons_succ, this]
                  congr 1; lia
            · rcases Nat.eq_zero_or_pos k' with z | z
              · lia
              · have hjq := hj j k' z h
                have : RunsAt (q' :: P) 0 (j + 1) (k' - 1) := fun s hs => by
                  have := h (s + 1) (by lia)
                  rw [show 0 + (s + 1) = 0 + s + 1 by lia, List.getElem?_cons_succ] at this
                  rw [this]; congr 1; lia
                have := ih.rmax _ _ this
                lia
          · rw [if_neg c]
            refine ⟨fun _ => ⟨_, one⟩, fun j k' h => ?_⟩
            by_cases d : k' ≤ 1
            · exact d
            · have h1 := h 1 (by lia)
              have hjq := hj j k' (by lia) h
              simp at h1; lia
    obtain ⟨r', e', hrun, hmax⟩ := hr
    rw [eq]
    simp only [e']
    by_cases c : k ≤ r' ∧ 0 < r'
    · rw [if_pos c]
      refine ⟨hrun, hmax, fun h => hrun h, fun t j k' hk h => ?_⟩
      cases t with
      | zero => exact ⟨hmax _ _ h, fun _ => Nat.le_refl _⟩
      | succ t => exact ⟨Nat.le_trans (ih.most t j k' hk h.tail).1 c.1, fun _ => Nat.zero_le _⟩
    · rw [if_neg c]
      refine ⟨hrun, hmax, fun h => ?_, fun t j k' hk h => ?_⟩
      · obtain ⟨j, hj⟩ := ih.best h
        exact ⟨j, hj.cons⟩
      · cases t with
        | zero =>
          have := hmax _ _ h
          show k' ≤ k ∧ (k' = k → i + 1 ≤ 0)
          refine ⟨by lia, fun z => ?_⟩
          lia
        | succ t =>
          have := ih.most t j k' hk h.tail
          exact ⟨this.1, fun z => Nat.succ_le_succ (this.2 z)⟩
structure PosOk (x y : List Int) (alo ahi blo bhi : Nat) (P : List Nat) : Prop where
  len : P.length = ahi - alo
  w1 : alo ≤ ahi
  at_ : ∀ t j, t < ahi - alo → (Blk x y alo ahi blo bhi (alo + t) j 1 ↔ P[t]? = some (j + 1))
theorem PosOk.blk {x y : List Int} {alo ahi blo bhi i j k : Nat} {P : List Nat} (h : PosOk x y alo ahi blo bhi P) (hk : 0 < k) (hi : alo ≤ i) : Blk x y alo ahi blo bhi i j k ↔ RunsAt P (i - alo) j k := by
  constructor
  · intro hb s hs
    have h2 := hb.i1
    have := (h.at_ (i - alo + s) (j + s) (by lia)).mp (by rw [show alo + (i - alo + s) = i + s by lia]; exact hb.one hs)
    exact this
  · intro hr
    refine blk_of_ones hk fun t ht => ?_
    have h1 := hr t ht
    have h2 := (List.getElem?_eq_some_iff.mp h1).1
    rw [h.len] at h2
    have := (h.at_ (i - alo + t) (j + t) h2).mpr h1
    rwa [show alo + (i - alo + t) = i + t by lia] at this
theorem gmp_ok {x y : List Int} : ∀ (f : Nat) (P : List Nat) {alo ahi blo bhi : Nat}, P.length ≤ f → PosOk x y alo ahi blo bhi P → GM x y alo ahi blo bhi (gmp f P)
  | 0, P, alo, ahi, blo, bhi, hf, h => by
    have := h.len
    exact gm_empty (.inl (by lia))
  | f + 1, P, alo, ahi, blo, bhi, hf, h => by
    have S := sc_ok P
    obtain ⟨r, i, k, e⟩ : ∃ r i k, sc P = (r, i, k) := ⟨_, _, _, rfl⟩
    rw [e] at S
    simp only at S
    have eq : gmp (f + 1) P = if k = 0 then 0 else k + gmp f ((P.take i).map fun q => if q < P.getD i 0 then q else 0) + gmp f ((P.drop (i + k)).map fun q => if P.getD i 0 + k ≤ q then q else 0) := by
      rw [gmp, e]
    rw [eq]
    by_cases hk : k = 0
    · rw [if_pos hk]
      refine .none fun i' j' hb => ?_
      have := (S.most _ _ _ (by lia) ((h.blk (by lia) hb.i0).mp hb)).1
      lia
    · rw [if_neg hk]
      obtain ⟨j, hj⟩ := S.best (by lia)
      have hi0 := hj 0 (by lia)
      have hiL := hj (k - 1) (by lia)
      have l1 := (List.getElem?_eq_some_iff.mp hiL).1
      have l0 := h.len
      have eD : P.getD i 0 = j + 1 := by
        rw [List.getD_eq_getElem?_getD]
        rw [Nat.add_zero] at hi0
        rw [hi0]; rfl
      have hb : Blk x y alo ahi blo bhi (alo + i) j k := (h.blk (by lia) (by lia)).mpr (by rw [show alo + i - alo = i by lia]; exact hj)
      have b1 := hb.i1; have b2 := hb.j0; have b3 := hb.j1
      have hB : Best x y alo ahi blo bhi (alo + i) j k := by
        refine ⟨hb, fun z => absurd z hk, fun i' j' k' hb' hk' => ?_⟩
        have hr := (h.blk hk' hb'.i0).mp hb'
        have hm := S.most _ _ _ hk' hr
        have c0 := hb'.i0
        refine ⟨hm.1, fun z => ?_⟩
        have := hm.2 z
        rcases Nat.lt_or_ge (alo + i) i' with c | c
        · exact .inl c
        · have ei : i' - alo = i := by lia
          have := hr 0 hk'
          rw [ei, Nat.add_zero, Nat.add_zero] at this
          rw [Nat.add_zero] at hi0
          rw [hi0] at this
          have := Option.some.inj this
          exact .inr ⟨by lia, by lia⟩
      rw [eD]
      refine .step hB (by lia) (gmp_ok f _ (by simp; lia) ⟨by simp; lia, by lia, fun t j' ht => ?_⟩) (gmp_ok f _ (by simp; lia) ⟨by simp; lia, b1, fun t j' ht => ?_⟩)
      · rw [List.getElem?_map, List.getElem?_take_of_lt (by lia)]
        have hA := h.at_ t j' (by lia)
        constructor
        · intro hb'
          have c := hb'.j1
          have := hA.mp ⟨hb'.i0, by lia, hb'.j0, by lia, hb'.eq⟩
          rw [this]
          simp only [Option.map_some, Option.some.injEq]
          rw [if_pos (by lia)]
        · intro hp
          cases hq : P[t]? with
          | none => rw [hq] at hp; simp at hp
          | some q =>
            rw [hq] at hp
            simp only [Option.map_some, Option.some.injEq] at hp
            by_cases c : q < j + 1
            · rw [if_pos c] at hp
              subst hp
              have hb' := hA.mpr hq
              exact ⟨hb'.i0, by lia, hb'.j0, by lia, hb'.eq⟩
            · rw [if_neg c] at hp; lia
      · rw [List.getElem?_map, List.getElem?_drop]
        have hA := h.at_ (i + k + t) j' (by lia)
        rw [show alo + (i + k + t) = alo + i + k + t by lia] at hA
        constructor
        · intro hb'
          have c := hb'.j0
          have := hA.mp ⟨by lia, hb'.i1, by lia, hb'.j1, hb'.eq⟩
          rw [this]
          simp only [Option.map_some, Option.some.injEq]
          rw [if_pos (by lia)]
        · intro hp
          cases hq : P[i + k + t]? with
          | none => rw [hq] at hp; simp at hp
          | some q =>
            rw [hq] at hp
            simp only [Option.map_some, Option.some.injEq] at hp
            by_cases c : j + 1 + k ≤ q
            · rw [if_pos c] at hp
              subst hp
              have hb' := hA.mpr hq
              exact ⟨by lia, hb'.i1, by lia, hb'.j1, hb'.eq⟩
            · rw [if_neg c] at hp; lia
end Mine
end
section
set_option Elab.async false
set_option linter.unusedVariables false
namespace Mine
/-! the rings: all 77 shapes, reckoned -/
def idxN (u : Nat) : List Nat → Nat
  | [] => 0
  | v :: l => if u = v then 1 else match idxN u l with
    | 0 => 0
    | n + 1 => n + 2
def posN (x y : List Nat) : List Nat := x.map fun u => idxN u y
def gmN (x y : List Nat) : Nat := gmp x.length (posN x y)
noncomputable def ci (l : List Nat) : List Int := l.map fun (n : Nat) => (n : Int)
theorem idxN_iff {u : Nat} : ∀ {y : List Nat} (ny : y.Nodup) {j : Nat}, idxN u y = j + 1 ↔ y[j]? = some u
  | [], _, j => by simp [idxN]
  | v :: l, ny, j => by
    have ih := fun j => idxN_iff (u := u) (List.nodup_cons.mp ny).2 (j := j)
    unfold idxN
    by_cases e : u = v
    · rw [if_pos e]
      cases j with
      | zero => simp [e]
      | succ j =>
        rw [List.getElem?_cons_succ]
        refine ⟨fun z => by lia, fun z => ?_⟩
        have := List.mem_of_getElem? z
        rw [e] at this
        exact absurd this (List.nodup_cons.mp ny).1
    · rw [if_neg e]
      cases j with
      | zero =>
        have e' : ¬ v = u := fun z => e z.symm
        cases idxN u l <;> simp [e']
      | succ j =>
        rw [List.getElem?_cons_succ, ← ih j]
        cases idxN u l with
        | zero => simp
        | succ n => simp
theorem pos_ok {x y : List Nat} (ny : y.Nodup) : PosOk (ci x) (ci y) 0 (ci x).length 0 (ci y).length (posN x y) := by
  refine ⟨by simp [ci, posN], Nat.zero_le _, fun t j ht => ?_⟩
  have ht' : t < x.length := by simpa [ci] using ht
  have e1 : (posN x y)[t]? = some (idxN x[t] y) := by simp [posN, ht']
  have e2 : (ci x)[t]? = some ((x[t] : Nat) : Int) := by simp [ci, ht']
  rw [e1, Option.some.injEq, idxN_iff ny, Nat.zero_add]
  constructor
  · intro hb
    obtain ⟨u, hu, hv⟩ := blk_val hb (t := 0) (by lia)
    rw [Nat.add_zero] at hu hv
    rw [e2] at hu
    cases hu
    simp only [ci, List.getElem?_map] at hv
    cases hy : y[j]? with
    | none => rw [hy] at hv; simp at hv
    | some v =>
      rw [hy] at hv
      simp only [Option.map_some, Option.some.injEq] at hv
      have : v = x[t] := by lia
      rw [this]
  · intro hy
    have hj := (List.getElem?_eq_some_iff.mp hy).1
    refine ⟨Nat.zero_le _, by lia, Nat.zero_le _, by simp [ci]; lia, fun s hs => ?_⟩
    obtain rfl : s = 0 := by lia
    rw [Nat.add_zero, Nat.add_zero, e2]
    simp [ci, List.getElem?_map, hy]
theorem gmN_ok {x y : List Nat} (ny : y.Nodup) : GML (ci x) (ci y) (gmN x y) := by
  have := gmp_ok x.length (posN x y) (by simp [posN]) (pos_ok (x := x) ny)
  exact this
def rgN (n : Nat) : List Nat := List.range n
def rwN (n st : Nat) : List Nat := (List.range (per n st)).map fun i => i * st % n
def invs (n st : Nat) : List Nat := (List.range (per n st)).filter fun i => i * st % n == n / per n st
def inv2 (n st : Nat) : Nat := (invs n st).headD 0
def euc' : Nat → Nat → Nat → Nat
  | 0, _, _ => 0
  | f + 1, a, b => if a = b then 0 else if a < b then euc' f a (b - a) + 1 else euc' f (a - b) b
theorem euc_eq : ∀ (f a b : Nat), euc f a b = euc' f a b
  | 0, a, b => rfl
  | f + 1, a, b => by
    rw [euc_succ, euc', euc_eq f a (b - a), euc_eq f (a - b) b]
def c0' (n st : Nat) : Nat := 2 + euc' (per n st) (inv2 n st) (per n st - inv2 n st)
def c1' (n st : Nat) : Nat := 1 + euc' (per n st) (per n st - inv2 n st) (inv2 n st)
def c2' (n st : Nat) : Nat := if st = n - 1 then per n st - 1 else 1
def ringOk (n st : Nat) : Bool :=
  decide (rwN n st).Nodup && (rwN n st).all (fun v => decide (v < n)) && !(invs n st).isEmpty && decide (1 ≤ inv2 n st) && decide (inv2 n st < per n st) &&
  gmN (rgN n) (rwN n st) == c0' n st && gmN (rgN n).reverse (rwN n st) == c1' n st && gmN (rwN n st) (rgN n) == c0' n st && gmN (rwN n st) (rgN n).reverse == c2' n st &&
  gmN (rgN n).reverse (rwN n st).reverse == c0' n st && gmN (rgN n) (rwN n st).reverse == c2' n st && gmN (rwN n st).reverse (rgN n).reverse == c0' n st && gmN (rwN n st).reverse (rgN n) == c1' n st
theorem ring_all : ((List.range 14).all fun n => (List.range 14).all fun st => decide (n < 3) || decide (st < 1) || decide (n ≤ st) || ringOk n st) = true := by decide +kernel
theorem ring_ok {n st : Nat} (h1 : 3 ≤ n) (h2 : n ≤ 13) (h3 : 1 ≤ st) (h4 : st < n) : ringOk n st = true := by
  have h := List.all_eq_true.mp (List.all_eq_true.mp ring_all n (List.mem_range.mpr (by lia))) st (List.mem_range.mpr (by lia))
  have e1 : decide (n < 3) = false := by simp; lia
  have e2 : decide (st < 1) = false := by simp; lia
  have e3 : decide (n ≤ st) = false := by simp; lia
  rw [e1, e2, e3] at h
  simpa using h
end Mine
end
section
set_option Elab.async false
set_option linter.unusedVariables false
namespace Mine
/-! the rings' parts, one behind the other -/
section
variable {x y : List Int} {m k : Nat}
theorem flat_cons (k : Nat) (v : Int) (l : List Int) : flat k (v :: l) = rep k v ++ flat k l := by simp [flat]
theorem flat_append (k : Nat) (a b : List Int) : flat k (a ++ b) = flat k a ++ flat k b := by simp [flat]
theorem rep_rev (k : Nat) (v : Int) : (rep k v).reverse = rep k v := by simp [rep]
theorem flat_rev (k : Nat) : ∀ l : List Int, (flat k l).reverse = flat k l.reverse
  | [] => by simp [flat]
  | v :: l => by rw [flat_cons, List.reverse_append, flat_rev k l, rep_rev, List.reverse_cons, flat_append, flat_cons]; simp [flat]
theorem mem_flat {u : Int} (h : u ∈ flat k x) : ∃ v ∈ x, u = ((100 * k : Nat) : Int) + v := by
  simp only [flat, List.mem_flatMap, rep] at h
  obtain ⟨v, hv, hu⟩ := h
  exact ⟨v, hv, (List.mem_replicate.mp hu).2⟩
theorem flat_map (hk : k % 2 = 0) : ∀ x : List Int, flat k x = x.map fun v => ((100 * k : Nat) : Int) + v
  | [] => by simp [flat]
  | v :: x => by rw [flat_cons, flat_map hk x, rep, hk]; simp
theorem flat_dbl (hk : k % 2 = 1) : ∀ x : List Int, flat k x = dbl (x.map fun v => ((100 * k : Nat) : Int) + v)
  | [] => by simp [flat, dbl]
  | v :: x => by rw [flat_cons, flat_dbl hk x, rep, hk]; simp [dbl]
theorem flat_gml (nx : x.Nodup) (ny : y.Nodup) (h : GML x y m) : GML (flat k x) (flat k y) ((1 + k % 2) * m) := by
  have inj : ∀ u v : Int, ((100 * k : Nat) : Int) + u = ((100 * k : Nat) : Int) + v → u = v := fun u v e => by lia
  have g := GML.map (φ := fun v => ((100 * k : Nat) : Int) + v) h fun u _ v _ e => inj u v e
  rcases Nat.mod_two_eq_zero_or_one k with hk | hk
  · rw [flat_map hk, flat_map hk, hk]
    simpa using g
  · rw [flat_dbl hk, flat_dbl hk, hk]
    have nd : ∀ {l : List Int}, l.Nodup → (l.map fun v => ((100 * k : Nat) : Int) + v).Nodup := fun hl => List.pairwise_map.mpr (hl.imp fun h e => h (inj _ _ e))
    exact GML.dbl (nd nx) (nd ny) g
/-- the items of the k-th part -/
def InP (k : Nat) (u : Int) : Prop := (100 * (k : Int) ≤ u ∧ u < 100 * k + 13) ∨ u = -1 - 2 * (k : Int) ∨ u = -2 - 2 * (k : Int)
theorem InP.ne {k k' : Nat} {u : Int} (h : InP k u) (h' : InP k' u) (hk : k < 3) (hk' : k' < 3) : k = k' := by
  unfold InP at h h'; lia
theorem InP.not1000 {u : Int} (h : InP k u) (hk : k < 3) : u ≠ 1000 := by unfold InP at h; lia
/-- a ring's two lists -/
structure Pr (x y : List Nat) (m : Nat) : Prop where
  nx : x.Nodup
  ny : y.Nodup
  lx : ∀ v ∈ x, v < 13
  ly : ∀ v ∈ y, v < 13
  gm : GML (ci x) (ci y) m
theorem ci_nd {l : List Nat} (h : l.Nodup) : (ci l).Nodup := List.pairwise_map.mpr (h.imp fun h e => h (by lia))
theorem ci_mem {l : List Nat} {u : Int} (h : u ∈ ci l) : ∃ v ∈ l, u = (v : Int) := by
  obtain ⟨v, hv, e⟩ := List.mem_map.mp h
  exact ⟨v, hv, e.symm⟩
theorem flat_in {l : List Nat} (hl : ∀ v ∈ l, v < 13) {u : Int} (h : u ∈ flat k (ci l)) : 100 * (k : Int) ≤ u ∧ u < 100 * k + 13 := by
  obtain ⟨v, hv, rfl⟩ := mem_flat h
  obtain ⟨w, hw, rfl⟩ := ci_mem hv
  have := hl w hw
  lia
/-- a part, forward or turned round -/
noncomputable def prtD (r : Bool) (k f : Nat) (l : List Int) : List Int := if r then (prt k f l).reverse else prt k f l
theorem prt_in {f : Nat} {l : List Nat} (hf : f = 1 ∨ f = 2) (hl : ∀ v ∈ l, v < 13) {u : Int} (h : u ∈ prt k f (ci l)) : InP k u := by
  rcases List.mem_cons.mp h with rfl | h
  · rcases hf with rfl | rfl
    · exact .inr (.inl (by lia))
    · exact .inr (.inr (by lia))
  · exact .inl (flat_in hl h)
theorem prtD_in {r : Bool} {f : Nat} {l : List Nat} (hf : f = 1 ∨ f = 2) (hl : ∀ v ∈ l, v < 13) {u : Int} (h : u ∈ prtD r k f (ci l)) : InP k u := by
  unfold prtD at h
  split at h
  · exact prt_in hf hl (List.mem_reverse.mp h)
  · exact prt_in hf hl h
theorem forn_ne {f g : Nat} {l : List Nat} (hfg : f = 1 ∧ g = 2 ∨ f = 2 ∧ g = 1) (hl : ∀ v ∈ l, v < 13) : (-(f : Int) - ((2 * k : Nat) : Int)) ≠ (-(g : Int) - ((2 * k : Nat) : Int)) ∧ (-(f : Int) - ((2 * k : Nat) : Int)) ∉ flat k (ci l) := by
  refine ⟨by lia, fun h => ?_⟩
  have := flat_in hl h
  lia
theorem part_gml {r : Bool} {a b : List Nat} {f g : Nat} (hfg : f = 1 ∧ g = 2 ∨ f = 2 ∧ g = 1) (P : Pr (if r then a.reverse else a) (if r then b.reverse else b) m) : GML (prtD r k f (ci a)) (prtD r k g (ci b)) ((1 + k % 2) * m) := by
  have hgf : g = 1 ∧ f = 2 ∨ g = 2 ∧ f = 1 := by lia
  have h := flat_gml (k := k) (ci_nd P.nx) (ci_nd P.ny) P.gm
  obtain ⟨n1, n2⟩ := forn_ne (k := k) hfg P.ly
  obtain ⟨_, n3⟩ := forn_ne (k := k) hgf P.lx
  cases r with
  | false => exact GML.cons h n1 n2 n3
  | true =>
    have e : ∀ l : List Nat, ci l.reverse = (ci l).reverse := fun l => by simp [ci]
    have := GML.snoc h n1 n2 n3
    simp only [if_true, e, ← flat_rev] at this
    unfold prtD prt
    simpa using this
theorem part_head {r : Bool} {a b : List Nat} {f g : Nat} (hfg : f = 1 ∧ g = 2 ∨ f = 2 ∧ g = 1) (hb : ∀ v ∈ b, v < 13) {u : Int} (h : if r then (prtD r k f (ci a))[(prtD r k f (ci a)).length - 1]? = some u else (prtD r k f (ci a))[0]? = some u) : u ∉ prtD r k g (ci b) := by
  have hu : u = -(f : Int) - ((2 * k : Nat) : Int) := by
    cases r with
    | false => simp [prtD, prt] at h; rw [← h]; lia
    | true => simp [prtD, prt] at h; rw [← h]; lia
  subst hu
  obtain ⟨n1, n2⟩ := forn_ne (k := k) hfg hb
  intro hm
  have : (-(f : Int) - ((2 * k : Nat) : Int)) ∈ prt k g (ci b) := by
    unfold prtD at hm
    split at hm
    · exact List.mem_reverse.mp hm
    · exact hm
  rcases List.mem_cons.mp this with e | e
  · exact n1 e
  · exact n2 e
end
end Mine
end
section
set_option Elab.async false
set_option linter.unusedVariables false
namespace Mine
section
variable {x y : List Int} {m k : Nat}
def HasPair (u : Int) (x : List Int) : Prop := ∃ xa xb, x = xa ++ (u :: u :: xb)
theorem HasPair.left {u : Int} {x : List Int} (h : HasPair u x) (l : List Int) : HasPair u (l ++ x) := by
  obtain ⟨xa, xb, rfl⟩ := h
  exact ⟨l ++ xa, xb, by simp⟩
theorem HasPair.right {u : Int} {x : List Int} (h : HasPair u x) (l : List Int) : HasPair u (x ++ l) := by
  obtain ⟨xa, xb, rfl⟩ := h
  exact ⟨xa, xb ++ l, by simp⟩
theorem HasPair.rev {u : Int} {x : List Int} (h : HasPair u x) : HasPair u x.reverse := by
  obtain ⟨xa, xb, rfl⟩ := h
  exact ⟨xb.reverse, xa.reverse, by simp⟩
theorem pair_blk {u : Int} (hx : HasPair u x) (hy : HasPair u y) : ∃ i j, Blk x y 0 x.length 0 y.length i j 2 := by
  obtain ⟨xa, xb, rfl⟩ := hx
  obtain ⟨ya, yb, rfl⟩ := hy
  refine ⟨xa.length, ya.length, Nat.zero_le _, by simp, Nat.zero_le _, by simp, fun t ht => ?_⟩
  have e : ∀ (l r : List Int), (l ++ (u :: u :: r))[l.length + t]? = some u := fun l r => by
    rw [List.getElem?_append_right (by lia), show l.length + t - l.length = t by lia]
    match t, ht with
    | 0, _ => rfl
    | 1, _ => rfl
  rw [e, e]; exact ⟨rfl, rfl⟩
theorem flat_pair {l : List Nat} {v : Nat} (h : v ∈ l) : HasPair (100 + (v : Int)) (flat 1 (ci l)) := by
  obtain ⟨s, t, rfl⟩ := List.append_of_mem h
  refine ⟨flat 1 (ci s), flat 1 (ci t), ?_⟩
  have : ci (s ++ v :: t) = ci s ++ ((v : Int) :: ci t) := by simp [ci]
  rw [this, flat_append, flat_cons]
  simp [rep, List.replicate]
theorem prtD_pair {r : Bool} {f : Nat} {l : List Nat} {v : Nat} (h : v ∈ l) : HasPair (100 + (v : Int)) (prtD r 1 f (ci l)) := by
  have h1 : HasPair (100 + (v : Int)) (prt 1 f (ci l)) := (flat_pair h).left [_]
  unfold prtD
  split
  · exact h1.rev
  · exact h1
/-- the three parts, in order or turned round -/
noncomputable def cat (r : Bool) (f : Nat) (a0 a1 a2 : List Nat) : List Int := if r then prtD r 2 f (ci a2) ++ (prtD r 1 f (ci a1) ++ prtD r 0 f (ci a0)) else prtD r 0 f (ci a0) ++ prtD r 1 f (ci a1) ++ prtD r 2 f (ci a2)
noncomputable abbrev rv (r : Bool) (a : List Nat) : List Nat := if r then a.reverse else a
theorem cat_in {r : Bool} {f : Nat} {a0 a1 a2 : List Nat} (hf : f = 1 ∨ f = 2) (l0 : ∀ v ∈ a0, v < 13) (l1 : ∀ v ∈ a1, v < 13) (l2 : ∀ v ∈ a2, v < 13) {u : Int} (h : u ∈ cat r f a0 a1 a2) : InP 0 u ∨ InP 1 u ∨ InP 2 u := by
  unfold cat at h
  split at h
  · rcases List.mem_append.mp h with h | h
    · exact .inr (.inr (prtD_in hf l2 h))
    · rcases List.mem_append.mp h with h | h
      · exact .inr (.inl (prtD_in hf l1 h))
      · exact .inl (prtD_in hf l0 h)
  · rcases List.mem_append.mp h with h | h
    · rcases List.mem_append.mp h with h | h
      · exact .inl (prtD_in hf l0 h)
      · exact .inr (.inl (prtD_in hf l1 h))
    · exact .inr (.inr (prtD_in hf l2 h))
theorem cat_no {r : Bool} {f : Nat} {a0 a1 a2 : List Nat} (hf : f = 1 ∨ f = 2) (l0 : ∀ v ∈ a0, v < 13) (l1 : ∀ v ∈ a1, v < 13) (l2 : ∀ v ∈ a2, v < 13) : (1000 : Int) ∉ cat r f a0 a1 a2 := fun h => by
  rcases cat_in hf l0 l1 l2 h with h | h | h
  · exact h.not1000 (by lia) rfl
  · exact h.not1000 (by lia) rfl
  · exact h.not1000 (by lia) rfl
theorem rv_lt {r : Bool} {a : List Nat} (h : ∀ v ∈ rv r a, v < 13) : ∀ v ∈ a, v < 13 := fun v hv => h v (by unfold rv; split; exact List.mem_reverse.mpr hv; exact hv)
theorem cat_gml {r : Bool} {f g : Nat} (hfg : f = 1 ∧ g = 2 ∨ f = 2 ∧ g = 1) {a0 a1 a2 b0 b1 b2 : List Nat} {m0 m1 m2 : Nat} (P0 : Pr (rv r a0) (rv r b0) m0) (P1 : Pr (rv r a1) (rv r b1) m1) (P2 : Pr (rv r a2) (rv r b2) m2) :
    GML (cat r f a0 a1 a2) (cat r g b0 b1 b2) (m0 + 2 * m1 + m2) := by
  have hf : f = 1 ∨ f = 2 := by lia
  have hg : g = 1 ∨ g = 2 := by lia
  have g0 := part_gml (k := 0) hfg P0
  have g1 := part_gml (k := 1) hfg P1
  have g2 := part_gml (k := 2) hfg P2
  have x0 := rv_lt P0.lx; have x1 := rv_lt P1.lx; have x2 := rv_lt P2.lx
  have y0 := rv_lt P0.ly; have y1 := rv_lt P1.ly; have y2 := rv_lt P2.ly
  have off : ∀ {k k' : Nat} {u : Int}, InP k u → InP k' u → k < 3 → k' < 3 → k ≠ k' → False := fun h h' a b c => c (h.ne h' a b)
  cases r with
  | false =>
    have q1 := GML.append g0 g1 (fun u hu hv => off (prtD_in hf x0 hu) (prtD_in hg y1 hv) (by lia) (by lia) (by lia)) (fun u hu hv => off (prtD_in hf x1 hu) (prtD_in hg y0 hv) (by lia) (by lia) (by lia)) (.inr fun u hu => part_head (r := false) hfg y1 hu)
    have q2 := GML.append q1 g2 (fun u hu hv => (List.mem_append.mp hu).elim (fun hu => off (prtD_in hf x0 hu) (prtD_in hg y2 hv) (by lia) (by lia) (by lia)) fun hu => off (prtD_in hf x1 hu) (prtD_in hg y2 hv) (by lia) (by lia) (by lia))
      (fun u hu hv => (List.mem_append.mp hv).elim (fun hv => off (prtD_in hf x2 hu) (prtD_in hg y0 hv) (by lia) (by lia) (by lia)) fun hv => off (prtD_in hf x2 hu) (prtD_in hg y1 hv) (by lia) (by lia) (by lia)) (.inr fun u hu => part_head (r := false) hfg y2 hu)
    have e : (1 + 0 % 2) * m0 + (1 + 1 % 2) * m1 + (1 + 2 % 2) * m2 = m0 + 2 * m1 + m2 := by lia
    rw [e] at q2
    exact q2
  | true =>
    have q1 := GML.append g1 g0 (fun u hu hv => off (prtD_in hf x1 hu) (prtD_in hg y0 hv) (by lia) (by lia) (by lia)) (fun u hu hv => off (prtD_in hf x0 hu) (prtD_in hg y1 hv) (by lia) (by lia) (by lia)) (.inl fun u hu => part_head (r := true) hfg y1 hu)
    have q2 := GML.append g2 q1 (fun u hu hv => (List.mem_append.mp hv).elim (fun hv => off (prtD_in hf x2 hu) (prtD_in hg y1 hv) (by lia) (by lia) (by lia)) fun hv => off (prtD_in hf x2 hu) (prtD_in hg y0 hv) (by lia) (by lia) (by lia))
      (fun u hu hv => (List.mem_append.mp hu).elim (fun hu => off (prtD_in hf x1 hu) (prtD_in hg y2 hv) (by lia) (by lia) (by lia)) fun hu => off (prtD_in hf x0 hu) (prtD_in hg y2 hv) (by lia) (by lia) (by lia)) (.inl fun u hu => part_head (r := true) hfg y2 hu)
    have e : (1 + 2 % 2) * m2 + ((1 + 1 % 2) * m1 + (1 + 0 % 2) * m0) = m0 + 2 * m1 + m2 := by lia
    rw [e] at q2
    exact q2
/-- and with the crossing thing -/
theorem cross_gml {r : Bool} {f g : Nat} (hfg : f = 1 ∧ g = 2 ∨ f = 2 ∧ g = 1) {a0 a1 a2 b0 b1 b2 : List Nat} {m0 m1 m2 v : Nat} (P0 : Pr (rv r a0) (rv r b0) m0) (P1 : Pr (rv r a1) (rv r b1) m1) (P2 : Pr (rv r a2) (rv r b2) m2) (hva : v ∈ a1) (hvb : v ∈ b1)
    {A0 A1 B0 B1 : List Int} (hA0 : ∀ u ∈ A0, u = 1000) (hA1 : ∀ u ∈ A1, u = 1000) (hB0 : ∀ u ∈ B0, u = 1000) (hB1 : ∀ u ∈ B1, u = 1000) (h0 : A0 = [] ∨ B0 = []) (h1 : A1 = [] ∨ B1 = []) (h01 : A0.length ≤ 1 ∨ B1.length ≤ 1) (h10 : A1.length ≤ 1 ∨ B0.length ≤ 1) :
    GML (A0 ++ cat r f a0 a1 a2 ++ A1) (B0 ++ cat r g b0 b1 b2 ++ B1) (m0 + 2 * m1 + m2) := by
  have hf : f = 1 ∨ f = 2 := by lia
  have hg : g = 1 ∨ g = 2 := by lia
  have nx : (1000 : Int) ∉ cat r f a0 a1 a2 := cat_no hf (rv_lt P0.lx) (rv_lt P1.lx) (rv_lt P2.lx)
  have ny : (1000 : Int) ∉ cat r g b0 b1 b2 := cat_no hg (rv_lt P0.ly) (rv_lt P1.ly) (rv_lt P2.ly)
  have pr : ∀ (f : Nat) (c0 c1 c2 : List Nat), v ∈ c1 → HasPair (100 + (v : Int)) (cat r f c0 c1 c2) := fun f c0 c1 c2 hv => by
    unfold cat
    split
    · exact ((prtD_pair hv).right _).left _
    · exact ((prtD_pair hv).left _).right _
  refine GML.cross (cat_gml hfg P0 P1 P2) (pair_blk (pr f _ _ _ hva) (pr g _ _ _ hvb)) (fun u hu z => ny (hA0 u hu ▸ z)) ?_ (fun u hu z => ny (hA1 u hu ▸ z)) ?_ (fun u hu z => nx (hB0 u z ▸ hu)) (fun u hu z => nx (hB1 u z ▸ hu)) h01 h10
  · rcases h0 with rfl | rfl
    · intro u hu; cases hu
    · intro u hu z; cases z
  · rcases h1 with rfl | rfl
    · intro u hu; cases hu
    · intro u hu z; cases z
end
end Mine
end
section
set_option Elab.async false
set_option linter.unusedVariables false
namespace Mine
theorem qm_congr : ∀ (xs : List Int) (f g : Int → Int), (∀ u, f u = g u ∨ (f u ≤ 0 ∧ g u ≤ 0)) → qm xs f = qm xs g
  | [], _, _, _ => rfl
  | x :: xs, f, g, h => by
    have ih := qm_congr xs (fun y => if y = x then f x - 1 else f y) (fun y => if y = x then g x - 1 else g y) fun u => by
      by_cases e : u = x
      · simp only [if_pos e]
        rcases h x with h | h
        · exact .inl (by rw [h])
        · exact .inr ⟨by lia, by lia⟩
      · simp only [if_neg e]; exact h u
    simp only [qm, ih]
    congr 1
    rcases h x with h | h
    · rw [h]
    · rw [if_neg (by lia), if_neg (by lia)]
/-- each item of the first list is in the second as often, or not at all -/
theorem qm_first : ∀ (xs : List Int) (f : Int → Int), (∀ u, f u ≤ 0 ∨ ((xs.count u : Nat) : Int) ≤ f u) → qm xs f = xs.countP fun u => decide (0 < f u)
  | [], _, _ => rfl
  | x :: xs, f, h => by
    have hx := h x
    rw [List.count_cons_self] at hx
    have ih := qm_first xs (fun y => if y = x then f x - 1 else f y) fun u => by
      by_cases e : u = x
      · simp only [if_pos e]; subst e
        rcases hx with hx | hx
        · exact .inl (by lia)
        · exact .inr (by lia)
      · simp only [if_neg e]
        have := h u
        rwa [List.count_cons_of_ne (Ne.symm e)] at this
    simp only [qm, ih, List.countP_cons]
    have e2 : xs.countP (fun u => decide (0 < if u = x then f x - 1 else f u)) = xs.countP fun u => decide (0 < f u) := by
      refine List.countP_congr fun u hu => ?_
      by_cases e : u = x
      · subst e
        simp only [if_true, decide_eq_true_eq]
        have : 1 ≤ xs.count u := List.count_pos_iff.mpr hu
        rcases hx with hx | hx <;> lia
      · simp only [if_neg e]
    rw [e2, Nat.add_comm]
    congr 1
    by_cases c : 0 < f x
    · simp [c]
    · simp [c]
/-- each item of the second list that is in the first is there as often -/
theorem qm_second : ∀ (xs ys : List Int) (p : Int → Bool), (∀ u, p u = true → ys.count u ≤ xs.count u) → (∀ u, p u = false → u ∉ xs) → qm xs (fun k => cnt k ys) = ys.countP p
  | [], ys, p, h1, _ => by
    have : ys.countP p = 0 := List.countP_eq_zero.mpr fun u hu hp => by
      have := h1 u hp
      have h2 : 1 ≤ ys.count u := List.count_pos_iff.mpr hu
      simp at this; lia
    rw [this]; rfl
  | x :: xs, ys, p, h1, h2 => by
    have hp : p x = true := by
      cases e : p x with
      | true => rfl
      | false => exact absurd (List.mem_cons_self) (h2 x e)
    by_cases hx : x ∈ ys
    · have hc : 1 ≤ ys.count x := List.count_pos_iff.mpr hx
      have ih := qm_second xs (ys.erase x) p (fun u hu => by
        have := h1 u hu
        by_cases e : u = x
        · subst e; rw [List.count_erase_self]; rw [List.count_cons_self] at this; lia
        · rw [List.count_erase_of_ne e]; rwa [List.count_cons_of_ne (Ne.symm e)] at this) fun u hu z => h2 u hu (.tail _ z)
      have e1 : qm xs (fun y => if y = x then cnt x ys - 1 else cnt y ys) = qm xs fun k => cnt k (ys.erase x) := qm_congr _ _ _ fun u => .inl (by
        by_cases e : u = x
        · subst e; rw [if_pos rfl]; unfold cnt; rw [List.count_erase_self]; lia
        · rw [if_neg e]; unfold cnt; rw [List.count_erase_of_ne e])
      have e2 : ys.countP p = 1 + (ys.erase x).countP p := by
        rw [(List.perm_cons_erase hx).countP_eq p, List.countP_cons, hp]; simp [Nat.add_comm]
      simp only [qm, e1, ih, e2]
      rw [if_pos (by unfold cnt; lia)]
    · have hc : ys.count x = 0 := List.count_eq_zero.mpr hx
      have ih := qm_second xs ys p (fun u hu => by
        have := h1 u hu
        by_cases e : u = x
        · subst e; lia
        · rwa [List.count_cons_of_ne (Ne.symm e)] at this) fun u hu z => h2 u hu (.tail _ z)
      have e1 : qm xs (fun y => if y = x then cnt x ys - 1 else cnt y ys) = qm xs fun k => cnt k ys := qm_congr _ _ _ fun u => by
        by_cases e : u = x
        · subst e; rw [if_pos rfl]; unfold cnt; exact .inr ⟨by lia, by lia⟩
        · rw [if_neg e]; exact .inl rfl
      simp only [qm, e1, ih]
      rw [if_neg (by unfold cnt; lia), Nat.zero_add]
/-- the things met nowhere else in the list in steps -/
def known (u : Int) : Bool := !(u == -2 || u == -4 || u == -6)
theorem known_false {u : Int} (h : known u = false) : u = -2 ∨ u = -4 ∨ u = -6 := by
  unfold known at h; simp at h; lia
theorem known_true {u : Int} (h : known u = true) : u ≠ -2 ∧ u ≠ -4 ∧ u ≠ -6 := by
  unfold known at h; simp at h; lia
theorem count_flat (k : Nat) (u : Int) : ∀ l : List Int, (flat k l).count u = (1 + k % 2) * l.count (u - ((100 * k : Nat) : Int))
  | [] => by simp [flat]
  | v :: l => by
    rw [flat_cons, List.count_append, count_flat k u l, rep, List.count_replicate, List.count_cons]
    by_cases e : ((100 * k : Nat) : Int) + v = u
    · have e' : (v == u - ((100 * k : Nat) : Int)) = true := by simp; lia
      have e2 : (((100 * k : Nat) : Int) + v == u) = true := by simpa using e
      rw [if_pos e2, if_pos e', Nat.mul_add, Nat.mul_one, Nat.add_comm]
    · have e' : ¬ ((v == u - ((100 * k : Nat) : Int)) = true) := by simp; lia
      have e2 : ¬ ((((100 * k : Nat) : Int) + v == u) = true) := by simpa using e
      rw [if_neg e2, if_neg e', Nat.zero_add, Nat.add_zero]
/-- a row of a ring -/
structure Row (a b : List Nat) : Prop where
  na : a.Nodup
  nb : b.Nodup
  la : ∀ v ∈ a, v < 13
  lb : ∀ v ∈ b, v < 13
  sub : ∀ v ∈ b, v ∈ a
section
variable {a b a0 a1 a2 b0 b1 b2 : List Nat} {k : Nat}
theorem nd_count {l : List Int} (h : l.Nodup) (u : Int) : l.count u ≤ 1 := List.nodup_iff_count.mp h u
theorem Row.count (R : Row a b) (u : Int) : (ci b).count u ≤ (ci a).count u := by
  by_cases h : u ∈ ci b
  · obtain ⟨v, hv, rfl⟩ := ci_mem h
    have h1 : 1 ≤ (ci a).count ((v : Nat) : Int) := List.count_pos_iff.mpr (List.mem_map.mpr ⟨v, R.sub v hv, rfl⟩)
    exact Nat.le_trans (nd_count (ci_nd R.nb) _) h1
  · rw [List.count_eq_zero.mpr h]; exact Nat.zero_le _
theorem Row.part (R : Row a b) (hk : k < 3) {u : Int} (hu : known u = true) : (prt k 2 (ci b)).count u ≤ (prt k 1 (ci a)).count u := by
  have h := known_true hu
  unfold prt
  rw [List.count_cons_of_ne (by lia)]
  refine Nat.le_trans ?_ (List.count_le_count_cons)
  rw [count_flat, count_flat]
  exact Nat.mul_le_mul_left _ (R.count _)
theorem part_unknown (la : ∀ v ∈ a, v < 13) (hk : k < 3) {u : Int} (hu : known u = false) : u ∉ prt k 1 (ci a) := fun h => by
  have h1 := known_false hu
  rcases List.mem_cons.mp h with e | e
  · lia
  · have := flat_in la e; lia
theorem part_known (lb : ∀ v ∈ b, v < 13) (hk : k < 3) : (prt k 2 (ci b)).countP known = (prt k 2 (ci b)).length - 1 := by
  unfold prt
  have h0 : known (-((2 : Nat) : Int) - ((2 * k : Nat) : Int)) = false := by
    unfold known; simp; lia
  rw [List.countP_cons, h0]
  have : (flat k (ci b)).countP known = (flat k (ci b)).length := List.countP_eq_length.mpr fun u hu => by
    have := flat_in lb hu
    unfold known; simp; lia
  rw [this]; simp
theorem prt_len (k f : Nat) (l : List Int) : (prt k f l).length = 1 + (1 + k % 2) * l.length := by unfold prt; rw [List.length_cons, flat_len, Nat.add_comm]
noncomputable def ordL (a0 a1 a2 : List Nat) : List Int := [1000, 1000] ++ prt 0 1 (ci a0) ++ prt 1 1 (ci a1) ++ prt 2 1 (ci a2)
noncomputable def stpL (b0 b1 b2 : List Nat) : List Int := prt 0 2 (ci b0) ++ prt 1 2 (ci b1) ++ prt 2 2 (ci b2) ++ [1000]
theorem ord_unknown (l0 : ∀ v ∈ a0, v < 13) (l1 : ∀ v ∈ a1, v < 13) (l2 : ∀ v ∈ a2, v < 13) {u : Int} (hu : known u = false) : u ∉ ordL a0 a1 a2 := fun h => by
  have h1 := known_false hu
  unfold ordL at h
  rcases List.mem_append.mp h with h | h
  · rcases List.mem_append.mp h with h | h
    · rcases List.mem_append.mp h with h | h
      · simp at h; lia
      · exact part_unknown l0 (by lia) hu h
    · exact part_unknown l1 (by lia) hu h
  · exact part_unknown l2 (by lia) hu h
theorem stp_count (R0 : Row a0 b0) (R1 : Row a1 b1) (R2 : Row a2 b2) {u : Int} (hu : known u = true) : (stpL b0 b1 b2).count u ≤ (ordL a0 a1 a2).count u := by
  have h0 := R0.part (k := 0) (by lia) hu
  have h1 := R1.part (k := 1) (by lia) hu
  have h2 := R2.part (k := 2) (by lia) hu
  unfold stpL ordL
  simp only [List.count_append]
  have h3 : ([1000] : List Int).count u ≤ ([1000, 1000] : List Int).count u := (List.sublist_cons_self 1000 [1000]).count_le u
  lia
theorem stp_known (l0 : ∀ v ∈ b0, v < 13) (l1 : ∀ v ∈ b1, v < 13) (l2 : ∀ v ∈ b2, v < 13) : (stpL b0 b1 b2).countP known = (stpL b0 b1 b2).length - 3 := by
  unfold stpL
  simp only [List.countP_append, List.length_append]
  rw [part_known l0 (by lia), part_known l1 (by lia), part_known l2 (by lia)]
  have e0 := prt_len 0 2 (ci b0); have e1 := prt_len 1 2 (ci b1); have e2 := prt_len 2 2 (ci b2)
  have : ([1000] : List Int).countP known = 1 := by decide
  simp only [this, List.length_singleton]
  lia
noncomputable abbrev dir (r : Bool) (l : List Int) : List Int := if r then l.reverse else l
theorem dir_count (r : Bool) (l : List Int) (u : Int) : (dir r l).count u = l.count u := by unfold dir; split; exact List.count_reverse; rfl
theorem dir_len (r : Bool) (l : List Int) : (dir r l).length = l.length := by unfold dir; split; exact List.length_reverse; rfl
theorem dir_mem (r : Bool) (l : List Int) (u : Int) : u ∈ dir r l ↔ u ∈ l := by unfold dir; split; exact List.mem_reverse; exact Iff.rfl
theorem dir_countP (r : Bool) (l : List Int) (p : Int → Bool) : (dir r l).countP p = l.countP p := by unfold dir; split; exact List.countP_reverse; rfl
theorem qm_ahead (R0 : Row a0 b0) (R1 : Row a1 b1) (R2 : Row a2 b2) (r : Bool) : qm (dir r (ordL a0 a1 a2)) (fun k => cnt k (dir r (stpL b0 b1 b2))) = (stpL b0 b1 b2).length - 3 := by
  rw [qm_second _ _ known (fun u hu => by rw [dir_count, dir_count]; exact stp_count R0 R1 R2 hu) (fun u hu => by rw [dir_mem]; exact ord_unknown R0.la R1.la R2.la hu), dir_countP, stp_known R0.lb R1.lb R2.lb]
theorem qm_behind (R0 : Row a0 b0) (R1 : Row a1 b1) (R2 : Row a2 b2) (r : Bool) : qm (dir r (stpL b0 b1 b2)) (fun k => cnt k (dir r (ordL a0 a1 a2))) = (stpL b0 b1 b2).length - 3 := by
  have hc : ∀ u, cnt u (dir r (ordL a0 a1 a2)) = (((ordL a0 a1 a2).count u : Nat) : Int) := fun u => by unfold cnt; rw [dir_count]
  have h0 : ∀ u, known u = false → (ordL a0 a1 a2).count u = 0 := fun u hu => List.count_eq_zero.mpr (ord_unknown R0.la R1.la R2.la hu)
  rw [qm_first _ _ fun u => ?_]
  · rw [← stp_known R0.lb R1.lb R2.lb, dir_countP]
    refine List.countP_congr fun u hu => ?_
    rw [decide_eq_true_eq, hc]
    cases e : known u with
    | true =>
      have h1 := stp_count R0 R1 R2 e
      have h2 : 1 ≤ (stpL b0 b1 b2).count u := List.count_pos_iff.mpr hu
      exact ⟨fun _ => rfl, fun _ => by lia⟩
    | false => rw [h0 u e]; simp
  · rw [hc, dir_count]
    cases e : known u with
    | true => exact .inr (by have := stp_count R0 R1 R2 e; lia)
    | false => exact .inl (by rw [h0 u e]; simp)
end
end Mine
end
section
set_option Elab.async false
set_option linter.unusedVariables false
namespace Mine
/-- the shape of a ring -/
structure Sh (n st : Nat) : Prop where
  n3 : 3 ≤ n
  n13 : n ≤ 13
  s1 : 1 ≤ st
  sn : st < n
structure RingF (n st : Nat) : Prop where
  nd : (rwN n st).Nodup
  lt : ∀ v ∈ rwN n st, v < n
  ne : (invs n st).isEmpty = false
  i1 : 1 ≤ inv2 n st
  ip : inv2 n st < per n st
  e1 : gmN (rgN n) (rwN n st) = c0' n st
  e2 : gmN (rgN n).reverse (rwN n st) = c1' n st
  e3 : gmN (rwN n st) (rgN n) = c0' n st
  e4 : gmN (rwN n st) (rgN n).reverse = c2' n st
  e5 : gmN (rgN n).reverse (rwN n st).reverse = c0' n st
  e6 : gmN (rgN n) (rwN n st).reverse = c2' n st
  e7 : gmN (rwN n st).reverse (rgN n).reverse = c0' n st
  e8 : gmN (rwN n st).reverse (rgN n) = c1' n st
theorem Sh.ring {n st : Nat} (h : Sh n st) : RingF n st := by
  have := ring_ok h.n3 h.n13 h.s1 h.sn
  unfold ringOk at this
  simp only [Bool.and_eq_true, decide_eq_true_eq, List.all_eq_true, Bool.not_eq_true', beq_iff_eq] at this
  obtain ⟨⟨⟨⟨⟨⟨⟨⟨⟨⟨⟨⟨h1, h2⟩, h3⟩, h4⟩, h5⟩, h6⟩, h7⟩, h8⟩, h9⟩, h10⟩, h11⟩, h12⟩, h13⟩ := this
  exact ⟨h1, h2, h3, h4, h5, h6, h7, h8, h9, h10, h11, h12, h13⟩
theorem rg_nd (n : Nat) : (rgN n).Nodup := List.nodup_range
section
variable {n st : Nat}
theorem rev_nd {l : List Nat} (h : l.Nodup) : l.reverse.Nodup := List.pairwise_reverse.mpr (h.imp fun h e => h e.symm)
theorem rg_lt (h : Sh n st) : ∀ v ∈ rgN n, v < 13 := fun v hv => by have := List.mem_range.mp hv; have := h.n13; lia
theorem rw_lt (h : Sh n st) : ∀ v ∈ rwN n st, v < 13 := fun v hv => by have := h.ring.lt v hv; have := h.n13; lia
theorem revlt {l : List Nat} (h : ∀ v ∈ l, v < 13) : ∀ v ∈ l.reverse, v < 13 := fun v hv => h v (List.mem_reverse.mp hv)
/-- order or turned -/
noncomputable abbrev rg (t : Bool) (n : Nat) : List Nat := if t then (rgN n).reverse else rgN n
theorem Sh.row (h : Sh n st) (t : Bool) : Row (rg t n) (rwN n st) := by
  have hs : ∀ v ∈ rwN n st, v ∈ rgN n := fun v hv => List.mem_range.mpr (h.ring.lt v hv)
  cases t with
  | false => exact ⟨rg_nd n, h.ring.nd, rg_lt h, rw_lt h, hs⟩
  | true => exact ⟨rev_nd (rg_nd n), h.ring.nd, revlt (rg_lt h), rw_lt h, fun v hv => List.mem_reverse.mpr (hs v hv)⟩
theorem mkPr {x y : List Nat} {m : Nat} (nx : x.Nodup) (ny : y.Nodup) (lx : ∀ v ∈ x, v < 13) (ly : ∀ v ∈ y, v < 13) (e : gmN x y = m) : Pr x y m := ⟨nx, ny, lx, ly, e ▸ gmN_ok ny⟩
noncomputable def cA (t r : Bool) (n st : Nat) : Nat := if t then (if r then c2' n st else c1' n st) else c0' n st
theorem Sh.ahead (h : Sh n st) (t r : Bool) : Pr (rv r (rg t n)) (rv r (rwN n st)) (cA t r n st) := by
  have R := h.ring
  cases t <;> cases r
  · exact mkPr (rg_nd n) R.nd (rg_lt h) (rw_lt h) R.e1
  · exact mkPr (rev_nd (rg_nd n)) (rev_nd R.nd) (revlt (rg_lt h)) (revlt (rw_lt h)) R.e5
  · exact mkPr (rev_nd (rg_nd n)) R.nd (revlt (rg_lt h)) (rw_lt h) R.e2
  · have : rv true (rg true n) = rgN n := List.reverse_reverse _
    rw [this]
    exact mkPr (rg_nd n) (rev_nd R.nd) (rg_lt h) (revlt (rw_lt h)) R.e6
theorem Sh.behind (h : Sh n st) (t r : Bool) : Pr (rv r (rwN n st)) (rv r (rg t n)) (cA t (!r) n st) := by
  have R := h.ring
  cases t <;> cases r
  · exact mkPr R.nd (rg_nd n) (rw_lt h) (rg_lt h) R.e3
  · exact mkPr (rev_nd R.nd) (rev_nd (rg_nd n)) (revlt (rw_lt h)) (revlt (rg_lt h)) R.e7
  · exact mkPr R.nd (rev_nd (rg_nd n)) (rw_lt h) (revlt (rg_lt h)) R.e4
  · have : rv true (rg true n) = rgN n := List.reverse_reverse _
    rw [this]
    exact mkPr (rev_nd R.nd) (rg_nd n) (revlt (rw_lt h)) (rg_lt h) R.e8
theorem zero_in (h : Sh n st) (t : Bool) : 0 ∈ rg t n ∧ 0 ∈ rwN n st := by
  have h1 : 0 ∈ rgN n := List.mem_range.mpr (by have := h.n3; lia)
  have hp := h.ring.ip
  refine ⟨?_, List.mem_map.mpr ⟨0, List.mem_range.mpr (by lia), by simp⟩⟩
  cases t with
  | false => exact h1
  | true => exact List.mem_reverse.mpr h1
end
section
variable {n0 s0 n1 s1 n2 s2 : Nat}
theorem ord_cat (a0 a1 a2 : List Nat) (r : Bool) : dir r (ordL a0 a1 a2) = (if r then [] else [1000, 1000]) ++ cat r 1 a0 a1 a2 ++ (if r then [1000, 1000] else []) := by
  cases r <;> simp [dir, ordL, cat, prtD]
theorem stp_cat (b0 b1 b2 : List Nat) (r : Bool) : dir r (stpL b0 b1 b2) = (if r then [1000] else []) ++ cat r 2 b0 b1 b2 ++ (if r then [] else [1000]) := by
  cases r <;> simp [dir, stpL, cat, prtD]
noncomputable def cSum (t r : Bool) (n0 s0 n1 s1 n2 s2 : Nat) : Nat := cA t r n0 s0 + 2 * cA t r n1 s1 + cA t r n2 s2
theorem gml_ahead (h0 : Sh n0 s0) (h1 : Sh n1 s1) (h2 : Sh n2 s2) (t r : Bool) : GML (dir r (ordL (rg t n0) (rg t n1) (rg t n2))) (dir r (stpL (rwN n0 s0) (rwN n1 s1) (rwN n2 s2))) (cSum t r n0 s0 n1 s1 n2 s2) := by
  rw [ord_cat, stp_cat]
  have z := zero_in h1 t
  have e1 : ∀ u ∈ ([1000, 1000] : List Int), u = 1000 := by simp
  have e2 : ∀ u ∈ ([1000] : List Int), u = 1000 := by simp
  have e3 : ∀ u ∈ ([] : List Int), u = 1000 := by simp
  cases r with
  | false => exact cross_gml (A0 := [1000, 1000]) (A1 := []) (B0 := []) (B1 := [1000]) (.inl ⟨rfl, rfl⟩) (h0.ahead t false) (h1.ahead t false) (h2.ahead t false) z.1 z.2 e1 e3 e3 e2 (.inr rfl) (.inl rfl) (.inr (by simp)) (.inl (by simp))
  | true => exact cross_gml (A0 := []) (A1 := [1000, 1000]) (B0 := [1000]) (B1 := []) (.inl ⟨rfl, rfl⟩) (h0.ahead t true) (h1.ahead t true) (h2.ahead t true) z.1 z.2 e3 e1 e2 e3 (.inl rfl) (.inr rfl) (.inl (by simp)) (.inr (by simp))
theorem tot_ahead (h0 : Sh n0 s0) (h1 : Sh n1 s1) (h2 : Sh n2 s2) (t r : Bool) {tot : Nat} (g : GML (dir r (ordL (rg t n0) (rg t n1) (rg t n2))) (dir r (stpL (rwN n0 s0) (rwN n1 s1) (rwN n2 s2))) tot) : tot = cSum t r n0 s0 n1 s1 n2 s2 := g.det (gml_ahead h0 h1 h2 t r)
theorem tot_behind (h0 : Sh n0 s0) (h1 : Sh n1 s1) (h2 : Sh n2 s2) (t r : Bool) {tot : Nat} (g : GML (dir r (stpL (rwN n0 s0) (rwN n1 s1) (rwN n2 s2))) (dir r (ordL (rg t n0) (rg t n1) (rg t n2))) tot) : tot = cSum t (!r) n0 s0 n1 s1 n2 s2 := by
  refine g.det ?_
  rw [ord_cat, stp_cat]
  have z := zero_in h1 t
  have e1 : ∀ u ∈ ([1000, 1000] : List Int), u = 1000 := by simp
  have e2 : ∀ u ∈ ([1000] : List Int), u = 1000 := by simp
  have e3 : ∀ u ∈ ([] : List Int), u = 1000 := by simp
  cases r with
  | false => exact cross_gml (A0 := []) (A1 := [1000]) (B0 := [1000, 1000]) (B1 := []) (.inr ⟨rfl, rfl⟩) (h0.behind t false) (h1.behind t false) (h2.behind t false) z.2 z.1 e3 e2 e1 e3 (.inl rfl) (.inr rfl) (.inl (by simp)) (.inl (by simp))
  | true => exact cross_gml (A0 := [1000]) (A1 := []) (B0 := []) (B1 := [1000, 1000]) (.inr ⟨rfl, rfl⟩) (h0.behind t true) (h1.behind t true) (h2.behind t true) z.2 z.1 e2 e3 e3 e1 (.inr rfl) (.inl rfl) (.inl (by simp)) (.inl (by simp))
theorem ord_len (a0 a1 a2 : List Nat) : (ordL a0 a1 a2).length = 5 + a0.length + 2 * a1.length + a2.length := by
  unfold ordL
  simp only [List.length_append, prt_len]
  simp [ci]; lia
theorem stp_len (b0 b1 b2 : List Nat) : (stpL b0 b1 b2).length = 4 + b0.length + 2 * b1.length + b2.length := by
  unfold stpL
  simp only [List.length_append, prt_len]
  simp [ci]; lia
theorem rg_len (t : Bool) (n : Nat) : (rg t n).length = n := by
  cases t
  · exact List.length_range
  · exact List.length_reverse.trans List.length_range
theorem rw_len (n st : Nat) : (rwN n st).length = per n st := by simp [rwN]
end
end Mine
end
section
set_option Elab.async false
namespace Mine
open PySem PySem.W PySem.Calls PyProof.Rows
theorem rf_all : ((List.range 114).all fun t => decide (t < 20) || (List.range (t / 2 + 1)).all fun k => decide (Float64.cmp (ratioF ((k : Nat) : Int) ((t : Nat) : Int)) (Float64.ofFrac false (2 * k) t) = some .eq)) = true := by decide +kernel
theorem rf_ok {t k : Nat} (h1 : 20 ≤ t) (h2 : t ≤ 113) (hk : 2 * k ≤ t) : Float64.cmp (ratioF ((k : Nat) : Int) ((t : Nat) : Int)) (Float64.ofFrac false (2 * k) t) = some .eq := by
  have h := List.all_eq_true.mp rf_all t (List.mem_range.mpr (by omega))
  have e : decide (t < 20) = false := by simp; omega
  rw [e, Bool.false_or] at h
  have := List.all_eq_true.mp h k (List.mem_range.mpr (by omega))
  simpa using this
end Mine
end
section
set_option Elab.async false
set_option linter.unusedVariables false
namespace Mine
section
variable {n0 s0 n1 s1 n2 s2 : Nat}
theorem per_bd {n st : Nat} (h : Sh n st) : 1 ≤ per n st ∧ per n st ≤ n := let ⟨a, b, _⟩ := per_ok h.n3 h.n13 h.s1 h.sn; ⟨a, b⟩
structure LenF (n0 s0 n1 s1 n2 s2 : Nat) : Prop where
  o : ∀ t, (ordL (rg t n0) (rg t n1) (rg t n2)).length = 5 + n0 + 2 * n1 + n2
  s : (stpL (rwN n0 s0) (rwN n1 s1) (rwN n2 s2)).length = 4 + per n0 s0 + 2 * per n1 s1 + per n2 s2
  le : 4 + per n0 s0 + 2 * per n1 s1 + per n2 s2 ≤ 5 + n0 + 2 * n1 + n2
  T1 : 20 ≤ 5 + n0 + 2 * n1 + n2 + (4 + per n0 s0 + 2 * per n1 s1 + per n2 s2)
  T2 : 5 + n0 + 2 * n1 + n2 + (4 + per n0 s0 + 2 * per n1 s1 + per n2 s2) ≤ 113
theorem lenF (h0 : Sh n0 s0) (h1 : Sh n1 s1) (h2 : Sh n2 s2) : LenF n0 s0 n1 s1 n2 s2 := by
  have a0 := per_bd h0; have a1 := per_bd h1; have a2 := per_bd h2
  have b0 := h0.n3; have b1 := h1.n3; have b2 := h2.n3
  have c0 := h0.n13; have c1 := h1.n13; have c2 := h2.n13
  refine ⟨fun t => ?_, ?_, by lia, by lia, by lia⟩
  · rw [ord_len, rg_len, rg_len, rg_len]
  · rw [stp_len, rw_len, rw_len, rw_len]
theorem cSum_le (h0 : Sh n0 s0) (h1 : Sh n1 s1) (h2 : Sh n2 s2) (t r : Bool) : cSum t r n0 s0 n1 s1 n2 s2 ≤ 1000 := by
  have h := (gml_ahead h0 h1 h2 t r).le.1
  rw [dir_len, (lenF h0 h1 h2).o] at h
  have := (lenF h0 h1 h2).T2
  lia
end
end Mine
end
section
set_option Elab.async false
set_option maxRecDepth 100000
set_option linter.unusedVariables false
set_option maxHeartbeats 400000
namespace Mine
open PySem PySem.W PySem.Calls PyProof.Rows
/-! 02's law: the loop that lays the rings -/
noncomputable def N2 (xs : List Int) (k : Nat) : Int := (pickNums xs (some (k : Int)) none (some 3)).sum + ([40, 75, 100] : List Int).getD k 0
noncomputable abbrev nK (xs : List Int) (k : Nat) : Nat := sz2 (N2 xs k)
noncomputable abbrev sK (xs : List Int) (k : Nat) : Nat := st2 (N2 xs k)
theorem shK (xs : List Int) (k : Nat) : Sh (nK xs k) (sK xs k) := let ⟨a, b, c, d⟩ := dims2 (N2 xs k); ⟨a, b, c, d⟩
noncomputable def ordK (t : Bool) (xs : List Int) (k : Nat) : List Int := [1000, 1000] ++ (List.range k).flatMap fun j => prt j 1 (ci (rg t (nK xs j)))
noncomputable def stpK (xs : List Int) (k : Nat) : List Int := (List.range k).flatMap fun j => prt j 2 (ci (rwN (nK xs j) (sK xs j)))
noncomputable def cntK (c : Nat → Nat → Nat) (xs : List Int) : Nat → Nat
  | 0 => 0
  | k + 1 => cntK c xs k + (1 + k % 2) * c (nK xs k) (sK xs k)
theorem ordK_succ (t : Bool) (xs : List Int) (k : Nat) : ordK t xs (k + 1) = ordK t xs k ++ prt k 1 (ci (rg t (nK xs k))) := by
  unfold ordK
  rw [List.range_succ, List.flatMap_append, ← List.append_assoc]; simp
theorem stpK_succ (xs : List Int) (k : Nat) : stpK xs (k + 1) = stpK xs k ++ prt k 2 (ci (rwN (nK xs k) (sK xs k))) := by
  unfold stpK
  rw [List.range_succ, List.flatMap_append]; simp
theorem ordK_len (t : Bool) (xs : List Int) : ∀ k, (ordK t xs k).length ≤ 2 + 27 * k
  | 0 => by simp [ordK]
  | k + 1 => by
    have ih := ordK_len t xs k
    rw [ordK_succ, List.length_append, prt_len]
    have h1 : (ci (rg t (nK xs k))).length ≤ 13 := by
      have : (ci (rg t (nK xs k))).length = nK xs k := by simp only [ci, List.length_map]; exact rg_len t _
      rw [this]; exact (shK xs k).n13
    have h2 : (1 + k % 2) * (ci (rg t (nK xs k))).length ≤ 2 * 13 := Nat.mul_le_mul (by lia) h1
    lia
theorem stpK_len (xs : List Int) : ∀ k, (stpK xs k).length ≤ 27 * k
  | 0 => by simp [stpK]
  | k + 1 => by
    have ih := stpK_len xs k
    rw [stpK_succ, List.length_append, prt_len]
    have h1 : (ci (rwN (nK xs k) (sK xs k))).length ≤ 13 := by
      have h := shK xs k
      have : (ci (rwN (nK xs k) (sK xs k))).length = per (nK xs k) (sK xs k) := by simp only [ci, List.length_map]; exact rw_len _ _
      rw [this]
      have := per_ok h.n3 h.n13 h.s1 h.sn
      have := h.n13
      lia
    have h2 : (1 + k % 2) * (ci (rwN (nK xs k) (sK xs k))).length ≤ 2 * 13 := Nat.mul_le_mul (by lia) h1
    lia
theorem gn_ring (P : Params) : nsIn (K P) mainGlobals (Str.ofString "_law_ring") = some (some (.ref 260)) := by kernel_rfl
theorem gn_counted (P : Params) : nsIn (K P) mainGlobals (Str.ofString "_law_counted") = some (some (.ref 253)) := by kernel_rfl
theorem gn_part (P : Params) : nsIn (K P) mainGlobals (Str.ofString "_law_part") = some (some (.ref 265)) := by kernel_rfl
theorem gn_told (P : Params) : nsIn (K P) mainGlobals (Str.ofString "_law_told") = some (some (.ref 272)) := by kernel_rfl
theorem gn_SM (P : Params) : nsIn (K P) mainGlobals (Str.ofString "SequenceMatcher") = some (some (.ref 242)) := by kernel_rfl
theorem three_at {k : Nat} (hk : k < 3) : ∀ a b c : Tok, ∃ t, [Value.int 40 a, .int 75 b, .int 100 c][k]? = some (.int (([40, 75, 100] : List Int).getD k 0) t) := by
  match k, hk with
  | 0, _ => exact fun a b c => ⟨a, rfl⟩
  | 1, _ => exact fun a b c => ⟨b, rfl⟩
  | 2, _ => exact fun a b c => ⟨c, rfl⟩
section
variable {w : World} {A : Around} {E : Value → Shared → Prop} {s s' : Shared} {mg mb : Str → Option Value} {G g h : Heap} {gs : Array GenState} {dr : Drawn} {tk : Nat} {os : OsState} {L : Addr} {nm : List Str} {ls : List (Option Value)} {mu : List (Addr × Obj)} {prog : Program}
theorem eqN {a b : Nat} {t u : Tok} {Q : Value → Shared → Prop} (q : Q (.bool (decide (a = b))) ⟨h, gs, dr, tk, os⟩) : wpAny (model prog w) A (compareOp .Eq (.int a t) (.int b u)) Q E ⟨h, gs, dr, tk, os⟩ := PySem.P.eq_int (by
  have e : ((a : Int) == (b : Int)) = decide (a = b) := by
    by_cases h : a = b
    · subst h; simp
    · have h' : (a : Int) ≠ b := by lia
      simp [h, h']
  rw [e]; exact q)
theorem iaddN {a b : Nat} {t u : Tok} {Q : Value → Shared → Prop} (q : ∀ t tk, Q (.int ((a + b : Nat) : Int) t) ⟨h, gs, dr, tk, os⟩) : wpAny (model prog w) A (inplaceOp .Add (.int a t) (.int b u)) Q E ⟨h, gs, dr, tk, os⟩ := iadd_ fun t tk => by have := q t tk; rwa [Int.natCast_add] at this
theorem rng3d {n : Nat} {t u v : Tok} {Q : Value → Shared → Prop} (S : St g L h nm ls mu) (k : ∀ h' r tk, St g L h' nm ls mu → IsRange h' r ((n : Int) - 1) (-1) (-1) t u v → Q (.ref r) ⟨h', gs, dr, tk, os⟩) (hn : n < 1000) (h1 : 1 ≤ n) : wpAny (model prog w) A (call (.type "range") [.int ((n - 1 : Nat) : Int) t, .int (-1) u, .int (-1) v]) Q E ⟨h, gs, dr, tk, os⟩ := by
  rw [show ((n - 1 : Nat) : Int) = (n : Int) - 1 by lia]
  refine call_range_3 (s := ⟨h, gs, dr, tk, os⟩) (by decide) (k _ _ _ ((S.push _).drop (List.sublist_cons_self _ _)) (Heap.get?_push_size _ rfl)) (.inl (PyProof.noPylong_small (by decide)))
theorem ite_int {c : Prop} [Decidable c] {x : Int} {tk0 : Nat} {e1 e2 : Expr} {env : Env} {Q : Value → Shared → Prop} (q : ∀ tk u, Q (.int x u) ⟨h, gs, dr, tk, os⟩) (h1 : c → ∀ Q' : Value → Shared → Prop, (∀ tk u, Q' (.int x u) ⟨h, gs, dr, tk, os⟩) → wpAny (model prog w) A (eval e1 env) Q' E ⟨h, gs, dr, tk0, os⟩)
    (h2 : ¬c → ∀ Q' : Value → Shared → Prop, (∀ tk u, Q' (.int x u) ⟨h, gs, dr, tk, os⟩) → wpAny (model prog w) A (eval e2 env) Q' E ⟨h, gs, dr, tk0, os⟩) :
    if decide c = true then wpAny (model prog w) A (eval e1 env) Q E ⟨h, gs, dr, tk0, os⟩ else wpAny (model prog w) A (eval e2 env) Q E ⟨h, gs, dr, tk0, os⟩ := by
  by_cases hc : c
  · rw [if_pos (by simpa using hc)]; exact h1 hc Q q
  · rw [if_neg (by simpa using hc)]; exact h2 hc Q q
inductive LJ1 (l O Td Sp Cn : Addr) (op : Obj) (L : Nat) (xs : List Int) (k : Nat) (ls : List (Option Value)) (mu : List (Addr × Obj)) : Prop
  | mk (xk xr xq oi no ti nt si np oc a b c q1 q2 q3) (e0 : ls = [some (.ref l), some (.ref O), some (.ref Td), some (.ref Sp), some (.ref Cn), xk, xr, xq, none, none, none, none, none, none, none, none])
    (e1 : mu = (O, lob oi no) :: (Td, lob ti nt) :: (Sp, lob si np) :: (Cn, oc) :: (L + 1, cob q1) :: (L + 1 + 1, cob q2) :: (L + 1 + 1 + 1, cob q3) :: (220, op) :: [])
    (e2 : IntsAre oi (ordK false xs k)) (e3 : IntsAre ti (ordK true xs k)) (e4 : IntsAre si (stpK xs k)) (e5 : IsLo oc [.int (cntK c0' xs k : Nat) a, .int (cntK c1' xs k : Nat) b, .int (cntK c2' xs k : Nat) c]) : LJ1 l O Td Sp Cn op L xs k ls mu
inductive LJc (n st p : Nat) (mu0 : List (Addr × Obj)) (C D : Addr) (i : Nat) (ys : List Value) (ls : List (Option Value)) (mu : List (Addr × Obj)) : Prop
  | mk (x) (e0 : ls = [x]) (e1 : IntsAre ys (((List.range i).filter fun i => i * st % n == n / p).map fun (i : Nat) => (i : Int))) (e2 : mu = mu0) : LJc n st p mu0 C D i ys ls mu
theorem law_loop {l O Td Sp Cn : Addr} {op : Obj} {items : List Value} {xs : List Int} {a b c a1 a2 a3 a4 : Tok} {n1 n2 n3 : Nat} {q1 q2 q3 : Option Value} {Q : Flow → Shared → Prop} (D : Gd (K w.params) mg mb g) (hA : A.handled = none) (hdep : A.depth + 10 < recursionLimit) (hgs : AllBare gs)
    (hl : g.IsList l items.toArray) (hi : IntsAre items xs) (hlen : items.length ≤ 63)
    (S : St g L h nm_law [some (.ref l), some (.ref O), some (.ref Td), some (.ref Sp), some (.ref Cn), none, none, none, none, none, none, none, none, none, none, none]
      ((O, lob [.int 1000 a1, .int 1000 a2] n1) :: (Td, lob [.int 1000 a3, .int 1000 a4] n2) :: (Sp, lob [] n3) :: (Cn, lob [.int 0 a, .int 0 b, .int 0 c] 0) :: (L + 1, cob q1) :: (L + 1 + 1, cob q2) :: (L + 1 + 1 + 1, cob q3) :: (220, op) :: []))
    (k : ∀ h' gs' tk' ls mu, LJ1 l O Td Sp Cn op L xs 3 ls mu → AllBare gs' → St g L h' nm_law ls mu → Q .next ⟨h', gs', dr, tk', os⟩) :
    wpAny (model Mine.prog w) A (exec (bd_law.getD 2 (.Pass ⟨0, 0, 0, 0⟩)) (e_law L)) Q E ⟨h, gs, dr, tk, os⟩ := by
  refine wpAny_For (Call_ (lbE S D (ge_law_range L) (bn_range _) (cT1 (arg_ (cInt fun k1 t1 => arg0 ?_)))))
  refine forR1E (n := 3) (LJ1 l O Td Sp Cn op L xs) S hA hgs (by decide) ?_ ?_ ⟨none, none, none, _, _, _, _, _, _, _, _, _, _, _, _, _, rfl, rfl, .cons _ _ (.cons _ _ .nil), .cons _ _ (.cons _ _ .nil), .nil, isLo_lob _ _⟩
  · rintro k tk2 _ _ own h2 gs2 tk2' hk ⟨xk, xr, xq, oi, no, ti, nt, si, np, oc, ca, cb, cc, q1, q2, q3, rfl, rfl, hoi, hti, hsi, hoc⟩ hg2 S2 T hT
    have sh := shK xs k
    have hsh := sh.ring
    obtain ⟨p1, p2, p3⟩ := per_ok sh.n3 sh.n13 sh.s1 sh.sn
    have hn13 := sh.n13
    have hn3 := sh.n3
    have bo := ordK_len false xs k
    have bt := ordK_len true xs k
    have bs := stpK_len xs k
    refine assign_Name (stE S2 (ve_law_k L) (Nat.le_of_ble_eq_true rfl) fun h3 t3 S3 => ?_)
    -- size, step, row
    refine wpAny_execs_cons (Assign_Tuple (hw := by kernel_rfl) (Call_ (lgE S3 D (ge_law__law_ring L) (gn_ring _) (cFnC (fn_ring w.params) (arg_ (wpAny_BinOp (Call_ (lbE S3 D (ge_law_sum L) (bn_sum _) (cB (arg_ (sub3 (ldE S3 (ve_law_script L) rfl (pt1 (ldE S3 (ve_law_k L) rfl (pt0 (cInt fun k4 t4 => getSl S3 (hl.at fun o e => S3.old e) (.int k _) .none (.int 3 k4) (by simp) (by lia) fun h5 D5 S5 => ?_))))))))))))))))
    have hi5 := hi.pick (some (k : Int)) none (some 3)
    refine arg0 (sumL hA S5 (lob_list (S5.get (j := 0) rfl)) hi5 fun h6 t6 k6 S6 => ?_)
    have S7 := S6.drop (List.sublist_cons_self _ _)
    refine Subscript_ (wpAny_List (arg_ (cInt fun k8 t8 => arg_ (cInt fun k9 t9 => arg_ (cInt fun k10 t10 => arg0 ⟨Nat.le_of_ble_eq_true rfl, ?_⟩)))))
    have S8 := S7.push (lob [.int 40 k8, .int 75 k9, .int 100 k10] 0)
    obtain ⟨k11, hv11⟩ := three_at hk k8 k9 k10
    refine ldE S8 (ve_law_k L) rfl (itemN (S8.get (j := 0) rfl) hv11 (Nat.le_of_ble_eq_true rfl) (add_ fun k12 t12 => arg0 ⟨D.k.keeps S8.F.keep, ?_⟩))
    have S9 := S8.drop (List.sublist_cons_self _ _)
    refine callS (ring_spec (N := N2 xs k) (D.keeps S9.F.keep) hA (by lia) hg2) fun v h10 gs10 t10 M10 hv => ?_
    obtain ⟨T1, R, ri, rz, u1, u2, rfl, hri, F10⟩ := hv
    have S10 := (St.grow S9 (S9.call0 (s := ⟨_, gs2, dr, t12, os⟩) (s' := ⟨h10, gs10, dr, t10, os⟩) M10) rfl (fun p hp => ⟨F10.here p hp, F10.not p hp⟩) F10.nd).perm List.perm_append_comm
    have hg10 := M10.gens hg2
    refine unT3 S10 hA (S10.get (j := 0) rfl) fun h11 S11 => ?_
    have S12 := S11.drop (List.sublist_cons_self _ _)
    refine assign_Name (stC_ (j := 5) S12 (ce_law_size L) rfl fun h13 S13 => ?_)
    refine assign_Name (stC_ (j := 6) S13 (ce_law_step L) rfl fun h14 S14 => ?_)
    refine assign_Name (stE S14 (ve_law_row L) (Nat.le_of_ble_eq_true rfl) fun h15 t15 S15 => ?_)
    simp only [nK, sK] at sh hsh p1 p2 p3 hn13 hn3
    generalize hn : sz2 (N2 xs k) = n at *
    generalize hst : st2 (N2 xs k) = st at *
    have hrl : ri.length = per n st := by rw [hri.length, row2_len]
    -- n
    refine wpAny_execs_cons (asgE (Call_ (lbE S15 D (ge_law_len L) (bn_len _) (cB (arg_ (ldE S15 (ve_law_row L) rfl (arg0 (lenN (S15.get (j := 0) rfl) (by lia) fun k16 t16 => ?_))))))))
    rw [hrl]
    generalize hp : per n st = p at *
    refine stC_ (j := 7) S15 (ce_law_n L) rfl fun h17 S17 => ?_
    -- s
    refine wpAny_execs_cons (asgE (Subscript_ (lc_ (sf_law_c1 L) (Call_ (lbE S17 D (ge_law_range L) (bn_range _) (cT1 (arg_ (ldC_ (j := 7) S17 (ce_law_n L) rfl (arg0 (rng1 S17 fun h18 r18 a18 b18 t18 S18 hr18 => ?_))))))))))
    refine compRV (n := p) nm_law_c1 (LJc n st p ((R, lob ri rz) :: (O, lob oi no) :: (Td, lob ti nt) :: (Sp, lob si np) :: (Cn, oc) :: (L + 1, cob (some (.int (n : Nat) u1))) :: (L + 1 + 1, cob (some (.int (st : Nat) u2))) :: (L + 1 + 1 + 1, cob (some (.int (p : Nat) k16))) :: (220, op) :: own)) S18 hA hg10 hr18 (by split <;> lia) (by decide) (by lia) (by lia) ?_ ?_ ?_
    · rintro g' C D0 hsub i v ys m0 ls mu own2 h19 gs19 tk19 hi19 ⟨t19, rfl⟩ ⟨x, rfl, hI, rfl⟩ hl19 hg19 S19 T1 T0 h1 h0
      rw [show (0 : Int) + (i : Int) * 1 = (i : Int) by lia]
      refine assign_Name (stE S19 (ve_law_c1_place L C) (Nat.le_of_ble_eq_true rfl) fun h20 t20 S20 => ?_)
      refine tst1 (wpAny_isTrue_Compare1 (wpAny_BinOp (wpAny_BinOp (ldE S20 (ve_law_c1_place L C) rfl (ldC_ (j := 7) S20 (ce_law_c1_step L C) rfl (mulN (by lia) fun k21 t21 => ldC_ (j := 6) S20 (ce_law_c1_size L C) rfl (modN (by lia) fun k22 t22 => wpAny_BinOp (ldC_ (j := 6) S20 (ce_law_c1_size L C) rfl (ldC_ (j := 8) S20 (ce_law_c1_n L C) rfl (fdivN (by lia) (by lia) fun k23 t23 => eqN (wpAny_truthy_bool ?_)))))))))))
      have esn : (List.range (i + 1)).filter (fun i => i * st % n == n / p) = (List.range i).filter (fun i => i * st % n == n / p) ++ if i * st % n = n / p then [i] else [] := by
        rw [List.range_succ, List.filter_append]
        by_cases c : i * st % n = n / p
        · simp [c]
        · simp [c]
      by_cases c : i * st % n = n / p
      · rw [if_pos (by simpa using c)]
        refine ldE S20 (ve_law_c1_place L C) rfl (h1 _ _ ⟨_, _, h20, gs19, _, rfl, hg19, S20, _, rfl, ?_, rfl⟩)
        rw [esn, if_pos c, List.map_append]
        exact hI.append (.cons _ _ .nil)
      · rw [if_neg (by simpa using c)]
        refine h0 _ ⟨_, _, h20, gs19, _, rfl, hg19, S20, _, rfl, ?_, rfl⟩
        rw [esn, if_neg c, List.append_nil]
        exact hI
    · rintro C D0 ys m0 lsc mu h19 gs19 tk19 ⟨x, rfl, hI, rfl⟩ hg19 S19
      have einv : (List.range p).filter (fun i => i * st % n == n / p) = invs n st := by rw [← hp]; rfl
      rw [einv] at hI
      have hlen0 : 0 < ((invs n st).map fun (i : Nat) => (i : Int)).length := by
        have := hsh.ne
        rw [List.length_map]
        cases h : invs n st with
        | nil => rw [h] at this; simp at this
        | cons a r => simp
      obtain ⟨tq, hq⟩ := intAt hI hlen0
      have eq0 : ((invs n st).map fun (i : Nat) => (i : Int)).getD 0 0 = ((inv2 n st : Nat) : Int) := by
        unfold inv2
        cases h : invs n st with
        | nil => rw [h] at hlen0; simp at hlen0
        | cons a r => simp
      rw [eq0] at hq
      have hyl : ys.length ≤ 10000 := by
        rw [hI.length, List.length_map]
        have : (invs n st).length ≤ p := by rw [← einv]; exact Nat.le_trans (List.length_filter_le _ _) (by simp)
        lia
      refine cInt fun k20 t20 => itemN (k := 0) (S19.get (j := 0) rfl) hq hyl ?_
      have S20 := S19.drop (List.sublist_cons_self _ _)
      refine stE S20 (ve_law_s L) (Nat.le_of_ble_eq_true rfl) fun h21 t21 S21 => ?_
      have i1 := hsh.i1
      have ip := hsh.ip
      rw [hp] at ip
      have hc0 : c0' n st = 2 + euc (inv2 n st + (p - inv2 n st)) (inv2 n st) (p - inv2 n st) := by
        unfold c0'
        rw [hp, euc_eq, show inv2 n st + (p - inv2 n st) = p by lia]
      have hc1 : c1' n st = 2 + euc (p - inv2 n st + inv2 n st) (p - inv2 n st) (inv2 n st) - 1 := by
        unfold c1'
        rw [hp, euc_eq, show p - inv2 n st + inv2 n st = p by lia]
        lia
      have hc2 : c2' n st = if st = n - 1 then p - 1 else 1 := by unfold c2'; rw [hp]
      generalize hq2 : inv2 n st = v2 at *
      -- counts[0]
      refine wpAny_execs_cons (wpAny_AugAssign_SubscriptAny (ldE S21 (ve_law_counts L) rfl (cInt fun k22 t22 => getI_ (k := 0) (S21.get (j := 4) rfl) hoc rfl (Nat.le_of_ble_eq_true rfl) (wpAny_BinOp (wpAny_BinOp (cInt fun k23 t23 => wpAny_BinOp (ldE S21 (ve_law_k L) rfl (cInt fun k24 t24 => modN (b := 2) (by decide) fun k25 t25 => addN (a := 1) fun k26 t26 => Call_ (lgE S21 D (ge_law__law_counted L) (gn_counted _) (cFnC (fn_counted w.params) (arg_ (ldE S21 (ve_law_s L) rfl (arg_ (wpAny_BinOp (ldC_ (j := 7) S21 (ce_law_n L) rfl (ldE S21 (ve_law_s L) rfl (subN (by lia) fun k27 t27 => arg0 ⟨D.k.keeps S21.F.keep, ?_⟩)))))))))))))))))
      refine callS (counted_spec (D.keeps S21.F.keep) hA (by lia) hg19 (by lia) (by lia)) fun v h28 gs28 t28 M28 hv => ?_
      obtain ⟨k28, rfl⟩ := hv
      have S28 := S21.call0 (s := ⟨h21, gs19, dr, t27, os⟩) (s' := ⟨h28, gs28, dr, t28, os⟩) M28
      have hg28 := M28.gens hg19
      rw [← hc0]
      refine mulN (by lia) fun k29 t29 => iaddN fun k30 t30 => setI_ (j := 4) (k := 0) S28 rfl hoc (Nat.le_of_ble_eq_true rfl) (Nat.le_of_ble_eq_true rfl) fun h31 oc31 ho31 S31 => ?_
      -- counts[1]
      refine wpAny_execs_cons (wpAny_AugAssign_SubscriptAny (ldE S31 (ve_law_counts L) rfl (cInt fun k32 t32 => getI_ (k := 1) (S31.get (j := 4) rfl) ho31 rfl (Nat.le_of_ble_eq_true rfl) (wpAny_BinOp (wpAny_BinOp (cInt fun k33 t33 => wpAny_BinOp (ldE S31 (ve_law_k L) rfl (cInt fun k34 t34 => modN (b := 2) (by decide) fun k35 t35 => addN (a := 1) fun k36 t36 => wpAny_BinOp (Call_ (lgE S31 D (ge_law__law_counted L) (gn_counted _) (cFnC (fn_counted w.params) (arg_ (wpAny_BinOp (ldC_ (j := 7) S31 (ce_law_n L) rfl (ldE S31 (ve_law_s L) rfl (subN (by lia) fun k37 t37 => arg_ (ldE S31 (ve_law_s L) rfl (arg0 ⟨D.k.keeps S31.F.keep, ?_⟩))))))))))))))))))
      refine callS (counted_spec (D.keeps S31.F.keep) hA (by lia) hg28 (by lia) (by lia)) fun v h38 gs38 t38 M38 hv => ?_
      obtain ⟨k38, rfl⟩ := hv
      have S38 := S31.call0 (s := ⟨h31, gs28, dr, t37, os⟩) (s' := ⟨h38, gs38, dr, t38, os⟩) M38
      have hg38 := M38.gens hg28
      refine cInt fun k39 t39 => subN1 (by lia) fun k40 t40 => ?_
      rw [← hc1]
      refine mulN (by lia) fun k41 t41 => iaddN fun k42 t42 => setI_ (j := 4) (k := 1) S38 rfl ho31 (Nat.le_of_ble_eq_true rfl) (Nat.le_of_ble_eq_true rfl) fun h43 oc43 ho43 S43 => ?_
      -- counts[2]
      refine wpAny_execs_cons (wpAny_AugAssign_SubscriptAny (ldE S43 (ve_law_counts L) rfl (cInt fun k44 t44 => getI_ (k := 2) (S43.get (j := 4) rfl) ho43 rfl (Nat.le_of_ble_eq_true rfl) (wpAny_BinOp (wpAny_BinOp (cInt fun k45 t45 => wpAny_BinOp (ldE S43 (ve_law_k L) rfl (cInt fun k46 t46 => modN (b := 2) (by decide) fun k47 t47 => addN (a := 1) fun k48 t48 => IfExp_ (wpAny_isTrue_Compare1 (ldC_ (j := 6) S43 (ce_law_step L) rfl (wpAny_BinOp (ldC_ (j := 5) S43 (ce_law_size L) rfl (cInt fun k49 t49 => subN1 (by lia) fun k50 t50 => eqN (wpAny_truthy_bool ?_))))))))))))))
      refine ite_int (x := ((c2' n st : Nat) : Int)) (fun tk51 k51 => mulN (by lia) fun k52 t52 => iaddN fun k53 t53 => setI_ (j := 4) (k := 2) S43 rfl ho43 (Nat.le_of_ble_eq_true rfl) (Nat.le_of_ble_eq_true rfl) fun h54 oc54 ho54 S54 => ?_) ?_ ?_
      · have lo := hoi.length
        have lt := hti.length
        have lsi := hsi.length
        have pl : ∀ {f : Nat} {l : List Int} {pi : List Value}, IntsAre pi (prt k f l) → l.length ≤ 13 → pi.length ≤ 100 ∧ pi ≠ [] := fun {f l pi} h hl => by
          have h1 := h.length
          rw [prt_len] at h1
          have h2 : (1 + k % 2) * l.length ≤ 2 * 13 := Nat.mul_le_mul (by lia) hl
          exact ⟨by lia, fun z => by rw [z] at h1; simp at h1; lia⟩
        have rl : ∀ t, (ci (rg t n)).length ≤ 13 := fun t => by simp only [ci, List.length_map]; rw [rg_len]; exact hn13
        have wl : (ci (rwN n st)).length ≤ 13 := by simp only [ci, List.length_map]; rw [rw_len, hp]; lia
        -- order.extend
        refine wpAny_execs_cons (wpAny_Expr (MethodCall_ (ldE S54 (ve_law_order L) rfl (mL PySem.F.slot_list_extend PySem.F.type_list_extend (S54.get (j := 1) rfl) (callWith_method1 (arg_ (Call_ (lgE S54 D (ge_law__law_part L) (gn_part _) (cFnC (fn_part w.params) (arg_ (ldE S54 (ve_law_k L) rfl (arg_ (cInt fun k55 t55 => arg_ (Call_ (lbE S54 D (ge_law_range L) (bn_range _) (cT1 (arg_ (ldC_ (j := 5) S54 (ce_law_size L) rfl (arg0 (rng1 S54 fun h56 r56 a56 b56 t56 S56 hr56 => arg0 ⟨D.k.keeps S56.F.keep, ?_⟩))))))))))))))))))))
        refine callS (part_spec (k := k) (f := 1) (xs := ci (rg false n)) (D.keeps S56.F.keep) hA (by lia) hg38 (overs_up (n := n) (hideAll_get _ hr56 (fun h => nomatch h)) (by lia) rfl) (rl false) hk) fun v h57 gs57 t57 M57 hv => ?_
        obtain ⟨R2, pi2, pz2, rfl, hpi2, F57⟩ := hv
        have S57 := (St.grow S56 (S56.call0 (s := ⟨h56, gs38, dr, t56, os⟩) (s' := ⟨h57, gs57, dr, t57, os⟩) M57) rfl (fun p hp => ⟨F57.here p hp, F57.not p hp⟩) F57.nd).perm List.perm_append_comm
        have hg57 := M57.gens hg38
        refine arg0 (extend_ (j := 2) S57 rfl (S57.get (j := 0) rfl) (by lia) (by have := (pl hpi2 (rl false)).1; lia) (pl hpi2 (rl false)).2 fun h58 S58 => ?_)
        have S59 := S58.drop (List.sublist_cons_self _ _)
        -- turned.extend
        refine wpAny_execs_cons (wpAny_Expr (MethodCall_ (ldE S59 (ve_law_turned L) rfl (mL PySem.F.slot_list_extend PySem.F.type_list_extend (S59.get (j := 2) rfl) (callWith_method1 (arg_ (Call_ (lgE S59 D (ge_law__law_part L) (gn_part _) (cFnC (fn_part w.params) (arg_ (ldE S59 (ve_law_k L) rfl (arg_ (cInt fun k60 t60 => arg_ (Call_ (lbE S59 D (ge_law_range L) (bn_range _) (cT1 (arg_ (wpAny_BinOp (ldC_ (j := 5) S59 (ce_law_size L) rfl (cInt fun k61 t61 => subN1 (by lia) fun k62 t62 => arg_ (Neg1_ (cInt fun k63 t63 => neg_ fun k64 t64 => arg_ (Neg1_ (cInt fun k65 t65 => neg_ fun k66 t66 => arg0 (rng3d (n := n) S59 (fun h67 r67 t67 S67 hr67 => arg0 ⟨D.k.keeps S67.F.keep, ?_⟩) (by lia) (by lia))))))))))))))))))))))))))
        refine callS (part_spec (k := k) (f := 1) (xs := ci (rg true n)) (D.keeps S67.F.keep) hA (by lia) hg57 (overs_down (n := n) (hideAll_get _ hr67 (fun h => nomatch h)) (by lia) (by show ci (rgN n).reverse = _; simp [ci, rgN])) (rl true) hk) fun v h68 gs68 t68 M68 hv => ?_
        obtain ⟨R3, pi3, pz3, rfl, hpi3, F68⟩ := hv
        have S68 := (St.grow S67 (S67.call0 (s := ⟨h67, gs57, dr, t67, os⟩) (s' := ⟨h68, gs68, dr, t68, os⟩) M68) rfl (fun p hp => ⟨F68.here p hp, F68.not p hp⟩) F68.nd).perm List.perm_append_comm
        have hg68 := M68.gens hg57
        refine arg0 (extend_ (j := 3) S68 rfl (S68.get (j := 0) rfl) (by lia) (by have := (pl hpi3 (rl true)).1; lia) (pl hpi3 (rl true)).2 fun h69 S69 => ?_)
        have S70 := S69.drop (List.sublist_cons_self _ _)
        -- steps.extend
        refine wpAny_execs_cons (wpAny_Expr (MethodCall_ (ldE S70 (ve_law_steps L) rfl (mL PySem.F.slot_list_extend PySem.F.type_list_extend (S70.get (j := 3) rfl) (callWith_method1 (arg_ (Call_ (lgE S70 D (ge_law__law_part L) (gn_part _) (cFnC (fn_part w.params) (arg_ (ldE S70 (ve_law_k L) rfl (arg_ (cInt fun k71 t71 => arg_ (ldE S70 (ve_law_row L) rfl (arg0 ⟨D.k.keeps S70.F.keep, ?_⟩)))))))))))))))
        have erow : row2 n st p = ci (rwN n st) := by rw [← hp]; simp [row2, ci, rwN, List.map_map]
        rw [erow] at hri
        refine callS (part_spec (k := k) (f := 2) (xs := ci (rwN n st)) (D.keeps S70.F.keep) hA (by lia) hg68 (overs_list (hideAll_get _ (S70.get (j := 0) rfl) (fun h => nomatch h)) hri) wl hk) fun v h72 gs72 t72 M72 hv => ?_
        obtain ⟨R4, pi4, pz4, rfl, hpi4, F72⟩ := hv
        have S72 := (St.grow S70 (S70.call0 (s := ⟨h69, gs68, dr, t71, os⟩) (s' := ⟨h72, gs72, dr, t72, os⟩) M72) rfl (fun p hp => ⟨F72.here p hp, F72.not p hp⟩) F72.nd).perm List.perm_append_comm
        have hg72 := M72.gens hg68
        refine arg0 (extend_ (j := 4) S72 rfl (S72.get (j := 0) rfl) (by lia) (by have := (pl hpi4 wl).1; lia) (pl hpi4 wl).2 fun h73 S73 => ?_)
        have S74 := (S73.drop (List.sublist_cons_self _ _)).drop (List.sublist_cons_self _ _)
        refine wpAny_execs_nil (TN hT (mu := (O, lob (oi ++ pi2) (no + 1)) :: (Td, lob (ti ++ pi3) (nt + 1)) :: (Sp, lob (si ++ pi4) (np + 1)) :: (Cn, oc54) :: (L + 1, cob (some (.int (n : Nat) u1))) :: (L + 1 + 1, cob (some (.int (st : Nat) u2))) :: (L + 1 + 1 + 1, cob (some (.int (p : Nat) k16))) :: (220, op) :: []) S74 hg72 ⟨_, _, _, _, _, _, _, _, _, _, k30, k42, k53, _, _, _, rfl, rfl, ?_, ?_, ?_, ?_⟩)
        · rw [ordK_succ]
          show IntsAre _ (_ ++ prt k 1 (ci (rg false (sz2 (N2 xs k)))))
          rw [hn]; exact hoi.append hpi2
        · rw [ordK_succ]
          show IntsAre _ (_ ++ prt k 1 (ci (rg true (sz2 (N2 xs k)))))
          rw [hn]; exact hti.append hpi3
        · rw [stpK_succ]
          show IntsAre _ (_ ++ prt k 2 (ci (rwN (sz2 (N2 xs k)) (st2 (N2 xs k)))))
          rw [hn, hst]; exact hsi.append hpi4
        · have e : ∀ c, cntK c xs (k + 1) = cntK c xs k + (1 + k % 2) * c n st := fun c => by
            show _ + (1 + k % 2) * c (sz2 (N2 xs k)) (st2 (N2 xs k)) = _
            rw [hn, hst]
          rw [e, e, e]
          exact ho54
      · intro hc Q' q'
        refine wpAny_BinOp (ldC_ (j := 7) S43 (ce_law_n L) rfl (cInt fun k55 t55 => subN1 (by lia) fun k56 t56 => ?_))
        rw [hc2, if_pos hc] at q'
        exact q' _ _
      · intro hc Q' q'
        rw [hc2, if_neg hc] at q'
        exact cInt fun k55 t55 => q' _ _
    · intro C D0
      exact ⟨none, rfl, by simpa using IntsAre.nil, by kernel_rfl⟩
  · rintro ls mu h2 gs2 tk2 hJ hg2 S2
    exact k h2 gs2 tk2 ls mu hJ hg2 S2
end
end Mine
end
section
set_option Elab.async false
set_option maxRecDepth 100000
set_option linter.unusedVariables false
set_option maxHeartbeats 400000
namespace Mine
open PySem PySem.W PySem.Calls PyProof.Rows
section
variable {w : World} {A : Around} {E : Value → Shared → Prop} {s s' : Shared} {mg mb : Str → Option Value} {G g h : Heap} {gs : Array GenState} {dr : Drawn} {tk : Nat} {os : OsState} {L : Addr} {nm : List Str} {ls : List (Option Value)} {mu : List (Addr × Obj)} {env : Env}
theorem mulN1 {prog : Program} {a b : Nat} {t u : Tok} {Q : Value → Shared → Prop} (ha : a ≤ 1000000) (q : ∀ t tk, Q (.int ((a * b : Nat) : Int) t) ⟨h, gs, dr, tk + 1, os⟩) : wpAny (model prog w) A (binaryOp .Mult (.int a t) (.int b u)) Q E ⟨h, gs, dr, tk, os⟩ :=
  mul_int (by have := q tk tk; rw [Int.natCast_mul] at this; exact this) (mulOk ha)
theorem divN1_ {prog : Program} {a b : Nat} {t u : Tok} {Q : Value → Shared → Prop} (hA : A.handled = none) (ha : a ≤ 1000000) (hb : 0 < b) (q : ∀ tk', Q (.float (Float64.ofFrac false a b) (tk + 1)) ⟨h, gs, dr, tk', os⟩) : wpAny (model prog w) A (binaryOp .Div (.int a t) (.int b u)) Q E ⟨h, gs, dr, tk + 1, os⟩ := by
  refine PySem.Flt.div_ii_fits (s := ⟨h, gs, dr, tk + 1, os⟩) hA ?_ (fun z => absurd z (by lia)) fun _ _ => ?_
  · rw [Int.natAbs_natCast]
    have e : (2 : Nat) ^ 1023 = 2 ^ 20 * 2 ^ 1003 := by rw [← Nat.pow_add]
    have e1 : (1 : Nat) ≤ 2 ^ 1003 := Nat.one_le_two_pow
    have e2 : 2 ^ 20 * 1 ≤ 2 ^ 20 * 2 ^ 1003 := Nat.mul_le_mul_left _ e1
    rw [e]
    lia
  · have e1 : decide ((a : Int) < 0) = false := by simp
    have e2 : decide ((b : Int) < 0) = false := by simp
    rw [e1, e2, Int.natAbs_natCast, Int.natAbs_natCast]
    exact q _
/-- the three shares told are those due -/
theorem ask_ {m d la lb Bd : Addr} {od op : Obj} {R : Rel} {xs ys : List Int} {xm x1 x2 : Str} {im i1 i2 it iT iB jb c1 c2 q mn T nb : Nat} {tv : Int} {ut v1 v2 uT b2 b3 : Tok} {p1 p2 p3 p4 p5 p6 p7 p8 p9 p10 p11 p12 p13 p14 p15 p16 p17 : Pos} {Q : Bool → Shared → Prop} {whole : Sem Value}
    (S : St g L h nm ls ((d, od) :: (220, op) :: mu)) (D : Gd (K w.params) mg mb g) (hA : A.handled = none) (hdep : A.depth + 20 < recursionLimit) (hu : A.units + 40 < cLine) (hgs : AllBare gs) (hRk : ∀ b o, R b o → Kn g mu b o) (hm : R m (inst CM d)) (M : MX w R od (some (la, xs)) (some (lb, ys))) (hct : CodeTab op)
    (Vm : VE env nm xm im) (hvm : ls[im]? = some (some (.ref m))) (Vt : VE env nm (Str.ofString "turn") it) (hvt : ls[it]? = some (some (.int tv ut))) (V1 : VE env nm x1 i1) (hv1 : ls[i1]? = some (some (.int (c1 : Nat) v1))) (V2 : VE env nm x2 i2) (hv2 : ls[i2]? = some (some (.int (c2 : Nat) v2)))
    (VT : VE env nm (Str.ofString "total") iT) (hvT : ls[iT]? = some (some (.int (T : Nat) uT))) (VB : VE env nm (Str.ofString "bounds") iB) (hvB : ls[iB]? = some (some (.ref Bd))) (hb : mu[jb]? = some (Bd, lob [.float (Float64.ofFrac false (2 * q) T) (b2 + 1), .float (Float64.ofFrac false (2 * mn) T) (b3 + 1)] nb)) (Vg : GE env (Str.ofString "_law_told")) (hL : env.locals = L)
    (hT : xs.length + ys.length = T) (htot : ∀ tot, GM xs ys 0 xs.length 0 ys.length tot → tot = if tv = 1 then c1 else c2) (hq : qm xs (fun k => cnt k ys) = q) (hmn : min xs.length ys.length = mn) (hT1 : 20 ≤ T) (hT2 : T ≤ 113) (hq2 : 2 * q ≤ T) (hc1 : c1 ≤ 1000) (hc2 : c2 ≤ 1000)
    (k : ∀ h' gs' tk' od' op' new, AllBare gs' → CodeTab op' → St g L h' nm ls ((d, od') :: (220, op') :: (mu ++ new)) → MX w (R.and new) od' (some (la, xs)) (some (lb, ys)) → Q false ⟨h', gs', dr, tk', os⟩) :
    wpAny (model Mine.prog w) A (isTrue (.Compare (.Call (.Name (Str.ofString "_law_told") p1) [.Name xm p2] [] p3) [.NotEq] [.BinOp (.List [.BinOp (.BinOp (.Constant (.int 2) 0 p4) .Mult (.IfExp (.Compare (.Name (Str.ofString "turn") p5) [.Eq] [.Constant (.int 1) 0 p6] p7) (.Name x1 p8) (.Name x2 p9) p10) p11) .Div (.Name (Str.ofString "total") p12) p13] p14) .Add (.Name (Str.ofString "bounds") p15) p16] p17) env whole) Q E ⟨h, gs, dr, tk, os⟩ := by
  have hdT : d ≠ 220 := fun z => (List.nodup_cons.mp S.nd).1 (List.mem_cons.mpr (.inl z))
  refine wpAny_isTrue_Compare1 (Call_ (lgE S D Vg (gn_told _) (cFnC (fn_told w.params) (arg_ (ldE S Vm hvm (arg0 ⟨D.k.keeps S.F.keep, ?_⟩) hL)))))
  refine callS (told_spec (G := g) D S.F.keep (S.N _ (.head _)).2.2 (S.N _ (.tail _ (.head _))).2.2 hdT hA (by lia) (by lia) hgs (S.get (j := 0) rfl) (S.get (j := 1) rfl) hct (fun b o kn => kn_off S b o (hRk b o kn)) hm M (by lia) (by lia)) fun v h2 gs2 t2 M2 hv => ?_
  obtain ⟨T1, a1, a2, a3, tot, od2, op2, new, rfl, hGM, ho2, hop2, hct2, F2, M3⟩ := hv
  have hle := hGM.le
  have htt := htot tot hGM
  have S2 : St g L h2 nm ls ((d, od2) :: (220, op2) :: (mu ++ ((T1, lob (toldL xs ys tot a1 a2 a3) 0) :: new))) := S.call2 (s := ⟨h, gs, dr, tk, os⟩) (s' := ⟨h2, gs2, dr, t2, os⟩) M2 ho2 hop2 F2
  have hg2 := M2.gens hgs
  have hT1' : h2.get? T1 = some (lob (toldL xs ys tot a1 a2 a3) 0) := (S2.N (T1, lob (toldL xs ys tot a1 a2 a3) 0) (.tail _ (.tail _ (List.mem_append_right _ (.head _))))).1
  refine wpAny_BinOp (List_ (arg_ (wpAny_BinOp (wpAny_BinOp (cInt fun k4 t4 => IfExp_ (wpAny_isTrue_Compare1 (ldE S2 Vt hvt (cInt fun k5 t5 => PySem.P.eq_int (wpAny_truthy_bool ?_)) hL)))))))
  rw [show (tv == (1 : Int)) = decide (tv = 1) from rfl]
  refine ite_int (x := ((tot : Nat) : Int)) (fun tk6 u6 => mulN1 (a := 2) (b := tot) (by decide) fun t7 tk7 => ldE S2 VT hvT (divN1_ (a := 2 * tot) (b := T) hA (by lia) (by lia) fun tk8 => ?_) hL) (fun hc Q' q' => ldE S2 V1 hv1 (by rw [htt, if_pos hc] at q'; exact q' _ _) hL) (fun hc Q' q' => ldE S2 V2 hv2 (by rw [htt, if_neg hc] at q'; exact q' _ _) hL)
  refine arg0 (newL S2 (by simp) fun h9 S9 => ldE S9 VB hvB ?_ hL)
  have hb9 : ((h2.objs.size, (lob [.float (Float64.ofFrac false (2 * tot) T) (tk7 + 1)] 0 : Obj)) :: (d, od2) :: (220, op2) :: (mu ++ ((T1, lob (toldL xs ys tot a1 a2 a3) 0) :: new)))[jb + 3]? = some (Bd, lob [.float (Float64.ofFrac false (2 * q) T) (b2 + 1), .float (Float64.ofFrac false (2 * mn) T) (b3 + 1)] nb) := by
    show (mu ++ _)[jb]? = _
    rw [List.getElem?_append_left (lt_of_get hb)]; exact hb
  refine addL S9 (S9.get (j := 0) rfl) (S9.get (j := jb + 3) hb9) (by simp) (by simp) fun h10 S10 => ?_
  have hT10 := (S10.N (T1, lob (toldL xs ys tot a1 a2 a3) 0) (.tail _ (.tail _ (.tail _ (.tail _ (List.mem_append_right _ (.head _))))))).1
  have eT : ((xs.length : Int) + (ys.length : Int)) = ((T : Nat) : Int) := by lia
  have eM : (min (xs.length : Int) (ys.length : Int)) = ((mn : Nat) : Int) := by lia
  refine neFloats (D.k.keeps S10.F.keep) hT10 (S10.get (j := 0) rfl) (by lia) ?_ ?_ ?_ (wpAny_truthy_bool ?_)
  · rw [eT]; exact rf_ok hT1 hT2 (by lia)
  · rw [eT, hq]; exact rf_ok hT1 hT2 hq2
  · rw [eT, eM]; exact rf_ok hT1 hT2 (by lia)
  · have S11 := (S10.drop (List.sublist_cons_self _ _)).drop (List.sublist_cons_self _ _)
    exact k _ _ _ od2 op2 ((T1, lob (toldL xs ys tot a1 a2 a3) 0) :: new) hg2 hct2 S11 (M3.mono fun b o kn => kn.imp id fun mm => .tail _ mm)
end
end Mine
end
section
set_option Elab.async false
set_option maxRecDepth 100000
set_option linter.unusedVariables false
namespace Mine
open PySem PySem.W PySem.Calls PyProof.Rows
theorem ints_rev {vs : List Value} {xs : List Int} (h : IntsAre vs xs) : IntsAre vs.reverse xs.reverse := by
  induction h with
  | nil => exact .nil
  | cons n t _ ih => rw [List.reverse_cons, List.reverse_cons]; exact ih.append (.cons _ _ .nil)
/-- the sign of a turn -/
def sgn1 (r : Bool) : Int := if r then -1 else 1
theorem pick_dir {vs : List Value} {xs : List Int} (h : IntsAre vs xs) (r : Bool) : IntsAre (slicePick vs.toArray none none (some (sgn1 r))).toList (dir r xs) := by
  cases r with
  | false =>
    have e : slicePick vs.toArray none none (some (sgn1 false)) = slicePick vs.toArray none none none := rfl
    rw [e, slicePick_all]; exact h
  | true =>
    have e : slicePick vs.toArray none none (some (sgn1 true)) = vs.toArray.toList.reverse.toArray := krv_pick _
    rw [e]
    show IntsAre _ xs.reverse
    simpa using ints_rev h
end Mine
end
section
set_option Elab.async false
set_option maxRecDepth 100000
set_option linter.unusedVariables false
set_option maxHeartbeats 400000
namespace Mine
open PySem PySem.W PySem.Calls PyProof.Rows
theorem p3 {α : Type} {a b c : α} {X : List α} : (a :: b :: c :: X).Perm (c :: b :: a :: X) := ((List.Perm.swap b a _).trans ((List.Perm.swap c a _).cons b)).trans (List.Perm.swap c b _)
theorem p4 {α : Type} {a b c d : α} {X : List α} : (a :: b :: c :: d :: X).Perm (b :: c :: d :: a :: X) := (List.perm_middle (l₁ := [b, c, d]) (l₂ := X)).symm
theorem pNew {α : Type} {a b c : α} {X own new : List α} : (a :: b :: ((c :: (X ++ own)) ++ new)).Perm (a :: b :: c :: ((new ++ X) ++ own)) := by
  rw [List.append_assoc]
  exact ((List.perm_append_comm.cons c).cons b).cons a
theorem kn_front {g : Heap} {Z new : List (Addr × Obj)} : ∀ b o, Rel.and (Kn g Z) new b o → Kn g (new ++ Z) b o := fun _ _ k => k.elim (fun k => k.imp id fun m => List.mem_append_right _ m) fun m => .inr (List.mem_append_left _ m)
theorem kn_more {g : Heap} {Z : List (Addr × Obj)} {p : Addr × Obj} : ∀ b o, Kn g Z b o → Kn g (p :: Z) b o := fun _ _ k => k.imp id fun m => .tail _ m
theorem kn_in {g : Heap} {Z own : List (Addr × Obj)} {p : Addr × Obj} : ∀ b o, Kn g Z b o → Kn g (p :: (Z ++ own)) b o := fun _ _ k => k.imp id fun m => .tail _ (List.mem_append_left _ m)
/-- what the law asks of its lists, read in one direction -/
structure AskF (r : Bool) (od : Bool → List Int) (ys : List Int) (one other : Bool → Nat) (q mn T : Nat) : Prop where
  totA : ∀ t tot, GM (dir r (od t)) ys 0 (dir r (od t)).length 0 ys.length tot → tot = if sgn1 r = 1 then one t else other t
  totB : ∀ t tot, GM ys (dir r (od t)) 0 ys.length 0 (dir r (od t)).length tot → tot = if sgn1 r = 1 then other t else one t
  qA : ∀ t, qm (dir r (od t)) (fun k => cnt k ys) = q
  qB : ∀ t, qm ys (fun k => cnt k (dir r (od t))) = q
  mn : ∀ t, min (dir r (od t)).length ys.length = mn
  len : ∀ t, (dir r (od t)).length + ys.length = T
  T1 : 20 ≤ T
  T2 : T ≤ 113
  q2 : 2 * q ≤ T
  c1 : ∀ t, one t ≤ 1000
  c2 : ∀ t, other t ≤ 1000
section
variable {w : World} {A : Around} {E : Value → Shared → Prop} {s s' : Shared} {mg mb : Str → Option Value} {G g h : Heap} {gs : Array GenState} {dr : Drawn} {tk : Nat} {os : OsState} {L : Addr} {nm : List Str} {ls : List (Option Value)} {mu : List (Addr × Obj)}
inductive PJ (w : World) (g : Heap) (l O Td Sp Cn Bd ma mb' da db lA lB : Addr) (xk xr xq : Option Value) (T : Nat) (uT ut : Tok) (tv : Int) (F2 : List (Addr × Obj)) (ys : List Int) (i : Nat) (ls : List (Option Value)) (mu : List (Addr × Obj)) : Prop
  | mk (x13 x14 x15 oda op odb rest oaA obB) (e0 : ls = [some (.ref l), some (.ref O), some (.ref Td), some (.ref Sp), some (.ref Cn), xk, xr, xq, some (.int (T : Nat) uT), some (.ref Bd), some (.int tv ut), some (.ref ma), some (.ref mb'), x13, x14, x15])
    (e1 : mu = (da, oda) :: (220, op) :: (db, odb) :: (rest ++ F2)) (e2 : CodeTab op) (e3 : MX w (Kn g (rest ++ F2)) oda oaA (some (lA, ys))) (e4 : MX w (Kn g (rest ++ F2)) odb (some (lB, ys)) obB) : PJ w g l O Td Sp Cn Bd ma mb' da db lA lB xk xr xq T uT ut tv F2 ys i ls mu
theorem law_pairs {r : Bool} {l O Td Sp Cn Bd ma mb' da db lA lB : Addr} {oda op odb oc : Obj} {oaA obB : Option (Addr × List Int)} {xk xr xq x13 x14 x15 : Option Value} {T q mn no nt nb : Nat} {uT ut a b c b2 b3 : Tok} {od : Bool → List Int} {one other : Bool → Nat} {ys : List Int} {oi ti : List Value} {F : List (Addr × Obj)} {Q : Flow → Shared → Prop}
    (D : Gd (K w.params) mg mb g) (hA : A.handled = none) (hdep : A.depth + 30 < recursionLimit) (hu : A.units + 60 < cLine) (hgs : AllBare gs) (W : AskF r od ys one other q mn T) (h01 : one false = other false)
    (S : St g L h nm_law [some (.ref l), some (.ref O), some (.ref Td), some (.ref Sp), some (.ref Cn), xk, xr, xq, some (.int (T : Nat) uT), some (.ref Bd), some (.int (sgn1 r) ut), some (.ref ma), some (.ref mb'), x13, x14, x15] ((da, oda) :: (220, op) :: (db, odb) :: F)) (hct : CodeTab op)
    (fO : (O, lob oi no) ∈ F) (fT : (Td, lob ti nt) ∈ F) (fC : (Cn, oc) ∈ F) (fB : (Bd, lob [.float (Float64.ofFrac false (2 * q) T) (b2 + 1), .float (Float64.ofFrac false (2 * mn) T) (b3 + 1)] nb) ∈ F) (fma : (ma, inst CM da) ∈ F) (fmb : (mb', inst CM db) ∈ F)
    (hoi : IntsAre oi (od false)) (hti : IntsAre ti (od true)) (hoc : IsLo oc [.int (one false : Nat) a, .int (one true : Nat) b, .int (other true : Nat) c]) (MA : MX w (Kn g F) oda oaA (some (lA, ys))) (MB : MX w (Kn g F) odb (some (lB, ys)) obB)
    (k : ∀ h' gs' tk' op' x13 x14 x15, AllBare gs' → CodeTab op' → St g L h' nm_law [some (.ref l), some (.ref O), some (.ref Td), some (.ref Sp), some (.ref Cn), xk, xr, xq, some (.int (T : Nat) uT), some (.ref Bd), some (.int (sgn1 r) ut), some (.ref ma), some (.ref mb'), x13, x14, x15] ((220, op') :: F) → Q .next ⟨h', gs', dr, tk', os⟩) :
    wpAny (model Mine.prog w) A (exec ((sb (bd_law.getD 6 (.Pass ⟨0, 0, 0, 0⟩))).getD 2 (.Pass ⟨0, 0, 0, 0⟩)) (e_law L)) Q E ⟨h, gs, dr, tk, os⟩ := by
  have hCn := (S.N _ (.tail _ (.tail _ (.tail _ fC)))).1
  have cI : ∀ {k : Nat} {v : Value} {t : Tok} {value slice : Expr} {Q : Value → Shared → Prop} {gs : Array GenState} {tk : Nat} {h' : Heap}, h'.get? Cn = some oc → [Value.int (one false : Nat) a, .int (one true : Nat) b, .int (other true : Nat) c][k]? = some v → Q v ⟨h', gs, dr, tk, os⟩ → subscripted slice false (.ref Cn) (.int k t) = operate [.ref Cn, .int k t] (getItem (.ref Cn) (.int k t)) → wpAny (model Mine.prog w) A (subscriptTail value slice (.ref Cn) (.int k t)) Q E ⟨h', gs, dr, tk, os⟩ := fun {k v t value slice Q gs tk h'} hc hv q hs => by
    have := lt_of_get hv
    exact itemL (hoc.at hc) (by lia) (by simp at this; lia) (by simpa using hv) q hs
  refine wpAny_For (List_ (arg_ (Tuple_ (arg_ (ldE S (ve_law_order L) rfl (arg_ (Subscript_ (ldE S (ve_law_counts L) rfl (cInt fun k1 t1 => cI (k := 0) hCn rfl (arg_ (Subscript_ (ldE S (ve_law_counts L) rfl (cInt fun k2 t2 => cI (k := 0) hCn rfl (arg0 (newT S (by simp) fun h3 S3 => ?_)) (by with_unfolding_all rfl))))) (by with_unfolding_all rfl))))))))))
  have hCn3 := (S3.N _ (.tail _ (.tail _ (.tail _ (.tail _ fC))))).1
  refine arg_ (Tuple_ (arg_ (ldE S3 (ve_law_turned L) rfl (arg_ (Subscript_ (ldE S3 (ve_law_counts L) rfl (cInt fun k4 t4 => cI (k := 1) hCn3 rfl (arg_ (Subscript_ (ldE S3 (ve_law_counts L) rfl (cInt fun k5 t5 => cI (k := 2) hCn3 rfl (arg0 (newT S3 (by simp) fun h6 S6 => arg0 (newL S6 (by simp) fun h7 S7 => ?_))) (by with_unfolding_all rfl))))) (by with_unfolding_all rfl))))))))
  generalize hP1 : h.objs.size = P1 at S3 S6 S7 ⊢
  generalize hP2 : h3.objs.size = P2 at S6 S7 ⊢
  generalize hLP : h6.objs.size = LP at S7 ⊢
  have S8 : St g L h7 nm_law [some (.ref l), some (.ref O), some (.ref Td), some (.ref Sp), some (.ref Cn), xk, xr, xq, some (.int (T : Nat) uT), some (.ref Bd), some (.int (sgn1 r) ut), some (.ref ma), some (.ref mb'), x13, x14, x15] ((da, oda) :: (220, op) :: (db, odb) :: ([] ++ ((LP, lob [.ref P1, .ref P2] 0) :: (P2, tob [.ref Td, .int (one true : Nat) b, .int (other true : Nat) c]) :: (P1, tob [.ref O, .int (one false : Nat) a, .int (one false : Nat) a]) :: F))) :=
    S7.perm ((List.perm_append_comm (l₁ := [(LP, lob [.ref P1, .ref P2] 0), (P2, tob [.ref Td, .int (one true : Nat) b, .int (other true : Nat) c]), (P1, tob [.ref O, .int (one false : Nat) a, .int (one false : Nat) a])]) (l₂ := [(da, oda), (220, op), (db, odb)])).append_right F)
  generalize hF2 : (LP, lob [.ref P1, .ref P2] 0) :: (P2, tob [.ref Td, .int (one true : Nat) b, .int (other true : Nat) c]) :: (P1, tob [.ref O, .int (one false : Nat) a, .int (one false : Nat) a]) :: F = F2 at S8
  have fF : ∀ p ∈ F, p ∈ F2 := fun p hp => by rw [← hF2]; exact .tail _ (.tail _ (.tail _ hp))
  have fLP : (LP, lob [.ref P1, .ref P2] 0) ∈ F2 := by rw [← hF2]; exact .head _
  have up : ∀ b o, Kn g F b o → Kn g ([] ++ F2) b o := fun b o kn => kn.imp id fun m => fF _ m
  refine forLE (items := [.ref P1, .ref P2]) (PJ w g l O Td Sp Cn Bd ma mb' da db lA lB xk xr xq T uT ut (sgn1 r) F2 ys) S8 hA hgs (lob_list (S8.N _ (.tail _ (.tail _ (.tail _ fLP)))).1) (.inr ⟨_, fun i ls mu hJ => by obtain ⟨_, _, _, _, _, _, rest, _, _, _, rfl, _, _, _⟩ := hJ; exact .tail _ (.tail _ (.tail _ (List.mem_append_right _ fLP)))⟩) ?_ ?_ ⟨x13, x14, x15, oda, op, odb, [], oaA, obB, rfl, rfl, hct, MA.mono up, MB.mono up⟩ (.inr ⟨⟨_, _, _, rfl⟩, fun v hv => by rcases List.mem_cons.mp hv with rfl | hv; exact ⟨_, rfl⟩; rw [List.mem_singleton.mp hv]; exact ⟨_, rfl⟩⟩)
  · rintro i v _ _ own h9 gs9 tk9 hv ⟨y13, y14, y15, oda1, op1, odb1, rest, oaA1, obB1, rfl, rfl, hct1, MA1, MB1⟩ hg9 S9 Tq hTq
    obtain ⟨t, P, X, oX, nX, u1, u2, rfl, hP, hX, hoX⟩ : ∃ (t : Bool) (P X : Addr) (oX : List Value) (nX : Nat) (u1 u2 : Tok), v = .ref P ∧ (P, tob [.ref X, .int (one t : Nat) u1, .int (other t : Nat) u2]) ∈ F2 ∧ (X, lob oX nX) ∈ F2 ∧ IntsAre oX (od t) := by
      match i, hv with
      | 0, hv => exact ⟨false, P1, O, oi, no, a, a, (Option.some.inj hv).symm, by rw [← hF2, ← h01]; exact .tail _ (.tail _ (.head _)), fF _ fO, hoi⟩
      | 1, hv => exact ⟨true, P2, Td, ti, nt, b, c, (Option.some.inj hv).symm, by rw [← hF2]; exact .tail _ (.head _), fF _ fT, hti⟩
    have inF : ∀ {p : Addr × Obj}, p ∈ F2 → p ∈ (da, oda1) :: (220, op1) :: (db, odb1) :: (rest ++ F2) ++ own := fun hp => .tail _ (.tail _ (.tail _ (List.mem_append_left _ (List.mem_append_right _ hp))))
    refine unT3 S9 hA (S9.N _ (inF hP)).1 fun h10 S10 => ?_
    refine assign_Name (stE S10 (ve_law_rings L) (Nat.le_of_ble_eq_true rfl) fun h11 t11 S11 => ?_)
    refine assign_Name (stE S11 (ve_law_one L) (Nat.le_of_ble_eq_true rfl) fun h12 t12 S12 => ?_)
    refine assign_Name (stE S12 (ve_law_other L) (Nat.le_of_ble_eq_true rfl) fun h13 t13 S13 => ?_)
    have hlX := W.len t
    have hoXl : oX.length ≤ 113 := by rw [hoX.length, ← dir_len r]; have := W.T2; lia
    have hsg : some (sgn1 r) ≠ some 0 := by cases r <;> simp [sgn1]
    have S13' : St g L h13 nm_law [some (.ref l), some (.ref O), some (.ref Td), some (.ref Sp), some (.ref Cn), xk, xr, xq, some (.int (T : Nat) uT), some (.ref Bd), some (.int (sgn1 r) ut), some (.ref ma), some (.ref mb'), some (.ref X), some (.int (one t : Nat) u1), some (.int (other t : Nat) u2)] ((da, oda1) :: (220, op1) :: (db, odb1) :: ((rest ++ F2) ++ own)) := S13
    have fm : (ma, inst CM da) ∈ F2 := fF _ fma
    have fm2 : (mb', inst CM db) ∈ F2 := fF _ fmb
    -- ahead.set_seq1
    refine wpAny_execs_cons (wpAny_Expr (MethodCall_ (ldE S13' (ve_law_ahead L) rfl (methM S13' D kn_in (.inr (List.mem_append_right _ fm)) MA1 (me_set1 _) (cMn (fn_set1 _) (arg_ (sub3 (ldE S13' (ve_law_rings L) rfl (pt0 (pt0 (ldE S13' (ve_law_turn L) rfl (getSl S13' (lob_list (S13'.N _ (inF hX)).1) .none .none (.int _ _) hsg (by lia) fun h14 D14 S14 => arg0 ⟨D.k.keeps S14.F.keep, ?_⟩))))))))))))
    have S15 := S14.perm p4
    have hd14 := pick_dir hoX r
    have MA2 : MX w (Kn g ((D14, lob (slicePick oX.toArray none none (some (sgn1 r))).toList 0) :: (rest ++ F2))) oda1 oaA1 (some (lA, ys)) := MA1.mono kn_more
    have MB2 : MX w (Kn g ((D14, lob (slicePick oX.toArray none none (some (sgn1 r))).toList 0) :: (rest ++ F2))) odb1 (some (lB, ys)) obB1 := MB1.mono kn_more
    have hxl : (dir r (od t)).length ≤ 199 := by rw [dir_len, ← hoX.length]; lia
    have hyl : ys.length ≤ 113 := by have := W.T2; lia
    refine callSet1 S15 D hA (by lia) hg9 kn_in (.inr (.tail _ (List.mem_append_right _ fm))) MA2 ⟨_, _, .inr (.head _), hd14⟩ hxl fun h16 gs16 t16 oda2 hg16 S16 MA3 => ?_
    have S17 := S16.perm p3
    -- behind.set_seq2
    have inF2 : ∀ {p q1 q2 q3 q4 : Addr × Obj}, p ∈ F2 → p ∈ q1 :: q2 :: q3 :: q4 :: ((rest ++ F2) ++ own) := fun hp => .tail _ (.tail _ (.tail _ (.tail _ (List.mem_append_left _ (List.mem_append_right _ hp)))))
    refine wpAny_execs_cons (wpAny_Expr (MethodCall_ (ldE S17 (ve_law_behind L) rfl (methM S17 D (kn_in (Z := (D14, lob (slicePick oX.toArray none none (some (sgn1 r))).toList 0) :: (rest ++ F2)) (own := own)) (.inr (.tail _ (List.mem_append_right _ fm2))) MB2 (me_set2 _) (cMn (fn_set2 _) (arg_ (sub3 (ldE S17 (ve_law_rings L) rfl (pt0 (pt0 (ldE S17 (ve_law_turn L) rfl (getSl S17 (lob_list (S17.N _ (inF2 hX)).1) .none .none (.int _ _) hsg (by lia) fun h18 D18 S18 => arg0 ⟨D.k.keeps S18.F.keep, ?_⟩))))))))))))
    have S19 := S18.perm p4
    generalize ho14 : (lob (slicePick oX.toArray none none (some (sgn1 r))).toList 0 : Obj) = o14 at S19 S17 MA2 MB2 MA3 S16 S15
    have hLI : ∀ (Z : List (Addr × Obj)) (x : Addr), (x, o14) ∈ Z → LI (Kn g Z) x (dir r (od t)) := fun Z x hx => ⟨_, _, .inr (ho14 ▸ hx), hd14⟩
    refine callSet2 (mu := (da, oda2) :: (((D18, o14) :: (D14, o14) :: (rest ++ F2)) ++ own)) S19 D hA (by lia) hg16 kn_in (.inr (.tail _ (.tail _ (List.mem_append_right _ fm2)))) (MB2.mono kn_more) (hLI _ D18 (.head _)) hxl fun h20 gs20 t20 odb2 new20 hg20 S20 MB3 => ?_
    have S21 := (S20.perm pNew).perm p3
    have MA4 : MX w (Kn g (new20 ++ ((D18, o14) :: (D14, o14) :: (rest ++ F2)))) oda2 (some (D14, dir r (od t))) (some (lA, ys)) := MA3.mono fun b o kn => kn.imp id fun m => List.mem_append_right _ (.tail _ m)
    have MB4 := MB3.mono kn_front
    generalize hZ : new20 ++ ((D18, o14) :: (D14, o14) :: (rest ++ F2)) = Z at S21 MA4 MB4
    have fZ : ∀ {p : Addr × Obj}, p ∈ F2 → p ∈ Z := fun hp => by rw [← hZ]; exact List.mem_append_right _ (.tail _ (.tail _ (List.mem_append_right _ hp)))
    obtain ⟨jB, hjB⟩ := List.getElem?_of_mem (show (Bd, lob [.float (Float64.ofFrac false (2 * q) T) (b2 + 1), .float (Float64.ofFrac false (2 * mn) T) (b3 + 1)] nb) ∈ (db, odb2) :: (Z ++ own) from .tail _ (List.mem_append_left _ (fZ (fF _ fB))))
    refine wpAny_execs_cons (wpAny_If (ask_ S21 D hA (by lia) (by lia) hg20 kn_in (.inr (fZ fm)) MA4 hct1 (ve_law_ahead L) rfl (ve_law_turn L) rfl (ve_law_one L) rfl (ve_law_other L) rfl (ve_law_total L) rfl (ve_law_bounds L) rfl hjB (ge_law__law_told L) rfl (W.len t) (W.totA t) (W.qA t) (W.mn t) W.T1 W.T2 W.q2 (W.c1 t) (W.c2 t) fun h22 gs22 t22 oda3 op3 new22 hg22 hct3 S22 MA5 => ?_))
    rw [if_neg (by decide)]
    refine wpAny_execs_nil ?_
    have S23 := (S22.perm pNew).perm p3
    have MA6 := MA5.mono kn_front
    have MB5 : MX w (Kn g (new22 ++ Z)) odb2 (some (lB, ys)) (some (D18, dir r (od t))) := MB4.mono fun b o kn => kn.imp id fun m => List.mem_append_right _ m
    obtain ⟨jB2, hjB2⟩ := List.getElem?_of_mem (show (Bd, lob [.float (Float64.ofFrac false (2 * q) T) (b2 + 1), .float (Float64.ofFrac false (2 * mn) T) (b3 + 1)] nb) ∈ (da, oda3) :: ((new22 ++ Z) ++ own) from .tail _ (List.mem_append_left _ (List.mem_append_right _ (fZ (fF _ fB)))))
    refine wpAny_execs_cons (wpAny_If (ask_ S23 D hA (by lia) (by lia) hg22 kn_in (.inr (List.mem_append_right _ (fZ fm2))) MB5 hct3 (ve_law_behind L) rfl (ve_law_turn L) rfl (ve_law_other L) rfl (ve_law_one L) rfl (ve_law_total L) rfl (ve_law_bounds L) rfl hjB2 (ge_law__law_told L) rfl ((Nat.add_comm _ _).trans (W.len t)) (W.totB t) (W.qB t) ((Nat.min_comm _ _).trans (W.mn t)) W.T1 W.T2 W.q2 (W.c2 t) (W.c1 t) fun h24 gs24 t24 odb3 op4 new24 hg24 hct4 S24 MB6 => ?_))
    rw [if_neg (by decide)]
    refine wpAny_execs_nil ?_
    have S25 := (S24.perm pNew).perm p3
    have MB7 := MB6.mono kn_front
    have MA7 : MX w (Kn g (new24 ++ (new22 ++ Z))) oda3 (some (D14, dir r (od t))) (some (lA, ys)) := MA6.mono fun b o kn => kn.imp id fun m => List.mem_append_right _ m
    have eZ : new24 ++ (new22 ++ Z) = (new24 ++ (new22 ++ (new20 ++ ((D18, o14) :: (D14, o14) :: rest)))) ++ F2 := by rw [← hZ]; simp [List.append_assoc]
    rw [eZ] at S25 MB7 MA7
    exact wpAny_execs_nil (TN hTq (mu := (da, oda3) :: (220, op4) :: (db, odb3) :: ((new24 ++ (new22 ++ (new20 ++ ((D18, o14) :: (D14, o14) :: rest)))) ++ F2)) S25 hg24 ⟨_, _, _, oda3, op4, odb3, _, _, _, rfl, rfl, hct4, MA7, MB7⟩)
  · rintro _ _ h9 gs9 tk9 ⟨y13, y14, y15, oda1, op1, odb1, rest, oaA1, obB1, rfl, rfl, hct1, MA1, MB1⟩ hg9 S9
    have S10 := S9.drop (mu' := (220, op1) :: F) (List.Sublist.cons _ ((List.Sublist.cons _ (by rw [← hF2]; exact (((List.Sublist.refl F).cons _).cons _).cons _ |>.trans (List.sublist_append_right _ _))).cons₂ _))
    exact k h9 gs9 tk9 op1 y13 y14 y15 hg9 hct1 S10
end
end Mine
end
section
set_option Elab.async false
set_option maxRecDepth 100000
set_option linter.unusedVariables false
set_option maxHeartbeats 400000
namespace Mine
open PySem PySem.W PySem.Calls PyProof.Rows
section
variable {w : World} {A : Around} {E : Value → Shared → Prop} {s s' : Shared} {mg mb : Str → Option Value} {G g h : Heap} {gs : Array GenState} {dr : Drawn} {tk : Nat} {os : OsState} {L : Addr} {nm : List Str} {ls : List (Option Value)} {mu : List (Addr × Obj)}
theorem mvOut {α : Type} {t : α} {l1 l2 : List α} : (l1 ++ t :: l2).Perm (t :: (l1 ++ l2)) := List.perm_middle
inductive TuJ (l O Td Sp Cn Bd : Addr) (xk xr xq : Option Value) (T : Nat) (uT : Tok) (F : List (Addr × Obj)) (i : Nat) (ls : List (Option Value)) (mu : List (Addr × Obj)) : Prop
  | mk (x10 x11 x12 x13 x14 x15 op) (e0 : ls = [some (.ref l), some (.ref O), some (.ref Td), some (.ref Sp), some (.ref Cn), xk, xr, xq, some (.int (T : Nat) uT), some (.ref Bd), x10, x11, x12, x13, x14, x15]) (e1 : mu = (220, op) :: F) (e2 : CodeTab op) : TuJ l O Td Sp Cn Bd xk xr xq T uT F i ls mu
theorem law_turns {l O Td Sp Cn Bd : Addr} {op oc : Obj} {xk xr xq x10 x11 x12 x13 x14 x15 : Option Value} {T q mn no nt np nb : Nat} {uT a b c b2 b3 : Tok} {od : Bool → List Int} {one other : Bool → Nat} {ys : List Int} {oi ti si : List Value} {F : List (Addr × Obj)} {Q : Flow → Shared → Prop}
    (D : Gd (K w.params) mg mb g) (hA : A.handled = none) (hdep : A.depth + 30 < recursionLimit) (hu : A.units + 60 < cLine) (hgs : AllBare gs) (W : ∀ r, AskF r od (dir r ys) one other q mn T) (h01 : one false = other false)
    (S : St g L h nm_law [some (.ref l), some (.ref O), some (.ref Td), some (.ref Sp), some (.ref Cn), xk, xr, xq, some (.int (T : Nat) uT), some (.ref Bd), x10, x11, x12, x13, x14, x15] ((220, op) :: F)) (hct : CodeTab op)
    (fO : (O, lob oi no) ∈ F) (fT : (Td, lob ti nt) ∈ F) (fS : (Sp, lob si np) ∈ F) (fC : (Cn, oc) ∈ F) (fB : (Bd, lob [.float (Float64.ofFrac false (2 * q) T) (b2 + 1), .float (Float64.ofFrac false (2 * mn) T) (b3 + 1)] nb) ∈ F)
    (hoi : IntsAre oi (od false)) (hti : IntsAre ti (od true)) (hsi : IntsAre si ys) (hoc : IsLo oc [.int (one false : Nat) a, .int (one true : Nat) b, .int (other true : Nat) c])
    (k : ∀ h' gs' tk' op' F' ls', AllBare gs' → CodeTab op' → St g L h' nm_law ls' ((220, op') :: F') → Q .next ⟨h', gs', dr, tk', os⟩) :
    wpAny (model Mine.prog w) A (exec (bd_law.getD 6 (.Pass ⟨0, 0, 0, 0⟩)) (e_law L)) Q E ⟨h, gs, dr, tk, os⟩ := by
  refine wpAny_For (Tuple_ (arg_ (cInt fun k1 t1 => arg_ (Neg1_ (cInt fun k2 t2 => neg_ fun k3 t3 => arg0 (newT S (by simp) fun h4 S4 => ?_))))))
  generalize hTP : h.objs.size = TP at S4 ⊢
  have S5 : St g L h4 nm_law [some (.ref l), some (.ref O), some (.ref Td), some (.ref Sp), some (.ref Cn), xk, xr, xq, some (.int (T : Nat) uT), some (.ref Bd), x10, x11, x12, x13, x14, x15] ((220, op) :: ((TP, tob [.int 1 k1, .int (-1) k3]) :: F)) := S4.perm (List.Perm.swap _ _ _)
  have hTPg := (S5.N _ (.tail _ (.head _))).1
  refine wpAny_pyIter_tuple (s := ⟨h4, gs, dr, t3, os⟩) (items := [Value.int 1 k1, .int (-1) k3].toArray) ⟨_, hTPg, rfl, 0, rfl⟩ ?_
  have hlt : TP < h4.objs.size := Heap.lt_size hTPg
  have Wk := Walks.tuple (prog := Mine.prog) (w := w) hA h4.objs.size TP (Nat.ne_of_lt hlt) [Value.int 1 k1, .int (-1) k3].toArray
  refine forG (own := [(h4.objs.size, _)]) (TuJ l O Td Sp Cn Bd xk xr xq T uT ((TP, tob [.int 1 k1, .int (-1) k3]) :: F)) Wk ?_ (fun b hb => by simpa using hb) ?_ (fun i v s Q E _ _ _ hq => wpAny_pure hq) ?_ ?_ ⟨_, _, _, _, _, _, op, rfl, rfl, hct⟩ (S5.push _).last ⟨⟨_, Heap.get?_push_size _ rfl, rfl, rfl⟩, ⟨_, Heap.get?_push_of_some _ hTPg, rfl, 0, rfl⟩⟩ hgs
  · intro b hb'
    rcases List.mem_cons.mp hb' with rfl | hb'
    · exact .inl (by simp)
    · rw [List.mem_singleton.mp hb']
      exact .inr (.inr ⟨_, fun i ls mu hJ => by obtain ⟨_, _, _, _, _, _, _, _, rfl, _⟩ := hJ; exact .tail _ (.head _)⟩)
  · rintro i h' ⟨⟨o, ho, _⟩, _⟩ b hb
    rw [List.mem_singleton.mp hb]; exact ⟨o, ho⟩
  · rintro i v _ _ own h6 gs6 tk6 hi hv ⟨y10, y11, y12, y13, y14, y15, op1, rfl, rfl, hct1⟩ _ hg6 S6 Tq hTq
    obtain ⟨r, tv, rfl⟩ : ∃ (r : Bool) (tv : Tok), v = .int (sgn1 r) tv := by
      have hv' : [Value.int 1 k1, .int (-1) k3][i]? = some v := by simpa using hv
      match i, hv' with
      | 0, hv => exact ⟨false, k1, (Option.some.inj hv).symm⟩
      | 1, hv => exact ⟨true, k3, (Option.some.inj hv).symm⟩
    have Wr := W r
    have hyl : ys.length ≤ 113 := by have h1 := Wr.len false; have := Wr.T2; rw [dir_len r ys] at h1; lia
    have hsl : si.length ≤ 113 := by rw [hsi.length]; exact hyl
    have hsg : some (sgn1 r) ≠ some 0 := by cases r <;> simp [sgn1]
    refine assign_Name (stE S6 (ve_law_turn L) (Nat.le_of_ble_eq_true rfl) fun h7 t7 S7 => ?_)
    generalize hF1 : (TP, tob [.int 1 k1, .int (-1) k3]) :: F = F1 at S7 hTq
    have fF : ∀ p ∈ F, p ∈ F1 := fun p hp => by rw [← hF1]; exact .tail _ hp
    have S7' : St g L h7 nm_law [some (.ref l), some (.ref O), some (.ref Td), some (.ref Sp), some (.ref Cn), xk, xr, xq, some (.int (T : Nat) uT), some (.ref Bd), some (.int (sgn1 r) tv), y11, y12, y13, y14, y15] ((220, op1) :: (F1 ++ own)) := S7
    -- ahead
    refine wpAny_execs_cons (asgE (Call_ (lgE S7' D (ge_law_SequenceMatcher L) (gn_SM _) (callWith_K (D.k.keeps S7'.F.keep) (kp_CM _) (arg_ (wpAny_Constant_none (arg_ (List_ (arg0 (newL S7' (by simp) fun h8 S8 => arg_ (sub3 (ldE S8 (ve_law_steps L) rfl (pt0 (pt0 (ldE S8 (ve_law_turn L) rfl (getSl S8 (lob_list (S8.N _ (.tail _ (.tail _ (List.mem_append_left _ (fF _ fS))))).1) .none .none (.int _ _) hsg (by lia) fun h9 D9 S9 => arg_ (wpAny_Constant_bool (arg0 ⟨D.k.keeps S9.F.keep, ?_⟩))))))))))))))))))
    have hd9 := pick_dir hsi r
    generalize ho9 : (lob (slicePick si.toArray none none (some (sgn1 r))).toList 0 : Obj) = o9 at S9
    have hLI : ∀ (Z : List (Addr × Obj)) (x : Addr), (x, o9) ∈ Z → LI (Kn g Z) x (dir r ys) := fun Z x hx => ⟨_, _, .inr (ho9 ▸ hx), hd9⟩
    generalize hE1 : h7.objs.size = E1 at S8 S9 ⊢
    have kR1 : ∀ b o, Kn g ((D9, o9) :: (E1, lob [] 0) :: (F1 ++ own)) b o → Kn g ((D9, o9) :: (E1, lob [] 0) :: (220, op1) :: (F1 ++ own)) b o := fun b o kn => kn.imp id fun m => by
      rcases List.mem_cons.mp m with e | m
      · rw [e]; exact .head _
      · rcases List.mem_cons.mp m with e | m
        · rw [e]; exact .tail _ (.head _)
        · exact .tail _ (.tail _ (.tail _ m))
    refine mkMatcher (va := .ref E1) (vb := .ref D9) (aj := false) (R := Kn g ((D9, o9) :: (E1, lob [] 0) :: (F1 ++ own))) (oa := some (E1, [])) (ob := some (D9, dir r ys)) S9 D hA (by lia) hg6 kR1 (.inl ⟨_, _, rfl, rfl, ⟨[], 0, .inr (.tail _ (.head _)), .nil⟩, by simp⟩) (.inl ⟨_, _, rfl, rfl, hLI _ _ (.head _), by rw [dir_len]; lia⟩) (fun s x X => b_init _ _ X _ _ _ _ _) fun h10 gs10 t10 ma da vs oda new hg10 S10 I10 M10 => ?_
    refine stE S10 (ve_law_ahead L) (Nat.le_of_ble_eq_true rfl) fun h11 t11 S11 => ?_
    have S12 : St g L h11 nm_law [some (.ref l), some (.ref O), some (.ref Td), some (.ref Sp), some (.ref Cn), xk, xr, xq, some (.int (T : Nat) uT), some (.ref Bd), some (.int (sgn1 r) tv), some (.ref ma), y12, y13, y14, y15] ((da, oda) :: (220, op1) :: ((ma, inst CM da) :: (new ++ ((D9, o9) :: (E1, lob [] 0) :: (F1 ++ own))))) := S11.perm (by
      have := (mvOut (t := (220, op1)) (l1 := (ma, inst CM da) :: (new ++ [(D9, o9), (E1, (lob [] 0 : Obj))])) (l2 := F1 ++ own)).cons (da, oda)
      simpa using this)
    generalize hZ1 : (ma, inst CM da) :: (new ++ ((D9, o9) :: (E1, lob [] 0) :: (F1 ++ own))) = Z1 at S12
    have fZ1 : ∀ p ∈ F, p ∈ Z1 := fun p hp => by rw [← hZ1]; exact .tail _ (List.mem_append_right _ (.tail _ (.tail _ (List.mem_append_left _ (fF _ hp)))))
    have MA1 : MX w (Kn g Z1) oda (some (E1, [])) (some (D9, dir r ys)) := ⟨vs, I10, M10.mono fun b o kn => by
      rw [← hZ1]
      rcases kn with kn | m
      · exact kn.imp id fun m => .tail _ (List.mem_append_right _ m)
      · refine .inr ?_
        rcases List.mem_cons.mp m with e | m
        · rw [e]; exact .head _
        · exact .tail _ (List.mem_append_left _ m)⟩
    -- behind
    refine wpAny_execs_cons (asgE (Call_ (lgE S12 D (ge_law_SequenceMatcher L) (gn_SM _) (callWith_K (D.k.keeps S12.F.keep) (kp_CM _) (arg_ (wpAny_Constant_none (arg_ (sub3 (ldE S12 (ve_law_steps L) rfl (pt0 (pt0 (ldE S12 (ve_law_turn L) rfl (getSl S12 (lob_list (S12.N _ (.tail _ (.tail _ (fZ1 _ fS)))).1) .none .none (.int _ _) hsg (by lia) fun h13 D13 S13 => arg_ (List_ (arg0 (newL S13 (by simp) fun h14 S14 => arg_ (wpAny_Constant_bool (arg0 ⟨D.k.keeps S14.F.keep, ?_⟩))))))))))))))))))
    rw [ho9] at S13 S14
    generalize hE2 : h13.objs.size = E2 at S14 ⊢
    have kR2 : ∀ b o, Kn g ((E2, lob [] 0) :: (D13, o9) :: Z1) b o → Kn g ((E2, lob [] 0) :: (D13, o9) :: (da, oda) :: (220, op1) :: Z1) b o := fun b o kn => kn.imp id fun m => by
      rcases List.mem_cons.mp m with e | m
      · rw [e]; exact .head _
      · rcases List.mem_cons.mp m with e | m
        · rw [e]; exact .tail _ (.head _)
        · exact .tail _ (.tail _ (.tail _ (.tail _ m)))
    refine mkMatcher (va := .ref D13) (vb := .ref E2) (aj := false) (R := Kn g ((E2, lob [] 0) :: (D13, o9) :: Z1)) (oa := some (D13, dir r ys)) (ob := some (E2, [])) S14 D hA (by lia) hg10 kR2 (.inl ⟨_, _, rfl, rfl, hLI _ _ (.tail _ (.head _)), by rw [dir_len]; lia⟩) (.inl ⟨_, _, rfl, rfl, ⟨[], 0, .inr (.head _), .nil⟩, by simp⟩) (fun s x X => b_init _ _ X _ _ _ _ _) fun h15 gs15 t15 mb' db vs2 odb new2 hg15 S15 I15 M15 => ?_
    refine stE S15 (ve_law_behind L) (Nat.le_of_ble_eq_true rfl) fun h16 t16 S16 => ?_
    have S17 : St g L h16 nm_law [some (.ref l), some (.ref O), some (.ref Td), some (.ref Sp), some (.ref Cn), xk, xr, xq, some (.int (T : Nat) uT), some (.ref Bd), some (.int (sgn1 r) tv), some (.ref ma), some (.ref mb'), y13, y14, y15] ((da, oda) :: (220, op1) :: (db, odb) :: ((mb', inst CM db) :: (new2 ++ ((E2, lob [] 0) :: (D13, o9) :: Z1)))) := S16.perm (by
      have e1 := mvOut (t := (da, oda)) (l1 := (db, odb) :: (mb', inst CM db) :: (new2 ++ [(E2, (lob [] 0 : Obj)), (D13, o9)])) (l2 := (220, op1) :: Z1)
      have e2 := (mvOut (t := (220, op1)) (l1 := (db, odb) :: (mb', inst CM db) :: (new2 ++ [(E2, (lob [] 0 : Obj)), (D13, o9)])) (l2 := Z1)).cons (da, oda)
      have := e1.trans e2
      simpa using this)
    generalize hZ2 : (mb', inst CM db) :: (new2 ++ ((E2, lob [] 0) :: (D13, o9) :: Z1)) = Z2 at S17
    have fZ2 : ∀ p ∈ Z1, p ∈ Z2 := fun p hp => by rw [← hZ2]; exact .tail _ (List.mem_append_right _ (.tail _ (.tail _ hp)))
    have MA2 : MX w (Kn g Z2) oda (some (E1, [])) (some (D9, dir r ys)) := MA1.mono fun b o kn => kn.imp id (fZ2 _)
    have MB2 : MX w (Kn g Z2) odb (some (D13, dir r ys)) (some (E2, [])) := ⟨vs2, I15, M15.mono fun b o kn => by
      rw [← hZ2]
      rcases kn with kn | m
      · exact kn.imp id fun m => .tail _ (List.mem_append_right _ m)
      · refine .inr ?_
        rcases List.mem_cons.mp m with e | m
        · rw [e]; exact .head _
        · exact .tail _ (List.mem_append_left _ m)⟩
    have fma : (ma, inst CM da) ∈ Z2 := fZ2 _ (by rw [← hZ1]; exact .head _)
    have fmb : (mb', inst CM db) ∈ Z2 := by rw [← hZ2]; exact .head _
    have f2 : ∀ p ∈ F, p ∈ Z2 := fun p hp => fZ2 _ (fZ1 _ hp)
    refine wpAny_execs_cons (law_pairs (r := r) D hA hdep hu hg15 Wr h01 S17 hct1 (f2 _ fO) (f2 _ fT) (f2 _ fC) (f2 _ fB) fma fmb hoi hti hoc MA2 MB2 fun h18 gs18 t18 op2 z13 z14 z15 hg18 hct2 S18 => ?_)
    have hsub : (F1 ++ own).Sublist Z2 := by
      rw [← hZ2, ← hZ1]
      have u1 : (F1 ++ own).Sublist (new ++ ((D9, o9) :: (E1, lob [] 0) :: (F1 ++ own))) := (((List.Sublist.refl _).cons _).cons _).trans (List.sublist_append_right _ _)
      have u2 : (F1 ++ own).Sublist (new2 ++ ((E2, lob [] 0) :: (D13, o9) :: (ma, inst CM da) :: (new ++ ((D9, o9) :: (E1, lob [] 0) :: (F1 ++ own))))) := (((u1.cons _).cons _).cons _).trans (List.sublist_append_right _ _)
      exact u2.cons _
    have S19 : St g L h18 nm_law _ (((220, op2) :: F1) ++ own) := S18.drop (hsub.cons_cons _)
    exact wpAny_execs_nil (TN hTq (mu := (220, op2) :: F1) S19 hg18 ⟨_, _, _, z13, z14, z15, op2, rfl, rfl, hct2⟩)
  · rintro _ _ h6 gs6 tk6 ⟨y10, y11, y12, y13, y14, y15, op1, rfl, rfl, hct1⟩ hg6 S6
    exact k h6 gs6 tk6 op1 _ _ hg6 hct1 S6
end
end Mine
end
section
set_option Elab.async false
set_option maxRecDepth 100000
set_option linter.unusedVariables false
set_option maxHeartbeats 400000
namespace Mine
open PySem PySem.W PySem.Calls PyProof.Rows
noncomputable abbrev odS (xs : List Int) (t : Bool) : List Int := ordL (rg t (nK xs 0)) (rg t (nK xs 1)) (rg t (nK xs 2))
noncomputable abbrev ysS (xs : List Int) : List Int := stpL (rwN (nK xs 0) (sK xs 0)) (rwN (nK xs 1) (sK xs 1)) (rwN (nK xs 2) (sK xs 2))
noncomputable abbrev cS (xs : List Int) (t r : Bool) : Nat := cSum t r (nK xs 0) (sK xs 0) (nK xs 1) (sK xs 1) (nK xs 2) (sK xs 2)
theorem ordK3 (t : Bool) (xs : List Int) : ordK t xs 3 = odS xs t := by
  show [1000, 1000] ++ (List.range 3).flatMap _ = _
  have : List.range 3 = [0, 1, 2] := by decide
  rw [this]
  unfold odS ordL
  simp [List.append_assoc]
theorem stpK3 (xs : List Int) : stpK xs 3 ++ [1000] = ysS xs := by
  show (List.range 3).flatMap _ ++ [1000] = _
  have : List.range 3 = [0, 1, 2] := by decide
  rw [this]
  unfold ysS stpL
  simp [List.append_assoc]
theorem cntK3 (xs : List Int) : cntK c0' xs 3 = cS xs false false ∧ cntK c1' xs 3 = cS xs true false ∧ cntK c2' xs 3 = cS xs true true := by
  have e : ∀ c, cntK c xs 3 = 0 + (1 + 0 % 2) * c (nK xs 0) (sK xs 0) + (1 + 1 % 2) * c (nK xs 1) (sK xs 1) + (1 + 2 % 2) * c (nK xs 2) (sK xs 2) := fun _ => rfl
  refine ⟨?_, ?_, ?_⟩ <;> rw [e] <;> simp only [cS, cSum, cA] <;> simp <;> lia
theorem askF (xs : List Int) (r : Bool) : AskF r (odS xs) (dir r (ysS xs)) (fun t => cS xs t false) (fun t => cS xs t true) ((ysS xs).length - 3) (ysS xs).length ((odS xs false).length + (ysS xs).length) := by
  have h0 := shK xs 0; have h1 := shK xs 1; have h2 := shK xs 2
  have LF := lenF h0 h1 h2
  have lo : ∀ t, (odS xs t).length = (odS xs false).length := fun t => (LF.o t).trans (LF.o false).symm
  have l1 : (odS xs false).length = _ := LF.o false; have l2 : (ysS xs).length = _ := LF.s; have l3 := LF.le; have l4 := LF.T1; have l5 := LF.T2
  refine ⟨fun t tot g => ?_, fun t tot g => ?_, fun t => qm_ahead (h0.row t) (h1.row t) (h2.row t) r, fun t => qm_behind (h0.row t) (h1.row t) (h2.row t) r, fun t => ?_, fun t => ?_, by lia, by lia, by lia, fun t => cSum_le h0 h1 h2 t _, fun t => cSum_le h0 h1 h2 t _⟩
  · rw [tot_ahead h0 h1 h2 t r g]
    cases r <;> simp [sgn1]
  · rw [tot_behind h0 h1 h2 t r g]
    cases r <;> simp [sgn1]
  · rw [dir_len, dir_len, lo t]; lia
  · rw [dir_len, dir_len, lo t]
section
variable {w : World} {A : Around} {E : Value → Shared → Prop} {s s' : Shared} {mg mb : Str → Option Value} {G g h : Heap} {gs : Array GenState} {dr : Drawn} {tk : Nat} {os : OsState} {nm : List Str} {ls : List (Option Value)} {mu : List (Addr × Obj)}
theorem law_spec {l : Addr} {op : Obj} {items : List Value} {xs : List Int}
    (D : Gd (K w.params) mg mb G) (hsub : Sub G s.heap) (hGT : G.get? 220 = none) (hA : A.handled = none) (hdep : A.depth + 40 < recursionLimit) (hu : A.units + 80 < cLine) (hgs : AllBare s.gens) (hop : s.heap.get? 220 = some op) (hct : CodeTab op)
    (hl : s.heap.IsList l items.toArray) (hi : IntsAre items xs) (hlen : items.length ≤ 63) :
    codeAny (model prog w) A (.call (.ref 277) ⟨[.ref l], []⟩) (Ret [220] s fun v s' => v = .bool true ∧ ∃ op', s'.heap.get? 220 = some op' ∧ CodeTab op') s := by
  have hWd : ∀ a ∈ [220], G.get? a = none := fun a ha => by rw [List.mem_singleton.mp ha]; exact hGT
  have hSW : cStatics ∉ [220] := fun hm => by
    obtain ⟨_, hn, _⟩ := D.lim
    obtain ⟨o, _, _, ho, _⟩ := hn
    have := hWd _ hm
    rw [ho] at this; cases this
  refine enterD [(220, op)] (fn_law _) (D.keeps hsub) (by lia) (bi_law _ _ _) (fun p hp => by rw [List.mem_singleton.mp hp]; exact hop) (by simp) hSW nm_law [none, none, none, none, none, none, none, none, none, none, none, none, none, none, none, none] rfl led_law fun Po hPo L h₁ hL S => ?_
  have Dg : Gd (K w.params) mg mb (hideAll s.heap [220]) := D.hide hsub hWd
  have hlg : (hideAll s.heap [220]).IsList l items.toArray := hl.at fun o e => hideAll_get _ e fun m => by
    have e1 := List.mem_singleton.mp m
    obtain ⟨ps, rfl, _⟩ := hct
    obtain ⟨o2, ho2, hc2, n2, hd2⟩ := hl
    rw [e1, hop] at ho2
    cases ho2
    cases hd2
  refine ba_cons (stE S (ve_law_script L) (Nat.le_of_ble_eq_true rfl) fun h2 t2 S2 => ba_nil ⟨S2.F.keep, ?_⟩)
  replace S2 : St (hideAll s.heap [220]) L h2 nm_law [some (.ref l), none, none, none, none, none, none, none, none, none, none, none, none, none, none, none] ((L + 1, cob none) :: (L + 1 + 1, cob none) :: (L + 1 + 1 + 1, cob none) :: (220, op) :: []) := S2
  refine wpAny_execs_cons (Assign_Tuple_swapped (names := [Str.ofString "order", Str.ofString "turned", Str.ofString "steps"]) (hw := by kernel_rfl) (Tuple_ (arg_ (List_ (arg_ (cInt fun k3 t3 => arg_ (cInt fun k4 t4 => arg0 (newL S2 (by simp) fun h5 S5 => ?_))))))))
  refine arg_ (List_ (arg_ (cInt fun k6 t6 => arg_ (cInt fun k7 t7 => arg0 (newL S5 (by simp) fun h8 S8 => ?_)))))
  refine arg_ (List_ (arg0 (newL S8 (by simp) fun h9 S9 => arg0 (tup3E S9 (by exact hA) (ve_law_order L) (ve_law_turned L) (ve_law_steps L) (Nat.le_of_ble_eq_true rfl) (Nat.le_of_ble_eq_true rfl) (Nat.le_of_ble_eq_true rfl) fun h10 t10 S10 => ?_))))
  refine wpAny_execs_cons (asgE (List_ (arg_ (cInt fun k11 t11 => arg_ (cInt fun k12 t12 => arg_ (cInt fun k13 t13 => arg0 (newL S10 (by simp) fun h14 S14 => stE S14 (ve_law_counts L) (Nat.le_of_ble_eq_true rfl) fun h15 t15 S15 => ?_)))))))
  have S16 := S15.perm ((List.reverse_perm [(h2.objs.size, (lob [.int 1000 k3, .int 1000 k4] 0 : Obj)), (h5.objs.size, lob [.int 1000 k6, .int 1000 k7] 0), (h8.objs.size, lob [] 0), (h10.objs.size, lob [.int 0 k11, .int 0 k12, .int 0 k13] 0)]).append_right ((L + 1, cob none) :: (L + 1 + 1, cob none) :: (L + 1 + 1 + 1, cob none) :: (220, op) :: []))
  generalize hO : h2.objs.size = O at S16
  generalize hTd : h5.objs.size = Td at S16
  generalize hSp : h8.objs.size = Sp at S16
  generalize hCn : h10.objs.size = Cn at S16
  replace S16 : St (hideAll s.heap [220]) L h15 nm_law [some (.ref l), some (.ref O), some (.ref Td), some (.ref Sp), some (.ref Cn), none, none, none, none, none, none, none, none, none, none, none] ((O, lob [.int 1000 k3, .int 1000 k4] 0) :: (Td, lob [.int 1000 k6, .int 1000 k7] 0) :: (Sp, lob [] 0) :: (Cn, lob [.int 0 k11, .int 0 k12, .int 0 k13] 0) :: (L + 1, cob none) :: (L + 1 + 1, cob none) :: (L + 1 + 1 + 1, cob none) :: (220, op) :: []) := by
    subst hO hTd hSp hCn
    exact S16
  have hdep' : ∀ n, n ≤ 30 → A.depth + 1 + n < recursionLimit := fun n hn => by lia
  refine wpAny_execs_cons (law_loop Dg hA (hdep' 10 (by decide)) hgs hlg hi hlen S16 fun h17 gs17 t17 ls17 mu17 hJ hg17 S17 => ?_)
  obtain ⟨xk, xr, xq, oi, no, ti, nt, si, np, oc, a, b, c, q1, q2, q3, rfl, rfl, hoi, hti, hsi, hoc⟩ := hJ
  rw [ordK3] at hoi hti
  obtain ⟨e0, e1, e2⟩ := cntK3 xs
  rw [e0, e1, e2] at hoc
  have LF := lenF (shK xs 0) (shK xs 1) (shK xs 2)
  have l1 : (odS xs false).length = _ := LF.o false
  have l2 : (ysS xs).length = _ := LF.s
  have l3 := LF.le; have l4 := LF.T1; have l5 := LF.T2
  have hoil := hoi.length
  have hsil := hsi.length
  have hsik := stpK_len xs 3
  -- steps.append(1000)
  refine wpAny_execs_cons (wpAny_Expr (MethodCall_ (ldE S17 (ve_law_steps L) rfl (mL PySem.F.slot_list_append PySem.F.type_list_append (S17.get (j := 2) rfl) (callWith_method1 (arg_ (cInt fun k18 t18 => arg0 (append_ (j := 2) S17 rfl (by lia) fun h19 S19 => ?_))))))))
  have hsi2 : IntsAre (si ++ [Value.int 1000 k18]) (ysS xs) := by rw [← stpK3]; exact ints_snoc hsi
  have hsl2 : (si ++ [Value.int 1000 k18]).length = (ysS xs).length := hsi2.length
  -- total
  refine wpAny_execs_cons (asgE (wpAny_BinOp (Call_ (lbE S19 Dg (ge_law_len L) (bn_len _) (cB (arg_ (ldE S19 (ve_law_order L) rfl (arg0 (lenN (S19.get (j := 0) rfl) (by lia) fun k20 t20 => ?_)))))))))
  refine Call_ (lbE S19 Dg (ge_law_len L) (bn_len _) (cB (arg_ (ldE S19 (ve_law_steps L) rfl (arg0 (lenN (S19.get (j := 2) rfl) (by lia) fun k21 t21 => addN fun k22 t22 => ?_))))))
  rw [hoil, hsl2]
  refine stE S19 (ve_law_total L) (Nat.le_of_ble_eq_true rfl) fun h23 t23 S23 => ?_
  generalize hTT : (odS xs false).length + (ysS xs).length = T at S23
  -- bounds
  refine wpAny_execs_cons (asgE (List_ (arg_ (wpAny_BinOp (wpAny_BinOp (cInt fun k24 t24 => wpAny_BinOp (Call_ (lbE S23 Dg (ge_law_len L) (bn_len _) (cB (arg_ (ldE S23 (ve_law_steps L) rfl (arg0 (lenN (S23.get (j := 2) rfl) (by lia) fun k25 t25 => ?_)))))))))))))
  rw [hsl2]
  refine cInt fun k26 t26 => subN (b := 3) (by lia) fun k27 t27 => mulN1 (a := 2) (b := (ysS xs).length - 3) (by decide) fun k28 t28 => ldE S23 (ve_law_total L) rfl (divN1_ (a := 2 * ((ysS xs).length - 3)) (b := T) hA (by lia) (by lia) fun t29 => ?_)
  refine arg_ (wpAny_BinOp (wpAny_BinOp (cInt fun k30 t30 => Call_ (lbE S23 Dg (ge_law_len L) (bn_len _) (cB (arg_ (ldE S23 (ve_law_steps L) rfl (arg0 (lenN (S23.get (j := 2) rfl) (by lia) fun k31 t31 => ?_)))))))))
  rw [hsl2]
  refine mulN1 (a := 2) (b := (ysS xs).length) (by decide) fun k32 t32 => ldE S23 (ve_law_total L) rfl (divN1_ (a := 2 * (ysS xs).length) (b := T) hA (by lia) (by lia) fun t33 => arg0 (newL S23 (by simp) fun h34 S34 => ?_))
  refine stE S34 (ve_law_bounds L) (Nat.le_of_ble_eq_true rfl) fun h35 t35 S35 => ?_
  generalize hBd : h23.objs.size = Bd at S35
  have S36 : St (hideAll s.heap [220]) L h35 nm_law [some (.ref l), some (.ref O), some (.ref Td), some (.ref Sp), some (.ref Cn), xk, xr, xq, some (.int (T : Nat) k22), some (.ref Bd), none, none, none, none, none, none] ((220, op) :: ((Bd, lob [.float (Float64.ofFrac false (2 * ((ysS xs).length - 3)) T) (t28 + 1), .float (Float64.ofFrac false (2 * (ysS xs).length) T) (t32 + 1)] 0) :: (O, lob oi no) :: (Td, lob ti nt) :: (Sp, lob (si ++ [Value.int 1000 k18]) (np + 1)) :: (Cn, oc) :: (L + 1, cob q1) :: (L + 1 + 1, cob q2) :: (L + 1 + 1 + 1, cob q3) :: [])) :=
    S35.perm (mvOut (t := (220, op)) (l1 := [(Bd, lob [.float (Float64.ofFrac false (2 * ((ysS xs).length - 3)) T) (t28 + 1), .float (Float64.ofFrac false (2 * (ysS xs).length) T) (t32 + 1)] 0), (O, lob oi no), (Td, lob ti nt), (Sp, lob (si ++ [Value.int 1000 k18]) (np + 1)), (Cn, oc), (L + 1, cob q1), (L + 1 + 1, cob q2), (L + 1 + 1 + 1, cob q3)]) (l2 := []))
  have hW := askF xs
  rw [hTT] at hW
  have hun : A.units + 3 + 60 < cLine := by lia
  refine wpAny_execs_cons (law_turns (od := odS xs) (ys := ysS xs) (one := fun t => cS xs t false) (other := fun t => cS xs t true) Dg hA (hdep' 30 (by decide)) (by first | exact hun | (show A.units + 3 + 60 < _; lia)) hg17 hW rfl S36 hct (.tail _ (.head _)) (.tail _ (.tail _ (.head _))) (.tail _ (.tail _ (.tail _ (.head _)))) (.tail _ (.tail _ (.tail _ (.tail _ (.head _))))) (.head _) hoi hti hsi2 hoc fun h37 gs37 t37 op2 F37 ls37 hg37 hct2 S37 => ?_)
  refine wpAny_execs_cons (wpAny_Return_some (wpAny_Constant_bool ?_))
  have S38 := S37.drop (mu' := [(220, op2)]) (List.singleton_sublist.mpr (.head _))
  exact endP hPo S38 hL (fun _ => hg37) rfl rfl ⟨rfl, op2, S38.get (j := 0) rfl, hct2⟩
end
end Mine
end
section
set_option Elab.async false
set_option maxRecDepth 100000
set_option maxHeartbeats 1000000
set_option linter.unusedVariables false
namespace Mine
open PySem PySem.W PySem.Calls PyProof.Rows
theorem kh_k {P : Params} {h : Heap} (X : (KH P).In h) : (K P).In h ∧ h.get? 220 = some (o220 P) := by
  have k0 : (K P).lookup 220 = none := by kernel_rfl
  refine ⟨fun b o e => X b o ?_, X 220 _ (by kernel_rfl)⟩
  unfold KH
  rw [List.lookup_cons]
  have hb : (b == 220) = false := by
    rw [beq_eq_false_iff_ne]
    rintro rfl
    rw [k0] at e; cases e
  rw [hb]; exact e
theorem gd_top {P : Params} {p : Program} {loose : List Str} {mean : ExcName → Option Value} {mg mb : Str → Option Value} {h : Heap} (X : (KH P).In h) (T : Top p loose mean mg mb h) (M : ∃ bm ob, BMod h mainGlobals mg bm ob) : Gd (K P) mg mb (hideAll h [220]) := by
  obtain ⟨X0, hT⟩ := kh_k X
  have ge : ∀ {b o}, h.get? b = some o → b ≠ 220 → (hideAll h [220]).get? b = some o := fun e n => hideAll_get _ e (by simpa using n)
  have k0 : (K P).lookup 220 = none := by kernel_rfl
  refine ⟨fun b o e => ge (X0 b o e) ?_, ?_, ?_, ?_, T.builtins, ?_⟩
  · rintro rfl
    rw [k0] at e; cases e
  · exact T.g.at' fun o e => ge e (by decide)
  · exact T.b.at' fun o e => ge e (by decide)
  · obtain ⟨m, hn, hm⟩ := T.nolimit
    exact ⟨m, hn.at' fun o e => ge e (by decide), hm⟩
  · obtain ⟨bm, ob, M⟩ := M
    refine ⟨bm, ob, M.name, M.ne, ge M.obj ?_, M.cls, M.dict, M.data⟩
    rintro rfl
    have h1 := M.obj
    have h2 := M.cls
    rw [hT] at h1
    cases h1
    cases h2
theorem walk : WalkO view loose (XL view []) (Hook.says hook) row.toRowW dlaw [] fun f vs => PySem.call f vs := by
  intro w s₀ s₁ mg mb G Y fa o pm cd doc dV kV ho hd hcd hD hmg hg args vals as hpre hlay hrd hwl hlo
  have KX := kIn_of Y
  refine Ground.open G ?_
  intro T B D TE TW
  have M := bmod_of_top T
  have GD := gd_top KX T M
  wrow_args hpre hlay hrd hwl hlo
  rename_i xs hs hlay0 hLy hra hl2 as3 as2 l items as1 hL ra w1 r0 hI hr hcond htr
  obtain ⟨KX0, hT⟩ := kh_k KX
  have e0 : mg dlaw.name = some (.ref 277) := mg_of KX0 T.g (by kernel_rfl)
  rw [hmg] at e0
  obtain rfl : fa = 277 := by cases e0; rfl
  refine enter_call ?_
  have hlen : items.length ≤ 63 := by rw [hI.length]; omega
  refine codeAny_mono (law_spec (G := hideAll s₁.heap [220]) GD (fun b o e => of_hideAll _ e) (hideAll_none _ (by simp)) rfl (by decide +kernel) (by decide +kernel) (by rw [hg]; exact fun _ h => absurd h (by simp)) hT ⟨_, rfl, by trivial⟩ hL hI hlen) fun r s' hr => ?_
  match r, hr with
  | .ok (.ret v), ⟨Mo, hv, op', hop', ps, hps, _⟩ =>
    subst hv hps
    refine ⟨.inl ⟨.bool true, .bool true, [], rfl, fun cls => by rfl, .bool true, by kernel_rfl, fun _ => ⟨.nil, fun _ h => nomatch h⟩⟩, ⟨fun b o e => ?_, fun b o e => ?_⟩, Mo.os, Mo.gens (by rw [hg]; exact fun _ h => absurd h (by simp))⟩
    · by_cases hb : b = 220
      · subst hb
        rw [hT] at e
        cases e
        exact .inr (.inl ⟨⟨224, o224 w.params, _, KX0 224 _ (by kernel_rfl), rfl, rfl, rfl⟩, rfl, #[], ps, rfl, by rw [hop']; simp [o220]⟩)
      · exact .inl (Mo.keep b o e (by simpa using hb))
    · by_cases hb : b = 220
      · subst hb; exact ⟨_, hop'⟩
      · exact ⟨o, Mo.keep b o e (by simpa using hb)⟩
end Mine
theorem PySem.Challenge.cw_mt0005_02_holds : PySem.Challenge.rw_mt0005_02.Holds :=
  Mine.hd Mine.walk
end

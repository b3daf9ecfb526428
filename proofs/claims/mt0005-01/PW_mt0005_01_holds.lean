import PyProof.Rows.All
import Wide.All
import OpenK.AllK
import Wide.FinOn
import Open.Tops
import PySem.Challenge.RW_mt0005_01
set_option Elab.async false
set_option maxRecDepth 100000
set_option maxHeartbeats 8000000
set_option linter.all false
namespace Mine
open PySem PySem.W PySem.Calls PyProof.Rows
open PySem.Str (ofString)
open PySem.PyData (keyHash)
noncomputable abbrev exc := @wpAny_execs_cons
noncomputable abbrev exn := @wpAny_execs_nil
noncomputable abbrev wB := @wpAny_bind
noncomputable abbrev wP := @wpAny_pure
noncomputable abbrev wT := @wpAny_truthy_bool
noncomputable abbrev wC := @wpAny_isTrue_Compare1
noncomputable abbrev nB := @Nat.le_of_ble_eq_true
noncomputable abbrev mR := @List.mem_append_right
noncomputable abbrev mF := @List.mem_append_left
noncomputable abbrev ntr := @Nat.le_trans
theorem mS {α : Type} {a b : α} (h : a ∈ [b]) : a = b := List.mem_singleton.mp h
theorem mK {α : Type} {a b : α} {l : List α} (h : a ∈ b :: l) : a = b ∨ a ∈ l := List.mem_cons.mp h
theorem oEA{α0:Type}{P0 P1:α0→Prop}{G:Prop}(h:∃ x0,P0 x0∧P1 x0)(k:∀ x0,P0 x0→P1 x0→G):G:=h.elim fun x0 h0=>k x0 h0.1 h0.2
theorem oEE{α0 α1:Type}{P0:α0→α1→Prop}{G:Prop}(h:∃ x0,∃ x1,P0 x0 x1)(k:∀ x0,∀ x1,P0 x0 x1→G):G:=h.elim fun x0 h0=>h0.elim fun x1 h1=>k x0 x1 h1
theorem oAE{α0:Type}{P0:Prop}{P1:α0→Prop}{G:Prop}(h:P0∧∃ x0,P1 x0)(k:P0→∀ x0,P1 x0→G):G:=h.2.elim fun x1 h1=>k h.1 x1 h1
theorem oAA{P0 P1 P2:Prop}{G:Prop}(h:P0∧P1∧P2)(k:P0→P1→P2→G):G:=k h.1 h.2.1 h.2.2
theorem oEAA{α0:Type}{P0 P1 P2:α0→Prop}{G:Prop}(h:∃ x0,P0 x0∧P1 x0∧P2 x0)(k:∀ x0,P0 x0→P1 x0→P2 x0→G):G:=h.elim fun x0 h0=>oAA h0 (k x0)
theorem oAAA{P0 P1 P2 P3:Prop}{G:Prop}(h:P0∧P1∧P2∧P3)(k:P0→P1→P2→P3→G):G:=oAA h.2 (k h.1)
theorem oEEA{α0 α1:Type}{P0 P1:α0→α1→Prop}{G:Prop}(h:∃ x0,∃ x1,P0 x0 x1∧P1 x0 x1)(k:∀ x0,∀ x1,P0 x0 x1→P1 x0 x1→G):G:=h.elim fun x0 h0=>oEA h0 (k x0)
theorem oEEE{α0 α1 α2:Type}{P0:α0→α1→α2→Prop}{G:Prop}(h:∃ x0,∃ x1,∃ x2,P0 x0 x1 x2)(k:∀ x0,∀ x1,∀ x2,P0 x0 x1 x2→G):G:=h.elim fun x0 h0=>oEE h0 (k x0)
theorem oEAAA{α0:Type}{P0 P1 P2 P3:α0→Prop}{G:Prop}(h:∃ x0,P0 x0∧P1 x0∧P2 x0∧P3 x0)(k:∀ x0,P0 x0→P1 x0→P2 x0→P3 x0→G):G:=h.elim fun x0 h0=>oAAA h0 (k x0)
theorem oEEAA{α0 α1:Type}{P0 P1 P2:α0→α1→Prop}{G:Prop}(h:∃ x0,∃ x1,P0 x0 x1∧P1 x0 x1∧P2 x0 x1)(k:∀ x0,∀ x1,P0 x0 x1→P1 x0 x1→P2 x0 x1→G):G:=h.elim fun x0 h0=>oEAA h0 (k x0)
theorem oEEEA{α0 α1 α2:Type}{P0 P1:α0→α1→α2→Prop}{G:Prop}(h:∃ x0,∃ x1,∃ x2,P0 x0 x1 x2∧P1 x0 x1 x2)(k:∀ x0,∀ x1,∀ x2,P0 x0 x1 x2→P1 x0 x1 x2→G):G:=h.elim fun x0 h0=>oEEA h0 (k x0)
theorem oAAAA{P0 P1 P2 P3 P4:Prop}{G:Prop}(h:P0∧P1∧P2∧P3∧P4)(k:P0→P1→P2→P3→P4→G):G:=oAAA h.2 (k h.1)
theorem oEEEAA{α0 α1 α2:Type}{P0 P1 P2:α0→α1→α2→Prop}{G:Prop}(h:∃ x0,∃ x1,∃ x2,P0 x0 x1 x2∧P1 x0 x1 x2∧P2 x0 x1 x2)(k:∀ x0,∀ x1,∀ x2,P0 x0 x1 x2→P1 x0 x1 x2→P2 x0 x1 x2→G):G:=h.elim fun x0 h0=>oEEAA h0 (k x0)
theorem oEEAAA{α0 α1:Type}{P0 P1 P2 P3:α0→α1→Prop}{G:Prop}(h:∃ x0,∃ x1,P0 x0 x1∧P1 x0 x1∧P2 x0 x1∧P3 x0 x1)(k:∀ x0,∀ x1,P0 x0 x1→P1 x0 x1→P2 x0 x1→P3 x0 x1→G):G:=h.elim fun x0 h0=>oEAAA h0 (k x0)
theorem oEAEEA{α0 α1 α2:Type}{P0:α0→Prop}{P1 P2:α0→α1→α2→Prop}{G:Prop}(h:∃ x0,P0 x0∧∃ x1,∃ x2,P1 x0 x1 x2∧P2 x0 x1 x2)(k:∀ x0,P0 x0→∀ x1,∀ x2,P1 x0 x1 x2→P2 x0 x1 x2→G):G:=h.elim fun x0 h0=>oEEA h0.2 (k x0 h0.1)
theorem oAEEAA{α0 α1:Type}{P0:Prop}{P1 P2 P3:α0→α1→Prop}{G:Prop}(h:P0∧∃ x0,∃ x1,P1 x0 x1∧P2 x0 x1∧P3 x0 x1)(k:P0→∀ x0,∀ x1,P1 x0 x1→P2 x0 x1→P3 x0 x1→G):G:=oEEAA h.2 (k h.1)
theorem oEEEEE{α0 α1 α2 α3 α4:Type}{P0:α0→α1→α2→α3→α4→Prop}{G:Prop}(h:∃ x0,∃ x1,∃ x2,∃ x3,∃ x4,P0 x0 x1 x2 x3 x4)(k:∀ x0,∀ x1,∀ x2,∀ x3,∀ x4,P0 x0 x1 x2 x3 x4→G):G:=h.elim fun x0 h0=>h0.elim fun x1 h1=>oEEE h1 (k x0 x1)
theorem oEEEEEA{α0 α1 α2 α3 α4:Type}{P0 P1:α0→α1→α2→α3→α4→Prop}{G:Prop}(h:∃ x0,∃ x1,∃ x2,∃ x3,∃ x4,P0 x0 x1 x2 x3 x4∧P1 x0 x1 x2 x3 x4)(k:∀ x0,∀ x1,∀ x2,∀ x3,∀ x4,P0 x0 x1 x2 x3 x4→P1 x0 x1 x2 x3 x4→G):G:=h.elim fun x0 h0=>h0.elim fun x1 h1=>oEEEA h1 (k x0 x1)
theorem oEEEAAA{α0 α1 α2:Type}{P0 P1 P2 P3:α0→α1→α2→Prop}{G:Prop}(h:∃ x0,∃ x1,∃ x2,P0 x0 x1 x2∧P1 x0 x1 x2∧P2 x0 x1 x2∧P3 x0 x1 x2)(k:∀ x0,∀ x1,∀ x2,P0 x0 x1 x2→P1 x0 x1 x2→P2 x0 x1 x2→P3 x0 x1 x2→G):G:=h.elim fun x0 h0=>oEEAAA h0 (k x0)
theorem oAEEEAAA{α0 α1 α2:Type}{P0:Prop}{P1 P2 P3 P4:α0→α1→α2→Prop}{G:Prop}(h:P0∧∃ x0,∃ x1,∃ x2,P1 x0 x1 x2∧P2 x0 x1 x2∧P3 x0 x1 x2∧P4 x0 x1 x2)(k:P0→∀ x0,∀ x1,∀ x2,P1 x0 x1 x2→P2 x0 x1 x2→P3 x0 x1 x2→P4 x0 x1 x2→G):G:=oEEEAAA h.2 (k h.1)
theorem oEEEEAAA{α0 α1 α2 α3:Type}{P0 P1 P2 P3:α0→α1→α2→α3→Prop}{G:Prop}(h:∃ x0,∃ x1,∃ x2,∃ x3,P0 x0 x1 x2 x3∧P1 x0 x1 x2 x3∧P2 x0 x1 x2 x3∧P3 x0 x1 x2 x3)(k:∀ x0,∀ x1,∀ x2,∀ x3,P0 x0 x1 x2 x3→P1 x0 x1 x2 x3→P2 x0 x1 x2 x3→P3 x0 x1 x2 x3→G):G:=h.elim fun x0 h0=>oEEEAAA h0 (k x0)
theorem oEEEAAAA{α0 α1 α2:Type}{P0 P1 P2 P3 P4:α0→α1→α2→Prop}{G:Prop}(h:∃ x0,∃ x1,∃ x2,P0 x0 x1 x2∧P1 x0 x1 x2∧P2 x0 x1 x2∧P3 x0 x1 x2∧P4 x0 x1 x2)(k:∀ x0,∀ x1,∀ x2,P0 x0 x1 x2→P1 x0 x1 x2→P2 x0 x1 x2→P3 x0 x1 x2→P4 x0 x1 x2→G):G:=h.elim fun x0 h0=>h0.elim fun x1 h1=>h1.elim fun x2 h2=>oAAAA h2 (k x0 x1 x2)
theorem oEEAAAAA{α0 α1:Type}{P0 P1 P2 P3 P4 P5:α0→α1→Prop}{G:Prop}(h:∃ x0,∃ x1,P0 x0 x1∧P1 x0 x1∧P2 x0 x1∧P3 x0 x1∧P4 x0 x1∧P5 x0 x1)(k:∀ x0,∀ x1,P0 x0 x1→P1 x0 x1→P2 x0 x1→P3 x0 x1→P4 x0 x1→P5 x0 x1→G):G:=h.elim fun x0 h0=>h0.elim fun x1 h1=>oAAAA h1.2 (k x0 x1 h1.1)
theorem oAEEEEAAA{α0 α1 α2 α3:Type}{P0:Prop}{P1 P2 P3 P4:α0→α1→α2→α3→Prop}{G:Prop}(h:P0∧∃ x0,∃ x1,∃ x2,∃ x3,P1 x0 x1 x2 x3∧P2 x0 x1 x2 x3∧P3 x0 x1 x2 x3∧P4 x0 x1 x2 x3)(k:P0→∀ x0,∀ x1,∀ x2,∀ x3,P1 x0 x1 x2 x3→P2 x0 x1 x2 x3→P3 x0 x1 x2 x3→P4 x0 x1 x2 x3→G):G:=oEEEEAAA h.2 (k h.1)
theorem oEEEEEEAA{α0 α1 α2 α3 α4 α5:Type}{P0 P1 P2:α0→α1→α2→α3→α4→α5→Prop}{G:Prop}(h:∃ x0,∃ x1,∃ x2,∃ x3,∃ x4,∃ x5,P0 x0 x1 x2 x3 x4 x5∧P1 x0 x1 x2 x3 x4 x5∧P2 x0 x1 x2 x3 x4 x5)(k:∀ x0,∀ x1,∀ x2,∀ x3,∀ x4,∀ x5,P0 x0 x1 x2 x3 x4 x5→P1 x0 x1 x2 x3 x4 x5→P2 x0 x1 x2 x3 x4 x5→G):G:=h.elim fun x0 h0=>h0.elim fun x1 h1=>h1.elim fun x2 h2=>oEEEAA h2 (k x0 x1 x2)
theorem oEEEEEEEA{α0 α1 α2 α3 α4 α5 α6:Type}{P0 P1:α0→α1→α2→α3→α4→α5→α6→Prop}{G:Prop}(h:∃ x0,∃ x1,∃ x2,∃ x3,∃ x4,∃ x5,∃ x6,P0 x0 x1 x2 x3 x4 x5 x6∧P1 x0 x1 x2 x3 x4 x5 x6)(k:∀ x0,∀ x1,∀ x2,∀ x3,∀ x4,∀ x5,∀ x6,P0 x0 x1 x2 x3 x4 x5 x6→P1 x0 x1 x2 x3 x4 x5 x6→G):G:=h.elim fun x0 h0=>h0.elim fun x1 h1=>oEEEEEA h1 (k x0 x1)
theorem oEEEEEEEEA{α0 α1 α2 α3 α4 α5 α6 α7:Type}{P0 P1:α0→α1→α2→α3→α4→α5→α6→α7→Prop}{G:Prop}(h:∃ x0,∃ x1,∃ x2,∃ x3,∃ x4,∃ x5,∃ x6,∃ x7,P0 x0 x1 x2 x3 x4 x5 x6 x7∧P1 x0 x1 x2 x3 x4 x5 x6 x7)(k:∀ x0,∀ x1,∀ x2,∀ x3,∀ x4,∀ x5,∀ x6,∀ x7,P0 x0 x1 x2 x3 x4 x5 x6 x7→P1 x0 x1 x2 x3 x4 x5 x6 x7→G):G:=h.elim fun x0 h0=>oEEEEEEEA h0 (k x0)
theorem oEEEEAAAAA{α0 α1 α2 α3:Type}{P0 P1 P2 P3 P4 P5:α0→α1→α2→α3→Prop}{G:Prop}(h:∃ x0,∃ x1,∃ x2,∃ x3,P0 x0 x1 x2 x3∧P1 x0 x1 x2 x3∧P2 x0 x1 x2 x3∧P3 x0 x1 x2 x3∧P4 x0 x1 x2 x3∧P5 x0 x1 x2 x3)(k:∀ x0,∀ x1,∀ x2,∀ x3,P0 x0 x1 x2 x3→P1 x0 x1 x2 x3→P2 x0 x1 x2 x3→P3 x0 x1 x2 x3→P4 x0 x1 x2 x3→P5 x0 x1 x2 x3→G):G:=h.elim fun x0 h0=>h0.elim fun x1 h1=>oEEAAAAA h1 (k x0 x1)
theorem oEEEEEEAAAA{α0 α1 α2 α3 α4 α5:Type}{P0 P1 P2 P3 P4:α0→α1→α2→α3→α4→α5→Prop}{G:Prop}(h:∃ x0,∃ x1,∃ x2,∃ x3,∃ x4,∃ x5,P0 x0 x1 x2 x3 x4 x5∧P1 x0 x1 x2 x3 x4 x5∧P2 x0 x1 x2 x3 x4 x5∧P3 x0 x1 x2 x3 x4 x5∧P4 x0 x1 x2 x3 x4 x5)(k:∀ x0,∀ x1,∀ x2,∀ x3,∀ x4,∀ x5,P0 x0 x1 x2 x3 x4 x5→P1 x0 x1 x2 x3 x4 x5→P2 x0 x1 x2 x3 x4 x5→P3 x0 x1 x2 x3 x4 x5→P4 x0 x1 x2 x3 x4 x5→G):G:=h.elim fun x0 h0=>h0.elim fun x1 h1=>h1.elim fun x2 h2=>oEEEAAAA h2 (k x0 x1 x2)
theorem oEEEEEEEEAA{α0 α1 α2 α3 α4 α5 α6 α7:Type}{P0 P1 P2:α0→α1→α2→α3→α4→α5→α6→α7→Prop}{G:Prop}(h:∃ x0,∃ x1,∃ x2,∃ x3,∃ x4,∃ x5,∃ x6,∃ x7,P0 x0 x1 x2 x3 x4 x5 x6 x7∧P1 x0 x1 x2 x3 x4 x5 x6 x7∧P2 x0 x1 x2 x3 x4 x5 x6 x7)(k:∀ x0,∀ x1,∀ x2,∀ x3,∀ x4,∀ x5,∀ x6,∀ x7,P0 x0 x1 x2 x3 x4 x5 x6 x7→P1 x0 x1 x2 x3 x4 x5 x6 x7→P2 x0 x1 x2 x3 x4 x5 x6 x7→G):G:=h.elim fun x0 h0=>h0.elim fun x1 h1=>oEEEEEEAA h1 (k x0 x1)
theorem oEEAAAA{α0 α1:Type}{P0 P1 P2 P3 P4:α0→α1→Prop}{G:Prop}(h:∃ x0,∃ x1,P0 x0 x1∧P1 x0 x1∧P2 x0 x1∧P3 x0 x1∧P4 x0 x1)(k:∀ x0,∀ x1,P0 x0 x1→P1 x0 x1→P2 x0 x1→P3 x0 x1→P4 x0 x1→G):G:=h.elim fun x0 h0=>h0.elim fun x1 h1=>oAAAA h1 (k x0 x1)
noncomputable def anyF(as:Array Nat)(p:Nat→Bool)(start stop:Nat):Bool :=
 @Bool.rec (fun _=>Bool) (Array.any as p start stop) (PySem.W.R.anyR as.toList p) (and (Nat.beq start 0) (Nat.beq stop as.toList.length))
theorem anyF_eq:@Array.any Nat=anyF:=by
 funext as p start stop
 unfold anyF
 cases h:and (Nat.beq start 0) (Nat.beq stop as.toList.length) with
 | false=>rfl
 | true =>
  have h':=Bool.and_eq_true_iff.mp h
  have e1:=Nat.eq_of_beq_eq_true h'.1
  have e2:=Nat.eq_of_beq_eq_true h'.2
  subst e1 e2
  show Array.any as p 0 as.size=PySem.W.R.anyR as.toList p
  rw [← PySem.W.R.anyR_eq,Array.any_toList]
noncomputable abbrev AnyT:=Array Nat→(Nat→Bool)→Nat→Nat→Bool
structure Carr(b:Builtin):Type where
noncomputable def pickF{f:AnyT→Builtin}(_:Carr PySem.W.Fast.tw4202317264376624991→Carr (f (@Array.any Nat))):AnyT→Builtin:=f
noncomputable def tnG:AnyT→Builtin:=by
 refine pickF (f:=?f) ?c
 case c =>
  delta PySem.W.Fast.tw4202317264376624991
  generalize @Array.any Nat=A
  exact id
theorem tnG_eq:PySem.W.Fast.tw4202317264376624991=tnG (@Array.any Nat):=by kernel_rfl
noncomputable def tn:Builtin:=tnG anyF
theorem tn_eq:PySem.W.Fast.tw4202317264376624991=tn:=tnG_eq.trans (congrArg tnG anyF_eq)
noncomputable def tab3(id:String):Option Builtin :=
 @Bool.rec (fun _=>Option Builtin) (PySem.W.Fast.tw1115789885857029328.find (PySem.W.Fast.tw13482112738370960269 id)) (some tn) (Nat.beq (PySem.W.Fast.tw13482112738370960269 id) (code "type.__new__"))
theorem find_tn:PySem.W.Fast.tw1115789885857029328.find (code "type.__new__")=some PySem.W.Fast.tw4202317264376624991:=by kernel_rfl
theorem tab_eq:treeTable=tab3:=by
 rw [PySem.W.Fast.te14364793385576792824]
 funext id
 show PySem.W.Fast.tw1115789885857029328.find (PySem.W.Fast.tw13482112738370960269 id)=_
 unfold tab3
 cases h:Nat.beq (PySem.W.Fast.tw13482112738370960269 id) (code "type.__new__") with
 | false=>rfl
 | true =>
  have e:=Nat.eq_of_beq_eq_true h
  rw [e,find_tn]
  exact congrArg some tn_eq
section
noncomputable abbrev prog:Program:=PySem.Challenge.pw_mt0005_01
noncomputable def stP(p:Program)(i:Nat):Stmt:=p.main.body.getD i (.Pass ⟨0,0,0,0⟩)
noncomputable def stAt:Nat→Stmt:=stP prog
noncomputable def fnArgs:Stmt→Arguments
 | .FunctionDef _ a _ _ _ _ _ _ _ _=>a
 | _=>⟨[],[],none,[],[],none,[]⟩
noncomputable def fnBody:Stmt→List Stmt
 | .FunctionDef _ _ b _ _ _ _ _ _ _=>b
 | _=>[]
noncomputable def fnScope:Stmt→Scope
 | .FunctionDef _ _ _ _ _ _ sc _ _ _=>sc
 | _=>prog.main.scope
noncomputable def clBody:Stmt→List Stmt
 | .ClassDef _ _ _ b _ _ _ _ _ _ _=>b
 | _=>[]
noncomputable def inP(p:Program)(i j:Nat):Stmt:=(clBody (stP p i)).getD j (.Pass ⟨0,0,0,0⟩)
noncomputable def inAt:Nat→Nat→Stmt:=inP prog
noncomputable def docS:List Stmt→Str
 | .Expr (.Constant (.str s) _ _) _::_=>s
 | _=>Str.empty
noncomputable def putE(x:Str):Stmt→Stmt
 | .Expr (.Constant (.str _) a b) c=>.Expr (.Constant (.str x) a b) c
 | s=>s
noncomputable def putD(x:Str):Stmt→Stmt
 | .ClassDef a b c d e f g h i j l=>.ClassDef a b c (match d with | []=>[] | s::r=>putE x s::r) e f g h i j l
 | s=>s
noncomputable def putAt(x:Str):Nat→List Stmt→List Stmt
 | 0,s::r=>putD x s::r
 | n+1,s::r=>s::putAt x n r
 | _,[]=>[]
noncomputable def surg(p:Program)(x:Str):Program:={ p with main:={ p.main with body:=putAt x 5 p.main.body } }
noncomputable def pickC{cs:List Char}(_:docS (clBody (stAt 5))=ofString (String.ofList cs)):List Char:=cs
noncomputable def docC:List Char:=pickC (cs:=_) rfl
theorem doc_lit:docS (clBody (stAt 5))=ofString (String.ofList docC):=by kernel_rfl
noncomputable def docT:Str:=⟨⟨PySem.W.R.mapR Char.toNat docC⟩⟩
theorem doc_eq:docS (clBody (stAt 5))=docT:=by
 rw [doc_lit,Str.ofString_eq_toList,String.toList_ofList]
 unfold docT
 rw [← PySem.W.R.mapR_eq]
noncomputable def progT:Program:=surg prog docT
theorem surg_eq:surg prog (docS (clBody (stAt 5)))=prog:=by kernel_rfl
theorem prog_eq:progT=prog:=by
 unfold progT
 rw [← doc_eq,surg_eq]
end
section
noncomputable def o3(P:Params):Obj:=⟨(.type "dict"),none,(.dict [⟨keyHash P (ofString "__name__"),(.str (ofString "__name__") 165),(.str (ofString "law_mt0005_01") 585)⟩,⟨keyHash P (ofString "__doc__"),(.str (ofString "__doc__") 166),.none⟩,⟨keyHash P (ofString "__package__"),(.str (ofString "__package__") 167),.none⟩,⟨keyHash P (ofString "__loader__"),(.str (ofString "__loader__") 168),(.builtin "__main__.__loader__#opaque")⟩,⟨keyHash P (ofString "__spec__"),(.str (ofString "__spec__") 169),.none⟩,⟨keyHash P (ofString "__annotations__"),(.str (ofString "__annotations__") 170),(.ref 6)⟩,⟨keyHash P (ofString "__builtins__"),(.str (ofString "__builtins__") 171),(.ref 4)⟩,⟨keyHash P (ofString "__file__"),(.str (ofString "__file__") 173),(.str (ofString "/claim/cut.py") 172)⟩,⟨keyHash P (ofString "__cached__"),(.str (ofString "__cached__") 174),.none⟩,⟨keyHash P (ofString "_wall"),(.str (ofString "_wall") 193),(.ref 21)⟩,⟨keyHash P (ofString "_tuplegetter"),(.str (ofString "_tuplegetter") 252),(.ref 60)⟩,⟨keyHash P (ofString "Match"),(.str (ofString "Match") 380),(.ref 135)⟩,⟨keyHash P (ofString "_calculate_ratio"),(.str (ofString "_calculate_ratio") 388),(.ref 145)⟩,⟨keyHash P (ofString "SequenceMatcher"),(.str (ofString "SequenceMatcher") 584),(.ref 242)⟩,⟨keyHash P (ofString "_law_told"),(.str (ofString "_law_told") 592),(.ref 251)⟩,⟨keyHash P (ofString "_law_items"),(.str (ofString "_law_items") 598),(.ref 256)⟩,⟨keyHash P (ofString "_law_count"),(.str (ofString "_law_count") 611),(.ref 263)⟩,⟨keyHash P (ofString "_law_places"),(.str (ofString "_law_places") 628),(.ref 270)⟩,⟨keyHash P (ofString "_law_spied"),(.str (ofString "_law_spied") 634),(.ref 275)⟩,⟨keyHash P (ofString "_law_lost"),(.str (ofString "_law_lost") 640),(.ref 280)⟩,⟨keyHash P (ofString "_law_moved_right"),(.str (ofString "_law_moved_right") 658),(.ref 287)⟩,⟨keyHash P (ofString "law"),(.str (ofString "law") 664),(.ref 292)⟩].toArray 22),[].toArray⟩
noncomputable def o11(P:Params):Obj:=⟨(.type "tuple"),none,(.seq [].toArray 0),[].toArray⟩
noncomputable def o12(P:Params):Obj:=⟨.none,none,(.fields [(.int (1) 0),(.int (0) 0),(.ref 20),(.int (5) 0),(.int (0) 0),(.ref 27),(.int (23) 0),(.int (0) 0),(.ref 71),(.int (66) 0),(.int (0) 0),(.ref 144),(.int (70) 0),(.int (0) 0),(.ref 151),(.int (445) 0),(.int (0) 0),(.ref 250),(.int (449) 0),(.int (0) 0),(.ref 255),(.int (451) 0),(.int (0) 0),(.ref 262),(.int (461) 0),(.int (0) 0),(.ref 269),(.int (473) 0),(.int (0) 0),(.ref 274),(.int (491) 0),(.int (0) 0),(.ref 279),(.int (499) 0),(.int (0) 0),(.ref 286),(.int (510) 0),(.int (0) 0),(.ref 291)].toArray),[].toArray⟩
noncomputable def s12(P:Params):Obj:=⟨.none,none,(.fields [].toArray),[].toArray⟩
noncomputable def o13(P:Params):Obj:=⟨(.type "code"),none,(.fields [(.str (ofString "<module>") 182),(.str (ofString "<module>") 183),(.str (ofString "/claim/cut.py") 184),(.int (1) 0),(.int (0) 0),(.int (0) 0),(.int (0) 0),(.int (0) 0),(.ref 11),(.bool false),(.int (181) 0),(.ref 12),.none,.none,.none,.none,(.int (185) 0),(.int (1) 0),(.str (ofString "/claim/cut.py") 186)].toArray),[].toArray⟩
noncomputable def o14(P:Params):Obj:=⟨(.type "frame"),none,.plain,[some (.ref 13),some (.ref 3),some (.ref 3),none,some (.str (ofString "__main__") 164),none,some (.ref 0)].toArray⟩
noncomputable def o15(P:Params):Obj:=⟨(.type "tuple"),none,(.seq [].toArray 0),[].toArray⟩
noncomputable def o16(P:Params):Obj:=⟨.none,none,(.fields [].toArray),[].toArray⟩
noncomputable def o17(P:Params):Obj:=⟨(.type "tuple"),none,(.seq [(.str (ofString "k") 190)].toArray 0),[].toArray⟩
noncomputable def o18(P:Params):Obj:=⟨(.type "tuple"),none,(.seq [].toArray 0),[].toArray⟩
noncomputable def ox19(p:Program)(P:Params):Obj:=⟨.none,none,(.func ⟨(ofString "_wall"),(ofString "_wall"),fnArgs (stP p 0),.stmts (fnBody (stP p 0)),fnScope (stP p 0),0,[],.none,.none,.none,.none,none,.none,.none,0⟩),[].toArray⟩
noncomputable def o20(P:Params):Obj:=⟨(.type "code"),none,(.fields [(.str (ofString "_wall") 187),(.str (ofString "_wall") 188),(.str (ofString "/claim/cut.py") 189),(.int (1) 0),(.int (1) 0),(.int (0) 0),(.int (0) 0),(.int (3) 0),(.ref 15),(.bool true),(.int (181) 0),(.ref 16),.none,(.ref 17),(.ref 18),(.ref 19),(.int (191) 0),(.int (1) 0),(.str (ofString "/claim/cut.py") 192)].toArray),[].toArray⟩
noncomputable def ox21(p:Program)(P:Params):Obj:=⟨(.type "function"),none,(.func ⟨(ofString "_wall"),(ofString "_wall"),fnArgs (stP p 0),.stmts (fnBody (stP p 0)),fnScope (stP p 0),3,[],.none,.none,.none,(.str (ofString "__main__") 164),none,(.ref 20),.none,0⟩),[].toArray⟩
noncomputable def o21:Params→Obj:=ox21 prog
noncomputable def o22(P:Params):Obj:=⟨(.type "tuple"),none,(.seq [].toArray 0),[].toArray⟩
noncomputable def o23(P:Params):Obj:=⟨(.type "builtin_function_or_method"),none,(.fields [(.builtin "type.__prepare__"),(.type "type")].toArray),[].toArray⟩
noncomputable def o24(P:Params):Obj:=⟨(.type "dict"),none,(.dict [⟨keyHash P (ofString "__module__"),(.str (ofString "__module__") 203),(.str (ofString "cpy313.difflib") 194)⟩,⟨keyHash P (ofString "__qualname__"),(.str (ofString "__qualname__") 205),(.str (ofString "_tuplegetter") 204)⟩,⟨keyHash P (ofString "__firstlineno__"),(.str (ofString "__firstlineno__") 207),(.int (5) 206)⟩,⟨keyHash P (ofString "__init__"),(.str (ofString "__init__") 216),(.ref 35)⟩,⟨keyHash P (ofString "__get__"),(.str (ofString "__get__") 225),(.ref 43)⟩,⟨keyHash P (ofString "__set__"),(.str (ofString "__set__") 234),(.ref 50)⟩,⟨keyHash P (ofString "__delete__"),(.str (ofString "__delete__") 242),(.ref 57)⟩,⟨keyHash P (ofString "__static_attributes__"),(.str (ofString "__static_attributes__") 245),(.ref 58)⟩].toArray 8),[].toArray⟩
noncomputable def o25(P:Params):Obj:=⟨(.type "tuple"),none,(.seq [].toArray 0),[].toArray⟩
noncomputable def o26(P:Params):Obj:=⟨.none,none,(.fields [(.int (7) 0),(.int (4) 0),(.ref 34),(.int (11) 0),(.int (4) 0),(.ref 42),(.int (18) 0),(.int (4) 0),(.ref 49),(.int (21) 0),(.int (4) 0),(.ref 56)].toArray),[].toArray⟩
noncomputable def o27(P:Params):Obj:=⟨(.type "code"),none,(.fields [(.str (ofString "_tuplegetter") 198),(.str (ofString "_tuplegetter") 199),(.str (ofString "/claim/cut.py") 200),(.int (5) 0),(.int (0) 0),(.int (0) 0),(.int (0) 0),(.int (0) 0),(.ref 25),(.bool false),(.int (181) 0),(.ref 26),.none,.none,.none,.none,(.int (201) 0),(.int (5) 0),(.str (ofString "/claim/cut.py") 202)].toArray),[].toArray⟩
noncomputable def o28(P:Params):Obj:=⟨(.type "frame"),none,.plain,[some (.ref 27),some (.ref 3),some (.ref 24),none,some (.str (ofString "cpy313.difflib") 194),none,some (.ref 0)].toArray⟩
noncomputable def o29(P:Params):Obj:=⟨(.type "tuple"),none,(.seq [].toArray 0),[].toArray⟩
noncomputable def o30(P:Params):Obj:=⟨.none,none,(.fields [].toArray),[].toArray⟩
noncomputable def o31(P:Params):Obj:=⟨(.type "tuple"),none,(.seq [(.str (ofString "self") 211),(.str (ofString "index") 212),(.str (ofString "doc") 213)].toArray 0),[].toArray⟩
noncomputable def o32(P:Params):Obj:=⟨(.type "tuple"),none,(.seq [].toArray 0),[].toArray⟩
noncomputable def ox33(p:Program)(P:Params):Obj:=⟨.none,none,(.func ⟨(ofString "__init__"),(ofString "_tuplegetter.__init__"),fnArgs (inP p 2 0),.stmts (fnBody (inP p 2 0)),fnScope (inP p 2 0),0,[],.none,.none,.none,.none,none,.none,.none,0⟩),[].toArray⟩
noncomputable def o34(P:Params):Obj:=⟨(.type "code"),none,(.fields [(.str (ofString "__init__") 208),(.str (ofString "_tuplegetter.__init__") 209),(.str (ofString "/claim/cut.py") 210),(.int (7) 0),(.int (3) 0),(.int (0) 0),(.int (0) 0),(.int (3) 0),(.ref 29),(.bool true),(.int (181) 0),(.ref 30),.none,(.ref 31),(.ref 32),(.ref 33),(.int (214) 0),(.int (7) 0),(.str (ofString "/claim/cut.py") 215)].toArray),[].toArray⟩
noncomputable def ox35(p:Program)(P:Params):Obj:=⟨(.type "function"),none,(.func ⟨(ofString "__init__"),(ofString "_tuplegetter.__init__"),fnArgs (inP p 2 0),.stmts (fnBody (inP p 2 0)),fnScope (inP p 2 0),3,[],.none,.none,.none,(.str (ofString "cpy313.difflib") 194),none,(.ref 34),.none,0⟩),[].toArray⟩
noncomputable def o35:Params→Obj:=ox35 prog
noncomputable def o36(P:Params):Obj:=⟨(.type "tuple"),none,(.seq [.none].toArray 0),[].toArray⟩
noncomputable def o37(P:Params):Obj:=⟨(.type "tuple"),none,(.seq [].toArray 0),[].toArray⟩
noncomputable def o38(P:Params):Obj:=⟨.none,none,(.fields [].toArray),[].toArray⟩
noncomputable def o39(P:Params):Obj:=⟨(.type "tuple"),none,(.seq [(.str (ofString "self") 220),(.str (ofString "obj") 221),(.str (ofString "objtype") 222)].toArray 0),[].toArray⟩
noncomputable def o40(P:Params):Obj:=⟨(.type "tuple"),none,(.seq [].toArray 0),[].toArray⟩
noncomputable def ox41(p:Program)(P:Params):Obj:=⟨.none,none,(.func ⟨(ofString "__get__"),(ofString "_tuplegetter.__get__"),fnArgs (inP p 2 1),.stmts (fnBody (inP p 2 1)),fnScope (inP p 2 1),0,[],.none,.none,.none,.none,none,.none,.none,0⟩),[].toArray⟩
noncomputable def o42(P:Params):Obj:=⟨(.type "code"),none,(.fields [(.str (ofString "__get__") 217),(.str (ofString "_tuplegetter.__get__") 218),(.str (ofString "/claim/cut.py") 219),(.int (11) 0),(.int (3) 0),(.int (0) 0),(.int (0) 0),(.int (3) 0),(.ref 37),(.bool true),(.int (181) 0),(.ref 38),.none,(.ref 39),(.ref 40),(.ref 41),(.int (223) 0),(.int (11) 0),(.str (ofString "/claim/cut.py") 224)].toArray),[].toArray⟩
noncomputable def ox43(p:Program)(P:Params):Obj:=⟨(.type "function"),none,(.func ⟨(ofString "__get__"),(ofString "_tuplegetter.__get__"),fnArgs (inP p 2 1),.stmts (fnBody (inP p 2 1)),fnScope (inP p 2 1),3,[],(.ref 36),.none,.none,(.str (ofString "cpy313.difflib") 194),none,(.ref 42),.none,0⟩),[].toArray⟩
noncomputable def o43:Params→Obj:=ox43 prog
noncomputable def o44(P:Params):Obj:=⟨(.type "tuple"),none,(.seq [].toArray 0),[].toArray⟩
noncomputable def o45(P:Params):Obj:=⟨.none,none,(.fields [].toArray),[].toArray⟩
noncomputable def o46(P:Params):Obj:=⟨(.type "tuple"),none,(.seq [(.str (ofString "self") 229),(.str (ofString "obj") 230),(.str (ofString "value") 231)].toArray 0),[].toArray⟩
noncomputable def o47(P:Params):Obj:=⟨(.type "tuple"),none,(.seq [].toArray 0),[].toArray⟩
noncomputable def ox48(p:Program)(P:Params):Obj:=⟨.none,none,(.func ⟨(ofString "__set__"),(ofString "_tuplegetter.__set__"),fnArgs (inP p 2 2),.stmts (fnBody (inP p 2 2)),fnScope (inP p 2 2),0,[],.none,.none,.none,.none,none,.none,.none,0⟩),[].toArray⟩
noncomputable def o49(P:Params):Obj:=⟨(.type "code"),none,(.fields [(.str (ofString "__set__") 226),(.str (ofString "_tuplegetter.__set__") 227),(.str (ofString "/claim/cut.py") 228),(.int (18) 0),(.int (3) 0),(.int (0) 0),(.int (0) 0),(.int (3) 0),(.ref 44),(.bool true),(.int (181) 0),(.ref 45),.none,(.ref 46),(.ref 47),(.ref 48),(.int (232) 0),(.int (18) 0),(.str (ofString "/claim/cut.py") 233)].toArray),[].toArray⟩
noncomputable def ox50(p:Program)(P:Params):Obj:=⟨(.type "function"),none,(.func ⟨(ofString "__set__"),(ofString "_tuplegetter.__set__"),fnArgs (inP p 2 2),.stmts (fnBody (inP p 2 2)),fnScope (inP p 2 2),3,[],.none,.none,.none,(.str (ofString "cpy313.difflib") 194),none,(.ref 49),.none,0⟩),[].toArray⟩
noncomputable def o50:Params→Obj:=ox50 prog
noncomputable def o51(P:Params):Obj:=⟨(.type "tuple"),none,(.seq [].toArray 0),[].toArray⟩
noncomputable def o52(P:Params):Obj:=⟨.none,none,(.fields [].toArray),[].toArray⟩
noncomputable def o53(P:Params):Obj:=⟨(.type "tuple"),none,(.seq [(.str (ofString "self") 238),(.str (ofString "obj") 239)].toArray 0),[].toArray⟩
noncomputable def o54(P:Params):Obj:=⟨(.type "tuple"),none,(.seq [].toArray 0),[].toArray⟩
noncomputable def ox55(p:Program)(P:Params):Obj:=⟨.none,none,(.func ⟨(ofString "__delete__"),(ofString "_tuplegetter.__delete__"),fnArgs (inP p 2 3),.stmts (fnBody (inP p 2 3)),fnScope (inP p 2 3),0,[],.none,.none,.none,.none,none,.none,.none,0⟩),[].toArray⟩
noncomputable def o56(P:Params):Obj:=⟨(.type "code"),none,(.fields [(.str (ofString "__delete__") 235),(.str (ofString "_tuplegetter.__delete__") 236),(.str (ofString "/claim/cut.py") 237),(.int (21) 0),(.int (2) 0),(.int (0) 0),(.int (0) 0),(.int (3) 0),(.ref 51),(.bool true),(.int (181) 0),(.ref 52),.none,(.ref 53),(.ref 54),(.ref 55),(.int (240) 0),(.int (21) 0),(.str (ofString "/claim/cut.py") 241)].toArray),[].toArray⟩
noncomputable def ox57(p:Program)(P:Params):Obj:=⟨(.type "function"),none,(.func ⟨(ofString "__delete__"),(ofString "_tuplegetter.__delete__"),fnArgs (inP p 2 3),.stmts (fnBody (inP p 2 3)),fnScope (inP p 2 3),3,[],.none,.none,.none,(.str (ofString "cpy313.difflib") 194),none,(.ref 56),.none,0⟩),[].toArray⟩
noncomputable def o57:Params→Obj:=ox57 prog
noncomputable def o58(P:Params):Obj:=⟨(.type "tuple"),none,(.seq [(.str (ofString "__doc__") 243),(.str (ofString "index") 244)].toArray 0),[].toArray⟩
noncomputable def o59(P:Params):Obj:=⟨(.type "dict"),none,(.dict [⟨keyHash P (ofString "__module__"),(.str (ofString "__module__") 203),(.str (ofString "cpy313.difflib") 194)⟩,⟨keyHash P (ofString "__firstlineno__"),(.str (ofString "__firstlineno__") 207),(.int (5) 206)⟩,⟨keyHash P (ofString "__init__"),(.str (ofString "__init__") 216),(.ref 35)⟩,⟨keyHash P (ofString "__get__"),(.str (ofString "__get__") 225),(.ref 43)⟩,⟨keyHash P (ofString "__set__"),(.str (ofString "__set__") 234),(.ref 50)⟩,⟨keyHash P (ofString "__delete__"),(.str (ofString "__delete__") 242),(.ref 57)⟩,⟨keyHash P (ofString "__static_attributes__"),(.str (ofString "__static_attributes__") 245),(.ref 58)⟩,⟨keyHash P (ofString "__dict__"),(.str (ofString "__dict__") 247),(.ref 61)⟩,⟨keyHash P (ofString "__weakref__"),(.str (ofString "__weakref__") 249),(.ref 62)⟩,⟨keyHash P (ofString "__doc__"),(.str (ofString "__doc__") 250),.none⟩].toArray 4),[].toArray⟩
noncomputable def o60(P:Params):Obj:=⟨(.type "type"),none,(.cls ⟨(ofString "_tuplegetter"),[(.type "object")],[(.ref 60),(.type "object")],59,(ofString "_tuplegetter"),true,[],[],false,none,false⟩),[none,none,some (.str (ofString "_tuplegetter") 196),some (.str (ofString "_tuplegetter") 204),some (.builtin "object.__new__"),some (.bool true)].toArray⟩
noncomputable def o61(P:Params):Obj:=⟨(.type "getset_descriptor"),none,(.fields [(.str (ofString "__dict__") 246),(.ref 60),(.builtin "function.__dict__"),(.builtin "function.__dict__#set")].toArray),[].toArray⟩
noncomputable def o62(P:Params):Obj:=⟨(.type "getset_descriptor"),none,(.fields [(.str (ofString "__weakref__") 248),(.ref 60),(.builtin "ExceptionGroup.__weakref__"),.none].toArray),[].toArray⟩
noncomputable def o63(P:Params):Obj:=⟨(.type "super"),none,(.fields [(.ref 60),(.ref 60),(.ref 60)].toArray),[].toArray⟩
noncomputable def o64(P:Params):Obj:=⟨(.type "builtin_function_or_method"),none,(.fields [(.builtin "object.__init_subclass__"),(.ref 60)].toArray),[].toArray⟩
noncomputable def o65(P:Params):Obj:=⟨(.type "tuple"),none,(.seq [(.type "tuple")].toArray 0),[].toArray⟩
noncomputable def o66(P:Params):Obj:=⟨(.type "builtin_function_or_method"),none,(.fields [(.builtin "type.__prepare__"),(.type "type")].toArray),[].toArray⟩
noncomputable def ox67(p:Program)(P:Params):Obj:=⟨(.type "dict"),none,(.dict [⟨keyHash P (ofString "__module__"),(.str (ofString "__module__") 260),(.str (ofString "cpy313.difflib") 194)⟩,⟨keyHash P (ofString "__qualname__"),(.str (ofString "__qualname__") 262),(.str (ofString "Match") 261)⟩,⟨keyHash P (ofString "__firstlineno__"),(.str (ofString "__firstlineno__") 264),(.int (23) 263)⟩,⟨keyHash P (ofString "__doc__"),(.str (ofString "__doc__") 266),(.str (docS (clBody (stP p 3))) 265)⟩,⟨keyHash P (ofString "__slots__"),(.str (ofString "__slots__") 268),(.ref 73)⟩,⟨keyHash P (ofString "_fields"),(.str (ofString "_fields") 272),(.ref 74)⟩,⟨keyHash P (ofString "_field_defaults"),(.str (ofString "_field_defaults") 273),(.ref 75)⟩,⟨keyHash P (ofString "__new__"),(.str (ofString "__new__") 284),(.ref 82)⟩,⟨keyHash P (ofString "_make"),(.str (ofString "_make") 306),(.ref 91)⟩,⟨keyHash P (ofString "_replace"),(.str (ofString "_replace") 317),(.ref 100)⟩,⟨keyHash P (ofString "__replace__"),(.str (ofString "__replace__") 318),(.ref 100)⟩,⟨keyHash P (ofString "__repr__"),(.str (ofString "__repr__") 326),(.ref 107)⟩,⟨keyHash P (ofString "_asdict"),(.str (ofString "_asdict") 333),(.ref 114)⟩,⟨keyHash P (ofString "__getnewargs__"),(.str (ofString "__getnewargs__") 341),(.ref 121)⟩,⟨keyHash P (ofString "__match_args__"),(.str (ofString "__match_args__") 345),(.ref 122)⟩,⟨keyHash P (ofString "a"),(.str (ofString "a") 355),(.ref 124)⟩,⟨keyHash P (ofString "b"),(.str (ofString "b") 365),(.ref 127)⟩,⟨keyHash P (ofString "size"),(.str (ofString "size") 375),(.ref 130)⟩,⟨keyHash P (ofString "__static_attributes__"),(.str (ofString "__static_attributes__") 376),(.ref 132)⟩,⟨keyHash P (ofString "__classcell__"),(.str (ofString "__classcell__") 377),(.ref 68)⟩].toArray 20),[].toArray⟩
noncomputable def o68(P:Params):Obj:=⟨(.type "cell"),none,(.cell (some (.ref 135))),[].toArray⟩
noncomputable def o69(P:Params):Obj:=⟨(.type "tuple"),none,(.seq [].toArray 0),[].toArray⟩
noncomputable def o70(P:Params):Obj:=⟨.none,none,(.fields [(.int (29) 0),(.int (4) 0),(.ref 81),(.int (34) 0),(.int (4) 0),(.ref 88),(.int (41) 0),(.int (4) 0),(.ref 99),(.int (52) 0),(.int (4) 0),(.ref 106),(.int (56) 0),(.int (4) 0),(.ref 113),(.int (59) 0),(.int (4) 0),(.ref 120)].toArray),[].toArray⟩
noncomputable def o71(P:Params):Obj:=⟨(.type "code"),none,(.fields [(.str (ofString "Match") 255),(.str (ofString "Match") 256),(.str (ofString "/claim/cut.py") 257),(.int (23) 0),(.int (0) 0),(.int (0) 0),(.int (0) 0),(.int (0) 0),(.ref 69),(.bool false),(.int (181) 0),(.ref 70),.none,.none,.none,.none,(.int (258) 0),(.int (23) 0),(.str (ofString "/claim/cut.py") 259)].toArray),[].toArray⟩
noncomputable def o72(P:Params):Obj:=⟨(.type "frame"),none,.plain,[some (.ref 71),some (.ref 3),some (.ref 67),none,some (.str (ofString "cpy313.difflib") 194),none,some (.ref 0)].toArray⟩
noncomputable def o73(P:Params):Obj:=⟨(.type "tuple"),none,(.seq [].toArray 0),[].toArray⟩
noncomputable def o74(P:Params):Obj:=⟨(.type "tuple"),none,(.seq [(.str (ofString "a") 269),(.str (ofString "b") 270),(.str (ofString "size") 271)].toArray 0),[].toArray⟩
noncomputable def o75(P:Params):Obj:=⟨(.type "dict"),none,(.dict [].toArray 0),[].toArray⟩
noncomputable def o76(P:Params):Obj:=⟨(.type "tuple"),none,(.seq [].toArray 0),[].toArray⟩
noncomputable def o77(P:Params):Obj:=⟨.none,none,(.fields [].toArray),[].toArray⟩
noncomputable def o78(P:Params):Obj:=⟨(.type "tuple"),none,(.seq [(.str (ofString "_cls") 277),(.str (ofString "a") 278),(.str (ofString "b") 279),(.str (ofString "size") 280)].toArray 0),[].toArray⟩
noncomputable def o79(P:Params):Obj:=⟨(.type "tuple"),none,(.seq [].toArray 0),[].toArray⟩
noncomputable def ox80(p:Program)(P:Params):Obj:=⟨.none,none,(.func ⟨(ofString "__new__"),(ofString "Match.__new__"),fnArgs (inP p 3 4),.stmts (fnBody (inP p 3 4)),fnScope (inP p 3 4),0,[],.none,.none,.none,.none,none,.none,.none,0⟩),[].toArray⟩
noncomputable def o81(P:Params):Obj:=⟨(.type "code"),none,(.fields [(.str (ofString "__new__") 274),(.str (ofString "Match.__new__") 275),(.str (ofString "/claim/cut.py") 276),(.int (29) 0),(.int (4) 0),(.int (0) 0),(.int (0) 0),(.int (3) 0),(.ref 76),(.bool true),(.int (181) 0),(.ref 77),.none,(.ref 78),(.ref 79),(.ref 80),(.int (281) 0),(.int (29) 0),(.str (ofString "/claim/cut.py") 282)].toArray),[].toArray⟩
noncomputable def ox82(p:Program)(P:Params):Obj:=⟨(.type "function"),none,(.func ⟨(ofString "__new__"),(ofString "Match.__new__"),fnArgs (inP p 3 4),.stmts (fnBody (inP p 3 4)),fnScope (inP p 3 4),3,[],.none,.none,(.str (docS (fnBody (inP p 3 4))) 283),(.str (ofString "cpy313.difflib") 194),none,(.ref 81),.none,0⟩),[].toArray⟩
noncomputable def o82:Params→Obj:=ox82 prog
noncomputable def o83(P:Params):Obj:=⟨(.type "tuple"),none,(.seq [].toArray 0),[].toArray⟩
noncomputable def o84(P:Params):Obj:=⟨.none,none,(.fields [].toArray),[].toArray⟩
noncomputable def o85(P:Params):Obj:=⟨(.type "tuple"),none,(.seq [(.str (ofString "cls") 288),(.str (ofString "iterable") 289),(.str (ofString "result") 290)].toArray 0),[].toArray⟩
noncomputable def o86(P:Params):Obj:=⟨(.type "tuple"),none,(.seq [].toArray 0),[].toArray⟩
noncomputable def ox87(p:Program)(P:Params):Obj:=⟨.none,none,(.func ⟨(ofString "_make"),(ofString "Match._make"),fnArgs (inP p 3 5),.stmts (fnBody (inP p 3 5)),fnScope (inP p 3 5),0,[],.none,.none,.none,.none,none,.none,.none,0⟩),[].toArray⟩
noncomputable def o88(P:Params):Obj:=⟨(.type "code"),none,(.fields [(.str (ofString "_make") 285),(.str (ofString "Match._make") 286),(.str (ofString "/claim/cut.py") 287),(.int (33) 0),(.int (2) 0),(.int (0) 0),(.int (0) 0),(.int (3) 0),(.ref 83),(.bool true),(.int (181) 0),(.ref 84),.none,(.ref 85),(.ref 86),(.ref 87),(.int (291) 0),(.int (33) 0),(.str (ofString "/claim/cut.py") 292)].toArray),[].toArray⟩
noncomputable def ox89(p:Program)(P:Params):Obj:=⟨(.type "function"),none,(.func ⟨(ofString "_make"),(ofString "Match._make"),fnArgs (inP p 3 5),.stmts (fnBody (inP p 3 5)),fnScope (inP p 3 5),3,[],.none,.none,(.str (docS (fnBody (inP p 3 5))) 293),(.str (ofString "cpy313.difflib") 194),(some 92),(.ref 88),.none,0⟩),[].toArray⟩
noncomputable def o89:Params→Obj:=ox89 prog
noncomputable def ox90(p:Program)(P:Params):Obj:=⟨(.type "dict"),none,(.dict [⟨keyHash P (ofString "__module__"),(.str (ofString "__module__") 295),(.str (ofString "cpy313.difflib") 194)⟩,⟨keyHash P (ofString "__name__"),(.str (ofString "__name__") 298),(.str (ofString "_make") 297)⟩,⟨keyHash P (ofString "__qualname__"),(.str (ofString "__qualname__") 301),(.str (ofString "Match._make") 300)⟩,⟨keyHash P (ofString "__doc__"),(.str (ofString "__doc__") 303),(.str (docS (fnBody (inP p 3 5))) 293)⟩,⟨keyHash P (ofString "__annotations__"),(.str (ofString "__annotations__") 305),(.ref 92)⟩].toArray 5),[].toArray⟩
noncomputable def o90:Params→Obj:=ox90 prog
noncomputable def o91(P:Params):Obj:=⟨(.type "classmethod"),(some 90),(.fields [(.ref 89),(.bool false)].toArray),[].toArray⟩
noncomputable def o92(P:Params):Obj:=⟨(.type "dict"),none,(.dict [].toArray 0),[].toArray⟩
noncomputable def o93(P:Params):Obj:=⟨(.type "tuple"),none,(.seq [(.ref 68)].toArray 0),[].toArray⟩
noncomputable def o94(P:Params):Obj:=⟨(.type "tuple"),none,(.seq [(.str (ofString "__class__") 310)].toArray 0),[].toArray⟩
noncomputable def o95(P:Params):Obj:=⟨.none,none,(.fields [].toArray),[].toArray⟩
noncomputable def o96(P:Params):Obj:=⟨(.type "tuple"),none,(.seq [(.str (ofString "self") 311),(.str (ofString "kwds") 312),(.str (ofString "result") 313)].toArray 0),[].toArray⟩
noncomputable def o97(P:Params):Obj:=⟨(.type "tuple"),none,(.seq [].toArray 0),[].toArray⟩
noncomputable def ox98(p:Program)(P:Params):Obj:=⟨.none,none,(.func ⟨(ofString "_replace"),(ofString "Match._replace"),fnArgs (inP p 3 6),.stmts (fnBody (inP p 3 6)),fnScope (inP p 3 6),0,[],.none,.none,.none,.none,none,.none,.none,0⟩),[].toArray⟩
noncomputable def o99(P:Params):Obj:=⟨(.type "code"),none,(.fields [(.str (ofString "_replace") 307),(.str (ofString "Match._replace") 308),(.str (ofString "/claim/cut.py") 309),(.int (41) 0),(.int (1) 0),(.int (1) 0),(.int (0) 0),(.int (11) 0),(.ref 94),(.bool true),(.int (181) 0),(.ref 95),.none,(.ref 96),(.ref 97),(.ref 98),(.int (314) 0),(.int (41) 0),(.str (ofString "/claim/cut.py") 315)].toArray),[].toArray⟩
noncomputable def ox100(p:Program)(P:Params):Obj:=⟨(.type "function"),none,(.func ⟨(ofString "_replace"),(ofString "Match._replace"),fnArgs (inP p 3 6),.stmts (fnBody (inP p 3 6)),fnScope (inP p 3 6),3,[((ofString "__class__"),68)],.none,.none,(.str (docS (fnBody (inP p 3 6))) 316),(.str (ofString "cpy313.difflib") 194),none,(.ref 99),(.ref 93),0⟩),[].toArray⟩
noncomputable def o100:Params→Obj:=ox100 prog
noncomputable def o101(P:Params):Obj:=⟨(.type "tuple"),none,(.seq [].toArray 0),[].toArray⟩
noncomputable def o102(P:Params):Obj:=⟨.none,none,(.fields [].toArray),[].toArray⟩
noncomputable def o103(P:Params):Obj:=⟨(.type "tuple"),none,(.seq [(.str (ofString "self") 322)].toArray 0),[].toArray⟩
noncomputable def o104(P:Params):Obj:=⟨(.type "tuple"),none,(.seq [].toArray 0),[].toArray⟩
noncomputable def ox105(p:Program)(P:Params):Obj:=⟨.none,none,(.func ⟨(ofString "__repr__"),(ofString "Match.__repr__"),fnArgs (inP p 3 8),.stmts (fnBody (inP p 3 8)),fnScope (inP p 3 8),0,[],.none,.none,.none,.none,none,.none,.none,0⟩),[].toArray⟩
noncomputable def o106(P:Params):Obj:=⟨(.type "code"),none,(.fields [(.str (ofString "__repr__") 319),(.str (ofString "Match.__repr__") 320),(.str (ofString "/claim/cut.py") 321),(.int (52) 0),(.int (1) 0),(.int (0) 0),(.int (0) 0),(.int (3) 0),(.ref 101),(.bool true),(.int (181) 0),(.ref 102),.none,(.ref 103),(.ref 104),(.ref 105),(.int (323) 0),(.int (52) 0),(.str (ofString "/claim/cut.py") 324)].toArray),[].toArray⟩
noncomputable def ox107(p:Program)(P:Params):Obj:=⟨(.type "function"),none,(.func ⟨(ofString "__repr__"),(ofString "Match.__repr__"),fnArgs (inP p 3 8),.stmts (fnBody (inP p 3 8)),fnScope (inP p 3 8),3,[],.none,.none,(.str (docS (fnBody (inP p 3 8))) 325),(.str (ofString "cpy313.difflib") 194),none,(.ref 106),.none,0⟩),[].toArray⟩
noncomputable def o107:Params→Obj:=ox107 prog
noncomputable def o108(P:Params):Obj:=⟨(.type "tuple"),none,(.seq [].toArray 0),[].toArray⟩
noncomputable def o109(P:Params):Obj:=⟨.none,none,(.fields [].toArray),[].toArray⟩
noncomputable def o110(P:Params):Obj:=⟨(.type "tuple"),none,(.seq [(.str (ofString "self") 330)].toArray 0),[].toArray⟩
noncomputable def o111(P:Params):Obj:=⟨(.type "tuple"),none,(.seq [].toArray 0),[].toArray⟩
noncomputable def ox112(p:Program)(P:Params):Obj:=⟨.none,none,(.func ⟨(ofString "_asdict"),(ofString "Match._asdict"),fnArgs (inP p 3 9),.stmts (fnBody (inP p 3 9)),fnScope (inP p 3 9),0,[],.none,.none,.none,.none,none,.none,.none,0⟩),[].toArray⟩
noncomputable def o113(P:Params):Obj:=⟨(.type "code"),none,(.fields [(.str (ofString "_asdict") 327),(.str (ofString "Match._asdict") 328),(.str (ofString "/claim/cut.py") 329),(.int (56) 0),(.int (1) 0),(.int (0) 0),(.int (0) 0),(.int (3) 0),(.ref 108),(.bool true),(.int (181) 0),(.ref 109),.none,(.ref 110),(.ref 111),(.ref 112),(.int (331) 0),(.int (56) 0),(.str (ofString "/claim/cut.py") 332)].toArray),[].toArray⟩
noncomputable def ox114(p:Program)(P:Params):Obj:=⟨(.type "function"),none,(.func ⟨(ofString "_asdict"),(ofString "Match._asdict"),fnArgs (inP p 3 9),.stmts (fnBody (inP p 3 9)),fnScope (inP p 3 9),3,[],.none,.none,.none,(.str (ofString "cpy313.difflib") 194),none,(.ref 113),.none,0⟩),[].toArray⟩
noncomputable def o114:Params→Obj:=ox114 prog
noncomputable def o115(P:Params):Obj:=⟨(.type "tuple"),none,(.seq [].toArray 0),[].toArray⟩
noncomputable def o116(P:Params):Obj:=⟨.none,none,(.fields [].toArray),[].toArray⟩
noncomputable def o117(P:Params):Obj:=⟨(.type "tuple"),none,(.seq [(.str (ofString "self") 337)].toArray 0),[].toArray⟩
noncomputable def o118(P:Params):Obj:=⟨(.type "tuple"),none,(.seq [].toArray 0),[].toArray⟩
noncomputable def ox119(p:Program)(P:Params):Obj:=⟨.none,none,(.func ⟨(ofString "__getnewargs__"),(ofString "Match.__getnewargs__"),fnArgs (inP p 3 10),.stmts (fnBody (inP p 3 10)),fnScope (inP p 3 10),0,[],.none,.none,.none,.none,none,.none,.none,0⟩),[].toArray⟩
noncomputable def o120(P:Params):Obj:=⟨(.type "code"),none,(.fields [(.str (ofString "__getnewargs__") 334),(.str (ofString "Match.__getnewargs__") 335),(.str (ofString "/claim/cut.py") 336),(.int (59) 0),(.int (1) 0),(.int (0) 0),(.int (0) 0),(.int (3) 0),(.ref 115),(.bool true),(.int (181) 0),(.ref 116),.none,(.ref 117),(.ref 118),(.ref 119),(.int (338) 0),(.int (59) 0),(.str (ofString "/claim/cut.py") 339)].toArray),[].toArray⟩
noncomputable def ox121(p:Program)(P:Params):Obj:=⟨(.type "function"),none,(.func ⟨(ofString "__getnewargs__"),(ofString "Match.__getnewargs__"),fnArgs (inP p 3 10),.stmts (fnBody (inP p 3 10)),fnScope (inP p 3 10),3,[],.none,.none,(.str (docS (fnBody (inP p 3 10))) 340),(.str (ofString "cpy313.difflib") 194),none,(.ref 120),.none,0⟩),[].toArray⟩
noncomputable def o121:Params→Obj:=ox121 prog
noncomputable def o122(P:Params):Obj:=⟨(.type "tuple"),none,(.seq [(.str (ofString "a") 342),(.str (ofString "b") 343),(.str (ofString "size") 344)].toArray 0),[].toArray⟩
noncomputable def o123(P:Params):Obj:=⟨(.type "dict"),none,(.dict [⟨keyHash P (ofString "index"),(.str (ofString "index") 352),(.int (0) 346)⟩,⟨keyHash P (ofString "__doc__"),(.str (ofString "__doc__") 354),(.str (ofString "Alias for field number 0") 347)⟩].toArray 2),[].toArray⟩
noncomputable def o124(P:Params):Obj:=⟨(.ref 60),(some 123),.plain,[].toArray⟩
noncomputable def o125(P:Params):Obj:=⟨(.type "frame"),none,(.dict [⟨keyHash P (ofString "self"),(.str (ofString "self") 348),(.ref 124)⟩,⟨keyHash P (ofString "index"),(.str (ofString "index") 349),(.int (0) 346)⟩,⟨keyHash P (ofString "doc"),(.str (ofString "doc") 350),(.str (ofString "Alias for field number 0") 347)⟩].toArray 3),[].toArray⟩
noncomputable def o126(P:Params):Obj:=⟨(.type "dict"),none,(.dict [⟨keyHash P (ofString "index"),(.str (ofString "index") 362),(.int (1) 356)⟩,⟨keyHash P (ofString "__doc__"),(.str (ofString "__doc__") 364),(.str (ofString "Alias for field number 1") 357)⟩].toArray 2),[].toArray⟩
noncomputable def o127(P:Params):Obj:=⟨(.ref 60),(some 126),.plain,[].toArray⟩
noncomputable def o128(P:Params):Obj:=⟨(.type "frame"),none,(.dict [⟨keyHash P (ofString "self"),(.str (ofString "self") 358),(.ref 127)⟩,⟨keyHash P (ofString "index"),(.str (ofString "index") 359),(.int (1) 356)⟩,⟨keyHash P (ofString "doc"),(.str (ofString "doc") 360),(.str (ofString "Alias for field number 1") 357)⟩].toArray 3),[].toArray⟩
noncomputable def o129(P:Params):Obj:=⟨(.type "dict"),none,(.dict [⟨keyHash P (ofString "index"),(.str (ofString "index") 372),(.int (2) 366)⟩,⟨keyHash P (ofString "__doc__"),(.str (ofString "__doc__") 374),(.str (ofString "Alias for field number 2") 367)⟩].toArray 2),[].toArray⟩
noncomputable def o130(P:Params):Obj:=⟨(.ref 60),(some 129),.plain,[].toArray⟩
noncomputable def o131(P:Params):Obj:=⟨(.type "frame"),none,(.dict [⟨keyHash P (ofString "self"),(.str (ofString "self") 368),(.ref 130)⟩,⟨keyHash P (ofString "index"),(.str (ofString "index") 369),(.int (2) 366)⟩,⟨keyHash P (ofString "doc"),(.str (ofString "doc") 370),(.str (ofString "Alias for field number 2") 367)⟩].toArray 3),[].toArray⟩
noncomputable def o132(P:Params):Obj:=⟨(.type "tuple"),none,(.seq [].toArray 0),[].toArray⟩
noncomputable def o133(P:Params):Obj:=⟨(.type "list"),none,(.seq [].toArray 0),[].toArray⟩
noncomputable def ox134(p:Program)(P:Params):Obj:=⟨(.type "dict"),none,(.dict [⟨keyHash P (ofString "__module__"),(.str (ofString "__module__") 260),(.str (ofString "cpy313.difflib") 194)⟩,⟨keyHash P (ofString "__firstlineno__"),(.str (ofString "__firstlineno__") 264),(.int (23) 263)⟩,⟨keyHash P (ofString "__doc__"),(.str (ofString "__doc__") 266),(.str (docS (clBody (stP p 3))) 265)⟩,⟨keyHash P (ofString "__slots__"),(.str (ofString "__slots__") 268),(.ref 73)⟩,⟨keyHash P (ofString "_fields"),(.str (ofString "_fields") 272),(.ref 74)⟩,⟨keyHash P (ofString "_field_defaults"),(.str (ofString "_field_defaults") 273),(.ref 75)⟩,⟨keyHash P (ofString "__new__"),(.str (ofString "__new__") 284),(.ref 136)⟩,⟨keyHash P (ofString "_make"),(.str (ofString "_make") 306),(.ref 91)⟩,⟨keyHash P (ofString "_replace"),(.str (ofString "_replace") 317),(.ref 100)⟩,⟨keyHash P (ofString "__replace__"),(.str (ofString "__replace__") 318),(.ref 100)⟩,⟨keyHash P (ofString "__repr__"),(.str (ofString "__repr__") 326),(.ref 107)⟩,⟨keyHash P (ofString "_asdict"),(.str (ofString "_asdict") 333),(.ref 114)⟩,⟨keyHash P (ofString "__getnewargs__"),(.str (ofString "__getnewargs__") 341),(.ref 121)⟩,⟨keyHash P (ofString "__match_args__"),(.str (ofString "__match_args__") 345),(.ref 122)⟩,⟨keyHash P (ofString "a"),(.str (ofString "a") 355),(.ref 124)⟩,⟨keyHash P (ofString "b"),(.str (ofString "b") 365),(.ref 127)⟩,⟨keyHash P (ofString "size"),(.str (ofString "size") 375),(.ref 130)⟩,⟨keyHash P (ofString "__static_attributes__"),(.str (ofString "__static_attributes__") 376),(.ref 132)⟩].toArray 2),[].toArray⟩
noncomputable def o134:Params→Obj:=ox134 prog
noncomputable def o135(P:Params):Obj:=⟨(.type "type"),none,(.cls ⟨(ofString "Match"),[(.type "tuple")],[(.ref 135),(.type "tuple"),(.type "object")],134,(ofString "Match"),false,[],[],false,none,false⟩),[some (.ref 65),none,some (.str (ofString "Match") 253),some (.str (ofString "Match") 261),some .none,some (.bool false)].toArray⟩
noncomputable def o136(P:Params):Obj:=⟨(.type "staticmethod"),none,(.fields [(.ref 82)].toArray),[].toArray⟩
noncomputable def o137(P:Params):Obj:=⟨(.type "super"),none,(.fields [(.ref 135),(.ref 135),(.ref 135)].toArray),[].toArray⟩
noncomputable def o138(P:Params):Obj:=⟨(.type "builtin_function_or_method"),none,(.fields [(.builtin "object.__init_subclass__"),(.ref 135)].toArray),[].toArray⟩
noncomputable def o139(P:Params):Obj:=⟨(.type "tuple"),none,(.seq [].toArray 0),[].toArray⟩
noncomputable def o140(P:Params):Obj:=⟨.none,none,(.fields [].toArray),[].toArray⟩
noncomputable def o141(P:Params):Obj:=⟨(.type "tuple"),none,(.seq [(.str (ofString "matches") 384),(.str (ofString "length") 385)].toArray 0),[].toArray⟩
noncomputable def o142(P:Params):Obj:=⟨(.type "tuple"),none,(.seq [].toArray 0),[].toArray⟩
noncomputable def ox143(p:Program)(P:Params):Obj:=⟨.none,none,(.func ⟨(ofString "_calculate_ratio"),(ofString "_calculate_ratio"),fnArgs (stP p 4),.stmts (fnBody (stP p 4)),fnScope (stP p 4),0,[],.none,.none,.none,.none,none,.none,.none,0⟩),[].toArray⟩
noncomputable def o144(P:Params):Obj:=⟨(.type "code"),none,(.fields [(.str (ofString "_calculate_ratio") 381),(.str (ofString "_calculate_ratio") 382),(.str (ofString "/claim/cut.py") 383),(.int (66) 0),(.int (2) 0),(.int (0) 0),(.int (0) 0),(.int (3) 0),(.ref 139),(.bool true),(.int (181) 0),(.ref 140),.none,(.ref 141),(.ref 142),(.ref 143),(.int (386) 0),(.int (66) 0),(.str (ofString "/claim/cut.py") 387)].toArray),[].toArray⟩
noncomputable def ox145(p:Program)(P:Params):Obj:=⟨(.type "function"),none,(.func ⟨(ofString "_calculate_ratio"),(ofString "_calculate_ratio"),fnArgs (stP p 4),.stmts (fnBody (stP p 4)),fnScope (stP p 4),3,[],.none,.none,.none,(.str (ofString "cpy313.difflib") 194),none,(.ref 144),.none,0⟩),[].toArray⟩
noncomputable def o145:Params→Obj:=ox145 prog
noncomputable def o146(P:Params):Obj:=⟨(.type "tuple"),none,(.seq [].toArray 0),[].toArray⟩
noncomputable def o147(P:Params):Obj:=⟨(.type "builtin_function_or_method"),none,(.fields [(.builtin "type.__prepare__"),(.type "type")].toArray),[].toArray⟩
noncomputable def ox148(p:Program)(P:Params):Obj:=⟨(.type "dict"),none,(.dict [⟨keyHash P (ofString "__module__"),(.str (ofString "__module__") 396),(.str (ofString "cpy313.difflib") 194)⟩,⟨keyHash P (ofString "__qualname__"),(.str (ofString "__qualname__") 398),(.str (ofString "SequenceMatcher") 397)⟩,⟨keyHash P (ofString "__firstlineno__"),(.str (ofString "__firstlineno__") 400),(.int (70) 399)⟩,⟨keyHash P (ofString "__doc__"),(.str (ofString "__doc__") 402),(.str (docS (clBody (stP p 5))) 401)⟩,⟨keyHash P (ofString "__init__"),(.str (ofString "__init__") 417),(.ref 160)⟩,⟨keyHash P (ofString "set_seqs"),(.str (ofString "set_seqs") 427),(.ref 167)⟩,⟨keyHash P (ofString "set_seq1"),(.str (ofString "set_seq1") 436),(.ref 174)⟩,⟨keyHash P (ofString "set_seq2"),(.str (ofString "set_seq2") 445),(.ref 181)⟩,⟨keyHash P (ofString "_SequenceMatcher__chain_b"),(.str (ofString "_SequenceMatcher__chain_b") 463),(.ref 188)⟩,⟨keyHash P (ofString "find_longest_match"),(.str (ofString "find_longest_match") 491),(.ref 196)⟩,⟨keyHash P (ofString "get_matching_blocks"),(.str (ofString "get_matching_blocks") 518),(.ref 203)⟩,⟨keyHash P (ofString "get_opcodes"),(.str (ofString "get_opcodes") 525),(.ref 210)⟩,⟨keyHash P (ofString "get_grouped_opcodes"),(.str (ofString "get_grouped_opcodes") 534),(.ref 218)⟩,⟨keyHash P (ofString "ratio"),(.str (ofString "ratio") 543),(.ref 225)⟩,⟨keyHash P (ofString "quick_ratio"),(.str (ofString "quick_ratio") 557),(.ref 232)⟩,⟨keyHash P (ofString "real_quick_ratio"),(.str (ofString "real_quick_ratio") 567),(.ref 239)⟩,⟨keyHash P (ofString "__static_attributes__"),(.str (ofString "__static_attributes__") 578),(.ref 240)⟩].toArray 17),[].toArray⟩
noncomputable def o149(P:Params):Obj:=⟨(.type "tuple"),none,(.seq [].toArray 0),[].toArray⟩
noncomputable def o150(P:Params):Obj:=⟨.none,none,(.fields [(.int (145) 0),(.int (4) 0),(.ref 159),(.int (173) 0),(.int (4) 0),(.ref 166),(.int (184) 0),(.int (4) 0),(.ref 173),(.int (209) 0),(.int (4) 0),(.ref 180),(.int (236) 0),(.int (4) 0),(.ref 187),(.int (260) 0),(.int (4) 0),(.ref 195),(.int (335) 0),(.int (4) 0),(.ref 202),(.int (383) 0),(.int (4) 0),(.ref 209),(.int (386) 0),(.int (4) 0),(.ref 217),(.int (389) 0),(.int (4) 0),(.ref 224),(.int (413) 0),(.int (4) 0),(.ref 231),(.int (436) 0),(.int (4) 0),(.ref 238)].toArray),[].toArray⟩
noncomputable def o151(P:Params):Obj:=⟨(.type "code"),none,(.fields [(.str (ofString "SequenceMatcher") 391),(.str (ofString "SequenceMatcher") 392),(.str (ofString "/claim/cut.py") 393),(.int (70) 0),(.int (0) 0),(.int (0) 0),(.int (0) 0),(.int (0) 0),(.ref 149),(.bool false),(.int (181) 0),(.ref 150),.none,.none,.none,.none,(.int (394) 0),(.int (70) 0),(.str (ofString "/claim/cut.py") 395)].toArray),[].toArray⟩
noncomputable def o152(P:Params):Obj:=⟨(.type "frame"),none,.plain,[some (.ref 151),some (.ref 3),some (.ref 148),none,some (.str (ofString "cpy313.difflib") 194),none,some (.ref 0)].toArray⟩
noncomputable def o153(P:Params):Obj:=⟨(.type "tuple"),none,(.seq [.none,(.str (ofString "") 404),(.str (ofString "") 405),(.bool true)].toArray 0),[].toArray⟩
noncomputable def o154(P:Params):Obj:=⟨(.type "tuple"),none,(.seq [].toArray 0),[].toArray⟩
noncomputable def o155(P:Params):Obj:=⟨.none,none,(.fields [].toArray),[].toArray⟩
noncomputable def o156(P:Params):Obj:=⟨(.type "tuple"),none,(.seq [(.str (ofString "self") 409),(.str (ofString "isjunk") 410),(.str (ofString "a") 411),(.str (ofString "b") 412),(.str (ofString "autojunk") 413)].toArray 0),[].toArray⟩
noncomputable def o157(P:Params):Obj:=⟨(.type "tuple"),none,(.seq [].toArray 0),[].toArray⟩
noncomputable def ox158(p:Program)(P:Params):Obj:=⟨.none,none,(.func ⟨(ofString "__init__"),(ofString "SequenceMatcher.__init__"),fnArgs (inP p 5 1),.stmts (fnBody (inP p 5 1)),fnScope (inP p 5 1),0,[],.none,.none,.none,.none,none,.none,.none,0⟩),[].toArray⟩
noncomputable def o159(P:Params):Obj:=⟨(.type "code"),none,(.fields [(.str (ofString "__init__") 406),(.str (ofString "SequenceMatcher.__init__") 407),(.str (ofString "/claim/cut.py") 408),(.int (145) 0),(.int (5) 0),(.int (0) 0),(.int (0) 0),(.int (3) 0),(.ref 154),(.bool true),(.int (181) 0),(.ref 155),.none,(.ref 156),(.ref 157),(.ref 158),(.int (414) 0),(.int (145) 0),(.str (ofString "/claim/cut.py") 415)].toArray),[].toArray⟩
noncomputable def ox160(p:Program)(P:Params):Obj:=⟨(.type "function"),none,(.func ⟨(ofString "__init__"),(ofString "SequenceMatcher.__init__"),fnArgs (inP p 5 1),.stmts (fnBody (inP p 5 1)),fnScope (inP p 5 1),3,[],(.ref 153),.none,(.str (docS (fnBody (inP p 5 1))) 416),(.str (ofString "cpy313.difflib") 194),none,(.ref 159),.none,0⟩),[].toArray⟩
noncomputable def o160:Params→Obj:=ox160 prog
noncomputable def o161(P:Params):Obj:=⟨(.type "tuple"),none,(.seq [].toArray 0),[].toArray⟩
noncomputable def o162(P:Params):Obj:=⟨.none,none,(.fields [].toArray),[].toArray⟩
noncomputable def o163(P:Params):Obj:=⟨(.type "tuple"),none,(.seq [(.str (ofString "self") 421),(.str (ofString "a") 422),(.str (ofString "b") 423)].toArray 0),[].toArray⟩
noncomputable def o164(P:Params):Obj:=⟨(.type "tuple"),none,(.seq [].toArray 0),[].toArray⟩
noncomputable def ox165(p:Program)(P:Params):Obj:=⟨.none,none,(.func ⟨(ofString "set_seqs"),(ofString "SequenceMatcher.set_seqs"),fnArgs (inP p 5 2),.stmts (fnBody (inP p 5 2)),fnScope (inP p 5 2),0,[],.none,.none,.none,.none,none,.none,.none,0⟩),[].toArray⟩
noncomputable def o166(P:Params):Obj:=⟨(.type "code"),none,(.fields [(.str (ofString "set_seqs") 418),(.str (ofString "SequenceMatcher.set_seqs") 419),(.str (ofString "/claim/cut.py") 420),(.int (173) 0),(.int (3) 0),(.int (0) 0),(.int (0) 0),(.int (3) 0),(.ref 161),(.bool true),(.int (181) 0),(.ref 162),.none,(.ref 163),(.ref 164),(.ref 165),(.int (424) 0),(.int (173) 0),(.str (ofString "/claim/cut.py") 425)].toArray),[].toArray⟩
noncomputable def ox167(p:Program)(P:Params):Obj:=⟨(.type "function"),none,(.func ⟨(ofString "set_seqs"),(ofString "SequenceMatcher.set_seqs"),fnArgs (inP p 5 2),.stmts (fnBody (inP p 5 2)),fnScope (inP p 5 2),3,[],.none,.none,(.str (docS (fnBody (inP p 5 2))) 426),(.str (ofString "cpy313.difflib") 194),none,(.ref 166),.none,0⟩),[].toArray⟩
noncomputable def o167:Params→Obj:=ox167 prog
noncomputable def o168(P:Params):Obj:=⟨(.type "tuple"),none,(.seq [].toArray 0),[].toArray⟩
noncomputable def o169(P:Params):Obj:=⟨.none,none,(.fields [].toArray),[].toArray⟩
noncomputable def o170(P:Params):Obj:=⟨(.type "tuple"),none,(.seq [(.str (ofString "self") 431),(.str (ofString "a") 432)].toArray 0),[].toArray⟩
noncomputable def o171(P:Params):Obj:=⟨(.type "tuple"),none,(.seq [].toArray 0),[].toArray⟩
noncomputable def ox172(p:Program)(P:Params):Obj:=⟨.none,none,(.func ⟨(ofString "set_seq1"),(ofString "SequenceMatcher.set_seq1"),fnArgs (inP p 5 3),.stmts (fnBody (inP p 5 3)),fnScope (inP p 5 3),0,[],.none,.none,.none,.none,none,.none,.none,0⟩),[].toArray⟩
noncomputable def o173(P:Params):Obj:=⟨(.type "code"),none,(.fields [(.str (ofString "set_seq1") 428),(.str (ofString "SequenceMatcher.set_seq1") 429),(.str (ofString "/claim/cut.py") 430),(.int (184) 0),(.int (2) 0),(.int (0) 0),(.int (0) 0),(.int (3) 0),(.ref 168),(.bool true),(.int (181) 0),(.ref 169),.none,(.ref 170),(.ref 171),(.ref 172),(.int (433) 0),(.int (184) 0),(.str (ofString "/claim/cut.py") 434)].toArray),[].toArray⟩
noncomputable def ox174(p:Program)(P:Params):Obj:=⟨(.type "function"),none,(.func ⟨(ofString "set_seq1"),(ofString "SequenceMatcher.set_seq1"),fnArgs (inP p 5 3),.stmts (fnBody (inP p 5 3)),fnScope (inP p 5 3),3,[],.none,.none,(.str (docS (fnBody (inP p 5 3))) 435),(.str (ofString "cpy313.difflib") 194),none,(.ref 173),.none,0⟩),[].toArray⟩
noncomputable def o174:Params→Obj:=ox174 prog
noncomputable def o175(P:Params):Obj:=⟨(.type "tuple"),none,(.seq [].toArray 0),[].toArray⟩
noncomputable def o176(P:Params):Obj:=⟨.none,none,(.fields [].toArray),[].toArray⟩
noncomputable def o177(P:Params):Obj:=⟨(.type "tuple"),none,(.seq [(.str (ofString "self") 440),(.str (ofString "b") 441)].toArray 0),[].toArray⟩
noncomputable def o178(P:Params):Obj:=⟨(.type "tuple"),none,(.seq [].toArray 0),[].toArray⟩
noncomputable def ox179(p:Program)(P:Params):Obj:=⟨.none,none,(.func ⟨(ofString "set_seq2"),(ofString "SequenceMatcher.set_seq2"),fnArgs (inP p 5 4),.stmts (fnBody (inP p 5 4)),fnScope (inP p 5 4),0,[],.none,.none,.none,.none,none,.none,.none,0⟩),[].toArray⟩
noncomputable def o180(P:Params):Obj:=⟨(.type "code"),none,(.fields [(.str (ofString "set_seq2") 437),(.str (ofString "SequenceMatcher.set_seq2") 438),(.str (ofString "/claim/cut.py") 439),(.int (209) 0),(.int (2) 0),(.int (0) 0),(.int (0) 0),(.int (3) 0),(.ref 175),(.bool true),(.int (181) 0),(.ref 176),.none,(.ref 177),(.ref 178),(.ref 179),(.int (442) 0),(.int (209) 0),(.str (ofString "/claim/cut.py") 443)].toArray),[].toArray⟩
noncomputable def ox181(p:Program)(P:Params):Obj:=⟨(.type "function"),none,(.func ⟨(ofString "set_seq2"),(ofString "SequenceMatcher.set_seq2"),fnArgs (inP p 5 4),.stmts (fnBody (inP p 5 4)),fnScope (inP p 5 4),3,[],.none,.none,(.str (docS (fnBody (inP p 5 4))) 444),(.str (ofString "cpy313.difflib") 194),none,(.ref 180),.none,0⟩),[].toArray⟩
noncomputable def o181:Params→Obj:=ox181 prog
noncomputable def o182(P:Params):Obj:=⟨(.type "tuple"),none,(.seq [].toArray 0),[].toArray⟩
noncomputable def o183(P:Params):Obj:=⟨.none,none,(.fields [].toArray),[].toArray⟩
noncomputable def o184(P:Params):Obj:=⟨(.type "tuple"),none,(.seq [(.str (ofString "self") 449),(.str (ofString "b") 450),(.str (ofString "b2j") 451),(.str (ofString "i") 452),(.str (ofString "elt") 453),(.str (ofString "indices") 454),(.str (ofString "junk") 455),(.str (ofString "isjunk") 456),(.str (ofString "popular") 457),(.str (ofString "n") 458),(.str (ofString "ntest") 459),(.str (ofString "idxs") 460)].toArray 0),[].toArray⟩
noncomputable def o185(P:Params):Obj:=⟨(.type "tuple"),none,(.seq [].toArray 0),[].toArray⟩
noncomputable def ox186(p:Program)(P:Params):Obj:=⟨.none,none,(.func ⟨(ofString "__chain_b"),(ofString "SequenceMatcher.__chain_b"),fnArgs (inP p 5 5),.stmts (fnBody (inP p 5 5)),fnScope (inP p 5 5),0,[],.none,.none,.none,.none,none,.none,.none,0⟩),[].toArray⟩
noncomputable def o187(P:Params):Obj:=⟨(.type "code"),none,(.fields [(.str (ofString "__chain_b") 446),(.str (ofString "SequenceMatcher.__chain_b") 447),(.str (ofString "/claim/cut.py") 448),(.int (236) 0),(.int (1) 0),(.int (0) 0),(.int (0) 0),(.int (3) 0),(.ref 182),(.bool true),(.int (181) 0),(.ref 183),.none,(.ref 184),(.ref 185),(.ref 186),(.int (461) 0),(.int (236) 0),(.str (ofString "/claim/cut.py") 462)].toArray),[].toArray⟩
noncomputable def ox188(p:Program)(P:Params):Obj:=⟨(.type "function"),none,(.func ⟨(ofString "__chain_b"),(ofString "SequenceMatcher.__chain_b"),fnArgs (inP p 5 5),.stmts (fnBody (inP p 5 5)),fnScope (inP p 5 5),3,[],.none,.none,.none,(.str (ofString "cpy313.difflib") 194),none,(.ref 187),.none,0⟩),[].toArray⟩
noncomputable def o188:Params→Obj:=ox188 prog
noncomputable def o189(P:Params):Obj:=⟨(.type "tuple"),none,(.seq [(.int (0) 464),.none,(.int (0) 465),.none].toArray 0),[].toArray⟩
noncomputable def o190(P:Params):Obj:=⟨(.type "tuple"),none,(.seq [].toArray 0),[].toArray⟩
noncomputable def o191(P:Params):Obj:=⟨.none,none,(.fields [].toArray),[].toArray⟩
noncomputable def o192(P:Params):Obj:=⟨(.type "tuple"),none,(.seq [(.str (ofString "self") 469),(.str (ofString "alo") 470),(.str (ofString "ahi") 471),(.str (ofString "blo") 472),(.str (ofString "bhi") 473),(.str (ofString "a") 474),(.str (ofString "b") 475),(.str (ofString "b2j") 476),(.str (ofString "isbjunk") 477),(.str (ofString "besti") 478),(.str (ofString "bestj") 479),(.str (ofString "bestsize") 480),(.str (ofString "j2len") 481),(.str (ofString "nothing") 482),(.str (ofString "i") 483),(.str (ofString "j2lenget") 484),(.str (ofString "newj2len") 485),(.str (ofString "j") 486),(.str (ofString "k") 487)].toArray 0),[].toArray⟩
noncomputable def o193(P:Params):Obj:=⟨(.type "tuple"),none,(.seq [].toArray 0),[].toArray⟩
noncomputable def ox194(p:Program)(P:Params):Obj:=⟨.none,none,(.func ⟨(ofString "find_longest_match"),(ofString "SequenceMatcher.find_longest_match"),fnArgs (inP p 5 6),.stmts (fnBody (inP p 5 6)),fnScope (inP p 5 6),0,[],.none,.none,.none,.none,none,.none,.none,0⟩),[].toArray⟩
noncomputable def o195(P:Params):Obj:=⟨(.type "code"),none,(.fields [(.str (ofString "find_longest_match") 466),(.str (ofString "SequenceMatcher.find_longest_match") 467),(.str (ofString "/claim/cut.py") 468),(.int (260) 0),(.int (5) 0),(.int (0) 0),(.int (0) 0),(.int (3) 0),(.ref 190),(.bool true),(.int (181) 0),(.ref 191),.none,(.ref 192),(.ref 193),(.ref 194),(.int (488) 0),(.int (260) 0),(.str (ofString "/claim/cut.py") 489)].toArray),[].toArray⟩
noncomputable def ox196(p:Program)(P:Params):Obj:=⟨(.type "function"),none,(.func ⟨(ofString "find_longest_match"),(ofString "SequenceMatcher.find_longest_match"),fnArgs (inP p 5 6),.stmts (fnBody (inP p 5 6)),fnScope (inP p 5 6),3,[],(.ref 189),.none,(.str (docS (fnBody (inP p 5 6))) 490),(.str (ofString "cpy313.difflib") 194),none,(.ref 195),.none,0⟩),[].toArray⟩
noncomputable def o196:Params→Obj:=ox196 prog
noncomputable def o197(P:Params):Obj:=⟨(.type "tuple"),none,(.seq [].toArray 0),[].toArray⟩
noncomputable def o198(P:Params):Obj:=⟨.none,none,(.fields [].toArray),[].toArray⟩
noncomputable def o199(P:Params):Obj:=⟨(.type "tuple"),none,(.seq [(.str (ofString "self") 495),(.str (ofString "la") 496),(.str (ofString "lb") 497),(.str (ofString "queue") 498),(.str (ofString "matching_blocks") 499),(.str (ofString "alo") 500),(.str (ofString "ahi") 501),(.str (ofString "blo") 502),(.str (ofString "bhi") 503),(.str (ofString "i") 504),(.str (ofString "j") 505),(.str (ofString "k") 506),(.str (ofString "x") 507),(.str (ofString "i1") 508),(.str (ofString "j1") 509),(.str (ofString "k1") 510),(.str (ofString "non_adjacent") 511),(.str (ofString "i2") 512),(.str (ofString "j2") 513),(.str (ofString "k2") 514)].toArray 0),[].toArray⟩
noncomputable def o200(P:Params):Obj:=⟨(.type "tuple"),none,(.seq [].toArray 0),[].toArray⟩
noncomputable def ox201(p:Program)(P:Params):Obj:=⟨.none,none,(.func ⟨(ofString "get_matching_blocks"),(ofString "SequenceMatcher.get_matching_blocks"),fnArgs (inP p 5 7),.stmts (fnBody (inP p 5 7)),fnScope (inP p 5 7),0,[],.none,.none,.none,.none,none,.none,.none,0⟩),[].toArray⟩
noncomputable def o202(P:Params):Obj:=⟨(.type "code"),none,(.fields [(.str (ofString "get_matching_blocks") 492),(.str (ofString "SequenceMatcher.get_matching_blocks") 493),(.str (ofString "/claim/cut.py") 494),(.int (335) 0),(.int (1) 0),(.int (0) 0),(.int (0) 0),(.int (3) 0),(.ref 197),(.bool true),(.int (181) 0),(.ref 198),.none,(.ref 199),(.ref 200),(.ref 201),(.int (515) 0),(.int (335) 0),(.str (ofString "/claim/cut.py") 516)].toArray),[].toArray⟩
noncomputable def ox203(p:Program)(P:Params):Obj:=⟨(.type "function"),none,(.func ⟨(ofString "get_matching_blocks"),(ofString "SequenceMatcher.get_matching_blocks"),fnArgs (inP p 5 7),.stmts (fnBody (inP p 5 7)),fnScope (inP p 5 7),3,[],.none,.none,(.str (docS (fnBody (inP p 5 7))) 517),(.str (ofString "cpy313.difflib") 194),none,(.ref 202),.none,0⟩),[].toArray⟩
noncomputable def o203:Params→Obj:=ox203 prog
noncomputable def o204(P:Params):Obj:=⟨(.type "tuple"),none,(.seq [].toArray 0),[].toArray⟩
noncomputable def o205(P:Params):Obj:=⟨.none,none,(.fields [].toArray),[].toArray⟩
noncomputable def o206(P:Params):Obj:=⟨(.type "tuple"),none,(.seq [(.str (ofString "self") 522)].toArray 0),[].toArray⟩
noncomputable def o207(P:Params):Obj:=⟨(.type "tuple"),none,(.seq [].toArray 0),[].toArray⟩
noncomputable def ox208(p:Program)(P:Params):Obj:=⟨.none,none,(.func ⟨(ofString "get_opcodes"),(ofString "SequenceMatcher.get_opcodes"),fnArgs (inP p 5 8),.stmts (fnBody (inP p 5 8)),fnScope (inP p 5 8),0,[],.none,.none,.none,.none,none,.none,.none,0⟩),[].toArray⟩
noncomputable def o209(P:Params):Obj:=⟨(.type "code"),none,(.fields [(.str (ofString "get_opcodes") 519),(.str (ofString "SequenceMatcher.get_opcodes") 520),(.str (ofString "/claim/cut.py") 521),(.int (383) 0),(.int (1) 0),(.int (0) 0),(.int (0) 0),(.int (3) 0),(.ref 204),(.bool true),(.int (181) 0),(.ref 205),.none,(.ref 206),(.ref 207),(.ref 208),(.int (523) 0),(.int (383) 0),(.str (ofString "/claim/cut.py") 524)].toArray),[].toArray⟩
noncomputable def ox210(p:Program)(P:Params):Obj:=⟨(.type "function"),none,(.func ⟨(ofString "get_opcodes"),(ofString "SequenceMatcher.get_opcodes"),fnArgs (inP p 5 8),.stmts (fnBody (inP p 5 8)),fnScope (inP p 5 8),3,[],.none,.none,.none,(.str (ofString "cpy313.difflib") 194),none,(.ref 209),.none,0⟩),[].toArray⟩
noncomputable def o210:Params→Obj:=ox210 prog
noncomputable def o211(P:Params):Obj:=⟨(.type "tuple"),none,(.seq [(.int (3) 526)].toArray 0),[].toArray⟩
noncomputable def o212(P:Params):Obj:=⟨(.type "tuple"),none,(.seq [].toArray 0),[].toArray⟩
noncomputable def o213(P:Params):Obj:=⟨.none,none,(.fields [].toArray),[].toArray⟩
noncomputable def o214(P:Params):Obj:=⟨(.type "tuple"),none,(.seq [(.str (ofString "self") 530),(.str (ofString "n") 531)].toArray 0),[].toArray⟩
noncomputable def o215(P:Params):Obj:=⟨(.type "tuple"),none,(.seq [].toArray 0),[].toArray⟩
noncomputable def ox216(p:Program)(P:Params):Obj:=⟨.none,none,(.func ⟨(ofString "get_grouped_opcodes"),(ofString "SequenceMatcher.get_grouped_opcodes"),fnArgs (inP p 5 9),.stmts (fnBody (inP p 5 9)),fnScope (inP p 5 9),0,[],.none,.none,.none,.none,none,.none,.none,0⟩),[].toArray⟩
noncomputable def o217(P:Params):Obj:=⟨(.type "code"),none,(.fields [(.str (ofString "get_grouped_opcodes") 527),(.str (ofString "SequenceMatcher.get_grouped_opcodes") 528),(.str (ofString "/claim/cut.py") 529),(.int (386) 0),(.int (2) 0),(.int (0) 0),(.int (0) 0),(.int (3) 0),(.ref 212),(.bool true),(.int (181) 0),(.ref 213),.none,(.ref 214),(.ref 215),(.ref 216),(.int (532) 0),(.int (386) 0),(.str (ofString "/claim/cut.py") 533)].toArray),[].toArray⟩
noncomputable def ox218(p:Program)(P:Params):Obj:=⟨(.type "function"),none,(.func ⟨(ofString "get_grouped_opcodes"),(ofString "SequenceMatcher.get_grouped_opcodes"),fnArgs (inP p 5 9),.stmts (fnBody (inP p 5 9)),fnScope (inP p 5 9),3,[],(.ref 211),.none,.none,(.str (ofString "cpy313.difflib") 194),none,(.ref 217),.none,0⟩),[].toArray⟩
noncomputable def o218:Params→Obj:=ox218 prog
noncomputable def o219(P:Params):Obj:=⟨(.type "tuple"),none,(.seq [].toArray 0),[].toArray⟩
noncomputable def o220(P:Params):Obj:=⟨.none,none,(.fields [].toArray),[].toArray⟩
noncomputable def o221(P:Params):Obj:=⟨(.type "tuple"),none,(.seq [(.str (ofString "self") 538),(.str (ofString "matches") 539)].toArray 0),[].toArray⟩
noncomputable def o222(P:Params):Obj:=⟨(.type "tuple"),none,(.seq [].toArray 0),[].toArray⟩
noncomputable def ox223(p:Program)(P:Params):Obj:=⟨.none,none,(.func ⟨(ofString "ratio"),(ofString "SequenceMatcher.ratio"),fnArgs (inP p 5 10),.stmts (fnBody (inP p 5 10)),fnScope (inP p 5 10),0,[],.none,.none,.none,.none,none,.none,.none,0⟩),[].toArray⟩
noncomputable def o224(P:Params):Obj:=⟨(.type "code"),none,(.fields [(.str (ofString "ratio") 535),(.str (ofString "SequenceMatcher.ratio") 536),(.str (ofString "/claim/cut.py") 537),(.int (389) 0),(.int (1) 0),(.int (0) 0),(.int (0) 0),(.int (3) 0),(.ref 219),(.bool true),(.int (181) 0),(.ref 220),.none,(.ref 221),(.ref 222),(.ref 223),(.int (540) 0),(.int (389) 0),(.str (ofString "/claim/cut.py") 541)].toArray),[].toArray⟩
noncomputable def ox225(p:Program)(P:Params):Obj:=⟨(.type "function"),none,(.func ⟨(ofString "ratio"),(ofString "SequenceMatcher.ratio"),fnArgs (inP p 5 10),.stmts (fnBody (inP p 5 10)),fnScope (inP p 5 10),3,[],.none,.none,(.str (docS (fnBody (inP p 5 10))) 542),(.str (ofString "cpy313.difflib") 194),none,(.ref 224),.none,0⟩),[].toArray⟩
noncomputable def o225:Params→Obj:=ox225 prog
noncomputable def o226(P:Params):Obj:=⟨(.type "tuple"),none,(.seq [].toArray 0),[].toArray⟩
noncomputable def o227(P:Params):Obj:=⟨.none,none,(.fields [].toArray),[].toArray⟩
noncomputable def o228(P:Params):Obj:=⟨(.type "tuple"),none,(.seq [(.str (ofString "self") 547),(.str (ofString "fullbcount") 548),(.str (ofString "elt") 549),(.str (ofString "avail") 550),(.str (ofString "availhas") 551),(.str (ofString "matches") 552),(.str (ofString "numb") 553)].toArray 0),[].toArray⟩
noncomputable def o229(P:Params):Obj:=⟨(.type "tuple"),none,(.seq [].toArray 0),[].toArray⟩
noncomputable def ox230(p:Program)(P:Params):Obj:=⟨.none,none,(.func ⟨(ofString "quick_ratio"),(ofString "SequenceMatcher.quick_ratio"),fnArgs (inP p 5 11),.stmts (fnBody (inP p 5 11)),fnScope (inP p 5 11),0,[],.none,.none,.none,.none,none,.none,.none,0⟩),[].toArray⟩
noncomputable def o231(P:Params):Obj:=⟨(.type "code"),none,(.fields [(.str (ofString "quick_ratio") 544),(.str (ofString "SequenceMatcher.quick_ratio") 545),(.str (ofString "/claim/cut.py") 546),(.int (413) 0),(.int (1) 0),(.int (0) 0),(.int (0) 0),(.int (3) 0),(.ref 226),(.bool true),(.int (181) 0),(.ref 227),.none,(.ref 228),(.ref 229),(.ref 230),(.int (554) 0),(.int (413) 0),(.str (ofString "/claim/cut.py") 555)].toArray),[].toArray⟩
noncomputable def ox232(p:Program)(P:Params):Obj:=⟨(.type "function"),none,(.func ⟨(ofString "quick_ratio"),(ofString "SequenceMatcher.quick_ratio"),fnArgs (inP p 5 11),.stmts (fnBody (inP p 5 11)),fnScope (inP p 5 11),3,[],.none,.none,(.str (docS (fnBody (inP p 5 11))) 556),(.str (ofString "cpy313.difflib") 194),none,(.ref 231),.none,0⟩),[].toArray⟩
noncomputable def o232:Params→Obj:=ox232 prog
noncomputable def o233(P:Params):Obj:=⟨(.type "tuple"),none,(.seq [].toArray 0),[].toArray⟩
noncomputable def o234(P:Params):Obj:=⟨.none,none,(.fields [].toArray),[].toArray⟩
noncomputable def o235(P:Params):Obj:=⟨(.type "tuple"),none,(.seq [(.str (ofString "self") 561),(.str (ofString "la") 562),(.str (ofString "lb") 563)].toArray 0),[].toArray⟩
noncomputable def o236(P:Params):Obj:=⟨(.type "tuple"),none,(.seq [].toArray 0),[].toArray⟩
noncomputable def ox237(p:Program)(P:Params):Obj:=⟨.none,none,(.func ⟨(ofString "real_quick_ratio"),(ofString "SequenceMatcher.real_quick_ratio"),fnArgs (inP p 5 12),.stmts (fnBody (inP p 5 12)),fnScope (inP p 5 12),0,[],.none,.none,.none,.none,none,.none,.none,0⟩),[].toArray⟩
noncomputable def o238(P:Params):Obj:=⟨(.type "code"),none,(.fields [(.str (ofString "real_quick_ratio") 558),(.str (ofString "SequenceMatcher.real_quick_ratio") 559),(.str (ofString "/claim/cut.py") 560),(.int (436) 0),(.int (1) 0),(.int (0) 0),(.int (0) 0),(.int (3) 0),(.ref 233),(.bool true),(.int (181) 0),(.ref 234),.none,(.ref 235),(.ref 236),(.ref 237),(.int (564) 0),(.int (436) 0),(.str (ofString "/claim/cut.py") 565)].toArray),[].toArray⟩
noncomputable def ox239(p:Program)(P:Params):Obj:=⟨(.type "function"),none,(.func ⟨(ofString "real_quick_ratio"),(ofString "SequenceMatcher.real_quick_ratio"),fnArgs (inP p 5 12),.stmts (fnBody (inP p 5 12)),fnScope (inP p 5 12),3,[],.none,.none,(.str (docS (fnBody (inP p 5 12))) 566),(.str (ofString "cpy313.difflib") 194),none,(.ref 238),.none,0⟩),[].toArray⟩
noncomputable def o239:Params→Obj:=ox239 prog
noncomputable def o240(P:Params):Obj:=⟨(.type "tuple"),none,(.seq [(.str (ofString "a") 568),(.str (ofString "autojunk") 569),(.str (ofString "b") 570),(.str (ofString "b2j") 571),(.str (ofString "bjunk") 572),(.str (ofString "bpopular") 573),(.str (ofString "fullbcount") 574),(.str (ofString "isjunk") 575),(.str (ofString "matching_blocks") 576),(.str (ofString "opcodes") 577)].toArray 0),[].toArray⟩
noncomputable def ox241(p:Program)(P:Params):Obj:=⟨(.type "dict"),none,(.dict [⟨keyHash P (ofString "__module__"),(.str (ofString "__module__") 396),(.str (ofString "cpy313.difflib") 194)⟩,⟨keyHash P (ofString "__firstlineno__"),(.str (ofString "__firstlineno__") 400),(.int (70) 399)⟩,⟨keyHash P (ofString "__doc__"),(.str (ofString "__doc__") 402),(.str (docS (clBody (stP p 5))) 401)⟩,⟨keyHash P (ofString "__init__"),(.str (ofString "__init__") 417),(.ref 160)⟩,⟨keyHash P (ofString "set_seqs"),(.str (ofString "set_seqs") 427),(.ref 167)⟩,⟨keyHash P (ofString "set_seq1"),(.str (ofString "set_seq1") 436),(.ref 174)⟩,⟨keyHash P (ofString "set_seq2"),(.str (ofString "set_seq2") 445),(.ref 181)⟩,⟨keyHash P (ofString "_SequenceMatcher__chain_b"),(.str (ofString "_SequenceMatcher__chain_b") 463),(.ref 188)⟩,⟨keyHash P (ofString "find_longest_match"),(.str (ofString "find_longest_match") 491),(.ref 196)⟩,⟨keyHash P (ofString "get_matching_blocks"),(.str (ofString "get_matching_blocks") 518),(.ref 203)⟩,⟨keyHash P (ofString "get_opcodes"),(.str (ofString "get_opcodes") 525),(.ref 210)⟩,⟨keyHash P (ofString "get_grouped_opcodes"),(.str (ofString "get_grouped_opcodes") 534),(.ref 218)⟩,⟨keyHash P (ofString "ratio"),(.str (ofString "ratio") 543),(.ref 225)⟩,⟨keyHash P (ofString "quick_ratio"),(.str (ofString "quick_ratio") 557),(.ref 232)⟩,⟨keyHash P (ofString "real_quick_ratio"),(.str (ofString "real_quick_ratio") 567),(.ref 239)⟩,⟨keyHash P (ofString "__static_attributes__"),(.str (ofString "__static_attributes__") 578),(.ref 240)⟩,⟨keyHash P (ofString "__dict__"),(.str (ofString "__dict__") 580),(.ref 243)⟩,⟨keyHash P (ofString "__weakref__"),(.str (ofString "__weakref__") 582),(.ref 244)⟩].toArray 3),[].toArray⟩
noncomputable def o241:Params→Obj:=ox241 prog
noncomputable def o242(P:Params):Obj:=⟨(.type "type"),none,(.cls ⟨(ofString "SequenceMatcher"),[(.type "object")],[(.ref 242),(.type "object")],241,(ofString "SequenceMatcher"),true,[],[],false,none,false⟩),[none,none,some (.str (ofString "SequenceMatcher") 389),some (.str (ofString "SequenceMatcher") 397),some (.builtin "object.__new__"),some (.bool true)].toArray⟩
noncomputable def o243(P:Params):Obj:=⟨(.type "getset_descriptor"),none,(.fields [(.str (ofString "__dict__") 579),(.ref 242),(.builtin "function.__dict__"),(.builtin "function.__dict__#set")].toArray),[].toArray⟩
noncomputable def o244(P:Params):Obj:=⟨(.type "getset_descriptor"),none,(.fields [(.str (ofString "__weakref__") 581),(.ref 242),(.builtin "ExceptionGroup.__weakref__"),.none].toArray),[].toArray⟩
noncomputable def o245(P:Params):Obj:=⟨(.type "super"),none,(.fields [(.ref 242),(.ref 242),(.ref 242)].toArray),[].toArray⟩
noncomputable def o246(P:Params):Obj:=⟨(.type "builtin_function_or_method"),none,(.fields [(.builtin "object.__init_subclass__"),(.ref 242)].toArray),[].toArray⟩
noncomputable def o247(P:Params):Obj:=⟨(.type "tuple"),none,(.seq [].toArray 0),[].toArray⟩
noncomputable def o248(P:Params):Obj:=⟨.none,none,(.fields [].toArray),[].toArray⟩
noncomputable def ox249(p:Program)(P:Params):Obj:=⟨.none,none,(.func ⟨(ofString "_law_told"),(ofString "_law_told"),fnArgs (stP p 7),.stmts (fnBody (stP p 7)),fnScope (stP p 7),0,[],.none,.none,.none,.none,none,.none,.none,0⟩),[].toArray⟩
noncomputable def o250(P:Params):Obj:=⟨(.type "code"),none,(.fields [(.str (ofString "_law_told") 587),(.str (ofString "_law_told") 588),(.str (ofString "/claim/cut.py") 589),(.int (445) 0),(.int (2) 0),(.int (0) 0),(.int (0) 0),(.int (3) 0),(.ref 247),(.bool true),(.int (181) 0),(.ref 248),.none,.none,.none,(.ref 249),(.int (590) 0),(.int (445) 0),(.str (ofString "/claim/cut.py") 591)].toArray),[].toArray⟩
noncomputable def ox251(p:Program)(P:Params):Obj:=⟨(.type "function"),none,(.func ⟨(ofString "_law_told"),(ofString "_law_told"),fnArgs (stP p 7),.stmts (fnBody (stP p 7)),fnScope (stP p 7),3,[],.none,.none,.none,(.str (ofString "law_mt0005_01") 585),none,(.ref 250),.none,0⟩),[].toArray⟩
noncomputable def o251:Params→Obj:=ox251 prog
noncomputable def o252(P:Params):Obj:=⟨(.type "tuple"),none,(.seq [].toArray 0),[].toArray⟩
noncomputable def o253(P:Params):Obj:=⟨.none,none,(.fields [].toArray),[].toArray⟩
noncomputable def ox254(p:Program)(P:Params):Obj:=⟨.none,none,(.func ⟨(ofString "_law_items"),(ofString "_law_items"),fnArgs (stP p 8),.stmts (fnBody (stP p 8)),fnScope (stP p 8),0,[],.none,.none,.none,.none,none,.none,.none,0⟩),[].toArray⟩
noncomputable def o255(P:Params):Obj:=⟨(.type "code"),none,(.fields [(.str (ofString "_law_items") 593),(.str (ofString "_law_items") 594),(.str (ofString "/claim/cut.py") 595),(.int (449) 0),(.int (2) 0),(.int (0) 0),(.int (0) 0),(.int (3) 0),(.ref 252),(.bool true),(.int (181) 0),(.ref 253),.none,.none,.none,(.ref 254),(.int (596) 0),(.int (449) 0),(.str (ofString "/claim/cut.py") 597)].toArray),[].toArray⟩
noncomputable def ox256(p:Program)(P:Params):Obj:=⟨(.type "function"),none,(.func ⟨(ofString "_law_items"),(ofString "_law_items"),fnArgs (stP p 8),.stmts (fnBody (stP p 8)),fnScope (stP p 8),3,[],.none,.none,.none,(.str (ofString "law_mt0005_01") 585),none,(.ref 255),.none,0⟩),[].toArray⟩
noncomputable def o256:Params→Obj:=ox256 prog
noncomputable def o257(P:Params):Obj:=⟨(.type "tuple"),none,(.seq [].toArray 0),[].toArray⟩
noncomputable def o258(P:Params):Obj:=⟨.none,none,(.fields [].toArray),[].toArray⟩
noncomputable def o259(P:Params):Obj:=⟨(.type "tuple"),none,(.seq [(.str (ofString "matchers") 602),(.str (ofString "number") 603),(.str (ofString "size") 604),(.str (ofString "count") 605),(.str (ofString "told") 606),(.str (ofString "full") 607),(.str (ofString "less") 608)].toArray 0),[].toArray⟩
noncomputable def o260(P:Params):Obj:=⟨(.type "tuple"),none,(.seq [].toArray 0),[].toArray⟩
noncomputable def ox261(p:Program)(P:Params):Obj:=⟨.none,none,(.func ⟨(ofString "_law_count"),(ofString "_law_count"),fnArgs (stP p 9),.stmts (fnBody (stP p 9)),fnScope (stP p 9),0,[],.none,.none,.none,.none,none,.none,.none,0⟩),[].toArray⟩
noncomputable def o262(P:Params):Obj:=⟨(.type "code"),none,(.fields [(.str (ofString "_law_count") 599),(.str (ofString "_law_count") 600),(.str (ofString "/claim/cut.py") 601),(.int (451) 0),(.int (3) 0),(.int (0) 0),(.int (0) 0),(.int (3) 0),(.ref 257),(.bool true),(.int (181) 0),(.ref 258),.none,(.ref 259),(.ref 260),(.ref 261),(.int (609) 0),(.int (451) 0),(.str (ofString "/claim/cut.py") 610)].toArray),[].toArray⟩
noncomputable def ox263(p:Program)(P:Params):Obj:=⟨(.type "function"),none,(.func ⟨(ofString "_law_count"),(ofString "_law_count"),fnArgs (stP p 9),.stmts (fnBody (stP p 9)),fnScope (stP p 9),3,[],.none,.none,.none,(.str (ofString "law_mt0005_01") 585),none,(.ref 262),.none,0⟩),[].toArray⟩
noncomputable def o263:Params→Obj:=ox263 prog
noncomputable def o264(P:Params):Obj:=⟨(.type "tuple"),none,(.seq [].toArray 0),[].toArray⟩
noncomputable def o265(P:Params):Obj:=⟨.none,none,(.fields [].toArray),[].toArray⟩
noncomputable def o266(P:Params):Obj:=⟨(.type "tuple"),none,(.seq [(.str (ofString "matchers") 615),(.str (ofString "order") 616),(.str (ofString "number") 617),(.str (ofString "counts") 618),(.str (ofString "size") 619),(.str (ofString "places") 620),(.str (ofString "k") 621),(.str (ofString "guess") 622),(.str (ofString "full") 623),(.str (ofString "told") 624),(.str (ofString "side") 625)].toArray 0),[].toArray⟩
noncomputable def o267(P:Params):Obj:=⟨(.type "tuple"),none,(.seq [].toArray 0),[].toArray⟩
noncomputable def ox268(p:Program)(P:Params):Obj:=⟨.none,none,(.func ⟨(ofString "_law_places"),(ofString "_law_places"),fnArgs (stP p 10),.stmts (fnBody (stP p 10)),fnScope (stP p 10),0,[],.none,.none,.none,.none,none,.none,.none,0⟩),[].toArray⟩
noncomputable def o269(P:Params):Obj:=⟨(.type "code"),none,(.fields [(.str (ofString "_law_places") 612),(.str (ofString "_law_places") 613),(.str (ofString "/claim/cut.py") 614),(.int (461) 0),(.int (5) 0),(.int (0) 0),(.int (0) 0),(.int (3) 0),(.ref 264),(.bool true),(.int (181) 0),(.ref 265),.none,(.ref 266),(.ref 267),(.ref 268),(.int (626) 0),(.int (461) 0),(.str (ofString "/claim/cut.py") 627)].toArray),[].toArray⟩
noncomputable def ox270(p:Program)(P:Params):Obj:=⟨(.type "function"),none,(.func ⟨(ofString "_law_places"),(ofString "_law_places"),fnArgs (stP p 10),.stmts (fnBody (stP p 10)),fnScope (stP p 10),3,[],.none,.none,.none,(.str (ofString "law_mt0005_01") 585),none,(.ref 269),.none,0⟩),[].toArray⟩
noncomputable def o270:Params→Obj:=ox270 prog
noncomputable def o271(P:Params):Obj:=⟨(.type "tuple"),none,(.seq [].toArray 0),[].toArray⟩
noncomputable def o272(P:Params):Obj:=⟨.none,none,(.fields [].toArray),[].toArray⟩
noncomputable def ox273(p:Program)(P:Params):Obj:=⟨.none,none,(.func ⟨(ofString "_law_spied"),(ofString "_law_spied"),fnArgs (stP p 11),.stmts (fnBody (stP p 11)),fnScope (stP p 11),0,[],.none,.none,.none,.none,none,.none,.none,0⟩),[].toArray⟩
noncomputable def o274(P:Params):Obj:=⟨(.type "code"),none,(.fields [(.str (ofString "_law_spied") 629),(.str (ofString "_law_spied") 630),(.str (ofString "/claim/cut.py") 631),(.int (473) 0),(.int (2) 0),(.int (0) 0),(.int (0) 0),(.int (3) 0),(.ref 271),(.bool true),(.int (181) 0),(.ref 272),.none,.none,.none,(.ref 273),(.int (632) 0),(.int (473) 0),(.str (ofString "/claim/cut.py") 633)].toArray),[].toArray⟩
noncomputable def ox275(p:Program)(P:Params):Obj:=⟨(.type "function"),none,(.func ⟨(ofString "_law_spied"),(ofString "_law_spied"),fnArgs (stP p 11),.stmts (fnBody (stP p 11)),fnScope (stP p 11),3,[],.none,.none,.none,(.str (ofString "law_mt0005_01") 585),none,(.ref 274),.none,0⟩),[].toArray⟩
noncomputable def o275:Params→Obj:=ox275 prog
noncomputable def o276(P:Params):Obj:=⟨(.type "tuple"),none,(.seq [].toArray 0),[].toArray⟩
noncomputable def o277(P:Params):Obj:=⟨.none,none,(.fields [].toArray),[].toArray⟩
noncomputable def ox278(p:Program)(P:Params):Obj:=⟨.none,none,(.func ⟨(ofString "_law_lost"),(ofString "_law_lost"),fnArgs (stP p 12),.stmts (fnBody (stP p 12)),fnScope (stP p 12),0,[],.none,.none,.none,.none,none,.none,.none,0⟩),[].toArray⟩
noncomputable def o279(P:Params):Obj:=⟨(.type "code"),none,(.fields [(.str (ofString "_law_lost") 635),(.str (ofString "_law_lost") 636),(.str (ofString "/claim/cut.py") 637),(.int (491) 0),(.int (5) 0),(.int (0) 0),(.int (0) 0),(.int (3) 0),(.ref 276),(.bool true),(.int (181) 0),(.ref 277),.none,.none,.none,(.ref 278),(.int (638) 0),(.int (491) 0),(.str (ofString "/claim/cut.py") 639)].toArray),[].toArray⟩
noncomputable def ox280(p:Program)(P:Params):Obj:=⟨(.type "function"),none,(.func ⟨(ofString "_law_lost"),(ofString "_law_lost"),fnArgs (stP p 12),.stmts (fnBody (stP p 12)),fnScope (stP p 12),3,[],.none,.none,.none,(.str (ofString "law_mt0005_01") 585),none,(.ref 279),.none,0⟩),[].toArray⟩
noncomputable def o280:Params→Obj:=ox280 prog
noncomputable def o281(P:Params):Obj:=⟨(.type "tuple"),none,(.seq [].toArray 0),[].toArray⟩
noncomputable def o282(P:Params):Obj:=⟨.none,none,(.fields [].toArray),[].toArray⟩
noncomputable def o283(P:Params):Obj:=⟨(.type "tuple"),none,(.seq [(.str (ofString "matchers") 644),(.str (ofString "row") 645),(.str (ofString "order") 646),(.str (ofString "counts") 647),(.str (ofString "size") 648),(.str (ofString "r") 649),(.str (ofString "rest") 650),(.str (ofString "k") 651),(.str (ofString "guess") 652),(.str (ofString "told") 653),(.str (ofString "side") 654),(.str (ofString "lost") 655)].toArray 0),[].toArray⟩
noncomputable def o284(P:Params):Obj:=⟨(.type "tuple"),none,(.seq [].toArray 0),[].toArray⟩
noncomputable def ox285(p:Program)(P:Params):Obj:=⟨.none,none,(.func ⟨(ofString "_law_moved_right"),(ofString "_law_moved_right"),fnArgs (stP p 13),.stmts (fnBody (stP p 13)),fnScope (stP p 13),0,[],.none,.none,.none,.none,none,.none,.none,0⟩),[].toArray⟩
noncomputable def o286(P:Params):Obj:=⟨(.type "code"),none,(.fields [(.str (ofString "_law_moved_right") 641),(.str (ofString "_law_moved_right") 642),(.str (ofString "/claim/cut.py") 643),(.int (499) 0),(.int (5) 0),(.int (0) 0),(.int (0) 0),(.int (3) 0),(.ref 281),(.bool true),(.int (181) 0),(.ref 282),.none,(.ref 283),(.ref 284),(.ref 285),(.int (656) 0),(.int (499) 0),(.str (ofString "/claim/cut.py") 657)].toArray),[].toArray⟩
noncomputable def ox287(p:Program)(P:Params):Obj:=⟨(.type "function"),none,(.func ⟨(ofString "_law_moved_right"),(ofString "_law_moved_right"),fnArgs (stP p 13),.stmts (fnBody (stP p 13)),fnScope (stP p 13),3,[],.none,.none,.none,(.str (ofString "law_mt0005_01") 585),none,(.ref 286),.none,0⟩),[].toArray⟩
noncomputable def o287:Params→Obj:=ox287 prog
noncomputable def o288(P:Params):Obj:=⟨(.type "tuple"),none,(.seq [].toArray 0),[].toArray⟩
noncomputable def o289(P:Params):Obj:=⟨.none,none,(.fields [].toArray),[].toArray⟩
noncomputable def ox290(p:Program)(P:Params):Obj:=⟨.none,none,(.func ⟨(ofString "law"),(ofString "law"),fnArgs (stP p 14),.stmts (fnBody (stP p 14)),fnScope (stP p 14),0,[],.none,.none,.none,.none,none,.none,.none,0⟩),[].toArray⟩
noncomputable def o291(P:Params):Obj:=⟨(.type "code"),none,(.fields [(.str (ofString "law") 659),(.str (ofString "law") 660),(.str (ofString "/claim/cut.py") 661),(.int (510) 0),(.int (1) 0),(.int (0) 0),(.int (0) 0),(.int (3) 0),(.ref 288),(.bool true),(.int (181) 0),(.ref 289),.none,.none,.none,(.ref 290),(.int (662) 0),(.int (510) 0),(.str (ofString "/claim/cut.py") 663)].toArray),[].toArray⟩
noncomputable def ox292(p:Program)(P:Params):Obj:=⟨(.type "function"),none,(.func ⟨(ofString "law"),(ofString "law"),fnArgs (stP p 14),.stmts (fnBody (stP p 14)),fnScope (stP p 14),3,[],.none,.none,.none,(.str (ofString "law_mt0005_01") 585),none,(.ref 291),.none,0⟩),[].toArray⟩
noncomputable def o292:Params→Obj:=ox292 prog
noncomputable def tree4(P:Params):BT:=(.node (PySem.W.boot_o_0 P) (.node (PySem.W.boot_o_1 P) (.node (PySem.W.boot_o_3 P) (.node (PySem.W.boot_o_7 P) .nil .nil) (.node (o11 P) .nil .nil)) (.node (PySem.W.boot_o_5 P) (.node (PySem.W.boot_o_9 P) .nil .nil) (.node (o13 P) .nil .nil))) (.node (PySem.W.boot_o_2 P) (.node (PySem.W.boot_o_4 P) (.node (PySem.W.boot_o_8 P) .nil .nil) (.node (s12 P) .nil .nil)) (.node (PySem.W.boot_o_6 P) (.node (PySem.W.boot_o_10 P) .nil .nil) (.node (o14 P) .nil .nil))))
noncomputable def tree9(p:Program)(P:Params):BT:=(.node (PySem.W.boot_o_0 P) (.node (PySem.W.boot_o_1 P) (.node (o3 P) (.node (PySem.W.boot_o_7 P) (.node (o15 P) (.node (o31 P) (.node (o63 P) (.node (o127 P) (.node (o255 P) .nil .nil) .nil) (.node (o191 P) .nil .nil)) (.node (o95 P) (.node (o159 P) (.node (ox287 p P) .nil .nil) .nil) (.node (ox223 p P) .nil .nil))) (.node (o47 P) (.node (o79 P) (.node (ox143 p P) (.node (o271 P) .nil .nil) .nil) (.node (o207 P) .nil .nil)) (.node (o111 P) (.node (o175 P) .nil .nil) (.node (ox239 p P) .nil .nil)))) (.node (o23 P) (.node (o39 P) (.node (o71 P) (.node (o135 P) (.node (ox263 p P) .nil .nil) .nil) (.node (o199 P) .nil .nil)) (.node (o103 P) (.node (ox167 p P) .nil .nil) (.node (o231 P) .nil .nil))) (.node (ox55 p P) (.node (ox87 p P) (.node (o151 P) (.node (o279 P) .nil .nil) .nil) (.node (o215 P) .nil .nil)) (.node (ox119 p P) (.node (o183 P) .nil .nil) (.node (o247 P) .nil .nil))))) (.node (o11 P) (.node (ox19 p P) (.node (ox35 p P) (.node (ox67 p P) (.node (o131 P) (.node (o259 P) .nil .nil) .nil) (.node (o195 P) .nil .nil)) (.node (o99 P) (.node (o163 P) (.node (o291 P) .nil .nil) .nil) (.node (o227 P) .nil .nil))) (.node (o51 P) (.node (o83 P) (.node (o147 P) (.node (ox275 p P) .nil .nil) .nil) (.node (o211 P) .nil .nil)) (.node (o115 P) (.node (ox179 p P) .nil .nil) (.node (o243 P) .nil .nil)))) (.node (o27 P) (.node (ox43 p P) (.node (o75 P) (.node (o139 P) (.node (o267 P) .nil .nil) .nil) (.node (ox203 p P) .nil .nil)) (.node (ox107 p P) (.node (o171 P) .nil .nil) (.node (o235 P) .nil .nil))) (.node (o59 P) (.node (o91 P) (.node (o155 P) (.node (o283 P) .nil .nil) .nil) (.node (o219 P) .nil .nil)) (.node (o123 P) (.node (o187 P) .nil .nil) (.node (ox251 p P) .nil .nil)))))) (.node (PySem.W.boot_o_5 P) (.node (PySem.W.boot_o_9 P) (.node (o17 P) (.node (ox33 p P) (.node (o65 P) (.node (o129 P) (.node (o257 P) .nil .nil) .nil) (.node (o193 P) .nil .nil)) (.node (o97 P) (.node (o161 P) (.node (o289 P) .nil .nil) .nil) (.node (ox225 p P) .nil .nil))) (.node (o49 P) (.node (o81 P) (.node (ox145 p P) (.node (ox273 p P) .nil .nil) .nil) (.node (o209 P) .nil .nil)) (.node (o113 P) (.node (o177 P) .nil .nil) (.node (ox241 p P) .nil .nil)))) (.node (o25 P) (.node (ox41 p P) (.node (o73 P) (.node (o137 P) (.node (o265 P) .nil .nil) .nil) (.node (ox201 p P) .nil .nil)) (.node (ox105 p P) (.node (o169 P) .nil .nil) (.node (o233 P) .nil .nil))) (.node (ox57 p P) (.node (ox89 p P) (.node (o153 P) (.node (o281 P) .nil .nil) .nil) (.node (o217 P) .nil .nil)) (.node (ox121 p P) (.node (o185 P) .nil .nil) (.node (ox249 p P) .nil .nil))))) (.node (o13 P) (.node (ox21 p P) (.node (o37 P) (.node (o69 P) (.node (o133 P) (.node (ox261 p P) .nil .nil) .nil) (.node (o197 P) .nil .nil)) (.node (o101 P) (.node (ox165 p P) .nil .nil) (.node (o229 P) .nil .nil))) (.node (o53 P) (.node (o85 P) (.node (o149 P) (.node (o277 P) .nil .nil) .nil) (.node (o213 P) .nil .nil)) (.node (o117 P) (.node (ox181 p P) .nil .nil) (.node (o245 P) .nil .nil)))) (.node (o29 P) (.node (o45 P) (.node (o77 P) (.node (o141 P) (.node (o269 P) .nil .nil) .nil) (.node (o205 P) .nil .nil)) (.node (o109 P) (.node (o173 P) .nil .nil) (.node (ox237 p P) .nil .nil))) (.node (o61 P) (.node (o93 P) (.node (o157 P) (.node (ox285 p P) .nil .nil) .nil) (.node (o221 P) .nil .nil)) (.node (o125 P) (.node (o189 P) .nil .nil) (.node (o253 P) .nil .nil))))))) (.node (PySem.W.boot_o_2 P) (.node (PySem.W.boot_o_4 P) (.node (PySem.W.boot_o_8 P) (.node (o16 P) (.node (o32 P) (.node (o64 P) (.node (o128 P) (.node (ox256 p P) .nil .nil) .nil) (.node (o192 P) .nil .nil)) (.node (o96 P) (.node (ox160 p P) (.node (o288 P) .nil .nil) .nil) (.node (o224 P) .nil .nil))) (.node (ox48 p P) (.node (ox80 p P) (.node (o144 P) (.node (o272 P) .nil .nil) .nil) (.node (ox208 p P) .nil .nil)) (.node (ox112 p P) (.node (o176 P) .nil .nil) (.node (o240 P) .nil .nil)))) (.node (o24 P) (.node (o40 P) (.node (o72 P) (.node (o136 P) (.node (o264 P) .nil .nil) .nil) (.node (o200 P) .nil .nil)) (.node (o104 P) (.node (o168 P) .nil .nil) (.node (ox232 p P) .nil .nil))) (.node (o56 P) (.node (o88 P) (.node (o152 P) (.node (ox280 p P) .nil .nil) .nil) (.node (ox216 p P) .nil .nil)) (.node (o120 P) (.node (o184 P) .nil .nil) (.node (o248 P) .nil .nil))))) (.node (o12 P) (.node (o20 P) (.node (o36 P) (.node (o68 P) (.node (o132 P) (.node (o260 P) .nil .nil) .nil) (.node (ox196 p P) .nil .nil)) (.node (ox100 p P) (.node (o164 P) (.node (ox292 p P) .nil .nil) .nil) (.node (o228 P) .nil .nil))) (.node (o52 P) (.node (o84 P) (.node (ox148 p P) (.node (o276 P) .nil .nil) .nil) (.node (o212 P) .nil .nil)) (.node (o116 P) (.node (o180 P) .nil .nil) (.node (o244 P) .nil .nil)))) (.node (o28 P) (.node (o44 P) (.node (o76 P) (.node (o140 P) (.node (ox268 p P) .nil .nil) .nil) (.node (o204 P) .nil .nil)) (.node (o108 P) (.node (ox172 p P) .nil .nil) (.node (o236 P) .nil .nil))) (.node (o60 P) (.node (o92 P) (.node (o156 P) (.node (o284 P) .nil .nil) .nil) (.node (o220 P) .nil .nil)) (.node (o124 P) (.node (ox188 p P) .nil .nil) (.node (o252 P) .nil .nil)))))) (.node (PySem.W.boot_o_6 P) (.node (PySem.W.boot_o_10 P) (.node (o18 P) (.node (o34 P) (.node (o66 P) (.node (o130 P) (.node (o258 P) .nil .nil) .nil) (.node (ox194 p P) .nil .nil)) (.node (ox98 p P) (.node (o162 P) (.node (ox290 p P) .nil .nil) .nil) (.node (o226 P) .nil .nil))) (.node (ox50 p P) (.node (ox82 p P) (.node (o146 P) (.node (o274 P) .nil .nil) .nil) (.node (ox210 p P) .nil .nil)) (.node (ox114 p P) (.node (o178 P) .nil .nil) (.node (o242 P) .nil .nil)))) (.node (o26 P) (.node (o42 P) (.node (o74 P) (.node (o138 P) (.node (o266 P) .nil .nil) .nil) (.node (o202 P) .nil .nil)) (.node (o106 P) (.node (o170 P) .nil .nil) (.node (o234 P) .nil .nil))) (.node (o58 P) (.node (ox90 p P) (.node (o154 P) (.node (o282 P) .nil .nil) .nil) (.node (ox218 p P) .nil .nil)) (.node (o122 P) (.node (ox186 p P) .nil .nil) (.node (o250 P) .nil .nil))))) (.node (o14 P) (.node (o22 P) (.node (o38 P) (.node (o70 P) (.node (ox134 p P) (.node (o262 P) .nil .nil) .nil) (.node (o198 P) .nil .nil)) (.node (o102 P) (.node (o166 P) .nil .nil) (.node (ox230 p P) .nil .nil))) (.node (o54 P) (.node (o86 P) (.node (o150 P) (.node (ox278 p P) .nil .nil) .nil) (.node (o214 P) .nil .nil)) (.node (o118 P) (.node (o182 P) .nil .nil) (.node (o246 P) .nil .nil)))) (.node (o30 P) (.node (o46 P) (.node (o78 P) (.node (o142 P) (.node (ox270 p P) .nil .nil) .nil) (.node (o206 P) .nil .nil)) (.node (o110 P) (.node (ox174 p P) .nil .nil) (.node (o238 P) .nil .nil))) (.node (o62 P) (.node (o94 P) (.node (ox158 p P) (.node (o286 P) .nil .nil) .nil) (.node (o222 P) .nil .nil)) (.node (o126 P) (.node (o190 P) .nil .nil) (.node (ox254 p P) .nil .nil))))))))
noncomputable def heap9(p:Program)(P:Params):Heap:=⟨⟨[PySem.W.boot_o_0 P,PySem.W.boot_o_1 P,PySem.W.boot_o_2 P,o3 P,PySem.W.boot_o_4 P,PySem.W.boot_o_5 P,PySem.W.boot_o_6 P,PySem.W.boot_o_7 P,PySem.W.boot_o_8 P,PySem.W.boot_o_9 P,PySem.W.boot_o_10 P,o11 P,o12 P,o13 P,o14 P,o15 P,o16 P,o17 P,o18 P,ox19 p P,o20 P,ox21 p P,o22 P,o23 P,o24 P,o25 P,o26 P,o27 P,o28 P,o29 P,o30 P,o31 P,o32 P,ox33 p P,o34 P,ox35 p P,o36 P,o37 P,o38 P,o39 P,o40 P,ox41 p P,o42 P,ox43 p P,o44 P,o45 P,o46 P,o47 P,ox48 p P,o49 P,ox50 p P,o51 P,o52 P,o53 P,o54 P,ox55 p P,o56 P,ox57 p P,o58 P,o59 P,o60 P,o61 P,o62 P,o63 P,o64 P,o65 P,o66 P,ox67 p P,o68 P,o69 P,o70 P,o71 P,o72 P,o73 P,o74 P,o75 P,o76 P,o77 P,o78 P,o79 P,ox80 p P,o81 P,ox82 p P,o83 P,o84 P,o85 P,o86 P,ox87 p P,o88 P,ox89 p P,ox90 p P,o91 P,o92 P,o93 P,o94 P,o95 P,o96 P,o97 P,ox98 p P,o99 P,ox100 p P,o101 P,o102 P,o103 P,o104 P,ox105 p P,o106 P,ox107 p P,o108 P,o109 P,o110 P,o111 P,ox112 p P,o113 P,ox114 p P,o115 P,o116 P,o117 P,o118 P,ox119 p P,o120 P,ox121 p P,o122 P,o123 P,o124 P,o125 P,o126 P,o127 P,o128 P,o129 P,o130 P,o131 P,o132 P,o133 P,ox134 p P,o135 P,o136 P,o137 P,o138 P,o139 P,o140 P,o141 P,o142 P,ox143 p P,o144 P,ox145 p P,o146 P,o147 P,ox148 p P,o149 P,o150 P,o151 P,o152 P,o153 P,o154 P,o155 P,o156 P,o157 P,ox158 p P,o159 P,ox160 p P,o161 P,o162 P,o163 P,o164 P,ox165 p P,o166 P,ox167 p P,o168 P,o169 P,o170 P,o171 P,ox172 p P,o173 P,ox174 p P,o175 P,o176 P,o177 P,o178 P,ox179 p P,o180 P,ox181 p P,o182 P,o183 P,o184 P,o185 P,ox186 p P,o187 P,ox188 p P,o189 P,o190 P,o191 P,o192 P,o193 P,ox194 p P,o195 P,ox196 p P,o197 P,o198 P,o199 P,o200 P,ox201 p P,o202 P,ox203 p P,o204 P,o205 P,o206 P,o207 P,ox208 p P,o209 P,ox210 p P,o211 P,o212 P,o213 P,o214 P,o215 P,ox216 p P,o217 P,ox218 p P,o219 P,o220 P,o221 P,o222 P,ox223 p P,o224 P,ox225 p P,o226 P,o227 P,o228 P,o229 P,ox230 p P,o231 P,ox232 p P,o233 P,o234 P,o235 P,o236 P,ox237 p P,o238 P,ox239 p P,o240 P,ox241 p P,o242 P,o243 P,o244 P,o245 P,o246 P,o247 P,o248 P,ox249 p P,o250 P,ox251 p P,o252 P,o253 P,ox254 p P,o255 P,ox256 p P,o257 P,o258 P,o259 P,o260 P,ox261 p P,o262 P,ox263 p P,o264 P,o265 P,o266 P,o267 P,ox268 p P,o269 P,ox270 p P,o271 P,o272 P,ox273 p P,o274 P,ox275 p P,o276 P,o277 P,ox278 p P,o279 P,ox280 p P,o281 P,o282 P,o283 P,o284 P,ox285 p P,o286 P,ox287 p P,o288 P,o289 P,ox290 p P,o291 P,ox292 p P]⟩,{}⟩
noncomputable def K(P:Params):Frag:=[(nat_lit 2,PySem.W.boot_o_2 P),(nat_lit 3,o3 P),(nat_lit 15,o15 P),(nat_lit 17,o17 P),(nat_lit 18,o18 P),(nat_lit 20,o20 P),(nat_lit 21,o21 P),(nat_lit 29,o29 P),(nat_lit 31,o31 P),(nat_lit 32,o32 P),(nat_lit 34,o34 P),(nat_lit 35,o35 P),(nat_lit 36,o36 P),(nat_lit 37,o37 P),(nat_lit 39,o39 P),(nat_lit 40,o40 P),(nat_lit 42,o42 P),(nat_lit 43,o43 P),(nat_lit 44,o44 P),(nat_lit 46,o46 P),(nat_lit 47,o47 P),(nat_lit 49,o49 P),(nat_lit 50,o50 P),(nat_lit 51,o51 P),(nat_lit 53,o53 P),(nat_lit 54,o54 P),(nat_lit 56,o56 P),(nat_lit 57,o57 P),(nat_lit 58,o58 P),(nat_lit 59,o59 P),(nat_lit 60,o60 P),(nat_lit 61,o61 P),(nat_lit 62,o62 P),(nat_lit 65,o65 P),(nat_lit 68,o68 P),(nat_lit 73,o73 P),(nat_lit 74,o74 P),(nat_lit 75,o75 P),(nat_lit 76,o76 P),(nat_lit 78,o78 P),(nat_lit 79,o79 P),(nat_lit 81,o81 P),(nat_lit 82,o82 P),(nat_lit 83,o83 P),(nat_lit 85,o85 P),(nat_lit 86,o86 P),(nat_lit 88,o88 P),(nat_lit 89,o89 P),(nat_lit 90,o90 P),(nat_lit 91,o91 P),(nat_lit 92,o92 P),(nat_lit 93,o93 P),(nat_lit 94,o94 P),(nat_lit 96,o96 P),(nat_lit 97,o97 P),(nat_lit 99,o99 P),(nat_lit 100,o100 P),(nat_lit 101,o101 P),(nat_lit 103,o103 P),(nat_lit 104,o104 P),(nat_lit 106,o106 P),(nat_lit 107,o107 P),(nat_lit 108,o108 P),(nat_lit 110,o110 P),(nat_lit 111,o111 P),(nat_lit 113,o113 P),(nat_lit 114,o114 P),(nat_lit 115,o115 P),(nat_lit 117,o117 P),(nat_lit 118,o118 P),(nat_lit 120,o120 P),(nat_lit 121,o121 P),(nat_lit 122,o122 P),(nat_lit 123,o123 P),(nat_lit 124,o124 P),(nat_lit 126,o126 P),(nat_lit 127,o127 P),(nat_lit 129,o129 P),(nat_lit 130,o130 P),(nat_lit 132,o132 P),(nat_lit 134,o134 P),(nat_lit 135,o135 P),(nat_lit 136,o136 P),(nat_lit 139,o139 P),(nat_lit 141,o141 P),(nat_lit 142,o142 P),(nat_lit 144,o144 P),(nat_lit 145,o145 P),(nat_lit 153,o153 P),(nat_lit 154,o154 P),(nat_lit 156,o156 P),(nat_lit 157,o157 P),(nat_lit 159,o159 P),(nat_lit 160,o160 P),(nat_lit 161,o161 P),(nat_lit 163,o163 P),(nat_lit 164,o164 P),(nat_lit 166,o166 P),(nat_lit 167,o167 P),(nat_lit 168,o168 P),(nat_lit 170,o170 P),(nat_lit 171,o171 P),(nat_lit 173,o173 P),(nat_lit 174,o174 P),(nat_lit 175,o175 P),(nat_lit 177,o177 P),(nat_lit 178,o178 P),(nat_lit 180,o180 P),(nat_lit 181,o181 P),(nat_lit 182,o182 P),(nat_lit 184,o184 P),(nat_lit 185,o185 P),(nat_lit 187,o187 P),(nat_lit 188,o188 P),(nat_lit 189,o189 P),(nat_lit 190,o190 P),(nat_lit 192,o192 P),(nat_lit 193,o193 P),(nat_lit 195,o195 P),(nat_lit 196,o196 P),(nat_lit 197,o197 P),(nat_lit 199,o199 P),(nat_lit 200,o200 P),(nat_lit 202,o202 P),(nat_lit 203,o203 P),(nat_lit 204,o204 P),(nat_lit 206,o206 P),(nat_lit 207,o207 P),(nat_lit 209,o209 P),(nat_lit 210,o210 P),(nat_lit 211,o211 P),(nat_lit 212,o212 P),(nat_lit 214,o214 P),(nat_lit 215,o215 P),(nat_lit 217,o217 P),(nat_lit 218,o218 P),(nat_lit 219,o219 P),(nat_lit 221,o221 P),(nat_lit 222,o222 P),(nat_lit 224,o224 P),(nat_lit 225,o225 P),(nat_lit 226,o226 P),(nat_lit 228,o228 P),(nat_lit 229,o229 P),(nat_lit 231,o231 P),(nat_lit 232,o232 P),(nat_lit 233,o233 P),(nat_lit 235,o235 P),(nat_lit 236,o236 P),(nat_lit 238,o238 P),(nat_lit 239,o239 P),(nat_lit 240,o240 P),(nat_lit 241,o241 P),(nat_lit 242,o242 P),(nat_lit 243,o243 P),(nat_lit 244,o244 P),(nat_lit 247,o247 P),(nat_lit 250,o250 P),(nat_lit 251,o251 P),(nat_lit 252,o252 P),(nat_lit 255,o255 P),(nat_lit 256,o256 P),(nat_lit 257,o257 P),(nat_lit 259,o259 P),(nat_lit 260,o260 P),(nat_lit 262,o262 P),(nat_lit 263,o263 P),(nat_lit 264,o264 P),(nat_lit 266,o266 P),(nat_lit 267,o267 P),(nat_lit 269,o269 P),(nat_lit 270,o270 P),(nat_lit 271,o271 P),(nat_lit 274,o274 P),(nat_lit 275,o275 P),(nat_lit 276,o276 P),(nat_lit 279,o279 P),(nat_lit 280,o280 P),(nat_lit 281,o281 P),(nat_lit 283,o283 P),(nat_lit 284,o284 P),(nat_lit 286,o286 P),(nat_lit 287,o287 P),(nat_lit 288,o288 P),(nat_lit 291,o291 P),(nat_lit 292,o292 P)]
noncomputable def kAs:List Nat:=[nat_lit 2,nat_lit 3,nat_lit 15,nat_lit 17,nat_lit 18,nat_lit 20,nat_lit 21,nat_lit 29,nat_lit 31,nat_lit 32,nat_lit 34,nat_lit 35,nat_lit 36,nat_lit 37,nat_lit 39,nat_lit 40,nat_lit 42,nat_lit 43,nat_lit 44,nat_lit 46,nat_lit 47,nat_lit 49,nat_lit 50,nat_lit 51,nat_lit 53,nat_lit 54,nat_lit 56,nat_lit 57,nat_lit 58,nat_lit 59,nat_lit 60,nat_lit 61,nat_lit 62,nat_lit 65,nat_lit 68,nat_lit 73,nat_lit 74,nat_lit 75,nat_lit 76,nat_lit 78,nat_lit 79,nat_lit 81,nat_lit 82,nat_lit 83,nat_lit 85,nat_lit 86,nat_lit 88,nat_lit 89,nat_lit 90,nat_lit 91,nat_lit 92,nat_lit 93,nat_lit 94,nat_lit 96,nat_lit 97,nat_lit 99,nat_lit 100,nat_lit 101,nat_lit 103,nat_lit 104,nat_lit 106,nat_lit 107,nat_lit 108,nat_lit 110,nat_lit 111,nat_lit 113,nat_lit 114,nat_lit 115,nat_lit 117,nat_lit 118,nat_lit 120,nat_lit 121,nat_lit 122,nat_lit 123,nat_lit 124,nat_lit 126,nat_lit 127,nat_lit 129,nat_lit 130,nat_lit 132,nat_lit 134,nat_lit 135,nat_lit 136,nat_lit 139,nat_lit 141,nat_lit 142,nat_lit 144,nat_lit 145,nat_lit 153,nat_lit 154,nat_lit 156,nat_lit 157,nat_lit 159,nat_lit 160,nat_lit 161,nat_lit 163,nat_lit 164,nat_lit 166,nat_lit 167,nat_lit 168,nat_lit 170,nat_lit 171,nat_lit 173,nat_lit 174,nat_lit 175,nat_lit 177,nat_lit 178,nat_lit 180,nat_lit 181,nat_lit 182,nat_lit 184,nat_lit 185,nat_lit 187,nat_lit 188,nat_lit 189,nat_lit 190,nat_lit 192,nat_lit 193,nat_lit 195,nat_lit 196,nat_lit 197,nat_lit 199,nat_lit 200,nat_lit 202,nat_lit 203,nat_lit 204,nat_lit 206,nat_lit 207,nat_lit 209,nat_lit 210,nat_lit 211,nat_lit 212,nat_lit 214,nat_lit 215,nat_lit 217,nat_lit 218,nat_lit 219,nat_lit 221,nat_lit 222,nat_lit 224,nat_lit 225,nat_lit 226,nat_lit 228,nat_lit 229,nat_lit 231,nat_lit 232,nat_lit 233,nat_lit 235,nat_lit 236,nat_lit 238,nat_lit 239,nat_lit 240,nat_lit 241,nat_lit 242,nat_lit 243,nat_lit 244,nat_lit 247,nat_lit 250,nat_lit 251,nat_lit 252,nat_lit 255,nat_lit 256,nat_lit 257,nat_lit 259,nat_lit 260,nat_lit 262,nat_lit 263,nat_lit 264,nat_lit 266,nat_lit 267,nat_lit 269,nat_lit 270,nat_lit 271,nat_lit 274,nat_lit 275,nat_lit 276,nat_lit 279,nat_lit 280,nat_lit 281,nat_lit 283,nat_lit 284,nat_lit 286,nat_lit 287,nat_lit 288,nat_lit 291,nat_lit 292]
noncomputable abbrev pE:Pos:=⟨510,0,522,15⟩
noncomputable abbrev p0:Pos:=⟨0,0,0,0⟩
noncomputable abbrev B0:List Frame:=[topFrame p0]
noncomputable abbrev envP(p:Program):Env:={ scope:=p.main.scope,locals:=mainNs,globals:=mainNs,cells:=[],code:=.ref 13,frame:=some 14 }
noncomputable abbrev bdyP(p:Program):List Stmt:=behindTheImports p
noncomputable abbrev cP(p:Program):Code:=.body (bdyP p) (envP p)
noncomputable abbrev ann:Option Value:=some (.ref 6)
noncomputable abbrev SB(w:World)(os:OsState):SharedT:=⟨tree4 w.params,15,{},⟨[]⟩,{},187,os⟩
noncomputable abbrev S9(p:Program)(w:World)(os:OsState):SharedT:=⟨tree9 p w.params,293,{},⟨[]⟩,{},665,os⟩
noncomputable abbrev SFP(p:Program)(w:World)(os:OsState):Shared:=⟨heap9 p w.params,⟨[]⟩,{},665,os⟩
noncomputable abbrev S0(w:World)(os:OsState):Shared:=⟨boot_heap w.params,⟨[]⟩,boot_drawn,boot_toks,os⟩
noncomputable abbrev SF:World→OsState→Shared:=SFP prog
end
theorem whole(w:World)(os:OsState):segRunT treeTable prog w 11 ann 1 2349 (SB w os) (piecesOf (bdyP prog) (envP prog) (cP prog) p0 B0)=some (.next,S9 prog w os,cP prog,pE):=by
 rw [← prog_eq,PySem.W.Fast.te10110043849684766642,tab_eq]
 kernel_rfl
section
theorem pre(w:World)(os:OsState):topGo treeTable prog w 11 ann 12 (S0 w os) (topStub prog)=some ((SB w os).abs,⟨denote treeTable (cP prog),cP prog,p0,B0⟩):=by
 rw [PySem.W.Fast.te15667345088766844465,PySem.W.Fast.te14364793385576792824,PySem.W.Fast.te11892475500146522536]
 kernel_rfl
theorem block(w:World)(os:OsState):segRun treeTable prog w 11 ann 1 1 (SB w os).abs (blockOf (bdyP prog) (envP prog) (cP prog) p0 B0)=some (.next,(SB w os).abs,cP prog,p0):=by
 rw [PySem.W.Fast.te14374325043358763698,PySem.W.Fast.te14364793385576792824]
 kernel_rfl
theorem fin(w:World)(os:OsState):topRun treeTable prog w 11 ann 2 (S9 prog w os).abs ⟨doneF .next,cP prog,pE,B0⟩=some (SF w os):=by
 rw [PySem.W.Fast.te14082659384304107361,PySem.W.Fast.te14364793385576792824]
 kernel_rfl
theorem bdy_eq:bdyP prog++[]=bdyP prog:=List.append_nil _
theorem runs(w:World)(os:OsState):topRun treeTable prog w 11 ann (12+(1+(2349+2))) (S0 w os) (topStub prog)=some (SF w os):=by
 have k:=piece_app (segRun_of (whole w os)) (piece_nil (env:=envP prog) (fin w os))
 rw [bdy_eq] at k
 exact go_top (pre w os) (piece_block (block w os) k)
theorem size0(w:World):((boot_heap w.params).isNs mainGlobals && (Array.mk ([]:List GenState)).size == 0,(boot_heap w.params).objs.size,(boot_heap w.params).nsMap mainGlobals "__annotations__")=(true,11,ann):=by
 rw [PySem.W.Fast.te8920871248978507458]
 kernel_rfl
end
section
noncomputable def view:Program:={ prog with main:={ prog.main with body:=[stAt 0,stAt 2,stAt 3,stAt 4,stAt 5,stAt 7,stAt 8,stAt 9,stAt 10,stAt 11,stAt 12,stAt 13,stAt 14] } }
noncomputable def loose:List Str:=[ofString "_tuplegetter",ofString "Match",ofString "SequenceMatcher"]
noncomputable abbrev row:OpenRow:=OpenLaw.row PySem.Challenge.rw_mt0005_01
noncomputable def Xt(s:Shared):Bool:=xlAt view [] s && recOk [] s
noncomputable def mods:List Str:=importedModules prog.main.body
noncomputable def KH(P:Params):Frag:=(nat_lit 220,o220 P)::K P
noncomputable def kAsH:List Nat:=nat_lit 220::kAs
end
section
theorem look1(w:World)(os:OsState):(staticsOk mods (boot_heap w.params) (heap9 prog w.params) && namesBound prog (heap9 prog w.params) && gensDone (SF w os) && laidKept (boot_heap w.params) (heap9 prog w.params))=true:=by
 kernel_rfl
theorem look3(w:World)(os:OsState):kAsH.map (SF w os).heap.get?=(KH w.params).map fun p=>some p.2:=by
 kernel_rfl
theorem look2(w:World)(os:OsState):openSeen view loose mods Xt true (SF w os)=openGood view loose:=by
 unfold openSeen openGood
 refine looks_pair ?_ (looks_pair ?_ (looks_pair ?_ (looks_pair ?_ (looks_pair ?_ (looks_pair ?_ (looks_pair ?_ (looks_pair ?_ ?_)))))))
 all_goals ((try rw [PySem.W.Fast.te5160383126252970620]);(try rw [PySem.W.Fast.te3399658132070893891]);(try rw [PySem.W.Fast.te5991557255702980513]);(try rw [PySem.W.Fast.te10880121769531294198]);(try rw [PySem.W.Fast.te821141287760084731]);(try rw [PySem.W.Fast.te7409074990110511671]);(try rw [PySem.W.Fast.te13664370479719496447]);(try rw [PySem.W.Fast.te14722251495701143533]);(try rw [PySem.W.Fast.te10994771534591457954]);(try rw [PySem.W.Fast.te479339242167458305]);(try rw [PySem.W.Fast.te16090120013241838585]);(try rw [PySem.W.Fast.te3247288618530077131]);(try rw [PySem.W.Fast.te2386780881361962483]);(try rw [PySem.W.Fast.te11698064438423848299]);(try rw [PySem.W.Fast.te7317090234206586261]);(try rw [PySem.W.Fast.te7369524293546568484]);kernel_rfl)
end
section
theorem opn:opening prog=plainProg prog.main.scope.names:=by kernel_rfl
theorem fnc:∀ s,fenceModules? prog s=some s:=fun s=>by kernel_rfl
theorem looks(w:World):(fun os=>((staticsOk (importedModules prog.main.body) (boot_heap w.params) (heap9 prog w.params) && namesBound prog (heap9 prog w.params) && gensDone ⟨heap9 prog w.params,⟨[]⟩,{},665,os⟩ && laidKept (boot_heap w.params) (heap9 prog w.params)),
    openSeen view loose (importedModules prog.main.body) Xt true ⟨heap9 prog w.params,⟨[]⟩,{},665,os⟩,kAsH.map (Shared.heap ⟨heap9 prog w.params,⟨[]⟩,{},665,os⟩).get?))=fun _=>(true,openGood view loose,(KH w.params).map fun p=>some p.2) :=
 funext fun os=>looks_pair (look1 w os) (looks_pair (look2 w os) (look3 w os))
theorem left:LeftO prog view loose Xt (fun s=>kAsH.map s.heap.get?) (fun w=>(KH w.params).map fun p=>some p.2) 4822 true :=
 LeftO.of_pieces (boot_open opn rfl fnc) size0 runs rfl looks
theorem ws:OpenLaw.wellSaid PySem.Challenge.rw_mt0005_01=true:=by kernel_rfl
noncomputable abbrev hook:Hook:=kHook KH kAsH (fun _=>by kernel_rfl)
end
noncomputable def dlaw:DefRec:=⟨ofString "law",fnArgs (stAt 14),fnBody (stAt 14),fnScope (stAt 14),⟨510,0,522,15⟩⟩
theorem hd(hc:WalkO view loose (XL view []) (Hook.says hook) row.toRowW dlaw [] fun f vs=>PySem.call f vs):PySem.Challenge.rw_mt0005_01.Holds:=by
 refine holds_law ws fun said=>?_
 refine holds_open (q:=view) (loose:=loose) (Xt:=Xt) (XP:=XL view []) (Yf:=Hook.obs hook) (Ya:=Hook.val hook) (YP:=Hook.says hook) (N:=4822) left (Hook.of hook) (Hook.keeps hook) (fun s e=>xl_of s (Bool.and_eq_true_iff.mp e).1) XL.keeps (by rfl) (by rfl) (by rfl) (fun s e=>recFacts_of (Bool.and_eq_true_iff.mp e).2) (by rfl) (by first | assumption | decide +kernel) (by decide +kernel) ⟨rfl,rfl,rfl,rfl,rfl,by decide +kernel⟩ ?hw ?hc
 case hw=>w_witness2
 case hc=>exact hc
noncomputable def look:List Str→List (Option Value)→Str→Option Value
 | n::ns,v::vs,x=>if x=n then v else look ns vs x
 | _,_,_=>none
theorem look_c{n:Str}{ns:List Str}{v:Option Value}{vs:List (Option Value)}{x:Str}:look (n::ns) (v::vs) x=if x=n then v else look ns vs x:=rfl
theorem look_get:∀ {nm:List Str} {vs:List (Option Value)} {x:Str} {i:Nat} {v:Value},nm.Nodup→nm[i]?=some x→vs[i]?=some (some v)→look nm vs x=some v
 | [],_,_,_,_,_,h,_=>by simp at h
 | _::_,[],_,_,_,_,_,h=>by simp at h
 | n::ns,w::vs,x,0,v,nd,h1,h2=>by
  simp at h1 h2
  subst h1 h2
  simp [look_c]
 | n::ns,w::vs,x,i+1,v,nd,h1,h2=>by
  have h1':ns[i]?=some x:=by simpa using h1
  have h2':vs[i]?=some (some v):=by simpa using h2
  have hx:x≠n:=fun e=>(List.nodup_cons.mp nd).1 (e▸List.mem_of_getElem? h1')
  simp only [look_c,if_neg hx]
  exact look_get (List.nodup_cons.mp nd).2 h1' h2'
theorem look_set:∀ {nm:List Str} {vs:List (Option Value)} {x:Str} {i:Nat},nm.Nodup→nm[i]?=some x→i < vs.length→∀ v:Value,(fun y=>if y=x then some v else look nm vs y)=look nm (vs.set i (some v))
 | [],_,_,_,_,h,_,_=>by simp at h
 | _::_,[],_,_,_,_,h,_=>by simp at h
 | n::ns,u::vs,x,0,nd,h1,_,v=>by
  simp at h1
  subst h1
  funext y
  simp only [List.set_cons_zero,look_c]
  by_cases h:y=n<;>simp [h]
 | n::ns,u::vs,x,i+1,nd,h1,h2,v=>by
  have h1':ns[i]?=some x:=by simpa using h1
  have hx:x≠n:=fun e=>(List.nodup_cons.mp nd).1 (e▸List.mem_of_getElem? h1')
  have ih:=look_set (List.nodup_cons.mp nd).2 h1' (by simpa using h2) v
  funext y
  simp only [List.set_cons_succ,look_c]
  have:=congrFun ih y
  by_cases h:y=n
  ·subst h;simp [Ne.symm hx]
  ·simp only [if_neg h];exact this
theorem look_nones:∀ (os:List Str) (x:Str),look os (os.map fun _=>none) x=none:=by
 intro os x
 induction os with
 | nil=>rfl
 | cons o os ih=>exact(ite_self (c:=x=o) (none:Option Value)▸congrArg (fun z=>if x=o then none else z) ih :)
theorem look_start:∀ {ps:List Str} {as:List Value} {os:List Str},ps.Nodup→ps.length=as.length→look (ps++os) (as.map some++os.map fun _=>none)=fun x=>(ps.zip as).lookup x:=by
 intro ps
 induction ps with
 | nil =>
  intro as os _ hl
  rw [List.length_eq_zero_iff.mp hl.symm]
  funext x;exact look_nones os x
 | cons p ps ihp =>
  intro as os nd hl
  refine oEE (List.exists_cons_of_length_eq_add_one hl.symm) ?_;rintro a as rfl
  have ih:=ihp (os:=os) (List.nodup_cons.mp nd).2 (Nat.succ.inj hl)
  funext x
  simp only [List.cons_append,List.map_cons,List.zip_cons_cons,List.lookup_cons]
  show(if x=p then _ else look (ps++os) _ x)=_
  rw [ih]
  by_cases h:x=p<;>simp [h]
  have:(x == p)=false:=by simpa using h
  rw [this]
structure Var(sc:Scope)(nm:List Str)(x:Str)(i:Nat):Prop where
 fn:sc.kind=.function
 nd:nm.Nodup
 kind:sc.names.lookup x=some .local
 place:nm[i]?=some x
 dbg:(x == ("__debug__" : Str))=false
structure St(g:Heap)(L:Addr)(h:Heap)(nm:List Str)(vs:List (Option Value))(mu:List (Addr×Obj)):Prop where
 F:Fr g L h (look nm vs)
 N:News g L h mu
 nd:(mu.map (·.1)).Nodup
structure Gd(K:Frag)(mg mb:Str→Option Value)(h:Heap):Prop where
 k:K.In h
 g:h.Ns mainGlobals mg
 b:h.Ns builtinsNs mb
 lim:h.NoLimit
 blt:∀ x:Str,x≠"__name__" → mb x=bootBuiltins x
 mod:∃ bm o,mg "__builtins__" = some (.ref bm)∧bm≠builtinsNs∧h.get? bm=some o∧o.cls=.type "module" ∧ o.dict=some builtinsNs∧o.data=.plain
noncomputable abbrev Sub(h h':Heap):Prop:=∀ b o,h.get? b=some o→h'.get? b=some o
theorem Gd.keeps{K:Frag}{mg mb:Str→Option Value}{h h':Heap}(D:Gd K mg mb h)(k:Sub h h'):Gd K mg mb h' :=
 ⟨D.k.keeps k,D.g.keeps k,D.b.keeps k,D.lim.keeps k,D.blt,oEEAAA D.mod fun bm o h1 h2 h3 h4=>⟨bm,o,h1,h2,k _ _ h3,h4⟩⟩
section
variable{prog:Program}{w:World}{A:Around}{E:Value→Shared→Prop}{s:Shared}{g:Heap}{L a:Addr}{nm:List Str}{vs:List (Option Value)}{mu:List (Addr×Obj)}{q:Str}{sc:Scope}{cd:Value}
theorem ldV{x:Str}{pos:Pos}{i:Nat}{v:Value}{Q:Value→Shared→Prop}(S:St g L s.heap nm vs mu)(V:Var sc nm x i)(hv:vs[i]?=some (some v))(h:Q v s) :
  wpAny (model prog w) A (eval (.Name x pos) (envOf q sc L a cd)) Q E s :=
 ld S.F (look_get V.nd V.place hv) h V.fn V.kind V.dbg
theorem stV{x:Str}{i:Nat}{v:Value}{Q:Unit→Shared→Prop}(S:St g L s.heap nm vs mu)(V:Var sc nm x i)(hi:i < vs.length)
  (h:∀ h',St g L h' nm (vs.set i (some v)) mu→Q () { s with heap:=h',toks:=s.toks+1 }) :
  wpAny (model prog w) A (storeName (envOf q sc L a cd) x v) Q E s :=
 stN S.F S.N (fun h' F' N'=>h h' ⟨look_set V.nd V.place hi v▸F',N',S.nd⟩) V.fn V.kind
theorem St.push{h:Heap}(S:St g L h nm vs mu)(o:Obj)(hf:o.isFreed=false:=by rfl):St g L (h.push o) nm vs ((h.objs.size,o)::mu) :=
 ⟨S.F.push o,S.N.push S.F o hf,List.nodup_cons.mpr ⟨fun hm=>by
  refine oEA (List.mem_map.mp hm) fun p hp e=>?_
  exact absurd (Heap.lt_size (S.N p hp).1) (e▸Nat.lt_irrefl _),S.nd⟩⟩
theorem St.upd{h:Heap}{j:Nat}{d:Addr}{o o':Obj}{f:Obj→Obj}(S:St g L h nm vs mu)(hj:mu[j]?=some (d,o))(e:f o=o')(hf:o'.isFreed=false:=by rfl):St g L (h.update d f) nm vs (mu.set j (d,o')):=by
 have hlt:j < mu.length:=by
  rcases Nat.lt_or_ge j mu.length with h | h
  ·exact h
  ·rw [List.getElem?_eq_none h] at hj;cases hj
 have hmem:(d,o)∈mu:=List.mem_of_getElem? hj
 have D:=S.N _ hmem
 refine oEEEA S.F.ns fun oL es ep hL r=>?_
 refine⟨⟨⟨oL,es,ep,(Heap.get?_update_ne _ _ _ _ (Ne.symm D.2.1)).trans hL,r⟩,fun b x q=>(Heap.get?_update_ne _ _ _ _ fun z=>?_).trans (S.F.keep b x q),S.F.above⟩,fun p hp=>?_,?_⟩
 ·have:=D.2.2;rw [← z,q] at this;cases this
 ·obtain⟨k,hk,e'⟩:=List.getElem_of_mem hp
  rw [List.getElem_set] at e'
  split at e'
  ·subst e'
   exact⟨e▸Heap.get?_update_self _ D.1 (e▸hf),D.2⟩
  ·rename_i hne
   have hk':k < mu.length:=by simpa using hk
   have P:=S.N p (e'▸List.getElem_mem hk')
   refine⟨(Heap.get?_update_ne _ _ _ _ fun z=>hne ?_).trans P.1,P.2⟩
   have h1:(mu.map (·.1))[j]?=some d:=by simp [hj]
   have h2:(mu.map (·.1))[k]?=some d:=by
    have:mu[k]?=some p:=by rw [List.getElem?_eq_getElem hk',e']
    simp [this,z]
   exact(List.getElem?_inj (by simpa using hlt) S.nd).mp (h1.trans h2.symm)
 ·have:(mu.set j (d,o')).map (·.1)=mu.map (·.1):=by
   rw [List.map_set]
   apply List.ext_getElem?
   intro k
   rw [List.getElem?_set]
   split
   ·rename_i hjk;subst hjk;have e2:=(List.getElem?_eq_some_iff.mp hj).2;simp [hlt,e2]
   ·rfl
  rw [this];exact S.nd
end
structure Mod(W:List Addr)(s s':Shared):Prop where
 keep:∀ b o,s.heap.get? b=some o→b∉W→s'.heap.get? b=some o
 size:s.heap.objs.size≤s'.heap.objs.size
 os:s'.os=s.os
 gens:AllBare s.gens→AllBare s'.gens
 dr:s'.drawn=s.drawn
theorem Mod.refl{s:Shared}:Mod [] s s:=⟨fun _ _ e _=>e,Nat.le_refl _,rfl,id,rfl⟩
theorem Mod.trans{W:List Addr}{s s' s'':Shared}(x:Mod W s s')(y:Mod W s' s''):Mod W s s'' :=
 ⟨fun b o e h=>y.keep b o (x.keep b o e h) h,ntr x.size y.size,y.os.trans x.os,fun h=>y.gens (x.gens h),y.dr.trans x.dr⟩
theorem Mod.mono{W W':List Addr}{s s':Shared}(x:Mod W s s')(h:∀ a∈W,a∈W'):Mod W' s s' :=
 ⟨fun b o e n=>x.keep b o e fun m=>n (h b m),x.size,x.os,x.gens,x.dr⟩
noncomputable def Ret(W:List Addr)(s:Shared)(P:Value→Shared→Prop):Result→Shared→Prop
 | .ok (.ret v),s'=>Mod W s s'∧P v s'
 | _,_=>False
theorem retE{W:List Addr}{s s':Shared}{P:Value→Shared→Prop}{G:Result→Prop}{r:Result}(h:Ret W s P r s')(k:∀ v,Mod W s s'→P v s'→G (.ok (.ret v))):G r:=by
 cases r with
 | error e=>exact False.elim h
 | ok f=>cases f with
  | ret v=>exact k v h.1 h.2
  | _=>exact False.elim h
theorem retO{W:List Addr}{s s':Shared}{P:Value→Shared→Prop}{r:Result}(h:Ret W s P r s'):∃ v,r=.ok (.ret v)∧Mod W s s'∧P v s' :=
 retE (G:=fun r=>∃ v,r=.ok (.ret v)∧Mod W s s'∧P v s') h fun v m p=>⟨v,rfl,m,p⟩
theorem wpQ{M:Model}{A:Around}{α:Type}{c:Sem α}{Q:α→Shared→Prop}{E:Value→Shared→Prop}{s:Shared}(h:∀ Q':α→Shared→Prop,(∀ v s',Q v s'→Q' v s')→wpAny M A c Q' E s):wpAny M A c Q E s:=h Q fun _ _ h=>h
structure Fn(K:Frag)(f:Addr)(fd:FuncData)(qual:Str)(sc:Scope)(body:List Stmt)(cdv:Value):Prop where
 at_:∃ o,K.lookup f=some o∧o.data=.func fd
 q:fd.qualname=qual
 s:fd.scope=sc
 b:fd.body=.stmts body
 c:fd.code=cdv
 env:∀ L,callEnv fd L f=envOf qual sc L f cdv
 rec_:codeIn K cdv qual=true
 co:sc.isCoroutine=false
 gen:sc.isGenerator=false
 kind:sc.kind=.function
 cell:∀ x∈sc.names,x.2≠.cell
section
variable{prog:Program}{w:World}{A:Around}{E:Value→Shared→Prop}{s s':Shared}{g:Heap}{L a:Addr}{nm:List Str}{vs:List (Option Value)}{mu:List (Addr×Obj)}{q:Str}{sc:Scope}{cd:Value}
theorem enter{K:Frag}{mg mb:Str→Option Value}{R:Result→Shared→Prop}{f:Addr}{fd:FuncData}{qual:Str}{body:List Stmt}{cdv:Value}{args:Args}{binds:List (Str×Value)}(mu:List (Addr×Obj))
  (H:Fn K f fd qual sc body cdv) (D:Gd K mg mb s.heap) (hroom:A.depth < recursionLimit) (hbind:BindsTo s fd args binds) (hloc:∀ x∈binds,sc.names.lookup x.1=some .local)
  (hvs:(fun x=>binds.reverse.lookup x)=look nm vs) (hmu:∀ p∈mu,s.heap.get? p.1=some p.2) (nd:(mu.map (·.1)).Nodup)
  (h:∀ L h₁,St (hideAll s.heap (mu.map (·.1))) L h₁ nm vs mu→s.heap.objs.size≤L →
   wpAny (model prog w) (A.deeper (envOf qual sc L f cdv)) (execs body (envOf qual sc L f cdv)) (fun fl s'=>R (.ok (.ret (match fl with | .ret v=>v | _=>.none))) s') (fun _ _=>False)
    { s with heap:=h₁,toks:=s.toks+binds.length }):codeAny (model prog w) A (.call (.ref f) args) R s:=by
 obtain⟨⟨o,hl,ho⟩,hq,hs,hb,hc,henv,hrec,hco,hgen,hk,hcell⟩:=H
 subst hs hq hc
 refine codeAny_call_def (fd:=fd) (body:=body) (binds:=binds) hroom (D.k _ _ hl) ho D.lim (codeRec_of D.k hrec) hb hbind hcell hloc (fun h₁ hns hk₁=>?_) hco hgen hk
 rw [henv]
 rw [hvs] at hns
 refine wpAny_mono (h s.heap.objs.size h₁ ⟨⟨hns,fun b o e=>hk₁ b o (of_hideAll _ e),Nat.le_of_eq (hideAll_size _ _)⟩,fun p hp=>⟨hk₁ _ _ (hmu p hp),Nat.ne_of_lt (Heap.lt_size (hmu p hp)),hideAll_none _ (List.mem_map_of_mem hp)⟩,nd⟩ (Nat.le_refl _)) (fun _ _ x=>x) fun _ _ x=>x.elim
theorem lookup_rev{l:List (Str×Value)}(nd:(l.map (·.1)).Nodup)(x:Str):l.reverse.lookup x=l.lookup x:=by
 induction l with
 | nil=>rfl
 | cons p l ih =>
  have nd':=List.nodup_cons.mp nd
  have ih':=ih nd'.2
  obtain⟨y,v⟩:=p
  rw [List.reverse_cons,List.lookup_append,ih',List.lookup_cons]
  by_cases h:x=y
  ·subst h
   have:l.lookup x=none:=by
    rw [List.lookup_eq_none_iff]
    intro p hp
    have:x≠p.1:=fun e=>nd'.1 (List.mem_map.mpr ⟨p,hp,e.symm⟩)
    simpa using this
   simp [this]
  ·have h':(x == y)=false:=by simpa using h
   simp [h',List.lookup_cons]
theorem enterP{K:Frag}{mg mb:Str→Option Value}{W:List Addr}{P:Value→Shared→Prop}{f:Addr}{fd:FuncData}{qual:Str}{body:List Stmt}{cdv:Value}{args:Args}(ps os:List Str)(xs:List Value)(mu:List (Addr×Obj))
  (H:Fn K f fd qual sc body cdv) (D:Gd K mg mb s.heap) (hroom:A.depth < recursionLimit) (hbind:BindsTo s fd args (ps.zip xs)) (hlen:ps.length=xs.length) (hps:ps.Nodup∧∀ x∈ps,sc.names.lookup x=some .local) (hnm:nm=ps++os)
  (hmu:∀ p∈mu,s.heap.get? p.1=some p.2) (nd:(mu.map (·.1)).Nodup)
  (h:∀ Po:Value→Shared→Prop,(∀ v s',Mod W s s'→P v s'→Po v s')→∀ L h₁ tk,St (hideAll s.heap (mu.map (·.1))) L h₁ nm (xs.map some++os.map fun _=>none) mu→s.heap.objs.size≤L →
   wpAny (model prog w) (A.deeper (envOf qual sc L f cdv)) (execs body (envOf qual sc L f cdv)) (fun fl s'=>Po (match fl with | .ret v=>v | _=>.none) s') (fun _ _=>False)
    ⟨h₁,s.gens,s.drawn,tk,s.os⟩):codeAny (model prog w) A (.call (.ref f) args) (Ret W s P) s:=by
 have hz:(ps.zip xs).map (·.1)=ps:=by rw [List.map_fst_zip];lia
 refine enter (nm:=nm) (vs:=xs.map some++os.map fun _=>none) mu H D hroom hbind (fun x hx=>hps.2 x.1 (hz▸List.mem_map_of_mem hx)) ?_ hmu nd fun L h₁ S hL=>h (fun v s'=>Mod W s s'∧P v s') (fun _ _ m p=>⟨m,p⟩) L h₁ _ S hL
 rw [hnm,look_start hps.1 hlen]
 funext x
 exact lookup_rev (hz.symm▸hps.1) x
theorem St.mod{h:Heap}{W:List Addr}{t:Nat}{gs:Array GenState}{s₀:Shared}(S:St (hideAll s₀.heap W) L h nm vs mu)(hL:s₀.heap.objs.size≤L)(hg:AllBare s₀.gens→AllBare gs)(hd:s'.heap=h)(hos:s'.os=s₀.os)(hgs:s'.gens=gs)(hdr:s'.drawn=s₀.drawn:=by rfl):Mod W s₀ s' :=
 ⟨fun b o e n=>by rw [hd];exact S.F.keep b o (hideAll_get _ e n),by rw [hd];exact ntr hL (Nat.le_of_lt S.F.ns.lt),hos,by rw [hgs];exact hg,hdr⟩
theorem St.call{W:List Addr}{mu':List (Addr×Obj)}(S:St g L s.heap nm vs mu)(M:Mod W s s')(hW:∀ a∈W,a∈mu.map (·.1))(ha:mu'.map (·.1)=mu.map (·.1))(hn:∀ p∈mu',(p∈mu∧p.1∉W)∨s'.heap.get? p.1=some p.2):St g L s'.heap nm vs mu':=by
 have off:∀ b,(∀ p∈mu,p.1≠b)→b∉W:=fun b h m=>by
  refine oEA (List.mem_map.mp (hW b m)) fun p hp e=>?_
  exact h p hp e
 refine oEEEA S.F.ns fun oL es ep hL r=>?_
 refine⟨⟨⟨oL,es,ep,M.keep L oL hL (off L fun p hp=>(S.N p hp).2.1),r⟩,fun b o e=>M.keep b o (S.F.keep b o e) (off b fun p hp z=>?_),S.F.above⟩,fun p hp=>?_,ha▸S.nd⟩
 ·have:=(S.N p hp).2.2;rw [z,e] at this;cases this
 ·have hm:p.1∈mu.map (·.1):=ha▸List.mem_map_of_mem hp
  refine oEA (List.mem_map.mp hm) fun p₀ hp₀ e₀=>?_
  have P:=S.N p₀ hp₀
  rw [e₀] at P
  rcases hn p hp with⟨h1,h2⟩ | h1
  ·exact⟨M.keep _ _ (S.N p h1).1 h2,P.2⟩
  ·exact⟨h1,P.2⟩
theorem St.call0(S:St g L s.heap nm vs mu)(M:Mod [] s s'):St g L s'.heap nm vs mu :=
 S.call M (fun _ h=>(nomatch h)) rfl fun p hp=>.inl ⟨hp,fun h=>(nomatch h)⟩
theorem St.call1{j:Nat}{d:Addr}{o o':Obj}(S:St g L s.heap nm vs mu)(M:Mod [d] s s')(hj:mu[j]?=some (d,o))(ho:s'.heap.get? d=some o'):St g L s'.heap nm vs (mu.set j (d,o')):=by
 have hlt:j < mu.length:=(List.getElem?_eq_some_iff.mp hj).1
 have hmem:(d,o)∈mu:=List.mem_of_getElem? hj
 refine S.call M (fun a ha=>by rw [mS ha];exact List.mem_map.mpr ⟨_,hmem,rfl⟩) ?_ fun p hp=>?_
 ·rw [List.map_set]
  apply List.ext_getElem?
  intro k
  rw [List.getElem?_set]
  split
  ·rename_i hjk;subst hjk;have e2:=(List.getElem?_eq_some_iff.mp hj).2;simp [hlt,e2]
  ·rfl
 ·obtain⟨k,hk,e'⟩:=List.getElem_of_mem hp
  rw [List.getElem_set] at e'
  split at e'
  ·subst e';exact .inr ho
  ·rename_i hne
   have hk':k < mu.length:=by simpa using hk
   refine .inl ⟨e'▸List.getElem_mem hk',fun z=>hne ?_⟩
   have z:=mS z
   have h1:(mu.map (·.1))[j]?=some d:=by simp [hj]
   have h2:(mu.map (·.1))[k]?=some d:=by
    have:mu[k]?=some p:=by rw [List.getElem?_eq_getElem hk',e']
    simp [this,z]
   exact(List.getElem?_inj (by simpa using hlt) S.nd).mp (h1.trans h2.symm)
theorem St.get{h:Heap}{j:Nat}{d:Addr}{o:Obj}(S:St g L h nm vs mu)(hj:mu[j]?=some (d,o)):h.get? d=some o:=(S.N _ (List.mem_of_getElem? hj)).1
theorem St.old{h:Heap}{d:Addr}{o:Obj}(S:St g L h nm vs mu)(e:g.get? d=some o):h.get? d=some o:=S.F.keep d o e
theorem St.drop{h:Heap}{mu':List (Addr×Obj)}(S:St g L h nm vs mu)(hs:List.Sublist mu' mu):St g L h nm vs mu' :=
 ⟨S.F,fun p hp=>S.N p (hs.subset hp),S.nd.sublist (hs.map _)⟩
structure GVar(sc:Scope)(x:Str):Prop where
 fn:sc.kind=.function
 kind:sc.names.lookup x=some .globalImplicit
 dbg:(x == ("__debug__" : Str))=false
theorem ldG{K:Frag}{mg mb:Str→Option Value}{x:Str}{pos:Pos}{v:Value}{Q:Value→Shared→Prop}(S:St g L s.heap nm vs mu)(D:Gd K mg mb g)(V:GVar sc x)(e:nsIn K mainGlobals x=some (some v))(h:Q v s) :
  wpAny (model prog w) A (eval (.Name x pos) (envOf q sc L a cd)) Q E s :=
 ld_global_at S.F D.g (mg_of D.k D.g e) h V.fn V.kind V.dbg
theorem ldB {K:Frag} {mg mb:Str→Option Value} {x:Str} {pos:Pos} {v:Value} {Q:Value→Shared→Prop} (S:St g L s.heap nm vs mu) (D:Gd K mg mb g) (V:GVar sc x) (e:nsIn K mainGlobals x=some none) (hv:bootBuiltins x=some v) (hn:x≠"__name__") (h:Q v s) :
  wpAny (model prog w) A (eval (.Name x pos) (envOf q sc L a cd)) Q E s :=
 ld_builtin_at S.F D.g (mg_none_of D.k D.g e) D.b ((D.blt x hn).trans hv) h V.fn V.kind V.dbg
theorem call_{W:List Addr}{P:Value→Shared→Prop}{f:Value}{args:List Value}{Q:Value→Shared→Prop}(h:codeAny (model prog w) A (.call f ⟨args,[]⟩) (Ret W s P) s)(k:∀ v s',Mod W s s'→P v s'→Q v s') :
  wpAny (model prog w) A (call f args) Q E s:=by
 refine wpAny_call (codeAny_mono h fun r s' hr=>?_)
 match r with
 | .ok (.ret v)=>exact k v s' hr.1 hr.2
 | .ok .next=>exact hr.elim
 | .ok .brk=>exact hr.elim
 | .ok .cont=>exact hr.elim
 | .error e=>exact hr.elim
theorem callS{W:List Addr}{P:Value→Shared→Prop}{f:Value}{args:List Value}{h:Heap}{gs:Array GenState}{dr:Drawn}{tk:Nat}{os:OsState}{Q:Value→Shared→Prop}(c:codeAny (model prog w) A (.call f ⟨args,[]⟩) (Ret W ⟨h,gs,dr,tk,os⟩ P) ⟨h,gs,dr,tk,os⟩)
  (k:∀ v h' gs' tk',Mod W ⟨h,gs,dr,tk,os⟩ ⟨h',gs',dr,tk',os⟩→P v ⟨h',gs',dr,tk',os⟩→Q v ⟨h',gs',dr,tk',os⟩) :
  wpAny (model prog w) A (call f args) Q E ⟨h,gs,dr,tk,os⟩ :=
 call_ c fun v s' M p=>by
  obtain⟨h',gs',dr',tk',os'⟩:=s'
  obtain rfl:os'=os:=M.os
  obtain rfl:dr'=dr:=M.dr
  exact k v h' gs' tk' M p
end
set_option exponentiation.threshold 2000
section
variable{prog:Program}{w:World}{A:Around}{E:Value→Shared→Prop}{h:Heap}{gs:Array GenState}{dr:Drawn}{tk:Nat}{os:OsState}{env:Env}{a b:Int}{t u:Tok}
theorem cInt{i:Int}{k pos}{Q:Value→Shared→Prop}(q:∀ t tk,Q (.int i t) ⟨h,gs,dr,tk,os⟩):wpAny (model prog w) A (eval (.Constant (.int i) k pos) env) Q E ⟨h,gs,dr,tk,os⟩:=wpAny_Constant_int (q _ _)
theorem cFloat{x:UInt64}{k pos}{Q:Value→Shared→Prop}(q:∀ t tk,Q (.float x t) ⟨h,gs,dr,tk,os⟩):wpAny (model prog w) A (eval (.Constant (.float x) k pos) env) Q E ⟨h,gs,dr,tk,os⟩:=wpAny_Constant_float (q _ _)
theorem cStr{x:Str}{k pos}{Q:Value→Shared→Prop}(q:∀ t tk,Q (.str x t) ⟨h,gs,dr,tk,os⟩):wpAny (model prog w) A (eval (.Constant (.str x) k pos) env) Q E ⟨h,gs,dr,tk,os⟩:=Calls.Constant_str (q _ _)
theorem add_{Q:Value→Shared→Prop}(q:∀ t tk,Q (.int (a+b) t) ⟨h,gs,dr,tk,os⟩):wpAny (model prog w) A (binaryOp .Add (.int a t) (.int b u)) Q E ⟨h,gs,dr,tk,os⟩:=add_int (q _ _)
theorem sub_{Q:Value→Shared→Prop}(q:∀ t tk,Q (.int (a - b) t) ⟨h,gs,dr,tk,os⟩):wpAny (model prog w) A (binaryOp .Sub (.int a t) (.int b u)) Q E ⟨h,gs,dr,tk,os⟩:=sub_int (q _ _)
theorem mul_{Q:Value→Shared→Prop}(hm:IntMulOk a b)(q:∀ t tk,Q (.int (a * b) t) ⟨h,gs,dr,tk,os⟩):wpAny (model prog w) A (binaryOp .Mult (.int a t) (.int b u)) Q E ⟨h,gs,dr,tk,os⟩:=mul_int (q _ _) hm
theorem iadd_{Q:Value→Shared→Prop}(q:∀ t tk,Q (.int (a+b) t) ⟨h,gs,dr,tk,os⟩):wpAny (model prog w) A (inplaceOp .Add (.int a t) (.int b u)) Q E ⟨h,gs,dr,tk,os⟩:=iadd_int (q _ _)
theorem neg_{Q:Value→Shared→Prop}(q:∀ t tk,Q (.int (-a) t) ⟨h,gs,dr,tk,os⟩):wpAny (model prog w) A (unaryOp .USub (.int a t)) Q E ⟨h,gs,dr,tk,os⟩:=neg_int (q _ _)
theorem mulF1_{x:UInt64}{Q:Value→Shared→Prop}(hf:a.natAbs < 2 ^ 1023)(q:∀ t tk,Q (.float (Float64.mul x (Float64.ofInt a)) t) ⟨h,gs,dr,tk+1,os⟩):wpAny (model prog w) A (binaryOp .Mult (.float x t) (.int a u)) Q E ⟨h,gs,dr,tk,os⟩:=mul_fi_fits hf (q _ _)
theorem divF1_{x:UInt64}{Q:Value→Shared→Prop}(hf:a.natAbs < 2 ^ 1023)(hz:a≠0)(q:∀ tk',Q (.float (Float64.div x (Float64.ofInt a)) (tk+1)) ⟨h,gs,dr,tk',os⟩):wpAny (model prog w) A (binaryOp .Div (.float x t) (.int a u)) Q E ⟨h,gs,dr,tk+1,os⟩ :=
 AutoFloatOps.truediv_fi_2 (Float64.ofInt_fits hf) (fun x=>hz ((Flt.isZero_ofInt a).mp x)) (q _)
end
noncomputable def ents(P:Params):List Str→List Tok→List Value→List DictEntry
 | n::ns,t::ts,v::vs=>⟨keyHash P n,.str n t,v⟩::ents P ns ts vs
 | _,_,_=>[]
theorem ents_c{P:Params}{n:Str}{ns:List Str}{t:Tok}{ts:List Tok}{v:Value}{vs:List Value}:ents P (n::ns) (t::ts) (v::vs)=⟨keyHash P n,.str n t,v⟩::ents P ns ts vs:=rfl
theorem isStr_ne{n x:Str}{t:Tok}(h:x≠n):(Value.str n t).isStr x=false:=by
 show(n == x)=false
 simpa using fun e=>h e.symm
theorem isStr_eq{n:Str}{t:Tok}:(Value.str n t).isStr n=true:=by
 show(n == n)=true
 simp
theorem ents_get(P:Params):∀ {nm:List Str} {ts:List Tok} {vs:List Value} {x:Str} {i:Nat} {v:Value},nm.Nodup→nm[i]?=some x→nm.length=ts.length→vs[i]?=some v→getL x (ents P nm ts vs)=some (some v):=by
 intro nm
 unfold getL
 have key:∀ {nm:List Str} {ts:List Tok} {vs:List Value} {x:Str} {i:Nat} {v:Value},nm.Nodup→nm[i]?=some x→nm.length=ts.length→vs[i]?=some v→∃ e,(ents P nm ts vs).find? (·.key.isStr x)=some e∧e.val=v:=by
  intro nm
  induction nm with
  | nil=>intro ts vs x i v _ h;simp at h
  | cons n ns ih =>
   intro ts vs x i v nd h1 hl h2
   match ts,vs with
   | [],_=>simp at hl
   | _::_,[]=>simp at h2
   | t::ts,u::vs =>
    match i with
    | 0 =>
     simp at h1 h2
     subst h1 h2
     exact⟨⟨keyHash P n,.str n t,u⟩,by simp only [ents_c,List.find?_cons,isStr_eq],rfl⟩
    | i+1 =>
     have h1':ns[i]?=some x:=by simpa using h1
     have hx:x≠n:=fun e=>(List.nodup_cons.mp nd).1 (e▸List.mem_of_getElem? h1')
     refine oEA (ih (List.nodup_cons.mp nd).2 h1' (Nat.succ.inj hl) (by simpa using h2)) fun e he hv=>?_
     exact⟨e,by simp only [ents_c,List.find?_cons,isStr_ne hx];exact he,hv⟩
 intro ts vs x i v a b c d
 refine oEA (key a b c d) fun e he hv=>?_
 rw [he]
 simp [hv]
theorem ents_none(P:Params):∀ {nm:List Str} {ts:List Tok} {vs:List Value} {x:Str},x∉nm→getL x (ents P nm ts vs)=some none:=by
 intro nm ts vs x h
 unfold getL
 have k1:∀ {nm:List Str} {ts:List Tok} {vs:List Value},x∉nm→(ents P nm ts vs).find? (·.key.isStr x)=none:=by
  intro nm
  induction nm with
  | nil=>intros;rfl
  | cons n ns ih =>
   intro ts vs h
   match ts,vs with
   | [],_=>rfl
   | _::_,[]=>rfl
   | t::ts,v::vs =>
    have hx:x≠n:=fun e=>h (e▸.head _)
    simp only [ents_c,List.find?_cons,isStr_ne hx]
    exact ih fun m=>h (.tail _ m)
 have k2:∀ {nm:List Str} {ts:List Tok} {vs:List Value},(ents P nm ts vs).any (·.refKey)=false:=by
  intro nm
  induction nm with
  | nil=>intros;rfl
  | cons n ns ih =>
   intro ts vs
   match ts,vs with
   | [],_=>rfl
   | _::_,[]=>rfl
   | t::ts,v::vs =>
    simp only [ents_c,List.any_cons,ih,Bool.or_false]
    rfl
 rw [k1 h,k2]
 rfl
theorem ents_put(P:Params):∀ {nm:List Str} {ts:List Tok} {vs:List Value} {x:Str} {i:Nat} (hsh:Int) (key v:Value),nm.Nodup→nm[i]?=some x→nm.length=ts.length→nm.length=vs.length→putL x hsh key v (ents P nm ts vs)=ents P nm ts (vs.set i v):=by
 intro nm
 induction nm with
 | nil=>intro ts vs x i _ _ v _ h;simp at h
 | cons n ns ih =>
  intro ts vs x i hsh key v nd h1 hl hl'
  match ts,vs with
  | [],_=>simp at hl
  | _::_,[]=>simp at hl'
  | t::ts,u::vs =>
   match i with
   | 0 =>
    simp at h1
    subst h1
    simp only [ents_c,putL,isStr_eq,if_true,List.set_cons_zero]
   | i+1 =>
    have h1':ns[i]?=some x:=by simpa using h1
    have hx:x≠n:=fun e=>(List.nodup_cons.mp nd).1 (e▸List.mem_of_getElem? h1')
    simp only [ents_c,putL,isStr_ne hx,Bool.false_eq_true,if_false,List.set_cons_succ]
    rw [ih hsh key v (List.nodup_cons.mp nd).2 h1' (Nat.succ.inj hl) (Nat.succ.inj hl')]
theorem ents_putN(P:Params){nm:List Str}{ts:List Tok}{vs:List Value}{x:Str}{i:Nat}{n:Nat}{v:Value}(nd:nm.Nodup)(h1:nm[i]?=some x)(hl:nm.length=ts.length)(h2:vs[i]?=some v):putN x (ents P nm ts vs) n=n:=by
 have:=ents_get P nd h1 hl h2
 unfold putN
 rw [if_pos]
 unfold getL at this
 cases h:(ents P nm ts vs).find? (·.key.isStr x) with
 | none=>rw [h] at this;simp at this
 | some e=>exact List.any_eq_true.mpr ⟨e,List.mem_of_find?_eq_some h,by simpa using List.find?_some h⟩
theorem ents_len(P:Params):∀ {nm:List Str} {ts:List Tok} {vs:List Value},(ents P nm ts vs).length≤nm.length
 | [],_,_=>Nat.le_refl _
 | _::_,[],_=>Nat.zero_le _
 | _::_,_::_,[]=>Nat.zero_le _
 | _::_,_::_,_::_=>Nat.succ_le_succ (ents_len P)
noncomputable abbrev inst(C d:Addr):Obj:=⟨.ref C,some d,.plain,#[]⟩
noncomputable abbrev instD(P:Params)(nm:List Str)(ts:List Tok)(vs:List Value)(n:Nat):Obj:=dictOf (ents P nm ts vs) n
theorem instAt{h:Heap}{x C d:Addr}{od:Obj}(h1:h.get? x=some (inst C d))(h2:h.get? d=some od):InstAt h x (inst C d) C (some od):=⟨h1,rfl,rfl,h2⟩
structure Plain(K:Frag)(C:Addr):Prop where
 get:findIn K (.ref C) "__getattribute__" = some (some (.builtin "object.__getattribute__"))
 noget:findIn K (.ref C) "__getattr__" = some none
 dict:hasDictIn K C=true
 set:findIn K (.ref C) "__setattr__" = some (some (.builtin "object.__setattr__"))
 over:plainOver K C=true
structure Attr(K:Frag)(C:Addr)(nm:List Str)(x:Str)(i:Nat):Prop where
 nd:nm.Nodup
 place:nm[i]?=some x
 cls:∃ a,findIn K (.ref C) x=some a∧noGet K a=true
 take:takerIn K C x=some none
structure Meth(K:Frag)(C:Addr)(nm:List Str)(x:Str)(f:Addr):Prop where
 out:x∉nm
 find:findIn K (.ref C) x=some (some (.ref f))
 fn:typeIn K (.ref f)=some (.type "function")
section
variable{prog:Program}{w:World}{A:Around}{E:Value→Shared→Prop}{h g:Heap}{gs:Array GenState}{dr:Drawn}{tk:Nat}{os:OsState}{K:Frag}{mg mb:Str→Option Value}{L a x C d:Addr}{nm an:List Str}{ls:List (Option Value)}{mu:List (Addr×Obj)}{ts:List Tok}{vs:List Value}{n:Nat}
theorem getA{P:Params}{name:Str}{i:Nat}{v:Value}{expr:Bool}{Q:Value→Shared→Prop}(X:K.In h)(p:Plain K C)(t:Attr K C an name i)(h1:h.get? x=some (inst C d))(h2:h.get? d=some (instD P an ts vs n))(hl:an.length=ts.length)
  (hv:vs[i]?=some v) (hh:handedIn v=true) (q:∀ tk,Q v ⟨h,gs,dr,tk,os⟩):wpAny (model prog w) A (getAttr (.ref x) name expr) Q E ⟨h,gs,dr,tk,os⟩:=by
 refine oEA t.cls fun at' hf hn=>?_
 exact get_value (s:=⟨h,gs,dr,tk,os⟩) X (instAt h1 h2) p.get (findObj_own p.dict hf hn (by rw [lookIn_dict];exact ents_get P t.nd t.place hl hv)) hh (q _)
theorem methA{P:Params}{name:Str}{f:Addr}{pl:Sem Bool}{Q:Value×List Value→Shared→Prop}(X:K.In h)(p:Plain K C)(m:Meth K C an name f)(h1:h.get? x=some (inst C d))(h2:h.get? d=some (instD P an ts vs n))
  (q:Q (.ref f,[.ref x]) ⟨h,gs,dr,tk,os⟩):wpAny (model prog w) A (getMethod (.ref x) name pl) Q E ⟨h,gs,dr,tk,os⟩ :=
 method_fn (s:=⟨h,gs,dr,tk,os⟩) X (instAt h1 h2) p.get p.noget m.find m.fn (by show(lookIn name (instD P an ts vs n)).map _=_;rw [lookIn_dict,ents_none P m.out];rfl) q
theorem setA{name:Str}{i j:Nat}{v v₀:Value}{Q:Unit→Shared→Prop}(S:St g L h nm ls mu)(X:K.In h)(p:Plain K C)(t:Attr K C an name i)(h1:h.get? x=some (inst C d))(hj:mu[j]?=some (d,instD w.params an ts vs n))(hl:an.length=ts.length)(hl':an.length=vs.length)(hn:an.length≤1000)
  (hv:vs[i]?=some v₀) (q:∀ h' tk,St g L h' nm ls (mu.set j (d,instD w.params an ts (vs.set i v) n))→Q () ⟨h',gs,dr,tk,os⟩):wpAny (model prog w) A (setAttr (.ref x) name v) Q E ⟨h,gs,dr,tk,os⟩:=by
 have hlt:j < mu.length:=(List.getElem?_eq_some_iff.mp hj).1
 have he:mu=mu.take j++(d,instD w.params an ts vs n)::mu.drop (j+1):=by
  have e2:=(List.getElem?_eq_some_iff.mp hj).2
  rw [← e2]
  rw [← List.drop_eq_getElem_cons hlt,List.take_append_drop]
 have hset:mu.set j (d,instD w.params an ts (vs.set i v) n)=mu.take j++(d,instD w.params an ts (vs.set i v) n)::mu.drop (j+1):=by
  rw [List.set_eq_take_append_cons_drop,if_pos hlt]
 have nd:((mu.take j++(d,instD w.params an ts vs n)::mu.drop (j+1)).map (·.1)).Nodup:=he▸S.nd
 rw [List.map_append,List.map_cons,List.nodup_append] at nd
 refine oAA nd fun _ nd2 nd3=>?_
 have ne1:∀ p∈mu.take j,p.1≠d:=fun p hp e=>nd3 _ (List.mem_map_of_mem hp) _ (.head _) e
 have ne2:∀ p∈mu.drop (j+1),p.1≠d:=fun p hp e=>(List.nodup_cons.mp nd2).1 (List.mem_map.mpr ⟨p,hp,e⟩)
 have N':News g L h (mu.take j++(d,instD w.params an ts vs n)::mu.drop (j+1)):=he▸S.N
 have D:h.get? d=some (instD w.params an ts vs n):=S.get hj
 have I:=instAt h1 D
 have hz:(ents w.params an ts (vs.set i v)).length≤1000:=ntr (ents_len _) hn
 refine set_plain (s:=⟨h,gs,dr,tk,os⟩) X I p.set (osa_dict (s:=⟨h,gs,dr,tk+1,os⟩) S.F N' X I rfl p.over t.take p.dict ?_ ne1 ne2 (by rw [putName_dict,ents_put w.params _ _ v t.nd t.place hl hl',ents_putN w.params t.nd t.place hl hv]) rfl hz fun h' F' N''=>?_)
 ·show(lookIn name (dictOf _ _)).isSome=true
  rw [lookIn_dict,ents_get w.params t.nd t.place hl hv]
  rfl
 ·refine q h' _ ⟨F',?_,?_⟩
  ·rw [hset];exact N''
  ·have:(mu.set j (d,instD w.params an ts (vs.set i v) n)).map (·.1)=mu.map (·.1):=by
    rw [hset]
    conv=>rhs;rw [he]
    simp
   rw [this];exact S.nd
end
section
variable{prog:Program}{w:World}{A:Around}{E:Value→Shared→Prop}{h g:Heap}{gs:Array GenState}{dr:Drawn}{tk:Nat}{os:OsState}{K:Frag}{mg mb:Str→Option Value}{L a:Addr}{nm:List Str}{ls:List (Option Value)}{mu:List (Addr×Obj)}{q:Str}{sc:Scope}{cd:Value}
theorem St.re{h':Heap}(S:St g L h nm ls mu)(F:Fr g L h' (look nm ls))(N:News g L h' mu):St g L h' nm ls mu:=⟨F,N,S.nd⟩
theorem asgN{x:Str}{np:Pos}{value:Expr}{pos:Pos}{Q:Flow→Shared→Prop}
  (k:wpAny (model prog w) A (eval value (envOf q sc L a cd)) (fun v s₁=>wpAny (model prog w) A (storeName (envOf q sc L a cd) x v) (fun _=>Q .next) E s₁) E ⟨h,gs,dr,tk,os⟩)
  (hs:swapsWith value (some (.Name x np)) pos.line (envOf q sc L a cd)=pure false:=by rfl):wpAny (model prog w) A (exec (.Assign [.Name x np] value pos) (envOf q sc L a cd)) Q E ⟨h,gs,dr,tk,os⟩ :=
 wpAny_Assign_Name k hs
theorem st_{x:Str}{i:Nat}{v:Value}{Q:Unit→Shared→Prop}(S:St g L h nm ls mu)(V:Var sc nm x i)(hi:i < ls.length)
  (k:∀ h' tk,St g L h' nm (ls.set i (some v)) mu→Q () ⟨h',gs,dr,tk,os⟩):wpAny (model prog w) A (storeName (envOf q sc L a cd) x v) Q E ⟨h,gs,dr,tk,os⟩ :=
 stV (s:=⟨h,gs,dr,tk,os⟩) S V hi fun h' S'=>k h' _ S'
theorem ld_{x:Str}{pos:Pos}{i:Nat}{v:Value}{Q:Value→Shared→Prop}(S:St g L h nm ls mu)(V:Var sc nm x i)(hv:ls[i]?=some (some v))(k:Q v ⟨h,gs,dr,tk,os⟩) :
  wpAny (model prog w) A (eval (.Name x pos) (envOf q sc L a cd)) Q E ⟨h,gs,dr,tk,os⟩:=ldV (s:=⟨h,gs,dr,tk,os⟩) S V hv k
theorem newT {vs:List Value} {Q:Value→Shared→Prop} (S:St g L h nm ls mu) (hsz:vs.length≤1000) (k:∀ h',St g L h' nm ls ((h.objs.size,⟨.type "tuple",none,.seq vs.toArray 0,#[]⟩)::mu)→Q (.ref h.objs.size) ⟨h',gs,dr,tk,os⟩) :
  wpAny (model prog w) A (newTuple vs) Q E ⟨h,gs,dr,tk,os⟩ :=
 wpAny_newObj_type (k _ (S.push _)) (by show vs.toArray.size≤sizeLine;rw [List.size_toArray];exact ntr hsz (by decide))
theorem newL {vs:List Value} {Q:Value→Shared→Prop} (S:St g L h nm ls mu) (hsz:vs.length≤1000) (k:∀ h',St g L h' nm ls ((h.objs.size,⟨.type "list",none,.seq vs.toArray 0,#[]⟩)::mu)→Q (.ref h.objs.size) ⟨h',gs,dr,tk,os⟩) :
  wpAny (model prog w) A (newList vs) Q E ⟨h,gs,dr,tk,os⟩ :=
 wpAny_newObj_type (k _ (S.push _)) (by show vs.toArray.size≤sizeLine;rw [List.size_toArray];exact ntr hsz (by decide))
theorem unpk{t:Addr}{items:List Value}{n:Nat}{Q:List Value→Shared→Prop}(S:St g L h nm ls mu)(ht:IsTup h t items.toArray)(hh:A.handled=none)(hn:n=items.length)(k:∀ h',St g L h' nm ls mu→Q items ⟨h',gs,dr,tk,os⟩) :
  wpAny (model prog w) A (unpackItems (.ref t) n none) Q E ⟨h,gs,dr,tk,os⟩ :=
 unpackItemsN_ (s:=⟨h,gs,dr,tk,os⟩) S.F S.N ht hh (by rw [hn,List.size_toArray]) fun h' F' N'=>k h' (S.re F' N')
theorem ord_nil{Q:Unit→Shared→Prop}(k:Q () ⟨h,gs,dr,tk,os⟩):wpAny (model prog w) A (assignInOrder [] []) Q E ⟨h,gs,dr,tk,os⟩:=wP k
theorem ord_cons{t:Value→Sem Unit}{ts:List (Value→Sem Unit)}{x:Value}{xs:List Value}{Q:Unit→Shared→Prop}
  (k:wpAny (model prog w) A (t x) (fun _ s₁=>wpAny (model prog w) A (assignInOrder ts xs) Q E s₁) E ⟨h,gs,dr,tk,os⟩):wpAny (model prog w) A (assignInOrder (t::ts) (x::xs)) Q E ⟨h,gs,dr,tk,os⟩:=by
 exact wB (wpAny_holding k)
theorem tup2{x y:Str}{i j:Nat}{v1 v2:Value}{Q:Unit→Shared→Prop}(S:St g L h nm ls mu)(hh:A.handled=none)(Vx:Var sc nm x i)(Vy:Var sc nm y j)(hi:i < ls.length)(hj:j < ls.length)
  (k:∀ h' tk,St g L h' nm ((ls.set j (some v2)).set i (some v1)) mu→Q () ⟨h',gs,dr,tk,os⟩) :
  wpAny (model prog w) A (newTuple [v1,v2]) (fun v s₁=>wpAny (model prog w) A (unpackItems v [x,y].length none) (fun items s₂=>wpAny (model prog w) A (assignInOrder ([x,y].reverse.map fun n=>bindName (envOf q sc L a cd) n) items.reverse) Q E s₂) E s₁) E ⟨h,gs,dr,tk,os⟩:=by
 refine newT S (by simp) fun h1 S1=>?_
 refine unpk (items:=[v1,v2]) S1 ⟨_,S1.get (j:=0) rfl,rfl,0,rfl⟩ hh rfl fun h2 S2=>?_
 refine ord_cons (wpAny_bindName (st_ S2 Vy hj fun h3 t3 S3=>?_))
 refine ord_cons (wpAny_bindName (st_ S3 Vx (by simpa using hi) fun h4 t4 S4=>?_))
 exact ord_nil (k _ _ (S4.drop (List.sublist_cons_self _ _)))
theorem tup3{x y z:Str}{i j l:Nat}{v1 v2 v3:Value}{Q:Unit→Shared→Prop}(S:St g L h nm ls mu)(hh:A.handled=none)(Vx:Var sc nm x i)(Vy:Var sc nm y j)(Vz:Var sc nm z l)(hi:i < ls.length)(hj:j < ls.length)(hl:l < ls.length)
  (k:∀ h' tk,St g L h' nm (((ls.set l (some v3)).set j (some v2)).set i (some v1)) mu→Q () ⟨h',gs,dr,tk,os⟩) :
  wpAny (model prog w) A (newTuple [v1,v2,v3]) (fun v s₁=>wpAny (model prog w) A (unpackItems v [x,y,z].length none) (fun items s₂=>wpAny (model prog w) A (assignInOrder ([x,y,z].reverse.map fun n=>bindName (envOf q sc L a cd) n) items.reverse) Q E s₂) E s₁) E ⟨h,gs,dr,tk,os⟩:=by
 refine newT S (by simp) fun h1 S1=>?_
 refine unpk (items:=[v1,v2,v3]) S1 ⟨_,S1.get (j:=0) rfl,rfl,0,rfl⟩ hh rfl fun h2 S2=>?_
 refine ord_cons (wpAny_bindName (st_ S2 Vz hl fun h3 t3 S3=>?_))
 refine ord_cons (wpAny_bindName (st_ S3 Vy (by simpa using hj) fun h4 t4 S4=>?_))
 refine ord_cons (wpAny_bindName (st_ S4 Vx (by simpa using hi) fun h5 t5 S5=>?_))
 exact ord_nil (k _ _ (S5.drop (List.sublist_cons_self _ _)))
theorem len_{l:Addr}{items:List Value}{Q:Value→Shared→Prop}(hl:h.IsList l items.toArray)(hf:items.length≤1000)(k:∀ t tk,Q (.int items.length t) ⟨h,gs,dr,tk,os⟩):wpAny (model prog w) A (call (.builtin "len") [.ref l]) Q E ⟨h,gs,dr,tk,os⟩ :=
 len_list (s:=⟨h,gs,dr,tk,os⟩) hl (by rw [List.size_toArray];lia) (by rw [List.size_toArray];exact k _ _)
theorem min_{x y:Int}{t u:Tok}{Q:Value→Shared→Prop}(hh:A.handled=none)(S:St g L h nm ls mu)(k:∀ h' tk t,St g L h' nm ls mu→Q (.int (min x y) t) ⟨h',gs,dr,tk,os⟩):wpAny (model prog w) A (call (.builtin "min") [.int x t,.int y u]) Q E ⟨h,gs,dr,tk,os⟩ :=
 min_two_N (s:=⟨h,gs,dr,tk,os⟩) hh S.F S.N fun h' tk F' N'=>by
  have e:(if y < x then y else x)=min x y:=by lia
  rw [e];exact k _ _ _ (S.re F' N')
theorem cB{id:String}{e:Expr}{rest:List Expr}{pos:Pos}{env:Env}{s:Shared}{Q:Value→Shared→Prop}
  (k:wpAny (model prog w) A (spliced (backTo pos (starEach (e::rest) env))) (fun vs s₁=>wpAny (model prog w) A (call (.builtin id) vs) Q E s₁) E s)
  (he:starEach (e::rest) env=(false,eval e env)::starEach rest env:=by rfl) (hplain:(backTo pos (starEach rest env)).any (·.1)=false:=by rfl) :
  wpAny (model prog w) A (callWith pos (.builtin id) [] (backTo pos (starEach (e::rest) env)) []) Q E s:=callWith_builtin1 k he hplain
structure BN(K:Frag)(x:Str)(v:Value):Prop where
 no:nsIn K mainGlobals x=some none
 boot:bootBuiltins x=some v
 ne:x≠"__name__"
theorem lb_{x:Str}{pos:Pos}{v:Value}{Q:Value→Shared→Prop}(S:St g L h nm ls mu)(D:Gd K mg mb g)(V:GVar sc x)(N:BN K x v)(k:Q v ⟨h,gs,dr,tk,os⟩) :
  wpAny (model prog w) A (eval (.Name x pos) (envOf q sc L a cd)) Q E ⟨h,gs,dr,tk,os⟩:=ldB (s:=⟨h,gs,dr,tk,os⟩) S D V N.no N.boot N.ne k
theorem lg_{x:Str}{pos:Pos}{v:Value}{Q:Value→Shared→Prop}(S:St g L h nm ls mu)(D:Gd K mg mb g)(V:GVar sc x)(N:nsIn K mainGlobals x=some (some v))(k:Q v ⟨h,gs,dr,tk,os⟩) :
  wpAny (model prog w) A (eval (.Name x pos) (envOf q sc L a cd)) Q E ⟨h,gs,dr,tk,os⟩:=ldG (s:=⟨h,gs,dr,tk,os⟩) S D V N k
theorem at1{x attr:Str}{xp pos:Pos}{env:Env}{s:Shared}{Q:Value→Shared→Prop}(k:wpAny (model prog w) A (eval (.Name x xp) env) (fun o s₁=>wpAny (model prog w) A (getAttr o attr true) Q E s₁) E s):wpAny (model prog w) A (eval (.Attribute (.Name x xp) attr pos) env) Q E s:=Attribute_name k
theorem arg_{e:Expr}{rest:List Expr}{pos:Pos}{env:Env}{s:Shared}{Q:List Value→Shared→Prop}
  (k:wpAny (model prog w) A (eval e env) (fun v s₁=>wpAny (model prog w) A (spliced (backTo pos (starEach rest env))) (fun vs s₂=>Q (v::vs) s₂) E s₁) E s)
  (he:starEach (e::rest) env=(false,eval e env)::starEach rest env:=by rfl):wpAny (model prog w) A (spliced (backTo pos (starEach (e::rest) env))) Q E s:=args_cons k he
theorem arg0{pos:Pos}{env:Env}{s:Shared}{Q:List Value→Shared→Prop}(k:Q [] s):wpAny (model prog w) A (spliced (backTo pos (starEach [] env))) Q E s:=args_nil k
theorem cF{f:Addr}{fd:FuncData}{o:Obj}{e:Expr}{rest:List Expr}{pos:Pos}{env:Env}{s:Shared}{Q:Value→Shared→Prop}(hdat:o.data=.func fd)
  (k:wpAny (model prog w) A (spliced (backTo pos (starEach (e::rest) env))) (fun vs s₁=>s₁.heap.get? f=some o∧wpAny (model prog w) A (call (.ref f) vs) Q E s₁) E s)
  (he:starEach (e::rest) env=(false,eval e env)::starEach rest env:=by rfl) :
  wpAny (model prog w) A (callWith pos (.ref f) [] (backTo pos (starEach (e::rest) env)) []) Q E s:=callWith_def hdat k he
theorem cM{f:Addr}{fd:FuncData}{o:Obj}{first:List Value}{e:Expr}{rest:List Expr}{pos:Pos}{env:Env}{s:Shared}{Q:Value→Shared→Prop}(hdat:o.data=.func fd)
  (k:wpAny (model prog w) A (spliced (backTo pos (starEach (e::rest) env))) (fun vs s₁=>s₁.heap.get? f=some o∧wpAny (model prog w) A (call (.ref f) (first++vs)) Q E s₁) E s)
  (he:starEach (e::rest) env=(false,eval e env)::starEach rest env:=by rfl) :
  wpAny (model prog w) A (callWith pos (.ref f) first (backTo pos (starEach (e::rest) env)) []) Q E s:=by
 rw [he] at k ⊢
 exact callWith_function (o:=o) (fd:=fd) (evalArgs_plain (wpAny_mono k (fun vs s₁ h₁=>⟨⟨h₁.1,hdat⟩,h₁.2⟩) fun _ _ x=>x))
theorem cM0{f:Addr}{fd:FuncData}{o:Obj}{first:List Value}{pos:Pos}{env:Env}{s:Shared}{Q:Value→Shared→Prop}(hdat:o.data=.func fd)(ho:s.heap.get? f=some o)
  (k:wpAny (model prog w) A (call (.ref f) first) Q E s):wpAny (model prog w) A (callWith pos (.ref f) first (backTo pos (starEach [] env)) []) Q E s :=
 callWith_function (o:=o) (fd:=fd) (PySem.evalArgs_none ⟨⟨ho,hdat⟩,by simpa using k⟩)
end
theorem Gd.hide{K:Frag}{mg mb:Str→Option Value}{G h:Heap}(D:Gd K mg mb G)(hG:Sub G h){W:List Addr}(hW:∀ a∈W,G.get? a=none):Gd K mg mb (hideAll h W) :=
 D.keeps fun b o e=>hideAll_get _ (hG b o e) fun m=>by have:=hW b m;rw [e] at this;cases this
theorem ents_new(P:Params){x:Str}(t:Tok)(v:Value):∀ {nm:List Str} {ts:List Tok} {vs:List Value},x∉nm→nm.length=ts.length→nm.length=vs.length→putL x (keyHash P x) (.str x t) v (ents P nm ts vs)=ents P (nm++[x]) (ts++[t]) (vs++[v]):=by
 intro nm
 induction nm with
 | nil =>
  intro ts vs _ h1 h2
  rw [List.length_eq_zero_iff.mp h1.symm,List.length_eq_zero_iff.mp h2.symm]
  rfl
 | cons n ns ih =>
  intro ts vs h h1 h2
  refine oEE (List.exists_cons_of_length_eq_add_one h1.symm) ?_;rintro u ts rfl
  refine oEE (List.exists_cons_of_length_eq_add_one h2.symm) ?_;rintro y vs rfl
  show(if (Value.str n u).isStr x=true then _ else _)=_
  rw [isStr_ne (x:=x) (n:=n) fun e=>h (e▸.head _),if_neg (by decide)]
  exact congrArg _ (ih (fun m=>h (.tail _ m)) (Nat.succ.inj h1) (Nat.succ.inj h2))
noncomputable def putV(vs:List Value)(i:Nat)(v:Value):List Value:=if i < vs.length then vs.set i v else vs++[v]
theorem putV_self{vs:List Value}{i:Nat}{v:Value}(h:i≤vs.length):(putV vs i v)[i]?=some v:=by
 unfold putV
 split
 ·simp [*]
 ·have:i=vs.length:=by lia
  subst this;simp
theorem putV_ne{vs:List Value}{i j:Nat}{v u:Value}(h:i≠j)(e:vs[j]?=some u):(putV vs i v)[j]?=some u:=by
 unfold putV
 split
 ·rw [List.getElem?_set_ne h];exact e
 ·have:=(List.getElem?_eq_some_iff.mp e).1
  rw [List.getElem?_append_left this];exact e
theorem putV_len{vs:List Value}{i:Nat}{v:Value}(h:i≤vs.length):(putV vs i v).length=max vs.length (i+1):=by
 unfold putV
 split
 ·simp;lia
 ·simp;lia
structure IV(P:Params)(an:List Str)(vs:List Value)(o:Obj):Prop where
 ex:∃ ts n,o=instD P (an.take vs.length) ts vs n∧ts.length=vs.length
 le:vs.length≤an.length
structure At(K:Frag)(C:Addr)(an:List Str)(x:Str)(i:Nat):Prop where
 nd:an.Nodup
 place:an[i]?=some x
 cls:∃ a,findIn K (.ref C) x=some a∧noGet K a=true
 take:takerIn K C x=some none
theorem At.attr{K:Frag}{C:Addr}{an:List Str}{x:Str}{i n:Nat}(t:At K C an x i)(h:i < n):Attr K C (an.take n) x i :=
 ⟨t.nd.sublist (List.take_sublist _ _),by rw [List.getElem?_take_of_lt h];exact t.place,t.cls,t.take⟩
section
variable{prog:Program}{w:World}{A:Around}{E:Value→Shared→Prop}{h g:Heap}{gs:Array GenState}{dr:Drawn}{tk:Nat}{os:OsState}{K:Frag}{mg mb:Str→Option Value}{L a x C d:Addr}{nm an:List Str}{ls:List (Option Value)}{mu:List (Addr×Obj)}{vs:List Value}{o:Obj}
theorem lt_of_get{α:Type}{l:List α}{i:Nat}{v:α}(e:l[i]?=some v):i < l.length:=(List.getElem?_eq_some_iff.mp e).1
theorem getV{P:Params}{name:Str}{i:Nat}{v:Value}{expr:Bool}{Q:Value→Shared→Prop}(X:K.In h)(p:Plain K C)(t:At K C an name i)(h1:h.get? x=some (inst C d))(h2:h.get? d=some o)(I:IV P an vs o)
  (hv:vs[i]?=some v) (hh:handedIn v=true) (q:∀ tk,Q v ⟨h,gs,dr,tk,os⟩):wpAny (model prog w) A (getAttr (.ref x) name expr) Q E ⟨h,gs,dr,tk,os⟩:=by
 obtain⟨⟨ts,n,rfl,hl⟩,hle⟩:=I
 exact getA X p (t.attr (lt_of_get hv)) h1 h2 (by rw [List.length_take,hl];lia) hv hh q
theorem methV{P:Params}{name:Str}{f:Addr}{pl:Sem Bool}{Q:Value×List Value→Shared→Prop}(X:K.In h)(p:Plain K C)(m:Meth K C an name f)(h1:h.get? x=some (inst C d))(h2:h.get? d=some o)(I:IV P an vs o)
  (q:Q (.ref f,[.ref x]) ⟨h,gs,dr,tk,os⟩):wpAny (model prog w) A (getMethod (.ref x) name pl) Q E ⟨h,gs,dr,tk,os⟩:=by
 obtain⟨⟨ts,n,rfl,hl⟩,hle⟩:=I
 exact methA X p ⟨fun e=>m.out (List.mem_of_mem_take e),m.find,m.fn⟩ h1 h2 q
theorem setV{name:Str}{i j:Nat}{v:Value}{Q:Unit→Shared→Prop}(S:St g L h nm ls mu)(X:K.In h)(p:Plain K C)(t:At K C an name i)(h1:h.get? x=some (inst C d))(hj:mu[j]?=some (d,o))(I:IV w.params an vs o)(hn:an.length≤1000)
  (hi:i≤vs.length) (q:∀ h' tk o',IV w.params an (putV vs i v) o'→St g L h' nm ls (mu.set j (d,o'))→Q () ⟨h',gs,dr,tk,os⟩):wpAny (model prog w) A (setAttr (.ref x) name v) Q E ⟨h,gs,dr,tk,os⟩:=by
 obtain⟨⟨ts,n,rfl,hl⟩,hle⟩:=I
 have hlt:=lt_of_get t.place
 have hl1:(an.take vs.length).length=ts.length:=by rw [List.length_take,hl];lia
 have hl2:(an.take vs.length).length=vs.length:=by rw [List.length_take];lia
 by_cases hiv:i < vs.length
 ·refine setA (i:=i) (v:=v) (v₀:=vs[i]) S X p (t.attr hiv) h1 hj hl1 hl2 (by lia) (List.getElem?_eq_getElem hiv) fun h' tk S'=>q h' tk _ ?_ S'
  unfold putV
  rw [if_pos hiv]
  refine⟨⟨ts,n,?_,by simpa using hl⟩,by simpa using hle⟩
  rw [List.length_set]
 ·have hie:i=vs.length:=by lia
  subst hie
  have hout:name∉an.take vs.length:=by
   intro hm
   obtain⟨k,hk,e⟩:=List.getElem_of_mem hm
   have hk':k < vs.length:=by rw [List.length_take] at hk;(clear e hk hiv hlt hi hl2 hj hle hn h1;exact Nat.lt_of_lt_of_le ‹_› (by lia))
   rw [List.getElem_take] at e
   have e1:an[k]?=some name:=by rw [List.getElem?_eq_getElem (ntr hk' hle),e]
   have:=(List.getElem?_inj (by lia) t.nd).mp (e1.trans t.place.symm)
   lia
  have hjl:j < mu.length:=lt_of_get hj
  have he:mu=mu.take j++(d,instD w.params (an.take vs.length) ts vs n)::mu.drop (j+1):=by
   have e2:=(List.getElem?_eq_some_iff.mp hj).2
   rw [← e2,← List.drop_eq_getElem_cons hjl,List.take_append_drop]
  have hset:∀ o',mu.set j (d,o')=mu.take j++(d,o')::mu.drop (j+1):=fun o'=>by
   rw [List.set_eq_take_append_cons_drop,if_pos hjl]
  have nd:((mu.take j++(d,instD w.params (an.take vs.length) ts vs n)::mu.drop (j+1)).map (·.1)).Nodup:=he▸S.nd
  rw [List.map_append,List.map_cons,List.nodup_append] at nd
  refine oAA nd fun _ nd2 nd3=>?_
  have ne1:∀ p∈mu.take j,p.1≠d:=fun p hp e=>nd3 _ (List.mem_map_of_mem hp) _ (.head _) e
  have ne2:∀ p∈mu.drop (j+1),p.1≠d:=fun p hp e=>(List.nodup_cons.mp nd2).1 (List.mem_map.mpr ⟨p,hp,e⟩)
  have N':News g L h (mu.take j++(d,instD w.params (an.take vs.length) ts vs n)::mu.drop (j+1)):=he▸S.N
  have D:h.get? d=some (instD w.params (an.take vs.length) ts vs n):=S.get hj
  have Ix:=instAt h1 D
  have hz:(ents w.params (an.take vs.length++[name]) (ts++[tk+1]) (vs++[v])).length≤1000:=ntr (ents_len _) (by rw [List.length_append,hl2];simp;lia)
  refine set_plain (s:=⟨h,gs,dr,tk,os⟩) X Ix p.set (osa_dict (s:=⟨h,gs,dr,tk+1,os⟩) S.F N' X Ix rfl p.over t.take p.dict ?_ ne1 ne2 (by rw [putName_dict,ents_new w.params _ v hout hl1 hl2]) rfl hz fun h' F' N''=>?_)
  ·show(lookIn name (dictOf _ _)).isSome=true
   rw [lookIn_dict,ents_none w.params hout]
   rfl
  ·refine q h' _ (dictOf (ents w.params (an.take vs.length++[name]) (ts++[tk+1]) (vs++[v])) (putN name (ents w.params (an.take vs.length) ts vs) n)) ?_ ⟨F',by rw [hset];exact N'',?_⟩
   ·unfold putV
    rw [if_neg hiv]
    refine⟨⟨ts++[tk+1],putN name (ents w.params (an.take vs.length) ts vs) n,?_,by simp [hl]⟩,by simp;lia⟩
    have:an.take (vs++[v]).length=an.take vs.length++[name]:=by
     rw [List.length_append,List.length_singleton,List.take_succ,t.place]
     rfl
    rw [this]
   ·have:(mu.set j (d,dictOf (ents w.params (an.take vs.length++[name]) (ts++[tk+1]) (vs++[v])) (putN name (ents w.params (an.take vs.length) ts vs) n))).map (·.1)=mu.map (·.1):=by
     rw [hset]
     conv=>rhs;rw [he]
     simp
    rw [this];exact S.nd
end
noncomputable def fdOf(o:Obj):FuncData:=match o.data with | .func f=>f | _=>default
section
noncomputable def sc_mnew:Scope:=fnScope (inAt 3 4)
noncomputable def bd_mnew:List Stmt:=fnBody (inAt 3 4)
noncomputable def ps_mnew:List Str:=[ofString "_cls",ofString "a",ofString "b",ofString "size"]
noncomputable def os_mnew:List Str:=[]
noncomputable def nm_mnew:List Str:=[ofString "_cls",ofString "a",ofString "b",ofString "size"]
theorem nd_mnew:nm_mnew.Nodup:=by decide +kernel
theorem kn_mnew:sc_mnew.kind=.function:=by kernel_rfl
theorem fn_mnew(P:Params):Fn (K P) 82 (fdOf (o82 P)) (ofString "Match.__new__") sc_mnew bd_mnew (.ref 81):=⟨⟨o82 P,by kernel_rfl,by kernel_rfl⟩,by kernel_rfl,by kernel_rfl,by kernel_rfl,by kernel_rfl,fun L=>by kernel_rfl,by kernel_rfl,by kernel_rfl,by kernel_rfl,kn_mnew,by decide +kernel⟩
theorem p_mnew:ps_mnew.Nodup∧∀ x∈ps_mnew,sc_mnew.names.lookup x=some .local:=by decide +kernel
theorem b_mnew(P:Params)(s:Shared)(x0 x1 x2 x3:Value):BindsTo s (fdOf (o82 P)) ⟨[x0,x1,x2,x3],[]⟩ (ps_mnew.zip [x0,x1,x2,x3]):=BindsTo.of_eq (by kernel_rfl)
theorem v_mnew__cls:Var sc_mnew nm_mnew (ofString "_cls") 0:=⟨kn_mnew,nd_mnew,by kernel_rfl,rfl,by decide +kernel⟩
theorem v_mnew_a:Var sc_mnew nm_mnew (ofString "a") 1:=⟨kn_mnew,nd_mnew,by kernel_rfl,rfl,by decide +kernel⟩
theorem v_mnew_b:Var sc_mnew nm_mnew (ofString "b") 2:=⟨kn_mnew,nd_mnew,by kernel_rfl,rfl,by decide +kernel⟩
theorem v_mnew_size:Var sc_mnew nm_mnew (ofString "size") 3:=⟨kn_mnew,nd_mnew,by kernel_rfl,rfl,by decide +kernel⟩
theorem g_mnew_tuple:GVar sc_mnew (ofString "tuple"):=⟨kn_mnew,by kernel_rfl,by decide +kernel⟩
noncomputable def sc_make:Scope:=fnScope (inAt 3 5)
noncomputable def bd_make:List Stmt:=fnBody (inAt 3 5)
noncomputable def ps_make:List Str:=[ofString "cls",ofString "iterable"]
noncomputable def os_make:List Str:=[ofString "result"]
noncomputable def nm_make:List Str:=[ofString "cls",ofString "iterable",ofString "result"]
theorem nd_make:nm_make.Nodup:=by decide +kernel
theorem kn_make:sc_make.kind=.function:=by kernel_rfl
theorem fn_make(P:Params):Fn (K P) 89 (fdOf (o89 P)) (ofString "Match._make") sc_make bd_make (.ref 88):=⟨⟨o89 P,by kernel_rfl,by kernel_rfl⟩,by kernel_rfl,by kernel_rfl,by kernel_rfl,by kernel_rfl,fun L=>by kernel_rfl,by kernel_rfl,by kernel_rfl,by kernel_rfl,kn_make,by decide +kernel⟩
theorem p_make:ps_make.Nodup∧∀ x∈ps_make,sc_make.names.lookup x=some .local:=by decide +kernel
theorem b_make(P:Params)(s:Shared)(x0 x1:Value):BindsTo s (fdOf (o89 P)) ⟨[x0,x1],[]⟩ (ps_make.zip [x0,x1]):=BindsTo.of_eq (by kernel_rfl)
theorem v_make_cls:Var sc_make nm_make (ofString "cls") 0:=⟨kn_make,nd_make,by kernel_rfl,rfl,by decide +kernel⟩
theorem v_make_iterable:Var sc_make nm_make (ofString "iterable") 1:=⟨kn_make,nd_make,by kernel_rfl,rfl,by decide +kernel⟩
theorem v_make_result:Var sc_make nm_make (ofString "result") 2:=⟨kn_make,nd_make,by kernel_rfl,rfl,by decide +kernel⟩
theorem g_make_tuple:GVar sc_make (ofString "tuple"):=⟨kn_make,by kernel_rfl,by decide +kernel⟩
theorem g_make_len:GVar sc_make (ofString "len"):=⟨kn_make,by kernel_rfl,by decide +kernel⟩
noncomputable def sc_calc:Scope:=fnScope (stAt 4)
noncomputable def bd_calc:List Stmt:=fnBody (stAt 4)
noncomputable def ps_calc:List Str:=[ofString "matches",ofString "length"]
noncomputable def os_calc:List Str:=[]
noncomputable def nm_calc:List Str:=[ofString "matches",ofString "length"]
theorem nd_calc:nm_calc.Nodup:=by decide +kernel
theorem kn_calc:sc_calc.kind=.function:=by kernel_rfl
theorem fn_calc(P:Params):Fn (K P) 145 (fdOf (o145 P)) (ofString "_calculate_ratio") sc_calc bd_calc (.ref 144):=⟨⟨o145 P,by kernel_rfl,by kernel_rfl⟩,by kernel_rfl,by kernel_rfl,by kernel_rfl,by kernel_rfl,fun L=>by kernel_rfl,by kernel_rfl,by kernel_rfl,by kernel_rfl,kn_calc,by decide +kernel⟩
theorem p_calc:ps_calc.Nodup∧∀ x∈ps_calc,sc_calc.names.lookup x=some .local:=by decide +kernel
theorem b_calc(P:Params)(s:Shared)(x0 x1:Value):BindsTo s (fdOf (o145 P)) ⟨[x0,x1],[]⟩ (ps_calc.zip [x0,x1]):=BindsTo.of_eq (by kernel_rfl)
theorem v_calc_matches:Var sc_calc nm_calc (ofString "matches") 0:=⟨kn_calc,nd_calc,by kernel_rfl,rfl,by decide +kernel⟩
theorem v_calc_length:Var sc_calc nm_calc (ofString "length") 1:=⟨kn_calc,nd_calc,by kernel_rfl,rfl,by decide +kernel⟩
noncomputable def sc_init:Scope:=fnScope (inAt 5 1)
noncomputable def bd_init:List Stmt:=fnBody (inAt 5 1)
noncomputable def ps_init:List Str:=[ofString "self",ofString "isjunk",ofString "a",ofString "b",ofString "autojunk"]
noncomputable def os_init:List Str:=[]
noncomputable def nm_init:List Str:=[ofString "self",ofString "isjunk",ofString "a",ofString "b",ofString "autojunk"]
theorem nd_init:nm_init.Nodup:=by decide +kernel
theorem kn_init:sc_init.kind=.function:=by kernel_rfl
theorem fn_init(P:Params):Fn (K P) 160 (fdOf (o160 P)) (ofString "SequenceMatcher.__init__") sc_init bd_init (.ref 159):=⟨⟨o160 P,by kernel_rfl,by kernel_rfl⟩,by kernel_rfl,by kernel_rfl,by kernel_rfl,by kernel_rfl,fun L=>by kernel_rfl,by kernel_rfl,by kernel_rfl,by kernel_rfl,kn_init,by decide +kernel⟩
theorem p_init:ps_init.Nodup∧∀ x∈ps_init,sc_init.names.lookup x=some .local:=by decide +kernel
theorem v_init_self:Var sc_init nm_init (ofString "self") 0:=⟨kn_init,nd_init,by kernel_rfl,rfl,by decide +kernel⟩
theorem v_init_isjunk:Var sc_init nm_init (ofString "isjunk") 1:=⟨kn_init,nd_init,by kernel_rfl,rfl,by decide +kernel⟩
theorem v_init_a:Var sc_init nm_init (ofString "a") 2:=⟨kn_init,nd_init,by kernel_rfl,rfl,by decide +kernel⟩
theorem v_init_b:Var sc_init nm_init (ofString "b") 3:=⟨kn_init,nd_init,by kernel_rfl,rfl,by decide +kernel⟩
theorem v_init_autojunk:Var sc_init nm_init (ofString "autojunk") 4:=⟨kn_init,nd_init,by kernel_rfl,rfl,by decide +kernel⟩
noncomputable def sc_sets:Scope:=fnScope (inAt 5 2)
noncomputable def bd_sets:List Stmt:=fnBody (inAt 5 2)
noncomputable def ps_sets:List Str:=[ofString "self",ofString "a",ofString "b"]
noncomputable def os_sets:List Str:=[]
noncomputable def nm_sets:List Str:=[ofString "self",ofString "a",ofString "b"]
theorem nd_sets:nm_sets.Nodup:=by decide +kernel
theorem kn_sets:sc_sets.kind=.function:=by kernel_rfl
theorem fn_sets(P:Params):Fn (K P) 167 (fdOf (o167 P)) (ofString "SequenceMatcher.set_seqs") sc_sets bd_sets (.ref 166):=⟨⟨o167 P,by kernel_rfl,by kernel_rfl⟩,by kernel_rfl,by kernel_rfl,by kernel_rfl,by kernel_rfl,fun L=>by kernel_rfl,by kernel_rfl,by kernel_rfl,by kernel_rfl,kn_sets,by decide +kernel⟩
theorem p_sets:ps_sets.Nodup∧∀ x∈ps_sets,sc_sets.names.lookup x=some .local:=by decide +kernel
theorem b_sets(P:Params)(s:Shared)(x0 x1 x2:Value):BindsTo s (fdOf (o167 P)) ⟨[x0,x1,x2],[]⟩ (ps_sets.zip [x0,x1,x2]):=BindsTo.of_eq (by kernel_rfl)
theorem v_sets_self:Var sc_sets nm_sets (ofString "self") 0:=⟨kn_sets,nd_sets,by kernel_rfl,rfl,by decide +kernel⟩
theorem v_sets_a:Var sc_sets nm_sets (ofString "a") 1:=⟨kn_sets,nd_sets,by kernel_rfl,rfl,by decide +kernel⟩
theorem v_sets_b:Var sc_sets nm_sets (ofString "b") 2:=⟨kn_sets,nd_sets,by kernel_rfl,rfl,by decide +kernel⟩
noncomputable def sc_set1:Scope:=fnScope (inAt 5 3)
noncomputable def bd_set1:List Stmt:=fnBody (inAt 5 3)
noncomputable def ps_set1:List Str:=[ofString "self",ofString "a"]
noncomputable def os_set1:List Str:=[]
noncomputable def nm_set1:List Str:=[ofString "self",ofString "a"]
theorem nd_set1:nm_set1.Nodup:=by decide +kernel
theorem kn_set1:sc_set1.kind=.function:=by kernel_rfl
theorem fn_set1(P:Params):Fn (K P) 174 (fdOf (o174 P)) (ofString "SequenceMatcher.set_seq1") sc_set1 bd_set1 (.ref 173):=⟨⟨o174 P,by kernel_rfl,by kernel_rfl⟩,by kernel_rfl,by kernel_rfl,by kernel_rfl,by kernel_rfl,fun L=>by kernel_rfl,by kernel_rfl,by kernel_rfl,by kernel_rfl,kn_set1,by decide +kernel⟩
theorem p_set1:ps_set1.Nodup∧∀ x∈ps_set1,sc_set1.names.lookup x=some .local:=by decide +kernel
theorem b_set1(P:Params)(s:Shared)(x0 x1:Value):BindsTo s (fdOf (o174 P)) ⟨[x0,x1],[]⟩ (ps_set1.zip [x0,x1]):=BindsTo.of_eq (by kernel_rfl)
theorem v_set1_self:Var sc_set1 nm_set1 (ofString "self") 0:=⟨kn_set1,nd_set1,by kernel_rfl,rfl,by decide +kernel⟩
theorem v_set1_a:Var sc_set1 nm_set1 (ofString "a") 1:=⟨kn_set1,nd_set1,by kernel_rfl,rfl,by decide +kernel⟩
noncomputable def sc_set2:Scope:=fnScope (inAt 5 4)
noncomputable def bd_set2:List Stmt:=fnBody (inAt 5 4)
noncomputable def ps_set2:List Str:=[ofString "self",ofString "b"]
noncomputable def os_set2:List Str:=[]
noncomputable def nm_set2:List Str:=[ofString "self",ofString "b"]
theorem nd_set2:nm_set2.Nodup:=by decide +kernel
theorem kn_set2:sc_set2.kind=.function:=by kernel_rfl
theorem fn_set2(P:Params):Fn (K P) 181 (fdOf (o181 P)) (ofString "SequenceMatcher.set_seq2") sc_set2 bd_set2 (.ref 180):=⟨⟨o181 P,by kernel_rfl,by kernel_rfl⟩,by kernel_rfl,by kernel_rfl,by kernel_rfl,by kernel_rfl,fun L=>by kernel_rfl,by kernel_rfl,by kernel_rfl,by kernel_rfl,kn_set2,by decide +kernel⟩
theorem p_set2:ps_set2.Nodup∧∀ x∈ps_set2,sc_set2.names.lookup x=some .local:=by decide +kernel
theorem b_set2(P:Params)(s:Shared)(x0 x1:Value):BindsTo s (fdOf (o181 P)) ⟨[x0,x1],[]⟩ (ps_set2.zip [x0,x1]):=BindsTo.of_eq (by kernel_rfl)
theorem v_set2_self:Var sc_set2 nm_set2 (ofString "self") 0:=⟨kn_set2,nd_set2,by kernel_rfl,rfl,by decide +kernel⟩
theorem v_set2_b:Var sc_set2 nm_set2 (ofString "b") 1:=⟨kn_set2,nd_set2,by kernel_rfl,rfl,by decide +kernel⟩
noncomputable def sc_chain:Scope:=fnScope (inAt 5 5)
noncomputable def bd_chain:List Stmt:=fnBody (inAt 5 5)
noncomputable def ps_chain:List Str:=[ofString "self"]
noncomputable def os_chain:List Str:=[ofString "b",ofString "b2j",ofString "i",ofString "elt",ofString "indices",ofString "junk",ofString "isjunk",ofString "popular",ofString "n",ofString "ntest",ofString "idxs"]
noncomputable def nm_chain:List Str:=[ofString "self",ofString "b",ofString "b2j",ofString "i",ofString "elt",ofString "indices",ofString "junk",ofString "isjunk",ofString "popular",ofString "n",ofString "ntest",ofString "idxs"]
theorem nd_chain:nm_chain.Nodup:=by decide +kernel
theorem kn_chain:sc_chain.kind=.function:=by kernel_rfl
theorem fn_chain(P:Params):Fn (K P) 188 (fdOf (o188 P)) (ofString "SequenceMatcher.__chain_b") sc_chain bd_chain (.ref 187):=⟨⟨o188 P,by kernel_rfl,by kernel_rfl⟩,by kernel_rfl,by kernel_rfl,by kernel_rfl,by kernel_rfl,fun L=>by kernel_rfl,by kernel_rfl,by kernel_rfl,by kernel_rfl,kn_chain,by decide +kernel⟩
theorem p_chain:ps_chain.Nodup∧∀ x∈ps_chain,sc_chain.names.lookup x=some .local:=by decide +kernel
theorem b_chain(P:Params)(s:Shared)(x0:Value):BindsTo s (fdOf (o188 P)) ⟨[x0],[]⟩ (ps_chain.zip [x0]):=BindsTo.of_eq (by kernel_rfl)
theorem v_chain_self:Var sc_chain nm_chain (ofString "self") 0:=⟨kn_chain,nd_chain,by kernel_rfl,rfl,by decide +kernel⟩
theorem v_chain_b:Var sc_chain nm_chain (ofString "b") 1:=⟨kn_chain,nd_chain,by kernel_rfl,rfl,by decide +kernel⟩
theorem v_chain_b2j:Var sc_chain nm_chain (ofString "b2j") 2:=⟨kn_chain,nd_chain,by kernel_rfl,rfl,by decide +kernel⟩
theorem v_chain_i:Var sc_chain nm_chain (ofString "i") 3:=⟨kn_chain,nd_chain,by kernel_rfl,rfl,by decide +kernel⟩
theorem v_chain_elt:Var sc_chain nm_chain (ofString "elt") 4:=⟨kn_chain,nd_chain,by kernel_rfl,rfl,by decide +kernel⟩
theorem v_chain_indices:Var sc_chain nm_chain (ofString "indices") 5:=⟨kn_chain,nd_chain,by kernel_rfl,rfl,by decide +kernel⟩
theorem v_chain_junk:Var sc_chain nm_chain (ofString "junk") 6:=⟨kn_chain,nd_chain,by kernel_rfl,rfl,by decide +kernel⟩
theorem v_chain_isjunk:Var sc_chain nm_chain (ofString "isjunk") 7:=⟨kn_chain,nd_chain,by kernel_rfl,rfl,by decide +kernel⟩
theorem v_chain_popular:Var sc_chain nm_chain (ofString "popular") 8:=⟨kn_chain,nd_chain,by kernel_rfl,rfl,by decide +kernel⟩
theorem v_chain_n:Var sc_chain nm_chain (ofString "n") 9:=⟨kn_chain,nd_chain,by kernel_rfl,rfl,by decide +kernel⟩
theorem g_chain_enumerate:GVar sc_chain (ofString "enumerate"):=⟨kn_chain,by kernel_rfl,by decide +kernel⟩
theorem g_chain_set:GVar sc_chain (ofString "set"):=⟨kn_chain,by kernel_rfl,by decide +kernel⟩
theorem g_chain_len:GVar sc_chain (ofString "len"):=⟨kn_chain,by kernel_rfl,by decide +kernel⟩
noncomputable def sc_flm:Scope:=fnScope (inAt 5 6)
noncomputable def bd_flm:List Stmt:=fnBody (inAt 5 6)
noncomputable def ps_flm:List Str:=[ofString "self",ofString "alo",ofString "ahi",ofString "blo",ofString "bhi"]
noncomputable def os_flm:List Str:=[ofString "a",ofString "b",ofString "b2j",ofString "isbjunk",ofString "besti",ofString "bestj",ofString "bestsize",ofString "j2len",ofString "nothing",ofString "i",ofString "j2lenget",ofString "newj2len",ofString "j",ofString "k"]
noncomputable def nm_flm:List Str:=[ofString "self",ofString "alo",ofString "ahi",ofString "blo",ofString "bhi",ofString "a",ofString "b",ofString "b2j",ofString "isbjunk",ofString "besti",ofString "bestj",ofString "bestsize",ofString "j2len",ofString "nothing",ofString "i",ofString "j2lenget",ofString "newj2len",ofString "j",ofString "k"]
theorem nd_flm:nm_flm.Nodup:=by decide +kernel
theorem kn_flm:sc_flm.kind=.function:=by kernel_rfl
theorem fn_flm(P:Params):Fn (K P) 196 (fdOf (o196 P)) (ofString "SequenceMatcher.find_longest_match") sc_flm bd_flm (.ref 195):=⟨⟨o196 P,by kernel_rfl,by kernel_rfl⟩,by kernel_rfl,by kernel_rfl,by kernel_rfl,by kernel_rfl,fun L=>by kernel_rfl,by kernel_rfl,by kernel_rfl,by kernel_rfl,kn_flm,by decide +kernel⟩
theorem p_flm:ps_flm.Nodup∧∀ x∈ps_flm,sc_flm.names.lookup x=some .local:=by decide +kernel
theorem b_flm(P:Params)(s:Shared)(X:(K P).In s.heap)(x0 x1 x2 x3 x4:Value):BindsTo s (fdOf (o196 P)) ⟨[x0,x1,x2,x3,x4],[]⟩ (ps_flm.zip [x0,x1,x2,x3,x4]):=BindsTo.of_defaults (T:=189) rfl (X 189 (o189 P) (by kernel_rfl)) rfl rfl rfl
theorem v_flm_self:Var sc_flm nm_flm (ofString "self") 0:=⟨kn_flm,nd_flm,by kernel_rfl,rfl,by decide +kernel⟩
theorem v_flm_alo:Var sc_flm nm_flm (ofString "alo") 1:=⟨kn_flm,nd_flm,by kernel_rfl,rfl,by decide +kernel⟩
theorem v_flm_ahi:Var sc_flm nm_flm (ofString "ahi") 2:=⟨kn_flm,nd_flm,by kernel_rfl,rfl,by decide +kernel⟩
theorem v_flm_blo:Var sc_flm nm_flm (ofString "blo") 3:=⟨kn_flm,nd_flm,by kernel_rfl,rfl,by decide +kernel⟩
theorem v_flm_bhi:Var sc_flm nm_flm (ofString "bhi") 4:=⟨kn_flm,nd_flm,by kernel_rfl,rfl,by decide +kernel⟩
theorem v_flm_a:Var sc_flm nm_flm (ofString "a") 5:=⟨kn_flm,nd_flm,by kernel_rfl,rfl,by decide +kernel⟩
theorem v_flm_b:Var sc_flm nm_flm (ofString "b") 6:=⟨kn_flm,nd_flm,by kernel_rfl,rfl,by decide +kernel⟩
theorem v_flm_b2j:Var sc_flm nm_flm (ofString "b2j") 7:=⟨kn_flm,nd_flm,by kernel_rfl,rfl,by decide +kernel⟩
theorem v_flm_isbjunk:Var sc_flm nm_flm (ofString "isbjunk") 8:=⟨kn_flm,nd_flm,by kernel_rfl,rfl,by decide +kernel⟩
theorem v_flm_besti:Var sc_flm nm_flm (ofString "besti") 9:=⟨kn_flm,nd_flm,by kernel_rfl,rfl,by decide +kernel⟩
theorem v_flm_bestj:Var sc_flm nm_flm (ofString "bestj") 10:=⟨kn_flm,nd_flm,by kernel_rfl,rfl,by decide +kernel⟩
theorem v_flm_bestsize:Var sc_flm nm_flm (ofString "bestsize") 11:=⟨kn_flm,nd_flm,by kernel_rfl,rfl,by decide +kernel⟩
theorem v_flm_j2len:Var sc_flm nm_flm (ofString "j2len") 12:=⟨kn_flm,nd_flm,by kernel_rfl,rfl,by decide +kernel⟩
theorem v_flm_nothing:Var sc_flm nm_flm (ofString "nothing") 13:=⟨kn_flm,nd_flm,by kernel_rfl,rfl,by decide +kernel⟩
theorem v_flm_i:Var sc_flm nm_flm (ofString "i") 14:=⟨kn_flm,nd_flm,by kernel_rfl,rfl,by decide +kernel⟩
theorem v_flm_j2lenget:Var sc_flm nm_flm (ofString "j2lenget") 15:=⟨kn_flm,nd_flm,by kernel_rfl,rfl,by decide +kernel⟩
theorem v_flm_newj2len:Var sc_flm nm_flm (ofString "newj2len") 16:=⟨kn_flm,nd_flm,by kernel_rfl,rfl,by decide +kernel⟩
theorem v_flm_j:Var sc_flm nm_flm (ofString "j") 17:=⟨kn_flm,nd_flm,by kernel_rfl,rfl,by decide +kernel⟩
theorem v_flm_k:Var sc_flm nm_flm (ofString "k") 18:=⟨kn_flm,nd_flm,by kernel_rfl,rfl,by decide +kernel⟩
theorem g_flm_range:GVar sc_flm (ofString "range"):=⟨kn_flm,by kernel_rfl,by decide +kernel⟩
theorem g_flm_Match:GVar sc_flm (ofString "Match"):=⟨kn_flm,by kernel_rfl,by decide +kernel⟩
noncomputable def sc_gmb:Scope:=fnScope (inAt 5 7)
noncomputable def bd_gmb:List Stmt:=fnBody (inAt 5 7)
noncomputable def ps_gmb:List Str:=[ofString "self"]
noncomputable def os_gmb:List Str:=[ofString "la",ofString "lb",ofString "queue",ofString "matching_blocks",ofString "alo",ofString "ahi",ofString "blo",ofString "bhi",ofString "i",ofString "j",ofString "k",ofString "x",ofString "i1",ofString "j1",ofString "k1",ofString "non_adjacent",ofString "i2",ofString "j2",ofString "k2"]
noncomputable def nm_gmb:List Str:=[ofString "self",ofString "la",ofString "lb",ofString "queue",ofString "matching_blocks",ofString "alo",ofString "ahi",ofString "blo",ofString "bhi",ofString "i",ofString "j",ofString "k",ofString "x",ofString "i1",ofString "j1",ofString "k1",ofString "non_adjacent",ofString "i2",ofString "j2",ofString "k2"]
theorem nd_gmb:nm_gmb.Nodup:=by decide +kernel
theorem kn_gmb:sc_gmb.kind=.function:=by kernel_rfl
theorem fn_gmb(P:Params):Fn (K P) 203 (fdOf (o203 P)) (ofString "SequenceMatcher.get_matching_blocks") sc_gmb bd_gmb (.ref 202):=⟨⟨o203 P,by kernel_rfl,by kernel_rfl⟩,by kernel_rfl,by kernel_rfl,by kernel_rfl,by kernel_rfl,fun L=>by kernel_rfl,by kernel_rfl,by kernel_rfl,by kernel_rfl,kn_gmb,by decide +kernel⟩
theorem p_gmb:ps_gmb.Nodup∧∀ x∈ps_gmb,sc_gmb.names.lookup x=some .local:=by decide +kernel
theorem b_gmb(P:Params)(s:Shared)(x0:Value):BindsTo s (fdOf (o203 P)) ⟨[x0],[]⟩ (ps_gmb.zip [x0]):=BindsTo.of_eq (by kernel_rfl)
theorem v_gmb_self:Var sc_gmb nm_gmb (ofString "self") 0:=⟨kn_gmb,nd_gmb,by kernel_rfl,rfl,by decide +kernel⟩
theorem v_gmb_la:Var sc_gmb nm_gmb (ofString "la") 1:=⟨kn_gmb,nd_gmb,by kernel_rfl,rfl,by decide +kernel⟩
theorem v_gmb_lb:Var sc_gmb nm_gmb (ofString "lb") 2:=⟨kn_gmb,nd_gmb,by kernel_rfl,rfl,by decide +kernel⟩
theorem v_gmb_queue:Var sc_gmb nm_gmb (ofString "queue") 3:=⟨kn_gmb,nd_gmb,by kernel_rfl,rfl,by decide +kernel⟩
theorem v_gmb_matching_blocks:Var sc_gmb nm_gmb (ofString "matching_blocks") 4:=⟨kn_gmb,nd_gmb,by kernel_rfl,rfl,by decide +kernel⟩
theorem v_gmb_alo:Var sc_gmb nm_gmb (ofString "alo") 5:=⟨kn_gmb,nd_gmb,by kernel_rfl,rfl,by decide +kernel⟩
theorem v_gmb_ahi:Var sc_gmb nm_gmb (ofString "ahi") 6:=⟨kn_gmb,nd_gmb,by kernel_rfl,rfl,by decide +kernel⟩
theorem v_gmb_blo:Var sc_gmb nm_gmb (ofString "blo") 7:=⟨kn_gmb,nd_gmb,by kernel_rfl,rfl,by decide +kernel⟩
theorem v_gmb_bhi:Var sc_gmb nm_gmb (ofString "bhi") 8:=⟨kn_gmb,nd_gmb,by kernel_rfl,rfl,by decide +kernel⟩
theorem v_gmb_i:Var sc_gmb nm_gmb (ofString "i") 9:=⟨kn_gmb,nd_gmb,by kernel_rfl,rfl,by decide +kernel⟩
theorem v_gmb_j:Var sc_gmb nm_gmb (ofString "j") 10:=⟨kn_gmb,nd_gmb,by kernel_rfl,rfl,by decide +kernel⟩
theorem v_gmb_k:Var sc_gmb nm_gmb (ofString "k") 11:=⟨kn_gmb,nd_gmb,by kernel_rfl,rfl,by decide +kernel⟩
theorem v_gmb_x:Var sc_gmb nm_gmb (ofString "x") 12:=⟨kn_gmb,nd_gmb,by kernel_rfl,rfl,by decide +kernel⟩
theorem v_gmb_i1:Var sc_gmb nm_gmb (ofString "i1") 13:=⟨kn_gmb,nd_gmb,by kernel_rfl,rfl,by decide +kernel⟩
theorem v_gmb_j1:Var sc_gmb nm_gmb (ofString "j1") 14:=⟨kn_gmb,nd_gmb,by kernel_rfl,rfl,by decide +kernel⟩
theorem v_gmb_k1:Var sc_gmb nm_gmb (ofString "k1") 15:=⟨kn_gmb,nd_gmb,by kernel_rfl,rfl,by decide +kernel⟩
theorem v_gmb_non_adjacent:Var sc_gmb nm_gmb (ofString "non_adjacent") 16:=⟨kn_gmb,nd_gmb,by kernel_rfl,rfl,by decide +kernel⟩
theorem v_gmb_i2:Var sc_gmb nm_gmb (ofString "i2") 17:=⟨kn_gmb,nd_gmb,by kernel_rfl,rfl,by decide +kernel⟩
theorem v_gmb_j2:Var sc_gmb nm_gmb (ofString "j2") 18:=⟨kn_gmb,nd_gmb,by kernel_rfl,rfl,by decide +kernel⟩
theorem v_gmb_k2:Var sc_gmb nm_gmb (ofString "k2") 19:=⟨kn_gmb,nd_gmb,by kernel_rfl,rfl,by decide +kernel⟩
theorem g_gmb_len:GVar sc_gmb (ofString "len"):=⟨kn_gmb,by kernel_rfl,by decide +kernel⟩
theorem g_gmb_list:GVar sc_gmb (ofString "list"):=⟨kn_gmb,by kernel_rfl,by decide +kernel⟩
theorem g_gmb_map:GVar sc_gmb (ofString "map"):=⟨kn_gmb,by kernel_rfl,by decide +kernel⟩
theorem g_gmb_Match:GVar sc_gmb (ofString "Match"):=⟨kn_gmb,by kernel_rfl,by decide +kernel⟩
noncomputable def sc_ratio:Scope:=fnScope (inAt 5 10)
noncomputable def bd_ratio:List Stmt:=fnBody (inAt 5 10)
noncomputable def ps_ratio:List Str:=[ofString "self"]
noncomputable def os_ratio:List Str:=[ofString "matches"]
noncomputable def nm_ratio:List Str:=[ofString "self",ofString "matches"]
theorem nd_ratio:nm_ratio.Nodup:=by decide +kernel
theorem kn_ratio:sc_ratio.kind=.function:=by kernel_rfl
theorem fn_ratio(P:Params):Fn (K P) 225 (fdOf (o225 P)) (ofString "SequenceMatcher.ratio") sc_ratio bd_ratio (.ref 224):=⟨⟨o225 P,by kernel_rfl,by kernel_rfl⟩,by kernel_rfl,by kernel_rfl,by kernel_rfl,by kernel_rfl,fun L=>by kernel_rfl,by kernel_rfl,by kernel_rfl,by kernel_rfl,kn_ratio,by decide +kernel⟩
theorem p_ratio:ps_ratio.Nodup∧∀ x∈ps_ratio,sc_ratio.names.lookup x=some .local:=by decide +kernel
theorem b_ratio(P:Params)(s:Shared)(x0:Value):BindsTo s (fdOf (o225 P)) ⟨[x0],[]⟩ (ps_ratio.zip [x0]):=BindsTo.of_eq (by kernel_rfl)
theorem v_ratio_self:Var sc_ratio nm_ratio (ofString "self") 0:=⟨kn_ratio,nd_ratio,by kernel_rfl,rfl,by decide +kernel⟩
theorem v_ratio_matches:Var sc_ratio nm_ratio (ofString "matches") 1:=⟨kn_ratio,nd_ratio,by kernel_rfl,rfl,by decide +kernel⟩
theorem g_ratio_sum:GVar sc_ratio (ofString "sum"):=⟨kn_ratio,by kernel_rfl,by decide +kernel⟩
theorem g_ratio__calculate_ratio:GVar sc_ratio (ofString "_calculate_ratio"):=⟨kn_ratio,by kernel_rfl,by decide +kernel⟩
theorem g_ratio_len:GVar sc_ratio (ofString "len"):=⟨kn_ratio,by kernel_rfl,by decide +kernel⟩
noncomputable def sc_quick:Scope:=fnScope (inAt 5 11)
noncomputable def bd_quick:List Stmt:=fnBody (inAt 5 11)
noncomputable def ps_quick:List Str:=[ofString "self"]
noncomputable def os_quick:List Str:=[ofString "fullbcount",ofString "elt",ofString "avail",ofString "availhas",ofString "matches",ofString "numb"]
noncomputable def nm_quick:List Str:=[ofString "self",ofString "fullbcount",ofString "elt",ofString "avail",ofString "availhas",ofString "matches",ofString "numb"]
theorem nd_quick:nm_quick.Nodup:=by decide +kernel
theorem kn_quick:sc_quick.kind=.function:=by kernel_rfl
theorem fn_quick(P:Params):Fn (K P) 232 (fdOf (o232 P)) (ofString "SequenceMatcher.quick_ratio") sc_quick bd_quick (.ref 231):=⟨⟨o232 P,by kernel_rfl,by kernel_rfl⟩,by kernel_rfl,by kernel_rfl,by kernel_rfl,by kernel_rfl,fun L=>by kernel_rfl,by kernel_rfl,by kernel_rfl,by kernel_rfl,kn_quick,by decide +kernel⟩
theorem p_quick:ps_quick.Nodup∧∀ x∈ps_quick,sc_quick.names.lookup x=some .local:=by decide +kernel
theorem b_quick(P:Params)(s:Shared)(x0:Value):BindsTo s (fdOf (o232 P)) ⟨[x0],[]⟩ (ps_quick.zip [x0]):=BindsTo.of_eq (by kernel_rfl)
theorem v_quick_self:Var sc_quick nm_quick (ofString "self") 0:=⟨kn_quick,nd_quick,by kernel_rfl,rfl,by decide +kernel⟩
theorem v_quick_fullbcount:Var sc_quick nm_quick (ofString "fullbcount") 1:=⟨kn_quick,nd_quick,by kernel_rfl,rfl,by decide +kernel⟩
theorem v_quick_elt:Var sc_quick nm_quick (ofString "elt") 2:=⟨kn_quick,nd_quick,by kernel_rfl,rfl,by decide +kernel⟩
theorem v_quick_avail:Var sc_quick nm_quick (ofString "avail") 3:=⟨kn_quick,nd_quick,by kernel_rfl,rfl,by decide +kernel⟩
theorem v_quick_availhas:Var sc_quick nm_quick (ofString "availhas") 4:=⟨kn_quick,nd_quick,by kernel_rfl,rfl,by decide +kernel⟩
theorem v_quick_matches:Var sc_quick nm_quick (ofString "matches") 5:=⟨kn_quick,nd_quick,by kernel_rfl,rfl,by decide +kernel⟩
theorem v_quick_numb:Var sc_quick nm_quick (ofString "numb") 6:=⟨kn_quick,nd_quick,by kernel_rfl,rfl,by decide +kernel⟩
theorem g_quick__calculate_ratio:GVar sc_quick (ofString "_calculate_ratio"):=⟨kn_quick,by kernel_rfl,by decide +kernel⟩
theorem g_quick_len:GVar sc_quick (ofString "len"):=⟨kn_quick,by kernel_rfl,by decide +kernel⟩
noncomputable def sc_rquick:Scope:=fnScope (inAt 5 12)
noncomputable def bd_rquick:List Stmt:=fnBody (inAt 5 12)
noncomputable def ps_rquick:List Str:=[ofString "self"]
noncomputable def os_rquick:List Str:=[ofString "la",ofString "lb"]
noncomputable def nm_rquick:List Str:=[ofString "self",ofString "la",ofString "lb"]
theorem nd_rquick:nm_rquick.Nodup:=by decide +kernel
theorem kn_rquick:sc_rquick.kind=.function:=by kernel_rfl
theorem fn_rquick(P:Params):Fn (K P) 239 (fdOf (o239 P)) (ofString "SequenceMatcher.real_quick_ratio") sc_rquick bd_rquick (.ref 238):=⟨⟨o239 P,by kernel_rfl,by kernel_rfl⟩,by kernel_rfl,by kernel_rfl,by kernel_rfl,by kernel_rfl,fun L=>by kernel_rfl,by kernel_rfl,by kernel_rfl,by kernel_rfl,kn_rquick,by decide +kernel⟩
theorem p_rquick:ps_rquick.Nodup∧∀ x∈ps_rquick,sc_rquick.names.lookup x=some .local:=by decide +kernel
theorem b_rquick(P:Params)(s:Shared)(x0:Value):BindsTo s (fdOf (o239 P)) ⟨[x0],[]⟩ (ps_rquick.zip [x0]):=BindsTo.of_eq (by kernel_rfl)
theorem v_rquick_self:Var sc_rquick nm_rquick (ofString "self") 0:=⟨kn_rquick,nd_rquick,by kernel_rfl,rfl,by decide +kernel⟩
theorem v_rquick_la:Var sc_rquick nm_rquick (ofString "la") 1:=⟨kn_rquick,nd_rquick,by kernel_rfl,rfl,by decide +kernel⟩
theorem v_rquick_lb:Var sc_rquick nm_rquick (ofString "lb") 2:=⟨kn_rquick,nd_rquick,by kernel_rfl,rfl,by decide +kernel⟩
theorem g_rquick_len:GVar sc_rquick (ofString "len"):=⟨kn_rquick,by kernel_rfl,by decide +kernel⟩
theorem g_rquick__calculate_ratio:GVar sc_rquick (ofString "_calculate_ratio"):=⟨kn_rquick,by kernel_rfl,by decide +kernel⟩
theorem g_rquick_min:GVar sc_rquick (ofString "min"):=⟨kn_rquick,by kernel_rfl,by decide +kernel⟩
end
noncomputable abbrev CM:Addr:=242
noncomputable def an:List Str:=[ofString "isjunk",ofString "a",ofString "b",ofString "autojunk",ofString "matching_blocks",ofString "opcodes",ofString "fullbcount",ofString "b2j",ofString "bjunk",ofString "bpopular"]
theorem an_nd:an.Nodup:=by decide +kernel
section
theorem pl(P:Params):Plain (K P) CM:=⟨by kernel_rfl,by kernel_rfl,by kernel_rfl,by kernel_rfl,by kernel_rfl⟩
theorem at_isjunk(P:Params):Attr (K P) CM an (ofString "isjunk") 0:=⟨an_nd,rfl,⟨none,by kernel_rfl,by kernel_rfl⟩,by kernel_rfl⟩
theorem at_a(P:Params):Attr (K P) CM an (ofString "a") 1:=⟨an_nd,rfl,⟨none,by kernel_rfl,by kernel_rfl⟩,by kernel_rfl⟩
theorem at_b(P:Params):Attr (K P) CM an (ofString "b") 2:=⟨an_nd,rfl,⟨none,by kernel_rfl,by kernel_rfl⟩,by kernel_rfl⟩
theorem at_autojunk(P:Params):Attr (K P) CM an (ofString "autojunk") 3:=⟨an_nd,rfl,⟨none,by kernel_rfl,by kernel_rfl⟩,by kernel_rfl⟩
theorem at_mb(P:Params):Attr (K P) CM an (ofString "matching_blocks") 4:=⟨an_nd,rfl,⟨none,by kernel_rfl,by kernel_rfl⟩,by kernel_rfl⟩
theorem at_opc(P:Params):Attr (K P) CM an (ofString "opcodes") 5:=⟨an_nd,rfl,⟨none,by kernel_rfl,by kernel_rfl⟩,by kernel_rfl⟩
theorem at_fb(P:Params):Attr (K P) CM an (ofString "fullbcount") 6:=⟨an_nd,rfl,⟨none,by kernel_rfl,by kernel_rfl⟩,by kernel_rfl⟩
theorem at_b2j(P:Params):Attr (K P) CM an (ofString "b2j") 7:=⟨an_nd,rfl,⟨none,by kernel_rfl,by kernel_rfl⟩,by kernel_rfl⟩
theorem at_bjunk(P:Params):Attr (K P) CM an (ofString "bjunk") 8:=⟨an_nd,rfl,⟨none,by kernel_rfl,by kernel_rfl⟩,by kernel_rfl⟩
theorem at_bpop(P:Params):Attr (K P) CM an (ofString "bpopular") 9:=⟨an_nd,rfl,⟨none,by kernel_rfl,by kernel_rfl⟩,by kernel_rfl⟩
theorem bn_len(P:Params):BN (K P) (ofString "len") (.builtin "len"):=⟨by kernel_rfl,by kernel_rfl,by decide +kernel⟩
theorem bn_min(P:Params):BN (K P) (ofString "min") (.builtin "min"):=⟨by kernel_rfl,by kernel_rfl,by decide +kernel⟩
theorem bn_sum(P:Params):BN (K P) (ofString "sum") (.builtin "sum"):=⟨by kernel_rfl,by kernel_rfl,by decide +kernel⟩
theorem bn_enumerate(P:Params):BN (K P) (ofString "enumerate") (.type "enumerate"):=⟨by kernel_rfl,by kernel_rfl,by decide +kernel⟩
theorem bn_set(P:Params):BN (K P) (ofString "set") (.type "set"):=⟨by kernel_rfl,by kernel_rfl,by decide +kernel⟩
theorem bn_range(P:Params):BN (K P) (ofString "range") (.type "range"):=⟨by kernel_rfl,by kernel_rfl,by decide +kernel⟩
theorem bn_list(P:Params):BN (K P) (ofString "list") (.type "list"):=⟨by kernel_rfl,by kernel_rfl,by decide +kernel⟩
theorem bn_map(P:Params):BN (K P) (ofString "map") (.type "map"):=⟨by kernel_rfl,by kernel_rfl,by decide +kernel⟩
theorem bn_tuple(P:Params):BN (K P) (ofString "tuple") (.type "tuple"):=⟨by kernel_rfl,by kernel_rfl,by decide +kernel⟩
theorem bn_max(P:Params):BN (K P) (ofString "max") (.builtin "max"):=⟨by kernel_rfl,by kernel_rfl,by decide +kernel⟩
theorem bn_sorted(P:Params):BN (K P) (ofString "sorted") (.builtin "sorted"):=⟨by kernel_rfl,by kernel_rfl,by decide +kernel⟩
theorem gn_calc(P:Params):nsIn (K P) mainGlobals (ofString "_calculate_ratio")=some (some (.ref 145)):=by kernel_rfl
theorem gn_Match(P:Params):nsIn (K P) mainGlobals (ofString "Match")=some (some (.ref 135)):=by kernel_rfl
end
section
variable{w:World}{A:Around}{E:Value→Shared→Prop}{s s':Shared}{mg mb:Str→Option Value}
noncomputable def ratioF(a b:Int):UInt64:=Float64.div (Float64.mul 4611686018427387904 (Float64.ofInt a)) (Float64.ofInt b)
theorem calc_spec{a b:Int}{t u:Tok}(D:Gd (K w.params) mg mb s.heap)(hd:A.depth < recursionLimit)(hb:b≠0)(ha:a.natAbs < 2 ^ 64)(hb':b.natAbs < 2 ^ 64) :
  codeAny (model prog w) A (.call (.ref 145) ⟨[.int a t,.int b u],[]⟩) (Ret [] s fun v s'=>∃ k,v=.float (ratioF a b) (k+1)∧k+1≤s'.toks) s:=by
 refine enterP ps_calc os_calc [.int a t,.int b u] [] (fn_calc _) D hd (b_calc _ _ _ _) rfl p_calc (nm:=nm_calc) rfl (fun _ h=>nomatch h) .nil ?_
 intro Po hPo L h₁ tk S hL
 refine exc (wpAny_If (isTrue_plain (ld_ S v_calc_length rfl (truthy_int ?_))))
 rw [if_pos (by simpa using hb)]
 refine exc (wpAny_Return_some (wpAny_BinOp (wpAny_BinOp (cFloat fun k1 t1=>?_))))
 refine ld_ S v_calc_matches rfl (mulF1_ (by(clear hL hb' hb hd;exact Nat.lt_of_lt_of_le ‹_› (by lia))) fun k2 t2=>?_)
 refine ld_ S v_calc_length rfl (wpAny_with_toks (n:=t2+1) (Nat.le_refl _) (divF1_ (by(clear hL ha hb hd;omega)) hb fun t3 ht=>?_))
 exact hPo _ _ (S.mod (t:=0) hL id rfl rfl rfl) ⟨_,rfl,ht⟩
theorem rquick_spec{m d la lb:Addr}{ts:List Tok}{vs:List Value}{n:Nat}{xs ys:List Value}(D:Gd (K w.params) mg mb s.heap)(hA:A.handled=none)(hdep:A.depth+2 < recursionLimit)
  (hm:s.heap.get? m=some (inst CM d)) (hd:s.heap.get? d=some (instD w.params an ts vs n)) (hts:an.length=ts.length) (ha:vs[1]?=some (.ref la)) (hb:vs[2]?=some (.ref lb))
  (hla:s.heap.IsList la xs.toArray) (hlb:s.heap.IsList lb ys.toArray) (hx:xs.length≤500) (hy:ys.length≤500) (hz:xs.length+ys.length≠0) :
  codeAny (model prog w) A (.call (.ref 239) ⟨[.ref m],[]⟩) (Ret [] s fun v s'=>∃ k,v=.float (ratioF (min xs.length ys.length:Int) (xs.length+ys.length)) (k+1)) s:=by
 refine enterP ps_rquick os_rquick [.ref m] [] (fn_rquick _) D (Nat.le_of_lt (Nat.le_of_lt hdep)) (b_rquick _ _ _) rfl p_rquick (nm:=nm_rquick) rfl (fun _ h=>nomatch h) .nil ?_
 intro Po hPo L h₁ tk S hL
 refine exc (wpAny_Expr (cStr fun k1 t1=>?_))
 have X:(K w.params).In h₁:=D.k.keeps S.F.keep
 refine exc (Assign_Tuple_swapped (names:=[ofString "la",ofString "lb"]) (Tuple_ (arg_ (Call_ (lb_ S D g_rquick_len (bn_len _) (cB (arg_ (at1 (ld_ S v_rquick_self rfl ?_)))))))) (hw:=by kernel_rfl))
 refine getA X (pl _) (at_a _) (S.old hm) (S.old hd) hts ha rfl fun t2=>?_
 refine arg0 (len_ (hla.at fun o e=>S.old e) (by lia) fun k3 t3=>?_)
 refine arg_ (Call_ (lb_ S D g_rquick_len (bn_len _) (cB (arg_ (at1 (ld_ S v_rquick_self rfl ?_))))))
 refine getA X (pl _) (at_b _) (S.old hm) (S.old hd) hts hb rfl fun t4=>?_
 refine arg0 (len_ (hlb.at fun o e=>S.old e) (by lia) fun k5 t5=>?_)
 refine arg0 (tup2 S (by exact hA) v_rquick_la v_rquick_lb (nB rfl) (nB rfl) fun h2 t6 S2=>?_)
 refine exc (wpAny_Return_some (Call_ (lg_ S2 D g_rquick__calculate_ratio (gn_calc _) (cF (o:=o145 w.params) (fd:=fdOf (o145 w.params)) rfl ?_))))
 refine arg_ (Call_ (lb_ S2 D g_rquick_min (bn_min _) (cB (arg_ (ld_ S2 v_rquick_la rfl (arg_ (ld_ S2 v_rquick_lb rfl (arg0 ?_))))))))
 refine min_ (by exact hA) S2 fun h3 t7 k7 S3=>?_
 refine arg_ (wpAny_BinOp (ld_ S3 v_rquick_la rfl (ld_ S3 v_rquick_lb rfl (add_ fun k8 t8=>?_))))
 refine arg0 ⟨S3.old (D.k 145 _ (by kernel_rfl)),?_⟩
 refine call_ (calc_spec (D.keeps S3.F.keep) (by show A.depth+1 < _;exact Nat.le_of_lt hdep) (by lia) (by(clear hL hz hb ha hts hd hm hdep hA;omega)) (by(clear hL hz hb ha hts hd hm hdep hA;omega))) fun v s' M hv=>?_
 refine oEA hv ?_;rintro k9 rfl _
 exact hPo _ _ ((S3.call0 M).mod (t:=0) hL M.gens rfl M.os rfl M.dr) ⟨_,rfl⟩
end
section
variable{prog:Program}{w:World}{A:Around}{h g:Heap}{gs:Array GenState}{dr:Drawn}{tk:Nat}{os:OsState}{L a:Addr}{nm:List Str}{ls:List (Option Value)}{mu own:List (Addr×Obj)}{q:Str}{sc:Scope}{cd:Value}
theorem St.turn{h':Heap}{wr:List Addr}(S:St g L h nm ls (mu++own))(hwr:∀ b∈wr,b∈own.map (·.1))(keep:∀ b o,b∉wr→h.get? b=some o→h'.get? b=some o)(live:∀ b∈wr,∃ o,h'.get? b=some o) :
  ∃ own',own'.map (·.1)=own.map (·.1)∧St g L h' nm ls (mu++own'):=by
 have hex:∀ p∈own,∃ o,h'.get? p.1=some o:=fun p hp=>by
  by_cases hb:p.1∈wr
  ·exact live _ hb
  ·exact⟨_,keep _ _ hb (S.N p (mR _ hp)).1⟩
 have key:∀ l:List (Addr×Obj),(∀ p∈l,∃ o,h'.get? p.1=some o)→∃ l':List (Addr×Obj),l'.map (·.1)=l.map (·.1)∧∀ p∈l',h'.get? p.1=some p.2:=by
  intro l
  induction l with
  | nil=>exact fun _=>⟨[],rfl,fun _ h=>nomatch h⟩
  | cons p l ih =>
   intro hl
   obtain⟨o,ho⟩:=hl p (.head _)
   refine oEA (ih fun q hq=>hl q (.tail _ hq)) fun l' e hl'=>?_
   refine⟨(p.1,o)::l',by simp [e],fun q hq=>?_⟩
   rcases mK hq with rfl | hq
   ·exact ho
   ·exact hl' q hq
 refine oEA (key own hex) fun own' e ho'=>?_
 have nd:=S.nd
 have off:∀ b,(∀ p∈own,p.1≠b)→b∉wr:=fun b hh m=>by
  refine oEA (List.mem_map.mp (hwr b m)) fun p hp e=>?_
  exact hh p hp e
 refine oEEEA S.F.ns fun oL es ep hL r=>?_
 refine⟨own',e,⟨⟨oL,es,ep,keep L oL (off L fun p hp=>(S.N p (mR _ hp)).2.1) hL,r⟩,fun b o hb=>keep b o (off b fun p hp z=>?_) (S.F.keep b o hb),S.F.above⟩,fun p hp=>?_,?_⟩
 ·have:=(S.N p (mR _ hp)).2.2;rw [z,hb] at this;cases this
 ·rcases List.mem_append.mp hp with hp | hp
  ·have P:=S.N p (mF _ hp)
   refine⟨keep _ _ (off _ fun p' hp' z=>?_) P.1,P.2⟩
   rw [List.map_append,List.nodup_append] at nd
   exact nd.2.2 _ (List.mem_map_of_mem hp) _ (List.mem_map_of_mem hp') z.symm
  ·have hm:p.1∈own.map (·.1):=e▸List.mem_map_of_mem hp
   refine oEA (List.mem_map.mp hm) fun p₀ hp₀ e₀=>?_
   have P:=S.N p₀ (mR _ hp₀)
   rw [e₀] at P
   exact⟨ho' p hp,P.2⟩
 ·rw [List.map_append,e,← List.map_append];exact nd
inductive LpJ1(g:Heap)(dr:Drawn)(os:OsState)(L:Addr)(nm:List Str)(own:List (Addr×Obj))(n:Nat)(Sx:Nat→Heap→Prop)(J:Nat→List (Option Value)→List (Addr×Obj)→Prop)(k:Nat)(s:Shared):Prop
 | mk (i ls mu own' h gs tk) (q1:k=n - i) (q2:i≤n) (q3:s=⟨h,gs,dr,tk,os⟩) (q4:J i ls mu) (q5:own'.map (·.1)=own.map (·.1)) (q6:AllBare gs) (q7:St g L h nm ls (mu++own')) (q8:Sx i h):LpJ1 g dr os L nm own n Sx J k s
theorem for_{x:Str}{ix:Nat}{np:Pos}{body:List Stmt}{I:Addr}{fp wr:List Addr}{n:Nat}{P:Nat→Value→Prop}{Sx:Nat→Heap→Prop}{R:Result→Shared→Prop}
  (J:Nat→List (Option Value)→List (Addr×Obj)→Prop) (V:Var sc nm x ix) (W:Walks prog w A I fp wr n P Sx) (hfp:∀ b∈fp,b∈own.map (·.1)∨(∃ o,g.get? b=some o)∨∃ o,∀ i ls mu,J i ls mu→(b,o)∈mu) (hwr:∀ b∈wr,b∈own.map (·.1))
  (live:∀ i h,Sx i h→∀ b∈wr,∃ o,h.get? b=some o) (len:∀ i ls mu,J i ls mu→ix < ls.length)
  (turn:∀ i v ls mu own' h gs tk,i < n→P i v→J i ls mu→own'.map (·.1)=own.map (·.1)→AllBare gs→St g L h nm (ls.set ix (some v)) (mu++own') →
   wpAny (model prog w) A (execs body (envOf q sc L a cd)) (fun f s'=>match f with
    | .next | .cont=>∃ ls' mu' h' gs' tk',s'=⟨h',gs',dr,tk',os⟩∧AllBare gs'∧St g L h' nm ls' (mu'++own')∧J (i+1) ls' mu'
    | .brk=>R (.ok .next) s'
    | .ret v=>R (.ok (.ret v)) s') (fun _ _=>False) ⟨h,gs,dr,tk,os⟩)
  (done:∀ ls mu h gs tk,J n ls mu→AllBare gs→St g L h nm ls mu→R (.ok .next) ⟨h,gs,dr,tk,os⟩)
  (hJ:J 0 ls mu) (S:St g L h nm ls (mu++own)) (hS:Sx 0 h) (hgs:AllBare gs) :
  codeAny (model prog w) A (.forLoop (.Name x np) (.ref I) body [] (envOf q sc L a cd)) R ⟨h,gs,dr,tk,os⟩:=by
 refine codeAny_forLoop_any (LpJ1 g dr os L nm own n Sx J) ?_ n ⟨0,ls,mu,own,h,gs,tk,by rfl,Nat.zero_le _,rfl,hJ,rfl,hgs,S,hS⟩
 rintro k s ⟨i,ls,mu,own',h,gs,tk,rfl,hi,rfl,hJ,ho,hgs,S,hS⟩
 rcases Nat.lt_or_ge i n with hlt | hge
 ·refine W.item i _ _ _ hlt hS fun v h' tk' hP hS' keep=>?_
  refine oEA (S.turn (wr:=wr) (by rw [ho];exact hwr) keep (live _ _ hS')) fun own'' e S'=>?_
  refine wpAny_of_eq (a:=()) (by rfl) (assign_Name (stV (s:=⟨h',gs,dr,tk',os⟩) S' V (len _ _ _ hJ) fun h2 S2=>?_))
  refine wpAny_mono (turn i v ls mu own'' h2 gs _ hlt hP hJ (e.trans ho) hgs S2) (fun f s' hf=>?_) fun _ _ x=>x.elim
  have fin:(∃ ls' mu' h' gs' tk',s'=⟨h',gs',dr,tk',os⟩∧AllBare gs'∧St g L h' nm ls' (mu'++own'')∧J (i+1) ls' mu')→∃ m,m < n - i∧LpJ1 g dr os L nm own n Sx J m s':=by
   rintro ⟨ls',mu',h3,gs',tk3,rfl,hg3,S3,hJ3⟩
   refine⟨n - (i+1),by exact Nat.sub_lt_sub_left (by lia) (by lia),i+1,ls',mu',own'',h3,gs',tk3,rfl,hlt,rfl,hJ3,e.trans ho,hg3,S3,W.frame _ _ _ hS' fun b hb o hbo=>?_⟩
   rcases hfp b hb with hm | ⟨o',hg⟩ | ⟨o',hj⟩
   ·rw [← ho,← e] at hm
    refine oEA (List.mem_map.mp hm) ?_;rintro p hp rfl
    have e1:=(S'.N p (mR _ hp)).1
    have e2:=(S3.N p (mR _ hp)).1
    rw [e1] at hbo
    rw [e2];exact hbo
   ·have e1:=S'.F.keep b o' hg
    have e2:=S3.F.keep b o' hg
    rw [e1] at hbo
    rw [e2];exact hbo
   ·have e1:=(S'.N _ (mF _ (hj _ _ _ hJ))).1
    have e2:=(S3.N _ (mF _ (hj _ _ _ hJ3))).1
    rw [e1] at hbo
    rw [e2];exact hbo
  cases f with
  | next=>exact fin hf
  | cont=>exact fin hf
  | brk=>exact hf
  | ret v=>exact hf
 ·obtain rfl:i=n:=by lia
  refine W.done _ _ _ hS fun h' tk' keep=>?_
  have off:∀ b,(∀ p∈own',p.1≠b)→b∉wr:=fun b hh m=>by
   have:=hwr b m
   rw [← ho] at this
   refine oEA (List.mem_map.mp this) fun p hp e=>?_
   exact hh p hp e
  refine oEEEA S.F.ns fun oL es ep hL r=>?_
  have nd:=S.nd
  rw [List.map_append,List.nodup_append] at nd
  refine wP (done ls mu h' gs tk' hJ hgs ⟨⟨⟨oL,es,ep,keep L oL (off L fun p hp=>(S.N p (mR _ hp)).2.1) hL,r⟩,fun b o hb=>keep b o (off b fun p hp z=>?_) (S.F.keep b o hb),S.F.above⟩,fun p hp=>?_,nd.1⟩)
  ·have:=(S.N p (mR _ hp)).2.2;rw [z,hb] at this;cases this
  ·have P:=S.N p (mF _ hp)
   exact⟨keep _ _ (off _ fun p' hp' z=>nd.2.2 _ (List.mem_map_of_mem hp) _ (List.mem_map_of_mem hp') z.symm) P.1,P.2⟩
end
section
variable{prog:Program}{w:World}{A:Around}{E:Value→Shared→Prop}{h g:Heap}{gs:Array GenState}{dr:Drawn}{tk:Nat}{os:OsState}{L a:Addr}{nm:List Str}{ls:List (Option Value)}{mu own:List (Addr×Obj)}{q:Str}{sc:Scope}{cd:Value}
theorem St.perm{mu':List (Addr×Obj)}(S:St g L h nm ls mu)(p:mu.Perm mu'):St g L h nm ls mu' :=
 ⟨S.F,fun x hx=>S.N x (p.mem_iff.mpr hx),(p.map _).nodup_iff.mp S.nd⟩
theorem St.last{p:Addr×Obj}(S:St g L h nm ls (p::mu)):St g L h nm ls (mu++[p]):=S.perm (List.perm_append_singleton p mu).symm
theorem St.first{p:Addr×Obj}(S:St g L h nm ls (mu++[p])):St g L h nm ls (p::mu):=S.perm (List.perm_append_singleton p mu)
noncomputable def Turn(g:Heap)(L:Addr)(nm:List Str)(own:List (Addr×Obj))(dr:Drawn)(os:OsState)(J:List (Option Value)→List (Addr×Obj)→Prop)(R:Result→Shared→Prop)(f:Flow)(s':Shared):Prop:=match f with
 | .next | .cont=>∃ ls' mu' h' gs' tk',s'=⟨h',gs',dr,tk',os⟩∧AllBare gs'∧St g L h' nm ls' (mu'++own)∧J ls' mu'
 | .brk=>R (.ok .next) s'
 | .ret v=>R (.ok (.ret v)) s'
theorem Turn.next{J:List (Option Value)→List (Addr×Obj)→Prop}{R:Result→Shared→Prop}(S:St g L h nm ls (mu++own))(hg:AllBare gs)(j:J ls mu):Turn g L nm own dr os J R .next ⟨h,gs,dr,tk,os⟩:=⟨ls,mu,h,gs,tk,rfl,hg,S,j⟩
theorem Turn.cont{J:List (Option Value)→List (Addr×Obj)→Prop}{R:Result→Shared→Prop}(S:St g L h nm ls (mu++own))(hg:AllBare gs)(j:J ls mu):Turn g L nm own dr os J R .cont ⟨h,gs,dr,tk,os⟩:=⟨ls,mu,h,gs,tk,rfl,hg,S,j⟩
theorem TN{J:List (Option Value)→List (Addr×Obj)→Prop}{R:Result→Shared→Prop}{T:Flow→Shared→Prop}(hT:∀ f s',Turn g L nm own dr os J R f s'→T f s')(S:St g L h nm ls (mu++own))(hg:AllBare gs)(j:J ls mu):T .next ⟨h,gs,dr,tk,os⟩:=hT _ _ (Turn.next S hg j)
theorem TC{J:List (Option Value)→List (Addr×Obj)→Prop}{R:Result→Shared→Prop}{T:Flow→Shared→Prop}(hT:∀ f s',Turn g L nm own dr os J R f s'→T f s')(S:St g L h nm ls (mu++own))(hg:AllBare gs)(j:J ls mu):T .cont ⟨h,gs,dr,tk,os⟩:=hT _ _ (Turn.cont S hg j)
theorem TB{J:List (Option Value)→List (Addr×Obj)→Prop}{R:Result→Shared→Prop}{T:Flow→Shared→Prop}{s':Shared}(hT:∀ f s',Turn g L nm own dr os J R f s'→T f s')(r:R (.ok .next) s'):T .brk s':=hT .brk _ r
theorem forL{x:Str}{ix:Nat}{np:Pos}{body:List Stmt}{l:Addr}{items:List Value}{R:Result→Shared→Prop}(J:Nat→List (Option Value)→List (Addr×Obj)→Prop)(V:Var sc nm x ix)(S:St g L h nm ls mu)(hh:A.handled=none)(hgs:AllBare gs)
  (hl:h.IsList l items.toArray) (hb:(∃ o,g.get? l=some o)∨∃ o,∀ i ls mu,J i ls mu→(l,o)∈mu) (len:∀ i ls mu,J i ls mu→ix < ls.length)
  (turn:∀ i v ls mu own h gs tk,items[i]?=some v→J i ls mu→AllBare gs→St g L h nm (ls.set ix (some v)) (mu++own) →
   ∀ T:Flow→Shared→Prop,(∀ f s',Turn g L nm own dr os (J (i+1)) R f s'→T f s')→wpAny (model prog w) A (execs body (envOf q sc L a cd)) T (fun _ _=>False) ⟨h,gs,dr,tk,os⟩)
  (done:∀ ls mu h gs tk,J items.length ls mu→AllBare gs→St g L h nm ls mu→R (.ok .next) ⟨h,gs,dr,tk,os⟩) (hJ:J 0 ls mu) :
  wpAny (model prog w) A (pyIter (.ref l)) (fun it s₂=>codeAny (model prog w) A (.forLoop (.Name x np) it body [] (envOf q sc L a cd)) R s₂) E ⟨h,gs,dr,tk,os⟩:=by
 refine wpAny_pyIter_list (s:=⟨h,gs,dr,tk,os⟩) hl ?_
 have hlt:l < h.objs.size:=by refine oEA hl fun o ho _=>?_;exact Heap.lt_size ho
 have W:=Walks.list (prog:=prog) (w:=w) hh h.objs.size l (Nat.ne_of_lt hlt) items.toArray
 refine for_ (own:=[(h.objs.size,_)]) J V W ?_ (fun b hb=>by simpa using hb) ?_ len ?_ ?_ hJ (S.push _).last ⟨⟨_,Heap.get?_push_size _ rfl,rfl,rfl⟩,hl.at fun o e=>Heap.get?_push_of_some _ e⟩ hgs
 ·intro b hb'
  rcases mK hb' with rfl | hb'
  ·exact .inl (by simp)
  ·rw [mS hb'];exact .inr hb
 ·rintro i h' ⟨⟨o,ho,_⟩,_⟩ b hb
  rw [mS hb];exact⟨o,ho⟩
 ·intro i v ls mu own' h' gs' tk' hi hP hJ' _ hg' S'
  refine wpAny_mono (turn i v ls mu own' h' gs' tk' (by simpa using hP) hJ' hg' S' _ fun _ _ h=>h) (fun f s' hf=>?_) fun _ _ x=>x
  cases f<;>exact hf
 ·intro ls mu h' gs' tk' hJ' hg' S'
  exact done ls mu h' gs' tk' (by simpa using hJ') hg' S'
theorem small_range{lo hi:Int}{n:Nat}(hn:(n:Int)=if lo < hi then hi - lo else 0)(hlo:lo.natAbs < 2 ^ 32)(hhi:hi.natAbs < 2 ^ 32):Builtin.Range.small lo hi 1=true:=by
 have hsz:Builtin.Range.rangeSize lo hi 1=(n:Int):=by rw [rangeSize_one,hn]
 have l1 : -9223372036854775808≤lo:=by lia
 have l2:lo < 9223372036854775808:=by lia
 have h1 : -9223372036854775808≤hi:=by lia
 have h2:hi < 9223372036854775808:=by lia
 have n1:(n:Int) < 9223372036854775808:=by split at hn<;>lia
 unfold Builtin.Range.small
 rw [hsz]
 simp only [Builtin.Range.rangeFitsLong]
 simp
 exact⟨⟨⟨⟨l1,l2⟩,h1,h2⟩,n1⟩,.inr ⟨h1,h2⟩⟩
theorem forR{x:Str}{ix:Nat}{np:Pos}{body:List Stmt}{r:Addr}{lo hi:Int}{n:Nat}{t u v:Tok}{R:Result→Shared→Prop}(J:Nat→List (Option Value)→List (Addr×Obj)→Prop)(V:Var sc nm x ix)(S:St g L h nm ls mu)(hh:A.handled=none)(hgs:AllBare gs)
  (hr:IsRange h r lo hi 1 t u v) (hn:(n:Int)=if lo < hi then hi - lo else 0) (hlo:lo.natAbs < 2 ^ 32) (hhi:hi.natAbs < 2 ^ 32) (len:∀ i ls mu,J i ls mu→ix < ls.length)
  (turn:∀ (i:Nat) k ls mu own h gs tk,i < n→J i ls mu→AllBare gs→St g L h nm (ls.set ix (some (.int (lo+i) k))) (mu++own) →
   ∀ T:Flow→Shared→Prop,(∀ f s',Turn g L nm own dr os (J (i+1)) R f s'→T f s')→wpAny (model prog w) A (execs body (envOf q sc L a cd)) T (fun _ _=>False) ⟨h,gs,dr,tk,os⟩)
  (done:∀ ls mu h gs tk,J n ls mu→AllBare gs→St g L h nm ls mu→R (.ok .next) ⟨h,gs,dr,tk,os⟩) (hJ:J 0 ls mu) :
  wpAny (model prog w) A (pyIter (.ref r)) (fun it s₂=>codeAny (model prog w) A (.forLoop (.Name x np) it body [] (envOf q sc L a cd)) R s₂) E ⟨h,gs,dr,tk,os⟩:=by
 have hsz:Builtin.Range.rangeSize lo hi 1=(n:Int):=by rw [rangeSize_one,hn]
 have hsmall:=small_range hn hlo hhi
 refine wpAny_pyIter_range (s:=⟨h,gs,dr,tk,os⟩) hr hsmall ?_
 have W:=Walks.range (prog:=prog) (w:=w) hh h.objs.size lo 1 n
 refine for_ (own:=[(h.objs.size,_)]) J V W ?_ (fun b hb=>by simpa using hb) ?_ len ?_ done hJ (S.push _).last ?_ hgs
 ·intro b hb'
  exact .inl (by simpa using hb')
 ·intro i h' hx b hb
  rw [mS hb];exact⟨_,hx⟩
 ·rintro i v ls mu own' h' gs' tk' hi ⟨k,rfl⟩ hJ' _ hg' S'
  rw [Int.mul_one] at S'
  refine wpAny_mono (turn i k ls mu own' h' gs' tk' hi hJ' hg' S' _ fun _ _ h=>h) (fun f s' hf=>?_) fun _ _ x=>x
  cases f<;>exact hf
 ·have:=Heap.get?_push_size h (o:={ cls:=.type "range_iterator",data:=.fields #[rawInt lo,rawInt (Builtin.Range.rangeSize lo hi 1),rawInt 1] }) rfl
  rw [hsz] at this
  simpa [IsRangeIter,hsz] using this
end
section
variable{prog:Program}{w:World}{A:Around}{E:Value→Shared→Prop}{h g:Heap}{gs:Array GenState}{dr:Drawn}{tk:Nat}{os:OsState}{L a:Addr}{nm:List Str}{ls:List (Option Value)}{mu own:List (Addr×Obj)}{q:Str}{sc:Scope}{cd:Value}
theorem forT{x y:Str}{ix iy:Nat}{p1 p2 tp:Pos}{kk:Nat}{body:List Stmt}{I:Addr}{fp wr:List Addr}{n:Nat}{Pt:Nat→Array Value→Prop}{Sx:Nat→Heap→Prop}{Mid:Nat→Addr→Heap→Prop}{R:Result→Shared→Prop}
  (J:Nat→List (Option Value)→List (Addr×Obj)→Prop) (Vx:Var sc nm x ix) (Vy:Var sc nm y iy) (hh:A.handled=none) (W:WalksT prog w A I fp wr n Pt Sx Mid)
  (hfp:∀ b∈fp,b∈own.map (·.1)∨(∃ o,g.get? b=some o)∨∃ o,∀ i ls mu,J i ls mu→(b,o)∈mu) (hwr:∀ b∈wr,b∈own.map (·.1))
  (live:∀ i h,Sx i h→∀ b∈wr,∃ o,h.get? b=some o) (len:∀ i ls mu,J i ls mu→ix < ls.length∧iy < ls.length) (two:∀ i vals,Pt i vals→∃ u v,vals=#[u,v])
  (turn:∀ i u v ls mu own' h gs tk,i < n→Pt i #[u,v]→J i ls mu→own'.map (·.1)=own.map (·.1)→AllBare gs→St g L h nm ((ls.set ix (some u)).set iy (some v)) (mu++own') →
   ∀ T:Flow→Shared→Prop,(∀ f s',Turn g L nm own' dr os (J (i+1)) R f s'→T f s')→wpAny (model prog w) A (execs body (envOf q sc L a cd)) T (fun _ _=>False) ⟨h,gs,dr,tk,os⟩)
  (done:∀ ls mu h gs tk,J n ls mu→AllBare gs→St g L h nm ls mu→R (.ok .next) ⟨h,gs,dr,tk,os⟩)
  (hJ:J 0 ls mu) (S:St g L h nm ls (mu++own)) (hS:Sx 0 h) (hgs:AllBare gs) :
  codeAny (model prog w) A (.forLoop (.Tuple [.Name x p1,.Name y p2] kk tp) (.ref I) body [] (envOf q sc L a cd)) R ⟨h,gs,dr,tk,os⟩:=by
 refine codeAny_forLoop_any (LpJ1 g dr os L nm own n Sx J) ?_ n ⟨0,ls,mu,own,h,gs,tk,by lia,Nat.zero_le _,rfl,hJ,rfl,hgs,S,hS⟩
 rintro k s ⟨i,ls,mu,own',h,gs,tk,rfl,hi,rfl,hJ,ho,hgs,S,hS⟩
 rcases Nat.lt_or_ge i n with hlt | hge
 ·refine W.item i _ _ _ hlt hS fun T vals h' tk' hP hT hTu hMid keep=>?_
  refine oEE (two i _ hP) ?_;rintro u v rfl
  refine W.go _ _ _ i T _ _ _ hMid fun h2 hS' keep2=>?_
  have keep':∀ b o,b∉wr→h.get? b=some o→h2.get? b=some o:=fun b o hb e=>keep2 b o hb (keep b o hb e)
  refine oEA (S.turn (wr:=wr) (by rw [ho];exact hwr) keep' (live _ _ hS')) fun own'' e S'=>?_
  have hT2:IsTup h2 T #[u,v]:=by
   refine oEA hTu fun o ho' r=>?_
   exact⟨o,keep2 T o (W.apart i T h' hMid) ho',r⟩
  refine assign_Tuple_tuple (s:=⟨h2,gs,dr,tk',os⟩) hh hT2 rfl rfl fun h3 hx=>?_
  have S3:St g L h3 nm ls (mu++own''):=S'.re (S'.F.extBut hx (Nat.le_refl _)) (S'.N.extBut hx (Nat.le_refl _))
  refine ord_cons (assign_Name (st_ S3 Vx (len _ _ _ hJ).1 fun h4 t4 S4=>?_))
  refine ord_cons (assign_Name (st_ S4 Vy (by simpa using (len _ _ _ hJ).2) fun h5 t5 S5=>?_))
  refine ord_nil ?_
  refine wpAny_mono (turn i u v ls mu own'' h5 gs _ hlt hP hJ (e.trans ho) hgs S5 _ fun _ _ h=>h) (fun f s' hf=>?_) fun _ _ x=>x.elim
  have fin:(∃ ls' mu' h' gs' tk',s'=⟨h',gs',dr,tk',os⟩∧AllBare gs'∧St g L h' nm ls' (mu'++own'')∧J (i+1) ls' mu')→∃ m,m < n - i∧LpJ1 g dr os L nm own n Sx J m s':=by
   rintro ⟨ls',mu',h3,gs',tk3,rfl,hg3,S3,hJ3⟩
   refine⟨n - (i+1),by(clear e hT ho hi hh;exact Nat.sub_lt_sub_left (by lia) (by lia)),i+1,ls',mu',own'',h3,gs',tk3,rfl,hlt,rfl,hJ3,e.trans ho,hg3,S3,W.frame _ _ _ hS' fun b hb o hbo=>?_⟩
   rcases hfp b hb with hm | ⟨o',hg⟩ | ⟨o',hj⟩
   ·rw [← ho,← e] at hm
    refine oEA (List.mem_map.mp hm) ?_;rintro p hp rfl
    have e1:=(S'.N p (mR _ hp)).1
    have e2:=(S3.N p (mR _ hp)).1
    rw [e1] at hbo
    rw [e2];exact hbo
   ·have e1:=S'.F.keep b o' hg
    have e2:=S3.F.keep b o' hg
    rw [e1] at hbo
    rw [e2];exact hbo
   ·have e1:=(S'.N _ (mF _ (hj _ _ _ hJ))).1
    have e2:=(S3.N _ (mF _ (hj _ _ _ hJ3))).1
    rw [e1] at hbo
    rw [e2];exact hbo
  cases f with
  | next=>exact fin hf
  | cont=>exact fin hf
  | brk=>exact hf
  | ret v=>exact hf
 ·obtain rfl:i=n:=by lia
  refine W.done _ _ _ hS fun h' tk' keep=>?_
  have off:∀ b,(∀ p∈own',p.1≠b)→b∉wr:=fun b hh m=>by
   have:=hwr b m
   rw [← ho] at this
   refine oEA (List.mem_map.mp this) fun p hp e=>?_
   exact hh p hp e
  refine oEEEA S.F.ns fun oL es ep hL r=>?_
  have nd:=S.nd
  rw [List.map_append,List.nodup_append] at nd
  refine wP (done ls mu h' gs tk' hJ hgs ⟨⟨⟨oL,es,ep,keep L oL (off L fun p hp=>(S.N p (mR _ hp)).2.1) hL,r⟩,fun b o hb=>keep b o (off b fun p hp z=>?_) (S.F.keep b o hb),S.F.above⟩,fun p hp=>?_,nd.1⟩)
  ·have:=(S.N p (mR _ hp)).2.2;rw [z,hb] at this;cases this
  ·have P:=S.N p (mF _ hp)
   exact⟨keep _ _ (off _ fun p' hp' z=>nd.2.2 _ (List.mem_map_of_mem hp) _ (List.mem_map_of_mem hp') z.symm) P.1,P.2⟩
end
section
variable{prog:Program}{w:World}{A:Around}{E:Value→Shared→Prop}{h g:Heap}{gs:Array GenState}{dr:Drawn}{tk:Nat}{os:OsState}{L a:Addr}{nm:List Str}{ls:List (Option Value)}{mu own:List (Addr×Obj)}{q:Str}{sc:Scope}{cd:Value}
inductive LaJ1(h:Heap)(g:Heap)(dr:Drawn)(os:OsState)(L:Addr)(nm:List Str)(l:Addr)(items:List Value)(J:Nat→List (Option Value)→List (Addr×Obj)→Prop)(k:Nat)(s:Shared):Prop
 | mk (i ls mu own' h2 gs tk) (q1:k=items.length - i) (q2:i≤items.length) (q3:s=⟨h2,gs,dr,tk,os⟩) (q4:J i ls mu) (q5:own'.map (·.1)=[h.objs.size]) (q6:AllBare gs) (q7:St g L h2 nm ls (mu++own')) (q8:h2.IsListIter h.objs.size l i) (q9:h2.IsList l items.toArray):LaJ1 h g dr os L nm l items J k s
theorem forLA{elts:List Expr}{kk:Nat}{tp:Pos}{body:List Stmt}{l:Addr}{items:List Value}{R:Result→Shared→Prop}(J:Nat→List (Option Value)→List (Addr×Obj)→Prop)(S:St g L h nm ls mu)(hh:A.handled=none)(hgs:AllBare gs)
  (hl:h.IsList l items.toArray) (hbase:(∃ o,g.get? l=some o)∨∃ o,∀ i ls mu,J i ls mu→(l,o)∈mu) (href:∀ v∈items,∃ T,v=.ref T)
  (turn:∀ i v ls mu own h gs tk,items[i]?=some v→J i ls mu→AllBare gs→St g L h nm ls (mu++own) →
   ∀ T:Flow→Shared→Prop,(∀ f s',Turn g L nm own dr os (J (i+1)) R f s'→T f s')→wpAny (model prog w) A (assign (.Tuple elts kk tp) (envOf q sc L a cd) v) (fun _ s₁=>wpAny (model prog w) A (execs body (envOf q sc L a cd)) T (fun _ _=>False) s₁) (fun _ _=>False) ⟨h,gs,dr,tk,os⟩)
  (done:∀ ls mu h gs tk,J items.length ls mu→AllBare gs→St g L h nm ls mu→R (.ok .next) ⟨h,gs,dr,tk,os⟩) (hJ:J 0 ls mu) :
  wpAny (model prog w) A (pyIter (.ref l)) (fun it s₂=>codeAny (model prog w) A (.forLoop (.Tuple elts kk tp) it body [] (envOf q sc L a cd)) R s₂) E ⟨h,gs,dr,tk,os⟩:=by
 refine wpAny_pyIter_list (s:=⟨h,gs,dr,tk,os⟩) hl ?_
 have hlt:l < h.objs.size:=by refine oEA hl fun o ho _=>?_;exact Heap.lt_size ho
 have W:=Walks.list (prog:=prog) (w:=w) hh h.objs.size l (Nat.ne_of_lt hlt) items.toArray
 have S0:=(S.push { cls:=.type "list_iterator",data:=.fields #[.ref l,.int 0 0] }).last
 have hS0:(h.push { cls:=.type "list_iterator",data:=.fields #[.ref l,.int 0 0] }).IsListIter h.objs.size l 0:=⟨_,Heap.get?_push_size _ rfl,rfl,rfl⟩
 have hl0:(h.push { cls:=.type "list_iterator",data:=.fields #[.ref l,.int 0 0] }).IsList l items.toArray:=hl.at fun o e=>Heap.get?_push_of_some _ e
 refine codeAny_forLoop_any (LaJ1 h g dr os L nm l items J) ?_ items.length ⟨0,ls,mu,[(h.objs.size,_)],_,gs,tk,by lia,Nat.zero_le _,rfl,hJ,rfl,hgs,S0,hS0,hl0⟩
 rintro k s ⟨i,ls,mu,own',h9,gs,tk,rfl,hi,rfl,hJ,ho,hgs,S,hS,hls⟩
 rcases Nat.lt_or_ge i items.length with hlt | hge
 ·refine W.item i _ _ _ (by rw [List.size_toArray];exact hlt) ⟨hS,hls⟩ fun v h' tk' hP hS' keep=>?_
  have hv:items[i]?=some v:=by simpa using hP
  obtain⟨own'',e,S'⟩:=S.turn (wr:=[h.objs.size]) (by rw [ho];exact fun b hb=>hb) keep (by
   obtain⟨⟨o,ho,_⟩,_⟩:=hS'
   intro b hb
   rw [mS hb];exact⟨o,ho⟩)
  obtain⟨T,rfl⟩:=href v (List.mem_of_getElem? hv)
  refine wpAny_letOwnedTupleGo_listiter hS'.1 ?_
  refine wpAny_mono (turn i (.ref T) ls mu own'' h' gs tk' hv hJ hgs S' _ fun _ _ h=>h) (fun _ s₁ h₁=>?_) fun _ _ x=>x.elim
  refine wpAny_mono h₁ (fun f s' hf=>?_) fun _ _ x=>x.elim
  have fin:(∃ ls' mu' h' gs' tk',s'=⟨h',gs',dr,tk',os⟩∧AllBare gs'∧St g L h' nm ls' (mu'++own'')∧J (i+1) ls' mu')→∃ m,m < items.length - i∧LaJ1 h g dr os L nm l items J m s':=by
   rintro ⟨ls',mu',h3,gs',tk3,rfl,hg3,S3,hJ3⟩
   have fr:=W.frame (i+1) _ h3 hS' fun b hb o hbo=>by
    rcases mK hb with rfl | hbm
    ·have hm:h.objs.size∈own''.map (·.1):=by rw [e,ho];simp
     refine oEA (List.mem_map.mp hm) fun p hp e0=>?_
     have e1:=(S'.N p (mR _ hp)).1
     have e2:=(S3.N p (mR _ hp)).1
     rw [e0] at e1 e2
     rw [e1] at hbo
     rw [e2];exact hbo
    ·rw [mS hbm] at hbo ⊢
     rcases hbase with⟨o',hg⟩ | ⟨o',hj⟩
     ·have e1:=S'.F.keep l o' hg
      have e2:=S3.F.keep l o' hg
      rw [e1] at hbo
      rw [e2];exact hbo
     ·have e1:=(S'.N _ (mF _ (hj _ _ _ hJ))).1
      have e2:=(S3.N _ (mF _ (hj _ _ _ hJ3))).1
      rw [e1] at hbo
      rw [e2];exact hbo
   exact⟨items.length - (i+1),by omega,i+1,ls',mu',own'',h3,gs',tk3,rfl,hlt,rfl,hJ3,e.trans ho,hg3,S3,fr.1,fr.2⟩
  cases f with
  | next=>exact fin hf
  | cont=>exact fin hf
  | brk=>exact hf
  | ret v=>exact hf
 ·obtain rfl:i=items.length:=by lia
  refine W.done _ _ _ (by rw [List.size_toArray];exact⟨hS,hls⟩) fun h' tk' keep=>?_
  have off:∀ b,(∀ p∈own',p.1≠b)→b∉[h.objs.size]:=fun b hh m=>by
   rw [← ho] at m
   refine oEA (List.mem_map.mp m) fun p hp e=>?_
   exact hh p hp e
  refine oEEEA S.F.ns fun oL es ep hL r=>?_
  have nd:=S.nd
  rw [List.map_append,List.nodup_append] at nd
  refine wP (done ls mu h' gs tk' hJ hgs ⟨⟨⟨oL,es,ep,keep L oL (off L fun p hp=>(S.N p (mR _ hp)).2.1) hL,r⟩,fun b o hb=>keep b o (off b fun p hp z=>?_) (S.F.keep b o hb),S.F.above⟩,fun p hp=>?_,nd.1⟩)
  ·have:=(S.N p (mR _ hp)).2.2;rw [z,hb] at this;cases this
  ·have P:=S.N p (mF _ hp)
   exact⟨keep _ _ (off _ fun p' hp' z=>nd.2.2 _ (List.mem_map_of_mem hp) _ (List.mem_map_of_mem hp') z.symm) P.1,P.2⟩
end
section
open PySem.Builtin PySem.Builtin.ObjectAttr
structure BM(T:String)(name:Str)(id gid gai:String):Prop where
 ga:Slot T "__getattribute__" gai
 entry:entryFor table gai=some Builtin.«object.__getattribute__»
 args:∀ a b:Value,argsOk gai ⟨[a,b],[]⟩
 look:typeLookup (.type T) name=pure (some (.builtin id))
 get:specialOf (.builtin id) "__get__" = pure (some (.builtin gid))
 takes:takesStores (.builtin id)=pure false
 hand:(withoutEnding? id "#data").isNone=true
 free:(["__module__","__name__","__qualname__","__doc__","__annotations__"]:List Str).contains name=false
section
variable{prog:Program}{w:World}{A:Around}{E:Value→Shared→Prop}{h:Heap}{gs:Array GenState}{dr:Drawn}{tk:Nat}{os:OsState}
theorem getBM{T:String}{name:Str}{id gid gai:String}{d:Addr}{o:Obj}{expr:Bool}{Q:Value→Shared→Prop}(b:BM T name id gid gai)(ho:h.get? d=some o)(hc:o.cls=.type T)(hd:o.dict=none)(hn:∀ c,o.data≠.cls c)
  (k:wpAny (model prog w) A.in1 (call (.builtin gid) [.builtin id,.ref d,.type T]) (fun v s'=>handedIn v=true∧Q v s') (fun _ _=>False) ⟨h,gs,dr,tk+1,os⟩) :
  wpAny (model prog w) A (getAttr (.ref d) name expr) Q E ⟨h,gs,dr,tk,os⟩:=by
 unfold getAttr
 refine wB (wpAny_mkText ?_)
 unfold getAttrBy
 have hT:Shared.TypeIs ⟨h,gs,dr,tk+1,os⟩ (.ref d) T:=⟨o,ho,hc⟩
 refine wpAny_holding (wB (wpAny_typeOf hT (wB (wpAny_of_eq b.ga.lookup ?_))))
 show wpAny _ _ (getAttrByItsOwn (.ref d) (.str name tk) (.type T) (.builtin gai) true expr) _ _ _
 unfold getAttrByItsOwn
 refine wB (wP ?_)
 refine wB (wpAny_attempt (wpAny_holding ?_))
 have e1:callGetattribute (.ref d) (.str name tk) (.builtin gai) expr=boundAndCalled (.builtin gai) (.ref d) (.str name tk):=by
  unfold callGetattribute
  cases expr<;>rfl
 rw [e1]
 unfold boundAndCalled
 rw [b.ga.bind]
 refine wB (wP ?_)
 refine wpAny_mono (Q:=fun v s'=>handedIn v=true∧Q v s') (E:=fun _ _=>False) ?_ (fun v s' hv=>?_) fun _ _ x=>x.elim
 ·show wpAny _ _ (call (.builtin gai) (.ref d::[.str name tk])) _ _ _
  refine wpAny_call_entry b.ga hT b.entry ?_ (b.args _ _)
  unfold Builtin.«object.__getattribute__»
  refine wB (wP (wB (wP (wB (wpAny_typeOf hT ?_)))))
  refine wB (m:=find (.ref d) (.type T) name) ?_
  unfold find
  refine wB (wpAny_of_eq b.look (wB ?_))
  show wpAny _ _ (specialOf (.builtin id) "__get__") _ _ _
  refine wpAny_of_eq b.get ?_
  refine wB (wB (wpAny_of_eq b.takes (wP ?_)))
  show wpAny _ _ (ownThenClass (.ref d) name (some (.builtin id)) (some (.builtin gid))) _ _ _
  unfold ownThenClass
  refine wB (wB (m:=ObjectAttr.ownDict d) ?_)
  unfold ObjectAttr.ownDict loadHead
  refine wB (wpAny_loadPart ho ?_)
  refine(?_:∀ t,t=instanceDict d false→wpAny (model prog w) A.in1 t _ _ _) _ (by cases hdt:o.data<;>first | rfl | exact absurd hdt (hn _))
  intro t ht
  rw [ht]
  unfold instanceDict
  refine wB (wpAny_loadPart ho ?_)
  rw [hc,hd]
  refine wP ?_
  show wpAny _ _ (pure none) _ _ _
  refine wP ?_
  have e3:copiedAttributeGuard name (.ref d)=pure ():=by
   unfold copiedAttributeGuard
   dsimp only
   rw [if_neg (by rw [b.free];exact Bool.false_ne_true)]
  refine wB (wpAny_of_eq e3 (wB (wpAny_rule (wP ?_))))
  show wpAny _ _ (bindTo (.builtin gid) (.builtin id) (.ref d) (.type T)) _ _ _
  unfold bindTo
  exact wB (wpAny_holding (wpAny_mono k (fun v s' hv=>wP ⟨v,rfl,hv⟩) fun _ _ x=>x.elim))
 ·show wpAny _ _ (handedOut v) _ _ _
  rw [handedOut_of hv.1]
  exact wP hv.2
end
end
section
open PySem.Builtin PySem.Builtin.ObjectAttr
theorem ent_ga_dict:entryFor table "dict.__getattribute__" = some Builtin.«object.__getattribute__»:=F.entry_dict_ga
theorem ent_ga_set:entryFor table "set.__getattribute__" = some Builtin.«object.__getattribute__»:=F.entry_set_ga
theorem md_get:typeLookup (.type "method_descriptor") "__get__" = pure (some (.builtin "method_descriptor.__get__")):=by rw [typeLookup_type,builtinLookup_eq_fast];kernel_rfl
theorem md_set:typeLookup (.type "method_descriptor") "__set__" = pure none:=by rw [typeLookup_type,builtinLookup_eq_fast];kernel_rfl
theorem md_del:typeLookup (.type "method_descriptor") "__delete__" = pure none:=by rw [typeLookup_type,builtinLookup_eq_fast];kernel_rfl
theorem bm_of {T:String} {name:Str} {id gai:String} (ga:Slot T "__getattribute__" gai) (en:entryFor table gai=some Builtin.«object.__getattribute__») (ar:∀ a b:Value,argsOk gai ⟨[a,b],[]⟩)
  (look:typeLookup (.type T) name=pure (some (.builtin id))) (e:typeOf (.builtin id)=pure (.type "method_descriptor")) (hand:(withoutEnding? id "#data").isNone=true) (free:(["__module__","__name__","__qualname__","__doc__","__annotations__"]:List Str).contains name=false) :
  BM T name id "method_descriptor.__get__" gai where
 ga:=ga
 entry:=en
 args:=ar
 look:=look
 get:=by
  show(do typeLookup (← typeOf (.builtin id)) "__get__")=_
  rw [e]
  exact md_get
 takes:=by
  unfold takesStores specialOf
  rw [e]
  show((typeLookup (.type "method_descriptor") "__set__") >>= fun a=>if a.isSome=true then pure true else (typeLookup (.type "method_descriptor") "__delete__") >>= fun b=>pure b.isSome)=_
  rw [md_set,md_del]
  rfl
 hand:=hand
 free:=free
theorem bm_get:BM "dict" "get" "dict.get" "method_descriptor.__get__" "dict.__getattribute__" :=bm_of F.slot_dict_getattribute ent_ga_dict F.args_dict_getattribute_2 F.slot_dict_get.lookup F.type_dict_get (by decide +kernel) (by decide +kernel)
theorem type_dcont:typeOf (.builtin "dict.__contains__")=pure (.type "method_descriptor"):=by show builtinType _=_;rw [builtinType_eq_fast];kernel_rfl
theorem type_scont:typeOf (.builtin "set.__contains__")=pure (.type "method_descriptor"):=by show builtinType _=_;rw [builtinType_eq_fast];kernel_rfl
theorem bm_dcont:BM "dict" "__contains__" "dict.__contains__" "method_descriptor.__get__" "dict.__getattribute__" :=bm_of F.slot_dict_getattribute ent_ga_dict F.args_dict_getattribute_2 (by rw [typeLookup_type,builtinLookup_eq_fast];kernel_rfl) (by show builtinType _=_;rw [builtinType_eq_fast];kernel_rfl) (by decide +kernel) (by decide +kernel)
theorem bm_scont:BM "set" "__contains__" "set.__contains__" "method_descriptor.__get__" "set.__getattribute__" :=bm_of F.slot_set_getattribute ent_ga_set F.args_set_getattribute_2 (by rw [typeLookup_type,builtinLookup_eq_fast];kernel_rfl) (by show builtinType _=_;rw [builtinType_eq_fast];kernel_rfl) (by decide +kernel) (by decide +kernel)
theorem slot_mdget:Slot "method_descriptor" "__get__" "method_descriptor.__get__" :=
 .of (owner:="method_descriptor") (n:="__get__") md_get (by decide +kernel) (by decide +kernel) (by decide +kernel)
  (by first | exact .inl (by decide +kernel) | exact .inr (by decide +kernel)) (by rw [isSubtype_type];kernel_rfl)
theorem ent_mdget:entryFor table "method_descriptor.__get__" = some Builtin.«method_descriptor.__get__»:=entryFor_of_tree (by kernel_rfl)
theorem args_mdget(a b c:Value):argsOk "method_descriptor.__get__" ⟨[a,b,c],[]⟩:=by unfold argsOk;kernel_rfl
noncomputable abbrev bmObj(id:String)(d:Addr):Obj:=⟨.type "builtin_function_or_method",none,.fields #[.builtin id,.ref d],#[]⟩
section
variable{prog:Program}{w:World}{A:Around}{E:Value→Shared→Prop}{h g:Heap}{gs:Array GenState}{dr:Drawn}{tk:Nat}{os:OsState}{L:Addr}{nm:List Str}{ls:List (Option Value)}{mu:List (Addr×Obj)}
theorem bind_get {d:Addr} {o:Obj} {Q:Value→Shared→Prop} (ho:h.get? d=some o) (hc:o.cls=.type "dict") (k:Q (.ref h.objs.size) ⟨h.push (bmObj "dict.get" d),gs,dr,tk,os⟩) :
  wpAny (model prog w) A (call (.builtin "method_descriptor.__get__") [.builtin "dict.get",.ref d,.type "dict"]) Q E ⟨h,gs,dr,tk,os⟩:=by
 refine wpAny_call_entry slot_mdget (s:=⟨h,gs,dr,tk,os⟩) (show typeOf _=_ from F.type_dict_get) ent_mdget ?_ (args_mdget _ _ _)
 unfold Builtin.«method_descriptor.__get__»
 refine wB (wpAny_of_eq (a:=(.builtin "dict.get",some (.ref d),some (.type "dict"))) (by rfl) ?_)
 dsimp only
 rw [if_neg (show ¬ (Manifest.toldItsClass.contains "dict.get" = true) by decide +kernel)]
 refine wB (wB (wpAny_of_eq (a:=(ofString "get",Value.type "dict")) (by kernel_rfl) ?_))
 dsimp only
 refine wB (wB (wpAny_typeOf (T:="dict") ⟨o,ho,hc⟩ (wpAny_of_eq (a:=true) (by rw [isSubtype_type];kernel_rfl) ?_)))
 exact wP (wB (wpAny_newObj_type (wP ⟨_,rfl,k⟩)))
theorem bind_dcont {d:Addr} {o:Obj} {Q:Value→Shared→Prop} (ho:h.get? d=some o) (hc:o.cls=.type "dict") (k:Q (.ref h.objs.size) ⟨h.push (bmObj "dict.__contains__" d),gs,dr,tk,os⟩) :
  wpAny (model prog w) A (call (.builtin "method_descriptor.__get__") [.builtin "dict.__contains__",.ref d,.type "dict"]) Q E ⟨h,gs,dr,tk,os⟩:=by
 refine wpAny_call_entry slot_mdget (s:=⟨h,gs,dr,tk,os⟩) (show typeOf _=_ from type_dcont) ent_mdget ?_ (args_mdget _ _ _)
 unfold Builtin.«method_descriptor.__get__»
 refine wB (wpAny_of_eq (a:=(.builtin "dict.__contains__",some (.ref d),some (.type "dict"))) (by rfl) ?_)
 dsimp only
 rw [if_neg (show ¬ (Manifest.toldItsClass.contains "dict.__contains__" = true) by decide +kernel)]
 refine wB (wB (wpAny_of_eq (a:=(ofString "__contains__",Value.type "dict")) (by kernel_rfl) ?_))
 dsimp only
 refine wB (wB (wpAny_typeOf (T:="dict") ⟨o,ho,hc⟩ (wpAny_of_eq (a:=true) (by rw [isSubtype_type];kernel_rfl) ?_)))
 exact wP (wB (wpAny_newObj_type (wP ⟨_,rfl,k⟩)))
theorem bind_scont {d:Addr} {o:Obj} {Q:Value→Shared→Prop} (ho:h.get? d=some o) (hc:o.cls=.type "set") (k:Q (.ref h.objs.size) ⟨h.push (bmObj "set.__contains__" d),gs,dr,tk,os⟩) :
  wpAny (model prog w) A (call (.builtin "method_descriptor.__get__") [.builtin "set.__contains__",.ref d,.type "set"]) Q E ⟨h,gs,dr,tk,os⟩:=by
 refine wpAny_call_entry slot_mdget (s:=⟨h,gs,dr,tk,os⟩) (show typeOf _=_ from type_scont) ent_mdget ?_ (args_mdget _ _ _)
 unfold Builtin.«method_descriptor.__get__»
 refine wB (wpAny_of_eq (a:=(.builtin "set.__contains__",some (.ref d),some (.type "set"))) (by rfl) ?_)
 dsimp only
 rw [if_neg (show ¬ (Manifest.toldItsClass.contains "set.__contains__" = true) by decide +kernel)]
 refine wB (wB (wpAny_of_eq (a:=(ofString "__contains__",Value.type "set")) (by kernel_rfl) ?_))
 dsimp only
 refine wB (wB (wpAny_typeOf (T:="set") ⟨o,ho,hc⟩ (wpAny_of_eq (a:=true) (by rw [isSubtype_type];kernel_rfl) ?_)))
 exact wP (wB (wpAny_newObj_type (wP ⟨_,rfl,k⟩)))
theorem callBound{x d:Addr}{id:String}{B:Builtin}{args:List Value}{Sp:PySem.Spec}{Q:Value→Shared→Prop}(ho:h.get? x=some (bmObj id d))(chk:∀ (A:Around) (Q:Unit→Shared→Prop),Q () ⟨h,gs,dr,tk,os⟩→wpAny (model prog w) A (checkBoundCall id ⟨.ref d::args,[]⟩) Q E ⟨h,gs,dr,tk,os⟩)(pid:plainId id=true)(en:entryFor table id=some B)
  (gm:MeetsIn prog w (B ⟨.ref d::args,[]⟩) Sp) (k:Sp A (wants Q E) ⟨h,gs,dr,tk,os⟩):wpAny (model prog w) A (call (.ref x) args) Q E ⟨h,gs,dr,tk,os⟩:=by
 refine wpAny_call (codeAny_of_tree ?_)
 show wpAny _ A.in1 (callAny (.ref x) ⟨args,[]⟩) _ _ _
 refine wB (wpAny_load ho ?_)
 simp only [show(Value.type "builtin_function_or_method" == Value.type "method" || Value.type "builtin_function_or_method" == Value.type "builtin_function_or_method" || Value.type "builtin_function_or_method" == Value.type "method-wrapper")=true by decide,if_true]
 show wpAny _ _ (if (Value.type "builtin_function_or_method" != Value.type "method")=true then (do checkBoundCall id ⟨.ref d::args,[]⟩;again (.builtin id ⟨.ref d::args,[]⟩)) else _) _ _ _
 rw [if_pos (by decide)]
 refine wB (chk _ _ (wP ⟨plainId_quiet pid _,codeAny_of_tree ?_⟩))
 rw [Around.under_plainId pid]
 have e:(model prog w).den (.builtin id ⟨.ref d::args,[]⟩)=B ⟨.ref d::args,[]⟩:=by
  show(match entryFor table id with | some b=>b _ | none=>_)=_
  rw [en]
 rw [e]
 exact gm A (wants Q E) _ k
theorem chk_get_sig:(Manifest.signature? "dict.get").isSome=true:=by kernel_rfl
theorem chk_get_args(d:Addr)(x y:Value):Bind.checkArgs "dict.get" { (Manifest.signature? "dict.get").get chk_get_sig with full:=s!"{Bind.lastOf "dict"}.{Bind.lastOf "dict.get"}" } ⟨[.ref d,x,y],[]⟩=pure ():=by kernel_rfl
theorem chk_get {d:Addr} {o:Obj} {x y:Value} {Q:Unit→Shared→Prop} (ho:h.get? d=some o) (hc:o.cls=.type "dict") (hn:∀ c,o.data≠.cls c) (k:Q () ⟨h,gs,dr,tk,os⟩) :
  wpAny (model prog w) A (checkBoundCall "dict.get" ⟨[.ref d,x,y],[]⟩) Q E ⟨h,gs,dr,tk,os⟩:=by
 unfold checkBoundCall
 rw [show Manifest.signature? "dict.get" = some ((Manifest.signature? "dict.get").get chk_get_sig) from(Option.some_get _).symm,show builtinKind "dict.get" = some .method by kernel_rfl]
 dsimp only
 rw [if_neg (by decide)]
 refine wB (wB (wpAny_typeOf (T:="dict") ⟨o,ho,hc⟩ (wpAny_of_eq (a:=false) (by rw [isSubtype_type];kernel_rfl) ?_)))
 rw [if_neg (by decide +kernel)]
 refine wB (wB (wpAny_loadPart ho (wP ?_)))
 refine(?_:∀ t:Bool,t=false→wpAny (model prog w) A (if t=true then _ else _) _ _ _) _ (by cases hdt:o.data<;>first | rfl | exact absurd hdt (hn _))
 intro t ht
 rw [ht,if_neg (by decide)]
 refine wB (wpAny_typeOf (T:="dict") ⟨o,ho,hc⟩ ?_)
 exact wpAny_of_eq (chk_get_args d x y) k
theorem chk_dcont_sig:(Manifest.signature? "dict.__contains__").isSome=true:=by kernel_rfl
theorem chk_dcont_args(d:Addr)(x:Value):Bind.checkArgs "dict.__contains__" { (Manifest.signature? "dict.__contains__").get chk_dcont_sig with full:=s!"{Bind.lastOf "dict"}.{Bind.lastOf "dict.__contains__"}" } ⟨[.ref d,x],[]⟩=pure ():=by kernel_rfl
theorem chk_dcont {d:Addr} {o:Obj} {x:Value} {Q:Unit→Shared→Prop} (ho:h.get? d=some o) (hc:o.cls=.type "dict") (hn:∀ c,o.data≠.cls c) (k:Q () ⟨h,gs,dr,tk,os⟩) :
  wpAny (model prog w) A (checkBoundCall "dict.__contains__" ⟨[.ref d,x],[]⟩) Q E ⟨h,gs,dr,tk,os⟩:=by
 unfold checkBoundCall
 rw [show Manifest.signature? "dict.__contains__" = some ((Manifest.signature? "dict.__contains__").get chk_dcont_sig) from(Option.some_get _).symm,show builtinKind "dict.__contains__" = some .method by kernel_rfl]
 dsimp only
 rw [if_neg (by decide)]
 refine wB (wB (wpAny_typeOf (T:="dict") ⟨o,ho,hc⟩ (wpAny_of_eq (a:=false) (by rw [isSubtype_type];kernel_rfl) ?_)))
 rw [if_neg (by decide +kernel)]
 refine wB (wB (wpAny_loadPart ho (wP ?_)))
 refine(?_:∀ t:Bool,t=false→wpAny (model prog w) A (if t=true then _ else _) _ _ _) _ (by cases hdt:o.data<;>first | rfl | exact absurd hdt (hn _))
 intro t ht
 rw [ht,if_neg (by decide)]
 refine wB (wpAny_typeOf (T:="dict") ⟨o,ho,hc⟩ ?_)
 exact wpAny_of_eq (chk_dcont_args d x) k
theorem chk_scont_sig:(Manifest.signature? "set.__contains__").isSome=true:=by kernel_rfl
theorem chk_scont_args(d:Addr)(x:Value):Bind.checkArgs "set.__contains__" { (Manifest.signature? "set.__contains__").get chk_scont_sig with full:=s!"{Bind.lastOf "set"}.{Bind.lastOf "set.__contains__"}" } ⟨[.ref d,x],[]⟩=pure ():=by kernel_rfl
theorem chk_scont {d:Addr} {o:Obj} {x:Value} {Q:Unit→Shared→Prop} (ho:h.get? d=some o) (hc:o.cls=.type "set") (hn:∀ c,o.data≠.cls c) (k:Q () ⟨h,gs,dr,tk,os⟩) :
  wpAny (model prog w) A (checkBoundCall "set.__contains__" ⟨[.ref d,x],[]⟩) Q E ⟨h,gs,dr,tk,os⟩:=by
 unfold checkBoundCall
 rw [show Manifest.signature? "set.__contains__" = some ((Manifest.signature? "set.__contains__").get chk_scont_sig) from(Option.some_get _).symm,show builtinKind "set.__contains__" = some .method by kernel_rfl]
 dsimp only
 rw [if_neg (by decide)]
 refine wB (wB (wpAny_typeOf (T:="set") ⟨o,ho,hc⟩ (wpAny_of_eq (a:=false) (by rw [isSubtype_type];kernel_rfl) ?_)))
 rw [if_neg (by decide +kernel)]
 refine wB (wB (wpAny_loadPart ho (wP ?_)))
 refine(?_:∀ t:Bool,t=false→wpAny (model prog w) A (if t=true then _ else _) _ _ _) _ (by cases hdt:o.data<;>first | rfl | exact absurd hdt (hn _))
 intro t ht
 rw [ht,if_neg (by decide)]
 refine wB (wpAny_typeOf (T:="set") ⟨o,ho,hc⟩ ?_)
 exact wpAny_of_eq (chk_scont_args d x) k
end
end
noncomputable abbrev DI(prog:Program)(w:World)(o:Obj)(kvs:List (Int×Value)):Prop:=o.IsDictOf (intKind prog w) kvs
section
variable{prog:Program}{w:World}{A:Around}{E:Value→Shared→Prop}{h g:Heap}{gs:Array GenState}{dr:Drawn}{tk:Nat}{os:OsState}{L a:Addr}{nm:List Str}{ls:List (Option Value)}{mu:List (Addr×Obj)}{q:Str}{sc:Scope}{cd:Value}{d:Addr}{o:Obj}{kvs:List (Int×Value)}{k:Int}{t:Tok}
theorem DI.of(x:DI prog w o kvs)(ho:h.get? d=some o):h.DictOf (intKind prog w) d kvs:=Heap.dictOf_iff.mpr ⟨o,ho,x⟩
theorem DI.cls(x:DI prog w o kvs):o.cls=.type "dict" :=let ⟨_,_,c,_⟩:=x;c.1
theorem DI.dict(x:DI prog w o kvs):o.dict=none:=let ⟨_,_,c,_⟩:=x;c.2.1
theorem DI.notCls(x:DI prog w o kvs)(c:ClassData):o.data≠.cls c:=by
 refine oEEAA x fun es ep _ e _=>?_
 rw [e];intro z;cases z
theorem St.same{h':Heap}{j:Nat}{d:Addr}{o o':Obj}(S:St g L h nm ls mu)(hj:mu[j]?=some (d,o))(hs:Heap.SameBut d h h')(ho:h'.get? d=some o'):St g L h' nm ls (mu.set j (d,o')):=by
 have M:Mod [d] (⟨h,#[],{},0,{}⟩:Shared) ⟨h',#[],{},0,{}⟩:=⟨fun b o e n=>(hs.2 b fun z=>n (by simp [z])).trans e,Nat.le_of_eq hs.1.symm,rfl,id,rfl⟩
 exact S.call1 (s:=⟨h,#[],{},0,{}⟩) (s':=⟨h',#[],{},0,{}⟩) M hj ho
theorem newD{pos:Pos}{env:Env}{Q:Value→Shared→Prop}(S:St g L h nm ls mu)(k:∀ h' o,DI prog w o []→St g L h' nm ls ((h.objs.size,o)::mu)→Q (.ref h.objs.size) ⟨h',gs,dr,tk,os⟩) :
  wpAny (model prog w) A (eval (.Dict [] [] pos) env) Q E ⟨h,gs,dr,tk,os⟩:=by
 rw [eval_Dict_empty]
 refine wB (wpAny_standAt ?_)
 exact wpAny_newObj_type (k _ { cls:=.type "dict",data:=.dict #[] } ⟨_,_,⟨rfl,rfl,rfl⟩,rfl,fun e he=>by simp at he,.nil,.nil⟩ (S.push _))
theorem setI{v:Value}{j:Nat}{Q:Unit→Shared→Prop}(S:St g L h nm ls mu)(hj:mu[j]?=some (d,o))(D:DI prog w o kvs)(hz:kvs.length≤10000)
  (q:∀ h' tk o',DI prog w o' (stored kvs k v)→St g L h' nm ls (mu.set j (d,o'))→Q () ⟨h',gs,dr,tk,os⟩):wpAny (model prog w) A (setItem (.ref d) (.int k t) v) Q E ⟨h,gs,dr,tk,os⟩:=by
 refine wpAny_setItem_pairs (s:=⟨h,gs,dr,tk,os⟩) (intKind_is prog w k t) (D.of (S.get hj)) (fun h' hd hs=>?_) (ntr hz (by decide))
 refine oEA (Heap.dictOf_iff.mp hd) fun o' ho' D'=>?_
 exact q h' _ o' D' (S.same hj hs ho')
theorem getI{v:Value}{Q:Value→Shared→Prop}(D:h.DictOf (intKind prog w) d kvs)(hv:valueAt kvs k=some v)(q:∀ tk,Q v ⟨h,gs,dr,tk,os⟩):wpAny (model prog w) A (getItem (.ref d) (.int k t)) Q E ⟨h,gs,dr,tk,os⟩ :=
 wpAny_getItem_of (s:=⟨h,gs,dr,tk,os⟩) (intKind_is prog w k t) D.mapOf hv (q _)
theorem callGet {x:Addr} {dflt:Value} {Q:Value→Shared→Prop} (hx:h.get? x=some (bmObj "dict.get" d)) (hd:(d == sysModules)=false) (D:h.DictOf (intKind prog w) d kvs)
  (q:∀ tk,Q ((valueAt kvs k).getD dflt) ⟨h,gs,dr,tk,os⟩):wpAny (model prog w) A (call (.ref x) [.int k t,dflt]) Q E ⟨h,gs,dr,tk,os⟩:=by
 refine oEA (Heap.dictOf_iff.mp D) fun o ho D'=>?_
 exact callBound hx (fun A Q k=>chk_get ho (DI.cls D') (DI.notCls D') k) (by decide +kernel) F.entry_dict_get (meets_dict_get_default (intKind prog w) d (intKind_is prog w k t) hd dflt) ⟨_,D.mapOf,q _⟩
end
theorem valueAt_stored{kvs:List (Int×Value)}{k j:Int}{v:Value}:valueAt (stored kvs k v) j=if j=k then some v else valueAt kvs j:=by
 unfold valueAt stored
 by_cases h:(kvs.any fun kv=>decide (kv.1=k))=true
 ·rw [if_pos h]
  induction kvs with
  | nil=>simp at h
  | cons p kvs ih =>
   obtain⟨a,b⟩:=p
   by_cases hk:a=k
   ·subst hk
    by_cases hj:j=a
    ·subst hj;simp
    ·have hj':¬ a=j:=fun e=>hj e.symm
     simp only [List.map_cons,if_true,List.find?_cons,if_neg hj]
     simp only [hj',decide_false]
     congr 1
     have:∀ l:List (Int×Value),(l.map fun kv=>if kv.1=a then (kv.1,v) else kv).find? (fun kv=>decide (kv.1=j))=l.find? (fun kv=>decide (kv.1=j)):=by
      intro l
      induction l with
      | nil=>rfl
      | cons q l ih2 =>
       rw [List.map_cons,List.find?_cons,List.find?_cons,ih2]
       by_cases hq:q.1=a
       ·simp [hq,hj']
       ·simp [hq]
     exact this kvs
   ·have h':(kvs.any fun kv=>decide (kv.1=k))=true:=by simpa [hk] using h
    have:=ih h'
    simp only [List.map_cons,if_neg hk,List.find?_cons]
    by_cases hj:a=j
    ·subst hj;simp [hk]
    ·simp only [hj,decide_false];exact this
 ·rw [if_neg h]
  have hn:∀ x∈kvs,¬ x.1=k:=fun x hx e=>h (List.any_eq_true.mpr ⟨x,hx,by simpa using e⟩)
  rw [List.find?_append]
  by_cases hj:j=k
  ·subst hj
   have:kvs.find? (fun kv=>decide (kv.1=j))=none:=by
    rw [List.find?_eq_none];intro x hx;simpa using hn x hx
   rw [this];simp
  ·rw [if_neg hj]
   cases kvs.find? (fun kv=>decide (kv.1=j)) with
   | some x=>rfl
   | none=>simp [List.find?_cons,Ne.symm hj]
noncomputable abbrev lob(items:List Value)(n:Nat):Obj:=⟨.type "list",none,.seq items.toArray n,#[]⟩
section
variable{prog:Program}{w:World}{A:Around}{E:Value→Shared→Prop}{h g:Heap}{gs:Array GenState}{dr:Drawn}{tk:Nat}{os:OsState}{L a:Addr}{nm:List Str}{ls:List (Option Value)}{mu:List (Addr×Obj)}{q:Str}{sc:Scope}{cd:Value}{d l:Addr}{o:Obj}{kvs:List (Int×Value)}{k:Int}{t:Tok}{items:List Value}{n:Nat}
theorem lob_list(e:h.get? l=some (lob items n)):h.IsList l items.toArray:=⟨_,e,rfl,n,rfl⟩
theorem mD {name:Str} {id:String} {pl:Sem Bool} {Q:Value×List Value→Shared→Prop} (slot:Slot "dict" name id) (hty:typeOf (.builtin id)=pure (.type "method_descriptor")) (D:h.DictOf (intKind prog w) d kvs)
  (q:Q (.builtin id,[.ref d]) ⟨h,gs,dr,tk,os⟩):wpAny (model prog w) A (getMethod (.ref d) name pl) Q E ⟨h,gs,dr,tk,os⟩ :=
 getMethod_builtin (s:=⟨h,gs,dr,tk,os⟩) D.typeIs PySem.F.plainAttrs_dict slot hty D.mapOf.noDict q
theorem mL {name:Str} {id:String} {pl:Sem Bool} {Q:Value×List Value→Shared→Prop} (slot:Slot "list" name id) (hty:typeOf (.builtin id)=pure (.type "method_descriptor")) (D:h.get? l=some (lob items n))
  (q:Q (.builtin id,[.ref l]) ⟨h,gs,dr,tk,os⟩):wpAny (model prog w) A (getMethod (.ref l) name pl) Q E ⟨h,gs,dr,tk,os⟩ :=
 getMethod_builtin (s:=⟨h,gs,dr,tk,os⟩) ⟨_,D,rfl⟩ PySem.F.plainAttrs_list slot hty (fun a e=>by cases e;exact⟨_,D,rfl⟩) q
theorem setDefault{v:Value}{j:Nat}{Q:Value→Shared→Prop}(S:St g L h nm ls mu)(hj:mu[j]?=some (d,o))(D:DI prog w o kvs)(hd:(d == sysModules)=false)(hz:kvs.length≤10000)
  (q1:∀ u tk,valueAt kvs k=some u→Q u ⟨h,gs,dr,tk,os⟩)
  (q2:∀ h' tk o',valueAt kvs k=none→DI prog w o' (stored kvs k v)→St g L h' nm ls (mu.set j (d,o'))→Q v ⟨h',gs,dr,tk,os⟩) :
  wpAny (model prog w) A (call (.builtin "dict.setdefault") [.ref d,.int k t,v]) Q E ⟨h,gs,dr,tk,os⟩:=by
 have hD:=D.of (S.get hj)
 refine call_meetsIn (s:=⟨h,gs,dr,tk,os⟩) PySem.F.slot_dict_setdefault hD.typeIs PySem.F.entry_dict_setdefault (PySem.F.args_dict_setdefault_3 _ _ _) (kt_meets_setdefault (intKind prog w) d (intKind_is prog w k t) hd v)
  ⟨kvs,hD,ntr hz (by decide),(fun u hu=>q1 u _ hu),fun hn h' hmm hs=>?_⟩
 refine oEA (Heap.dictOf_iff.mp hmm) fun o' ho' D'=>?_
 exact q2 h' _ o' hn D' (S.same hj hs ho')
theorem dGet{dflt:Value}{Q:Value→Shared→Prop}(D:h.DictOf (intKind prog w) d kvs)(hd:(d == sysModules)=false)
  (q:∀ tk,Q ((valueAt kvs k).getD dflt) ⟨h,gs,dr,tk,os⟩):wpAny (model prog w) A (call (.builtin "dict.get") [.ref d,.int k t,dflt]) Q E ⟨h,gs,dr,tk,os⟩ :=
 call_meetsIn (s:=⟨h,gs,dr,tk,os⟩) PySem.F.slot_dict_get D.typeIs PySem.F.entry_dict_get (PySem.F.args_dict_get_3 _ _ _) (meets_dict_get_default (intKind prog w) d (intKind_is prog w k t) hd dflt) ⟨_,D.mapOf,q _⟩
theorem append_{v:Value}{j:Nat}{Q:Value→Shared→Prop}(S:St g L h nm ls mu)(hj:mu[j]?=some (l,lob items n))(hz:items.length≤10000)
  (q:∀ h',St g L h' nm ls (mu.set j (l,lob (items++[v]) (n+1)))→Q .none ⟨h',gs,dr,tk,os⟩):wpAny (model prog w) A (call (.builtin "list.append") [.ref l,v]) Q E ⟨h,gs,dr,tk,os⟩:=by
 refine append_at (s:=⟨h,gs,dr,tk,os⟩) (S.get hj) (fun h' hs ho'=>q h' (S.same hj hs ?_)) (by rw [List.size_toArray];exact ntr hz (by decide))
 rw [ho'];simp
theorem pop_{v:Value}{j:Nat}{Q:Value→Shared→Prop}(S:St g L h nm ls mu)(hj:mu[j]?=some (l,lob (items++[v]) n))(hz:items.length≤10000)
  (q:∀ h',St g L h' nm ls (mu.set j (l,lob items (n+1)))→Q v ⟨h',gs,dr,tk,os⟩):wpAny (model prog w) A (call (.builtin "list.pop") [.ref l]) Q E ⟨h,gs,dr,tk,os⟩:=by
 refine Copied.pop_at (s:=⟨h,gs,dr,tk,os⟩) (S.get hj) (by simp) (fun h' hs ho'=>q h' (S.same hj hs ?_)) (by rw [List.size_toArray];simp;exact ntr (Nat.succ_le_succ hz) (by decide))
 rw [ho'];simp
noncomputable abbrev sob(led:Bool):Obj:={ cls:=.type "set",dict:=none,data:=.set #[] 0 (.fresh 0 0 led) }
theorem newS{Q:Value→Shared→Prop}(S:St g L h nm ls mu)(q:∀ led h',St g L h' nm ls ((h.objs.size,sob led)::mu)→Q (.ref h.objs.size) ⟨h',gs,dr,tk,os⟩) :
  wpAny (model prog w) A (call (.type "set") []) Q E ⟨h,gs,dr,tk,os⟩ :=
 call_set_0 (s:=⟨h,gs,dr,tk,os⟩) fun led=>q led _ (S.push _)
end
noncomputable def idxs(k:Int):List Int→Int→List Int
 | [],_=>[]
 | y::ys,n=>if y=k then n::idxs k ys (n+1) else idxs k ys (n+1)
theorem idxs_n{k n:Int}:idxs k [] n=[]:=rfl
theorem idxs_c{k y n:Int}{ys:List Int}:idxs k (y::ys) n=if y=k then n::idxs k ys (n+1) else idxs k ys (n+1):=rfl
structure Blk(a b:List Int)(alo ahi blo bhi i j k:Nat):Prop where
 i0:alo≤i
 i1:i+k≤ahi
 j0:blo≤j
 j1:j+k≤bhi
 eq:∀ t,t < k→a[i+t]?=b[j+t]?∧(a[i+t]?).isSome
structure Best(a b:List Int)(alo ahi blo bhi i j k:Nat):Prop where
 blk:Blk a b alo ahi blo bhi i j k
 zero:k=0→i=alo∧j=blo
 most:∀ i' j' k',Blk a b alo ahi blo bhi i' j' k'→0 < k'→k'≤k∧(k'=k→i < i'∨(i=i'∧j≤j'))
inductive GM(a b:List Int):Nat→Nat→Nat→Nat→Nat→Prop
 | none {alo ahi blo bhi:Nat}:(∀ i j,¬ Blk a b alo ahi blo bhi i j 1)→GM a b alo ahi blo bhi 0
 | step {alo ahi blo bhi i j k m1 m2:Nat}:Best a b alo ahi blo bhi i j k→0 < k→GM a b alo i blo j m1→GM a b (i+k) ahi (j+k) bhi m2→GM a b alo ahi blo bhi (k+m1+m2)
noncomputable def cnt(k:Int)(ys:List Int):Int:=(ys.count k:Nat)
noncomputable def qm:List Int→(Int→Int)→Nat
 | [],_=>0
 | x::xs,f=>(if 0 < f x then 1 else 0)+qm xs fun y=>if y=x then f x - 1 else f y
theorem qm_n{f:Int→Int}:qm [] f=0:=rfl
theorem qm_c{x:Int}{xs:List Int}{f:Int→Int}:qm (x::xs) f=(if 0 < f x then 1 else 0)+qm xs fun y=>if y=x then f x - 1 else f y:=rfl
section
variable{prog:Program}{w:World}{A:Around}{E:Value→Shared→Prop}{h g:Heap}{gs:Array GenState}{dr:Drawn}{tk:Nat}{os:OsState}{L a:Addr}{nm:List Str}{ls:List (Option Value)}{mu:List (Addr×Obj)}{q:Str}{sc:Scope}{cd:Value}{d l:Addr}{o:Obj}{kvs:List (Int×Value)}{k:Int}{t:Tok}{items:List Value}{n:Nat}
theorem cBd{s:Shared}{pos:Pos}{u:Addr}{id:String}{x:Addr}{env:Env}{e:Expr}{rest:List Expr}{Q:Value→Shared→Prop}
  (k:wpAny (model prog w) A (spliced (backTo pos (starEach (e::rest) env))) (fun vs s₁=>s₁.heap.get? u=some (bmObj id x)∧wpAny (model prog w) A (call (.ref u) vs) Q E s₁) E s)
  (he:starEach (e::rest) env=(false,eval e env)::starEach rest env:=by rfl) (hplain:(backTo pos (starEach rest env)).any (·.1)=false:=by rfl) :
  wpAny (model prog w) A (callWith pos (.ref u) [] (backTo pos (starEach (e::rest) env)) []) Q E s:=by
 rw [he] at k ⊢
 refine callWith_of (P:=fun h=>h.get? u=some (bmObj id x)) (by show((false || (backTo pos (starEach rest env)).any (·.1)) || false)=false;rw [hplain];rfl) (fun h hp=>⟨.machine,.inr (.inl rfl),?_⟩) (evalArgs_plain k)
 refine(Looks.ld (part:=none) hp).andThen ?_
 exact Looks.now
theorem contB{Q:Value→Shared→Prop}(S:St g L h nm ls mu)(D:h.DictOf (intKind prog w) d kvs)
  (q:∀ h' tk,St g L h' nm ls ((h.objs.size,bmObj "dict.__contains__" d)::mu)→Q (.ref h.objs.size) ⟨h',gs,dr,tk,os⟩) :
  wpAny (model prog w) A (getAttr (.ref d) (ofString "__contains__") true) Q E ⟨h,gs,dr,tk,os⟩:=by
 refine oEA (Heap.dictOf_iff.mp D) fun o ho D'=>?_
 exact getBM bm_dcont ho (DI.cls D') (DI.dict D') (DI.notCls D') (bind_dcont ho (DI.cls D') ⟨rfl,q _ _ (S.push _)⟩)
theorem callDCont {x:Addr} {Q:Value→Shared→Prop} (hx:h.get? x=some (bmObj "dict.__contains__" d)) (hd:(d == sysModules)=false) (D:h.DictOf (intKind prog w) d kvs)
  (q:∀ tk,Q (.bool (valueAt kvs k).isSome) ⟨h,gs,dr,tk,os⟩):wpAny (model prog w) A (call (.ref x) [.int k t]) Q E ⟨h,gs,dr,tk,os⟩:=by
 refine oEA (Heap.dictOf_iff.mp D) fun o ho D'=>?_
 exact callBound hx (fun A Q k=>chk_dcont ho (DI.cls D') (DI.notCls D') k) (by decide +kernel) F.entry_dict_contains (meets_dict_contains (intKind prog w) d (intKind_is prog w k t) hd) ⟨_,D.mapOf,q _⟩
theorem scontB{led:Bool}{Q:Value→Shared→Prop}(S:St g L h nm ls mu)(D:h.get? d=some (sob led))
  (q:∀ h' tk,St g L h' nm ls ((h.objs.size,bmObj "set.__contains__" d)::mu)→Q (.ref h.objs.size) ⟨h',gs,dr,tk,os⟩) :
  wpAny (model prog w) A (getAttr (.ref d) (ofString "__contains__") true) Q E ⟨h,gs,dr,tk,os⟩ :=
 getBM bm_scont D rfl rfl (fun c e=>nomatch e) (bind_scont D rfl ⟨rfl,q _ _ (S.push _)⟩)
theorem meets_scont(led:Bool):MeetsIn prog w (Builtin.«frozenset.__contains__» ⟨[.ref d,.int k t],[]⟩) (fun _ R s=>s.heap.get? d=some (sob led)∧R (.ok (.ret (.bool false))) { s with toks:=s.toks+1 }) :=
 .of_wp fun A R s ⟨ho,hr⟩=>by
  have hS:s.heap.SetOf (intKind prog w) d (fun _=>false) 0:=(setObjOf_fresh (knd:=intKind prog w) led).setOf ho (by unfold scanBound;omega)
  unfold Builtin.«frozenset.__contains__» Builtin.Frozenset.oneOther
  simp only [List.isEmpty_nil,bind_assoc]
  unfold Builtin.Frozenset.addrOf Builtin.Frozenset.withSetAsKey setContains
  refine wB (wP ?_)
  try dsimp only
  refine wB (wP ?_)
  try dsimp only
  refine wB (wpAny_tryCatch ?_)
  refine wpAny_holding ?_
  refine wB ((intKind prog w).pyHash (intKind_is prog w k t) ?_)
  refine wB (wpAny_setFind_of (s:={ s with toks:=s.toks+1 }) (intKind_is prog w k t) rfl hS fun r hr'=>?_)
  refine wP ?_
  show wpAny _ _ (ret (Value.bool r.isSome)) _ _ _
  rw [hr']
  exact wP ⟨_,rfl,hr⟩
theorem callSCont {x:Addr} {led:Bool} {Q:Value→Shared→Prop} (hx:h.get? x=some (bmObj "set.__contains__" d)) (D:h.get? d=some (sob led))
  (q:∀ tk,Q (.bool false) ⟨h,gs,dr,tk,os⟩):wpAny (model prog w) A (call (.ref x) [.int k t]) Q E ⟨h,gs,dr,tk,os⟩ :=
 callBound hx (fun A Q k=>chk_scont D rfl (fun c e=>nomatch e) k) (by decide +kernel) entry_set_contains (meets_scont led) ⟨D,q _⟩
theorem itemD{value slice:Expr}{v:Value}{Q:Value→Shared→Prop}(D:h.DictOf (intKind prog w) d kvs)(hv:valueAt kvs k=some v)(q:∀ tk,Q v ⟨h,gs,dr,tk,os⟩)
  (hs:subscripted slice false (.ref d) (.int k t)=operate [.ref d,.int k t] (getItem (.ref d) (.int k t)):=by with_unfolding_all rfl):wpAny (model prog w) A (subscriptTail value slice (.ref d) (.int k t)) Q E ⟨h,gs,dr,tk,os⟩ :=
 tail_any (s:=⟨h,gs,dr,tk,os⟩) D.typeIs PySem.F.slot_dict_getitem.lookup (getI D hv q) hs
theorem itemL{value slice:Expr}{v:Value}{Q:Value→Shared→Prop}(hl:h.IsList l items.toArray)(h0:0≤k)(hhi:k < 2 ^ 63)(hv:items[k.toNat]?=some v)(q:Q v ⟨h,gs,dr,tk,os⟩)
  (hs:subscripted slice false (.ref l) (.int k t)=operate [.ref l,.int k t] (getItem (.ref l) (.int k t)):=by with_unfolding_all rfl):wpAny (model prog w) A (subscriptTail value slice (.ref l) (.int k t)) Q E ⟨h,gs,dr,tk,os⟩ :=
 tail_any (s:=⟨h,gs,dr,tk,os⟩) hl.typeIs slot_list_getitem.lookup (wpAny_getItem_list hl h0 hhi (by simpa using hv) q) hs
end
section
variable{a b:List Int}{alo ahi blo bhi i j k:Nat}
noncomputable def suf(a b:List Int)(alo blo:Nat):Nat→Nat→Nat
 | i+1,j+1=>if alo≤i∧blo≤j∧a[i]?=b[j]?∧(a[i]?).isSome=true then suf a b alo blo i j+1 else 0
 | _,_=>0
theorem suf_s{a b:List Int}{alo blo i j:Nat}:suf a b alo blo (i+1) (j+1)=if alo≤i∧blo≤j∧a[i]?=b[j]?∧(a[i]?).isSome=true then suf a b alo blo i j+1 else 0:=rfl
theorem suf_zero_r:suf a b alo blo i 0=0:=by cases i<;>rfl
theorem suf_zero_l:suf a b alo blo 0 j=0:=by cases j<;>rfl
theorem suf_le:∀ (i j:Nat),suf a b alo blo i j≤i - alo∧suf a b alo blo i j≤j - blo
 | 0,j=>by rw [suf_zero_l];exact⟨Nat.zero_le _,Nat.zero_le _⟩
 | i+1,0=>by rw [suf_zero_r];exact⟨Nat.zero_le _,Nat.zero_le _⟩
 | i+1,j+1=>by
  have ih:=suf_le i j
  simp only [suf_s]
  split
  ·rename_i h
   exact⟨Nat.le_sub_of_add_le (by have:=Nat.add_le_of_le_sub h.1 ih.1;lia),Nat.le_sub_of_add_le (by have:=Nat.add_le_of_le_sub h.2.1 ih.2;lia)⟩
  ·exact⟨Nat.zero_le _,Nat.zero_le _⟩
theorem suf_at:∀ (i j:Nat),alo≤i→blo≤j→∃ p q,i=p+suf a b alo blo i j∧j=q+suf a b alo blo i j∧alo≤p∧blo≤q∧∀ t,t < suf a b alo blo i j→a[p+t]?=b[q+t]?∧(a[p+t]?).isSome=true
 | 0,j,h1,h2=>by rw [suf_zero_l];exact⟨0,j,rfl,rfl,h1,h2,fun t ht=>absurd ht (Nat.not_lt_zero t)⟩
 | i+1,0,h1,h2=>by rw [suf_zero_r];exact⟨i+1,0,rfl,rfl,h1,h2,fun t ht=>absurd ht (Nat.not_lt_zero t)⟩
 | i+1,j+1,h1,h2=>by
  simp only [suf_s]
  split
  ·rename_i h
   refine oEEAAAA (suf_at i j h.1 h.2.1) fun p q e1 e2 h3 h4 ih=>?_
   refine⟨p,q,congrArg (·+1) e1,congrArg (·+1) e2,h3,h4,fun t ht=>?_⟩
   rcases Nat.lt_succ_iff_lt_or_eq.mp ht with e | e
   ·exact ih t e
   ·rw [e,← e1,← e2];exact h.2.2
  ·exact⟨i+1,j+1,rfl,rfl,h1,h2,fun t ht=>absurd ht (Nat.not_lt_zero t)⟩
theorem suf_blk(h1:alo≤i)(h2:blo≤j)(h3:i≤ahi)(h4:j≤bhi):Blk a b alo ahi blo bhi (i - suf a b alo blo i j) (j - suf a b alo blo i j) (suf a b alo blo i j):=by
 refine oEEAAAA (suf_at (a:=a) (b:=b) i j h1 h2) fun p q e1 e2 h5 h6 h7=>?_
 rw [Nat.sub_eq_of_eq_add e1,Nat.sub_eq_of_eq_add e2]
 exact⟨h5,by rw [← e1];exact h3,h6,by rw [← e2];exact h4,h7⟩
theorem blk_suf:∀ (k:Nat),Blk a b alo ahi blo bhi i j k→k≤suf a b alo blo (i+k) (j+k)
 | 0,_=>Nat.zero_le _
 | k+1,h=>by
  have ih:=blk_suf k ⟨h.i0,by have:=h.i1;exact Nat.le_of_lt this,h.j0,by have:=h.j1;exact Nat.le_of_lt this,fun t ht=>h.eq t (Nat.lt_trans ht Nat.le.refl)⟩
  have e:=h.eq k (by(clear ih;lia))
  have h1:=h.i0
  have h2:=h.j0
  show k+1≤suf a b alo blo (i+k+1) (j+k+1)
  simp only [suf_s]
  rw [if_pos ⟨by exact ntr ‹_› (by lia),by(clear h1 e ih;exact ntr ‹_› (by lia)),e.1,e.2⟩]
  exact Nat.lt_of_le_of_lt ih Nat.le.refl
structure BC(a b:List Int)(alo blo bhi i:Nat)(js:List Int)(bi bj bk:Nat):Prop where
 zero:bk=0→bi=alo∧bj=blo
 blk:Blk a b alo (i+1) blo bhi bi bj bk
 cand:0 < bk→bi+bk≤i∨((bj+bk:Nat):Int) - 1∈js
 most:∀ i' j' k',Blk a b alo (i+1) blo bhi i' j' k'→0 < k'→(i'+k'≤i∨((j'+k':Nat):Int) - 1∈js)→k'≤bk∧(k'=bk→bi < i'∨(bi=i'∧bj≤j'))
variable{bi bj bk:Nat}{js:List Int}
theorem Blk.wide{ahi':Nat}(h:Blk a b alo ahi blo bhi i j k)(e:ahi≤ahi'):Blk a b alo ahi' blo bhi i j k:=⟨h.i0,ntr h.i1 e,h.j0,h.j1,h.eq⟩
theorem BC.start(h:Best a b alo i blo bhi bi bj bk):BC a b alo blo bhi i [] bi bj bk where
 zero:=h.zero
 blk:=h.blk.wide (Nat.le_succ _)
 cand:=fun _=>.inl h.blk.i1
 most:=fun i' j' k' hb hk hc=>h.most i' j' k' ⟨hb.i0,hc.elim id (fun m=>by simp at m),hb.j0,hb.j1,hb.eq⟩ hk
theorem BC.skip(h:BC a b alo blo bhi i js bi bj bk)(hj:j < blo):BC a b alo blo bhi i (js++[(j:Int)]) bi bj bk where
 zero:=h.zero
 blk:=h.blk
 cand:=fun hk=>(h.cand hk).imp id fun m=>mF _ m
 most:=fun i' j' k' hb hk hc=>h.most i' j' k' hb hk (hc.imp id fun m=>by
  rcases List.mem_append.mp m with m | m
  ·exact m
  ·have:=mS m
   have:=hb.j0
   lia)
theorem BC.new(h:BC a b alo blo bhi i js bi bj bk)(hi:alo≤i)(hj:blo≤j)(hj':j < bhi)(hk:bk < suf a b alo blo (i+1) (j+1)) :
  BC a b alo blo bhi i (js++[(j:Int)]) (i+1 - suf a b alo blo (i+1) (j+1)) (j+1 - suf a b alo blo (i+1) (j+1)) (suf a b alo blo (i+1) (j+1)):=by
 have hl:=suf_le (a:=a) (b:=b) (alo:=alo) (blo:=blo) (i+1) (j+1)
 refine⟨fun e=>by(clear hl hj' hj hi;lia),suf_blk (by lia) (by(clear hl hk hj' hi;lia)) (Nat.le_refl _) (by(clear hl hk hj hi;lia)),fun _=>.inr (mR _ (List.mem_singleton.mpr (by(clear hk hj';(rw [Nat.sub_add_cancel (by lia)];lia))))),fun i' j' k' hb hk' hc=>?_⟩
 have old:(i'+k'≤i∨((j'+k':Nat):Int) - 1∈js)→k'≤suf a b alo blo (i+1) (j+1)∧(k'=suf a b alo blo (i+1) (j+1)→i+1 - suf a b alo blo (i+1) (j+1) < i'∨(i+1 - suf a b alo blo (i+1) (j+1)=i'∧j+1 - suf a b alo blo (i+1) (j+1)≤j')):=fun hc=>by
  have:=(h.most i' j' k' hb hk' hc).1
  exact⟨by(clear hc hk' hl hj' hj hi;lia),fun e=>by(clear hc hk' hl hj' hj hi;lia)⟩
 rcases hc with hc | hc
 ·exact old (.inl hc)
 ·rcases List.mem_append.mp hc with m | m
  ·exact old (.inr m)
  ·have e:=mS m
   have ej:j'+k'=j+1:=by(clear hk' hl hk hj' hj hi;lia)
   by_cases hie:i'+k'≤i
   ·exact old (.inl hie)
   ·have ei:i'+k'=i+1:=by have:=hb.i1;(clear ej e hk' hl hk hj' hj hi;lia)
    have hs:=blk_suf k' hb
    rw [ei,ej] at hs
    exact⟨hs,fun e=>.inr ⟨by(clear hs hie ej hk' hl hk hj' hj hi;exact Nat.sub_eq_of_eq_add (by lia)),by(clear hs ei hie ej hk' hl hk hj' hj hi;exact Nat.sub_le_iff_le_add.mpr (by lia))⟩⟩
theorem BC.same(h:BC a b alo blo bhi i js bi bj bk)(hlt:∀ x∈js,x < (j:Int))(hk:suf a b alo blo (i+1) (j+1)≤bk):BC a b alo blo bhi i (js++[(j:Int)]) bi bj bk:=by
 refine⟨h.zero,h.blk,fun hk=>(h.cand hk).imp id fun m=>mF _ m,fun i' j' k' hb hk' hc=>?_⟩
 rcases hc with hc | hc
 ·exact h.most i' j' k' hb hk' (.inl hc)
 ·rcases List.mem_append.mp hc with m | m
  ·exact h.most i' j' k' hb hk' (.inr m)
  ·have e:=mS m
   have ej:j'+k'=j+1:=by(clear hk' hk;lia)
   by_cases hie:i'+k'≤i
   ·exact h.most i' j' k' hb hk' (.inl hie)
   ·have ei:i'+k'=i+1:=by have:=hb.i1;(clear ej hk' hk;lia)
    have hs:=blk_suf k' hb
    rw [ei,ej] at hs
    refine⟨by(clear hie ej hk';exact ntr hs hk),fun e=>?_⟩
    rcases h.cand (by(clear hs hie ej hk;lia)) with hc | hc
    ·exact .inl (by(clear hs hie ej hk' hk;lia))
    ·have h1:=hlt _ hc
     have:=h.blk.i1
     by_cases hb1:bi+bk≤i
     ·exact .inl (by(clear h1 hs hie ej hk' hk;omega))
     ·exact .inr ⟨by(clear h1 hs hie ej hk' hk;lia),by(clear hs hie ej hk' hk;lia)⟩
theorem BC.end(h:BC a b alo blo bhi i js bi bj bk)(hall:∀ t:Nat,t < bhi→b[t]?=a[i]?→(t:Int)∈js):Best a b alo (i+1) blo bhi bi bj bk where
 blk:=h.blk
 zero:=h.zero
 most:=fun i' j' k' hb hk=>h.most i' j' k' hb hk (by
  by_cases hie:i'+k'≤i
  ·exact .inl hie
  ·right
   have ei:i'+k'=i+1:=by have:=hb.i1;lia
   have e:=hb.eq (k' - 1) (Nat.sub_lt_right_of_lt_add (by lia) (by lia))
   have e1:i'+(k' - 1)=i:=by lia
   rw [e1] at e
   have:=hall (j'+(k' - 1)) (by have:=hb.j1;lia) e.1.symm
   have e2:((j'+k':Nat):Int) - 1=((j'+(k' - 1):Nat):Int):=by lia
   rw [e2];exact this)
theorem Best.start(h:blo≤bhi):Best a b alo alo blo bhi alo blo 0 where
 blk:=⟨Nat.le_refl _,Nat.le_refl _,Nat.le_refl _,h,fun t ht=>by(clear h;lia)⟩
 zero:=fun _=>⟨rfl,rfl⟩
 most:=fun i' j' k' hb hk=>by have:=hb.i0;have:=hb.i1;(clear h;lia)
noncomputable def Fi(a b:List Int)(alo blo bhi i:Nat)(k:Int):Int:=if k < bhi then (suf a b alo blo i (k+1).toNat:Nat) else 0
noncomputable def Fj(a b:List Int)(alo blo bhi i:Nat)(js:List Int)(k:Int):Int:=if k∈js∧k < bhi then (suf a b alo blo (i+1) (k+1).toNat:Nat) else 0
theorem Fj_nil:Fj a b alo blo bhi i []=fun _=>0:=by funext k;simp [Fj]
theorem Fi_zero:Fi a b alo blo bhi alo=fun _=>0:=by
 funext k
 unfold Fi
 have:=suf_le (a:=a) (b:=b) (alo:=alo) (blo:=blo) alo (k+1).toNat
 split<;>lia
theorem Fj_skip(hj:j < blo):Fj a b alo blo bhi i (js++[(j:Int)])=Fj a b alo blo bhi i js:=by
 funext k
 unfold Fj
 by_cases e:k=j
 ·subst e
  have:=suf_le (a:=a) (b:=b) (alo:=alo) (blo:=blo) (i+1) ((j:Int)+1).toNat
  have h0:suf a b alo blo (i+1) ((j:Int)+1).toNat=0:=Nat.eq_zero_of_le_zero (ntr this.2 (Nat.le_of_eq (Nat.sub_eq_zero_of_le hj)))
  rw [h0];simp
 ·simp [e]
theorem Fj_put(hj:j < bhi):Fj a b alo blo bhi i (js++[(j:Int)])=fun k=>if k=(j:Int) then ((suf a b alo blo (i+1) (j+1):Nat):Int) else Fj a b alo blo bhi i js k:=by
 funext k
 unfold Fj
 by_cases e:k=j
 ·subst e
  have e2:((j:Int)+1).toNat=j+1:=by rfl
  simp [hj,e2]
 ·simp [e]
theorem Fj_end(hall:∀ t:Nat,t < bhi→b[t]?=a[i]?→(t:Int)∈js):Fj a b alo blo bhi i js=Fi a b alo blo bhi (i+1):=by
 funext k
 unfold Fj Fi
 by_cases hk:k < bhi
 ·by_cases hm:k∈js
  ·simp [hk,hm]
  ·simp only [hm,hk,false_and,if_false,if_true]
   by_cases h0:k < 0
   ·have:(k+1).toNat=0:=by(clear hm hk;lia)
    rw [this,suf_zero_r];rfl
   ·have e:(k+1).toNat=k.toNat+1:=by(clear hm hk;lia)
    rw [e]
    simp only [suf_s]
    rw [if_neg]
    ·rfl
    ·rintro ⟨_,_,h3,_⟩
     have:=hall k.toNat (by lia) h3.symm
     have e2:((k.toNat:Nat):Int)=k:=by(clear h3 e hm hk;lia)
     rw [e2] at this
     exact hm this
 ·simp [hk]
theorem suf_next(hi:alo≤i)(hj:blo≤j)(e:b[j]?=a[i]?)(hs:(a[i]?).isSome=true):suf a b alo blo (i+1) (j+1)=suf a b alo blo i j+1:=by
 simp only [suf_s]
 rw [if_pos ⟨hi,hj,e.symm,hs⟩]
theorem Fi_prev(hj:j≤bhi):Fi a b alo blo bhi i ((j:Int) - 1)=(suf a b alo blo i j:Nat):=by
 unfold Fi
 rw [if_pos (by lia)]
 have:((j:Int) - 1+1).toNat=j:=by simp
 rw [this]
theorem mem_idxs{v:Int}:∀ {ys:List Int} {n k:Int},k∈idxs v ys n↔∃ t:Nat,k=n+t∧ys[t]?=some v
 | [],n,k=>by simp [idxs_n,idxs_c]
 | y::ys,n,k=>by
  have ih:=mem_idxs (v:=v) (ys:=ys) (n:=n+1) (k:=k)
  have shift:(∃ t:Nat,k=n+1+t∧ys[t]?=some v)↔∃ t:Nat,k=n+(t+1:Nat)∧(y::ys)[t+1]?=some v:=by
   constructor
   ·rintro ⟨t,rfl,h⟩;exact⟨t,by lia,by simpa using h⟩
   ·rintro ⟨t,rfl,h⟩;exact⟨t,by lia,by simpa using h⟩
  have split:(∃ t:Nat,k=n+t∧(y::ys)[t]?=some v)↔(k=n∧y=v)∨∃ t:Nat,k=n+(t+1:Nat)∧(y::ys)[t+1]?=some v:=by
   constructor
   ·rintro ⟨t,rfl,h⟩
    cases t with
    | zero=>left;simpa using h
    | succ t=>exact .inr ⟨t,rfl,h⟩
   ·rintro (⟨rfl,rfl⟩ | ⟨t,rfl,h⟩)
    ·exact⟨0,by simp,by simp⟩
    ·exact⟨t+1,rfl,h⟩
  rw [split,← shift,← ih]
  simp only [idxs_n,idxs_c]
  by_cases e:y=v<;>simp [e]
theorem idxs_sorted(v:Int):∀ (ys:List Int) (n:Int),(idxs v ys n).Pairwise (· < ·)
 | [],n=>.nil
 | y::ys,n=>by
  have ih:=idxs_sorted v ys (n+1)
  simp only [idxs_n,idxs_c]
  split
  ·refine .cons (fun k hk=>?_) ih
   refine oEA (mem_idxs.mp hk) ?_;rintro t rfl _
   lia
  ·exact ih
theorem take_lt{l:List Int}(h:l.Pairwise (· < ·)){c:Nat}{x:Int}(hx:l[c]?=some x):∀ y∈l.take c,y < x:=by
 intro y hy
 obtain⟨i,hi,rfl⟩:=List.getElem_of_mem hy
 rw [List.getElem_take]
 obtain⟨hc,rfl⟩:=List.getElem?_eq_some_iff.mp hx
 rw [List.length_take] at hi
 exact List.pairwise_iff_getElem.mp h _ _ _ _ (Nat.lt_of_lt_of_le ‹_› (ntr (Nat.min_le_left _ _) (by lia)))
theorem notake{l:List Int}(h:l.Pairwise (· < ·)){c:Nat}{x:Int}(hx:l[c]?=some x){y:Int}(hy:y∈l)(hlt:y < x):y∈l.take c:=by
 obtain⟨i,hi,rfl⟩:=List.getElem_of_mem hy
 obtain⟨hc,rfl⟩:=List.getElem?_eq_some_iff.mp hx
 have:i < c:=by
  rcases Nat.lt_or_ge i c with h' | h'
  ·exact h'
  ·rcases Nat.lt_or_eq_of_le h' with h' | h'
   ·have:=List.pairwise_iff_getElem.mp h _ _ hc hi h'
    lia
   ·subst h';lia
 exact List.mem_iff_getElem.mpr ⟨i,by rw [List.length_take];(clear hlt hx;exact Nat.lt_of_lt_of_le ‹_› (by lia)),by rw [List.getElem_take]⟩
theorem Best.left(h:Best a b alo ahi blo bhi bi bj bk)(h1:alo < bi)(h2:blo < bj):¬ (a[bi - 1]?=b[bj - 1]?∧(a[bi - 1]?).isSome=true):=by
 intro e
 have hb:=h.blk
 by_cases hk:bk=0
 ·have:=h.zero hk;lia
 have:=(h.most (bi - 1) (bj - 1) (bk+1) ⟨by(clear hk e h2;exact Nat.le_sub_of_add_le (by lia)),by have:=hb.i1;(clear hk e h2;lia),by(clear hk e h1;exact Nat.le_sub_of_add_le (by lia)),by have:=hb.j1;(clear hk e h1;lia),fun t ht=>by
  cases t with
  | zero=>simpa using e
  | succ t =>
   have:=hb.eq t (by(clear hk e h2 h1;lia))
   have e1:bi - 1+(t+1)=bi+t:=by lia
   have e2:bj - 1+(t+1)=bj+t:=by lia
   rw [e1,e2];exact this⟩ (by(clear hk e h2 h1;lia))).1
 (clear hk e h2 h1;lia)
theorem Best.right(h:Best a b alo ahi blo bhi bi bj bk)(h1:bi+bk < ahi)(h2:bj+bk < bhi):¬ (a[bi+bk]?=b[bj+bk]?∧(a[bi+bk]?).isSome=true):=by
 intro e
 have hb:=h.blk
 have:=(h.most bi bj (bk+1) ⟨hb.i0,by assumption,hb.j0,by(clear e h1;assumption),fun t ht=>by
  by_cases ht':t < bk
  ·exact hb.eq t ht'
  ·have:t=bk:=by(clear e h2 h1;lia)
   subst this;exact e⟩ (by(clear e h2 h1;lia))).1
 (clear e h2 h1;lia)
end
noncomputable abbrev Rg:=Nat×Nat×Nat×Nat
inductive GMs(a b:List Int):List Rg→List Nat→Prop
 | nil:GMs a b [] []
 | cons {r:Rg} {m:Nat} {Q:List Rg} {ms:List Nat}:GM a b r.1 r.2.1 r.2.2.1 r.2.2.2 m→GMs a b Q ms→GMs a b (r::Q) (m::ms)
section
variable{a b:List Int}{alo ahi blo bhi i j k:Nat}
theorem GMs.append{Q Q':List Rg}{ms ms':List Nat}(h:GMs a b Q ms)(h':GMs a b Q' ms'):GMs a b (Q++Q') (ms++ms'):=by
 induction h with
 | nil=>exact h'
 | cons g _ ih=>exact .cons g ih
theorem GMs.split{Q Q':List Rg}:∀ {ms:List Nat},GMs a b (Q++Q') ms→∃ m1 m2,ms=m1++m2∧GMs a b Q m1∧GMs a b Q' m2:=by
 induction Q with
 | nil=>intro ms h;exact⟨[],ms,rfl,.nil,h⟩
 | cons r Q ih =>
  intro ms h
  cases h with
  | cons g h =>
   refine oEEAA (ih h) ?_;rintro m1 m2 rfl h1 h2
   exact⟨_::m1,m2,rfl,.cons g h1,h2⟩
noncomputable def mq(Q:List Rg):Nat:=(Q.map fun r=>2 * (r.2.1 - r.1)+1).sum
structure QI(a b:List Int)(Q:List Rg)(ks:List Nat):Prop where
 gm:∀ ms,GMs a b Q ms→GM a b 0 a.length 0 b.length (ks.sum+ms.sum)
 bd:∀ r∈Q,r.1≤r.2.1∧r.2.1≤a.length∧r.2.2.1≤r.2.2.2∧r.2.2.2≤b.length
 sa:ks.sum+(Q.map fun r=>r.2.1 - r.1).sum≤a.length
 sb:ks.sum+(Q.map fun r=>r.2.2.2 - r.2.2.1).sum≤b.length
 pos:ks.length≤ks.sum
 me:mq Q≤2 * a.length+1
theorem mq_len(Q:List Rg):Q.length≤mq Q:=by
 induction Q with
 | nil=>exact Nat.le_refl _
 | cons r Q ih=>simp only [mq,List.map_cons,List.sum_cons,List.length_cons] at ih ⊢;exact Nat.lt_of_le_of_lt ‹_› (by lia)
theorem QI.start:QI a b [(0,a.length,0,b.length)] [] where
 gm:=fun ms h=>by cases h with | cons g h=>cases h;simpa using g
 bd:=fun r hr=>by rw [mS hr];simp
 sa:=by simp
 sb:=by simp
 pos:=by simp
 me:=by simp [mq]
theorem QI.zero{Q:List Rg}{ks:List Nat}(h:QI a b (Q++[(alo,ahi,blo,bhi)]) ks)(B:Best a b alo ahi blo bhi i j 0):QI a b Q ks where
 gm:=fun ms hm=>by
  have:=h.gm (ms++[0]) (hm.append (.cons (.none fun i' j' hb=>by have:=(B.most i' j' 1 hb (by lia)).1;lia) .nil))
  simpa using this
 bd:=fun r hr=>h.bd r (mF _ hr)
 sa:=by have:=h.sa;simp at this;lia
 sb:=by have:=h.sb;simp at this;lia
 pos:=h.pos
 me:=by have:=h.me;simp [mq] at this ⊢;lia
noncomputable def kids(alo ahi blo bhi i j k:Nat):List Rg:=(if alo < i∧blo < j then [(alo,i,blo,j)] else [])++(if i+k < ahi∧j+k < bhi then [(i+k,ahi,j+k,bhi)] else [])
theorem gm_empty(h:ahi≤alo∨bhi≤blo):GM a b alo ahi blo bhi 0:=.none fun i j hb=>by
 have:=hb.i0;have:=hb.i1;have:=hb.j0;have:=hb.j1
 lia
theorem QI.step{Q:List Rg}{ks:List Nat}(h:QI a b (Q++[(alo,ahi,blo,bhi)]) ks)(B:Best a b alo ahi blo bhi i j k)(hk:0 < k):QI a b (Q++kids alo ahi blo bhi i j k) (ks++[k])∧mq (Q++kids alo ahi blo bhi i j k) < mq (Q++[(alo,ahi,blo,bhi)]):=by
 have b1:=B.blk.i0
 have b2:=B.blk.i1
 have b3:=B.blk.j0
 have b4:=B.blk.j1
 refine oAAA (h.bd (alo,ahi,blo,bhi) (by simp)) fun r1 r2 r3 r4=>?_
 simp only at r1 r2 r3 r4
 have sa:=h.sa
 have sb:=h.sb
 have pos:=h.pos
 simp only [List.map_append,List.sum_append,List.map_cons,List.map_nil,List.sum_cons,List.sum_nil,mq] at sa sb
 obtain⟨x,hx⟩:=Nat.exists_eq_add_of_le b1
 obtain⟨y,hy⟩:=Nat.exists_eq_add_of_le b2
 obtain⟨u,hu⟩:=Nat.exists_eq_add_of_le b3
 obtain⟨v,hv⟩:=Nat.exists_eq_add_of_le b4
 have d1:i - alo=x:=by rw [hx];exact Nat.add_sub_cancel_left _ _
 have d2:ahi - (i+k)=y:=by rw [hy];exact Nat.add_sub_cancel_left _ _
 have d3:ahi - alo=x+k+y:=by rw [hy,hx,Nat.add_assoc,Nat.add_assoc,Nat.add_assoc];exact Nat.add_sub_cancel_left _ _
 have d4:j - blo=u:=by rw [hu];exact Nat.add_sub_cancel_left _ _
 have d5:bhi - (j+k)=v:=by rw [hv];exact Nat.add_sub_cancel_left _ _
 have d6:bhi - blo=u+k+v:=by rw [hv,hu,Nat.add_assoc,Nat.add_assoc,Nat.add_assoc];exact Nat.add_sub_cancel_left _ _
 rw [d3] at sa
 rw [d6] at sb
 have hlt:mq (Q++kids alo ahi blo bhi i j k) < mq (Q++[(alo,ahi,blo,bhi)]):=by
  simp only [mq,kids,List.map_append,List.sum_append]
  split<;>split<;>simp [d1,d2,d3]<;>lia
 refine⟨⟨fun ms hm=>?_,fun r hr=>?_,?_,?_,?_,ntr (Nat.le_of_lt hlt) h.me⟩,hlt⟩
 ·refine oEEAA hm.split ?_;rintro m1 m2 rfl h1 h2
  refine oEEAA h2.split ?_;rintro n1 n2 rfl h3 h4
  have g1:GM a b alo i blo j n1.sum:=by
   split at h3
   ·cases h3 with | cons g h=>cases h;simpa using g
   ·cases h3;exact gm_empty (by lia)
  have g2:GM a b (i+k) ahi (j+k) bhi n2.sum:=by
   split at h4
   ·cases h4 with | cons g h=>cases h;simpa using g
   ·cases h4;exact gm_empty (by lia)
  have:=h.gm (m1++[k+n1.sum+n2.sum]) (h1.append (.cons (.step B hk g1 g2) .nil))
  have e:ks.sum+(m1++[k+n1.sum+n2.sum]).sum=(ks++[k]).sum+(m1++(n1++n2)).sum:=by simp;lia
  rw [e] at this;exact this
 ·rcases List.mem_append.mp hr with hr | hr
  ·exact h.bd r (mF _ hr)
  ·rcases List.mem_append.mp hr with hr | hr
   ·split at hr
    ·rw [mS hr];simp only;lia
    ·simp at hr
   ·split at hr
    ·rw [mS hr];simp only;lia
    ·simp at hr
 ·simp only [kids,List.map_append,List.sum_append]
  split<;>split<;>simp [d1,d2]<;>lia
 ·simp only [kids,List.map_append,List.sum_append]
  split<;>split<;>simp [d4,d5]<;>lia
 ·simp;lia
theorem QI.done{ks:List Nat}(h:QI a b [] ks):GM a b 0 a.length 0 b.length ks.sum:=by simpa using h.gm [] .nil
theorem QI.few{Q:List Rg}{ks:List Nat}(h:QI a b Q ks):ks.length≤a.length∧ks.length≤b.length:=by have:=h.sa;have:=h.sb;have:=h.pos;lia
end
theorem Attr.at{K:Frag}{C:Addr}{an:List Str}{x:Str}{i:Nat}(t:Attr K C an x i):At K C an x i:=⟨t.nd,t.place,t.cls,t.take⟩
structure Fresh(s s':Shared)(new:List (Addr×Obj)):Prop where
 here:∀ p∈new,s'.heap.get? p.1=some p.2
 not:∀ p∈new,s.heap.get? p.1=none
 nd:(new.map (·.1)).Nodup
theorem Fresh.nil{s s':Shared}:Fresh s s' []:=⟨fun _ h=>(nomatch h),fun _ h=>(nomatch h),List.nodup_nil⟩
noncomputable def Kn(g:Heap)(mu:List (Addr×Obj))(b:Addr)(o:Obj):Prop:=g.get? b=some o∨(b,o)∈mu
noncomputable abbrev Rel:=Addr→Obj→Prop
noncomputable def Rel.and(R:Rel)(new:List (Addr×Obj)):Rel:=fun b o=>R b o∨(b,o)∈new
theorem Rel.nil{R:Rel}{b:Addr}{o:Obj}(h:R b o)(new:List (Addr×Obj)):R.and new b o:=.inl h
section
variable{s s':Shared}{g h:Heap}{L:Addr}{nm:List Str}{vs:List (Option Value)}{mu mu' new:List (Addr×Obj)}{W:List Addr}
theorem St.kn(S:St g L h nm vs mu){b:Addr}{o:Obj}(k:Kn g mu b o):h.get? b=some o:=k.elim (S.F.keep b o) fun m=>(S.N _ m).1
theorem St.grow{h':Heap}(S:St g L s.heap nm vs mu)(S':St g L h' nm vs mu')(ha:mu'.map (·.1)=mu.map (·.1))(hn:∀ p∈new,h'.get? p.1=some p.2∧s.heap.get? p.1=none)(nd:(new.map (·.1)).Nodup):St g L h' nm vs (mu'++new):=by
 refine⟨S'.F,fun p hp=>?_,?_⟩
 ·rcases List.mem_append.mp hp with hp | hp
  ·exact S'.N p hp
  ·obtain⟨h1,h2⟩:=hn p hp
   refine⟨h1,fun e=>?_,?_⟩
   ·refine oEEEA S.F.ns fun oL es ep hL _=>?_
    rw [e,hL] at h2;cases h2
   ·cases hg:g.get? p.1 with
    | none=>rfl
    | some o=>rw [S.F.keep _ _ hg] at h2;cases h2
 ·rw [List.map_append,List.nodup_append]
  refine⟨S'.nd,nd,fun a ha1 b hb e=>?_⟩
  subst e
  rw [ha] at ha1
  refine oEA (List.mem_map.mp ha1) fun p hp e1=>?_
  refine oEA (List.mem_map.mp hb) fun q hq e2=>?_
  have h1:=(S.N p hp).1
  have h2:=(hn q hq).2
  rw [e1,← e2,h2] at h1;cases h1
theorem St.callN{j:Nat}{d:Addr}{o o':Obj}(S:St g L s.heap nm vs mu)(M:Mod [d] s s')(hj:mu[j]?=some (d,o))(ho:s'.heap.get? d=some o')(F:Fresh s s' new):St g L s'.heap nm vs (mu.set j (d,o')++new) :=
 St.grow S (S.call1 M hj ho) (by
  have hlt:=lt_of_get hj
  rw [List.map_set]
  apply List.ext_getElem?
  intro k
  rw [List.getElem?_set]
  split
  ·rename_i hjk;subst hjk;have e2:=(List.getElem?_eq_some_iff.mp hj).2;simp [hlt,e2]
  ·rfl) (fun p hp=>⟨F.here p hp,F.not p hp⟩) F.nd
theorem St.fresh{s₀:Shared}(S:St (hideAll s₀.heap W) L h nm vs (mu++new))(hW:mu.map (·.1)=W)(e:s'.heap=h):Fresh s₀ s' new:=by
 have nd:=S.nd
 rw [List.map_append,List.nodup_append] at nd
 refine⟨fun p hp=>e▸(S.N p (mR _ hp)).1,fun p hp=>?_,nd.2.1⟩
 have h1:=(S.N p (mR _ hp)).2.2
 cases hg:s₀.heap.get? p.1 with
 | none=>rfl
 | some o =>
  rw [hideAll_get _ hg fun hm=>nd.2.2 _ (hW▸hm) _ (List.mem_map_of_mem hp) rfl] at h1;cases h1
end
noncomputable def LI(R:Rel)(l:Addr)(xs:List Int):Prop:=∃ items n,R l (lob items n)∧IntsAre items xs
theorem LI.mono{R R':Rel}{l:Addr}{xs:List Int}(h:LI R l xs)(m:∀ b o,R b o→R' b o):LI R' l xs:=let ⟨i,n,a,b⟩:=h;⟨i,n,m _ _ a,b⟩
section
variable(prog:Program)(w:World)
noncomputable def B2(R:Rel)(p:Addr)(ys:List Int):Prop:=∃ o kvs,R p o∧DI prog w o kvs∧(p == sysModules)=false∧∀ k,match valueAt kvs k with
 | some v=>∃ l,v=.ref l∧LI R l (idxs k ys 0)
 | none=>idxs k ys 0=[]
noncomputable def DF(o:Obj)(f:Int→Int):Prop:=∃ kvs,DI prog w o kvs∧∀ k,match valueAt kvs k with
 | some v=>∃ t,v=.int (f k) t
 | none=>f k=0
end
noncomputable abbrev mob(d:Addr)(items:List Value):Obj:=⟨.ref 135,some d,.seq items.toArray 0,#[]⟩
noncomputable def MBs(R:Rel)(p:Addr)(xs ys:List Int):Prop:=∃ (items:List Value) (n:Nat) (ks:List Nat),R p (lob items n)∧items.length=ks.length∧(∀ (c:Nat) (v:Value) (k:Nat),items[c]?=some v→ks[c]?=some k→∃ t dd i j ti tj tk,v=.ref t∧R t (mob dd [.int i ti,.int j tj,.int (k:Nat) tk]))∧GM xs ys 0 xs.length 0 ys.length ks.sum∧items.length≤500
structure MS(prog:Program)(w:World)(R:Rel)(vs:List Value)(oa ob:Option (Addr×List Int)):Prop where
 isj:vs[0]?=some .none
 a:match oa with
  | some (l,xs)=>vs[1]?=some (.ref l)∧LI R l xs∧xs.length≤199
  | none=>∃ t,vs[1]?=some (.str (ofString "") t)
 b:match ob with
  | some (l,ys)=>vs[2]?=some (.ref l)∧LI R l ys∧ys.length≤199∧(∃ p,vs[7]?=some (.ref p)∧B2 prog w R p ys)∧(vs[6]?=some .none∨∃ p o,vs[6]?=some (.ref p)∧R p o∧(p == sysModules)=false∧DF prog w o fun k=>cnt k ys)
  | none=>∃ t,vs[2]?=some (.str (ofString "") t)
 aj:∃ t,vs[3]?=some (.bool t)
 mb:vs[4]?=some .none∨∃ l xs l' ys p,oa=some (l,xs)∧ob=some (l',ys)∧vs[4]?=some (.ref p)∧MBs R p xs ys
 bj:∃ p led,vs[8]?=some (.ref p)∧R p (sob led)
 len:vs.length=10
section
variable{prog:Program}{w:World}{A:Around}{E:Value→Shared→Prop}{K:Frag}{f:Addr}{fd:FuncData}{qual:Str}{sc:Scope}{body:List Stmt}{cdv:Value}
theorem cFn{e:Expr}{rest:List Expr}{pos:Pos}{env:Env}{s:Shared}{Q:Value→Shared→Prop}(H:Fn K f fd qual sc body cdv)
  (k:wpAny (model prog w) A (spliced (backTo pos (starEach (e::rest) env))) (fun vs s₁=>K.In s₁.heap∧wpAny (model prog w) A (call (.ref f) vs) Q E s₁) E s)
  (he:starEach (e::rest) env=(false,eval e env)::starEach rest env:=by rfl) :
  wpAny (model prog w) A (callWith pos (.ref f) [] (backTo pos (starEach (e::rest) env)) []) Q E s:=by
 refine oEA H.at_ fun o hl ho=>?_
 exact cF ho (wpAny_mono k (fun vs s₁ h₁=>⟨h₁.1 _ _ hl,h₁.2⟩) fun _ _ x=>x) he
theorem cMn{first:List Value}{e:Expr}{rest:List Expr}{pos:Pos}{env:Env}{s:Shared}{Q:Value→Shared→Prop}(H:Fn K f fd qual sc body cdv)
  (k:wpAny (model prog w) A (spliced (backTo pos (starEach (e::rest) env))) (fun vs s₁=>K.In s₁.heap∧wpAny (model prog w) A (call (.ref f) (first++vs)) Q E s₁) E s)
  (he:starEach (e::rest) env=(false,eval e env)::starEach rest env:=by rfl) :
  wpAny (model prog w) A (callWith pos (.ref f) first (backTo pos (starEach (e::rest) env)) []) Q E s:=by
 refine oEA H.at_ fun o hl ho=>?_
 exact cM ho (wpAny_mono k (fun vs s₁ h₁=>⟨h₁.1 _ _ hl,h₁.2⟩) fun _ _ x=>x) he
theorem cMn0{first:List Value}{pos:Pos}{env:Env}{s:Shared}{Q:Value→Shared→Prop}(H:Fn K f fd qual sc body cdv)(X:K.In s.heap)
  (k:wpAny (model prog w) A (call (.ref f) first) Q E s):wpAny (model prog w) A (callWith pos (.ref f) first (backTo pos (starEach [] env)) []) Q E s:=by
 refine oEA H.at_ fun o hl ho=>?_
 exact cM0 ho (X _ _ hl) k
end
section
variable{prog:Program}{w:World}{R R':Rel}
theorem B2.mono{p:Addr}{ys:List Int}(h:B2 prog w R p ys)(m:∀ b o,R b o→R' b o):B2 prog w R' p ys:=by
 refine oEEAAA h fun o kvs h1 h2 h3 h4=>?_
 refine⟨o,kvs,m _ _ h1,h2,h3,fun k=>?_⟩
 have:=h4 k
 split at this
 ·refine oEA this fun l e hl=>?_
  exact⟨l,e,hl.mono m⟩
 ·exact this
theorem MBs.mono{p:Addr}{xs ys:List Int}(h:MBs R p xs ys)(m:∀ b o,R b o→R' b o):MBs R' p xs ys:=by
 refine oEEEAAAA h fun items n ks h1 h2 h3 h4 h5=>?_
 refine⟨items,n,ks,m _ _ h1,h2,fun c v k e1 e2=>?_,h4,h5⟩
 refine oEEEEEEEA (h3 c v k e1 e2) fun t dd i j ti tj tk e hr=>?_
 exact⟨t,dd,i,j,ti,tj,tk,e,m _ _ hr⟩
theorem MS.mono{vs:List Value}{oa ob:Option (Addr×List Int)}(h:MS prog w R vs oa ob)(m:∀ b o,R b o→R' b o):MS prog w R' vs oa ob where
 isj:=h.isj
 a:=by
  have:=h.a
  match oa,this with
  | some (l,xs),h=>exact⟨h.1,h.2.1.mono m,h.2.2⟩
  | none,h=>exact h
 b:=by
  have:=h.b
  match ob,this with
  | some (l,ys),h =>
   refine oAAAA h ?_;rintro h1 h2 h3 ⟨p,h4,h5⟩ h6
   refine⟨h1,h2.mono m,h3,⟨p,h4,h5.mono m⟩,?_⟩
   rcases h6 with h6 | ⟨p,o,h6,h7,h8,h9⟩
   ·exact .inl h6
   ·exact .inr ⟨p,o,h6,m _ _ h7,h8,h9⟩
  | none,h=>exact h
 aj:=h.aj
 mb:=by
  rcases h.mb with h | ⟨l,xs,l',ys,p,h1,h2,h3,h4⟩
  ·exact .inl h
  ·exact .inr ⟨l,xs,l',ys,p,h1,h2,h3,h4.mono m⟩
 bj:=let ⟨p,led,h1,h2⟩:=h.bj;⟨p,led,h1,m _ _ h2⟩
 len:=h.len
theorem IntsAre.uniq:∀ {vs:List Value} {xs ys:List Int},IntsAre vs xs→IntsAre vs ys→xs=ys:=by
 intro vs xs ys h
 induction h generalizing ys with
 | nil=>intro h;cases h;rfl
 | cons _ _ _ ih=>intro h;cases h with | cons _ _ h'=>rw [ih h']
theorem lob_inj{i i':List Value}{n n':Nat}(e:lob i n=lob i' n'):i=i':=by
 have:(lob i n).data=(lob i' n').data:=by rw [e]
 injection this with h1 h2
 simpa using congrArg Array.toList h1
theorem MS.aVal{vs:List Value}{oa ob:Option (Addr×List Int)}(h:MS prog w R vs oa ob):∃ va,vs[1]?=some va∧handedIn va=true∧(∀ i,va≠.builtin i)∧∀ y,va=.ref y→∃ xs,oa=some (y,xs)∧LI R y xs:=by
 have:=h.a
 match oa,this with
 | some (l,xs),h=>exact⟨_,h.1,rfl,fun i e=>(nomatch e),fun y e=>by cases e;exact⟨xs,rfl,h.2.1⟩⟩
 | none,⟨t,h⟩=>exact⟨_,h,rfl,fun i e=>(nomatch e),fun y e=>nomatch e⟩
theorem MS.bVal{vs:List Value}{oa ob:Option (Addr×List Int)}(h:MS prog w R vs oa ob):∃ va,vs[2]?=some va∧handedIn va=true∧(∀ i,va≠.builtin i)∧∀ y,va=.ref y→∃ xs,ob=some (y,xs)∧LI R y xs:=by
 have:=h.b
 match ob,this with
 | some (l,xs),h=>exact⟨_,h.1,rfl,fun i e=>(nomatch e),fun y e=>by cases e;exact⟨xs,rfl,h.2.1⟩⟩
 | none,⟨t,h⟩=>exact⟨_,h,rfl,fun i e=>(nomatch e),fun y e=>nomatch e⟩
end
section
variable{w:World}{A:Around}{E:Value→Shared→Prop}{s s':Shared}{mg mb:Str→Option Value}{G h g:Heap}{gs:Array GenState}{dr:Drawn}{tk:Nat}{os:OsState}{L:Addr}{nm:List Str}{ls:List (Option Value)}{mu:List (Addr×Obj)}
theorem is_list {x:Addr} {ox:Obj} {va:Value} {Q:Value→Shared→Prop} (hb:∀ i,va≠.builtin i) (hx:h.get? x=some ox) (hc:ox.cls=.type "list") (hy:∀ y,va=.ref y→∃ oy,h.get? y=some oy)
  (k:Q (.bool (decide (va=.ref x))) ⟨h,gs,dr,tk,os⟩):wpAny (model prog w) A (compareOp .Is (.ref x) va) Q E ⟨h,gs,dr,tk,os⟩:=by
 cases va with
 | ref y =>
  by_cases e:x=y
  ·subst e
   exact wpAny_is_ref_self (by simpa using k)
  ·obtain⟨oy,ho⟩:=hy y rfl
   refine wpAny_is_ref_other e hx ho (by rw [hc];decide) ?_
   have:decide (Value.ref y=Value.ref x)=false:=by simpa using fun z=>e z.symm
   rw [this] at k;exact k
 | builtin i=>exact absurd rfl (hb i)
 | _=>exact wpAny_is_other rfl (by intro z;cases z) (by simpa using k)
theorem asA{o:Expr}{attr:Str}{pos:Pos}{env:Env}{v:Value}{s:Shared}{Q:Unit→Shared→Prop}(k:wpAny (model prog w) A (eval o env) (fun ov s₁=>wpAny (model prog w) A (setAttr ov attr v) Q E s₁) E s):wpAny (model prog w) A (assign (.Attribute o attr pos) env v) Q E s:=by
 show wpAny (model prog w) A (do
  let ov ← holding [v] (eval o env)
  standAt pos.atName
  holding [v,ov] (setAttr ov attr v)
  release [v,ov] []) Q E s
 refine wB (wpAny_holding (wpAny_mono k (fun ov s₁ h₁=>wB (wpAny_standAt (wB (wpAny_holding (wpAny_mono h₁ (fun _ s₂ h₂=>?_) fun _ _ x=>x))))) fun _ _ x=>x))
 exact fun Γ p hΓ=>by rw [Sem.wp_release];exact h₂
structure Gr(w:World)(mg mb:Str→Option Value)(G:Heap)(d:Addr)(A:Around)(s:Shared)(n:Nat):Prop where
 D:Gd (K w.params) mg mb G
 sub:Sub G s.heap
 out:G.get? d=none
 hA:A.handled=none
 dep:A.depth+n < recursionLimit
structure MA(w:World)(R:Rel)(m d:Addr)(vs:List Value)(oa ob:Option (Addr×List Int))(s:Shared):Prop where
 hm:R m (inst CM d)
 hd:∃ o,s.heap.get? d=some o∧IV w.params an vs o
 hR:∀ b o,R b o→s.heap.get? b=some o∧b≠d
 hS:MS prog w R vs oa ob
theorem putV_set{vs:List Value}{i:Nat}{v:Value}(h:i < vs.length):putV vs i v=vs.set i v:=by unfold putV;rw [if_pos h]
theorem an_le:an.length≤1000:=nB rfl
theorem hide_old{d:Addr}{R:Rel}(hR:∀ b o,R b o→s.heap.get? b=some o∧b≠d)(b:Addr)(o:Obj)(e:R b o):(hideAll s.heap [d]).get? b=some o:=hideAll_get _ (hR _ _ e).1 (by simpa using (hR _ _ e).2)
theorem Gr.gd{d:Addr}{n:Nat}(x:Gr w mg mb G d A s n):Gd (K w.params) mg mb (hideAll s.heap [d]):=x.D.hide x.sub fun a ha=>by rw [mS ha];exact x.out
theorem set1_spec{m d x:Addr}{vs:List Value}{oa ob:Option (Addr×List Int)}{R:Rel}{xs:List Int}(X:Gr w mg mb G d A s 2)(M:MA w R m d vs oa ob s)(hx:LI R x xs)(hl:xs.length≤199) :
  codeAny (model prog w) A (.call (.ref 174) ⟨[.ref m,.ref x],[]⟩) (Ret [d] s fun v s'=>v=.none∧∃ vs' o',s'.heap.get? d=some o'∧IV w.params an vs' o'∧MS prog w R vs' (some (x,xs)) ob) s:=by
 refine oEA M.hd fun od hd I=>?_
 have hA:=X.hA
 have hdep:=X.dep
 refine enterP ps_set1 os_set1 [.ref m,.ref x] [(d,od)] (fn_set1 _) (X.D.keeps X.sub) (by(clear hA hd hl;exact Nat.le_of_lt (Nat.le_of_lt hdep))) (b_set1 _ _ _ _) rfl p_set1 (nm:=nm_set1) rfl (fun p hp=>by rw [mS hp];exact hd) (by simp) ?_
 intro Po hPo L h₁ tk S hL
 have Dg:=X.gd
 have old:=hide_old M.hR
 refine oEAAA M.hS.aVal fun va ha hhand hb hy=>?_
 have len:=M.hS.len
 refine exc (wpAny_Expr (cStr fun k1 t1=>?_))
 refine exc (wpAny_If (wC (ld_ S v_set1_a rfl (at1 (ld_ S v_set1_self rfl ?_)))))
 refine getV (Dg.k.keeps S.F.keep) (pl _) (at_a _).at (S.old (old _ _ M.hm)) (S.get (j:=0) rfl) I ha hhand fun t2=>?_
 refine oEEA hx fun items n hxo hxi=>?_
 refine is_list hb (S.old (old _ _ hxo)) rfl (fun y e=>by refine oEAEEA (hy y e) ?_;rintro ys - i' n' ho -;exact⟨_,S.old (old _ _ ho)⟩) ?_
 refine wT ?_
 by_cases hva:va=.ref x
 ·rw [if_pos (by simpa using hva)]
  refine exc (wpAny_Return_none ?_)
  refine hPo _ _ (S.mod (t:=0) hL id rfl rfl rfl) ⟨rfl,vs,od,S.get (j:=0) rfl,I,?_⟩
  refine oEAEEA (hy x hva) ?_;rintro ys rfl i' n' ho hi
  have:ys=xs:=by
   have e1:=(M.hR _ _ hxo).1
   have e2:=(M.hR _ _ ho).1
   rw [e1] at e2
   have e3:=lob_inj (Option.some.inj e2)
   subst e3
   exact IntsAre.uniq hi hxi
  subst this
  exact M.hS
 ·rw [if_neg (by simpa using hva)]
  refine exn ?_
  refine exc (plainObj_wpAny_Assign_Attribute (ld_ S v_set1_a rfl (ld_ S v_set1_self rfl ?_)))
  refine setV (j:=0) S (Dg.k.keeps S.F.keep) (pl _) (at_a _).at (S.old (old _ _ M.hm)) rfl I an_le (by lia) fun h2 t3 o2 I2 S2=>?_
  rw [putV_set (by lia)] at I2
  refine exc (wpAny_Assign_two (Constant_none (asA (ld_ S2 v_set1_self rfl ?_))))
  refine setV (j:=0) S2 (Dg.k.keeps S2.F.keep) (pl _) (at_mb _).at (S2.old (old _ _ M.hm)) rfl I2 an_le (by simp only [List.length_set];lia) fun h3 t4 o3 I3 S3=>?_
  rw [putV_set (by simp only [List.length_set];lia)] at I3
  refine asA (ld_ S3 v_set1_self rfl ?_)
  refine setV (j:=0) S3 (Dg.k.keeps S3.F.keep) (pl _) (at_opc _).at (S3.old (old _ _ M.hm)) rfl I3 an_le (by simp only [List.length_set];lia) fun h4' t5 o4 I4 S4=>?_
  rw [putV_set (by simp only [List.length_set];lia)] at I4
  refine exn ?_
  refine hPo _ _ (S4.mod (t:=0) hL id rfl rfl rfl) ⟨rfl,_,o4,S4.get (j:=0) rfl,I4,?_⟩
  have H:=M.hS
  refine⟨?_,⟨?_,⟨items,n,hxo,hxi⟩,hl⟩,?_,?_,.inl ?_,?_,by simp [len]⟩
  ·simpa [List.getElem?_set] using H.isj
  ·simp [List.getElem?_set,len]
  ·have:=H.b
   rcases ob with _ | ⟨l,ys⟩
   ·simpa [List.getElem?_set] using this
   ·simpa [List.getElem?_set] using this
  ·simpa [List.getElem?_set] using H.aj
  ·simp [List.getElem?_set,len]
  ·simpa [List.getElem?_set] using H.bj
end
section
variable{prog:Program}{w:World}{A:Around}{E:Value→Shared→Prop}{h g:Heap}{gs:Array GenState}{dr:Drawn}{tk:Nat}{os:OsState}{L a:Addr}{nm:List Str}{ls:List (Option Value)}{mu own:List (Addr×Obj)}{q:Str}{sc:Scope}{cd:Value}
theorem St.more{h':Heap}{new:List (Addr×Obj)}(S:St g L h nm ls mu)(hk:∀ b o,h.get? b=some o→h'.get? b=some o)(hn:∀ p∈new,h'.get? p.1=some p.2∧h.get? p.1=none)(nd:(new.map (·.1)).Nodup):St g L h' nm ls (mu++new) :=
 St.grow (s:=⟨h,#[],{},0,{}⟩) S (S.re (S.F.keeps hk) (S.N.grown hk)) rfl hn nd
theorem get_none_of_size{b:Addr}(e:h.objs.size≤b):h.get? b=none:=by
 cases hg:h.get? b with
 | none=>rfl
 | some o=>exact absurd (Heap.lt_size hg) (Nat.not_lt.mpr e)
theorem forE{x y:Str}{ix iy:Nat}{p1 p2 tp:Pos}{kk:Nat}{body:List Stmt}{l:Addr}{items:List Value}{R:Result→Shared→Prop}
  (J:Nat→List (Option Value)→List (Addr×Obj)→Prop) (Vx:Var sc nm x ix) (Vy:Var sc nm y iy) (S:St g L h nm ls mu) (hh:A.handled=none) (hgs:AllBare gs)
  (hl:h.IsList l items.toArray) (hb:(∃ o,g.get? l=some o)∨∃ o,∀ i ls mu,J i ls mu→(l,o)∈mu) (len:∀ i ls mu,J i ls mu→ix < ls.length∧iy < ls.length)
  (turn:∀ i v t ls mu own h gs tk,items[i]?=some v→J i ls mu→AllBare gs→St g L h nm ((ls.set ix (some (.int i t))).set iy (some v)) (mu++own) →
   ∀ T:Flow→Shared→Prop,(∀ f s',Turn g L nm own dr os (J (i+1)) R f s'→T f s')→wpAny (model prog w) A (execs body (envOf q sc L a cd)) T (fun _ _=>False) ⟨h,gs,dr,tk,os⟩)
  (done:∀ ls mu h gs tk,J items.length ls mu→AllBare gs→St g L h nm ls mu→R (.ok .next) ⟨h,gs,dr,tk,os⟩) (hJ:J 0 ls mu) :
  wpAny (model prog w) A (call (.type "enumerate") [.ref l]) (fun it0 s₁=>wpAny (model prog w) A (pyIter it0) (fun it s₂=>codeAny (model prog w) A (.forLoop (.Tuple [.Name x p1,.Name y p2] kk tp) it body [] (envOf q sc L a cd)) R s₂) E s₁) E ⟨h,gs,dr,tk,os⟩:=by
 refine call_enumerate_list (s:=⟨h,gs,dr,tk,os⟩) hl fun h' he hit hsz hk=>?_
 refine wpAny_pyIter_enum he ?_
 have hlt:l < h.objs.size:=by refine oEA hl fun o ho _=>?_;exact Heap.lt_size ho
 refine oEA hit fun oi hoi ri=>?_
 have S':St g L h' nm ls (mu++[(h.objs.size+1,_),(h.objs.size,oi)]):=S.more hk (fun p hp=>by
  rcases mK hp with rfl | hp
  ·exact⟨he,get_none_of_size (by simp)⟩
  ·rw [mS hp];exact⟨hoi,get_none_of_size (by simp)⟩) (by simp)
 have W:=WalksT.enumerate (prog:=prog) (w:=w) hh (h.objs.size+1) h.objs.size l (Nat.succ_ne_self _) (Nat.ne_of_lt (Nat.lt_succ_of_lt hlt)) (Nat.ne_of_lt hlt) items.toArray
 refine forT (own:=[(h.objs.size+1,_),(h.objs.size,oi)]) J Vx Vy hh W ?_ (fun b hb=>by simpa using hb) ?_ len ?_ ?_ ?_ hJ S' ⟨⟨_,he⟩,⟨oi,hoi,ri⟩,hl.at fun o e=>hk _ _ e⟩ hgs
 ·intro b hb'
  rcases mK hb' with rfl | hb'
  ·exact .inl (by simp)
  ·rcases mK hb' with rfl | hb'
   ·exact .inl (by simp)
   ·rw [mS hb'];exact .inr hb
 ·rintro i h2 ⟨⟨old,h1⟩,⟨o,ho,_⟩,_⟩ b hb
  rcases mK hb with rfl | hb
  ·exact⟨_,h1⟩
  ·rw [mS hb];exact⟨o,ho⟩
 ·rintro i vals ⟨t,x,_,rfl⟩
  exact⟨_,_,rfl⟩
 ·rintro i u v ls mu own' h2 gs2 tk2 hi ⟨t,x,hx,e⟩ hJ2 _ hg2 S2
  have e1:=congrArg (·[0]?) e
  have e2:=congrArg (·[1]?) e
  simp at e1 e2
  subst e1 e2
  exact turn i v t ls mu own' h2 gs2 tk2 (by simpa using hx) hJ2 hg2 S2
 ·intro ls mu h2 gs2 tk2 hJ2 hg2 S2
  exact done ls mu h2 gs2 tk2 (by simpa using hJ2) hg2 S2
theorem forE0{x y:Str}{ix iy:Nat}{p1 p2 tp:Pos}{kk:Nat}{body:List Stmt}{t:Tok}{R:Result→Shared→Prop}
  (Vx:Var sc nm x ix) (Vy:Var sc nm y iy) (S:St g L h nm ls mu) (hh:A.handled=none) (hgs:AllBare gs) (len:ix < ls.length∧iy < ls.length)
  (done:∀ h gs tk,AllBare gs→St g L h nm ls mu→R (.ok .next) ⟨h,gs,dr,tk,os⟩) :
  wpAny (model prog w) A (call (.type "enumerate") [.str (ofString "") t]) (fun it0 s₁=>wpAny (model prog w) A (pyIter it0) (fun it s₂=>codeAny (model prog w) A (.forLoop (.Tuple [.Name x p1,.Name y p2] kk tp) it body [] (envOf q sc L a cd)) R s₂) E s₁) E ⟨h,gs,dr,tk,os⟩:=by
 refine call_enumerate_str (s:=⟨h,gs,dr,tk,os⟩) fun h' he hit hsz hk=>?_
 refine wpAny_pyIter_enum he ?_
 have hit':h'.IsStrIter h.objs.size "str_ascii_iterator" (ofString "") t 0:=by
  have e:strIterType (ofString "")="str_ascii_iterator" :=by decide +kernel
  rw [e] at hit;exact hit
 refine oEA (id hit') fun oi hoi ri=>?_
 have S':St g L h' nm ls (mu++[(h.objs.size+1,_),(h.objs.size,oi)]):=S.more hk (fun p hp=>by
  rcases mK hp with rfl | hp
  ·exact⟨he,get_none_of_size (by simp)⟩
  ·rw [mS hp];exact⟨hoi,get_none_of_size (by simp)⟩) (by simp)
 have W:=WalksT.enumerateD (Draws.strAscii (prog:=prog) (w:=w) (A:=A.in1) hh h.objs.size (ofString "") t) (h.objs.size+1) (Nat.succ_ne_self _) (by simp) (by simp)
 refine forT (own:=[(h.objs.size+1,_),(h.objs.size,oi)]) (fun _ ls' mu'=>ls'=ls∧mu'=mu) Vx Vy hh W ?_ (fun b hb=>by simpa using hb) ?_ ?_ ?_ ?_ ?_ ⟨rfl,rfl⟩ S' ⟨⟨_,he⟩,hit'⟩ hgs
 ·intro b hb'
  rcases mK hb' with rfl | hb'
  ·exact .inl (by simp)
  ·rw [mS hb'];exact .inl (by simp)
 ·rintro i h2 ⟨⟨old,h1⟩,⟨o,ho,_⟩⟩ b hb
  rcases mK hb with rfl | hb
  ·exact⟨_,h1⟩
  ·rw [mS hb];exact⟨o,ho⟩
 ·rintro i _ _ ⟨rfl,rfl⟩;exact len
 ·rintro i vals ⟨t,x,_,rfl⟩
  exact⟨_,_,rfl⟩
 ·rintro i u v ls mu own' h2 gs2 tk2 hi
  exact absurd hi (by simp [show(ofString "").cps.size=0 from rfl])
 ·rintro _ _ h2 gs2 tk2 ⟨rfl,rfl⟩ hg2 S2
  exact done h2 gs2 tk2 hg2 S2
end
theorem idxs_append(k:Int):∀ (xs:List Int) (y n:Int),idxs k (xs++[y]) n=idxs k xs n++(if y=k then [n+xs.length] else [])
 | [],y,n=>by by_cases h:y=k<;>simp [idxs_n,idxs_c,h]
 | x::xs,y,n=>by
  have ih:=idxs_append k xs y (n+1)
  have e:n+1+(xs.length:Int)=n+((x::xs).length:Nat):=by simp;lia
  rw [e] at ih
  by_cases h:x=k<;>simp only [List.cons_append,idxs_n,idxs_c,h,if_true,if_false,ih]
theorem take_succ_of{α:Type}{l:List α}{i:Nat}{v:α}(h:l[i]?=some v):l.take (i+1)=l.take i++[v]:=by
 rw [List.take_add_one,h];rfl
noncomputable def BV(R:Rel)(vb:Value)(ys:List Int):Prop:=(∃ l,vb=.ref l∧LI R l ys)∨(∃ t,vb=.str (ofString "") t∧ys=[])
theorem IntsAre.get:∀ {vs:List Value} {xs:List Int} {i:Nat} {v:Value},IntsAre vs xs→vs[i]?=some v→∃ n t,v=.int n t∧xs[i]?=some n:=by
 intro vs xs i v h
 induction h generalizing i with
 | nil=>intro e;simp at e
 | cons t n hs ih =>
  intro e
  cases i with
  | zero=>simp at e;exact⟨_,_,e.symm,by simp⟩
  | succ i=>simpa using ih (by simpa using e)
theorem IntsAre.append{vs us:List Value}{xs ys:List Int}(h:IntsAre vs xs)(h':IntsAre us ys):IntsAre (vs++us) (xs++ys):=by
 induction h with
 | nil=>exact h'
 | cons _ _ _ ih=>exact .cons _ _ ih
structure B2I(prog:Program)(w:World)(o:Obj)(lists:List (Addr×Obj))(ys:List Int):Prop where
 ex:∃ kvs,DI prog w o kvs∧kvs.length≤ys.length∧(∀ k,match valueAt kvs k with
  | some v=>∃ l items n,v=.ref l∧(l,lob items n)∈lists∧IntsAre items (idxs k ys 0)
  | none=>idxs k ys 0=[])∧∀ k k' l,valueAt kvs k=some (.ref l)→valueAt kvs k'=some (.ref l)→k=k'
theorem stored_len{kvs:List (Int×Value)}{k:Int}{v:Value}:(stored kvs k v).length≤kvs.length+1:=by
 unfold stored;split<;>simp
theorem B2I.step1 {prog:Program} {w:World} {o:Obj} {lists:List (Addr×Obj)} {ys:List Int} {kvs:List (Int×Value)} (D:DI prog w o kvs) (hl:kvs.length≤ys.length) (f:∀ k,match valueAt kvs k with
  | some v=>∃ l items n,v=.ref l∧(l,lob items n)∈lists∧IntsAre items (idxs k ys 0)
  | none=>idxs k ys 0=[]) (inj:∀ k k' l,valueAt kvs k=some (.ref l)→valueAt kvs k'=some (.ref l)→k=k')
  {v:Int} {l:Addr} {items:List Value} {n n' j:Nat} {t:Tok} (hv:valueAt kvs v=some (.ref l)) (hj:lists[j]?=some (l,lob items n)) (hi:IntsAre items (idxs v ys 0)) :
  B2I prog w o (lists.set j (l,lob (items++[.int ys.length t]) n')) (ys++[v]):=by
 refine⟨kvs,D,by simp;exact Nat.le.step hl,fun k=>?_,inj⟩
 have hk:=f k
 by_cases e:k=v
 ·subst e
  rw [hv]
  refine⟨l,_,n',rfl,List.mem_of_getElem? (i:=j) (by rw [List.getElem?_set_self (lt_of_get hj)]),?_⟩
  rw [idxs_append,if_pos rfl,Int.zero_add]
  exact hi.append (.cons _ _ .nil)
 ·cases hc:valueAt kvs k with
  | none =>
   rw [hc] at hk
   show idxs k (ys++[v]) 0=[]
   rw [idxs_append,if_neg (fun z=>e z.symm),hk];rfl
  | some u =>
   rw [hc] at hk
   refine oEEEAA hk ?_;rintro l' items' n2 rfl hm hi'
   obtain⟨j',hj'⟩:=List.getElem?_of_mem hm
   refine⟨l',items',n2,rfl,List.mem_of_getElem? (i:=j') ?_,?_⟩
   ·rw [List.getElem?_set_ne (fun z=>?_)]
    ·exact hj'
    ·subst z
     rw [hj] at hj'
     have:=congrArg (fun x=>(x.map Prod.fst)) hj'
     simp at this
     subst this
     exact e (inj _ _ _ hc hv)
   ·rw [idxs_append,if_neg (fun z=>e z.symm),List.append_nil];exact hi'
theorem B2I.step2 {prog:Program} {w:World} {o:Obj} {lists:List (Addr×Obj)} {ys:List Int} {kvs:List (Int×Value)} (hl:kvs.length≤ys.length) (f:∀ k,match valueAt kvs k with
  | some v=>∃ l items n,v=.ref l∧(l,lob items n)∈lists∧IntsAre items (idxs k ys 0)
  | none=>idxs k ys 0=[]) (inj:∀ k k' l,valueAt kvs k=some (.ref l)→valueAt kvs k'=some (.ref l)→k=k')
  {v:Int} {l:Addr} {n':Nat} {t:Tok} (hv:valueAt kvs v=none) (D:DI prog w o (stored kvs v (.ref l))) (hn:∀ p∈lists,p.1≠l) :
  B2I prog w o ((l,lob [.int ys.length t] n')::lists) (ys++[v]):=by
 refine⟨_,D,ntr stored_len (by simp;omega),fun k=>?_,fun k k' l' h1 h2=>?_⟩
 ·rw [valueAt_stored]
  have hk:=f k
  by_cases e:k=v
  ·subst e
   rw [if_pos rfl]
   rw [hv] at hk
   refine⟨l,_,n',rfl,.head _,?_⟩
   rw [idxs_append,if_pos rfl,Int.zero_add,hk]
   exact .cons _ _ .nil
  ·rw [if_neg e]
   cases hc:valueAt kvs k with
   | none =>
    rw [hc] at hk
    show idxs k (ys++[v]) 0=[]
    rw [idxs_append,if_neg (fun z=>e z.symm),hk];rfl
   | some u =>
    rw [hc] at hk
    refine oEEEAA hk ?_;rintro l' items' n2 rfl hm hi'
    refine⟨l',items',n2,rfl,.tail _ hm,?_⟩
    rw [idxs_append,if_neg (fun z=>e z.symm),List.append_nil];exact hi'
 ·rw [valueAt_stored] at h1 h2
  have key:∀ k,valueAt kvs k≠some (.ref l):=fun k e=>by
   have:=f k
   rw [e] at this
   refine oEEEAA this fun l' items' n2 e' hm _=>?_
   cases e'
   exact hn _ hm rfl
  by_cases e1:k=v<;>by_cases e2:k'=v
  ·rw [e1,e2]
  ·rw [if_pos e1] at h1;rw [if_neg e2] at h2;cases h1;exact absurd h2 (key _)
  ·rw [if_neg e1] at h1;rw [if_pos e2] at h2;cases h2;exact absurd h1 (key _)
  ·rw [if_neg e1] at h1;rw [if_neg e2] at h2;exact inj _ _ _ h1 h2
section
variable{w:World}{A:Around}{E:Value→Shared→Prop}{s s':Shared}{mg mb:Str→Option Value}{G h g:Heap}{gs:Array GenState}{dr:Drawn}{tk:Nat}{os:OsState}{L a:Addr}{nm:List Str}{ls:List (Option Value)}{mu:List (Addr×Obj)}
theorem forEV{prog:Program}{q:Str}{sc:Scope}{cd:Value}{x y:Str}{ix iy:Nat}{p1 p2 tp:Pos}{kk:Nat}{body:List Stmt}{vb:Value}{ys:List Int}{R:Result→Shared→Prop}
  (J:Nat→List (Option Value)→List (Addr×Obj)→Prop) (Vx:Var sc nm x ix) (Vy:Var sc nm y iy) (S:St g L h nm ls mu) (hh:A.handled=none) (hgs:AllBare gs)
  (hb:(∃ l items n,vb=.ref l∧g.get? l=some (lob items n)∧IntsAre items ys)∨(∃ t,vb=.str (ofString "") t∧ys=[])) (len:∀ i ls mu,J i ls mu→ix < ls.length∧iy < ls.length)
  (turn:∀ i (v:Int) u t ls mu own h gs tk,ys[i]?=some v→J i ls mu→AllBare gs→St g L h nm ((ls.set ix (some (.int i t))).set iy (some (.int v u))) (mu++own) →
   ∀ T:Flow→Shared→Prop,(∀ f s',Turn g L nm own dr os (J (i+1)) R f s'→T f s')→wpAny (model prog w) A (execs body (envOf q sc L a cd)) T (fun _ _=>False) ⟨h,gs,dr,tk,os⟩)
  (done:∀ ls mu h gs tk,J ys.length ls mu→AllBare gs→St g L h nm ls mu→R (.ok .next) ⟨h,gs,dr,tk,os⟩) (hJ:J 0 ls mu) :
  wpAny (model prog w) A (call (.type "enumerate") [vb]) (fun it0 s₁=>wpAny (model prog w) A (pyIter it0) (fun it s₂=>codeAny (model prog w) A (.forLoop (.Tuple [.Name x p1,.Name y p2] kk tp) it body [] (envOf q sc L a cd)) R s₂) E s₁) E ⟨h,gs,dr,tk,os⟩:=by
 rcases hb with⟨l,items,n,rfl,ho,hi⟩ | ⟨t,rfl,rfl⟩
 ·refine forE J Vx Vy S hh hgs (lob_list (S.old ho)) (.inl ⟨_,ho⟩) len (fun i v t ls mu own h gs tk hv hJ hg S=>?_) (fun ls mu h gs tk hJ hg S=>done ls mu h gs tk (hi.length▸hJ) hg S) hJ
  refine oEEA (IntsAre.get hi hv) ?_;rintro k u rfl hk
  exact turn i k u t ls mu own h gs tk hk hJ hg S
 ·exact forE0 Vx Vy S hh hgs (len _ _ _ hJ) fun h gs tk hg S=>done _ _ h gs tk hJ hg S
theorem idxs_len(k:Int):∀ (xs:List Int) (n:Int),(idxs k xs n).length≤xs.length
 | [],_=>Nat.le_refl _
 | x::xs,n=>by
  have:=idxs_len k xs (n+1)
  simp only [idxs_n,idxs_c]
  split<;>simp<;>exact by omega
theorem lenBV {prog:Program} {vb:Value} {ys:List Int} {Q:Value→Shared→Prop} (hb:(∃ l items n,vb=.ref l∧h.get? l=some (lob items n)∧IntsAre items ys)∨(∃ t,vb=.str (ofString "") t∧ys=[])) (hf:ys.length≤1000) (k:∀ t tk,Q (.int ys.length t) ⟨h,gs,dr,tk,os⟩):wpAny (model prog w) A (call (.builtin "len") [vb]) Q E ⟨h,gs,dr,tk,os⟩:=by
 rcases hb with⟨l,items,n,rfl,ho,hi⟩ | ⟨t,rfl,rfl⟩
 ·rw [← hi.length] at hf k
  exact len_ (lob_list ho) hf k
 ·exact PySem.P.len_str (s:=⟨h,gs,dr,tk,os⟩) (by decide) (k _ _)
theorem Gr.big{d:Addr}{n:Nat}(X:Gr w mg mb G d A s n):188 < s.heap.objs.size:=by
 refine oEA ((fn_chain w.params).at_) fun o ho _=>?_
 exact Heap.lt_size (X.sub _ _ (X.D.k _ _ ho))
theorem notSys{b:Addr}(h:188 < b):(b == sysModules)=false:=by
 have h3:sysModules≤188:=by decide
 exact beq_eq_false_iff_ne.mpr fun e=>Nat.lt_irrefl _ (Nat.lt_of_lt_of_le (e▸h) h3)
inductive BJ1(w:World)(m:Addr)(d:Addr)(vb:Value)(ys:List Int)(h2:Heap)(o4:Obj)(i:Nat)(ls:List (Option Value))(mu:List (Addr×Obj)):Prop
 | mk (o:Obj) (lists:List (Addr×Obj)) (x3 x4 x5:Option Value) (q1:ls=[some (.ref m),some vb,some (.ref h2.objs.size),x3,x4,x5,none,none,none,none,none,none]) (q2:mu=(h2.objs.size,o)::(d,o4)::lists) (q3:B2I prog w o lists (ys.take i)):BJ1 w m d vb ys h2 o4 i ls mu
theorem chain_spec{m d:Addr}{vs:List Value}{R:Rel}{vb:Value}{ys:List Int}(X:Gr w mg mb G d A s 2)(hgs:AllBare s.gens)(hm:R m (inst CM d))(hd:∃ o,s.heap.get? d=some o∧IV w.params an vs o)
  (hR:∀ b o,R b o→s.heap.get? b=some o∧b≠d) (e0:vs[0]?=some .none) (e2:vs[2]?=some vb) (hb:BV R vb ys) (e3:∃ t,vs[3]?=some (.bool t)) (hlen:7≤vs.length) (hys:ys.length≤199) :
  codeAny (model prog w) A (.call (.ref 188) ⟨[.ref m],[]⟩) (Ret [d] s fun v s'=>v=.none∧∃ vs' o' new,s'.heap.get? d=some o'∧IV w.params an vs' o'∧Fresh s s' new∧vs'.length=10∧(∀ i,i < 7→vs'[i]?=vs[i]?) ∧
   (∃ p,vs'[7]?=some (.ref p)∧B2 prog w (R.and new) p ys)∧∃ p led,vs'[8]?=some (.ref p)∧(R.and new) p (sob led)) s:=by
 refine oEA hd fun od hd I=>?_
 have hA:=X.hA
 have hdep:=X.dep
 refine enterP ps_chain os_chain [.ref m] [(d,od)] (fn_chain _) (X.D.keeps X.sub) (by(clear hA hd hys hlen e2 e0;exact Nat.le_of_lt (Nat.le_of_lt hdep))) (b_chain _ _ _) rfl p_chain (nm:=nm_chain) rfl (fun p hp=>by rw [mS hp];exact hd) (by simp) ?_
 intro Po hPo L h₁ tk S hL
 have Dg:=X.gd
 have old:=hide_old hR
 have hle:=I.le
 have hanl:an.length=10:=rfl
 refine exc (asgN (at1 (ld_ S v_chain_self rfl ?_)))
 refine getV (Dg.k.keeps S.F.keep) (pl _) (at_b _).at (S.old (old _ _ hm)) (S.get (j:=0) rfl) I e2 (by rcases hb with⟨l,rfl,_⟩ | ⟨t,rfl,_⟩<;>rfl) fun t2=>?_
 refine st_ S v_chain_b (nB rfl) fun h2 t2 S2=>?_
 refine exc (wpAny_Assign_two (newD S2 fun h3 o3 D3 S3=>asA (ld_ S3 v_chain_self rfl ?_)))
 refine setV (j:=1) S3 (Dg.k.keeps S3.F.keep) (pl _) (at_b2j _).at (S3.old (old _ _ hm)) rfl I an_le (by omega) fun h4 t4 o4 I4 S4=>?_
 refine assign_Name (st_ S4 v_chain_b2j (nB rfl) fun h5 t5 S5=>?_)
 have hsys:(h2.objs.size == sysModules)=false:=by
  exact notSys (Nat.lt_of_lt_of_le X.big (ntr hL (Nat.le_of_lt S2.F.ns.lt)))
 refine exc (wpAny_For (Call_ (lb_ S5 Dg g_chain_enumerate (bn_enumerate _) (callWith_type1 (arg_ (ld_ S5 v_chain_b rfl (arg0 ?_)))))))
 refine forEV (ys:=ys) (BJ1 w m d vb ys h2 o4)
  v_chain_i v_chain_elt S5 hA hgs ?_ ?_ ?_ ?_ ?_
 ·rcases hb with⟨l,rfl,items,n,ho,hi⟩ | ⟨t,rfl,rfl⟩
  ·exact .inl ⟨l,items,n,rfl,old _ _ ho,hi⟩
  ·exact .inr ⟨t,rfl,rfl⟩
 ·rintro i _ _ ⟨o,lists,x3,x4,x5,rfl,rfl,_⟩
  exact⟨nB rfl,nB rfl⟩
 ·rintro i v u t _ _ own h6 gs6 tk6 hv ⟨o,lists,x3,x4,x5,rfl,rfl,B⟩ hg6 S6 T hT
  obtain⟨kvs,D,hkl,f,inj⟩:=B
  have hil:=lt_of_get hv
  have hlt:(ys.take i).length=i:=by rw [List.length_take];(clear hkl hv hsys hanl hle hL hdep hA hd hys hlen e2 e0;exact Nat.min_eq_left (by lia))
  refine exc (asgN (MethodCall_ (ld_ S6 v_chain_b2j rfl (mD PySem.F.slot_dict_setdefault PySem.F.type_dict_setdefault (D.of (S6.get (j:=0) rfl)) (callWith_method1 (arg_ (ld_ S6 v_chain_elt rfl (arg_ (List_ (arg0 (newL S6 (by simp) fun h7 S7=>arg0 ?_)))))))))))
  refine setDefault (j:=1) S7 rfl D hsys (by(clear hv hsys hanl hle hL hdep hA hd hlen e2 e0;lia)) (fun u2 t7 hu=>?_) (fun h8 t8 o8 hn D8 S8=>?_)
  ·have fv:=f v
   rw [hu] at fv
   refine oEEEAA fv ?_;rintro l items n rfl hm hi
   obtain⟨j,hj⟩:=List.getElem?_of_mem hm
   have hj':(lists++own)[j]?=some (l,lob items n):=by rw [List.getElem?_append_left (lt_of_get hj)];exact hj
   refine st_ (S7.drop (List.sublist_cons_self _ _)) v_chain_indices (nB rfl) fun h8 t8 S8=>?_
   refine exc (wpAny_Expr (MethodCall_ (ld_ S8 v_chain_indices rfl (mL PySem.F.slot_list_append PySem.F.type_list_append (S8.get (j:=j+2) hj') (callWith_method1 (arg_ (ld_ S8 v_chain_i rfl (arg0 ?_))))))))
   have hil:items.length≤10000:=by have:=hi.length;have:=idxs_len v (ys.take i) 0;(clear hj' hj hu hkl hv hsys hanl hle hL hdep hA hd hlen e2 e0;lia)
   refine append_ (j:=j+2) S8 hj' hil fun h9 S9=>?_
   ·have e:((h2.objs.size,o)::(d,o4)::(lists++own)).set (j+2) (l,lob (items++[.int i t]) (n+1))=((h2.objs.size,o)::(d,o4)::lists.set j (l,lob (items++[.int i t]) (n+1)))++own:=by
     show(h2.objs.size,o)::(d,o4)::(lists++own).set j _=_
     rw [List.set_append_left _ _ (lt_of_get hj)];rfl
    replace S9:=Eq.mp (congrArg (St _ L h9 nm_chain _) e) S9
    refine exn (TN hT S9 hg6 ⟨o,_,_,_,_,rfl,rfl,?_⟩)
    rw [take_succ_of hv]
    have:=B2I.step1 (n':=n+1) (t:=t) D hkl f inj hu hj hi
    rw [hlt] at this
    exact this
  ·refine st_ S8 v_chain_indices (nB rfl) fun h9 t9 S9=>?_
   refine exc (wpAny_Expr (MethodCall_ (ld_ S9 v_chain_indices rfl (mL PySem.F.slot_list_append PySem.F.type_list_append (S9.get (j:=0) rfl) (callWith_method1 (arg_ (ld_ S9 v_chain_i rfl (arg0 ?_))))))))
   refine append_ (j:=0) S9 rfl (by simp) fun h10 S10=>?_
   ·have S11:=S10.perm (mu':=((h2.objs.size,o8)::(d,o4)::((h6.objs.size,lob [.int i t] 1)::lists))++own) (by
     show List.Perm ((h6.objs.size,lob [.int i t] 1)::(h2.objs.size,o8)::(d,o4)::(lists++own)) ((h2.objs.size,o8)::(d,o4)::(h6.objs.size,lob [.int i t] 1)::(lists++own))
     exact(List.Perm.swap _ _ _).trans ((List.Perm.swap _ _ _).cons _))
    refine exn (TN hT S11 hg6 ⟨o8,_,_,_,_,rfl,rfl,?_⟩)
    rw [take_succ_of hv]
    have:=B2I.step2 (n':=1) (t:=t) hkl f inj hn D8 (fun p hp e=>by
     have nd:=S8.nd
     exact(List.nodup_cons.mp nd).1 (List.mem_map.mpr ⟨p,.tail _ (.tail _ (mF _ hp)),e⟩))
    rw [hlt] at this
    exact this
 ·rintro _ _ h7 gs7 tk7 ⟨o,lists,x3,x4,x5,rfl,rfl,B⟩ hg7 S7
  rw [List.take_length] at B
  refine exc (wpAny_Assign_two (Call_ (lb_ S7 Dg g_chain_set (bn_set _) (callWith_type0 (newS S7 fun led h8 S8=>asA (ld_ S8 v_chain_self rfl ?_))))))
  refine setV (j:=2) S8 (Dg.k.keeps S8.F.keep) (pl _) (at_bjunk _).at (S8.old (old _ _ hm)) rfl I4 an_le (by rw [putV_len (by omega)];(clear hsys hanl hle hL hdep hA hd hys hlen e2 e0;lia)) fun h9 t9 o9 I9 S9=>?_
  refine assign_Name (st_ S9 v_chain_junk (nB rfl) fun h10 t10 S10=>?_)
  refine exc (asgN (at1 (ld_ S10 v_chain_self rfl ?_)))
  refine getV (Dg.k.keeps S10.F.keep) (pl _) (at_isjunk _).at (S10.old (old _ _ hm)) (S10.get (j:=2) rfl) I9 (putV_ne (by decide) (putV_ne (by decide) e0)) rfl fun t11=>?_
  refine st_ S10 v_chain_isjunk (nB rfl) fun h11 t11 S11=>?_
  refine exc (wpAny_If (isTrue_plain (ld_ S11 v_chain_isjunk rfl (truthy_none ?_))))
  rw [if_neg (by decide)]
  refine exn ?_
  refine exc (wpAny_Assign_two (Call_ (lb_ S11 Dg g_chain_set (bn_set _) (callWith_type0 (newS S11 fun led2 h12 S12=>asA (ld_ S12 v_chain_self rfl ?_))))))
  have l9:(putV (putV vs 7 (.ref h2.objs.size)) 8 (.ref h7.objs.size)).length=max (max vs.length 8) 9:=by rw [putV_len (by rw [putV_len (by omega)];(clear hsys hanl hle hL hdep hA hd hys hlen e2 e0;lia)),putV_len (by omega)]
  refine setV (j:=3) S12 (Dg.k.keeps S12.F.keep) (pl _) (at_bpop _).at (S12.old (old _ _ hm)) rfl I9 an_le (by rw [l9];(clear hsys hanl hle hL hdep hA hd hys hlen e2 e0;lia)) fun h13 t13 o13 I13 S13=>?_
  refine assign_Name (st_ S13 v_chain_popular (nB rfl) fun h14 t14 S14=>?_)
  refine exc (asgN (Call_ (lb_ S14 Dg g_chain_len (bn_len _) (cB (arg_ (ld_ S14 v_chain_b rfl (arg0 ?_)))))))
  refine lenBV (ys:=ys) (by
   rcases hb with⟨l,rfl,items,n,ho,hi⟩ | ⟨t,rfl,rfl⟩
   ·exact .inl ⟨l,items,n,rfl,S14.old (old _ _ ho),hi⟩
   ·exact .inr ⟨t,rfl,rfl⟩) (by(clear l9 hsys hanl hle hL hdep hA hd hlen e2 e0;lia)) fun t15 k15=>?_
  refine st_ S14 v_chain_n (nB rfl) fun h15 t15 S15=>?_
  obtain⟨aj,e3⟩:=e3
  refine exc (wpAny_If (isTrue_and (isTrue_plain (at1 (ld_ S15 v_chain_self rfl ?_)))))
  refine getV (Dg.k.keeps S15.F.keep) (pl _) (at_autojunk _).at (S15.old (old _ _ hm)) (S15.get (j:=3) rfl) I13 (putV_ne (by decide) (putV_ne (by decide) (putV_ne (by decide) e3))) rfl fun t16=>?_
  refine wT ?_
  have fin:∀ tk,Po .none ⟨h15,gs7,s.drawn,tk,s.os⟩:=by
   intro tk
   have S16:=S15.perm (List.perm_middle (l₁:=[(h11.objs.size,sob led2),(h7.objs.size,sob led),(h2.objs.size,o)]) (a:=(d,o13)) (l₂:=lists))
   obtain⟨kvs,D,hkl,f,inj⟩:=B
   have l13:(putV (putV (putV vs 7 (.ref h2.objs.size)) 8 (.ref h7.objs.size)) 9 (.ref h11.objs.size)).length=max (max (max vs.length 8) 9) 10:=by rw [putV_len (by rw [l9];(clear hkl e3 hsys hanl hle hL hdep hA hd hys hlen e2 e0;lia)),l9]
   refine hPo _ _ (S15.mod (t:=0) hL (fun _=>hg7) rfl rfl rfl) ⟨rfl,_,o13,_,S15.get (j:=3) rfl,I13,St.fresh (s':=⟨h15,gs7,s.drawn,tk,s.os⟩) (mu:=[(d,o13)]) S16 rfl rfl,by rw [l13];(clear hkl e3 l9 hsys hL hdep hA hd hys hlen e2 e0;(simp;lia)),fun i hi=>?_,⟨_,putV_ne (by decide) (putV_ne (by decide) (putV_self (by omega))),o,kvs,.inr (by simp),D,hsys,fun k=>?_⟩,_,led,putV_ne (by decide) (putV_self (by rw [putV_len (by omega)];(clear l13 hkl e3 l9 hsys hL hdep hA hd hys hlen e2 e0;lia))),.inr (by simp)⟩
   ·have e:vs[i]?=some (vs[i]'(by(clear l13 hkl e3 l9 hsys hanl hle hL hdep hA hd hys e2 e0;exact ntr hi hlen))):=List.getElem?_eq_getElem (by(clear l13 hkl e3 l9 hsys hanl hle hL hdep hA hd hys e2 e0;lia))
    rw [putV_ne (by(clear e l13 hkl e3 l9 hsys hanl hle hL hdep hA hd hys hlen e2 e0;lia)) (putV_ne (by(clear e l13 hkl e3 l9 hsys hanl hle hL hdep hA hd hys hlen e2 e0;lia)) (putV_ne (by(clear e l13 hkl e3 l9 hsys hanl hle hL hdep hA hd hys hlen e2 e0;lia)) e)),e]
   ·have:=f k
    cases hc:valueAt kvs k with
    | some v =>
     rw [hc] at this
     refine oEEEAA this fun l items n e hm hi=>?_
     exact⟨l,e,items,n,.inr (by simp [hm]),hi⟩
    | none =>
     rw [hc] at this
     exact this
  cases aj with
  | false =>
   rw [if_neg (by decide)]
   exact exn (exn (fin _))
  | true =>
   rw [if_pos rfl]
   refine isTrue_and (wC (ld_ S15 v_chain_n rfl (cInt fun k17 t17=>P.ge_int (wT ?_))))
   rw [if_neg (by simp;(clear e3 l9 hsys hanl hle hL hdep hA hd hlen e2 e0;lia))]
   exact exn (exn (fin _))
 ·refine⟨o3,[],_,_,_,rfl,rfl,⟨[],D3,by simp,fun k=>?_,fun k k' l e=>?_⟩⟩
  ·simp [valueAt,idxs_n,idxs_c]
  ·simp [valueAt] at e
end
section
variable{prog:Program}{w:World}{A:Around}{E:Value→Shared→Prop}{h g:Heap}{gs:Array GenState}{dr:Drawn}{tk:Nat}{os:OsState}{L a:Addr}{nm:List Str}{ls:List (Option Value)}{mu:List (Addr×Obj)}{q:Str}{sc:Scope}{cd:Value}
theorem asS{o i:Expr}{pos:Pos}{env:Env}{v:Value}{s:Shared}{Q:Unit→Shared→Prop}
  (k:wpAny (model prog w) A (eval o env) (fun ov s₁=>wpAny (model prog w) A (eval i env) (fun iv s₂=>wpAny (model prog w) A (setItem ov iv v) Q E s₂) E s₁) E s) :
  wpAny (model prog w) A (assign (.Subscript o i pos) env v) Q E s:=by
 rw [assign_Subscript]
 refine wB (wpAny_holding (wpAny_mono k (fun ov s₁ h₁=>wB (wpAny_holding (wpAny_mono h₁ (fun iv s₂ h₂=>wB (wpAny_standAt (wB (wpAny_holding (wpAny_mono h₂ (fun _ s₃ h₃=>?_) fun _ _ x=>x))))) fun _ _ x=>x))) fun _ _ x=>x))
 exact fun Γ p hΓ=>by rw [Sem.wp_release];exact h₃
theorem forR2{x:Str}{ix:Nat}{np:Pos}{body:List Stmt}{lo hi:Int}{n:Nat}{t u:Tok}{R:Result→Shared→Prop}(J:Nat→List (Option Value)→List (Addr×Obj)→Prop)(V:Var sc nm x ix)(S:St g L h nm ls mu)(hh:A.handled=none)(hgs:AllBare gs)
  (hn:(n:Int)=if lo < hi then hi - lo else 0) (hlo:lo.natAbs < 2 ^ 32) (hhi:hi.natAbs < 2 ^ 32) (len:∀ i ls mu,J i ls mu→ix < ls.length)
  (turn:∀ (i:Nat) k ls mu own h gs tk,i < n→J i ls mu→AllBare gs→St g L h nm (ls.set ix (some (.int (lo+i) k))) (mu++own) →
   ∀ T:Flow→Shared→Prop,(∀ f s',Turn g L nm own dr os (J (i+1)) R f s'→T f s')→wpAny (model prog w) A (execs body (envOf q sc L a cd)) T (fun _ _=>False) ⟨h,gs,dr,tk,os⟩)
  (done:∀ ls mu h gs tk,J n ls mu→AllBare gs→St g L h nm ls mu→R (.ok .next) ⟨h,gs,dr,tk,os⟩) (hJ:J 0 ls mu) :
  wpAny (model prog w) A (call (.type "range") [.int lo t,.int hi u]) (fun it0 s₁=>wpAny (model prog w) A (pyIter it0) (fun it s₂=>codeAny (model prog w) A (.forLoop (.Name x np) it body [] (envOf q sc L a cd)) R s₂) E s₁) E ⟨h,gs,dr,tk,os⟩:=by
 refine call_range_2 (s:=⟨h,gs,dr,tk,os⟩) ?_
 exact forR J V ((S.push _).drop (List.sublist_cons_self _ _)) hh hgs (IsRange.new h lo hi 1 t u tk) hn hlo hhi len turn done hJ
theorem while0{test:Expr}{body:List Stmt}{pos:Pos}{env:Env}{s:Shared}{Q:Flow→Shared→Prop}
  (k:wpAny (model prog w) A (isTrue test env (eval test env)) (fun b s₂=>b=false∧Q .next s₂) (fun _ _=>False) s):wpAny (model prog w) A (exec (.While test body [] pos) env) Q E s:=by
 refine wpAny_While (codeAny_whileLoop (fun _ s'=>s'=s) (fun n s' e=>?_) 0 rfl)
 subst e
 refine wpAny_mono k (fun b s₂ hb=>?_) fun _ _ x=>x.elim
 obtain⟨rfl,hq⟩:=hb
 rw [if_neg (by decide)]
 exact exn hq
theorem asN{x:Str}{np:Pos}{env:Env}{v:Value}{s:Shared}{Q:Unit→Shared→Prop}(k:wpAny (model prog w) A (storeName env x v) Q E s):wpAny (model prog w) A (assign (.Name x np) env v) Q E s:=assign_Name k
theorem cT1{pos:Pos}{T:String}{e:Expr}{rest:List Expr}{env:Env}{s:Shared}{Q:Value→Shared→Prop}
  (k:wpAny (model prog w) A (spliced (backTo pos (starEach (e::rest) env))) (fun vs s₁=>wpAny (model prog w) A (call (.type T) vs) Q E s₁) E s)
  (he:starEach (e::rest) env=(false,eval e env)::starEach rest env:=by rfl) (hplain:(backTo pos (starEach rest env)).any (·.1)=false:=by rfl) :
  wpAny (model prog w) A (callWith pos (.type T) [] (backTo pos (starEach (e::rest) env)) []) Q E s:=PyProof.Rows.callWith_type1 k he hplain
theorem getBd{d:Addr}{kvs:List (Int×Value)}{Q:Value→Shared→Prop}(S:St g L h nm ls mu)(D:h.DictOf (intKind prog w) d kvs)
  (q:∀ h' tk,St g L h' nm ls ((h.objs.size,bmObj "dict.get" d)::mu)→Q (.ref h.objs.size) ⟨h',gs,dr,tk,os⟩) :
  wpAny (model prog w) A (getAttr (.ref d) (ofString "get") true) Q E ⟨h,gs,dr,tk,os⟩:=by
 refine oEA (Heap.dictOf_iff.mp D) fun o ho D'=>?_
 exact getBM bm_get ho (DI.cls D') (DI.dict D') (DI.notCls D') (bind_get ho (DI.cls D') ⟨rfl,q _ _ (S.push _)⟩)
end
section
theorem me_chain(P:Params):Meth (K P) CM an (ofString "_SequenceMatcher__chain_b") 188:=⟨by decide +kernel,by kernel_rfl,by kernel_rfl⟩
theorem me_set1(P:Params):Meth (K P) CM an (ofString "set_seq1") 174:=⟨by decide +kernel,by kernel_rfl,by kernel_rfl⟩
theorem me_set2(P:Params):Meth (K P) CM an (ofString "set_seq2") 181:=⟨by decide +kernel,by kernel_rfl,by kernel_rfl⟩
theorem me_sets(P:Params):Meth (K P) CM an (ofString "set_seqs") 167:=⟨by decide +kernel,by kernel_rfl,by kernel_rfl⟩
theorem me_flm(P:Params):Meth (K P) CM an (ofString "find_longest_match") 196:=⟨by decide +kernel,by kernel_rfl,by kernel_rfl⟩
theorem me_gmb(P:Params):Meth (K P) CM an (ofString "get_matching_blocks") 203:=⟨by decide +kernel,by kernel_rfl,by kernel_rfl⟩
theorem me_ratio(P:Params):Meth (K P) CM an (ofString "ratio") 225:=⟨by decide +kernel,by kernel_rfl,by kernel_rfl⟩
theorem me_quick(P:Params):Meth (K P) CM an (ofString "quick_ratio") 232:=⟨by decide +kernel,by kernel_rfl,by kernel_rfl⟩
theorem me_rquick(P:Params):Meth (K P) CM an (ofString "real_quick_ratio") 239:=⟨by decide +kernel,by kernel_rfl,by kernel_rfl⟩
end
noncomputable def IsOk(R:Rel)(vx va:Value):Prop:=(∃ t,vx=.str (ofString "") t∧va=.none)∨∃ x ox,vx=.ref x∧R x ox∧ox.cls=.type "list" ∧ (∀ i,va≠.builtin i)∧∀ y,va=.ref y→∃ oy,R y oy
section
variable{w:World}{A:Around}{E:Value→Shared→Prop}{s s':Shared}{mg mb:Str→Option Value}{G h g:Heap}{gs:Array GenState}{dr:Drawn}{tk:Nat}{os:OsState}{L a:Addr}{nm:List Str}{ls:List (Option Value)}{mu:List (Addr×Obj)}
theorem is_ok{R:Rel}{vx va:Value}{Q:Value→Shared→Prop}(hk:IsOk R vx va)(hR:∀ b o,R b o→h.get? b=some o)(k:Q (.bool (decide (va=vx))) ⟨h,gs,dr,tk,os⟩):wpAny (model prog w) A (compareOp .Is vx va) Q E ⟨h,gs,dr,tk,os⟩:=by
 rcases hk with⟨t,rfl,rfl⟩ | ⟨x,ox,rfl,hx,hc,hb,hy⟩
 ·exact wpAny_is_other rfl (by intro z;cases z) (by simpa using k)
 ·exact is_list hb (hR _ _ hx) hc (fun y e=>let ⟨oy,h⟩:=hy y e;⟨oy,hR _ _ h⟩) k
theorem Gr.in{d:Addr}{n:Nat}{env:Env}(X:Gr w mg mb G d A s (n+1))(S:St (hideAll s.heap [d]) L h nm ls mu):Gr w mg mb G d (A.deeper env) ⟨h,gs,dr,tk,os⟩ n :=
 ⟨X.D,fun b o e=>S.F.keep b o (hideAll_get _ (X.sub b o e) (fun m=>by rw [mS m,X.out] at e;cases e)),X.out,X.hA,by have:=X.dep;show A.depth+1+n < _;lia⟩
theorem Gr.le{d:Addr}{n k:Nat}(X:Gr w mg mb G d A s n)(h:k≤n):Gr w mg mb G d A s k:=⟨X.D,X.sub,X.out,X.hA,by have:=X.dep;lia⟩
theorem set1_raw{m d:Addr}{vx va:Value}{vs:List Value}{od:Obj}{R:Rel}(X:Gr w mg mb G d A s 2)(hm:R m (inst CM d))(hd:s.heap.get? d=some od)(I:IV w.params an vs od)
  (hR:∀ b o,R b o→s.heap.get? b=some o∧b≠d) (e1:vs[1]?=some va) (hh:handedIn va=true) (hk:IsOk R vx va) (hlen:4≤vs.length) :
  codeAny (model prog w) A (.call (.ref 174) ⟨[.ref m,vx],[]⟩) (Ret [d] s fun v s'=>v=.none∧∃ vs' o',s'.heap.get? d=some o'∧IV w.params an vs' o'∧((va=vx∧vs'=vs)∨vs'=putV (putV (putV vs 1 vx) 4 .none) 5 .none)) s:=by
 have hA:=X.hA
 have hdep:=X.dep
 refine enterP ps_set1 os_set1 [.ref m,vx] [(d,od)] (fn_set1 _) (X.D.keeps X.sub) (by(clear hA hlen hh e1 hd;exact Nat.le_of_lt (Nat.le_of_lt hdep))) (b_set1 _ _ _ _) rfl p_set1 (nm:=nm_set1) rfl (fun p hp=>by rw [mS hp];exact hd) (by simp) ?_
 intro Po hPo L h₁ tk S hL
 have Dg:=X.gd
 have old:=hide_old hR
 refine exc (wpAny_Expr (cStr fun k1 t1=>?_))
 refine exc (wpAny_If (wC (ld_ S v_set1_a rfl (at1 (ld_ S v_set1_self rfl ?_)))))
 refine getV (Dg.k.keeps S.F.keep) (pl _) (at_a _).at (S.old (old _ _ hm)) (S.get (j:=0) rfl) I e1 hh fun t2=>?_
 refine is_ok hk (fun b o e=>S.old (old _ _ e)) ?_
 refine wT ?_
 by_cases hva:va=vx
 ·rw [if_pos (by simpa using hva)]
  refine exc (wpAny_Return_none ?_)
  exact hPo _ _ (S.mod (t:=0) hL id rfl rfl rfl) ⟨rfl,vs,od,S.get (j:=0) rfl,I,.inl ⟨hva,rfl⟩⟩
 ·rw [if_neg (by simpa using hva)]
  refine exn ?_
  refine exc (plainObj_wpAny_Assign_Attribute (ld_ S v_set1_a rfl (ld_ S v_set1_self rfl ?_)))
  refine setV (j:=0) S (Dg.k.keeps S.F.keep) (pl _) (at_a _).at (S.old (old _ _ hm)) rfl I an_le (by lia) fun h2 t3 o2 I2 S2=>?_
  refine exc (wpAny_Assign_two (Constant_none (asA (ld_ S2 v_set1_self rfl ?_))))
  refine setV (j:=0) S2 (Dg.k.keeps S2.F.keep) (pl _) (at_mb _).at (S2.old (old _ _ hm)) rfl I2 an_le (by rw [putV_len (by lia)];lia) fun h3 t4 o3 I3 S3=>?_
  refine asA (ld_ S3 v_set1_self rfl ?_)
  refine setV (j:=0) S3 (Dg.k.keeps S3.F.keep) (pl _) (at_opc _).at (S3.old (old _ _ hm)) rfl I3 an_le (by rw [putV_len (by rw [putV_len (by lia)];lia),putV_len (by lia)];lia) fun h4' t5 o4 I4 S4=>?_
  exact exn (hPo _ _ (S4.mod (t:=0) hL id rfl rfl rfl) ⟨rfl,_,o4,S4.get (j:=0) rfl,I4,.inr rfl⟩)
theorem set2_raw{m d:Addr}{vx va:Value}{vs:List Value}{od:Obj}{R:Rel}{ys:List Int}(X:Gr w mg mb G d A s 4)(hgs:AllBare s.gens)(hm:R m (inst CM d))(hd:s.heap.get? d=some od)(I:IV w.params an vs od)
  (hR:∀ b o,R b o→s.heap.get? b=some o∧b≠d) (e0:vs[0]?=some .none) (e2:vs[2]?=some va) (e3:∃ t,vs[3]?=some (.bool t)) (hh:handedIn va=true) (hk:IsOk R vx va) (hlen:6≤vs.length) (hb:BV R vx ys) (hys:ys.length≤199) :
  codeAny (model prog w) A (.call (.ref 181) ⟨[.ref m,vx],[]⟩) (Ret [d] s fun v s'=>v=.none∧∃ vs' o',s'.heap.get? d=some o'∧IV w.params an vs' o'∧((va=vx∧vs'=vs) ∨
   ∃ new,Fresh s s' new∧vs'.length=10∧vs'[0]?=vs[0]?∧vs'[1]?=vs[1]?∧vs'[2]?=some vx∧vs'[3]?=vs[3]?∧vs'[4]?=some .none∧vs'[6]?=some .none ∧
    (∃ p,vs'[7]?=some (.ref p)∧B2 prog w (R.and new) p ys)∧∃ p led,vs'[8]?=some (.ref p)∧(R.and new) p (sob led))) s:=by
 have hA:=X.hA
 have hdep:=X.dep
 refine enterP ps_set2 os_set2 [.ref m,vx] [(d,od)] (fn_set2 _) (X.D.keeps X.sub) (by lia) (b_set2 _ _ _ _) rfl p_set2 (nm:=nm_set2) rfl (fun p hp=>by rw [mS hp];exact hd) (by simp) ?_
 intro Po hPo L h₁ tk S hL
 have Dg:=X.gd
 have old:=hide_old hR
 refine exc (wpAny_Expr (cStr fun k1 t1=>?_))
 refine exc (wpAny_If (wC (ld_ S v_set2_b rfl (at1 (ld_ S v_set2_self rfl ?_)))))
 refine getV (Dg.k.keeps S.F.keep) (pl _) (at_b _).at (S.old (old _ _ hm)) (S.get (j:=0) rfl) I e2 hh fun t2=>?_
 refine is_ok hk (fun b o e=>S.old (old _ _ e)) ?_
 refine wT ?_
 by_cases hva:va=vx
 ·rw [if_pos (by simpa using hva)]
  refine exc (wpAny_Return_none ?_)
  exact hPo _ _ (S.mod (t:=0) hL id rfl rfl rfl) ⟨rfl,vs,od,S.get (j:=0) rfl,I,.inl ⟨hva,rfl⟩⟩
 ·rw [if_neg (by simpa using hva)]
  refine exn ?_
  have l2:(putV vs 2 vx).length=vs.length:=by rw [putV_len (by lia)];lia
  have l3:(putV (putV vs 2 vx) 4 .none).length=vs.length:=by rw [putV_len (by lia),l2];lia
  have l4:(putV (putV (putV vs 2 vx) 4 .none) 5 .none).length=vs.length:=by rw [putV_len (by lia),l3];lia
  have l5:(putV (putV (putV (putV vs 2 vx) 4 .none) 5 .none) 6 .none).length=max vs.length 7:=by rw [putV_len (by lia),l4]
  refine exc (plainObj_wpAny_Assign_Attribute (ld_ S v_set2_b rfl (ld_ S v_set2_self rfl ?_)))
  refine setV (j:=0) S (Dg.k.keeps S.F.keep) (pl _) (at_b _).at (S.old (old _ _ hm)) rfl I an_le (by lia) fun h2 t3 o2 I2 S2=>?_
  refine exc (wpAny_Assign_two (Constant_none (asA (ld_ S2 v_set2_self rfl ?_))))
  refine setV (j:=0) S2 (Dg.k.keeps S2.F.keep) (pl _) (at_mb _).at (S2.old (old _ _ hm)) rfl I2 an_le (by lia) fun h3 t4 o3 I3 S3=>?_
  refine asA (ld_ S3 v_set2_self rfl ?_)
  refine setV (j:=0) S3 (Dg.k.keeps S3.F.keep) (pl _) (at_opc _).at (S3.old (old _ _ hm)) rfl I3 an_le (by lia) fun h4 t5 o4 I4 S4=>?_
  refine exc (plainObj_wpAny_Assign_Attribute (Constant_none (ld_ S4 v_set2_self rfl ?_)))
  refine setV (j:=0) S4 (Dg.k.keeps S4.F.keep) (pl _) (at_fb _).at (S4.old (old _ _ hm)) rfl I4 an_le (by lia) fun h5 t6 o5 I5 S5=>?_
  refine exc (wpAny_Expr (MethodCall_ (ld_ S5 v_set2_self rfl (methV (Dg.k.keeps S5.F.keep) (pl _) (me_chain _) (S5.old (old _ _ hm)) (S5.get (j:=0) rfl) I5 (cMn0 (fn_chain _) (Dg.k.keeps S5.F.keep) ?_)))))
  obtain⟨aj,e3⟩:=e3
  refine callS (chain_spec (R:=R) (vb:=vx) (ys:=ys) ((X.le (by decide)).in (n:=2) S5) hgs hm ⟨o5,S5.get (j:=0) rfl,I5⟩ (fun b o e=>⟨S5.old (old _ _ e),(hR _ _ e).2⟩) ?_ ?_ hb ⟨aj,?_⟩ (by lia) hys) fun v h6 gs6 t7 M hv=>?_
  ·exact putV_ne (by decide) (putV_ne (by decide) (putV_ne (by decide) (putV_ne (by decide) e0)))
  ·exact putV_ne (by decide) (putV_ne (by decide) (putV_ne (by decide) (putV_self (by lia))))
  ·exact putV_ne (by decide) (putV_ne (by decide) (putV_ne (by decide) (putV_ne (by decide) e3)))
  obtain⟨rfl,vs',o',new,ho',I',F',hl',hk',hb2,hbj⟩:=hv
  have S6:=S5.callN (s:=⟨h5,s.gens,s.drawn,t6,s.os⟩) (s':=⟨h6,gs6,s.drawn,t7,s.os⟩) (j:=0) M rfl ho' F'
  refine exn (hPo _ _ (S6.mod (t:=0) hL M.gens rfl rfl rfl) ⟨rfl,vs',o',ho',I',.inr ⟨new,St.fresh (s':=⟨h6,gs6,s.drawn,t7,s.os⟩) (mu:=[(d,o')]) S6 rfl rfl,hl',?_,?_,?_,?_,?_,?_,hb2,hbj⟩⟩)
  ·rw [hk' 0 (by lia),e0];exact putV_ne (by decide) (putV_ne (by decide) (putV_ne (by decide) (putV_ne (by decide) e0)))
  ·have e:vs[1]?=some (vs[1]'(by lia)):=List.getElem?_eq_getElem (by lia)
   rw [hk' 1 (by lia),e];exact putV_ne (by decide) (putV_ne (by decide) (putV_ne (by decide) (putV_ne (by decide) e)))
  ·rw [hk' 2 (by lia)];exact putV_ne (by decide) (putV_ne (by decide) (putV_ne (by decide) (putV_self (by lia))))
  ·rw [hk' 3 (by lia),e3];exact putV_ne (by decide) (putV_ne (by decide) (putV_ne (by decide) (putV_ne (by decide) e3)))
  ·rw [hk' 4 (by lia)];exact putV_ne (by decide) (putV_ne (by decide) (putV_self (by lia)))
  ·rw [hk' 6 (by lia)];exact putV_self (by lia)
end
section
variable{w:World}{A:Around}{E:Value→Shared→Prop}{s s':Shared}{mg mb:Str→Option Value}{G h g:Heap}{gs:Array GenState}{dr:Drawn}{tk:Nat}{os:OsState}{L a:Addr}{nm:List Str}{ls:List (Option Value)}{mu:List (Addr×Obj)}
theorem ret_mono{W:List Addr}{P P':Value→Shared→Prop}{c:Code}(h:codeAny (model prog w) A c (Ret W s P) s)(k:∀ v s',Mod W s s'→P v s'→P' v s'):codeAny (model prog w) A c (Ret W s P') s :=
 codeAny_mono h fun r s' hr=>retE (G:=fun r=>Ret W s P' r s') hr fun v M p=>⟨M,k v s' M p⟩
theorem LI.uniq{R:Rel}{x:Addr}{xs ys:List Int}(hR:∀ b o,R b o→s.heap.get? b=some o)(h:LI R x xs)(h':LI R x ys):xs=ys:=by
 refine oEEA h fun i1 n1 o1 a1=>?_
 refine oEEA h' fun i2 n2 o2 a2=>?_
 have e1:=hR _ _ o1
 have e2:=hR _ _ o2
 rw [e1] at e2
 have e3:=lob_inj (Option.some.inj e2)
 subst e3
 exact IntsAre.uniq a1 a2
theorem set2_spec{m d x:Addr}{vs:List Value}{oa ob:Option (Addr×List Int)}{R:Rel}{ys:List Int}(X:Gr w mg mb G d A s 4)(hgs:AllBare s.gens)(M:MA w R m d vs oa ob s)(hx:LI R x ys)(hl:ys.length≤199) :
  codeAny (model prog w) A (.call (.ref 181) ⟨[.ref m,.ref x],[]⟩) (Ret [d] s fun v s'=>v=.none∧∃ vs' o' new,s'.heap.get? d=some o'∧IV w.params an vs' o'∧Fresh s s' new∧MS prog w (R.and new) vs' oa (some (x,ys))) s:=by
 refine oEA M.hd fun od hd I=>?_
 refine oEAAA M.hS.bVal fun va hb hhand hbi hy=>?_
 have H:=M.hS
 refine oEEA (id hx) fun items n hxo hxi=>?_
 refine ret_mono (set2_raw X hgs M.hm hd I M.hR H.isj hb H.aj hhand (.inr ⟨x,_,rfl,hxo,rfl,hbi,fun y e=>by refine oEAEEA (hy y e) fun xs _ i n ho _=>?_;exact⟨_,ho⟩⟩) (by rw [H.len];lia) (.inl ⟨x,rfl,hx⟩) hl) fun v s' M' hv=>?_
 refine oAEEAA hv ?_;rintro rfl vs' o' ho' I' hv
 rcases hv with⟨rfl,rfl⟩ | ⟨new,F,l,e0,e1,e2,e3,e4,e6,h7,h8⟩
 ·refine oEA (hy x rfl) ?_;rintro ys' rfl hl'
  have:ys'=ys:=LI.uniq (s:=s) (fun b o e=>(M.hR b o e).1) hl' hx
  subst this
  exact⟨rfl,_,o',[],ho',I',Fresh.nil,H.mono fun b o e=>.inl e⟩
 ·refine⟨rfl,vs',o',new,ho',I',F,⟨by rw [e0];exact H.isj,?_,⟨e2,hx.mono fun b o e=>.inl e,hl,h7,.inl e6⟩,by rw [e3];exact H.aj,.inl e4,h8,l⟩⟩
  have:=H.a
  match oa,this with
  | some (l,xs),h=>exact⟨by rw [e1];exact h.1,h.2.1.mono fun b o e=>.inl e,h.2.2⟩
  | none,h=>rw [e1];exact h
noncomputable def AV(R:Rel)(va:Value)(oa:Option (Addr×List Int)):Prop:=(∃ l xs,va=.ref l∧oa=some (l,xs)∧LI R l xs∧xs.length≤199)∨(∃ t,va=.str (ofString "") t∧oa=none)
theorem AV.isOk{R:Rel}{va:Value}{oa:Option (Addr×List Int)}(h:AV R va oa):IsOk R va .none:=by
 rcases h with⟨l,xs,rfl,_,⟨i,n,ho,_⟩,_⟩ | ⟨t,rfl,_⟩
 ·refine .inr ⟨l,_,rfl,ho,rfl,?_,?_⟩
  ·intro i e;cases e
  ·intro y e;cases e
 ·exact .inl ⟨t,rfl,rfl⟩
theorem AV.bv{R:Rel}{va:Value}{oa:Option (Addr×List Int)}(h:AV R va oa):∃ ys,BV R va ys∧ys.length≤199∧∀ l xs,oa=some (l,xs)→ys=xs:=by
 rcases h with⟨l,xs,rfl,rfl,hl,hn⟩ | ⟨t,rfl,rfl⟩
 ·exact⟨xs,.inl ⟨l,rfl,hl⟩,hn,fun l xs e=>by cases e;rfl⟩
 ·exact⟨[],.inr ⟨t,rfl,rfl⟩,by simp,fun l xs e=>nomatch e⟩
theorem AV.ne{R:Rel}{va:Value}{oa:Option (Addr×List Int)}(h:AV R va oa):Value.none≠va:=by
 rcases h with⟨l,xs,rfl,_⟩ | ⟨t,rfl,_⟩<;>intro e<;>cases e
theorem sets_spec{m d:Addr}{vs:List Value}{va vb:Value}{oa ob:Option (Addr×List Int)}{od:Obj}{R:Rel}(X:Gr w mg mb G d A s 6)(hgs:AllBare s.gens)(hm:R m (inst CM d))(hd:s.heap.get? d=some od)(I:IV w.params an vs od)
  (hR:∀ b o,R b o→s.heap.get? b=some o∧b≠d) (e0:vs[0]?=some .none) (e1:vs[1]?=some .none) (e2:vs[2]?=some .none) (e3:∃ t,vs[3]?=some (.bool t)) (hl:vs.length=4) (ha:AV R va oa) (hb:AV R vb ob) :
  codeAny (model prog w) A (.call (.ref 167) ⟨[.ref m,va,vb],[]⟩) (Ret [d] s fun v s'=>v=.none∧∃ vs' o' new,s'.heap.get? d=some o'∧IV w.params an vs' o'∧Fresh s s' new∧MS prog w (R.and new) vs' oa ob) s:=by
 have hA:=X.hA
 have hdep:=X.dep
 refine enterP ps_sets os_sets [.ref m,va,vb] [(d,od)] (fn_sets _) (X.D.keeps X.sub) (by lia) (b_sets _ _ _ _ _) rfl p_sets (nm:=nm_sets) rfl (fun p hp=>by rw [mS hp];exact hd) (by simp) ?_
 intro Po hPo L h₁ tk S hL
 have Dg:=X.gd
 have old:=hide_old hR
 obtain⟨aj,e3⟩:=e3
 refine exc (wpAny_Expr (cStr fun k1 t1=>?_))
 refine exc (wpAny_Expr (MethodCall_ (ld_ S v_sets_self rfl (methV (Dg.k.keeps S.F.keep) (pl _) (me_set1 _) (S.old (old _ _ hm)) (S.get (j:=0) rfl) I (cMn (fn_set1 _) (arg_ (ld_ S v_sets_a rfl (arg0 ⟨Dg.k.keeps S.F.keep,?_⟩))))))))
 refine callS (set1_raw (R:=R) (va:=.none) ((X.le (k:=3) (by decide)).in S) hm (S.get (j:=0) rfl) I (fun b o e=>⟨S.old (old _ _ e),(hR _ _ e).2⟩) e1 rfl ha.isOk (by lia)) fun v h2 gs2 t2 M2 hv=>?_
 refine oAEEAA hv ?_;rintro rfl vs2 o2 ho2 I2 hv
 have S2:=S.call1 (s:=⟨h₁,s.gens,s.drawn,t1,s.os⟩) (s':=⟨h2,gs2,s.drawn,t2,s.os⟩) (j:=0) M2 rfl ho2
 rcases hv with⟨e,_⟩ | rfl
 ·exact absurd e ha.ne
 have l1:(putV vs 1 va).length=4:=by rw [putV_len (by lia)];lia
 have l2:(putV (putV vs 1 va) 4 .none).length=5:=by rw [putV_len (by lia)];lia
 have l3:(putV (putV (putV vs 1 va) 4 .none) 5 .none).length=6:=by rw [putV_len (by lia)];lia
 refine exc (wpAny_Expr (MethodCall_ (ld_ S2 v_sets_self rfl (methV (Dg.k.keeps S2.F.keep) (pl _) (me_set2 _) (S2.old (old _ _ hm)) (S2.get (j:=0) rfl) I2 (cMn (fn_set2 _) (arg_ (ld_ S2 v_sets_b rfl (arg0 ⟨Dg.k.keeps S2.F.keep,?_⟩))))))))
 refine oEAA hb.bv fun ys hbv hys hyx=>?_
 refine callS (set2_raw (R:=R) (va:=.none) (ys:=ys) ((X.le (k:=5) (by decide)).in S2) (M2.gens hgs) hm (S2.get (j:=0) rfl) I2 (fun b o e=>⟨S2.old (old _ _ e),(hR _ _ e).2⟩) ?_ ?_ ⟨aj,?_⟩ rfl hb.isOk (by lia) hbv hys) fun v h3 gs3 t3 M3 hv=>?_
 ·exact putV_ne (by decide) (putV_ne (by decide) (putV_ne (by decide) e0))
 ·exact putV_ne (by decide) (putV_ne (by decide) (putV_ne (by decide) e2))
 ·exact putV_ne (by decide) (putV_ne (by decide) (putV_ne (by decide) e3))
 refine oAEEAA hv ?_;rintro rfl vs3 o3 ho3 I3 hv
 rcases hv with⟨e,_⟩ | ⟨new,F,l,d0,d1,d2,d3,d4,d6,h7,h8⟩
 ·exact absurd e hb.ne
 have S3:=S2.callN (s:=⟨h2,gs2,s.drawn,t2,s.os⟩) (s':=⟨h3,gs3,s.drawn,t3,s.os⟩) (j:=0) M3 rfl ho3 F
 refine exn (hPo _ _ (S3.mod (t:=0) hL (fun _=>M3.gens (M2.gens hgs)) rfl rfl rfl) ⟨rfl,vs3,o3,new,ho3,I3,St.fresh (s':=⟨h3,gs3,s.drawn,t3,s.os⟩) (mu:=[(d,o3)]) S3 rfl rfl,⟨?_,?_,?_,⟨aj,?_⟩,.inl d4,h8,l⟩⟩)
 ·rw [d0];exact putV_ne (by decide) (putV_ne (by decide) (putV_ne (by decide) e0))
 ·have d1':vs3[1]?=some va:=by rw [d1];exact putV_ne (by decide) (putV_ne (by decide) (putV_self (by lia)))
  rcases ha with⟨l,xs,rfl,rfl,hl,hn⟩ | ⟨t,rfl,rfl⟩
  ·exact⟨d1',hl.mono fun b o e=>.inl e,hn⟩
  ·exact⟨t,d1'⟩
 ·rcases hb with⟨l,xs,rfl,rfl,hl,hn⟩ | ⟨t,rfl,rfl⟩
  ·obtain rfl:=hyx l xs rfl
   exact⟨d2,hl.mono fun b o e=>.inl e,hn,h7,.inl d6⟩
  ·exact⟨t,d2⟩
 ·rw [d3];exact putV_ne (by decide) (putV_ne (by decide) (putV_ne (by decide) e3))
theorem init_spec{m d:Addr}{va vb:Value}{aj:Bool}{oa ob:Option (Addr×List Int)}{od:Obj}{R:Rel}(X:Gr w mg mb G d A s 8)(hgs:AllBare s.gens)(hm:R m (inst CM d))(hd:s.heap.get? d=some od)(I:IV w.params an [] od)
  (hR:∀ b o,R b o→s.heap.get? b=some o∧b≠d) (ha:AV R va oa) (hb:AV R vb ob) (args:Args) (hbind:BindsTo s (fdOf (o160 w.params)) args (ps_init.zip [.ref m,.none,va,vb,.bool aj])) :
  codeAny (model prog w) A (.call (.ref 160) args) (Ret [d] s fun v s'=>v=.none∧∃ vs' o' new,s'.heap.get? d=some o'∧IV w.params an vs' o'∧Fresh s s' new∧MS prog w (R.and new) vs' oa ob) s:=by
 have hA:=X.hA
 have hdep:=X.dep
 refine enterP ps_init os_init [.ref m,.none,va,vb,.bool aj] [(d,od)] (fn_init _) (X.D.keeps X.sub) (by lia) hbind rfl p_init (nm:=nm_init) rfl (fun p hp=>by rw [mS hp];exact hd) (by simp) ?_
 intro Po hPo L h₁ tk S hL
 have Dg:=X.gd
 have old:=hide_old hR
 refine exc (wpAny_Expr (cStr fun k1 t1=>?_))
 refine exc (plainObj_wpAny_Assign_Attribute (ld_ S v_init_isjunk rfl (ld_ S v_init_self rfl ?_)))
 refine setV (j:=0) S (Dg.k.keeps S.F.keep) (pl _) (at_isjunk _).at (S.old (old _ _ hm)) rfl I an_le (by simp) fun h2 t3 o2 I2 S2=>?_
 refine exc (wpAny_Assign_two (Constant_none (asA (ld_ S2 v_init_self rfl ?_))))
 refine setV (j:=0) S2 (Dg.k.keeps S2.F.keep) (pl _) (at_a _).at (S2.old (old _ _ hm)) rfl I2 an_le (by simp [putV]) fun h3 t4 o3 I3 S3=>?_
 refine asA (ld_ S3 v_init_self rfl ?_)
 refine setV (j:=0) S3 (Dg.k.keeps S3.F.keep) (pl _) (at_b _).at (S3.old (old _ _ hm)) rfl I3 an_le (by simp [putV]) fun h4 t5 o4 I4 S4=>?_
 refine exc (plainObj_wpAny_Assign_Attribute (ld_ S4 v_init_autojunk rfl (ld_ S4 v_init_self rfl ?_)))
 refine setV (j:=0) S4 (Dg.k.keeps S4.F.keep) (pl _) (at_autojunk _).at (S4.old (old _ _ hm)) rfl I4 an_le (by simp [putV]) fun h5 t6 o5 I5 S5=>?_
 have hv5:putV (putV (putV (putV [] 0 .none) 1 .none) 2 .none) 3 (.bool aj)=[.none,.none,.none,.bool aj]:=rfl
 rw [hv5] at I5
 refine exc (wpAny_Expr (MethodCall_ (ld_ S5 v_init_self rfl (methV (Dg.k.keeps S5.F.keep) (pl _) (me_sets _) (S5.old (old _ _ hm)) (S5.get (j:=0) rfl) I5 (cMn (fn_sets _) (arg_ (ld_ S5 v_init_a rfl (arg_ (ld_ S5 v_init_b rfl (arg0 ⟨Dg.k.keeps S5.F.keep,?_⟩))))))))))
 refine callS (sets_spec (R:=R) ((X.le (k:=7) (by decide)).in S5) hgs hm (S5.get (j:=0) rfl) I5 (fun b o e=>⟨S5.old (old _ _ e),(hR _ _ e).2⟩) rfl rfl rfl ⟨aj,rfl⟩ rfl ha hb) fun v h6 gs6 t7 M6 hv=>?_
 refine oAEEEAAA hv ?_;rintro rfl vs6 o6 new ho6 I6 F hS
 have S6:=S5.callN (s:=⟨h5,s.gens,s.drawn,t6,s.os⟩) (s':=⟨h6,gs6,s.drawn,t7,s.os⟩) (j:=0) M6 rfl ho6 F
 exact exn (hPo _ _ (S6.mod (t:=0) hL M6.gens rfl rfl rfl) ⟨rfl,vs6,o6,new,ho6,I6,St.fresh (s':=⟨h6,gs6,s.drawn,t7,s.os⟩) (mu:=[(d,o6)]) S6 rfl rfl,hS⟩)
end
theorem join{M:Model}{A:Around}{E:Value→Shared→Prop}{s:Shared}{env:Env}{st:Stmt}{rest:List Stmt}{Q:Flow→Shared→Prop}(I:Shared→Prop)(h:∀ I':Shared→Prop,(∀ s',I s'→I' s')→wpAny M A (exec st env) (fun f s'=>f=.next∧I' s') E s)(k:∀ s',I s'→wpAny M A (execs rest env) Q E s'):wpAny M A (execs (st::rest) env) Q E s :=
 exc (wpAny_mono (h I fun _ x=>x) (fun f s' hf=>by obtain⟨rfl,i⟩:=hf;exact k s' i) fun _ _ x=>x)
theorem joinO{M:Model}{A:Around}{E:Value→Shared→Prop}{s:Shared}{env:Env}{st:Stmt}{rest:List Stmt}{Q:Flow→Shared→Prop}(I:Shared→Prop)(h:wpAny M A (exec st env) (fun f s'=>f=.next∧I s') E s)(k:∀ s',I s'→wpAny M A (execs rest env) Q E s'):wpAny M A (execs (st::rest) env) Q E s :=
 exc (wpAny_mono h (fun f s' hf=>by obtain⟨rfl,i⟩:=hf;exact k s' i) fun _ _ x=>x)
theorem cnt_append(k:Int)(ys:List Int)(y:Int):cnt k (ys++[y])=cnt k ys+(if y=k then 1 else 0):=by
 unfold cnt
 rw [List.count_append,List.count_singleton]
 by_cases h:y=k<;>simp [h]
noncomputable def DG(prog:Program)(w:World)(o:Obj)(n:Nat)(F f:Int→Int):Prop:=∃ kvs,DI prog w o kvs∧kvs.length≤n∧∀ k,match valueAt kvs k with
 | some v=>∃ t,v=.int (F k) t
 | none=>F k=f k
theorem DG.get {prog:Program} {w:World} {kvs:List (Int×Value)} {F f:Int→Int} (h:∀ k,match valueAt kvs k with
 | some v=>∃ t,v=.int (F k) t
 | none=>F k=f k) (k:Int) (t:Tok):∃ t',(valueAt kvs k).getD (.int (f k) t)=.int (F k) t':=by
 have:=h k
 cases hc:valueAt kvs k with
 | some v=>rw [hc] at this;obtain⟨t',rfl⟩:=this;exact⟨t',rfl⟩
 | none=>rw [hc] at this;exact⟨t,by rw [this];rfl⟩
theorem DG.put {kvs:List (Int×Value)} {F f:Int→Int} (h:∀ k,match valueAt kvs k with
 | some v=>∃ t,v=.int (F k) t
 | none=>F k=f k) (x n:Int) (t:Tok) (k:Int):match valueAt (stored kvs x (.int n t)) k with
 | some v=>∃ t,v=.int ((fun k=>if k=x then n else F k) k) t
 | none=>(fun k=>if k=x then n else F k) k=f k:=by
 rw [valueAt_stored]
 by_cases e:k=x
 ·rw [if_pos e]
  exact⟨t,by simp [e]⟩
 ·rw [if_neg e]
  have:=h k
  cases hc:valueAt kvs k with
  | some v=>rw [hc] at this;obtain⟨t',rfl⟩:=this;exact⟨t',by simp [e]⟩
  | none=>rw [hc] at this;simpa [e] using this
theorem Kn.mono{g:Heap}{mu mu':List (Addr×Obj)}{b:Addr}{o:Obj}(k:Kn g mu b o)(h:∀ p∈mu,p∈mu'):Kn g mu' b o:=k.elim .inl fun m=>.inr (h _ m)
theorem cntI{α:Type}{l:List α}{i:Nat}{v:α}(h:l[i]?=some v):l.drop i=v::l.drop (i+1):=by
 have:=(List.getElem?_eq_some_iff.mp h)
 obtain⟨hl,rfl⟩:=this
 exact List.drop_eq_getElem_cons hl
theorem qm_le:∀ (xs:List Int) (f:Int→Int),qm xs f≤xs.length
 | [],_=>Nat.le_refl _
 | x::xs,f=>by
  have:=qm_le xs fun y=>if y=x then f x - 1 else f y
  simp only [qm_n,qm_c,List.length_cons]
  split<;>omega
section
variable{w:World}{A:Around}{E:Value→Shared→Prop}{s s':Shared}{mg mb:Str→Option Value}{G h g:Heap}{gs:Array GenState}{dr:Drawn}{tk:Nat}{os:OsState}{L a:Addr}{nm:List Str}{ls:List (Option Value)}{mu:List (Addr×Obj)}
inductive NJ1(w:World)(s:Shared)(m:Addr)(d:Addr)(vs:List Value)(ys:List Int)(R:Rel)(L:Addr)(s':Shared):Prop
 | mk (h' gs' tk' o' vs' x1 x2 p op new) (q1:s'=⟨h',gs',s.drawn,tk',s.os⟩) (q2:AllBare gs') (q3:St (hideAll s.heap [d]) L h' nm_quick [some (.ref m),x1,x2,none,none,none,none] ((d,o')::new)) (q4:IV w.params an vs' o') (q5:vs'.length=10) (q6:vs'[6]?=some (.ref p)) (q7:(∀ i,i≠6→vs'[i]?=vs[i]?)) (q8:(R.and new) p op) (q9:(p == sysModules)=false) (q10:DF prog w op fun k=>cnt k ys):NJ1 w s m d vs ys R L s'
inductive NJ2(w:World)(m:Addr)(d:Addr)(ys:List Int)(h₁:Heap)(o4:Obj)(i:Nat)(ls:List (Option Value))(mu:List (Addr×Obj)):Prop
 | mk (o:Obj) (x2:Option Value) (q1:ls=[some (.ref m),some (.ref h₁.objs.size),x2,none,none,none,none]) (q2:mu=[(h₁.objs.size,o),(d,o4)]) (q3:DG prog w o i (fun k=>cnt k (ys.take i)) fun _=>0):NJ2 w m d ys h₁ o4 i ls mu
inductive NJ3(w:World)(m:Addr)(d:Addr)(xs:List Int)(ys:List Int)(o2:Obj)(p:Addr)(new:List (Addr×Obj))(h3:Heap)(h5:Heap)(i:Nat)(ls:List (Option Value))(mu:List (Addr×Obj)):Prop
 | mk (o:Obj) (y2 y6:Option Value) (F:Int→Int) (c:Nat) (t:Tok) (q1:ls=[some (.ref m),some (.ref p),y2,some (.ref h3.objs.size),some (.ref h5.objs.size),some (.int c t),y6]) (q2:mu=(h5.objs.size,bmObj "dict.__contains__" h3.objs.size)::(h3.objs.size,o)::(d,o2)::new) (q3:DG prog w o i F (fun k=>cnt k ys)) (q4:c+qm (xs.drop i) F=qm xs fun k=>cnt k ys):NJ3 w m d xs ys o2 p new h3 h5 i ls mu
inductive NJ4(s:Shared)(m:Addr)(d:Addr)(L:Addr)(o2:Obj)(p:Addr)(new:List (Addr×Obj))(h3:Heap)(h5:Heap)(own:List (Addr×Obj))(gs9:Array GenState)(o:Obj)(F:Int→Int)(c:Nat)(t:Tok)(x:Int)(u:Tok)(s':Shared):Prop
 | mk (h' tk' t') (q1:s'=⟨h',gs9,s.drawn,tk',s.os⟩) (q2:St (hideAll s.heap [d]) L h' nm_quick [some (.ref m),some (.ref p),some (.int x u),some (.ref h3.objs.size),some (.ref h5.objs.size),some (.int c t),some (.int (F x) t')] ((h5.objs.size,bmObj "dict.__contains__" h3.objs.size)::(h3.objs.size,o)::(d,o2)::new++own)):NJ4 s m d L o2 p new h3 h5 own gs9 o F c t x u s'
theorem quick_spec{m d la lb:Addr}{vs:List Value}{xs ys:List Int}{R:Rel}(X:Gr w mg mb G d A s 3)(hgs:AllBare s.gens)(M:MA w R m d vs (some (la,xs)) (some (lb,ys)) s)(hz:xs.length+ys.length≠0) :
  codeAny (model prog w) A (.call (.ref 232) ⟨[.ref m],[]⟩) (Ret [d] s fun v s'=>(∃ k,v=.float (ratioF (qm xs fun k=>cnt k ys:Nat) (xs.length+ys.length)) (k+1)∧k+1≤s'.toks)∧∃ vs' o' new,s'.heap.get? d=some o'∧IV w.params an vs' o'∧Fresh s s' new∧MS prog w (R.and new) vs' (some (la,xs)) (some (lb,ys))) s:=by
 refine oEA M.hd fun od hd I=>?_
 have H:=M.hS
 have hm:=M.hm
 have hR:=M.hR
 have hA:=X.hA
 have hdep:=X.dep
 refine enterP ps_quick os_quick [.ref m] [(d,od)] (fn_quick _) (X.D.keeps X.sub) (by lia) (b_quick _ _ _) rfl p_quick (nm:=nm_quick) rfl (fun p hp=>by rw [mS hp];exact hd) (by simp) ?_
 intro Po hPo L h₁ tk S hL
 have Dg:=X.gd
 have old:=hide_old hR
 have hlen:=H.len
 refine oAA H.a ?_;rintro e1 ⟨ia,na,hao,hai⟩ hxl
 refine oAAAA H.b ?_;rintro e2 ⟨ib,nb,hbo,hbi⟩ hyl h7 h6
 refine exc (wpAny_Expr (cStr fun k1 t1=>?_))
 refine join (NJ1 w s m d vs ys R L) ?_ ?_
 ·intro I' hI
  refine wpAny_If (wC (at1 (ld_ S v_quick_self rfl ?_)))
  rcases h6 with h6 | ⟨p,op,h6,hp,hsys,hD⟩
  ·refine getV (Dg.k.keeps S.F.keep) (pl _) (at_fb _).at (S.old (old _ _ hm)) (S.get (j:=0) rfl) I h6 rfl fun t2=>?_
   refine Constant_none (wpAny_is_self rfl (wT ?_))
   rw [if_pos rfl]
   refine exc (wpAny_Assign_two (newD S fun h3 o3 D3 S3=>asA (ld_ S3 v_quick_self rfl ?_)))
   refine setV (j:=1) S3 (Dg.k.keeps S3.F.keep) (pl _) (at_fb _).at (S3.old (old _ _ hm)) rfl I an_le (by lia) fun h4 t4 o4 I4 S4=>?_
   rw [putV_set (by lia)] at I4
   refine assign_Name (st_ S4 v_quick_fullbcount (nB rfl) fun h5 t5 S5=>?_)
   have hsys:(h₁.objs.size == sysModules)=false:=notSys (Nat.lt_of_lt_of_le X.big (ntr hL (Nat.le_of_lt S.F.ns.lt)))
   refine exc (wpAny_For (at1 (ld_ S5 v_quick_self rfl ?_)))
   refine getV (Dg.k.keeps S5.F.keep) (pl _) (at_b _).at (S5.old (old _ _ hm)) (S5.get (j:=1) rfl) I4 (by rw [List.getElem?_set_ne (by decide)];exact e2) rfl fun t6=>?_
   refine forL (items:=ib) (NJ2 w m d ys h₁ o4)
    v_quick_elt S5 hA hgs (lob_list (S5.old (old _ _ hbo))) (.inl ⟨_,old _ _ hbo⟩) ?_ ?_ ?_ ?_
   ·rintro i _ _ ⟨o,x2,rfl,rfl,_⟩
    exact nB rfl
   ·rintro i v _ _ own h6 gs6 tk6 hv ⟨o,x2,rfl,rfl,kvs,D,hkl,f⟩ hg6 S6 T hT
    refine oEEA (IntsAre.get hbi hv) ?_;rintro y u rfl hy
    have hyi:=lt_of_get hy
    refine exc (wpAny_Assign_Subscript (wpAny_BinOp (MethodCall_ (ld_ S6 v_quick_fullbcount rfl (mD PySem.F.slot_dict_get PySem.F.type_dict_get (D.of (S6.get (j:=0) rfl)) (callWith_method1 (arg_ (ld_ S6 v_quick_elt rfl (arg_ (cInt fun k7 t7=>arg0 ?_))))))))))
    refine dGet (D.of (S6.get (j:=0) rfl)) hsys fun t8=>?_
    obtain⟨t',e⟩:=DG.get (prog:=prog) (w:=w) f y k7
    rw [e]
    refine cInt fun k9 t9=>add_ fun k10 t10=>ld_ S6 v_quick_fullbcount rfl (ld_ S6 v_quick_elt rfl ?_)
    refine setI (j:=0) S6 rfl D (by(clear e hv hy hsys e2 hxl e1 hlen hL hdep hA hd hz;exact ntr ‹_› (by lia))) fun h11 t11 o11 D11 S11=>exn (TN hT (mu:=[(h₁.objs.size,o11),(d,o4)]) S11 hg6 ⟨o11,_,rfl,rfl,_,D11,ntr stored_len (by(clear e hyi hv hy hsys hyl e2 hxl e1 hlen hL hdep hA hd hz;exact Nat.lt_of_le_of_lt hkl Nat.le.refl)),fun k=>?_⟩)
    have:=DG.put f y (cnt y (ys.take i)+1) k10 k
    have e2:(fun k=>cnt k (ys.take (i+1)))=fun k=>if k=y then cnt y (ys.take i)+1 else cnt k (ys.take i):=by
     funext k
     rw [take_succ_of hy,cnt_append]
     by_cases hk:k=y
     ·subst hk;simp
     ·have:¬ y=k:=fun z=>hk z.symm
      simp [hk,this]
    have e3:=congrFun e2 k
    dsimp only at e3 this ⊢
    rw [e3]
    exact this
   ·rintro _ _ h7 gs7 tk7 ⟨o,x2,rfl,rfl,kvs,D,hkl,f⟩ hg7 S7
    have S8:=S7.perm (List.Perm.swap _ _ _)
    refine exn ⟨rfl,hI _ ⟨h7,gs7,tk7,o4,_,_,_,_,o,[(h₁.objs.size,o)],rfl,hg7,S8,I4,by simpa using hlen,by simp [hlen],fun i hi=>?_,.inr (.head _),hsys,kvs,D,?_⟩⟩
    ·rw [List.getElem?_set_ne (fun z=>hi z.symm)]
    ·rw [hbi.length,List.take_length] at f
     exact f
   ·refine⟨o3,none,rfl,rfl,[],D3,Nat.le_refl _,fun k=>?_⟩
    simp [valueAt,cnt]
  ·refine getV (Dg.k.keeps S.F.keep) (pl _) (at_fb _).at (S.old (old _ _ hm)) (S.get (j:=0) rfl) I h6 rfl fun t2=>?_
   refine Constant_none (wpAny_is_other rfl (by intro z;cases z) (wT ?_))
   rw [if_neg (by decide)]
   exact exn ⟨rfl,hI _ ⟨h₁,s.gens,t2,od,vs,none,none,p,op,[],rfl,hgs,S,I,hlen,h6,fun _ _=>rfl,.inl hp,hsys,hD⟩⟩
 ·rintro _ ⟨h2,gs2,tk2,o2,vs2,x1,x2,p,op,new,rfl,hg2,S2,I2,hl2,f6,fk,hp,hsys,kf,DF,ff⟩
  have big:188 < s.heap.objs.size:=X.big
  have f1:vs2[1]?=some (.ref la):=by rw [fk 1 (by decide)];exact e1
  have f2:vs2[2]?=some (.ref lb):=by rw [fk 2 (by decide)];exact e2
  have hpk:Kn (hideAll s.heap [d]) new p op:=hp.elim (fun e=>.inl (old _ _ e)) .inr
  refine exc (asgN (at1 (ld_ S2 v_quick_self rfl ?_)))
  refine getV (Dg.k.keeps S2.F.keep) (pl _) (at_fb _).at (S2.old (old _ _ hm)) (S2.get (j:=0) rfl) I2 f6 rfl fun t3=>?_
  refine st_ S2 v_quick_fullbcount (nB rfl) fun h3 t3 S3=>?_
  refine exc (asgN (newD S3 fun h4 o4 D4 S4=>st_ S4 v_quick_avail (nB rfl) fun h5 t5 S5=>?_))
  have hsa:(h3.objs.size == sysModules)=false:=notSys (Nat.lt_of_lt_of_le big (ntr hL (Nat.le_of_lt S3.F.ns.lt)))
  refine exc (Assign_Tuple_swapped (names:=[ofString "availhas",ofString "matches"]) (Tuple_ (arg_ (at1 (ld_ S5 v_quick_avail rfl (contB S5 (D4.of (S5.get (j:=0) rfl)) fun h6 t6 S6=>?_))))) (hw:=by kernel_rfl))
  refine arg_ (cInt fun k7 t7=>arg0 (tup2 S6 (by exact hA) v_quick_availhas v_quick_matches (nB rfl) (nB rfl) fun h8 t8 S8=>?_))
  refine exc (wpAny_For (at1 (ld_ S8 v_quick_self rfl ?_)))
  refine getV (Dg.k.keeps S8.F.keep) (pl _) (at_a _).at (S8.old (old _ _ hm)) (S8.get (j:=2) rfl) I2 f1 rfl fun t9=>?_
  refine forL (items:=ia) (NJ3 w m d xs ys o2 p new h3 h5)
   v_quick_elt S8 hA hg2 (lob_list (S8.old (old _ _ hao))) (.inl ⟨_,old _ _ hao⟩) ?_ ?_ ?_ ?_
  ·rintro i _ _ ⟨o,y2,y6,F,c,t,rfl,rfl,_⟩
   exact nB rfl
  ·rintro i v _ _ own h9 gs9 tk9 hv ⟨o,y2,y6,F,c,t,rfl,rfl,⟨kvs,D,hkl,f⟩,hq⟩ hg9 S9 T hT
   refine oEEA (IntsAre.get hai hv) ?_;rintro x u rfl hx
   have hxi:=lt_of_get hx
   refine join (NJ4 s m d L o2 p new h3 h5 own gs9 o F c t x u) ?_ ?_
   ·intro I' hI
    refine wpAny_If (isTrue_plain (Call_ (ld_ S9 v_quick_availhas rfl (cBd (arg_ (ld_ S9 v_quick_elt rfl (arg0 ⟨S9.get (j:=0) rfl,?_⟩)))))))
    refine callDCont (S9.get (j:=0) rfl) hsa (D.of (S9.get (j:=1) rfl)) fun t10=>wT ?_
    have fx:=f x
    cases hc:valueAt kvs x with
    | some v =>
     rw [hc] at fx
     obtain⟨t',rfl⟩:=fx
     rw [if_pos (by rfl)]
     refine exc (asgN (Subscript_ (ld_ S9 v_quick_avail rfl (ld_ S9 v_quick_elt rfl (itemD (D.of (S9.get (j:=1) rfl)) hc fun t11=>?_)))))
     exact st_ S9 v_quick_numb (nB rfl) fun h12 t12 S12=>exn ⟨rfl,hI _ ⟨h12,t12,t',rfl,S12⟩⟩
    | none =>
     rw [hc] at fx
     replace fx:F x=cnt x ys:=fx
     rw [if_neg (by decide)]
     have hpD:h9.DictOf (intKind prog w) p kf:=DF.of (S9.kn (hpk.mono fun q hq=>mF _ (.tail _ (.tail _ (.tail _ hq)))))
     refine exc (asgN (MethodCall_ (ld_ S9 v_quick_fullbcount rfl (mD PySem.F.slot_dict_get PySem.F.type_dict_get hpD (callWith_method1 (arg_ (ld_ S9 v_quick_elt rfl (arg_ (cInt fun k11 t11=>arg0 ?_)))))))))
     refine dGet hpD hsys fun t12=>?_
     obtain⟨t',e⟩:=DG.get (prog:=prog) (w:=w) (f:=fun _=>0) ff x k11
     rw [e]
     rw [← fx]
     exact st_ S9 v_quick_numb (nB rfl) fun h12 t12 S12=>exn ⟨rfl,hI _ ⟨h12,t12,t',rfl,S12⟩⟩
   ·rintro _ ⟨h10,t10,t',rfl,S10⟩
    refine exc (wpAny_Assign_Subscript (wpAny_BinOp (ld_ S10 v_quick_numb rfl (cInt fun k11 t11=>sub_ fun k12 t12=>ld_ S10 v_quick_avail rfl (ld_ S10 v_quick_elt rfl ?_)))))
    refine setI (j:=1) S10 rfl D (by(clear hv hx hq hsa f2 f1 big hsys f6 hl2 hyl e2 e1 hlen hL hdep hA hd hz;omega)) fun h11 t11 o11 D11 S11=>?_
    have D12:DG prog w o11 (i+1) (fun k=>if k=x then F x - 1 else F k) (fun k=>cnt k ys):=⟨_,D11,ntr stored_len (by(clear hxi hv hx hq hsa f2 f1 big hsys f6 hl2 hyl e2 hxl e1 hlen hL hdep hA hd hz;omega)),fun k=>DG.put f x (F x - 1) k12 k⟩
    rw [cntI hx] at hq
    simp only [qm_n,qm_c] at hq
    refine exc (wpAny_If (wC (ld_ S11 v_quick_numb rfl (cInt fun k13 t13=>P.gt_int (wT ?_)))))
    by_cases hpos:F x > 0
    ·rw [if_pos (by simpa using hpos)]
     refine exc (asgN (wpAny_BinOp (ld_ S11 v_quick_matches rfl (cInt fun k14 t14=>add_ fun k15 t15=>?_))))
     refine st_ S11 v_quick_matches (nB rfl) fun h16 t16 S16=>exn (exn ?_)
     refine TN hT (mu:=(h5.objs.size,bmObj "dict.__contains__" h3.objs.size)::(h3.objs.size,o11)::(d,o2)::new) S16 hg9 ⟨o11,_,_,_,c+1,k15,rfl,rfl,D12,?_⟩
     rw [if_pos hpos] at hq
     lia
    ·rw [if_neg (by simpa using hpos)]
     refine exn (exn ?_)
     refine TN hT (mu:=(h5.objs.size,bmObj "dict.__contains__" h3.objs.size)::(h3.objs.size,o11)::(d,o2)::new) S11 hg9 ⟨o11,_,_,_,c,t,rfl,rfl,D12,?_⟩
     rw [if_neg hpos] at hq
     lia
  ·rintro _ _ h9 gs9 tk9 ⟨o,y2,y6,F,c,t,rfl,rfl,_,hq⟩ hg9 S9
   rw [hai.length,List.drop_length] at hq
   have hc:c=qm xs fun k=>cnt k ys:=by simpa [qm_n,qm_c] using hq
   subst hc
   refine exc (wpAny_Return_some (Call_ (lg_ S9 Dg g_quick__calculate_ratio (gn_calc _) (cFn (fn_calc w.params) (arg_ (ld_ S9 v_quick_matches rfl (arg_ (wpAny_BinOp (Call_ (lb_ S9 Dg g_quick_len (bn_len _) (cB (arg_ (at1 (ld_ S9 v_quick_self rfl ?_))))))))))))))
   refine getV (Dg.k.keeps S9.F.keep) (pl _) (at_a _).at (S9.old (old _ _ hm)) (S9.get (j:=2) rfl) I2 f1 rfl fun t10=>?_
   refine arg0 (len_ (lob_list (S9.old (old _ _ hao))) (by rw [hai.length];(clear hq hsa f2 f1 big hsys f6 hl2 hyl e2 e1 hlen hL hdep hA hd hz;exact ntr ‹_› (by lia))) fun k11 t11=>?_)
   refine Call_ (lb_ S9 Dg g_quick_len (bn_len _) (cB (arg_ (at1 (ld_ S9 v_quick_self rfl ?_)))))
   refine getV (Dg.k.keeps S9.F.keep) (pl _) (at_b _).at (S9.old (old _ _ hm)) (S9.get (j:=2) rfl) I2 f2 rfl fun t12=>?_
   refine arg0 (len_ (lob_list (S9.old (old _ _ hbo))) (by rw [hbi.length];(clear hq hsa f2 f1 big hsys f6 hl2 e2 hxl e1 hlen hL hdep hA hd hz;omega)) fun k13 t13=>add_ fun k14 t14=>arg0 ⟨Dg.k.keeps S9.F.keep,?_⟩)
   rw [hai.length,hbi.length]
   have:=qm_le xs fun k=>cnt k ys
   refine callS (calc_spec (Dg.keeps S9.F.keep) (by show A.depth+1 < _;exact Nat.le_of_lt (Nat.le_of_lt hdep)) (by lia) (by(clear hq hsa f2 f1 big hsys f6 hl2 hyl e2 e1 hlen hL hdep hA hd hz;exact Nat.lt_of_le_of_lt ‹_› (Nat.lt_of_le_of_lt ‹_› (by lia)))) (by(clear hq hsa f2 f1 big hsys f6 hl2 e2 e1 hlen hL hdep hA hd hz;omega))) fun v h15 gs15 t15 M15 hv=>?_
   refine oEA hv ?_;rintro k16 rfl ht16
   have S15:=(S9.call0 (s:=⟨h9,gs9,s.drawn,t14,s.os⟩) (s':=⟨h15,gs15,s.drawn,t15,s.os⟩) M15).drop (mu':=(d,o2)::new) ((List.sublist_cons_self _ _).trans (List.sublist_cons_self _ _))
   refine hPo _ _ (S15.mod (t:=0) hL (fun _=>M15.gens hg9) rfl rfl rfl) ⟨⟨_,rfl,ht16⟩,vs2,o2,new,S15.get (j:=0) rfl,I2,St.fresh (s':=⟨h15,gs15,s.drawn,t15,s.os⟩) (mu:=[(d,o2)]) S15 rfl rfl,?_⟩
   have H':MS prog w (R.and new) vs (some (la,xs)) (some (lb,ys)):=H.mono fun b o e=>.inl e
   refine⟨by rw [fk 0 (by decide)];exact H'.isj,⟨f1,H'.a.2⟩,⟨f2,H'.b.2.1,hyl,?_,.inr ⟨p,op,f6,hp,hsys,kf,DF,ff⟩⟩,by rw [fk 3 (by decide)];exact H'.aj,by rw [fk 4 (by decide)];exact H'.mb,by rw [fk 8 (by decide)];exact H'.bj,hl2⟩
   rw [fk 7 (by decide)];exact H'.b.2.2.2.1
  ·refine⟨o4,_,_,(fun k=>cnt k ys),0,k7,rfl,rfl,⟨[],D4,Nat.le_refl _,fun k=>by simp [valueAt]⟩,by simp⟩
end
section
open PySem.Builtin
section
theorem mk_makes(P:Params):makesIn (K P) CM=true:=by kernel_rfl
theorem mk_init(P:Params):findIn (K P) (.ref CM) (ofString "__init__")=some (some (.ref 160)):=by kernel_rfl
theorem mk_fn(P:Params):typeIn (K P) (.ref 160)=some (.type "function"):=by kernel_rfl
theorem kp_CM(P:Params):keepIn (K P) (.ref CM)=true:=by kernel_rfl
end
section
variable{w:World}{A:Around}{E:Value→Shared→Prop}{s s':Shared}{mg mb:Str→Option Value}{g h:Heap}{gs:Array GenState}{dr:Drawn}{tk:Nat}{os:OsState}{L a:Addr}{nm:List Str}{ls:List (Option Value)}{mu:List (Addr×Obj)}
theorem mkMatcher{va vb:Value}{aj:Bool}{rest:List Value}{oa ob:Option (Addr×List Int)}{Q:Value→Shared→Prop}(S:St g L h nm ls mu)(D:Gd (K w.params) mg mb g)(hA:A.handled=none)(hdep:A.depth+10 < recursionLimit)(hgs:AllBare gs)
  {R:Rel} (hRk:∀ b o,R b o→Kn g mu b o) (ha:AV R va oa) (hb:AV R vb ob) (hbind:∀ (s:Shared) (x:Addr),(K w.params).In s.heap→BindsTo s (fdOf (o160 w.params)) ⟨.ref x::rest,[]⟩ (ps_init.zip [.ref x,.none,va,vb,.bool aj]))
  (k:∀ h' gs' tk' x dx vs o new,AllBare gs'→St g L h' nm ls ((dx,o)::(x,inst CM dx)::(new++mu))→IV w.params an vs o→MS prog w (R.and ((x,inst CM dx)::new)) vs oa ob→Q (.ref x) ⟨h',gs',dr,tk',os⟩) :
  wpAny (model prog w) A (call (.ref CM) rest) Q E ⟨h,gs,dr,tk,os⟩:=by
 refine wpAny_call (make_K (s:=⟨h,gs,dr,tk,os⟩) S.F S.N (D.k.keeps S.F.keep) (mk_makes _) (mk_init _) (mk_fn _) fun x dx h' F' N' hlt hdx=>?_)
 have hne:x≠dx:=Ne.symm (Nat.ne_of_lt hdx)
 have hmu:∀ p∈mu,p.1≠dx:=fun p hp=>Nat.ne_of_lt (hlt p hp)
 have hmux:∀ p∈mu,p.1≠x:=fun p hp=>Nat.ne_of_lt (Nat.lt_trans (hlt p hp) hdx)
 have S1:St g L h' nm ls ((dx,emptyDict)::(x,inst CM dx)::mu):=⟨F',fun p hp=>N' p (by
  rcases mK hp with rfl | hp
  ·exact .tail _ (.head _)
  ·rcases mK hp with rfl | hp
   ·exact .head _
   ·exact .tail _ (.tail _ hp)),List.nodup_cons.mpr ⟨fun hm=>by
    rcases mK hm with e | hm
    ·exact hne e.symm
    ·refine oEA (List.mem_map.mp hm) fun p hp e=>?_
     exact hmu p hp e,List.nodup_cons.mpr ⟨fun hm=>by
    refine oEA (List.mem_map.mp hm) fun p hp e=>?_
    exact hmux p hp e,S.nd⟩⟩⟩
 have hgd:g.get? dx=none:=(S1.N _ (.head _)).2.2
 have I0:IV w.params an [] emptyDict:=⟨⟨[],0,rfl,rfl⟩,Nat.zero_le _⟩
 refine codeAny_mono (init_spec (w:=w) (A:=A.under (.builtin "type.__call__" ⟨.ref CM::rest,[]⟩)) (mg:=mg) (mb:=mb) (G:=g) (R:=R.and [(x,inst CM dx)]) (m:=x) (d:=dx) (va:=va) (vb:=vb) (aj:=aj) (oa:=oa) (ob:=ob) (s:=⟨h',gs,dr,tk,os⟩) ⟨D,fun b o e=>S1.F.keep b o e,hgd,hA,by show A.depth+1+8 < _;exact Nat.le_of_lt hdep⟩ hgs (.inr (.head _)) (S1.get (j:=0) rfl) I0 (fun b o hk0=>?_) ?_ ?_ _ (hbind _ x (D.k.keeps S1.F.keep))) fun r s' hr=>?_
 ·have hk:Kn g ((x,inst CM dx)::mu) b o:=hk0.elim (fun k=>(hRk b o k).elim .inl fun m=>.inr (.tail _ m)) fun m=>.inr (by rw [mS m];exact .head _)
  rcases hk with e | hm
  ·exact⟨S1.F.keep b o e,fun z=>by rw [z,hgd] at e;cases e⟩
  ·refine⟨(S1.N (b,o) (.tail _ hm)).1,?_⟩
   rcases mK hm with e | hm
   ·cases e;exact hne
   ·exact hmu _ hm
 ·rcases ha with⟨l,xs,e1,e2,hl,hn⟩ | h
  ·exact .inl ⟨l,xs,e1,e2,hl.mono fun b o hk=>.inl hk,hn⟩
  ·exact .inr h
 ·rcases hb with⟨l,xs,e1,e2,hl,hn⟩ | h
  ·exact .inl ⟨l,xs,e1,e2,hl.mono fun b o hk=>.inl hk,hn⟩
  ·exact .inr h
 ·refine oEAA (retO hr) ?_;rintro v rfl Mo hx
  obtain⟨hv,vs',o',new,ho',I',Fn,hS⟩:=hx
  subst hv
  obtain⟨h2,gs2,dr2,tk2,os2⟩:=s'
  obtain rfl:os2=os:=Mo.os
  obtain rfl:dr2=dr:=Mo.dr
  have S2:=S1.callN (s:=⟨h',gs,dr2,tk,os2⟩) (s':=⟨h2,gs2,dr2,tk2,os2⟩) (j:=0) Mo rfl ho' Fn
  have S3:St g L h2 nm ls ((dx,o')::(x,inst CM dx)::(new++mu)):=S2.perm ((List.perm_append_comm.cons _).cons _)
  refine And.intro rfl (k h2 gs2 tk2 x dx vs' o' new (Mo.gens hgs) S3 I' (hS.mono fun b o hk=>?_))
  rcases hk with (hk | hm) | hm
  ·exact .inl hk
  ·exact .inr (by rw [mS hm];exact .head _)
  ·exact .inr (.tail _ hm)
end
end
section
open PySem.Builtin
section
theorem o_match(P:Params):(K P).lookup 135=some (o135 P):=by kernel_rfl
theorem cls_match(P:Params):clsIn (K P) 135=some { name:=ofString "Match",bases:=[Value.type "tuple"],mro:=[Value.ref 135,Value.type "tuple",Value.type "object"],ns:=134,qualname:=ofString "Match",hasDict:=false }:=by kernel_rfl
theorem sub_mt(P:Params):subIn (K P) (.ref 135) (.type "tuple")=some true:=by kernel_rfl
theorem sub_mm(P:Params):subIn (K P) (.ref 135) (.ref 135)=some true:=by kernel_rfl
theorem sub_mo(P:Params):subIn (K P) (.ref 135) (.type "object")=some true:=by kernel_rfl
theorem fi_init(P:Params):findIn (K P) (.ref 135) (ofString "__init__")=some (some (.builtin "object.__init__")):=by kernel_rfl
theorem fi_new(P:Params):findCls (K P) (.ref 135) (.type "type") (ofString "__new__")=some (.get (.builtin "staticmethod.__get__") (.ref 136) .none (.ref 135)):=by kernel_rfl
theorem fi_make(P:Params):findCls (K P) (.ref 135) (.type "type") (ofString "_make")=some (.get (.builtin "classmethod.__get__") (.ref 91) .none (.ref 135)):=by kernel_rfl
theorem re_new(P:Params):((recIn (K P) 136 "staticmethod").bind (·.head?))=some (.ref 82):=by kernel_rfl
theorem re_make(P:Params):((recIn (K P) 91 "classmethod").bind (·.head?))=some (.ref 89):=by kernel_rfl
theorem re_ex{x:Option (List Value)}{v:Value}(h:(x.bind (·.head?))=some v):∃ r,x=some (v::r):=by
 cases x with
 | none=>cases h
 | some l=>cases l with
  | nil=>cases h
  | cons a r=>cases h;exact⟨r,rfl⟩
theorem rd_match(P:Params):readsIn (K P) 135 (.type "type")=true:=by kernel_rfl
theorem ca_match(P:Params):specialIn (K P) (.ref 135) (ofString "__call__")=some (some (.builtin "type.__call__")):=by kernel_rfl
theorem in_match(P:Params):instIn (K P) (.ref 135) (.type "type")=some true:=by kernel_rfl
theorem tn_tuple(P:Params):findCls (K P) (.type "tuple") (.type "type") (ofString "__new__")=some (.val (.builtin "tuple.__new__")):=by kernel_rfl
end
section
variable{w:World}{A:Around}{E:Value→Shared→Prop}{h:Heap}{M:Model}{P:Params}
theorem lk_mro(X:(K P).In h):Looks M h (mroOf (.ref 135)) [Value.ref 135,Value.type "tuple",Value.type "object"]:=(looks_clsIn X (cls_match P)).andThen .now
theorem lk_made(X:(K P).In h):Looks M h (Bind.madeBy (.ref 135)) none:=by
 intro A Q E s k q
 unfold Bind.madeBy
 refine wB (lk_mro X A _ E s k ?_)
 rw [List.forIn_cons]
 refine wB (wB (wB (wB (wpAny_loadPart (k _ _ (X _ _ (o_match P))) (wP ?_)))))
 exact wP (wP (wP q))
theorem best_tuple:Builtin.Slots.bestBase [.type "tuple"]=pure (.type "tuple"):=by kernel_rfl
theorem made_tuple:Bind.madeBy (.type "tuple")=pure (some "tuple.__new__"):=F.called_tuple.made
theorem lk_static(X:(K P).In h):Looks M h (Bind.staticBase (.ref 135)) (.type "tuple"):=by
 intro A Q E s k q
 unfold Bind.staticBase
 refine wB (lk_mro X A _ E s k ?_)
 rw [List.forIn_cons]
 refine wB (wB (wB (lk_made X A _ E s k ?_)))
 rw [if_neg (by decide)]
 refine wB (looks_clsIn X (cls_match P) A _ E s k ?_)
 refine wB (wpAny_of_eq best_tuple (wP ?_))
 dsimp only
 rw [List.forIn_cons]
 refine wB (wB (wpAny_of_eq made_tuple ?_))
 rw [if_pos (by decide)]
 exact wP (wP (wP q))
theorem lk_here(X:(K P).In h):Looks M h (Bind.madeHere "tuple.__new__" (.ref 135)) ():=by
 unfold Bind.madeHere
 refine(lk_static X).andThen ?_
 refine Looks.andThen (Looks.of_pure made_tuple) ?_
 exact Looks.of_pure (by kernel_rfl)
theorem tnew {prog:Program} {gs:Array GenState} {dr:Drawn} {tk:Nat} {os:OsState} {T:Addr} {items:List Value} {Q:Fin→Shared→Prop} (X:(K P).In h) (ht:h.get? T=some ⟨.type "tuple",none,.seq items.toArray 0,#[]⟩) (hl:items.length≤1000)
  (q:∀ h',Sub h h'→Q (.done (.ret (.ref (h'.objs.size+1)))) ⟨(h'.push emptyDict).push (mob h'.objs.size items),gs,dr,tk,os⟩) :
  wpAny (model prog w) A (Builtin.«tuple.__new__» ⟨[.ref 135,.ref T],[]⟩) Q E ⟨h,gs,dr,tk,os⟩:=by
 unfold Builtin.«tuple.__new__»
 have hm:=o_match P
 have l0:Looks (model prog w) h (isType (.ref 135)) true:=(Looks.ld (part:=some .none) (X _ _ hm)).andThen .now
 have l1:Looks (model prog w) h (isSubtype (.ref 135) (.type "tuple")) true:=looks_subIn X (sub_mt P)
 have l2:Looks (model prog w) h (Bind.madeHere "tuple.__new__" (.ref 135)) ():=lk_here X
 have l3:Looks (model prog w) h (typeLookup (.ref 135) (ofString "__init__")) (some (.builtin "object.__init__")):=looks_findIn X (fi_init P)
 have fin:wpAny (model prog w) A (collect (.ref T) >>= fun l=>pure l.toArray >>= fun xs=>alloc { cls:=.type "dict",data:=.dict #[] } >>= fun d=>newObj (.ref 135) (.seq xs) (some d) >>= fun r=>ret r) Q E ⟨h,gs,dr,tk,os⟩:=by
  refine wB (wpAny_collect_seq (s:=⟨h,gs,dr,tk,os⟩) T (.inr rfl) ht rfl rfl (fun h' hk=>?_) (by rw [List.size_toArray];exact ntr hl (by decide)))
  refine wB (wP (wB (wpAny_alloc (wB ?_))))
  show wpAny _ _ (newObj (.ref 135) (.seq items.toArray) _) _ _ _
  unfold newObj
  dsimp only
  rw [if_neg (by rw [List.size_toArray];exact Nat.not_lt.mpr (ntr hl (by decide)))]
  show wpAny _ _ (newObjAsIs _ _ _) _ _ _
  unfold newObjAsIs classHasDel
  refine wB (wpAny_alloc (wB (wB (wpAny_load (Heap.get?_push_of_some _ (Heap.get?_push_of_some _ (hk _ _ (X _ _ hm)))) (wP ?_)))))
  refine wP (wP ?_)
  have:=q h' hk
  rw [show(h'.push emptyDict).objs.size=h'.objs.size+1 from Heap.size_push ..]
  exact this
 repeat (first | exact fin | simp only [Bool.not_true,Bool.false_eq_true,if_false] | lk)
variable{prog:Program}{gs:Array GenState}{dr:Drawn}{tk:Nat}{os:OsState}
theorem getmT {pl:Sem Bool} {Q:Value×List Value→Shared→Prop} (X:(K P).In h) (q:∀ tk,Q (.builtin "tuple.__new__",[]) ⟨h,gs,dr,tk,os⟩) :
  wpAny (model prog w) A (getMethod (.type "tuple") (ofString "__new__") pl) Q E ⟨h,gs,dr,tk,os⟩:=by
 have hstub:opaqueClassAbove (.type "tuple")=pure none:=by unfold opaqueClassAbove;dsimp only;rw [show Manifest.isStub "tuple" = false by decide +kernel];rfl
 have ht:typeOf (.type "tuple")=pure (.type "type"):=by first | rfl | kernel_rfl
 have L0:Looks (model prog w) h (typeOf (.type "tuple")) (.type "type"):=Looks.of_pure ht
 have hg:findIn (K P) (.type "type") "__getattribute__" = some (some (.builtin "type.__getattribute__")):=type_tga
 unfold getMethod specialOf
 refine wB (wB (L0.at ((looks_findIn X hg).at ?_)))
 dsimp only
 rw [if_pos canon_tga]
 refine wB (wpAny_mono (Q:=fun v=>Q (v,[])) (E:=E) ?_ (fun _ _ z=>wP z) fun _ _ z=>z)
 have LO:Looks (model prog w) h (opaqueClassAbove (.type "tuple")) none:=Looks.of_pure hstub
 refine cls_open (s:=⟨h,gs,dr,tk,os⟩) X LO L0 hg (looks_hook X (r:=none) (by rfl)) (by show subIn (K P) _ _=_;rfl) (tn_tuple P) ?_
 show wpAny _ _ (ret (.builtin "tuple.__new__")) _ _ _
 refine wP ?_
 show wpAny _ _ (handedOut (.builtin "tuple.__new__")) _ _ _
 rw [handedOut_of (by decide +kernel)]
 exact wP (q _)
theorem tn_kind:builtinKind "tuple.__new__" = some .builtinFn:=by decide +kernel
theorem tn_split:splitId "tuple.__new__" = some ("tuple","__new__"):=by decide +kernel
theorem tn_some:(Manifest.signature? "tuple.__new__").isSome=true:=by kernel_rfl
theorem tn_sig:∃ sig,Manifest.signature? "tuple.__new__" = some sig∧∀ x,Bind.checkArgs "tuple.__new__" sig ⟨[.ref 135,x],[]⟩=pure ():=by
 cases h:Manifest.signature? "tuple.__new__" with
 | none=>have:=tn_some;rw [h] at this;cases this
 | some sig =>
  refine⟨sig,rfl,?_⟩
  have hs:Manifest.signature? "tuple.__new__" = some ((Manifest.signature? "tuple.__new__").get (by kernel_rfl)):=(Option.some_get _).symm
  rw [hs] at h
  cases h
  intro x
  kernel_rfl
theorem callTn {T:Addr} {items:List Value} {Q:Value→Shared→Prop} (X:(K P).In h) (ht:h.get? T=some ⟨.type "tuple",none,.seq items.toArray 0,#[]⟩) (hl:items.length≤1000)
  (q:∀ h',Sub h h'→Q (.ref (h'.objs.size+1)) ⟨(h'.push emptyDict).push (mob h'.objs.size items),gs,dr,tk,os⟩) :
  wpAny (model prog w) A (call (.builtin "tuple.__new__") [.ref 135,.ref T]) Q E ⟨h,gs,dr,tk,os⟩:=by
 refine wpAny_call (codeAny_call_builtin_code (Code.quiet_builtin _ (by decide +kernel)) ?_)
 have l0:Looks (model prog w) h (isType (.ref 135)) true:=(Looks.ld (part:=some .none) (X _ _ (o_match P))).andThen .now
 have l1:Looks (model prog w) h (isSubtype (.ref 135) (.type "tuple")) true:=looks_subIn X (sub_mt P)
 have l2:Looks (model prog w) h (Bind.staticBase (.ref 135)) (.type "tuple"):=lk_static X
 have l3:Looks (model prog w) h (Bind.madeBy (.type "tuple")) (some "tuple.__new__"):=Looks.of_pure made_tuple
 have fin:codeAny (model prog w) A (.builtin "tuple.__new__" ⟨[.ref 135,.ref T],[]⟩) (fun r s'=>match r with | .ok (.ret v)=>Q v s' | .ok _=>False | .error e=>E e s') ⟨h,gs,dr,tk,os⟩:=by
  refine codeAny_builtin F.entry_tuple_new ?_
  exact tnew X ht hl fun h' hk=>q h' hk
 simp only [checkBuiltinCall,tn_kind,tn_split]
 rw [if_pos (by decide)]
 obtain⟨sig,hs,ha⟩:=tn_sig
 rw [hs]
 dsimp only
 rw [ha]
 repeat (first | exact fin | simp only [Bool.not_true,Bool.false_eq_true,if_false,bne_self_eq_false] | lk)
end
section
variable{w:World}{A:Around}{E:Value→Shared→Prop}{s s':Shared}{mg mb:Str→Option Value}{G h g:Heap}{gs:Array GenState}{dr:Drawn}{tk:Nat}{os:OsState}{L a:Addr}{nm:List Str}{ls:List (Option Value)}{mu:List (Addr×Obj)}
theorem St.sub{h':Heap}(S:St g L h nm ls mu)(k:Sub h h'):St g L h' nm ls mu:=S.re (S.F.keeps k) (S.N.grown k)
theorem mnew_spec{x y z:Value}(D:Gd (K w.params) mg mb s.heap)(hd:A.depth < recursionLimit) :
  codeAny (model prog w) A (.call (.ref 82) ⟨[.ref 135,x,y,z],[]⟩) (Ret [] s fun v s'=>∃ t dd,v=.ref t∧Fresh s s' [(t,mob dd [x,y,z]),(dd,emptyDict)]) s:=by
 refine enterP ps_mnew os_mnew [.ref 135,x,y,z] [] (fn_mnew _) D hd (b_mnew _ _ _ _ _ _) rfl p_mnew (nm:=nm_mnew) rfl (fun _ h=>nomatch h) .nil ?_
 intro Po hPo L h₁ tk S hL
 refine exc (wpAny_Expr (cStr fun k1 t1=>?_))
 refine exc (wpAny_Return_some (MethodCall_ (lb_ S D g_mnew_tuple (bn_tuple _) (getmT (D.k.keeps S.F.keep) fun t2=>callWith_method1 ?_))))
 refine arg_ (ld_ S v_mnew__cls rfl (arg_ (Tuple_ (arg_ (ld_ S v_mnew_a rfl (arg_ (ld_ S v_mnew_b rfl (arg_ (ld_ S v_mnew_size rfl (arg0 (newT S (by simp) fun h2 S2=>arg0 ?_)))))))))))
 refine callTn (D.k.keeps S2.F.keep) (S2.get (j:=0) rfl) (by simp) fun h3 hk=>?_
 have S3:=((((S2.sub hk).push emptyDict).push (mob h3.objs.size [x,y,z])).drop (mu':=[((h3.push emptyDict).objs.size,mob h3.objs.size [x,y,z]),(h3.objs.size,emptyDict)]) (List.sublist_append_left [_,_] [_]))
 rw [show(h3.push emptyDict).objs.size=h3.objs.size+1 from Heap.size_push ..] at S3
 exact hPo _ _ (S3.mod (t:=0) hL id rfl rfl rfl) ⟨_,_,rfl,St.fresh (mu:=[]) S3 rfl rfl⟩
theorem gNew{expr:Bool}{Q:Value→Shared→Prop}(X:(K w.params).In h)(q:∀ tk,Q (.ref 82) ⟨h,gs,dr,tk,os⟩):wpAny (model prog w) A (getAttr (.ref 135) (ofString "__new__") expr) Q E ⟨h,gs,dr,tk,os⟩:=by
 obtain⟨r,hr⟩:=re_ex (re_new w.params)
 exact cls_bind (s:=⟨h,gs,dr,tk,os⟩) X (rd_match _) (fi_new _) (wpAny_call (sm_get (s:=⟨h,gs,dr,tk+1,os⟩) X hr (handed_on rfl (q _))))
theorem oi_args4(a x y z:Value):argsOk "object.__init__" ⟨[a,x,y,z],[]⟩:=by unfold argsOk;kernel_rfl
theorem match_spec{x y z:Value}(D:Gd (K w.params) mg mb s.heap)(hd:A.depth+2 < recursionLimit) :
  codeAny (model prog w) A (.call (.ref 135) ⟨[x,y,z],[]⟩) (Ret [] s fun v s'=>∃ t dd,v=.ref t∧Fresh s s' [(t,mob dd [x,y,z]),(dd,emptyDict)]) s:=by
 obtain⟨h,gs,dr,tk,os⟩:=s
 have X:(K w.params).In h:=D.k
 have hC:=X _ _ (o_match w.params)
 have call:=looks_specialIn (M:=model prog w) X (ca_match w.params)
 have typ:=looks_instIn (M:=model prog w) X (in_match w.params)
 refine codeAny_of_tree ?_
 show wpAny _ _ (callAny (.ref 135) _) _ _ _
 refine nd_load hC ?_
 show wpAny _ _ (callAny.viaDunder (.ref 135) _) _ _ _
 unfold callAny.viaDunder
 refine wB (call.at ?_)
 dsimp only
 rw [tc_bind]
 refine wB (wP (wB (wP ?_)))
 refine wP (a:=Fin.again (.call (.builtin "type.__call__") ⟨[.ref 135,x,y,z],[]⟩)) (And.intro rfl ?_)
 refine codeAny_call_builtin_at (Code.quiet_builtin _ (by decide +kernel)) entry_typeCall (check_slot tc_kind tc_split typ (tc_args _ _ _) ?_)
 unfold Builtin.«type.__call__»
 have hm:=lk_mro (M:=model prog w) X
 have made:=lk_made (M:=model prog w) X
 repeat ((fail_if_success (with_reducible refine wB (gNew X fun _=>?_)));first | simp only [List.isEmpty_cons,Bool.false_eq_true,if_false] | lk)
 refine wB (gNew X fun t1=>?_)
 refine wB (wpAny_holding (callS (mnew_spec (x:=x) (y:=y) (z:=z) D (by show A.depth+1 < _;omega)) fun v h2 gs2 t2 M hv=>?_))
 refine oEEA hv ?_;rintro t dd rfl F
 have ht:h2.get? t=some (mob dd [x,y,z]):=F.here _ (.head _)
 have X2:(K w.params).In h2:=X.keeps fun b o e=>M.keep b o e (fun m=>nomatch m)
 have u1:Looks (model prog w) h2 (typeOf (.ref t)) (.ref 135):=(Looks.ld ht).andThen .now
 have u2:=looks_subIn (M:=model prog w) X2 (sub_mm w.params)
 have u3:=looks_findIn (M:=model prog w) X2 (fi_init w.params)
 have u4:Looks (model prog w) h2 (bindSpecial (.builtin "object.__init__") (.ref t)) (.builtin "object.__init__",[.ref t]):=Looks.of_pure (oi_bind _)
 have u5:Looks (model prog w) h2 (isInstance (.ref t) (.type "object")) true:=u1.andThen (looks_subIn X2 (sub_mo w.params))
 have u6:=lk_made (M:=model prog w) X2
 have fin:Ret [] ⟨h,gs,dr,tk,os⟩ (fun v s'=>∃ t dd,v=.ref t∧Fresh ⟨h,gs,dr,tk,os⟩ s' [(t,mob dd [x,y,z]),(dd,emptyDict)]) (.ok (.ret (.ref t))) ⟨h2,gs2,dr,t2,os⟩ :=
  ⟨⟨M.keep,M.size,M.os,M.gens,M.dr⟩,t,dd,rfl,F.here,F.not,F.nd⟩
 have ini:codeAny (model prog w) (A.under (Code.builtin "type.__call__" { pos:=[Value.ref 135,x,y,z] })) (.call (.builtin "object.__init__") ⟨[.ref t,x,y,z],[]⟩) (fun r s'=>r=.ok (.ret .none)∧s'=⟨h2,gs2,dr,t2,os⟩) ⟨h2,gs2,dr,t2,os⟩:=by
  refine codeAny_call_builtin oi_plain entry_oi (@check_slot (model prog w) _ _ _ "object.__init__" "object" "__init__" (.ref t) [x,y,z] [] _ oi_kind oi_split u5 (oi_args4 _ _ _ _) ?_)
  unfold Builtin.«object.__init__»
  repeat (first | exact⟨rfl,rfl⟩ | lk)
 unfold isInstance callSpecial? specialOf
 repeat (first | simp only [Bool.not_true,Bool.false_eq_true,if_false] | with_reducible refine wpAny_call ?_ | lk)
 refine codeAny_mono ini fun r s' hr=>?_
 obtain⟨rfl,rfl⟩:=hr
 exact wP (wP fin)
end
end
section
variable{w:World}{A:Around}{E:Value→Shared→Prop}{s s':Shared}{mg mb:Str→Option Value}{G h g:Heap}{gs:Array GenState}{dr:Drawn}{tk:Nat}{os:OsState}{L a:Addr}{nm:List Str}{ls:List (Option Value)}{mu:List (Addr×Obj)}
theorem kp_match(P:Params):keepIn (K P) (.ref 135)=true:=by kernel_rfl
theorem tup4{prog:Program}{q:Str}{sc:Scope}{cd:Value}{x1 x2 x3 x4:Str}{i1 i2 i3 i4:Nat}{p1 p2 p3 p4 tp:Pos}{kk:Nat}{v1 v2 v3 v4:Value}{Q:Unit→Shared→Prop}(S:St g L h nm ls mu)(hh:A.handled=none)(V1:Var sc nm x1 i1)(V2:Var sc nm x2 i2)(V3:Var sc nm x3 i3)(V4:Var sc nm x4 i4)
  (h1:i1 < ls.length) (h2:i2 < ls.length) (h3:i3 < ls.length) (h4:i4 < ls.length)
  (k:∀ h' tk,St g L h' nm ((((ls.set i1 (some v1)).set i2 (some v2)).set i3 (some v3)).set i4 (some v4)) mu→Q () ⟨h',gs,dr,tk,os⟩) :
  wpAny (model prog w) A (newTuple [v1,v2,v3,v4]) (fun v s₁=>wpAny (model prog w) A (assign (.Tuple [.Name x1 p1,.Name x2 p2,.Name x3 p3,.Name x4 p4] kk tp) (envOf q sc L a cd) v) Q E s₁) E ⟨h,gs,dr,tk,os⟩:=by
 refine newT S (by simp) fun h1 S1=>?_
 refine assign_Tuple_tuple (s:=⟨h1,gs,dr,tk,os⟩) (items:=#[v1,v2,v3,v4]) hh ⟨_,S1.get (j:=0) rfl,rfl,0,rfl⟩ rfl rfl fun h2 hx=>?_
 have S2:=S1.re (S1.F.extBut hx (Nat.le_refl _)) (S1.N.extBut hx (Nat.le_refl _))
 refine ord_cons (assign_Name (st_ S2 V1 (by assumption) fun h3 t3 S3=>?_))
 refine ord_cons (assign_Name (st_ S3 V2 (by simp only [List.length_set];assumption) fun h4 t4 S4=>?_))
 refine ord_cons (assign_Name (st_ S4 V3 (by simp only [List.length_set];assumption) fun h5 t5 S5=>?_))
 refine ord_cons (assign_Name (st_ S5 V4 (by simp only [List.length_set];assumption) fun h6 t6 S6=>?_))
 exact ord_nil (k _ _ (S6.drop (List.sublist_cons_self _ _)))
inductive FJ1(s:Shared)(m:Addr)(la:Addr)(lb:Addr)(xs:List Int)(ys:List Int)(alo:Nat)(ahi:Nat)(blo:Nat)(bhi:Nat)(t1:Tok)(t2:Tok)(t3:Tok)(t4:Tok)(p2:Addr)(pj:Addr)(L:Addr)(h₁:Heap)(h6:Heap)(s':Shared):Prop
 | mk (h' gs' tk' p o) (bi bj bk:Nat) (ti tj tk x14 x15 x16 x17 x18) (q0:s'=⟨h',gs',s.drawn,tk',s.os⟩) (q1:AllBare gs') (q2:St s.heap L h' nm_flm [some (.ref m),some (.int alo t1),some (.int ahi t2),some (.int blo t3),some (.int bhi t4),some (.ref la),some (.ref lb),some (.ref p2),some (.ref h₁.objs.size),some (.int bi ti),some (.int bj tj),some (.int bk tk),some (.ref p),some (.ref h6.objs.size),x14,x15,x16,x17,x18] ((p,o)::(h6.objs.size,lob [] 0)::(h₁.objs.size,bmObj "set.__contains__" pj)::[])) (q3:Best xs ys alo ahi blo bhi bi bj bk):FJ1 s m la lb xs ys alo ahi blo bhi t1 t2 t3 t4 p2 pj L h₁ h6 s'
inductive FJ2(w:World)(m:Addr)(la:Addr)(lb:Addr)(xs:List Int)(ys:List Int)(alo:Nat)(ahi:Nat)(blo:Nat)(bhi:Nat)(t1:Tok)(t2:Tok)(t3:Tok)(t4:Tok)(p2:Addr)(pj:Addr)(h₁:Heap)(h6:Heap)(i:Nat)(ls:List (Option Value))(mu:List (Addr×Obj)):Prop
 | mk (p o) (bi bj bk:Nat) (ti tj tk x14 x15 x16 x17 x18) (q0:ls=[some (.ref m),some (.int alo t1),some (.int ahi t2),some (.int blo t3),some (.int bhi t4),some (.ref la),some (.ref lb),some (.ref p2),some (.ref h₁.objs.size),some (.int bi ti),some (.int bj tj),some (.int bk tk),some (.ref p),some (.ref h6.objs.size),x14,x15,x16,x17,x18]) (q1:mu=((p,o)::(h6.objs.size,lob [] 0)::(h₁.objs.size,bmObj "set.__contains__" pj)::[])) (q2:(p == sysModules)=false) (q3:DG prog w o 199 (Fi xs ys alo blo bhi (alo+i)) (fun _=>0)) (q4:Best xs ys alo (alo+i) blo bhi bi bj bk):FJ2 w m la lb xs ys alo ahi blo bhi t1 t2 t3 t4 p2 pj h₁ h6 i ls mu
inductive FJ3(w:World)(s:Shared)(m:Addr)(la:Addr)(lb:Addr)(xs:List Int)(ys:List Int)(alo:Nat)(ahi:Nat)(blo:Nat)(bhi:Nat)(t1:Tok)(t2:Tok)(t3:Tok)(t4:Tok)(p2:Addr)(pj:Addr)(L:Addr)(h₁:Heap)(h6:Heap)(i:Nat)(ki:Tok)(own:List (Addr×Obj))(h10:Heap)(p:Addr)(o:Obj)(h12:Heap)(s':Shared):Prop
 | mk (h' gs' tk' o') (bi bj bk:Nat) (ti tj tk x17 x18) (q0:s'=⟨h',gs',s.drawn,tk',s.os⟩) (q1:AllBare gs') (q2:St s.heap L h' nm_flm [some (.ref m),some (.int alo t1),some (.int ahi t2),some (.int blo t3),some (.int bhi t4),some (.ref la),some (.ref lb),some (.ref p2),some (.ref h₁.objs.size),some (.int bi ti),some (.int bj tj),some (.int bk tk),some (.ref p),some (.ref h6.objs.size),some (.int (alo+i) ki),some (.ref h10.objs.size),some (.ref h12.objs.size),x17,x18]
     (((h12.objs.size,o')::(h10.objs.size,bmObj "dict.get" p)::(p,o)::(h6.objs.size,lob [] 0)::(h₁.objs.size,bmObj "set.__contains__" pj)::[])++own)) (q3:DG prog w o' 199 (Fi xs ys alo blo bhi (alo+i+1)) (fun _=>0)) (q4:Best xs ys alo (alo+i+1) blo bhi bi bj bk):FJ3 w s m la lb xs ys alo ahi blo bhi t1 t2 t3 t4 p2 pj L h₁ h6 i ki own h10 p o h12 s'
inductive FJ4(w:World)(m:Addr)(la:Addr)(lb:Addr)(xs:List Int)(ys:List Int)(alo:Nat)(ahi:Nat)(blo:Nat)(bhi:Nat)(t1:Tok)(t2:Tok)(t3:Tok)(t4:Tok)(p2:Addr)(pj:Addr)(h₁:Heap)(h6:Heap)(i:Nat)(ki:Tok)(own:List (Addr×Obj))(h10:Heap)(p:Addr)(o:Obj)(v':Int)(h12:Heap)(c:Nat)(ls:List (Option Value))(mu:List (Addr×Obj)):Prop
 | mk (o') (bi bj bk:Nat) (ti tj tk x17 x18) (q0:ls=[some (.ref m),some (.int alo t1),some (.int ahi t2),some (.int blo t3),some (.int bhi t4),some (.ref la),some (.ref lb),some (.ref p2),some (.ref h₁.objs.size),some (.int bi ti),some (.int bj tj),some (.int bk tk),some (.ref p),some (.ref h6.objs.size),some (.int (alo+i) ki),some (.ref h10.objs.size),some (.ref h12.objs.size),x17,x18]) (q1:mu=(((h12.objs.size,o')::(h10.objs.size,bmObj "dict.get" p)::(p,o)::(h6.objs.size,lob [] 0)::(h₁.objs.size,bmObj "set.__contains__" pj)::[])++own)) (q2:DG prog w o' c (Fj xs ys alo blo bhi (alo+i) ((idxs v' ys 0).take c)) (fun _=>0)) (q3:BC xs ys alo blo bhi (alo+i) ((idxs v' ys 0).take c) bi bj bk):FJ4 w m la lb xs ys alo ahi blo bhi t1 t2 t3 t4 p2 pj h₁ h6 i ki own h10 p o v' h12 c ls mu
inductive FJ5(s:Shared)(h10:Heap)(gs10:Array GenState)(s':Shared):Prop
 | mk (tk') (q0:s'=⟨h10,gs10,s.drawn,tk',s.os⟩):FJ5 s h10 gs10 s'
inductive FJ6(s:Shared)(h10:Heap)(gs10:Array GenState)(s':Shared):Prop
 | mk (tk') (q0:s'=⟨h10,gs10,s.drawn,tk',s.os⟩):FJ6 s h10 gs10 s'
inductive FJ7(s:Shared)(h10:Heap)(gs10:Array GenState)(s':Shared):Prop
 | mk (tk') (q0:s'=⟨h10,gs10,s.drawn,tk',s.os⟩):FJ7 s h10 gs10 s'
inductive FJ8(s:Shared)(h10:Heap)(gs10:Array GenState)(s':Shared):Prop
 | mk (tk') (q0:s'=⟨h10,gs10,s.drawn,tk',s.os⟩):FJ8 s h10 gs10 s'
theorem flm_spec{m d la lb:Addr}{vs:List Value}{xs ys:List Int}{R:Rel}{alo ahi blo bhi:Nat}{t1 t2 t3 t4:Tok}(D:Gd (K w.params) mg mb s.heap)(hA:A.handled=none)(hdep:A.depth+4 < recursionLimit)(hbig:188 < s.heap.objs.size)(hgs:AllBare s.gens)
  (M:MA w R m d vs (some (la,xs)) (some (lb,ys)) s) (c1:alo≤ahi) (c2:ahi≤xs.length) (c3:blo≤bhi) (c4:bhi≤ys.length) :
  codeAny (model prog w) A (.call (.ref 196) ⟨[.ref m,.int alo t1,.int ahi t2,.int blo t3,.int bhi t4],[]⟩) (Ret [] s fun v s'=>∃ t dd,∃ i j k:Nat,∃ ti tj tk,v=.ref t∧Fresh s s' [(t,mob dd [.int i ti,.int j tj,.int k tk]),(dd,emptyDict)]∧Best xs ys alo ahi blo bhi i j k) s:=by
 refine oEA M.hd fun od hd I=>?_
 have H:=M.hS
 have hm:=(M.hR _ _ M.hm).1
 have hR:=fun b o e=>(M.hR b o e).1
 refine oAA H.a ?_;rintro e1 ⟨ia,na,hao,hai⟩ hxl
 refine oAAAA H.b ?_;rintro e2 ⟨ib,nb,hbo,hbi⟩ hyl ⟨p2,e7,o2,kv2,hp2,D2,hs2,f2⟩ h6
 refine oEEA H.bj fun pj led e8 hpj=>?_
 replace hao:=hR _ _ hao
 replace hbo:=hR _ _ hbo
 replace hp2:=hR _ _ hp2
 replace hpj:=hR _ _ hpj
 refine enterP ps_flm os_flm [.ref m,.int alo t1,.int ahi t2,.int blo t3,.int bhi t4] [] (fn_flm _) D (by lia) (b_flm _ _ D.k _ _ _ _ _) rfl p_flm (nm:=nm_flm) rfl (fun _ h=>nomatch h) .nil ?_
 intro Po hPo L h₁ tk S hL
 replace S:St s.heap L h₁ nm_flm _ []:=S
 refine exc (wpAny_Expr (cStr fun k1 t1'=>?_))
 refine exc (Assign_Tuple (Tuple_ (arg_ (at1 (ld_ S v_flm_self rfl ?_)))) (hw:=by kernel_rfl))
 refine getV (D.k.keeps S.F.keep) (pl _) (at_a _).at (S.old hm) (S.old hd) I e1 rfl fun t2'=>?_
 refine arg_ (at1 (ld_ S v_flm_self rfl ?_))
 refine getV (D.k.keeps S.F.keep) (pl _) (at_b _).at (S.old hm) (S.old hd) I e2 rfl fun t3'=>?_
 refine arg_ (at1 (ld_ S v_flm_self rfl ?_))
 refine getV (D.k.keeps S.F.keep) (pl _) (at_b2j _).at (S.old hm) (S.old hd) I e7 rfl fun t4'=>?_
 refine arg_ (Attribute_any_ (at1 (ld_ S v_flm_self rfl ?_)))
 refine getV (D.k.keeps S.F.keep) (pl _) (at_bjunk _).at (S.old hm) (S.old hd) I e8 rfl fun t5'=>?_
 refine scontB S (S.old hpj) fun h2 t6 S2=>arg0 ?_
 refine tup4 S2 (by exact hA) v_flm_a v_flm_b v_flm_b2j v_flm_isbjunk (nB rfl) (nB rfl) (nB rfl) (nB rfl) fun h3 t7 S3=>?_
 refine exc (wpAny_If (wC (ld_ S3 v_flm_ahi rfl (Constant_none (wpAny_is_other rfl (by intro z;cases z) (wT ?_))))))
 rw [if_neg (by decide)]
 refine exn ?_
 refine exc (wpAny_If (wC (ld_ S3 v_flm_bhi rfl (Constant_none (wpAny_is_other rfl (by intro z;cases z) (wT ?_))))))
 rw [if_neg (by decide)]
 refine exn ?_
 refine exc (Assign_Tuple_swapped (names:=[ofString "besti",ofString "bestj",ofString "bestsize"]) (Tuple_ (arg_ (ld_ S3 v_flm_alo rfl (arg_ (ld_ S3 v_flm_blo rfl (arg_ (cInt fun k8 t8=>arg0 ?_))))))) (hw:=by kernel_rfl))
 refine tup3 S3 (by exact hA) v_flm_besti v_flm_bestj v_flm_bestsize (nB rfl) (nB rfl) (nB rfl) fun h4 t9 S4=>?_
 refine exc (asgN (newD S4 fun h5 o5 D5 S5=>st_ S5 v_flm_j2len (nB rfl) fun h6 t10 S6=>?_))
 refine exc (asgN (List_ (arg0 (newL S6 (by simp) fun h7 S7=>st_ S7 v_flm_nothing (nB rfl) fun h8 t11 S8=>?_))))
 have hsz:∀ {h:Heap} {ls:List (Option Value)} {mu:List (Addr×Obj)},St s.heap L h nm_flm ls mu→(h.objs.size == sysModules)=false:=fun S=>notSys (Nat.lt_of_lt_of_le hbig (ntr hL (Nat.le_of_lt S.F.ns.lt)))
 replace S8:St s.heap L h8 nm_flm [some (.ref m),some (.int alo t1),some (.int ahi t2),some (.int blo t3),some (.int bhi t4),some (.ref la),some (.ref lb),some (.ref p2),some (.ref h₁.objs.size),some (.int alo t1),some (.int blo t3),some (.int 0 k8),some (.ref h4.objs.size),some (.ref h6.objs.size),none,none,none,none,none] _:=S8
 have S9:=S8.perm (List.Perm.swap _ _ _)
 refine join (FJ1 s m la lb xs ys alo ahi blo bhi t1 t2 t3 t4 p2 pj L h₁ h6) ?_ ?_
 ·intro I' hI
  refine wpAny_For (Call_ (lb_ S9 D g_flm_range (bn_range _) (cT1 (arg_ (ld_ S9 v_flm_alo rfl (arg_ (ld_ S9 v_flm_ahi rfl (arg0 ?_))))))))
  refine forR2 (n:=ahi - alo) (FJ2 w m la lb xs ys alo ahi blo bhi t1 t2 t3 t4 p2 pj h₁ h6) v_flm_i S9 hA hgs (by split<;>lia) (by(clear hL hpj hp2 hbo hao e8 hs2 e7 hyl e2 e1 hm hd c4 c3 hbig hdep hA;exact Nat.lt_of_le_of_lt ‹_› (by lia))) (by(clear hL hpj hp2 hbo hao e8 hs2 e7 hyl e2 e1 hm hd c4 c3 c1 hbig hdep hA;exact Nat.lt_of_le_of_lt ‹_› (by lia))) ?_ ?_ ?_ ?_
  ·rintro i _ _ ⟨p,o,bi,bj,bk,ti,tj,tk,x14,x15,x16,x17,x18,rfl,rfl,_⟩
   exact nB rfl
  ·rintro i ki _ _ own h10 gs10 tk10 hi ⟨p,o,bi,bj,bk,ti,tj,tk,x14,x15,x16,x17,x18,rfl,rfl,hps,⟨kvs,Dp,hkl,f⟩,B⟩ hg10 S10 T hT
   obtain⟨v,hv⟩:∃ v,xs[alo+i]?=some v:=⟨xs[alo+i]'(by lia),List.getElem?_eq_getElem (by lia)⟩
   obtain⟨vv,hvv⟩:∃ vv,ia[alo+i]?=some vv:=⟨ia[alo+i]'(by rw [hai.length];lia),List.getElem?_eq_getElem (by rw [hai.length];lia)⟩
   refine oEEA (IntsAre.get hai hvv) ?_;rintro v' u rfl hv'
   obtain rfl:v'=v:=by rw [hv] at hv';exact(Option.some.inj hv').symm
   refine exc (asgN (at1 (ld_ S10 v_flm_j2len rfl (getBd S10 (Dp.of (S10.get (j:=0) rfl)) fun h11 t11 S11=>st_ S11 v_flm_j2lenget (nB rfl) fun h12 t12 S12=>?_))))
   refine exc (asgN (newD S12 fun h13 o13 D13 S13=>st_ S13 v_flm_newj2len (nB rfl) fun h14 t14 S14=>?_))
   refine join (FJ3 w s m la lb xs ys alo ahi blo bhi t1 t2 t3 t4 p2 pj L h₁ h6 i ki own h10 p o h12) ?_ ?_
   ·intro I' hI
    refine wpAny_For (MethodCall_ (ld_ S14 v_flm_b2j rfl (mD PySem.F.slot_dict_get PySem.F.type_dict_get (D2.of (S14.old hp2)) (callWith_method1 (arg_ (Subscript_ (ld_ S14 v_flm_a rfl (ld_ S14 v_flm_i rfl (itemL (lob_list (S14.old hao)) (by lia) (by lia) (v:=.int v' u) ?_ (arg_ (ld_ S14 v_flm_nothing rfl (arg0 ?_))))))))))))
    ·rw [show((alo:Int)+(i:Int)).toNat=alo+i by(clear hv hvv hv' hkl hps hi hL hpj hp2 hbo hao e8 hs2 e7 hyl e2 hxl e1 hm hd c4 c3 c2 c1 hbig hdep hA;rfl)];exact hvv
    refine dGet (D2.of (S14.old hp2)) hs2 fun t15=>?_
    obtain⟨l,il,nl,el,hlo,hli,hlb⟩:∃ l il nl,(valueAt kv2 v').getD (.ref h6.objs.size)=.ref l∧h14.get? l=some (lob il nl)∧IntsAre il (idxs v' ys 0)∧((∃ o,s.heap.get? l=some o)∨(l=h6.objs.size)):=by
     have:=f2 v'
     cases hc:valueAt kv2 v' with
     | some uu =>
      rw [hc] at this
      refine oEAEEA this ?_;rintro l rfl il nl ho hi
      exact⟨l,il,nl,rfl,S14.old (hR _ _ ho),hi,.inl ⟨_,hR _ _ ho⟩⟩
     | none =>
      rw [hc] at this
      replace this:idxs v' ys 0=[]:=this
      exact⟨h6.objs.size,[],0,rfl,S14.get (j:=3) rfl,by rw [this];exact .nil,.inr rfl⟩
    rw [el]
    have hjs:=idxs_sorted v' ys 0
    have hjl:=idxs_len v' ys 0
    refine forL (items:=il) (FJ4 w m la lb xs ys alo ahi blo bhi t1 t2 t3 t4 p2 pj h₁ h6 i ki own h10 p o v' h12) v_flm_j S14 hA hg10 (lob_list hlo) ?_ ?_ ?_ ?_ ?_
    ·rcases hlb with ho | rfl
     ·exact .inl ho
     ·refine .inr ⟨lob [] 0,?_⟩
      rintro c _ _ ⟨o',bi,bj,bk,ti,tj,tk,x17,x18,rfl,rfl,_⟩
      exact .tail _ (.tail _ (.tail _ (.head _)))
    ·rintro c _ _ ⟨o',bi,bj,bk,ti,tj,tk,x17,x18,rfl,rfl,_⟩
     exact nB rfl
    ·rintro c jv _ _ own2 h15 gs15 tk15 hjv ⟨o',bi,bj,bk,ti,tj,tk,x17,x18,rfl,rfl,⟨kv',D',hkl',f'⟩,BCc⟩ hg15 S15 T hT
     refine oEEA (IntsAre.get hli hjv) ?_;rintro j tj' rfl hj
     refine oEA (mem_idxs.mp (List.mem_of_getElem? hj)) ?_;rintro t rfl hyt
     rw [Int.zero_add] at hj S15
     have htl:=lt_of_get hyt
     have hcl:c < ys.length:=by have:=lt_of_get hj;(clear htl hjv hj hyt hkl' hlb hlo el hv hvv hv' hkl hps hi hL hpj hp2 hbo hao e8 hs2 e7 hyl e2 hxl e1 hm hd c4 c3 c2 c1 hbig hdep hA;exact ntr this hjl)
     have htk:=take_succ_of hj
     refine exc (wpAny_If (wC (ld_ S15 v_flm_j rfl (ld_ S15 v_flm_blo rfl (PySem.P.lt_int (wT ?_))))))
     by_cases hlt:t < blo
     ·rw [if_pos (by simpa using hlt)]
      refine exc (wpAny_Continue ?_)
      refine TC hT (mu:=(((h12.objs.size,o')::(h10.objs.size,bmObj "dict.get" p)::(p,o)::(h6.objs.size,lob [] 0)::(h₁.objs.size,bmObj "set.__contains__" pj)::[])++own)) S15 hg15 ⟨o',bi,bj,bk,ti,tj,tk,_,_,rfl,rfl,⟨kv',D',by(clear hlt htk hcl htl hjv hj hyt hjl hlb hlo el hv hvv hv' hkl hps hi hL hpj hp2 hbo hao e8 hs2 e7 hyl e2 hxl e1 hm hd c4 c3 c2 c1 hbig hdep hA;exact Nat.le.step hkl'),?_⟩,?_⟩
      ·rw [htk,Fj_skip hlt];exact f'
      ·rw [htk];exact BCc.skip hlt
     rw [if_neg (by simpa using hlt)]
     refine exn ?_
     refine exc (wpAny_If (wC (ld_ S15 v_flm_j rfl (ld_ S15 v_flm_bhi rfl (PySem.P.ge_int (wT ?_))))))
     by_cases hge:bhi≤t
     ·rw [if_pos (by simpa using hge)]
      refine exc (wpAny_Break ?_)
      have hall:∀ t':Nat,t' < bhi→ys[t']?=xs[alo+i]?→(t':Int)∈(idxs v' ys 0).take c:=fun t' ht' e=>notake hjs hj (mem_idxs.mpr ⟨t',by lia,by rw [e,hv]⟩) (by lia)
      rw [Fj_end hall] at f'
      exact TB hT ⟨rfl,hI _ ⟨h15,gs15,_,o',bi,bj,bk,ti,tj,tk,_,_,rfl,hg15,S15.drop (List.sublist_append_left _ _),⟨kv',D',by lia,f'⟩,BCc.end hall⟩⟩
     rw [if_neg (by simpa using hge)]
     refine exn ?_
     refine exc (wpAny_Assign_two (wpAny_BinOp (Call_ (ld_ S15 v_flm_j2lenget rfl (cBd (arg_ (wpAny_BinOp (ld_ S15 v_flm_j rfl (cInt fun k16 t16=>sub_ fun k17 t17=>arg_ (cInt fun k18 t18=>arg0 ⟨S15.get (j:=1) rfl,?_⟩))))))))))
     refine callGet (S15.get (j:=1) rfl) hps (Dp.of (S15.get (j:=2) rfl)) fun t19=>?_
     obtain⟨t',e⟩:=DG.get (prog:=prog) (w:=w) f ((t:Int) - 1) k18
     rw [e,Fi_prev (by lia)]
     refine cInt fun k20 t20=>add_ fun k21 t21=>?_
     have hsn:=suf_next (a:=xs) (b:=ys) (alo:=alo) (blo:=blo) (i:=alo+i) (j:=t) (by lia) (by lia) (by rw [hyt,hv]) (by rw [hv];rfl)
     have hsi:((suf xs ys alo blo (alo+i) t:Nat):Int)+1=(suf xs ys alo blo (alo+i+1) (t+1):Nat):=by rw [hsn];lia
     rw [hsi]
     have hsl:=suf_le (a:=xs) (b:=ys) (alo:=alo) (blo:=blo) (alo+i+1) (t+1)
     refine asN (st_ S15 v_flm_k (nB rfl) fun h22 t22 S22=>?_)
     refine asS (ld_ S22 v_flm_newj2len rfl (ld_ S22 v_flm_j rfl ?_))
     refine setI (j:=0) S22 rfl D' (by lia) fun h23 t23 o23 D23 S23=>?_
     have D24:DG prog w o23 (c+1) (Fj xs ys alo blo bhi (alo+i) ((idxs v' ys 0).take (c+1))) (fun _=>0):=by
      rw [htk,Fj_put (by lia)]
      exact⟨_,D23,ntr stored_len (by lia),fun k=>DG.put f' t _ k21 k⟩
     refine exc (wpAny_If (wC (ld_ S23 v_flm_k rfl (ld_ S23 v_flm_bestsize rfl (PySem.P.gt_int (wT ?_))))))
     by_cases hgt:bk < suf xs ys alo blo (alo+i+1) (t+1)
     ·rw [if_pos (by simpa using hgt)]
      refine exc (Assign_Tuple_swapped (names:=[ofString "besti",ofString "bestj",ofString "bestsize"]) (Tuple_ (arg_ (wpAny_BinOp (wpAny_BinOp (ld_ S23 v_flm_i rfl (ld_ S23 v_flm_k rfl (sub_ fun k24 t24=>cInt fun k25 t25=>add_ fun k26 t26=>?_))))))) (hw:=by kernel_rfl))
      refine arg_ (wpAny_BinOp (wpAny_BinOp (ld_ S23 v_flm_j rfl (ld_ S23 v_flm_k rfl (sub_ fun k27 t27=>cInt fun k28 t28=>add_ fun k29 t29=>?_)))))
      refine arg_ (ld_ S23 v_flm_k rfl (arg0 ?_))
      rw [show(alo:Int)+(i:Int) - ((suf xs ys alo blo (alo+i+1) (t+1):Nat):Int)+1=((alo+i+1 - suf xs ys alo blo (alo+i+1) (t+1):Nat):Int) by rw [Int.ofNat_sub (ntr hsl.1 (Nat.sub_le _ _))];clear hsl;lia,show(t:Int) - ((suf xs ys alo blo (alo+i+1) (t+1):Nat):Int)+1=((t+1 - suf xs ys alo blo (alo+i+1) (t+1):Nat):Int) by rw [Int.ofNat_sub (ntr hsl.2 (Nat.sub_le _ _))];clear hsl;lia]
      refine tup3 S23 (by exact hA) v_flm_besti v_flm_bestj v_flm_bestsize (nB rfl) (nB rfl) (nB rfl) fun h30 t30 S30=>exn (exn ?_)
      refine TN hT (mu:=(((h12.objs.size,o23)::(h10.objs.size,bmObj "dict.get" p)::(p,o)::(h6.objs.size,lob [] 0)::(h₁.objs.size,bmObj "set.__contains__" pj)::[])++own)) S30 hg15 ⟨o23,_,_,_,_,_,_,_,_,rfl,rfl,D24,?_⟩
      rw [htk];exact BCc.new (by lia) (by lia) (by lia) hgt
     ·rw [if_neg (by simpa using hgt)]
      refine exn (exn ?_)
      refine TN hT (mu:=(((h12.objs.size,o23)::(h10.objs.size,bmObj "dict.get" p)::(p,o)::(h6.objs.size,lob [] 0)::(h₁.objs.size,bmObj "set.__contains__" pj)::[])++own)) S23 hg15 ⟨o23,bi,bj,bk,ti,tj,tk,_,_,rfl,rfl,D24,?_⟩
      rw [htk];exact BCc.same (fun x hx=>take_lt hjs hj x hx) (by lia)
    ·rintro _ _ h15 gs15 tk15 ⟨o',bi,bj,bk,ti,tj,tk,x17,x18,rfl,rfl,⟨kv',D',hkl',f'⟩,BCc⟩ hg15 S15
     rw [hli.length,List.take_length] at BCc f'
     have hall:∀ t:Nat,t < bhi→ys[t]?=xs[alo+i]?→(t:Int)∈idxs v' ys 0:=fun t _ e=>mem_idxs.mpr ⟨t,by lia,by rw [e,hv]⟩
     rw [Fj_end hall] at f'
     exact⟨rfl,hI _ ⟨h15,gs15,tk15,o',bi,bj,bk,ti,tj,tk,x17,x18,rfl,hg15,S15,⟨kv',D',by rw [hli.length] at hkl';lia,f'⟩,BCc.end hall⟩⟩
    ·refine⟨o13,bi,bj,bk,ti,tj,tk,_,_,rfl,rfl,⟨[],D13,Nat.zero_le _,fun k=>?_⟩,by simpa using BC.start B⟩
     rw [List.take_zero,Fj_nil];simp [valueAt]
   ·rintro _ ⟨h15,gs15,tk15,o',bi,bj,bk,ti,tj,tk,x17,x18,rfl,hg15,S15,Do,B'⟩
    refine exc (asgN (ld_ S15 v_flm_newj2len rfl (st_ S15 v_flm_j2len (nB rfl) fun h16 t16 S16=>exn ?_)))
    have S17:=S16.drop (mu':=((h12.objs.size,o')::(h6.objs.size,lob [] 0)::(h₁.objs.size,bmObj "set.__contains__" pj)::[])++own) (.cons_cons _ (.cons _ (.cons _ (List.Sublist.refl _))))
    exact TN hT S17 hg15 ⟨_,o',bi,bj,bk,ti,tj,tk,_,_,_,_,_,rfl,rfl,hsz S12,Do,B'⟩
  ·rintro _ _ h10 gs10 tk10 ⟨p,o,bi,bj,bk,ti,tj,tk,x14,x15,x16,x17,x18,rfl,rfl,hps,_,B⟩ hg10 S10
   exact⟨rfl,hI _ ⟨h10,gs10,tk10,p,o,bi,bj,bk,ti,tj,tk,x14,x15,x16,x17,x18,rfl,hg10,S10,by rw [show alo+(ahi - alo)=ahi by(clear hps hL hpj hp2 hbo hao e8 hs2 e7 hyl e2 hxl e1 hm hd c4 c3 c2 hbig hdep hA;exact Nat.add_sub_of_le (by lia))] at B;exact B⟩⟩
  ·refine⟨_,o5,alo,blo,0,_,_,_,_,_,_,_,_,rfl,rfl,hsz S4,⟨[],D5,Nat.zero_le _,fun k=>?_⟩,Best.start c3⟩
   rw [Nat.add_zero,Fi_zero];simp [valueAt]
 ·rintro _ ⟨h10,gs10,tk10,p,o,bi,bj,bk,ti,tj,tk,x14,x15,x16,x17,x18,rfl,hg10,S10,B⟩
  have hbi1:=B.blk.i0
  have hbi2:=B.blk.i1
  have hbj1:=B.blk.j0
  have hbj2:=B.blk.j1
  have geta:∀ n:Nat,n < xs.length→∃ v u,ia[n]?=some (.int v u)∧xs[n]?=some v:=fun n hn=>by
   have e:ia[n]?=some (ia[n]'(by rw [hai.length];lia)):=List.getElem?_eq_getElem (by rw [hai.length];lia)
   refine oEEA (IntsAre.get hai e) fun v u e1 e2=>?_
   exact⟨v,u,by rw [e,e1],e2⟩
  have getb:∀ n:Nat,n < ys.length→∃ v u,ib[n]?=some (.int v u)∧ys[n]?=some v:=fun n hn=>by
   have e:ib[n]?=some (ib[n]'(by rw [hbi.length];lia)):=List.getElem?_eq_getElem (by rw [hbi.length];lia)
   refine oEEA (IntsAre.get hbi e) fun v u e1 e2=>?_
   exact⟨v,u,by rw [e,e1],e2⟩
  refine joinO (FJ5 s h10 gs10) (while0 (isTrue_and (wC (ld_ S10 v_flm_besti rfl (ld_ S10 v_flm_alo rfl (PySem.P.gt_int (wT ?_))))))) ?_
  ·by_cases c5:alo < bi
   ·rw [if_pos (by simpa using c5)]
    refine isTrue_and (wC (ld_ S10 v_flm_bestj rfl (ld_ S10 v_flm_blo rfl (PySem.P.gt_int (wT ?_)))))
    by_cases c6:blo < bj
    ·rw [if_pos (by simpa using c6)]
     refine oEEA (geta (bi - 1) (by(clear c6 hbj2 hbj1 hbi1 hL hpj hp2 hbo hao e8 hs2 e7 hyl e2 hxl e1 hm hd c4 c3 c1 hbig hdep hA;exact Nat.sub_lt_right_of_lt_add (by lia) (by lia)))) fun va ua ea ea'=>?_
     refine oEEA (getb (bj - 1) (by lia)) fun vb ub eb eb'=>?_
     refine isTrue_and (isTrue_not (isTrue_plain (Call_ (ld_ S10 v_flm_isbjunk rfl (cBd (arg_ (Subscript_ (ld_ S10 v_flm_b rfl (wpAny_BinOp (ld_ S10 v_flm_bestj rfl (cInt fun k11 t11=>sub_ fun k12 t12=>itemL (v:=.int vb ub) (lob_list (S10.old hbo)) (by lia) (by lia) (by rw [show((bj:Int) - 1).toNat=bj - 1 by(clear eb' eb ea' ea c5 hbj2 hbj1 hbi2 hbi1 hL hpj hp2 hbo hao e8 hs2 e7 hyl e2 hxl e1 hm hd c4 c3 c2 c1 hbig hdep hA;simp)];exact eb) (arg0 ⟨S10.get (j:=2) rfl,?_⟩))))))))))))
     refine callSCont (S10.get (j:=2) rfl) (S10.old hpj) fun t13=>wT ?_
     rw [if_pos (by decide)]
     refine isTrue_and (wC (Subscript_ (ld_ S10 v_flm_a rfl (wpAny_BinOp (ld_ S10 v_flm_besti rfl (cInt fun k14 t14=>sub_ fun k15 t15=>itemL (v:=.int va ua) (lob_list (S10.old hao)) (by lia) (by lia) (by rw [show((bi:Int) - 1).toNat=bi - 1 by lia];exact ea) ?_))))))
     refine Subscript_ (ld_ S10 v_flm_b rfl (wpAny_BinOp (ld_ S10 v_flm_bestj rfl (cInt fun k16 t16=>sub_ fun k17 t17=>itemL (v:=.int vb ub) (lob_list (S10.old hbo)) (by lia) (by lia) (by rw [show((bj:Int) - 1).toNat=bj - 1 by lia];exact eb) ?_))))
     refine PySem.P.eq_int (wT ?_)
     have hne:va≠vb:=fun e=>B.left c5 c6 ⟨by rw [ea',eb',e],by rw [ea'];rfl⟩
     rw [if_neg (by simpa using hne)]
     exact⟨rfl,rfl,_,rfl⟩
    ·rw [if_neg (by simpa using c6)]
     exact⟨rfl,rfl,_,rfl⟩
   ·rw [if_neg (by simpa using c5)]
    exact⟨rfl,rfl,_,rfl⟩
  rintro _ ⟨tk20,rfl⟩
  refine joinO (FJ6 s h10 gs10) (while0 (isTrue_and (wC (wpAny_BinOp (ld_ S10 v_flm_besti rfl (ld_ S10 v_flm_bestsize rfl (add_ fun k21 t21=>ld_ S10 v_flm_ahi rfl (PySem.P.lt_int (wT ?_))))))))) ?_
  ·by_cases c5:bi+bk < ahi
   ·rw [if_pos (by simp;(clear hbj2 hbj1 hbi2 hbi1 hL hpj hp2 hbo hao e8 hs2 e7 hyl e2 hxl e1 hm hd c4 c3 c2 c1 hbig hdep hA;exact Int.ofNat_le.mpr (by lia)))]
    refine isTrue_and (wC (wpAny_BinOp (ld_ S10 v_flm_bestj rfl (ld_ S10 v_flm_bestsize rfl (add_ fun k22 t22=>ld_ S10 v_flm_bhi rfl (PySem.P.lt_int (wT ?_)))))))
    by_cases c6:bj+bk < bhi
    ·rw [if_pos (by simp;lia)]
     refine oEEA (geta (bi+bk) (by(clear c6 hbj2 hbj1 hbi2 hbi1 hL hpj hp2 hbo hao e8 hs2 e7 hyl e2 hxl e1 hm hd c4 c3 c1 hbig hdep hA;exact ntr c5 c2))) fun va ua ea ea'=>?_
     refine oEEA (getb (bj+bk) (by lia)) fun vb ub eb eb'=>?_
     refine isTrue_and (isTrue_not (isTrue_plain (Call_ (ld_ S10 v_flm_isbjunk rfl (cBd (arg_ (Subscript_ (ld_ S10 v_flm_b rfl (wpAny_BinOp (ld_ S10 v_flm_bestj rfl (ld_ S10 v_flm_bestsize rfl (add_ fun k12 t12=>itemL (v:=.int vb ub) (lob_list (S10.old hbo)) (by lia) (by lia) (by rw [show((bj:Int)+(bk:Int)).toNat=bj+bk by lia];exact eb) (arg0 ⟨S10.get (j:=2) rfl,?_⟩)))))))))))))
     refine callSCont (S10.get (j:=2) rfl) (S10.old hpj) fun t13=>wT ?_
     rw [if_pos (by decide)]
     refine isTrue_and (wC (Subscript_ (ld_ S10 v_flm_a rfl (wpAny_BinOp (ld_ S10 v_flm_besti rfl (ld_ S10 v_flm_bestsize rfl (add_ fun k15 t15=>itemL (v:=.int va ua) (lob_list (S10.old hao)) (by lia) (by lia) (by rw [show((bi:Int)+(bk:Int)).toNat=bi+bk by lia];exact ea) ?_)))))))
     refine Subscript_ (ld_ S10 v_flm_b rfl (wpAny_BinOp (ld_ S10 v_flm_bestj rfl (ld_ S10 v_flm_bestsize rfl (add_ fun k17 t17=>itemL (v:=.int vb ub) (lob_list (S10.old hbo)) (by lia) (by lia) (by rw [show((bj:Int)+(bk:Int)).toNat=bj+bk by lia];exact eb) ?_)))))
     refine PySem.P.eq_int (wT ?_)
     have hne:va≠vb:=fun e=>B.right c5 c6 ⟨by rw [ea',eb',e],by rw [ea'];rfl⟩
     rw [if_neg (by simpa using hne)]
     exact⟨rfl,rfl,_,rfl⟩
    ·rw [if_neg (by simp;lia)]
     exact⟨rfl,rfl,_,rfl⟩
   ·rw [if_neg (by simp;lia)]
    exact⟨rfl,rfl,_,rfl⟩
  rintro _ ⟨tk30,rfl⟩
  refine joinO (FJ7 s h10 gs10) (while0 (isTrue_and (wC (ld_ S10 v_flm_besti rfl (ld_ S10 v_flm_alo rfl (PySem.P.gt_int (wT ?_))))))) ?_
  ·by_cases c5:alo < bi
   ·rw [if_pos (by simpa using c5)]
    refine isTrue_and (wC (ld_ S10 v_flm_bestj rfl (ld_ S10 v_flm_blo rfl (PySem.P.gt_int (wT ?_)))))
    by_cases c6:blo < bj
    ·rw [if_pos (by simpa using c6)]
     refine oEEA (getb (bj - 1) (by lia)) fun vb ub eb eb'=>?_
     refine isTrue_and (isTrue_plain (Call_ (ld_ S10 v_flm_isbjunk rfl (cBd (arg_ (Subscript_ (ld_ S10 v_flm_b rfl (wpAny_BinOp (ld_ S10 v_flm_bestj rfl (cInt fun k11 t11=>sub_ fun k12 t12=>itemL (v:=.int vb ub) (lob_list (S10.old hbo)) (by lia) (by lia) (by rw [show((bj:Int) - 1).toNat=bj - 1 by lia];exact eb) (arg0 ⟨S10.get (j:=2) rfl,?_⟩)))))))))))
     refine callSCont (S10.get (j:=2) rfl) (S10.old hpj) fun t13=>wT ?_
     rw [if_neg (by decide)]
     exact⟨rfl,rfl,_,rfl⟩
    ·rw [if_neg (by simpa using c6)]
     exact⟨rfl,rfl,_,rfl⟩
   ·rw [if_neg (by simpa using c5)]
    exact⟨rfl,rfl,_,rfl⟩
  rintro _ ⟨tk40,rfl⟩
  refine joinO (FJ8 s h10 gs10) (while0 (isTrue_and (wC (wpAny_BinOp (ld_ S10 v_flm_besti rfl (ld_ S10 v_flm_bestsize rfl (add_ fun k21 t21=>ld_ S10 v_flm_ahi rfl (PySem.P.lt_int (wT ?_))))))))) ?_
  ·by_cases c5:bi+bk < ahi
   ·rw [if_pos (by simp;lia)]
    refine isTrue_and (wC (wpAny_BinOp (ld_ S10 v_flm_bestj rfl (ld_ S10 v_flm_bestsize rfl (add_ fun k22 t22=>ld_ S10 v_flm_bhi rfl (PySem.P.lt_int (wT ?_)))))))
    by_cases c6:bj+bk < bhi
    ·rw [if_pos (by simp;lia)]
     refine oEEA (getb (bj+bk) (by lia)) fun vb ub eb eb'=>?_
     refine isTrue_and (isTrue_plain (Call_ (ld_ S10 v_flm_isbjunk rfl (cBd (arg_ (Subscript_ (ld_ S10 v_flm_b rfl (wpAny_BinOp (ld_ S10 v_flm_bestj rfl (ld_ S10 v_flm_bestsize rfl (add_ fun k12 t12=>itemL (v:=.int vb ub) (lob_list (S10.old hbo)) (by lia) (by lia) (by rw [show((bj:Int)+(bk:Int)).toNat=bj+bk by lia];exact eb) (arg0 ⟨S10.get (j:=2) rfl,?_⟩))))))))))))
     refine callSCont (S10.get (j:=2) rfl) (S10.old hpj) fun t13=>wT ?_
     rw [if_neg (by decide)]
     exact⟨rfl,rfl,_,rfl⟩
    ·rw [if_neg (by simp;lia)]
     exact⟨rfl,rfl,_,rfl⟩
   ·rw [if_neg (by simp;lia)]
    exact⟨rfl,rfl,_,rfl⟩
  rintro _ ⟨tk50,rfl⟩
  refine exc (wpAny_Return_some (Call_ (lg_ S10 D g_flm_Match (gn_Match _) (callWith_K (D.k.keeps S10.F.keep) (kp_match _) (arg_ (ld_ S10 v_flm_besti rfl (arg_ (ld_ S10 v_flm_bestj rfl (arg_ (ld_ S10 v_flm_bestsize rfl (arg0 ⟨D.k.keeps S10.F.keep,?_⟩)))))))))))
  refine callS (match_spec (D.keeps S10.F.keep) (by show A.depth+1+2 < _;(clear hbj2 hbj1 hbi2 hbi1 hL hpj hp2 hbo hao e8 hs2 e7 hyl e2 hxl e1 hm hd c4 c3 c2 c1 hbig hA;exact Nat.le_of_lt hdep))) fun v h51 gs51 t51 M51 hv=>?_
  refine oEEA hv ?_;rintro t dd rfl Fr
  have S51:=S10.call0 (s:=⟨h10,gs10,s.drawn,tk50,s.os⟩) (s':=⟨h51,gs51,s.drawn,t51,s.os⟩) M51
  refine hPo _ _ (St.mod (W:=[]) (t:=0) S51 hL (fun _=>M51.gens hg10) rfl rfl rfl) ⟨t,dd,bi,bj,bk,ti,tj,tk,rfl,⟨Fr.here,fun q hq=>?_,Fr.nd⟩,B⟩
  cases hc:s.heap.get? q.1 with
  | none=>rfl
  | some o' =>
   have:=Fr.not q hq
   rw [S10.F.keep _ _ hc] at this
   cases this
end
section
open PySem.Builtin
section
theorem mf_iter(P:Params):findIn (K P) (.ref 135) (ofString "__iter__")=some (some (.builtin "tuple.__iter__")):=by kernel_rfl
theorem mf_item(P:Params):findIn (K P) (.ref 135) (ofString "__getitem__")=some (some (.builtin "tuple.__getitem__")):=by kernel_rfl
theorem mf_lt(P:Params):findIn (K P) (.ref 135) (ofString "__lt__")=some (some (.builtin "tuple.__lt__")):=by kernel_rfl
theorem mf_len(P:Params):findIn (K P) (.ref 135) (ofString "__len__")=some (some (.builtin "tuple.__len__")):=by kernel_rfl
end
section
variable{w:World}{A:Around}{E:Value→Shared→Prop}{s s':Shared}{h:Heap}{gs:Array GenState}{dr:Drawn}{tk:Nat}{os:OsState}{t dd:Addr}{items:List Value}{P:Params}
theorem m_type{M:Model}(ht:h.get? t=some (mob dd items)):Looks M h (typeOf (.ref t)) (.ref 135):=(Looks.ld ht).andThen .now
theorem m_inst{M:Model}(X:(K P).In h)(ht:h.get? t=some (mob dd items)):Looks M h (isInstance (.ref t) (.type "tuple")) true:=(m_type ht).andThen (looks_subIn X (sub_mt P))
theorem m_spec{M:Model}{name:Str}{v:Option Value}(X:(K P).In h)(ht:h.get? t=some (mob dd items))(hf:findIn (K P) (.ref 135) name=some v):Looks M h (specialOf (.ref t) name) v:=(m_type ht).andThen (looks_findIn X hf)
theorem callM {id n:String} {B:Builtin} {args:List Value} {Q:Value→Shared→Prop} (X:(K P).In h) (ht:h.get? t=some (mob dd items)) (hk:builtinKind id=some .slot) (hs:splitId id=some ("tuple",n)) (hp:plainId id=true) (he:entryFor table id=some B) (ha:argsOk id ⟨.ref t::args,[]⟩)
  (k:wpAny (model prog w) A.in1 (B ⟨.ref t::args,[]⟩) (fun fin s'=>∃ v,fin=.done (.ret v)∧Q v s') E ⟨h,gs,dr,tk,os⟩):wpAny (model prog w) A (call (.builtin id) (.ref t::args)) Q E ⟨h,gs,dr,tk,os⟩:=by
 refine wpAny_call (codeAny_call_builtin hp he (@check_slot (model prog w) _ _ _ id "tuple" n (.ref t) args [] _ hk hs (m_inst X ht) ha ?_))
 refine wpAny_mono k (fun fin s' hf=>?_) fun _ _ x=>x
 refine oEA hf ?_;rintro v rfl hv
 exact hv
theorem m_iter{Q:Value→Shared→Prop}(X:(K P).In h)(ht:h.get? t=some (mob dd items))
  (q:Q (.ref h.objs.size) ⟨h.push { cls:=.type "tuple_iterator",data:=.fields #[.ref t,.int 0 0] },gs,dr,tk,os⟩):wpAny (model prog w) A (pyIter (.ref t)) Q E ⟨h,gs,dr,tk,os⟩:=by
 have l1:Looks (model prog w) h (specialOf (.ref t) (ofString "__iter__")) (some (.builtin "tuple.__iter__")):=m_spec X ht (mf_iter P)
 have l2:Looks (model prog w) h (bindSpecial (.builtin "tuple.__iter__") (.ref t)) (.builtin "tuple.__iter__",[.ref t]):=Looks.of_pure (slot_tuple_iter.bind _)
 have cal:wpAny (model prog w) A (call (.builtin "tuple.__iter__") [.ref t]) (fun v s'=>v=.ref h.objs.size∧s'=⟨h.push { cls:=.type "tuple_iterator",data:=.fields #[.ref t,.int 0 0] },gs,dr,tk,os⟩) E ⟨h,gs,dr,tk,os⟩:=by
  refine callM (n:="__iter__") X ht (by decide +kernel) (by decide +kernel) (by decide +kernel) entry_tuple_iter (args_tuple_iter _) ?_
  show wpAny _ _ (do ret (← newFields "tuple_iterator" [.ref t,rawInt 0])) _ _ _
  exact wB (wpAny_newObj_type (wP ⟨_,rfl,rfl,rfl⟩))
 have l3:Looks (model prog w) (h.push { cls:=.type "tuple_iterator",data:=.fields #[.ref t,.int 0 0] }) (specialOf (.ref h.objs.size) (ofString "__next__")) (some (.builtin "tuple_iterator.__next__")):=by
  refine Looks.andThen (a:=Value.type "tuple_iterator") ((Looks.ld (Heap.get?_push_size _ rfl)).andThen .now) (Looks.of_pure slot_tupleiter_next.lookup)
 unfold pyIter
 refine wB (l1.at ?_)
 dsimp only
 refine wB (wpAny_mono (Q:=fun v s'=>v=some (.ref h.objs.size)∧s'=⟨h.push { cls:=.type "tuple_iterator",data:=.fields #[.ref t,.int 0 0] },gs,dr,tk,os⟩) (E:=E) ?_ (fun v s' hv=>?_) fun _ _ x=>x)
 ·simp only [callSpecialIfBoundUnlessNone?,bindSpecialIfBound?]
  refine wpAny_holding (wB (wB (l1.at ?_)))
  simp only [slot_tuple_iter.bind]
  refine wB (wpAny_askSetting (wpAny_ite ?_))
  have fin:∀ r:Sem Value,wpAny (model prog w) A (if (Value.builtin "tuple.__iter__" == Value.none)=true then (r >>= fun v=>pure (some v)) else (call (.builtin "tuple.__iter__") [.ref t] >>= fun v=>pure (some v))) (fun v s'=>v=some (.ref h.objs.size)∧s'=⟨h.push { cls:=.type "tuple_iterator",data:=.fields #[.ref t,.int 0 0] },gs,dr,tk,os⟩) E ⟨h,gs,dr,tk,os⟩:=fun r=>by
   rw [if_neg (by decide)]
   exact wB (wpAny_mono cal (fun v s' hv=>wP ⟨by rw [hv.1],hv.2⟩) fun _ _ x=>x)
  split
  ·exact wB (wP (wP (fin _)))
  ·exact wpAny_tryCatch (wB (wP (wP (fin _))))
 ·obtain⟨rfl,rfl⟩:=hv
  exact wB (l3.at (wP q))
theorem m_next{it:Addr}{i:Nat}{x:Value}{Q:Option Value→Shared→Prop}(hit:IsTupIter h it t i)(ht:h.get? t=some (mob dd items))(hx:items[i]?=some x)
  (q:∀ h',IsTupIter h' it t (i+1)→Heap.SameBut it h h'→Q (some x) ⟨h',gs,dr,tk,os⟩):wpAny (model prog w) A (pyNext (.ref it)) Q E ⟨h,gs,dr,tk,os⟩:=by
 refine oEAA (id hit) fun o ho hc hd=>?_
 unfold pyNext
 refine wB (wpAny_attempt (wpAny_callSpecial?_slot (name:=ofString "__next__") hit.typeIs slot_tupleiter_next (wpAny_call_entry slot_tupleiter_next hit.typeIs entry_tupleiter_next ?_ (args_tupleiter_next _))))
 show wpAny _ _ (field (.ref it) 0 >>= _) _ _ _
 refine wB (wpAny_field ho hd (x:=.ref t) rfl ?_)
 show wpAny _ _ (if (Value.ref t == Value.none)=true then _ else _) _ _ _
 rw [if_neg (show ¬ ((Value.ref t == Value.none)=true) from Bool.false_ne_true)]
 show wpAny _ _ (field (.ref it) 1 >>= _) _ _ _
 refine wB (wpAny_field ho hd (x:=.int i 0) rfl ?_)
 show wpAny _ _ (seqItems? (.ref t) >>= _) _ _ _
 refine wB (wpAny_seqItems ht rfl ?_)
 have hx':items.toArray[i]?=some x:=by simpa using hx
 simp only [Int.toNat_natCast,hx']
 refine wB (wpAny_setField ho hd (by simp) (wP ⟨x,rfl,wP (q _ ?_ (Heap.SameBut.update ..))⟩))
 exact⟨_,Heap.get?_update_self _ ho (Obj.isFreed_of_fields (Obj.data_mapFields hd _)),(Obj.cls_mapFields ..).trans hc,by rw [Obj.data_mapFields hd];simp [rawInt]⟩
theorem m_end{it:Addr}{i:Nat}{Q:Option Value→Shared→Prop}(hh:A.handled=none)(hit:IsTupIter h it t i)(ht:h.get? t=some (mob dd items))(hx:items[i]?=none)
  (q:∀ h',Heap.ExtBut it h h'→Q none ⟨h',gs,dr,tk,os⟩):wpAny (model prog w) A (pyNext (.ref it)) Q E ⟨h,gs,dr,tk,os⟩:=by
 refine oEAA (id hit) fun o ho hc hd=>?_
 unfold pyNext
 refine wB (wpAny_attempt (wpAny_callSpecial?_slot (name:=ofString "__next__") hit.typeIs slot_tupleiter_next (wpAny_call_entry slot_tupleiter_next hit.typeIs entry_tupleiter_next ?_ (args_tupleiter_next _))))
 show wpAny _ _ (field (.ref it) 0 >>= _) _ _ _
 refine wB (wpAny_field ho hd (x:=.ref t) rfl ?_)
 show wpAny _ _ (if (Value.ref t == Value.none)=true then _ else _) _ _ _
 rw [if_neg (show ¬ ((Value.ref t == Value.none)=true) from Bool.false_ne_true)]
 show wpAny _ _ (field (.ref it) 1 >>= _) _ _ _
 refine wB (wpAny_field ho hd (x:=.int i 0) rfl ?_)
 show wpAny _ _ (seqItems? (.ref t) >>= _) _ _ _
 refine wB (wpAny_seqItems ht rfl ?_)
 have hx':items.toArray[i]?=none:=by simpa using hx
 simp only [Int.toNat_natCast,hx']
 refine wB (wpAny_rule (wB (wpAny_setField ho hd (by simp) ?_)))
 show wpAny _ _ (newExc (.type "StopIteration") [] >>= _) _ _ _
 refine wB ?_
 simp only [newExc,newTuple]
 refine wB (wpAny_newObj_type ?_ (by size_fits))
 refine wB (m:=firstArgMember _ _) (wpAny_of_eq (a:=Value.none) (by first | rfl | (simp only [firstArgMember];rfl)) ?_)
 refine wpAny_newObj_type ?_ (by size_fits)
 delta raiseNew
 dsimp only
 refine wB (wpAny_handled ?_)
 first | rw [show A.in1.handled=none from hh] | rw [hh]
 refine wB (wP (wpAny_throw ?_))
 refine wB (wpAny_isInstance (T:="StopIteration") (b:=true) ⟨_,Heap.get?_push_size _ rfl,rfl⟩ isSubtype_stop ?_)
 exact wP (q _ (((Heap.SameBut.update ..).extBut.push _).push _))
theorem m_unpack3{g:Heap}{L:Addr}{nm:List Str}{ls:List (Option Value)}{mu:List (Addr×Obj)}{x y z:Value}{Q:List Value→Shared→Prop}(hh:A.handled=none)(X:(K P).In h)(ht:h.get? t=some (mob dd [x,y,z]))(S:St g L h nm ls mu)
  (q:∀ h',Sub h h'→St g L h' nm ls mu→Q [x,y,z] ⟨h',gs,dr,tk,os⟩):wpAny (model prog w) A (unpackItems (.ref t) 3 none) Q E ⟨h,gs,dr,tk,os⟩:=by
 have hlt:t≠h.objs.size:=Nat.ne_of_lt (Heap.lt_size ht)
 have l1:Looks (model prog w) h (specialOf (.ref t) (ofString "__iter__")) (some (.builtin "tuple.__iter__")):=m_spec X ht (mf_iter P)
 unfold unpackItems
 refine wB ?_
 unfold notIterableAtAll
 refine wB (l1.at ?_)
 refine wP ?_
 simp only [Bool.false_eq_true,if_false]
 refine wB (wpAny_holding (m_iter X ht ?_))
 have h1:=Heap.get?_push_of_some { cls:=.type "tuple_iterator",data:=.fields #[.ref t,.int 0 0] } ht
 refine wB (wpAny_holding ?_)
 show wpAny _ _ (pyNext _ >>= _) _ _ _
 refine wB (m_next (i:=0) ⟨_,Heap.get?_push_size _ rfl,rfl,rfl⟩ h1 rfl fun h2 hit2 s2=>?_)
 have t2:h2.get? t=some (mob dd [x,y,z]):=(s2.2 t hlt).trans h1
 refine wB (wpAny_holding ?_)
 show wpAny _ _ (pyNext _ >>= _) _ _ _
 refine wB (m_next hit2 t2 rfl fun h3 hit3 s3=>?_)
 have t3:h3.get? t=some (mob dd [x,y,z]):=(s3.2 t hlt).trans t2
 refine wB (wpAny_holding ?_)
 show wpAny _ _ (pyNext _ >>= _) _ _ _
 refine wB (m_next hit3 t3 rfl fun h4 hit4 s4=>?_)
 have t4:h4.get? t=some (mob dd [x,y,z]):=(s4.2 t hlt).trans t3
 refine wB (wpAny_holding ?_)
 show wpAny _ _ (pure []) _ _ _
 refine wP (wP (wP (wP ?_)))
 rw [if_neg (by simp)]
 refine wB (wpAny_holding (m_end hh hit4 t4 rfl fun h5 e5=>?_))
 simp only [Option.isSome_none,Bool.false_eq_true,if_false]
 have hsub:Sub h h5:=fun b o e=>by
  have hb:b≠h.objs.size:=Nat.ne_of_lt (Heap.lt_size e)
  exact e5 b o hb ((s4.2 b hb).trans ((s3.2 b hb).trans ((s2.2 b hb).trans (Heap.get?_push_of_some _ e))))
 exact wP (q h5 hsub (S.sub hsub))
end
end
section
open PySem.Builtin
noncomputable def All{α:Type}(N:Nat)(P:α→Prop):KasT α→Prop
 | .ret a=>P a
 | .ask i j k=>i < N∧j < N∧∀ b,All N P (k b)
theorem All.bind{α β:Type}{N:Nat}{P:α→Prop}{P':β→Prop}{f:α→KasT β}:∀ {t:KasT α},All N P t→(∀ a,P a→All N P' (f a))→All N P' (t.bind f)
 | .ret a,h,k=>k a h
 | .ask i j g,h,k=>⟨h.1,h.2.1,fun b=>All.bind (h.2.2 b) k⟩
theorem All.mono{α:Type}{N:Nat}{P P':α→Prop}(k:∀ a,P a→P' a):∀ {t:KasT α},All N P t→All N P' t
 | .ret a,h=>k a h
 | .ask i j g,h=>⟨h.1,h.2.1,fun b=>All.mono k (h.2.2 b)⟩
noncomputable def Bd(N:Nat)(p:Array Nat):Prop:=0 < N∧∀ x∈p.toList,x < N
theorem Bd.get{N:Nat}{p:Array Nat}(h:Bd N p)(i:Nat):p.getD i 0 < N:=by
 rw [Array.getD_eq_getD_getElem?]
 cases e:p[i]? with
 | none=>exact h.1
 | some x=>exact h.2 x (Array.mem_toList_iff.mpr (Array.mem_of_getElem? e))
theorem Bd.perm{N:Nat}{p q:Array Nat}(h:Bd N p)(e:q.Perm p):Bd N q:=⟨h.1,fun x hx=>h.2 x (e.toList.mem_iff.mp hx)⟩
theorem rev_perm(p:Array Nat)(i j:Nat):(kas_rev p i j).Perm p:=mirror_perm _ _ _ _
variable{N:Nat}
theorem asc_any{p:Array Nat}(B:Bd N p):∀ (f n:Nat),All N (fun _=>True) (kas_asc p f n)
 | 0,n=>trivial
 | f+1,n=>⟨B.get _,B.get _,fun b=>by cases b<;>simp<;>first | exact trivial | exact asc_any B f (n+1)⟩
theorem desc_perm:∀ (f:Nat) {p:Array Nat} (_:Bd N p) (n q:Nat),All N (fun r=>r.1.Perm p) (kas_desc f p n q)
 | 0,p,B,n,q=>Array.Perm.refl _
 | f+1,p,B,n,q=>⟨B.get _,B.get _,fun b=>by
  cases b with
  | true =>
   show All N _ (if q > 0 then kas_desc f (kas_rev p (n - (q+1)) n) (n+1) 0 else kas_desc f p (n+1) 0)
   split
   ·exact(desc_perm f (B.perm (rev_perm ..)) _ _).mono fun r h=>h.trans (rev_perm ..)
   ·exact desc_perm f B _ _
  | false =>
   refine⟨B.get _,B.get _,fun d=>?_⟩
   cases d with
   | true=>exact Array.Perm.refl _
   | false=>exact desc_perm f B _ _⟩
theorem tail3_perm{p:Array Nat}(B:Bd N p)(n nrem:Nat):All N (fun r=>r.2.Perm p) (kas_tail3 n nrem p) :=
 (asc_any (B.perm (rev_perm ..)) _ _).bind fun m _=>rev_perm ..
theorem descPart_perm{p:Array Nat}(B:Bd N p)(n nrem:Nat):All N (fun r=>r.2.Perm p) (kas_descPart n nrem p) :=
 (desc_perm _ B _ _).bind fun r h=>by
  split
  ·exact(tail3_perm ((B.perm h).perm (rev_perm ..)) _ _).mono fun x hx=>hx.trans ((rev_perm ..).trans h)
  ·exact(tail3_perm (B.perm h) _ _).mono fun x hx=>hx.trans h
theorem count_perm{p:Array Nat}(B:Bd N p)(nrem:Nat):All N (fun r=>r.2.Perm p) (kas_count nrem p) :=
 (asc_any B _ _).bind fun n _=>by
  split
  ·exact Array.Perm.refl _
  ·split
   ·refine⟨B.get _,B.get _,fun c=>?_⟩
    cases c with
    | true=>exact Array.Perm.refl _
    | false=>exact(descPart_perm (B.perm (rev_perm ..)) _ _).mono fun x hx=>hx.trans (rev_perm ..)
   ·exact descPart_perm B _ _
theorem place_any{p:Array Nat}(B:Bd N p)(k:Nat):∀ (f l r:Nat),All N (fun _=>True) (kas_place p k f l r)
 | 0,l,r=>trivial
 | f+1,l,r=>by
  show All N _ (if l ≥ r then .ret l else .ask (p.getD k 0) (p.getD ((l+r) / 2) 0) fun c=>if c=true then kas_place p k f l ((l+r) / 2) else kas_place p k f ((l+r) / 2+1) r)
  split
  ·trivial
  ·refine⟨B.get _,B.get _,fun c=>?_⟩
   cases c with
   | true=>exact place_any B k f _ _
   | false=>exact place_any B k f _ _
theorem bin_perm:∀ (f:Nat) {p:Array Nat} (_:Bd N p) (k:Nat),All N (fun r=>r.Perm p) (kas_bin f p k)
 | 0,p,B,k=>Array.Perm.refl _
 | f+1,p,B,k=>(place_any B _ _ _ _).bind fun l _=>(bin_perm f (B.perm (bubble_perm ..)) _).mono fun r h=>h.trans (bubble_perm ..)
theorem sort_perm(n:Nat)(h:0 < n):All n (fun r=>r.Perm (List.range n).toArray) (kas_sort n) :=
 have B:Bd n (List.range n).toArray:=⟨h,fun x hx=>by simpa using hx⟩
 (count_perm B _).bind fun r h=>by
  split
  ·exact(bin_perm _ (B.perm h) _).mono fun x hx=>hx.trans h
  ·exact h
section
variable{w:World}{A:Around}{E:Value→Shared→Prop}{s s':Shared}{g h:Heap}{gs:Array GenState}{dr:Drawn}{tk:Nat}{os:OsState}{t u dd du:Addr}{P:Params}{L:Addr}{nm:List Str}{ls:List (Option Value)}{mu:List (Addr×Obj)}
theorem All.wp{α:Type}{Pr:α→Prop}{cmp:Nat→Nat→(Bool→Shared→Prop)→Shared→Prop}{I:Shared→Prop}{Q:α→Shared→Prop}{N:Nat}(hc:∀ i j C s,i < N→j < N→I s→(∀ b s',I s'→C b s')→cmp i j C s)(hq:∀ a s,Pr a→I s→Q a s):∀ {t:KasT α} {s:Shared},All N Pr t→I s→t.kasWp cmp Q s
 | .ret a,s,h,i=>hq a s h i
 | .ask i j k,s,h,hi=>hc i j _ s h.1 h.2.1 hi fun b s' hs'=>All.wp hc hq (h.2.2 b) hs'
theorem m_ltrun{a b:Int}{x₁ x₂ x₃ y₁ y₂ y₃:Int}{k₁ k₂ k₃ l₁ l₂ l₃:Tok}{Q:PySem.Fin→Shared→Prop}(X:(K P).In h)(ht:h.get? t=some (mob dd [.int x₁ k₁,.int x₂ k₂,.int x₃ k₃]))(hu:h.get? u=some (mob du [.int y₁ l₁,.int y₂ l₂,.int y₃ l₃]))
  (q:∀ b,Q (.done (.ret (.bool b))) ⟨h,gs,dr,tk,os⟩):wpAny (model prog w) A (Builtin.«tuple.__lt__» ⟨[.ref t,.ref u],[]⟩) Q E ⟨h,gs,dr,tk,os⟩:=by
 have l1:Looks (model prog w) h (isInstance (.ref u) (.type "tuple")) true:=m_inst X hu
 have rc:∀ (a b:Int) (k l:Tok) (Q:Value→Shared→Prop),(∀ c,Q (.bool c) ⟨h,gs,dr,tk,os⟩)→wpAny (model prog w) A (richCompare .Lt (.int a k) (.int b l)) Q E ⟨h,gs,dr,tk,os⟩:=fun a b k l Q q=>PySem.P.lt_int (q _)
 show wpAny _ _ (isInstance (.ref u) (.type "tuple") >>= _) _ _ _
 refine wB (l1.at ?_)
 simp only [Bool.not_true,Bool.false_eq_true,if_false]
 refine wB (wpAny_tupleItemsOf ht rfl ?_)
 refine wB (wpAny_tupleItemsOf hu rfl ?_)
 refine wB ?_
 simp only [List.zip_cons_cons,List.zip_nil_right]
 have fin:∀ b,Q (.done (.ret (.bool b))) ⟨h,gs,dr,tk,os⟩:=q
 rw [List.forIn_cons]
 refine wB (wB (wpAny_eqBool_int ?_))
 by_cases e1:x₁=y₁
 ·rw [if_neg (by simpa using e1)]
  refine wP ?_
  dsimp only
  rw [List.forIn_cons]
  refine wB (wB (wpAny_eqBool_int ?_))
  by_cases e2:x₂=y₂
  ·rw [if_neg (by simpa using e2)]
   refine wP ?_
   dsimp only
   rw [List.forIn_cons]
   refine wB (wB (wpAny_eqBool_int ?_))
   by_cases e3:x₃=y₃
   ·rw [if_neg (by simpa using e3)]
    refine wP ?_
    dsimp only
    rw [List.forIn_nil]
    exact wP (wP (q _))
   ·rw [if_pos (by simpa using e3)]
    exact wB (wpAny_rule (wB (rc _ _ _ _ _ fun c=>wB (wP (wP (wP (wP (q _))))))))
  ·rw [if_pos (by simpa using e2)]
   exact wB (wpAny_rule (wB (rc _ _ _ _ _ fun c=>wB (wP (wP (wP (wP (q _))))))))
 ·rw [if_pos (by simpa using e1)]
  exact wB (wpAny_rule (wB (rc _ _ _ _ _ fun c=>wB (wP (wP (wP (wP (q _))))))))
noncomputable def IsM(h:Heap)(v:Value):Prop:=∃ t dd x y z k l m,v=.ref t∧h.get? t=some (mob dd [.int x k,.int y l,.int z m])
theorem m_lt{v₁ v₂:Value}{C:Bool→Shared→Prop}(X:(K P).In h)(h1:IsM h v₁)(h2:IsM h v₂)(hu:A.units < cLine)(q:∀ b,C b ⟨h,gs,dr,tk,os⟩):wpAny (model prog w) A (keyLt' oneType' v₁ v₂) C E ⟨h,gs,dr,tk,os⟩:=by
 refine oEEEEEEEEA h1 ?_;rintro t dd x y z k l m rfl ht
 refine oEEEEEEEEA h2 ?_;rintro u du x' y' z' k' l' m' rfl hu'
 have l1:Looks (model prog w) h (specialOf (.ref t) (ofString "__lt__")) (some (.builtin "tuple.__lt__")):=m_spec X ht (mf_lt P)
 rw [keyLt'_oneType,oneLt'_eq]
 simp only [if_true]
 refine wB (wpAny_cRoomFor hu ?_)
 have cal:wpAny (model prog w) A (call (.builtin "tuple.__lt__") [.ref t,.ref u]) (fun v s'=>∃ b,v=.bool b∧s'=⟨h,gs,dr,tk,os⟩) E ⟨h,gs,dr,tk,os⟩ :=
  callM (n:="__lt__") X ht (by decide +kernel) (by decide +kernel) (by decide +kernel) PySem.F.entry_tuple_lt (PySem.F.args_tuple_lt_2 _ _) (m_ltrun (a:=0) (b:=0) X ht hu' fun b=>⟨_,rfl,b,rfl,rfl⟩)
 refine wB (wpAny_mono (Q:=fun v s'=>∃ b,v=some (.bool b)∧s'=⟨h,gs,dr,tk,os⟩) (E:=E) ?_ (fun v s' hv=>?_) fun _ _ x=>x)
 ·simp only [callSpecialIfBound?,bindSpecialIfBound?]
  refine wpAny_holding (wB (wB (l1.at ?_)))
  have hb:=PySem.F.slot_tuple_lt.bind
  simp only [hb]
  refine wB (wpAny_askSetting (wpAny_ite ?_))
  have fin:wpAny (model prog w) A (call (.builtin "tuple.__lt__") ([.ref t]++[.ref u]) >>= fun v=>pure (some v)) (fun v s'=>∃ b,v=some (.bool b)∧s'=⟨h,gs,dr,tk,os⟩) E ⟨h,gs,dr,tk,os⟩ :=
   wB (wpAny_mono cal (fun v s' hv=>by refine oEA hv ?_;rintro b rfl rfl;exact wP ⟨b,rfl,rfl⟩) fun _ _ x=>x)
  split
  ·exact wB (wP (wP fin))
  ·exact wpAny_tryCatch (wB (wP (wP fin)))
 ·refine oEA hv ?_;rintro b rfl rfl
  exact wT (q b)
theorem sortM{l:Addr}{items:List Value}{n:Nat}{Q:Value→Shared→Prop}(S:St g L h nm ls ((l,lob items n)::mu))(X:(K P).In g)(hu:A.units+1 < cLine)(h64:items.length < 64)
  (hM:∀ v∈items,∃ t dd x y z k l m,v=.ref t∧Kn g mu t (mob dd [.int x k,.int y l,.int z m]))
  (q:∀ h' items' n',items'.Perm items→St g L h' nm ls ((l,lob items' n')::mu)→Q .none ⟨h',gs,dr,tk,os⟩) :
  wpAny (model prog w) A (call (.builtin "list.sort") [.ref l]) Q E ⟨h,gs,dr,tk,os⟩:=by
 have hne:∀ p∈mu,p.1≠l:=fun p hp e=>(List.nodup_cons.mp S.nd).1 (List.mem_map.mpr ⟨p,hp,e⟩)
 have nd':∀ o:Obj,(((l,o)::mu).map (·.1)).Nodup:=fun o=>S.nd
 have isM:∀ h' o,Fr g L h' (look nm ls)→News g L h' ((l,o)::mu)→∀ v∈items,IsM h' v:=fun h' o F' N' v hv=>by
  refine oEEEEEEEEA (hM v hv) ?_;rintro t dd x y z k l' m rfl hk
  exact⟨t,dd,x,y,z,k,l',m,rfl,hk.elim (F'.keep _ _) fun hm=>(N' _ (.tail _ hm)).1⟩
 by_cases h2:2≤items.length
 ·refine kas_lsort (s:=⟨h,gs,dr,tk,os⟩) (T:=.ref 135) (vs:=items) (its:=items.toArray) (n:=n) S.F S.N (UpdF.head hne) (by simp) h2 h64 (fun e1 h' F' N' v hv=>?_) (by decide) fun e1 h' F' N'=>?_
  ·refine oEEEEEEEEA (isM h' _ F' N' v hv) ?_;rintro t dd x y z k l' m rfl ht
   exact m_type ht
  ·refine All.wp (Pr:=fun r=>r.Perm (List.range items.length).toArray) (I:=fun s'=>s'=⟨h',gs,dr,tk,os⟩) (fun i j C s' hi hj hs hC=>?_) (fun p s' hp hs=>?_) (sort_perm _ (by lia)) rfl
   ·subst hs
    have get:∀ i,i < items.length→IsM h' (items.getD i .none):=fun i hi=>by
     rw [List.getD_eq_getElem?_getD,List.getElem?_eq_getElem hi]
     exact isM h' _ F' N' _ (List.getElem_mem hi)
    exact m_lt (X.keeps F'.keep) (get i hi) (get j hj) (by show A.units+1 < _;exact hu) fun b=>hC b _ rfl
   ·subst hs
    refine KasFin.intro F' N' (UpdF.head hne) fun h'' c F'' N''=>q h'' _ c ?_ ⟨F'',N'',nd' _⟩
    have hp':p.toList.Perm (List.range items.length):=hp.toList
    refine(hp'.map _).trans ?_
    have e:(List.range items.length).map (fun i=>items.getD i Value.none)=items:=by
     apply List.ext_getElem (by simp)
     intro i h1 h2
     simp [List.getElem?_eq_getElem h2]
    rw [e]
 ·have ho:=S.get (j:=0) rfl
  refine wpAny_call_entry PyProof.Rows.slot_list_sort (s:=⟨h,gs,dr,tk,os⟩) ⟨_,ho,rfl⟩ PyProof.Rows.entry_list_sort ?_ (PyProof.Rows.args_list_sort _)
  have s1:=Heap.SameBut.update h l (Obj.mapSeq fun _=>(#[]:Array Value))
  obtain⟨e1,ho1⟩:∃ e1,(h.update l (Obj.mapSeq fun _=>(#[]:Array Value))).get? l=some (seqObj "list" #[] e1):=⟨_,get?_update_seq ho fun _=>#[]⟩
  have S1:=S.same (j:=0) rfl s1 ho1
  have S2:=(S1.push (seqObj "tuple" items.toArray 0)).push (seqObj "list" #[] 0)
  rw [list_sort_plain]
  refine wB (listItems_at ho rfl ?_)
  refine wB (listUpdate_at ho rfl ?_ (by rw [List.size_toArray,sizeLine_eq];lia) (Nat.zero_le _))
  refine wB (seqEpoch_at ho1 rfl ?_)
  refine wB (wpAny_newTuple ?_ (by show items.length≤_;rw [sizeLine_eq];lia))
  refine wB (wpAny_newList ?_ (Nat.zero_le _))
  refine wpAny_holding ?_
  have ho6:=S2.get (j:=2) rfl
  show wpAny (model prog w) A.in1 _ _ E ⟨((h.update l (Obj.mapSeq fun _=>(#[]:Array Value))).push (seqObj "tuple" items.toArray 0)).push (seqObj "list" #[] 0),gs,dr,tk,os⟩
  dsimp only
  rw [if_pos (by rw [List.size_toArray];lia),if_pos (by rw [List.size_toArray];lia)]
  refine wB (wP ?_)
  rw [StateT.run_pure]
  refine wB (wP ?_)
  dsimp only
  refine wB (seqEpoch_at ho6 rfl ?_)
  refine wB (listUpdate_at ho6 rfl ?_ (Nat.zero_le _) (by rw [Array.size_map];show(pairsOf items).size≤_;rw [pairsOf_size,sizeLine_eq];lia))
  simp only [bne_self_eq_false,Bool.false_eq_true,if_false]
  refine wP ⟨_,rfl,?_⟩
  have e2:=get?_update_seq ho6 (fun _=>Array.map (fun x=>x.snd) (arrOf (SortSt.mk' general' (items.toArray.zip items.toArray) #[] 7 none)))
  have S3:=(S2.same (j:=2) rfl (Heap.SameBut.update _ l _) e2).drop (mu':=(l,_)::mu) (.cons _ (.cons _ (List.Sublist.refl _)))
  have e3:Array.map (fun x=>x.snd) (arrOf (SortSt.mk' general' (items.toArray.zip items.toArray) #[] 7 none))=items.toArray:=by
   show Array.map (fun x=>x.snd) (items.toArray.zip items.toArray)=items.toArray
   apply Array.ext (by simp)
   intro i h1 h2
   simp
  rw [e3] at S3 ⊢
  exact q _ items _ (List.Perm.refl _) S3
end
end
section
open PySem.Builtin
section
variable{w:World}{A:Around}{E:Value→Shared→Prop}{s s':Shared}{mg mb:Str→Option Value}{g h:Heap}{gs:Array GenState}{dr:Drawn}{tk:Nat}{os:OsState}{t dd:Addr}{items:List Value}{P:Params}{L:Addr}{nm:List Str}{ls:List (Option Value)}{mu:List (Addr×Obj)}
theorem m_special{name:Str}{id n:String}{B:Builtin}{args:List Value}{Q:Option Value→Shared→Prop}(X:(K P).In h)(ht:h.get? t=some (mob dd items))(hf:findIn (K P) (.ref 135) name=some (some (.builtin id)))(hb:bindSpecial (.builtin id) (.ref t)=pure (.builtin id,[.ref t]))
  (hk:builtinKind id=some .slot) (hs:splitId id=some ("tuple",n)) (hp:plainId id=true) (he:entryFor table id=some B) (ha:argsOk id ⟨.ref t::args,[]⟩)
  (k:wpAny (model prog w) A.in1 (B ⟨.ref t::args,[]⟩) (fun fin s'=>∃ v,fin=.done (.ret v)∧Q (some v) s') E ⟨h,gs,dr,tk,os⟩):wpAny (model prog w) A (callSpecial? (.ref t) name args) Q E ⟨h,gs,dr,tk,os⟩:=by
 simp only [callSpecial?]
 refine wB ((m_spec X ht hf).at ?_)
 simp only [hb]
 exact wpAny_holding (wB (wP (wB (wpAny_mono (callM X ht hk hs hp he ha (Q:=fun v s'=>Q (some v) s') k) (fun v s' h'=>wP h') fun _ _ h'=>h'))))
theorem m_len{Q:Value→Shared→Prop}(X:(K P).In h)(ht:h.get? t=some (mob dd items))(hl:items.length≤1000)(q:∀ k tk,Q (.int items.length k) ⟨h,gs,dr,tk,os⟩):wpAny (model prog w) A (call (.builtin "len") [.ref t]) Q E ⟨h,gs,dr,tk,os⟩:=by
 refine Calls.call_function_entry kind_len plain_len entry_len (args_len1 _) ?_
 unfold Builtin.«len»
 refine wB (m:=oneArg "len" _) (wP ?_)
 refine wB (m:=callSpecial? (.ref t) (ofString "__len__")) (m_special (n:="__len__") X ht (mf_len P) (slot_tuple_len.bind _) (by decide +kernel) (by decide +kernel) (by decide +kernel) entry_tuple_len (args_tuple_len _) ?_)
 show wpAny _ _ (Builtin.Tuple.tupleItemsOf (.ref t) >>= fun xs=>retInt xs.size) _ _ _
 refine wB (wpAny_tupleItemsOf ht rfl ?_)
 refine wB (wpAny_mkInt (wP ⟨_,rfl,?_⟩))
 have e:((items.toArray.size:Nat):Int)=items.length:=by simp
 rw [e]
 refine wB (wpAny_holding (wP ?_))
 refine wB (wpAny_letGo ?_)
 show wpAny _ _ (if (items.length:Int) < 0 then _ else _) _ _ _
 rw [if_neg (by simp)]
 show wpAny _ _ (if (items.length:Int) ≥ 2 ^ 63 then _ else _) _ _ _
 rw [if_neg (by lia)]
 exact wB (wpAny_mkInt (wP ⟨_,rfl,q _ _⟩))
theorem make_spec {T:Addr} {x y z:Value} (D:Gd (K w.params) mg mb s.heap) (hd:A.depth < recursionLimit) (hT:s.heap.get? T=some ⟨.type "tuple",none,.seq #[x,y,z] 0,#[]⟩) :
  codeAny (model prog w) A (.call (.ref 89) ⟨[.ref 135,.ref T],[]⟩) (Ret [] s fun v s'=>∃ t dd,v=.ref t∧Fresh s s' [(t,mob dd [x,y,z]),(dd,emptyDict)]) s:=by
 refine enterP ps_make os_make [.ref 135,.ref T] [] (fn_make _) D hd (b_make _ _ _ _) rfl p_make (nm:=nm_make) rfl (fun _ h=>nomatch h) .nil ?_
 intro Po hPo L h₁ tk S hL
 replace S:St s.heap L h₁ nm_make _ []:=S
 refine exc (wpAny_Expr (cStr fun k1 t1=>?_))
 refine exc (asgN (MethodCall_ (lb_ S D g_make_tuple (bn_tuple _) (getmT (D.k.keeps S.F.keep) fun t2=>callWith_method1 ?_))))
 refine arg_ (ld_ S v_make_cls rfl (arg_ (ld_ S v_make_iterable rfl (arg0 ?_))))
 refine callTn (items:=[x,y,z]) (D.k.keeps S.F.keep) (S.old hT) (by simp) fun h3 hk=>?_
 have S3:=((S.sub hk).push emptyDict).push (mob h3.objs.size [x,y,z])
 rw [show(h3.push emptyDict).objs.size=h3.objs.size+1 from Heap.size_push ..] at S3
 refine st_ S3 v_make_result (nB rfl) fun h4 t4 S4=>?_
 refine exc (wpAny_If (wC (Call_ (lb_ S4 D g_make_len (bn_len _) (cB (arg_ (ld_ S4 v_make_result rfl (arg0 ?_))))))))
 refine m_len (D.k.keeps S4.F.keep) (S4.get (j:=0) rfl) (by simp) fun k5 t5=>cInt fun k6 t6=>PySem.P.ne_int (wT ?_)
 rw [if_neg (by simp)]
 refine exn ?_
 refine exc (wpAny_Return_some (ld_ S4 v_make_result rfl ?_))
 exact hPo _ _ (St.mod (W:=[]) (t:=0) S4 hL id rfl rfl rfl) ⟨_,_,rfl,St.fresh (W:=[]) (mu:=[]) S4 rfl rfl⟩
end
end
section
open PySem.Builtin
theorem mro_map:mroOf (.type "map")=pure [.type "map",.type "object"]:=by rw [mroOf_type];kernel_rfl
theorem lookup_map_new:typeLookup (.type "map") "__new__" = pure (some (.builtin "map.__new__")):=by rw [typeLookup_type,builtinLookup_eq_fast];kernel_rfl
theorem slot_map_init:Slot "map" "__init__" "object.__init__" :=
 .of (owner:="object") (n:="__init__") (by rw [typeLookup_type,builtinLookup_eq_fast];kernel_rfl) (by decide +kernel) (by decide +kernel) (by decide +kernel)
  (by first | exact .inl (by decide +kernel) | exact .inr (by decide +kernel)) (by rw [isSubtype_type];kernel_rfl)
theorem slot_map_next:Slot "map" "__next__" "map.__next__" :=
 .of (owner:="map") (n:="__next__") (by rw [typeLookup_type,builtinLookup_eq_fast];kernel_rfl) (by decide +kernel) (by decide +kernel) (by decide +kernel)
  (by first | exact .inl (by decide +kernel) | exact .inr (by decide +kernel)) (by rw [isSubtype_type];kernel_rfl)
theorem slot_map_iter:Slot "map" "__iter__" "map.__iter__" :=
 .of (owner:="map") (n:="__iter__") (by rw [typeLookup_type,builtinLookup_eq_fast];kernel_rfl) (by decide +kernel) (by decide +kernel) (by decide +kernel)
  (by first | exact .inl (by decide +kernel) | exact .inr (by decide +kernel)) (by rw [isSubtype_type];kernel_rfl)
theorem called_map:TypeCalled "map" "map.__new__" "object.__init__" :=
 ⟨by decide +kernel,by decide +kernel,⟨_,_,mro_map⟩,madeBy_type mro_map lookup_map_new (by decide +kernel),by decide +kernel,by rw [isSubtype_type];kernel_rfl,slot_map_init⟩
theorem typeCall_map(a b:Value):checkTypeCall "map" ⟨[a,b],[]⟩=pure ():=by kernel_rfl
theorem newCall_map(a b:Value):checkBuiltinCall "map.__new__" ⟨[.type "map",a,b],[]⟩=pure ():=by kernel_rfl
theorem oi_args3(a x y:Value):argsOk "object.__init__" ⟨[a,x,y],[]⟩:=by unfold argsOk;kernel_rfl
theorem entry_map_new:entryFor table "map.__new__" = some Builtin.«map.__new__»:=entryFor_of_tree (by kernel_rfl)
theorem entry_map_next:entryFor table "map.__next__" = some Builtin.«map.__next__»:=entryFor_of_tree (by kernel_rfl)
theorem args_map_next(a:Value):argsOk "map.__next__" ⟨[a],[]⟩:=by unfold argsOk;kernel_rfl
theorem args_map_iter(a:Value):argsOk "map.__iter__" ⟨[a],[]⟩:=by unfold argsOk;kernel_rfl
theorem sub_map:isSubtype (.type "map") (.type "map")=pure true:=by rw [isSubtype_type];kernel_rfl
theorem nc_map(q l:Addr):SmallTypes.newClass "map" ⟨[.type "map",.ref q,.ref l],[]⟩=pure (.type "map",[.ref q,.ref l]):=by
 unfold SmallTypes.newClass
 show(isSubtype (.type "map") (.type "map") >>= _)=_
 rw [sub_map];rfl
theorem map_no_len:typeLookup (.type "map") "__len__" = pure none:=by rw [typeLookup_type,builtinLookup_eq_fast];kernel_rfl
theorem map_no_hint:typeLookup (.type "map") "__length_hint__" = pure none:=by rw [typeLookup_type,builtinLookup_eq_fast];kernel_rfl
noncomputable abbrev lit(l:Addr)(i:Nat):Obj:={ cls:=.type "list_iterator",data:=.fields #[.ref l,.int i 0] }
noncomputable abbrev tob(items:List Value):Obj:=⟨.type "tuple",none,.seq items.toArray 0,#[]⟩
noncomputable abbrev mapO(T q:Addr):Obj:={ cls:=.type "map",data:=.fields #[.ref T,.ref q] }
section
variable{w:World}{A:Around}{E:Value→Shared→Prop}{s s':Shared}{mg mb:Str→Option Value}{g h:Heap}{gs:Array GenState}{dr:Drawn}{tk:Nat}{os:OsState}{t dd:Addr}{items:List Value}{P:Params}{L:Addr}{nm:List Str}{ls:List (Option Value)}{mu:List (Addr×Obj)}
theorem meets_map_new(q l:Addr)(items:List Value):Meets (Builtin.«map.__new__» ⟨[.type "map",.ref q,.ref l],[]⟩) (fun _ R s=>s.heap.IsList l items.toArray ∧
  R (.ok (.ret (.ref (s.heap.objs.size+2)))) { s with heap:=((s.heap.push (lit l 0)).push (tob [.ref s.heap.objs.size])).push (mapO (s.heap.objs.size+1) q) }) :=
 .of_wp fun prog w A R s hx=>by
  obtain⟨hl,hx⟩:=hx
  obtain⟨hp,g,d,tk,os⟩:=s
  unfold Builtin.«map.__new__»
  refine wB (wpAny_of_eq (nc_map q l) ?_)
  refine wB (wpAny_of_eq (a:=()) rfl ?_)
  show wpAny _ _ (SmallTypes.iterAll [.ref l] >>= _) _ _ _
  unfold SmallTypes.iterAll
  refine wB (wB ?_)
  rw [List.forIn_cons]
  refine wB (wB (wpAny_holding (wpAny_pyIter_list hl (wP ?_))))
  dsimp only
  rw [List.forIn_nil]
  refine wP (wP ?_)
  refine wB (wpAny_newTuple ?_ (by show 1≤_;decide))
  show wpAny _ _ (newObj (.type "map") (.fields [.ref (hp.push (lit l 0)).objs.size,.ref q].toArray) >>= _) _ _ _
  refine wB (wpAny_newObj_type (wP ⟨_,rfl,?_⟩))
  have e1:(hp.push (lit l 0)).objs.size=hp.objs.size+1:=Heap.size_push ..
  have e2:((hp.push (lit l 0)).push (tob [.ref hp.objs.size])).objs.size=hp.objs.size+2:=by rw [Heap.size_push,e1]
  have:=hx
  rw [← e1,← e2] at this
  exact this
theorem gMake{expr:Bool}{Q:Value→Shared→Prop}(S:St g L h nm ls mu)(X:(K w.params).In h)(q:∀ h' tk,St g L h' nm ls ((h.objs.size,methodObj (.ref 89) (.ref 135))::mu)→Q (.ref h.objs.size) ⟨h',gs,dr,tk,os⟩):wpAny (model prog w) A (getAttr (.ref 135) (ofString "_make") expr) Q E ⟨h,gs,dr,tk,os⟩:=by
 obtain⟨r,hr⟩:=re_ex (re_make w.params)
 exact cls_bind (s:=⟨h,gs,dr,tk,os⟩) X (rd_match _) (fi_make _) (wpAny_call (cm_get (s:=⟨h,gs,dr,tk+1,os⟩) X hr (handed_on rfl (q _ _ (S.push _)))))
theorem newMap{q l:Addr}{Q:Value→Shared→Prop}(S:St g L h nm ls mu)(hl:h.IsList l items.toArray)
  (k:∀ h',St g L h' nm ls ((h.objs.size+2,mapO (h.objs.size+1) q)::(h.objs.size+1,tob [.ref h.objs.size])::(h.objs.size,lit l 0)::mu)→Q (.ref (h.objs.size+2)) ⟨h',gs,dr,tk,os⟩) :
  wpAny (model prog w) A (call (.type "map") [.ref q,.ref l]) Q E ⟨h,gs,dr,tk,os⟩:=by
 have S3:=((S.push (lit l 0)).push (tob [.ref h.objs.size])).push (mapO (h.objs.size+1) q)
 have e1:(h.push (lit l 0)).objs.size=h.objs.size+1:=Heap.size_push ..
 have e2:((h.push (lit l 0)).push (tob [.ref h.objs.size])).objs.size=h.objs.size+2:=by rw [Heap.size_push,e1]
 rw [e1,e2] at S3
 exact callType_new (s:=⟨h,gs,dr,tk,os⟩) called_map (by decide) (typeCall_map _ _) (newCall_map _ _) (fun obj=>oi_args3 obj _ _) entry_map_new (meets_map_new q l items) ⟨hl,⟨_,S3.get (j:=0) rfl,rfl⟩,k _ S3⟩
theorem callMeth{q f:Addr}{self:Value}{args:List Value}{R:Value→Shared→Prop}(hq:h.get? q=some (methodObj (.ref f) self))(c:codeAny (model prog w) A (.call (.ref f) ⟨self::args,[]⟩) (fun r s'=>match r with | .ok (.ret v)=>R v s' | _=>False) ⟨h,gs,dr,tk,os⟩) :
  wpAny (model prog w) A (call (.ref q) args) R E ⟨h,gs,dr,tk,os⟩:=by
 refine wpAny_call (codeAny_of_tree ?_)
 show wpAny _ A.in1 (callAny (.ref q) ⟨args,[]⟩) _ _ _
 simp only [callAny]
 refine wB (wpAny_load hq ?_)
 simp only [show(Value.type "method" == Value.type "method" || Value.type "method" == Value.type "builtin_function_or_method" || Value.type "method" == Value.type "method-wrapper")=true by decide,if_true]
 refine wP ⟨rfl,codeAny_mono c fun r s' hr=>?_⟩
 cases r with
 | error e=>exact False.elim hr
 | ok f=>cases f with
  | ret v=>exact hr
  | _=>exact False.elim hr
noncomputable def IsIt(o:Obj)(l:Addr)(i:Nat):Prop:=o.cls=.type "list_iterator" ∧ o.data=.fields #[.ref l,.int i 0]
theorem map_next{oi:Obj}{M T it l q tv:Addr}{i:Nat}{x y z:Value}{Q:Option Value→Shared→Prop}(D:Gd (K w.params) mg mb g)(S:St g L h nm ls mu)(hd:A.depth < recursionLimit)(j:Nat)(hit:mu[j]?=some (it,oi))(hoi:IsIt oi l i)(hM:h.get? M=some (mapO T q))(hT:h.get? T=some (tob [.ref it]))
  (hl:h.IsList l items.toArray) (hli:l≠it) (hq:h.get? q=some (methodObj (.ref 89) (.ref 135))) (hqi:q≠it) (hv:items[i]?=some (.ref tv)) (htv:h.get? tv=some (tob [x,y,z])) (hti:tv≠it) (hMi:M≠it)
  (k:∀ h' gs' tk' t dd oi',AllBare gs'→IsIt oi' l (i+1)→St g L h' nm ls (mu.set j (it,oi')++[(t,mob dd [x,y,z]),(dd,emptyDict)])→Q (some (.ref t)) ⟨h',gs',dr,tk',os⟩) (hgs:AllBare gs) :
  wpAny (model prog w) A (pyNext (.ref M)) Q E ⟨h,gs,dr,tk,os⟩:=by
 unfold pyNext
 refine wB (wpAny_attempt (wpAny_callSpecial?_slot (name:=ofString "__next__") (s:=⟨h,gs,dr,tk,os⟩) ⟨_,hM,rfl⟩ slot_map_next (wpAny_call_entry slot_map_next ⟨_,hM,rfl⟩ entry_map_next ?_ (args_map_next _))))
 show wpAny _ _ (field (.ref M) 0 >>= _) _ _ _
 refine wB (wpAny_field hM rfl (x:=.ref T) rfl ?_)
 refine wB (wpAny_seqItems hT rfl ?_)
 dsimp only
 refine wB ?_
 rw [← Array.forIn_toList]
 show wpAny _ _ (forIn [Value.ref it] (#[]:Array Value) _) _ _ _
 rw [List.forIn_cons]
 refine wB (wB (wpAny_holding (wpAny_nextOf_list_item (s:=⟨h,gs,dr,tk,os⟩) ⟨oi,S.get hit,hoi.1,hoi.2⟩ hl (x:=.ref tv) (by simpa using hv) fun h2 hit2 s2=>wP ?_)))
 dsimp only
 rw [List.forIn_nil]
 refine wP ?_
 refine oEAA hit2 fun oi' ho' hc' hd'=>?_
 have S2:=S.same hit s2 ho'
 have hM2:h2.get? M=some (mapO T q):=(s2.2 M hMi).trans hM
 refine wB (wpAny_field hM2 rfl (x:=.ref q) rfl ?_)
 have hq2:h2.get? q=some (methodObj (.ref 89) (.ref 135)):=(s2.2 q hqi).trans hq
 have htv2:h2.get? tv=some (tob [x,y,z]):=(s2.2 tv hti).trans htv
 refine wB (wpAny_holding (callMeth hq2 (codeAny_mono (make_spec (s:=⟨h2,gs,dr,tk,os⟩) (D.keeps S2.F.keep) hd htv2) fun r s' hr=>?_)))
 refine oEAA (retO hr) ?_;rintro v rfl Mo hx
 refine oEEA hx fun t dd hv F=>?_
 subst hv
 obtain⟨h3,gs3,dr3,tk3,os3⟩:=s'
 obtain rfl:os3=os:=Mo.os
 obtain rfl:dr3=dr:=Mo.dr
 refine wB (wpAny_letGo (wP ⟨_,rfl,wP (k h3 gs3 tk3 t dd oi' (Mo.gens hgs) ⟨hc',hd'⟩ ?_)⟩))
 have S3:=S2.call0 (s:=⟨h2,gs,dr3,tk,os3⟩) (s':=⟨h3,gs3,dr3,tk3,os3⟩) Mo
 exact St.grow (s:=⟨h2,gs,dr3,tk,os3⟩) S2 S3 rfl (fun p hp=>⟨F.here p hp,F.not p hp⟩) F.nd
theorem St.but{a:Addr}{o:Obj}{h':Heap}(S:St g L h nm ls ((a,o)::mu))(keep:∀ b x,b≠a→h.get? b=some x→h'.get? b=some x):St g L h' nm ls mu:=by
 have P:=S.N _ (.head _)
 have nd:=List.nodup_cons.mp S.nd
 refine oEEEA S.F.ns fun oL es ep hL r=>?_
 refine⟨⟨⟨oL,es,ep,keep L oL (Ne.symm P.2.1) hL,r⟩,fun b x e=>keep b x (fun z=>?_) (S.F.keep b x e),S.F.above⟩,fun p hp=>?_,nd.2⟩
 ·have:=P.2.2;rw [← z,e] at this;cases this
 ·have Q:=S.N p (.tail _ hp)
  exact⟨keep _ _ (fun z=>nd.1 (List.mem_map.mpr ⟨p,hp,z⟩)) Q.1,Q.2⟩
theorem map_done{oi:Obj}{M T it l q:Addr}{Q:Option Value→Shared→Prop}(hh:A.handled=none)(S:St g L h nm ls ((it,oi)::mu))(hoi:IsIt oi l items.length)(hM:h.get? M=some (mapO T q))(hT:h.get? T=some (tob [.ref it]))
  (hl:h.IsList l items.toArray) (hli:l≠it)
  (k:∀ h',St g L h' nm ls mu→Q none ⟨h',gs,dr,tk,os⟩) :
  wpAny (model prog w) A (pyNext (.ref M)) Q E ⟨h,gs,dr,tk,os⟩:=by
 unfold pyNext
 refine wB (wpAny_attempt (wpAny_callSpecial?_slot (name:=ofString "__next__") (s:=⟨h,gs,dr,tk,os⟩) ⟨_,hM,rfl⟩ slot_map_next (wpAny_call_entry slot_map_next ⟨_,hM,rfl⟩ entry_map_next ?_ (args_map_next _))))
 show wpAny _ _ (field (.ref M) 0 >>= _) _ _ _
 refine wB (wpAny_field hM rfl (x:=.ref T) rfl ?_)
 refine wB (wpAny_seqItems hT rfl ?_)
 dsimp only
 refine wB ?_
 rw [← Array.forIn_toList]
 show wpAny _ _ (forIn [Value.ref it] (#[]:Array Value) _) _ _ _
 rw [List.forIn_cons]
 have Dr:=Draws.list (prog:=prog) (w:=w) (A:=A.in1) hh it l hli items.toArray
 refine wB (wB (wpAny_holding ?_))
 refine Dr.done ⟨h,gs,dr,tk,os⟩ _ _ ⟨⟨oi,S.get (j:=0) rfl,hoi.1,by rw [List.size_toArray];exact hoi.2⟩,hl⟩ fun h' e hx he=>?_
 refine oEA he fun o ho hc=>?_
 refine wB (wpAny_isInstance (T:="StopIteration") (b:=true) ⟨o,ho,hc⟩ isSubtype_stop ?_)
 exact wP (k h' (S.but fun b x hb e=>hx b x hb e))
end
end
section
open PySem.Builtin
section
variable{w:World}{A:Around}{E:Value→Shared→Prop}{s s':Shared}{mg mb:Str→Option Value}{g:Heap}{dr:Drawn}{os:OsState}{items:List Value}{L:Addr}{nm:List Str}{ls:List (Option Value)}{mu:List (Addr×Obj)}{R:Result→Shared→Prop}
noncomputable def Trip(g:Heap)(mu:List (Addr×Obj))(items:List Value)(tr:List (Value×Value×Value)):Prop:=items.length=tr.length∧∀ (c:Nat) (p:Value×Value×Value),tr[c]?=some p→∃ tv,items[c]?=some (.ref tv)∧Kn g mu tv (tob [p.1,p.2.1,p.2.2])
theorem push_obj{h:Heap}{S:Addr}{acc:List Value}{c:Nat}(v:Value)(ho:h.get? S=some (lob acc c)):∃ c',(h.update S (Obj.mapSeq (·.push v))).get? S=some (lob (acc++[v]) c'):=by
 have:=get?_update_seq ho (fun a=>a.push v)
 rw [List.push_toArray] at this
 exact⟨_,this⟩
theorem map_loop{M T it l q S':Addr}{tr:List (Value×Value×Value)}{nl:Nat}(D:Gd (K w.params) mg mb g)(hh:A.handled=none)(hd:A.depth < recursionLimit)(hn:items.length≤1000)(hT:Trip g mu items tr)(hl:Kn g mu l (lob items nl))
  (k:∀ h gs tk acc c new,AllBare gs→acc.length=items.length→(∀ (c:Nat) (p:Value×Value×Value),tr[c]?=some p→∃ t dd,acc[c]?=some (.ref t)∧(t,mob dd [p.1,p.2.1,p.2.2])∈new) →
   St g L h nm ls ((S',lob acc c)::(new++mu))→R (.ok (.ret .none)) ⟨h,gs,dr,tk,os⟩) :
  ∀ (n i:Nat) (h:Heap) (gs:Array GenState) (tk:Nat) (oi:Obj) (acc:List Value) (c:Nat) (new:List (Addr×Obj)),items.length - i=n→i≤items.length→AllBare gs→IsIt oi l i→acc.length=i →
   (∀ (c:Nat) (p:Value×Value×Value),c < i→tr[c]?=some p→∃ t dd,acc[c]?=some (.ref t)∧(t,mob dd [p.1,p.2.1,p.2.2])∈new) →
   St g L h nm ls ((it,oi)::(S',lob acc c)::(M,mapO T q)::(T,tob [.ref it])::(q,methodObj (.ref 89) (.ref 135))::(new++mu)) →
   codeAny (model prog w) A (.builtin "list.extend.loop" ⟨[.ref S',.ref M,.none],[]⟩) R ⟨h,gs,dr,tk,os⟩:=by
 intro n
 induction n with
 | zero =>
  intro i h gs tk oi acc c new hni hi hg hoi hacc hnew S
  have hin:i=items.length:=by lia
  subst hin
  have nd:=List.nodup_cons.mp S.nd
  have hlk:h.get? l=some (lob items nl):=S.kn (hl.mono fun p hp=>by simp [hp])
  have hli:l≠it:=fun e=>by
   have e1:=S.get (j:=0) rfl
   rw [e] at hlk
   rw [hlk] at e1
   have:=hoi.1
   rw [← Option.some.inj e1] at this
   exact absurd (show Value.type "list" = Value.type "list_iterator" from this) (by decide)
  refine codeAny_builtin F.entry_extend_loop ?_
  rw [Around.under_plainId F.plain_extend_loop _]
  show wpAny _ A.in1 (pyNext (.ref M) >>= _) _ _ _
  refine wB (map_done (A:=A.in1) (items:=items) hh S hoi (S.get (j:=2) rfl) (S.get (j:=3) rfl) (lob_list hlk) hli fun h' S2=>?_)
  exact wP (k h' gs tk acc c new hg hacc (fun c p hp=>hnew c p (by have:=lt_of_get hp;rw [← hT.1] at this;omega) hp) (S2.drop (.cons_cons _ (.cons _ (.cons _ (.cons _ (List.Sublist.refl _)))))))
 | succ n ih =>
  intro i h gs tk oi acc c new hni hi hg hoi hacc hnew S
  have hlt:i < items.length:=by lia
  have nd:=List.nodup_cons.mp S.nd
  have hne:∀ p∈((S',lob acc c)::(M,mapO T q)::(T,tob [.ref it])::(q,methodObj (.ref 89) (.ref 135))::(new++mu)),p.1≠it:=fun p hp e=>nd.1 (List.mem_map.mpr ⟨p,hp,e⟩)
  have hgit:g.get? it=none:=(S.N _ (.head _)).2.2
  have knne:∀ {b o},Kn g mu b o→b≠it:=fun kn=>kn.elim (fun e z=>by rw [z,hgit] at e;cases e) fun m=>hne (_,_) (.tail _ (.tail _ (.tail _ (.tail _ (mR _ m)))))
  have hlk:h.get? l=some (lob items nl):=S.kn (hl.mono fun p hp=>by simp [hp])
  obtain⟨p,hp⟩:∃ p,tr[i]?=some p:=⟨tr[i]'(by rw [← hT.1];exact hlt),List.getElem?_eq_getElem (by rw [← hT.1];exact hlt)⟩
  refine oEA (hT.2 i p hp) fun tv hv htv=>?_
  have htvk:h.get? tv=some (tob [p.1,p.2.1,p.2.2]):=S.kn (htv.mono fun p hp=>by simp [hp])
  refine codeAny_builtin F.entry_extend_loop ?_
  rw [Around.under_plainId F.plain_extend_loop _]
  show wpAny _ A.in1 (pyNext (.ref M) >>= _) _ _ _
  refine wB (map_next (A:=A.in1) (items:=items) (j:=0) D S hd rfl hoi (S.get (j:=2) rfl) (S.get (j:=3) rfl) (lob_list hlk) (knne hl) (S.get (j:=4) rfl) (hne _ (.tail _ (.tail _ (.tail _ (.head _))))) hv htvk (knne htv) (hne _ (.tail _ (.head _))) (fun h2 gs2 tk2 t dd oi' hg2 hoi' S2=>?_) hg)
  have hS:=S2.get (j:=1) rfl
  show wpAny _ A.in1 (updateSeq S' (·.push (.ref t)) >>= _) _ _ _
  refine wB ?_
  refine wpAny_updateSeq hS rfl ?_ (by rw [List.size_toArray,sizeLine_eq];lia) (by rw [Array.size_push,List.size_toArray,sizeLine_eq];(clear hS htvk hv hp hlk hgit nd hi hni hd hh;(simp;lia)))
  obtain⟨c',ho'⟩:=push_obj (.ref t) hS
  have S3:=S2.same (j:=1) rfl (Heap.SameBut.update ..) ho'
  refine wP ⟨plainId_quiet F.plain_extend_loop _,ih (i+1) _ gs2 tk2 oi' (acc++[.ref t]) c' ((t,mob dd [p.1,p.2.1,p.2.2])::(dd,emptyDict)::new) (by(clear ho' hS htvk hv hp hlk hgit nd hi hn hd hh;exact congrArg Nat.cast (by lia))) hlt hg2 hoi' (by simp [hacc]) (fun c2 p2 hc2 hp2=>?_) (S3.perm ?_)⟩
  ·by_cases e:c2 < i
   ·refine oEEA (hnew c2 p2 e hp2) fun t2 d2 h1 h2=>?_
    exact⟨t2,d2,by rw [List.getElem?_append_left (lt_of_get h1)];exact h1,by simp [h2]⟩
   ·have e2:c2=i:=by lia
    subst e2
    rw [hp] at hp2
    cases hp2
    exact⟨t,dd,by rw [← hacc];simp,.head _⟩
  ·show List.Perm ((it,oi')::(S',lob (acc++[.ref t]) c')::(M,mapO T q)::(T,tob [.ref it])::(q,methodObj (.ref 89) (.ref 135))::((new++mu)++[(t,mob dd [p.1,p.2.1,p.2.2]),(dd,emptyDict)])) ((it,oi')::(S',lob (acc++[.ref t]) c')::(M,mapO T q)::(T,tob [.ref it])::(q,methodObj (.ref 89) (.ref 135))::([(t,mob dd [p.1,p.2.1,p.2.2]),(dd,emptyDict)]++(new++mu)))
   exact((((List.perm_append_comm.cons _).cons _).cons _).cons _).cons _
end
end
section
open PySem.Builtin
theorem entry_map_iter:entryFor table "map.__iter__" = some Builtin.«dict_keyiterator.__iter__» :=
 entryFor_alias (id':="dict_keyiterator.__iter__") (by kernel_rfl) (by first | rfl | decide +kernel | (unfold String.splitOn;simp +decide [String.splitOnAux])) (by decide +kernel) (by kernel_rfl)
section
variable{w:World}{A:Around}{E:Value→Shared→Prop}{s s':Shared}{mg mb:Str→Option Value}{g h:Heap}{gs:Array GenState}{tk:Nat}{dr:Drawn}{os:OsState}{items:List Value}{L:Addr}{nm:List Str}{ls:List (Option Value)}{mu:List (Addr×Obj)}{R:Result→Shared→Prop}
theorem map_self{M T q:Addr}{Q:Value→Shared→Prop}(hM:h.get? M=some (mapO T q))(k:Q (.ref M) ⟨h,gs,dr,tk,os⟩):wpAny (model prog w) A (pyIter (.ref M)) Q E ⟨h,gs,dr,tk,os⟩:=by
 refine wpAny_pyIter_slot (s:=⟨h,gs,dr,tk,os⟩) ⟨_,hM,rfl⟩ slot_map_iter (wpAny_call_entry slot_map_iter ⟨_,hM,rfl⟩ entry_map_iter ?_ (args_map_iter _))
 exact wP ⟨_,rfl,"map",_,⟨_,hM,rfl⟩,slot_map_next.lookup,k⟩
theorem list_map{M T it l q:Addr}{tr:List (Value×Value×Value)}{nl:Nat}{oi:Obj}{Q:Value→Shared→Prop}(D:Gd (K w.params) mg mb g)(hh:A.handled=none)(hd:A.depth < recursionLimit)(hg:AllBare gs)(hn:items.length≤1000)(hT:Trip g mu items tr)(hl:Kn g mu l (lob items nl))(hoi:IsIt oi l 0)
  (S:St g L h nm ls ((it,oi)::(M,mapO T q)::(T,tob [.ref it])::(q,methodObj (.ref 89) (.ref 135))::mu))
  (k:∀ h' gs' tk' acc c new,AllBare gs'→acc.length=items.length→(∀ (c:Nat) (p:Value×Value×Value),tr[c]?=some p→∃ t dd,acc[c]?=some (.ref t)∧(t,mob dd [p.1,p.2.1,p.2.2])∈new) →
   St g L h' nm ls ((h.objs.size,lob acc c)::(new++mu))→Q (.ref h.objs.size) ⟨h',gs',dr,tk',os⟩) :
  wpAny (model prog w) A (call (.type "list") [.ref M]) Q E ⟨h,gs,dr,tk,os⟩:=by
 refine callType_codes (s:=⟨h,gs,dr,tk,os⟩) (Q₁:=fun obj s₁=>obj=.ref h.objs.size∧s₁=⟨h.push { cls:=.type "list",data:=.seq #[] },gs,dr,tk,os⟩) F.called_list (F.typeCall_list_1 _) F.entry_list_init (code_list_new _ ⟨rfl,rfl⟩) fun obj s₁ h₁=>?_
 obtain⟨rfl,rfl⟩:=h₁
 have S1:=S.push (lob [] 0)
 have hS:=S1.get (j:=0) rfl
 refine⟨⟨_,hS,rfl⟩,F.args_list_init_2 _ _,?_⟩
 show wpAny _ A.in1.in1 (do let old ← Builtin.List.listItems (.ref h.objs.size);Builtin.List.listUpdate (.ref h.objs.size) (fun _=>#[]);letGo old.toList.reverse;Builtin.List.listExtendWith (.ref h.objs.size) (.ref M) .none) _ _ _
 refine wB (listItems_at hS rfl ?_)
 refine wB (listUpdate_at hS rfl ?_ (by decide) (Nat.zero_le _))
 refine wB (wpAny_letGo ?_)
 have e2:=get?_update_seq hS (fun _=>(#[]:Array Value))
 have S2:=S1.same (j:=0) rfl (Heap.SameBut.update ..) e2
 have hM2:=S2.get (j:=2) rfl
 have hne:h.objs.size≠M:=Ne.symm (Nat.ne_of_lt (Heap.lt_size (S.get (j:=1) rfl)))
 unfold Builtin.List.listExtendWith
 refine wB (wpAny_typeOf (T:="map") ⟨_,hM2,rfl⟩ ?_)
 have h1:Builtin.List.listSameRef (.ref h.objs.size) (.ref M)=false:=by simp [Builtin.List.listSameRef,hne]
 have h2:(Value.type "map" == Value.type "list")=false:=by decide
 have h3:(Value.type "map" == Value.type "tuple")=false:=by decide
 simp only [h1,h2,h3,Bool.or_false,Bool.false_eq_true,if_false]
 refine wB (map_self hM2 ?_)
 refine wB (wpAny_holding ?_)
 unfold Builtin.List.listLengthHint
 refine wB (wpAny_specialOf (T:="map") ⟨_,hM2,rfl⟩ map_no_len ?_)
 show wpAny _ _ (specialOf (Value.ref M) (ofString "__length_hint__") >>= _) _ _ _
 refine wB (wpAny_specialOf (T:="map") ⟨_,hM2,rfl⟩ map_no_hint ?_)
 refine wP ?_
 show wpAny _ _ (rule "list.extend.makes-room" >>= fun _=>Builtin.List.listTouch (.ref h.objs.size) >>= fun _=>again (.builtin "list.extend.loop" ⟨[.ref h.objs.size,.ref M,.none],[]⟩)) _ _ _
 refine wB (wpAny_rule ?_)
 refine wB ?_
 show wpAny _ _ (updateSeq h.objs.size (·.push .none) >>= fun _=>updateSeq h.objs.size (·.pop)) _ _ _
 have hS2:=S2.get (j:=0) rfl
 refine wB (wpAny_updateSeq hS2 rfl ?_ (by decide) (by decide))
 have e3:=get?_update_seq hS2 (fun a=>a.push Value.none)
 have S3:=S2.same (j:=0) rfl (Heap.SameBut.update ..) e3
 have hS3:=S3.get (j:=0) rfl
 refine wpAny_updateSeq hS3 rfl ?_ (by decide) (by decide)
 have e4:=get?_update_seq hS3 (fun a=>a.pop)
 have S4:=S3.same (j:=0) rfl (Heap.SameBut.update ..) e4
 have S5:=S4.perm (List.Perm.swap _ _ _)
 refine wP ⟨plainId_quiet F.plain_extend_loop _,map_loop (A:=A.in1) (it:=it) (l:=l) (q:=q) (T:=T) D hh hd hn hT hl (fun h' gs' tk' acc c new hg' hacc hnew S'=>⟨rfl,k h' gs' tk' acc c new hg' hacc hnew S'⟩) items.length 0 _ gs _ oi [] _ [] rfl (Nat.zero_le _) hg hoi rfl (fun c p hc=>absurd hc (Nat.not_lt_zero _)) S5⟩
end
end
section
open PySem.Builtin
noncomputable def QT(objs:List (Addr×Obj))(qi:List Value)(Q:List Rg):Prop:=qi.length=Q.length∧∀ (c:Nat) (r:Rg),Q[c]?=some r→∃ tv k1 k2 k3 k4,qi[c]?=some (.ref tv)∧(tv,tob [.int r.1 k1,.int r.2.1 k2,.int r.2.2.1 k3,.int r.2.2.2 k4])∈objs
noncomputable def BT(objs:List (Addr×Obj))(bi:List Value)(ks:List Nat):Prop:=bi.length=ks.length∧∀ (c k:Nat),ks[c]?=some k→∃ t dd,∃ i j:Int,∃ ti tj tk,bi[c]?=some (.ref t)∧(t,mob dd [.int i ti,.int j tj,.int (k:Nat) tk])∈objs
theorem QT.mono{objs objs':List (Addr×Obj)}{qi:List Value}{Q:List Rg}(h:QT objs qi Q)(k:∀ p∈objs,p∈objs'):QT objs' qi Q :=
 ⟨h.1,fun c r hr=>oEEEEEA (h.2 c r hr) fun tv k1 k2 k3 k4 e m=>⟨tv,k1,k2,k3,k4,e,k _ m⟩⟩
theorem BT.mono{objs objs':List (Addr×Obj)}{bi:List Value}{ks:List Nat}(h:BT objs bi ks)(k:∀ p∈objs,p∈objs'):BT objs' bi ks :=
 ⟨h.1,fun c r hr=>oEEEEEEEA (h.2 c r hr) fun t dd i j ti tj tk e m=>⟨t,dd,i,j,ti,tj,tk,e,k _ m⟩⟩
theorem QT.push{objs:List (Addr×Obj)}{qi:List Value}{Q:List Rg}{r:Rg}{tv:Addr}{k1 k2 k3 k4:Tok}(h:QT objs qi Q)(m:(tv,tob [.int r.1 k1,.int r.2.1 k2,.int r.2.2.1 k3,.int r.2.2.2 k4])∈objs):QT objs (qi++[.ref tv]) (Q++[r]):=by
 refine⟨by simp [h.1],fun c r' hr=>?_⟩
 rcases Nat.lt_or_ge c Q.length with hc | hc
 ·rw [List.getElem?_append_left hc] at hr
  refine oEEEEEA (h.2 c r' hr) fun tv' a b c' d e m'=>?_
  exact⟨tv',a,b,c',d,by rw [List.getElem?_append_left (by rw [h.1];exact hc)];exact e,m'⟩
 ·rw [List.getElem?_append_right hc] at hr
  have:c - Q.length=0:=by
   rcases Nat.eq_zero_or_pos (c - Q.length) with e | e
   ·exact e
   ·rw [List.getElem?_eq_none (by simp;(clear hc hr;lia))] at hr;cases hr
  rw [this] at hr
  simp at hr
  subst hr
  exact⟨tv,k1,k2,k3,k4,by rw [List.getElem?_append_right (by rw [h.1];exact hc),h.1,this];rfl,m⟩
theorem BT.push{objs:List (Addr×Obj)}{bi:List Value}{ks:List Nat}{k:Nat}{t dd:Addr}{i j:Int}{ti tj tk:Tok}(h:BT objs bi ks)(m:(t,mob dd [.int i ti,.int j tj,.int (k:Nat) tk])∈objs):BT objs (bi++[.ref t]) (ks++[k]):=by
 refine⟨by simp [h.1],fun c k' hr=>?_⟩
 rcases Nat.lt_or_ge c ks.length with hc | hc
 ·rw [List.getElem?_append_left hc] at hr
  refine oEEEEEEEA (h.2 c k' hr) fun t' d' i' j' a1 a2 a3 e m'=>?_
  exact⟨t',d',i',j',a1,a2,a3,by rw [List.getElem?_append_left (by rw [h.1];exact hc)];exact e,m'⟩
 ·rw [List.getElem?_append_right hc] at hr
  have:c - ks.length=0:=by
   rcases Nat.eq_zero_or_pos (c - ks.length) with e | e
   ·exact e
   ·rw [List.getElem?_eq_none (by simp;(clear hc hr;lia))] at hr;cases hr
  rw [this] at hr
  simp at hr
  subst hr
  exact⟨t,dd,i,j,ti,tj,tk,by rw [List.getElem?_append_right (by rw [h.1];exact hc),h.1,this];rfl,m⟩
theorem QT.pop{objs:List (Addr×Obj)}{qi:List Value}{Q:List Rg}{r:Rg}(h:QT objs qi (Q++[r])):∃ qi0 tv k1 k2 k3 k4,qi=qi0++[.ref tv]∧QT objs qi0 Q∧(tv,tob [.int r.1 k1,.int r.2.1 k2,.int r.2.2.1 k3,.int r.2.2.2 k4])∈objs:=by
 refine oEEEEEA (h.2 Q.length r (by simp)) fun tv k1 k2 k3 k4 e m=>?_
 have hl:=h.1
 simp at hl
 have e2:qi=qi.take Q.length++[.ref tv]:=by
  have:=take_succ_of e
  rw [← this,List.take_of_length_le (by lia)]
 refine⟨qi.take Q.length,tv,k1,k2,k3,k4,e2,⟨by simp;lia,fun c r' hr=>?_⟩,m⟩
 have hc:=lt_of_get hr
 refine oEEEEEA (h.2 c r' (by rw [List.getElem?_append_left hc];exact hr)) fun tv' a b c' d e' m'=>?_
 exact⟨tv',a,b,c',d,by rw [List.getElem?_take_of_lt hc];exact e',m'⟩
section
variable{w:World}{A:Around}{E:Value→Shared→Prop}{s s':Shared}{mg mb:Str→Option Value}{G h g:Heap}{gs:Array GenState}{dr:Drawn}{tk:Nat}{os:OsState}{L a:Addr}{nm:List Str}{ls:List (Option Value)}{mu:List (Addr×Obj)}
theorem while_{test:Expr}{body:List Stmt}{pos:Pos}{env:Env}{s:Shared}{Q:Flow→Shared→Prop}(I:Nat→Shared→Prop)
  (turn:∀ n s,I n s→wpAny (model prog w) A (isTrue test env (eval test env)) (fun b s₂=>if b then wpAny (model prog w) A (execs body env) (fun f s₃=>match f with
   | .next | .cont=>∃ m,m < n∧I m s₃
   | .brk=>Q .next s₃
   | .ret v=>Q (.ret v) s₃) (fun _ _=>False) s₂ else Q .next s₂) (fun _ _=>False) s) (n:Nat) (h:I n s):wpAny (model prog w) A (exec (.While test body [] pos) env) Q E s:=by
 refine wpAny_While (codeAny_whileLoop I (fun n s' i=>wpAny_mono (turn n s' i) (fun b s₂ hb=>?_) fun _ _ x=>x.elim) n h)
 cases b with
 | true=>rw [if_pos rfl] at hb ⊢;exact wpAny_mono hb (fun f s₃ hf=>by cases f<;>exact hf) fun _ _ x=>x.elim
 | false=>rw [if_neg (by decide)] at hb ⊢;exact exn hb
theorem asg3{q:Str}{sc:Scope}{cd:Value}{x1 x2 x3:Str}{i1 i2 i3:Nat}{p1 p2 p3 tp:Pos}{kk:Nat}{v1 v2 v3:Value}{t dd:Addr}{P:Params}{Q:Unit→Shared→Prop}(S:St g L h nm ls mu)(hh:A.handled=none)(X:(K P).In h)(ht:h.get? t=some (mob dd [v1,v2,v3]))(V1:Var sc nm x1 i1)(V2:Var sc nm x2 i2)(V3:Var sc nm x3 i3)
  (h1:i1 < ls.length) (h2:i2 < ls.length) (h3:i3 < ls.length)
  (k:∀ h' tk,St g L h' nm (((ls.set i1 (some v1)).set i2 (some v2)).set i3 (some v3)) mu→Q () ⟨h',gs,dr,tk,os⟩) :
  wpAny (model prog w) A (assign (.Tuple [.Name x1 p1,.Name x2 p2,.Name x3 p3] kk tp) (envOf q sc L a cd) (.ref t)) Q E ⟨h,gs,dr,tk,os⟩:=by
 rw [assign_Tuple]
 refine wB (wpAny_standAt ?_)
 unfold unpack
 refine wB (wpAny_holding (m_unpack3 hh X ht S fun h2 hs S2=>?_))
 refine ord_cons (assign_Name (st_ S2 V1 (by assumption) fun h3 t3 S3=>?_))
 refine ord_cons (assign_Name (st_ S3 V2 (by simp only [List.length_set];assumption) fun h4 t4 S4=>?_))
 refine ord_cons (assign_Name (st_ S4 V3 (by simp only [List.length_set];assumption) fun h5 t5 S5=>?_))
 exact ord_nil (k _ _ S5)
theorem asg4{q:Str}{sc:Scope}{cd:Value}{x1 x2 x3 x4:Str}{i1 i2 i3 i4:Nat}{p1 p2 p3 p4 tp:Pos}{kk:Nat}{v1 v2 v3 v4:Value}{t:Addr}{Q:Unit→Shared→Prop}(S:St g L h nm ls mu)(hh:A.handled=none)(ht:h.get? t=some (tob [v1,v2,v3,v4]))(V1:Var sc nm x1 i1)(V2:Var sc nm x2 i2)(V3:Var sc nm x3 i3)(V4:Var sc nm x4 i4)
  (h1:i1 < ls.length) (h2:i2 < ls.length) (h3:i3 < ls.length) (h4:i4 < ls.length)
  (k:∀ h' tk,St g L h' nm ((((ls.set i1 (some v1)).set i2 (some v2)).set i3 (some v3)).set i4 (some v4)) mu→Q () ⟨h',gs,dr,tk,os⟩) :
  wpAny (model prog w) A (assign (.Tuple [.Name x1 p1,.Name x2 p2,.Name x3 p3,.Name x4 p4] kk tp) (envOf q sc L a cd) (.ref t)) Q E ⟨h,gs,dr,tk,os⟩:=by
 refine assign_Tuple_tuple (s:=⟨h,gs,dr,tk,os⟩) (items:=#[v1,v2,v3,v4]) hh ⟨_,ht,rfl,0,rfl⟩ rfl rfl fun h2 hx=>?_
 have S2:=S.re (S.F.extBut hx (Nat.le_refl _)) (S.N.extBut hx (Nat.le_refl _))
 refine ord_cons (assign_Name (st_ S2 V1 (by assumption) fun h3 t3 S3=>?_))
 refine ord_cons (assign_Name (st_ S3 V2 (by simp only [List.length_set];assumption) fun h4 t4 S4=>?_))
 refine ord_cons (assign_Name (st_ S4 V3 (by simp only [List.length_set];assumption) fun h5 t5 S5=>?_))
 refine ord_cons (assign_Name (st_ S5 V4 (by simp only [List.length_set];assumption) fun h6 t6 S6=>?_))
 exact ord_nil (k _ _ S6)
end
end
section
open PySem.Builtin
theorem perm_lift{α β:Type}{f:α→β}{l' m:List β}(h:l'.Perm m):∀ {l:List α},m=l.map f→∃ l'':List α,l''.Perm l∧l''.map f=l':=by
 induction h with
 | nil=>intro l e;exact⟨[],by cases l with | nil=>exact .nil | cons _ _=>simp at e,rfl⟩
 | cons x _ ih =>
  intro l e
  cases l with
  | nil=>simp at e
  | cons a l =>
   simp only [List.map_cons,List.cons.injEq] at e
   refine oEA (ih e.2) fun l'' h1 h2=>?_
   exact⟨a::l'',h1.cons _,by rw [List.map_cons,h2,e.1]⟩
 | swap x y l0 =>
  intro l e
  rcases l with _ | ⟨a,_ | ⟨b,l⟩⟩
  ·simp at e
  ·simp at e
  ·simp only [List.map_cons,List.cons.injEq] at e
   exact⟨b::a::l,List.Perm.swap _ _ _,by simp [e.1,e.2.1,e.2.2]⟩
 | trans _ _ ih1 ih2 =>
  intro l e
  refine oEA (ih2 e) fun l2 h1 h2=>?_
  refine oEA (ih1 h2.symm) fun l1 h3 h4=>?_
  exact⟨l1,h3.trans h1,h4⟩
theorem BT.perm{objs:List (Addr×Obj)}{bi bi':List Value}{ks:List Nat}(h:BT objs bi ks)(p:bi'.Perm bi):∃ ks',ks'.Perm ks∧BT objs bi' ks':=by
 have e:bi=(bi.zip ks).map (·.1):=by rw [List.map_fst_zip];rw [h.1];exact Nat.le_refl _
 refine oEA (perm_lift p e) fun z h1 h2=>?_
 have e2:(bi.zip ks).map (·.2)=ks:=by rw [List.map_snd_zip];rw [h.1];exact Nat.le_refl _
 refine⟨z.map (·.2),by have:=h1.map (·.2);rw [e2] at this;exact this,by rw [← h2];simp,fun c k hk=>?_⟩
 rw [List.getElem?_map] at hk
 refine oEA (Option.map_eq_some_iff.mp hk) ?_;rintro q hq rfl
 have hm:q∈bi.zip ks:=h1.mem_iff.mp (List.mem_of_getElem? hq)
 obtain⟨i,hi⟩:=List.getElem?_of_mem hm
 rw [List.getElem?_zip_eq_some] at hi
 refine oEEEEEEEA (h.2 i q.2 hi.2) fun t dd i' j' ti tj tk e3 m=>?_
 refine⟨t,dd,i',j',ti,tj,tk,?_,m⟩
 rw [← h2,List.getElem?_map,hq]
 rw [hi.1] at e3
 simpa using e3
structure NT(objs:List (Addr×Obj))(ni:List Value)(tr:List (Value×Value×Value))(kz:List Nat):Prop where
 len:ni.length=tr.length
 lk:tr.length=kz.length
 at_:∀ (c:Nat) (p:Value×Value×Value),tr[c]?=some p→∃ tv,ni[c]?=some (.ref tv)∧(tv,tob [p.1,p.2.1,p.2.2])∈objs
 sz:∀ (c:Nat) (p:Value×Value×Value) (k:Nat),tr[c]?=some p→kz[c]?=some k→∃ i j:Int,∃ ti tj tk,p=(.int i ti,.int j tj,.int (k:Nat) tk)
theorem NT.nil{objs:List (Addr×Obj)}:NT objs [] [] []:=⟨rfl,rfl,fun c p h=>by simp at h,fun c p k h=>by simp at h⟩
theorem NT.mono{objs objs':List (Addr×Obj)}{ni:List Value}{tr:List (Value×Value×Value)}{kz:List Nat}(h:NT objs ni tr kz)(k:∀ p∈objs,p∈objs'):NT objs' ni tr kz :=
 ⟨h.len,h.lk,fun c p hp=>let ⟨tv,e,m⟩:=h.at_ c p hp;⟨tv,e,k _ m⟩,h.sz⟩
theorem get_snoc{α:Type}{l:List α}{x y:α}{c:Nat}(h:(l++[x])[c]?=some y):(c < l.length∧l[c]?=some y)∨(c=l.length∧x=y):=by
 rcases Nat.lt_or_ge c l.length with hc | hc
 ·rw [List.getElem?_append_left hc] at h;exact .inl ⟨hc,h⟩
 ·rw [List.getElem?_append_right hc] at h
  rcases Nat.eq_zero_or_pos (c - l.length) with e | e
  ·rw [e] at h;exact .inr ⟨by lia,by simpa using h⟩
  ·rw [List.getElem?_eq_none (by simp;(clear hc h;lia))] at h;cases h
theorem NT.push{objs:List (Addr×Obj)}{ni:List Value}{tr:List (Value×Value×Value)}{kz:List Nat}{tv:Addr}{i j:Int}{k:Nat}{ti tj tk:Tok}(h:NT objs ni tr kz)(m:(tv,tob [.int i ti,.int j tj,.int (k:Nat) tk])∈objs) :
  NT objs (ni++[.ref tv]) (tr++[(.int i ti,.int j tj,.int (k:Nat) tk)]) (kz++[k]):=by
 refine⟨by simp [h.len],by simp [h.lk],fun c p hp=>?_,fun c p k' hp hk=>?_⟩
 ·rcases get_snoc hp with⟨hc,hp⟩ | ⟨rfl,rfl⟩
  ·refine oEA (h.at_ c p hp) fun tv' e m'=>?_
   exact⟨tv',by rw [List.getElem?_append_left (lt_of_get e)];exact e,m'⟩
  ·exact⟨tv,by rw [← h.len];simp,m⟩
 ·rcases get_snoc hp with⟨hc,hp⟩ | ⟨rfl,rfl⟩
  ·rcases get_snoc hk with⟨_,hk⟩ | ⟨hc',_⟩
   ·exact h.sz c p k' hp hk
   ·rw [h.lk] at hc;lia
  ·rcases get_snoc hk with⟨hc',hk⟩ | ⟨_,rfl⟩
   ·rw [h.lk] at hc';lia
   ·exact⟨i,j,ti,tj,tk,rfl⟩
end
section
open PySem.Builtin
section
variable{w:World}{A:Around}{E:Value→Shared→Prop}{s s':Shared}{mg mb:Str→Option Value}{G h g:Heap}{gs:Array GenState}{dr:Drawn}{tk:Nat}{os:OsState}{L a:Addr}{nm:List Str}{ls:List (Option Value)}{mu:List (Addr×Obj)}
theorem pm4{α:Type}(a b c e:α)(l:List α):(a::b::c::e::l).Perm (b::c::e::a::l):=(List.Perm.swap _ _ _).trans (((List.Perm.swap _ _ _).trans ((List.Perm.swap _ _ _).cons _)).cons _)
theorem ldN_{q:Str}{sc:Scope}{cd:Value}{x:Str}{i:Nat}{v:Value}{Q:Value→Shared→Prop}(S:St g L h nm ls mu)(V:Var sc nm x i)(hv:ls[i]?=some (some v))(k:Q v ⟨h,gs,dr,tk,os⟩) :
  wpAny (model prog w) A (loadName (envOf q sc L a cd) x) Q E ⟨h,gs,dr,tk,os⟩ :=
 ldn (s:=⟨h,gs,dr,tk,os⟩) S.F (look_get V.nd V.place hv) k V.fn V.kind
inductive GJ1(s:Shared)(m:Addr)(d:Addr)(xs:List Int)(ys:List Int)(od:Obj)(L:Addr)(k3:Tok)(k5:Tok)(h3:Heap)(h5:Heap)(s':Shared):Prop
 | mk (h' gs' tk' bi nb objs ks nq x5 x6 x7 x8 x9 x10 x11 x12) (q0:s'=⟨h',gs',s.drawn,tk',s.os⟩) (q1:AllBare gs') (q2:St (hideAll s.heap [d]) L h' nm_gmb [some (.ref m),some (.int xs.length k3),some (.int ys.length k5),some (.ref h3.objs.size),some (.ref h5.objs.size),x5,x6,x7,x8,x9,x10,x11,x12,none,none,none,none,none,none,none] ((h3.objs.size,lob [] nq)::(h5.objs.size,lob bi nb)::(d,od)::objs)) (q3:QI xs ys [] ks) (q4:BT objs bi ks):GJ1 s m d xs ys od L k3 k5 h3 h5 s'
inductive GJ2(s:Shared)(m:Addr)(d:Addr)(xs:List Int)(ys:List Int)(od:Obj)(L:Addr)(k3:Tok)(k5:Tok)(h3:Heap)(h5:Heap)(n:Nat)(s':Shared):Prop
 | mk (h' gs' tk' qi nq bi nb objs Q ks x5 x6 x7 x8 x9 x10 x11 x12) (q0:s'=⟨h',gs',s.drawn,tk',s.os⟩) (q1:AllBare gs') (q2:St (hideAll s.heap [d]) L h' nm_gmb [some (.ref m),some (.int xs.length k3),some (.int ys.length k5),some (.ref h3.objs.size),some (.ref h5.objs.size),x5,x6,x7,x8,x9,x10,x11,x12,none,none,none,none,none,none,none] ((h3.objs.size,lob qi nq)::(h5.objs.size,lob bi nb)::(d,od)::objs)) (q3:QI xs ys Q ks) (q4:QT objs qi Q) (q5:BT objs bi ks) (q6:n=mq Q):GJ2 s m d xs ys od L k3 k5 h3 h5 n s'
inductive GJ3(s:Shared)(m:Addr)(d:Addr)(xs:List Int)(ys:List Int)(od:Obj)(L:Addr)(nb:Nat)(k3:Tok)(k5:Tok)(h3:Heap)(h5:Heap)(bi:List Value)(Q0:List Rg)(qi0:List Value)(c1:Tok)(c2:Tok)(c3:Tok)(c4:Tok)(alo:Nat)(ahi:Nat)(blo:Nat)(bhi:Nat)(gs12:Array GenState)(t:Addr)(i:Nat)(j:Nat)(k:Nat)(ti:Tok)(tj:Tok)(tk':Tok)(ob1:List (Addr×Obj))(s':Shared):Prop
 | mk (h' tkz qi' nq' ob') (q0:s'=⟨h',gs12,s.drawn,tkz,s.os⟩) (q1:St (hideAll s.heap [d]) L h' nm_gmb [some (.ref m),some (.int xs.length k3),some (.int ys.length k5),some (.ref h3.objs.size),some (.ref h5.objs.size),some (.int alo c1),some (.int ahi c2),some (.int blo c3),some (.int bhi c4),some (.int i ti),some (.int j tj),some (.int k tk'),some (.ref t),none,none,none,none,none,none,none] ((h3.objs.size,lob qi' nq')::(h5.objs.size,lob (bi++[.ref t]) (nb+1))::(d,od)::ob')) (q2:qi'.length≤qi0.length+1) (q3:QT ob' qi' (Q0++if alo < i∧blo < j then [(alo,i,blo,j)] else [])) (q4:∀ p∈ob1,p∈ob'):GJ3 s m d xs ys od L nb k3 k5 h3 h5 bi Q0 qi0 c1 c2 c3 c4 alo ahi blo bhi gs12 t i j k ti tj tk' ob1 s'
inductive GJ4(s:Shared)(m:Addr)(d:Addr)(xs:List Int)(ys:List Int)(od:Obj)(L:Addr)(nb:Nat)(k3:Tok)(k5:Tok)(h3:Heap)(h5:Heap)(bi:List Value)(Q0:List Rg)(c1:Tok)(c2:Tok)(c3:Tok)(c4:Tok)(alo:Nat)(ahi:Nat)(blo:Nat)(bhi:Nat)(gs12:Array GenState)(t:Addr)(i:Nat)(j:Nat)(k:Nat)(ti:Tok)(tj:Tok)(tk':Tok)(ob1:List (Addr×Obj))(s':Shared):Prop
 | mk (h' tkz qi' nq' ob') (q0:s'=⟨h',gs12,s.drawn,tkz,s.os⟩) (q1:St (hideAll s.heap [d]) L h' nm_gmb [some (.ref m),some (.int xs.length k3),some (.int ys.length k5),some (.ref h3.objs.size),some (.ref h5.objs.size),some (.int alo c1),some (.int ahi c2),some (.int blo c3),some (.int bhi c4),some (.int i ti),some (.int j tj),some (.int k tk'),some (.ref t),none,none,none,none,none,none,none] ((h3.objs.size,lob qi' nq')::(h5.objs.size,lob (bi++[.ref t]) (nb+1))::(d,od)::ob')) (q2:QT ob' qi' (Q0++kids alo ahi blo bhi i j k)) (q3:∀ p∈ob1,p∈ob'):GJ4 s m d xs ys od L nb k3 k5 h3 h5 bi Q0 c1 c2 c3 c4 alo ahi blo bhi gs12 t i j k ti tj tk' ob1 s'
inductive GJ5(s:Shared)(m:Addr)(d:Addr)(xs:List Int)(ys:List Int)(od:Obj)(L:Addr)(k3:Tok)(k5:Tok)(h3:Heap)(h5:Heap)(ks:List Nat)(x5:Option Value)(x6:Option Value)(x7:Option Value)(x8:Option Value)(x9:Option Value)(x10:Option Value)(x11:Option Value)(x12:Option Value)(bi':List Value)(nb':Nat)(h14:Heap)(s':Shared):Prop
 | mk (h' gs' tkz ni nn) (i1 j1:Int) (k1:Nat) (a1 a2 a3 ob tr kz x17 x18 x19) (q0:s'=⟨h',gs',s.drawn,tkz,s.os⟩) (q1:AllBare gs') (q2:St (hideAll s.heap [d]) L h' nm_gmb [some (.ref m),some (.int xs.length k3),some (.int ys.length k5),some (.ref h3.objs.size),some (.ref h5.objs.size),x5,x6,x7,x8,x9,x10,x11,x12,some (.int i1 a1),some (.int j1 a2),some (.int (k1:Nat) a3),some (.ref h14.objs.size),x17,x18,x19] ((h14.objs.size,lob ni nn)::(h5.objs.size,lob bi' nb')::(d,od)::ob)) (q3:NT ob ni tr kz) (q4:kz.sum+k1=ks.sum) (q5:ni.length≤200):GJ5 s m d xs ys od L k3 k5 h3 h5 ks x5 x6 x7 x8 x9 x10 x11 x12 bi' nb' h14 s'
inductive GJ6(m:Addr)(d:Addr)(xs:List Int)(ys:List Int)(od:Obj)(k3:Tok)(k5:Tok)(h3:Heap)(h5:Heap)(objs:List (Addr×Obj))(x5:Option Value)(x6:Option Value)(x7:Option Value)(x8:Option Value)(x9:Option Value)(x10:Option Value)(x11:Option Value)(x12:Option Value)(bi':List Value)(nb':Nat)(ks':List Nat)(h14:Heap)(c:Nat)(ls:List (Option Value))(mu:List (Addr×Obj)):Prop
 | mk (ni nn) (i1 j1:Int) (k1:Nat) (a1 a2 a3 ob tr kz x17 x18 x19) (q0:ls=[some (.ref m),some (.int xs.length k3),some (.int ys.length k5),some (.ref h3.objs.size),some (.ref h5.objs.size),x5,x6,x7,x8,x9,x10,x11,x12,some (.int i1 a1),some (.int j1 a2),some (.int (k1:Nat) a3),some (.ref h14.objs.size),x17,x18,x19]) (q1:mu=((h14.objs.size,lob ni nn)::(h5.objs.size,lob bi' nb')::(d,od)::ob)) (q2:NT ob ni tr kz) (q3:kz.sum+k1=(ks'.take c).sum) (q4:ni.length≤c) (q5:∀ p∈objs,p∈ob):GJ6 m d xs ys od k3 k5 h3 h5 objs x5 x6 x7 x8 x9 x10 x11 x12 bi' nb' ks' h14 c ls mu
inductive GJ7(s:Shared)(m:Addr)(d:Addr)(xs:List Int)(ys:List Int)(od:Obj)(L:Addr)(tk:Tok)(k1:Nat)(k3:Tok)(k5:Tok)(h3:Heap)(h5:Heap)(objs:List (Addr×Obj))(x5:Option Value)(x6:Option Value)(x7:Option Value)(x8:Option Value)(x9:Option Value)(x10:Option Value)(x11:Option Value)(x12:Option Value)(bi':List Value)(nb':Nat)(h14:Heap)(c:Nat)(own:List (Addr×Obj))(gs17:Array GenState)(i1:Int)(j1:Int)(a1:Tok)(a2:Tok)(a3:Tok)(kz:List Nat)(k2:Nat)(i2:Int)(j2:Int)(ti:Tok)(tj:Tok)(s':Shared):Prop
 | mk (h' tkz ni' nn' ob' tr' kz') (q0:s'=⟨h',gs17,s.drawn,tkz,s.os⟩) (q1:St (hideAll s.heap [d]) L h' nm_gmb [some (.ref m),some (.int xs.length k3),some (.int ys.length k5),some (.ref h3.objs.size),some (.ref h5.objs.size),x5,x6,x7,x8,x9,x10,x11,x12,some (.int i1 a1),some (.int j1 a2),some (.int (k1:Nat) a3),some (.ref h14.objs.size),some (.int i2 ti),some (.int j2 tj),some (.int (k2:Nat) tk)] (((h14.objs.size,lob ni' nn')::(h5.objs.size,lob bi' nb')::(d,od)::ob')++own)) (q2:NT ob' ni' tr' kz') (q3:kz'.sum=kz.sum+k1) (q4:ni'.length≤c+1) (q5:∀ p∈objs,p∈ob'):GJ7 s m d xs ys od L tk k1 k3 k5 h3 h5 objs x5 x6 x7 x8 x9 x10 x11 x12 bi' nb' h14 c own gs17 i1 j1 a1 a2 a3 kz k2 i2 j2 ti tj s'
inductive GJ8(s:Shared)(m:Addr)(d:Addr)(xs:List Int)(ys:List Int)(od:Obj)(L:Addr)(k1:Nat)(k3:Tok)(k5:Tok)(h3:Heap)(h5:Heap)(ks:List Nat)(x5:Option Value)(x6:Option Value)(x7:Option Value)(x8:Option Value)(x9:Option Value)(x10:Option Value)(x11:Option Value)(x12:Option Value)(bi':List Value)(nb':Nat)(h14:Heap)(gs17:Array GenState)(i1:Int)(j1:Int)(a1:Tok)(a2:Tok)(a3:Tok)(x17:Option Value)(x18:Option Value)(x19:Option Value)(s':Shared):Prop
 | mk (h' tkz ni' nn' ob' tr' kz') (q0:s'=⟨h',gs17,s.drawn,tkz,s.os⟩) (q1:St (hideAll s.heap [d]) L h' nm_gmb [some (.ref m),some (.int xs.length k3),some (.int ys.length k5),some (.ref h3.objs.size),some (.ref h5.objs.size),x5,x6,x7,x8,x9,x10,x11,x12,some (.int i1 a1),some (.int j1 a2),some (.int (k1:Nat) a3),some (.ref h14.objs.size),x17,x18,x19] ((h14.objs.size,lob ni' nn')::(h5.objs.size,lob bi' nb')::(d,od)::ob')) (q2:NT ob' ni' tr' kz') (q3:kz'.sum=ks.sum) (q4:ni'.length≤201):GJ8 s m d xs ys od L k1 k3 k5 h3 h5 ks x5 x6 x7 x8 x9 x10 x11 x12 bi' nb' h14 gs17 i1 j1 a1 a2 a3 x17 x18 x19 s'
theorem gmb_spec{m d la lb:Addr}{vs:List Value}{xs ys:List Int}{R:Rel}(X:Gr w mg mb G d A s 6)(hgs:AllBare s.gens)(M:MA w R m d vs (some (la,xs)) (some (lb,ys)) s)(hmin:xs.length < 64∨ys.length < 64)(hu:A.units+8 < cLine) :
  codeAny (model prog w) A (.call (.ref 203) ⟨[.ref m],[]⟩) (Ret [d] s fun v s'=>∃ p vs' o' new,v=.ref p∧s'.heap.get? d=some o'∧IV w.params an vs' o'∧Fresh s s' new∧MS prog w (R.and new) vs' (some (la,xs)) (some (lb,ys))∧MBs (R.and new) p xs ys) s:=by
 refine oEA M.hd fun od hd I=>?_
 have H:=M.hS
 have hm:=M.hm
 have hR:=M.hR
 have hA:=X.hA
 have hdep:=X.dep
 refine enterP ps_gmb os_gmb [.ref m] [(d,od)] (fn_gmb _) (X.D.keeps X.sub) (by lia) (b_gmb _ _ _) rfl p_gmb (nm:=nm_gmb) rfl (fun p hp=>by rw [mS hp];exact hd) (by simp) ?_
 intro Po hPo L h₁ tk S hL
 have Dg:=X.gd
 have old:=hide_old hR
 have hlen:=H.len
 have big:=X.big
 refine oAA H.a ?_;rintro e1 ⟨ia,na,hao,hai⟩ hxl
 refine oAAAA H.b ?_;rintro e2 ⟨ib,nb,hbo,hbi⟩ hyl h7 h6
 refine exc (wpAny_Expr (cStr fun k1 t1=>?_))
 refine exc (wpAny_If (wC (at1 (ld_ S v_gmb_self rfl ?_))))
 rcases H.mb with h4 | ⟨l0,xs0,l1,ys0,p,ea,eb,h4,hMB⟩
 rotate_left
 ·refine getV (Dg.k.keeps S.F.keep) (pl _) (at_mb _).at (S.old (old _ _ hm)) (S.get (j:=0) rfl) I h4 rfl fun t2=>?_
  refine Constant_none (wpAny_isNot_other rfl (by intro z;cases z) (wT ?_))
  rw [if_pos rfl]
  refine exc (wpAny_Return_some (at1 (ld_ S v_gmb_self rfl ?_)))
  refine getV (Dg.k.keeps S.F.keep) (pl _) (at_mb _).at (S.old (old _ _ hm)) (S.get (j:=0) rfl) I h4 rfl fun t3=>?_
  cases ea
  cases eb
  exact hPo _ _ (S.mod (t:=0) hL id rfl rfl rfl) ⟨p,vs,od,[],rfl,S.get (j:=0) rfl,I,Fresh.nil,H.mono fun b o e=>.inl e,hMB.mono fun b o e=>.inl e⟩
 refine getV (Dg.k.keeps S.F.keep) (pl _) (at_mb _).at (S.old (old _ _ hm)) (S.get (j:=0) rfl) I h4 rfl fun t2=>?_
 refine Constant_none (wpAny_isNot_self rfl (wT ?_))
 rw [if_neg (by decide)]
 refine exn ?_
 refine exc (Assign_Tuple_swapped (names:=[ofString "la",ofString "lb"]) (Tuple_ (arg_ (Call_ (lb_ S Dg g_gmb_len (bn_len _) (cB (arg_ (at1 (ld_ S v_gmb_self rfl ?_)))))))) (hw:=by kernel_rfl))
 refine getV (Dg.k.keeps S.F.keep) (pl _) (at_a _).at (S.old (old _ _ hm)) (S.get (j:=0) rfl) I e1 rfl fun t2=>?_
 refine arg0 (len_ (lob_list (S.old (old _ _ hao))) (by rw [hai.length];lia) fun k3 t3=>?_)
 refine arg_ (Call_ (lb_ S Dg g_gmb_len (bn_len _) (cB (arg_ (at1 (ld_ S v_gmb_self rfl ?_))))))
 refine getV (Dg.k.keeps S.F.keep) (pl _) (at_b _).at (S.old (old _ _ hm)) (S.get (j:=0) rfl) I e2 rfl fun t4=>?_
 refine arg0 (len_ (lob_list (S.old (old _ _ hbo))) (by rw [hbi.length];lia) fun k5 t5=>?_)
 rw [hai.length,hbi.length]
 refine arg0 (tup2 S (by exact hA) v_gmb_la v_gmb_lb (nB rfl) (nB rfl) fun h2 t6 S2=>?_)
 refine exc (asgN (List_ (arg_ (Tuple_ (arg_ (cInt fun k7 t7=>arg_ (ld_ S2 v_gmb_la rfl (arg_ (cInt fun k8 t8=>arg_ (ld_ S2 v_gmb_lb rfl (arg0 (newT S2 (by simp) fun h3 S3=>arg0 (newL S3 (by simp) fun h4 S4=>?_)))))))))))))
 refine st_ S4 v_gmb_queue (nB rfl) fun h5 t9 S5=>?_
 refine exc (asgN (List_ (arg0 (newL S5 (by simp) fun h6 S6=>st_ S6 v_gmb_matching_blocks (nB rfl) fun h7 t10 S7=>?_))))
 have S8:=S7.perm (mu':=(h3.objs.size,lob [.ref h2.objs.size] 0)::(h5.objs.size,lob [] 0)::(d,od)::[(h2.objs.size,tob [.int 0 k7,.int xs.length k3,.int 0 k8,.int ys.length k5])]) ((List.Perm.swap _ _ _).trans (((List.Perm.swap _ _ _).cons _).cons _))
 replace S8:St (hideAll s.heap [d]) L h7 nm_gmb [some (.ref m),some (.int xs.length k3),some (.int ys.length k5),some (.ref h3.objs.size),some (.ref h5.objs.size),none,none,none,none,none,none,none,none,none,none,none,none,none,none,none] _:=S8
 refine join (GJ1 s m d xs ys od L k3 k5 h3 h5) ?_ ?_
 ·intro I' hI
  refine while_ (GJ2 s m d xs ys od L k3 k5 h3 h5) ?_ (mq [(0,xs.length,0,ys.length)]) ?_
  ·rintro n _ ⟨h8,gs8,tk8,qi,nq,bi,nb,objs,Q,ks,x5,x6,x7,x8,x9,x10,x11,x12,rfl,hg8,S9,hQI,hQT,hBT,rfl⟩
   have hql:qi.length≤400:=by have:=hQI.me;have:=mq_len Q;have:=hQT.1;lia
   refine isTrue_plain (ld_ S9 v_gmb_queue rfl (wpAny_truthy_list (lob_list (S9.get (j:=0) rfl)) (by rw [List.size_toArray];lia) ?_))
   rcases List.eq_nil_or_concat Q with rfl | ⟨Q0,r,rfl⟩
   ·have:qi=[]:=List.length_eq_zero_iff.mp hQT.1
    subst this
    rw [if_neg (by decide)]
    exact⟨rfl,hI _ ⟨h8,gs8,_,bi,nb,objs,ks,nq,x5,x6,x7,x8,x9,x10,x11,x12,rfl,hg8,S9,hQI,hBT⟩⟩
   rw [List.concat_eq_append] at hQI hQT ⊢
   refine oEEEEEEAA hQT.pop ?_;rintro qi0 tv c1 c2 c3 c4 rfl hQT0 htv
   obtain⟨alo,ahi,blo,bhi⟩:=r
   dsimp only at htv
   rw [if_pos (by simp)]
   refine oAAA (hQI.bd (alo,ahi,blo,bhi) (by simp)) fun b1 b2 b3 b4=>?_
   dsimp only at b1 b2 b3 b4
   have hfew:=hQI.few
   obtain⟨jt,hjt⟩:=List.getElem?_of_mem htv
   refine exc (Assign_Tuple (MethodCall_ (ld_ S9 v_gmb_queue rfl (mL PySem.F.slot_list_pop PySem.F.type_list_pop (S9.get (j:=0) rfl) (callWith_method0 (pop_ (j:=0) S9 rfl (by simp at hql;lia) fun h10 S10=>?_))))) (hw:=by kernel_rfl))
   have S10':St (hideAll s.heap [d]) L h10 nm_gmb _ ((h3.objs.size,lob qi0 (nq+1))::(h5.objs.size,lob bi nb)::(d,od)::objs):=S10
   refine asg4 S10' (by exact hA) (S10'.get (j:=jt+3) hjt) v_gmb_alo v_gmb_ahi v_gmb_blo v_gmb_bhi (nB rfl) (nB rfl) (nB rfl) (nB rfl) fun h11 t11 S11=>?_
   refine exc (wpAny_Assign_two (MethodCall_ (ld_ S11 v_gmb_self rfl (methV (Dg.k.keeps S11.F.keep) (pl _) (me_flm _) (S11.old (old _ _ hm)) (S11.get (j:=2) rfl) I (cMn (fn_flm _) (arg_ (ld_ S11 v_gmb_alo rfl (arg_ (ld_ S11 v_gmb_ahi rfl (arg_ (ld_ S11 v_gmb_blo rfl (arg_ (ld_ S11 v_gmb_bhi rfl (arg0 ⟨Dg.k.keeps S11.F.keep,?_⟩))))))))))))))
   have MA11:MA w R m d vs (some (la,xs)) (some (lb,ys)) ⟨h11,gs8,s.drawn,t11,s.os⟩:=⟨hm,⟨od,S11.get (j:=2) rfl,I⟩,fun b o e=>⟨S11.old (old _ _ e),(hR _ _ e).2⟩,H⟩
   refine callS (flm_spec (Dg.keeps S11.F.keep) hA (by show A.depth+1+4 < _;(clear hjt hfew b4 b3 b2 b1 hql hyl e2 hxl e1 big hlen hL hA hd hu hmin;exact Nat.le_of_lt hdep)) (Nat.lt_of_lt_of_le big (ntr hL (Nat.le_of_lt S11.F.ns.lt))) hg8 MA11 b1 b2 b3 b4) fun v h12 gs12 t12 M12 hv=>?_
   refine oEEEEEEEEAA hv ?_;rintro t dd i j k ti tj tk' rfl Fr B
   have S12:=St.grow (s:=⟨h11,gs8,s.drawn,t11,s.os⟩) S11 (S11.call0 (s:=⟨h11,gs8,s.drawn,t11,s.os⟩) (s':=⟨h12,gs12,s.drawn,t12,s.os⟩) M12) rfl (fun p hp=>⟨Fr.here p hp,Fr.not p hp⟩) Fr.nd
   have hg12:=M12.gens hg8
   replace S12:St (hideAll s.heap [d]) L h12 nm_gmb [some (.ref m),some (.int xs.length k3),some (.int ys.length k5),some (.ref h3.objs.size),some (.ref h5.objs.size),some (.int alo c1),some (.int ahi c2),some (.int blo c3),some (.int bhi c4),x9,x10,x11,x12,none,none,none,none,none,none,none] ((h3.objs.size,lob qi0 (nq+1))::(h5.objs.size,lob bi nb)::(d,od)::(objs++[(t,mob dd [.int i ti,.int j tj,.int k tk']),(dd,emptyDict)])):=S12
   have tmem:(t,mob dd [.int i ti,.int j tj,.int k tk'])∈(objs++[(t,mob dd [.int i ti,.int j tj,.int k tk']),(dd,emptyDict)]):=by simp
   obtain⟨jm,hjm⟩:=List.getElem?_of_mem tmem
   refine asg3 S12 (by exact hA) (Dg.k.keeps S12.F.keep) (S12.get (j:=jm+3) hjm) v_gmb_i v_gmb_j v_gmb_k (nB rfl) (nB rfl) (nB rfl) fun h13 t13 S13=>?_
   refine asN (st_ S13 v_gmb_x (nB rfl) fun h14 t14 S14=>?_)
   replace S14:St (hideAll s.heap [d]) L h14 nm_gmb [some (.ref m),some (.int xs.length k3),some (.int ys.length k5),some (.ref h3.objs.size),some (.ref h5.objs.size),some (.int alo c1),some (.int ahi c2),some (.int blo c3),some (.int bhi c4),some (.int i ti),some (.int j tj),some (.int k tk'),some (.ref t),none,none,none,none,none,none,none] ((h3.objs.size,lob qi0 (nq+1))::(h5.objs.size,lob bi nb)::(d,od)::(objs++[(t,mob dd [.int i ti,.int j tj,.int k tk']),(dd,emptyDict)])):=S14
   refine exc (wpAny_If (isTrue_plain (ld_ S14 v_gmb_k rfl (truthy_int ?_))))
   have hBT1:=hBT.mono (objs':=objs++[(t,mob dd [.int i ti,.int j tj,.int k tk']),(dd,emptyDict)]) fun p hp=>mF _ hp
   have hQT1:=hQT0.mono (objs':=objs++[(t,mob dd [.int i ti,.int j tj,.int k tk']),(dd,emptyDict)]) fun p hp=>mF _ hp
   have hbl:bi.length≤199:=by rw [hBT.1];lia
   by_cases hk:k=0
   ·subst hk
    rw [if_neg (by simp)]
    refine exn (exn ⟨mq Q0,by simp [mq],h14,gs12,t14,qi0,_,bi,nb,_,Q0,ks,_,_,_,_,_,_,_,_,rfl,hg12,S14,hQI.zero B,hQT1,hBT1,rfl⟩)
   rw [if_pos (by simp;omega)]
   obtain⟨hQI2,hlt2⟩:=hQI.step B (by lia)
   generalize hob:objs++[(t,mob dd [.int i ti,.int j tj,.int k tk']),(dd,emptyDict)]=ob1 at *
   refine exc (wpAny_Expr (MethodCall_ (ld_ S14 v_gmb_matching_blocks rfl (mL PySem.F.slot_list_append PySem.F.type_list_append (S14.get (j:=1) rfl) (callWith_method1 (arg_ (ld_ S14 v_gmb_x rfl (arg0 (append_ (j:=1) S14 rfl (by lia) fun h15 S15=>?_)))))))))
   have hBT2:=hBT1.push tmem
   have hq0:qi0.length≤400:=by simp at hql;lia
   have pm:∀ {α:Type} (a b c e:α) (l:List α),(a::b::c::e::l).Perm (b::c::e::a::l):=fun a b c e l=>(List.Perm.swap _ _ _).trans (((List.Perm.swap _ _ _).trans ((List.Perm.swap _ _ _).cons _)).cons _)
   refine join (GJ3 s m d xs ys od L nb k3 k5 h3 h5 bi Q0 qi0 c1 c2 c3 c4 alo ahi blo bhi gs12 t i j k ti tj tk' ob1) ?_ ?_
   ·intro I' hI
    refine wpAny_If (isTrue_and (wC (ld_ S15 v_gmb_alo rfl (ld_ S15 v_gmb_i rfl (PySem.P.lt_int (wT ?_))))))
    by_cases d1:alo < i
    ·rw [if_pos (by simpa using d1)]
     refine isTrue_and (wC (ld_ S15 v_gmb_blo rfl (ld_ S15 v_gmb_j rfl (PySem.P.lt_int (wT ?_)))))
     by_cases d2:blo < j
     ·rw [if_pos (by simpa using d2)]
      refine isTrue_and_nil ?_
      rw [if_pos rfl]
      refine exc (wpAny_Expr (MethodCall_ (ld_ S15 v_gmb_queue rfl (mL PySem.F.slot_list_append PySem.F.type_list_append (S15.get (j:=0) rfl) (callWith_method1 (arg_ (Tuple_ (arg_ (ld_ S15 v_gmb_alo rfl (arg_ (ld_ S15 v_gmb_i rfl (arg_ (ld_ S15 v_gmb_blo rfl (arg_ (ld_ S15 v_gmb_j rfl (arg0 (newT S15 (by simp) fun h16 S16=>arg0 (append_ (j:=1) S16 rfl (by lia) fun h17 S17=>?_))))))))))))))))))
      refine exn ⟨rfl,hI _ ⟨h17,_,_,_,_,rfl,S17.perm (pm _ _ _ _ _),by simp,?_,fun p hp=>.tail _ hp⟩⟩
      rw [if_pos ⟨d1,d2⟩]
      exact(hQT1.mono fun p hp=>.tail _ hp).push (r:=(alo,i,blo,j)) (.head _)
     ·rw [if_neg (by simpa using d2),if_neg (by decide)]
      refine exn ⟨rfl,hI _ ⟨h15,_,qi0,_,ob1,rfl,S15,by lia,?_,fun p hp=>hp⟩⟩
      rw [if_neg (fun z=>d2 z.2),List.append_nil]
      exact hQT1
    ·rw [if_neg (by simpa using d1),if_neg (by decide)]
     refine exn ⟨rfl,hI _ ⟨h15,_,qi0,_,ob1,rfl,S15,by lia,?_,fun p hp=>hp⟩⟩
     rw [if_neg (fun z=>d1 z.1),List.append_nil]
     exact hQT1
   rintro _ ⟨h18,tk18,qi2,nq2,ob2,rfl,S18,hq2,hQT2,hob2⟩
   refine join (GJ4 s m d xs ys od L nb k3 k5 h3 h5 bi Q0 c1 c2 c3 c4 alo ahi blo bhi gs12 t i j k ti tj tk' ob1) ?_ ?_
   ·intro I' hI
    refine wpAny_If (isTrue_and (wC (wpAny_BinOp (ld_ S18 v_gmb_i rfl (ld_ S18 v_gmb_k rfl (add_ fun k19 t19=>ld_ S18 v_gmb_ahi rfl (PySem.P.lt_int (wT ?_))))))))
    by_cases d1:i+k < ahi
    ·rw [if_pos (by simp;(clear hq2 hq0 hjm hob hlt2 hk hbl hjt hfew b4 b3 b2 b1 hql hyl e2 hxl e1 big hlen hL hdep hA hd hu hmin;exact Int.ofNat_le.mpr (by lia)))]
     refine isTrue_and (wC (wpAny_BinOp (ld_ S18 v_gmb_j rfl (ld_ S18 v_gmb_k rfl (add_ fun k20 t20=>ld_ S18 v_gmb_bhi rfl (PySem.P.lt_int (wT ?_)))))))
     by_cases d2:j+k < bhi
     ·rw [if_pos (by simp;lia)]
      refine isTrue_and_nil ?_
      rw [if_pos rfl]
      refine exc (wpAny_Expr (MethodCall_ (ld_ S18 v_gmb_queue rfl (mL PySem.F.slot_list_append PySem.F.type_list_append (S18.get (j:=0) rfl) (callWith_method1 (arg_ (Tuple_ (arg_ (wpAny_BinOp (ld_ S18 v_gmb_i rfl (ld_ S18 v_gmb_k rfl (add_ fun k21 t21=>arg_ (ld_ S18 v_gmb_ahi rfl (arg_ (wpAny_BinOp (ld_ S18 v_gmb_j rfl (ld_ S18 v_gmb_k rfl (add_ fun k22 t22=>arg_ (ld_ S18 v_gmb_bhi rfl (arg0 (newT S18 (by simp) fun h16 S16=>arg0 (append_ (j:=1) S16 rfl (by lia) fun h17 S17=>?_))))))))))))))))))))))
      refine exn ⟨rfl,hI _ ⟨h17,_,_,_,_,rfl,S17.perm (pm _ _ _ _ _),?_,fun p hp=>.tail _ (hob2 p hp)⟩⟩
      unfold kids
      rw [if_pos (show i+k < ahi∧j+k < bhi from⟨d1,d2⟩),← List.append_assoc]
      refine(hQT2.mono fun p hp=>.tail _ hp).push (r:=(i+k,ahi,j+k,bhi)) (k1:=k21) (k2:=c2) (k3:=k22) (k4:=c4) ?_
      dsimp only
      rw [Int.natCast_add,Int.natCast_add]
      exact .head _
     ·rw [if_neg (by simp;lia),if_neg (by decide)]
      refine exn ⟨rfl,hI _ ⟨h18,_,qi2,_,ob2,rfl,S18,?_,hob2⟩⟩
      unfold kids
      rw [if_neg (show ¬ (i+k < ahi∧j+k < bhi) from fun z=>d2 z.2),List.append_nil]
      exact hQT2
    ·rw [if_neg (by simp;lia),if_neg (by decide)]
     refine exn ⟨rfl,hI _ ⟨h18,_,qi2,_,ob2,rfl,S18,?_,hob2⟩⟩
     unfold kids
     rw [if_neg (show ¬ (i+k < ahi∧j+k < bhi) from fun z=>d1 z.1),List.append_nil]
     exact hQT2
   rintro _ ⟨h23,tk23,qi3,nq3,ob3,rfl,S23,hQT3,hob3⟩
   exact exn (exn ⟨_,hlt2,h23,gs12,tk23,qi3,_,_,_,ob3,_,_,_,_,_,_,_,_,_,_,rfl,hg12,S23,hQI2,hQT3,hBT2.mono hob3,rfl⟩)
  ·exact⟨h7,s.gens,t10,_,_,[],_,_,_,[],_,_,_,_,_,_,_,_,rfl,hgs,S8,QI.start,QT.push (r:=(0,xs.length,0,ys.length)) (qi:=[]) (Q:=[]) ⟨rfl,fun c r hr=>by simp at hr⟩ (.head _),⟨rfl,fun c k hk=>by simp at hk⟩,rfl⟩
 ·rintro _ ⟨h8,gs8,tk8,bi,nb,objs,ks,nq,x5,x6,x7,x8,x9,x10,x11,x12,rfl,hg8,S9,hQI,hBT⟩
  have S10:=(S9.perm (List.Perm.swap _ _ _)).drop (mu':=(h5.objs.size,lob bi nb)::(d,od)::objs) (.cons_cons _ (.cons _ (List.Sublist.refl _)))
  have hfew:=hQI.few
  have h64:bi.length < 64:=by rw [hBT.1];lia
  refine exc (wpAny_Expr (MethodCall_ (ld_ S10 v_gmb_matching_blocks rfl (mL PySem.F.slot_list_sort PySem.F.type_list_sort (S10.get (j:=0) rfl) (callWith_method0 (sortM S10 Dg.k (by show A.units+3+1 < _;lia) h64 ?_ fun h11 bi' nb' hperm S11=>?_))))))
  ·intro v hv
   obtain⟨c,hc⟩:=List.getElem?_of_mem hv
   have hcl:=lt_of_get hc
   refine oEEEEEEEA (hBT.2 c (ks[c]'(by rw [← hBT.1];exact hcl)) (List.getElem?_eq_getElem _)) fun t dd i j ti tj tk e mm=>?_
   rw [hc] at e
   exact⟨t,dd,i,j,_,ti,tj,tk,Option.some.inj e,.inr (.tail _ mm)⟩
  refine oEA (hBT.perm hperm) fun ks' hks hBT'=>?_
  have hksum:ks'.sum=ks.sum:=hks.sum_nat
  refine exc (wpAny_Assign_three (cInt fun k12 t12=>asN (st_ S11 v_gmb_i1 (nB rfl) fun h12 t12 S12=>asN (st_ S12 v_gmb_j1 (nB rfl) fun h13 t13 S13=>asN (st_ S13 v_gmb_k1 (nB rfl) fun h14 t14 S14=>?_)))))
  refine exc (asgN (List_ (arg0 (newL S14 (by simp) fun h15 S15=>st_ S15 v_gmb_non_adjacent (nB rfl) fun h16 t16 S16=>?_))))
  replace S16:St (hideAll s.heap [d]) L h16 nm_gmb [some (.ref m),some (.int xs.length k3),some (.int ys.length k5),some (.ref h3.objs.size),some (.ref h5.objs.size),x5,x6,x7,x8,x9,x10,x11,x12,some (.int 0 k12),some (.int 0 k12),some (.int 0 k12),some (.ref h14.objs.size),none,none,none] ((h14.objs.size,lob [] 0)::(h5.objs.size,lob bi' nb')::(d,od)::objs):=S16
  refine join (GJ5 s m d xs ys od L k3 k5 h3 h5 ks x5 x6 x7 x8 x9 x10 x11 x12 bi' nb' h14) ?_ ?_
  ·intro I' hI
   refine wpAny_For (ld_ S16 v_gmb_matching_blocks rfl ?_)
   refine forLA (items:=bi') (GJ6 m d xs ys od k3 k5 h3 h5 objs x5 x6 x7 x8 x9 x10 x11 x12 bi' nb' ks' h14) S16 hA hg8 (lob_list (S16.get (j:=1) rfl)) (.inr ⟨lob bi' nb',?_⟩) ?_ ?_ ?_ ?_
   ·rintro c _ _ ⟨ni,nn,i1,j1,k1,a1,a2,a3,ob,tr,kz,x17,x18,x19,rfl,rfl,_⟩
    exact .tail _ (.head _)
   ·intro v hv
    obtain⟨c,hc⟩:=List.getElem?_of_mem hv
    have hcl:=lt_of_get hc
    refine oEEEEEEEA (hBT'.2 c (ks'[c]'(by rw [← hBT'.1];exact hcl)) (List.getElem?_eq_getElem _)) fun t dd i j ti tj tk e mm=>?_
    rw [hc] at e
    exact⟨t,Option.some.inj e⟩
   ·rintro c v _ _ own h17 gs17 tk17 hv ⟨ni,nn,i1,j1,k1,a1,a2,a3,ob,tr,kz,x17,x18,x19,rfl,rfl,hNT,hsum,hnl,hob⟩ hg17 S17 T hT
    have hcl:=lt_of_get hv
    have hkc:ks'[c]?=some (ks'[c]'(by rw [← hBT'.1];exact hcl)):=List.getElem?_eq_getElem _
    generalize ks'[c]'(by rw [← hBT'.1];exact hcl)=k2 at hkc
    refine oEEEEEEEA (hBT'.2 c k2 hkc) fun t dd i2 j2 ti tj tk e mm=>?_
    rw [hv] at e
    obtain rfl:v=.ref t:=Option.some.inj e
    have ht:h17.get? t=some (mob dd [.int i2 ti,.int j2 tj,.int (k2:Nat) tk]):=(S17.N (t,_) (.tail _ (.tail _ (.tail _ (mF _ (hob _ mm)))))).1
    have hts:(ks'.take (c+1)).sum=(ks'.take c).sum+k2:=by rw [take_succ_of hkc];simp
    refine asg3 S17 (by exact hA) (Dg.k.keeps S17.F.keep) ht v_gmb_i2 v_gmb_j2 v_gmb_k2 (nB rfl) (nB rfl) (nB rfl) fun h18 t18 S18=>?_
    replace S18:St (hideAll s.heap [d]) L h18 nm_gmb [some (.ref m),some (.int xs.length k3),some (.int ys.length k5),some (.ref h3.objs.size),some (.ref h5.objs.size),x5,x6,x7,x8,x9,x10,x11,x12,some (.int i1 a1),some (.int j1 a2),some (.int (k1:Nat) a3),some (.ref h14.objs.size),some (.int i2 ti),some (.int j2 tj),some (.int (k2:Nat) tk)] (((h14.objs.size,lob ni nn)::(h5.objs.size,lob bi' nb')::(d,od)::ob)++own):=S18
    refine exc (wpAny_If (wpAny_mono (Q:=fun _ s'=>∃ tk0,s'=⟨h18,gs17,s.drawn,tk0,s.os⟩) (E:=fun _ _=>False) ?_ (fun cb s' hs'=>?_) fun _ _ x=>x))
    ·refine isTrue_and (wC (wpAny_BinOp (ld_ S18 v_gmb_i1 rfl (ld_ S18 v_gmb_k1 rfl (add_ fun k19 t19=>ld_ S18 v_gmb_i2 rfl (PySem.P.eq_int (wT ?_)))))))
     split
     ·refine isTrue_and (wC (wpAny_BinOp (ld_ S18 v_gmb_j1 rfl (ld_ S18 v_gmb_k1 rfl (add_ fun k20 t20=>ld_ S18 v_gmb_j2 rfl (PySem.P.eq_int (wT ?_)))))))
      split
      ·exact isTrue_and_nil ⟨_,rfl⟩
      ·exact⟨_,rfl⟩
     ·exact⟨_,rfl⟩
    obtain⟨tk0,rfl⟩:=hs'
    cases cb with
    | true =>
     rw [if_pos rfl]
     refine exc (wpAny_AugAssign_Name (ldN_ S18 v_gmb_k1 rfl (ld_ S18 v_gmb_k2 rfl (iadd_ fun k21 t21=>st_ S18 v_gmb_k1 (nB rfl) fun h22 t22 S22=>exn (exn ?_)))))
     exact TN hT S22 hg17 ⟨ni,nn,i1,j1,k1+k2,a1,a2,k21,ob,tr,kz,_,_,_,rfl,rfl,hNT,by lia,by lia,hob⟩
    | false =>
     rw [if_neg (by decide)]
     refine join (GJ7 s m d xs ys od L tk k1 k3 k5 h3 h5 objs x5 x6 x7 x8 x9 x10 x11 x12 bi' nb' h14 c own gs17 i1 j1 a1 a2 a3 kz k2 i2 j2 ti tj) ?_ ?_
     ·intro I' hI
      refine wpAny_If (isTrue_plain (ld_ S18 v_gmb_k1 rfl (truthy_int ?_)))
      split
      ·refine exc (wpAny_Expr (MethodCall_ (ld_ S18 v_gmb_non_adjacent rfl (mL PySem.F.slot_list_append PySem.F.type_list_append (S18.get (j:=0) rfl) (callWith_method1 (arg_ (Tuple_ (arg_ (ld_ S18 v_gmb_i1 rfl (arg_ (ld_ S18 v_gmb_j1 rfl (arg_ (ld_ S18 v_gmb_k1 rfl (arg0 (newT S18 (by simp) fun h23 S23=>arg0 (append_ (j:=1) S23 rfl (by have:=hperm.length_eq;lia) fun h24 S24=>?_))))))))))))))))
       have S24':St (hideAll s.heap [d]) L h24 nm_gmb _ (((h14.objs.size,lob (ni++[Value.ref h18.objs.size]) (nn+1))::(h5.objs.size,lob bi' nb')::(d,od)::(h18.objs.size,tob [Value.int i1 a1,Value.int j1 a2,Value.int (k1:Nat) a3])::ob)++own):=S24.perm (pm4 (h18.objs.size,tob [Value.int i1 a1,Value.int j1 a2,Value.int (k1:Nat) a3]) (h14.objs.size,lob (ni++[Value.ref h18.objs.size]) (nn+1)) (h5.objs.size,lob bi' nb') (d,od) (ob++own))
       exact exn ⟨rfl,hI _ ⟨h24,_,ni++[Value.ref h18.objs.size],nn+1,_,_,_,rfl,S24',(hNT.mono fun p hp=>.tail _ hp).push (.head _),by simp,by simp;omega,fun p hp=>.tail _ (hob p hp)⟩⟩
      ·rename_i hz
       exact exn ⟨rfl,hI _ ⟨h18,_,ni,nn,ob,tr,kz,rfl,S18,hNT,by simp at hz;lia,by lia,hob⟩⟩
     ·rintro _ ⟨h25,tk25,ni',nn',ob',tr',kz',rfl,S25,hNT',hs',hl',hob'⟩
      refine exc (Assign_Tuple_swapped (names:=[ofString "i1",ofString "j1",ofString "k1"]) (Tuple_ (arg_ (ld_ S25 v_gmb_i2 rfl (arg_ (ld_ S25 v_gmb_j2 rfl (arg_ (ld_ S25 v_gmb_k2 rfl (arg0 ?_)))))))) (hw:=by kernel_rfl))
      refine tup3 S25 (by exact hA) v_gmb_i1 v_gmb_j1 v_gmb_k1 (nB rfl) (nB rfl) (nB rfl) fun h26 t26 S26=>exn (exn ?_)
      exact TN hT S26 hg17 ⟨ni',nn',i2,j2,k2,ti,tj,tk,ob',tr',kz',_,_,_,rfl,rfl,hNT',by lia,hl',hob'⟩
   ·rintro _ _ h17 gs17 tk17 ⟨ni,nn,i1,j1,k1,a1,a2,a3,ob,tr,kz,x17,x18,x19,rfl,rfl,hNT,hsum,hnl,hob⟩ hg17 S17
    rw [hBT'.1,List.take_length,hksum] at hsum
    exact⟨rfl,hI _ ⟨h17,gs17,tk17,ni,nn,i1,j1,k1,a1,a2,a3,ob,tr,kz,x17,x18,x19,rfl,hg17,S17,hNT,hsum,by have:=hperm.length_eq;lia⟩⟩
   ·exact⟨[],0,0,0,0,_,_,_,objs,[],[],_,_,_,rfl,rfl,NT.nil,by simp,by simp,fun p hp=>hp⟩
  ·rintro _ ⟨h17,gs17,tk17,ni,nn,i1,j1,k1,a1,a2,a3,ob,tr,kz,x17,x18,x19,rfl,hg17,S17,hNT,hsum,hnl⟩
   refine join (GJ8 s m d xs ys od L k1 k3 k5 h3 h5 ks x5 x6 x7 x8 x9 x10 x11 x12 bi' nb' h14 gs17 i1 j1 a1 a2 a3 x17 x18 x19) ?_ ?_
   ·intro I' hI
    refine wpAny_If (isTrue_plain (ld_ S17 v_gmb_k1 rfl (truthy_int ?_)))
    split
    ·refine exc (wpAny_Expr (MethodCall_ (ld_ S17 v_gmb_non_adjacent rfl (mL PySem.F.slot_list_append PySem.F.type_list_append (S17.get (j:=0) rfl) (callWith_method1 (arg_ (Tuple_ (arg_ (ld_ S17 v_gmb_i1 rfl (arg_ (ld_ S17 v_gmb_j1 rfl (arg_ (ld_ S17 v_gmb_k1 rfl (arg0 (newT S17 (by simp) fun h23 S23=>arg0 (append_ (j:=1) S23 rfl (by lia) fun h24 S24=>?_))))))))))))))))
     have S24':St (hideAll s.heap [d]) L h24 nm_gmb _ ((h14.objs.size,lob (ni++[Value.ref h17.objs.size]) (nn+1))::(h5.objs.size,lob bi' nb')::(d,od)::(h17.objs.size,tob [Value.int i1 a1,Value.int j1 a2,Value.int (k1:Nat) a3])::ob):=S24.perm (pm4 (h17.objs.size,tob [Value.int i1 a1,Value.int j1 a2,Value.int (k1:Nat) a3]) (h14.objs.size,lob (ni++[Value.ref h17.objs.size]) (nn+1)) (h5.objs.size,lob bi' nb') (d,od) ob)
     exact exn ⟨rfl,hI _ ⟨h24,_,ni++[Value.ref h17.objs.size],nn+1,_,_,_,rfl,S24',(hNT.mono fun p hp=>.tail _ hp).push (.head _),by simp;omega,by simp;omega⟩⟩
    ·rename_i hz
     exact exn ⟨rfl,hI _ ⟨h17,_,ni,nn,ob,tr,kz,rfl,S17,hNT,by simp at hz;lia,by lia⟩⟩
   rintro _ ⟨h25,tk25,ni',nn',ob',tr',kz',rfl,S25,hNT',hs',hl'⟩
   refine exc (wpAny_Expr (MethodCall_ (ld_ S25 v_gmb_non_adjacent rfl (mL PySem.F.slot_list_append PySem.F.type_list_append (S25.get (j:=0) rfl) (callWith_method1 (arg_ (Tuple_ (arg_ (ld_ S25 v_gmb_la rfl (arg_ (ld_ S25 v_gmb_lb rfl (arg_ (cInt fun k26 t26=>arg0 (newT S25 (by simp) fun h26 S26=>arg0 (append_ (j:=1) S26 rfl (by lia) fun h27 S27=>?_)))))))))))))))
   have S28:St (hideAll s.heap [d]) L h27 nm_gmb _ ((h14.objs.size,lob (ni'++[Value.ref h25.objs.size]) (nn'+1))::(h5.objs.size,lob bi' nb')::(d,od)::(h25.objs.size,tob [Value.int (xs.length:Nat) k3,Value.int (ys.length:Nat) k5,Value.int ((0:Nat):Int) k26])::ob'):=S27.perm (pm4 (h25.objs.size,tob [Value.int (xs.length:Nat) k3,Value.int (ys.length:Nat) k5,Value.int ((0:Nat):Int) k26]) (h14.objs.size,lob (ni'++[Value.ref h25.objs.size]) (nn'+1)) (h5.objs.size,lob bi' nb') (d,od) ob')
   have hNT2:=(hNT'.mono fun p hp=>List.Mem.tail (h25.objs.size,tob [Value.int (xs.length:Nat) k3,Value.int (ys.length:Nat) k5,Value.int ((0:Nat):Int) k26]) hp).push (.head _)
   generalize hob2:(h25.objs.size,tob [Value.int (xs.length:Nat) k3,Value.int (ys.length:Nat) k5,Value.int ((0:Nat):Int) k26])::ob'=ob2 at *
   generalize hni2:ni'++[Value.ref h25.objs.size]=ni2 at *
   have hl2:ni2.length≤202:=by rw [← hni2];simp;omega
   have hs2:(kz'++[0]).sum=ks.sum:=by simp [hs']
   refine exc (plainObj_wpAny_Assign_Attribute (Call_ (lb_ S28 Dg g_gmb_list (bn_list _) (cT1 (arg_ (Call_ (lb_ S28 Dg g_gmb_map (bn_map _) (cT1 (arg_ (at1 (lg_ S28 Dg g_gmb_Match (gn_Match _) (gMake S28 (Dg.k.keeps S28.F.keep) fun h29 t29 S29=>arg_ (ld_ S29 v_gmb_non_adjacent rfl (arg0 (newMap (items:=ni2) S29 (lob_list (S29.get (j:=1) rfl)) fun h30 S30=>arg0 ?_)))))))))))))))
   have S31:=S30.perm (List.perm_middle (l₁:=[_,_]) (a:=(h29.objs.size,lit h14.objs.size 0)))
   refine list_map (items:=ni2) (it:=h29.objs.size) (l:=h14.objs.size) Dg (by exact hA) (by show A.depth+1 < _;lia) hg17 (by lia) ⟨hNT2.len,fun c p hp=>let ⟨tv,e,mm⟩:=hNT2.at_ c p hp;⟨tv,e,.inr (.tail _ (.tail _ (.tail _ mm)))⟩⟩ (.inr (.head _)) ⟨rfl,rfl⟩ S31 fun h32 gs32 t32 acc cc new hg32 hacc hnew S32=>?_
   have S33:=S32.drop (mu':=([(h30.objs.size,lob acc cc)]++new)++(d,od)::ob2) (.cons_cons _ ((List.Sublist.refl new).append (.cons _ (.cons _ (List.Sublist.refl _)))))
   have S34:=S33.perm List.perm_middle
   refine ld_ S34 v_gmb_self rfl ?_
   refine setV (j:=0) S34 (Dg.k.keeps S34.F.keep) (pl _) (at_mb _).at (S34.old (old _ _ hm)) rfl I an_le (by lia) fun h35 t35 o35 I35 S35=>?_
   rw [putV_set (by lia)] at I35
   refine exc (wpAny_Return_some (at1 (ld_ S35 v_gmb_self rfl ?_)))
   have h4':(vs.set 4 (Value.ref h30.objs.size))[4]?=some (.ref h30.objs.size):=by simp [hlen]
   refine getV (Dg.k.keeps S35.F.keep) (pl _) (at_mb _).at (S35.old (old _ _ hm)) (S35.get (j:=0) rfl) I35 h4' rfl fun t36=>?_
   have hMB:MBs (R.and (([(h30.objs.size,lob acc cc)]++new)++ob2)) h30.objs.size xs ys:=by
    refine⟨acc,cc,kz'++[0],.inr (.head _),by rw [hacc,hNT2.len,hNT2.lk],fun c v k e1 e2=>?_,by rw [hs2];exact hQI.done,by rw [hacc];lia⟩
    obtain⟨p,hp⟩:∃ p,(tr'++[(Value.int (xs.length:Nat) k3,Value.int (ys.length:Nat) k5,Value.int ((0:Nat):Int) k26)])[c]?=some p:=⟨_,List.getElem?_eq_getElem (by rw [hNT2.lk];exact lt_of_get e2)⟩
    refine oEEA (hnew c p hp) fun t dd e3 mm=>?_
    refine oEEEEE (hNT2.sz c p k hp e2) ?_;rintro i j ti tj tk rfl
    rw [e1] at e3
    exact⟨t,dd,i,j,ti,tj,tk,Option.some.inj e3,.inr (mF _ (mR _ mm))⟩
   refine hPo _ _ (S35.mod (t:=0) hL (fun _=>hg32) rfl rfl rfl) ⟨h30.objs.size,_,o35,_,rfl,S35.get (j:=0) rfl,I35,St.fresh (s':=⟨h35,gs32,s.drawn,t36,s.os⟩) (mu:=[(d,o35)]) S35 rfl rfl,?_,hMB⟩
   have H':MS prog w (R.and (([(h30.objs.size,lob acc cc)]++new)++ob2)) vs (some (la,xs)) (some (lb,ys)):=H.mono fun b o e=>.inl e
   refine⟨by rw [List.getElem?_set_ne (by decide)];exact H'.isj,⟨by rw [List.getElem?_set_ne (by decide)];exact e1,H'.a.2⟩,?_,by rw [List.getElem?_set_ne (by decide)];exact H'.aj,.inr ⟨la,xs,lb,ys,_,rfl,rfl,h4',hMB⟩,by rw [List.getElem?_set_ne (by decide)];exact H'.bj,by simpa using hlen⟩
   have hb:=H'.b
   refine⟨by rw [List.getElem?_set_ne (by decide)];exact e2,hb.2.1,hyl,?_,?_⟩
   ·rw [List.getElem?_set_ne (by decide)];exact hb.2.2.2.1
   ·rw [List.getElem?_set_ne (by decide)];exact hb.2.2.2.2
end
end
section
open PySem.Builtin
theorem seq_no(P:Params):∀ n∈seqItemTypes,subIn (K P) (.ref 135) (.type n)=some false:=by
 have:seqItemTypes.all (fun n=>decide (subIn (K P) (.ref 135) (.type n)=some false))=true:=by kernel_rfl
 intro n hn
 simpa using List.all_eq_true.mp this n hn
section
variable{w:World}{A:Around}{E:Value→Shared→Prop}{s s':Shared}{h:Heap}{gs:Array GenState}{dr:Drawn}{tk:Nat}{os:OsState}{t dd:Addr}{items:List Value}{P:Params}
theorem any_no{M:Model}(X:(K P).In h):∀ l:List String,(∀ n∈l,subIn (K P) (.ref 135) (.type n)=some false)→Looks M h (l.anyM fun n=>isSubtype (.ref 135) (.type n)) false
 | [],_=>Looks.now
 | n::l,hl=>by
  rw [List.anyM_cons]
  refine(looks_subIn X (hl n (.head _))).andThen ?_
  exact any_no X l fun m hm=>hl m (.tail _ hm)
theorem m_getItem{x y z:Value}{k:Tok}{Q:Value→Shared→Prop}(X:(K P).In h)(ht:h.get? t=some (mob dd [x,y,z]))(q:∀ tk,Q z ⟨h,gs,dr,tk,os⟩):wpAny (model prog w) A (getItem (.ref t) (.int (-1) k)) Q E ⟨h,gs,dr,tk,os⟩:=by
 unfold getItem
 refine wpAny_holding (wB ?_)
 unfold sequenceKey
 refine wB ((m_type ht).at ?_)
 dsimp only
 refine wB ((any_no X seqItemTypes (seq_no P)).at ?_)
 refine wP ?_
 have run:wpAny (model prog w) A.in1 (Builtin.«tuple.__getitem__» ⟨[.ref t,.int (-1) k],[]⟩) (fun fin s'=>∃ v,fin=.done (.ret v)∧v=z∧s'=⟨h,gs,dr,tk,os⟩) E ⟨h,gs,dr,tk,os⟩:=by
  show wpAny _ _ (Builtin.Tuple.tupleItemsOf (.ref t) >>= _) _ _ _
  refine wB (wpAny_tupleItemsOf ht rfl ?_)
  refine wB (wpAny_of_eq (a:=.type "int") rfl ?_)
  rw [if_neg (by decide)]
  refine wB (wpAny_specialOf (T:="int") (typeIs_int _ _ _) (show typeLookup (.type "int") "__index__" = pure (some (.builtin "int.__index__")) by rw [typeLookup_type,builtinLookup_eq_fast];kernel_rfl) ?_)
  rw [if_neg (by decide)]
  refine wB (wpAny_of_eq (a:=(-1:Int)) rfl ?_)
  rw [if_neg (by decide)]
  exact wP ⟨_,rfl,rfl,rfl⟩
 refine wB (m_special (n:="__getitem__") X ht (mf_item P) (slot_tuple_getitem.bind _) (by decide +kernel) (by decide +kernel) (by decide +kernel) entry_tuple_getitem (args_tuple_getitem _ _) (wpAny_mono run (fun fin s' hf=>?_) fun _ _ x=>x))
 refine oEAA hf ?_;rintro v rfl rfl rfl
 exact⟨_,rfl,wP (q _)⟩
theorem m_last{value slice:Expr}{x y z:Value}{k:Tok}{Q:Value→Shared→Prop}(X:(K P).In h)(ht:h.get? t=some (mob dd [x,y,z]))(q:∀ tk,Q z ⟨h,gs,dr,tk,os⟩)
  (hs:subscripted slice false (.ref t) (.int (-1) k)=operate [.ref t,.int (-1) k] (getItem (.ref t) (.int (-1) k)):=by with_unfolding_all rfl):wpAny (model prog w) A (subscriptTail value slice (.ref t) (.int (-1) k)) Q E ⟨h,gs,dr,tk,os⟩:=by
 unfold subscriptTail
 refine wB ?_
 unfold getitemInPython
 refine wB ((m_spec X ht (mf_item P)).at (wP ?_))
 refine wB ?_
 rw [hs]
 exact wpAny_operate' (m_getItem X ht fun tk=>wB (wpAny_letTemporaryGo (wP (q tk))))
end
end
section
variable{h h' g:Heap}{L:Addr}{nm:List Str}{vs:List (Option Value)}{mu:List (Addr×Obj)}
theorem St.but1{j:Nat}{d:Addr}{o o':Obj}(S:St g L h nm vs mu)(keep:∀ b x,b≠d→h.get? b=some x→h'.get? b=some x)(hj:mu[j]?=some (d,o))(ho:h'.get? d=some o'):St g L h' nm vs (mu.set j (d,o')):=by
 have hlt:j < mu.length:=(List.getElem?_eq_some_iff.mp hj).1
 have hmem:(d,o)∈mu:=List.mem_of_getElem? hj
 have D:=S.N _ hmem
 refine oEEEA S.F.ns fun oL es ep hL r=>?_
 have hk:(mu.set j (d,o')).map (·.1)=mu.map (·.1):=by
  rw [List.map_set]
  apply List.ext_getElem?
  intro k
  rw [List.getElem?_set]
  split
  ·rename_i hjk;subst hjk;have e2:=(List.getElem?_eq_some_iff.mp hj).2;simp [hlt,e2]
  ·rfl
 refine⟨⟨⟨oL,es,ep,keep L oL (Ne.symm D.2.1) hL,r⟩,fun b x q=>keep b x (fun z=>?_) (S.F.keep b x q),S.F.above⟩,fun p hp=>?_,hk▸S.nd⟩
 ·have:=D.2.2;rw [← z,q] at this;cases this
 ·obtain⟨k,hk,e'⟩:=List.getElem_of_mem hp
  rw [List.getElem_set] at e'
  split at e'
  ·subst e';exact⟨ho,D.2⟩
  ·rename_i hne
   have hk':k < mu.length:=by simpa using hk
   have P:=S.N p (e'▸List.getElem_mem hk')
   refine⟨keep _ _ (fun z=>hne ?_) P.1,P.2⟩
   have h1:(mu.map (·.1))[j]?=some d:=by simp [hj]
   have h2:(mu.map (·.1))[k]?=some d:=by
    have:mu[k]?=some p:=by rw [List.getElem?_eq_getElem hk',e']
    simp [this,z]
   exact(List.getElem?_inj (by simpa using hlt) S.nd).mp (h1.trans h2.symm)
theorem St.moved{n:Nat}(S:St g L h nm vs mu)(hL:L < n)(hmu:∀ p∈mu,p.1 < n)(keep:∀ b o,b < n→h.get? b=some o→h'.get? b=some o):St g L h' nm vs mu:=by
 refine oEEEA S.F.ns fun oL es ep hoL r=>?_
 refine⟨⟨⟨oL,es,ep,keep L oL hL hoL,r⟩,fun b x q=>keep b x (Nat.lt_trans (Nat.lt_of_lt_of_le (Heap.lt_size q) S.F.above) hL) (S.F.keep b x q),S.F.above⟩,fun p hp=>?_,S.nd⟩
 have P:=S.N p hp
 exact⟨keep _ _ (hmu p hp) P.1,P.2⟩
end
theorem GM.le{a b:List Int}{alo ahi blo bhi m:Nat}(h:GM a b alo ahi blo bhi m):m≤ahi - alo∧m≤bhi - blo:=by
 induction h with
 | none _=>exact⟨Nat.zero_le _,Nat.zero_le _⟩
 | step B hk _ _ ih1 ih2 =>
  have e1:=Nat.add_le_of_le_sub B.blk.i0 ih1.1
  have e2:=Nat.add_le_of_le_sub B.blk.i1 ih2.1
  have e3:=Nat.add_le_of_le_sub B.blk.j0 ih1.2
  have e4:=Nat.add_le_of_le_sub B.blk.j1 ih2.2
  exact⟨Nat.le_sub_of_add_le (by(clear ih1 ih2 e3 e4;lia)),Nat.le_sub_of_add_le (by(clear ih1 ih2 e1 e2;lia))⟩
theorem preSum_ks(ks:List Nat):∀ n,preSum (fun j=>((ks.getD j 0:Nat):Int)) n=((ks.take n).sum:Nat)
 | 0=>by simp [preSum]
 | n+1=>by
  rw [preSum,preSum_ks ks n]
  by_cases h:n < ks.length
  ·rw [List.take_succ,List.sum_append,List.getD_eq_getElem?_getD,List.getElem?_eq_getElem h];simp
  ·rw [List.take_of_length_le (Nat.le_of_not_lt h),List.take_of_length_le (Nat.le_succ_of_le (Nat.le_of_not_lt h)),List.getD_eq_getElem?_getD,List.getElem?_eq_none (Nat.le_of_not_lt h)];simp
theorem sum_take_le(ks:List Nat)(n:Nat):(ks.take n).sum≤ks.sum:=by
 conv=>rhs;rw [← List.take_append_drop n ks]
 rw [List.sum_append];lia
theorem getD_le_sum(ks:List Nat)(n:Nat):ks.getD n 0≤ks.sum:=by
 by_cases h:n < ks.length
 ·rw [List.getD_eq_getElem?_getD,List.getElem?_eq_getElem h]
  have:=List.getElem_mem h
  induction ks generalizing n with
  | nil=>simp at h
  | cons k ks ih =>
   cases n with
   | zero=>simp
   | succ n =>
    have:=ih n (by simpa using h) (List.getElem_mem _)
    simp at this ⊢
    exact ntr ‹_› (by lia)
 ·rw [List.getD_eq_getElem?_getD,List.getElem?_eq_none (Nat.le_of_not_lt h)];simp
theorem passing_all(n:Nat):passing (fun _=>true) n 0=List.range n:=by
 unfold passing;simp
section
open PySem.Builtin
noncomputable def CodeTab(op:Obj):Prop:=∃ ps,op=⟨.none,none,.fields ps,#[]⟩∧TriplesOk ps.toList
section
variable{w:World}{A:Around}{E:Value→Shared→Prop}{s s':Shared}{mg mb:Str→Option Value}{G h g:Heap}{gs:Array GenState}{dr:Drawn}{tk:Nat}{os:OsState}{L a:Addr}{nm:List Str}{ls:List (Option Value)}{mu:List (Addr×Obj)}
theorem code_ratio{P:Params}{ps:Array Value}(X:(K P).In h)(ho:h.get? 220=some ⟨.none,none,.fields ps,#[]⟩)(ht:TriplesOk ps.toList):h.IsCode 224 220 ps∧h.TableAt 224 220 ps :=
 ⟨⟨o224 P,_,_,_,_,_,_,_,_,_,X 224 _ (by kernel_rfl),rfl,rfl,rfl,rfl,rfl,rfl,ho,rfl,ht,by decide⟩,⟨⟨o224 P,_,X 224 _ (by kernel_rfl),rfl,rfl,rfl⟩,ho⟩⟩
theorem gxCode{P:Params}{op:Obj}{env:Env}{pos:Pos}{qn:Str}{sc:Scope}{Q:Value→Shared→Prop}(X:(K P).In h)(ho:h.get? 220=some op)(hct:CodeTab op)(hc:env.code=.ref 224)
  (k:∀ code h' tk op',Heap.ExtBut 220 h h'→h'.get? 220=some op'→CodeTab op'→Q code ⟨h',gs,dr,tk,os⟩):wpAny (model prog w) A (genexprCode env pos qn sc) Q E ⟨h,gs,dr,tk,os⟩:=by
 refine oEA hct ?_;rintro ps rfl ht
 obtain⟨h1,h2⟩:=code_ratio X ho ht
 cases hf:codeAmong pos ps.toList with
 | some c'=>exact wpAny_genexprCode_hit (s:=⟨h,gs,dr,tk,os⟩) hc h1 hf (k _ h tk _ (fun _ _ _ e=>e) ho ⟨ps,rfl,ht⟩)
 | none =>
  refine wpAny_genexprCodeX (s:=⟨h,gs,dr,tk,os⟩) hc h1 h2 hf fun c' h' tk' hx _ _ hcode _ htab _=>?_
  obtain⟨_,_,_,_,_,_,_,_,_,op4,_,_,_,_,_,_,_,hop4,hpd4,htr4,_⟩:=hcode
  exact k _ h' tk' _ hx htab.2 ⟨_,rfl,htr4⟩
theorem inLong_nat{n:Nat}(h:n < 64):InLong (n:Int):=⟨by lia,by lia⟩
theorem ratio_spec{m d la lb:Addr}{vs:List Value}{xs ys:List Int}{R:Rel}{op:Obj}(X:Gr w mg mb G d A s 8)(hgs:AllBare s.gens)(M:MA w R m d vs (some (la,xs)) (some (lb,ys)) s)(hmin:xs.length < 64∨ys.length < 64)(hu:A.units+12 < cLine)(hz:xs.length+ys.length≠0)
  (hop:s.heap.get? 220=some op) (hct:CodeTab op) (hG:G.get? 220=none) (hd220:d≠220) (hR220:∀ b o,R b o→b≠220) :
  codeAny (model prog w) A (.call (.ref 225) ⟨[.ref m],[]⟩) (Ret [d,220] s fun v s'=>∃ tot:Nat,∃ k vs' o' op' new,v=.float (ratioF tot (xs.length+ys.length)) (k+1)∧k+1≤s'.toks∧GM xs ys 0 xs.length 0 ys.length tot∧s'.heap.get? d=some o'∧IV w.params an vs' o'∧s'.heap.get? 220=some op'∧CodeTab op'∧Fresh s s' new∧MS prog w (R.and new) vs' (some (la,xs)) (some (lb,ys))) s:=by
 refine oEA M.hd fun od hd I=>?_
 have H:=M.hS
 have hm:=M.hm
 have hR:=M.hR
 have hA:=X.hA
 have hdep:=X.dep
 refine enterP ps_ratio os_ratio [.ref m] [(d,od),(220,op)] (fn_ratio _) (X.D.keeps X.sub) (by lia) (b_ratio _ _ _) rfl p_ratio (nm:=nm_ratio) rfl (fun p hp=>by
  rcases mK hp with rfl | hp
  ·exact hd
  ·rw [mS hp];exact hop) (by simpa using hd220) ?_
 intro Po hPo L h₁ tk S hL
 refine exc (wpAny_Expr (cStr fun k1 t1=>?_))
 have Dg:Gd (K w.params) mg mb (hideAll s.heap [d,220]):=X.D.hide X.sub fun a ha=>by
  rcases mK ha with rfl | ha
  ·exact X.out
  ·rw [mS ha];exact hG
 replace S:St (hideAll s.heap [d,220]) L h₁ nm_ratio [some (.ref m),none] [(d,od),(220,op)]:=S
 have old:∀ b o,R b o→(hideAll s.heap [d,220]).get? b=some o:=fun b o e=>hideAll_get _ (hR _ _ e).1 (by simp;exact⟨(hR _ _ e).2,hR220 _ _ e⟩)
 refine exc (asgN (Call_ (lb_ S Dg g_ratio_sum (bn_sum _) (cB (arg_ (wpAny_GeneratorExp_walksQ (cl:=[]) (by exact hA) rfl rfl (by decide) rfl rfl rfl (by show A.depth+1 < _;lia) ?_ (fun x=>rfl)))))))
 refine MethodCall_ (ld_ S v_ratio_self rfl (methV (Dg.k.keeps S.F.keep) (pl _) (me_gmb _) (S.old (old _ _ hm)) (S.get (j:=0) rfl) I (cMn0 (fn_gmb _) (Dg.k.keeps S.F.keep) ?_)))
 have X1:Gr w mg mb G d (A.deeper (envOf (ofString "SequenceMatcher.ratio") sc_ratio L 225 (.ref 224))) ⟨h₁,s.gens,s.drawn,t1,s.os⟩ 6:=⟨X.D,fun b o e=>S.F.keep b o (hideAll_get _ (X.sub b o e) (fun mm=>by
  rcases mK mm with rfl | mm
  ·rw [X.out] at e;cases e
  ·rw [mS mm,hG] at e;cases e)),X.out,hA,by show A.depth+1+6 < _;(clear hL hA hd hd220 hG hop hz hu hmin;exact Nat.le_of_lt hdep)⟩
 refine callS (gmb_spec X1 hgs ⟨hm,⟨od,S.get (j:=0) rfl,I⟩,fun b o e=>⟨S.old (old _ _ e),(hR _ _ e).2⟩,H⟩ hmin (by show A.units+3+8 < _;exact Nat.le_of_lt hu)) fun v h2 gs2 t2 M2 hv=>?_
 refine oEEEEAAAAA hv ?_;rintro p vs2 o2 new rfl ho2 I2 F2 H2 hMB
 have S2:=S.callN (s:=⟨h₁,s.gens,s.drawn,t1,s.os⟩) (s':=⟨h2,gs2,s.drawn,t2,s.os⟩) (j:=0) M2 rfl ho2 F2
 refine oEEEAAAA hMB fun items n ks hp hlen hit hGM h500=>?_
 have known:∀ b o,(R.and new) b o→h2.get? b=some o:=fun b o hk=>hk.elim (fun e=>S2.old (old _ _ e)) fun mm=>F2.here _ mm
 refine wpAny_pyIter_list (s:=⟨h2,gs2,s.drawn,t2,s.os⟩) (lob_list (known _ _ hp)) ?_
 have S3:=S2.push { cls:=.type "list_iterator",data:=.fields #[.ref p,.int 0 0] }
 refine⟨(Dg.keeps S3.F.keep).lim,?_⟩
 refine gxCode (Dg.k.keeps S3.F.keep) (S3.get (j:=2) rfl) hct rfl fun code h4 t4 op4 hx hop4 hct4=>?_
 have S4:=(S3.but1 (j:=2) (fun b x hb e=>hx b x hb e) rfl hop4)
 have D4:=Dg.keeps S4.F.keep
 refine oEEAAAAA D4.mod fun bm obm b1 b2 b3 b4 b5 b6=>?_
 refine wpAny_builtinsFor (s:=⟨h4,gs2,s.drawn,t4,s.os⟩) D4.g b1 b2 b3 b4 b5 b6 ?_
 have hpI:p≠h2.objs.size:=Nat.ne_of_lt (Heap.lt_size (known _ _ hp))
 have hsz:∀ b o,h4.get? b=some o→b < h4.objs.size:=fun b o e=>Heap.lt_size e
 have hL2:L < h2.objs.size:=S2.F.ns.lt
 have hmu2:∀ q∈(d,o2)::(220,op)::new,q.1 < h2.objs.size:=fun q hq=>Heap.lt_size (S2.N q hq).1
 have known4:∀ b o,(R.and new) b o→h4.get? b=some o:=fun b o hk=>hk.elim (fun e=>S4.old (old _ _ e)) fun mm=>(S4.N _ (.tail _ (.tail _ (.tail _ mm)))).1
 have hp4:=known4 _ _ hp
 have hc4:cStatics < h2.objs.size:=let ⟨_,hn,_⟩:=(Dg.keeps S2.F.keep).lim;hn.lt
 have hI4:h2.objs.size < h4.objs.size:=hsz _ _ (S4.get (j:=0) rfl)
 refine⟨h2.objs.size,[h2.objs.size,p],[h2.objs.size],items.toArray.size,_,_,fun _=>true,fun i v=>∃ t,v=.int ((ks.getD i 0:Nat):Int) t,rfl,fun A' hA'=>Walks.list hA' _ _ hpI items.toArray,⟨⟨_,S4.get (j:=0) rfl,rfl,rfl⟩,lob_list hp4⟩,?_,D4.lim,?_,?_,?_⟩
 ·intro b hb
  rcases mK hb with rfl | hb
  ·exact hI4
  ·rw [mS hb];exact hsz _ _ hp4
 ·intro hm
  exact absurd (mS hm) (Nat.ne_of_lt hc4)
 ·intro href hhref
  refine⟨fun A' E' i v s₂ m₂ hA' hP hns hx' hfp=>wP ⟨rfl,s₂.heap,s₂.toks,rfl,fun _ _ e=>e⟩,fun A' E' i v s₂ m₂ hA' hP _ hns hx' hfp=>?_⟩
  have hi:items[i]?=some v:=by simpa using hP
  have hilt:i < ks.length:=hlen▸lt_of_get hi
  refine oEEEEEEEA (hit i v ks[i] hi (List.getElem?_eq_getElem hilt)) ?_;rintro t dd ii jj ti tj tkk rfl hR'
  obtain⟨hh5,gs5,dr5,tk5,os5⟩:=s₂
  have keep5:∀ b o,b≠h2.objs.size→h4.get? b=some o→hh5.get? b=some o:=fun b o hb e=>hfp b (List.mem_range.mpr (hsz _ _ e)) (fun mm=>hb (mS mm)) o (hhref _ _ e)
  have X5:(K w.params).In hh5:=fun b o e=>keep5 b o (Nat.ne_of_lt (Heap.lt_size (Dg.k.keeps S2.F.keep b o e))) (D4.k b o e)
  refine Subscript_ (wpAny_Name (wpAny_loadName_local rfl rfl hns hx' ?_) (by decide))
  refine wpAny_UnaryOp (cInt fun k6 t6=>neg_ fun k7 t7=>?_)
  refine m_last X5 (keep5 _ _ (Nat.ne_of_lt (Heap.lt_size (known _ _ hR'))) (known4 _ _ hR')) fun t8=>⟨⟨tkk,?_⟩,hh5,t8,rfl,fun _ _ e=>e⟩
  rw [List.getD_eq_getElem?_getD,List.getElem?_eq_getElem hilt];rfl
 ·intro a h5 t5 gs5 hbare hsa hsz5 keep5 W hst
  refine arg0 (call_sum_walkS ?_)
  have W4:=W.in4_1
  refine W4.self 0 _ _ _ hst ⟨a,_,_,_,_,_,_,fun j=>((ks.getD j 0:Nat):Int),rfl,W4,hst,?_,?_,?_,?_⟩
  ·intro b hb
   show b < h5.objs.size
   rw [hsz5]
   rcases mK hb with rfl | hb
   ·exact Nat.lt_succ_self _
   ·rcases mK hb with rfl | hb
    ·exact Nat.lt_succ_of_lt hsa
    ·exact Nat.lt_succ_of_lt (Nat.lt_trans (List.mem_range.mp hb) hsa)
  ·rintro i v ⟨i',hi',t,rfl⟩
   rw [passing_all] at hi'
   have hlt:=lt_of_get hi'
   rw [List.getElem?_eq_getElem hlt,List.getElem_range] at hi'
   cases hi'
   exact⟨t,rfl⟩
  ·intro j hj
   dsimp only
   rw [preSum_ks]
   have e1:=getD_le_sum ks j
   have e2:=sum_take_le ks (j+1)
   have e3:=hGM.le
   have e4:=hmin.elim (Nat.lt_of_le_of_lt e3.1) (Nat.lt_of_le_of_lt e3.2)
   exact⟨inLong_nat (Nat.lt_of_le_of_lt e1 e4),inLong_nat (Nat.lt_of_le_of_lt e2 e4)⟩
  ·rintro ⟨h6,gs6,dr6,tk6,os6⟩ t6 hmv
   obtain rfl:dr6=s.drawn:=hmv.drawn
   obtain rfl:os6=s.os:=hmv.os
   have hg6:AllBare gs6:=AllBare.movedS (AllBare.push (M2.gens hgs) hbare) hmv
   have keep6:∀ b o,b < h2.objs.size→h5.get? b=some o→h6.get? b=some o:=fun b o hb e=>hmv.heap b o (fun mm=>by
    rcases mK mm with rfl | mm
    ·exact absurd hb (Nat.not_lt.mpr (Nat.le_of_lt hI4))
    ·exact absurd hb (by rw [mS mm];exact Nat.lt_irrefl _)) e
   have S5:=(S4.drop (mu':=(d,o2)::(220,op4)::new) (List.sublist_cons_self _ _))
   have S6:=S5.moved (h':=h6) hL2 (fun q hq=>by
    rcases mK hq with rfl | hq
    ·exact hmu2 _ (.head _)
    ·rcases mK hq with rfl | hq
     ·exact hmu2 (220,op) (.tail _ (.head _))
     ·exact hmu2 _ (.tail _ (.tail _ hq))) (fun b o hb e=>keep6 b o hb (keep5 b o e))
   have hps:preSum (fun j=>((ks.getD j 0:Nat):Int)) (passing (fun _=>true) items.toArray.size 0).length=(ks.sum:Nat):=by
    rw [passing_all,List.length_range,List.size_toArray,hlen,preSum_ks,List.take_length]
   rw [hps]
   have kn6:∀ b o,(R.and new) b o→h6.get? b=some o:=fun b o hk=>hk.elim (fun e=>S6.old (old _ _ e)) fun mm=>(S6.N _ (.tail _ (.tail _ mm))).1
   refine oAA H2.a ?_;rintro e1 ⟨ia,na,hao,hai⟩ hxl
   refine oAAA H2.b ?_;rintro e2 ⟨ib,nb,hbo,hbi⟩ hyl _
   refine st_ S6 v_ratio_matches (nB rfl) fun h7 t7 S7=>?_
   refine exc (wpAny_Return_some (Call_ (lg_ S7 Dg g_ratio__calculate_ratio (gn_calc _) (cFn (fn_calc w.params) (arg_ (ld_ S7 v_ratio_matches rfl (arg_ (wpAny_BinOp (Call_ (lb_ S7 Dg g_ratio_len (bn_len _) (cB (arg_ (at1 (ld_ S7 v_ratio_self rfl ?_))))))))))))))
   have kn7:∀ b o,(R.and new) b o→h7.get? b=some o:=fun b o hk=>hk.elim (fun e=>S7.old (old _ _ e)) fun mm=>(S7.N _ (.tail _ (.tail _ mm))).1
   refine getV (Dg.k.keeps S7.F.keep) (pl _) (at_a _).at (S7.old (old _ _ hm)) (S7.get (j:=0) rfl) I2 e1 rfl fun t8=>?_
   refine arg0 (len_ (lob_list (kn7 _ _ hao)) (by rw [hai.length];lia) fun k9 t9=>?_)
   refine Call_ (lb_ S7 Dg g_ratio_len (bn_len _) (cB (arg_ (at1 (ld_ S7 v_ratio_self rfl ?_)))))
   refine getV (Dg.k.keeps S7.F.keep) (pl _) (at_b _).at (S7.old (old _ _ hm)) (S7.get (j:=0) rfl) I2 e2 rfl fun t10=>?_
   refine arg0 (len_ (lob_list (kn7 _ _ hbo)) (by rw [hbi.length];lia) fun k11 t11=>add_ fun k12 t12=>arg0 ⟨Dg.k.keeps S7.F.keep,?_⟩)
   rw [hai.length,hbi.length]
   have hle:=hGM.le
   refine callS (calc_spec (Dg.keeps S7.F.keep) (by show A.depth+1 < _;lia) (by lia) (by(clear hyl e2 e1 hps hsz5 hsa hbare hI4 hc4 hp4 hL2 hpI b6 b5 b4 b3 b2 b1 hop4 h500 hlen ho2 hL hdep hA hd hd220 hG hop hz hu hmin;(simp;lia))) (by(clear hle e2 e1 hps hsz5 hsa hbare hI4 hc4 hp4 hL2 hpI b6 b5 b4 b3 b2 b1 hop4 h500 hlen ho2 hL hdep hA hd hd220 hG hop hz hu hmin;omega))) fun v h13 gs13 t13 M13 hv=>?_
   refine oEA hv ?_;rintro k14 rfl ht14
   have S13:=S7.call0 (s:=⟨h7,gs6,s.drawn,t12,s.os⟩) (s':=⟨h13,gs13,s.drawn,t13,s.os⟩) M13
   refine hPo _ _ (S13.mod (t:=0) hL (fun _=>M13.gens hg6) rfl rfl rfl) ⟨ks.sum,k14,vs2,o2,op4,new,rfl,ht14,hGM,S13.get (j:=0) rfl,I2,S13.get (j:=1) rfl,hct4,St.fresh (s':=⟨h13,gs13,s.drawn,t13,s.os⟩) (mu:=[(d,o2),(220,op4)]) S13 rfl rfl,H2⟩
end
end
structure VE(e:Env)(nm:List Str)(x:Str)(i:Nat):Prop where
 fn:e.scope.kind=.function
 kind:e.kindOf x=some .local
 nd:nm.Nodup
 place:nm[i]?=some x
 dbg:(x == ("__debug__" : Str))=false
structure CE(e:Env)(x:Str)(c:Addr):Prop where
 fn:e.scope.kind=.function
 kind:e.kindOf x=some .cell
 at_:e.cells.lookup x=some c
 dbg:(x == ("__debug__" : Str))=false
structure GE(e:Env)(x:Str):Prop where
 fn:e.scope.kind=.function
 kind:e.kindOf x=some .globalImplicit
 glob:e.globals=mainGlobals
 bi:e.builtins=builtinsNs
 dbg:(x == ("__debug__" : Str))=false
noncomputable abbrev cob(v:Option Value):Obj:=⟨.type "cell",none,.cell v,#[]⟩
section
variable{prog:Program}{w:World}{A:Around}{E:Value→Shared→Prop}{h g:Heap}{gs:Array GenState}{dr:Drawn}{tk:Nat}{os:OsState}{L a:Addr}{nm:List Str}{ls:List (Option Value)}{mu own:List (Addr×Obj)}{q:Str}{sc:Scope}{cd:Value}{env:Env}{K:Frag}{mg mb:Str→Option Value}
theorem ldE{x:Str}{pos:Pos}{i:Nat}{v:Value}{Q:Value→Shared→Prop}(S:St g L h nm ls mu)(V:VE env nm x i)(hv:ls[i]?=some (some v))(k:Q v ⟨h,gs,dr,tk,os⟩)(hL:env.locals=L:=by rfl) :
  wpAny (model prog w) A (eval (.Name x pos) env) Q E ⟨h,gs,dr,tk,os⟩:=by
 subst hL
 exact wpAny_Name (wpAny_loadName_local V.fn V.kind S.F.ns (look_get V.nd V.place hv) k) V.dbg
theorem stE{x:Str}{i:Nat}{v:Value}{Q:Unit→Shared→Prop}(S:St g L h nm ls mu)(V:VE env nm x i)(hi:i < ls.length)
  (k:∀ h' tk,St g L h' nm (ls.set i (some v)) mu→Q () ⟨h',gs,dr,tk,os⟩) (hL:env.locals=L:=by rfl):wpAny (model prog w) A (storeName env x v) Q E ⟨h,gs,dr,tk,os⟩:=by
 subst hL
 refine wpAny_storeName_local V.kind S.F.ns (fun h' hn hs=>k h' _ ⟨look_set V.nd V.place hi v▸S.F.set hn hs,fun p hp=>?_,S.nd⟩) (by rw [V.fn];rfl)
 have P:=S.N p hp
 exact⟨(hs.2 _ P.2.1).trans P.1,P.2⟩
theorem ldC_{x:Str}{pos:Pos}{j:Nat}{c:Addr}{v:Value}{Q:Value→Shared→Prop}(S:St g L h nm ls mu)(V:CE env x c)(hj:mu[j]?=some (c,cob (some v)))(k:Q v ⟨h,gs,dr,tk,os⟩) :
  wpAny (model prog w) A (eval (.Name x pos) env) Q E ⟨h,gs,dr,tk,os⟩ :=
 wpAny_Name (wpAny_loadName_cell V.fn V.kind V.at_ ⟨_,S.get hj,rfl⟩ k) V.dbg
theorem stC_{x:Str}{j:Nat}{c:Addr}{v:Value}{v0:Option Value}{Q:Unit→Shared→Prop}(S:St g L h nm ls mu)(V:CE env x c)(hj:mu[j]?=some (c,cob v0))
  (k:∀ h',St g L h' nm ls (mu.set j (c,cob (some v)))→Q () ⟨h',gs,dr,tk,os⟩):wpAny (model prog w) A (storeName env x v) Q E ⟨h,gs,dr,tk,os⟩:=by
 delta storeName
 rw [V.kind,V.fn]
 refine wB (wpAny_cellOf V.at_ ?_)
 unfold cellSet
 refine wB (wpAny_load (s:=⟨h,gs,dr,tk,os⟩) (S.get hj) ?_)
 exact wpAny_update (s:=⟨h,gs,dr,tk,os⟩) (S.get hj) (k _ (S.upd (o':=cob (some v)) hj rfl))
theorem lgE{x:Str}{pos:Pos}{v:Value}{Q:Value→Shared→Prop}(S:St g L h nm ls mu)(D:Gd K mg mb g)(V:GE env x)(N:nsIn K mainGlobals x=some (some v))(k:Q v ⟨h,gs,dr,tk,os⟩) :
  wpAny (model prog w) A (eval (.Name x pos) env) Q E ⟨h,gs,dr,tk,os⟩ :=
 Calls.Name_function_global V.fn V.kind (Calls.loadGlobal_global (env:=env) (by rw [V.glob];exact D.g.keeps S.F.keep) (mg_of D.k D.g N) k) V.dbg
theorem lbE{x:Str}{pos:Pos}{v:Value}{Q:Value→Shared→Prop}(S:St g L h nm ls mu)(D:Gd K mg mb g)(V:GE env x)(N:BN K x v)(k:Q v ⟨h,gs,dr,tk,os⟩) :
  wpAny (model prog w) A (eval (.Name x pos) env) Q E ⟨h,gs,dr,tk,os⟩ :=
 Calls.Name_function_global V.fn V.kind (Calls.loadGlobal_builtin (env:=env) (by rw [V.glob];exact D.g.keeps S.F.keep) (mg_none_of D.k D.g N.no) (by rw [V.bi];exact D.b.keeps S.F.keep) ((D.blt x N.ne).trans N.boot) k) V.dbg
theorem asgE{x:Str}{np:Pos}{value:Expr}{pos:Pos}{Q:Flow→Shared→Prop}
  (k:wpAny (model prog w) A (eval value env) (fun v s₁=>wpAny (model prog w) A (storeName env x v) (fun _=>Q .next) E s₁) E ⟨h,gs,dr,tk,os⟩)
  (hs:swapsWith value (some (.Name x np)) pos.line env=pure false:=by rfl):wpAny (model prog w) A (exec (.Assign [.Name x np] value pos) env) Q E ⟨h,gs,dr,tk,os⟩ :=
 wpAny_Assign_Name k hs
end
noncomputable def led0(n:Nat):List (Str×NameKind)→List (Addr×Obj)
 | []=>[]
 | (_,kind)::r=>if kind == .cell then (n,cob none)::led0 (n+1) r else led0 n r
theorem led0_ge:∀ (names:List (Str×NameKind)) (n:Nat),∀ p∈led0 n names,n≤p.1
 | [],_,_,h=>nomatch h
 | (_,kind)::r,n,p,h=>by
  unfold led0 at h
  split at h
  ·rcases mK h with rfl | h
   ·exact Nat.le_refl _
   ·exact Nat.le_of_succ_le (led0_ge r (n+1) p h)
  ·exact led0_ge r n p h
theorem led0_nd:∀ (names:List (Str×NameKind)) (n:Nat),((led0 n names).map (·.1)).Nodup
 | [],_=>List.nodup_nil
 | (_,kind)::r,n=>by
  unfold led0
  split
  ·refine List.nodup_cons.mpr ⟨fun h=>?_,led0_nd r (n+1)⟩
   refine oEA (List.mem_map.mp h) fun p hp e=>?_
   have:=led0_ge r (n+1) p hp
   exact absurd e (Nat.ne_of_gt this)
  ·exact led0_nd r n
theorem led0_at:∀ (names:List (Str×NameKind)) (h:Heap),∀ p∈led0 h.objs.size names,(pushCells h names).get? p.1=some p.2
 | [],_,_,h=>nomatch h
 | (_,kind)::r,h,p,hp=>by
  unfold led0 at hp
  unfold pushCells
  split at hp
  ·rename_i hk
   rw [if_pos hk]
   rcases mK hp with rfl | hp
   ·exact pushCells_keeps r _ _ _ (Heap.get?_push_size _ rfl)
   ·rw [show h.objs.size+1=(h.push (cob none)).objs.size from(Heap.size_push ..).symm] at hp
    exact led0_at r (h.push (cob none)) p hp
  ·rename_i hk
   rw [if_neg hk]
   exact led0_at r h p hp
section
variable{prog:Program}{w:World}{A:Around}{E:Value→Shared→Prop}{h g:Heap}{gs:Array GenState}{dr:Drawn}{tk:Nat}{os:OsState}{L a:Addr}{nm:List Str}{ls:List (Option Value)}{mu own:List (Addr×Obj)}{q:Str}{sc:Scope}{cd:Value}{env:Env}{K:Frag}{mg mb:Str→Option Value}
noncomputable def bindAll(env:Env)(binds:List (Str×Value)):Sem PUnit:=forIn binds ⟨⟩ fun x _=>do storeName env x.1 x.2;pure (.yield ⟨⟩)
theorem ba_nil{Q:PUnit→Shared→Prop}(k:Q ⟨⟩ ⟨h,gs,dr,tk,os⟩):wpAny (model prog w) A (bindAll env []) Q E ⟨h,gs,dr,tk,os⟩:=by
 unfold bindAll;rw [List.forIn_nil];exact wP k
theorem ba_cons{x:Str}{v:Value}{r:List (Str×Value)}{Q:PUnit→Shared→Prop}{s:Shared}(k:wpAny (model prog w) A (storeName env x v) (fun _ s'=>wpAny (model prog w) A (bindAll env r) Q E s') E s) :
  wpAny (model prog w) A (bindAll env ((x,v)::r)) Q E s:=by
 unfold bindAll;rw [List.forIn_cons]
 exact wB (wB (wpAny_mono k (fun _ s' h'=>wP h') fun _ _ x=>x))
structure FnC(K:Frag)(f:Addr)(fd:FuncData)(qual:Str)(sc:Scope)(body:List Stmt)(cdv:Value):Prop where
 at_:∃ o,K.lookup f=some o∧o.data=.func fd
 q:fd.qualname=qual
 s:fd.scope=sc
 b:fd.body=.stmts body
 c:fd.code=cdv
 env:∀ L,callEnvC fd L f=envOfC qual sc L f cdv
 clo:fd.closure=[]
 rec_:codeIn K cdv qual=true
 co:sc.isCoroutine=false
 gen:sc.isGenerator=false
 kind:sc.kind=.function
theorem look_none:∀ nm:List Str,look nm (nm.map fun _=>none)=fun _=>none
 | []=>rfl
 | n::ns=>by
  funext x
  simp only [List.map_cons,look_c,look_none ns]
  split<;>rfl
theorem enterC{R:Result→Shared→Prop}{s:Shared}{f:Addr}{fd:FuncData}{qual:Str}{body:List Stmt}{cdv:Value}{args:Args}{binds:List (Str×Value)}(mu:List (Addr×Obj))
  (H:FnC K f fd qual sc body cdv) (D:Gd K mg mb s.heap) (hroom:A.depth < recursionLimit) (hbind:BindsTo s fd args binds)
  (hmu:∀ p∈mu,s.heap.get? p.1=some p.2) (nd:(mu.map (·.1)).Nodup) (nm:List Str)
  (h:∀ h₁,St (hideAll s.heap (mu.map (·.1))) s.heap.objs.size h₁ nm (nm.map fun _=>none) (led0 (s.heap.objs.size+1) sc.names++mu) →
   wpAny (model prog w) A.in1 (bindAll (envOfC qual sc s.heap.objs.size f cdv) binds) (fun _ s'=>Sub (hideAll s.heap (mu.map (·.1))) s'.heap ∧
    wpAny (model prog w) (A.deeper (envOfC qual sc s.heap.objs.size f cdv)) (execs body (envOfC qual sc s.heap.objs.size f cdv)) (fun fl s'=>R (.ok (.ret (match fl with | .ret v=>v | _=>.none))) s') (fun _ _=>False) s') (fun _ _=>False)
    { s with heap:=h₁ }) (hlimW:cStatics∉mu.map (·.1)):codeAny (model prog w) A (.call (.ref f) args) R s:=by
 obtain⟨⟨o,hl,ho⟩,hq,hs,hb,hc,henv,hclo,hrec,hco,hgen,hk⟩:=H
 subst hs hq hc
 refine codeAny_call_function hroom (D.k _ _ hl) ho hco hgen hb (codeRec_of D.k hrec) (hbind _ _ _ _ ?_)
 rw [hclo]
 simp only [newFunctionEnv,Option.isSome_none,Bool.false_eq_true,if_false]
 refine wB (wpAny_alloc ?_)
 refine wB (wpAny_layCells _ (fun name kind cells=>by cases hkc:kind == NameKind.cell<;>simp [hkc]) _ _ _ _ ?_)
 have e1:({ s with heap:=s.heap.push { cls:=.type "frame",data:=.dict #[] } }:Shared).heap.objs.size=s.heap.objs.size+1:=Heap.size_push ..
 rw [e1]
 have S:St (hideAll s.heap (mu.map (·.1))) s.heap.objs.size (pushCells (s.heap.push { cls:=.type "frame",data:=.dict #[] }) fd.scope.names) nm (nm.map fun _=>none) (led0 (s.heap.objs.size+1) fd.scope.names++mu):=by
  have hnew:∀ p∈led0 (s.heap.objs.size+1) fd.scope.names,s.heap.objs.size < p.1:=fun p hp=>led0_ge _ _ p hp
  refine⟨⟨?_,fun b o e=>pushCells_keeps _ _ b o (Heap.get?_push_of_some _ (of_hideAll _ e)),Nat.le_of_eq (hideAll_size _ _)⟩,fun p hp=>?_,?_⟩
  ·have:=(Heap.Ns.new s.heap (.type "frame")).keeps (pushCells_keeps fd.scope.names _)
   rw [look_none];exact this
  ·rcases List.mem_append.mp hp with hp | hp
   ·refine⟨led0_at _ _ p (by rw [Heap.size_push];exact hp),Nat.ne_of_gt (hnew p hp),?_⟩
    cases e:(hideAll s.heap (mu.map (·.1))).get? p.1 with
    | none=>rfl
    | some o'=>exact absurd (Heap.lt_size (of_hideAll _ e)) (Nat.not_lt.mpr (Nat.le_of_lt (hnew p hp)))
   ·exact⟨pushCells_keeps _ _ _ _ (Heap.get?_push_of_some _ (hmu p hp)),Nat.ne_of_lt (Heap.lt_size (hmu p hp)),hideAll_none _ (List.mem_map_of_mem hp)⟩
  ·rw [List.map_append,List.nodup_append]
   refine⟨led0_nd _ _,nd,fun a ha b hb e=>?_⟩
   refine oEA (List.mem_map.mp ha) ?_;rintro p hp rfl
   refine oEA (List.mem_map.mp hb) ?_;rintro p' hp' rfl
   have h1:=hnew p hp
   have h2:=Heap.lt_size (hmu p' hp')
   exact absurd e (Nat.ne_of_gt (Nat.lt_trans h2 h1))
 have lim:(hideAll s.heap (mu.map (·.1))).NoLimit:=by
  refine oEA D.lim fun m hn hm=>?_
  exact⟨m,hn.at' fun o e=>hideAll_get _ e hlimW,hm⟩
 have:=h _ S
 rw [← henv] at this
 refine wB (wpAny_mono (this:wpAny (model prog w) A.in1 (bindAll (callEnvC fd s.heap.objs.size f) binds) _ _ _) (fun _ s' hx=>wP ⟨lim.keeps hx.1,?_⟩) fun _ _ x=>x.elim)
 refine codeAny_func (wpAny_mono hx.2 (fun _ _ x=>x) fun _ _ x=>x.elim)
end
section
variable{prog:Program}{w:World}{A:Around}{E:Value→Shared→Prop}{h g:Heap}{gs:Array GenState}{dr:Drawn}{tk:Nat}{os:OsState}{L a:Addr}{nm:List Str}{ls:List (Option Value)}{mu own:List (Addr×Obj)}{env:Env}
theorem frame_on{Sx:Nat→Heap→Prop}{I:Addr}{fp wr:List Addr}{n:Nat}{P:Nat→Value→Prop}{J:List (Option Value)→List (Addr×Obj)→Prop}{J':List (Option Value)→List (Addr×Obj)→Prop}{h':Heap}{ls':List (Option Value)}{mu' own':List (Addr×Obj)}{i:Nat}
  (W:Walks prog w A I fp wr n P Sx) (hfp:∀ b∈fp,b∈own.map (·.1)∨(∃ o,g.get? b=some o)∨∃ o,(∀ ls mu,J ls mu→(b,o)∈mu)∧∀ ls mu,J' ls mu→(b,o)∈mu) (ho:own'.map (·.1)=own.map (·.1))
  (S:St g L h nm ls (mu++own')) (S':St g L h' nm ls' (mu'++own')) (hJ:J ls mu) (hJ':J' ls' mu') (hS:Sx i h):Sx i h' :=
 W.frame _ _ _ hS fun b hb o hbo=>by
  rcases hfp b hb with hm | ⟨o',hg⟩ | ⟨o',hj,hj'⟩
  ·rw [← ho] at hm
   refine oEA (List.mem_map.mp hm) ?_;rintro p hp rfl
   have e1:=(S.N p (mR _ hp)).1
   have e2:=(S'.N p (mR _ hp)).1
   rw [e1] at hbo
   rw [e2];exact hbo
  ·have e1:=S.F.keep b o' hg
   have e2:=S'.F.keep b o' hg
   rw [e1] at hbo
   rw [e2];exact hbo
  ·have e1:=(S.N _ (mF _ (hj _ _ hJ))).1
   have e2:=(S'.N _ (mF _ (hj' _ _ hJ'))).1
   rw [e1] at hbo
   rw [e2];exact hbo
theorem St.leftOwn{h':Heap}{wr:List Addr}(S:St g L h nm ls (mu++own))(hwr:∀ b∈wr,b∈own.map (·.1))(keep:∀ b o,b∉wr→h.get? b=some o→h'.get? b=some o):St g L h' nm ls mu:=by
 have off:∀ b,(∀ p∈own,p.1≠b)→b∉wr:=fun b hh m=>by
  refine oEA (List.mem_map.mp (hwr b m)) fun p hp e=>?_
  exact hh p hp e
 refine oEEEA S.F.ns fun oL es ep hL r=>?_
 have nd:=S.nd
 rw [List.map_append,List.nodup_append] at nd
 refine⟨⟨⟨oL,es,ep,keep L oL (off L fun p hp=>(S.N p (mR _ hp)).2.1) hL,r⟩,fun b o hb=>keep b o (off b fun p hp z=>?_) (S.F.keep b o hb),S.F.above⟩,fun p hp=>?_,nd.1⟩
 ·have:=(S.N p (mR _ hp)).2.2;rw [z,hb] at this;cases this
 ·have P:=S.N p (mF _ hp)
  exact⟨keep _ _ (off _ fun p' hp' z=>nd.2.2 _ (List.mem_map_of_mem hp) _ (List.mem_map_of_mem hp') z.symm) P.1,P.2⟩
theorem forG{target:Expr}{body:List Stmt}{I:Addr}{fp wr:List Addr}{n:Nat}{P:Nat→Value→Prop}{Sx:Nat→Heap→Prop}{R:Result→Shared→Prop}
  (J:Nat→List (Option Value)→List (Addr×Obj)→Prop) (W:Walks prog w A I fp wr n P Sx) (hfp:∀ b∈fp,b∈own.map (·.1)∨(∃ o,g.get? b=some o)∨∃ o,∀ i ls mu,J i ls mu→(b,o)∈mu) (hwr:∀ b∈wr,b∈own.map (·.1))
  (live:∀ i h,Sx i h→∀ b∈wr,∃ o,h.get? b=some o)
  (go:∀ i v (s:Shared) (Q:Unit→Shared→Prop) (E:Value→Shared→Prop),i < n→P i v→Sx (i+1) s.heap→Q () s→wpAny (model prog w) A (letOwnedTupleGo target (.ref I) v) Q E s)
  (turn:∀ i v ls mu own' h gs tk,i < n→P i v→J i ls mu→own'.map (·.1)=own.map (·.1)→AllBare gs→St g L h nm ls (mu++own') →
   ∀ T:Flow→Shared→Prop,(∀ f s',Turn g L nm own' dr os (J (i+1)) R f s'→T f s')→wpAny (model prog w) A (assign target env v) (fun _ s₁=>wpAny (model prog w) A (execs body env) T (fun _ _=>False) s₁) (fun _ _=>False) ⟨h,gs,dr,tk,os⟩)
  (done:∀ ls mu h gs tk,J n ls mu→AllBare gs→St g L h nm ls mu→R (.ok .next) ⟨h,gs,dr,tk,os⟩)
  (hJ:J 0 ls mu) (S:St g L h nm ls (mu++own)) (hS:Sx 0 h) (hgs:AllBare gs) :
  codeAny (model prog w) A (.forLoop target (.ref I) body [] env) R ⟨h,gs,dr,tk,os⟩:=by
 refine codeAny_forLoop_any (LpJ1 g dr os L nm own n Sx J) ?_ n ⟨0,ls,mu,own,h,gs,tk,by lia,Nat.zero_le _,rfl,hJ,rfl,hgs,S,hS⟩
 rintro k s ⟨i,ls,mu,own',h,gs,tk,rfl,hi,rfl,hJ,ho,hgs,S,hS⟩
 rcases Nat.lt_or_ge i n with hlt | hge
 ·refine W.item i _ _ _ hlt hS fun v h' tk' hP hS' keep=>?_
  refine oEA (S.turn (wr:=wr) (by rw [ho];exact hwr) keep (live _ _ hS')) fun own'' e S'=>?_
  refine go i v _ _ _ hlt hP hS' ?_
  refine wpAny_mono (turn i v ls mu own'' h' gs tk' hlt hP hJ (e.trans ho) hgs S' _ fun _ _ h=>h) (fun _ s₁ h₁=>?_) fun _ _ x=>x.elim
  refine wpAny_mono h₁ (fun f s' hf=>?_) fun _ _ x=>x.elim
  have fin:(∃ ls' mu' h' gs' tk',s'=⟨h',gs',dr,tk',os⟩∧AllBare gs'∧St g L h' nm ls' (mu'++own'')∧J (i+1) ls' mu')→∃ m,m < n - i∧LpJ1 g dr os L nm own n Sx J m s':=by
   rintro ⟨ls',mu',h3,gs',tk3,rfl,hg3,S3,hJ3⟩
   refine⟨n - (i+1),by exact Nat.sub_lt_sub_left (by lia) (by lia),i+1,ls',mu',own'',h3,gs',tk3,rfl,hlt,rfl,hJ3,e.trans ho,hg3,S3,frame_on (own:=own) (J:=J i) (J':=J (i+1)) W (fun b hb=>?_) (e.trans ho) S' S3 hJ hJ3 hS'⟩
   rcases hfp b hb with x | x | ⟨o,x⟩
   ·exact .inl x
   ·exact .inr (.inl x)
   ·exact .inr (.inr ⟨o,x i,x (i+1)⟩)
  cases f with
  | next=>exact fin hf
  | cont=>exact fin hf
  | brk=>exact hf
  | ret v=>exact hf
 ·obtain rfl:i=n:=by lia
  refine W.done _ _ _ hS fun h' tk' keep=>wP (done ls mu h' gs tk' hJ hgs (S.leftOwn (by rw [ho];exact hwr) keep))
theorem forLE{target:Expr}{body:List Stmt}{l:Addr}{items:List Value}{R:Result→Shared→Prop}(J:Nat→List (Option Value)→List (Addr×Obj)→Prop)(S:St g L h nm ls mu)(hh:A.handled=none)(hgs:AllBare gs)
  (hl:h.IsList l items.toArray) (hb:(∃ o,g.get? l=some o)∨∃ o,∀ i ls mu,J i ls mu→(l,o)∈mu)
  (turn:∀ i v ls mu own h gs tk,items[i]?=some v→J i ls mu→AllBare gs→St g L h nm ls (mu++own) →
   ∀ T:Flow→Shared→Prop,(∀ f s',Turn g L nm own dr os (J (i+1)) R f s'→T f s')→wpAny (model prog w) A (assign target env v) (fun _ s₁=>wpAny (model prog w) A (execs body env) T (fun _ _=>False) s₁) (fun _ _=>False) ⟨h,gs,dr,tk,os⟩)
  (done:∀ ls mu h gs tk,J items.length ls mu→AllBare gs→St g L h nm ls mu→R (.ok .next) ⟨h,gs,dr,tk,os⟩) (hJ:J 0 ls mu)
  (go:(∀ it v,letOwnedTupleGo target it v=pure ())∨(∃ elts kk tp,target=.Tuple elts kk tp)∧∀ v∈items,∃ T,v=.ref T:=by exact .inl fun _ _=>rfl) :
  wpAny (model prog w) A (pyIter (.ref l)) (fun it s₂=>codeAny (model prog w) A (.forLoop target it body [] env) R s₂) E ⟨h,gs,dr,tk,os⟩:=by
 refine wpAny_pyIter_list (s:=⟨h,gs,dr,tk,os⟩) hl ?_
 have hlt:l < h.objs.size:=by refine oEA hl fun o ho _=>?_;exact Heap.lt_size ho
 have W:=Walks.list (prog:=prog) (w:=w) hh h.objs.size l (Nat.ne_of_lt hlt) items.toArray
 refine forG (own:=[(h.objs.size,_)]) J W ?_ (fun b hb=>by simpa using hb) ?_ ?_ ?_ ?_ hJ (S.push _).last ⟨⟨_,Heap.get?_push_size _ rfl,rfl,rfl⟩,hl.at fun o e=>Heap.get?_push_of_some _ e⟩ hgs
 ·intro b hb'
  rcases mK hb' with rfl | hb'
  ·exact .inl (by simp)
  ·rw [mS hb'];exact .inr hb
 ·rintro i h' ⟨⟨o,ho,_⟩,_⟩ b hb
  rw [mS hb];exact⟨o,ho⟩
 ·rintro i v s Q E hi hP hS hq
  rcases go with go | go
  ·rw [go];exact wP hq
  ·obtain⟨⟨elts,kk,tp,rfl⟩,go⟩:=go
   obtain⟨T,rfl⟩:=go v (List.mem_of_getElem? (show items[i]?=some v by simpa using hP))
   exact wpAny_letOwnedTupleGo_listiter hS.1 hq
 ·intro i v ls mu own' h' gs' tk' hi hP hJ' _ hg' S'
  exact turn i v ls mu own' h' gs' tk' (by simpa using hP) hJ' hg' S'
 ·intro ls mu h' gs' tk' hJ' hg' S'
  exact done ls mu h' gs' tk' (by simpa using hJ') hg' S'
theorem forRE{target:Expr}{body:List Stmt}{r:Addr}{lo hi:Int}{n:Nat}{t u v:Tok}{R:Result→Shared→Prop}(J:Nat→List (Option Value)→List (Addr×Obj)→Prop)(S:St g L h nm ls mu)(hh:A.handled=none)(hgs:AllBare gs)
  (hr:IsRange h r lo hi 1 t u v) (hn:(n:Int)=if lo < hi then hi - lo else 0) (hlo:lo.natAbs < 2 ^ 32) (hhi:hi.natAbs < 2 ^ 32)
  (turn:∀ (i:Nat) k ls mu own h gs tk,i < n→J i ls mu→AllBare gs→St g L h nm ls (mu++own) →
   ∀ T:Flow→Shared→Prop,(∀ f s',Turn g L nm own dr os (J (i+1)) R f s'→T f s')→wpAny (model prog w) A (assign target env (.int (lo+i) k)) (fun _ s₁=>wpAny (model prog w) A (execs body env) T (fun _ _=>False) s₁) (fun _ _=>False) ⟨h,gs,dr,tk,os⟩)
  (done:∀ ls mu h gs tk,J n ls mu→AllBare gs→St g L h nm ls mu→R (.ok .next) ⟨h,gs,dr,tk,os⟩) (hJ:J 0 ls mu) (go:∀ it v,letOwnedTupleGo target it v=pure ():=by exact fun _ _=>rfl) :
  wpAny (model prog w) A (pyIter (.ref r)) (fun it s₂=>codeAny (model prog w) A (.forLoop target it body [] env) R s₂) E ⟨h,gs,dr,tk,os⟩:=by
 have hsz:Builtin.Range.rangeSize lo hi 1=(n:Int):=by rw [rangeSize_one,hn]
 have hsmall:=small_range hn hlo hhi
 refine wpAny_pyIter_range (s:=⟨h,gs,dr,tk,os⟩) hr hsmall ?_
 have W:=Walks.range (prog:=prog) (w:=w) hh h.objs.size lo 1 n
 refine forG (own:=[(h.objs.size,_)]) J W ?_ (fun b hb=>by simpa using hb) ?_ ?_ ?_ done hJ (S.push _).last ?_ hgs
 ·intro b hb'
  exact .inl (by simpa using hb')
 ·intro i h' hx b hb
  rw [mS hb];exact⟨_,hx⟩
 ·rintro i v s Q E hi hP hS hq
  rw [go];exact wP hq
 ·rintro i v ls mu own' h' gs' tk' hi ⟨k,rfl⟩ hJ' _ hg' S'
  rw [Int.mul_one]
  exact turn i k ls mu own' h' gs' tk' hi hJ' hg' S'
 ·have:=Heap.get?_push_size h (o:={ cls:=.type "range_iterator",data:=.fields #[rawInt lo,rawInt (Builtin.Range.rangeSize lo hi 1),rawInt 1] }) rfl
  rw [hsz] at this
  simpa [IsRangeIter,hsz] using this
theorem forR1E{target:Expr}{body:List Stmt}{n:Nat}{u:Tok}{R:Result→Shared→Prop}(J:Nat→List (Option Value)→List (Addr×Obj)→Prop)(S:St g L h nm ls mu)(hh:A.handled=none)(hgs:AllBare gs)
  (hhi:n < 2 ^ 32)
  (turn:∀ (i:Nat) k ls mu own h gs tk,i < n→J i ls mu→AllBare gs→St g L h nm ls (mu++own) →
   ∀ T:Flow→Shared→Prop,(∀ f s',Turn g L nm own dr os (J (i+1)) R f s'→T f s')→wpAny (model prog w) A (assign target env (.int i k)) (fun _ s₁=>wpAny (model prog w) A (execs body env) T (fun _ _=>False) s₁) (fun _ _=>False) ⟨h,gs,dr,tk,os⟩)
  (done:∀ ls mu h gs tk,J n ls mu→AllBare gs→St g L h nm ls mu→R (.ok .next) ⟨h,gs,dr,tk,os⟩) (hJ:J 0 ls mu) (go:∀ it v,letOwnedTupleGo target it v=pure ():=by exact fun _ _=>rfl) :
  wpAny (model prog w) A (call (.type "range") [.int n u]) (fun it0 s₁=>wpAny (model prog w) A (pyIter it0) (fun it s₂=>codeAny (model prog w) A (.forLoop target it body [] env) R s₂) E s₁) E ⟨h,gs,dr,tk,os⟩:=by
 refine call_range_1 (s:=⟨h,gs,dr,tk,os⟩) ?_
 refine forRE (n:=n) J ((S.push _).drop (List.sublist_cons_self _ _)) hh hgs (IsRange.new h 0 n 1 tk u (tk+1)) (by split<;>lia) (by decide) (by assumption) (fun i k ls mu own h gs tk hi hJ hg S=>?_) done hJ go
 rw [Int.zero_add]
 exact turn i k ls mu own h gs tk hi hJ hg S
end
section
variable{prog:Program}{w:World}{A:Around}{E:Value→Shared→Prop}{h g:Heap}{gs:Array GenState}{dr:Drawn}{tk:Nat}{os:OsState}{L a:Addr}{nm:List Str}{ls:List (Option Value)}{mu own:List (Addr×Obj)}{env:Env}
theorem St.leave{h0 h':Heap}{C:Addr}{nmc:List Str}{lsc:List (Option Value)}{mu0 mu':List (Addr×Obj)}(S0:St g L h0 nm ls mu0)(S':St (hideAll h0 (mu0.map (·.1))) C h' nmc lsc mu')(hC:h0.objs.size≤C) :
  ∃ oC,St g L h' nm ls ((C,oC)::mu')∧∀ h3:Heap,h3.get? C=some oC→∃ m,h3.Ns C m:=by
 refine oEEEA S0.F.ns fun oL es ep hL r=>?_
 refine oEEEA S'.F.ns fun oC es' ep' hC' r'=>?_
 have hL':(hideAll h0 (mu0.map (·.1))).get? L=some oL:=hideAll_get _ hL fun m=>by
  refine oEA (List.mem_map.mp m) fun p hp e=>?_
  exact(S0.N p hp).2.1 e
 have hb:∀ b o,g.get? b=some o→(hideAll h0 (mu0.map (·.1))).get? b=some o:=fun b o e=>hideAll_get _ (S0.F.keep b o e) fun m=>by
  refine oEA (List.mem_map.mp m) fun p hp e'=>?_
  have:=(S0.N p hp).2.2
  rw [e',e] at this;cases this
 have hlt:L < h0.objs.size:=Heap.lt_size hL
 refine⟨oC,⟨⟨⟨oL,es,ep,S'.F.keep _ _ hL',r⟩,fun b o e=>S'.F.keep _ _ (hb b o e),S0.F.above⟩,fun p hp=>?_,?_⟩,fun h3 e=>⟨_,oC,es',ep',e,r'⟩⟩
 ·rcases mK hp with rfl | hp
  ·refine⟨hC',Nat.ne_of_gt (Nat.lt_of_lt_of_le hlt hC),?_⟩
   cases e:g.get? C with
   | none=>rfl
   | some o=>exact absurd (Heap.lt_size (S0.F.keep _ _ e)) (Nat.not_lt.mpr hC)
  ·have P:=S'.N p hp
   refine⟨P.1,fun e=>?_,?_⟩
   ·have:=P.2.2
    rw [e,hL'] at this;cases this
   ·cases e:g.get? p.1 with
    | none=>rfl
    | some o=>have:=P.2.2;rw [hb _ _ e] at this;cases this
 ·refine List.nodup_cons.mpr ⟨fun m=>?_,S'.nd⟩
  refine oEA (List.mem_map.mp m) fun p hp e=>?_
  exact(S'.N p hp).2.1 e
theorem St.forget{h':Heap}{C:Addr}{o:Obj}(S:St g L h nm ls ((C,o)::mu))(hs:Heap.SameBut C h h'):St g L h' nm ls mu:=by
 refine oEEEA S.F.ns fun oL es ep hL r=>?_
 have P:=S.N _ (.head _)
 have nd:=List.nodup_cons.mp S.nd
 refine⟨⟨⟨oL,es,ep,(hs.2 _ (Ne.symm P.2.1)).trans hL,r⟩,fun b x e=>(hs.2 _ fun z=>?_).trans (S.F.keep b x e),S.F.above⟩,fun p hp=>?_,nd.2⟩
 ·have:=P.2.2;rw [← z,e] at this;cases this
 ·have Q:=S.N p (.tail _ hp)
  exact⟨(hs.2 _ fun z=>nd.1 (List.mem_map.mpr ⟨p,hp,z⟩)).trans Q.1,Q.2⟩
inductive CT(g:Heap)(C D:Addr)(nm:List Str)(own:List (Addr×Obj))(dr:Drawn)(os:OsState)(J:List Value→List (Option Value)→List (Addr×Obj)→Prop)(ys:List Value)(m:Nat)(s':Shared):Prop
 | mk (ls' mu' h' gs' tk') (q0:s'=⟨h',gs',dr,tk',os⟩) (q1:AllBare gs') (q2:St g C h' nm ls' ((D,lob ys m)::mu'++own)) (q3:J ys ls' mu'):CT g C D nm own dr os J ys m s'
inductive CE1(g:Heap)(C D:Addr)(nm:List Str)(own:List (Addr×Obj))(dr:Drawn)(os:OsState)(J:List Value→List (Option Value)→List (Addr×Obj)→Prop)(ys:List Value)(m:Nat)(v:Value)(s':Shared):Prop
 | mk (ls' mu' h' gs' tk') (q0:s'=⟨h',gs',dr,tk',os⟩) (q1:AllBare gs') (q2:St g C h' nm ls' ((D,lob ys m)::mu'++own)) (q3:J (ys++[v]) ls' mu'):CE1 g C D nm own dr os J ys m v s'
inductive CTt(g:Heap)(C D:Addr)(nm:List Str)(own:List (Addr×Obj))(dr:Drawn)(os:OsState)(J:List Value→List (Option Value)→List (Addr×Obj)→Nat→Prop)(ys:List Value)(m:Nat)(s':Shared):Prop
 | mk (ls' mu' h' gs' tk') (q0:s'=⟨h',gs',dr,tk',os⟩) (q1:AllBare gs') (q2:St g C h' nm ls' ((D,lob ys m)::mu'++own)) (q3:J ys ls' mu' tk'):CTt g C D nm own dr os J ys m s'
inductive CE1t(g:Heap)(C D:Addr)(nm:List Str)(own:List (Addr×Obj))(dr:Drawn)(os:OsState)(J:List Value→List (Option Value)→List (Addr×Obj)→Nat→Prop)(ys:List Value)(m:Nat)(v:Value)(s':Shared):Prop
 | mk (ls' mu' h' gs' tk') (q0:s'=⟨h',gs',dr,tk',os⟩) (q1:AllBare gs') (q2:St g C h' nm ls' ((D,lob ys m)::mu'++own)) (q3:J (ys++[v]) ls' mu' tk'):CE1t g C D nm own dr os J ys m v s'
inductive CmJ1(g:Heap)(dr:Drawn)(os:OsState)(own:List (Addr×Obj))(D:Addr)(C:Addr)(n:Nat)(Sx:Nat→Heap→Prop)(nmc:List Str)(J:Nat→List Value→List (Option Value)→List (Addr×Obj)→Nat→Prop)(k:Nat)(s:Shared):Prop
 | mk (i ys m ls mu own' h gs tk) (q1:k=n - i) (q2:i≤n) (q3:s=⟨h,gs,dr,tk,os⟩) (q4:J i ys ls mu tk) (q5:ys.length≤i) (q6:own'.map (·.1)=own.map (·.1)) (q7:AllBare gs) (q8:St g C h nmc ls ((D,lob ys m)::mu++own')) (q9:Sx i h):CmJ1 g dr os own D C n Sx nmc J k s
theorem compLoopGt{elt target iter:Expr}{ifs:List Expr}{scope:Scope}{pos:Pos}{I D C:Addr}{fp wr:List Addr}{n:Nat}{P:Nat→Value→Prop}{Sx:Nat→Heap→Prop}{R:Result→Shared→Prop}{nmc:List Str}{lsc:List (Option Value)}{m:Nat}
  (J:Nat→List Value→List (Option Value)→List (Addr×Obj)→Nat→Prop) (hm:∀ i ys ls mu t t',t≤t'→J i ys ls mu t→J i ys ls mu t') (W:Walks prog w A I fp wr n P Sx) (hfp:∀ b∈fp,b∈own.map (·.1)∨(∃ o,g.get? b=some o)∨∃ o,∀ i ys ls mu t,J i ys ls mu t→(b,o)∈mu) (hwr:∀ b∈wr,b∈own.map (·.1))
  (live:∀ i h,Sx i h→∀ b∈wr,∃ o,h.get? b=some o) (hn:n≤1000)
  (turn:∀ i v ys m ls mu own' h gs tk,i < n→P i v→J i ys ls mu tk→ys.length≤i→own'.map (·.1)=own.map (·.1)→AllBare gs→St g C h nmc ls ((D,lob ys m)::mu++own') →
   ∀ (T1:Value→Shared→Prop) (T0:Shared→Prop),(∀ x s',CE1t g C D nmc own' dr os (J (i+1)) ys m x s'→T1 x s')→(∀ s',CTt g C D nmc own' dr os (J (i+1)) ys m s'→T0 s')→wpAny (model prog w) A (assign target env v) (fun _ s₂=>wpAny (model prog w) A (forIn ifs true fun c r=>if r=true then do let ok ← isTrue c env (eval c env);pure (ForInStep.yield ok) else pure (ForInStep.yield r)) (fun ok s₃ =>
    if ok=true then wpAny (model prog w) A (eval elt env) T1 (fun _ _=>False) s₃ else T0 s₃) (fun _ _=>False) s₂) (fun _ _=>False) ⟨h,gs,dr,tk,os⟩)
  (done:∀ ys m ls mu h gs tk,J n ys ls mu tk→ys.length≤n→AllBare gs→St g C h nmc ls ((D,lob ys m)::mu)→R (.ok .next) ⟨h,gs,dr,tk,os⟩)
  (hJ:J 0 [] lsc mu tk) (S:St g C h nmc lsc ((D,lob [] m)::mu++own)) (hS:Sx 0 h) (hgs:AllBare gs) (ht:∀ it v,letOwnedTupleGo target it v=pure ():=by exact fun _ _=>rfl) :
  codeAny (model prog w) A (.compLoop (.ListComp elt [⟨target,iter,ifs,0⟩] scope pos) 0 (.ref I) (.ref D) env) R ⟨h,gs,dr,tk,os⟩:=by
 refine codeAny_compLoop_tests (CmJ1 g dr os own D C n Sx nmc J) ?_ n
  ⟨0,[],m,lsc,mu,own,h,gs,tk,by lia,Nat.zero_le _,rfl,hJ,Nat.le_refl _,rfl,hgs,S,hS⟩ (ht _)
 rintro k s ⟨i,ys,m,ls,mu,own',h,gs,tk,rfl,hi,rfl,hJ,hlen,ho,hgs,S,hS⟩
 rcases Nat.lt_or_ge i n with hlt | hge
 ·refine wpAny_with_toks (n:=tk) (Nat.le_refl _) (W.item i _ _ _ hlt hS fun v h' tk' hP hS' keep htk=>?_)
  replace hJ:=hm _ _ _ _ _ _ htk hJ
  have S1:St g C h nmc ls (((D,lob ys m)::mu)++own'):=S
  refine oEA (S1.turn (wr:=wr) (by rw [ho];exact hwr) keep (live _ _ hS')) fun own'' e S'=>?_
  refine wpAny_mono (turn i v ys m ls mu own'' h' gs tk' hlt hP hJ hlen (e.trans ho) hgs S' _ _ (fun _ _ h=>h) fun _ h=>h) (fun _ s₂ h₂=>?_) fun _ _ x=>x.elim
  refine wpAny_mono h₂ (fun ok s₃ h₃=>?_) fun _ _ x=>x.elim
  have fin:∀ ys' m' ls' mu' h3 gs' tk3,ys'.length≤i+1→AllBare gs'→St g C h3 nmc ls' ((D,lob ys' m')::mu'++own'')→J (i+1) ys' ls' mu' tk3→∃ q,q < n - i∧CmJ1 g dr os own D C n Sx nmc J q ⟨h3,gs',dr,tk3,os⟩:=by
   intro ys' m' ls' mu' h3 gs' tk3 hl' hg3 S3 hJ3
   refine⟨n - (i+1),by(clear hl' e ho hlen hi hn;exact Nat.sub_lt_sub_left (by lia) (by lia)),i+1,ys',m',ls',mu',own'',h3,gs',tk3,rfl,hlt,rfl,hJ3,hl',e.trans ho,hg3,S3,frame_on (own:=own) (J:=fun ls mu=>∃ mu2,mu=(D,lob ys m)::mu2∧∃ t,J i ys ls mu2 t) (J':=fun ls mu=>∃ mu2,mu=(D,lob ys' m')::mu2∧∃ t,J (i+1) ys' ls mu2 t) W (fun b hb=>?_) (e.trans ho) S' S3 ⟨_,rfl,_,hJ⟩ ⟨_,rfl,_,hJ3⟩ hS'⟩
   rcases hfp b hb with x | x | ⟨o,x⟩
   ·exact .inl x
   ·exact .inr (.inl x)
   ·refine .inr (.inr ⟨o,?_,?_⟩)
    ·rintro ls _ ⟨mu2,rfl,_,j⟩;exact .tail _ (x _ _ _ _ _ j)
    ·rintro ls _ ⟨mu2,rfl,_,j⟩;exact .tail _ (x _ _ _ _ _ j)
  cases ok with
  | false =>
   rw [if_neg (by decide)] at h₃ ⊢
   obtain⟨ls',mu',h3,gs',tk3,rfl,hg3,S3,hJ3⟩:=h₃
   exact fin ys m ls' mu' h3 gs' tk3 (Nat.le_succ_of_le hlen) hg3 S3 hJ3
  | true =>
   rw [if_pos rfl] at h₃ ⊢
   refine wpAny_mono h₃ (fun x s₄ h₄=>?_) fun _ _ x=>x.elim
   obtain⟨ls',mu',h3,gs',tk3,rfl,hg3,S3,hJ3⟩:=h₄
   refine append_ (j:=0) S3 rfl (by lia) fun h5 S5=>?_
   exact fin (ys++[x]) (m+1) ls' mu' h5 gs' tk3 (by simpa using hlen) hg3 S5 hJ3
 ·obtain rfl:i=n:=by lia
  have S1:St g C h nmc ls (((D,lob ys m)::mu)++own'):=S
  exact wpAny_with_toks (n:=tk) (Nat.le_refl _) (W.done _ _ _ hS fun h' tk' keep htk=>done ys m ls mu h' gs tk' (hm _ _ _ _ _ _ htk hJ) hlen hgs (S1.leftOwn (by rw [ho];exact hwr) keep))
noncomputable abbrev cenvOf(scope:Scope)(cl:List (Str×Addr))(C:Addr)(env:Env):Env:=compEnvC scope (cellsFrom (C+1) scope.names cl) C env
theorem newEnvC{scope:Scope}{cl:List (Str×Addr)}{Q:Env→Shared→Prop}
  (k:Q { scope:=scope,locals:=h.objs.size,globals:=env.globals,cells:=cellsFrom (h.objs.size+1) scope.names cl,qual:=env.qual,func:=none,code:=env.code,frame:=env.frame,builtins:=env.builtins } ⟨pushCells (h.push { cls:=.type "dict",data:=.dict #[] }) scope.names,gs,dr,tk,os⟩) :
  wpAny (model prog w) A (newFunctionEnv scope env.globals cl [] env.qual none .none (some env)) Q E ⟨h,gs,dr,tk,os⟩:=by
 simp only [newFunctionEnv,Option.isSome_some,if_true]
 refine wB (wpAny_alloc ?_)
 refine wB (wpAny_layCells _ (fun name kind cells=>by cases hkc:kind == NameKind.cell<;>simp [hkc]) _ _ _ _ ?_)
 have e1:(⟨h.push { cls:=.type "dict",data:=.dict #[] },gs,dr,tk,os⟩:Shared).heap.objs.size=h.objs.size+1:=Heap.size_push ..
 rw [show({ (⟨h,gs,dr,tk,os⟩:Shared) with heap:=(⟨h,gs,dr,tk,os⟩:Shared).heap.push { cls:=.type "dict",data:=.dict #[] } }:Shared).heap.objs.size=h.objs.size+1 from Heap.size_push ..]
 rw [List.forIn_nil]
 exact wB (wP (wP k))
theorem St.inner{scope:Scope}(S:St g L h nm ls mu)(nmc:List Str):St (hideAll h (mu.map (·.1))) h.objs.size (pushCells (h.push { cls:=.type "dict",data:=.dict #[] }) scope.names) nmc (nmc.map fun _=>none) (led0 (h.objs.size+1) scope.names++mu):=by
 have hnew:∀ p∈led0 (h.objs.size+1) scope.names,h.objs.size < p.1:=fun p hp=>led0_ge _ _ p hp
 refine⟨⟨?_,fun b o e=>pushCells_keeps _ _ b o (Heap.get?_push_of_some _ (of_hideAll _ e)),Nat.le_of_eq (hideAll_size _ _)⟩,fun p hp=>?_,?_⟩
 ·have:=(Heap.Ns.new h (.type "dict")).keeps (pushCells_keeps scope.names _)
  rw [look_none];exact this
 ·rcases List.mem_append.mp hp with hp | hp
  ·refine⟨led0_at _ _ p (by rw [Heap.size_push];exact hp),Nat.ne_of_gt (hnew p hp),?_⟩
   cases e:(hideAll h (mu.map (·.1))).get? p.1 with
   | none=>rfl
   | some o'=>exact absurd (Heap.lt_size (of_hideAll _ e)) (Nat.not_lt.mpr (Nat.le_of_lt (hnew p hp)))
  ·exact⟨pushCells_keeps _ _ _ _ (Heap.get?_push_of_some _ (S.N p hp).1),Nat.ne_of_lt (Heap.lt_size (S.N p hp).1),hideAll_none _ (List.mem_map_of_mem hp)⟩
 ·rw [List.map_append,List.nodup_append]
  refine⟨led0_nd _ _,S.nd,fun a ha b hb e=>?_⟩
  refine oEA (List.mem_map.mp ha) ?_;rintro p hp rfl
  refine oEA (List.mem_map.mp hb) ?_;rintro p' hp' rfl
  have h1:=hnew p hp
  have h2:=Heap.lt_size (S.N p' hp').1
  exact absurd e (Nat.ne_of_gt (Nat.lt_trans h2 h1))
end
section
variable{prog:Program}{w:World}{A:Around}{E:Value→Shared→Prop}{h g:Heap}{gs:Array GenState}{dr:Drawn}{tk:Nat}{os:OsState}{L a:Addr}{nm:List Str}{ls:List (Option Value)}{mu own:List (Addr×Obj)}{env:Env}
noncomputable abbrev CJ:=Addr→Addr→Nat→List Value→List (Option Value)→List (Addr×Obj)→Prop
noncomputable abbrev CTurn(prog:Program)(w:World)(A:Around)(env:Env)(scope:Scope)(cl:List (Str×Addr))(target elt:Expr)(ifs:List Expr)(nmc:List Str)(dr:Drawn)(os:OsState)(J:CJ)(n:Nat)(P:Nat→Value→Prop)(base:Heap→Prop):Prop :=
 ∀ g' C D,base g'→∀ i v ys m ls mu own h gs tk,i < n→P i v→J C D i ys ls mu→ys.length≤i→AllBare gs→St g' C h nmc ls ((D,lob ys m)::mu++own) →
   ∀ (T1:Value→Shared→Prop) (T0:Shared→Prop),(∀ x s',CE1 g' C D nmc own dr os (J C D (i+1)) ys m x s'→T1 x s')→(∀ s',CT g' C D nmc own dr os (J C D (i+1)) ys m s'→T0 s')→wpAny (model prog w) A (assign target (cenvOf scope cl C env) v) (fun _ s₂=>wpAny (model prog w) A (forIn ifs true fun c r=>if r=true then do let ok ← isTrue c (cenvOf scope cl C env) (eval c (cenvOf scope cl C env));pure (ForInStep.yield ok) else pure (ForInStep.yield r)) (fun ok s₃ =>
    if ok=true then wpAny (model prog w) A (eval elt (cenvOf scope cl C env)) T1 (fun _ _=>False) s₃ else T0 s₃) (fun _ _=>False) s₂) (fun _ _=>False) ⟨h,gs,dr,tk,os⟩
noncomputable abbrev CTurnt(prog:Program)(w:World)(A:Around)(env:Env)(scope:Scope)(cl:List (Str×Addr))(target elt:Expr)(ifs:List Expr)(nmc:List Str)(dr:Drawn)(os:OsState)(J:Addr→Addr→Nat→List Value→List (Option Value)→List (Addr×Obj)→Nat→Prop)(n:Nat)(P:Nat→Value→Prop)(base:Heap→Prop):Prop :=
 ∀ g' C D,base g'→∀ i v ys m ls mu own h gs tk,i < n→P i v→J C D i ys ls mu tk→ys.length≤i→AllBare gs→St g' C h nmc ls ((D,lob ys m)::mu++own) →
   ∀ (T1:Value→Shared→Prop) (T0:Shared→Prop),(∀ x s',CE1t g' C D nmc own dr os (J C D (i+1)) ys m x s'→T1 x s')→(∀ s',CTt g' C D nmc own dr os (J C D (i+1)) ys m s'→T0 s')→wpAny (model prog w) A (assign target (cenvOf scope cl C env) v) (fun _ s₂=>wpAny (model prog w) A (forIn ifs true fun c r=>if r=true then do let ok ← isTrue c (cenvOf scope cl C env) (eval c (cenvOf scope cl C env));pure (ForInStep.yield ok) else pure (ForInStep.yield r)) (fun ok s₃ =>
    if ok=true then wpAny (model prog w) A (eval elt (cenvOf scope cl C env)) T1 (fun _ _=>False) s₃ else T0 s₃) (fun _ _=>False) s₂) (fun _ _=>False) ⟨h,gs,dr,tk,os⟩
theorem compCoret{elt target iter:Expr}{ifs:List Expr}{scope:Scope}{pos:Pos}{cl:List (Str×Addr)}{I:Addr}{fp wr:List Addr}{n:Nat}{P:Nat→Value→Prop}{Sx:Nat→Heap→Prop}{RR:Value→Addr→Result→Shared→Prop}(nmc:List Str)
  (J:Addr→Addr→Nat→List Value→List (Option Value)→List (Addr×Obj)→Nat→Prop) (hm:∀ C D i ys ls mu t t',t≤t'→J C D i ys ls mu t→J C D i ys ls mu t') (W:Walks prog w A I fp wr n P Sx) (hfp:∀ b∈fp,b∈own.map (·.1)∨(∃ o,g.get? b=some o)∨∃ o,∀ C D i ys ls mu t,J C D i ys ls mu t→(b,o)∈mu) (hwr:∀ b∈wr,b∈own.map (·.1))
  (live:∀ i h,Sx i h→∀ b∈wr,∃ o,h.get? b=some o) (hn:n≤1000)
  (turn:CTurnt prog w A env scope cl target elt ifs nmc dr os J n P (Sub g))
  (done:∀ C D oC ys m lsc mu h gs tk,J C D n ys lsc mu tk→ys.length≤n→AllBare gs→St g L h nm ls ((C,oC)::(D,lob ys m)::mu)→(∀ h3:Heap,h3.get? C=some oC→∃ m,h3.Ns C m)→RR (.ref D) C (.ok .next) ⟨h,gs,dr,tk,os⟩)
  (hJ:∀ C D,J C D 0 [] (nmc.map fun _=>none) (led0 (C+1) scope.names++mu) tk) (S:St g L h nm ls (mu++own)) (hS:Sx 0 h) (hgs:AllBare gs) (ht:∀ it v,letOwnedTupleGo target it v=pure ():=by exact fun _ _=>rfl) :
  wpAny (model prog w) A (newList []) (fun acc s₃=>wpAny (model prog w) A (newFunctionEnv scope env.globals cl [] env.qual none .none (some env)) (fun cenv s₄ =>
   codeAny (model prog w) A (.compStart (.ListComp elt [⟨target,iter,ifs,0⟩] scope pos) 0 (.ref I) acc { cenv with scope:=relabel scope env }) (RR acc cenv.locals) s₄) E s₃) E ⟨h,gs,dr,tk,os⟩:=by
 refine newL S (by simp) fun h1 S1=>?_
 refine newEnvC (gs:=gs) (dr:=dr) (tk:=tk) (os:=os) ?_
 have S2:=S1.inner (scope:=scope) nmc
 have hsub:Sub g (hideAll h1 (((h.objs.size,(⟨.type "list",none,.seq ([]:List Value).toArray 0,#[]⟩:Obj))::(mu++own)).map (·.1))):=fun b o e=>hideAll_get _ (S1.F.keep b o e) fun m=>by
  refine oEA (List.mem_map.mp m) fun p hp e'=>?_
  have:=(S1.N p hp).2.2
  rw [e',e] at this;cases this
 have S3:St (hideAll h1 (((h.objs.size,(⟨.type "list",none,.seq ([]:List Value).toArray 0,#[]⟩:Obj))::(mu++own)).map (·.1))) h1.objs.size (pushCells (h1.push { cls:=.type "dict",data:=.dict #[] }) scope.names) nmc (nmc.map fun _=>none) ((h.objs.size,lob [] 0)::(led0 (h1.objs.size+1) scope.names++mu)++own):=by
  refine S2.perm ?_
  simp only [List.cons_append,List.append_assoc]
  exact List.perm_middle
 have hS3:Sx 0 (pushCells (h1.push { cls:=.type "dict",data:=.dict #[] }) scope.names):=W.frame _ _ _ hS fun b hb o e=>by
  have e1:∀ b o,h.get? b=some o→(pushCells (h1.push { cls:=.type "dict",data:=.dict #[] }) scope.names).get? b=some o→True:=fun _ _ _ _=>trivial
  rcases hfp b hb with hm | ⟨o',hg⟩ | ⟨o',hj⟩
  ·refine oEA (List.mem_map.mp hm) ?_;rintro p hp rfl
   have a1:=(S.N p (mR _ hp)).1
   have a2:=(S3.N p (mR _ hp)).1
   rw [a1] at e;cases e;exact a2
  ·have a1:=S.F.keep _ _ hg
   rw [a1] at e;cases e
   exact S3.F.keep _ _ (hsub _ _ hg)
  ·have hm:=hj _ _ _ _ _ _ _ (hJ h1.objs.size h.objs.size)
   have a2:=(S3.N _ (mF _ (.tail _ hm))).1
   rcases List.mem_append.mp hm with hm | hm
   ·have:=led0_ge _ _ _ hm
    have h2:=Heap.lt_size e
    have h3:h.objs.size≤h1.objs.size:=Nat.le_of_lt (Heap.lt_size (S1.N _ (.head _)).1)
    exact absurd this (Nat.not_le.mpr (Nat.lt_succ_of_le (Nat.le_of_lt (Nat.lt_of_lt_of_le h2 h3))))
   ·have a1:=(S.N _ (mF _ hm)).1
    rw [a1] at e;cases e;exact a2
 have loop:codeAny (model prog w) A (.compLoop (.ListComp elt [⟨target,iter,ifs,0⟩] scope pos) 0 (.ref I) (.ref h.objs.size) (cenvOf scope cl h1.objs.size env)) (RR (.ref h.objs.size) h1.objs.size) ⟨pushCells (h1.push { cls:=.type "dict",data:=.dict #[] }) scope.names,gs,dr,tk,os⟩:=by
  refine compLoopGt (own:=own) (J h1.objs.size h.objs.size) (hm _ _) W (fun b hb=>?_) hwr live hn (fun i v ys m ls mu own' h gs tk hi hP hJ hl ho hg S=>turn _ _ _ hsub i v ys m ls mu own' h gs tk hi hP hJ hl hg S) (fun ys m lsc mu' h' gs' tk' hJ' hl hg' S'=>?_) (hJ _ _) S3 hS3 hgs ht
  ·rcases hfp b hb with x | ⟨o,x⟩ | ⟨o,x⟩
   ·exact .inl x
   ·exact .inr (.inl ⟨o,hsub _ _ x⟩)
   ·exact .inr (.inr ⟨o,x _ _⟩)
  ·refine oEA (S1.leave S' (Nat.le_refl _)) fun oC S4 hC=>?_
   exact done _ _ oC ys m lsc mu' h' gs' tk' hJ' hl hg' S4 hC
 refine codeAny_compStart_list loop (W.self 0 _ _ _ hS3 loop)
theorem compCore{elt target iter:Expr}{ifs:List Expr}{scope:Scope}{pos:Pos}{cl:List (Str×Addr)}{I:Addr}{fp wr:List Addr}{n:Nat}{P:Nat→Value→Prop}{Sx:Nat→Heap→Prop}{RR:Value→Addr→Result→Shared→Prop}(nmc:List Str)
  (J:CJ) (W:Walks prog w A I fp wr n P Sx) (hfp:∀ b∈fp,b∈own.map (·.1)∨(∃ o,g.get? b=some o)∨∃ o,∀ C D i ys ls mu,J C D i ys ls mu→(b,o)∈mu) (hwr:∀ b∈wr,b∈own.map (·.1))
  (live:∀ i h,Sx i h→∀ b∈wr,∃ o,h.get? b=some o) (hn:n≤1000)
  (turn:CTurn prog w A env scope cl target elt ifs nmc dr os J n P (Sub g))
  (done:∀ C D oC ys m lsc mu h gs tk,J C D n ys lsc mu→ys.length≤n→AllBare gs→St g L h nm ls ((C,oC)::(D,lob ys m)::mu)→(∀ h3:Heap,h3.get? C=some oC→∃ m,h3.Ns C m)→RR (.ref D) C (.ok .next) ⟨h,gs,dr,tk,os⟩)
  (hJ:∀ C D,J C D 0 [] (nmc.map fun _=>none) (led0 (C+1) scope.names++mu)) (S:St g L h nm ls (mu++own)) (hS:Sx 0 h) (hgs:AllBare gs) (ht:∀ it v,letOwnedTupleGo target it v=pure ():=by exact fun _ _=>rfl) :
  wpAny (model prog w) A (newList []) (fun acc s₃=>wpAny (model prog w) A (newFunctionEnv scope env.globals cl [] env.qual none .none (some env)) (fun cenv s₄ =>
   codeAny (model prog w) A (.compStart (.ListComp elt [⟨target,iter,ifs,0⟩] scope pos) 0 (.ref I) acc { cenv with scope:=relabel scope env }) (RR acc cenv.locals) s₄) E s₃) E ⟨h,gs,dr,tk,os⟩ :=
 compCoret nmc (fun C D i ys ls mu _=>J C D i ys ls mu) (fun _ _ _ _ _ _ _ _ _ h=>h) W (fun b hb=>(hfp b hb).imp id fun x=>x.imp id fun⟨o,x⟩=>⟨o,fun C D i ys ls mu _=>x C D i ys ls mu⟩) hwr live hn
  (fun g' C D hs i v ys m ls mu own' h gs tk hi hP hJ hl hg S T1 T0 h1 h0=>turn g' C D hs i v ys m ls mu own' h gs tk hi hP hJ hl hg S T1 T0 (fun x s' ⟨a,b,c,d,e,q0,q1,q2,q3⟩=>h1 x s' ⟨a,b,c,d,e,q0,q1,q2,q3⟩) fun s' ⟨a,b,c,d,e,q0,q1,q2,q3⟩=>h0 s' ⟨a,b,c,d,e,q0,q1,q2,q3⟩) done hJ S hS hgs ht
theorem compNone{scope:Scope}{e:Expr}{cl:List (Str×Addr)}{Q:Value→Shared→Prop}{D C:Addr}{oC:Obj}{ys:List Value}{m:Nat}(S:St g L h nm ls ((C,oC)::(D,lob ys m)::mu))(hC:∀ h3:Heap,h3.get? C=some oC→∃ m,h3.Ns C m)
  (k:∀ h',St g L h' nm ls ((D,lob ys m)::mu)→Q (.ref D) ⟨h',gs,dr,tk,os⟩):compPost (model prog w) A E none Q (.ref D) C (.ok .next) ⟨h,gs,dr,tk,os⟩:=by
 obtain⟨m',hm⟩:=hC h (S.N _ (.head _)).1
 exact⟨m',hm,fun h' hs=>k h' (S.forget hs)⟩
theorem compStore{x:Str}{np:Pos}{ix:Nat}{Q:Value→Shared→Prop}{D C:Addr}{oC:Obj}{ys:List Value}{m:Nat}(S:St g L h nm ls ((C,oC)::(D,lob ys m)::mu))(hC:∀ h3:Heap,h3.get? C=some oC→∃ m,h3.Ns C m)(V:VE env nm x ix)(hi:ix < ls.length)
  (k:∀ h' tk,St g L h' nm (ls.set ix (some (.ref D))) ((D,lob ys m)::mu)→Q .none ⟨h',gs,dr,tk,os⟩) (hL:env.locals=L:=by rfl):compPost (model prog w) A E (some (assign (.Name x np) env)) Q (.ref D) C (.ok .next) ⟨h,gs,dr,tk,os⟩:=by
 refine assign_Name (stE S V hi (fun h2 t2 S2=>?_) hL)
 obtain⟨m',hm⟩:=hC h2 (S2.N _ (.head _)).1
 exact⟨m',hm,fun h' hs=>k h' t2 (S2.forget hs)⟩
theorem overL{l:Addr}{items:List Value}{K:Value→Shared→Prop}(S:St g L h nm ls mu)(hh:A.handled=none)(hl:h.IsList l items.toArray)(hb:(∃ o,g.get? l=some o)∨∃ o,(l,o)∈mu)
  (k:∀ I h1 own,l≠I→St g L h1 nm ls (mu++own)→own.map (·.1)=[I]→(h1.IsListIter I l 0∧h1.IsList l items.toArray)→Walks prog w A I [I,l] [I] items.length (fun i v=>items[i]?=some v) (fun i h=>h.IsListIter I l i∧h.IsList l items.toArray)→K (.ref I) ⟨h1,gs,dr,tk,os⟩) :
  wpAny (model prog w) A (pyIter (.ref l)) K E ⟨h,gs,dr,tk,os⟩:=by
 refine wpAny_pyIter_list (s:=⟨h,gs,dr,tk,os⟩) hl ?_
 have hlt:l < h.objs.size:=by refine oEA hl fun o ho _=>?_;exact Heap.lt_size ho
 refine k _ _ [(h.objs.size,_)] (Nat.ne_of_lt hlt) (S.push _).last rfl ⟨⟨_,Heap.get?_push_size _ rfl,rfl,rfl⟩,hl.at fun o e=>Heap.get?_push_of_some _ e⟩ ?_
 have W:=Walks.list (prog:=prog) (w:=w) hh h.objs.size l (Nat.ne_of_lt hlt) items.toArray
 simpa using W
theorem overR{r:Addr}{lo hi:Int}{n:Nat}{t u v:Tok}{K:Value→Shared→Prop}(S:St g L h nm ls mu)(hh:A.handled=none)(hr:IsRange h r lo hi 1 t u v)(hn:(n:Int)=if lo < hi then hi - lo else 0)(hlo:lo.natAbs < 2 ^ 32)(hhi:hi.natAbs < 2 ^ 32)
  (k:∀ I h1 own,St g L h1 nm ls (mu++own)→own.map (·.1)=[I]→IsRangeIter h1 I (lo+(0:Nat) * 1) ((n:Int) - (0:Nat)) 1→Walks prog w A I [I] [I] n (fun i v=>∃ t,v=.int (lo+i * 1) t) (fun i h=>IsRangeIter h I (lo+(i:Nat) * 1) ((n:Int) - (i:Nat)) 1)→K (.ref I) ⟨h1,gs,dr,tk,os⟩) :
  wpAny (model prog w) A (pyIter (.ref r)) K E ⟨h,gs,dr,tk,os⟩:=by
 have hsz:Builtin.Range.rangeSize lo hi 1=(n:Int):=by rw [rangeSize_one,hn]
 have hsmall:=small_range hn hlo hhi
 refine wpAny_pyIter_range (s:=⟨h,gs,dr,tk,os⟩) hr hsmall ?_
 have W:=Walks.range (prog:=prog) (w:=w) hh h.objs.size lo 1 n
 refine k _ _ [(h.objs.size,_)] (S.push _).last rfl ?_ W
 have:=Heap.get?_push_size h (o:={ cls:=.type "range_iterator",data:=.fields #[rawInt lo,rawInt (Builtin.Range.rangeSize lo hi 1),rawInt 1] }) rfl
 rw [hsz] at this
 simpa [IsRangeIter,hsz] using this
end
structure ScF(scope:Scope)(env:Env)(cl:List (Str×Addr)):Prop where
 clos:closureFor scope env=pure cl
 kind:scope.kind=.function
 names:∀ y∈scope.names,y.2=.local→scope.names.lookup y.1=some .local
section
variable{prog:Program}{w:World}{A:Around}{E:Value→Shared→Prop}{h g:Heap}{gs:Array GenState}{dr:Drawn}{tk:Nat}{os:OsState}{L a:Addr}{nm:List Str}{ls:List (Option Value)}{mu own:List (Addr×Obj)}{env:Env}
noncomputable abbrev CB(prog:Program)(w:World)(A:Around)(E:Value→Shared→Prop)(env:Env)(scope:Scope)(cl:List (Str×Addr))(e:Expr)(use:Option (Value→Sem Unit))(Q:Value→Shared→Prop)(it:Value)(s₂:Shared):Prop :=
 wpAny (model prog w) A (newList []) (fun acc s₃=>wpAny (model prog w) A (newFunctionEnv scope env.globals cl [] env.qual none .none (some env)) (fun cenv s₄ =>
   codeAny (model prog w) A (.compStart e 0 it acc { cenv with scope:=relabel scope env }) (compPost (model prog w) A E use Q acc cenv.locals) s₄) E s₃) E s₂
theorem lc_{elt target iter:Expr}{ifs:List Expr}{rest:List Comprehension}{scope:Scope}{pos:Pos}{cl:List (Str×Addr)}{s:Shared}{Q:Value→Shared→Prop}(F:ScF scope env cl)
  (k:wpAny (model prog w) A (eval iter env) (fun xv s₁=>wpAny (model prog w) A (pyIter xv) (CB prog w A E env scope cl (.ListComp elt (⟨target,iter,ifs,0⟩::rest) scope pos) none Q) E s₁) E s)
  (hs:∀ x,foldedSetIterable iter env x=pure x:=by intro _;rfl):wpAny (model prog w) A (eval (.ListComp elt (⟨target,iter,ifs,0⟩::rest) scope pos) env) Q E s:=by
 rw [eval_ListComp]
 exact wpAny_comprehension_free (use:=none) rfl hs F.clos F.kind F.names k
theorem lcA_{x:Str}{np:Pos}{elt target iter:Expr}{ifs:List Expr}{rest:List Comprehension}{scope:Scope}{pos ap:Pos}{cl:List (Str×Addr)}{s:Shared}{Q:Flow→Shared→Prop}(F:ScF scope env cl)
  (hsw:swapsWith (.ListComp elt (⟨target,iter,ifs,0⟩::rest) scope pos) (some (.Name x np)) ap.line env=pure true)
  (k:wpAny (model prog w) A (eval iter env) (fun xv s₁=>wpAny (model prog w) A (pyIter xv) (CB prog w A E env scope cl (.ListComp elt (⟨target,iter,ifs,0⟩::rest) scope pos) (some (assign (.Name x np) env)) (fun _ s=>Q .next s)) E s₁) E s)
  (hs:∀ x,foldedSetIterable iter env x=pure x:=by intro _;rfl):wpAny (model prog w) A (exec (.Assign [.Name x np] (.ListComp elt (⟨target,iter,ifs,0⟩::rest) scope pos) ap) env) Q E s:=by
 rw [exec_Assign_Name_used _ _ _ _ hsw]
 refine wB (wpAny_standAt ?_)
 exact wB (wB (wpAny_mono (wpAny_comprehension_free (use:=some (assign (.Name x np) env)) (first:=firstIter (⟨target,iter,ifs,0⟩::rest) env) rfl hs F.clos F.kind F.names k) (fun _ s' h'=>wP (wP h')) fun _ _ x=>x))
theorem compLV{elt target iter:Expr}{ifs:List Expr}{scope:Scope}{pos:Pos}{cl:List (Str×Addr)}{l:Addr}{items:List Value}{Q:Value→Shared→Prop}(nmc:List Str)(J:CJ)(S:St g L h nm ls mu)(hh:A.handled=none)(hgs:AllBare gs)
  (hl:h.IsList l items.toArray) (hb:(∃ o,g.get? l=some o)∨∃ o,(l,o)∈mu∧∀ C D i ys ls mu,J C D i ys ls mu→(l,o)∈mu) (hn:items.length≤1000)
  (turn:CTurn prog w A env scope cl target elt ifs nmc dr os J items.length (fun i v=>items[i]?=some v) (Sub g))
  (done:∀ C D ys m lsc mu h gs tk,J C D items.length ys lsc mu→AllBare gs→St g L h nm ls ((D,lob ys m)::mu)→Q (.ref D) ⟨h,gs,dr,tk,os⟩)
  (hJ:∀ C D,J C D 0 [] (nmc.map fun _=>none) (led0 (C+1) scope.names++mu)) (ht:∀ it v,letOwnedTupleGo target it v=pure ():=by exact fun _ _=>rfl) :
  wpAny (model prog w) A (pyIter (.ref l)) (CB prog w A E env scope cl (.ListComp elt [⟨target,iter,ifs,0⟩] scope pos) none Q) E ⟨h,gs,dr,tk,os⟩:=by
 refine overL S hh hl (hb.imp id fun⟨o,x,_⟩=>⟨o,x⟩) fun I h1 own hne S1 ho hS W=>?_
 refine compCore (own:=own) nmc J W ?_ ?_ ?_ hn turn (fun C D oC ys m lsc mu' h' gs' tk' hJ' _ hg' S' hC=>compNone (scope:=scope) (e:=elt) (cl:=cl) S' hC fun h2 S2=>done C D ys m lsc mu' h2 gs' tk' hJ' hg' S2) hJ S1 hS hgs ht
 ·intro b hb'
  rcases mK hb' with rfl | hb'
  ·exact .inl (by rw [ho];simp)
  ·rw [mS hb'];exact .inr (hb.imp id fun⟨o,_,x⟩=>⟨o,x⟩)
 ·intro b hb';rw [ho];exact hb'
 ·rintro i h' ⟨⟨o,ho,_⟩,_⟩ b hb
  rw [mS hb];exact⟨o,ho⟩
theorem compRV{elt target iter:Expr}{ifs:List Expr}{scope:Scope}{pos:Pos}{cl:List (Str×Addr)}{r:Addr}{lo hi:Int}{n:Nat}{t u v:Tok}{Q:Value→Shared→Prop}(nmc:List Str)(J:CJ)(S:St g L h nm ls mu)(hh:A.handled=none)(hgs:AllBare gs)
  (hr:IsRange h r lo hi 1 t u v) (hn:(n:Int)=if lo < hi then hi - lo else 0) (hlo:lo.natAbs < 2 ^ 32) (hhi:hi.natAbs < 2 ^ 32) (hz:n≤1000)
  (turn:CTurn prog w A env scope cl target elt ifs nmc dr os J n (fun i v=>∃ t,v=.int (lo+i * 1) t) (Sub g))
  (done:∀ C D ys m lsc mu h gs tk,J C D n ys lsc mu→AllBare gs→St g L h nm ls ((D,lob ys m)::mu)→Q (.ref D) ⟨h,gs,dr,tk,os⟩)
  (hJ:∀ C D,J C D 0 [] (nmc.map fun _=>none) (led0 (C+1) scope.names++mu)) (ht:∀ it v,letOwnedTupleGo target it v=pure ():=by exact fun _ _=>rfl) :
  wpAny (model prog w) A (pyIter (.ref r)) (CB prog w A E env scope cl (.ListComp elt [⟨target,iter,ifs,0⟩] scope pos) none Q) E ⟨h,gs,dr,tk,os⟩:=by
 refine overR (n:=n) S hh hr hn hlo hhi fun I h1 own S1 ho hS W=>?_
 refine compCore (own:=own) nmc J W ?_ ?_ ?_ hz turn (fun C D oC ys m lsc mu' h' gs' tk' hJ' _ hg' S' hC=>compNone (scope:=scope) (e:=elt) (cl:=cl) S' hC fun h2 S2=>done C D ys m lsc mu' h2 gs' tk' hJ' hg' S2) hJ S1 hS hgs ht
 ·intro b hb';exact .inl (by rw [ho];exact hb')
 ·intro b hb';rw [ho];exact hb'
 ·intro i h' hx b hb
  rw [mS hb];exact⟨_,hx⟩
theorem compRS{x:Str}{np:Pos}{ix:Nat}{elt target iter:Expr}{ifs:List Expr}{scope:Scope}{pos:Pos}{cl:List (Str×Addr)}{r:Addr}{lo hi:Int}{n:Nat}{t u v:Tok}{Q:Value→Shared→Prop}(nmc:List Str)(J:CJ)(S:St g L h nm ls mu)(hh:A.handled=none)(hgs:AllBare gs)
  (V:VE env nm x ix) (hi':ix < ls.length) (hr:IsRange h r lo hi 1 t u v) (hn:(n:Int)=if lo < hi then hi - lo else 0) (hlo:lo.natAbs < 2 ^ 32) (hhi:hi.natAbs < 2 ^ 32) (hz:n≤1000)
  (turn:CTurn prog w A env scope cl target elt ifs nmc dr os J n (fun i v=>∃ t,v=.int (lo+i * 1) t) (Sub g))
  (done:∀ C D ys m lsc mu h gs tk,J C D n ys lsc mu→AllBare gs→St g L h nm (ls.set ix (some (.ref D))) ((D,lob ys m)::mu)→Q .none ⟨h,gs,dr,tk,os⟩)
  (hJ:∀ C D,J C D 0 [] (nmc.map fun _=>none) (led0 (C+1) scope.names++mu)) (ht:∀ it v,letOwnedTupleGo target it v=pure ():=by exact fun _ _=>rfl) (hL:env.locals=L:=by rfl) :
  wpAny (model prog w) A (pyIter (.ref r)) (CB prog w A E env scope cl (.ListComp elt [⟨target,iter,ifs,0⟩] scope pos) (some (assign (.Name x np) env)) Q) E ⟨h,gs,dr,tk,os⟩:=by
 refine overR (n:=n) S hh hr hn hlo hhi fun I h1 own S1 ho hS W=>?_
 refine compCore (own:=own) nmc J W ?_ ?_ ?_ hz turn (fun C D oC ys m lsc mu' h' gs' tk' hJ' _ hg' S' hC=>compStore S' hC V hi' (fun h2 t2 S2=>done C D ys m lsc mu' h2 gs' t2 hJ' hg' S2) hL) hJ S1 hS hgs ht
 ·intro b hb';exact .inl (by rw [ho];exact hb')
 ·intro b hb';rw [ho];exact hb'
 ·intro i h' hx b hb
  rw [mS hb];exact⟨_,hx⟩
theorem tst0{Q:Bool→Shared→Prop}{s:Shared}(k:Q true s):wpAny (model prog w) A (forIn ([]:List Expr) true fun c r=>if r=true then do let ok ← isTrue c env (eval c env);pure (ForInStep.yield ok) else pure (ForInStep.yield r)) Q E s:=wpAny_tests_nil k
theorem tst1{c:Expr}{Q:Bool→Shared→Prop}{s:Shared}(k:wpAny (model prog w) A (isTrue c env (eval c env)) Q E s):wpAny (model prog w) A (forIn [c] true fun c r=>if r=true then do let ok ← isTrue c env (eval c env);pure (ForInStep.yield ok) else pure (ForInStep.yield r)) Q E s:=wpAny_tests_one k
end
section
variable{prog:Program}{w:World}{A:Around}{E:Value→Shared→Prop}{h g:Heap}{gs:Array GenState}{dr:Drawn}{tk:Nat}{os:OsState}{L a:Addr}{nm:List Str}{ls:List (Option Value)}{mu own:List (Addr×Obj)}{q:Str}{sc:Scope}{cd:Value}{env:Env}{K:Frag}{mg mb:Str→Option Value}
theorem enterD{W:List Addr}{P:Value→Shared→Prop}{s:Shared}{f:Addr}{fd:FuncData}{qual:Str}{body:List Stmt}{cdv:Value}{args:Args}{binds:List (Str×Value)}(mu:List (Addr×Obj))
  (H:FnC K f fd qual sc body cdv) (D:Gd K mg mb s.heap) (hroom:A.depth < recursionLimit) (hbind:BindsTo s fd args binds)
  (hmu:∀ p∈mu,s.heap.get? p.1=some p.2) (nd:(mu.map (·.1)).Nodup) (hlimW:cStatics∉mu.map (·.1)) (nm:List Str) (lsn:List (Option Value)) (hlsn:nm.map (fun _=>none)=lsn) {cells:Nat→List (Addr×Obj)} (hcells:∀ n,led0 n sc.names=cells n)
  (h:∀ Po:Value→Shared→Prop,(∀ v s',Mod W s s'→P v s'→Po v s')→∀ L h₁,L=s.heap.objs.size→St (hideAll s.heap (mu.map (·.1))) L h₁ nm lsn (cells (L+1)++mu) →
   wpAny (model prog w) A.in1 (bindAll (envOfC qual sc L f cdv) binds) (fun _ s'=>Sub (hideAll s.heap (mu.map (·.1))) s'.heap ∧
    wpAny (model prog w) (A.deeper (envOfC qual sc L f cdv)) (execs body (envOfC qual sc L f cdv)) (fun fl s'=>Po (match fl with | .ret v=>v | _=>.none) s') (fun _ _=>False) s') (fun _ _=>False)
    ⟨h₁,s.gens,s.drawn,s.toks,s.os⟩):codeAny (model prog w) A (.call (.ref f) args) (Ret W s P) s:=by
 refine enterC mu H D hroom hbind hmu nd nm (fun h₁ S=>?_) hlimW
 rw [hlsn,hcells] at S
 exact h (fun v s'=>Mod W s s'∧P v s') (fun _ _ m p=>⟨m,p⟩) _ h₁ rfl S
theorem endP{W:List Addr}{P:Value→Shared→Prop}{Po:Value→Shared→Prop}{s:Shared}{v:Value}{nm:List Str}{ls:List (Option Value)}(hPo:∀ v s',Mod W s s'→P v s'→Po v s')(S:St (hideAll s.heap W) L h nm ls mu)(hL:L=s.heap.objs.size)(hg:AllBare s.gens→AllBare gs)(hd:dr=s.drawn)(ho:os=s.os)(p:P v ⟨h,gs,dr,tk,os⟩):Po v ⟨h,gs,dr,tk,os⟩ :=
 hPo _ _ (S.mod (t:=0) (Nat.le_of_eq hL.symm) hg rfl ho rfl hd) p
end
noncomputable def MX(w:World)(R:Rel)(o:Obj)(oa ob:Option (Addr×List Int)):Prop:=∃ vs,IV w.params an vs o∧MS prog w R vs oa ob
theorem MX.mono{w:World}{R R':Rel}{o:Obj}{oa ob:Option (Addr×List Int)}(h:MX w R o oa ob)(m:∀ b o,R b o→R' b o):MX w R' o oa ob:=let ⟨vs,i,s⟩:=h;⟨vs,i,s.mono m⟩
section
variable{w:World}{A:Around}{E:Value→Shared→Prop}{mg mb:Str→Option Value}{h g:Heap}{gs:Array GenState}{dr:Drawn}{tk:Nat}{os:OsState}{L m d x:Addr}{nm:List Str}{ls:List (Option Value)}{mu:List (Addr×Obj)}{od op:Obj}{oa ob:Option (Addr×List Int)}{xs ys:List Int}
theorem kn_off{T:Addr}(S:St g L h nm ls ((d,od)::(T,op)::mu)):∀ b o,Kn g mu b o→h.get? b=some o∧b≠d∧b≠T:=fun b o k=>by
 have nd:=S.nd
 rw [List.map_cons,List.map_cons,List.nodup_cons,List.nodup_cons] at nd
 rcases k with e | e
 ·refine⟨S.F.keep _ _ e,fun z=>?_,fun z=>?_⟩
  ·have:=(S.N _ (.head _)).2.2;rw [← z] at this;rw [e] at this;cases this
  ·have:=(S.N _ (.tail _ (.head _))).2.2;rw [← z] at this;rw [e] at this;cases this
 ·have hm:=List.mem_map_of_mem (f:=(·.1)) e
  refine⟨(S.N _ (.tail _ (.tail _ e))).1,fun z=>nd.1 (.tail _ ?_),fun z=>nd.2.1 ?_⟩
  ·rw [← z];exact hm
  ·rw [← z];exact hm
theorem callSet1{Q:Value→Shared→Prop}(S:St g L h nm ls ((d,od)::(220,op)::mu))(D:Gd (K w.params) mg mb g)(hA:A.handled=none)(hdep:A.depth+2 < recursionLimit)(hgs:AllBare gs){R:Rel}(hRk:∀ b o,R b o→Kn g mu b o)(hm:R m (inst CM d))(M:MX w R od oa ob)(hx:LI R x xs)(hl:xs.length≤199)
  (k:∀ h' gs' tk' od',AllBare gs'→St g L h' nm ls ((d,od')::(220,op)::mu)→MX w R od' (some (x,xs)) ob→Q .none ⟨h',gs',dr,tk',os⟩):wpAny (model prog w) A (call (.ref 174) [.ref m,.ref x]) Q E ⟨h,gs,dr,tk,os⟩:=by
 refine oEA M fun vs I H=>?_
 have hR:∀ b o,R b o→h.get? b=some o∧b≠d∧b≠220:=fun b o e=>kn_off S b o (hRk b o e)
 have X:Gr w mg mb g d A ⟨h,gs,dr,tk,os⟩ 2:=⟨D,S.F.keep,(S.N _ (.head _)).2.2,hA,hdep⟩
 refine callS (set1_spec X ⟨hm,⟨od,S.get (j:=0) rfl,I⟩,fun b o e=>⟨(hR _ _ e).1,(hR _ _ e).2.1⟩,H⟩ hx hl) fun v h2 gs2 t2 M2 hv=>?_
 refine oAEEAA hv ?_;rintro rfl vs2 o2 ho2 I2 H2
 exact k h2 gs2 t2 o2 (M2.gens hgs) (S.call1 (s:=⟨h,gs,dr,tk,os⟩) (s':=⟨h2,gs2,dr,t2,os⟩) (j:=0) M2 rfl ho2) ⟨vs2,I2,H2⟩
theorem callSet2{Q:Value→Shared→Prop}(S:St g L h nm ls ((d,od)::(220,op)::mu))(D:Gd (K w.params) mg mb g)(hA:A.handled=none)(hdep:A.depth+4 < recursionLimit)(hgs:AllBare gs){R:Rel}(hRk:∀ b o,R b o→Kn g mu b o)(hm:R m (inst CM d))(M:MX w R od oa ob)(hx:LI R x ys)(hl:ys.length≤199)
  (k:∀ h' gs' tk' od' new,AllBare gs'→St g L h' nm ls ((d,od')::(220,op)::(mu++new))→MX w (R.and new) od' oa (some (x,ys))→Q .none ⟨h',gs',dr,tk',os⟩):wpAny (model prog w) A (call (.ref 181) [.ref m,.ref x]) Q E ⟨h,gs,dr,tk,os⟩:=by
 refine oEA M fun vs I H=>?_
 have hR:∀ b o,R b o→h.get? b=some o∧b≠d∧b≠220:=fun b o e=>kn_off S b o (hRk b o e)
 have X:Gr w mg mb g d A ⟨h,gs,dr,tk,os⟩ 4:=⟨D,S.F.keep,(S.N _ (.head _)).2.2,hA,hdep⟩
 refine callS (set2_spec X hgs ⟨hm,⟨od,S.get (j:=0) rfl,I⟩,fun b o e=>⟨(hR _ _ e).1,(hR _ _ e).2.1⟩,H⟩ hx hl) fun v h2 gs2 t2 M2 hv=>?_
 refine oAEEEAAA hv ?_;rintro rfl vs2 o2 new ho2 I2 F2 H2
 exact k h2 gs2 t2 o2 new (M2.gens hgs) (S.callN (s:=⟨h,gs,dr,tk,os⟩) (s':=⟨h2,gs2,dr,t2,os⟩) (j:=0) M2 rfl ho2 F2) ⟨vs2,I2,H2⟩
theorem callQuick{la lb:Addr}{Q:Value→Shared→Prop}(S:St g L h nm ls ((d,od)::(220,op)::mu))(D:Gd (K w.params) mg mb g)(hA:A.handled=none)(hdep:A.depth+3 < recursionLimit)(hgs:AllBare gs){R:Rel}(hRk:∀ b o,R b o→Kn g mu b o)(hm:R m (inst CM d))(M:MX w R od (some (la,xs)) (some (lb,ys)))(hz:xs.length+ys.length≠0)
  (k:∀ h' gs' tk' od' new t,t+1≤tk'→AllBare gs'→St g L h' nm ls ((d,od')::(220,op)::(mu++new))→MX w (R.and new) od' (some (la,xs)) (some (lb,ys))→Q (.float (ratioF (qm xs fun k=>cnt k ys:Nat) (xs.length+ys.length)) (t+1)) ⟨h',gs',dr,tk',os⟩):wpAny (model prog w) A (call (.ref 232) [.ref m]) Q E ⟨h,gs,dr,tk,os⟩:=by
 refine oEA M fun vs I H=>?_
 have hR:∀ b o,R b o→h.get? b=some o∧b≠d∧b≠220:=fun b o e=>kn_off S b o (hRk b o e)
 have X:Gr w mg mb g d A ⟨h,gs,dr,tk,os⟩ 3:=⟨D,S.F.keep,(S.N _ (.head _)).2.2,hA,hdep⟩
 refine callS (quick_spec X hgs ⟨hm,⟨od,S.get (j:=0) rfl,I⟩,fun b o e=>⟨(hR _ _ e).1,(hR _ _ e).2.1⟩,H⟩ hz) fun v h2 gs2 t2 M2 hv=>?_
 refine oAEEEAAA hv ?_;rintro ⟨t,rfl,ht⟩ vs2 o2 new ho2 I2 F2 H2
 exact k h2 gs2 t2 o2 new t ht (M2.gens hgs) (S.callN (s:=⟨h,gs,dr,tk,os⟩) (s':=⟨h2,gs2,dr,t2,os⟩) (j:=0) M2 rfl ho2 F2) ⟨vs2,I2,H2⟩
theorem callRquick{la lb:Addr}{Q:Value→Shared→Prop}(S:St g L h nm ls ((d,od)::(220,op)::mu))(D:Gd (K w.params) mg mb g)(hA:A.handled=none)(hdep:A.depth+2 < recursionLimit)(hgs:AllBare gs){R:Rel}(hRk:∀ b o,R b o→Kn g mu b o)(hm:R m (inst CM d))(M:MX w R od (some (la,xs)) (some (lb,ys)))(hz:xs.length+ys.length≠0)
  (k:∀ h' gs' tk' t,AllBare gs'→St g L h' nm ls ((d,od)::(220,op)::mu)→Q (.float (ratioF (min xs.length ys.length:Int) (xs.length+ys.length)) (t+1)) ⟨h',gs',dr,tk',os⟩):wpAny (model prog w) A (call (.ref 239) [.ref m]) Q E ⟨h,gs,dr,tk,os⟩:=by
 refine oEA M fun vs I H=>?_
 have hR:∀ b o,R b o→h.get? b=some o∧b≠d∧b≠220:=fun b o e=>kn_off S b o (hRk b o e)
 refine oAA H.a ?_;rintro e1 ⟨ia,na,hao,hai⟩ hxl
 refine oAAA H.b ?_;rintro e2 ⟨ib,nb,hbo,hbi⟩ hyl _
 have hlen:=H.len
 obtain⟨⟨ts,n,e,hts⟩,hle⟩:=I
 have htk:an.take vs.length=an:=List.take_of_length_le (by rw [hlen];exact nB rfl)
 rw [htk] at e
 refine callS (rquick_spec (s:=⟨h,gs,dr,tk,os⟩) (xs:=ia) (ys:=ib) (D.keeps S.F.keep) hA hdep (hR _ _ hm).1 (e▸S.get (j:=0) rfl) (by rw [hts,hlen];rfl) e1 e2 (lob_list (hR _ _ hao).1) (lob_list (hR _ _ hbo).1) (by rw [hai.length];lia) (by rw [hbi.length];lia) (by rw [hai.length,hbi.length];exact hz)) fun v h2 gs2 t2 M2 hv=>?_
 obtain⟨t,rfl⟩:=hv
 rw [hai.length,hbi.length]
 exact k h2 gs2 t2 t (M2.gens hgs) (S.call0 (s:=⟨h,gs,dr,tk,os⟩) (s':=⟨h2,gs2,dr,t2,os⟩) M2)
theorem callRatio{la lb:Addr}{Q:Value→Shared→Prop}(S:St g L h nm ls ((d,od)::(220,op)::mu))(D:Gd (K w.params) mg mb g)(hA:A.handled=none)(hdep:A.depth+8 < recursionLimit)(hu:A.units+12 < cLine)(hgs:AllBare gs){R:Rel}(hRk:∀ b o,R b o→Kn g mu b o)(hm:R m (inst CM d))(M:MX w R od (some (la,xs)) (some (lb,ys)))(hct:CodeTab op)(hz:xs.length+ys.length≠0)(hmin:xs.length < 64∨ys.length < 64)
  (k:∀ h' gs' tk' od' op' new t tot,t+1≤tk'→AllBare gs'→CodeTab op'→GM xs ys 0 xs.length 0 ys.length tot→St g L h' nm ls ((d,od')::(220,op')::(mu++new))→MX w (R.and new) od' (some (la,xs)) (some (lb,ys))→Q (.float (ratioF tot (xs.length+ys.length)) (t+1)) ⟨h',gs',dr,tk',os⟩):wpAny (model prog w) A (call (.ref 225) [.ref m]) Q E ⟨h,gs,dr,tk,os⟩:=by
 refine oEA M fun vs I H=>?_
 have hR:∀ b o,R b o→h.get? b=some o∧b≠d∧b≠220:=fun b o e=>kn_off S b o (hRk b o e)
 have X:Gr w mg mb g d A ⟨h,gs,dr,tk,os⟩ 8:=⟨D,S.F.keep,(S.N _ (.head _)).2.2,hA,hdep⟩
 have nd:=S.nd
 rw [List.map_cons,List.map_cons,List.nodup_cons,List.nodup_cons] at nd
 refine callS (ratio_spec X hgs ⟨hm,⟨od,S.get (j:=0) rfl,I⟩,fun b o e=>⟨(hR _ _ e).1,(hR _ _ e).2.1⟩,H⟩ hmin hu hz (S.get (j:=1) rfl) hct (S.N _ (.tail _ (.head _))).2.2 (fun z=>nd.1 (List.mem_cons.mpr (.inl z))) fun b o e=>(hR _ _ e).2.2) fun v h2 gs2 t2 M2 hv=>?_
 obtain⟨tot,t,vs2,o2,op2,new,rfl,ht,hGM,ho2,I2,hop2,hct2,F2,H2⟩:=hv
 refine k h2 gs2 t2 o2 op2 new t tot ht (M2.gens hgs) hct2 hGM (?_:St g L h2 nm ls (((d,o2)::(220,op2)::mu)++new)) ⟨vs2,I2,H2⟩
 refine St.grow (s:=⟨h,gs,dr,tk,os⟩) S (S.call (s:=⟨h,gs,dr,tk,os⟩) (s':=⟨h2,gs2,dr,t2,os⟩) (mu':=(d,o2)::(220,op2)::mu) M2 (fun a ha=>?_) rfl fun p hp=>?_) rfl (fun p hp=>⟨F2.here p hp,F2.not p hp⟩) F2.nd
 ·rcases mK ha with rfl | ha
  ·exact .head _
  ·rw [mS ha];exact .tail _ (.head _)
 ·rcases mK hp with rfl | hp
  ·exact .inr ho2
  ·rcases mK hp with rfl | hp
   ·exact .inr hop2
   ·refine .inl ⟨.tail _ (.tail _ hp),fun mm=>?_⟩
    have h3:=kn_off S p.1 p.2 (.inr hp)
    rcases mK mm with e | mm
    ·exact h3.2.1 e
    ·exact h3.2.2 (mS mm)
end
section
variable{prog:Program}{w:World}{A:Around}{E:Value→Shared→Prop}{h g:Heap}{gs:Array GenState}{dr:Drawn}{tk:Nat}{os:OsState}{env:Env}{a b:Nat}{t u:Tok}{Q:Value→Shared→Prop}
theorem addN(q:∀ t tk,Q (.int ((a+b:Nat):Int) t) ⟨h,gs,dr,tk,os⟩):wpAny (model prog w) A (binaryOp .Add (.int a t) (.int b u)) Q E ⟨h,gs,dr,tk,os⟩:=add_ fun t tk=>by have:=q t tk;rwa [Int.natCast_add] at this
theorem subN(hab:b≤a)(q:∀ t tk,Q (.int ((a - b:Nat):Int) t) ⟨h,gs,dr,tk,os⟩):wpAny (model prog w) A (binaryOp .Sub (.int a t) (.int b u)) Q E ⟨h,gs,dr,tk,os⟩:=sub_ fun t tk=>by have:=q t tk;rwa [Int.natCast_sub hab] at this
theorem subN1(hab:1≤a)(q:∀ t tk,Q (.int ((a - 1:Nat):Int) t) ⟨h,gs,dr,tk,os⟩):wpAny (model prog w) A (binaryOp .Sub (.int a t) (.int 1 u)) Q E ⟨h,gs,dr,tk,os⟩:=sub_ fun t tk=>by have:=q t tk;rwa [Int.natCast_sub hab] at this
theorem mulOk(ha:a≤1000000):IntMulOk (a:Int) (b:Int):=IntMulOk.of_left (by
 unfold Builtin.Int.intBits
 have h1:(a:Int).natAbs=a:=Int.natAbs_natCast a
 simp only [h1]
 split
 ·exact Nat.zero_le _
 ·have:=(Nat.log2_lt (n:=a) (k:=63) (by intro z;simp_all)).mpr (Nat.lt_of_le_of_lt ‹_› (by lia))
  (clear h1 ha;lia))
theorem mulN(ha:a≤1000000)(q:∀ t tk,Q (.int ((a * b:Nat):Int) t) ⟨h,gs,dr,tk,os⟩):wpAny (model prog w) A (binaryOp .Mult (.int a t) (.int b u)) Q E ⟨h,gs,dr,tk,os⟩:=mul_ (mulOk ha) fun t tk=>by have:=q t tk;rwa [Int.natCast_mul] at this
theorem ltN(q:Q (.bool (decide (a < b))) ⟨h,gs,dr,tk,os⟩):wpAny (model prog w) A (compareOp .Lt (.int a t) (.int b u)) Q E ⟨h,gs,dr,tk,os⟩:=PySem.P.lt_int (by
 have e:decide ((a:Int) < b)=decide (a < b):=by simp
 rw [e];exact q)
end
section
variable{prog:Program}{w:World}{A:Around}{E:Value→Shared→Prop}{h g:Heap}{gs:Array GenState}{dr:Drawn}{tk:Nat}{os:OsState}{env:Env}{L l:Addr}{nm:List Str}{ls:List (Option Value)}{mu:List (Addr×Obj)}{items:List Value}{n:Nat}{Q:Value→Shared→Prop}
theorem getSl{vl vu vk:Value}{lo hi st:Option Int}(S:St g L h nm ls mu)(hl:h.IsList l items.toArray)(pl:IsPart vl lo)(pu:IsPart vu hi)(pk:IsPart vk st)(h0:st≠some 0)(hz:items.length≤1000)
  (k:∀ h' D,St g L h' nm ls ((D,lob (slicePick items.toArray lo hi st).toList 0)::mu)→Q (.ref D) ⟨h',gs,dr,tk,os⟩) :
  Shared.TypeIs ⟨h.push { cls:=.type "slice",data:=.fields #[vl,vu,vk] },gs,dr,tk,os⟩ (.ref l) "list" ∧ wpAny (model prog w) A (getItem (.ref l) (.ref h.objs.size)) Q E ⟨h.push { cls:=.type "slice",data:=.fields #[vl,vu,vk] },gs,dr,tk,os⟩:=by
 have hl2:=hl.push (o:={ cls:=.type "slice",data:=.fields #[vl,vu,vk] })
 refine⟨hl2.typeIs,wpAny_getItem_list_slice (s:=⟨_,gs,dr,tk,os⟩) hl2 (Heap.IsSliceOf.new ..) pl pu pk h0 ?_ (by simp;exact ntr hz (by decide))⟩
 have S1:=(S.push { cls:=.type "slice",data:=.fields #[vl,vu,vk] }).drop (List.sublist_cons_self _ _)
 have S2:=S1.push (lob (slicePick items.toArray lo hi st).toList 0)
 have:=k _ _ S2
 simpa using this
theorem sub2{value:Expr}{lower upper:Option Expr}{p pos:Pos}{s:Shared}
  (k:wpAny (model prog w) A (eval value env) (fun o s₁=>wpAny (model prog w) A (evalPart lower env) (fun a s₂=>wpAny (model prog w) A (evalPart upper env) (fun b s₃ =>
   Shared.TypeIs ⟨s₃.heap.push { cls:=.type "slice",data:=.fields #[a,b,.none] },s₃.gens,s₃.drawn,s₃.toks,s₃.os⟩ o "list" ∧ wpAny (model prog w) A (getItem o (.ref s₃.heap.objs.size)) Q E ⟨s₃.heap.push { cls:=.type "slice",data:=.fields #[a,b,.none] },s₃.gens,s₃.drawn,s₃.toks,s₃.os⟩) E s₂) E s₁) E s)
  (ht:∀ o r,letTemporaryGo value o r=pure ():=by intro _ _;rfl):wpAny (model prog w) A (eval (.Subscript value (.Slice lower upper none p) pos) env) Q E s :=
 wpAny_Subscript_Slice slot_list_getitem.lookup (wpAny_mono k (fun o s₁ h₁=>wpAny_Slice (wpAny_mono h₁ (fun a s₂ h₂=>wpAny_mono h₂ (fun b s₃ h₃=>wP h₃) fun _ _ x=>x) fun _ _ x=>x)) fun _ _ x=>x) ht
theorem sub3{value st:Expr}{lower upper:Option Expr}{p pos:Pos}{s:Shared}
  (k:wpAny (model prog w) A (eval value env) (fun o s₁=>wpAny (model prog w) A (evalPart lower env) (fun a s₂=>wpAny (model prog w) A (evalPart upper env) (fun b s₃=>wpAny (model prog w) A (eval st env) (fun c s₄ =>
   Shared.TypeIs ⟨s₄.heap.push { cls:=.type "slice",data:=.fields #[a,b,c] },s₄.gens,s₄.drawn,s₄.toks,s₄.os⟩ o "list" ∧ wpAny (model prog w) A (getItem o (.ref s₄.heap.objs.size)) Q E ⟨s₄.heap.push { cls:=.type "slice",data:=.fields #[a,b,c] },s₄.gens,s₄.drawn,s₄.toks,s₄.os⟩) E s₃) E s₂) E s₁) E s)
  (ht:∀ o r,letTemporaryGo value o r=pure ():=by intro _ _;rfl):wpAny (model prog w) A (eval (.Subscript value (.Slice lower upper (some st) p) pos) env) Q E s :=
 wpAny_Subscript_Slice_step slot_list_getitem.lookup (wpAny_mono k (fun o s₁ h₁=>wpAny_Slice (wpAny_mono h₁ (fun a s₂ h₂=>wpAny_mono h₂ (fun b s₃ h₃=>h₃) fun _ _ x=>x) fun _ _ x=>x)) fun _ _ x=>x) ht
theorem pt0{Q:Value→Shared→Prop}{s:Shared}(k:Q .none s):wpAny (model prog w) A (evalPart none env) Q E s:=wP k
theorem pt1{e:Expr}{Q:Value→Shared→Prop}{s:Shared}(k:wpAny (model prog w) A (eval e env) Q E s):wpAny (model prog w) A (evalPart (some e) env) Q E s:=k
theorem pick_from(items:List Value)(a:Nat):(slicePick items.toArray (some a) none none).toList=items.drop a:=by rw [slicePick_from']
theorem pick_upto(items:List Value)(b:Nat):(slicePick items.toArray none (some b) none).toList=items.take b:=by rw [slicePick_upto']
theorem pick_run'(items:List Value)(a b:Nat)(hb:b≤items.length)(hab:a≤b):(slicePick items.toArray (some a) (some b) none).toList=(items.drop a).take (b - a):=by rw [slicePick_run _ _ _ (by simpa using hb) hab]
theorem addL{l2:Addr}{items2:List Value}{n2:Nat}(S:St g L h nm ls mu)(hl:h.get? l=some (lob items n))(hl2:h.get? l2=some (lob items2 n2))(hz:items.length≤1000)(hz2:items2.length≤1000)
  (k:∀ h',St g L h' nm ls ((h.objs.size,lob (items++items2) 0)::mu)→Q (.ref h.objs.size) ⟨h',gs,dr,tk,os⟩):wpAny (model prog w) A (binaryOp .Add (.ref l) (.ref l2)) Q E ⟨h,gs,dr,tk,os⟩ :=
 add_arrays (s:=⟨h,gs,dr,tk,os⟩) S.F S.N (lob_list hl) (lob_list hl2) (fun h' F' N'=>k h' ⟨F',by simpa using N',List.nodup_cons.mpr ⟨fun m=>by
  refine oEA (List.mem_map.mp m) fun p hp e=>?_
  exact absurd (Heap.lt_size (S.N p hp).1) (by rw [e];exact Nat.lt_irrefl _),S.nd⟩⟩) (by simp;exact ntr (Nat.add_le_add hz hz2) (by decide))
theorem sumL{xs:List Int}(hA:A.handled=none)(S:St g L h nm ls mu)(hl:h.IsList l items.toArray)(hi:IntsAre items xs)(k:∀ h' tk t,St g L h' nm ls mu→Q (.int xs.sum t) ⟨h',gs,dr,tk,os⟩):wpAny (model prog w) A (call (.builtin "sum") [.ref l]) Q E ⟨h,gs,dr,tk,os⟩:=by
 obtain⟨ys,e⟩:=hi.allInts.items
 rw [e] at hl
 refine sum_intListG (s:=⟨h,gs,dr,tk,os⟩) hA hl fun h' tk' t' hk=>?_
 have:=k h' tk' t' (S.re (S.F.keeps hk) (S.N.grown hk))
 have e1:xs.sum=preSum (numAt ys) ys.size:=by
  rw [preSum_eq,List.take_of_length_le (by simp),← nums_intItems,← e]
  rw [show items.toArray.toList=items from rfl,hi.numsOf]
 rw [← e1];exact this
end
section
variable{w:World}{A:Around}{E:Value→Shared→Prop}{mg mb:Str→Option Value}{h g:Heap}{gs:Array GenState}{dr:Drawn}{tk:Nat}{os:OsState}{L m d l:Addr}{nm:List Str}{ls:List (Option Value)}{mu:List (Addr×Obj)}{od op:Obj}{oa ob:Option (Addr×List Int)}{xs ys:List Int}{K:Frag}{f:Addr}{fd:FuncData}{qual:Str}{sc:Scope}{body:List Stmt}{cdv:Value}{items:List Value}{n:Nat}{prog:Program}
theorem cFnC{e:Expr}{rest:List Expr}{pos:Pos}{env:Env}{s:Shared}{Q:Value→Shared→Prop}(H:FnC K f fd qual sc body cdv)
  (k:wpAny (model prog w) A (spliced (backTo pos (starEach (e::rest) env))) (fun vs s₁=>K.In s₁.heap∧wpAny (model prog w) A (call (.ref f) vs) Q E s₁) E s)
  (he:starEach (e::rest) env=(false,eval e env)::starEach rest env:=by rfl) :
  wpAny (model prog w) A (callWith pos (.ref f) [] (backTo pos (starEach (e::rest) env)) []) Q E s:=by
 refine oEA H.at_ fun o hl ho=>?_
 exact cF ho (wpAny_mono k (fun vs s₁ h₁=>⟨h₁.1 _ _ hl,h₁.2⟩) fun _ _ x=>x) he
theorem methM{R:Rel}{po:Addr×Obj}{name:Str}{f:Addr}{pl':Sem Bool}{Q:Value×List Value→Shared→Prop}(S:St g L h nm ls ((d,od)::po::mu))(D:Gd (Mine.K w.params) mg mb g)(hRk:∀ b o,R b o→Kn g mu b o)(hm:R m (inst CM d))(M:MX w R od oa ob)(me:Meth (Mine.K w.params) CM an name f)
  (q:Q (.ref f,[.ref m]) ⟨h,gs,dr,tk,os⟩):wpAny (model Mine.prog w) A (getMethod (.ref m) name pl') Q E ⟨h,gs,dr,tk,os⟩:=by
 refine oEA M fun vs I _=>?_
 exact methV (D.k.keeps S.F.keep) (pl _) me ((hRk _ _ hm).elim (fun e=>S.F.keep _ _ e) fun e=>(S.N _ (.tail _ (.tail _ e))).1) (S.get (j:=0) rfl) I q
theorem rng1{u:Tok}{n:Nat}{Q:Value→Shared→Prop}(S:St g L h nm ls mu)(k:∀ h' r t v tk,St g L h' nm ls mu→IsRange h' r 0 n 1 t u v→Q (.ref r) ⟨h',gs,dr,tk,os⟩):wpAny (model prog w) A (call (.type "range") [.int n u]) Q E ⟨h,gs,dr,tk,os⟩ :=
 call_range_1 (s:=⟨h,gs,dr,tk,os⟩) (k _ _ _ _ _ ((S.push _).drop (List.sublist_cons_self _ _)) (IsRange.new h 0 n 1 tk u (tk+1)))
theorem rng2{t u:Tok}{lo hi:Int}{Q:Value→Shared→Prop}(S:St g L h nm ls mu)(k:∀ h' r v tk,St g L h' nm ls mu→IsRange h' r lo hi 1 t u v→Q (.ref r) ⟨h',gs,dr,tk,os⟩):wpAny (model prog w) A (call (.type "range") [.int lo t,.int hi u]) Q E ⟨h,gs,dr,tk,os⟩ :=
 call_range_2 (s:=⟨h,gs,dr,tk,os⟩) (k _ _ _ _ ((S.push _).drop (List.sublist_cons_self _ _)) (IsRange.new h lo hi 1 t u tk))
theorem itemN{value slice:Expr}{v:Value}{k:Nat}{t:Tok}{Q:Value→Shared→Prop}(hl:h.get? l=some (lob items n))(hv:items[k]?=some v)(hz:items.length≤10000)(q:Q v ⟨h,gs,dr,tk,os⟩)
  (hs:subscripted slice false (.ref l) (.int k t)=operate [.ref l,.int k t] (getItem (.ref l) (.int k t)):=by with_unfolding_all rfl):wpAny (model prog w) A (subscriptTail value slice (.ref l) (.int k t)) Q E ⟨h,gs,dr,tk,os⟩:=by
 have:=lt_of_get hv
 exact itemL (lob_list hl) (by lia) (by lia) (by simpa using hv) q hs
theorem lenN{Q:Value→Shared→Prop}(hl:h.get? l=some (lob items n))(hf:items.length≤1000)(k:∀ t tk,Q (.int (items.length:Nat) t) ⟨h,gs,dr,tk,os⟩):wpAny (model prog w) A (call (.builtin "len") [.ref l]) Q E ⟨h,gs,dr,tk,os⟩:=len_ (lob_list hl) hf k
theorem intAt{vs:List Value}{xs:List Int}{k:Nat}(h:IntsAre vs xs)(hk:k < xs.length):∃ t,vs[k]?=some (.int (xs.getD k 0) t):=by
 have hv:vs[k]?=some (vs[k]'(by rw [h.length];exact hk)):=List.getElem?_eq_getElem _
 refine oEEA (Mine.IntsAre.get h hv) fun n t e e2=>?_
 refine⟨t,?_⟩
 rw [hv,e,List.getD_eq_getElem?_getD,e2];rfl
theorem ints_snoc{vs:List Value}{xs:List Int}{x:Int}{t:Tok}(h:IntsAre vs xs):IntsAre (vs++[.int x t]) (xs++[x]):=h.append (.cons _ _ .nil)
end
section
noncomputable def nox:Expr:=.Constant .none 0 ⟨0,0,0,0⟩
noncomputable def sv:Stmt→Expr
 | .Return (some v) _=>v
 | .Assign _ v _=>v
 | .AugAssign _ _ v _=>v
 | .Expr v _=>v
 | .If t _ _ _=>t
 | .For _ it _ _ _=>it
 | _=>nox
noncomputable def sb:Stmt→List Stmt
 | .For _ _ b _ _=>b
 | .If _ b _ _=>b
 | .While _ b _ _=>b
 | _=>[]
noncomputable def eelt:Expr→Expr
 | .ListComp e _ _ _=>e
 | _=>nox
noncomputable def earg(i:Nat):Expr→Expr
 | .Call _ as _ _=>as.getD i nox
 | _=>nox
noncomputable def ebl:Expr→Expr
 | .BinOp l _ _ _=>l
 | _=>nox
noncomputable def ebr:Expr→Expr
 | .BinOp _ _ r _=>r
 | _=>nox
noncomputable def eif:Expr→Expr
 | .IfExp _ b _ _=>b
 | _=>nox
noncomputable def compSc:Expr→Scope
 | .ListComp _ _ s _=>s
 | .DictComp _ _ _ s _=>s
 | _=>⟨.function,[],false,false,[]⟩
noncomputable def sc_told:Scope:=fnScope (stAt 7)
noncomputable def bd_told:List Stmt:=fnBody (stAt 7)
noncomputable def nm_told:List Str:=[(ofString "matchers"),(ofString "guess")]
theorem nd_told:nm_told.Nodup:=by decide +kernel
theorem kn_told:sc_told.kind=.function:=by kernel_rfl
noncomputable abbrev e_told(L:Addr):Env:=envOfC (ofString "_law_told") sc_told L 251 (.ref 250)
theorem fn_told(P:Params):FnC (K P) 251 (fdOf (o251 P)) (ofString "_law_told") sc_told bd_told (.ref 250):=⟨⟨o251 P,by kernel_rfl,by kernel_rfl⟩,by kernel_rfl,by kernel_rfl,by kernel_rfl,by kernel_rfl,fun L=>by kernel_rfl,by kernel_rfl,by kernel_rfl,by kernel_rfl,by kernel_rfl,kn_told⟩
theorem bi_told(P:Params)(s:Shared)(x0 x1:Value):BindsTo s (fdOf (o251 P)) ⟨[x0,x1],[]⟩ [((ofString "matchers"),x0),((ofString "guess"),x1)]:=BindsTo.of_eq (by kernel_rfl)
theorem led_told(n:Nat):led0 n sc_told.names=[]:=by kernel_rfl
theorem ve_told_matchers(L:Addr):VE (e_told L) nm_told (ofString "matchers") 0:=⟨kn_told,by kernel_rfl,nd_told,rfl,by decide +kernel⟩
theorem ve_told_guess(L:Addr):VE (e_told L) nm_told (ofString "guess") 1:=⟨kn_told,by kernel_rfl,nd_told,rfl,by decide +kernel⟩
noncomputable def sc_told_c1:Scope:=compSc (sv (bd_told.getD 2 (.Pass ⟨0,0,0,0⟩)))
noncomputable def nm_told_c1:List Str:=[(ofString "one")]
theorem nd_told_c1:nm_told_c1.Nodup:=by decide +kernel
theorem kn_told_c1:sc_told_c1.kind=.function:=by kernel_rfl
noncomputable abbrev cl_told_c1(L:Addr):List (Str×Addr):=[]
theorem sf_told_c1(L:Addr):ScF sc_told_c1 (e_told L) (cl_told_c1 L):=⟨by kernel_rfl,kn_told_c1,by decide +kernel⟩
noncomputable abbrev e_told_c1(L C:Addr):Env:=cenvOf sc_told_c1 (cl_told_c1 L) C (e_told L)
theorem ve_told_c1_one(L C:Addr):VE (e_told_c1 L C) nm_told_c1 (ofString "one") 0:=⟨by kernel_rfl,by kernel_rfl,nd_told_c1,rfl,by decide +kernel⟩
noncomputable def sc_items:Scope:=fnScope (stAt 8)
noncomputable def bd_items:List Stmt:=fnBody (stAt 8)
noncomputable def nm_items:List Str:=[(ofString "order")]
theorem nd_items:nm_items.Nodup:=by decide +kernel
theorem kn_items:sc_items.kind=.function:=by kernel_rfl
noncomputable abbrev e_items(L:Addr):Env:=envOfC (ofString "_law_items") sc_items L 256 (.ref 255)
theorem fn_items(P:Params):FnC (K P) 256 (fdOf (o256 P)) (ofString "_law_items") sc_items bd_items (.ref 255):=⟨⟨o256 P,by kernel_rfl,by kernel_rfl⟩,by kernel_rfl,by kernel_rfl,by kernel_rfl,by kernel_rfl,fun L=>by kernel_rfl,by kernel_rfl,by kernel_rfl,by kernel_rfl,by kernel_rfl,kn_items⟩
theorem bi_items(P:Params)(s:Shared)(x0 x1:Value):BindsTo s (fdOf (o256 P)) ⟨[x0,x1],[]⟩ [((ofString "order"),x0),((ofString "counts"),x1)]:=BindsTo.of_eq (by kernel_rfl)
theorem led_items(n:Nat):led0 n sc_items.names=[(n,cob none)]:=by kernel_rfl
theorem ve_items_order(L:Addr):VE (e_items L) nm_items (ofString "order") 0:=⟨kn_items,by kernel_rfl,nd_items,rfl,by decide +kernel⟩
theorem ce_items_counts(L:Addr):CE (e_items L) (ofString "counts") (L+1):=⟨kn_items,by kernel_rfl,by kernel_rfl,by decide +kernel⟩
noncomputable def sc_items_c1:Scope:=compSc (sv (bd_items.getD 0 (.Pass ⟨0,0,0,0⟩)))
noncomputable def nm_items_c1:List Str:=[(ofString "number"),(ofString "turn")]
theorem nd_items_c1:nm_items_c1.Nodup:=by decide +kernel
theorem kn_items_c1:sc_items_c1.kind=.function:=by kernel_rfl
noncomputable abbrev cl_items_c1(L:Addr):List (Str×Addr):=[((ofString "counts"),L+1)]
theorem sf_items_c1(L:Addr):ScF sc_items_c1 (e_items L) (cl_items_c1 L):=⟨by kernel_rfl,kn_items_c1,by decide +kernel⟩
noncomputable abbrev e_items_c1(L C:Addr):Env:=cenvOf sc_items_c1 (cl_items_c1 L) C (e_items L)
theorem ve_items_c1_number(L C:Addr):VE (e_items_c1 L C) nm_items_c1 (ofString "number") 0:=⟨by kernel_rfl,by kernel_rfl,nd_items_c1,rfl,by decide +kernel⟩
theorem ve_items_c1_turn(L C:Addr):VE (e_items_c1 L C) nm_items_c1 (ofString "turn") 1:=⟨by kernel_rfl,by kernel_rfl,nd_items_c1,rfl,by decide +kernel⟩
theorem ce_items_c1_counts(L C:Addr):CE (e_items_c1 L C) (ofString "counts") (L+1):=⟨by kernel_rfl,by kernel_rfl,by kernel_rfl,by decide +kernel⟩
theorem ge_items_c1_range(L C:Addr):GE (e_items_c1 L C) (ofString "range"):=⟨by kernel_rfl,by kernel_rfl,rfl,rfl,by decide +kernel⟩
noncomputable def sc_count:Scope:=fnScope (stAt 9)
noncomputable def bd_count:List Stmt:=fnBody (stAt 9)
noncomputable def nm_count:List Str:=[(ofString "matchers"),(ofString "number"),(ofString "size"),(ofString "count"),(ofString "told"),(ofString "full"),(ofString "less")]
theorem nd_count:nm_count.Nodup:=by decide +kernel
theorem kn_count:sc_count.kind=.function:=by kernel_rfl
noncomputable abbrev e_count(L:Addr):Env:=envOfC (ofString "_law_count") sc_count L 263 (.ref 262)
theorem fn_count(P:Params):FnC (K P) 263 (fdOf (o263 P)) (ofString "_law_count") sc_count bd_count (.ref 262):=⟨⟨o263 P,by kernel_rfl,by kernel_rfl⟩,by kernel_rfl,by kernel_rfl,by kernel_rfl,by kernel_rfl,fun L=>by kernel_rfl,by kernel_rfl,by kernel_rfl,by kernel_rfl,by kernel_rfl,kn_count⟩
theorem bi_count(P:Params)(s:Shared)(x0 x1 x2:Value):BindsTo s (fdOf (o263 P)) ⟨[x0,x1,x2],[]⟩ [((ofString "matchers"),x0),((ofString "number"),x1),((ofString "size"),x2)]:=BindsTo.of_eq (by kernel_rfl)
theorem led_count(n:Nat):led0 n sc_count.names=[]:=by kernel_rfl
theorem ve_count_matchers(L:Addr):VE (e_count L) nm_count (ofString "matchers") 0:=⟨kn_count,by kernel_rfl,nd_count,rfl,by decide +kernel⟩
theorem ve_count_number(L:Addr):VE (e_count L) nm_count (ofString "number") 1:=⟨kn_count,by kernel_rfl,nd_count,rfl,by decide +kernel⟩
theorem ve_count_size(L:Addr):VE (e_count L) nm_count (ofString "size") 2:=⟨kn_count,by kernel_rfl,nd_count,rfl,by decide +kernel⟩
theorem ve_count_count(L:Addr):VE (e_count L) nm_count (ofString "count") 3:=⟨kn_count,by kernel_rfl,nd_count,rfl,by decide +kernel⟩
theorem ve_count_told(L:Addr):VE (e_count L) nm_count (ofString "told") 4:=⟨kn_count,by kernel_rfl,nd_count,rfl,by decide +kernel⟩
theorem ve_count_full(L:Addr):VE (e_count L) nm_count (ofString "full") 5:=⟨kn_count,by kernel_rfl,nd_count,rfl,by decide +kernel⟩
theorem ve_count_less(L:Addr):VE (e_count L) nm_count (ofString "less") 6:=⟨kn_count,by kernel_rfl,nd_count,rfl,by decide +kernel⟩
theorem ge_count__law_told(L:Addr):GE (e_count L) (ofString "_law_told"):=⟨kn_count,by kernel_rfl,rfl,rfl,by decide +kernel⟩
noncomputable def sc_places:Scope:=fnScope (stAt 10)
noncomputable def bd_places:List Stmt:=fnBody (stAt 10)
noncomputable def nm_places:List Str:=[(ofString "matchers"),(ofString "order"),(ofString "number"),(ofString "counts"),(ofString "size"),(ofString "places"),(ofString "k"),(ofString "guess"),(ofString "full"),(ofString "told"),(ofString "side")]
theorem nd_places:nm_places.Nodup:=by decide +kernel
theorem kn_places:sc_places.kind=.function:=by kernel_rfl
noncomputable abbrev e_places(L:Addr):Env:=envOfC (ofString "_law_places") sc_places L 270 (.ref 269)
theorem fn_places(P:Params):FnC (K P) 270 (fdOf (o270 P)) (ofString "_law_places") sc_places bd_places (.ref 269):=⟨⟨o270 P,by kernel_rfl,by kernel_rfl⟩,by kernel_rfl,by kernel_rfl,by kernel_rfl,by kernel_rfl,fun L=>by kernel_rfl,by kernel_rfl,by kernel_rfl,by kernel_rfl,by kernel_rfl,kn_places⟩
theorem bi_places(P:Params)(s:Shared)(x0 x1 x2 x3 x4:Value):BindsTo s (fdOf (o270 P)) ⟨[x0,x1,x2,x3,x4],[]⟩ [((ofString "matchers"),x0),((ofString "order"),x1),((ofString "number"),x2),((ofString "counts"),x3),((ofString "size"),x4)]:=BindsTo.of_eq (by kernel_rfl)
theorem led_places(n:Nat):led0 n sc_places.names=[]:=by kernel_rfl
theorem ve_places_matchers(L:Addr):VE (e_places L) nm_places (ofString "matchers") 0:=⟨kn_places,by kernel_rfl,nd_places,rfl,by decide +kernel⟩
theorem ve_places_order(L:Addr):VE (e_places L) nm_places (ofString "order") 1:=⟨kn_places,by kernel_rfl,nd_places,rfl,by decide +kernel⟩
theorem ve_places_number(L:Addr):VE (e_places L) nm_places (ofString "number") 2:=⟨kn_places,by kernel_rfl,nd_places,rfl,by decide +kernel⟩
theorem ve_places_counts(L:Addr):VE (e_places L) nm_places (ofString "counts") 3:=⟨kn_places,by kernel_rfl,nd_places,rfl,by decide +kernel⟩
theorem ve_places_size(L:Addr):VE (e_places L) nm_places (ofString "size") 4:=⟨kn_places,by kernel_rfl,nd_places,rfl,by decide +kernel⟩
theorem ve_places_places(L:Addr):VE (e_places L) nm_places (ofString "places") 5:=⟨kn_places,by kernel_rfl,nd_places,rfl,by decide +kernel⟩
theorem ve_places_k(L:Addr):VE (e_places L) nm_places (ofString "k") 6:=⟨kn_places,by kernel_rfl,nd_places,rfl,by decide +kernel⟩
theorem ve_places_guess(L:Addr):VE (e_places L) nm_places (ofString "guess") 7:=⟨kn_places,by kernel_rfl,nd_places,rfl,by decide +kernel⟩
theorem ve_places_full(L:Addr):VE (e_places L) nm_places (ofString "full") 8:=⟨kn_places,by kernel_rfl,nd_places,rfl,by decide +kernel⟩
theorem ve_places_told(L:Addr):VE (e_places L) nm_places (ofString "told") 9:=⟨kn_places,by kernel_rfl,nd_places,rfl,by decide +kernel⟩
theorem ve_places_side(L:Addr):VE (e_places L) nm_places (ofString "side") 10:=⟨kn_places,by kernel_rfl,nd_places,rfl,by decide +kernel⟩
theorem ge_places_range(L:Addr):GE (e_places L) (ofString "range"):=⟨kn_places,by kernel_rfl,rfl,rfl,by decide +kernel⟩
theorem ge_places_len(L:Addr):GE (e_places L) (ofString "len"):=⟨kn_places,by kernel_rfl,rfl,rfl,by decide +kernel⟩
theorem ge_places__law_items(L:Addr):GE (e_places L) (ofString "_law_items"):=⟨kn_places,by kernel_rfl,rfl,rfl,by decide +kernel⟩
theorem ge_places__law_told(L:Addr):GE (e_places L) (ofString "_law_told"):=⟨kn_places,by kernel_rfl,rfl,rfl,by decide +kernel⟩
noncomputable def sc_spied:Scope:=fnScope (stAt 11)
noncomputable def bd_spied:List Stmt:=fnBody (stAt 11)
noncomputable def nm_spied:List Str:=[(ofString "matchers"),(ofString "pool"),(ofString "sizes"),(ofString "counts"),(ofString "number"),(ofString "order"),(ofString "places")]
theorem nd_spied:nm_spied.Nodup:=by decide +kernel
theorem kn_spied:sc_spied.kind=.function:=by kernel_rfl
noncomputable abbrev e_spied(L:Addr):Env:=envOfC (ofString "_law_spied") sc_spied L 275 (.ref 274)
theorem fn_spied(P:Params):FnC (K P) 275 (fdOf (o275 P)) (ofString "_law_spied") sc_spied bd_spied (.ref 274):=⟨⟨o275 P,by kernel_rfl,by kernel_rfl⟩,by kernel_rfl,by kernel_rfl,by kernel_rfl,by kernel_rfl,fun L=>by kernel_rfl,by kernel_rfl,by kernel_rfl,by kernel_rfl,by kernel_rfl,kn_spied⟩
theorem bi_spied(P:Params)(s:Shared)(x0 x1:Value):BindsTo s (fdOf (o275 P)) ⟨[x0,x1],[]⟩ [((ofString "matchers"),x0),((ofString "pool"),x1)]:=BindsTo.of_eq (by kernel_rfl)
theorem led_spied(n:Nat):led0 n sc_spied.names=[(n,cob none)]:=by kernel_rfl
theorem ve_spied_matchers(L:Addr):VE (e_spied L) nm_spied (ofString "matchers") 0:=⟨kn_spied,by kernel_rfl,nd_spied,rfl,by decide +kernel⟩
theorem ve_spied_pool(L:Addr):VE (e_spied L) nm_spied (ofString "pool") 1:=⟨kn_spied,by kernel_rfl,nd_spied,rfl,by decide +kernel⟩
theorem ve_spied_sizes(L:Addr):VE (e_spied L) nm_spied (ofString "sizes") 2:=⟨kn_spied,by kernel_rfl,nd_spied,rfl,by decide +kernel⟩
theorem ve_spied_counts(L:Addr):VE (e_spied L) nm_spied (ofString "counts") 3:=⟨kn_spied,by kernel_rfl,nd_spied,rfl,by decide +kernel⟩
theorem ve_spied_number(L:Addr):VE (e_spied L) nm_spied (ofString "number") 4:=⟨kn_spied,by kernel_rfl,nd_spied,rfl,by decide +kernel⟩
theorem ve_spied_order(L:Addr):VE (e_spied L) nm_spied (ofString "order") 5:=⟨kn_spied,by kernel_rfl,nd_spied,rfl,by decide +kernel⟩
theorem ve_spied_places(L:Addr):VE (e_spied L) nm_spied (ofString "places") 6:=⟨kn_spied,by kernel_rfl,nd_spied,rfl,by decide +kernel⟩
theorem ce_spied_told(L:Addr):CE (e_spied L) (ofString "told") (L+1):=⟨kn_spied,by kernel_rfl,by kernel_rfl,by decide +kernel⟩
theorem ge_spied__law_told(L:Addr):GE (e_spied L) (ofString "_law_told"):=⟨kn_spied,by kernel_rfl,rfl,rfl,by decide +kernel⟩
theorem ge_spied_range(L:Addr):GE (e_spied L) (ofString "range"):=⟨kn_spied,by kernel_rfl,rfl,rfl,by decide +kernel⟩
theorem ge_spied_len(L:Addr):GE (e_spied L) (ofString "len"):=⟨kn_spied,by kernel_rfl,rfl,rfl,by decide +kernel⟩
theorem ge_spied__law_count(L:Addr):GE (e_spied L) (ofString "_law_count"):=⟨kn_spied,by kernel_rfl,rfl,rfl,by decide +kernel⟩
theorem ge_spied__law_places(L:Addr):GE (e_spied L) (ofString "_law_places"):=⟨kn_spied,by kernel_rfl,rfl,rfl,by decide +kernel⟩
theorem ge_spied__law_items(L:Addr):GE (e_spied L) (ofString "_law_items"):=⟨kn_spied,by kernel_rfl,rfl,rfl,by decide +kernel⟩
noncomputable def sc_spied_c1:Scope:=compSc (sv (bd_spied.getD 1 (.Pass ⟨0,0,0,0⟩)))
noncomputable def nm_spied_c1:List Str:=[(ofString "size")]
theorem nd_spied_c1:nm_spied_c1.Nodup:=by decide +kernel
theorem kn_spied_c1:sc_spied_c1.kind=.function:=by kernel_rfl
noncomputable abbrev cl_spied_c1(L:Addr):List (Str×Addr):=[((ofString "told"),L+1)]
theorem sf_spied_c1(L:Addr):ScF sc_spied_c1 (e_spied L) (cl_spied_c1 L):=⟨by kernel_rfl,kn_spied_c1,by decide +kernel⟩
noncomputable abbrev e_spied_c1(L C:Addr):Env:=cenvOf sc_spied_c1 (cl_spied_c1 L) C (e_spied L)
theorem ve_spied_c1_size(L C:Addr):VE (e_spied_c1 L C) nm_spied_c1 (ofString "size") 0:=⟨by kernel_rfl,by kernel_rfl,nd_spied_c1,rfl,by decide +kernel⟩
theorem ce_spied_c1_told(L C:Addr):CE (e_spied_c1 L C) (ofString "told") (L+1):=⟨by kernel_rfl,by kernel_rfl,by kernel_rfl,by decide +kernel⟩
noncomputable def sc_lost:Scope:=fnScope (stAt 12)
noncomputable def bd_lost:List Stmt:=fnBody (stAt 12)
noncomputable def nm_lost:List Str:=[(ofString "across"),(ofString "number"),(ofString "order"),(ofString "first"),(ofString "longest"),(ofString "run"),(ofString "k"),(ofString "stays")]
theorem nd_lost:nm_lost.Nodup:=by decide +kernel
theorem kn_lost:sc_lost.kind=.function:=by kernel_rfl
noncomputable abbrev e_lost(L:Addr):Env:=envOfC (ofString "_law_lost") sc_lost L 280 (.ref 279)
theorem fn_lost(P:Params):FnC (K P) 280 (fdOf (o280 P)) (ofString "_law_lost") sc_lost bd_lost (.ref 279):=⟨⟨o280 P,by kernel_rfl,by kernel_rfl⟩,by kernel_rfl,by kernel_rfl,by kernel_rfl,by kernel_rfl,fun L=>by kernel_rfl,by kernel_rfl,by kernel_rfl,by kernel_rfl,by kernel_rfl,kn_lost⟩
theorem bi_lost(P:Params)(s:Shared)(x0 x1 x2 x3 x4:Value):BindsTo s (fdOf (o280 P)) ⟨[x0,x1,x2,x3,x4],[]⟩ [((ofString "across"),x0),((ofString "number"),x1),((ofString "order"),x2),((ofString "counts"),x3),((ofString "first"),x4)]:=BindsTo.of_eq (by kernel_rfl)
theorem led_lost(n:Nat):led0 n sc_lost.names=[(n,cob none)]:=by kernel_rfl
theorem ve_lost_across(L:Addr):VE (e_lost L) nm_lost (ofString "across") 0:=⟨kn_lost,by kernel_rfl,nd_lost,rfl,by decide +kernel⟩
theorem ve_lost_number(L:Addr):VE (e_lost L) nm_lost (ofString "number") 1:=⟨kn_lost,by kernel_rfl,nd_lost,rfl,by decide +kernel⟩
theorem ve_lost_order(L:Addr):VE (e_lost L) nm_lost (ofString "order") 2:=⟨kn_lost,by kernel_rfl,nd_lost,rfl,by decide +kernel⟩
theorem ve_lost_first(L:Addr):VE (e_lost L) nm_lost (ofString "first") 3:=⟨kn_lost,by kernel_rfl,nd_lost,rfl,by decide +kernel⟩
theorem ve_lost_longest(L:Addr):VE (e_lost L) nm_lost (ofString "longest") 4:=⟨kn_lost,by kernel_rfl,nd_lost,rfl,by decide +kernel⟩
theorem ve_lost_run(L:Addr):VE (e_lost L) nm_lost (ofString "run") 5:=⟨kn_lost,by kernel_rfl,nd_lost,rfl,by decide +kernel⟩
theorem ve_lost_k(L:Addr):VE (e_lost L) nm_lost (ofString "k") 6:=⟨kn_lost,by kernel_rfl,nd_lost,rfl,by decide +kernel⟩
theorem ve_lost_stays(L:Addr):VE (e_lost L) nm_lost (ofString "stays") 7:=⟨kn_lost,by kernel_rfl,nd_lost,rfl,by decide +kernel⟩
theorem ce_lost_counts(L:Addr):CE (e_lost L) (ofString "counts") (L+1):=⟨kn_lost,by kernel_rfl,by kernel_rfl,by decide +kernel⟩
theorem ge_lost_range(L:Addr):GE (e_lost L) (ofString "range"):=⟨kn_lost,by kernel_rfl,rfl,rfl,by decide +kernel⟩
theorem ge_lost_len(L:Addr):GE (e_lost L) (ofString "len"):=⟨kn_lost,by kernel_rfl,rfl,rfl,by decide +kernel⟩
theorem ge_lost_max(L:Addr):GE (e_lost L) (ofString "max"):=⟨kn_lost,by kernel_rfl,rfl,rfl,by decide +kernel⟩
theorem ge_lost_sum(L:Addr):GE (e_lost L) (ofString "sum"):=⟨kn_lost,by kernel_rfl,rfl,rfl,by decide +kernel⟩
noncomputable def sc_lost_c1:Scope:=compSc (earg 0 (eif (sv (bd_lost.getD 3 (.Pass ⟨0,0,0,0⟩)))))
noncomputable def nm_lost_c1:List Str:=[(ofString "one")]
theorem nd_lost_c1:nm_lost_c1.Nodup:=by decide +kernel
theorem kn_lost_c1:sc_lost_c1.kind=.function:=by kernel_rfl
noncomputable abbrev cl_lost_c1(L:Addr):List (Str×Addr):=[((ofString "counts"),L+1)]
theorem sf_lost_c1(L:Addr):ScF sc_lost_c1 (e_lost L) (cl_lost_c1 L):=⟨by kernel_rfl,kn_lost_c1,by decide +kernel⟩
noncomputable abbrev e_lost_c1(L C:Addr):Env:=cenvOf sc_lost_c1 (cl_lost_c1 L) C (e_lost L)
theorem ve_lost_c1_one(L C:Addr):VE (e_lost_c1 L C) nm_lost_c1 (ofString "one") 0:=⟨by kernel_rfl,by kernel_rfl,nd_lost_c1,rfl,by decide +kernel⟩
theorem ce_lost_c1_counts(L C:Addr):CE (e_lost_c1 L C) (ofString "counts") (L+1):=⟨by kernel_rfl,by kernel_rfl,by kernel_rfl,by decide +kernel⟩
noncomputable def sc_moved_right:Scope:=fnScope (stAt 13)
noncomputable def bd_moved_right:List Stmt:=fnBody (stAt 13)
noncomputable def nm_moved_right:List Str:=[(ofString "matchers"),(ofString "row"),(ofString "order"),(ofString "counts"),(ofString "size"),(ofString "r"),(ofString "rest"),(ofString "k"),(ofString "guess"),(ofString "told"),(ofString "side"),(ofString "lost")]
theorem nd_moved_right:nm_moved_right.Nodup:=by decide +kernel
theorem kn_moved_right:sc_moved_right.kind=.function:=by kernel_rfl
noncomputable abbrev e_moved_right(L:Addr):Env:=envOfC (ofString "_law_moved_right") sc_moved_right L 287 (.ref 286)
theorem fn_moved_right(P:Params):FnC (K P) 287 (fdOf (o287 P)) (ofString "_law_moved_right") sc_moved_right bd_moved_right (.ref 286):=⟨⟨o287 P,by kernel_rfl,by kernel_rfl⟩,by kernel_rfl,by kernel_rfl,by kernel_rfl,by kernel_rfl,fun L=>by kernel_rfl,by kernel_rfl,by kernel_rfl,by kernel_rfl,by kernel_rfl,kn_moved_right⟩
theorem bi_moved_right(P:Params)(s:Shared)(x0 x1 x2 x3 x4:Value):BindsTo s (fdOf (o287 P)) ⟨[x0,x1,x2,x3,x4],[]⟩ [((ofString "matchers"),x0),((ofString "row"),x1),((ofString "order"),x2),((ofString "counts"),x3),((ofString "size"),x4)]:=BindsTo.of_eq (by kernel_rfl)
theorem led_moved_right(n:Nat):led0 n sc_moved_right.names=[]:=by kernel_rfl
theorem ve_moved_right_matchers(L:Addr):VE (e_moved_right L) nm_moved_right (ofString "matchers") 0:=⟨kn_moved_right,by kernel_rfl,nd_moved_right,rfl,by decide +kernel⟩
theorem ve_moved_right_row(L:Addr):VE (e_moved_right L) nm_moved_right (ofString "row") 1:=⟨kn_moved_right,by kernel_rfl,nd_moved_right,rfl,by decide +kernel⟩
theorem ve_moved_right_order(L:Addr):VE (e_moved_right L) nm_moved_right (ofString "order") 2:=⟨kn_moved_right,by kernel_rfl,nd_moved_right,rfl,by decide +kernel⟩
theorem ve_moved_right_counts(L:Addr):VE (e_moved_right L) nm_moved_right (ofString "counts") 3:=⟨kn_moved_right,by kernel_rfl,nd_moved_right,rfl,by decide +kernel⟩
theorem ve_moved_right_size(L:Addr):VE (e_moved_right L) nm_moved_right (ofString "size") 4:=⟨kn_moved_right,by kernel_rfl,nd_moved_right,rfl,by decide +kernel⟩
theorem ve_moved_right_r(L:Addr):VE (e_moved_right L) nm_moved_right (ofString "r") 5:=⟨kn_moved_right,by kernel_rfl,nd_moved_right,rfl,by decide +kernel⟩
theorem ve_moved_right_rest(L:Addr):VE (e_moved_right L) nm_moved_right (ofString "rest") 6:=⟨kn_moved_right,by kernel_rfl,nd_moved_right,rfl,by decide +kernel⟩
theorem ve_moved_right_k(L:Addr):VE (e_moved_right L) nm_moved_right (ofString "k") 7:=⟨kn_moved_right,by kernel_rfl,nd_moved_right,rfl,by decide +kernel⟩
theorem ve_moved_right_guess(L:Addr):VE (e_moved_right L) nm_moved_right (ofString "guess") 8:=⟨kn_moved_right,by kernel_rfl,nd_moved_right,rfl,by decide +kernel⟩
theorem ve_moved_right_told(L:Addr):VE (e_moved_right L) nm_moved_right (ofString "told") 9:=⟨kn_moved_right,by kernel_rfl,nd_moved_right,rfl,by decide +kernel⟩
theorem ve_moved_right_side(L:Addr):VE (e_moved_right L) nm_moved_right (ofString "side") 10:=⟨kn_moved_right,by kernel_rfl,nd_moved_right,rfl,by decide +kernel⟩
theorem ve_moved_right_lost(L:Addr):VE (e_moved_right L) nm_moved_right (ofString "lost") 11:=⟨kn_moved_right,by kernel_rfl,nd_moved_right,rfl,by decide +kernel⟩
theorem ge_moved_right_range(L:Addr):GE (e_moved_right L) (ofString "range"):=⟨kn_moved_right,by kernel_rfl,rfl,rfl,by decide +kernel⟩
theorem ge_moved_right_len(L:Addr):GE (e_moved_right L) (ofString "len"):=⟨kn_moved_right,by kernel_rfl,rfl,rfl,by decide +kernel⟩
theorem ge_moved_right__law_items(L:Addr):GE (e_moved_right L) (ofString "_law_items"):=⟨kn_moved_right,by kernel_rfl,rfl,rfl,by decide +kernel⟩
theorem ge_moved_right__law_told(L:Addr):GE (e_moved_right L) (ofString "_law_told"):=⟨kn_moved_right,by kernel_rfl,rfl,rfl,by decide +kernel⟩
theorem ge_moved_right__law_lost(L:Addr):GE (e_moved_right L) (ofString "_law_lost"):=⟨kn_moved_right,by kernel_rfl,rfl,rfl,by decide +kernel⟩
theorem ge_moved_right_min(L:Addr):GE (e_moved_right L) (ofString "min"):=⟨kn_moved_right,by kernel_rfl,rfl,rfl,by decide +kernel⟩
theorem ge_moved_right_max(L:Addr):GE (e_moved_right L) (ofString "max"):=⟨kn_moved_right,by kernel_rfl,rfl,rfl,by decide +kernel⟩
noncomputable def sc_law:Scope:=fnScope (stAt 14)
noncomputable def bd_law:List Stmt:=fnBody (stAt 14)
noncomputable def nm_law:List Str:=[(ofString "counts"),(ofString "hidden"),(ofString "pool"),(ofString "matchers"),(ofString "row")]
theorem nd_law:nm_law.Nodup:=by decide +kernel
theorem kn_law:sc_law.kind=.function:=by kernel_rfl
noncomputable abbrev e_law(L:Addr):Env:=envOfC (ofString "law") sc_law L 292 (.ref 291)
theorem fn_law(P:Params):FnC (K P) 292 (fdOf (o292 P)) (ofString "law") sc_law bd_law (.ref 291):=⟨⟨o292 P,by kernel_rfl,by kernel_rfl⟩,by kernel_rfl,by kernel_rfl,by kernel_rfl,by kernel_rfl,fun L=>by kernel_rfl,by kernel_rfl,by kernel_rfl,by kernel_rfl,by kernel_rfl,kn_law⟩
theorem bi_law(P:Params)(s:Shared)(x0:Value):BindsTo s (fdOf (o292 P)) ⟨[x0],[]⟩ [((ofString "script"),x0)]:=BindsTo.of_eq (by kernel_rfl)
theorem led_law(n:Nat):led0 n sc_law.names=[(n,cob none),(n+1,cob none),(n+1+1,cob none)]:=by kernel_rfl
theorem ve_law_counts(L:Addr):VE (e_law L) nm_law (ofString "counts") 0:=⟨kn_law,by kernel_rfl,nd_law,rfl,by decide +kernel⟩
theorem ve_law_hidden(L:Addr):VE (e_law L) nm_law (ofString "hidden") 1:=⟨kn_law,by kernel_rfl,nd_law,rfl,by decide +kernel⟩
theorem ve_law_pool(L:Addr):VE (e_law L) nm_law (ofString "pool") 2:=⟨kn_law,by kernel_rfl,nd_law,rfl,by decide +kernel⟩
theorem ve_law_matchers(L:Addr):VE (e_law L) nm_law (ofString "matchers") 3:=⟨kn_law,by kernel_rfl,nd_law,rfl,by decide +kernel⟩
theorem ve_law_row(L:Addr):VE (e_law L) nm_law (ofString "row") 4:=⟨kn_law,by kernel_rfl,nd_law,rfl,by decide +kernel⟩
theorem ce_law_script(L:Addr):CE (e_law L) (ofString "script") (L+1):=⟨kn_law,by kernel_rfl,by kernel_rfl,by decide +kernel⟩
theorem ce_law_numbers(L:Addr):CE (e_law L) (ofString "numbers") (L+1+1):=⟨kn_law,by kernel_rfl,by kernel_rfl,by decide +kernel⟩
theorem ce_law_order(L:Addr):CE (e_law L) (ofString "order") (L+1+1+1):=⟨kn_law,by kernel_rfl,by kernel_rfl,by decide +kernel⟩
theorem ge_law_range(L:Addr):GE (e_law L) (ofString "range"):=⟨kn_law,by kernel_rfl,rfl,rfl,by decide +kernel⟩
theorem ge_law_min(L:Addr):GE (e_law L) (ofString "min"):=⟨kn_law,by kernel_rfl,rfl,rfl,by decide +kernel⟩
theorem ge_law_len(L:Addr):GE (e_law L) (ofString "len"):=⟨kn_law,by kernel_rfl,rfl,rfl,by decide +kernel⟩
theorem ge_law__law_items(L:Addr):GE (e_law L) (ofString "_law_items"):=⟨kn_law,by kernel_rfl,rfl,rfl,by decide +kernel⟩
theorem ge_law_sorted(L:Addr):GE (e_law L) (ofString "sorted"):=⟨kn_law,by kernel_rfl,rfl,rfl,by decide +kernel⟩
theorem ge_law_SequenceMatcher(L:Addr):GE (e_law L) (ofString "SequenceMatcher"):=⟨kn_law,by kernel_rfl,rfl,rfl,by decide +kernel⟩
theorem ge_law__law_spied(L:Addr):GE (e_law L) (ofString "_law_spied"):=⟨kn_law,by kernel_rfl,rfl,rfl,by decide +kernel⟩
theorem ge_law__law_moved_right(L:Addr):GE (e_law L) (ofString "_law_moved_right"):=⟨kn_law,by kernel_rfl,rfl,rfl,by decide +kernel⟩
noncomputable def sc_law_c1:Scope:=compSc (ebl (sv (bd_law.getD 0 (.Pass ⟨0,0,0,0⟩))))
noncomputable def nm_law_c1:List Str:=[(ofString "k")]
theorem nd_law_c1:nm_law_c1.Nodup:=by decide +kernel
theorem kn_law_c1:sc_law_c1.kind=.function:=by kernel_rfl
noncomputable abbrev cl_law_c1(L:Addr):List (Str×Addr):=[((ofString "script"),L+1)]
theorem sf_law_c1(L:Addr):ScF sc_law_c1 (e_law L) (cl_law_c1 L):=⟨by kernel_rfl,kn_law_c1,by decide +kernel⟩
noncomputable abbrev e_law_c1(L C:Addr):Env:=cenvOf sc_law_c1 (cl_law_c1 L) C (e_law L)
theorem ve_law_c1_k(L C:Addr):VE (e_law_c1 L C) nm_law_c1 (ofString "k") 0:=⟨by kernel_rfl,by kernel_rfl,nd_law_c1,rfl,by decide +kernel⟩
theorem ce_law_c1_script(L C:Addr):CE (e_law_c1 L C) (ofString "script") (L+1):=⟨by kernel_rfl,by kernel_rfl,by kernel_rfl,by decide +kernel⟩
theorem ge_law_c1_sum(L C:Addr):GE (e_law_c1 L C) (ofString "sum"):=⟨by kernel_rfl,by kernel_rfl,rfl,rfl,by decide +kernel⟩
noncomputable def sc_law_c2:Scope:=compSc (sv (bd_law.getD 1 (.Pass ⟨0,0,0,0⟩)))
noncomputable def nm_law_c2:List Str:=[(ofString "k")]
theorem nd_law_c2:nm_law_c2.Nodup:=by decide +kernel
theorem kn_law_c2:sc_law_c2.kind=.function:=by kernel_rfl
noncomputable abbrev cl_law_c2(L:Addr):List (Str×Addr):=[((ofString "numbers"),L+1+1)]
theorem sf_law_c2(L:Addr):ScF sc_law_c2 (e_law L) (cl_law_c2 L):=⟨by kernel_rfl,kn_law_c2,by decide +kernel⟩
noncomputable abbrev e_law_c2(L C:Addr):Env:=cenvOf sc_law_c2 (cl_law_c2 L) C (e_law L)
theorem ve_law_c2_k(L C:Addr):VE (e_law_c2 L C) nm_law_c2 (ofString "k") 0:=⟨by kernel_rfl,by kernel_rfl,nd_law_c2,rfl,by decide +kernel⟩
theorem ce_law_c2_numbers(L C:Addr):CE (e_law_c2 L C) (ofString "numbers") (L+1+1):=⟨by kernel_rfl,by kernel_rfl,by kernel_rfl,by decide +kernel⟩
noncomputable def sc_law_c3:Scope:=compSc (sv (bd_law.getD 2 (.Pass ⟨0,0,0,0⟩)))
noncomputable def nm_law_c3:List Str:=[(ofString "number")]
theorem nd_law_c3:nm_law_c3.Nodup:=by decide +kernel
theorem kn_law_c3:sc_law_c3.kind=.function:=by kernel_rfl
noncomputable abbrev cl_law_c3(L:Addr):List (Str×Addr):=[((ofString "numbers"),L+1+1)]
theorem sf_law_c3(L:Addr):ScF sc_law_c3 (e_law L) (cl_law_c3 L):=⟨by kernel_rfl,kn_law_c3,by decide +kernel⟩
noncomputable abbrev e_law_c3(L C:Addr):Env:=cenvOf sc_law_c3 (cl_law_c3 L) C (e_law L)
theorem led_law_c3(n:Nat):led0 n sc_law_c3.names=[]:=by kernel_rfl
theorem ve_law_c3_number(L C:Addr):VE (e_law_c3 L C) nm_law_c3 (ofString "number") 0:=⟨by kernel_rfl,by kernel_rfl,nd_law_c3,rfl,by decide +kernel⟩
theorem ce_law_c3_numbers(L C:Addr):CE (e_law_c3 L C) (ofString "numbers") (L+1+1):=⟨by kernel_rfl,by kernel_rfl,by kernel_rfl,by decide +kernel⟩
noncomputable def sc_law_c4:Scope:=compSc (ebr (earg 0 (sv (bd_law.getD 4 (.Pass ⟨0,0,0,0⟩)))))
noncomputable def nm_law_c4:List Str:=[(ofString "number")]
theorem nd_law_c4:nm_law_c4.Nodup:=by decide +kernel
theorem kn_law_c4:sc_law_c4.kind=.function:=by kernel_rfl
noncomputable abbrev cl_law_c4(L:Addr):List (Str×Addr):=[((ofString "order"),L+1+1+1)]
theorem sf_law_c4(L:Addr):ScF sc_law_c4 (e_law L) (cl_law_c4 L):=⟨by kernel_rfl,kn_law_c4,by decide +kernel⟩
noncomputable abbrev e_law_c4(L C:Addr):Env:=cenvOf sc_law_c4 (cl_law_c4 L) C (e_law L)
theorem ve_law_c4_number(L C:Addr):VE (e_law_c4 L C) nm_law_c4 (ofString "number") 0:=⟨by kernel_rfl,by kernel_rfl,nd_law_c4,rfl,by decide +kernel⟩
theorem ce_law_c4_order(L C:Addr):CE (e_law_c4 L C) (ofString "order") (L+1+1+1):=⟨by kernel_rfl,by kernel_rfl,by kernel_rfl,by decide +kernel⟩
end
section
variable{prog:Program}{w:World}{A:Around}{E:Value→Shared→Prop}{h g:Heap}{gs:Array GenState}{dr:Drawn}{tk:Nat}{os:OsState}{L a:Addr}{nm:List Str}{ls:List (Option Value)}{mu own:List (Addr×Obj)}{env:Env}{R:Result→Shared→Prop}{s:Shared}
noncomputable def BodyIs(elt:Expr)(gens:List Comprehension)(scope:Scope)(pos:Pos)(depth:Nat)(acc:Value)(env:Env)(target:Expr)(p:Pos)(body:Sem Unit):Prop :=
 ∀ it,compTurn (.ListComp elt gens scope pos) depth it acc env=(standAt p >>= fun _=>pyNext it >>= fun r=>match r with
   | none=>pure (.done .next)
   | some v=>letOwnedTupleGo target it v >>= fun _=>assign target env v >>= fun _=>body >>= fun _=>again (.compLoop (.ListComp elt gens scope pos) depth it acc env))
theorem codeAny_compLoopB{elt target:Expr}{gens:List Comprehension}{scope:Scope}{pos p:Pos}{depth:Nat}{it acc:Value}{body:Sem Unit}(hB:BodyIs elt gens scope pos depth acc env target p body)(I:Nat→Shared→Prop)
  (turn:∀ n s,I n s→wpAny (model prog w) A (pyNext it) (fun r s₁=>match r with
   | none=>R (.ok .next) s₁
   | some v=>wpAny (model prog w) A (assign target env v) (fun _ s₂=>wpAny (model prog w) A body (fun _ s₃=>∃ m,m < n∧I m s₃) (fun _ _=>False) s₂) (fun _ _=>False) s₁) (fun _ _=>False) s)
  (n:Nat) (h:I n s) (ht:∀ v,letOwnedTupleGo target it v=pure ()) :
  codeAny (model prog w) A (.compLoop (.ListComp elt gens scope pos) depth it acc env) R s:=by
 refine codeAny_loop rfl I (fun n s hI=>?_) n h
 show wpAny _ _ ((compTurn (.ListComp elt gens scope pos) depth it acc env).onRaise (fun x=>do noteFrame x env;theTreesLotGoes x)) _ _ s
 refine wpAny_noted ?_
 rw [hB it]
 refine wB (wpAny_standAt (wB (wpAny_mono (turn n s hI) (fun r s₁ h₁=>?_) fun _ _ x=>x.elim)))
 cases r with
 | none=>exact wP h₁
 | some v =>
  refine wB (wpAny_of_eq (ht v) ?_)
  exact wB (wpAny_mono h₁ (fun _ s₂ h₂=>wB (wpAny_mono h₂ (fun x s₃ h₃=>wP ⟨rfl,h₃⟩) fun _ _ x=>x.elim)) fun _ _ x=>x.elim)
inductive CmJB(g:Heap)(dr:Drawn)(os:OsState)(own:List (Addr×Obj))(D:Addr)(C:Addr)(n:Nat)(Sx:Nat→Heap→Prop)(nmc:List Str)(J:Nat→List Value→List (Option Value)→List (Addr×Obj)→Prop)(k:Nat)(s:Shared):Prop
 | mk (i ys m ls mu own' h gs tk) (q1:k=n - i) (q2:i≤n) (q3:s=⟨h,gs,dr,tk,os⟩) (q4:J i ys ls mu) (q6:own'.map (·.1)=own.map (·.1)) (q7:AllBare gs) (q8:St g C h nmc ls ((D,lob ys m)::mu++own')) (q9:Sx i h):CmJB g dr os own D C n Sx nmc J k s
theorem compLoopB{elt target:Expr}{gens:List Comprehension}{scope:Scope}{pos p:Pos}{depth:Nat}{body:Sem Unit}{I D C:Addr}{fp wr:List Addr}{n:Nat}{P:Nat→Value→Prop}{Sx:Nat→Heap→Prop}{nmc:List Str}{lsc:List (Option Value)}{m:Nat}{ys0:List Value}
  (hB:BodyIs elt gens scope pos depth (.ref D) env target p body)
  (J:Nat→List Value→List (Option Value)→List (Addr×Obj)→Prop) (W:Walks prog w A I fp wr n P Sx) (hfp:∀ b∈fp,b∈own.map (·.1)∨(∃ o,g.get? b=some o)∨∃ o,∀ i ys ls mu,J i ys ls mu→(b,o)∈mu) (hwr:∀ b∈wr,b∈own.map (·.1))
  (live:∀ i h,Sx i h→∀ b∈wr,∃ o,h.get? b=some o)
  (turn:∀ i v ys m ls mu own' h gs tk,i < n→P i v→J i ys ls mu→own'.map (·.1)=own.map (·.1)→AllBare gs→St g C h nmc ls ((D,lob ys m)::mu++own') →
   ∀ T:Shared→Prop,(∀ ys' m' s',CT g C D nmc own' dr os (J (i+1)) ys' m' s'→T s')→wpAny (model prog w) A (assign target env v) (fun _ s₂=>wpAny (model prog w) A body (fun _=>T) (fun _ _=>False) s₂) (fun _ _=>False) ⟨h,gs,dr,tk,os⟩)
  (done:∀ ys m ls mu h gs tk,J n ys ls mu→AllBare gs→St g C h nmc ls ((D,lob ys m)::mu)→R (.ok .next) ⟨h,gs,dr,tk,os⟩)
  (hJ:J 0 ys0 lsc mu) (S:St g C h nmc lsc ((D,lob ys0 m)::mu++own)) (hS:Sx 0 h) (hgs:AllBare gs) (ht:∀ it v,letOwnedTupleGo target it v=pure ():=by exact fun _ _=>rfl) :
  codeAny (model prog w) A (.compLoop (.ListComp elt gens scope pos) depth (.ref I) (.ref D) env) R ⟨h,gs,dr,tk,os⟩:=by
 refine codeAny_compLoopB hB (CmJB g dr os own D C n Sx nmc J) ?_ n
  ⟨0,ys0,m,lsc,mu,own,h,gs,tk,by lia,Nat.zero_le _,rfl,hJ,rfl,hgs,S,hS⟩ (ht _)
 rintro k s ⟨i,ys,m,ls,mu,own',h,gs,tk,rfl,hi,rfl,hJ,ho,hgs,S,hS⟩
 rcases Nat.lt_or_ge i n with hlt | hge
 ·refine W.item i _ _ _ hlt hS fun v h' tk' hP hS' keep=>?_
  have S1:St g C h nmc ls (((D,lob ys m)::mu)++own'):=S
  refine oEA (S1.turn (wr:=wr) (by rw [ho];exact hwr) keep (live _ _ hS')) fun own'' e S'=>?_
  refine wpAny_mono (turn i v ys m ls mu own'' h' gs tk' hlt hP hJ (e.trans ho) hgs S' (fun s'=>∃ ys' m',CT g C D nmc own'' dr os (J (i+1)) ys' m' s') fun ys' m' _ h=>⟨ys',m',h⟩) (fun _ s₂ h₂=>?_) fun _ _ x=>x.elim
  refine wpAny_mono h₂ (fun _ s₃ h₃=>?_) fun _ _ x=>x.elim
  obtain⟨ys',m',ls',mu',h3,gs',tk3,rfl,hg3,S3,hJ3⟩:=h₃
  refine⟨n - (i+1),by(clear e ho hi;exact Nat.sub_lt_sub_left (by lia) (by lia)),i+1,ys',m',ls',mu',own'',h3,gs',tk3,rfl,hlt,rfl,hJ3,e.trans ho,hg3,S3,frame_on (own:=own) (J:=fun ls mu=>∃ mu2,mu=(D,lob ys m)::mu2∧J i ys ls mu2) (J':=fun ls mu=>∃ mu2,mu=(D,lob ys' m')::mu2∧J (i+1) ys' ls mu2) W (fun b hb=>?_) (e.trans ho) S' S3 ⟨_,rfl,hJ⟩ ⟨_,rfl,hJ3⟩ hS'⟩
  rcases hfp b hb with x | x | ⟨o,x⟩
  ·exact .inl x
  ·exact .inr (.inl x)
  ·refine .inr (.inr ⟨o,?_,?_⟩)
   ·rintro ls _ ⟨mu2,rfl,j⟩;exact .tail _ (x _ _ _ _ j)
   ·rintro ls _ ⟨mu2,rfl,j⟩;exact .tail _ (x _ _ _ _ j)
 ·obtain rfl:i=n:=by lia
  have S1:St g C h nmc ls (((D,lob ys m)::mu)++own'):=S
  refine W.done _ _ _ hS fun h' tk' keep=>done ys m ls mu h' gs tk' hJ hgs (S1.leftOwn (by rw [ho];exact hwr) keep)
noncomputable def body0(elt:Expr)(gens:List Comprehension)(scope:Scope)(pos:Pos)(i2:Expr)(acc:Value)(env:Env):Sem Unit :=
 eval i2 env >>= fun x=>standAt i2.pos >>= fun _=>foldedSetIterable i2 env x >>= fun x=>holding [x] (pyIter x) >>= fun it'=>runOwn (.compStart (.ListComp elt gens scope pos) 1 it' acc env) env >>= fun _=>pure ()
noncomputable def body1(elt:Expr)(acc:Value)(env:Env):Sem Unit:=eval elt env >>= fun x=>call (.builtin "list.append") [acc,x] >>= fun _=>pure ()
theorem bodyIs0(elt t1 i1 t2 i2:Expr)(scope:Scope)(pos:Pos)(acc:Value)(env:Env):BodyIs elt [⟨t1,i1,[],0⟩,⟨t2,i2,[],0⟩] scope pos 0 acc env t1 i1.pos (body0 elt [⟨t1,i1,[],0⟩,⟨t2,i2,[],0⟩] scope pos i2 acc env):=fun it=>by
 have e:compTurn (.ListComp elt [⟨t1,i1,[],0⟩,⟨t2,i2,[],0⟩] scope pos) 0 it acc env=(standAt i1.pos >>= fun _=>pyNext it >>= fun r=>match r with
   | none=>pure (.done .next)
   | some v=>letOwnedTupleGo t1 it v >>= fun _=>assign t1 env v >>= fun _ =>
    eval i2 env >>= fun x=>standAt i2.pos >>= fun _=>foldedSetIterable i2 env x >>= fun x=>holding [x] (pyIter x) >>= fun it'=>runOwn (.compStart (.ListComp elt [⟨t1,i1,[],0⟩,⟨t2,i2,[],0⟩] scope pos) 1 it' acc env) env >>= fun _=>again (.compLoop (.ListComp elt [⟨t1,i1,[],0⟩,⟨t2,i2,[],0⟩] scope pos) 0 it acc env)):=by rfl
 rw [e]
 simp only [body0,bind_assoc,pure_bind]
theorem bodyIs1(elt t1 i1 t2 i2:Expr)(scope:Scope)(pos:Pos)(acc:Value)(env:Env):BodyIs elt [⟨t1,i1,[],0⟩,⟨t2,i2,[],0⟩] scope pos 1 acc env t2 i2.pos (body1 elt acc env):=fun it=>by rfl
theorem compStart1{elt t1 i1 t2 i2:Expr}{scope:Scope}{pos:Pos}{it acc:Value}(h0:codeAny (model prog w) A (.compLoop (.ListComp elt [⟨t1,i1,[],0⟩,⟨t2,i2,[],0⟩] scope pos) 1 it acc env) R s)
  (h:wpAny (model prog w) A (pyIter it) (fun it' s'=>codeAny (model prog w) A (.compLoop (.ListComp elt [⟨t1,i1,[],0⟩,⟨t2,i2,[],0⟩] scope pos) 1 it' acc env) R s') (notedBy (model prog w) A env fun x s'=>R (.error x) s') s) :
  codeAny (model prog w) A (.compStart (.ListComp elt [⟨t1,i1,[],0⟩,⟨t2,i2,[],0⟩] scope pos) 1 it acc env) R s:=by
 refine codeAny_of_tree ?_
 show wpAny _ _ ((compStart (.ListComp elt [⟨t1,i1,[],0⟩,⟨t2,i2,[],0⟩] scope pos) 1 it acc env).onRaise (fun x=>do noteFrame x env;standAt theWindowsPlace)) _ _ s
 refine wpAny_notedAt ?_
 unfold compStart
 show wpAny _ _ (ask >>= _) _ _ s
 refine wB (wpAny_askSetting (wpAny_ite ?_))
 split
 ·first
   | exact wB (wP (wP (And.intro rfl h0)))
   | exact wP (And.intro rfl h0)
 ·first
   | exact wB (wpAny_rule (wB (wpAny_standAt (wB (wpAny_mono h (fun it' s' h'=>wP (And.intro rfl h')) fun _ _ x=>x)))))
   | (refine wB (wpAny_rule ?_);show wpAny _ _ (standAt i2.pos >>= _) _ _ s;exact wB (wpAny_standAt (wB (wpAny_mono h (fun it' s' h'=>wP (And.intro rfl h')) fun _ _ x=>x))))
theorem compCoreB{elt target iter:Expr}{rest:List Comprehension}{p:Pos}{body:Addr→Addr→Sem Unit}{scope:Scope}{pos:Pos}{cl:List (Str×Addr)}{I:Addr}{fp wr:List Addr}{n:Nat}{P:Nat→Value→Prop}{Sx:Nat→Heap→Prop}{RR:Value→Addr→Result→Shared→Prop}(nmc:List Str)
  (J:CJ) (W:Walks prog w A I fp wr n P Sx) (hfp:∀ b∈fp,b∈own.map (·.1)∨(∃ o,g.get? b=some o)∨∃ o,∀ C D i ys ls mu,J C D i ys ls mu→(b,o)∈mu) (hwr:∀ b∈wr,b∈own.map (·.1))
  (live:∀ i h,Sx i h→∀ b∈wr,∃ o,h.get? b=some o) (hB:∀ C D,BodyIs elt (⟨target,iter,[],0⟩::rest) scope pos 0 (.ref D) (cenvOf scope cl C env) target p (body C D))
  (turn:∀ g' C D,Sub g g'→∀ i v ys m ls mu own h gs tk,i < n→P i v→J C D i ys ls mu→AllBare gs→St g' C h nmc ls ((D,lob ys m)::mu++own) →
   ∀ T:Shared→Prop,(∀ ys' m' s',CT g' C D nmc own dr os (J C D (i+1)) ys' m' s'→T s')→wpAny (model prog w) A (assign target (cenvOf scope cl C env) v) (fun _ s₂=>wpAny (model prog w) A (body C D) (fun _=>T) (fun _ _=>False) s₂) (fun _ _=>False) ⟨h,gs,dr,tk,os⟩)
  (done:∀ C D oC ys m lsc mu h gs tk,J C D n ys lsc mu→AllBare gs→St g L h nm ls ((C,oC)::(D,lob ys m)::mu)→(∀ h3:Heap,h3.get? C=some oC→∃ m,h3.Ns C m)→RR (.ref D) C (.ok .next) ⟨h,gs,dr,tk,os⟩)
  (hJ:∀ C D,J C D 0 [] (nmc.map fun _=>none) (led0 (C+1) scope.names++mu)) (S:St g L h nm ls (mu++own)) (hS:Sx 0 h) (hgs:AllBare gs) (ht:∀ it v,letOwnedTupleGo target it v=pure ():=by exact fun _ _=>rfl) :
  wpAny (model prog w) A (newList []) (fun acc s₃=>wpAny (model prog w) A (newFunctionEnv scope env.globals cl [] env.qual none .none (some env)) (fun cenv s₄ =>
   codeAny (model prog w) A (.compStart (.ListComp elt (⟨target,iter,[],0⟩::rest) scope pos) 0 (.ref I) acc { cenv with scope:=relabel scope env }) (RR acc cenv.locals) s₄) E s₃) E ⟨h,gs,dr,tk,os⟩:=by
 refine newL S (by simp) fun h1 S1=>?_
 refine newEnvC (gs:=gs) (dr:=dr) (tk:=tk) (os:=os) ?_
 have S2:=S1.inner (scope:=scope) nmc
 have hsub:Sub g (hideAll h1 (((h.objs.size,(⟨.type "list",none,.seq ([]:List Value).toArray 0,#[]⟩:Obj))::(mu++own)).map (·.1))):=fun b o e=>hideAll_get _ (S1.F.keep b o e) fun m=>by
  refine oEA (List.mem_map.mp m) fun p hp e'=>?_
  have:=(S1.N p hp).2.2
  rw [e',e] at this;cases this
 have S3:St (hideAll h1 (((h.objs.size,(⟨.type "list",none,.seq ([]:List Value).toArray 0,#[]⟩:Obj))::(mu++own)).map (·.1))) h1.objs.size (pushCells (h1.push { cls:=.type "dict",data:=.dict #[] }) scope.names) nmc (nmc.map fun _=>none) ((h.objs.size,lob [] 0)::(led0 (h1.objs.size+1) scope.names++mu)++own):=by
  refine S2.perm ?_
  simp only [List.cons_append,List.append_assoc]
  exact List.perm_middle
 have hS3:Sx 0 (pushCells (h1.push { cls:=.type "dict",data:=.dict #[] }) scope.names):=W.frame _ _ _ hS fun b hb o e=>by
  have e1:∀ b o,h.get? b=some o→(pushCells (h1.push { cls:=.type "dict",data:=.dict #[] }) scope.names).get? b=some o→True:=fun _ _ _ _=>trivial
  rcases hfp b hb with hm | ⟨o',hg⟩ | ⟨o',hj⟩
  ·refine oEA (List.mem_map.mp hm) ?_;rintro p hp rfl
   have a1:=(S.N p (mR _ hp)).1
   have a2:=(S3.N p (mR _ hp)).1
   rw [a1] at e;cases e;exact a2
  ·have a1:=S.F.keep _ _ hg
   rw [a1] at e;cases e
   exact S3.F.keep _ _ (hsub _ _ hg)
  ·have hm:=hj _ _ _ _ _ _ (hJ h1.objs.size h.objs.size)
   have a2:=(S3.N _ (mF _ (.tail _ hm))).1
   rcases List.mem_append.mp hm with hm | hm
   ·have:=led0_ge _ _ _ hm
    have h2:=Heap.lt_size e
    have h3:h.objs.size≤h1.objs.size:=Nat.le_of_lt (Heap.lt_size (S1.N _ (.head _)).1)
    exact absurd this (Nat.not_le.mpr (Nat.lt_succ_of_le (Nat.le_of_lt (Nat.lt_of_lt_of_le h2 h3))))
   ·have a1:=(S.N _ (mF _ hm)).1
    rw [a1] at e;cases e;exact a2
 have loop:∀ tk,codeAny (model prog w) A (.compLoop (.ListComp elt (⟨target,iter,[],0⟩::rest) scope pos) 0 (.ref I) (.ref h.objs.size) (cenvOf scope cl h1.objs.size env)) (RR (.ref h.objs.size) h1.objs.size) ⟨pushCells (h1.push { cls:=.type "dict",data:=.dict #[] }) scope.names,gs,dr,tk,os⟩:=by
  intro tk
  refine compLoopB (own:=own) (hB _ _) (J h1.objs.size h.objs.size) W (fun b hb=>?_) hwr live (fun i v ys m ls mu own' h gs tk hi hP hJ ho hg S=>turn _ _ _ hsub i v ys m ls mu own' h gs tk hi hP hJ hg S) (fun ys m lsc mu' h' gs' tk' hJ' hg' S'=>?_) (hJ _ _) S3 hS3 hgs ht
  ·rcases hfp b hb with x | ⟨o,x⟩ | ⟨o,x⟩
   ·exact .inl x
   ·exact .inr (.inl ⟨o,hsub _ _ x⟩)
   ·exact .inr (.inr ⟨o,x _ _⟩)
  ·refine oEA (S1.leave S' (Nat.le_refl _)) fun oC S4 hC=>?_
   exact done _ _ oC ys m lsc mu' h' gs' tk' hJ' hg' S4 hC
 refine codeAny_compStart_list (loop tk) (W.self 0 _ _ _ hS3 (loop tk))
theorem body0_{elt t1 i1 t2 i2:Expr}{scope:Scope}{pos:Pos}{acc:Value}{Q:Unit→Shared→Prop}
  (k:wpAny (model prog w) A (eval i2 env) (fun x s₁=>wpAny (model prog w) A (pyIter x) (fun it' s₂=>codeAny (model prog w) A (.compStart (.ListComp elt [⟨t1,i1,[],0⟩,⟨t2,i2,[],0⟩] scope pos) 1 it' acc env) (fun r s'=>match r with | .ok _=>Q () s' | .error _=>False) s₂) (fun _ _=>False) s₁) (fun _ _=>False) s)
  (hs:∀ x,foldedSetIterable i2 env x=pure x:=by intro _;rfl):wpAny (model prog w) A (body0 elt [⟨t1,i1,[],0⟩,⟨t2,i2,[],0⟩] scope pos i2 acc env) Q (fun _ _=>False) s:=by
 unfold body0
 refine wB (wpAny_mono k (fun x s₁ h₁=>?_) fun _ _ x=>x.elim)
 refine wB (wpAny_standAt ?_)
 refine wB (wpAny_of_eq (hs x) ?_)
 refine wB (wpAny_holding (wpAny_mono h₁ (fun it' s₂ h₂=>?_) fun _ _ x=>x.elim))
 refine wB (wpAny_runOwn (h:=none) ?_)
 show codeAny (model prog w) A _ _ _
 refine codeAny_mono h₂ (fun r s₃ h₃=>?_)
 cases r with
 | ok f=>exact wP h₃
 | error e=>exact h₃.elim
theorem compInner{elt t1 i1 t2 i2:Expr}{scope:Scope}{pos:Pos}{C D r:Addr}{n:Nat}{t u v:Tok}{nmc:List Str}{ys0:List Value}{m:Nat}(J:Nat→List Value→List (Option Value)→List (Addr×Obj)→Prop)(S:St g C h nmc ls ((D,lob ys0 m)::mu))(hh:A.handled=none)(hgs:AllBare gs)
  (hr:IsRange h r 0 n 1 t u v) (hn:n < 1000) (hlen:∀ i ys ls mu,J i ys ls mu→ys.length≤10000)
  (turn:∀ i k ys m ls mu own h gs tk,i < n→J i ys ls mu→AllBare gs→St g C h nmc ls ((D,lob ys m)::mu++own) →
   ∀ T:Value→Shared→Prop,(∀ x s',CE1 g C D nmc own dr os (J (i+1)) ys m x s'→T x s')→wpAny (model prog w) A (assign t2 env (.int (i:Nat) k)) (fun _ s₂=>wpAny (model prog w) A (eval elt env) T (fun _ _=>False) s₂) (fun _ _=>False) ⟨h,gs,dr,tk,os⟩)
  (done:∀ ys m ls mu h gs tk,J n ys ls mu→AllBare gs→St g C h nmc ls ((D,lob ys m)::mu)→R (.ok .next) ⟨h,gs,dr,tk,os⟩) (hJ:J 0 ys0 ls mu) (ht:∀ it v,letOwnedTupleGo t2 it v=pure ():=by exact fun _ _=>rfl) :
  wpAny (model prog w) A (pyIter (.ref r)) (fun it' s₂=>codeAny (model prog w) A (.compStart (.ListComp elt [⟨t1,i1,[],0⟩,⟨t2,i2,[],0⟩] scope pos) 1 it' (.ref D) env) R s₂) E ⟨h,gs,dr,tk,os⟩:=by
 refine overR (n:=n) S hh hr (by split<;>lia) (by decide) (Nat.lt_of_lt_of_le ‹_› (by lia)) fun I h1 own S1 ho hS W=>?_
 have loop:codeAny (model prog w) A (.compLoop (.ListComp elt [⟨t1,i1,[],0⟩,⟨t2,i2,[],0⟩] scope pos) 1 (.ref I) (.ref D) env) R ⟨h1,gs,dr,tk,os⟩:=by
  refine compLoopB (own:=own) (bodyIs1 elt t1 i1 t2 i2 scope pos (.ref D) env) J W (fun b hb=>.inl (by rw [ho];exact hb)) (fun b hb=>by rw [ho];exact hb) ?_ ?_ done hJ S1 hS hgs ht
  ·intro i h' hx b hb
   rw [mS hb];exact⟨_,hx⟩
  ·rintro i v ys m ls mu own' h' gs' tk' hi ⟨k,rfl⟩ hJ' ho' hg' S' T hT
   rw [show(0:Int)+(i:Int) * 1=(i:Nat) by simp]
   refine wpAny_mono (turn i k ys m ls mu own' h' gs' tk' hi hJ' hg' S' (fun x s'=>CE1 g C D nmc own' dr os (J (i+1)) ys m x s') fun _ _ h=>h) (fun _ s₂ h₂=>?_) fun _ _ x=>x.elim
   refine wB (wpAny_mono h₂ (fun x s₃ h₃=>?_) fun _ _ x=>x.elim)
   obtain⟨ls',mu',h3,gs3,tk3,rfl,hg3,S3,hJ3⟩:=h₃
   refine wB (append_ (j:=0) S3 rfl (by have:=hlen _ _ _ _ hJ3;simp at this;exact hlen i ys ls mu hJ') fun h5 S5=>wP (hT (ys++[x]) (m+1) _ ⟨ls',mu',h5,gs3,tk3,rfl,hg3,S5,hJ3⟩))
 exact compStart1 loop (W.self 0 _ _ _ hS loop)
end
section
variable{a b a' b':List Int}{alo ahi blo bhi i j k m m1 m2:Nat}
theorem Blk.part{i' j' k':Nat}(h:Blk a b alo ahi blo bhi i j k)(hi:i'+k'≤i+k)(h0:i≤i')(e:j'+i=j+i'):Blk a b alo ahi blo bhi i' j' k':=by
 have h1:=h.i0;have h2:=h.i1;have h3:=h.j0;have h4:=h.j1
 obtain⟨d,rfl⟩:=Nat.exists_eq_add_of_le h0
 obtain rfl:j'=j+d:=by lia
 refine⟨by lia,by exact ntr hi h2,by lia,by lia,fun t ht=>?_⟩
 have:=h.eq (d+t) (by lia)
 rwa [← Nat.add_assoc,← Nat.add_assoc] at this
theorem Blk.one{t:Nat}(h:Blk a b alo ahi blo bhi i j k)(ht:t < k):Blk a b alo ahi blo bhi (i+t) (j+t) 1:=h.part (by lia) (by lia) (by lia)
theorem blk_of_ones(hk:0 < k)(h:∀ t,t < k→Blk a b alo ahi blo bhi (i+t) (j+t) 1):Blk a b alo ahi blo bhi i j k:=by
 obtain⟨K,rfl⟩:=Nat.exists_eq_add_of_le' hk
 have h0:=h 0 hk
 have h1:=h K (Nat.lt_succ_self K)
 exact⟨h0.i0,h1.i1,h0.j0,h1.j1,fun t ht=>(h t ht).eq 0 Nat.one_pos⟩
theorem Best.det{i' j' k':Nat}(h:Best a b alo ahi blo bhi i j k)(h':Best a b alo ahi blo bhi i' j' k')(hk:0 < k):i=i'∧j=j'∧k=k':=by
 have h1:=h'.most _ _ _ h.blk hk
 have hk':0 < k':=by lia
 have h2:=h.most _ _ _ h'.blk hk'
 lia
theorem GM.det(h:GM a b alo ahi blo bhi m):∀ {m'},GM a b alo ahi blo bhi m'→m=m':=by
 induction h with
 | none hn =>
  intro m' h'
  cases h' with
  | none _=>rfl
  | step B hk _ _=>exact absurd (B.blk.part (i':=_) (j':=_) (k':=1) (by lia) (Nat.le_refl _) rfl) (hn _ _)
 | step B hk _ _ ih1 ih2 =>
  intro m' h'
  cases h' with
  | none hn=>exact absurd (B.blk.part (i':=_) (j':=_) (k':=1) (by lia) (Nat.le_refl _) rfl) (hn _ _)
  | step B' hk' g1 g2 =>
   refine oAA (B.det B' hk) ?_;rintro rfl rfl rfl
   rw [ih1 g1,ih2 g2]
theorem Blk.move{di dj:Nat}(e:∀ i j,i < ahi→j < bhi→alo≤i→blo≤j→((a[i]?=b[j]?∧(a[i]?).isSome=true)↔(a'[i+di]?=b'[j+dj]?∧(a'[i+di]?).isSome=true))) :
  Blk a b alo ahi blo bhi i j k↔(0 < k∧Blk a' b' (alo+di) (ahi+di) (blo+dj) (bhi+dj) (i+di) (j+dj) k∨k=0∧Blk a b alo ahi blo bhi i j k):=by
 constructor
 ·intro h
  rcases Nat.eq_zero_or_pos k with hk | hk
  ·exact .inr ⟨hk,h⟩
  ·have h1:=h.i0;have h2:=h.i1;have h3:=h.j0;have h4:=h.j1
   refine .inl ⟨hk,by lia,by lia,by lia,by lia,fun t ht=>?_⟩
   have:=(e (i+t) (j+t) (by lia) (by lia) (by lia) (by lia)).mp (h.eq t ht)
   rwa [show i+t+di=i+di+t by lia,show j+t+dj=j+dj+t by lia] at this
 ·rintro (⟨hk,h⟩ | ⟨_,h⟩)
  ·have h1:=h.i0;have h2:=h.i1;have h3:=h.j0;have h4:=h.j1
   refine⟨by lia,by lia,by lia,by lia,fun t ht=>?_⟩
   have:=h.eq t ht
   rw [show i+di+t=i+t+di by lia,show j+dj+t=j+t+dj by lia] at this
   exact(e (i+t) (j+t) (by lia) (by lia) (by lia) (by lia)).mpr this
  ·exact h
theorem GM.move(h:GM a b alo ahi blo bhi m){di dj:Nat}:(∀ i j,i < ahi→j < bhi→alo≤i→blo≤j→((a[i]?=b[j]?∧(a[i]?).isSome=true)↔(a'[i+di]?=b'[j+dj]?∧(a'[i+di]?).isSome=true))) →
  GM a' b' (alo+di) (ahi+di) (blo+dj) (bhi+dj) m:=by
 induction h with
 | @none alo ahi blo bhi hn =>
  intro e
  refine .none fun i j hb=>?_
  have h1:=hb.i0;have h3:=hb.j0
  obtain⟨i,rfl⟩:=Nat.exists_eq_add_of_le' (ntr (Nat.le_add_left _ _) h1)
  obtain⟨j,rfl⟩:=Nat.exists_eq_add_of_le' (ntr (Nat.le_add_left _ _) h3)
  exact hn _ _ ((Blk.move e).mpr (.inl ⟨Nat.one_pos,hb⟩))
 | @step alo ahi blo bhi i j k m1 m2 B hk g1 g2 ih1 ih2 =>
  intro e
  have b1:=B.blk.i0;have b2:=B.blk.i1;have b3:=B.blk.j0;have b4:=B.blk.j1
  have B':Best a' b' (alo+di) (ahi+di) (blo+dj) (bhi+dj) (i+di) (j+dj) k:=by
   refine⟨?_,fun z=>absurd z (by lia),fun i' j' k' hb hk'=>?_⟩
   ·rcases (Blk.move e).mp B.blk with⟨_,h⟩ | ⟨z,_⟩
    ·exact h
    ·lia
   ·have h1:=hb.i0;have h3:=hb.j0
    obtain⟨i',rfl⟩:=Nat.exists_eq_add_of_le' (ntr (Nat.le_add_left _ _) h1)
    obtain⟨j',rfl⟩:=Nat.exists_eq_add_of_le' (ntr (Nat.le_add_left _ _) h3)
    have:=B.most _ _ _ ((Blk.move e).mpr (.inl ⟨hk',hb⟩)) hk'
    exact⟨this.1,fun z=>(this.2 z).imp (Nat.add_lt_add_right · _) fun y=>⟨congrArg (·+di) y.1,Nat.add_le_add_right y.2 _⟩⟩
  have r1:=ih1 fun i' j' h1 h2 h3 h4=>e i' j' (Nat.lt_of_lt_of_le ‹_› (by lia)) (Nat.lt_of_lt_of_le ‹_› (by lia)) h3 h4
  have r2:=ih2 fun i' j' h1 h2 h3 h4=>e i' j' h1 h2 (by lia) (by lia)
  rw [show i+k+di=i+di+k by lia,show j+k+dj=j+dj+k by lia] at r2
  exact .step B' hk r1 r2
theorem GM.sub{alo' ahi' blo' bhi':Nat}(h:GM a b alo' ahi' blo' bhi' m):∀ {alo ahi blo bhi},alo≤alo'→ahi'≤ahi→blo≤blo'→bhi'≤bhi→(∀ i j,Blk a b alo ahi blo bhi i j 1→Blk a b alo' ahi' blo' bhi' i j 1)→GM a b alo ahi blo bhi m:=by
 induction h with
 | none hn=>intro alo ahi blo bhi _ _ _ _ e;exact .none fun i j hb=>hn _ _ (e _ _ hb)
 | @step alo' ahi' blo' bhi' i j k m1 m2 B hk g1 g2 ih1 ih2 =>
  intro alo ahi blo bhi w1 w2 w3 w4 e
  have b1:=B.blk.i0;have b2:=B.blk.i1;have b3:=B.blk.j0;have b4:=B.blk.j1
  have B':Best a b alo ahi blo bhi i j k:=by
   refine⟨⟨by lia,by exact ntr b2 w2,by lia,by exact ntr b4 w4,B.blk.eq⟩,fun z=>absurd z (by lia),fun i' j' k' hb hk'=>?_⟩
   exact B.most _ _ _ (blk_of_ones hk' fun t ht=>e _ _ (hb.one ht)) hk'
  refine .step B' hk (ih1 w1 (Nat.le_refl _) w3 (Nat.le_refl _) fun i' j' hb=>?_) (ih2 (Nat.le_refl _) w2 (Nat.le_refl _) w4 fun i' j' hb=>?_)
  ·have c1:=hb.i0;have c2:=hb.i1;have c3:=hb.j0;have c4:=hb.j1
   have:=e i' j' ⟨by lia,by lia,by lia,by lia,hb.eq⟩
   exact⟨this.i0,c2,this.j0,c4,hb.eq⟩
  ·have c1:=hb.i0;have c2:=hb.i1;have c3:=hb.j0;have c4:=hb.j1
   have:=e i' j' ⟨by exact ntr ‹_› (by lia),by lia,by exact ntr ‹_› (by lia),by lia,hb.eq⟩
   exact⟨c1,this.i1,c3,this.j1,hb.eq⟩
structure Sep(a b:List Int)(alo ahi blo bhi p q:Nat):Prop where
 one:∀ i j,Blk a b alo ahi blo bhi i j 1→(i < p↔j < q)
 two:∀ i j,i+1=p→j+1=q→¬ Blk a b alo ahi blo bhi i j 2
theorem Sep.mono{alo' ahi' blo' bhi' p q:Nat}(h:Sep a b alo ahi blo bhi p q)(w1:alo≤alo')(w2:ahi'≤ahi)(w3:blo≤blo')(w4:bhi'≤bhi):Sep a b alo' ahi' blo' bhi' p q:=by
 have up:∀ i j k,Blk a b alo' ahi' blo' bhi' i j k→Blk a b alo ahi blo bhi i j k:=fun i j k hb=>by
  have c1:=hb.i0;have c2:=hb.i1;have c3:=hb.j0;have c4:=hb.j1
  exact⟨by lia,by exact ntr c2 w2,by lia,by exact ntr c4 w4,hb.eq⟩
 exact⟨fun i j hb=>h.one _ _ (up _ _ _ hb),fun i j e1 e2 hb=>h.two _ _ e1 e2 (up _ _ _ hb)⟩
theorem Sep.side{p q:Nat}(h:Sep a b alo ahi blo bhi p q)(hb:Blk a b alo ahi blo bhi i j k)(hk:0 < k):(i+k≤p∧j+k≤q)∨(p≤i∧q≤j):=by
 have h0:=h.one _ _ (hb.one hk)
 obtain⟨K,rfl⟩:=Nat.exists_eq_add_of_le' hk
 have h1:=h.one _ _ (hb.one (Nat.lt_succ_self K))
 simp only [Nat.add_zero] at h0
 by_cases c0:i < p
 ·by_cases c1:i+K < p
  ·exact .inl ⟨c1,h1.mp c1⟩
  ·exfalso
   obtain⟨e,rfl⟩:=Nat.exists_eq_add_of_lt c0
   have e1:=h.one _ _ (hb.one (t:=e+1) (by lia))
   have e2:=h.one _ _ (hb.one (t:=e) (by lia))
   have c2:¬ (j+(e+1) < q):=fun z=>absurd (e1.mpr z) (Nat.lt_irrefl _)
   have c3:j+e < q:=e2.mp (Nat.lt_succ_self _)
   exact h.two (i+e) (j+e) rfl (by lia) (hb.part (by lia) (by lia) (by lia))
 ·exact .inr ⟨Nat.le_of_not_lt c0,Nat.le_of_not_lt fun z=>c0 (h0.mpr z)⟩
theorem GM.add:∀ (n:Nat) {alo ahi blo bhi p q m1 m2:Nat},ahi≤alo+n→alo≤p→p≤ahi→blo≤q→q≤bhi→Sep a b alo ahi blo bhi p q→GM a b alo p blo q m1→GM a b p ahi q bhi m2→GM a b alo ahi blo bhi (m1+m2):=by
 intro n
 induction n with
 | zero =>
  intro alo ahi blo bhi p q m1 m2 hn w1 w2 w3 w4 S g1 g2
  have e1:=(gm_empty (a:=a) (b:=b) (alo:=alo) (ahi:=p) (blo:=blo) (bhi:=q) (.inl (ntr w2 hn))).det g1
  have e2:=(gm_empty (a:=a) (b:=b) (alo:=p) (ahi:=ahi) (blo:=q) (bhi:=bhi) (.inl (ntr hn w1))).det g2
  subst e1 e2
  exact gm_empty (.inl (by lia))
 | succ n ih =>
  intro alo ahi blo bhi p q m1 m2 hn w1 w2 w3 w4 S g1 g2
  have inL:∀ {i j k},Blk a b alo ahi blo bhi i j k→i+k≤p→j+k≤q→Blk a b alo p blo q i j k:=fun hb h1 h2=>⟨hb.i0,h1,hb.j0,h2,hb.eq⟩
  have inR:∀ {i j k},Blk a b alo ahi blo bhi i j k→p≤i→q≤j→Blk a b p ahi q bhi i j k:=fun hb h1 h2=>⟨h1,hb.i1,h2,hb.j1,hb.eq⟩
  have upL:∀ {i j k},Blk a b alo p blo q i j k→Blk a b alo ahi blo bhi i j k:=fun hb=>⟨hb.i0,by have:=hb.i1;exact ntr this w2,hb.j0,by have:=hb.j1;exact ntr this w4,hb.eq⟩
  have upR:∀ {i j k},Blk a b p ahi q bhi i j k→Blk a b alo ahi blo bhi i j k:=fun hb=>⟨by have:=hb.i0;lia,hb.i1,by have:=hb.j0;lia,hb.j1,hb.eq⟩
  have left:∀ {i j k x1 x2},Best a b alo p blo q i j k→0 < k→GM a b alo i blo j x1→GM a b (i+k) p (j+k) q x2→(∀ i' j' k',Blk a b p ahi q bhi i' j' k'→0 < k'→k'≤k)→GM a b alo ahi blo bhi (k+x1+x2+m2):=by
   intro i j k x1 x2 B hk y1 y2 hR
   have b1:=B.blk.i0;have b2:=B.blk.i1;have b3:=B.blk.j0;have b4:=B.blk.j1
   have B':Best a b alo ahi blo bhi i j k:=⟨upL B.blk,fun z=>absurd z (by lia),fun i' j' k' hb hk'=>by
    rcases S.side hb hk' with⟨s1,s2⟩ | ⟨s1,s2⟩
    ·exact B.most _ _ _ (inL hb s1 s2) hk'
    ·have:=hR _ _ _ (inR hb s1 s2) hk'
     exact⟨this,fun _=>.inl (by lia)⟩⟩
   have y3:=ih (p:=p) (q:=q) (ntr ‹_› (by lia)) (by lia) w2 (by lia) w4 (S.mono (alo':=i+k) (ahi':=ahi) (blo':=j+k) (bhi':=bhi) (ntr ‹_› (by lia)) (Nat.le_refl _) (ntr ‹_› (by lia)) (Nat.le_refl _)) y2 g2
   have:=GM.step B' hk y1 y3
   rwa [← Nat.add_assoc] at this
  have right:∀ {i j k x1 x2},Best a b p ahi q bhi i j k→0 < k→GM a b p i q j x1→GM a b (i+k) ahi (j+k) bhi x2→(∀ i' j' k',Blk a b alo p blo q i' j' k'→0 < k'→k' < k)→GM a b alo ahi blo bhi (m1+(k+x1+x2)):=by
   intro i j k x1 x2 B hk y1 y2 hL
   have b1:=B.blk.i0;have b2:=B.blk.i1;have b3:=B.blk.j0;have b4:=B.blk.j1
   have B':Best a b alo ahi blo bhi i j k:=⟨upR B.blk,fun z=>absurd z (by lia),fun i' j' k' hb hk'=>by
    rcases S.side hb hk' with⟨s1,s2⟩ | ⟨s1,s2⟩
    ·have:=hL _ _ _ (inL hb s1 s2) hk'
     exact⟨by lia,fun z=>absurd z (by lia)⟩
    ·exact B.most _ _ _ (inR hb s1 s2) hk'⟩
   have y3:=ih (p:=p) (q:=q) (by lia) w1 b1 w3 b3 (S.mono (alo':=alo) (ahi':=i) (blo':=blo) (bhi':=j) (Nat.le_refl _) (by lia) (Nat.le_refl _) (by lia)) g1 y1
   have:=GM.step B' hk y3 y2
   rwa [show k+(m1+x1)+x2=m1+(k+x1+x2) by lia] at this
  rcases g1 with n1 | ⟨B1,hk1,y1,y2⟩
  ·rcases g2 with n2 | ⟨B2,hk2,z1,z2⟩
   ·refine .none fun i j hb=>?_
    rcases S.side hb (by lia) with⟨s1,s2⟩ | ⟨s1,s2⟩
    ·exact n1 _ _ (inL hb s1 s2)
    ·exact n2 _ _ (inR hb s1 s2)
   ·exact right B2 hk2 z1 z2 fun i' j' k' hb hk'=>absurd (hb.one hk') (n1 _ _)
  ·rename_i i1 j1 k1 x1 x2
   rcases g2 with n2 | ⟨B2,hk2,z1,z2⟩
   ·exact left B1 hk1 y1 y2 fun i' j' k' hb hk'=>absurd (hb.one hk') (n2 _ _)
   ·rename_i i2 j2 k2 u1 u2
    by_cases c:k2≤k1
    ·exact left B1 hk1 y1 y2 fun i' j' k' hb hk'=>ntr (B2.most _ _ _ hb hk').1 c
    ·exact right B2 hk2 z1 z2 fun i' j' k' hb hk'=>Nat.lt_of_le_of_lt (B1.most _ _ _ hb hk').1 (by lia)
end
section
variable{a b:List Int}{alo ahi blo bhi i j k m m1 m2:Nat}
end
noncomputable def GML(x y:List Int)(m:Nat):Prop:=GM x y 0 x.length 0 y.length m
section
variable{x1 x2 y1 y2 x y A0 A1 B0 B1:List Int}{m m1 m2:Nat}
theorem GML.det{m':Nat}(h:GML x y m)(h':GML x y m'):m=m':=GM.det h h'
theorem blk_val{a b:List Int}{alo ahi blo bhi i j k t:Nat}(h:Blk a b alo ahi blo bhi i j k)(ht:t < k):∃ u,a[i+t]?=some u∧b[j+t]?=some u:=by
 obtain⟨e,s⟩:=h.eq t ht
 obtain⟨u,hu⟩:=Option.isSome_iff_exists.mp s
 exact⟨u,hu,e▸hu⟩
theorem at_two{l1 l2:List Int}{i:Nat}{u:Int}(h:(l1++l2)[i]?=some u):(i < l1.length∧u∈l1∧l1[i]?=some u)∨(l1.length≤i∧i < l1.length+l2.length∧u∈l2∧l2[i - l1.length]?=some u):=by
 by_cases c:i < l1.length
 ·rw [List.getElem?_append_left c] at h
  exact .inl ⟨c,List.mem_of_getElem? h,h⟩
 ·rw [List.getElem?_append_right (by lia)] at h
  have:=(List.getElem?_eq_some_iff.mp h).1
  exact .inr ⟨by lia,by lia,List.mem_of_getElem? h,h⟩
end
noncomputable def win(a:List Int)(lo hi:Nat):List Int:=(a.drop lo).take (hi - lo)
theorem win_split(a:List Int){lo mid hi:Nat}(h1:lo≤mid)(h2:mid≤hi):win a lo hi=win a lo mid++win a mid hi:=by
 unfold win
 rw [show hi - lo=(mid - lo)+(hi - mid) by exact Nat.sub_eq_of_eq_add (by lia),List.take_add,List.drop_drop,show lo+(mid - lo)=mid by exact Nat.add_sub_of_le (by lia)]
theorem win_get(a:List Int){lo hi t:Nat}(ht:t < hi - lo):(win a lo hi)[t]?=a[lo+t]?:=by
 unfold win
 rw [List.getElem?_take_of_lt ht,List.getElem?_drop]
theorem win_blk{a b:List Int}{alo ahi blo bhi i j k:Nat}(h:Blk a b alo ahi blo bhi i j k):win a i (i+k)=win b j (j+k)∧(win a i (i+k)).length=k:=by
 have hlen:∀ {l:List Int} {i:Nat},(∀ t,t < k→(l[i+t]?).isSome=true)→(win l i (i+k)).length=k:=fun {l i} hs=>by
  unfold win
  rw [List.length_take,List.length_drop]
  rcases Nat.eq_zero_or_pos k with z | z
  ·(simp;lia)
  ·have:=hs (k - 1) (Nat.sub_lt (by lia) (by decide))
   obtain⟨u,hu⟩:=Option.isSome_iff_exists.mp this
   have:=(List.getElem?_eq_some_iff.mp hu).1
   (simp;lia)
 have h1:=hlen (l:=a) (i:=i) fun t ht=>(h.eq t ht).2
 have h2:=hlen (l:=b) (i:=j) fun t ht=>by have:=h.eq t ht;rw [← this.1];exact this.2
 refine⟨List.ext_getElem? fun t=>?_,h1⟩
 by_cases ht:t < k
 ·rw [win_get a (by(simp;lia)),win_get b (by lia)];exact(h.eq t ht).1
 ·rw [List.getElem?_eq_none (by lia),List.getElem?_eq_none (by lia)]
theorem GM.common{a b:List Int}{alo ahi blo bhi m:Nat}(h:GM a b alo ahi blo bhi m):∃ l:List Int,l.length=m∧l.Sublist (win a alo ahi)∧l.Sublist (win b blo bhi):=by
 induction h with
 | none _=>exact⟨[],rfl,List.nil_sublist _,List.nil_sublist _⟩
 | @step alo ahi blo bhi i j k m1 m2 B hk g1 g2 ih1 ih2 =>
  refine oEAA ih1 fun l1 e1 s1 t1=>?_
  refine oEAA ih2 fun l2 e2 s2 t2=>?_
  have b1:=B.blk.i0;have b2:=B.blk.i1;have b3:=B.blk.j0;have b4:=B.blk.j1
  obtain⟨w1,w2⟩:=win_blk B.blk
  refine⟨l1++(win a i (i+k)++l2),by simp [e1,e2,w2];lia,?_,?_⟩
  ·rw [win_split a (mid:=i) b1 (by lia),win_split a (lo:=i) (mid:=i+k) (by lia) b2]
   exact s1.append ((List.Sublist.refl _).append s2)
  ·rw [win_split b (mid:=j) b3 (by lia),win_split b (lo:=j) (mid:=j+k) (by lia) b4,w1]
   exact t1.append ((List.Sublist.refl _).append t2)
theorem win_all(a:List Int):win a 0 a.length=a:=by unfold win;simp
theorem GML.common{x y:List Int}{m:Nat}(h:GML x y m):∃ l:List Int,l.length=m∧l.Sublist x∧l.Sublist y:=by
 have:=GM.common h
 rwa [win_all,win_all] at this
theorem GML.sub_of_all{x y:List Int}(h:GML x y x.length):x.Sublist y:=by
 refine oEAA h.common fun l e s t=>?_
 rw [s.eq_of_length e] at t;exact t
theorem GML.sub_of_all'{x y:List Int}(h:GML x y y.length):y.Sublist x:=by
 refine oEAA h.common fun l e s t=>?_
 rw [t.eq_of_length e] at s;exact s
structure RunAt(a b:List Int)(alo ahi blo bhi:Nat)(n:Int)(u v c:Nat):Prop where
 c0:0 < c
 u0:alo≤u
 u1:u+c≤ahi
 v0:blo≤v
 v1:v+c≤bhi
 a_:∀ x,alo≤x→x < ahi→(a[x]?=some n↔u≤x∧x < u+c)
 b_:∀ y,blo≤y→y < bhi→(b[y]?=some n↔v≤y∧y < v+c)
structure RunsF(a b:List Int)(alo ahi blo bhi:Nat):Prop where
 run:∀ x y n,alo≤x→x < ahi→blo≤y→y < bhi→a[x]?=some n→b[y]?=some n→∃ u v c,RunAt a b alo ahi blo bhi n u v c
 ord:∀ n n' u v c u' v' c',RunAt a b alo ahi blo bhi n u v c→RunAt a b alo ahi blo bhi n' u' v' c'→u < u'→v < v'
section
variable{a b:List Int}{alo ahi blo bhi i j k m:Nat}
theorem RunAt.blk{n:Int}{u v c:Nat}(h:RunAt a b alo ahi blo bhi n u v c):Blk a b alo ahi blo bhi u v c:=by
 have h1:=h.u0;have h2:=h.u1;have h3:=h.v0;have h4:=h.v1
 refine⟨h1,h2,h3,h4,fun t ht=>?_⟩
 have e1:=(h.a_ (u+t) (by lia) (by lia)).mpr ⟨by lia,by lia⟩
 have e2:=(h.b_ (v+t) (by lia) (by lia)).mpr ⟨by lia,by lia⟩
 exact⟨e1.trans e2.symm,by rw [e1];rfl⟩
theorem RunsF.ends(R:RunsF a b alo ahi blo bhi)(B:Best a b alo ahi blo bhi i j k)(hk:0 < k) :
  (∃ n v c,RunAt a b alo ahi blo bhi n i v c∧v=j)∧∃ n u v c,RunAt a b alo ahi blo bhi n u v c∧u+c=i+k∧v+c=j+k∧i≤u:=by
 have b1:=B.blk.i0;have b2:=B.blk.i1;have b3:=B.blk.j0;have b4:=B.blk.j1
 have val:∀ t,t < k→∃ n,a[i+t]?=some n∧b[j+t]?=some n:=fun t ht=>blk_val B.blk ht
 refine oEA (val 0 hk) fun n hn1 hn2=>?_
 rw [Nat.add_zero] at hn1 hn2
 refine oEEE (R.run i j n (by lia) (by lia) (by lia) (by lia) hn1 hn2) fun u v c hr=>?_
 have r0:=hr.c0;have r1:=hr.u0;have r2:=hr.u1;have r3:=hr.v0;have r4:=hr.v1
 have hi:=(hr.a_ i (by lia) (by lia)).mp hn1
 have hj:=(hr.b_ j (by lia) (by lia)).mp hn2
 have hmost:=(B.most _ _ _ hr.blk hr.c0).1
 have hij:i=u∧j=v:=by
  obtain⟨p,rfl⟩:=Nat.exists_eq_add_of_le hi.1
  obtain⟨q,rfl⟩:=Nat.exists_eq_add_of_le hj.1
  have hp:=Nat.lt_of_add_lt_add_left hi.2
  have hq:=Nat.lt_of_add_lt_add_left hj.2
  have same:p=q:=by
   rcases Nat.lt_trichotomy p q with z | z | z
   ·exfalso
    obtain⟨e,rfl⟩:=Nat.exists_eq_add_of_le (Nat.le_of_lt hq)
    refine oEA (val e (by lia)) fun n' h1 h2=>?_
    have e1:=(hr.a_ (u+p+e) (ntr ‹_› (by lia)) (by lia)).mpr ⟨by lia,by lia⟩
    rw [e1] at h1
    cases h1
    have:=(hr.b_ (v+q+e) (ntr ‹_› (by lia)) (by lia)).mp h2
    lia
   ·exact z
   ·exfalso
    obtain⟨e,rfl⟩:=Nat.exists_eq_add_of_le (Nat.le_of_lt hp)
    refine oEA (val e (by lia)) fun n' h1 h2=>?_
    have e1:=(hr.b_ (v+q+e) (ntr ‹_› (by lia)) (by lia)).mpr ⟨by lia,by lia⟩
    rw [e1] at h2
    cases h2
    have:=(hr.a_ (u+p+e) (ntr ‹_› (by lia)) (by lia)).mp h1
    lia
  subst same
  rcases p with _ | p
  ·exact⟨rfl,rfl⟩
  ·exfalso
   refine B.left (by lia) (by lia) ?_
   have e1:=(hr.a_ (u+p) (by lia) (by lia)).mpr ⟨by lia,by lia⟩
   have e2:=(hr.b_ (v+p) (by lia) (by lia)).mpr ⟨by lia,by lia⟩
   exact⟨e1.trans e2.symm,(congrArg Option.isSome e1).trans rfl⟩
 obtain⟨rfl,rfl⟩:=hij
 refine⟨⟨n,j,c,hr,rfl⟩,?_⟩
 obtain⟨K,rfl⟩:=Nat.exists_eq_add_of_le' hk
 refine oEA (val K (Nat.lt_succ_self K)) fun n2 g1 g2=>?_
 refine oEEE (R.run (i+K) (j+K) n2 (by lia) (by assumption) (by lia) (by lia) g1 g2) fun u2 v2 c2 hr2=>?_
 have s0:=hr2.c0;have s1:=hr2.u0;have s2:=hr2.u1;have s3:=hr2.v0;have s4:=hr2.v1
 have gi:=(hr2.a_ (i+K) (by lia) (by lia)).mp g1
 have gj:=(hr2.b_ (j+K) (by lia) (by lia)).mp g2
 have iu:i≤u2:=by
  by_cases q:i≤u2
  ·exact q
  ·exfalso
   have e1:=(hr2.a_ i (by lia) (by lia)).mpr ⟨by lia,by lia⟩
   rw [hn1] at e1
   cases e1
   rcases i with _ | i
   ·exact q (Nat.zero_le _)
   have e2:=(hr2.a_ i (by lia) (by lia)).mpr ⟨by lia,by lia⟩
   have:=(hr.a_ i (by lia) (by lia)).mp e2
   lia
 obtain⟨e,rfl⟩:=Nat.exists_eq_add_of_le iu
 have off:v2=j+e:=by
  refine oEA (val e (by lia)) fun n3 h1 h2=>?_
  have e1:=(hr2.a_ (i+e) (by lia) (by lia)).mpr ⟨by lia,by lia⟩
  rw [e1] at h1
  cases h1
  have e2:=(hr2.b_ (j+e) (by lia) (by lia)).mp h2
  by_cases q:v2=j+e
  ·exact q
  ·exfalso
   rcases e with _ | e
   ·have e3:=(hr2.a_ i (by lia) (by lia)).mpr ⟨by lia,by lia⟩
    rw [hn1] at e3
    cases e3
    have w2:=(hr.b_ v2 (by lia) (by lia)).mp ((hr2.b_ v2 (by lia) (by lia)).mpr ⟨by lia,by lia⟩)
    lia
   ·refine oEA (val e (by lia)) fun n4 h3 h4=>?_
    have e3:=(hr2.b_ (j+e) (by lia) (by lia)).mpr ⟨by lia,by lia⟩
    rw [e3] at h4
    cases h4
    have:=(hr2.a_ (i+e) (by lia) (by lia)).mp h3
    lia
 subst off
 have fin:i+e+c2=i+(K+1):=by
  by_cases q:i+e+c2=i+(K+1)
  ·exact q
  ·exfalso
   refine B.right (by lia) (by lia) ?_
   have e1:=(hr2.a_ (i+(K+1)) (by lia) (by lia)).mpr ⟨by lia,by lia⟩
   have e2:=(hr2.b_ (j+(K+1)) (by lia) (by lia)).mpr ⟨by lia,by lia⟩
   exact⟨e1.trans e2.symm,(congrArg Option.isSome e1).trans rfl⟩
 exact⟨n2,i+e,j+e,c2,hr2,fin,by lia,iu⟩
end
section
variable{a b:List Int}{alo ahi blo bhi i j k m:Nat}
theorem RunAt.same{n n':Int}{u v c u' v' c' x:Nat}(h:RunAt a b alo ahi blo bhi n u v c)(h':RunAt a b alo ahi blo bhi n' u' v' c')(h1:u≤x)(h2:x < u+c)(h3:u'≤x)(h4:x < u'+c'):n=n':=by
 have q1:=h.u0;have q2:=h.u1
 have e1:=(h.a_ x (by lia) (ntr h2 q2)).mpr ⟨h1,h2⟩
 have e2:=(h'.a_ x (by lia) (ntr h2 q2)).mpr ⟨h3,h4⟩
 rw [e1] at e2
 exact Option.some.inj e2
theorem RunAt.sameB{n n':Int}{u v c u' v' c' y:Nat}(h:RunAt a b alo ahi blo bhi n u v c)(h':RunAt a b alo ahi blo bhi n' u' v' c')(h1:v≤y)(h2:y < v+c)(h3:v'≤y)(h4:y < v'+c'):n=n':=by
 have q1:=h.v0;have q2:=h.v1
 have e1:=(h.b_ y (by lia) (by lia)).mpr ⟨h1,h2⟩
 have e2:=(h'.b_ y (by lia) (by lia)).mpr ⟨h3,h4⟩
 rw [e1] at e2
 exact Option.some.inj e2
theorem RunAt.det{n:Int}{u v c u' v' c':Nat}(h:RunAt a b alo ahi blo bhi n u v c)(h':RunAt a b alo ahi blo bhi n u' v' c'):u=u'∧v=v'∧c=c':=by
 have p0:=h.c0;have p1:=h.u0;have p2:=h.u1;have p3:=h.v0;have p4:=h.v1
 have q0:=h'.c0;have q1:=h'.u0;have q2:=h'.u1;have q3:=h'.v0;have q4:=h'.v1
 have e1:=(h'.a_ u (by lia) (by lia)).mp ((h.a_ u (by lia) (by lia)).mpr ⟨by lia,by lia⟩)
 have e2:=(h.a_ u' (by lia) (by lia)).mp ((h'.a_ u' (by lia) (by lia)).mpr ⟨by lia,by lia⟩)
 obtain⟨C,rfl⟩:=Nat.exists_eq_add_of_le' p0
 obtain⟨C',rfl⟩:=Nat.exists_eq_add_of_le' q0
 have e3:=(h'.a_ (u+C) (by lia) p2).mp ((h.a_ (u+C) (by lia) p2).mpr ⟨Nat.le_add_right _ _,Nat.lt_succ_self _⟩)
 have e4:=(h.a_ (u'+C') (ntr ‹_› (by lia)) q2).mp ((h'.a_ (u'+C') (by lia) q2).mpr ⟨Nat.le_add_right _ _,Nat.lt_succ_self _⟩)
 have e5:=(h'.b_ v (by lia) (by lia)).mp ((h.b_ v (by lia) (by lia)).mpr ⟨by lia,by lia⟩)
 have e6:=(h.b_ v' (by lia) (by lia)).mp ((h'.b_ v' (by lia) (by lia)).mpr ⟨by lia,by lia⟩)
 exact⟨by lia,by lia,by lia⟩
structure Fair(a b:List Int)(alo ahi blo bhi lo hi lo' hi':Nat):Prop where
 w1:alo≤lo
 w2:hi≤ahi
 w3:blo≤lo'
 w4:hi'≤bhi
 fa:∀ n u v c x,RunAt a b alo ahi blo bhi n u v c→u≤x→x < u+c→lo≤x→x < hi→lo≤u∧u+c≤hi
 fb:∀ n u v c y,RunAt a b alo ahi blo bhi n u v c→v≤y→y < v+c→lo'≤y→y < hi'→lo'≤v∧v+c≤hi'
theorem RunsF.child{lo hi lo' hi':Nat}(R:RunsF a b alo ahi blo bhi)(F:Fair a b alo ahi blo bhi lo hi lo' hi'):RunsF a b lo hi lo' hi':=by
 have f1:=F.w1;have f2:=F.w2;have f3:=F.w3;have f4:=F.w4
 have down:∀ {n u v c},RunAt a b alo ahi blo bhi n u v c→lo≤u→u+c≤hi→lo'≤v→v+c≤hi'→RunAt a b lo hi lo' hi' n u v c:=fun h q1 q2 q3 q4=>⟨h.c0,q1,q2,q3,q4,fun x h1 h2=>h.a_ x (by lia) (ntr h2 f2),fun y h1 h2=>h.b_ y (by lia) (ntr h2 f4)⟩
 have up:∀ {n u v c},RunAt a b lo hi lo' hi' n u v c→RunAt a b alo ahi blo bhi n u v c:=fun {n u v c} h=>by
  have p0:=h.c0;have p1:=h.u0;have p2:=h.u1;have p3:=h.v0;have p4:=h.v1
  have e1:=(h.a_ u (by lia) (by lia)).mpr ⟨by lia,by lia⟩
  have e2:=(h.b_ v (by lia) (by lia)).mpr ⟨by lia,by lia⟩
  refine oEEE (R.run u v n (by lia) (by lia) (by lia) (by lia) e1 e2) fun u' v' c' hr=>?_
  have g1:=(hr.a_ u (by lia) (by lia)).mp e1
  have g2:=(hr.b_ v (by lia) (by lia)).mp e2
  have k1:=F.fa _ _ _ _ u hr g1.1 g1.2 (by lia) (by lia)
  have k2:=F.fb _ _ _ _ v hr g2.1 g2.2 (by lia) (by lia)
  refine oAA (h.det (down hr k1.1 k1.2 k2.1 k2.2)) ?_;rintro rfl rfl rfl
  exact hr
 refine⟨fun x y n h1 h2 h3 h4 e1 e2=>?_,fun n n' u v c u' v' c' h h' hlt=>R.ord _ _ _ _ _ _ _ _ (up h) (up h') hlt⟩
 refine oEEE (R.run x y n (by lia) (by lia) (by lia) (by lia) e1 e2) fun u v c hr=>?_
 have g1:=(hr.a_ x (by lia) (by lia)).mp e1
 have g2:=(hr.b_ y (by lia) (by lia)).mp e2
 have k1:=F.fa _ _ _ _ x hr g1.1 g1.2 h1 h2
 have k2:=F.fb _ _ _ _ y hr g2.1 g2.2 h3 h4
 exact⟨u,v,c,down hr k1.1 k1.2 k2.1 k2.2⟩
theorem RunsF.fairL(R:RunsF a b alo ahi blo bhi)(B:Best a b alo ahi blo bhi i j k)(hk:0 < k):Fair a b alo ahi blo bhi alo i blo j:=by
 obtain⟨⟨n0,v0,c0,hr0,rfl⟩,_⟩:=R.ends B hk
 have b1:=B.blk.i0;have b2:=B.blk.i1;have b3:=B.blk.j0;have b4:=B.blk.j1
 have z0:=hr0.c0
 refine⟨Nat.le_refl _,by lia,Nat.le_refl _,by lia,fun n u v c x h h1 h2 h3 h4=>⟨h.u0,?_⟩,fun n u v c y h h1 h2 h3 h4=>⟨h.v0,?_⟩⟩
 ·by_cases q:u+c≤i
  ·exact q
  ·exfalso
   have:=h.same hr0 (x:=i) (by lia) (by lia) (Nat.le_refl _) (by lia)
   subst this
   have:=h.det hr0
   lia
 ·by_cases q:v+c≤v0
  ·exact q
  ·exfalso
   have:=h.sameB hr0 (y:=v0) (by lia) (by lia) (Nat.le_refl _) (by lia)
   subst this
   have:=h.det hr0
   lia
theorem RunsF.fairR(R:RunsF a b alo ahi blo bhi)(B:Best a b alo ahi blo bhi i j k)(hk:0 < k):Fair a b alo ahi blo bhi (i+k) ahi (j+k) bhi:=by
 refine oAEEEEAAA (R.ends B hk) fun _ n2 u2 v2 c2 hr2 e1 e2 e3=>?_
 have b1:=B.blk.i0;have b2:=B.blk.i1;have b3:=B.blk.j0;have b4:=B.blk.j1
 have z2:=hr2.c0
 obtain⟨K,rfl⟩:=Nat.exists_eq_add_of_le' hk
 refine⟨by exact ntr ‹_› (by lia),Nat.le_refl _,by exact ntr ‹_› (by lia),Nat.le_refl _,fun n u v c x h h1 h2 h3 h4=>⟨?_,h.u1⟩,fun n u v c y h h1 h2 h3 h4=>⟨?_,h.v1⟩⟩
 ·by_cases q:i+(K+1)≤u
  ·exact q
  ·exfalso
   have:=h.same hr2 (x:=i+K) (by lia) (Nat.lt_trans h3 h2) (by lia) (by lia)
   subst this
   have:=h.det hr2
   lia
 ·by_cases q:j+(K+1)≤v
  ·exact q
  ·exfalso
   have:=h.sameB hr2 (y:=j+K) (by lia) (Nat.lt_trans h3 h2) (by lia) (by lia)
   subst this
   have:=h.det hr2
   lia
end
section
variable{a b:List Int}{alo ahi blo bhi i j k m:Nat}
theorem split_sub{alo ahi i k m1 m2:Nat}(h1:alo≤i)(h2:i+k≤ahi)(q1:m1=i - alo)(q2:m2=ahi - (i+k)):k+m1+m2=ahi - alo:=by
 obtain⟨x,rfl⟩:=Nat.exists_eq_add_of_le h1
 obtain⟨y,rfl⟩:=Nat.exists_eq_add_of_le h2
 rw [Nat.add_sub_cancel_left] at q1 q2
 subst q1 q2
 exact Nat.eq_sub_of_add_eq (by lia)
theorem GM.allA(h:GM a b alo ahi blo bhi m):RunsF a b alo ahi blo bhi→(∀ x,alo≤x→x < ahi→∃ y n,blo≤y∧y < bhi∧a[x]?=some n∧b[y]?=some n)→m=ahi - alo:=by
 induction h with
 | @none alo ahi blo bhi hn =>
  intro R C
  by_cases c:alo < ahi
  ·exfalso
   refine oEEAAA (C alo (Nat.le_refl _) c) fun y n h1 h2 e1 e2=>?_
   exact hn alo y ⟨Nat.le_refl _,by lia,h1,by lia,fun t ht=>by
    obtain rfl:t=0:=by lia
    exact⟨e1.trans e2.symm,by rw [Nat.add_zero,e1];rfl⟩⟩
  ·exact(Nat.sub_eq_zero_of_le (by lia)).symm
 | @step alo ahi blo bhi i j k m1 m2 B hk g1 g2 ih1 ih2 =>
  intro R C
  have b1:=B.blk.i0;have b2:=B.blk.i1;have b3:=B.blk.j0;have b4:=B.blk.j1
  have FL:=R.fairL B hk
  have FR:=R.fairR B hk
  refine oAEEEEAAA (R.ends B hk) ?_;rintro ⟨n0,v0,c0,hr0,rfl⟩ n2 u2 v2 c2 hr2 d1 d2 d3
  have z0:=hr0.c0;have z2:=hr2.c0
  have one:∀ x,alo≤x→x < ahi→∃ n u v c,RunAt a b alo ahi blo bhi n u v c∧u≤x∧x < u+c∧a[x]?=some n:=fun x h1 h2=>by
   refine oEEAAA (C x h1 h2) fun y n h3 h4 e1 e2=>?_
   refine oEEE (R.run x y n h1 h2 h3 h4 e1 e2) fun u v c hr=>?_
   have:=(hr.a_ x h1 h2).mp e1
   exact⟨n,u,v,c,hr,this.1,this.2,e1⟩
  have q1:=ih1 (R.child FL) fun x h1 h2=>by
   refine oEEEEAAA (one x h1 (Nat.lt_of_lt_of_le ‹_› (by lia))) fun n u v c hr p1 p2 e1=>?_
   have k1:=FL.fa _ _ _ _ x hr p1 p2 h1 h2
   have hv:=R.ord _ _ _ _ _ _ _ _ hr hr0 (Nat.lt_of_le_of_lt p1 h2)
   have k2:=FL.fb _ _ _ _ v hr (Nat.le_refl _) (by have:=hr.c0;lia) hr.v0 hv
   exact⟨v+(x - u),n,by lia,by lia,e1,(hr.b_ _ (by lia) (by lia)).mpr ⟨by lia,by lia⟩⟩
  have q2:=ih2 (R.child FR) fun x h1 h2=>by
   refine oEEEEAAA (one x (by lia) h2) fun n u v c hr p1 p2 e1=>?_
   have k1:=FR.fa _ _ _ _ x hr p1 p2 h1 h2
   have hv:=R.ord _ _ _ _ _ _ _ _ hr2 hr (by lia)
   have hv1:=hr.v1
   have hv2:v0+k≤v:=by
    by_cases q:v0+k≤v
    ·exact q
    ·exfalso
     have:=hr.sameB hr2 (y:=v) (Nat.le_refl _) (by have:=hr.c0;lia) (Nat.le_of_lt hv) (by lia)
     subst this
     have:=hr.det hr2
     lia
   exact⟨v+(x - u),n,by exact ntr ‹_› (by lia),by lia,e1,(hr.b_ _ (by lia) (by lia)).mpr ⟨by lia,by lia⟩⟩
  exact split_sub b1 b2 q1 q2
theorem GM.allB(h:GM a b alo ahi blo bhi m):RunsF a b alo ahi blo bhi→(∀ y,blo≤y→y < bhi→∃ x n,alo≤x∧x < ahi∧a[x]?=some n∧b[y]?=some n)→m=bhi - blo:=by
 induction h with
 | @none alo ahi blo bhi hn =>
  intro R C
  by_cases c:blo < bhi
  ·exfalso
   refine oEEAAA (C blo (Nat.le_refl _) c) fun x n h1 h2 e1 e2=>?_
   exact hn x blo ⟨h1,by lia,Nat.le_refl _,by lia,fun t ht=>by
    obtain rfl:t=0:=by lia
    exact⟨e1.trans e2.symm,by rw [Nat.add_zero,e1];rfl⟩⟩
  ·exact(Nat.sub_eq_zero_of_le (by lia)).symm
 | @step alo ahi blo bhi i j k m1 m2 B hk g1 g2 ih1 ih2 =>
  intro R C
  have b1:=B.blk.i0;have b2:=B.blk.i1;have b3:=B.blk.j0;have b4:=B.blk.j1
  have FL:=R.fairL B hk
  have FR:=R.fairR B hk
  refine oAEEEEAAA (R.ends B hk) ?_;rintro ⟨n0,v0,c0,hr0,rfl⟩ n2 u2 v2 c2 hr2 d1 d2 d3
  have z0:=hr0.c0;have z2:=hr2.c0
  have one:∀ y,blo≤y→y < bhi→∃ n u v c,RunAt a b alo ahi blo bhi n u v c∧v≤y∧y < v+c∧b[y]?=some n:=fun y h1 h2=>by
   refine oEEAAA (C y h1 h2) fun x n h3 h4 e1 e2=>?_
   refine oEEE (R.run x y n h3 h4 h1 h2 e1 e2) fun u v c hr=>?_
   have:=(hr.b_ y h1 h2).mp e2
   exact⟨n,u,v,c,hr,this.1,this.2,e2⟩
  have q1:=ih1 (R.child FL) fun y h1 h2=>by
   refine oEEEEAAA (one y h1 (Nat.lt_of_lt_of_le ‹_› (by lia))) fun n u v c hr p1 p2 e1=>?_
   have k1:=FL.fb _ _ _ _ y hr p1 p2 h1 h2
   have hc:=hr.c0
   have hu:u < i:=by
    rcases Nat.lt_trichotomy u i with q | q | q
    ·exact q
    ·exfalso
     have:=hr.same hr0 (x:=i) (by lia) (by lia) (Nat.le_refl _) (by lia)
     subst this
     have:=hr.det hr0
     lia
    ·have:=R.ord _ _ _ _ _ _ _ _ hr0 hr q
     lia
   have k2:=FL.fa _ _ _ _ u hr (Nat.le_refl _) (by lia) hr.u0 hu
   exact⟨u+(y - v),n,by lia,by lia,(hr.a_ _ (by lia) (by lia)).mpr ⟨by lia,by lia⟩,e1⟩
  have q2:=ih2 (R.child FR) fun y h1 h2=>by
   refine oEEEEAAA (one y (by lia) h2) fun n u v c hr p1 p2 e1=>?_
   have k1:=FR.fb _ _ _ _ y hr p1 p2 h1 h2
   have hc:=hr.c0
   have hu1:=hr.u1
   have hu:i+k≤u:=by
    by_cases q:i+k≤u
    ·exact q
    ·exfalso
     by_cases z:u < u2
     ·have:=R.ord _ _ _ _ _ _ _ _ hr hr2 z
      lia
     ·have:=hr.same hr2 (x:=u) (Nat.le_refl _) (by lia) (by lia) (by lia)
      subst this
      have:=hr.det hr2
      lia
   exact⟨u+(y - v),n,by exact ntr ‹_› (by lia),by lia,(hr.a_ _ (by lia) (by lia)).mpr ⟨by lia,by lia⟩,e1⟩
  exact split_sub b3 b4 q1 q2
end
noncomputable def its(o:List Int)(c:Int→Nat):List Int:=o.flatMap fun n=>List.replicate (c n) n
noncomputable def pos:List Int→(Int→Nat)→Int→Nat
 | [],_,_=>0
 | m::o,c,n=>if m=n then 0 else c m+pos o c n
theorem pos_n{c:Int→Nat}{n:Int}:pos [] c n=0:=rfl
theorem pos_c{m n:Int}{o:List Int}{c:Int→Nat}:pos (m::o) c n=if m=n then 0 else c m+pos o c n:=rfl
section
variable{o o' l r:List Int}{c:Int→Nat}{n n':Int}{x:Nat}
theorem its_nil:its [] c=[]:=rfl
theorem its_cons:its (n::o) c=List.replicate (c n) n++its o c:=rfl
theorem its_app:its (l++r) c=its l c++its r c:=List.flatMap_append
theorem its_mem(h:n∈its o c):n∈o:=by
 refine oEA (List.mem_flatMap.mp h) fun m hm h=>?_
 obtain rfl:=(List.mem_replicate.mp h).2
 exact hm
theorem its_in(h:n∈o)(h0:0 < c n):n∈its o c:=List.mem_flatMap.mpr ⟨n,h,List.mem_replicate.mpr ⟨Nat.ne_of_gt h0,rfl⟩⟩
theorem its_len(o:List Int)(c:Int→Nat):(its o c).length=(o.map c).sum:=by
 induction o with
 | nil=>rfl
 | cons n o ih=>rw [its_cons,List.length_append,List.length_replicate,ih];rfl
theorem its_count(o:List Int)(c:Int→Nat)(n:Int)(nd:o.Nodup):(its o c).count n=if n∈o then c n else 0:=by
 induction o with
 | nil=>rfl
 | cons m o ih =>
  rw [its_cons,List.count_append,List.count_replicate,ih (List.nodup_cons.mp nd).2]
  have h1:=(List.nodup_cons.mp nd).1
  by_cases e:m=n
  ·subst e;simp [h1]
  ·have e':¬ n=m:=fun z=>e z.symm
   simp [e,e']
theorem its_at(o:List Int)(c:Int→Nat)(n:Int)(nd:o.Nodup):∀ x,(its o c)[x]?=some n↔n∈o∧pos o c n≤x∧x < pos o c n+c n:=by
 induction o with
 | nil=>intro x;simp [its_nil]
 | cons m o ih =>
  intro x
  have h1:=(List.nodup_cons.mp nd).1
  have ih:=ih (List.nodup_cons.mp nd).2
  rw [its_cons]
  by_cases hx:x < c m
  ·rw [List.getElem?_append_left (by simpa using hx),List.getElem?_replicate,if_pos hx]
   by_cases e:m=n
   ·subst e;simp [pos_n,pos_c,hx]
   ·simp only [pos_n,pos_c,if_neg e,Option.some.injEq]
    exact⟨fun z=>absurd z e,fun z=>by lia⟩
  ·rw [List.getElem?_append_right (by simpa using hx),List.length_replicate,ih]
   by_cases e:m=n
   ·subst e
    simp only [pos_n,pos_c,if_true,List.mem_cons,true_or,true_and]
    exact⟨fun z=>absurd z.1 h1,fun z=>by lia⟩
   ·simp only [pos_n,pos_c,if_neg e,List.mem_cons]
    constructor
    ·rintro ⟨a,b,d⟩;exact⟨.inr a,by lia,by lia⟩
    ·rintro ⟨a,b,d⟩;exact⟨a.resolve_left fun z=>e z.symm,by exact Nat.le_sub_of_add_le (by lia),by exact Nat.sub_lt_right_of_lt_add (by lia) (Nat.lt_of_lt_of_le ‹_› (by lia))⟩
theorem pos_le(o:List Int)(c:Int→Nat)(n:Int)(h:n∈o):pos o c n+c n≤(its o c).length:=by
 induction o with
 | nil=>cases h
 | cons m o ih =>
  rw [its_cons,List.length_append,List.length_replicate]
  by_cases e:m=n
  ·subst e;simp [pos_n,pos_c]
  ·have:=ih ((mK h).resolve_left fun z=>e z.symm)
   simp only [pos_n,pos_c,if_neg e];lia
theorem pos_sub(s:o'.Sublist o):o.Nodup→(∀ n∈o,0 < c n)→∀ n n',n∈o'→n'∈o'→pos o' c n < pos o' c n'→pos o c n < pos o c n':=by
 induction s with
 | slnil=>intro _ _ n n' h;cases h
 | @cons l1 l2 a s ih =>
  intro nd c0 n n' h h' hlt
  have h1:=(List.nodup_cons.mp nd).1
  have e:¬ a=n:=fun z=>h1 (z▸s.subset h)
  have e':¬ a=n':=fun z=>h1 (z▸s.subset h')
  have:=ih (List.nodup_cons.mp nd).2 (fun n hn=>c0 n (.tail _ hn)) n n' h h' hlt
  simp only [pos_n,pos_c,if_neg e,if_neg e'];lia
 | @cons_cons l1 l2 a s ih =>
  intro nd c0 n n' h h' hlt
  have ca:=c0 a (.head _)
  by_cases e':a=n'
  ·simp [pos_n,pos_c,e'] at hlt
  ·by_cases e:a=n
   ·simp only [pos_n,pos_c,if_pos e,if_neg e'];exact Nat.lt_of_lt_of_le ‹_› (by lia)
   ·simp only [pos_n,pos_c,if_neg e,if_neg e'] at hlt ⊢
    have:=ih (List.nodup_cons.mp nd).2 (fun n hn=>c0 n (.tail _ hn)) n n' ((mK h).resolve_left fun z=>e z.symm) ((mK h').resolve_left fun z=>e' z.symm) (by lia)
    lia
theorem its_run(s:o'.Sublist o)(nd:o.Nodup)(c0:∀ n∈o,0 < c n)(h:n∈o'):RunAt (its o' c) (its o c) 0 (its o' c).length 0 (its o c).length n (pos o' c n) (pos o c n) (c n):=by
 have hn:=s.subset h
 exact⟨c0 _ hn,Nat.zero_le _,pos_le _ _ _ h,Nat.zero_le _,pos_le _ _ _ hn,fun x _ _=>by rw [its_at _ _ _ (nd.sublist s)];simp [h],fun x _ _=>by rw [its_at _ _ _ nd];simp [hn]⟩
theorem its_runs(s:o'.Sublist o)(nd:o.Nodup)(c0:∀ n∈o,0 < c n):RunsF (its o' c) (its o c) 0 (its o' c).length 0 (its o c).length:=by
 refine⟨fun x y n _ _ _ _ e1 e2=>⟨_,_,_,its_run s nd c0 (its_mem (List.mem_of_getElem? e1))⟩,fun n n' u v d u' v' d' h h' hlt=>?_⟩
 have m:∀ {n u v d},RunAt (its o' c) (its o c) 0 (its o' c).length 0 (its o c).length n u v d→n∈o':=fun {n u v d} h=>by
  have:=(h.a_ u (Nat.zero_le _) (by have:=h.u1;have:=h.c0;lia)).mpr ⟨Nat.le_refl _,by have:=h.c0;lia⟩
  exact its_mem (List.mem_of_getElem? this)
 refine oAA (h.det (its_run s nd c0 (m h))) ?_;rintro rfl rfl _
 refine oAA (h'.det (its_run s nd c0 (m h'))) ?_;rintro rfl rfl _
 exact pos_sub s nd c0 _ _ (m h) (m h') hlt
theorem RunAt.swap{a b:List Int}{alo ahi blo bhi u v d:Nat}(h:RunAt a b alo ahi blo bhi n u v d):RunAt b a blo bhi alo ahi n v u d:=⟨h.c0,h.v0,h.v1,h.u0,h.u1,h.b_,h.a_⟩
theorem RunsF.swap{a b:List Int}{alo ahi blo bhi:Nat}(h:RunsF a b alo ahi blo bhi):RunsF b a blo bhi alo ahi:=by
 refine⟨fun x y n h1 h2 h3 h4 e1 e2=>?_,fun n n' u v d u' v' d' r r' hlt=>?_⟩
 ·refine oEEE (h.run y x n h3 h4 h1 h2 e2 e1) fun u v d q=>?_
  exact⟨v,u,d,q.swap⟩
 ·rcases Nat.lt_trichotomy v v' with q | q | q
  ·exact q
  ·exfalso
   have:=r.swap.same r'.swap (x:=v) (Nat.le_refl _) (by have:=r.c0;lia) (by lia) (by have:=r'.c0;lia)
   subst this
   have:=r.det r';lia
  ·have:=h.ord _ _ _ _ _ _ _ _ r'.swap r.swap q;lia
theorem its_all{t:Nat}(s:o'.Sublist o)(nd:o.Nodup)(c0:∀ n∈o,0 < c n)(h:GML (its o' c) (its o c) t):t=(its o' c).length:=by
 have:=GM.allA h (its_runs s nd c0) fun x _ hx=>?_
 ·simpa using this
 ·have e1:=List.getElem?_eq_getElem hx
  have hn:=its_mem (List.mem_of_getElem? e1)
  have r:=its_run s nd c0 hn
  have p:=(r.a_ x (Nat.zero_le _) hx).mp e1
  have v1:=r.v1
  exact⟨pos o c ((its o' c)[x])+(x - pos o' c ((its o' c)[x])),_,Nat.zero_le _,by lia,e1,(r.b_ _ (Nat.zero_le _) (by lia)).mpr ⟨by lia,by lia⟩⟩
theorem its_all'{t:Nat}(s:o'.Sublist o)(nd:o.Nodup)(c0:∀ n∈o,0 < c n)(h:GML (its o c) (its o' c) t):t=(its o' c).length:=by
 have:=GM.allB h (its_runs s nd c0).swap fun x _ hx=>?_
 ·simpa using this
 ·have e1:=List.getElem?_eq_getElem hx
  have hn:=its_mem (List.mem_of_getElem? e1)
  have r:=its_run s nd c0 hn
  have p:=(r.a_ x (Nat.zero_le _) hx).mp e1
  have v1:=r.v1
  exact⟨pos o c ((its o' c)[x])+(x - pos o' c ((its o' c)[x])),_,Nat.zero_le _,by lia,(r.b_ _ (Nat.zero_le _) (by lia)).mpr ⟨by lia,by lia⟩,e1⟩
theorem sub_its(nd:o'.Nodup)(s:o'.Sublist (its o c)):o'.Sublist o:=by
 induction o generalizing o' with
 | nil=>exact s
 | cons m o ih =>
  rw [its_cons] at s
  refine oEEAA (List.sublist_append_iff.mp s) ?_;rintro s1 s2 rfl h1 h2
  have n1:=List.nodup_append.mp nd
  refine oEA (List.sublist_replicate_iff.mp h1) ?_;rintro k hk rfl
  have q:(List.replicate k m).Sublist [m]:=by
   rcases k with _ | _ | k
   ·exact List.nil_sublist _
   ·exact List.Sublist.refl _
   ·exact absurd n1.1 (by simp [List.replicate_succ])
  exact q.append (ih n1.2.1 h2)
theorem its_ones(c0:∀ n∈o,0 < c n):o.Sublist (its o c):=by
 induction o with
 | nil=>exact List.nil_sublist _
 | cons m o ih =>
  have h:[m].Sublist (List.replicate (c m) m):=List.singleton_sublist.mpr (List.mem_replicate.mpr ⟨Nat.ne_of_gt (c0 _ (.head _)),rfl⟩)
  exact h.append (ih fun n hn=>c0 n (.tail _ hn))
theorem its_sub_inv(nd:o'.Nodup)(c0:∀ n∈o',0 < c n)(s:(its o' c).Sublist (its o c)):o'.Sublist o:=sub_its nd ((its_ones c0).trans s)
end
section
variable{a b:List Int}{alo ahi blo bhi i j k m m1 m2 c:Nat}
theorem GM.crossX{c0 c1 d0 d1:Nat}(h:GM a b c0 c1 d0 d1 m)(hc:0 < c)(hbig:∃ i j,Blk a b c0 c1 d0 d1 i j c)(w1:alo≤c0)(w2:c1≤ahi)(w3:blo≤d0)(w4:d1≤bhi)
  (one:∀ i j,Blk a b alo ahi blo bhi i j 1→Blk a b c0 c1 d0 d1 i j 1∨(i < c0∧d1≤j)∨(c1≤i∧j < d0))
  (all:∀ i j k,0 < k→Blk a b alo ahi blo bhi i j k→Blk a b c0 c1 d0 d1 i j k∨k < c∨(k≤c∧c1≤i)):GM a b alo ahi blo bhi m:=by
 cases h with
 | none hn =>
  refine oEE hbig fun i j hb=>?_
  exact absurd (hb.one (t:=0) hc) (hn _ _)
 | @step _ _ _ _ i j k x1 x2 B hk g1 g2 =>
  have b1:=B.blk.i0;have b2:=B.blk.i1;have b3:=B.blk.j0;have b4:=B.blk.j1
  have hk2:c≤k:=by
   refine oEE hbig fun i j hb=>?_
   exact(B.most _ _ _ hb hc).1
  have B':Best a b alo ahi blo bhi i j k:=by
   refine⟨⟨by lia,by exact ntr b2 w2,by lia,by exact ntr b4 w4,B.blk.eq⟩,fun z=>absurd z (by lia),fun i' j' k' hb hk'=>?_⟩
   rcases all i' j' k' hk' hb with q | q | q
   ·exact B.most _ _ _ q hk'
   ·exact⟨by lia,fun z=>absurd z (by lia)⟩
   ·exact⟨by lia,fun z=>.inl (by lia)⟩
  refine .step B' hk (g1.sub w1 (Nat.le_refl _) w3 (Nat.le_refl _) fun i' j' hb=>?_) (g2.sub (Nat.le_refl _) w2 (Nat.le_refl _) w4 fun i' j' hb=>?_)
  ·have e1:=hb.i0;have e2:=hb.i1;have e3:=hb.j0;have e4:=hb.j1
   rcases one i' j' ⟨by lia,by lia,by lia,by lia,hb.eq⟩ with this | this | this
   ·exact⟨this.i0,e2,this.j0,e4,hb.eq⟩
   ·lia
   ·lia
  ·have e1:=hb.i0;have e2:=hb.i1;have e3:=hb.j0;have e4:=hb.j1
   rcases one i' j' ⟨by lia,by lia,by lia,by lia,hb.eq⟩ with this | this | this
   ·exact⟨e1,this.i1,e3,this.j1,hb.eq⟩
   ·lia
   ·lia
theorem GM.crossY{c0 c1 d0 d1 p q:Nat}(B:Best a b alo ahi blo bhi p q c)(hc:0 < c)
  (one:∀ i j,Blk a b alo ahi blo bhi i j 1→(c0≤i∧i < c1∧d0≤j∧j < d1)∨(p≤i∧i < p+c∧q≤j∧j < q+c)) (s:(p+c≤c0∧d1≤q)∨(c1≤p∧q+c≤d0)):GM a b alo ahi blo bhi c:=by
 have b1:=B.blk.i0;have b2:=B.blk.i1;have b3:=B.blk.j0;have b4:=B.blk.j1
 refine GM.step (m1:=0) (m2:=0) B hc (.none fun i j hb=>?_) (.none fun i j hb=>?_)
 ·have e1:=hb.i0;have e2:=hb.i1;have e3:=hb.j0;have e4:=hb.j1
  have:=one i j ⟨by lia,by lia,by lia,by lia,hb.eq⟩
  lia
 ·have e1:=hb.i0;have e2:=hb.i1;have e3:=hb.j0;have e4:=hb.j1
  have:=one i j ⟨by lia,by lia,by lia,by lia,hb.eq⟩
  lia
end
section
variable{A B X x1 x2 y1 y2:List Int}{c m m1 m2:Nat}
theorem eLf{l1 l2:List Int}{i:Nat}(h:i < l1.length):(l1++l2)[i]?=l1[i]?:=List.getElem?_append_left h
theorem eRt{l1 l2:List Int}{i:Nat}:(l1++l2)[i+l1.length]?=l2[i]?:=by rw [List.getElem?_append_right (by lia),Nat.add_sub_cancel]
noncomputable def Longest(A B:List Int)(L:Nat):Prop:=(0 < L→∃ i j,Blk A B 0 A.length 0 B.length i j L)∧∀ i j k,Blk A B 0 A.length 0 B.length i j k→k≤L
theorem blk_swap{a b:List Int}{alo ahi blo bhi i j k:Nat}(h:Blk a b alo ahi blo bhi i j k):Blk b a blo bhi alo ahi j i k:=⟨h.j0,h.j1,h.i0,h.i1,fun t ht=>⟨(h.eq t ht).1.symm,(h.eq t ht).1▸(h.eq t ht).2⟩⟩
theorem Longest.swap{L:Nat}(h:Longest A B L):Longest B A L:=⟨fun z=>let ⟨_,_,q⟩:=h.1 z;⟨_,_,blk_swap q⟩,fun i j k q=>h.2 _ _ _ (blk_swap q)⟩
theorem mv0:∀ i j,i < x1.length→j < y1.length→0≤i→0≤j→((x1[i]?=y1[j]?∧(x1[i]?).isSome=true)↔((x1++x2)[i+0]?=(y1++y2)[j+0]?∧((x1++x2)[i+0]?).isSome=true)):=fun i j hi hj _ _=>by rw [Nat.add_zero,Nat.add_zero,eLf hi,eLf hj]
theorem mvR0:∀ i j,i < x1.length→j < y2.length→0≤i→0≤j→((x1[i]?=y2[j]?∧(x1[i]?).isSome=true)↔((x1++x2)[i+0]?=(y1++y2)[j+y1.length]?∧((x1++x2)[i+0]?).isSome=true)):=fun i j hi hj _ _=>by rw [Nat.add_zero,eLf hi,eRt]
theorem mvRR:∀ i j,i < x2.length→j < y2.length→0≤i→0≤j→((x2[i]?=y2[j]?∧(x2[i]?).isSome=true)↔((x1++x2)[i+x1.length]?=(y1++y2)[j+y1.length]?∧((x1++x2)[i+x1.length]?).isSome=true)):=fun i j hi hj _ _=>by rw [eRt,eRt]
theorem mv0R:∀ i j,i < x2.length→j < y1.length→0≤i→0≤j→((x2[i]?=y1[j]?∧(x2[i]?).isSome=true)↔((x1++x2)[i+x1.length]?=(y1++y2)[j+0]?∧((x1++x2)[i+x1.length]?).isSome=true)):=fun i j hi hj _ _=>by rw [Nat.add_zero,eRt,eLf hj]
theorem GML.app(h1:GML x1 y1 m1)(h2:GML x2 y2 m2)(e12:∀ u∈x1,u∉y2)(e21:∀ u∈x2,u∉y1)(ns:x1.getLast?≠y1.getLast?∨x2.head?≠y2.head?∨x1=[]∨x2=[]):GML (x1++x2) (y1++y2) (m1+m2):=by
 have g1:GM (x1++x2) (y1++y2) 0 x1.length 0 y1.length m1:=GM.move (a':=x1++x2) (b':=y1++y2) h1 (di:=0) (dj:=0) mv0
 have g2:GM (x1++x2) (y1++y2) x1.length (x1++x2).length y1.length (y1++y2).length m2:=by
  have:=GM.move (a':=x1++x2) (b':=y1++y2) h2 (di:=x1.length) (dj:=y1.length) mvRR
  simpa [Nat.add_comm] using this
 refine GM.add _ (Nat.le_add_left _ _) (Nat.zero_le _) (by simp) (Nat.zero_le _) (by simp) ⟨fun i j hb=>?_,fun i j ei ej hb=>?_⟩ g1 g2
 ·refine oEA (blk_val hb (t:=0) (by lia)) fun u hu hv=>?_
  rw [Nat.add_zero] at hu hv
  rcases at_two hu with⟨c1,c2,_⟩ | ⟨c1,_,c2,_⟩<;>rcases at_two hv with⟨d1,d2,_⟩ | ⟨d1,_,d2,_⟩
  ·exact⟨fun _=>d1,fun _=>c1⟩
  ·exact absurd d2 (e12 _ c2)
  ·exact absurd d2 (e21 _ c2)
  ·exact⟨fun z=>absurd z (Nat.not_lt.mpr c1),fun z=>absurd z (Nat.not_lt.mpr d1)⟩
 ·refine oEA (blk_val hb (t:=0) (by decide)) fun u hu hv=>?_
  refine oEA (blk_val hb (t:=1) (by decide)) fun v hu2 hv2=>?_
  rw [Nat.add_zero] at hu hv
  have s1:i < x1.length:=ei▸Nat.lt_succ_self i
  have s2:j < y1.length:=ej▸Nat.lt_succ_self j
  rw [eLf s1] at hu
  rw [eLf s2] at hv
  rw [ei,show x1.length=0+x1.length from(Nat.zero_add _).symm,eRt] at hu2
  rw [ej,show y1.length=0+y1.length from(Nat.zero_add _).symm,eRt] at hv2
  rcases ns with ns | ns | ns | ns
  ·exact ns (by rw [List.getLast?_eq_getElem?,List.getLast?_eq_getElem?,← ei,← ej,Nat.add_sub_cancel,Nat.add_sub_cancel,hu,hv])
  ·exact ns (by rw [List.head?_eq_getElem?,List.head?_eq_getElem?,hu2,hv2])
  ·subst ns;cases s1
  ·subst ns;cases hu2
structure Out(A B:List Int)(x:Int)(c:Nat):Prop where
 c0:0 < c
 a:x∉A
 b:x∉B
variable{x:Int}
theorem rep_get{t:Nat}(h:t < c):(List.replicate c x)[t]?=some x:=by rw [List.getElem?_replicate,if_pos h]
theorem GML.shape1{L:Nat}(O:Out A B x c)(h:GML A B m)(hL:Longest A B L):GML (A++List.replicate c x) (List.replicate c x++B) (if c≤L then m else c):=by
 have c0:=O.c0
 generalize hX:List.replicate c x=X
 have lr:X.length=c:=hX▸List.length_replicate
 have inX:∀ {u},u∈X→u=x:=fun h=>(List.mem_replicate.mp (hX▸h)).2
 have getX:∀ {t},t < c→X[t]?=some x:=fun h=>hX▸rep_get h
 have g:=GM.move (a':=A++X) (b':=X++B) h (di:=0) (dj:=X.length) mvR0
 have la:(A++X).length=A.length+c:=by rw [List.length_append,lr]
 have lb:(X++B).length=B.length+c:=by rw [List.length_append,lr,Nat.add_comm]
 have one:∀ i j,Blk (A++X) (X++B) 0 (A++X).length 0 (X++B).length i j 1→(i < A.length∧c≤j)∨(A.length≤i∧j < c):=fun i j hb=>by
  refine oEA (blk_val hb (t:=0) (by decide)) fun u hu hv=>?_
  rcases at_two hu with⟨c1,c2,_⟩ | ⟨c1,_,c2,_⟩<;>rcases at_two hv with⟨d1,d2,_⟩ | ⟨d1,_,d2,_⟩
  ·exact absurd c2 (inX d2▸O.a)
  ·exact .inl ⟨c1,lr▸d1⟩
  ·exact .inr ⟨c1,lr▸d1⟩
  ·exact absurd d2 (inX c2▸O.b)
 have all:∀ i j k,0 < k→Blk (A++X) (X++B) 0 (A++X).length 0 (X++B).length i j k→Blk (A++X) (X++B) (0+0) (A.length+0) (0+X.length) (B.length+X.length) i j k∨(A.length≤i∧j+k≤c):=fun i j k hk hb=>by
  obtain⟨K,rfl⟩:=Nat.exists_eq_add_of_le' hk
  have h0:=one _ _ (hb.one (t:=0) hk)
  have h1:=one _ _ (hb.one (t:=K) (Nat.lt_succ_self K))
  simp only [Nat.add_zero] at h0
  clear hk
  have h2:=hb.j1
  rw [lb] at h2
  by_cases z:i < A.length
  ·exact .inl ⟨by lia,by lia,by lia,by exact ntr ‹_› (by lia),hb.eq⟩
  ·exact .inr ⟨by lia,by lia⟩
 unfold GML
 by_cases hc:c≤L
 ·rw [if_pos hc]
  refine oEE (hL.1 (Nat.lt_of_lt_of_le c0 hc)) fun i0 j0 hb0=>?_
  have hb1:=(Blk.move (a':=A++X) (b':=X++B) (di:=0) (dj:=X.length) mvR0).mp (hb0.part (i':=i0) (j':=j0) (k':=c) (by lia) (Nat.le_refl _) rfl)
  refine GM.crossX g c0 ⟨_,_,(hb1.resolve_right fun z=>absurd z.1 (Nat.ne_of_gt c0)).2⟩ (Nat.le_refl _) (by simp) (Nat.zero_le _) (by(simp;lia)) (fun i j hb=>?_) fun i j k hk hb=>?_
  ·have:=one i j hb
   rcases all i j 1 (by decide) hb with q | q
   ·exact .inl q
   ·exact .inr (.inr ⟨q.1,by lia⟩)
  ·rcases all i j k hk hb with q | q
   ·exact .inl q
   ·exact .inr (.inr ⟨by lia,q.1⟩)
 ·rw [if_neg hc]
  refine GM.crossY (c0:=0) (c1:=A.length) (d0:=c) (d1:=(X++B).length) (p:=A.length) (q:=0) ⟨⟨Nat.zero_le _,by lia,Nat.le_refl _,by lia,fun t ht=>?_⟩,fun z=>absurd z (Nat.ne_of_gt c0),fun i j k hb hk=>?_⟩ c0 (fun i j hb=>?_) (.inr ⟨Nat.le_refl _,by lia⟩)
  ·rw [Nat.zero_add,Nat.add_comm,eRt,eLf (l1:=X) (lr.symm▸ht),getX ht];exact⟨rfl,rfl⟩
  ·rcases all i j k hk hb with q | q
   ·have hj:=q.j0
    obtain⟨j',rfl⟩:=Nat.exists_eq_add_of_le' (ntr (Nat.le_add_left _ _) hj)
    have:=hL.2 i j' k ((Blk.move (a':=A++X) (b':=X++B) (di:=0) (dj:=X.length) mvR0).mpr (.inl ⟨hk,q⟩))
    exact⟨by lia,fun z=>by lia⟩
   ·have hi:=hb.i1
    rw [la] at hi
    exact⟨by lia,fun z=>.inr ⟨by lia,Nat.zero_le _⟩⟩
  ·have h1:=hb.i1
   have h2:=hb.j1
   rw [la] at h1
   exact(one i j hb).elim (fun z=>.inl ⟨Nat.zero_le _,z.1,z.2,h2⟩) fun z=>.inr ⟨z.1,h1,Nat.zero_le _,by rw [Nat.zero_add];exact z.2⟩
theorem GML.shape2{L:Nat}(O:Out A B x c)(h:GML A B m)(hL:Longest A B L):GML (List.replicate c x++A) (B++List.replicate c x) (if c < L then m else c):=by
 have c0:=O.c0
 generalize hX:List.replicate c x=X
 have lr:X.length=c:=hX▸List.length_replicate
 have inX:∀ {u},u∈X→u=x:=fun h=>(List.mem_replicate.mp (hX▸h)).2
 have getX:∀ {t},t < c→X[t]?=some x:=fun h=>hX▸rep_get h
 have g:=GM.move (a':=X++A) (b':=B++X) h (di:=X.length) (dj:=0) mv0R
 have la:(X++A).length=A.length+c:=by rw [List.length_append,lr,Nat.add_comm]
 have lb:(B++X).length=B.length+c:=by rw [List.length_append,lr]
 have one:∀ i j,Blk (X++A) (B++X) 0 (X++A).length 0 (B++X).length i j 1→(c≤i∧j < B.length)∨(i < c∧B.length≤j):=fun i j hb=>by
  refine oEA (blk_val hb (t:=0) (by decide)) fun u hu hv=>?_
  rcases at_two hu with⟨c1,c2,_⟩ | ⟨c1,_,c2,_⟩<;>rcases at_two hv with⟨d1,d2,_⟩ | ⟨d1,_,d2,_⟩
  ·exact absurd d2 (inX c2▸O.b)
  ·exact .inr ⟨lr▸c1,d1⟩
  ·exact .inl ⟨lr▸c1,d1⟩
  ·exact absurd c2 (inX d2▸O.a)
 have all:∀ i j k,0 < k→Blk (X++A) (B++X) 0 (X++A).length 0 (B++X).length i j k→Blk (X++A) (B++X) (0+X.length) (A.length+X.length) (0+0) (B.length+0) i j k∨(i+k≤c∧B.length≤j):=fun i j k hk hb=>by
  obtain⟨K,rfl⟩:=Nat.exists_eq_add_of_le' hk
  have h0:=one _ _ (hb.one (t:=0) hk)
  have h1:=one _ _ (hb.one (t:=K) (Nat.lt_succ_self K))
  simp only [Nat.add_zero] at h0
  clear hk
  have h2:=hb.i1
  rw [la] at h2
  by_cases z:i < c
  ·exact .inr ⟨by lia,by lia⟩
  ·exact .inl ⟨by lia,by exact Nat.lt_of_lt_of_le ‹_› (by lia),by lia,by lia,hb.eq⟩
 unfold GML
 by_cases hc:c < L
 ·rw [if_pos hc]
  refine oEE (hL.1 (Nat.lt_trans c0 hc)) fun i0 j0 hb0=>?_
  have hb1:=(Blk.move (a':=X++A) (b':=B++X) (di:=X.length) (dj:=0) mv0R).mp (hb0.part (i':=i0) (j':=j0) (k':=c+1) (by lia) (Nat.le_refl _) rfl)
  refine GM.crossX g (Nat.succ_pos c) ⟨_,_,(hb1.resolve_right fun z=>absurd z.1 (Nat.succ_ne_zero c)).2⟩ (by lia) (by(simp;lia)) (Nat.le_refl _) (by simp) (fun i j hb=>?_) fun i j k hk hb=>?_
  ·have:=one i j hb
   rcases all i j 1 (by decide) hb with q | q
   ·exact .inl q
   ·exact .inr (.inl ⟨by lia,q.2⟩)
  ·rcases all i j k hk hb with q | q
   ·exact .inl q
   ·exact .inr (.inl (by lia))
 ·rw [if_neg hc]
  refine GM.crossY (c0:=c) (c1:=(X++A).length) (d0:=0) (d1:=B.length) (p:=0) (q:=B.length) ⟨⟨Nat.le_refl _,by lia,Nat.zero_le _,by lia,fun t ht=>?_⟩,fun z=>absurd z (Nat.ne_of_gt c0),fun i j k hb hk=>?_⟩ c0 (fun i j hb=>?_) (.inl ⟨by lia,Nat.le_refl _⟩)
  ·rw [Nat.zero_add,eLf (l1:=X) (lr.symm▸ht),Nat.add_comm,eRt,getX ht];exact⟨rfl,rfl⟩
  ·rcases all i j k hk hb with q | q
   ·have hi:=q.i0
    obtain⟨i',rfl⟩:=Nat.exists_eq_add_of_le' (ntr (Nat.le_add_left _ _) hi)
    have:=hL.2 i' j k ((Blk.move (a':=X++A) (b':=B++X) (di:=X.length) (dj:=0) mv0R).mpr (.inl ⟨hk,q⟩))
    exact⟨by lia,fun z=>.inl (by lia)⟩
   ·exact⟨by lia,fun z=>.inr ⟨by lia,q.2⟩⟩
  ·have h1:=hb.i1
   have h2:=hb.j1
   rw [lb] at h2
   exact(one i j hb).elim (fun z=>.inl ⟨z.1,h1,Nat.zero_le _,z.2⟩) fun z=>.inr ⟨Nat.zero_le _,by rw [Nat.zero_add];exact z.1,z.2,h2⟩
end
theorem least{p:Nat→Prop}:∀ {n:Nat},p n→∃ m,p m∧∀ k,p k→m≤k:=by
 intro n
 induction n using Nat.strongRecOn with
 | ind n ih =>
  intro h
  by_cases c:∃ k,k < n∧p k
  ·refine oEA c fun k hk hp=>?_
   exact ih k hk hp
  ·exact⟨n,h,fun k hp=>Nat.le_of_not_lt fun hk=>c ⟨k,hk,hp⟩⟩
section
variable{a b:List Int}{alo ahi blo bhi i j k m:Nat}
theorem best_ex(h:Blk a b alo ahi blo bhi i j 1):∃ i j k,Best a b alo ahi blo bhi i j k∧0 < k:=by
 refine oEA (least (p:=fun d=>∃ k i j,Blk a b alo ahi blo bhi i j k∧0 < k∧k+d=ahi) (n:=ahi - 1) ⟨1,i,j,h,Nat.one_pos,by have:=h.i1;exact Nat.add_sub_of_le (by lia)⟩) ?_;rintro d ⟨k,i1,j1,hb1,hk1,hd⟩ hmin
 refine oEA (least (p:=fun i=>∃ j,Blk a b alo ahi blo bhi i j k) ⟨j1,hb1⟩) ?_;rintro i2 ⟨j2,hb2⟩ hi
 refine oEA (least (p:=fun j=>Blk a b alo ahi blo bhi i2 j k) hb2) fun j3 hb3 hj=>?_
 refine⟨i2,j3,k,⟨hb3,fun z=>absurd z (Nat.ne_of_gt hk1),fun i' j' k' hb hk=>?_⟩,hk1⟩
 have h1:=hb.i1
 have h2:=hmin (ahi - k') ⟨k',i',j',hb,hk,by exact Nat.add_sub_of_le (by lia)⟩
 refine⟨by lia,fun e=>?_⟩
 subst e
 have h3:=hi i' ⟨j',hb⟩
 rcases Nat.lt_or_eq_of_le h3 with q | q
 ·exact .inl q
 ·subst q;exact .inr ⟨rfl,hj j' hb⟩
theorem gm_ex(a b:List Int):∀ (n alo ahi blo bhi:Nat),ahi - alo≤n→∃ m,GM a b alo ahi blo bhi m:=by
 intro n
 induction n with
 | zero=>intro alo ahi blo bhi h;exact⟨0,gm_empty (.inl (by lia))⟩
 | succ n ih =>
  intro alo ahi blo bhi h
  by_cases c:∃ i j,Blk a b alo ahi blo bhi i j 1
  ·refine oEE c fun i j hb=>?_
   refine oEEEA (best_ex hb) fun i j k B hk=>?_
   have b1:=B.blk.i0;have b2:=B.blk.i1
   obtain⟨m1,g1⟩:=ih alo i blo j (Nat.sub_le_iff_le_add.mpr (by lia))
   obtain⟨m2,g2⟩:=ih (i+k) ahi (j+k) bhi (Nat.sub_le_iff_le_add.mpr (by lia))
   exact⟨_,.step B hk g1 g2⟩
  ·exact⟨0,.none fun i j hb=>c ⟨i,j,hb⟩⟩
theorem gml_ex(a b:List Int):∃ m,GML a b m:=gm_ex a b _ _ _ _ _ (Nat.le_refl _)
end
section
variable{o o' M Z:List Int}{c:Int→Nat}
theorem longest_self(A:List Int):Longest A A A.length :=
 ⟨fun h=>⟨0,0,Nat.le_refl _,by lia,Nat.le_refl _,by lia,fun t ht=>⟨rfl,by rw [Nat.zero_add,List.getElem?_eq_getElem ht];rfl⟩⟩,fun i j k hb=>by have:=hb.i1;lia⟩
noncomputable def maxC:List Int→(Int→Nat)→Nat
 | [],_=>0
 | m::o,c=>max (c m) (maxC o c)
theorem maxC_n{c:Int→Nat}:maxC [] c=0:=rfl
theorem maxC_c{m:Int}{o:List Int}{c:Int→Nat}:maxC (m::o) c=max (c m) (maxC o c):=rfl
theorem maxC_ge{n:Int}(h:n∈o):c n≤maxC o c:=by
 induction o with
 | nil=>cases h
 | cons m o ih =>
  rcases mK h with rfl | h
  ·exact Nat.le_max_left ..
  ·exact ntr (ih h) (Nat.le_max_right ..)
theorem maxC_in(h:0 < maxC o c):∃ n∈o,c n=maxC o c:=by
 induction o with
 | nil=>cases h
 | cons m o ih =>
  rcases Nat.le_total (maxC o c) (c m) with q | q
  ·exact⟨m,.head _,(Nat.max_eq_left q).symm⟩
  ·have e:maxC (m::o) c=maxC o c:=Nat.max_eq_right q
   rw [e] at h ⊢
   refine oEA (ih h) fun n h1 h2=>?_
   exact⟨n,.tail _ h1,h2⟩
theorem its_adj(c0:∀ n∈o,0 < c n):∀ {i:Nat} {u v:Int},(its o c)[i]?=some u→(its o c)[i+1]?=some v→u≠v→∃ p,o[p]?=some u∧o[p+1]?=some v:=by
 induction o with
 | nil=>intro i u v h;cases h
 | cons m o ih =>
  intro i u v h1 h2 hne
  have c1:∀ n∈o,0 < c n:=fun n hn=>c0 n (.tail _ hn)
  rw [its_cons] at h1 h2
  have lr:(List.replicate (c m) m).length=c m:=List.length_replicate
  rcases Nat.lt_trichotomy (i+1) (c m) with q | q | q
  ·rw [eLf (lr.symm▸q),rep_get q] at h2
   rw [eLf (lr.symm▸Nat.lt_of_succ_lt q),rep_get (Nat.lt_of_succ_lt q)] at h1
   rw [h1] at h2
   exact absurd (Option.some.inj h2) hne
  ·have q':i < c m:=q▸Nat.lt_succ_self i
   rw [eLf (lr.symm▸q'),rep_get q'] at h1
   have e0:=eRt (l1:=List.replicate (c m) m) (l2:=its o c) (i:=0)
   rw [lr,Nat.zero_add] at e0
   rw [q,e0] at h2
   cases o with
   | nil=>cases h2
   | cons m' o =>
    have:=c1 m' (.head _)
    rw [its_cons,eLf (by rw [List.length_replicate];exact this),rep_get this] at h2
    exact⟨0,h1,h2⟩
  ·obtain⟨i',rfl⟩:∃ i',i=i'+c m:=⟨i - c m,by exact(Nat.sub_add_cancel (by lia)).symm⟩
   have e1:=eRt (l1:=List.replicate (c m) m) (l2:=its o c) (i:=i')
   have e2:=eRt (l1:=List.replicate (c m) m) (l2:=its o c) (i:=i'+1)
   rw [lr] at e1 e2
   rw [e1] at h1
   rw [Nat.add_right_comm,e2] at h2
   refine oEA (ih c1 h1 h2 hne) fun p h3 h4=>?_
   exact⟨p+1,h3,h4⟩
theorem longest_runs(s:M.Sublist Z)(nd:Z.Nodup)(c0:∀ n∈Z,0 < c n)(far:∀ p q u v,M[p]?=some u→M[p+1]?=some v→Z[q]?=some u→Z[q+1]?=some v→False):Longest (its M c) (its Z c) (maxC M c):=by
 refine⟨fun h=>?_,fun i j k hb=>?_⟩
 ·refine oEA (maxC_in h) fun n hn e=>?_
  rw [← e]
  exact⟨_,_,(its_run s nd c0 hn).blk⟩
 ·rcases Nat.eq_zero_or_pos k with z | hk
  ·rw [z];exact Nat.zero_le _
  ·have c1:∀ n∈M,0 < c n:=fun n hn=>c0 n (s.subset hn)
   refine oEA (blk_val hb hk) fun n h1 _=>?_
   have con:∀ t,t < k→(its M c)[i+t]?=some n:=by
    intro t
    induction t with
    | zero=>intro _;exact h1
    | succ t ih =>
     intro ht
     refine oEA (blk_val hb (Nat.lt_of_succ_lt ht)) fun u hu hv=>?_
     refine oEA (blk_val hb ht) fun u' hu' hv'=>?_
     have e:=ih (Nat.lt_of_succ_lt ht)
     rw [hu] at e
     cases e
     by_cases e':u'=n
     ·rw [hu',e']
     ·refine oEA (its_adj c1 hu hu' (Ne.symm e')) fun p p1 p2=>?_
      refine oEA (its_adj c0 hv hv' (Ne.symm e')) fun q q1 q2=>?_
      exact absurd (far p q _ _ p1 p2 q1 q2) id
   have f0:=(its_at M c n (nd.sublist s) _).mp (con 0 hk)
   have f1:=(its_at M c n (nd.sublist s) _).mp (con (k - 1) (Nat.sub_lt hk Nat.one_pos))
   have:=maxC_ge (c:=c) f0.1
   lia
end
section
variable{P M S OP Z OS:List Int}{x:Int}{c:Int→Nat}{L:Nat}
theorem its_ne{o:List Int}(c0:∀ n∈o,0 < c n)(h:o≠[]):its o c≠[]:=by
 cases o with
 | nil=>exact absurd rfl h
 | cons n o=>exact List.ne_nil_of_mem (its_in (.head _) (c0 n (.head _)))
theorem app_head{l1 l2:List Int}(h:l1≠[]):(l1++l2).head?=l1.head?:=by
 cases l1 with
 | nil=>exact absurd rfl h
 | cons n o=>rfl
theorem app_last{l1 l2:List Int}(h:l2≠[]):(l1++l2).getLast?=l2.getLast?:=by
 rw [List.getLast?_append]
 cases e:l2.getLast? with
 | none=>exact absurd (List.getLast?_eq_none_iff.mp e) h
 | some u=>rfl
theorem head_ne{l1 l2:List Int}(h:l1≠[])(d:∀ u∈l1,u∉l2):l1.head?≠l2.head?:=by
 cases l1 with
 | nil=>exact absurd rfl h
 | cons n o =>
  cases l2 with
  | nil=>exact fun z=>nomatch z
  | cons n' o'=>exact fun z=>d n (.head _) (by cases z;exact .head _)
theorem last_ne{l1 l2:List Int}(h:l1≠[])(d:∀ u∈l1,u∉l2):l1.getLast?≠l2.getLast?:=by
 intro z
 cases e:l1.getLast? with
 | none=>exact h (List.getLast?_eq_none_iff.mp e)
 | some u=>exact d u (List.mem_of_getLast? e) (List.mem_of_getLast? (z▸e))
theorem three{a1 a2 a3 b1 b2 b3:List Int}{m1 m2 m3:Nat}(h1:GML a1 b1 m1)(h2:GML a2 b2 m2)(h3:GML a3 b3 m3)(d12:∀ u∈a1,u∉b2)(d13:∀ u∈a1,u∉b3)(d21:∀ u∈a2,u∉b1)(d23:∀ u∈a2,u∉b3)(d31:∀ u∈a3,u∉b1)(d32:∀ u∈a3,u∉b2)
  (na:a2≠[]) (nb:b2≠[]) (hd:a2.head?≠b2.head?) (lt:a2.getLast?≠b2.getLast?):GML (a1++a2++a3) (b1++b2++b3) (m1+m2+m3):=by
 refine GML.app (GML.app h1 h2 d12 d21 (.inr (.inl hd))) h3 (fun u hu=>?_) (fun u hu hv=>?_) (.inl ?_)
 ·rcases List.mem_append.mp hu with h | h
  ·exact d13 u h
  ·exact d23 u h
 ·rcases List.mem_append.mp hv with h | h
  ·exact d31 u hu h
  ·exact d32 u hu h
 ·rw [app_last na,app_last nb];exact lt
end
section
variable{P M S OP OX OS Z a1 a2 a3 b1 b2 b3:List Int}{x:Int}{c:Int→Nat}{L m1 m2 m3:Nat}
theorem three'(nd:(OP++OX++OS).Nodup)(h1:GML a1 b1 m1)(h2:GML a2 b2 m2)(h3:GML a3 b3 m3)(i1:a1 ⊆ OP)(i2:a2 ⊆ OX)(i3:a3 ⊆ OS)(j1:b1 ⊆ OP)(j2:b2 ⊆ OX)(j3:b3 ⊆ OS)
  (na:a2≠[]) (nb:b2≠[]) (hd:a2.head?≠b2.head?) (lt:a2.getLast?≠b2.getLast?):GML (a1++a2++a3) (b1++b2++b3) (m1+m2+m3):=by
 refine oAA (List.nodup_append.mp nd) fun n1 _ n3=>?_
 refine oAA (List.nodup_append.mp n1) fun _ _ n2=>?_
 have d12:∀ u,u∈OP→u∈OX→False:=fun u h h'=>n2 u h u h' rfl
 have d13:∀ u,u∈OP→u∈OS→False:=fun u h h'=>n3 u (mF _ h) u h' rfl
 have d23:∀ u,u∈OX→u∈OS→False:=fun u h h'=>n3 u (mR _ h) u h' rfl
 exact three h1 h2 h3 (fun u h h'=>d12 u (i1 h) (j2 h')) (fun u h h'=>d13 u (i1 h) (j3 h')) (fun u h h'=>d12 u (j1 h') (i2 h)) (fun u h h'=>d23 u (i2 h) (j3 h')) (fun u h h'=>d13 u (j1 h') (i3 h)) (fun u h h'=>d23 u (j2 h') (i3 h)) na nb hd lt
structure Mv(P M S OP Z OS:List Int)(x:Int)(c:Int→Nat)(L:Nat):Prop where
 nd:(OP++(x::Z)++OS).Nodup
 cP:∀ n∈OP,0 < c n
 cX:0 < c x
 cZ:∀ n∈Z,0 < c n
 cS:∀ n∈OS,0 < c n
 sP:P.Sublist OP
 sM:M.Sublist Z
 sS:S.Sublist OS
 ne:M≠[]
 lo:Longest (its M c) (its Z c) L
section
variable(V:Mv P M S OP Z OS x c L)
include V
theorem Mv.xZ:x∉Z:=(List.nodup_cons.mp (List.nodup_append.mp (List.nodup_append.mp V.nd).1).2.1).1
theorem Mv.ndZ:Z.Nodup:=(List.nodup_cons.mp (List.nodup_append.mp (List.nodup_append.mp V.nd).1).2.1).2
theorem Mv.ndP:OP.Nodup:=(List.nodup_append.mp (List.nodup_append.mp V.nd).1).1
theorem Mv.ndS:OS.Nodup:=(List.nodup_append.mp V.nd).2.1
theorem Mv.iP:its P c ⊆ OP:=fun _ h=>V.sP.subset (its_mem h)
theorem Mv.iM:its M c ⊆ x::Z:=fun _ h=>.tail _ (V.sM.subset (its_mem h))
theorem Mv.iZ:its Z c ⊆ x::Z:=fun _ h=>.tail _ (its_mem h)
theorem Mv.iS:its S c ⊆ OS:=fun _ h=>V.sS.subset (its_mem h)
theorem Mv.iX:List.replicate (c x) x ⊆ x::Z:=fun _ h=>(List.mem_replicate.mp h).2▸.head _
theorem Mv.oM:Out (its M c) (its Z c) x (c x):=⟨V.cX,fun h=>V.xZ (V.sM.subset (its_mem h)),fun h=>V.xZ (its_mem h)⟩
theorem Mv.oZ:Out (its Z c) (its M c) x (c x):=⟨V.cX,V.oM.b,V.oM.a⟩
theorem Mv.gP:GML (its P c) (its OP c) (its P c).length:=let ⟨_,h⟩:=gml_ex (its P c) (its OP c);its_all V.sP V.ndP V.cP h▸h
theorem Mv.gM:GML (its M c) (its Z c) (its M c).length:=let ⟨_,h⟩:=gml_ex (its M c) (its Z c);its_all V.sM V.ndZ V.cZ h▸h
theorem Mv.gS:GML (its S c) (its OS c) (its S c).length:=let ⟨_,h⟩:=gml_ex (its S c) (its OS c);its_all V.sS V.ndS V.cS h▸h
theorem Mv.gP':GML (its OP c) (its P c) (its P c).length:=let ⟨_,h⟩:=gml_ex (its OP c) (its P c);its_all' V.sP V.ndP V.cP h▸h
theorem Mv.gM':GML (its Z c) (its M c) (its M c).length:=let ⟨_,h⟩:=gml_ex (its Z c) (its M c);its_all' V.sM V.ndZ V.cZ h▸h
theorem Mv.gS':GML (its OS c) (its S c) (its S c).length:=let ⟨_,h⟩:=gml_ex (its OS c) (its S c);its_all' V.sS V.ndS V.cS h▸h
theorem Mv.nM:its M c≠[]:=its_ne (fun n h=>V.cZ n (V.sM.subset h)) V.ne
theorem Mv.nZ:its Z c≠[]:=its_ne V.cZ fun z=>V.ne (List.sublist_nil.mp (z▸V.sM))
theorem Mv.nX:List.replicate (c x) x≠[]:=List.ne_nil_of_length_pos (by rw [List.length_replicate];exact V.cX)
theorem Mv.dX{l:List Int}(h:x∉l):∀ u∈List.replicate (c x) x,u∉l:=fun _ h'=>(List.mem_replicate.mp h').2▸h
theorem Mv.hd{l1 l2 l3:List Int}(h:l1≠[])(d:x∉l1):(List.replicate (c x) x++l2).head?≠(l1++l3).head?:=by
 rw [app_head V.nX,app_head h];exact head_ne V.nX (V.dX d)
theorem Mv.lt{l1 l2 l3:List Int}(h:l1≠[])(d:x∉l1):(l2++List.replicate (c x) x).getLast?≠(l3++l1).getLast?:=by
 rw [app_last V.nX,app_last h];exact last_ne V.nX (V.dX d)
theorem Mv.right0:GML (its P c++(its M c++List.replicate (c x) x)++its S c) (its OP c++(List.replicate (c x) x++its Z c)++its OS c) ((its P c).length+(if c x≤L then (its M c).length else c x)+(its S c).length) :=
 three' V.nd V.gP (GML.shape1 V.oM V.gM V.lo) V.gS V.iP (List.append_subset.mpr ⟨V.iM,V.iX⟩) V.iS (fun _ h=>its_mem h) (List.append_subset.mpr ⟨V.iX,V.iZ⟩) (fun _ h=>its_mem h)
  (List.append_ne_nil_of_left_ne_nil V.nM _) (List.append_ne_nil_of_left_ne_nil V.nX _) (Ne.symm (V.hd V.nM V.oM.a)) (V.lt V.nZ V.oM.b)
theorem Mv.right1:GML (its OP c++(List.replicate (c x) x++its Z c)++its OS c) (its P c++(its M c++List.replicate (c x) x)++its S c) ((its P c).length+(if c x < L then (its M c).length else c x)+(its S c).length) :=
 three' V.nd V.gP' (GML.shape2 V.oZ V.gM' V.lo.swap) V.gS' (fun _ h=>its_mem h) (List.append_subset.mpr ⟨V.iX,V.iZ⟩) (fun _ h=>its_mem h) V.iP (List.append_subset.mpr ⟨V.iM,V.iX⟩) V.iS
  (List.append_ne_nil_of_left_ne_nil V.nX _) (List.append_ne_nil_of_left_ne_nil V.nM _) (V.hd V.nM V.oM.a) (Ne.symm (V.lt V.nZ V.oM.b))
theorem Mv.left0:GML (its P c++(List.replicate (c x) x++its M c)++its S c) (its OP c++(its Z c++List.replicate (c x) x)++its OS c) ((its P c).length+(if c x < L then (its M c).length else c x)+(its S c).length) :=
 three' V.nd V.gP (GML.shape2 V.oM V.gM V.lo) V.gS V.iP (List.append_subset.mpr ⟨V.iX,V.iM⟩) V.iS (fun _ h=>its_mem h) (List.append_subset.mpr ⟨V.iZ,V.iX⟩) (fun _ h=>its_mem h)
  (List.append_ne_nil_of_left_ne_nil V.nX _) (List.append_ne_nil_of_left_ne_nil V.nZ _) (V.hd V.nZ V.oM.b) (Ne.symm (V.lt V.nM V.oM.a))
theorem Mv.left1:GML (its OP c++(its Z c++List.replicate (c x) x)++its OS c) (its P c++(List.replicate (c x) x++its M c)++its S c) ((its P c).length+(if c x≤L then (its M c).length else c x)+(its S c).length) :=
 three' V.nd V.gP' (GML.shape1 V.oZ V.gM' V.lo.swap) V.gS' (fun _ h=>its_mem h) (List.append_subset.mpr ⟨V.iZ,V.iX⟩) (fun _ h=>its_mem h) V.iP (List.append_subset.mpr ⟨V.iX,V.iM⟩) V.iS
  (List.append_ne_nil_of_left_ne_nil V.nZ _) (List.append_ne_nil_of_left_ne_nil V.nX _) (Ne.symm (V.hd V.nZ V.oM.b)) (V.lt V.nM V.oM.a)
end
end
theorem qm_congr:∀ (xs:List Int) (f g:Int→Int),(∀ u,f u=g u∨(f u≤0∧g u≤0))→qm xs f=qm xs g:=by
 intro xs
 induction xs with
 | nil=>intro _ _ _;rfl
 | cons x xs ih =>
  intro f g h
  have ih:=ih (fun y=>if y=x then f x - 1 else f y) (fun y=>if y=x then g x - 1 else g y) fun u=>by
   by_cases e:u=x
   ·simp only [if_pos e]
    rcases h x with h | h
    ·exact .inl (by rw [h])
    ·exact .inr ⟨by lia,by lia⟩
   ·simp only [if_neg e];exact h u
  simp only [qm_n,qm_c,ih]
  congr 1
  rcases h x with h | h
  ·rw [h]
  ·rw [if_neg (by lia),if_neg (by lia)]
noncomputable def inter:List Int→List Int→List Int
 | [],_=>[]
 | x::xs,ys=>if x∈ys then x::inter xs (ys.erase x) else inter xs ys
theorem inter_n{ys:List Int}:inter [] ys=[]:=rfl
theorem inter_c{x:Int}{xs ys:List Int}:inter (x::xs) ys=if x∈ys then x::inter xs (ys.erase x) else inter xs ys:=rfl
theorem qm_inter(xs:List Int):∀ ys,qm xs (fun k=>cnt k ys)=(inter xs ys).length:=by
 induction xs with
 | nil=>intro _;rfl
 | cons x xs ih =>
  intro ys
  by_cases hx:x∈ys
  ·have hc:1≤ys.count x:=List.count_pos_iff.mpr hx
   have e1:qm xs (fun y=>if y=x then cnt x ys - 1 else cnt y ys)=qm xs fun k=>cnt k (ys.erase x):=qm_congr _ _ _ fun u=>.inl (by
    by_cases e:u=x
    ·subst e;rw [if_pos rfl];unfold cnt;rw [List.count_erase_self];lia
    ·rw [if_neg e];unfold cnt;rw [List.count_erase_of_ne e])
   simp only [qm_n,qm_c,inter_n,inter_c,if_pos hx,e1,ih,List.length_cons]
   rw [if_pos (by unfold cnt;(simp;lia)),Nat.add_comm]
  ·have hc:ys.count x=0:=List.count_eq_zero.mpr hx
   have e1:qm xs (fun y=>if y=x then cnt x ys - 1 else cnt y ys)=qm xs fun k=>cnt k ys:=qm_congr _ _ _ fun u=>by
    by_cases e:u=x
    ·subst e;rw [if_pos rfl];unfold cnt;exact .inr ⟨by lia,by lia⟩
    ·rw [if_neg e];exact .inl rfl
   simp only [qm_n,qm_c,inter_n,inter_c,if_neg hx,e1,ih]
   rw [if_neg (by unfold cnt;lia),Nat.zero_add]
theorem inter_count(xs:List Int):∀ ys u,(inter xs ys).count u=min (xs.count u) (ys.count u):=by
 induction xs with
 | nil=>intro ys u;simp [inter_n,inter_c]
 | cons x xs ih =>
  intro ys u
  by_cases hx:x∈ys
  ·have hc:1≤ys.count x:=List.count_pos_iff.mpr hx
   simp only [inter_n,inter_c,if_pos hx]
   by_cases e:u=x
   ·subst e;rw [List.count_cons_self,List.count_cons_self,ih,List.count_erase_self]
    obtain⟨q,hq⟩:=Nat.exists_eq_add_of_le' hc
    rw [hq,Nat.add_sub_cancel,Nat.add_min_add_right]
   ·rw [List.count_cons_of_ne (Ne.symm e),List.count_cons_of_ne (Ne.symm e),ih,List.count_erase_of_ne e]
  ·have hc:ys.count x=0:=List.count_eq_zero.mpr hx
   simp only [inter_n,inter_c,if_neg hx]
   rw [ih]
   by_cases e:u=x
   ·subst e;rw [List.count_cons_self];lia
   ·rw [List.count_cons_of_ne (Ne.symm e)]
theorem qm_of_count{xs ys:List Int}(l:List Int)(h:∀ u,l.count u=min (xs.count u) (ys.count u)):qm xs (fun k=>cnt k ys)=l.length:=by
 rw [qm_inter]
 exact(List.perm_iff_count.mpr fun u=>(inter_count xs ys u).trans (h u).symm).length_eq
section
variable{xs ys H:List Int}{x:Int}{n m tot:Nat}
theorem qm_in(h:∀ u,xs.count u≤H.count u):qm xs (fun k=>cnt k H)=xs.length∧qm H (fun k=>cnt k xs)=xs.length :=
 ⟨qm_of_count xs fun u=>(Nat.min_eq_left (h u)).symm,qm_of_count xs fun u=>(Nat.min_eq_right (h u)).symm⟩
theorem rep_count(k:Nat)(x u:Int):(List.replicate k x).count u=if x=u then k else 0:=by
 rw [List.count_replicate]
 by_cases e:x=u<;>simp [e]
theorem qm_rep(n:Nat)(x:Int)(H:List Int):qm (List.replicate n x) (fun k=>cnt k H)=min n (H.count x)∧qm H (fun k=>cnt k (List.replicate n x))=min n (H.count x):=by
 constructor
 ·have:=qm_of_count (xs:=List.replicate n x) (ys:=H) (List.replicate (min n (H.count x)) x) fun u=>by
   rw [rep_count,rep_count];by_cases e:x=u
   ·subst e;rw [if_pos rfl,if_pos rfl]
   ·rw [if_neg e,if_neg e,Nat.zero_min]
  rw [this,List.length_replicate]
 ·have:=qm_of_count (xs:=H) (ys:=List.replicate n x) (List.replicate (min n (H.count x)) x) fun u=>by
   rw [rep_count,rep_count];by_cases e:x=u
   ·subst e;rw [if_pos rfl,if_pos rfl,Nat.min_comm]
   ·rw [if_neg e,if_neg e,Nat.min_zero]
  rw [this,List.length_replicate]
theorem rep_blk{pre post:List Int}{k:Nat}(hH:H=pre++List.replicate m x++post)(h1:k≤n)(h2:k≤m):Blk (List.replicate n x) H 0 (List.replicate n x).length 0 H.length 0 pre.length k:=by
 subst hH
 refine⟨Nat.le_refl _,by simp;lia,Nat.zero_le _,by simp;lia,fun t ht=>?_⟩
 have e1:(List.replicate n x)[0+t]?=some x:=by rw [Nat.zero_add,rep_get (Nat.lt_of_lt_of_le ‹_› (by lia))]
 have e2:(pre++List.replicate m x++post)[pre.length+t]?=some x:=by
  rw [eLf (by simp;lia),Nat.add_comm,eRt,rep_get (by lia)]
 exact⟨e1.trans e2.symm,by rw [e1];rfl⟩
theorem gm_ge{a b:List Int}{i j k:Nat}(h:GML a b tot)(hb:Blk a b 0 a.length 0 b.length i j k):k≤tot:=by
 rcases Nat.eq_zero_or_pos k with z | hk
 ·lia
 ·cases h with
  | none hn=>exact absurd (hb.one (t:=0) hk) (hn _ _)
  | step B hk' g1 g2=>have:=(B.most _ _ _ hb hk).1;exact ntr ‹_› (by lia)
theorem sub_rep{l:List Int}(s:l.Sublist (List.replicate n x)):∃ k,k≤n∧l=List.replicate k x:=List.sublist_replicate_iff.mp s
theorem rep_tot{pre post:List Int}(hH:H=pre++List.replicate m x++post)(hm:H.count x=m):(GML (List.replicate n x) H tot→tot=min n m)∧(GML H (List.replicate n x) tot→tot=min n m):=by
 have up:∀ l:List Int,l.Sublist (List.replicate n x)→l.Sublist H→l.length≤min n m:=fun l s1 s2=>by
  refine oEA (sub_rep s1) ?_;rintro k hk rfl
  have:=s2.count_le x
  rw [hm,rep_count,if_pos rfl] at this
  rw [List.length_replicate];lia
 refine⟨fun h=>?_,fun h=>?_⟩
 ·refine oEAA h.common fun l e s1 s2=>?_
  have h1:=up l s1 s2
  have h2:=gm_ge h (rep_blk (k:=min n m) hH (Nat.min_le_left ..) (Nat.min_le_right ..))
  lia
 ·refine oEAA h.common fun l e s1 s2=>?_
  have h1:=up l s2 s1
  have h2:=gm_ge h (blk_swap (rep_blk (k:=min n m) hH (Nat.min_le_left ..) (Nat.min_le_right ..)))
  lia
end
section
variable{o O l r:List Int}{c:Int→Nat}{n x:Int}
theorem its_side(nd:O.Nodup):∃ pre post,its O c=pre++List.replicate ((its O c).count x) x++post:=by
 by_cases h:x∈O
 ·refine oEE (List.append_of_mem h) ?_;rintro l r rfl
  refine⟨its l c,its r c,?_⟩
  rw [its_count _ _ _ nd,if_pos h,its_app,its_cons,List.append_assoc]
 ·exact⟨its O c,[],by rw [its_count _ _ _ nd,if_neg h];simp⟩
noncomputable def ins(o:List Int)(k:Nat)(n:Int):List Int:=o.take k++n::o.drop k
theorem split_at{s t l r:List Int}(hn1:n∉l)(hn2:n∉r)(h:(s++n::t).Sublist (l++n::r)):s.Sublist l∧t.Sublist r:=by
 refine oEEAA (List.sublist_append_iff.mp h) fun a b e h1 h2=>?_
 have na:n∉a:=fun m=>hn1 (h1.subset m)
 rcases List.append_eq_append_iff.mp e with⟨a',e1,e2⟩ | ⟨c',e1,e2⟩
 ·
  cases a' with
  | nil =>
   rw [List.append_nil] at e1;subst e1
   have e2:b=n::t:=by simpa using e2.symm
   subst e2
   exact⟨h1,List.cons_sublist_cons.mp h2⟩
  | cons y ys =>
   rw [List.cons_append] at e2
   cases e2
   exact absurd (by rw [e1];simp) na
 ·
  subst e1
  rw [e2] at h2
  cases c' with
  | nil=>exact⟨by rw [List.append_nil];exact h1,List.cons_sublist_cons.mp (show(n::t).Sublist (n::r) from h2)⟩
  | cons y ys =>
   exfalso
   rw [List.cons_append] at h2
   have:(n::t).Sublist r:=by
    rcases List.sublist_cons_iff.mp h2 with q | ⟨q,e,q'⟩
    ·exact((List.sublist_append_right ys (n::t)).cons y).trans q
    ·cases e
     exact(List.sublist_append_right ys (n::t)).trans q'
   exact hn2 (this.subset (.head _))
theorem place(nd:O.Nodup)(hs:o.Sublist O)(hn:n∈O)(hno:n∉o):∃ k,k≤o.length∧∀ k',k'≤o.length→((ins o k' n).Sublist O↔k'=k):=by
 refine oEE (List.append_of_mem hn) ?_;rintro l r rfl
 have nd':=List.nodup_append.mp nd
 have hl:n∉l:=fun m=>nd'.2.2 n m n (.head _) rfl
 have hr:n∉r:=(List.nodup_cons.mp nd'.2.1).1
 refine oEEAA (List.sublist_append_iff.mp hs) ?_;rintro s t rfl h1 h2
 have h2':t.Sublist r:=by
  rcases List.sublist_cons_iff.mp h2 with q | ⟨q,e,q'⟩
  ·exact q
  ·subst e;exact absurd (mR _ (.head _)) hno
 refine⟨s.length,by simp,fun k' hk'=>⟨fun h=>?_,fun e=>?_⟩⟩
 ·obtain⟨q1,q2⟩:=split_at hl hr h
  have e1:((s++t).filter fun u=>decide (u∈l)).length=s.length:=by
   rw [List.filter_append,List.filter_eq_self.mpr fun u hu=>by simpa using h1.subset hu,List.filter_eq_nil_iff.mpr fun u hu=>by
    simpa using fun m=>nd'.2.2 u m u (.tail _ (h2'.subset hu)) rfl,List.append_nil]
  have e2:((s++t).filter fun u=>decide (u∈l)).length=k':=by
   rw [← List.take_append_drop k' (s++t),List.filter_append,List.filter_eq_self.mpr fun u hu=>by simpa using q1.subset hu,List.filter_eq_nil_iff.mpr fun u hu=>by
    simpa using fun m=>nd'.2.2 u m u (.tail _ (q2.subset hu)) rfl,List.append_nil,List.length_take,Nat.min_eq_left hk']
  lia
 ·subst e
  unfold ins
  rw [List.take_left,List.drop_left]
  exact h1.append (h2'.cons_cons n)
end
theorem inter_len(xs:List Int):∀ ys,(inter xs ys).length≤xs.length:=by
 induction xs with
 | nil=>intro _;exact Nat.le_refl _
 | cons x xs ih =>
  intro ys
  by_cases hx:x∈ys
  ·simp only [inter_n,inter_c,if_pos hx,List.length_cons];exact Nat.succ_le_succ (ih _)
  ·simp only [inter_n,inter_c,if_neg hx,List.length_cons];exact Nat.le_succ_of_le (ih _)
theorem len_le{xs H:List Int}(h:∀ u,xs.count u≤H.count u):xs.length≤H.length:=by
 have:=(qm_in h).2
 rw [qm_inter] at this
 rw [← this];exact inter_len _ _
theorem nodup_len:∀ {l l':List Int},l.Nodup→(∀ u∈l,u∈l')→l.length≤l'.length:=by
 intro l
 induction l with
 | nil=>intro l' _ _;exact Nat.zero_le _
 | cons x l ih =>
  intro l' nd h
  refine oEE (List.append_of_mem (h x (.head _))) ?_;rintro a b rfl
  have n:=List.nodup_cons.mp nd
  have:=ih (l':=a++b) n.2 fun u hu=>by
   have:=h u (.tail _ hu)
   rcases List.mem_append.mp this with m | m
   ·exact mF _ m
   ·rcases mK m with rfl | m
    ·exact absurd hu n.1
    ·exact mR _ m
  rw [List.length_append] at this
  rw [List.length_cons,List.length_append,List.length_cons];exact Nat.lt_of_le_of_lt this Nat.le.refl
section
variable{o O I:List Int}{c:Int→Nat}{x:Int}{tot:Nat}
theorem its_bag(nd:O.Nodup)(ndI:I.Nodup)(s:∀ u∈I,u∈O):∀ u,(its I c).count u≤(its O c).count u:=fun u=>by
 rw [its_count _ _ _ nd,its_count _ _ _ ndI]
 by_cases h:u∈I
 ·rw [if_pos h,if_pos (s u h)];exact Nat.le_refl _
 ·rw [if_neg h];exact Nat.zero_le _
theorem place_tot(nd:O.Nodup)(ndI:I.Nodup)(c0:∀ n∈O,0 < c n)(s:∀ u∈I,u∈O) :
  (GML (its I c) (its O c) tot→tot≤(its I c).length∧(tot=(its I c).length↔I.Sublist O))∧(GML (its O c) (its I c) tot→tot≤(its I c).length∧(tot=(its I c).length↔I.Sublist O)):=by
 have c1:∀ n∈I,0 < c n:=fun n hn=>c0 n (s n hn)
 refine⟨fun h=>⟨?_,fun e=>?_,fun q=>its_all q nd c0 h⟩,fun h=>⟨?_,fun e=>?_,fun q=>its_all' q nd c0 h⟩⟩
 ·refine oEAA h.common fun l e s1 _=>?_
  rw [← e];exact s1.length_le
 ·exact its_sub_inv ndI c1 (e▸h).sub_of_all
 ·refine oEAA h.common fun l e _ s1=>?_
  rw [← e];exact s1.length_le
 ·exact its_sub_inv ndI c1 (e▸h).sub_of_all'
theorem ins_mem{k:Nat}{u:Int}:u∈ins o k x↔u=x∨u∈o:=by
 unfold ins
 rw [List.mem_append,List.mem_cons]
 constructor
 ·rintro (h | h | h)
  ·exact .inr (List.mem_of_mem_take h)
  ·exact .inl h
  ·exact .inr (List.mem_of_mem_drop h)
 ·rintro (h | h)
  ·exact .inr (.inl h)
  ·rw [← List.take_append_drop k o] at h
   exact(List.mem_append.mp h).imp id .inr
theorem ins_perm{k:Nat}:(ins o k x).Perm (x::o):=by
 unfold ins
 have:=List.perm_middle (a:=x) (l₁:=o.take k) (l₂:=o.drop k)
 rwa [List.take_append_drop] at this
theorem ins_nodup{k:Nat}(nd:o.Nodup)(h:x∉o):(ins o k x).Nodup:=ins_perm.nodup_iff.mpr (List.nodup_cons.mpr ⟨h,nd⟩)
end
noncomputable def ix(O:List Int)(n:Int):Nat:=O.idxOf n
noncomputable def lrs(O ac:List Int)(c:Int→Nat):Nat→Nat×Nat
 | 0=>(0,0)
 | i+1 =>
  let rn:=(if 0 < i∧ix O (ac.getD i 0)=ix O (ac.getD (i - 1) 0)+1 then (lrs O ac c i).2 else 0)+c (ac.getD i 0)
  (max (lrs O ac c i).1 rn,rn)
theorem lrs_c{O ac:List Int}{c:Int→Nat}{i:Nat}:lrs O ac c (i+1)=(max (lrs O ac c i).1 ((if 0 < i∧ix O (ac.getD i 0)=ix O (ac.getD (i - 1) 0)+1 then (lrs O ac c i).2 else 0)+c (ac.getD i 0)),(if 0 < i∧ix O (ac.getD i 0)=ix O (ac.getD (i - 1) 0)+1 then (lrs O ac c i).2 else 0)+c (ac.getD i 0)):=rfl
noncomputable def lgst(O ac:List Int)(c:Int→Nat):Nat:=(lrs O ac c ac.length).1
noncomputable def lostV(O ac:List Int)(c:Int→Nat)(x:Int)(f:Bool):Nat :=
 if lgst O ac c < c x∨(c x=lgst O ac c∧f=true) then (ac.map c).sum else c x
theorem ix_get{O:List Int}{n:Int}(h:n∈O):O[ix O n]?=some n:=by
 have hl:O.idxOf n < O.length:=List.idxOf_lt_length_of_mem h
 unfold ix
 rw [List.getElem?_eq_getElem hl,List.getElem_idxOf hl]
section
variable{O ac:List Int}{c:Int→Nat}{x n:Int}
theorem ix_eq{q:Nat}(nd:O.Nodup)(h:O[q]?=some n):ix O n=q:=by
 have h1:=ix_get (List.mem_of_getElem? h)
 have hl:=(List.getElem?_eq_some_iff.mp h1).1
 exact(List.getElem?_inj hl nd).mp (h1.trans h.symm)
theorem getD_get{l:List Int}{i:Nat}(h:i < l.length):l[i]?=some (l.getD i 0):=by
 rw [List.getD_eq_getElem?_getD,List.getElem?_eq_getElem h];rfl
theorem take_one{l:List Int}{i:Nat}(h:i < l.length):l.take (i+1)=l.take i++[l.getD i 0]:=by
 rw [List.take_add_one,getD_get h];rfl
theorem maxC_snoc(l:List Int)(x:Int):maxC (l++[x]) c=max (maxC l c) (c x):=by
 induction l with
 | nil=>simp [maxC_n,maxC_c]
 | cons y l ih=>simp only [List.cons_append,maxC_n,maxC_c,ih];simp
theorem lgst_all(h:∀ i,0 < i→i < ac.length→ix O (ac.getD i 0)=ix O (ac.getD (i - 1) 0)+1):lgst O ac c=(ac.map c).sum:=by
 have key:∀ i,i≤ac.length→lrs O ac c i=(((ac.take i).map c).sum,((ac.take i).map c).sum):=by
  intro i
  induction i with
  | zero=>intro _;rfl
  | succ i ih =>
   intro hi
   have ih:=ih (Nat.le_of_succ_le hi)
   rw [take_one hi,List.map_append,List.sum_append]
   have e:(if 0 < i∧ix O (ac.getD i 0)=ix O (ac.getD (i - 1) 0)+1 then (lrs O ac c i).2 else 0)=((ac.take i).map c).sum:=by
    by_cases h0:0 < i
    ·rw [if_pos ⟨h0,h i h0 hi⟩,ih]
    ·rw [if_neg fun z=>h0 z.1]
     have:i=0:=by lia
     subst this;rfl
   rw [ih] at e
   simp only [lrs_c,ih,e,List.map_cons,List.map_nil,List.sum_cons,List.sum_nil,Nat.add_zero]
   rw [Nat.max_eq_right (Nat.le_add_right ..)]
 unfold lgst
 rw [key _ (Nat.le_refl _),List.take_length]
theorem lgst_none(h:∀ i,0 < i→i < ac.length→ix O (ac.getD i 0)≠ix O (ac.getD (i - 1) 0)+1):lgst O ac c=maxC ac c:=by
 have key:∀ i,i≤ac.length→(lrs O ac c i).1=maxC (ac.take i) c:=by
  intro i
  induction i with
  | zero=>intro _;rfl
  | succ i ih =>
   intro hi
   have ih:=ih (Nat.le_of_succ_le hi)
   rw [take_one hi,maxC_snoc]
   have e:(if 0 < i∧ix O (ac.getD i 0)=ix O (ac.getD (i - 1) 0)+1 then (lrs O ac c i).2 else 0)=0:=if_neg fun z=>h i z.1 hi z.2
   simp only [lrs_c,e,ih,Nat.zero_add]
 unfold lgst
 rw [key _ (Nat.le_refl _),List.take_length]
noncomputable def Far(O row:List Int):Prop:=∀ p u v,row[p]?=some u→row[p+1]?=some v→∀ q,O[q]?=some u→O[q+1]?=some v→False
theorem mid_get{A B C:List Int}{i:Nat}(h:i < B.length):(A++B++C)[A.length+i]?=B[i]?:=by
 rw [List.append_assoc,List.getElem?_append_right (by lia),show A.length+i - A.length=i by simp,List.getElem?_append_left h]
theorem lgst_ok{P M S OP Z OS row:List Int}(nd:O.Nodup)(c0:∀ n∈O,0 < c n)(hrow:row=P++M++S)(hO:O=OP++Z++OS)(hs:M.Sublist Z)(h:(M=Z)∨Far O row):Longest (its M c) (its Z c) (lgst O M c):=by
 have mZ:∀ i,i < M.length→row[P.length+i]?=some (M.getD i 0):=fun i hi=>by rw [hrow,mid_get hi,getD_get hi]
 rcases h with rfl | far
 ·have e:lgst O M c=(M.map c).sum:=lgst_all fun i h0 hi=>by
   have e1:O[OP.length+i]?=some (M.getD i 0):=by rw [hO,mid_get hi,getD_get hi]
   have e2:O[OP.length+(i - 1)]?=some (M.getD (i - 1) 0):=by rw [hO,mid_get (Nat.lt_of_le_of_lt (Nat.sub_le _ _) (by lia)),getD_get (by lia)]
   rw [ix_eq nd e1,ix_eq nd e2];lia
  rw [e,← its_len];exact longest_self _
 ·have mem:∀ i,i < M.length→M.getD i 0∈O:=fun i hi=>by
   rw [hO];exact mF _ (mR _ (hs.subset (List.mem_of_getElem? (getD_get hi))))
  have e:lgst O M c=maxC M c:=lgst_none fun i h0 hi z=>by
   have a1:=ix_get (mem i hi)
   have a2:=ix_get (mem (i - 1) (by lia))
   rw [z] at a1
   have r1:=mZ (i - 1) (by lia)
   have r2:=mZ i hi
   rw [show P.length+i=P.length+(i - 1)+1 by lia] at r2
   exact far _ _ _ r1 r2 _ a2 a1
  rw [e]
  have ndZ:Z.Nodup:=by rw [hO] at nd;exact(List.nodup_append.mp (List.nodup_append.mp nd).1).2.1
  refine longest_runs hs ndZ (fun n hn=>c0 n (by rw [hO];exact mF _ (mR _ hn))) fun p q u v p1 p2 q1 q2=>?_
  have l1:=(List.getElem?_eq_some_iff.mp p1).1
  have l2:=(List.getElem?_eq_some_iff.mp p2).1
  have l3:=(List.getElem?_eq_some_iff.mp q1).1
  have l4:=(List.getElem?_eq_some_iff.mp q2).1
  have r1:row[P.length+p]?=some u:=by rw [hrow,mid_get l1,p1]
  have r2:row[P.length+p+1]?=some v:=by rw [hrow,Nat.add_assoc,mid_get l2,p2]
  have o1:O[OP.length+q]?=some u:=by rw [hO,mid_get l3,q1]
  have o2:O[OP.length+q+1]?=some v:=by rw [hO,Nat.add_assoc,mid_get l4,q2]
  exact far _ _ _ r1 r2 _ o1 o2
end
section
variable{O P M S OP Z OS:List Int}{c:Int→Nat}{x:Int}{tot:Nat}
theorem its_three:its (P++(M++[x])++S) c=its P c++(its M c++List.replicate (c x) x)++its S c:=by
 rw [its_app,its_app,its_app,its_cons,its_nil,List.append_nil]
theorem its_three':its (P++([x]++M)++S) c=its P c++(List.replicate (c x) x++its M c)++its S c:=by
 rw [its_app,its_app,its_app,its_cons,its_nil,List.append_nil]
theorem moved_r(V:Mv P M S OP Z OS x c (lgst O M c))(hO:O=OP++([x]++Z)++OS) :
  (GML (its (P++(M++[x])++S) c) (its O c) tot→tot+lostV O M c x false=(its (P++(M++[x])++S) c).length)∧(GML (its O c) (its (P++(M++[x])++S) c) tot→tot+lostV O M c x true=(its (P++(M++[x])++S) c).length):=by
 have e:=its_len M c
 have g0:=V.right0
 have g1:=V.right1
 generalize hlg:lgst O M c=L at g0 g1
 unfold lostV
 rw [hlg,← e,hO,its_three,its_three']
 refine⟨fun h=>?_,fun h=>?_⟩
 ·rw [h.det g0]
  simp only [List.length_append,List.length_replicate]
  by_cases q:c x≤L
  ·rw [if_pos q,if_neg (by simp;lia)];lia
  ·rw [if_neg q,if_pos (.inl (by lia))];lia
 ·rw [h.det g1]
  simp only [List.length_append,List.length_replicate]
  by_cases q:c x < L
  ·rw [if_pos q,if_neg (by simp;lia)];lia
  ·rw [if_neg q,if_pos (by simp;lia)];lia
theorem moved_l(V:Mv P M S OP Z OS x c (lgst O M c))(hO:O=OP++(Z++[x])++OS) :
  (GML (its (P++([x]++M)++S) c) (its O c) tot→tot+lostV O M c x true=(its (P++([x]++M)++S) c).length)∧(GML (its O c) (its (P++([x]++M)++S) c) tot→tot+lostV O M c x false=(its (P++([x]++M)++S) c).length):=by
 have e:=its_len M c
 have g0:=V.left0
 have g1:=V.left1
 generalize hlg:lgst O M c=L at g0 g1
 unfold lostV
 rw [hlg,← e,hO,its_three,its_three']
 refine⟨fun h=>?_,fun h=>?_⟩
 ·rw [h.det g0]
  simp only [List.length_append,List.length_replicate]
  by_cases q:c x < L
  ·rw [if_pos q,if_neg (by simp;lia)];lia
  ·rw [if_neg q,if_pos (by simp;lia)];lia
 ·rw [h.det g1]
  simp only [List.length_append,List.length_replicate]
  by_cases q:c x≤L
  ·rw [if_pos q,if_neg (by simp;lia)];lia
  ·rw [if_neg q,if_pos (.inl (by lia))];lia
end
section
variable{O P M S row:List Int}{c:Int→Nat}{x:Int}{tot r k:Nat}
theorem split_r(h:(P++([x]++M)++S).Sublist O):∃ OP Z OS,O=OP++([x]++Z)++OS∧P.Sublist OP∧M.Sublist Z∧S.Sublist OS:=by
 rw [List.append_assoc,List.append_assoc] at h
 refine oEEAA (List.append_sublist_iff.mp h) ?_;rintro l t rfl h1 h2
 refine oEEAA (List.cons_sublist_iff.mp (show(x::(M++S)).Sublist t from h2)) ?_;rintro r1 r2 rfl hx h3
 refine oEE (List.append_of_mem hx) ?_;rintro u v rfl
 refine oEEAA (List.append_sublist_iff.mp h3) fun Z OS e h4 h5=>?_
 exact⟨l++u,v++Z,OS,by rw [e];simp,h1.trans (List.sublist_append_left _ _),h4.trans (List.sublist_append_right _ _),h5⟩
theorem split_l(h:(P++(M++[x])++S).Sublist O):∃ OP Z OS,O=OP++(Z++[x])++OS∧P.Sublist OP∧M.Sublist Z∧S.Sublist OS:=by
 rw [List.append_assoc,List.append_assoc] at h
 refine oEEAA (List.append_sublist_iff.mp h) ?_;rintro l t rfl h1 h2
 refine oEEAA (List.append_sublist_iff.mp h2) ?_;rintro Z t2 rfl h3 h4
 refine oEEAA (List.cons_sublist_iff.mp (show(x::S).Sublist t2 from h4)) ?_;rintro r1 r2 rfl hx h5
 refine oEE (List.append_of_mem hx) ?_;rintro u v rfl
 exact⟨l,Z++u,v++r2,by simp,h1,h3.trans (List.sublist_append_left _ _),h5.trans (List.sublist_append_right _ _)⟩
noncomputable def rst(row:List Int)(r:Nat):List Int:=row.take r++row.drop (r+1)
noncomputable def acr(row:List Int)(r k:Nat):List Int:=((rst row r).drop (min r k)).take (max r k - min r k)
theorem row_at(hr:r < row.length):row=row.take r++([row.getD r 0]++row.drop (r+1)):=by
 rw [← List.append_assoc,← take_one hr,List.take_append_drop]
theorem moved(nd:O.Nodup)(c0:∀ n∈O,0 < c n)(hs:row.Sublist O)(hrow:row=O∨Far O row)(hr:r < row.length)(hk:k < row.length) :
  (GML (its (ins (rst row r) k (row.getD r 0)) c) (its O c) tot→tot+lostV O (acr row r k) c (row.getD r 0) (decide (k < r))=(its (ins (rst row r) k (row.getD r 0)) c).length) ∧
  (GML (its O c) (its (ins (rst row r) k (row.getD r 0)) c) tot→tot+lostV O (acr row r k) c (row.getD r 0) (!decide (k < r))=(its (ins (rst row r) k (row.getD r 0)) c).length):=by
 have hA:=row_at hr
 have lA:(row.take r).length=r:=by rw [List.length_take,Nat.min_eq_left (Nat.le_of_lt hr)]
 have lB:(row.drop (r+1)).length=row.length - (r+1):=List.length_drop
 unfold acr rst
 generalize hx:row.getD r 0=x at *
 generalize row.take r=A at *
 generalize row.drop (r+1)=B at *
 rcases Nat.lt_trichotomy k r with q | q | q
 ·
  obtain⟨M,P,rfl,lP⟩:∃ M P,A=P++M∧P.length=k:=⟨A.drop k,A.take k,(List.take_append_drop k A).symm,by rw [List.length_take,lA,Nat.min_eq_left (Nat.le_of_lt q)]⟩
  have lM:M.length=r - k:=by rw [List.length_append] at lA;exact Nat.eq_sub_of_add_eq (by lia)
  have eI:ins (P++M++B) k x=P++([x]++M)++B:=by
   unfold ins
   rw [List.append_assoc,← lP,List.take_left,List.drop_left];simp
  have eA:((P++M++B).drop (min r k)).take (max r k - min r k)=M:=by
   rw [Nat.min_eq_right (Nat.le_of_lt q),Nat.max_eq_left (Nat.le_of_lt q),List.append_assoc]
   have:(P++(M++B)).drop k=M++B:=by rw [← lP,List.drop_left]
   rw [this,← lM,List.take_left]
  rw [eI,eA,decide_eq_true q]
  have hrow2:row=P++(M++[x])++B:=by rw [hA];simp
  have neM:M≠[]:=fun z=>by rw [z] at lM;simp at lM;lia
  obtain⟨OP,Z,OS,hO,s1,s2,s3,hM⟩:∃ OP Z OS,O=OP++(Z++[x])++OS∧P.Sublist OP∧M.Sublist Z∧B.Sublist OS∧(M=Z∨Far O row):=by
   rcases hrow with e | far
   ·exact⟨P,M,B,by rw [← e];exact hrow2,List.Sublist.refl _,List.Sublist.refl _,List.Sublist.refl _,.inl rfl⟩
   ·refine oEEEAAA (split_l (hrow2▸hs)) fun OP Z OS e s1 s2 s3=>?_
    exact⟨OP,Z,OS,e,s1,s2,s3,.inr far⟩
  have hlo:=lgst_ok (P:=P) (S:=[x]++B) (OP:=OP) (OS:=[x]++OS) nd c0 (by rw [hrow2];simp) (by rw [hO];simp) s2 hM
  have mem:∀ n,n∈OP∨n=x∨n∈Z∨n∈OS→n∈O:=fun n h=>by
   rw [hO];simp only [List.mem_append,List.mem_singleton];rcases h with h | h | h | h<;>simp [h]
  have nd2:(OP++(x::Z)++OS).Nodup:=by
   rw [hO] at nd
   exact((((List.perm_append_singleton x Z).append_left OP).append_right OS).nodup_iff).mp nd
  exact moved_l ⟨nd2,fun n h=>c0 n (mem n (.inl h)),c0 x (mem x (.inr (.inl rfl))),fun n h=>c0 n (mem n (.inr (.inr (.inl h)))),fun n h=>c0 n (mem n (.inr (.inr (.inr h)))),s1,s2,s3,neM,hlo⟩ hO
 ·
  subst q
  have eI:ins (A++B) k x=row:=by
   unfold ins
   rw [← lA,List.take_left,List.drop_left,hA];simp
  have z:∀ l:List Int,l.take (max k k - min k k)=[]:=fun l=>by rw [Nat.max_self,Nat.min_self,Nat.sub_self,List.take_zero]
  rw [eI,z]
  have cx:0 < c x:=c0 x (hs.subset (by rw [hA];simp))
  have e0:∀ f,lostV O [] c x f=0:=fun f=>by
   unfold lostV lgst
   rw [if_pos (.inl cx)];rfl
  rw [e0,e0]
  exact⟨fun h=>its_all hs nd c0 h,fun h=>its_all' hs nd c0 h⟩
 ·
  obtain⟨M,S,rfl,lM⟩:∃ M S,B=M++S∧M.length=k - r:=⟨B.take (k - r),B.drop (k - r),(List.take_append_drop _ B).symm,by rw [List.length_take,lB];exact Nat.min_eq_left (Nat.le_sub_of_add_le (by lia))⟩
  have eI:ins (A++(M++S)) k x=A++(M++[x])++S:=by
   have lk:(A++M).length=k:=by rw [List.length_append];lia
   unfold ins
   rw [← List.append_assoc,← lk,List.take_left,List.drop_left];simp
  have eA:((A++(M++S)).drop (min r k)).take (max r k - min r k)=M:=by
   rw [Nat.min_eq_left (Nat.le_of_lt q),Nat.max_eq_right (Nat.le_of_lt q)]
   have:(A++(M++S)).drop r=M++S:=by rw [← lA,List.drop_left]
   rw [this,← lM,List.take_left]
  rw [eI,eA,decide_eq_false (by lia)]
  have hrow2:row=A++([x]++M)++S:=by rw [hA];simp
  have neM:M≠[]:=fun z=>by rw [z] at lM;simp at lM;lia
  obtain⟨OP,Z,OS,hO,s1,s2,s3,hM⟩:∃ OP Z OS,O=OP++([x]++Z)++OS∧A.Sublist OP∧M.Sublist Z∧S.Sublist OS∧(M=Z∨Far O row):=by
   rcases hrow with e | far
   ·exact⟨A,M,S,by rw [← e];exact hrow2,List.Sublist.refl _,List.Sublist.refl _,List.Sublist.refl _,.inl rfl⟩
   ·refine oEEEAAA (split_r (hrow2▸hs)) fun OP Z OS e s1 s2 s3=>?_
    exact⟨OP,Z,OS,e,s1,s2,s3,.inr far⟩
  have hlo:=lgst_ok (P:=A++[x]) (S:=S) (OP:=OP++[x]) (OS:=OS) nd c0 (by rw [hrow2];simp) (by rw [hO];simp) s2 hM
  have mem:∀ n,n∈OP∨n=x∨n∈Z∨n∈OS→n∈O:=fun n h=>by
   rw [hO];simp only [List.mem_append,List.mem_singleton];rcases h with h | h | h | h<;>simp [h]
  exact moved_r ⟨hO▸nd,fun n h=>c0 n (mem n (.inl h)),c0 x (mem x (.inr (.inl rfl))),fun n h=>c0 n (mem n (.inr (.inr (.inl h)))),fun n h=>c0 n (mem n (.inr (.inr (.inr h)))),s1,s2,s3,neM,hlo⟩ hO
theorem rst_perm(hr:r < row.length):(ins (rst row r) k (row.getD r 0)).Perm row:=by
 refine ins_perm.trans ?_
 have:=row_at hr
 generalize row.getD r 0=x at *
 unfold rst
 generalize row.take r=A at *
 generalize row.drop (r+1)=B at *
 rw [this]
 exact(List.perm_middle (a:=x) (l₁:=A) (l₂:=B)).symm
noncomputable def evs:List Int→List Int
 | []=>[]
 | [x]=>[x]
 | x::_::l=>x::evs l
theorem evs_n:evs []=[]:=rfl
theorem evs_1{x:Int}:evs [x]=[x]:=rfl
theorem evs_c{x y:Int}{l:List Int}:evs (x::y::l)=x::evs l:=rfl
theorem evs_get:∀ (l:List Int) (p:Nat),(evs l)[p]?=l[2 * p]?
 | [],p=>by simp [evs_n,evs_1,evs_c]
 | [x],0=>rfl
 | [x],p+1=>by simp [evs_n,evs_1,evs_c,show 2 * (p+1)=2 * p+1+1 by lia]
 | x::y::l,0=>rfl
 | x::y::l,p+1=>by
  rw [show 2 * (p+1)=2 * p+1+1 by lia]
  exact evs_get l p
theorem evs_sub:∀ l:List Int,(evs l).Sublist l
 | []=>.slnil
 | [x]=>List.Sublist.refl _
 | x::y::l=>((evs_sub l).cons y).cons_cons x
theorem evs_far(nd:O.Nodup):Far O (evs O):=fun p u v h1 h2 q e1 e2=>by
 rw [evs_get] at h1 h2
 have a1:=ix_eq nd h1
 have a2:=ix_eq nd h2
 have b1:=ix_eq nd e1
 have b2:=ix_eq nd e2
 lia
end
noncomputable def dd(ns:List Int):Nat→List Int
 | 0=>[]
 | i+1=>if ns.getD i 0∈ns.take i then dd ns i else dd ns i++[ns.getD i 0]
theorem dd_c{ns:List Int}{i:Nat}:dd ns (i+1)=if ns.getD i 0∈ns.take i then dd ns i else dd ns i++[ns.getD i 0]:=rfl
theorem dd_n{ns:List Int}:dd ns 0=[]:=rfl
noncomputable def pp(O:List Int):Nat→List Int
 | 0=>[]
 | i+1=>if O.getD i 0+1∈O then pp O i else pp O i++[O.getD i 0+1]
theorem pp_c{O:List Int}{i:Nat}:pp O (i+1)=if O.getD i 0+1∈O then pp O i else pp O i++[O.getD i 0+1]:=rfl
theorem pp_n{O:List Int}:pp O 0=[]:=rfl
section
variable{ns O:List Int}
theorem dd_ok:∀ i,i≤ns.length→(dd ns i).Nodup∧∀ u,u∈dd ns i↔u∈ns.take i:=by
 intro i
 induction i with
 | zero=>intro _;exact⟨.nil,fun u=>by simp [dd_c,dd_n]⟩
 | succ i ih =>
  intro hi
  obtain⟨h1,h2⟩:=ih (Nat.le_of_succ_le hi)
  rw [take_one hi]
  by_cases c:ns.getD i 0∈ns.take i
  ·simp only [dd_c,dd_n,if_pos c]
   refine⟨h1,fun u=>?_⟩
   rw [h2,List.mem_append,List.mem_singleton]
   exact⟨.inl,fun h=>h.elim id fun e=>e▸c⟩
  ·simp only [dd_c,dd_n,if_neg c]
   refine⟨List.nodup_append.mpr ⟨h1,List.nodup_cons.mpr ⟨fun h=>(nomatch h),.nil⟩,fun a ha b hb e=>?_⟩,fun u=>by rw [List.mem_append,List.mem_append,h2]⟩
   rw [mS hb] at e
   exact c (e▸(h2 a).mp ha)
theorem dd_len:∀ i,(dd ns i).length≤i:=by
 intro i
 induction i with
 | zero=>exact Nat.le_refl _
 | succ i ih =>
  by_cases c:ns.getD i 0∈ns.take i
  ·simp only [dd_c,dd_n,if_pos c];lia
  ·simp only [dd_c,dd_n,if_neg c,List.length_append,List.length_singleton];lia
theorem pp_len:∀ i,(pp O i).length≤i:=by
 intro i
 induction i with
 | zero=>exact Nat.le_refl _
 | succ i ih =>
  by_cases c:O.getD i 0+1∈O
  ·simp only [pp_c,pp_n,if_pos c];lia
  ·simp only [pp_c,pp_n,if_neg c,List.length_append,List.length_singleton];lia
theorem pp_ok(nd:O.Nodup):∀ i,i≤O.length→(pp O i).Nodup∧∀ u∈pp O i,u∉O∧u - 1∈O.take i:=by
 intro i
 induction i with
 | zero=>intro _;exact⟨.nil,fun u h=>(nomatch h)⟩
 | succ i ih =>
  intro hi
  obtain⟨h1,h2⟩:=ih (Nat.le_of_succ_le hi)
  have tk:=take_one hi
  by_cases c:O.getD i 0+1∈O
  ·simp only [pp_c,pp_n,if_pos c]
   exact⟨h1,fun u hu=>⟨(h2 u hu).1,by rw [tk];exact mF _ (h2 u hu).2⟩⟩
  ·simp only [pp_c,pp_n,if_neg c]
   have nt:=nd.sublist (List.take_sublist (i+1) O)
   rw [tk] at nt
   refine⟨List.nodup_append.mpr ⟨h1,List.nodup_cons.mpr ⟨fun h=>(nomatch h),.nil⟩,fun a ha b hb e=>?_⟩,fun u hu=>?_⟩
   ·rw [mS hb] at e
    have:=(h2 a ha).2
    rw [e,Int.add_sub_cancel] at this
    exact(List.nodup_append.mp nt).2.2 _ this _ (.head _) rfl
   ·rw [tk]
    rcases List.mem_append.mp hu with m | m
    ·exact⟨(h2 u m).1,mF _ (h2 u m).2⟩
    ·rw [mS m]
     exact⟨c,by rw [Int.add_sub_cancel];exact mR _ (.head _)⟩
structure Hid(ns O H:List Int):Prop where
 nd:O.Nodup
 bag:∀ n,H.count n=ns.count n
 len:H.length=ns.length
 mem:∀ u,u∈O↔0 < H.count u
 own:H=its O fun n=>H.count n
 pos:∀ n∈O,0 < ns.count n
 le:O.length≤ns.length
theorem its_congr{c c':Int→Nat}(O:List Int)(h:∀ n∈O,c n=c' n):its O c=its O c':=by
 induction O with
 | nil=>rfl
 | cons n O ih=>rw [its_cons,its_cons,h n (.head _),ih fun m hm=>h m (.tail _ hm)]
theorem hid(ns:List Int):Hid ns (dd ns ns.length) (its (dd ns ns.length) fun n=>ns.count n):=by
 obtain⟨nd,hm⟩:=dd_ok (ns:=ns) _ (Nat.le_refl _)
 rw [List.take_length] at hm
 have bag:∀ n,(its (dd ns ns.length) fun n=>ns.count n).count n=ns.count n:=fun n=>by
  rw [its_count _ _ _ nd]
  by_cases h:n∈dd ns ns.length
  ·rw [if_pos h]
  ·rw [if_neg h,List.count_eq_zero.mpr fun m=>h ((hm n).mpr m)]
 exact⟨nd,bag,(List.perm_iff_count.mpr bag).length_eq,fun u=>by rw [bag,hm,List.count_pos_iff],its_congr _ fun n _=>(bag n).symm,fun n hn=>List.count_pos_iff.mpr ((hm n).mp hn),dd_len _⟩
end
theorem isSameF{prog:Program}{w:World}{A:Around}{E:Value→Shared→Prop}{s:Shared}{a b:UInt64}{t u:Tok}{Q:Bool→Shared→Prop}(hb:NoneBooked s.heap)(q:∀ k,Q k s):wpAny (model prog w) A (isSame (.float a (t+1)) (.float b (u+1))) Q E s:=by
 show wpAny (model prog w) A (isSame.created (a == b && !Float64.isNaN a) (t+1) (u+1)) Q E s
 unfold isSame.created
 refine wpAny_ite ?_
 split
 ·rename_i h;simp at h
 refine wpAny_ite ?_
 split
 ·exact wP (q _)
 refine wpAny_ite ?_
 split
 ·exact wP (q _)
 refine wB (wpAny_sharingNotTold_none hb ?_)
 first | rw [if_neg Bool.false_ne_true] | simp only [Bool.false_eq_true,if_false]
 refine wB (wpAny_sharingNotTold_none hb ?_)
 first | rw [if_neg Bool.false_ne_true] | simp only [Bool.false_eq_true,if_false]
 exact wB (wpAny_rule (wB (wpAny_askSetting (wP (q _)))))
theorem booked_none{P:Params}{h:Heap}(X:(K P).In h):NoneBooked h :=
 ⟨fun _=>none,⟨_,#[],0,X 2 (PySem.W.boot_o_2 P) (by kernel_rfl),rfl,fun _ he=>by simp at he,fun _=>rfl⟩,rfl⟩
theorem isSameN{prog:Program}{w:World}{A:Around}{E:Value→Shared→Prop}{s:Shared}{a b:UInt64}{t u:Tok}{Q:Bool→Shared→Prop}(hab:a≠b)(htu:t≠u)(q:Q false s):wpAny (model prog w) A (isSame (.float a (t+1)) (.float b (u+1))) Q E s:=by
 show wpAny (model prog w) A (isSame.created (a == b && !Float64.isNaN a) (t+1) (u+1)) Q E s
 have e:(a == b && !Float64.isNaN a)=false:=by simp [hab]
 rw [e]
 unfold isSame.created
 refine wpAny_ite ?_
 split
 ·rename_i h;simp at h
 refine wpAny_ite ?_
 split
 ·rename_i h;simp at h;exact absurd h htu
 exact wpAny_ite (wP q)
theorem eqAt_float{A:Around}{s:Shared}{a b:UInt64}{t u:Tok}{k:Bool}(h:(Float64.cmp a b == some .eq)=k)(hb:k=true→NoneBooked s.heap)(hn:k=false→a≠b∧t≠u):SeqAt.EqAt A s (.float a (t+1)) (.float b (u+1)) k:=fun prog w E Q hq=>by
 have fin:wpAny (model prog w) A (do truthOfDropped (← richCompare .Eq (.float a (t+1)) (.float b (u+1)))) Q E s:=by
  refine wB (richCompare_gives (typeIs_float s a _) (typeIs_float s b _) F.slot_float_eq F.entry_float_eq (F.args_float_eq_2 _ _) (AutoFloatG5.float___eq___float_float_0 a _ b _) (by simp [Made.takes]) ?_)
  show wpAny (model prog w) A (truthy (.bool (Float64.cmp a b == some .eq))) Q E s
  exact wT (h▸hq)
 unfold eqBool
 refine wpAny_holding ?_
 cases k with
 | true =>
  refine wpAny_ite_split (fun hab=>wB (wpAny_rule (wP hq))) (fun hab=>?_)
  refine wB (isSameF (hb rfl) fun k=>?_)
  cases k with
  | true=>exact wP hq
  | false=>rw [if_neg (by decide)];exact fin
 | false =>
  obtain⟨n1,n2⟩:=hn rfl
  refine wpAny_ite_split (fun hab=>absurd (by have:=eq_of_beq hab;injection this) n1) (fun hab=>?_)
  refine wB (isSameN n1 n2 ?_)
  rw [if_neg (by decide)];exact fin
section
variable{prog:Program}{w:World}{A:Around}{E:Value→Shared→Prop}{h g:Heap}{gs:Array GenState}{dr:Drawn}{tk:Nat}{os:OsState}{L l:Addr}{nm:List Str}{ls:List (Option Value)}{mu:List (Addr×Obj)}{env:Env}{items:List Value}{xs:List Int}{n:Nat}{Q:Value→Shared→Prop}
theorem foldl_rep(v:Value)(a:Array Value):∀ n,List.foldl (fun x1 x2=>x1++x2) a (List.replicate n #[v])=(a.toList++List.replicate n v).toArray:=by
 intro n
 induction n generalizing a with
 | zero=>simp
 | succ n ih=>rw [List.replicate_succ,List.foldl_cons,ih,List.replicate_succ];simp
theorem rep1{v:Value}{k:Nat}{t:Tok}(S:St g L h nm ls mu)(hl:h.get? l=some (lob [v] n))(hk:k≤1000)
  (q:∀ h',St g L h' nm ls ((h.objs.size,lob (List.replicate k v) 0)::mu)→Q (.ref h.objs.size) ⟨h',gs,dr,tk,os⟩):wpAny (model prog w) A (binaryOp .Mult (.ref l) (.int (k:Nat) t)) Q E ⟨h,gs,dr,tk,os⟩:=by
 refine mul_list (s:=⟨h,gs,dr,tk,os⟩) S.F S.N hl (by lia) (by lia) (by simp;lia) fun h' F' N'=>q h' ⟨F',?_,List.nodup_cons.mpr ⟨fun m=>?_,S.nd⟩⟩
 ·have e:(List.foldl (fun x1 x2=>x1++x2) #[] (List.replicate (if [v].toArray.isEmpty=true then 0 else (k:Int).toNat) [v].toArray))=(List.replicate k v).toArray:=by
   have:=foldl_rep v #[] k
   simpa using this
  rw [e] at N';exact N'
 ·refine oEA (List.mem_map.mp m) fun p hp e=>?_
  exact absurd (Heap.lt_size (S.N p hp).1) (by rw [e];exact Nat.lt_irrefl _)
theorem eqInts{vs ys:List Value}{xs zs:List Int}{s:Shared}(h1:IntsAre vs xs)(h2:IntsAre ys zs){j:Nat}(a1:j < vs.toArray.size)(a2:j < ys.toArray.size):SeqAt.EqAt A s vs.toArray[j] ys.toArray[j] (xs.getD j 0 == zs.getD j 0):=by
 have b1:j < xs.length:=by rw [← h1.length];simpa using a1
 have b2:j < zs.length:=by rw [← h2.length];simpa using a2
 obtain⟨t,e1⟩:=intAt h1 b1
 obtain⟨u,e2⟩:=intAt h2 b2
 have c1:vs.toArray[j]=.int (xs.getD j 0) t:=by
  have:vs[j]?=some vs[j]:=List.getElem?_eq_getElem (by simpa using a1)
  rw [e1] at this;simpa using (Option.some.inj this).symm
 have c2:ys.toArray[j]=.int (zs.getD j 0) u:=by
  have:ys[j]?=some ys[j]:=List.getElem?_eq_getElem (by simpa using a2)
  rw [e2] at this;simpa using (Option.some.inj this).symm
 rw [c1,c2];exact SeqAt.EqAt.int_int _ _ _ _
theorem neInts{l2:Addr}{items2:List Value}{zs:List Int}(hl:h.IsList l items.toArray)(hl2:h.IsList l2 items2.toArray)(h1:IntsAre items xs)(h2:IntsAre items2 zs)(hu:A.units < cLine)
  (q:Q (.bool (decide (xs≠zs))) ⟨h,gs,dr,tk,os⟩):wpAny (model prog w) A (compareOp .NotEq (.ref l) (.ref l2)) Q E ⟨h,gs,dr,tk,os⟩:=by
 have z1:=h1.length;have z2:=h2.length
 by_cases c:items.length=items2.length
 ·refine SeqAt.RcNeAt.lists (s:=⟨h,gs,dr,tk,os⟩) (e:=fun j=>xs.getD j 0 == zs.getD j 0) hl hl2 (by simpa using c) hu (fun j a1 a2=>eqInts h1 h2 a1 a2) prog w E Q ?_
  have e:(!(List.range items.toArray.size).all fun j=>xs.getD j 0 == zs.getD j 0)=decide (xs≠zs):=by
   by_cases d:xs=zs
   ·subst d;simp
   ·have:¬ ((List.range items.toArray.size).all fun j=>xs.getD j 0 == zs.getD j 0)=true:=fun a=>d (by
     apply List.ext_getElem (by lia)
     intro j b1 b2
     have:=List.all_eq_true.mp a j (by simp;lia)
     simpa [List.getD_eq_getElem?_getD,b1,b2] using this)
    rw [Bool.not_eq_true] at this
    rw [this];simp [d]
  rw [e];exact q
 ·have d:xs≠zs:=fun z=>c (by rw [z1,z2,z])
  refine SeqAt.RcNeAt.lists_lengths (s:=⟨h,gs,dr,tk,os⟩) hl hl2 (by simpa using c) hu prog w E Q ?_
  rw [decide_eq_true d] at q;exact q
theorem eqFF{a b:UInt64}{t u:Tok}{s:Shared}(q:Q (.bool (Float64.cmp a b == some .eq)) s):wpAny (model prog w) A (compareOp .Eq (.float a t) (.float b u)) Q E s :=
 compareOp_gives (op:=.Eq) (typeIs_float s a t) (typeIs_float s b u) F.slot_float_eq F.entry_float_eq (F.args_float_eq_2 _ _) (AutoFloatG5.float___eq___float_float_0 a t b u) (fun x=>nomatch x) q
theorem neFF{a b:UInt64}{t u:Tok}{s:Shared}(q:Q (.bool (!(Float64.cmp a b == some .eq))) s):wpAny (model prog w) A (compareOp .NotEq (.float a t) (.float b u)) Q E s :=
 compareOp_gives (op:=.NotEq) (typeIs_float s a t) (typeIs_float s b u) F.slot_float_ne F.entry_float_ne (F.args_float_ne_2 _ _) (AutoFloatG4.float___ne___float_float_0 a t b u) (fun x=>nomatch x) q
theorem countP_isInt(k:Int):∀ {vs:List Value} {ns:List Int},IntsAre vs ns→vs.countP (isInt k)=ns.count k:=fun h=>by
 induction h with
 | nil=>rfl
 | cons n t _ ih=>simp only [List.countP_cons,isInt,ih,List.count_cons];rfl
theorem count_{k:Int}{t:Tok}(hl:h.get? l=some (lob items n))(hi:IntsAre items xs)(q:∀ t tk,Q (.int (xs.count k:Nat) t) ⟨h,gs,dr,tk,os⟩):wpAny (model prog w) A (call (.builtin "list.count") [.ref l,.int k t]) Q E ⟨h,gs,dr,tk,os⟩ :=
 call_meets (s:=⟨h,gs,dr,tk,os⟩) PySem.F.slot_list_count ⟨_,hl,rfl⟩ PySem.F.entry_list_count (PySem.F.args_list_count_2 _ _) (MeetsSeq.list_count l items.toArray n (.int k t) (isInt k) fun y hy=>eq_isInt k t hi y (by simpa using hy))
  ⟨hl,by rw [show items.toArray.toList=items from rfl,countP_isInt k hi];exact q _ _⟩
theorem index_{j:Nat}{k:Int}{t:Tok}(hl:h.get? l=some (lob items n))(hi:IntsAre items xs)(nd:xs.Nodup)(hj:xs[j]?=some k)(hz:items.length≤1000)(q:∀ t tk,Q (.int (j:Nat) t) ⟨h,gs,dr,tk,os⟩):wpAny (model prog w) A (call (.builtin "list.index") [.ref l,.int k t]) Q E ⟨h,gs,dr,tk,os⟩:=by
 have b:=lt_of_get hj
 have z:=hi.length
 have at_:∀ m (hm:m < items.toArray.size),isInt k items.toArray[m]=(xs.getD m 0 == k):=fun m hm=>by
  obtain⟨t,e⟩:=intAt hi (k:=m) (by rw [← z];simpa using hm)
  have:items[m]?=some items[m]:=List.getElem?_eq_getElem (by simpa using hm)
  rw [e] at this
  have e2:items.toArray[m]=.int (xs.getD m 0) t:=by simpa using (Option.some.inj this).symm
  rw [e2];rfl
 refine call_meets (s:=⟨h,gs,dr,tk,os⟩) PySem.F.slot_list_index ⟨_,hl,rfl⟩ PySem.F.entry_list_index (PySem.F.args_list_index_2 _ _) (MeetsSeq.list_index l items.toArray n (.int k t) (isInt k) (fun y hy=>eq_isInt k t hi y (by simpa using hy)) j (by simp;exact Nat.lt_of_lt_of_le ‹_› (by lia)) (by lia) ?_ ?_) ⟨hl,q _ _⟩
 ·rw [at_,List.getD_eq_getElem?_getD,hj];simp
 ·intro m hm hlt
  rw [at_]
  have hm':m < xs.length:=by rw [← z];simpa using hm
  rw [List.getD_eq_getElem?_getD,List.getElem?_eq_getElem hm',Option.getD_some,beq_eq_false_iff_ne]
  intro e
  exact Nat.ne_of_lt hlt ((List.getElem?_inj hm' nd).mp (by rw [List.getElem?_eq_getElem hm',e,hj]))
theorem insert0{x:Int}{v:Value}{j:Nat}{t:Tok}(hf:Builtin.List.listFitsIndex x=true)(S:St g L h nm ls mu)(hj:mu[j]?=some (l,lob items n))(hz:items.length≤sizeLine)
  (q:∀ h',St g L h' nm ls (mu.set j (l,lob (kl_ins items x v) (n+1)))→Q .none ⟨h',gs,dr,tk,os⟩):wpAny (model prog w) A (call (.builtin "list.insert") [.ref l,.int x t,v]) Q E ⟨h,gs,dr,tk,os⟩:=by
 have hl:=S.get hj
 refine call_meets (s:=⟨h,gs,dr,tk,os⟩) PySem.F.slot_list_insert ⟨_,hl,rfl⟩ PySem.F.entry_list_insert (PySem.F.args_list_insert_3 _ _ _)
  (AutoSeq1.list_insert_list_int_val_1 l items.toArray n x t v (by simp [hf]) (by rw [List.size_toArray];exact hz)) ⟨hl,?_⟩
 refine q _ (S.same hj (Heap.SameBut.update ..) ?_)
 have ins:∀ f:Array Value→Array Value,f items.toArray=(kl_ins items x v).toArray→(h.update l (Obj.mapSeq f)).get? l=some (lob (kl_ins items x v) (n+1)):=fun f he=>by
  have u:=PySem.IsL.update hl f
  rw [he,if_neg (by rw [List.size_toArray,List.size_toArray,kl_ins_length];simp)] at u
  exact u
 refine ins _ ?_
 show(items.toArray.extract 0 (if x < 0 then (x+(items.toArray.size:Int)).toNat else min x.toNat items.toArray.size)).push v++items.toArray.extract (if x < 0 then (x+(items.toArray.size:Int)).toNat else min x.toNat items.toArray.size)=(kl_ins items x v).toArray
 rw [kl_ins_eq,List.size_toArray]
 rfl
theorem insert_{v:Value}{k j:Nat}{t:Tok}(S:St g L h nm ls mu)(hj:mu[j]?=some (l,lob items n))(hk:k≤items.length)(hz:items.length≤1000)
  (q:∀ h',St g L h' nm ls (mu.set j (l,lob (items.take k++v::items.drop k) (n+1)))→Q .none ⟨h',gs,dr,tk,os⟩):wpAny (model prog w) A (call (.builtin "list.insert") [.ref l,.int (k:Nat) t,v]) Q E ⟨h,gs,dr,tk,os⟩:=by
 have hc:(1000:Nat)≤sizeLine:=by decide
 refine insert0 (by simp [Builtin.List.listFitsIndex];lia) S hj (ntr hz hc) ?_
 have e:kl_ins items ((k:Nat):Int) v=items.take k++v::items.drop k:=by
  unfold kl_ins
  rw [if_neg (by lia),Int.toNat_natCast,Nat.min_eq_left hk]
 rw [e];exact q
theorem sorted_(S:St g L h nm ls mu)(hl:h.IsList l items.toArray)(hi:IntsAre items xs)(hz:items.length < 64)
  (q:∀ h' D vs' ns' n,IntsAre vs' ns'→ns'.Perm xs→St g L h' nm ls ((D,lob vs' n)::mu)→Q (.ref D) ⟨h',gs,dr,tk,os⟩):wpAny (model prog w) A (call (.builtin "sorted") [.ref l]) Q E ⟨h,gs,dr,tk,os⟩ :=
 sorted_N (s:=⟨h,gs,dr,tk,os⟩) S.F S.N hl hi hz fun h' vs' ns' e F' N' hI' hp' _=>q h' _ vs' ns' e hI' hp' ⟨F',by simpa [seqObj] using N',List.nodup_cons.mpr ⟨fun m=>by
  refine oEA (List.mem_map.mp m) fun p hp e=>?_
  exact absurd (Heap.lt_size (S.N p hp).1) (by rw [e];exact Nat.not_lt.mpr (Nat.le_succ _)),S.nd⟩⟩
theorem max_{x y:Nat}{t u:Tok}(hh:A.handled=none)(S:St g L h nm ls mu)(k:∀ h' tk t,St g L h' nm ls mu→Q (.int (max x y:Nat) t) ⟨h',gs,dr,tk,os⟩):wpAny (model prog w) A (call (.builtin "max") [.int (x:Nat) t,.int (y:Nat) u]) Q E ⟨h,gs,dr,tk,os⟩ :=
 max_two_N (s:=⟨h,gs,dr,tk,os⟩) hh S.F S.N fun h' tk F' N'=>by
  have e:(if ((y:Nat):Int) > x then ((y:Nat):Int) else x)=((max x y:Nat):Int):=by split<;>lia
  rw [e];exact k _ _ _ (S.re F' N')
theorem cmin(x y:Nat):min (x:Int) (y:Int)=((min x y:Nat):Int):=by omega
theorem minN_{x y:Nat}{t u:Tok}(hh:A.handled=none)(S:St g L h nm ls mu)(k:∀ h' tk t,St g L h' nm ls mu→Q (.int (min x y:Nat) t) ⟨h',gs,dr,tk,os⟩):wpAny (model prog w) A (call (.builtin "min") [.int (x:Nat) t,.int (y:Nat) u]) Q E ⟨h,gs,dr,tk,os⟩ :=
 min_ hh S fun h' tk t S'=>by
  have:=k h' tk t S'
  rwa [← cmin] at this
theorem neN{a b:Nat}{t u:Tok}(q:Q (.bool (decide (a≠b))) ⟨h,gs,dr,tk,os⟩):wpAny (model prog w) A (compareOp .NotEq (.int a t) (.int b u)) Q E ⟨h,gs,dr,tk,os⟩:=PySem.P.ne_int (by
 have e:((a:Int) != (b:Int))=decide (a≠b):=by
  by_cases h:a=b
  ·subst h;simp
  ·have h':(a:Int)≠b:=by lia
   simp [h,h']
 rw [e];exact q)
theorem eqN{a b:Nat}{t u:Tok}(q:Q (.bool (decide (a=b))) ⟨h,gs,dr,tk,os⟩):wpAny (model prog w) A (compareOp .Eq (.int a t) (.int b u)) Q E ⟨h,gs,dr,tk,os⟩:=PySem.P.eq_int (by
 have e:((a:Int) == (b:Int))=decide (a=b):=by
  by_cases h:a=b
  ·subst h;simp
  ·have h':(a:Int)≠b:=by lia
   simp [h,h']
 rw [e];exact q)
theorem gtN{a b:Nat}{t u:Tok}(q:Q (.bool (decide (b < a))) ⟨h,gs,dr,tk,os⟩):wpAny (model prog w) A (compareOp .Gt (.int a t) (.int b u)) Q E ⟨h,gs,dr,tk,os⟩:=PySem.P.gt_int (by
 have e:decide ((a:Int) > (b:Int))=decide (b < a):=by simp
 rw [e];exact q)
theorem iaddN{a b:Nat}{t u:Tok}(q:∀ t tk,Q (.int ((a+b:Nat):Int) t) ⟨h,gs,dr,tk,os⟩):wpAny (model prog w) A (inplaceOp .Add (.int a t) (.int b u)) Q E ⟨h,gs,dr,tk,os⟩:=iadd_ fun t tk=>by have:=q t tk;rwa [Int.natCast_add] at this
theorem mulN1{a b:Nat}{t u:Tok}(ha:a≤1000000)(q:∀ t tk,Q (.int ((a * b:Nat):Int) t) ⟨h,gs,dr,tk+1,os⟩):wpAny (model prog w) A (binaryOp .Mult (.int a t) (.int b u)) Q E ⟨h,gs,dr,tk,os⟩ :=
 mul_int (by have:=q tk tk;rw [Int.natCast_mul] at this;exact this) (mulOk ha)
theorem addN'{a b:Nat}{t u:Tok}(q:∀ t tk,Q (.int ((a+b:Nat):Int) t) ⟨h,gs,dr,tk+1,os⟩):wpAny (model prog w) A (binaryOp .Add (.int a t) (.int b u)) Q E ⟨h,gs,dr,tk,os⟩:=by
 have:=q tk tk
 rw [Int.natCast_add] at this
 exact PySem.P.add_int this
theorem divN1_{a b:Nat}{t u:Tok}(hA:A.handled=none)(ha:a≤1000000)(hb:0 < b)(q:∀ tk',Q (.float (Float64.ofFrac false a b) (tk+1)) ⟨h,gs,dr,tk',os⟩):wpAny (model prog w) A (binaryOp .Div (.int a t) (.int b u)) Q E ⟨h,gs,dr,tk+1,os⟩:=by
 refine PySem.Flt.div_ii_fits (s:=⟨h,gs,dr,tk+1,os⟩) hA ?_ (fun z=>absurd z (by lia)) fun _ _=>?_
 ·rw [Int.natAbs_natCast]
  have e:(2:Nat) ^ 1023=2 ^ 20 * 2 ^ 1003:=by rw [← Nat.pow_add]
  have e1:(1:Nat)≤2 ^ 1003:=Nat.one_le_two_pow
  have e2:2 ^ 20 * 1≤2 ^ 20 * 2 ^ 1003:=Nat.mul_le_mul_left _ e1
  rw [e]
  lia
 ·have e1:decide ((a:Int) < 0)=false:=by simp
  have e2:decide ((b:Int) < 0)=false:=by simp
  rw [e1,e2,Int.natAbs_natCast,Int.natAbs_natCast]
  exact q _
end
section
variable{w:World}{A:Around}{E:Value→Shared→Prop}{h g:Heap}{gs:Array GenState}{dr:Drawn}{tk:Nat}{os:OsState}{L:Addr}{nm:List Str}{ls:List (Option Value)}{mu:List (Addr×Obj)}{env:Env}{prog:Program}
theorem ldnE{x:Str}{i:Nat}{v:Value}{Q:Value→Shared→Prop}(S:St g L h nm ls mu)(V:VE env nm x i)(hv:ls[i]?=some (some v))(k:Q v ⟨h,gs,dr,tk,os⟩)(hL:env.locals=L:=by rfl) :
  wpAny (model prog w) A (loadName env x) Q E ⟨h,gs,dr,tk,os⟩:=by
 subst hL
 exact wpAny_loadName_local V.fn V.kind S.F.ns (look_get V.nd V.place hv) k
theorem augE{x:Str}{i:Nat}{v:Value}{op:Operator}{value:Expr}{p pos:Pos}{Q:Flow→Shared→Prop}(S:St g L h nm ls mu)(V:VE env nm x i)(hv:ls[i]?=some (some v))
  (k:wpAny (model prog w) A (eval value env) (fun u s₂=>wpAny (model prog w) A (inplaceOp op v u) (fun r s₃=>wpAny (model prog w) A (storeName env x r) (fun _=>Q .next) E s₃) E s₂) E ⟨h,gs,dr,tk,os⟩) (hL:env.locals=L:=by rfl) :
  wpAny (model prog w) A (exec (.AugAssign (.Name x p) op value pos) env) Q E ⟨h,gs,dr,tk,os⟩ :=
 wpAny_AugAssign_Name (ldnE S V hv k hL)
theorem stE'{x:Str}{i:Nat}{v:Value}{Q:Unit→Shared→Prop}(S:St g L h nm ls mu)(V:VE env nm x i)(hi:i < ls.length)
  (k:∀ h',St g L h' nm (ls.set i (some v)) mu→Q () ⟨h',gs,dr,tk+1,os⟩) (hL:env.locals=L:=by rfl):wpAny (model prog w) A (storeName env x v) Q E ⟨h,gs,dr,tk,os⟩:=by
 subst hL
 refine wpAny_storeName_local V.kind S.F.ns (fun h' hn hs=>k h' ⟨look_set V.nd V.place hi v▸S.F.set hn hs,fun p hp=>?_,S.nd⟩) (by rw [V.fn];rfl)
 have P:=S.N p hp
 exact⟨(hs.2 _ P.2.1).trans P.1,P.2⟩
theorem cG{f:Addr}{x:Str}{fd:FuncData}{qual:Str}{sc:Scope}{body:List Stmt}{cdv:Value}{e:Expr}{rest:List Expr}{p pos:Pos}{Q:Value→Shared→Prop}{mg mb:Str→Option Value}(S:St g L h nm ls mu)(D:Gd (K w.params) mg mb g)(V:GE env x)(N:nsIn (K w.params) mainGlobals x=some (some (.ref f)))(H:FnC (K w.params) f fd qual sc body cdv)
  (k:wpAny (model prog w) A (spliced (backTo pos (starEach (e::rest) env))) (fun vs s₁=>(K w.params).In s₁.heap∧wpAny (model prog w) A (call (.ref f) vs) Q E s₁) E ⟨h,gs,dr,tk,os⟩)
  (he:starEach (e::rest) env=(false,eval e env)::starEach rest env:=by rfl) :
  wpAny (model prog w) A (eval (.Call (.Name x p) (e::rest) [] pos) env) Q E ⟨h,gs,dr,tk,os⟩ :=
 Call_ (lgE S D V N (cFnC H k he))
end
structure Ma where
 t:Addr
 m0:Addr
 m1:Addr
 d0:Addr
 d1:Addr
 lH:Addr
 H:List Int
noncomputable abbrev Ma.W(a:Ma):List Addr:=[a.d0,a.d1,220]
structure MM(w:World)(R:Rel)(a:Ma)(od0 od1:Obj):Prop where
 h0:R a.m0 (inst CM a.d0)
 h1:R a.m1 (inst CM a.d1)
 ht:∃ n,R a.t (lob [.ref a.m0,.ref a.m1] n)
 x0:∃ oa,MX w R od0 oa (some (a.lH,a.H))
 x1:∃ ob,MX w R od1 (some (a.lH,a.H)) ob
theorem MM.mono{w:World}{R R':Rel}{a:Ma}{od0 od1:Obj}(M:MM w R a od0 od1)(m:∀ b o,R b o→R' b o):MM w R' a od0 od1 :=
 ⟨m _ _ M.h0,m _ _ M.h1,M.ht.imp fun _=>m _ _,M.x0.imp fun _ x=>x.mono m,M.x1.imp fun _ x=>x.mono m⟩
structure Pre(w:World)(mg mb:Str→Option Value)(G:Heap)(A:Around)(a:Ma)(R:Rel)(s:Shared)(k:Nat)(od0 od1 op:Obj):Prop where
 D:Gd (K w.params) mg mb G
 sub:Sub G s.heap
 hG:∀ b∈a.W,G.get? b=none
 nd:a.W.Nodup
 hA:A.handled=none
 dep:A.depth+k < recursionLimit
 u:A.units+3 * k < cLine
 gs:AllBare s.gens
 e0:s.heap.get? a.d0=some od0
 e1:s.heap.get? a.d1=some od1
 eT:s.heap.get? 220=some op
 ct:CodeTab op
 off:∀ b o,R b o→s.heap.get? b=some o∧b∉a.W
 M:MM w R a od0 od1
 z1:8≤a.H.length
 z2:a.H.length≤16
inductive Po(w:World)(a:Ma)(R:Rel)(s:Shared)(V:Rel→Value→Nat→Prop)(v:Value)(s':Shared):Prop
 | mk (od0 od1 op new) (e0:s'.heap.get? a.d0=some od0) (e1:s'.heap.get? a.d1=some od1) (eT:s'.heap.get? 220=some op) (ct:CodeTab op) (F:Fresh s s' new) (M:MM w (R.and new) a od0 od1) (p:V (R.and new) v s'.toks):Po w a R s V v s'
section
variable{w:World}{A:Around}{E:Value→Shared→Prop}{s s':Shared}{mg mb:Str→Option Value}{G g h:Heap}{gs:Array GenState}{dr:Drawn}{tk:Nat}{os:OsState}{L:Addr}{nm:List Str}{ls:List (Option Value)}{mu Z:List (Addr×Obj)}{a:Ma}{R:Rel}{od0 od1 op:Obj}{k:Nat}{V:Rel→Value→Nat→Prop}
theorem enterM{f:Addr}{fd:FuncData}{qual:Str}{sc:Scope}{body:List Stmt}{cdv:Value}{args:Args}{binds:List (Str×Value)}(X:Pre w mg mb G A a R s k od0 od1 op)(hk:0 < k)
  (F:FnC (K w.params) f fd qual sc body cdv) (hbind:BindsTo s fd args binds) (nm:List Str) (lsn:List (Option Value)) (hlsn:nm.map (fun _=>none)=lsn) {cells:Nat→List (Addr×Obj)} (hcells:∀ n,led0 n sc.names=cells n)
  (h:∀ Q:Value→Shared→Prop,(∀ v s',Mod a.W s s'→Po w a R s V v s'→Q v s')→∀ L h₁,L=s.heap.objs.size→Gd (K w.params) mg mb (hideAll s.heap a.W)→(∀ b o,R b o→(hideAll s.heap a.W).get? b=some o) →
   St (hideAll s.heap a.W) L h₁ nm lsn (cells (L+1)++[(a.d0,od0),(a.d1,od1),(220,op)]) →
   wpAny (model prog w) A.in1 (bindAll (envOfC qual sc L f cdv) binds) (fun _ s'=>Sub (hideAll s.heap a.W) s'.heap ∧
    wpAny (model prog w) (A.deeper (envOfC qual sc L f cdv)) (execs body (envOfC qual sc L f cdv)) (fun fl s'=>Q (match fl with | .ret v=>v | _=>.none) s') (fun _ _=>False) s') (fun _ _=>False)
    ⟨h₁,s.gens,s.drawn,s.toks,s.os⟩):codeAny (model prog w) A (.call (.ref f) args) (Ret a.W s (Po w a R s V)) s:=by
 have hSW:cStatics∉a.W:=fun hm=>by
  refine oEA X.D.lim fun _ hn _=>?_
  refine oEEEA hn fun o _ _ ho _=>?_
  have:=X.hG _ hm
  rw [ho] at this;cases this
 have hd:=X.dep
 refine enterD [(a.d0,od0),(a.d1,od1),(220,op)] F (X.D.keeps X.sub) (by lia) hbind (fun p hp=>?_) X.nd hSW nm lsn hlsn hcells fun Q hQ L h₁ hL S=>h Q hQ L h₁ hL (X.D.hide X.sub X.hG) (fun b o e=>hideAll_get _ (X.off b o e).1 (X.off b o e).2) S
 rcases mK hp with rfl | hp
 ·exact X.e0
 ·rcases mK hp with rfl | hp
  ·exact X.e1
  ·rw [mS hp];exact X.eT
theorem endM{Q:Value→Shared→Prop}{v:Value}(hQ:∀ v s',Mod a.W s s'→Po w a R s V v s'→Q v s')(S:St (hideAll s.heap a.W) L h nm ls ((a.d0,od0)::(a.d1,od1)::(220,op)::mu))(hL:L=s.heap.objs.size)(hg:AllBare gs)(hd:dr=s.drawn)(ho:os=s.os)
  (ct:CodeTab op) (M:MM w (R.and mu) a od0 od1) (p:V (R.and mu) v tk):Q v ⟨h,gs,dr,tk,os⟩ :=
 hQ _ _ (S.mod (t:=0) (Nat.le_of_eq hL.symm) (fun _=>hg) rfl ho rfl hd) ⟨od0,od1,op,mu,S.get (j:=0) rfl,S.get (j:=1) rfl,S.get (j:=2) rfl,ct,St.fresh (mu:=[(a.d0,od0),(a.d1,od1),(220,op)]) S rfl rfl,M,p⟩
theorem callMa{f:Addr}{args:List Value}{Q:Value→Shared→Prop}(S:St g L h nm ls ((a.d0,od0)::(a.d1,od1)::(220,op)::Z))(D:Gd (K w.params) mg mb g)(hR:∀ b o,R b o→g.get? b=some o)(hZ:∀ p∈mu,p∈Z)(hA:A.handled=none)(hdep:A.depth+k < recursionLimit)(hu:A.units+3 * k < cLine)
  (hgs:AllBare gs) (ct:CodeTab op) (M:MM w (R.and mu) a od0 od1) (z1:8≤a.H.length) (z2:a.H.length≤16)
  (c:Pre w mg mb g A a (R.and mu) ⟨h,gs,dr,tk,os⟩ k od0 od1 op→codeAny (model prog w) A (.call (.ref f) ⟨args,[]⟩) (Ret a.W ⟨h,gs,dr,tk,os⟩ (Po w a (R.and mu) ⟨h,gs,dr,tk,os⟩ V)) ⟨h,gs,dr,tk,os⟩)
  (q:∀ v h' gs' tk' od0' od1' op' new,AllBare gs'→CodeTab op'→St g L h' nm ls ((a.d0,od0')::(a.d1,od1')::(220,op')::(new++Z))→MM w (R.and (new++mu)) a od0' od1'→V (R.and (new++mu)) v tk'→Q v ⟨h',gs',dr,tk',os⟩)
  (hV:∀ {R R':Rel} {v n},(∀ b o,R b o→R' b o)→V R v n→V R' v n) :
  wpAny (model prog w) A (call (.ref f) args) Q E ⟨h,gs,dr,tk,os⟩:=by
 have nd:=S.nd
 have off:∀ b o,(R.and mu) b o→h.get? b=some o∧b∉a.W:=fun b o e=>by
  rcases e with e | e
  ·have e:=hR b o e
   refine⟨S.F.keep b o e,fun hm=>?_⟩
   rcases mK hm with z | hm
   ·have:=(S.N _ (.head _)).2.2;rw [← z,e] at this;cases this
   ·rcases mK hm with z | hm
    ·have:=(S.N _ (.tail _ (.head _))).2.2;rw [← z,e] at this;cases this
    ·have:=(S.N _ (.tail _ (.tail _ (.head _)))).2.2;rw [← mS hm,e] at this;cases this
  ·have e:=hZ _ e
   refine⟨(S.N _ (.tail _ (.tail _ (.tail _ e)))).1,fun hm=>?_⟩
   have nd':=(List.nodup_append.mp (show((a.W++Z.map (·.1)).Nodup) from nd)).2.2
   exact nd' b hm b (List.mem_map_of_mem (f:=(·.1)) e) rfl
 have X:Pre w mg mb g A a (R.and mu) ⟨h,gs,dr,tk,os⟩ k od0 od1 op:=by
  refine⟨D,S.F.keep,fun b hm=>?_,(List.nodup_append.mp (show((a.W++Z.map (·.1)).Nodup) from nd)).1,hA,hdep,hu,hgs,S.get (j:=0) rfl,S.get (j:=1) rfl,S.get (j:=2) rfl,ct,off,M,z1,z2⟩
  rcases mK hm with z | hm
  ·exact z▸(S.N _ (.head _)).2.2
  ·rcases mK hm with z | hm
   ·exact z▸(S.N _ (.tail _ (.head _))).2.2
   ·exact mS hm▸(S.N _ (.tail _ (.tail _ (.head _)))).2.2
 refine callS (c X) fun v h' gs' tk' Mo hv=>?_
 obtain⟨od0',od1',op',new,e0,e1,eT,ct',F,M',p⟩:=hv
 have up:∀ b o,(R.and mu).and new b o→R.and (new++mu) b o:=fun b o e=>e.elim (fun e=>e.imp id fun m=>mR _ m) fun m=>.inr (mF _ m)
 refine q v h' gs' tk' od0' od1' op' new (Mo.gens hgs) ct' ?_ (M'.mono up) (hV up p)
 refine St.perm (mu:=((a.d0,od0')::(a.d1,od1')::(220,op')::Z)++new) ?_ (((List.perm_append_comm (l₁:=Z) (l₂:=new)).cons _).cons _ |>.cons _)
 refine St.grow (s:=⟨h,gs,dr,tk,os⟩) S (S.call (s:=⟨h,gs,dr,tk,os⟩) (s':=⟨h',gs',dr,tk',os⟩) (mu':=(a.d0,od0')::(a.d1,od1')::(220,op')::Z) Mo (fun b hb=>?_) rfl fun p hp=>?_) rfl (fun p hp=>⟨F.here p hp,F.not p hp⟩) F.nd
 ·show b∈a.W++Z.map (·.1)
  exact mF _ hb
 ·rcases mK hp with rfl | hp
  ·exact .inr e0
  ·rcases mK hp with rfl | hp
   ·exact .inr e1
   ·rcases mK hp with rfl | hp
    ·exact .inr eT
    ·refine .inl ⟨.tail _ (.tail _ (.tail _ hp)),fun hm=>?_⟩
     exact(List.nodup_append.mp (show((a.W++Z.map (·.1)).Nodup) from nd)).2.2 _ hm _ (List.mem_map_of_mem (f:=(·.1)) hp) rfl
theorem St.hid{p:Addr×Obj}(S:St g L h nm ls ((a.d0,od0)::(a.d1,od1)::(220,op)::Z))(hp:p∈Z):(hideAll h a.W).get? p.1=some p.2 :=
 hideAll_get _ (S.N _ (.tail _ (.tail _ (.tail _ hp)))).1 fun hm=>(List.nodup_append.mp (show((a.W++Z.map (·.1)).Nodup) from S.nd)).2.2 _ hm _ (List.mem_map_of_mem (f:=(·.1)) hp) rfl
end
noncomputable abbrev toldL(xs ys:List Int)(tot:Nat)(t1 t2 t3:Tok):List Value :=
 [.float (ratioF tot (xs.length+ys.length)) (t1+1),.float (ratioF (qm xs fun k=>cnt k ys:Nat) (xs.length+ys.length)) (t2+1),.float (ratioF (min xs.length ys.length:Int) (xs.length+ys.length)) (t3+1)]
inductive Row(R:Rel)(xs ys:List Int)(T:Addr)(n:Nat):Prop
 | mk (m t1 t2 t3 tot) (r:R T (lob (toldL xs ys tot t1 t2 t3) m)) (g:GM xs ys 0 xs.length 0 ys.length tot) (l1:t1+1≤n) (l2:t2+1≤n):Row R xs ys T n
theorem Row.mono{R R':Rel}{xs ys:List Int}{T:Addr}{n n':Nat}(h:Row R xs ys T n)(m:∀ b o,R b o→R' b o)(hn:n≤n'):Row R' xs ys T n' :=
 let ⟨k,t1,t2,t3,tot,r,g,l1,l2⟩:=h;⟨k,t1,t2,t3,tot,m _ _ r,g,ntr l1 hn,ntr l2 hn⟩
inductive TV(a:Ma)(xs:List Int)(R:Rel)(v:Value)(n:Nat):Prop
 | mk (T T0 T1 m) (e:v=.ref T) (r:R T (lob [.ref T0,.ref T1] m)) (r0:Row R xs a.H T0 n) (r1:Row R a.H xs T1 n):TV a xs R v n
theorem TV.mono{a:Ma}{xs:List Int}{R R':Rel}{v:Value}{n:Nat}(m:∀ b o,R b o→R' b o)(h:TV a xs R v n):TV a xs R' v n :=
 let ⟨T,T0,T1,k,e,r,r0,r1⟩:=h;⟨T,T0,T1,k,e,m _ _ r,r0.mono m (Nat.le_refl _),r1.mono m (Nat.le_refl _)⟩
theorem gn_told(P:Params):nsIn (K P) mainGlobals (ofString "_law_told")=some (some (.ref 251)):=by kernel_rfl
theorem gn_items(P:Params):nsIn (K P) mainGlobals (ofString "_law_items")=some (some (.ref 256)):=by kernel_rfl
theorem gn_places(P:Params):nsIn (K P) mainGlobals (ofString "_law_places")=some (some (.ref 270)):=by kernel_rfl
theorem gn_spied(P:Params):nsIn (K P) mainGlobals (ofString "_law_spied")=some (some (.ref 275)):=by kernel_rfl
theorem gn_lost(P:Params):nsIn (K P) mainGlobals (ofString "_law_lost")=some (some (.ref 280)):=by kernel_rfl
theorem gn_moved(P:Params):nsIn (K P) mainGlobals (ofString "_law_moved_right")=some (some (.ref 287)):=by kernel_rfl
theorem gn_count(P:Params):nsIn (K P) mainGlobals (ofString "_law_count")=some (some (.ref 263)):=by kernel_rfl
section
variable{w:World}{A:Around}{E:Value→Shared→Prop}{s s':Shared}{mg mb:Str→Option Value}{G g h:Heap}{gs:Array GenState}{dr:Drawn}{tk:Nat}{os:OsState}{L C:Addr}{nm:List Str}{ls:List (Option Value)}{mu Z:List (Addr×Obj)}{a:Ma}{R:Rel}{od0 od1 op:Obj}
theorem told_elt{m d la lb:Addr}{od:Obj}{xs ys:List Int}{Q:Value→Shared→Prop}(S:St g C h nm_told_c1 [some (.ref m)] ((d,od)::(220,op)::mu))(D:Gd (K w.params) mg mb g)(hA:A.handled=none)(hdep:A.depth+8 < recursionLimit)(hu:A.units+12 < cLine)(hgs:AllBare gs)(hct:CodeTab op)
  (hRk:∀ b o,R b o→Kn g mu b o) (hm:R m (inst CM d)) (M:MX w R od (some (la,xs)) (some (lb,ys))) (hz:xs.length+ys.length≠0) (hmin:xs.length < 64∨ys.length < 64)
  (k:∀ h' gs' tk' od' op' new T t1 t2 t3 tot,AllBare gs'→CodeTab op'→GM xs ys 0 xs.length 0 ys.length tot→t1+1≤tk'→t2+1≤tk'→St g C h' nm_told_c1 [some (.ref m)] ((d,od')::(220,op')::((T,lob (toldL xs ys tot t1 t2 t3) 0)::(mu++new)))→MX w (R.and new) od' (some (la,xs)) (some (lb,ys))→Q (.ref T) ⟨h',gs',dr,tk',os⟩) :
  wpAny (model prog w) A (eval (eelt (sv (bd_told.getD 2 (.Pass ⟨0,0,0,0⟩)))) (e_told_c1 L C)) Q E ⟨h,gs,dr,tk,os⟩:=by
 refine List_ (arg_ (MethodCall_ (ldE S (ve_told_c1_one L C) rfl (methM S D (fun b o e=>(hRk b o e).imp id fun m=>m) hm M (me_ratio _) (cMn0 (fn_ratio _) (D.k.keeps S.F.keep) ?_)))))
 refine callRatio S D hA hdep hu hgs hRk hm M hct hz hmin fun h3 gs3 t3 od3 op3 new3 k3 tot l3 hg3 hct3 hGM S3 M3=>?_
 have k3':∀ b o,(R.and new3) b o→Kn g (mu++new3) b o:=fun b o e=>e.elim (fun e=>(hRk b o e).imp id fun m=>mF _ m) fun m=>.inr (mR _ m)
 refine arg_ (MethodCall_ (ldE S3 (ve_told_c1_one L C) rfl (methM S3 D k3' (.inl hm) M3 (me_quick _) (cMn0 (fn_quick _) (D.k.keeps S3.F.keep) ?_))))
 refine wpAny_with_toks (n:=t3) (Nat.le_refl _) (callQuick S3 D hA (by lia) hg3 k3' (.inl hm) M3 hz fun h4 gs4 t4 od4 new4 k4 l4 hg4 S4 M4 ht4=>?_)
 have k4':∀ b o,((R.and new3).and new4) b o→Kn g (mu++new3++new4) b o:=fun b o e=>e.elim (fun e=>(k3' b o e).imp id fun m=>mF _ m) fun m=>.inr (mR _ m)
 refine arg_ (MethodCall_ (ldE S4 (ve_told_c1_one L C) rfl (methM S4 D k4' (.inl (.inl hm)) M4 (me_rquick _) (cMn0 (fn_rquick _) (D.k.keeps S4.F.keep) ?_))))
 refine wpAny_with_toks (n:=t4) (Nat.le_refl _) (callRquick S4 D hA (by lia) hg4 k4' (.inl (.inl hm)) M4 hz fun h5 gs5 t5 k5 hg5 S5 ht5=>?_)
 refine arg0 (newL S5 (by simp) fun h6 S6=>?_)
 refine k h6 gs5 t5 od4 op3 (new3++new4) _ k3 k4 k5 tot hg5 hct3 hGM (ntr l3 (ntr ht4 ht5)) (ntr l4 ht5) ?_ (M4.mono fun b o e=>e.elim (fun e=>e.imp id fun m=>mF _ m) fun m=>.inr (mR _ m))
 rw [← List.append_assoc]
 exact S6.perm ((List.Perm.swap _ _ _).trans ((List.Perm.swap _ _ _).cons _))
inductive TdJ(w:World)(R:Rel)(a:Ma)(x:Addr)(xs:List Int)(F:List (Addr×Obj))(C D:Addr)(i:Nat)(ys:List Value)(ls:List (Option Value))(mu:List (Addr×Obj))(n:Nat):Prop
 | mk (x1 od0 od1 op Z) (Ts:List Addr) (e0:ls=[x1]) (e1:mu=(a.d0,od0)::(a.d1,od1)::(220,op)::(Z++F)) (e2:CodeTab op) (e3:MX w (R.and (Z++F)) od0 (some (x,xs)) (some (a.lH,a.H))) (e4:MX w (R.and (Z++F)) od1 (some (a.lH,a.H)) (some (x,xs)))
  (e5:ys=Ts.map .ref) (e6:Ts.length=i) (r0:∀ T,Ts[0]?=some T→Row (R.and (Z++F)) xs a.H T n) (r1:∀ T,Ts[1]?=some T→Row (R.and (Z++F)) a.H xs T n):TdJ w R a x xs F C D i ys ls mu n
theorem TdJ.up{x:Addr}{xs:List Int}{F:List (Addr×Obj)}{C D:Addr}{i:Nat}{ys:List Value}{n n':Nat}(hn:n≤n')(J:TdJ w R a x xs F C D i ys ls mu n):TdJ w R a x xs F C D i ys ls mu n' :=
 let ⟨x1,b0,b1,bp,Z,Ts,e0,e1,e2,e3,e4,e5,e6,r0,r1⟩:=J
 ⟨x1,b0,b1,bp,Z,Ts,e0,e1,e2,e3,e4,e5,e6,fun T h=>(r0 T h).mono (fun _ _ h=>h) hn,fun T h=>(r1 T h).mono (fun _ _ h=>h) hn⟩
theorem pmU{α:Type}{a b:α}{l l':List α}(h:l.Perm (a::l')):(b::l).Perm (a::b::l'):=(h.cons b).trans (.swap a b l')
theorem pmA{α:Type}{a:α}{n l l':List α}(h:l.Perm (a::l')):(n++l).Perm (a::(n++l')):=(h.append_left n).trans List.perm_middle
theorem pmT{α:Type}{Z F own new:List α}:(((Z++F)++own)++new).Perm (((new++Z)++F)++own):=List.perm_append_comm.trans (.of_eq (by rw [← List.append_assoc,← List.append_assoc]))
theorem perm0{α:Type}{c a d b:α}{Y own:List α}:(c::(a::d::b::Y)++own).Perm (a::b::((c::d::Y)++own)) :=
 (pmU (.refl _)).trans (.cons _ (pmU (pmU (.refl _))))
theorem perm0'{α:Type}{c a d b:α}{Y own:List α}:(c::(d::a::b::Y)++own).Perm (a::b::((c::d::Y)++own)) :=
 (pmU (pmU (.refl _))).trans (.cons _ (pmU (pmU (.refl _))))
theorem perm1{α:Type}{a b c d e:α}{Z F own new:List α}:(a::b::e::(((c::d::(Z++F))++own)++new)).Perm (c::(a::d::b::((e::(new++Z))++F))++own) :=
 (pmU (pmU (pmU (.refl _)))).trans (.cons _ (.cons _ ((pmU (pmU (.refl _))).trans (.cons _ (.cons _ (.cons _ pmT))))))
theorem perm1'{α:Type}{a b c d e:α}{Z F own new:List α}:(a::b::e::(((c::d::(Z++F))++own)++new)).Perm (c::(d::a::b::((e::(new++Z))++F))++own) :=
 (pmU (pmU (pmU (.refl _)))).trans (.cons _ ((pmU (pmU (pmU (.refl _)))).trans (.cons _ (.cons _ (.cons _ (.cons _ pmT))))))
theorem two_of{α:Type}{l:List α}(h:l.length=2):∃ a b,l=[a,b]:=by
 rcases l with _ | ⟨a,_ | ⟨b,_ | ⟨_,_⟩⟩⟩
 ·cases h
 ·cases h
 ·exact⟨a,b,rfl⟩
 ·cases h
theorem told_spec{x:Addr}{xs:List Int}(X:Pre w mg mb G A a R s 12 od0 od1 op)(hx:LI R x xs)(hz:xs.length≤199) :
  codeAny (model prog w) A (.call (.ref 251) ⟨[.ref a.t,.ref x],[]⟩) (Ret a.W s (Po w a R s (TV a xs))) s:=by
 refine enterM X (by decide) (fn_told _) (bi_told _ _ _ _) nm_told [none,none] rfl led_told fun Q hQ L h₁ hL D hRg S=>?_
 refine ba_cons (stE S (ve_told_matchers L) (nB rfl) fun h2 t2 S2=>ba_cons (stE S2 (ve_told_guess L) (nB rfl) fun h3 t3 S3=>ba_nil ⟨S3.F.keep,?_⟩))
 replace S3:St (hideAll s.heap a.W) L h3 nm_told [some (.ref a.t),some (.ref x)] [(a.d0,od0),(a.d1,od1),(220,op)]:=S3
 obtain⟨nT,hT⟩:=X.M.ht
 obtain⟨oa,M0⟩:=X.M.x0
 obtain⟨ob,M1⟩:=X.M.x1
 have hA:=X.hA
 have hdep:=X.dep
 have hu:=X.u
 have kR:∀ (Y:List (Addr×Obj)) b o,R b o→Kn (hideAll s.heap a.W) Y b o:=fun _ b o e=>.inl (hRg b o e)
 refine exc (wpAny_Expr (MethodCall_ (Subscript_ (ldE S3 (ve_told_matchers L) rfl (cInt fun k4 t4=>itemN (items:=[.ref a.m0,.ref a.m1]) (k:=0) (S3.old (hRg _ _ hT)) rfl (by simp) (methM S3 D (kR _) X.M.h0 M0 (me_set1 _) (cMn (fn_set1 _) (arg_ (ldE S3 (ve_told_guess L) rfl (arg0 ⟨D.k.keeps S3.F.keep,?_⟩))))))))))
 have S4:=S3.perm (mu':=[(a.d0,od0),(220,op),(a.d1,od1)]) ((List.Perm.swap _ _ _).cons _)
 refine callSet1 S4 D hA (by show A.depth+1+2 < _;lia) X.gs (kR _) X.M.h0 M0 hx hz fun h5 gs5 t5 od5 hg5 S5 M5=>?_
 have S6:=S5.perm (mu':=[(a.d1,od1),(220,op),(a.d0,od5)]) (List.reverse_perm [(a.d1,od1),(220,op),(a.d0,od5)])
 refine exc (wpAny_Expr (MethodCall_ (Subscript_ (ldE S6 (ve_told_matchers L) rfl (cInt fun k7 t7=>itemN (items:=[.ref a.m0,.ref a.m1]) (k:=1) (S6.old (hRg _ _ hT)) rfl (by simp) (methM S6 D (kR _) X.M.h1 M1 (me_set2 _) (cMn (fn_set2 _) (arg_ (ldE S6 (ve_told_guess L) rfl (arg0 ⟨D.k.keeps S6.F.keep,?_⟩))))))))))
 refine callSet2 S6 D hA (by show A.depth+1+4 < _;lia) hg5 (kR _) X.M.h1 M1 hx hz fun h8 gs8 t8 od8 F hg8 S8 M8=>?_
 replace S8:St (hideAll s.heap a.W) L h8 nm_told [some (.ref a.t),some (.ref x)] ((a.d0,od5)::(a.d1,od8)::(220,op)::F):=S8.perm (((List.Perm.swap _ _ _).cons _).trans (List.Perm.swap _ _ _))
 refine exc (wpAny_Return_some (lc_ (sf_told_c1 L) (ldE S8 (ve_told_matchers L) rfl ?_)))
 refine overL S8 hA (lob_list (S8.old (hRg _ _ hT))) (.inl ⟨_,hRg _ _ hT⟩) fun I h9 own hne S9 ho hS W=>?_
 refine compCoret (own:=own) nm_told_c1 (TdJ w R a x xs F) (fun _ _ _ _ _ _ _ _ hn J=>J.up hn) W (fun b hb=>?_) (fun b hb=>by rw [ho];exact hb) ?_ (by simp) ?_ ?_ (fun C D0=>⟨none,od5,od8,op,[],[],rfl,by kernel_rfl,X.ct,M5.mono fun _ _ e=>.inl e,M8,rfl,rfl,fun T h=>(nomatch h),fun T h=>(nomatch h)⟩) S9 hS hg8
 ·rcases mK hb with rfl | hb
  ·exact .inl (by rw [ho];simp)
  ·rw [mS hb];exact .inr (.inl ⟨_,hRg _ _ hT⟩)
 ·rintro i h' ⟨⟨o,ho,_⟩,_⟩ b hb
  rw [mS hb];exact⟨o,ho⟩
 ·rintro g' C D0 hsub i v ys m ls mu own h10 gs10 tk10 hi hv ⟨x1,b0,b1,bp,Z,Ts,rfl,rfl,hct,N0,N1,rfl,rfl,r0,r1⟩ hl hg10 S10 T1 T0 q1 q0
  have D':=D.keeps hsub
  have kR':∀ (Y:List (Addr×Obj)),(∀ p∈Z++F,p∈Y)→∀ b o,R.and (Z++F) b o→Kn g' Y b o:=fun Y hY b o e=>e.elim (fun e=>.inl (hsub _ _ (hRg b o e))) fun m=>.inr (hY _ m)
  have up:∀ (e:Addr×Obj) (new:List (Addr×Obj)) b o,R.and (Z++F) b o→R.and (e::(new++Z)++F) b o:=fun e new b o k=>k.imp id fun m=>by
   rcases List.mem_append.mp m with m | m
   ·exact mF _ (.tail _ (mR _ m))
   ·exact mR _ m
  have upn:∀ (e:Addr×Obj) (new:List (Addr×Obj)) b o,(R.and (Z++F)).and new b o→R.and (e::(new++Z)++F) b o:=fun e new b o k=>k.elim (up e new b o) fun m=>.inr (mF _ (.tail _ (mF _ m)))
  refine assign_Name (stE' S10 (ve_told_c1_one L C) (nB rfl) fun h11 S11=>?_)
  refine tst0 ?_
  rw [if_pos rfl]
  clear S10
  rcases Ts with _ | ⟨T0',_ | ⟨T1',Ts⟩⟩
  ·obtain rfl:Value.ref a.m0=v:=Option.some.inj hv
   have S12:St g' C h11 nm_told_c1 [some (.ref a.m0)] ((a.d0,b0)::(220,bp)::(((D0,lob [] m)::(a.d1,b1)::(Z++F))++own)):=S11.perm perm0
   refine wpAny_with_toks (n:=tk10+1) (Nat.le_refl _) (told_elt S12 D' hA (by show A.depth+1+8 < _;lia) (by show A.units+3+12 < _;lia) hg10 hct (kR' _ fun p hp=>mF _ (.tail _ (.tail _ hp))) (.inl X.M.h0) N0 (by have:=X.z1;lia) (.inr (by have:=X.z2;lia)) fun h13 gs13 t13 od13 op13 new T u1 u2 u3 tot hg13 hct13 hGM l1 l2 S13 M13 ht=>?_)
   refine q1 _ _ ⟨_,_,h13,gs13,t13,rfl,hg13,S13.perm perm1,_,od13,b1,op13,(T,_)::(new++Z),[T],rfl,rfl,hct13,M13.mono (upn _ _),N1.mono (up _ _),rfl,rfl,fun T' hT'=>?_,fun T' hT'=>(nomatch hT')⟩
   obtain rfl:T=T':=Option.some.inj hT'
   exact⟨0,u1,u2,u3,tot,.inr (mF _ (.head _)),hGM,l1,l2⟩
  ·obtain rfl:Value.ref a.m1=v:=Option.some.inj hv
   have S12:St g' C h11 nm_told_c1 [some (.ref a.m1)] ((a.d1,b1)::(220,bp)::(((D0,lob [.ref T0'] m)::(a.d0,b0)::(Z++F))++own)):=S11.perm perm0'
   refine wpAny_with_toks (n:=tk10+1) (Nat.le_refl _) (told_elt S12 D' hA (by show A.depth+1+8 < _;lia) (by show A.units+3+12 < _;lia) hg10 hct (kR' _ fun p hp=>mF _ (.tail _ (.tail _ hp))) (.inl X.M.h1) N1 (by have:=X.z1;lia) (.inl (by have:=X.z2;lia)) fun h13 gs13 t13 od13 op13 new T u1 u2 u3 tot hg13 hct13 hGM l1 l2 S13 M13 ht=>?_)
   refine q1 _ _ ⟨_,_,h13,gs13,t13,rfl,hg13,S13.perm perm1',_,b0,od13,op13,(T,_)::(new++Z),[T0',T],rfl,rfl,hct13,N0.mono (up _ _),M13.mono (upn _ _),rfl,rfl,fun T' hT'=>(r0 T' hT').mono (up _ _) (ntr (Nat.le_succ _) ht),fun T' hT'=>?_⟩
   obtain rfl:T=T':=Option.some.inj hT'
   exact⟨0,u1,u2,u3,tot,.inr (mF _ (.head _)),hGM,l1,l2⟩
  ·exact absurd hi (by simp)
 ·rintro C D0 oC ys m lsc mu h10 gs10 tk10 ⟨x1,b0,b1,bp,Z,Ts,rfl,rfl,hct,N0,N1,rfl,e6,r0,r1⟩ _ hg10 S10 hC
  refine compNone (scope:=sc_told_c1) (e:=.Constant .none 0 ⟨0,0,0,0⟩) (cl:=cl_told_c1 L) S10 hC fun h12 S12=>?_
  refine oEE (two_of e6) ?_;rintro T0' T1' rfl
  have S13:=S12.perm (mu':=(a.d0,b0)::(a.d1,b1)::(220,bp)::((D0,lob [.ref T0',.ref T1'] m)::(Z++F))) (List.perm_middle (l₁:=[(a.d0,b0),(a.d1,b1),(220,bp)])).symm
  have up:∀ b o,R.and (Z++F) b o→R.and ((D0,lob [.ref T0',.ref T1'] m)::(Z++F)) b o:=fun b o k=>k.imp id fun m=>.tail _ m
  exact endM hQ S13 hL hg10 rfl rfl hct ⟨.inl X.M.h0,.inl X.M.h1,⟨nT,.inl hT⟩,⟨_,N0.mono up⟩,⟨_,N1.mono up⟩⟩ ⟨D0,T0',T1',m,rfl,.inr (.head _),(r0 _ rfl).mono up (Nat.le_refl _),(r1 _ rfl).mono up (Nat.le_refl _)⟩
end
theorem rf_all:((List.range 33).all fun t=>t == 0 || (List.range (t / 2+1)).all fun k=>decide (Float64.cmp (ratioF ((k:Nat):Int) ((t:Nat):Int)) (Float64.ofFrac false (2 * k) t)=some .eq))=true:=by decide +kernel
theorem rfEq{t k:Nat}(h1:0 < t)(h2:t≤32)(hk:2 * k≤t):Float64.cmp (ratioF ((k:Nat):Int) ((t:Nat):Int)) (Float64.ofFrac false (2 * k) t)=some .eq:=by
 have h:=List.all_eq_true.mp rf_all t (List.mem_range.mpr (by lia))
 have e:(t == 0)=false:=by simp;lia
 rw [e,Bool.false_or] at h
 have:=List.all_eq_true.mp h k (List.mem_range.mpr (by lia))
 simpa using this
theorem rn_all:((List.range 9).all fun z=>(List.range 17).all fun l=>(List.range l).all fun k=>!(Float64.cmp (ratioF ((k:Nat):Int) ((l+(8+z):Nat):Int)) (Float64.ofFrac false (2 * l) (l+(8+z))) == some .eq) && !(ratioF ((k:Nat):Int) ((l+(8+z):Nat):Int) == Float64.ofFrac false (2 * l) (l+(8+z))))=true:=by decide +kernel
theorem rfNe{l z k:Nat}(h1:8≤z)(h2:z≤16)(h3:l≤16)(h4:k < l):(Float64.cmp (ratioF ((k:Nat):Int) ((l+z:Nat):Int)) (Float64.ofFrac false (2 * l) (l+z)) == some .eq)=false∧ratioF ((k:Nat):Int) ((l+z:Nat):Int)≠Float64.ofFrac false (2 * l) (l+z):=by
 have h:=List.all_eq_true.mp (List.all_eq_true.mp (List.all_eq_true.mp rn_all (z - 8) (List.mem_range.mpr (Nat.sub_lt_right_of_lt_add (by lia) (by lia)))) l (List.mem_range.mpr (by lia))) k (List.mem_range.mpr h4)
 rw [show 8+(z - 8)=z by exact Nat.add_sub_of_le (by lia),Bool.and_eq_true,Bool.not_eq_true',Bool.not_eq_true'] at h
 exact⟨by simpa using h.1,beq_eq_false_iff_ne.mp h.2⟩
theorem rs_all:((List.range 9).all fun z=>(List.range 63).all fun i=>(Float64.cmp (Float64.ofFrac false 2 (1+(i+1))) (ratioF 1 ((1+(8+z):Nat):Int)) == some .eq) == decide (i+1=8+z))=true:=by decide +kernel
theorem rfSz{n i:Nat}(h1:8≤n)(h2:n≤16)(h3:i < 63):(Float64.cmp (Float64.ofFrac false 2 (1+(i+1))) (ratioF 1 ((1+n:Nat):Int)) == some .eq)=decide (i+1=n):=by
 have h:=List.all_eq_true.mp (List.all_eq_true.mp rs_all (n - 8) (List.mem_range.mpr (by lia))) i (List.mem_range.mpr h3)
 rw [show 8+(n - 8)=n by lia] at h
 simpa using h
theorem take_snoc{xs:List Int}{i:Nat}(h:i < xs.length):xs.take (i+1)=xs.take i++[xs.getD i 0]:=by
 rw [List.take_add_one,List.getElem?_eq_getElem h,List.getD_eq_getElem?_getD,List.getElem?_eq_getElem h];rfl
theorem getD_in{xs:List Int}{i:Nat}(h:i < xs.length):xs.getD i 0∈xs:=by
 rw [List.getD_eq_getElem?_getD,List.getElem?_eq_getElem h];exact List.getElem_mem h
theorem its_take(o:List Int)(c:Int→Nat)(i:Nat):(its (o.take i) c).length≤(its o c).length:=by
 have e:=its_app (l:=o.take i) (r:=o.drop i) (c:=c)
 rw [List.take_append_drop] at e
 rw [e,List.length_append];exact Nat.le_add_right ..
noncomputable def DC(w:World)(o:Obj)(ns:List Int)(c:Int→Nat):Prop:=∃ kvs,DI prog w o kvs∧∀ n∈ns,∃ t,valueAt kvs n=some (.int (c n:Nat) t)
theorem DC.sub{w:World}{o:Obj}{ns ns':List Int}{c:Int→Nat}(h:DC w o ns c)(s:∀ n∈ns',n∈ns):DC w o ns' c:=let ⟨k,d,e⟩:=h;⟨k,d,fun n hn=>e n (s n hn)⟩
section
variable{w:World}{A:Around}{E:Value→Shared→Prop}{s s':Shared}{mg mb:Str→Option Value}{g h:Heap}{gs:Array GenState}{dr:Drawn}{tk:Nat}{os:OsState}{nm:List Str}{ls:List (Option Value)}{mu:List (Addr×Obj)}
inductive ItJ1(L:Addr)(dc:Addr)(o:List Int)(c:Int→Nat)(C D:Addr)(i:Nat)(ys:List Value)(ls:List (Option Value))(mu:List (Addr×Obj)):Prop
 | mk (x1 x2) (q0:ls=[x1,x2]) (q1:IntsAre ys (its (o.take i) c)) (q2:mu=[(L+1,cob (some (.ref dc)))]):ItJ1 L dc o c C D i ys ls mu
inductive ItJ2(v:Value)(l:List Int)(x:Int)(k:Nat)(mu0:List (Addr×Obj))(i:Nat)(ys:List Value)(ls:List (Option Value))(mu:List (Addr×Obj)):Prop
 | mk (y) (q0:ls=[some v,y]) (q1:IntsAre ys (l++List.replicate i x)) (q2:mu=mu0) (q3:i≤k):ItJ2 v l x k mu0 i ys ls mu
theorem items_spec{lo dc:Addr}{oi:List Value}{no:Nat}{o:List Int}{od:Obj}{c:Int→Nat}(D:Gd (K w.params) mg mb s.heap)(hA:A.handled=none)(hdep:A.depth+2 < recursionLimit)(hgs:AllBare s.gens)
  (ho:s.heap.get? lo=some (lob oi no)) (hi:IntsAre oi o) (hd:s.heap.get? dc=some od) (hc:DC w od o c) (hz:o.length≤200) (hl:(its o c).length≤200) (hc2:∀ n∈o,c n < 1000) :
  codeAny (model prog w) A (.call (.ref 256) ⟨[.ref lo,.ref dc],[]⟩) (Ret [] s fun v s'=>∃ T items z,v=.ref T∧IntsAre items (its o c)∧Fresh s s' [(T,lob items z)]) s:=by
 refine oEA hc fun kvs DK hk=>?_
 refine enterD [] (fn_items _) D (Nat.le_of_lt (Nat.le_of_lt hdep)) (bi_items _ _ _ _) (fun _ h=>nomatch h) .nil (fun h=>nomatch h) nm_items [none] rfl led_items fun Po hPo L h₁ hL S=>?_
 have Dg:Gd (K w.params) mg mb (hideAll s.heap []):=D.keeps fun b o e=>hideAll_get _ e (fun h=>nomatch h)
 have ho':(hideAll s.heap []).get? lo=some (lob oi no):=hideAll_get _ ho (fun h=>nomatch h)
 have hd':(hideAll s.heap []).get? dc=some od:=hideAll_get _ hd (fun h=>nomatch h)
 refine ba_cons (stE S (ve_items_order L) (nB rfl) fun h2 t2 S2=>ba_cons (stC_ (j:=0) S2 (ce_items_counts L) rfl fun h3 S3=>ba_nil ⟨S3.F.keep,?_⟩))
 replace S3:St (hideAll s.heap []) L h3 nm_items [some (.ref lo)] [(L+1,cob (some (.ref dc)))]:=S3
 refine exc (wpAny_Return_some (lc_ (sf_items_c1 L) (ldE S3 (ve_items_order L) rfl ?_)))
 refine overL S3 hA (lob_list (S3.old ho')) (.inl ⟨_,ho'⟩) fun I h10 own hne S10 hown hS W=>?_
 refine compCoreB (n:=oi.length) (own:=own) nm_items_c1 (ItJ1 L dc o c) W (fun b hb=>?_) (fun b hb=>by rw [hown];exact hb) ?_ (fun C D=>bodyIs0 _ _ _ _ _ _ _ _ _) ?_ ?_ (fun C D0=>⟨none,none,rfl,by simpa [its_nil] using IntsAre.nil,by kernel_rfl⟩) S10 hS hgs
 ·rcases mK hb with rfl | hb
  ·exact .inl (by rw [hown];simp)
  ·rw [mS hb];exact .inr (.inl ⟨_,ho'⟩)
 ·rintro i h' ⟨⟨o,ho,_⟩,_⟩ b hb
  rw [mS hb];exact⟨o,ho⟩
 ·rintro g' C D0 hsub i v ys m ls mu own h11 gs11 tk11 hlt hv ⟨x1,x2,rfl,hI,rfl⟩ hg11 S11 T hT
  have hio:i < o.length:=by rw [← hi.length];exact hlt
  obtain⟨tv,ev⟩:=intAt hi hio
  rw [ev] at hv
  obtain rfl:=Option.some.inj hv
  have hmem:=getD_in hio
  obtain⟨tc,hkv⟩:=hk _ hmem
  have hcn:=hc2 _ hmem
  have D11:=Dg.keeps hsub
  refine assign_Name (stE S11 (ve_items_c1_number L C) (nB rfl) fun h12 t12 S12=>?_)
  refine body0_ (Call_ (lbE S12 D11 (ge_items_c1_range L C) (bn_range _) (cT1 (arg_ (Subscript_ (ldC_ (j:=1) S12 (ce_items_c1_counts L C) rfl (ldE S12 (ve_items_c1_number L C) rfl (itemD (DK.of (S12.old (hsub _ _ hd'))) hkv fun t13=>arg0 (rng1 S12 fun h17 r17 a17 b17 t17 S17 hr17=>?_)))))))))
  refine compInner (n:=c (o.getD i 0)) (ItJ2 (.int (o.getD i 0) tv) (its (o.take i) c) (o.getD i 0) (c (o.getD i 0)) ([(L+1,cob (some (.ref dc)))]++own)) S17 hA hg11 hr17 hcn ?_ ?_ ?_ ⟨x2,rfl,by simpa using hI,rfl,Nat.zero_le _⟩
  ·rintro j zs ls2 mu2 ⟨y,rfl,hJ,rfl,hj⟩
   have e1:=hJ.length
   have e2:=its_take o c i
   rw [List.length_append,List.length_replicate] at e1
   lia
  ·rintro j k18 zs m2 ls2 mu2 own2 h18 gs18 tk18 hj ⟨y,rfl,hJ,rfl,hj2⟩ hg18 S18 T2 hT2
   refine assign_Name (stE S18 (ve_items_c1_turn L C) (nB rfl) fun h19 t19 S19=>?_)
   refine ldE S19 (ve_items_c1_number L C) rfl (hT2 _ _ ⟨_,_,h19,gs18,_,rfl,hg18,S19,_,rfl,?_,rfl,hj⟩)
   rw [List.replicate_succ',← List.append_assoc]
   exact ints_snoc hJ
  ·rintro zs m2 ls2 mu2 h18 gs18 tk18 ⟨y,rfl,hJ,rfl,hj2⟩ hg18 S18
   refine hT zs m2 _ ⟨_,_,h18,gs18,tk18,rfl,hg18,S18,_,_,rfl,?_,rfl⟩
   rw [take_snoc hio,its_app]
   show IntsAre zs (_++its [o.getD i 0] c)
   rw [its_cons,its_nil,List.append_nil]
   exact hJ
 ·rintro C D0 oC ys m lsc mu h11 gs11 tk11 ⟨x1,x2,rfl,hI,rfl⟩ hg11 S11 hC
  refine compNone (scope:=sc_items_c1) (e:=.Constant .none 0 ⟨0,0,0,0⟩) (cl:=cl_items_c1 L) S11 hC fun h12 S12=>?_
  rw [hi.length,List.take_length] at hI
  have S14:=S12.drop (mu':=[(D0,lob ys m)]) (List.singleton_sublist.mpr (.head _))
  exact endP hPo S14 hL (fun _=>hg11) rfl rfl ⟨_,_,_,rfl,hI,St.fresh (mu:=[]) S14 rfl rfl⟩
end
noncomputable def FE(h:Heap)(x y:UInt64)(a b:Tok)(k:Bool):Prop:=(Float64.cmp x y == some .eq)=k∧(k=true→NoneBooked h)∧(k=false→x≠y∧a≠b)
theorem FE.at{A:Around}{s:Shared}{x y:UInt64}{a b:Tok}{k:Bool}(f:FE s.heap x y a b k):SeqAt.EqAt A s (.float x (a+1)) (.float y (b+1)) k:=eqAt_float f.1 f.2.1 f.2.2
section
variable{w:World}{A:Around}{E:Value→Shared→Prop}{h:Heap}{gs:Array GenState}{dr:Drawn}{tk:Nat}{os:OsState}{prog:Program}
theorem row3{l1 l2:Addr}{n1 n2:Nat}{x1 x2 x3 y1 y2 y3:UInt64}{a1 a2 a3 b1 b2 b3:Tok}{k1 k2 k3:Bool}(h1:h.get? l1=some (lob [.float x1 (a1+1),.float x2 (a2+1),.float x3 (a3+1)] n1))(h2:h.get? l2=some (lob [.float y1 (b1+1),.float y2 (b2+1),.float y3 (b3+1)] n2))(hne:l1≠l2)(hu:A.units < cLine)
  (f1:FE h x1 y1 a1 b1 k1) (f2:FE h x2 y2 a2 b2 k2) (f3:FE h x3 y3 a3 b3 k3):SeqAt.EqAt A ⟨h,gs,dr,tk,os⟩ (.ref l1) (.ref l2) (k1 && k2 && k3):=by
 refine SeqAt.EqAt.of_refs hne ?_
 have:=SeqAt.RcAt.lists (s:=⟨h,gs,dr,tk,os⟩) (A:=A) (e:=fun j=>[k1,k2,k3].getD j false) (lob_list h1) (lob_list h2) rfl hu fun j hj1 hj2=>by
  have hj:j < 3:=by simpa using hj1
  rcases j with _ | _ | _ | j
  ·exact f1.at
  ·exact f2.at
  ·exact f3.at
  ·exact absurd hj (Nat.not_lt.mpr (Nat.le_add_left 3 j))
 have e:((List.range 3).all fun j=>[k1,k2,k3].getD j false)=(k1 && k2 && k3):=by cases k1<;>cases k2<;>cases k3<;>rfl
 rw [← e];exact this
theorem tabs{T0 T1 U l1 l2:Addr}{n1 n2:Nat}{k0 k1:Bool}(h1:h.get? l1=some (lob [.ref T0,.ref T1] n1))(h2:h.get? l2=some (lob [.ref U,.ref U] n2))(hu:A.units < cLine)
  (f0:SeqAt.EqAt A.in1 ⟨h,gs,dr,tk,os⟩ (.ref T0) (.ref U) k0) (f1:SeqAt.EqAt A.in1 ⟨h,gs,dr,tk,os⟩ (.ref T1) (.ref U) k1) :
  (∀ {Q:Value→Shared→Prop},Q (.bool (k0 && k1)) ⟨h,gs,dr,tk,os⟩→wpAny (model prog w) A (compareOp .Eq (.ref l1) (.ref l2)) Q E ⟨h,gs,dr,tk,os⟩)∧∀ {Q:Value→Shared→Prop},Q (.bool (!(k0 && k1))) ⟨h,gs,dr,tk,os⟩→wpAny (model prog w) A (compareOp .NotEq (.ref l1) (.ref l2)) Q E ⟨h,gs,dr,tk,os⟩:=by
 have el:∀ (j:Nat) (h1:j < [Value.ref T0,.ref T1].toArray.size) (h2:j < [Value.ref U,.ref U].toArray.size),SeqAt.EqAt A.in1 ⟨h,gs,dr,tk,os⟩ [Value.ref T0,.ref T1].toArray[j] [Value.ref U,.ref U].toArray[j] ([k0,k1].getD j false):=fun j hj1 hj2=>by
  have hj:j < 2:=by simpa using hj1
  rcases j with _ | _ | j
  ·exact f0
  ·exact f1
  ·exact absurd hj (Nat.not_lt.mpr (Nat.le_add_left 2 j))
 have e:((List.range 2).all fun j=>[k0,k1].getD j false)=(k0 && k1):=by cases k0<;>cases k1<;>rfl
 refine⟨fun {Q} q=>?_,fun {Q} q=>?_⟩
 ·rw [← e] at q
  exact SeqAt.RcAt.lists (s:=⟨h,gs,dr,tk,os⟩) (e:=fun j=>[k0,k1].getD j false) (lob_list h1) (lob_list h2) rfl hu el prog w E Q q
 ·rw [← e] at q
  exact SeqAt.RcNeAt.lists (s:=⟨h,gs,dr,tk,os⟩) (e:=fun j=>[k0,k1].getD j false) (lob_list h1) (lob_list h2) rfl hu el prog w E Q q
theorem St.know{g:Heap}{L:Addr}{nm:List Str}{ls:List (Option Value)}{mu Y:List (Addr×Obj)}{R:Rel}{b:Addr}{o:Obj}(S:St g L h nm ls mu)(hR:∀ b o,R b o→g.get? b=some o)(hY:∀ p∈Y,p∈mu)(e:R.and Y b o):h.get? b=some o :=
 e.elim (fun e=>S.F.keep _ _ (hR _ _ e)) fun m=>(S.N _ (hY _ m)).1
theorem St.off{g:Heap}{L U:Addr}{oU:Obj}{nm:List Str}{ls:List (Option Value)}{mu Y:List (Addr×Obj)}{R:Rel}{b:Addr}{o:Obj}(S:St g L h nm ls mu)(hU:(U,oU)∈mu)(hR:∀ b o,R b o→g.get? b=some o)(hY:∀ p∈Y,p∈mu∧p.1≠U)(e:R.and Y b o):b≠U:=fun z=>by
 rcases e with e | m
 ·have:=(S.N _ hU).2.2
  rw [← z,hR _ _ e] at this;cases this
 ·exact(hY _ m).2 z
theorem row_cmp{Rl:Rel}{xs ys:List Int}{T U:Addr}{n u1 u2 u3 nU l z k k' mn:Nat}(X:(K w.params).In h)(r:Row Rl xs ys T n)(hg:∀ b o,Rl b o→h.get? b=some o∧b≠U)(hU:h.get? U=some (lob [.float (Float64.ofFrac false (2 * k') (l+z)) (u1+1),.float (Float64.ofFrac false (2 * k') (l+z)) (u2+1),.float (Float64.ofFrac false (2 * mn) (l+z)) (u3+1)] nU))(hu:A.units < cLine)
  (htot:∀ tot,GML xs ys tot→tot=k) (hq:qm xs (fun k=>cnt k ys)=k) (ht:xs.length+ys.length=l+z) (hmn:min xs.length ys.length=mn) (h8:8≤z) (h16:z≤16) (hl:l≤16) (hk:2 * k≤l+z) (hm2:2 * mn≤l+z) (hkk:k=k'∨(k'=l∧k < l∧n≤u1∧n≤u2)) :
  SeqAt.EqAt A ⟨h,gs,dr,tk,os⟩ (.ref T) (.ref U) (decide (k=k')):=by
 obtain⟨m,t1,t2,t3,tot,rT,gT,l1,l2⟩:=r
 have et:=htot tot gT
 subst et
 obtain⟨hT,hne⟩:=hg _ _ rT
 have hb:=booked_none X
 have e1:((xs.length:Int)+(ys.length:Int))=((l+z:Nat):Int):=by exact congrArg Nat.cast (by lia)
 have e2:(min (xs.length:Int) (ys.length:Int))=((mn:Nat):Int):=(cmin _ _).trans (congrArg Nat.cast hmn)
 unfold toldL at hT
 rw [e1,e2,hq] at hT
 have f3:FE h (ratioF ((mn:Nat):Int) ((l+z:Nat):Int)) (Float64.ofFrac false (2 * mn) (l+z)) t3 u3 true:=⟨by rw [rfEq (by lia) (by lia) hm2];rfl,fun _=>hb,fun z=>nomatch z⟩
 rcases hkk with rfl | ⟨rfl,c1,c2,c3⟩
 ·have f:∀ a b,FE h (ratioF ((tot:Nat):Int) ((l+z:Nat):Int)) (Float64.ofFrac false (2 * tot) (l+z)) a b true:=fun a b=>⟨by rw [rfEq (by lia) (by lia) hk];rfl,fun _=>hb,fun z=>nomatch z⟩
  have:=row3 (gs:=gs) (dr:=dr) (tk:=tk) (os:=os) hT hU hne hu (f _ _) (f _ _) f3
  simpa using this
 ·have q:=rfNe h8 h16 hl c1
  have f:∀ a b,a≠b→FE h (ratioF ((tot:Nat):Int) ((k'+z:Nat):Int)) (Float64.ofFrac false (2 * k') (k'+z)) a b false:=fun a b hab=>⟨q.1,fun z=>(nomatch z),fun _=>⟨q.2,hab⟩⟩
  have:=row3 (gs:=gs) (dr:=dr) (tk:=tk) (os:=os) hT hU hne hu (f t1 u1 (by lia)) (f t2 u2 (by lia)) f3
  rw [decide_eq_false (by lia)]
  simpa using this
end
theorem fr2{α:Type}{u v a b c:α}{Z:List α}:(u::v::a::b::c::Z).Perm (a::b::c::u::v::Z) :=
 (pmU (pmU (.refl _))).trans (.cons _ ((pmU (pmU (.refl _))).trans (.cons _ (pmU (pmU (.refl _))))))
theorem ints_rep(x:Int)(t:Tok)(k:Nat):IntsAre (List.replicate k (.int x t)) (List.replicate k x):=by
 induction k with
 | zero=>exact .nil
 | succ k ih=>exact .cons _ _ ih
noncomputable abbrev fl(n t:Nat):UInt64:=Float64.ofFrac false (2 * n) t
section
variable{w:World}{A:Around}{E:Value→Shared→Prop}{s s':Shared}{mg mb:Str→Option Value}{G g h:Heap}{gs:Array GenState}{dr:Drawn}{tk:Nat}{os:OsState}{L C:Addr}{nm:List Str}{ls:List (Option Value)}{mu Z:List (Addr×Obj)}{a:Ma}{R:Rel}{od0 od1 op:Obj}
inductive CoJ(w:World)(s:Shared)(a:Ma)(R:Rel)(L:Addr)(x:Int)(tx ts:Tok)(n:Nat)(s':Shared):Prop
 | mk (c h' gs' tk' tc x4 x5 x6 od0 od1 op Z) (q0:s'=⟨h',gs',s.drawn,tk',s.os⟩) (q1:AllBare gs') (q2:St (hideAll s.heap a.W) L h' nm_count [some (.ref a.t),some (.int x tx),some (.int (a.H.length:Nat) ts),some (.int (c:Nat) tc),x4,x5,x6] ((a.d0,od0)::(a.d1,od1)::(220,op)::Z)) (q3:CodeTab op) (q4:MM w (R.and Z) a od0 od1) (q5:c≤a.H.count x) (q6:n=a.H.length - c):CoJ w s a R L x tx ts n s'
theorem count_spec{x:Int}{tx ts:Tok}{pre post:List Int}(X:Pre w mg mb G A a R s 16 od0 od1 op)(hH:a.H=pre++List.replicate (a.H.count x) x++post) :
  codeAny (model prog w) A (.call (.ref 263) ⟨[.ref a.t,.int x tx,.int (a.H.length:Nat) ts],[]⟩) (Ret a.W s (Po w a R s fun _ v _=>∃ t,v=.int (a.H.count x:Nat) t)) s:=by
 refine enterM X (by decide) (fn_count _) (bi_count _ _ _ _ _) nm_count [none,none,none,none,none,none,none] rfl led_count fun Q hQ L h₁ hL D hRg S=>?_
 refine ba_cons (stE S (ve_count_matchers L) (nB rfl) fun h2 t2 S2=>ba_cons (stE S2 (ve_count_number L) (nB rfl) fun h3 t3 S3=>ba_cons (stE S3 (ve_count_size L) (nB rfl) fun h4 t4 S4=>ba_nil ⟨S4.F.keep,?_⟩)))
 refine exc (asgE (cInt fun k5 t5=>stE S4 (ve_count_count L) (nB rfl) fun h6 t6 S6=>?_))
 have hA:=X.hA
 have hdep:=X.dep
 have hu:=X.u
 have z1:=X.z1
 have z2:=X.z2
 have hcl:a.H.count x≤a.H.length:=List.count_le_length
 refine exc (while_ (CoJ w s a R L x tx ts) ?_ a.H.length ⟨0,_,_,_,k5,none,none,none,_,_,_,[],rfl,X.gs,S6,X.ct,X.M.mono fun _ _ e=>.inl e,Nat.zero_le _,rfl⟩)
 rintro n _ ⟨c,h7,gs7,t7,tc,x4,x5,x6,b0,b1,bp,Z,rfl,hg7,S7,hct,M7,hc,rfl⟩
 refine wC (ldE S7 (ve_count_count L) rfl (ldE S7 (ve_count_size L) rfl (ltN (wT ?_))))
 by_cases hlt:¬ c < a.H.length
 ·rw [if_neg (by simpa using hlt)]
  refine exc (wpAny_Return_some (ldE S7 (ve_count_count L) rfl ?_))
  exact endM hQ S7 hL hg7 rfl rfl hct M7 ⟨tc,by rw [show c=a.H.count x by lia]⟩
 have hlt:=Decidable.not_not.mp hlt
 rw [if_pos (by simpa using hlt)]
 refine wpQ fun Q0 hz0=>?_
 refine exc (wpQ fun Q1 hz1=>asgE (cG S7 D (ge_count__law_told L) (gn_told _) (fn_told _) (arg_ (ldE S7 (ve_count_matchers L) rfl (arg_ (wpAny_BinOp (List_ (arg_ (ldE S7 (ve_count_number L) rfl (arg0 (newL S7 (by simp) fun h8 S8=>wpAny_BinOp (ldE S8 (ve_count_count L) rfl (cInt fun k9 t9=>addN (b:=1) fun k10 t10=>rep1 S8 (S8.get (j:=0) rfl) (Nat.lt_of_lt_of_le ‹_› (by lia)) fun h11 S11=>arg0 ⟨D.k.keeps S11.F.keep,?_⟩)))))))))))))
 generalize hG1:h8.objs.size=G1 at S11 ⊢
 have S12:=S11.perm fr2
 have hLI:LI (R.and ((G1,lob (List.replicate (c+1) (.int x tx)) 0)::(h7.objs.size,lob [.int x tx] 0)::Z)) G1 (List.replicate (c+1) x):=⟨_,_,.inr (.head _),ints_rep _ _ _⟩
 refine callMa (k:=12) (mu:=(G1,lob (List.replicate (c+1) (.int x tx)) 0)::(h7.objs.size,lob [.int x tx] 0)::Z) S12 D hRg (fun p h=>h) hA (by show A.depth+1+12 < _;lia) (by show A.units+3+3 * 12 < _;lia) hg7 hct (M7.mono fun b o e=>e.imp id fun m=>.tail _ (.tail _ m)) z1 z2 (fun X'=>told_spec X' hLI (by simp;lia)) ?_ TV.mono
 intro v h13 gs13 t13 b0' b1' bp' new hg13 hct13 S13 M13 hv
 obtain⟨T,T0,T1,m,rfl,rT,r0,r1⟩:=hv
 generalize hY:new++((G1,lob (List.replicate (c+1) (.int x tx)) 0)::(h7.objs.size,lob [.int x tx] 0)::Z)=Y at S13 M13 rT r0 r1
 refine stE' S13 (ve_count_told L) (nB rfl) fun h14 S14=>hz1 _ _ ?_
 replace S14:St (hideAll s.heap a.W) L h14 nm_count [some (.ref a.t),some (.int x tx),some (.int (a.H.length:Nat) ts),some (.int (c:Nat) tc),some (.ref T),x5,x6] ((a.d0,b0')::(a.d1,b1')::(220,bp')::Y):=S14
 refine exc (wpQ fun Q2 hz2=>asgE (wpAny_BinOp (wpAny_with_toks (n:=t13+1) (Nat.le_refl _) (wpAny_BinOp (cInt fun k15 t15=>wpAny_BinOp (ldE S14 (ve_count_count L) rfl (cInt fun k16 t16=>addN (b:=1) fun k17 t17=>mulN1 (a:=2) (b:=c+1) (by decide) fun k18 t18 l18=>?_)))))))
 refine wpAny_with_toks (n:=t13+1) l18 (wpAny_BinOp (wpAny_BinOp (ldE S14 (ve_count_count L) rfl (cInt fun k19 t19=>addN (b:=1) fun k20 t20=>ldE S14 (ve_count_size L) rfl (addN' (a:=c+1) (b:=a.H.length) fun k21 t21 l21=>?_)))))
 refine divN1_ (a:=2 * (c+1)) (b:=c+1+a.H.length) hA (by lia) (by lia) fun t22=>stE S14 (ve_count_full L) (nB rfl) fun h23 t23 S23=>hz2 _ _ ?_
 have hl21:t13+1≤t21+1:=l21
 replace S23:St (hideAll s.heap a.W) L h23 nm_count [some (.ref a.t),some (.int x tx),some (.int (a.H.length:Nat) ts),some (.int (c:Nat) tc),some (.ref T),some (.float (fl (c+1) (c+1+a.H.length)) (t21+1)),x6] ((a.d0,b0')::(a.d1,b1')::(220,bp')::Y):=S23
 have mn:min (c+1) (a.H.count x)=if c+1≤a.H.count x then c+1 else c:=by split<;>lia
 have tot0:∀ tot,GML (List.replicate (c+1) x) a.H tot→tot=min (c+1) (a.H.count x):=fun tot h=>(rep_tot hH rfl).1 h
 have tot1:∀ tot,GML a.H (List.replicate (c+1) x) tot→tot=min (c+1) (a.H.count x):=fun tot h=>(rep_tot hH rfl).2 h
 have lr:(List.replicate (c+1) x).length=c+1:=List.length_replicate
 have cmp:∀ {h':Heap} {gs':Array GenState} {t':Nat} {U O:Addr} {k':Nat} {u1 u2 u3:Tok} {x6:Option Value} {mu2:List (Addr×Obj)},St (hideAll s.heap a.W) L h' nm_count [some (.ref a.t),some (.int x tx),some (.int (a.H.length:Nat) ts),some (.int (c:Nat) tc),some (.ref T),some (.float (fl (c+1) (c+1+a.H.length)) (t21+1)),x6] ((O,lob [.ref U,.ref U] 0)::(mu2++((U,lob [.float (fl k' (c+1+a.H.length)) (u1+1),.float (fl k' (c+1+a.H.length)) (u2+1),.float (fl (c+1) (c+1+a.H.length)) (u3+1)] 0)::(a.d0,b0')::(a.d1,b1')::(220,bp')::Y))) →
   (min (c+1) (a.H.count x)=k'∨(k'=c+1∧min (c+1) (a.H.count x) < c+1∧t13≤u1∧t13≤u2)) →
   SeqAt.EqAt (A.deeper (e_count L)).in1 ⟨h',gs',s.drawn,t',s.os⟩ (.ref T0) (.ref U) (decide (min (c+1) (a.H.count x)=k'))∧SeqAt.EqAt (A.deeper (e_count L)).in1 ⟨h',gs',s.drawn,t',s.os⟩ (.ref T1) (.ref U) (decide (min (c+1) (a.H.count x)=k'))∧h'.get? T=some (lob [.ref T0,.ref T1] m)∧h'.get? O=some (lob [.ref U,.ref U] 0):=by
  intro h' gs' t' U O k' u1 u2 u3 x6 mu2 S hk
  have inY:∀ p∈Y,p∈(O,lob [.ref U,.ref U] 0)::(mu2++((U,lob [.float (fl k' (c+1+a.H.length)) (u1+1),.float (fl k' (c+1+a.H.length)) (u2+1),.float (fl (c+1) (c+1+a.H.length)) (u3+1)] 0)::(a.d0,b0')::(a.d1,b1')::(220,bp')::Y)):=fun p hp=>.tail _ (mR _ (.tail _ (.tail _ (.tail _ (.tail _ hp)))))
  have hU:=S.N _ (.tail _ (mR _ (.head _)))
  have nd:=S.nd
  have hne:∀ p∈Y,p.1≠U:=fun p hp z=>by
   have nd2:=(List.nodup_cons.mp nd).2
   rw [List.map_append] at nd2
   have nd3:=(List.nodup_cons.mp (List.nodup_append.mp nd2).2.1).1
   exact nd3 (List.mem_map.mpr ⟨p,.tail _ (.tail _ (.tail _ hp)),z⟩)
  have hg:∀ b o,R.and Y b o→h'.get? b=some o∧b≠U:=fun b o e=>⟨S.know hRg inY e,S.off (.tail _ (mR _ (.head _))) hRg (fun p hp=>⟨inY p hp,hne p hp⟩) e⟩
  refine⟨?_,?_,S.know hRg inY rT,(S.N _ (.head _)).1⟩
  ·exact row_cmp (D.k.keeps S.F.keep) r0 hg hU.1 (by show A.units+3+1 < _;lia) tot0 (qm_rep _ _ _).1 (by rw [lr]) (by rw [lr];lia) z1 z2 (ntr hlt z2) (by lia) (by lia) hk
  ·exact row_cmp (D.k.keeps S.F.keep) r1 hg hU.1 (by show A.units+3+1 < _;lia) tot1 (qm_rep _ _ _).2 (by rw [lr];lia) (by rw [lr];exact Nat.min_eq_right (by lia)) z1 z2 (by lia) (by lia) (by lia) hk
 refine exc (wpQ fun Q3 hz3=>wpAny_If (wC (ldE S23 (ve_count_told L) rfl (wpAny_BinOp (List_ (arg_ (List_ (arg_ (ldE S23 (ve_count_full L) rfl (arg_ (ldE S23 (ve_count_full L) rfl (arg_ (ldE S23 (ve_count_full L) rfl (arg0 (newL S23 (by simp) fun h24 S24=>arg0 (newL S24 (by simp) fun h25 S25=>cInt fun k26 t26=>rep1 (k:=2) S25 (S25.get (j:=0) rfl) (by decide) fun h27 S27=>?_))))))))))))))))
 generalize hU1:h23.objs.size=U at S24 S25 S27 ⊢
 have S28:St (hideAll s.heap a.W) L h27 nm_count _ ((h25.objs.size,lob [.ref U,.ref U] 0)::([(h24.objs.size,lob [.ref U] 0)]++((U,lob [.float (fl (c+1) (c+1+a.H.length)) (t21+1),.float (fl (c+1) (c+1+a.H.length)) (t21+1),.float (fl (c+1) (c+1+a.H.length)) (t21+1)] 0)::(a.d0,b0')::(a.d1,b1')::(220,bp')::Y))):=S27
 by_cases hm:c+1≤a.H.count x
 ·rw [if_pos hm] at mn
  refine oAAA (cmp (gs':=gs13) (t':=t26) S28 (.inl mn)) fun q0 q1 hT hO=>?_
  rw [decide_eq_true mn] at q0 q1
  refine(tabs hT hO (by show A.units+3 < _;lia) q0 q1).2 (wT ?_)
  rw [if_neg (by decide)]
  refine exn (hz3 _ _ ?_)
  have S29:=S28.drop ((((List.Sublist.refl ((a.d0,b0')::(a.d1,b1')::(220,bp')::Y)).cons (U,_)).cons (h24.objs.size,_)).cons (h25.objs.size,_))
  refine exc (augE S29 (ve_count_count L) rfl (cInt fun k30 t30=>iaddN (b:=1) fun k31 t31=>stE S29 (ve_count_count L) (nB rfl) fun h32 t32 S32=>?_))
  exact exn (hz0 _ _ ⟨a.H.length - (c+1),by exact Nat.sub_lt_sub_left (by lia) (by lia),c+1,h32,gs13,_,k31,_,_,_,_,_,_,Y,rfl,hg13,S32,hct13,M13,hm,rfl⟩)
 ·rw [if_neg hm] at mn
  have hcc:a.H.count x=c:=by lia
  refine oAAA (cmp (gs':=gs13) (t':=t26) S28 (.inr ⟨rfl,by lia,by lia,by lia⟩)) fun q0 q1 hT hO=>?_
  rw [decide_eq_false (by lia)] at q0 q1
  refine(tabs hT hO (by show A.units+3 < _;lia) q0 q1).2 (wT ?_)
  rw [if_pos (by decide)]
  have S29:=S28.drop ((((List.Sublist.refl ((a.d0,b0')::(a.d1,b1')::(220,bp')::Y)).cons (U,_)).cons (h24.objs.size,_)).cons (h25.objs.size,_))
  refine exc (wpQ fun Q4 hz4=>asgE (wpAny_BinOp (wpAny_BinOp (cInt fun k30 t30=>ldE S29 (ve_count_count L) rfl (mulN (a:=2) (b:=c) (by decide) fun k31 t31=>wpAny_BinOp (wpAny_BinOp (ldE S29 (ve_count_count L) rfl (cInt fun k32 t32=>addN (b:=1) fun k33 t33=>ldE S29 (ve_count_size L) rfl (addN' (a:=c+1) (b:=a.H.length) fun k34 t34=>divN1_ (a:=2 * c) (b:=c+1+a.H.length) hA (by lia) (by lia) fun t35=>stE S29 (ve_count_less L) (nB rfl) fun h36 t36 S36=>hz4 _ _ ?_)))))))))
  replace S36:St (hideAll s.heap a.W) L h36 nm_count [some (.ref a.t),some (.int x tx),some (.int (a.H.length:Nat) ts),some (.int (c:Nat) tc),some (.ref T),some (.float (fl (c+1) (c+1+a.H.length)) (t21+1)),some (.float (fl c (c+1+a.H.length)) (t34+1))] ((a.d0,b0')::(a.d1,b1')::(220,bp')::Y):=S36
  refine exc (wpQ fun Q5 hz5=>wpAny_Return_some (IfExp_ (wC (ldE S36 (ve_count_told L) rfl (wpAny_BinOp (List_ (arg_ (List_ (arg_ (ldE S36 (ve_count_less L) rfl (arg_ (ldE S36 (ve_count_less L) rfl (arg_ (ldE S36 (ve_count_full L) rfl (arg0 (newL S36 (by simp) fun h37 S37=>arg0 (newL S37 (by simp) fun h38 S38=>cInt fun k39 t39=>rep1 (k:=2) S38 (S38.get (j:=0) rfl) (by decide) fun h40 S40=>?_)))))))))))))))))
  generalize hU2:h36.objs.size=U2 at S37 S38 S40 ⊢
  have S41:St (hideAll s.heap a.W) L h40 nm_count _ ((h38.objs.size,lob [.ref U2,.ref U2] 0)::([(h37.objs.size,lob [.ref U2] 0)]++((U2,lob [.float (fl c (c+1+a.H.length)) (t34+1),.float (fl c (c+1+a.H.length)) (t34+1),.float (fl (c+1) (c+1+a.H.length)) (t21+1)] 0)::(a.d0,b0')::(a.d1,b1')::(220,bp')::Y))):=S40
  refine oAAA (cmp (gs':=gs13) (t':=t39) S41 (.inl mn)) fun q0 q1 hT hO=>?_
  rw [decide_eq_true mn] at q0 q1
  refine(tabs hT hO (by show A.units+3 < _;lia) q0 q1).1 (wT ?_)
  rw [if_pos (by decide)]
  have S42:=S41.drop ((((List.Sublist.refl ((a.d0,b0')::(a.d1,b1')::(220,bp')::Y)).cons (U2,_)).cons (h37.objs.size,_)).cons (h38.objs.size,_))
  refine ldE S42 (ve_count_count L) rfl ?_
  exact hz5 _ _ (hz3 _ _ (hz0 _ _ (endM hQ S42 hL hg13 rfl rfl hct13 M13 ⟨tc,by rw [hcc]⟩)))
end
theorem ints_take{vs:List Value}{xs:List Int}(h:IntsAre vs xs):∀ n,IntsAre (vs.take n) (xs.take n):=by
 induction h with
 | nil=>intro n;rw [List.take_nil,List.take_nil];exact .nil
 | cons a t _ ih=>intro n;cases n with
  | zero=>exact .nil
  | succ n=>exact .cons _ _ (ih n)
theorem ints_drop{vs:List Value}{xs:List Int}(h:IntsAre vs xs):∀ n,IntsAre (vs.drop n) (xs.drop n):=by
 induction h with
 | nil=>intro n;rw [List.drop_nil,List.drop_nil];exact .nil
 | cons a t h ih=>intro n;cases n with
  | zero=>exact .cons _ _ h
  | succ n=>exact ih n
theorem ints_ins{vs:List Value}{xs:List Int}(h:IntsAre vs xs)(n:Nat)(x:Int)(t:Tok):IntsAre (vs.take n++[.int x t]++vs.drop n) (ins xs n x):=by
 rw [List.append_assoc]
 exact(ints_take h n).append (.cons _ _ (ints_drop h n))
section
variable{w:World}{A:Around}{E:Value→Shared→Prop}{s s':Shared}{mg mb:Str→Option Value}{G g h:Heap}{gs:Array GenState}{dr:Drawn}{tk:Nat}{os:OsState}{L C:Addr}{nm:List Str}{ls:List (Option Value)}{mu Z:List (Addr×Obj)}{a:Ma}{R:Rel}{od0 od1 op:Obj}
theorem callItems{lo dc:Addr}{oi:List Value}{no:Nat}{o:List Int}{od:Obj}{c:Int→Nat}{Q:Value→Shared→Prop}(S:St g L h nm ls mu)(D:Gd (K w.params) mg mb g)(hA:A.handled=none)(hdep:A.depth+2 < recursionLimit)(hgs:AllBare gs)
  (ho:h.get? lo=some (lob oi no)) (hi:IntsAre oi o) (hd:h.get? dc=some od) (hc:DC w od o c) (hz:o.length≤200) (hl:(its o c).length≤200) (hc2:∀ n∈o,c n < 1000)
  (q:∀ h' gs' tk' G gi z,AllBare gs'→IntsAre gi (its o c)→St g L h' nm ls ((G,lob gi z)::mu)→Q (.ref G) ⟨h',gs',dr,tk',os⟩):wpAny (model prog w) A (call (.ref 256) [.ref lo,.ref dc]) Q E ⟨h,gs,dr,tk,os⟩:=by
 refine callS (items_spec (D.keeps S.F.keep) hA hdep hgs ho hi hd hc hz hl hc2) fun v h' gs' tk' M hv=>?_
 refine oEEEAA hv ?_;rintro G gi z rfl hgi F
 exact q h' gs' tk' G gi z (M.gens hgs) hgi ((St.grow (s:=⟨h,gs,dr,tk,os⟩) S (S.call0 (s:=⟨h,gs,dr,tk,os⟩) (s':=⟨h',gs',dr,tk',os⟩) M) rfl (fun p hp=>⟨F.here p hp,F.not p hp⟩) F.nd).perm List.perm_append_comm)
noncomputable def Pl(k0 i:Nat)(items:List Value):Prop:=(i≤k0∧items=[])∨(k0 < i∧∃ t,items=[.int (k0:Nat) t])
theorem Pl.skip{k0 i:Nat}{items:List Value}(h:Pl k0 i items)(hn:i≠k0):Pl k0 (i+1) items:=h.imp (fun q=>⟨by lia,q.2⟩) fun q=>⟨by lia,q.2⟩
theorem Pl.hit{k0:Nat}{items:List Value}{t:Tok}(h:Pl k0 k0 items):Pl k0 (k0+1) (items++[.int (k0:Nat) t]):=by
 rcases h with⟨_,rfl⟩ | ⟨q,_⟩
 ·exact .inr ⟨Nat.lt_succ_self _,t,rfl⟩
 ·exact absurd q (Nat.lt_irrefl _)
theorem Pl.len{k0 i:Nat}{items:List Value}(h:Pl k0 i items):items.length≤1:=by
 rcases h with⟨_,rfl⟩ | ⟨_,_,rfl⟩
 ·exact Nat.zero_le _
 ·exact Nat.le_refl _
inductive PV(k0:Nat)(Rl:Rel)(v:Value)(n:Nat):Prop
 | mk (P P0 P1 n0 n1 n2 t0 t1) (e:v=.ref P) (r:Rl P (lob [.ref P0,.ref P1] n0)) (r0:Rl P0 (lob [.int (k0:Nat) t0] n1)) (r1:Rl P1 (lob [.int (k0:Nat) t1] n2)):PV k0 Rl v n
theorem PV.mono{k0:Nat}{R R':Rel}{v:Value}{n:Nat}(m:∀ b o,R b o→R' b o)(h:PV k0 R v n):PV k0 R' v n :=
 let ⟨P,P0,P1,n0,n1,n2,t0,t1,e,r,r0,r1⟩:=h;⟨P,P0,P1,n0,n1,n2,t0,t1,e,m _ _ r,m _ _ r0,m _ _ r1⟩
theorem ne2{l1 l2:Addr}{n1 n2:Nat}{x1 x2 y1 y2:UInt64}{a1 a2 b1 b2:Tok}{Q:Value→Shared→Prop}(h1:h.get? l1=some (lob [.float x1 (a1+1),.float x2 (a2+1)] n1))(h2:h.get? l2=some (lob [.float y1 (b1+1),.float y2 (b2+1)] n2))(hu:A.units < cLine)
  (f1:FE h x1 y1 a1 b1 true) (f2:FE h x2 y2 a2 b2 true) (q:Q (.bool false) ⟨h,gs,dr,tk,os⟩):wpAny (model prog w) A (compareOp .NotEq (.ref l1) (.ref l2)) Q E ⟨h,gs,dr,tk,os⟩:=by
 refine SeqAt.RcNeAt.lists (s:=⟨h,gs,dr,tk,os⟩) (e:=fun _=>true) (lob_list h1) (lob_list h2) rfl hu (fun j hj1 hj2=>?_) prog w E Q q
 have hj:j < 2:=by simpa using hj1
 match j,hj with
 | 0,_=>exact f1.at
 | 1,_=>exact f2.at
inductive PlJ(w:World)(a:Ma)(R:Rel)(lo dc P P0 P1:Addr)(x:Int)(tx ts:Tok)(k0:Nat)(i:Nat)(ls:List (Option Value))(mu:List (Addr×Obj)):Prop
 | mk (xk xg xf xt xs od0 od1 op i0 n0 i1 n1 Z) (e0:ls=[some (.ref a.t),some (.ref lo),some (.int x tx),some (.ref dc),some (.int (a.H.length:Nat) ts),some (.ref P),xk,xg,xf,xt,xs]) (e1:mu=(a.d0,od0)::(a.d1,od1)::(220,op)::(P0,lob i0 n0)::(P1,lob i1 n1)::Z) (e2:CodeTab op) (e3:MM w (R.and Z) a od0 od1) (hP:(P,lob [.ref P0,.ref P1] 0)∈Z) (p0:Pl k0 i i0) (p1:Pl k0 i i1):PlJ w a R lo dc P P0 P1 x tx ts k0 i ls mu
inductive PlK(a:Ma)(lo dc P P0 P1 T Gd:Addr)(x:Int)(tx ts tf ti:Tok)(k0 i l:Nat)(od0 od1 op:Obj)(Z:List (Addr×Obj))(j:Nat)(ls:List (Option Value))(mu:List (Addr×Obj)):Prop
 | mk (xs i0 n0 i1 n1) (e0:ls=[some (.ref a.t),some (.ref lo),some (.int x tx),some (.ref dc),some (.int (a.H.length:Nat) ts),some (.ref P),some (.int (i:Nat) ti),some (.ref Gd),some (.float (fl l (l+a.H.length)) (tf+1)),some (.ref T),xs]) (e1:mu=(a.d0,od0)::(a.d1,od1)::(220,op)::(P0,lob i0 n0)::(P1,lob i1 n1)::Z) (p0:Pl k0 (if 0 < j then i+1 else i) i0) (p1:Pl k0 (if 1 < j then i+1 else i) i1):PlK a lo dc P P0 P1 T Gd x tx ts tf ti k0 i l od0 od1 op Z j ls mu
theorem frP{α:Type}{a b c p q:α}{new X:List α}:(a::b::c::(new++(p::q::X))).Perm (a::b::c::p::q::(new++X)) :=
 ((((List.perm_middle (a:=p) (l₁:=new) (l₂:=q::X)).trans ((List.perm_middle (a:=q) (l₁:=new) (l₂:=X)).cons p)).cons c).cons b).cons a
theorem frG{α:Type}{a b c p q G:α}{X:List α}:(G::a::b::c::p::q::X).Perm (a::b::c::p::q::G::X):=(List.perm_middle (l₁:=[a,b,c,p,q])).symm
end
section
variable{w:World}{A:Around}{E:Value→Shared→Prop}{s s':Shared}{mg mb:Str→Option Value}{G g h:Heap}{gs:Array GenState}{dr:Drawn}{tk:Nat}{os:OsState}{L C:Addr}{nm:List Str}{ls:List (Option Value)}{mu Z:List (Addr×Obj)}{a:Ma}{R:Rel}{od0 od1 op:Obj}
theorem j2:∀ j:Nat,j < 2→j=0∨j=1:=fun j h=>by lia
theorem sub2a{prog:Program}{Q:Value→Shared→Prop}{env:Env}{value:Expr}{lower upper:Option Expr}{p pos:Pos}{s:Shared}
  (k:wpAny (model prog w) A (eval value env) (fun o s₁=>wpAny (model prog w) A (evalPart lower env) (fun a s₂=>wpAny (model prog w) A (evalPart upper env) (fun b s₃ =>
   Shared.TypeIs ⟨s₃.heap.push { cls:=.type "slice",data:=.fields #[a,b,.none] },s₃.gens,s₃.drawn,s₃.toks,s₃.os⟩ o "list" ∧ wpAny (model prog w) A (getItem o (.ref s₃.heap.objs.size)) Q E ⟨s₃.heap.push { cls:=.type "slice",data:=.fields #[a,b,.none] },s₃.gens,s₃.drawn,s₃.toks,s₃.os⟩) E s₂) E s₁) E s) :
  wpAny (model prog w) A (eval (.Subscript value (.Slice lower upper none p) pos) env) Q E s:=by
 have k':wpAny (model prog w) A (eval value env) (fun o s₁=>wpAny (model prog w) A (eval (.Slice lower upper none p) env) (fun i s₂=>s₂.TypeIs o "list" ∧ wpAny (model prog w) A (getItem o i) Q E s₂) E s₁) E s :=
  wpAny_mono k (fun o s₁ h₁=>wpAny_Slice (wpAny_mono h₁ (fun a s₂ h₂=>wpAny_mono h₂ (fun b s₃ h₃=>wP h₃) fun _ _ x=>x) fun _ _ x=>x)) fun _ _ x=>x
 rw [eval_Subscript]
 refine wB (wpAny_mono k' (fun o s₁ h₁=>wB (wpAny_holding (wpAny_mono h₁ (fun i s₂ h₂=>wB (wpAny_standAt ?_)) fun _ _ x=>x))) fun _ _ x=>x)
 have fin:wpAny (model prog w) A (operate [i,o] (getItem o i)) (fun r s₃=>wpAny (model prog w) A (letTemporaryGo value o r >>= fun _=>pure r) Q E s₃) E s₂ :=
  wpAny_operating (wpAny_mono h₂.2 (fun r s₃ h₃=>wB (wpAny_letTemporaryGo (wP h₃))) fun _ _ x=>x)
 first
  | (refine wB ?_;rw [getitemInPython_of_ne h₂.1.not_modules];refine wB (wpAny_specialOf h₂.1 slot_list_getitem.lookup ?_);first | exact wP (wB fin) | exact wB (wP (wB fin)) | exact wB fin)
  | (refine wB (wpAny_specialOf h₂.1 slot_list_getitem.lookup ?_);first | exact wB (wP (wB fin)) | exact wB fin)
noncomputable def RowL(Rl:Rel)(l z k0 i:Nat)(T:Addr):Prop:=∃ m t1 t2 t3 tot,Rl T (lob [.float (ratioF (tot:Nat) ((l+z:Nat):Int)) (t1+1),.float (ratioF (l:Nat) ((l+z:Nat):Int)) (t2+1),.float (ratioF (l:Nat) ((l+z:Nat):Int)) (t3+1)] m)∧tot≤l∧(tot=l↔i=k0)
theorem places_sides{lo dc P P0 P1 T T0 T1 Gd:Addr}{x:Int}{tx ts tf ti:Tok}{k0 i l m n0 n1:Nat}{i0 i1:List Value}{xs:Option Value}{Q:Flow→Shared→Prop}
  (S:St g L h nm_places [some (.ref a.t),some (.ref lo),some (.int x tx),some (.ref dc),some (.int (a.H.length:Nat) ts),some (.ref P),some (.int (i:Nat) ti),some (.ref Gd),some (.float (fl l (l+a.H.length)) (tf+1)),some (.ref T),xs] ((a.d0,od0)::(a.d1,od1)::(220,op)::(P0,lob i0 n0)::(P1,lob i1 n1)::Z))
  (D:Mine.Gd (K w.params) mg mb g) (hA:A.handled=none) (hu:A.units+3 < cLine) (hgs:AllBare gs) (hP:(P,lob [.ref P0,.ref P1] 0)∈Z) (hk:∀ b o,R.and Z b o→Kn g Z b o) (hT:R.and Z T (lob [.ref T0,.ref T1] m)) (r0:RowL (R.and Z) l a.H.length k0 i T0) (r1:RowL (R.and Z) l a.H.length k0 i T1)
  (p0:Pl k0 i i0) (p1:Pl k0 i i1) (z1:8≤a.H.length) (z2:a.H.length≤16) (hl:l≤a.H.length)
  (k:∀ h' gs' tk' xs i0 n0 i1 n1,AllBare gs'→Pl k0 (i+1) i0→Pl k0 (i+1) i1→St g L h' nm_places [some (.ref a.t),some (.ref lo),some (.int x tx),some (.ref dc),some (.int (a.H.length:Nat) ts),some (.ref P),some (.int (i:Nat) ti),some (.ref Gd),some (.float (fl l (l+a.H.length)) (tf+1)),some (.ref T),xs] ((a.d0,od0)::(a.d1,od1)::(220,op)::(P0,lob i0 n0)::(P1,lob i1 n1)::Z)→Q .next ⟨h',gs',dr,tk',os⟩) :
  wpAny (model prog w) A (exec ((sb (bd_places.getD 1 (.Pass ⟨0,0,0,0⟩))).getD 3 (.Pass ⟨0,0,0,0⟩)) (e_places L)) Q E ⟨h,gs,dr,tk,os⟩:=by
 refine wpAny_For (Call_ (lbE S D (ge_places_range L) (bn_range _) (cT1 (arg_ (cInt fun k1 t1=>arg0 ?_)))))
 refine forR1E (n:=2) (PlK a lo dc P P0 P1 T Gd x tx ts tf ti k0 i l od0 od1 op Z) S hA hgs (by decide) ?_ ?_ ⟨xs,i0,n0,i1,n1,rfl,rfl,p0,p1⟩
 ·rintro j tj _ _ own h2 gs2 tk2 hj ⟨xs,i0,n0,i1,n1,rfl,rfl,p0,p1⟩ hg2 S2 Tq hTq
  refine assign_Name (stE S2 (ve_places_side L) (nB rfl) fun h3 t3 S3=>?_)
  have inZ:∀ {p:Addr×Obj},p∈Z→p∈(a.d0,od0)::(a.d1,od1)::(220,op)::(P0,lob i0 n0)::(P1,lob i1 n1)::Z++own:=fun hp=>.tail _ (.tail _ (.tail _ (.tail _ (.tail _ (mF _ hp)))))
  obtain⟨Tj,hTj,m2,u1,u2,u3,tot,hrow,hle,hiff⟩:∃ Tj,[Value.ref T0,.ref T1][j]?=some (.ref Tj)∧RowL (R.and Z) l a.H.length k0 i Tj:=by
   rcases j2 j hj with rfl | rfl
   ·exact⟨T0,rfl,r0⟩
   ·exact⟨T1,rfl,r1⟩
  have kn:∀ {h':Heap} {nm:List Str} {ls:List (Option Value)} {mu2:List (Addr×Obj)},St g L h' nm ls mu2→(∀ p∈Z,p∈mu2)→∀ b o,R.and Z b o→h'.get? b=some o:=fun S hs b o e=>(hk b o e).elim (fun e=>S.F.keep _ _ e) fun m=>(S.N _ (hs _ m)).1
  have k3:=kn S3 (fun p hp=>inZ hp)
  have hb:=booked_none (D.k.keeps S3.F.keep)
  refine exc (wpAny_If (wC (sub2a (Subscript_ (ldE S3 (ve_places_told L) rfl (ldE S3 (ve_places_side L) rfl (itemN (k3 _ _ hT) hTj (by simp) (pt1 (cInt fun k4 t4=>pt0 (getSl S3 (lob_list (k3 _ _ hrow)) (.int _ _) .none .none (by simp) (by simp) fun h5 D5 S5=>?_))))))))))
  have eS:(slicePick [Value.float (ratioF (tot:Nat) ((l+a.H.length:Nat):Int)) (u1+1),.float (ratioF (l:Nat) ((l+a.H.length:Nat):Int)) (u2+1),.float (ratioF (l:Nat) ((l+a.H.length:Nat):Int)) (u3+1)].toArray (some 1) none none).toList=[.float (ratioF (l:Nat) ((l+a.H.length:Nat):Int)) (u2+1),.float (ratioF (l:Nat) ((l+a.H.length:Nat):Int)) (u3+1)]:=pick_from _ 1
  rw [eS] at S5
  refine List_ (arg_ (ldE S5 (ve_places_full L) rfl (arg_ (ldE S5 (ve_places_full L) rfl (arg0 (newL S5 (by simp) fun h6 S6=>?_))))))
  have hb6:=booked_none (D.k.keeps S6.F.keep)
  have fe:∀ u v,FE h6 (ratioF (l:Nat) ((l+a.H.length:Nat):Int)) (fl l (l+a.H.length)) u v true:=fun u v=>⟨by rw [rfEq (by lia) (by lia) (by lia)];rfl,fun _=>hb6,fun z=>(nomatch z)⟩
  refine ne2 (S6.get (j:=1) rfl) (S6.get (j:=0) rfl) (by lia) (fe _ _) (fe _ _) (wT ?_)
  rw [if_neg (by decide)]
  refine exn ?_
  have S7:=(S6.drop (List.sublist_cons_self _ _)).drop (List.sublist_cons_self _ _)
  have k7:=kn S7 (fun p hp=>inZ hp)
  refine exc (wpAny_If (wC (Subscript_ (Subscript_ (ldE S7 (ve_places_told L) rfl (ldE S7 (ve_places_side L) rfl (itemN (k7 _ _ hT) hTj (by simp) (cInt fun k8 t8=>itemN (k:=0) (k7 _ _ hrow) rfl (by simp) (ldE S7 (ve_places_full L) rfl (eqFF (wT ?_)))))))))))
  by_cases hi:i=k0
  ·have et:=hiff.mpr hi
   rw [et,rfEq (by lia) (by lia) (by lia),if_pos (by decide)]
   subst hi
   rcases j2 j hj with rfl | rfl
   ·refine exc (wpAny_Expr (MethodCall_ (Subscript_ (ldE S7 (ve_places_places L) rfl (ldE S7 (ve_places_side L) rfl (itemN (items:=[.ref P0,.ref P1]) (k:=0) (S7.N _ (inZ hP)).1 rfl (by simp) (mL PySem.F.slot_list_append PySem.F.type_list_append (S7.get (j:=3) rfl) (callWith_method1 (arg_ (ldE S7 (ve_places_k L) rfl (arg0 (append_ (j:=3) S7 rfl (by have:=p0.len;lia) fun h9 S9=>?_))))))))))))
    exact exn (exn (TN hTq (mu:=(a.d0,od0)::(a.d1,od1)::(220,op)::(P0,lob _ _)::(P1,lob i1 n1)::Z) S9 hg2 ⟨_,_,_,_,_,rfl,rfl,p0.hit,p1⟩))
   ·refine exc (wpAny_Expr (MethodCall_ (Subscript_ (ldE S7 (ve_places_places L) rfl (ldE S7 (ve_places_side L) rfl (itemN (items:=[.ref P0,.ref P1]) (k:=1) (S7.N _ (inZ hP)).1 rfl (by simp) (mL PySem.F.slot_list_append PySem.F.type_list_append (S7.get (j:=4) rfl) (callWith_method1 (arg_ (ldE S7 (ve_places_k L) rfl (arg0 (append_ (j:=4) S7 rfl (by have:=p1.len;lia) fun h9 S9=>?_))))))))))))
    exact exn (exn (TN hTq (mu:=(a.d0,od0)::(a.d1,od1)::(220,op)::(P0,lob i0 n0)::(P1,lob _ _)::Z) S9 hg2 ⟨_,_,_,_,_,rfl,rfl,p0,p1.hit⟩))
  ·have et:tot < l:=Nat.lt_of_le_of_ne hle fun e=>hi (hiff.mp e)
   rw [(rfNe z1 z2 (by lia) et).1,if_neg (by decide)]
   refine exn (exn (TN hTq (mu:=(a.d0,od0)::(a.d1,od1)::(220,op)::(P0,lob i0 n0)::(P1,lob i1 n1)::Z) S7 hg2 ⟨_,i0,n0,i1,n1,rfl,rfl,?_,?_⟩))
   ·rcases j2 j hj with rfl | rfl
    ·exact p0.skip hi
    ·exact p0
   ·rcases j2 j hj with rfl | rfl
    ·exact p1
    ·exact p1.skip hi
 ·rintro _ _ h2 gs2 tk2 ⟨xs,i0,n0,i1,n1,rfl,rfl,p0,p1⟩ hg2 S2
  exact k h2 gs2 tk2 xs i0 n0 i1 n1 hg2 p0 p1 S2
end
theorem Row.toL{Rl:Rel}{xs ys:List Int}{T:Addr}{n l z k0 i:Nat}(r:Row Rl xs ys T n)(hq:qm xs (fun k=>cnt k ys)=l)(ht:xs.length+ys.length=l+z)(hm:min xs.length ys.length=l)(hg:∀ tot,GML xs ys tot→tot≤l∧(tot=l↔i=k0)):RowL Rl l z k0 i T:=by
 obtain⟨m,t1,t2,t3,tot,rT,gT,_,_⟩:=r
 have e1:((xs.length:Int)+(ys.length:Int))=((l+z:Nat):Int):=by exact congrArg Nat.cast (by lia)
 have e2:(min (xs.length:Int) (ys.length:Int))=((l:Nat):Int):=(cmin _ _).trans (congrArg Nat.cast hm)
 unfold toldL at rT
 rw [e1,e2,hq] at rT
 exact⟨m,t1,t2,t3,tot,rT,hg tot gT⟩
theorem its_le{O:List Int}{c:Int→Nat}{n:Int}(h:n∈O):c n≤(its O c).length:=ntr (Nat.le_add_left _ _) (pos_le O c n h)
section
variable{w:World}{A:Around}{E:Value→Shared→Prop}{s s':Shared}{mg mb:Str→Option Value}{G g h:Heap}{gs:Array GenState}{dr:Drawn}{tk:Nat}{os:OsState}{L C:Addr}{nm:List Str}{ls:List (Option Value)}{mu Z:List (Addr×Obj)}{a:Ma}{R:Rel}{od0 od1 op:Obj}
theorem places_spec{lo dc:Addr}{oi:List Value}{no k0:Nat}{odc:Obj}{x:Int}{tx ts:Tok}{o O:List Int}{c:Int→Nat}(X:Pre w mg mb G A a R s 18 od0 od1 op)(hlo:(hideAll s.heap a.W).get? lo=some (lob oi no))(hoi:IntsAre oi o)(hdc:(hideAll s.heap a.W).get? dc=some odc)(hDC:DC w odc O c)
  (nd:O.Nodup) (c0:∀ n∈O,0 < c n) (hH:a.H=its O c) (hs:o.Sublist O) (hx:x∈O) (hxo:x∉o) (hk0:k0≤o.length) (hk:∀ k,k≤o.length→((ins o k x).Sublist O↔k=k0)) :
  codeAny (model prog w) A (.call (.ref 270) ⟨[.ref a.t,.ref lo,.int x tx,.ref dc,.int (a.H.length:Nat) ts],[]⟩) (Ret a.W s (Po w a R s (PV k0))) s:=by
 refine enterM X (by decide) (fn_places _) (bi_places _ _ _ _ _ _ _) nm_places [none,none,none,none,none,none,none,none,none,none,none] rfl led_places fun Q hQ L h₁ hL D hRg S=>?_
 refine ba_cons (stE S (ve_places_matchers L) (nB rfl) fun h2 t2 S2=>ba_cons (stE S2 (ve_places_order L) (nB rfl) fun h3 t3 S3=>ba_cons (stE S3 (ve_places_number L) (nB rfl) fun h4 t4 S4=>ba_cons (stE S4 (ve_places_counts L) (nB rfl) fun h5 t5 S5=>ba_cons (stE S5 (ve_places_size L) (nB rfl) fun h6 t6 S6=>ba_nil ⟨S6.F.keep,?_⟩)))))
 have hA:=X.hA
 have hdep:=X.dep
 have hu:=X.u
 have z1:=X.z1
 have z2:=X.z2
 have hol:o.length≤16:=ntr hs.length_le (ntr (its_ones c0).length_le (hH▸z2))
 have hcl:∀ n∈O,c n≤16:=fun n hn=>ntr (its_le hn) (hH▸z2)
 have ndo:=nd.sublist hs
 have hoil:=hoi.length
 refine exc (asgE (List_ (arg_ (List_ (arg0 (newL S6 (by simp) fun h7 S7=>arg_ (List_ (arg0 (newL S7 (by simp) fun h8 S8=>arg0 (newL S8 (by simp) fun h9 S9=>stE S9 (ve_places_places L) (nB rfl) fun h10 t10 S10=>?_))))))))))
 generalize hP0:h6.objs.size=P0 at S7 S8 S9 S10
 generalize hP1:h7.objs.size=P1 at S8 S9 S10
 generalize hPP:h8.objs.size=P at S9 S10
 have S11:St (hideAll s.heap a.W) L h10 nm_places [some (.ref a.t),some (.ref lo),some (.int x tx),some (.ref dc),some (.int (a.H.length:Nat) ts),some (.ref P),none,none,none,none,none] ((a.d0,od0)::(a.d1,od1)::(220,op)::(P0,lob [] 0)::(P1,lob [] 0)::[(P,lob [.ref P0,.ref P1] 0)]):=by
  refine St.perm S10 ?_
  exact(List.perm_append_comm (l₁:=[(P,(lob [.ref P0,.ref P1] 0:Obj)),(P1,lob [] 0),(P0,lob [] 0)]) (l₂:=[(a.d0,od0),(a.d1,od1),(220,op)])).trans (((List.reverse_perm [(P,(lob [.ref P0,.ref P1] 0:Obj)),(P1,lob [] 0),(P0,lob [] 0)]).symm.append_left [(a.d0,od0),(a.d1,od1),(220,op)]))
 refine exc (wpAny_For (Call_ (lbE S11 D (ge_places_range L) (bn_range _) (cT1 (arg_ (wpAny_BinOp (Call_ (lbE S11 D (ge_places_len L) (bn_len _) (cB (arg_ (ldE S11 (ve_places_order L) rfl (arg0 (lenN (S11.old hlo) (by lia) fun k12 t12=>cInt fun k13 t13=>addN (b:=1) fun k14 t14=>arg0 ?_)))))))))))))
 rw [hoil]
 refine forR1E (n:=o.length+1) (PlJ w a R lo dc P P0 P1 x tx ts k0) S11 hA X.gs (by lia) ?_ ?_ ⟨_,_,_,_,_,od0,od1,op,[],0,[],0,_,rfl,rfl,X.ct,X.M.mono fun _ _ e=>.inl e,.head _,.inl ⟨Nat.zero_le _,rfl⟩,.inl ⟨Nat.zero_le _,rfl⟩⟩
 ·rintro i ti _ _ own h15 gs15 t15 hi ⟨xk,xg,xf,xt,xs,b0,b1,bp,i0,n0,i1,n1,Z,rfl,rfl,hct,M15,hP,p0,p1⟩ hg15 S15 Tq hTq
  refine assign_Name (stE S15 (ve_places_k L) (nB rfl) fun h16 t16 S16=>?_)
  have hilt:i≤o.length:=Nat.le_of_lt_succ hi
  have ndI:=ins_nodup (k:=i) ndo hxo
  have sI:∀ u∈ins o i x,u∈O:=fun u hu=>(ins_mem.mp hu).elim (fun e=>e▸hx) fun m=>hs.subset m
  have bag:=its_bag (c:=c) nd ndI sI
  have lI:=len_le bag
  rw [← hH] at lI
  have lins:(ins o i x).length≤17:=by rw [ins_perm.length_eq,List.length_cons];lia
  refine exc (asgE (cG S16 D (ge_places__law_items L) (gn_items _) (fn_items _) (arg_ (wpAny_BinOp (wpAny_BinOp (sub2 (ldE S16 (ve_places_order L) rfl (pt0 (pt1 (ldE S16 (ve_places_k L) rfl (getSl S16 (lob_list (S16.old hlo)) .none (.int _ _) .none (by simp) (by lia) fun h17 D17 S17=>?_)))))))))))
  rw [pick_upto] at S17
  refine List_ (arg_ (ldE S17 (ve_places_number L) rfl (arg0 (newL S17 (by simp) fun h18 S18=>addL S18 (S18.get (j:=1) rfl) (S18.get (j:=0) rfl) (by simp;exact ntr (Nat.min_le_right _ _) (by lia)) (by simp) fun h19 S19=>?_))))
  refine sub2 (ldE S19 (ve_places_order L) rfl (pt1 (ldE S19 (ve_places_k L) rfl (pt0 (getSl S19 (lob_list (S19.old hlo)) (.int _ _) .none .none (by simp) (by lia) fun h20 D20 S20=>?_)))))
  rw [pick_from] at S20
  refine addL S20 (S20.get (j:=1) rfl) (S20.get (j:=0) rfl) (by simp;exact ntr (Nat.min_le_right _ _) (by lia)) (by simp;lia) fun h21 S21=>arg_ (ldE S21 (ve_places_counts L) rfl (arg0 ⟨D.k.keeps S21.F.keep,?_⟩))
  have hI:=ints_ins hoi i x tx
  have S22:=S21.drop (mu':=(h20.objs.size,lob (List.take i oi++[Value.int x tx]++List.drop i oi) 0)::((a.d0,b0)::(a.d1,b1)::(220,bp)::(P0,lob i0 n0)::(P1,lob i1 n1)::Z++own)) ((((((List.Sublist.refl _).cons _).cons _).cons _).cons _).cons_cons _)
  refine callItems S22 D hA (by show A.depth+1+2 < _;lia) hg15 (S22.get (j:=0) rfl) hI (S22.old hdc) (hDC.sub sI) (by lia) (by lia) (fun n hn=>by have:=hcl n (sI n hn);lia) fun h23 gs23 t23 Gd gi gz hg23 hgi S23=>?_
  have S24:=S23.drop (mu':=(Gd,lob gi gz)::((a.d0,b0)::(a.d1,b1)::(220,bp)::(P0,lob i0 n0)::(P1,lob i1 n1)::Z++own)) (((List.Sublist.refl _).cons _).cons_cons _)
  refine stE S24 (ve_places_guess L) (nB rfl) fun h25 t25 S25=>?_
  have hgl:=hgi.length
  generalize hl:(its (ins o i x) c).length=l at lI hgl
  refine exc (asgE (wpAny_BinOp (wpAny_BinOp (cInt fun k26 t26=>Call_ (lbE S25 D (ge_places_len L) (bn_len _) (cB (arg_ (ldE S25 (ve_places_guess L) rfl (arg0 (lenN (S25.get (j:=0) rfl) (by lia) fun k27 t27=>mulN (a:=2) (b:=gi.length) (by decide) fun k28 t28=>?_))))))))))
  refine wpAny_BinOp (Call_ (lbE S25 D (ge_places_len L) (bn_len _) (cB (arg_ (ldE S25 (ve_places_guess L) rfl (arg0 (lenN (S25.get (j:=0) rfl) (by lia) fun k29 t29=>ldE S25 (ve_places_size L) rfl (addN' (a:=gi.length) (b:=a.H.length) fun k30 t30=>?_))))))))
  rw [hgl]
  refine divN1_ (a:=2 * l) (b:=l+a.H.length) hA (by lia) (by lia) fun t31=>stE S25 (ve_places_full L) (nB rfl) fun h32 t32 S32=>?_
  replace S32:St (hideAll s.heap a.W) L h32 nm_places [some (.ref a.t),some (.ref lo),some (.int x tx),some (.ref dc),some (.int (a.H.length:Nat) ts),some (.ref P),some (.int (i:Nat) ti),some (.ref Gd),some (.float (fl l (l+a.H.length)) (t30+1)),xt,xs] ((Gd,lob gi gz)::(a.d0,b0)::(a.d1,b1)::(220,bp)::(P0,lob i0 n0)::(P1,lob i1 n1)::(Z++own)):=S32
  have S33:=S32.perm frG
  refine exc (asgE (cG S33 D (ge_places__law_told L) (gn_told _) (fn_told _) (arg_ (ldE S33 (ve_places_matchers L) rfl (arg_ (ldE S33 (ve_places_guess L) rfl (arg0 ⟨D.k.keeps S33.F.keep,?_⟩)))))))
  refine callMa (k:=12) (mu:=(Gd,lob gi gz)::Z) S33 D hRg (fun p hp=>?_) hA (by show A.depth+1+12 < _;lia) (by show A.units+3+3 * 12 < _;lia) hg23 hct (M15.mono fun b o e=>e.imp id fun m=>.tail _ m) z1 z2 (fun X'=>told_spec X' ⟨gi,gz,.inr (.head _),hgi⟩ (by lia)) ?_ TV.mono
  ·rcases mK hp with rfl | hp
   ·exact .tail _ (.tail _ (.head _))
   ·exact .tail _ (.tail _ (.tail _ (mF _ hp)))
  intro v h34 gs34 t34 b0' b1' bp' new hg34 hct34 S34 M34 hv
  obtain⟨T,T0,T1,m,rfl,rT,r0,r1⟩:=hv
  have S35:=S34.perm frP
  refine stE S35 (ve_places_told L) (nB rfl) fun h36 t36 S36=>?_
  have tots:=fun tot=>place_tot (c:=c) (tot:=tot) nd ndI c0 sI
  rw [hH] at r0 r1 lI
  have q0:RowL (R.and (new++(Gd,lob gi gz)::Z)) l (its O c).length k0 i T0:=r0.toL ((qm_in bag).1.trans hl) (by rw [hl]) (by rw [hl];exact Nat.min_eq_left lI) fun tot g=>by have:=(tots tot).1 g;rw [hl] at this;exact⟨this.1,this.2.trans (hk i hilt)⟩
  have q1:RowL (R.and (new++(Gd,lob gi gz)::Z)) l (its O c).length k0 i T1:=r1.toL ((qm_in bag).2.trans hl) (by rw [hl,Nat.add_comm]) (by rw [hl];exact Nat.min_eq_right lI) fun tot g=>by have:=(tots tot).2 g;rw [hl] at this;exact⟨this.1,this.2.trans (hk i hilt)⟩
  rw [← hH] at q0 q1 lI
  have inY:∀ p∈new++(Gd,lob gi gz)::Z,p∈new++(Gd,lob gi gz)::(Z++own):=fun p hp=>by
   rcases List.mem_append.mp hp with hp | hp
   ·exact mF _ hp
   ·rcases mK hp with rfl | hp
    ·exact mR _ (.head _)
    ·exact mR _ (.tail _ (mF _ hp))
  have up:∀ b o,R.and (new++(Gd,lob gi gz)::Z) b o→R.and (new++(Gd,lob gi gz)::(Z++own)) b o:=fun b o e=>e.imp id (inY _)
  have upR:∀ {T},RowL (R.and (new++(Gd,lob gi gz)::Z)) l a.H.length k0 i T→RowL (R.and (new++(Gd,lob gi gz)::(Z++own))) l a.H.length k0 i T:=fun H=>oEEEEEA H fun m t1 t2 t3 tot r q=>⟨m,t1,t2,t3,tot,up _ _ r,q⟩
  refine exc (places_sides (R:=R) (xs:=xs) S36 D hA (by show A.units+3+3 < _;lia) hg34 (mR _ (.tail _ (mF _ hP))) (fun b o e=>e.imp (hRg b o) id) (up _ _ rT) (upR q0) (upR q1) p0 p1 z1 z2 lI fun h37 gs37 t37 xs7 i0' n0' i1' n1' hg37 p0' p1' S37=>?_)
  have e:new++(Gd,lob gi gz)::(Z++own)=(new++(Gd,lob gi gz)::Z)++own:=by simp
  rw [e] at S37
  exact exn (TN hTq (mu:=(a.d0,b0')::(a.d1,b1')::(220,bp')::(P0,lob i0' n0')::(P1,lob i1' n1')::(new++(Gd,lob gi gz)::Z)) S37 hg37 ⟨_,_,_,_,_,b0',b1',bp',i0',n0',i1',n1',_,rfl,rfl,hct34,M34,mR _ (.tail _ hP),p0',p1'⟩)
 ·rintro _ _ h15 gs15 t15 ⟨xk,xg,xf,xt,xs,b0,b1,bp,i0,n0,i1,n1,Z,rfl,rfl,hct,M15,hP,p0,p1⟩ hg15 S15
  refine oAE (p0.resolve_left fun z=>by lia) ?_;rintro _ t0 rfl
  refine oAE (p1.resolve_left fun z=>by lia) ?_;rintro _ t1 rfl
  refine exc (wpAny_Return_some (ldE S15 (ve_places_places L) rfl ?_))
  exact endM hQ S15 hL hg15 rfl rfl hct (M15.mono fun b o e=>e.imp id fun m=>.tail _ (.tail _ m)) ⟨P,P0,P1,_,_,_,t0,t1,rfl,.inr (.tail _ (.tail _ hP)),.inr (.head _),.inr (.tail _ (.head _))⟩
end
section
variable{w:World}{A:Around}{E:Value→Shared→Prop}{s s':Shared}{mg mb:Str→Option Value}{G g h:Heap}{gs:Array GenState}{dr:Drawn}{tk:Nat}{os:OsState}{L C:Addr}{nm:List Str}{ls:List (Option Value)}{mu Z:List (Addr×Obj)}{a:Ma}{R:Rel}{od0 od1 op:Obj}
inductive SzJ(n:Nat)(mu0:List (Addr×Obj))(C D:Addr)(i:Nat)(ys:List Value)(ls:List (Option Value))(mu:List (Addr×Obj)):Prop
 | mk (x1) (e0:ls=[x1]) (e1:mu=mu0) (e2:(i < n∧ys=[])∨(n≤i∧∃ t,ys=[.int (n:Nat) t])):SzJ n mu0 C D i ys ls mu
theorem spied_sizes{T T0 T1:Addr}{x2 x3 x4 x5 x6 v0 v1:Option Value}{m m0 n:Nat}{f1 f2:UInt64}{u1 u2 u3:Tok}{Q:Flow→Shared→Prop}{p0 p1 p2:Addr×Obj}
  (S:St g L h nm_spied [v0,v1,x2,x3,x4,x5,x6] (p0::p1::p2::(L+1,cob (some (.ref T)))::Z)) (hA:A.handled=none) (hgs:AllBare gs)
  (hT:(T,lob [.ref T0,.ref T1] m)∈Z∨g.get? T=some (lob [.ref T0,.ref T1] m)) (hT0:(T0,lob [.float f1 u1,.float f2 u2,.float (ratioF 1 ((1+n:Nat):Int)) (u3+1)] m0)∈Z∨g.get? T0=some (lob [.float f1 u1,.float f2 u2,.float (ratioF 1 ((1+n:Nat):Int)) (u3+1)] m0))
  (D:Gd (K w.params) mg mb g) (h8:8≤n) (h16:n≤16)
  (k:∀ h' gs' tk' Sz t z,AllBare gs'→St g L h' nm_spied [v0,v1,some (.ref Sz),x3,x4,x5,x6] (p0::p1::p2::(L+1,cob (some (.ref T)))::(Sz,lob [.int (n:Nat) t] z)::Z)→Q .next ⟨h',gs',dr,tk',os⟩) :
  wpAny (model prog w) A (exec (bd_spied.getD 1 (.Pass ⟨0,0,0,0⟩)) (e_spied L)) Q E ⟨h,gs,dr,tk,os⟩:=by
 refine lcA_ (sf_spied_c1 L) (by kernel_rfl) (Call_ (lbE S D (ge_spied_range L) (bn_range _) (cT1 (arg_ (cInt fun k1 t1=>arg_ (cInt fun k2 t2=>arg0 (rng2 S fun h3 r3 a3 t3 S3 hr3=>?_)))))))
 refine compRS (n:=63) nm_spied_c1 (SzJ n (p0::p1::p2::(L+1,cob (some (.ref T)))::Z)) S3 hA hgs (ve_spied_sizes L) (nB rfl) hr3 (by decide) (by decide) (by decide) (by decide) ?_ ?_ (fun C D0=>⟨none,rfl,by kernel_rfl,.inl ⟨by lia,rfl⟩⟩)
 ·rintro g' C D0 hsub i v ys m2 ls mu own h4 gs4 t4 hi ⟨tv,rfl⟩ ⟨x1,rfl,rfl,hys⟩ hlen hg4 S4 Tq1 Tq0 q1 q0
  rw [show(1:Int)+(i:Int) * 1=((i+1:Nat):Int) by lia]
  refine assign_Name (stE S4 (ve_spied_c1_size L C) (nB rfl) fun h5 t5 S5=>?_)
  have g5:∀ {p:Addr×Obj},(p∈Z∨g.get? p.1=some p.2)→h5.get? p.1=some p.2:=fun {p} e=>e.elim (fun m=>(S5.N _ (.tail _ (.tail _ (.tail _ (.tail _ (.tail _ (mF _ m))))))).1) fun e=>S5.F.keep _ _ (hsub _ _ e)
  refine tst1 (wC (wpAny_BinOp (cInt fun k6 t6=>wpAny_BinOp (cInt fun k7 t7=>ldE S5 (ve_spied_c1_size L C) rfl (addN' (a:=1) (b:=i+1) fun k8 t8=>divN1_ (a:=2) (b:=1+(i+1)) hA (by decide) (by lia) fun t9=>?_)))))
  refine Subscript_ (Subscript_ (ldC_ (j:=4) S5 (ce_spied_c1_told L C) rfl (cInt fun k10 t10=>itemN (items:=[.ref T0,.ref T1]) (k:=0) (g5 (p:=(T,_)) hT) rfl (by simp) (cInt fun k11 t11=>itemN (k:=2) (g5 (p:=(T0,_)) hT0) rfl (by simp) (eqFF (wT ?_))))))
  rw [rfSz h8 h16 hi]
  by_cases hin:i+1=n
  ·rw [decide_eq_true hin,if_pos rfl]
   refine ldE S5 (ve_spied_c1_size L C) rfl (q1 _ _ ⟨_,_,h5,gs4,_,rfl,hg4,S5,_,rfl,rfl,?_⟩)
   rcases hys with⟨_,rfl⟩ | ⟨q,_⟩
   ·exact .inr ⟨by lia,tv,by rw [hin];rfl⟩
   ·lia
  ·rw [decide_eq_false hin,if_neg (by decide)]
   exact q0 _ ⟨_,_,h5,gs4,_,rfl,hg4,S5,_,rfl,rfl,hys.imp (fun q=>⟨by lia,q.2⟩) fun q=>⟨by lia,q.2⟩⟩
 ·rintro C D0 ys m2 lsc mu h4 gs4 t4 ⟨x1,rfl,rfl,hys⟩ hg4 S4
  refine oAE (hys.resolve_left fun z=>by lia) ?_;rintro _ t rfl
  exact k h4 gs4 t4 D0 t m2 hg4 (St.perm S4 (((List.Perm.swap _ _ _).trans ((List.Perm.swap _ _ _).cons _)).trans (((List.Perm.swap _ _ _).cons _).cons _ |>.trans ((((List.Perm.swap _ _ _).cons _).cons _).cons _))))
end
theorem stored_le(kvs:List (Int×Value))(k:Int)(v:Value):(stored kvs k v).length≤kvs.length+1:=stored_length_le kvs k v
noncomputable def DF1(w:World)(o:Obj)(ns:List Int)(c:Int→Nat)(i:Nat):Prop:=∃ kvs,DI prog w o kvs∧kvs.length≤i∧∀ n∈ns.take i,∃ t,valueAt kvs n=some (.int (c n:Nat) t)
theorem frM{α:Type}{a b c:α}{new X F:List α}:(a::b::c::(new++(F++X))).Perm (a::b::c::(F++(new++X))):=by
 refine(List.Perm.cons c ?_ |>.cons b).cons a
 rw [← List.append_assoc,← List.append_assoc]
 exact(List.perm_append_comm).append_right X
section
variable{w:World}{A:Around}{E:Value→Shared→Prop}{s s':Shared}{mg mb:Str→Option Value}{G g h:Heap}{gs:Array GenState}{dr:Drawn}{tk:Nat}{os:OsState}{L C:Addr}{nm:List Str}{ls:List (Option Value)}{mu Z:List (Addr×Obj)}{a:Ma}{R:Rel}{od0 od1 op:Obj}
inductive CnJ(w:World)(a:Ma)(R:Rel)(lp Sz Dc L T:Addr)(tz:Tok)(z:Nat)(pool:List Int)(x5 x6:Option Value)(i:Nat)(ls:List (Option Value))(mu:List (Addr×Obj)):Prop
 | mk (x4 b0 b1 bp oD Z) (e0:ls=[some (.ref a.t),some (.ref lp),some (.ref Sz),some (.ref Dc),x4,x5,x6]) (e1:mu=(a.d0,b0)::(a.d1,b1)::(220,bp)::([(Dc,oD),(L+1,cob (some (.ref T))),(Sz,lob [.int (a.H.length:Nat) tz] z)]++Z)) (e2:CodeTab bp) (e3:MM w (R.and Z) a b0 b1) (e4:DF1 w oD pool (fun n=>a.H.count n) i):CnJ w a R lp Sz Dc L T tz z pool x5 x6 i ls mu
theorem spied_counts{lp Sz Dc T:Addr}{pi:List Value}{np z:Nat}{pool:List Int}{tz:Tok}{x4 x5 x6:Option Value}{oD:Obj}{Q:Flow→Shared→Prop}
  (S:St g L h nm_spied [some (.ref a.t),some (.ref lp),some (.ref Sz),some (.ref Dc),x4,x5,x6] ((a.d0,od0)::(a.d1,od1)::(220,op)::([(Dc,oD),(L+1,cob (some (.ref T))),(Sz,lob [.int (a.H.length:Nat) tz] z)]++Z))) (D:Gd (K w.params) mg mb g) (hRg:∀ b o,R b o→g.get? b=some o) (hA:A.handled=none) (hdep:A.depth+16 < recursionLimit) (hu:A.units+48 < cLine) (hgs:AllBare gs) (hct:CodeTab op) (M:MM w (R.and Z) a od0 od1)
  (hlp:g.get? lp=some (lob pi np)) (hpi:IntsAre pi pool) (hp:pool.length≤40) (hD:DI prog w oD []) (hside:∀ x,∃ pre post,a.H=pre++List.replicate (a.H.count x) x++post) (z1:8≤a.H.length) (z2:a.H.length≤16)
  (k:∀ h' gs' tk' x4 b0 b1 bp oD Z,AllBare gs'→CodeTab bp→MM w (R.and Z) a b0 b1→DC w oD pool (fun n=>a.H.count n)→St g L h' nm_spied [some (.ref a.t),some (.ref lp),some (.ref Sz),some (.ref Dc),x4,x5,x6] ((a.d0,b0)::(a.d1,b1)::(220,bp)::([(Dc,oD),(L+1,cob (some (.ref T))),(Sz,lob [.int (a.H.length:Nat) tz] z)]++Z))→Q .next ⟨h',gs',dr,tk',os⟩) :
  wpAny (model prog w) A (exec (bd_spied.getD 4 (.Pass ⟨0,0,0,0⟩)) (e_spied L)) Q E ⟨h,gs,dr,tk,os⟩:=by
 refine wpAny_For (ldE S (ve_spied_pool L) rfl ?_)
 refine forLE (items:=pi) (CnJ w a R lp Sz Dc L T tz z pool x5 x6) S hA hgs (lob_list (S.old hlp)) (.inl ⟨_,hlp⟩) ?_ ?_ ⟨_,_,_,_,_,_,rfl,rfl,hct,M,[],hD,Nat.le_refl _,fun n hn=>by rw [List.take_zero] at hn;cases hn⟩
 ·rintro i v _ _ own h2 gs2 t2 hv ⟨y4,b0,b1,bp,oD,Z,rfl,rfl,hct,M2,kvs,DK,hkl,hkv⟩ hg2 S2 Tq hTq
  have hi:i < pool.length:=by rw [← hpi.length];exact lt_of_get hv
  obtain⟨tv,ev⟩:=intAt hpi hi
  rw [ev] at hv
  obtain rfl:=Option.some.inj hv
  generalize hx:pool.getD i 0=x at *
  refine assign_Name (stE S2 (ve_spied_number L) (nB rfl) fun h3 t3 S3=>?_)
  replace S3:St g L h3 nm_spied [some (.ref a.t),some (.ref lp),some (.ref Sz),some (.ref Dc),some (.int x tv),x5,x6] ((a.d0,b0)::(a.d1,b1)::(220,bp)::([(Dc,oD),(L+1,cob (some (.ref T))),(Sz,lob [.int (a.H.length:Nat) tz] z)]++(Z++own))):=S3
  refine exc (wpAny_Assign_Subscript (cG S3 D (ge_spied__law_count L) (gn_count _) (fn_count _) (arg_ (ldE S3 (ve_spied_matchers L) rfl (arg_ (ldE S3 (ve_spied_number L) rfl (arg_ (Subscript_ (ldE S3 (ve_spied_sizes L) rfl (cInt fun k4 t4=>itemN (items:=[.int (a.H.length:Nat) tz]) (k:=0) (S3.get (j:=5) rfl) rfl (by simp) (arg0 ⟨D.k.keeps S3.F.keep,?_⟩)))))))))))
  refine oEE (hside x) fun pre post hH=>?_
  refine callMa (k:=16) (mu:=Z) S3 D hRg (fun p hp=>mR _ (mF _ hp)) hA (by assumption) (by assumption) hg2 hct M2 z1 z2 (fun X'=>count_spec X' hH) ?_ (fun _ h=>h)
  intro v h5 gs5 t5 b0' b1' bp' new hg5 hct5 S5 M5 hv
  obtain⟨tc,rfl⟩:=hv
  have S6:=S5.perm frM
  refine ldE S6 (ve_spied_counts L) rfl (ldE S6 (ve_spied_number L) rfl ?_)
  refine setI (j:=3) S6 rfl DK (by lia) fun h7 t7 oD' D7 S7=>?_
  replace S7:St g L h7 nm_spied [some (.ref a.t),some (.ref lp),some (.ref Sz),some (.ref Dc),some (.int x tv),x5,x6] (((a.d0,b0')::(a.d1,b1')::(220,bp')::([(Dc,oD'),(L+1,cob (some (.ref T))),(Sz,lob [.int (a.H.length:Nat) tz] z)]++(new++Z)))++own):=by
   have e:(a.d0,b0')::(a.d1,b1')::(220,bp')::([(Dc,oD'),(L+1,cob (some (.ref T))),(Sz,lob [.int (a.H.length:Nat) tz] z)]++(new++Z))++own=(a.d0,b0')::(a.d1,b1')::(220,bp')::([(Dc,oD'),(L+1,cob (some (.ref T))),(Sz,lob [.int (a.H.length:Nat) tz] z)]++(new++(Z++own))):=by simp
   rw [e];exact S7
  have hv7:valueAt (stored kvs x (.int (a.H.count x:Nat) tc)) x=some (.int (a.H.count x:Nat) tc):=by rw [valueAt_stored,if_pos rfl]
  refine exc (wpAny_If (wC (Subscript_ (ldE S7 (ve_spied_counts L) rfl (ldE S7 (ve_spied_number L) rfl (itemD (D7.of (S7.get (j:=3) rfl)) hv7 fun t8=>cInt fun k9 t9=>PySem.P.lt_int (wT ?_)))))))
  rw [decide_eq_false (by lia),if_neg (by decide)]
  refine exn (exn (TN hTq (mu:=(a.d0,b0')::(a.d1,b1')::(220,bp')::([(Dc,oD'),(L+1,cob (some (.ref T))),(Sz,lob [.int (a.H.length:Nat) tz] z)]++(new++Z))) S7 hg5 ⟨_,b0',b1',bp',oD',_,rfl,rfl,hct5,M5,_,D7,ntr (stored_le _ _ _) (Nat.succ_le_succ hkl),fun n hn=>?_⟩))
  rw [valueAt_stored]
  by_cases e:n=x
  ·subst e;exact⟨tc,by rw [if_pos rfl]⟩
  ·rw [if_neg e]
   refine hkv n ?_
   rw [take_snoc hi,hx] at hn
   exact(List.mem_append.mp hn).resolve_right fun m=>e (mS m)
 ·rintro _ _ h2 gs2 t2 ⟨y4,b0,b1,bp,oD,Z,rfl,rfl,hct,M2,kvs,DK,hkl,hkv⟩ hg2 S2
  rw [hpi.length,List.take_length] at hkv
  exact k h2 gs2 t2 y4 b0 b1 bp oD Z hg2 hct M2 ⟨kvs,DK,hkv⟩ S2
end
section
variable{w:World}{A:Around}{E:Value→Shared→Prop}{s s':Shared}{mg mb:Str→Option Value}{G g h:Heap}{gs:Array GenState}{dr:Drawn}{tk:Nat}{os:OsState}{L C:Addr}{nm:List Str}{ls:List (Option Value)}{mu Z:List (Addr×Obj)}{a:Ma}{R:Rel}{od0 od1 op oD:Obj}
inductive OrJ(w:World)(a:Ma)(R:Rel)(lp Sz Dc Or L T:Addr)(oD:Obj)(tz:Tok)(z:Nat)(pool O:List Int)(i:Nat)(ls:List (Option Value))(mu:List (Addr×Obj)):Prop
 | mk (x4 x6 b0 b1 bp oi no o Z) (e0:ls=[some (.ref a.t),some (.ref lp),some (.ref Sz),some (.ref Dc),x4,some (.ref Or),x6]) (e1:mu=(a.d0,b0)::(a.d1,b1)::(220,bp)::([(Or,lob oi no),(Dc,oD),(L+1,cob (some (.ref T))),(Sz,lob [.int (a.H.length:Nat) tz] z)]++Z)) (e2:CodeTab bp) (e3:MM w (R.and Z) a b0 b1) (hoi:IntsAre oi o) (hs:o.Sublist O) (hm:∀ u,u∈o↔u∈pool.take i∧u∈O):OrJ w a R lp Sz Dc Or L T oD tz z pool O i ls mu
theorem spied_orders{lp Sz Dc Or T:Addr}{pi:List Value}{np z:Nat}{pool O:List Int}{tz:Tok}{x4 x6:Option Value}{Q:Flow→Shared→Prop}
  (S:St g L h nm_spied [some (.ref a.t),some (.ref lp),some (.ref Sz),some (.ref Dc),x4,some (.ref Or),x6] ((a.d0,od0)::(a.d1,od1)::(220,op)::([(Or,lob [] 0),(Dc,oD),(L+1,cob (some (.ref T))),(Sz,lob [.int (a.H.length:Nat) tz] z)]++Z))) (D:Gd (K w.params) mg mb g) (hRg:∀ b o,R b o→g.get? b=some o) (hA:A.handled=none) (hdep:A.depth+18 < recursionLimit) (hu:A.units+54 < cLine) (hgs:AllBare gs) (hct:CodeTab op) (M:MM w (R.and Z) a od0 od1)
  (hlp:g.get? lp=some (lob pi np)) (hpi:IntsAre pi pool) (ndp:pool.Nodup) (hD:DC w oD pool (fun n=>a.H.count n)) (nd:O.Nodup) (hO:∀ u,u∈O↔0 < a.H.count u) (hOp:∀ u∈O,u∈pool) (hH:a.H=its O fun n=>a.H.count n) (z1:8≤a.H.length) (z2:a.H.length≤16)
  (k:∀ h' gs' tk' x4 x6 b0 b1 bp oi no Z,AllBare gs'→CodeTab bp→MM w (R.and Z) a b0 b1→IntsAre oi O→St g L h' nm_spied [some (.ref a.t),some (.ref lp),some (.ref Sz),some (.ref Dc),x4,some (.ref Or),x6] ((a.d0,b0)::(a.d1,b1)::(220,bp)::([(Or,lob oi no),(Dc,oD),(L+1,cob (some (.ref T))),(Sz,lob [.int (a.H.length:Nat) tz] z)]++Z))→Q .next ⟨h',gs',dr,tk',os⟩) :
  wpAny (model prog w) A (exec (bd_spied.getD 6 (.Pass ⟨0,0,0,0⟩)) (e_spied L)) Q E ⟨h,gs,dr,tk,os⟩:=by
 have c0:∀ n∈O,0 < a.H.count n:=fun n hn=>(hO n).mp hn
 have hOl:O.length≤16:=ntr (its_ones c0).length_le (hH▸z2)
 refine oEA hD fun kvs DK hkv=>?_
 refine wpAny_For (ldE S (ve_spied_pool L) rfl ?_)
 refine forLE (items:=pi) (OrJ w a R lp Sz Dc Or L T oD tz z pool O) S hA hgs (lob_list (S.old hlp)) (.inl ⟨_,hlp⟩) ?_ ?_ ⟨_,_,_,_,_,_,_,[],_,rfl,rfl,hct,M,.nil,List.nil_sublist _,fun u=>by simp⟩
 ·rintro i v _ _ own h2 gs2 t2 hv ⟨y4,y6,b0,b1,bp,oi,no,o,Z,rfl,rfl,hct,M2,hoi,hs,hm⟩ hg2 S2 Tq hTq
  have hi:i < pool.length:=by rw [← hpi.length];exact lt_of_get hv
  obtain⟨tv,ev⟩:=intAt hpi hi
  rw [ev] at hv
  obtain rfl:=Option.some.inj hv
  have hxp:=getD_in hi
  have htk:=take_snoc hi
  generalize hx:pool.getD i 0=x at *
  obtain⟨tc,hvx⟩:=hkv x hxp
  have hol:o.length≤16:=ntr hs.length_le hOl
  have hoil:=hoi.length
  refine assign_Name (stE S2 (ve_spied_number L) (nB rfl) fun h3 t3 S3=>?_)
  replace S3:St g L h3 nm_spied [some (.ref a.t),some (.ref lp),some (.ref Sz),some (.ref Dc),some (.int x tv),some (.ref Or),y6] ((a.d0,b0)::(a.d1,b1)::(220,bp)::([(Or,lob oi no),(Dc,oD),(L+1,cob (some (.ref T))),(Sz,lob [.int (a.H.length:Nat) tz] z)]++(Z++own))):=S3
  refine exc (wpAny_If (wC (Subscript_ (ldE S3 (ve_spied_counts L) rfl (ldE S3 (ve_spied_number L) rfl (itemD (DK.of (S3.get (j:=4) rfl)) hvx fun t4=>cInt fun k5 t5=>gtN (b:=0) (wT ?_)))))))
  by_cases hc:0 < a.H.count x
  ·rw [decide_eq_true hc,if_pos rfl]
   have hxO:x∈O:=(hO x).mpr hc
   have hxt:x∉pool.take i:=fun m=>by
    have:=ndp.sublist (List.take_sublist (i+1) pool)
    rw [htk] at this
    exact(List.nodup_append.mp this).2.2 x m x (.head _) rfl
   have hxo:x∉o:=fun m=>hxt ((hm x).mp m).1
   refine oEA (place nd hs hxO hxo) fun k0 hk0 hk=>?_
   refine exc (asgE (cG S3 D (ge_spied__law_places L) (gn_places _) (fn_places _) (arg_ (ldE S3 (ve_spied_matchers L) rfl (arg_ (ldE S3 (ve_spied_order L) rfl (arg_ (ldE S3 (ve_spied_number L) rfl (arg_ (ldE S3 (ve_spied_counts L) rfl (arg_ (Subscript_ (ldE S3 (ve_spied_sizes L) rfl (cInt fun k6 t6=>itemN (items:=[.int (a.H.length:Nat) tz]) (k:=0) (S3.get (j:=6) rfl) rfl (by simp) (arg0 ⟨D.k.keeps S3.F.keep,?_⟩)))))))))))))))
   refine callMa (k:=18) (mu:=Z) S3 D hRg (fun p hp=>mR _ (mF _ hp)) hA hdep hu hg2 hct M2 z1 z2 (fun X'=>places_spec X' (St.hid S3 (.head _)) hoi (St.hid S3 (.tail _ (.head _))) (DC.sub ⟨kvs,DK,hkv⟩ hOp) nd c0 hH hs hxO hxo hk0 hk) ?_ PV.mono
   intro v h7 gs7 t7 b0' b1' bp' new hg7 hct7 S7 M7 hv
   obtain⟨P,P0,P1,n0,n1,n2,t0,t1,rfl,r,r0,r1⟩:=hv
   have S8:=S7.perm frM
   refine stE S8 (ve_spied_places L) (nB rfl) fun h9 t9 S9=>?_
   replace S9:St g L h9 nm_spied [some (.ref a.t),some (.ref lp),some (.ref Sz),some (.ref Dc),some (.int x tv),some (.ref Or),some (.ref P)] ((a.d0,b0')::(a.d1,b1')::(220,bp')::([(Or,lob oi no),(Dc,oD),(L+1,cob (some (.ref T))),(Sz,lob [.int (a.H.length:Nat) tz] z)]++(new++(Z++own)))):=S9
   have inY:∀ p∈new++Z,p∈(a.d0,b0')::(a.d1,b1')::(220,bp')::([(Or,lob oi no),(Dc,oD),(L+1,cob (some (.ref T))),(Sz,lob [.int (a.H.length:Nat) tz] z)]++(new++(Z++own))):=fun p hp=>.tail _ (.tail _ (.tail _ (mR _ (by
    rw [← List.append_assoc];exact mF _ hp))))
   have kn:=fun b o (e:R.and (new++Z) b o)=>St.know S9 hRg inY e
   refine exc (wpAny_If (isTrue_or (wC (ldE S9 (ve_spied_places L) rfl (Constant_none (wpAny_is_other rfl (by intro z;cases z) (wT ?_)))))))
   rw [if_neg (by decide)]
   refine isTrue_or (wC (Call_ (lbE S9 D (ge_spied_len L) (bn_len _) (cB (arg_ (Subscript_ (ldE S9 (ve_spied_places L) rfl (cInt fun k10 t10=>itemN (items:=[.ref P0,.ref P1]) (k:=0) (kn _ _ r) rfl (by simp) (arg0 (lenN (kn _ _ r0) (by simp) fun k11 t11=>cInt fun k12 t12=>neN (a:=1) (b:=1) (wT ?_)))))))))))
   rw [decide_eq_false (by simp),if_neg (by decide)]
   refine isTrue_or (wC (Subscript_ (ldE S9 (ve_spied_places L) rfl (cInt fun k13 t13=>itemN (items:=[.ref P0,.ref P1]) (k:=1) (kn _ _ r) rfl (by simp) (Subscript_ (ldE S9 (ve_spied_places L) rfl (cInt fun k14 t14=>itemN (items:=[.ref P0,.ref P1]) (k:=0) (kn _ _ r) rfl (by simp) (neInts (lob_list (kn _ _ r1)) (lob_list (kn _ _ r0)) (.cons _ _ .nil) (.cons _ _ .nil) (by lia) (wT ?_)))))))))
   rw [decide_eq_false (by simp),if_neg (by decide)]
   refine isTrue_or_nil ?_
   rw [if_neg (by decide)]
   refine exn ?_
   refine exc (wpAny_Expr (MethodCall_ (ldE S9 (ve_spied_order L) rfl (mL PySem.F.slot_list_insert PySem.F.type_list_insert (S9.get (j:=3) rfl) (callWith_method1 (arg_ (Subscript_ (Subscript_ (ldE S9 (ve_spied_places L) rfl (cInt fun k15 t15=>itemN (items:=[.ref P0,.ref P1]) (k:=0) (kn _ _ r) rfl (by simp) (cInt fun k16 t16=>itemN (items:=[.int (k0:Nat) t0]) (k:=0) (kn _ _ r0) rfl (by simp) (arg_ (ldE S9 (ve_spied_number L) rfl (arg0 (insert_ (k:=k0) (j:=3) S9 rfl (by lia) (by lia) fun h17 S17=>?_)))))))))))))))
   have hI:IntsAre (oi.take k0++Value.int x tv::oi.drop k0) (ins o k0 x):=(ints_take hoi k0).append (.cons _ _ (ints_drop hoi k0))
   have e:(a.d0,b0')::(a.d1,b1')::(220,bp')::([(Or,lob (oi.take k0++Value.int x tv::oi.drop k0) (no+1)),(Dc,oD),(L+1,cob (some (.ref T))),(Sz,lob [.int (a.H.length:Nat) tz] z)]++(new++(Z++own)))=((a.d0,b0')::(a.d1,b1')::(220,bp')::([(Or,lob (oi.take k0++Value.int x tv::oi.drop k0) (no+1)),(Dc,oD),(L+1,cob (some (.ref T))),(Sz,lob [.int (a.H.length:Nat) tz] z)]++(new++Z)))++own:=by simp
   have S18:=e▸(show St g L h17 nm_spied [some (.ref a.t),some (.ref lp),some (.ref Sz),some (.ref Dc),some (.int x tv),some (.ref Or),some (.ref P)] ((a.d0,b0')::(a.d1,b1')::(220,bp')::([(Or,lob (oi.take k0++Value.int x tv::oi.drop k0) (no+1)),(Dc,oD),(L+1,cob (some (.ref T))),(Sz,lob [.int (a.H.length:Nat) tz] z)]++(new++(Z++own)))) from S17)
   refine exn (exn (TN hTq S18 hg7 ⟨_,_,b0',b1',bp',_,_,ins o k0 x,_,rfl,rfl,hct7,M7,hI,(hk k0 hk0).mpr rfl,fun u=>?_⟩))
   rw [ins_mem,htk,List.mem_append,List.mem_singleton,hm u]
   constructor
   ·rintro (rfl | ⟨q1,q2⟩)
    ·exact⟨.inr rfl,hxO⟩
    ·exact⟨.inl q1,q2⟩
   ·rintro ⟨q1 | q1,q2⟩
    ·exact .inr ⟨q1,q2⟩
    ·exact .inl q1
  ·rw [decide_eq_false hc,if_neg (by decide)]
   refine exn (exn (TN hTq (mu:=(a.d0,b0)::(a.d1,b1)::(220,bp)::([(Or,lob oi no),(Dc,oD),(L+1,cob (some (.ref T))),(Sz,lob [.int (a.H.length:Nat) tz] z)]++Z)) S3 hg2 ⟨_,_,b0,b1,bp,oi,no,o,Z,rfl,rfl,hct,M2,hoi,hs,fun u=>?_⟩))
   rw [hm u,htk,List.mem_append,List.mem_singleton]
   constructor
   ·rintro ⟨q1,q2⟩;exact⟨.inl q1,q2⟩
   ·rintro ⟨q1 | q1,q2⟩
    ·exact⟨q1,q2⟩
    ·subst q1;exact absurd ((hO u).mp q2) hc
 ·rintro _ _ h2 gs2 t2 ⟨y4,y6,b0,b1,bp,oi,no,o,Z,rfl,rfl,hct,M2,hoi,hs,hm⟩ hg2 S2
  rw [hpi.length] at hm
  have e:o=O:=hs.eq_of_length (Nat.le_antisymm hs.length_le (nodup_len nd fun u hu=>(hm u).mpr ⟨by rw [List.take_length];exact hOp u hu,hu⟩))
  subst e
  exact k h2 gs2 t2 y4 y6 b0 b1 bp oi no Z hg2 hct M2 hoi S2
end
inductive SV(a:Ma)(Rl:Rel)(v:Value)(n:Nat):Prop
 | mk (T items z) (e:v=.ref T) (r:Rl T (lob items z)) (i:IntsAre items a.H):SV a Rl v n
theorem SV.mono{a:Ma}{R R':Rel}{v:Value}{n:Nat}(m:∀ b o,R b o→R' b o)(h:SV a R v n):SV a R' v n:=let ⟨T,i,z,e,r,q⟩:=h;⟨T,i,z,e,m _ _ r,q⟩
theorem fr3{α:Type}{u a b c:α}{Z:List α}:(u::a::b::c::Z).Perm (a::b::c::u::Z):=(List.perm_middle (l₁:=[a,b,c])).symm
theorem frC{α:Type}{a b c d e:α}{new:List α}:(a::b::c::(new++[d,e])).Perm (a::b::c::e::(new++[d])) :=
 ((List.perm_append_singleton e (new++[d])).symm.symm |> fun p=>(by simpa using p:(new++[d,e]).Perm (e::(new++[d])))).cons c |>.cons b |>.cons a
section
variable{w:World}{A:Around}{E:Value→Shared→Prop}{s s':Shared}{mg mb:Str→Option Value}{G g h:Heap}{gs:Array GenState}{dr:Drawn}{tk:Nat}{os:OsState}{L C:Addr}{nm:List Str}{ls:List (Option Value)}{mu Z:List (Addr×Obj)}{a:Ma}{R:Rel}{od0 od1 op oD:Obj}
theorem spied_spec{lp:Addr}{pi:List Value}{np:Nat}{pool O:List Int}(X:Pre w mg mb G A a R s 20 od0 od1 op)(hlp:(hideAll s.heap a.W).get? lp=some (lob pi np))(hpi:IntsAre pi pool)(ndp:pool.Nodup)(hp0:pool≠[])(hp:pool.length≤40)
  (nd:O.Nodup) (hO:∀ u,u∈O↔0 < a.H.count u) (hOp:∀ u∈O,u∈pool) (hH:a.H=its O fun n=>a.H.count n) :
  codeAny (model prog w) A (.call (.ref 275) ⟨[.ref a.t,.ref lp],[]⟩) (Ret a.W s (Po w a R s (SV a))) s:=by
 refine enterM X (by decide) (fn_spied _) (bi_spied _ _ _ _) nm_spied [none,none,none,none,none,none,none] rfl led_spied fun Q hQ L h₁ hL D hRg S=>?_
 refine ba_cons (stE S (ve_spied_matchers L) (nB rfl) fun h2 t2 S2=>ba_cons (stE S2 (ve_spied_pool L) (nB rfl) fun h3 t3 S3=>ba_nil ⟨S3.F.keep,?_⟩))
 have hA:=X.hA
 have hdep:=X.dep
 have hu:=X.u
 have z1:=X.z1
 have z2:=X.z2
 have hpl:(pool.take 1).length=1:=by
  cases pool with
  | nil=>exact absurd rfl hp0
  | cons x r=>simp
 have hpil:=hpi.length
 have S4:St (hideAll s.heap a.W) L h3 nm_spied [some (.ref a.t),some (.ref lp),none,none,none,none,none] ((a.d0,od0)::(a.d1,od1)::(220,op)::[(L+1,cob none)]):=S3.perm fr3
 refine exc (asgE (cG S4 D (ge_spied__law_told L) (gn_told _) (fn_told _) (arg_ (ldE S4 (ve_spied_matchers L) rfl (arg_ (sub2 (ldE S4 (ve_spied_pool L) rfl (pt0 (pt1 (cInt fun k5 t5=>getSl S4 (lob_list (S4.old hlp)) .none (.int _ _) .none (by simp) (by lia) fun h6 D6 S6=>arg0 ⟨D.k.keeps S6.F.keep,?_⟩))))))))))
 have e6:(slicePick pi.toArray none (some 1) none).toList=pi.take 1:=pick_upto _ 1
 rw [e6] at S6
 have S7:=S6.perm fr3
 refine callMa (k:=12) (mu:=[(D6,lob (pi.take 1) 0)]) S7 D hRg (fun p hp=>by rw [mS hp];exact .head _) hA (by show A.depth+1+12 < _;lia) (by show A.units+3+3 * 12 < _;lia) X.gs X.ct (X.M.mono fun b o e=>.inl e) z1 z2 (fun X'=>told_spec X' ⟨_,_,.inr (.head _),ints_take hpi 1⟩ (by lia)) ?_ TV.mono
 intro v h8 gs8 t8 b0 b1 bp new hg8 hct8 S8 M8 hv
 obtain⟨T,T0,T1,m,rfl,rT,r0,r1⟩:=hv
 have S9:St (hideAll s.heap a.W) L h8 nm_spied [some (.ref a.t),some (.ref lp),none,none,none,none,none] ((a.d0,b0)::(a.d1,b1)::(220,bp)::(L+1,cob none)::(new++[(D6,lob (pi.take 1) 0)])):=S8.perm frC
 refine stC_ (j:=3) S9 (ce_spied_told L) rfl fun h10 S10=>?_
 generalize hY:new++[(D6,(lob (pi.take 1) 0:Obj))]=Y at S10 M8 rT r0
 obtain⟨m0,u1,u2,u3,tot,rT0,_,_,_⟩:=r0
 have e1:(((pool.take 1).length:Int)+(a.H.length:Int))=((1+a.H.length:Nat):Int):=by lia
 have e2:(min ((pool.take 1).length:Int) (a.H.length:Int))=1:=by lia
 unfold toldL at rT0
 rw [e1,e2] at rT0
 have orY:∀ {b o},R.and Y b o→(b,o)∈Y∨(hideAll s.heap a.W).get? b=some o:=fun e=>e.elim (fun e=>.inr (hRg _ _ e)) .inl
 refine exc (spied_sizes (n:=a.H.length) S10 hA hg8 (orY rT) (orY rT0) D z1 z2 fun h11 gs11 t11 Sz tz z hg11 S11=>?_)
 refine exc (wpAny_If (wC (Call_ (lbE S11 D (ge_spied_len L) (bn_len _) (cB (arg_ (ldE S11 (ve_spied_sizes L) rfl (arg0 (lenN (S11.get (j:=4) rfl) (by simp) fun k12 t12=>cInt fun k13 t13=>neN (a:=1) (b:=1) (wT ?_))))))))))
 rw [decide_eq_false (by simp),if_neg (by decide)]
 refine exn ?_
 refine exc (asgE (newD S11 fun h14 oD hD S14=>stE S14 (ve_spied_counts L) (nB rfl) fun h15 t15 S15=>?_))
 refine exc (spied_counts (S15.perm fr3) D hRg hA (by show A.depth+1+16 < _;lia) (by show A.units+3+48 < _;lia) hg11 hct8 M8 hlp hpi hp hD (fun x=>?_) z1 z2 fun h16 gs16 t16 x4 c0 c1 cp oD' Y2 hg16 hct16 M16 hDC S16=>?_)
 ·have:=its_side (O:=O) (c:=fun n=>a.H.count n) (x:=x) nd
  rwa [← hH] at this
 refine exc (asgE (List_ (arg0 (newL S16 (by simp) fun h17 S17=>stE S17 (ve_spied_order L) (nB rfl) fun h18 t18 S18=>?_))))
 refine exc (spied_orders (S18.perm fr3) D hRg hA (by show A.depth+1+18 < _;exact Nat.le_of_lt hdep) (by show A.units+3+54 < _;lia) hg16 hct16 M16 hlp hpi ndp hDC nd hO hOp hH z1 z2 fun h19 gs19 t19 x4' x6' d0 d1 dp oi no Y3 hg19 hct19 M19 hoi S19=>?_)
 have hcn:∀ n,a.H.count n≤16:=fun n=>ntr List.count_le_length z2
 have hOl:O.length≤16:=ntr (its_ones fun n hn=>(hO n).mp hn).length_le (hH▸z2)
 refine exc (wpAny_Return_some (cG S19 D (ge_spied__law_items L) (gn_items _) (fn_items _) (arg_ (ldE S19 (ve_spied_order L) rfl (arg_ (ldE S19 (ve_spied_counts L) rfl (arg0 ⟨D.k.keeps S19.F.keep,?_⟩)))))))
 refine callItems S19 D hA (by show A.depth+1+2 < _;lia) hg19 (S19.get (j:=3) rfl) hoi (S19.get (j:=4) rfl) (hDC.sub hOp) (by lia) (by rw [← hH];lia) (fun n _=>by have:=hcn n;exact Nat.lt_of_le_of_lt ‹_› (by lia)) fun h20 gs20 t20 Gd gi gz hg20 hgi S20=>?_
 rw [← hH] at hgi
 exact endM hQ (S20.perm fr3) hL hg20 rfl rfl hct19 (M19.mono fun b o e=>e.imp id fun m=>.tail _ (mR _ m)) ⟨Gd,gi,gz,rfl,.inr (.head _),hgi⟩
end
section
variable{w:World}{A:Around}{E:Value→Shared→Prop}{s s':Shared}{mg mb:Str→Option Value}{G g h:Heap}{gs:Array GenState}{dr:Drawn}{tk:Nat}{os:OsState}{L C:Addr}{nm:List Str}{ls:List (Option Value)}{mu Z:List (Addr×Obj)}
theorem unT2{prog:Program}{env:Env}{e1 e2:Expr}{x1:Nat}{pos:Pos}{T:Addr}{v1 v2:Value}{Q:Unit→Shared→Prop}(S:St g L h nm ls mu)(hh:A.handled=none)(hT:h.get? T=some (tob [v1,v2]))
  (k:∀ h',St g L h' nm ls mu→wpAny (model prog w) A (assign e1 env v1) (fun _ s₁=>wpAny (model prog w) A (assign e2 env v2) Q E s₁) E ⟨h',gs,dr,tk,os⟩)
  (he:assignEach [e1,e2] env=[(false,assign e1 env),(false,assign e2 env)]:=by rfl) :
  wpAny (model prog w) A (assign (.Tuple [e1,e2] x1 pos) env (.ref T)) Q E ⟨h,gs,dr,tk,os⟩:=by
 refine assign_Tuple_tuple (s:=⟨h,gs,dr,tk,os⟩) hh (items:=[v1,v2].toArray) ⟨_,hT,rfl,0,rfl⟩ (by rw [he];rfl) (by rw [he];rfl) fun h' hx=>?_
 have S':St g L h' nm ls mu:=S.re (S.F.extBut hx (Nat.le_refl _)) (S.N.extBut hx (Nat.le_refl _))
 rw [he]
 refine ord_cons (wpAny_mono (k h' S') (fun _ s₁ h₁=>?_) fun _ _ x=>x)
 obtain⟨_,_,_,_,_⟩:=s₁
 refine ord_cons (wpAny_mono h₁ (fun _ s₂ h₂=>?_) fun _ _ x=>x)
 obtain⟨_,_,_,_,_⟩:=s₂
 exact ord_nil h₂
noncomputable abbrev lsL(la lo:Addr)(x:Int)(tx:Tok)(f:Bool)(lg rn:Nat)(tl tr:Tok)(xk xs:Option Value):List (Option Value):=[some (.ref la),some (.int x tx),some (.ref lo),some (.bool f),some (.int (lg:Nat) tl),some (.int (rn:Nat) tr),xk,xs]
inductive LoJ(la lo dc:Addr)(x:Int)(tx:Tok)(f:Bool)(L:Addr)(O ac:List Int)(c:Int→Nat)(i:Nat)(ls:List (Option Value))(mu:List (Addr×Obj)):Prop
 | mk (tl tr xk xs) (e0:ls=lsL la lo x tx f (lrs O ac c i).1 (lrs O ac c i).2 tl tr xk xs) (e1:mu=[(L+1,cob (some (.ref dc)))]):LoJ la lo dc x tx f L O ac c i ls mu
inductive LoK(s:Shared)(la lo dc:Addr)(x:Int)(tx:Tok)(f:Bool)(L:Addr)(O ac:List Int)(c:Int→Nat)(i:Nat)(tl ti:Tok)(xs:Option Value)(own:List (Addr×Obj))(gs:Array GenState)(s':Shared):Prop
 | mk (h' tk' tr) (q0:s'=⟨h',gs,s.drawn,tk',s.os⟩) (q1:St (hideAll s.heap []) L h' nm_lost (lsL la lo x tx f (lrs O ac c i).1 (if 0 < i∧ix O (ac.getD i 0)=ix O (ac.getD (i - 1) 0)+1 then (lrs O ac c i).2 else 0) tl tr (some (.int (i:Nat) ti)) xs) ([(L+1,cob (some (.ref dc)))]++own)):LoK s la lo dc x tx f L O ac c i tl ti xs own gs s'
inductive LoS(s:Shared)(la lo dc:Addr)(x:Int)(tx:Tok)(f:Bool)(L:Addr)(O ac:List Int)(c:Int→Nat)(tl tr:Tok)(xk:Option Value)(gs:Array GenState)(s':Shared):Prop
 | mk (h' tk') (q0:s'=⟨h',gs,s.drawn,tk',s.os⟩) (q1:St (hideAll s.heap []) L h' nm_lost (lsL la lo x tx f (lgst O ac c) (lrs O ac c ac.length).2 tl tr xk (some (.bool (decide (lgst O ac c < c x∨(c x=lgst O ac c∧f=true)))))) [(L+1,cob (some (.ref dc)))]):LoS s la lo dc x tx f L O ac c tl tr xk gs s'
inductive LcJ(dc:Addr)(L:Addr)(ac:List Int)(c:Int→Nat)(C D:Addr)(i:Nat)(ys:List Value)(ls:List (Option Value))(mu:List (Addr×Obj)):Prop
 | mk (x1) (e0:ls=[x1]) (e1:mu=[(L+1,cob (some (.ref dc)))]) (e2:IntsAre ys ((ac.take i).map fun n=>((c n:Nat):Int))):LcJ dc L ac c C D i ys ls mu
theorem sum_cast(c:Int→Nat):∀ l:List Int,(l.map fun n=>((c n:Nat):Int)).sum=(((l.map c).sum:Nat):Int)
 | []=>rfl
 | x::l=>by simp only [List.map_cons,List.sum_cons,sum_cast c l];lia
theorem lost_spec{la lo dc:Addr}{ai oi:List Value}{na no:Nat}{ac O:List Int}{od:Obj}{c:Int→Nat}{x:Int}{tx:Tok}{f:Bool}(D:Gd (K w.params) mg mb s.heap)(hA:A.handled=none)(hdep:A.depth+2 < recursionLimit)(hgs:AllBare s.gens)
  (hla:s.heap.get? la=some (lob ai na)) (hai:IntsAre ai ac) (hlo:s.heap.get? lo=some (lob oi no)) (hoi:IntsAre oi O) (nd:O.Nodup) (hd:s.heap.get? dc=some od) (hc:DC w od O c) (hx:x∈O) (hac:∀ u∈ac,u∈O) (hz:O.length≤100) (hz2:ac.length≤100) :
  codeAny (model prog w) A (.call (.ref 280) ⟨[.ref la,.int x tx,.ref lo,.ref dc,.bool f],[]⟩) (Ret [] s fun v s'=>∃ t,v=.int (lostV O ac c x f:Nat) t) s:=by
 refine oEA hc fun kvs DK hk=>?_
 obtain⟨tcx,hkx⟩:=hk x hx
 refine enterD [] (fn_lost _) D (Nat.le_of_lt (Nat.le_of_lt hdep)) (bi_lost _ _ _ _ _ _ _) (fun _ h=>nomatch h) .nil (fun h=>nomatch h) nm_lost [none,none,none,none,none,none,none,none] rfl led_lost fun Po hPo L h₁ hL S=>?_
 have Dg:Gd (K w.params) mg mb (hideAll s.heap []):=D.keeps fun b o e=>hideAll_get _ e (fun h=>nomatch h)
 have hla':(hideAll s.heap []).get? la=some (lob ai na):=hideAll_get _ hla (fun h=>nomatch h)
 have hlo':(hideAll s.heap []).get? lo=some (lob oi no):=hideAll_get _ hlo (fun h=>nomatch h)
 have hd':(hideAll s.heap []).get? dc=some od:=hideAll_get _ hd (fun h=>nomatch h)
 have hail:=hai.length
 have hoil:=hoi.length
 refine ba_cons (stE S (ve_lost_across L) (nB rfl) fun h2 t2 S2=>ba_cons (stE S2 (ve_lost_number L) (nB rfl) fun h3 t3 S3=>ba_cons (stE S3 (ve_lost_order L) (nB rfl) fun h4 t4 S4=>ba_cons (stC_ (j:=0) S4 (ce_lost_counts L) rfl fun h5 S5=>ba_cons (stE S5 (ve_lost_first L) (nB rfl) fun h6 t6 S6=>ba_nil ⟨S6.F.keep,?_⟩)))))
 refine exc (Assign_Tuple (Tuple_ (arg_ (cInt fun k7 t7=>arg_ (cInt fun k8 t8=>arg0 (newT S6 (by simp) fun h9 S9=>unT2 S9 (by exact hA) (S9.get (j:=0) rfl) fun h10 S10=>assign_Name (stE S10 (ve_lost_longest L) (nB rfl) fun h11 t11 S11=>assign_Name (stE S11 (ve_lost_run L) (nB rfl) fun h12 t12 S12=>?_))))))) (hw:=by kernel_rfl))
 have S9:St (hideAll s.heap []) L h12 nm_lost (lsL la lo x tx f 0 0 k7 k8 none none) [(L+1,cob (some (.ref dc)))]:=S12.drop (List.sublist_cons_self _ _)
 refine exc (wpAny_For (Call_ (lbE S9 Dg (ge_lost_range L) (bn_range _) (cT1 (arg_ (Call_ (lbE S9 Dg (ge_lost_len L) (bn_len _) (cB (arg_ (ldE S9 (ve_lost_across L) rfl (arg0 (lenN (S9.old hla') (by lia) fun k10 t10=>arg0 ?_))))))))))))
 rw [hail]
 refine forR1E (n:=ac.length) (LoJ la lo dc x tx f L O ac c) S9 hA hgs (Nat.lt_of_le_of_lt ‹_› (by lia)) ?_ ?_ ⟨k7,k8,none,none,rfl,rfl⟩
 ·rintro i ti _ _ own h11 gs11 t11 hi ⟨tl,tr,xk,xs,rfl,rfl⟩ hg11 S11 T hT
  refine assign_Name (stE S11 (ve_lost_k L) (nB rfl) fun h12 t12 S12=>?_)
  replace S12:St (hideAll s.heap []) L h12 nm_lost (lsL la lo x tx f (lrs O ac c i).1 (lrs O ac c i).2 tl tr (some (.int (i:Nat) ti)) xs) ([(L+1,cob (some (.ref dc)))]++own):=S12
  obtain⟨ti1,ei⟩:=intAt hai hi
  have hmi:=hac _ (getD_in hi)
  obtain⟨tci,hki⟩:=hk _ hmi
  refine join (LoK s la lo dc x tx f L O ac c i tl ti xs own gs11) ?_ ?_
  ·intro I' hI
   have other:∀ {h':Heap} {t':Nat},St (hideAll s.heap []) L h' nm_lost (lsL la lo x tx f (lrs O ac c i).1 (lrs O ac c i).2 tl tr (some (.int (i:Nat) ti)) xs) ([(L+1,cob (some (.ref dc)))]++own)→¬ (0 < i∧ix O (ac.getD i 0)=ix O (ac.getD (i - 1) 0)+1) →
     ∀ (k:Tok),wpAny (model prog w) (A.deeper (e_lost L)) (storeName (e_lost L) (ofString "run") (.int (0:Nat) k)) (fun _ s'=>Flow.next=.next∧I' s') (fun _ _=>False) ⟨h',gs11,s.drawn,t',s.os⟩:=fun S hn k =>
    stE S (ve_lost_run L) (nB rfl) fun h13 t13 S13=>⟨rfl,hI _ ⟨h13,t13,k,rfl,by rw [if_neg hn];exact S13⟩⟩
   refine asgE (IfExp_ (isTrue_and (wC (ldE S12 (ve_lost_k L) rfl (cInt fun k13 t13=>gtN (b:=0) (wT ?_))))))
   by_cases h0:0 < i
   ·rw [decide_eq_true h0,if_pos rfl]
    obtain⟨tj1,ej⟩:=intAt hai (k:=i - 1) (Nat.lt_of_le_of_lt (Nat.sub_le _ _) (by lia))
    have hmj:=hac _ (getD_in (xs:=ac) (i:=i - 1) (by lia))
    refine isTrue_and (wC (MethodCall_ (ldE S12 (ve_lost_order L) rfl (mL PySem.F.slot_list_index PySem.F.type_list_index (S12.old hlo') (callWith_method1 (arg_ (Subscript_ (ldE S12 (ve_lost_across L) rfl (ldE S12 (ve_lost_k L) rfl (itemN (S12.old hla') ei (by lia) (arg0 (index_ (S12.old hlo') hoi nd (ix_get hmi) (by lia) fun k14 t14=>?_))))))))))))
    refine wpAny_BinOp (MethodCall_ (ldE S12 (ve_lost_order L) rfl (mL PySem.F.slot_list_index PySem.F.type_list_index (S12.old hlo') (callWith_method1 (arg_ (Subscript_ (ldE S12 (ve_lost_across L) rfl (wpAny_BinOp (ldE S12 (ve_lost_k L) rfl (cInt fun k15 t15=>subN1 h0 fun k16 t16=>itemN (S12.old hla') ej (by lia) (arg0 (index_ (S12.old hlo') hoi nd (ix_get hmj) (by lia) fun k17 t17=>cInt fun k18 t18=>addN (b:=1) fun k19 t19=>eqN (wT ?_)))))))))))))
    by_cases he:ix O (ac.getD i 0)=ix O (ac.getD (i - 1) 0)+1
    ·rw [decide_eq_true he,if_pos rfl]
     refine isTrue_and_nil ?_
     rw [if_pos rfl]
     refine ldE S12 (ve_lost_run L) rfl (stE S12 (ve_lost_run L) (nB rfl) fun h20 t20 S20=>⟨rfl,hI _ ⟨h20,t20,tr,rfl,?_⟩⟩)
     rw [if_pos ⟨h0,he⟩];exact S20
    ·rw [decide_eq_false he,if_neg (by decide),if_neg (by decide)]
     exact cInt fun k20 t20=>other S12 (fun z=>he z.2) k20
   ·rw [decide_eq_false h0,if_neg (by decide),if_neg (by decide)]
    exact cInt fun k20 t20=>other S12 (fun z=>h0 z.1) k20
  ·rintro _ ⟨h21,t21,tr2,rfl,S21⟩
   refine exc (augE S21 (ve_lost_run L) rfl (Subscript_ (ldC_ (j:=0) S21 (ce_lost_counts L) rfl (Subscript_ (ldE S21 (ve_lost_across L) rfl (ldE S21 (ve_lost_k L) rfl (itemN (S21.old hla') ei (by lia) (itemD (DK.of (S21.old hd')) hki fun t22=>iaddN fun k23 t23=>stE S21 (ve_lost_run L) (nB rfl) fun h24 t24 S24=>?_))))))))
   refine exc (asgE (Call_ (lbE S24 Dg (ge_lost_max L) (bn_max _) (cB (arg_ (ldE S24 (ve_lost_longest L) rfl (arg_ (ldE S24 (ve_lost_run L) rfl (arg0 (max_ (by exact hA) S24 fun h25 t25 k25 S25=>stE S25 (ve_lost_longest L) (nB rfl) fun h26 t26 S26=>?_))))))))))
   exact exn (TN hT (mu:=[(L+1,cob (some (.ref dc)))]) S26 hg11 ⟨_,_,_,_,rfl,rfl⟩)
 ·rintro _ _ h11 gs11 t11 ⟨tl,tr,xk,xs,rfl,rfl⟩ hg11 S11
  replace S11:St (hideAll s.heap []) L h11 nm_lost (lsL la lo x tx f (lgst O ac c) (lrs O ac c ac.length).2 tl tr xk xs) [(L+1,cob (some (.ref dc)))]:=S11
  refine join (LoS s la lo dc x tx f L O ac c tl tr xk gs11) ?_ ?_
  ·intro I' hI
   have fin:∀ {h':Heap} {t':Nat} (b:Bool),St (hideAll s.heap []) L h' nm_lost (lsL la lo x tx f (lgst O ac c) (lrs O ac c ac.length).2 tl tr xk xs) [(L+1,cob (some (.ref dc)))]→decide (lgst O ac c < c x∨(c x=lgst O ac c∧f=true))=b →
     wpAny (model prog w) (A.deeper (e_lost L)) (storeName (e_lost L) (ofString "stays") (.bool b)) (fun _ s'=>Flow.next=.next∧I' s') (fun _ _=>False) ⟨h',gs11,s.drawn,t',s.os⟩:=fun b S hb =>
    stE S (ve_lost_stays L) (nB rfl) fun h13 t13 S13=>⟨rfl,hI _ ⟨h13,t13,rfl,by rw [hb];exact S13⟩⟩
   refine asgE (BoolOp_or (wpAny_Compare1 (Subscript_ (ldC_ (j:=0) S11 (ce_lost_counts L) rfl (ldE S11 (ve_lost_number L) rfl (itemD (DK.of (S11.old hd')) hkx fun t12=>ldE S11 (ve_lost_longest L) rfl (gtN (wT ?_))))))))
   by_cases h1:lgst O ac c < c x
   ·rw [decide_eq_true h1,if_pos rfl]
    exact fin true S11 (decide_eq_true (.inl h1))
   ·rw [decide_eq_false h1,if_neg (by decide)]
    refine BoolOp_one (BoolOp_and (wpAny_Compare1 (Subscript_ (ldC_ (j:=0) S11 (ce_lost_counts L) rfl (ldE S11 (ve_lost_number L) rfl (itemD (DK.of (S11.old hd')) hkx fun t12=>ldE S11 (ve_lost_longest L) rfl (eqN (wT ?_))))))))
    by_cases h2:c x=lgst O ac c
    ·rw [decide_eq_true h2,if_pos rfl]
     refine BoolOp_one (ldE S11 (ve_lost_first L) rfl (fin f S11 ?_))
     cases f with
     | true=>exact decide_eq_true (.inr ⟨h2,rfl⟩)
     | false=>exact decide_eq_false fun z=>z.elim h1 fun z=>nomatch z.2
    ·rw [decide_eq_false h2,if_neg (by decide)]
     exact fin false S11 (decide_eq_false fun z=>z.elim h1 fun z=>h2 z.1)
  ·rintro _ ⟨h13,t13,rfl,S13⟩
   refine exc (wpAny_Return_some (IfExp_ (isTrue_plain (ldE S13 (ve_lost_stays L) rfl (wT ?_)))))
   by_cases hs:lgst O ac c < c x∨(c x=lgst O ac c∧f=true)
   ·rw [decide_eq_true hs,if_pos rfl]
    refine Call_ (lbE S13 Dg (ge_lost_sum L) (bn_sum _) (cB (arg_ (lc_ (sf_lost_c1 L) (ldE S13 (ve_lost_across L) rfl ?_)))))
    refine compLV nm_lost_c1 (LcJ dc L ac c) S13 hA hg11 (lob_list (S13.old hla')) (.inl ⟨_,hla'⟩) (by lia) ?_ ?_ (fun C D0=>⟨none,rfl,by kernel_rfl,by simpa using IntsAre.nil⟩)
    ·rintro g' C D0 hsub i v ys m ls mu own h14 gs14 t14 hi hv ⟨x1,rfl,rfl,hI⟩ hlen hg14 S14 T1 T0 q1 q0
     have hi':i < ac.length:=by rw [← hail];exact hi
     obtain⟨tv,ev⟩:=intAt hai hi'
     rw [ev] at hv
     obtain rfl:=Option.some.inj hv
     obtain⟨tci,hki⟩:=hk _ (hac _ (getD_in hi'))
     refine assign_Name (stE S14 (ve_lost_c1_one L C) (nB rfl) fun h15 t15 S15=>?_)
     refine tst0 ?_
     rw [if_pos rfl]
     refine Subscript_ (ldC_ (j:=1) S15 (ce_lost_c1_counts L C) rfl (ldE S15 (ve_lost_c1_one L C) rfl (itemD (DK.of (S15.old (hsub _ _ hd'))) hki fun t16=>q1 _ _ ⟨_,_,h15,gs14,_,rfl,hg14,S15,_,rfl,rfl,?_⟩)))
     rw [take_snoc hi',List.map_append]
     exact ints_snoc hI
    ·rintro C D0 ys m lsc mu h14 gs14 t14 ⟨x1,rfl,rfl,hI⟩ hg14 S14
     rw [hail,List.take_length] at hI
     refine arg0 (sumL (by exact hA) S14 (lob_list (S14.get (j:=0) rfl)) hI fun h15 t15 k15 S15=>?_)
     have S16:=S15.drop (mu':=[]) (List.nil_sublist _)
     exact endP hPo S16 hL (fun _=>hg14) rfl rfl ⟨k15,by rw [sum_cast];unfold lostV;rw [if_pos hs]⟩
   ·rw [decide_eq_false hs,if_neg (by decide)]
    refine Subscript_ (ldC_ (j:=0) S13 (ce_lost_counts L) rfl (ldE S13 (ve_lost_number L) rfl (itemD (DK.of (S13.old hd')) hkx fun t14=>?_)))
    have S16:=S13.drop (mu':=[]) (List.nil_sublist _)
    exact endP hPo S16 hL (fun _=>hg11) rfl rfl ⟨tcx,by unfold lostV;rw [if_neg hs]⟩
end
section
variable{w:World}{A:Around}{E:Value→Shared→Prop}{s s':Shared}{mg mb:Str→Option Value}{G g h:Heap}{gs:Array GenState}{dr:Drawn}{tk:Nat}{os:OsState}{L C:Addr}{nm:List Str}{ls:List (Option Value)}{mu Z:List (Addr×Obj)}{a:Ma}{R:Rel}{od0 od1 op:Obj}
noncomputable abbrev mvL(t lr lo dc:Addr)(z:Nat)(ts:Tok)(r:Nat)(tr:Tok)(Rs:Addr)(k:Nat)(tk:Tok)(Gd T:Addr)(xs xl:Option Value):List (Option Value):=[some (.ref t),some (.ref lr),some (.ref lo),some (.ref dc),some (.int (z:Nat) ts),some (.int (r:Nat) tr),some (.ref Rs),some (.int (k:Nat) tk),some (.ref Gd),some (.ref T),xs,xl]
inductive MsJ(t lr lo dc:Addr)(z:Nat)(ts:Tok)(r:Nat)(tr:Tok)(Rs:Addr)(k:Nat)(tk:Tok)(Gd T:Addr)(mu0:List (Addr×Obj))(j:Nat)(ls:List (Option Value))(mu:List (Addr×Obj)):Prop
 | mk (xs xl) (e0:ls=mvL t lr lo dc z ts r tr Rs k tk Gd T xs xl) (e1:mu0=mu):MsJ t lr lo dc z ts r tr Rs k tk Gd T mu0 j ls mu
theorem moved_sides{t lr lo dc Rs Gd T T0 T1:Addr}{ri oi si gi:List Value}{nr no ns ng m:Nat}{row O:List Int}{odc:Obj}{c:Int→Nat}{z l r k:Nat}{ts tr tk':Tok}{xs xl:Option Value}{Q:Flow→Shared→Prop}
  (S:St g L h nm_moved_right (mvL t lr lo dc z ts r tr Rs k tk' Gd T xs xl) mu) (D:Mine.Gd (K w.params) mg mb g) (hA:A.handled=none) (hdep:A.depth+3 < recursionLimit) (hgs:AllBare gs)
  (k1:Kn g mu lr (lob ri nr)) (hri:IntsAre ri row) (k2:Kn g mu lo (lob oi no)) (hoi:IntsAre oi O) (k3:Kn g mu dc odc) (hDC:DC w odc O c) (k4:Kn g mu Rs (lob si ns)) (hsi:IntsAre si (rst row r)) (k5:Kn g mu Gd (lob gi ng)) (hgi:gi.length=l) (k6:Kn g mu T (lob [.ref T0,.ref T1] m))
  (nd:O.Nodup) (hs:row.Sublist O) (hr:r < row.length) (hk:k < row.length) (hO:O.length≤16) (z1:8≤z) (z2:z≤16) (hl:l≤z)
  (rows:∀ j,j < 2→∃ Tj m t1 f2 f3 tot,[Value.ref T0,.ref T1][j]?=some (.ref Tj)∧Kn g mu Tj (lob [.float (ratioF (tot:Nat) ((l+z:Nat):Int)) (t1+1),f2,f3] m)∧tot+lostV O (acr row r k) c (row.getD r 0) (decide (k < r) == decide (j=0))=l)
  (q:∀ h' gs' tk2 xs xl,AllBare gs'→St g L h' nm_moved_right (mvL t lr lo dc z ts r tr Rs k tk' Gd T xs xl) mu→Q .next ⟨h',gs',dr,tk2,os⟩) :
  wpAny (model prog w) A (exec ((sb ((sb (bd_moved_right.getD 0 (.Pass ⟨0,0,0,0⟩))).getD 1 (.Pass ⟨0,0,0,0⟩))).getD 2 (.Pass ⟨0,0,0,0⟩)) (e_moved_right L)) Q E ⟨h,gs,dr,tk,os⟩:=by
 have lrow:row.length≤16:=ntr hs.length_le hO
 have hril:=hri.length
 have hsil:=hsi.length
 have lrst:(rst row r).length=row.length - 1:=by unfold rst;rw [List.length_append,List.length_take,List.length_drop];exact Nat.eq_sub_of_add_eq (by lia)
 have hxO:row.getD r 0∈O:=hs.subset (getD_in hr)
 have hac:∀ u∈acr row r k,u∈O:=fun u hu=>by
  have:=List.mem_of_mem_drop (List.mem_of_mem_take hu)
  unfold rst at this
  rcases List.mem_append.mp this with m | m
  ·exact hs.subset (List.mem_of_mem_take m)
  ·exact hs.subset (List.mem_of_mem_drop m)
 refine wpAny_For (Call_ (lbE S D (ge_moved_right_range L) (bn_range _) (cT1 (arg_ (cInt fun k7 t7=>arg0 ?_)))))
 refine forR1E (n:=2) (MsJ t lr lo dc z ts r tr Rs k tk' Gd T mu) S hA hgs (by decide) ?_ ?_ ⟨xs,xl,rfl,rfl⟩
 ·rintro j tj _ _ own h8 gs8 t8 hj ⟨xs,xl,rfl,rfl⟩ hg8 S8 Tq hTq
  refine assign_Name (stE S8 (ve_moved_right_side L) (nB rfl) fun h9 t9 S9=>?_)
  replace S9:St g L h9 nm_moved_right (mvL t lr lo dc z ts r tr Rs k tk' Gd T (some (.int (j:Nat) tj)) xl) (mu++own):=S9
  have up:∀ {Y:List (Addr×Obj)} {b o},(∀ p∈mu,p∈Y)→Kn g mu b o→Kn g Y b o:=fun hY e=>e.imp id (hY _)
  have inO:∀ p∈mu,p∈mu++own:=fun p hp=>mF _ hp
  refine oEEEEEEAA (rows j hj) fun Tj mj t1 f2 f3 tot hTj kTj heq=>?_
  obtain⟨tx,ex⟩:=intAt hri hr
  refine exc (asgE (cG S9 D (ge_moved_right__law_lost L) (gn_lost _) (fn_lost _) (arg_ (sub2 (ldE S9 (ve_moved_right_rest L) rfl (pt1 (Call_ (lbE S9 D (ge_moved_right_min L) (bn_min _) (cB (arg_ (ldE S9 (ve_moved_right_r L) rfl (arg_ (ldE S9 (ve_moved_right_k L) rfl (arg0 (minN_ hA S9 fun h10 t10 k10 S10=>?_)))))))))))))))
  refine pt1 (Call_ (lbE S10 D (ge_moved_right_max L) (bn_max _) (cB (arg_ (ldE S10 (ve_moved_right_r L) rfl (arg_ (ldE S10 (ve_moved_right_k L) rfl (arg0 (max_ hA S10 fun h11 t11 k11 S11=>?_)))))))))
  refine getSl S11 (lob_list (S11.kn (up inO k4))) (.int _ _) (.int _ _) .none (by simp) (by lia) fun h12 D12 S12=>?_
  rw [pick_run' _ _ _ (by rw [hsil,lrst];exact Nat.le_sub_of_add_le (by lia)) (ntr (Nat.min_le_left _ _) (by lia))] at S12
  have hD12:IntsAre ((si.drop (min r k)).take (max r k - min r k)) (acr row r k):=ints_take (ints_drop hsi _) _
  generalize ((si.drop (min r k)).take (max r k - min r k))=di at S12 hD12
  have in12:∀ p∈mu,p∈(D12,lob di 0)::(mu++own):=fun p hp=>.tail _ (inO p hp)
  refine arg_ (Subscript_ (ldE S12 (ve_moved_right_row L) rfl (ldE S12 (ve_moved_right_r L) rfl (itemN (S12.kn (up in12 k1)) ex (by lia) (arg_ (ldE S12 (ve_moved_right_order L) rfl (arg_ (ldE S12 (ve_moved_right_counts L) rfl (arg_ (wpAny_Compare1 (wpAny_Compare1 (ldE S12 (ve_moved_right_k L) rfl (ldE S12 (ve_moved_right_r L) rfl (ltN (wpAny_Compare1 (ldE S12 (ve_moved_right_side L) rfl (cInt fun k13 t13=>eqN (b:=0) (PyProof.Rows.eq_bool (arg0 ⟨D.k.keeps S12.F.keep,?_⟩)))))))))))))))))))
  have lac:(acr row r k).length≤100:=by
   unfold acr;rw [List.length_take]
   have:(List.drop (min r k) (rst row r)).length≤(rst row r).length:=by rw [List.length_drop];exact Nat.sub_le _ _
   exact ntr (Nat.min_le_right _ _) (by lia)
  refine callS (lost_spec (x:=row.getD r 0) (f:=decide (k < r) == decide (j=0)) (D.keeps S12.F.keep) hA (Nat.le_of_lt hdep) hg8 (S12.get (j:=0) rfl) hD12 (S12.kn (up in12 k2)) hoi nd (S12.kn (up in12 k3)) hDC hxO hac (by lia) lac) fun v h14 gs14 t14 M14 hv=>?_
  obtain⟨tl,rfl⟩:=hv
  have hg14:=M14.gens hg8
  have S14:=(S12.call0 (s:=⟨h12,gs8,dr,_,os⟩) (s':=⟨h14,gs14,dr,t14,os⟩) M14).drop (List.sublist_cons_self _ _)
  refine stE S14 (ve_moved_right_lost L) (nB rfl) fun h15 t15 S15=>?_
  generalize hlv:lostV O (acr row r k) c (row.getD r 0) (decide (k < r) == decide (j=0))=lv at S15 heq
  replace S15:St g L h15 nm_moved_right (mvL t lr lo dc z ts r tr Rs k tk' Gd T (some (.int (j:Nat) tj)) (some (.int (lv:Nat) tl))) (mu++own):=S15
  refine exc (wpAny_If (wC (Subscript_ (Subscript_ (ldE S15 (ve_moved_right_told L) rfl (ldE S15 (ve_moved_right_side L) rfl (itemN (S15.kn (up inO k6)) hTj (by simp) (cInt fun k16 t16=>itemN (k:=0) (S15.kn (up inO kTj)) rfl (by simp) ?_))))))))
  refine wpAny_BinOp (wpAny_BinOp (cInt fun k17 t17=>wpAny_BinOp (Call_ (lbE S15 D (ge_moved_right_len L) (bn_len _) (cB (arg_ (ldE S15 (ve_moved_right_guess L) rfl (arg0 (lenN (S15.kn (up inO k5)) (by lia) fun k18 t18=>ldE S15 (ve_moved_right_lost L) rfl (subN (by lia) fun k19 t19=>mulN (a:=2) (by decide) fun k20 t20=>?_))))))))))
  refine wpAny_BinOp (Call_ (lbE S15 D (ge_moved_right_len L) (bn_len _) (cB (arg_ (ldE S15 (ve_moved_right_guess L) rfl (arg0 (lenN (S15.kn (up inO k5)) (by lia) fun k21 t21=>ldE S15 (ve_moved_right_size L) rfl (addN' (b:=z) fun k22 t22=>?_))))))))
  rw [hgi]
  refine divN1_ (a:=2 * (l - lv)) (b:=l+z) hA (by lia) (by lia) fun t23=>neFF (wT ?_)
  rw [show l - lv=tot by exact Nat.sub_eq_of_eq_add (by lia),rfEq (by lia) (by lia) (by lia),if_neg (by decide)]
  exact exn (exn (TN hTq S15 hg14 ⟨_,_,rfl,rfl⟩))
 ·rintro _ _ h8 gs8 t8 ⟨xs,xl,rfl,rfl⟩ hg8 S8
  exact q h8 gs8 t8 xs xl hg8 S8
end
theorem Row.toM{Rl:Rel}{xs ys:List Int}{T:Addr}{n l z lost:Nat}(r:Row Rl xs ys T n)(ht:xs.length+ys.length=l+z)(hg:∀ tot,GML xs ys tot→tot+lost=l):∃ m t1 f2 f3 tot,Rl T (lob [.float (ratioF (tot:Nat) ((l+z:Nat):Int)) (t1+1),f2,f3] m)∧tot+lost=l:=by
 obtain⟨m,t1,t2,t3,tot,rT,gT,_,_⟩:=r
 have e1:((xs.length:Int)+(ys.length:Int))=((l+z:Nat):Int):=by exact congrArg Nat.cast (by lia)
 unfold toldL at rT
 rw [e1] at rT
 exact⟨m,t1,_,_,tot,rT,hg tot gT⟩
section
variable{w:World}{A:Around}{E:Value→Shared→Prop}{s s':Shared}{mg mb:Str→Option Value}{G g h:Heap}{gs:Array GenState}{dr:Drawn}{tk:Nat}{os:OsState}{L C:Addr}{nm:List Str}{ls:List (Option Value)}{mu Z:List (Addr×Obj)}{a:Ma}{R:Rel}{od0 od1 op:Obj}
inductive MvJ(w:World)(a:Ma)(R:Rel)(lr lo dc:Addr)(ts:Tok)(i:Nat)(ls:List (Option Value))(mu:List (Addr×Obj)):Prop
 | mk (x5 x6 x7 x8 x9 x10 x11 b0 b1 bp Z) (e0:ls=[some (.ref a.t),some (.ref lr),some (.ref lo),some (.ref dc),some (.int (a.H.length:Nat) ts),x5,x6,x7,x8,x9,x10,x11]) (e1:mu=(a.d0,b0)::(a.d1,b1)::(220,bp)::Z) (e2:CodeTab bp) (e3:MM w (R.and Z) a b0 b1):MvJ w a R lr lo dc ts i ls mu
inductive MvK(w:World)(a:Ma)(R:Rel)(lr lo dc:Addr)(ts:Tok)(r:Nat)(tr:Tok)(Rs:Addr)(F:List (Addr×Obj))(i:Nat)(ls:List (Option Value))(mu:List (Addr×Obj)):Prop
 | mk (x7 x8 x9 x10 x11 b0 b1 bp Z) (e0:ls=[some (.ref a.t),some (.ref lr),some (.ref lo),some (.ref dc),some (.int (a.H.length:Nat) ts),some (.int (r:Nat) tr),some (.ref Rs),x7,x8,x9,x10,x11]) (e1:mu=(a.d0,b0)::(a.d1,b1)::(220,bp)::(Z++F)) (e2:CodeTab bp) (e3:MM w (R.and Z) a b0 b1):MvK w a R lr lo dc ts r tr Rs F i ls mu
theorem moved_spec{lr lo dc:Addr}{ri oi:List Value}{nr no:Nat}{odc:Obj}{ts:Tok}{row O:List Int}{c:Int→Nat}(X:Pre w mg mb G A a R s 20 od0 od1 op)(hlr:(hideAll s.heap a.W).get? lr=some (lob ri nr))(hri:IntsAre ri row)(hlo:(hideAll s.heap a.W).get? lo=some (lob oi no))(hoi:IntsAre oi O)(hdc:(hideAll s.heap a.W).get? dc=some odc)(hDC:DC w odc O c)
  (nd:O.Nodup) (c0:∀ n∈O,0 < c n) (hH:a.H=its O c) (hs:row.Sublist O) (hrow:row=O∨Far O row) :
  codeAny (model prog w) A (.call (.ref 287) ⟨[.ref a.t,.ref lr,.ref lo,.ref dc,.int (a.H.length:Nat) ts],[]⟩) (Ret a.W s (Po w a R s fun _ v _=>v=.bool true)) s:=by
 refine enterM X (by decide) (fn_moved_right _) (bi_moved_right _ _ _ _ _ _ _) nm_moved_right [none,none,none,none,none,none,none,none,none,none,none,none] rfl led_moved_right fun Q hQ L h₁ hL D hRg S=>?_
 refine ba_cons (stE S (ve_moved_right_matchers L) (nB rfl) fun h2 t2 S2=>ba_cons (stE S2 (ve_moved_right_row L) (nB rfl) fun h3 t3 S3=>ba_cons (stE S3 (ve_moved_right_order L) (nB rfl) fun h4 t4 S4=>ba_cons (stE S4 (ve_moved_right_counts L) (nB rfl) fun h5 t5 S5=>ba_cons (stE S5 (ve_moved_right_size L) (nB rfl) fun h6 t6 S6=>ba_nil ⟨S6.F.keep,?_⟩)))))
 have hA:=X.hA
 have hdep:=X.dep
 have hu:=X.u
 have z1:=X.z1
 have z2:=X.z2
 have hOl:O.length≤16:=ntr (its_ones c0).length_le (hH▸z2)
 have lrow:row.length≤16:=ntr hs.length_le hOl
 have hril:=hri.length
 have hcl:∀ n∈O,c n≤16:=fun n hn=>ntr (its_le hn) (hH▸z2)
 have ndr:=nd.sublist hs
 refine exc (wpAny_For (Call_ (lbE S6 D (ge_moved_right_range L) (bn_range _) (cT1 (arg_ (Call_ (lbE S6 D (ge_moved_right_len L) (bn_len _) (cB (arg_ (ldE S6 (ve_moved_right_row L) rfl (arg0 (lenN (S6.old hlr) (by lia) fun k7 t7=>arg0 ?_))))))))))))
 rw [hril]
 refine forR1E (n:=row.length) (MvJ w a R lr lo dc ts) S6 hA X.gs (Nat.lt_of_le_of_lt ‹_› (by lia)) ?_ ?_ ⟨_,_,_,_,_,_,_,od0,od1,op,[],rfl,rfl,X.ct,X.M.mono fun _ _ e=>.inl e⟩
 ·rintro r tr _ _ own h8 gs8 t8 hr ⟨x5,x6,x7,x8,x9,x10,x11,b0,b1,bp,Z,rfl,rfl,hct,M8⟩ hg8 S8 Tq hTq
  refine assign_Name (stE S8 (ve_moved_right_r L) (nB rfl) fun h9 t9 S9=>?_)
  have lrst:(rst row r).length=row.length - 1:=by unfold rst;rw [List.length_append,List.length_take,List.length_drop];exact Nat.eq_sub_of_add_eq (by lia)
  refine exc (asgE (wpAny_BinOp (sub2 (ldE S9 (ve_moved_right_row L) rfl (pt0 (pt1 (ldE S9 (ve_moved_right_r L) rfl (getSl S9 (lob_list (S9.old hlr)) .none (.int _ _) .none (by simp) (by lia) fun h10 D10 S10=>?_))))))))
  rw [pick_upto] at S10
  refine sub2 (ldE S10 (ve_moved_right_row L) rfl (pt1 (wpAny_BinOp (ldE S10 (ve_moved_right_r L) rfl (cInt fun k11 t11=>addN (b:=1) fun k12 t12=>pt0 (getSl S10 (lob_list (S10.old hlr)) (.int _ _) .none .none (by simp) (by lia) fun h13 D13 S13=>?_))))))
  rw [pick_from] at S13
  refine addL S13 (S13.get (j:=1) rfl) (S13.get (j:=0) rfl) (by simp;exact ntr (Nat.min_le_right _ _) (by lia)) (by simp;lia) fun h14 S14=>stE S14 (ve_moved_right_rest L) (nB rfl) fun h15 t15 S15=>?_
  have hsi:IntsAre (List.take r ri++List.drop (r+1) ri) (rst row r):=(ints_take hri r).append (ints_drop hri (r+1))
  generalize hRs:h13.objs.size=Rs at S15
  generalize (List.take r ri++List.drop (r+1) ri)=si at S15 hsi
  have hsil:=hsi.length
  have S16:St (hideAll s.heap a.W) L h15 nm_moved_right [some (.ref a.t),some (.ref lr),some (.ref lo),some (.ref dc),some (.int (a.H.length:Nat) ts),some (.int (r:Nat) tr),some (.ref Rs),x7,x8,x9,x10,x11] ((a.d0,b0)::(a.d1,b1)::(220,bp)::(Z++((Rs,lob si 0)::own))):=by
   have S16:=S15.drop (mu':=(Rs,lob si 0)::((a.d0,b0)::(a.d1,b1)::(220,bp)::Z++own)) (((List.Sublist.refl _).cons _).cons _ |>.cons_cons _)
   exact St.perm S16 (List.perm_middle (l₁:=(a.d0,b0)::(a.d1,b1)::(220,bp)::Z) (l₂:=own)).symm
  refine exc (wpAny_For (Call_ (lbE S16 D (ge_moved_right_range L) (bn_range _) (cT1 (arg_ (Call_ (lbE S16 D (ge_moved_right_len L) (bn_len _) (cB (arg_ (ldE S16 (ve_moved_right_row L) rfl (arg0 (lenN (S16.old hlr) (by lia) fun k17 t17=>arg0 ?_))))))))))))
  rw [hril]
  generalize hF:(Rs,lob si 0)::own=F at S16
  have fRs:(Rs,lob si 0)∈F:=by rw [← hF];exact .head _
  refine forR1E (n:=row.length) (MvK w a R lr lo dc ts r tr Rs F) S16 hA hg8 (by lia) ?_ ?_ ⟨x7,x8,x9,x10,x11,b0,b1,bp,Z,rfl,rfl,hct,M8⟩
  ·rintro k tk' _ _ own2 h18 gs18 t18 hk ⟨x7,x8,x9,x10,x11,b0,b1,bp,Z,rfl,rfl,hct,M18⟩ hg18 S18 Tq2 hTq2
   refine assign_Name (stE S18 (ve_moved_right_k L) (nB rfl) fun h19 t19 S19=>?_)
   replace S19:St (hideAll s.heap a.W) L h19 nm_moved_right [some (.ref a.t),some (.ref lr),some (.ref lo),some (.ref dc),some (.int (a.H.length:Nat) ts),some (.int (r:Nat) tr),some (.ref Rs),some (.int (k:Nat) tk'),x8,x9,x10,x11] ((a.d0,b0)::(a.d1,b1)::(220,bp)::((Z++F)++own2)):=S19
   have inF:∀ {p:Addr×Obj},p∈F→p∈(Z++F)++own2:=fun m=>mF _ (mR _ m)
   obtain⟨tx,ex⟩:=intAt hri hr
   generalize hx:row.getD r 0=x at ex
   have permI:=rst_perm (k:=k) hr
   rw [hx] at permI
   have sI:∀ u∈ins (rst row r) k x,u∈O:=fun u hu=>hs.subset (permI.mem_iff.mp hu)
   have ndI:=permI.nodup_iff.mpr ndr
   have bag:=its_bag (c:=c) nd ndI sI
   have lI:=len_le bag
   rw [← hH] at lI
   have lins:(ins (rst row r) k x).length≤16:=by rw [permI.length_eq];exact lrow
   have RsG:=fun {h':Heap} {nm:List Str} {ls:List (Option Value)} {mu2:List (Addr×Obj)} (S:St (hideAll s.heap a.W) L h' nm ls mu2) (m:(Rs,lob si 0)∈mu2)=>lob_list (S.N _ m).1
   refine exc (asgE (cG S19 D (ge_moved_right__law_items L) (gn_items _) (fn_items _) (arg_ (wpAny_BinOp (wpAny_BinOp (sub2 (ldE S19 (ve_moved_right_rest L) rfl (pt0 (pt1 (ldE S19 (ve_moved_right_k L) rfl (getSl S19 (RsG S19 (.tail _ (.tail _ (.tail _ (inF fRs))))) .none (.int _ _) .none (by simp) (by lia) fun h20 D20 S20=>?_)))))))))))
   rw [pick_upto] at S20
   refine List_ (arg_ (Subscript_ (ldE S20 (ve_moved_right_row L) rfl (ldE S20 (ve_moved_right_r L) rfl (itemN (S20.old hlr) ex (by lia) (arg0 (newL S20 (by simp) fun h21 S21=>addL S21 (S21.get (j:=1) rfl) (S21.get (j:=0) rfl) (by simp;exact ntr (Nat.min_le_right _ _) (by lia)) (by simp) fun h22 S22=>?_)))))))
   refine sub2 (ldE S22 (ve_moved_right_rest L) rfl (pt1 (ldE S22 (ve_moved_right_k L) rfl (pt0 (getSl S22 (RsG S22 (.tail _ (.tail _ (.tail _ (.tail _ (.tail _ (.tail _ (inF fRs)))))))) (.int _ _) .none .none (by simp) (by lia) fun h23 D23 S23=>?_)))))
   rw [pick_from] at S23
   refine addL S23 (S23.get (j:=1) rfl) (S23.get (j:=0) rfl) (by simp;exact ntr (Nat.min_le_left _ _) (by lia)) (by simp;lia) fun h24 S24=>arg_ (ldE S24 (ve_moved_right_counts L) rfl (arg0 ⟨D.k.keeps S24.F.keep,?_⟩))
   have hI:=ints_ins hsi k x tx
   have S25:=S24.drop (mu':=(h23.objs.size,lob (List.take k si++[Value.int x tx]++List.drop k si) 0)::((a.d0,b0)::(a.d1,b1)::(220,bp)::((Z++F)++own2))) ((((((List.Sublist.refl _).cons _).cons _).cons _).cons _).cons_cons _)
   refine callItems S25 D hA (by show A.depth+1+2 < _;lia) hg18 (S25.get (j:=0) rfl) hI (S25.old hdc) (hDC.sub sI) (by lia) (by lia) (fun n hn=>by have:=hcl n (sI n hn);lia) fun h26 gs26 t26 Gd gi gz hg26 hgi S26=>?_
   have S27:=S26.drop (mu':=(Gd,lob gi gz)::((a.d0,b0)::(a.d1,b1)::(220,bp)::((Z++F)++own2))) (((List.Sublist.refl _).cons _).cons_cons _)
   refine stE S27 (ve_moved_right_guess L) (nB rfl) fun h28 t28 S28=>?_
   have hgl:=hgi.length
   have S29:=S28.perm fr3
   refine exc (asgE (cG S29 D (ge_moved_right__law_told L) (gn_told _) (fn_told _) (arg_ (ldE S29 (ve_moved_right_matchers L) rfl (arg_ (ldE S29 (ve_moved_right_guess L) rfl (arg0 ⟨D.k.keeps S29.F.keep,?_⟩)))))))
   refine callMa (k:=12) (mu:=(Gd,lob gi gz)::Z) S29 D hRg (fun p hp=>?_) hA (by show A.depth+1+12 < _;lia) (by show A.units+3+3 * 12 < _;lia) hg26 hct (M18.mono fun b o e=>e.imp id fun m=>.tail _ m) z1 z2 (fun X'=>told_spec X' ⟨gi,gz,.inr (.head _),hgi⟩ (by lia)) ?_ TV.mono
   ·rcases mK hp with rfl | hp
    ·exact .head _
    ·exact .tail _ (mF _ (mF _ hp))
   intro v h30 gs30 t30 b0' b1' bp' new hg30 hct30 S30 M30 hv
   obtain⟨T,T0,T1,m,rfl,rT,r0,r1⟩:=hv
   refine stE S30 (ve_moved_right_told L) (nB rfl) fun h31 t31 S31=>?_
   replace S31:St (hideAll s.heap a.W) L h31 nm_moved_right (mvL a.t lr lo dc a.H.length ts r tr Rs k tk' Gd T x10 x11) ((a.d0,b0')::(a.d1,b1')::(220,bp')::(new++((Gd,lob gi gz)::((Z++F)++own2)))):=S31
   have inY:∀ p∈new++(Gd,lob gi gz)::Z,p∈(a.d0,b0')::(a.d1,b1')::(220,bp')::(new++((Gd,lob gi gz)::((Z++F)++own2))):=fun p hp=>by
    refine .tail _ (.tail _ (.tail _ ?_))
    rcases List.mem_append.mp hp with hp | hp
    ·exact mF _ hp
    ·rcases mK hp with rfl | hp
     ·exact mR _ (.head _)
     ·exact mR _ (.tail _ (mF _ (mF _ hp)))
   have kY:∀ {b o},R.and (new++(Gd,lob gi gz)::Z) b o→Kn (hideAll s.heap a.W) ((a.d0,b0')::(a.d1,b1')::(220,bp')::(new++((Gd,lob gi gz)::((Z++F)++own2)))) b o:=fun e=>e.elim (fun e=>.inl (hRg _ _ e)) fun m=>.inr (inY _ m)
   have mv:=fun tot=>moved (tot:=tot) nd c0 hs hrow hr hk
   rw [hx] at mv
   rw [hH] at r0 r1
   have m0:=r0.toM (l:=(its (ins (rst row r) k x) c).length) (z:=(its O c).length) rfl fun tot g=>(mv tot).1 g
   have m1:=r1.toM (l:=(its (ins (rst row r) k x) c).length) (z:=(its O c).length) (Nat.add_comm _ _) fun tot g=>(mv tot).2 g
   rw [← hH] at m0 m1
   generalize hl:(its (ins (rst row r) k x) c).length=l at lI hgl m0 m1
   refine exc (moved_sides (c:=c) (l:=l) S31 D hA (by show A.depth+1+3 < _;lia) hg30 (.inl hlr) hri (.inl hlo) hoi (.inl hdc) hDC (.inr (.tail _ (.tail _ (.tail _ (mR _ (.tail _ (inF fRs))))))) hsi (.inr (.tail _ (.tail _ (.tail _ (mR _ (.head _)))))) hgl (kY rT) nd hs hr hk hOl z1 z2 lI (fun j hj=>?_) fun h32 gs32 t32 y10 y11 hg32 S32=>?_)
   ·rw [hx]
    rcases j2 j hj with rfl | rfl
    ·refine oEEEEEA m0 fun m t1 f2 f3 tot q1 q2=>?_
     exact⟨T0,m,t1,f2,f3,tot,rfl,kY q1,by rw [show(decide (k < r) == decide (0=0))=decide (k < r) by simp];exact q2⟩
    ·refine oEEEEEA m1 fun m t1 f2 f3 tot q1 q2=>?_
     exact⟨T1,m,t1,f2,f3,tot,rfl,kY q1,by rw [show(decide (k < r) == decide (1=0))=!decide (k < r) by simp];exact q2⟩
   have e:(a.d0,b0')::(a.d1,b1')::(220,bp')::(new++((Gd,lob gi gz)::((Z++F)++own2)))=((a.d0,b0')::(a.d1,b1')::(220,bp')::((new++(Gd,lob gi gz)::Z)++F))++own2:=by simp
   rw [e] at S32
   exact exn (TN hTq2 S32 hg32 ⟨_,_,_,_,_,b0',b1',bp',_,rfl,rfl,hct30,M30⟩)
  ·rintro _ _ h18 gs18 t18 ⟨x7,x8,x9,x10,x11,b0,b1,bp,Z,rfl,rfl,hct,M18⟩ hg18 S18
   rw [← hF] at S18
   have S19:=S18.drop (mu':=((a.d0,b0)::(a.d1,b1)::(220,bp)::Z)++own) ((((List.Sublist.refl Z).append (List.sublist_cons_self _ own)).cons_cons _).cons_cons _ |>.cons_cons _)
   exact exn (TN hTq S19 hg18 ⟨_,_,_,_,_,_,_,b0,b1,bp,Z,rfl,rfl,hct,M18⟩)
 ·rintro _ _ h8 gs8 t8 ⟨x5,x6,x7,x8,x9,x10,x11,b0,b1,bp,Z,rfl,rfl,hct,M8⟩ hg8 S8
  refine exc (wpAny_Return_some (wpAny_Constant_bool ?_))
  exact endM hQ S8 hL hg8 rfl rfl hct M8 rfl
end
theorem pick2:∀ O:List Int,(List.range ((O.length+1) / 2)).filterMap (fun k=>O[2 * k]?)=evs O
 | []=>rfl
 | [x]=>by simp [evs_n,evs_1,evs_c,List.range_succ]
 | x::y::l=>by
  have ih:=pick2 l
  have e:((x::y::l).length+1) / 2=(l.length+1) / 2+1:=by simp only [List.length_cons];lia
  rw [e,List.range_succ_eq_map,List.filterMap_cons,List.filterMap_map]
  have e2:((fun k=>(x::y::l)[2 * k]?) ∘ Nat.succ)=fun k=>l[2 * k]?:=by
   funext k
   simp [Function.comp,show 2 * k.succ=2 * k+1+1 by lia]
  rw [e2,ih];rfl
theorem pickNums2(O:List Int):pickNums O none none (some 2)=evs O:=by
 rw [← pick2]
 have eb:sliceBounds none none (some 2) O.length=(0,(O.length:Int),2):=by simp [sliceBounds]
 unfold pickNums
 rw [eb]
 unfold sliceRange
 have e:(if (2:Int) > 0 then (if (0:Int) < (O.length:Int) then ((O.length:Int) - 0+2 - 1) / 2 else 0) else (if (0:Int) > (O.length:Int) then (0 - (O.length:Int) - 2 - 1) / (-2) else 0)).toNat=(O.length+1) / 2:=by
  rw [if_pos (by decide)]
  by_cases h:(0:Int) < (O.length:Int)
  ·rw [if_pos h];lia
  ·rw [if_neg h]
   have:O.length=0:=by lia
   rw [this];rfl
 simp only [e,List.filterMap_map]
 congr 1
 funext k
 simp only [Function.comp]
 congr 1
 exact Nat.add_sub_of_le (by lia)
section
variable{prog:Program}{w:World}{A:Around}{E:Value→Shared→Prop}{h g:Heap}{gs:Array GenState}{dr:Drawn}{tk:Nat}{os:OsState}{L:Addr}{nm:List Str}{ls:List (Option Value)}{mu own:List (Addr×Obj)}{env:Env}
theorem dcA_{x:Str}{np:Pos}{kx vx target iter:Expr}{ifs:List Expr}{scope:Scope}{pos ap:Pos}{cl:List (Str×Addr)}{s:Shared}{Q:Flow→Shared→Prop}(F:ScF scope env cl)
  (hsw:swapsWith (.DictComp kx vx [⟨target,iter,ifs,0⟩] scope pos) (some (.Name x np)) ap.line env=pure true)
  (k:wpAny (model prog w) A (eval iter env) (fun xv s₁=>wpAny (model prog w) A (pyIter xv) (fun it s₂=>wpAny (model prog w) A newDict (fun acc s₃=>wpAny (model prog w) A (newFunctionEnv scope env.globals cl [] env.qual none .none (some env)) (fun cenv s₄ =>
   codeAny (model prog w) A (.compStart (.DictComp kx vx [⟨target,iter,ifs,0⟩] scope pos) 0 it acc { cenv with scope:=relabel scope env }) (compPost (model prog w) A E (some (assign (.Name x np) env)) (fun _ s=>Q .next s) acc cenv.locals) s₄) E s₃) E s₂) E s₁) E s)
  (hs:∀ x,foldedSetIterable iter env x=pure x:=by intro _;rfl):wpAny (model prog w) A (exec (.Assign [.Name x np] (.DictComp kx vx [⟨target,iter,ifs,0⟩] scope pos) ap) env) Q E s:=by
 rw [exec_Assign_Name_used _ _ _ _ hsw]
 refine wB (wpAny_standAt ?_)
 show wpAny _ _ ((comprehension (.DictComp kx vx [⟨target,iter,ifs,0⟩] scope pos) scope env (firstIterPos [⟨target,iter,ifs,0⟩] pos) newDict (firstAsync [⟨target,iter,ifs,0⟩]) (firstIter [⟨target,iter,ifs,0⟩] env) (some (assign (.Name x np) env)) >>= fun _=>pure ()) >>= fun _=>pure Flow.next) _ _ _
 exact wB (wB (wpAny_mono (wpAny_comprehension_free (use:=some (assign (.Name x np) env)) (first:=firstIter [⟨target,iter,ifs,0⟩] env) rfl hs F.clos F.kind F.names k) (fun _ s' h'=>wP (wP h')) fun _ _ x=>x))
inductive DcJ(prog:Program)(w:World)(g:Heap)(dr:Drawn)(os:OsState)(own mu:List (Addr×Obj))(D C:Addr)(n:Nat)(Sx:Nat→Heap→Prop)(nmc:List Str)(J:Nat→List (Int×Value)→List (Option Value)→Prop)(k:Nat)(s:Shared):Prop
 | mk (i oD kvs ls own' h gs tk) (q1:k=n - i) (q2:i≤n) (q3:s=⟨h,gs,dr,tk,os⟩) (q4:J i kvs ls) (q5:kvs.length≤i) (qd:DI prog w oD kvs) (q6:own'.map (·.1)=own.map (·.1)) (q7:AllBare gs) (q8:St g C h nmc ls ((D,oD)::mu++own')) (q9:Sx i h):DcJ prog w g dr os own mu D C n Sx nmc J k s
theorem compD{use:Option (Value→Sem Unit)}{kx vx target iter:Expr}{scope:Scope}{pos:Pos}{cl:List (Str×Addr)}{l:Addr}{items:List Value}{nl:Nat}{Q:Value→Shared→Prop}(nmc:List Str)(J:Nat→List (Int×Value)→List (Option Value)→Prop)(S:St g L h nm ls mu)(hh:A.handled=none)(hgs:AllBare gs)
  (hl:g.get? l=some (lob items nl)∨(l,lob items nl)∈mu) (hn:items.length≤1000)
  (turn:∀ g' C D oD,Sub g g'→∀ i v kvs ls own h gs tk,items[i]?=some v→J i kvs ls→AllBare gs→St g' C h nmc ls ((D,oD)::(led0 (C+1) scope.names++mu)++own) →
   wpAny (model prog w) A (assign target (cenvOf scope cl C env) v) (fun _ s₂=>wpAny (model prog w) A (eval kx (cenvOf scope cl C env)) (fun kv s₃=>wpAny (model prog w) A (eval vx (cenvOf scope cl C env)) (fun vv s₄ =>
    ∃ kk t ls' h' gs' tk',kv=.int kk t∧s₄=⟨h',gs',dr,tk',os⟩∧AllBare gs'∧St g' C h' nmc ls' ((D,oD)::(led0 (C+1) scope.names++mu)++own)∧J (i+1) (stored kvs kk vv) ls') (fun _ _=>False) s₃) (fun _ _=>False) s₂) (fun _ _=>False) ⟨h,gs,dr,tk,os⟩)
  (done:∀ C oC D oD kvs lsc h gs tk,J items.length kvs lsc→DI prog w oD kvs→AllBare gs→St g L h nm ls ((C,oC)::(D,oD)::mu)→(∀ h3:Heap,h3.get? C=some oC→∃ m,h3.Ns C m)→compPost (model prog w) A E use Q (.ref D) C (.ok .next) ⟨h,gs,dr,tk,os⟩)
  (hJ:J 0 [] (nmc.map fun _=>none)) (hcell:∀ n,led0 n scope.names=[]) (ht:∀ it v,letOwnedTupleGo target it v=pure ():=by exact fun _ _=>rfl) :
  wpAny (model prog w) A (pyIter (.ref l)) (fun it s₂=>wpAny (model prog w) A newDict (fun acc s₃=>wpAny (model prog w) A (newFunctionEnv scope env.globals cl [] env.qual none .none (some env)) (fun cenv s₄ =>
   codeAny (model prog w) A (.compStart (.DictComp kx vx [⟨target,iter,[],0⟩] scope pos) 0 it acc { cenv with scope:=relabel scope env }) (compPost (model prog w) A E use Q acc cenv.locals) s₄) E s₃) E s₂) E ⟨h,gs,dr,tk,os⟩:=by
 have hl':h.get? l=some (lob items nl):=hl.elim (S.F.keep _ _) fun m=>(S.N _ m).1
 refine overL S hh (lob_list hl') (hl.imp (fun e=>⟨_,e⟩) fun m=>⟨_,m⟩) fun I h0 own hne S0 ho hS W=>?_
 refine wpAny_newObj_type ?_
 have hD0:DI prog w { cls:=.type "dict",data:=.dict #[] } []:=⟨_,_,⟨rfl,rfl,rfl⟩,rfl,fun e he=>by simp at he,.nil,.nil⟩
 have S1:=S0.push { cls:=.type "dict",data:=.dict #[] }
 generalize hoD:({ cls:=.type "dict",data:=.dict #[] }:Obj)=oD at hD0 S1
 dsimp only
 generalize hDe:h0.objs.size=D at S1 ⊢
 generalize h0.push oD=h1 at S1 ⊢
 refine newEnvC (gs:=gs) (dr:=dr) (tk:=tk) (os:=os) ?_
 have S2:=S1.inner (scope:=scope) nmc
 have hsub:Sub g (hideAll h1 (((D,oD)::(mu++own)).map (·.1))):=fun b o e=>hideAll_get _ (S1.F.keep b o e) fun m=>by
  refine oEA (List.mem_map.mp m) fun p hp e'=>?_
  have:=(S1.N p hp).2.2
  rw [e',e] at this;cases this
 have S3:St (hideAll h1 (((D,oD)::(mu++own)).map (·.1))) h1.objs.size (pushCells (h1.push { cls:=.type "dict",data:=.dict #[] }) scope.names) nmc (nmc.map fun _=>none) ((D,oD)::(led0 (h1.objs.size+1) scope.names++mu)++own):=by
  refine S2.perm ?_
  simp only [List.cons_append,List.append_assoc]
  exact List.perm_middle
 have fpk:∀ {Y Y':List (Addr×Obj)} {h2 h3:Heap} {L2 L3:Addr} {n2 n3:List Str} {l2 l3:List (Option Value)} {g2 g3:Heap},Sub g g2→Sub g g3→St g2 L2 h2 n2 l2 Y→St g3 L3 h3 n3 l3 Y'→(∀ p∈mu,p∈Y)→(∀ p∈mu,p∈Y')→∀ o,h2.get? l=some o→h3.get? l=some o:=fun s2 s3 X Y m1 m2 o e=>by
  have a1:_=some (lob items nl):=hl.elim (fun e=>X.F.keep _ _ (s2 _ _ e)) fun m=>(X.N _ (m1 _ m)).1
  have a2:_=some (lob items nl):=hl.elim (fun e=>Y.F.keep _ _ (s3 _ _ e)) fun m=>(Y.N _ (m2 _ m)).1
  rw [a1] at e;cases e;exact a2
 have sg:Sub g g:=fun _ _ e=>e
 have hS3:h1.objs.size ≥ 0:=Nat.zero_le _
 have hSx:(pushCells (h1.push { cls:=.type "dict",data:=.dict #[] }) scope.names).IsListIter I l 0∧(pushCells (h1.push { cls:=.type "dict",data:=.dict #[] }) scope.names).IsList l items.toArray:=W.frame _ _ _ hS fun b hb o e=>by
  rcases mK hb with rfl | hb
  ·have hm:b∈own.map (·.1):=by rw [ho];exact .head _
   refine oEA (List.mem_map.mp hm) ?_;rintro p hp rfl
   have a1:=(S0.N p (mR _ hp)).1
   rw [a1] at e;cases e
   exact(S3.N p (mR _ hp)).1
  ·rw [mS hb] at e ⊢
   exact fpk sg hsub S0 S3 (fun p hp=>mF _ hp) (fun p hp=>mF _ (.tail _ (mR _ hp))) o e
 have hDC:∀ {h4:Heap} {ls4:List (Option Value)} {o4:Obj} {Y:List (Addr×Obj)},St (hideAll h1 (((D,oD)::(mu++own)).map (·.1))) h1.objs.size h4 nmc ls4 ((D,o4)::Y)→D≠h1.objs.size:=fun X=>(X.N _ (.head _)).2.1
 have loop:codeAny (model prog w) A (.compLoop (.DictComp kx vx [⟨target,iter,[],0⟩] scope pos) 0 (.ref I) (.ref D) (cenvOf scope cl h1.objs.size env)) (compPost (model prog w) A E use Q (.ref D) h1.objs.size) ⟨pushCells (h1.push { cls:=.type "dict",data:=.dict #[] }) scope.names,gs,dr,tk,os⟩:=by
  refine codeAny_compLoop_testsD (DcJ prog w (hideAll h1 (((D,oD)::(mu++own)).map (·.1))) dr os own (led0 (h1.objs.size+1) scope.names++mu) D h1.objs.size items.length (fun i h=>h.IsListIter I l i∧h.IsList l items.toArray) nmc J) ?_ items.length ⟨0,oD,[],_,own,_,gs,tk,by lia,Nat.zero_le _,rfl,hJ,Nat.le_refl _,hD0,rfl,hgs,S3,hSx⟩ (ht _)
  rintro k s ⟨i,o4,kvs,ls4,own',h4,gs4,tk4,rfl,hi,rfl,hJ4,hkl,hD4,ho4,hg4,S4,hS4⟩
  rcases Nat.lt_or_ge i items.length with hlt | hge
  ·refine W.item i _ _ _ hlt hS4 fun v h' tk' hP hS' keep=>?_
   refine oEA (S4.turn (wr:=[I]) (by rw [ho4,ho];exact fun _ h=>h) keep (fun b hb=>by rw [mS hb];exact hS'.1.elim fun o h=>⟨o,h.1⟩)) fun own'' e S'=>?_
   refine wpAny_mono (turn _ _ D o4 hsub i v kvs ls4 own'' h' gs4 tk' hP hJ4 hg4 S') (fun _ s₂ h₂=>?_) fun _ _ x=>x.elim
   refine tst0 ?_
   rw [if_pos rfl]
   refine wpAny_mono h₂ (fun kv s₃ h₃=>?_) fun _ _ x=>x.elim
   refine wpAny_mono h₃ (fun vv s₄ h₄=>?_) fun _ _ x=>x.elim
   refine oEEEEEEAAAA h₄ ?_;rintro kk t ls5 h5 gs5 tk5 rfl rfl hg5 S5 hJ5
   refine wpAny_dictSet_pairs (s:=⟨h5,gs5,dr,tk5,os⟩) (intKind_is prog w kk t) (hD4.of (S5.N _ (.head _)).1) (fun h6 hd hs=>?_) (ntr hkl (ntr hi (ntr hn (by decide))))
   refine oEA (Heap.dictOf_iff.mp hd) fun o6 ho6 D6=>?_
   have S6:St _ _ h6 nmc ls5 ((D,o6)::(led0 (h1.objs.size+1) scope.names++mu)++own''):=S5.same (j:=0) rfl hs ho6
   refine⟨items.length - (i+1),by exact Nat.sub_lt_sub_left (by lia) (by lia),i+1,o6,_,ls5,own'',h6,gs5,_,rfl,hlt,rfl,hJ5,ntr (stored_le _ _ _) (Nat.succ_le_succ hkl),D6,e.trans ho4,hg5,S6,?_⟩
   refine W.frame _ _ _ hS' fun b hb o eb=>?_
   rcases mK hb with rfl | hb
   ·have hm:b∈own''.map (·.1):=by rw [e,ho4,ho];exact .head _
    refine oEA (List.mem_map.mp hm) ?_;rintro p hp rfl
    have a1:=(S'.N p (mR _ hp)).1
    rw [a1] at eb;cases eb
    exact(S6.N p (mR _ hp)).1
   ·rw [mS hb] at eb ⊢
    exact fpk hsub hsub S' S6 (fun p hp=>mF _ (.tail _ (mR _ hp))) (fun p hp=>mF _ (.tail _ (mR _ hp))) o eb
  ·obtain rfl:i=items.length:=by lia
   refine W.done _ _ _ hS4 fun h' tk' keep=>?_
   have S5:=St.leftOwn (mu:=(D,o4)::(led0 (h1.objs.size+1) scope.names++mu)) S4 (wr:=[I]) (by rw [ho4,ho];exact fun _ h=>h) keep
   refine oEA (S1.leave S5 (Nat.le_refl _)) fun oC S6 hC=>?_
   rw [hcell] at S6
   exact done _ oC D o4 kvs ls4 h' gs4 tk' hJ4 hD4 hg4 S6 hC
 exact codeAny_compStart_dict loop (W.self 0 _ _ _ hSx loop)
end
section
variable{w:World}{A:Around}{E:Value→Shared→Prop}{s s':Shared}{mg mb:Str→Option Value}{G g h:Heap}{gs:Array GenState}{dr:Drawn}{tk:Nat}{os:OsState}{L C:Addr}{ls:List (Option Value)}{mu Z F:List (Addr×Obj)}
inductive NuJ(mu0:List (Addr×Obj))(C D:Addr)(i:Nat)(ys:List Value)(ls:List (Option Value))(mu:List (Addr×Obj)):Prop
 | mk (x1 ns) (e0:ls=[x1]) (e1:mu0=mu) (e2:IntsAre ys ns) (e3:ns.length=i):NuJ mu0 C D i ys ls mu
theorem law_numbers{l:Addr}{items:List Value}{xs:List Int}{Q:Flow→Shared→Prop}(S:St g L h nm_law ls ((L+1,cob (some (.ref l)))::(L+1+1,cob none)::F))(D:Gd (K w.params) mg mb g)(hA:A.handled=none)(hgs:AllBare gs)(hl:g.IsList l items.toArray)(hi:IntsAre items xs)(hz:items.length≤63)
  (q:∀ h' gs' tk' N ni nn ns,AllBare gs'→IntsAre ni ns→8≤ns.length→ns.length≤16→St g L h' nm_law ls ((L+1,cob (some (.ref l)))::(L+1+1,cob (some (.ref N)))::(N,lob ni nn)::F)→Q .next ⟨h',gs',dr,tk',os⟩) :
  wpAny (model prog w) A (exec (bd_law.getD 0 (.Pass ⟨0,0,0,0⟩)) (e_law L)) Q E ⟨h,gs,dr,tk,os⟩:=by
 have hlS:∀ {h':Heap} {g':Heap} {C:Addr} {nm:List Str} {ls:List (Option Value)} {mu:List (Addr×Obj)},Sub g g'→St g' C h' nm ls mu→h'.IsList l items.toArray:=fun hs S=>hl.at fun o e=>S.F.keep _ _ (hs _ _ e)
 refine asgE (wpAny_BinOp (lc_ (sf_law_c1 L) (Call_ (lbE S D (ge_law_range L) (bn_range _) (cT1 (arg_ (Call_ (lbE S D (ge_law_min L) (bn_min _) (cB (arg_ (cInt fun k1 t1=>arg_ (Call_ (lbE S D (ge_law_len L) (bn_len _) (cB (arg_ (ldC_ (j:=0) S (ce_law_script L) rfl (arg0 (len_ (hlS (fun _ _ e=>e) S) (by lia) fun k2 t2=>arg0 (minN_ (x:=8) hA S fun h3 t3 k3 S3=>arg0 (rng1 S3 fun h4 r4 a4 b4 t4 S4 hr4=>?_))))))))))))))))))))
 refine compRV (n:=min 8 items.length) nm_law_c1 (NuJ ((L+1,cob (some (.ref l)))::(L+1+1,cob none)::F)) S4 hA hgs hr4 (by split<;>lia) (by decide) (Nat.lt_of_le_of_lt (Nat.min_le_left _ _) (by lia)) (ntr (Nat.min_le_right _ _) (by lia)) ?_ ?_ (fun C D0=>⟨none,[],rfl,by kernel_rfl,.nil,rfl⟩)
 ·rintro g' C D0 hsub i v ys m ls' mu own h5 gs5 t5 hlt ⟨tv,rfl⟩ ⟨x1,ns,rfl,rfl,hI,hn⟩ hlen hg5 S5 T1 T0 q1 q0
  rw [show(0:Int)+(i:Int) * 1=((i:Nat):Int) by lia]
  refine assign_Name (stE S5 (ve_law_c1_k L C) (nB rfl) fun h6 t6 S6=>?_)
  refine tst0 ?_
  rw [if_pos rfl]
  refine Call_ (lbE S6 (D.keeps hsub) (ge_law_c1_sum L C) (bn_sum _) (cB (arg_ (sub3 (ldC_ (j:=1) S6 (ce_law_c1_script L C) rfl (pt1 (ldE S6 (ve_law_c1_k L C) rfl (pt0 (cInt fun k7 t7=>getSl S6 (hlS hsub S6) (.int _ _) .none (.int _ _) (by simp) (by lia) fun h8 D8 S8=>arg0 (sumL hA S8 (lob_list (S8.get (j:=0) rfl)) (hi.pick _ _ _) fun h9 t9 k9 S9=>?_))))))))))
  exact q1 _ _ ⟨_,_,h9,gs5,t9,rfl,hg5,S9.drop (List.sublist_cons_self _ _),_,ns++[_],rfl,rfl,ints_snoc hI,by rw [List.length_append,hn];rfl⟩
 ·rintro C D0 ys m lsc mu h5 gs5 t5 ⟨x1,ns,rfl,rfl,hI,hn⟩ hg5 S5
  have hyl:=hI.length
  refine List_ (arg_ (cInt fun k1 t1=>arg_ (cInt fun k2 t2=>arg_ (cInt fun k3 t3=>arg_ (cInt fun k4 t4=>arg_ (cInt fun k5 t5=>arg_ (cInt fun k6 t6=>arg_ (cInt fun k7 t7=>arg_ (cInt fun k8 t8=>arg0 (newL S5 (by simp) fun h9 S9=>?_))))))))))
  refine addL S9 (S9.get (j:=1) rfl) (S9.get (j:=0) rfl) (by lia) (by simp) fun h10 S10=>?_
  refine stC_ (j:=4) S10 (ce_law_numbers L) rfl fun h11 S11=>?_
  have S12:=S11.drop (mu':=(h9.objs.size,_)::(L+1,cob (some (.ref l)))::(L+1+1,cob (some (.ref h9.objs.size)))::F) ((((List.Sublist.refl _).cons _).cons _).cons_cons _)
  have hI2:=hI.append (.cons 3 k1 (.cons 1 k2 (.cons 4 k3 (.cons 1 k4 (.cons 5 k5 (.cons 9 k6 (.cons 2 k7 (.cons 6 k8 .nil))))))))
  refine q h11 gs5 _ h9.objs.size _ _ _ hg5 hI2 (by simp) (by simp;lia) (S12.perm ((List.Perm.swap _ _ _).trans ((List.Perm.swap _ _ _).cons _)))
end
section
variable{w:World}{A:Around}{E:Value→Shared→Prop}{s s':Shared}{mg mb:Str→Option Value}{G g h:Heap}{gs:Array GenState}{dr:Drawn}{tk:Nat}{os:OsState}{L C:Addr}{ls:List (Option Value)}{mu Z F:List (Addr×Obj)}
inductive DdJ(ns:List Int)(mu0:List (Addr×Obj))(C D:Addr)(i:Nat)(ys:List Value)(ls:List (Option Value))(mu:List (Addr×Obj)):Prop
 | mk (x1) (e0:ls=[x1]) (e1:mu0=mu) (e2:IntsAre ys (dd ns i)):DdJ ns mu0 C D i ys ls mu
theorem law_order{N l:Addr}{ni:List Value}{nn:Nat}{ns:List Int}{Q:Flow→Shared→Prop}(S:St g L h nm_law ls ((L+1,cob (some (.ref l)))::(L+1+1,cob (some (.ref N)))::(N,lob ni nn)::(L+1+1+1,cob none)::F))(D:Gd (K w.params) mg mb g)(hA:A.handled=none)(hgs:AllBare gs)(hi:IntsAre ni ns)(hz:ns.length≤16)
  (q:∀ h' gs' tk' Od oi no,AllBare gs'→IntsAre oi (dd ns ns.length)→St g L h' nm_law ls ((L+1,cob (some (.ref l)))::(L+1+1,cob (some (.ref N)))::(N,lob ni nn)::(L+1+1+1,cob (some (.ref Od)))::(Od,lob oi no)::F)→Q .next ⟨h',gs',dr,tk',os⟩) :
  wpAny (model prog w) A (exec (bd_law.getD 1 (.Pass ⟨0,0,0,0⟩)) (e_law L)) Q E ⟨h,gs,dr,tk,os⟩:=by
 have hil:=hi.length
 refine asgE (lc_ (sf_law_c2 L) (Call_ (lbE S D (ge_law_range L) (bn_range _) (cT1 (arg_ (Call_ (lbE S D (ge_law_len L) (bn_len _) (cB (arg_ (ldC_ (j:=1) S (ce_law_numbers L) rfl (arg0 (lenN (S.get (j:=2) rfl) (by lia) fun k2 t2=>arg0 (rng1 S fun h4 r4 a4 b4 t4 S4 hr4=>?_)))))))))))))
 refine compRV (n:=ni.length) nm_law_c2 (DdJ ns ((L+1,cob (some (.ref l)))::(L+1+1,cob (some (.ref N)))::(N,lob ni nn)::(L+1+1+1,cob none)::F)) S4 hA hgs hr4 (by split<;>lia) (by decide) (by(simp;lia)) (by lia) ?_ ?_ (fun C D0=>⟨none,rfl,by kernel_rfl,.nil⟩)
 ·rintro g' C D0 hsub i v ys m ls' mu own h5 gs5 t5 hlt ⟨tv,rfl⟩ ⟨x1,rfl,rfl,hI⟩ hlen hg5 S5 T1 T0 q1 q0
  have hlt':i < ns.length:=by exact Nat.lt_of_lt_of_le ‹_› (by lia)
  obtain⟨tx,ex⟩:=intAt hi hlt'
  rw [show(0:Int)+(i:Int) * 1=((i:Nat):Int) by lia]
  refine assign_Name (stE S5 (ve_law_c2_k L C) (nB rfl) fun h6 t6 S6=>?_)
  refine tst1 (wC (Subscript_ (ldC_ (j:=2) S6 (ce_law_c2_numbers L C) rfl (ldE S6 (ve_law_c2_k L C) rfl (itemN (S6.get (j:=3) rfl) ex (by lia) (sub2 (ldC_ (j:=2) S6 (ce_law_c2_numbers L C) rfl (pt0 (pt1 (ldE S6 (ve_law_c2_k L C) rfl (getSl S6 (lob_list (S6.get (j:=3) rfl)) .none (.int _ _) .none (by simp) (by lia) fun h7 D7 S7=>?_)))))))))))
  rw [pick_upto] at S7
  refine notin_list_ints (s:=⟨h7,_,_,_,_⟩) (lob_list (S7.get (j:=0) rfl)) (ints_take hi i) (wT ?_)
  have S8:=S7.drop (List.sublist_cons_self _ _)
  have eany:((ns.take i).any fun x=>x == ns.getD i 0)=decide (ns.getD i 0∈ns.take i):=by
   by_cases c:ns.getD i 0∈ns.take i
   ·rw [decide_eq_true c];exact List.any_eq_true.mpr ⟨_,c,by simp⟩
   ·rw [decide_eq_false c]
    exact List.any_eq_false.mpr fun x hx e=>c (by rw [← (beq_iff_eq.mp e)];exact hx)
  rw [eany]
  by_cases c:ns.getD i 0∈ns.take i
  ·rw [decide_eq_true c,if_neg (by decide)]
   exact q0 _ ⟨_,_,h7,gs5,_,rfl,hg5,S8,_,rfl,rfl,by simp only [dd_c,dd_n,if_pos c];exact hI⟩
  ·rw [decide_eq_false c,if_pos (by decide)]
   refine Subscript_ (ldC_ (j:=2) S8 (ce_law_c2_numbers L C) rfl (ldE S8 (ve_law_c2_k L C) rfl (itemN (S8.get (j:=3) rfl) ex (by lia) (q1 _ _ ⟨_,_,h7,gs5,_,rfl,hg5,S8,_,rfl,rfl,by simp only [dd_c,dd_n,if_neg c];exact ints_snoc hI⟩))))
 ·rintro C D0 ys m lsc mu h5 gs5 t5 ⟨x1,rfl,rfl,hI⟩ hg5 S5
  rw [hil] at hI
  refine stC_ (j:=4) S5 (ce_law_order L) rfl fun h11 S11=>?_
  exact q h11 gs5 _ D0 ys m hg5 hI (S11.perm ((List.perm_middle (l₁:=[(L+1,cob (some (.ref l))),(L+1+1,cob (some (.ref N))),(N,lob ni nn),(L+1+1+1,cob (some (.ref D0)))]) (l₂:=F)).symm))
inductive CnD(ns O:List Int)(i:Nat)(kvs:List (Int×Value))(ls:List (Option Value)):Prop
 | mk (x1) (e0:ls=[x1]) (e2:∀ n∈O.take i,∃ t,valueAt kvs n=some (.int (ns.count n:Nat) t)):CnD ns O i kvs ls
theorem law_counts{N l Od:Addr}{ni oi:List Value}{nn no:Nat}{ns O:List Int}{x1 x2 x3 x4:Option Value}{Q:Flow→Shared→Prop}(S:St g L h nm_law [none,x1,x2,x3,x4] ((L+1,cob (some (.ref l)))::(L+1+1,cob (some (.ref N)))::(N,lob ni nn)::(L+1+1+1,cob (some (.ref Od)))::(Od,lob oi no)::F))(D:Gd (K w.params) mg mb g)(hA:A.handled=none)(hgs:AllBare gs)(hi:IntsAre ni ns)(hz:ns.length≤16)(hoi:IntsAre oi O)(hz2:O.length≤16)
  (q:∀ h' gs' tk' Dc oD,AllBare gs'→DC w oD O (fun n=>ns.count n)→St g L h' nm_law [some (.ref Dc),x1,x2,x3,x4] ((Dc,oD)::(L+1,cob (some (.ref l)))::(L+1+1,cob (some (.ref N)))::(N,lob ni nn)::(L+1+1+1,cob (some (.ref Od)))::(Od,lob oi no)::F)→Q .next ⟨h',gs',dr,tk',os⟩) :
  wpAny (model prog w) A (exec (bd_law.getD 2 (.Pass ⟨0,0,0,0⟩)) (e_law L)) Q E ⟨h,gs,dr,tk,os⟩:=by
 have hoil:=hoi.length
 refine dcA_ (sf_law_c3 L) (by kernel_rfl) (ldC_ (j:=3) S (ce_law_order L) rfl ?_)
 refine compD nm_law_c3 (CnD ns O) S hA hgs (.inr (.tail _ (.tail _ (.tail _ (.tail _ (.head _)))))) (by lia) ?_ ?_ ⟨none,rfl,fun n hn=>by rw [List.take_zero] at hn;cases hn⟩ led_law_c3
 ·rintro g' C D0 oD hsub i v kvs ls' own h5 gs5 t5 hv ⟨x1,rfl,hk⟩ hg5 S5
  have hlt:i < O.length:=by rw [← hoil];exact lt_of_get hv
  obtain⟨tx,ex⟩:=intAt hoi hlt
  rw [ex] at hv
  obtain rfl:=Option.some.inj hv
  refine assign_Name (stE S5 (ve_law_c3_number L C) (nB rfl) fun h6 t6 S6=>?_)
  refine ldE S6 (ve_law_c3_number L C) rfl ?_
  refine MethodCall_ (ldC_ (j:=2) S6 (ce_law_c3_numbers L C) rfl (mL PySem.F.slot_list_count PySem.F.type_list_count (S6.get (j:=3) rfl) (callWith_method1 (arg_ (ldE S6 (ve_law_c3_number L C) rfl (arg0 (count_ (S6.get (j:=3) rfl) hi fun k7 t7=>?_)))))))
  refine⟨O.getD i 0,tx,_,h6,gs5,t7,rfl,rfl,hg5,S6,_,rfl,fun n hn=>?_⟩
  rw [valueAt_stored]
  by_cases e:n=O.getD i 0
  ·subst e;exact⟨k7,by rw [if_pos rfl]⟩
  ·rw [if_neg e]
   rw [take_snoc hlt] at hn
   exact hk n ((List.mem_append.mp hn).resolve_right fun m=>e (mS m))
 ·rintro C oC D0 oD kvs lsc h5 gs5 t5 ⟨x1',rfl,hk⟩ hD hg5 S5 hC
  rw [hoil,List.take_length] at hk
  refine assign_Name (stE S5 (ve_law_counts L) (nB rfl) fun h6 t6 S6=>?_)
  obtain⟨m',hm⟩:=hC h6 (S6.N _ (.head _)).1
  exact⟨m',hm,fun h7 hs=>q h7 gs5 t6 D0 oD hg5 ⟨kvs,hD,hk⟩ (S6.forget hs)⟩
end
theorem any_eq(l:List Int)(k:Int):(l.any fun x=>x == k)=decide (k∈l):=by
 by_cases c:k∈l
 ·rw [decide_eq_true c];exact List.any_eq_true.mpr ⟨_,c,by simp⟩
 ·rw [decide_eq_false c]
  exact List.any_eq_false.mpr fun x hx e=>c (by rw [← (beq_iff_eq.mp e)];exact hx)
section
variable{w:World}{A:Around}{E:Value→Shared→Prop}{s s':Shared}{mg mb:Str→Option Value}{G g h:Heap}{gs:Array GenState}{dr:Drawn}{tk:Nat}{os:OsState}{L C:Addr}{ls:List (Option Value)}{mu Z F:List (Addr×Obj)}
inductive PpJ(O:List Int)(mu0:List (Addr×Obj))(C D:Addr)(i:Nat)(ys:List Value)(ls:List (Option Value))(mu:List (Addr×Obj)):Prop
 | mk (x1) (e0:ls=[x1]) (e1:mu0=mu) (e2:IntsAre ys (pp O i)):PpJ O mu0 C D i ys ls mu
theorem law_pool{Od:Addr}{oi:List Value}{no:Nat}{O:List Int}{x0 x1 x3 x4:Option Value}{Q:Flow→Shared→Prop}(S:St g L h nm_law [x0,x1,none,x3,x4] ((L+1+1+1,cob (some (.ref Od)))::(Od,lob oi no)::F))(D:Gd (K w.params) mg mb g)(hA:A.handled=none)(hgs:AllBare gs)(hoi:IntsAre oi O)(hz:O.length≤16)
  (q:∀ h' gs' tk' P pi np pool,AllBare gs'→IntsAre pi pool→pool.Perm (O++pp O O.length)→St g L h' nm_law [x0,x1,some (.ref P),x3,x4] ((P,lob pi np)::(L+1+1+1,cob (some (.ref Od)))::(Od,lob oi no)::F)→Q .next ⟨h',gs',dr,tk',os⟩) :
  wpAny (model prog w) A (exec (bd_law.getD 4 (.Pass ⟨0,0,0,0⟩)) (e_law L)) Q E ⟨h,gs,dr,tk,os⟩:=by
 have hoil:=hoi.length
 refine asgE (Call_ (lbE S D (ge_law_sorted L) (bn_sorted _) (cB (arg_ (wpAny_BinOp (ldC_ (j:=0) S (ce_law_order L) rfl (lc_ (sf_law_c4 L) (ldC_ (j:=0) S (ce_law_order L) rfl ?_))))))))
 refine compLV nm_law_c4 (PpJ O ((L+1+1+1,cob (some (.ref Od)))::(Od,lob oi no)::F)) S hA hgs (lob_list (S.get (j:=1) rfl)) (.inr ⟨_,.tail _ (.head _),fun C D i ys ls mu hJ=>by obtain⟨_,_,rfl,_⟩:=hJ;exact .tail _ (.head _)⟩) (by lia) ?_ ?_ (fun C D0=>⟨none,rfl,by kernel_rfl,.nil⟩)
 ·rintro g' C D0 hsub i v ys m ls' mu own h5 gs5 t5 hlt hv ⟨y1,rfl,rfl,hI⟩ hlen hg5 S5 T1 T0 q1 q0
  have hlt':i < O.length:=by exact Nat.lt_of_lt_of_le ‹_› (by lia)
  obtain⟨tx,ex⟩:=intAt hoi hlt'
  rw [ex] at hv
  obtain rfl:=Option.some.inj hv
  refine assign_Name (stE S5 (ve_law_c4_number L C) (nB rfl) fun h6 t6 S6=>?_)
  refine tst1 (wC (wpAny_BinOp (ldE S6 (ve_law_c4_number L C) rfl (cInt fun k7 t7=>add_ fun k8 t8=>ldC_ (j:=1) S6 (ce_law_c4_order L C) rfl ?_))))
  refine notin_list_ints (s:=⟨h6,_,_,_,_⟩) (lob_list (S6.get (j:=2) rfl)) hoi (wT ?_)
  rw [any_eq]
  by_cases c:O.getD i 0+1∈O
  ·rw [decide_eq_true c,if_neg (by decide)]
   exact q0 _ ⟨_,_,h6,gs5,_,rfl,hg5,S6,_,rfl,rfl,by simp only [pp_c,pp_n,if_pos c];exact hI⟩
  ·rw [decide_eq_false c,if_pos (by decide)]
   refine wpAny_BinOp (ldE S6 (ve_law_c4_number L C) rfl (cInt fun k9 t9=>add_ fun k10 t10=>q1 _ _ ⟨_,_,h6,gs5,_,rfl,hg5,S6,_,rfl,rfl,by simp only [pp_c,pp_n,if_neg c];exact ints_snoc hI⟩))
 ·rintro C D0 ys m lsc mu h5 gs5 t5 ⟨y1,rfl,rfl,hI⟩ hg5 S5
  rw [hoil] at hI
  have hyl:=hI.length
  have hpl:=pp_len (O:=O) O.length
  refine addL S5 (S5.get (j:=2) rfl) (S5.get (j:=0) rfl) (by lia) (by lia) fun h6 S6=>arg0 (sorted_ S6 (lob_list (S6.get (j:=0) rfl)) (hoi.append hI) (by rw [List.length_append];lia) fun h7 P pi pool np hpi hperm S7=>?_)
  refine stE S7 (ve_law_pool L) (nB rfl) fun h8 t8 S8=>?_
  exact q h8 gs5 t8 P pi np pool hg5 hpi hperm (S8.drop (((List.Sublist.refl _).cons _).cons _ |>.cons_cons _))
theorem b_init3(P:Params)(s:Shared)(X:(K P).In s.heap)(x0 x1 x2 x3:Value):BindsTo s (fdOf (o160 P)) ⟨[x0,x1,x2,x3],[]⟩ (ps_init.zip [x0,x1,x2,x3,.bool true]):=BindsTo.of_defaults (T:=153) rfl (X 153 (o153 P) (by kernel_rfl)) rfl rfl rfl
theorem gn_SM(P:Params):nsIn (K P) mainGlobals (ofString "SequenceMatcher")=some (some (.ref 242)):=by kernel_rfl
end
section
variable{w:World}{A:Around}{E:Value→Shared→Prop}{s s':Shared}{mg mb:Str→Option Value}{G g h:Heap}{gs:Array GenState}{dr:Drawn}{tk:Nat}{os:OsState}{L C:Addr}{ls:List (Option Value)}{mu Z F:List (Addr×Obj)}{a:Ma}{od0 od1 op:Obj}
inductive RwJ(w:World)(g:Heap)(a:Ma)(Dc P:Addr)(F:List (Addr×Obj))(i:Nat)(ls:List (Option Value))(mu:List (Addr×Obj)):Prop
 | mk (xr b0 b1 bp Y) (e0:ls=[some (.ref Dc),some (.ref a.lH),some (.ref P),some (.ref a.t),xr]) (e1:mu=(a.d0,b0)::(a.d1,b1)::(220,bp)::(Y++F)) (e2:CodeTab bp) (e3:MM w (Rel.and (fun b o=>g.get? b=some o) (Y++F)) a b0 b1):RwJ w g a Dc P F i ls mu
theorem law_rows{Dc P Od:Addr}{oi hi:List Value}{no nh:Nat}{O:List Int}{oD:Obj}{xr:Option Value}{Q:Flow→Shared→Prop}(S:St g L h nm_law [some (.ref Dc),some (.ref a.lH),some (.ref P),some (.ref a.t),xr] ((a.d0,od0)::(a.d1,od1)::(220,op)::F))(D:Gd (K w.params) mg mb g)(hA:A.handled=none)(hdep:A.depth+20 < recursionLimit)(hu:A.units+60 < cLine)(hgs:AllBare gs)(hct:CodeTab op)(M:MM w (Rel.and (fun b o=>g.get? b=some o) F) a od0 od1)
  (fC:(L+1+1+1,cob (some (.ref Od)))∈F) (fO:(Od,lob oi no)∈F) (fD:(Dc,oD)∈F) (fH:(a.lH,lob hi nh)∈F) (hoi:IntsAre oi O) (hhi:IntsAre hi a.H) (hDC:DC w oD O (fun n=>a.H.count n)) (nd:O.Nodup) (hO:∀ u,u∈O↔0 < a.H.count u) (hH:a.H=its O fun n=>a.H.count n) (z1:8≤a.H.length) (z2:a.H.length≤16)
  (q:∀ h' gs' tk' ls' bp,AllBare gs'→CodeTab bp→St g L h' nm_law ls' [(220,bp)]→Q .next ⟨h',gs',dr,tk',os⟩) :
  wpAny (model prog w) A (exec (bd_law.getD 7 (.Pass ⟨0,0,0,0⟩)) (e_law L)) Q E ⟨h,gs,dr,tk,os⟩:=by
 have hOl:O.length≤16:=ntr (its_ones fun n hn=>(hO n).mp hn).length_le (hH▸z2)
 have hoil:=hoi.length
 have hhil:=hhi.length
 obtain⟨jc,hjc⟩:=List.getElem?_of_mem (show(L+1+1+1,cob (some (.ref Od)))∈(a.d0,od0)::(a.d1,od1)::(220,op)::F from .tail _ (.tail _ (.tail _ fC)))
 refine wpAny_For (Tuple_ (arg_ (ldC_ (j:=jc) S (ce_law_order L) hjc (arg_ (sub3 (ldC_ (j:=jc) S (ce_law_order L) hjc (pt0 (pt0 (cInt fun k1 t1=>getSl S (lob_list (S.N _ (.tail _ (.tail _ (.tail _ fO)))).1) .none .none (.int _ _) (by simp) (by lia) fun h2 Ev S2=>arg0 (newT S2 (by simp) fun h3 S3=>?_))))))))))
 have hev:IntsAre (slicePick oi.toArray none none (some 2)).toList (evs O):=by have:=hoi.pick none none (some 2);rwa [pickNums2] at this
 generalize (slicePick oi.toArray none none (some 2)).toList=ei at S2 S3 hev
 generalize hTP:h2.objs.size=TP at S3 ⊢
 generalize hF2:(TP,(tob [.ref Od,.ref Ev]:Obj))::(Ev,lob ei 0)::F=F2
 have S5:St g L h3 nm_law [some (.ref Dc),some (.ref a.lH),some (.ref P),some (.ref a.t),xr] ((a.d0,od0)::(a.d1,od1)::(220,op)::([]++F2)):=by
  rw [← hF2]
  exact St.perm S3 ((List.perm_append_comm (l₁:=[(TP,(tob [.ref Od,.ref Ev]:Obj)),(Ev,lob ei 0)]) (l₂:=[(a.d0,od0),(a.d1,od1),(220,op)])).append_right F)
 have fF:∀ p∈F,p∈F2:=fun p hp=>by rw [← hF2];exact .tail _ (.tail _ hp)
 have fT:(TP,(tob [.ref Od,.ref Ev]:Obj))∈F2:=by rw [← hF2];exact .head _
 have fE:(Ev,lob ei 0)∈F2:=by rw [← hF2];exact .tail _ (.head _)
 have hTPg:=(S5.N _ (.tail _ (.tail _ (.tail _ fT)))).1
 refine wpAny_pyIter_tuple (s:=⟨h3,gs,dr,_,os⟩) (items:=[Value.ref Od,.ref Ev].toArray) ⟨_,hTPg,rfl,0,rfl⟩ ?_
 have hlt:TP < h3.objs.size:=Heap.lt_size hTPg
 have Wk:=Walks.tuple (prog:=Mine.prog) (w:=w) hA h3.objs.size TP (Nat.ne_of_lt hlt) [Value.ref Od,.ref Ev].toArray
 refine forG (own:=[(h3.objs.size,_)]) (RwJ w g a Dc P F2) Wk ?_ (fun b hb=>by simpa using hb) ?_ (fun i v s Q E _ _ _ hq=>wP hq) ?_ ?_ ⟨_,od0,od1,op,[],rfl,rfl,hct,M.mono fun b o e=>e.imp id (fF _)⟩ (S5.push _).last ⟨⟨_,Heap.get?_push_size _ rfl,rfl,rfl⟩,⟨_,Heap.get?_push_of_some _ hTPg,rfl,0,rfl⟩⟩ hgs
 ·intro b hb'
  rcases mK hb' with rfl | hb'
  ·exact .inl (by simp)
  ·rw [mS hb']
   exact .inr (.inr ⟨_,fun i ls mu hJ=>by obtain⟨_,_,_,_,_,_,rfl,_⟩:=hJ;exact .tail _ (.tail _ (.tail _ (mR _ fT)))⟩)
 ·rintro i h' ⟨⟨o,ho,_⟩,_⟩ b hb
  rw [mS hb];exact⟨o,ho⟩
 ·rintro i v _ _ own h6 gs6 tk6 hi' hv ⟨yr,b0,b1,bp,Y,rfl,rfl,hct1,M6⟩ _ hg6 S6 Tq hTq
  obtain⟨X,xi,xn,row,rfl,fX,hxi,hsub,hrow⟩:∃ (X:Addr) (xi:List Value) (xn:Nat) (row:List Int),v=.ref X∧(X,lob xi xn)∈F2∧IntsAre xi row∧row.Sublist O∧(row=O∨Far O row):=by
   have hv':[Value.ref Od,.ref Ev][i]?=some v:=by simpa using hv
   rcases j2 i (by simpa using hi') with rfl | rfl
   ·exact⟨Od,oi,no,O,(Option.some.inj hv').symm,fF _ fO,hoi,List.Sublist.refl _,.inl rfl⟩
   ·exact⟨Ev,ei,0,evs O,(Option.some.inj hv').symm,fE,hev,evs_sub O,.inr (evs_far nd)⟩
  refine assign_Name (stE S6 (ve_law_row L) (nB rfl) fun h7 t7 S7=>?_)
  replace S7:St g L h7 nm_law [some (.ref Dc),some (.ref a.lH),some (.ref P),some (.ref a.t),some (.ref X)] ((a.d0,b0)::(a.d1,b1)::(220,bp)::((Y++F2)++own)):=S7
  have inF:∀ {p:Addr×Obj},p∈F2→p∈(Y++F2)++own:=fun hp=>mF _ (mR _ hp)
  obtain⟨jc,hjc⟩:=List.getElem?_of_mem (show(L+1+1+1,cob (some (.ref Od)))∈(a.d0,b0)::(a.d1,b1)::(220,bp)::((Y++F2)++own) from .tail _ (.tail _ (.tail _ (inF (fF _ fC)))))
  refine exc (wpAny_If (isTrue_not (isTrue_plain (cG S7 D (ge_law__law_moved_right L) (gn_moved _) (fn_moved_right _) (arg_ (ldE S7 (ve_law_matchers L) rfl (arg_ (ldE S7 (ve_law_row L) rfl (arg_ (ldC_ (j:=jc) S7 (ce_law_order L) hjc (arg_ (ldE S7 (ve_law_counts L) rfl (arg_ (Call_ (lbE S7 D (ge_law_len L) (bn_len _) (cB (arg_ (ldE S7 (ve_law_hidden L) rfl (arg0 (lenN (S7.N _ (.tail _ (.tail _ (.tail _ (inF (fF _ fH)))))).1 (by lia) fun k8 t8=>arg0 ⟨D.k.keeps S7.F.keep,?_⟩))))))))))))))))))))
  rw [hhil]
  refine callMa (R:=fun b o=>g.get? b=some o) (k:=20) (mu:=Y++F2) S7 D (fun _ _ e=>e) (fun p hp=>mF _ hp) hA hdep hu hg6 hct1 M6 z1 z2 (fun X'=>moved_spec X' (St.hid S7 (inF fX)) hxi (St.hid S7 (inF (fF _ fO))) hoi (St.hid S7 (inF (fF _ fD))) hDC nd (fun n hn=>(hO n).mp hn) hH hsub hrow) ?_ (fun _ h=>h)
  intro v h9 gs9 t9 b0' b1' bp' new hg9 hct9 S9 M9 hv
  subst hv
  refine wT ?_
  rw [if_neg (by decide)]
  refine exn ?_
  have e:(a.d0,b0')::(a.d1,b1')::(220,bp')::(new++((Y++F2)++own))=((a.d0,b0')::(a.d1,b1')::(220,bp')::((new++Y)++F2))++own:=by simp
  rw [e] at S9
  rw [← List.append_assoc] at M9
  exact exn (TN hTq S9 hg9 ⟨_,b0',b1',bp',new++Y,rfl,rfl,hct9,M9⟩)
 ·rintro _ _ h6 gs6 tk6 ⟨yr,b0,b1,bp,Y,rfl,rfl,hct1,M6⟩ hg6 S6
  exact q h6 gs6 tk6 _ bp hg6 hct1 (S6.drop (List.singleton_sublist.mpr (.tail _ (.tail _ (.head _)))))
end
theorem pmP{α:Type}{h d l1 l2 n c o t:α}:[h,d,l1,l2,n,c,o,t].Perm (c::o::[t,h,d,l1,l2,n]) :=
 (pmU (pmU (pmU (pmU (pmU (.refl _)))))).trans (.cons _ ((pmU (pmU (pmU (pmU (pmU (.refl _)))))).trans (.cons _ (pmU (pmU (pmU (pmU (pmU (.refl _)))))))))
theorem pmM{α:Type}{M d1 m1 E2 d0 m0 E1 T:α}{new2 new1 F:List α}:(M::d1::m1::(new2++(E2::d0::m0::(new1++(E1::T::F))))).Perm (d0::d1::T::(M::m1::(new2++(E2::m0::(new1++(E1::F)))))) :=
 (pmU (pmU (pmU (pmA (pmU (.refl _)))))).trans (.cons _ ((pmU (.refl _)).trans (.cons _ (pmU (pmU (pmA (pmU (pmU (pmA (pmU (.refl _)))))))))))
section
variable{w:World}{A:Around}{E:Value→Shared→Prop}{s s':Shared}{mg mb:Str→Option Value}{G g h:Heap}{gs:Array GenState}{dr:Drawn}{tk:Nat}{os:OsState}{L C:Addr}{ls:List (Option Value)}{mu Z F:List (Addr×Obj)}{a:Ma}{od0 od1 op:Obj}
theorem law_matchers{Dc P Hd:Addr}{hi:List Value}{nh:Nat}{H:List Int}{Q:Flow→Shared→Prop}(S:St g L h nm_law [some (.ref Dc),some (.ref Hd),some (.ref P),none,none] ((220,op)::F))(D:Gd (K w.params) mg mb g)(hA:A.handled=none)(hdep:A.depth+10 < recursionLimit)(hgs:AllBare gs)(fH:(Hd,lob hi nh)∈F)(hhi:IntsAre hi H)(hz:H.length≤16)
  (q:∀ h' gs' tk' (a:Ma) od0 od1 Y,AllBare gs'→a.lH=Hd→a.H=H→MM w (Rel.and (fun b o=>g.get? b=some o) (Y++F)) a od0 od1→St g L h' nm_law [some (.ref Dc),some (.ref a.lH),some (.ref P),some (.ref a.t),none] ((a.d0,od0)::(a.d1,od1)::(220,op)::(Y++F))→Q .next ⟨h',gs',dr,tk',os⟩) :
  wpAny (model prog w) A (exec (bd_law.getD 5 (.Pass ⟨0,0,0,0⟩)) (e_law L)) Q E ⟨h,gs,dr,tk,os⟩:=by
 refine asgE (List_ (arg_ (Call_ (lgE S D (ge_law_SequenceMatcher L) (gn_SM _) (callWith_K (D.k.keeps S.F.keep) (kp_CM _) (arg_ (wpAny_Constant_none (arg_ (List_ (arg0 (newL S (by simp) fun h1 S1=>arg_ (ldE S1 (ve_law_hidden L) rfl (arg0 ⟨D.k.keeps S1.F.keep,?_⟩)))))))))))))
 generalize hE1:h.objs.size=E1 at S1 ⊢
 have k1:∀ b o,Kn g ((E1,lob [] 0)::F) b o→Kn g ((E1,lob [] 0)::(220,op)::F) b o:=fun b o e=>e.imp id fun m=>by
  rcases mK m with e | m
  ·rw [e];exact .head _
  ·exact .tail _ (.tail _ m)
 refine mkMatcher (va:=.ref E1) (vb:=.ref Hd) (aj:=true) (R:=Kn g ((E1,lob [] 0)::F)) (oa:=some (E1,[])) (ob:=some (Hd,H)) S1 D hA hdep hgs k1 (.inl ⟨_,_,rfl,rfl,⟨[],0,.inr (.head _),.nil⟩,by simp⟩) (.inl ⟨_,_,rfl,rfl,⟨hi,nh,.inr (.tail _ fH),hhi⟩,by lia⟩) (fun s x X=>b_init3 _ _ X _ _ _ _) fun h2 gs2 t2 m0 d0 vs0 od0 new1 hg2 S2 I2 M2=>?_
 refine arg_ (Call_ (lgE S2 D (ge_law_SequenceMatcher L) (gn_SM _) (callWith_K (D.k.keeps S2.F.keep) (kp_CM _) (arg_ (wpAny_Constant_none (arg_ (ldE S2 (ve_law_hidden L) rfl (arg_ (List_ (arg0 (newL S2 (by simp) fun h3 S3=>arg0 ⟨D.k.keeps S3.F.keep,?_⟩)))))))))))
 generalize hE2:h2.objs.size=E2 at S3 ⊢
 have k2:∀ b o,Kn g ((E2,lob [] 0)::F) b o→Kn g ((E2,lob [] 0)::(d0,od0)::(m0,inst CM d0)::(new1++((E1,lob [] 0)::(220,op)::F))) b o:=fun b o e=>e.imp id fun m=>by
  rcases mK m with e | m
  ·rw [e];exact .head _
  ·exact .tail _ (.tail _ (.tail _ (mR _ (.tail _ (.tail _ m)))))
 refine mkMatcher (va:=.ref Hd) (vb:=.ref E2) (aj:=true) (R:=Kn g ((E2,lob [] 0)::F)) (oa:=some (Hd,H)) (ob:=some (E2,[])) S3 D hA hdep hg2 k2 (.inl ⟨_,_,rfl,rfl,⟨hi,nh,.inr (.tail _ fH),hhi⟩,by lia⟩) (.inl ⟨_,_,rfl,rfl,⟨[],0,.inr (.head _),.nil⟩,by simp⟩) (fun s x X=>b_init3 _ _ X _ _ _ _) fun h4 gs4 t4 m1 d1 vs1 od1 new2 hg4 S4 I4 M4=>?_
 refine arg0 (newL S4 (by simp) fun h5 S5=>stE S5 (ve_law_matchers L) (nB rfl) fun h6 t6 S6=>?_)
 have S7:=S6.perm pmM
 have e:(h4.objs.size,(lob [.ref m0,.ref m1] 0:Obj))::(m1,inst CM d1)::(new2++((E2,lob [] 0)::(m0,inst CM d0)::(new1++((E1,lob [] 0)::F))))=((h4.objs.size,lob [.ref m0,.ref m1] 0)::(m1,inst CM d1)::(new2++((E2,lob [] 0)::(m0,inst CM d0)::(new1++[(E1,lob [] 0)]))))++F:=by simp
 rw [e] at S7
 generalize hY:(h4.objs.size,(lob [.ref m0,.ref m1] 0:Obj))::(m1,inst CM d1)::(new2++((E2,lob [] 0)::(m0,inst CM d0)::(new1++[(E1,lob [] 0)])))=Y at S7
 have y0:(m0,inst CM d0)∈Y:=by rw [← hY];exact .tail _ (.tail _ (mR _ (.tail _ (.head _))))
 have y1:(m1,inst CM d1)∈Y:=by rw [← hY];exact .tail _ (.head _)
 have yM:(h4.objs.size,(lob [.ref m0,.ref m1] 0:Obj))∈Y:=by rw [← hY];exact .head _
 have yE1:(E1,(lob [] 0:Obj))∈Y:=by rw [← hY];exact .tail _ (.tail _ (mR _ (.tail _ (.tail _ (mR _ (.head _))))))
 have yE2:(E2,(lob [] 0:Obj))∈Y:=by rw [← hY];exact .tail _ (.tail _ (mR _ (.head _)))
 have yn1:∀ p∈new1,p∈Y:=fun p hp=>by rw [← hY];exact .tail _ (.tail _ (mR _ (.tail _ (.tail _ (mF _ hp)))))
 have yn2:∀ p∈new2,p∈Y:=fun p hp=>by rw [← hY];exact .tail _ (.tail _ (mF _ hp))
 refine q h6 gs4 t6 ⟨h4.objs.size,m0,m1,d0,d1,Hd,H⟩ od0 od1 Y hg4 rfl rfl ⟨.inr (mF _ y0),.inr (mF _ y1),⟨0,.inr (mF _ yM)⟩,⟨_,vs0,I2,M2.mono fun b o kn=>?_⟩,⟨_,vs1,I4,M4.mono fun b o kn=>?_⟩⟩ S7
 ·rcases kn with (kn | m) | m
  ·exact .inl kn
  ·rcases mK m with e | m
   ·exact .inr (by rw [e];exact mF _ yE1)
   ·exact .inr (mR _ m)
  ·rcases mK m with e | m
   ·exact .inr (by rw [e];exact mF _ y0)
   ·exact .inr (mF _ (yn1 _ m))
 ·rcases kn with (kn | m) | m
  ·exact .inl kn
  ·rcases mK m with e | m
   ·exact .inr (by rw [e];exact mF _ yE2)
   ·exact .inr (mR _ m)
  ·rcases mK m with e | m
   ·exact .inr (by rw [e];exact mF _ y1)
   ·exact .inr (mF _ (yn2 _ m))
theorem law_spec{l:Addr}{items:List Value}{xs:List Int}
  (D:Gd (K w.params) mg mb G) (hsub:Sub G s.heap) (hGT:G.get? 220=none) (hA:A.handled=none) (hdep:A.depth+40 < recursionLimit) (hu:A.units+80 < cLine) (hgs:AllBare s.gens) (hop:s.heap.get? 220=some op) (hct:CodeTab op)
  (hl:s.heap.IsList l items.toArray) (hi:IntsAre items xs) (hlen:items.length≤63) :
  codeAny (model prog w) A (.call (.ref 292) ⟨[.ref l],[]⟩) (Ret [220] s fun v s'=>v=.bool true∧∃ op',s'.heap.get? 220=some op'∧CodeTab op') s:=by
 have hWd:∀ a∈[220],G.get? a=none:=fun a ha=>by rw [mS ha];exact hGT
 have hSW:cStatics∉[220]:=fun hm=>by
  refine oEA D.lim fun _ hn _=>?_
  refine oEEEA hn fun o _ _ ho _=>?_
  have:=hWd _ hm
  rw [ho] at this;cases this
 refine enterD [(220,op)] (fn_law _) (D.keeps hsub) (by lia) (bi_law _ _ _) (fun p hp=>by rw [mS hp];exact hop) (by simp) hSW nm_law [none,none,none,none,none] rfl led_law fun Po hPo L h₁ hL S=>?_
 have Dg:Gd (K w.params) mg mb (hideAll s.heap [220]):=D.hide hsub hWd
 have hlg:(hideAll s.heap [220]).IsList l items.toArray:=hl.at fun o e=>hideAll_get _ e fun m=>by
  have e1:=mS m
  refine oEA hct ?_;rintro ps rfl _
  obtain⟨o2,ho2,hc2,n2,hd2⟩:=hl
  rw [e1,hop] at ho2
  cases ho2
  cases hd2
 refine ba_cons (stC_ (j:=0) S (ce_law_script L) rfl fun h2 S2=>ba_nil ⟨S2.F.keep,?_⟩)
 replace S2:St (hideAll s.heap [220]) L h2 nm_law [none,none,none,none,none] ((L+1,cob (some (.ref l)))::(L+1+1,cob none)::(L+1+1+1,cob none)::(220,op)::[]):=S2
 refine exc (law_numbers S2 Dg hA hgs hlg hi hlen fun h3 gs3 t3 N ni nn ns hg3 hni l8 l16 S3=>?_)
 refine exc (law_order S3 Dg hA hg3 hni l16 fun h4 gs4 t4 Od oi no hg4 hoi S4=>?_)
 have HD:=hid ns
 generalize dd ns ns.length=O at hoi HD
 generalize hH:(its O fun n=>ns.count n)=H at HD
 have hbag:(fun n=>ns.count n)=fun n=>H.count n:=funext fun n=>(HD.bag n).symm
 have hOl:O.length≤16:=ntr HD.le l16
 refine exc (law_counts S4 Dg hA hg4 hni l16 hoi hOl fun h5 gs5 t5 Dc oD hg5 hDC S5=>?_)
 refine exc (asgE (cG S5 Dg (ge_law__law_items L) (gn_items _) (fn_items _) (arg_ (ldC_ (j:=4) S5 (ce_law_order L) rfl (arg_ (ldE S5 (ve_law_counts L) rfl (arg0 ⟨Dg.k.keeps S5.F.keep,?_⟩)))))))
 refine callItems S5 Dg hA (by show A.depth+1+2 < _;lia) hg5 (S5.get (j:=5) rfl) hoi (S5.get (j:=0) rfl) hDC (by lia) (by rw [hH,HD.len];lia) (fun n _=>by have:ns.count n≤ns.length:=List.count_le_length;lia) fun h6 gs6 t6 Hd hi' nh hg6 hhi S6=>?_
 rw [hH] at hhi
 rw [hbag] at hDC
 refine stE S6 (ve_law_hidden L) (nB rfl) fun h7 t7 S7=>?_
 refine exc (law_pool (S7.perm pmP) Dg hA hg6 hoi hOl fun h8 gs8 t8 P pi np pool hg8 hpi hperm S8=>?_)
 have S9:=S8.perm (List.perm_middle (l₁:=[(P,lob pi np),(L+1+1+1,cob (some (.ref Od))),(Od,lob oi no)]) (a:=(220,op)))
 generalize hF:[(P,(lob pi np:Obj)),(L+1+1+1,cob (some (.ref Od))),(Od,lob oi no)]++[(Hd,lob hi' nh),(Dc,oD),(L+1,cob (some (.ref l))),(L+1+1,cob (some (.ref N))),(N,lob ni nn)]=F at S9
 have fP:(P,(lob pi np:Obj))∈F:=by rw [← hF];exact .head _
 have fC:(L+1+1+1,cob (some (.ref Od)))∈F:=by rw [← hF];exact .tail _ (.head _)
 have fO:(Od,(lob oi no:Obj))∈F:=by rw [← hF];exact .tail _ (.tail _ (.head _))
 have fH:(Hd,(lob hi' nh:Obj))∈F:=by rw [← hF];exact .tail _ (.tail _ (.tail _ (.head _)))
 have fD:(Dc,oD)∈F:=by rw [← hF];exact .tail _ (.tail _ (.tail _ (.tail _ (.head _))))
 refine exc (law_matchers S9 Dg hA (by show A.depth+1+10 < _;lia) hg8 fH hhi (by rw [HD.len];exact l16) fun h10 gs10 t10 a b0 b1 Y hg10 eHd eH M10 S10=>?_)
 subst eHd eH
 have z1:8≤a.H.length:=by rw [HD.len];exact l8
 have z2:a.H.length≤16:=by rw [HD.len];exact l16
 have pok:=pp_ok HD.nd O.length (Nat.le_refl _)
 have ndp:pool.Nodup:=hperm.nodup_iff.mpr (List.nodup_append.mpr ⟨HD.nd,pok.1,fun u hu v hv e=>(pok.2 v hv).1 (e▸hu)⟩)
 have hOp:∀ u∈O,u∈pool:=fun u hu=>hperm.mem_iff.mpr (mF _ hu)
 have hpl:pool.length≤40:=by rw [hperm.length_eq,List.length_append];have:=pp_len (O:=O) O.length;lia
 have hp0:pool≠[]:=fun e=>by
  have hO0:O=[]:=by
   cases O with
   | nil=>rfl
   | cons x r=>have:=hOp x (.head _);rw [e] at this;cases this
  have:=HD.own
  rw [hO0,its_nil] at this
  rw [this] at z1;simp at z1
 refine exc (wpAny_If (wC (cG S10 Dg (ge_law__law_spied L) (gn_spied _) (fn_spied _) (arg_ (ldE S10 (ve_law_matchers L) rfl (arg_ (ldE S10 (ve_law_pool L) rfl (arg0 ⟨Dg.k.keeps S10.F.keep,?_⟩))))))))
 refine callMa (R:=fun b o=>(hideAll s.heap [220]).get? b=some o) (k:=20) (mu:=Y++F) S10 Dg (fun _ _ e=>e) (fun p hp=>hp) hA (by show A.depth+1+20 < _;lia) (by show A.units+3+3 * 20 < _;lia) hg10 hct M10 z1 z2 (fun X'=>spied_spec X' (St.hid S10 (mR _ fP)) hpi ndp hp0 hpl HD.nd HD.mem hOp HD.own) ?_ SV.mono
 intro v h11 gs11 t11 b0' b1' bp' new hg11 hct11 S11 M11 hv
 obtain⟨T,ti,tz,rfl,rT,hti⟩:=hv
 have inF:∀ {p:Addr×Obj},p∈F→p∈(a.d0,b0')::(a.d1,b1')::(220,bp')::(new++(Y++F)):=fun m=>.tail _ (.tail _ (.tail _ (mR _ (mR _ m))))
 refine ldE S11 (ve_law_hidden L) rfl (neInts (lob_list (S11.kn (rT.imp id fun m=>.tail _ (.tail _ (.tail _ m))))) (lob_list (S11.N _ (inF fH)).1) hti hhi (by show A.units+3 < _;lia) (wT ?_))
 rw [decide_eq_false (by simp),if_neg (by decide)]
 refine exn ?_
 refine exc (law_rows S11 Dg hA (by show A.depth+1+20 < _;lia) (by show A.units+3+60 < _;lia) hg11 hct11 M11 (mR _ (mR _ fC)) (mR _ (mR _ fO)) (mR _ (mR _ fD)) (mR _ (mR _ fH)) hoi hhi hDC HD.nd HD.mem HD.own z1 z2 fun h12 gs12 t12 ls12 bp12 hg12 hct12 S12=>?_)
 refine exc (wpAny_Return_some (wpAny_Constant_bool ?_))
 exact endP hPo S12 hL (fun _=>hg12) rfl rfl ⟨rfl,bp12,S12.get (j:=0) rfl,hct12⟩
end
theorem kh_k{P:Params}{h:Heap}(X:(KH P).In h):(K P).In h∧h.get? 220=some (o220 P):=by
 have k0:(K P).lookup 220=none:=by kernel_rfl
 refine⟨fun b o e=>X b o ?_,X 220 _ (by kernel_rfl)⟩
 unfold KH
 rw [List.lookup_cons]
 have hb:(b == 220)=false:=by
  rw [beq_eq_false_iff_ne]
  rintro rfl
  rw [k0] at e;cases e
 rw [hb];exact e
theorem gd_top{P:Params}{p:Program}{loose:List Str}{mean:ExcName→Option Value}{mg mb:Str→Option Value}{h:Heap}(X:(KH P).In h)(T:Top p loose mean mg mb h)(M:∃ bm ob,BMod h mainGlobals mg bm ob):Gd (K P) mg mb (hideAll h [220]):=by
 obtain⟨X0,hT⟩:=kh_k X
 have ge:∀ {b o},h.get? b=some o→b≠220→(hideAll h [220]).get? b=some o:=fun e n=>hideAll_get _ e (by simpa using n)
 have k0:(K P).lookup 220=none:=by kernel_rfl
 refine⟨fun b o e=>ge (X0 b o e) ?_,?_,?_,?_,T.builtins,?_⟩
 ·rintro rfl
  rw [k0] at e;cases e
 ·exact T.g.at' fun o e=>ge e (by decide)
 ·exact T.b.at' fun o e=>ge e (by decide)
 ·refine oEA T.nolimit fun m hn hm=>?_
  exact⟨m,hn.at' fun o e=>ge e (by decide),hm⟩
 ·refine oEE M fun bm ob M=>?_
  refine⟨bm,ob,M.name,M.ne,ge M.obj ?_,M.cls,M.dict,M.data⟩
  rintro rfl
  have h1:=M.obj
  have h2:=M.cls
  rw [hT] at h1
  cases h1
  cases h2
theorem walk:WalkO view loose (XL view []) (Hook.says hook) row.toRowW dlaw [] fun f vs=>PySem.call f vs:=by
 intro w s₀ s₁ mg mb G Y fa o pm cd doc dV kV ho hd hcd hD hmg hg args vals as hpre hlay hrd hwl hlo
 have KX:=kIn_of Y
 refine Ground.open G ?_
 intro T B D TE TW
 have M:=bmod_of_top T
 have GD:=gd_top KX T M
 wrow_args hpre hlay hrd hwl hlo
 rename_i xs hs hlay0 hLy hra hl2 as3 as2 l items as1 hL ra w1 r0 hI hr hcond htr
 obtain⟨KX0,hT⟩:=kh_k KX
 have e0:mg dlaw.name=some (.ref 292):=mg_of KX0 T.g (by kernel_rfl)
 rw [hmg] at e0
 obtain rfl:fa=292:=by cases e0;rfl
 refine enter_call ?_
 have hlen:items.length≤63:=by rw [hI.length];omega
 refine codeAny_mono (law_spec (G:=hideAll s₁.heap [220]) GD (fun b o e=>of_hideAll _ e) (hideAll_none _ (by simp)) rfl (by decide +kernel) (by decide +kernel) (by rw [hg];exact fun _ h=>absurd h (by simp)) hT ⟨_,rfl,by trivial⟩ hL hI hlen) fun r s' hr=>?_
 refine oEAA (retO hr) ?_;rintro v rfl Mo ⟨hv,op',hop',ps,hps,_⟩
 subst hv hps
 refine⟨.inl ⟨.bool true,.bool true,[],rfl,fun cls=>by rfl,.bool true,by kernel_rfl,fun _=>⟨.nil,fun _ h=>nomatch h⟩⟩,⟨fun b o e=>?_,fun b o e=>?_⟩,Mo.os,Mo.gens (by rw [hg];exact fun _ h=>absurd h (by simp))⟩
 ·by_cases hb:b=220
  ·subst hb
   rw [hT] at e
   cases e
   exact .inr (.inl ⟨⟨224,o224 w.params,_,KX0 224 _ (by kernel_rfl),rfl,rfl,rfl⟩,rfl,#[],ps,rfl,by rw [hop'];simp [o220]⟩)
  ·exact .inl (Mo.keep b o e (by simpa using hb))
 ·by_cases hb:b=220
  ·subst hb;exact⟨_,hop'⟩
  ·exact⟨o,Mo.keep b o e (by simpa using hb)⟩
end Mine
theorem PySem.Challenge.cw_mt0005_01_holds : PySem.Challenge.rw_mt0005_01.Holds :=
  Mine.hd Mine.walk

import PyProof.Rows.All
import Wide.All
import OpenK.AllK
import Wide.FinOn
import PyProof.Rules3
import PyProof.FString5
import PyProof.P3Eq
import PyProof.NeData
import KE.KSortTup
import OpenK.ZEntry
import Lean
import PySem.Challenge.RW_oy0204_01
set_option maxRecDepth 100000
set_option linter.all false
set_option bootstrap.genMatcherCode false
set_option genInjectivity false
set_option genSizeOf false
set_option Elab.async false
section
namespace Mine
theorem el_A {p1:Prop} {p2:Prop} {G:Prop} (h:p1∧p2) (k:p1→p2→G):G :=
 k h.1 h.2
theorem el_AA {p1:Prop} {p2:Prop} {p3:Prop} {G:Prop} (h:p1∧p2∧p3) (k:p1→p2→p3→G):G :=
 k h.1 h.2.1 h.2.2
theorem el_AAEEEA {α1 α2 α3:Type} {p1:Prop} {p2:Prop} {p3:α1→α2→α3→Prop} {p4:α1→α2→α3→Prop} {G:Prop} (h:p1∧p2∧∃ x1,∃ x2,∃ x3,p3 x1 x2 x3∧p4 x1 x2 x3) (k:p1→p2→∀ x1,∀ x2,∀ x3,p3 x1 x2 x3→p4 x1 x2 x3→G):G :=
 h.2.2.elim fun x1 h1=>h1.elim fun x2 h2=>h2.elim fun x3 h3=>k h.1 h.2.1 x1 x2 x3 h3.1 h3.2
theorem el_EA {α1:Type} {p1:α1→Prop} {p2:α1→Prop} {G:Prop} (h:∃ x1,p1 x1∧p2 x1) (k:∀ x1,p1 x1→p2 x1→G):G :=
 h.elim fun x1 h1=>k x1 h1.1 h1.2
theorem el_EEAA {α1 α2:Type} {p1:α1→α2→Prop} {p2:α1→α2→Prop} {p3:α1→α2→Prop} {G:Prop} (h:∃ x1,∃ x2,p1 x1 x2∧p2 x1 x2∧p3 x1 x2) (k:∀ x1,∀ x2,p1 x1 x2→p2 x1 x2→p3 x1 x2→G):G :=
 h.elim fun x1 h1=>h1.elim fun x2 h2=>k x1 x2 h2.1 h2.2.1 h2.2.2
theorem el_EEAAA {α1 α2:Type} {p1:α1→α2→Prop} {p2:α1→α2→Prop} {p3:α1→α2→Prop} {p4:α1→α2→Prop} {G:Prop} (h:∃ x1,∃ x2,p1 x1 x2∧p2 x1 x2∧p3 x1 x2∧p4 x1 x2) (k:∀ x1,∀ x2,p1 x1 x2→p2 x1 x2→p3 x1 x2→p4 x1 x2→G):G :=
 h.elim fun x1 h1=>h1.elim fun x2 h2=>k x1 x2 h2.1 h2.2.1 h2.2.2.1 h2.2.2.2
theorem el_E {α1:Type} {p1:α1→Prop} {G:Prop} (h:∃ x1,p1 x1) (k:∀ x1,p1 x1→G):G :=
 h.elim fun x1 h1=>k x1 h1
theorem el_EAA {α1:Type} {p1:α1→Prop} {p2:α1→Prop} {p3:α1→Prop} {G:Prop} (h:∃ x1,p1 x1∧p2 x1∧p3 x1) (k:∀ x1,p1 x1→p2 x1→p3 x1→G):G :=
 h.elim fun x1 h1=>k x1 h1.1 h1.2.1 h1.2.2
theorem el_EAEE {α1 α2 α3:Type} {p1:α1→Prop} {p2:α1→α2→α3→Prop} {G:Prop} (h:∃ x1,p1 x1∧∃ x2,∃ x3,p2 x1 x2 x3) (k:∀ x1,p1 x1→∀ x2,∀ x3,p2 x1 x2 x3→G):G :=
 h.elim fun x1 h1=>h1.2.elim fun x2 h2=>h2.elim fun x3 h3=>k x1 h1.1 x2 x3 h3
theorem el_EE {α1 α2:Type} {p1:α1→α2→Prop} {G:Prop} (h:∃ x1,∃ x2,p1 x1 x2) (k:∀ x1,∀ x2,p1 x1 x2→G):G :=
 h.elim fun x1 h1=>h1.elim fun x2 h2=>k x1 x2 h2
theorem el_AAAA {p1:Prop} {p2:Prop} {p3:Prop} {p4:Prop} {p5:Prop} {G:Prop} (h:p1∧p2∧p3∧p4∧p5) (k:p1→p2→p3→p4→p5→G):G :=
 k h.1 h.2.1 h.2.2.1 h.2.2.2.1 h.2.2.2.2
theorem el_EEEE {α1 α2 α3 α4:Type} {p1:α1→α2→α3→α4→Prop} {G:Prop} (h:∃ x1,∃ x2,∃ x3,∃ x4,p1 x1 x2 x3 x4) (k:∀ x1,∀ x2,∀ x3,∀ x4,p1 x1 x2 x3 x4→G):G :=
 h.elim fun x1 h1=>h1.elim fun x2 h2=>h2.elim fun x3 h3=>h3.elim fun x4 h4=>k x1 x2 x3 x4 h4
theorem el_EEEEAA {α1 α2 α3 α4:Type} {p1:α1→α2→α3→α4→Prop} {p2:α1→α2→α3→α4→Prop} {p3:α1→α2→α3→α4→Prop} {G:Prop} (h:∃ x1,∃ x2,∃ x3,∃ x4,p1 x1 x2 x3 x4∧p2 x1 x2 x3 x4∧p3 x1 x2 x3 x4) (k:∀ x1,∀ x2,∀ x3,∀ x4,p1 x1 x2 x3 x4→p2 x1 x2 x3 x4→p3 x1 x2 x3 x4→G):G :=
 h.elim fun x1 h1=>h1.elim fun x2 h2=>h2.elim fun x3 h3=>h3.elim fun x4 h4=>k x1 x2 x3 x4 h4.1 h4.2.1 h4.2.2
theorem el_EEEEEEE {α1 α2 α3 α4 α5 α6 α7:Type} {p1:α1→α2→α3→α4→α5→α6→α7→Prop} {G:Prop} (h:∃ x1,∃ x2,∃ x3,∃ x4,∃ x5,∃ x6,∃ x7,p1 x1 x2 x3 x4 x5 x6 x7) (k:∀ x1,∀ x2,∀ x3,∀ x4,∀ x5,∀ x6,∀ x7,p1 x1 x2 x3 x4 x5 x6 x7→G):G :=
 h.elim fun x1 h1=>h1.elim fun x2 h2=>h2.elim fun x3 h3=>h3.elim fun x4 h4=>h4.elim fun x5 h5=>h5.elim fun x6 h6=>h6.elim fun x7 h7=>k x1 x2 x3 x4 x5 x6 x7 h7
theorem el_EEA {α1 α2:Type} {p1:α1→α2→Prop} {p2:α1→α2→Prop} {G:Prop} (h:∃ x1,∃ x2,p1 x1 x2∧p2 x1 x2) (k:∀ x1,∀ x2,p1 x1 x2→p2 x1 x2→G):G :=
 h.elim fun x1 h1=>h1.elim fun x2 h2=>k x1 x2 h2.1 h2.2
theorem el_EAE {α1 α2:Type} {p1:α1→Prop} {p2:α1→α2→Prop} {G:Prop} (h:∃ x1,p1 x1∧∃ x2,p2 x1 x2) (k:∀ x1,p1 x1→∀ x2,p2 x1 x2→G):G :=
 h.elim fun x1 h1=>h1.2.elim fun x2 h2=>k x1 h1.1 x2 h2
theorem el_EEEAAA {α1 α2 α3:Type} {p1:α1→α2→α3→Prop} {p2:α1→α2→α3→Prop} {p3:α1→α2→α3→Prop} {p4:α1→α2→α3→Prop} {G:Prop} (h:∃ x1,∃ x2,∃ x3,p1 x1 x2 x3∧p2 x1 x2 x3∧p3 x1 x2 x3∧p4 x1 x2 x3) (k:∀ x1,∀ x2,∀ x3,p1 x1 x2 x3→p2 x1 x2 x3→p3 x1 x2 x3→p4 x1 x2 x3→G):G :=
 h.elim fun x1 h1=>h1.elim fun x2 h2=>h2.elim fun x3 h3=>k x1 x2 x3 h3.1 h3.2.1 h3.2.2.1 h3.2.2.2
theorem el_AEA {α1:Type} {p1:Prop} {p2:α1→Prop} {p3:α1→Prop} {G:Prop} (h:p1∧∃ x1,p2 x1∧p3 x1) (k:p1→∀ x1,p2 x1→p3 x1→G):G :=
 h.2.elim fun x1 h1=>k h.1 x1 h1.1 h1.2
theorem el_EEEA {α1 α2 α3:Type} {p1:α1→α2→α3→Prop} {p2:α1→α2→α3→Prop} {G:Prop} (h:∃ x1,∃ x2,∃ x3,p1 x1 x2 x3∧p2 x1 x2 x3) (k:∀ x1,∀ x2,∀ x3,p1 x1 x2 x3→p2 x1 x2 x3→G):G :=
 h.elim fun x1 h1=>h1.elim fun x2 h2=>h2.elim fun x3 h3=>k x1 x2 x3 h3.1 h3.2
theorem el_AAAAA {p1:Prop} {p2:Prop} {p3:Prop} {p4:Prop} {p5:Prop} {p6:Prop} {G:Prop} (h:p1∧p2∧p3∧p4∧p5∧p6) (k:p1→p2→p3→p4→p5→p6→G):G :=
 k h.1 h.2.1 h.2.2.1 h.2.2.2.1 h.2.2.2.2.1 h.2.2.2.2.2
theorem el_AAA {p1:Prop} {p2:Prop} {p3:Prop} {p4:Prop} {G:Prop} (h:p1∧p2∧p3∧p4) (k:p1→p2→p3→p4→G):G :=
 k h.1 h.2.1 h.2.2.1 h.2.2.2
theorem el_EEE {α1 α2 α3:Type} {p1:α1→α2→α3→Prop} {G:Prop} (h:∃ x1,∃ x2,∃ x3,p1 x1 x2 x3) (k:∀ x1,∀ x2,∀ x3,p1 x1 x2 x3→G):G :=
 h.elim fun x1 h1=>h1.elim fun x2 h2=>h2.elim fun x3 h3=>k x1 x2 x3 h3
theorem el_EAAA {α1:Type} {p1:α1→Prop} {p2:α1→Prop} {p3:α1→Prop} {p4:α1→Prop} {G:Prop} (h:∃ x1,p1 x1∧p2 x1∧p3 x1∧p4 x1) (k:∀ x1,p1 x1→p2 x1→p3 x1→p4 x1→G):G :=
 h.elim fun x1 h1=>k x1 h1.1 h1.2.1 h1.2.2.1 h1.2.2.2
theorem el_EEEAA {α1 α2 α3:Type} {p1:α1→α2→α3→Prop} {p2:α1→α2→α3→Prop} {p3:α1→α2→α3→Prop} {G:Prop} (h:∃ x1,∃ x2,∃ x3,p1 x1 x2 x3∧p2 x1 x2 x3∧p3 x1 x2 x3) (k:∀ x1,∀ x2,∀ x3,p1 x1 x2 x3→p2 x1 x2 x3→p3 x1 x2 x3→G):G :=
 h.elim fun x1 h1=>h1.elim fun x2 h2=>h2.elim fun x3 h3=>k x1 x2 x3 h3.1 h3.2.1 h3.2.2
theorem el_EAEA {α1 α2:Type} {p1:α1→Prop} {p2:α1→α2→Prop} {p3:α1→α2→Prop} {G:Prop} (h:∃ x1,p1 x1∧∃ x2,p2 x1 x2∧p3 x1 x2) (k:∀ x1,p1 x1→∀ x2,p2 x1 x2→p3 x1 x2→G):G :=
 h.elim fun x1 h1=>h1.2.elim fun x2 h2=>k x1 h1.1 x2 h2.1 h2.2
theorem el_AE {α1:Type} {p1:Prop} {p2:α1→Prop} {G:Prop} (h:p1∧∃ x1,p2 x1) (k:p1→∀ x1,p2 x1→G):G :=
 h.2.elim fun x1 h1=>k h.1 x1 h1
theorem el_AEEE {α1 α2 α3:Type} {p1:Prop} {p2:α1→α2→α3→Prop} {G:Prop} (h:p1∧∃ x1,∃ x2,∃ x3,p2 x1 x2 x3) (k:p1→∀ x1,∀ x2,∀ x3,p2 x1 x2 x3→G):G :=
 h.2.elim fun x1 h1=>h1.elim fun x2 h2=>h2.elim fun x3 h3=>k h.1 x1 x2 x3 h3
theorem el_EEEEEAAA {α1 α2 α3 α4 α5:Type} {p1:α1→α2→α3→α4→α5→Prop} {p2:α1→α2→α3→α4→α5→Prop} {p3:α1→α2→α3→α4→α5→Prop} {p4:α1→α2→α3→α4→α5→Prop} {G:Prop} (h:∃ x1,∃ x2,∃ x3,∃ x4,∃ x5,p1 x1 x2 x3 x4 x5∧p2 x1 x2 x3 x4 x5∧p3 x1 x2 x3 x4 x5∧p4 x1 x2 x3 x4 x5) (k:∀ x1,∀ x2,∀ x3,∀ x4,∀ x5,p1 x1 x2 x3 x4 x5→p2 x1 x2 x3 x4 x5→p3 x1 x2 x3 x4 x5→p4 x1 x2 x3 x4 x5→G):G :=
 h.elim fun x1 h1=>h1.elim fun x2 h2=>h2.elim fun x3 h3=>h3.elim fun x4 h4=>h4.elim fun x5 h5=>k x1 x2 x3 x4 x5 h5.1 h5.2.1 h5.2.2.1 h5.2.2.2
theorem el_EEEEAAA {α1 α2 α3 α4:Type} {p1:α1→α2→α3→α4→Prop} {p2:α1→α2→α3→α4→Prop} {p3:α1→α2→α3→α4→Prop} {p4:α1→α2→α3→α4→Prop} {G:Prop} (h:∃ x1,∃ x2,∃ x3,∃ x4,p1 x1 x2 x3 x4∧p2 x1 x2 x3 x4∧p3 x1 x2 x3 x4∧p4 x1 x2 x3 x4) (k:∀ x1,∀ x2,∀ x3,∀ x4,p1 x1 x2 x3 x4→p2 x1 x2 x3 x4→p3 x1 x2 x3 x4→p4 x1 x2 x3 x4→G):G :=
 h.elim fun x1 h1=>h1.elim fun x2 h2=>h2.elim fun x3 h3=>h3.elim fun x4 h4=>k x1 x2 x3 x4 h4.1 h4.2.1 h4.2.2.1 h4.2.2.2
theorem el_AEEEE {α1 α2 α3 α4:Type} {p1:Prop} {p2:α1→α2→α3→α4→Prop} {G:Prop} (h:p1∧∃ x1,∃ x2,∃ x3,∃ x4,p2 x1 x2 x3 x4) (k:p1→∀ x1,∀ x2,∀ x3,∀ x4,p2 x1 x2 x3 x4→G):G :=
 h.2.elim fun x1 h1=>h1.elim fun x2 h2=>h2.elim fun x3 h3=>h3.elim fun x4 h4=>k h.1 x1 x2 x3 x4 h4
theorem el_EEEEEEAA {α1 α2 α3 α4 α5 α6:Type} {p1:α1→α2→α3→α4→α5→α6→Prop} {p2:α1→α2→α3→α4→α5→α6→Prop} {p3:α1→α2→α3→α4→α5→α6→Prop} {G:Prop} (h:∃ x1,∃ x2,∃ x3,∃ x4,∃ x5,∃ x6,p1 x1 x2 x3 x4 x5 x6∧p2 x1 x2 x3 x4 x5 x6∧p3 x1 x2 x3 x4 x5 x6) (k:∀ x1,∀ x2,∀ x3,∀ x4,∀ x5,∀ x6,p1 x1 x2 x3 x4 x5 x6→p2 x1 x2 x3 x4 x5 x6→p3 x1 x2 x3 x4 x5 x6→G):G :=
 h.elim fun x1 h1=>h1.elim fun x2 h2=>h2.elim fun x3 h3=>h3.elim fun x4 h4=>h4.elim fun x5 h5=>h5.elim fun x6 h6=>k x1 x2 x3 x4 x5 x6 h6.1 h6.2.1 h6.2.2
end Mine
end
namespace Mine
open PySem PySem.W PySem.W.X PySem.Spec PySem.Calls PyProof.Rows
noncomputable def denZ:Code→Sem Fin:=PySem.W.Fast.tw11892475500146522536 PySem.W.Fast.tw14364793385576792824
theorem denZ_eq (c:Code):denZ c=denote table c:=by
 unfold denZ
 rw [←PySem.W.Fast.te11892475500146522536,←PySem.W.Fast.te14364793385576792824,←PySem.table_eq_tree]
noncomputable def quietZ:Code→Bool:=PySem.W.ZFast.zw17772548960776305114
theorem quietZ_eq (c:Code):quietZ c=c.quiet:=by
 unfold quietZ
 rw [←PySem.W.ZFast.ze17772548960776305114]
noncomputable def weightZ:Code→Nat:=PySem.W.ZFast.zw1243936422450756474
theorem weightZ_eq (c:Code):weightZ c=c.weight:=by
 unfold weightZ
 rw [←PySem.W.ZFast.ze1243936422450756474]
noncomputable def nameT (v:Value) (q:Str):Sem Str:=match v with
 | .str q _=>pure q
 | _=>pure q
noncomputable def compiledT (fd:FuncData):Sem Str:=match fd.code with
 | .none=>pure fd.qualname
 | c=>field c 1 >>= fun v=>nameT v fd.qualname
noncomputable def entryT (a:Addr) (fd:FuncData) (args:Args):Sem Env :=
 compiledT fd >>= fun compiled=>bindArgs fd args >>= fun binds =>
 newFunctionEnv fd.scope fd.globals fd.closure binds (compiled ++ ".<locals>.") (some a) fd.code none fd.builtins
noncomputable def compiledZ (fd:FuncData):Sem Str:=match fd.code with
 | .none=>.pure fd.qualname
 | c=>PySem.W.R.bindR (PySem.W.Fast.tw6609576154772507232 c 1) fun v=>nameT v fd.qualname
noncomputable def entryZ (a:Addr) (fd:FuncData) (args:Args):Sem Env :=
 PySem.W.R.bindR (compiledZ fd) fun compiled =>
 PySem.W.R.bindR (PySem.W.Fast.tw9782568553167038054 fd args) fun binds =>
 PySem.W.Fast.tw11113344188204177931 fd.scope fd.globals fd.closure binds (compiled ++ ⟨#[46,60,108,111,99,97,108,115,62,46]⟩) (some a) fd.code none fd.builtins
theorem bindR_is {α β:Type} (m:Sem α) (f:α→Sem β):PySem.W.R.bindR m f=m >>= f:=by
 have:=congrFun (congrFun (congrFun (congrFun PySem.W.R.bindR_eq α) β) m) f
 exact this.symm
theorem entryZ_eq (a:Addr) (fd:FuncData) (args:Args):entryZ a fd args=entryT a fd args:=by
 have c:compiledZ fd=compiledT fd:=by
  unfold compiledZ compiledT
  split
  ·rfl
  ·rw [←PySem.W.Fast.te6609576154772507232,bindR_is]
 have e:(⟨#[46,60,108,111,99,97,108,115,62,46]⟩:Str) = ".<locals>.":=by decide +kernel
 unfold entryZ entryT
 rw [c,←PySem.W.Fast.te9782568553167038054,←PySem.W.Fast.te11113344188204177931,bindR_is,e]
 simp only [bindR_is]
theorem callFunction_is (a:Addr) (fd:FuncData) (args:Args) (hg:fd.scope.isGenerator=false) (hc:fd.scope.isCoroutine=false) :
  callFunction a fd args=(entryT a fd args >>= fun env=>enterFrame >>= fun vz0=>again (match fd.body with
   | .stmts b=>.func b env
   | .expr e=>.expr e env)):=by
 unfold callFunction entryT compiledT nameT
 rw [hg,hc]
 cases fd.code <;> simp only [bind_assoc,pure_bind] <;> (try rfl)
 all_goals (congr 1;funext v;cases v <;> simp only [pure_bind] <;> rfl)
noncomputable def bodyCode (fd:FuncData) (env:Env):Code:=match fd.body with
 | .stmts b=>.func b env
 | .expr e=>.expr e env
noncomputable abbrev Memo:=List (Addr×Obj)
noncomputable def getAt:Memo→Nat→Option (Addr×Obj)
 | [],_=>none
 | p::_,0=>some p
 | _::l,n+1=>getAt l n
noncomputable def setAt:Memo→Nat→Obj→Memo
 | [],_,_=>[]
 | p::l,0,o=>(p.1,o)::l
 | p::l,n+1,o=>p::setAt l n o
structure Mm where
 l:Memo
 r:Memo
 b:Nat
 t:Nat
 ch:Ch
noncomputable def isOwn (j:Nat):Bool:=Nat.beq (Nat.mod j 2) 0
noncomputable def placeOf (m:Mm) (j:Nat):Option (Addr×Obj):=match isOwn j with
 | true=>getAt m.l (Nat.div j 2)
 | false=>getAt m.r (Nat.div j 2)
noncomputable abbrev Eqs:=List (Nat×Nat)
inductive Res (α:Type) where
 | ret (a:α) (m:Mm) (hs:List Nat) (eqs:Eqs) (p:Pos)
 | exc (e:Value) (m:Mm) (hs:List Nat) (eqs:Eqs) (p:Pos)
 | cut (t:Sem α) (m:Mm) (hs:List Nat) (eqs:Eqs) (p:Pos)
inductive ResC where
 | fin (r:Result) (m:Mm) (hs:List Nat) (eqs:Eqs)
 | stuck
structure Cx where
 hd:Option Value
 lv:Nat
 bl:Option (List (Code×Pos))
 p:Pos
noncomputable def Cx.to (cx:Cx) (p:Pos):Cx:=⟨cx.hd,cx.lv,cx.bl,p⟩
noncomputable def Cx.down (cx:Cx) (n:Nat):Cx:=⟨cx.hd,cx.lv - n,cx.bl,cx.p⟩
noncomputable def Cx.enter (cx:Cx) (c:Code) (hd':Option Value):Cx:=⟨hd'.or cx.hd,cx.lv,match cx.bl with
 | none=>none
 | some bl=>some ((c,cx.p)::bl),cx.p⟩
noncomputable abbrev SimA:=(α:Type)→Cx→Code→List Nat→Sem α→Mm→Eqs→Res α
noncomputable abbrev SimC:=Cx→List Nat→Code→Mm→Eqs→ResC
structure Cfg where
 prog:Program
 w:World
 kt:KT
 tabs:Ch
 top:Nat
 nat:Nat→SimC
noncomputable def topTab (C:Cfg) (ch:Ch) (a:Addr):Option (Array Value):=match chLook ch a with
 | some vs=>some vs
 | none=>chLook C.tabs a
noncomputable def topLook (C:Cfg) (ch:Ch) (a:Addr):Option Obj:=match chLook C.tabs a with
 | some _=>match topTab C ch a with
  | some vs=>some (tableObj vs)
  | none=>none
 | none=>C.kt.get a
noncomputable def pick (C:Cfg) (ic:SimC):Nat→SimC
 | 0=>ic
 | i+1=>C.nat i
noncomputable def simStep (C:Cfg) (ih:SimA) (ic:SimC):SimA:=fun α cx c₀ hs t m eqs=>match t with
 | .pure a=>.ret a m hs eqs cx.p
 | .raise e=>.exc e m hs eqs cx.p
 | .rule _ k=>ih α cx c₀ hs (k ()) m eqs
 | .at q k=>ih α (cx.to q) c₀ hs (k ()) m eqs
 | .point _ k=>ih α cx c₀ hs (k ()) m eqs
 | .ask k=>ih α cx c₀ hs (k ⟨C.prog,C.w.params⟩) m eqs
 | .fresh k=>ih α cx c₀ hs (k m.t) ⟨m.l,m.r,m.b,m.t+1,m.ch⟩ eqs
 | .handled own k=>match own with
  | false=>ih α cx c₀ hs (k cx.hd) m eqs
  | true=>.cut (.handled own k) m hs eqs cx.p
 | .stack k=>match cx.bl with
  | some bl=>ih α cx c₀ hs (k ((c₀,cx.p)::bl)) m eqs
  | none=>.cut (.stack k) m hs eqs cx.p
 | .alloc o k=>match o.isFreed with
  | true=>.cut (.alloc o k) m hs eqs cx.p
  | false=>ih α cx c₀ hs (k m.b) ⟨(m.b,o)::m.l,m.r,m.b+1,m.t,m.ch⟩ eqs
 | .load a q k=>match hs with
  | []=>.cut (.load a q k) m hs eqs cx.p
  | 0::hs'=>match topLook C m.ch a with
   | some o=>ih α cx c₀ hs' (k o) m eqs
   | none=>.cut (.load a q k) m hs eqs cx.p
  | (j+1)::hs'=>match placeOf m j with
   | some p=>ih α cx c₀ hs' (k p.2) m ((a,p.1)::eqs)
   | none=>.cut (.load a q k) m hs eqs cx.p
 | .loadIfAlive a k=>match hs with
  | []=>.cut (.loadIfAlive a k) m hs eqs cx.p
  | 0::hs'=>match topLook C m.ch a with
   | some o=>ih α cx c₀ hs' (k (some o)) m eqs
   | none=>.cut (.loadIfAlive a k) m hs eqs cx.p
  | (j+1)::hs'=>match placeOf m j with
   | some p=>ih α cx c₀ hs' (k (some p.2)) m ((a,p.1)::eqs)
   | none=>.cut (.loadIfAlive a k) m hs eqs cx.p
 | .update a q f k=>match hs with
  | []=>.cut (.update a q f k) m hs eqs cx.p
  | 0::hs'=>match topTab C m.ch a with
   | some vs=>match tabOf (f (tableObj vs)) with
    | some vs'=>match strip vs.toList vs'.toList with
     | some _=>ih α cx c₀ hs' (k ()) ⟨m.l,m.r,m.b,m.t,chPut m.ch a vs'⟩ eqs
     | none=>.cut (.update a q f k) m hs eqs cx.p
    | none=>.cut (.update a q f k) m hs eqs cx.p
   | none=>.cut (.update a q f k) m hs eqs cx.p
  | (j+1)::hs'=>match isOwn j with
   | true=>match getAt m.l (Nat.div j 2) with
    | some p=>match (f p.2).isFreed with
     | true=>.cut (.update a q f k) m hs eqs cx.p
     | false=>ih α cx c₀ hs' (k ()) ⟨setAt m.l (Nat.div j 2) (f p.2),m.r,m.b,m.t,m.ch⟩ ((a,p.1)::eqs)
    | none=>.cut (.update a q f k) m hs eqs cx.p
   | false=>.cut (.update a q f k) m hs eqs cx.p
 | .call c hd' g lvs k=>match hs with
  | []=>.cut (.call c hd' g lvs k) m hs eqs cx.p
  | 0::_=>.cut (.call c hd' g lvs k) m hs eqs cx.p
  | (n+1)::hs'=>match okMark hd' with
   | false=>.cut (.call c hd' g lvs k) m hs eqs cx.p
   | true=>match pick C ic n (cx.enter c₀ hd') hs' c m eqs with
    | .fin r m' hs'' eqs'=>ih α cx c₀ hs'' (k r) m' eqs'
    | .stuck=>.cut (.call c hd' g lvs k) m hs eqs cx.p
 | t=>.cut t m hs eqs cx.p
noncomputable def fnOfObj (o:Obj):Option FuncData:=match o.data with
 | .func fd=>match fd.scope.isGenerator with
  | true=>none
  | false=>match fd.scope.isCoroutine with
   | true=>none
   | false=>some fd
 | _=>none
noncomputable def plainStep (ih:SimA) (ic:SimC):SimC:=fun cx hs c m eqs=>match ih PySem.Fin (cx.down (weightZ c)) c hs (denZ c) m eqs with
 | .ret fin m' hs' eqs' p'=>match fin with
  | .done f=>.fin (.ok f) m' hs' eqs'
  | .again c'=>match quietZ c' with
   | true=>ic (cx.to p') hs' c' m' eqs'
   | false=>.stuck
 | .exc e m' hs' eqs' _=>.fin (.error e) m' hs' eqs'
 | .cut ..=>.stuck
noncomputable def enterStep (ih:SimA) (ic:SimC) (cx:Cx) (hs:List Nat) (a:Addr) (fd:FuncData) (args:Args) (m:Mm) (eqs:Eqs):ResC:=match Nat.blt 0 cx.lv with
 | false=>.stuck
 | true=>match ih Env cx (.call (.ref a) args) hs (entryZ a fd args) m eqs with
  | .ret env m' hs' eqs' p'=>ic (cx.to p') hs' (bodyCode fd env) m' eqs'
  | _=>.stuck
noncomputable def codeStep (C:Cfg) (ih:SimA) (ic:SimC):SimC:=fun cx hs c m eqs=>match c with
 | .call f args=>match cx.bl with
  | some _=>plainStep ih ic cx hs (.call f args) m eqs
  | none=>match f with
  | .ref a=>match hs with
   | []=>.stuck
   | 0::hs'=>match topLook C m.ch a with
    | some o=>match fnOfObj o with
     | some fd=>enterStep ih ic cx hs' a fd args m eqs
     | none=>plainStep ih ic cx hs (.call (.ref a) args) m eqs
    | none=>.stuck
   | (j+1)::hs'=>match placeOf m j with
    | some p=>match fnOfObj p.2 with
     | some fd=>enterStep ih ic cx hs' a fd args m ((a,p.1)::eqs)
     | none=>plainStep ih ic cx hs (.call (.ref a) args) m eqs
    | none=>.stuck
  | f=>plainStep ih ic cx hs (.call f args) m eqs
 | c=>plainStep ih ic cx hs c m eqs
noncomputable def simB (C:Cfg) (n:Nat):SimA×SimC :=
 Nat.rec (motive:=fun vz0=>SimA×SimC) (fun vz0 cx vz1 hs t m eqs=>.cut t m hs eqs cx.p,fun vz0 vz1 vz2 vz3 vz4=>.stuck) (fun vz0 p=>(simStep C p.1 p.2,codeStep C p.1 p.2)) n
noncomputable def Res.eqs {α:Type}:Res α→Eqs
 | .ret _ _ _ e _ | .exc _ _ _ e _ | .cut _ _ _ e _=>e
set_option genInjectivity false
set_option genSizeOf false
structure ClsP where
 name:Str
 bases:List PySem.Expr
 keywords:List Keyword
 body:List Stmt
 decorators:List PySem.Expr
 tparams:List TypeParam
 scope:Scope
 x1:Option Scope
 bind:Str
 statics:List Str
 pos:Pos
structure FnP where
 name:Str
 args:Arguments
 body:List Stmt
 scope:Scope
set_option genInjectivity true
set_option genSizeOf true
noncomputable abbrev EV:=PySem.Expr×PySem.Expr×List PySem.Expr×List Comprehension×Scope×Pos
noncomputable abbrev SV:=Bool×PySem.Expr×PySem.Expr×List Stmt×List Stmt×List ExceptHandler×Pos×ClsP×FnP
noncomputable def cls0:ClsP:=⟨default,[],[],[],[],[],default,none,default,[],default⟩
noncomputable def fn0:FnP:=⟨default,default,[],default⟩
noncomputable def exV:PySem.Expr→EV
 | .BoolOp _ vs p=>⟨default,default,vs,[],default,p⟩
 | .BinOp l _ r p=>⟨l,r,[],[],default,p⟩
 | .ListComp e g s p=>⟨e,default,[],g,s,p⟩
 | .Compare l _ cs p=>⟨l,cs.headD default,cs,[],default,p⟩
 | .Call _ a _ p=>⟨default,default,a,[],default,p⟩
 | .List es p=>⟨default,default,es,[],default,p⟩
 | .Tuple es _ p=>⟨default,default,es,[],default,p⟩
 | _=>⟨default,default,[],[],default,default⟩
noncomputable def stV:Stmt→SV
 | .For t i b o p=>⟨true,t,i,b,o,[],p,cls0,fn0⟩
 | .While t b o p=>⟨false,default,t,b,o,[],p,cls0,fn0⟩
 | .If t b o p=>⟨false,default,t,b,o,[],p,cls0,fn0⟩
 | .Try b h _ f p=>⟨false,default,default,b,f,h,p,cls0,fn0⟩
 | .Assign _ v p=>⟨false,default,v,[],[],[],p,cls0,fn0⟩
 | .Return v p=>⟨false,default,v.getD default,[],[],[],p,cls0,fn0⟩
 | .ClassDef a b c d e t f g h i j=>⟨false,default,default,d,[],[],j,⟨a,b,c,d,e,t,f,g,h,i,j⟩,fn0⟩
 | .FunctionDef n a b _ _ _ s _ _ p=>⟨false,default,default,b,[],[],p,cls0,⟨n,a,b,s⟩⟩
 | _=>⟨false,default,default,[],[],[],default,cls0,fn0⟩
noncomputable def exPos (e:PySem.Expr):Pos:=(exV e).2.2.2.2.2
noncomputable def cmpL (e:PySem.Expr):PySem.Expr:=(exV e).1
noncomputable def cmpR (e:PySem.Expr):PySem.Expr:=(exV e).2.1
noncomputable def elsOf (e:PySem.Expr):List PySem.Expr:=(exV e).2.2.1
noncomputable def arg0 (e:PySem.Expr):PySem.Expr:=(exV e).2.2.1.headD default
noncomputable def andAt (e:PySem.Expr) (i:Nat):PySem.Expr:=(exV e).2.2.1.getD i default
noncomputable def gen1 (e:PySem.Expr):Comprehension:=(exV e).2.2.2.1.headD ⟨default,default,[],0⟩
noncomputable def gen2 (e:PySem.Expr):Comprehension:=(exV e).2.2.2.1.getD 1 ⟨default,default,[],0⟩
noncomputable def scopeOf (e:PySem.Expr):Scope:=(exV e).2.2.2.2.1
noncomputable abbrev eltOf:=cmpL
noncomputable abbrev binL:=cmpL
noncomputable abbrev boV:=elsOf
noncomputable abbrev tupL:=arg0
noncomputable abbrev tupR (e:PySem.Expr):PySem.Expr:=andAt e 1
noncomputable abbrev lcPos:=exPos
noncomputable abbrev lstPos:=exPos
noncomputable abbrev boP:=exPos
noncomputable def stPos (s:Stmt):Pos:=(stV s).2.2.2.2.2.2.1
noncomputable def ifTest (s:Stmt):PySem.Expr:=(stV s).2.2.1
noncomputable def ifBody (s:Stmt):List Stmt:=(stV s).2.2.2.1
noncomputable def ifElse (s:Stmt):List Stmt:=(stV s).2.2.2.2.1
noncomputable def forTarget (s:Stmt):PySem.Expr:=(stV s).2.1
noncomputable def tryHs (s:Stmt):List ExceptHandler:=(stV s).2.2.2.2.2.1
noncomputable def clsOf (s:Stmt):ClsP:=(stV s).2.2.2.2.2.2.2.1
noncomputable def fnP (s:Stmt):FnP:=(stV s).2.2.2.2.2.2.2.2
noncomputable abbrev ifPos:=stPos
noncomputable abbrev whPos:=stPos
noncomputable abbrev tryPos:=stPos
noncomputable abbrev retP:=stPos
noncomputable abbrev whTest:=ifTest
noncomputable abbrev asgV:=ifTest
noncomputable abbrev retE:=ifTest
noncomputable abbrev forBody:=ifBody
noncomputable abbrev whBody:=ifBody
noncomputable abbrev tryBody:=ifBody
noncomputable abbrev tryFin:=ifElse
noncomputable def loopOf (st:Stmt) (it:Value) (env:PySem.Env):Code:=bif (stV st).1 then .forLoop (forTarget st) it (ifBody st) (ifElse st) env else .whileLoop (ifTest st) (ifBody st) (ifElse st) env
noncomputable abbrev IsCmp (e:PySem.Expr) (op:CmpOp):Prop:=e = .Compare (cmpL e) [op] [cmpR e] (exPos e)
noncomputable abbrev IsAnd2 (e a b:PySem.Expr):Prop:=e = .BoolOp .And [a,b] (exPos e)
noncomputable abbrev IsIf (s:Stmt) (o:List Stmt):Prop:=s = .If (ifTest s) (ifBody s) o (stPos s)
structure Cfg.Ok (C:Cfg) (h₀:Heap) (own:List Addr):Prop where
 kt:∀ a o,C.kt.get a=some o→h₀.get? a=some o∧a<C.top
 tabs:∀ a vs,chLook C.tabs a=some vs→(∃ c,h₀.TableAt c a vs)∧a<C.top
 own:∀ a∈own,C.top≤a
 nolimit:h₀.NoLimit
 stat:cStatics<C.top
 statTab:∀ c ps,¬ h₀.TableAt c cStatics ps
structure Rep (C:Cfg) (h₀:Heap) (own:List Addr) (m:Mm) (h:Heap):Prop where
 size:h.objs.size=m.b
 mem:∀ p∈m.l,h.get? p.1=some p.2
 nd:(m.l.map (·.1)).Nodup
 org:∀ p∈m.l,p.1∈own ∨ h₀.get? p.1=none
 hi:∀ p∈m.l,C.top≤p.1
 memR:∀ p∈m.r,h.get? p.1=some p.2
 sep:∀ p∈m.r,p.1 ∉ m.l.map (·.1)
 hiR:∀ p∈m.r,C.top≤p.1
 topb:C.top≤m.b
 grow:∀ a o,h₀.get? a=some o→a<m.b
 keep:∀ b o,h₀.get? b=some o→b ∉ own→chLook m.ch b=none→h.get? b=some o
 ch:∀ a vs,chLook m.ch a=some vs→h.get? a=some (tableObj vs)∧a<C.top∧∃ c ps more,h₀.TableAt c a ps∧vs=ps ++ more
 chT:∀ a vs,chLook m.ch a=some vs→(chLook C.tabs a).isSome=true
theorem getAt_mem:∀ {l:Memo} {j:Nat} {p:Addr×Obj},getAt l j=some p→p∈l
 | [],_,_,h=>by cases h
 | q::l,0,p,h=>by cases h;exact .head _
 | q::l,j+1,p,h=>.tail _ (getAt_mem (l:=l) (by simpa [getAt] using h))
theorem setAt_keys:∀ (l:Memo) (j:Nat) (o:Obj),(setAt l j o).map (·.1)=l.map (·.1)
 | [],_,_=>rfl
 | q::l,0,o=>rfl
 | q::l,j+1,o=>by show q.1::(setAt l j o).map (·.1)=_;rw [setAt_keys l j o];rfl
theorem setAt_mem:∀ {l:Memo} {j:Nat} {p q:Addr×Obj} {o:Obj},(l.map (·.1)).Nodup→getAt l j=some p→q∈setAt l j o→q=(p.1,o) ∨ (q∈l∧q.1≠p.1)
 | [],_,_,_,_,_,h,_=>by cases h
 | x::l,0,p,q,o,nd,h,hq=>by
  cases h
  rw [List.map_cons,List.nodup_cons] at nd
  rcases List.mem_cons.mp hq with rfl | hq
  ·exact .inl rfl
  ·exact .inr ⟨.tail _ hq,fun e=>nd.1 (by rw [←e];exact List.mem_map_of_mem hq)⟩
 | x::l,j+1,p,q,o,nd,h,hq=>by
  have h':getAt l j=some p:=by simpa [getAt] using h
  rw [List.map_cons,List.nodup_cons] at nd
  rcases List.mem_cons.mp hq with rfl | hq
  ·exact .inr ⟨.head _,fun e=>nd.1 (by rw [e];exact List.mem_map_of_mem (getAt_mem h'))⟩
  ·rcases setAt_mem nd.2 h' hq with r | ⟨r1,r2⟩
   ·exact .inl r
   ·exact .inr ⟨.tail _ r1,r2⟩
section
variable {C:Cfg} {h₀ h:Heap} {own:List Addr} {m:Mm}
theorem Rep.tab (O:C.Ok h₀ own) (D:Rep C h₀ own m h) {a:Addr} {vs:Array Value} (e:topTab C m.ch a=some vs):h.get? a=some (tableObj vs)∧a<C.top∧∃ c ps more,h₀.TableAt c a ps∧vs=ps ++ more:=by
 unfold topTab at e
 cases c:chLook m.ch a with
 | some x=>rw [c] at e;cases e;exact D.ch a _ c
 | none =>
  rw [c] at e
  obtain ⟨⟨co,ht⟩,lt⟩:=O.tabs a vs e
  exact ⟨D.keep a _ ht.2 (fun ho=>absurd lt (Nat.not_lt.mpr (O.own a ho))) c,lt,co,vs,#[],ht,by simp⟩
theorem Rep.top (O:C.Ok h₀ own) (D:Rep C h₀ own m h) {a:Addr} {o:Obj} (e:topLook C m.ch a=some o):h.get? a=some o:=by
 unfold topLook at e
 cases ct:chLook C.tabs a with
 | some _ =>
  rw [ct] at e
  dsimp only at e
  cases q:topTab C m.ch a with
  | some vs=>rw [q] at e;cases e;exact (D.tab O q).1
  | none=>rw [q] at e;cases e
 | none =>
  rw [ct] at e
  refine el_A (O.kt a o e) fun z lt=>?_
  have c:chLook m.ch a=none:=by
   cases c:chLook m.ch a with
   | none=>rfl
   | some x=>have:=D.chT a x c;rw [ct] at this;cases this
  exact D.keep a o z (fun ho=>absurd lt (Nat.not_lt.mpr (O.own a ho))) c
theorem Rep.noLimit (O:C.Ok h₀ own) (D:Rep C h₀ own m h):h.NoLimit:=by
 obtain ⟨mc,⟨o,es,ep,e,r⟩,hn⟩:=O.nolimit
 refine ⟨mc,⟨o,es,ep,D.keep _ _ e (fun ho=>absurd O.stat (Nat.not_lt.mpr (O.own _ ho))) ?_,r⟩,hn⟩
 cases q:chLook m.ch cStatics with
 | none=>rfl
 | some vs=>obtain ⟨_,_,c,ps,more,ht,_⟩:=D.ch _ _ q;exact absurd ht (O.statTab c ps)
theorem Rep.tok (D:Rep C h₀ own m h) (t:Nat):Rep C h₀ own ⟨m.l,m.r,m.b,t,m.ch⟩ h:=⟨D.size,D.mem,D.nd,D.org,D.hi,D.memR,D.sep,D.hiR,D.topb,D.grow,D.keep,D.ch,D.chT⟩
theorem Rep.alloc (D:Rep C h₀ own m h) {o:Obj} (hf:o.isFreed=false):Rep C h₀ own ⟨(m.b,o)::m.l,m.r,m.b+1,m.t,m.ch⟩ (h.push o):=by
 have hn:h₀.get? m.b=none:=by
  cases q:h₀.get? m.b with
  | none=>rfl
  | some x=>exact absurd (D.grow _ _ q) (Nat.lt_irrefl _)
 refine ⟨by rw [Heap.size_push,D.size],fun p hp=>?_,?_,fun p hp=>?_,fun p hp=>?_,fun p hp=>Heap.get?_push_of_some _ (D.memR p hp),fun p hp hm=>?_,D.hiR,Nat.le_succ_of_le D.topb,fun a o e=>Nat.lt_succ_of_lt (D.grow a o e),fun b o' e q c=>Heap.get?_push_of_some _ (D.keep b o' e q c),fun a vs e=>⟨Heap.get?_push_of_some _ (D.ch a vs e).1,(D.ch a vs e).2⟩,D.chT⟩
 ·rcases List.mem_cons.mp hp with rfl | hp
  ·show (h.push o).get? m.b=some o
   rw [←D.size];exact Heap.get?_push_size _ hf
  ·exact Heap.get?_push_of_some _ (D.mem p hp)
 ·show (m.b::m.l.map (·.1)).Nodup
  refine List.nodup_cons.mpr ⟨fun hm=>?_,D.nd⟩
  refine el_EA (List.mem_map.mp hm) fun p hp e=>?_
  have:=Heap.lt_size (D.mem p hp)
  rw [D.size,e] at this
  exact absurd this (Nat.lt_irrefl _)
 ·rcases List.mem_cons.mp hp with rfl | hp
  ·exact .inr hn
  ·exact D.org p hp
 ·rcases List.mem_cons.mp hp with rfl | hp
  ·exact D.topb
  ·exact D.hi p hp
 ·rcases List.mem_cons.mp (show p.1∈m.b::m.l.map (·.1) from hm) with e | hm
  ·have:=Heap.lt_size (D.memR p hp)
   rw [D.size,e] at this
   exact absurd this (Nat.lt_irrefl _)
  ·exact D.sep p hp hm
theorem Rep.update (D:Rep C h₀ own m h) {j:Nat} {p:Addr×Obj} {f:Obj→Obj} (e:getAt m.l j=some p) (hf:(f p.2).isFreed=false):Rep C h₀ own ⟨setAt m.l j (f p.2),m.r,m.b,m.t,m.ch⟩ (h.update p.1 f):=by
 have hp:=getAt_mem e
 have ho:=D.mem p hp
 have hs:Heap.SameBut p.1 h (h.update p.1 f):=Heap.SameBut.update ..
 have ge:(h.update p.1 f).get? p.1=some (f p.2):=by first | exact Heap.get?_update_self f ho hf | exact Heap.get?_update_self _ ho hf
 have mm:∀ q∈setAt m.l j (f p.2),q=(p.1,f p.2) ∨ (q∈m.l∧q.1≠p.1):=fun q hq=>setAt_mem D.nd e hq
 refine ⟨by rw [hs.1,D.size],fun q hq=>?_,by show ((setAt m.l j (f p.2)).map (·.1)).Nodup;rw [setAt_keys];exact D.nd,fun q hq=>?_,fun q hq=>?_,fun q hq=>(hs.2 _ fun z=>D.sep q hq (by rw [z];exact List.mem_map_of_mem hp)).trans (D.memR q hq),fun q hq=>by show q.1 ∉ (setAt m.l j (f p.2)).map (·.1);rw [setAt_keys];exact D.sep q hq,D.hiR,D.topb,D.grow,fun b o' e' q c=>?_,fun a vs e'=>?_,D.chT⟩
 ·rcases mm q hq with rfl | ⟨r1,r2⟩
  ·exact ge
  ·exact (hs.2 _ r2).trans (D.mem q r1)
 ·rcases mm q hq with rfl | ⟨r1,r2⟩
  ·exact D.org p hp
  ·exact D.org q r1
 ·rcases mm q hq with rfl | ⟨r1,r2⟩
  ·exact D.hi p hp
  ·exact D.hi q r1
 ·refine (hs.2 b fun z=>?_).trans (D.keep b o' e' q c)
  rcases D.org p hp with r | r
  ·exact q (z ▸ r)
  ·rw [←z,e'] at r;cases r
 ·refine el_AA (D.ch a vs e') fun y lt z=>?_
  exact ⟨(hs.2 a fun w=>absurd lt (Nat.not_lt.mpr (w ▸ D.hi p hp))).trans y,lt,z⟩
theorem Rep.place (D:Rep C h₀ own m h) {j:Nat} {p:Addr×Obj} (e:placeOf m j=some p):h.get? p.1=some p.2:=by
 unfold placeOf at e
 cases q:isOwn j with
 | true=>rw [q] at e;exact D.mem p (getAt_mem e)
 | false=>rw [q] at e;exact D.memR p (getAt_mem e)
theorem Rep.table (O:C.Ok h₀ own) (D:Rep C h₀ own m h) {a:Addr} {f:Obj→Obj} {vs vs':Array Value} {more:List Value} (e:topTab C m.ch a=some vs) (hn:f (tableObj vs)=tableObj vs') (hm:strip vs.toList vs'.toList=some more) :
  h.get? a=some (tableObj vs)∧Rep C h₀ own ⟨m.l,m.r,m.b,m.t,chPut m.ch a vs'⟩ (h.update a f):=by
 have hv:vs'=vs ++ more.toArray:=by
  have:=strip_eq hm
  apply Array.ext'
  rw [Array.toList_append,this]
 refine el_AAEEEA (D.tab O e) fun ho lt co ps more' ht hps=>?_
 refine ⟨ho,?_⟩
 have hs:Heap.SameBut a h (h.update a f):=Heap.SameBut.update ..
 have hf:(f (tableObj vs)).isFreed=false:=by rw [hn];rfl
 have ge:(h.update a f).get? a=some (tableObj vs'):=by
  have:(h.update a f).get? a=some (f (tableObj vs)):=by first | exact Heap.get?_update_self f ho hf | exact Heap.get?_update_self _ ho hf
  rw [this,hn]
 refine ⟨by rw [hs.1,D.size],fun p hp=>?_,D.nd,D.org,D.hi,fun p hp=>(hs.2 _ fun z=>absurd lt (Nat.not_lt.mpr (z ▸ D.hiR p hp))).trans (D.memR p hp),D.sep,D.hiR,D.topb,D.grow,fun b o' e' q c=>?_,fun b x e'=>?_,fun b x e'=>?_⟩
 ·exact (hs.2 _ fun z=>absurd lt (Nat.not_lt.mpr (z ▸ D.hi p hp))).trans (D.mem p hp)
 ·have c':=c
  show (h.update a f).get? b=some o'
  rw [show chLook (chPut m.ch a vs') b=_ from chPut_look m.ch a vs' b] at c
  by_cases hb:a=b
  ·rw [if_pos hb] at c;cases c
  ·rw [if_neg hb] at c
   exact (hs.2 b (Ne.symm hb)).trans (D.keep b o' e' q c)
 ·rw [show chLook (chPut m.ch a vs') b=_ from chPut_look m.ch a vs' b] at e'
  by_cases hb:a=b
  ·subst hb
   rw [if_pos rfl] at e'
   cases e'
   exact ⟨ge,lt,co,ps,more' ++ more.toArray,ht,by rw [hv,hps,Array.append_assoc]⟩
  ·rw [if_neg hb] at e'
   refine el_A (D.ch b x e') fun y z=>?_
   exact ⟨(hs.2 b (Ne.symm hb)).trans y,z⟩
 ·rw [show chLook (chPut m.ch a vs') b=_ from chPut_look m.ch a vs' b] at e'
  by_cases hb:a=b
  ·subst hb
   unfold topTab at e
   cases c:chLook m.ch a with
   | some y=>exact D.chT a y c
   | none=>rw [c] at e;dsimp only at e;rw [e];rfl
  ·rw [if_neg hb] at e'
   exact D.chT b x e'
end
noncomputable def AllEq (l:Eqs):Prop:=∀ x∈l,x.1=x.2
theorem allEq_of:∀ {l:Eqs},l.map (·.1)=l.map (·.2)→AllEq l
 | [],_=>fun vz0 hx=>nomatch hx
 | p::l,h=>by
  rw [List.map_cons,List.map_cons] at h
  injection h with h1 h2
  intro x hx
  rcases List.mem_cons.mp hx with rfl | hx
  ·exact h1
  ·exact allEq_of h2 x hx
noncomputable def MonoA (ih:SimA):Prop:=∀ α cx c hs (t:Sem α) m eqs,∀ x∈eqs,x∈(ih α cx c hs t m eqs).eqs
noncomputable def MonoC (ic:SimC):Prop:=∀ cx hs c m eqs r m' hs' eqs',ic cx hs c m eqs = .fin r m' hs' eqs'→∀ x∈eqs,x∈eqs'
theorem pick_mono {C:Cfg} (NM:∀ i,MonoC (C.nat i)) {ic:SimC} (MC:MonoC ic):∀ n,MonoC (pick C ic n)
 | 0=>MC
 | i+1=>NM i
theorem mono_step (C:Cfg) (NM:∀ i,MonoC (C.nat i)) {ih:SimA} {ic:SimC} (MA:MonoA ih) (MC:MonoC ic):MonoA (simStep C ih ic):=by
 intro α cx c₀ hs t m eqs x hx
 cases t <;> (delta simStep;try dsimp only) <;> (try exact hx) <;> (try exact MA _ _ _ _ _ _ _ x hx)
 case handled own k=>cases own <;> first | exact hx | exact MA _ _ _ _ _ _ _ x hx
 case alloc o k=>split <;> first | exact hx | exact MA _ _ _ _ _ _ _ x hx
 case stack k=>split <;> first | exact hx | exact MA _ _ _ _ _ _ _ x hx
 case load a q k =>
  (repeat' split) <;> first | exact hx | exact MA _ _ _ _ _ _ _ x hx | exact MA _ _ _ _ _ _ _ x (.tail _ hx)
 case loadIfAlive a k =>
  (repeat' split) <;> first | exact hx | exact MA _ _ _ _ _ _ _ x hx | exact MA _ _ _ _ _ _ _ x (.tail _ hx)
 case update a q f k =>
  (repeat' split) <;> first | exact hx | exact MA _ _ _ _ _ _ _ x hx | exact MA _ _ _ _ _ _ _ x (.tail _ hx)
 case call c hd' g lvs k =>
  (repeat' split) <;> first | exact hx | exact MA _ _ _ _ _ _ _ x (pick_mono NM MC _ _ _ _ _ _ _ _ _ _ (by assumption) x hx)
theorem mono_plain {ih:SimA} {ic:SimC} (MA:MonoA ih) (MC:MonoC ic):MonoC (plainStep ih ic):=by
 intro cx hs c m eqs r m' hs' eqs' h x hx
 have z:=MA PySem.Fin (cx.down (weightZ c)) c hs (denZ c) m eqs x hx
 unfold plainStep at h
 split at h
 ·rename_i e
  rw [e] at z
  split at h
  ·cases h;exact z
  ·split at h
   ·exact MC _ _ _ _ _ _ _ _ _ h x z
   ·cases h
 ·rename_i e
  rw [e] at z
  cases h;exact z
 ·cases h
theorem mono_enter {ih:SimA} {ic:SimC} (MA:MonoA ih) (MC:MonoC ic) {cx hs a fd args m eqs r m' hs' eqs'} (h:enterStep ih ic cx hs a fd args m eqs = .fin r m' hs' eqs'):∀ x∈eqs,x∈eqs':=by
 intro x hx
 unfold enterStep at h
 split at h
 ·cases h
 ·have z:=MA Env cx (.call (.ref a) args) hs (entryZ a fd args) m eqs x hx
  split at h
  ·rename_i e
   rw [e] at z
   exact MC _ _ _ _ _ _ _ _ _ h x z
  ·cases h
theorem mono_code (C:Cfg) {ih:SimA} {ic:SimC} (MA:MonoA ih) (MC:MonoC ic):MonoC (codeStep C ih ic):=by
 intro cx hs c m eqs r m' hs' eqs' h x hx
 have P:=mono_plain MA MC
 unfold codeStep at h
 split at h
 ·split at h
  ·exact P _ _ _ _ _ _ _ _ _ h x hx
  split at h
  ·split at h
   ·cases h
   ·split at h
    ·split at h
     ·exact mono_enter MA MC h x hx
     ·exact P _ _ _ _ _ _ _ _ _ h x hx
    ·cases h
   ·split at h
    ·split at h
     ·exact mono_enter MA MC h x (.tail _ hx)
     ·exact P _ _ _ _ _ _ _ _ _ h x hx
    ·cases h
  ·exact P _ _ _ _ _ _ _ _ _ h x hx
 ·exact P _ _ _ _ _ _ _ _ _ h x hx
theorem mono_both (C:Cfg) (NM:∀ i,MonoC (C.nat i)):∀ n,MonoA (simB C n).1∧MonoC (simB C n).2
 | 0=>⟨fun vz0 vz1 vz2 vz3 vz4 vz5 vz6 vz7 hx=>hx,fun vz0 vz1 vz2 vz3 vz4 vz5 vz6 vz7 vz8 h=>nomatch h⟩
 | n+1=>⟨mono_step C NM (mono_both C NM n).1 (mono_both C NM n).2,mono_code C (mono_both C NM n).1 (mono_both C NM n).2⟩
noncomputable def Fits (cx:Cx) (c:Code) (Γ:PySem.Ctx) (p:Pos):Prop :=
 Γ.handled=cx.hd∧(0<cx.lv→frameCount Γ.below+Γ.code.weight+cx.lv<recursionLimit)∧∀ bl,cx.bl=some bl→Γ.code=c∧Γ.below=bl∧p=cx.p
noncomputable def FitsC (cx:Cx) (Γ:PySem.Ctx) (p:Pos):Prop :=
 Γ.handled=cx.hd∧(0<cx.lv→frameCount Γ.below+cx.lv<recursionLimit)∧∀ bl,cx.bl=some bl→Γ.below=bl∧p=cx.p
theorem FitsC.down {cx:Cx} {Γ:PySem.Ctx} {p:Pos} (h:FitsC cx Γ p) {c:Code} (hc:Γ.code=c):Fits (cx.down (weightZ c)) c Γ p:=by
 refine ⟨h.1,fun q=>?_,fun bl e=>⟨hc,h.2.2 bl e⟩⟩
 have q':0<cx.lv - weightZ c:=q
 have hw:weightZ c<cx.lv:=Nat.lt_of_sub_pos q'
 show frameCount Γ.below+Γ.code.weight+(cx.lv - weightZ c)<recursionLimit
 rw [weightZ_eq] at hw ⊢
 rw [hc,Nat.add_assoc,Nat.add_sub_cancel' (Nat.le_of_lt hw)]
 exact h.2.1 (Nat.lt_of_le_of_lt (Nat.zero_le _) hw)
theorem FitsC.to {cx:Cx} {Γ:PySem.Ctx} {p p' p'':Pos} (h:FitsC cx Γ p) (hp:cx.bl.isSome=true→p''=p'):FitsC (cx.to p') Γ p'' :=
 ⟨h.1,h.2.1,fun bl e=>⟨(h.2.2 bl e).1,hp (by rw [show cx.bl=some bl from e];rfl)⟩⟩
theorem FitsC.goto {cx:Cx} {Γ:PySem.Ctx} {p:Pos} (h:FitsC cx Γ p) (c:Code):FitsC cx (Γ.goto c) p:=h
theorem Fits.to {cx:Cx} {c:Code} {Γ:PySem.Ctx} {p:Pos} (h:Fits cx c Γ p) (q:Pos):Fits (cx.to q) c Γ q:=⟨h.1,h.2.1,fun bl e=>⟨(h.2.2 bl e).1,(h.2.2 bl e).2.1,rfl⟩⟩
theorem Fits.enter {cx:Cx} {c c':Code} {Γ:PySem.Ctx} {p:Pos} {hd':Option Value} (h:Fits cx c Γ p) (hnb:hd'≠some byPass):FitsC (cx.enter c hd') (Γ.enter c' hd' p) p:=by
 refine ⟨?_,fun q=>?_,fun bl e=>?_⟩
 ·show markOver hd' Γ.handled Γ.past=hd'.or cx.hd
  rw [markOver_of_ne hnb,h.1]
 ·have:=h.2.1 q
  show frameCount ((Γ.code,p)::Γ.below)+cx.lv<recursionLimit
  rw [frameCount_cons,Nat.add_comm Γ.code.weight];exact this
 ·cases q:cx.bl with
  | none=>simp only [Cx.enter,q] at e;cases e
  | some bl₀ =>
   simp only [Cx.enter,q] at e
   cases e
   obtain ⟨h1,h2,h3⟩:=h.2.2 bl₀ q
   refine ⟨?_,h3⟩
   show (Γ.code,p)::Γ.below=_
   rw [h1,h2,h3]
noncomputable def Goes {α:Type} (C:Cfg) (h₀:Heap) (own:List Addr) (Γ:PySem.Ctx) (known:Bool) (Q:α→Pos→Shared→Prop) (E:Value→Pos→Shared→Prop) (g:Array GenState) (d:Drawn) (os:OsState):Res α→Prop
 | .ret a m' _ _ p'=>∀ h' p,(known=true→p=p')→Rep C h₀ own m' h'→Q a p ⟨h',g,d,m'.t,os⟩
 | .exc e m' _ _ p'=>∀ h' p,(known=true→p=p')→Rep C h₀ own m' h'→E e p ⟨h',g,d,m'.t,os⟩
 | .cut t' m' _ _ p'=>∀ h' p,(known=true→p=p')→Rep C h₀ own m' h'→Sem.wp (model C.prog C.w) Γ t' Q E p ⟨h',g,d,m'.t,os⟩
noncomputable def SoundA (C:Cfg) (h₀:Heap) (own:List Addr) (ih:SimA):Prop:=∀ α cx c hs (t:Sem α) m eqs Γ Q E g d os h p,Fits cx c Γ p→Rep C h₀ own m h→AllEq (ih α cx c hs t m eqs).eqs→Goes C h₀ own Γ cx.bl.isSome Q E g d os (ih α cx c hs t m eqs)→Sem.wp (model C.prog C.w) Γ t Q E p ⟨h,g,d,m.t,os⟩
noncomputable def SoundC (C:Cfg) (h₀:Heap) (own:List Addr) (ic:SimC):Prop:=∀ cx hs c m eqs r m' hs' eqs' Γ (R:Result→Shared→Prop) g d os h p,Γ.code=c→FitsC cx Γ p→ic cx hs c m eqs = .fin r m' hs' eqs'→Rep C h₀ own m h→AllEq eqs'→(∀ h',Rep C h₀ own m' h'→R r ⟨h',g,d,m'.t,os⟩)→wpCode (model C.prog C.w) Γ R p ⟨h,g,d,m.t,os⟩
section
variable {C:Cfg} {h₀:Heap} {own:List Addr}
theorem pick_sound (NS:∀ i,SoundC C h₀ own (C.nat i)) {ic:SimC} (SC:SoundC C h₀ own ic):∀ n,SoundC C h₀ own (pick C ic n)
 | 0=>SC
 | i+1=>NS i
theorem pos_of {cx:Cx} {c:Code} {Γ:PySem.Ctx} {p:Pos} (F:Fits cx c Γ p):cx.bl.isSome=true→p=cx.p:=by
 intro h
 cases q:cx.bl with
 | none=>rw [q] at h;cases h
 | some bl=>exact (F.2.2 bl q).2.2
theorem sound_step (O:C.Ok h₀ own) (NS:∀ i,SoundC C h₀ own (C.nat i)) {ih:SimA} {ic:SimC} (MA:MonoA ih) (SA:SoundA C h₀ own ih) (SC:SoundC C h₀ own ic):SoundA C h₀ own (simStep C ih ic):=by
 intro α cx c₀ hs t m eqs Γ Q E g d os h p F D Eq G
 have hp:=pos_of F
 cases t with
 | pure a=>exact G h p hp D
 | raise e=>exact G h p hp D
 | rule tag k =>
  show Sem.wp _ _ (k ()) _ _ _ _
  exact SA _ _ _ _ _ _ _ _ _ _ _ _ _ _ _ F D Eq G
 | «at» q k =>
  show Sem.wp _ _ (k ()) _ _ q _
  exact SA _ _ _ _ _ _ _ _ _ _ _ _ _ _ _ (F.to q) D Eq G
 | point l k =>
  show Sem.wp _ _ (k ()) _ _ _ _
  exact SA _ _ _ _ _ _ _ _ _ _ _ _ _ _ _ F D Eq G
 | ask k =>
  show Sem.wp _ _ (k ⟨C.prog,C.w.params⟩) _ _ _ _
  exact SA _ _ _ _ _ _ _ _ _ _ _ _ _ _ _ F D Eq G
 | fresh k =>
  have z:=SA _ _ _ _ _ _ _ _ _ _ _ _ _ _ _ F (D.tok (m.t+1)) Eq G
  exact z
 | handled own' k =>
  cases own' with
  | false =>
   show Sem.wp _ _ (k (if false=true then Γ.own else Γ.handled)) _ _ _ _
   rw [if_neg Bool.false_ne_true,F.1]
   exact SA _ _ _ _ _ _ _ _ _ _ _ _ _ _ _ F D Eq G
  | true=>exact G h p hp D
 | stack k =>
  delta simStep at Eq G;dsimp only at Eq G
  split at G
  ·rename_i bl e
   simp only [e] at Eq
   obtain ⟨h1,h2,h3⟩:=F.2.2 bl e
   show Sem.wp _ _ (k ((Γ.code,p)::Γ.below)) _ _ _ _
   rw [h1,h2,h3]
   exact SA _ _ _ _ _ _ _ _ _ _ _ _ _ _ _ (by rw [←h3];exact F) D Eq G
  ·exact G h p hp D
 | alloc o k =>
  delta simStep at Eq G;dsimp only at Eq G
  split at G
  ·exact G h p hp D
  ·rename_i hf
   rw [hf] at Eq
   have z:=SA _ _ _ _ _ _ _ _ _ _ _ _ _ _ _ F (D.alloc hf) Eq G
   show Sem.wp _ _ (k h.objs.size) _ _ _ _
   rw [D.size];exact z
 | load a q k =>
  delta simStep at Eq G;dsimp only at Eq G
  split at G
  ·exact G h p hp D
  ·split at G
   ·rename_i o e
    simp only [e] at Eq
    exact ⟨o,D.top O e,SA _ _ _ _ _ _ _ _ _ _ _ _ _ _ _ F D Eq G⟩
   ·exact G h p hp D
  ·split at G
   ·rename_i x e
    simp only [e] at Eq
    have hap:a=x.1:=Eq (a,x.1) (MA _ _ _ _ _ _ _ _ (.head _))
    exact ⟨x.2,by rw [hap];exact D.place e,SA _ _ _ _ _ _ _ _ _ _ _ _ _ _ _ F D Eq G⟩
   ·exact G h p hp D
 | loadIfAlive a k =>
  have key:∀ o,h.get? a=some o→Sem.wp (model C.prog C.w) Γ (k (some o)) Q E p ⟨h,g,d,m.t,os⟩→Sem.wp (model C.prog C.w) Γ (.loadIfAlive a k) Q E p ⟨h,g,d,m.t,os⟩:=by
   intro o ho x
   show Sem.wp _ _ (k (h.get? a)) _ _ _ _
   rw [ho];exact x
  delta simStep at Eq G;dsimp only at Eq G
  split at G
  ·exact G h p hp D
  ·split at G
   ·rename_i o e
    simp only [e] at Eq
    exact key _ (D.top O e) (SA _ _ _ _ _ _ _ _ _ _ _ _ _ _ _ F D Eq G)
   ·exact G h p hp D
  ·split at G
   ·rename_i x e
    simp only [e] at Eq
    have hap:a=x.1:=Eq (a,x.1) (MA _ _ _ _ _ _ _ _ (.head _))
    exact key _ (by rw [hap];exact D.place e) (SA _ _ _ _ _ _ _ _ _ _ _ _ _ _ _ F D Eq G)
   ·exact G h p hp D
 | update a q f k =>
  delta simStep at Eq G;dsimp only at Eq G
  split at G
  ·exact G h p hp D
  ·split at G
   ·rename_i vs e
    simp only [e] at Eq
    split at G
    ·rename_i vs' e'
     simp only [e'] at Eq
     split at G
     ·rename_i more em
      simp only [em] at Eq
      obtain ⟨ho,D'⟩:=D.table O e (tabOf_eq e') em
      have z:=SA _ _ _ _ _ _ _ _ _ _ _ _ _ _ _ F D' Eq G
      exact ⟨by show (h.get? a).isSome=true;rw [ho];rfl,z⟩
     ·exact G h p hp D
    ·exact G h p hp D
   ·exact G h p hp D
  ·split at G
   ·rename_i ho
    simp only [ho] at Eq
    split at G
    ·rename_i x e
     simp only [e] at Eq
     split at G
     ·exact G h p hp D
     ·rename_i hf
      simp only [hf] at Eq
      have hap:a=x.1:=Eq (a,x.1) (MA _ _ _ _ _ _ _ _ (.head _))
      subst hap
      have z:=SA _ _ _ _ _ _ _ _ _ _ _ _ _ _ _ F (D.update e hf) Eq G
      exact ⟨by show (h.get? x.1).isSome=true;rw [D.mem x (getAt_mem e)];rfl,z⟩
    ·exact G h p hp D
   ·exact G h p hp D
 | call c hd' g' lvs k =>
  delta simStep at Eq G;dsimp only at Eq G
  split at G
  ·exact G h p hp D
  ·exact G h p hp D
  ·split at G
   ·exact G h p hp D
   ·rename_i hm
    simp only [hm] at Eq
    split at G
    ·rename_i r m' hs'' eqs' e
     simp only [e] at Eq
     have hnb:hd'≠some byPass:=by
      intro e
      subst e
      simp [okMark] at hm
     exact pick_sound NS SC _ _ _ _ _ _ _ _ _ _ (Γ.enter c hd' p) _ _ _ _ _ _ rfl (F.enter hnb) e D (fun x hx=>Eq x (MA _ _ _ _ _ _ _ x hx)) fun h' D'=>SA _ _ _ _ _ _ _ _ _ _ _ _ _ _ _ F D' Eq G
    ·exact G h p hp D
 | unsupported=>exact G h p hp D
 | finish=>exact G h p hp D
 | register=>exact G h p hp D
 | choose=>exact G h p hp D
 | os=>exact G h p hp D
 | newGen=>exact G h p hp D
 | genState=>exact G h p hp D
 | resume=>exact G h p hp D
 | yield=>exact G h p hp D
 | fork=>exact G h p hp D
 | thread=>exact G h p hp D
 | await=>exact G h p hp D
theorem sound_plain {ih:SimA} {ic:SimC} (MC:MonoC ic) (SA:SoundA C h₀ own ih) (SC:SoundC C h₀ own ic):SoundC C h₀ own (plainStep ih ic):=by
 intro cx hs c m eqs r m' hs' eqs' Γ R g d os h p hc F e D Eq G
 unfold plainStep at e
 rw [wpCode_iff_wp]
 show Sem.wp _ _ (denote table Γ.code) _ _ _ _
 rw [hc,←denZ_eq]
 have F':=F.down hc
 split at e
 ·rename_i fin m₁ hs₁ eqs₁ p₁ q
  split at e
  ·cases e
   refine SA PySem.Fin (cx.down (weightZ c)) c hs (denZ c) m eqs _ _ _ _ _ _ _ _ F' D (by rw [q];exact Eq) ?_
   rw [q]
   exact fun h' vz0 vz1 D'=>G h' D'
  ·rename_i c'
   split at e
   ·rename_i hq
    refine SA PySem.Fin (cx.down (weightZ c)) c hs (denZ c) m eqs _ _ _ _ _ _ _ _ F' D (by rw [q];exact fun x hx=>Eq x (MC _ _ _ _ _ _ _ _ _ e x hx)) ?_
    rw [q]
    exact fun h' p' hp' D'=>⟨(quietZ_eq c').symm.trans hq,SC _ _ _ _ _ _ _ _ _ (Γ.goto c') _ _ _ _ _ _ rfl ((F.to hp').goto c') e D' Eq G⟩
   ·cases e
 ·rename_i ev m₁ hs₁ eqs₁ p₁ q
  cases e
  refine SA PySem.Fin (cx.down (weightZ c)) c hs (denZ c) m eqs _ _ _ _ _ _ _ _ F' D (by rw [q];exact Eq) ?_
  rw [q]
  exact fun h' vz0 vz1 D'=>G h' D'
 ·cases e
theorem fnOfObj_is {o:Obj} {fd:FuncData} (h:fnOfObj o=some fd):o.data = .func fd∧fd.scope.isGenerator=false∧fd.scope.isCoroutine=false:=by
 unfold fnOfObj at h
 split at h
 ·split at h
  ·cases h
  ·split at h
   ·cases h
   ·cases h;exact ⟨by assumption,by assumption,by assumption⟩
 ·cases h
noncomputable def arOf (Γ:PySem.Ctx):Around:={ handled:=Γ.handled,depth:=frameCount Γ.below+Γ.code.weight,frames:=none,guards:=none,units:=Γ.units }
theorem arOf_in (Γ:PySem.Ctx):Γ.In (arOf Γ):=⟨rfl,Nat.le_refl _,fun vz0 h=>(by cases h),fun vz0 h=>(by cases h),Nat.le_refl _⟩
theorem sound_enter (O:C.Ok h₀ own) {ih:SimA} {ic:SimC} (MC:MonoC ic) (SA:SoundA C h₀ own ih) (SC:SoundC C h₀ own ic) {cx hs a fd args m eqs r m' hs' eqs'} {Γ:PySem.Ctx} {R:Result→Shared→Prop} {g d os h p} {o:Obj}
  (hb:cx.bl=none) (hc:Γ.code = .call (.ref a) args) (F:FitsC cx Γ p) (ho:h.get? a=some o) (hf:fnOfObj o=some fd) (e:enterStep ih ic cx hs a fd args m eqs = .fin r m' hs' eqs') (D:Rep C h₀ own m h) (Eq:AllEq eqs') (G:∀ h',Rep C h₀ own m' h'→R r ⟨h',g,d,m'.t,os⟩) :
  wpCode (model C.prog C.w) Γ R p ⟨h,g,d,m.t,os⟩:=by
 obtain ⟨hdat,hg,hco⟩:=fnOfObj_is hf
 have w0:Γ.code.weight=0:=by rw [hc];rfl
 unfold enterStep at e
 split at e
 ·cases e
 ·rename_i hlv
  split at e
  ·rename_i env m₁ hs₁ eqs₁ p₁ q
   rw [wpCode_iff_wp]
   show Sem.wp _ _ (denote table Γ.code) _ _ _ _
   rw [hc]
   refine ⟨o,ho,?_⟩
   obtain ⟨oc,od,odat,osl⟩:=o
   dsimp only at hdat
   subst hdat
   show Sem.wp _ _ (callFunction a fd args) _ _ _ _
   rw [callFunction_is a fd args hg hco,Sem.wp_bind',←entryZ_eq]
   have F':Fits cx (.call (.ref a) args) Γ p:=⟨F.1,fun q=>by rw [w0];exact F.2.1 q,fun bl e=>⟨hc,F.2.2 bl e⟩⟩
   refine SA Env cx (.call (.ref a) args) hs (entryZ a fd args) m eqs _ _ _ _ _ _ _ _ F' D (by rw [q];exact fun x hx=>Eq x (MC _ _ _ _ _ _ _ _ _ e x hx)) ?_
   rw [q]
   intro h' p' hp' D'
   rw [Sem.wp_bind']
   have key:wpAny (model C.prog C.w) (arOf Γ) enterFrame (fun vz0 s'=>s'=⟨h',g,d,m₁.t,os⟩) (fun vz0 vz1=>False) ⟨h',g,d,m₁.t,os⟩:=by
    refine wpAny_enterFrame (D'.noLimit O) ?_ rfl
    have:=F.2.1 (Nat.le_of_ble_eq_true hlv)
    show frameCount Γ.below+Γ.code.weight<recursionLimit
    omega
   have z:=key Γ p' (arOf_in Γ)
   refine Sem.wp_mono _ Γ _ ?_ (fun vz0 vz1 vz2 h'=>h'.elim) _ _ z
   rintro u p'' s' rfl
   refine ⟨?_,?_⟩
   ·cases fd.body <;> rfl
   ·exact SC _ _ _ _ _ _ _ _ _ (Γ.goto (bodyCode fd env)) _ _ _ _ _ _ rfl ((F.to (p':=p₁) (p'':=p'') (fun k=>by rw [hb] at k;cases k)).goto _) e D' Eq G
  ·cases e
theorem sound_code (O:C.Ok h₀ own) {ih:SimA} {ic:SimC} (MA:MonoA ih) (MC:MonoC ic) (SA:SoundA C h₀ own ih) (SC:SoundC C h₀ own ic):SoundC C h₀ own (codeStep C ih ic):=by
 intro cx hs c m eqs r m' hs' eqs' Γ R g d os h p hc F e D Eq G
 have P:=sound_plain MC SA SC
 unfold codeStep at e
 split at e
 ·split at e
  ·exact P _ _ _ _ _ _ _ _ _ _ _ _ _ _ _ _ hc F e D Eq G
  rename_i hb
  split at e
  ·split at e
   ·cases e
   ·split at e
    ·rename_i o q
     split at e
     ·rename_i fd hf
      exact sound_enter O MC SA SC hb hc F (D.top O q) hf e D Eq G
     ·exact P _ _ _ _ _ _ _ _ _ _ _ _ _ _ _ _ hc F e D Eq G
    ·cases e
   ·split at e
    ·rename_i x q
     split at e
     ·rename_i fd hf
      have hap:=Eq (_,x.1) (mono_enter MA MC e _ (.head _))
      dsimp only at hap
      exact sound_enter O MC SA SC hb hc F (by rw [hap];exact D.place q) hf e D Eq G
     ·exact P _ _ _ _ _ _ _ _ _ _ _ _ _ _ _ _ hc F e D Eq G
    ·cases e
  ·exact P _ _ _ _ _ _ _ _ _ _ _ _ _ _ _ _ hc F e D Eq G
 ·exact P _ _ _ _ _ _ _ _ _ _ _ _ _ _ _ _ hc F e D Eq G
theorem sound_both (O:C.Ok h₀ own) (NM:∀ i,MonoC (C.nat i)) (NS:∀ i,SoundC C h₀ own (C.nat i)):∀ n,SoundA C h₀ own (simB C n).1∧SoundC C h₀ own (simB C n).2
 | 0=>⟨fun vz0 vz1 vz2 vz3 vz4 vz5 vz6 vz7 vz8 vz9 vz10 vz11 vz12 h p F D vz13 G=>G h p (pos_of F) D,fun vz0 vz1 vz2 vz3 vz4 vz5 vz6 vz7 vz8 vz9 vz10 vz11 vz12 vz13 vz14 vz15 vz16 vz17 e=>nomatch e⟩
 | n+1=>⟨sound_step O NS (mono_both C NM n).1 (sound_both O NM NS n).1 (sound_both O NM NS n).2,sound_code O (mono_both C NM n).1 (mono_both C NM n).2 (sound_both O NM NS n).1 (sound_both O NM NS n).2⟩
end
noncomputable def choos:List Nat→Memo→Memo
 | [],_=>[]
 | i::is,l=>match getAt l i with
  | some p=>p::choos is l
  | none=>choos is l
noncomputable def dropM:Nat→Memo→Memo
 | 0,l=>l
 | n+1,[]=>[]
 | n+1,_::l=>dropM n l
noncomputable def selL (il:List Nat) (k:Nat) (l:Memo):Memo:=choos il l ++ dropM k l
noncomputable def allBelow (k:Nat):List Nat→Bool
 | []=>true
 | i::is=>Nat.blt i k && allBelow k is
noncomputable def notIn (i:Nat):List Nat→Bool
 | []=>true
 | j::js=>!Nat.beq i j && notIn i js
noncomputable def distinct:List Nat→Bool
 | []=>true
 | i::is=>notIn i is && distinct is
noncomputable def okSel (il ir:List Nat) (k:Nat):Bool:=allBelow k (il ++ ir) && distinct (il ++ ir)
theorem notIn_mem {i:Nat}:∀ {l:List Nat},notIn i l=true→i ∉ l
 | [],_=>List.not_mem_nil
 | j::js,h=>by
  refine el_A (Bool.and_eq_true_iff.mp h) fun h1 h2=>?_
  intro hm
  rcases List.mem_cons.mp hm with rfl | hm
  ·rw [Nat.beq_refl] at h1;cases h1
  ·exact notIn_mem h2 hm
theorem distinct_nodup:∀ {l:List Nat},distinct l=true→l.Nodup
 | [],_=>List.nodup_nil
 | i::is,h=>by
  refine el_A (Bool.and_eq_true_iff.mp h) fun h1 h2=>?_
  exact List.nodup_cons.mpr ⟨notIn_mem h1,distinct_nodup h2⟩
theorem allBelow_mem {k:Nat}:∀ {l:List Nat},allBelow k l=true→∀ i∈l,i<k
 | [],_,_,hm=>(nomatch hm)
 | j::js,h,i,hm=>by
  refine el_A (Bool.and_eq_true_iff.mp h) fun h1 h2=>?_
  rcases List.mem_cons.mp hm with rfl | hm
  ·exact Nat.le_of_ble_eq_true h1
  ·exact allBelow_mem h2 i hm
theorem getAt_eq:∀ (l:Memo) (i:Nat),getAt l i=l[i]?
 | [],_=>rfl
 | _::_,0=>rfl
 | _::l,i+1=>by show getAt l i=_;rw [getAt_eq l i];rfl
theorem dropM_eq:∀ (k:Nat) (l:Memo),dropM k l=l.drop k
 | 0,_=>rfl
 | _+1,[]=>rfl
 | n+1,_::l=>dropM_eq n l
theorem choos_mem {q:Addr×Obj}:∀ {is:List Nat} {l:Memo},q∈choos is l→∃ i∈is,getAt l i=some q
 | [],_,h=>(nomatch h)
 | i::is,l,h=>by
  unfold choos at h
  cases e:getAt l i with
  | some p =>
   rw [e] at h
   rcases List.mem_cons.mp h with rfl | h
   ·exact ⟨i,.head _,e⟩
   ·refine el_EA (choos_mem h) fun j hj e'=>?_
    exact ⟨j,.tail _ hj,e'⟩
  | none =>
   rw [e] at h
   refine el_EA (choos_mem h) fun j hj e'=>?_
   exact ⟨j,.tail _ hj,e'⟩
theorem keys_inj:∀ {l:Memo},(l.map (·.1)).Nodup→∀ {i j:Nat} {p q:Addr×Obj},getAt l i=some p→getAt l j=some q→p.1=q.1→i=j
 | [],_,_,_,_,_,hi,_,_=>by cases hi
 | x::l,nd,0,0,_,_,_,_,_=>rfl
 | x::l,nd,i+1,0,p,q,hi,hj,e=>by
  cases hj
  have hi':getAt l i=some p:=hi
  exact absurd (List.mem_map.mpr ⟨p,getAt_mem hi',e⟩) (List.nodup_cons.mp nd).1
 | x::l,nd,0,j+1,p,q,hi,hj,e=>by
  cases hi
  have hj':getAt l j=some q:=hj
  exact absurd (List.mem_map.mpr ⟨q,getAt_mem hj',e.symm⟩) (List.nodup_cons.mp nd).1
 | x::l,nd,i+1,j+1,p,q,hi,hj,e=>by
  have hi':getAt l i=some p:=hi
  have hj':getAt l j=some q:=hj
  rw [keys_inj (List.nodup_cons.mp nd).2 hi' hj' e]
theorem dropM_at {l:Memo} {k:Nat} {q:Addr×Obj} (h:q∈dropM k l):∃ j,k≤j∧getAt l j=some q:=by
 rw [dropM_eq] at h
 refine el_E (List.mem_iff_getElem?.mp h) fun j hj=>?_
 rw [List.getElem?_drop] at hj
 exact ⟨k+j,Nat.le_add_right _ _,by rw [getAt_eq];exact hj⟩
theorem choos_nodup {l:Memo} (nd:(l.map (·.1)).Nodup):∀ {is:List Nat},is.Nodup→((choos is l).map (·.1)).Nodup
 | [],_=>List.nodup_nil
 | i::is,h=>by
  refine el_A (List.nodup_cons.mp h) fun h1 h2=>?_
  unfold choos
  cases e:getAt l i with
  | none=>exact choos_nodup nd h2
  | some p =>
   refine List.nodup_cons.mpr ⟨fun hm=>?_,choos_nodup nd h2⟩
   refine el_EA (List.mem_map.mp hm) fun q hq eq=>?_
   refine el_EA (choos_mem hq) fun j hj e'=>?_
   exact h1 (keys_inj nd e e' eq.symm ▸ hj)
section
variable {C:Cfg} {h₀ h:Heap} {m:Mm}
theorem Rep.choose (D:Rep C h₀ [] m h) {il ir:List Nat} {k:Nat} (ok:okSel il ir k=true) (b':Nat) (hb:b'=m.b) (t':Nat) :
  Rep C h₀ [] ⟨selL il k m.l,choos ir m.l ++ m.r,b',t',m.ch⟩ h:=by
 subst hb
 refine el_A (Bool.and_eq_true_iff.mp ok) fun ok1 ok2=>?_
 have bel:=allBelow_mem ok1
 have nd:=distinct_nodup ok2
 have mem:∀ q∈selL il k m.l,∃ j,(j∈il ∨ k≤j)∧getAt m.l j=some q:=by
  intro q hq
  rcases List.mem_append.mp hq with hq | hq
  ·refine el_EA (choos_mem hq) fun i hi e=>?_
   exact ⟨i,.inl hi,e⟩
  ·refine el_EA (dropM_at hq) fun j hj e=>?_
   exact ⟨j,.inr hj,e⟩
 refine ⟨D.size,fun p hp=>?_,?_,fun p hp=>?_,fun p hp=>?_,fun p hp=>?_,fun p hp hm=>?_,fun p hp=>?_,D.topb,D.grow,D.keep,D.ch,D.chT⟩
 ·refine el_EA (mem p hp) fun j vz0 e=>?_
  exact D.mem p (getAt_mem e)
 ·show ((choos il m.l ++ dropM k m.l).map (·.1)).Nodup
  rw [List.map_append]
  refine List.nodup_append.mpr ⟨choos_nodup D.nd (List.nodup_append.mp nd).1,?_,fun a ha a' ha' e=>?_⟩
  ·rw [dropM_eq,List.map_drop]
   exact (List.drop_sublist _ _).nodup D.nd
  ·subst e
   refine el_EA (List.mem_map.mp ha) fun q hq hE2=>?_
   subst hE2
   refine el_EA (List.mem_map.mp ha') fun q' hq' e'=>?_
   refine el_EA (choos_mem hq) fun i hi e1=>?_
   refine el_EA (dropM_at hq') fun j hj e2=>?_
   have:=keys_inj D.nd e1 e2 e'.symm
   subst this
   exact absurd (bel i (List.mem_append.mpr (.inl hi))) (Nat.not_lt.mpr hj)
 ·refine el_EA (mem p hp) fun j vz0 e=>?_
  exact D.org p (getAt_mem e)
 ·refine el_EA (mem p hp) fun j vz0 e=>?_
  exact D.hi p (getAt_mem e)
 ·rcases List.mem_append.mp hp with hp | hp
  ·refine el_EA (choos_mem hp) fun i vz0 e=>?_
   exact D.mem p (getAt_mem e)
  ·exact D.memR p hp
 ·refine el_EA (List.mem_map.mp hm) fun q hq eq=>?_
  refine el_EA (mem q hq) fun j hj e=>?_
  rcases List.mem_append.mp hp with hp | hp
  ·refine el_EA (choos_mem hp) fun i hi e1=>?_
   have:=keys_inj D.nd e1 e eq.symm
   subst this
   rcases hj with hj | hj
   ·exact (List.nodup_append.mp nd).2.2 i hj i hi rfl
   ·exact absurd (bel i (List.mem_append.mpr (.inr hi))) (Nat.not_lt.mpr hj)
  ·exact D.sep p hp (eq ▸ List.mem_map_of_mem (getAt_mem e))
 ·rcases List.mem_append.mp hp with hp | hp
  ·refine el_EA (choos_mem hp) fun i vz0 e=>?_
   exact D.hi p (getAt_mem e)
  ·exact D.hiR p hp
theorem Rep.reads (D:Rep C h₀ [] m h) {r:Memo} (hr:∀ p∈r,p∈m.r):Rep C h₀ [] ⟨m.l,r,m.b,m.t,m.ch⟩ h :=
 ⟨D.size,D.mem,D.nd,D.org,D.hi,fun p hp=>D.memR p (hr p hp),fun p hp=>D.sep p (hr p hp),fun p hp=>D.hiR p (hr p hp),D.topb,D.grow,D.keep,D.ch,D.chT⟩
end
theorem Rep.ext {it:Addr} {o:Obj} {l r:Memo} {b t:Nat} {ch:Ch} {h':Heap} (D:Rep C h₀ [] ⟨(it,o)::l,r,b,t,ch⟩ h) (he:Heap.ExtBut it h h') {a:Addr×Obj} (ha:a∈l ∨ a∈r) (t':Nat) :
  Rep C h₀ [] ⟨l,r,h'.objs.size,t',ch⟩ h':=by
 have nd:=List.nodup_cons.mp (show (it::l.map (·.1)).Nodup from D.nd)
 have hm:∀ p∈l,h'.get? p.1=some p.2:=fun p hp=>he _ _ (fun e=>nd.1 (e ▸ List.mem_map_of_mem hp)) (D.mem p (.tail _ hp))
 have hr:∀ p∈r,h'.get? p.1=some p.2:=fun p hp=>he _ _ (fun e=>D.sep p hp (by rw [e];exact .head _)) (D.memR p hp)
 have itn:h₀.get? it=none:=by
  rcases D.org (it,o) (.head _) with e | e
  ·cases e
  ·exact e
 have hk:∀ b o,h₀.get? b=some o→b ∉ ([]:List Addr)→chLook ch b=none→h'.get? b=some o:=fun b o' e q c=>he _ _ (fun z=>by rw [z,itn] at e;cases e) (D.keep b o' e q c)
 have hc:∀ a vs,chLook ch a=some vs→h'.get? a=some (tableObj vs)∧a<C.top∧∃ c ps more,h₀.TableAt c a ps∧vs=ps ++ more:=fun a vs e=>by
  refine el_AA (D.ch a vs e) fun h1 h2 h3=>?_
  exact ⟨he _ _ (fun z=>absurd h2 (Nat.not_lt.mpr (by rw [z];exact D.hi _ (.head _)))) h1,h2,h3⟩
 refine ⟨rfl,hm,nd.2,fun p hp=>D.org p (.tail _ hp),fun p hp=>D.hi p (.tail _ hp),hr,fun p hp hq=>D.sep p hp (.tail _ hq),D.hiR,?_,fun a o e=>?_,hk,hc,D.chT⟩
 ·rcases ha with ha | ha
  ·exact Nat.le_of_lt (Nat.lt_of_le_of_lt (D.hi a (.tail _ ha)) (Heap.lt_size (hm a ha)))
  ·exact Nat.le_of_lt (Nat.lt_of_le_of_lt (D.hiR a ha) (Heap.lt_size (hr a ha)))
 ·cases q:chLook ch a with
  | none=>exact Heap.lt_size (hk a o e List.not_mem_nil q)
  | some vs=>exact Heap.lt_size (hc a vs q).1
structure NatOk (C:Cfg) (h₀:Heap):Prop where
 ok:C.Ok h₀ []
 mono:∀ i,MonoC (C.nat i)
 sound:∀ i,SoundC C h₀ [] (C.nat i)
structure Calm (A:Around) (hd:Option Value) (lv:Nat):Prop where
 hd:A.handled=hd
 deep:A.depth+lv<recursionLimit
 units:A.units+4 * lv<cLine
theorem Calm.less {A:Around} {hd:Option Value} {lv lv':Nat} (K:Calm A hd lv) (h:lv'≤lv):Calm A hd lv' :=
 ⟨K.hd,by have:=K.deep;lia,by have:=K.units;lia⟩
structure Sx where
 ch:Ch
 l:Memo
 r:Memo
inductive Stands (C:Cfg) (h₀:Heap) (x:Sx) (g:Array GenState) (d:Drawn) (os:OsState) (s:Shared):Prop
 | mk (b t:Nat) (h:Heap) (e:s=⟨h,g,d,t,os⟩) (D:Rep C h₀ [] ⟨x.l,x.r,b,t,x.ch⟩ h):Stands C h₀ x g d os s
noncomputable def HTa {α:Type} (C:Cfg) (h₀:Heap) (hd:Option Value) (lv:Nat) (m:Mm) (t:Sem α) (Q:α→Sx→Prop) (E:Value→Sx→Prop):Prop :=
 ∀ A g d os h,Calm A hd lv→Rep C h₀ [] m h→wpAny (model C.prog C.w) A t (fun a s'=>∃ x',Stands C h₀ x' g d os s'∧Q a x') (fun e s'=>∃ x',Stands C h₀ x' g d os s'∧E e x') ⟨h,g,d,m.t,os⟩
noncomputable def HT {α:Type} (C:Cfg) (h₀:Heap) (hd:Option Value) (lv:Nat) (x:Sx) (t:Sem α) (Q:α→Sx→Prop) (E:Value→Sx→Prop):Prop :=
 ∀ b tk,HTa C h₀ hd lv ⟨x.l,x.r,b,tk,x.ch⟩ t Q E
noncomputable def HCa (C:Cfg) (h₀:Heap) (hd:Option Value) (lv:Nat) (m:Mm) (c:Code) (R:Result→Sx→Prop):Prop :=
 ∀ A g d os h,Calm A hd lv→Rep C h₀ [] m h→codeAny (model C.prog C.w) A c (fun r s'=>∃ x',Stands C h₀ x' g d os s'∧R r x') ⟨h,g,d,m.t,os⟩
noncomputable def HC (C:Cfg) (h₀:Heap) (hd:Option Value) (lv:Nat) (x:Sx) (c:Code) (R:Result→Sx→Prop):Prop :=
 ∀ b tk,HCa C h₀ hd lv ⟨x.l,x.r,b,tk,x.ch⟩ c R
noncomputable abbrev pos0:Pos:=⟨0,0,0,0⟩
noncomputable abbrev c00:Code:=.call .none ⟨[],[]⟩
noncomputable abbrev go {α:Type} (C:Cfg) (hd:Option Value) (lv:Nat) (hs:List Nat) (t:Sem α) (m:Mm):Res α:=(simB C 1000000).1 α ⟨hd,lv,none,pos0⟩ c00 hs t m []
noncomputable def Res.code? {α:Type}:Res α→Option Code
 | .cut (.call c hd _ _ _) _ _ _ _=>match hd with
  | none=>some c
  | some _=>none
 | _=>none
noncomputable def Res.kont {α:Type}:Res α→Result→Sem α
 | .cut (.call _ _ _ _ k) _ _ _ _=>k
 | _=>fun vz0=>.unsupported "no call"
noncomputable def Res.val? {α:Type}:Res α→Option α
 | .ret a _ _ _ _=>some a
 | _=>none
noncomputable def Res.exc? {α:Type}:Res α→Option Value
 | .exc e _ _ _ _=>some e
 | _=>none
noncomputable def Res.mm {α:Type}:Res α→Mm
 | .ret _ m _ _ _ | .exc _ m _ _ _ | .cut _ m _ _ _=>m
noncomputable abbrev seen {α β:Type} (f:Res α→Option β) (g:Res α) (il:List Nat) (k:Nat) (ir:List Nat):Option β×Memo×Memo×Ch×List Nat :=
 (f g,selL il k g.mm.l,choos ir g.mm.l ++ g.mm.r,g.mm.ch,g.eqs.map (·.1))
section
variable {C:Cfg} {h₀ h:Heap} {hd:Option Value} {lv:Nat} {m:Mm} {x x':Sx} {α β:Type} {t:Sem α} {Q Q':α→Sx→Prop} {E E':Value→Sx→Prop} {R R':Result→Sx→Prop} {c:Code}
theorem HTa.mono (H:HTa C h₀ hd lv m t Q E) (hQ:∀ a x,Q a x→Q' a x) (hE:∀ e x,E e x→E' e x):HTa C h₀ hd lv m t Q' E' :=
 fun A g d os h K D=>wpAny_mono (H A g d os h K D) (fun a s ⟨x,S,q⟩=>⟨x,S,hQ a x q⟩) (fun a s ⟨x,S,q⟩=>⟨x,S,hE a x q⟩)
theorem HT.mono (H:HT C h₀ hd lv x t Q E) (hQ:∀ a x,Q a x→Q' a x) (hE:∀ e x,E e x→E' e x):HT C h₀ hd lv x t Q' E' :=
 fun b tk=>(H b tk).mono hQ hE
theorem HC.mono (H:HC C h₀ hd lv x c R) (hR:∀ a x,R a x→R' a x):HC C h₀ hd lv x c R' :=
 fun b tk A g d os h K D Γ p hc hΓ=>wpCode_mono (fun r s ⟨x,S,q⟩=>⟨x,S,hR r x q⟩) (H b tk A g d os h K D Γ p hc hΓ)
theorem HC.less {lv':Nat} (H:HC C h₀ hd lv x c R) (hl:lv≤lv'):HC C h₀ hd lv' x c R :=
 fun b tk A g d os h K D=>H b tk A g d os h (K.less hl) D
theorem HT.less {lv':Nat} (H:HT C h₀ hd lv x t Q E) (hl:lv≤lv'):HT C h₀ hd lv' x t Q E :=
 fun b tk A g d os h K D=>H b tk A g d os h (K.less hl) D
theorem HT.bind {β:Type} {f:α→Sem β} {Q:β→Sx→Prop} (H:HT C h₀ hd lv x t (fun a x'=>HT C h₀ hd lv x' (f a) Q E) E):HT C h₀ hd lv x (t >>= f) Q E:=by
 intro b tk A g d os h K D
 refine wpAny_bind (wpAny_mono (H b tk A g d os h K D) ?_ (fun vz0 vz1 q=>q))
 intro a s hZ0
 refine el_EA hZ0 fun x' hZ1 q=>?_
 try clear hZ0
 obtain ⟨b',tk',h',hE2,D'⟩:=hZ1
 subst hE2
 exact q b' tk' A g d os h' K D'
theorem HT.pure' {a:α} (H:Q a x):HT C h₀ hd lv x (pure a) Q E :=
 fun b tk A g d os h K D=>wpAny_pure ⟨x,⟨b,tk,h,rfl,D⟩,H⟩
theorem HT.lib (H:∀ A g d os b tk h,Calm A hd lv→Rep C h₀ [] ⟨x.l,x.r,b,tk,x.ch⟩ h→wpAny (model C.prog C.w) A t (fun a s'=>∃ x',Stands C h₀ x' g d os s'∧Q a x') (fun e s'=>∃ x',Stands C h₀ x' g d os s'∧E e x') ⟨h,g,d,tk,os⟩):HT C h₀ hd lv x t Q E :=
 fun b tk A g d os h K D=>H A g d os b tk h K D
theorem HT.reads {r:Memo} (hr:∀ p∈r,p∈x.r) (H:HT C h₀ hd lv ⟨x.ch,x.l,r⟩ t Q E):HT C h₀ hd lv x t Q E :=
 fun b tk A g d os h K D=>H b tk A g d os h K (D.reads hr)
theorem HC.reads {r:Memo} (hr:∀ p∈r,p∈x.r) (H:HC C h₀ hd lv ⟨x.ch,x.l,r⟩ c R):HC C h₀ hd lv x c R :=
 fun b tk A g d os h K D=>H b tk A g d os h K (D.reads hr)
theorem HT.choose {il ir:List Nat} {k:Nat} (ok:okSel il ir k=true) (H:HT C h₀ hd lv ⟨x.ch,selL il k x.l,choos ir x.l ++ x.r⟩ t Q E):HT C h₀ hd lv x t Q E :=
 fun b tk A g d os h K D=>H b tk A g d os h K (D.choose ok b rfl tk)
theorem HC.choose {il ir:List Nat} {k:Nat} (ok:okSel il ir k=true) (H:HC C h₀ hd lv ⟨x.ch,selL il k x.l,choos ir x.l ++ x.r⟩ c R):HC C h₀ hd lv x c R :=
 fun b tk A g d os h K D=>H b tk A g d os h K (D.choose ok b rfl tk)
theorem Calm.fits {A:Around} (K:Calm A hd lv) {Γ:PySem.Ctx} {p:Pos} (hΓ:Γ.In A) {c:Code} {p₀:Pos}:Fits ⟨hd,lv,none,p₀⟩ c Γ p :=
 ⟨hΓ.1.trans K.hd,fun vz0=>by have:=hΓ.2.1;have:=K.deep;show frameCount Γ.below+Γ.code.weight+lv<recursionLimit;lia,fun vz0 e=>(nomatch e)⟩
noncomputable def seenV {α:Type} (C:Cfg) (hd:Option Value) (lv:Nat) (hs:List Nat) (t:Sem α) (m:Mm) (il:List Nat) (k:Nat) (ir:List Nat):Option α×Memo×Memo×Ch×List Nat:=seen Res.val? (go C hd lv hs t m) il k ir
noncomputable def seenX {α:Type} (C:Cfg) (hd:Option Value) (lv:Nat) (hs:List Nat) (t:Sem α) (m:Mm) (il:List Nat) (k:Nat) (ir:List Nat):Option Value×Memo×Memo×Ch×List Nat:=seen Res.exc? (go C hd lv hs t m) il k ir
noncomputable def seenK {α:Type} (C:Cfg) (hd:Option Value) (lv:Nat) (hs:List Nat) (t:Sem α) (m:Mm) (il:List Nat) (k:Nat) (ir:List Nat):Option Code×Memo×Memo×Ch×List Nat:=seen Res.code? (go C hd lv hs t m) il k ir
noncomputable def seenO {α β:Type} (C:Cfg) (hd:Option Value) (lv:Nat) (hs:List Nat) (t:Sem α) (m:Mm) (a:β) (l r:Memo) (ch:Ch):Option β×Memo×Memo×Ch×List Nat:=(some a,l,r,ch,(go C hd lv hs t m).eqs.map (·.2))
theorem seen_is {α β:Type} {f:Res α→Option β} {g:Res α} {il ir:List Nat} {k:Nat} {a:β} {l r:Memo} {ch:Ch} {z:List Nat} (e:seen f g il k ir=(some a,l,r,ch,z)) :
  f g=some a∧selL il k g.mm.l=l∧choos ir g.mm.l ++ g.mm.r=r∧g.mm.ch=ch∧g.eqs.map (·.1)=z:=by
 simpa only [seen,Prod.mk.injEq] using e
noncomputable def TAa {α:Type} (C:Cfg) (h₀:Heap) (A:Around) (m:Mm) (t:Sem α) (Q:α→Sx→Prop) (E:Value→Sx→Prop):Prop :=
 ∀ g d os h,Rep C h₀ [] m h→wpAny (model C.prog C.w) A t (fun a s'=>∃ x',Stands C h₀ x' g d os s'∧Q a x') (fun e s'=>∃ x',Stands C h₀ x' g d os s'∧E e x') ⟨h,g,d,m.t,os⟩
noncomputable def TA {α:Type} (C:Cfg) (h₀:Heap) (A:Around) (x:Sx) (t:Sem α) (Q:α→Sx→Prop) (E:Value→Sx→Prop):Prop :=
 ∀ b tk,TAa C h₀ A ⟨x.l,x.r,b,tk,x.ch⟩ t Q E
noncomputable def CA (C:Cfg) (h₀:Heap) (A:Around) (x:Sx) (c:Code) (R:Result→Sx→Prop):Prop :=
 ∀ b tk g d os h,Rep C h₀ [] ⟨x.l,x.r,b,tk,x.ch⟩ h→codeAny (model C.prog C.w) A c (fun r s'=>∃ x',Stands C h₀ x' g d os s'∧R r x') ⟨h,g,d,tk,os⟩
section
variable {A:Around}
theorem TA.of (K:Calm A hd lv) (H:HT C h₀ hd lv x t Q E):TA C h₀ A x t Q E:=fun b tk g d os h D=>H b tk A g d os h K D
theorem CA.of (K:Calm A hd lv) (H:HC C h₀ hd lv x c R):CA C h₀ A x c R:=fun b tk g d os h D=>H b tk A g d os h K D
theorem val_is {g:Res α} {a:α} (e:g.val? = some a):∃ m hs eqs p,g = .ret a m hs eqs p:=by
 cases g <;> cases e;exact ⟨_,_,_,_,rfl⟩
theorem exc_is {g:Res α} {a:Value} (e:g.exc? = some a):∃ m hs eqs p,g = .exc a m hs eqs p:=by
 cases g <;> cases e;exact ⟨_,_,_,_,rfl⟩
theorem code_is {g:Res α} (e:g.code? = some c):∃ b l k m hs eqs p,g = .cut (.call c none b l k) m hs eqs p:=by
 cases g with
 | ret=>cases e
 | exc=>cases e
 | cut t m hs eqs p =>
  cases t with
  | call c hd b l k =>
   cases hd with
   | none=>cases e;exact ⟨_,_,_,_,_,_,_,rfl⟩
   | some _=>cases e
  | _=>cases e
theorem Around.mark_none (A:Around):A.mark none=A:=by cases A;rfl
theorem TA.step (H:TA C h₀ A x t Q E) {g d os} {s:Shared} (S:Stands C h₀ x g d os s):wpAny (model C.prog C.w) A t (fun a s'=>∃ x',Stands C h₀ x' g d os s'∧Q a x') (fun e s'=>∃ x',Stands C h₀ x' g d os s'∧E e x') s:=by
 obtain ⟨b,tk,h,hE1,D⟩:=S
 subst hE1
 exact H b tk g d os h D
theorem TAa.cut (N:NatOk C h₀) (K:Calm A hd lv) (hs:List Nat) (il:List Nat) (k:Nat) (ir:List Nat) {l r:Memo} {ch:Ch} (e:seenK C hd lv hs t m il k ir=seenO C hd lv hs t m c l r ch) (ok:okSel il ir k=true)
  (hnb:hd≠some byPass)
  (G:CA C h₀ A ⟨ch,l,r⟩ c (fun r x=>TA C h₀ A x ((go C hd lv hs t m).kont r) Q E)):TAa C h₀ A m t Q E:=by
 intro g d os h D Γ p hΓ
 refine el_AAAA (seen_is e) fun e1 e2 e3 e4 e5=>?_
 refine (sound_both N.ok N.mono N.sound 1000000).1 _ ⟨hd,lv,none,pos0⟩ c00 hs t m [] Γ _ _ g d os h p (K.fits hΓ) D (allEq_of e5) ?_
 show Goes C h₀ [] Γ _ _ _ g d os (go C hd lv hs t m)
 generalize go C hd lv hs t m=gg at e1 e2 e3 e4 G
 refine el_EEEEEEE (code_is e1) fun g₁ l' k' m₁ hs₁ eqs₁ p₁ hE7=>?_
 subst hE7
 subst e2 e3 e4
 intro h' p' vz0 D'
 refine x_call (hd:=none) (A:=A) ?_ (fun x=>by cases x) Γ p' hΓ
 intro Γ' p'' hc hB
 rw [Around.mark_none] at hB
 exact wpCode_mono (fun r s ⟨x',S,q'⟩=>q'.step S) (G _ _ g d os h' (D'.choose ok _ rfl m₁.t) Γ' p'' hc hB)
end
theorem CA.mono {A:Around} (H:CA C h₀ A x c R) (hR:∀ a x,R a x→R' a x):CA C h₀ A x c R' :=
 fun b tk g d os h D=>codeAny_mono (H b tk g d os h D) fun r s ⟨x,S,q⟩=>⟨x,S,hR r x q⟩
section
variable (N:NatOk C h₀) (hs:List Nat) (il:List Nat) (k:Nat) (ir:List Nat)
include N
theorem HTa.val {a:α} {l r:Memo} {ch:Ch} (e:seenV C hd lv hs t m il k ir=seenO C hd lv hs t m a l r ch) (ok:okSel il ir k=true)
  (G:Q a ⟨ch,l,r⟩):HTa C h₀ hd lv m t Q E:=by
 intro A g d os h K D Γ p hΓ
 refine el_AAAA (seen_is e) fun e1 e2 e3 e4 e5=>?_
 refine (sound_both N.ok N.mono N.sound 1000000).1 _ ⟨hd,lv,none,pos0⟩ c00 hs t m [] Γ _ _ g d os h p (K.fits hΓ) D (allEq_of e5) ?_
 show Goes C h₀ [] Γ _ _ _ g d os (go C hd lv hs t m)
 generalize go C hd lv hs t m=gg at e1 e2 e3 e4 ⊢
 refine el_EEEE (val_is e1) fun m₁ hs₁ eqs₁ p₁ hE4=>?_
 subst hE4
 subst e2 e3 e4
 exact fun h' p' vz0 D'=>⟨_,⟨_,_,_,rfl,D'.choose ok _ rfl _⟩,G⟩
theorem HTa.exc {a:Value} {l r:Memo} {ch:Ch} (e:seenX C hd lv hs t m il k ir=seenO C hd lv hs t m a l r ch) (ok:okSel il ir k=true)
  (G:E a ⟨ch,l,r⟩):HTa C h₀ hd lv m t Q E:=by
 intro A g d os h K D Γ p hΓ
 refine el_AAAA (seen_is e) fun e1 e2 e3 e4 e5=>?_
 refine (sound_both N.ok N.mono N.sound 1000000).1 _ ⟨hd,lv,none,pos0⟩ c00 hs t m [] Γ _ _ g d os h p (K.fits hΓ) D (allEq_of e5) ?_
 show Goes C h₀ [] Γ _ _ _ g d os (go C hd lv hs t m)
 generalize go C hd lv hs t m=gg at e1 e2 e3 e4 ⊢
 refine el_EEEE (exc_is e1) fun m₁ hs₁ eqs₁ p₁ hE4=>?_
 subst hE4
 subst e2 e3 e4
 exact fun h' p' vz0 D'=>⟨_,⟨_,_,_,rfl,D'.choose ok _ rfl _⟩,G⟩
theorem HTa.cut {c:Code} {l r:Memo} {ch:Ch} (e:seenK C hd lv hs t m il k ir=seenO C hd lv hs t m c l r ch) (ok:okSel il ir k=true)
  (hnb:hd≠some byPass)
  (G:HC C h₀ hd lv ⟨ch,l,r⟩ c (fun r x=>HT C h₀ hd lv x ((go C hd lv hs t m).kont r) Q E)):HTa C h₀ hd lv m t Q E :=
 fun A g d os h K D=>TAa.cut N K hs il k ir e ok hnb (CA.mono (CA.of K G) fun vz0 vz1 q=>TA.of K q) g d os h D
noncomputable def runV {α:Type} (C:Cfg) (hd:Option Value) (lv:Nat) (hs:List Nat) (t:Sem α) (ch:Ch) (l r:Memo):Nat→Nat→Option α×Memo×Memo×Ch×List Nat :=
 fun b tk=>seen Res.val? (go C hd lv hs t ⟨l,r,b,tk,ch⟩) [] 0 []
noncomputable def outV {α:Type} (C:Cfg) (hd:Option Value) (lv:Nat) (hs:List Nat) (t:Sem α) (ch:Ch) (l r:Memo) (a:α):Nat→Nat→Option α×Memo×Memo×Ch×List Nat :=
 fun b tk=>(some a,l,r,ch,(go C hd lv hs t ⟨l,r,b,tk,ch⟩).eqs.map (·.2))
noncomputable def runK {α:Type} (C:Cfg) (hd:Option Value) (lv:Nat) (hs:List Nat) (t:Sem α) (ch:Ch) (l r:Memo):Nat→Nat→Option Code×Memo×Memo×Ch×List Nat :=
 fun b tk=>seen Res.code? (go C hd lv hs t ⟨l,r,b,tk,ch⟩) [] 0 []
noncomputable def outK {α:Type} (C:Cfg) (hd:Option Value) (lv:Nat) (hs:List Nat) (t:Sem α) (ch:Ch) (l r:Memo) (c:Code):Nat→Nat→Option Code×Memo×Memo×Ch×List Nat :=
 fun b tk=>(some c,l,r,ch,(go C hd lv hs t ⟨l,r,b,tk,ch⟩).eqs.map (·.2))
noncomputable abbrev kq {α:Type} (C:Cfg) (h₀:Heap) (hd:Option Value) (lv:Nat) (hs:List Nat) (t:Sem α) (m:Mm) (Q:α→Sx→Prop) (E:Value→Sx→Prop):Result→Sx→Prop :=
 fun r x=>HT C h₀ hd lv x ((go C hd lv hs t m).kont r) Q E
theorem HT.val0 {ch:Ch} {l r:Memo} {a:α} (e:runV C hd lv hs t ch l r=outV C hd lv hs t ch l r a) (G:Q a ⟨ch,l,r⟩):HT C h₀ hd lv ⟨ch,l,r⟩ t Q E :=
 fun b tk=>HTa.val N hs [] 0 [] (congrFun (congrFun e b) tk) rfl G
theorem HT.bindV0 {f:α→Sem β} {Q:β→Sx→Prop} {ch:Ch} {l r:Memo} {a:α} (e:runV C hd lv hs t ch l r=outV C hd lv hs t ch l r a) (G:HT C h₀ hd lv ⟨ch,l,r⟩ (f a) Q E):HT C h₀ hd lv ⟨ch,l,r⟩ (t >>= f) Q E :=
 HT.bind (HT.val0 N hs e G)
theorem HT.cut0 {ch:Ch} {l r:Memo} {c:Code} (e:runK C none lv hs t ch l r=outK C none lv hs t ch l r c)
  (G:∀ b tk,HC C h₀ none lv ⟨ch,l,r⟩ c (kq C h₀ none lv hs t ⟨l,r,b,tk,ch⟩ Q E)):HT C h₀ none lv ⟨ch,l,r⟩ t Q E :=
 fun b tk=>HTa.cut N hs [] 0 [] (congrFun (congrFun e b) tk) rfl (fun h=>nomatch h) (G b tk)
theorem HTa.cutN {c:Code} {l r:Memo} {ch:Ch} (e:seenK C none lv hs t m il k ir=seenO C none lv hs t m c l r ch) (ok:okSel il ir k=true)
  (G:HC C h₀ none lv ⟨ch,l,r⟩ c (kq C h₀ none lv hs t m Q E)):HTa C h₀ none lv m t Q E :=
 HTa.cut N hs il k ir e ok (fun h=>nomatch h) G
end
theorem HC.tree {lv:Nat} {w:Nat} (hw:weightZ c=w) (G:HT C h₀ hd lv x (denZ c) (fun fin x'=>match fin with
   | .done f=>R (.ok f) x'
   | .again c'=>quietZ c'=true∧HC C h₀ hd (lv+1+w) x' c' R) (fun e x'=>R (.error e) x')):HC C h₀ hd (lv+1+w) x c R:=by
 intro b tk A g d os h K D Γ p hc hB
 rw [wpCode_iff_wp]
 show Sem.wp _ _ (denote table Γ.code) _ _ _ _
 have hI:=hB.in
 rw [hc] at hI
 rw [hc,←denZ_eq]
 rw [weightZ_eq] at hw
 have hu:c.cUnits≤1+3 * c.weight:=by
  have:c.frames≤c.weight:=by unfold Code.weight;lia
  unfold Code.cUnits
  split <;> lia
 have K':Calm (A.under c) hd lv:=⟨K.hd,by have:=K.deep;show A.depth+c.weight+lv<_;rw [hw,Nat.add_assoc];refine Nat.lt_of_le_of_lt (Nat.add_le_add_left ?_ _) this;rw [Nat.add_comm];exact Nat.add_le_add_right (Nat.le_succ lv) w,by have:=K.units;show A.units+c.cUnits+4 * lv<_;lia⟩
 have key:=G b tk (A.under c) g d os h K' D Γ p hI
 refine Sem.wp_mono _ Γ _ ?_ (fun vz0 vz1 vz2 h'=>h') _ _ key
 intro fin p' s hZ0
 refine el_EA hZ0 fun x' S q=>?_
 try clear hZ0
 cases fin with
 | done f=>exact ⟨x',S,q⟩
 | again c' =>
  refine el_A q fun hq q=>?_
  rw [quietZ_eq] at hq
  obtain ⟨b',tk',h',hE1,D'⟩:=S
  subst hE1
  exact ⟨hq,q b' tk' A g d os h' K D' (Γ.goto c') p' rfl (hB.goto c')⟩
noncomputable def fdAt (o:Option Obj):FuncData:=match o with
 | some o=>(fnOfObj o).getD default
 | none=>default
noncomputable def isFd (o:Option Obj):Bool:=match o with
 | some o=>(fnOfObj o).isSome
 | none=>false
theorem enter_wp (N:NatOk C h₀) (K:Calm A hd (lv+1)) {h':Heap} (D':Rep C h₀ [] m h') {Γ:PySem.Ctx} {g:Array GenState} {d:Drawn} {os:OsState} (hB:Γ.Below A) (w0:Γ.code.weight=0) :
  wpAny (model C.prog C.w) (arOf Γ) enterFrame (fun vz0 s'=>s'=⟨h',g,d,m.t,os⟩) (fun vz0 vz1=>False) ⟨h',g,d,m.t,os⟩:=by
 refine wpAny_enterFrame (D'.noLimit N.ok) ?_ rfl
 show frameCount Γ.below+Γ.code.weight<recursionLimit
 rw [w0]
 exact Nat.lt_of_le_of_lt (Nat.le_trans hB.2.1 (Nat.le_add_right _ _)) K.deep
theorem CA.enter (N:NatOk C h₀) (K:Calm A hd (lv+1)) {a:Addr} {args:Args} {o:Obj} (hs il:List Nat) (k:Nat) (ir:List Nat) (j:Nat)
  (ho:(match j with | 0=>topLook C x.ch a | j+1=>match placeOf ⟨x.l,x.r,0,0,x.ch⟩ j with | some p=>(match Nat.beq p.1 a with | true=>some p.2 | false=>none) | none=>none)=some o) (hf:isFd (some o)=true)
  (G:∀ b tk,∃ env l r ch,seen Res.val? (go C hd (lv+1) hs (entryZ a (fdAt (some o)) args) ⟨x.l,x.r,b,tk,x.ch⟩) il k ir=(some env,l,r,ch,(go C hd (lv+1) hs (entryZ a (fdAt (some o)) args) ⟨x.l,x.r,b,tk,x.ch⟩).eqs.map (·.2))∧okSel il ir k=true ∧
   CA C h₀ A ⟨ch,l,r⟩ (bodyCode (fdAt (some o)) env) R):CA C h₀ A x (.call (.ref a) args) R:=by
 intro b tk g d os h D Γ p hc hB
 refine el_EEEEAA (G b tk) fun env l r ch e ok G=>?_
 refine el_E (Option.isSome_iff_exists.mp hf) fun fd hf'=>?_
 have hfd:fdAt (some o)=fd:=by show (fnOfObj o).getD default=fd;rw [hf'];rfl
 rw [hfd] at e G
 refine el_AA (fnOfObj_is hf') fun hdat hg hco=>?_
 have w0:Γ.code.weight=0:=by rw [hc];rfl
 have hoa:h.get? a=some o:=by
  cases j with
  | zero=>exact D.top N.ok ho
  | succ j =>
   dsimp only at ho
   split at ho
   ·rename_i p hp
    split at ho
    ·rename_i hb
     cases ho
     rw [←Nat.eq_of_beq_eq_true hb]
     exact D.place (m:=⟨x.l,x.r,b,tk,x.ch⟩) hp
    ·cases ho
   ·cases ho
 rw [wpCode_iff_wp]
 show Sem.wp _ _ (denote table Γ.code) _ _ _ _
 rw [hc]
 refine ⟨o,hoa,?_⟩
 obtain ⟨oc,od,odat,osl⟩:=o
 dsimp only at hdat
 subst hdat
 show Sem.wp _ _ (callFunction a fd args) _ _ _ _
 rw [callFunction_is a fd args hg hco,Sem.wp_bind',←entryZ_eq]
 refine el_AAAA (seen_is e) fun e1 e2 e3 e4 e5=>?_
 have F:Fits ⟨hd,lv+1,none,pos0⟩ c00 Γ p:=⟨hB.1.trans K.hd,fun vz0=>by show frameCount Γ.below+Γ.code.weight+(lv+1)<recursionLimit;rw [w0];exact Nat.lt_of_le_of_lt (Nat.add_le_add_right hB.2.1 _) K.deep,fun vz0 e=>(nomatch e)⟩
 refine (sound_both N.ok N.mono N.sound 1000000).1 _ ⟨hd,lv+1,none,pos0⟩ c00 hs (entryZ a fd args) ⟨x.l,x.r,b,tk,x.ch⟩ [] Γ _ _ g d os h p F D (allEq_of e5) ?_
 show Goes C h₀ [] Γ _ _ _ g d os (go C hd (lv+1) hs (entryZ a fd args) ⟨x.l,x.r,b,tk,x.ch⟩)
 generalize go C hd (lv+1) hs (entryZ a fd args) ⟨x.l,x.r,b,tk,x.ch⟩=gg at e1 e2 e3 e4 ⊢
 refine el_EEEE (val_is e1) fun m₁ hs₁ eqs₁ p₁ hE4=>?_
 subst hE4
 subst e2 e3 e4
 intro h' p' vz0 D'
 rw [Sem.wp_bind']
 refine Sem.wp_mono _ Γ _ ?_ (fun vz0 vz1 vz2 h'=>h'.elim) _ _ (enter_wp N K D' hB w0 Γ p' (arOf_in Γ))
 rintro u p'' s' rfl
 exact ⟨by cases fd.body <;> rfl,G _ _ g d os h' (D'.choose ok _ rfl m₁.t) (Γ.goto _) p'' rfl (hB.goto _)⟩
theorem HC.enter (N:NatOk C h₀) {lv:Nat} {a:Addr} {args:Args} {o:Obj} (hs il:List Nat) (k:Nat) (ir:List Nat) (j:Nat)
  (ho:(match j with | 0=>topLook C x.ch a | j+1=>match placeOf ⟨x.l,x.r,0,0,x.ch⟩ j with | some p=>(match Nat.beq p.1 a with | true=>some p.2 | false=>none) | none=>none)=some o) (hf:isFd (some o)=true)
  (G:∀ b tk,∃ env l r ch,seen Res.val? (go C hd (lv+1) hs (entryZ a (fdAt (some o)) args) ⟨x.l,x.r,b,tk,x.ch⟩) il k ir=(some env,l,r,ch,(go C hd (lv+1) hs (entryZ a (fdAt (some o)) args) ⟨x.l,x.r,b,tk,x.ch⟩).eqs.map (·.2))∧okSel il ir k=true ∧
   HC C h₀ hd (lv+1) ⟨ch,l,r⟩ (bodyCode (fdAt (some o)) env) R):HC C h₀ hd (lv+1) x (.call (.ref a) args) R :=
 fun b tk A g d os h K D=>CA.enter N K hs il k ir j ho hf (fun b tk=>el_EEEEAA (G b tk) fun env l r ch e ok G=>⟨env,l,r,ch,e,ok,CA.of K G⟩) b tk g d os h D
end
end Mine
section
open PySem PySem.W PySem.W.X PySem.W.ZRun PyProof.Rows
set_option maxHeartbeats 0
local macro_rules | `(tactic| k_head) => `(tactic| z_head)
open_top Mine.pre for PySem.Challenge.rw_oy0204_01
end
section
namespace Mine
open PySem PySem.W PySem.W.X
noncomputable def sEq (a b:String):Bool:=@Decidable.decide (a=b) (PySem.W.S.strDecS a b)
structure Hab where
 b1:Bool
 b2:Bool
 b3:Bool
 b4:Bool
noncomputable abbrev At {A:Sort u} (P:A→Prop) (a:A):Prop:=P a
noncomputable abbrev At2 {A:Sort u} {A':Sort v} (P:A→A'→Prop) (a:A) (b:A'):Prop:=P a b
@[elab_as_elim] theorem Hab.two {P:Hab→Prop} (B:Hab) (f:At P ⟨false,B.b2,B.b3,B.b4⟩) (t:At P ⟨true,B.b2,B.b3,B.b4⟩):P B:=by
 obtain ⟨b1,b2,b3,b4⟩:=B
 cases b1
 ·exact f
 ·exact t
noncomputable def ftB (f:String→Bool) (B:Hab):String→Bool:=fun s =>
 match sEq s "special-get-raises" with
 | true=>B.b1
 | false=>match sEq s "comprehension-iter-twice" with
  | true=>B.b2
  | false=>match sEq s "for-iterable-display-folded" with
   | true=>B.b3
   | false=>match sEq s "fstring-hands-on-the-str" with
    | true=>B.b4
    | false=>f s
noncomputable def wB (w:World) (B:Hab):World:={ w with params:={ w.params with followText:=ftB w.params.followText B } }
noncomputable def habOf (w:World):Hab:=⟨w.params.followText "special-get-raises",w.params.followText "comprehension-iter-twice",w.params.followText "for-iterable-display-folded",w.params.followText "fstring-hands-on-the-str"⟩
theorem sEq_true {a b:String} (h:sEq a b=true):a=b:=@of_decide_eq_true _ (PySem.W.S.strDecS a b) h
theorem wB_is (w:World):wB w (habOf w)=w:=by
 have e:ftB w.params.followText (habOf w)=w.params.followText:=by
  funext s
  unfold ftB habOf
  split
  ·rename_i h;rw [sEq_true h]
  ·split
   ·rename_i h;rw [sEq_true h]
   ·split
    ·rename_i h;rw [sEq_true h]
    ·split
     ·rename_i h;rw [sEq_true h]
     ·rfl
 unfold wB
 rw [e]
noncomputable def C0 (w:World) (B:Hab):Cfg:={ prog:=PySem.Challenge.pw_oy0204_01,w:=wB w B,kt:=Mine.pre.ktop_322 (wB w B).params,tabs:=[(38,#[]),(65,#[]),(82,#[]),(89,#[]),(98,#[]),(105,#[]),(112,#[]),(119,#[]),(126,#[]),(133,#[]),(140,#[]),(145,#[])],top:=161,nat:=fun vz0 vz1 vz2 vz3 vz4 vz5=>.stuck }
end Mine
end
namespace Mine
open PySem PySem.W PySem.W.X PySem.Spec PySem.Calls PyProof.Rows
noncomputable def ktBelow (n:Nat):Nat→Nat→KT→Bool
 | _,_,.nil=>true
 | s,b,.node v l r=>(match v with | none=>true | some _=>Nat.blt b n) && (ktBelow n (2 * s) (s+b) l && ktBelow n (2 * s) (2 * s+b) r)
theorem ktBelow_get {n:Nat}:∀ {t:KT} {s b:Nat},ktBelow n s b t=true→∀ {j:Nat} {o:Obj},t.get j=some o→s * j+b<n
 | .nil,_,_,_,_,_,e=>by cases e
 | .node v l r,s,b,H,j,o,e=>by
  rw [KT.get_node] at e
  have H1:=(Bool.and_eq_true_iff.mp H).1
  have H2:=(Bool.and_eq_true_iff.mp (Bool.and_eq_true_iff.mp H).2).1
  have H3:=(Bool.and_eq_true_iff.mp (Bool.and_eq_true_iff.mp H).2).2
  by_cases h0:j=0
  ·subst h0
   rw [if_pos rfl] at e
   subst e
   rw [Nat.mul_zero,Nat.zero_add]
   exact Nat.le_of_ble_eq_true H1
  ·rw [if_neg h0] at e
   by_cases p:j % 2=1
   ·rw [if_pos p] at e
    have z:=ktBelow_get H2 e
    have:2 * s * (j / 2)+(s+b)=s * j+b:=by
     have hj:j=2 * (j / 2)+1:=(p ▸ Nat.div_add_mod j 2).symm
     generalize j / 2=q at hj
     subst hj
     rw [Nat.mul_add,Nat.mul_one,←Nat.mul_assoc,Nat.mul_comm s 2];lia
    rw [this] at z;exact z
   ·rw [if_neg p] at e
    have z:=ktBelow_get H3 e
    have:2 * s * (j / 2 - 1)+(2 * s+b)=s * j+b:=by
     have hj:j=2 * (j / 2 - 1)+2:=by
      have e0:j % 2=0:=(Nat.mod_two_eq_zero_or_one j).resolve_right p
      have e1:2 * (j / 2)=j:=Nat.mul_div_cancel' (Nat.dvd_of_mod_eq_zero e0)
      have e2:0<j / 2:=Nat.pos_of_ne_zero fun q=>h0 (by rw [←e1,q])
      rw [show 2 * (j / 2 - 1)+2=2 * (j / 2 - 1+1) from rfl,Nat.sub_add_cancel e2,e1]
     generalize j / 2 - 1=q at hj
     subst hj
     rw [Nat.mul_add,←Nat.mul_assoc,Nat.mul_comm s 2];lia
    rw [this] at z;exact z
noncomputable def tabOwner:List (Addr×Addr):=[(38,42),(65,69),(82,86),(89,93),(98,102),(105,109),(112,116),(119,123),(126,130),(133,137),(140,142),(145,147)]
noncomputable def fldOf:Data→Array Value
 | .fields vs=>vs
 | _=>#[]
noncomputable def ktO (kt:KT) (c:Addr):Obj:=match kt.get c with | some o=>o | none=>{ cls:=.none,data:=.plain }
noncomputable def tabL (kt:KT) (p:Addr×Addr):Option Obj×Option Value×Option Obj:=(kt.get p.2,(fldOf (ktO kt p.2).data)[11]?,kt.get p.1)
noncomputable def tabR (kt:KT) (p:Addr×Addr):Option Obj×Option Value×Option Obj:=(some { ktO kt p.2 with cls:=.type "code",data:=.fields (fldOf (ktO kt p.2).data) },some (.ref p.1),some (tableObj #[]))
theorem tab_right {h:Heap} {kt:KT} (H:KT.Holds h 1 0 kt) {p:Addr×Addr} (e:tabL kt p=tabR kt p):∃ c,h.TableAt c p.1 #[] :=
 table_kt H (congrArg Prod.fst e) rfl (congrArg (fun x=>x.2.1) e) (congrArg (fun x=>x.2.2) e)
theorem ktE_lt (w:World) (B:Hab):ktBelow 161 1 0 (C0 w B).kt=true:=by kernel_rfl
theorem tabs_right (w:World) (B:Hab):tabOwner.map (tabL (C0 w B).kt)=tabOwner.map (tabR (C0 w B).kt):=by kernel_rfl
theorem tabs_keys (w:World) (B:Hab):(C0 w B).tabs=tabOwner.map fun p=>(p.1,#[]):=by kernel_rfl
noncomputable def isDictObj (o:Option Obj):Bool:=match o with
 | some ⟨_,_,.dict _ _,_⟩=>true
 | _=>false
theorem stat_dict (w:World) (B:Hab):isDictObj ((C0 w B).kt.get 2)=true:=by kernel_rfl
theorem chLook_map {l:List (Addr×Addr)} {a:Addr} {vs:Array Value} (h:chLook (l.map fun p=>(p.1,#[])) a=some vs):vs = #[]∧∃ p∈l,p.1=a:=by
 induction l with
 | nil=>cases h
 | cons p l ih =>
  have e:chLook ((p::l).map fun p=>(p.1,#[])) a=match Nat.beq p.1 a with | true=>some #[] | false=>chLook (l.map fun p=>(p.1,#[])) a:=rfl
  rw [e] at h
  cases q:Nat.beq p.1 a with
  | true=>rw [q] at h;cases h;exact ⟨rfl,p,.head _,Nat.eq_of_beq_eq_true q⟩
  | false =>
   rw [q] at h
   refine el_AEA (ih h) fun h1 x hx he=>?_
   exact ⟨h1,x,.tail _ hx,he⟩
theorem ok_C0 {w:World} {B:Hab} {h:Heap} (H:KT.Holds h 1 0 (C0 w B).kt) (hl:h.NoLimit):(C0 w B).Ok h []:=by
 have kt:∀ a o,(C0 w B).kt.get a=some o→h.get? a=some o∧a<161:=by
  intro a o e
  have z:=KT.Holds.get H e
  have y:=ktBelow_get (ktE_lt w B) e
  rw [Nat.one_mul,Nat.add_zero] at z y
  exact ⟨z,y⟩
 have tabs:∀ a vs,chLook (C0 w B).tabs a=some vs→(∃ c,h.TableAt c a vs):=by
  intro a vs e
  rw [tabs_keys] at e
  refine el_AEA (chLook_map e) fun hE0 p hp hE3=>?_
  subst hE0
  subst hE3
  exact tab_right H (List.map_inj_left.mp (tabs_right w B) p hp)
 refine ⟨kt,fun a vs e=>⟨tabs a vs e,?_⟩,fun vz0 ha=>(nomatch ha),hl,by show (2:Nat)<161;lia,fun c ps ht=>?_⟩
 ·rw [tabs_keys] at e
  refine el_AEA (chLook_map e) fun vz0 p hp hE3=>?_
  subst hE3
  have all:∀ p∈tabOwner,p.1<161:=by decide
  exact all p hp
 ·have q:=stat_dict w B
  cases e:(C0 w B).kt.get 2 with
  | none=>rw [e] at q;cases q
  | some o =>
   rw [e] at q
   have z:=(kt 2 o e).1
   have y:h.get? 2=some _:=ht.2
   rw [z] at y
   cases y
   cases q
noncomputable abbrev S (l:List Nat):Str:=⟨⟨l⟩⟩
noncomputable abbrev listO (xs:Array Value) (n:Nat):Obj:={ cls:=.type "list",data:=.seq xs n }
noncomputable abbrev tupO (xs:Array Value):Obj:={ cls:=.type "tuple",data:=.seq xs 0 }
noncomputable abbrev iterO (l:Addr) (i:Nat):Obj:={ cls:=.type "list_iterator",data:=.fields #[.ref l,.int i 0] }
noncomputable abbrev hashOf (w:World) (n:Str):Int:=if n.cps.isEmpty=true then 0 else reduceHash (w.params.strHash n.cps)
noncomputable abbrev ent (w:World) (n:Str) (t:Tok) (v:Value):DictEntry:=⟨hashOf w n,.str n t,v⟩
noncomputable abbrev frameO (es:Array DictEntry) (n:Nat):Obj:={ cls:=.type "frame",data:=.dict es n }
noncomputable abbrev dictO (es:Array DictEntry) (n:Nat):Obj:={ cls:=.type "dict",data:=.dict es n }
noncomputable def fdA (C:Cfg) (a:Addr):FuncData:=fdAt (C.kt.get a)
noncomputable def stmts (C:Cfg) (a:Addr):List Stmt:=match (fdA C a).body with
 | .stmts b=>b
 | .expr _=>[]
noncomputable def nthS:List Stmt→Nat→Stmt
 | [],_=>.Pass default
 | s::_,0=>s
 | _::r,n+1=>nthS r n
noncomputable def envA (C:Cfg) (a:Addr) (cells:List (Str×Addr)) (qual:Str) (loc:Addr):PySem.Env :=
 { scope:=(fdA C a).scope,locals:=loc,globals:=(fdA C a).globals,cells,qual,func:=some a,code:=(fdA C a).code,frame:=some loc,builtins:=(fdA C a).builtins }
noncomputable abbrev Sx.put (y:Sx) (p:Addr×Obj):Sx:=⟨y.ch,p::y.l,y.r⟩
theorem isList_of {h:Heap} {a:Addr} {its:Array Value} {n:Nat} (e:h.get? a=some (listO its n)):h.IsList a its:=⟨_,e,rfl,n,rfl⟩
section
variable {C:Cfg} {h₀:Heap} {hd:Option Value} {lv:Nat} {R:Result→Sx→Prop}
theorem next_some {y:Sx} {it a:Addr} {i n:Nat} {its:Array Value} {v:Value} (hl:(a,listO its n)∈y.l ∨ (a,listO its n)∈y.r) (hv:its[i]? = some v)
  (G:R (.ok (.ret v)) (y.put (it,iterO a (i+1)))):HC C h₀ hd lv (y.put (it,iterO a i)) (.call (.builtin "list_iterator.__next__") ⟨[.ref it],[]⟩) R:=by
 intro b tk A g d os h K D
 have ho:h.get? it=some (iterO a i):=D.mem _ (.head _)
 have hol:h.get? a=some (listO its n):=by
  rcases hl with hl | hl
  ·exact D.mem _ (.tail _ hl)
  ·exact D.memR _ hl
 have hT:Shared.TypeIs ⟨h,g,d,tk,os⟩ (.ref it) "list_iterator":=⟨_,ho,rfl⟩
 refine codeAny_call_builtin slot_listiter_next.plain entry_listiter_next (slot_listiter_next.check _ _ _ _ _ _ _ _ hT (args_listiter_next _) ?_)
 show wpAny _ _ (field (.ref it) 0 >>= _) _ _ _
 refine wpAny_bind (wpAny_field ho rfl (x:=.ref a) rfl ?_)
 show wpAny _ _ (if (Value.ref a == Value.none)=true then _ else _) _ _ _
 rw [if_neg (show ¬ ((Value.ref a == Value.none)=true) from Bool.false_ne_true)]
 show wpAny _ _ (field (.ref it) 1 >>= _) _ _ _
 refine wpAny_bind (wpAny_field ho rfl (x:=.int i 0) rfl ?_)
 show wpAny _ _ (seqItems? (.ref a) >>= _) _ _ _
 refine wpAny_bind (wpAny_seqItems hol rfl ?_)
 simp only [Int.toNat_natCast,hv]
 refine wpAny_bind (wpAny_setField ho rfl (by simp) (wpAny_pure ⟨y.put (it,iterO a (i+1)),⟨b,tk,_,rfl,?_⟩,G⟩))
 exact D.update (j:=0) (p:=(it,iterO a i)) (f:=Obj.mapFields (·.setIfInBounds 1 (rawInt (i+1)))) rfl rfl
theorem next_none {y:Sx} {it a:Addr} {i n:Nat} {its:Array Value} {A:Around} {g d os b tk h} {Q:Option Value→Shared→Prop} {E:Value→Shared→Prop} (hh:A.handled=none) (hl:(a,listO its n)∈y.l ∨ (a,listO its n)∈y.r) (hv:its[i]? = none)
  (D:Rep C h₀ [] ⟨(it,iterO a i)::y.l,y.r,b,tk,y.ch⟩ h) (G:∀ s,Stands C h₀ y g d os s→Q none s) :
  wpAny (model C.prog C.w) A (pyNext (.ref it)) Q E ⟨h,g,d,tk,os⟩:=by
 have ho:h.get? it=some (iterO a i):=D.mem _ (.head _)
 have hol:h.get? a=some (listO its n):=by
  rcases hl with hl | hl
  ·exact D.mem _ (.tail _ hl)
  ·exact D.memR _ hl
 refine wpAny_pyNext_list_end hh ⟨_,ho,rfl,rfl⟩ (isList_of hol) hv fun h' he=>?_
 exact G _ ⟨_,_,_,rfl,D.ext he hl tk⟩
noncomputable def Turned (c:Code) (J:Sx→Prop) (it a:Addr) (i:Nat) (R:Result→Sx→Prop):PySem.Fin→Sx→Prop
 | .again c',x'=>c'=c∧∃ y,J y∧x'=y.put (it,iterO a i)
 | .done f,x'=>R (.ok f) x'
theorem HC.listLoop {c:Code} {it a:Addr} {its:Array Value} {n:Nat} (hw:weightZ c=0) (hq:quietZ c=true) (I:Nat→Sx→Prop)
  (hl:∀ i y,I i y→(a,listO its n)∈y.l ∨ (a,listO its n)∈y.r)
  (fin:∀ y,I its.size y→HC C h₀ none (lv+1) (y.put (it,iterO a its.size)) c R)
  (turn:∀ i y v,I i y→its[i]? = some v→HT C h₀ none lv (y.put (it,iterO a i)) (denZ c) (Turned c (I (i+1)) it a (i+1) R) (fun vz0 vz1=>False))
  {y:Sx} {i:Nat} (hi:i≤its.size) (h:I i y):HC C h₀ none (lv+1) (y.put (it,iterO a i)) c R:=by
 have key:∀ k i y,its.size=i+k→I i y→HC C h₀ none (lv+1) (y.put (it,iterO a i)) c R:=by
  intro k
  induction k with
  | zero=>intro i y e h;have e':its.size=i:=e;subst e';exact fin y h
  | succ k ih =>
   intro i y e h
   have hlt:i<its.size:=e ▸ Nat.lt_add_of_pos_right (Nat.succ_pos k)
   refine HC.tree (lv:=lv) (w:=0) hw (HT.mono (turn i y _ h (Array.getElem?_eq_getElem hlt)) (fun f x' q=>?_) (fun vz0 vz1 q=>q.elim))
   cases f with
   | done f=>exact q
   | again c' =>
    refine el_AEA q fun hE0 y' hy hE3=>?_
    try clear q
    subst hE0
    subst hE3
    exact ⟨hq,ih (i+1) y' (by lia) hy⟩
 exact key (its.size - i) i y (by lia) h
theorem HC.forEnd {target:PySem.Expr} {body:List Stmt} {env:PySem.Env} {y:Sx} {it a:Addr} {n:Nat} {its:Array Value} (hl:(a,listO its n)∈y.l ∨ (a,listO its n)∈y.r)
  (G:R (.ok .next) y):HC C h₀ none lv (y.put (it,iterO a its.size)) (.forLoop target (.ref it) body [] env) R:=by
 intro b tk A g d os h K D
 refine codeAny_of_tree ?_
 show wpAny _ _ ((forTurn target (.ref it) body [] env).onRaise (fun x=>do noteFrame x env;theTreesLotGoes x)) _ _ _
 refine wpAny_noted ?_
 simp only [forTurn]
 refine wpAny_bind (wpAny_standAt (wpAny_bind (wpAny_onRaise (next_none K.hd hl (by simp) D fun s S=>?_))))
 exact wpAny_pure ⟨rfl,codeAny_block (wpAny_execs_nil ⟨y,S,G⟩)⟩
theorem HC.compEnd {elt:PySem.Expr} {gens:List Comprehension} {gen:Comprehension} {scope:Scope} {pos:Pos} {depth:Nat} {acc:Value} {env:PySem.Env} {y:Sx} {it a:Addr} {n:Nat} {its:Array Value}
  (hg:gens[depth]? = some gen) (ha:gen.is_async=0) (hl:(a,listO its n)∈y.l ∨ (a,listO its n)∈y.r)
  (G:R (.ok .next) y):HC C h₀ none lv (y.put (it,iterO a its.size)) (.compLoop (.ListComp elt gens scope pos) depth (.ref it) acc env) R:=by
 intro b tk A g d os h K D
 refine codeAny_of_tree ?_
 show wpAny _ _ ((compTurn (.ListComp elt gens scope pos) depth (.ref it) acc env).onRaise (fun x=>do noteFrame x env;theTreesLotGoes x)) _ _ _
 refine wpAny_noted ?_
 unfold compTurn
 simp only [hg,ha]
 refine wpAny_bind (wpAny_standAt (wpAny_bind ?_))
 refine next_none K.hd hl (by simp) D fun s S=>?_
 exact wpAny_pure ⟨y,S,G⟩
theorem HT.next {α:Type} {t:Sem α} {Q:α→Sx→Prop} {E:Value→Sx→Prop} (N:NatOk C h₀) {y:Sx} {it a:Addr} {i n:Nat} {its:Array Value} {v:Value}
  (e:∀ b tk,seen Res.code? (go C none lv [1] t ⟨(it,iterO a i)::y.l,y.r,b,tk,y.ch⟩) [] 0 []=(some (.call (.builtin "list_iterator.__next__") ⟨[.ref it],[]⟩),(it,iterO a i)::y.l,y.r,y.ch,(go C none lv [1] t ⟨(it,iterO a i)::y.l,y.r,b,tk,y.ch⟩).eqs.map (·.2)))
  (hl:(a,listO its n)∈y.l ∨ (a,listO its n)∈y.r) (hv:its[i]? = some v)
  (G:∀ b tk,HT C h₀ none lv (y.put (it,iterO a (i+1))) ((go C none lv [1] t ⟨(it,iterO a i)::y.l,y.r,b,tk,y.ch⟩).kont (.ok (.ret v))) Q E):HT C h₀ none lv (y.put (it,iterO a i)) t Q E:=by
 intro b tk
 exact HTa.cut N [1] [] 0 [] (e b tk) rfl (fun h=>nomatch h) (next_some hl hv (G b tk))
end
section
variable {C:Cfg} {h₀:Heap} {hd:Option Value} {lv:Nat} {R:Result→Sx→Prop} {x:Sx}
noncomputable abbrev postX (C:Cfg) (h₀:Heap) (g:Array GenState) (d:Drawn) (os:OsState) (R:Result→Sx→Prop):Result→Shared→Prop:=fun r s'=>∃ x',Stands C h₀ x' g d os s'∧R r x'
theorem HC.meets {T:String} {name:Str} {id:String} {B:Builtin} {self:Value} {rest:List Value} {S:PySem.Spec} (slot:Slot T name id) (entry:entryFor table id=some B) (args:argsOk id ⟨self::rest,[]⟩) (g:Meets (B ⟨self::rest,[]⟩) S)
  (H:∀ A g d os b tk h,Calm A hd lv→Rep C h₀ [] ⟨x.l,x.r,b,tk,x.ch⟩ h→Shared.TypeIs ⟨h,g,d,tk,os⟩ self T∧S A (postX C h₀ g d os R) ⟨h,g,d,tk,os⟩):HC C h₀ hd lv x (.call (.builtin id) ⟨self::rest,[]⟩) R:=by
 intro b tk A g' d os h K D
 obtain ⟨hT,hS⟩:=H A g' d os b tk h K D
 exact codeAny_call_builtin slot.plain entry (slot.check _ _ _ _ _ _ _ _ hT args (g C.prog C.w A _ _ hS))
theorem update_first {l:Memo} {a:Addr} {o:Obj} {r:Memo} {b tk ch h} {f:Obj→Obj} {o':Obj} (D:Rep C h₀ [] ⟨(a,o)::l,r,b,tk,ch⟩ h) (e:f o=o') (hf:o'.isFreed=false):Rep C h₀ [] ⟨(a,o')::l,r,b,tk,ch⟩ (h.update a f):=by
 subst e
 exact D.update (j:=0) (p:=(a,o)) (f:=f) rfl hf
theorem push_new {l:Memo} {o:Obj} {r:Memo} {b tk ch h} (D:Rep C h₀ [] ⟨l,r,b,tk,ch⟩ h) (hf:o.isFreed=false) (tk':Nat):Rep C h₀ [] ⟨(b,o)::l,r,b+1,tk',ch⟩ (h.push o) :=
 (D.alloc hf).tok tk'
theorem mapSeq_push (xs:Array Value) (n:Nat) (v:Value):Obj.mapSeq (fun x=>x.push v) (listO xs n)=listO (xs.push v) (n+1):=by
 show Obj.mk _ _ (Data.seq _ (if (xs.push v).size == xs.size then n else n+1)) _=_
 rw [if_neg (by rw [Array.size_push];simp)]
theorem HC.append {ch:Ch} {l r:Memo} {a:Addr} {xs:Array Value} {n:Nat} {v:Value} (hz:xs.size≤sizeLine)
  (G:R (.ok (.ret .none)) ⟨ch,(a,listO (xs.push v) (n+1))::l,r⟩):HC C h₀ hd lv ⟨ch,(a,listO xs n)::l,r⟩ (.call (.builtin "list.append") ⟨[.ref a,v],[]⟩) R:=by
 refine HC.meets F.slot_list_append F.entry_list_append (F.args_list_append_2 _ _) (PySem.list_append a xs n v hz) fun A g d os b tk h K D=>?_
 have ho:=D.mem _ (.head _)
 exact ⟨⟨_,ho,rfl⟩,ho,_,⟨_,_,_,rfl,update_first D (mapSeq_push xs n v) rfl⟩,G⟩
end
noncomputable abbrev evalZ:PySem.Expr→PySem.Env→Sem Value:=PySem.W.Fast.tw14044960220447912780
noncomputable abbrev execsZ:List Stmt→PySem.Env→Sem Flow:=PySem.W.Fast.tw12563942051412417395
noncomputable abbrev assignZ:PySem.Expr→PySem.Env→Value→Sem Unit:=PySem.W.Fast.tw17772580674575903948
noncomputable abbrev letGoZ:PySem.Expr→Value→Value→Sem Unit:=PySem.W.Fast.tw1578499551869305889
noncomputable abbrev isTrueZ:PySem.Expr→PySem.Env→Sem Value→Sem Bool:=PySem.W.Fast.tw15418851999007992765
theorem evalZ_eq:PySem.eval=evalZ:=PySem.W.Fast.te14044960220447912780
theorem execsZ_eq:PySem.execs=execsZ:=PySem.W.Fast.te12563942051412417395
theorem assignZ_eq:PySem.assign=assignZ:=PySem.W.Fast.te17772580674575903948
theorem letGoZ_eq:PySem.letOwnedTupleGo=letGoZ:=PySem.W.Fast.te1578499551869305889
theorem isTrueZ_eq:PySem.isTrue=isTrueZ:=PySem.W.Fast.te15418851999007992765
section
variable {C:Cfg} {h₀:Heap} {hd:Option Value} {lv:Nat} {x:Sx} {R:Result→Sx→Prop} {E:Value→Sx→Prop}
theorem HT.rule' {tag:String} {Q:Unit→Sx→Prop} (H:Q () x):HT C h₀ hd lv x (rule tag) Q E :=
 fun b tk A g d os h K D=>wpAny_rule ⟨x,⟨b,tk,h,rfl,D⟩,H⟩
theorem HT.standAt {pos:Pos} {Q:Unit→Sx→Prop} (H:Q () x):HT C h₀ hd lv x (standAt pos) Q E :=
 fun b tk A g d os h K D=>wpAny_standAt ⟨x,⟨b,tk,h,rfl,D⟩,H⟩
theorem HT.point {Q:Unit→Sx→Prop} (H:Q () x):HT C h₀ hd lv x point Q E :=
 fun b tk A g d os h K D=>wpAny_point ⟨x,⟨b,tk,h,rfl,D⟩,H⟩
theorem HT.onRaise {α:Type} {m:Sem α} {k:Value→Sem Unit} {Q:α→Sx→Prop} (H:HT C h₀ hd lv x m Q (fun vz0 vz1=>False)):HT C h₀ hd lv x (m.onRaise k) Q E :=
 fun b tk A g d os h K D=>wpAny_onRaise (wpAny_mono (H b tk A g d os h K D) (fun vz0 vz1 q=>q) (fun _ _ ⟨_,_,q⟩=>q.elim))
theorem HT.holding {α:Type} {vs:List Value} {m:Sem α} {Q:α→Sx→Prop} (H:HT C h₀ hd lv x m Q E):HT C h₀ hd lv x (holding vs m) Q E :=
 fun b tk A g d os h K D=>wpAny_holding (H b tk A g d os h K D)
theorem HT.ofEq {α:Type} {t t':Sem α} {Q:α→Sx→Prop} (e:t=t') (H:HT C h₀ hd lv x t' Q E):HT C h₀ hd lv x t Q E:=e ▸ H
theorem execsZ_cons (s:Stmt) (rest:List Stmt) (env:PySem.Env):execsZ (s::rest) env=(exec s env >>= fun f=>match f with | .next=>execsZ rest env | f=>pure f):=by
 rw [←execsZ_eq];rfl
theorem execsZ_nil (env:PySem.Env):execsZ [] env=pure .next:=by rw [←execsZ_eq];rfl
theorem exec1_eq (s:Stmt) (env:PySem.Env):execsZ [s] env=exec s env:=by
 have:(fun (f:Flow)=>(match f with | .next=>execsZ [] env | f=>pure f:Sem Flow))=pure:=by
  funext f
  cases f <;> first | exact execsZ_nil env | rfl
 rw [execsZ_cons,this,bind_pure]
theorem HT.execs_cons {s:Stmt} {rest:List Stmt} {env:PySem.Env} {Q:Flow→Sx→Prop}
  (H:HT C h₀ hd lv x (execsZ [s] env) (fun f x'=>match f with | .next=>HT C h₀ hd lv x' (execsZ rest env) Q E | f=>Q f x') E):HT C h₀ hd lv x (execsZ (s::rest) env) Q E:=by
 rw [execsZ_cons]
 rw [exec1_eq] at H
 refine HT.bind (H.mono (fun f x' q=>?_) (fun vz0 vz1 q=>q))
 cases f with
 | next=>exact q
 | brk=>exact HT.pure' q
 | cont=>exact HT.pure' q
 | ret v=>exact HT.pure' q
theorem HT.execs_nil {env:PySem.Env} {Q:Flow→Sx→Prop} (H:Q .next x):HT C h₀ hd lv x (execsZ [] env) Q E :=
 HT.ofEq (execsZ_nil env) (HT.pure' H)
theorem HC.func {body:List Stmt} {env:PySem.Env} (H:HT C h₀ hd lv x (execsZ body env) (fun f x'=>R (.ok (.ret (match f with | .ret v=>v | _=>.none))) x') (fun vz0 vz1=>False)):HC C h₀ hd (lv+2) x (.func body env) R:=by
 intro b tk A g d os h K D
 refine codeAny_of_tree ?_
 show wpAny _ _ (point >>= fun vz0=>(execs body env).onRaise (leaving env) >>= fun f=>match f with | .ret v=>ret v | _=>ret .none) _ _ _
 refine wpAny_bind (wpAny_point (wpAny_bind (wpAny_onRaise ?_)))
 rw [execsZ_eq]
 have K':Calm (A.under (.func body env)) hd lv:=⟨K.hd,Nat.lt_of_le_of_lt (show A.depth+1+lv≤A.depth+(lv+2) from by rw [Nat.add_assoc,Nat.add_comm 1];exact Nat.add_le_add_left (Nat.le_succ _) _) K.deep,Nat.lt_of_le_of_lt (show A.units+3+4 * lv≤A.units+4 * (lv+2) from by rw [Nat.add_assoc,Nat.mul_add,Nat.add_comm 3];exact Nat.add_le_add_left (Nat.add_le_add_left (by decide) _) _) K.units⟩
 refine wpAny_mono (H b tk _ g d os h K' D) ?_ (fun _ _ ⟨_,_,q⟩=>q.elim)
 intro f s hZ0
 refine el_EA hZ0 fun x' S q=>?_
 try clear hZ0
 cases f <;> exact wpAny_pure ⟨x',S,q⟩
theorem HC.forList {target:PySem.Expr} {body:List Stmt} {env:PySem.Env} {it a:Addr} {n:Nat} {its:Array Value} (I:Nat→Sx→Prop)
  (hl:∀ i y,I i y→(a,listO its n)∈y.l ∨ (a,listO its n)∈y.r)
  (fin:∀ y,I its.size y→R (.ok .next) y)
  (turn:∀ i y v,I i y→its[i]? = some v→HT C h₀ none lv (y.put (it,iterO a (i+1))) (letGoZ target (.ref it) v) (fun vz0 x1=>HT C h₀ none lv x1 (assignZ target env v) (fun vz0 x2=>HT C h₀ none lv x2 (execsZ body env)
   (fun f x'=>match f with | .next | .cont=>∃ y',I (i+1) y'∧x'=y'.put (it,iterO a (i+1)) | .brk=>R (.ok .next) x' | .ret v=>R (.ok (.ret v)) x') (fun vz0 vz1=>False)) (fun vz0 vz1=>False)) (fun vz0 vz1=>False))
  {y:Sx} (h:I 0 y):HC C h₀ none lv (y.put (it,iterO a 0)) (.forLoop target (.ref it) body [] env) R:=by
 have key:∀ k i y,its.size=i+k→I i y→HC C h₀ none lv (y.put (it,iterO a i)) (.forLoop target (.ref it) body [] env) R:=by
  intro k
  induction k with
  | zero=>intro i y e h;have e':its.size=i:=e;subst e';exact HC.forEnd (hl _ y h) (fin y h)
  | succ k ih =>
   intro i y e h b tk A g d os hp K D
   have hlt:i<its.size:=e ▸ Nat.lt_add_of_pos_right (Nat.succ_pos k)
   have hv:its[i]? = some its[i]:=Array.getElem?_eq_getElem hlt
   have T:=turn i y _ h hv
   have ho:hp.get? it=some (iterO a i):=D.mem _ (.head _)
   have hol:hp.get? a=some (listO its n):=by
    rcases hl i y h with hl | hl
    ·exact D.mem _ (.tail _ hl)
    ·exact D.memR _ hl
   refine codeAny_of_tree ?_
   show wpAny _ A ((forTurn target (.ref it) body [] env).onRaise (fun x=>do noteFrame x env;theTreesLotGoes x)) _ _ _
   refine wpAny_noted ?_
   simp only [forTurn]
   refine wpAny_bind (wpAny_standAt (wpAny_bind (wpAny_onRaise ?_)))
   unfold pyNext
   have hT:Shared.TypeIs ⟨hp,g,d,tk,os⟩ (.ref it) "list_iterator":=⟨_,ho,rfl⟩
   refine wpAny_bind (wpAny_attempt (wpAny_callSpecial?_slot (name:=Str.ofString "__next__") hT slot_listiter_next (wpAny_call_entry slot_listiter_next hT entry_listiter_next ?_ (args_listiter_next _))))
   show wpAny _ _ (field (.ref it) 0 >>= _) _ _ _
   refine wpAny_bind (wpAny_field ho rfl (x:=.ref a) rfl ?_)
   show wpAny _ _ (if (Value.ref a == Value.none)=true then _ else _) _ _ _
   rw [if_neg (show ¬ ((Value.ref a == Value.none)=true) from Bool.false_ne_true)]
   show wpAny _ _ (field (.ref it) 1 >>= _) _ _ _
   refine wpAny_bind (wpAny_field ho rfl (x:=.int i 0) rfl ?_)
   show wpAny _ _ (seqItems? (.ref a) >>= _) _ _ _
   refine wpAny_bind (wpAny_seqItems hol rfl ?_)
   simp only [Int.toNat_natCast,hv]
   refine wpAny_bind (wpAny_setField ho rfl (by simp) (wpAny_pure ⟨_,rfl,wpAny_pure ?_⟩))
   have D1:Rep C h₀ [] ⟨(it,iterO a (i+1))::y.l,y.r,b,tk,y.ch⟩ (hp.update it (Obj.mapFields (·.setIfInBounds 1 (rawInt (i+1))))):=update_first (o':=iterO a (i+1)) D (by rfl) rfl
   rw [letGoZ_eq,assignZ_eq,execsZ_eq]
   refine wpAny_bind (wpAny_mono (T b tk A g d os _ K D1) ?_ (fun _ _ ⟨_,_,q⟩=>q.elim))
   intro vz0 s hZ0
   refine el_EA hZ0 fun x1 hZ1 T1=>?_
   try clear hZ0
   obtain ⟨b1,tk1,h1,hE2,D1'⟩:=hZ1
   subst hE2
   refine wpAny_bind (wpAny_mono (T1 b1 tk1 A g d os _ K D1') ?_ (fun _ _ ⟨_,_,q⟩=>q.elim))
   intro vz0 s hZ0
   refine el_EA hZ0 fun x2 hZ1 T2=>?_
   try clear hZ0
   obtain ⟨b2,tk2,h2,hE2,D2'⟩:=hZ1
   subst hE2
   refine wpAny_bind (wpAny_mono (T2 b2 tk2 A g d os _ K D2') ?_ (fun _ _ ⟨_,_,q⟩=>q.elim))
   intro f s hZ0
   refine el_EA hZ0 fun x3 hZ1 T3=>?_
   try clear hZ0
   obtain ⟨b3,tk3,h3,hE2,D3'⟩:=hZ1
   subst hE2
   have go:∀ y',I (i+1) y'→x3=y'.put (it,iterO a (i+1))→wpAny (model C.prog C.w) A (PySem.again (.forLoop target (.ref it) body [] env)) (fun fin s'=>match fin with
     | .done f=>∃ x',Stands C h₀ x' g d os s'∧R (.ok f) x'
     | .again c'=>c'.quiet=true∧codeAny (model C.prog C.w) A c' (fun r s'=>∃ x',Stands C h₀ x' g d os s'∧R r x') s') (notedBy (model C.prog C.w) A env fun e s'=>∃ x',Stands C h₀ x' g d os s'∧R (.error e) x') ⟨h3,g,d,tk3,os⟩:=by
    rintro y' hI rfl
    exact wpAny_pure ⟨rfl,ih (i+1) y' (e.trans (Nat.succ_add_eq_add_succ i k).symm) hI b3 tk3 A g d os h3 K D3'⟩
   cases f with
   | next=>obtain ⟨y',hI,e⟩:=T3;exact go y' hI e
   | cont=>obtain ⟨y',hI,e⟩:=T3;exact go y' hI e
   | brk=>exact wpAny_pure ⟨x3,⟨_,_,_,rfl,D3'⟩,T3⟩
   | ret v=>exact wpAny_pure ⟨x3,⟨_,_,_,rfl,D3'⟩,T3⟩
 exact key its.size 0 y (Nat.zero_add _).symm h
theorem HC.forL1 {target:PySem.Expr} {body:List Stmt} {env:PySem.Env} {it a:Addr} {n:Nat} {its:Array Value} {y0:Sx} (J:Nat→Sx→Prop)
  (h0:(a,listO its n)∈y0.l ∨ (a,listO its n)∈y0.r) (hl:∀ i y,J i y→(a,listO its n)∈y.l ∨ (a,listO its n)∈y.r)
  {k:Nat} (hk:its.size=k+1) (fin:∀ y,J k y→R (.ok .next) y)
  (t0:∀ v,its[0]? = some v→HT C h₀ none lv (y0.put (it,iterO a 1)) (letGoZ target (.ref it) v) (fun vz0 x1=>HT C h₀ none lv x1 (assignZ target env v) (fun vz0 x2=>HT C h₀ none lv x2 (execsZ body env)
   (fun f x'=>match f with | .next | .cont=>∃ y',J 0 y'∧x'=y'.put (it,iterO a 1) | .brk=>R (.ok .next) x' | .ret v=>R (.ok (.ret v)) x') (fun vz0 vz1=>False)) (fun vz0 vz1=>False)) (fun vz0 vz1=>False))
  (turn:∀ i y v,J i y→its[i+1]? = some v→HT C h₀ none lv (y.put (it,iterO a (i+1+1))) (letGoZ target (.ref it) v) (fun vz0 x1=>HT C h₀ none lv x1 (assignZ target env v) (fun vz0 x2=>HT C h₀ none lv x2 (execsZ body env)
   (fun f x'=>match f with | .next | .cont=>∃ y',J (i+1) y'∧x'=y'.put (it,iterO a (i+1+1)) | .brk=>R (.ok .next) x' | .ret v=>R (.ok (.ret v)) x') (fun vz0 vz1=>False)) (fun vz0 vz1=>False)) (fun vz0 vz1=>False)) :
  HC C h₀ none lv (y0.put (it,iterO a 0)) (.forLoop target (.ref it) body [] env) R:=by
 refine HC.forList (y:=y0) (a:=a) (n:=n) (its:=its) (@Nat.rec (fun vz0=>Sx→Prop) (fun y=>y=y0) fun i vz0=>J i) ?_ ?_ ?_ rfl
 ·intro i y h
  cases i with
  | zero=>cases h;exact h0
  | succ i=>exact hl i y h
 ·intro y h
  rw [hk] at h
  exact fin y h
 ·intro i y v h hv
  cases i with
  | zero=>cases h;exact t0 v hv
  | succ i=>exact turn i y v h hv
end
noncomputable def objAt (m:Mm) (i:Nat):Obj:=match getAt m.l i with
 | some p=>p.2
 | none=>default
noncomputable def entAt:List DictEntry→Nat→DictEntry
 | [],_=>⟨0,.none,.none⟩
 | v::_,0=>v
 | _::l,n+1=>entAt l n
noncomputable def entsOf (o:Obj):List DictEntry:=match o.data with
 | .dict es _=>es.toList
 | _=>[]
noncomputable def varAt (m:Mm) (i j:Nat):Value:=(entAt (entsOf (objAt m i)) j).val
noncomputable def tokV:Value→Tok
 | .str _ t=>t
 | .int _ t=>t
 | .bytes _ t=>t
 | .float _ t=>t
 | _=>0
noncomputable def keyTok (m:Mm) (i j:Nat):Tok:=tokV (entAt (entsOf (objAt m i)) j).key
section
variable {C:Cfg} {h₀:Heap} {hd:Option Value} {lv:Nat} {m:Mm} {α:Type} {t:Sem α} {Q:α→Sx→Prop} {E:Value→Sx→Prop}
variable (N:NatOk C h₀) (hs:List Nat) (il:List Nat) (k:Nat) (ir:List Nat)
include N
theorem HTa.valF (A:Mm→α) (L R:Mm→Memo) (H:Mm→Ch)
  (e:seen Res.val? (go C hd lv hs t m) il k ir=(some (A (go C hd lv hs t m).mm),L (go C hd lv hs t m).mm,R (go C hd lv hs t m).mm,H (go C hd lv hs t m).mm,(go C hd lv hs t m).eqs.map (·.2))) (ok:okSel il ir k=true)
  (G:∀ m',Q (A m') ⟨H m',L m',R m'⟩):HTa C h₀ hd lv m t Q E:=HTa.val N hs il k ir e ok (G _)
end
inductive All2 {α β:Type} (P:α→β→Prop):List α→List β→Prop
 | nil:All2 P [] []
 | cons {a b as bs}:P a b→All2 P as bs→All2 P (a::as) (b::bs)
namespace All2
variable {α β γ:Type} {P Q:α→β→Prop}
theorem mono (h:∀ a b,P a b→Q a b) {as bs} (H:All2 P as bs):All2 Q as bs:=by
 induction H with
 | nil=>exact .nil
 | cons p _ ih=>exact .cons (h _ _ p) ih
theorem length {as:List α} {bs:List β} (H:All2 P as bs):as.length=bs.length:=by
 induction H with
 | nil=>rfl
 | cons _ _ ih=>exact congrArg Nat.succ ih
theorem get {as:List α} {bs:List β} {i:Nat} {a:α} (H:All2 P as bs) (h:as[i]? = some a):∃ b,bs[i]? = some b∧P a b:=by
 induction H generalizing i with
 | nil=>cases h
 | cons p _ ih =>
  cases i with
  | zero=>cases h;exact ⟨_,rfl,p⟩
  | succ i=>exact ih h
theorem append {as:List α} {bs:List β} {as' bs'} (H:All2 P as bs) (h:All2 P as' bs'):All2 P (as ++ as') (bs ++ bs'):=by
 induction H with
 | nil=>exact h
 | cons p _ ih=>exact .cons p ih
theorem snoc {as:List α} {bs:List β} {a b} (H:All2 P as bs) (h:P a b):All2 P (as ++ [a]) (bs ++ [b]):=H.append (.cons h .nil)
theorem take {as:List α} {bs:List β} (i:Nat) (H:All2 P as bs):All2 P (as.take i) (bs.take i):=by
 induction H generalizing i with
 | nil=>rw [List.take_nil,List.take_nil];exact .nil
 | cons p _ ih =>
  cases i with
  | zero=>exact .nil
  | succ i=>exact .cons p (ih i)
theorem of_map_right {f:γ→β}:∀ {as:List α} {cs:List γ},All2 (fun a c=>P a (f c)) as cs→All2 P as (cs.map f):=by
 intro as cs H
 induction H with
 | nil=>exact .nil
 | cons p _ ih=>exact .cons p ih
theorem of_map_left {f:γ→α} {cs:List γ} {bs:List β} (H:All2 (fun c b=>P (f c) b) cs bs):All2 P (cs.map f) bs:=by
 induction H with
 | nil=>exact .nil
 | cons p _ ih=>exact .cons p ih
theorem map_left {f:γ→α} {cs:List γ} {bs:List β} (H:All2 P (cs.map f) bs):All2 (fun c b=>P (f c) b) cs bs:=by
 induction cs generalizing bs with
 | nil=>cases H;exact .nil
 | cons c cs ih=>cases H with | cons p r=>exact .cons p (ih r)
end All2
noncomputable def Sub (r r':Memo):Prop:=∀ q∈r,q∈r'
theorem Sub.refl (r:Memo):Sub r r:=fun vz0 h=>h
theorem Sub.trans {a b c:Memo} (h:Sub a b) (g:Sub b c):Sub a c:=fun q hq=>g q (h q hq)
theorem Sub.tail {p:Addr×Obj} {r:Memo}:Sub r (p::r):=fun vz0 h=>.tail _ h
theorem Sub.cons {p:Addr×Obj} {r r':Memo} (hp:p∈r') (h:Sub r r'):Sub (p::r) r':=fun q hq=>by
 rcases List.mem_cons.mp hq with rfl | hq
 ·exact hp
 ·exact h q hq
noncomputable def kc:Nat→Nat
 | 0=>97
 | 1=>98
 | 2=>67
 | _=>100
noncomputable def vS:Nat→List Nat
 | 0=>[]
 | 1=>[97,45,49,46,98]
 | 2=>[50,32,50]
 | 3=>[34]
 | _=>[120,44,121]
noncomputable def vV (v:Nat) (t:Tok):Value:=match v with
 | 0=>.str (S []) t
 | 1=>.str (S [97,45,49,46,98]) t
 | 2=>.str (S [50,32,50]) t
 | 3=>.str (S [34]) t
 | 4=>.str (S [120,44,121]) t
 | _=>.none
inductive VNS:Value→Prop
 | none:VNS .none
 | str (z:List Nat) (t:Tok):VNS (.str (S z) t)
theorem vV_ns (v:Nat) (t:Tok):VNS (vV v t):=by
 unfold vV;split <;> constructor
@[elab_as_elim] theorem VNS.two {P:Value→Prop} {X:Value} (h:VNS X) (n:At P .none) (s:∀ z t,At P (.str (S z) t)):P X:=by
 cases h
 ·exact n
 ·exact s _ _
theorem lt4 {v:Nat} (h:v<4):v=0 ∨ v=1 ∨ v=2 ∨ v=3:=(by decide:∀ v,v<4→v=0 ∨ v=1 ∨ v=2 ∨ v=3) v h
theorem lt5 {v:Nat} (h:v<5):v=0 ∨ v=1 ∨ v=2 ∨ v=3 ∨ v=4:=(by decide:∀ v,v<5→v=0 ∨ v=1 ∨ v=2 ∨ v=3 ∨ v=4) v h
theorem lt6 {v:Nat} (h:v<6):v=0 ∨ v=1 ∨ v=2 ∨ v=3 ∨ v=4 ∨ v=5:=(by decide:∀ v,v<6→v=0 ∨ v=1 ∨ v=2 ∨ v=3 ∨ v=4 ∨ v=5) v h
theorem lt6n {v:Nat} (h:v<6):v=5 ∨ v=0 ∨ v=1 ∨ v=2 ∨ v=3 ∨ v=4:=(lt6 h).elim (.inr ∘ .inl) fun h=>h.elim (.inr ∘ .inr ∘ .inl) fun h=>h.elim (.inr ∘ .inr ∘ .inr ∘ .inl) fun h=>h.elim (.inr ∘ .inr ∘ .inr ∘ .inr ∘ .inl) fun h=>h.elim (.inr ∘ .inr ∘ .inr ∘ .inr ∘ .inr) .inl
@[elab_as_elim] theorem k4 {P:Nat→Prop} {k:Nat} (h:k<4) (p0:At P 0) (p1:At P 1) (p2:At P 2) (p3:At P 3):P k :=
 (lt4 h).elim (fun e=>e ▸ p0) fun h=>h.elim (fun e=>e ▸ p1) fun h=>h.elim (fun e=>e ▸ p2) fun e=>e ▸ p3
@[elab_as_elim] theorem v6 {P:Nat→Prop} {k:Nat} (h:k<6) (p0:At P 0) (p1:At P 1) (p2:At P 2) (p3:At P 3) (p4:At P 4) (p5:At P 5):P k :=
 (lt6 h).elim (fun e=>e ▸ p0) fun h=>h.elim (fun e=>e ▸ p1) fun h=>h.elim (fun e=>e ▸ p2) fun h=>h.elim (fun e=>e ▸ p3) fun h=>h.elim (fun e=>e ▸ p4) fun e=>e ▸ p5
noncomputable abbrev pairO (c v:Nat) (t1 t2:Tok):Obj:=tupO #[.str (S [c]) t1,vV v t2]
noncomputable abbrev KV:=Nat×Nat
noncomputable def Fine (p:KV):Prop:=p.1<4∧p.2<6
noncomputable def wS (c v:Nat):List Nat:=match v with
 | 0=>[c,61,34,34]
 | 1=>[c,61,97,45,49,46,98]
 | 2=>[c,61,34,50,32,50,34]
 | 3=>[c,61,34,92,34,34]
 | 4=>[c,61,34,120,44,121,34]
 | _=>[c]
noncomputable def wP (p:KV):List Nat:=wS (kc p.1) p.2
noncomputable def PairAt (r:Memo) (p:Addr) (kv:KV):Prop:=∃ t1 t2,(p,pairO (kc kv.1) kv.2 t1 t2)∈r
noncomputable abbrev refs (ads:List Addr):Array Value:=(ads.map Value.ref).toArray
inductive PairsAt (r:Memo) (a:Addr) (ps:List KV):Prop
 | mk:∀ ads n,((a,listO (refs ads) n)∈r)→(All2 (PairAt r) ads ps)→PairsAt r a ps
inductive ListsAt (r:Memo) (a:Addr) (L:List (List KV)):Prop
 | mk:∀ ads n,((a,listO (refs ads) n)∈r)→(All2 (PairsAt r) ads L)→ListsAt r a L
theorem PairAt.mono {r r':Memo} (h:Sub r r') {p kv}:PairAt r p kv→PairAt r' p kv:=fun ⟨t1,t2,m⟩=>⟨t1,t2,h _ m⟩
theorem PairsAt.mono {r r':Memo} (h:Sub r r') {a ps}:PairsAt r a ps→PairsAt r' a ps:=fun ⟨ads,n,m,al⟩=>⟨ads,n,h _ m,al.mono fun vz0 vz1=>PairAt.mono h⟩
theorem ListsAt.mono {r r':Memo} (h:Sub r r') {a L}:ListsAt r a L→ListsAt r' a L:=fun ⟨ads,n,m,al⟩=>⟨ads,n,h _ m,al.mono fun vz0 vz1=>PairsAt.mono h⟩
theorem refs_get {ads:List Addr} {i:Nat} {v:Value} (h:(refs ads)[i]? = some v):∃ a,ads[i]? = some a∧v = .ref a:=by
 rw [List.getElem?_toArray,List.getElem?_map] at h
 cases e:ads[i]? with
 | none=>rw [e] at h;cases h
 | some a=>rw [e] at h;cases h;exact ⟨a,rfl,rfl⟩
theorem refs_size (ads:List Addr):(refs ads).size=ads.length:=by rw [List.size_toArray,List.length_map]
theorem take_succ_get {α:Type} {l:List α} {i:Nat} {a:α} (h:l[i]? = some a):l.take (i+1)=l.take i ++ [a]:=by
 rw [List.take_succ,h];rfl
noncomputable def IsText (v:Value) (s:List Nat):Prop:=∃ t,v = .str (S s) t
section
open PySem.Builtin.Str
noncomputable def joinN (sep:List Nat):List (List Nat)→List Nat
 | []=>[]
 | [x]=>x
 | x::y::r=>x ++ sep ++ joinN sep (y::r)
theorem join_is (sep:List Nat):∀ ss:List (List Nat),Str.join (S sep) (ss.map S)=S (joinN sep ss)
 | []=>rfl
 | [x]=>rfl
 | x::y::r=>by
  show S x ++ S sep ++ Str.join (S sep) ((y::r).map S)=S (x ++ sep ++ joinN sep (y::r))
  rw [join_is sep (y::r)]
  show (⟨(⟨x⟩ ++ ⟨sep⟩) ++ ⟨joinN sep (y::r)⟩⟩:Str)=⟨⟨x ++ sep ++ joinN sep (y::r)⟩⟩
  congr 1
  apply Array.ext'
  simp
theorem texts_values {vs:List Value} {ss:List (List Nat)} (H:All2 IsText vs ss):∃ l:List (Str×Tok),vs=strValues l∧l.map (·.1)=ss.map S:=by
 induction H with
 | nil=>exact ⟨[],rfl,rfl⟩
 | cons p r ih =>
  refine el_E p fun t e=>?_
  refine el_EA ih fun l e1 e2=>?_
  exact ⟨(S _,t)::l,by rw [e,e1];rfl,by rw [List.map_cons,e2];rfl⟩
theorem joinN_le {sep:List Nat} (hs:sep.length≤10):∀ {ss:List (List Nat)},(∀ s∈ss,s.length≤1000)→(joinN sep ss).length≤ss.length * 1010
 | [],_=>by simp [joinN]
 | [x],h=>by have:=h x (.head _);simp only [joinN,List.length_cons,List.length_nil];lia
 | x::y::r,h=>by
  have h1:=joinN_le hs (ss:=y::r) (fun s q=>h s (.tail _ q))
  have h2:=h x (.head _)
  show (x ++ sep ++ joinN sep (y::r)).length≤_
  rw [List.length_append,List.length_append,List.length_cons (a:=x),Nat.add_mul]
  lia
theorem fold_le (k m:Nat):∀ (ps:List Str) (n:Nat),(∀ p∈ps,p.length≤m)→ps.foldl (fun x y=>x+y.length+k) n≤n+ps.length * (m+k)
 | [],n,_=>by simp
 | p::ps,n,h=>by
  rw [List.foldl_cons]
  have h1:=fold_le k m ps (n+p.length+k) (fun q hq=>h q (.tail _ hq))
  have h2:=h p (.head _)
  rw [List.length_cons,Nat.add_mul,Nat.one_mul,Nat.add_comm _ (m+k),←Nat.add_assoc,←Nat.add_assoc]
  exact Nat.le_trans h1 (Nat.add_le_add_right (Nat.add_le_add_right (Nat.add_le_add_left h2 n) k) _)
section
variable {C:Cfg} {h₀:Heap} {hd:Option Value} {lv:Nat} {R:Result→Sx→Prop} {x:Sx}
theorem HC.joinL {sep:List Nat} {t:Tok} {a:Addr} {its:Array Value} {n:Nat} {ss:List (List Nat)} (hl:(a,listO its n)∈x.l ∨ (a,listO its n)∈x.r) (ht:All2 IsText its.toList ss)
  (hb:∀ s∈ss,s.length≤1000) (hn:ss.length≤100) (hs:sep.length≤10) (G:∀ t',R (.ok (.ret (.str (S (joinN sep ss)) t'))) x) :
  HC C h₀ hd lv x (.call (.builtin "str.join") ⟨[.str (S sep) t,.ref a],[]⟩) R:=by
 refine el_EA (texts_values ht) fun l e1 e2=>?_
 have tl:tooLong ((l.map (·.1)).toArray.foldl (fun x y=>x+y.length+(S sep).length) 0)=false:=by
  have z:=fold_le (S sep).length 1000 (l.map (·.1)) 0 (fun p hp=>by rw [e2] at hp;obtain ⟨s,hs,rfl⟩:=List.mem_map.mp hp;exact hb s hs)
  have z2:(l.map (·.1)).length≤100:=by rw [e2,List.length_map];exact hn
  have z3:(S sep).length≤10:=hs
  rw [List.foldl_toArray]
  unfold tooLong
  have:(l.map (·.1)).length * (1000+(S sep).length)≤100 * 1010:=Nat.mul_le_mul z2 (by lia)
  have:List.foldl (fun x y=>x+y.length+(S sep).length) 0 (l.map (·.1))≤101000:=by lia
  exact decide_eq_false (by rw [sizeLine_eq];lia)
 have lb:(S (joinN sep ss)).length≤sizeLine:=by
  have z1:=joinN_le hs hb
  have z2:ss.length * 1010≤100 * 1010:=Nat.mul_le_mul_right _ hn
  show (joinN sep ss).length≤_
  rw [sizeLine_eq];lia
 have gl:glued (S sep) (l.map (·.1))=S (joinN sep ss):=by rw [StrLaws.glued_eq_join,e2,join_is]
 refine HC.meets F.slot_str_join F.entry_str_join (F.args_str_join_2 _ _) (meets_str_join_list (S sep) t a l tl) fun A g d os b tk h K D=>⟨rfl,?_,?_⟩
 ·have:h.get? a=some (listO its n):=by
   rcases hl with hl | hl
   ·exact D.mem _ hl
   ·exact D.memR _ hl
  exact ⟨_,this,rfl,n,by show Data.seq its n=_;rw [←e1,Array.toArray_toList]⟩
 ·match l,e2,gl with
  | [p],e2,gl =>
   obtain ⟨q,u⟩:=p
   refine ⟨x,⟨b,tk,h,rfl,D⟩,?_⟩
   have:q=S (joinN sep ss):=by rw [←gl];rfl
   rw [this];exact G u
  | [],e2,gl =>
   refine ⟨?_,x,⟨b,tk+1,h,rfl,D.tok (tk+1)⟩,?_⟩
   ·rw [gl];exact lb
   ·rw [gl];exact G _
  | p::q::r,e2,gl =>
   refine ⟨?_,x,⟨b,tk+1,h,rfl,D.tok (tk+1)⟩,?_⟩
   ·rw [gl];exact lb
   ·rw [gl];exact G _
end
end
section
variable {C:Cfg} {h₀:Heap} {hd:Option Value} {lv:Nat} {R:Result→Sx→Prop} {x:Sx}
theorem HC.lenL {a:Addr} {its:Array Value} {n:Nat} (hl:(a,listO its n)∈x.l ∨ (a,listO its n)∈x.r) (hz:its.size≤1000000) (G:∀ t,R (.ok (.ret (.int its.size t))) x) :
  HC C h₀ hd lv x (.builtin "len" ⟨[.ref a],[]⟩) R:=by
 intro b tk A g d os h K D
 have ho:h.get? a=some (listO its n):=by
  rcases hl with hl | hl
  ·exact D.mem _ hl
  ·exact D.memR _ hl
 refine codeAny_builtin entry_len ?_
 refine wpAny_mono (wpAny_len_body_list (isList_of ho) (by lia) (Q:=fun v s'=>∃ t,v = .int its.size t∧s'=⟨h,g,d,tk+1+1,os⟩) ⟨_,rfl,rfl⟩) ?_ (fun vz0 vz1 q=>q)
 intro fin s hZ0
 refine el_EAEA hZ0 fun r hE1 t hE2 hE3=>?_
 try clear hZ0
 subst hE1
 subst hE2
 subst hE3
 exact ⟨x,⟨b,tk+1+1,h,rfl,D.tok (tk+1+1)⟩,G t⟩
end
section
variable {C:Cfg} {h₀:Heap} {hd:Option Value} {lv:Nat} {R:Result→Sx→Prop} {x:Sx}
theorem listAtHeap {a:Addr} {its:Array Value} {n:Nat} {h:Heap} {b tk:Nat} (hl:(a,listO its n)∈x.l ∨ (a,listO its n)∈x.r) (D:Rep C h₀ [] ⟨x.l,x.r,b,tk,x.ch⟩ h):h.get? a=some (listO its n):=by
 rcases hl with hl | hl
 ·exact D.mem _ hl
 ·exact D.memR _ hl
theorem HC.getItem {a:Addr} {its:Array Value} {n:Nat} {k:Int} {t:Tok} {v:Value} (hl:(a,listO its n)∈x.l ∨ (a,listO its n)∈x.r) (h0:0≤k) (hf:k<2 ^ 63) (hv:its[k.toNat]? = some v) (G:R (.ok (.ret v)) x) :
  HC C h₀ hd lv x (.call (.builtin "list.__getitem__") ⟨[.ref a,.int k t],[]⟩) R:=by
 intro b tk A g d os h K D
 have ho:=listAtHeap hl D
 have hT:Shared.TypeIs ⟨h,g,d,tk,os⟩ (.ref a) "list":=⟨_,ho,rfl⟩
 refine codeAny_call_builtin slot_list_getitem.plain entry_list_getitem (slot_list_getitem.check _ _ _ _ _ _ _ _ hT (args_list_getitem _ _) ?_)
 show wpAny _ _ (Builtin.List.listSubscript? (.int k t) >>= _) _ _ _
 refine wpAny_bind (wpAny_listSubscript_int (fitsIndex_of h0 hf) ?_)
 clear hf
 refine el_E (Int.eq_ofNat_of_zero_le h0) fun j hE1=>?_
 subst hE1
 have hx':its[j]? = some v:=hv
 show wpAny _ _ ((seqItemAt a j >>= fun r=>pure (r.map (j,·))) >>= _) _ _ _
 refine wpAny_bind (wpAny_bind (wpAny_seqItemAt ho rfl (wpAny_pure ?_)))
 rw [hx']
 exact wpAny_pure ⟨x,⟨b,tk,h,rfl,D⟩,G⟩
theorem HC.getLast {a:Addr} {its:Array Value} {n:Nat} {t:Tok} {v:Value} (hl:(a,listO its n)∈x.l ∨ (a,listO its n)∈x.r) (hv:its[its.size - 1]? = some v) (G:R (.ok (.ret v)) x) :
  HC C h₀ hd lv x (.call (.builtin "list.__getitem__") ⟨[.ref a,.int (-1) t],[]⟩) R:=by
 intro b tk A g d os h K D
 have ho:=listAtHeap hl D
 have hT:Shared.TypeIs ⟨h,g,d,tk,os⟩ (.ref a) "list":=⟨_,ho,rfl⟩
 refine codeAny_call_builtin slot_list_getitem.plain entry_list_getitem (slot_list_getitem.check _ _ _ _ _ _ _ _ hT (args_list_getitem _ _) ?_)
 show wpAny _ _ (Builtin.List.listSubscript? (.int (-1) t) >>= _) _ _ _
 refine wpAny_bind (wpAny_listSubscript_int (by decide) ?_)
 show wpAny _ _ ((Builtin.List.listItems (.ref a) >>= fun xs=>pure ((seqIndex? (-1) xs.size).bind fun j=>xs[j]?.map (j,·))) >>= _) _ _ _
 refine wpAny_bind (wpAny_bind ?_)
 unfold Builtin.List.listItems
 refine wpAny_bind (wpAny_seqItems ho rfl (wpAny_pure (wpAny_pure ?_)))
 have hs:0<its.size:=by
  rcases Nat.eq_zero_or_pos its.size with e | e
  ·rw [Array.getElem?_eq_none (e ▸ Nat.zero_le _)] at hv;cases hv
  ·exact e
 have e1:seqIndex? (-1) its.size=some (its.size - 1):=by
  unfold seqIndex?
  have e0:(-1:Int)+its.size=((its.size - 1:Nat):Int):=by rw [Int.natCast_sub hs,Int.add_comm];rfl
  have e1:(if (-1:Int)<0 then (-1:Int)+its.size else -1)=((its.size - 1:Nat):Int):=(if_pos (by decide)).trans e0
  rw [e1]
  exact if_pos (Bool.and_eq_true_iff.mpr ⟨decide_eq_true (Int.natCast_nonneg _),decide_eq_true (Int.ofNat_lt.mpr (Nat.sub_lt hs Nat.zero_lt_one))⟩)
 rw [e1]
 show wpAny _ _ (match its[its.size - 1]?.map (its.size - 1,·) with | some (_,x)=>_ | none=>_) _ _ _
 rw [hv]
 exact wpAny_pure ⟨x,⟨b,tk,h,rfl,D⟩,G⟩
noncomputable def ResC.r?:ResC→Option Result
 | .fin r ..=>some r
 | .stuck=>none
noncomputable def ResC.mm:ResC→Mm
 | .fin _ m _ _=>m
 | .stuck=>⟨[],[],0,0,[]⟩
noncomputable def ResC.es:ResC→Eqs
 | .fin _ _ _ e=>e
 | .stuck=>[]
noncomputable abbrev goC (C:Cfg) (hd:Option Value) (lv:Nat) (hs:List Nat) (c:Code) (m:Mm):ResC:=(simB C 1000000).2 ⟨hd,lv,none,pos0⟩ hs c m []
noncomputable abbrev seenC (g:ResC) (il:List Nat) (k:Nat) (ir:List Nat):Option Result×Memo×Memo×Ch×List Nat :=
 (g.r?,selL il k g.mm.l,choos ir g.mm.l ++ g.mm.r,g.mm.ch,g.es.map (·.1))
theorem HC.run (N:NatOk C h₀) (hs:List Nat) (il:List Nat) (k:Nat) (ir:List Nat) {c:Code} (RR:Mm→Result) (L R':Mm→Memo) (H:Mm→Ch)
  (e:∀ b tk,seenC (goC C hd lv hs c ⟨x.l,x.r,b,tk,x.ch⟩) il k ir=(some (RR (goC C hd lv hs c ⟨x.l,x.r,b,tk,x.ch⟩).mm),L (goC C hd lv hs c ⟨x.l,x.r,b,tk,x.ch⟩).mm,R' (goC C hd lv hs c ⟨x.l,x.r,b,tk,x.ch⟩).mm,H (goC C hd lv hs c ⟨x.l,x.r,b,tk,x.ch⟩).mm,(goC C hd lv hs c ⟨x.l,x.r,b,tk,x.ch⟩).es.map (·.2))) (ok:okSel il ir k=true)
  (G:∀ m',R (RR m') ⟨H m',L m',R' m'⟩):HC C h₀ hd lv x c R:=by
 intro b tk A g d os h K D Γ p hc hB
 have e:=e b tk
 have e1:=congrArg Prod.fst e
 have e2:=congrArg (fun x=>x.2.1) e
 have e3:=congrArg (fun x=>x.2.2.1) e
 have e4:=congrArg (fun x=>x.2.2.2.1) e
 have e5:=congrArg (fun x=>x.2.2.2.2) e
 dsimp only [seenC] at e1 e2 e3 e4 e5
 cases q:goC C hd lv hs c ⟨x.l,x.r,b,tk,x.ch⟩ with
 | stuck=>rw [q] at e1;cases e1
 | fin r m' hs' eqs' =>
  rw [q] at e1 e2 e3 e4 e5
  have er:r=RR m':=by injection e1
  have F:FitsC ⟨hd,lv,none,pos0⟩ Γ p:=⟨hB.1.trans K.hd,fun vz0=>by have:=hB.2.1;have:=K.deep;show frameCount Γ.below+lv<recursionLimit;lia,fun vz0 e=>(nomatch e)⟩
  refine (sound_both N.ok N.mono N.sound 1000000).2 _ _ _ _ _ _ _ _ _ Γ _ g d os h p hc F q D (allEq_of e5) fun h' D'=>?_
  refine ⟨⟨m'.ch,selL il k m'.l,choos ir m'.l ++ m'.r⟩,⟨_,_,_,rfl,D'.choose ok _ rfl m'.t⟩,?_⟩
  have e2':selL il k m'.l=L m':=e2
  have e3':choos ir m'.l ++ m'.r=R' m':=e3
  have e4':m'.ch=H m':=e4
  show R r ⟨m'.ch,selL il k m'.l,choos ir m'.l ++ m'.r⟩
  rw [e2',e3',e4',er]
  exact G m'
theorem HC.eqInt {i j:Int} {t u:Tok} (G:R (.ok (.ret (.bool (i == j)))) x):HC C h₀ hd lv x (.call (.builtin "int.__eq__") ⟨[.int i t,.int j u],[]⟩) R :=
 HC.meets (T:="int") slot_int_eq entry_int_eq (args_int_eq _ _) (PySem.AutoIntG7.int___eq___int_int_0 i t j u).meets fun A g d os b tk h K D=>⟨rfl,x,⟨b,tk,h,rfl,D⟩,G⟩
end
section
variable {C:Cfg} {h₀:Heap} {lv:Nat} {x:Sx}
theorem HT.forCut (N:NatOk C h₀) {st:Stmt} {env:PySem.Env} {a:Addr} {Q:Flow→Sx→Prop} (hs:List Nat)
  (e:∀ b tk,seen Res.code? (go C none lv hs (execsZ [st] env) ⟨x.l,x.r,b,tk,x.ch⟩) [] 0 []=(some (loopOf st (.ref b) env),(b,iterO a 0)::x.l,x.r,x.ch,(go C none lv hs (execsZ [st] env) ⟨x.l,x.r,b,tk,x.ch⟩).eqs.map (·.2)))
  (ek:∀ b tk (y:Sx) b' tk',seen Res.val? (go C none lv [] ((go C none lv hs (execsZ [st] env) ⟨x.l,x.r,b,tk,x.ch⟩).kont (.ok .next)) ⟨y.l,y.r,b',tk',y.ch⟩) [] 0 []=(some .next,y.l,y.r,y.ch,(go C none lv [] ((go C none lv hs (execsZ [st] env) ⟨x.l,x.r,b,tk,x.ch⟩).kont (.ok .next)) ⟨y.l,y.r,b',tk',y.ch⟩).eqs.map (·.2)))
  (H:∀ b,HC C h₀ none lv (x.put (b,iterO a 0)) (loopOf st (.ref b) env) (fun r x'=>r = .ok .next∧Q .next x')):HT C h₀ none lv x (execsZ [st] env) Q (fun vz0 vz1=>False):=by
 intro b tk
 refine HTa.cut N hs [] 0 [] (e b tk) rfl (by intro h;cases h) (HC.mono (H b) ?_)
 intro r y hZ0
 refine el_A hZ0 fun hE1 q=>?_
 try clear hZ0
 subst hE1
 intro b' tk'
 exact HTa.val N [] [] 0 [] (ek b tk y b' tk') rfl q
end
section
open PySem.Builtin.Str
section
variable {C:Cfg} {h₀:Heap} {hd:Option Value} {lv:Nat} {R:Result→Sx→Prop} {x:Sx}
theorem HC.sliceFrom {T:List Nat} {n:Nat} {t u:Tok} {a:Addr} (hl:(a,({ cls:=.type "slice",data:=.fields #[.int n u,.none,.none] }:Obj))∈x.l) (hn:n≤T.length) (hT:T.length≤1000000)
  (G:∀ t',R (.ok (.ret (.str (S (T.drop n)) t'))) x):HC C h₀ hd lv x (.call (.builtin "str.__getitem__") ⟨[.str (S T) t,.ref a],[]⟩) R:=by
 refine HC.meets F.slot_str_getitem F.entry_str_getitem (F.args_str_getitem_2 _ _) (meets_str_getitem_slice (S T) t a (some ((n:Int),u)) none none rfl) fun A g d os b tk h K D=>⟨rfl,⟨_,D.mem _ hl,rfl,rfl⟩,?_⟩
 have e1:strSliceIndices (some (n:Int)) none 1 T.length=(List.range (T.length - n)).map (fun k=>n+k):=by
  rw [StrLaws.sliceIdx_none_hi,StrLaws.strSliceIndices_plain hn (Nat.le_refl _)]
 have e2:(slicePicked (S T) (some ((n:Int),u)) none none).filterMap ((S T).cps[·]?)=T.drop n:=by
  show (strSliceIndices (some (n:Int)) none 1 (S T).length).filterMap ((S T).cps[·]?)=_
  rw [StrLaws.sliceIdx_none_hi,StrLaws.sliced_plain (S T) (b:=(S T).length) hn (Nat.le_refl _)]
  exact List.take_of_length_le (by rw [List.length_drop];exact Nat.le_refl _)
 have e3:(slicePicked (S T) (some ((n:Int),u)) none none).length=T.length - n:=by
  show (strSliceIndices (some (n:Int)) none 1 T.length).length=_
  rw [e1,List.length_map,List.length_range]
 unfold sliceMade
 rw [e2,e3]
 split
 ·rename_i hq
  have:T.length - n=(S T).length:=by simpa using hq
  have:T.length - n=T.length:=this
  have hn0:T.drop n=T:=by
   by_cases h0:n=0
   ·subst h0;rfl
   ·have:T.length=0:=(Nat.eq_zero_or_pos _).resolve_right fun p=>Nat.ne_of_lt (Nat.sub_lt p (Nat.pos_of_ne_zero h0)) this
    rw [List.length_eq_zero_iff.mp this];simp
  refine ⟨x,⟨b,tk,h,rfl,D⟩,?_⟩
  have z:=G t
  rw [hn0] at z
  exact z
 ·refine ⟨?_,x,⟨b,tk+1,h,rfl,D.tok (tk+1)⟩,G _⟩
  show (T.drop n).length≤_
  rw [List.length_drop,sizeLine_eq];lia
end
end
noncomputable abbrev nLists:Str:=S [108,105,115,116,115]
noncomputable abbrev nHeaders:Str:=S [104,101,97,100,101,114,115]
noncomputable abbrev nPairs:Str:=S [112,97,105,114,115]
noncomputable abbrev nAttr:Str:=S [97,116,116,114]
noncomputable abbrev nk:Str:=S [107]
noncomputable abbrev nv:Str:=S [118]
noncomputable abbrev qJoin:Str:=S [106,111,105,110,95,104,101,97,100,101,114,95,119,111,114,100,115,46,60,108,111,99,97,108,115,62,46]
noncomputable abbrev envJ (C:Cfg) (f:Addr):PySem.Env:=envA C 87 [] qJoin f
noncomputable abbrev outerJ (C:Cfg):Stmt:=nthS (stmts C 87) 1
noncomputable abbrev innerJ (C:Cfg):Stmt:=nthS (forBody (outerJ C)) 1
structure TJ where
 tl:Tok
 th:Tok
 tp:Tok
 ta:Tok
 tk:Tok
 tv:Tok
noncomputable abbrev frJ (w:World) (T:TJ) (vl vh vp va vk vv:Value):Obj :=
 frameO #[ent w nLists T.tl vl,ent w nHeaders T.th vh,ent w nPairs T.tp vp,ent w nAttr T.ta va,ent w nk T.tk vk,ent w nv T.tv vv] 6
noncomputable abbrev codeJ (b t:Nat):Obj:={ cls:=.type "code",data:=.fields #[.str (S [60,108,97,109,98,100,97,62]) t,.str (S (qJoin.cps.toList ++ [60,108,97,109,98,100,97,62])) (t+1),.str (S [47,99,108,97,105,109,47,99,117,116,46,112,121]) (t+2),
 .int 57 0,.int 1 0,.int 0 0,.int 0 0,.int 19 0,.ref b,.bool true,.int 276 0,.ref (b+1),.none,.ref (b+2),.ref (b+3),.ref (b+4),.int ↑(t+4) 0,.int 57 0,.str (S [47,99,108,97,105,109,47,99,117,116,46,112,121]) (t+5)] }
noncomputable abbrev chJ (a:Addr):Ch:=[(82,#[.int 57 0,.int 50 0,.ref a])]
section
variable {w:World} {B:Hab} {h₀:Heap} (N:NatOk (C0 w B) h₀)
include N
theorem join_if {v:Nat} (hv:v<6) {f t1 t2 cb ct c:Nat} {l r:Memo} {vl vh vp va:Value} {T:TJ} :
  HT (C0 w B) h₀ none 100 ⟨chJ (cb+5),(f,frJ w T vl vh vp va (.str (S [c]) t1) (vV v t2))::l,(cb+5,codeJ cb ct)::r⟩ (execsZ [nthS (forBody (innerJ (C0 w B))) 0] (envJ (C0 w B) f))
   (fun fl x'=>fl = .next∧∃ t' v',x'=⟨chJ (cb+5),(f,frJ w T vl vh vp va (.str (S (wS c v)) t') v')::l,(cb+5,codeJ cb ct)::r⟩) (fun vz0 vz1=>False):=by
 obtain ⟨b1,b2,b3,b4⟩:=B
 intro b tk
 have key:∀ (hs:List Nat) (i:Nat),okSel [i] [] (i+1)=true →
   seen Res.val? (go (C0 w ⟨b1,b2,b3,b4⟩) none 100 hs (execsZ [nthS (forBody (innerJ (C0 w ⟨b1,b2,b3,b4⟩))) 0] (envJ (C0 w ⟨b1,b2,b3,b4⟩) f)) ⟨(f,frJ w T vl vh vp va (.str (S [c]) t1) (vV v t2))::l,(cb+5,codeJ cb ct)::r,b,tk,chJ (cb+5)⟩) [i] (i+1) [] =
    (some .next,(fun m'=>(f,frJ w T vl vh vp va (.str (S (wS c v)) (tokV (varAt m' i 4))) (varAt m' i 5))::l) (go (C0 w ⟨b1,b2,b3,b4⟩) none 100 hs (execsZ [nthS (forBody (innerJ (C0 w ⟨b1,b2,b3,b4⟩))) 0] (envJ (C0 w ⟨b1,b2,b3,b4⟩) f)) ⟨(f,frJ w T vl vh vp va (.str (S [c]) t1) (vV v t2))::l,(cb+5,codeJ cb ct)::r,b,tk,chJ (cb+5)⟩).mm,(cb+5,codeJ cb ct)::r,chJ (cb+5),(go (C0 w ⟨b1,b2,b3,b4⟩) none 100 hs (execsZ [nthS (forBody (innerJ (C0 w ⟨b1,b2,b3,b4⟩))) 0] (envJ (C0 w ⟨b1,b2,b3,b4⟩) f)) ⟨(f,frJ w T vl vh vp va (.str (S [c]) t1) (vV v t2))::l,(cb+5,codeJ cb ct)::r,b,tk,chJ (cb+5)⟩).eqs.map (·.2)) →
   HTa (C0 w ⟨b1,b2,b3,b4⟩) h₀ none 100 ⟨(f,frJ w T vl vh vp va (.str (S [c]) t1) (vV v t2))::l,(cb+5,codeJ cb ct)::r,b,tk,chJ (cb+5)⟩ (execsZ [nthS (forBody (innerJ (C0 w ⟨b1,b2,b3,b4⟩))) 0] (envJ (C0 w ⟨b1,b2,b3,b4⟩) f))
   (fun fl x'=>fl = .next∧∃ t' v',x'=⟨chJ (cb+5),(f,frJ w T vl vh vp va (.str (S (wS c v)) t') v')::l,(cb+5,codeJ cb ct)::r⟩) (fun vz0 vz1=>False) :=
  fun hs i ok e=>HTa.valF N hs [i] (i+1) [] (fun vz0=>.next) (fun m'=>(f,frJ w T vl vh vp va (.str (S (wS c v)) (tokV (varAt m' i 4))) (varAt m' i 5))::l) (fun vz0=>(cb+5,codeJ cb ct)::r) (fun vz0=>chJ (cb+5)) e ok fun m'=>⟨rfl,_,_,rfl⟩
 rcases lt6 hv with rfl | rfl | rfl | rfl | rfl | rfl
 ·cases b4 <;> exact key [1,0,0,0,0,0,1,1,0,0,0,0,0,0,0,0,0,0,0,0,0,3,1,0,1,0,0,0,0,1,5,5,5,1,5,5,5,5,5,5] 2 rfl (by kernel_rfl)
 ·cases b4 <;> exact key [1,0,0,0,0,0,1,1,0,0,0,1,1,5,5,5,5] 2 rfl (by kernel_rfl)
 ·cases b4 <;> exact key [1,0,0,0,0,0,1,1,0,0,0,0,0,0,0,0,0,0,0,0,0,3,1,0,1,0,0,0,0,1,1,1,1,1,1,1,5,5,5,1,5,5,5,5,5,5] 2 rfl (by kernel_rfl)
 ·cases b4 <;> exact key [1,0,0,0,0,0,1,1,0,0,0,0,0,0,0,0,0,0,0,0,0,3,1,0,1,0,0,0,0,1,7,2,1,1,1,3,3,3,3,1,3,3,5,1,1,1,7,7,7,0,0,7,1,7,7,11,11,11,1,11,11,11,11,11,11] 5 rfl (by kernel_rfl)
 ·cases b4 <;> exact key [1,0,0,0,0,0,1,1,0,0,0,0,0,0,0,0,0,0,0,0,0,3,1,0,1,0,0,0,0,1,1,1,1,1,1,1,5,5,5,1,5,5,5,5,5,5] 2 rfl (by kernel_rfl)
 ·exact key [1] 0 rfl (by kernel_rfl)
theorem join_if1 {f t1 t2 c:Nat} {l r:Memo} {vl vh vp va:Value} {T:TJ} :
  HT (C0 w B) h₀ none 100 ⟨[],(f,frJ w T vl vh vp va (.str (S [c]) t1) (vV 1 t2))::l,r⟩ (execsZ [nthS (forBody (innerJ (C0 w B))) 0] (envJ (C0 w B) f))
   (fun fl x'=>fl = .next∧∃ t' v',x'=⟨[],(f,frJ w T vl vh vp va (.str (S (wS c 1)) t') v')::l,r⟩) (fun vz0 vz1=>False):=by
 obtain ⟨b1,b2,b3,b4⟩:=B
 intro b tk
 cases b4 <;> exact HTa.valF N [1,0,0,0,0,0,1,1,0,0,0,1,1,5,5,5,5] [2] 3 [] (fun vz0=>.next) (fun m'=>(f,frJ w T vl vh vp va (.str (S (wS c 1)) (tokV (varAt m' 2 4))) (varAt m' 2 5))::l) (fun vz0=>r) (fun vz0=>[]) (by kernel_rfl) rfl fun m'=>⟨rfl,_,_,rfl⟩
theorem join_if2 {f t1 t2 c:Nat} {l r:Memo} {vl vh vp va:Value} {T:TJ} :
  HT (C0 w B) h₀ none 100 ⟨[],(f,frJ w T vl vh vp va (.str (S [c]) t1) (vV 2 t2))::l,r⟩ (execsZ [nthS (forBody (innerJ (C0 w B))) 0] (envJ (C0 w B) f))
   (fun fl x'=>fl = .next∧∃ t' v' cb ct,x'=⟨chJ (cb+5),(f,frJ w T vl vh vp va (.str (S (wS c 2)) t') v')::l,(cb+5,codeJ cb ct)::r⟩) (fun vz0 vz1=>False):=by
 obtain ⟨b1,b2,b3,b4⟩:=B
 intro b tk
 cases b4 <;> exact HTa.valF N [1,0,0,0,0,0,1,1,0,0,0,0,0,0,0,0,0,0,0,0,0,0,0,0,15,1,0,1,0,0,0,0,1,1,1,1,1,1,1,17,17,17,1,17,17,17,17,17,17] [8] 9 [2] (fun vz0=>.next) (fun m'=>(f,frJ w T vl vh vp va (.str (S (wS c 2)) (tokV (varAt m' 8 4))) (varAt m' 8 5))::l) (fun m'=>(b+5,codeJ b tk)::r) (fun vz0=>chJ (b+5)) (by kernel_rfl) rfl fun m'=>⟨rfl,_,_,_,_,rfl⟩
theorem join_assign {v:Nat} (hv:v<6) {it a at_ e i p f t1 t2 c:Nat} {xs:Array Value} {ch:Ch} {l r:Memo} {vl vh vp vk vv:Value} {T:TJ} :
  HT (C0 w B) h₀ none 100 ⟨ch,(it,iterO a i)::(at_,listO xs e)::(f,frJ w T vl vh vp (.ref at_) vk vv)::l,(p,pairO c v t1 t2)::r⟩ (assignZ (forTarget (innerJ (C0 w B))) (envJ (C0 w B) f) (.ref p))
   (fun vz0 x'=>x'=⟨ch,(f,frJ w T vl vh vp (.ref at_) (.str (S [c]) t1) (vV v t2))::(it,iterO a i)::(at_,listO xs e)::l,(p,pairO c v t1 t2)::r⟩) (fun vz0 vz1=>False):=by
 have hX:=vV_ns v t2
 delta pairO
 generalize vV v t2=X at hX ⊢
 intro b tk
 exact HTa.val N [2,2,2,1,2,1,1,1,1,1,1,2,1,1,1,1,1,1,1,2,1,1,1,1,1,1,1,2,1,1,1,11,11,11,11] [5,3,4] 6 [] (a:=()) (l:=(f,frJ w T vl vh vp (.ref at_) (.str (S [c]) t1) X)::(it,iterO a i)::(at_,listO xs e)::l) (r:=(p,tupO #[.str (S [c]) t1,X])::r) (ch:=ch) (by exact VNS.two hX (by exact Hab.two B (by kernel_rfl) (by kernel_rfl)) fun z t=>by exact Hab.two B (by kernel_rfl) (by kernel_rfl)) rfl rfl
theorem join_assign0 {it a at_ e i p f t1 t2 c tl th tp ta:Nat} {xs:Array Value} {ch:Ch} {l r:Memo} {vl vh vp:Value} :
  HT (C0 w B) h₀ none 100 ⟨ch,(it,iterO a i)::(at_,listO xs e)::(f,frameO #[ent w nLists tl vl,ent w nHeaders th vh,ent w nPairs tp vp,ent w nAttr ta (.ref at_)] 4)::l,(p,pairO c 1 t1 t2)::r⟩ (assignZ (forTarget (innerJ (C0 w B))) (envJ (C0 w B) f) (.ref p))
   (fun vz0 x'=>∃ tk,x'=⟨ch,(f,frJ w ⟨tl,th,tp,ta,tk,tk+1⟩ vl vh vp (.ref at_) (.str (S [c]) t1) (vV 1 t2))::(it,iterO a i)::(at_,listO xs e)::l,(p,pairO c 1 t1 t2)::r⟩) (fun vz0 vz1=>False):=by
 obtain ⟨b1,b2,b3,b4⟩:=B
 intro b tk
 cases b1 <;> exact HTa.val N [2,2,2,1,2,1,1,1,1,1,1,2,1,1,1,1,1,1,1,2,1,1,1,1,1,1,1,2,1,1,1,11,11,11,11] [5,3,4] 6 [] (a:=()) (l:=(f,frJ w ⟨tl,th,tp,ta,tk,tk+1⟩ vl vh vp (.ref at_) (.str (S [c]) t1) (vV 1 t2))::(it,iterO a i)::(at_,listO xs e)::l) (r:=(p,pairO c 1 t1 t2)::r) (ch:=ch) (by kernel_rfl) rfl ⟨tk,rfl⟩
theorem join_letgo {it a i p:Nat} {ch:Ch} {l r:Memo} {Q:Unit→Sx→Prop} (G:Q () ⟨ch,(it,iterO a i)::l,r⟩) :
  HT (C0 w B) h₀ none 100 ⟨ch,(it,iterO a i)::l,r⟩ (letGoZ (forTarget (innerJ (C0 w B))) (.ref it) (.ref p)) Q (fun vz0 vz1=>False):=by
 exact HT.val0 N [1] (a:=()) (by kernel_rfl) G
theorem join_append {it a at_ e i f tt:Nat} {s:Str} {xs:Array Value} {ch:Ch} {l r:Memo} {vl vh vp vv:Value} {T:TJ} (hz:xs.size≤sizeLine) :
  HT (C0 w B) h₀ none 100 ⟨ch,(f,frJ w T vl vh vp (.ref at_) (.str s tt) vv)::(it,iterO a i)::(at_,listO xs e)::l,r⟩ (execsZ [nthS (forBody (innerJ (C0 w B))) 1] (envJ (C0 w B) f))
   (fun fl x'=>fl = .next∧x'=⟨ch,(it,iterO a i)::(at_,listO (xs.push (.str s tt)) (e+1))::(f,frJ w T vl vh vp (.ref at_) (.str s tt) vv)::l,r⟩) (fun vz0 vz1=>False):=by
 intro b tk
 refine HTa.cutN N [1,5,5,5,5,1] [2,1,0] 3 [] (c:=.call (.builtin "list.append") ⟨[.ref at_,.str s tt],[]⟩) (l:=(at_,listO xs e)::(it,iterO a i)::(f,frJ w T vl vh vp (.ref at_) (.str s tt) vv)::l) (r:=r) (ch:=ch) (by kernel_rfl) rfl ?_
 refine HC.append hz fun b2 tk2=>?_
 exact HTa.val N [] [1,0,2] 3 [] (a:=.next) (l:=(it,iterO a i)::(at_,listO (xs.push (.str s tt)) (e+1))::(f,frJ w T vl vh vp (.ref at_) (.str s tt) vv)::l) (r:=r) (ch:=ch) (by kernel_rfl) rfl ⟨rfl,rfl⟩
end
inductive JGen (w:World) (f at_:Addr) (l r0:Memo) (vl vh vp:Value) (ss:List (List Nat)) (y:Sx):Prop
 | mk:∀ xs e cb ct T vk vv r,(y=⟨chJ (cb+5),(at_,listO xs e)::(f,frJ w T vl vh vp (.ref at_) vk vv)::l,r⟩)→((cb+5,codeJ cb ct)∈r)→(Sub r0 r)→(All2 IsText xs.toList ss)→JGen w f at_ l r0 vl vh vp ss y
theorem text_push {xs:Array Value} {ss:List (List Nat)} (h:All2 IsText xs.toList ss) {s:List Nat} {t:Tok}:All2 IsText (xs.push (.str (S s) t)).toList (ss ++ [s]):=by
 rw [Array.toList_push];exact h.snoc ⟨t,rfl⟩
theorem text_size {xs:Array Value} {ss:List (List Nat)} (h:All2 IsText xs.toList ss):xs.size=ss.length:=by rw [←h.length,Array.length_toList]
theorem small_size {n:Nat} (h:n≤1000):n≤sizeLine:=by rw [sizeLine_eq];omega
section
variable {w:World} {B:Hab} {h₀:Heap} (N:NatOk (C0 w B) h₀)
theorem innerJ_body:forBody (innerJ (C0 w B))=[nthS (forBody (innerJ (C0 w B))) 0,nthS (forBody (innerJ (C0 w B))) 1]:=by kernel_rfl
include N
theorem join_body {ss:List (List Nat)} {kv:KV} (hk:Fine kv) {it a at_ i e f t1 t2:Nat} {xs:Array Value} {cb ct:Nat} {l r r0:Memo} {vl vh vp:Value} {T:TJ}
  (hc:(cb+5,codeJ cb ct)∈r) (hr:Sub r0 r) (hx:All2 IsText xs.toList ss) (hn:ss.length≤100) :
  HT (C0 w B) h₀ none 100 ⟨chJ (cb+5),(f,frJ w T vl vh vp (.ref at_) (.str (S [kc kv.1]) t1) (vV kv.2 t2))::(it,iterO a i)::(at_,listO xs e)::l,r⟩ (execsZ (forBody (innerJ (C0 w B))) (envJ (C0 w B) f))
   (fun fl x'=>fl = .next∧∃ y',JGen w f at_ l r0 vl vh vp (ss ++ [wP kv]) y'∧x'=y'.put (it,iterO a i)) (fun vz0 vz1=>False):=by
 rw [innerJ_body]
 refine HT.execs_cons ?_
 refine HT.reads (r:=(cb+5,codeJ cb ct)::r) (Sub.cons hc (Sub.refl _)) ?_
 refine HT.mono (join_if N hk.2) ?_ (fun vz0 vz1 q=>q)
 rintro fl x ⟨rfl,t',v',rfl⟩
 refine HT.mono (join_append N (small_size (by rw [text_size hx];omega))) ?_ (fun vz0 vz1 q=>q)
 rintro fl x ⟨rfl,rfl⟩
 exact ⟨rfl,_,⟨_,_,cb,ct,T,_,_,_,rfl,.head _,hr.trans Sub.tail,text_push hx⟩,rfl⟩
theorem join_inner {f at_ a it:Addr} {l r0:Memo} {vl vh vp:Value} {ps:List KV} (hps:∀ p∈ps,Fine p) (hn:ps.length≤100) {ads:List Addr} {n:Nat} (hl:(a,listO (refs ads) n)∈r0) (hp:All2 (PairAt r0) ads ps)
  {y:Sx} (hy:JGen w f at_ l r0 vl vh vp [] y) :
  HC (C0 w B) h₀ none 100 (y.put (it,iterO a 0)) (loopOf (innerJ (C0 w B)) (.ref it) (envJ (C0 w B) f)) (fun r x'=>r = .ok .next∧JGen w f at_ l r0 vl vh vp (ps.map wP) x'):=by
 have e:loopOf (innerJ (C0 w B)) (.ref it) (envJ (C0 w B) f) = .forLoop (forTarget (innerJ (C0 w B))) (.ref it) (forBody (innerJ (C0 w B))) [] (envJ (C0 w B) f):=by kernel_rfl
 rw [e]
 refine HC.forList (a:=a) (n:=n) (its:=refs ads) (fun i y=>JGen w f at_ l r0 vl vh vp ((ps.take i).map wP) y) ?_ ?_ ?_ hy
 ·rintro i y ⟨xs,e,cb,ct,T,vk,vv,r,rfl,hc,hr,hx⟩
  exact .inr (hr _ hl)
 ·intro y hy
  rw [refs_size,hp.length,List.take_length] at hy
  exact ⟨rfl,hy⟩
 ·rintro i y v ⟨xs,e,cb,ct,T,vk,vv,r,rfl,hc,hr,hx⟩ hv
  refine el_EA (refs_get hv) fun p ha hE2=>?_
  subst hE2
  refine el_EAEE (hp.get ha) fun kv hkv t1 t2 hm=>?_
  have hk:=hps kv (List.mem_of_getElem? hkv)
  refine HT.reads (r:=(p,pairO (kc kv.1) kv.2 t1 t2)::r) (Sub.cons (hr _ hm) (Sub.refl _)) ?_
  refine join_letgo N ?_
  refine HT.mono (join_assign N hk.2) ?_ (fun vz0 vz1 q=>q)
  rintro _ x rfl
  refine HT.mono (join_body N (ss:=(ps.take i).map wP) hk (.tail _ hc) (hr.trans Sub.tail) hx (by rw [List.length_map];exact Nat.le_trans (List.length_take_le' _ _) hn)) ?_ (fun vz0 vz1 q=>q)
  rintro fl x ⟨rfl,y',hy',rfl⟩
  refine ⟨y',?_,rfl⟩
  show JGen w f at_ l r0 vl vh vp ((ps.take (i+1)).map wP) y'
  rw [take_succ_get hkv,List.map_append]
  exact hy'
theorem join_inner0 {f at_ a it:Addr} {l r0:Memo} {vl vh vp:Value} {ps:List KV} (hps:∀ p∈ps,Fine p) (hn:ps.length≤98) {ads:List Addr} {n:Nat} (hl:(a,listO (refs ads) n)∈r0) {k1 k2:Nat} (h1:k1<4) (h2:k2<4) (hp:All2 (PairAt r0) ads ((k1,1)::(k2,2)::ps)) {tl th tp ta:Nat} :
  HC (C0 w B) h₀ none 100 ⟨[],(it,iterO a 0)::(at_,listO #[] 0)::(f,frameO #[ent w nLists tl vl,ent w nHeaders th vh,ent w nPairs tp vp,ent w nAttr ta (.ref at_)] 4)::l,r0⟩ (loopOf (innerJ (C0 w B)) (.ref it) (envJ (C0 w B) f)) (fun r x'=>r = .ok .next∧JGen w f at_ l r0 vl vh vp (((k1,1)::(k2,2)::ps).map wP) x'):=by
 have e:loopOf (innerJ (C0 w B)) (.ref it) (envJ (C0 w B) f) = .forLoop (forTarget (innerJ (C0 w B))) (.ref it) (forBody (innerJ (C0 w B))) [] (envJ (C0 w B) f):=by kernel_rfl
 rw [e]
 refine HC.forL1 (y0:=⟨[],(at_,listO #[] 0)::(f,frameO #[ent w nLists tl vl,ent w nHeaders th vh,ent w nPairs tp vp,ent w nAttr ta (.ref at_)] 4)::l,r0⟩) (a:=a) (n:=n) (its:=refs ads) (@Nat.rec (fun vz0=>Sx→Prop) (fun y=>∃ xs e T vk vv r,y=⟨[],(at_,listO xs e)::(f,frJ w T vl vh vp (.ref at_) vk vv)::l,r⟩∧Sub r0 r∧All2 IsText xs.toList [wP (k1,1)]) fun i vz0 y=>JGen w f at_ l r0 vl vh vp ((((k1,1)::(k2,2)::ps).take (i+2)).map wP) y) (.inr hl) ?_ ((refs_size ads).trans hp.length) ?_ ?_ ?_
 ·intro i y hy
  cases i with
  | zero =>
   refine el_EEEEEEAA hy fun xs e T vk vv r e' hr hx=>?_
   subst e'
   exact .inr (hr _ hl)
  | succ i =>
   obtain ⟨xs,e,cb,ct,T,vk,vv,r,e',hc,hr,hx⟩:=hy
   subst e'
   exact .inr (hr _ hl)
 ·intro y hy
  have hy':JGen w f at_ l r0 vl vh vp ((((k1,1)::(k2,2)::ps).take (ps.length+2)).map wP) y:=hy
  rw [show ps.length+2=((k1,1)::(k2,2)::ps).length from rfl,List.take_length] at hy'
  exact ⟨rfl,hy'⟩
 ·intro v hv
  refine el_EA (refs_get hv) fun p ha hE2=>?_
  subst hE2
  refine el_EAEE (hp.get ha) fun kv hkv t1 t2 hm=>?_
  cases hkv
  refine HT.reads (r:=(p,pairO (kc k1) 1 t1 t2)::r0) (Sub.cons hm (Sub.refl _)) ?_
  refine join_letgo N ?_
  refine HT.mono (join_assign0 N) ?_ (fun vz0 vz1 q=>q)
  rintro _ x ⟨tk,rfl⟩
  rw [innerJ_body]
  refine HT.execs_cons ?_
  refine HT.mono (join_if1 N) ?_ (fun vz0 vz1 q=>q)
  rintro fl x ⟨rfl,t',v',rfl⟩
  refine HT.mono (join_append N (small_size (by decide))) ?_ (fun vz0 vz1 q=>q)
  rintro fl x ⟨rfl,rfl⟩
  exact ⟨_,⟨_,_,_,_,_,_,rfl,Sub.tail,.cons ⟨t',rfl⟩ .nil⟩,rfl⟩
 ·intro i y v hy hv
  refine el_EA (refs_get hv) fun p ha hE2=>?_
  subst hE2
  refine el_EAEE (hp.get ha) fun kv hkv t1 t2 hm=>?_
  cases i with
  | zero =>
   refine el_EEEEEEAA hy fun xs e T vk vv r e' hr hx=>?_
   clear hy
   subst e'
   cases hkv
   refine HT.reads (r:=(p,pairO (kc k2) 2 t1 t2)::r) (Sub.cons (hr _ hm) (Sub.refl _)) ?_
   refine join_letgo N ?_
   refine HT.mono (join_assign N (by decide)) ?_ (fun vz0 vz1 q=>q)
   rintro _ x rfl
   rw [innerJ_body]
   refine HT.execs_cons ?_
   refine HT.mono (join_if2 N) ?_ (fun vz0 vz1 q=>q)
   rintro fl x ⟨rfl,t',v',cb,ct,rfl⟩
   refine HT.mono (join_append N (small_size (by rw [text_size hx];show 1≤1000;omega))) ?_ (fun vz0 vz1 q=>q)
   rintro fl x ⟨rfl,rfl⟩
   exact ⟨_,⟨_,_,cb,ct,T,_,_,_,rfl,.head _,hr.trans (Sub.tail.trans Sub.tail),text_push hx⟩,rfl⟩
  | succ i =>
   obtain ⟨xs,e,cb,ct,T,vk,vv,r,e',hc,hr,hx⟩:=hy
   subst e'
   have hkv':ps[i]? = some kv:=hkv
   have hk:=hps kv (List.mem_of_getElem? hkv')
   refine HT.reads (r:=(p,pairO (kc kv.1) kv.2 t1 t2)::r) (Sub.cons (hr _ hm) (Sub.refl _)) ?_
   refine join_letgo N ?_
   refine HT.mono (join_assign N hk.2) ?_ (fun vz0 vz1 q=>q)
   rintro _ x rfl
   refine HT.mono (join_body N hk (.tail _ hc) (hr.trans Sub.tail) hx (by rw [List.length_map];exact Nat.le_trans (List.length_take_le' _ _) (by simp only [List.length_cons];omega))) ?_ (fun vz0 vz1 q=>q)
   rintro fl x ⟨rfl,y',hy',rfl⟩
   refine ⟨y',?_,rfl⟩
   show JGen w f at_ l r0 vl vh vp ((((k1,1)::(k2,2)::ps).take (i+2+1)).map wP) y'
   rw [take_succ_get hkv,List.map_append]
   exact hy'
end
inductive JOut (w:World) (f hs_ a:Addr) (l r0:Memo) (ss:List (List Nat)) (y:Sx):Prop
 | mk:∀ xs e cb ct T vp att vk vv r,(y=⟨chJ (cb+5),(hs_,listO xs e)::(f,frJ w T (.ref a) (.ref hs_) vp (.ref att) vk vv)::l,r⟩)→((cb+5,codeJ cb ct)∈r)→(Sub r0 r)→(All2 IsText xs.toList ss)→JOut w f hs_ a l r0 ss y
noncomputable def wL (ps:List KV):List Nat:=joinN [59,32] (ps.map wP)
noncomputable def header (L:List (List KV)):List Nat:=joinN [44,32] (L.map wL)
theorem wS_le (c:Nat):∀ v,(wS c v).length≤1000
 | 0 | 1 | 2 | 3 | 4=>by simp [wS]
 | _+5=>by simp [wS]
theorem wP_le (p:KV):(wP p).length≤1000:=wS_le _ _
noncomputable abbrev frJ4 (w:World) (tl th tp ta:Tok) (vl vh vp va:Value):Obj:=frameO #[ent w nLists tl vl,ent w nHeaders th vh,ent w nPairs tp vp,ent w nAttr ta va] 4
section
variable {w:World} {B:Hab} {h₀:Heap} (N:NatOk (C0 w B) h₀)
theorem outerJ_body:forBody (outerJ (C0 w B))=[nthS (forBody (outerJ (C0 w B))) 0,nthS (forBody (outerJ (C0 w B))) 1,nthS (forBody (outerJ (C0 w B))) 2]:=by kernel_rfl
include N
theorem join_tail {it a p i f hs_ att e2 e:Nat} {ch:Ch} {l r:Memo} {vl vk vv:Value} {T:TJ} {xs xs2:Array Value} {ss:List (List Nat)} (hx:All2 IsText xs2.toList ss) (h0:ss≠[]) (hb:∀ s∈ss,s.length≤1000) (hn:ss.length≤100) (hz:xs.size≤sizeLine) :
  HT (C0 w B) h₀ none 100 ⟨ch,(att,listO xs2 e2)::(f,frJ w T vl (.ref hs_) (.ref p) (.ref att) vk vv)::(it,iterO a i)::(hs_,listO xs e)::l,r⟩ (execsZ [nthS (forBody (outerJ (C0 w B))) 2] (envJ (C0 w B) f))
   (fun fl x'=>fl = .next∧∃ t,x'=⟨ch,(it,iterO a i)::(hs_,listO (xs.push (.str (S (joinN [59,32] ss)) t)) (e+1))::(f,frJ w T vl (.ref hs_) (.ref p) (.ref att) vk vv)::l,r⟩) (fun vz0 vz1=>False):=by
 obtain ⟨vs⟩:=xs2
 cases vs with
 | nil=>cases hx;exact absurd rfl h0
 | cons v0 vs =>
  refine HT.cut0 N [3,1,1] (c:=.builtin "len" ⟨[.ref att],[]⟩) (by kernel_rfl) fun b tk=>?_
  refine HC.lenL (n:=e2) (.inl (.head _)) (by have:=hx.length;show (v0::vs).length≤_;have:(v0::vs).length=ss.length:=this;lia) fun t=>?_
  intro b2 tk2
  refine HTa.cutN N [3,7,7,7,7,3] [0,1,2,3] 4 [] (c:=.call (.builtin "str.join") ⟨[.str (S [59,32]) tk2,.ref att],[]⟩) (l:=(att,listO ⟨v0::vs⟩ e2)::(f,frJ w T vl (.ref hs_) (.ref p) (.ref att) vk vv)::(it,iterO a i)::(hs_,listO xs e)::l) (r:=r) (ch:=ch) (by kernel_rfl) rfl ?_
  refine HC.joinL (ss:=ss) (n:=e2) (.inl (.head _)) hx hb hn (by decide) fun t=>?_
  intro b3 tk3
  refine HTa.cutN N [] [3,0,1,2] 4 [] (c:=.call (.builtin "list.append") ⟨[.ref hs_,.str (S (joinN [59,32] ss)) t],[]⟩) (l:=(hs_,listO xs e)::(att,listO ⟨v0::vs⟩ e2)::(f,frJ w T vl (.ref hs_) (.ref p) (.ref att) vk vv)::(it,iterO a i)::l) (r:=r) (ch:=ch) (by kernel_rfl) rfl ?_
  refine HC.append hz fun b4 tk4=>?_
  exact HTa.val N [] [3,0,2] 4 [] (a:=.next) (l:=(it,iterO a i)::(hs_,listO (xs.push (.str (S (joinN [59,32] ss)) t)) (e+1))::(f,frJ w T vl (.ref hs_) (.ref p) (.ref att) vk vv)::l) (r:=r) (ch:=ch) (by kernel_rfl) rfl ⟨rfl,t,rfl⟩
theorem join_for {it a p i f hs_ att e n:Nat} {cb ct:Nat} {l r r0:Memo} {vl vk vv:Value} {T:TJ} {xs:Array Value} {ads:List Addr} {ps:List KV}
  (hc:(cb+5,codeJ cb ct)∈r) (hr:Sub r0 r) (hl:(p,listO (refs ads) n)∈r0) (hp:All2 (PairAt r0) ads ps) (hps:∀ p∈ps,Fine p) (hn:ps.length≤100) :
  HT (C0 w B) h₀ none 100 ⟨chJ (cb+5),(att,listO #[] 0)::(f,frJ w T vl (.ref hs_) (.ref p) (.ref att) vk vv)::(it,iterO a i)::(hs_,listO xs e)::l,r⟩ (execsZ [nthS (forBody (outerJ (C0 w B))) 1] (envJ (C0 w B) f))
   (fun fl x'=>fl = .next∧JGen w f att ((it,iterO a i)::(hs_,listO xs e)::l) r0 vl (.ref hs_) (.ref p) (ps.map wP) x') (fun vz0 vz1=>False):=by
 refine HT.reads (r:=(p,listO (refs ads) n)::r) (Sub.cons (hr _ hl) (Sub.refl _)) ?_
 intro b tk
 have H:∀ (k:Result→Sem Flow) ,(∀ x,HT (C0 w B) h₀ none 100 x (k (.ok .next)) (fun fl x'=>fl = .next∧x'=x) (fun vz0 vz1=>False)) →
   HC (C0 w B) h₀ none 100 ⟨chJ (cb+5),(b,iterO p 0)::(att,listO #[] 0)::(f,frJ w T vl (.ref hs_) (.ref p) (.ref att) vk vv)::(it,iterO a i)::(hs_,listO xs e)::l,(p,listO (refs ads) n)::r⟩ (loopOf (innerJ (C0 w B)) (.ref b) (envJ (C0 w B) f))
    (fun r x=>HT (C0 w B) h₀ none 100 x (k r) (fun fl x'=>fl = .next∧JGen w f att ((it,iterO a i)::(hs_,listO xs e)::l) r0 vl (.ref hs_) (.ref p) (ps.map wP) x') (fun vz0 vz1=>False)):=by
  intro k hk
  refine HC.mono (join_inner N hps hn hl hp (y:=⟨chJ (cb+5),(att,listO #[] 0)::(f,frJ w T vl (.ref hs_) (.ref p) (.ref att) vk vv)::(it,iterO a i)::(hs_,listO xs e)::l,(p,listO (refs ads) n)::r⟩) ⟨_,_,cb,ct,T,_,_,_,rfl,.tail _ hc,hr.trans Sub.tail,.nil⟩) ?_
  intro r' x hZ0
  refine el_A hZ0 fun hE1 hx=>?_
  try clear hZ0
  subst hE1
  refine HT.mono (hk x) ?_ (fun vz0 vz1 q=>q)
  intro fl x' hZ0
  refine el_A hZ0 fun hE1 hE2=>?_
  try clear hZ0
  subst hE1
  subst hE2
  exact ⟨rfl,hx⟩
 exact HTa.cutN N [3,2,2,1,2,1] [0,1,2,3,4] 5 [] (c:=loopOf (innerJ _) (.ref b) (envJ _ f)) (l:=(b,iterO p 0)::(att,listO #[] 0)::(f,frJ w T vl (.ref hs_) (.ref p) (.ref att) vk vv)::(it,iterO a i)::(hs_,listO xs e)::l) (r:=(p,listO (refs ads) n)::r) (ch:=chJ (cb+5)) (by exact Hab.two B (by kernel_rfl) (by kernel_rfl)) rfl (H _ fun x b tk=>HTa.val N [] [] 0 [] (a:=.next) (l:=x.l) (r:=x.r) (ch:=x.ch) (by exact Hab.two B (by kernel_rfl) (by kernel_rfl)) rfl ⟨rfl,rfl⟩)
theorem join_for0 {it a p i f hs_ att e n tl th tp ta:Nat} {l r0:Memo} {vl:Value} {xs:Array Value} {ads:List Addr} {ps:List KV} {k1 k2:Nat}
  (hl:(p,listO (refs ads) n)∈r0) (h1:k1<4) (h2:k2<4) (hp:All2 (PairAt r0) ads ((k1,1)::(k2,2)::ps)) (hps:∀ p∈ps,Fine p) (hn:ps.length≤98) :
  HT (C0 w B) h₀ none 100 ⟨[],(att,listO #[] 0)::(f,frJ4 w tl th tp ta vl (.ref hs_) (.ref p) (.ref att))::(it,iterO a i)::(hs_,listO xs e)::l,r0⟩ (execsZ [nthS (forBody (outerJ (C0 w B))) 1] (envJ (C0 w B) f))
   (fun fl x'=>fl = .next∧JGen w f att ((it,iterO a i)::(hs_,listO xs e)::l) r0 vl (.ref hs_) (.ref p) (((k1,1)::(k2,2)::ps).map wP) x') (fun vz0 vz1=>False):=by
 refine HT.reads (r:=(p,listO (refs ads) n)::r0) (Sub.cons hl (Sub.refl _)) ?_
 intro b tk
 have H:∀ (k:Result→Sem Flow) ,(∀ x,HT (C0 w B) h₀ none 100 x (k (.ok .next)) (fun fl x'=>fl = .next∧x'=x) (fun vz0 vz1=>False)) →
   HC (C0 w B) h₀ none 100 ⟨[],(b,iterO p 0)::(att,listO #[] 0)::(f,frJ4 w tl th tp ta vl (.ref hs_) (.ref p) (.ref att))::(it,iterO a i)::(hs_,listO xs e)::l,(p,listO (refs ads) n)::r0⟩ (loopOf (innerJ (C0 w B)) (.ref b) (envJ (C0 w B) f))
    (fun r x=>HT (C0 w B) h₀ none 100 x (k r) (fun fl x'=>fl = .next∧JGen w f att ((it,iterO a i)::(hs_,listO xs e)::l) r0 vl (.ref hs_) (.ref p) (((k1,1)::(k2,2)::ps).map wP) x') (fun vz0 vz1=>False)):=by
  intro k hk
  refine HC.reads (r:=r0) Sub.tail ?_
  refine HC.mono (join_inner0 N hps hn hl h1 h2 hp) ?_
  intro r' x hZ0
  refine el_A hZ0 fun hE1 hx=>?_
  try clear hZ0
  subst hE1
  refine HT.mono (hk x) ?_ (fun vz0 vz1 q=>q)
  intro fl x' hZ0
  refine el_A hZ0 fun hE1 hE2=>?_
  try clear hZ0
  subst hE1
  subst hE2
  exact ⟨rfl,hx⟩
 exact HTa.cutN N [3,2,2,1,2,1] [0,1,2,3,4] 5 [] (c:=loopOf (innerJ _) (.ref b) (envJ _ f)) (l:=(b,iterO p 0)::(att,listO #[] 0)::(f,frJ4 w tl th tp ta vl (.ref hs_) (.ref p) (.ref att))::(it,iterO a i)::(hs_,listO xs e)::l) (r:=(p,listO (refs ads) n)::r0) (ch:=[]) (by exact Hab.two B (by kernel_rfl) (by kernel_rfl)) rfl (H _ fun x b tk=>HTa.val N [] [] 0 [] (a:=.next) (l:=x.l) (r:=x.r) (ch:=x.ch) (by exact Hab.two B (by kernel_rfl) (by kernel_rfl)) rfl ⟨rfl,rfl⟩)
theorem join_outer {f hs_ a it tl th:Addr} {l r0:Memo} {k1 k2:Nat} {ps1:List KV} {L:List (List KV)} (h1:k1<4) (h2:k2<4) (hps1:∀ p∈ps1,Fine p) (hn1:ps1.length≤98) (hL:∀ ps∈L,(∀ p∈ps,Fine p)∧ps≠[]∧ps.length≤100) (hn:L.length≤98)
  {ads:List Addr} {n:Nat} (hl:(a,listO (refs ads) n)∈r0) (hp:All2 (PairsAt r0) ads (((k1,1)::(k2,2)::ps1)::L)) :
  HC (C0 w B) h₀ none 100 ⟨[],(it,iterO a 0)::(hs_,listO #[] 0)::(f,frameO #[ent w nLists tl (.ref a),ent w nHeaders th (.ref hs_)] 2)::l,r0⟩ (loopOf (outerJ (C0 w B)) (.ref it) (envJ (C0 w B) f)) (fun r x'=>r = .ok .next∧JOut w f hs_ a l r0 ((((k1,1)::(k2,2)::ps1)::L).map wL) x'):=by
 have e:loopOf (outerJ (C0 w B)) (.ref it) (envJ (C0 w B) f) = .forLoop (forTarget (outerJ (C0 w B))) (.ref it) (forBody (outerJ (C0 w B))) [] (envJ (C0 w B) f):=by kernel_rfl
 rw [e]
 have letgo:∀ {p i:Nat} {x:Sx} {Q:Unit→Sx→Prop},Q () x→HT (C0 w B) h₀ none 100 x (letGoZ (forTarget (outerJ (C0 w B))) (.ref it) (.ref p)) Q (fun vz0 vz1=>False):=fun {p i x Q} q b tk =>
  HTa.val N [] [] 0 [] (a:=()) (l:=x.l) (r:=x.r) (ch:=x.ch) (by kernel_rfl) rfl q
 refine HC.forL1 (y0:=⟨[],(hs_,listO #[] 0)::(f,frameO #[ent w nLists tl (.ref a),ent w nHeaders th (.ref hs_)] 2)::l,r0⟩) (a:=a) (n:=n) (its:=refs ads) (fun i y=>JOut w f hs_ a l r0 (((((k1,1)::(k2,2)::ps1)::L).take (i+1)).map wL) y) (.inr hl) ?_ ((refs_size ads).trans hp.length) ?_ ?_ ?_
 ·intro i y hy
  obtain ⟨xs,e,cb,ct,T,vp,att,vk,vv,r,e',hc,hr,hx⟩:=hy
  subst e'
  exact .inr (hr _ hl)
 ·intro y hy'
  rw [show L.length+1=(((k1,1)::(k2,2)::ps1)::L).length from rfl,List.take_length] at hy'
  exact ⟨rfl,hy'⟩
 ·intro v hv
  refine el_EA (refs_get hv) fun p ha hE2=>?_
  subst hE2
  obtain ⟨ps,hkv,ads2,n2,hm,hal⟩:=(hp.get ha)
  cases hkv
  refine letgo (i:=0) ?_
  intro b tk
  refine HTa.val N [5,5] [0,1,2] 3 [] (a:=()) (l:=(it,iterO a 1)::(hs_,listO #[] 0)::(f,frameO #[ent w nLists tl (.ref a),ent w nHeaders th (.ref hs_),ent w nPairs tk (.ref p)] 3)::l) (r:=r0) (ch:=[]) (by kernel_rfl) rfl ?_
  rw [outerJ_body]
  refine HT.execs_cons ?_
  intro b2 tk2
  refine HTa.val N [7,7] [0,3,1,2] 4 [] (a:=.next) (l:=(b2,listO #[] 0)::(f,frJ4 w tl th tk tk2 (.ref a) (.ref hs_) (.ref p) (.ref b2))::(it,iterO a 1)::(hs_,listO #[] 0)::l) (r:=r0) (ch:=[]) (by kernel_rfl) rfl ?_
  refine HT.execs_cons ?_
  refine HT.mono (join_for0 N hm h1 h2 hal hps1 hn1) ?_ (fun vz0 vz1 q=>q)
  intro fl x hZ0
  obtain ⟨hE1,xs2,e2,cb,ct,T,vk,vv,r,hE2,hc,hr,hx⟩:=hZ0
  subst hE1
  subst hE2
  refine HT.mono (join_tail N hx (by simp) (fun s hs=>by obtain ⟨p,_,rfl⟩:=List.mem_map.mp hs;exact wP_le p) (by simp only [List.map_cons,List.length_cons,List.length_map];lia) (small_size (by decide))) ?_ (fun vz0 vz1 q=>q)
  intro fl x hZ0
  refine el_AE hZ0 fun hE1 t hE2=>?_
  try clear hZ0
  subst hE1
  subst hE2
  exact ⟨_,⟨_,_,cb,ct,T,_,_,_,_,_,rfl,hc,hr,.cons ⟨t,rfl⟩ .nil⟩,rfl⟩
 ·intro i y v hy hv
  refine el_EA (refs_get hv) fun p ha hE2=>?_
  subst hE2
  obtain ⟨ps,hkv,ads2,n2,hm,hal⟩:=(hp.get ha)
  obtain ⟨xs,e,cb,ct,T,vp,att,vk,vv,r,e',hc,hr,hx⟩:=hy
  subst e'
  have hkv':L[i]? = some ps:=hkv
  refine el_AA (hL ps (List.mem_of_getElem? hkv')) fun hf1 hf2 hf3=>?_
  refine letgo (i:=0) ?_
  intro b tk
  refine HTa.val N [5,5] [0,1,2] 3 [] (a:=()) (l:=(it,iterO a (i+1+1))::(hs_,listO xs e)::(f,frJ w T (.ref a) (.ref hs_) (.ref p) (.ref att) vk vv)::l) (r:=r) (ch:=chJ (cb+5)) (by kernel_rfl) rfl ?_
  rw [outerJ_body]
  refine HT.execs_cons ?_
  intro b2 tk2
  refine HTa.val N [7,7] [0,3,1,2] 4 [] (a:=.next) (l:=(b2,listO #[] 0)::(f,frJ w T (.ref a) (.ref hs_) (.ref p) (.ref b2) vk vv)::(it,iterO a (i+1+1))::(hs_,listO xs e)::l) (r:=r) (ch:=chJ (cb+5)) (by kernel_rfl) rfl ?_
  refine HT.execs_cons ?_
  refine HT.mono (join_for N hc hr hm hal hf1 hf3) ?_ (fun vz0 vz1 q=>q)
  intro fl x hZ0
  obtain ⟨hE1,xs2,e2,cb,ct,T,vk,vv,r',hE2,hc,hr',hx2⟩:=hZ0
  subst hE1
  subst hE2
  have hxs:xs.size≤sizeLine:=small_size (by rw [text_size hx,List.length_map];exact Nat.le_trans (List.length_take_le' _ _) (by simp only [List.length_cons];lia))
  refine HT.mono (join_tail N hx2 (by simpa using hf2) (fun s hs=>by obtain ⟨p,_,rfl⟩:=List.mem_map.mp hs;exact wP_le p) (by rw [List.length_map];exact hf3) hxs) ?_ (fun vz0 vz1 q=>q)
  intro fl x hZ0
  refine el_AE hZ0 fun hE1 t hE2=>?_
  try clear hZ0
  subst hE1
  subst hE2
  refine ⟨⟨_,_,_⟩,?_,rfl⟩
  show JOut w f hs_ a l r0 (((((k1,1)::(k2,2)::ps1)::L).take (i+1+1)).map wL) _
  rw [take_succ_get hkv,List.map_append]
  exact ⟨_,_,cb,ct,T,_,_,_,_,_,rfl,hc,hr',text_push hx⟩
end
noncomputable def topObj (C:Cfg) (a:Addr):Obj:=match C.kt.get a with
 | some o=>o
 | none=>default
section
variable {w:World} {B:Hab} {h₀:Heap} (N:NatOk (C0 w B) h₀)
theorem joinS_body:stmts (C0 w B) 87=[nthS (stmts (C0 w B) 87) 0,outerJ (C0 w B),nthS (stmts (C0 w B) 87) 2]:=by kernel_rfl
include N
theorem join_call {a:Addr} {l r:Memo} {k1 k2:Nat} {ps1:List KV} {L:List (List KV)} {R:Result→Sx→Prop} (h1:k1<4) (h2:k2<4) (hps1:∀ p∈ps1,Fine p) (hn1:ps1.length≤98) (hL:∀ ps∈L,(∀ p∈ps,Fine p)∧ps≠[]∧ps.length≤100) (hn:L.length≤98)
  (hw:∀ s∈(((k1,1)::(k2,2)::ps1)::L).map wL,s.length≤1000)
  (hp:ListsAt r a (((k1,1)::(k2,2)::ps1)::L))
  (G:∀ t cb r',Sub r r'→R (.ok (.ret (.str (S (header (((k1,1)::(k2,2)::ps1)::L))) t))) ⟨chJ (cb+5),l,r'⟩):HC (C0 w B) h₀ none 102 ⟨[],l,r⟩ (.call (.ref 87) ⟨[.ref a],[]⟩) R:=by
 obtain ⟨ads,n,hl,hal⟩:=hp
 refine HC.enter N (lv:=101) (o:=topObj (C0 w B) 87) [0,1,1] [0] 1 [] 0 (by kernel_rfl) (by kernel_rfl) fun b tk=>?_
 refine ⟨envJ (C0 w B) b,(b,frameO #[ent w nLists tk (.ref a)] 1)::l,r,[],by kernel_rfl,rfl,?_⟩
 have e:bodyCode (fdAt (some (topObj (C0 w B) 87))) (envJ (C0 w B) b) = .func (stmts (C0 w B) 87) (envJ (C0 w B) b):=by kernel_rfl
 rw [e]
 refine HC.func (lv:=100) ?_
 rw [joinS_body]
 refine HT.execs_cons ?_
 intro b2 tk2
 refine HTa.val N [3,3] [0,1] 2 [] (a:=.next) (l:=(b2,listO #[] 0)::(b,frameO #[ent w nLists tk (.ref a),ent w nHeaders tk2 (.ref b2)] 2)::l) (r:=r) (ch:=[]) (by kernel_rfl) rfl ?_
 refine HT.execs_cons ?_
 refine HT.mono (Q:=fun fl x'=>fl = .next∧JOut w b b2 a l r ((((k1,1)::(k2,2)::ps1)::L).map wL) x') ?_ ?_ (fun vz0 vz1 q=>q)
 ·refine HT.reads (r:=(a,listO (refs ads) n)::r) (Sub.cons hl (Sub.refl _)) ?_
  intro b5 tk5
  have H:∀ (k:Result→Sem Flow) ,(∀ x,HT (C0 w B) h₀ none 100 x (k (.ok .next)) (fun fl x'=>fl = .next∧x'=x) (fun vz0 vz1=>False)) →
    HC (C0 w B) h₀ none 100 ⟨[],(b5,iterO a 0)::(b2,listO #[] 0)::(b,frameO #[ent w nLists tk (.ref a),ent w nHeaders tk2 (.ref b2)] 2)::l,(a,listO (refs ads) n)::r⟩ (loopOf (outerJ (C0 w B)) (.ref b5) (envJ (C0 w B) b))
     (fun r' x=>HT (C0 w B) h₀ none 100 x (k r') (fun fl x'=>fl = .next∧JOut w b b2 a l r ((((k1,1)::(k2,2)::ps1)::L).map wL) x') (fun vz0 vz1=>False)):=by
   intro k hk
   refine HC.reads (r:=r) Sub.tail ?_
   refine HC.mono (join_outer N h1 h2 hps1 hn1 hL hn hl hal) ?_
   intro r' x hZ0
   refine el_A hZ0 fun hE1 hx=>?_
   try clear hZ0
   subst hE1
   refine HT.mono (hk x) ?_ (fun vz0 vz1 q=>q)
   intro fl x' hZ0
   refine el_A hZ0 fun hE1 hE2=>?_
   try clear hZ0
   subst hE1
   subst hE2
   exact ⟨rfl,hx⟩
  exact HTa.cutN N [3,2,2,1,2,1] [0,1,2] 3 [] (c:=loopOf (outerJ _) (.ref b5) (envJ _ b)) (l:=(b5,iterO a 0)::(b2,listO #[] 0)::(b,frameO #[ent w nLists tk (.ref a),ent w nHeaders tk2 (.ref b2)] 2)::l) (r:=(a,listO (refs ads) n)::r) (ch:=[]) (by exact Hab.two B (by kernel_rfl) (by kernel_rfl)) rfl (H _ fun x b tk=>HTa.val N [] [] 0 [] (a:=.next) (l:=x.l) (r:=x.r) (ch:=x.ch) (by exact Hab.two B (by kernel_rfl) (by kernel_rfl)) rfl ⟨rfl,rfl⟩)
 ·intro fl x hZ0
  obtain ⟨hE1,xs,e,cb,ct,T,vp,att,vk,vv,r',hE2,hc,hr,hx⟩:=hZ0
  subst hE1
  subst hE2
  intro b6 tk6
  refine HTa.cutN N [3,3,3,3,3] [0,1] 2 [] (c:=.call (.builtin "str.join") ⟨[.str (S [44,32]) tk6,.ref b2],[]⟩) (l:=(b2,listO xs e)::(b,frJ w T (.ref a) (.ref b2) vp (.ref att) vk vv)::l) (r:=r') (ch:=chJ (cb+5)) (by kernel_rfl) rfl ?_
  refine HC.joinL (ss:=(((k1,1)::(k2,2)::ps1)::L).map wL) (n:=e) (.inl (.head _)) hx hw (by rw [List.length_map,List.length_cons];lia) (by decide) fun t=>?_
  intro b7 tk7
  exact HTa.val N [] [] 2 [] (a:=.ret (.str (S (header (((k1,1)::(k2,2)::ps1)::L))) t)) (l:=l) (r:=r') (ch:=chJ (cb+5)) (by kernel_rfl) rfl (G t cb r' hr)
end
noncomputable abbrev matchO (T:List Nat) (t:Tok) (pat:Addr) (lim:Nat) (sp:Addr):Obj:={ cls:=.type "re.Match",data:=.fields #[.str (S T) t,.ref pat,.int 0 0,.int lim 0,.int 1 0,.ref sp] }
noncomputable abbrev spO (n b e:Nat):Obj:=tupO #[.int 0 0,.int n 0,.int b 0,.int e 0]
noncomputable abbrev qUm:Str:=S [117,110,109,97,116,99,104,101,100,46,60,108,111,99,97,108,115,62,46]
noncomputable abbrev envUm (C:Cfg) (f:Addr):PySem.Env:=envA C 43 [] qUm f
noncomputable abbrev nMatch:Str:=S [109,97,116,99,104]
noncomputable abbrev frUm (w:World) (m t2 t3 t4 t5 t6:Nat) (n:Nat):Obj:=frameO #[ent w nMatch t2 (.ref m),ent w (S [115,116,97,114,116]) t3 (.int 0 t4),ent w (S [101,110,100]) t5 (.int n t6)] 3
section
variable {w:World} {B:Hab} {h₀:Heap} (N:NatOk (C0 w B) h₀)
theorem stmtsUm:stmts (C0 w B) 43=[nthS (stmts (C0 w B) 43) 0,nthS (stmts (C0 w B) 43) 1]:=by kernel_rfl
include N
theorem um_s0 {f t2 m sp c0 t1 pat lim n bb ee:Nat} {T:List Nat} {l r:Memo} {ch:Ch}:HT (C0 w B) h₀ none 100 ⟨ch,(f,frameO #[ent w nMatch t2 (.ref m)] 1)::l,(m,matchO (c0::T) t1 pat lim sp)::(sp,spO n bb ee)::r⟩ (execsZ [nthS (stmts (C0 w B) 43) 0] (envUm (C0 w B) f))
  (fun fl x'=>fl = .next∧∃ t3 t4 t5 t6,x'=⟨ch,(f,frUm w m t2 t3 t4 t5 t6 n)::l,(m,matchO (c0::T) t1 pat lim sp)::(sp,spO n bb ee)::r⟩) (fun vz0 vz1=>False):=by
 intro b tk
 exact HTa.valF N [1,2,2,2,2,1,2,2,4,1,1,1,1,1,1,1,1,1,1,1,3,1,1,1,1,1,1,1,3,1,1,1,1,1,1,1,3,1,1,1,9,9,9,9] [4] 5 [] (fun vz0=>.next) (fun m'=>(f,frUm w m t2 (keyTok m' 4 1) (tokV (varAt m' 4 1)) (keyTok m' 4 2) (tokV (varAt m' 4 2)) n)::l) (fun vz0=>(m,matchO (c0::T) t1 pat lim sp)::(sp,spO n bb ee)::r) (fun vz0=>ch) (by exact Hab.two B (by kernel_rfl) (by kernel_rfl)) rfl fun m'=>⟨rfl,_,_,_,_,rfl⟩
theorem um_call {m sp c0 t1 pat lim n bb ee:Nat} {T:List Nat} {l r:Memo} {ch:Ch} {R:Result→Sx→Prop} (hm:(m,matchO (c0::T) t1 pat lim sp)∈r) (hs:(sp,spO n bb ee)∈r) (hn:n≤T.length+1) (hT:T.length≤900000)
  (G:∀ t',R (.ok (.ret (.str (S ((c0::T).drop n)) t'))) ⟨ch,l,r⟩):HC (C0 w B) h₀ none 102 ⟨ch,l,r⟩ (.call (.ref 43) ⟨[.ref m],[]⟩) R:=by
 refine HC.enter N (lv:=101) (o:=topObj (C0 w B) 43) [0,1,1] [0] 1 [] 0 (by kernel_rfl) (by kernel_rfl) fun b tk=>?_
 refine ⟨envUm (C0 w B) b,(b,frameO #[ent w nMatch tk (.ref m)] 1)::l,r,ch,by kernel_rfl,rfl,?_⟩
 have e:bodyCode (fdAt (some (topObj (C0 w B) 43))) (envUm (C0 w B) b) = .func (stmts (C0 w B) 43) (envUm (C0 w B) b):=by kernel_rfl
 rw [e]
 refine HC.func (lv:=100) ?_
 rw [stmtsUm]
 refine HT.execs_cons ?_
 refine HT.reads (r:=(m,matchO (c0::T) t1 pat lim sp)::(sp,spO n bb ee)::r) (Sub.cons hm (Sub.cons hs (Sub.refl _))) ?_
 refine HT.mono (um_s0 N) ?_ (fun vz0 vz1 q=>q)
 intro fl x hZ0
 refine el_AEEEE hZ0 fun hE1 t3 t4 t5 t6 hE2=>?_
 try clear hZ0
 subst hE1
 subst hE2
 intro b' tk'
 have key:∀ (k:Result→Sem Flow),(∀ t',HT (C0 w B) h₀ none 100 ⟨ch,(b'+1,{ cls:=.type "slice",data:=.fields #[.int n t6,.none,.none] })::l,r⟩ (k (.ok (.ret (.str (S ((c0::T).drop n)) t')))) (fun f x'=>R (.ok (.ret (match f with | .ret v=>v | _=>.none))) x') (fun vz0 vz1=>False)) →
   HC (C0 w B) h₀ none 100 ⟨ch,(b'+1,{ cls:=.type "slice",data:=.fields #[.int n t6,.none,.none] })::l,r⟩ (.call (.builtin "str.__getitem__") ⟨[.str (S (c0::T)) t1,.ref (b'+1)],[]⟩) (fun r x=>HT (C0 w B) h₀ none 100 x (k r) (fun f x'=>R (.ok (.ret (match f with | .ret v=>v | _=>.none))) x') (fun vz0 vz1=>False)) :=
  fun k hk=>HC.sliceFrom (n:=n) (u:=t6) (.head _) hn (by simp only [List.length_cons];omega) hk
 (
  refine HTa.cutN N [1,2,1,2,2,1,2,2,1,1,1,1,1,1,3,2,1,2,2,1,2,2,3] [0] 3 [] (c:=.call (.builtin "str.__getitem__") ⟨[.str (S (c0::T)) t1,.ref (b'+1)],[]⟩) (l:=(b'+1,{ cls:=.type "slice",data:=.fields #[.int n t6,.none,.none] })::l) (r:=(m,matchO (c0::T) t1 pat lim sp)::(sp,spO n bb ee)::r) (ch:=ch) (by kernel_rfl) rfl ?_
  refine HC.reads (r:=r) (Sub.tail.trans Sub.tail) ?_
  refine key _ fun t' b7 tk7=>?_
  exact HTa.val N [1] [] 1 [] (a:=.ret (.str (S ((c0::T).drop n)) t')) (l:=l) (r:=r) (ch:=ch) (by kernel_rfl) rfl (G t'))
end
end Mine
section
namespace Mine
open PySem.Sre
noncomputable def lift (T:Array Nat) (lim L:Nat) (m:M):M:={ m with text:=T,lim:=lim,lastStart:=L }
noncomputable def safeOp (m:M):Op→Bool
 | .LITERAL | .IN | .ANY=>Nat.blt m.pos m.lim
 | .AT=>Nat.beq (m.word 1) 0
 | .MARK | .REPEAT | .MAX_UNTIL=>true
 | .SUCCESS=>!m.wholeText
 | .REPEAT_ONE=>Nat.beq (m.word 3) maxRepeat && Nat.ble (m.pos+m.word 2) m.lim && match run m.code m.text (m.pc+4) (m.lim - m.pos) m.pos 0 ((m.seen.add (m.word 0)).add (m.word 4)) with
  | .ok (n,_)=>Nat.blt (m.pos+n) m.lim
  | .error _=>false
 | _=>false
noncomputable def safe (m:M):Bool :=
 match m.outcome with
 | some _=>true
 | none=>match m.answer with
  | some yes=>match m.frames with
   | []=>true
   | f::_=>match f.wait with
    | .nextStart=>yes
    | .giveBack | .closeLoop | .maxBelow | .maxMore | .maxTail=>true
    | _=>false
  | none=>Nat.blt m.pc m.code.size && match ops[m.word 0]? with
   | some o=>safeOp m o
   | none=>false
theorem run_ge {code T:Array Nat} {i:Nat}:∀ {k p f s r s'},run code T i k p f s = .ok (r,s')→f≤r
 | 0,_,_,_,_,_,h=>by simp only [run] at h;cases h;exact Nat.le_refl _
 | k+1,p,f,s,r,s',h=>by
  simp only [run] at h
  cases e:accepts code i (T.getD p 0) s with
  | error w=>rw [e] at h;cases h
  | ok x =>
   obtain ⟨yes,s1⟩:=x
   rw [e] at h
   cases yes with
   | true=>exact Nat.le_of_succ_le (run_ge (k:=k) h)
   | false=>cases h;exact Nat.le_refl _
theorem run_agree {code T0 T:Array Nat} {i:Nat}:∀ {k K p f s r s'},run code T0 i k p f s = .ok (r,s')→r - f<k→(∀ q,p≤q→q≤p+(r - f)→T.getD q 0=T0.getD q 0)→k≤K→run code T i K p f s = .ok (r,s')
 | 0,_,_,_,_,_,_,_,h,_,_=>absurd h (Nat.not_lt_zero _)
 | k+1,0,_,_,_,_,_,_,_,_,h=>absurd h (Nat.not_succ_le_zero _)
 | k+1,K+1,p,f,s,r,s',h,hk,ht,hK=>by
  simp only [run] at h ⊢
  rw [ht p (Nat.le_refl _) (Nat.le_add_right _ _)]
  cases e:accepts code i (T0.getD p 0) s with
  | error w=>rw [e] at h;cases h
  | ok x =>
   obtain ⟨yes,s1⟩:=x
   rw [e] at h
   cases yes with
   | true =>
    have hr:=run_ge (k:=k) h
    have e1:r - f=r - (f+1)+1:=(Nat.succ_pred_eq_of_pos (Nat.sub_pos_of_lt hr)).symm
    rw [e1] at hk ht
    exact run_agree (k:=k) h (Nat.lt_of_succ_lt_succ hk) (fun q h1 h2=>ht q (Nat.le_of_succ_le h1) (Nat.le_trans h2 (Nat.le_of_eq (Nat.succ_add p _)))) (Nat.le_of_succ_le_succ hK)
   | false=>exact h
noncomputable def execP:{f:M→Option Op→M // ∀ m,m.exec=f m ops[m.word 0]?}:=⟨_,fun m=>by
 unfold M.exec
 generalize ops[m.word 0]? = o
 rfl⟩
section
variable {m:M} {T:Array Nat} {lim L:Nat}
theorem attempt_lift (f:Frame) (a b:Nat) (o:Bool):(lift T lim L m).attempt f a b o=lift T lim L (m.attempt f a b o):=by
 unfold M.attempt
 show (if m.weight+1+f.kept.marks.size > 16777216 then _ else _)=lift T lim L (if m.weight+1+f.kept.marks.size > 16777216 then _ else _)
 split <;> rfl
theorem afterRun_lift (w:Wait) (c:Int) (k:Kept):(lift T lim L m).afterRun w c k=lift T lim L (m.afterRun w c k):=attempt_lift _ _ _ _
theorem afterLoop_lift (w:Wait) (i:Nat) (c:Int) (g:Option Nat→Bool):(lift T lim L m).afterLoop w i c g=lift T lim L (m.afterLoop w i c g) :=
 attempt_lift (m:={ m with inner:=(m.loopAt i).outer }) _ _ _ _
theorem round_lift (w:Wait) (i:Nat) (c:Int) (g:Bool) (k:Kept):(lift T lim L m).round w i c g k=lift T lim L (m.round w i c g k) :=
 attempt_lift (m:=m.setLoop i fun l=>{ l with count:=c,began:=if g then some m.pos else l.began }) _ _ _ _
theorem until_lift (g:Bool):(lift T lim L m).until_ g=lift T lim L (m.until_ g):=by
 unfold M.until_
 show (match m.inner with | none=>_ | some i=>_)=lift T lim L (match m.inner with | none=>_ | some i=>_)
 cases m.inner with
 | none=>rfl
 | some i =>
  dsimp only
  show (if (m.loopAt i).count+1<(m.code.getD ((m.loopAt i).pc+2) 0:Nat) then _ else _)=lift T lim L (if (m.loopAt i).count+1<(m.code.getD ((m.loopAt i).pc+2) 0:Nat) then _ else _)
  split
  ·exact round_lift _ _ _ _ _
  ·cases g with
   | false=>exact afterLoop_lift _ _ _ _
   | true =>
    simp only [Bool.not_true,Bool.false_eq_true,if_false]
    show (if (((m.loopAt i).count+1<(m.code.getD ((m.loopAt i).pc+3) 0:Nat) || m.code.getD ((m.loopAt i).pc+3) 0 == maxRepeat) && (m.loopAt i).began != some m.pos)=true then _ else _)=lift T lim L (if (((m.loopAt i).count+1<(m.code.getD ((m.loopAt i).pc+3) 0:Nat) || m.code.getD ((m.loopAt i).pc+3) 0 == maxRepeat) && (m.loopAt i).began != some m.pos)=true then _ else _)
    split
    ·exact round_lift _ _ _ _ _
    ·exact afterLoop_lift _ _ _ _
theorem resume_lift (f:Frame) (yes:Bool) (h:(match f.wait with | .nextStart=>yes | .giveBack | .closeLoop | .maxBelow | .maxMore | .maxTail=>true | _=>false)=true):(lift T lim L m).resume f yes=lift T lim L (m.resume f yes):=by
 obtain ⟨wait,pc,pos,outermost,count,kept,loop,began⟩:=f
 cases wait <;> first | (exact absurd h Bool.false_ne_true) | skip
 case nextStart=>subst h;rfl
 case giveBack =>
  cases yes with
  | true=>rfl
  | false =>
   show (if count - 1<m.word 2 then _ else _)=lift T lim L (if count - 1<m.word 2 then _ else _)
   split
   ·rfl
   ·exact afterRun_lift (m:={ m.putBack kept with pos:=pos - 1 }) _ _ _
 case closeLoop=>rfl
 case maxBelow=>cases yes <;> rfl
 case maxMore =>
  cases yes with
  | true=>rfl
  | false=>exact afterLoop_lift (T:=T) (lim:=lim) (L:=L) (m:=((m.setLoop loop fun l=>{ l with began:=began }).putBack kept).setLoop loop fun l=>{ l with count:=count - 1 }) Wait.maxTail loop count fun vz0=>false
 case maxTail=>rfl
inductive SafeOp (m:M):Prop
 | success (h:ops[m.word 0]? = some .SUCCESS) (hw:m.wholeText=false)
 | at_ (h:ops[m.word 0]? = some .AT) (h0:m.word 1=0)
 | inn (h:ops[m.word 0]? = some .IN) (hp:m.pos<m.lim)
 | literal (h:ops[m.word 0]? = some .LITERAL) (hp:m.pos<m.lim)
 | any (h:ops[m.word 0]? = some .ANY) (hp:m.pos<m.lim)
 | mark (h:ops[m.word 0]? = some .MARK)
 | maxUntil (h:ops[m.word 0]? = some .MAX_UNTIL)
 | repeat_ (h:ops[m.word 0]? = some .REPEAT)
 | repeatOne (h:ops[m.word 0]? = some .REPEAT_ONE) (hs:(Nat.beq (m.word 3) maxRepeat && Nat.ble (m.pos+m.word 2) m.lim && match run m.code m.text (m.pc+4) (m.lim - m.pos) m.pos 0 ((m.seen.add (m.word 0)).add (m.word 4)) with
    | .ok (n,_)=>Nat.blt (m.pos+n) m.lim
    | .error _=>false)=true)
theorem safe_op (ha:m.answer=none) (ho:m.outcome=none) (hs:safe m=true):SafeOp m:=by
 unfold safe at hs
 rw [ho,ha] at hs
 dsimp only at hs
 obtain ⟨_,hs⟩:=Bool.and_eq_true_iff.mp hs
 cases h:ops[m.word 0]? with
 | none=>rw [h] at hs;exact absurd hs Bool.false_ne_true
 | some o =>
  rw [h] at hs
  replace hs:safeOp m o=true:=hs
  cases o <;> first
   | exact absurd hs Bool.false_ne_true
   | exact .mark h
   | exact .repeat_ h
   | exact .maxUntil h
   | exact .literal h (Nat.le_of_ble_eq_true hs)
   | exact .inn h (Nat.le_of_ble_eq_true hs)
   | exact .any h (Nat.le_of_ble_eq_true hs)
   | exact .at_ h (Nat.eq_of_beq_eq_true hs)
   | exact .success h ((Bool.not_eq_true' _).mp hs)
   | exact .repeatOne h hs
theorem exec_success (h:ops[m.word 0]? = some .SUCCESS) (hw:m.wholeText=false):(lift T lim L m).exec=lift T lim L m.exec:=by
 rw [execP.2,execP.2 m,h]
 rw [show ops[(lift T lim L m).word 0]? = _ from h]
 show (if (m.outermost && (m.wholeText && m.pos != lim || m.mustAdvance && m.pos == m.start))=true then _ else _)=lift T lim L (if (m.outermost && (m.wholeText && m.pos != m.lim || m.mustAdvance && m.pos == m.start))=true then _ else _)
 have e:(m.outermost && (m.wholeText && m.pos != lim || m.mustAdvance && m.pos == m.start))=(m.outermost && (m.wholeText && m.pos != m.lim || m.mustAdvance && m.pos == m.start)):=by rw [hw];rfl
 rw [e]
 split <;> rfl
theorem exec_at (h:ops[m.word 0]? = some .AT) (h0:m.word 1=0):(lift T lim L m).exec=lift T lim L m.exec:=by
 rw [execP.2,execP.2 m,h]
 rw [show ops[(lift T lim L m).word 0]? = _ from h]
 show (match M.isAt (lift T lim L { m with seen:=m.seen.add (m.word 0) }) (m.word 1) with | .error why=>_ | .ok yes=>_)=lift T lim L (match M.isAt { m with seen:=m.seen.add (m.word 0) } (m.word 1) with | .error why=>_ | .ok yes=>_)
 rw [h0]
 show (if (m.pos == 0)=true then _ else _)=lift T lim L (if (m.pos == 0)=true then _ else _)
 split <;> rfl
theorem exec_one {op:Op} (h:ops[m.word 0]? = some op) (hop:op = .IN ∨ op = .LITERAL ∨ op = .ANY) (hp:m.pos<m.lim) (ht:T.getD m.pos 0=m.text.getD m.pos 0) (h1:m.lim≤lim):(lift T lim L m).exec=lift T lim L m.exec:=by
 rw [execP.2,execP.2 m,h]
 rw [show ops[(lift T lim L m).word 0]? = _ from h]
 have e:∀ m':M,execP.1 m' (some op)=execP.1 m' (some .IN):=fun m'=>by rcases hop with rfl | rfl | rfl <;> rfl
 rw [e,e]
 show (if m.pos ≥ lim then _ else (match accepts m.code m.pc (T.getD m.pos 0) (m.seen.add (m.word 0)) with | .error why=>_ | .ok (false,seen)=>_ | .ok (true,seen)=>_))=lift T lim L (if m.pos ≥ m.lim then _ else (match accepts m.code m.pc (m.text.getD m.pos 0) (m.seen.add (m.word 0)) with | .error why=>_ | .ok (false,seen)=>_ | .ok (true,seen)=>_))
 rw [if_neg (Nat.not_le_of_lt (Nat.lt_of_lt_of_le hp h1)),if_neg (Nat.not_le_of_lt hp),ht]
 cases accepts m.code m.pc (m.text.getD m.pos 0) (m.seen.add (m.word 0)) with
 | error w=>rfl
 | ok x=>obtain ⟨y,s⟩:=x;cases y <;> rfl
theorem exec_rest {op:Op} (h:ops[m.word 0]? = some op) (hop:op = .MARK ∨ op = .MAX_UNTIL ∨ op = .REPEAT):(lift T lim L m).exec=lift T lim L m.exec:=by
 rw [execP.2,execP.2 m,h]
 rw [show ops[(lift T lim L m).word 0]? = _ from h]
 rcases hop with rfl | rfl | rfl
 ·rfl
 ·exact until_lift (T:=T) (lim:=lim) (L:=L) (m:={ m with seen:=m.seen.add (m.word 0),pc:=m.pc+1 }) true
 ·exact attempt_lift (T:=T) (lim:=lim) (L:=L) (m:={ m with seen:=m.seen.add (m.word 0),loops:=m.loops.push { pc:=m.pc,outer:=m.inner },inner:=some m.loops.size }) _ _ _ _
theorem exec_repeatOne (h:ops[m.word 0]? = some .REPEAT_ONE) {r:Nat} {s':Seen} (er:run m.code m.text (m.pc+4) (m.lim - m.pos) m.pos 0 ((m.seen.add (m.word 0)).add (m.word 4)) = .ok (r,s')) (er2:run m.code T (m.pc+4) (lim - m.pos) m.pos 0 ((m.seen.add (m.word 0)).add (m.word 4)) = .ok (r,s'))
  (n1:min (m.word 3) ((m.lim:Int) - m.pos).toNat=m.lim - m.pos) (n2:min (m.word 3) ((lim:Int) - m.pos).toNat=lim - m.pos) (c1:¬ ((m.word 2:Int) > (m.lim:Int) - m.pos)) (c2:¬ ((m.word 2:Int) > (lim:Int) - m.pos)):(lift T lim L m).exec=lift T lim L m.exec:=by
 rw [execP.2,execP.2 m,h]
 rw [show ops[(lift T lim L m).word 0]? = _ from h]
 show (if (m.word 2:Int) > (lim:Int) - m.pos then _ else match run m.code T (m.pc+4) (min (m.word 3) ((lim:Int) - m.pos).toNat) m.pos 0 ((m.seen.add (m.word 0)).add (m.word 4)) with | .error why=>_ | .ok (n,seen)=>_) =
  lift T lim L (if (m.word 2:Int) > (m.lim:Int) - m.pos then _ else match run m.code m.text (m.pc+4) (min (m.word 3) ((m.lim:Int) - m.pos).toNat) m.pos 0 ((m.seen.add (m.word 0)).add (m.word 4)) with | .error why=>_ | .ok (n,seen)=>_)
 rw [if_neg c1,if_neg c2,n1,n2,er,er2]
 dsimp only
 show (if r<m.word 2 then _ else _)=lift T lim L (if r<m.word 2 then _ else _)
 split
 ·rfl
 ·exact afterRun_lift (T:=T) (lim:=lim) (L:=L) (m:={ m with seen:=s',pos:=m.pos+r }) _ _ _
theorem rep_nums {a p w2 w3 lim':Nat} (hm:w3=4294967295) (hle:p+w2≤lim') (h2:lim'≤4294967295):min w3 ((lim':Int) - p).toNat=lim' - p∧¬ ((w2:Int) > (lim':Int) - p):=by
 rw [←Int.ofNat_sub (Nat.le_trans (Nat.le_add_right p w2) hle),Int.toNat_natCast]
 exact ⟨Nat.min_eq_right (Nat.le_trans (Nat.sub_le _ _) (hm ▸ h2)),fun h=>Nat.not_lt_of_le (Nat.le_sub_of_add_le' hle) (Int.ofNat_lt.mp h)⟩
theorem rep_run (er:∃ r s',run m.code m.text (m.pc+4) (m.lim - m.pos) m.pos 0 ((m.seen.add (m.word 0)).add (m.word 4)) = .ok (r,s')∧m.pos+r<m.lim) (ht:∀ i,i<m.lim→T.getD i 0=m.text.getD i 0) (h1:m.lim≤lim) :
  ∃ r s',run m.code m.text (m.pc+4) (m.lim - m.pos) m.pos 0 ((m.seen.add (m.word 0)).add (m.word 4)) = .ok (r,s')∧run m.code T (m.pc+4) (lim - m.pos) m.pos 0 ((m.seen.add (m.word 0)).add (m.word 4)) = .ok (r,s'):=by
 obtain ⟨r,s',er,hr⟩:=er
 generalize m.lim=a at er hr ht h1
 generalize m.pos=p at er hr
 exact ⟨r,s',er,run_agree er (Nat.lt_sub_of_add_lt (Nat.add_comm p r ▸ hr)) (fun q g1 g2=>ht q (Nat.lt_of_le_of_lt g2 hr)) (Nat.sub_le_sub_right h1 p)⟩
theorem exec_lift (ha:m.answer=none) (ho:m.outcome=none) (hs:safe m=true) (ht:∀ i,i<m.lim→T.getD i 0=m.text.getD i 0) (h1:m.lim≤lim) (h2:lim≤4294967295):(lift T lim L m).exec=lift T lim L m.exec:=by
 cases safe_op ha ho hs with
 | success h hw=>exact exec_success h hw
 | at_ h h0=>exact exec_at h h0
 | inn h hp=>exact exec_one h (.inl rfl) hp (ht _ hp) h1
 | literal h hp=>exact exec_one h (.inr (.inl rfl)) hp (ht _ hp) h1
 | any h hp=>exact exec_one h (.inr (.inr rfl)) hp (ht _ hp) h1
 | mark h=>exact exec_rest h (.inl rfl)
 | maxUntil h=>exact exec_rest h (.inr (.inl rfl))
 | repeat_ h=>exact exec_rest h (.inr (.inr rfl))
 | repeatOne h hs =>
  obtain ⟨hs,hr⟩:=Bool.and_eq_true_iff.mp hs
  obtain ⟨hs1,hs2⟩:=Bool.and_eq_true_iff.mp hs
  have hle:m.pos+m.word 2≤m.lim:=Nat.le_of_ble_eq_true hs2
  have hm:m.word 3=4294967295:=Nat.eq_of_beq_eq_true hs1
  obtain ⟨r,s',er,er2⟩:=rep_run (T:=T) (lim:=lim) (m:=m) (by
   split at hr
   ·rename_i n s' e;exact ⟨n,s',e,Nat.le_of_ble_eq_true hr⟩
   ·cases hr) ht h1
  have q1:=rep_nums (a:=0) hm hle (Nat.le_trans h1 h2)
  have q2:=rep_nums (a:=0) hm (Nat.le_trans hle h1) h2
  exact exec_repeatOne h er er2 q1.1 q2.1 q1.2 q2.2
theorem step_lift (hs:safe m=true) (ht:∀ i,i<m.lim→T.getD i 0=m.text.getD i 0) (h1:m.lim≤lim) (h2:lim≤4294967295):(lift T lim L m).step=lift T lim L m.step:=by
 unfold M.step
 cases ho:m.outcome with
 | some o=>show (if (m.outcome).isSome=true then _ else _)=_;rw [ho];rfl
 | none =>
  have e0:(lift T lim L m).outcome=none:=ho
  rw [e0]
  simp only [Option.isSome_none,Bool.false_eq_true,if_false]
  cases ha:m.answer with
  | some yes =>
   have e1:(lift T lim L m).answer=some yes:=ha
   rw [e1]
   cases hf:m.frames with
   | nil =>
    have e2:(lift T lim L m).frames=[]:=hf
    rw [e2]
    rfl
   | cons f rest =>
    have e2:(lift T lim L m).frames=f::rest:=hf
    rw [e2]
    unfold safe at hs
    rw [ho,ha,hf] at hs
    dsimp only at hs ⊢
    exact resume_lift (T:=T) (lim:=lim) (L:=L) (m:={ m with answer:=none,frames:=rest,weight:=m.weight - (1+f.kept.marks.size),pc:=f.pc,pos:=f.pos,outermost:=f.outermost,outcome:=none }) f yes hs
  | none =>
   have e1:(lift T lim L m).answer=none:=ha
   rw [e1]
   have hpc:m.pc<m.code.size:=by
    unfold safe at hs
    rw [ho,ha] at hs
    exact Nat.le_of_ble_eq_true (Bool.and_eq_true_iff.mp hs).1
   dsimp only
   show (if m.pc<m.code.size then (lift T lim L m).exec else _)=lift T lim L (if m.pc<m.code.size then m.exec else _)
   rw [if_pos hpc,if_pos hpc]
   exact exec_lift ha ho hs ht h1 h2
theorem lift_self:lift m.text m.lim m.lastStart m=m:=rfl
theorem step_same (hs:safe m=true) (h:m.lim≤4294967295):m.step.text=m.text∧m.step.lim=m.lim:=by
 have e:=step_lift (T:=m.text) (lim:=m.lim) (L:=m.lastStart) hs (fun vz0 vz1=>rfl) (Nat.le_refl _) h
 rw [lift_self] at e
 exact ⟨(congrArg M.text e).trans rfl,(congrArg M.lim e).trans rfl⟩
noncomputable def safeFor:Nat→M→Bool
 | 0,_=>true
 | k+1,m=>match m.outcome with
  | some _=>true
  | none=>safe m && safeFor k m.step
theorem runFor_lift:∀ (k:Nat) (m:M),safeFor k m=true→(∀ i,i<m.lim→T.getD i 0=m.text.getD i 0)→m.lim≤lim→lim≤4294967295→(lift T lim L m).runFor k=lift T lim L (m.runFor k)
 | 0,_,_,_,_,_=>rfl
 | k+1,m,hs,ht,h1,h2=>by
  unfold M.runFor
  unfold safeFor at hs
  show (if m.outcome.isSome=true then _ else (lift T lim L m).step.runFor k)=lift T lim L (if m.outcome.isSome=true then _ else m.step.runFor k)
  cases ho:m.outcome with
  | some o=>rfl
  | none =>
   rw [ho] at hs
   obtain ⟨s1,s2⟩:=Bool.and_eq_true_iff.mp hs
   obtain ⟨e1,e2⟩:=step_same s1 (by lia)
   rw [if_neg (by simp),if_neg (by simp),step_lift s1 ht h1 h2]
   exact runFor_lift k m.step s2 (by rw [e1,e2];exact ht) (by rw [e2];exact h1) h2
theorem runFor_done {k:Nat} (h:m.outcome.isSome=true):m.runFor k=m:=by
 cases k with
 | zero=>rfl
 | succ k=>unfold M.runFor;rw [if_pos h]
theorem runFor_add:∀ (a b:Nat) (m:M),m.runFor (a+b)=(m.runFor a).runFor b
 | 0,b,m=>by rw [Nat.zero_add];rfl
 | a+1,b,m=>by
  rw [Nat.succ_add]
  by_cases h:m.outcome.isSome=true
  ·rw [runFor_done h,runFor_done h,runFor_done h]
  ·have e1:m.runFor (a+b+1)=m.step.runFor (a+b):=by conv=>lhs;unfold M.runFor;rw [if_neg h]
   have e2:m.runFor (a+1)=m.step.runFor a:=by conv=>lhs;unfold M.runFor;rw [if_neg h]
   rw [e1,e2];exact runFor_add a b m.step
structure AtFail (m:M) (pc s:Nat):Prop where
 oc:m.outcome=none
 an:m.answer=some false
 fr:∃ o,m.frames=[{ wait:=.nextStart,pc:=pc,pos:=s,outermost:=o }]
 at0:ops[m.code.getD pc 0]? = some .AT
 at1:m.code.getD (pc+1) 0=0
 fs:m.hasFirstSet=false
 lt:pc<m.code.size
 wt:m.weight≤1000
theorem runFor_two {a b c:M} (h1:a.outcome=none) (e1:a.step=b) (h2:b.outcome=none) (e2:b.step=c):a.runFor 2=c:=by
 unfold M.runFor
 rw [if_neg (by rw [h1];simp),e1]
 unfold M.runFor
 rw [if_neg (by rw [h2];simp),e2]
 rfl
theorem AtFail.next {pc s:Nat} (H:AtFail m pc s) (h:s<m.lastStart):AtFail (m.runFor 2) pc (s+1)∧(m.runFor 2).lastStart=m.lastStart:=by
 obtain ⟨code,text,lm,start,lst,whole,must,pc0,pos0,handed,outer,marks,lastmark,lastindex,loops,inner,frames,weight,answer,seen,outcome⟩:=m
 obtain ⟨oc,an,⟨o,fr⟩,at0,at1,fs,lt,wt⟩:=H
 dsimp only at oc an fr at0 at1 lt wt h
 subst oc an fr
 have e1:M.step ⟨code,text,lm,start,lst,whole,must,pc0,pos0,handed,outer,marks,lastmark,lastindex,loops,inner,[{ wait:=.nextStart,pc:=pc,pos:=s,outermost:=o }],weight,some false,seen,none⟩
   = ⟨code,text,lm,s+1,lst,whole,false,pc,s+1,s+1,false,marks,-1,-1,loops,inner,[{ wait:=.nextStart,pc:=pc,pos:=s+1,outermost:=false }],weight - 1+1,none,seen,none⟩:=by
  show (if s<lst then M.attemptFrom _ _ _ else _)=_
  rw [if_pos h]
  show (if (!M.hasFirstSet _)=true then M.attemptAt _ _ _ else _)=_
  have fs':∀ x:M,x.code=code→x.hasFirstSet=false:=fun x hx=>by unfold M.hasFirstSet at fs ⊢;rw [hx];exact fs
  rw [fs' _ rfl]
  show (if weight - 1+1+0 > 16777216 then _ else _)=_
  rw [if_neg (by lia)]
  rfl
 have e2:M.step ⟨code,text,lm,s+1,lst,whole,false,pc,s+1,s+1,false,marks,-1,-1,loops,inner,[{ wait:=.nextStart,pc:=pc,pos:=s+1,outermost:=false }],weight - 1+1,none,seen,none⟩
   = ⟨code,text,lm,s+1,lst,whole,false,pc,s+1,s+1,false,marks,-1,-1,loops,inner,[{ wait:=.nextStart,pc:=pc,pos:=s+1,outermost:=false }],weight - 1+1,some false,(seen.add (code.getD pc 0)).add (43+code.getD (pc+1) 0),none⟩:=by
  show (if pc<code.size then M.exec _ else _)=_
  rw [if_pos lt,execP.2]
  refine (congrArg (execP.1 _) at0).trans ?_
  show (match M.isAt _ (code.getD (pc+1) 0) with | .error why=>_ | .ok yes=>_)=_
  have hi:∀ x:M,x.pos=s+1→x.isAt (code.getD (pc+1) 0) = .ok false:=fun x hx=>by
   rw [at1]
   show Except.ok (x.pos == 0)=_
   rw [hx];rfl
  rw [hi _ rfl]
  rfl
 have e3:=runFor_two rfl e1 rfl e2
 rw [e3]
 exact ⟨⟨rfl,rfl,⟨_,rfl⟩,at0,at1,fs,lt,by show weight - 1+1≤1000;lia⟩,rfl⟩
theorem AtFail.last {pc s:Nat} (H:AtFail m pc s) (h:¬ s<m.lastStart):(m.runFor 2).outcome=some .failed:=by
 obtain ⟨code,text,lm,start,lst,whole,must,pc0,pos0,handed,outer,marks,lastmark,lastindex,loops,inner,frames,weight,answer,seen,outcome⟩:=m
 obtain ⟨oc,an,⟨o,fr⟩,at0,at1,fs,lt,wt⟩:=H
 dsimp only at oc an fr at0 at1 lt wt h
 subst oc an fr
 have e1:M.step ⟨code,text,lm,start,lst,whole,must,pc0,pos0,handed,outer,marks,lastmark,lastindex,loops,inner,[{ wait:=.nextStart,pc:=pc,pos:=s,outermost:=o }],weight,some false,seen,none⟩
   = ⟨code,text,lm,start,lst,whole,must,pc,s,handed,o,marks,lastmark,lastindex,loops,inner,[],weight - 1,some false,seen,none⟩:=by
  show (if s<lst then M.attemptFrom _ _ _ else _)=_
  rw [if_neg h]
  rfl
 unfold M.runFor
 rw [if_neg (by simp),e1]
 rfl
theorem AtFail.all {pc:Nat}:∀ (n s:Nat) (m:M),AtFail m pc s→m.lastStart≤s+n→(m.runFor (2 * n+2)).outcome=some .failed
 | 0,s,m,H,h=>H.last (by lia)
 | n+1,s,m,H,h=>by
  by_cases hl:s<m.lastStart
  ·obtain ⟨H',e⟩:=H.next hl
   rw [show 2 * (n+1)+2=2+(2 * n+2) by lia,runFor_add]
   exact AtFail.all n (s+1) _ H' (by rw [e];lia)
  ·have:=H.last hl
   rw [show 2 * (n+1)+2=2+(2 * n+2) by lia,runFor_add,runFor_done (by rw [this];rfl)]
   exact this
end
end Mine
end
namespace Mine
open PySem PySem.W PySem.W.X PySem.Spec PySem.Calls PyProof.Rows
section
open PySem.Builtin.Re
section
variable {C:Cfg} {h₀:Heap} {hd:Option Value} {lv:Nat} {x:Sx} {E:Value→Sx→Prop}
theorem HT.driveRe {m:Sre.M} {Q:Sre.M→Sx→Prop}:∀ (n k:Nat) (m:Sre.M),(m.runFor k).outcome.isSome=true→k≤4 * n→Q (m.runFor k) x→0<n→HT C h₀ hd lv x (reDrive n m) Q E
 | 0,_,_,_,_,_,h=>absurd h (Nat.lt_irrefl _)
 | n+1,k,m,ho,hk,hq,_=>by
  unfold PySem.Builtin.Re.reDrive
  dsimp only
  show HT C h₀ hd lv x (if (m.runFor 4).outcome.isSome=true then pure (m.runFor 4) else (rule "sre.turn" >>= fun vz0=>reDrive n (m.runFor 4))) Q E
  by_cases h4:(m.runFor 4).outcome.isSome=true
  ·rw [if_pos h4]
   have e:m.runFor k=m.runFor 4:=by
    by_cases hk4:k≤4
    ·refine el_E (Nat.exists_eq_add_of_le hk4) fun d h=>?_
     rw [h,runFor_add,runFor_done ho]
    ·refine el_E (Nat.exists_eq_add_of_le (Nat.le_of_not_le hk4)) fun d hE1=>?_
     subst hE1
     rw [runFor_add,runFor_done h4]
   rw [←e];exact HT.pure' hq
  ·rw [if_neg h4]
   have hk4:4≤k:=by
    rcases Nat.lt_or_ge k 4 with h | h
    ·refine el_E (Nat.exists_eq_add_of_le (Nat.le_of_lt h)) fun d hd=>?_
     rw [hd,runFor_add,runFor_done ho] at h4
     exact absurd ho h4
    ·exact h
   refine el_E (Nat.exists_eq_add_of_le hk4) fun d hE1=>?_
   subst hE1
   rw [runFor_add] at ho hq
   have hn:0<n:=by
    rcases Nat.eq_zero_or_pos n with e | e
    ·subst e
     have:d=0:=by lia
     subst this
     exact absurd ho h4
    ·exact e
   exact HT.bind (HT.rule' (HT.driveRe (m:=m) n d _ ho (by lia) hq hn))
theorem HT.forSkip {β:Type} {f:β→PUnit→Sem (ForInStep PUnit)} {Q:PUnit→Sx→Prop} (l:List β) (hf:∀ i,HT C h₀ hd lv x (f i ⟨⟩) (fun r y'=>r = .yield ⟨⟩∧y'=x) E) (h:Q ⟨⟩ x):HT C h₀ hd lv x (forIn l ⟨⟩ f) Q E:=by
 induction l with
 | nil=>rw [List.forIn_nil];exact HT.pure' h
 | cons i l ih =>
  rw [List.forIn_cons]
  refine HT.bind (HT.mono (hf i) ?_ (fun vz0 vz1 q=>q))
  intro r y hZ0
  refine el_A hZ0 fun hE1 hE2=>?_
  try clear hZ0
  subst hE1
  subst hE2
  exact ih
theorem denZ_builtin {id:String} {args:Args} {b:Builtin} (hb:entryFor table id=some b):denZ (.builtin id args)=b args:=by
 rw [denZ_eq]
 show (match entryFor table id with | some b=>b args | none=>unsupported ((withoutEnding? id "#data").getD id))=_
 rw [hb]
theorem entry_re_search:entryFor table "re.Pattern.search" = some Builtin.«re.Pattern.search»:=entryFor_of_tree (by kernel_rfl)
theorem HT.runRe {m:Sre.M} {k:Nat} {Q:Option Sre.M→Sx→Prop} (hk:k≤1000000) (H:(∃ y,(m.runFor k).outcome=some .matched∧y=some (m.runFor k)∧Q y x) ∨ ((m.runFor k).outcome=some .failed∧Q none x)):HT C h₀ hd lv x (reRunToEnd m) Q E:=by
 have ho:(m.runFor k).outcome.isSome=true:=by
  rcases H with ⟨_,h,_⟩ | ⟨h,_⟩ <;> rw [h] <;> rfl
 unfold reRunToEnd
 refine HT.bind (HT.driveRe (m:=m) _ k m ho (Nat.le_trans hk (by decide)) ?_ (by decide))
 refine HT.bind (HT.forSkip _ (fun i=>?_) ?_)
 ·split
  ·exact HT.bind (HT.rule' (HT.pure' ⟨rfl,rfl⟩))
  ·exact HT.pure' ⟨rfl,rfl⟩
 ·rcases H with ⟨y,h,rfl,q⟩ | ⟨h,q⟩
  ·rw [h];exact HT.pure' q
  ·rw [h];exact HT.pure' q
noncomputable def tgt (P:Addr) (code:Array Nat) (T:List Nat) (t:Tok):ReTarget:={ pattern:=.ref P,string:=.str (S T) t,code,text:=⟨T⟩,kind:=0,groups:=1,pos:=0,lim:=T.length }
theorem HC.searchOf {P:Addr} {code:Array Nat} {T:List Nat} {t:Tok} {R:Result→Sx→Prop}
  (hq:∀ b tk,HTa C h₀ none 99 ⟨x.l,x.r,b,tk,x.ch⟩ (denZ (.call (.builtin "re.Pattern.search") ⟨[.ref P,.str (S T) t],[]⟩)) (fun fin x'=>fin = .again (.builtin "re.Pattern.search" ⟨[.ref P,.str (S T) t],[]⟩)∧x'=x) (fun vz0 vz1=>False))
  (hT:HT C h₀ none 99 x (reTarget "re.Pattern.search" "search" ⟨[.ref P,.str (S T) t],[]⟩) (fun a x'=>a=tgt P code T t∧x'=x) (fun vz0 vz1=>False)) {k:Nat} (hk:k≤1000000)
  (H:(((Sre.forSearch code ⟨T⟩ 1 0 T.length false).runFor k).outcome=some .matched∧HT C h₀ none 99 x (reNewMatch (.ref P) (.str (S T) t) 1 0 T.length ((Sre.forSearch code ⟨T⟩ 1 0 T.length false).runFor k)) (fun v x'=>R (.ok (.ret v)) x') (fun vz0 vz1=>False)) ∨
   (((Sre.forSearch code ⟨T⟩ 1 0 T.length false).runFor k).outcome=some .failed∧R (.ok (.ret .none)) x)) :
  HC C h₀ none 100 x (.call (.builtin "re.Pattern.search") ⟨[.ref P,.str (S T) t],[]⟩) R:=by
 refine HC.tree (lv:=99) (w:=0) (by rw [weightZ_eq];rfl) (HT.mono (fun b tk=>hq b tk) ?_ (fun vz0 vz1 q=>q.elim))
 intro fin y hZ0
 refine el_A hZ0 fun hE1 hE2=>?_
 try clear hZ0
 subst hE1
 subst hE2
 refine ⟨by kernel_rfl,HC.tree (lv:=99) (w:=0) (by rw [weightZ_eq];rfl) ?_⟩
 rw [denZ_builtin entry_re_search]
 show HT C h₀ none 99 y (reTarget "re.Pattern.search" "search" ⟨[.ref P,.str (S T) t],[]⟩ >>= fun t=>reAnswer t (Sre.forSearch t.code t.text t.groups t.pos t.lim false)) _ _
 refine HT.bind (HT.mono hT ?_ (fun vz0 vz1 q=>q.elim))
 intro a y' hZ0
 refine el_A hZ0 fun hE1 hE2=>?_
 try clear hZ0
 subst hE1
 subst hE2
 show HT C h₀ none 99 y' (reRunToEnd (Sre.forSearch code ⟨T⟩ 1 0 T.length false) >>= fun r=>match r with
  | some m=>reNewMatch (.ref P) (.str (S T) t) 1 0 T.length m >>= fun v=>ret v
  | none=>ret .none) _ _
 refine HT.bind (HT.runRe hk ?_)
 rcases H with ⟨ho,H⟩ | ⟨ho,H⟩
 ·refine .inl ⟨_,ho,rfl,?_⟩
  refine HT.bind (HT.mono H (fun v z q=>?_) (fun vz0 vz1 q=>q.elim))
  exact HT.pure' q
 ·exact .inr ⟨ho,HT.pure' H⟩
end
noncomputable def codeTok:Array Nat:=#[14,4,0,1,4294967295,6,0,24,9,0,4294967295,13,4,8,12,0,1,17,0,24,19,1,4294967295,13,14,21,9,0,671092736,0,0,0,0,0,0,8,12,0,1,17,1,1]
noncomputable def codeQuo:Array Nat:=#[14,4,0,3,4294967295,6,0,24,9,0,4294967295,13,4,8,12,0,1,16,61,24,9,0,4294967295,13,4,8,12,0,1,16,34,17,0,24,12,0,4294967295,13,7,21,16,34,16,92,0,1,23,19,0,4294967295,16,92,2,24,12,0,4294967295,13,7,21,16,34,16,92,0,1,18,17,1,16,34,1]
noncomputable def codeVal:Array Nat:=#[14,4,0,1,4294967295,6,0,24,9,0,4294967295,13,4,8,12,0,1,16,61,24,9,0,4294967295,13,4,8,12,0,1,17,0,24,14,0,4294967295,13,9,21,8,12,16,59,16,44,0,1,17,1,1]
noncomputable abbrev reTargetZ:String→String→Args→Sem ReTarget:=PySem.W.Fast.tw15674613487505817675
noncomputable abbrev reNewMatchZ:Value→Value→Nat→Nat→Nat→Sre.M→Sem Value:=PySem.W.Fast.tw15446554216253225983
section
variable {w:World} {B:Hab} {h₀:Heap} (N:NatOk (C0 w B) h₀)
include N
theorem tok_call {x:Sx} {T:List Nat} {t:Tok} (b tk:Nat):HTa (C0 w B) h₀ none 99 ⟨x.l,x.r,b,tk,x.ch⟩ (denZ (.call (.builtin "re.Pattern.search") ⟨[.ref 48,.str (S T) t],[]⟩)) (fun fin x'=>fin = .again (.builtin "re.Pattern.search" ⟨[.ref 48,.str (S T) t],[]⟩)∧x'=x) (fun vz0 vz1=>False) :=
 HTa.val N [0] [] 0 [] (a:=.again (.builtin "re.Pattern.search" ⟨[.ref 48,.str (S T) t],[]⟩)) (l:=x.l) (r:=x.r) (ch:=x.ch) (by kernel_rfl) rfl ⟨rfl,rfl⟩
theorem tok_target {x:Sx} {T:List Nat} {t:Tok} (hl:T.length≤1000000):HT (C0 w B) h₀ none 99 x (reTarget "re.Pattern.search" "search" ⟨[.ref 48,.str (S T) t],[]⟩) (fun a x'=>a=tgt 48 codeTok T t∧x'=x) (fun vz0 vz1=>False):=by
 rw [show reTarget=reTargetZ from PySem.W.Fast.te15674613487505817675]
 refine HT.val0 N [0,0] (a:={ pattern:=.ref 48,string:=.str (S T) t,code:=codeTok,text:=⟨T⟩,kind:=0,groups:=1,pos:=min (0:Int).toNat (⟨T⟩:Array Nat).size,lim:=min ((2 ^ 63 - 1:Int)).toNat (⟨T⟩:Array Nat).size }) (by kernel_rfl) ⟨?_,rfl⟩
 have e1:min (0:Int).toNat (⟨T⟩:Array Nat).size=0:=Nat.zero_min _
 have e2:min ((2 ^ 63 - 1:Int)).toNat (⟨T⟩:Array Nat).size=T.length:=Nat.min_eq_right (Nat.le_trans hl (by decide))
 rw [e1,e2];rfl
theorem quo_call {x:Sx} {T:List Nat} {t:Tok} (b tk:Nat):HTa (C0 w B) h₀ none 99 ⟨x.l,x.r,b,tk,x.ch⟩ (denZ (.call (.builtin "re.Pattern.search") ⟨[.ref 53,.str (S T) t],[]⟩)) (fun fin x'=>fin = .again (.builtin "re.Pattern.search" ⟨[.ref 53,.str (S T) t],[]⟩)∧x'=x) (fun vz0 vz1=>False) :=
 HTa.val N [0] [] 0 [] (a:=.again (.builtin "re.Pattern.search" ⟨[.ref 53,.str (S T) t],[]⟩)) (l:=x.l) (r:=x.r) (ch:=x.ch) (by kernel_rfl) rfl ⟨rfl,rfl⟩
theorem quo_target {x:Sx} {T:List Nat} {t:Tok} (hl:T.length≤1000000):HT (C0 w B) h₀ none 99 x (reTarget "re.Pattern.search" "search" ⟨[.ref 53,.str (S T) t],[]⟩) (fun a x'=>a=tgt 53 codeQuo T t∧x'=x) (fun vz0 vz1=>False):=by
 rw [show reTarget=reTargetZ from PySem.W.Fast.te15674613487505817675]
 refine HT.val0 N [0,0] (a:={ pattern:=.ref 53,string:=.str (S T) t,code:=codeQuo,text:=⟨T⟩,kind:=0,groups:=1,pos:=min (0:Int).toNat (⟨T⟩:Array Nat).size,lim:=min ((2 ^ 63 - 1:Int)).toNat (⟨T⟩:Array Nat).size }) (by kernel_rfl) ⟨?_,rfl⟩
 have e1:min (0:Int).toNat (⟨T⟩:Array Nat).size=0:=Nat.zero_min _
 have e2:min ((2 ^ 63 - 1:Int)).toNat (⟨T⟩:Array Nat).size=T.length:=Nat.min_eq_right (Nat.le_trans hl (by decide))
 rw [e1,e2];rfl
theorem val_call {x:Sx} {T:List Nat} {t:Tok} (b tk:Nat):HTa (C0 w B) h₀ none 99 ⟨x.l,x.r,b,tk,x.ch⟩ (denZ (.call (.builtin "re.Pattern.search") ⟨[.ref 58,.str (S T) t],[]⟩)) (fun fin x'=>fin = .again (.builtin "re.Pattern.search" ⟨[.ref 58,.str (S T) t],[]⟩)∧x'=x) (fun vz0 vz1=>False) :=
 HTa.val N [0] [] 0 [] (a:=.again (.builtin "re.Pattern.search" ⟨[.ref 58,.str (S T) t],[]⟩)) (l:=x.l) (r:=x.r) (ch:=x.ch) (by kernel_rfl) rfl ⟨rfl,rfl⟩
theorem val_target {x:Sx} {T:List Nat} {t:Tok} (hl:T.length≤1000000):HT (C0 w B) h₀ none 99 x (reTarget "re.Pattern.search" "search" ⟨[.ref 58,.str (S T) t],[]⟩) (fun a x'=>a=tgt 58 codeVal T t∧x'=x) (fun vz0 vz1=>False):=by
 rw [show reTarget=reTargetZ from PySem.W.Fast.te15674613487505817675]
 refine HT.val0 N [0,0] (a:={ pattern:=.ref 58,string:=.str (S T) t,code:=codeVal,text:=⟨T⟩,kind:=0,groups:=1,pos:=min (0:Int).toNat (⟨T⟩:Array Nat).size,lim:=min ((2 ^ 63 - 1:Int)).toNat (⟨T⟩:Array Nat).size }) (by kernel_rfl) ⟨?_,rfl⟩
 have e1:min (0:Int).toNat (⟨T⟩:Array Nat).size=0:=Nat.zero_min _
 have e2:min ((2 ^ 63 - 1:Int)).toNat (⟨T⟩:Array Nat).size=T.length:=Nat.min_eq_right (Nat.le_trans hl (by decide))
 rw [e1,e2];rfl
end
end
section
open PySem.Builtin.Re
noncomputable abbrev fS (code:Array Nat) (T:List Nat):Sre.M:=Sre.forSearch code ⟨T⟩ 1 0 T.length false
noncomputable def isMatched (o:Option Sre.Outcome):Bool:=match o with
 | some .matched=>true
 | _=>false
theorem isMatched_is {o:Option Sre.Outcome} (h:isMatched o=true):o=some .matched:=by
 unfold isMatched at h
 split at h
 ·rfl
 ·cases h
theorem getD_append (T0 R:List Nat) {i:Nat} (h:i<T0.length):(⟨T0 ++ R⟩:Array Nat).getD i 0=(⟨T0⟩:Array Nat).getD i 0:=by
 rw [Array.getD_eq_getD_getElem?,Array.getD_eq_getD_getElem?,List.getElem?_toArray,List.getElem?_toArray,List.getElem?_append_left h]
theorem run_open {code:Array Nat} {T0 R:List Nat} {k:Nat} (hl:(T0 ++ R).length≤1000000) (e1:fS code (T0 ++ R)=lift ⟨T0 ++ R⟩ (T0 ++ R).length (fS code (T0 ++ R)).lastStart (fS code T0))
  (e2:((fS code T0).text,(fS code T0).lim)=(⟨T0⟩,T0.length)) (e3:safeFor k (fS code T0)=true) :
  (fS code (T0 ++ R)).runFor k=lift ⟨T0 ++ R⟩ (T0 ++ R).length (fS code (T0 ++ R)).lastStart ((fS code T0).runFor k):=by
 have h1:(fS code T0).text=⟨T0⟩:=congrArg Prod.fst e2
 have h2:(fS code T0).lim=T0.length:=congrArg Prod.snd e2
 rw [e1]
 exact runFor_lift k _ e3 (by rw [h1,h2];exact fun i h=>getD_append T0 R h) (by rw [h2,List.length_append];lia) (by lia)
section
variable {w:World} {B:Hab} {h₀:Heap} (N:NatOk (C0 w B) h₀)
include N
theorem HC.hit {x:Sx} {P:Addr} {code:Array Nat} {T0 R:List Nat} {t:Tok} {RR:Result→Sx→Prop} {k n b e:Nat}
  (hq:∀ b tk,HTa (C0 w B) h₀ none 99 ⟨x.l,x.r,b,tk,x.ch⟩ (denZ (.call (.builtin "re.Pattern.search") ⟨[.ref P,.str (S (T0 ++ R)) t],[]⟩)) (fun fin x'=>fin = .again (.builtin "re.Pattern.search" ⟨[.ref P,.str (S (T0 ++ R)) t],[]⟩)∧x'=x) (fun vz0 vz1=>False))
  (hT:HT (C0 w B) h₀ none 99 x (reTarget "re.Pattern.search" "search" ⟨[.ref P,.str (S (T0 ++ R)) t],[]⟩) (fun a x'=>a=tgt P code (T0 ++ R) t∧x'=x) (fun vz0 vz1=>False))
  (hl:(T0 ++ R).length≤1000000) (hk:k≤1000000) (e1:fS code (T0 ++ R)=lift ⟨T0 ++ R⟩ (T0 ++ R).length (fS code (T0 ++ R)).lastStart (fS code T0))
  (e2:((fS code T0).text,(fS code T0).lim)=(⟨T0⟩,T0.length)) (e3:safeFor k (fS code T0)=true) (e4:isMatched ((fS code T0).runFor k).outcome=true)
  (e5:∀ bb tk,seen Res.val? (go (C0 w B) none 99 [] (reNewMatchZ (.ref P) (.str (S (T0 ++ R)) t) 1 0 (T0 ++ R).length (lift ⟨T0 ++ R⟩ (T0 ++ R).length (fS code (T0 ++ R)).lastStart ((fS code T0).runFor k))) ⟨x.l,x.r,bb,tk,x.ch⟩) [] 2 [0,1] =
   (some (.ref (bb+1)),x.l,(bb+1,matchO (T0 ++ R) t P (T0 ++ R).length bb)::(bb,spO n b e)::x.r,x.ch,(go (C0 w B) none 99 [] (reNewMatchZ (.ref P) (.str (S (T0 ++ R)) t) 1 0 (T0 ++ R).length (lift ⟨T0 ++ R⟩ (T0 ++ R).length (fS code (T0 ++ R)).lastStart ((fS code T0).runFor k))) ⟨x.l,x.r,bb,tk,x.ch⟩).eqs.map (·.2)))
  (G:∀ m sp,RR (.ok (.ret (.ref m))) ⟨x.ch,x.l,(m,matchO (T0 ++ R) t P (T0 ++ R).length sp)::(sp,spO n b e)::x.r⟩) :
  HC (C0 w B) h₀ none 100 x (.call (.builtin "re.Pattern.search") ⟨[.ref P,.str (S (T0 ++ R)) t],[]⟩) RR:=by
 refine HC.searchOf hq hT hk (.inl ⟨?_,?_⟩)
 ·rw [run_open hl e1 e2 e3]
  exact isMatched_is e4
 ·rw [run_open hl e1 e2 e3,show reNewMatch=reNewMatchZ from PySem.W.Fast.te15446554216253225983]
  intro bb tk
  exact HTa.val N [] [] 2 [0,1] (e5 bb tk) rfl (G _ _)
theorem HC.miss {x:Sx} {P:Addr} {code:Array Nat} {T0 R:List Nat} {t:Tok} {RR:Result→Sx→Prop} {k pc:Nat}
  (hq:∀ b tk,HTa (C0 w B) h₀ none 99 ⟨x.l,x.r,b,tk,x.ch⟩ (denZ (.call (.builtin "re.Pattern.search") ⟨[.ref P,.str (S (T0 ++ R)) t],[]⟩)) (fun fin x'=>fin = .again (.builtin "re.Pattern.search" ⟨[.ref P,.str (S (T0 ++ R)) t],[]⟩)∧x'=x) (fun vz0 vz1=>False))
  (hT:HT (C0 w B) h₀ none 99 x (reTarget "re.Pattern.search" "search" ⟨[.ref P,.str (S (T0 ++ R)) t],[]⟩) (fun a x'=>a=tgt P code (T0 ++ R) t∧x'=x) (fun vz0 vz1=>False))
  (hl:(T0 ++ R).length≤100000) (hk:k≤1000) (e1:fS code (T0 ++ R)=lift ⟨T0 ++ R⟩ (T0 ++ R).length (fS code (T0 ++ R)).lastStart (fS code T0))
  (e2:((fS code T0).text,(fS code T0).lim)=(⟨T0⟩,T0.length)) (e3:safeFor k (fS code T0)=true) (e4:AtFail ((fS code T0).runFor k) pc 0) (e5:(fS code (T0 ++ R)).lastStart≤(T0 ++ R).length)
  (G:RR (.ok (.ret .none)) x) :
  HC (C0 w B) h₀ none 100 x (.call (.builtin "re.Pattern.search") ⟨[.ref P,.str (S (T0 ++ R)) t],[]⟩) RR:=by
 refine HC.searchOf (k:=k+(2 * (fS code (T0 ++ R)).lastStart+2)) hq hT (by lia) (.inr ⟨?_,G⟩)
 rw [show Sre.forSearch code ⟨T0 ++ R⟩ 1 0 (T0 ++ R).length false=fS code (T0 ++ R) from rfl,runFor_add,run_open (by lia) e1 e2 e3]
 refine AtFail.all (pc:=pc) _ 0 _ ?_ (by show (fS code (T0 ++ R)).lastStart≤_;lia)
 exact ⟨e4.oc,e4.an,e4.fr,e4.at0,e4.at1,e4.fs,e4.lt,e4.wt⟩
theorem HC.hitEnd {x:Sx} {P:Addr} {code:Array Nat} {T:List Nat} {t:Tok} {RR:Result→Sx→Prop} {k n b e:Nat}
  (hq:∀ b tk,HTa (C0 w B) h₀ none 99 ⟨x.l,x.r,b,tk,x.ch⟩ (denZ (.call (.builtin "re.Pattern.search") ⟨[.ref P,.str (S T) t],[]⟩)) (fun fin x'=>fin = .again (.builtin "re.Pattern.search" ⟨[.ref P,.str (S T) t],[]⟩)∧x'=x) (fun vz0 vz1=>False))
  (hT:HT (C0 w B) h₀ none 99 x (reTarget "re.Pattern.search" "search" ⟨[.ref P,.str (S T) t],[]⟩) (fun a x'=>a=tgt P code T t∧x'=x) (fun vz0 vz1=>False))
  (hk:k≤1000000) (e4:isMatched ((fS code T).runFor k).outcome=true)
  (e5:∀ bb tk,seen Res.val? (go (C0 w B) none 99 [] (reNewMatchZ (.ref P) (.str (S T) t) 1 0 T.length ((fS code T).runFor k)) ⟨x.l,x.r,bb,tk,x.ch⟩) [] 2 [0,1] =
   (some (.ref (bb+1)),x.l,(bb+1,matchO T t P T.length bb)::(bb,spO n b e)::x.r,x.ch,(go (C0 w B) none 99 [] (reNewMatchZ (.ref P) (.str (S T) t) 1 0 T.length ((fS code T).runFor k)) ⟨x.l,x.r,bb,tk,x.ch⟩).eqs.map (·.2)))
  (G:∀ m sp,RR (.ok (.ret (.ref m))) ⟨x.ch,x.l,(m,matchO T t P T.length sp)::(sp,spO n b e)::x.r⟩) :
  HC (C0 w B) h₀ none 100 x (.call (.builtin "re.Pattern.search") ⟨[.ref P,.str (S T) t],[]⟩) RR:=by
 refine HC.searchOf hq hT hk (.inl ⟨isMatched_is e4,?_⟩)
 rw [show reNewMatch=reNewMatchZ from PySem.W.Fast.te15446554216253225983]
 intro bb tk
 exact HTa.val N [] [] 2 [0,1] (e5 bb tk) rfl (G _ _)
noncomputable def AfterTok (Z:List Nat):Prop:=Z=[] ∨ (∃ R,Z=61::R) ∨ (∃ R,Z=59::R) ∨ ∃ R,Z=44::R
theorem tok_hit {x:Sx} {k:Nat} (hk:k<4) {sp:List Nat} (hsp:sp=[] ∨ sp=[32]) {Z:List Nat} (hZ:AfterTok Z) (hl:Z.length≤90000) {t:Tok} {RR:Result→Sx→Prop}
  (G:∀ m s,RR (.ok (.ret (.ref m))) ⟨x.ch,x.l,(m,matchO (sp ++ kc k::Z) t 48 (sp ++ kc k::Z).length s)::(s,spO (sp.length+1) sp.length (sp.length+1))::x.r⟩) :
  HC (C0 w B) h₀ none 100 x (.call (.builtin "re.Pattern.search") ⟨[.ref 48,.str (S (sp ++ kc k::Z)) t],[]⟩) RR:=by
 rcases hsp with rfl | rfl
 ·rcases hZ with rfl | ⟨R,rfl⟩ | ⟨R,rfl⟩ | ⟨R,rfl⟩
  ·exact HC.hitEnd N (T:=[kc k]) (k:=10) (n:=1) (b:=0) (e:=1) (tok_call N) (tok_target N (show 1≤1000000 by decide)) (by decide) (by exact k4 hk (by kernel_rfl) (by kernel_rfl) (by kernel_rfl) (by kernel_rfl)) (fun vz0 vz1=>by exact k4 hk (by kernel_rfl) (by kernel_rfl) (by kernel_rfl) (by kernel_rfl)) G
  ·exact HC.hit N (T0:=[kc k,61]) (R:=R) (k:=10) (n:=1) (b:=0) (e:=1) (tok_call N) (tok_target N (Nat.le_trans (Nat.succ_le_succ hl) (by decide))) (Nat.le_trans (Nat.succ_le_succ hl) (by decide)) (by decide) (by exact k4 hk (by kernel_rfl) (by kernel_rfl) (by kernel_rfl) (by kernel_rfl)) (by exact k4 hk (by kernel_rfl) (by kernel_rfl) (by kernel_rfl) (by kernel_rfl)) (by exact k4 hk (by kernel_rfl) (by kernel_rfl) (by kernel_rfl) (by kernel_rfl)) (by exact k4 hk (by kernel_rfl) (by kernel_rfl) (by kernel_rfl) (by kernel_rfl)) (fun vz0 vz1=>by exact k4 hk (by kernel_rfl) (by kernel_rfl) (by kernel_rfl) (by kernel_rfl)) G
  ·exact HC.hit N (T0:=[kc k,59]) (R:=R) (k:=10) (n:=1) (b:=0) (e:=1) (tok_call N) (tok_target N (Nat.le_trans (Nat.succ_le_succ hl) (by decide))) (Nat.le_trans (Nat.succ_le_succ hl) (by decide)) (by decide) (by exact k4 hk (by kernel_rfl) (by kernel_rfl) (by kernel_rfl) (by kernel_rfl)) (by exact k4 hk (by kernel_rfl) (by kernel_rfl) (by kernel_rfl) (by kernel_rfl)) (by exact k4 hk (by kernel_rfl) (by kernel_rfl) (by kernel_rfl) (by kernel_rfl)) (by exact k4 hk (by kernel_rfl) (by kernel_rfl) (by kernel_rfl) (by kernel_rfl)) (fun vz0 vz1=>by exact k4 hk (by kernel_rfl) (by kernel_rfl) (by kernel_rfl) (by kernel_rfl)) G
  ·exact HC.hit N (T0:=[kc k,44]) (R:=R) (k:=10) (n:=1) (b:=0) (e:=1) (tok_call N) (tok_target N (Nat.le_trans (Nat.succ_le_succ hl) (by decide))) (Nat.le_trans (Nat.succ_le_succ hl) (by decide)) (by decide) (by exact k4 hk (by kernel_rfl) (by kernel_rfl) (by kernel_rfl) (by kernel_rfl)) (by exact k4 hk (by kernel_rfl) (by kernel_rfl) (by kernel_rfl) (by kernel_rfl)) (by exact k4 hk (by kernel_rfl) (by kernel_rfl) (by kernel_rfl) (by kernel_rfl)) (by exact k4 hk (by kernel_rfl) (by kernel_rfl) (by kernel_rfl) (by kernel_rfl)) (fun vz0 vz1=>by exact k4 hk (by kernel_rfl) (by kernel_rfl) (by kernel_rfl) (by kernel_rfl)) G
 ·rcases hZ with rfl | ⟨R,rfl⟩ | ⟨R,rfl⟩ | ⟨R,rfl⟩
  ·exact HC.hitEnd N (T:=[32,kc k]) (k:=10) (n:=2) (b:=1) (e:=2) (tok_call N) (tok_target N (show 2≤1000000 by decide)) (by decide) (by exact k4 hk (by kernel_rfl) (by kernel_rfl) (by kernel_rfl) (by kernel_rfl)) (fun vz0 vz1=>by exact k4 hk (by kernel_rfl) (by kernel_rfl) (by kernel_rfl) (by kernel_rfl)) G
  ·exact HC.hit N (T0:=[32,kc k,61]) (R:=R) (k:=10) (n:=2) (b:=1) (e:=2) (tok_call N) (tok_target N (Nat.le_trans (Nat.succ_le_succ (Nat.succ_le_succ hl)) (by decide))) (Nat.le_trans (Nat.succ_le_succ (Nat.succ_le_succ hl)) (by decide)) (by decide) (by exact k4 hk (by kernel_rfl) (by kernel_rfl) (by kernel_rfl) (by kernel_rfl)) (by exact k4 hk (by kernel_rfl) (by kernel_rfl) (by kernel_rfl) (by kernel_rfl)) (by exact k4 hk (by kernel_rfl) (by kernel_rfl) (by kernel_rfl) (by kernel_rfl)) (by exact k4 hk (by kernel_rfl) (by kernel_rfl) (by kernel_rfl) (by kernel_rfl)) (fun vz0 vz1=>by exact k4 hk (by kernel_rfl) (by kernel_rfl) (by kernel_rfl) (by kernel_rfl)) G
  ·exact HC.hit N (T0:=[32,kc k,59]) (R:=R) (k:=10) (n:=2) (b:=1) (e:=2) (tok_call N) (tok_target N (Nat.le_trans (Nat.succ_le_succ (Nat.succ_le_succ hl)) (by decide))) (Nat.le_trans (Nat.succ_le_succ (Nat.succ_le_succ hl)) (by decide)) (by decide) (by exact k4 hk (by kernel_rfl) (by kernel_rfl) (by kernel_rfl) (by kernel_rfl)) (by exact k4 hk (by kernel_rfl) (by kernel_rfl) (by kernel_rfl) (by kernel_rfl)) (by exact k4 hk (by kernel_rfl) (by kernel_rfl) (by kernel_rfl) (by kernel_rfl)) (by exact k4 hk (by kernel_rfl) (by kernel_rfl) (by kernel_rfl) (by kernel_rfl)) (fun vz0 vz1=>by exact k4 hk (by kernel_rfl) (by kernel_rfl) (by kernel_rfl) (by kernel_rfl)) G
  ·exact HC.hit N (T0:=[32,kc k,44]) (R:=R) (k:=10) (n:=2) (b:=1) (e:=2) (tok_call N) (tok_target N (Nat.le_trans (Nat.succ_le_succ (Nat.succ_le_succ hl)) (by decide))) (Nat.le_trans (Nat.succ_le_succ (Nat.succ_le_succ hl)) (by decide)) (by decide) (by exact k4 hk (by kernel_rfl) (by kernel_rfl) (by kernel_rfl) (by kernel_rfl)) (by exact k4 hk (by kernel_rfl) (by kernel_rfl) (by kernel_rfl) (by kernel_rfl)) (by exact k4 hk (by kernel_rfl) (by kernel_rfl) (by kernel_rfl) (by kernel_rfl)) (by exact k4 hk (by kernel_rfl) (by kernel_rfl) (by kernel_rfl) (by kernel_rfl)) (fun vz0 vz1=>by exact k4 hk (by kernel_rfl) (by kernel_rfl) (by kernel_rfl) (by kernel_rfl)) G
end
end
section
open PySem.Builtin.Re
noncomputable def wT (v:Nat):List Nat:=match v with
 | 0=>[61,34,34]
 | 1=>[61,97,45,49,46,98]
 | 2=>[61,34,50,32,50,34]
 | 3=>[61,34,92,34,34]
 | 4=>[61,34,120,44,121,34]
 | _=>[]
theorem wS_cons (c:Nat):∀ v,wS c v=c::wT v
 | 0 | 1 | 2 | 3 | 4=>rfl
 | _+5=>rfl
noncomputable def AfterPair (Z:List Nat):Prop:=Z=[] ∨ (∃ c R,Z=59::32::c::R) ∨ ∃ c R,Z=44::32::c::R
section
variable {w:World} {B:Hab} {h₀:Heap} (N:NatOk (C0 w B) h₀)
include N
theorem tok_miss {x:Sx} {d:Nat} (hd:d=59 ∨ d=44) {R:List Nat} (hl:R.length≤90000) {t:Tok} {RR:Result→Sx→Prop} (G:RR (.ok (.ret .none)) x) :
  HC (C0 w B) h₀ none 100 x (.call (.builtin "re.Pattern.search") ⟨[.ref 48,.str (S (d::R)) t],[]⟩) RR:=by
 rcases hd with rfl | rfl
 ·exact HC.miss N (T0:=[59]) (R:=R) (k:=5) (pc:=5) (tok_call N) (tok_target N (by simp only [List.cons_append,List.nil_append,List.length_cons];lia)) (by simp only [List.cons_append,List.nil_append,List.length_cons];lia) (by decide) (by kernel_rfl) (by kernel_rfl) (by kernel_rfl) ⟨by kernel_rfl,by kernel_rfl,⟨true,by kernel_rfl⟩,by kernel_rfl,by kernel_rfl,by kernel_rfl,Nat.le_of_ble_eq_true (by kernel_rfl),Nat.le_of_ble_eq_true (by kernel_rfl)⟩ (Nat.le_of_eq (by kernel_rfl)) G
 ·exact HC.miss N (T0:=[44]) (R:=R) (k:=5) (pc:=5) (tok_call N) (tok_target N (by simp only [List.cons_append,List.nil_append,List.length_cons];lia)) (by simp only [List.cons_append,List.nil_append,List.length_cons];lia) (by decide) (by kernel_rfl) (by kernel_rfl) (by kernel_rfl) ⟨by kernel_rfl,by kernel_rfl,⟨true,by kernel_rfl⟩,by kernel_rfl,by kernel_rfl,by kernel_rfl,Nat.le_of_ble_eq_true (by kernel_rfl),Nat.le_of_ble_eq_true (by kernel_rfl)⟩ (Nat.le_of_eq (by kernel_rfl)) G
noncomputable def qS (v:Nat):List Nat:=match v with
 | 0=>[]
 | 2=>[50,32,50]
 | 3=>[92,34]
 | _=>[120,44,121]
theorem quo_hit {x:Sx} {v:Nat} (hv:v=0 ∨ v=2 ∨ v=3 ∨ v=4) {Z:List Nat} (hl:Z.length≤90000) {t:Tok} {RR:Result→Sx→Prop}
  (G:∀ m s,RR (.ok (.ret (.ref m))) ⟨x.ch,x.l,(m,matchO (wT v ++ Z) t 53 (wT v ++ Z).length s)::(s,spO (wT v).length 2 (2+(qS v).length))::x.r⟩) :
  HC (C0 w B) h₀ none 100 x (.call (.builtin "re.Pattern.search") ⟨[.ref 53,.str (S (wT v ++ Z)) t],[]⟩) RR:=by
 rcases hv with rfl | rfl | rfl | rfl
 ·exact HC.hit N (T0:=[61,34,34]) (R:=Z) (k:=21) (n:=3) (b:=2) (e:=2) (quo_call N) (quo_target N (by simp only [List.cons_append,List.nil_append,List.length_cons];lia)) (by simp only [List.cons_append,List.nil_append,List.length_cons];lia) (by decide) (by kernel_rfl) (by kernel_rfl) (by kernel_rfl) (by kernel_rfl) (fun vz0 vz1=>by kernel_rfl) G
 ·exact HC.hit N (T0:=[61,34,50,32,50,34]) (R:=Z) (k:=21) (n:=6) (b:=2) (e:=5) (quo_call N) (quo_target N (by simp only [List.cons_append,List.nil_append,List.length_cons];lia)) (by simp only [List.cons_append,List.nil_append,List.length_cons];lia) (by decide) (by kernel_rfl) (by kernel_rfl) (by kernel_rfl) (by kernel_rfl) (fun vz0 vz1=>by kernel_rfl) G
 ·exact HC.hit N (T0:=[61,34,92,34,34]) (R:=Z) (k:=27) (n:=5) (b:=2) (e:=4) (quo_call N) (quo_target N (by simp only [List.cons_append,List.nil_append,List.length_cons];lia)) (by simp only [List.cons_append,List.nil_append,List.length_cons];lia) (by decide) (by kernel_rfl) (by kernel_rfl) (by kernel_rfl) (by kernel_rfl) (fun vz0 vz1=>by kernel_rfl) G
 ·exact HC.hit N (T0:=[61,34,120,44,121,34]) (R:=Z) (k:=21) (n:=6) (b:=2) (e:=5) (quo_call N) (quo_target N (by simp only [List.cons_append,List.nil_append,List.length_cons];lia)) (by simp only [List.cons_append,List.nil_append,List.length_cons];lia) (by decide) (by kernel_rfl) (by kernel_rfl) (by kernel_rfl) (by kernel_rfl) (fun vz0 vz1=>by kernel_rfl) G
theorem quo_miss1 {x:Sx} {Z:List Nat} (hl:Z.length≤90000) {t:Tok} {RR:Result→Sx→Prop} (G:RR (.ok (.ret .none)) x) :
  HC (C0 w B) h₀ none 100 x (.call (.builtin "re.Pattern.search") ⟨[.ref 53,.str (S (wT 1 ++ Z)) t],[]⟩) RR:=by
 have hr:(49::46::98::Z).length≤90003:=Nat.add_le_add_right hl 3
 generalize hR:(49::46::98::Z)=R at hr
 rw [show wT 1 ++ Z=[61,97,45] ++ R from by rw [←hR];rfl]
 exact HC.miss N (T0:=[61,97,45]) (R:=R) (k:=7) (pc:=5) (quo_call N) (quo_target N (Nat.le_trans (Nat.add_le_add_right hr 3) (by decide))) (Nat.le_trans (Nat.add_le_add_right hr 3) (by decide)) (by decide) (by kernel_rfl) (by kernel_rfl) (by kernel_rfl) ⟨by kernel_rfl,by kernel_rfl,⟨true,by kernel_rfl⟩,by kernel_rfl,by kernel_rfl,by kernel_rfl,Nat.le_of_ble_eq_true (by kernel_rfl),Nat.le_of_ble_eq_true (by kernel_rfl)⟩ (by rw [show (fS codeQuo ([61,97,45] ++ R)).lastStart=max 0 (([61,97,45] ++ R).length - 2) from by kernel_rfl];exact Nat.max_le.mpr ⟨Nat.zero_le _,Nat.sub_le _ _⟩) G
theorem quo_miss5 {x:Sx} {Z:List Nat} (hZ:AfterPair Z) (hl:Z.length≤90000) {t:Tok} {RR:Result→Sx→Prop} (hc:∀ c R,Z=59::32::c::R ∨ Z=44::32::c::R→∃ k,k<4∧c=kc k) (G:RR (.ok (.ret .none)) x) :
  HC (C0 w B) h₀ none 100 x (.call (.builtin "re.Pattern.search") ⟨[.ref 53,.str (S Z) t],[]⟩) RR:=by
 rcases hZ with rfl | ⟨c,R,rfl⟩ | ⟨c,R,rfl⟩
 ·exact HC.searchOf (code:=codeQuo) (quo_call N) (quo_target N (by decide)) (k:=1) (by decide) (.inr ⟨by kernel_rfl,G⟩)
 ·refine el_EA (hc c R (.inl rfl)) fun k hk hE2=>?_
  subst hE2
  exact HC.miss N (T0:=[59,32,kc k]) (R:=R) (k:=4) (pc:=5) (quo_call N) (quo_target N (Nat.le_trans hl (by decide))) (Nat.le_trans hl (by decide)) (by decide) (by exact k4 hk (by kernel_rfl) (by kernel_rfl) (by kernel_rfl) (by kernel_rfl)) (by exact k4 hk (by kernel_rfl) (by kernel_rfl) (by kernel_rfl) (by kernel_rfl)) (by exact k4 hk (by kernel_rfl) (by kernel_rfl) (by kernel_rfl) (by kernel_rfl)) (by exact k4 hk ⟨by kernel_rfl,by kernel_rfl,⟨true,by kernel_rfl⟩,by kernel_rfl,by kernel_rfl,by kernel_rfl,Nat.le_of_ble_eq_true (by kernel_rfl),Nat.le_of_ble_eq_true (by kernel_rfl)⟩ ⟨by kernel_rfl,by kernel_rfl,⟨true,by kernel_rfl⟩,by kernel_rfl,by kernel_rfl,by kernel_rfl,Nat.le_of_ble_eq_true (by kernel_rfl),Nat.le_of_ble_eq_true (by kernel_rfl)⟩ ⟨by kernel_rfl,by kernel_rfl,⟨true,by kernel_rfl⟩,by kernel_rfl,by kernel_rfl,by kernel_rfl,Nat.le_of_ble_eq_true (by kernel_rfl),Nat.le_of_ble_eq_true (by kernel_rfl)⟩ ⟨by kernel_rfl,by kernel_rfl,⟨true,by kernel_rfl⟩,by kernel_rfl,by kernel_rfl,by kernel_rfl,Nat.le_of_ble_eq_true (by kernel_rfl),Nat.le_of_ble_eq_true (by kernel_rfl)⟩) (by rw [show (fS codeQuo ([59,32,kc k] ++ R)).lastStart=max 0 (([59,32,kc k] ++ R).length - 2) from by exact k4 hk (by kernel_rfl) (by kernel_rfl) (by kernel_rfl) (by kernel_rfl)];exact Nat.max_le.mpr ⟨Nat.zero_le _,Nat.sub_le _ _⟩) G
 ·refine el_EA (hc c R (.inr rfl)) fun k hk hE2=>?_
  subst hE2
  exact HC.miss N (T0:=[44,32,kc k]) (R:=R) (k:=4) (pc:=5) (quo_call N) (quo_target N (Nat.le_trans hl (by decide))) (Nat.le_trans hl (by decide)) (by decide) (by exact k4 hk (by kernel_rfl) (by kernel_rfl) (by kernel_rfl) (by kernel_rfl)) (by exact k4 hk (by kernel_rfl) (by kernel_rfl) (by kernel_rfl) (by kernel_rfl)) (by exact k4 hk (by kernel_rfl) (by kernel_rfl) (by kernel_rfl) (by kernel_rfl)) (by exact k4 hk ⟨by kernel_rfl,by kernel_rfl,⟨true,by kernel_rfl⟩,by kernel_rfl,by kernel_rfl,by kernel_rfl,Nat.le_of_ble_eq_true (by kernel_rfl),Nat.le_of_ble_eq_true (by kernel_rfl)⟩ ⟨by kernel_rfl,by kernel_rfl,⟨true,by kernel_rfl⟩,by kernel_rfl,by kernel_rfl,by kernel_rfl,Nat.le_of_ble_eq_true (by kernel_rfl),Nat.le_of_ble_eq_true (by kernel_rfl)⟩ ⟨by kernel_rfl,by kernel_rfl,⟨true,by kernel_rfl⟩,by kernel_rfl,by kernel_rfl,by kernel_rfl,Nat.le_of_ble_eq_true (by kernel_rfl),Nat.le_of_ble_eq_true (by kernel_rfl)⟩ ⟨by kernel_rfl,by kernel_rfl,⟨true,by kernel_rfl⟩,by kernel_rfl,by kernel_rfl,by kernel_rfl,Nat.le_of_ble_eq_true (by kernel_rfl),Nat.le_of_ble_eq_true (by kernel_rfl)⟩) (by rw [show (fS codeQuo ([44,32,kc k] ++ R)).lastStart=max 0 (([44,32,kc k] ++ R).length - 2) from by exact k4 hk (by kernel_rfl) (by kernel_rfl) (by kernel_rfl) (by kernel_rfl)];exact Nat.max_le.mpr ⟨Nat.zero_le _,Nat.sub_le _ _⟩) G
theorem val_hit {x:Sx} {Z:List Nat} (hZ:AfterPair Z) (hl:Z.length≤90000) {t:Tok} {RR:Result→Sx→Prop}
  (G:∀ m s,RR (.ok (.ret (.ref m))) ⟨x.ch,x.l,(m,matchO (wT 1 ++ Z) t 58 (wT 1 ++ Z).length s)::(s,spO 6 1 6)::x.r⟩) :
  HC (C0 w B) h₀ none 100 x (.call (.builtin "re.Pattern.search") ⟨[.ref 58,.str (S (wT 1 ++ Z)) t],[]⟩) RR:=by
 rcases hZ with rfl | ⟨c,R,rfl⟩ | ⟨c,R,rfl⟩
 ·exact HC.hitEnd N (T:=[61,97,45,49,46,98]) (k:=13) (n:=6) (b:=1) (e:=6) (val_call N) (val_target N (by decide)) (by decide) (by kernel_rfl) (fun vz0 vz1=>by kernel_rfl) G
 ·simp only [List.length_cons] at hl
  have hr:(32::c::R).length≤90000:=by simp only [List.length_cons];lia
  revert G
  generalize (32::c::R)=R' at hr
  intro G
  exact HC.hit N (T0:=[61,97,45,49,46,98,59]) (R:=R') (k:=13) (n:=6) (b:=1) (e:=6) (val_call N) (val_target N (by simp only [List.cons_append,List.nil_append,List.length_cons];lia)) (by simp only [List.cons_append,List.nil_append,List.length_cons];lia) (by decide) (by kernel_rfl) (by kernel_rfl) (by kernel_rfl) (by kernel_rfl) (fun vz0 vz1=>by kernel_rfl) G
 ·simp only [List.length_cons] at hl
  have hr:(32::c::R).length≤90000:=by simp only [List.length_cons];lia
  revert G
  generalize (32::c::R)=R' at hr
  intro G
  exact HC.hit N (T0:=[61,97,45,49,46,98,44]) (R:=R') (k:=13) (n:=6) (b:=1) (e:=6) (val_call N) (val_target N (by simp only [List.cons_append,List.nil_append,List.length_cons];lia)) (by simp only [List.cons_append,List.nil_append,List.length_cons];lia) (by decide) (by kernel_rfl) (by kernel_rfl) (by kernel_rfl) (by kernel_rfl) (fun vz0 vz1=>by kernel_rfl) G
theorem val_miss {x:Sx} {Z:List Nat} (hZ:AfterPair Z) (hl:Z.length≤90000) {t:Tok} {RR:Result→Sx→Prop} (G:RR (.ok (.ret .none)) x) :
  HC (C0 w B) h₀ none 100 x (.call (.builtin "re.Pattern.search") ⟨[.ref 58,.str (S Z) t],[]⟩) RR:=by
 rcases hZ with rfl | ⟨c,R,rfl⟩ | ⟨c,R,rfl⟩
 ·exact HC.searchOf (code:=codeVal) (val_call N) (val_target N (by decide)) (k:=1) (by decide) (.inr ⟨by kernel_rfl,G⟩)
 ·simp only [List.length_cons] at hl
  have hr:(32::c::R).length≤90000:=by simp only [List.length_cons];lia
  generalize (32::c::R)=R' at hr
  exact HC.miss N (T0:=[59]) (R:=R') (k:=4) (pc:=5) (val_call N) (val_target N (by simp only [List.cons_append,List.nil_append,List.length_cons];lia)) (by simp only [List.cons_append,List.nil_append,List.length_cons];lia) (by decide) (by kernel_rfl) (by kernel_rfl) (by kernel_rfl) ⟨by kernel_rfl,by kernel_rfl,⟨true,by kernel_rfl⟩,by kernel_rfl,by kernel_rfl,by kernel_rfl,Nat.le_of_ble_eq_true (by kernel_rfl),Nat.le_of_ble_eq_true (by kernel_rfl)⟩ (Nat.le_of_eq (by kernel_rfl)) G
 ·simp only [List.length_cons] at hl
  have hr:(32::c::R).length≤90000:=by simp only [List.length_cons];lia
  generalize (32::c::R)=R' at hr
  exact HC.miss N (T0:=[44]) (R:=R') (k:=4) (pc:=5) (val_call N) (val_target N (by simp only [List.cons_append,List.nil_append,List.length_cons];lia)) (by simp only [List.cons_append,List.nil_append,List.length_cons];lia) (by decide) (by kernel_rfl) (by kernel_rfl) (by kernel_rfl) ⟨by kernel_rfl,by kernel_rfl,⟨true,by kernel_rfl⟩,by kernel_rfl,by kernel_rfl,by kernel_rfl,Nat.le_of_ble_eq_true (by kernel_rfl),Nat.le_of_ble_eq_true (by kernel_rfl)⟩ (Nat.le_of_eq (by kernel_rfl)) G
end
end
section
variable {C:Cfg} {h₀:Heap} {hd:Option Value} {lv:Nat} {x:Sx} {R:Result→Sx→Prop} {E:Value→Sx→Prop}
theorem HT.ifS {test:PySem.Expr} {body orelse:List Stmt} {pos:Pos} {env:PySem.Env} {Q:Flow→Sx→Prop}
  (H:HT C h₀ hd lv x (isTrueZ test env (evalZ test env)) (fun b x'=>HT C h₀ hd lv x' (execsZ (if b then body else orelse) env) Q E) E):HT C h₀ hd lv x (execsZ [.If test body orelse pos] env) Q E:=by
 intro b tk A g d os h K D
 have H:=H b tk A g d os h K D
 rw [←isTrueZ_eq,←evalZ_eq] at H
 rw [←execsZ_eq]
 refine wpAny_execs_cons (wpAny_If (wpAny_mono H (fun bb s q=>?_) (fun vz0 vz1 q=>q)))
 refine el_EA q fun x' hZ1 T'=>?_
 try clear q
 obtain ⟨b',tk',h',hE2,D'⟩:=hZ1
 subst hE2
 have T2:=T' b' tk' A g d os h' K D'
 rw [←execsZ_eq] at T2
 cases bb
 all_goals
  refine wpAny_mono T2 (fun f s q=>?_) (fun vz0 vz1 q=>q)
  cases f with
  | next=>exact wpAny_execs_nil q
  | _=>exact q
theorem HC.whileLoop {test:PySem.Expr} {body:List Stmt} {env:PySem.Env} (I:Nat→Sx→Prop)
  (turn:∀ n y,I n y→HT C h₀ none lv y (isTrueZ test env (evalZ test env)) (fun b y1=>match b with
   | true=>HT C h₀ none lv y1 (execsZ body env) (fun f y2=>match f with | .next | .cont=>∃ k,k<n∧I k y2 | .brk=>R (.ok .next) y2 | .ret v=>R (.ok (.ret v)) y2) (fun vz0 vz1=>False)
   | false=>R (.ok .next) y1) (fun vz0 vz1=>False)) (n:Nat) {y:Sx} (h:I n y):HC C h₀ none lv y (.whileLoop test body [] env) R:=by
 induction n using Nat.strongRecOn generalizing y with
 | ind n ih =>
  intro b tk A g d os hp K D
  refine codeAny_of_tree ?_
  show wpAny _ A ((whileTurn test body [] env).onRaise (fun x=>do noteFrame x env;theTreesLotGoes x)) _ _ _
  refine wpAny_noted ?_
  simp only [whileTurn]
  rw [isTrueZ_eq,evalZ_eq,execsZ_eq]
  refine wpAny_bind (wpAny_mono (turn n y h b tk A g d os hp K D) ?_ (fun _ _ ⟨_,_,q⟩=>q.elim))
  intro bb s hZ0
  refine el_EA hZ0 fun y1 hZ1 T1=>?_
  try clear hZ0
  obtain ⟨b1,tk1,h1,hE2,D1⟩:=hZ1
  subst hE2
  cases bb with
  | false =>
   dsimp only at T1
   simp only [Bool.false_eq_true,if_false]
   rw [←execsZ_eq]
   refine wpAny_bind (wpAny_execs_nil (wpAny_pure ⟨y1,⟨_,_,_,rfl,D1⟩,T1⟩))
  | true =>
   dsimp only at T1
   simp only [if_true]
   refine wpAny_bind (wpAny_mono (T1 b1 tk1 A g d os h1 K D1) ?_ (fun _ _ ⟨_,_,q⟩=>q.elim))
   intro f s hZ0
   refine el_EA hZ0 fun y2 hZ1 T2=>?_
   try clear hZ0
   obtain ⟨b2,tk2,h2,hE2,D2⟩:=hZ1
   subst hE2
   cases f with
   | next=>obtain ⟨k,hk,hI⟩:=T2;exact wpAny_pure ⟨rfl,ih k hk hI b2 tk2 A g d os h2 K D2⟩
   | cont=>obtain ⟨k,hk,hI⟩:=T2;exact wpAny_pure ⟨rfl,ih k hk hI b2 tk2 A g d os h2 K D2⟩
   | brk=>exact wpAny_pure ⟨y2,⟨_,_,_,rfl,D2⟩,T2⟩
   | ret v=>exact wpAny_pure ⟨y2,⟨_,_,_,rfl,D2⟩,T2⟩
end
noncomputable abbrev qSp:Str:=S [115,112,108,105,116,95,104,101,97,100,101,114,95,119,111,114,100,115,46,60,108,111,99,97,108,115,62,46]
noncomputable abbrev envSp (C:Cfg) (f:Addr):PySem.Env:=envA C 70 [] qSp f
noncomputable abbrev forSp (C:Cfg):Stmt:=nthS (stmts C 70) 2
noncomputable abbrev whSp (C:Cfg):Stmt:=nthS (forBody (forSp C)) 2
noncomputable abbrev sB (C:Cfg) (i:Nat):Stmt:=nthS (whBody (whSp C)) i
noncomputable abbrev pB (C:Cfg) (i:Nat):Stmt:=nthS (ifBody (sB C 1)) i
noncomputable abbrev sHv:Str:=S [104,101,97,100,101,114,95,118,97,108,117,101,115]
noncomputable abbrev sRes:Str:=S [114,101,115,117,108,116]
noncomputable abbrev sText:Str:=S [116,101,120,116]
noncomputable abbrev sOrig:Str:=S [111,114,105,103,95,116,101,120,116]
noncomputable abbrev sPairs:Str:=S [112,97,105,114,115]
noncomputable abbrev sM:Str:=S [109]
noncomputable abbrev sName:Str:=S [110,97,109,101]
noncomputable abbrev sValue:Str:=S [118,97,108,117,101]
noncomputable abbrev sNj:Str:=S [110,111,110,95,106,117,110,107]
noncomputable abbrev sNr:Str:=S [110,114,95,106,117,110,107,95,99,104,97,114,115]
structure TS where
 t0:Tok
 t1:Tok
 t2:Tok
 t3:Tok
 t4:Tok
structure VS where
 hv:Value
 res:Addr
 orig:Value
 pairs:Addr
noncomputable abbrev frS (w:World) (T:TS) (V:VS) (txt:Value) (n:Nat) (rest:List DictEntry):Obj :=
 frameO ⟨ent w sHv T.t0 V.hv::ent w sRes T.t1 (.ref V.res)::ent w sText T.t2 txt::ent w sOrig T.t3 V.orig::ent w sPairs T.t4 (.ref V.pairs)::rest⟩ n
section
open PySem.Builtin.Re
section
variable {w:World} {B:Hab} {h₀:Heap} (N:NatOk (C0 w B) h₀) {x:Sx} {R:Result→Sx→Prop} {E:Value→Sx→Prop}
theorem entry_re_group:entryFor table "re.Match.group" = some Builtin.«re.Match.group»:=entryFor_of_tree (by kernel_rfl)
noncomputable abbrev reFoundZ:Value→Sem ReFound:=PySem.W.Fast.tw13008205659425576159
noncomputable abbrev reGroupNumberZ:ReFound→Value→Sem Nat:=PySem.W.Fast.tw5624012694473808327
noncomputable abbrev reTextOfZ:Value→Sem (Array Nat×Nat):=PySem.W.Fast.tw12741756408479679709
include N
theorem HT.mkStr {U:List Nat} {Q:Value→Sx→Prop} {lv:Nat} (hU:U.length≤1000000) (G:∀ t,Q (.str (S U) t) x):HT (C0 w B) h₀ none lv x (mkStr (S U)) Q E:=by
 unfold PySem.mkStr
 rw [if_neg (by show ¬ U.length > sizeLine;rw [sizeLine_eq];lia)]
 intro b tk
 exact HTa.val N [] [] 0 [] (a:=.str (S U) tk) (l:=x.l) (r:=x.r) (ch:=x.ch) (by kernel_rfl) rfl (G tk)
theorem group_call {m sp t1 pat lim n bb ee:Nat} {u:Tok} {T U:List Nat} {l r:Memo} {ch:Ch} (hm:(m,matchO T t1 pat lim sp)∈r) (hs:(sp,spO n bb ee)∈r)
  (hU:(⟨T⟩:Array Nat).extract bb ee=⟨U⟩) (hl:U.length≤1000000) (G:∀ t',R (.ok (.ret (.str (S U) t'))) ⟨ch,l,r⟩) :
  HC (C0 w B) h₀ none 100 ⟨ch,l,r⟩ (.call (.builtin "re.Match.group") ⟨[.ref m,.int 1 u],[]⟩) R:=by
 refine HC.reads (r:=(m,matchO T t1 pat lim sp)::(sp,spO n bb ee)::r) (Sub.cons hm (Sub.cons hs (Sub.refl _))) ?_
 refine HC.tree (lv:=99) (w:=0) (by rw [weightZ_eq];rfl) (fun b tk=>HTa.val N [2] [] 0 [] (a:=Fin.again (.builtin "re.Match.group" ⟨[.ref m,.int 1 u],[]⟩)) (l:=l) (r:=(m,matchO T t1 pat lim sp)::(sp,spO n bb ee)::r) (ch:=ch) (by kernel_rfl) rfl ?_)
 refine ⟨by kernel_rfl,HC.tree (lv:=99) (w:=0) (by rw [weightZ_eq];rfl) ?_⟩
 rw [denZ_builtin entry_re_group]
 show HT (C0 w B) h₀ none 99 ⟨ch,l,(m,matchO T t1 pat lim sp)::(sp,spO n bb ee)::r⟩ (noKeywords "Match.group" ⟨[.ref m,.int 1 u],[]⟩ >>= fun vz0=>reFound (.ref m) >>= fun f=>reGroupNumber f (.int 1 u) >>= fun g=>reGroupText f g .none >>= fun v=>ret v) _ _
 refine HT.bind ?_
 refine HT.pure' ?_
 rw [show reFound=reFoundZ from PySem.W.Fast.te13008205659425576159]
 refine HT.bindV0 N [2,4] (a:={ fields:=#[.str (S T) t1,.ref pat,.int 0 0,.int lim 0,.int 1 0,.ref sp],spans:=#[0,n,bb,ee] }) (by kernel_rfl) ?_
 rw [show reGroupNumber=reGroupNumberZ from PySem.W.Fast.te5624012694473808327]
 refine HT.bindV0 N [] (a:=1) (by kernel_rfl) ?_
 refine HT.reads (r:=r) (Sub.tail.trans Sub.tail) ?_
 refine HT.bind ?_
 show HT (C0 w B) h₀ none 99 _ (if ((bb:Int)<0 || (ee:Int)<0) then pure .none else (reTextOf (.str (S T) t1) >>= fun p=>reSlice p.1 p.2 bb ee)) _ _
 rw [if_neg (by simp)]
 rw [show reTextOf=reTextOfZ from PySem.W.Fast.te12741756408479679709]
 refine HT.bindV0 N [] (a:=(⟨T⟩,0)) (by kernel_rfl) ?_
 show HT (C0 w B) h₀ none 99 _ (mkStr ⟨(⟨T⟩:Array Nat).extract bb ee⟩) _ _
 rw [hU]
 exact HT.mkStr N hl fun t=>HT.pure' (G t)
end
section
variable {C:Cfg} {h₀:Heap} {hd:Option Value} {lv:Nat} {R:Result→Sx→Prop} {x:Sx}
theorem HC.lenS {T:List Nat} {t:Tok} (hz:T.length≤1000000) (G:∀ t,R (.ok (.ret (.int T.length t))) x) :
  HC C h₀ hd lv x (.builtin "len" ⟨[.str (S T) t],[]⟩) R:=by
 intro b tk A g d os h K D
 refine codeAny_builtin entry_len ?_
 refine wpAny_mono (wpAny_len_body (typeIs_str _ (S T) t) F.slot_str_len F.entry_str_len (F.args_str_len_1 _) (gives_str_len (S T) t) (by lia) (by show ¬ (((T.length:Nat):Int) ≥ 2 ^ 63);lia) (Q:=fun v s'=>∃ t,v = .int T.length t∧s'=⟨h,g,d,tk+1+1,os⟩) ⟨_,rfl,rfl⟩) ?_ (fun vz0 vz1 q=>q)
 intro fin s hZ0
 refine el_EAEA hZ0 fun r hE1 t hE2 hE3=>?_
 try clear hZ0
 subst hE1
 subst hE2
 subst hE3
 exact ⟨x,⟨b,tk+1+1,h,rfl,D.tok (tk+1+1)⟩,G t⟩
end
section
variable {w:World} {B:Hab} {h₀:Heap} (N:NatOk (C0 w B) h₀) {E:Value→Sx→Prop}
include N
theorem sp_test1 {f n c0:Nat} {T:TS} {V:VS} {Z:List Nat} {t:Tok} {rest:List DictEntry} {l r:Memo} {ch:Ch} (hZ:Z.length≤900000) {Q:Bool→Sx→Prop}
  (G:Q true ⟨ch,(f,frS w T V (.str (S (c0::Z)) t) n rest)::l,r⟩):HT (C0 w B) h₀ none 110 ⟨ch,(f,frS w T V (.str (S (c0::Z)) t) n rest)::l,r⟩ (isTrueZ (whTest (whSp (C0 w B))) (envSp (C0 w B) f) (evalZ (whTest (whSp (C0 w B))) (envSp (C0 w B) f))) Q E:=by
 refine HT.cut0 N [1] (c:=.builtin "len" ⟨[.str (S (c0::Z)) t],[]⟩) (by kernel_rfl) fun b tk=>?_
 refine HC.lenS (by simp only [List.length_cons];lia) fun t' b1 tk1=>?_
 exact HTa.val N [1] [0] 1 [] (a:=true) (l:=(f,frS w T V (.str (S (c0::Z)) t) n rest)::l) (r:=r) (ch:=ch) (by kernel_rfl) rfl G
theorem sp_test0 {f n:Nat} {T:TS} {V:VS} {t:Tok} {rest:List DictEntry} {l r:Memo} {ch:Ch} {Q:Bool→Sx→Prop}
  (G:Q false ⟨ch,(f,frS w T V (.str (S []) t) n rest)::l,r⟩):HT (C0 w B) h₀ none 110 ⟨ch,(f,frS w T V (.str (S []) t) n rest)::l,r⟩ (isTrueZ (whTest (whSp (C0 w B))) (envSp (C0 w B) f) (evalZ (whTest (whSp (C0 w B))) (envSp (C0 w B) f))) Q E :=
 fun b tk=>HTa.val N [1,1,1] [0] 1 [] (a:=false) (l:=(f,frS w T V (.str (S []) t) n rest)::l) (r:=r) (ch:=ch) (by kernel_rfl) rfl G
end
end
noncomputable abbrev qB (C:Cfg) (i:Nat):Stmt:=nthS (ifBody (pB C 3)) i
noncomputable abbrev vB (C:Cfg) (i:Nat):Stmt:=nthS (ifElse (pB C 3)) i
noncomputable abbrev xB (C:Cfg) (i:Nat):Stmt:=nthS (ifBody (vB C 1)) i
noncomputable abbrev nB (C:Cfg):Stmt:=nthS (ifElse (vB C 1)) 0
noncomputable def oV:Option Addr→Value
 | none=>.none
 | some a=>.ref a
section
variable {w:World} {B:Hab} {h₀:Heap} (N:NatOk (C0 w B) h₀) {E:Value→Sx→Prop} {Q:Flow→Sx→Prop} {f n:Nat} {T:TS} {V:VS} {rest:List DictEntry} {l r:Memo} {ch:Ch} {tm tn tv:Tok} {vm vn vv txt:Value}
include N
theorem sp_a0 {Z:List Nat} {t:Tok} {P:Option Addr→Memo→Prop}
  (H:∀ RR:Result→Sx→Prop,(∀ v r',P v r'→RR (.ok (.ret (oV v))) ⟨ch,(f,frS w T V (.str (S Z) t) n (ent w sM tm vm::rest))::l,r'⟩)→HC (C0 w B) h₀ none 100 ⟨ch,(f,frS w T V (.str (S Z) t) n (ent w sM tm vm::rest))::l,r⟩ (.call (.builtin "re.Pattern.search") ⟨[.ref 48,.str (S Z) t],[]⟩) RR)
  (G:∀ v r',P v r'→Q .next ⟨ch,(f,frS w T V (.str (S Z) t) n (ent w sM tm (oV v)::rest))::l,r'⟩):HT (C0 w B) h₀ none 110 ⟨ch,(f,frS w T V (.str (S Z) t) n (ent w sM tm vm::rest))::l,r⟩ (execsZ [sB (C0 w B) 0] (envSp (C0 w B) f)) Q E:=by
 refine HT.cut0 N [0,0,0,0,0,1] (c:=.call (.builtin "re.Pattern.search") ⟨[.ref 48,.str (S Z) t],[]⟩) (by kernel_rfl) fun b tk=>?_
 refine HC.less (H _ fun v r' hp b1 tk1=>?_) (by decide)
 cases v with
 | none=>exact HTa.val N [1,1] [0] 1 [] (a:=.next) (l:=(f,frS w T V (.str (S Z) t) n (ent w sM tm .none::rest))::l) (r:=r') (ch:=ch) (by kernel_rfl) rfl (G none r' hp)
 | some a=>exact HTa.val N [1,1] [0] 1 [] (a:=.next) (l:=(f,frS w T V (.str (S Z) t) n (ent w sM tm (.ref a)::rest))::l) (r:=r') (ch:=ch) (by kernel_rfl) rfl (G (some a) r' hp)
theorem sp_a0n {Z:List Nat} {t:Tok} {P:Option Addr→Memo→Prop}
  (H:∀ RR:Result→Sx→Prop,(∀ v r',P v r'→RR (.ok (.ret (oV v))) ⟨ch,(f,frS w T V (.str (S Z) t) 5 [])::l,r'⟩)→HC (C0 w B) h₀ none 100 ⟨ch,(f,frS w T V (.str (S Z) t) 5 [])::l,r⟩ (.call (.builtin "re.Pattern.search") ⟨[.ref 48,.str (S Z) t],[]⟩) RR)
  (G:∀ v r' tm,P v r'→Q .next ⟨ch,(f,frS w T V (.str (S Z) t) 6 [ent w sM tm (oV v)])::l,r'⟩):HT (C0 w B) h₀ none 110 ⟨ch,(f,frS w T V (.str (S Z) t) 5 [])::l,r⟩ (execsZ [sB (C0 w B) 0] (envSp (C0 w B) f)) Q E:=by
 refine HT.cut0 N [0,0,0,0,0,1] (c:=.call (.builtin "re.Pattern.search") ⟨[.ref 48,.str (S Z) t],[]⟩) (by kernel_rfl) fun b tk=>?_
 refine HC.less (H _ fun v r' hp b1 tk1=>?_) (by decide)
 cases v with
 | none=>exact HTa.val N [1,1] [0] 1 [] (a:=.next) (l:=(f,frS w T V (.str (S Z) t) 6 [ent w sM tk1 .none])::l) (r:=r') (ch:=ch) (by kernel_rfl) rfl (G none r' tk1 hp)
 | some a=>exact HTa.val N [1,1] [0] 1 [] (a:=.next) (l:=(f,frS w T V (.str (S Z) t) 6 [ent w sM tk1 (.ref a)])::l) (r:=r') (ch:=ch) (by kernel_rfl) rfl (G (some a) r' tk1 hp)
theorem sp_p2 {Z:List Nat} {t:Tok} {P:Option Addr→Memo→Prop}
  (H:∀ RR:Result→Sx→Prop,(∀ v r',P v r'→RR (.ok (.ret (oV v))) ⟨ch,(f,frS w T V (.str (S Z) t) n (ent w sM tm vm::rest))::l,r'⟩)→HC (C0 w B) h₀ none 100 ⟨ch,(f,frS w T V (.str (S Z) t) n (ent w sM tm vm::rest))::l,r⟩ (.call (.builtin "re.Pattern.search") ⟨[.ref 53,.str (S Z) t],[]⟩) RR)
  (G:∀ v r',P v r'→Q .next ⟨ch,(f,frS w T V (.str (S Z) t) n (ent w sM tm (oV v)::rest))::l,r'⟩):HT (C0 w B) h₀ none 110 ⟨ch,(f,frS w T V (.str (S Z) t) n (ent w sM tm vm::rest))::l,r⟩ (execsZ [pB (C0 w B) 2] (envSp (C0 w B) f)) Q E:=by
 refine HT.cut0 N [0,0,0,0,0,1] (c:=.call (.builtin "re.Pattern.search") ⟨[.ref 53,.str (S Z) t],[]⟩) (by kernel_rfl) fun b tk=>?_
 refine HC.less (H _ fun v r' hp b1 tk1=>?_) (by decide)
 cases v with
 | none=>exact HTa.val N [1,1] [0] 1 [] (a:=.next) (l:=(f,frS w T V (.str (S Z) t) n (ent w sM tm .none::rest))::l) (r:=r') (ch:=ch) (by kernel_rfl) rfl (G none r' hp)
 | some a=>exact HTa.val N [1,1] [0] 1 [] (a:=.next) (l:=(f,frS w T V (.str (S Z) t) n (ent w sM tm (.ref a)::rest))::l) (r:=r') (ch:=ch) (by kernel_rfl) rfl (G (some a) r' hp)
theorem sp_v0 {Z:List Nat} {t:Tok} {P:Option Addr→Memo→Prop}
  (H:∀ RR:Result→Sx→Prop,(∀ v r',P v r'→RR (.ok (.ret (oV v))) ⟨ch,(f,frS w T V (.str (S Z) t) n (ent w sM tm vm::rest))::l,r'⟩)→HC (C0 w B) h₀ none 100 ⟨ch,(f,frS w T V (.str (S Z) t) n (ent w sM tm vm::rest))::l,r⟩ (.call (.builtin "re.Pattern.search") ⟨[.ref 58,.str (S Z) t],[]⟩) RR)
  (G:∀ v r',P v r'→Q .next ⟨ch,(f,frS w T V (.str (S Z) t) n (ent w sM tm (oV v)::rest))::l,r'⟩):HT (C0 w B) h₀ none 110 ⟨ch,(f,frS w T V (.str (S Z) t) n (ent w sM tm vm::rest))::l,r⟩ (execsZ [vB (C0 w B) 0] (envSp (C0 w B) f)) Q E:=by
 refine HT.cut0 N [0,0,0,0,0,1] (c:=.call (.builtin "re.Pattern.search") ⟨[.ref 58,.str (S Z) t],[]⟩) (by kernel_rfl) fun b tk=>?_
 refine HC.less (H _ fun v r' hp b1 tk1=>?_) (by decide)
 cases v with
 | none=>exact HTa.val N [1,1] [0] 1 [] (a:=.next) (l:=(f,frS w T V (.str (S Z) t) n (ent w sM tm .none::rest))::l) (r:=r') (ch:=ch) (by kernel_rfl) rfl (G none r' hp)
 | some a=>exact HTa.val N [1,1] [0] 1 [] (a:=.next) (l:=(f,frS w T V (.str (S Z) t) n (ent w sM tm (.ref a)::rest))::l) (r:=r') (ch:=ch) (by kernel_rfl) rfl (G (some a) r' hp)
theorem sp_p0 {m sp c0 t1 pat lim nn bb ee:Nat} {U:List Nat} (hm:(m,matchO (c0::U) t1 pat lim sp)∈r) (hs:(sp,spO nn bb ee)∈r) (hn:nn≤U.length+1) (hT:U.length≤900000)
  (G:∀ t',Q .next ⟨ch,(f,frS w T V (.str (S ((c0::U).drop nn)) t') n (ent w sM tm (.ref m)::rest))::l,r⟩):HT (C0 w B) h₀ none 110 ⟨ch,(f,frS w T V txt n (ent w sM tm (.ref m)::rest))::l,r⟩ (execsZ [pB (C0 w B) 0] (envSp (C0 w B) f)) Q E:=by
 refine HT.cut0 N [0,1,0] (c:=.call (.ref 43) ⟨[.ref m],[]⟩) (by kernel_rfl) fun b tk=>?_
 refine HC.less (um_call N hm hs hn hT fun t' b1 tk1=>?_) (by decide)
 exact HTa.val N [1,1] [0] 1 [] (a:=.next) (l:=(f,frS w T V (.str (S ((c0::U).drop nn)) t') n (ent w sM tm (.ref m)::rest))::l) (r:=r) (ch:=ch) (by kernel_rfl) rfl (G t')
theorem sp_q0 {m sp c0 t1 pat lim nn bb ee:Nat} {U:List Nat} (hm:(m,matchO (c0::U) t1 pat lim sp)∈r) (hs:(sp,spO nn bb ee)∈r) (hn:nn≤U.length+1) (hT:U.length≤900000)
  (G:∀ t',Q .next ⟨ch,(f,frS w T V (.str (S ((c0::U).drop nn)) t') n (ent w sM tm (.ref m)::rest))::l,r⟩):HT (C0 w B) h₀ none 110 ⟨ch,(f,frS w T V txt n (ent w sM tm (.ref m)::rest))::l,r⟩ (execsZ [qB (C0 w B) 0] (envSp (C0 w B) f)) Q E:=by
 refine HT.cut0 N [0,1,0] (c:=.call (.ref 43) ⟨[.ref m],[]⟩) (by kernel_rfl) fun b tk=>?_
 refine HC.less (um_call N hm hs hn hT fun t' b1 tk1=>?_) (by decide)
 exact HTa.val N [1,1] [0] 1 [] (a:=.next) (l:=(f,frS w T V (.str (S ((c0::U).drop nn)) t') n (ent w sM tm (.ref m)::rest))::l) (r:=r) (ch:=ch) (by kernel_rfl) rfl (G t')
theorem sp_w0 {m sp c0 t1 pat lim nn bb ee:Nat} {U:List Nat} (hm:(m,matchO (c0::U) t1 pat lim sp)∈r) (hs:(sp,spO nn bb ee)∈r) (hn:nn≤U.length+1) (hT:U.length≤900000)
  (G:∀ t',Q .next ⟨ch,(f,frS w T V (.str (S ((c0::U).drop nn)) t') n (ent w sM tm (.ref m)::rest))::l,r⟩):HT (C0 w B) h₀ none 110 ⟨ch,(f,frS w T V txt n (ent w sM tm (.ref m)::rest))::l,r⟩ (execsZ [xB (C0 w B) 0] (envSp (C0 w B) f)) Q E:=by
 refine HT.cut0 N [0,1,0] (c:=.call (.ref 43) ⟨[.ref m],[]⟩) (by kernel_rfl) fun b tk=>?_
 refine HC.less (um_call N hm hs hn hT fun t' b1 tk1=>?_) (by decide)
 exact HTa.val N [1,1] [0] 1 [] (a:=.next) (l:=(f,frS w T V (.str (S ((c0::U).drop nn)) t') n (ent w sM tm (.ref m)::rest))::l) (r:=r) (ch:=ch) (by kernel_rfl) rfl (G t')
theorem sp_p1 {m sp t1 pat lim nn bb ee:Nat} {U Y:List Nat} (hm:(m,matchO U t1 pat lim sp)∈r) (hs:(sp,spO nn bb ee)∈r) (hU:(⟨U⟩:Array Nat).extract bb ee=⟨Y⟩) (hl:Y.length≤1000000)
  (G:∀ t',Q .next ⟨ch,(f,frS w T V txt n (ent w sM tm (.ref m)::ent w sName tn (.str (S Y) t')::rest))::l,r⟩):HT (C0 w B) h₀ none 110 ⟨ch,(f,frS w T V txt n (ent w sM tm (.ref m)::ent w sName tn vn::rest))::l,r⟩ (execsZ [pB (C0 w B) 1] (envSp (C0 w B) f)) Q E:=by
 refine HT.reads (r:=(m,matchO U t1 pat lim sp)::r) (Sub.cons hm (Sub.refl _)) ?_
 intro b tk
 (
  refine HTa.cutN N [1,2,2,2,2] [0] 1 [] (c:=.call (.builtin "re.Match.group") ⟨[.ref m,.int 1 tk],[]⟩) (l:=(f,frS w T V txt n (ent w sM tm (.ref m)::ent w sName tn vn::rest))::l) (r:=(m,matchO U t1 pat lim sp)::r) (ch:=ch) (by kernel_rfl) rfl ?_
  refine HC.reads (r:=r) Sub.tail ?_
  refine HC.less (group_call N hm hs hU hl fun t' b1 tk1=>?_) (by decide)
  exact HTa.val N [1,1] [0] 1 [] (a:=.next) (l:=(f,frS w T V txt n (ent w sM tm (.ref m)::ent w sName tn (.str (S Y) t')::rest))::l) (r:=r) (ch:=ch) (by kernel_rfl) rfl (G t' ))
theorem sp_p1n {m sp t1 pat lim nn bb ee:Nat} {U Y:List Nat} (hm:(m,matchO U t1 pat lim sp)∈r) (hs:(sp,spO nn bb ee)∈r) (hU:(⟨U⟩:Array Nat).extract bb ee=⟨Y⟩) (hl:Y.length≤1000000)
  (G:∀ t' tn,Q .next ⟨ch,(f,frS w T V txt 7 [ent w sM tm (.ref m),ent w sName tn (.str (S Y) t')])::l,r⟩):HT (C0 w B) h₀ none 110 ⟨ch,(f,frS w T V txt 6 [ent w sM tm (.ref m)])::l,r⟩ (execsZ [pB (C0 w B) 1] (envSp (C0 w B) f)) Q E:=by
 refine HT.reads (r:=(m,matchO U t1 pat lim sp)::r) (Sub.cons hm (Sub.refl _)) ?_
 intro b tk
 (
  refine HTa.cutN N [1,2,2,2,2] [0] 1 [] (c:=.call (.builtin "re.Match.group") ⟨[.ref m,.int 1 tk],[]⟩) (l:=(f,frS w T V txt 6 [ent w sM tm (.ref m)])::l) (r:=(m,matchO U t1 pat lim sp)::r) (ch:=ch) (by kernel_rfl) rfl ?_
  refine HC.reads (r:=r) Sub.tail ?_
  refine HC.less (group_call N hm hs hU hl fun t' b1 tk1=>?_) (by decide)
  exact HTa.val N [1,1] [0] 1 [] (a:=.next) (l:=(f,frS w T V txt 7 [ent w sM tm (.ref m),ent w sName tk1 (.str (S Y) t')])::l) (r:=r) (ch:=ch) (by kernel_rfl) rfl (G t' tk1))
theorem sp_q1 {m sp t1 pat lim nn bb ee:Nat} {U Y:List Nat} (hm:(m,matchO U t1 pat lim sp)∈r) (hs:(sp,spO nn bb ee)∈r) (hU:(⟨U⟩:Array Nat).extract bb ee=⟨Y⟩) (hl:Y.length≤1000000)
  (G:∀ t',Q .next ⟨ch,(f,frS w T V txt n (ent w sM tm (.ref m)::ent w sName tn vn::ent w sValue tv (.str (S Y) t')::rest))::l,r⟩):HT (C0 w B) h₀ none 110 ⟨ch,(f,frS w T V txt n (ent w sM tm (.ref m)::ent w sName tn vn::ent w sValue tv vv::rest))::l,r⟩ (execsZ [qB (C0 w B) 1] (envSp (C0 w B) f)) Q E:=by
 refine HT.reads (r:=(m,matchO U t1 pat lim sp)::r) (Sub.cons hm (Sub.refl _)) ?_
 intro b tk
 (
  refine HTa.cutN N [1,2,2,2,2] [0] 1 [] (c:=.call (.builtin "re.Match.group") ⟨[.ref m,.int 1 tk],[]⟩) (l:=(f,frS w T V txt n (ent w sM tm (.ref m)::ent w sName tn vn::ent w sValue tv vv::rest))::l) (r:=(m,matchO U t1 pat lim sp)::r) (ch:=ch) (by kernel_rfl) rfl ?_
  refine HC.reads (r:=r) Sub.tail ?_
  refine HC.less (group_call N hm hs hU hl fun t' b1 tk1=>?_) (by decide)
  exact HTa.val N [1,1] [0] 1 [] (a:=.next) (l:=(f,frS w T V txt n (ent w sM tm (.ref m)::ent w sName tn vn::ent w sValue tv (.str (S Y) t')::rest))::l) (r:=r) (ch:=ch) (by kernel_rfl) rfl (G t' ))
theorem sp_w1 {m sp t1 pat lim nn bb ee:Nat} {U Y:List Nat} (hm:(m,matchO U t1 pat lim sp)∈r) (hs:(sp,spO nn bb ee)∈r) (hU:(⟨U⟩:Array Nat).extract bb ee=⟨Y⟩) (hl:Y.length≤1000000)
  (G:∀ t',Q .next ⟨ch,(f,frS w T V txt n (ent w sM tm (.ref m)::ent w sName tn vn::ent w sValue tv (.str (S Y) t')::rest))::l,r⟩):HT (C0 w B) h₀ none 110 ⟨ch,(f,frS w T V txt n (ent w sM tm (.ref m)::ent w sName tn vn::ent w sValue tv vv::rest))::l,r⟩ (execsZ [xB (C0 w B) 1] (envSp (C0 w B) f)) Q E:=by
 refine HT.reads (r:=(m,matchO U t1 pat lim sp)::r) (Sub.cons hm (Sub.refl _)) ?_
 intro b tk
 (
  refine HTa.cutN N [1,2,2,2,2] [0] 1 [] (c:=.call (.builtin "re.Match.group") ⟨[.ref m,.int 1 tk],[]⟩) (l:=(f,frS w T V txt n (ent w sM tm (.ref m)::ent w sName tn vn::ent w sValue tv vv::rest))::l) (r:=(m,matchO U t1 pat lim sp)::r) (ch:=ch) (by kernel_rfl) rfl ?_
  refine HC.reads (r:=r) Sub.tail ?_
  refine HC.less (group_call N hm hs hU hl fun t' b1 tk1=>?_) (by decide)
  exact HTa.val N [1,1] [0] 1 [] (a:=.next) (l:=(f,frS w T V txt n (ent w sM tm (.ref m)::ent w sName tn vn::ent w sValue tv (.str (S Y) t')::rest))::l) (r:=r) (ch:=ch) (by kernel_rfl) rfl (G t' ))
theorem sp_w1n {m sp t1 pat lim nn bb ee:Nat} {U Y:List Nat} (hm:(m,matchO U t1 pat lim sp)∈r) (hs:(sp,spO nn bb ee)∈r) (hU:(⟨U⟩:Array Nat).extract bb ee=⟨Y⟩) (hl:Y.length≤1000000)
  (G:∀ t' tv,Q .next ⟨ch,(f,frS w T V txt 8 [ent w sM tm (.ref m),ent w sName tn vn,ent w sValue tv (.str (S Y) t')])::l,r⟩):HT (C0 w B) h₀ none 110 ⟨ch,(f,frS w T V txt 7 [ent w sM tm (.ref m),ent w sName tn vn])::l,r⟩ (execsZ [xB (C0 w B) 1] (envSp (C0 w B) f)) Q E:=by
 refine HT.reads (r:=(m,matchO U t1 pat lim sp)::r) (Sub.cons hm (Sub.refl _)) ?_
 intro b tk
 (
  refine HTa.cutN N [1,2,2,2,2] [0] 1 [] (c:=.call (.builtin "re.Match.group") ⟨[.ref m,.int 1 tk],[]⟩) (l:=(f,frS w T V txt 7 [ent w sM tm (.ref m),ent w sName tn vn])::l) (r:=(m,matchO U t1 pat lim sp)::r) (ch:=ch) (by kernel_rfl) rfl ?_
  refine HC.reads (r:=r) Sub.tail ?_
  refine HC.less (group_call N hm hs hU hl fun t' b1 tk1=>?_) (by decide)
  exact HTa.val N [1,1] [0] 1 [] (a:=.next) (l:=(f,frS w T V txt 8 [ent w sM tm (.ref m),ent w sName tn vn,ent w sValue tk1 (.str (S Y) t')])::l) (r:=r) (ch:=ch) (by kernel_rfl) rfl (G t' tk1))
theorem sp_i1 {Q:Bool→Sx→Prop} {m sp t1 pat lim:Nat} {U:List Nat} (hm:(m,matchO U t1 pat lim sp)∈r) (G:Q true ⟨ch,(f,frS w T V txt n (ent w sM tm (.ref m)::rest))::l,(m,matchO U t1 pat lim sp)::r⟩):HT (C0 w B) h₀ none 110 ⟨ch,(f,frS w T V txt n (ent w sM tm (.ref m)::rest))::l,r⟩ (isTrueZ (ifTest (sB (C0 w B) 1)) (envSp (C0 w B) f) (evalZ (ifTest (sB (C0 w B) 1)) (envSp (C0 w B) f))) Q E:=by
 refine HT.reads (r:=(m,matchO U t1 pat lim sp)::r) (Sub.cons hm (Sub.refl _)) ?_
 exact HT.val0 N [1,2,2] (a:=true) (by kernel_rfl) (G)
theorem sp_i0 {Q:Bool→Sx→Prop} (G:Q false ⟨ch,(f,frS w T V txt n (ent w sM tm .none::rest))::l,r⟩):HT (C0 w B) h₀ none 110 ⟨ch,(f,frS w T V txt n (ent w sM tm .none::rest))::l,r⟩ (isTrueZ (ifTest (sB (C0 w B) 1)) (envSp (C0 w B) f) (evalZ (ifTest (sB (C0 w B) 1)) (envSp (C0 w B) f))) Q E:=by
 exact HT.val0 N [1] (a:=false) (by kernel_rfl) G
theorem sp_qi1 {Q:Bool→Sx→Prop} {m sp t1 pat lim:Nat} {U:List Nat} (hm:(m,matchO U t1 pat lim sp)∈r) (G:Q true ⟨ch,(f,frS w T V txt n (ent w sM tm (.ref m)::rest))::l,(m,matchO U t1 pat lim sp)::r⟩):HT (C0 w B) h₀ none 110 ⟨ch,(f,frS w T V txt n (ent w sM tm (.ref m)::rest))::l,r⟩ (isTrueZ (ifTest (pB (C0 w B) 3)) (envSp (C0 w B) f) (evalZ (ifTest (pB (C0 w B) 3)) (envSp (C0 w B) f))) Q E:=by
 refine HT.reads (r:=(m,matchO U t1 pat lim sp)::r) (Sub.cons hm (Sub.refl _)) ?_
 exact HT.val0 N [1,2,2] (a:=true) (by kernel_rfl) (G)
theorem sp_qi0 {Q:Bool→Sx→Prop} (G:Q false ⟨ch,(f,frS w T V txt n (ent w sM tm .none::rest))::l,r⟩):HT (C0 w B) h₀ none 110 ⟨ch,(f,frS w T V txt n (ent w sM tm .none::rest))::l,r⟩ (isTrueZ (ifTest (pB (C0 w B) 3)) (envSp (C0 w B) f) (evalZ (ifTest (pB (C0 w B) 3)) (envSp (C0 w B) f))) Q E:=by
 exact HT.val0 N [1] (a:=false) (by kernel_rfl) G
theorem sp_vi1 {Q:Bool→Sx→Prop} {m sp t1 pat lim:Nat} {U:List Nat} (hm:(m,matchO U t1 pat lim sp)∈r) (G:Q true ⟨ch,(f,frS w T V txt n (ent w sM tm (.ref m)::rest))::l,(m,matchO U t1 pat lim sp)::r⟩):HT (C0 w B) h₀ none 110 ⟨ch,(f,frS w T V txt n (ent w sM tm (.ref m)::rest))::l,r⟩ (isTrueZ (ifTest (vB (C0 w B) 1)) (envSp (C0 w B) f) (evalZ (ifTest (vB (C0 w B) 1)) (envSp (C0 w B) f))) Q E:=by
 refine HT.reads (r:=(m,matchO U t1 pat lim sp)::r) (Sub.cons hm (Sub.refl _)) ?_
 exact HT.val0 N [1,2,2] (a:=true) (by kernel_rfl) (G)
theorem sp_vi0 {Q:Bool→Sx→Prop} (G:Q false ⟨ch,(f,frS w T V txt n (ent w sM tm .none::rest))::l,r⟩):HT (C0 w B) h₀ none 110 ⟨ch,(f,frS w T V txt n (ent w sM tm .none::rest))::l,r⟩ (isTrueZ (ifTest (vB (C0 w B) 1)) (envSp (C0 w B) f) (evalZ (ifTest (vB (C0 w B) 1)) (envSp (C0 w B) f))) Q E:=by
 exact HT.val0 N [1] (a:=false) (by kernel_rfl) G
theorem sp_x2 {m:Addr} {t:Tok}
  (G:∀ t',Q .next ⟨ch,(f,frS w T V txt n (ent w sM tm (.ref m)::ent w sName tn vn::ent w sValue tv (.str (S [97,45,49,46,98]) t')::rest))::l,r⟩):HT (C0 w B) h₀ none 110 ⟨ch,(f,frS w T V txt n (ent w sM tm (.ref m)::ent w sName tn vn::ent w sValue tv (.str (S [97,45,49,46,98]) t)::rest))::l,r⟩ (execsZ [xB (C0 w B) 2] (envSp (C0 w B) f)) Q E:=by
 exact HT.val0 N [1,1,1,1] (a:=.next) (by kernel_rfl) (G t)
theorem sp_n (G:Q .next ⟨ch,(f,frS w T V txt n (ent w sM tm .none::ent w sName tn vn::ent w sValue tv .none::rest))::l,r⟩):HT (C0 w B) h₀ none 110 ⟨ch,(f,frS w T V txt n (ent w sM tm .none::ent w sName tn vn::ent w sValue tv vv::rest))::l,r⟩ (execsZ [nB (C0 w B)] (envSp (C0 w B) f)) Q E:=by
 intro b tk
 exact HTa.val N [1,1] [0] 1 [] (a:=.next) (l:=(f,frS w T V txt n (ent w sM tm .none::ent w sName tn vn::ent w sValue tv .none::rest))::l) (r:=r) (ch:=ch) (by kernel_rfl) rfl G
theorem sp_p4 {k v t1 t2 rs ps n':Nat} {oV hV:Value} {es:Array Value} (hv:v<6) (hz:es.size≤100000)
  (G:∀ p n2,Q .next ⟨ch,(f,frS w T ⟨hV,rs,oV,ps⟩ txt n (ent w sM tm vm::ent w sName tn (.str (S [k]) t1)::ent w sValue tv (vV v t2)::rest))::(ps,listO (es.push (.ref p)) n2)::l,(p,pairO k v t1 t2)::r⟩) :
  HT (C0 w B) h₀ none 110 ⟨ch,(f,frS w T ⟨hV,rs,oV,ps⟩ txt n (ent w sM tm vm::ent w sName tn (.str (S [k]) t1)::ent w sValue tv (vV v t2)::rest))::(ps,listO es n')::l,r⟩ (execsZ [pB (C0 w B) 4] (envSp (C0 w B) f)) Q E:=by
 intro b tk
 have key:∀ {c:Code} {RR:Result→Sx→Prop},c = .call (.builtin "list.append") ⟨[.ref ps,.ref b],[]⟩→(∀ n2,RR (.ok (.ret .none)) ⟨ch,(ps,listO (es.push (.ref b)) n2)::(f,frS w T ⟨hV,rs,oV,ps⟩ txt n (ent w sM tm vm::ent w sName tn (.str (S [k]) t1)::ent w sValue tv (vV v t2)::rest))::l,(b,pairO k v t1 t2)::r⟩)→HC (C0 w B) h₀ none 110 ⟨ch,(ps,listO es n')::(f,frS w T ⟨hV,rs,oV,ps⟩ txt n (ent w sM tm vm::ent w sName tn (.str (S [k]) t1)::ent w sValue tv (vV v t2)::rest))::l,(b,pairO k v t1 t2)::r⟩ c RR:=by
  rintro c RR rfl h
  exact HC.append (by rw [sizeLine_eq];lia) (h _)
 rcases lt6 (by assumption:v<6) with rfl | rfl | rfl | rfl | rfl | rfl
 ·(
   refine HTa.cut N [1,3,3,3,3,1,1] [2,1] 3 [0] (c:=.call (.builtin "list.append") ⟨[.ref ps,.ref b],[]⟩) (l:=(ps,listO es n')::(f,frS w T ⟨hV,rs,oV,ps⟩ txt n (ent w sM tm vm::ent w sName tn (.str (S [k]) t1)::ent w sValue tv (vV 0 t2)::rest))::l) (r:=(b,pairO k 0 t1 t2)::r) (ch:=ch) (by kernel_rfl) rfl (by intro h;cases h) ?_
   refine key rfl fun n2 b1 tk1=>?_
   exact HTa.val N [] [1,0] 2 [] (a:=.next) (l:=(f,frS w T ⟨hV,rs,oV,ps⟩ txt n (ent w sM tm vm::ent w sName tn (.str (S [k]) t1)::ent w sValue tv (vV 0 t2)::rest))::(ps,listO (es.push (.ref b)) n2)::l) (r:=(b,pairO k 0 t1 t2)::r) (ch:=ch) (by kernel_rfl) rfl (G b n2))
 ·(
   refine HTa.cut N [1,3,3,3,3,1,1] [2,1] 3 [0] (c:=.call (.builtin "list.append") ⟨[.ref ps,.ref b],[]⟩) (l:=(ps,listO es n')::(f,frS w T ⟨hV,rs,oV,ps⟩ txt n (ent w sM tm vm::ent w sName tn (.str (S [k]) t1)::ent w sValue tv (vV 1 t2)::rest))::l) (r:=(b,pairO k 1 t1 t2)::r) (ch:=ch) (by kernel_rfl) rfl (by intro h;cases h) ?_
   refine key rfl fun n2 b1 tk1=>?_
   exact HTa.val N [] [1,0] 2 [] (a:=.next) (l:=(f,frS w T ⟨hV,rs,oV,ps⟩ txt n (ent w sM tm vm::ent w sName tn (.str (S [k]) t1)::ent w sValue tv (vV 1 t2)::rest))::(ps,listO (es.push (.ref b)) n2)::l) (r:=(b,pairO k 1 t1 t2)::r) (ch:=ch) (by kernel_rfl) rfl (G b n2))
 ·(
   refine HTa.cut N [1,3,3,3,3,1,1] [2,1] 3 [0] (c:=.call (.builtin "list.append") ⟨[.ref ps,.ref b],[]⟩) (l:=(ps,listO es n')::(f,frS w T ⟨hV,rs,oV,ps⟩ txt n (ent w sM tm vm::ent w sName tn (.str (S [k]) t1)::ent w sValue tv (vV 2 t2)::rest))::l) (r:=(b,pairO k 2 t1 t2)::r) (ch:=ch) (by kernel_rfl) rfl (by intro h;cases h) ?_
   refine key rfl fun n2 b1 tk1=>?_
   exact HTa.val N [] [1,0] 2 [] (a:=.next) (l:=(f,frS w T ⟨hV,rs,oV,ps⟩ txt n (ent w sM tm vm::ent w sName tn (.str (S [k]) t1)::ent w sValue tv (vV 2 t2)::rest))::(ps,listO (es.push (.ref b)) n2)::l) (r:=(b,pairO k 2 t1 t2)::r) (ch:=ch) (by kernel_rfl) rfl (G b n2))
 ·(
   refine HTa.cut N [1,3,3,3,3,1,1] [2,1] 3 [0] (c:=.call (.builtin "list.append") ⟨[.ref ps,.ref b],[]⟩) (l:=(ps,listO es n')::(f,frS w T ⟨hV,rs,oV,ps⟩ txt n (ent w sM tm vm::ent w sName tn (.str (S [k]) t1)::ent w sValue tv (vV 3 t2)::rest))::l) (r:=(b,pairO k 3 t1 t2)::r) (ch:=ch) (by kernel_rfl) rfl (by intro h;cases h) ?_
   refine key rfl fun n2 b1 tk1=>?_
   exact HTa.val N [] [1,0] 2 [] (a:=.next) (l:=(f,frS w T ⟨hV,rs,oV,ps⟩ txt n (ent w sM tm vm::ent w sName tn (.str (S [k]) t1)::ent w sValue tv (vV 3 t2)::rest))::(ps,listO (es.push (.ref b)) n2)::l) (r:=(b,pairO k 3 t1 t2)::r) (ch:=ch) (by kernel_rfl) rfl (G b n2))
 ·(
   refine HTa.cut N [1,3,3,3,3,1,1] [2,1] 3 [0] (c:=.call (.builtin "list.append") ⟨[.ref ps,.ref b],[]⟩) (l:=(ps,listO es n')::(f,frS w T ⟨hV,rs,oV,ps⟩ txt n (ent w sM tm vm::ent w sName tn (.str (S [k]) t1)::ent w sValue tv (vV 4 t2)::rest))::l) (r:=(b,pairO k 4 t1 t2)::r) (ch:=ch) (by kernel_rfl) rfl (by intro h;cases h) ?_
   refine key rfl fun n2 b1 tk1=>?_
   exact HTa.val N [] [1,0] 2 [] (a:=.next) (l:=(f,frS w T ⟨hV,rs,oV,ps⟩ txt n (ent w sM tm vm::ent w sName tn (.str (S [k]) t1)::ent w sValue tv (vV 4 t2)::rest))::(ps,listO (es.push (.ref b)) n2)::l) (r:=(b,pairO k 4 t1 t2)::r) (ch:=ch) (by kernel_rfl) rfl (G b n2))
 ·(
   refine HTa.cut N [1,3,3,3,3,1,1] [2,1] 3 [0] (c:=.call (.builtin "list.append") ⟨[.ref ps,.ref b],[]⟩) (l:=(ps,listO es n')::(f,frS w T ⟨hV,rs,oV,ps⟩ txt n (ent w sM tm vm::ent w sName tn (.str (S [k]) t1)::ent w sValue tv (vV 5 t2)::rest))::l) (r:=(b,pairO k 5 t1 t2)::r) (ch:=ch) (by kernel_rfl) rfl (by intro h;cases h) ?_
   refine key rfl fun n2 b1 tk1=>?_
   exact HTa.val N [] [1,0] 2 [] (a:=.next) (l:=(f,frS w T ⟨hV,rs,oV,ps⟩ txt n (ent w sM tm vm::ent w sName tn (.str (S [k]) t1)::ent w sValue tv (vV 5 t2)::rest))::(ps,listO (es.push (.ref b)) n2)::l) (r:=(b,pairO k 5 t1 t2)::r) (ch:=ch) (by kernel_rfl) rfl (G b n2))
end
noncomputable abbrev codeS (b t:Nat):Obj:={ cls:=.type "code",data:=.fields #[.str (S [60,108,97,109,98,100,97,62]) t,.str (S (qSp.cps.toList ++ [60,108,97,109,98,100,97,62])) (t+1),.str (S [47,99,108,97,105,109,47,99,117,116,46,112,121]) (t+2),
 .int 26 0,.int 1 0,.int 0 0,.int 0 0,.int 19 0,.ref b,.bool true,.int 276 0,.ref (b+1),.none,.ref (b+2),.ref (b+3),.ref (b+4),.int ↑(t+4) 0,.int 26 0,.str (S [47,99,108,97,105,109,47,99,117,116,46,112,121]) (t+5)] }
noncomputable abbrev chS (a b:Addr):Ch:=[(82,#[.int 57 0,.int 50 0,.ref a]),(65,#[.int 26 0,.int 49 0,.ref b])]
section
variable {w:World} {B:Hab} {h₀:Heap} (N:NatOk (C0 w B) h₀) {E:Value→Sx→Prop} {Q:Flow→Sx→Prop} {f n cb:Nat} {T:TS} {V:VS} {rest:List DictEntry} {l r:Memo} {tm tn tv:Tok} {vm vn txt:Value}
include N
theorem sp_q2f {t:Tok} (G:∀ t' cs ct,Q .next ⟨chS cb (cs+5),(f,frS w T V txt n (ent w sM tm vm::ent w sName tn vn::ent w sValue tv (vV 2 t')::rest))::l,(cs+5,codeS cs ct)::r⟩) :
  HT (C0 w B) h₀ none 110 ⟨chJ cb,(f,frS w T V txt n (ent w sM tm vm::ent w sName tn vn::ent w sValue tv (.str (S (qS 2)) t)::rest))::l,r⟩ (execsZ [qB (C0 w B) 2] (envSp (C0 w B) f)) Q E:=by
 obtain ⟨b1,b2,b3,b4⟩:=B
 intro b tk
 exact HTa.valF N [0,0,0,0,0,0,0,0,0,0,0,0,0,15,1,0,1,0,0,0,0,1,1,1,1,1,1,1,17,17] [8] 9 [2] (fun vz0=>.next) (fun m'=>(f,frS w T V txt n (ent w sM tm vm::ent w sName tn vn::ent w sValue tv (vV 2 (tokV (varAt m' 8 7)))::rest))::l) (fun m'=>(b+5,codeS b tk)::r) (fun vz0=>chS cb (b+5)) (by kernel_rfl) rfl fun m'=>G _ _ _
theorem sp_q2 {v cs ct t:Nat} (hv:v=0 ∨ v=2 ∨ v=3 ∨ v=4) (G:∀ t',Q .next ⟨chS cb (cs+5),(f,frS w T V txt n (ent w sM tm vm::ent w sName tn vn::ent w sValue tv (vV v t')::rest))::l,(cs+5,codeS cs ct)::r⟩) :
  HT (C0 w B) h₀ none 110 ⟨chS cb (cs+5),(f,frS w T V txt n (ent w sM tm vm::ent w sName tn vn::ent w sValue tv (.str (S (qS v)) t)::rest))::l,(cs+5,codeS cs ct)::r⟩ (execsZ [qB (C0 w B) 2] (envSp (C0 w B) f)) Q E:=by
 obtain ⟨b1,b2,b3,b4⟩:=B
 intro b tk
 rcases hv with rfl | rfl | rfl | rfl
 ·exact HTa.valF N [0,0,0,0,0,0,0,0,0,0,3,1,0,1,0,0,0,0,1,5,5] [2] 3 [] (fun vz0=>.next) (fun m'=>(f,frS w T V txt n (ent w sM tm vm::ent w sName tn vn::ent w sValue tv (vV 0 (tokV (varAt m' 2 7)))::rest))::l) (fun m'=>(cs+5,codeS cs ct)::r) (fun vz0=>chS cb (cs+5)) (by kernel_rfl) rfl fun m'=>G _
 ·exact HTa.valF N [0,0,0,0,0,0,0,0,0,0,3,1,0,1,0,0,0,0,1,1,1,1,1,1,1,5,5] [2] 3 [] (fun vz0=>.next) (fun m'=>(f,frS w T V txt n (ent w sM tm vm::ent w sName tn vn::ent w sValue tv (vV 2 (tokV (varAt m' 2 7)))::rest))::l) (fun m'=>(cs+5,codeS cs ct)::r) (fun vz0=>chS cb (cs+5)) (by kernel_rfl) rfl fun m'=>G _
 ·exact HTa.valF N [0,0,0,0,0,0,0,0,0,0,3,1,0,1,0,0,0,0,1,7,2,1,1,1,3,3,3,3,1,3,3,5,1,1,1,7,7,7,0,0,7,1,7,7,11,11] [5] 6 [] (fun vz0=>.next) (fun m'=>(f,frS w T V txt n (ent w sM tm vm::ent w sName tn vn::ent w sValue tv (vV 3 (tokV (varAt m' 5 7)))::rest))::l) (fun m'=>(cs+5,codeS cs ct)::r) (fun vz0=>chS cb (cs+5)) (by kernel_rfl) rfl fun m'=>G _
 ·exact HTa.valF N [0,0,0,0,0,0,0,0,0,0,3,1,0,1,0,0,0,0,1,1,1,1,1,1,1,5,5] [2] 3 [] (fun vz0=>.next) (fun m'=>(f,frS w T V txt n (ent w sM tm vm::ent w sName tn vn::ent w sValue tv (vV 4 (tokV (varAt m' 2 7)))::rest))::l) (fun m'=>(cs+5,codeS cs ct)::r) (fun vz0=>chS cb (cs+5)) (by kernel_rfl) rfl fun m'=>G _
end
section
open PySem.Builtin.Str PySem.Builtin
section
variable {C:Cfg} {h₀:Heap} {hd:Option Value} {lv:Nat} {R:Result→Sx→Prop} {x:Sx}
theorem HC.gives {T:String} {name:Str} {id:String} {B:Builtin} {self:Value} {rest:List Value} {v:Value} (slot:Slot T name id) (entry:entryFor table id=some B) (args:argsOk id ⟨self::rest,[]⟩) (g:PySem.Gives (B ⟨self::rest,[]⟩) (.val v))
  (hT:∀ s:Shared,s.TypeIs self T) (G:R (.ok (.ret v)) x):HC C h₀ hd lv x (.call (.builtin id) ⟨self::rest,[]⟩) R:=by
 intro b tk A g' d os h K D
 exact codeAny_call_builtin slot.plain entry (slot.check _ _ _ _ _ _ _ _ (hT _) args (g C.prog C.w A (postX C h₀ g' d os R) _ ⟨x,⟨b,tk,h,rfl,D⟩,G⟩))
theorem HC.lstripS {c:Nat} {Z:List Nat} {t:Tok} (hc:Unicode.isSpace c=false) (G:R (.ok (.ret (.str (S (c::Z)) t))) x):HC C h₀ hd lv x (.call (.builtin "str.lstrip") ⟨[.str (S (c::Z)) t],[]⟩) R:=by
 have g:=gives_str_lstrip (S (c::Z)) t
 have e0:stripLo Unicode.isSpace true (S (c::Z))=0:=by
  show ((c::Z).takeWhile Unicode.isSpace).length=0
  rw [List.takeWhile_cons,hc];rfl
 have e:stripSame Unicode.isSpace true false (S (c::Z))=true:=by
  unfold stripSame
  rw [e0]
  show (0 == 0 && (c::Z).length == (c::Z).length)=true
  simp
 rw [e,if_pos rfl] at g
 exact HC.gives F.slot_str_lstrip F.entry_str_lstrip (F.args_str_lstrip_1 _) g (fun s=>typeIs_str s _ t) G
theorem HC.startsS {c d:Nat} {Z:List Nat} {t u:Tok} (G:R (.ok (.ret (.bool (c == d)))) x):HC C h₀ hd lv x (.call (.builtin "str.startswith") ⟨[.str (S (c::Z)) t,.str (S [d]) u],[]⟩) R:=by
 have g:=gives_str_startswith (S (c::Z)) (S [d]) t u
 have e:(decide (0+(S [d]).length≤(S (c::Z)).length) && subAt (S (c::Z)) (S [d]) 0)=(c == d):=by
  have e1:decide (0+(S [d]).length≤(S (c::Z)).length)=true:=by
   apply decide_eq_true
   show 0+1≤(c::Z).length
   simp
  rw [e1]
  show (true && (((⟨c::Z⟩:Array Nat).extract 0 (0+1)) == #[d]))=_
  have:(⟨c::Z⟩:Array Nat).extract 0 (0+1) = #[c]:=by
   apply Array.toList_inj.mp
   rw [Array.toList_extract]
   rfl
  rw [this,Bool.true_and,Bool.eq_iff_iff,beq_iff_eq,beq_iff_eq]
  exact ⟨fun h=>by injection h with h;injection h,fun h=>by rw [h]⟩
 rw [e] at g
 exact HC.gives F.slot_str_startswith F.entry_str_startswith (F.args_str_startswith_2 _ _) g (fun s=>typeIs_str s _ t) G
end
noncomputable abbrev eS (C:Cfg):Stmt:=nthS (ifElse (sB C 1)) 0
noncomputable abbrev cB (C:Cfg) (i:Nat):Stmt:=nthS (ifBody (eS C)) i
noncomputable abbrev jB (C:Cfg) (i:Nat):Stmt:=nthS (ifElse (eS C)) i
noncomputable abbrev zS (C:Cfg):Stmt:=nthS (forBody (forSp C)) 3
section
variable {w:World} {B:Hab} {h₀:Heap} (N:NatOk (C0 w B) h₀) {E:Value→Sx→Prop} {f n cb:Nat} {T:TS} {V:VS} {rest:List DictEntry} {l r:Memo} {ch:Ch} {tm tn tv:Tok} {vm vn txt:Value}
include N
theorem sp_e {c:Nat} {Z:List Nat} {t:Tok} (hc:Unicode.isSpace c=false) {Q:Bool→Sx→Prop}
  (G:Q (c == 44) ⟨ch,(f,frS w T V (.str (S (c::Z)) t) n rest)::l,r⟩):HT (C0 w B) h₀ none 110 ⟨ch,(f,frS w T V (.str (S (c::Z)) t) n rest)::l,r⟩ (isTrueZ (ifTest (eS (C0 w B))) (envSp (C0 w B) f) (evalZ (ifTest (eS (C0 w B))) (envSp (C0 w B) f))) Q E:=by
 refine HT.cut0 N [1] (c:=.call (.builtin "str.lstrip") ⟨[.str (S (c::Z)) t],[]⟩) (by kernel_rfl) fun b tk=>?_
 refine HC.lstripS hc fun b1 tk1=>?_
 refine HTa.cutN N [] [0] 1 [] (c:=.call (.builtin "str.startswith") ⟨[.str (S (c::Z)) t,.str (S [44]) tk1],[]⟩) (l:=(f,frS w T V (.str (S (c::Z)) t) n rest)::l) (r:=r) (ch:=ch) (by kernel_rfl) rfl ?_
 refine HC.startsS fun b1 tk1=>?_
 generalize (c == 44)=bb at G ⊢
 cases bb
 ·exact HTa.val N [] [0] 1 [] (a:=false) (l:=(f,frS w T V (.str (S (c::Z)) t) n rest)::l) (r:=r) (ch:=ch) (by kernel_rfl) rfl G
 ·exact HTa.val N [] [0] 1 [] (a:=true) (l:=(f,frS w T V (.str (S (c::Z)) t) n rest)::l) (r:=r) (ch:=ch) (by kernel_rfl) rfl G
theorem sp_c0 {Z:List Nat} {t:Tok} (hZ:Z.length≤900000) {Q:Flow→Sx→Prop}
  (G:∀ t',Q .next ⟨ch,(f,frS w T V (.str (S Z) t') n rest)::l,r⟩):HT (C0 w B) h₀ none 110 ⟨ch,(f,frS w T V (.str (S (44::Z)) t) n rest)::l,r⟩ (execsZ [cB (C0 w B) 0] (envSp (C0 w B) f)) Q E:=by
 refine HT.cut0 N [1] (c:=.call (.builtin "str.lstrip") ⟨[.str (S (44::Z)) t],[]⟩) (by kernel_rfl) fun b tk=>?_
 refine HC.lstripS (by kernel_rfl) fun b1 tk1=>?_
 refine HTa.cutN N [] [0,1] 2 [] (c:=.call (.builtin "str.__getitem__") ⟨[.str (S (44::Z)) t,.ref b1],[]⟩) (l:=(b1,{ cls:=.type "slice",data:=.fields #[.int 1 tk1,.none,.none] })::(f,frS w T V (.str (S (44::Z)) t) n rest)::l) (r:=r) (ch:=ch) (by kernel_rfl) rfl ?_
 have key:∀ {RR:Result→Sx→Prop},(∀ t',RR (.ok (.ret (.str (S Z) t'))) ⟨ch,(b1,{ cls:=.type "slice",data:=.fields #[.int 1 tk1,.none,.none] })::(f,frS w T V (.str (S (44::Z)) t) n rest)::l,r⟩)→HC (C0 w B) h₀ none 110 ⟨ch,(b1,{ cls:=.type "slice",data:=.fields #[.int 1 tk1,.none,.none] })::(f,frS w T V (.str (S (44::Z)) t) n rest)::l,r⟩ (.call (.builtin "str.__getitem__") ⟨[.str (S (44::Z)) t,.ref b1],[]⟩) RR :=
  fun hk=>HC.sliceFrom (T:=44::Z) (n:=1) (u:=tk1) (.head _) (by simp) (by simp only [List.length_cons];lia) hk
 refine key fun t' b2 tk2=>?_
 exact HTa.val N [3,3] [1] 2 [] (a:=.next) (l:=(f,frS w T V (.str (S Z) t') n rest)::l) (r:=r) (ch:=ch) (by kernel_rfl) rfl (G t')
theorem sp_c1t {its:Array Value} {e k:Nat} (hk:its.size=k+1) (hz:its.size≤100000) {Q:Bool→Sx→Prop}
  (G:Q true ⟨ch,(f,frS w T V txt n rest)::(V.pairs,listO its e)::l,r⟩):HT (C0 w B) h₀ none 110 ⟨ch,(f,frS w T V txt n rest)::(V.pairs,listO its e)::l,r⟩ (isTrueZ (ifTest (cB (C0 w B) 1)) (envSp (C0 w B) f) (evalZ (ifTest (cB (C0 w B) 1)) (envSp (C0 w B) f))) Q E:=by
 refine HT.cut0 N [1,3,3] (c:=.builtin "len" ⟨[.ref V.pairs],[]⟩) (by kernel_rfl) fun b tk=>?_
 refine HC.lenL (.inl (.tail _ (.head _))) (by lia) fun t' b1 tk1=>?_
 rw [hk]
 exact HTa.val N [] [0,1] 2 [] (a:=true) (l:=(f,frS w T V txt n rest)::(V.pairs,listO its e)::l) (r:=r) (ch:=ch) (by kernel_rfl) rfl G
theorem sp_c1b {rr:Array Value} {e:Nat} (hz:rr.size≤100000) {Q:Flow→Sx→Prop}
  (G:∀ e',Q .next ⟨ch,(V.res,listO (rr.push (.ref V.pairs)) e')::(f,frS w T V txt n rest)::l,r⟩):HT (C0 w B) h₀ none 110 ⟨ch,(f,frS w T V txt n rest)::(V.res,listO rr e)::l,r⟩ (execsZ (ifBody (cB (C0 w B) 1)) (envSp (C0 w B) f)) Q E:=by
 intro b tk
 refine HTa.cutN N [1,3,3,3,3,1] [1,0] 2 [] (c:=.call (.builtin "list.append") ⟨[.ref V.res,.ref V.pairs],[]⟩) (l:=(V.res,listO rr e)::(f,frS w T V txt n rest)::l) (r:=r) (ch:=ch) (by kernel_rfl) rfl ?_
 have key:∀ {RR:Result→Sx→Prop},(∀ e',RR (.ok (.ret .none)) ⟨ch,(V.res,listO (rr.push (.ref V.pairs)) e')::(f,frS w T V txt n rest)::l,r⟩)→HC (C0 w B) h₀ none 110 ⟨ch,(V.res,listO rr e)::(f,frS w T V txt n rest)::l,r⟩ (.call (.builtin "list.append") ⟨[.ref V.res,.ref V.pairs],[]⟩) RR:=fun h=>HC.append (by rw [sizeLine_eq];lia) (h _)
 refine key fun e' b1 tk1=>?_
 exact HTa.val N [] [0,1] 2 [] (a:=.next) (l:=(V.res,listO (rr.push (.ref V.pairs)) e')::(f,frS w T V txt n rest)::l) (r:=r) (ch:=ch) (by kernel_rfl) rfl (G e')
theorem sp_zt {its:Array Value} {e k:Nat} (hk:its.size=k+1) (hz:its.size≤100000) {Q:Bool→Sx→Prop}
  (G:Q true ⟨ch,(f,frS w T V txt n rest)::(V.pairs,listO its e)::l,r⟩):HT (C0 w B) h₀ none 110 ⟨ch,(f,frS w T V txt n rest)::(V.pairs,listO its e)::l,r⟩ (isTrueZ (ifTest (zS (C0 w B))) (envSp (C0 w B) f) (evalZ (ifTest (zS (C0 w B))) (envSp (C0 w B) f))) Q E:=by
 refine HT.cut0 N [1,3,3] (c:=.builtin "len" ⟨[.ref V.pairs],[]⟩) (by kernel_rfl) fun b tk=>?_
 refine HC.lenL (.inl (.tail _ (.head _))) (by lia) fun t' b1 tk1=>?_
 rw [hk]
 exact HTa.val N [] [0,1] 2 [] (a:=true) (l:=(f,frS w T V txt n rest)::(V.pairs,listO its e)::l) (r:=r) (ch:=ch) (by kernel_rfl) rfl G
end
end
section
open PySem.Builtin.Re
theorem entry_re_subloop:entryFor table "re.Pattern.sub.loop" = some Builtin.«re.Pattern.sub.loop»:=entryFor_of_tree (by kernel_rfl)
noncomputable abbrev reWholeTargetZ:Value→Value→Sem ReTarget:=PySem.W.Fast.tw11345365114577263350
noncomputable abbrev reLitZ:Value→Sem Unit:=PySem.W.Fast.tw8153607637909102219
noncomputable abbrev updateSeqZ:Addr→(Array Value→Array Value)→Sem Unit:=PySem.W.Fast.tw9418318071634752848
noncomputable abbrev seqItemsZ:Value→Sem (Option (Array Value)):=PySem.W.Fast.tw4765909148043602726
noncomputable def codeJk:Array Nat:=#[14,4,0,0,4294967295,6,0,24,13,0,4294967295,13,8,16,61,8,12,16,59,0,1,1]
@[irreducible] noncomputable def gS (s:Nat) (T:List Nat):Sre.M:=Sre.forSearch codeJk ⟨T⟩ 0 s T.length false
theorem run_openG {m m0:Sre.M} {T0 R:List Nat} {k:Nat} (hl:(T0 ++ R).length≤1000000) (e1:m=lift ⟨T0 ++ R⟩ (T0 ++ R).length m.lastStart m0)
  (e2:(m0.text,m0.lim)=(⟨T0⟩,T0.length)) (e3:safeFor k m0=true) :
  m.runFor k=lift ⟨T0 ++ R⟩ (T0 ++ R).length m.lastStart (m0.runFor k):=by
 have h1:m0.text=⟨T0⟩:=congrArg Prod.fst e2
 have h2:m0.lim=T0.length:=congrArg Prod.snd e2
 rw [e1]
 exact runFor_lift k _ e3 (by rw [h1,h2];exact fun i h=>getD_append T0 R h) (by rw [h2,List.length_append];lia) (by lia)
theorem junk_hit {T0 R:List Nat} (hl:(T0 ++ R).length≤1000000) (e1:gS 0 (T0 ++ R)=lift ⟨T0 ++ R⟩ (T0 ++ R).length (gS 0 (T0 ++ R)).lastStart (gS 0 T0))
  (e2:((gS 0 T0).text,(gS 0 T0).lim)=(⟨T0⟩,T0.length)) (e3:safeFor 6 (gS 0 T0)=true) (e4:isMatched ((gS 0 T0).runFor 6).outcome=true) (e5:((gS 0 T0).runFor 6).start=0) (e6:((gS 0 T0).runFor 6).handed=2) :
  ∃ m:Sre.M,(gS 0 (T0 ++ R)).runFor 6=m∧m.outcome=some .matched∧m.start=0∧m.handed=2 :=
 ⟨_,run_openG hl e1 e2 e3,(show (lift _ _ _ _).outcome=_ from isMatched_is e4),(show (lift _ _ _ _).start=_ from e5),(show (lift _ _ _ _).handed=_ from e6)⟩
theorem junk_miss {T0 R:List Nat} (hl:(T0 ++ R).length≤1000) (e1:gS 2 (T0 ++ R)=lift ⟨T0 ++ R⟩ (T0 ++ R).length (gS 2 (T0 ++ R)).lastStart (gS 2 T0))
  (e2:((gS 2 T0).text,(gS 2 T0).lim)=(⟨T0⟩,T0.length)) (e3:safeFor 1 (gS 2 T0)=true) (e4:AtFail ((gS 2 T0).runFor 1) 5 2) (e5:(gS 2 (T0 ++ R)).lastStart≤(T0 ++ R).length) :
  ((gS 2 (T0 ++ R)).runFor (1+(2 * (gS 2 (T0 ++ R)).lastStart+2))).outcome=some .failed:=by
 rw [runFor_add,run_openG (by lia) e1 e2 e3]
 refine AtFail.all (pc:=5) _ 2 _ ?_ (by show (gS 2 (T0 ++ R)).lastStart≤_;lia)
 exact ⟨e4.oc,e4.an,e4.fr,e4.at0,e4.at1,e4.fs,e4.lt,e4.wt⟩
noncomputable def tgtJ (T:List Nat) (t:Tok):ReTarget:={ pattern:=.ref 36,string:=.str (S T) t,code:=codeJk,text:=⟨T⟩,kind:=0,groups:=0,pos:=0,lim:=T.length }
theorem reNext_is (T:List Nat) (t:Tok) (s:Nat):reNextFound (tgtJ T t) s false=reRunToEnd (gS s T):=by kernel_rfl
section
variable {w:World} {B:Hab} {h₀:Heap} (N:NatOk (C0 w B) h₀) {l r:Memo} {ch:Ch} {RR:Result→Sx→Prop}
include N
theorem junk_target {x:Sx} {T:List Nat} {t:Tok}:HT (C0 w B) h₀ none 99 x (reWholeTarget (.ref 36) (.str (S T) t)) (fun a x'=>a=tgtJ T t∧x'=x) (fun vz0 vz1=>False):=by
 rw [show reWholeTarget=reWholeTargetZ from PySem.W.Fast.te11345365114577263350]
 intro b tk
 exact HTa.val N [0,0] [] 0 [] (a:=tgtJ T t) (l:=x.l) (r:=x.r) (ch:=x.ch) (by kernel_rfl) rfl ⟨rfl,rfl⟩
theorem junk_loop1 {k a:Nat} {u t:Tok} {R:List Nat} (hk:k<4) (hR:R.length≤1000)
  (G:∀ n',HC (C0 w B) h₀ none 100 ⟨ch,(a,listO #[.str (S []) u] n')::l,r⟩ (.builtin "re.Pattern.sub.loop" ⟨[.ref 36,.str (S (59::32::kc k::R)) t,.str (S []) u,.int 0 0,.int 0 0,.int 1 0,.int 2 0,.int 2 0,.bool false,.ref a,.bool true],[]⟩) RR) :
  HC (C0 w B) h₀ none 100 ⟨ch,(a,listO #[] 0)::l,r⟩ (.builtin "re.Pattern.sub.loop" ⟨[.ref 36,.str (S (59::32::kc k::R)) t,.str (S []) u,.int 0 0,.int 0 0,.int 0 0,.int 0 0,.int 0 0,.bool false,.ref a,.bool true],[]⟩) RR:=by
 refine HC.tree (lv:=99) (w:=0) (by rw [weightZ_eq];rfl) ?_
 rw [denZ_builtin entry_re_subloop]
 unfold PySem.Builtin.«re.Pattern.sub.loop»
 dsimp only
 refine HT.bind (HT.mono (junk_target N) ?_ (fun vz0 vz1 q=>q.elim))
 intro tg x hZ0
 refine el_A hZ0 fun hE1 hE2=>?_
 try clear hZ0
 subst hE1
 subst hE2
 rw [if_pos (by rfl)]
 rw [show reLiteralCannotBeTurned=reLitZ from PySem.W.Fast.te8153607637909102219]
 refine HT.bind ?_
 intro b tk
 refine HTa.val N [] [0] 1 [] (a:=()) (l:=(a,listO #[] 0)::l) (r:=r) (ch:=ch) (by kernel_rfl) rfl ?_
 have key:∃ m:Sre.M,(gS 0 (59::32::kc k::R)).runFor 6=m∧m.outcome=some .matched∧m.start=0∧m.handed=2:=by
  have hl:(59::32::kc k::R).length≤1000000:=Nat.le_trans (Nat.add_le_add_right hR 3) (by decide)
  rw [show (59::32::kc k::R)=[59,32,kc k] ++ R from rfl] at hl ⊢
  exact junk_hit hl (by exact k4 hk (by kernel_rfl) (by kernel_rfl) (by kernel_rfl) (by kernel_rfl)) (by exact k4 hk (by kernel_rfl) (by kernel_rfl) (by kernel_rfl) (by kernel_rfl)) (by exact k4 hk (by kernel_rfl) (by kernel_rfl) (by kernel_rfl) (by kernel_rfl)) (by exact k4 hk (by kernel_rfl) (by kernel_rfl) (by kernel_rfl) (by kernel_rfl)) (by exact k4 hk (by kernel_rfl) (by kernel_rfl) (by kernel_rfl) (by kernel_rfl)) (by exact k4 hk (by kernel_rfl) (by kernel_rfl) (by kernel_rfl) (by kernel_rfl))
 obtain ⟨m,em,mo,ms,mh⟩:=key
 refine HT.bind ?_
 rw [if_neg (by simp)]
 rw [show Int.toNat 0=0 from rfl,reNext_is]
 refine HT.runRe (k:=6) (by decide) (.inl ⟨_,by rw [em];exact mo,rfl,?_⟩)
 rw [em]
 dsimp only
 rw [ms,mh]
 rw [if_neg (by decide)]
 rw [if_pos (by rfl)]
 refine HT.bind (HT.pure' ?_)
 rw [if_pos (by rfl)]
 rw [show updateSeq=updateSeqZ from PySem.W.Fast.te9418318071634752848]
 refine HT.bind ?_
 intro b tk
 refine HTa.val N [1,1,1,1] [0] 1 [] (a:=()) (l:=(a,listO #[.str (S []) u] 1)::l) (r:=r) (ch:=ch) (by kernel_rfl) rfl ?_
 exact HT.pure' ⟨by kernel_rfl,G 1⟩
theorem junk_loop2 {k a n':Nat} {u t:Tok} {R:List Nat} (hk:k<4) (hR:R.length≤900)
  (G:∀ p t1 t2,RR (.ok (.ret (.ref p))) ⟨ch,l,(p,tupO #[.str (S (kc k::R)) t1,.int 1 t2])::r⟩) :
  HC (C0 w B) h₀ none 100 ⟨ch,(a,listO #[.str (S []) u] n')::l,r⟩ (.builtin "re.Pattern.sub.loop" ⟨[.ref 36,.str (S (59::32::kc k::R)) t,.str (S []) u,.int 0 0,.int 0 0,.int 1 0,.int 2 0,.int 2 0,.bool false,.ref a,.bool true],[]⟩) RR:=by
 refine HC.tree (lv:=99) (w:=0) (by rw [weightZ_eq];rfl) ?_
 rw [denZ_builtin entry_re_subloop]
 unfold PySem.Builtin.«re.Pattern.sub.loop»
 dsimp only
 refine HT.bind (HT.mono (junk_target N) ?_ (fun vz0 vz1 q=>q.elim))
 intro tg x hZ0
 refine el_A hZ0 fun hE1 hE2=>?_
 try clear hZ0
 subst hE1
 subst hE2
 rw [if_pos (by rfl)]
 rw [show reLiteralCannotBeTurned=reLitZ from PySem.W.Fast.te8153607637909102219]
 refine HT.bind ?_
 intro b tk
 refine HTa.val N [] [0] 1 [] (a:=()) (l:=(a,listO #[.str (S []) u] n')::l) (r:=r) (ch:=ch) (by kernel_rfl) rfl ?_
 have key:∃ K,K≤1000000∧((gS 2 (59::32::kc k::R)).runFor K).outcome=some .failed:=by
  have hl:(59::32::kc k::R).length≤1000:=Nat.le_trans (Nat.add_le_add_right hR 3) (by decide)
  rw [show (59::32::kc k::R)=[59,32,kc k] ++ R from rfl] at hl ⊢
  have e5:(gS 2 ([59,32,kc k] ++ R)).lastStart≤([59,32,kc k] ++ R).length:=Nat.le_of_eq (by exact k4 hk (by kernel_rfl) (by kernel_rfl) (by kernel_rfl) (by kernel_rfl))
  exact ⟨1+(2 * (gS 2 ([59,32,kc k] ++ R)).lastStart+2),by lia,junk_miss hl (by exact k4 hk (by kernel_rfl) (by kernel_rfl) (by kernel_rfl) (by kernel_rfl)) (by exact k4 hk (by kernel_rfl) (by kernel_rfl) (by kernel_rfl) (by kernel_rfl)) (by exact k4 hk (by kernel_rfl) (by kernel_rfl) (by kernel_rfl) (by kernel_rfl)) (by exact k4 hk ⟨by kernel_rfl,by kernel_rfl,⟨true,by kernel_rfl⟩,by kernel_rfl,by kernel_rfl,by kernel_rfl,Nat.le_of_ble_eq_true (by kernel_rfl),Nat.le_of_ble_eq_true (by kernel_rfl)⟩ ⟨by kernel_rfl,by kernel_rfl,⟨true,by kernel_rfl⟩,by kernel_rfl,by kernel_rfl,by kernel_rfl,Nat.le_of_ble_eq_true (by kernel_rfl),Nat.le_of_ble_eq_true (by kernel_rfl)⟩ ⟨by kernel_rfl,by kernel_rfl,⟨true,by kernel_rfl⟩,by kernel_rfl,by kernel_rfl,by kernel_rfl,Nat.le_of_ble_eq_true (by kernel_rfl),Nat.le_of_ble_eq_true (by kernel_rfl)⟩ ⟨by kernel_rfl,by kernel_rfl,⟨true,by kernel_rfl⟩,by kernel_rfl,by kernel_rfl,by kernel_rfl,Nat.le_of_ble_eq_true (by kernel_rfl),Nat.le_of_ble_eq_true (by kernel_rfl)⟩) e5⟩
 obtain ⟨K,hK,em⟩:=key
 refine HT.bind ?_
 rw [if_neg (by simp)]
 rw [show Int.toNat 2=2 from rfl,reNext_is]
 refine HT.runRe (k:=K) hK (.inr ⟨em,?_⟩)
 dsimp only
 have hlim:2<(tgtJ (59::32::kc k::R) t).lim:=by show 2<R.length+1+1+1;lia
 rw [if_pos hlim]
 have x1:(⟨59::32::kc k::R⟩:Array Nat).extract 2 (59::32::kc k::R).length=⟨kc k::R⟩:=by
  apply Array.toList_inj.mp
  rw [Array.toList_extract]
  show ((59::32::kc k::R).drop 2).take ((59::32::kc k::R).length - 2)=_
  exact List.take_of_length_le (by simp)
 have x2:(⟨59::32::kc k::R⟩:Array Nat).extract 0 0=⟨[]⟩:=by
  apply Array.toList_inj.mp
  rw [Array.toList_extract]
  rfl
 refine HT.bind ?_
 show HT (C0 w B) h₀ none 99 _ (mkStr ⟨(⟨59::32::kc k::R⟩:Array Nat).extract 2 (59::32::kc k::R).length⟩) _ _
 rw [x1]
 refine HT.mkStr N (by simp only [List.length_cons];lia) fun t3=>?_
 rw [show updateSeq=updateSeqZ from PySem.W.Fast.te9418318071634752848]
 refine HT.bind ?_
 intro b tk
 refine HTa.val N [1,1,1] [0] 1 [] (a:=()) (l:=(a,listO #[.str (S []) u,.str (S (kc k::R)) t3] (n'+1))::l) (r:=r) (ch:=ch) (by kernel_rfl) rfl ?_
 refine HT.bind ?_
 show HT (C0 w B) h₀ none 99 _ (mkStr ⟨(⟨59::32::kc k::R⟩:Array Nat).extract 0 0⟩) _ _
 rw [x2]
 refine HT.mkStr N (by simp) fun t4=>?_
 rw [show seqItems? = seqItemsZ from PySem.W.Fast.te4765909148043602726]
 refine HT.bind ?_
 intro b tk
 refine HTa.val N [1] [0] 1 [] (a:=some #[.str (S []) u,.str (S (kc k::R)) t3]) (l:=(a,listO #[.str (S []) u,.str (S (kc k::R)) t3] (n'+1))::l) (r:=r) (ch:=ch) (by kernel_rfl) rfl ?_
 rw [if_neg (by simp)]
 intro b tk
 refine HTa.cut N [] [0] 1 [] (c:=.call (.builtin "str.join") ⟨[.str (S []) t4,.ref a],[]⟩) (l:=(a,listO #[.str (S []) u,.str (S (kc k::R)) t3] (n'+1))::l) (r:=r) (ch:=ch) (by kernel_rfl) rfl (by intro h;cases h) ?_
 have key:∀ {RR:Result→Sx→Prop},(∀ t',RR (.ok (.ret (.str (S (kc k::R)) t'))) ⟨ch,(a,listO #[.str (S []) u,.str (S (kc k::R)) t3] (n'+1))::l,r⟩)→HC (C0 w B) h₀ none 99 ⟨ch,(a,listO #[.str (S []) u,.str (S (kc k::R)) t3] (n'+1))::l,r⟩ (.call (.builtin "str.join") ⟨[.str (S []) t4,.ref a],[]⟩) RR:=by
  intro RR h
  refine HC.joinL (ss:=[[],kc k::R]) (.inl (.head _)) (.cons ⟨_,rfl⟩ (.cons ⟨_,rfl⟩ .nil)) (fun s hs=>?_) (by simp) (by simp) (fun t'=>h t')
  simp only [List.mem_cons,List.not_mem_nil,or_false] at hs
  rcases hs with rfl | rfl
  ·simp
  ·simp only [List.length_cons];lia
 refine key fun t' b tk=>?_
 exact HTa.valF N [] [] 2 [0] (fun vz0=>.done (.ret (.ref b))) (fun vz0=>l) (fun m'=>(b,tupO #[.str (S (kc k::R)) t',.int 1 (tk)])::r) (fun vz0=>ch) (by kernel_rfl) rfl fun m'=>G _ _ _
theorem subn_call {k:Nat} {u t:Tok} {R:List Nat} (hk:k<4) (hR:R.length≤900)
  (G:∀ p t1 t2,RR (.ok (.ret (.ref p))) ⟨ch,l,(p,tupO #[.str (S (kc k::R)) t1,.int 1 t2])::r⟩) :
  HC (C0 w B) h₀ none 100 ⟨ch,l,r⟩ (.call (.builtin "re.Pattern.subn") ⟨[.ref 36,.str (S []) u,.str (S (59::32::kc k::R)) t],[]⟩) RR:=by
 refine HC.tree (lv:=99) (w:=0) (by rw [weightZ_eq];rfl) fun b tk=>?_
 refine HTa.val N [0] [] 0 [] (a:=Fin.again (.builtin "re.Pattern.subn" ⟨[.ref 36,.str (S []) u,.str (S (59::32::kc k::R)) t],[]⟩)) (l:=l) (r:=r) (ch:=ch) (by kernel_rfl) rfl ?_
 refine ⟨by kernel_rfl,HC.tree (lv:=99) (w:=0) (by rw [weightZ_eq];rfl) fun b tk=>?_⟩
 refine HTa.val N [0,0] [0] 1 [] (a:=Fin.again (.builtin "re.Pattern.sub.loop" ⟨[.ref 36,.str (S (59::32::kc k::R)) t,.str (S []) u,.int 0 0,.int 0 0,.int 0 0,.int 0 0,.int 0 0,.bool false,.ref b,.bool true],[]⟩)) (l:=(b,listO #[] 0)::l) (r:=r) (ch:=ch) (by kernel_rfl) rfl ?_
 exact ⟨by kernel_rfl,junk_loop1 N hk (by lia) fun n'=>junk_loop2 N hk hR G⟩
end
end
section
open PySem.Builtin.Re
section
variable {w:World} {B:Hab} {h₀:Heap} (N:NatOk (C0 w B) h₀) {E:Value→Sx→Prop} {f n:Nat} {T:TS} {V:VS} {rest:List DictEntry} {l r:Memo} {ch:Ch} {tm tn tv tj tr:Tok} {vm vn vv vj vr txt:Value} {Q:Flow→Sx→Prop}
include N
theorem sp_j0 {k:Nat} {R:List Nat} {t:Tok} (hk:k<4) (hR:R.length≤900)
  (G:∀ t1 t2 r',(∀ p∈r,p∈r')→Q .next ⟨ch,(f,frS w T V (.str (S (59::32::kc k::R)) t) n (ent w sM tm vm::ent w sName tn vn::ent w sValue tv vv::ent w sNj tj (.str (S (kc k::R)) t1)::ent w sNr tr (.int 1 t2)::rest))::l,r'⟩) :
  HT (C0 w B) h₀ none 110 ⟨ch,(f,frS w T V (.str (S (59::32::kc k::R)) t) n (ent w sM tm vm::ent w sName tn vn::ent w sValue tv vv::ent w sNj tj vj::ent w sNr tr vr::rest))::l,r⟩ (execsZ [jB (C0 w B) 0] (envSp (C0 w B) f)) Q E:=by
 intro b tk
 refine HTa.cutN N [0,0,0,0,0,1] [0] 1 [] (c:=.call (.builtin "re.Pattern.subn") ⟨[.ref 36,.str (S []) tk,.str (S (59::32::kc k::R)) t],[]⟩) (l:=(f,frS w T V (.str (S (59::32::kc k::R)) t) n (ent w sM tm vm::ent w sName tn vn::ent w sValue tv vv::ent w sNj tj vj::ent w sNr tr vr::rest))::l) (r:=r) (ch:=ch) (by kernel_rfl) rfl ?_
 refine HC.less (subn_call N hk hR fun p t1 t2 b tk=>?_) (by decide)
 exact HTa.val N [2,2,2,1,2,1,1,1,1,1,1,2,1,1,1,1,1,1,1,2,1,1,1,1,1,1,1,2,1,1,1,7,7,7,7] [3] 4 [] (a:=.next) (l:=(f,frS w T V (.str (S (59::32::kc k::R)) t) n (ent w sM tm vm::ent w sName tn vn::ent w sValue tv vv::ent w sNj tj (.str (S (kc k::R)) t1)::ent w sNr tr (.int 1 t2)::rest))::l) (r:=(p,tupO #[.str (S (kc k::R)) t1,.int 1 t2])::r) (ch:=ch) (by exact Hab.two B (by kernel_rfl) (by kernel_rfl)) rfl (G t1 t2 _ (fun vz0 h=>.tail _ h))
theorem sp_j0n {k:Nat} {R:List Nat} {t:Tok} (hk:k<4) (hR:R.length≤900)
  (G:∀ t1 t2 r' tj tr,(∀ p∈r,p∈r')→Q .next ⟨ch,(f,frS w T V (.str (S (59::32::kc k::R)) t) 10 [ent w sM tm vm,ent w sName tn vn,ent w sValue tv vv,ent w sNj tj (.str (S (kc k::R)) t1),ent w sNr tr (.int 1 t2)])::l,r'⟩) :
  HT (C0 w B) h₀ none 110 ⟨ch,(f,frS w T V (.str (S (59::32::kc k::R)) t) 8 [ent w sM tm vm,ent w sName tn vn,ent w sValue tv vv])::l,r⟩ (execsZ [jB (C0 w B) 0] (envSp (C0 w B) f)) Q E:=by
 intro b tk
 refine HTa.cutN N [0,0,0,0,0,1] [0] 1 [] (c:=.call (.builtin "re.Pattern.subn") ⟨[.ref 36,.str (S []) tk,.str (S (59::32::kc k::R)) t],[]⟩) (l:=(f,frS w T V (.str (S (59::32::kc k::R)) t) 8 [ent w sM tm vm,ent w sName tn vn,ent w sValue tv vv])::l) (r:=r) (ch:=ch) (by kernel_rfl) rfl ?_
 refine HC.less (subn_call N hk hR fun p t1 t2 b tk=>?_) (by decide)
 exact HTa.valF N [2,2,2,1,2,1,1,1,1,1,1,2,1,1,1,1,1,1,1,2,1,1,1,1,1,1,1,2,1,1,1,7,7,7,7] [3] 4 [] (fun vz0=>.next) (fun m'=>(f,frS w T V (.str (S (59::32::kc k::R)) t) 10 [ent w sM tm vm,ent w sName tn vn,ent w sValue tv vv,ent w sNj (keyTok m' 3 8) (.str (S (kc k::R)) t1),ent w sNr (keyTok m' 3 9) (.int 1 t2)])::l) (fun vz0=>(p,tupO #[.str (S (kc k::R)) t1,.int 1 t2])::r) (fun vz0=>ch) (by exact Hab.two B (by kernel_rfl) (by kernel_rfl)) rfl fun m'=>(G t1 t2 _ _ _ (fun vz0 h=>.tail _ h))
theorem sp_j2 {R:List Nat} {t:Tok} (G:Q .next ⟨ch,(f,frS w T V (.str (S R) t) n (ent w sM tm vm::ent w sName tn vn::ent w sValue tv vv::ent w sNj tj (.str (S R) t)::ent w sNr tr vr::rest))::l,r⟩) :
  HT (C0 w B) h₀ none 110 ⟨ch,(f,frS w T V txt n (ent w sM tm vm::ent w sName tn vn::ent w sValue tv vv::ent w sNj tj (.str (S R) t)::ent w sNr tr vr::rest))::l,r⟩ (execsZ [jB (C0 w B) 2] (envSp (C0 w B) f)) Q E:=by
 intro b tk
 exact HTa.val N [1,1,1] [0] 1 [] (a:=.next) (l:=(f,frS w T V (.str (S R) t) n (ent w sM tm vm::ent w sName tn vn::ent w sValue tv vv::ent w sNj tj (.str (S R) t)::ent w sNr tr vr::rest))::l) (r:=r) (ch:=ch) (by kernel_rfl) rfl G
theorem sp_j1 {t:Tok} (G:Q .next ⟨ch,(f,frS w T V txt n (ent w sM tm vm::ent w sName tn vn::ent w sValue tv vv::ent w sNj tj vj::ent w sNr tr (.int 1 t)::rest))::l,r⟩) :
  HT (C0 w B) h₀ none 110 ⟨ch,(f,frS w T V txt n (ent w sM tm vm::ent w sName tn vn::ent w sValue tv vv::ent w sNj tj vj::ent w sNr tr (.int 1 t)::rest))::l,r⟩ (execsZ [jB (C0 w B) 1] (envSp (C0 w B) f)) Q E:=by
 exact HT.val0 N [1,1] (a:=.next) (by exact Hab.two B (by kernel_rfl) (by kernel_rfl)) G
end
end
section
open PySem.Builtin.Re
section
variable {w:World} {B:Hab}
theorem whB:whBody (whSp (C0 w B))=[sB (C0 w B) 0,sB (C0 w B) 1]:=by kernel_rfl
theorem ifB1:ifBody (sB (C0 w B) 1)=[pB (C0 w B) 0,pB (C0 w B) 1,pB (C0 w B) 2,pB (C0 w B) 3,pB (C0 w B) 4]:=by kernel_rfl
theorem ifE1:ifElse (sB (C0 w B) 1)=[eS (C0 w B)]:=by kernel_rfl
theorem ifB3:ifBody (pB (C0 w B) 3)=[qB (C0 w B) 0,qB (C0 w B) 1,qB (C0 w B) 2]:=by kernel_rfl
theorem ifE3:ifElse (pB (C0 w B) 3)=[vB (C0 w B) 0,vB (C0 w B) 1]:=by kernel_rfl
theorem ifBv:ifBody (vB (C0 w B) 1)=[xB (C0 w B) 0,xB (C0 w B) 1,xB (C0 w B) 2]:=by kernel_rfl
theorem ifEv:ifElse (vB (C0 w B) 1)=[nB (C0 w B)]:=by kernel_rfl
theorem ifBe:ifBody (eS (C0 w B))=[cB (C0 w B) 0,cB (C0 w B) 1,cB (C0 w B) 2]:=by kernel_rfl
theorem ifEe:ifElse (eS (C0 w B))=[jB (C0 w B) 0,jB (C0 w B) 1,jB (C0 w B) 2]:=by kernel_rfl
theorem isIf1:sB (C0 w B) 1 = .If (ifTest (sB (C0 w B) 1)) (ifBody (sB (C0 w B) 1)) (ifElse (sB (C0 w B) 1)) (ifPos (sB (C0 w B) 1)):=by kernel_rfl
theorem isIf3:pB (C0 w B) 3 = .If (ifTest (pB (C0 w B) 3)) (ifBody (pB (C0 w B) 3)) (ifElse (pB (C0 w B) 3)) (ifPos (pB (C0 w B) 3)):=by kernel_rfl
theorem isIfv:vB (C0 w B) 1 = .If (ifTest (vB (C0 w B) 1)) (ifBody (vB (C0 w B) 1)) (ifElse (vB (C0 w B) 1)) (ifPos (vB (C0 w B) 1)):=by kernel_rfl
theorem isIfe:eS (C0 w B) = .If (ifTest (eS (C0 w B))) (ifBody (eS (C0 w B))) (ifElse (eS (C0 w B))) (ifPos (eS (C0 w B))):=by kernel_rfl
theorem isIfc:cB (C0 w B) 1 = .If (ifTest (cB (C0 w B) 1)) (ifBody (cB (C0 w B) 1)) (ifElse (cB (C0 w B) 1)) (ifPos (cB (C0 w B) 1)):=by kernel_rfl
theorem isIfz:zS (C0 w B) = .If (ifTest (zS (C0 w B))) (ifBody (zS (C0 w B))) (ifElse (zS (C0 w B))) (ifPos (zS (C0 w B))):=by kernel_rfl
end
noncomputable def NextOk (Z:List Nat):Prop:=Z=[] ∨ (∃ k R,k<4∧Z=59::32::kc k::R) ∨ ∃ k R,k<4∧Z=44::32::kc k::R
theorem NextOk.pair {Z:List Nat}:NextOk Z→AfterPair Z
 | .inl h=>.inl h
 | .inr (.inl ⟨k,R,_,h⟩)=>.inr (.inl ⟨_,R,h⟩)
 | .inr (.inr ⟨k,R,_,h⟩)=>.inr (.inr ⟨_,R,h⟩)
theorem NextOk.key {Z:List Nat} (H:NextOk Z) (c:Nat) (R:List Nat) (h:Z=59::32::c::R ∨ Z=44::32::c::R):∃ k,k<4∧c=kc k:=by
 rcases H with rfl | ⟨k,R',hk,rfl⟩ | ⟨k,R',hk,rfl⟩
 ·rcases h with h | h <;> cases h
 ·rcases h with h | h
  ·injection h with _ h;injection h with _ h;injection h with h _;exact ⟨k,hk,h.symm⟩
  ·injection h with h _;cases h
 ·rcases h with h | h
  ·injection h with h _;cases h
  ·injection h with _ h;injection h with _ h;injection h with h _;exact ⟨k,hk,h.symm⟩
theorem NextOk.tok {Z:List Nat} (H:NextOk Z) {v:Nat} (hv:v<6):AfterTok (wT v ++ Z):=by
 refine v6 hv (.inr (.inl ⟨_,rfl⟩)) (.inr (.inl ⟨_,rfl⟩)) (.inr (.inl ⟨_,rfl⟩)) (.inr (.inl ⟨_,rfl⟩)) (.inr (.inl ⟨_,rfl⟩)) ?_
 rcases H with rfl | ⟨k,R',hk,rfl⟩ | ⟨k,R',hk,rfl⟩
 ·exact .inl rfl
 ·exact .inr (.inr (.inl ⟨_,rfl⟩))
 ·exact .inr (.inr (.inr ⟨_,rfl⟩))
theorem extract_of {X Y:List Nat} {b e:Nat} (h:(X.drop b).take (e - b)=Y):(⟨X⟩:Array Nat).extract b e=⟨Y⟩:=by
 apply Array.toList_inj.mp
 rw [Array.toList_extract]
 exact h
section
variable {w:World} {B:Hab} {h₀:Heap} (N:NatOk (C0 w B) h₀) {E:Value→Sx→Prop} {f n:Nat} {T:TS} {V:VS} {rest:List DictEntry} {l r:Memo} {ch:Ch} {tm tn tv tj tr:Tok} {vm vn vv vj vr txt:Value} {Q:Flow→Sx→Prop}
include N
theorem sp_p0' {m sp t1 pat lim nn bb ee:Nat} {X Y:List Nat} (hY:X.drop nn=Y) (hX:X≠[]) (hm:(m,matchO X t1 pat lim sp)∈r) (hs:(sp,spO nn bb ee)∈r) (hn:nn≤X.length) (hT:X.length≤900000)
  (G:∀ t',Q .next ⟨ch,(f,frS w T V (.str (S Y) t') n (ent w sM tm (.ref m)::rest))::l,r⟩):HT (C0 w B) h₀ none 110 ⟨ch,(f,frS w T V txt n (ent w sM tm (.ref m)::rest))::l,r⟩ (execsZ [pB (C0 w B) 0] (envSp (C0 w B) f)) Q E:=by
 subst hY
 match X,hX with
 | c0::U,_=>exact sp_p0 N hm hs (by simpa using hn) (by simp only [List.length_cons] at hT;lia) G
theorem sp_q0' {m sp t1 pat lim nn bb ee:Nat} {X Y:List Nat} (hY:X.drop nn=Y) (hX:X≠[]) (hm:(m,matchO X t1 pat lim sp)∈r) (hs:(sp,spO nn bb ee)∈r) (hn:nn≤X.length) (hT:X.length≤900000)
  (G:∀ t',Q .next ⟨ch,(f,frS w T V (.str (S Y) t') n (ent w sM tm (.ref m)::rest))::l,r⟩):HT (C0 w B) h₀ none 110 ⟨ch,(f,frS w T V txt n (ent w sM tm (.ref m)::rest))::l,r⟩ (execsZ [qB (C0 w B) 0] (envSp (C0 w B) f)) Q E:=by
 subst hY
 match X,hX with
 | c0::U,_=>exact sp_q0 N hm hs (by simpa using hn) (by simp only [List.length_cons] at hT;lia) G
theorem sp_w0' {m sp t1 pat lim nn bb ee:Nat} {X Y:List Nat} (hY:X.drop nn=Y) (hX:X≠[]) (hm:(m,matchO X t1 pat lim sp)∈r) (hs:(sp,spO nn bb ee)∈r) (hn:nn≤X.length) (hT:X.length≤900000)
  (G:∀ t',Q .next ⟨ch,(f,frS w T V (.str (S Y) t') n (ent w sM tm (.ref m)::rest))::l,r⟩):HT (C0 w B) h₀ none 110 ⟨ch,(f,frS w T V txt n (ent w sM tm (.ref m)::rest))::l,r⟩ (execsZ [xB (C0 w B) 0] (envSp (C0 w B) f)) Q E:=by
 subst hY
 match X,hX with
 | c0::U,_=>exact sp_w0 N hm hs (by simpa using hn) (by simp only [List.length_cons] at hT;lia) G
theorem sp_value {k v cb cs ct:Nat} {Z:List Nat} {t:Tok} (hv:v<6) (hZ:NextOk Z) (hl:Z.length≤800) (hc:(cs+5,codeS cs ct)∈r)
  (G:∀ mv t1 t2 r',Sub r r'→Q .next ⟨chS cb (cs+5),(f,frS w T V (.str (S Z) t1) n (ent w sM tm mv::ent w sName tn vn::ent w sValue tv (vV v t2)::rest))::l,r'⟩) :
  HT (C0 w B) h₀ none 110 ⟨chS cb (cs+5),(f,frS w T V (.str (S (wT v ++ Z)) t) n (ent w sM tm vm::ent w sName tn vn::ent w sValue tv vv::rest))::l,r⟩ (execsZ [pB (C0 w B) 2,pB (C0 w B) 3] (envSp (C0 w B) f)) Q E:=by
 by_cases hq:v=0 ∨ v=2 ∨ v=3 ∨ v=4
 ·have hw:(wT v).length≤10∧wT v≠[]∧(⟨wT v ++ Z⟩:Array Nat).extract 2 (2+(qS v).length)=⟨qS v⟩∧(qS v).length≤10:=by
   rcases hq with rfl | rfl | rfl | rfl <;> exact ⟨by decide,by decide,extract_of rfl,by decide⟩
  refine el_AAA hw fun h1 h2 h3 h4=>?_
  try clear hw
  refine HT.execs_cons (sp_p2 N (P:=fun o r'=>∃ m s,o=some m∧r'=(m,matchO (wT v ++ Z) t 53 (wT v ++ Z).length s)::(s,spO (wT v).length 2 (2+(qS v).length))::r) (fun RR h=>quo_hit N hq (by lia) fun m s=>h (some m) _ ⟨m,s,rfl,rfl⟩) ?_)
  intro o r1 hZ0
  refine el_EEA hZ0 fun m s hE1 hE2=>?_
  try clear hZ0
  subst hE1
  subst hE2
  show HT _ _ _ _ _ (execsZ [pB (C0 w B) 3] _) _ _
  rw [isIf3]
  refine HT.ifS (sp_qi1 N (.head _) ?_)
  show HT _ _ _ _ _ (execsZ (ifBody (pB (C0 w B) 3)) _) _ _
  rw [ifB3]
  refine HT.execs_cons (sp_q0' N (Y:=Z) (by simp) (by simp [h2]) (.head _) (.tail _ (.tail _ (.head _))) (by simp) (by simp only [List.length_append];lia) fun t'=>?_)
  refine HT.execs_cons (sp_q1 N (.head _) (.tail _ (.tail _ (.head _))) h3 (by lia) fun t''=>?_)
  refine HT.reads (r:=(cs+5,codeS cs ct)::r) (Sub.cons (.tail _ (.tail _ (.tail _ hc))) (Sub.tail.trans (Sub.tail.trans Sub.tail))) ?_
  exact sp_q2 N hq fun t3=>G _ _ _ _ Sub.tail
 ·rcases (by lia:v=1 ∨ v=5) with rfl | rfl
  ·refine HT.execs_cons (sp_p2 N (P:=fun o r'=>o=none∧r'=r) (fun RR h=>quo_miss1 N (by lia) (h none _ ⟨rfl,rfl⟩)) ?_)
   intro o r1 hZ0
   refine el_A hZ0 fun hE1 hE2=>?_
   try clear hZ0
   subst hE1
   subst hE2
   show HT _ _ _ _ _ (execsZ [pB (C0 w B) 3] _) _ _
   rw [isIf3]
   refine HT.ifS (sp_qi0 N ?_)
   show HT _ _ _ _ _ (execsZ (ifElse (pB (C0 w B) 3)) _) _ _
   rw [ifE3]
   refine HT.execs_cons (sp_v0 N (P:=fun o r'=>∃ m s,o=some m∧r'=(m,matchO (wT 1 ++ Z) t 58 (wT 1 ++ Z).length s)::(s,spO 6 1 6)::r1) (fun RR h=>val_hit N hZ.pair (by lia) fun m s=>h (some m) _ ⟨m,s,rfl,rfl⟩) ?_)
   intro o r1 hZ0
   refine el_EEA hZ0 fun m s hE1 hE2=>?_
   try clear hZ0
   subst hE1
   subst hE2
   show HT _ _ _ _ _ (execsZ [vB (C0 w B) 1] _) _ _
   rw [isIfv]
   refine HT.ifS (sp_vi1 N (.head _) ?_)
   show HT _ _ _ _ _ (execsZ (ifBody (vB (C0 w B) 1)) _) _ _
   rw [ifBv]
   refine HT.execs_cons (sp_w0' N (Y:=Z) rfl (by simp [wT]) (.head _) (.tail _ (.tail _ (.head _))) (by simp [wT]) (by simp only [List.length_append,wT,List.length_cons,List.length_nil];lia) fun t'=>?_)
   refine HT.execs_cons (sp_w1 N (Y:=[97,45,49,46,98]) (.head _) (.tail _ (.tail _ (.head _))) (extract_of rfl) (by simp) fun t''=>?_)
   exact sp_x2 N fun t3=>G _ _ _ _ (Sub.tail.trans (Sub.tail.trans Sub.tail))
  ·refine HT.execs_cons (sp_p2 N (P:=fun o r'=>o=none∧r'=r) (fun RR h=>quo_miss5 N hZ.pair (by lia) hZ.key (h none _ ⟨rfl,rfl⟩)) ?_)
   intro o r1 hZ0
   refine el_A hZ0 fun hE1 hE2=>?_
   try clear hZ0
   subst hE1
   subst hE2
   show HT _ _ _ _ _ (execsZ [pB (C0 w B) 3] _) _ _
   rw [isIf3]
   refine HT.ifS (sp_qi0 N ?_)
   show HT _ _ _ _ _ (execsZ (ifElse (pB (C0 w B) 3)) _) _ _
   rw [ifE3]
   refine HT.execs_cons (sp_v0 N (P:=fun o r'=>o=none∧r'=r1) (fun RR h=>val_miss N hZ.pair (by lia) (h none _ ⟨rfl,rfl⟩)) ?_)
   intro o r1 hZ0
   refine el_A hZ0 fun hE1 hE2=>?_
   try clear hZ0
   subst hE1
   subst hE2
   show HT _ _ _ _ _ (execsZ [vB (C0 w B) 1] _) _ _
   rw [isIfv]
   refine HT.ifS (sp_vi0 N ?_)
   show HT _ _ _ _ _ (execsZ (ifElse (vB (C0 w B) 1)) _) _ _
   rw [ifEv]
   exact sp_n N (G _ _ 0 _ (Sub.refl _))
end
end
section
open PySem.Builtin.Re
theorem execsZ_app (env:PySem.Env) (l2:List Stmt):∀ l1:List Stmt,execsZ (l1 ++ l2) env=(execsZ l1 env >>= fun f=>match f with | .next=>execsZ l2 env | f=>pure f)
 | []=>by
  rw [execsZ_nil,pure_bind];rfl
 | s::l1=>by
  rw [List.cons_append,execsZ_cons,execsZ_cons,execsZ_app env l2 l1,bind_assoc]
  congr 1
  funext f
  cases f <;> simp
theorem HT.execs_app {C:Cfg} {h₀:Heap} {hd:Option Value} {lv:Nat} {x:Sx} {l1 l2:List Stmt} {env:PySem.Env} {Q:Flow→Sx→Prop} {E:Value→Sx→Prop}
  (H:HT C h₀ hd lv x (execsZ l1 env) (fun f x'=>f = .next∧HT C h₀ hd lv x' (execsZ l2 env) Q E) E):HT C h₀ hd lv x (execsZ (l1 ++ l2) env) Q E:=by
 rw [execsZ_app]
 refine HT.bind (H.mono ?_ fun vz0 vz1 q=>q)
 intro f x' hZ0
 refine el_A hZ0 fun hE1 q=>?_
 try clear hZ0
 subst hE1
 exact q
section
variable {w:World} {B:Hab} {h₀:Heap} (N:NatOk (C0 w B) h₀) {E:Value→Sx→Prop} {f n:Nat} {T:TS} {V:VS} {rest:List DictEntry} {l r:Memo} {ch:Ch} {tm tn tv tj tr:Tok} {vm vn vv vj vr txt:Value} {Q:Flow→Sx→Prop}
theorem key_ex {sp:List Nat} (hsp:sp=[] ∨ sp=[32]) (k:Nat) (Y:List Nat):(⟨sp ++ kc k::Y⟩:Array Nat).extract sp.length (sp.length+1)=⟨[kc k]⟩:=by
 rcases hsp with rfl | rfl <;> exact extract_of rfl
theorem key_drop {sp:List Nat} (hsp:sp=[] ∨ sp=[32]) (k:Nat) (Y:List Nat):(sp ++ kc k::Y).drop (sp.length+1)=Y:=by
 rcases hsp with rfl | rfl <;> rfl
theorem wT_le:∀ v,(wT v).length≤6
 | 0 | 1 | 2 | 3 | 4=>by decide
 | _+5=>by simp [wT]
include N
theorem sp_turnP {k v cb cs ct rs ps n':Nat} {hV oV:Value} {es:Array Value} {sp Z:List Nat} {t:Tok} (hsp:sp=[] ∨ sp=[32]) (hk:k<4) (hv:v<6) (hZ:NextOk Z) (hl:Z.length≤800) (hes:es.size≤1000) (hc:(cs+5,codeS cs ct)∈r)
  (G:∀ mv nv vv t' p n2 r',Sub r r'→PairAt r' p (k,v)→Q .next ⟨chS cb (cs+5),(f,frS w T ⟨hV,rs,oV,ps⟩ (.str (S Z) t') n (ent w sM tm mv::ent w sName tn nv::ent w sValue tv vv::rest))::(ps,listO (es.push (.ref p)) n2)::l,r'⟩) :
  HT (C0 w B) h₀ none 110 ⟨chS cb (cs+5),(f,frS w T ⟨hV,rs,oV,ps⟩ (.str (S (sp ++ kc k::(wT v ++ Z))) t) n (ent w sM tm vm::ent w sName tn vn::ent w sValue tv vv::rest))::(ps,listO es n')::l,r⟩ (execsZ (whBody (whSp (C0 w B))) (envSp (C0 w B) f)) Q E:=by
 have hw:=wT_le v
 have hsl:sp.length≤1:=by rcases hsp with rfl | rfl <;> simp
 have hYl:(wT v ++ Z).length≤810:=by rw [List.length_append];lia
 rw [whB]
 refine HT.execs_cons (sp_a0 N (P:=fun o r'=>∃ m s,o=some m∧r'=(m,matchO (sp ++ kc k::(wT v ++ Z)) t 48 (sp ++ kc k::(wT v ++ Z)).length s)::(s,spO (sp.length+1) sp.length (sp.length+1))::r) (fun RR h=>tok_hit N hk hsp (hZ.tok hv) (by lia) fun m s=>h (some m) _ ⟨m,s,rfl,rfl⟩) ?_)
 intro o r1 hZ0
 refine el_EEA hZ0 fun m s hE1 hE2=>?_
 try clear hZ0
 subst hE1
 subst hE2
 show HT _ _ _ _ _ (execsZ [sB (C0 w B) 1] _) _ _
 rw [isIf1]
 refine HT.ifS (sp_i1 N (.head _) ?_)
 show HT _ _ _ _ _ (execsZ (ifBody (sB (C0 w B) 1)) _) _ _
 rw [ifB1]
 refine HT.reads (r:=(m,matchO (sp ++ kc k::(wT v ++ Z)) t 48 (sp ++ kc k::(wT v ++ Z)).length s)::(s,spO (sp.length+1) sp.length (sp.length+1))::r) Sub.tail ?_
 refine HT.execs_cons (sp_p0' N (key_drop hsp k (wT v ++ Z)) (by simp) (.head _) (.tail _ (.head _)) (by simp) (by simp only [List.length_append,List.length_cons] at hYl ⊢;lia) fun t1=>?_)
 refine HT.execs_cons (sp_p1 N (.head _) (.tail _ (.head _)) (key_ex hsp k (wT v ++ Z)) (by simp) fun t2=>?_)
 refine HT.reads (r:=r) (Sub.tail.trans Sub.tail) ?_
 refine HT.execs_app (l1:=[pB (C0 w B) 2,pB (C0 w B) 3]) (l2:=[pB (C0 w B) 4]) (sp_value (k:=k) N hv hZ hl hc fun mv t3 t4 r' hr=>⟨rfl,?_⟩)
 refine sp_p4 N hv (by lia) fun p n2=>?_
 exact G _ _ _ _ _ _ _ (hr.trans Sub.tail) ⟨t2,t4,.head _⟩
theorem sp_turnJ {k:Nat} {R:List Nat} {t:Tok} (hk:k<4) (hR:R.length≤800)
  (G:∀ mv jv nv t' r',Sub r r'→Q .next ⟨ch,(f,frS w T V (.str (S (kc k::R)) t') n (ent w sM tm mv::ent w sName tn vn::ent w sValue tv vv::ent w sNj tj jv::ent w sNr tr nv::rest))::l,r'⟩) :
  HT (C0 w B) h₀ none 110 ⟨ch,(f,frS w T V (.str (S (59::32::kc k::R)) t) n (ent w sM tm vm::ent w sName tn vn::ent w sValue tv vv::ent w sNj tj vj::ent w sNr tr vr::rest))::l,r⟩ (execsZ (whBody (whSp (C0 w B))) (envSp (C0 w B) f)) Q E:=by
 rw [whB]
 refine HT.execs_cons (sp_a0 N (P:=fun o r'=>o=none∧r'=r) (fun RR h=>tok_miss N (.inl rfl) (by simp only [List.length_cons];lia) (h none _ ⟨rfl,rfl⟩)) ?_)
 intro o r1 hZ0
 refine el_A hZ0 fun hE1 hE2=>?_
 try clear hZ0
 subst hE1
 subst hE2
 show HT _ _ _ _ _ (execsZ [sB (C0 w B) 1] _) _ _
 rw [isIf1]
 refine HT.ifS (sp_i0 N ?_)
 show HT _ _ _ _ _ (execsZ (ifElse (sB (C0 w B) 1)) _) _ _
 rw [ifE1,isIfe]
 refine HT.ifS (sp_e N (by kernel_rfl) ?_)
 show HT _ _ _ _ _ (execsZ (ifElse (eS (C0 w B))) _) _ _
 rw [ifEe]
 refine HT.execs_cons (sp_j0 N hk (by lia) fun t1 t2 r' hr=>?_)
 refine HT.execs_cons (sp_j1 N ?_)
 exact sp_j2 N (G _ _ _ _ _ hr)
theorem sp_turnJn {k:Nat} {R:List Nat} {t:Tok} (hk:k<4) (hR:R.length≤800)
  (G:∀ mv jv nv t' r' tj tr,Sub r r'→Q .next ⟨ch,(f,frS w T V (.str (S (kc k::R)) t') 10 [ent w sM tm mv,ent w sName tn vn,ent w sValue tv vv,ent w sNj tj jv,ent w sNr tr nv])::l,r'⟩) :
  HT (C0 w B) h₀ none 110 ⟨ch,(f,frS w T V (.str (S (59::32::kc k::R)) t) 8 [ent w sM tm vm,ent w sName tn vn,ent w sValue tv vv])::l,r⟩ (execsZ (whBody (whSp (C0 w B))) (envSp (C0 w B) f)) Q E:=by
 rw [whB]
 refine HT.execs_cons (sp_a0 N (P:=fun o r'=>o=none∧r'=r) (fun RR h=>tok_miss N (.inl rfl) (by simp only [List.length_cons];lia) (h none _ ⟨rfl,rfl⟩)) ?_)
 intro o r1 hZ0
 refine el_A hZ0 fun hE1 hE2=>?_
 try clear hZ0
 subst hE1
 subst hE2
 show HT _ _ _ _ _ (execsZ [sB (C0 w B) 1] _) _ _
 rw [isIf1]
 refine HT.ifS (sp_i0 N ?_)
 show HT _ _ _ _ _ (execsZ (ifElse (sB (C0 w B) 1)) _) _ _
 rw [ifE1,isIfe]
 refine HT.ifS (sp_e N (by kernel_rfl) ?_)
 show HT _ _ _ _ _ (execsZ (ifElse (eS (C0 w B))) _) _ _
 rw [ifEe]
 refine HT.execs_cons (sp_j0n N hk (by lia) fun t1 t2 r' tj tr hr=>?_)
 refine HT.execs_cons (sp_j1 N ?_)
 exact sp_j2 N (G _ _ _ _ _ _ _ hr)
end
end
section
open PySem.Builtin.Re
section
variable {w:World} {B:Hab} {h₀:Heap} (N:NatOk (C0 w B) h₀) {E:Value→Sx→Prop} {f n:Nat} {T:TS} {V:VS} {rest:List DictEntry} {l r:Memo} {ch:Ch} {tm tn tv tj tr:Tok} {vm vn vv vj vr txt:Value} {Q:Flow→Sx→Prop}
include N
theorem sp_turn1 {k rs ps n':Nat} {hV oV:Value} {es:Array Value} {Z:List Nat} {t:Tok} (hk:k<4) (hZ:NextOk Z) (hl:Z.length≤800) (hes:es.size≤1000)
  (G:∀ mv nv vv t' p n2 r' tm tn tv,Sub r r'→PairAt r' p (k,1)→Q .next ⟨ch,(f,frS w T ⟨hV,rs,oV,ps⟩ (.str (S Z) t') 8 [ent w sM tm mv,ent w sName tn nv,ent w sValue tv vv])::(ps,listO (es.push (.ref p)) n2)::l,r'⟩) :
  HT (C0 w B) h₀ none 110 ⟨ch,(f,frS w T ⟨hV,rs,oV,ps⟩ (.str (S (kc k::(wT 1 ++ Z))) t) 5 [])::(ps,listO es n')::l,r⟩ (execsZ (whBody (whSp (C0 w B))) (envSp (C0 w B) f)) Q E:=by
 have hYl:(wT 1 ++ Z).length≤810:=by rw [List.length_append];have:=wT_le 1;lia
 rw [whB]
 refine HT.execs_cons (sp_a0n N (P:=fun o r'=>∃ m s,o=some m∧r'=(m,matchO (kc k::(wT 1 ++ Z)) t 48 (kc k::(wT 1 ++ Z)).length s)::(s,spO 1 0 1)::r) (fun RR h=>tok_hit N hk (.inl rfl) (hZ.tok (v:=1) (by lia)) (by lia) fun m s=>h (some m) _ ⟨m,s,rfl,rfl⟩) ?_)
 rintro o r1 tm ⟨m,s,rfl,rfl⟩
 show HT _ _ _ _ _ (execsZ [sB (C0 w B) 1] _) _ _
 rw [isIf1]
 refine HT.ifS (sp_i1 N (.head _) ?_)
 show HT _ _ _ _ _ (execsZ (ifBody (sB (C0 w B) 1)) _) _ _
 rw [ifB1]
 refine HT.reads (r:=(m,matchO (kc k::(wT 1 ++ Z)) t 48 (kc k::(wT 1 ++ Z)).length s)::(s,spO 1 0 1)::r) Sub.tail ?_
 refine HT.execs_cons (sp_p0' N (Y:=wT 1 ++ Z) rfl (by simp) (.head _) (.tail _ (.head _)) (by simp) (by simp only [List.length_cons] at hYl ⊢;lia) fun t1=>?_)
 refine HT.execs_cons (sp_p1n N (Y:=[kc k]) (.head _) (.tail _ (.head _)) (extract_of rfl) (by simp) fun t2 tn=>?_)
 refine HT.reads (r:=r) (Sub.tail.trans Sub.tail) ?_
 refine HT.execs_cons (sp_p2 N (P:=fun o r'=>o=none∧r'=r) (fun RR h=>quo_miss1 N (by lia) (h none _ ⟨rfl,rfl⟩)) ?_)
 rintro o r1 ⟨rfl,rfl⟩
 show HT _ _ _ _ _ (execsZ [pB (C0 w B) 3,pB (C0 w B) 4] _) _ _
 refine HT.execs_cons ?_
 rw [isIf3]
 refine HT.ifS (sp_qi0 N ?_)
 show HT _ _ _ _ _ (execsZ (ifElse (pB (C0 w B) 3)) _) _ _
 rw [ifE3]
 refine HT.execs_cons (sp_v0 N (P:=fun o r'=>∃ m s,o=some m∧r'=(m,matchO (wT 1 ++ Z) t1 58 (wT 1 ++ Z).length s)::(s,spO 6 1 6)::r1) (fun RR h=>val_hit N hZ.pair (by lia) fun m s=>h (some m) _ ⟨m,s,rfl,rfl⟩) ?_)
 rintro o r2 ⟨m,s,rfl,rfl⟩
 show HT _ _ _ _ _ (execsZ [vB (C0 w B) 1] _) _ _
 rw [isIfv]
 refine HT.ifS (sp_vi1 N (.head _) ?_)
 show HT _ _ _ _ _ (execsZ (ifBody (vB (C0 w B) 1)) _) _ _
 rw [ifBv]
 refine HT.execs_cons (sp_w0' N (Y:=Z) rfl (by simp [wT]) (.head _) (.tail _ (.tail _ (.head _))) (by simp [wT]) (by lia) fun t3=>?_)
 refine HT.execs_cons (sp_w1n N (Y:=[97,45,49,46,98]) (.head _) (.tail _ (.tail _ (.head _))) (extract_of rfl) (by simp) fun t4 tv=>?_)
 refine sp_x2 N fun t5=>?_
 refine HT.reads (r:=r1) (Sub.tail.trans (Sub.tail.trans Sub.tail)) ?_
 refine sp_p4 N (v:=1) (t2:=t5) (by lia) (by lia) fun p n2=>?_
 exact G _ _ _ _ _ _ _ _ _ _ Sub.tail ⟨t2,t5,.head _⟩
theorem sp_turn2 {k cb rs ps n':Nat} {hV oV:Value} {es:Array Value} {Z:List Nat} {t:Tok} (hk:k<4) (hZ:NextOk Z) (hl:Z.length≤800) (hes:es.size≤1000)
  (G:∀ mv nv vv t' p n2 r' cs ct,Sub r r'→PairAt r' p (k,2)→(cs+5,codeS cs ct)∈r'→Q .next ⟨chS cb (cs+5),(f,frS w T ⟨hV,rs,oV,ps⟩ (.str (S Z) t') n (ent w sM tm mv::ent w sName tn nv::ent w sValue tv vv::rest))::(ps,listO (es.push (.ref p)) n2)::l,r'⟩) :
  HT (C0 w B) h₀ none 110 ⟨chJ cb,(f,frS w T ⟨hV,rs,oV,ps⟩ (.str (S (kc k::(wT 2 ++ Z))) t) n (ent w sM tm vm::ent w sName tn vn::ent w sValue tv vv::rest))::(ps,listO es n')::l,r⟩ (execsZ (whBody (whSp (C0 w B))) (envSp (C0 w B) f)) Q E:=by
 have hYl:(wT 2 ++ Z).length≤810:=by rw [List.length_append];have:=wT_le 2;lia
 rw [whB]
 refine HT.execs_cons (sp_a0 N (P:=fun o r'=>∃ m s,o=some m∧r'=(m,matchO (kc k::(wT 2 ++ Z)) t 48 (kc k::(wT 2 ++ Z)).length s)::(s,spO 1 0 1)::r) (fun RR h=>tok_hit N hk (.inl rfl) (hZ.tok (v:=2) (by lia)) (by lia) fun m s=>h (some m) _ ⟨m,s,rfl,rfl⟩) ?_)
 rintro o r1 ⟨m,s,rfl,rfl⟩
 show HT _ _ _ _ _ (execsZ [sB (C0 w B) 1] _) _ _
 rw [isIf1]
 refine HT.ifS (sp_i1 N (.head _) ?_)
 show HT _ _ _ _ _ (execsZ (ifBody (sB (C0 w B) 1)) _) _ _
 rw [ifB1]
 refine HT.reads (r:=(m,matchO (kc k::(wT 2 ++ Z)) t 48 (kc k::(wT 2 ++ Z)).length s)::(s,spO 1 0 1)::r) Sub.tail ?_
 refine HT.execs_cons (sp_p0' N (Y:=wT 2 ++ Z) rfl (by simp) (.head _) (.tail _ (.head _)) (by simp) (by simp only [List.length_cons] at hYl ⊢;lia) fun t1=>?_)
 refine HT.execs_cons (sp_p1 N (Y:=[kc k]) (.head _) (.tail _ (.head _)) (extract_of rfl) (by simp) fun t2=>?_)
 refine HT.reads (r:=r) (Sub.tail.trans Sub.tail) ?_
 refine HT.execs_cons (sp_p2 N (P:=fun o r'=>∃ m s,o=some m∧r'=(m,matchO (wT 2 ++ Z) t1 53 (wT 2 ++ Z).length s)::(s,spO 6 2 5)::r) (fun RR h=>quo_hit N (v:=2) (by simp) (by lia) fun m s=>h (some m) _ ⟨m,s,rfl,rfl⟩) ?_)
 rintro o r1 ⟨m,s,rfl,rfl⟩
 show HT _ _ _ _ _ (execsZ [pB (C0 w B) 3,pB (C0 w B) 4] _) _ _
 refine HT.execs_cons ?_
 rw [isIf3]
 refine HT.ifS (sp_qi1 N (.head _) ?_)
 show HT _ _ _ _ _ (execsZ (ifBody (pB (C0 w B) 3)) _) _ _
 rw [ifB3]
 refine HT.execs_cons (sp_q0' N (Y:=Z) rfl (by simp [wT]) (.head _) (.tail _ (.tail _ (.head _))) (by simp [wT]) (by lia) fun t3=>?_)
 refine HT.execs_cons (sp_q1 N (Y:=qS 2) (.head _) (.tail _ (.tail _ (.head _))) (extract_of rfl) (by decide) fun t4=>?_)
 refine HT.reads (r:=r) (Sub.tail.trans (Sub.tail.trans Sub.tail)) ?_
 refine sp_q2f N fun t5 cs ct=>?_
 refine sp_p4 N (v:=2) (t2:=t5) (by lia) (by lia) fun p n2=>?_
 exact G _ _ _ _ _ _ _ _ _ (Sub.tail.trans Sub.tail) ⟨t2,t5,.head _⟩ (.tail _ (.head _))
end
end
section
open PySem.Builtin.Re
noncomputable def tailL:List (List KV)→List Nat
 | []=>[]
 | []::Ls=>tailL Ls
 | (p::ps)::Ls=>44::32::(wP p ++ (ps.flatMap (fun q=>59::32::wP q) ++ tailL Ls))
noncomputable def tailT (qs:List KV) (Ls:List (List KV)):List Nat:=qs.flatMap (fun q=>59::32::wP q) ++ tailL Ls
theorem tailT_cons (q:KV) (qs:List KV) (Ls:List (List KV)):tailT (q::qs) Ls=59::32::(wP q ++ tailT qs Ls):=by
 simp [tailT,List.append_assoc]
theorem tailT_next (p:KV) (ps:List KV) (Ls:List (List KV)):tailT [] ((p::ps)::Ls)=44::32::(wP p ++ tailT ps Ls):=by
 simp [tailT,tailL]
theorem wP_cons (p:KV):wP p=kc p.1::wT p.2:=wS_cons _ _
theorem wL_tail (p:KV):∀ ps:List KV,wL (p::ps)=wP p ++ ps.flatMap (fun q=>59::32::wP q)
 | []=>by simp [wL,joinN]
 | q::ps=>by
  have h:=wL_tail q ps
  show wP p ++ [59,32] ++ wL (q::ps)=_
  rw [h];simp
theorem header_tail (p:KV) (ps:List KV):∀ Ls:List (List KV),(∀ l∈Ls,l≠[])→header ((p::ps)::Ls)=wP p ++ tailT ps Ls
 | [],_=>by
  show wL (p::ps)=_
  rw [wL_tail];simp [tailT,tailL]
 | (q::qs)::Ls,h=>by
  have ih:=header_tail q qs Ls (fun l hl=>h l (.tail _ hl))
  show wL (p::ps) ++ [44,32] ++ header ((q::qs)::Ls)=_
  rw [ih,wL_tail]
  simp [tailT,tailL]
 | []::Ls,h=>absurd rfl (h [] (.head _))
theorem tail_next {qs:List KV} {Ls:List (List KV)} (hq:∀ q∈qs,Fine q) (hL:∀ l∈Ls,l≠[]∧∀ q∈l,Fine q):NextOk (tailT qs Ls):=by
 match qs,Ls with
 | q::qs,Ls =>
  rw [tailT_cons,wP_cons]
  exact .inr (.inl ⟨q.1,_,(hq q (.head _)).1,rfl⟩)
 | [],[]=>exact .inl rfl
 | [],(p::ps)::Ls =>
  rw [tailT_next,wP_cons]
  exact .inr (.inr ⟨p.1,_,((hL _ (.head _)).2 p (.head _)).1,rfl⟩)
 | [],[]::Ls=>exact absurd rfl (hL [] (.head _)).1
section
variable {w:World} {B:Hab} {h₀:Heap} (N:NatOk (C0 w B) h₀) {E:Value→Sx→Prop} {f n:Nat} {T:TS} {V:VS} {rest:List DictEntry} {l r:Memo} {ch:Ch} {tm tn tv tj tr:Tok} {vm vn vv vj vr txt:Value} {Q:Flow→Sx→Prop}
include N
theorem sp_c2' {rs ps p n' nr:Nat} {hV oV:Value} {es rr:Array Value}
  (G:∀ p,Q .next ⟨ch,(f,frS w T ⟨hV,rs,oV,p⟩ txt n rest)::(p,listO #[] 0)::(rs,listO rr nr)::l,(ps,listO es n')::r⟩):HT (C0 w B) h₀ none 110 ⟨ch,(rs,listO rr nr)::(f,frS w T ⟨hV,rs,oV,ps⟩ txt n rest)::(ps,listO es n')::l,r⟩ (execsZ [cB (C0 w B) 2] (envSp (C0 w B) f)) Q E:=by
 intro b tk
 exact HTa.val N [5,5] [2,0,1] 4 [3] (a:=.next) (l:=(f,frS w T ⟨hV,rs,oV,b⟩ txt n rest)::(b,listO #[] 0)::(rs,listO rr nr)::l) (r:=(ps,listO es n')::r) (ch:=ch) (by kernel_rfl) rfl (G b)
theorem sp_turnC' {rs ps n' nr:Nat} {hV oV:Value} {es rr:Array Value} {Z:List Nat} {t:Tok} {k:Nat} (hZ:Z.length≤800) (hes:es.size=k+1) (hks:k≤1000) (hrr:rr.size≤1000)
  (G:∀ p mv t' n2,Q .next ⟨ch,(f,frS w T ⟨hV,rs,oV,p⟩ (.str (S Z) t') n (ent w sM tm mv::rest))::(p,listO #[] 0)::(rs,listO (rr.push (.ref ps)) n2)::l,(ps,listO es n')::r⟩) :
  HT (C0 w B) h₀ none 110 ⟨ch,(f,frS w T ⟨hV,rs,oV,ps⟩ (.str (S (44::Z)) t) n (ent w sM tm vm::rest))::(ps,listO es n')::(rs,listO rr nr)::l,r⟩ (execsZ (whBody (whSp (C0 w B))) (envSp (C0 w B) f)) Q E:=by
 rw [whB]
 refine HT.execs_cons (sp_a0 N (P:=fun o r'=>o=none∧r'=r) (fun RR h=>tok_miss N (.inr rfl) (by lia) (h none _ ⟨rfl,rfl⟩)) ?_)
 intro o r1 hZ0
 refine el_A hZ0 fun hE1 hE2=>?_
 try clear hZ0
 subst hE1
 subst hE2
 show HT _ _ _ _ _ (execsZ [sB (C0 w B) 1] _) _ _
 rw [isIf1]
 refine HT.ifS (sp_i0 N ?_)
 show HT _ _ _ _ _ (execsZ (ifElse (sB (C0 w B) 1)) _) _ _
 rw [ifE1,isIfe]
 refine HT.ifS (sp_e N (by kernel_rfl) ?_)
 show HT _ _ _ _ _ (execsZ (ifBody (eS (C0 w B))) _) _ _
 rw [ifBe]
 refine HT.execs_cons (sp_c0 N (by lia) fun t'=>?_)
 refine HT.execs_cons ?_
 rw [isIfc]
 refine HT.ifS (sp_c1t N (V:=⟨hV,rs,oV,ps⟩) hes (by lia) ?_)
 show HT _ _ _ _ _ (execsZ (ifBody (cB (C0 w B) 1)) _) _ _
 refine HT.choose (il:=[0,2,1]) (k:=3) (ir:=[]) rfl ?_
 refine sp_c1b N (V:=⟨hV,rs,oV,ps⟩) (l:=(ps,listO es n')::l) (by lia) fun e'=>?_
 show HT _ _ _ _ _ (execsZ [cB (C0 w B) 2] _) _ _
 exact sp_c2' N (p:=0) fun p=>G _ _ _ _
end
end
noncomputable abbrev qLL:Str:=S [95,108,97,119,95,108,105,115,116,115,46,60,108,111,99,97,108,115,62,46]
noncomputable abbrev envLL (C:Cfg) (f:Addr):PySem.Env:=envA C 131 [] qLL f
noncomputable abbrev loopLL (C:Cfg):Stmt:=nthS (stmts C 131) 1
noncomputable abbrev mNumbers:Str:=S [110,117,109,98,101,114,115]
noncomputable abbrev mLists:Str:=S [108,105,115,116,115]
noncomputable abbrev mx:Str:=S [120]
noncomputable abbrev frLL (w:World) (t1 t2 t3:Tok) (v1 v2 v3:Value):Obj:=frameO #[ent w mNumbers t1 v1,ent w mLists t2 v2,ent w mx t3 v3] 3
noncomputable def kI (x:Int):Nat:=(x.fmod 4).toNat
noncomputable def vI (x:Int):Nat:=((x.fdiv 4).fmod 6).toNat
noncomputable def nwI (x:Int):Bool:=(x.fdiv 24).fmod 2 == 1
theorem fmod_lt (x:Int) {m:Int} (h:0<m):0≤x.fmod m∧x.fmod m<m:=by
 rw [Int.fmod_eq_emod_of_nonneg x (Int.le_of_lt h)]
 exact ⟨Int.emod_nonneg _ (Int.ne_of_gt h),Int.emod_lt_of_pos _ h⟩
theorem kI_is (x:Int):x.fmod 4=(kI x:Int):=(Int.toNat_of_nonneg (fmod_lt x (by decide)).1).symm
theorem vI_is (x:Int):(x.fdiv 4).fmod 6=(vI x:Int):=(Int.toNat_of_nonneg (fmod_lt _ (by decide)).1).symm
theorem kI_lt (x:Int):kI x<4:=Int.ofNat_lt.mp (kI_is x ▸ (fmod_lt x (m:=4) (by decide)).2)
theorem vI_lt (x:Int):vI x<6:=Int.ofNat_lt.mp (vI_is x ▸ (fmod_lt (x.fdiv 4) (m:=6) (by decide)).2)
section
variable {w:World} {B:Hab} {h₀:Heap} (N:NatOk (C0 w B) h₀)
include N
theorem abCd_item {x:Sx} {n:Int} {t t':Tok} {R:Result→Sx→Prop} (G:∀ u,R (.ok (.ret (.str (S [kc (kI n)]) u))) x) :
  HC (C0 w B) h₀ none 100 x (.call (.builtin "str.__getitem__") ⟨[.str (S [97,98,67,100]) t,.int (n.fmod 4) t'],[]⟩) R:=by
 rw [kI_is n]
 have hk:=kI_lt n
 revert G
 generalize kI n=k at hk
 intro G
 exact HC.run N [] [] 0 [] (fun m'=>.ok (.ret (.str (S [kc k]) m'.t.pred))) (fun vz0=>x.l) (fun vz0=>x.r) (fun vz0=>x.ch) (fun b tk=>by exact k4 hk (by kernel_rfl) (by kernel_rfl) (by kernel_rfl) (by kernel_rfl)) rfl fun m'=>G _
end
section
variable {w:World} {B:Hab} {h₀:Heap} (N:NatOk (C0 w B) h₀)
include N
theorem ll_if {it a i f ls e t1 t2 t3 tx:Nat} {x:Int} {l r:Memo} {ch:Ch} {lx:Array Value} {v1:Value} {Q:Flow→Sx→Prop} (hz:lx.size≤sizeLine)
  (G1:nwI x=true→∀ b,Q .next ⟨ch,(ls,listO (lx.push (.ref b)) (e+1))::(b,listO #[] 0)::(f,frLL w t1 t2 t3 v1 (.ref ls) (.int x tx))::(it,iterO a i)::l,r⟩)
  (G2:nwI x=false→Q .next ⟨ch,(ls,listO lx e)::(f,frLL w t1 t2 t3 v1 (.ref ls) (.int x tx))::(it,iterO a i)::l,r⟩) :
  HT (C0 w B) h₀ none 100 ⟨ch,(f,frLL w t1 t2 t3 v1 (.ref ls) (.int x tx))::(it,iterO a i)::(ls,listO lx e)::l,r⟩ (execsZ [nthS (forBody (loopLL (C0 w B))) 0] (envLL (C0 w B) f)) Q (fun vz0 vz1=>False):=by
 intro b tk
 have key:∀ (k:Result→Sem Flow),(∀ h:nwI x=true,HT (C0 w B) h₀ none 100 ⟨ch,(f,frLL w t1 t2 t3 v1 (.ref ls) (.int x tx))::(it,iterO a i)::(ls,listO lx e)::l,r⟩ (k (.ok (.ret (.bool true)))) Q (fun vz0 vz1=>False)) →
   (∀ h:nwI x=false,HT (C0 w B) h₀ none 100 ⟨ch,(f,frLL w t1 t2 t3 v1 (.ref ls) (.int x tx))::(it,iterO a i)::(ls,listO lx e)::l,r⟩ (k (.ok (.ret (.bool false)))) Q (fun vz0 vz1=>False)) →
   HC (C0 w B) h₀ none 100 ⟨ch,(f,frLL w t1 t2 t3 v1 (.ref ls) (.int x tx))::(it,iterO a i)::(ls,listO lx e)::l,r⟩ (.call (.builtin "int.__eq__") ⟨[.int ((x.fdiv 24).fmod 2) (tk+3),.int 1 (tk+4)],[]⟩)
    (fun r x=>HT (C0 w B) h₀ none 100 x (k r) Q (fun vz0 vz1=>False)):=by
  intro k h1 h2
  refine HC.eqInt ?_
  cases hq:((x.fdiv 24).fmod 2 == 1) with
  | true=>exact h1 hq
  | false=>exact h2 hq
 (
  refine HTa.cutN N [1,1,1] [0,1,2] 3 [] (c:=.call (.builtin "int.__eq__") ⟨[.int ((x.fdiv 24).fmod 2) (tk+3),.int 1 (tk+4)],[]⟩) (l:=(f,frLL w t1 t2 t3 v1 (.ref ls) (.int x tx))::(it,iterO a i)::(ls,listO lx e)::l) (r:=r) (ch:=ch) (by exact Hab.two B (by kernel_rfl) (by kernel_rfl)) rfl ?_
  refine key _ (fun hq b' tk'=>?_) (fun hq b' tk'=>?_)
  ·refine HTa.cut N [1,5,5,5,5] [3,0,1,2] 4 [] (c:=.call (.builtin "list.append") ⟨[.ref ls,.ref b'],[]⟩) (l:=(ls,listO lx e)::(b',listO #[] 0)::(f,frLL w t1 t2 t3 v1 (.ref ls) (.int x tx))::(it,iterO a i)::l) (r:=r) (ch:=ch) (by exact Hab.two B (by kernel_rfl) (by kernel_rfl)) rfl (by intro h;cases h) ?_
   refine HC.append hz fun b'' tk''=>?_
   exact HTa.val N [] [0,1,2,3] 4 [] (a:=.next) (l:=(ls,listO (lx.push (.ref b')) (e+1))::(b',listO #[] 0)::(f,frLL w t1 t2 t3 v1 (.ref ls) (.int x tx))::(it,iterO a i)::l) (r:=r) (ch:=ch) (by exact Hab.two B (by kernel_rfl) (by kernel_rfl)) rfl (G1 hq b')
  ·exact HTa.val N [] [2,0,1] 3 [] (a:=.next) (l:=(ls,listO lx e)::(f,frLL w t1 t2 t3 v1 (.ref ls) (.int x tx))::(it,iterO a i)::l) (r:=r) (ch:=ch) (by exact Hab.two B (by kernel_rfl) (by kernel_rfl)) rfl (G2 hq))
theorem ll_app {it a i f ls la e e2 t1 t2 t3 tx:Nat} {x:Int} {l r:Memo} {ch:Ch} {lx xs:Array Value} {v1:Value} (hv:lx[lx.size - 1]? = some (.ref la)) (hz:xs.size≤sizeLine) :
  HT (C0 w B) h₀ none 100 ⟨ch,(ls,listO lx e)::(la,listO xs e2)::(f,frLL w t1 t2 t3 v1 (.ref ls) (.int x tx))::(it,iterO a i)::l,r⟩ (execsZ [nthS (forBody (loopLL (C0 w B))) 1] (envLL (C0 w B) f))
   (fun fl x'=>fl = .next∧∃ p u1 u2,x'=⟨ch,(it,iterO a i)::(ls,listO lx e)::(la,listO (xs.push (.ref p)) (e2+1))::(f,frLL w t1 t2 t3 v1 (.ref ls) (.int x tx))::l,(p,pairO (kc (kI x)) (vI x) u1 u2)::r⟩) (fun vz0 vz1=>False):=by
 intro b tk
 refine HTa.cutN N [5,1,1,1,1] [2,3,0,1] 4 [] (c:=.call (.builtin "list.__getitem__") ⟨[.ref ls,.int (-1) (tk+1)],[]⟩) (l:=(f,frLL w t1 t2 t3 v1 (.ref ls) (.int x tx))::(it,iterO a i)::(ls,listO lx e)::(la,listO xs e2)::l) (r:=r) (ch:=ch) (by kernel_rfl) rfl ?_
 refine HC.getLast (n:=e) (v:=.ref la) (.inl (.tail _ (.tail _ (.head _)))) hv ?_
 intro b2 tk2
 refine HTa.cutN N [7,7,7,7,1,1] [0,1,2,3] 4 [] (c:=.call (.builtin "str.__getitem__") ⟨[.str (S [97,98,67,100]) tk2,.int (x.fmod 4) (tk2+2)],[]⟩) (l:=(f,frLL w t1 t2 t3 v1 (.ref ls) (.int x tx))::(it,iterO a i)::(ls,listO lx e)::(la,listO xs e2)::l) (r:=r) (ch:=ch) (by kernel_rfl) rfl ?_
 refine abCd_item N fun tc=>?_
 intro b3 tk3
 refine HTa.cutN N [3,1,1,1,1,1] [0,1,2,3,4] 5 [] (c:=.call (.builtin "list.__getitem__") ⟨[.ref b3,.int ((x.fdiv 4).fmod 6) (tk3+8)],[]⟩) (l:=(b3,listO #[vV 0 tk3,vV 1 (tk3+1),vV 2 (tk3+2),vV 3 (tk3+3),vV 4 (tk3+4),.none] 0)::(f,frLL w t1 t2 t3 v1 (.ref ls) (.int x tx))::(it,iterO a i)::(ls,listO lx e)::(la,listO xs e2)::l) (r:=r) (ch:=ch) (by kernel_rfl) rfl ?_
 have hv:=vI_lt x
 have hvi:=vI_is x
 have hm:∃ u,(#[vV 0 tk3,vV 1 (tk3+1),vV 2 (tk3+2),vV 3 (tk3+3),vV 4 (tk3+4),.none]:Array Value)[((x.fdiv 4).fmod 6).toNat]? = some (vV (vI x) u):=by
  rw [hvi,Int.toNat_natCast]
  generalize vI x=v at hv
  exact v6 hv ⟨_,rfl⟩ ⟨_,rfl⟩ ⟨_,rfl⟩ ⟨_,rfl⟩ ⟨_,rfl⟩ ⟨0,rfl⟩
 obtain ⟨u,hu⟩:=hm
 refine HC.getItem (n:=0) (v:=vV (vI x) u) (.inl (.head _)) (by omega) (by omega) hu ?_
 clear hu hvi
 generalize vI x=v at hv
 intro b4 tk4
 refine HTa.cut N [1] [5,2,3,4] 6 [0] (c:=.call (.builtin "list.append") ⟨[.ref la,.ref b4],[]⟩) (l:=(la,listO xs e2)::(f,frLL w t1 t2 t3 v1 (.ref ls) (.int x tx))::(it,iterO a i)::(ls,listO lx e)::l) (r:=(b4,pairO (kc (kI x)) v tc u)::r) (ch:=ch) (by exact v6 hv (by kernel_rfl) (by kernel_rfl) (by kernel_rfl) (by kernel_rfl) (by kernel_rfl) (by kernel_rfl)) rfl (by intro h;cases h) ?_
 refine HC.append hz fun b5 tk5=>?_
 exact HTa.val N [] [2,3,0,1] 4 [] (a:=.next) (l:=(it,iterO a i)::(ls,listO lx e)::(la,listO (xs.push (.ref b4)) (e2+1))::(f,frLL w t1 t2 t3 v1 (.ref ls) (.int x tx))::l) (r:=(b4,pairO (kc (kI x)) v tc u)::r) (ch:=ch) (by exact v6 hv (by kernel_rfl) (by kernel_rfl) (by kernel_rfl) (by kernel_rfl) (by kernel_rfl) (by kernel_rfl)) rfl ⟨rfl,b4,tc,u,rfl⟩
end
noncomputable def pI (x:Int):KV:=(kI x,vI x)
theorem pI_fine (x:Int):Fine (pI x):=⟨kI_lt x,vI_lt x⟩
noncomputable def stepS (s:List (List KV)×List KV) (x:Int):List (List KV)×List KV:=if nwI x then (s.1 ++ [s.2],[pI x]) else (s.1,s.2 ++ [pI x])
noncomputable def lawLists:List Int→List (List KV)
 | []=>[]
 | x::xs=>let s:=xs.foldl stepS ([],[pI x]);s.1 ++ [s.2]
noncomputable def IsInt (v:Value) (i:Int):Prop:=∃ t,v = .int i t
inductive LSt (w:World) (f ls:Addr) (l r0:Memo) (v1:Value) (s:List (List KV)×List KV) (y:Sx):Prop
 | mk:∀ pre la lp e e2 t1 t2 t3 v3 r,(y=⟨[],(ls,listO (refs (pre ++ [la])) e)::(la,listO (refs lp) e2)::(f,frLL w t1 t2 t3 v1 (.ref ls) v3)::l,r⟩)→(Sub r0 r)→(All2 (PairsAt r) pre s.1)→(All2 (PairAt r) lp s.2)→LSt w f ls l r0 v1 s y
theorem refs_push (ads:List Addr) (a:Addr):(refs ads).push (.ref a)=refs (ads ++ [a]):=by simp [refs]
theorem refs_last (pre:List Addr) (a:Addr):(refs (pre ++ [a]))[(refs (pre ++ [a])).size - 1]? = some (.ref a):=by simp [refs]
theorem stepS_size (xs:List Int):∀ s:List (List KV)×List KV,(xs.foldl stepS s).1.length+(xs.foldl stepS s).2.length≤s.1.length+s.2.length+2 * xs.length:=by
 induction xs with
 | nil=>intro s;simp
 | cons x xs ih =>
  intro s
  rw [List.foldl_cons,List.length_cons]
  have h:=ih (stepS s x)
  have h2:(stepS s x).1.length+(stepS s x).2.length≤s.1.length+s.2.length+2:=by
   unfold stepS
   split <;> simp only [List.length_append,List.length_cons,List.length_nil] <;> lia
  lia
section
variable {w:World} {B:Hab} {h₀:Heap} (N:NatOk (C0 w B) h₀)
theorem loopLL_body:forBody (loopLL (C0 w B))=[nthS (forBody (loopLL (C0 w B))) 0,nthS (forBody (loopLL (C0 w B))) 1]:=by kernel_rfl
theorem stmtsLL:stmts (C0 w B) 131=[nthS (stmts (C0 w B) 131) 0,loopLL (C0 w B),nthS (stmts (C0 w B) 131) 2]:=by kernel_rfl
include N
theorem ll_loop {f ls a it t1 t2:Addr} {l r0:Memo} {x0:Int} {xs:List Int} {its:Array Value} {n:Nat} (hl:(a,listO its n)∈r0) (hi:All2 IsInt its.toList (x0::xs)) (h0:nwI x0=true) (hn:xs.length≤100) :
  HC (C0 w B) h₀ none 100 ⟨[],(it,iterO a 0)::(f,frameO #[ent w mNumbers t1 (.ref a),ent w mLists t2 (.ref ls)] 2)::(ls,listO #[] 0)::l,r0⟩ (loopOf (loopLL (C0 w B)) (.ref it) (envLL (C0 w B) f)) (fun r x'=>r = .ok .next∧LSt w f ls l r0 (.ref a) (xs.foldl stepS ([],[pI x0])) x'):=by
 have e:loopOf (loopLL (C0 w B)) (.ref it) (envLL (C0 w B) f) = .forLoop (forTarget (loopLL (C0 w B))) (.ref it) (forBody (loopLL (C0 w B))) [] (envLL (C0 w B) f):=by kernel_rfl
 rw [e]
 have hsz:its.size=xs.length+1:=by have:=hi.length;rw [Array.length_toList,List.length_cons] at this;exact this
 have letgo:∀ {v:Value} {x:Sx} {Q:Unit→Sx→Prop},Q () x→HT (C0 w B) h₀ none 100 x (letGoZ (forTarget (loopLL (C0 w B))) (.ref it) v) Q (fun vz0 vz1=>False):=fun {v x Q} q b tk =>
  HTa.val N [] [] 0 [] (a:=()) (l:=x.l) (r:=x.r) (ch:=x.ch) (by kernel_rfl) rfl q
 refine HC.forL1 (y0:=⟨[],(f,frameO #[ent w mNumbers t1 (.ref a),ent w mLists t2 (.ref ls)] 2)::(ls,listO #[] 0)::l,r0⟩) (a:=a) (n:=n) (its:=its) (fun i y=>LSt w f ls l r0 (.ref a) ((xs.take i).foldl stepS ([],[pI x0])) y) (.inr hl) ?_ hsz ?_ ?_ ?_
 ·intro i y hy
  obtain ⟨pre,la,lp,e,e2,t1,t2,t3,v3,r,e',hr,h1,h2⟩:=hy
  subst e'
  exact .inr (hr _ hl)
 ·intro y hy'
  rw [List.take_length] at hy'
  exact ⟨rfl,hy'⟩
 ·intro v hv
  refine el_EAE (hi.get (i:=0) (a:=v) (by rw [Array.getElem?_toList];exact hv)) fun x hx tx hE3=>?_
  subst hE3
  refine letgo ?_
  cases hx
  intro b tk
  refine HTa.val N [3,3] [1,0,2] 3 [] (a:=()) (l:=(f,frLL w t1 t2 tk (.ref a) (.ref ls) (.int x0 tx))::(it,iterO a 1)::(ls,listO #[] 0)::l) (r:=r0) (ch:=[]) (by kernel_rfl) rfl ?_
  rw [loopLL_body]
  refine HT.execs_cons ?_
  refine ll_if N (small_size (by decide)) (fun vz0 la=>?_) (fun h=>by rw [h0] at h;cases h)
  refine HT.mono (ll_app N (lx:=#[.ref la]) (xs:=#[]) rfl (small_size (by decide))) ?_ (fun vz0 vz1 q=>q)
  intro fl x hZ0
  refine el_AEEE hZ0 fun hE1 p u1 u2 hE2=>?_
  try clear hZ0
  subst hE1
  subst hE2
  exact ⟨_,⟨[],la,[p],_,_,_,_,_,_,_,rfl,Sub.tail,.nil,.cons ⟨u1,u2,.head _⟩ .nil⟩,rfl⟩
 ·intro i y v hy hv
  refine el_EAE (hi.get (i:=i+1) (a:=v) (by rw [Array.getElem?_toList];exact hv)) fun x hx tx hE3=>?_
  subst hE3
  refine letgo ?_
  obtain ⟨pre,la,lp,e,e2,t1,t2,t3,v3,r,e',hr,h1,h2⟩:=hy
  subst e'
  have hx':xs[i]? = some x:=hx
  have hi':i<xs.length:=(List.getElem?_eq_some_iff.mp hx').1
  have hst:(xs.take (i+1)).foldl stepS ([],[pI x0])=stepS ((xs.take i).foldl stepS ([],[pI x0])) x:=by rw [take_succ_get hx',List.foldl_append];rfl
  have hlen:=stepS_size (xs.take i) ([],[pI x0])
  have htk:(xs.take i).length≤100:=Nat.le_trans (List.length_take_le' _ _) hn
  simp only [List.length_nil,List.length_cons] at hlen
  intro b tk
  refine HTa.val N [7,7] [3,0,1,2] 4 [] (a:=()) (l:=(f,frLL w t1 t2 t3 (.ref a) (.ref ls) (.int x tx))::(it,iterO a (i+1+1))::(ls,listO (refs (pre ++ [la])) e)::(la,listO (refs lp) e2)::l) (r:=r) (ch:=[]) (by kernel_rfl) rfl ?_
  rw [loopLL_body]
  refine HT.execs_cons ?_
  refine ll_if N (small_size (by rw [refs_size,List.length_append,List.length_singleton,h1.length];lia)) (fun hq la'=>?_) (fun hq=>?_)
  ·rw [refs_push]
   refine HT.choose (il:=[0,1,2,3]) (k:=5) (ir:=[4]) rfl ?_
   show HT _ _ _ _ ⟨[],(ls,listO (refs (pre ++ [la] ++ [la'])) (e+1))::(la',listO #[] 0)::(f,frLL w t1 t2 t3 (.ref a) (.ref ls) (.int x tx))::(it,iterO a (i+1+1))::l,(la,listO (refs lp) e2)::r⟩ _ _ _
   refine HT.mono (ll_app N (refs_last _ _) (xs:=#[]) (small_size (by decide))) ?_ (fun vz0 vz1 q=>q)
   intro fl x hZ0
   refine el_AEEE hZ0 fun hE1 p u1 u2 hE2=>?_
   try clear hZ0
   subst hE1
   subst hE2
   refine ⟨⟨_,_,_⟩,?_,rfl⟩
   show LSt w f ls l r0 (.ref a) ((xs.take (i+1)).foldl stepS ([],[pI x0])) _
   rw [hst]
   unfold stepS
   rw [if_pos hq]
   exact ⟨pre ++ [la],la',[p],_,_,_,_,_,_,_,rfl,hr.trans (Sub.tail.trans Sub.tail),(h1.mono fun vz0 vz1=>PairsAt.mono (Sub.tail.trans Sub.tail)).snoc ⟨lp,e2,.tail _ (.head _),h2.mono fun vz0 vz1=>PairAt.mono (Sub.tail.trans Sub.tail)⟩,.cons ⟨u1,u2,.head _⟩ .nil⟩
  ·refine HT.choose (il:=[0,3,1,2]) (k:=4) (ir:=[]) rfl ?_
   show HT _ _ _ _ ⟨[],(ls,listO (refs (pre ++ [la])) e)::(la,listO (refs lp) e2)::(f,frLL w t1 t2 t3 (.ref a) (.ref ls) (.int x tx))::(it,iterO a (i+1+1))::l,r⟩ _ _ _
   refine HT.mono (ll_app N (refs_last _ _) (small_size (by rw [refs_size,h2.length];lia))) ?_ (fun vz0 vz1 q=>q)
   intro fl x hZ0
   refine el_AEEE hZ0 fun hE1 p u1 u2 hE2=>?_
   try clear hZ0
   subst hE1
   subst hE2
   refine ⟨⟨_,_,_⟩,?_,rfl⟩
   show LSt w f ls l r0 (.ref a) ((xs.take (i+1)).foldl stepS ([],[pI x0])) _
   rw [hst]
   unfold stepS
   rw [if_neg (by rw [hq];exact Bool.false_ne_true),refs_push]
   exact ⟨pre,la,lp ++ [p],_,_,_,_,_,_,_,rfl,hr.trans Sub.tail,h1.mono fun vz0 vz1=>PairsAt.mono Sub.tail,(h2.mono fun vz0 vz1=>PairAt.mono Sub.tail).snoc ⟨u1,u2,.head _⟩⟩
theorem ll_call {a:Addr} {l r:Memo} {x0:Int} {xs:List Int} {its:Array Value} {n:Nat} {R:Result→Sx→Prop} (hl:(a,listO its n)∈r) (hi:All2 IsInt its.toList (x0::xs)) (h0:nwI x0=true) (hn:xs.length≤100)
  (G:∀ ls r',Sub r r'→ListsAt r' ls (lawLists (x0::xs))→R (.ok (.ret (.ref ls))) ⟨[],l,r'⟩):HC (C0 w B) h₀ none 102 ⟨[],l,r⟩ (.call (.ref 131) ⟨[.ref a],[]⟩) R:=by
 refine HC.enter N (lv:=101) (o:=topObj (C0 w B) 131) [0,1,1] [0] 1 [] 0 (by kernel_rfl) (by kernel_rfl) fun b tk=>?_
 refine ⟨envLL (C0 w B) b,(b,frameO #[ent w mNumbers tk (.ref a)] 1)::l,r,[],by kernel_rfl,rfl,?_⟩
 have e:bodyCode (fdAt (some (topObj (C0 w B) 131))) (envLL (C0 w B) b) = .func (stmts (C0 w B) 131) (envLL (C0 w B) b):=by kernel_rfl
 rw [e]
 refine HC.func (lv:=100) ?_
 rw [stmtsLL]
 refine HT.execs_cons ?_
 intro b2 tk2
 refine HTa.val N [3,3] [1,0] 2 [] (a:=.next) (l:=(b,frameO #[ent w mNumbers tk (.ref a),ent w mLists tk2 (.ref b2)] 2)::(b2,listO #[] 0)::l) (r:=r) (ch:=[]) (by kernel_rfl) rfl ?_
 refine HT.execs_cons ?_
 refine HT.mono (Q:=fun fl x'=>fl = .next∧LSt w b b2 l r (.ref a) (xs.foldl stepS ([],[pI x0])) x') ?_ ?_ (fun vz0 vz1 q=>q)
 ·refine HT.reads (r:=(a,listO its n)::r) (Sub.cons hl (Sub.refl _)) ?_
  have H:∀ b5,HC (C0 w B) h₀ none 100 ⟨[],(b5,iterO a 0)::(b,frameO #[ent w mNumbers tk (.ref a),ent w mLists tk2 (.ref b2)] 2)::(b2,listO #[] 0)::l,(a,listO its n)::r⟩ (loopOf (loopLL (C0 w B)) (.ref b5) (envLL (C0 w B) b)) (fun r' x=>r' = .ok .next∧Flow.next = .next∧LSt w b b2 l r (.ref a) (xs.foldl stepS ([],[pI x0])) x):=by
   intro b5
   refine HC.reads (r:=r) Sub.tail ?_
   exact HC.mono (ll_loop N hl hi h0 hn) fun vz0 vz1 q=>⟨q.1,rfl,q.2⟩
  exact HT.forCut N [1,2,2,1,2,1] (fun b tk=>by exact Hab.two B (by kernel_rfl) (by kernel_rfl)) (fun b tk y b' tk'=>by exact Hab.two B (by kernel_rfl) (by kernel_rfl)) H
 ·intro fl x hZ0
  obtain ⟨hE1,pre,la,lp,e,e2,t1,t2,t3,v3,r',hE2,hr,h1,h2⟩:=hZ0
  subst hE1
  subst hE2
  intro b6 tk6
  refine HTa.val N [5] [] 3 [0,1] (a:=.ret (.ref b2)) (l:=l) (r:=(b2,listO (refs (pre ++ [la])) e)::(la,listO (refs lp) e2)::r') (ch:=[]) (by kernel_rfl) rfl ?_
  refine G b2 _ (hr.trans (Sub.tail.trans Sub.tail)) ⟨pre ++ [la],e,.head _,?_⟩
  exact (h1.mono fun vz0 vz1=>PairsAt.mono (Sub.tail.trans Sub.tail)).snoc ⟨lp,e2,.tail _ (.head _),h2.mono fun vz0 vz1=>PairAt.mono (Sub.tail.trans Sub.tail)⟩
end
section
open PySem.Builtin.Re
structure SP where
 f:Addr
 T:TS
 hV:Value
 oV:Value
 rs:Addr
 cb:Nat
 l:Memo
 r0:Memo
 k0:Nat
 k1:Nat
 qs:List KV
 Ls:List (List KV)
noncomputable abbrev SP.L (P:SP):List (List KV):=((P.k0,1)::(P.k1,2)::P.qs)::P.Ls
inductive SpI (w:World) (P:SP):Nat→Sx→Prop
 | ph0 {ps n1 t n} (hn:n=(kc P.k0::(wT 1 ++ tailT ((P.k1,2)::P.qs) P.Ls)).length):SpI w P n ⟨chJ P.cb,(P.f,frS w P.T ⟨P.hV,P.rs,P.oV,ps⟩ (.str (S (kc P.k0::(wT 1 ++ tailT ((P.k1,2)::P.qs) P.Ls))) t) 5 [])::(ps,listO #[] n1)::(P.rs,listO #[] 0)::P.l,P.r0⟩
 | ph1 {ps n1 t n p r tm tn tv vm vn vv} (hn:n=(tailT ((P.k1,2)::P.qs) P.Ls).length) (hr:Sub P.r0 r) (hp:PairAt r p (P.k0,1)):SpI w P n ⟨chJ P.cb,(P.f,frS w P.T ⟨P.hV,P.rs,P.oV,ps⟩ (.str (S (tailT ((P.k1,2)::P.qs) P.Ls)) t) 8 [ent w sM tm vm,ent w sName tn vn,ent w sValue tv vv])::(ps,listO #[.ref p] n1)::(P.rs,listO #[] 0)::P.l,r⟩
 | ph2 {ps n1 t n p r tm tn tv tj tr vm vn vv vj vr} (hn:n=(kc P.k1::(wT 2 ++ tailT P.qs P.Ls)).length) (hr:Sub P.r0 r) (hp:PairAt r p (P.k0,1)):SpI w P n ⟨chJ P.cb,(P.f,frS w P.T ⟨P.hV,P.rs,P.oV,ps⟩ (.str (S (kc P.k1::(wT 2 ++ tailT P.qs P.Ls))) t) 10 [ent w sM tm vm,ent w sName tn vn,ent w sValue tv vv,ent w sNj tj vj,ent w sNr tr vr])::(ps,listO #[.ref p] n1)::(P.rs,listO #[] 0)::P.l,r⟩
 | gj {ps n1 n2 t n r tm tn tv tj tr vm vn vv vj vr cs ct} {ads lds:List Addr} {DL:List (List KV)} {cur qs:List KV} {Ls:List (List KV)} (hn:n=(tailT qs Ls).length) (hc:(cs+5,codeS cs ct)∈r) (hr:Sub P.r0 r) (hd:All2 (PairsAt r) lds DL) (ha:All2 (PairAt r) ads cur) (h0:cur≠[]) (hL:P.L=DL ++ (cur ++ qs)::Ls) :
   SpI w P n ⟨chS P.cb (cs+5),(P.f,frS w P.T ⟨P.hV,P.rs,P.oV,ps⟩ (.str (S (tailT qs Ls)) t) 10 [ent w sM tm vm,ent w sName tn vn,ent w sValue tv vv,ent w sNj tj vj,ent w sNr tr vr])::(ps,listO (refs ads) n1)::(P.rs,listO (refs lds) n2)::P.l,r⟩
 | gp {ps n1 n2 t n r tm tn tv tj tr vm vn vv vj vr cs ct} {ads lds:List Addr} {DL:List (List KV)} {cur qs:List KV} {Ls:List (List KV)} {sp:List Nat} {p:KV} (hn:n=(sp ++ kc p.1::(wT p.2 ++ tailT qs Ls)).length) (hsp:sp=[] ∨ sp=[32]) (hc:(cs+5,codeS cs ct)∈r) (hr:Sub P.r0 r) (hd:All2 (PairsAt r) lds DL) (ha:All2 (PairAt r) ads cur) (hL:P.L=DL ++ (cur ++ p::qs)::Ls) :
   SpI w P n ⟨chS P.cb (cs+5),(P.f,frS w P.T ⟨P.hV,P.rs,P.oV,ps⟩ (.str (S (sp ++ kc p.1::(wT p.2 ++ tailT qs Ls))) t) 10 [ent w sM tm vm,ent w sName tn vn,ent w sValue tv vv,ent w sNj tj vj,ent w sNr tr vr])::(ps,listO (refs ads) n1)::(P.rs,listO (refs lds) n2)::P.l,r⟩
inductive SpEnd (w:World) (P:SP) (y:Sx):Prop
 | mk:∀ ps n1 n2 t r tm tn tv tj tr vm vn vv vj vr cs ct,∀ (ads lds:List Addr) (DL:List (List KV)) (cur:List KV),((cs+5,codeS cs ct)∈r)→(Sub P.r0 r)→(All2 (PairsAt r) lds DL)→(All2 (PairAt r) ads cur)→(cur≠[])→(P.L=DL ++ [cur])→(y=⟨chS P.cb (cs+5),(P.f,frS w P.T ⟨P.hV,P.rs,P.oV,ps⟩ (.str (S []) t) 10 [ent w sM tm vm,ent w sName tn vn,ent w sValue tv vv,ent w sNj tj vj,ent w sNr tr vr])::(ps,listO (refs ads) n1)::(P.rs,listO (refs lds) n2)::P.l,r⟩)→SpEnd w P y
structure SP.Ok (P:SP):Prop where
 fine:∀ l∈P.L,l≠[]∧l.length≤100∧∀ q∈l,Fine q
 few:P.L.length≤100
 short:(header P.L).length≤800
section
variable {w:World} {B:Hab} {h₀:Heap} (N:NatOk (C0 w B) h₀)
include N
theorem sp_test1' {E:Value→Sx→Prop} {f n:Nat} {T:TS} {V:VS} {X:List Nat} {t:Tok} {rest:List DictEntry} {l r:Memo} {ch:Ch} (hX:X≠[]) (hZ:X.length≤900000) {Q:Bool→Sx→Prop}
  (G:Q true ⟨ch,(f,frS w T V (.str (S X) t) n rest)::l,r⟩):HT (C0 w B) h₀ none 110 ⟨ch,(f,frS w T V (.str (S X) t) n rest)::l,r⟩ (isTrueZ (whTest (whSp (C0 w B))) (envSp (C0 w B) f) (evalZ (whTest (whSp (C0 w B))) (envSp (C0 w B) f))) Q E:=by
 match X,hX with
 | c0::Z,_=>exact sp_test1 N (by simp only [List.length_cons] at hZ;lia) G
end
section
variable {w:World} {B:Hab} {h₀:Heap} (N:NatOk (C0 w B) h₀) {P:SP} (O:P.Ok)
include O
theorem SP.Ok.rest {DL:List (List KV)} {c:List KV} {Ls:List (List KV)} (h:P.L=DL ++ c::Ls):(c≠[]∧c.length≤100∧∀ q∈c,Fine q)∧(∀ l∈Ls,l≠[]∧∀ q∈l,Fine q)∧DL.length≤100:=by
 refine ⟨O.fine c (by rw [h];simp),fun l hl=>?_,?_⟩
 ·obtain ⟨a,_,b⟩:=O.fine l (by rw [h];simp [hl])
  exact ⟨a,b⟩
 ·have:=O.few
  rw [h,List.length_append] at this
  lia
include N
theorem sp_while {ps n1 t}:HC (C0 w B) h₀ none 110 ⟨chJ P.cb,(P.f,frS w P.T ⟨P.hV,P.rs,P.oV,ps⟩ (.str (S (header P.L)) t) 5 [])::(ps,listO #[] n1)::(P.rs,listO #[] 0)::P.l,P.r0⟩ (.whileLoop (whTest (whSp (C0 w B))) (whBody (whSp (C0 w B))) [] (envSp (C0 w B) P.f)) (fun r y=>r = .ok .next∧SpEnd w P y):=by
 have h00:=O.rest (DL:=[]) rfl
 have ht1:∀ l∈P.Ls,l≠[]:=fun l hl=>(h00.2.1 l hl).1
 have hh:header P.L=kc P.k0::(wT 1 ++ tailT ((P.k1,2)::P.qs) P.Ls):=by
  rw [header_tail _ _ _ ht1,wP_cons];rfl
 have hlen:=O.short
 rw [hh] at hlen ⊢
 have f0:P.k0<4:=(h00.1.2.2 _ (.head _)).1
 have f1:P.k1<4:=(h00.1.2.2 _ (.tail _ (.head _))).1
 have nx0:NextOk (tailT ((P.k1,2)::P.qs) P.Ls):=tail_next (fun q hq=>h00.1.2.2 q (.tail _ hq)) h00.2.1
 have nx1:NextOk (tailT P.qs P.Ls):=tail_next (fun q hq=>h00.1.2.2 q (.tail _ (.tail _ hq))) h00.2.1
 refine HC.whileLoop (fun n y=>n≤800∧SpI w P n y) (fun n y hI=>?_) _ ⟨hlen,.ph0 rfl⟩
 obtain ⟨hn8,I⟩:=hI
 cases I with
 | @ph0 ps n1 t n hn =>
  simp only [List.length_cons,List.length_append] at hn
  refine sp_test1 N (by simp only [List.length_append];lia) ?_
  refine sp_turn1 N f0 nx0 (by lia) (by simp) fun mv nv vv t' p n2 r' tm tn tv hr hp=>?_
  exact ⟨_,by (try simp only [List.length_cons,List.length_append,List.length_nil]) <;> lia,by (try simp only [List.length_cons,List.length_append,List.length_nil]) <;> lia,.ph1 rfl hr hp⟩
 | @ph1 ps n1 t n p r tm tn tv vm vn vv hn hr hp =>
  have e:tailT ((P.k1,2)::P.qs) P.Ls=59::32::kc P.k1::(wT 2 ++ tailT P.qs P.Ls):=by rw [tailT_cons,wP_cons];rfl
  rw [e] at hn ⊢
  simp only [List.length_cons,List.length_append] at hn
  refine sp_test1 N (by simp only [List.length_append,List.length_cons];lia) ?_
  refine sp_turnJn N (V:=⟨P.hV,P.rs,P.oV,ps⟩) f1 (by simp only [List.length_append];lia) fun mv jv nv t' r' tj tr hr'=>?_
  exact ⟨_,by (try simp only [List.length_cons,List.length_append,List.length_nil]) <;> lia,by (try simp only [List.length_cons,List.length_append,List.length_nil]) <;> lia,.ph2 rfl (hr.trans hr') (hp.mono hr')⟩
 | @ph2 ps n1 t n p r tm tn tv tj tr vm vn vv vj vr hn hr hp =>
  simp only [List.length_cons,List.length_append] at hn
  refine sp_test1 N (by simp only [List.length_append];lia) ?_
  refine sp_turn2 N f1 nx1 (by lia) (by simp) fun mv nv vv t' p2 n2 r' cs ct hr' hp2 hc=>?_
  exact ⟨_,by (try simp only [List.length_cons,List.length_append,List.length_nil]) <;> lia,by (try simp only [List.length_cons,List.length_append,List.length_nil]) <;> lia,.gj (ads:=[p,p2]) (lds:=[]) (DL:=[]) (cur:=[(P.k0,1),(P.k1,2)]) rfl hc (hr.trans hr') .nil (.cons (hp.mono hr') (.cons hp2 .nil)) (by simp) rfl⟩
 | @gp ps n1 n2 t n r tm tn tv tj tr vm vn vv vj vr cs ct ads lds DL cur qs Ls sp p hn hsp hc hr hd ha hL =>
  obtain ⟨⟨g1,g2,g3⟩,g4,g5⟩:=O.rest hL
  have nx:NextOk (tailT qs Ls):=tail_next (fun q hq=>g3 q (by simp [hq])) g4
  have fp:Fine p:=g3 p (by simp)
  simp only [List.length_cons,List.length_append] at hn g2
  have hal:=ha.length
  have hsl:sp.length≤1:=by rcases hsp with rfl | rfl <;> simp
  refine sp_test1' N (by simp) (by simp only [List.length_cons,List.length_append];lia) ?_
  refine sp_turnP N hsp fp.1 fp.2 nx (by lia) (by rw [refs_size];lia) hc fun mv nv vv t' p2 n2' r' hr' hp2=>?_
  rw [refs_push]
  exact ⟨_,by (try simp only [List.length_cons,List.length_append,List.length_nil]) <;> lia,by (try simp only [List.length_cons,List.length_append,List.length_nil]) <;> lia,.gj (cur:=cur ++ [p]) rfl (hr' _ hc) (hr.trans hr') (hd.mono fun vz0 vz1=>PairsAt.mono hr') ((ha.mono fun vz0 vz1=>PairAt.mono hr').append (.cons hp2 .nil)) (by simp) (by rw [hL];simp)⟩
 | @gj ps n1 n2 t n r tm tn tv tj tr vm vn vv vj vr cs ct ads lds DL cur qs Ls hn hc hr hd ha h0 hL =>
  obtain ⟨⟨g1,g2,g3⟩,g4,g5⟩:=O.rest hL
  match qs,Ls with
  | [],[] =>
   refine sp_test0 N ?_
   exact ⟨rfl,_,_,_,_,_,_,_,_,_,_,_,_,_,_,_,_,_,ads,lds,DL,cur,hc,hr,hd,ha,h0,by rw [hL,List.append_nil],rfl⟩
  | q::qs,Ls =>
   have e:tailT (q::qs) Ls=59::32::kc q.1::(wT q.2 ++ tailT qs Ls):=by rw [tailT_cons,wP_cons];rfl
   rw [e] at hn ⊢
   simp only [List.length_cons,List.length_append] at hn
   have fq:Fine q:=g3 q (by simp)
   refine sp_test1 N (by simp only [List.length_append,List.length_cons];lia) ?_
   refine sp_turnJ N (V:=⟨P.hV,P.rs,P.oV,ps⟩) fq.1 (by simp only [List.length_append];lia) fun mv jv nv t' r' hr'=>?_
   exact ⟨_,by (try simp only [List.length_cons,List.length_append,List.length_nil]) <;> lia,by (try simp only [List.length_cons,List.length_append,List.length_nil]) <;> lia,.gp (sp:=[]) rfl (.inl rfl) (hr' _ hc) (hr.trans hr') (hd.mono fun vz0 vz1=>PairsAt.mono hr') (ha.mono fun vz0 vz1=>PairAt.mono hr') hL⟩
  | [],(p::pt)::Ls =>
   have e:tailT [] ((p::pt)::Ls)=44::([32] ++ kc p.1::(wT p.2 ++ tailT pt Ls)):=by rw [tailT_next,wP_cons];rfl
   rw [e] at hn ⊢
   simp only [List.length_cons,List.length_append,List.length_nil] at hn
   have hal:=ha.length
   have hdl:=hd.length
   obtain ⟨c0,cs',rfl⟩:=List.exists_cons_of_ne_nil h0
   simp only [List.length_cons,List.append_nil] at hal g2
   refine sp_test1 N (by simp only [List.length_append,List.length_cons,List.length_nil];lia) ?_
   refine sp_turnC' N (k:=cs'.length) (by simp only [List.length_append,List.length_cons,List.length_nil];lia) (by rw [refs_size];lia) (by lia) (by rw [refs_size];lia) fun p' mv t' n2'=>?_
   rw [refs_push]
   refine ⟨_,?_,?_,.gp (sp:=[32]) (ads:=[]) (cur:=[]) (DL:=DL ++ [c0::cs']) rfl (.inr rfl) (.tail _ hc) (hr.trans Sub.tail) ((hd.mono fun vz0 vz1=>PairsAt.mono Sub.tail).append (.cons ⟨ads,n1,.head _,ha.mono fun vz0 vz1=>PairAt.mono Sub.tail⟩ .nil)) .nil (by rw [hL];simp)⟩
   ·simp only [List.length_cons,List.length_append,List.length_nil];lia
   ·simp only [List.length_cons,List.length_append,List.length_nil];lia
  | [],[]::Ls=>exact absurd rfl (g4 [] (.head _)).1
end
end
section
open PySem.Builtin.Re
section
variable {w:World} {B:Hab}
theorem spB:forBody (forSp (C0 w B))=[nthS (forBody (forSp (C0 w B))) 0,nthS (forBody (forSp (C0 w B))) 1] ++ [whSp (C0 w B),zS (C0 w B)]:=by kernel_rfl
theorem stmtsSp:stmts (C0 w B) 70=[nthS (stmts (C0 w B) 70) 0,nthS (stmts (C0 w B) 70) 1,forSp (C0 w B),nthS (stmts (C0 w B) 70) 3]:=by kernel_rfl
variable {h₀:Heap} (N:NatOk (C0 w B) h₀) {P:SP} (O:P.Ok)
include N
theorem sp_zb' {f n rs ps e n1 it:Nat} {T:TS} {hV oV txt:Value} {itO:Obj} {rest:List DictEntry} {l r:Memo} {ch:Ch} {rr xs:Array Value} {E:Value→Sx→Prop} (hz:rr.size≤100000) {Q:Flow→Sx→Prop}
  (G:∀ e',Q .next ⟨ch,(it,itO)::(f,frS w T ⟨hV,rs,oV,ps⟩ txt n rest)::(rs,listO (rr.push (.ref ps)) e')::l,(ps,listO xs n1)::r⟩):HT (C0 w B) h₀ none 110 ⟨ch,(f,frS w T ⟨hV,rs,oV,ps⟩ txt n rest)::(rs,listO rr e)::(ps,listO xs n1)::(it,itO)::l,r⟩ (execsZ (ifBody (zS (C0 w B))) (envSp (C0 w B) f)) Q E:=by
 intro b tk
 refine HTa.cutN N [1,3,3,3,3,1] [1,0] 2 [] (c:=.call (.builtin "list.append") ⟨[.ref rs,.ref ps],[]⟩) (l:=(rs,listO rr e)::(f,frS w T ⟨hV,rs,oV,ps⟩ txt n rest)::(ps,listO xs n1)::(it,itO)::l) (r:=r) (ch:=ch) (by kernel_rfl) rfl ?_
 have key:∀ {RR:Result→Sx→Prop},(∀ e',RR (.ok (.ret .none)) ⟨ch,(rs,listO (rr.push (.ref ps)) e')::(f,frS w T ⟨hV,rs,oV,ps⟩ txt n rest)::(ps,listO xs n1)::(it,itO)::l,r⟩)→HC (C0 w B) h₀ none 110 ⟨ch,(rs,listO rr e)::(f,frS w T ⟨hV,rs,oV,ps⟩ txt n rest)::(ps,listO xs n1)::(it,itO)::l,r⟩ (.call (.builtin "list.append") ⟨[.ref rs,.ref ps],[]⟩) RR:=fun h=>HC.append (by rw [sizeLine_eq];lia) (h _)
 refine key fun e' b1 tk1=>?_
 exact HTa.val N [] [3,1,0] 4 [2] (a:=.next) (l:=(it,itO)::(f,frS w T ⟨hV,rs,oV,ps⟩ txt n rest)::(rs,listO (rr.push (.ref ps)) e')::l) (r:=(ps,listO xs n1)::r) (ch:=ch) (by kernel_rfl) rfl (G e')
theorem sp_b01 {f hv rs t1 t2 t3 t it:Nat} {X:List Nat} {itO:Obj} {l r:Memo} {ch:Ch} {o:Obj} {E:Value→Sx→Prop} {Q:Flow→Sx→Prop}
  (G:∀ T ps,Q .next ⟨ch,(f,frS w T ⟨.ref hv,rs,.str (S X) t,ps⟩ (.str (S X) t) 5 [])::(ps,listO #[] 0)::(rs,o)::(it,itO)::l,r⟩) :
  HT (C0 w B) h₀ none 110 ⟨ch,(f,frameO #[ent w sHv t1 (.ref hv),ent w sRes t2 (.ref rs),ent w sText t3 (.str (S X) t)] 3)::(it,itO)::(rs,o)::l,r⟩ (execsZ [nthS (forBody (forSp (C0 w B))) 0,nthS (forBody (forSp (C0 w B))) 1] (envSp (C0 w B) f)) Q E:=by
 intro b tk
 exact HTa.val N [1,1,1,3,3] [1,0,3,2] 4 [] (a:=.next) (l:=(f,frS w ⟨t1,t2,t3,tk,tk+1⟩ ⟨.ref hv,rs,.str (S X) t,b⟩ (.str (S X) t) 5 [])::(b,listO #[] 0)::(rs,o)::(it,itO)::l) (r:=r) (ch:=ch) (by kernel_rfl) rfl (G _ _)
include O
theorem sp_wh {ps n1 t} {Q:Flow→Sx→Prop} (G:∀ y,SpEnd w P y→Q .next y):HT (C0 w B) h₀ none 110 ⟨chJ P.cb,(P.f,frS w P.T ⟨P.hV,P.rs,P.oV,ps⟩ (.str (S (header P.L)) t) 5 [])::(ps,listO #[] n1)::(P.rs,listO #[] 0)::P.l,P.r0⟩ (execsZ [whSp (C0 w B)] (envSp (C0 w B) P.f)) Q (fun vz0 vz1=>False):=by
 refine HT.cut0 N [] (c:=.whileLoop (whTest (whSp (C0 w B))) (whBody (whSp (C0 w B))) [] (envSp (C0 w B) P.f)) (by kernel_rfl) fun b tk=>?_
 refine HC.mono (sp_while N O) ?_
 rintro r y ⟨rfl,h⟩ b tk
 exact HTa.val N [] [] 0 [] (a:=.next) (l:=y.l) (r:=y.r) (ch:=y.ch) (by kernel_rfl) rfl (G y h)
end
end
section
open PySem.Builtin.Re
inductive SpOut (w:World) (f rs cb:Addr) (l r:Memo) (L:List (List KV)) (y:Sx):Prop
 | mk:∀ T hV oV ps txt rest lds e r' cs,(Sub r r')→(All2 (PairsAt r') lds L)→(y=⟨chS cb cs,(f,frS w T ⟨hV,rs,oV,ps⟩ txt 10 rest)::(rs,listO (refs lds) e)::l,r'⟩)→SpOut w f rs cb l r L y
section
variable {w:World} {B:Hab} {h₀:Heap} (N:NatOk (C0 w B) h₀)
include N
theorem sp_for {f hv rs t1 t2 t n it cb k0 k1:Nat} {qs:List KV} {Ls:List (List KV)} {l r:Memo}
  (O:∀ (T:TS) (l':Memo),SP.Ok ⟨f,T,.ref hv,.str (S (header (((k0,1)::(k1,2)::qs)::Ls))) t,rs,cb,l',r,k0,k1,qs,Ls⟩) (hl:(hv,listO #[.str (S (header (((k0,1)::(k1,2)::qs)::Ls))) t] n)∈r) :
  HC (C0 w B) h₀ none 110 (Sx.put ⟨chJ cb,(f,frameO #[ent w sHv t1 (.ref hv),ent w sRes t2 (.ref rs)] 2)::(rs,listO #[] 0)::l,r⟩ (it,iterO hv 0)) (.forLoop (forTarget (forSp (C0 w B))) (.ref it) (forBody (forSp (C0 w B))) [] (envSp (C0 w B) f))
   (fun rr y=>rr = .ok .next∧SpOut w f rs cb l r (((k0,1)::(k1,2)::qs)::Ls) y):=by
 refine HC.forL1 (y0:=⟨chJ cb,(f,frameO #[ent w sHv t1 (.ref hv),ent w sRes t2 (.ref rs)] 2)::(rs,listO #[] 0)::l,r⟩) (a:=hv) (n:=n) (its:=#[.str (S (header (((k0,1)::(k1,2)::qs)::Ls))) t]) (k:=0) (fun i y=>SpOut w f rs cb l r (((k0,1)::(k1,2)::qs)::Ls) y) (.inr hl) ?_ rfl (fun y hy=>⟨rfl,hy⟩) ?_ (fun i y v vz0 hgv=>nomatch hgv)
 ·intro i y hy
  obtain ⟨T,hV,oV,ps,txt,rest,lds,e,r',cs,hr,ha,e'⟩:=hy
  subst e'
  exact .inr (hr _ hl)
 ·intro v hgv
  have hgv':some (Value.str (S (header (((k0,1)::(k1,2)::qs)::Ls))) t)=some v:=hgv
  cases hgv'
  generalize hX:header (((k0,1)::(k1,2)::qs)::Ls)=X at O hl
  refine HT.val0 N [] (a:=()) (by kernel_rfl) ?_
  intro b tk
  refine HTa.val N [3,3] [1,0] 2 [] (a:=()) (l:=(f,frameO #[ent w sHv t1 (.ref hv),ent w sRes t2 (.ref rs),ent w sText tk (.str (S X) t)] 3)::(it,iterO hv 1)::(rs,listO #[] 0)::l) (r:=r) (ch:=chJ cb) (by kernel_rfl) rfl ?_
  rw [spB]
  refine HT.execs_app (sp_b01 N fun T ps=>⟨rfl,?_⟩)
  have O':=O T ((it,iterO hv 1)::l)
  refine HT.execs_cons ?_
  subst hX
  refine sp_wh N (P:=⟨f,T,.ref hv,.str (S (header (((k0,1)::(k1,2)::qs)::Ls))) t,rs,cb,(it,iterO hv 1)::l,r,k0,k1,qs,Ls⟩) O' ?_
  intro y hZ0
  obtain ⟨ps,n1,n2,t,r',tm,tn,tv,tj,tr,vm,vn,vv,vj,vr,cs,ct,ads,lds,DL,cur,hc,hr,hd,ha,h0,hL,hE1⟩:=hZ0
  subst hE1
  refine el_AA (O'.rest hL) fun hZ1 g4 g5=>?_
  refine el_AA hZ1 fun g1 g2 g3=>?_
  try clear hZ1
  have hal:=ha.length
  have hdl:=hd.length
  refine el_EE (List.exists_cons_of_ne_nil h0) fun c0 cs' hE2=>?_
  subst hE2
  simp only [List.length_cons] at hal g2
  show HT _ _ _ _ _ (execsZ [zS (C0 w B)] _) _ _
  rw [isIfz]
  refine HT.ifS (sp_zt N (k:=cs'.length) (by rw [refs_size];omega) (by rw [refs_size];omega) ?_)
  show HT _ _ _ _ _ (execsZ (ifBody (zS (C0 w B))) _) _ _
  refine HT.choose (il:=[0,2,1]) (k:=3) (ir:=[]) rfl ?_
  refine sp_zb' N (by rw [refs_size];omega) fun e'=>?_
  rw [refs_push]
  refine ⟨⟨chS cb (cs+5),(f,frS w T ⟨.ref hv,rs,_,ps⟩ _ 10 _)::(rs,listO (refs (lds ++ [ps])) e')::l,(ps,listO (refs ads) n1)::r'⟩,?_,rfl⟩
  exact ⟨_,_,_,_,_,_,lds ++ [ps],_,_,_,hr.trans Sub.tail,by rw [show ((k0,1)::(k1,2)::qs)::Ls=DL ++ [c0::cs'] from hL];exact (hd.mono fun vz0 vz1=>PairsAt.mono Sub.tail).append (.cons ⟨ads,n1,.head _,ha.mono fun vz0 vz1=>PairAt.mono Sub.tail⟩ .nil),rfl⟩
theorem split_call {hv t n cb k0 k1:Nat} {qs:List KV} {Ls:List (List KV)} {l r:Memo} {R:Result→Sx→Prop}
  (h1:∀ l∈(((k0,1)::(k1,2)::qs)::Ls),l≠[]∧l.length≤100∧∀ q∈l,Fine q) (h2:Ls.length≤99) (h3:(header (((k0,1)::(k1,2)::qs)::Ls)).length≤800)
  (hl:(hv,listO #[.str (S (header (((k0,1)::(k1,2)::qs)::Ls))) t] n)∈r)
  (G:∀ rs cs r',Sub r r'→ListsAt r' rs (((k0,1)::(k1,2)::qs)::Ls)→R (.ok (.ret (.ref rs))) ⟨chS cb cs,l,r'⟩):HC (C0 w B) h₀ none 112 ⟨chJ cb,l,r⟩ (.call (.ref 70) ⟨[.ref hv],[]⟩) R:=by
 refine HC.enter N (lv:=111) (o:=topObj (C0 w B) 70) [0,1,1] [0] 1 [] 0 (by kernel_rfl) (by kernel_rfl) fun b tk=>?_
 refine ⟨envSp (C0 w B) b,(b,frameO #[ent w sHv tk (.ref hv)] 1)::l,r,chJ cb,by kernel_rfl,rfl,?_⟩
 have e:bodyCode (fdAt (some (topObj (C0 w B) 70))) (envSp (C0 w B) b) = .func (stmts (C0 w B) 70) (envSp (C0 w B) b):=by kernel_rfl
 rw [e]
 refine HC.func (lv:=110) ?_
 rw [stmtsSp]
 have O:∀ (T:TS) (rs:Addr) (l':Memo),SP.Ok ⟨b,T,.ref hv,.str (S (header (((k0,1)::(k1,2)::qs)::Ls))) t,rs,cb,l',r,k0,k1,qs,Ls⟩:=fun T rs l'=>⟨h1,by show (((k0,1)::(k1,2)::qs)::Ls).length≤100;rw [List.length_cons];omega,h3⟩
 generalize hX:header (((k0,1)::(k1,2)::qs)::Ls)=X at hl
 refine HT.reads (r:=(hv,listO #[.str (S X) t] n)::r) (Sub.cons hl (Sub.refl _)) ?_
 refine HT.execs_cons ?_
 have s0:∀ {Q:Flow→Sx→Prop},Q .next ⟨chJ cb,(b,frameO #[ent w sHv tk (.ref hv)] 1)::l,(hv,listO #[.str (S X) t] n)::r⟩→HT (C0 w B) h₀ none 110 ⟨chJ cb,(b,frameO #[ent w sHv tk (.ref hv)] 1)::l,(hv,listO #[.str (S X) t] n)::r⟩ (execsZ [nthS (stmts (C0 w B) 70) 0] (envSp (C0 w B) b)) Q (fun vz0 vz1=>False):=by
  intro Q q
  exact HT.val0 N [0,0,1,0,0,1,2,2,2,1,2,2,1,2,2] (a:=.next) (by kernel_rfl) q
 refine s0 ?_
 refine HT.execs_cons ?_
 intro b2 tk2
 refine HTa.val N [3,3] [1,0] 2 [] (a:=.next) (l:=(b,frameO #[ent w sHv tk (.ref hv),ent w sRes tk2 (.ref b2)] 2)::(b2,listO #[] 0)::l) (r:=(hv,listO #[.str (S X) t] n)::r) (ch:=chJ cb) (by kernel_rfl) rfl ?_
 refine HT.execs_cons ?_
 refine HT.mono (Q:=fun fl x'=>fl = .next∧SpOut w b b2 cb l r (((k0,1)::(k1,2)::qs)::Ls) x') ?_ ?_ (fun vz0 vz1 q=>q)
 ·have ef:∀ it,loopOf (forSp (C0 w B)) (.ref it) (envSp (C0 w B) b) = .forLoop (forTarget (forSp (C0 w B))) (.ref it) (forBody (forSp (C0 w B))) [] (envSp (C0 w B) b):=fun it=>by kernel_rfl
  have H:∀ it,HC (C0 w B) h₀ none 110 (Sx.put ⟨chJ cb,(b,frameO #[ent w sHv tk (.ref hv),ent w sRes tk2 (.ref b2)] 2)::(b2,listO #[] 0)::l,(hv,listO #[.str (S X) t] n)::r⟩ (it,iterO hv 0)) (loopOf (forSp (C0 w B)) (.ref it) (envSp (C0 w B) b)) (fun rr x'=>rr = .ok .next∧(.next=Flow.next∧SpOut w b b2 cb l r (((k0,1)::(k1,2)::qs)::Ls) x')):=by
   intro it
   rw [ef]
   subst hX
   refine HC.reads (r:=r) Sub.tail ?_
   refine HC.mono (sp_for N (it:=it) (fun T l'=>O T b2 l') hl) ?_
   intro rr x' hZ0
   refine el_A hZ0 fun hE1 q=>?_
   try clear hZ0
   subst hE1
   exact ⟨rfl,rfl,q⟩
  exact HT.forCut N [1,2,2,1,2,1] (fun b tk=>by exact Hab.two B (by kernel_rfl) (by kernel_rfl)) (fun b tk y b' tk'=>by exact Hab.two B (by kernel_rfl) (by kernel_rfl)) H
 ·intro fl x hZ0
  obtain ⟨hE1,T,hV,oV,ps,txt,rest,lds,e,r',cs,hr,ha,hE2⟩:=hZ0
  subst hE1
  subst hE2
  intro b3 tk3
  refine HTa.val N [1] [] 2 [1] (a:=.ret (.ref b2)) (l:=l) (r:=(b2,listO (refs lds) e)::r') (ch:=chS cb cs) (by kernel_rfl) rfl ?_
  exact G _ _ _ (hr.trans Sub.tail) ⟨lds,e,.head _,ha.mono fun vz0 vz1=>PairsAt.mono Sub.tail⟩
end
end
section
variable {C:Cfg} {h₀:Heap} {hd:Option Value} {lv:Nat} {R:Result→Sx→Prop} {x:Sx}
theorem HC.dictStr {d:Addr} {es:Array DictEntry} {ep:Nat} {k:Str} {t:Tok} {v:Value} (hl:(d,dictO es ep)∈x.l) (hk:∀ e∈es,∃ k t v,e=ent C.w k t v) (hf:findBy Value.isStrOf es k=some v)
  (G:R (.ok (.ret v)) x):HC C h₀ hd lv x (.call (.builtin "dict.__getitem__") ⟨[.ref d,.str k t],[]⟩) R:=by
 intro b tk A g' dd os h K D
 have hm:h.MapOf (PySem.strKind C.prog C.w) d (findBy (PySem.strKind C.prog C.w).is es):=by
  refine ⟨dictO es ep,es,ep,D.mem _ hl,⟨rfl,rfl,rfl⟩,rfl,?_,fun vz0=>rfl⟩
  intro e he
  refine el_EEE (hk e he) fun k' t' v' hE3=>?_
  subst hE3
  exact ⟨k',strKind_is _ _ _ _,rfl⟩
 refine codeAny_call_builtin slot_dict_getitem.plain entry_dict_getitem (slot_dict_getitem.check _ _ _ _ _ _ _ _ hm.typeIs (args_dict_getitem _ _) ((meets_dict_getitem (PySem.strKind C.prog C.w) d (strKind_is C.prog C.w k t)) A (postX C h₀ g' dd os R) _ ⟨_,v,hm,hf,?_⟩))
 exact (⟨x,⟨b,tk+1,h,rfl,D.tok (tk+1)⟩,G⟩:postX C h₀ g' dd os R _ _)
end
section
variable {C:Cfg} {h₀:Heap} {hd:Option Value} {lv:Nat} {x:Sx}
theorem HC.less_r {c:Code} {R:Result→Sx→Prop} (H:HC C h₀ hd lv x c (fun a y=>∃ r',Sub r' y.r∧R a ⟨y.ch,y.l,r'⟩)):HC C h₀ hd lv x c R:=fun b tk A g d os h K D =>
 codeAny_mono (H b tk A g d os h K D) (fun a s ⟨y,⟨b',tk',h',e,D'⟩,r',hs,q⟩=>⟨⟨y.ch,y.l,r'⟩,⟨b',tk',h',e,D'.reads hs⟩,q⟩)
end
noncomputable abbrev qWr:Str:=S [95,108,97,119,95,119,114,105,116,116,101,110,46,60,108,111,99,97,108,115,62,46]
noncomputable abbrev envWr (C:Cfg) (f:Addr):PySem.Env:=envA C 138 [] qWr f
noncomputable abbrev nPair:Str:=S [112,97,105,114]
noncomputable abbrev tabO (w:World) (t:Nat):Obj:=dictO #[ent w (S []) t (.str (S [61,34,34]) (t+1)),ent w (S [97,45,49,46,98]) (t+2) (.str (S [61,97,45,49,46,98]) (t+3)),ent w (S [50,32,50]) (t+4) (.str (S [61,34,50,32,50,34]) (t+5)),ent w (S [34]) (t+6) (.str (S [61,34,92,34,34]) (t+7)),ent w (S [120,44,121]) (t+8) (.str (S [61,34,120,44,121,34]) (t+9))] 5
theorem tab_keys {w:World} {t:Nat}:∀ e∈(#[ent w (S []) t (.str (S [61,34,34]) (t+1)),ent w (S [97,45,49,46,98]) (t+2) (.str (S [61,97,45,49,46,98]) (t+3)),ent w (S [50,32,50]) (t+4) (.str (S [61,34,50,32,50,34]) (t+5)),ent w (S [34]) (t+6) (.str (S [61,34,92,34,34]) (t+7)),ent w (S [120,44,121]) (t+8) (.str (S [61,34,120,44,121,34]) (t+9))]:Array DictEntry),∃ k t v,e=ent w k t v:=by
 intro e he
 simp only [List.mem_toArray,List.mem_cons,List.not_mem_nil,or_false] at he
 rcases he with rfl | rfl | rfl | rfl | rfl <;> exact ⟨_,_,_,rfl⟩
section
variable {w:World} {B:Hab} {h₀:Heap} (N:NatOk (C0 w B) h₀) {l r:Memo} {ch:Ch}
include N
theorem wr_body {f p c v t1 t2 t3:Nat} (hv:v<6) {Q:Flow→Sx→Prop}
  (G:∀ t',Q (.ret (.str (S (wS c v)) t')) ⟨ch,l,(p,pairO c v t1 t2)::r⟩):HT (C0 w B) h₀ none 100 ⟨ch,(f,frameO #[ent w nPair t3 (.ref p)] 1)::l,(p,pairO c v t1 t2)::r⟩ (execsZ (stmts (C0 w B) 138) (envWr (C0 w B) f)) Q (fun vz0 vz1=>False):=by
 intro b tk
 rcases (by lia:v=5 ∨ v<5) with rfl | hv5
 ·exact HTa.val N [1,2,2,2,1,2,2,1,2,2,2,1,2,2] [] 1 [] (a:=.ret (.str (S [c]) t1)) (l:=l) (r:=(p,pairO c 5 t1 t2)::r) (ch:=ch) (by kernel_rfl) rfl (G t1)
 ·rcases lt5 (by assumption:v<5) with rfl | rfl | rfl | rfl | rfl
  ·(
    refine HTa.cutN N [1,2,2,2,1,2,2,1,2,2,2,1,2,2,1,1,1,1,1,1,1,1,1,1,1,1,1,1,1,1,1,1,1,1,1,1,1,1,1,3,2,2,2,1,2,2,1,1,1] [0] 2 [] (c:=.call (.builtin "dict.__getitem__") ⟨[.ref b,.str (S []) t2],[]⟩) (l:=(b,tabO w (tk+2))::l) (r:=(p,pairO c 0 t1 t2)::r) (ch:=ch) (by exact Hab.two B (by kernel_rfl) (by kernel_rfl)) rfl ?_
    refine HC.dictStr (v:=.str (S [61,34,34]) (tk+2+1)) (.head _) tab_keys (by rfl) fun b tk=>?_
    exact HTa.valF N [1,1] [] 1 [] (fun m'=>.ret (.str (S (wS c 0)) tk)) (fun vz0=>l) (fun vz0=>(p,pairO c 0 t1 t2)::r) (fun vz0=>ch) (by exact Hab.two B (by kernel_rfl) (by kernel_rfl)) rfl fun m'=>G _)
  ·(
    refine HTa.cutN N [1,2,2,2,1,2,2,1,2,2,2,1,2,2,1,1,1,1,1,1,1,1,1,1,1,1,1,1,1,1,1,1,1,1,1,1,1,1,1,3,2,2,2,1,2,2,1,1,1] [0] 2 [] (c:=.call (.builtin "dict.__getitem__") ⟨[.ref b,.str (S [97,45,49,46,98]) t2],[]⟩) (l:=(b,tabO w (tk+2))::l) (r:=(p,pairO c 1 t1 t2)::r) (ch:=ch) (by exact Hab.two B (by kernel_rfl) (by kernel_rfl)) rfl ?_
    refine HC.dictStr (v:=.str (S [61,97,45,49,46,98]) (tk+2+3)) (.head _) tab_keys (by rfl) fun b tk=>?_
    exact HTa.valF N [1,1] [] 1 [] (fun m'=>.ret (.str (S (wS c 1)) tk)) (fun vz0=>l) (fun vz0=>(p,pairO c 1 t1 t2)::r) (fun vz0=>ch) (by exact Hab.two B (by kernel_rfl) (by kernel_rfl)) rfl fun m'=>G _)
  ·(
    refine HTa.cutN N [1,2,2,2,1,2,2,1,2,2,2,1,2,2,1,1,1,1,1,1,1,1,1,1,1,1,1,1,1,1,1,1,1,1,1,1,1,1,1,3,2,2,2,1,2,2,1,1,1] [0] 2 [] (c:=.call (.builtin "dict.__getitem__") ⟨[.ref b,.str (S [50,32,50]) t2],[]⟩) (l:=(b,tabO w (tk+2))::l) (r:=(p,pairO c 2 t1 t2)::r) (ch:=ch) (by exact Hab.two B (by kernel_rfl) (by kernel_rfl)) rfl ?_
    refine HC.dictStr (v:=.str (S [61,34,50,32,50,34]) (tk+2+5)) (.head _) tab_keys (by rfl) fun b tk=>?_
    exact HTa.valF N [1,1] [] 1 [] (fun m'=>.ret (.str (S (wS c 2)) tk)) (fun vz0=>l) (fun vz0=>(p,pairO c 2 t1 t2)::r) (fun vz0=>ch) (by exact Hab.two B (by kernel_rfl) (by kernel_rfl)) rfl fun m'=>G _)
  ·(
    refine HTa.cutN N [1,2,2,2,1,2,2,1,2,2,2,1,2,2,1,1,1,1,1,1,1,1,1,1,1,1,1,1,1,1,1,1,1,1,1,1,1,1,1,3,2,2,2,1,2,2,1,1,1] [0] 2 [] (c:=.call (.builtin "dict.__getitem__") ⟨[.ref b,.str (S [34]) t2],[]⟩) (l:=(b,tabO w (tk+2))::l) (r:=(p,pairO c 3 t1 t2)::r) (ch:=ch) (by exact Hab.two B (by kernel_rfl) (by kernel_rfl)) rfl ?_
    refine HC.dictStr (v:=.str (S [61,34,92,34,34]) (tk+2+7)) (.head _) tab_keys (by rfl) fun b tk=>?_
    exact HTa.valF N [1,1] [] 1 [] (fun m'=>.ret (.str (S (wS c 3)) tk)) (fun vz0=>l) (fun vz0=>(p,pairO c 3 t1 t2)::r) (fun vz0=>ch) (by exact Hab.two B (by kernel_rfl) (by kernel_rfl)) rfl fun m'=>G _)
  ·(
    refine HTa.cutN N [1,2,2,2,1,2,2,1,2,2,2,1,2,2,1,1,1,1,1,1,1,1,1,1,1,1,1,1,1,1,1,1,1,1,1,1,1,1,1,3,2,2,2,1,2,2,1,1,1] [0] 2 [] (c:=.call (.builtin "dict.__getitem__") ⟨[.ref b,.str (S [120,44,121]) t2],[]⟩) (l:=(b,tabO w (tk+2))::l) (r:=(p,pairO c 4 t1 t2)::r) (ch:=ch) (by exact Hab.two B (by kernel_rfl) (by kernel_rfl)) rfl ?_
    refine HC.dictStr (v:=.str (S [61,34,120,44,121,34]) (tk+2+9)) (.head _) tab_keys (by rfl) fun b tk=>?_
    exact HTa.valF N [1,1] [] 1 [] (fun m'=>.ret (.str (S (wS c 4)) tk)) (fun vz0=>l) (fun vz0=>(p,pairO c 4 t1 t2)::r) (fun vz0=>ch) (by exact Hab.two B (by kernel_rfl) (by kernel_rfl)) rfl fun m'=>G _)
theorem wr_call {p v c:Nat} (hv:v<6) (hp:∃ t1 t2,(p,pairO c v t1 t2)∈r) {R:Result→Sx→Prop} (G:∀ t',R (.ok (.ret (.str (S (wS c v)) t'))) ⟨ch,l,r⟩) :
  HC (C0 w B) h₀ none 102 ⟨ch,l,r⟩ (.call (.ref 138) ⟨[.ref p],[]⟩) R:=by
 refine el_EE hp fun t1 t2 hp=>?_
 refine HC.less_r ?_
 refine HC.enter N (lv:=101) (o:=topObj (C0 w B) 138) [0,1,1] [0] 1 [] 0 (by kernel_rfl) (by kernel_rfl) fun b tk=>?_
 refine ⟨envWr (C0 w B) b,(b,frameO #[ent w nPair tk (.ref p)] 1)::l,r,ch,by kernel_rfl,rfl,?_⟩
 have e:bodyCode (fdAt (some (topObj (C0 w B) 138))) (envWr (C0 w B) b) = .func (stmts (C0 w B) 138) (envWr (C0 w B) b):=by kernel_rfl
 rw [e]
 refine HC.func (lv:=100) ?_
 refine HT.reads (r:=(p,pairO c v t1 t2)::r) (Sub.cons hp (Sub.refl _)) ?_
 exact wr_body N hv fun t'=>⟨r,Sub.tail,G t'⟩
end
noncomputable abbrev qLaw:Str:=S [108,97,119,46,60,108,111,99,97,108,115,62,46]
noncomputable abbrev lB (C:Cfg) (i:Nat):Stmt:=nthS (stmts C 160) i
noncomputable abbrev nScript:Str:=S [115,99,114,105,112,116]
noncomputable abbrev nListsL:Str:=S [108,105,115,116,115]
noncomputable abbrev nHeader:Str:=S [104,101,97,100,101,114]
noncomputable abbrev nRead:Str:=S [114,101,97,100]
noncomputable abbrev nOld:Str:=S [111,108,100]
noncomputable abbrev nNew:Str:=S [110,101,119]
noncomputable abbrev nTables:Str:=S [116,97,98,108,101,115]
noncomputable abbrev nOrder:Str:=S [111,114,100,101,114]
noncomputable abbrev nKeys:Str:=S [107,101,121,115]
noncomputable abbrev nRanks:Str:=S [114,97,110,107,115]
noncomputable abbrev nLost:Str:=S [108,111,115,116]
noncomputable abbrev nOver:Str:=S [111,118,101,114]
noncomputable abbrev nTold:Str:=S [116,111,108,100]
noncomputable abbrev cellsLaw (f:Addr):List (Str×Addr):=[(nRanks,f+5),(nKeys,f+4),(nOrder,f+3),(nNew,f+2),(nOld,f+1)]
noncomputable abbrev envLaw (C:Cfg) (f:Addr):PySem.Env:=envA C 160 (cellsLaw f) qLaw f
section
variable {C:Cfg} {h₀:Heap} {hd:Option Value} {lv:Nat} {R:Result→Sx→Prop} {x:Sx}
theorem Sx.mem_get {x:Sx} {a:Addr} {o:Obj} {b tk h} (hl:(a,o)∈x.l ∨ (a,o)∈x.r) (D:Rep C h₀ [] ⟨x.l,x.r,b,tk,x.ch⟩ h):h.get? a=some o:=by
 rcases hl with hl | hl
 ·exact D.mem _ hl
 ·exact D.memR _ hl
theorem HC.sliceL {a sl:Addr} {its:Array Value} {n:Nat} {vl vu vs:Value} {lo hi st:Option Int} (hl:(a,listO its n)∈x.l ∨ (a,listO its n)∈x.r) (hs:(sl,({ cls:=.type "slice",data:=.fields #[vl,vu,vs] }:Obj))∈x.l)
  (pl:IsPart vl lo) (pu:IsPart vu hi) (ps:IsPart vs st) (h0:st≠some 0) (hz:its.size≤1000000)
  (G:∀ p,R (.ok (.ret (.ref p))) (x.put (p,listO (slicePick its lo hi st) 0))):HC C h₀ hd lv x (.call (.builtin "list.__getitem__") ⟨[.ref a,.ref sl],[]⟩) R:=by
 intro b tk A g d os h K D
 have ho:=Sx.mem_get hl D
 have hos:=D.mem _ hs
 have hT:Shared.TypeIs ⟨h,g,d,tk,os⟩ (.ref a) "list":=⟨_,ho,rfl⟩
 have hTs:Shared.TypeIs ⟨h,g,d,tk,os⟩ (.ref sl) "slice":=⟨_,hos,rfl⟩
 have hsz:its.size≤sizeLine:=by rw [sizeLine_eq];lia
 refine codeAny_call_builtin slot_list_getitem.plain entry_list_getitem (slot_list_getitem.check _ _ _ _ _ _ _ _ hT (args_list_getitem _ _) ?_)
 show wpAny _ _ (Builtin.List.listSubscript? (.ref sl) >>= _) _ _ _
 refine wpAny_bind ?_
 unfold Builtin.List.listSubscript?
 refine wpAny_bind (wpAny_specialOf hTs slice_no_index ?_)
 simp only [Option.isNone_none,if_true]
 refine wpAny_pure ?_
 show wpAny _ _ (typeOf (.ref sl) >>= _) _ _ _
 refine wpAny_bind (wpAny_typeOf hTs ?_)
 rw [if_neg (by decide)]
 rw [listSliceParts_eq]
 have hstep:¬ ((rawPart st == rawInt 0)=true):=by
  cases st with
  | none=>exact Bool.false_ne_true
  | some c =>
   intro hh
   have:c=0:=by simpa [rawPart,rawInt] using hh
   exact h0 (by rw [this])
 refine wpAny_bind (wpAny_bind (wpAny_field hos rfl (x:=vs) rfl (wpAny_bind (wpAny_listPart ps ?_))))
 rw [if_neg hstep]
 refine wpAny_bind (wpAny_field hos rfl (x:=vl) rfl (wpAny_bind (wpAny_listPart pl ?_)))
 refine wpAny_bind (wpAny_field hos rfl (x:=vu) rfl (wpAny_bind (wpAny_listPart pu (wpAny_pure ?_))))
 refine wpAny_bind (m:=Builtin.List.listItems (.ref a)) ?_
 unfold Builtin.List.listItems
 refine wpAny_bind (wpAny_seqItems ho rfl (wpAny_pure ?_))
 refine wpAny_bind (wpAny_of_eq (sliceIndices_raw lo hi st its.size h0) ?_)
 refine wpAny_bind (wpAny_newObj_type (wpAny_pure ?_) (Nat.le_trans (slicePick_size_le its lo hi st) hsz))
 have hb:h.objs.size=b:=D.size
 show ∃ x',Stands C h₀ x' g d os _∧R (.ok (.ret (.ref h.objs.size))) x'
 rw [hb]
 exact ⟨_,⟨b+1,tk,_,rfl,push_new D rfl tk⟩,G b⟩
theorem HC.addL {a c:Addr} {its its2:Array Value} {n n2:Nat} (hl:(a,listO its n)∈x.l ∨ (a,listO its n)∈x.r) (hs:(c,listO its2 n2)∈x.l ∨ (c,listO its2 n2)∈x.r) (hz:its.size+its2.size≤1000000)
  (G:∀ p,R (.ok (.ret (.ref p))) (x.put (p,listO (its ++ its2) 0))):HC C h₀ hd lv x (.call (.builtin "list.__add__") ⟨[.ref a,.ref c],[]⟩) R:=by
 refine HC.meets (T:="list") F.slot_list_add F.entry_list_add (F.args_list_add_2 _ _) (PySem.AutoSeq1.list___add___list_list_0 a its n c its2 n2 (by rw [sizeLine_eq];lia)) fun A g d os b tk h K D=>?_
 have ho:=Sx.mem_get hl D
 have ho2:=Sx.mem_get hs D
 refine ⟨⟨_,ho,rfl⟩,ho,ho2,?_⟩
 have hb:h.objs.size=b:=D.size
 show ∃ x',Stands C h₀ x' g d os _∧R (.ok (.ret (.ref h.objs.size))) x'
 rw [hb]
 exact ⟨_,⟨b+1,tk,_,rfl,push_new D rfl tk⟩,G b⟩
end
noncomputable abbrev l7 (t:Nat):Array Value:=#[.int 28 t,.int 9 (t+1),.int 14 (t+2),.int 3 (t+3),.int 44 (t+4),.int 18 (t+5),.int 35 (t+6)]
section
variable {w:World} {B:Hab} {h₀:Heap} (N:NatOk (C0 w B) h₀) {f sc n ls t t1 t2 t3 cb:Nat} {X:List Nat} {its:Array Value} {rest:List DictEntry} {l r:Memo} {ch:Ch} {Q:Flow→Sx→Prop}
include N
theorem law_s0 {xs:List Int} (hi:All2 IsInt its.toList xs) (hz:its.size≤100000)
  (G:∀ t2 ls r',Sub r r'→ListsAt r' ls (lawLists ([28,9,14,3,44,18,35] ++ xs.take 4))→Q .next ⟨[],(f,frameO #[ent w nScript t1 (.ref sc),ent w nListsL t2 (.ref ls)] 2)::l,r'⟩) :
  HT (C0 w B) h₀ none 200 ⟨[],(f,frameO #[ent w nScript t1 (.ref sc)] 1)::l,(sc,listO its n)::r⟩ (execsZ [lB (C0 w B) 0] (envLaw (C0 w B) f)) Q (fun vz0 vz1=>False):=by
 intro b tk
 refine HTa.cutN N [0,3,2,2,2] [0,1,2] 3 [] (c:=.call (.builtin "list.__getitem__") ⟨[.ref sc,.ref (b+1)],[]⟩) (l:=(b+1,{ cls:=.type "slice",data:=.fields #[.none,.int 4 (tk+7),.none] })::(b,listO (l7 tk) 0)::(f,frameO #[ent w nScript t1 (.ref sc)] 1)::l) (r:=(sc,listO its n)::r) (ch:=[]) (by kernel_rfl) rfl ?_
 refine HC.sliceL (.inr (.head _)) (.head _) .none (.int 4 _) .none (by simp) (by lia) fun p=>?_
 have e4:slicePick its none (some 4) none=(its.toList.take 4).toArray:=slicePick_upto' its 4
 rw [e4]
 have hi4:All2 IsInt (its.toList.take 4) (xs.take 4):=hi.take 4
 have hl4:(its.toList.take 4).length≤4:=List.length_take_le ..
 generalize its.toList.take 4=vs at hi4 hl4
 intro b1 tk1
 refine HTa.cutN N [5,1,5] [0,2,3] 4 [] (c:=.call (.builtin "list.__add__") ⟨[.ref b,.ref p],[]⟩) (l:=(p,listO vs.toArray 0)::(b,listO (l7 tk) 0)::(f,frameO #[ent w nScript t1 (.ref sc)] 1)::l) (r:=(sc,listO its n)::r) (ch:=[]) (by kernel_rfl) rfl ?_
 refine HC.addL (.inl (.tail _ (.head _))) (.inl (.head _)) (by simp [l7];lia) fun p2=>?_
 have hi11:All2 IsInt (l7 tk ++ vs.toArray).toList (28::([9,14,3,44,18,35] ++ xs.take 4)):=by
  rw [Array.toList_append]
  exact All2.append (bs:=[28,9,14,3,44,18,35]) (.cons ⟨_,rfl⟩ (.cons ⟨_,rfl⟩ (.cons ⟨_,rfl⟩ (.cons ⟨_,rfl⟩ (.cons ⟨_,rfl⟩ (.cons ⟨_,rfl⟩ (.cons ⟨_,rfl⟩ .nil))))))) hi4
 generalize l7 tk ++ vs.toArray=ws at hi11
 intro b2 tk2
 refine HTa.cut N [0] [3] 4 [0] (c:=.call (.ref 131) ⟨[.ref p2],[]⟩) (l:=(f,frameO #[ent w nScript t1 (.ref sc)] 1)::l) (r:=(p2,listO ws 0)::(sc,listO its n)::r) (ch:=[]) (by kernel_rfl) rfl (by intro h;cases h) ?_
 refine HC.less (ll_call N (x0:=28) (xs:=[9,14,3,44,18,35] ++ xs.take 4) (.head _) hi11 (by decide) (by simp;lia) fun ls r' hr hL=>?_) (by decide)
 intro b3 tk3
 exact HTa.val N [1,1] [0] 1 [] (a:=.next) (l:=(f,frameO #[ent w nScript t1 (.ref sc),ent w nListsL tk3 (.ref ls)] 2)::l) (r:=r') (ch:=[]) (by kernel_rfl) rfl (G _ _ _ (Sub.tail.trans (Sub.tail.trans hr)) hL)
end
noncomputable abbrev lc1 (C:Cfg):PySem.Expr:=arg0 (cmpR (ifTest (lB C 2)))
noncomputable abbrev lc2 (C:Cfg):PySem.Expr:=arg0 (eltOf (lc1 C))
section
variable {C:Cfg} {h₀:Heap} {lv:Nat} {R:Result→Sx→Prop}
theorem HC.compList (N:NatOk C h₀) {c:Code} {it a:Addr} {its:Array Value} {n:Nat} (hw:weightZ c=0) (hq:quietZ c=true)
  (e:∀ i (y:Sx) b tk,seen Res.code? (go C none lv [1] (denZ c) ⟨(it,iterO a i)::y.l,y.r,b,tk,y.ch⟩) [] 0 []=(some (.call (.builtin "list_iterator.__next__") ⟨[.ref it],[]⟩),(it,iterO a i)::y.l,y.r,y.ch,(go C none lv [1] (denZ c) ⟨(it,iterO a i)::y.l,y.r,b,tk,y.ch⟩).eqs.map (·.2)))
  (I:Nat→Sx→Prop) (hl:∀ i y,I i y→(a,listO its n)∈y.l ∨ (a,listO its n)∈y.r)
  (fin:∀ y,I its.size y→HC C h₀ none (lv+1) (y.put (it,iterO a its.size)) c R)
  (turn:∀ i y v,I i y→its[i]? = some v→∀ b tk,HT C h₀ none lv (y.put (it,iterO a (i+1))) ((go C none lv [1] (denZ c) ⟨(it,iterO a i)::y.l,y.r,b,tk,y.ch⟩).kont (.ok (.ret v))) (Turned c (I (i+1)) it a (i+1) R) (fun vz0 vz1=>False))
  {y:Sx} (h:I 0 y):HC C h₀ none (lv+1) (y.put (it,iterO a 0)) c R :=
 HC.listLoop hw hq I hl fin (fun i y v hy hv=>HT.next N (e i y) (hl i y hy) hv fun b tk=>turn i y v hy hv b tk) (Nat.zero_le _) h
end
noncomputable abbrev envC1 (C:Cfg) (D f:Addr):PySem.Env:=compEnv (scopeOf (lc1 C)) D (envLaw C f)
noncomputable abbrev envC2 (C:Cfg) (D2 D f:Addr):PySem.Env:=compEnv (scopeOf (lc2 C)) D2 (envC1 C D f)
noncomputable abbrev cS2 (C:Cfg) (it acc D2 D f:Addr):Code:=.compStart (lc2 C) 0 (.ref it) (.ref acc) (envC2 C D2 D f)
noncomputable abbrev cL2 (C:Cfg) (it acc D2 D f:Addr):Code:=.compLoop (lc2 C) 0 (.ref it) (.ref acc) (envC2 C D2 D f)
noncomputable def OneName (w:World) (nm:Str) (i:Nat) (o:Obj):Prop:=(i=0∧o=dictO #[] 0) ∨ (0<i∧∃ t v,o=dictO #[ent w nm t (.ref v)] 1)
@[elab_as_elim] theorem OneName.two {w:World} {nm:Str} {P:Nat→Obj→Prop} {i:Nat} {o:Obj} (h:OneName w nm i o) (a:At2 P 0 (dictO #[] 0)) (b:∀ i t v,At2 P (i+1) (dictO #[ent w nm t (.ref v)] 1)):P i o:=by
 rcases h with ⟨rfl,rfl⟩ | ⟨hi,t,v,rfl⟩
 ·exact a
 ·cases i with
  | zero=>cases hi
  | succ j=>exact b j t v
@[elab_as_elim] theorem OneName.cases {w:World} {nm:Str} {P:Obj→Prop} {i:Nat} {o:Obj} (h:OneName w nm i o) (a:At P (dictO #[] 0)) (b:∀ t v,At P (dictO #[ent w nm t (.ref v)] 1)):P o:=by
 rcases h with ⟨rfl,rfl⟩ | ⟨hi,t,v,rfl⟩
 ·exact a
 ·exact b t v
noncomputable def nmTok (o:Obj) (tk:Tok):Tok:=match o.data with
 | .dict es _=>match es.toList with
  | []=>tk
  | e::_=>match e.key with
   | .str _ t=>t
   | _=>tk
 | _=>tk
noncomputable def hn (o:Obj) (j:Nat):List Nat:=match o.data with
 | .dict es _=>match es.toList with
  | []=>[]
  | _=>[j,j]
 | _=>[]
section
variable {w:World} {B:Hab} {h₀:Heap} (N:NatOk (C0 w B) h₀) {f D1 D2 it a acc:Nat} {l r:Memo} {ch:Ch} {R:Result→Sx→Prop}
include N
theorem cs2_start {Q:PySem.Fin→Sx→Prop} {E:Value→Sx→Prop} (G:Q (.again (cL2 (C0 w B) it acc D2 D1 f)) ⟨ch,(it,iterO a 0)::l,r⟩):HT (C0 w B) h₀ none 150 ⟨ch,(it,iterO a 0)::l,r⟩ (denZ (cS2 (C0 w B) it acc D2 D1 f)) Q E:=by
 obtain ⟨b1,b2,b3,b4⟩:=B
 intro b tk
 cases b2
 ·cases b1 <;> exact HTa.val N [1,1,1,1,1] [0] 1 [] (a:=PySem.Fin.again (.compLoop (lc2 _) 0 (.ref it) (.ref acc) (envC2 _ D2 D1 f))) (l:=(it,iterO a 0)::l) (r:=r) (ch:=ch) (by kernel_rfl) rfl G
 ·exact HTa.val N [] [0] 1 [] (a:=PySem.Fin.again (.compLoop (lc2 _) 0 (.ref it) (.ref acc) (envC2 _ D2 D1 f))) (l:=(it,iterO a 0)::l) (r:=r) (ch:=ch) (by kernel_rfl) rfl G
theorem inner_comp {ads:List Addr} {ps:List KV} {n:Nat} (hl:(a,listO (refs ads) n)∈r) (hp:All2 (PairAt r) ads ps) (hf:∀ p∈ps,Fine p) (hn:ps.length≤1000) (hne:0<ps.length)
  (G:∀ xs n' t v,All2 IsText xs.toList (ps.map wP)→R (.ok .next) ⟨ch,(acc,listO xs n')::(D2,dictO #[ent w nPair t (.ref v)] 1)::l,r⟩) :
  HC (C0 w B) h₀ none 151 ⟨ch,(it,iterO a 0)::(acc,listO #[] 0)::(D2,dictO #[] 0)::l,r⟩ (cS2 (C0 w B) it acc D2 D1 f) R:=by
 refine HC.tree (lv:=150) (w:=0) (by kernel_rfl) (cs2_start N ?_)
 refine ⟨by kernel_rfl,?_⟩
 have hal:=hp.length
 refine HC.compList N (a:=a) (its:=refs ads) (n:=n) (by kernel_rfl) (by kernel_rfl) (fun i y b tk=>by kernel_rfl)
  (fun i y=>∃ xs n' o,y=⟨ch,(acc,listO xs n')::(D2,o)::l,r⟩∧All2 IsText xs.toList ((ps.take i).map wP)∧OneName w nPair i o) ?_ ?_ ?_ (y:=⟨ch,(acc,listO #[] 0)::(D2,dictO #[] 0)::l,r⟩) ⟨#[],0,_,rfl,.nil,.inl ⟨rfl,rfl⟩⟩
 ·intro i y hZ0
  refine el_EEEAA hZ0 fun xs n' o hE1 vz0 vz1=>?_
  try clear hZ0
  subst hE1
  exact .inr hl
 ·intro y hZ0
  refine el_EEEAA hZ0 fun xs n' o hE1 h ho=>?_
  try clear hZ0
  subst hE1
  rw [refs_size] at ho
  rcases ho with ⟨ho,_⟩ | ⟨_,t,v,rfl⟩
  ·lia
  have es:(lc2 (C0 w B)) = .ListComp (eltOf (lc2 (C0 w B))) [gen1 (lc2 (C0 w B))] (scopeOf (lc2 (C0 w B))) (lcPos (lc2 (C0 w B))):=by kernel_rfl
  show HC _ _ _ _ _ (.compLoop (lc2 (C0 w B)) 0 (.ref it) (.ref acc) (envC2 (C0 w B) D2 D1 f)) _
  rw [es]
  refine HC.compEnd (gen:=gen1 (lc2 (C0 w B))) rfl (by kernel_rfl) (.inr hl) ?_
  rw [refs_size,hal,List.take_length] at h
  exact G _ _ _ _ h
 ·intro i y v hZ0 hv b0 tk0
  refine el_EEEAA hZ0 fun xs n' o hE1 h ho=>?_
  try clear hZ0
  subst hE1
  refine el_EA (refs_get hv) fun p hp1 hE1=>?_
  subst hE1
  refine el_EA (hp.get (a:=p) hp1) fun kv hkv hpa=>?_
  have hi:i<ps.length:=(List.getElem?_eq_some_iff.mp hkv).1
  have hfk:Fine kv:=hf kv (List.mem_of_getElem? hkv)
  have hxs:=h.length
  rw [List.length_map,Array.length_toList] at hxs
  have hxs2:(ps.take i).length≤1000:=by rw [List.length_take];lia
  have hnew:∀ t1,All2 IsText (xs.push (.str (S (wS (kc kv.1) kv.2)) t1)).toList ((ps.take (i+1)).map wP):=fun t1=>by
   rw [Array.toList_push,take_succ_get hkv,List.map_append]
   exact h.append (.cons ⟨t1,rfl⟩ .nil)
  intro b tk
  refine HTa.cutN N [5,5,0,5,0] [0,1,2] 3 [] (c:=.call (.ref 138) ⟨[.ref p],[]⟩) (l:=(it,iterO a (i+1))::(acc,listO xs n')::(D2,dictO #[ent w nPair (nmTok o tk) (.ref p)] 1)::l) (r:=r) (ch:=ch) (by exact OneName.two ho (by kernel_rfl) fun vz0 vz1 vz2=>by kernel_rfl) rfl ?_
  refine HC.less (wr_call N hfk.2 hpa fun t1 b2 tk2=>?_) (by decide)
  refine HTa.cutN N [] [1,0,2] 3 [] (c:=.call (.builtin "list.append") ⟨[.ref acc,.str (S (wS (kc kv.1) kv.2)) t1],[]⟩) (l:=(acc,listO xs n')::(it,iterO a (i+1))::(D2,dictO #[ent w nPair (nmTok o tk) (.ref p)] 1)::l) (r:=r) (ch:=ch) (by exact OneName.two ho (by kernel_rfl) fun vz0 vz1 vz2=>by kernel_rfl) rfl ?_
  refine HC.append (by rw [sizeLine_eq];lia) fun b3 tk3=>?_
  refine HTa.val N [] [1,0,2] 3 [] (a:=PySem.Fin.again (cL2 (C0 w B) it acc D2 D1 f)) (l:=(it,iterO a (i+1))::(acc,listO (xs.push (.str (S (wS (kc kv.1) kv.2)) t1)) (n'+1))::(D2,dictO #[ent w nPair (nmTok o tk) (.ref p)] 1)::l) (r:=r) (ch:=ch) (by exact OneName.two ho (by kernel_rfl) fun vz0 vz1 vz2=>by kernel_rfl) rfl ?_
  exact ⟨rfl,_,⟨_,_,_,rfl,hnew t1,.inr ⟨Nat.succ_pos _,_,_,rfl⟩⟩,rfl⟩
end
noncomputable abbrev cS1 (C:Cfg) (it acc D f:Addr):Code:=.compStart (lc1 C) 0 (.ref it) (.ref acc) (envC1 C D f)
noncomputable abbrev cL1 (C:Cfg) (it acc D f:Addr):Code:=.compLoop (lc1 C) 0 (.ref it) (.ref acc) (envC1 C D f)
noncomputable abbrev nPairs1:Str:=S [112,97,105,114,115]
section
variable {w:World} {B:Hab} {h₀:Heap} (N:NatOk (C0 w B) h₀) {f D1 D2 it a acc:Nat} {l r:Memo} {ch:Ch} {R:Result→Sx→Prop}
include N
theorem cs1_start {Q:PySem.Fin→Sx→Prop} {E:Value→Sx→Prop} (G:Q (.again (cL1 (C0 w B) it acc D1 f)) ⟨ch,(it,iterO a 0)::l,r⟩):HT (C0 w B) h₀ none 160 ⟨ch,(it,iterO a 0)::l,r⟩ (denZ (cS1 (C0 w B) it acc D1 f)) Q E:=by
 obtain ⟨b1,b2,b3,b4⟩:=B
 intro b tk
 cases b2
 ·cases b1 <;> exact HTa.val N [1,1,1,1,1] [0] 1 [] (a:=PySem.Fin.again (.compLoop (lc1 _) 0 (.ref it) (.ref acc) (envC1 _ D1 f))) (l:=(it,iterO a 0)::l) (r:=r) (ch:=ch) (by kernel_rfl) rfl G
 ·exact HTa.val N [] [0] 1 [] (a:=PySem.Fin.again (.compLoop (lc1 _) 0 (.ref it) (.ref acc) (envC1 _ D1 f))) (l:=(it,iterO a 0)::l) (r:=r) (ch:=ch) (by kernel_rfl) rfl G
theorem outer_comp {las:List Addr} {L:List (List KV)} {n:Nat} (hl:(a,listO (refs las) n)∈r) (hp:All2 (PairsAt r) las L) (hf:∀ ps∈L,(0<ps.length∧ps.length≤100)∧∀ p∈ps,Fine p) (hn:L.length≤100) (hne:0<L.length)
  (G:∀ xs n' t v,All2 IsText xs.toList (L.map wL)→R (.ok .next) ⟨ch,(acc,listO xs n')::(D1,dictO #[ent w nPairs1 t (.ref v)] 1)::l,r⟩) :
  HC (C0 w B) h₀ none 161 ⟨ch,(it,iterO a 0)::(acc,listO #[] 0)::(D1,dictO #[] 0)::l,r⟩ (cS1 (C0 w B) it acc D1 f) R:=by
 refine HC.tree (lv:=160) (w:=0) (by kernel_rfl) (cs1_start N ?_)
 refine ⟨by kernel_rfl,?_⟩
 have hal:=hp.length
 refine HC.compList N (a:=a) (its:=refs las) (n:=n) (by kernel_rfl) (by kernel_rfl) (fun i y b tk=>by kernel_rfl)
  (fun i y=>∃ xs n' o,y=⟨ch,(acc,listO xs n')::(D1,o)::l,r⟩∧All2 IsText xs.toList ((L.take i).map wL)∧OneName w nPairs1 i o) ?_ ?_ ?_ (y:=⟨ch,(acc,listO #[] 0)::(D1,dictO #[] 0)::l,r⟩) ⟨#[],0,_,rfl,.nil,.inl ⟨rfl,rfl⟩⟩
 ·intro i y hZ0
  refine el_EEEAA hZ0 fun xs n' o hE1 vz0 vz1=>?_
  try clear hZ0
  subst hE1
  exact .inr hl
 ·intro y hZ0
  refine el_EEEAA hZ0 fun xs n' o hE1 h ho=>?_
  try clear hZ0
  subst hE1
  rw [refs_size] at ho
  rcases ho with ⟨ho,_⟩ | ⟨_,t,v,rfl⟩
  ·lia
  have es:(lc1 (C0 w B)) = .ListComp (eltOf (lc1 (C0 w B))) [gen1 (lc1 (C0 w B))] (scopeOf (lc1 (C0 w B))) (lcPos (lc1 (C0 w B))):=by kernel_rfl
  show HC _ _ _ _ _ (.compLoop (lc1 (C0 w B)) 0 (.ref it) (.ref acc) (envC1 (C0 w B) D1 f)) _
  rw [es]
  refine HC.compEnd (gen:=gen1 (lc1 (C0 w B))) rfl (by kernel_rfl) (.inr hl) ?_
  rw [refs_size,hal,List.take_length] at h
  exact G _ _ _ _ h
 ·intro i y v hZ0 hv b0 tk0
  refine el_EEEAA hZ0 fun xs n' o hE1 h ho=>?_
  try clear hZ0
  subst hE1
  refine el_EA (refs_get hv) fun pa hp1 hE2=>?_
  subst hE2
  obtain ⟨ps,hkv,ads,np,hpm,hpa⟩:=(hp.get (a:=pa) hp1)
  refine el_A (hf ps (List.mem_of_getElem? hkv)) fun hZ1 hf2=>?_
  refine el_A hZ1 fun hf0 hf1=>?_
  try clear hZ1
  have hi:i<L.length:=(List.getElem?_eq_some_iff.mp hkv).1
  have hxs:=h.length
  rw [List.length_map,Array.length_toList] at hxs
  have hxs2:(L.take i).length≤1000:=by rw [List.length_take];lia
  have hnew:∀ t1,All2 IsText (xs.push (.str (S (wL ps)) t1)).toList ((L.take (i+1)).map wL):=fun t1=>by
   rw [Array.toList_push,take_succ_get hkv,List.map_append]
   exact h.append (.cons ⟨t1,rfl⟩ .nil)
  refine HT.reads (r:=(pa,listO (refs ads) np)::r) (Sub.cons hpm (Sub.refl _)) ?_
  have key:∀ {b:Nat} {l':Memo} {RR:Result→Sx→Prop},(∀ ys n2 t v,All2 IsText ys.toList (ps.map wP)→RR (.ok .next) ⟨ch,(b+1,listO ys n2)::(b+2,dictO #[ent w nPair t (.ref v)] 1)::l',r⟩)→HC (C0 w B) h₀ none 160 ⟨ch,(b,iterO pa 0)::(b+1,listO #[] 0)::(b+2,dictO #[] 0)::l',(pa,listO (refs ads) np)::r⟩ (cS2 (C0 w B) b (b+1) (b+2) D1 f) RR :=
   fun {b l' RR} hk=>HC.less (HC.reads (r:=r) Sub.tail (inner_comp N hpm hpa hf2 (by lia) hf0 hk)) (by decide)
  have joinK:∀ {b:Nat} {l':Memo} {ys:Array Value} {n2:Nat} {t:Tok} {RR:Result→Sx→Prop},All2 IsText ys.toList (ps.map wP)→(∀ t',RR (.ok (.ret (.str (S (wL ps)) t'))) ⟨ch,(b,listO ys n2)::l',r⟩)→HC (C0 w B) h₀ none 160 ⟨ch,(b,listO ys n2)::l',r⟩ (.call (.builtin "str.join") ⟨[.str (S [59,32]) t,.ref b],[]⟩) RR :=
   fun {b l' ys n2 t RR} hy hk=>HC.joinL (.inl (.head _)) hy (fun s hs=>by obtain ⟨p,_,rfl⟩:=List.mem_map.mp hs;exact wP_le p) (by rw [List.length_map];lia) (by decide) hk
  intro b tk
  refine HTa.cutN N [5,5,5,2,2,1,2,1] [2,1,0] 3 [] (c:=cS2 _ b (b+1) (b+2) D1 f) (l:=(b,iterO pa 0)::(b+1,listO #[] 0)::(b+2,dictO #[] 0)::(it,iterO a (i+1))::(acc,listO xs n')::(D1,dictO #[ent w nPairs1 (nmTok o tk) (.ref pa)] 1)::l) (r:=(pa,listO (refs ads) np)::r) (ch:=ch) (by exact OneName.two ho (by exact Hab.two B (by kernel_rfl) (by kernel_rfl)) fun vz0 vz1 vz2=>by exact Hab.two B (by kernel_rfl) (by kernel_rfl)) rfl (key fun ys n2 t2 v2 hy b2 tk2=>?_)
  refine HTa.cutN N [3,3,3] [0,2,3,4] 5 [] (c:=.call (.builtin "str.join") ⟨[.str (S [59,32]) (tk+1),.ref (b+1)],[]⟩) (l:=(b+1,listO ys n2)::(it,iterO a (i+1))::(acc,listO xs n')::(D1,dictO #[ent w nPairs1 (nmTok o tk) (.ref pa)] 1)::l) (r:=r) (ch:=ch) (by exact OneName.two ho (by exact Hab.two B (by kernel_rfl) (by kernel_rfl)) fun vz0 vz1 vz2=>by exact Hab.two B (by kernel_rfl) (by kernel_rfl)) rfl (joinK hy fun t3 b3 tk3=>?_)
  refine HTa.cutN N [] [2,1,3] 4 [] (c:=.call (.builtin "list.append") ⟨[.ref acc,.str (S (wL ps)) t3],[]⟩) (l:=(acc,listO xs n')::(it,iterO a (i+1))::(D1,dictO #[ent w nPairs1 (nmTok o tk) (.ref pa)] 1)::l) (r:=r) (ch:=ch) (by exact OneName.two ho (by exact Hab.two B (by kernel_rfl) (by kernel_rfl)) fun vz0 vz1 vz2=>by exact Hab.two B (by kernel_rfl) (by kernel_rfl)) rfl ?_
  refine HC.append (by rw [sizeLine_eq];lia) fun b4 tk4=>?_
  exact HTa.val N [] [1,0,2] 3 [] (a:=PySem.Fin.again (cL1 _ it acc D1 f)) (l:=(it,iterO a (i+1))::(acc,listO (xs.push (.str (S (wL ps)) t3)) (n'+1))::(D1,dictO #[ent w nPairs1 (nmTok o tk) (.ref pa)] 1)::l) (r:=r) (ch:=ch) (by exact OneName.two ho (by exact Hab.two B (by kernel_rfl) (by kernel_rfl)) fun vz0 vz1 vz2=>by exact Hab.two B (by kernel_rfl) (by kernel_rfl)) rfl ⟨rfl,⟨ch,(acc,listO (xs.push (.str (S (wL ps)) t3)) (n'+1))::(D1,dictO #[ent w nPairs1 (nmTok o tk) (.ref pa)] 1)::l,r⟩,⟨_,_,_,rfl,hnew t3,.inr ⟨Nat.succ_pos _,_,_,rfl⟩⟩,rfl⟩
end
section
variable {C:Cfg} {h₀:Heap} {hd:Option Value} {lv:Nat} {R:Result→Sx→Prop} {x:Sx}
theorem HC.neSame {X:List Nat} {t u:Tok} (G:R (.ok (.ret (.bool false))) x):HC C h₀ hd lv x (.call (.builtin "str.__ne__") ⟨[.str (S X) t,.str (S X) u],[]⟩) R:=by
 have g:=gives_str_ne (S X) (S X) t u
 have e:((S X).cps.toList != (S X).cps.toList)=false:=by simp
 rw [e] at g
 exact HC.gives F.slot_str_ne F.entry_str_ne (F.args_str_ne_2 _ _) g (fun s=>typeIs_str s _ t) G
end
section
variable {w:World} {B:Hab} {h₀:Heap} (N:NatOk (C0 w B) h₀) {f sc ls t t1 t2 t3:Nat} {l r:Memo} {ch:Ch} {Q:Flow→Sx→Prop}
include N
theorem law_s2 {L:List (List KV)} (hp:ListsAt r ls L) (hf:∀ ps∈L,(0<ps.length∧ps.length≤100)∧∀ p∈ps,Fine p) (hn:L.length≤100) (hne:0<L.length) (hw:∀ s∈L.map wL,s.length≤1000)
  (G:Q .next ⟨ch,(f,frameO #[ent w nScript t1 (.ref sc),ent w nListsL t2 (.ref ls),ent w nHeader t3 (.str (S (header L)) t)] 3)::l,r⟩) :
  HT (C0 w B) h₀ none 200 ⟨ch,(f,frameO #[ent w nScript t1 (.ref sc),ent w nListsL t2 (.ref ls),ent w nHeader t3 (.str (S (header L)) t)] 3)::l,r⟩ (execsZ [lB (C0 w B) 2] (envLaw (C0 w B) f)) Q (fun vz0 vz1=>False):=by
 obtain ⟨las,n,hl,hal⟩:=hp
 refine HT.reads (r:=(ls,listO (refs las) n)::r) (Sub.cons hl (Sub.refl _)) ?_
 generalize hX:header L=X at G
 have key:∀ {b:Nat} {l':Memo} {RR:Result→Sx→Prop},(∀ ys n2 t v,All2 IsText ys.toList (L.map wL)→RR (.ok .next) ⟨ch,(b+1,listO ys n2)::(b+2,dictO #[ent w nPairs1 t (.ref v)] 1)::l',r⟩)→HC (C0 w B) h₀ none 200 ⟨ch,(b,iterO ls 0)::(b+1,listO #[] 0)::(b+2,dictO #[] 0)::l',(ls,listO (refs las) n)::r⟩ (cS1 (C0 w B) b (b+1) (b+2) f) RR :=
  fun {b l' RR} hk=>HC.less (HC.reads (r:=r) Sub.tail (outer_comp N hl hal hf hn hne hk)) (by decide)
 have joinK:∀ {b:Nat} {l':Memo} {ys:Array Value} {n2:Nat} {t:Tok} {RR:Result→Sx→Prop},All2 IsText ys.toList (L.map wL)→(∀ t',RR (.ok (.ret (.str (S X) t'))) ⟨ch,(b,listO ys n2)::l',r⟩)→HC (C0 w B) h₀ none 200 ⟨ch,(b,listO ys n2)::l',r⟩ (.call (.builtin "str.join") ⟨[.str (S [44,32]) t,.ref b],[]⟩) RR:=by
  intro b l' ys n2 t RR hy hk
  subst hX
  exact HC.joinL (.inl (.head _)) hy hw (by rw [List.length_map];omega) (by decide) hk
 intro b tk
 (
  refine HTa.cutN N [1,1,2,2,1,2,1] [2,1,0] 3 [] (c:=cS1 _ b (b+1) (b+2) f) (l:=(b,iterO ls 0)::(b+1,listO #[] 0)::(b+2,dictO #[] 0)::(f,frameO #[ent w nScript t1 (.ref sc),ent w nListsL t2 (.ref ls),ent w nHeader t3 (.str (S X) t)] 3)::l) (r:=(ls,listO (refs las) n)::r) (ch:=ch) (by exact Hab.two B (by kernel_rfl) (by kernel_rfl)) rfl (key fun ys n2 u2 v2 hy b2 tk2=>?_)
  refine HTa.cutN N [3,3,3] [0,2] 3 [] (c:=.call (.builtin "str.join") ⟨[.str (S [44,32]) tk,.ref (b+1)],[]⟩) (l:=(b+1,listO ys n2)::(f,frameO #[ent w nScript t1 (.ref sc),ent w nListsL t2 (.ref ls),ent w nHeader t3 (.str (S X) t)] 3)::l) (r:=r) (ch:=ch) (by exact Hab.two B (by kernel_rfl) (by kernel_rfl)) rfl (joinK hy fun t4 b4 tk4=>?_)
  refine HTa.cutN N [] [1] 2 [] (c:=.call (.builtin "str.__ne__") ⟨[.str (S X) t,.str (S X) t4],[]⟩) (l:=(f,frameO #[ent w nScript t1 (.ref sc),ent w nListsL t2 (.ref ls),ent w nHeader t3 (.str (S X) t)] 3)::l) (r:=r) (ch:=ch) (by exact Hab.two B (by kernel_rfl) (by kernel_rfl)) rfl ?_
  refine HC.neSame fun b5 tk5=>?_
  exact HTa.val N [] [0] 1 [] (a:=.next) (l:=(f,frameO #[ent w nScript t1 (.ref sc),ent w nListsL t2 (.ref ls),ent w nHeader t3 (.str (S X) t)] 3)::l) (r:=r) (ch:=ch) (by exact Hab.two B (by kernel_rfl) (by kernel_rfl)) rfl G)
end
section
variable {w:World} {B:Hab} {h₀:Heap} (N:NatOk (C0 w B) h₀) {f sc ls t t1 t2 t3 cb:Nat} {l r:Memo} {ch:Ch} {Q:Flow→Sx→Prop}
include N
theorem law_s1 {k1 k2:Nat} {ps1:List KV} {L:List (List KV)} (h1:k1<4) (h2:k2<4) (hps1:∀ p∈ps1,Fine p) (hn1:ps1.length≤98) (hL:∀ ps∈L,(∀ p∈ps,Fine p)∧ps≠[]∧ps.length≤100) (hn:L.length≤98)
  (hw:∀ s∈(((k1,1)::(k2,2)::ps1)::L).map wL,s.length≤1000) (hp:ListsAt r ls (((k1,1)::(k2,2)::ps1)::L))
  (G:∀ t t3 cb r',Sub r r'→Q .next ⟨chJ cb,(f,frameO #[ent w nScript t1 (.ref sc),ent w nListsL t2 (.ref ls),ent w nHeader t3 (.str (S (header (((k1,1)::(k2,2)::ps1)::L))) t)] 3)::l,r'⟩) :
  HT (C0 w B) h₀ none 200 ⟨[],(f,frameO #[ent w nScript t1 (.ref sc),ent w nListsL t2 (.ref ls)] 2)::l,r⟩ (execsZ [lB (C0 w B) 1] (envLaw (C0 w B) f)) Q (fun vz0 vz1=>False):=by
 intro b tk
 refine HTa.cut N [0,1,0] [0] 1 [] (c:=.call (.ref 87) ⟨[.ref ls],[]⟩) (l:=(f,frameO #[ent w nScript t1 (.ref sc),ent w nListsL t2 (.ref ls)] 2)::l) (r:=r) (ch:=[]) (by kernel_rfl) rfl (by intro h;cases h) ?_
 refine HC.less (join_call N h1 h2 hps1 hn1 hL hn hw hp fun t' cb r' hr=>?_) (by decide)
 generalize hX:header (((k1,1)::(k2,2)::ps1)::L)=X at G
 intro b2 tk2
 exact HTa.val N [1,1] [0] 1 [] (a:=.next) (l:=(f,frameO #[ent w nScript t1 (.ref sc),ent w nListsL t2 (.ref ls),ent w nHeader tk2 (.str (S X) t')] 3)::l) (r:=r') (ch:=chJ (cb+5)) (by kernel_rfl) rfl (G _ _ _ _ hr)
theorem law_s3 {k0 k1:Nat} {qs:List KV} {Ls:List (List KV)} (h1:∀ l∈(((k0,1)::(k1,2)::qs)::Ls),l≠[]∧l.length≤100∧∀ q∈l,Fine q) (h2:Ls.length≤99) (h3:(header (((k0,1)::(k1,2)::qs)::Ls)).length≤800)
  (G:∀ rd t4 cs r',Sub r r'→ListsAt r' rd (((k0,1)::(k1,2)::qs)::Ls)→Q .next ⟨chS cb cs,(f,frameO #[ent w nScript t1 (.ref sc),ent w nListsL t2 (.ref ls),ent w nHeader t3 (.str (S (header (((k0,1)::(k1,2)::qs)::Ls))) t),ent w nRead t4 (.ref rd)] 4)::l,r'⟩) :
  HT (C0 w B) h₀ none 200 ⟨chJ cb,(f,frameO #[ent w nScript t1 (.ref sc),ent w nListsL t2 (.ref ls),ent w nHeader t3 (.str (S (header (((k0,1)::(k1,2)::qs)::Ls))) t)] 3)::l,r⟩ (execsZ [lB (C0 w B) 3] (envLaw (C0 w B) f)) Q (fun vz0 vz1=>False):=by
 have key:∀ {X:List Nat} {b:Nat} {l':Memo} {RR:Result→Sx→Prop},header (((k0,1)::(k1,2)::qs)::Ls)=X→(∀ rd cs r',Sub r r'→ListsAt r' rd (((k0,1)::(k1,2)::qs)::Ls)→RR (.ok (.ret (.ref rd))) ⟨chS cb cs,l',r'⟩) →
   HC (C0 w B) h₀ none 200 ⟨chJ cb,l',(b,listO #[.str (S X) t] 0)::r⟩ (.call (.ref 70) ⟨[.ref b],[]⟩) RR:=by
  rintro X b l' RR rfl hk
  exact HC.less (split_call N h1 h2 h3 (.head _) fun rd cs r' hr hL=>hk rd cs r' (Sub.tail.trans hr) hL) (by decide)
 generalize hX:header (((k0,1)::(k1,2)::qs)::Ls)=X at G ⊢
 intro b tk
 refine HTa.cut N [0,1,0] [1] 2 [0] (c:=.call (.ref 70) ⟨[.ref b],[]⟩) (l:=(f,frameO #[ent w nScript t1 (.ref sc),ent w nListsL t2 (.ref ls),ent w nHeader t3 (.str (S X) t)] 3)::l) (r:=(b,listO #[.str (S X) t] 0)::r) (ch:=chJ cb) (by kernel_rfl) rfl (by intro h;cases h) ?_
 refine key hX fun rd cs r' hr hL b2 tk2=>?_
 exact HTa.val N [1,1] [0] 1 [] (a:=.next) (l:=(f,frameO #[ent w nScript t1 (.ref sc),ent w nListsL t2 (.ref ls),ent w nHeader t3 (.str (S X) t),ent w nRead tk2 (.ref rd)] 4)::l) (r:=r') (ch:=chS cb cs) (by kernel_rfl) rfl (G _ _ _ _ hr hL)
end
noncomputable def vD:Nat→PyData
 | 0=>.str (S [])
 | 1=>.str (S [97,45,49,46,98])
 | 2=>.str (S [50,32,50])
 | 3=>.str (S [34])
 | 4=>.str (S [120,44,121])
 | _=>.none
noncomputable def dP (p:KV):PyData:=.tuple [.str (S [kc p.1]),vD p.2]
noncomputable def dPs (ps:List KV):PyData:=.list (ps.map dP)
noncomputable def dL (L:List (List KV)):PyData:=.list (L.map dPs)
theorem vD_reads (h:Heap) (t:Tok):∀ v,Reads h (vV v t) (vD v) []
 | 0 | 1 | 2 | 3 | 4=>.str _ _
 | _+5=>.none
theorem lay_vD:∀ v,PyData.canLay0 (vD v)=true
 | 0 | 1 | 2 | 3 | 4=>by kernel_rfl
 | _+5=>by kernel_rfl
theorem kc_cases (k:Nat):kc k=97 ∨ kc k=98 ∨ kc k=67 ∨ kc k=100:=by
 unfold kc
 split <;> simp
theorem lay_dP (p:KV):PyData.canLay0 (dP p)=true:=by
 have h1:PyData.canLay0 (.str (S [kc p.1]))=true:=by
  rcases kc_cases p.1 with h | h | h | h <;> rw [h] <;> kernel_rfl
 simp only [dP,PyData.canLay0,PyData.canLayAll0,lay_vD] at h1 ⊢
 rw [h1];rfl
theorem lay_all:∀ {ds:List PyData},(∀ d∈ds,d.canLay0=true)→PyData.canLayAll0 ds=true
 | [],_=>by simp only [PyData.canLayAll0]
 | d::ds,h=>by
  rw [PyData.canLayAll0,h d (.head _),lay_all fun e he=>h e (.tail _ he)];rfl
theorem lay_dPs (ps:List KV):PyData.canLay0 (dPs ps)=true:=by
 rw [dPs,PyData.canLay0]
 exact lay_all fun d hd=>by obtain ⟨p,_,rfl⟩:=List.mem_map.mp hd;exact lay_dP p
theorem lay_dL (L:List (List KV)):PyData.canLay0 (dL L)=true:=by
 rw [dL,PyData.canLay0]
 exact lay_all fun d hd=>by obtain ⟨p,_,rfl⟩:=List.mem_map.mp hd;exact lay_dPs p
theorem depth_all {k:Nat}:∀ {ds:List PyData},(∀ d∈ds,d.depth≤k)→PyData.depthAll ds≤k
 | [],_=>by rw [PyData.depthAll];exact Nat.zero_le _
 | d::ds,h=>by
  rw [PyData.depthAll]
  exact Nat.max_le.mpr ⟨h d (.head _),depth_all fun e he=>h e (.tail _ he)⟩
theorem depth_vD:∀ v,(vD v).depth=0
 | 0 | 1 | 2 | 3 | 4=>by kernel_rfl
 | _+5=>by kernel_rfl
theorem depth_dP (p:KV):(dP p).depth≤1:=by
 simp only [dP,PyData.depth,PyData.depthAll,depth_vD];decide
theorem depth_dPs (ps:List KV):(dPs ps).depth≤2:=by
 rw [dPs,PyData.depth]
 exact Nat.succ_le_succ (depth_all fun d hd=>by obtain ⟨p,_,rfl⟩:=List.mem_map.mp hd;exact depth_dP p)
theorem depth_dL (L:List (List KV)):(dL L).depth≤3:=by
 rw [dL,PyData.depth]
 exact Nat.succ_le_succ (depth_all fun d hd=>by obtain ⟨p,_,rfl⟩:=List.mem_map.mp hd;exact depth_dPs p)
section
variable {C:Cfg} {h₀:Heap} {x:Sx} {b tk:Nat} {h:Heap} (D:Rep C h₀ [] ⟨x.l,x.r,b,tk,x.ch⟩ h)
include D
theorem pair_reads {p:Addr} {kv:KV} (hp:PairAt x.r p kv):Reads h (.ref p) (dP kv) []:=by
 refine el_EE hp fun t1 t2 hm=>?_
 exact .tuple (D.memR _ hm) rfl rfl (.cons (.str _ _) (.cons (vD_reads h t2 kv.2) .nil))
omit D in
theorem all_reads {α:Type} {P:Addr→α→Prop} {d:α→PyData} (hP:∀ a k,P a k→∃ as,Reads h (.ref a) (d k) as) {ads:List Addr} {ks:List α} (H:All2 P ads ks):∃ as,ReadsAll h (ads.map Value.ref) (ks.map d) as:=by
 induction H with
 | nil=>exact ⟨_,.nil⟩
 | cons h1 h2 ih =>
  refine el_E (hP _ _ h1) fun as r1=>?_
  refine el_E ih fun bs r2=>?_
  exact ⟨_,.cons r1 r2⟩
theorem pairs_reads {a:Addr} {ps:List KV} (hp:PairsAt x.r a ps):∃ as,Reads h (.ref a) (dPs ps) as:=by
 obtain ⟨ads,n,hm,hal⟩:=hp
 refine el_E (all_reads (h:=h) (d:=dP) (fun a k hk=>⟨[],pair_reads D hk⟩) hal) fun as r=>?_
 exact ⟨_,.list (D.memR _ hm) rfl rfl r⟩
theorem lists_reads {a:Addr} {L:List (List KV)} (hp:ListsAt x.r a L):∃ as,Reads h (.ref a) (dL L) as:=by
 obtain ⟨ads,n,hm,hal⟩:=hp
 refine el_E (all_reads (h:=h) (d:=dPs) (fun a k hk=>pairs_reads D hk) hal) fun as r=>?_
 exact ⟨_,.list (D.memR _ hm) rfl rfl r⟩
end
section
variable {C:Cfg} {h₀:Heap} {hd:Option Value} {lv:Nat} {x:Sx} {E:Value→Sx→Prop}
theorem HT.neData {a b:Value} {da db:PyData} {Q:Value→Sx→Prop} (ra:∀ bb tk h,Rep C h₀ [] ⟨x.l,x.r,bb,tk,x.ch⟩ h→∃ as,Reads h a da as) (rb:∀ bb tk h,Rep C h₀ [] ⟨x.l,x.r,bb,tk,x.ch⟩ h→∃ bs,Reads h b db bs)
  (la:da.canLay0=true) (lb:db.canLay0=true) (hdp:da.depth≤4 * lv) (G:Q (.bool (!PyData.eqv da db)) x):HT C h₀ hd lv x (compareOp .NotEq a b) Q E:=by
 refine HT.lib fun A g d os bb tk h K D=>?_
 refine el_E (ra bb tk h D) fun as ra=>?_
 refine el_E (rb bb tk h D) fun bs rb=>?_
 show wpAny _ A (richCompare .NotEq a b) _ _ _
 exact PySem.SeqAt.neOverData C.prog C.w A _ ⟨h,g,d,tk,os⟩ a b da db as bs _ ra rb la lb (by have:=K.units;have:=Nat.min_le_left da.depth db.depth;lia) ⟨x,⟨bb,tk,h,rfl,D⟩,G⟩
theorem HT.compare1 {l op r pos} {env:PySem.Env} {Q:Value→Sx→Prop} (hm:behindInMarks op r=false)
  (H:HT C h₀ hd lv x (evalZ l env) (fun a x1=>HT C h₀ hd lv x1 (evalZ r env) (fun b x2=>HT C h₀ hd lv x2 (compareOp op a b) Q E) E) E):HT C h₀ hd lv x (evalZ (.Compare l [op] [r] pos) env) Q E:=by
 rw [←evalZ_eq] at H ⊢
 refine HT.lib fun A g d os b tk h K D=>?_
 refine wpAny_Compare1 (wpAny_mono (H b tk A g d os h K D) ?_ (fun vz0 vz1 q=>q)) hm
 intro a s hZ0
 refine el_EA hZ0 fun x1 hZ1 T1=>?_
 try clear hZ0
 obtain ⟨b1,tk1,h1,hE2,D1⟩:=hZ1
 subst hE2
 refine wpAny_mono (T1 b1 tk1 A g d os h1 K D1) ?_ (fun vz0 vz1 q=>q)
 intro c s hZ0
 refine el_EA hZ0 fun x2 hZ1 T2=>?_
 try clear hZ0
 obtain ⟨b2,tk2,h2,hE2,D2⟩:=hZ1
 subst hE2
 exact T2 b2 tk2 A g d os h2 K D2
end
section
variable {C:Cfg} {h₀:Heap} {hd:Option Value} {lv:Nat} {x:Sx} {E:Value→Sx→Prop}
theorem HT.test1 {l op r pos whole} {env:PySem.Env} {Q:Bool→Sx→Prop} (hm:behindInMarks op r=false)
  (H:HT C h₀ hd lv x (evalZ l env) (fun a x1=>HT C h₀ hd lv x1 (evalZ r env) (fun b x2=>HT C h₀ hd lv x2 (compareOp op a b) (fun c x3=>∃ v,c = .bool v∧Q v x3) E) E) E):HT C h₀ hd lv x (isTrueZ (.Compare l [op] [r] pos) env whole) Q E:=by
 rw [←evalZ_eq] at H
 rw [←isTrueZ_eq]
 refine HT.lib fun A g d os b tk h K D=>?_
 refine wpAny_isTrue_Compare1 (wpAny_mono (H b tk A g d os h K D) ?_ (fun vz0 vz1 q=>q)) hm
 intro a s hZ0
 refine el_EA hZ0 fun x1 hZ1 T1=>?_
 try clear hZ0
 obtain ⟨b1,tk1,h1,hE2,D1⟩:=hZ1
 subst hE2
 refine wpAny_mono (T1 b1 tk1 A g d os h1 K D1) ?_ (fun vz0 vz1 q=>q)
 intro c s hZ0
 refine el_EA hZ0 fun x2 hZ1 T2=>?_
 try clear hZ0
 obtain ⟨b2,tk2,h2,hE2,D2⟩:=hZ1
 subst hE2
 refine wpAny_mono (T2 b2 tk2 A g d os h2 K D2) ?_ (fun vz0 vz1 q=>q)
 intro c s hZ0
 refine el_EAEA hZ0 fun x3 S v hE1 q=>?_
 try clear hZ0
 subst hE1
 exact wpAny_truthy_bool ⟨x3,S,q⟩
end
section
variable {w:World} {B:Hab} {h₀:Heap} (N:NatOk (C0 w B) h₀) {f sc ls rd t t1 t2 t3 t4 cb:Nat} {vh:Value} {l r:Memo} {ch:Ch} {Q:Flow→Sx→Prop}
include N
theorem law_s4 {L:List (List KV)} (hp:ListsAt r ls L) (hq:ListsAt r rd L)
  (G:Q .next ⟨ch,(f,frameO #[ent w nScript t1 (.ref sc),ent w nListsL t2 (.ref ls),ent w nHeader t3 vh,ent w nRead t4 (.ref rd)] 4)::l,r⟩) :
  HT (C0 w B) h₀ none 200 ⟨ch,(f,frameO #[ent w nScript t1 (.ref sc),ent w nListsL t2 (.ref ls),ent w nHeader t3 vh,ent w nRead t4 (.ref rd)] 4)::l,r⟩ (execsZ [lB (C0 w B) 4] (envLaw (C0 w B) f)) Q (fun vz0 vz1=>False):=by
 have e1:lB (C0 w B) 4 = .If (.Compare (cmpL (ifTest (lB (C0 w B) 4))) [.NotEq] [cmpR (ifTest (lB (C0 w B) 4))] (exPos (ifTest (lB (C0 w B) 4)))) (ifBody (lB (C0 w B) 4)) [] (ifPos (lB (C0 w B) 4)):=by kernel_rfl
 rw [e1]
 refine HT.ifS (HT.test1 (by kernel_rfl) ?_)
 refine HT.val0 N [1] (a:=.ref rd) (by kernel_rfl) ?_
 refine HT.val0 N [1] (a:=.ref ls) (by kernel_rfl) ?_
 refine HT.neData (fun bb tk h D=>lists_reads D hq) (fun bb tk h D=>lists_reads D hp) (lay_dL L) (lay_dL L) (Nat.le_trans (depth_dL L) (by decide)) ?_
 refine ⟨_,rfl,?_⟩
 rw [PySem.SeqAt.eqv_refl _ (lay_dL L)]
 exact HT.execs_nil G
end
noncomputable abbrev qLt:Str:=S [95,108,97,119,95,116,97,98,108,101,46,60,108,111,99,97,108,115,62,46]
noncomputable abbrev nRows:Str:=S [114,111,119,115]
noncomputable abbrev nKey:Str:=S [107,101,121]
noncomputable abbrev nValues:Str:=S [118,97,108,117,101,115]
noncomputable abbrev envLt (C:Cfg) (f c:Addr):PySem.Env:=envA C 148 [(nKey,c)] qLt f
noncomputable abbrev cellO (v:Option Value):Obj:={ cls:=.type "cell",data:=.cell v }
noncomputable abbrev forLt (C:Cfg):Stmt:=nthS (stmts C 148) 1
noncomputable abbrev ltB (C:Cfg) (i:Nat):Stmt:=nthS (forBody (forLt C)) i
noncomputable abbrev lcT (C:Cfg):PySem.Expr:=asgV (ltB C 0)
noncomputable abbrev envT (C:Cfg) (D f c:Addr):PySem.Env:=compEnvC (scopeOf (lcT C)) [(nKey,c)] D (envLt C f c)
noncomputable abbrev cT (C:Cfg) (d it acc D f c:Addr):Code:=.compLoop (lcT C) d (.ref it) (.ref acc) (envT C D f c)
noncomputable abbrev nOne:Str:=S [111,110,101]
noncomputable abbrev nValue1:Str:=S [118,97,108,117,101]
noncomputable abbrev dT1 (w:World) (t1 pa:Nat):Obj:=dictO #[ent w nPairs1 t1 (.ref pa)] 1
noncomputable abbrev dT3 (w:World) (t1 pa t2 t3:Nat) (v1 v2:Value):Obj:=dictO #[ent w nPairs1 t1 (.ref pa),ent w nOne t2 v1,ent w nValue1 t3 v2] 3
noncomputable def IsVal (x:Value) (v:Nat):Prop:=∃ t,x=vV v t
noncomputable def DT (w:World) (pa:Nat) (o:Obj):Prop:=(∃ t1,o=dT1 w t1 pa) ∨ ∃ t1 t2 t3 v1 v2,o=dT3 w t1 pa t2 t3 v1 v2
noncomputable def selV (kk:Nat) (ps:List KV):List Nat:=(ps.filter (fun p=>kc p.1 == kk)).map (·.2)
section
variable {C:Cfg} {h₀:Heap} {hd:Option Value} {lv:Nat} {R:Result→Sx→Prop} {x:Sx}
theorem HC.eqOne {a b:Nat} {t u:Tok} (G:R (.ok (.ret (.bool (a == b)))) x):HC C h₀ hd lv x (.call (.builtin "str.__eq__") ⟨[.str (S [a]) t,.str (S [b]) u],[]⟩) R:=by
 have g:=gives_str_eq (S [a]) (S [b]) t u
 have e:((S [a]).cps.toList == (S [b]).cps.toList)=(a == b):=by
  show ([a] == [b])=_
  rw [Bool.eq_iff_iff,beq_iff_eq,beq_iff_eq]
  exact ⟨fun h=>by injection h,fun h=>by rw [h]⟩
 rw [e] at g
 exact HC.gives F.slot_str_eq F.entry_str_eq (F.args_str_eq_2 _ _) g (fun s=>typeIs_str s _ t) G
end
section
variable {w:World} {B:Hab} {h₀:Heap} (N:NatOk (C0 w B) h₀) {f c D it a acc kk t:Nat} {l r:Memo} {ch:Ch} {R:Result→Sx→Prop}
include N
theorem tab_turn {p k v i n' pa t1 t2 b0 tk0:Nat} {xs:Array Value} {o:Obj} {Q:PySem.Fin→Sx→Prop} (hv:v<6) (hxs:xs.size≤10000) (ho:DT w pa o)
  (Gy:k=kk→∀ o' n2,DT w pa o'→Q (.again (cT (C0 w B) 1 it acc D f c)) ⟨ch,(it,iterO a (i+1))::(acc,listO (xs.push (vV v t2)) n2)::(D,o')::(c,cellO (some (.str (S [kk]) t)))::l,(p,pairO k v t1 t2)::r⟩)
  (Gn:k≠kk→∀ o',DT w pa o'→Q (.again (cT (C0 w B) 1 it acc D f c)) ⟨ch,(it,iterO a (i+1))::(acc,listO xs n')::(D,o')::(c,cellO (some (.str (S [kk]) t)))::l,(p,pairO k v t1 t2)::r⟩) :
  HT (C0 w B) h₀ none 150 ⟨ch,(it,iterO a (i+1))::(acc,listO xs n')::(D,o)::(c,cellO (some (.str (S [kk]) t)))::l,(p,pairO k v t1 t2)::r⟩ ((go (C0 w B) none 150 [1] (denZ (cT (C0 w B) 1 it acc D f c)) ⟨(it,iterO a i)::(acc,listO xs n')::(D,o)::(c,cellO (some (.str (S [kk]) t)))::l,r,b0,tk0,ch⟩).kont (.ok (.ret (.ref p)))) Q (fun vz0 vz1=>False):=by
 have hX:=vV_ns v t2
 delta pairO at Gy Gn ⊢
 generalize vV v t2=X at Gy Gn hX ⊢
 rcases ho with ⟨u1,rfl⟩ | ⟨u1,u2,u3,v1,v2,rfl⟩
 ·intro b tk
  (
   refine HTa.cutN N [1,2,2,2,1,2,1,1,1,1,1,1,2,1,1,1,1,1,1,1,2,1,1,1,1,1,1,1,2,1,1,1,11,11,11,11,11,13] [3,4,5] 6 [] (c:=.call (.builtin "str.__eq__") ⟨[.str (S [k]) t1,.str (S [kk]) t],[]⟩) (l:=(it,iterO a (i+1))::(acc,listO xs n')::(D,dT3 w u1 pa tk (tk+1) (.str (S [k]) t1) (X))::(c,cellO (some (.str (S [kk]) t)))::l) (r:=(p,tupO #[.str (S [k]) t1,X])::r) (ch:=ch) (by exact VNS.two hX (by exact Hab.two B (by kernel_rfl) (by kernel_rfl)) fun z t=>by exact Hab.two B (by kernel_rfl) (by kernel_rfl)) rfl ?_
   refine HC.eqOne fun b5 tk5=>?_
   by_cases hk:k=kk
   ·rw [show (k == kk)=true from beq_iff_eq.mpr hk]
    refine HTa.cutN N [5] [1,0,2] 3 [] (c:=.call (.builtin "list.append") ⟨[.ref acc,X],[]⟩) (l:=(acc,listO xs n')::(it,iterO a (i+1))::(D,dT3 w u1 pa tk (tk+1) (.str (S [k]) t1) (X))::(c,cellO (some (.str (S [kk]) t)))::l) (r:=(p,tupO #[.str (S [k]) t1,X])::r) (ch:=ch) (by exact VNS.two hX (by exact Hab.two B (by kernel_rfl) (by kernel_rfl)) fun z t=>by exact Hab.two B (by kernel_rfl) (by kernel_rfl)) rfl ?_
    refine HC.append (by rw [sizeLine_eq];lia) fun b6 tk6=>?_
    exact HTa.val N [] [1,0,2] 3 [] (a:=PySem.Fin.again (cT _ 1 it acc D f c)) (l:=(it,iterO a (i+1))::(acc,listO (xs.push (X)) (n'+1))::(D,dT3 w u1 pa tk (tk+1) (.str (S [k]) t1) (X))::(c,cellO (some (.str (S [kk]) t)))::l) (r:=(p,tupO #[.str (S [k]) t1,X])::r) (ch:=ch) (by exact VNS.two hX (by exact Hab.two B (by kernel_rfl) (by kernel_rfl)) fun z t=>by exact Hab.two B (by kernel_rfl) (by kernel_rfl)) rfl (Gy hk _ _ (.inr ⟨_,_,_,_,_,rfl⟩))
   ·rw [show (k == kk)=false from beq_eq_false_iff_ne.mpr hk]
    exact HTa.val N [] [0,1,2] 3 [] (a:=PySem.Fin.again (cT _ 1 it acc D f c)) (l:=(it,iterO a (i+1))::(acc,listO xs n')::(D,dT3 w u1 pa tk (tk+1) (.str (S [k]) t1) (X))::(c,cellO (some (.str (S [kk]) t)))::l) (r:=(p,tupO #[.str (S [k]) t1,X])::r) (ch:=ch) (by exact VNS.two hX (by exact Hab.two B (by kernel_rfl) (by kernel_rfl)) fun z t=>by exact Hab.two B (by kernel_rfl) (by kernel_rfl)) rfl (Gn hk _ (.inr ⟨_,_,_,_,_,rfl⟩)))
 ·intro b tk
  (
   refine HTa.cutN N [1,2,2,2,1,2,1,1,1,1,1,1,2,1,1,1,1,1,1,1,2,1,1,1,1,1,1,1,2,1,1,1,11,11,11,11,11,13] [3,4,5] 6 [] (c:=.call (.builtin "str.__eq__") ⟨[.str (S [k]) t1,.str (S [kk]) t],[]⟩) (l:=(it,iterO a (i+1))::(acc,listO xs n')::(D,dT3 w u1 pa u2 u3 (.str (S [k]) t1) (X))::(c,cellO (some (.str (S [kk]) t)))::l) (r:=(p,tupO #[.str (S [k]) t1,X])::r) (ch:=ch) (by exact VNS.two hX (by exact Hab.two B (by kernel_rfl) (by kernel_rfl)) fun z t=>by exact Hab.two B (by kernel_rfl) (by kernel_rfl)) rfl ?_
   refine HC.eqOne fun b5 tk5=>?_
   by_cases hk:k=kk
   ·rw [show (k == kk)=true from beq_iff_eq.mpr hk]
    refine HTa.cutN N [5] [1,0,2] 3 [] (c:=.call (.builtin "list.append") ⟨[.ref acc,X],[]⟩) (l:=(acc,listO xs n')::(it,iterO a (i+1))::(D,dT3 w u1 pa u2 u3 (.str (S [k]) t1) (X))::(c,cellO (some (.str (S [kk]) t)))::l) (r:=(p,tupO #[.str (S [k]) t1,X])::r) (ch:=ch) (by exact VNS.two hX (by exact Hab.two B (by kernel_rfl) (by kernel_rfl)) fun z t=>by exact Hab.two B (by kernel_rfl) (by kernel_rfl)) rfl ?_
    refine HC.append (by rw [sizeLine_eq];lia) fun b6 tk6=>?_
    exact HTa.val N [] [1,0,2] 3 [] (a:=PySem.Fin.again (cT _ 1 it acc D f c)) (l:=(it,iterO a (i+1))::(acc,listO (xs.push (X)) (n'+1))::(D,dT3 w u1 pa u2 u3 (.str (S [k]) t1) (X))::(c,cellO (some (.str (S [kk]) t)))::l) (r:=(p,tupO #[.str (S [k]) t1,X])::r) (ch:=ch) (by exact VNS.two hX (by exact Hab.two B (by kernel_rfl) (by kernel_rfl)) fun z t=>by exact Hab.two B (by kernel_rfl) (by kernel_rfl)) rfl (Gy hk _ _ (.inr ⟨_,_,_,_,_,rfl⟩))
   ·rw [show (k == kk)=false from beq_eq_false_iff_ne.mpr hk]
    exact HTa.val N [] [0,1,2] 3 [] (a:=PySem.Fin.again (cT _ 1 it acc D f c)) (l:=(it,iterO a (i+1))::(acc,listO xs n')::(D,dT3 w u1 pa u2 u3 (.str (S [k]) t1) (X))::(c,cellO (some (.str (S [kk]) t)))::l) (r:=(p,tupO #[.str (S [k]) t1,X])::r) (ch:=ch) (by exact VNS.two hX (by exact Hab.two B (by kernel_rfl) (by kernel_rfl)) fun z t=>by exact Hab.two B (by kernel_rfl) (by kernel_rfl)) rfl (Gn hk _ (.inr ⟨_,_,_,_,_,rfl⟩)))
end
noncomputable abbrev cTS (C:Cfg) (d it acc D f c:Addr):Code:=.compStart (lcT C) d (.ref it) (.ref acc) (envT C D f c)
theorem selV_snoc {kk:Nat} {ps:List KV} {i:Nat} {p:KV} (h:ps[i]? = some p):selV kk (ps.take (i+1))=selV kk (ps.take i) ++ (if kc p.1=kk then [p.2] else []):=by
 unfold selV
 rw [take_succ_get h,List.filter_append,List.map_append]
 congr 1
 by_cases hk:kc p.1=kk <;> simp [hk]
theorem HT.less_r {C:Cfg} {h₀:Heap} {hd:Option Value} {lv:Nat} {x:Sx} {α:Type} {tr:Sem α} {Q:α→Sx→Prop} {E:Value→Sx→Prop} (H:HT C h₀ hd lv x tr (fun a y=>∃ r',Sub r' y.r∧Q a ⟨y.ch,y.l,r'⟩) E):HT C h₀ hd lv x tr Q E:=fun b tk A g d os h K D =>
 wpAny_mono (H b tk A g d os h K D) (fun a s ⟨y,⟨b',tk',h',e,D'⟩,r',hs,q⟩=>⟨⟨y.ch,y.l,r'⟩,⟨b',tk',h',e,D'.reads hs⟩,q⟩) (fun vz0 vz1 q=>q)
section
variable {w:World} {B:Hab} {h₀:Heap} (N:NatOk (C0 w B) h₀) {f c D it a acc kk t:Nat} {l r:Memo} {ch:Ch} {R:Result→Sx→Prop}
include N
theorem tab_start1 {Q:PySem.Fin→Sx→Prop} {E:Value→Sx→Prop} (G:Q (.again (cT (C0 w B) 1 it acc D f c)) ⟨ch,(it,iterO a 0)::l,r⟩):HT (C0 w B) h₀ none 150 ⟨ch,(it,iterO a 0)::l,r⟩ (denZ (cTS (C0 w B) 1 it acc D f c)) Q E:=by
 obtain ⟨b1,b2,b3,b4⟩:=B
 intro b tk
 cases b2
 ·cases b1 <;> exact HTa.val N [1,1,1,1,1] [0] 1 [] (a:=PySem.Fin.again (cT _ 1 it acc D f c)) (l:=(it,iterO a 0)::l) (r:=r) (ch:=ch) (by kernel_rfl) rfl G
 ·exact HTa.val N [] [0] 1 [] (a:=PySem.Fin.again (cT _ 1 it acc D f c)) (l:=(it,iterO a 0)::l) (r:=r) (ch:=ch) (by kernel_rfl) rfl G
theorem tab_inner {ads:List Addr} {ps:List KV} {n n' pa:Nat} {xs:Array Value} {vs0:List Nat} {o:Obj} (hl:(a,listO (refs ads) n)∈r) (hp:All2 (PairAt r) ads ps) (hf:∀ p∈ps,Fine p) (hn:ps.length≤100) (h0:All2 IsVal xs.toList vs0) (hvs:vs0.length≤9000) (ho:DT w pa o)
  (G:∀ xs' n2 o',All2 IsVal xs'.toList (vs0 ++ selV kk ps)→DT w pa o'→R (.ok .next) ⟨ch,(acc,listO xs' n2)::(D,o')::(c,cellO (some (.str (S [kk]) t)))::l,r⟩) :
  HC (C0 w B) h₀ none 151 ⟨ch,(it,iterO a 0)::(acc,listO xs n')::(D,o)::(c,cellO (some (.str (S [kk]) t)))::l,r⟩ (cTS (C0 w B) 1 it acc D f c) R:=by
 refine HC.tree (lv:=150) (w:=0) (by kernel_rfl) (tab_start1 N ?_)
 refine ⟨by kernel_rfl,?_⟩
 have hal:=hp.length
 refine HC.compList N (a:=a) (its:=refs ads) (n:=n) (by kernel_rfl) (by kernel_rfl) (fun i y b tk=>by kernel_rfl)
  (fun i y=>∃ xs n' o,y=⟨ch,(acc,listO xs n')::(D,o)::(c,cellO (some (.str (S [kk]) t)))::l,r⟩∧All2 IsVal xs.toList (vs0 ++ selV kk (ps.take i))∧DT w pa o) ?_ ?_ ?_ (y:=⟨ch,(acc,listO xs n')::(D,o)::(c,cellO (some (.str (S [kk]) t)))::l,r⟩) ⟨xs,n',o,rfl,by rw [List.take_zero];simpa [selV] using h0,ho⟩
 ·intro i y hZ0
  refine el_EEEAA hZ0 fun xs n' o hE1 vz0 vz1=>?_
  try clear hZ0
  subst hE1
  exact .inr hl
 ·intro y hZ0
  refine el_EEEAA hZ0 fun xs n' o hE1 h ho=>?_
  try clear hZ0
  subst hE1
  have es:(lcT (C0 w B)) = .ListComp (eltOf (lcT (C0 w B))) [gen1 (lcT (C0 w B)),gen2 (lcT (C0 w B))] (scopeOf (lcT (C0 w B))) (lcPos (lcT (C0 w B))):=by kernel_rfl
  show HC _ _ _ _ _ (.compLoop (lcT (C0 w B)) 1 (.ref it) (.ref acc) (envT (C0 w B) D f c)) _
  rw [es]
  refine HC.compEnd (gen:=gen2 (lcT (C0 w B))) rfl (by kernel_rfl) (.inr hl) ?_
  rw [refs_size,hal,List.take_length] at h
  exact G _ _ _ h ho
 ·intro i y v hZ0 hv b0 tk0
  refine el_EEEAA hZ0 fun xs n' o hE1 h ho=>?_
  try clear hZ0
  subst hE1
  refine el_EA (refs_get hv) fun p hp1 hE2=>?_
  subst hE2
  refine el_EAEE (hp.get (a:=p) hp1) fun kv hkv t1 t2 hpa=>?_
  have hfk:Fine kv:=hf kv (List.mem_of_getElem? hkv)
  have hxs:=h.length
  rw [List.length_append,Array.length_toList] at hxs
  have hs1:(selV kk (ps.take i)).length≤100:=by
   unfold selV
   rw [List.length_map]
   exact Nat.le_trans (List.length_filter_le _ _) (Nat.le_trans (List.length_take_le' _ _) hn)
  have hsn:=selV_snoc (kk:=kk) hkv
  refine HT.less_r (HT.reads (r:=(p,pairO (kc kv.1) kv.2 t1 t2)::r) (Sub.cons hpa (Sub.refl _)) (tab_turn N hfk.2 (by lia) ho (fun hk o' n2 ho'=>?_) (fun hk o' ho'=>?_)))
  ·refine ⟨r,Sub.tail,rfl,⟨ch,(acc,listO (xs.push (vV kv.2 t2)) n2)::(D,o')::(c,cellO (some (.str (S [kk]) t)))::l,r⟩,⟨_,_,_,rfl,?_,ho'⟩,rfl⟩
   rw [Array.toList_push,hsn,if_pos hk,←List.append_assoc]
   exact h.append (.cons ⟨t2,rfl⟩ .nil)
  ·refine ⟨r,Sub.tail,rfl,⟨ch,(acc,listO xs n')::(D,o')::(c,cellO (some (.str (S [kk]) t)))::l,r⟩,⟨_,_,_,rfl,?_,ho'⟩,rfl⟩
   rw [hsn,if_neg hk,List.append_nil]
   exact h
end
noncomputable def D0 (w:World) (i:Nat) (o:Obj):Prop:=(i=0∧o=dictO #[] 0) ∨ (0<i∧∃ pa,DT w pa o)
noncomputable def selVL (kk:Nat) (L:List (List KV)):List Nat:=L.flatMap (selV kk)
section
variable {w:World} {B:Hab} {h₀:Heap} (N:NatOk (C0 w B) h₀) {f c D it a acc kk t:Nat} {l r:Memo} {ch:Ch} {R:Result→Sx→Prop}
include N
theorem tab_start0 {Q:PySem.Fin→Sx→Prop} {E:Value→Sx→Prop} (G:Q (.again (cT (C0 w B) 0 it acc D f c)) ⟨ch,(it,iterO a 0)::l,r⟩):HT (C0 w B) h₀ none 160 ⟨ch,(it,iterO a 0)::l,r⟩ (denZ (cTS (C0 w B) 0 it acc D f c)) Q E:=by
 obtain ⟨b1,b2,b3,b4⟩:=B
 intro b tk
 cases b2
 ·cases b1 <;> exact HTa.val N [1,1,1,1,1] [0] 1 [] (a:=PySem.Fin.again (cT _ 0 it acc D f c)) (l:=(it,iterO a 0)::l) (r:=r) (ch:=ch) (by kernel_rfl) rfl G
 ·exact HTa.val N [] [0] 1 [] (a:=PySem.Fin.again (cT _ 0 it acc D f c)) (l:=(it,iterO a 0)::l) (r:=r) (ch:=ch) (by kernel_rfl) rfl G
theorem tab_turn0 {pa i n' np b0 tk0:Nat} {ads:List Addr} {ps:List KV} {xs:Array Value} {vs0:List Nat} {o:Obj} {Q:PySem.Fin→Sx→Prop} (hpm:(pa,listO (refs ads) np)∈r) (hpa:All2 (PairAt r) ads ps) (hf:∀ p∈ps,Fine p) (hn:ps.length≤100) (h0:All2 IsVal xs.toList vs0) (hvs:vs0.length≤9000) (ho:D0 w i o)
  (G:∀ xs' n2 o',All2 IsVal xs'.toList (vs0 ++ selV kk ps)→DT w pa o'→Q (.again (cT (C0 w B) 0 it acc D f c)) ⟨ch,(it,iterO a (i+1))::(acc,listO xs' n2)::(D,o')::(c,cellO (some (.str (S [kk]) t)))::l,r⟩) :
  HT (C0 w B) h₀ none 160 ⟨ch,(it,iterO a (i+1))::(acc,listO xs n')::(D,o)::(c,cellO (some (.str (S [kk]) t)))::l,r⟩ ((go (C0 w B) none 160 [1] (denZ (cT (C0 w B) 0 it acc D f c)) ⟨(it,iterO a i)::(acc,listO xs n')::(D,o)::(c,cellO (some (.str (S [kk]) t)))::l,r,b0,tk0,ch⟩).kont (.ok (.ret (.ref pa)))) Q (fun vz0 vz1=>False):=by
 refine HT.reads (r:=(pa,listO (refs ads) np)::r) (Sub.cons hpm (Sub.refl _)) ?_
 have key:∀ {b:Nat} {o1:Obj} {RR:Result→Sx→Prop},DT w pa o1→(∀ xs' n2 o',All2 IsVal xs'.toList (vs0 ++ selV kk ps)→DT w pa o'→RR (.ok .next) ⟨ch,(acc,listO xs' n2)::(D,o')::(c,cellO (some (.str (S [kk]) t)))::(it,iterO a (i+1))::l,r⟩) →
   HC (C0 w B) h₀ none 160 ⟨ch,(b,iterO pa 0)::(acc,listO xs n')::(D,o1)::(c,cellO (some (.str (S [kk]) t)))::(it,iterO a (i+1))::l,(pa,listO (refs ads) np)::r⟩ (cTS (C0 w B) 1 b acc D f c) RR :=
  fun {b o1 RR} ho1 hk=>HC.less (HC.reads (r:=r) Sub.tail (tab_inner N hpm hpa hf hn h0 hvs ho1 hk)) (by decide)
 have fin:True:=trivial
 rcases ho with ⟨rfl,rfl⟩ | ⟨_,pa',⟨u1,rfl⟩ | ⟨u1,u2,u3,v1,v2,rfl⟩⟩
 ·intro b tk
  (
   refine HTa.cutN N [5,5,5,2,2,1,2,1] [0,2,3,4,1] 5 [] (c:=cTS _ 1 b acc D f c) (l:=(b,iterO pa 0)::(acc,listO xs n')::(D,dT1 w tk pa)::(c,cellO (some (.str (S [kk]) t)))::(it,iterO a (0+1))::l) (r:=(pa,listO (refs ads) np)::r) (ch:=ch) (by exact Hab.two B (by kernel_rfl) (by kernel_rfl)) rfl (key (.inl ⟨_,rfl⟩) fun xs' n2 o' hx ho'=>?_)
   intro b tk
   exact HTa.val N [] [3,0,1,2] 4 [] (a:=PySem.Fin.again (cT _ 0 it acc D f c)) (l:=(it,iterO a (0+1))::(acc,listO xs' n2)::(D,o')::(c,cellO (some (.str (S [kk]) t)))::l) (r:=r) (ch:=ch) (by exact Hab.two B (by kernel_rfl) (by kernel_rfl)) rfl (G _ _ _ hx (ho')))
 ·intro b tk
  (
   refine HTa.cutN N [5,5,5,2,2,1,2,1] [0,2,3,4,1] 5 [] (c:=cTS _ 1 b acc D f c) (l:=(b,iterO pa 0)::(acc,listO xs n')::(D,dT1 w u1 pa)::(c,cellO (some (.str (S [kk]) t)))::(it,iterO a (i+1))::l) (r:=(pa,listO (refs ads) np)::r) (ch:=ch) (by exact Hab.two B (by kernel_rfl) (by kernel_rfl)) rfl (key (.inl ⟨_,rfl⟩) fun xs' n2 o' hx ho'=>?_)
   intro b tk
   exact HTa.val N [] [3,0,1,2] 4 [] (a:=PySem.Fin.again (cT _ 0 it acc D f c)) (l:=(it,iterO a (i+1))::(acc,listO xs' n2)::(D,o')::(c,cellO (some (.str (S [kk]) t)))::l) (r:=r) (ch:=ch) (by exact Hab.two B (by kernel_rfl) (by kernel_rfl)) rfl (G _ _ _ hx (ho')))
 ·intro b tk
  (
   refine HTa.cutN N [5,5,5,2,2,1,2,1] [0,2,3,4,1] 5 [] (c:=cTS _ 1 b acc D f c) (l:=(b,iterO pa 0)::(acc,listO xs n')::(D,dT3 w u1 pa u2 u3 v1 v2)::(c,cellO (some (.str (S [kk]) t)))::(it,iterO a (i+1))::l) (r:=(pa,listO (refs ads) np)::r) (ch:=ch) (by exact Hab.two B (by kernel_rfl) (by kernel_rfl)) rfl (key (.inr ⟨_,_,_,_,_,rfl⟩) fun xs' n2 o' hx ho'=>?_)
   intro b tk
   exact HTa.val N [] [3,0,1,2] 4 [] (a:=PySem.Fin.again (cT _ 0 it acc D f c)) (l:=(it,iterO a (i+1))::(acc,listO xs' n2)::(D,o')::(c,cellO (some (.str (S [kk]) t)))::l) (r:=r) (ch:=ch) (by exact Hab.two B (by kernel_rfl) (by kernel_rfl)) rfl (G _ _ _ hx (ho')))
end
section
variable {w:World} {B:Hab} {h₀:Heap} (N:NatOk (C0 w B) h₀) {f c D it a acc kk t:Nat} {l r:Memo} {ch:Ch} {R:Result→Sx→Prop}
theorem selVL_snoc {kk:Nat} {L:List (List KV)} {i:Nat} {ps:List KV} (h:L[i]? = some ps):selVL kk (L.take (i+1))=selVL kk (L.take i) ++ selV kk ps:=by
 unfold selVL
 rw [take_succ_get h,List.flatMap_append]
 simp
theorem selV_le (kk:Nat) (ps:List KV):(selV kk ps).length≤ps.length:=by
 unfold selV
 rw [List.length_map]
 exact List.length_filter_le _ _
theorem selVL_le (kk:Nat):∀ L:List (List KV),(∀ ps∈L,ps.length≤100)→(selVL kk L).length≤100 * L.length
 | [],_=>by simp [selVL]
 | ps::L,h=>by
  have h1:=selVL_le kk L fun q hq=>h q (.tail _ hq)
  have h2:=h ps (.head _)
  have h3:=selV_le kk ps
  unfold selVL at h1 ⊢
  rw [List.flatMap_cons,List.length_append,List.length_cons]
  lia
include N
theorem tab_comp {las:List Addr} {L:List (List KV)} {n:Nat} (hl:(a,listO (refs las) n)∈r) (hp:All2 (PairsAt r) las L) (hf:∀ ps∈L,ps.length≤100∧∀ p∈ps,Fine p) (hn:L.length≤50) (hne:0<L.length)
  (G:∀ xs n' pa o,All2 IsVal xs.toList (selVL kk L)→DT w pa o→R (.ok .next) ⟨ch,(acc,listO xs n')::(D,o)::(c,cellO (some (.str (S [kk]) t)))::l,r⟩) :
  HC (C0 w B) h₀ none 161 ⟨ch,(it,iterO a 0)::(acc,listO #[] 0)::(D,dictO #[] 0)::(c,cellO (some (.str (S [kk]) t)))::l,r⟩ (cTS (C0 w B) 0 it acc D f c) R:=by
 refine HC.tree (lv:=160) (w:=0) (by kernel_rfl) (tab_start0 N ?_)
 refine ⟨by kernel_rfl,?_⟩
 have hal:=hp.length
 refine HC.compList N (a:=a) (its:=refs las) (n:=n) (by kernel_rfl) (by kernel_rfl) (fun i y b tk=>by kernel_rfl)
  (fun i y=>∃ xs n' o,y=⟨ch,(acc,listO xs n')::(D,o)::(c,cellO (some (.str (S [kk]) t)))::l,r⟩∧All2 IsVal xs.toList (selVL kk (L.take i))∧D0 w i o) ?_ ?_ ?_ (y:=⟨ch,(acc,listO #[] 0)::(D,dictO #[] 0)::(c,cellO (some (.str (S [kk]) t)))::l,r⟩) ⟨#[],0,_,rfl,.nil,.inl ⟨rfl,rfl⟩⟩
 ·rintro i y ⟨xs,n',o,rfl,_,_⟩
  exact .inr hl
 ·rintro y ⟨xs,n',o,rfl,h,ho⟩
  rw [refs_size] at ho
  rcases ho with ⟨ho,_⟩ | ⟨_,pa,ho⟩
  ·lia
  have es:(lcT (C0 w B)) = .ListComp (eltOf (lcT (C0 w B))) [gen1 (lcT (C0 w B)),gen2 (lcT (C0 w B))] (scopeOf (lcT (C0 w B))) (lcPos (lcT (C0 w B))):=by kernel_rfl
  show HC _ _ _ _ _ (.compLoop (lcT (C0 w B)) 0 (.ref it) (.ref acc) (envT (C0 w B) D f c)) _
  rw [es]
  refine HC.compEnd (gen:=gen1 (lcT (C0 w B))) rfl (by kernel_rfl) (.inr hl) ?_
  rw [refs_size,hal,List.take_length] at h
  exact G _ _ _ _ h ho
 ·rintro i y v ⟨xs,n',o,rfl,h,ho⟩ hv b0 tk0
  refine el_EA (refs_get hv) fun pa hp1 hE2=>?_
  subst hE2
  obtain ⟨ps,hkv,ads,np,hpm,hpa⟩:=hp.get (a:=pa) hp1
  refine el_A (hf ps (List.mem_of_getElem? hkv)) fun hf1 hf2=>?_
  have hvs:(selVL kk (L.take i)).length≤9000:=by
   have h1:=selVL_le kk (L.take i) fun q hq=>(hf q (List.mem_of_mem_take hq)).1
   have h2:(L.take i).length≤50:=Nat.le_trans (List.length_take_le' _ _) hn
   lia
  refine tab_turn0 N hpm hpa hf2 hf1 h hvs ho fun xs' n2 o' hx ho'=>?_
  exact ⟨rfl,⟨ch,(acc,listO xs' n2)::(D,o')::(c,cellO (some (.str (S [kk]) t)))::l,r⟩,⟨_,_,_,rfl,by rw [selVL_snoc hkv];exact hx,.inr ⟨Nat.succ_pos _,_,ho'⟩⟩,rfl⟩
end
section
variable {w:World} {B:Hab} {h₀:Heap} (N:NatOk (C0 w B) h₀) {f c ls rs t1 t2 kk t:Nat} {l r:Memo} {ch:Ch} {Q:Flow→Sx→Prop}
noncomputable def LtF (w:World) (t1 ls t2 rs:Nat) (o:Obj):Prop:=o=frameO #[ent w nListsL t1 (.ref ls),ent w nRows t2 (.ref rs)] 2 ∨ ∃ t3 vp,o=frameO #[ent w nListsL t1 (.ref ls),ent w nRows t2 (.ref rs),ent w nValues t3 (.ref vp)] 3
include N
theorem tab_s0 {las:List Addr} {L:List (List KV)} {n:Nat} {o:Obj} (hl:(ls,listO (refs las) n)∈r) (hp:All2 (PairsAt r) las L) (hf:∀ ps∈L,ps.length≤100∧∀ p∈ps,Fine p) (hn:L.length≤50) (hne:0<L.length) (ho:LtF w t1 ls t2 rs o)
  (G:∀ xs n' vp t3,All2 IsVal xs.toList (selVL kk L)→Q .next ⟨ch,(vp,listO xs n')::(f,frameO #[ent w nListsL t1 (.ref ls),ent w nRows t2 (.ref rs),ent w nValues t3 (.ref vp)] 3)::(c,cellO (some (.str (S [kk]) t)))::l,r⟩) :
  HT (C0 w B) h₀ none 200 ⟨ch,(c,cellO (some (.str (S [kk]) t)))::(f,o)::l,r⟩ (execsZ [ltB (C0 w B) 0] (envLt (C0 w B) f c)) Q (fun vz0 vz1=>False):=by
 refine HT.reads (r:=(ls,listO (refs las) n)::r) (Sub.cons hl (Sub.refl _)) ?_
 have key:∀ {b:Nat} {l':Memo} {RR:Result→Sx→Prop},(∀ xs n' pa o',All2 IsVal xs.toList (selVL kk L)→DT w pa o'→RR (.ok .next) ⟨ch,(b+1,listO xs n')::(b+2,o')::(c,cellO (some (.str (S [kk]) t)))::l',r⟩)→HC (C0 w B) h₀ none 200 ⟨ch,(b,iterO ls 0)::(b+1,listO #[] 0)::(b+2,dictO #[] 0)::(c,cellO (some (.str (S [kk]) t)))::l',(ls,listO (refs las) n)::r⟩ (cTS (C0 w B) 0 b (b+1) (b+2) f c) RR :=
  fun {b l' RR} hk=>HC.less (HC.reads (r:=r) Sub.tail (tab_comp N hl hp hf hn hne hk)) (by decide)
 rcases ho with rfl | ⟨t3,vq,rfl⟩
 ·intro b tk
  (
   refine HTa.cutN N [3,2,2,1,2,1] [2,1,0,3] 4 [] (c:=cTS _ 0 b (b+1) (b+2) f c) (l:=(b,iterO ls 0)::(b+1,listO #[] 0)::(b+2,dictO #[] 0)::(c,cellO (some (.str (S [kk]) t)))::(f,frameO #[ent w nListsL t1 (.ref ls),ent w nRows t2 (.ref rs)] 2)::l) (r:=(ls,listO (refs las) n)::r) (ch:=ch) (by exact Hab.two B (by kernel_rfl) (by kernel_rfl)) rfl (key fun ys n2 pa o' hy ho'=>?_)
   rcases ho' with ⟨w1,rfl⟩ | ⟨w1,w2,w3,x1,x2,rfl⟩
   ·intro b2 tk2
    exact HTa.val N [7,7,3,3,3,3,3] [0,3,2] 4 [] (a:=.next) (l:=(b+1,listO ys n2)::(f,frameO #[ent w nListsL t1 (.ref ls),ent w nRows t2 (.ref rs),ent w nValues tk2 (.ref (b+1))] 3)::(c,cellO (some (.str (S [kk]) t)))::l) (r:=r) (ch:=ch) (by exact Hab.two B (by kernel_rfl) (by kernel_rfl)) rfl (G _ _ _ _ hy)
   ·intro b2 tk2
    exact HTa.val N [7,7,3,3,3,3,3,3,3,3,3,3,3,3,3,3] [0,3,2] 4 [] (a:=.next) (l:=(b+1,listO ys n2)::(f,frameO #[ent w nListsL t1 (.ref ls),ent w nRows t2 (.ref rs),ent w nValues tk2 (.ref (b+1))] 3)::(c,cellO (some (.str (S [kk]) t)))::l) (r:=r) (ch:=ch) (by exact Hab.two B (by kernel_rfl) (by kernel_rfl)) rfl (G _ _ _ _ hy))
 ·intro b tk
  (
   refine HTa.cutN N [3,2,2,1,2,1] [2,1,0,3] 4 [] (c:=cTS _ 0 b (b+1) (b+2) f c) (l:=(b,iterO ls 0)::(b+1,listO #[] 0)::(b+2,dictO #[] 0)::(c,cellO (some (.str (S [kk]) t)))::(f,frameO #[ent w nListsL t1 (.ref ls),ent w nRows t2 (.ref rs),ent w nValues t3 (.ref vq)] 3)::l) (r:=(ls,listO (refs las) n)::r) (ch:=ch) (by exact Hab.two B (by kernel_rfl) (by kernel_rfl)) rfl (key fun ys n2 pa o' hy ho'=>?_)
   rcases ho' with ⟨w1,rfl⟩ | ⟨w1,w2,w3,x1,x2,rfl⟩
   ·intro b2 tk2
    exact HTa.val N [7,7,3,3,3,3,3] [0,3,2] 4 [] (a:=.next) (l:=(b+1,listO ys n2)::(f,frameO #[ent w nListsL t1 (.ref ls),ent w nRows t2 (.ref rs),ent w nValues t3 (.ref (b+1))] 3)::(c,cellO (some (.str (S [kk]) t)))::l) (r:=r) (ch:=ch) (by exact Hab.two B (by kernel_rfl) (by kernel_rfl)) rfl (G _ _ _ _ hy)
   ·intro b2 tk2
    exact HTa.val N [7,7,3,3,3,3,3,3,3,3,3,3,3,3,3,3] [0,3,2] 4 [] (a:=.next) (l:=(b+1,listO ys n2)::(f,frameO #[ent w nListsL t1 (.ref ls),ent w nRows t2 (.ref rs),ent w nValues t3 (.ref (b+1))] 3)::(c,cellO (some (.str (S [kk]) t)))::l) (r:=r) (ch:=ch) (by exact Hab.two B (by kernel_rfl) (by kernel_rfl)) rfl (G _ _ _ _ hy))
end
section
variable {C:Cfg} {h₀:Heap} {hd:Option Value} {lv:Nat} {x:Sx} {E:Value→Sx→Prop}
theorem HT.and2 {e1 e2:PySem.Expr} {pos:Pos} {whole:Sem Value} {env:PySem.Env} {Q:Bool→Sx→Prop}
  (H:HT C h₀ hd lv x (isTrueZ e1 env (evalZ e1 env)) (fun b x1=>match b with
   | true=>HT C h₀ hd lv x1 (isTrueZ e2 env (evalZ e2 env)) Q E
   | false=>Q false x1) E):HT C h₀ hd lv x (isTrueZ (.BoolOp .And [e1,e2] pos) env whole) Q E:=by
 rw [←isTrueZ_eq,←evalZ_eq] at H
 rw [←isTrueZ_eq]
 refine HT.lib fun A g d os b tk h K D=>?_
 refine wpAny_isTrue_BoolOp (wpAny_allTrue_And_cons (wpAny_mono (H b tk A g d os h K D) ?_ (fun vz0 vz1 q=>q)))
 intro bb s hZ0
 refine el_EA hZ0 fun x1 hZ1 T1=>?_
 try clear hZ0
 obtain ⟨b1,tk1,h1,hE2,D1⟩:=hZ1
 subst hE2
 cases bb with
 | false=>exact ⟨x1,⟨b1,tk1,h1,rfl,D1⟩,T1⟩
 | true =>
  show wpAny _ A (allTrue .And [e2] env) _ _ _
  refine wpAny_allTrue_And_cons (wpAny_mono (T1 b1 tk1 A g d os h1 K D1) ?_ (fun vz0 vz1 q=>q))
  rintro bb s q
  cases bb with
  | false=>exact q
  | true=>exact wpAny_allTrue_And_nil q
end
section
variable {C:Cfg} {h₀:Heap} {hd:Option Value} {lv:Nat} {x:Sx} {E:Value→Sx→Prop}
theorem HT.ifS' {st:Stmt} {orelse:List Stmt} {env:PySem.Env} {Q:Flow→Sx→Prop} (e:IsIf st orelse)
  (H:HT C h₀ hd lv x (isTrueZ (ifTest st) env (evalZ (ifTest st) env)) (fun b x'=>HT C h₀ hd lv x' (execsZ (if b then ifBody st else orelse) env) Q E) E):HT C h₀ hd lv x (execsZ [st] env) Q E :=
 HT.ofEq (congrArg (fun s=>execsZ [s] env) e) (HT.ifS H)
theorem HT.and2' {e e1 e2:PySem.Expr} {whole:Sem Value} {env:PySem.Env} {Q:Bool→Sx→Prop} (he:IsAnd2 e e1 e2)
  (H:HT C h₀ hd lv x (isTrueZ e1 env (evalZ e1 env)) (fun b x1=>match b with
   | true=>HT C h₀ hd lv x1 (isTrueZ e2 env (evalZ e2 env)) Q E
   | false=>Q false x1) E):HT C h₀ hd lv x (isTrueZ e env whole) Q E :=
 HT.ofEq (congrArg (fun s=>isTrueZ s env whole) he) (HT.and2 H)
theorem HT.test1' {e op} {env:PySem.Env} {whole:Sem Value} {Q:Bool→Sx→Prop} (he:IsCmp e op) (hm:behindInMarks op (cmpR e)=false)
  (H:HT C h₀ hd lv x (evalZ (cmpL e) env) (fun a x1=>HT C h₀ hd lv x1 (evalZ (cmpR e) env) (fun b x2=>HT C h₀ hd lv x2 (compareOp op a b) (fun c x3=>∃ v,c = .bool v∧Q v x3) E) E) E):HT C h₀ hd lv x (isTrueZ e env whole) Q E :=
 HT.ofEq (congrArg (fun s=>isTrueZ s env whole) he) (HT.test1 hm H)
theorem HT.compare1' {e op} {env:PySem.Env} {Q:Value→Sx→Prop} (he:IsCmp e op) (hm:behindInMarks op (cmpR e)=false)
  (H:HT C h₀ hd lv x (evalZ (cmpL e) env) (fun a x1=>HT C h₀ hd lv x1 (evalZ (cmpR e) env) (fun b x2=>HT C h₀ hd lv x2 (compareOp op a b) Q E) E) E):HT C h₀ hd lv x (evalZ e env) Q E :=
 HT.ofEq (congrArg (fun s=>evalZ s env) he) (HT.compare1 hm H)
theorem HT.isNotNone {v:Value} {Q:Value→Sx→Prop} (G:Q (.bool (!(v == .none))) x):HT C h₀ hd lv x (compareOp .IsNot v .none) Q E :=
 HT.lib fun A g d os b tk h K D=>isNot_none ⟨x,⟨b,tk,h,rfl,D⟩,G⟩
end
noncomputable def lastV (vs:List Nat):Option Nat:=match vs.getLast? with
 | some v=>if v=5 then none else some v
 | none=>none
theorem vals_reads {h:Heap} {vs:List Value} {ns:List Nat} (H:All2 IsVal vs ns):∃ as,ReadsAll h vs (ns.map vD) as:=by
 induction H with
 | nil=>exact ⟨_,.nil⟩
 | cons p r ih =>
  refine el_E p fun t e=>?_
  subst e
  refine el_E ih fun as r=>?_
  exact ⟨_,.cons (vD_reads h t _) r⟩
theorem lay_vs (ns:List Nat):PyData.canLay0 (.list (ns.map vD))=true:=by
 rw [PyData.canLay0]
 exact lay_all fun d hd=>by obtain ⟨p,_,rfl⟩:=List.mem_map.mp hd;exact lay_vD p
theorem depth_vs (ns:List Nat):(PyData.list (ns.map vD)).depth≤1:=by
 rw [PyData.depth]
 exact Nat.succ_le_succ (depth_all fun d hd=>by obtain ⟨p,_,rfl⟩:=List.mem_map.mp hd;exact Nat.le_of_eq (depth_vD p))
theorem eqv_empty (ns:List Nat):PyData.eqv (.list (ns.map vD)) (.list [])=ns.isEmpty:=by
 cases ns with
 | nil=>rfl
 | cons n ns=>rfl
theorem vV_isNone {v:Nat} (hv:v<6) (t:Tok):(vV v t == .none)=decide (v=5):=by
 rcases lt6 (by assumption:v<6) with rfl | rfl | rfl | rfl | rfl | rfl <;> rfl
noncomputable abbrev ltT (C:Cfg) (i:Nat):PySem.Expr:=andAt (ifTest (ltB C 1)) i
noncomputable abbrev frLt (w:World) (t1 ls t2 rs t3 vp:Nat):Obj:=frameO #[ent w nListsL t1 (.ref ls),ent w nRows t2 (.ref rs),ent w nValues t3 (.ref vp)] 3
theorem All2.getR {α β:Type} {P:α→β→Prop}:∀ {as:List α} {bs:List β} {i:Nat} {b:β},All2 P as bs→bs[i]? = some b→∃ a,as[i]? = some a∧P a b
 | _,_,0,_,.cons p _,h=>by cases h;exact ⟨_,rfl,p⟩
 | _,_,i+1,_,.cons _ r,h=>All2.getR (i:=i) r h
section
variable {w:World} {B:Hab} {h₀:Heap} (N:NatOk (C0 w B) h₀) {f c ls rs t1 t2 t3 kk t vp e e2:Nat} {xs rows:Array Value} {l r:Memo} {ch:Ch} {Q:Flow→Sx→Prop}
include N
theorem tab_s1 {vs:List Nat} (hx:All2 IsVal xs.toList vs) (hv:∀ v∈vs,v<6) (hz:rows.size≤100)
  (G:∀ rows' e' r',Sub r r'→(match lastV vs with | none=>rows'=rows | some v=>∃ p t u,rows'=rows.push (.ref p)∧(p,pairO kk v t u)∈r')→Q .next ⟨ch,(f,frLt w t1 ls t2 rs t3 vp)::(c,cellO (some (.str (S [kk]) t)))::(rs,listO rows' e')::l,r'⟩) :
  HT (C0 w B) h₀ none 200 ⟨ch,(vp,listO xs e)::(f,frLt w t1 ls t2 rs t3 vp)::(c,cellO (some (.str (S [kk]) t)))::(rs,listO rows e2)::l,r⟩ (execsZ [ltB (C0 w B) 1] (envLt (C0 w B) f c)) Q (fun vz0 vz1=>False):=by
 have e1:IsIf (ltB (C0 w B) 1) []:=by kernel_rfl
 have e2':IsAnd2 (ifTest (ltB (C0 w B) 1)) (ltT (C0 w B) 0) (ltT (C0 w B) 1):=by kernel_rfl
 have e3:IsCmp (ltT (C0 w B) 0) .NotEq:=by kernel_rfl
 have e4:IsCmp (ltT (C0 w B) 1) .IsNot:=by kernel_rfl
 refine HT.ifS' e1 (HT.and2' e2' (HT.test1' e3 (by kernel_rfl) ?_))
 refine HT.val0 N [3] (a:=.ref vp) (by kernel_rfl) ?_
 intro b tk
 refine HTa.val N [] [0,1,2,3,4] 5 [] (a:=.ref b) (l:=(b,listO #[] 0)::(vp,listO xs e)::(f,frLt w t1 ls t2 rs t3 vp)::(c,cellO (some (.str (S [kk]) t)))::(rs,listO rows e2)::l) (r:=r) (ch:=ch) (by kernel_rfl) rfl ?_
 refine HT.neData (da:=.list (vs.map vD)) (db:=.list []) (fun bb tk h D=>?_) (fun bb tk h D=>?_) (lay_vs _) (by kernel_rfl) (Nat.le_trans (depth_vs _) (by decide)) ?_
 ·refine el_E (vals_reads (h:=h) hx) fun as ra=>?_
  exact ⟨_,.list (D.mem _ (.tail _ (.head _))) rfl rfl ra⟩
 ·exact ⟨_,.list (D.mem _ (.head _)) rfl rfl .nil⟩
 refine ⟨_,rfl,?_⟩
 rw [eqv_empty]
 cases hl:vs.getLast? with
 | none =>
  have hvs:vs=[]:=List.getLast?_eq_none_iff.mp hl
  subst hvs
  refine HT.choose (il:=[2,3,4]) (k:=5) (ir:=[]) rfl ?_
  refine HT.execs_nil (G rows e2 r (Sub.refl _) ?_)
  exact rfl
 | some v =>
  have hne:vs.isEmpty=false:=by cases vs with | nil=>cases hl | cons _ _=>rfl
  have hlast:vs[vs.length - 1]? = some v:=by rw [←List.getLast?_eq_getElem?];exact hl
  have hv6:v<6:=hv v (List.mem_of_getElem? hlast)
  refine el_EAE (hx.getR hlast) fun vx hvx u hE3=>?_
  subst hE3
  have hlen:=hx.length
  rw [Array.length_toList] at hlen
  rw [Array.getElem?_toList,←hlen] at hvx
  rw [hne]
  refine HT.choose (il:=[1,2,3,4]) (k:=5) (ir:=[]) rfl ?_
  show HT _ _ _ _ ⟨ch,(vp,listO xs e)::(f,frLt w t1 ls t2 rs t3 vp)::(c,cellO (some (.str (S [kk]) t)))::(rs,listO rows e2)::l,r⟩ _ _ _
  refine HT.test1' e4 (by kernel_rfl) ?_
  have hG:∀ rows' e' r',Sub r r'→(if v=5 then rows'=rows else ∃ p t u,rows'=rows.push (.ref p)∧(p,pairO kk v t u)∈r')→Q .next ⟨ch,(f,frLt w t1 ls t2 rs t3 vp)::(c,cellO (some (.str (S [kk]) t)))::(rs,listO rows' e')::l,r'⟩:=by
   intro rows' e' r' hr h
   refine G rows' e' r' hr ?_
   unfold lastV
   rw [hl]
   by_cases h5:v=5
   ·rw [if_pos h5] at h;simp only [h5,if_true];exact h
   ·rw [if_neg h5] at h;simp only [h5,if_false];exact h
  clear G
  have eN:=vV_isNone hv6 u
  generalize hV:vV v u=vx at hvx eN
  have body:v≠5→HT (C0 w B) h₀ none 200 ⟨ch,(vp,listO xs e)::(f,frLt w t1 ls t2 rs t3 vp)::(c,cellO (some (.str (S [kk]) t)))::(rs,listO rows e2)::l,r⟩ (execsZ (ifBody (ltB (C0 w B) 1)) (envLt (C0 w B) f c)) Q (fun vz0 vz1=>False):=by
   intro h5 b tk
   obtain ⟨X,hX⟩:∃ X,vx = .str X u:=by
    rw [←hV]
    rcases lt5 (by lia:v<5) with rfl | rfl | rfl | rfl | rfl <;> exact ⟨_,rfl⟩
   subst hX
   have key:∀ {p:Nat} {k:Result→Sem Flow},(∀ b tk,HTa (C0 w B) h₀ none 200 ⟨(rs,listO (rows.push (.ref p)) (e2+1))::(f,frLt w t1 ls t2 rs t3 vp)::(c,cellO (some (.str (S [kk]) t)))::l,(p,tupO #[.str (S [kk]) t,(.str X u)])::r,b,tk,ch⟩ (k (.ok (.ret .none))) (fun fl x=>fl = .next∧∃ r',Sub r r'∧(p,tupO #[.str (S [kk]) t,(.str X u)])∈r'∧x=⟨ch,(f,frLt w t1 ls t2 rs t3 vp)::(c,cellO (some (.str (S [kk]) t)))::(rs,listO (rows.push (.ref p)) (e2+1))::l,r'⟩) (fun vz0 vz1=>False))→HC (C0 w B) h₀ none 200 ⟨ch,(rs,listO rows e2)::(f,frLt w t1 ls t2 rs t3 vp)::(c,cellO (some (.str (S [kk]) t)))::l,(p,tupO #[.str (S [kk]) t,(.str X u)])::r⟩ (.call (.builtin "list.append") ⟨[.ref rs,.ref p],[]⟩) (fun r x=>HT (C0 w B) h₀ none 200 x (k r) Q (fun vz0 vz1=>False)):=by
    intro p k hk
    refine HC.append (by rw [sizeLine_eq];lia) ?_
    intro b tk
    refine HTa.mono (hk b tk) ?_ (fun vz0 vz1 q=>q)
    rintro fl x ⟨rfl,r',hr,hp,rfl⟩
    refine hG _ _ _ hr ?_
    rw [if_neg h5]
    refine ⟨p,t,u,rfl,?_⟩
    show (p,tupO #[.str (S [kk]) t,vV v u])∈r'
    rw [hV];exact hp
   (
    refine HTa.cutN N [3,7,7,7,7,5,3,1,1,1,1] [0,1,2,3] 4 [] (c:=.call (.builtin "list.__getitem__") ⟨[.ref vp,.int (-1) (tk+1)],[]⟩) (l:=(vp,listO xs e)::(f,frLt w t1 ls t2 rs t3 vp)::(c,cellO (some (.str (S [kk]) t)))::(rs,listO rows e2)::l) (r:=r) (ch:=ch) (by kernel_rfl) rfl ?_
    refine HC.getLast (.inl (.head _)) hvx ?_
    intro b2 tk2
    refine HTa.cut N [] [4,2,3] 5 [0] (c:=.call (.builtin "list.append") ⟨[.ref rs,.ref b2],[]⟩) (l:=(rs,listO rows e2)::(f,frLt w t1 ls t2 rs t3 vp)::(c,cellO (some (.str (S [kk]) t)))::l) (r:=(b2,tupO #[.str (S [kk]) t,.str X u])::r) (ch:=ch) (by kernel_rfl) rfl (by intro h;cases h) (key ?_)
    intro b3 tk3
    exact HTa.val N [] [1,2,0] 3 [] (a:=.next) (l:=(f,frLt w t1 ls t2 rs t3 vp)::(c,cellO (some (.str (S [kk]) t)))::(rs,listO (rows.push (.ref b2)) (e2+1))::l) (r:=(b2,tupO #[.str (S [kk]) t,.str X u])::r) (ch:=ch) (by kernel_rfl) rfl ⟨rfl,_,Sub.tail,.head _,rfl⟩)
  (
   intro b tk
   refine HTa.cutN N [3,1,1,1,1] [0,1,2,3] 4 [] (c:=.call (.builtin "list.__getitem__") ⟨[.ref vp,.int (-1) (tk+1)],[]⟩) (l:=(vp,listO xs e)::(f,frLt w t1 ls t2 rs t3 vp)::(c,cellO (some (.str (S [kk]) t)))::(rs,listO rows e2)::l) (r:=r) (ch:=ch) (by kernel_rfl) rfl ?_
   refine HC.getLast (.inl (.head _)) hvx ?_
   refine HT.val0 N [] (a:=vx) (by kernel_rfl) ?_
   refine HT.val0 N [] (a:=.none) (by kernel_rfl) ?_
   refine HT.isNotNone ⟨_,rfl,?_⟩
   rw [eN]
   by_cases h5:v=5
   ·rw [decide_eq_true h5]
    refine HT.choose (il:=[1,2,3]) (k:=4) (ir:=[]) rfl (HT.execs_nil (hG rows e2 r (Sub.refl _) ?_))
    rw [if_pos h5]
   ·rw [decide_eq_false h5]
    exact body h5)
end
noncomputable def keysL:List Nat:=[2,0,1,3]
noncomputable def rowK (L:List (List KV)) (k:Nat):Option KV:=(lastV (selVL (kc k) L)).map fun v=>(k,v)
noncomputable def tableL (L:List (List KV)):List KV:=keysL.filterMap (rowK L)
noncomputable abbrev its4 (t:Nat):Array Value:=#[.str (S [67]) t,.str (S [97]) (t+1),.str (S [98]) (t+2),.str (S [100]) (t+3)]
theorem its4_get {t i:Nat} {v:Value} (h:(its4 t)[i]? = some v):∃ k u,keysL[i]? = some k∧v = .str (S [kc k]) u:=by
 match i,h with
 | 0,h=>cases h;exact ⟨_,_,rfl,rfl⟩
 | 1,h=>cases h;exact ⟨_,_,rfl,rfl⟩
 | 2,h=>cases h;exact ⟨_,_,rfl,rfl⟩
 | 3,h=>cases h;exact ⟨_,_,rfl,rfl⟩
theorem selV_fine {kk:Nat} {ps:List KV} (h:∀ p∈ps,Fine p):∀ v∈selV kk ps,v<6:=by
 intro v hv
 refine el_EA (List.mem_map.mp hv) fun p hp hE2=>?_
 subst hE2
 exact (h p (List.mem_filter.mp hp).1).2
theorem selVL_fine {kk:Nat} {L:List (List KV)} (h:∀ ps∈L,ps.length≤100∧∀ p∈ps,Fine p):∀ v∈selVL kk L,v<6:=by
 intro v hv
 refine el_EA (List.mem_flatMap.mp hv) fun ps hps hv=>?_
 exact selV_fine (h ps hps).2 v hv
section
variable {C:Cfg} {h₀:Heap} {hd:Option Value} {lv:Nat} {x:Sx} {E:Value→Sx→Prop}
theorem HT.post {α:Type} {t:Sem α} {Q:α→Sx→Prop} (H:HT C h₀ hd lv x t (fun a y=>∃ il k ir,okSel il ir k=true∧Q a ⟨y.ch,selL il k y.l,choos ir y.l ++ y.r⟩) E):HT C h₀ hd lv x t Q E:=by
 intro b tk A g d os h K D
 refine wpAny_mono (H b tk A g d os h K D) ?_ (fun vz0 vz1 q=>q)
 intro a s hZ0
 refine el_EA hZ0 fun y S q=>?_
 refine el_EEEA q fun il k ir ok q=>?_
 obtain ⟨b',tk',h',e,D'⟩:=S
 exact ⟨_,⟨b',tk',h',e,D'.choose ok _ rfl _⟩,q⟩
theorem HC.post {c:Code} {R:Result→Sx→Prop} (H:HC C h₀ hd lv x c (fun a y=>∃ il k ir,okSel il ir k=true∧R a ⟨y.ch,selL il k y.l,choos ir y.l ++ y.r⟩)):HC C h₀ hd lv x c R:=fun b tk A g d os h K D =>
 codeAny_mono (H b tk A g d os h K D) (fun a s ⟨y,⟨b',tk',h',e,D'⟩,il,k,ir,ok,q⟩=>⟨_,⟨b',tk',h',e,D'.choose ok _ rfl _⟩,q⟩)
end
section
variable {w:World} {B:Hab} {h₀:Heap} (N:NatOk (C0 w B) h₀) {f c ls rs t1 t2 t3 kk t vp e e2:Nat} {xs rows:Array Value} {l r:Memo} {ch:Ch}
theorem ltBody:forBody (forLt (C0 w B))=[ltB (C0 w B) 0,ltB (C0 w B) 1]:=by kernel_rfl
theorem stmtsLt:stmts (C0 w B) 148=[nthS (stmts (C0 w B) 148) 0,forLt (C0 w B),nthS (stmts (C0 w B) 148) 2]:=by kernel_rfl
include N
theorem tab_for {las:List Addr} {L:List (List KV)} {n:Nat} {Q:Flow→Sx→Prop} (hl:(ls,listO (refs las) n)∈r) (hp:All2 (PairsAt r) las L) (hf:∀ ps∈L,ps.length≤100∧∀ p∈ps,Fine p) (hn:L.length≤50) (hne:0<L.length)
  (G:∀ ads e r' fr cv,Sub r r'→All2 (PairAt r') ads (tableL L)→LtF w t1 ls t2 rs fr→Q .next ⟨ch,(f,fr)::(c,cellO cv)::(rs,listO (refs ads) e)::l,r'⟩) :
  HT (C0 w B) h₀ none 200 ⟨ch,(f,frameO #[ent w nListsL t1 (.ref ls),ent w nRows t2 (.ref rs)] 2)::(c,cellO none)::(rs,listO #[] 0)::l,r⟩ (execsZ [forLt (C0 w B)] (envLt (C0 w B) f c)) Q (fun vz0 vz1=>False):=by
 intro b tk
 have key:∀ {k:Result→Sem Flow},(∀ y b tk,HTa (C0 w B) h₀ none 200 ⟨y.l,y.r,b,tk,y.ch⟩ (k (.ok .next)) (fun fl x=>fl = .next∧x=y) (fun vz0 vz1=>False)) →
   HC (C0 w B) h₀ none 200 ⟨ch,(b+1,iterO b 0)::(f,frameO #[ent w nListsL t1 (.ref ls),ent w nRows t2 (.ref rs)] 2)::(c,cellO none)::(rs,listO #[] 0)::l,(b,listO (its4 tk) 0)::r⟩ (loopOf (forLt (C0 w B)) (.ref (b+1)) (envLt (C0 w B) f c)) (fun r x=>HT (C0 w B) h₀ none 200 x (k r) Q (fun vz0 vz1=>False)):=by
  intro k hk
  have e:loopOf (forLt (C0 w B)) (.ref (b+1)) (envLt (C0 w B) f c) = .forLoop (forTarget (forLt (C0 w B))) (.ref (b+1)) (forBody (forLt (C0 w B))) [] (envLt (C0 w B) f c):=by kernel_rfl
  rw [e]
  refine HC.forList (y:=⟨ch,(f,frameO #[ent w nListsL t1 (.ref ls),ent w nRows t2 (.ref rs)] 2)::(c,cellO none)::(rs,listO #[] 0)::l,(b,listO (its4 tk) 0)::r⟩) (a:=b) (n:=0) (its:=its4 tk)
   (fun i y=>∃ ads e r' fr cv,y=⟨ch,(f,fr)::(c,cellO cv)::(rs,listO (refs ads) e)::l,r'⟩∧Sub ((b,listO (its4 tk) 0)::r) r'∧All2 (PairAt r') ads ((keysL.take i).filterMap (rowK L))∧LtF w t1 ls t2 rs fr) ?_ ?_ ?_ ⟨[],0,_,_,none,rfl,Sub.refl _,.nil,.inl rfl⟩
  ·intro i y hZ0
   refine el_EEEEEAAA hZ0 fun ads e r' fr cv hE1 hr vz0 vz1=>?_
   try clear hZ0
   subst hE1
   exact .inr (hr _ (.head _))
  ·intro y hZ0
   refine el_EEEEEAAA hZ0 fun ads e r' fr cv hE1 hr ha hfr=>?_
   try clear hZ0
   subst hE1
   intro b2 tk2
   refine HTa.mono (hk _ b2 tk2) ?_ (fun vz0 vz1 q=>q)
   intro fl x hZ0
   refine el_A hZ0 fun hE1 hE2=>?_
   try clear hZ0
   subst hE1
   subst hE2
   exact G _ _ _ _ _ (fun q hq=>hr q (.tail _ hq)) ha hfr
  ·intro i y v hZ0 hv
   refine el_EEEEEAAA hZ0 fun ads e r' fr cv hE1 hr ha hfr=>?_
   try clear hZ0
   subst hE1
   refine el_EEA (its4_get hv) fun k u hk1 hE3=>?_
   subst hE3
   refine HT.val0 N [] (a:=()) (by kernel_rfl) ?_
   intro b3 tk3
   refine HTa.val N [5,5] [2,1,0,3] 4 [] (a:=()) (l:=(c,cellO (some (.str (S [kc k]) u)))::(f,fr)::(b+1,iterO b (i+1))::(rs,listO (refs ads) e)::l) (r:=r') (ch:=ch) (by kernel_rfl) rfl ?_
   rw [ltBody]
   refine HT.execs_cons ?_
   have hr':Sub r r':=fun q hq=>hr q (.tail _ hq)
   refine tab_s0 N (hr' _ hl) (hp.mono fun vz0 vz1=>PairsAt.mono hr') hf hn hne hfr fun xs n' vp t3 hx=>?_
   refine HT.choose (il:=[0,1,2,4,3]) (k:=5) (ir:=[]) rfl ?_
   show HT _ _ _ _ ⟨ch,(vp,listO xs n')::(f,frLt w t1 ls t2 rs t3 vp)::(c,cellO (some (.str (S [kc k]) u)))::(rs,listO (refs ads) e)::(b+1,iterO b (i+1))::l,r'⟩ _ _ _
   have hal:=ha.length
   have hlen:ads.length≤4:=by
    rw [hal]
    exact Nat.le_trans (List.length_filterMap_le _ _) (Nat.le_trans (List.length_take_le' _ _) (by decide))
   have hsnoc:(keysL.take (i+1)).filterMap (rowK L)=(keysL.take i).filterMap (rowK L) ++ (rowK L k).toList:=by
    rw [take_succ_get hk1,List.filterMap_append]
    congr 1
   refine HT.post (tab_s1 N hx (selVL_fine hf) (by rw [refs_size];lia) fun rows' e' r2 hr2 hrow=>?_)
   have hr3:Sub r' r2:=hr2
   refine ⟨[3,0,1,2],4,[],rfl,⟨ch,(f,frLt w t1 ls t2 rs t3 vp)::(c,cellO (some (.str (S [kc k]) u)))::(rs,listO rows' e')::l,r2⟩,?_,rfl⟩
   have hk2:(rowK L k).toList=match lastV (selVL (kc k) L) with | none=>[] | some v=>[(k,v)]:=by
    unfold rowK
    cases lastV (selVL (kc k) L) <;> rfl
   cases hlv:lastV (selVL (kc k) L) with
   | none =>
    rw [hlv] at hrow hk2
    subst hrow
    exact ⟨ads,_,_,_,_,rfl,hr.trans hr2,by rw [hsnoc,hk2,List.append_nil];exact ha.mono fun vz0 vz1=>PairAt.mono hr2,.inr ⟨_,_,rfl⟩⟩
   | some v =>
    rw [hlv] at hrow hk2
    refine el_EEEA hrow fun p t' u' hE3 hpm=>?_
    try clear hrow
    subst hE3
    exact ⟨ads ++ [p],_,_,_,_,by rw [refs_push],hr.trans hr2,by rw [hsnoc,hk2];exact (ha.mono fun vz0 vz1=>PairAt.mono hr2).snoc ⟨t',u',hpm⟩,.inr ⟨_,_,rfl⟩⟩
 (
  refine HTa.cut N [1,1,1,1,1] [0,2,3,4] 5 [1] (c:=loopOf (forLt _) (.ref (b+1)) (envLt _ f c)) (l:=(b+1,iterO b 0)::(f,frameO #[ent w nListsL t1 (.ref ls),ent w nRows t2 (.ref rs)] 2)::(c,cellO none)::(rs,listO #[] 0)::l) (r:=(b,listO (its4 tk) 0)::r) (ch:=ch) (by exact Hab.two B (by kernel_rfl) (by kernel_rfl)) rfl (by intro h;cases h) (key fun y b' tk'=>?_)
  exact HTa.val N [] [] 0 [] (a:=.next) (l:=y.l) (r:=y.r) (ch:=y.ch) (by exact Hab.two B (by kernel_rfl) (by kernel_rfl)) rfl ⟨rfl,rfl⟩)
end
section
variable {w:World} {B:Hab} {h₀:Heap} (N:NatOk (C0 w B) h₀) {ls:Nat} {l r:Memo} {ch:Ch}
include N
theorem tab_call {L:List (List KV)} {R:Result→Sx→Prop} (hp:ListsAt r ls L) (hf:∀ ps∈L,ps.length≤100∧∀ p∈ps,Fine p) (hn:L.length≤50) (hne:0<L.length)
  (G:∀ a r',Sub r r'→PairsAt r' a (tableL L)→R (.ok (.ret (.ref a))) ⟨ch,l,r'⟩):HC (C0 w B) h₀ none 202 ⟨ch,l,r⟩ (.call (.ref 148) ⟨[.ref ls],[]⟩) R:=by
 obtain ⟨las,n,hl,hal⟩:=hp
 refine HC.enter N (lv:=201) (o:=topObj (C0 w B) 148) [0,3,3] [1,0] 2 [] 0 (by kernel_rfl) (by kernel_rfl) fun b tk=>?_
 refine ⟨envLt (C0 w B) b (b+1),(b,frameO #[ent w nListsL tk (.ref ls)] 1)::(b+1,cellO none)::l,r,ch,by kernel_rfl,rfl,?_⟩
 have e:bodyCode (fdAt (some (topObj (C0 w B) 148))) (envLt (C0 w B) b (b+1)) = .func (stmts (C0 w B) 148) (envLt (C0 w B) b (b+1)):=by kernel_rfl
 rw [e]
 refine HC.func (lv:=200) ?_
 rw [stmtsLt]
 refine HT.execs_cons ?_
 intro b2 tk2
 refine HTa.val N [3,3] [1,2,0] 3 [] (a:=.next) (l:=(b,frameO #[ent w nListsL tk (.ref ls),ent w nRows tk2 (.ref b2)] 2)::(b+1,cellO none)::(b2,listO #[] 0)::l) (r:=r) (ch:=ch) (by kernel_rfl) rfl ?_
 refine HT.execs_cons ?_
 refine tab_for N hl hal hf hn hne fun ads e r' fr cv hr ha hfr=>?_
 intro b3 tk3
 rcases hfr with rfl | ⟨t3,vp,rfl⟩
 ·refine HTa.val N [1] [] 3 [2] (a:=.ret (.ref b2)) (l:=l) (r:=(b2,listO (refs ads) e)::r') (ch:=ch) (by kernel_rfl) rfl ?_
  exact G _ _ (hr.trans Sub.tail) ⟨ads,e,.head _,ha.mono fun vz0 vz1=>PairAt.mono Sub.tail⟩
 ·refine HTa.val N [1] [] 3 [2] (a:=.ret (.ref b2)) (l:=l) (r:=(b2,listO (refs ads) e)::r') (ch:=ch) (by kernel_rfl) rfl ?_
  exact G _ _ (hr.trans Sub.tail) ⟨ads,e,.head _,ha.mono fun vz0 vz1=>PairAt.mono Sub.tail⟩
end
theorem slice1 (las:List Addr):slicePick (refs las) none (some 1) none=refs (las.take 1):=by
 have h:=slicePick_upto' (refs las) 1
 show slicePick (refs las) none (some ((1:Nat):Int)) none=_
 rw [h]
 simp [refs]
noncomputable abbrev frA (w:World) (t1 sc t2 ls t3:Nat) (vh:Value) (t4 rd:Nat):Obj:=frameO #[ent w nScript t1 (.ref sc),ent w nListsL t2 (.ref ls),ent w nHeader t3 vh,ent w nRead t4 (.ref rd)] 4
noncomputable abbrev cellN:Obj:=cellO none
noncomputable abbrev cellR (a:Nat):Obj:=cellO (some (.ref a))
section
variable {w:World} {B:Hab} {h₀:Heap} (N:NatOk (C0 w B) h₀) {f sc ls rd t1 t2 t3 t4:Nat} {vh:Value} {l r:Memo} {ch:Ch} {Q:Flow→Sx→Prop}
include N
theorem law_s5 {L:List (List KV)} (hp:ListsAt r ls L) (hf:∀ ps∈L,ps.length≤100∧∀ p∈ps,Fine p) (hn:L.length≤50) (hne:0<L.length)
  (G:∀ ol nw r',Sub r r'→PairsAt r' ol (tableL (L.take 1))→PairsAt r' nw (tableL L)→Q .next ⟨ch,(f,frA w t1 sc t2 ls t3 vh t4 rd)::(f+1,cellR ol)::(f+2,cellR nw)::l,r'⟩) :
  HT (C0 w B) h₀ none 300 ⟨ch,(f,frA w t1 sc t2 ls t3 vh t4 rd)::(f+1,cellN)::(f+2,cellN)::l,r⟩ (execsZ [lB (C0 w B) 5] (envLaw (C0 w B) f)) Q (fun vz0 vz1=>False):=by
 have hp0:=hp
 obtain ⟨las,n,hl,hal⟩:=hp
 have hlen:=hal.length
 refine HT.reads (r:=(ls,listO (refs las) n)::r) (Sub.cons hl (Sub.refl _)) ?_
 (
  intro b tk
  refine HTa.cutN N [0,1,2,2,2] [0,1,2,3] 4 [] (c:=.call (.builtin "list.__getitem__") ⟨[.ref ls,.ref b],[]⟩) (l:=(b,{ cls:=.type "slice",data:=.fields #[.none,.int 1 tk,.none] })::(f,frA w t1 sc t2 ls t3 vh t4 rd)::(f+1,cellN)::(f+2,cellN)::l) (r:=(ls,listO (refs las) n)::r) (ch:=ch) (by kernel_rfl) rfl ?_
  refine HC.sliceL (.inr (.head _)) (.head _) .none (.int 1 _) .none (by simp) (by rw [refs_size];lia) fun p=>?_
  rw [slice1]
  intro b2 tk2
  refine HTa.cut N [0] [2,3,4] 5 [0] (c:=.call (.ref 148) ⟨[.ref p],[]⟩) (l:=(f,frA w t1 sc t2 ls t3 vh t4 rd)::(f+1,cellN)::(f+2,cellN)::l) (r:=(p,listO (refs (List.take 1 las)) 0)::(ls,listO (refs las) n)::r) (ch:=ch) (by kernel_rfl) rfl (by intro h;cases h) ?_
  have hsub:Sub r ((p,listO (refs (List.take 1 las)) 0)::(ls,listO (refs las) n)::r):=Sub.tail.trans Sub.tail
  refine HC.less (tab_call N (L:=L.take 1) ⟨las.take 1,0,.head _,(hal.take 1).mono fun vz0 vz1=>PairsAt.mono hsub⟩ (fun ps h=>hf ps (List.mem_of_mem_take h)) (Nat.le_trans (List.length_take_le' _ _) hn) (by rw [List.length_take];lia) fun ol r1 hr1 hol=>?_) (by decide)
  refine HT.cut0 N [0,1,0] (c:=.call (.ref 148) ⟨[.ref ls],[]⟩) (by kernel_rfl) fun b3 tk3=>?_
  refine HC.less (tab_call N (hp0.mono (hsub.trans hr1)) hf hn hne fun nw r2 hr2 hnw=>?_) (by decide)
  intro b4 tk4
  refine HTa.val N [1,1,1,1,1,1,1,1,1,1,1,3,1,1,1,1,1,1,1,3,1,1,1,1,1,1,1,3,1,1,1,11,11,13,13] [4,5,6] 7 [] (a:=.next) (l:=(f,frA w t1 sc t2 ls t3 vh t4 rd)::((f+1),{ cls:=.type "cell",data:=.cell (some (.ref ol)) })::((f+2),{ cls:=.type "cell",data:=.cell (some (.ref nw)) })::l) (r:=r2) (ch:=ch) (by exact Hab.two B (by kernel_rfl) (by kernel_rfl)) rfl ?_
  exact G _ _ _ (hsub.trans (hr1.trans hr2)) (hol.mono hr2) hnw)
end
noncomputable abbrev qLd:Str:=S [95,108,97,119,95,108,97,105,100,46,60,108,111,99,97,108,115,62,46]
noncomputable abbrev nTable:Str:=S [116,97,98,108,101]
noncomputable abbrev envLd (C:Cfg) (f c:Addr):PySem.Env:=envA C 143 [(nKey,c)] qLd f
noncomputable abbrev forLd (C:Cfg):Stmt:=nthS (stmts C 143) 0
noncomputable abbrev ldB (C:Cfg):Stmt:=nthS (forBody (forLd C)) 0
noncomputable abbrev lcD (C:Cfg):PySem.Expr:=binL (asgV (ldB C))
noncomputable abbrev envD (C:Cfg) (D f c:Addr):PySem.Env:=compEnvC (scopeOf (lcD C)) [(nKey,c)] D (envLd C f c)
noncomputable abbrev cD (C:Cfg) (it acc D f c:Addr):Code:=.compLoop (lcD C) 0 (.ref it) (.ref acc) (envD C D f c)
noncomputable abbrev cDS (C:Cfg) (it acc D f c:Addr):Code:=.compStart (lcD C) 0 (.ref it) (.ref acc) (envD C D f c)
noncomputable abbrev cfgOf {C:Cfg} {h₀:Heap} (_:NatOk C h₀):Cfg:=C
noncomputable def keepK (kk:Nat) (T:List KV):List KV:=T.filter fun p=>kc p.1 != kk
theorem keepK_snoc {kk:Nat} {ps:List KV} {i:Nat} {p:KV} (h:ps[i]? = some p):keepK kk (ps.take (i+1))=keepK kk (ps.take i) ++ (if kc p.1=kk then [] else [p]):=by
 unfold keepK
 rw [take_succ_get h,List.filter_append]
 congr 1
 by_cases hk:kc p.1=kk <;> simp [hk]
section
variable {C:Cfg} {h₀:Heap} {hd:Option Value} {lv:Nat} {R:Result→Sx→Prop} {x:Sx}
theorem HC.neOne {a b:Nat} {t u:Tok} (G:R (.ok (.ret (.bool (a != b)))) x):HC C h₀ hd lv x (.call (.builtin "str.__ne__") ⟨[.str (S [a]) t,.str (S [b]) u],[]⟩) R:=by
 have g:=gives_str_ne (S [a]) (S [b]) t u
 have e:((S [a]).cps.toList != (S [b]).cps.toList)=(a != b):=by
  show ([a] != [b])=_
  rw [Bool.eq_iff_iff,bne_iff_ne,bne_iff_ne]
  exact ⟨fun h e=>h (by rw [e]),fun h e=>h (by injection e)⟩
 rw [e] at g
 exact HC.gives F.slot_str_ne F.entry_str_ne (F.args_str_ne_2 _ _) g (fun s=>typeIs_str s _ t) G
end
section
variable {w:World} {B:Hab} {h₀:Heap} (N:NatOk (C0 w B) h₀) {f c D it a acc kk t:Nat} {l r:Memo} {ch:Ch} {R:Result→Sx→Prop}
include N
theorem laid_start {Q:PySem.Fin→Sx→Prop} {E:Value→Sx→Prop} (G:Q (.again (cD (C0 w B) it acc D f c)) ⟨ch,(it,iterO a 0)::l,r⟩):HT (C0 w B) h₀ none 150 ⟨ch,(it,iterO a 0)::l,r⟩ (denZ (cDS (C0 w B) it acc D f c)) Q E:=by
 obtain ⟨b1,b2,b3,b4⟩:=B
 intro b tk
 cases b2
 ·cases b1 <;> exact HTa.val N [1,1,1,1,1] [0] 1 [] (a:=PySem.Fin.again (cD _ it acc D f c)) (l:=(it,iterO a 0)::l) (r:=r) (ch:=ch) (by kernel_rfl) rfl G
 ·exact HTa.val N [] [0] 1 [] (a:=PySem.Fin.again (cD _ it acc D f c)) (l:=(it,iterO a 0)::l) (r:=r) (ch:=ch) (by kernel_rfl) rfl G
theorem laid_turn {p k i n' t1 b0 tk0:Nat} {vv:Value} {xs:Array Value} {o:Obj} {Q:PySem.Fin→Sx→Prop} (hxs:xs.size≤10000) (ho:OneName w nPair i o)
  (G:∀ o' xs' n2,OneName w nPair (i+1) o'→(if k=kk then xs'=xs else xs'=xs.push (.ref p))→Q (.again (cD (C0 w B) it acc D f c)) ⟨ch,(it,iterO a (i+1))::(acc,listO xs' n2)::(D,o')::(c,cellO (some (.str (S [kk]) t)))::l,(p,tupO #[.str (S [k]) t1,vv])::r⟩) :
  HT (C0 w B) h₀ none 150 ⟨ch,(it,iterO a (i+1))::(acc,listO xs n')::(D,o)::(c,cellO (some (.str (S [kk]) t)))::l,(p,tupO #[.str (S [k]) t1,vv])::r⟩ ((go (C0 w B) none 150 [1] (denZ (cD (C0 w B) it acc D f c)) ⟨(it,iterO a i)::(acc,listO xs n')::(D,o)::(c,cellO (some (.str (S [kk]) t)))::l,r,b0,tk0,ch⟩).kont (.ok (.ret (.ref p)))) Q (fun vz0 vz1=>False):=by
 intro b tk
 refine HTa.cutN N [5,5,5,2,2,2,1,2,2,7] [0,1,2,3] 4 [] (c:=.call (.builtin "str.__ne__") ⟨[.str (S [k]) t1,.str (S [kk]) t],[]⟩) (l:=(it,iterO a (i+1))::(acc,listO xs n')::(D,dictO #[ent w (S [112,97,105,114]) (nmTok o tk) (.ref p)] 1)::(c,cellO (some (Value.str (S [kk]) t)))::l) (r:=(p,tupO #[Value.str (S [k]) t1,vv])::r) (ch:=ch) (by exact OneName.two ho (by exact Hab.two B (by kernel_rfl) (by kernel_rfl)) fun vz0 vz1 vz2=>by exact Hab.two B (by kernel_rfl) (by kernel_rfl)) rfl ?_
 refine HC.neOne fun b5 tk5=>?_
 by_cases hk:k=kk
 ·rw [show (k != kk)=false from by simp [hk]]
  refine HTa.val N [] [0,1,2,3] 4 [] (a:=PySem.Fin.again (cD (C0 w B) it acc D f c)) (l:=(it,iterO a (i+1))::(acc,listO xs n')::(D,dictO #[ent w (S [112,97,105,114]) (nmTok o tk) (Value.ref p)] 1)::(c,cellO (some (Value.str (S [kk]) t)))::l) (r:=(p,tupO #[Value.str (S [k]) t1,vv])::r) (ch:=ch) (by exact OneName.two ho (by exact Hab.two B (by kernel_rfl) (by kernel_rfl)) fun vz0 vz1 vz2=>by exact Hab.two B (by kernel_rfl) (by kernel_rfl)) rfl ?_
  exact G _ _ _ (.inr ⟨Nat.succ_pos _,_,_,rfl⟩) (by rw [if_pos hk])
 ·rw [show (k != kk)=true from by simp [hk]]
  refine HTa.cutN N [5] [1,0,2,3] 4 [] (c:=.call (.builtin "list.append") ⟨[.ref acc,.ref p],[]⟩) (l:=(acc,listO xs n')::(it,iterO a (i+1))::(D,dictO #[ent w (S [112,97,105,114]) (nmTok o tk) (Value.ref p)] 1)::(c,cellO (some (Value.str (S [kk]) t)))::l) (r:=(p,tupO #[Value.str (S [k]) t1,vv])::r) (ch:=ch) (by exact OneName.two ho (by exact Hab.two B (by kernel_rfl) (by kernel_rfl)) fun vz0 vz1 vz2=>by exact Hab.two B (by kernel_rfl) (by kernel_rfl)) rfl ?_
  refine HC.append (by rw [sizeLine_eq];lia) fun b6 tk6=>?_
  refine HTa.val N [] [1,0,2,3] 4 [] (a:=PySem.Fin.again (cD (C0 w B) it acc D f c)) (l:=(it,iterO a (i+1))::(acc,listO (xs.push (Value.ref p)) (n'+1))::(D,dictO #[ent w (S [112,97,105,114]) (nmTok o tk) (Value.ref p)] 1)::(c,cellO (some (Value.str (S [kk]) t)))::l) (r:=(p,tupO #[Value.str (S [k]) t1,vv])::r) (ch:=ch) (by exact OneName.two ho (by exact Hab.two B (by kernel_rfl) (by kernel_rfl)) fun vz0 vz1 vz2=>by exact Hab.two B (by kernel_rfl) (by kernel_rfl)) rfl ?_
  exact G _ _ _ (.inr ⟨Nat.succ_pos _,_,_,rfl⟩) (by rw [if_neg hk])
end
section
variable {w:World} {B:Hab} {h₀:Heap} (N:NatOk (C0 w B) h₀) {f c D it a acc kk t:Nat} {l r:Memo} {ch:Ch}
include N
theorem laid_comp {R:Result→Sx→Prop} {ads:List Addr} {T:List KV} {n:Nat} (hl:(a,listO (refs ads) n)∈r) (hp:All2 (PairAt r) ads T) (hn:T.length≤100)
  (G:∀ ads' n' i o,All2 (PairAt r) ads' (keepK kk T)→OneName w nPair i o→R (.ok .next) ⟨ch,(acc,listO (refs ads') n')::(D,o)::(c,cellO (some (.str (S [kk]) t)))::l,r⟩) :
  HC (C0 w B) h₀ none 151 ⟨ch,(it,iterO a 0)::(acc,listO #[] 0)::(D,dictO #[] 0)::(c,cellO (some (.str (S [kk]) t)))::l,r⟩ (cDS (C0 w B) it acc D f c) R:=by
 refine HC.tree (lv:=150) (w:=0) (by kernel_rfl) (laid_start N ?_)
 refine ⟨by kernel_rfl,?_⟩
 have hal:=hp.length
 refine HC.compList N (a:=a) (its:=refs ads) (n:=n) (by kernel_rfl) (by kernel_rfl) (fun i y b tk=>by kernel_rfl)
  (fun i y=>∃ ads' n' o,y=⟨ch,(acc,listO (refs ads') n')::(D,o)::(c,cellO (some (.str (S [kk]) t)))::l,r⟩∧All2 (PairAt r) ads' (keepK kk (T.take i))∧OneName w nPair i o) ?_ ?_ ?_ (y:=⟨ch,(acc,listO #[] 0)::(D,dictO #[] 0)::(c,cellO (some (.str (S [kk]) t)))::l,r⟩) ⟨[],0,_,rfl,.nil,.inl ⟨rfl,rfl⟩⟩
 ·rintro i y ⟨ads',n',o,rfl,_,_⟩
  exact .inr hl
 ·rintro y ⟨ads',n',o,rfl,h,ho⟩
  have es:(lcD (C0 w B)) = .ListComp (eltOf (lcD (C0 w B))) [gen1 (lcD (C0 w B))] (scopeOf (lcD (C0 w B))) (lcPos (lcD (C0 w B))):=by kernel_rfl
  show HC _ _ _ _ _ (.compLoop (lcD (C0 w B)) 0 (.ref it) (.ref acc) (envD (C0 w B) D f c)) _
  rw [es]
  refine HC.compEnd (gen:=gen1 (lcD (C0 w B))) rfl (by kernel_rfl) (.inr hl) ?_
  rw [refs_size,hal,List.take_length] at h
  exact G _ _ _ _ h ho
 ·rintro i y v ⟨ads',n',o,rfl,h,ho⟩ hv b0 tk0
  refine el_EA (refs_get hv) fun p hp1 hE2=>?_
  subst hE2
  refine el_EAEE (hp.get (a:=p) hp1) fun kv hkv t1 t2 hpa=>?_
  have hlen:=h.length
  have hk1:(keepK kk (T.take i)).length≤100:=Nat.le_trans (List.length_filter_le _ _) (Nat.le_trans (List.length_take_le' _ _) hn)
  have hsn:=keepK_snoc (kk:=kk) hkv
  refine HT.less_r (HT.reads (r:=(p,pairO (kc kv.1) kv.2 t1 t2)::r) (Sub.cons hpa (Sub.refl _)) (laid_turn N (by rw [refs_size];lia) ho fun o' xs' n2 ho' hx=>?_))
  refine ⟨r,Sub.tail,rfl,⟨ch,(acc,listO xs' n2)::(D,o')::(c,cellO (some (.str (S [kk]) t)))::l,r⟩,?_,rfl⟩
  by_cases hk:kc kv.1=kk
  ·rw [if_pos hk] at hx hsn
   subst hx
   exact ⟨_,_,_,rfl,by rw [hsn,List.append_nil];exact h,ho'⟩
  ·rw [if_neg hk] at hx hsn
   subst hx
   exact ⟨_,_,_,by rw [refs_push],by rw [hsn];exact h.snoc ⟨t1,t2,hpa⟩,ho'⟩
noncomputable abbrev frLd (w:World) (t1 tb t2 ps t3:Nat) (v:Value):Obj:=frameO #[ent w nTable t1 (.ref tb),ent w nPairs1 t2 (.ref ps),ent w nValue1 t3 v] 3
theorem laid_s0 {Q:Flow→Sx→Prop} {k v t4 t1 t2 t3 ps tb:Nat} {ads:List Addr} {T:List KV} {n:Nat} (hk:kc k=kk) (hv:v<6) (hl:(tb,listO (refs ads) n)∈r) (hp:All2 (PairAt r) ads T) (hn:T.length≤100)
  (G:∀ tb' ads' r',Sub r r'→(tb',listO (refs ads') 0)∈r'→All2 (PairAt r') ads' (keepK kk T ++ (if v=5 then [] else [(k,v)]))→Q .next ⟨ch,(f,frLd w t1 tb' t2 ps t3 (vV v t4))::(c,cellO (some (.str (S [kk]) t)))::l,r'⟩) :
  HT (C0 w B) h₀ none 160 ⟨ch,(f,frLd w t1 tb t2 ps t3 (vV v t4))::(c,cellO (some (.str (S [kk]) t)))::l,r⟩ (execsZ [ldB (C0 w B)] (envLd (C0 w B) f c)) Q (fun vz0 vz1=>False):=by
 refine HT.reads (r:=(tb,listO (refs ads) n)::r) (Sub.cons hl (Sub.refl _)) ?_
 have key:∀ {b:Nat} {l':Memo} {RR:Result→Sx→Prop},(∀ ads' n' i o,All2 (PairAt r) ads' (keepK kk T)→OneName w nPair i o→RR (.ok .next) ⟨ch,(b+1,listO (refs ads') n')::(b+2,o)::(c,cellO (some (.str (S [kk]) t)))::l',r⟩)→HC (C0 w B) h₀ none 160 ⟨ch,(b,iterO tb 0)::(b+1,listO #[] 0)::(b+2,dictO #[] 0)::(c,cellO (some (.str (S [kk]) t)))::l',(tb,listO (refs ads) n)::r⟩ (cDS (C0 w B) b (b+1) (b+2) f c) RR :=
  fun {b l' RR} hk=>HC.less (HC.reads (r:=r) Sub.tail (laid_comp N hl hp hn hk)) (by decide)
 have hlenT:(keepK kk T).length≤100:=Nat.le_trans (List.length_filter_le _ _) hn
 have hcase:v=5 ∨ (v≠5∧∃ X,vV v t4 = .str X t4):=by
  rcases lt6n (by assumption:v<6) with rfl | rfl | rfl | rfl | rfl | rfl
  ·exact .inl rfl
  all_goals exact .inr ⟨by decide,_,rfl⟩
 rcases hcase with rfl | ⟨h5,X,hX⟩
 ·skip
  (
   intro b tk
   refine HTa.cutN N [1,2,2,1,2,1] [2,1,0,4,3] 5 [] (c:=cDS (C0 w B) b (b+1) (b+2) f c) (l:=(b,{ cls:=.type "list_iterator",data:=.fields #[.ref tb,.int 0 0] })::((b+1),listO #[] 0)::((b+2),dictO #[] 0)::(c,cellO (some (Value.str (S [kk]) t)))::(f,frLd w t1 tb t2 ps t3 (vV 5 t4))::l) (r:=(tb,listO (refs ads) n)::r) (ch:=ch) (by exact Hab.two B (by kernel_rfl) (by kernel_rfl)) rfl ?_
   refine key fun ads' n' i o ha ho=>?_
   have hsz:(refs ads').size+0≤1000000:=by rw [refs_size,ha.length];lia
   intro b5 tk5
   refine HTa.cutN N (3::(Mine.hn o 3 ++ [7,3,1,3])) [0,1,3,4] 5 [] (c:=.call (.builtin "list.__add__") ⟨[.ref (b+1),.ref b5],[]⟩) (l:=(b5,listO #[] 0)::(b+1,listO (refs ads') n')::(c,cellO (some (Value.str (S [kk]) t)))::(f,frLd w t1 tb t2 ps t3 (vV 5 t4))::l) (r:=r) (ch:=ch) (by exact OneName.cases ho (by exact Hab.two B (by kernel_rfl) (by kernel_rfl)) fun vz0 vz1=>by exact Hab.two B (by kernel_rfl) (by kernel_rfl)) rfl ?_
   refine HC.addL (.inl (.tail _ (.head _))) (.inl (.head _)) hsz fun p=>?_
   rw [show refs ads' ++ #[]=refs ads' from Array.append_empty]
   intro b6 tk6
   refine HTa.val N [9,9] [4,3] 5 [0] (a:=.next) (l:=(f,frameO #[ent w (S [116,97,98,108,101]) t1 (.ref p),ent w (S [112,97,105,114,115]) t2 (.ref ps),ent w (S [118,97,108,117,101]) t3 (.none)] 3)::(c,cellO (some (Value.str (S [kk]) t)))::l) (r:=(p,listO (refs ads') 0)::r) (ch:=ch) (by exact OneName.cases ho (by exact Hab.two B (by kernel_rfl) (by kernel_rfl)) fun vz0 vz1=>by exact Hab.two B (by kernel_rfl) (by kernel_rfl)) rfl ?_
   refine G _ ads' _ Sub.tail (.head _) ?_
   rw [if_pos rfl,List.append_nil]
   exact ha.mono fun vz0 vz1=>PairAt.mono Sub.tail)
 ·have hG:∀ tb' p ads',(tb',listO (refs ads' ++ refs [p]) 0)=(tb',listO (refs (ads' ++ [p])) 0)∧(All2 (PairAt r) ads' (keepK kk T)→Q .next ⟨ch,(f,frLd w t1 tb' t2 ps t3 (.str X t4))::(c,cellO (some (.str (S [kk]) t)))::l,(tb',listO (refs (ads' ++ [p])) 0)::(p,tupO #[.str (S [kk]) t,.str X t4])::r⟩):=by
   intro tb' p ads'
   refine ⟨by simp [refs],fun ha=>?_⟩
   rw [←hX]
   refine G tb' (ads' ++ [p]) _ (Sub.tail.trans Sub.tail) (.head _) ?_
   rw [if_neg h5]
   exact (ha.mono fun vz0 vz1=>PairAt.mono (Sub.tail.trans Sub.tail)).snoc ⟨t,t4,by rw [hk];exact .tail _ (.head _)⟩
  rw [hX]
  clear G
  (
   intro b tk
   refine HTa.cutN N [1,2,2,1,2,1] [2,1,0,4,3] 5 [] (c:=cDS (C0 w B) b (b+1) (b+2) f c) (l:=(b,{ cls:=.type "list_iterator",data:=.fields #[.ref tb,.int 0 0] })::((b+1),listO #[] 0)::((b+2),dictO #[] 0)::(c,cellO (some (Value.str (S [kk]) t)))::(f,frLd w t1 tb t2 ps t3 (Value.str X t4))::l) (r:=(tb,listO (refs ads) n)::r) (ch:=ch) (by exact Hab.two B (by kernel_rfl) (by kernel_rfl)) rfl ?_
   refine key fun ads' n' i o ha ho=>?_
   have hsz:∀ p,(refs ads').size+(refs [p]).size≤1000000:=fun p=>by rw [refs_size,refs_size,ha.length,List.length_singleton];lia
   intro b5 tk5
   refine HTa.cut N (3::(Mine.hn o 3 ++ [7,5,7,5,1,5])) [0,2,4,5] 6 [1] (c:=.call (.builtin "list.__add__") ⟨[.ref (b+1),.ref (b5+1)],[]⟩) (l:=((b5+1),listO #[.ref b5] 0)::(b+1,listO (refs ads') n')::(c,cellO (some (Value.str (S [kk]) t)))::(f,frLd w t1 tb t2 ps t3 (Value.str X t4))::l) (r:=(b5,tupO #[.str (S [kk]) t,.str (X) t4])::r) (ch:=ch) (by exact OneName.cases ho (by exact Hab.two B (by kernel_rfl) (by kernel_rfl)) fun vz0 vz1=>by exact Hab.two B (by kernel_rfl) (by kernel_rfl)) rfl (by intro h;cases h) ?_
   refine HC.addL (its2:=refs [b5]) (.inl (.tail _ (.head _))) (.inl (.head _)) (hsz _) fun p=>?_
   rw [(hG p b5 ads').1]
   intro b6 tk6
   refine HTa.val N [9,9] [4,3] 5 [0] (a:=.next) (l:=(f,frameO #[ent w (S [116,97,98,108,101]) t1 (.ref p),ent w (S [112,97,105,114,115]) t2 (.ref ps),ent w (S [118,97,108,117,101]) t3 (.str (X) t4)] 3)::(c,cellO (some (Value.str (S [kk]) t)))::l) (r:=(p,listO (refs (ads' ++ [b5])) 0)::(b5,tupO #[Value.str (S [kk]) t,Value.str X t4])::r) (ch:=ch) (by exact OneName.cases ho (by exact Hab.two B (by kernel_rfl) (by kernel_rfl)) fun vz0 vz1=>by exact Hab.two B (by kernel_rfl) (by kernel_rfl)) rfl ?_
   exact (hG p b5 ads').2 ha)
end
noncomputable def laidL (T:List KV) (p:KV):List KV:=keepK (kc p.1) T ++ (if p.2=5 then [] else [p])
theorem laidL_le (ps:List KV):∀ T:List KV,(ps.foldl laidL T).length≤T.length+ps.length:=by
 induction ps with
 | nil=>intro T;simp
 | cons p ps ih =>
  intro T
  rw [List.foldl_cons,List.length_cons]
  have h:=ih (laidL T p)
  have h2:(laidL T p).length≤T.length+1:=by
   unfold laidL
   rw [List.length_append]
   have h3:(keepK (kc p.1) T).length≤T.length:=List.length_filter_le _ _
   split <;> simp <;> lia
  lia
noncomputable def LdF (w:World) (t1 tb t2 ps:Nat) (o:Obj):Prop:=o=frameO #[ent w nTable t1 (.ref tb),ent w nPairs1 t2 (.ref ps)] 2 ∨ ∃ t3 v,o=frLd w t1 tb t2 ps t3 v
theorem vV_cases {v:Nat} (hv:v<6) (t:Tok):vV v t = .none ∨ ∃ X,vV v t = .str X t:=by
 rcases lt6n (by assumption:v<6) with rfl | rfl | rfl | rfl | rfl | rfl
 ·exact .inl rfl
 all_goals exact .inr ⟨_,rfl⟩
inductive LdI (w:World) (ch:Ch) (l r:Memo) (f c t1 t2 ps:Nat) (P T:List KV) (i:Nat) (y:Sx):Prop
 | mk (tb':Nat) (ads':List Addr) (n':Nat) (r':Memo) (fr:Obj) (cv:Option Value) (e:y=⟨ch,(f,fr)::(c,cellO cv)::l,r'⟩) (hr:Sub r r') (hl:(tb',listO (refs ads') n')∈r') (hp:All2 (PairAt r') ads' ((P.take i).foldl laidL T)) (hf:LdF w t1 tb' t2 ps fr):LdI w ch l r f c t1 t2 ps P T i y
section
variable {w:World} {B:Hab} {h₀:Heap} (N:NatOk (C0 w B) h₀) {f c:Nat} {l r:Memo} {ch:Ch}
theorem ldBody:forBody (forLd (C0 w B))=[ldB (C0 w B)]:=by kernel_rfl
theorem stmtsLd:stmts (C0 w B) 143=[forLd (C0 w B),nthS (stmts (C0 w B) 143) 1]:=by kernel_rfl
include N
theorem laid_for {Q:Flow→Sx→Prop} {t1 t2 ps tb:Nat} {pads ads:List Addr} {P T:List KV} {n m:Nat} (hps:(ps,listO (refs pads) m)∈r) (hP:All2 (PairAt r) pads P) (hf:∀ p∈P,Fine p) (hl:(tb,listO (refs ads) n)∈r) (hp:All2 (PairAt r) ads T) (hn:T.length+P.length≤100)
  (G:∀ tb' ads' n' r' fr cv,Sub r r'→(tb',listO (refs ads') n')∈r'→All2 (PairAt r') ads' (P.foldl laidL T)→LdF w t1 tb' t2 ps fr→Q .next ⟨ch,(f,fr)::(c,cellO cv)::l,r'⟩) :
  HT (C0 w B) h₀ none 160 ⟨ch,(f,frameO #[ent w nTable t1 (.ref tb),ent w nPairs1 t2 (.ref ps)] 2)::(c,cellO none)::l,r⟩ (execsZ [forLd (C0 w B)] (envLd (C0 w B) f c)) Q (fun vz0 vz1=>False):=by
 refine HT.reads (r:=(ps,listO (refs pads) m)::r) (Sub.cons hps (Sub.refl _)) ?_
 have H:∀ b,HC (C0 w B) h₀ none 160 ⟨ch,(b,iterO ps 0)::(f,frameO #[ent w nTable t1 (.ref tb),ent w nPairs1 t2 (.ref ps)] 2)::(c,cellO none)::l,(ps,listO (refs pads) m)::r⟩ (loopOf (forLd (C0 w B)) (.ref b) (envLd (C0 w B) f c)) (fun r x'=>r = .ok .next∧Q .next x'):=by
  intro b
  refine HC.reads (r:=r) Sub.tail ?_
  have e:loopOf (forLd (C0 w B)) (.ref b) (envLd (C0 w B) f c) = .forLoop (forTarget (forLd (C0 w B))) (.ref b) (forBody (forLd (C0 w B))) [] (envLd (C0 w B) f c):=by kernel_rfl
  rw [e]
  refine HC.forList (y:=⟨ch,(f,frameO #[ent w nTable t1 (.ref tb),ent w nPairs1 t2 (.ref ps)] 2)::(c,cellO none)::l,r⟩) (a:=ps) (n:=m) (its:=refs pads)
   (LdI w ch l r f c t1 t2 ps P T) ?_ ?_ ?_ ⟨tb,ads,n,r,_,none,rfl,Sub.refl _,hl,hp,.inl rfl⟩
  ·rintro i y ⟨tb',ads',n',r',fr,cv,rfl,hr,_,_,_⟩
   exact .inr (hr _ hps)
  ·rintro y ⟨tb',ads',n',r',fr,cv,rfl,hr,hl',hp',hfr⟩
   rw [refs_size,hP.length,List.take_length] at hp'
   exact ⟨rfl,G _ _ _ _ _ _ hr hl' hp' hfr⟩
  ·rintro i y v ⟨tb',ads',n',r',fr,cv,rfl,hr,hl',hp',hfr⟩ hv
   refine el_EA (refs_get hv) fun p hp1 hE2=>?_
   subst hE2
   refine el_EAEE (hP.get (a:=p) hp1) fun kv hkv u1 u2 hpa=>?_
   obtain ⟨kk,hkk⟩:∃ kk,kc kv.1=kk:=⟨_,rfl⟩
   have hpa:(p,tupO #[.str (S [kk]) u1,vV kv.2 u2])∈r:=by rw [←hkk];exact hpa
   have hfk:Fine kv:=hf kv (List.mem_of_getElem? hkv)
   have hlen:((P.take i).foldl laidL T).length≤100:=Nat.le_trans (laidL_le _ _) (Nat.le_trans (Nat.add_le_add_left (List.length_take_le' _ _) _) hn)
   refine HT.val0 N [1] (a:=()) (by kernel_rfl) ?_
   refine HT.reads (r:=(p,tupO #[.str (S [kk]) u1,vV kv.2 u2])::r') (Sub.cons (hr _ hpa) (Sub.refl _)) ?_
   have hsn:(P.take (i+1)).foldl laidL T=laidL ((P.take i).foldl laidL T) kv:=by rw [take_succ_get hkv,List.foldl_append];rfl
   have hX:=vV_ns kv.2 u2
   generalize hvx:vV kv.2 u2=vx at hX
   rcases hfr with rfl | ⟨t3,vx',rfl⟩
   ·intro b3 tk3
    refine HTa.val N [2,2,2,1,2,1,1,1,1,1,1,2,1,1,1,1,1,1,1,2,1,1,1,1,1,1,1,2,1,1,1,11,11,9,9] [4,5,3] 6 [] (a:=()) (l:=(f,frameO #[ent w (S [116,97,98,108,101]) t1 (.ref tb'),ent w (S [112,97,105,114,115]) t2 (.ref ps),ent w (S [118,97,108,117,101]) tk3 vx] 3)::(c,{ cls:=.type "cell",data:=.cell (some (.str (S [kk]) u1)) })::(b,iterO ps (i+1))::l) (r:=(p,tupO #[Value.str (S [kk]) u1,vx])::r') (ch:=ch) (by exact VNS.two hX (by exact Hab.two B (by kernel_rfl) (by kernel_rfl)) fun z t=>by exact Hab.two B (by kernel_rfl) (by kernel_rfl)) rfl ?_
    rw [←hvx,ldBody]
    refine HT.post (laid_s0 N (kk:=kk) (k:=kv.1) hkk hfk.2 (.tail _ hl') (hp'.mono fun vz0 vz1=>PairAt.mono Sub.tail) hlen fun tb2 ads2 r2 hr2 hl2 hp2=>?_)
    refine ⟨[2,0,1],3,[],rfl,⟨ch,(f,_)::(c,cellO _)::l,r2⟩,⟨tb2,ads2,0,r2,_,_,rfl,hr.trans (Sub.tail.trans hr2),hl2,?_,.inr ⟨_,_,rfl⟩⟩,rfl⟩
    rw [hsn,laidL,hkk]
    exact hp2
   ·intro b3 tk3
    refine HTa.val N [2,2,2,1,2,1,1,1,1,1,1,2,1,1,1,1,1,1,1,2,1,1,1,1,1,1,1,2,1,1,1,11,11,9,9] [4,5,3] 6 [] (a:=()) (l:=(f,frameO #[ent w (S [116,97,98,108,101]) t1 (.ref tb'),ent w (S [112,97,105,114,115]) t2 (.ref ps),ent w (S [118,97,108,117,101]) t3 vx] 3)::(c,{ cls:=.type "cell",data:=.cell (some (.str (S [kk]) u1)) })::(b,iterO ps (i+1))::l) (r:=(p,tupO #[Value.str (S [kk]) u1,vx])::r') (ch:=ch) (by exact VNS.two hX (by exact Hab.two B (by kernel_rfl) (by kernel_rfl)) fun z t=>by exact Hab.two B (by kernel_rfl) (by kernel_rfl)) rfl ?_
    rw [←hvx,ldBody]
    refine HT.post (laid_s0 N (kk:=kk) (k:=kv.1) hkk hfk.2 (.tail _ hl') (hp'.mono fun vz0 vz1=>PairAt.mono Sub.tail) hlen fun tb2 ads2 r2 hr2 hl2 hp2=>?_)
    refine ⟨[2,0,1],3,[],rfl,⟨ch,(f,_)::(c,cellO _)::l,r2⟩,⟨tb2,ads2,0,r2,_,_,rfl,hr.trans (Sub.tail.trans hr2),hl2,?_,.inr ⟨_,_,rfl⟩⟩,rfl⟩
    rw [hsn,laidL,hkk]
    exact hp2
 exact HT.forCut N [1,2,2,1,2,1] (fun b tk=>by exact Hab.two B (by kernel_rfl) (by kernel_rfl)) (fun b tk y b' tk'=>by exact Hab.two B (by kernel_rfl) (by kernel_rfl)) H
end
section
variable {w:World} {B:Hab} {h₀:Heap} (N:NatOk (C0 w B) h₀) {l r:Memo} {ch:Ch}
include N
theorem laid_call {R:Result→Sx→Prop} {ps tb:Nat} {P T:List KV} (hps:PairsAt r ps P) (hf:∀ p∈P,Fine p) (htb:PairsAt r tb T) (hn:T.length+P.length≤100)
  (G:∀ a r',Sub r r'→PairsAt r' a (P.foldl laidL T)→R (.ok (.ret (.ref a))) ⟨ch,l,r'⟩):HC (C0 w B) h₀ none 162 ⟨ch,l,r⟩ (.call (.ref 143) ⟨[.ref tb,.ref ps],[]⟩) R:=by
 obtain ⟨pads,m,hm,hP⟩:=hps
 obtain ⟨ads,n,hl,hp⟩:=htb
 refine HC.enter N (lv:=161) (o:=topObj (C0 w B) 143) [0,3,3,3,3] [1,0] 2 [] 0 (by kernel_rfl) (by kernel_rfl) fun b tk=>?_
 refine ⟨envLd (C0 w B) b (b+1),(b,frameO #[ent w nTable tk (.ref tb),ent w nPairs1 (tk+1) (.ref ps)] 2)::(b+1,cellO none)::l,r,ch,by kernel_rfl,rfl,?_⟩
 have e:bodyCode (fdAt (some (topObj (C0 w B) 143))) (envLd (C0 w B) b (b+1)) = .func (stmts (C0 w B) 143) (envLd (C0 w B) b (b+1)):=by kernel_rfl
 rw [e]
 refine HC.func (lv:=160) ?_
 rw [stmtsLd]
 refine HT.execs_cons ?_
 refine laid_for N hm hP hf hl hp hn fun tb' ads' n' r' fr cv hr hl' hp' hfr=>?_
 rcases hfr with rfl | ⟨t3,v,rfl⟩
 ·intro b2 tk2
  refine HTa.val N [1] [] 2 [] (a:=.ret (.ref tb')) (l:=l) (r:=r') (ch:=ch) (by kernel_rfl) rfl ?_
  exact G _ _ hr ⟨ads',n',hl',hp'⟩
 ·intro b2 tk2
  refine HTa.val N [1] [] 2 [] (a:=.ret (.ref tb')) (l:=l) (r:=r') (ch:=ch) (by kernel_rfl) rfl ?_
  exact G _ _ hr ⟨ads',n',hl',hp'⟩
end
noncomputable abbrev qRd:Str:=S [114,101,100,117,99,101,46,60,108,111,99,97,108,115,62,46]
noncomputable abbrev envRd (C:Cfg) (f:Addr):PySem.Env:=envA C 103 [] qRd f
noncomputable abbrev rdB (C:Cfg) (i:Nat):Stmt:=nthS (stmts C 103) i
noncomputable abbrev nFunction:Str:=S [102,117,110,99,116,105,111,110]
noncomputable abbrev nSequence:Str:=S [115,101,113,117,101,110,99,101]
noncomputable abbrev nInitial:Str:=S [105,110,105,116,105,97,108]
noncomputable abbrev nIt:Str:=S [105,116]
noncomputable abbrev nElement:Str:=S [101,108,101,109,101,110,116]
noncomputable abbrev fr4R (w:World) (t1 t2 sq t3 ini t4 it:Nat):Obj:=frameO #[ent w nFunction t1 (.ref 143),ent w nSequence t2 (.ref sq),ent w nInitial t3 (.ref ini),ent w nIt t4 (.ref it)] 4
noncomputable abbrev fr5R (w:World) (t1 t2 sq t3 ini t4 it t5 vl:Nat):Obj:=frameO #[ent w nFunction t1 (.ref 143),ent w nSequence t2 (.ref sq),ent w nInitial t3 (.ref ini),ent w nIt t4 (.ref it),ent w nValue1 t5 (.ref vl)] 5
noncomputable abbrev fr6R (w:World) (t1 t2 sq t3 ini t4 it t5 vl t6 el:Nat):Obj:=frameO #[ent w nFunction t1 (.ref 143),ent w nSequence t2 (.ref sq),ent w nInitial t3 (.ref ini),ent w nIt t4 (.ref it),ent w nValue1 t5 (.ref vl),ent w nElement t6 (.ref el)] 6
noncomputable def RdF (w:World) (t1 t2 sq t3 ini t4 it t5 vl:Nat) (o:Obj):Prop:=o=fr5R w t1 t2 sq t3 ini t4 it t5 vl ∨ ∃ t6 el,o=fr6R w t1 t2 sq t3 ini t4 it t5 vl t6 el
section
variable {C:Cfg} {h₀:Heap} {hd:Option Value} {lv:Nat} {x:Sx} {E:Value→Sx→Prop}
theorem HT.isTop (N:NatOk C h₀) {a y:Addr} {o oy:Obj} {Q:Value→Sx→Prop} (ha:(a,o)∈x.l ∨ (a,o)∈x.r) (hc:o.cls≠.type "tuple") (hy:topLook C x.ch y=some oy) (hlt:y<C.top) (G:Q (.bool false) x):HT C h₀ hd lv x (compareOp .Is (.ref a) (.ref y)) Q E:=by
 refine HT.lib fun A g d os b tk h K D=>?_
 have h1:=Sx.mem_get ha D
 have h2:C.top≤a:=by
  rcases ha with ha | ha
  ·exact D.hi _ ha
  ·exact D.hiR _ ha
 have h3:a≠y:=fun e=>by subst e;exact absurd hlt (Nat.not_lt.mpr h2)
 exact wpAny_is_ref_other (s:=⟨h,g,d,tk,os⟩) h3 h1 (D.top N.ok (m:=⟨x.l,x.r,b,tk,x.ch⟩) hy) hc ⟨x,⟨b,tk,h,rfl,D⟩,G⟩
end
noncomputable def laidLL (T:List KV) (L:List (List KV)):List KV:=L.foldl (fun T ps=>ps.foldl laidL T) T
theorem laidLL_le (L:List (List KV)):∀ T,(laidLL T L).length≤T.length+(L.map List.length).sum:=by
 induction L with
 | nil=>intro T;simp [laidLL]
 | cons ps L ih =>
  intro T
  have h:=ih (ps.foldl laidL T)
  have h2:=laidL_le ps T
  show (laidLL (ps.foldl laidL T) L).length≤_
  rw [List.map_cons,List.sum_cons]
  lia
section
variable {w:World} {B:Hab} {h₀:Heap} (N:NatOk (C0 w B) h₀) {l r:Memo} {ch:Ch}
theorem stmtsRd:stmts (C0 w B) 103=[rdB (C0 w B) 0,rdB (C0 w B) 1,rdB (C0 w B) 2,rdB (C0 w B) 3]:=by kernel_rfl
include N
theorem red_s1 {Q:Flow→Sx→Prop} {f t1 t2 sq t3 ini t4 it:Nat} {o:Obj} (hi:(ini,o)∈r) (hc:o.cls≠.type "tuple")
  (G:∀ t5,Q .next ⟨ch,(f,fr5R w t1 t2 sq t3 ini t4 it t5 ini)::l,r⟩) :
  HT (C0 w B) h₀ none 170 ⟨ch,(f,fr4R w t1 t2 sq t3 ini t4 it)::l,r⟩ (execsZ [rdB (C0 w B) 1] (envRd (C0 w B) f)) Q (fun vz0 vz1=>False):=by
 have e1:IsIf (rdB (C0 w B) 1) (ifElse (rdB (C0 w B) 1)):=by kernel_rfl
 have e2:IsCmp (ifTest (rdB (C0 w B) 1)) .Is:=by kernel_rfl
 refine HT.ifS' e1 (HT.test1' e2 (by kernel_rfl) ?_)
 refine HT.val0 N [1] (a:=.ref ini) (by kernel_rfl) ?_
 refine HT.val0 N [0] (a:=.ref 95) (by kernel_rfl) ?_
 refine HT.isTop N (.inr hi) hc (oy:=topObj (C0 w B) 95) (by kernel_rfl) (by show 95<161;decide) ⟨_,rfl,?_⟩
 intro b tk
 refine HTa.val N [1,1,1] [0] 1 [] (a:=.next) (l:=(f,frameO #[ent w (S [102,117,110,99,116,105,111,110]) t1 (.ref 143),ent w (S [115,101,113,117,101,110,99,101]) t2 (.ref sq),ent w (S [105,110,105,116,105,97,108]) t3 (.ref ini),ent w (S [105,116]) t4 (.ref it),ent w (S [118,97,108,117,101]) tk (.ref ini)] 5)::l) (r:=r) (ch:=ch) (by kernel_rfl) rfl ?_
 exact G _
theorem red_for {Q:Flow→Sx→Prop} {f t1 t2 sq t3 ini t4 it t5 n:Nat} {las:List Addr} {L:List (List KV)} {T0:List KV} (hl:(sq,listO (refs las) n)∈r) (hp:All2 (PairsAt r) las L) (hf:∀ ps∈L,∀ p∈ps,Fine p) (hi:PairsAt r ini T0) (hn:T0.length+(L.map List.length).sum≤100)
  (G:∀ vl r' fr,Sub r r'→PairsAt r' vl (laidLL T0 L)→RdF w t1 t2 sq t3 ini t4 it t5 vl fr→Q .next ⟨ch,(f,fr)::l,r'⟩) :
  HT (C0 w B) h₀ none 170 ⟨ch,(it,iterO sq 0)::(f,fr5R w t1 t2 sq t3 ini t4 it t5 ini)::l,r⟩ (execsZ [rdB (C0 w B) 2] (envRd (C0 w B) f)) Q (fun vz0 vz1=>False):=by
 have H:HC (C0 w B) h₀ none 170 ⟨ch,(it,iterO sq 0)::(f,fr5R w t1 t2 sq t3 ini t4 it t5 ini)::l,r⟩ (loopOf (rdB (C0 w B) 2) (.ref it) (envRd (C0 w B) f)) (fun r x'=>r = .ok .next∧Q .next x'):=by
  have e:loopOf (rdB (C0 w B) 2) (.ref it) (envRd (C0 w B) f) = .forLoop (forTarget (rdB (C0 w B) 2)) (.ref it) (forBody (rdB (C0 w B) 2)) [] (envRd (C0 w B) f):=by kernel_rfl
  rw [e]
  refine HC.forList (y:=⟨ch,(f,fr5R w t1 t2 sq t3 ini t4 it t5 ini)::l,r⟩) (a:=sq) (n:=n) (its:=refs las)
   (fun i y=>∃ vl r' fr,y=⟨ch,(f,fr)::l,r'⟩∧Sub r r'∧PairsAt r' vl (laidLL T0 (L.take i))∧RdF w t1 t2 sq t3 ini t4 it t5 vl fr) ?_ ?_ ?_ ⟨ini,r,_,rfl,Sub.refl _,hi,.inl rfl⟩
  ·intro i y hZ0
   refine el_EEEAAA hZ0 fun vl r' fr hE1 hr vz0 vz1=>?_
   try clear hZ0
   subst hE1
   exact .inr (hr _ hl)
  ·intro y hZ0
   refine el_EEEAAA hZ0 fun vl r' fr hE1 hr hv hfr=>?_
   try clear hZ0
   subst hE1
   rw [refs_size,hp.length,List.take_length] at hv
   exact ⟨rfl,G _ _ _ hr hv hfr⟩
  ·intro i y v hZ0 hv
   refine el_EEEAAA hZ0 fun vl r' fr hE1 hr hvl hfr=>?_
   try clear hZ0
   subst hE1
   refine el_EA (refs_get hv) fun el hp1 hE2=>?_
   subst hE2
   refine el_EA (hp.get (a:=el) hp1) fun ps hkv hpa=>?_
   have hfk:=hf ps (List.mem_of_getElem? hkv)
   have hsn:laidLL T0 (L.take (i+1))=ps.foldl laidL (laidLL T0 (L.take i)):=by unfold laidLL;rw [take_succ_get hkv,List.foldl_append];rfl
   have hlen:(laidLL T0 (L.take i)).length+ps.length≤100:=by
    have h1:=laidLL_le (L.take i) T0
    have h2:((L.take (i+1)).map List.length).sum≤(L.map List.length).sum:=by
     rw [List.map_take]
     have h3:((L.map List.length).take (i+1)).sum+((L.map List.length).drop (i+1)).sum=(L.map List.length).sum:=by rw [←List.sum_append,List.take_append_drop]
     lia
    rw [take_succ_get hkv,List.map_append,List.sum_append] at h2
    simp only [List.map_cons,List.map_nil,List.sum_cons,List.sum_nil] at h2
    lia
   have call:∀ {l':Memo} {RR:Result→Sx→Prop},(∀ a r2,Sub r' r2→PairsAt r2 a (laidLL T0 (L.take (i+1)))→RR (.ok (.ret (.ref a))) ⟨ch,l',r2⟩)→HC (C0 w B) h₀ none 170 ⟨ch,l',r'⟩ (.call (.ref 143) ⟨[.ref vl,.ref el],[]⟩) RR:=by
    intro l' RR hk
    refine HC.less (laid_call N (hpa.mono hr) hfk hvl hlen fun a r2 hr2 ha=>?_) (by decide)
    rw [←hsn] at ha
    exact hk a r2 hr2 ha
   rcases hfr with rfl | ⟨t6,el',rfl⟩
   ·intro b2 tk2
    refine HTa.val N [] [0,1] 2 [] (a:=()) (l:=(it,iterO sq (i+1))::(f,fr5R w t1 t2 sq t3 ini t4 it t5 vl)::l) (r:=r') (ch:=ch) (by kernel_rfl) rfl ?_
    intro b3 tk3
    refine HTa.val N [3,3] [1,0] 2 [] (a:=()) (l:=(f,frameO #[ent w (S [102,117,110,99,116,105,111,110]) t1 (.ref 143),ent w (S [115,101,113,117,101,110,99,101]) t2 (.ref sq),ent w (S [105,110,105,116,105,97,108]) t3 (.ref ini),ent w (S [105,116]) t4 (.ref it),ent w (S [118,97,108,117,101]) t5 (.ref vl),ent w (S [101,108,101,109,101,110,116]) tk3 (.ref el)] 6)::(it,iterO sq (i+1))::l) (r:=r') (ch:=ch) (by kernel_rfl) rfl ?_
    refine HT.cut0 N [1,1,1,0] (c:=.call (.ref 143) ⟨[.ref vl,.ref el],[]⟩) (by kernel_rfl) fun b4 tk4=>?_
    refine call fun a r2 hr2 ha=>?_
    intro b5 tk5
    refine HTa.val N [1,1] [1,0] 2 [] (a:=.next) (l:=(it,iterO sq (i+1))::(f,frameO #[ent w (S [102,117,110,99,116,105,111,110]) t1 (.ref 143),ent w (S [115,101,113,117,101,110,99,101]) t2 (.ref sq),ent w (S [105,110,105,116,105,97,108]) t3 (.ref ini),ent w (S [105,116]) t4 (.ref it),ent w (S [118,97,108,117,101]) t5 (.ref a),ent w (S [101,108,101,109,101,110,116]) tk3 (.ref el)] 6)::l) (r:=r2) (ch:=ch) (by kernel_rfl) rfl ?_
    exact ⟨⟨ch,_,r2⟩,⟨a,r2,_,rfl,hr.trans hr2,ha,.inr ⟨_,_,rfl⟩⟩,rfl⟩
   ·intro b2 tk2
    refine HTa.val N [] [0,1] 2 [] (a:=()) (l:=(it,iterO sq (i+1))::(f,fr6R w t1 t2 sq t3 ini t4 it t5 vl t6 el')::l) (r:=r') (ch:=ch) (by kernel_rfl) rfl ?_
    intro b3 tk3
    refine HTa.val N [3,3] [1,0] 2 [] (a:=()) (l:=(f,frameO #[ent w (S [102,117,110,99,116,105,111,110]) t1 (.ref 143),ent w (S [115,101,113,117,101,110,99,101]) t2 (.ref sq),ent w (S [105,110,105,116,105,97,108]) t3 (.ref ini),ent w (S [105,116]) t4 (.ref it),ent w (S [118,97,108,117,101]) t5 (.ref vl),ent w (S [101,108,101,109,101,110,116]) t6 (.ref el)] 6)::(it,iterO sq (i+1))::l) (r:=r') (ch:=ch) (by kernel_rfl) rfl ?_
    refine HT.cut0 N [1,1,1,0] (c:=.call (.ref 143) ⟨[.ref vl,.ref el],[]⟩) (by kernel_rfl) fun b4 tk4=>?_
    refine call fun a r2 hr2 ha=>?_
    intro b5 tk5
    refine HTa.val N [1,1] [1,0] 2 [] (a:=.next) (l:=(it,iterO sq (i+1))::(f,frameO #[ent w (S [102,117,110,99,116,105,111,110]) t1 (.ref 143),ent w (S [115,101,113,117,101,110,99,101]) t2 (.ref sq),ent w (S [105,110,105,116,105,97,108]) t3 (.ref ini),ent w (S [105,116]) t4 (.ref it),ent w (S [118,97,108,117,101]) t5 (.ref a),ent w (S [101,108,101,109,101,110,116]) t6 (.ref el)] 6)::l) (r:=r2) (ch:=ch) (by kernel_rfl) rfl ?_
    exact ⟨⟨ch,_,r2⟩,⟨a,r2,_,rfl,hr.trans hr2,ha,.inr ⟨_,_,rfl⟩⟩,rfl⟩
 refine HT.reads (r:=(sq,listO (refs las) n)::r) (Sub.cons hl (Sub.refl _)) ?_
 have H2:=HC.reads (x:=⟨ch,(it,iterO sq 0)::(f,fr5R w t1 t2 sq t3 ini t4 it t5 ini)::l,(sq,listO (refs las) n)::r⟩) (r:=r) Sub.tail H
 have H3:∀ {k:Result→Sem Flow},(∀ y b tk,HTa (C0 w B) h₀ none 170 ⟨y.l,y.r,b,tk,y.ch⟩ (k (.ok .next)) (fun fl x=>fl = .next∧x=y) (fun vz0 vz1=>False))→HC (C0 w B) h₀ none 170 ⟨ch,(it,iterO sq 0)::(f,fr5R w t1 t2 sq t3 ini t4 it t5 ini)::l,(sq,listO (refs las) n)::r⟩ (loopOf (rdB (C0 w B) 2) (.ref it) (envRd (C0 w B) f)) (fun r x=>HT (C0 w B) h₀ none 170 x (k r) Q (fun vz0 vz1=>False)):=by
  intro k hk
  refine HC.mono H2 ?_
  intro r x hZ0 b tk
  refine el_A hZ0 fun hE1 q=>?_
  try clear hZ0
  subst hE1
  exact HTa.mono (hk _ b tk) (by rintro fl x ⟨rfl,rfl⟩;exact q) (fun vz0 vz1 q=>q)
 (
  refine HT.cut0 N [3,1,1,1,1,1] (c:=loopOf (rdB (C0 w B) 2) (.ref it) (envRd (C0 w B) f)) (by exact Hab.two B (by kernel_rfl) (by kernel_rfl)) fun b tk=>?_
  refine H3 fun y b tk=>?_
  exact HTa.val N [] [] 0 [] (a:=.next) (l:=y.l) (r:=y.r) (ch:=y.ch) (by exact Hab.two B (by kernel_rfl) (by kernel_rfl)) rfl ⟨rfl,rfl⟩)
theorem red_call {R:Result→Sx→Prop} {sq ini:Nat} {L:List (List KV)} {T0:List KV} (hs:ListsAt r sq L) (hf:∀ ps∈L,∀ p∈ps,Fine p) (hi:PairsAt r ini T0) (hn:T0.length+(L.map List.length).sum≤100)
  (G:∀ a r',Sub r r'→PairsAt r' a (laidLL T0 L)→R (.ok (.ret (.ref a))) ⟨ch,l,r'⟩):HC (C0 w B) h₀ none 172 ⟨ch,l,r⟩ (.call (.ref 103) ⟨[.ref 143,.ref sq,.ref ini],[]⟩) R:=by
 obtain ⟨las,n,hl,hp⟩:=hs
 obtain ⟨iads,m,him,hia⟩:=hi
 refine HC.enter N (lv:=171) (o:=topObj (C0 w B) 103) [0,0,1,1,1,1,1,1] [0] 1 [] 0 (by kernel_rfl) (by kernel_rfl) fun b tk=>?_
 refine ⟨envRd (C0 w B) b,(b,frameO #[ent w nFunction tk (.ref 143),ent w nSequence (tk+1) (.ref sq),ent w nInitial (tk+2) (.ref ini)] 3)::l,r,ch,by kernel_rfl,rfl,?_⟩
 have e:bodyCode (fdAt (some (topObj (C0 w B) 103))) (envRd (C0 w B) b) = .func (stmts (C0 w B) 103) (envRd (C0 w B) b):=by kernel_rfl
 rw [e]
 refine HC.func (lv:=170) ?_
 rw [stmtsRd]
 refine HT.execs_cons ?_
 have rest:∀ {t4 b2},HT (C0 w B) h₀ none 170 ⟨ch,(b2,iterO sq 0)::(b,fr4R w tk (tk+1) sq (tk+2) ini t4 b2)::l,r⟩ (execsZ [rdB (C0 w B) 1,rdB (C0 w B) 2,rdB (C0 w B) 3] (envRd (C0 w B) b)) (fun f x'=>R (.ok (.ret (match f with | .ret v=>v | _=>.none))) x') (fun vz0 vz1=>False):=by
  intro t4 b2
  refine HT.execs_cons ?_
  refine HT.choose (il:=[1,0]) (k:=2) (ir:=[]) rfl ?_
  refine red_s1 N him (fun h=>by injection h with h;exact absurd h (by decide)) fun t5=>?_
  refine HT.execs_cons ?_
  refine HT.choose (il:=[1,0]) (k:=2) (ir:=[]) rfl ?_
  refine red_for N hl hp hf ⟨iads,m,him,hia⟩ hn fun vl r' fr hr hv hfr=>?_
  rcases hfr with rfl | ⟨t6,el,rfl⟩
  ·intro b3 tk3
   refine HTa.val N [1] [] 1 [] (a:=.ret (.ref vl)) (l:=l) (r:=r') (ch:=ch) (by kernel_rfl) rfl ?_
   exact G _ _ hr hv
  ·intro b3 tk3
   refine HTa.val N [1] [] 1 [] (a:=.ret (.ref vl)) (l:=l) (r:=r') (ch:=ch) (by kernel_rfl) rfl ?_
   exact G _ _ hr hv
 refine HT.reads (r:=(sq,listO (refs las) n)::r) (Sub.cons hl (Sub.refl _)) ?_
 have rest':∀ {t4 b2},HT (C0 w B) h₀ none 170 ⟨ch,(b2,iterO sq 0)::(b,fr4R w tk (tk+1) sq (tk+2) ini t4 b2)::l,(sq,listO (refs las) n)::r⟩ (execsZ [rdB (C0 w B) 1,rdB (C0 w B) 2,rdB (C0 w B) 3] (envRd (C0 w B) b)) (fun f x'=>R (.ok (.ret (match f with | .ret v=>v | _=>.none))) x') (fun vz0 vz1=>False) :=
  fun {t4 b2}=>HT.reads (r:=r) Sub.tail rest
 (
  intro b2 tk2
  refine HTa.val N [0,0,1,1,2,2,1,2,1,3,3] [0,1] 2 [] (a:=.next) (l:=(b2,{ cls:=.type "list_iterator",data:=.fields #[.ref sq,.int 0 0] })::(b,frameO #[ent w (S [102,117,110,99,116,105,111,110]) tk (.ref 143),ent w (S [115,101,113,117,101,110,99,101]) (tk+1) (.ref sq),ent w (S [105,110,105,116,105,97,108]) (tk+2) (.ref ini),ent w (S [105,116]) tk2 (.ref b2)] 4)::l) (r:=(sq,listO (refs las) n)::r) (ch:=ch) (by exact Hab.two B (by kernel_rfl) (by kernel_rfl)) rfl ?_
  exact rest')
end
noncomputable def askB {α:Type} (c:Nat→Nat→Bool) (n:Nat):KasT α→Option α
 | .ret a=>some a
 | .ask i j k=>if i<n∧j<n∧i≠j then askB c n (k (c i j)) else none
theorem Calm.in1 {A:Around} {hd:Option Value} {lv:Nat} (K:Calm A hd (lv+1)):Calm A.in1 hd lv :=
 ⟨K.hd,by have:=K.deep;show A.depth+lv<_;lia,by have:=K.units;show A.units+1+4 * lv<_;lia⟩
section
variable {C:Cfg} {h₀:Heap} {hd:Option Value} {lv:Nat} {R:Result→Sx→Prop} {x:Sx} {E:Value→Sx→Prop}
noncomputable abbrev finR (C:Cfg) (h₀:Heap) (hd:Option Value) (lv:Nat) (R:Result→Sx→Prop):PySem.Fin→Sx→Prop:=fun fin x'=>match fin with
 | .done f=>R (.ok f) x'
 | .again c'=>c'.quiet=true∧HC C h₀ hd lv x' c' R
theorem fin_post {A:Around} {g d os} {B:Sem PySem.Fin} {s:Shared} (K:Calm A hd (lv+1)) (H:wpAny (model C.prog C.w) A.in1 B (fun fin s'=>∃ x',Stands C h₀ x' g d os s'∧finR C h₀ hd (lv+1) R fin x') (fun e s'=>∃ x',Stands C h₀ x' g d os s'∧R (.error e) x') s) :
  wpAny (model C.prog C.w) A.in1 B (fun fin s'=>match fin with | .done f=>∃ x',Stands C h₀ x' g d os s'∧R (.ok f) x' | .again c'=>c'.quiet=true∧codeAny (model C.prog C.w) A c' (fun r s'=>∃ x',Stands C h₀ x' g d os s'∧R r x') s') (fun e s'=>∃ x',Stands C h₀ x' g d os s'∧R (.error e) x') s:=by
 refine wpAny_mono H ?_ (fun vz0 vz1 q=>q)
 intro fin s' hZ0
 refine el_EA hZ0 fun x' hZ1 q=>?_
 try clear hZ0
 obtain ⟨b',tk',h',hE2,D'⟩:=hZ1
 subst hE2
 cases fin with
 | done f=>exact ⟨x',⟨b',tk',h',rfl,D'⟩,q⟩
 | again c'=>exact ⟨q.1,q.2 b' tk' A g d os h' K D'⟩
theorem HC.bodyS {T:String} {name:Str} {id:String} {Bt:Builtin} {self:Value} {rest:List Value} {kw:List (Str×Value)} (slot:Slot T name id) (entry:entryFor table id=some Bt) (args:argsOk id ⟨self::rest,kw⟩)
  (hT:∀ g d os b tk h,Rep C h₀ [] ⟨x.l,x.r,b,tk,x.ch⟩ h→Shared.TypeIs ⟨h,g,d,tk,os⟩ self T) (H:HT C h₀ hd lv x (Bt ⟨self::rest,kw⟩) (finR C h₀ hd (lv+1) R) (fun e x'=>R (.error e) x')):HC C h₀ hd (lv+1) x (.call (.builtin id) ⟨self::rest,kw⟩) R:=by
 intro b tk A g d os h K D
 exact codeAny_call_builtin slot.plain entry (slot.check _ _ _ _ _ _ _ _ (hT g d os b tk h D) args (fin_post K (H b tk A.in1 g d os h K.in1 D)))
theorem HC.bodyF {id:String} {Bt:Builtin} {args:List Value} {kw:List (Str×Value)} (kind:builtinKind id=none) (plain:plainId id=true) (entry:entryFor table id=some Bt) (ok:argsOk id ⟨args,kw⟩)
  (H:HT C h₀ hd lv x (Bt ⟨args,kw⟩) (finR C h₀ hd (lv+1) R) (fun e x'=>R (.error e) x')):HC C h₀ hd (lv+1) x (.call (.builtin id) ⟨args,kw⟩) R:=by
 intro b tk A g d os h K D
 refine codeAny_call_builtin plain entry ?_
 have hfin:=fin_post K (H b tk A.in1 g d os h K.in1 D)
 simp only [checkBuiltinCall,kind]
 cases hsig:Manifest.signature? id with
 | none=>exact wpAny_pure hfin
 | some sig =>
  simp only [argsOk,hsig] at ok
  have h2:Bind.checkArgs id sig ⟨args,kw⟩=pure ():=ok
  show wpAny _ _ (Bind.checkArgs id sig ⟨args,kw⟩) _ _ _
  rw [h2];exact wpAny_pure hfin
theorem Rep.dropFirst {p:Addr×Obj} {l r:Memo} {b tk ch h} (D:Rep C h₀ [] ⟨p::l,r,b,tk,ch⟩ h):Rep C h₀ [] ⟨l,r,b,tk,ch⟩ h:=D.choose (il:=[]) (k:=1) (ir:=[]) rfl b rfl tk
theorem HT.collectL {a:Addr} {its:Array Value} {n:Nat} {Q:List Value→Sx→Prop} (hl:(a,listO its n)∈x.l ∨ (a,listO its n)∈x.r) (hz:its.size≤1000000) (G:Q its.toList x):HT C h₀ hd lv x (collect (.ref a)) Q E:=by
 refine HT.lib fun A g d os b tk h K D=>?_
 have hi:Heap.IsList h a its.toList.toArray:=by rw [Array.toArray_toList];exact isList_of (Sx.mem_get hl D)
 refine collect_list (s:=⟨h,g,d,tk,os⟩) hi ?_ (by rw [Array.length_toList,sizeLine_eq];lia)
 have D1:=push_new (o:=listO #[] 0) D rfl tk
 have hb:h.objs.size=b:=D.size
 refine ⟨x,⟨b+1,tk,_,rfl,?_⟩,G⟩
 rw [Array.toArray_toList,hb]
 exact (update_first (f:=Obj.mapSeq (· ++ its)) D1 rfl rfl).dropFirst
theorem HT.newListL {vs:List Value} {Q:Value→Sx→Prop} (hz:vs.length≤1000000) (G:∀ p,Q (.ref p) (x.put (p,listO vs.toArray 0))):HT C h₀ hd lv x (newList vs) Q E:=by
 refine HT.lib fun A g d os b tk h K D=>?_
 refine wpAny_newList (s:=⟨h,g,d,tk,os⟩) ?_ (by rw [sizeLine_eq];lia)
 have hb:h.objs.size=b:=D.size
 show ∃ x',Stands C h₀ x' g d os _∧Q (.ref h.objs.size) x'
 rw [hb]
 exact ⟨_,⟨b+1,tk,_,rfl,push_new (o:=listO vs.toArray 0) D rfl tk⟩,G b⟩
theorem HT.newTupleL {vs:List Value} {Q:Value→Sx→Prop} (hz:vs.length≤1000000) (G:∀ p,Q (.ref p) (x.put (p,tupO vs.toArray))):HT C h₀ hd lv x (newTuple vs) Q E:=by
 refine HT.lib fun A g d os b tk h K D=>?_
 refine wpAny_newTuple (s:=⟨h,g,d,tk,os⟩) ?_ (by rw [sizeLine_eq];lia)
 have hb:h.objs.size=b:=D.size
 show ∃ x',Stands C h₀ x' g d os _∧Q (.ref h.objs.size) x'
 rw [hb]
 exact ⟨_,⟨b+1,tk,_,rfl,push_new (o:=tupO vs.toArray) D rfl tk⟩,G b⟩
theorem HT.items {a:Addr} {its:Array Value} {n:Nat} {Q:Array Value→Sx→Prop} (hl:(a,listO its n)∈x.l ∨ (a,listO its n)∈x.r) (G:Q its x):HT C h₀ hd lv x (Builtin.List.listItems (.ref a)) Q E :=
 HT.lib fun A g d os b tk h K D=>listItems_at (s:=⟨h,g,d,tk,os⟩) (Sx.mem_get hl D) rfl ⟨x,⟨b,tk,h,rfl,D⟩,G⟩
theorem HT.epoch {a:Addr} {its:Array Value} {n:Nat} {Q:Nat→Sx→Prop} (hl:(a,listO its n)∈x.l ∨ (a,listO its n)∈x.r) (G:Q n x):HT C h₀ hd lv x (seqEpoch a) Q E :=
 HT.lib fun A g d os b tk h K D=>seqEpoch_at (s:=⟨h,g,d,tk,os⟩) (Sx.mem_get hl D) rfl ⟨x,⟨b,tk,h,rfl,D⟩,G⟩
theorem HT.update1 {ch:Ch} {l r:Memo} {a:Addr} {its:Array Value} {n:Nat} {f:Array Value→Array Value} {Q:Unit→Sx→Prop} (hz:its.size≤1000000) (hz2:(f its).size≤1000000) (G:∀ n',Q () ⟨ch,(a,listO (f its) n')::l,r⟩) :
  HT C h₀ hd lv ⟨ch,(a,listO its n)::l,r⟩ (Builtin.List.listUpdate (.ref a) f) Q E:=by
 refine HT.lib fun A g d os b tk h K D=>?_
 refine listUpdate_at (s:=⟨h,g,d,tk,os⟩) (D.mem _ (.head _)) rfl ?_ (by rw [sizeLine_eq];lia) (by rw [sizeLine_eq];lia)
 exact ⟨_,⟨b,tk,_,rfl,update_first (f:=Obj.mapSeq f) (o':=listO (f its) (if (f its).size == its.size then n else n+1)) D rfl rfl⟩,G _⟩
theorem ask_all {g:Array GenState} {d:Drawn} {os:OsState} {A:Around} {κ:SortKind} {it:Array Keyed} {n:Nat} {c:Nat→Nat→Bool} (K:Calm A hd lv)
  (hc:∀ i j,i<n→j<n→i≠j→HT C h₀ hd lv x (keyLt' κ (kas_item it i).1 (kas_item it j).1) (fun b y=>b=c i j∧y=x) (fun vz0 vz1=>False)) {α:Type} (t:KasT α):∀ {a:α},askB c n t=some a→∀ s:Shared,Stands C h₀ x g d os s →
   t.kasWp (kas_cmp C.prog C.w A κ it) (fun a' s'=>a'=a∧Stands C h₀ x g d os s') s:=by
 induction t with
 | ret a =>
  intro a' e s S
  simp only [askB,Option.some.injEq] at e
  exact ⟨e,S⟩
 | ask i j k ih =>
  intro a' e s S
  unfold askB at e
  split at e
  ·rename_i hij
   obtain ⟨b,tk,h,hE1,D⟩:=S
   subst hE1
   show wpAny _ A (keyLt' κ _ _) _ _ _
   refine wpAny_mono (hc i j hij.1 hij.2.1 hij.2.2 b tk A g d os h K D) ?_ (fun _ _ ⟨_,_,q⟩=>q)
   intro bb s' hZ0
   refine el_EAA hZ0 fun y S' hE1 hE2=>?_
   try clear hZ0
   subst hE1
   subst hE2
   exact ih _ e s' S'
  ·cases e
end
section
variable {C:Cfg} {h₀:Heap} {hd:Option Value} {lv:Nat} {R:Result→Sx→Prop} {x:Sx} {E:Value→Sx→Prop}
theorem HT.runs {κ:SortKind} {ks vs:List Value} {c:Nat→Nat→Bool} {p:Array Nat} {Q:Unit×SortSt→Sx→Prop} (hl:ks.length=vs.length) (h2:2≤vs.length) (h64:vs.length<64)
  (hc:∀ i j u v,i<vs.length→j<vs.length→i≠j→ks[i]? = some u→ks[j]? = some v→HT C h₀ hd lv x (keyLt' κ u v) (fun b y=>b=c i j∧y=x) (fun vz0 vz1=>False))
  (hp:askB c vs.length (kas_sort vs.length)=some p)
  (G:∀ st',(arrOf st').map (·.2)=(p.toList.map fun i=>vs.getD i Value.none).toArray→p.size=vs.length→failedOf st'=none→Q ((),st') x) :
  HT C h₀ hd lv x ((sortRuns').run (SortSt.mk' κ (ks.toArray.zip vs.toArray) #[] 7 none)) Q E:=by
 refine HT.lib fun A g d os b tk h K D=>?_
 refine wpAny_mono (kat_run (κ:=κ) (Q:=fun st s'=>∃ x',Stands C h₀ x' g d os s'∧Q ((),st) x') (E:=fun e s'=>∃ x',Stands C h₀ x' g d os s'∧E e x') (G:=fun a' s'=>a'=p∧Stands C h₀ x g d os s') hl h2 h64 ?_ ?_) ?_ (fun vz0 vz1 q=>q)
 ·intro p' st' s' hps har hf hZ0
  refine el_A hZ0 fun hE1 S=>?_
  try clear hZ0
  subst hE1
  exact ⟨x,S,G st' (kat_snds hl har) hps hf⟩
 ·rw [kat_ask_eq hl]
  refine ask_all K (n:=vs.length) (c:=c) (fun i j hi hj hij=>?_) _ hp _ ⟨b,tk,h,rfl,D⟩
  rw [kat_item hl,kat_item hl]
  have e1:ks[i]? = some (ks.getD i .none):=by rw [List.getD_eq_getElem?_getD,List.getElem?_eq_getElem (by omega)];rfl
  have e2:ks[j]? = some (ks.getD j .none):=by rw [List.getD_eq_getElem?_getD,List.getElem?_eq_getElem (by omega)];rfl
  exact hc i j _ _ hi hj hij e1 e2
 ·rintro ⟨⟨⟩,st⟩ s' q
  exact q
noncomputable def Sorts (C:Cfg) (h₀:Heap) (hd:Option Value) (lv:Nat) (ch:Ch) (r:Memo) (its out:Array Value):Prop :=
 (its.size<2∧out=its) ∨ (2≤its.size∧∃ κ c p,(∀ l',HT C h₀ hd lv ⟨ch,l',r⟩ (keyKind' its) (fun k y=>k=κ∧y=⟨ch,l',r⟩) (fun vz0 vz1=>False)) ∧
  (∀ l' i j u v,i<its.size→j<its.size→i≠j→its[i]? = some u→its[j]? = some v→HT C h₀ hd lv ⟨ch,l',r⟩ (keyLt' κ u v) (fun b y=>b=c i j∧y=⟨ch,l',r⟩) (fun vz0 vz1=>False)) ∧
  askB c its.size (kas_sort its.size)=some p∧out=(p.toList.map fun i=>its.toList.getD i Value.none).toArray)
theorem HC.sort0 {ch:Ch} {l r:Memo} {D:Addr} {its out:Array Value} {n:Nat} (hz:its.size<64) (hs:Sorts C h₀ hd lv ch r its out) (G:∀ n',R (.ok (.ret .none)) ⟨ch,(D,listO out n')::l,r⟩) :
  HC C h₀ hd (lv+1) ⟨ch,(D,listO its n)::l,r⟩ (.call (.builtin "list.sort") ⟨[.ref D],[]⟩) R:=by
 refine HC.bodyS slot_list_sort entry_list_sort (args_list_sort _) (fun g d os b tk h D=>⟨_,D.mem _ (.head _),rfl⟩) ?_
 rw [list_sort_plain]
 refine HT.bind (HT.items (.inl (.head _)) ?_)
 refine HT.bind (HT.update1 (f:=fun vz0=>#[]) (by omega) (by simp) fun n1=>?_)
 refine HT.bind (HT.epoch (.inl (.head _)) ?_)
 refine HT.bind (HT.newTupleL (by rw [Array.length_toList];omega) fun p1=>?_)
 refine HT.bind (HT.newListL (by simp) fun p2=>?_)
 refine HT.holding ?_
 refine HT.choose (il:=[2]) (k:=3) (ir:=[]) rfl ?_
 show HT C h₀ hd lv ⟨ch,(D,listO #[] n1)::l,r⟩ _ _ _
 dsimp only
 have tail:∀ {st:SortSt},(arrOf st).map (·.2)=out→out.size≤1000000→failedOf st=none→HT C h₀ hd lv ⟨ch,(D,listO #[] n1)::l,r⟩ (do
   let sorted:=(arrOf st).map (·.2)
   let touched:=(← seqEpoch D) != n1
   Builtin.List.listUpdate (.ref D) fun vz0=>sorted
   if let some e:=failedOf st then rule "list.sort.comparison-raised";throw e
   if touched then rule "list.sort.modified";raiseError "ValueError" "list modified during sort"
   ret .none:Sem PySem.Fin) (finR C h₀ hd (lv+1) R) (fun e x'=>R (.error e) x'):=by
  intro st h1 hz h2
  dsimp only
  rw [h1,h2]
  refine HT.bind (HT.epoch (.inl (.head _)) ?_)
  refine HT.bind (HT.update1 (f:=fun vz0=>out) (by simp) hz fun n2=>?_)
  simp only [bne_self_eq_false,Bool.false_eq_true,if_false]
  exact HT.pure' (G n2)
 rcases hs with ⟨h2,rfl⟩ | ⟨h2,κ,c,p,hκ,hc,hp,rfl⟩
 ·rw [if_pos h2,if_pos h2]
  refine HT.bind (HT.pure' ?_)
  rw [StateT.run_pure]
  refine HT.bind (HT.pure' ?_)
  refine tail (st:=SortSt.mk' general' (out.zip out) #[] 7 none) ?_ (by omega) rfl
  show (out.zip out).map (·.2)=out
  apply Array.toList_inj.mp
  rw [Array.toList_map,Array.toList_zip,List.map_snd_zip (Nat.le_refl _)]
 ·have hn:¬ its.size<2:=by omega
  rw [if_neg hn,if_neg hn]
  refine HT.bind (HT.mono (hκ _) ?_ (fun vz0 vz1 q=>q.elim))
  intro k y hZ0
  refine el_A hZ0 fun hE1 hE2=>?_
  try clear hZ0
  subst hE1
  subst hE2
  have ei:its=its.toList.toArray:=by rw [Array.toArray_toList]
  refine HT.bind (HT.ofEq (t':=(sortRuns').run (SortSt.mk' k (its.toList.toArray.zip its.toList.toArray) #[] 7 none)) (by rw [Array.toArray_toList]) ?_)
  have hlen:its.toList.length=its.size:=Array.length_toList
  refine HT.runs (c:=c) (p:=p) rfl (by omega) (by omega) (fun i j u v hi hj hij hu hv=>hc _ i j u v (by omega) (by omega) hij (by rw [←Array.getElem?_toList];exact hu) (by rw [←Array.getElem?_toList];exact hv)) (by rw [hlen];exact hp) fun st h3 h4 h5=>?_
  refine tail h3 ?_ h5
  rw [List.size_toArray,List.length_map,Array.length_toList];omega
theorem HC.sorted0 (N:NatOk C h₀) {ch:Ch} {l r:Memo} {a:Addr} {its out:Array Value} {n:Nat} (ha:(a,listO its n)∈l ∨ (a,listO its n)∈r) (hz:its.size<64) (hs:Sorts C h₀ none lv ch r its out) (G:∀ D n',R (.ok (.ret (.ref D))) ⟨ch,(D,listO out n')::l,r⟩) :
  HC C h₀ none (lv+2) ⟨ch,l,r⟩ (.call (.builtin "sorted") ⟨[.ref a],[]⟩) R:=by
 refine HC.bodyF kind_sorted plain_sorted entry_sorted (args_sorted1 _) ?_
 unfold Builtin.«sorted»
 refine HT.bind (t:=checkCount "sorted" 1 1 _) (HT.pure' ?_)
 refine HT.bind (HT.collectL ha (by omega) ?_)
 refine HT.bind (HT.newListL (by rw [Array.length_toList];omega) fun D=>?_)
 rw [Array.toArray_toList]
 refine HT.cut0 N [] (c:=.call (.builtin "list.sort") ⟨[.ref D],[]⟩) (by kernel_rfl) fun b tk=>?_
 refine HC.sort0 hz hs fun n'=>?_
 exact HT.val0 N [] (a:=.done (.ret (.ref D))) (by kernel_rfl) (G D n')
end
noncomputable def cmpK (ks:List Nat) (i j:Nat):Bool:=decide (kc (ks.getD i 0)<kc (ks.getD j 0))
noncomputable def posK (ks:List Nat):List Nat:=keysL.filterMap fun k=>ks.idxOf? k
noncomputable def chkK (ks:List Nat):Bool:=match askB (cmpK ks) ks.length (kas_sort ks.length) with
 | some p=>p.toList == posK ks
 | none=>false
theorem chk2:((List.range 4).all fun a=>(List.range 4).all fun b=>a == b || chkK [a,b])=true:=by decide +kernel
theorem chk3:((List.range 4).all fun a=>(List.range 4).all fun b=>(List.range 4).all fun c=>a == b || a == c || b == c || chkK [a,b,c])=true:=by decide +kernel
theorem chk4:((List.range 4).all fun a=>(List.range 4).all fun b=>(List.range 4).all fun c=>(List.range 4).all fun d=>a == b || a == c || a == d || b == c || b == d || c == d || chkK [a,b,c,d])=true:=by decide +kernel
theorem chk5:((List.range 4).all fun a=>(List.range 4).all fun b=>(List.range 4).all fun c=>(List.range 4).all fun d=>(List.range 4).all fun e=>(a == b || a == c || a == d || a == e) || (b == c || b == d || b == e) || (c == d || c == e) || d == e)=true:=by decide +kernel
theorem chk_is {ks:List Nat} (h2:2≤ks.length) (hn:ks.Nodup) (hk:∀ k∈ks,k<4):ks.length≤4∧askB (cmpK ks) ks.length (kas_sort ks.length)=some (posK ks).toArray:=by
 have of:∀ {ks:List Nat},chkK ks=true→askB (cmpK ks) ks.length (kas_sort ks.length)=some (posK ks).toArray:=by
  intro ks h
  unfold chkK at h
  split at h
  ·rename_i p hp
   rw [hp,←beq_iff_eq.mp h,Array.toArray_toList]
  ·cases h
 match ks,h2,hn,hk with
 | [a,b],_,hn,hk =>
  simp only [List.nodup_cons,List.mem_cons,List.not_mem_nil,or_false,List.nodup_nil,not_or,not_false_eq_true,and_true,forall_eq_or_imp,forall_eq,false_implies,implies_true] at hn hk
  have h:=List.all_eq_true.mp (List.all_eq_true.mp chk2 a (List.mem_range.mpr hk.1)) b (List.mem_range.mpr hk.2)
  simp only [Bool.or_eq_true,beq_iff_eq] at h
  exact ⟨by simp,of (by rcases h with h | h;exact absurd h hn;exact h)⟩
 | [a,b,c],_,hn,hk =>
  simp only [List.nodup_cons,List.mem_cons,List.not_mem_nil,or_false,List.nodup_nil,not_or,not_false_eq_true,and_true,forall_eq_or_imp,forall_eq,false_implies,implies_true] at hn hk
  have h:=List.all_eq_true.mp (List.all_eq_true.mp (List.all_eq_true.mp chk3 a (List.mem_range.mpr hk.1)) b (List.mem_range.mpr hk.2.1)) c (List.mem_range.mpr hk.2.2)
  simp only [Bool.or_eq_true,beq_iff_eq] at h
  exact ⟨by simp,of (by rcases h with ((h | h) | h) | h;exact absurd h hn.1.1;exact absurd h hn.1.2;exact absurd h hn.2;exact h)⟩
 | [a,b,c,d],_,hn,hk =>
  simp only [List.nodup_cons,List.mem_cons,List.not_mem_nil,or_false,List.nodup_nil,not_or,not_false_eq_true,and_true,forall_eq_or_imp,forall_eq,false_implies,implies_true] at hn hk
  have h:=List.all_eq_true.mp (List.all_eq_true.mp (List.all_eq_true.mp (List.all_eq_true.mp chk4 a (List.mem_range.mpr hk.1)) b (List.mem_range.mpr hk.2.1)) c (List.mem_range.mpr hk.2.2.1)) d (List.mem_range.mpr hk.2.2.2)
  simp only [Bool.or_eq_true,beq_iff_eq] at h
  refine ⟨by simp,of ?_⟩
  rcases h with ((((((h | h) | h) | h) | h) | h) | h)
  ·exact absurd h hn.1.1
  ·exact absurd h hn.1.2.1
  ·exact absurd h hn.1.2.2
  ·exact absurd h hn.2.1.1
  ·exact absurd h hn.2.1.2
  ·exact absurd h hn.2.2
  ·exact h
 | a::b::c::d::e::r,_,hn,hk =>
  exfalso
  simp only [List.nodup_cons,List.mem_cons,not_or,forall_eq_or_imp] at hn hk
  have h:=List.all_eq_true.mp (List.all_eq_true.mp (List.all_eq_true.mp (List.all_eq_true.mp (List.all_eq_true.mp chk5 a (List.mem_range.mpr hk.1)) b (List.mem_range.mpr hk.2.1)) c (List.mem_range.mpr hk.2.2.1)) d (List.mem_range.mpr hk.2.2.2.1)) e (List.mem_range.mpr hk.2.2.2.2.1)
  simp only [Bool.or_eq_true,beq_iff_eq] at h
  clear hk
  rcases h with ((h | h) | h) | h
  ·rcases h with ((h | h) | h) | h
   ·exact hn.1.1 h
   ·exact hn.1.2.1 h
   ·exact hn.1.2.2.1 h
   ·exact hn.1.2.2.2.1 h
  ·rcases h with (h | h) | h
   ·exact hn.2.1.1 h
   ·exact hn.2.1.2.1 h
   ·exact hn.2.1.2.2.1 h
  ·rcases h with h | h
   ·exact hn.2.2.1.1 h
   ·exact hn.2.2.1.2.1 h
  ·exact hn.2.2.2.1.1 h
noncomputable def sortT (T:List KV):List KV:=(posK (T.map (·.1))).map fun i=>T.getD i (0,0)
noncomputable def Tab (T:List KV):Prop:=(T.map (·.1)).Nodup∧∀ p∈T,p.1<4∧p.2<5
theorem Tab.keys {T:List KV} (h:Tab T):∀ k∈T.map (·.1),k<4:=by
 intro k hk
 refine el_EA (List.mem_map.mp hk) fun p hp hE2=>?_
 subst hE2
 exact (h.2 p hp).1
theorem idxOf?_some {ks:List Nat} {k i:Nat} (h:ks.idxOf? k=some i):ks[i]? = some k:=by
 induction ks generalizing i with
 | nil=>simp [List.idxOf?] at h
 | cons a ks ih =>
  rw [List.idxOf?_cons] at h
  by_cases e:a == k
  ·rw [if_pos e] at h
   cases h
   rw [beq_iff_eq.mp e];rfl
  ·rw [if_neg e] at h
   refine el_EA (Option.map_eq_some_iff.mp h) fun j hj hE2=>?_
   subst hE2
   exact ih hj
theorem posK_lt {ks:List Nat}:∀ i∈posK ks,i<ks.length:=by
 intro i hi
 refine el_EA (List.mem_filterMap.mp hi) fun k vz0 hk=>?_
 exact (List.getElem?_eq_some_iff.mp (idxOf?_some hk)).1
theorem Tab.le4 {T:List KV} (h:Tab T):T.length≤4:=by
 rcases (by lia:T.length<2 ∨ 2≤T.length) with h2 | h2
 ·lia
 ·have:=(chk_is (ks:=T.map (·.1)) (by rw [List.length_map];exact h2) h.1 h.keys).1
  rwa [List.length_map] at this
theorem posK_one {k:Nat} (hk:k<4):posK [k]=[0]:=by
 rcases lt4 (by assumption:k<4) with rfl | rfl | rfl | rfl <;> decide
theorem all2_pick {α β:Type} {P:α→β→Prop} {as:List α} {bs:List β} (h:All2 P as bs) (da:α) (db:β):∀ {is:List Nat},(∀ i∈is,i<bs.length)→All2 P (is.map fun i=>as.getD i da) (is.map fun i=>bs.getD i db)
 | [],_=>.nil
 | i::is,hi=>by
  have h1:=hi i (.head _)
  have e1:bs[i]? = some (bs.getD i db):=by rw [List.getD_eq_getElem?_getD,List.getElem?_eq_getElem h1];rfl
  refine el_EA (h.getR e1) fun a ha p=>?_
  have e2:as.getD i da=a:=by rw [List.getD_eq_getElem?_getD,ha];rfl
  refine .cons ?_ (all2_pick h da db fun j hj=>hi j (.tail _ hj))
  show P (as.getD i da) (bs.getD i db)
  rw [e2];exact p
section
variable {C:Cfg} {h₀:Heap} {lv:Nat} {R:Result→Sx→Prop} {ch:Ch} {l r:Memo}
theorem tups_of {h:Heap} (hr:∀ p∈r,h.get? p.1=some p.2) {ads:List Addr} {T:List KV} (H:All2 (PairAt r) ads T):∃ fs,KatTups h (ads.map Value.ref) fs∧fs.length=T.length∧∀ v∈fs,∃ X t,v = .str X t:=by
 induction H with
 | nil=>exact ⟨[],KatTups.nil,rfl,fun vz0 h=>nomatch h⟩
 | cons p rest ih =>
  refine el_EE p fun t1 t2 hm=>?_
  refine el_EAA ih fun fs h1 h2 h3=>?_
  refine ⟨_::fs,KatTups.cons (hr _ hm) rfl rfl rfl h1,congrArg Nat.succ h2,?_⟩
  intro v hv
  rcases List.mem_cons.mp hv with rfl | hv
  ·exact ⟨_,_,rfl⟩
  ·exact h3 v hv
theorem short_refs {ads:List Addr} {T:List KV} (hp:All2 (PairAt r) ads T) (hT:Tab T) (h2:T.length<2):refs ((posK (T.map (·.1))).map fun i=>ads.getD i 0)=refs ads:=by
 cases hp with
 | nil=>rfl
 | cons p q=>cases q with
  | nil =>
   rw [List.map_cons,List.map_nil,posK_one (hT.2 _ (.head _)).1]
   rfl
  | cons _ _=>exact absurd h2 (Nat.not_lt_of_le (Nat.le_add_left 2 _))
theorem sorts_pairs {ads:List Addr} {T:List KV} (hp:All2 (PairAt r) ads T) (hT:Tab T):Sorts C h₀ none lv ch r (refs ads) (refs ((posK (T.map (·.1))).map fun i=>ads.getD i 0)):=by
 have hal:=hp.length
 rcases (by lia:T.length<2 ∨ 2≤T.length) with h2 | h2
 ·exact .inl ⟨by rw [refs_size];lia,short_refs hp hT h2⟩
 ·refine el_A (chk_is (ks:=T.map (·.1)) (by rw [List.length_map];exact h2) hT.1 hT.keys) fun h4 hask=>?_
  rw [List.length_map] at h4 hask
  have hsz:(refs ads).size=T.length:=by rw [refs_size,hal]
  refine .inr ⟨by rw [hsz];exact h2,tuples' true,cmpK (T.map (·.1)),(posK (T.map (·.1))).toArray,fun l'=>?_,fun l' i j u v hi hj hij hu hv=>?_,by rw [hsz];exact hask,?_⟩
  ·refine HT.lib fun A g d os b tk h K D=>?_
   refine el_EAA (tups_of (h:=h) D.memR hp) fun fs h1 h3 h5=>?_
   refine kat_kind (s:=⟨h,g,d,tk,os⟩) (T:=.type "str") h1 (by lia) (fun v hv=>?_) (by rfl) ?_
   ·refine el_EE (h5 v hv) fun X t hE2=>?_
    subst hE2
    exact Looks.now
   ·exact ⟨_,⟨b,tk,h,rfl,D⟩,rfl,rfl⟩
  ·refine el_EA (refs_get hu) fun a1 ha1 hE2=>?_
   subst hE2
   refine el_EA (refs_get hv) fun a2 ha2 hE2=>?_
   subst hE2
   refine el_EAEE (hp.get (a:=a1) ha1) fun p1 hp1 u1 u2 hm1=>?_
   refine el_EAEE (hp.get (a:=a2) ha2) fun p2 hp2 w1 w2 hm2=>?_
   have hne:kc p1.1≠kc p2.1:=by
    have k1:=(hT.2 p1 (List.mem_of_getElem? hp1)).1
    have k2:=(hT.2 p2 (List.mem_of_getElem? hp2)).1
    have hne:p1.1≠p2.1:=by
     intro e
     have hn:=hT.1
     have g1:(T.map (·.1))[i]? = some p1.1:=by rw [List.getElem?_map,hp1];rfl
     have g2:(T.map (·.1))[j]? = some p1.1:=by rw [List.getElem?_map,hp2,e];rfl
     exact hij ((List.getElem?_inj (List.getElem?_eq_some_iff.mp g1).1 hn).mp (g1.trans g2.symm))
    intro e
    apply hne
    rcases lt4 (by assumption:p1.1<4) with h | h | h | h <;> rcases lt4 (by assumption:p2.1<4) with h' | h' | h' | h' <;> rw [h,h'] at e ⊢ <;> exact absurd e (by decide)
   have hc:cmpK (T.map (·.1)) i j=decide (kc p1.1<kc p2.1):=by
    unfold cmpK
    rw [List.getD_eq_getElem?_getD,List.getD_eq_getElem?_getD,List.getElem?_map,List.getElem?_map,hp1,hp2]
    rfl
   refine HT.lib fun A g d os b tk h K D=>?_
   refine kat_lt (s:=⟨h,g,d,tk,os⟩) (D.memR _ hm1) rfl (D.memR _ hm2) rfl ?_
   show KatLex _ _ _ _ _ _ [(.str (S [kc p1.1]) u1,.str (S [kc p2.1]) w1),(vV p1.2 u2,vV p2.2 w2)] 0 _
   refine kat_cons (wpAny_eqBool_str ?_)
   have e1:decide (S [kc p1.1]=S [kc p2.1])=false:=decide_eq_false (fun e=>hne (by injection e with e;injection e with e;injection e))
   rw [e1]
   refine kat_no (oneLt_str ?_)
   refine ⟨_,⟨b,tk,h,rfl,D⟩,?_,rfl⟩
   rw [hc]
   show decide ([kc p1.1] < [kc p2.1])=_
   rw [decide_eq_decide]
   constructor
   ·intro h
    rcases List.cons_lt_cons_iff.mp h with h | ⟨_,h⟩
    ·exact h
    ·exact absurd h (List.not_lt_nil _)
   ·intro h
    exact List.cons_lt_cons_iff.mpr (.inl h)
  ·show refs _=_
   unfold refs
   rw [List.map_map]
   congr 1
   refine List.map_congr_left fun i hi=>?_
   have hlt:=posK_lt i hi
   rw [List.length_map] at hlt
   show Value.ref (ads.getD i 0)=(ads.map Value.ref).getD i .none
   rw [List.getD_eq_getElem?_getD,List.getD_eq_getElem?_getD,List.getElem?_map,List.getElem?_eq_getElem (by lia)]
   rfl
theorem HC.sortedT (N:NatOk C h₀) {a:Addr} {T:List KV} (hp:PairsAt r a T) (hT:Tab T) (G:∀ D n' ads',All2 (PairAt r) ads' (sortT T)→R (.ok (.ret (.ref D))) ⟨ch,(D,listO (refs ads') n')::l,r⟩) :
  HC C h₀ none (lv+2) ⟨ch,l,r⟩ (.call (.builtin "sorted") ⟨[.ref a],[]⟩) R:=by
 obtain ⟨ads,n,hm,hal⟩:=hp
 have h4:=hT.le4
 refine HC.sorted0 N (.inr hm) (by rw [refs_size,hal.length];lia) (sorts_pairs hal hT) fun D n'=>G D n' _ (all2_pick hal 0 (0,0) fun i hi=>?_)
 have:=posK_lt i hi
 rwa [List.length_map] at this
end
noncomputable def lk (T:List KV) (k:Nat):Option Nat:=(T.find? fun p=>p.1 == k).map (·.2)
theorem kc_inj {a b:Nat} (ha:a<4) (hb:b<4) (h:kc a=kc b):a=b:=by
 rcases lt4 (by assumption:a<4) with rfl | rfl | rfl | rfl <;> rcases lt4 (by assumption:b<4) with rfl | rfl | rfl | rfl <;> first | rfl | exact absurd h (by decide)
theorem idx_lk (T:List KV) (k:Nat):((T.map (·.1)).idxOf? k).map (fun i=>T.getD i (0,0))=(lk T k).map fun v=>(k,v):=by
 induction T with
 | nil=>rfl
 | cons p T ih =>
  rw [List.map_cons,List.idxOf?_cons]
  unfold lk at ih ⊢
  rw [List.find?_cons]
  by_cases e:(p.1 == k)=true
  ·rw [if_pos e,e]
   obtain ⟨a,v⟩:=p
   have:a=k:=beq_iff_eq.mp e
   subst this
   rfl
  ·rw [if_neg e]
   have e':(p.1 == k)=false:=by simpa using e
   rw [e',←ih,Option.map_map]
   rfl
theorem sortT_lk (T:List KV):sortT T=keysL.filterMap fun k=>(lk T k).map fun v=>(k,v):=by
 unfold sortT posK
 rw [List.map_filterMap]
 congr 1
 funext k
 exact idx_lk T k
theorem lk_keep {T:List KV} {a k:Nat} (hT:∀ p∈T,p.1<4) (ha:a<4) (hk:k<4) (h:a≠k):lk (keepK (kc a) T) k=lk T k:=by
 induction T with
 | nil=>rfl
 | cons p T ih =>
  have ih':=ih fun q hq=>hT q (.tail _ hq)
  have hp:=hT p (.head _)
  unfold keepK lk at ih' ⊢
  rw [List.filter_cons,List.find?_cons]
  by_cases e:(kc p.1 != kc a)=true
  ·rw [if_pos e,List.find?_cons]
   by_cases e2:(p.1 == k)=true
   ·rw [e2]
   ·have e2':(p.1 == k)=false:=by simpa using e2
    rw [e2'];exact ih'
  ·rw [if_neg e]
   have e1:kc p.1=kc a:=by simpa using e
   have e3:=kc_inj hp ha e1
   have e4:(p.1 == k)=false:=by rw [e3];simpa using h
   rw [e4];exact ih'
theorem lk_keep_self {T:List KV} {a:Nat}:lk (keepK (kc a) T) a=none:=by
 induction T with
 | nil=>rfl
 | cons p T ih =>
  unfold keepK lk at ih ⊢
  rw [List.filter_cons]
  by_cases e:(kc p.1 != kc a)=true
  ·rw [if_pos e,List.find?_cons]
   have e2:(p.1 == a)=false:=by
    have:p.1≠a:=fun q=>by rw [q] at e;simp at e
    simpa using this
   rw [e2];exact ih
  ·rw [if_neg e];exact ih
theorem lk_append (T U:List KV) (k:Nat):lk (T ++ U) k=(lk T k).or (lk U k):=by
 unfold lk
 rw [List.find?_append]
 cases T.find? (fun p=>p.1 == k) <;> rfl
theorem Tab.lt4 {T:List KV} (h:Tab T):∀ p∈T,p.1<4:=fun p hp=>(h.2 p hp).1
theorem Tab.laid {T:List KV} {p:KV} (h:Tab T) (hp:Fine p):Tab (laidL T p):=by
 have hk:∀ q∈keepK (kc p.1) T,q∈T∧q.1≠p.1:=by
  intro q hq
  refine el_A (List.mem_filter.mp hq) fun h1 h2=>?_
  exact ⟨h1,fun e=>by rw [e] at h2;simp at h2⟩
 have hn:((keepK (kc p.1) T).map (·.1)).Nodup:=(List.filter_sublist.map _).nodup h.1
 unfold laidL
 split
 ·rw [List.append_nil]
  exact ⟨hn,fun q hq=>h.2 q (hk q hq).1⟩
 ·rename_i h5
  refine ⟨?_,fun q hq=>?_⟩
  ·rw [List.map_append]
   refine List.nodup_append.mpr ⟨hn,by simp,fun a ha b hb e=>?_⟩
   refine el_EA (List.mem_map.mp ha) fun q hq hE2=>?_
   subst hE2
   have hb':b=p.1:=by simpa using hb
   exact (hk q hq).2 (e.trans hb')
  ·rcases List.mem_append.mp hq with hq | hq
   ·exact h.2 q (hk q hq).1
   ·have:q=p:=by simpa using hq
    subst this
    exact ⟨hp.1,by have:=hp.2;lia⟩
theorem lk_laid {T:List KV} {p:KV} {k:Nat} (h:Tab T) (hp:Fine p) (hk:k<4):lk (laidL T p) k=if kc p.1=kc k then (if p.2=5 then none else some p.2) else lk T k:=by
 unfold laidL
 rw [lk_append]
 by_cases e:p.1=k
 ·subst e
  rw [if_pos rfl,lk_keep_self]
  split
  ·rfl
  ·simp [lk]
 ·have e2:¬ kc p.1=kc k:=fun q=>e (kc_inj hp.1 hk q)
  rw [if_neg e2,lk_keep h.lt4 hp.1 hk e]
  have e3:lk (if p.2=5 then [] else [p]) k=none:=by
   split
   ·rfl
   ·have e4:(p.1 == k)=false:=by simpa using e
    simp [lk,e4]
  rw [e3]
  cases lk T k <;> rfl
theorem laid_fold {P:List KV} (hP:∀ p∈P,Fine p):∀ {T:List KV},Tab T→Tab (P.foldl laidL T)∧∀ k,k<4→lk (P.foldl laidL T) k=match (selV (kc k) P).getLast? with
  | some v=>if v=5 then none else some v
  | none=>lk T k:=by
 induction P with
 | nil=>intro T h;exact ⟨h,fun k vz0=>rfl⟩
 | cons p P ih =>
  intro T h
  have hp:=hP p (.head _)
  refine el_A (ih (fun q hq=>hP q (.tail _ hq)) (h.laid hp)) fun h1 h2=>?_
  refine ⟨h1,fun k hk=>?_⟩
  rw [List.foldl_cons,h2 k hk,lk_laid h hp hk]
  have e:selV (kc k) (p::P)=if kc p.1=kc k then p.2::selV (kc k) P else selV (kc k) P:=by
   unfold selV
   rw [List.filter_cons]
   by_cases e:kc p.1=kc k <;> simp [e]
  rw [e]
  by_cases e2:kc p.1=kc k
  ·rw [if_pos e2,if_pos e2,List.getLast?_cons]
   cases (selV (kc k) P).getLast? <;> rfl
  ·rw [if_neg e2,if_neg e2]
theorem selVL_flat (kk:Nat) (L:List (List KV)):selVL kk L=selV kk L.flatten:=by
 unfold selVL selV
 rw [List.filter_flatten,List.map_flatten,List.map_map,List.flatMap_def]
 rfl
theorem filterMap_same {α β:Type} {f g:α→Option β}:∀ {l:List α},(∀ a∈l,f a=g a)→l.filterMap f=l.filterMap g
 | [],_=>rfl
 | a::l,h=>by rw [List.filterMap_cons,List.filterMap_cons,h a (.head _),filterMap_same fun b hb=>h b (.tail _ hb)]
theorem tab_nil:Tab []:=⟨List.nodup_nil,fun vz0 h=>nomatch h⟩
theorem laid_all {L:List (List KV)} (hL:∀ ps∈L,∀ p∈ps,Fine p):Tab (laidLL [] L)∧sortT (laidLL [] L)=tableL L:=by
 have e:laidLL [] L=L.flatten.foldl laidL []:=by unfold laidLL;rw [List.foldl_flatten]
 have hf:∀ p∈L.flatten,Fine p:=fun p hp=>by
  refine el_EA (List.mem_flatten.mp hp) fun ps h1 h2=>?_
  exact hL ps h1 p h2
 refine el_A (laid_fold hf tab_nil) fun h1 h2=>?_
 rw [e]
 refine ⟨h1,?_⟩
 rw [sortT_lk]
 unfold tableL
 have hk:∀ k∈keysL,k<4:=by decide
 refine filterMap_same fun k hk'=>?_
 rw [h2 k (hk k hk')]
 unfold rowK lastV
 rw [selVL_flat]
 cases (selV (kc k) L.flatten).getLast? <;> rfl
noncomputable abbrev frC (w:World) (t1 sc t2 ls t3:Nat) (vh:Value) (t4 rd t5 tb:Nat):Obj:=frameO #[ent w nScript t1 (.ref sc),ent w nListsL t2 (.ref ls),ent w nHeader t3 vh,ent w nRead t4 (.ref rd),ent w nTables t5 (.ref tb)] 5
section
variable {w:World} {B:Hab} {h₀:Heap} (N:NatOk (C0 w B) h₀) {f sc ls rd t1 t2 t3 t4 c1 c2:Nat} {vh:Value} {l r:Memo} {ch:Ch} {Q:Flow→Sx→Prop}
include N
theorem law_s6 {L:List (List KV)} (hp:ListsAt r rd L) (hf:∀ ps∈L,∀ p∈ps,Fine p) (hn:(L.map List.length).sum≤100) (hn2:L.length≤100)
  (G:∀ t5 tb d1 d2 n1 n2 a1 a2 r',Sub r r'→(tb,listO #[.ref d1,.ref d2] 0)∈r'→All2 (PairAt r') a1 (tableL (L.take 1))→All2 (PairAt r') a2 (tableL L)→Q .next ⟨ch,(f,frC w t1 sc t2 ls t3 vh t4 rd t5 tb)::(d1,listO (refs a1) n1)::(d2,listO (refs a2) n2)::l,r'⟩) :
  HT (C0 w B) h₀ none 300 ⟨ch,(f,frA w t1 sc t2 ls t3 vh t4 rd)::l,r⟩ (execsZ [lB (C0 w B) 6] (envLaw (C0 w B) f)) Q (fun vz0 vz1=>False):=by
 obtain ⟨las,n,hl,hal⟩:=hp
 have hlen:=hal.length
 have hp:ListsAt r rd L:=⟨las,n,hl,hal⟩
 refine el_A (laid_all (L:=L.take 1) fun ps h=>hf ps (List.mem_of_mem_take h)) fun hT1 hS1=>?_
 refine el_A (laid_all hf) fun hT2 hS2=>?_
 have hn1:((L.take 1).map List.length).sum≤100:=by
  have h3:((L.map List.length).take 1).sum+((L.map List.length).drop 1).sum=(L.map List.length).sum:=by rw [←List.sum_append,List.take_append_drop]
  rw [List.map_take];lia
 refine HT.reads (r:=(rd,listO (refs las) n)::r) (Sub.cons hl (Sub.refl _)) ?_
 (
  intro b tk
  refine HTa.cutN N [0,0,0,0,1,2,2,2] [0,1] 2 [] (c:=.call (.builtin "list.__getitem__") ⟨[.ref rd,.ref b],[]⟩) (l:=(b,{ cls:=.type "slice",data:=.fields #[.none,.int 1 tk,.none] })::(f,frA w t1 sc t2 ls t3 vh t4 rd)::l) (r:=(rd,listO (refs las) n)::r) (ch:=ch) (by kernel_rfl) rfl ?_
  refine HC.sliceL (.inr (.head _)) (.head _) .none (.int 1 _) .none (by simp) (by rw [refs_size];lia) fun p=>?_
  rw [slice1]
  intro b2 tk2
  refine HTa.cut N [0] [3] 4 [0,1] (c:=.call (.ref 103) ⟨[.ref 143,.ref p,.ref b2],[]⟩) (l:=(f,frA w t1 sc t2 ls t3 vh t4 rd)::l) (r:=(b2,listO #[] 0)::(p,listO (refs (List.take 1 las)) 0)::(rd,listO (refs las) n)::r) (ch:=ch) (by kernel_rfl) rfl (by intro h;cases h) ?_
  have hsub:Sub r ((b2,listO #[] 0)::(p,listO (refs (List.take 1 las)) 0)::(rd,listO (refs las) n)::r):=Sub.tail.trans (Sub.tail.trans Sub.tail)
  refine HC.less (red_call N (L:=L.take 1) (T0:=[]) ⟨las.take 1,0,.tail _ (.head _),(hal.take 1).mono fun vz0 vz1=>PairsAt.mono hsub⟩ (fun ps h=>hf ps (List.mem_of_mem_take h)) ⟨[],0,.head _,.nil⟩ (by simpa using hn1) fun q r1 hr1 hq=>?_) (by decide)
  refine HT.cut0 N [] (c:=.call (.builtin "sorted") ⟨[.ref q],[]⟩) (by kernel_rfl) fun b3 tk3=>?_
  refine HC.less (lv:=2) (HC.sortedT N hq hT1 fun d1 n1 a1 ha1=>?_) (by decide)
  rw [hS1] at ha1
  intro b4 tk4
  refine HTa.cut N [0,0,0,0,3,0] [1,2] 3 [0] (c:=.call (.ref 103) ⟨[.ref 143,.ref rd,.ref b4],[]⟩) (l:=(d1,listO (refs a1) n1)::(f,frA w t1 sc t2 ls t3 vh t4 rd)::l) (r:=(b4,listO #[] 0)::r1) (ch:=ch) (by kernel_rfl) rfl (by intro h;cases h) ?_
  have hsub2:Sub r ((b4,listO #[] 0)::r1):=(hsub.trans hr1).trans Sub.tail
  refine HC.less (red_call N (L:=L) (T0:=[]) (hp.mono hsub2) hf ⟨[],0,.head _,.nil⟩ (by simpa using hn) fun q2 r2 hr2 hq2=>?_) (by decide)
  refine HT.cut0 N [] (c:=.call (.builtin "sorted") ⟨[.ref q2],[]⟩) (by kernel_rfl) fun b5 tk5=>?_
  refine HC.less (lv:=2) (HC.sortedT N hq2 hT2 fun d2 n2 a2 ha2=>?_) (by decide)
  rw [hS2] at ha2
  intro b6 tk6
  refine HTa.val N [7,7] [3,2,1] 4 [0] (a:=.next) (l:=(f,frameO #[ent w (S [115,99,114,105,112,116]) t1 (.ref sc),ent w (S [108,105,115,116,115]) t2 (.ref ls),ent w (S [104,101,97,100,101,114]) t3 ((vh)),ent w (S [114,101,97,100]) t4 (.ref rd),ent w (S [116,97,98,108,101,115]) tk6 (.ref b6)] 5)::(d1,listO (refs a1) n1)::(d2,listO (refs a2) n2)::l) (r:=(b6,listO #[.ref d1,.ref d2] 0)::r2) (ch:=ch) (by kernel_rfl) rfl ?_
  refine G _ _ _ _ _ _ _ _ _ ((hsub2.trans hr2).trans Sub.tail) (.head _) (ha1.mono fun vz0 vz1=>PairAt.mono ((Sub.tail.trans hr2).trans Sub.tail)) (ha2.mono fun vz0 vz1=>PairAt.mono Sub.tail))
end
theorem mem_reads {C:Cfg} {h₀ h:Heap} {m:Mm} (D:Rep C h₀ [] m h) {a:Addr} {ads:List Addr} {n:Nat} {T:List KV} (hm:(a,listO (refs ads) n)∈m.l ∨ (a,listO (refs ads) n)∈m.r) (hp:All2 (PairAt m.r) ads T):∃ as,Reads h (.ref a) (dPs T) as:=by
 have ho:h.get? a=some (listO (refs ads) n):=by
  rcases hm with hm | hm
  ·exact D.mem _ hm
  ·exact D.memR _ hm
 obtain ⟨as,r⟩:=all_reads (h:=h) (d:=dP) (fun a k hk=>⟨[],by
  refine el_EE hk fun t1 t2 hm=>?_
  exact .tuple (D.memR _ hm) rfl rfl (.cons (.str _ _) (.cons (vD_reads h t2 k.2) .nil))⟩) hp
 exact ⟨_,.list ho rfl rfl r⟩
section
variable {w:World} {B:Hab} {h₀:Heap} (N:NatOk (C0 w B) h₀) {f sc ls rd t1 t2 t3 t4 t5 tb d1 d2 ol nw n1 n2:Nat} {vh:Value} {l r:Memo} {ch:Ch} {Q:Flow→Sx→Prop}
include N
theorem law_s7 {a1 a2:List Addr} {T1 T2:List KV} (htb:(tb,listO #[.ref d1,.ref d2] 0)∈r) (h1:All2 (PairAt r) a1 T1) (h2:All2 (PairAt r) a2 T2) (ho:PairsAt r ol T1) (hw:PairsAt r nw T2)
  (G:Q .next ⟨ch,(f,frC w t1 sc t2 ls t3 vh t4 rd t5 tb)::(f+1,cellR ol)::(f+2,cellR nw)::(d1,listO (refs a1) n1)::(d2,listO (refs a2) n2)::l,r⟩) :
  HT (C0 w B) h₀ none 300 ⟨ch,(f,frC w t1 sc t2 ls t3 vh t4 rd t5 tb)::(f+1,cellR ol)::(f+2,cellR nw)::(d1,listO (refs a1) n1)::(d2,listO (refs a2) n2)::l,r⟩ (execsZ [lB (C0 w B) 7] (envLaw (C0 w B) f)) Q (fun vz0 vz1=>False):=by
 have e1:IsIf (lB (C0 w B) 7) []:=by kernel_rfl
 have e2:IsCmp (ifTest (lB (C0 w B) 7)) .NotEq:=by kernel_rfl
 refine HT.ifS' e1 (HT.test1' e2 (by kernel_rfl) ?_)
 refine HT.val0 N [1] (a:=.ref tb) (by kernel_rfl) ?_
 intro b tk
 refine HTa.val N [3,5] [0,1,2,3,4,5] 6 [] (a:=.ref b) (l:=(b,listO #[.ref ol,.ref nw] 0)::(f,frC w t1 sc t2 ls t3 vh t4 rd t5 tb)::(f+1,cellR ol)::(f+2,cellR nw)::(d1,listO (refs a1) n1)::(d2,listO (refs a2) n2)::l) (r:=r) (ch:=ch) (by kernel_rfl) rfl ?_
 have lay:PyData.canLay0 (.list [dPs T1,dPs T2])=true:=by
  rw [PyData.canLay0]
  exact lay_all fun d hd=>by
   rcases List.mem_cons.mp hd with rfl | hd
   ·exact lay_dPs _
   ·rw [List.mem_singleton.mp hd];exact lay_dPs _
 have dep:(PyData.list [dPs T1,dPs T2]).depth≤3:=by
  rw [PyData.depth]
  exact Nat.succ_le_succ (depth_all fun d hd=>by
   rcases List.mem_cons.mp hd with rfl | hd
   ·exact depth_dPs _
   ·rw [List.mem_singleton.mp hd];exact depth_dPs _)
 refine HT.neData (da:=.list [dPs T1,dPs T2]) (db:=.list [dPs T1,dPs T2]) (fun bb tk h D=>?_) (fun bb tk h D=>?_) lay lay (Nat.le_trans dep (by decide)) ?_
 ·refine el_E (mem_reads D (a:=d1) (.inl (.tail _ (.tail _ (.tail _ (.tail _ (.head _)))))) h1) fun as r1=>?_
  refine el_E (mem_reads D (a:=d2) (.inl (.tail _ (.tail _ (.tail _ (.tail _ (.tail _ (.head _))))))) h2) fun bs r2=>?_
  exact ⟨_,.list (D.memR _ htb) rfl rfl (.cons r1 (.cons r2 .nil))⟩
 ·refine el_E (pairs_reads D ho) fun as r1=>?_
  refine el_E (pairs_reads D hw) fun bs r2=>?_
  exact ⟨_,.list (D.mem _ (.head _)) rfl rfl (.cons r1 (.cons r2 .nil))⟩
 refine ⟨_,rfl,?_⟩
 rw [PySem.SeqAt.eqv_refl _ lay]
 refine HT.choose (il:=[1,2,3,4,5]) (k:=6) (ir:=[]) rfl (HT.execs_nil G)
end
noncomputable abbrev lcO (C:Cfg):PySem.Expr:=asgV (lB C 8)
noncomputable abbrev envO (C:Cfg) (D f:Addr):PySem.Env:=compEnvC (scopeOf (lcO C)) [(nNew,f+2)] D (envLaw C f)
noncomputable abbrev cO (C:Cfg) (d it acc D f:Addr):Code:=.compLoop (lcO C) d (.ref it) (.ref acc) (envO C D f)
noncomputable abbrev cOS (C:Cfg) (d it acc D f:Addr):Code:=.compStart (lcO C) d (.ref it) (.ref acc) (envO C D f)
noncomputable abbrev dO1 (w:World) (t:Nat) (v:Value):Obj:=dictO #[ent w nValue1 t v] 1
noncomputable abbrev dO2 (w:World) (t:Nat) (v:Value) (t2 p:Nat):Obj:=dictO #[ent w nValue1 t v,ent w nPair t2 (.ref p)] 2
noncomputable def DO (w:World) (v:Value) (o:Obj):Prop:=(∃ t,o=dO1 w t v) ∨ ∃ t t2 p,o=dO2 w t v t2 p
noncomputable def selO (v:Nat) (T:List KV):List KV:=T.filter fun q=>vS q.2 == vS v
theorem selO_snoc {v:Nat} {T:List KV} {i:Nat} {p:KV} (h:T[i]? = some p):selO v (T.take (i+1))=selO v (T.take i) ++ (if vS p.2=vS v then [p] else []):=by
 unfold selO
 rw [take_succ_get h,List.filter_append]
 congr 1
 by_cases hk:vS p.2=vS v <;> simp [hk]
theorem vV_str {v:Nat} (hv:v<5) (t:Tok):vV v t = .str (S (vS v)) t:=by
 rcases lt5 (by assumption:v<5) with rfl | rfl | rfl | rfl | rfl <;> rfl
section
variable {C:Cfg} {h₀:Heap} {hd:Option Value} {lv:Nat} {R:Result→Sx→Prop} {x:Sx}
theorem HC.eqS {X Y:List Nat} {t u:Tok} (G:R (.ok (.ret (.bool (X == Y)))) x):HC C h₀ hd lv x (.call (.builtin "str.__eq__") ⟨[.str (S X) t,.str (S Y) u],[]⟩) R :=
 HC.gives F.slot_str_eq F.entry_str_eq (F.args_str_eq_2 _ _) (gives_str_eq (S X) (S Y) t u) (fun s=>typeIs_str s _ t) G
end
section
variable {w:World} {B:Hab} {h₀:Heap} (N:NatOk (C0 w B) h₀) {f D it a acc:Nat} {l r:Memo} {ch:Ch} {R:Result→Sx→Prop}
include N
theorem ord_start {d:Nat} (hd:d=0 ∨ d=1) {Q:PySem.Fin→Sx→Prop} {E:Value→Sx→Prop} (G:Q (.again (cO (C0 w B) d it acc D f)) ⟨ch,(it,iterO a 0)::l,r⟩):HT (C0 w B) h₀ none 150 ⟨ch,(it,iterO a 0)::l,r⟩ (denZ (cOS (C0 w B) d it acc D f)) Q E:=by
 obtain ⟨b1,b2,b3,b4⟩:=B
 intro b tk
 rcases hd with rfl | rfl
 ·cases b2
  ·cases b1 <;> exact HTa.val N [1,1,1,1,1] [0] 1 [] (a:=PySem.Fin.again (cO _ 0 it acc D f)) (l:=(it,iterO a 0)::l) (r:=r) (ch:=ch) (by kernel_rfl) rfl G
  ·exact HTa.val N [] [0] 1 [] (a:=PySem.Fin.again (cO _ 0 it acc D f)) (l:=(it,iterO a 0)::l) (r:=r) (ch:=ch) (by kernel_rfl) rfl G
 ·cases b2
  ·cases b1 <;> exact HTa.val N [1,1,1,1,1] [0] 1 [] (a:=PySem.Fin.again (cO _ 1 it acc D f)) (l:=(it,iterO a 0)::l) (r:=r) (ch:=ch) (by kernel_rfl) rfl G
  ·exact HTa.val N [] [0] 1 [] (a:=PySem.Fin.again (cO _ 1 it acc D f)) (l:=(it,iterO a 0)::l) (r:=r) (ch:=ch) (by kernel_rfl) rfl G
theorem ord_turn1 {p k i n' u1 u2 u b0 tk0:Nat} {X Y:List Nat} {xs:Array Value} {o:Obj} {Q:PySem.Fin→Sx→Prop} (hxs:xs.size≤10000) (ho:DO w (.str (S Y) u) o)
  (G:∀ o' xs' n2,DO w (.str (S Y) u) o'→(if X=Y then xs'=xs.push (.ref p) else xs'=xs)→Q (.again (cO (C0 w B) 1 it acc D f)) ⟨ch,(it,iterO a (i+1))::(acc,listO xs' n2)::(D,o')::l,(p,tupO #[.str (S [k]) u1,.str (S X) u2])::r⟩) :
  HT (C0 w B) h₀ none 150 ⟨ch,(it,iterO a (i+1))::(acc,listO xs n')::(D,o)::l,(p,tupO #[.str (S [k]) u1,.str (S X) u2])::r⟩ ((go (C0 w B) none 150 [1] (denZ (cO (C0 w B) 1 it acc D f)) ⟨(it,iterO a i)::(acc,listO xs n')::(D,o)::l,r,b0,tk0,ch⟩).kont (.ok (.ret (.ref p)))) Q (fun vz0 vz1=>False):=by
 rcases ho with ⟨t,rfl⟩ | ⟨t,t2,p',rfl⟩
 ·intro b tk
  (
   refine HTa.cutN N [5,5,5,2,2,2,1,2,2,5] [0,1,2] 3 [] (c:=.call (.builtin "str.__eq__") ⟨[.str (S (X)) u2,.str (S (Y)) u],[]⟩) (l:=(it,iterO a (i+1))::(acc,listO xs n')::(D,dictO #[ent w (S [118,97,108,117,101]) t (.str (S (Y)) u),ent w (S [112,97,105,114]) tk (.ref p)] 2)::l) (r:=(p,tupO #[Value.str (S [k]) u1,Value.str (S X) u2])::r) (ch:=ch) (by exact Hab.two B (by kernel_rfl) (by kernel_rfl)) rfl ?_
   refine HC.eqS fun b5 tk5=>?_
   by_cases hk:X=Y
   ·rw [show (X == Y)=true from beq_iff_eq.mpr hk]
    refine HTa.cutN N [5] [1,0,2] 3 [] (c:=.call (.builtin "list.append") ⟨[.ref acc,.ref p],[]⟩) (l:=(acc,listO xs n')::(it,iterO a (i+1))::(D,dictO #[ent w (S [118,97,108,117,101]) t (Value.str (S Y) u),ent w (S [112,97,105,114]) tk (Value.ref p)] 2)::l) (r:=(p,tupO #[Value.str (S [k]) u1,Value.str (S X) u2])::r) (ch:=ch) (by exact Hab.two B (by kernel_rfl) (by kernel_rfl)) rfl ?_
    refine HC.append (by rw [sizeLine_eq];lia) fun b6 tk6=>?_
    refine HTa.val N [] [1,0,2] 3 [] (a:=PySem.Fin.again (cO (C0 w B) 1 it acc D f)) (l:=(it,iterO a (i+1))::(acc,listO (xs.push (Value.ref p)) (n'+1))::(D,dictO #[ent w (S [118,97,108,117,101]) t (Value.str (S Y) u),ent w (S [112,97,105,114]) tk (Value.ref p)] 2)::l) (r:=(p,tupO #[Value.str (S [k]) u1,Value.str (S X) u2])::r) (ch:=ch) (by exact Hab.two B (by kernel_rfl) (by kernel_rfl)) rfl ?_
    exact G _ _ _ (.inr ⟨_,_,_,rfl⟩) (by rw [if_pos hk])
   ·rw [show (X == Y)=false from beq_eq_false_iff_ne.mpr hk]
    refine HTa.val N [] [0,1,2] 3 [] (a:=PySem.Fin.again (cO (C0 w B) 1 it acc D f)) (l:=(it,iterO a (i+1))::(acc,listO xs n')::(D,dictO #[ent w (S [118,97,108,117,101]) t (Value.str (S Y) u),ent w (S [112,97,105,114]) tk (Value.ref p)] 2)::l) (r:=(p,tupO #[Value.str (S [k]) u1,Value.str (S X) u2])::r) (ch:=ch) (by exact Hab.two B (by kernel_rfl) (by kernel_rfl)) rfl ?_
    exact G _ _ _ (.inr ⟨_,_,_,rfl⟩) (by rw [if_neg hk]))
 ·intro b tk
  (
   refine HTa.cutN N [5,5,5,2,2,2,1,2,2,5] [0,1,2] 3 [] (c:=.call (.builtin "str.__eq__") ⟨[.str (S (X)) u2,.str (S (Y)) u],[]⟩) (l:=(it,iterO a (i+1))::(acc,listO xs n')::(D,dictO #[ent w (S [118,97,108,117,101]) t (.str (S (Y)) u),ent w (S [112,97,105,114]) t2 (.ref p)] 2)::l) (r:=(p,tupO #[Value.str (S [k]) u1,Value.str (S X) u2])::r) (ch:=ch) (by exact Hab.two B (by kernel_rfl) (by kernel_rfl)) rfl ?_
   refine HC.eqS fun b5 tk5=>?_
   by_cases hk:X=Y
   ·rw [show (X == Y)=true from beq_iff_eq.mpr hk]
    refine HTa.cutN N [5] [1,0,2] 3 [] (c:=.call (.builtin "list.append") ⟨[.ref acc,.ref p],[]⟩) (l:=(acc,listO xs n')::(it,iterO a (i+1))::(D,dictO #[ent w (S [118,97,108,117,101]) t (Value.str (S Y) u),ent w (S [112,97,105,114]) t2 (Value.ref p)] 2)::l) (r:=(p,tupO #[Value.str (S [k]) u1,Value.str (S X) u2])::r) (ch:=ch) (by exact Hab.two B (by kernel_rfl) (by kernel_rfl)) rfl ?_
    refine HC.append (by rw [sizeLine_eq];lia) fun b6 tk6=>?_
    refine HTa.val N [] [1,0,2] 3 [] (a:=PySem.Fin.again (cO (C0 w B) 1 it acc D f)) (l:=(it,iterO a (i+1))::(acc,listO (xs.push (Value.ref p)) (n'+1))::(D,dictO #[ent w (S [118,97,108,117,101]) t (Value.str (S Y) u),ent w (S [112,97,105,114]) t2 (Value.ref p)] 2)::l) (r:=(p,tupO #[Value.str (S [k]) u1,Value.str (S X) u2])::r) (ch:=ch) (by exact Hab.two B (by kernel_rfl) (by kernel_rfl)) rfl ?_
    exact G _ _ _ (.inr ⟨_,_,_,rfl⟩) (by rw [if_pos hk])
   ·rw [show (X == Y)=false from beq_eq_false_iff_ne.mpr hk]
    refine HTa.val N [] [0,1,2] 3 [] (a:=PySem.Fin.again (cO (C0 w B) 1 it acc D f)) (l:=(it,iterO a (i+1))::(acc,listO xs n')::(D,dictO #[ent w (S [118,97,108,117,101]) t (Value.str (S Y) u),ent w (S [112,97,105,114]) t2 (Value.ref p)] 2)::l) (r:=(p,tupO #[Value.str (S [k]) u1,Value.str (S X) u2])::r) (ch:=ch) (by exact Hab.two B (by kernel_rfl) (by kernel_rfl)) rfl ?_
    exact G _ _ _ (.inr ⟨_,_,_,rfl⟩) (by rw [if_neg hk]))
theorem ord_inner {ads oads:List Addr} {T os:List KV} {n n' v u:Nat} {o:Obj} (hv:v<5) (hl:(a,listO (refs ads) n)∈r) (hp:All2 (PairAt r) ads T) (hT:∀ p∈T,p.2<5) (hn:T.length≤100) (h0:All2 (PairAt r) oads os) (hos:os.length≤9000) (ho:DO w (.str (S (vS v)) u) o)
  (G:∀ ads' n2 o',All2 (PairAt r) ads' (os ++ selO v T)→DO w (.str (S (vS v)) u) o'→R (.ok .next) ⟨ch,(acc,listO (refs ads') n2)::(D,o')::l,r⟩) :
  HC (C0 w B) h₀ none 151 ⟨ch,(it,iterO a 0)::(acc,listO (refs oads) n')::(D,o)::l,r⟩ (cOS (C0 w B) 1 it acc D f) R:=by
 refine HC.tree (lv:=150) (w:=0) (by kernel_rfl) (ord_start N (.inr rfl) ?_)
 refine ⟨by kernel_rfl,?_⟩
 have hal:=hp.length
 refine HC.compList N (a:=a) (its:=refs ads) (n:=n) (by kernel_rfl) (by kernel_rfl) (fun i y b tk=>by kernel_rfl)
  (fun i y=>∃ ads' n2 o',y=⟨ch,(acc,listO (refs ads') n2)::(D,o')::l,r⟩∧All2 (PairAt r) ads' (os ++ selO v (T.take i))∧DO w (.str (S (vS v)) u) o') ?_ ?_ ?_ (y:=⟨ch,(acc,listO (refs oads) n')::(D,o)::l,r⟩) ⟨oads,n',o,rfl,by rw [List.take_zero];simpa [selO] using h0,ho⟩
 ·intro i y hZ0
  refine el_EEEAA hZ0 fun ads' n2 o' hE1 vz0 vz1=>?_
  try clear hZ0
  subst hE1
  exact .inr hl
 ·intro y hZ0
  refine el_EEEAA hZ0 fun ads' n2 o' hE1 h ho=>?_
  try clear hZ0
  subst hE1
  have es:(lcO (C0 w B)) = .ListComp (eltOf (lcO (C0 w B))) [gen1 (lcO (C0 w B)),gen2 (lcO (C0 w B))] (scopeOf (lcO (C0 w B))) (lcPos (lcO (C0 w B))):=by kernel_rfl
  show HC _ _ _ _ _ (.compLoop (lcO (C0 w B)) 1 (.ref it) (.ref acc) (envO (C0 w B) D f)) _
  rw [es]
  refine HC.compEnd (gen:=gen2 (lcO (C0 w B))) rfl (by kernel_rfl) (.inr hl) ?_
  rw [refs_size,hal,List.take_length] at h
  exact G _ _ _ h ho
 ·intro i y vv hZ0 hvv b0 tk0
  refine el_EEEAA hZ0 fun ads' n2 o' hE1 h ho=>?_
  try clear hZ0
  subst hE1
  refine el_EA (refs_get hvv) fun p hp1 hE2=>?_
  subst hE2
  refine el_EAEE (hp.get (a:=p) hp1) fun kv hkv t1 t2 hpa=>?_
  have hk5:=hT kv (List.mem_of_getElem? hkv)
  have hxs:=h.length
  rw [List.length_append] at hxs
  have hs1:(selO v (T.take i)).length≤100:=Nat.le_trans (List.length_filter_le _ _) (Nat.le_trans (List.length_take_le' _ _) hn)
  have hsn:=selO_snoc (v:=v) hkv
  have hpa':(p,tupO #[.str (S [kc kv.1]) t1,.str (S (vS kv.2)) t2])∈r:=by rw [←vV_str hk5];exact hpa
  refine HT.less_r (HT.reads (r:=(p,tupO #[.str (S [kc kv.1]) t1,.str (S (vS kv.2)) t2])::r) (Sub.cons hpa' (Sub.refl _)) (ord_turn1 N (by rw [refs_size];lia) ho fun o' xs' n2 ho' hx=>?_))
  refine ⟨r,Sub.tail,rfl,⟨ch,(acc,listO xs' n2)::(D,o')::l,r⟩,?_,rfl⟩
  by_cases hk:vS kv.2=vS v
  ·rw [if_pos hk] at hx hsn
   subst hx
   exact ⟨_,_,_,by rw [refs_push],by rw [hsn,←List.append_assoc];exact h.snoc ⟨t1,t2,hpa⟩,ho'⟩
  ·rw [if_neg hk] at hx hsn
   subst hx
   exact ⟨_,_,_,rfl,by rw [hsn,List.append_nil];exact h,ho'⟩
end
noncomputable def OD (w:World) (i:Nat) (o:Obj):Prop:=(i=0∧o=dictO #[] 0) ∨ (0<i∧∃ v,DO w v o)
noncomputable def valsO:List Nat:=[4,1,2,3,0]
noncomputable def orderT (T:List KV):List KV:=valsO.flatMap fun v=>selO v T
noncomputable abbrev its5 (t:Nat):Array Value:=#[.str (S [120,44,121]) t,.str (S [97,45,49,46,98]) (t+1),.str (S [50,32,50]) (t+2),.str (S [34]) (t+3),.str (S []) (t+4)]
theorem its5_get {t i:Nat} {v:Value} (h:(its5 t)[i]? = some v):∃ k u,valsO[i]? = some k∧k<5∧v = .str (S (vS k)) u:=by
 match i,h with
 | 0,h=>cases h;exact ⟨_,_,rfl,by decide,rfl⟩
 | 1,h=>cases h;exact ⟨_,_,rfl,by decide,rfl⟩
 | 2,h=>cases h;exact ⟨_,_,rfl,by decide,rfl⟩
 | 3,h=>cases h;exact ⟨_,_,rfl,by decide,rfl⟩
 | 4,h=>cases h;exact ⟨_,_,rfl,by decide,rfl⟩
section
variable {w:World} {B:Hab} {h₀:Heap} (N:NatOk (C0 w B) h₀) {f D it a acc nw:Nat} {l r:Memo} {ch:Ch} {R:Result→Sx→Prop}
include N
theorem ord_turn0 {ads oads:List Addr} {T os:List KV} {i n n' v u b0 tk0:Nat} {o:Obj} {Q:PySem.Fin→Sx→Prop} (hv:v<5) (hl:(nw,listO (refs ads) n)∈r) (hp:All2 (PairAt r) ads T) (hT:∀ p∈T,p.2<5) (hn:T.length≤100) (h0:All2 (PairAt r) oads os) (hos:os.length≤9000) (ho:OD w i o)
  (G:∀ ads' n2 o',All2 (PairAt r) ads' (os ++ selO v T)→OD w (i+1) o'→Q (.again (cO (C0 w B) 0 it acc D f)) ⟨ch,(it,iterO a (i+1))::(acc,listO (refs ads') n2)::(D,o')::(f+2,cellR nw)::l,r⟩) :
  HT (C0 w B) h₀ none 160 ⟨ch,(it,iterO a (i+1))::(acc,listO (refs oads) n')::(D,o)::(f+2,cellR nw)::l,r⟩ ((go (C0 w B) none 160 [1] (denZ (cO (C0 w B) 0 it acc D f)) ⟨(it,iterO a i)::(acc,listO (refs oads) n')::(D,o)::(f+2,cellR nw)::l,r,b0,tk0,ch⟩).kont (.ok (.ret (.str (S (vS v)) u)))) Q (fun vz0 vz1=>False):=by
 refine HT.reads (r:=(nw,listO (refs ads) n)::r) (Sub.cons hl (Sub.refl _)) ?_
 have key:∀ {b:Nat} {o1:Obj} {l':Memo} {RR:Result→Sx→Prop},DO w (.str (S (vS v)) u) o1→(∀ ads' n2 o',All2 (PairAt r) ads' (os ++ selO v T)→DO w (.str (S (vS v)) u) o'→RR (.ok .next) ⟨ch,(acc,listO (refs ads') n2)::(D,o')::l',r⟩) →
   HC (C0 w B) h₀ none 160 ⟨ch,(b,iterO nw 0)::(acc,listO (refs oads) n')::(D,o1)::l',(nw,listO (refs ads) n)::r⟩ (cOS (C0 w B) 1 b acc D f) RR :=
  fun {b o1 l' RR} ho1 hk=>HC.less (HC.reads (r:=r) Sub.tail (ord_inner N hv hl hp hT hn h0 hos ho1 hk)) (by decide)
 generalize vS v=Y at key ⊢
 rcases ho with ⟨rfl,rfl⟩ | ⟨_,v',⟨t,rfl⟩ | ⟨t,t2,p',rfl⟩⟩
 ·intro b tk
  (
   refine HTa.cutN N [5,5,7,2,2,1,2,1] [0,2,3,1,4] 5 [] (c:=cOS (C0 w B) 1 b acc D f) (l:=(b,{ cls:=.type "list_iterator",data:=.fields #[.ref nw,.int 0 0] })::(acc,listO (refs oads) n')::(D,dictO #[ent w (S [118,97,108,117,101]) tk (.str (S (Y)) u)] 1)::(it,iterO a (0+1))::(f+2,cellR nw)::l) (r:=(nw,listO (refs ads) n)::r) (ch:=ch) (by exact Hab.two B (by kernel_rfl) (by kernel_rfl)) rfl ?_
   refine key (.inl ⟨_,rfl⟩) fun ads' n2 o' hx ho'=>?_
   intro b tk
   refine HTa.val N [] [2,0,1,3] 4 [] (a:=PySem.Fin.again (cO (C0 w B) 0 it acc D f)) (l:=(it,iterO a (0+1))::(acc,listO (refs ads') n2)::(D,o')::(f+2,cellR nw)::l) (r:=r) (ch:=ch) (by exact Hab.two B (by kernel_rfl) (by kernel_rfl)) rfl ?_
   exact G _ _ _ hx (.inr ⟨Nat.succ_pos _,_,ho'⟩))
 ·intro b tk
  (
   refine HTa.cutN N [5,5,7,2,2,1,2,1] [0,2,3,1,4] 5 [] (c:=cOS (C0 w B) 1 b acc D f) (l:=(b,{ cls:=.type "list_iterator",data:=.fields #[.ref nw,.int 0 0] })::(acc,listO (refs oads) n')::(D,dictO #[ent w (S [118,97,108,117,101]) t (.str (S (Y)) u)] 1)::(it,iterO a (i+1))::(f+2,cellR nw)::l) (r:=(nw,listO (refs ads) n)::r) (ch:=ch) (by exact Hab.two B (by kernel_rfl) (by kernel_rfl)) rfl ?_
   refine key (.inl ⟨_,rfl⟩) fun ads' n2 o' hx ho'=>?_
   intro b tk
   refine HTa.val N [] [2,0,1,3] 4 [] (a:=PySem.Fin.again (cO (C0 w B) 0 it acc D f)) (l:=(it,iterO a (i+1))::(acc,listO (refs ads') n2)::(D,o')::(f+2,cellR nw)::l) (r:=r) (ch:=ch) (by exact Hab.two B (by kernel_rfl) (by kernel_rfl)) rfl ?_
   exact G _ _ _ hx (.inr ⟨Nat.succ_pos _,_,ho'⟩))
 ·intro b tk
  (
   refine HTa.cutN N [5,5,7,2,2,1,2,1] [0,2,3,1,4] 5 [] (c:=cOS (C0 w B) 1 b acc D f) (l:=(b,{ cls:=.type "list_iterator",data:=.fields #[.ref nw,.int 0 0] })::(acc,listO (refs oads) n')::(D,dictO #[ent w (S [118,97,108,117,101]) t (.str (S (Y)) u),ent w (S [112,97,105,114]) t2 (.ref p')] 2)::(it,iterO a (i+1))::(f+2,cellR nw)::l) (r:=(nw,listO (refs ads) n)::r) (ch:=ch) (by exact Hab.two B (by kernel_rfl) (by kernel_rfl)) rfl ?_
   refine key (.inr ⟨_,_,_,rfl⟩) fun ads' n2 o' hx ho'=>?_
   intro b tk
   refine HTa.val N [] [2,0,1,3] 4 [] (a:=PySem.Fin.again (cO (C0 w B) 0 it acc D f)) (l:=(it,iterO a (i+1))::(acc,listO (refs ads') n2)::(D,o')::(f+2,cellR nw)::l) (r:=r) (ch:=ch) (by exact Hab.two B (by kernel_rfl) (by kernel_rfl)) rfl ?_
   exact G _ _ _ hx (.inr ⟨Nat.succ_pos _,_,ho'⟩))
theorem ord_comp {ads:List Addr} {T:List KV} {n tv:Nat} (hb:(a,listO (its5 tv) 0)∈r) (hl:(nw,listO (refs ads) n)∈r) (hp:All2 (PairAt r) ads T) (hT:∀ p∈T,p.2<5) (hn:T.length≤100)
  (G:∀ ads' n2 v o,All2 (PairAt r) ads' (orderT T)→DO w v o→R (.ok .next) ⟨ch,(acc,listO (refs ads') n2)::(D,o)::(f+2,cellR nw)::l,r⟩) :
  HC (C0 w B) h₀ none 161 ⟨ch,(it,iterO a 0)::(acc,listO #[] 0)::(D,dictO #[] 0)::(f+2,cellR nw)::l,r⟩ (cOS (C0 w B) 0 it acc D f) R:=by
 refine HC.tree (lv:=160) (w:=0) (by kernel_rfl) (HT.less (ord_start N (.inl rfl) ?_) (by decide))
 refine ⟨by kernel_rfl,?_⟩
 refine HC.compList N (a:=a) (its:=its5 tv) (n:=0) (by kernel_rfl) (by kernel_rfl) (fun i y b tk=>by kernel_rfl)
  (fun i y=>∃ ads' n2 o',y=⟨ch,(acc,listO (refs ads') n2)::(D,o')::(f+2,cellR nw)::l,r⟩∧All2 (PairAt r) ads' ((valsO.take i).flatMap fun v=>selO v T)∧OD w i o') ?_ ?_ ?_ (y:=⟨ch,(acc,listO #[] 0)::(D,dictO #[] 0)::(f+2,cellR nw)::l,r⟩) ⟨[],0,_,rfl,.nil,.inl ⟨rfl,rfl⟩⟩
 ·intro i y hZ0
  refine el_EEEAA hZ0 fun ads' n2 o' hE1 vz0 vz1=>?_
  try clear hZ0
  subst hE1
  exact .inr hb
 ·intro y hZ0
  refine el_EEEAA hZ0 fun ads' n2 o' hE1 h ho=>?_
  try clear hZ0
  subst hE1
  rcases ho with ⟨ho,_⟩ | ⟨_,v,ho⟩
  ·exact absurd ho (by show ¬ (5=0);decide)
  have es:(lcO (C0 w B)) = .ListComp (eltOf (lcO (C0 w B))) [gen1 (lcO (C0 w B)),gen2 (lcO (C0 w B))] (scopeOf (lcO (C0 w B))) (lcPos (lcO (C0 w B))):=by kernel_rfl
  show HC _ _ _ _ _ (.compLoop (lcO (C0 w B)) 0 (.ref it) (.ref acc) (envO (C0 w B) D f)) _
  rw [es]
  refine HC.compEnd (gen:=gen1 (lcO (C0 w B))) rfl (by kernel_rfl) (.inr hb) ?_
  exact G _ _ _ _ h ho
 ·intro i y vv hZ0 hvv b0 tk0
  refine el_EEEAA hZ0 fun ads' n2 o' hE1 h ho=>?_
  try clear hZ0
  subst hE1
  refine el_EEAA (its5_get hvv) fun v u hv1 hv5 hE4=>?_
  subst hE4
  have hlen:((valsO.take i).flatMap fun v=>selO v T).length≤9000:=by
   have h1:∀ l:List Nat,(l.flatMap fun v=>selO v T).length≤l.length * 100:=by
    intro l
    induction l with
    | nil=>simp
    | cons v l ih =>
     rw [List.flatMap_cons,List.length_append,List.length_cons]
     have:(selO v T).length≤T.length:=List.length_filter_le _ _
     lia
   have h2:=h1 (valsO.take i)
   have h3:(valsO.take i).length≤5:=Nat.le_trans (List.length_take_le' _ _) (by decide)
   lia
  refine ord_turn0 N hv5 hl hp hT hn h hlen ho fun ads3 n3 o3 h3 ho3=>?_
  refine ⟨rfl,⟨ch,(acc,listO (refs ads3) n3)::(D,o3)::(f+2,cellR nw)::l,r⟩,⟨_,_,_,rfl,?_,ho3⟩,rfl⟩
  rw [take_succ_get hv1,List.flatMap_append]
  simpa using h3
theorem law_s8 {sc ls rd t1 t2 t3 t4 t5 tb d1 d2 ol n1 n2:Nat} {vh:Value} {F:Obj} {Q:Flow→Sx→Prop} {T:List KV} (hw:PairsAt r nw T) (hT:Tab T)
  (G:∀ od r',Sub r r'→PairsAt r' od (orderT T)→Q .next ⟨ch,(f,frC w t1 sc t2 ls t3 vh t4 rd t5 tb)::(f+2,cellR nw)::(f+3,cellR od)::l,r'⟩) :
  HT (C0 w B) h₀ none 300 ⟨ch,(f,frC w t1 sc t2 ls t3 vh t4 rd t5 tb)::(f+2,cellR nw)::(f+3,cellN)::l,r⟩ (execsZ [lB (C0 w B) 8] (envLaw (C0 w B) f)) Q (fun vz0 vz1=>False):=by
 obtain ⟨ads,n,hm,hal⟩:=hw
 have h4:=hT.le4
 have key:∀ {b0 b tv:Nat} {l':Memo} {RR:Result→Sx→Prop},(∀ ads' n2 v o,All2 (PairAt ((b0,listO (its5 tv) 0)::r)) ads' (orderT T)→DO w v o→RR (.ok .next) ⟨ch,(b+1,listO (refs ads') n2)::(b+2,o)::(f+2,cellR nw)::l',(b0,listO (its5 tv) 0)::r⟩)→HC (C0 w B) h₀ none 300 ⟨ch,(b,iterO b0 0)::(b+1,listO #[] 0)::(b+2,dictO #[] 0)::(f+2,cellR nw)::l',(b0,listO (its5 tv) 0)::r⟩ (cOS (C0 w B) 0 b (b+1) (b+2) f) RR:=by
  intro b0 b tv l' RR hk
  exact HC.less (ord_comp N (.head _) (.tail _ hm) (hal.mono fun vz0 vz1=>PairAt.mono Sub.tail) (fun p hp=>(hT.2 p hp).2) (by lia) hk) (by decide)
 (
  intro b tk
  refine HTa.cut N [1,1,1,1,1] [2,1,0,5,4,6] 7 [3] (c:=cOS (C0 w B) 0 (b+1) (b+2) (b+3) f) (l:=((b+1),{ cls:=.type "list_iterator",data:=.fields #[.ref b,.int 0 0] })::((b+2),listO #[] 0)::((b+3),dictO #[] 0)::(f+2,cellR nw)::(f,frC w t1 sc t2 ls t3 vh t4 rd t5 tb)::(f+3,cellN)::l) (r:=(b,listO #[.str (S [120,44,121]) tk,.str (S [97,45,49,46,98]) (tk+1),.str (S [50,32,50]) (tk+2),.str (S [34]) (tk+3),.str (S []) (tk+4)] 0)::r) (ch:=ch) (by exact Hab.two B (by kernel_rfl) (by kernel_rfl)) rfl (by intro h;cases h) ?_
  refine key fun ads' n2 v o h ho=>?_
  rcases ho with ⟨w1,rfl⟩ | ⟨w1,w2,w3,rfl⟩
  ·intro b2 tk2
   refine HTa.val N [3,3,3,3,9,9] [3,2,4] 5 [0] (a:=.next) (l:=(f,frC w t1 sc t2 ls t3 vh t4 rd t5 tb)::(f+2,cellR nw)::((f+3),{ cls:=.type "cell",data:=.cell (some (.ref (b+2))) })::l) (r:=(b+1+1,listO (refs ads') n2)::(b,listO (its5 tk) 0)::r) (ch:=ch) (by exact Hab.two B (by kernel_rfl) (by kernel_rfl)) rfl ?_
   exact G _ _ (Sub.tail.trans Sub.tail) ⟨ads',n2,.head _,h.mono fun vz0 vz1=>PairAt.mono Sub.tail⟩
  ·intro b2 tk2
   refine HTa.val N [3,3,3,3,3,3,9,9] [3,2,4] 5 [0] (a:=.next) (l:=(f,frC w t1 sc t2 ls t3 vh t4 rd t5 tb)::(f+2,cellR nw)::((f+3),{ cls:=.type "cell",data:=.cell (some (.ref (b+2))) })::l) (r:=(b+1+1,listO (refs ads') n2)::(b,listO (its5 tk) 0)::r) (ch:=ch) (by exact Hab.two B (by kernel_rfl) (by kernel_rfl)) rfl ?_
   exact G _ _ (Sub.tail.trans Sub.tail) ⟨ads',n2,.head _,h.mono fun vz0 vz1=>PairAt.mono Sub.tail⟩)
end
noncomputable abbrev qCk:Str:=S [99,109,112,95,116,111,95,107,101,121,46,60,108,111,99,97,108,115,62,46]
noncomputable abbrev nMycmp:Str:=S [109,121,99,109,112]
noncomputable abbrev envCk (C:Cfg) (f c:Addr):PySem.Env:=envA C 94 [(nMycmp,c)] qCk f
noncomputable abbrev ckB (C:Cfg) (i:Nat):Stmt:=nthS (stmts C 94) i
noncomputable abbrev dictGet:Option Value:=some (.builtin "dict.__getitem__")
noncomputable abbrev argsObj:Args:=⟨[.type "object"],[]⟩
noncomputable abbrev clsFor:List Value×Bool:=([.type "object"],false)
theorem HC.collectC {a:Addr} {its:Array Value} {n:Nat} {R:Result→Sx→Prop} (hl:(a,listO its n)∈x.l ∨ (a,listO its n)∈x.r) (hz:its.size≤1000000) (G:∀ p n',R (.ok (.ret (.ref p))) (x.put (p,listO its n'))):HC C h₀ hd lv x (.builtin "proto.collect" ⟨[.ref a],[]⟩) R:=by
 intro b tk A g d os h K D
 have ho:=Sx.mem_get hl D
 have hb:h.objs.size=b:=D.size
 refine codeAny_builtin entry_proto_collect' ?_
 show wpAny _ _ (do again (.builtin "list.__iadd__" ⟨[←newList [],.ref a],[]⟩)) _ _ (⟨h,g,d,tk,os⟩:Shared)
 refine wpAny_bind (wpAny_newList (wpAny_pure ⟨Code.quiet_builtin _ (by decide +kernel),codeAny_builtin entry_list_iadd' ?_⟩))
 show wpAny _ _ (Builtin.List.listExtendWith (.ref h.objs.size) (.ref a) (.ref h.objs.size)) _ _ (⟨h.push (seqObj "list" #[] 0),g,d,tk,os⟩:Shared)
 unfold Builtin.List.listExtendWith
 have ho':(h.push (seqObj "list" #[] 0)).get? a=some (listO its n):=Heap.get?_push_of_some _ ho
 refine wpAny_bind (wpAny_typeOf (T:="list") ⟨_,ho',rfl⟩ ?_)
 have ht:(Value.type "list" == Value.type "list")=true:=by rfl
 rw [if_pos (by rw [ht];simp)]
 refine wpAny_bind (listItems_at ho' rfl ?_)
 refine wpAny_bind (listItems_at (xs:=#[]) (n:=0) (Heap.get?_push_size _ rfl) rfl ?_)
 rw [if_neg (by simp)]
 refine wpAny_bind (listUpdate_at (xs:=#[]) (n:=0) (Heap.get?_push_size _ rfl) rfl ?_ (Nat.zero_le _) (by show (#[] ++ its).size≤sizeLine+1;simp only [Array.size_append,List.size_toArray,List.length_nil];rw [sizeLine_eq];omega))
 refine wpAny_pure ?_
 have D1:=push_new (o:=listO #[] 0) D rfl tk
 show ∃ x',Stands C h₀ x' g d os _∧R (.ok (.ret (.ref h.objs.size))) x'
 rw [hb]
 obtain ⟨n',e⟩:∃ n',Obj.mapSeq (fun xs=>xs ++ its) (listO #[] 0)=listO its n':=⟨if (#[] ++ its).size == (#[]:Array Value).size then 0 else 1,by
  show Obj.mk _ _ (Data.seq (#[] ++ its) (if (#[] ++ its).size == (#[]:Array Value).size then 0 else 1)) _=_
  rw [Array.empty_append]⟩
 exact ⟨_,⟨b+1,tk,_,rfl,update_first (f:=Obj.mapSeq (· ++ its)) D1 e rfl⟩,G b _⟩
theorem HT.ite_pos {α:Type} {p:Prop} [Decidable p] {a b:Sem α} {Q:α→Sx→Prop} {E:Value→Sx→Prop} (hp:p) (H:HT C h₀ hd lv x a Q E):HT C h₀ hd lv x (if p then a else b) Q E:=by rw [if_pos hp];exact H
theorem HT.ite_neg {α:Type} {p:Prop} [Decidable p] {a b:Sem α} {Q:α→Sx→Prop} {E:Value→Sx→Prop} (hp:¬ p) (H:HT C h₀ hd lv x b Q E):HT C h₀ hd lv x (if p then a else b) Q E:=by rw [if_neg hp];exact H
theorem filt_self (a:Addr):([Value.ref a,.type "object"].filter (· != .ref a))=[.type "object"]:=by
 have h1:(Value.type "object" != .ref a)=true:=by simp
 have h2:(Value.ref a != .ref a)=false:=by simp
 rw [List.filter_cons,h2,List.filter_cons,h1]
 rfl
theorem HT.tryC {α:Type} {m:Sem α} {k:Value→Sem α} {Q:α→Sx→Prop} {E:Value→Sx→Prop} (H:HT C h₀ hd lv x m Q (fun vz0 vz1=>False)):HT C h₀ hd lv x (tryCatch m k) Q E :=
 fun b tk A g d os h K D=>wpAny_tryCatch (wpAny_mono (H b tk A g d os h K D) (fun vz0 vz1 q=>q) (fun _ _ ⟨_,_,q⟩=>q.elim))
theorem HT.subSelf {K:Addr} {o:Obj} {cd:ClassData} {rest:List Value} {Q:Bool→Sx→Prop} {E:Value→Sx→Prop} (hK:(K,o)∈x.l ∨ (K,o)∈x.r) (hd':o.data = .cls cd) (hm:cd.mro = .ref K::rest) (G:Q true x):HT C h₀ hd lv x (isSubtype (.ref K) (.ref K)) Q E:=by
 refine HT.lib fun A g d os b tk h K' D=>?_
 have ho:=Sx.mem_get hK D
 unfold isSubtype mroOf
 have hcd:∀ {Q':ClassData→Shared→Prop} {E':Value→Shared→Prop},Q' cd ⟨h,g,d,tk,os⟩→wpAny (model C.prog C.w) A (classData K) Q' E' ⟨h,g,d,tk,os⟩:=by
  intro Q' E' q
  unfold classData
  refine wpAny_bind (wpAny_load (s:=⟨h,g,d,tk,os⟩) ho ?_)
  rw [hd']
  exact wpAny_pure q
 refine wpAny_bind (wpAny_bind (hcd (wpAny_pure ?_)))
 rw [hm]
 simp only [List.isEmpty_cons,Bool.false_eq_true,if_false,List.contains_cons,BEq.rfl,Bool.true_or]
 exact wpAny_pure ⟨x,⟨b,tk,h,rfl,D⟩,G⟩
theorem HC.bodyB {id:String} {Bt:Builtin} {args:Args} {R:Result→Sx→Prop} {w:Nat} (hw:weightZ (.builtin id args)=w) (entry:entryFor table id=some Bt) (H:HT C h₀ hd lv x (Bt args) (finR C h₀ hd (lv+1+w) R) (fun e x'=>R (.error e) x')):HC C h₀ hd (lv+1+w) x (.builtin id args) R:=by
 refine HC.tree hw ?_
 have e:denZ (.builtin id args)=Bt args:=by
  rw [denZ_eq]
  show (match entryFor table id with | some b=>b args | none=>unsupported ((withoutEnding? id "#data").getD id))=_
  rw [entry]
 rw [e]
 refine HT.mono H (fun fin x' q=>?_) (fun vz0 vz1 q=>q)
 cases fin with
 | done f=>exact q
 | again c'=>exact ⟨by rw [quietZ_eq];exact q.1,q.2⟩
noncomputable abbrev kStm (C:Cfg) (i:Nat):Stmt:=nthS (clsOf (ckB C 0)).body i
noncomputable abbrev fdK (C:Cfg) (i:Nat) (qual:Str) (gl:Addr) (clo:List (Str×Addr)) (de kd doc pm:Value) (an:Option Addr) (code ct:Value) (bu:Addr):FuncData :=
 { name:=(fnP (kStm C i)).name,qualname:=qual,params:=(fnP (kStm C i)).args,body:=.stmts (fnP (kStm C i)).body,scope:=(fnP (kStm C i)).scope,globals:=gl,closure:=clo,defaults:=de,kwdefaults:=kd,doc:=doc,pyModule:=pm,annotations:=an,code:=code,closureTuple:=ct,builtins:=bu }
section
variable {C:Cfg} {h₀:Heap} {hd:Option Value} {lv:Nat} {x:Sx} {E:Value→Sx→Prop}
theorem HT.exec1 {s:Stmt} {env:PySem.Env} {Q:Flow→Sx→Prop} (H:HT C h₀ hd lv x (exec s env) Q E):HT C h₀ hd lv x (execsZ [s] env) Q E:=HT.ofEq (exec1_eq s env) H
theorem HT.enterF (N:NatOk C h₀) {Q:Unit→Sx→Prop} (G:Q () x):HT C h₀ hd lv x enterFrame Q E:=by
 refine HT.lib fun A g d os b tk h K D=>?_
 exact wpAny_enterFrame (s:=⟨h,g,d,tk,os⟩) (D.noLimit N.ok) (by have:=K.deep;omega) ⟨x,⟨b,tk,h,rfl,D⟩,G⟩
theorem HT.start3 {α:Type} {t:Sem α} {Q:α→Sx→Prop} {E:Value→Sx→Prop} (ht:3≤C.top) (H:∀ b tk,HTa C h₀ hd lv ⟨x.l,x.r,b+3,tk,x.ch⟩ t Q E):HT C h₀ hd lv x t Q E:=by
 intro b tk A g d os h K D
 have hb:3≤b:=Nat.le_trans ht D.topb
 obtain ⟨b',rfl⟩:∃ b',b=b'+3:=⟨b - 3,(Nat.sub_add_cancel hb).symm⟩
 exact H b' tk A g d os h K D
theorem HT.notMod {who:String} {a:Addr} {o:Obj} {Q:Unit→Sx→Prop} (ha:(a,o)∈x.l) (ht:3≤C.top) (G:Q () x):HT C h₀ hd lv x (notTheModulesDict who a) Q E:=by
 refine HT.lib fun A g d os b tk h K D=>?_
 have h1:=D.hi _ ha
 have h2:(a == sysModules)=false:=by
  have:a≠1:=fun e=>by
   subst e
   exact absurd (show 3≤1 from Nat.le_trans ht h1) (by decide)
  show (a == 1)=false
  simpa using this
 unfold notTheModulesDict
 rw [h2]
 exact wpAny_pure ⟨x,⟨b,tk,h,rfl,D⟩,G⟩
end
noncomputable def kMem (C:Cfg) (b7 tk7 c b4 tk4:Nat):Memo:=[
 ((b7+48),tupO #[.str (S [111,98,106]) (tk7+63)]),
 ((b7+47),{ cls:=.type "function",data:=.func (fdK (C) 7 (S [99,109,112,95,116,111,95,107,101,121,46,60,108,111,99,97,108,115,62,46,75,46,95,95,103,101,95,95]) 3 [((S [109,121,99,109,112]),c)] (.none) (.none) (.none) (.str (S [108,97,119,95,111,121,48,50,48,52,95,48,49]) 668) none (.ref (b7+46)) (.ref (b7+40)) 0) }),
 ((b7+46),{ cls:=.type "code",data:=.fields #[.str (S [95,95,103,101,95,95]) (tk7+53),.str (S [99,109,112,95,116,111,95,107,101,121,46,60,108,111,99,97,108,115,62,46,75,46,95,95,103,101,95,95]) (tk7+54),.str (S [47,99,108,97,105,109,47,99,117,116,46,112,121]) (tk7+55),.int 86 0,.int 2 0,.int 0 0,.int 0 0,.int 19 0,.ref (b7+41),.bool true,.int 276 0,.ref (b7+42),.none,.ref (b7+43),.ref (b7+44),.ref (b7+45),.int (Int.ofNat (tk7+59)) 0,.int 86 0,.str (S [47,99,108,97,105,109,47,99,117,116,46,112,121]) (tk7+60)] }),
 ((b7+45),{ cls:=.none,data:=.func (fdK (C) 7 (S [99,109,112,95,116,111,95,107,101,121,46,60,108,111,99,97,108,115,62,46,75,46,95,95,103,101,95,95]) 0 [] (.none) (.none) (.none) (.none) none (.none) (.none) 0) }),
 ((b7+44),tupO #[]),
 ((b7+43),tupO #[.str (S [115,101,108,102]) (tk7+57),.str (S [111,116,104,101,114]) (tk7+58)]),
 ((b7+42),{ cls:=.none,data:=.fields #[] }),
 ((b7+41),tupO #[.str (S [109,121,99,109,112]) (tk7+56)]),
 ((b7+40),tupO #[.ref c]),
 ((b7+39),{ cls:=.type "function",data:=.func (fdK (C) 6 (S [99,109,112,95,116,111,95,107,101,121,46,60,108,111,99,97,108,115,62,46,75,46,95,95,108,101,95,95]) 3 [((S [109,121,99,109,112]),c)] (.none) (.none) (.none) (.str (S [108,97,119,95,111,121,48,50,48,52,95,48,49]) 668) none (.ref (b7+38)) (.ref (b7+32)) 0) }),
 ((b7+38),{ cls:=.type "code",data:=.fields #[.str (S [95,95,108,101,95,95]) (tk7+44),.str (S [99,109,112,95,116,111,95,107,101,121,46,60,108,111,99,97,108,115,62,46,75,46,95,95,108,101,95,95]) (tk7+45),.str (S [47,99,108,97,105,109,47,99,117,116,46,112,121]) (tk7+46),.int 83 0,.int 2 0,.int 0 0,.int 0 0,.int 19 0,.ref (b7+33),.bool true,.int 276 0,.ref (b7+34),.none,.ref (b7+35),.ref (b7+36),.ref (b7+37),.int (Int.ofNat (tk7+50)) 0,.int 83 0,.str (S [47,99,108,97,105,109,47,99,117,116,46,112,121]) (tk7+51)] }),
 ((b7+37),{ cls:=.none,data:=.func (fdK (C) 6 (S [99,109,112,95,116,111,95,107,101,121,46,60,108,111,99,97,108,115,62,46,75,46,95,95,108,101,95,95]) 0 [] (.none) (.none) (.none) (.none) none (.none) (.none) 0) }),
 ((b7+36),tupO #[]),
 ((b7+35),tupO #[.str (S [115,101,108,102]) (tk7+48),.str (S [111,116,104,101,114]) (tk7+49)]),
 ((b7+34),{ cls:=.none,data:=.fields #[] }),
 ((b7+33),tupO #[.str (S [109,121,99,109,112]) (tk7+47)]),
 ((b7+32),tupO #[.ref c]),
 ((b7+31),{ cls:=.type "function",data:=.func (fdK (C) 5 (S [99,109,112,95,116,111,95,107,101,121,46,60,108,111,99,97,108,115,62,46,75,46,95,95,101,113,95,95]) 3 [((S [109,121,99,109,112]),c)] (.none) (.none) (.none) (.str (S [108,97,119,95,111,121,48,50,48,52,95,48,49]) 668) none (.ref (b7+30)) (.ref (b7+24)) 0) }),
 ((b7+30),{ cls:=.type "code",data:=.fields #[.str (S [95,95,101,113,95,95]) (tk7+35),.str (S [99,109,112,95,116,111,95,107,101,121,46,60,108,111,99,97,108,115,62,46,75,46,95,95,101,113,95,95]) (tk7+36),.str (S [47,99,108,97,105,109,47,99,117,116,46,112,121]) (tk7+37),.int 80 0,.int 2 0,.int 0 0,.int 0 0,.int 19 0,.ref (b7+25),.bool true,.int 276 0,.ref (b7+26),.none,.ref (b7+27),.ref (b7+28),.ref (b7+29),.int (Int.ofNat (tk7+41)) 0,.int 80 0,.str (S [47,99,108,97,105,109,47,99,117,116,46,112,121]) (tk7+42)] }),
 ((b7+29),{ cls:=.none,data:=.func (fdK (C) 5 (S [99,109,112,95,116,111,95,107,101,121,46,60,108,111,99,97,108,115,62,46,75,46,95,95,101,113,95,95]) 0 [] (.none) (.none) (.none) (.none) none (.none) (.none) 0) }),
 ((b7+28),tupO #[]),
 ((b7+27),tupO #[.str (S [115,101,108,102]) (tk7+39),.str (S [111,116,104,101,114]) (tk7+40)]),
 ((b7+26),{ cls:=.none,data:=.fields #[] }),
 ((b7+25),tupO #[.str (S [109,121,99,109,112]) (tk7+38)]),
 ((b7+24),tupO #[.ref c]),
 ((b7+23),{ cls:=.type "function",data:=.func (fdK (C) 4 (S [99,109,112,95,116,111,95,107,101,121,46,60,108,111,99,97,108,115,62,46,75,46,95,95,103,116,95,95]) 3 [((S [109,121,99,109,112]),c)] (.none) (.none) (.none) (.str (S [108,97,119,95,111,121,48,50,48,52,95,48,49]) 668) none (.ref (b7+22)) (.ref (b7+16)) 0) }),
 ((b7+22),{ cls:=.type "code",data:=.fields #[.str (S [95,95,103,116,95,95]) (tk7+26),.str (S [99,109,112,95,116,111,95,107,101,121,46,60,108,111,99,97,108,115,62,46,75,46,95,95,103,116,95,95]) (tk7+27),.str (S [47,99,108,97,105,109,47,99,117,116,46,112,121]) (tk7+28),.int 77 0,.int 2 0,.int 0 0,.int 0 0,.int 19 0,.ref (b7+17),.bool true,.int 276 0,.ref (b7+18),.none,.ref (b7+19),.ref (b7+20),.ref (b7+21),.int (Int.ofNat (tk7+32)) 0,.int 77 0,.str (S [47,99,108,97,105,109,47,99,117,116,46,112,121]) (tk7+33)] }),
 ((b7+21),{ cls:=.none,data:=.func (fdK (C) 4 (S [99,109,112,95,116,111,95,107,101,121,46,60,108,111,99,97,108,115,62,46,75,46,95,95,103,116,95,95]) 0 [] (.none) (.none) (.none) (.none) none (.none) (.none) 0) }),
 ((b7+20),tupO #[]),
 ((b7+19),tupO #[.str (S [115,101,108,102]) (tk7+30),.str (S [111,116,104,101,114]) (tk7+31)]),
 ((b7+18),{ cls:=.none,data:=.fields #[] }),
 ((b7+17),tupO #[.str (S [109,121,99,109,112]) (tk7+29)]),
 ((b7+16),tupO #[.ref c]),
 ((b7+15),{ cls:=.type "function",data:=.func (fdK (C) 3 (S [99,109,112,95,116,111,95,107,101,121,46,60,108,111,99,97,108,115,62,46,75,46,95,95,108,116,95,95]) 3 [((S [109,121,99,109,112]),c)] (.none) (.none) (.none) (.str (S [108,97,119,95,111,121,48,50,48,52,95,48,49]) 668) none (.ref (b7+14)) (.ref (b7+8)) 0) }),
 ((b7+14),{ cls:=.type "code",data:=.fields #[.str (S [95,95,108,116,95,95]) (tk7+17),.str (S [99,109,112,95,116,111,95,107,101,121,46,60,108,111,99,97,108,115,62,46,75,46,95,95,108,116,95,95]) (tk7+18),.str (S [47,99,108,97,105,109,47,99,117,116,46,112,121]) (tk7+19),.int 74 0,.int 2 0,.int 0 0,.int 0 0,.int 19 0,.ref (b7+9),.bool true,.int 276 0,.ref (b7+10),.none,.ref (b7+11),.ref (b7+12),.ref (b7+13),.int (Int.ofNat (tk7+23)) 0,.int 74 0,.str (S [47,99,108,97,105,109,47,99,117,116,46,112,121]) (tk7+24)] }),
 ((b7+13),{ cls:=.none,data:=.func (fdK (C) 3 (S [99,109,112,95,116,111,95,107,101,121,46,60,108,111,99,97,108,115,62,46,75,46,95,95,108,116,95,95]) 0 [] (.none) (.none) (.none) (.none) none (.none) (.none) 0) }),
 ((b7+12),tupO #[]),
 ((b7+11),tupO #[.str (S [115,101,108,102]) (tk7+21),.str (S [111,116,104,101,114]) (tk7+22)]),
 ((b7+10),{ cls:=.none,data:=.fields #[] }),
 ((b7+9),tupO #[.str (S [109,121,99,109,112]) (tk7+20)]),
 ((b7+8),tupO #[.ref c]),
 ((b7+7),{ cls:=.type "function",data:=.func (fdK (C) 2 (S [99,109,112,95,116,111,95,107,101,121,46,60,108,111,99,97,108,115,62,46,75,46,95,95,105,110,105,116,95,95]) 3 [] (.none) (.none) (.none) (.str (S [108,97,119,95,111,121,48,50,48,52,95,48,49]) 668) none (.ref (b7+6)) (.none) 0) }),
 ((b7+6),{ cls:=.type "code",data:=.fields #[.str (S [95,95,105,110,105,116,95,95]) (tk7+9),.str (S [99,109,112,95,116,111,95,107,101,121,46,60,108,111,99,97,108,115,62,46,75,46,95,95,105,110,105,116,95,95]) (tk7+10),.str (S [47,99,108,97,105,109,47,99,117,116,46,112,121]) (tk7+11),.int 71 0,.int 2 0,.int 0 0,.int 0 0,.int 19 0,.ref (b7+1),.bool true,.int 276 0,.ref (b7+2),.none,.ref (b7+3),.ref (b7+4),.ref (b7+5),.int (Int.ofNat (tk7+14)) 0,.int 71 0,.str (S [47,99,108,97,105,109,47,99,117,116,46,112,121]) (tk7+15)] }),
 ((b7+5),{ cls:=.none,data:=.func (fdK (C) 2 (S [99,109,112,95,116,111,95,107,101,121,46,60,108,111,99,97,108,115,62,46,75,46,95,95,105,110,105,116,95,95]) 0 [] (.none) (.none) (.none) (.none) none (.none) (.none) 0) }),
 ((b7+4),tupO #[]),
 ((b7+3),tupO #[.str (S [115,101,108,102]) (tk7+12),.str (S [111,98,106]) (tk7+13)]),
 ((b7+2),{ cls:=.none,data:=.fields #[] }),
 ((b7+1),tupO #[]),
 (b7,listO #[.str (S [111,98,106]) (tk7+7)] 0),
 (b4+2,{ cls:=Value.type "code",data:=Data.fields #[Value.str (S [75]) tk4,Value.str (S [99,109,112,95,116,111,95,107,101,121,46,60,108,111,99,97,108,115,62,46,75]) (tk4+1),Value.str (S [47,99,108,97,105,109,47,99,117,116,46,112,121]) (tk4+2),Value.int 67 0,Value.int 0 0,Value.int 0 0,Value.int 0 0,Value.int 0 0,Value.ref b4,Value.bool true,Value.int 276 0,Value.ref (b4+1),Value.none,Value.none,Value.none,Value.none,Value.int (Int.ofNat (tk4+4)) 0,Value.int 67 0,Value.str (S [47,99,108,97,105,109,47,99,117,116,46,112,121]) (tk4+5)] }),
 ((b4+1),{ cls:=.none,data:=.fields #[.int 71 0,.int 8 0,.ref (b7+6),.int 74 0,.int 8 0,.ref (b7+14),.int 77 0,.int 8 0,.ref (b7+22),.int 80 0,.int 8 0,.ref (b7+30),.int 83 0,.int 8 0,.ref (b7+38),.int 86 0,.int 8 0,.ref (b7+46)] }),
 (b4,tupO #[Value.str (S [109,121,99,109,112]) (tk4+3)])]
noncomputable abbrev nsK (w:World) (b7 tk7:Nat):Obj:=dictO #[ent w (S [95,95,109,111,100,117,108,101,95,95]) tk7 (.str (S [99,112,121,51,49,51,46,102,117,110,99,116,111,111,108,115]) (tk7+5)),ent w (S [95,95,113,117,97,108,110,97,109,101,95,95]) (tk7+2) (.str (S [99,109,112,95,116,111,95,107,101,121,46,60,108,111,99,97,108,115,62,46,75]) (tk7+1)),ent w (S [95,95,102,105,114,115,116,108,105,110,101,110,111,95,95]) (tk7+4) (.int 67 (tk7+3)),ent w (S [95,95,115,108,111,116,115,95,95]) (tk7+8) (.ref b7),ent w (S [95,95,105,110,105,116,95,95]) (tk7+16) (.ref (b7+7)),ent w (S [95,95,108,116,95,95]) (tk7+25) (.ref (b7+15)),ent w (S [95,95,103,116,95,95]) (tk7+34) (.ref (b7+23)),ent w (S [95,95,101,113,95,95]) (tk7+43) (.ref (b7+31)),ent w (S [95,95,108,101,95,95]) (tk7+52) (.ref (b7+39)),ent w (S [95,95,103,101,95,95]) (tk7+61) (.ref (b7+47)),ent w (S [95,95,104,97,115,104,95,95]) (tk7+62) (.none),ent w (S [95,95,115,116,97,116,105,99,95,97,116,116,114,105,98,117,116,101,115,95,95]) (tk7+64) (.ref (b7+48))] 12
noncomputable abbrev sKq:Str:=S [99,109,112,95,116,111,95,107,101,121,46,60,108,111,99,97,108,115,62,46,75]
noncomputable abbrev sObj:Str:=S [111,98,106]
noncomputable abbrev clsKO (bt ns K:Nat) (t0 t1:Tok):Obj:={ cls:=.type "type",data:=.cls { name:=S [75],bases:=[.type "object"],mro:=[.ref K,.type "object"],ns:=ns,qualname:=sKq,hasDict:=false,slotNames:=[sObj] },slots:=#[some (.ref bt),none,some (.str (S [75]) t0),some (.str sKq t1),some (.builtin "object.__new__"),some (.bool false)] }
noncomputable abbrev superO (K:Nat):Obj:={ cls:=.type "super",data:=.fields #[.ref K,.ref K,.ref K] }
noncomputable abbrev chK (cb cs ck:Addr):Ch:=[(82,#[.int 57 0,.int 50 0,.ref cb]),(65,#[.int 26 0,.int 49 0,.ref cs]),(89,#[.int 67 0,.int 4 0,.ref ck])]
noncomputable abbrev mdO (K:Nat) (t:Tok):Obj:={ cls:=.type "member_descriptor",data:=.fields #[.str sObj t,.ref K,.builtin "proto.slot",.builtin "proto.slot#set",.int 0 0] }
noncomputable abbrev nsKO (w:World) (fI fL fG fE fLe fGe sl st md a0 a1 a2 a3 a4 a5 a6 a7 a8 a9 a10 a11 a12 a13 a14 ep:Nat):Obj:=dictO #[ent w (S [95,95,109,111,100,117,108,101,95,95]) a0 (.str (S [99,112,121,51,49,51,46,102,117,110,99,116,111,111,108,115]) a1),ent w (S [95,95,102,105,114,115,116,108,105,110,101,110,111,95,95]) a2 (.int 67 a3),ent w (S [95,95,115,108,111,116,115,95,95]) a4 (.ref sl),ent w (S [95,95,105,110,105,116,95,95]) a5 (.ref fI),ent w (S [95,95,108,116,95,95]) a6 (.ref fL),ent w (S [95,95,103,116,95,95]) a7 (.ref fG),ent w (S [95,95,101,113,95,95]) a8 (.ref fE),ent w (S [95,95,108,101,95,95]) a9 (.ref fLe),ent w (S [95,95,103,101,95,95]) a10 (.ref fGe),ent w (S [95,95,104,97,115,104,95,95]) a11 .none,ent w (S [95,95,115,116,97,116,105,99,95,97,116,116,114,105,98,117,116,101,115,95,95]) a12 (.ref st),ent w sObj a13 (.ref md),ent w (S [95,95,100,111,99,95,95]) a14 .none] ep
noncomputable def kNm:Nat→List Nat
 | 2=>[95,95,105,110,105,116,95,95]
 | 3=>[95,95,108,116,95,95]
 | 4=>[95,95,103,116,95,95]
 | 5=>[95,95,101,113,95,95]
 | 6=>[95,95,108,101,95,95]
 | _=>[95,95,103,101,95,95]
noncomputable def kQn (i:Nat):List Nat:=[99,109,112,95,116,111,95,107,101,121,46,60,108,111,99,97,108,115,62,46,75,46] ++ kNm i
noncomputable def kLn:Nat→Int
 | 2=>71
 | 3=>74
 | 4=>77
 | 5=>80
 | 6=>83
 | _=>86
noncomputable abbrev sFile:Str:=S [47,99,108,97,105,109,47,99,117,116,46,112,121]
noncomputable abbrev sLawM:Str:=S [108,97,119,95,111,121,48,50,48,52,95,48,49]
noncomputable abbrev fnKO (C:Cfg) (i:Nat) (clo:List (Str×Addr)) (code:Nat) (ct:Value):Obj:={ cls:=.type "function",data:=.func (fdK C i (S (kQn i)) 3 clo .none .none .none (.str sLawM 668) none (.ref code) ct 0) }
noncomputable abbrev coKO (i a1 a2 a3 a4 a5:Nat) (t0 t1 t2 t3 t4:Tok):Obj:={ cls:=.type "code",data:=.fields #[.str (S (kNm i)) t0,.str (S (kQn i)) t1,.str sFile t2,.int (kLn i) 0,.int 2 0,.int 0 0,.int 0 0,.int 19 0,.ref a1,.bool true,.int 276 0,.ref a2,.none,.ref a3,.ref a4,.ref a5,.int (Int.ofNat t3) 0,.int (kLn i) 0,.str sFile t4] }
structure KF where
 code:Nat
 ct:Value
 i1:Nat
 i2:Nat
 i3:Nat
 i4:Nat
 i5:Nat
 j0:Tok
 j1:Tok
 j2:Tok
 j3:Tok
 j4:Tok
noncomputable abbrev coKP (i:Nat) (u:KF):Obj:=coKO i u.i1 u.i2 u.i3 u.i4 u.i5 u.j0 u.j1 u.j2 u.j3 u.j4
inductive KFun (C:Cfg) (r:Memo) (i:Nat) (clo:List (Str×Addr)) (f:Addr):Prop
 | mk (u:KF) (hf:(f,fnKO C i clo u.code u.ct)∈r) (hc:(u.code,coKP i u)∈r):KFun C r i clo f
structure KP where
 bt:Nat
 ns:Nat
 t0:Tok
 t1:Tok
 md:Nat
 tm:Tok
 fI:Nat
 fL:Nat
 fG:Nat
 fE:Nat
 fLe:Nat
 fGe:Nat
 sl:Nat
 st:Nat
 a0:Nat
 a1:Nat
 a2:Nat
 a3:Nat
 a4:Nat
 a5:Nat
 a6:Nat
 a7:Nat
 a8:Nat
 a9:Nat
 a10:Nat
 a11:Nat
 a12:Nat
 a13:Nat
 a14:Nat
 ep:Nat
noncomputable abbrev nsKP (w:World) (k:KP):Obj:=nsKO w k.fI k.fL k.fG k.fE k.fLe k.fGe k.sl k.st k.md k.a0 k.a1 k.a2 k.a3 k.a4 k.a5 k.a6 k.a7 k.a8 k.a9 k.a10 k.a11 k.a12 k.a13 k.a14 k.ep
noncomputable abbrev clsKP (K:Nat) (k:KP):Obj:=clsKO k.bt k.ns K k.t0 k.t1
inductive KAt (C:Cfg) (w:World) (r:Memo) (c K:Addr):Prop
 | mk (k:KP) (hK:(K,clsKP K k)∈r) (hn:(k.ns,nsKP w k)∈r) (hm:(k.md,mdO K k.tm)∈r) (hI:KFun C r 2 [] k.fI) (hL:KFun C r 3 [(nMycmp,c)] k.fL) (hG:KFun C r 4 [(nMycmp,c)] k.fG) (hE:KFun C r 5 [(nMycmp,c)] k.fE) (hLe:KFun C r 6 [(nMycmp,c)] k.fLe) (hGe:KFun C r 7 [(nMycmp,c)] k.fGe):KAt C w r c K
theorem KFun.mono {C:Cfg} {r r':Memo} (h:Sub r r') {i clo f}:KFun C r i clo f→KFun C r' i clo f:=fun ⟨u,m1,m2⟩=>⟨u,h _ m1,h _ m2⟩
theorem KAt.mono {C:Cfg} {w:World} {r r':Memo} (h:Sub r r') {c K}:KAt C w r c K→KAt C w r' c K:=fun ⟨k,m1,m2,m3,k2,k3,k4,k5,k6,k7⟩ =>
 ⟨k,h _ m1,h _ m2,h _ m3,k2.mono h,k3.mono h,k4.mono h,k5.mono h,k6.mono h,k7.mono h⟩
theorem kMem_funs (C:Cfg) (b7 tk7 c b4 tk4:Nat):KFun C (kMem C b7 tk7 c b4 tk4) 2 [] (b7+7)∧KFun C (kMem C b7 tk7 c b4 tk4) 3 [(nMycmp,c)] (b7+15)∧KFun C (kMem C b7 tk7 c b4 tk4) 4 [(nMycmp,c)] (b7+23)∧KFun C (kMem C b7 tk7 c b4 tk4) 5 [(nMycmp,c)] (b7+31)∧KFun C (kMem C b7 tk7 c b4 tk4) 6 [(nMycmp,c)] (b7+39)∧KFun C (kMem C b7 tk7 c b4 tk4) 7 [(nMycmp,c)] (b7+47):=by
 have at_:∀ (n:Nat) (p:Addr×Obj),getAt (kMem C b7 tk7 c b4 tk4) n=some p→p∈kMem C b7 tk7 c b4 tk4:=fun n p h=>getAt_mem h
 refine ⟨?_,?_,?_,?_,?_,?_⟩
 ·exact ⟨⟨b7+6,.none,b7+1,b7+2,b7+3,b7+4,b7+5,_,_,_,tk7+14,_⟩,at_ 41 _ rfl,at_ 42 _ rfl⟩
 ·exact ⟨⟨b7+14,.ref (b7+8),b7+9,b7+10,b7+11,b7+12,b7+13,_,_,_,tk7+23,_⟩,at_ 33 _ rfl,at_ 34 _ rfl⟩
 ·exact ⟨⟨b7+22,.ref (b7+16),b7+17,b7+18,b7+19,b7+20,b7+21,_,_,_,tk7+32,_⟩,at_ 25 _ rfl,at_ 26 _ rfl⟩
 ·exact ⟨⟨b7+30,.ref (b7+24),b7+25,b7+26,b7+27,b7+28,b7+29,_,_,_,tk7+41,_⟩,at_ 17 _ rfl,at_ 18 _ rfl⟩
 ·exact ⟨⟨b7+38,.ref (b7+32),b7+33,b7+34,b7+35,b7+36,b7+37,_,_,_,tk7+50,_⟩,at_ 9 _ rfl,at_ 10 _ rfl⟩
 ·exact ⟨⟨b7+46,.ref (b7+40),b7+41,b7+42,b7+43,b7+44,b7+45,_,_,_,tk7+59,_⟩,at_ 1 _ rfl,at_ 2 _ rfl⟩
theorem drop_self (a:Addr):(([Value.ref a,.type "object"].dropWhile (· != .ref a)).drop 1)=[.type "object"]:=by
 have h2:(Value.ref a != .ref a)=false:=by simp
 rw [List.dropWhile_cons,h2]
 rfl
section
variable {w:World} {B:Hab} {h₀:Heap} (N:NatOk (C0 w B) h₀) {l r:Memo} {ch:Ch} {bt ns K:Nat} {t0 t1:Tok}
include N
theorem super_call {R:Result→Sx→Prop} (hK:(K,clsKO bt ns K t0 t1)∈r) (G:∀ s,R (.ok (.ret (.ref s))) ⟨ch,(s,superO K)::l,r⟩) :
  HC (C0 w B) h₀ none 90 ⟨ch,l,r⟩ (.call (.type "super") ⟨[.ref K,.ref K],[]⟩) R:=by
 refine HC.less_r (HC.reads (r:=(K,clsKO bt ns K t0 t1)::r) (Sub.cons hK (Sub.refl _)) ?_)
 refine HC.tree (lv:=89) (w:=0) (by kernel_rfl) ?_
 refine HT.val0 N [] (a:=PySem.Fin.again (.builtin "type.__call__" ⟨[.type "super",.ref K,.ref K],[]⟩)) (by kernel_rfl) ?_
 refine ⟨by kernel_rfl,?_⟩
 refine HC.tree (lv:=89) (w:=0) (by kernel_rfl) ?_
 intro b tk
 refine HTa.cutN N [2,1,1,1] [0] 1 [] (c:=.call (.builtin "super.__init__") ⟨[.ref b,.ref K,.ref K],[]⟩) (l:=(b,{ cls:=.type "super",data:=.fields #[.none,.none,.none] })::l) (r:=(K,clsKO bt ns K t0 t1)::r) (ch:=ch) (by kernel_rfl) rfl ?_
 refine HC.tree (lv:=88) (w:=0) (by kernel_rfl) ?_
 refine HT.val0 N [1] (a:=PySem.Fin.again (.builtin "super.__init__" ⟨[.ref b,.ref K,.ref K],[]⟩)) (by kernel_rfl) ?_
 refine ⟨by kernel_rfl,?_⟩
 refine HC.bodyB (lv:=88) (w:=0) (by kernel_rfl) (Bt:=Builtin.«super.__init__») (entryFor_of_fast (by kernel_rfl)) ?_
 unfold Builtin.«super.__init__»
 refine HT.bindV0 N [] (a:=()) (by kernel_rfl) ?_
 refine HT.bindV0 N [] (a:=⟨.ref K,.ref K⟩) (by kernel_rfl) ?_
 refine HT.bindV0 N [2] (a:=true) (by kernel_rfl) ?_
 refine HT.ite_neg (of_decide_eq_false (by kernel_rfl)) ?_
 refine HT.ite_neg (of_decide_eq_false (by kernel_rfl)) ?_
 refine HT.bind ?_
 refine HT.bindV0 N [2] (a:=true) (by kernel_rfl) ?_
 refine HT.ite_pos rfl ?_
 refine HT.bind (HT.subSelf (.inr (.head _)) rfl rfl ?_)
 refine HT.ite_pos rfl ?_
 refine HT.pure' ?_
 refine HT.bind ?_
 intro cb0 ct0
 refine HTa.val N [1,1] [0] 1 [] (a:=()) (l:=(b,{ cls:=.type "super",data:=.fields #[.ref K,.none,.none] })::l) (r:=(K,clsKO bt ns K t0 t1)::r) (ch:=ch) (by kernel_rfl) rfl ?_
 refine HT.bind ?_
 intro cb1 ct1
 refine HTa.val N [1,1] [0] 1 [] (a:=()) (l:=(b,{ cls:=.type "super",data:=.fields #[.ref K,.ref K,.none] })::l) (r:=(K,clsKO bt ns K t0 t1)::r) (ch:=ch) (by kernel_rfl) rfl ?_
 refine HT.bind ?_
 intro cb2 ct2
 refine HTa.val N [1,1] [0] 1 [] (a:=()) (l:=(b,{ cls:=.type "super",data:=.fields #[.ref K,.ref K,.ref K] })::l) (r:=(K,clsKO bt ns K t0 t1)::r) (ch:=ch) (by kernel_rfl) rfl ?_
 refine HT.val0 N [] (a:=PySem.Fin.done (PySem.Flow.ret (.none))) (by kernel_rfl) ?_
 intro b4 tk4
 refine HTa.val N [] [0] 1 [] (a:=.done (.ret (.ref b))) (l:=(b,{ cls:=Value.type "super",data:=Data.fields #[Value.ref K,Value.ref K,Value.ref K] })::l) (r:=(K,clsKO bt ns K t0 t1)::r) (ch:=ch) (by kernel_rfl) rfl ?_
 exact ⟨r,Sub.tail,G b⟩
theorem super_get {Q:Value→Sx→Prop} {s:Nat} {E:Value→Sx→Prop}
  (G:∀ m,Q (.ref m) ⟨ch,(m,{ cls:=.type "builtin_function_or_method",data:=.fields #[.builtin "object.__init_subclass__",.ref K] })::l,(K,clsKO bt ns K t0 t1)::r⟩):HT (C0 w B) h₀ none 80 ⟨ch,(s,superO K)::l,(K,clsKO bt ns K t0 t1)::r⟩ (getAttr (.ref s) (Str.ofString "__init_subclass__")) Q E:=by
 intro b tk
 refine HTa.cutN N [1] [0] 1 [] (c:=.call (.builtin "super.__getattribute__") ⟨[.ref s,.str (S [95,95,105,110,105,116,95,115,117,98,99,108,97,115,115,95,95]) tk],[]⟩) (l:=(s,superO K)::l) (r:=(K,clsKO bt ns K t0 t1)::r) (ch:=ch) (by kernel_rfl) rfl ?_
 refine HC.tree (lv:=79) (w:=0) (by kernel_rfl) ?_
 refine HT.val0 N [1] (a:=PySem.Fin.again (.builtin "super.__getattribute__" ⟨[.ref s,.str (S [95,95,105,110,105,116,95,115,117,98,99,108,97,115,115,95,95]) tk],[]⟩)) (by kernel_rfl) ?_
 refine ⟨by kernel_rfl,?_⟩
 refine HC.bodyB (lv:=79) (w:=0) (by kernel_rfl) (Bt:=Builtin.«super.__getattribute__») (entryFor_of_fast (by kernel_rfl)) ?_
 unfold Builtin.«super.__getattribute__»
 refine HT.bindV0 N [] (a:=(some ((S [95,95,105,110,105,116,95,115,117,98,99,108,97,115,115,95,95])))) (by kernel_rfl) ?_
 refine HT.ite_neg (of_decide_eq_false (by kernel_rfl)) ?_
 refine HT.bindV0 N [] (a:=(some ((S [95,95,105,110,105,116,95,115,117,98,99,108,97,115,115,95,95])))) (by kernel_rfl) ?_
 refine HT.bindV0 N [1] (a:=.ref K) (by kernel_rfl) ?_
 refine HT.bindV0 N [1] (a:=.ref K) (by kernel_rfl) ?_
 refine HT.bindV0 N [1] (a:=.ref K) (by kernel_rfl) ?_
 refine HT.ite_neg (of_decide_eq_false (by kernel_rfl)) ?_
 refine HT.bindV0 N [0] (a:=()) (by kernel_rfl) ?_
 refine HT.ite_neg (of_decide_eq_false (by kernel_rfl)) ?_
 refine HT.bindV0 N [2] (a:=[.ref K,.type "object"]) (by kernel_rfl) ?_
 refine HT.bind (HT.ofEq (congrArg (fun l=>forIn l _ _) (drop_self K)) ?_)
 have hkk:(Value.ref K == Value.ref K)=true:=by simp
 rw [if_pos hkk]
 intro cb0 ct0
 refine HTa.val N [1,2,2] [0,1] 2 [] (a:=⟨(some (PySem.Fin.done (PySem.Flow.ret (.ref cb0)))),()⟩) (l:=(cb0,{ cls:=.type "builtin_function_or_method",data:=.fields #[.builtin "object.__init_subclass__",.ref K] })::(s,superO K)::l) (r:=(K,clsKO bt ns K t0 t1)::r) (ch:=ch) (by kernel_rfl) rfl ?_
 refine HT.pure' ?_
 intro b5 tk5
 refine HTa.val N [] [0] 2 [] (a:=.ref cb0) (l:=(cb0,{ cls:=Value.type "builtin_function_or_method",data:=Data.fields #[Value.builtin "object.__init_subclass__",Value.ref K] })::l) (r:=(K,clsKO bt ns K t0 t1)::r) (ch:=ch) (by kernel_rfl) rfl ?_
 exact G _
theorem init_sub {Q:Value→Sx→Prop} {m:Nat} {E:Value→Sx→Prop} (G:Q .none ⟨ch,l,(K,clsKO bt ns K t0 t1)::r⟩) :
  HT (C0 w B) h₀ none 80 ⟨ch,(m,{ cls:=.type "builtin_function_or_method",data:=.fields #[.builtin "object.__init_subclass__",.ref K] })::l,(K,clsKO bt ns K t0 t1)::r⟩ (call (.ref m) [] []) Q E:=by
 intro b tk
 refine HTa.val N [1,1,2,2,2,2] [] 1 [] (a:=.none) (l:=l) (r:=(K,clsKO bt ns K t0 t1)::r) (ch:=ch) (by kernel_rfl) rfl ?_
 exact G
end
set_option maxHeartbeats 0 in
noncomputable def ckP {w:World} {B:Hab} {h₀:Heap} (N:NatOk (C0 w B) h₀):{ P:Nat→Nat→Nat→Nat→Nat→Memo→Memo→Ch→(Flow→Sx→Prop)→Prop // ∀ (f c:Nat) (l r:Memo) (ch:Ch) (Q:Flow→Sx→Prop),(∀ bt tk0 b2,P bt tk0 b2 f c l r ch Q)→HT (C0 w B) h₀ none 100 ⟨ch,(f,frameO #[] 0)::(c,cellO (some (.ref 155)))::l,r⟩ (execsZ [ckB (C0 w B) 0] (envCk (C0 w B) f c)) Q (fun vz0 vz1=>False) }:=⟨_,fun f c l r ch Q H=>by
 refine HT.exec1 ?_
 have e:ckB (C0 w B) 0 = .ClassDef (clsOf (ckB (C0 w B) 0)).name (clsOf (ckB (C0 w B) 0)).bases (clsOf (ckB (C0 w B) 0)).keywords (clsOf (ckB (C0 w B) 0)).body (clsOf (ckB (C0 w B) 0)).decorators [] (clsOf (ckB (C0 w B) 0)).scope (clsOf (ckB (C0 w B) 0)).x1 (clsOf (ckB (C0 w B) 0)).bind (clsOf (ckB (C0 w B) 0)).statics (clsOf (ckB (C0 w B) 0)).pos:=by kernel_rfl
 rw [e,arm_exec_ClassDef]
 refine HT.bindV0 N [] (a:=[]) (by kernel_rfl) ?_
 refine HT.bind (HT.standAt ?_)
 refine HT.bindV0 N [0] (a:=()) (by kernel_rfl) ?_
 refine HT.bind ?_
 refine HT.holding ?_
 refine HT.bindV0 N [0,0] (a:=argsObj) (by kernel_rfl) ?_
 refine HT.bind (HT.standAt ?_)
 refine HT.holding ?_
 unfold buildClass
 refine HT.bind (HT.newTupleL (by decide) fun bt=>?_)
 refine HT.bindV0 N [] (a:=clsFor) (by kernel_rfl) ?_
 dsimp only
 refine HT.bindV0 N [] (a:=.type "type") (by kernel_rfl) ?_
 refine HT.bindV0 N [] (a:=true) (by kernel_rfl) ?_
 rw [if_pos rfl]
 refine HT.bindV0 N [] (a:=.type "type") (by kernel_rfl) ?_
 refine HT.bind ?_
 intro b0 tk0
 refine HTa.val N [] [0,1,2] 3 [] (a:=.str (S [75]) tk0) (l:=(bt,tupO #[Value.type "object"])::(f,frameO #[] 0)::(c,cellO (some (Value.ref 155)))::l) (r:=r) (ch:=ch) (by kernel_rfl) rfl ?_
 rw [if_neg (by decide)]
 refine HT.bind (HT.pure' ?_)
 refine HT.holding ?_
 refine HT.bind ?_
 intro b tk
 refine HTa.val N [1,1] [0,1,2,3] 4 [] (a:=some (.ref b)) (l:=(b,{ cls:=.type "builtin_function_or_method",data:=.fields #[.builtin "type.__prepare__",.type "type"] })::(bt,tupO #[Value.type "object"])::(f,frameO #[] 0)::(c,cellO (some (Value.ref 155)))::l) (r:=r) (ch:=ch) (by kernel_rfl) rfl ?_
 dsimp only
 refine HT.bind (HT.start3 (by show 3≤161;decide) fun b2 tk2=>?_)
 refine HTa.val N [1,1] [0,2,3,4] 5 [] (a:=.ref (b2+3)) (l:=((b2+3),dictO #[] 0)::(bt,tupO #[Value.type "object"])::(f,frameO #[] 0)::(c,cellO (some (Value.ref 155)))::l) (r:=r) (ch:=ch) (by kernel_rfl) rfl ?_
 dsimp only
 refine HT.bind (HT.notMod (.head _) (by show 3≤161;decide) ?_)
 refine HT.bindV0 N [1] (a:=dictGet) (by kernel_rfl) ?_
 rw [if_neg (by decide)]
 refine HT.holding ?_
 have hx1:(List.lookup (Str.ofString "__class__") (clsOf (ckB (C0 w B) 0)).scope.names == some NameKind.cell)=false:=by kernel_rfl
 have hx2:(List.lookup (Str.ofString "__classdict__") (clsOf (ckB (C0 w B) 0)).scope.names == some NameKind.cell)=false:=by kernel_rfl
 rw [hx1,hx2]
 simp only [Bool.false_eq_true,if_false,pure_bind]
 exact H bt tk0 b2⟩
noncomputable abbrev nsKI (w:World) (fI fL fG fE fLe fGe sl st:Nat) (a0 a1 ap aq a2 a3 a4 a5 a6 a7 a8 a9 a10 a11 a12:Nat):Obj:=dictO #[ent w (S [95,95,109,111,100,117,108,101,95,95]) a0 (.str (S [99,112,121,51,49,51,46,102,117,110,99,116,111,111,108,115]) a1),ent w (S [95,95,113,117,97,108,110,97,109,101,95,95]) aq (.str sKq ap),ent w (S [95,95,102,105,114,115,116,108,105,110,101,110,111,95,95]) a2 (.int 67 a3),ent w (S [95,95,115,108,111,116,115,95,95]) a4 (.ref sl),ent w (S [95,95,105,110,105,116,95,95]) a5 (.ref fI),ent w (S [95,95,108,116,95,95]) a6 (.ref fL),ent w (S [95,95,103,116,95,95]) a7 (.ref fG),ent w (S [95,95,101,113,95,95]) a8 (.ref fE),ent w (S [95,95,108,101,95,95]) a9 (.ref fLe),ent w (S [95,95,103,101,95,95]) a10 (.ref fGe),ent w (S [95,95,104,97,115,104,95,95]) a11 (.none),ent w (S [95,95,115,116,97,116,105,99,95,97,116,116,114,105,98,117,116,101,115,95,95]) a12 (.ref st)] 12
noncomputable abbrev fnO (d:FuncData):Obj:={ cls:=.type "function",data:=.func d }
noncomputable abbrev kR (sl st fI fL fG fE fLe fGe a15 a16:Nat) (oI oL oG oE oLe oGe:FuncData):Memo:=[(sl,listO #[.str sObj a15] 0),(st,tupO #[.str sObj a16]),(fI,fnO oI),(fL,fnO oL),(fG,fnO oG),(fE,fnO oE),(fLe,fnO oLe),(fGe,fnO oGe)]
noncomputable abbrev esK1 (w:World) (fI fL fG fE fLe fGe sl st a0 a1 a2 a3 a4 a5 a6 a7 a8 a9 a10 a11 a12:Nat) (ap aq:Nat):Array DictEntry:=#[ent w (S [95,95,109,111,100,117,108,101,95,95]) a0 (.str (S [99,112,121,51,49,51,46,102,117,110,99,116,111,111,108,115]) a1),ent w (S [95,95,113,117,97,108,110,97,109,101,95,95]) aq (.str (S [99,109,112,95,116,111,95,107,101,121,46,60,108,111,99,97,108,115,62,46,75]) ap),ent w (S [95,95,102,105,114,115,116,108,105,110,101,110,111,95,95]) a2 (.int 67 a3),ent w (S [95,95,115,108,111,116,115,95,95]) a4 (.ref sl),ent w (S [95,95,105,110,105,116,95,95]) a5 (.ref fI),ent w (S [95,95,108,116,95,95]) a6 (.ref fL),ent w (S [95,95,103,116,95,95]) a7 (.ref fG),ent w (S [95,95,101,113,95,95]) a8 (.ref fE),ent w (S [95,95,108,101,95,95]) a9 (.ref fLe),ent w (S [95,95,103,101,95,95]) a10 (.ref fGe),ent w (S [95,95,104,97,115,104,95,95]) a11 (.none),ent w (S [95,95,115,116,97,116,105,99,95,97,116,116,114,105,98,117,116,101,115,95,95]) a12 (.ref st)]
noncomputable abbrev esK2 (w:World) (fI fL fG fE fLe fGe sl st a0 a1 a2 a3 a4 a5 a6 a7 a8 a9 a10 a11 a12:Nat):Array DictEntry:=#[ent w (S [95,95,109,111,100,117,108,101,95,95]) a0 (.str (S [99,112,121,51,49,51,46,102,117,110,99,116,111,111,108,115]) a1),ent w (S [95,95,102,105,114,115,116,108,105,110,101,110,111,95,95]) a2 (.int 67 a3),ent w (S [95,95,115,108,111,116,115,95,95]) a4 (.ref sl),ent w (S [95,95,105,110,105,116,95,95]) a5 (.ref fI),ent w (S [95,95,108,116,95,95]) a6 (.ref fL),ent w (S [95,95,103,116,95,95]) a7 (.ref fG),ent w (S [95,95,101,113,95,95]) a8 (.ref fE),ent w (S [95,95,108,101,95,95]) a9 (.ref fLe),ent w (S [95,95,103,101,95,95]) a10 (.ref fGe),ent w (S [95,95,104,97,115,104,95,95]) a11 (.none),ent w (S [95,95,115,116,97,116,105,99,95,97,116,116,114,105,98,117,116,101,115,95,95]) a12 (.ref st)]
noncomputable abbrev esK3 (w:World) (fI fL fG fE fLe fGe sl st a0 a1 a2 a3 a4 a5 a6 a7 a8 a9 a10 a11 a12:Nat) (ot5 ob5:Nat):Array DictEntry:=#[ent w (S [95,95,109,111,100,117,108,101,95,95]) a0 (.str (S [99,112,121,51,49,51,46,102,117,110,99,116,111,111,108,115]) a1),ent w (S [95,95,102,105,114,115,116,108,105,110,101,110,111,95,95]) a2 (.int 67 a3),ent w (S [95,95,115,108,111,116,115,95,95]) a4 (.ref sl),ent w (S [95,95,105,110,105,116,95,95]) a5 (.ref fI),ent w (S [95,95,108,116,95,95]) a6 (.ref fL),ent w (S [95,95,103,116,95,95]) a7 (.ref fG),ent w (S [95,95,101,113,95,95]) a8 (.ref fE),ent w (S [95,95,108,101,95,95]) a9 (.ref fLe),ent w (S [95,95,103,101,95,95]) a10 (.ref fGe),ent w (S [95,95,104,97,115,104,95,95]) a11 (.none),ent w (S [95,95,115,116,97,116,105,99,95,97,116,116,114,105,98,117,116,101,115,95,95]) a12 (.ref st),ent w (S [111,98,106]) (ot5+1) (.ref ob5)]
noncomputable abbrev esK4 (w:World) (fI fL fG fE fLe fGe sl st a0 a1 a2 a3 a4 a5 a6 a7 a8 a9 a10 a11 a12:Nat) (ot5 ob5 ot12:Nat):Array DictEntry:=#[ent w (S [95,95,109,111,100,117,108,101,95,95]) a0 (.str (S [99,112,121,51,49,51,46,102,117,110,99,116,111,111,108,115]) a1),ent w (S [95,95,102,105,114,115,116,108,105,110,101,110,111,95,95]) a2 (.int 67 a3),ent w (S [95,95,115,108,111,116,115,95,95]) a4 (.ref sl),ent w (S [95,95,105,110,105,116,95,95]) a5 (.ref fI),ent w (S [95,95,108,116,95,95]) a6 (.ref fL),ent w (S [95,95,103,116,95,95]) a7 (.ref fG),ent w (S [95,95,101,113,95,95]) a8 (.ref fE),ent w (S [95,95,108,101,95,95]) a9 (.ref fLe),ent w (S [95,95,103,101,95,95]) a10 (.ref fGe),ent w (S [95,95,104,97,115,104,95,95]) a11 (.none),ent w (S [95,95,115,116,97,116,105,99,95,97,116,116,114,105,98,117,116,101,115,95,95]) a12 (.ref st),ent w (S [111,98,106]) (ot5+1) (.ref ob5),ent w (S [95,95,100,111,99,95,95]) ot12 (.none)]
noncomputable abbrev clsX (mb1:Nat) (mro:List Value) (hd:Bool) (sn:List Str) (sl:Array (Option Value)):Obj:={ cls:=.type "type",data:=.cls ⟨S [75],[.type "object"],mro,mb1,S [99,109,112,95,116,111,95,107,101,121,46,60,108,111,99,97,108,115,62,46,75],hd,sn,[],false,none,false⟩,slots:=sl }
section
variable {w:World} {B:Hab} {h₀:Heap} (N:NatOk (C0 w B) h₀) {f c b2 bt fI fL fG fE fLe fGe sl st tk0 a0 a1 ap aq a2 a3 a4 a5 a6 a7 a8 a9 a10 a11 a12 a15 a16:Nat} {oI oL oG oE oLe oGe:FuncData} {l r:Memo} {ch:Ch}
include N
set_option maxHeartbeats 0 in
theorem cls_newG {R:Result→Sx→Prop} (G:∀ K r',Sub r r'→(KFun (C0 w B) r' 2 [] fI→KFun (C0 w B) r' 3 [(nMycmp,c)] fL→KFun (C0 w B) r' 4 [(nMycmp,c)] fG→KFun (C0 w B) r' 5 [(nMycmp,c)] fE→KFun (C0 w B) r' 6 [(nMycmp,c)] fLe→KFun (C0 w B) r' 7 [(nMycmp,c)] fGe→KAt (C0 w B) w r' c K)→Sub (kR sl st fI fL fG fE fLe fGe a15 a16 oI oL oG oE oLe oGe) r'→R (.ok (.ret (.ref K))) ⟨ch,(f,frameO #[] 0)::(c,cellO (some (.ref 155)))::l,r'⟩) :
  HC (C0 w B) h₀ none 100 ⟨ch,(b2+3,nsKI w fI fL fG fE fLe fGe sl st a0 a1 ap aq a2 a3 a4 a5 a6 a7 a8 a9 a10 a11 a12)::(bt,tupO #[.type "object"])::(f,frameO #[] 0)::(c,cellO (some (.ref 155)))::l,kR sl st fI fL fG fE fLe fGe a15 a16 oI oL oG oE oLe oGe ++ r⟩ (.call (.type "type") ⟨[.str (S [75]) tk0,.ref bt,.ref (b2+3)],[]⟩) R:=by
 refine HC.tree (lv:=99) (w:=0) (by kernel_rfl) ?_
 refine HT.val0 N [] (a:=PySem.Fin.again (.builtin "type.__call__" ⟨[.type "type",.str (S [75]) tk0,.ref bt,.ref (b2+3)],[]⟩)) (by kernel_rfl) ?_
 refine ⟨by kernel_rfl,?_⟩
 refine HC.tree (lv:=99) (w:=0) (by kernel_rfl) ?_
 refine HT.cut0 N [] (c:=.call (.builtin "type.__new__") ⟨[.type "type",.str (S [75]) tk0,.ref bt,.ref (b2+3)],[]⟩) (by kernel_rfl) fun b9 tk9=>?_
 refine HC.tree (lv:=98) (w:=0) (by kernel_rfl) ?_
 refine HT.val0 N [] (a:=PySem.Fin.again (.builtin "type.__new__" ⟨[.type "type",.str (S [75]) tk0,.ref bt,.ref (b2+3)],[]⟩)) (by kernel_rfl) ?_
 refine ⟨by kernel_rfl,?_⟩
 refine HC.bodyB (lv:=98) (w:=0) (by kernel_rfl) (Bt:=Builtin.«type.__new__») (entryFor_of_fast (by kernel_rfl)) ?_
 unfold Builtin.«type.__new__»
 refine HT.bindV0 N [] (a:=(some ((S [75])))) (by kernel_rfl) ?_
 refine HT.bindV0 N [3] (a:=true) (by kernel_rfl) ?_
 refine HT.ite_neg (of_decide_eq_false (by kernel_rfl)) ?_
 refine HT.bindV0 N [1] (a:=true) (by kernel_rfl) ?_
 refine HT.ite_neg (of_decide_eq_false (by kernel_rfl)) ?_
 refine HT.bindV0 N [3] (a:=(some (#[.type "object"]))) (by kernel_rfl) ?_
 refine HT.ite_neg (of_decide_eq_false (by kernel_rfl)) ?_
 refine HT.bindV0 N [] (a:=()) (by kernel_rfl) ?_
 refine HT.bindV0 N [] (a:=.type "type") (by kernel_rfl) ?_
 refine HT.ite_neg (of_decide_eq_false (by kernel_rfl)) ?_
 refine HT.bindV0 N [] (a:=()) (by kernel_rfl) ?_
 refine HT.bindV0 N [] (a:=.type "object") (by kernel_rfl) ?_
 refine HT.ite_neg (of_decide_eq_false (by kernel_rfl)) ?_
 refine HT.bindV0 N [1] (a:=(esK1 w fI fL fG fE fLe fGe sl st a0 a1 a2 a3 a4 a5 a6 a7 a8 a9 a10 a11 a12 ap aq)) (by kernel_rfl) ?_
 refine HT.bindV0 N [1] (a:=(some (.builtin "dict.__iter__"))) (by kernel_rfl) ?_
 refine HT.ite_pos (of_decide_eq_true (by kernel_rfl)) ?_
 refine HT.bindV0 N [] (a:=⟨(esK1 w fI fL fG fE fLe fGe sl st a0 a1 a2 a3 a4 a5 a6 a7 a8 a9 a10 a11 a12 ap aq),[]⟩) (by kernel_rfl) ?_
 refine HT.bind (HT.holding ?_)
 refine HT.cut0 N [2] (c:=.builtin "proto.collect" ⟨[.ref sl],[]⟩) (by kernel_rfl) fun b11 tk11=>?_
 refine HC.collectC (.inr (.head _)) (by simp) fun p n'=>?_
 refine HT.val0 N [1] (a:=⟨[(S [111,98,106])],false,false,[]⟩) (by kernel_rfl) ?_
 refine HT.bind ?_
 intro mb1 mt1
 refine HTa.val N [] [0,1,2,3,4,5] 6 [] (a:=.ref mb1) (l:=(mb1,dictO (esK1 w fI fL fG fE fLe fGe sl st a0 a1 a2 a3 a4 a5 a6 a7 a8 a9 a10 a11 a12 ap aq) 0)::(p,listO #[Value.str (S [111,98,106]) a15] n')::(b2+3,nsKI w fI fL fG fE fLe fGe sl st a0 a1 ap aq a2 a3 a4 a5 a6 a7 a8 a9 a10 a11 a12)::(bt,tupO #[Value.type "object"])::(f,frameO #[] 0)::(c,cellO (some (Value.ref 155)))::l) (r:=kR sl st fI fL fG fE fLe fGe a15 a16 oI oL oG oE oLe oGe ++ r) (ch:=ch) (by kernel_rfl) rfl ?_
 refine HT.ite_neg (of_decide_eq_false (by kernel_rfl)) ?_
 refine HT.bindV0 N [] (a:=()) (by kernel_rfl) ?_
 refine HT.ite_neg (of_decide_eq_false (by kernel_rfl)) ?_
 refine HT.bindV0 N [1] (a:=(some (.str (S [99,109,112,95,116,111,95,107,101,121,46,60,108,111,99,97,108,115,62,46,75]) ap))) (by kernel_rfl) ?_
 refine HT.bindV0 N [1] (a:=(some (.str (S [99,109,112,95,116,111,95,107,101,121,46,60,108,111,99,97,108,115,62,46,75]) ap))) (by kernel_rfl) ?_
 refine HT.bindV0 N [] (a:=(some ((S [99,109,112,95,116,111,95,107,101,121,46,60,108,111,99,97,108,115,62,46,75])))) (by kernel_rfl) ?_
 refine HT.bindV0 N [] (a:=(S [99,109,112,95,116,111,95,107,101,121,46,60,108,111,99,97,108,115,62,46,75])) (by kernel_rfl) ?_
 refine HT.bindV0 N [1] (a:=none) (by kernel_rfl) ?_
 refine HT.bind ?_
 intro mb10 mt10
 refine HTa.val N [] [0,1,2,3,4,5,6] 7 [] (a:=mb10) (l:=(mb10,clsX mb1 [] true [] #[])::(mb1,dictO (esK1 w fI fL fG fE fLe fGe sl st a0 a1 a2 a3 a4 a5 a6 a7 a8 a9 a10 a11 a12 ap aq) 0)::(p,listO #[Value.str (S [111,98,106]) a15] n')::(b2+3,nsKI w fI fL fG fE fLe fGe sl st a0 a1 ap aq a2 a3 a4 a5 a6 a7 a8 a9 a10 a11 a12)::(bt,tupO #[Value.type "object"])::(f,frameO #[] 0)::(c,cellO (some (Value.ref 155)))::l) (r:=kR sl st fI fL fG fE fLe fGe a15 a16 oI oL oG oE oLe oGe ++ r) (ch:=ch) (by kernel_rfl) rfl ?_
 refine HT.ite_pos (of_decide_eq_true (by kernel_rfl)) ?_
 refine HT.bind ?_
 intro mb12 mt12
 refine HTa.val N [1] [0,1,2,3,4,5,6] 7 [] (a:=()) (l:=(mb10,clsX mb1 [] true [] #[some (.ref bt)])::(mb1,dictO (esK1 w fI fL fG fE fLe fGe sl st a0 a1 a2 a3 a4 a5 a6 a7 a8 a9 a10 a11 a12 ap aq) 0)::(p,listO #[Value.str (S [111,98,106]) a15] n')::(b2+3,nsKI w fI fL fG fE fLe fGe sl st a0 a1 ap aq a2 a3 a4 a5 a6 a7 a8 a9 a10 a11 a12)::(bt,tupO #[Value.type "object"])::(f,frameO #[] 0)::(c,cellO (some (Value.ref 155)))::l) (r:=kR sl st fI fL fG fE fLe fGe a15 a16 oI oL oG oE oLe oGe ++ r) (ch:=ch) (by kernel_rfl) rfl ?_
 refine HT.bind ?_
 intro mb13 mt13
 refine HTa.val N [1] [0,1,2,3,4,5,6] 7 [] (a:=()) (l:=(mb10,clsX mb1 [] true [] #[some (.ref bt),none,some (.str (S [75]) tk0)])::(mb1,dictO (esK1 w fI fL fG fE fLe fGe sl st a0 a1 a2 a3 a4 a5 a6 a7 a8 a9 a10 a11 a12 ap aq) 0)::(p,listO #[Value.str (S [111,98,106]) a15] n')::(b2+3,nsKI w fI fL fG fE fLe fGe sl st a0 a1 ap aq a2 a3 a4 a5 a6 a7 a8 a9 a10 a11 a12)::(bt,tupO #[Value.type "object"])::(f,frameO #[] 0)::(c,cellO (some (Value.ref 155)))::l) (r:=kR sl st fI fL fG fE fLe fGe a15 a16 oI oL oG oE oLe oGe ++ r) (ch:=ch) (by kernel_rfl) rfl ?_
 refine HT.bind ?_
 intro mb14 mt14
 refine HTa.val N [1] [0,1,2,3,4,5,6] 7 [] (a:=()) (l:=(mb10,clsX mb1 [] true [] #[some (.ref bt),none,some (.str (S [75]) tk0),some (.str (S [99,109,112,95,116,111,95,107,101,121,46,60,108,111,99,97,108,115,62,46,75]) ap)])::(mb1,dictO (esK1 w fI fL fG fE fLe fGe sl st a0 a1 a2 a3 a4 a5 a6 a7 a8 a9 a10 a11 a12 ap aq) 0)::(p,listO #[Value.str (S [111,98,106]) a15] n')::(b2+3,nsKI w fI fL fG fE fLe fGe sl st a0 a1 ap aq a2 a3 a4 a5 a6 a7 a8 a9 a10 a11 a12)::(bt,tupO #[Value.type "object"])::(f,frameO #[] 0)::(c,cellO (some (Value.ref 155)))::l) (r:=kR sl st fI fL fG fE fLe fGe a15 a16 oI oL oG oE oLe oGe ++ r) (ch:=ch) (by kernel_rfl) rfl ?_
 refine HT.bind ?_
 intro mb15 mt15
 refine HTa.val N [3,3] [0,1,2,3,4,5,6] 7 [] (a:=true) (l:=(mb10,clsX mb1 [] true [] #[some (.ref bt),none,some (.str (S [75]) tk0),some (.str (S [99,109,112,95,116,111,95,107,101,121,46,60,108,111,99,97,108,115,62,46,75]) ap)])::(mb1,dictO (esK2 w fI fL fG fE fLe fGe sl st a0 a1 a2 a3 a4 a5 a6 a7 a8 a9 a10 a11 a12) 1)::(p,listO #[Value.str (S [111,98,106]) a15] n')::(b2+3,nsKI w fI fL fG fE fLe fGe sl st a0 a1 ap aq a2 a3 a4 a5 a6 a7 a8 a9 a10 a11 a12)::(bt,tupO #[Value.type "object"])::(f,frameO #[] 0)::(c,cellO (some (Value.ref 155)))::l) (r:=kR sl st fI fL fG fE fLe fGe a15 a16 oI oL oG oE oLe oGe ++ r) (ch:=ch) (by kernel_rfl) rfl ?_
 refine HT.bindV0 N [3] (a:=none) (by kernel_rfl) ?_
 refine HT.bindV0 N [3,3] (a:=()) (by kernel_rfl) ?_
 refine HT.bindV0 N [3] (a:=none) (by kernel_rfl) ?_
 refine HT.bindV0 N [3] (a:=none) (by kernel_rfl) ?_
 refine HT.bindV0 N [] (a:=none) (by kernel_rfl) ?_
 refine HT.bindV0 N [] (a:=[.type "object"]) (by kernel_rfl) ?_
 refine HT.bindV0 N [] (a:=[.ref mb10,.type "object"]) (by kernel_rfl) ?_
 refine HT.bind (HT.ofEq (congrArg (List.anyM _) (filt_self _)) ?_)
 refine HT.val0 N [] (a:=false) (by kernel_rfl) ?_
 refine HT.bind ?_
 intro ob1 ot1
 refine HTa.val N [1,1,1] [0,1,2,3,4,5,6] 7 [] (a:=()) (l:=(mb10,clsX mb1 [.ref mb10,.type "object"] true [] #[some (.ref bt),none,some (.str (S [75]) tk0),some (.str (S [99,109,112,95,116,111,95,107,101,121,46,60,108,111,99,97,108,115,62,46,75]) ap)])::(mb1,dictO (esK2 w fI fL fG fE fLe fGe sl st a0 a1 a2 a3 a4 a5 a6 a7 a8 a9 a10 a11 a12) 1)::(p,listO #[Value.str (S [111,98,106]) a15] n')::(b2+3,nsKI w fI fL fG fE fLe fGe sl st a0 a1 ap aq a2 a3 a4 a5 a6 a7 a8 a9 a10 a11 a12)::(bt,tupO #[Value.type "object"])::(f,frameO #[] 0)::(c,cellO (some (Value.ref 155)))::l) (r:=kR sl st fI fL fG fE fLe fGe a15 a16 oI oL oG oE oLe oGe ++ r) (ch:=ch) (by kernel_rfl) rfl ?_
 refine HT.bindV0 N [] (a:=(some ("object.__new__"))) (by kernel_rfl) ?_
 refine HT.bind ?_
 intro ob3 ot3
 refine HTa.val N [1] [0,1,2,3,4,5,6] 7 [] (a:=()) (l:=(mb10,clsX mb1 [.ref mb10,.type "object"] true [] #[some (.ref bt),none,some (.str (S [75]) tk0),some (.str (S [99,109,112,95,116,111,95,107,101,121,46,60,108,111,99,97,108,115,62,46,75]) ap),some (.builtin "object.__new__")])::(mb1,dictO (esK2 w fI fL fG fE fLe fGe sl st a0 a1 a2 a3 a4 a5 a6 a7 a8 a9 a10 a11 a12) 1)::(p,listO #[Value.str (S [111,98,106]) a15] n')::(b2+3,nsKI w fI fL fG fE fLe fGe sl st a0 a1 ap aq a2 a3 a4 a5 a6 a7 a8 a9 a10 a11 a12)::(bt,tupO #[Value.type "object"])::(f,frameO #[] 0)::(c,cellO (some (Value.ref 155)))::l) (r:=kR sl st fI fL fG fE fLe fGe a15 a16 oI oL oG oE oLe oGe ++ r) (ch:=ch) (by kernel_rfl) rfl ?_
 refine HT.bind ?_
 intro ob4 ot4
 refine HTa.val N [1,1,1,3] [0,1,2,3,4,5,6] 7 [] (a:=()) (l:=(mb10,clsX mb1 [.ref mb10,.type "object"] true [] #[some (.ref bt),none,some (.str (S [75]) tk0),some (.str (S [99,109,112,95,116,111,95,107,101,121,46,60,108,111,99,97,108,115,62,46,75]) ap),some (.builtin "object.__new__")])::(mb1,dictO (esK2 w fI fL fG fE fLe fGe sl st a0 a1 a2 a3 a4 a5 a6 a7 a8 a9 a10 a11 a12) 1)::(p,listO #[Value.str (S [111,98,106]) a15] n')::(b2+3,nsKI w fI fL fG fE fLe fGe sl st a0 a1 ap aq a2 a3 a4 a5 a6 a7 a8 a9 a10 a11 a12)::(bt,tupO #[Value.type "object"])::(f,frameO #[] 0)::(c,cellO (some (Value.ref 155)))::l) (r:=kR sl st fI fL fG fE fLe fGe a15 a16 oI oL oG oE oLe oGe ++ r) (ch:=ch) (by kernel_rfl) rfl ?_
 refine HT.bind ?_
 intro ob5 ot5
 refine HTa.val N [3,5,5,5,3,3,3] [0,1,2,3,4,5,6,7] 8 [] (a:=()) (l:=(ob5,{ cls:=.type "member_descriptor",data:=.fields #[.str (S [111,98,106]) ot5,.ref mb10,.builtin "proto.slot",.builtin "proto.slot#set",.int 0 0] })::(mb10,clsX mb1 [.ref mb10,.type "object"] false [(S [111,98,106])] #[some (.ref bt),none,some (.str (S [75]) tk0),some (.str (S [99,109,112,95,116,111,95,107,101,121,46,60,108,111,99,97,108,115,62,46,75]) ap),some (.builtin "object.__new__")])::(mb1,dictO (esK3 w fI fL fG fE fLe fGe sl st a0 a1 a2 a3 a4 a5 a6 a7 a8 a9 a10 a11 a12 ot5 ob5) 2)::(p,listO #[Value.str (S [111,98,106]) a15] n')::(b2+3,nsKI w fI fL fG fE fLe fGe sl st a0 a1 ap aq a2 a3 a4 a5 a6 a7 a8 a9 a10 a11 a12)::(bt,tupO #[Value.type "object"])::(f,frameO #[] 0)::(c,cellO (some (Value.ref 155)))::l) (r:=kR sl st fI fL fG fE fLe fGe a15 a16 oI oL oG oE oLe oGe ++ r) (ch:=ch) (by kernel_rfl) rfl ?_
 refine HT.bindV0 N [] (a:=false) (by kernel_rfl) ?_
 refine HT.bind ?_
 intro ob7 ot7
 refine HTa.val N [3] [0,1,2,3,4,5,6,7] 8 [] (a:=()) (l:=(ob5,{ cls:=Value.type "member_descriptor",data:=Data.fields #[Value.str (S [111,98,106]) ot5,Value.ref mb10,Value.builtin "proto.slot",Value.builtin "proto.slot#set",Value.int 0 0] })::(mb10,clsX mb1 [.ref mb10,.type "object"] false [(S [111,98,106])] #[some (.ref bt),none,some (.str (S [75]) tk0),some (.str (S [99,109,112,95,116,111,95,107,101,121,46,60,108,111,99,97,108,115,62,46,75]) ap),some (.builtin "object.__new__"),some (.bool false)])::(mb1,dictO (esK3 w fI fL fG fE fLe fGe sl st a0 a1 a2 a3 a4 a5 a6 a7 a8 a9 a10 a11 a12 ot5 ob5) 2)::(p,listO #[Value.str (S [111,98,106]) a15] n')::(b2+3,nsKI w fI fL fG fE fLe fGe sl st a0 a1 ap aq a2 a3 a4 a5 a6 a7 a8 a9 a10 a11 a12)::(bt,tupO #[Value.type "object"])::(f,frameO #[] 0)::(c,cellO (some (Value.ref 155)))::l) (r:=kR sl st fI fL fG fE fLe fGe a15 a16 oI oL oG oE oLe oGe ++ r) (ch:=ch) (by kernel_rfl) rfl ?_
 refine HT.ite_neg (of_decide_eq_false (by kernel_rfl)) ?_
 refine HT.ite_neg (of_decide_eq_false (by kernel_rfl)) ?_
 refine HT.bind ?_
 intro ob10 ot10
 refine HTa.val N [5] [0,1,2,3,4,5,6,7] 8 [] (a:=none) (l:=(ob5,{ cls:=Value.type "member_descriptor",data:=Data.fields #[Value.str (S [111,98,106]) ot5,Value.ref mb10,Value.builtin "proto.slot",Value.builtin "proto.slot#set",Value.int 0 0] })::(mb10,clsX mb1 [.ref mb10,.type "object"] false [S [111,98,106]] #[some (.ref bt),none,some (.str (S [75]) tk0),some (.str (S [99,109,112,95,116,111,95,107,101,121,46,60,108,111,99,97,108,115,62,46,75]) ap),some (.builtin "object.__new__"),some (.bool false)])::(mb1,dictO (esK3 w fI fL fG fE fLe fGe sl st a0 a1 a2 a3 a4 a5 a6 a7 a8 a9 a10 a11 a12 ot5 ob5) 2)::(p,listO #[Value.str (S [111,98,106]) a15] n')::(b2+3,nsKI w fI fL fG fE fLe fGe sl st a0 a1 ap aq a2 a3 a4 a5 a6 a7 a8 a9 a10 a11 a12)::(bt,tupO #[Value.type "object"])::(f,frameO #[] 0)::(c,cellO (some (Value.ref 155)))::l) (r:=kR sl st fI fL fG fE fLe fGe a15 a16 oI oL oG oE oLe oGe ++ r) (ch:=ch) (by kernel_rfl) rfl ?_
 refine HT.ite_pos (of_decide_eq_true (by kernel_rfl)) ?_
 refine HT.bind ?_
 intro ob12 ot12
 refine HTa.val N [5,5] [0,1,2,3,4,5,6,7] 8 [] (a:=()) (l:=(ob5,{ cls:=Value.type "member_descriptor",data:=Data.fields #[Value.str (S [111,98,106]) ot5,Value.ref mb10,Value.builtin "proto.slot",Value.builtin "proto.slot#set",Value.int 0 0] })::(mb10,clsX mb1 [.ref mb10,.type "object"] false [S [111,98,106]] #[some (.ref bt),none,some (.str (S [75]) tk0),some (.str (S [99,109,112,95,116,111,95,107,101,121,46,60,108,111,99,97,108,115,62,46,75]) ap),some (.builtin "object.__new__"),some (.bool false)])::(mb1,dictO (esK4 w fI fL fG fE fLe fGe sl st a0 a1 a2 a3 a4 a5 a6 a7 a8 a9 a10 a11 a12 ot5 ob5 ot12) 3)::(p,listO #[Value.str (S [111,98,106]) a15] n')::(b2+3,nsKI w fI fL fG fE fLe fGe sl st a0 a1 ap aq a2 a3 a4 a5 a6 a7 a8 a9 a10 a11 a12)::(bt,tupO #[Value.type "object"])::(f,frameO #[] 0)::(c,cellO (some (Value.ref 155)))::l) (r:=kR sl st fI fL fG fE fLe fGe a15 a16 oI oL oG oE oLe oGe ++ r) (ch:=ch) (by kernel_rfl) rfl ?_
 refine HT.bindV0 N [5] (a:=(some (.ref fE))) (by kernel_rfl) ?_
 refine HT.ite_pos (of_decide_eq_true (by kernel_rfl)) ?_
 refine HT.bindV0 N [5] (a:=(some (.none))) (by kernel_rfl) ?_
 refine HT.ite_neg (of_decide_eq_false (by kernel_rfl)) ?_
 refine HT.bindV0 N [] (a:=()) (by kernel_rfl) ?_
 refine HT.bind (HT.tryC ?_)
 refine HT.holding ?_
 refine HT.bindV0 N [5] (a:=(esK4 w fI fL fG fE fLe fGe sl st a0 a1 a2 a3 a4 a5 a6 a7 a8 a9 a10 a11 a12 ot5 ob5 ot12)) (by kernel_rfl) ?_
 refine HT.bindV0 N [] (a:=false) (by kernel_rfl) ?_
 refine HT.ite_neg (of_decide_eq_false (by kernel_rfl)) ?_
 refine HT.bindV0 N [5] (a:=(esK4 w fI fL fG fE fLe fGe sl st a0 a1 a2 a3 a4 a5 a6 a7 a8 a9 a10 a11 a12 ot5 ob5 ot12)) (by kernel_rfl) ?_
 refine HT.bindV0 N [2,6,8,10,12,14,16,4,1] (a:=()) (by kernel_rfl) ?_
 refine HT.choose (il:=[6,7]) (k:=8) (ir:=[1,0,2,5]) rfl ?_
 show HT (C0 w B) h₀ none 98 ⟨ch,(f,frameO #[] 0)::(c,cellO (some (.ref 155)))::l,(mb10,clsKO bt mb1 mb10 tk0 ap)::(ob5,mdO mb10 ot5)::(mb1,nsKO w fI fL fG fE fLe fGe sl st ob5 a0 a1 a2 a3 a4 a5 a6 a7 a8 a9 a10 a11 a12 (ot5+1) ot12 3)::(bt,tupO #[.type "object"])::(kR sl st fI fL fG fE fLe fGe a15 a16 oI oL oG oE oLe oGe ++ r)⟩ _ _ _
 refine HT.bind ?_
 refine HT.cut0 N [] (c:=.call (.type "super") ⟨[.ref mb10,.ref mb10],[]⟩) (by kernel_rfl) fun b20 tk20=>?_
 refine HC.less (super_call N (.head _) fun sp=>?_) (by decide)
 refine HT.val0 N [] (a:=.ref sp) (by kernel_rfl) ?_
 refine HT.bind (HT.holding (HT.less (super_get N fun mm=>?_) (by decide)))
 refine HT.bind (HT.less (init_sub N ?_) (by decide))
 refine HT.pure' ?_
 refine HT.pure' ?_
 refine HT.val0 N [2,2,1,2] (a:=.done (.ret (.ref mb10))) (by kernel_rfl) ?_
 refine G mb10 _ ?_ ?_ ?_
 ·exact fun q hq=>.tail _ (.tail _ (.tail _ (.tail _ (List.mem_append.mpr (.inr hq)))))
 ·exact fun k2 k3 k4 k5 k6 k7=>⟨⟨bt,mb1,tk0,ap,ob5,ot5,fI,fL,fG,fE,fLe,fGe,sl,st,a0,a1,a2,a3,a4,a5,a6,a7,a8,a9,a10,a11,a12,ot5+1,ot12,3⟩,.head _,.tail _ (.tail _ (.head _)),.tail _ (.head _),k2,k3,k4,k5,k6,k7⟩
 ·exact fun q hq=>.tail _ (.tail _ (.tail _ (.tail _ (List.mem_append.mpr (.inl hq)))))
end
section
variable {w:World} {B:Hab} {h₀:Heap} (N:NatOk (C0 w B) h₀) {f c b2 bt tk0:Nat} {l r:Memo} {ch:Ch}
include N
theorem cls_new {b7 tk7 b4 tk4:Nat} {R:Result→Sx→Prop} (G:∀ K r',Sub r r'→Sub (kMem (C0 w B) b7 tk7 c b4 tk4) r'→KAt (C0 w B) w r' c K→R (.ok (.ret (.ref K))) ⟨ch,(f,frameO #[] 0)::(c,cellO (some (.ref 155)))::l,r'⟩) :
  HC (C0 w B) h₀ none 100 ⟨ch,(b2+3,nsK w b7 tk7)::(bt,tupO #[.type "object"])::(f,frameO #[] 0)::(c,cellO (some (.ref 155)))::l,kMem (C0 w B) b7 tk7 c b4 tk4 ++ r⟩ (.call (.type "type") ⟨[.str (S [75]) tk0,.ref bt,.ref (b2+3)],[]⟩) R:=by
 refine el_AAAAA (kMem_funs (C0 w B) b7 tk7 c b4 tk4) fun k2 k3 k4 k5 k6 k7=>?_
 have at_:∀ (n:Nat) (p:Addr×Obj),getAt (kMem (C0 w B) b7 tk7 c b4 tk4) n=some p→p∈kMem (C0 w B) b7 tk7 c b4 tk4 ++ r:=fun n p h=>List.mem_append.mpr (.inl (getAt_mem h))
 refine HC.reads (r:=kR b7 (b7+48) (b7+7) (b7+15) (b7+23) (b7+31) (b7+39) (b7+47) _ _ _ _ _ _ _ _ ++ (kMem (C0 w B) b7 tk7 c b4 tk4 ++ r)) (Sub.cons (at_ 48 _ rfl) (Sub.cons (at_ 0 _ rfl) (Sub.cons (at_ 41 _ rfl) (Sub.cons (at_ 33 _ rfl) (Sub.cons (at_ 25 _ rfl) (Sub.cons (at_ 17 _ rfl) (Sub.cons (at_ 9 _ rfl) (Sub.cons (at_ 1 _ rfl) (Sub.refl _))))))))) ?_
 refine cls_newG N fun K r' hr hk vz0=>?_
 have hs:Sub (kMem (C0 w B) b7 tk7 c b4 tk4) r':=fun q hq=>hr _ (List.mem_append.mpr (.inl hq))
 exact G K r' (fun q hq=>hr _ (List.mem_append.mpr (.inr hq))) hs (hk (k2.mono hs) (k3.mono hs) (k4.mono hs) (k5.mono hs) (k6.mono hs) (k7.mono hs))
end
section
variable {w:World} {B:Hab} {h₀:Heap} (N:NatOk (C0 w B) h₀) {f c:Nat} {l r:Memo} {cb cs:Nat}
include N
set_option maxHeartbeats 0 in
theorem cls_s0 {Q:Flow→Sx→Prop} (G:∀ K t b7 tk7 b4 tk4 r',Sub r r'→Sub (kMem (C0 w B) b7 tk7 c b4 tk4) r'→KAt (C0 w B) w r' c K→Q .next ⟨chK cb cs (b4+2),(f,frameO #[ent w (S [75]) t (.ref K)] 1)::(c,cellO (some (.ref 155)))::l,r'⟩) :
  HT (C0 w B) h₀ none 100 ⟨chS cb cs,(f,frameO #[] 0)::(c,cellO (some (.ref 155)))::l,r⟩ (execsZ [ckB (C0 w B) 0] (envCk (C0 w B) f c)) Q (fun vz0 vz1=>False):=by
 refine (ckP N).2 _ _ _ _ _ _ fun bt tk0 b2=>?_
 refine HT.bind ?_
 intro b4 tk4
 refine HTa.val N [0,0,0,0,0] [0,1,2,3,4,5,6] 7 [] (a:=.ref (b4+2)) (l:=((b4+2),{ cls:=.type "code",data:=.fields #[.str (S [75]) tk4,.str (S [99,109,112,95,116,111,95,107,101,121,46,60,108,111,99,97,108,115,62,46,75]) (tk4+1),.str (S [47,99,108,97,105,109,47,99,117,116,46,112,121]) (tk4+2),.int 67 0,.int 0 0,.int 0 0,.int 0 0,.int 0 0,.ref b4,.bool true,.int 276 0,.ref (b4+1),.none,.none,.none,.none,.int (Int.ofNat (tk4+4)) 0,.int 67 0,.str (S [47,99,108,97,105,109,47,99,117,116,46,112,121]) (tk4+5)] })::((b4+1),{ cls:=.none,data:=.fields #[] })::(b4,tupO #[.str (S [109,121,99,109,112]) (tk4+3)])::(b2+3,dictO #[] 0)::(bt,tupO #[Value.type "object"])::(f,frameO #[] 0)::(c,cellO (some (Value.ref 155)))::l) (r:=r) (ch:=[(82,#[.int 57 0,.int 50 0,.ref cb]),(65,#[.int 26 0,.int 49 0,.ref cs]),(89,#[.int 67 0,.int 4 0,.ref (b4+2)])]) (by kernel_rfl) rfl ?_
 refine HT.bindV0 N [0,0] (a:=0) (by kernel_rfl) ?_
 refine HT.bind ?_
 intro b5 tk5
 refine HTa.val N [0] [0,1,2,3,4,5,6,7] 8 [] (a:=b5) (l:=(b5,{ cls:=.type "frame",data:=.plain,slots:=#[some (.ref (b4+2)),some (.ref 3),some (.ref (b2+3)),none,some (.str (S [108,97,119,95,111,121,48,50,48,52,95,48,49]) 668),none,some (.ref 0)] })::(b4+2,{ cls:=Value.type "code",data:=Data.fields #[Value.str (S [75]) tk4,Value.str (S [99,109,112,95,116,111,95,107,101,121,46,60,108,111,99,97,108,115,62,46,75]) (tk4+1),Value.str (S [47,99,108,97,105,109,47,99,117,116,46,112,121]) (tk4+2),Value.int 67 0,Value.int 0 0,Value.int 0 0,Value.int 0 0,Value.int 0 0,Value.ref b4,Value.bool true,Value.int 276 0,Value.ref (b4+1),Value.none,Value.none,Value.none,Value.none,Value.int (Int.ofNat (tk4+4)) 0,Value.int 67 0,Value.str (S [47,99,108,97,105,109,47,99,117,116,46,112,121]) (tk4+5)] })::(b4+1,{ cls:=Value.none,data:=Data.fields #[] })::(b4,tupO #[Value.str (S [109,121,99,109,112]) (tk4+3)])::(b2+3,dictO #[] 0)::(bt,tupO #[Value.type "object"])::(f,frameO #[] 0)::(c,cellO (some (Value.ref 155)))::l) (r:=r) (ch:=[(82,#[Value.int 57 0,Value.int 50 0,Value.ref cb]),(65,#[Value.int 26 0,Value.int 49 0,Value.ref cs]),(89,#[Value.int 67 0,Value.int 4 0,Value.ref (b4+2)])]) (by kernel_rfl) rfl ?_
 refine HT.bindV0 N [] (a:=[({ cps:={ toList:=[109,121,99,109,112] } },c)]) (by kernel_rfl) ?_
 refine HT.holding (HT.bind (HT.enterF N ?_))
 intro b7 tk7
 refine HTa.cut N [9,9,0,9,9,9,9,9,9,9,9,9,1,9,9,9,11,11,11,5,7,19,19,19,0,0,0,25,25,25,21,23,35,35,35,0,0,0,41,41,41,37,39,51,51,51,0,0,0,57,57,57,53,55,67,67,67,0,0,0,73,73,73,69,71,83,83,83,0,0,0,89,89,89,85,87,99,99,99,0,0,0,105,105,105,105,105,105,107,107,107] [53,54,55,56] 57 [0,1,2,3,4,5,6,7,8,9,10,11,12,13,14,15,16,17,18,19,20,21,22,23,24,25,26,27,28,29,30,31,32,33,34,35,36,37,38,39,40,41,42,43,44,45,46,47,48,50,51,52] (c:=.call (.type "type") ⟨[.str (S [75]) tk0,.ref bt,.ref (b2+3)],[]⟩) (l:=(b2+3,nsK w b7 tk7)::(bt,tupO #[.type "object"])::(f,frameO #[] 0)::(c,cellO (some (.ref 155)))::l) (r:=kMem (cfgOf N) b7 tk7 c b4 tk4 ++ r) (ch:=chK cb cs (b4+2)) (by kernel_rfl) rfl (by intro h;cases h) ?_
 refine cls_new N fun K r' hr hk hK=>?_
 refine HT.val0 N [] (a:=.ref K) (by kernel_rfl) ?_
 refine HT.bindV0 N [] (a:=.ref K) (by kernel_rfl) ?_
 refine HT.bindV0 N [] (a:=()) (by kernel_rfl) ?_
 refine HT.bind ?_
 intro tb2 tt2
 refine HTa.val N [1,1] [0,1] 2 [] (a:=()) (l:=(f,frameO #[ent w (S [75]) tt2 (.ref K)] 1)::(c,cellO (some (Value.ref 155)))::l) (r:=r') (ch:=[(82,#[Value.int 57 0,Value.int 50 0,Value.ref cb]),(65,#[Value.int 26 0,Value.int 49 0,Value.ref cs]),(89,#[Value.int 67 0,Value.int 4 0,Value.ref (b4+2)])]) (by kernel_rfl) rfl ?_
 refine HT.pure' ?_
 exact G K _ b7 tk7 b4 tk4 r' hr hk hK
end
inductive KCodes (C:Cfg) (r:Memo) (ck:Addr):Prop
 | mk:∀ b7 tk7 c b4 tk4,(ck=b4+2)→(Sub (kMem C b7 tk7 c b4 tk4) r)→KCodes C r ck
theorem KCodes.mono {C:Cfg} {r r':Memo} (h:Sub r r') {ck:Addr}:KCodes C r ck→KCodes C r' ck:=fun ⟨a,b,c,d,e,h1,h2⟩=>⟨a,b,c,d,e,h1,h2.trans h⟩
section
variable {w:World} {B:Hab} {h₀:Heap} (N:NatOk (C0 w B) h₀) {l r:Memo} {cb cs:Nat}
theorem stmtsCk:stmts (C0 w B) 94=[ckB (C0 w B) 0,ckB (C0 w B) 1]:=by kernel_rfl
include N
theorem ck_call1 {R:Result→Sx→Prop} (G:∀ K c ck r',Sub r r'→KCodes (C0 w B) r' ck→(c,cellO (some (.ref 155)))∈r'→KAt (C0 w B) w r' c K→R (.ok (.ret (.ref K))) ⟨chK cb cs ck,l,r'⟩) :
  HC (C0 w B) h₀ none 102 ⟨chS cb cs,l,r⟩ (.call (.ref 94) ⟨[.ref 155],[]⟩) R:=by
 refine HC.enter N (lv:=101) (o:=topObj (C0 w B) 94) [0,1,1] [1,0] 2 [] 0 (by kernel_rfl) (by kernel_rfl) fun b tk=>?_
 refine ⟨envCk (C0 w B) b (b+1),(b,frameO #[] 0)::(b+1,cellO (some (.ref 155)))::l,r,chS cb cs,by kernel_rfl,rfl,?_⟩
 have e:bodyCode (fdAt (some (topObj (C0 w B) 94))) (envCk (C0 w B) b (b+1)) = .func (stmts (C0 w B) 94) (envCk (C0 w B) b (b+1)):=by kernel_rfl
 rw [e]
 refine HC.func (lv:=100) ?_
 rw [stmtsCk]
 refine HT.execs_cons ?_
 refine cls_s0 N fun K t b7 tk7 b4 tk4 r' hr hk hK=>?_
 intro b2 tk2
 refine HTa.val N [1] [] 2 [1] (a:=.ret (.ref K)) (l:=l) (r:=(b+1,cellO (some (Value.ref 155)))::r') (ch:=[(82,#[.int 57 0,.int 50 0,.ref cb]),(65,#[.int 26 0,.int 49 0,.ref cs]),(89,#[.int 67 0,.int 4 0,.ref (b4+2)])]) (by kernel_rfl) rfl ?_
 exact G K (b+1) (b4+2) _ (hr.trans Sub.tail) ⟨b7,tk7,_,b4,tk4,rfl,hk.trans Sub.tail⟩ (.head _) (hK.mono Sub.tail)
end
noncomputable abbrev q3w:Str:=S [116,104,114,101,101,95,119,97,121,95,99,109,112,46,60,108,111,99,97,108,115,62,46]
noncomputable abbrev env3 (C:Cfg) (f:Addr):PySem.Env:=envA C 124 [] q3w f
noncomputable abbrev my:Str:=S [121]
noncomputable def b2i (b:Bool):Int:=if b then 1 else 0
noncomputable def cmpS (X Y:List Nat):Int:=b2i (decide (Y<X)) - b2i (decide (X<Y))
section
variable {C:Cfg} {h₀:Heap} {hd:Option Value} {lv:Nat} {R:Result→Sx→Prop} {x:Sx}
theorem HC.gtS {X Y:List Nat} {t u:Tok} (G:R (.ok (.ret (.bool (decide (Y<X))))) x):HC C h₀ hd lv x (.call (.builtin "str.__gt__") ⟨[.str (S X) t,.str (S Y) u],[]⟩) R :=
 HC.gives F.slot_str_gt F.entry_str_gt (F.args_str_gt_2 _ _) (gives_str_gt (S X) (S Y) t u) (fun s=>typeIs_str s _ t) G
theorem HC.ltS {X Y:List Nat} {t u:Tok} (G:R (.ok (.ret (.bool (decide (X<Y))))) x):HC C h₀ hd lv x (.call (.builtin "str.__lt__") ⟨[.str (S X) t,.str (S Y) u],[]⟩) R :=
 HC.gives F.slot_str_lt F.entry_str_lt (F.args_str_lt_2 _ _) (gives_str_lt (S X) (S Y) t u) (fun s=>typeIs_str s _ t) G
end
section
variable {w:World} {B:Hab} {h₀:Heap} (N:NatOk (C0 w B) h₀) {l r:Memo} {ch:Ch}
include N
theorem twc_body {f t1 t2 t3 t4:Nat} {X Y:List Nat} {Q:Flow→Sx→Prop} (G:∀ t,Q (.ret (.int (cmpS X Y) t)) ⟨ch,l,r⟩) :
  HT (C0 w B) h₀ none 40 ⟨ch,(f,frameO #[ent w mx t1 (.str (S X) t2),ent w my t3 (.str (S Y) t4)] 2)::l,r⟩ (execsZ (stmts (C0 w B) 124) (env3 (C0 w B) f)) Q (fun vz0 vz1=>False):=by
 unfold cmpS at G
 generalize hg:decide (Y<X)=g at G
 generalize hl:decide (X<Y)=lt at G
 (
  refine HT.cut0 N [1,1] (c:=.call (.builtin "str.__gt__") ⟨[.str (S (X)) t2,.str (S (Y)) t4],[]⟩) (by exact Hab.two B (by kernel_rfl) (by kernel_rfl)) fun b tk=>?_
  refine HC.gtS ?_
  rw [hg]
  intro b5 tk5
  cases g
  ·refine HTa.cut N [1,1] [0] 1 [] (c:=.call (.builtin "str.__lt__") ⟨[.str (S (X)) t2,.str (S (Y)) t4],[]⟩) (l:=(f,frameO #[ent w mx t1 (Value.str (S X) t2),ent w my t3 (Value.str (S Y) t4)] 2)::l) (r:=r) (ch:=ch) (by exact Hab.two B (by kernel_rfl) (by kernel_rfl)) rfl (by intro h;cases h) ?_
   refine HC.ltS ?_
   rw [hl]
   intro b6 tk6
   cases lt
   ·refine HTa.val N [1] [] 1 [] (a:=.ret (.int 0 tk6)) (l:=l) (r:=r) (ch:=ch) (by exact Hab.two B (by kernel_rfl) (by kernel_rfl)) rfl ?_
    exact G _
   ·refine HTa.val N [1] [] 1 [] (a:=.ret (.int (-1) tk6)) (l:=l) (r:=r) (ch:=ch) (by exact Hab.two B (by kernel_rfl) (by kernel_rfl)) rfl ?_
    exact G _
  ·refine HTa.cut N [1,1] [0] 1 [] (c:=.call (.builtin "str.__lt__") ⟨[.str (S (X)) t2,.str (S (Y)) t4],[]⟩) (l:=(f,frameO #[ent w mx t1 (Value.str (S X) t2),ent w my t3 (Value.str (S Y) t4)] 2)::l) (r:=r) (ch:=ch) (by exact Hab.two B (by kernel_rfl) (by kernel_rfl)) rfl (by intro h;cases h) ?_
   refine HC.ltS ?_
   rw [hl]
   intro b6 tk6
   cases lt
   ·refine HTa.val N [1] [] 1 [] (a:=.ret (.int 1 tk6)) (l:=l) (r:=r) (ch:=ch) (by exact Hab.two B (by kernel_rfl) (by kernel_rfl)) rfl ?_
    exact G _
   ·refine HTa.val N [1] [] 1 [] (a:=.ret (.int 0 tk6)) (l:=l) (r:=r) (ch:=ch) (by exact Hab.two B (by kernel_rfl) (by kernel_rfl)) rfl ?_
    exact G _)
theorem twc_call {t1 t2:Tok} {X Y:List Nat} {R:Result→Sx→Prop} (G:∀ t,R (.ok (.ret (.int (cmpS X Y) t))) ⟨ch,l,r⟩):HC (C0 w B) h₀ none 42 ⟨ch,l,r⟩ (.call (.ref 124) ⟨[.str (S X) t1,.str (S Y) t2],[]⟩) R:=by
 refine HC.enter N (lv:=41) (o:=topObj (C0 w B) 124) [0,1,1,1,1] [0] 1 [] 0 (by kernel_rfl) (by kernel_rfl) fun b tk=>?_
 refine ⟨env3 (C0 w B) b,(b,frameO #[ent w mx tk (.str (S X) t1),ent w my (tk+1) (.str (S Y) t2)] 2)::l,r,ch,by kernel_rfl,rfl,?_⟩
 have e:bodyCode (fdAt (some (topObj (C0 w B) 124))) (env3 (C0 w B) b) = .func (stmts (C0 w B) 124) (env3 (C0 w B) b):=by kernel_rfl
 rw [e]
 exact HC.func (lv:=40) (twc_body N G)
end
noncomputable abbrev qLc:Str:=S [95,108,97,119,95,99,111,109,112,97,114,101,46,60,108,111,99,97,108,115,62,46]
noncomputable abbrev envLc (C:Cfg) (f:Addr):PySem.Env:=envA C 155 [] qLc f
noncomputable abbrev mOther:Str:=S [111,116,104,101,114]
noncomputable def cmpP (a b:List Nat×List Nat):Int:=if cmpS b.2 a.2=0 then cmpS a.1 b.1 else cmpS b.2 a.2
section
variable {w:World} {B:Hab} {h₀:Heap} (N:NatOk (C0 w B) h₀) {l r:Memo} {ch:Ch}
include N
theorem lc_body {f t1 t2 p q u1 u2 v1 v2:Nat} {X1 X2 Y1 Y2:List Nat} {Q:Flow→Sx→Prop} (G:∀ t,Q (.ret (.int (cmpP (X1,X2) (Y1,Y2)) t)) ⟨ch,l,(p,tupO #[.str (S X1) u1,.str (S X2) u2])::(q,tupO #[.str (S Y1) v1,.str (S Y2) v2])::r⟩) :
  HT (C0 w B) h₀ none 50 ⟨ch,(f,frameO #[ent w nOne t1 (.ref p),ent w mOther t2 (.ref q)] 2)::l,(p,tupO #[.str (S X1) u1,.str (S X2) u2])::(q,tupO #[.str (S Y1) v1,.str (S Y2) v2])::r⟩ (execsZ (stmts (C0 w B) 155) (envLc (C0 w B) f)) Q (fun vz0 vz1=>False):=by
 unfold cmpP at G
 dsimp only at G
 generalize hc:cmpS Y2 X2=c at G
 generalize hd:cmpS X1 Y1=d at G
 have hb:c=0 ∨ c=1 ∨ c = -1:=by
  rw [←hc];unfold cmpS b2i
  split <;> split <;> simp
 (
  refine HT.cut0 N [0,1,4,4,4,1,4,4,1,2,2,2,1,2,2,0] (c:=.call (.ref 124) ⟨[.str (S (Y2)) v2,.str (S (X2)) u2],[]⟩) (by kernel_rfl) fun b tk=>?_
  refine HC.less (twc_call N fun t=>?_) (by decide)
  rw [hc]
  intro b5 tk5
  rcases hb with rfl | rfl | rfl
  ·refine HTa.cut N [1,0,1,2,2,2,1,2,2,1,4,4,4,1,4,4,0] [0] 1 [] (c:=.call (.ref 124) ⟨[.str (S (X1)) u1,.str (S (Y1)) v1],[]⟩) (l:=(f,frameO #[ent w nOne t1 (Value.ref p),ent w mOther t2 (Value.ref q)] 2)::l) (r:=(p,tupO #[Value.str (S X1) u1,Value.str (S X2) u2])::(q,tupO #[Value.str (S Y1) v1,Value.str (S Y2) v2])::r) (ch:=ch) (by kernel_rfl) rfl (by intro h;cases h) ?_
   refine HC.less (twc_call N fun t=>?_) (by decide)
   rw [hd]
   intro b6 tk6
   refine HTa.val N [] [] 1 [] (a:=.ret (.int (d) t)) (l:=l) (r:=(p,tupO #[Value.str (S X1) u1,Value.str (S X2) u2])::(q,tupO #[Value.str (S Y1) v1,Value.str (S Y2) v2])::r) (ch:=ch) (by kernel_rfl) rfl ?_
   exact G _
  ·refine HTa.val N [1] [] 1 [] (a:=.ret (.int 1 t)) (l:=l) (r:=(p,tupO #[Value.str (S X1) u1,Value.str (S X2) u2])::(q,tupO #[Value.str (S Y1) v1,Value.str (S Y2) v2])::r) (ch:=ch) (by kernel_rfl) rfl ?_
   exact G _
  ·refine HTa.val N [1] [] 1 [] (a:=.ret (.int (-1) t)) (l:=l) (r:=(p,tupO #[Value.str (S X1) u1,Value.str (S X2) u2])::(q,tupO #[Value.str (S Y1) v1,Value.str (S Y2) v2])::r) (ch:=ch) (by kernel_rfl) rfl ?_
   exact G _)
theorem lc_call {p q u1 u2 v1 v2:Nat} {X1 X2 Y1 Y2:List Nat} {R:Result→Sx→Prop} (hp:(p,tupO #[.str (S X1) u1,.str (S X2) u2])∈r) (hq:(q,tupO #[.str (S Y1) v1,.str (S Y2) v2])∈r) (G:∀ t,R (.ok (.ret (.int (cmpP (X1,X2) (Y1,Y2)) t))) ⟨ch,l,r⟩) :
  HC (C0 w B) h₀ none 52 ⟨ch,l,r⟩ (.call (.ref 155) ⟨[.ref p,.ref q],[]⟩) R:=by
 refine HC.less_r (HC.reads (r:=(p,tupO #[.str (S X1) u1,.str (S X2) u2])::(q,tupO #[.str (S Y1) v1,.str (S Y2) v2])::r) (Sub.cons hp (Sub.cons hq (Sub.refl _))) ?_)
 refine HC.enter N (lv:=51) (o:=topObj (C0 w B) 155) [0,1,1,1,1] [0] 1 [] 0 (by kernel_rfl) (by kernel_rfl) fun b tk=>?_
 refine ⟨envLc (C0 w B) b,(b,frameO #[ent w nOne tk (.ref p),ent w mOther (tk+1) (.ref q)] 2)::l,(p,tupO #[.str (S X1) u1,.str (S X2) u2])::(q,tupO #[.str (S Y1) v1,.str (S Y2) v2])::r,ch,by kernel_rfl,rfl,?_⟩
 have e:bodyCode (fdAt (some (topObj (C0 w B) 155))) (envLc (C0 w B) b) = .func (stmts (C0 w B) 155) (envLc (C0 w B) b):=by kernel_rfl
 rw [e]
 exact HC.func (lv:=50) (lc_body N fun t=>⟨r,Sub.tail.trans Sub.tail,G t⟩)
end
noncomputable abbrev instO (K d:Nat):Obj:={ cls:=.ref K,dict:=some d,data:=.plain }
noncomputable abbrev mdArgs (md o K:Nat):Value×Option Value×Option Value:=(.ref md,some (.ref o),some (.ref K))
noncomputable abbrev instP (K d p:Nat):Obj:={ cls:=.ref K,dict:=some d,data:=.plain,slots:=#[some (.ref p)] }
section
variable {C:Cfg} {h₀:Heap} {hd:Option Value} {lv:Nat} {x:Sx}
theorem HT.instSelf {a K:Addr} {oo o:Obj} {cd:ClassData} {rest:List Value} {Q:Bool→Sx→Prop} {E:Value→Sx→Prop} (ho:(a,oo)∈x.l ∨ (a,oo)∈x.r) (hc:oo.cls = .ref K) (hK:(K,o)∈x.l ∨ (K,o)∈x.r) (hd':o.data = .cls cd) (hm:cd.mro = .ref K::rest) (G:Q true x):HT C h₀ hd lv x (isInstance (.ref a) (.ref K)) Q E:=by
 unfold isInstance
 refine HT.bind (HT.lib fun A g d os b tk h K' D=>?_)
 show wpAny _ _ (do return (← loadPart a (some headPart)).cls) _ _ _
 refine wpAny_bind (wpAny_loadPart (s:=⟨h,g,d,tk,os⟩) (Sx.mem_get ho D) ?_)
 refine wpAny_pure ⟨x,⟨b,tk,h,rfl,D⟩,?_⟩
 rw [hc]
 exact HT.subSelf hK hd' hm G
end
section
variable {w:World} {B:Hab} {h₀:Heap} (N:NatOk (C0 w B) h₀) {l r:Memo} {ch:Ch} {K bt ns t0 t1 md tm o d p:Nat}
include N
theorem md_set {R:Result→Sx→Prop} (G:R (.ok (.ret .none)) ⟨ch,(o,instP K d p)::(d,dictO #[] 0)::l,(K,clsKO bt ns K t0 t1)::(md,mdO K tm)::r⟩) :
  HC (C0 w B) h₀ none 30 ⟨ch,(o,instO K d)::(d,dictO #[] 0)::l,(K,clsKO bt ns K t0 t1)::(md,mdO K tm)::r⟩ (.call (.builtin "member_descriptor.__set__") ⟨[.ref md,.ref o,.ref p],[]⟩) R:=by
 refine HC.tree (lv:=29) (w:=0) (by kernel_rfl) ?_
 refine HT.val0 N [4] (a:=PySem.Fin.again (.builtin "member_descriptor.__set__" ⟨[.ref md,.ref o,.ref p],[]⟩)) (by kernel_rfl) ?_
 refine ⟨by kernel_rfl,?_⟩
 refine HC.bodyB (lv:=29) (w:=0) (by kernel_rfl) (Bt:=Builtin.«member_descriptor.__set__») (entryFor_of_fast (by kernel_rfl)) ?_
 unfold Builtin.«member_descriptor.__set__» Builtin.Getset_descriptor.descrSet
 refine HT.ite_neg (of_decide_eq_false (by kernel_rfl)) ?_
 unfold Builtin.Getset_descriptor.descrStoreThrough Builtin.Getset_descriptor.descrCheckInstance
 refine HT.bind (HT.bind ?_)
 refine HT.val0 N [4,4] (a:=⟨(S [111,98,106]),.ref K⟩) (by kernel_rfl) ?_
 refine HT.bind (HT.instSelf (.inl (.head _)) rfl (.inr (.head _)) rfl rfl ?_)
 refine HT.ite_neg (of_decide_eq_false (by kernel_rfl)) ?_
 refine HT.pure' ?_
 refine HT.val0 N [4,4] (a:=PySem.Fin.again (.builtin "proto.slot#set" ⟨[.ref o,.ref p,.ref md],[]⟩)) (by kernel_rfl) ?_
 refine ⟨by kernel_rfl,?_⟩
 refine HC.tree (lv:=29) (w:=0) (by kernel_rfl) ?_
 intro b3 tk3
 refine HTa.val N [4,4,1,2,1] [0,1] 2 [] (a:=.done (.ret (.none))) (l:=(o,{ cls:=.ref K,dict:=some d,data:=.plain,slots:=#[some (.ref p)] })::(d,dictO #[] 0)::l) (r:=(K,clsKO bt ns K t0 t1)::(md,mdO K tm)::r) (ch:=ch) (by kernel_rfl) rfl ?_
 exact G
theorem md_get {R:Result→Sx→Prop} (G:R (.ok (.ret (.ref p))) ⟨ch,l,(K,clsKO bt ns K t0 t1)::(md,mdO K tm)::(o,instP K d p)::r⟩) :
  HC (C0 w B) h₀ none 30 ⟨ch,l,(K,clsKO bt ns K t0 t1)::(md,mdO K tm)::(o,instP K d p)::r⟩ (.call (.builtin "member_descriptor.__get__") ⟨[.ref md,.ref o,.ref K],[]⟩) R:=by
 refine HC.tree (lv:=29) (w:=0) (by kernel_rfl) ?_
 refine HT.val0 N [4] (a:=PySem.Fin.again (.builtin "member_descriptor.__get__" ⟨[.ref md,.ref o,.ref K],[]⟩)) (by kernel_rfl) ?_
 refine ⟨by kernel_rfl,?_⟩
 refine HC.bodyB (lv:=29) (w:=0) (by kernel_rfl) (Bt:=Builtin.«member_descriptor.__get__») (entryFor_of_fast (by kernel_rfl)) ?_
 unfold Builtin.«member_descriptor.__get__» Builtin.Getset_descriptor.descrGet
 refine HT.bindV0 N [] (a:=mdArgs md o K) (by kernel_rfl) ?_
 show HT _ _ _ _ _ (Builtin.Getset_descriptor.descrGetter (.ref md) (some (.ref o))) _ _
 unfold Builtin.Getset_descriptor.descrGetter Builtin.Getset_descriptor.descrCheckInstance
 refine HT.bind (HT.bind ?_)
 refine HT.val0 N [4,4] (a:=⟨(S [111,98,106]),.ref K⟩) (by kernel_rfl) ?_
 refine HT.bind (HT.instSelf (.inr (.tail _ (.tail _ (.head _)))) rfl (.inr (.head _)) rfl rfl ?_)
 refine HT.ite_neg (of_decide_eq_false (by kernel_rfl)) ?_
 refine HT.pure' ?_
 refine HT.val0 N [4,4] (a:=PySem.Fin.again (.builtin "proto.slot" ⟨[.ref o,.ref md],[]⟩)) (by kernel_rfl) ?_
 refine ⟨by kernel_rfl,?_⟩
 refine HC.tree (lv:=29) (w:=0) (by kernel_rfl) ?_
 refine HT.val0 N [4,4,6,2,6] (a:=.done (.ret (.ref p))) (by kernel_rfl) ?_
 exact G
end
noncomputable abbrev mSelf:Str:=S [115,101,108,102]
noncomputable abbrev envF (fd:FuncData) (fa:Addr) (cells:List (Str×Addr)) (loc:Addr):PySem.Env:={ scope:=fd.scope,locals:=loc,globals:=fd.globals,cells,qual:=fd.qualname ++ S [46,60,108,111,99,97,108,115,62,46],func:=some fa,code:=fd.code,frame:=some loc,builtins:=fd.builtins }
noncomputable abbrev fdKC (C:Cfg) (i:Nat) (clo:List (Str×Addr)) (code:Nat) (ct:Value):FuncData:=fdK C i (S (kQn i)) 3 clo .none .none .none (.str sLawM 668) none (.ref code) ct 0
noncomputable abbrev kBody (C:Cfg) (i:Nat):List Stmt:=(fnP (kStm C i)).body
section
variable {w:World} {B:Hab} {h₀:Heap} (N:NatOk (C0 w B) h₀) {l r:Memo} {ch:Ch} {K o d p:Nat} {k:KP} {u:KF}
include N
theorem obj_set {R:Result→Sx→Prop} {t:Tok} (G:R (.ok (.ret .none)) ⟨ch,(o,instP K d p)::(d,dictO #[] 0)::l,r⟩)
  (hK:(K,clsKP K k)∈r) (hn:(k.ns,nsKP w k)∈r) (hm:(k.md,mdO K k.tm)∈r) :
  HC (C0 w B) h₀ none 40 ⟨ch,(o,instO K d)::(d,dictO #[] 0)::l,r⟩ (.call (.builtin "object.__setattr__") ⟨[.ref o,.str sObj t,.ref p],[]⟩) R:=by
 refine HC.less_r (HC.reads (r:=(K,clsKP K k)::(k.md,mdO K k.tm)::(k.ns,nsKP w k)::r) (Sub.cons hK (Sub.cons hm (Sub.cons hn (Sub.refl _)))) ?_)
 refine HC.tree (lv:=39) (w:=0) (by kernel_rfl) ?_
 refine HT.val0 N [1,2] (a:=PySem.Fin.again (.builtin "object.__setattr__" ⟨[.ref o,.str (S [111,98,106]) t,.ref p],[]⟩)) (by kernel_rfl) ?_
 refine ⟨by kernel_rfl,?_⟩
 refine HC.tree (lv:=39) (w:=0) (by kernel_rfl) ?_
 refine HT.cut0 N [1,2,1,2,2,6,4,4] (c:=.call (.builtin "member_descriptor.__set__") ⟨[.ref k.md,.ref o,.ref p],[]⟩) (by kernel_rfl) fun b2 tk2=>?_
 refine HC.less (md_set N ?_) (by decide)
 refine HT.val0 N [] (a:=.done (.ret (.none))) (by kernel_rfl) ?_
 exact ⟨r,Sub.tail.trans (Sub.tail.trans Sub.tail),G⟩
theorem init_call {R:Result→Sx→Prop} (G:R (.ok (.ret .none)) ⟨ch,(o,instP K d p)::(d,dictO #[] 0)::l,r⟩)
  (hK:(K,clsKP K k)∈r) (hn:(k.ns,nsKP w k)∈r) (hm:(k.md,mdO K k.tm)∈r)
  (hf:(k.fI,fnKO (C0 w B) 2 [] u.code u.ct)∈r) (hc:(u.code,coKP 2 u)∈r) :
  HC (C0 w B) h₀ none 50 ⟨ch,(o,instO K d)::(d,dictO #[] 0)::l,r⟩ (.call (.ref k.fI) ⟨[.ref o,.ref p],[]⟩) R:=by
 refine HC.less_r (HC.reads (r:=(k.fI,fnKO (C0 w B) 2 [] u.code u.ct)::(u.code,coKP 2 u)::(K,clsKP K k)::(k.md,mdO K k.tm)::(k.ns,nsKP w k)::r) (Sub.cons hf (Sub.cons hc (Sub.cons hK (Sub.cons hm (Sub.cons hn (Sub.refl _)))))) ?_)
 refine HC.enter N (lv:=49) (o:=fnKO (C0 w B) 2 [] u.code u.ct) [4,1,1,1,1] [0,1,2] 3 [] 2 ?_ (by kernel_rfl) fun b tk=>?_
 ·show (match Nat.beq k.fI k.fI with | true=>some (fnKO (C0 w B) 2 [] u.code u.ct) | false=>none)=_
  rw [Nat.beq_refl]
 refine ⟨envF (fdKC (C0 w B) 2 [] u.code u.ct) k.fI [] b,(b,frameO #[ent w mSelf tk (.ref o),ent w sObj (tk+1) (.ref p)] 2)::(o,instO K d)::(d,dictO #[] 0)::l,(k.fI,fnKO (C0 w B) 2 [] u.code u.ct)::(u.code,coKP 2 u)::(K,clsKP K k)::(k.md,mdO K k.tm)::(k.ns,nsKP w k)::r,ch,by kernel_rfl,rfl,?_⟩
 have e:bodyCode (fdAt (some (fnKO (C0 w B) 2 [] u.code u.ct))) (envF (fdKC (C0 w B) 2 [] u.code u.ct) k.fI [] b) = .func (kBody (C0 w B) 2) (envF (fdKC (C0 w B) 2 [] u.code u.ct) k.fI [] b):=by kernel_rfl
 rw [e]
 refine HC.func (lv:=48) ?_
 intro b2 tk2
 refine HTa.cutN N [1,1,3,6,6,10] [1,2,0] 3 [] (c:=.call (.builtin "object.__setattr__") ⟨[.ref o,.str (S [111,98,106]) tk2,.ref p],[]⟩) (l:=(o,instO K d)::(d,dictO #[] 0)::(b,frameO #[ent w mSelf tk (Value.ref o),ent w sObj (tk+1) (Value.ref p)] 2)::l) (r:=(k.fI,fnKO (C0 w B) 2 [] u.code u.ct)::(u.code,coKP 2 u)::(K,clsKP K k)::(k.md,mdO K k.tm)::(k.ns,nsKP w k)::r) (ch:=ch) (by kernel_rfl) rfl ?_
 refine HC.less (obj_set N ?_ (.tail _ (.tail _ (.head _))) (.tail _ (.tail _ (.tail _ (.tail _ (.head _))))) (.tail _ (.tail _ (.tail _ (.head _))))) (by decide)
 intro b3 tk3
 refine HTa.val N [] [0,1] 3 [] (a:=.next) (l:=(o,instP K d p)::(d,dictO #[] 0)::l) (r:=(k.fI,fnKO (C0 w B) 2 [] u.code u.ct)::(u.code,coKP 2 u)::(K,clsKP K k)::(k.md,mdO K k.tm)::(k.ns,nsKP w k)::r) (ch:=ch) (by kernel_rfl) rfl ?_
 exact ⟨r,Sub.tail.trans (Sub.tail.trans (Sub.tail.trans (Sub.tail.trans Sub.tail))),G⟩
end
section
variable {w:World} {B:Hab} {h₀:Heap} (N:NatOk (C0 w B) h₀) {l r:Memo} {ch:Ch} {c K p:Nat}
include N
theorem inst_new {R:Result→Sx→Prop} (hA:KAt (C0 w B) w r c K) (G:∀ o d,R (.ok (.ret (.ref o))) ⟨ch,l,(o,instP K d p)::r⟩) :
  HC (C0 w B) h₀ none 60 ⟨ch,l,r⟩ (.call (.ref K) ⟨[.ref p],[]⟩) R:=by
 obtain ⟨k,hK,hn,hm,⟨u,hf,hc⟩,_⟩:=hA
 refine HC.less_r (HC.reads (r:=(K,clsKP K k)::(k.ns,nsKP w k)::r) (Sub.cons hK (Sub.cons hn (Sub.refl _))) ?_)
 refine HC.tree (lv:=59) (w:=0) (by kernel_rfl) ?_
 refine HT.val0 N [2,2] (a:=PySem.Fin.again (.call (.builtin "type.__call__") ⟨[.ref K,.ref p],[]⟩)) (by kernel_rfl) ?_
 refine ⟨by kernel_rfl,?_⟩
 refine HC.tree (lv:=59) (w:=0) (by kernel_rfl) ?_
 refine HT.val0 N [2] (a:=PySem.Fin.again (.builtin "type.__call__" ⟨[.ref K,.ref p],[]⟩)) (by kernel_rfl) ?_
 refine ⟨by kernel_rfl,?_⟩
 refine HC.bodyB (lv:=58) (w:=1) (by kernel_rfl) (Bt:=Builtin.«type.__call__») (entryFor_of_fast (by kernel_rfl)) ?_
 unfold Builtin.«type.__call__»
 refine HT.ite_neg (of_decide_eq_false (by kernel_rfl)) ?_
 refine HT.bindV0 N [2] (a:=[.ref K,.type "object"]) (by kernel_rfl) ?_
 refine HT.ite_neg (of_decide_eq_false (by kernel_rfl)) ?_
 refine HT.bindV0 N [2,2] (a:=(some ("object.__new__"))) (by kernel_rfl) ?_
 refine HT.bindV0 N [] (a:=.builtin "object.__new__") (by kernel_rfl) ?_
 refine HT.bind ?_
 intro ab5 at5
 refine HTa.val N [1,2,2,2,2,2,2,2,2,2,2,2,2,2,2,2,2,2,4,2,2] [0,1] 2 [] (a:=.ref (ab5+1)) (l:=((ab5+1),{ cls:=.ref K,dict:=some ab5,data:=.plain })::(ab5,dictO #[] 0)::l) (r:=(K,clsKP K k)::(k.ns,nsKP w k)::r) (ch:=ch) (by kernel_rfl) rfl ?_
 refine HT.bind (HT.instSelf (.inl (.head _)) rfl (.inr (.head _)) rfl rfl ?_)
 refine HT.ite_neg (of_decide_eq_false (by kernel_rfl)) ?_
 refine HT.bind (HT.holding ?_)
 refine HT.reads (r:=(K,clsKP K k)::(k.ns,nsKP w k)::(k.fI,fnKO (C0 w B) 2 [] u.code u.ct)::r) (Sub.cons (.head _) (Sub.cons (.tail _ (.head _)) (Sub.cons (.tail _ (.tail _ hf)) (Sub.tail.trans Sub.tail)))) ?_
 refine HT.cut0 N [1,2,2,4,6] (c:=.call (.ref k.fI) ⟨[.ref (ab5+1),.ref p],[]⟩) (by kernel_rfl) fun b5 tk5=>?_
 refine HC.less (init_call N ?_ (.head _) (.tail _ (.head _)) (.tail _ (.tail _ (.tail _ hm))) (.tail _ (.tail _ (.head _))) (.tail _ (.tail _ (.tail _ hc)))) (by decide)
 refine HT.val0 N [] (a:=some Value.none) (by kernel_rfl) ?_
 refine HT.ite_neg (of_decide_eq_false (by kernel_rfl)) ?_
 refine HT.choose (il:=[]) (k:=2) (ir:=[0]) rfl ?_
 exact HT.pure' ⟨(ab5+1,instP K ab5 p)::r,Sub.cons (.head _) (Sub.tail.trans (Sub.tail.trans (Sub.tail.trans Sub.tail))),G (ab5+1) ab5⟩
end
theorem cmpS_cases (X Y:List Nat):cmpS X Y=0 ∨ cmpS X Y=1 ∨ cmpS X Y = -1:=by
 unfold cmpS b2i
 split <;> split <;> simp
theorem cmpP_cases (a b:List Nat×List Nat):cmpP a b=0 ∨ cmpP a b=1 ∨ cmpP a b = -1:=by
 unfold cmpP
 split
 ·exact cmpS_cases _ _
 ·exact cmpS_cases _ _
noncomputable abbrev kRd (C:Cfg) (w:World) (i fn c K o d p o2 d2 q:Nat) (k:KP) (u:KF) (r:Memo):Memo :=
 (fn,fnKO C i [(nMycmp,c)] u.code u.ct)::(u.code,coKP i u)::(K,clsKP K k)::(k.md,mdO K k.tm)::(o,instP K d p)::(o2,instP K d2 q)::(k.ns,nsKP w k)::(c,cellO (some (.ref 155)))::r
theorem kRd_sub {C:Cfg} {w:World} {i fn c K o d p o2 d2 q:Nat} {k:KP} {u:KF} {r:Memo}:Sub r (kRd C w i fn c K o d p o2 d2 q k u r):=Sub.tail.trans (Sub.tail.trans (Sub.tail.trans (Sub.tail.trans (Sub.tail.trans (Sub.tail.trans (Sub.tail.trans Sub.tail))))))
inductive K5:Nat→Prop
 | k3:K5 3
 | k4:K5 4
 | k5:K5 5
 | k6:K5 6
 | k7:K5 7
@[elab_as_elim] theorem K5.all {P:Nat→Prop} {i:Nat} (h:K5 i) (a3:At P 3) (a4:At P 4) (a5:At P 5) (a6:At P 6) (a7:At P 7):P i:=by
 cases h <;> assumption
noncomputable def kOp (i:Nat) (z:Int):Bool:=match i with
 | 3=>decide (z<0)
 | 4=>decide (z > 0)
 | 5=>decide (z=0)
 | 6=>decide (z≤0)
 | _=>decide (z ≥ 0)
section
variable {w:World} {B:Hab} {h₀:Heap} (N:NatOk (C0 w B) h₀) {l r:Memo} {ch:Ch} {c K fn o d p o2 d2 q:Nat} {k:KP} {u:KF}
include N
theorem obj_get {R:Result→Sx→Prop} {t:Tok} (G:R (.ok (.ret (.ref p))) ⟨ch,l,r⟩)
  (hK:(K,clsKP K k)∈r) (hn:(k.ns,nsKP w k)∈r) (hm:(k.md,mdO K k.tm)∈r) (ho:(o,instP K d p)∈r) :
  HC (C0 w B) h₀ none 40 ⟨ch,l,r⟩ (.builtin "proto.getattr_hooked" ⟨[.ref o,.str sObj t],[]⟩) R:=by
 refine HC.less_r (HC.reads (r:=(K,clsKP K k)::(k.md,mdO K k.tm)::(o,instP K d p)::(k.ns,nsKP w k)::r) (Sub.cons hK (Sub.cons hm (Sub.cons ho (Sub.cons hn (Sub.refl _))))) ?_)
 refine HC.tree (lv:=39) (w:=0) (by kernel_rfl) ?_
 refine HT.cut0 N [6,2,2,8,4,4,2,2,8] (c:=.call (.builtin "member_descriptor.__get__") ⟨[.ref k.md,.ref o,.ref K],[]⟩) (by kernel_rfl) fun b3 tk3=>?_
 refine HC.less (HC.reads (r:=(K,clsKP K k)::(k.md,mdO K k.tm)::(o,instP K d p)::(k.ns,nsKP w k)::r) (Sub.refl _) (md_get N ?_)) (by decide)
 refine HT.val0 N [] (a:=.done (.ret (.ref p))) (by kernel_rfl) ?_
 exact ⟨r,Sub.tail.trans (Sub.tail.trans (Sub.tail.trans Sub.tail)),G⟩
theorem k_call {i:Nat} (hi:K5 i) {R:Result→Sx→Prop} {u1 u2 v1 v2:Nat} {X1 X2 Y1 Y2:List Nat} (G:R (.ok (.ret (.bool (kOp i (cmpP (X1,X2) (Y1,Y2)))))) ⟨ch,l,r⟩)
  (hK:(K,clsKP K k)∈r) (hn:(k.ns,nsKP w k)∈r) (hm:(k.md,mdO K k.tm)∈r) (hcm:(c,cellO (some (.ref 155)))∈r)
  (ho:(o,instP K d p)∈r) (ho2:(o2,instP K d2 q)∈r) (hp:(p,tupO #[.str (S X1) u1,.str (S X2) u2])∈r) (hq:(q,tupO #[.str (S Y1) v1,.str (S Y2) v2])∈r)
  (hf:(fn,fnKO (C0 w B) i [(nMycmp,c)] u.code u.ct)∈r) (hc:(u.code,coKP i u)∈r) :
  HC (C0 w B) h₀ none 60 ⟨ch,l,r⟩ (.call (.ref fn) ⟨[.ref o,.ref o2],[]⟩) R:=by
 refine HC.less_r (HC.reads (r:=kRd (C0 w B) w i fn c K o d p o2 d2 q k u r) (Sub.cons hf (Sub.cons hc (Sub.cons hK (Sub.cons hm (Sub.cons ho (Sub.cons ho2 (Sub.cons hn (Sub.cons hcm (Sub.refl _))))))))) ?_)
 have hp8:=kRd_sub (C:=C0 w B) (w:=w) (i:=i) (fn:=fn) (c:=c) (K:=K) (o:=o) (d:=d) (p:=p) (o2:=o2) (d2:=d2) (q:=q) (k:=k) (u:=u) _ hp
 have hq8:=kRd_sub (C:=C0 w B) (w:=w) (i:=i) (fn:=fn) (c:=c) (K:=K) (o:=o) (d:=d) (p:=p) (o2:=o2) (d2:=d2) (q:=q) (k:=k) (u:=u) _ hq
 refine HC.enter N (lv:=59) (o:=fnKO (C0 w B) i [(nMycmp,c)] u.code u.ct) [4,1,1,1,1] [0] 1 [] 2 ?_ (by exact K5.all hi (by kernel_rfl) (by kernel_rfl) (by kernel_rfl) (by kernel_rfl) (by kernel_rfl)) fun b tk=>?_
 ·show (match Nat.beq fn fn with | true=>some (fnKO (C0 w B) i [(nMycmp,c)] u.code u.ct) | false=>none)=_
  rw [Nat.beq_refl]
 refine ⟨envF (fdKC (C0 w B) i [(nMycmp,c)] u.code u.ct) fn [(nMycmp,c)] b,(b,frameO #[ent w mSelf tk (.ref o),ent w mOther (tk+1) (.ref o2)] 2)::l,kRd (C0 w B) w i fn c K o d p o2 d2 q k u r,ch,by exact K5.all hi (by kernel_rfl) (by kernel_rfl) (by kernel_rfl) (by kernel_rfl) (by kernel_rfl),rfl,?_⟩
 have e:bodyCode (fdAt (some (fnKO (C0 w B) i [(nMycmp,c)] u.code u.ct))) (envF (fdKC (C0 w B) i [(nMycmp,c)] u.code u.ct) fn [(nMycmp,c)] b) = .func (kBody (C0 w B) i) (envF (fdKC (C0 w B) i [(nMycmp,c)] u.code u.ct) fn [(nMycmp,c)] b):=by exact K5.all hi (by kernel_rfl) (by kernel_rfl) (by kernel_rfl) (by kernel_rfl) (by kernel_rfl)
 rw [e]
 refine HC.func (lv:=58) ?_
 intro b2 tk2
 refine HTa.cutN N [16,1,10,6,6,14] [0] 1 [] (c:=.builtin "proto.getattr_hooked" ⟨[.ref o,.str (S [111,98,106]) tk2],[]⟩) (l:=(b,frameO #[ent w mSelf tk (Value.ref o),ent w mOther (tk+1) (Value.ref o2)] 2)::l) (r:=kRd (C0 w B) w i fn c K o d p o2 d2 q k u r) (ch:=ch) (by exact K5.all hi (by kernel_rfl) (by kernel_rfl) (by kernel_rfl) (by kernel_rfl) (by kernel_rfl)) rfl ?_
 refine HC.less (obj_get N ?_ (.tail _ (.tail _ (.head _))) (.tail _ (.tail _ (.tail _ (.tail _ (.tail _ (.tail _ (.head _))))))) (.tail _ (.tail _ (.tail _ (.head _)))) (.tail _ (.tail _ (.tail _ (.tail _ (.head _)))))) (by decide)
 intro b3 tk3
 refine HTa.cutN N [1,12,6,6,14] [0] 1 [] (c:=.builtin "proto.getattr_hooked" ⟨[.ref o2,.str (S [111,98,106]) tk3],[]⟩) (l:=(b,frameO #[ent w mSelf tk (Value.ref o),ent w mOther (tk+1) (Value.ref o2)] 2)::l) (r:=kRd (C0 w B) w i fn c K o d p o2 d2 q k u r) (ch:=ch) (by exact K5.all hi (by kernel_rfl) (by kernel_rfl) (by kernel_rfl) (by kernel_rfl) (by kernel_rfl)) rfl ?_
 refine HC.less (obj_get N ?_ (.tail _ (.tail _ (.head _))) (.tail _ (.tail _ (.tail _ (.tail _ (.tail _ (.tail _ (.head _))))))) (.tail _ (.tail _ (.tail _ (.head _)))) (.tail _ (.tail _ (.tail _ (.tail _ (.tail _ (.head _))))))) (by decide)
 refine HT.cut0 N [0] (c:=.call (.ref 155) ⟨[.ref p,.ref q],[]⟩) (by exact K5.all hi (by kernel_rfl) (by kernel_rfl) (by kernel_rfl) (by kernel_rfl) (by kernel_rfl)) fun b4 tk4=>?_
 refine HC.less (lc_call N hp8 hq8 fun t=>?_) (by decide)
 rcases cmpP_cases (X1,X2) (Y1,Y2) with hx | hx | hx <;> rw [hx] at G ⊢
 ·intro b5 tk5
  exact HTa.val N [1] [] 1 [] (a:=.ret (.bool (kOp i 0))) (l:=l) (r:=kRd (C0 w B) w i fn c K o d p o2 d2 q k u r) (ch:=ch) (by exact K5.all hi (by exact Hab.two B (by kernel_rfl) (by kernel_rfl)) (by exact Hab.two B (by kernel_rfl) (by kernel_rfl)) (by exact Hab.two B (by kernel_rfl) (by kernel_rfl)) (by exact Hab.two B (by kernel_rfl) (by kernel_rfl)) (by exact Hab.two B (by kernel_rfl) (by kernel_rfl))) rfl ⟨r,kRd_sub,G⟩
 ·intro b5 tk5
  exact HTa.val N [1] [] 1 [] (a:=.ret (.bool (kOp i 1))) (l:=l) (r:=kRd (C0 w B) w i fn c K o d p o2 d2 q k u r) (ch:=ch) (by exact K5.all hi (by exact Hab.two B (by kernel_rfl) (by kernel_rfl)) (by exact Hab.two B (by kernel_rfl) (by kernel_rfl)) (by exact Hab.two B (by kernel_rfl) (by kernel_rfl)) (by exact Hab.two B (by kernel_rfl) (by kernel_rfl)) (by exact Hab.two B (by kernel_rfl) (by kernel_rfl))) rfl ⟨r,kRd_sub,G⟩
 ·intro b5 tk5
  exact HTa.val N [1] [] 1 [] (a:=.ret (.bool (kOp i (-1)))) (l:=l) (r:=kRd (C0 w B) w i fn c K o d p o2 d2 q k u r) (ch:=ch) (by exact K5.all hi (by exact Hab.two B (by kernel_rfl) (by kernel_rfl)) (by exact Hab.two B (by kernel_rfl) (by kernel_rfl)) (by exact Hab.two B (by kernel_rfl) (by kernel_rfl)) (by exact Hab.two B (by kernel_rfl) (by kernel_rfl)) (by exact Hab.two B (by kernel_rfl) (by kernel_rfl))) rfl ⟨r,kRd_sub,G⟩
end
noncomputable abbrev excStop (u:Nat):Obj:={ cls:=.type "StopIteration",data:=.fields #[.ref u,.none,.none,.none,.bool false,.none] }
noncomputable abbrev iterX (i:Nat):Obj:={ cls:=.type "list_iterator",data:=.fields #[.none,.int i 0] }
noncomputable abbrev mapO (tp K:Nat):Obj:={ cls:=.type "map",data:=.fields #[.ref tp,.ref K] }
section
variable {C:Cfg} {h₀:Heap} {lv:Nat} {R:Result→Sx→Prop} {x:Sx} {hd:Option Value}
theorem HC.listNew {a:Value} (G:∀ p,R (.ok (.ret (.ref p))) (x.put (p,listO #[] 0))):HC C h₀ hd lv x (.call (.builtin "list.__new__") ⟨[.type "list",a],[]⟩) R:=by
 intro b tk A g d os h K D
 have hb:h.objs.size=b:=D.size
 refine codeAny_mono (code_list_new (s:=⟨h,g,d,tk,os⟩) a (Q₁:=fun v s'=>∃ x',Stands C h₀ x' g d os s'∧R (.ok (.ret v)) x') (E:=fun vz0 vz1=>False) ?_) ?_
 ·show ∃ x',Stands C h₀ x' g d os _∧R (.ok (.ret (.ref h.objs.size))) x'
  rw [hb]
  exact ⟨_,⟨b+1,tk,_,rfl,push_new (o:=listO #[] 0) D rfl tk⟩,G b⟩
 ·intro r s' q
  cases r with
  | error e=>exact q.elim
  | ok fl =>
   cases fl with
   | ret v=>exact q
   | _=>exact q.elim
theorem HT.less_r' {α:Type} {t:Sem α} {Q:α→Sx→Prop} {E:Value→Sx→Prop} (H:HT C h₀ hd lv x t (fun a y=>∃ r',Sub r' y.r∧Q a ⟨y.ch,y.l,r'⟩) (fun a y=>∃ r',Sub r' y.r∧E a ⟨y.ch,y.l,r'⟩)):HT C h₀ hd lv x t Q E:=fun b tk A g d os h K D =>
 wpAny_mono (H b tk A g d os h K D) (fun a s ⟨y,⟨b',tk',h',e,D'⟩,r',hs,q⟩=>⟨⟨y.ch,y.l,r'⟩,⟨b',tk',h',e,D'.reads hs⟩,q⟩) (fun a s ⟨y,⟨b',tk',h',e,D'⟩,r',hs,q⟩=>⟨⟨y.ch,y.l,r'⟩,⟨b',tk',h',e,D'.reads hs⟩,q⟩)
theorem HT.apart {α:Type} {t:Sem α} {Q:α→Sx→Prop} {E:Value→Sx→Prop} {a c:Addr} {oa oc:Obj} {l:Memo} (hx:x.l=(a,oa)::l) (hc:(c,oc)∈l) (H:a≠c→HT C h₀ hd lv x t Q E):HT C h₀ hd lv x t Q E:=by
 intro b tk A g d os h K D
 refine H ?_ b tk A g d os h K D
 rintro rfl
 have nd:=D.nd
 have hx':((⟨x.l,x.r,b,tk,x.ch⟩:Mm)).l=(a,oa)::l:=hx
 rw [hx',List.map_cons,List.nodup_cons] at nd
 exact nd.1 (List.mem_map.mpr ⟨_,hc,rfl⟩)
end
section
variable {w:World} {B:Hab} {h₀:Heap} (N:NatOk (C0 w B) h₀) {l r:Memo} {ch:Ch} {c K p it a i n mp tp:Nat} {its:Array Value}
include N
theorem next_end {R:Result→Sx→Prop} (hl:(a,listO its n)∈r) (hn:its[i]? = none)
  (G:∀ e u,R (.error (.ref e)) ⟨ch,(e,excStop u)::(u,tupO #[])::(it,iterX i)::l,r⟩) :
  HC (C0 w B) h₀ none 20 ⟨ch,(it,iterO a i)::l,r⟩ (.call (.builtin "list_iterator.__next__") ⟨[.ref it],[]⟩) R:=by
 refine HC.bodyS (lv:=19) slot_listiter_next entry_listiter_next (args_listiter_next _) (fun g d os b tk h D=>⟨_,D.mem _ (.head _),rfl⟩) ?_
 unfold Builtin.«list_iterator.__next__»
 refine HT.less_r' (HT.reads (r:=(a,listO its n)::r) (Sub.cons hl (Sub.refl _)) ?_)
 refine HT.bindV0 N [] (a:=(Value.ref it,[])) (by kernel_rfl) ?_
 refine HT.bindV0 N [1] (a:=.ref a) (by kernel_rfl) ?_
 refine HT.ite_neg (of_decide_eq_false (by kernel_rfl)) ?_
 refine HT.bindV0 N [1] (a:=.int (Int.ofNat i) 0) (by kernel_rfl) ?_
 refine HT.bindV0 N [2] (a:=(some ((its)))) (by kernel_rfl) ?_
 have hn':its[(Int.ofNat i).toNat]? = none:=hn
 simp only [hn']
 intro b7 tk7
 refine HTa.exc N [1,1] [0,1,2] 3 [] (a:=.ref (b7+1)) (l:=((b7+1),{ cls:=.type "StopIteration",data:=.fields #[.ref b7,.none,.none,.none,.bool false,.none] })::(b7,tupO #[])::(it,{ cls:=.type "list_iterator",data:=.fields #[.none,.int (Int.ofNat i) 0] })::l) (r:=(a,listO its n)::r) (ch:=ch) (by kernel_rfl) rfl ?_
 exact ⟨r,Sub.tail,G _ _⟩
theorem map_turn {Q:Option Value→Sx→Prop} {v:Nat} (hA:KAt (C0 w B) w r c K) (hl:(a,listO its n)∈r) (hv:its[i]? = some (.ref v)) (htp:(tp,tupO #[.ref it])∈r)
  (G:∀ o d,Q (some (.ref o)) ⟨ch,(mp,mapO tp K)::(it,iterO a (i+1))::l,(o,instP K d v)::r⟩) :
  HT (C0 w B) h₀ none 100 ⟨ch,(mp,mapO tp K)::(it,iterO a i)::l,r⟩ (pyNext (.ref mp)) Q (fun vz0 vz1=>False):=by
 refine HT.less_r (HT.reads (r:=(tp,tupO #[.ref it])::r) (Sub.cons htp (Sub.refl _)) ?_)
 refine HT.cut0 N [1] (c:=.call (.builtin "map.__next__") ⟨[.ref mp],[]⟩) (by kernel_rfl) fun b tk=>?_
 refine HC.tree (lv:=99) (w:=0) (by kernel_rfl) ?_
 refine HT.val0 N [1] (a:=PySem.Fin.again (.builtin "map.__next__" ⟨[.ref mp],[]⟩)) (by kernel_rfl) ?_
 refine ⟨by kernel_rfl,?_⟩
 refine HC.tree (lv:=99) (w:=0) (by kernel_rfl) ?_
 intro b3 tk3
 refine HTa.cutN N [1,2,3] [1,0] 2 [] (c:=.call (.builtin "list_iterator.__next__") ⟨[.ref it],[]⟩) (l:=(it,iterO a i)::(mp,mapO tp K)::l) (r:=(tp,tupO #[Value.ref it])::r) (ch:=ch) (by kernel_rfl) rfl ?_
 refine next_some (y:=⟨ch,(mp,mapO tp K)::l,(tp,tupO #[.ref it])::r⟩) (.inr (.tail _ hl)) hv ?_
 refine HT.cut0 N [3] (c:=.call (.ref K) ⟨[.ref v],[]⟩) (by kernel_rfl) fun b4 tk4=>?_
 refine HC.less (inst_new N (hA.mono Sub.tail) fun o d=>?_) (by decide)
 refine HT.val0 N [] (a:=.done (.ret (.ref o))) (by kernel_rfl) ?_
 intro b6 tk6
 refine HTa.val N [] [1,0] 2 [] (a:=some (Value.ref o)) (l:=(mp,mapO tp K)::(it,iterO a (i+1))::l) (r:=(o,instP K d v)::(tp,tupO #[Value.ref it])::r) (ch:=ch) (by kernel_rfl) rfl ?_
 exact ⟨(o,instP K d v)::r,Sub.cons (.head _) (Sub.tail.trans Sub.tail),G o d⟩
theorem map_end {Q:Option Value→Sx→Prop} (hl:(a,listO its n)∈r) (hn:its[i]? = none) (htp:(tp,tupO #[.ref it])∈r)
  (G:Q none ⟨ch,l,r⟩) :
  HT (C0 w B) h₀ none 100 ⟨ch,(mp,mapO tp K)::(it,iterO a i)::l,r⟩ (pyNext (.ref mp)) Q (fun vz0 vz1=>False):=by
 refine HT.less_r (HT.reads (r:=(tp,tupO #[.ref it])::r) (Sub.cons htp (Sub.refl _)) ?_)
 refine HT.cut0 N [1] (c:=.call (.builtin "map.__next__") ⟨[.ref mp],[]⟩) (by kernel_rfl) fun b tk=>?_
 refine HC.tree (lv:=99) (w:=0) (by kernel_rfl) ?_
 refine HT.val0 N [1] (a:=PySem.Fin.again (.builtin "map.__next__" ⟨[.ref mp],[]⟩)) (by kernel_rfl) ?_
 refine ⟨by kernel_rfl,?_⟩
 refine HC.tree (lv:=99) (w:=0) (by kernel_rfl) ?_
 intro b3 tk3
 refine HTa.cutN N [1,2,3] [1,0] 2 [] (c:=.call (.builtin "list_iterator.__next__") ⟨[.ref it],[]⟩) (l:=(it,iterO a i)::(mp,mapO tp K)::l) (r:=(tp,tupO #[Value.ref it])::r) (ch:=ch) (by kernel_rfl) rfl ?_
 refine HC.less (next_end N (.tail _ hl) hn fun e u=>?_) (by decide)
 intro b4 tk4
 refine HTa.exc N [] [0,1,2,3] 4 [] (a:=.ref e) (l:=(e,excStop u)::(u,tupO #[])::(it,iterX i)::(mp,mapO tp K)::l) (r:=(tp,tupO #[Value.ref it])::r) (ch:=ch) (by kernel_rfl) rfl ?_
 intro b5 tk5
 refine HTa.val N [1] [] 4 [] (a:=none) (l:=l) (r:=(tp,tupO #[Value.ref it])::r) (ch:=ch) (by kernel_rfl) rfl ?_
 exact ⟨r,Sub.tail,G⟩
end
noncomputable def KeysAt (r:Memo) (K:Addr) (ks vs:List Addr):Prop:=All2 (fun k v=>∃ d,(k,instP K d v)∈r) ks vs
theorem KeysAt.mono {r r':Memo} (h:Sub r r') {K ks vs} (hk:KeysAt r K ks vs):KeysAt r' K ks vs:=All2.mono (fun _ _ ⟨d,m⟩=>⟨d,h _ m⟩) hk
section
variable {w:World} {B:Hab} {h₀:Heap} (N:NatOk (C0 w B) h₀) {l:Memo} {ch:Ch} {c K p it a n mp tp:Nat} {ads:List Addr}
include N
theorem map_loop {R:Result→Sx→Prop}:∀ (k i:Nat) (r:Memo) (ks:List Addr) (e:Nat),ads.length=i+k→ads.length≤100→KAt (C0 w B) w r c K→(a,listO (refs ads) n)∈r→(tp,tupO #[.ref it])∈r→KeysAt r K ks (ads.take i) →
  (∀ ks' e' r',Sub r r'→KeysAt r' K ks' ads→R (.ok (.ret .none)) ⟨ch,(p,listO (refs ks') e')::l,r'⟩) →
  HC (C0 w B) h₀ none 101 ⟨ch,(mp,mapO tp K)::(it,iterO a i)::(p,listO (refs ks) e)::l,r⟩ (.builtin "list.extend.loop" ⟨[.ref p,.ref mp,.none],[]⟩) R:=by
 intro k
 induction k with
 | zero =>
  intro i r ks e hk hn hA hl ht hks G
  refine HC.bodyB (lv:=100) (w:=0) (by kernel_rfl) (Bt:=Builtin.«list.extend.loop») (entryFor_of_fast (by kernel_rfl)) ?_
  unfold Builtin.«list.extend.loop»
  have hi:ads.take i=ads:=List.take_of_length_le (by lia)
  rw [hi] at hks
  refine HT.bind (HT.mono (map_end N hl (by rw [Array.getElem?_eq_none];rw [refs_size];lia) ht ?_) (fun vz0 vz1 q=>q) (fun vz0 vz1 q=>q.elim))
  exact HT.pure' (G ks e r (Sub.refl _) hks)
 | succ k ih =>
  intro i r ks e hk hn hA hl ht hks G
  refine HC.bodyB (lv:=100) (w:=0) (by kernel_rfl) (Bt:=Builtin.«list.extend.loop») (entryFor_of_fast (by kernel_rfl)) ?_
  unfold Builtin.«list.extend.loop»
  have hlt:i<ads.length:=by lia
  obtain ⟨v,hv⟩:∃ v,ads[i]? = some v:=⟨_,List.getElem?_eq_getElem hlt⟩
  have hv':(refs ads)[i]? = some (.ref v):=by rw [List.getElem?_toArray,List.getElem?_map,hv];rfl
  have hks1:=hks.length
  rw [List.length_take] at hks1
  refine HT.bind (HT.mono (map_turn N hA hl hv' ht fun o d=>?_) (fun vz0 vz1 q=>q) (fun vz0 vz1 q=>q.elim))
  refine HT.choose (il:=[2,0,1]) (k:=3) (ir:=[]) rfl ?_
  refine HT.bind (HT.update1 (f:=fun xs=>xs.push (.ref o)) (by rw [refs_size];lia) (by rw [Array.size_push,refs_size];lia) fun e'=>?_)
  refine HT.choose (il:=[1,2,0]) (k:=3) (ir:=[]) rfl ?_
  refine HT.pure' ⟨Code.quiet_builtin _ (by decide +kernel),?_⟩
  have:=ih (i+1) ((o,instP K d v)::r) (ks ++ [o]) e' (by lia) hn (hA.mono Sub.tail) (.tail _ hl) (.tail _ ht) (by rw [take_succ_get hv];exact (KeysAt.mono Sub.tail hks).snoc ⟨d,.head _⟩) (fun ks' e'' r' hr hk'=>G ks' e'' r' (Sub.tail.trans hr) hk')
  rw [←refs_push] at this
  exact this
end
noncomputable def cOp:Nat→CmpOp
 | 3=>.Lt
 | 4=>.Gt
 | 5=>.Eq
 | 6=>.LtE
 | _=>.GtE
noncomputable def kFn (i:Nat) (k:KP):Nat:=match i with
 | 3=>k.fL
 | 4=>k.fG
 | 5=>k.fE
 | 6=>k.fLe
 | _=>k.fGe
section
variable {w:World} {B:Hab} {h₀:Heap} (N:NatOk (C0 w B) h₀) {l r:Memo} {ch:Ch} {c K o d p o2 d2 q:Nat}
include N
theorem k_rich {i:Nat} (hi:K5 i) {Q:Value→Sx→Prop} {u1 u2 v1 v2:Nat} {X1 X2 Y1 Y2:List Nat} (G:Q (.bool (kOp i (cmpP (X1,X2) (Y1,Y2)))) ⟨ch,l,r⟩)
  (hA:KAt (C0 w B) w r c K) (hcm:(c,cellO (some (.ref 155)))∈r)
  (ho:(o,instP K d p)∈r) (ho2:(o2,instP K d2 q)∈r) (hp:(p,tupO #[.str (S X1) u1,.str (S X2) u2])∈r) (hq:(q,tupO #[.str (S Y1) v1,.str (S Y2) v2])∈r) :
  HT (C0 w B) h₀ none 64 ⟨ch,l,r⟩ (compareOp (cOp i) (.ref o) (.ref o2)) Q (fun vz0 vz1=>False):=by
 obtain ⟨k,hK,hn,hm,hfI,hfL,hfG,hfE,hfLe,hfGe⟩:=hA
 obtain ⟨u,hf,hc⟩:KFun (C0 w B) r i [(nMycmp,c)] (kFn i k):=by cases hi <;> assumption
 refine HT.less_r (HT.reads (r:=(K,clsKP K k)::(o,instP K d p)::(o2,instP K d2 q)::(k.ns,nsKP w k)::(kFn i k,fnKO (C0 w B) i [(nMycmp,c)] u.code u.ct)::r) (Sub.cons hK (Sub.cons ho (Sub.cons ho2 (Sub.cons hn (Sub.cons hf (Sub.refl _)))))) ?_)
 have s5:Sub r ((K,clsKP K k)::(o,instP K d p)::(o2,instP K d2 q)::(k.ns,nsKP w k)::(kFn i k,fnKO (C0 w B) i [(nMycmp,c)] u.code u.ct)::r):=Sub.tail.trans (Sub.tail.trans (Sub.tail.trans (Sub.tail.trans Sub.tail)))
 rw [show compareOp (cOp i) (.ref o) (.ref o2)=richCompare (cOp i) (.ref o) (.ref o2) from by exact K5.all hi rfl rfl rfl rfl rfl]
 unfold richCompare
 simp only [oneThing_ref]
 refine HT.holding ?_
 refine HT.bind (HT.lib fun Aa ga da oa bb tka ha KK Da=>wpAny_cRoomFor (Nat.lt_of_le_of_lt (Nat.le_add_right _ _) KK.units) ⟨_,⟨bb,tka,ha,rfl,Da⟩,?_⟩)
 refine HT.bindV0 N [4] (a:=.ref K) (by exact K5.all hi (by kernel_rfl) (by kernel_rfl) (by kernel_rfl) (by kernel_rfl) (by kernel_rfl)) ?_
 refine HT.bindV0 N [6] (a:=.ref K) (by exact K5.all hi (by kernel_rfl) (by kernel_rfl) (by kernel_rfl) (by kernel_rfl) (by kernel_rfl)) ?_
 refine HT.ite_neg (by simp) ?_
 refine HT.bindV0 N [] (a:=false) (by exact K5.all hi (by kernel_rfl) (by kernel_rfl) (by kernel_rfl) (by kernel_rfl) (by kernel_rfl)) ?_
 refine HT.ite_neg (by decide) ?_
 (
  refine HT.bind ?_
  refine HT.cut0 N [4,2,2,8,10] (c:=.call (.ref (kFn i k)) ⟨[.ref o,.ref o2],[]⟩) (by exact K5.all hi (by exact Hab.two B (by kernel_rfl) (by kernel_rfl)) (by exact Hab.two B (by kernel_rfl) (by kernel_rfl)) (by exact Hab.two B (by kernel_rfl) (by kernel_rfl)) (by exact Hab.two B (by kernel_rfl) (by kernel_rfl)) (by exact Hab.two B (by kernel_rfl) (by kernel_rfl))) fun b3 tk3=>?_
  refine HC.less (k_call N hi ?_ (s5 _ hK) (s5 _ hn) (s5 _ hm) (s5 _ hcm) (s5 _ ho) (s5 _ ho2) (s5 _ hp) (s5 _ hq) (s5 _ hf) (s5 _ hc)) (by decide)
  refine HT.val0 N [] (a:=some (Value.bool (kOp i (cmpP (X1,X2) (Y1,Y2))))) (by exact K5.all hi (by exact Hab.two B (by kernel_rfl) (by kernel_rfl)) (by exact Hab.two B (by kernel_rfl) (by kernel_rfl)) (by exact Hab.two B (by kernel_rfl) (by kernel_rfl)) (by exact Hab.two B (by kernel_rfl) (by kernel_rfl)) (by exact Hab.two B (by kernel_rfl) (by kernel_rfl))) ?_
  exact HT.pure' ⟨r,s5,G⟩)
end
section
variable {w:World} {B:Hab} {h₀:Heap} (N:NatOk (C0 w B) h₀) {l r:Memo} {ch:Ch} {c K p q o o2 d d2:Nat}
include N
theorem k3_key {Q:Bool→Sx→Prop} {u1 u2 v1 v2:Nat} {X1 X2 Y1 Y2:List Nat} (G:Q (decide (cmpP (X1,X2) (Y1,Y2)<0)) ⟨ch,l,r⟩)
  (hA:KAt (C0 w B) w r c K) (hcm:(c,cellO (some (.ref 155)))∈r)
  (ho:(o,instP K d p)∈r) (ho2:(o2,instP K d2 q)∈r) (hp:(p,tupO #[.str (S X1) u1,.str (S X2) u2])∈r) (hq:(q,tupO #[.str (S Y1) v1,.str (S Y2) v2])∈r) :
  HT (C0 w B) h₀ none 64 ⟨ch,l,r⟩ (keyLt' oneType' (.ref o) (.ref o2)) Q (fun vz0 vz1=>False):=by
 obtain ⟨k,hK,hn,hm,hfI,hfL,hfG,hfE,hfLe,hfGe⟩:=hA
 obtain ⟨u,hf,hc⟩:=hfL
 refine HT.less_r (HT.reads (r:=(K,clsKP K k)::(o,instP K d p)::(o2,instP K d2 q)::(k.ns,nsKP w k)::(k.fL,fnKO (C0 w B) 3 [(nMycmp,c)] u.code u.ct)::r) (Sub.cons hK (Sub.cons ho (Sub.cons ho2 (Sub.cons hn (Sub.cons hf (Sub.refl _)))))) ?_)
 have s5:Sub r ((K,clsKP K k)::(o,instP K d p)::(o2,instP K d2 q)::(k.ns,nsKP w k)::(k.fL,fnKO (C0 w B) 3 [(nMycmp,c)] u.code u.ct)::r):=Sub.tail.trans (Sub.tail.trans (Sub.tail.trans (Sub.tail.trans Sub.tail)))
 rw [keyLt'_oneType,oneLt'_eq]
 simp only [if_true]
 refine HT.bind (HT.lib fun Aa ga da oa bb tka ha KK Da=>wpAny_cRoomFor (Nat.lt_of_le_of_lt (Nat.le_add_right _ _) KK.units) ⟨_,⟨bb,tka,ha,rfl,Da⟩,?_⟩)
 (
  refine HT.bind ?_
  refine HT.cut0 N [4,2,2,8,10] (c:=.call (.ref k.fL) ⟨[.ref o,.ref o2],[]⟩) (by exact Hab.two B (by kernel_rfl) (by kernel_rfl)) fun b3 tk3=>?_
  refine HC.less (k_call N .k3 ?_ (s5 _ hK) (s5 _ hn) (s5 _ hm) (s5 _ hcm) (s5 _ ho) (s5 _ ho2) (s5 _ hp) (s5 _ hq) (s5 _ hf) (s5 _ hc)) (by decide)
  refine HT.val0 N [] (a:=some (Value.bool (decide (cmpP (X1,X2) (Y1,Y2)<0)))) (by exact Hab.two B (by kernel_rfl) (by kernel_rfl)) ?_
  refine HT.less_r' ?_
  refine HT.val0 N [] (a:=decide (cmpP (X1,X2) (Y1,Y2)<0)) (by kernel_rfl) ?_
  exact ⟨r,s5,r,Sub.refl _,G⟩)
end
section
variable {C:Cfg} {h₀:Heap} {hd:Option Value} {lv:Nat} {x:Sx} {E:Value→Sx→Prop} {env:PySem.Env}
theorem HT.itemsNil {pos:Pos} {Q:List Value→Sx→Prop} (G:Q [] x):HT C h₀ hd lv x (spliced (backTo pos (starEach [] env))) Q E :=
 HT.lib fun A g d os b tk h K D=>wpAny_items_nil ⟨x,⟨b,tk,h,rfl,D⟩,G⟩
theorem HT.itemsCons {pos:Pos} {e:PySem.Expr} {rest:List PySem.Expr} {Q:List Value→Sx→Prop} (he:∀ env,starEach (e::rest) env=(false,eval e env)::starEach rest env)
  (H:HT C h₀ hd lv x (evalZ e env) (fun v x1=>HT C h₀ hd lv x1 (spliced (backTo pos (starEach rest env))) (fun vs x2=>Q (v::vs) x2) E) E):HT C h₀ hd lv x (spliced (backTo pos (starEach (e::rest) env))) Q E:=by
 rw [←evalZ_eq] at H
 refine HT.lib fun A g d os b tk h K D=>?_
 refine wpAny_items_cons (wpAny_mono (H b tk A g d os h K D) ?_ (fun vz0 vz1 q=>q)) (he env)
 intro v s hZ0
 refine el_EA hZ0 fun x1 hZ1 T1=>?_
 try clear hZ0
 obtain ⟨b1,tk1,h1,hE2,D1⟩:=hZ1
 subst hE2
 exact T1 b1 tk1 A g d os h1 K D1
theorem HT.listE {elts:List PySem.Expr} {pos:Pos} {Q:Value→Sx→Prop} (H:HT C h₀ hd lv x (spliced (backTo pos (starEach elts env))) (fun vs x1=>HT C h₀ hd lv x1 (newList vs) Q E) E):HT C h₀ hd lv x (evalZ (.List elts pos) env) Q E:=by
 rw [←evalZ_eq]
 rw [arm_eval_List]
 refine HT.bind (HT.lib fun A g d os b tk h K D=>wpAny_standAt ⟨x,⟨b,tk,h,rfl,D⟩,?_⟩)
 exact HT.bind H
theorem HT.compCode {elt:PySem.Expr} {gens:List Comprehension} {scope:Scope} {pos:Pos} {depth:Nat} {it acc:Value} {Q:PySem.Fin→Sx→Prop} (H:HT C h₀ hd lv x (compTurn (.ListComp elt gens scope pos) depth it acc env) Q (fun vz0 vz1=>False)) :
  HT C h₀ hd lv x (denZ (.compLoop (.ListComp elt gens scope pos) depth it acc env)) Q (fun vz0 vz1=>False):=by
 refine HT.lib fun A g d os b tk h K D=>?_
 rw [denZ_eq]
 show wpAny _ _ ((compTurn (.ListComp elt gens scope pos) depth it acc env).onRaise (fun x=>do noteFrame x env;theTreesLotGoes x)) _ _ _
 refine wpAny_noted (wpAny_mono (H b tk A g d os h K D) (fun vz0 vz1 q=>q) ?_)
 intro e s hZ0
 refine el_EA hZ0 fun vz0 vz1 q=>?_
 try clear hZ0
 exact q.elim
theorem HT.turnLast {elt:PySem.Expr} {gens:List Comprehension} {g:Comprehension} {scope:Scope} {pos:Pos} {depth:Nat} {it acc:Value} {Q:PySem.Fin→Sx→Prop}
  (hg:gens[depth]? = some g) (hg2:gens[depth+1]? = none) (ha:g.is_async=0) (hi:g.ifs=[])
  (H:HT C h₀ hd lv x (pyNext it) (fun ov x1=>∃ v,ov=some v∧HT C h₀ hd lv x1 (letGoZ g.target it v) (fun vz0 x2=>HT C h₀ hd lv x2 (assignZ g.target env v) (fun vz0 x3=>HT C h₀ hd lv x3 (evalZ elt env) (fun u x4=>HT C h₀ hd lv x4 (call (.builtin "list.append") [acc,u]) (fun vz0 x5=>Q (.again (.compLoop (.ListComp elt gens scope pos) depth it acc env)) x5) (fun vz0 vz1=>False)) (fun vz0 vz1=>False)) (fun vz0 vz1=>False)) (fun vz0 vz1=>False)) (fun vz0 vz1=>False)) :
  HT C h₀ hd lv x (denZ (.compLoop (.ListComp elt gens scope pos) depth it acc env)) Q (fun vz0 vz1=>False):=by
 refine HT.compCode ?_
 unfold compTurn
 rw [←evalZ_eq,←assignZ_eq,←letGoZ_eq] at H
 simp only [hg,ha]
 refine HT.bind (HT.lib fun A g d os b tk h K D=>wpAny_standAt ⟨x,⟨b,tk,h,rfl,D⟩,?_⟩)
 refine HT.bind (HT.mono H ?_ (fun vz0 vz1 q=>q))
 intro ov x1 hZ0
 refine el_EA hZ0 fun v hE1 H1=>?_
 try clear hZ0
 subst hE1
 refine HT.bind (HT.mono H1 (fun vz0 x2 H2=>?_) (fun vz0 vz1 q=>q))
 refine HT.bind (HT.mono H2 (fun vz0 x3 H3=>?_) (fun vz0 vz1 q=>q))
 simp only [hg2,hi]
 refine HT.bind (HT.pure' ?_)
 refine HT.bind (HT.bind (HT.mono H3 (fun u x4 H4=>?_) (fun vz0 vz1 q=>q)))
 refine HT.bind (HT.mono H4 (fun vz0 x5 H5=>?_) (fun vz0 vz1 q=>q))
 exact HT.pure' (HT.pure' H5)
theorem HT.turnLast' {e elt:PySem.Expr} {gens:List Comprehension} {g:Comprehension} {scope:Scope} {pos:Pos} {depth:Nat} {it acc:Value} {Q:PySem.Fin→Sx→Prop} (es:e = .ListComp elt gens scope pos)
  (hg:gens[depth]? = some g) (hg2:gens[depth+1]? = none) (ha:g.is_async=0) (hi:g.ifs=[])
  (H:HT C h₀ hd lv x (pyNext it) (fun ov x1=>∃ v,ov=some v∧HT C h₀ hd lv x1 (letGoZ g.target it v) (fun vz0 x2=>HT C h₀ hd lv x2 (assignZ g.target env v) (fun vz0 x3=>HT C h₀ hd lv x3 (evalZ elt env) (fun u x4=>HT C h₀ hd lv x4 (call (.builtin "list.append") [acc,u]) (fun vz0 x5=>Q (.again (.compLoop e depth it acc env)) x5) (fun vz0 vz1=>False)) (fun vz0 vz1=>False)) (fun vz0 vz1=>False)) (fun vz0 vz1=>False)) (fun vz0 vz1=>False)) :
  HT C h₀ hd lv x (denZ (.compLoop e depth it acc env)) Q (fun vz0 vz1=>False):=by
 subst es
 exact HT.turnLast hg hg2 ha hi H
theorem HT.listE' {e:PySem.Expr} {elts:List PySem.Expr} {pos:Pos} {Q:Value→Sx→Prop} (es:e = .List elts pos) (H:HT C h₀ hd lv x (spliced (backTo pos (starEach elts env))) (fun vs x1=>HT C h₀ hd lv x1 (newList vs) Q E) E):HT C h₀ hd lv x (evalZ e env) Q E:=by
 subst es
 exact HT.listE H
end
noncomputable def nthE (e:PySem.Expr) (i:Nat):PySem.Expr:=(elsOf e)[i]?.getD default
noncomputable abbrev nAv:Str:=S [97]
noncomputable abbrev nBv:Str:=S [98]
noncomputable abbrev dA (w:World) (t:Nat) (v:Value):Obj:=dictO #[ent w nAv t v] 1
noncomputable abbrev dAB (w:World) (t:Nat) (v:Value) (t2:Nat) (u:Value):Obj:=dictO #[ent w nAv t v,ent w nBv t2 u] 2
noncomputable def DX (w:World) (v:Value) (o:Obj):Prop:=(∃ t,o=dA w t v) ∨ ∃ t t2 u,o=dAB w t v t2 u
noncomputable def DX0 (w:World) (i:Nat) (o:Obj):Prop:=(i=0∧o=dictO #[] 0) ∨ (0<i∧∃ v,DX w v o)
noncomputable abbrev B4:Type:=Bool×Bool×Bool×Bool
noncomputable def BoolsAt (r:Memo) (p:Addr) (b:B4):Prop:=(p,listO #[.bool b.1,.bool b.2.1,.bool b.2.2.1,.bool b.2.2.2] 0)∈r
theorem BoolsAt.mono {r r':Memo} (h:Sub r r') {p b}:BoolsAt r p b→BoolsAt r' p b:=fun m=>h _ m
noncomputable def Cmp4 (C:Cfg) (h₀:Heap) (ch:Ch) (r:Memo) (va vb:Value) (b:B4):Prop:=∀ {l' r':Memo} {Q:Value→Sx→Prop},Sub r r' →
 (Q (.bool b.1) ⟨ch,l',r'⟩→HT C h₀ none 149 ⟨ch,l',r'⟩ (compareOp .LtE va vb) Q (fun vz0 vz1=>False)) ∧
 (Q (.bool b.2.1) ⟨ch,l',r'⟩→HT C h₀ none 149 ⟨ch,l',r'⟩ (compareOp .Eq va vb) Q (fun vz0 vz1=>False)) ∧
 (Q (.bool b.2.2.1) ⟨ch,l',r'⟩→HT C h₀ none 149 ⟨ch,l',r'⟩ (compareOp .GtE va vb) Q (fun vz0 vz1=>False)) ∧
 (Q (.bool b.2.2.2) ⟨ch,l',r'⟩→HT C h₀ none 149 ⟨ch,l',r'⟩ (compareOp .Gt va vb) Q (fun vz0 vz1=>False))
theorem Cmp4.mono {C:Cfg} {h₀:Heap} {ch:Ch} {r r':Memo} {va vb:Value} {b:B4} (h:Sub r r') (H:Cmp4 C h₀ ch r va vb b):Cmp4 C h₀ ch r' va vb b:=fun h'=>H (h.trans h')
section
variable {w:World} {B:Hab} {h₀:Heap} (N:NatOk (C0 w B) h₀) {l r:Memo} {ch:Ch} {c K it a n mp tp:Nat} {ads:List Addr}
include N
theorem list_map {R:Result→Sx→Prop} (hn:ads.length≤100) (hA:KAt (C0 w B) w r c K) (hl:(a,listO (refs ads) n)∈r) (ht:(tp,tupO #[.ref it])∈r)
  (G:∀ p ks e r',Sub r r'→KeysAt r' K ks ads→R (.ok (.ret (.ref p))) ⟨ch,(p,listO (refs ks) e)::l,r'⟩) :
  HC (C0 w B) h₀ none 110 ⟨ch,(mp,mapO tp K)::(it,iterO a 0)::l,r⟩ (.call (.type "list") ⟨[.ref mp],[]⟩) R:=by
 (
  refine HC.tree (lv:=109) (w:=0) (by kernel_rfl) ?_
  refine HT.val0 N [] (a:=PySem.Fin.again (.builtin "type.__call__" ⟨[.type "list",.ref mp],[]⟩)) (by kernel_rfl) ?_
  refine ⟨by kernel_rfl,?_⟩
  refine HC.tree (lv:=109) (w:=0) (by kernel_rfl) ?_
  refine HT.cut0 N [] (c:=.call (.builtin "list.__new__") ⟨[.type "list",.ref mp],[]⟩) (by kernel_rfl) fun b tk=>?_
  refine HC.listNew fun p=>?_
  refine HT.cut0 N [1,1] (c:=.call (.builtin "list.__init__") ⟨[.ref p,.ref mp],[]⟩) (by kernel_rfl) fun b2 tk2=>?_
  refine HC.tree (lv:=108) (w:=0) (by kernel_rfl) ?_
  refine HT.val0 N [1] (a:=PySem.Fin.again (.builtin "list.__init__" ⟨[.ref p,.ref mp],[]⟩)) (by kernel_rfl) ?_
  refine ⟨by kernel_rfl,?_⟩
  refine HC.bodyB (lv:=108) (w:=0) (by kernel_rfl) (Bt:=Builtin.«list.__init__») (entryFor_of_fast (by kernel_rfl)) ?_
  unfold Builtin.«list.__init__»
  refine HT.ite_neg (of_decide_eq_false (by kernel_rfl)) ?_
  refine HT.ite_neg (of_decide_eq_false (by kernel_rfl)) ?_
  refine HT.bindV0 N [1] (a:=#[]) (by kernel_rfl) ?_
  refine HT.bindV0 N [1,1,1] (a:=()) (by kernel_rfl) ?_
  refine HT.bindV0 N [] (a:=()) (by kernel_rfl) ?_
  refine HT.apart (a:=p) (c:=mp) rfl (.head _) fun hne=>?_
  show HT _ _ _ _ _ (Builtin.List.listExtendWith (.ref p) (.ref mp) .none) _ _
  have h1:Builtin.List.listSameRef (.ref p) (.ref mp)=false:=by simp [Builtin.List.listSameRef,hne]
  unfold Builtin.List.listExtendWith
  refine HT.bindV0 N [3] (a:=.type "map") (by kernel_rfl) ?_
  refine HT.ite_neg (by rw [h1];decide) ?_
  refine HT.bindV0 N [3,3,1,3,3] (a:=.ref mp) (by exact Hab.two B (by kernel_rfl) (by kernel_rfl)) ?_
  refine HT.bindV0 N [3,3] (a:=true) (by kernel_rfl) ?_
  refine HT.ite_pos (of_decide_eq_true (by kernel_rfl)) ?_
  refine HT.bindV0 N [] (a:=()) (by kernel_rfl) ?_
  refine HT.bind ?_
  intro cb4 ct4
  refine HTa.val N [1,1,1,1,1,1] [0,1,2] 3 [] (a:=()) (l:=(p,listO #[] 2)::(mp,mapO tp K)::(it,iterO a 0)::l) (r:=r) (ch:=ch) (by kernel_rfl) rfl ?_
  intro cb5 ct5
  refine HTa.val N [] [0,1,2] 3 [] (a:=Fin.again (Code.builtin "list.extend.loop" { pos:=[Value.ref p,Value.ref mp,Value.none] })) (l:=(p,listO #[] 2)::(mp,mapO tp K)::(it,iterO a 0)::l) (r:=r) (ch:=ch) (by kernel_rfl) rfl ?_
  refine ⟨Code.quiet_builtin _ (by decide +kernel),?_⟩
  refine HC.choose (il:=[1,2,0]) (k:=3) (ir:=[]) rfl ?_
  refine HC.less (map_loop N ads.length 0 r [] 2 (by lia) hn hA hl ht .nil fun ks e r' hr hk=>?_) (by decide)
  refine HT.val0 N [] (a:=.done (.ret (.ref p))) (by kernel_rfl) ?_
  exact G p ks e r' hr hk)
end
theorem eqv_all:((List.range 4).all fun a=>(List.range 4).all fun b=>(List.range 6).all fun u=>(List.range 6).all fun v=>PyData.eqv (dP (a,u)) (dP (b,v)) == ((a,u) == (b,v)))=true:=by kernel_rfl
theorem eqv_dP {p q:KV} (hp:Fine p) (hq:Fine q):PyData.eqv (dP p) (dP q)=(p == q):=by
 obtain ⟨a,u⟩:=p
 obtain ⟨b,v⟩:=q
 have h:=List.all_eq_true.mp (List.all_eq_true.mp (List.all_eq_true.mp (List.all_eq_true.mp eqv_all a (List.mem_range.mpr hp.1)) b (List.mem_range.mpr hq.1)) u (List.mem_range.mpr hp.2)) v (List.mem_range.mpr hq.2)
 exact beq_iff_eq.mp h
section
variable {C:Cfg} {h₀:Heap} {lv:Nat} {R:Result→Sx→Prop} {x:Sx} {hd:Option Value} {E:Value→Sx→Prop}
theorem HT.eqPairs {p q:Addr} {kp kq:KV} {Q:Bool→Sx→Prop} (hp:PairAt x.r p kp) (hq:PairAt x.r q kq) (fp:Fine kp) (fq:Fine kq) (hlv:1≤lv) (G:Q (kp == kq) x):HT C h₀ hd lv x (eqBool (.ref p) (.ref q)) Q E:=by
 refine HT.lib fun A g d os bb tk h K D=>?_
 refine PySem.SeqAt.eqBoolOverData C.prog C.w A _ ⟨h,g,d,tk,os⟩ (.ref p) (.ref q) (dP kp) (dP kq) [] [] _ (pair_reads D hp) (pair_reads D hq) (lay_dP kp) (lay_dP kq) ?_ ?_
 ·have:=K.units
  have h1:=depth_dP kp
  have:=Nat.min_le_left (dP kp).depth (dP kq).depth
  lia
 ·rw [eqv_dP fp fq]
  exact ⟨x,⟨bb,tk,h,rfl,D⟩,G⟩
end
section
variable {w:World} {B:Hab} {h₀:Heap} (N:NatOk (C0 w B) h₀) {l r:Memo} {ch:Ch} {a n p:Nat} {ads:List Addr} {T:List KV} {kv:KV}
include N
theorem index_loop {R:Result→Sx→Prop} (hm:(a,listO (refs ads) n)∈r) (hp:All2 (PairAt r) ads T) (hT:∀ q∈T,Fine q) (hn:T.length≤100) (hpp:PairAt r p kv) (fp:Fine kv) {j:Nat} (hj:T[j]? = some kv)
  (G:∀ t,R (.ok (.ret (.int j t))) ⟨ch,l,r⟩):∀ (k i:Nat),j=i+k→(∀ m,m<j→T[m]?≠some kv) →
  HC (C0 w B) h₀ none 31 ⟨ch,l,r⟩ (.builtin "list.index.loop" ⟨[.ref a,.ref p,.int i 0,.int 9223372036854775807 0],[]⟩) R:=by
 have hal:=hp.length
 have hjl:j<T.length:=(List.getElem?_eq_some_iff.mp hj).1
 intro k
 induction k with
 | zero =>
  intro i hi hb
  have hi':j=i:=hi
  subst hi'
  refine HC.bodyB (lv:=30) (w:=0) (by kernel_rfl) (Bt:=Builtin.«list.index.loop») (entryFor_of_fast (by kernel_rfl)) ?_
  unfold Builtin.«list.index.loop»
  refine HT.bind (HT.items (.inr hm) ?_)
  obtain ⟨v,hv,hv2⟩:=hp.getR hj
  have hv':(refs ads)[(j:Int).toNat]? = some (.ref v):=by rw [Int.toNat_natCast,List.getElem?_toArray,List.getElem?_map,hv];rfl
  have hlt:(j:Int)<9223372036854775807:=by lia
  simp only [hlt,if_true,hv']
  refine HT.bind (HT.eqPairs hv2 hpp fp fp (by decide) ?_)
  refine HT.ite_pos (by simp) ?_
  intro b tk
  refine HTa.val N [] [] 0 [] (a:=.done (.ret (.int (Int.ofNat j) tk))) (l:=l) (r:=r) (ch:=ch) (by kernel_rfl) rfl ?_
  exact G _
 | succ k ih =>
  intro i hi hb
  refine HC.bodyB (lv:=30) (w:=0) (by kernel_rfl) (Bt:=Builtin.«list.index.loop») (entryFor_of_fast (by kernel_rfl)) ?_
  unfold Builtin.«list.index.loop»
  refine HT.bind (HT.items (.inr hm) ?_)
  have hil:i<T.length:=by lia
  obtain ⟨kq,hkq⟩:∃ kq,T[i]? = some kq:=⟨_,List.getElem?_eq_getElem hil⟩
  obtain ⟨v,hv,hv2⟩:=hp.getR hkq
  have hv':(refs ads)[(i:Int).toNat]? = some (.ref v):=by rw [Int.toNat_natCast,List.getElem?_toArray,List.getElem?_map,hv];rfl
  have hlt:(i:Int)<9223372036854775807:=by lia
  simp only [hlt,if_true,hv']
  have hne:kq≠kv:=fun e=>hb i (by lia) (by rw [hkq,e])
  refine HT.bind (HT.eqPairs hv2 hpp (hT _ (List.mem_of_getElem? hkq)) fp (by decide) ?_)
  refine HT.ite_neg (by simpa using hne) ?_
  refine HT.pure' ⟨Code.quiet_builtin _ (by decide +kernel),?_⟩
  exact ih (i+1) (by lia) hb
theorem index_call {R:Result→Sx→Prop} (hm:(a,listO (refs ads) n)∈r) (hp:All2 (PairAt r) ads T) (hT:∀ q∈T,Fine q) (hn:T.length≤100) (hpp:PairAt r p kv) (fp:Fine kv) {j:Nat} (hj:T[j]? = some kv) (hb:∀ m,m<j→T[m]?≠some kv)
  (G:∀ t,R (.ok (.ret (.int j t))) ⟨ch,l,r⟩):HC (C0 w B) h₀ none 40 ⟨ch,l,r⟩ (.call (.builtin "list.index") ⟨[.ref a,.ref p],[]⟩) R:=by
 refine HC.less_r (HC.reads (r:=(a,listO (refs ads) n)::r) (Sub.cons hm (Sub.refl _)) ?_)
 refine HC.tree (lv:=39) (w:=0) (by kernel_rfl) ?_
 refine HT.val0 N [2] (a:=PySem.Fin.again (.builtin "list.index" ⟨[.ref a,.ref p],[]⟩)) (by kernel_rfl) ?_
 refine ⟨by kernel_rfl,?_⟩
 refine HC.tree (lv:=39) (w:=0) (by kernel_rfl) ?_
 refine HT.val0 N [2] (a:=PySem.Fin.again (.builtin "list.index.loop" ⟨[.ref a,.ref p,.int 0 0,.int 9223372036854775807 0],[]⟩)) (by kernel_rfl) ?_
 refine ⟨by kernel_rfl,?_⟩
 refine HC.less (HC.mono (index_loop N (.head _) (hp.mono fun vz0 vz1=>PairAt.mono Sub.tail) hT hn (hpp.mono Sub.tail) fp hj (fun t=>?_) j 0 (by lia) hb) fun vz0 vz1 q=>q) (by decide)
 exact ⟨r,Sub.tail,G t⟩
end
noncomputable abbrev lcK (C:Cfg):PySem.Expr:=tupR (asgV (lB C 9))
noncomputable abbrev envK (C:Cfg) (D f:Addr):PySem.Env:=compEnvC (scopeOf (lcK C)) [(nOrder,f+3)] D (envLaw C f)
noncomputable abbrev cK (C:Cfg) (it acc D f:Addr):Code:=.compLoop (lcK C) 0 (.ref it) (.ref acc) (envK C D f)
noncomputable abbrev cKS (C:Cfg) (it acc D f:Addr):Code:=.compStart (lcK C) 0 (.ref it) (.ref acc) (envK C D f)
noncomputable def IsRk (v:Value) (j:Nat):Prop:=∃ t,v = .int (j:Int) t
section
variable {w:World} {B:Hab} {h₀:Heap} (N:NatOk (C0 w B) h₀) {f D it a acc od on:Nat} {l r:Memo} {ch:Ch} {R:Result→Sx→Prop} {oads:List Addr} {O:List KV}
example:lcK (C0 w B) = .ListComp (eltOf (lcK (C0 w B))) [gen1 (lcK (C0 w B))] (scopeOf (lcK (C0 w B))) (lcPos (lcK (C0 w B))):=by kernel_rfl
include N
theorem rk_start {Q:PySem.Fin→Sx→Prop} {E:Value→Sx→Prop} (G:Q (.again (cK (C0 w B) it acc D f)) ⟨ch,(it,iterO a 0)::l,r⟩):HT (C0 w B) h₀ none 150 ⟨ch,(it,iterO a 0)::l,r⟩ (denZ (cKS (C0 w B) it acc D f)) Q E:=by
 obtain ⟨b1,b2,b3,b4⟩:=B
 intro b tk
 cases b2
 ·cases b1 <;> exact HTa.val N [1,1,1,1,1] [0] 1 [] (a:=PySem.Fin.again (cK _ it acc D f)) (l:=(it,iterO a 0)::l) (r:=r) (ch:=ch) (by kernel_rfl) rfl G
 ·exact HTa.val N [] [0] 1 [] (a:=PySem.Fin.again (cK _ it acc D f)) (l:=(it,iterO a 0)::l) (r:=r) (ch:=ch) (by kernel_rfl) rfl G
theorem rk_turn {p i n' b0 tk0 j:Nat} {q:KV} {xs:Array Value} {o:Obj} {Q:PySem.Fin→Sx→Prop} (hxs:xs.size≤10000) (ho:OneName w nPair i o)
  (hm:(od,listO (refs oads) on)∈r) (hp:All2 (PairAt r) oads O) (hO:∀ q∈O,Fine q) (hn:O.length≤100) (hpp:PairAt r p q) (fp:Fine q) (hj:O[j]? = some q) (hb:∀ m,m<j→O[m]?≠some q)
  (G:∀ o' n2 t,OneName w nPair (i+1) o'→Q (.again (cK (C0 w B) it acc D f)) ⟨ch,(it,iterO a (i+1))::(acc,listO (xs.push (.int (j:Int) t)) n2)::(D,o')::(f+3,cellR od)::l,r⟩) :
  HT (C0 w B) h₀ none 150 ⟨ch,(it,iterO a (i+1))::(acc,listO xs n')::(D,o)::(f+3,cellR od)::l,r⟩ ((go (C0 w B) none 150 [1] (denZ (cK (C0 w B) it acc D f)) ⟨(it,iterO a i)::(acc,listO xs n')::(D,o)::(f+3,cellR od)::l,r,b0,tk0,ch⟩).kont (.ok (.ret (.ref p)))) Q (fun vz0 vz1=>False):=by
 refine HT.less_r (HT.reads (r:=(od,listO (refs oads) on)::r) (Sub.cons hm (Sub.refl _)) ?_)
 have key:∀ {l':Memo} {RR:Result→Sx→Prop},(∀ t,RR (.ok (.ret (.int (j:Int) t))) ⟨ch,l',(od,listO (refs oads) on)::r⟩)→HC (C0 w B) h₀ none 150 ⟨ch,l',(od,listO (refs oads) on)::r⟩ (.call (.builtin "list.index") ⟨[.ref od,.ref p],[]⟩) RR :=
  fun {l' RR} hk=>HC.less (index_call N (.head _) (hp.mono fun vz0 vz1=>PairAt.mono Sub.tail) hO hn (hpp.mono Sub.tail) fp hj hb hk) (by decide)
 intro b tk
 refine HTa.cutN N [5,5,7,2,2,2,2,5] [0,1,2,3] 4 [] (c:=.call (.builtin "list.index") ⟨[.ref od,.ref p],[]⟩) (l:=(it,iterO a (i+1))::(acc,listO xs n')::(D,dictO #[ent w (S [112,97,105,114]) (nmTok o tk) (.ref p)] 1)::(f+3,cellR od)::l) (r:=(od,listO (refs oads) on)::r) (ch:=ch) (by exact OneName.two ho (by kernel_rfl) fun vz0 vz1 vz2=>by kernel_rfl) rfl ?_
 refine key fun t b5 tk5=>?_
 refine HTa.cutN N [] [1,0,2,3] 4 [] (c:=.call (.builtin "list.append") ⟨[.ref acc,.int (Int.ofNat j) t],[]⟩) (l:=(acc,listO xs n')::(it,iterO a (i+1))::(D,dictO #[ent w (S [112,97,105,114]) (nmTok o tk) (Value.ref p)] 1)::(f+3,cellR od)::l) (r:=(od,listO (refs oads) on)::r) (ch:=ch) (by exact OneName.two ho (by kernel_rfl) fun vz0 vz1 vz2=>by kernel_rfl) rfl ?_
 refine HC.append (by rw [sizeLine_eq];lia) fun b6 tk6=>?_
 refine HTa.val N [] [1,0,2,3] 4 [] (a:=PySem.Fin.again (cK (C0 w B) it acc D f)) (l:=(it,iterO a (i+1))::(acc,listO (xs.push (Value.int (Int.ofNat j) t)) (n'+1))::(D,dictO #[ent w (S [112,97,105,114]) (nmTok o tk) (Value.ref p)] 1)::(f+3,cellR od)::l) (r:=(od,listO (refs oads) on)::r) (ch:=ch) (by exact OneName.two ho (by kernel_rfl) fun vz0 vz1 vz2=>by kernel_rfl) rfl ?_
 exact ⟨r,Sub.tail,G _ _ _ (.inr ⟨Nat.succ_pos _,_,_,rfl⟩)⟩
end
section
variable {w:World} {B:Hab} {h₀:Heap} (N:NatOk (C0 w B) h₀) {f D it a acc od on:Nat} {l r:Memo} {ch:Ch} {R:Result→Sx→Prop} {oads:List Addr} {O:List KV} {jf:KV→Nat}
include N
theorem rk_comp {ads:List Addr} {T:List KV} {n:Nat} (hl:(a,listO (refs ads) n)∈r) (hT:All2 (PairAt r) ads T) (hTn:T.length≤100)
  (hm:(od,listO (refs oads) on)∈r) (hp:All2 (PairAt r) oads O) (hO:∀ q∈O,Fine q) (hn:O.length≤100) (hj:∀ q∈T,O[jf q]? = some q∧∀ m,m<jf q→O[m]?≠some q)
  (G:∀ xs n' i o,All2 IsRk xs.toList (T.map jf)→OneName w nPair i o→R (.ok .next) ⟨ch,(acc,listO xs n')::(D,o)::(f+3,cellR od)::l,r⟩) :
  HC (C0 w B) h₀ none 151 ⟨ch,(it,iterO a 0)::(acc,listO #[] 0)::(D,dictO #[] 0)::(f+3,cellR od)::l,r⟩ (cKS (C0 w B) it acc D f) R:=by
 refine HC.tree (lv:=150) (w:=0) (by kernel_rfl) (rk_start N ?_)
 refine ⟨by kernel_rfl,?_⟩
 have hal:=hT.length
 refine HC.compList N (a:=a) (its:=refs ads) (n:=n) (by kernel_rfl) (by kernel_rfl) (fun i y b tk=>by kernel_rfl)
  (fun i y=>∃ xs n' o,y=⟨ch,(acc,listO xs n')::(D,o)::(f+3,cellR od)::l,r⟩∧All2 IsRk xs.toList ((T.take i).map jf)∧OneName w nPair i o) ?_ ?_ ?_ (y:=⟨ch,(acc,listO #[] 0)::(D,dictO #[] 0)::(f+3,cellR od)::l,r⟩) ⟨#[],0,_,rfl,.nil,.inl ⟨rfl,rfl⟩⟩
 ·intro i y hZ0
  refine el_EEEAA hZ0 fun xs n' o hE1 vz0 vz1=>?_
  try clear hZ0
  subst hE1
  exact .inr hl
 ·intro y hZ0
  refine el_EEEAA hZ0 fun xs n' o hE1 h ho=>?_
  try clear hZ0
  subst hE1
  have es:(lcK (C0 w B)) = .ListComp (eltOf (lcK (C0 w B))) [gen1 (lcK (C0 w B))] (scopeOf (lcK (C0 w B))) (lcPos (lcK (C0 w B))):=by kernel_rfl
  show HC _ _ _ _ _ (.compLoop (lcK (C0 w B)) 0 (.ref it) (.ref acc) (envK (C0 w B) D f)) _
  rw [es]
  refine HC.compEnd (gen:=gen1 (lcK (C0 w B))) rfl (by kernel_rfl) (.inr hl) ?_
  rw [refs_size,hal,List.take_length] at h
  exact G _ _ _ _ h ho
 ·intro i y v hZ0 hv b0 tk0
  refine el_EEEAA hZ0 fun xs n' o hE1 h ho=>?_
  try clear hZ0
  subst hE1
  refine el_EA (refs_get hv) fun p hp1 hE2=>?_
  subst hE2
  refine el_EA (hT.get (a:=p) hp1) fun kv hkv hpa=>?_
  have hlen:=h.length
  rw [List.length_map] at hlen
  have hk1:(T.take i).length≤100:=Nat.le_trans (List.length_take_le' _ _) hTn
  refine el_A (hj kv (List.mem_of_getElem? hkv)) fun hj1 hj2=>?_
  have hsz:xs.size≤10000:=by rw [←Array.length_toList];lia
  refine rk_turn N hsz ho hm hp hO hn hpa (hO kv (List.mem_of_getElem? hj1)) hj1 hj2 fun o' n2 t ho'=>?_
  refine ⟨rfl,⟨ch,(acc,listO (xs.push (.int (jf kv:Int) t)) n2)::(D,o')::(f+3,cellR od)::l,r⟩,⟨_,_,_,rfl,?_,ho'⟩,rfl⟩
  rw [take_succ_get hkv,List.map_append,Array.toList_push]
  exact h.snoc ⟨t,rfl⟩
inductive RanksAt (r:Memo) (a:Nat) (js:List Nat):Prop
 | mk:∀ xs n,((a,listO xs n)∈r)→(All2 IsRk xs.toList js)→RanksAt r a js
theorem law_s9 {nw sc ls rd t1 t2 t3 t4 t5 tb cb cs:Nat} {vh:Value} {Q:Flow→Sx→Prop} {T:List KV} (hw:PairsAt r nw T) (hod:PairsAt r od O) (hTn:T.length≤100) (hO:∀ q∈O,Fine q) (hn:O.length≤100) (hj:∀ q∈T,O[jf q]? = some q∧∀ m,m<jf q→O[m]?≠some q)
  (G:∀ K c ck kl ra ads ks n e r',Sub r r'→(nw,listO (refs ads) n)∈r'→All2 (PairAt r') ads T→KCodes (C0 w B) r' ck→(c,cellO (some (.ref 155)))∈r'→KAt (C0 w B) w r' c K→KeysAt r' K ks ads→(kl,listO (refs ks) e)∈r'→RanksAt r' ra (T.map jf)→Q .next ⟨chK cb cs ck,(f,frC w t1 sc t2 ls t3 vh t4 rd t5 tb)::(f+2,cellR nw)::(f+3,cellR od)::(f+4,cellR kl)::(f+5,cellR ra)::l,r'⟩) :
  HT (C0 w B) h₀ none 300 ⟨chS cb cs,(f,frC w t1 sc t2 ls t3 vh t4 rd t5 tb)::(f+2,cellR nw)::(f+3,cellR od)::(f+4,cellN)::(f+5,cellN)::l,r⟩ (execsZ [lB (C0 w B) 9] (envLaw (C0 w B) f)) Q (fun vz0 vz1=>False):=by
 obtain ⟨ads,n,hm,hal⟩:=hw
 obtain ⟨oads,on,hom,hoal⟩:=hod
 have key:∀ {b0:Nat} {l' r':Memo} {ch:Ch} {RR:Result→Sx→Prop},Sub r r'→(∀ xs n' i o,All2 IsRk xs.toList (T.map jf)→OneName w nPair i o→RR (.ok .next) ⟨ch,(b0+1,listO xs n')::(b0+2,o)::(f+3,cellR od)::l',r'⟩)→HC (C0 w B) h₀ none 300 ⟨ch,(b0,iterO nw 0)::(b0+1,listO #[] 0)::(b0+2,dictO #[] 0)::(f+3,cellR od)::l',r'⟩ (cKS (C0 w B) b0 (b0+1) (b0+2) f) RR :=
  fun {b0 l' r' ch RR} hr hk=>HC.less (rk_comp N (hr _ hm) (hal.mono fun vz0 vz1=>PairAt.mono hr) hTn (hr _ hom) (hoal.mono fun vz0 vz1=>PairAt.mono hr) hO hn hj hk) (by decide)
 (
  refine HT.cut0 N [0,0,0,0,0,0,0] (c:=.call (.ref 94) ⟨[.ref 155],[]⟩) (by kernel_rfl) fun b tk=>?_
  refine HC.less (ck_call1 N fun K c ck r' hr hk hc hK=>?_) (by decide)
  have hm':=hr _ hm
  refine HT.reads (r:=(nw,listO (refs ads) n)::r') (Sub.cons hm' (Sub.refl _)) ?_
  intro b1 tk1
  refine HTa.cut N [3,1,1,2,2,1,2,1,1,1,1,1,1] [0,2,3,4,5,6,7] 8 [1] (c:=.call (.type "list") ⟨[.ref (b1+2)],[]⟩) (l:=((b1+2),{ cls:=.type "map",data:=.fields #[.ref (b1+1),.ref K] })::(b1,{ cls:=.type "list_iterator",data:=.fields #[.ref nw,.int 0 0] })::(f,frC w t1 sc t2 ls t3 vh t4 rd t5 tb)::(f+2,cellR nw)::(f+3,cellR od)::(f+4,cellN)::(f+5,cellN)::l) (r:=((b1+1),tupO #[.ref b1])::(nw,listO (refs ads) n)::r') (ch:=[(82,#[Value.int 57 0,Value.int 50 0,Value.ref cb]),(65,#[Value.int 26 0,Value.int 49 0,Value.ref cs]),(89,#[Value.int 67 0,Value.int 4 0,Value.ref ck])]) (by exact Hab.two B (by kernel_rfl) (by kernel_rfl)) rfl (by intro h;cases h) ?_
  refine HC.less (list_map N (n:=n) (ads:=ads) (by rw [hal.length];exact hTn) (hK.mono (Sub.tail.trans Sub.tail)) (.tail _ (.head _)) (.head _) fun p ks e r2 hr2 hk2=>?_) (by decide)
  have hrr:Sub r r2:=hr.trans (Sub.tail.trans (Sub.tail.trans hr2))
  refine HT.reads (r:=(nw,listO (refs ads) n)::r2) (Sub.cons (hrr _ hm) (Sub.refl _)) ?_
  intro b3 tk3
  refine HTa.cutN N [5,2,2,1,2,1] [2,1,0,6,3,4,5,7,8] 9 [] (c:=cKS (C0 w B) b3 (b3+1) (b3+2) f) (l:=(b3,{ cls:=.type "list_iterator",data:=.fields #[.ref nw,.int 0 0] })::((b3+1),listO #[] 0)::((b3+2),dictO #[] 0)::(f+3,cellR od)::(p,listO (refs ks) e)::(f,frC w t1 sc t2 ls t3 vh t4 rd t5 tb)::(f+2,cellR nw)::(f+4,cellN)::(f+5,cellN)::l) (r:=(nw,listO (refs ads) n)::r2) (ch:=[(82,#[Value.int 57 0,Value.int 50 0,Value.ref cb]),(65,#[Value.int 26 0,Value.int 49 0,Value.ref cs]),(89,#[Value.int 67 0,Value.int 4 0,Value.ref ck])]) (by exact Hab.two B (by kernel_rfl) (by kernel_rfl)) rfl ?_
  refine key (hrr.trans Sub.tail) fun xs n' i o hx ho=>?_
  rcases ho with ⟨_,rfl⟩ | ⟨_,u1,v1,rfl⟩
  ·intro b4 tk4
   refine HTa.val N [3,1,1,1,1,1,1,1,1,1,1,1,3,1,1,1,1,1,1,1,3,1,1,1,1,1,1,1,3,1,1,1,21,21,23,23] [8,9,6,10,11] 12 [4,7] (a:=.next) (l:=(f,frC w t1 sc t2 ls t3 vh t4 rd t5 tb)::(f+2,cellR nw)::(f+3,cellR od)::((f+4),{ cls:=.type "cell",data:=.cell (some (.ref p)) })::((f+5),{ cls:=.type "cell",data:=.cell (some (.ref (b3+1))) })::l) (r:=(b3+1,listO xs n')::(p,listO (refs ks) e)::(nw,listO (refs ads) n)::r2) (ch:=[(82,#[Value.int 57 0,Value.int 50 0,Value.ref cb]),(65,#[Value.int 26 0,Value.int 49 0,Value.ref cs]),(89,#[Value.int 67 0,Value.int 4 0,Value.ref ck])]) (by exact Hab.two B (by kernel_rfl) (by kernel_rfl)) rfl ?_
   exact G K c ck p (b3+1) ads ks n e _ (hrr.trans (Sub.tail.trans (Sub.tail.trans Sub.tail))) (.tail _ (.tail _ (.head _))) (hal.mono fun vz0 vz1=>PairAt.mono (hrr.trans (Sub.tail.trans (Sub.tail.trans Sub.tail)))) (hk.mono (Sub.tail.trans (Sub.tail.trans (hr2.trans (Sub.tail.trans (Sub.tail.trans Sub.tail)))))) ((Sub.tail.trans (Sub.tail.trans (hr2.trans (Sub.tail.trans (Sub.tail.trans Sub.tail))))) _ hc) (hK.mono (Sub.tail.trans (Sub.tail.trans (hr2.trans (Sub.tail.trans (Sub.tail.trans Sub.tail)))))) (hk2.mono (Sub.tail.trans (Sub.tail.trans Sub.tail))) (.tail _ (.head _)) ⟨_,_,.head _,hx⟩
  ·intro b4 tk4
   refine HTa.val N [3,3,3,1,1,1,1,1,1,1,1,1,1,1,3,1,1,1,1,1,1,1,3,1,1,1,1,1,1,1,3,1,1,1,21,21,23,23] [8,9,6,10,11] 12 [4,7] (a:=.next) (l:=(f,frC w t1 sc t2 ls t3 vh t4 rd t5 tb)::(f+2,cellR nw)::(f+3,cellR od)::((f+4),{ cls:=.type "cell",data:=.cell (some (.ref p)) })::((f+5),{ cls:=.type "cell",data:=.cell (some (.ref (b3+1))) })::l) (r:=(b3+1,listO xs n')::(p,listO (refs ks) e)::(nw,listO (refs ads) n)::r2) (ch:=[(82,#[Value.int 57 0,Value.int 50 0,Value.ref cb]),(65,#[Value.int 26 0,Value.int 49 0,Value.ref cs]),(89,#[Value.int 67 0,Value.int 4 0,Value.ref ck])]) (by exact Hab.two B (by kernel_rfl) (by kernel_rfl)) rfl ?_
   exact G K c ck p (b3+1) ads ks n e _ (hrr.trans (Sub.tail.trans (Sub.tail.trans Sub.tail))) (.tail _ (.tail _ (.head _))) (hal.mono fun vz0 vz1=>PairAt.mono (hrr.trans (Sub.tail.trans (Sub.tail.trans Sub.tail)))) (hk.mono (Sub.tail.trans (Sub.tail.trans (hr2.trans (Sub.tail.trans (Sub.tail.trans Sub.tail)))))) ((Sub.tail.trans (Sub.tail.trans (hr2.trans (Sub.tail.trans (Sub.tail.trans Sub.tail))))) _ hc) (hK.mono (Sub.tail.trans (Sub.tail.trans (hr2.trans (Sub.tail.trans (Sub.tail.trans Sub.tail)))))) (hk2.mono (Sub.tail.trans (Sub.tail.trans Sub.tail))) (.tail _ (.head _)) ⟨_,_,.head _,hx⟩)
end
@[elab_as_elim] theorem Bool.two {P:Bool→Prop} (q:Bool) (f:At P false) (t:At P true):P q:=by
 cases q
 ·exact f
 ·exact t
noncomputable def lcX (C:Cfg) (q:Bool):PySem.Expr:=match q with
 | false=>cmpL (ifTest (lB C 10))
 | true=>cmpR (ifTest (lB C 10))
noncomputable def fX (f:Addr) (q:Bool):Addr:=match q with
 | false=>f+4
 | true=>f+5
noncomputable def nX (q:Bool):Str:=match q with
 | false=>nKeys
 | true=>nRanks
noncomputable abbrev envX (C:Cfg) (q:Bool) (D f:Addr):PySem.Env:=compEnvC (scopeOf (lcX C q)) [(nX q,fX f q)] D (envLaw C f)
noncomputable abbrev cX (C:Cfg) (q:Bool) (d it acc D f:Addr):Code:=.compLoop (lcX C q) d (.ref it) (.ref acc) (envX C q D f)
noncomputable abbrev cXS (C:Cfg) (q:Bool) (d it acc D f:Addr):Code:=.compStart (lcX C q) d (.ref it) (.ref acc) (envX C q D f)
noncomputable abbrev elX (C:Cfg) (q:Bool) (i:Nat):PySem.Expr:=nthE (eltOf (lcX C q)) i
noncomputable abbrev cPS (C:Cfg) (d it acc D f:Addr):Code:=cXS C false d it acc D f
noncomputable abbrev cQS (C:Cfg) (d it acc D f:Addr):Code:=cXS C true d it acc D f
inductive VX:Bool→Value→Prop
 | ref (u:Addr):VX false (.ref u)
 | int (z:Int) (t:Tok):VX true (.int z t)
@[elab_as_elim] theorem VX.two {P:Bool→Value→Prop} {q:Bool} {v:Value} (h:VX q v) (a:∀ u,At2 P false (.ref u)) (b:∀ z t,At2 P true (.int z t)):P q v:=by
 cases h
 ·exact a _
 ·exact b _ _
section
variable {w:World} {B:Hab} {h₀:Heap} (N:NatOk (C0 w B) h₀) {q:Bool} {f D it a acc:Nat} {l r:Memo} {ch:Ch} {R:Result→Sx→Prop}
theorem esX:lcX (C0 w B) q = .ListComp (eltOf (lcX (C0 w B) q)) [gen1 (lcX (C0 w B) q),gen2 (lcX (C0 w B) q)] (scopeOf (lcX (C0 w B) q)) (lcPos (lcX (C0 w B) q)):=by exact Bool.two q (by kernel_rfl) (by kernel_rfl)
theorem el4X:eltOf (lcX (C0 w B) q) = .List [elX (C0 w B) q 0,elX (C0 w B) q 1,elX (C0 w B) q 2,elX (C0 w B) q 3] (lstPos (eltOf (lcX (C0 w B) q))):=by exact Bool.two q (by kernel_rfl) (by kernel_rfl)
theorem el0X:IsCmp (elX (C0 w B) q 0) .LtE:=by exact Bool.two q (by kernel_rfl) (by kernel_rfl)
theorem el1X:IsCmp (elX (C0 w B) q 1) .Eq:=by exact Bool.two q (by kernel_rfl) (by kernel_rfl)
theorem el2X:IsCmp (elX (C0 w B) q 2) .GtE:=by exact Bool.two q (by kernel_rfl) (by kernel_rfl)
theorem el3X:IsCmp (elX (C0 w B) q 3) .Gt:=by exact Bool.two q (by kernel_rfl) (by kernel_rfl)
include N
theorem nameX {j:Nat} (hj:j<4) {t t2:Nat} {va vb:Value} {y1 y2:Addr} {z1 z2:Obj} {Q:Value→Sx→Prop} (G:Q va ⟨ch,(y1,z1)::(y2,z2)::(D,dAB w t va t2 vb)::l,r⟩):HT (C0 w B) h₀ none 149 ⟨ch,(y1,z1)::(y2,z2)::(D,dAB w t va t2 vb)::l,r⟩ (evalZ (cmpL (elX (C0 w B) q j)) (envX (C0 w B) q D f)) Q (fun vz0 vz1=>False):=by
 rcases lt4 (by assumption:j<4) with rfl | rfl | rfl | rfl <;> (
  refine HT.val0 N [5] (a:=(va)) (by exact Bool.two q (by kernel_rfl) (by kernel_rfl)) ?_
  exact G)
theorem nameRX {j:Nat} (hj:j<4) {t t2:Nat} {va vb:Value} {y1 y2:Addr} {z1 z2:Obj} {Q:Value→Sx→Prop} (G:Q vb ⟨ch,(y1,z1)::(y2,z2)::(D,dAB w t va t2 vb)::l,r⟩):HT (C0 w B) h₀ none 149 ⟨ch,(y1,z1)::(y2,z2)::(D,dAB w t va t2 vb)::l,r⟩ (evalZ (cmpR (elX (C0 w B) q j)) (envX (C0 w B) q D f)) Q (fun vz0 vz1=>False):=by
 rcases lt4 (by assumption:j<4) with rfl | rfl | rfl | rfl <;> (
  refine HT.val0 N [5] (a:=(vb)) (by exact Bool.two q (by kernel_rfl) (by kernel_rfl)) ?_
  exact G)
theorem eltX {t t2:Nat} {va vb:Value} {y1 y2:Addr} {z1 z2:Obj} {bb:B4} {Q:Value→Sx→Prop} (hc:Cmp4 (C0 w B) h₀ ch r va vb bb)
  (G:∀ p,Q (.ref p) ⟨ch,(y1,z1)::(y2,z2)::(D,dAB w t va t2 vb)::l,(p,listO #[.bool bb.1,.bool bb.2.1,.bool bb.2.2.1,.bool bb.2.2.2] 0)::r⟩) :
  HT (C0 w B) h₀ none 149 ⟨ch,(y1,z1)::(y2,z2)::(D,dAB w t va t2 vb)::l,r⟩ (evalZ (eltOf (lcX (C0 w B) q)) (envX (C0 w B) q D f)) Q (fun vz0 vz1=>False):=by
 refine HT.listE' el4X ?_
 refine HT.itemsCons (fun vz0=>by exact Bool.two q (by rfl) (by rfl)) (HT.compare1' el0X (by exact Bool.two q (by kernel_rfl) (by kernel_rfl)) (nameX N (by decide) (nameRX N (by decide) ((hc (Sub.refl _)).1 ?_))))
 refine HT.itemsCons (fun vz0=>by exact Bool.two q (by rfl) (by rfl)) (HT.compare1' el1X (by exact Bool.two q (by kernel_rfl) (by kernel_rfl)) (nameX N (by decide) (nameRX N (by decide) ((hc (Sub.refl _)).2.1 ?_))))
 refine HT.itemsCons (fun vz0=>by exact Bool.two q (by rfl) (by rfl)) (HT.compare1' el2X (by exact Bool.two q (by kernel_rfl) (by kernel_rfl)) (nameX N (by decide) (nameRX N (by decide) ((hc (Sub.refl _)).2.2.1 ?_))))
 refine HT.itemsCons (fun vz0=>by exact Bool.two q (by rfl) (by rfl)) (HT.compare1' el3X (by exact Bool.two q (by kernel_rfl) (by kernel_rfl)) (nameX N (by decide) (nameRX N (by decide) ((hc (Sub.refl _)).2.2.2 ?_))))
 refine HT.itemsNil ?_
 intro b tk
 refine HTa.val N [] [1,2,3] 4 [0] (a:=.ref b) (l:=(y1,z1)::(y2,z2)::(D,dAB w t va t2 vb)::l) (r:=(b,listO #[.bool bb.1,.bool bb.snd.1,.bool bb.snd.snd.1,.bool bb.snd.snd.2] 0)::r) (ch:=ch) (by exact Bool.two q (by kernel_rfl) (by kernel_rfl)) rfl ?_
 exact G _
end
section
variable {w:World} {B:Hab} {h₀:Heap} (N:NatOk (C0 w B) h₀) {q:Bool} {f D it a acc:Nat} {l r:Memo} {ch:Ch} {R:Result→Sx→Prop}
include N
theorem stX {d:Nat} (hd:d=0 ∨ d=1) {lv:Nat} {Q:PySem.Fin→Sx→Prop} {E:Value→Sx→Prop} (G:Q (.again (cX (C0 w B) q d it acc D f)) ⟨ch,(it,iterO a 0)::l,r⟩):HT (C0 w B) h₀ none 149 ⟨ch,(it,iterO a 0)::l,r⟩ (denZ (cXS (C0 w B) q d it acc D f)) Q E:=by
 obtain ⟨b1,b2,b3,b4⟩:=B
 intro b tk
 rcases hd with rfl | rfl
 ·cases b2
  ·cases b1 <;> cases q <;> exact HTa.val N [1,1,1,1,1] [0] 1 [] (a:=PySem.Fin.again (cX _ _ 0 it acc D f)) (l:=(it,iterO a 0)::l) (r:=r) (ch:=ch) (by kernel_rfl) rfl G
  ·cases q <;> exact HTa.val N [] [0] 1 [] (a:=PySem.Fin.again (cX _ _ 0 it acc D f)) (l:=(it,iterO a 0)::l) (r:=r) (ch:=ch) (by kernel_rfl) rfl G
 ·cases b2
  ·cases b1 <;> cases q <;> exact HTa.val N [1,1,1,1,1] [0] 1 [] (a:=PySem.Fin.again (cX _ _ 1 it acc D f)) (l:=(it,iterO a 0)::l) (r:=r) (ch:=ch) (by kernel_rfl) rfl G
  ·cases q <;> exact HTa.val N [] [0] 1 [] (a:=PySem.Fin.again (cX _ _ 1 it acc D f)) (l:=(it,iterO a 0)::l) (r:=r) (ch:=ch) (by kernel_rfl) rfl G
theorem tw1X {i n n':Nat} {its xs:Array Value} {va vb:Value} {o:Obj} {bb:B4} {Q:PySem.Fin→Sx→Prop} (hl:(a,listO its n)∈r) (hv:its[i]? = some vb) (hvb:VX q vb) (hxs:xs.size≤10000) (ho:DX w va o) (hc:Cmp4 (C0 w B) h₀ ch r va vb bb)
  (G:∀ o' p n2,DX w va o'→Q (.again (cX (C0 w B) q 1 it acc D f)) ⟨ch,(it,iterO a (i+1))::(acc,listO (xs.push (.ref p)) n2)::(D,o')::l,(p,listO #[.bool bb.1,.bool bb.2.1,.bool bb.2.2.1,.bool bb.2.2.2] 0)::r⟩) :
  HT (C0 w B) h₀ none 149 ⟨ch,(it,iterO a i)::(acc,listO xs n')::(D,o)::l,r⟩ (denZ (cX (C0 w B) q 1 it acc D f)) Q (fun vz0 vz1=>False):=by
 refine HT.turnLast' esX (g:=gen2 (lcX (C0 w B) q)) (by exact Bool.two q (by rfl) (by rfl)) (by exact Bool.two q (by rfl) (by rfl)) (by exact Bool.two q (by kernel_rfl) (by kernel_rfl)) (by exact Bool.two q (by kernel_rfl) (by kernel_rfl)) ?_
 refine HT.next (y:=⟨ch,(acc,listO xs n')::(D,o)::l,r⟩) N (fun b tk=>by exact Bool.two q (by kernel_rfl) (by kernel_rfl)) (.inr hl) hv fun b0 tk0=>?_
 show HT (C0 w B) h₀ none 149 ⟨ch,(it,iterO a (i+1))::(acc,listO xs n')::(D,o)::l,r⟩ _ _ _
 refine HT.val0 N [] (a:=some vb) (by exact Bool.two q (by kernel_rfl) (by kernel_rfl)) ?_
 refine ⟨vb,rfl,?_⟩
 refine HT.val0 N [] (a:=()) (by exact Bool.two q (by kernel_rfl) (by kernel_rfl)) ?_
 rcases ho with ⟨t,rfl⟩ | ⟨t,t2,u,rfl⟩
 ·(
   intro b3 tk3
   refine HTa.val N [5,5] [0,1,2] 3 [] (a:=()) (l:=(it,iterO a (i+1))::(acc,listO xs n')::(D,dictO #[ent w (S [97]) t ((va)),ent w (S [98]) tk3 (vb)] 2)::l) (r:=r) (ch:=ch) (by exact VX.two hvb (fun u=>by kernel_rfl) fun z t=>by kernel_rfl) rfl ?_
   refine eltX N hc fun p=>?_
   intro b4 tk4
   refine HTa.cutN N [] [1,0,2] 3 [] (c:=.call (.builtin "list.append") ⟨[.ref acc,.ref p],[]⟩) (l:=(acc,listO xs n')::(it,iterO a (i+1))::(D,dAB w t va tk3 (vb))::l) (r:=(p,listO #[Value.bool bb.fst,Value.bool bb.snd.fst,Value.bool bb.snd.snd.fst,Value.bool bb.snd.snd.snd] 0)::r) (ch:=ch) (by exact VX.two hvb (fun u=>by kernel_rfl) fun z t=>by kernel_rfl) rfl ?_
   refine HC.append (by rw [sizeLine_eq];lia) fun b6 tk6=>?_
   refine HTa.val N [] [1,0,2] 3 [] (a:=.none) (l:=(it,iterO a (i+1))::(acc,listO (xs.push (Value.ref p)) (n'+1))::(D,dAB w t va tk3 (vb))::l) (r:=(p,listO #[Value.bool bb.fst,Value.bool bb.snd.fst,Value.bool bb.snd.snd.fst,Value.bool bb.snd.snd.snd] 0)::r) (ch:=ch) (by exact VX.two hvb (fun u=>by kernel_rfl) fun z t=>by kernel_rfl) rfl ?_
   exact G _ p _ (.inr ⟨_,_,_,rfl⟩))
 ·(
   intro b3 tk3
   refine HTa.val N [5,5] [0,1,2] 3 [] (a:=()) (l:=(it,iterO a (i+1))::(acc,listO xs n')::(D,dictO #[ent w (S [97]) t ((va)),ent w (S [98]) t2 (vb)] 2)::l) (r:=r) (ch:=ch) (by exact VX.two hvb (fun u=>by kernel_rfl) fun z t=>by kernel_rfl) rfl ?_
   refine eltX N hc fun p=>?_
   intro b4 tk4
   refine HTa.cutN N [] [1,0,2] 3 [] (c:=.call (.builtin "list.append") ⟨[.ref acc,.ref p],[]⟩) (l:=(acc,listO xs n')::(it,iterO a (i+1))::(D,dAB w t va t2 (vb))::l) (r:=(p,listO #[Value.bool bb.fst,Value.bool bb.snd.fst,Value.bool bb.snd.snd.fst,Value.bool bb.snd.snd.snd] 0)::r) (ch:=ch) (by exact VX.two hvb (fun u=>by kernel_rfl) fun z t=>by kernel_rfl) rfl ?_
   refine HC.append (by rw [sizeLine_eq];lia) fun b6 tk6=>?_
   refine HTa.val N [] [1,0,2] 3 [] (a:=.none) (l:=(it,iterO a (i+1))::(acc,listO (xs.push (Value.ref p)) (n'+1))::(D,dAB w t va t2 (vb))::l) (r:=(p,listO #[Value.bool bb.fst,Value.bool bb.snd.fst,Value.bool bb.snd.snd.fst,Value.bool bb.snd.snd.snd] 0)::r) (ch:=ch) (by exact VX.two hvb (fun u=>by kernel_rfl) fun z t=>by kernel_rfl) rfl ?_
   exact G _ p _ (.inr ⟨_,_,_,rfl⟩))
theorem inX {n n':Nat} {its:Array Value} {va:Value} {o:Obj} {bt:Nat→B4} {ads0:List Addr} {bs0:List B4} (hl:(a,listO its n)∈r) (hV:∀ (k:Nat) (vk:Value),its[k]? = some vk→VX q vk) (hn:its.size≤50) (h0:All2 (BoolsAt r) ads0 bs0) (hbs:bs0.length≤9000) (ho:DX w va o) (hc:∀ (k:Nat) (vk:Value),its[k]? = some vk→Cmp4 (C0 w B) h₀ ch r va vk (bt k))
  (G:∀ ads' n2 o' r',Sub r r'→All2 (BoolsAt r') ads' (bs0 ++ (List.range its.size).map bt)→DX w va o'→R (.ok .next) ⟨ch,(acc,listO (refs ads') n2)::(D,o')::l,r'⟩) :
  HC (C0 w B) h₀ none 150 ⟨ch,(it,iterO a 0)::(acc,listO (refs ads0) n')::(D,o)::l,r⟩ (cXS (C0 w B) q 1 it acc D f) R:=by
 refine HC.tree (lv:=149) (w:=0) (by exact Bool.two q (by kernel_rfl) (by kernel_rfl)) (stX (lv:=0) N (.inr rfl) ?_)
 refine ⟨by exact Bool.two q (by kernel_rfl) (by kernel_rfl),?_⟩
 refine HC.listLoop (i:=0) (a:=a) (its:=its) (n:=n) (by exact Bool.two q (by kernel_rfl) (by kernel_rfl)) (by exact Bool.two q (by kernel_rfl) (by kernel_rfl))
  (fun i y=>∃ ads' n2 o' r',y=⟨ch,(acc,listO (refs ads') n2)::(D,o')::l,r'⟩∧Sub r r'∧All2 (BoolsAt r') ads' (bs0 ++ (List.range i).map bt)∧DX w va o') ?_ ?_ ?_ (y:=⟨ch,(acc,listO (refs ads0) n')::(D,o)::l,r⟩) (Nat.zero_le _) ⟨ads0,n',o,r,rfl,Sub.refl _,by simpa using h0,ho⟩
 ·intro i y hZ0
  refine el_EEEEAAA hZ0 fun ads' n2 o' r' hE1 hr vz0 vz1=>?_
  try clear hZ0
  subst hE1
  exact .inr (hr _ hl)
 ·intro y hZ0
  refine el_EEEEAAA hZ0 fun ads' n2 o' r' hE1 hr h ho=>?_
  try clear hZ0
  subst hE1
  show HC _ _ _ _ _ (.compLoop (lcX (C0 w B) q) 1 (.ref it) (.ref acc) (envX (C0 w B) q D f)) _
  rw [esX]
  refine HC.compEnd (gen:=gen2 (lcX (C0 w B) q)) (by exact Bool.two q (by rfl) (by rfl)) (by exact Bool.two q (by kernel_rfl) (by kernel_rfl)) (.inr (hr _ hl)) ?_
  exact G _ _ _ _ hr h ho
 ·intro i y vv hZ0 hvv
  refine el_EEEEAAA hZ0 fun ads' n2 o' r' hE1 hr h ho=>?_
  try clear hZ0
  subst hE1
  have hxs:=h.length
  have hi:i<its.size:=(Array.getElem?_eq_some_iff.mp hvv).1
  rw [List.length_append,List.length_map,List.length_range] at hxs
  refine tw1X N (hr _ hl) hvv (hV _ _ hvv) (by rw [refs_size];lia) ho (Cmp4.mono hr (hc i vv hvv)) fun o2 p n3 ho2=>?_
  refine ⟨rfl,⟨ch,(acc,listO ((refs ads').push (.ref p)) n3)::(D,o2)::l,((p,listO #[.bool (bt i).1,.bool (bt i).2.1,.bool (bt i).2.2.1,.bool (bt i).2.2.2] 0)::r')⟩,⟨ads' ++ [p],n3,o2,((p,listO #[.bool (bt i).1,.bool (bt i).2.1,.bool (bt i).2.2.1,.bool (bt i).2.2.2] 0)::r'),?_,hr.trans Sub.tail,?_,ho2⟩,rfl⟩
  ·rw [refs_push]
  ·rw [List.range_succ,List.map_append,←List.append_assoc]
   exact (h.mono fun vz0 vz1=>BoolsAt.mono Sub.tail).snoc (.head _)
theorem tw0X {i n n' b0 tk0:Nat} {its:Array Value} {va:Value} {o:Obj} {bt:Nat→B4} {ads0:List Addr} {bs0:List B4} {Q:PySem.Fin→Sx→Prop} (hl:(a,listO its n)∈r) (hV:∀ (k:Nat) (vk:Value),its[k]? = some vk→VX q vk) (hva:VX q va) (hn:its.size≤50) (h0:All2 (BoolsAt r) ads0 bs0) (hbs:bs0.length≤9000) (ho:DX0 w i o) (hc:∀ (k:Nat) (vk:Value),its[k]? = some vk→Cmp4 (C0 w B) h₀ ch r va vk (bt k))
  (G:∀ ads' n2 o' r',Sub r r'→All2 (BoolsAt r') ads' (bs0 ++ (List.range its.size).map bt)→DX0 w (i+1) o'→Q (.again (cX (C0 w B) q 0 it acc D f)) ⟨ch,(it,iterO a (i+1))::(acc,listO (refs ads') n2)::(D,o')::(fX f q,cellR a)::l,r'⟩) :
  HT (C0 w B) h₀ none 160 ⟨ch,(it,iterO a (i+1))::(acc,listO (refs ads0) n')::(D,o)::(fX f q,cellR a)::l,r⟩ ((go (C0 w B) none 160 [1] (denZ (cX (C0 w B) q 0 it acc D f)) ⟨(it,iterO a i)::(acc,listO (refs ads0) n')::(D,o)::(fX f q,cellR a)::l,r,b0,tk0,ch⟩).kont (.ok (.ret va))) Q (fun vz0 vz1=>False):=by
 refine HT.reads (r:=(a,listO its n)::r) (Sub.cons hl (Sub.refl _)) ?_
 have key:∀ {b:Nat} {o1:Obj} {l':Memo} {RR:Result→Sx→Prop},DX w va o1→(∀ ads' n2 o' r',Sub r r'→All2 (BoolsAt r') ads' (bs0 ++ (List.range its.size).map bt)→DX w va o'→RR (.ok .next) ⟨ch,(acc,listO (refs ads') n2)::(D,o')::l',r'⟩) →
   HC (C0 w B) h₀ none 160 ⟨ch,(b,iterO a 0)::(acc,listO (refs ads0) n')::(D,o1)::l',(a,listO its n)::r⟩ (cXS (C0 w B) q 1 b acc D f) RR :=
  fun {b o1 l' RR} ho1 hk=>HC.less (HC.reads (r:=r) Sub.tail (inX N hl hV hn h0 hbs ho1 hc hk)) (by decide)
 rcases ho with ⟨rfl,rfl⟩ | ⟨_,v',⟨t,rfl⟩ | ⟨t,t2,p',rfl⟩⟩
 ·intro b tk
  (
   refine HTa.cutN N [5,5,7,2,2,1,2,1] [0,2,3,1,4] 5 [] (c:=cXS (C0 w B) q 1 b acc D f) (l:=(b,{ cls:=.type "list_iterator",data:=.fields #[.ref a,.int 0 0] })::(acc,listO (refs ads0) n')::(D,dictO #[ent w (S [97]) tk (va)] 1)::(it,iterO a (0+1))::(fX f q,cellR a)::l) (r:=(a,listO its n)::r) (ch:=ch) (by exact VX.two hva (fun u=>by exact Hab.two B (by kernel_rfl) (by kernel_rfl)) fun z t=>by exact Hab.two B (by kernel_rfl) (by kernel_rfl)) rfl ?_
   refine key (.inl ⟨_,rfl⟩) fun ads' n2 o' r' hr hx ho'=>?_
   intro b tk
   refine HTa.val N [] [2,0,1,3] 4 [] (a:=PySem.Fin.again (cX (C0 w B) q 0 it acc D f)) (l:=(it,iterO a (0+1))::(acc,listO (refs ads') n2)::(D,o')::(fX f q,cellR a)::l) (r:=r') (ch:=ch) (by exact VX.two hva (fun u=>by exact Hab.two B (by kernel_rfl) (by kernel_rfl)) fun z t=>by exact Hab.two B (by kernel_rfl) (by kernel_rfl)) rfl ?_
   exact G _ _ _ _ hr hx (.inr ⟨Nat.succ_pos _,_,ho'⟩))
 ·intro b tk
  (
   refine HTa.cutN N [5,5,7,2,2,1,2,1] [0,2,3,1,4] 5 [] (c:=cXS (C0 w B) q 1 b acc D f) (l:=(b,{ cls:=.type "list_iterator",data:=.fields #[.ref a,.int 0 0] })::(acc,listO (refs ads0) n')::(D,dictO #[ent w (S [97]) t (va)] 1)::(it,iterO a (i+1))::(fX f q,cellR a)::l) (r:=(a,listO its n)::r) (ch:=ch) (by exact VX.two hva (fun u=>by exact Hab.two B (by kernel_rfl) (by kernel_rfl)) fun z t=>by exact Hab.two B (by kernel_rfl) (by kernel_rfl)) rfl ?_
   refine key (.inl ⟨_,rfl⟩) fun ads' n2 o' r' hr hx ho'=>?_
   intro b tk
   refine HTa.val N [] [2,0,1,3] 4 [] (a:=PySem.Fin.again (cX (C0 w B) q 0 it acc D f)) (l:=(it,iterO a (i+1))::(acc,listO (refs ads') n2)::(D,o')::(fX f q,cellR a)::l) (r:=r') (ch:=ch) (by exact VX.two hva (fun u=>by exact Hab.two B (by kernel_rfl) (by kernel_rfl)) fun z t=>by exact Hab.two B (by kernel_rfl) (by kernel_rfl)) rfl ?_
   exact G _ _ _ _ hr hx (.inr ⟨Nat.succ_pos _,_,ho'⟩))
 ·intro b tk
  (
   refine HTa.cutN N [5,5,7,2,2,1,2,1] [0,2,3,1,4] 5 [] (c:=cXS (C0 w B) q 1 b acc D f) (l:=(b,{ cls:=.type "list_iterator",data:=.fields #[.ref a,.int 0 0] })::(acc,listO (refs ads0) n')::(D,dictO #[ent w (S [97]) t (va),ent w (S [98]) t2 ((p'))] 2)::(it,iterO a (i+1))::(fX f q,cellR a)::l) (r:=(a,listO its n)::r) (ch:=ch) (by exact VX.two hva (fun u=>by exact Hab.two B (by kernel_rfl) (by kernel_rfl)) fun z t=>by exact Hab.two B (by kernel_rfl) (by kernel_rfl)) rfl ?_
   refine key (.inr ⟨_,_,_,rfl⟩) fun ads' n2 o' r' hr hx ho'=>?_
   intro b tk
   refine HTa.val N [] [2,0,1,3] 4 [] (a:=PySem.Fin.again (cX (C0 w B) q 0 it acc D f)) (l:=(it,iterO a (i+1))::(acc,listO (refs ads') n2)::(D,o')::(fX f q,cellR a)::l) (r:=r') (ch:=ch) (by exact VX.two hva (fun u=>by exact Hab.two B (by kernel_rfl) (by kernel_rfl)) fun z t=>by exact Hab.two B (by kernel_rfl) (by kernel_rfl)) rfl ?_
   exact G _ _ _ _ hr hx (.inr ⟨Nat.succ_pos _,_,ho'⟩))
theorem outX {n:Nat} {its:Array Value} {bt:Nat→Nat→B4} (hl:(a,listO its n)∈r) (hV:∀ (k:Nat) (vk:Value),its[k]? = some vk→VX q vk) (hn:its.size≤50) (hc:∀ (i k:Nat) (vi vk:Value),its[i]? = some vi→its[k]? = some vk→Cmp4 (C0 w B) h₀ ch r vi vk (bt i k)) (h1:its.size≠0)
  (G:∀ ads' n2 v o r',Sub r r'→All2 (BoolsAt r') ads' ((List.range its.size).flatMap fun i=>(List.range its.size).map (bt i))→DX w v o→R (.ok .next) ⟨ch,(acc,listO (refs ads') n2)::(D,o)::(fX f q,cellR a)::l,r'⟩) :
  HC (C0 w B) h₀ none 161 ⟨ch,(it,iterO a 0)::(acc,listO #[] 0)::(D,dictO #[] 0)::(fX f q,cellR a)::l,r⟩ (cXS (C0 w B) q 0 it acc D f) R:=by
 refine HC.tree (lv:=160) (w:=0) (by exact Bool.two q (by kernel_rfl) (by kernel_rfl)) (HT.less (stX (lv:=0) N (.inl rfl) ?_) (by decide))
 refine ⟨by exact Bool.two q (by kernel_rfl) (by kernel_rfl),?_⟩
 refine HC.compList N (a:=a) (its:=its) (n:=n) (by exact Bool.two q (by kernel_rfl) (by kernel_rfl)) (by exact Bool.two q (by kernel_rfl) (by kernel_rfl)) (fun i y b tk=>by exact Bool.two q (by kernel_rfl) (by kernel_rfl))
  (fun i y=>∃ ads' n2 o' r',y=⟨ch,(acc,listO (refs ads') n2)::(D,o')::(fX f q,cellR a)::l,r'⟩∧Sub r r'∧All2 (BoolsAt r') ads' ((List.range i).flatMap fun i=>(List.range its.size).map (bt i))∧DX0 w i o') ?_ ?_ ?_ (y:=⟨ch,(acc,listO #[] 0)::(D,dictO #[] 0)::(fX f q,cellR a)::l,r⟩) ⟨[],0,_,r,rfl,Sub.refl _,.nil,.inl ⟨rfl,rfl⟩⟩
 ·intro i y hZ0
  refine el_EEEEAAA hZ0 fun ads' n2 o' r' hE1 hr vz0 vz1=>?_
  try clear hZ0
  subst hE1
  exact .inr (hr _ hl)
 ·intro y hZ0
  refine el_EEEEAAA hZ0 fun ads' n2 o' r' hE1 hr h ho=>?_
  try clear hZ0
  subst hE1
  rcases ho with ⟨ho,_⟩ | ⟨_,v,ho⟩
  ·exact absurd ho h1
  show HC _ _ _ _ _ (.compLoop (lcX (C0 w B) q) 0 (.ref it) (.ref acc) (envX (C0 w B) q D f)) _
  rw [esX]
  refine HC.compEnd (gen:=gen1 (lcX (C0 w B) q)) (by exact Bool.two q (by rfl) (by rfl)) (by exact Bool.two q (by kernel_rfl) (by kernel_rfl)) (.inr (hr _ hl)) ?_
  exact G _ _ _ _ _ hr h ho
 ·intro i y vv hZ0 hvv b0 tk0
  refine el_EEEEAAA hZ0 fun ads' n2 o' r' hE1 hr h ho=>?_
  try clear hZ0
  subst hE1
  have hi:i<its.size:=(Array.getElem?_eq_some_iff.mp hvv).1
  have hlen:((List.range i).flatMap fun i=>(List.range its.size).map (bt i)).length≤9000:=by
   have h1:∀ l:List Nat,(l.flatMap fun i=>(List.range its.size).map (bt i)).length≤l.length * 50:=by
    intro l
    induction l with
    | nil=>simp
    | cons v l ih =>
     rw [List.flatMap_cons,List.length_append,List.length_cons,List.length_map,List.length_range]
     lia
   have h2:=h1 (List.range i)
   rw [List.length_range] at h2
   lia
  refine tw0X N (hr _ hl) hV (hV _ _ hvv) hn h hlen ho (fun k vk hk=>Cmp4.mono hr (hc i k vv vk hvv hk)) fun ads3 n3 o3 r3 hr3 h3 ho3=>?_
  refine ⟨rfl,⟨ch,(acc,listO (refs ads3) n3)::(D,o3)::(fX f q,cellR a)::l,r3⟩,⟨_,_,_,_,rfl,hr.trans hr3,?_,ho3⟩,rfl⟩
  rw [List.range_succ,List.flatMap_append]
  simpa using h3
end
noncomputable def dB (b:B4):PyData:=.list [.bool b.1,.bool b.2.1,.bool b.2.2.1,.bool b.2.2.2]
noncomputable def dBs (bs:List B4):PyData:=.list (bs.map dB)
theorem lay_dB (b:B4):PyData.canLay0 (dB b)=true:=by simp [dB,PyData.canLay0,PyData.canLayAll0]
theorem lay_dBs (bs:List B4):PyData.canLay0 (dBs bs)=true:=by
 rw [dBs,PyData.canLay0]
 exact lay_all fun d hd=>by obtain ⟨p,_,rfl⟩:=List.mem_map.mp hd;exact lay_dB p
theorem depth_dBs (bs:List B4):(dBs bs).depth≤2:=by
 rw [dBs,PyData.depth]
 exact Nat.succ_le_succ (depth_all fun d hd=>by obtain ⟨p,_,rfl⟩:=List.mem_map.mp hd;simp [dB,PyData.depth,PyData.depthAll])
noncomputable abbrev kvS (q:KV):List Nat×List Nat:=([kc q.1],vS q.2)
noncomputable def btP (T:List KV) (i k:Nat):B4 :=
 let c:=cmpP (kvS (T[i]?.getD (0,0))) (kvS (T[k]?.getD (0,0)))
 (decide (c≤0),decide (c=0),decide (c ≥ 0),decide (c > 0))
noncomputable def btQ (js:List Nat) (i k:Nat):B4 :=
 let a:Int:=(js[i]?.getD 0:Nat)
 let b:Int:=(js[k]?.getD 0:Nat)
 (decide (a≤b),decide (a=b),decide (a ≥ b),decide (a > b))
@[elab_as_elim] theorem DX.two {w:World} {v:Value} {P:Obj→Prop} {o:Obj} (h:DX w v o) (a:∀ t,At P (dA w t v)) (b:∀ t t2 u,At P (dAB w t v t2 u)):P o:=by
 rcases h with ⟨t,rfl⟩ | ⟨t,t2,u,rfl⟩
 ·exact a t
 ·exact b t t2 u
noncomputable def nm2 (o:Obj) (j:Nat):List Nat:=match o.data with
 | .dict es _=>es.toList.flatMap fun vz0=>[j,j]
 | _=>[]
section
variable {w:World} {B:Hab} {h₀:Heap} (N:NatOk (C0 w B) h₀) {l r:Memo} {ch:Ch}
include N
theorem int_le {a b:Int} {t u:Tok} {Q:Value→Sx→Prop} (G:Q (.bool (decide (a≤b))) ⟨ch,l,r⟩):HT (C0 w B) h₀ none 149 ⟨ch,l,r⟩ (compareOp .LtE (.int a t) (.int b u)) Q (fun vz0 vz1=>False):=by
 (
  refine HT.val0 N [1] (a:=.bool (decide (a≤b))) (by exact Hab.two B (by kernel_rfl) (by kernel_rfl)) ?_
  exact G)
theorem int_eq {a b:Int} {t u:Tok} {Q:Value→Sx→Prop} (G:Q (.bool (decide (a=b))) ⟨ch,l,r⟩):HT (C0 w B) h₀ none 149 ⟨ch,l,r⟩ (compareOp .Eq (.int a t) (.int b u)) Q (fun vz0 vz1=>False):=by
 (
  refine HT.val0 N [1] (a:=.bool (decide (a=b))) (by exact Hab.two B (by kernel_rfl) (by kernel_rfl)) ?_
  exact G)
theorem int_ge {a b:Int} {t u:Tok} {Q:Value→Sx→Prop} (G:Q (.bool (decide (a ≥ b))) ⟨ch,l,r⟩):HT (C0 w B) h₀ none 149 ⟨ch,l,r⟩ (compareOp .GtE (.int a t) (.int b u)) Q (fun vz0 vz1=>False):=by
 (
  refine HT.val0 N [1] (a:=.bool (decide (a ≥ b))) (by exact Hab.two B (by kernel_rfl) (by kernel_rfl)) ?_
  exact G)
theorem int_gt {a b:Int} {t u:Tok} {Q:Value→Sx→Prop} (G:Q (.bool (decide (a > b))) ⟨ch,l,r⟩):HT (C0 w B) h₀ none 149 ⟨ch,l,r⟩ (compareOp .Gt (.int a t) (.int b u)) Q (fun vz0 vz1=>False):=by
 (
  refine HT.val0 N [1] (a:=.bool (decide (a > b))) (by exact Hab.two B (by kernel_rfl) (by kernel_rfl)) ?_
  exact G)
theorem cmp4Q {xs:Array Value} {js:List Nat} (hx:All2 IsRk xs.toList js):∀ (i k:Nat) (vi vk:Value),xs[i]? = some vi→xs[k]? = some vk→Cmp4 (C0 w B) h₀ ch r vi vk (btQ js i k):=by
 intro i k vi vk hi hk l' r' Q hr
 rw [←Array.getElem?_toList] at hi hk
 refine el_EAE (hx.get (a:=vi) hi) fun j hj t hE3=>?_
 subst hE3
 refine el_EAE (hx.get (a:=vk) hk) fun j2 hj2 t2 hE3=>?_
 subst hE3
 have e1:js[i]?.getD 0=j:=by rw [hj];rfl
 have e2:js[k]?.getD 0=j2:=by rw [hj2];rfl
 refine ⟨fun q=>int_le N ?_,fun q=>int_eq N ?_,fun q=>int_ge N ?_,fun q=>int_gt N ?_⟩
 all_goals
  unfold btQ at q
  rw [e1,e2] at q
  exact q
theorem cmp4P {c K:Nat} {ks ads:List Addr} {T:List KV} (hA:KAt (C0 w B) w r c K) (hcm:(c,cellO (some (.ref 155)))∈r) (hk:KeysAt r K ks ads) (hp:All2 (PairAt r) ads T) (hT:∀ q∈T,q.2<5) :
  ∀ (i k:Nat) (vi vk:Value),(refs ks)[i]? = some vi→(refs ks)[k]? = some vk→Cmp4 (C0 w B) h₀ ch r vi vk (btP T i k):=by
 intro i k vi vk hi hkk l' r' Q hr
 refine el_EA (refs_get hi) fun o ho hE2=>?_
 subst hE2
 refine el_EA (refs_get hkk) fun o2 ho2 hE2=>?_
 subst hE2
 refine el_EAE (hk.get (a:=o) ho) fun p hp1 d hd=>?_
 refine el_EAE (hk.get (a:=o2) ho2) fun p2 hp2 d2 hd2=>?_
 refine el_EAEE (hp.get (a:=p) hp1) fun q1 hq1 t1 t2 hm1=>?_
 refine el_EAEE (hp.get (a:=p2) hp2) fun q2 hq2 u1 u2 hm2=>?_
 have f1:=hT q1 (List.mem_of_getElem? hq1)
 have f2:=hT q2 (List.mem_of_getElem? hq2)
 have e1:T[i]?.getD (0,0)=q1:=by rw [hq1];rfl
 have e2:T[k]?.getD (0,0)=q2:=by rw [hq2];rfl
 have m1:(p,tupO #[.str (S [kc q1.1]) t1,.str (S (vS q1.2)) t2])∈r':=by rw [←vV_str f1];exact hr _ hm1
 have m2:(p2,tupO #[.str (S [kc q2.1]) u1,.str (S (vS q2.2)) u2])∈r':=by rw [←vV_str f2];exact hr _ hm2
 refine ⟨fun q=>HT.less (k_rich N .k6 ?_ (hA.mono hr) (hr _ hcm) (hr _ hd) (hr _ hd2) m1 m2) (by decide),fun q=>HT.less (k_rich N .k5 ?_ (hA.mono hr) (hr _ hcm) (hr _ hd) (hr _ hd2) m1 m2) (by decide),fun q=>HT.less (k_rich N .k7 ?_ (hA.mono hr) (hr _ hcm) (hr _ hd) (hr _ hd2) m1 m2) (by decide),fun q=>HT.less (k_rich N .k4 ?_ (hA.mono hr) (hr _ hcm) (hr _ hd) (hr _ hd2) m1 m2) (by decide)⟩
 all_goals
  unfold btP at q
  rw [e1,e2] at q
  exact q
omit N in
theorem bools_reads {C:Cfg} {h:Heap} {x:Sx} {bb tk:Nat} (D:Rep C h₀ [] ⟨x.l,x.r,bb,tk,x.ch⟩ h) {a:Addr} {ads:List Addr} {n:Nat} {bs:List B4} (hm:(a,listO (refs ads) n)∈x.r) (hp:All2 (BoolsAt x.r) ads bs):∃ as,Reads h (.ref a) (dBs bs) as:=by
 refine el_E (all_reads (h:=h) (d:=dB) (P:=BoolsAt x.r) (fun a k hk=>⟨_,.list (D.memR _ hk) rfl rfl (.cons (.bool _) (.cons (.bool _) (.cons (.bool _) (.cons (.bool _) .nil))))⟩) hp) fun as r=>?_
 exact ⟨_,.list (D.memR _ hm) rfl rfl r⟩
omit N in
theorem bools_ne {C:Cfg} {a b n m:Nat} {as bs:List Addr} {bl:List B4} {Q:Value→Sx→Prop} (ha:(a,listO (refs as) n)∈r) (hb:(b,listO (refs bs) m)∈r) (h1:All2 (BoolsAt r) as bl) (h2:All2 (BoolsAt r) bs bl) (G:Q (.bool false) ⟨ch,l,r⟩) :
  HT C h₀ none 300 ⟨ch,l,r⟩ (compareOp .NotEq (.ref a) (.ref b)) Q (fun vz0 vz1=>False):=by
 refine HT.neData (da:=dBs bl) (db:=dBs bl) (fun bb tk h D=>bools_reads D ha h1) (fun bb tk h D=>bools_reads D hb h2) (lay_dBs _) (lay_dBs _) (Nat.le_trans (depth_dBs _) (by decide)) ?_
 rw [PySem.SeqAt.eqv_refl _ (lay_dBs _)]
 exact G
theorem law_s10 {f sc ls rd t1 t2 t3 t4 t5 tb kl ra c K e:Nat} {ks ads:List Addr} {vh:Value} {Q:Flow→Sx→Prop} {T:List KV} {js:List Nat} (hkl:(kl,listO (refs ks) e)∈r) (hA:KAt (C0 w B) w r c K) (hcm:(c,cellO (some (.ref 155)))∈r) (hk:KeysAt r K ks ads) (hp:All2 (PairAt r) ads T) (hT:∀ q∈T,q.2<5)
  (hra:RanksAt r ra js) (hlen:js.length=T.length) (hn:T.length≤50) (h0:T.length≠0) (hbt:((List.range T.length).flatMap fun i=>(List.range T.length).map (btP T i))=(List.range T.length).flatMap fun i=>(List.range T.length).map (btQ js i))
  (G:∀ r',Sub r r'→Q .next ⟨ch,(f,frC w t1 sc t2 ls t3 vh t4 rd t5 tb)::(f+4,cellR kl)::(f+5,cellR ra)::l,r'⟩) :
  HT (C0 w B) h₀ none 300 ⟨ch,(f,frC w t1 sc t2 ls t3 vh t4 rd t5 tb)::(f+4,cellR kl)::(f+5,cellR ra)::l,r⟩ (execsZ [lB (C0 w B) 10] (envLaw (C0 w B) f)) Q (fun vz0 vz1=>False):=by
 have e1:IsIf (lB (C0 w B) 10) []:=by kernel_rfl
 have e2:IsCmp (ifTest (lB (C0 w B) 10)) .NotEq:=by kernel_rfl
 obtain ⟨xs,m,hxm,hxs⟩:=hra
 have hkn:(refs ks).size=T.length:=by rw [refs_size,hk.length,hp.length]
 have hxn:xs.size=T.length:=by rw [←hlen,←hxs.length,Array.length_toList]
 have keyP:∀ {b0:Nat} {l':Memo} {RR:Result→Sx→Prop},(∀ ads' n2 v o r',Sub r r'→All2 (BoolsAt r') ads' ((List.range T.length).flatMap fun i=>(List.range T.length).map (btP T i))→DX w v o→RR (.ok .next) ⟨ch,(b0+1,listO (refs ads') n2)::(b0+2,o)::(f+4,cellR kl)::l',r'⟩)→HC (C0 w B) h₀ none 300 ⟨ch,(b0,iterO kl 0)::(b0+1,listO #[] 0)::(b0+2,dictO #[] 0)::(f+4,cellR kl)::l',(kl,listO (refs ks) e)::r⟩ (cPS (C0 w B) 0 b0 (b0+1) (b0+2) f) RR:=by
  intro b0 l' RR hh
  refine HC.less (HC.reads (r:=r) Sub.tail (outX (q:=false) N hkl (fun k vk hvk=>?_) (by lia) (cmp4P N hA hcm hk hp hT) (by lia) fun ads' n2 v o r' hr h ho=>?_)) (by decide)
  ·refine el_EA (refs_get hvk) fun u vz0 hE2=>?_
   subst hE2
   exact .ref _
  ·rw [hkn] at h
   exact hh _ _ _ _ _ hr h ho
 have keyQ:∀ {b0:Nat} {l' rr:Memo} {RR:Result→Sx→Prop},Sub r rr→(∀ ads' n2 v o r',Sub rr r'→All2 (BoolsAt r') ads' ((List.range T.length).flatMap fun i=>(List.range T.length).map (btP T i))→DX w v o→RR (.ok .next) ⟨ch,(b0+1,listO (refs ads') n2)::(b0+2,o)::(f+5,cellR ra)::l',r'⟩)→HC (C0 w B) h₀ none 300 ⟨ch,(b0,iterO ra 0)::(b0+1,listO #[] 0)::(b0+2,dictO #[] 0)::(f+5,cellR ra)::l',rr⟩ (cQS (C0 w B) 0 b0 (b0+1) (b0+2) f) RR:=by
  intro b0 l' rr RR hrr hh
  refine HC.less (outX (q:=true) N (hrr _ hxm) (fun k vk hvk=>?_) (by lia) (cmp4Q N hxs) (by lia) fun ads' n2 v o r' hr h ho=>?_) (by decide)
  ·rw [←Array.getElem?_toList] at hvk
   refine el_EAE (hxs.get (a:=vk) hvk) fun j vz0 t hE3=>?_
   subst hE3
   exact .int _ _
  ·rw [hxn,←hbt] at h
   exact hh _ _ _ _ _ hr h ho
 refine HT.ifS' e1 (HT.test1' e2 (by kernel_rfl) ?_)
 refine HT.reads (r:=(kl,listO (refs ks) e)::r) (Sub.cons hkl (Sub.refl _)) ?_
 (
  intro b tk
  refine HTa.cutN N [3,2,2,1,2,1] [2,1,0,4,3,5] 6 [] (c:=cPS (C0 w B) 0 b (b+1) (b+2) f) (l:=(b,{ cls:=.type "list_iterator",data:=.fields #[.ref kl,.int 0 0] })::((b+1),listO #[] 0)::((b+2),dictO #[] 0)::(f+4,cellR kl)::(f,frC w t1 sc t2 ls t3 vh t4 rd t5 tb)::(f+5,cellR ra)::l) (r:=(kl,listO (refs ks) e)::r) (ch:=ch) (by exact Hab.two B (by kernel_rfl) (by kernel_rfl)) rfl ?_
  refine keyP fun ads1 n1 v1 o1 r1 hr1 h1 ho1=>?_
  intro b2 tk2
  refine HTa.val N (3::3::nm2 o1 3) [3,2,4] 5 [0] (a:=.ref (b+1)) (l:=(f,frC w t1 sc t2 ls t3 vh t4 rd t5 tb)::(f+4,cellR kl)::(f+5,cellR ra)::l) (r:=(b+1,listO (refs ads1) n1)::r1) (ch:=ch) (by exact DX.two ho1 (fun vz0=>by exact Hab.two B (by kernel_rfl) (by kernel_rfl)) fun vz0 vz1 vz2=>by exact Hab.two B (by kernel_rfl) (by kernel_rfl)) rfl ?_
  refine HT.reads (r:=(ra,listO xs m)::(b+1,listO (refs ads1) n1)::r1) (Sub.cons (.tail _ (hr1 _ hxm)) (Sub.refl _)) ?_
  intro b3 tk3
  refine HTa.cutN N [5,2,2,1,2,1] [2,1,0,5,3,4] 6 [] (c:=cQS (C0 w B) 0 b3 (b3+1) (b3+2) f) (l:=(b3,{ cls:=.type "list_iterator",data:=.fields #[.ref ra,.int 0 0] })::((b3+1),listO #[] 0)::((b3+2),dictO #[] 0)::(f+5,cellR ra)::(f,frC w t1 sc t2 ls t3 vh t4 rd t5 tb)::(f+4,cellR kl)::l) (r:=(ra,listO xs m)::(b+1,listO (refs ads1) n1)::r1) (ch:=ch) (by exact Hab.two B (by kernel_rfl) (by kernel_rfl)) rfl ?_
  refine keyQ (hr1.trans (Sub.tail.trans Sub.tail)) fun ads2 n2 v2 o2 r2 hr2 h2 ho2=>?_
  intro b4' tk4
  refine HTa.val N (3::3::nm2 o2 3) [3,4,2] 5 [0] (a:=.ref (b3+1)) (l:=(f,frC w t1 sc t2 ls t3 vh t4 rd t5 tb)::(f+4,cellR kl)::(f+5,cellR ra)::l) (r:=(b3+1,listO (refs ads2) n2)::r2) (ch:=ch) (by exact DX.two ho2 (fun vz0=>by exact Hab.two B (by kernel_rfl) (by kernel_rfl)) fun vz0 vz1 vz2=>by exact Hab.two B (by kernel_rfl) (by kernel_rfl)) rfl ?_
  refine bools_ne (as:=ads1) (bs:=ads2) (.tail _ (hr2 _ (.tail _ (.head _)))) (.head _) (h1.mono fun vz0 vz1=>BoolsAt.mono ((Sub.tail.trans Sub.tail).trans (hr2.trans Sub.tail))) (h2.mono fun vz0 vz1=>BoolsAt.mono Sub.tail) ?_
  refine ⟨_,rfl,?_⟩
  exact HT.execs_nil (G _ (hr1.trans (Sub.tail.trans (Sub.tail.trans (hr2.trans Sub.tail))))))
end
theorem HT.forL {C:Cfg} {h₀:Heap} {hd:Option Value} {lv:Nat} {E:Value→Sx→Prop} {body:Value→PUnit→Sem (ForInStep PUnit)} {Q:PUnit→Sx→Prop} (I:Nat→Sx→Prop):∀ (vs:List Value) (i:Nat) (x:Sx),I i x →
  (∀ j v y,vs[j]? = some v→I (i+j) y→HT C h₀ hd lv y (body v ⟨⟩) (fun r z=>r = .yield ⟨⟩∧I (i+j+1) z) E) →
  (∀ y,I (i+vs.length) y→Q ⟨⟩ y)→HT C h₀ hd lv x (forIn vs PUnit.unit body) Q E
 | [],i,x,hI,_,done=>by
  rw [List.forIn_nil]
  exact HT.pure' (done x (by simpa using hI))
 | v::vs,i,x,hI,step,done=>by
  rw [List.forIn_cons]
  refine HT.bind (HT.mono (step 0 v x (by simp) hI) (fun r y q=>?_) fun vz0 vz1 e=>e)
  refine el_A q fun hE0 hI'=>?_
  try clear q
  subst hE0
  show HT C h₀ hd lv y (forIn vs PUnit.unit body) Q E
  refine HT.forL I vs (i+1) y hI' (fun j u y' hy hJ=>?_) fun y' hd=>done y' ?_
  ·have e:i+(j+1)=i+1+j:=by lia
   have h1:=step (j+1) u y' (by simpa using hy) (by rw [e];exact hJ)
   rw [e] at h1
   exact h1
  ·have e:i+(v::vs).length=i+1+vs.length:=by rw [List.length_cons];lia
   rw [e]
   exact hd
noncomputable abbrev kwKey (K:Nat):List (Str×Value):=[(Str.ofString "key",.ref K)]
section
variable {w:World} {B:Hab} {h₀:Heap} (N:NatOk (C0 w B) h₀) {l r:Memo} {ch:Ch} {c K D n:Nat} {ads:List Addr} {T:List KV}
include N
theorem sort_key {R:Result→Sx→Prop} {ps:Array Nat} (hA:KAt (C0 w B) w r c K) (hcm:(c,cellO (some (.ref 155)))∈r) (hT:All2 (PairAt r) ads T) (hn:T.length≤50) (hf:∀ q∈T,q.2<5)
  (hp:T.length<2 ∨ askB (fun i j=>decide (cmpP (kvS (T.getD i (0,0))) (kvS (T.getD j (0,0)))<0)) T.length (kas_sort T.length)=some ps) (hps:2≤T.length→∀ i∈ps.toList,i<T.length)
  (G:∀ n' r' out,Sub r r'→(T.length<2→out=ads)→(2≤T.length→out=ps.toList.map fun i=>ads.getD i 0)→R (.ok (.ret .none)) ⟨ch,(D,listO (refs out) n')::l,r'⟩) :
  HC (C0 w B) h₀ none 101 ⟨ch,(D,listO (refs ads) n)::l,r⟩ (.call (.builtin "list.sort") ⟨[.ref D],kwKey K⟩) R:=by
 have hlen:=hT.length
 refine HC.bodyS slot_list_sort entry_list_sort (ksk_l1 _ _) (fun g d os b tk h D=>⟨_,D.mem _ (.head _),rfl⟩) ?_
 rw [ksk_t1]
 unfold ksk_tree
 refine HT.bind (HT.items (.inl (.head _)) ?_)
 refine HT.bind (HT.update1 (f:=fun vz0=>#[]) (by rw [refs_size];lia) (by simp) fun n1=>?_)
 refine HT.bind (HT.epoch (.inl (.head _)) ?_)
 refine HT.bind (HT.newTupleL (by rw [Array.length_toList,refs_size];lia) fun p1=>?_)
 refine HT.bind (HT.newListL (by simp) fun p2=>?_)
 refine HT.holding ?_
 refine HT.choose (il:=[0,2]) (k:=3) (ir:=[]) rfl ?_
 show HT _ _ _ _ ⟨ch,(p2,listO (refs []) 0)::(D,listO #[] n1)::l,r⟩ (ksk_rest D (.ref K) false (refs ads) n1 (.ref p2)) _ _
 unfold ksk_rest
 refine HT.bindV0 N [] (a:=()) (by kernel_rfl) ?_
 refine HT.bind (HT.ofEq (t':=forIn (ads.map Value.ref) PUnit.unit _) (List.forIn_toArray _ _ _) ?_)
 refine HT.forL (fun j y=>∃ ks e r',y=⟨ch,(p2,listO (refs ks) e)::(D,listO #[] n1)::l,r'⟩∧Sub r r'∧KeysAt r' K ks (ads.take j)) _ 0 _ ⟨[],0,r,rfl,Sub.refl _,.nil⟩ ?_ ?_
 ·intro j v y hv hZ0
  refine el_EEEAA hZ0 fun ks e r' hE1 hr hks=>?_
  try clear hZ0
  subst hE1
  have hks1:=hks.length
  rw [List.length_take] at hks1
  rw [List.getElem?_map] at hv
  refine el_EA (Option.map_eq_some_iff.mp hv) fun a ha hE2=>?_
  subst hE2
  refine HT.bind ?_
  refine HT.cut0 N [] (c:=.call (.ref K) ⟨[.ref a],[]⟩) (by kernel_rfl) fun b1 tk1=>?_
  refine HC.less (inst_new N (hA.mono hr) fun o d=>?_) (by decide)
  refine HT.val0 N [] (a:=Except.ok (Value.ref o)) (by kernel_rfl) ?_
  refine HT.bind (HT.update1 (f:=fun xs=>xs.push (.ref o)) (by rw [refs_size];lia) (by rw [Array.size_push,refs_size];lia) fun e'=>?_)
  refine HT.pure' ⟨rfl,ks ++ [o],e',_,by rw [refs_push],hr.trans Sub.tail,?_⟩
  rw [Nat.zero_add,take_succ_get ha]
  rw [Nat.zero_add] at hks
  exact (KeysAt.mono Sub.tail hks).snoc ⟨d,.head _⟩
 ·intro y hZ0
  refine el_EEEAA hZ0 fun ks e r' hE1 hr hks=>?_
  try clear hZ0
  subst hE1
  rw [Nat.zero_add,List.length_map,List.take_length] at hks
  have hks1:=hks.length
  refine HT.bind (HT.items (.inl (.head _)) ?_)
  unfold ksk_end
  have tail:∀ {st:SortSt} {out:List Addr},(arrOf st).map (·.2)=refs out→out.length≤1000000→failedOf st=none→(T.length<2→out=ads)→(2≤T.length→out=ps.toList.map fun i=>ads.getD i 0)→HT (C0 w B) h₀ none 100 ⟨ch,(p2,listO (refs ks) e)::(D,listO #[] n1)::l,r'⟩ (ksk_tail D false n1 (.ref p2) st) (finR (C0 w B) h₀ none (100+1) R) (fun e x'=>R (.error e) x'):=by
   intro st out h1 hz h2 g1 g2
   unfold ksk_tail
   dsimp only
   rw [h1,h2]
   refine HT.bind (HT.update1 (f:=fun vz0=>#[]) (by rw [refs_size];lia) (by simp) fun n3=>?_)
   refine HT.bind (HT.lib fun A g d os b tk h K' D'=>wpAny_letGo ⟨_,⟨b,tk,h,rfl,D'⟩,?_⟩)
   refine HT.bind (HT.epoch (.inl (.tail _ (.head _))) ?_)
   refine HT.choose (il:=[1]) (k:=2) (ir:=[]) rfl ?_
   show HT _ _ _ _ ⟨ch,(D,listO #[] n1)::l,r'⟩ _ _ _
   refine HT.bind (HT.update1 (f:=fun vz0=>refs out) (by simp) (by rw [refs_size];exact hz) fun n2=>?_)
   simp only [bne_self_eq_false,Bool.false_eq_true,if_false]
   exact HT.pure' (G n2 r' out hr g1 g2)
  have hsz:(refs ads).size=ads.length:=refs_size _
  dsimp only
  simp only [Bool.false_eq_true,if_false]
  rcases (by lia:T.length<2 ∨ 2≤T.length) with h2 | h2
  ·rw [if_pos (by rw [hsz];lia),if_pos (by rw [hsz];lia)]
   refine HT.bind (HT.pure' ?_)
   rw [StateT.run_pure]
   refine HT.bind (HT.pure' ?_)
   refine tail (st:=SortSt.mk' general' ((refs ks).zip (refs ads)) #[] 7 none) (out:=ads) ?_ (by lia) rfl (fun vz0=>rfl) (fun h=>absurd h (by lia))
   show ((refs ks).zip (refs ads)).map (·.2)=refs ads
   apply Array.toList_inj.mp
   rw [Array.toList_map,Array.toList_zip,List.map_snd_zip (by rw [Array.length_toList,Array.length_toList,refs_size,refs_size];lia)]
  ·rw [if_neg (by rw [hsz];lia),if_neg (by rw [hsz];lia)]
   replace hp:=hp.resolve_left (by lia)
   have inst:∀ {i:Nat} {v:Value},(ks.map Value.ref)[i]? = some v→∃ o d p,v = .ref o∧ks[i]? = some o∧ads[i]? = some p∧(o,instP K d p)∈r':=by
    intro i v hv
    rw [List.getElem?_map] at hv
    refine el_EA (Option.map_eq_some_iff.mp hv) fun o ho hE2=>?_
    subst hE2
    refine el_EAE (hks.get ho) fun p hpa d hm=>?_
    exact ⟨o,d,p,rfl,ho,hpa,hm⟩
   refine HT.bind (HT.lib fun A g d os b tk h K' D'=>kas_kind (s:=⟨h,g,d,tk,os⟩) (T:=.ref K) (by rw [List.length_map];lia) (fun v hv=>?_) rfl (by simp) ⟨_,⟨b,tk,h,rfl,D'⟩,?_⟩)
   ·refine el_E (List.getElem?_of_mem hv) fun i hi=>?_
    refine el_EEEAAA (inst hi) fun o d p hE3 vz0 vz1 hm=>?_
    subst hE3
    exact fun A Q E s k q=>wpAny_bind (wpAny_loadPart (k _ _ (D'.memR _ hm)) (wpAny_pure q))
   ·refine HT.bind (HT.runs (ks:=ks.map Value.ref) (vs:=ads.map Value.ref) (c:=fun i j=>decide (cmpP (kvS (T.getD i (0,0))) (kvS (T.getD j (0,0)))<0)) (p:=ps) (by rw [List.length_map,List.length_map];exact hks1) (by rw [List.length_map];lia) (by rw [List.length_map];lia) (fun i j u v hi hj hij hu hv=>?_) (by rw [List.length_map,hlen];exact hp) fun st h3 h4 h5=>?_)
    ·refine el_EEEAAA (inst hu) fun o d p hE3 ho hpa hm=>?_
     subst hE3
     refine el_EEEAAA (inst hv) fun o2 d2 q hE3 ho2 hpa2 hm2=>?_
     subst hE3
     rw [List.length_map] at hi hj
     refine el_EAEE (hT.get hpa) fun q1 hx t1 t2 hpm=>?_
     refine el_EAEE (hT.get hpa2) fun q2 hx2 t3 t4 hqm=>?_
     have hg1:T.getD i (0,0)=q1:=by rw [List.getD_eq_getElem?_getD,hx];rfl
     have hg2:T.getD j (0,0)=q2:=by rw [List.getD_eq_getElem?_getD,hx2];rfl
     have hpm:(p,tupO #[.str (S [kc q1.1]) t1,.str (S (vS q1.2)) t2])∈r:=by rw [←vV_str (hf _ (List.mem_of_getElem? hx))];exact hpm
     have hqm:(q,tupO #[.str (S [kc q2.1]) t3,.str (S (vS q2.2)) t4])∈r:=by rw [←vV_str (hf _ (List.mem_of_getElem? hx2))];exact hqm
     refine HT.less (k3_key N (ch:=ch) (l:=(p2,listO (refs ks) e)::(D,listO #[] n1)::l) (r:=r') ?_ (hA.mono hr) (hr _ hcm) hm hm2 (hr _ hpm) (hr _ hqm)) (by decide)
     rw [hg1,hg2]
     exact ⟨rfl,rfl⟩
    ·refine tail (out:=ps.toList.map fun i=>ads.getD i 0) ?_ ?_ h5 (fun h=>absurd h (by lia)) (fun vz0=>rfl)
     ·rw [h3]
      apply Array.toList_inj.mp
      show List.map _ _=List.map Value.ref (List.map _ _)
      rw [List.map_map]
      refine List.map_congr_left fun i hi=>?_
      have hlt:=hps h2 i hi
      show (ads.map Value.ref).getD i Value.none=Value.ref (ads.getD i 0)
      rw [List.getD_eq_getElem?_getD,List.getD_eq_getElem?_getD,List.getElem?_map,List.getElem?_eq_getElem (by lia)]
      rfl
     ·rw [List.length_map,Array.length_toList,h4,List.length_map];lia
theorem sorted_key {R:Result→Sx→Prop} {a:Nat} {ps:Array Nat} (ha:(a,listO (refs ads) n)∈r) (hA:KAt (C0 w B) w r c K) (hcm:(c,cellO (some (.ref 155)))∈r) (hT:All2 (PairAt r) ads T) (hn:T.length≤50) (hf:∀ q∈T,q.2<5)
  (hp:T.length<2 ∨ askB (fun i j=>decide (cmpP (kvS (T.getD i (0,0))) (kvS (T.getD j (0,0)))<0)) T.length (kas_sort T.length)=some ps) (hps:2≤T.length→∀ i∈ps.toList,i<T.length)
  (G:∀ D n' r' out,Sub r r'→(T.length<2→out=ads)→(2≤T.length→out=ps.toList.map fun i=>ads.getD i 0)→R (.ok (.ret (.ref D))) ⟨ch,(D,listO (refs out) n')::l,r'⟩) :
  HC (C0 w B) h₀ none 102 ⟨ch,l,r⟩ (.call (.builtin "sorted") ⟨[.ref a],kwKey K⟩) R:=by
 have hlen:=hT.length
 refine HC.bodyF kind_sorted plain_sorted entry_sorted (ksk_s1 _ _) ?_
 unfold Builtin.«sorted»
 refine HT.bind (t:=checkCount "sorted" 1 1 _) (HT.pure' ?_)
 refine HT.bind (HT.collectL (.inr ha) (by rw [refs_size];lia) ?_)
 refine HT.bind (HT.newListL (by rw [Array.length_toList,refs_size];lia) fun D=>?_)
 rw [Array.toArray_toList]
 refine HT.cut0 N [] (c:=.call (.builtin "list.sort") ⟨[.ref D],[((S [107,101,121]),.ref K)]⟩) (by kernel_rfl) fun b tk=>?_
 refine sort_key N hA hcm hT hn hf hp hps fun n' r' out hr g1 g2=>?_
 refine HT.val0 N [] (a:=.done (.ret (.ref D))) (by kernel_rfl) ?_
 exact G D n' r' out hr g1 g2
end
section
variable {w:World} {B:Hab} {h₀:Heap} (N:NatOk (C0 w B) h₀) {f c o7 u7 c0 b4 tk4:Nat} {l r:Memo} {cb cs:Nat}
include N
set_option maxHeartbeats 0 in
theorem cls_s0b {Q:Flow→Sx→Prop} (G:∀ K t r',Sub (kMem (C0 w B) o7 u7 c0 b4 tk4 ++ r) r'→KAt (C0 w B) w r' c K→Q .next ⟨chK cb cs (b4+2),(f,frameO #[ent w (S [75]) t (.ref K)] 1)::(c,cellO (some (.ref 155)))::l,r'⟩) :
  HT (C0 w B) h₀ none 100 ⟨chK cb cs (b4+2),(f,frameO #[] 0)::(c,cellO (some (.ref 155)))::l,kMem (C0 w B) o7 u7 c0 b4 tk4 ++ r⟩ (execsZ [ckB (C0 w B) 0] (envCk (C0 w B) f c)) Q (fun vz0 vz1=>False):=by
 refine (ckP N).2 _ _ _ _ _ _ fun bt tk0 b2=>?_
 refine HT.bindV0 N [0,0] (a:=.ref (b4+2)) (by kernel_rfl) ?_
 refine HT.bindV0 N [0,0] (a:=0) (by kernel_rfl) ?_
 refine HT.bind ?_
 intro b5 tk5
 refine HTa.val N [0] [0,1,2,3,4] 5 [] (a:=b5) (l:=(b5,{ cls:=.type "frame",data:=.plain,slots:=#[some (.ref (b4+2)),some (.ref 3),some (.ref (b2+3)),none,some (.str (S [108,97,119,95,111,121,48,50,48,52,95,48,49]) 668),none,some (.ref 0)] })::(b2+3,dictO #[] 0)::(bt,tupO #[Value.type "object"])::(f,frameO #[] 0)::(c,cellO (some (Value.ref 155)))::l) (r:=kMem (C0 w B) o7 u7 c0 b4 tk4 ++ r) (ch:=[(82,#[Value.int 57 0,Value.int 50 0,Value.ref cb]),(65,#[Value.int 26 0,Value.int 49 0,Value.ref cs]),(89,#[Value.int 67 0,Value.int 4 0,Value.ref (b4+2)])]) (by kernel_rfl) rfl ?_
 refine HT.bindV0 N [] (a:=[({ cps:={ toList:=[109,121,99,109,112] } },c)]) (by kernel_rfl) ?_
 refine HT.holding (HT.bind (HT.enterF N ?_))
 intro b7 tk7
 refine HTa.cut N [3,3,0,3,3,3,3,3,3,3,3,3,1,3,3,3,5,5,5,100,102,0,0,0,7,7,7,100,102,0,0,0,11,11,11,100,102,0,0,0,15,15,15,100,102,0,0,0,19,19,19,100,102,0,0,0,23,23,23,100,102,0,0,0,27,27,27,27,27,27,29,29,29] [14,15,16,17] 18 [12,0,11,9,7,5,3,1] (c:=.call (.type "type") ⟨[.str (S [75]) tk0,.ref bt,.ref (b2+3)],[]⟩) (l:=((b2+3),dictO #[ent w (S [95,95,109,111,100,117,108,101,95,95]) tk7 (.str (S [99,112,121,51,49,51,46,102,117,110,99,116,111,111,108,115]) (tk7+5)),ent w (S [95,95,113,117,97,108,110,97,109,101,95,95]) (tk7+2) (.str (S [99,109,112,95,116,111,95,107,101,121,46,60,108,111,99,97,108,115,62,46,75]) (tk7+1)),ent w (S [95,95,102,105,114,115,116,108,105,110,101,110,111,95,95]) (tk7+4) (.int 67 (tk7+3)),ent w (S [95,95,115,108,111,116,115,95,95]) (tk7+8) (.ref b7),ent w (S [95,95,105,110,105,116,95,95]) (tk7+9) (.ref (b7+1)),ent w (S [95,95,108,116,95,95]) (tk7+10) (.ref (b7+3)),ent w (S [95,95,103,116,95,95]) (tk7+11) (.ref (b7+5)),ent w (S [95,95,101,113,95,95]) (tk7+12) (.ref (b7+7)),ent w (S [95,95,108,101,95,95]) (tk7+13) (.ref (b7+9)),ent w (S [95,95,103,101,95,95]) (tk7+14) (.ref (b7+11)),ent w (S [95,95,104,97,115,104,95,95]) (tk7+15) (.none),ent w (S [95,95,115,116,97,116,105,99,95,97,116,116,114,105,98,117,116,101,115,95,95]) (tk7+17) (.ref (b7+12))] 12)::(bt,tupO #[Value.type "object"])::(f,frameO #[] 0)::(c,cellO (some (Value.ref 155)))::l) (r:=(b7,listO #[.str (S [111,98,106]) (tk7+7)] 0)::((b7+12),tupO #[.str (S [111,98,106]) (tk7+16)])::((b7+1),{ cls:=.type "function",data:=.func (fdK (cfgOf N) 2 (S [99,109,112,95,116,111,95,107,101,121,46,60,108,111,99,97,108,115,62,46,75,46,95,95,105,110,105,116,95,95]) 3 [] (.none) (.none) (.none) (.str (S [108,97,119,95,111,121,48,50,48,52,95,48,49]) 668) none (.ref (o7+6)) (.none) 0) })::((b7+3),{ cls:=.type "function",data:=.func (fdK (cfgOf N) 3 (S [99,109,112,95,116,111,95,107,101,121,46,60,108,111,99,97,108,115,62,46,75,46,95,95,108,116,95,95]) 3 [((S [109,121,99,109,112]),c)] (.none) (.none) (.none) (.str (S [108,97,119,95,111,121,48,50,48,52,95,48,49]) 668) none (.ref (o7+14)) (.ref (b7+2)) 0) })::((b7+5),{ cls:=.type "function",data:=.func (fdK (cfgOf N) 4 (S [99,109,112,95,116,111,95,107,101,121,46,60,108,111,99,97,108,115,62,46,75,46,95,95,103,116,95,95]) 3 [((S [109,121,99,109,112]),c)] (.none) (.none) (.none) (.str (S [108,97,119,95,111,121,48,50,48,52,95,48,49]) 668) none (.ref (o7+22)) (.ref (b7+4)) 0) })::((b7+7),{ cls:=.type "function",data:=.func (fdK (cfgOf N) 5 (S [99,109,112,95,116,111,95,107,101,121,46,60,108,111,99,97,108,115,62,46,75,46,95,95,101,113,95,95]) 3 [((S [109,121,99,109,112]),c)] (.none) (.none) (.none) (.str (S [108,97,119,95,111,121,48,50,48,52,95,48,49]) 668) none (.ref (o7+30)) (.ref (b7+6)) 0) })::((b7+9),{ cls:=.type "function",data:=.func (fdK (cfgOf N) 6 (S [99,109,112,95,116,111,95,107,101,121,46,60,108,111,99,97,108,115,62,46,75,46,95,95,108,101,95,95]) 3 [((S [109,121,99,109,112]),c)] (.none) (.none) (.none) (.str (S [108,97,119,95,111,121,48,50,48,52,95,48,49]) 668) none (.ref (o7+38)) (.ref (b7+8)) 0) })::((b7+11),{ cls:=.type "function",data:=.func (fdK (cfgOf N) 7 (S [99,109,112,95,116,111,95,107,101,121,46,60,108,111,99,97,108,115,62,46,75,46,95,95,103,101,95,95]) 3 [((S [109,121,99,109,112]),c)] (.none) (.none) (.none) (.str (S [108,97,119,95,111,121,48,50,48,52,95,48,49]) 668) none (.ref (o7+46)) (.ref (b7+10)) 0) })::kMem (C0 w B) o7 u7 c0 b4 tk4 ++ r) (ch:=[(82,#[Value.int 57 0,Value.int 50 0,Value.ref cb]),(65,#[Value.int 26 0,Value.int 49 0,Value.ref cs]),(89,#[Value.int 67 0,Value.int 4 0,Value.ref (b4+2)])]) (by kernel_rfl) rfl (by intro h;cases h) ?_
 refine cls_newG N fun K r' hr hk hkr=>?_
 have at_:∀ (n:Nat) (p:Addr×Obj),getAt (kMem (C0 w B) o7 u7 c0 b4 tk4) n=some p→p∈kMem (C0 w B) o7 u7 c0 b4 tk4 ++ r:=fun n p h=>List.mem_append.mpr (.inl (getAt_mem h))
 have hK:=hk ⟨⟨o7+6,.none,o7+1,o7+2,o7+3,o7+4,o7+5,_,_,_,u7+14,_⟩,hkr _ (getAt_mem (j:=2) rfl),hr _ (at_ 42 _ rfl)⟩
  ⟨⟨o7+14,.ref (b7+2),o7+9,o7+10,o7+11,o7+12,o7+13,_,_,_,u7+23,_⟩,hkr _ (getAt_mem (j:=3) rfl),hr _ (at_ 34 _ rfl)⟩
  ⟨⟨o7+22,.ref (b7+4),o7+17,o7+18,o7+19,o7+20,o7+21,_,_,_,u7+32,_⟩,hkr _ (getAt_mem (j:=4) rfl),hr _ (at_ 26 _ rfl)⟩
  ⟨⟨o7+30,.ref (b7+6),o7+25,o7+26,o7+27,o7+28,o7+29,_,_,_,u7+41,_⟩,hkr _ (getAt_mem (j:=5) rfl),hr _ (at_ 18 _ rfl)⟩
  ⟨⟨o7+38,.ref (b7+8),o7+33,o7+34,o7+35,o7+36,o7+37,_,_,_,u7+50,_⟩,hkr _ (getAt_mem (j:=6) rfl),hr _ (at_ 10 _ rfl)⟩
  ⟨⟨o7+46,.ref (b7+10),o7+41,o7+42,o7+43,o7+44,o7+45,_,_,_,u7+59,_⟩,hkr _ (getAt_mem (j:=7) rfl),hr _ (at_ 2 _ rfl)⟩
 refine HT.val0 N [] (a:=.ref K) (by kernel_rfl) ?_
 refine HT.bindV0 N [] (a:=.ref K) (by kernel_rfl) ?_
 refine HT.bindV0 N [] (a:=()) (by kernel_rfl) ?_
 refine HT.bind ?_
 intro tb2 tt2
 refine HTa.val N [1,1] [0,1] 2 [] (a:=()) (l:=(f,frameO #[ent w (S [75]) tt2 (.ref K)] 1)::(c,cellO (some (Value.ref 155)))::l) (r:=r') (ch:=[(82,#[Value.int 57 0,Value.int 50 0,Value.ref cb]),(65,#[Value.int 26 0,Value.int 49 0,Value.ref cs]),(89,#[Value.int 67 0,Value.int 4 0,Value.ref (b4+2)])]) (by kernel_rfl) rfl ?_
 refine HT.pure' ?_
 exact G K _ r' hr hK
end
section
variable {w:World} {B:Hab} {h₀:Heap} (N:NatOk (C0 w B) h₀) {l r:Memo} {cb cs ck:Nat}
include N
theorem ck_call2 {R:Result→Sx→Prop} (hk:KCodes (C0 w B) r ck) (G:∀ K c r',Sub r r'→(c,cellO (some (.ref 155)))∈r'→KAt (C0 w B) w r' c K→R (.ok (.ret (.ref K))) ⟨chK cb cs ck,l,r'⟩) :
  HC (C0 w B) h₀ none 102 ⟨chK cb cs ck,l,r⟩ (.call (.ref 94) ⟨[.ref 155],[]⟩) R:=by
 obtain ⟨o7,u7,c0,b4,tk4,rfl,hs⟩:=hk
 refine HC.reads (r:=kMem (C0 w B) o7 u7 c0 b4 tk4 ++ r) (fun q hq=>(List.mem_append.mp hq).elim (hs q) id) ?_
 refine HC.enter N (lv:=101) (o:=topObj (C0 w B) 94) [0,1,1] [1,0] 2 [] 0 (by kernel_rfl) (by kernel_rfl) fun b tk=>?_
 refine ⟨envCk (C0 w B) b (b+1),(b,frameO #[] 0)::(b+1,cellO (some (.ref 155)))::l,kMem (C0 w B) o7 u7 c0 b4 tk4 ++ r,chK cb cs (b4+2),by kernel_rfl,rfl,?_⟩
 have e:bodyCode (fdAt (some (topObj (C0 w B) 94))) (envCk (C0 w B) b (b+1)) = .func (stmts (C0 w B) 94) (envCk (C0 w B) b (b+1)):=by kernel_rfl
 rw [e]
 refine HC.func (lv:=100) ?_
 rw [stmtsCk]
 refine HT.execs_cons ?_
 refine cls_s0b N fun K t r' hr hK=>?_
 intro b2 tk2
 refine HTa.val N [1] [] 2 [1] (a:=.ret (.ref K)) (l:=l) (r:=(b+1,cellO (some (Value.ref 155)))::r') (ch:=chK cb cs (b4+2)) (by kernel_rfl) rfl ?_
 exact G K (b+1) _ (fun q hq=>.tail _ (hr q (List.mem_append.mpr (.inr hq)))) (.head _) (hK.mono Sub.tail)
end
section
variable {w:World} {B:Hab} {h₀:Heap} (N:NatOk (C0 w B) h₀) {f sc ls rd t1 t2 t3 t4 t5 tb od nw cb cs ck:Nat} {vh:Value} {l r:Memo} {Q:Flow→Sx→Prop}
include N
theorem law_s11 {T O:List KV} {ps:Array Nat} (hw:PairsAt r nw T) (hod:PairsAt r od O) (hk:KCodes (C0 w B) r ck) (hn:T.length≤50) (hf:∀ q∈T,q.2<5)
  (hp:T.length<2 ∨ askB (fun i j=>decide (cmpP (kvS (T.getD i (0,0))) (kvS (T.getD j (0,0)))<0)) T.length (kas_sort T.length)=some ps) (hps:2≤T.length→∀ i∈ps.toList,i<T.length)
  (hO1:T.length<2→O=T) (hO2:2≤T.length→O=ps.toList.map fun i=>T.getD i (0,0))
  (G:∀ r',Sub r r'→Q .next ⟨chK cb cs ck,(f,frC w t1 sc t2 ls t3 vh t4 rd t5 tb)::(f+2,cellR nw)::(f+3,cellR od)::l,r'⟩) :
  HT (C0 w B) h₀ none 300 ⟨chK cb cs ck,(f,frC w t1 sc t2 ls t3 vh t4 rd t5 tb)::(f+2,cellR nw)::(f+3,cellR od)::l,r⟩ (execsZ [lB (C0 w B) 11] (envLaw (C0 w B) f)) Q (fun vz0 vz1=>False):=by
 have e1:IsIf (lB (C0 w B) 11) []:=by kernel_rfl
 have e2:IsCmp (ifTest (lB (C0 w B) 11)) .NotEq:=by kernel_rfl
 obtain ⟨ads,n,hm,hal⟩:=hw
 have hlen:=hal.length
 refine HT.ifS' e1 (HT.test1' e2 (by kernel_rfl) ?_)
 refine HT.cut0 N [0,0,3,0,0,0] (c:=.call (.ref 94) ⟨[.ref 155],[]⟩) (by kernel_rfl) fun b tk=>?_
 refine HC.less (ck_call2 N hk fun K c r' hr hc hK=>?_) (by decide)
 refine HT.cut0 N [] (c:=.call (.builtin "sorted") ⟨[.ref nw],[((S [107,101,121]),.ref K)]⟩) (by kernel_rfl) fun b tk=>?_
 refine HC.less (sorted_key N (hr _ hm) hK hc (hal.mono fun vz0 vz1=>PairAt.mono hr) hn hf hp hps fun D n' r2 out hr2 g1 g2=>?_) (by decide)
 have hal2:All2 (PairAt r2) ads T:=hal.mono fun vz0 vz1=>PairAt.mono (hr.trans hr2)
 have hout:All2 (PairAt r2) out O:=by
  rcases (by lia:T.length<2 ∨ 2≤T.length) with h2 | h2
  ·rw [g1 h2,hO1 h2];exact hal2
  ·rw [g2 h2,hO2 h2];exact all2_pick hal2 0 (0,0) (hps h2)
 refine HT.val0 N [] (a:=.ref D) (by kernel_rfl) ?_
 refine HT.val0 N [7] (a:=.ref od) (by kernel_rfl) ?_
 refine HT.neData (da:=dPs O) (db:=dPs O) (fun bb tk h D=>mem_reads D (.inl (.head _)) hout) (fun bb tk h D=>pairs_reads D (hod.mono (hr.trans hr2))) (lay_dPs _) (lay_dPs _) (Nat.le_trans (depth_dPs _) (by decide)) ?_
 refine ⟨_,rfl,?_⟩
 rw [PySem.SeqAt.eqv_refl _ (lay_dPs _)]
 refine HT.choose (il:=[1,2,3]) (k:=4) (ir:=[]) rfl (HT.execs_nil (G _ (hr.trans hr2)))
end
noncomputable abbrev qSl:Str:=S [115,111,114,116,101,100,95,108,105,115,116,95,100,105,102,102,101,114,101,110,99,101,46,60,108,111,99,97,108,115,62,46]
noncomputable abbrev envSl (C:Cfg) (f:Addr):PySem.Env:=envA C 110 [] qSl f
noncomputable abbrev qUl:Str:=S [117,110,111,114,100,101,114,97,98,108,101,95,108,105,115,116,95,100,105,102,102,101,114,101,110,99,101,46,60,108,111,99,97,108,115,62,46]
noncomputable abbrev envUl (C:Cfg) (f:Addr):PySem.Env:=envA C 117 [] qUl f
noncomputable abbrev frameS (sl:Array (Option Value)) (es:Array DictEntry) (n:Nat):Obj:={ cls:=.type "frame",data:=.dict es n,slots:=sl }
noncomputable abbrev slLaw (g:Addr) (v:Value):Array (Option Value):=#[some (.ref 159),some (.ref 3),none,some v,none,some (.ref 160),some (.ref 0),some (.ref (g+5)),some (.ref (g+4)),some (.ref (g+3)),some (.ref (g+2)),some (.ref (g+1))]
noncomputable abbrev slF (a:Nat) (g:Addr):Array (Option Value):=#[some (.ref (a - 1)),some (.ref 3),none,some (.ref g),none,some (.ref a),some (.ref 0)]
section
variable {w:World} {B:Hab} {h₀:Heap} (N:NatOk (C0 w B) h₀) {l r:Memo} {ch:Ch} {hd:Option Value} {lv f g nf ng:Nat} {es eg:Array DictEntry} {E:Value→Sx→Prop}
include N
theorem ready_law {Q:Unit→Sx→Prop} (G:∀ v,Q () ⟨ch,(g,frameS (slLaw g v) eg ng)::l,r⟩) :
  HT (C0 w B) h₀ hd lv ⟨ch,(g,frameO eg ng)::l,r⟩ (readyFrames [envLaw (C0 w B) g]) Q E:=by
 unfold readyFrames
 have e:(envLaw (C0 w B) g).frame=some g:=by kernel_rfl
 rw [e]
 dsimp only
 refine HT.bindV0 N [1] (a:={ cls:=Value.type "frame",data:=Data.dict eg ng }) (by kernel_rfl) ?_
 refine HT.ite_neg (by simp) ?_
 refine HT.bind ?_
 intro b tk
 refine HTa.val N [] [0] 1 [] (a:=false) (l:=(g,frameO eg ng)::l) (r:=r) (ch:=ch) (by kernel_rfl) rfl ?_
 refine HT.bind (HT.lib fun A ga d os b tk h K D=>wpAny_keptBack_nil fun v=>⟨_,⟨b,tk,h,rfl,D⟩,?_⟩)
 refine HT.bind ?_
 intro b tk
 refine HTa.val N [1] [0] 1 [] (a:=()) (l:=(g,{ cls:=.type "frame",data:=.dict (eg) ng,slots:=#[some (.ref 159),some (.ref 3),none,some ((v)),none,some (.ref 160),some (.ref 0),some (.ref (g+5)),some (.ref (g+4)),some (.ref (g+3)),some (.ref (g+2)),some (.ref (g+1))] })::l) (r:=r) (ch:=ch) (by kernel_rfl) rfl ?_
 exact HT.pure' (G v)
theorem ready_again {Q:Unit→Sx→Prop} {v:Value} (G:Q () ⟨ch,(g,frameS (slLaw g v) eg ng)::l,r⟩) :
  HT (C0 w B) h₀ hd lv ⟨ch,(g,frameS (slLaw g v) eg ng)::l,r⟩ (readyFrames [envLaw (C0 w B) g]) Q E:=by
 unfold readyFrames
 have e:(envLaw (C0 w B) g).frame=some g:=by kernel_rfl
 rw [e]
 dsimp only
 refine HT.bindV0 N [1] (a:={ cls:=Value.type "frame",data:=Data.dict eg ng,slots:=slLaw g v }) (by kernel_rfl) ?_
 exact HT.ite_pos (by simp) (HT.pure' G)
theorem ready_sl {Q:Unit→Sx→Prop} (H:HT (C0 w B) h₀ hd lv ⟨ch,(f,frameS (slF 110 g) es nf)::l,r⟩ (readyFrames [envLaw (C0 w B) g]) Q E) :
  HT (C0 w B) h₀ hd lv ⟨ch,(f,frameO es nf)::l,r⟩ (readyFrames [envSl (C0 w B) f,envLaw (C0 w B) g]) Q E:=by
 rw [readyFrames]
 have e:(envSl (C0 w B) f).frame=some f:=by kernel_rfl
 rw [e]
 dsimp only
 refine HT.bindV0 N [1] (a:={ cls:=Value.type "frame",data:=Data.dict es nf }) (by kernel_rfl) ?_
 refine HT.ite_neg (by simp) ?_
 refine HT.bindV0 N [] (a:=false) (by kernel_rfl) ?_
 refine HT.bindV0 N [] (a:=.ref g) (by kernel_rfl) ?_
 refine HT.bind ?_
 intro b tk
 refine HTa.val N [1] [0] 1 [] (a:=()) (l:=(f,{ cls:=.type "frame",data:=.dict (es) nf,slots:=#[some (.ref 109),some (.ref 3),none,some (.ref g),none,some (.ref 110),some (.ref 0)] })::l) (r:=r) (ch:=ch) (by kernel_rfl) rfl ?_
 exact H
theorem ready_sl2 {Q:Unit→Sx→Prop} (G:Q () ⟨ch,(f,frameS (slF 110 g) es nf)::l,r⟩) :
  HT (C0 w B) h₀ hd lv ⟨ch,(f,frameS (slF 110 g) es nf)::l,r⟩ (readyFrames [envSl (C0 w B) f,envLaw (C0 w B) g]) Q E:=by
 rw [readyFrames]
 have e:(envSl (C0 w B) f).frame=some f:=by kernel_rfl
 rw [e]
 dsimp only
 refine HT.bindV0 N [1] (a:={ cls:=Value.type "frame",data:=Data.dict es nf,slots:=slF 110 g }) (by kernel_rfl) ?_
 exact HT.ite_pos (by simp) (HT.pure' G)
theorem ready_ul {Q:Unit→Sx→Prop} (H:HT (C0 w B) h₀ hd lv ⟨ch,(f,frameS (slF 117 g) es nf)::l,r⟩ (readyFrames [envLaw (C0 w B) g]) Q E) :
  HT (C0 w B) h₀ hd lv ⟨ch,(f,frameO es nf)::l,r⟩ (readyFrames [envUl (C0 w B) f,envLaw (C0 w B) g]) Q E:=by
 rw [readyFrames]
 have e:(envUl (C0 w B) f).frame=some f:=by kernel_rfl
 rw [e]
 dsimp only
 refine HT.bindV0 N [1] (a:={ cls:=Value.type "frame",data:=Data.dict es nf }) (by kernel_rfl) ?_
 refine HT.ite_neg (by simp) ?_
 refine HT.bindV0 N [] (a:=false) (by kernel_rfl) ?_
 refine HT.bindV0 N [] (a:=.ref g) (by kernel_rfl) ?_
 refine HT.bind ?_
 intro b tk
 refine HTa.val N [1] [0] 1 [] (a:=()) (l:=(f,{ cls:=.type "frame",data:=.dict (es) nf,slots:=#[some (.ref 116),some (.ref 3),none,some (.ref g),none,some (.ref 117),some (.ref 0)] })::l) (r:=r) (ch:=ch) (by kernel_rfl) rfl ?_
 exact H
theorem ready_ul2 {Q:Unit→Sx→Prop} (G:Q () ⟨ch,(f,frameS (slF 117 g) es nf)::l,r⟩) :
  HT (C0 w B) h₀ hd lv ⟨ch,(f,frameS (slF 117 g) es nf)::l,r⟩ (readyFrames [envUl (C0 w B) f,envLaw (C0 w B) g]) Q E:=by
 rw [readyFrames]
 have e:(envUl (C0 w B) f).frame=some f:=by kernel_rfl
 rw [e]
 dsimp only
 refine HT.bindV0 N [1] (a:={ cls:=Value.type "frame",data:=Data.dict es nf,slots:=slF 117 g }) (by kernel_rfl) ?_
 exact HT.ite_pos (by simp) (HT.pure' G)
end
section
variable {C:Cfg} {h₀:Heap} {hd:Option Value} {lv:Nat} {x:Sx} {E:Value→Sx→Prop}
theorem HT.subInt {k:Int} {t:Tok} {Q:Option Int→Sx→Prop} (h0:0≤k) (hf:k<2 ^ 63) (G:Q (some k) x):HT C h₀ hd lv x (Builtin.List.listSubscript? (.int k t)) Q E:=by
 have hfit:=fitsIndex_of h0 hf
 clear hf
 exact HT.lib fun A g d os b tk h K D=>wpAny_listSubscript_int hfit ⟨_,⟨b,tk,h,rfl,D⟩,G⟩
noncomputable def itemT (a:Addr) (k:Nat):Sem (Option (Nat×Value)):=seqItemAt a k >>= fun r=>pure (r.map (k,·))
theorem HT.itemAt {a:Addr} {its:Array Value} {n k:Nat} {Q:Option (Nat×Value)→Sx→Prop} (hl:(a,listO its n)∈x.l ∨ (a,listO its n)∈x.r) (G:Q (its[k]?.map (k,·)) x):HT C h₀ hd lv x (itemT a k) Q E :=
 HT.bind (HT.lib fun A g d os b tk h K D=>wpAny_seqItemAt (s:=⟨h,g,d,tk,os⟩) (Sx.mem_get hl D) rfl ⟨_,⟨b,tk,h,rfl,D⟩,HT.pure' G⟩)
end
noncomputable abbrev excK (T:String) (p:Addr) (tb cx:Value):Obj:={ cls:=.type T,data:=.fields #[.ref p,tb,cx,.none,.bool false,.none] }
noncomputable abbrev excO (p:Addr) (tb cx:Value):Obj:=excK "IndexError" p tb cx
section
variable {w:World} {B:Hab} {h₀:Heap} (N:NatOk (C0 w B) h₀) {lv:Nat} {l r:Memo} {ch:Ch} {R:Result→Sx→Prop} {a:Addr} {its:Array Value} {n:Nat} {k:Int} {t:Tok}
include N
theorem getItemX (hl:(a,listO its n)∈l ∨ (a,listO its n)∈r) (h0:0≤k) (hf:k<2 ^ 63) (hv:its[k.toNat]? = none) (G:∀ e p,R (.error (.ref e)) ⟨ch,(e,excO p .none .none)::l,r⟩) :
  HC (C0 w B) h₀ none (lv+1) ⟨ch,l,r⟩ (.call (.builtin "list.__getitem__") ⟨[.ref a,.int k t],[]⟩) R:=by
 refine HC.bodyS slot_list_getitem entry_list_getitem (args_list_getitem _ _) (fun g d os b tk h D=>⟨_,Sx.mem_get hl D,rfl⟩) ?_
 unfold Builtin.«list.__getitem__»
 refine HT.bindV0 N [] (a:=(Value.ref a,Value.int k t)) (by kernel_rfl) ?_
 dsimp only
 refine HT.bind (HT.subInt h0 hf ?_)
 clear hf
 obtain ⟨j,rfl⟩:=Int.eq_ofNat_of_zero_le h0
 dsimp only
 refine HT.bind (HT.ofEq (t':=itemT a j) rfl (HT.itemAt hl ?_))
 have hv':its[j]? = none:=hv
 rw [hv']
 dsimp only [Option.map]
 intro b tk
 exact HTa.exc N [] [0] 2 [] (a:=.ref (b+1)) (l:=(b+1,excO b .none .none)::l) (r:=r) (ch:=ch) (by kernel_rfl) rfl (G _ _)
theorem getItemX1 {e1 p1:Addr} {tb1:Value} (hl:(a,listO its n)∈(e1,excO p1 tb1 .none)::l ∨ (a,listO its n)∈r) (h0:0≤k) (hf:k<2 ^ 63) (hv:its[k.toNat]? = none) (G:∀ e p,R (.error (.ref e)) ⟨ch,(e,excO p .none (.ref e1))::(e1,excO p1 tb1 .none)::l,r⟩) :
  HC (C0 w B) h₀ (some (.ref e1)) (lv+1) ⟨ch,(e1,excO p1 tb1 .none)::l,r⟩ (.call (.builtin "list.__getitem__") ⟨[.ref a,.int k t],[]⟩) R:=by
 refine HC.bodyS slot_list_getitem entry_list_getitem (args_list_getitem _ _) (fun g d os b tk h D=>⟨_,Sx.mem_get hl D,rfl⟩) ?_
 unfold Builtin.«list.__getitem__»
 refine HT.bindV0 N [] (a:=(Value.ref a,Value.int k t)) (by kernel_rfl) ?_
 dsimp only
 refine HT.bind (HT.subInt h0 hf ?_)
 clear hf
 obtain ⟨j,rfl⟩:=Int.eq_ofNat_of_zero_le h0
 dsimp only
 refine HT.bind (HT.ofEq (t':=itemT a j) rfl (HT.itemAt hl ?_))
 have hv':its[j]? = none:=hv
 rw [hv']
 dsimp only [Option.map]
 refine HT.bindV0 N [] (a:=()) (by kernel_rfl) ?_
 refine HT.bind ?_
 unfold raiseErrorWords
 refine HT.bind ?_
 intro b2 tk2
 refine HTa.val N [] [0] 1 [] (a:=.str (S [108,105,115,116,32,105,110,100,101,120,32,111,117,116,32,111,102,32,114,97,110,103,101]) tk2) (l:=(e1,excO p1 tb1 Value.none)::l) (r:=r) (ch:=ch) (by kernel_rfl) rfl ?_
 refine HT.bind ?_
 intro b3 tk3
 refine HTa.val N [] [0,2] 3 [] (a:=.ref (b3+1)) (l:=((b3+1),{ cls:=.type "IndexError",data:=.fields #[.ref b3,.none,.none,.none,.bool false,.none] })::(e1,excO p1 tb1 Value.none)::l) (r:=r) (ch:=ch) (by kernel_rfl) rfl ?_
 unfold raiseNew
 refine HT.bindV0 N [] (a:=some (Value.ref e1)) (by kernel_rfl) ?_
 dsimp only
 refine HT.apart (a:=b3+1) (c:=e1) rfl (.head _) fun hne=>?_
 refine HT.ite_pos (by simp;exact fun h=>hne h.symm) ?_
 refine HT.bindV0 N [1,3] (a:=.none) (by kernel_rfl) ?_
 refine HT.bind ?_
 intro b6 tk6
 refine HTa.val N [1,1] [0,1] 2 [] (a:=()) (l:=((b3+1),{ cls:=.type "IndexError",data:=.fields #[.ref b3,.none,.ref e1,.none,.bool false,.none] })::(e1,excO p1 tb1 Value.none)::l) (r:=r) (ch:=ch) (by kernel_rfl) rfl ?_
 intro b7 tk7
 exact HTa.exc N [] [0,1] 2 [] (a:=.ref (b3+1)) (l:=(b3+1,excO b3 .none (.ref e1))::(e1,excO p1 tb1 .none)::l) (r:=r) (ch:=ch) (by kernel_rfl) rfl (G _ _)
end
section
variable {C:Cfg} {h₀ h:Heap} {hd:Option Value} {lv:Nat} {A:Around} {m:Mm} {x x':Sx} {α β:Type} {t:Sem α} {Q Q':α→Sx→Prop} {E E':Value→Sx→Prop} {R R':Result→Sx→Prop} {c:Code} {env:PySem.Env}
theorem TA.mono (H:TA C h₀ A x t Q E) (hQ:∀ a x,Q a x→Q' a x) (hE:∀ e x,E e x→E' e x):TA C h₀ A x t Q' E' :=
 fun b tk g d os h D=>wpAny_mono (H b tk g d os h D) (fun a s ⟨x,S,q⟩=>⟨x,S,hQ a x q⟩) (fun a s ⟨x,S,q⟩=>⟨x,S,hE a x q⟩)
theorem TA.bind {f:α→Sem β} {Q:β→Sx→Prop} (H:TA C h₀ A x t (fun a x'=>TA C h₀ A x' (f a) Q E) E):TA C h₀ A x (t >>= f) Q E:=by
 intro b tk g d os h D
 refine wpAny_bind (wpAny_mono (H b tk g d os h D) ?_ (fun vz0 vz1 q=>q))
 rintro a s ⟨x',⟨b',tk',h',rfl,D'⟩,q⟩
 exact q b' tk' g d os h' D'
theorem TA.pure' {a:α} (H:Q a x):TA C h₀ A x (pure a) Q E:=fun b tk g d os h D=>wpAny_pure ⟨x,⟨b,tk,h,rfl,D⟩,H⟩
theorem TA.reads {r:Memo} (hr:∀ p∈r,p∈x.r) (H:TA C h₀ A ⟨x.ch,x.l,r⟩ t Q E):TA C h₀ A x t Q E:=fun b tk g d os h D=>H b tk g d os h (D.reads hr)
theorem TA.choose {il ir:List Nat} {k:Nat} (ok:okSel il ir k=true) (H:TA C h₀ A ⟨x.ch,selL il k x.l,choos ir x.l ++ x.r⟩ t Q E):TA C h₀ A x t Q E:=fun b tk g d os h D=>H b tk g d os h (D.choose ok b rfl tk)
theorem CA.choose {il ir:List Nat} {k:Nat} (ok:okSel il ir k=true) (H:CA C h₀ A ⟨x.ch,selL il k x.l,choos ir x.l ++ x.r⟩ c R):CA C h₀ A x c R:=fun b tk g d os h D=>H b tk g d os h (D.choose ok b rfl tk)
theorem TA.ofEq {t':Sem α} (e:t=t') (H:TA C h₀ A x t' Q E):TA C h₀ A x t Q E:=e ▸ H
theorem TA.ite_pos {p:Prop} [Decidable p] {a b:Sem α} (hp:p) (H:TA C h₀ A x a Q E):TA C h₀ A x (if p then a else b) Q E:=by rw [if_pos hp];exact H
theorem TA.ite_neg {p:Prop} [Decidable p] {a b:Sem α} (hp:¬ p) (H:TA C h₀ A x b Q E):TA C h₀ A x (if p then a else b) Q E:=by rw [if_neg hp];exact H
theorem Calm.mark {e:Value} (K:Calm A none lv):Calm (A.mark (some e)) (some e) lv:=⟨rfl,K.deep,K.units⟩
theorem TA.execs_cons {s:Stmt} {rest:List Stmt} {Q:Flow→Sx→Prop}
  (H:TA C h₀ A x (execsZ [s] env) (fun f x'=>match f with | .next=>TA C h₀ A x' (execsZ rest env) Q E | f=>Q f x') E):TA C h₀ A x (execsZ (s::rest) env) Q E:=by
 rw [execsZ_cons]
 rw [exec1_eq] at H
 refine TA.bind (H.mono (fun f x' q=>?_) (fun vz0 vz1 q=>q))
 cases f with
 | next=>exact q
 | brk=>exact TA.pure' q
 | cont=>exact TA.pure' q
 | ret v=>exact TA.pure' q
theorem TA.execs_nil {Q:Flow→Sx→Prop} (H:Q .next x):TA C h₀ A x (execsZ [] env) Q E:=TA.ofEq (execsZ_nil env) (TA.pure' H)
theorem CA.func {body:List Stmt} (H:TA C h₀ (A.under (.func body env)) x (execsZ body env) (fun f x'=>R (.ok (.ret (match f with | .ret v=>v | _=>.none))) x') (fun vz0 vz1=>False)):CA C h₀ A x (.func body env) R:=by
 intro b tk g d os h D
 refine codeAny_of_tree ?_
 show wpAny _ _ (point >>= fun vz0=>(execs body env).onRaise (leaving env) >>= fun f=>match f with | .ret v=>ret v | _=>ret .none) _ _ _
 refine wpAny_bind (wpAny_point (wpAny_bind (wpAny_onRaise ?_)))
 rw [execsZ_eq]
 refine wpAny_mono (H b tk g d os h D) ?_ (fun _ _ ⟨_,_,q⟩=>q.elim)
 rintro f s ⟨x',S,q⟩
 cases f <;> exact wpAny_pure ⟨x',S,q⟩
theorem Calm.func {body:List Stmt} (K:Calm A hd (lv+2)):Calm (A.under (.func body env)) hd lv:=⟨K.hd,Nat.lt_of_le_of_lt (show A.depth+1+lv≤A.depth+(lv+2) from by rw [Nat.add_assoc,Nat.add_comm 1];exact Nat.add_le_add_left (Nat.le_succ _) _) K.deep,Nat.lt_of_le_of_lt (show A.units+3+4 * lv≤A.units+4 * (lv+2) from by rw [Nat.add_assoc,Nat.mul_add,Nat.add_comm 3];exact Nat.add_le_add_left (Nat.add_le_add_left (by decide) _) _) K.units⟩
theorem frames_func {body:List Stmt} {fr:List PySem.Env} (h:A.frames=some fr):(A.under (.func body env)).frames=some (env::fr):=by
 show pushEnvs (Code.func body env).envs A.frames=_
 rw [h];rfl
noncomputable abbrev noteP (C:Cfg) (h₀:Heap) (A:Around) (env:PySem.Env) (E:Value→Sx→Prop):Value→Sx→Prop:=fun e x=>TA C h₀ A x (noteFrame e env) (fun vz0 y=>E e y) (fun vz0 vz1=>False)
noncomputable abbrev backP (C:Cfg) (h₀:Heap) (A:Around) (env:PySem.Env) (E:Value→Sx→Prop):Value→Sx→Prop:=fun e x=>TA C h₀ A x (do
  if (← field e 1) == .none then unsupported "frame.own-activation:exception-without-traceback"
  setFlight e env.frame:Sem Unit) (fun vz0 y=>E e y) (fun vz0 vz1=>False)
theorem TA.tryExcept {body:List Stmt} {hh:ExceptHandler} {hs:List ExceptHandler} {pos:Pos} {Q:Flow→Sx→Prop}
  (H:TA C h₀ A x (execsZ body env) Q (noteP C h₀ A env fun e x1=>TA C h₀ A x1 (setFlight e none) (fun vz0 x2=>TA C h₀ A x2 (handleBy e env (hh::hs)) Q E) (fun vz0 vz1=>False))):TA C h₀ A x (execsZ [.Try body (hh::hs) [] [] pos] env) Q E:=by
 intro b tk g d os h D
 have H:=H b tk g d os h D
 rw [exec1_eq]
 rw [←execsZ_eq] at H
 refine wpAny_Try_except (wpAny_mono H ?_ ?_)
 ·rintro f s ⟨x',S,q⟩
  cases f with
  | next=>exact wpAny_execs_nil ⟨x',S,q⟩
  | _=>exact ⟨x',S,q⟩
 ·rintro e s ⟨x1,S,q⟩
  refine wpAny_mono (q.step S) ?_ (fun _ _ ⟨_,_,q⟩=>q.elim)
  rintro _ s2 ⟨x2,S2,q2⟩
  refine wpAny_mono (q2.step S2) ?_ (fun _ _ ⟨_,_,q⟩=>q.elim)
  rintro _ s3 ⟨x3,S3,q3⟩
  exact q3.step S3
theorem TA.handle {e:Addr} {X T:String} {t:PySem.Expr} {b₀:Stmt} {suite:List Stmt} {pos:Pos} {Q:Flow→Sx→Prop}
  (hexc:isSubtype (.type T) (.type "BaseException")=pure true) (hnt:isSubtype (.type ((Manifest.find? T).elim "type" fun x=>x.metatype)) (.type "tuple")=pure false) (hsub:isSubtype (.type X) (.type T)=pure true)
  (H:TA C h₀ (A.mark (some (.ref e))) x (evalZ t env) (fun c x1=>c = .type T∧(∃ o,(e,o)∈x1.l∧o.cls = .type X)∧TA C h₀ (A.mark (some (.ref e))) x1 (setFlight (.ref e) none) (fun vz0 x2=>TA C h₀ (A.mark (some (.ref e))) x2 (execsZ (b₀::suite) env) Q (fun vz0 vz1=>False)) (fun vz0 vz1=>False)) (fun vz0 vz1=>False)) :
  TA C h₀ A x (handleBy (.ref e) env [.ExceptHandler (some t) none (b₀::suite) pos]) Q E:=by
 intro b tk g d os h D
 have H:=H b tk g d os h D
 rw [←evalZ_eq] at H
 refine wpAny_handleBy_builtin hexc hnt hsub (wpAny_mono H ?_ (fun _ _ ⟨_,_,q⟩=>q.elim))
 rintro c s ⟨x1,S,rfl,⟨o,ho,hc⟩,q⟩
 refine ⟨rfl,?_,?_⟩
 ·obtain ⟨b',tk',h',rfl,D'⟩:=S
  exact ⟨o,D'.mem _ ho,hc⟩
 ·rw [if_pos rfl]
  refine wpAny_mono (q.step S) ?_ (fun _ _ ⟨_,_,q⟩=>q.elim)
  rintro _ s2 ⟨x2,S2,q2⟩
  have q2:=q2.step S2
  rw [←execsZ_eq] at q2
  exact wpAny_mono q2 (fun vz0 vz1 q=>q) (fun _ _ ⟨_,_,q⟩=>q.elim)
theorem TA.tryFinally {body:List Stmt} {f₀:Stmt} {fs:List Stmt} {pos:Pos} {Q:Flow→Sx→Prop}
  (H:TA C h₀ A x (execsZ body env) (fun f x1=>f = .next∧TA C h₀ A x1 (execsZ (f₀::fs) env) (fun g x2=>g = .next∧Q .next x2) (noteP C h₀ A env (backP C h₀ A env E)))
   (noteP C h₀ A env fun e x2=>e≠byPass∧noteP C h₀ A env (fun e x3=>TA C h₀ A x3 (setFlight e none) (fun vz0 x4=>TA C h₀ (A.mark (some e)) x4 (execsZ (f₀::fs) env)
    (fun g x5=>g = .next∧TA C h₀ A x5 (passOn "try.finally" e env) Q E) (fun e' x5=>TA C h₀ (A.mark (some e)) x5 (noteFrame e' env) (fun vz0 y=>backP C h₀ A env E e' y) (fun vz0 vz1=>False))) (fun vz0 vz1=>False)) e x2)) :
  TA C h₀ A x (execsZ [.Try body [] [] (f₀::fs) pos] env) Q E:=by
 have back:∀ {e s x g d os},Stands C h₀ x g d os s→backP C h₀ A env E e x→cameBackBy (model C.prog C.w) A env (fun e s'=>∃ x',Stands C h₀ x' g d os s'∧E e x') e s:=by
  intro e s x g d os S q
  exact wpAny_mono (q.step S) (fun vz0 vz1 q=>q) (fun _ _ ⟨_,_,q⟩=>q.elim)
 intro b tk g d os h D
 have H:=H b tk g d os h D
 rw [exec1_eq]
 rw [←execsZ_eq] at H
 refine wpAny_Try_finally (wpAny_mono H ?_ ?_)
 ·rintro f s ⟨x1,S,rfl,q⟩
  dsimp only
  have q:=q.step S
  refine wpAny_execs_nil (wpAny_mono q ?_ ?_)
  ·rintro f s ⟨x2,S2,rfl,q2⟩
   exact ⟨x2,S2,q2⟩
  ·rintro e s ⟨x2,S2,q2⟩
   refine wpAny_mono (q2.step S2) ?_ (fun _ _ ⟨_,_,q⟩=>q.elim)
   rintro _ s3 ⟨x3,S3,q3⟩
   exact back S3 q3
 ·rintro e s ⟨x1,S,q⟩
  refine wpAny_mono (q.step S) ?_ (fun _ _ ⟨_,_,q⟩=>q.elim)
  rintro _ s2 ⟨x2,S2,hb,q2⟩
  refine ⟨hb,wpAny_mono (q2.step S2) ?_ (fun _ _ ⟨_,_,q⟩=>q.elim)⟩
  rintro _ s3 ⟨x3,S3,q3⟩
  refine wpAny_mono (q3.step S3) ?_ (fun _ _ ⟨_,_,q⟩=>q.elim)
  rintro _ s4 ⟨x4,S4,q4⟩
  have q4:=q4.step S4
  refine wpAny_mono q4 ?_ ?_
  ·rintro f s5 ⟨x5,S5,rfl,q5⟩
   exact q5.step S5
  ·rintro e' s5 ⟨x5,S5,q5⟩
   refine wpAny_mono (q5.step S5) ?_ (fun _ _ ⟨_,_,q⟩=>q.elim)
   rintro _ s6 ⟨x6,S6,q6⟩
   exact back S6 q6
theorem TA.whileStop {test:PySem.Expr} {body:List Stmt} {pos:Pos} {Q:Flow→Sx→Prop}
  (H:TA C h₀ A x (isTrueZ test env (evalZ test env)) (fun b y=>b=false∧Q .next y) (noteP C h₀ A env (backP C h₀ A env E))):TA C h₀ A x (execsZ [.While test body [] pos] env) Q E:=by
 intro b tk g d os h D
 have H:=H b tk g d os h D
 rw [exec1_eq]
 rw [←isTrueZ_eq,←evalZ_eq] at H
 refine wpAny_While (codeAny_of_tree ?_)
 show wpAny _ A ((whileTurn test body [] env).onRaise (fun x=>do noteFrame x env;theTreesLotGoes x)) _ _ _
 refine wpAny_noted ?_
 simp only [whileTurn]
 refine wpAny_bind (wpAny_mono H ?_ ?_)
 ·rintro bb s ⟨y,S,rfl,q⟩
  simp only [Bool.false_eq_true,if_false]
  exact wpAny_bind (wpAny_execs_nil (wpAny_pure ⟨y,S,q⟩))
 ·rintro e s ⟨y,S,q⟩
  refine wpAny_mono (q.step S) ?_ (fun _ _ ⟨_,_,q⟩=>q.elim)
  rintro _ s2 ⟨x2,S2,q2⟩
  exact wpAny_mono (q2.step S2) (fun vz0 vz1 q=>q) (fun _ _ ⟨_,_,q⟩=>q.elim)
theorem CA.whileLoop {test:PySem.Expr} {body:List Stmt} (I:Nat→Sx→Prop)
  (turn:∀ n y,I n y→TA C h₀ A y (isTrueZ test env (evalZ test env)) (fun b y1=>match b with
   | true=>TA C h₀ A y1 (execsZ body env) (fun f y2=>match f with | .next | .cont=>∃ k,k<n∧I k y2 | .brk=>R (.ok .next) y2 | .ret v=>R (.ok (.ret v)) y2) (fun vz0 vz1=>False)
   | false=>R (.ok .next) y1) (fun vz0 vz1=>False)) (n:Nat) {y:Sx} (h:I n y):CA C h₀ A y (.whileLoop test body [] env) R:=by
 induction n using Nat.strongRecOn generalizing y with
 | ind n ih =>
  intro b tk g d os hp D
  refine codeAny_of_tree ?_
  show wpAny _ A ((whileTurn test body [] env).onRaise (fun x=>do noteFrame x env;theTreesLotGoes x)) _ _ _
  refine wpAny_noted ?_
  simp only [whileTurn]
  have T:=turn n y h b tk g d os hp D
  rw [←isTrueZ_eq,←evalZ_eq] at T
  refine wpAny_bind (wpAny_mono T ?_ (fun _ _ ⟨_,_,q⟩=>q.elim))
  rintro bb s ⟨y1,S1,T1⟩
  cases bb with
  | false =>
   dsimp only at T1
   simp only [Bool.false_eq_true,if_false]
   exact wpAny_bind (wpAny_execs_nil (wpAny_pure ⟨y1,S1,T1⟩))
  | true =>
   dsimp only at T1
   simp only [if_true]
   have T1:=T1.step S1
   rw [←execsZ_eq] at T1
   refine wpAny_bind (wpAny_mono T1 ?_ (fun _ _ ⟨_,_,q⟩=>q.elim))
   rintro f s ⟨y2,⟨b2,tk2,h2,rfl,D2⟩,T2⟩
   cases f with
   | next=>obtain ⟨k,hk,hI⟩:=T2;exact wpAny_pure ⟨rfl,ih k hk hI b2 tk2 g d os h2 D2⟩
   | cont=>obtain ⟨k,hk,hI⟩:=T2;exact wpAny_pure ⟨rfl,ih k hk hI b2 tk2 g d os h2 D2⟩
   | brk=>exact wpAny_pure ⟨y2,⟨_,_,_,rfl,D2⟩,T2⟩
   | ret v=>exact wpAny_pure ⟨y2,⟨_,_,_,rfl,D2⟩,T2⟩
theorem TA.while {test:PySem.Expr} {body:List Stmt} {pos:Pos} {Q:Flow→Sx→Prop}
  (H:CA C h₀ A x (.whileLoop test body [] env) (fun r y=>match r with | .ok f=>Q f y | .error _=>False)):TA C h₀ A x (execsZ [.While test body [] pos] env) Q E:=by
 intro b tk g d os h D
 rw [exec1_eq]
 refine wpAny_While (codeAny_mono (H b tk g d os h D) ?_)
 rintro r s ⟨y,S,q⟩
 cases r with
 | ok f=>exact ⟨y,S,q⟩
 | error e=>exact q.elim
theorem TA.if {test:PySem.Expr} {body orelse:List Stmt} {pos:Pos} {Q:Flow→Sx→Prop}
  (H:TA C h₀ A x (isTrueZ test env (evalZ test env)) (fun b x'=>TA C h₀ A x' (execsZ (if b then body else orelse) env) Q E) E):TA C h₀ A x (execsZ [.If test body orelse pos] env) Q E:=by
 intro b tk g d os h D
 have H:=H b tk g d os h D
 rw [←isTrueZ_eq,←evalZ_eq] at H
 rw [exec1_eq]
 refine wpAny_If (wpAny_mono H (fun bb s q=>?_) (fun vz0 vz1 q=>q))
 refine el_EA q fun x' S T'=>?_
 have T2:=T'.step S
 rw [←execsZ_eq] at T2
 cases bb <;> exact T2
end
noncomputable abbrev Six:=Value×Value×Value×Value×Value×Value
noncomputable abbrev tbO (f:Addr) (fl:Value) (c:Six):Obj:={ cls:=.type "traceback",data:=.fields #[.none,.ref f,.none,fl,.none,c.1,c.2.1,c.2.2.1,c.2.2.2.1,c.2.2.2.2.1,c.2.2.2.2.2] }
section
variable {w:World} {B:Hab} {h₀:Heap} (N:NatOk (C0 w B) h₀) {l r:Memo} {ch:Ch} {hd:Option Value} {lv:Nat} {A:Around} {E:Value→Sx→Prop} {env:PySem.Env} {outer:List PySem.Env} {f e p tb:Addr} {cx:Value} {c:Six} {X:String}
include N
theorem note_new {Q:Unit→Sx→Prop} {ι:Type} {l':ι→Memo} (K:Calm A hd lv) (hfr:A.frames=some (env::outer)) (hf:env.frame=some f)
  (hr:∀ {Q:Unit→Sx→Prop} {E:Value→Sx→Prop},(∀ v,Q () ⟨ch,(e,excK X p .none cx)::l' v,r⟩)→HT (C0 w B) h₀ hd lv ⟨ch,(e,excK X p .none cx)::l,r⟩ (readyFrames (env::outer)) Q E)
  (G:∀ v tb c,Q () ⟨ch,(e,excK X p (.ref tb) cx)::(tb,tbO f (rawInt f) c)::l' v,r⟩):TA (C0 w B) h₀ A ⟨ch,(e,excK X p .none cx)::l,r⟩ (noteFrame (.ref e) env) Q E:=by
 rw [show noteFrame=Z.noteFrameQ from Z.noteFrameQ_eq]
 unfold Z.noteFrameQ
 simp only [hf]
 refine TA.bind (TA.of K (hd:=hd) (lv:=lv) ?_)
 refine HT.val0 N [1] (a:=.none) (by kernel_rfl) ?_
 refine TA.ite_neg (by decide) ?_
 unfold PySem.frameOf
 refine TA.bind (TA.bind (t:=frameEnvs) ?_)
 intro b tk g d os h D
 refine wpAny_frameEnvs hfr ⟨_,⟨b,tk,h,rfl,D⟩,?_⟩
 have hdw:((env::outer).dropWhile fun x=>x.frame != env.frame)=env::outer:=by simp [List.dropWhile]
 dsimp only
 rw [hdw]
 unfold frameObject
 refine TA.bind (TA.bind (TA.of K (hr fun v=>?_)))
 refine TA.pure' ?_
 rw [hf]
 refine TA.pure' ?_
 refine TA.bind (t:=stack) ?_
 intro b tk g d os h D
 refine wpAny_stack fun acts vz0 vz1 vz2=>⟨_,⟨b,tk,h,rfl,D⟩,?_⟩
 refine TA.of K (hd:=hd) (lv:=lv) ?_
 generalize Z.cellQ 0 (Z.placeOf f (Value.none != Value.none) acts)=c0
 generalize Z.cellQ 1 (Z.placeOf f (Value.none != Value.none) acts)=c1
 generalize Z.cellQ 2 (Z.placeOf f (Value.none != Value.none) acts)=c2
 generalize Z.cellQ 3 (Z.placeOf f (Value.none != Value.none) acts)=c3
 generalize Z.cellQ 4 (Z.placeOf f (Value.none != Value.none) acts)=c4
 generalize Z.cellQ 5 (Z.placeOf f (Value.none != Value.none) acts)=c5
 intro b tk
 exact HTa.val N [3,3] [1,0] 2 [] (a:=()) (l:=(e,excK X p (.ref b) cx)::(b,tbO f (rawInt f) (c0,c1,c2,c3,c4,c5))::l' v) (r:=r) (ch:=ch) (by kernel_rfl) rfl (G v b _)
theorem note_again {Q:Unit→Sx→Prop} (hf:env.frame=some f) (G:Q () ⟨ch,(e,excK X p (.ref tb) cx)::(tb,tbO f (rawInt f) c)::l,r⟩):HT (C0 w B) h₀ hd lv ⟨ch,(e,excK X p (.ref tb) cx)::(tb,tbO f (rawInt f) c)::l,r⟩ (noteFrame (.ref e) env) Q E:=by
 unfold noteFrame
 simp only [hf]
 refine HT.bindV0 N [1] (a:=.ref tb) (by kernel_rfl) ?_
 refine HT.ite_pos (by rfl) ?_
 refine HT.bindV0 N [3] (a:=.int (Int.ofNat f) 0) (by kernel_rfl) ?_
 refine HT.ite_pos (beq_self_eq_true _) (HT.pure' G)
theorem flight_none {Q:Unit→Sx→Prop} {fl:Value} (G:Q () ⟨ch,(e,excK X p (.ref tb) cx)::(tb,tbO f .none c)::l,r⟩):HT (C0 w B) h₀ hd lv ⟨ch,(e,excK X p (.ref tb) cx)::(tb,tbO f fl c)::l,r⟩ (setFlight (.ref e) none) Q E:=by
 intro b tk
 refine HTa.val N [1,3,3] [0,1] 2 [] (a:=()) (l:=(e,excK X p (Value.ref tb) cx)::(tb,{ cls:=.type "traceback",data:=.fields #[.none,.ref f,.none,.none,.none,(c.1),(c.snd.1),(c.snd.snd.1),(c.snd.snd.snd.1),(c.snd.snd.snd.snd.1),(c.snd.snd.snd.snd.2)] })::l) (r:=r) (ch:=ch) (by kernel_rfl) rfl ?_
 exact G
theorem flight_some {Q:Unit→Sx→Prop} {fl:Value} (G:Q () ⟨ch,(e,excK X p (.ref tb) cx)::(tb,tbO f (rawInt f) c)::l,r⟩):HT (C0 w B) h₀ hd lv ⟨ch,(e,excK X p (.ref tb) cx)::(tb,tbO f fl c)::l,r⟩ (setFlight (.ref e) (some f)) Q E:=by
 intro b tk
 refine HTa.val N [1,3,3] [0,1] 2 [] (a:=()) (l:=(e,excK X p (Value.ref tb) cx)::(tb,{ cls:=.type "traceback",data:=.fields #[.none,.ref f,.none,.int (Int.ofNat f) 0,.none,(c.1),(c.snd.1),(c.snd.snd.1),(c.snd.snd.snd.1),(c.snd.snd.snd.snd.1),(c.snd.snd.snd.snd.2)] })::l) (r:=r) (ch:=ch) (by kernel_rfl) rfl ?_
 exact G
theorem back_ok {E':Value→Sx→Prop} {fl:Value} (K:Calm A hd lv) (hf:env.frame=some f) (G:E' (.ref e) ⟨ch,(e,excK X p (.ref tb) cx)::(tb,tbO f (rawInt f) c)::l,r⟩):backP (C0 w B) h₀ A env E' (.ref e) ⟨ch,(e,excK X p (.ref tb) cx)::(tb,tbO f fl c)::l,r⟩:=by
 refine TA.bind (TA.of K (hd:=hd) (lv:=lv) ?_)
 refine HT.val0 N [1] (a:=.ref tb) (by kernel_rfl) ?_
 refine TA.ite_neg (by simp) ?_
 rw [hf]
 exact TA.of K (flight_some N G)
theorem pass_ok {α:Type} {Q:α→Sx→Prop} {fl:Value} (K:Calm A hd lv) (hf:env.frame=some f) (G:E (.ref e) ⟨ch,(e,excK X p (.ref tb) cx)::(tb,tbO f (rawInt f) c)::l,r⟩):TA (C0 w B) h₀ A ⟨ch,(e,excK X p (.ref tb) cx)::(tb,tbO f fl c)::l,r⟩ (PySem.passOn "try.finally" (.ref e) env) Q E:=by
 unfold PySem.passOn
 refine TA.bind (TA.of K (hd:=hd) (lv:=lv) ?_)
 refine HT.val0 N [1] (a:=.ref tb) (by kernel_rfl) ?_
 refine TA.ite_neg (by simp) ?_
 rw [hf]
 refine TA.bind (TA.of K (flight_some N ?_))
 exact fun b tk g d os h D=>wpAny_throw ⟨_,⟨b,tk,h,rfl,D⟩,G⟩
end
section
variable {C:Cfg} {h₀:Heap} {hd:Option Value} {lv:Nat} {x:Sx} {E:Value→Sx→Prop}
theorem HT.eqD {p q:Addr} {kp kq:KV} {Q:Value→Sx→Prop} (hp:PairAt x.r p kp) (hq:PairAt x.r q kq) (fp:Fine kp) (fq:Fine kq) (hlv:1≤lv) (G:Q (.bool (kp == kq)) x):HT C h₀ hd lv x (compareOp .Eq (.ref p) (.ref q)) Q E:=by
 refine HT.lib fun A g d os bb tk h K D=>?_
 show wpAny _ A (richCompare .Eq (.ref p) (.ref q)) _ _ _
 refine PySem.SeqAt.eqOverData C.prog C.w A _ ⟨h,g,d,tk,os⟩ (.ref p) (.ref q) (dP kp) (dP kq) [] [] _ (pair_reads D hp) (pair_reads D hq) (lay_dP kp) (lay_dP kq) ?_ ?_
 ·have:=K.units
  have h1:=depth_dP kp
  have:=Nat.min_le_left (dP kp).depth (dP kq).depth
  lia
 ·rw [eqv_dP fp fq]
  exact ⟨x,⟨bb,tk,h,rfl,D⟩,G⟩
theorem HT.eqStr {X Y:List Nat} {t u:Tok} {Q:Bool→Sx→Prop} (G:Q (decide (X=Y)) x):HT C h₀ hd lv x (eqBool (.str (S X) t) (.str (S Y) u)) Q E :=
 HT.lib fun A g d os b tk h K D=>wpAny_eqBool_str ⟨x,⟨b,tk,h,rfl,D⟩,by
  have:decide (S X=S Y)=decide (X=Y):=by
   by_cases e:X=Y
   ·subst e;simp
   ·have:S X≠S Y:=fun h=>e (by have:=congrArg (fun s:Str=>s.cps.toList) h;exact this)
    simp [e,this]
  rw [this];exact G⟩
theorem HT.richGtS {X Y:List Nat} {t u:Tok} {Q:Value→Sx→Prop} (G:Q (.bool (decide (Y<X))) x):HT C h₀ hd lv x (richCompare .Gt (.str (S X) t) (.str (S Y) u)) Q E :=
 HT.lib fun A g d os b tk h K D=>PySem.P.gt_str (Q:=fun a s'=>∃ x',Stands C h₀ x' g d os s'∧Q a x') ⟨x,⟨b,tk,h,rfl,D⟩,G⟩
theorem HT.richLtS {X Y:List Nat} {t u:Tok} {Q:Value→Sx→Prop} (G:Q (.bool (decide (X<Y))) x):HT C h₀ hd lv x (richCompare .Lt (.str (S X) t) (.str (S Y) u)) Q E :=
 HT.lib fun A g d os b tk h K D=>lt_str (Q:=fun a s'=>∃ x',Stands C h₀ x' g d os s'∧Q a x') ⟨x,⟨b,tk,h,rfl,D⟩,G⟩
end
noncomputable def ltX (a b:List Nat×List Nat):Bool:=if a.1=b.1 then (if a.2=b.2 then false else decide (a.2<b.2)) else decide (a.1<b.1)
theorem ltTree (p q:Addr):Builtin.«tuple.__lt__» ⟨[.ref p,.ref q],[]⟩=(do
 let (a,[b]) ← slotArgs "__lt__" 1 ⟨[.ref p,.ref q],[]⟩ | unsupported "internal:tuple.compare"
 if !(← isInstance b (.type "tuple")) then return ← ret .notImplemented
 let xs ← Builtin.Tuple.tupleItemsOf a
 let ys ← Builtin.Tuple.tupleItemsOf b
 for (x,y) in xs.toList.zip ys.toList do
  if !(← eqBool x y) then
   match CmpOp.Lt with
   | .Eq=>return ← ret (.bool false)
   | .NotEq=>return ← ret (.bool true)
   | _=>rule "tuple.compare.by-the-first-pair-that-differs";return ← ret (← richCompare .Lt x y)
 ret (Builtin.Tuple.tupleCompareSizes .Lt xs.size ys.size)):=rfl
theorem gtTree (p q:Addr):Builtin.«tuple.__gt__» ⟨[.ref p,.ref q],[]⟩=(do
 let (a,[b]) ← slotArgs "__gt__" 1 ⟨[.ref p,.ref q],[]⟩ | unsupported "internal:tuple.compare"
 if !(← isInstance b (.type "tuple")) then return ← ret .notImplemented
 let xs ← Builtin.Tuple.tupleItemsOf a
 let ys ← Builtin.Tuple.tupleItemsOf b
 for (x,y) in xs.toList.zip ys.toList do
  if !(← eqBool x y) then
   match CmpOp.Gt with
   | .Eq=>return ← ret (.bool false)
   | .NotEq=>return ← ret (.bool true)
   | _=>rule "tuple.compare.by-the-first-pair-that-differs";return ← ret (← richCompare .Gt x y)
 ret (Builtin.Tuple.tupleCompareSizes .Gt xs.size ys.size)):=rfl
section
variable {w:World} {B:Hab} {h₀:Heap} (N:NatOk (C0 w B) h₀) {l r:Memo} {ch:Ch} {p q:Addr} {X1 X2 Y1 Y2:List Nat} {u1 u2 v1 v2:Tok} {E:Value→Sx→Prop}
include N
theorem tup_lt0 {R:Result→Sx→Prop} (G:R (.ok (.ret (.bool (ltX (X1,X2) (Y1,Y2))))) ⟨ch,l,(p,tupO #[.str (S X1) u1,.str (S X2) u2])::(q,tupO #[.str (S Y1) v1,.str (S Y2) v2])::r⟩) :
  HC (C0 w B) h₀ none 4 ⟨ch,l,(p,tupO #[.str (S X1) u1,.str (S X2) u2])::(q,tupO #[.str (S Y1) v1,.str (S Y2) v2])::r⟩ (.call (.builtin "tuple.__lt__") ⟨[.ref p,.ref q],[]⟩) R:=by
 unfold ltX at G
 dsimp only at G
 refine HC.tree (lv:=3) (w:=0) (by kernel_rfl) ?_
 refine HT.val0 N [2] (a:=PySem.Fin.again (.builtin "tuple.__lt__" ⟨[.ref p,.ref q],[]⟩)) (by kernel_rfl) ?_
 refine ⟨by kernel_rfl,?_⟩
 refine HC.bodyB (lv:=3) (w:=0) (by kernel_rfl) (Bt:=Builtin.«tuple.__lt__») (entryFor_of_fast (by kernel_rfl)) ?_
 rw [ltTree]
 refine HT.bindV0 N [] (a:=⟨.ref p,[.ref q]⟩) (by kernel_rfl) ?_
 refine HT.bindV0 N [4] (a:=true) (by kernel_rfl) ?_
 refine HT.ite_neg (of_decide_eq_false (by kernel_rfl)) ?_
 refine HT.bindV0 N [2] (a:=#[.str (S (X1)) u1,.str (S (X2)) u2]) (by kernel_rfl) ?_
 refine HT.bindV0 N [4] (a:=#[.str (S (Y1)) v1,.str (S (Y2)) v2]) (by kernel_rfl) ?_
 refine HT.bind ?_
 show HT _ _ _ _ _ (forIn [(Value.str (S X1) u1,Value.str (S Y1) v1),(Value.str (S X2) u2,Value.str (S Y2) v2)] _ _) _ _
 simp only [List.forIn_cons,List.forIn_nil]
 refine HT.bind (HT.bind (HT.eqStr ?_))
 by_cases h1:X1=Y1
 ·rw [if_pos h1] at G
  rw [decide_eq_true h1]
  refine HT.ite_neg (by decide) (HT.pure' ?_)
  dsimp only
  refine HT.bind (HT.bind (HT.eqStr ?_))
  by_cases h2:X2=Y2
  ·rw [if_pos h2] at G
   rw [decide_eq_true h2]
   refine HT.ite_neg (by decide) (HT.pure' ?_)
   dsimp only
   refine HT.pure' ?_
   exact HT.pure' G
  ·rw [if_neg h2] at G
   rw [decide_eq_false h2]
   refine HT.ite_pos (by decide) ?_
   refine HT.bindV0 N [] (a:=()) (by kernel_rfl) ?_
   refine HT.bind (HT.richLtS ?_)
   refine HT.bind (HT.pure' (HT.pure' ?_))
   exact HT.pure' (HT.pure' G)
 ·rw [if_neg h1] at G
  rw [decide_eq_false h1]
  refine HT.ite_pos (by decide) ?_
  refine HT.bindV0 N [] (a:=()) (by kernel_rfl) ?_
  refine HT.bind (HT.richLtS ?_)
  refine HT.bind (HT.pure' (HT.pure' ?_))
  exact HT.pure' (HT.pure' G)
theorem tup_lt {Q:Value→Sx→Prop} (hp:(p,tupO #[.str (S X1) u1,.str (S X2) u2])∈r) (hq:(q,tupO #[.str (S Y1) v1,.str (S Y2) v2])∈r) (G:Q (.bool (ltX (X1,X2) (Y1,Y2))) ⟨ch,l,r⟩) :
  HT (C0 w B) h₀ none 10 ⟨ch,l,r⟩ (compareOp .Lt (.ref p) (.ref q)) Q E:=by
 refine HT.less_r (HT.reads (r:=(p,tupO #[.str (S X1) u1,.str (S X2) u2])::(q,tupO #[.str (S Y1) v1,.str (S Y2) v2])::r) (Sub.cons hp (Sub.cons hq (Sub.refl _))) ?_)
 show HT _ _ _ _ _ (richCompare .Lt (.ref p) (.ref q)) _ _
 unfold richCompare
 simp only [oneThing_ref]
 refine HT.holding ?_
 refine HT.bind (HT.lib fun Aa ga da oa bb tka ha KK Da=>wpAny_cRoomFor (Nat.lt_of_le_of_lt (Nat.le_add_right _ _) KK.units) ⟨_,⟨bb,tka,ha,rfl,Da⟩,?_⟩)
 refine HT.bindV0 N [2] (a:=.type "tuple") (by kernel_rfl) ?_
 refine HT.bindV0 N [4] (a:=.type "tuple") (by kernel_rfl) ?_
 refine HT.ite_neg (of_decide_eq_false (by kernel_rfl)) ?_
 refine HT.bindV0 N [] (a:=false) (by kernel_rfl) ?_
 refine HT.ite_neg (of_decide_eq_false (by kernel_rfl)) ?_
 (
  refine HT.cut0 N [2] (c:=.call (.builtin "tuple.__lt__") ⟨[.ref p,.ref q],[]⟩) (by exact Hab.two B (by kernel_rfl) (by kernel_rfl)) fun b tk=>?_
  refine HC.less (lv:=4) (tup_lt0 N ?_) (by decide)
  refine HT.val0 N [] (a:=Value.bool (ltX (X1,X2) (Y1,Y2))) (by exact Hab.two B (by kernel_rfl) (by kernel_rfl)) ?_
  exact ⟨r,Sub.tail.trans Sub.tail,G⟩)
theorem tup_gt0 {R:Result→Sx→Prop} (G:R (.ok (.ret (.bool (ltX (Y1,Y2) (X1,X2))))) ⟨ch,l,(p,tupO #[.str (S X1) u1,.str (S X2) u2])::(q,tupO #[.str (S Y1) v1,.str (S Y2) v2])::r⟩) :
  HC (C0 w B) h₀ none 4 ⟨ch,l,(p,tupO #[.str (S X1) u1,.str (S X2) u2])::(q,tupO #[.str (S Y1) v1,.str (S Y2) v2])::r⟩ (.call (.builtin "tuple.__gt__") ⟨[.ref p,.ref q],[]⟩) R:=by
 unfold ltX at G
 dsimp only at G
 refine HC.tree (lv:=3) (w:=0) (by kernel_rfl) ?_
 refine HT.val0 N [2] (a:=PySem.Fin.again (.builtin "tuple.__gt__" ⟨[.ref p,.ref q],[]⟩)) (by kernel_rfl) ?_
 refine ⟨by kernel_rfl,?_⟩
 refine HC.bodyB (lv:=3) (w:=0) (by kernel_rfl) (Bt:=Builtin.«tuple.__gt__») (entryFor_of_fast (by kernel_rfl)) ?_
 rw [gtTree]
 refine HT.bindV0 N [] (a:=⟨.ref p,[.ref q]⟩) (by kernel_rfl) ?_
 refine HT.bindV0 N [4] (a:=true) (by kernel_rfl) ?_
 refine HT.ite_neg (of_decide_eq_false (by kernel_rfl)) ?_
 refine HT.bindV0 N [2] (a:=#[.str (S (X1)) u1,.str (S (X2)) u2]) (by kernel_rfl) ?_
 refine HT.bindV0 N [4] (a:=#[.str (S (Y1)) v1,.str (S (Y2)) v2]) (by kernel_rfl) ?_
 refine HT.bind ?_
 show HT _ _ _ _ _ (forIn [(Value.str (S X1) u1,Value.str (S Y1) v1),(Value.str (S X2) u2,Value.str (S Y2) v2)] _ _) _ _
 simp only [List.forIn_cons,List.forIn_nil]
 refine HT.bind (HT.bind (HT.eqStr ?_))
 by_cases h1:X1=Y1
 ·rw [if_pos h1.symm] at G
  rw [decide_eq_true h1]
  refine HT.ite_neg (by decide) (HT.pure' ?_)
  dsimp only
  refine HT.bind (HT.bind (HT.eqStr ?_))
  by_cases h2:X2=Y2
  ·rw [if_pos h2.symm] at G
   rw [decide_eq_true h2]
   refine HT.ite_neg (by decide) (HT.pure' ?_)
   dsimp only
   refine HT.pure' ?_
   exact HT.pure' G
  ·rw [if_neg (fun h=>h2 h.symm)] at G
   rw [decide_eq_false h2]
   refine HT.ite_pos (by decide) ?_
   refine HT.bindV0 N [] (a:=()) (by kernel_rfl) ?_
   refine HT.bind (HT.richGtS ?_)
   refine HT.bind (HT.pure' (HT.pure' ?_))
   exact HT.pure' (HT.pure' G)
 ·rw [if_neg (fun h=>h1 h.symm)] at G
  rw [decide_eq_false h1]
  refine HT.ite_pos (by decide) ?_
  refine HT.bindV0 N [] (a:=()) (by kernel_rfl) ?_
  refine HT.bind (HT.richGtS ?_)
  refine HT.bind (HT.pure' (HT.pure' ?_))
  exact HT.pure' (HT.pure' G)
theorem tup_gt {Q:Value→Sx→Prop} (hp:(p,tupO #[.str (S X1) u1,.str (S X2) u2])∈r) (hq:(q,tupO #[.str (S Y1) v1,.str (S Y2) v2])∈r) (G:Q (.bool (ltX (Y1,Y2) (X1,X2))) ⟨ch,l,r⟩) :
  HT (C0 w B) h₀ none 10 ⟨ch,l,r⟩ (compareOp .Gt (.ref p) (.ref q)) Q E:=by
 refine HT.less_r (HT.reads (r:=(p,tupO #[.str (S X1) u1,.str (S X2) u2])::(q,tupO #[.str (S Y1) v1,.str (S Y2) v2])::r) (Sub.cons hp (Sub.cons hq (Sub.refl _))) ?_)
 show HT _ _ _ _ _ (richCompare .Gt (.ref p) (.ref q)) _ _
 unfold richCompare
 simp only [oneThing_ref]
 refine HT.holding ?_
 refine HT.bind (HT.lib fun Aa ga da oa bb tka ha KK Da=>wpAny_cRoomFor (Nat.lt_of_le_of_lt (Nat.le_add_right _ _) KK.units) ⟨_,⟨bb,tka,ha,rfl,Da⟩,?_⟩)
 refine HT.bindV0 N [2] (a:=.type "tuple") (by kernel_rfl) ?_
 refine HT.bindV0 N [4] (a:=.type "tuple") (by kernel_rfl) ?_
 refine HT.ite_neg (of_decide_eq_false (by kernel_rfl)) ?_
 refine HT.bindV0 N [] (a:=false) (by kernel_rfl) ?_
 refine HT.ite_neg (of_decide_eq_false (by kernel_rfl)) ?_
 (
  refine HT.cut0 N [2] (c:=.call (.builtin "tuple.__gt__") ⟨[.ref p,.ref q],[]⟩) (by exact Hab.two B (by kernel_rfl) (by kernel_rfl)) fun b tk=>?_
  refine HC.less (lv:=4) (tup_gt0 N ?_) (by decide)
  refine HT.val0 N [] (a:=Value.bool (ltX (Y1,Y2) (X1,X2))) (by exact Hab.two B (by kernel_rfl) (by kernel_rfl)) ?_
  exact ⟨r,Sub.tail.trans Sub.tail,G⟩)
end
noncomputable abbrev nExp:Str:=S [101,120,112,101,99,116,101,100]
noncomputable abbrev nAct:Str:=S [97,99,116,117,97,108]
noncomputable abbrev nI:Str:=S [105]
noncomputable abbrev nJ:Str:=S [106]
noncomputable abbrev nMis:Str:=S [109,105,115,115,105,110,103]
noncomputable abbrev nUne:Str:=S [117,110,101,120,112,101,99,116,101,100]
noncomputable abbrev nE:Str:=S [101]
noncomputable abbrev nA:Str:=S [97]
noncomputable abbrev slB (C:Cfg) (i:Nat):Stmt:=nthS (stmts C 110) i
noncomputable abbrev slTry (C:Cfg):Stmt:=nthS (whBody (slB C 3)) 0
noncomputable abbrev stB (C:Cfg) (i:Nat):Stmt:=nthS (tryBody (slTry C)) i
structure SlT where
 t1:Tok
 t2:Tok
 t3:Tok
 t4:Tok
 t5:Tok
 t6:Tok
 ti:Tok
 tj:Tok
noncomputable def hdT:List ExceptHandler→PySem.Expr
 | .ExceptHandler (some t) _ _ _::_=>t
 | _=>default
noncomputable def hdB:List ExceptHandler→List Stmt
 | .ExceptHandler _ _ b _::_=>b
 | _=>[]
noncomputable def hdP:List ExceptHandler→Pos
 | .ExceptHandler _ _ _ p::_=>p
 | _=>default
noncomputable abbrev slEs (w:World) (T:SlT) (x1 x2 i j mi un:Nat) (rest:List DictEntry):Array DictEntry:=(ent w nExp T.t1 (.ref x1)::ent w nAct T.t2 (.ref x2)::ent w nI T.t3 (.int (Int.ofNat i) T.ti)::ent w nJ T.t4 (.int (Int.ofNat j) T.tj)::ent w nMis T.t5 (.ref mi)::ent w nUne T.t6 (.ref un)::rest).toArray
noncomputable abbrev eaEs (w:World) (t7 t8:Tok) (e a:Nat):List DictEntry:=[ent w nE t7 (.ref e),ent w nA t8 (.ref a)]
theorem HC.extendL {C:Cfg} {h₀:Heap} {hd:Option Value} {lv:Nat} {R:Result→Sx→Prop} {ch:Ch} {l r:Memo} {m p:Addr} {xs its:Array Value} {n k:Nat} (hp:(p,listO its k)∈l ∨ (p,listO its k)∈r) (hz:xs.size+its.size≤1000000)
  (G:∀ n',R (.ok (.ret .none)) ⟨ch,(m,listO (xs ++ its) n')::l,r⟩):HC C h₀ hd (lv+1) ⟨ch,(m,listO xs n)::l,r⟩ (.call (.builtin "list.extend") ⟨[.ref m,.ref p],[]⟩) R:=by
 refine HC.bodyS F.slot_list_extend F.entry_list_extend (F.args_list_extend_2 _ _) (fun g d os b tk h D=>⟨_,D.mem _ (.head _),rfl⟩) ?_
 refine HT.ofEq (t':=Builtin.List.listExtendWith (.ref m) (.ref p) .none) rfl ?_
 refine HT.lib fun A g d os b tk h K D=>?_
 unfold Builtin.List.listExtendWith
 have ho:h.get? p=some (listO its k):=Sx.mem_get (x:=⟨ch,(m,listO xs n)::l,r⟩) (hp.imp (.tail _) id) D
 have hm:=D.mem _ (.head _)
 refine wpAny_bind (wpAny_typeOf (T:="list") ⟨_,ho,rfl⟩ ?_)
 have ht:(Value.type "list" == Value.type "list")=true:=by rfl
 rw [if_pos (by rw [ht];simp)]
 refine wpAny_bind (listItems_at ho rfl ?_)
 refine wpAny_bind (listItems_at hm rfl ?_)
 have hlt:Builtin.List.listTooLong (xs.size+its.size)=false:=by
  unfold Builtin.List.listTooLong
  exact decide_eq_false (by rw [sizeLine_eq];lia)
 rw [if_neg (by rw [hlt];simp)]
 refine wpAny_bind (listUpdate_at hm rfl ?_ (by rw [sizeLine_eq];lia) (by show (xs ++ its).size≤sizeLine+1;rw [Array.size_append,sizeLine_eq];lia))
 refine wpAny_pure ?_
 obtain ⟨n',e⟩:∃ n',Obj.mapSeq (fun xs=>xs ++ its) (listO xs n)=listO (xs ++ its) n':=⟨if (xs ++ its).size == xs.size then n else n+1,rfl⟩
 exact ⟨_,⟨b,tk,_,rfl,update_first (f:=Obj.mapSeq (· ++ its)) D e rfl⟩,G n'⟩
theorem sliceFrom (ads:List Addr) (i:Nat):slicePick (refs ads) (some (Int.ofNat i)) none none=refs (ads.drop i):=by
 have h:=slicePick_from' (refs ads) i
 refine h.trans ?_
 simp [refs,List.map_drop]
theorem refs_app (a b:List Addr):refs a ++ refs b=refs (a ++ b):=by simp [refs]
section
variable {w:World} {B:Hab} {h₀:Heap} (N:NatOk (C0 w B) h₀) {l r:Memo} {ch:Ch} {x1 x2 f mi un i j nf n1 n2 nm nu e:Nat} {T:SlT} {sl:Array (Option Value)} {a1 a2 ms us:List Addr} {rest:List DictEntry}
theorem slTry_eq:slTry (C0 w B) = .Try [stB (C0 w B) 0,stB (C0 w B) 1,stB (C0 w B) 2] [.ExceptHandler (some (hdT (tryHs (slTry (C0 w B))))) none [nthS (hdB (tryHs (slTry (C0 w B)))) 0,nthS (hdB (tryHs (slTry (C0 w B)))) 1,nthS (hdB (tryHs (slTry (C0 w B)))) 2] (hdP (tryHs (slTry (C0 w B))))] [] [] (tryPos (slTry (C0 w B))):=by kernel_rfl
include N
theorem sl_suite {Q:Flow→Sx→Prop} {eo:Obj} (h1:a1.length≤50) (h2:a2.length≤50) (h3:ms.length≤50) (h4:us.length≤50)
  (G:∀ nm' nu',Q .brk ⟨ch,(f,frameS sl (slEs w T x1 x2 i j mi un rest) nf)::(mi,listO (refs (ms ++ a1.drop i)) nm')::(un,listO (refs (us ++ a2.drop j)) nu')::(x1,listO (refs a1) n1)::(x2,listO (refs a2) n2)::l,r⟩) :
  HT (C0 w B) h₀ (some (.ref e)) 50 ⟨ch,(f,frameS sl (slEs w T x1 x2 i j mi un rest) nf)::(mi,listO (refs ms) nm)::(un,listO (refs us) nu)::(x1,listO (refs a1) n1)::(x2,listO (refs a2) n2)::l,r⟩
   (execsZ [nthS (hdB (tryHs (slTry (C0 w B)))) 0,nthS (hdB (tryHs (slTry (C0 w B)))) 1,nthS (hdB (tryHs (slTry (C0 w B)))) 2] (envSl (C0 w B) f)) Q (fun vz0 vz1=>False):=by
 have z1:=refs_size a1
 have z2:=refs_size a2
 intro b tk
 refine HTa.cut N [1,3,3,3,3,1,1,9,9,9] [0,1,2,3,4,5] 6 [] (c:=.call (.builtin "list.__getitem__") ⟨[.ref x1,.ref b],[]⟩) (l:=(b,{ cls:=.type "slice",data:=.fields #[.int (Int.ofNat i) T.7,.none,.none] })::(f,frameS sl (slEs w T x1 x2 i j mi un rest) nf)::(mi,listO (refs ms) nm)::(un,listO (refs us) nu)::(x1,listO (refs a1) n1)::(x2,listO (refs a2) n2)::l) (r:=r) (ch:=ch) (by kernel_rfl) rfl (by intro h;cases h) ?_
 refine HC.sliceL (.inl (.tail _ (.tail _ (.tail _ (.tail _ (.head _)))))) (.head _) (.int _ _) .none .none (by simp) (by lia) fun p=>?_
 rw [sliceFrom]
 intro b tk
 refine HTa.cut N [] [3,0,2,4,5,6] 7 [] (c:=.call (.builtin "list.extend") ⟨[.ref mi,.ref p],[]⟩) (l:=(mi,listO (refs ms) nm)::(p,listO (refs (List.drop i a1)) 0)::(f,frameS sl (slEs w T x1 x2 i j mi un rest) nf)::(un,listO (refs us) nu)::(x1,listO (refs a1) n1)::(x2,listO (refs a2) n2)::l) (r:=r) (ch:=ch) (by kernel_rfl) rfl (by intro h;cases h) ?_
 refine HC.extendL (.inl (.head _)) (by rw [refs_size,refs_size,List.length_drop];lia) fun nm'=>?_
 rw [refs_app]
 intro b tk
 refine HTa.cut N [5,7,7,7,7,5,5,13,13,13] [0,1,3,4,5,6] 7 [] (c:=.call (.builtin "list.__getitem__") ⟨[.ref x2,.ref b],[]⟩) (l:=(b,{ cls:=.type "slice",data:=.fields #[.int (Int.ofNat j) T.8,.none,.none] })::(mi,listO (refs (ms ++ List.drop i a1)) nm')::(f,frameS sl (slEs w T x1 x2 i j mi un rest) nf)::(un,listO (refs us) nu)::(x1,listO (refs a1) n1)::(x2,listO (refs a2) n2)::l) (r:=r) (ch:=ch) (by kernel_rfl) rfl (by intro h;cases h) ?_
 refine HC.sliceL (.inl (.tail _ (.tail _ (.tail _ (.tail _ (.tail _ (.head _))))))) (.head _) (.int _ _) .none .none (by simp) (by lia) fun p=>?_
 rw [sliceFrom]
 intro b tk
 refine HTa.cut N [] [4,0,2,3,5,6] 7 [] (c:=.call (.builtin "list.extend") ⟨[.ref un,.ref p],[]⟩) (l:=(un,listO (refs us) nu)::(p,listO (refs (List.drop j a2)) 0)::(mi,listO (refs (ms ++ List.drop i a1)) nm')::(f,frameS sl (slEs w T x1 x2 i j mi un rest) nf)::(x1,listO (refs a1) n1)::(x2,listO (refs a2) n2)::l) (r:=r) (ch:=ch) (by kernel_rfl) rfl (by intro h;cases h) ?_
 refine HC.extendL (.inl (.head _)) (by rw [refs_size,refs_size,List.length_drop];lia) fun nu'=>?_
 rw [refs_app]
 intro b tk
 refine HTa.val N [] [3,2,0,4,5] 6 [] (a:=Flow.brk) (l:=(f,frameS sl (slEs w T x1 x2 i j mi un rest) nf)::(mi,listO (refs (ms ++ List.drop i a1)) nm')::(un,listO (refs (us ++ List.drop j a2)) nu')::(x1,listO (refs a1) n1)::(x2,listO (refs a2) n2)::l) (r:=r) (ch:=ch) (by kernel_rfl) rfl ?_
 exact G _ _
end
noncomputable abbrev ifA (C:Cfg):Stmt:=stB C 2
noncomputable abbrev ifB (C:Cfg):Stmt:=nthS (ifElse (ifA C)) 0
noncomputable abbrev saB (C:Cfg) (i:Nat):Stmt:=nthS (ifBody (ifA C)) i
noncomputable abbrev sbB (C:Cfg) (i:Nat):Stmt:=nthS (ifBody (ifB C)) i
noncomputable abbrev scB (C:Cfg) (i:Nat):Stmt:=nthS (ifElse (ifB C)) i
noncomputable abbrev swB (C:Cfg):Stmt:=nthS (tryBody (scB C 1)) 0
noncomputable abbrev sfB (C:Cfg) (i:Nat):Stmt:=nthS (tryFin (scB C 1)) i
theorem i63 {i:Nat} (h:i≤50):Int.ofNat i<2 ^ 63:=by
 rw [Int.ofNat_eq_natCast];lia
theorem refs_at {ads:List Addr} {i:Nat} {e:Addr} (h:ads[i]? = some e):(refs ads)[i]? = some (.ref e):=by
 rw [List.getElem?_toArray,List.getElem?_map,h];rfl
theorem refs_out {ads:List Addr} {i:Nat} (h:ads.length≤i):(refs ads)[i]? = none:=by
 rw [Array.getElem?_eq_none];rw [refs_size];exact h
section
variable {w:World} {B:Hab} {h₀:Heap} (N:NatOk (C0 w B) h₀) {l r:Memo} {ch:Ch} {hd:Option Value} {x1 x2 f g mi un i j n1 n2 nm nu e a:Nat} {T:SlT} {slf:Array (Option Value)} {a1 a2 ms us:List Addr} {ke ka kv:KV} {t7 t8:Tok} {lf:Obj} {Q:Flow→Sx→Prop} {QB:Bool→Sx→Prop} {E:Value→Sx→Prop} {rest:List DictEntry} {nf:Nat}
include N
theorem sl_e0 {e' a':Nat} (hn:a1.length≤50) (he:a1[i]? = some e) (G:∀ (t7 t8:Tok),Q .next ⟨ch,(f,frameS slf (slEs w T x1 x2 i j mi un [ent w nE t7 (.ref e)]) 7)::(g,lf)::(mi,listO (refs ms) nm)::(un,listO (refs us) nu)::(x1,listO (refs a1) n1)::(x2,listO (refs a2) n2)::l,r⟩) :
  HT (C0 w B) h₀ none 50 ⟨ch,(f,frameS slf (slEs w T x1 x2 i j mi un []) 6)::(g,lf)::(mi,listO (refs ms) nm)::(un,listO (refs us) nu)::(x1,listO (refs a1) n1)::(x2,listO (refs a2) n2)::l,r⟩ (execsZ [stB (C0 w B) 0] (envSl (C0 w B) f)) Q E:=by
 have hi:i<a1.length:=(List.getElem?_eq_some_iff.mp he).1
 refine HT.cut0 N [1,1,9,9,9] (c:=.call (.builtin "list.__getitem__") ⟨[.ref x1,.int (Int.ofNat i) T.7],[]⟩) (by kernel_rfl) fun b tk=>?_
 refine HC.getItem (v:=.ref e) (.inl (.tail _ (.tail _ (.tail _ (.tail _ (.head _)))))) (Int.natCast_nonneg i) (i63 (by lia)) (refs_at he) ?_
 intro b tk
 refine HTa.val N [1,1] [0,1,2,3,4,5] 6 [] (a:=.next) (l:=(f,{ cls:=.type "frame",data:=.dict #[ent w (S [101,120,112,101,99,116,101,100]) T.1 (.ref x1),ent w (S [97,99,116,117,97,108]) T.2 (.ref x2),ent w (S [105]) T.3 (.int (Int.ofNat i) T.7),ent w (S [106]) T.4 (.int (Int.ofNat j) T.8),ent w (S [109,105,115,115,105,110,103]) T.5 (.ref mi),ent w (S [117,110,101,120,112,101,99,116,101,100]) T.6 (.ref un),ent w (S [101]) tk (.ref e)] 7,slots:=(slf) })::(g,lf)::(mi,listO (refs ms) nm)::(un,listO (refs us) nu)::(x1,listO (refs a1) n1)::(x2,listO (refs a2) n2)::l) (r:=r) (ch:=ch) (by kernel_rfl) rfl ?_
 exact G _ 0
theorem sl_e1 {e' a':Nat} (hn:a1.length≤50) (he:a1[i]? = some e) (G:∀ (t7 t8:Tok),Q .next ⟨ch,(f,frameS slf (slEs w T x1 x2 i j mi un (eaEs w t7 t8 e a')) 8)::(g,lf)::(mi,listO (refs ms) nm)::(un,listO (refs us) nu)::(x1,listO (refs a1) n1)::(x2,listO (refs a2) n2)::l,r⟩) :
  HT (C0 w B) h₀ none 50 ⟨ch,(f,frameS slf (slEs w T x1 x2 i j mi un (eaEs w t7 t8 e' a')) 8)::(g,lf)::(mi,listO (refs ms) nm)::(un,listO (refs us) nu)::(x1,listO (refs a1) n1)::(x2,listO (refs a2) n2)::l,r⟩ (execsZ [stB (C0 w B) 0] (envSl (C0 w B) f)) Q E:=by
 have hi:i<a1.length:=(List.getElem?_eq_some_iff.mp he).1
 refine HT.cut0 N [1,1,9,9,9] (c:=.call (.builtin "list.__getitem__") ⟨[.ref x1,.int (Int.ofNat i) T.7],[]⟩) (by kernel_rfl) fun b tk=>?_
 refine HC.getItem (v:=.ref e) (.inl (.tail _ (.tail _ (.tail _ (.tail _ (.head _)))))) (Int.natCast_nonneg i) (i63 (by lia)) (refs_at he) ?_
 intro b tk
 refine HTa.val N [1,1] [0,1,2,3,4,5] 6 [] (a:=.next) (l:=(f,{ cls:=.type "frame",data:=.dict #[ent w (S [101,120,112,101,99,116,101,100]) T.1 (.ref x1),ent w (S [97,99,116,117,97,108]) T.2 (.ref x2),ent w (S [105]) T.3 (.int (Int.ofNat i) T.7),ent w (S [106]) T.4 (.int (Int.ofNat j) T.8),ent w (S [109,105,115,115,105,110,103]) T.5 (.ref mi),ent w (S [117,110,101,120,112,101,99,116,101,100]) T.6 (.ref un),ent w (S [101]) t7 (.ref e),ent w (S [97]) t8 (.ref a')] 8,slots:=(slf) })::(g,lf)::(mi,listO (refs ms) nm)::(un,listO (refs us) nu)::(x1,listO (refs a1) n1)::(x2,listO (refs a2) n2)::l) (r:=r) (ch:=ch) (by kernel_rfl) rfl ?_
 exact G _ _
theorem sl_a0 {e' a':Nat} (hn:a2.length≤50) (he:a2[j]? = some a) (G:∀ (t7 t8:Tok),Q .next ⟨ch,(f,frameS slf (slEs w T x1 x2 i j mi un (eaEs w t7 t8 e a)) 8)::(g,lf)::(mi,listO (refs ms) nm)::(un,listO (refs us) nu)::(x1,listO (refs a1) n1)::(x2,listO (refs a2) n2)::l,r⟩) :
  HT (C0 w B) h₀ none 50 ⟨ch,(f,frameS slf (slEs w T x1 x2 i j mi un [ent w nE t7 (.ref e)]) 7)::(g,lf)::(mi,listO (refs ms) nm)::(un,listO (refs us) nu)::(x1,listO (refs a1) n1)::(x2,listO (refs a2) n2)::l,r⟩ (execsZ [stB (C0 w B) 1] (envSl (C0 w B) f)) Q E:=by
 have hi:j<a2.length:=(List.getElem?_eq_some_iff.mp he).1
 refine HT.cut0 N [1,1,11,11,11] (c:=.call (.builtin "list.__getitem__") ⟨[.ref x2,.int (Int.ofNat j) T.8],[]⟩) (by kernel_rfl) fun b tk=>?_
 refine HC.getItem (v:=.ref a) (.inl (.tail _ (.tail _ (.tail _ (.tail _ (.tail _ (.head _))))))) (Int.natCast_nonneg j) (i63 (by lia)) (refs_at he) ?_
 intro b tk
 refine HTa.val N [1,1] [0,1,2,3,4,5] 6 [] (a:=.next) (l:=(f,{ cls:=.type "frame",data:=.dict #[ent w (S [101,120,112,101,99,116,101,100]) T.1 (.ref x1),ent w (S [97,99,116,117,97,108]) T.2 (.ref x2),ent w (S [105]) T.3 (.int (Int.ofNat i) T.7),ent w (S [106]) T.4 (.int (Int.ofNat j) T.8),ent w (S [109,105,115,115,105,110,103]) T.5 (.ref mi),ent w (S [117,110,101,120,112,101,99,116,101,100]) T.6 (.ref un),ent w (S [101]) t7 (.ref e),ent w (S [97]) tk (.ref a)] 8,slots:=(slf) })::(g,lf)::(mi,listO (refs ms) nm)::(un,listO (refs us) nu)::(x1,listO (refs a1) n1)::(x2,listO (refs a2) n2)::l) (r:=r) (ch:=ch) (by kernel_rfl) rfl ?_
 exact G _ _
theorem sl_a1 {e' a':Nat} (hn:a2.length≤50) (he:a2[j]? = some a) (G:∀ (t7 t8:Tok),Q .next ⟨ch,(f,frameS slf (slEs w T x1 x2 i j mi un (eaEs w t7 t8 e a)) 8)::(g,lf)::(mi,listO (refs ms) nm)::(un,listO (refs us) nu)::(x1,listO (refs a1) n1)::(x2,listO (refs a2) n2)::l,r⟩) :
  HT (C0 w B) h₀ none 50 ⟨ch,(f,frameS slf (slEs w T x1 x2 i j mi un (eaEs w t7 t8 e a')) 8)::(g,lf)::(mi,listO (refs ms) nm)::(un,listO (refs us) nu)::(x1,listO (refs a1) n1)::(x2,listO (refs a2) n2)::l,r⟩ (execsZ [stB (C0 w B) 1] (envSl (C0 w B) f)) Q E:=by
 have hi:j<a2.length:=(List.getElem?_eq_some_iff.mp he).1
 refine HT.cut0 N [1,1,11,11,11] (c:=.call (.builtin "list.__getitem__") ⟨[.ref x2,.int (Int.ofNat j) T.8],[]⟩) (by kernel_rfl) fun b tk=>?_
 refine HC.getItem (v:=.ref a) (.inl (.tail _ (.tail _ (.tail _ (.tail _ (.tail _ (.head _))))))) (Int.natCast_nonneg j) (i63 (by lia)) (refs_at he) ?_
 intro b tk
 refine HTa.val N [1,1] [0,1,2,3,4,5] 6 [] (a:=.next) (l:=(f,{ cls:=.type "frame",data:=.dict #[ent w (S [101,120,112,101,99,116,101,100]) T.1 (.ref x1),ent w (S [97,99,116,117,97,108]) T.2 (.ref x2),ent w (S [105]) T.3 (.int (Int.ofNat i) T.7),ent w (S [106]) T.4 (.int (Int.ofNat j) T.8),ent w (S [109,105,115,115,105,110,103]) T.5 (.ref mi),ent w (S [117,110,101,120,112,101,99,116,101,100]) T.6 (.ref un),ent w (S [101]) t7 (.ref e),ent w (S [97]) t8 (.ref a)] 8,slots:=(slf) })::(g,lf)::(mi,listO (refs ms) nm)::(un,listO (refs us) nu)::(x1,listO (refs a1) n1)::(x2,listO (refs a2) n2)::l) (r:=r) (ch:=ch) (by kernel_rfl) rfl ?_
 exact G _ _
theorem sl_ex (hi2:i≤50) (hi:a1.length≤i) (G:∀ x p,E (.ref x) ⟨ch,(x,excO p .none .none)::(f,frameS slf (slEs w T x1 x2 i j mi un rest) nf)::(g,lf)::(mi,listO (refs ms) nm)::(un,listO (refs us) nu)::(x1,listO (refs a1) n1)::(x2,listO (refs a2) n2)::l,r⟩) :
  HT (C0 w B) h₀ none 50 ⟨ch,(f,frameS slf (slEs w T x1 x2 i j mi un rest) nf)::(g,lf)::(mi,listO (refs ms) nm)::(un,listO (refs us) nu)::(x1,listO (refs a1) n1)::(x2,listO (refs a2) n2)::l,r⟩ (execsZ [stB (C0 w B) 0] (envSl (C0 w B) f)) Q E:=by
 refine HT.cut0 N [1,1,9,9,9] (c:=.call (.builtin "list.__getitem__") ⟨[.ref x1,.int (Int.ofNat i) T.7],[]⟩) (by kernel_rfl) fun b tk=>?_
 refine HC.less (lv:=2) (getItemX N (.inl (.tail _ (.tail _ (.tail _ (.tail _ (.head _)))))) (Int.natCast_nonneg i) (i63 hi2) (refs_out hi) fun x p=>?_) (by decide)
 intro b tk
 exact HTa.exc N [] [0,1,2,3,4,5,6] 7 [] (a:=.ref x) (l:=(x,excO p .none .none)::(f,frameS slf (slEs w T x1 x2 i j mi un rest) nf)::(g,lf)::(mi,listO (refs ms) nm)::(un,listO (refs us) nu)::(x1,listO (refs a1) n1)::(x2,listO (refs a2) n2)::l) (r:=r) (ch:=ch) (by kernel_rfl) rfl (G _ _)
theorem sl_ax (hi2:j≤50) (hi:a2.length≤j) (G:∀ x p,E (.ref x) ⟨ch,(x,excO p .none .none)::(f,frameS slf (slEs w T x1 x2 i j mi un rest) nf)::(g,lf)::(mi,listO (refs ms) nm)::(un,listO (refs us) nu)::(x1,listO (refs a1) n1)::(x2,listO (refs a2) n2)::l,r⟩) :
  HT (C0 w B) h₀ none 50 ⟨ch,(f,frameS slf (slEs w T x1 x2 i j mi un rest) nf)::(g,lf)::(mi,listO (refs ms) nm)::(un,listO (refs us) nu)::(x1,listO (refs a1) n1)::(x2,listO (refs a2) n2)::l,r⟩ (execsZ [stB (C0 w B) 1] (envSl (C0 w B) f)) Q E:=by
 refine HT.cut0 N [1,1,11,11,11] (c:=.call (.builtin "list.__getitem__") ⟨[.ref x2,.int (Int.ofNat j) T.8],[]⟩) (by kernel_rfl) fun b tk=>?_
 refine HC.less (lv:=2) (getItemX N (.inl (.tail _ (.tail _ (.tail _ (.tail _ (.tail _ (.head _))))))) (Int.natCast_nonneg j) (i63 hi2) (refs_out hi) fun x p=>?_) (by decide)
 intro b tk
 exact HTa.exc N [] [0,1,2,3,4,5,6] 7 [] (a:=.ref x) (l:=(x,excO p .none .none)::(f,frameS slf (slEs w T x1 x2 i j mi un rest) nf)::(g,lf)::(mi,listO (refs ms) nm)::(un,listO (refs us) nu)::(x1,listO (refs a1) n1)::(x2,listO (refs a2) n2)::l) (r:=r) (ch:=ch) (by kernel_rfl) rfl (G _ _)
theorem sl_lt (pe:PairAt r e ke) (pa:PairAt r a ka) (fe:ke.2<5) (fa:ka.2<5) (G:QB (ltX (kvS ke) (kvS ka)) ⟨ch,(f,frameS slf (slEs w T x1 x2 i j mi un (eaEs w t7 t8 e a)) 8)::(g,lf)::(mi,listO (refs ms) nm)::(un,listO (refs us) nu)::(x1,listO (refs a1) n1)::(x2,listO (refs a2) n2)::l,r⟩) :
  HT (C0 w B) h₀ none 50 ⟨ch,(f,frameS slf (slEs w T x1 x2 i j mi un (eaEs w t7 t8 e a)) 8)::(g,lf)::(mi,listO (refs ms) nm)::(un,listO (refs us) nu)::(x1,listO (refs a1) n1)::(x2,listO (refs a2) n2)::l,r⟩ (isTrueZ (ifTest (ifA (C0 w B))) (envSl (C0 w B) f) (evalZ (ifTest (ifA (C0 w B))) (envSl (C0 w B) f))) QB E:=by
 have e2:IsCmp (ifTest (ifA (C0 w B))) .Lt:=by kernel_rfl
 refine HT.test1' e2 (by kernel_rfl) ?_
 refine HT.val0 N [1] (a:=.ref e) (by kernel_rfl) ?_
 refine HT.val0 N [1] (a:=.ref a) (by kernel_rfl) ?_
 refine el_EE pe fun t1 t2 pe=>?_
 refine el_EE pa fun t3 t4 pa=>?_
 have pe:(e,tupO #[.str (S [kc ke.1]) t1,.str (S (vS ke.2)) t2])∈r:=by rw [←vV_str fe];exact pe
 have pa:(a,tupO #[.str (S [kc ka.1]) t3,.str (S (vS ka.2)) t4])∈r:=by rw [←vV_str fa];exact pa
 exact HT.less (lv:=10) (tup_lt N pe pa ⟨_,rfl,G⟩) (by decide)
theorem sl_gt (pe:PairAt r e ke) (pa:PairAt r a ka) (fe:ke.2<5) (fa:ka.2<5) (G:QB (ltX (kvS ka) (kvS ke)) ⟨ch,(f,frameS slf (slEs w T x1 x2 i j mi un (eaEs w t7 t8 e a)) 8)::(g,lf)::(mi,listO (refs ms) nm)::(un,listO (refs us) nu)::(x1,listO (refs a1) n1)::(x2,listO (refs a2) n2)::l,r⟩) :
  HT (C0 w B) h₀ none 50 ⟨ch,(f,frameS slf (slEs w T x1 x2 i j mi un (eaEs w t7 t8 e a)) 8)::(g,lf)::(mi,listO (refs ms) nm)::(un,listO (refs us) nu)::(x1,listO (refs a1) n1)::(x2,listO (refs a2) n2)::l,r⟩ (isTrueZ (ifTest (ifB (C0 w B))) (envSl (C0 w B) f) (evalZ (ifTest (ifB (C0 w B))) (envSl (C0 w B) f))) QB E:=by
 have e2:IsCmp (ifTest (ifB (C0 w B))) .Gt:=by kernel_rfl
 refine HT.test1' e2 (by kernel_rfl) ?_
 refine HT.val0 N [1] (a:=.ref e) (by kernel_rfl) ?_
 refine HT.val0 N [1] (a:=.ref a) (by kernel_rfl) ?_
 refine el_EE pe fun t1 t2 pe=>?_
 refine el_EE pa fun t3 t4 pa=>?_
 have pe:(e,tupO #[.str (S [kc ke.1]) t1,.str (S (vS ke.2)) t2])∈r:=by rw [←vV_str fe];exact pe
 have pa:(a,tupO #[.str (S [kc ka.1]) t3,.str (S (vS ka.2)) t4])∈r:=by rw [←vV_str fa];exact pa
 exact HT.less (lv:=10) (tup_gt N pe pa ⟨_,rfl,G⟩) (by decide)
theorem sl_A (hn:ms.length≤50) (G:∀ ti,Q .next ⟨ch,(f,frameS slf (slEs w {T with ti:=ti} x1 x2 (i+1) j mi un (eaEs w t7 t8 e a)) 8)::(g,lf)::(mi,listO (refs (ms ++ [e])) (nm+1))::(un,listO (refs us) nu)::(x1,listO (refs a1) n1)::(x2,listO (refs a2) n2)::l,r⟩) :
  HT (C0 w B) h₀ none 50 ⟨ch,(f,frameS slf (slEs w T x1 x2 i j mi un (eaEs w t7 t8 e a)) 8)::(g,lf)::(mi,listO (refs ms) nm)::(un,listO (refs us) nu)::(x1,listO (refs a1) n1)::(x2,listO (refs a2) n2)::l,r⟩ (execsZ [saB (C0 w B) 0,saB (C0 w B) 1] (envSl (C0 w B) f)) Q E:=by
 intro b tk
 refine HTa.cutN N [1,5,5,5,5,1] [2,0,1,3,4,5] 6 [] (c:=.call (.builtin "list.append") ⟨[.ref mi,.ref e],[]⟩) (l:=(mi,listO (refs ms) nm)::(f,frameS slf (slEs w T x1 x2 i j mi un (eaEs w t7 t8 e a)) 8)::(g,lf)::(un,listO (refs us) nu)::(x1,listO (refs a1) n1)::(x2,listO (refs a2) n2)::l) (r:=r) (ch:=ch) (by kernel_rfl) rfl ?_
 refine HC.append (by rw [refs_size,sizeLine_eq];lia) ?_
 rw [refs_push]
 intro b tk
 refine HTa.val N [3,1,3,3] [1,2,0,3,4,5] 6 [] (a:=.next) (l:=(f,{ cls:=.type "frame",data:=.dict #[ent w (S [101,120,112,101,99,116,101,100]) T.1 (.ref x1),ent w (S [97,99,116,117,97,108]) T.2 (.ref x2),ent w (S [105]) T.3 (.int (Int.ofNat (i+1)) (tk+1)),ent w (S [106]) T.4 (.int (Int.ofNat j) T.8),ent w (S [109,105,115,115,105,110,103]) T.5 (.ref mi),ent w (S [117,110,101,120,112,101,99,116,101,100]) T.6 (.ref un),ent w (S [101]) t7 (.ref e),ent w (S [97]) t8 (.ref a)] 8,slots:=(slf) })::(g,lf)::(mi,listO (refs (ms ++ [e])) (nm+1))::(un,listO (refs us) nu)::(x1,listO (refs a1) n1)::(x2,listO (refs a2) n2)::l) (r:=r) (ch:=ch) (by kernel_rfl) rfl ?_
 exact G (tk+1)
theorem sl_Bb (hn:us.length≤50) (G:∀ tj,Q .next ⟨ch,(f,frameS slf (slEs w {T with tj:=tj} x1 x2 i (j+1) mi un (eaEs w t7 t8 e a)) 8)::(g,lf)::(mi,listO (refs ms) nm)::(un,listO (refs (us ++ [a])) (nu+1))::(x1,listO (refs a1) n1)::(x2,listO (refs a2) n2)::l,r⟩) :
  HT (C0 w B) h₀ none 50 ⟨ch,(f,frameS slf (slEs w T x1 x2 i j mi un (eaEs w t7 t8 e a)) 8)::(g,lf)::(mi,listO (refs ms) nm)::(un,listO (refs us) nu)::(x1,listO (refs a1) n1)::(x2,listO (refs a2) n2)::l,r⟩ (execsZ [sbB (C0 w B) 0,sbB (C0 w B) 1] (envSl (C0 w B) f)) Q E:=by
 intro b tk
 refine HTa.cutN N [1,7,7,7,7,1] [3,0,1,2,4,5] 6 [] (c:=.call (.builtin "list.append") ⟨[.ref un,.ref a],[]⟩) (l:=(un,listO (refs us) nu)::(f,frameS slf (slEs w T x1 x2 i j mi un (eaEs w t7 t8 e a)) 8)::(g,lf)::(mi,listO (refs ms) nm)::(x1,listO (refs a1) n1)::(x2,listO (refs a2) n2)::l) (r:=r) (ch:=ch) (by kernel_rfl) rfl ?_
 refine HC.append (by rw [refs_size,sizeLine_eq];lia) ?_
 rw [refs_push]
 intro b tk
 refine HTa.val N [3,1,3,3] [1,2,3,0,4,5] 6 [] (a:=.next) (l:=(f,{ cls:=.type "frame",data:=.dict #[ent w (S [101,120,112,101,99,116,101,100]) T.1 (.ref x1),ent w (S [97,99,116,117,97,108]) T.2 (.ref x2),ent w (S [105]) T.3 (.int (Int.ofNat i) T.7),ent w (S [106]) T.4 (.int (Int.ofNat (j+1)) (tk+1)),ent w (S [109,105,115,115,105,110,103]) T.5 (.ref mi),ent w (S [117,110,101,120,112,101,99,116,101,100]) T.6 (.ref un),ent w (S [101]) t7 (.ref e),ent w (S [97]) t8 (.ref a)] 8,slots:=(slf) })::(g,lf)::(mi,listO (refs ms) nm)::(un,listO (refs (us ++ [a])) (nu+1))::(x1,listO (refs a1) n1)::(x2,listO (refs a2) n2)::l) (r:=r) (ch:=ch) (by kernel_rfl) rfl ?_
 exact G (tk+1)
theorem sl_C (G:∀ ti,Q .next ⟨ch,(f,frameS slf (slEs w {T with ti:=ti} x1 x2 (i+1) j mi un (eaEs w t7 t8 e a)) 8)::(g,lf)::(mi,listO (refs ms) nm)::(un,listO (refs us) nu)::(x1,listO (refs a1) n1)::(x2,listO (refs a2) n2)::l,r⟩) :
  HT (C0 w B) h₀ none 50 ⟨ch,(f,frameS slf (slEs w T x1 x2 i j mi un (eaEs w t7 t8 e a)) 8)::(g,lf)::(mi,listO (refs ms) nm)::(un,listO (refs us) nu)::(x1,listO (refs a1) n1)::(x2,listO (refs a2) n2)::l,r⟩ (execsZ [scB (C0 w B) 0] (envSl (C0 w B) f)) Q E:=by
 intro b tk
 refine HTa.val N [1,1,1,1] [0,1,2,3,4,5] 6 [] (a:=.next) (l:=(f,{ cls:=.type "frame",data:=.dict #[ent w (S [101,120,112,101,99,116,101,100]) T.1 (.ref x1),ent w (S [97,99,116,117,97,108]) T.2 (.ref x2),ent w (S [105]) T.3 (.int (Int.ofNat (i+1)) (tk+1)),ent w (S [106]) T.4 (.int (Int.ofNat j) T.8),ent w (S [109,105,115,115,105,110,103]) T.5 (.ref mi),ent w (S [117,110,101,120,112,101,99,116,101,100]) T.6 (.ref un),ent w (S [101]) t7 (.ref e),ent w (S [97]) t8 (.ref a)] 8,slots:=(slf) })::(g,lf)::(mi,listO (refs ms) nm)::(un,listO (refs us) nu)::(x1,listO (refs a1) n1)::(x2,listO (refs a2) n2)::l) (r:=r) (ch:=ch) (by kernel_rfl) rfl ?_
 exact G (tk+1)
theorem sl_F (G:∀ tj,Q .next ⟨ch,(f,frameS slf (slEs w {T with tj:=tj} x1 x2 i (j+1) mi un (eaEs w t7 t8 e a)) 8)::(g,lf)::(mi,listO (refs ms) nm)::(un,listO (refs us) nu)::(x1,listO (refs a1) n1)::(x2,listO (refs a2) n2)::l,r⟩) :
  HT (C0 w B) h₀ hd 50 ⟨ch,(f,frameS slf (slEs w T x1 x2 i j mi un (eaEs w t7 t8 e a)) 8)::(g,lf)::(mi,listO (refs ms) nm)::(un,listO (refs us) nu)::(x1,listO (refs a1) n1)::(x2,listO (refs a2) n2)::l,r⟩ (execsZ [sfB (C0 w B) 0] (envSl (C0 w B) f)) Q E:=by
 intro b tk
 refine HTa.val N [1,1,1,1] [0,1,2,3,4,5] 6 [] (a:=.next) (l:=(f,{ cls:=.type "frame",data:=.dict #[ent w (S [101,120,112,101,99,116,101,100]) T.1 (.ref x1),ent w (S [97,99,116,117,97,108]) T.2 (.ref x2),ent w (S [105]) T.3 (.int (Int.ofNat i) T.7),ent w (S [106]) T.4 (.int (Int.ofNat (j+1)) (tk+1)),ent w (S [109,105,115,115,105,110,103]) T.5 (.ref mi),ent w (S [117,110,101,120,112,101,99,116,101,100]) T.6 (.ref un),ent w (S [101]) t7 (.ref e),ent w (S [97]) t8 (.ref a)] 8,slots:=(slf) })::(g,lf)::(mi,listO (refs ms) nm)::(un,listO (refs us) nu)::(x1,listO (refs a1) n1)::(x2,listO (refs a2) n2)::l) (r:=r) (ch:=ch) (by kernel_rfl) rfl ?_
 exact G (tk+1)
theorem sl_w1 {v y:Nat} (hn:a1.length≤50) (he:a1[i]? = some v) (pv:PairAt r v kv) (pe:PairAt r e ke) (fv:Fine kv) (fe:Fine ke) (hne:(kv == ke)=false) (G:QB false ⟨ch,(f,frameS slf (slEs w T x1 x2 i j mi un (eaEs w t7 t8 e a)) 8)::(g,lf)::(mi,listO (refs ms) nm)::(un,listO (refs us) nu)::(x1,listO (refs a1) n1)::(x2,listO (refs a2) n2)::l,r⟩) :
  HT (C0 w B) h₀ none 50 ⟨ch,(f,frameS slf (slEs w T x1 x2 i j mi un (eaEs w t7 t8 e a)) 8)::(g,lf)::(mi,listO (refs ms) nm)::(un,listO (refs us) nu)::(x1,listO (refs a1) n1)::(x2,listO (refs a2) n2)::l,r⟩ (isTrueZ (whTest (saB (C0 w B) 2)) (envSl (C0 w B) f) (evalZ (whTest (saB (C0 w B) 2)) (envSl (C0 w B) f))) QB E:=by
 have hi:i<a1.length:=(List.getElem?_eq_some_iff.mp he).1
 have e2:IsCmp (whTest (saB (C0 w B) 2)) .Eq:=by kernel_rfl
 refine HT.test1' e2 (by kernel_rfl) ?_
 refine HT.cut0 N [1,1,9,9,9] (c:=.call (.builtin "list.__getitem__") ⟨[.ref x1,.int (Int.ofNat i) T.7],[]⟩) (by kernel_rfl) fun b tk=>?_
 refine HC.getItem (v:=.ref v) (.inl (.tail _ (.tail _ (.tail _ (.tail _ (.head _)))))) (Int.natCast_nonneg i) (i63 (by lia)) (refs_at he) ?_
 refine HT.val0 N [] (a:=.ref v) (by kernel_rfl) ?_
 refine HT.val0 N [1] (a:=.ref e) (by kernel_rfl) ?_
 refine HT.eqD pv pe fv fe (by decide) ?_
 rw [hne]
 exact ⟨_,rfl,G⟩
theorem sl_w1x (hi2:i≤50) (hi:a1.length≤i) (G:∀ x p,E (.ref x) ⟨ch,(x,excO p .none .none)::(f,frameS slf (slEs w T x1 x2 i j mi un (eaEs w t7 t8 e a)) 8)::(g,lf)::(mi,listO (refs ms) nm)::(un,listO (refs us) nu)::(x1,listO (refs a1) n1)::(x2,listO (refs a2) n2)::l,r⟩) :
  HT (C0 w B) h₀ none 50 ⟨ch,(f,frameS slf (slEs w T x1 x2 i j mi un (eaEs w t7 t8 e a)) 8)::(g,lf)::(mi,listO (refs ms) nm)::(un,listO (refs us) nu)::(x1,listO (refs a1) n1)::(x2,listO (refs a2) n2)::l,r⟩ (isTrueZ (whTest (saB (C0 w B) 2)) (envSl (C0 w B) f) (evalZ (whTest (saB (C0 w B) 2)) (envSl (C0 w B) f))) QB E:=by
 have e2:IsCmp (whTest (saB (C0 w B) 2)) .Eq:=by kernel_rfl
 refine HT.test1' e2 (by kernel_rfl) ?_
 refine HT.cut0 N [1,1,9,9,9] (c:=.call (.builtin "list.__getitem__") ⟨[.ref x1,.int (Int.ofNat i) T.7],[]⟩) (by kernel_rfl) fun b tk=>?_
 refine HC.less (lv:=2) (getItemX N (.inl (.tail _ (.tail _ (.tail _ (.tail _ (.head _)))))) (Int.natCast_nonneg i) (i63 hi2) (refs_out hi) fun x p=>?_) (by decide)
 intro b tk
 exact HTa.exc N [] [0,1,2,3,4,5,6] 7 [] (a:=.ref x) (l:=(x,excO p .none .none)::(f,frameS slf (slEs w T x1 x2 i j mi un (eaEs w t7 t8 e a)) 8)::(g,lf)::(mi,listO (refs ms) nm)::(un,listO (refs us) nu)::(x1,listO (refs a1) n1)::(x2,listO (refs a2) n2)::l) (r:=r) (ch:=ch) (by kernel_rfl) rfl (G _ _)
theorem sl_w2 {v y:Nat} (hn:a2.length≤50) (he:a2[j]? = some v) (pv:PairAt r v kv) (pe:PairAt r a ka) (fv:Fine kv) (fe:Fine ka) (hne:(kv == ka)=false) (G:QB false ⟨ch,(f,frameS slf (slEs w T x1 x2 i j mi un (eaEs w t7 t8 e a)) 8)::(g,lf)::(mi,listO (refs ms) nm)::(un,listO (refs us) nu)::(x1,listO (refs a1) n1)::(x2,listO (refs a2) n2)::l,r⟩) :
  HT (C0 w B) h₀ none 50 ⟨ch,(f,frameS slf (slEs w T x1 x2 i j mi un (eaEs w t7 t8 e a)) 8)::(g,lf)::(mi,listO (refs ms) nm)::(un,listO (refs us) nu)::(x1,listO (refs a1) n1)::(x2,listO (refs a2) n2)::l,r⟩ (isTrueZ (whTest (sbB (C0 w B) 2)) (envSl (C0 w B) f) (evalZ (whTest (sbB (C0 w B) 2)) (envSl (C0 w B) f))) QB E:=by
 have hi:j<a2.length:=(List.getElem?_eq_some_iff.mp he).1
 have e2:IsCmp (whTest (sbB (C0 w B) 2)) .Eq:=by kernel_rfl
 refine HT.test1' e2 (by kernel_rfl) ?_
 refine HT.cut0 N [1,1,11,11,11] (c:=.call (.builtin "list.__getitem__") ⟨[.ref x2,.int (Int.ofNat j) T.8],[]⟩) (by kernel_rfl) fun b tk=>?_
 refine HC.getItem (v:=.ref v) (.inl (.tail _ (.tail _ (.tail _ (.tail _ (.tail _ (.head _))))))) (Int.natCast_nonneg j) (i63 (by lia)) (refs_at he) ?_
 refine HT.val0 N [] (a:=.ref v) (by kernel_rfl) ?_
 refine HT.val0 N [1] (a:=.ref a) (by kernel_rfl) ?_
 refine HT.eqD pv pe fv fe (by decide) ?_
 rw [hne]
 exact ⟨_,rfl,G⟩
theorem sl_w2x (hi2:j≤50) (hi:a2.length≤j) (G:∀ x p,E (.ref x) ⟨ch,(x,excO p .none .none)::(f,frameS slf (slEs w T x1 x2 i j mi un (eaEs w t7 t8 e a)) 8)::(g,lf)::(mi,listO (refs ms) nm)::(un,listO (refs us) nu)::(x1,listO (refs a1) n1)::(x2,listO (refs a2) n2)::l,r⟩) :
  HT (C0 w B) h₀ none 50 ⟨ch,(f,frameS slf (slEs w T x1 x2 i j mi un (eaEs w t7 t8 e a)) 8)::(g,lf)::(mi,listO (refs ms) nm)::(un,listO (refs us) nu)::(x1,listO (refs a1) n1)::(x2,listO (refs a2) n2)::l,r⟩ (isTrueZ (whTest (sbB (C0 w B) 2)) (envSl (C0 w B) f) (evalZ (whTest (sbB (C0 w B) 2)) (envSl (C0 w B) f))) QB E:=by
 have e2:IsCmp (whTest (sbB (C0 w B) 2)) .Eq:=by kernel_rfl
 refine HT.test1' e2 (by kernel_rfl) ?_
 refine HT.cut0 N [1,1,11,11,11] (c:=.call (.builtin "list.__getitem__") ⟨[.ref x2,.int (Int.ofNat j) T.8],[]⟩) (by kernel_rfl) fun b tk=>?_
 refine HC.less (lv:=2) (getItemX N (.inl (.tail _ (.tail _ (.tail _ (.tail _ (.tail _ (.head _))))))) (Int.natCast_nonneg j) (i63 hi2) (refs_out hi) fun x p=>?_) (by decide)
 intro b tk
 exact HTa.exc N [] [0,1,2,3,4,5,6] 7 [] (a:=.ref x) (l:=(x,excO p .none .none)::(f,frameS slf (slEs w T x1 x2 i j mi un (eaEs w t7 t8 e a)) 8)::(g,lf)::(mi,listO (refs ms) nm)::(un,listO (refs us) nu)::(x1,listO (refs a1) n1)::(x2,listO (refs a2) n2)::l) (r:=r) (ch:=ch) (by kernel_rfl) rfl (G _ _)
theorem sl_w3 {v y:Nat} (hn:a1.length≤50) (he:a1[i]? = some v) (pv:PairAt r v kv) (pe:PairAt r e ke) (fv:Fine kv) (fe:Fine ke) (hne:(kv == ke)=false) (G:QB false ⟨ch,(f,frameS slf (slEs w T x1 x2 i j mi un (eaEs w t7 t8 e a)) 8)::(g,lf)::(mi,listO (refs ms) nm)::(un,listO (refs us) nu)::(x1,listO (refs a1) n1)::(x2,listO (refs a2) n2)::l,r⟩) :
  HT (C0 w B) h₀ none 50 ⟨ch,(f,frameS slf (slEs w T x1 x2 i j mi un (eaEs w t7 t8 e a)) 8)::(g,lf)::(mi,listO (refs ms) nm)::(un,listO (refs us) nu)::(x1,listO (refs a1) n1)::(x2,listO (refs a2) n2)::l,r⟩ (isTrueZ (whTest (swB (C0 w B))) (envSl (C0 w B) f) (evalZ (whTest (swB (C0 w B))) (envSl (C0 w B) f))) QB E:=by
 have hi:i<a1.length:=(List.getElem?_eq_some_iff.mp he).1
 have e2:IsCmp (whTest (swB (C0 w B))) .Eq:=by kernel_rfl
 refine HT.test1' e2 (by kernel_rfl) ?_
 refine HT.cut0 N [1,1,9,9,9] (c:=.call (.builtin "list.__getitem__") ⟨[.ref x1,.int (Int.ofNat i) T.7],[]⟩) (by kernel_rfl) fun b tk=>?_
 refine HC.getItem (v:=.ref v) (.inl (.tail _ (.tail _ (.tail _ (.tail _ (.head _)))))) (Int.natCast_nonneg i) (i63 (by lia)) (refs_at he) ?_
 refine HT.val0 N [] (a:=.ref v) (by kernel_rfl) ?_
 refine HT.val0 N [1] (a:=.ref e) (by kernel_rfl) ?_
 refine HT.eqD pv pe fv fe (by decide) ?_
 rw [hne]
 exact ⟨_,rfl,G⟩
theorem sl_w3x (hi2:i≤50) (hi:a1.length≤i) (G:∀ x p,E (.ref x) ⟨ch,(x,excO p .none .none)::(f,frameS slf (slEs w T x1 x2 i j mi un (eaEs w t7 t8 e a)) 8)::(g,lf)::(mi,listO (refs ms) nm)::(un,listO (refs us) nu)::(x1,listO (refs a1) n1)::(x2,listO (refs a2) n2)::l,r⟩) :
  HT (C0 w B) h₀ none 50 ⟨ch,(f,frameS slf (slEs w T x1 x2 i j mi un (eaEs w t7 t8 e a)) 8)::(g,lf)::(mi,listO (refs ms) nm)::(un,listO (refs us) nu)::(x1,listO (refs a1) n1)::(x2,listO (refs a2) n2)::l,r⟩ (isTrueZ (whTest (swB (C0 w B))) (envSl (C0 w B) f) (evalZ (whTest (swB (C0 w B))) (envSl (C0 w B) f))) QB E:=by
 have e2:IsCmp (whTest (swB (C0 w B))) .Eq:=by kernel_rfl
 refine HT.test1' e2 (by kernel_rfl) ?_
 refine HT.cut0 N [1,1,9,9,9] (c:=.call (.builtin "list.__getitem__") ⟨[.ref x1,.int (Int.ofNat i) T.7],[]⟩) (by kernel_rfl) fun b tk=>?_
 refine HC.less (lv:=2) (getItemX N (.inl (.tail _ (.tail _ (.tail _ (.tail _ (.head _)))))) (Int.natCast_nonneg i) (i63 hi2) (refs_out hi) fun x p=>?_) (by decide)
 intro b tk
 exact HTa.exc N [] [0,1,2,3,4,5,6] 7 [] (a:=.ref x) (l:=(x,excO p .none .none)::(f,frameS slf (slEs w T x1 x2 i j mi un (eaEs w t7 t8 e a)) 8)::(g,lf)::(mi,listO (refs ms) nm)::(un,listO (refs us) nu)::(x1,listO (refs a1) n1)::(x2,listO (refs a2) n2)::l) (r:=r) (ch:=ch) (by kernel_rfl) rfl (G _ _)
theorem sl_w4 {v y:Nat} (hn:a2.length≤50) (he:a2[j]? = some v) (pv:PairAt r v kv) (pe:PairAt r a ka) (fv:Fine kv) (fe:Fine ka) (hne:(kv == ka)=false) (G:QB false ⟨ch,(f,frameS slf (slEs w T x1 x2 i j mi un (eaEs w t7 t8 e a)) 8)::(g,lf)::(mi,listO (refs ms) nm)::(un,listO (refs us) nu)::(x1,listO (refs a1) n1)::(x2,listO (refs a2) n2)::l,r⟩) :
  HT (C0 w B) h₀ none 50 ⟨ch,(f,frameS slf (slEs w T x1 x2 i j mi un (eaEs w t7 t8 e a)) 8)::(g,lf)::(mi,listO (refs ms) nm)::(un,listO (refs us) nu)::(x1,listO (refs a1) n1)::(x2,listO (refs a2) n2)::l,r⟩ (isTrueZ (whTest (sfB (C0 w B) 1)) (envSl (C0 w B) f) (evalZ (whTest (sfB (C0 w B) 1)) (envSl (C0 w B) f))) QB E:=by
 have hi:j<a2.length:=(List.getElem?_eq_some_iff.mp he).1
 have e2:IsCmp (whTest (sfB (C0 w B) 1)) .Eq:=by kernel_rfl
 refine HT.test1' e2 (by kernel_rfl) ?_
 refine HT.cut0 N [1,1,11,11,11] (c:=.call (.builtin "list.__getitem__") ⟨[.ref x2,.int (Int.ofNat j) T.8],[]⟩) (by kernel_rfl) fun b tk=>?_
 refine HC.getItem (v:=.ref v) (.inl (.tail _ (.tail _ (.tail _ (.tail _ (.tail _ (.head _))))))) (Int.natCast_nonneg j) (i63 (by lia)) (refs_at he) ?_
 refine HT.val0 N [] (a:=.ref v) (by kernel_rfl) ?_
 refine HT.val0 N [1] (a:=.ref a) (by kernel_rfl) ?_
 refine HT.eqD pv pe fv fe (by decide) ?_
 rw [hne]
 exact ⟨_,rfl,G⟩
theorem sl_w4x (hi2:j≤50) (hi:a2.length≤j) (G:∀ x p,E (.ref x) ⟨ch,(x,excO p .none .none)::(f,frameS slf (slEs w T x1 x2 i j mi un (eaEs w t7 t8 e a)) 8)::(g,lf)::(mi,listO (refs ms) nm)::(un,listO (refs us) nu)::(x1,listO (refs a1) n1)::(x2,listO (refs a2) n2)::l,r⟩) :
  HT (C0 w B) h₀ none 50 ⟨ch,(f,frameS slf (slEs w T x1 x2 i j mi un (eaEs w t7 t8 e a)) 8)::(g,lf)::(mi,listO (refs ms) nm)::(un,listO (refs us) nu)::(x1,listO (refs a1) n1)::(x2,listO (refs a2) n2)::l,r⟩ (isTrueZ (whTest (sfB (C0 w B) 1)) (envSl (C0 w B) f) (evalZ (whTest (sfB (C0 w B) 1)) (envSl (C0 w B) f))) QB E:=by
 have e2:IsCmp (whTest (sfB (C0 w B) 1)) .Eq:=by kernel_rfl
 refine HT.test1' e2 (by kernel_rfl) ?_
 refine HT.cut0 N [1,1,11,11,11] (c:=.call (.builtin "list.__getitem__") ⟨[.ref x2,.int (Int.ofNat j) T.8],[]⟩) (by kernel_rfl) fun b tk=>?_
 refine HC.less (lv:=2) (getItemX N (.inl (.tail _ (.tail _ (.tail _ (.tail _ (.tail _ (.head _))))))) (Int.natCast_nonneg j) (i63 hi2) (refs_out hi) fun x p=>?_) (by decide)
 intro b tk
 exact HTa.exc N [] [0,1,2,3,4,5,6] 7 [] (a:=.ref x) (l:=(x,excO p .none .none)::(f,frameS slf (slEs w T x1 x2 i j mi un (eaEs w t7 t8 e a)) 8)::(g,lf)::(mi,listO (refs ms) nm)::(un,listO (refs us) nu)::(x1,listO (refs a1) n1)::(x2,listO (refs a2) n2)::l) (r:=r) (ch:=ch) (by kernel_rfl) rfl (G _ _)
theorem sl_w4p {v y:Nat} (hn:a2.length≤50) (he:a2[j]? = some v) (pv:PairAt r v kv) (pe:PairAt r a ka) (fv:Fine kv) (fe:Fine ka) (hne:(kv == ka)=false) (G:QB false ⟨ch,(f,frameS slf (slEs w T x1 x2 i j mi un (eaEs w t7 t8 e a)) 8)::(g,lf)::(mi,listO (refs ms) nm)::(un,listO (refs us) nu)::(x1,listO (refs a1) n1)::(x2,listO (refs a2) n2)::l,r⟩) :
  HT (C0 w B) h₀ (some (.ref y)) 50 ⟨ch,(f,frameS slf (slEs w T x1 x2 i j mi un (eaEs w t7 t8 e a)) 8)::(g,lf)::(mi,listO (refs ms) nm)::(un,listO (refs us) nu)::(x1,listO (refs a1) n1)::(x2,listO (refs a2) n2)::l,r⟩ (isTrueZ (whTest (sfB (C0 w B) 1)) (envSl (C0 w B) f) (evalZ (whTest (sfB (C0 w B) 1)) (envSl (C0 w B) f))) QB E:=by
 have hi:j<a2.length:=(List.getElem?_eq_some_iff.mp he).1
 have e2:IsCmp (whTest (sfB (C0 w B) 1)) .Eq:=by kernel_rfl
 refine HT.test1' e2 (by kernel_rfl) ?_
 intro b tk
 refine HTa.cut N [1,1,11,11,11] [0,1,2,3,4,5] 6 [] (c:=.call (.builtin "list.__getitem__") ⟨[.ref x2,.int (Int.ofNat j) T.8],[]⟩) (l:=(f,frameS slf (slEs w T x1 x2 i j mi un (eaEs w t7 t8 e a)) 8)::(g,lf)::(mi,listO (refs ms) nm)::(un,listO (refs us) nu)::(x1,listO (refs a1) n1)::(x2,listO (refs a2) n2)::l) (r:=r) (ch:=ch) (by kernel_rfl) rfl (by intro h;cases h) ?_
 refine HC.getItem (v:=.ref v) (.inl (.tail _ (.tail _ (.tail _ (.tail _ (.tail _ (.head _))))))) (Int.natCast_nonneg j) (i63 (by lia)) (refs_at he) ?_
 refine HT.val0 N [] (a:=.ref v) (by kernel_rfl) ?_
 refine HT.val0 N [1] (a:=.ref a) (by kernel_rfl) ?_
 refine HT.eqD pv pe fv fe (by decide) ?_
 rw [hne]
 exact ⟨_,rfl,G⟩
theorem sl_w4y {y py:Nat} {tby:Value} (hi2:j≤50) (hi:a2.length≤j) (G:∀ x p,E (.ref x) ⟨ch,(x,excO p .none (.ref y))::(y,excO py tby .none)::(f,frameS slf (slEs w T x1 x2 i j mi un (eaEs w t7 t8 e a)) 8)::(g,lf)::(mi,listO (refs ms) nm)::(un,listO (refs us) nu)::(x1,listO (refs a1) n1)::(x2,listO (refs a2) n2)::l,r⟩) :
  HT (C0 w B) h₀ (some (.ref y)) 50 ⟨ch,(y,excO py tby .none)::(f,frameS slf (slEs w T x1 x2 i j mi un (eaEs w t7 t8 e a)) 8)::(g,lf)::(mi,listO (refs ms) nm)::(un,listO (refs us) nu)::(x1,listO (refs a1) n1)::(x2,listO (refs a2) n2)::l,r⟩ (isTrueZ (whTest (sfB (C0 w B) 1)) (envSl (C0 w B) f) (evalZ (whTest (sfB (C0 w B) 1)) (envSl (C0 w B) f))) QB E:=by
 have e2:IsCmp (whTest (sfB (C0 w B) 1)) .Eq:=by kernel_rfl
 refine HT.test1' e2 (by kernel_rfl) ?_
 intro b tk
 refine HTa.cut N [3,3,13,13,13] [0,1,2,3,4,5,6] 7 [] (c:=.call (.builtin "list.__getitem__") ⟨[.ref x2,.int (Int.ofNat j) T.8],[]⟩) (l:=(y,excO py tby Value.none)::(f,frameS slf (slEs w T x1 x2 i j mi un (eaEs w t7 t8 e a)) 8)::(g,lf)::(mi,listO (refs ms) nm)::(un,listO (refs us) nu)::(x1,listO (refs a1) n1)::(x2,listO (refs a2) n2)::l) (r:=r) (ch:=ch) (by kernel_rfl) rfl (by intro h;cases h) ?_
 refine HC.less (lv:=2) (getItemX1 N (.inl (.tail _ (.tail _ (.tail _ (.tail _ (.tail _ (.tail _ (.head _)))))))) (Int.natCast_nonneg j) (i63 hi2) (refs_out hi) fun x p=>?_) (by decide)
 intro b tk
 exact HTa.exc N [] [0,1,2,3,4,5,6,7] 8 [] (a:=.ref x) (l:=(x,excO p .none (.ref y))::(y,excO py tby .none)::(f,frameS slf (slEs w T x1 x2 i j mi un (eaEs w t7 t8 e a)) 8)::(g,lf)::(mi,listO (refs ms) nm)::(un,listO (refs us) nu)::(x1,listO (refs a1) n1)::(x2,listO (refs a2) n2)::l) (r:=r) (ch:=ch) (by kernel_rfl) rfl (G _ _)
end
noncomputable def RdL (g:Addr) (s:Array (Option Value)):Prop:=s = #[] ∨ ∃ v,s=slLaw g v
section
variable {C:Cfg} {h₀:Heap} {hd:Option Value} {lv:Nat} {x:Sx} {E:Value→Sx→Prop}
theorem HT.postP {α:Type} {t:Sem α} {Q:α→Sx→Prop} (il:List Nat) (k:Nat) (ir:List Nat) (ok:okSel il ir k=true) (H:HT C h₀ hd lv x t (fun a y=>Q a ⟨y.ch,selL il k y.l,choos ir y.l ++ y.r⟩) E):HT C h₀ hd lv x t Q E :=
 fun b tk A g d os h K D=>wpAny_mono (H b tk A g d os h K D) (fun a s ⟨y,⟨b',tk',h',e,D'⟩,q⟩=>⟨_,⟨b',tk',h',e,D'.choose ok _ rfl _⟩,q⟩) (fun vz0 vz1 q=>q)
end
section
variable {w:World} {B:Hab} {h₀:Heap} (N:NatOk (C0 w B) h₀) {l r:Memo} {ch:Ch} {hd:Option Value} {lv f g y nf ng:Nat} {es eg:Array DictEntry} {slg:Array (Option Value)} {eo:Obj}
include N
theorem rdy0 (hg:RdL g slg) {Q:Unit→Sx→Prop} {E:Value→Sx→Prop} (G:∀ s:{s // RdL g s},Q () ⟨ch,(y,eo)::(f,frameS (slF 110 g) es nf)::(g,frameS s.1 eg ng)::l,r⟩) :
  HT (C0 w B) h₀ hd lv ⟨ch,(y,eo)::(f,frameS #[] es nf)::(g,frameS slg eg ng)::l,r⟩ (readyFrames [envSl (C0 w B) f,envLaw (C0 w B) g]) Q E:=by
 refine HT.choose (il:=[1,2,0]) (k:=3) (ir:=[]) rfl ?_
 refine ready_sl N ?_
 refine HT.choose (il:=[1,2,0]) (k:=3) (ir:=[]) rfl ?_
 refine HT.postP [1,2,0] 3 [] rfl ?_
 rcases hg with rfl | ⟨v,rfl⟩
 ·exact ready_law N fun v=>G ⟨_,.inr ⟨v,rfl⟩⟩
 ·exact ready_again N (G ⟨_,.inr ⟨v,rfl⟩⟩)
theorem rdy1 {Q:Unit→Sx→Prop} {E:Value→Sx→Prop} (G:Q () ⟨ch,(y,eo)::(f,frameS (slF 110 g) es nf)::(g,frameS slg eg ng)::l,r⟩) :
  HT (C0 w B) h₀ hd lv ⟨ch,(y,eo)::(f,frameS (slF 110 g) es nf)::(g,frameS slg eg ng)::l,r⟩ (readyFrames [envSl (C0 w B) f,envLaw (C0 w B) g]) Q E:=by
 refine HT.choose (il:=[1,2,0]) (k:=3) (ir:=[]) rfl ?_
 refine HT.postP [2,0,1] 3 [] rfl ?_
 exact ready_sl2 N G
end
section
variable {w:World} {B:Hab} {h₀:Heap} (N:NatOk (C0 w B) h₀) {A:Around} {l r:Memo} {ch:Ch} {x1 x2 f g mi un i j n1 n2 nm nu y p tb ng nf:Nat} {T:SlT} {slf slg:Array (Option Value)} {a1 a2 ms us:List Addr} {eg:Array DictEntry} {Q:Flow→Sx→Prop} {E:Value→Sx→Prop} {rest:List DictEntry} {cx fl:Value} {c:Six}
noncomputable abbrev exP (C:Cfg) (h₀:Heap) (A:Around) (f:Addr) (Q:Flow→Sx→Prop) (E:Value→Sx→Prop):Value→Sx→Prop :=
 noteP C h₀ A (envSl C f) fun e x1=>TA C h₀ A x1 (setFlight e none) (fun vz0 x2=>TA C h₀ A x2 (handleBy e (envSl C f) [.ExceptHandler (some (hdT (tryHs (slTry C)))) none [nthS (hdB (tryHs (slTry C))) 0,nthS (hdB (tryHs (slTry C))) 1,nthS (hdB (tryHs (slTry C))) 2] (hdP (tryHs (slTry C)))]) Q E) (fun vz0 vz1=>False)
noncomputable def BrkP (w:World) (ch:Ch) (l r:Memo) (f g mi un x1 x2 n1 n2 ng:Nat) (eg:Array DictEntry) (a1 a2:List Addr) (Q:Flow→Sx→Prop) (i j:Nat) (ms us:List Addr):Prop :=
 ∀ slf slg T rest nf nm nu,RdL g slg→Q .brk ⟨ch,(f,frameS slf (slEs w T x1 x2 i j mi un rest) nf)::(mi,listO (refs (ms ++ a1.drop i)) nm)::(un,listO (refs (us ++ a2.drop j)) nu)::(x1,listO (refs a1) n1)::(x2,listO (refs a2) n2)::(g,frameS slg eg ng)::l,r⟩
include N
theorem sl_catch (K:Calm A none 50) (h1:a1.length≤50) (h2:a2.length≤50) (h3:ms.length≤50) (h4:us.length≤50) (hg:RdL g slg) (G:BrkP w ch l r f g mi un x1 x2 n1 n2 ng eg a1 a2 Q i j ms us) :
  TA (C0 w B) h₀ A ⟨ch,(y,excO p (.ref tb) cx)::(tb,tbO f fl c)::(f,frameS slf (slEs w T x1 x2 i j mi un rest) nf)::(g,frameS slg eg ng)::(mi,listO (refs ms) nm)::(un,listO (refs us) nu)::(x1,listO (refs a1) n1)::(x2,listO (refs a2) n2)::l,r⟩ (setFlight (.ref y) none)
   (fun vz0 x2=>TA (C0 w B) h₀ A x2 (handleBy (.ref y) (envSl (C0 w B) f) [.ExceptHandler (some (hdT (tryHs (slTry (C0 w B))))) none [nthS (hdB (tryHs (slTry (C0 w B)))) 0,nthS (hdB (tryHs (slTry (C0 w B)))) 1,nthS (hdB (tryHs (slTry (C0 w B)))) 2] (hdP (tryHs (slTry (C0 w B))))]) Q E) (fun vz0 vz1=>False):=by
 refine TA.of K (flight_none N ?_)
 refine TA.handle (X:="IndexError") (T:="IndexError") (by kernel_rfl) (by kernel_rfl) (by kernel_rfl) (TA.of K.mark ?_)
 refine HT.val0 N [0,0] (a:=.type "IndexError") (by kernel_rfl) ?_
 refine ⟨rfl,⟨_,.head _,rfl⟩,TA.of K.mark (flight_none N ?_)⟩
 refine TA.choose (il:=[2,4,5,6,7,3]) (k:=8) (ir:=[]) rfl ?_
 exact TA.of K.mark (sl_suite N (eo:=frameO #[] 0) h1 h2 h3 h4 fun nm' nu'=>G _ _ _ _ _ _ _ hg)
theorem sl_again (K:Calm A none 50) (h1:a1.length≤50) (h2:a2.length≤50) (h3:ms.length≤50) (h4:us.length≤50) (hg:RdL g slg) (G:BrkP w ch l r f g mi un x1 x2 n1 n2 ng eg a1 a2 Q i j ms us) :
  exP (C0 w B) h₀ A f Q E (.ref y) ⟨ch,(y,excO p (.ref tb) cx)::(tb,tbO f (rawInt f) c)::(f,frameS slf (slEs w T x1 x2 i j mi un rest) nf)::(g,frameS slg eg ng)::(mi,listO (refs ms) nm)::(un,listO (refs us) nu)::(x1,listO (refs a1) n1)::(x2,listO (refs a2) n2)::l,r⟩ :=
 TA.of K (note_again N (by kernel_rfl) (sl_catch N K h1 h2 h3 h4 hg G))
theorem sl_fresh (K:Calm A none 50) (hfr:A.frames=some [envSl (C0 w B) f,envLaw (C0 w B) g]) (h1:a1.length≤50) (h2:a2.length≤50) (h3:ms.length≤50) (h4:us.length≤50) (hg:RdL g slg) (G:BrkP w ch l r f g mi un x1 x2 n1 n2 ng eg a1 a2 Q i j ms us) :
  exP (C0 w B) h₀ A f Q E (.ref y) ⟨ch,(y,excO p .none cx)::(f,frameS #[] (slEs w T x1 x2 i j mi un rest) nf)::(g,frameS slg eg ng)::(mi,listO (refs ms) nm)::(un,listO (refs us) nu)::(x1,listO (refs a1) n1)::(x2,listO (refs a2) n2)::l,r⟩ :=
 note_new N K hfr (by kernel_rfl) (fun G=>rdy0 N hg G) fun s tb c=>sl_catch N K h1 h2 h3 h4 s.2 G
theorem wh_fresh {E':Value→Sx→Prop} (K:Calm A none 50) (hfr:A.frames=some [envSl (C0 w B) f,envLaw (C0 w B) g]) (hg:RdL g slg) {es:Array DictEntry}
  (G:∀ tb c slg',RdL g slg'→E' (.ref y) ⟨ch,(y,excO p (.ref tb) cx)::(tb,tbO f (rawInt f) c)::(f,frameS (slF 110 g) es nf)::(g,frameS slg' eg ng)::l,r⟩) :
  noteP (C0 w B) h₀ A (envSl (C0 w B) f) (backP (C0 w B) h₀ A (envSl (C0 w B) f) E') (.ref y) ⟨ch,(y,excO p .none cx)::(f,frameS #[] es nf)::(g,frameS slg eg ng)::l,r⟩ :=
 note_new N K hfr (by kernel_rfl) (fun G=>rdy0 N hg G) fun s tb c=>back_ok N K (by kernel_rfl) (G tb c s.1 s.2)
theorem wh_fresh1 {E':Value→Sx→Prop} (K:Calm A hd 50) (hfr:A.frames=some [envSl (C0 w B) f,envLaw (C0 w B) g]) {es:Array DictEntry}
  (G:∀ tb c,E' (.ref y) ⟨ch,(y,excO p (.ref tb) cx)::(tb,tbO f (rawInt f) c)::(f,frameS (slF 110 g) es nf)::(g,frameS slg eg ng)::l,r⟩) :
  noteP (C0 w B) h₀ A (envSl (C0 w B) f) (backP (C0 w B) h₀ A (envSl (C0 w B) f) E') (.ref y) ⟨ch,(y,excO p .none cx)::(f,frameS (slF 110 g) es nf)::(g,frameS slg eg ng)::l,r⟩ :=
 note_new (ι:=Unit) N K hfr (by kernel_rfl) (fun G=>rdy1 N (G ())) fun s tb c=>back_ok N K (by kernel_rfl) (G tb c)
end
theorem TA.execs_app {C:Cfg} {h₀:Heap} {A:Around} {x:Sx} {l1 l2:List Stmt} {env:PySem.Env} {Q:Flow→Sx→Prop} {E:Value→Sx→Prop}
  (H:TA C h₀ A x (execsZ l1 env) (fun f x'=>f = .next∧TA C h₀ A x' (execsZ l2 env) Q E) E):TA C h₀ A x (execsZ (l1 ++ l2) env) Q E:=by
 rw [execsZ_app]
 refine TA.bind (H.mono ?_ fun vz0 vz1 q=>q)
 rintro f x' ⟨rfl,q⟩
 exact q
theorem nodup_next {α:Type} {T:List α} (d:T.Nodup) {i:Nat} {a:α} (h1:T[i]? = some a) (h2:T[i+1]? = some a):False:=by
 obtain ⟨l1,e1⟩:=List.getElem?_eq_some_iff.mp h1
 obtain ⟨l2,e2⟩:=List.getElem?_eq_some_iff.mp h2
 exact (List.pairwise_iff_getElem.mp d i (i+1) l1 l2 (by lia)) (e1.trans e2.symm)
noncomputable def sldN:Nat→List KV→List KV→List KV×List KV
 | 0,A,B=>(A,B)
 | _+1,[],B=>([],B)
 | _+1,A,[]=>(A,[])
 | n+1,a::A,b::B=>if ltX (kvS a) (kvS b) then (a::(sldN n A (b::B)).1,(sldN n A (b::B)).2) else if ltX (kvS b) (kvS a) then ((sldN n (a::A) B).1,b::(sldN n (a::A) B).2) else sldN n A B
theorem sldN_nil1 (n:Nat) (B:List KV):sldN n [] B=([],B):=by cases n <;> rfl
theorem sldN_nil2 (n:Nat) (A:List KV):sldN n A []=(A,[]):=by
 cases n with
 | zero=>rfl
 | succ n=>cases A <;> rfl
section
variable {w:World} {B:Hab} {h₀:Heap} (N:NatOk (C0 w B) h₀) {A:Around} {l r:Memo} {ch:Ch} {x1 x2 f g mi un i j n1 n2 nm nu ng e a:Nat} {T:SlT} {slg:Array (Option Value)} {a1 a2 ms us:List Addr} {eg:Array DictEntry} {Q:Flow→Sx→Prop} {T1 T2:List KV} {t7 t8:Tok} {ke ka:KV}
noncomputable abbrev slX (w:World) (ch:Ch) (l r:Memo) (f g mi un x1 x2 n1 n2 ng:Nat) (eg:Array DictEntry) (slg:Array (Option Value)) (a1 a2:List Addr) (T:SlT) (rest:List DictEntry) (nf i j nm nu:Nat) (ms us:List Addr):Sx :=
 ⟨ch,(f,frameS #[] (slEs w T x1 x2 i j mi un rest) nf)::(g,frameS slg eg ng)::(mi,listO (refs ms) nm)::(un,listO (refs us) nu)::(x1,listO (refs a1) n1)::(x2,listO (refs a2) n2)::l,r⟩
theorem ifA_eq:stB (C0 w B) 2 = .If (ifTest (ifA (C0 w B))) [saB (C0 w B) 0,saB (C0 w B) 1,.While (whTest (saB (C0 w B) 2)) (whBody (saB (C0 w B) 2)) [] (whPos (saB (C0 w B) 2))] [ifB (C0 w B)] (ifPos (ifA (C0 w B))):=by kernel_rfl
theorem ifB_eq:ifB (C0 w B) = .If (ifTest (ifB (C0 w B))) [sbB (C0 w B) 0,sbB (C0 w B) 1,.While (whTest (sbB (C0 w B) 2)) (whBody (sbB (C0 w B) 2)) [] (whPos (sbB (C0 w B) 2))] [scB (C0 w B) 0,scB (C0 w B) 1] (ifPos (ifB (C0 w B))):=by kernel_rfl
theorem scB_eq:scB (C0 w B) 1 = .Try [.While (whTest (swB (C0 w B))) (whBody (swB (C0 w B))) [] (whPos (swB (C0 w B)))] [] [] [sfB (C0 w B) 0,.While (whTest (sfB (C0 w B) 1)) (whBody (sfB (C0 w B) 1)) [] (whPos (sfB (C0 w B) 1))] (tryPos (scB (C0 w B) 1)):=by kernel_rfl
include N
theorem sl_core (K:Calm A none 50) (hfr:A.frames=some [envSl (C0 w B) f,envLaw (C0 w B) g]) (h1:a1.length≤40) (h2:a2.length≤40) (h3:ms.length≤40) (h4:us.length≤40) (hg:RdL g slg)
  (hp1:All2 (PairAt r) a1 T1) (hp2:All2 (PairAt r) a2 T2) (f1:∀ q∈T1,q.1<4∧q.2<5) (f2:∀ q∈T2,q.1<4∧q.2<5) (d1:T1.Nodup) (d2:T2.Nodup)
  (he:a1[i]? = some e) (ha:a2[j]? = some a) (hke:T1[i]? = some ke) (hka:T2[j]? = some ka)
  (Glt:ltX (kvS ke) (kvS ka)=true→(i+1<T1.length→∀ ti nm',Q .next (slX w ch l r f g mi un x1 x2 n1 n2 ng eg slg a1 a2 {T with ti:=ti} (eaEs w t7 t8 e a) 8 (i+1) j nm' nu (ms ++ [e]) us))∧(i+1=T1.length→BrkP w ch l r f g mi un x1 x2 n1 n2 ng eg a1 a2 Q (i+1) j (ms ++ [e]) us))
  (Ggt:ltX (kvS ke) (kvS ka)=false→ltX (kvS ka) (kvS ke)=true→(j+1<T2.length→∀ tj nu',Q .next (slX w ch l r f g mi un x1 x2 n1 n2 ng eg slg a1 a2 {T with tj:=tj} (eaEs w t7 t8 e a) 8 i (j+1) nm nu' ms (us ++ [a])))∧(j+1=T2.length→BrkP w ch l r f g mi un x1 x2 n1 n2 ng eg a1 a2 Q i (j+1) ms (us ++ [a])))
  (Geq:ltX (kvS ke) (kvS ka)=false→ltX (kvS ka) (kvS ke)=false→(i+1<T1.length→j+1<T2.length→∀ ti tj,Q .next (slX w ch l r f g mi un x1 x2 n1 n2 ng eg slg a1 a2 {T with ti:=ti,tj:=tj} (eaEs w t7 t8 e a) 8 (i+1) (j+1) nm nu ms us))∧(i+1=T1.length ∨ j+1=T2.length→BrkP w ch l r f g mi un x1 x2 n1 n2 ng eg a1 a2 Q (i+1) (j+1) ms us)) :
  TA (C0 w B) h₀ A (slX w ch l r f g mi un x1 x2 n1 n2 ng eg slg a1 a2 T (eaEs w t7 t8 e a) 8 i j nm nu ms us) (execsZ [stB (C0 w B) 2] (envSl (C0 w B) f)) Q (exP (C0 w B) h₀ A f Q (fun vz0 vz1=>False)):=by
 have len1:=hp1.length
 have len2:=hp2.length
 have pe:PairAt r e ke:=by
  refine el_EA (hp1.get he) fun q hq p=>?_
  rw [hke] at hq;cases hq;exact p
 have pa:PairAt r a ka:=by
  refine el_EA (hp2.get ha) fun q hq p=>?_
  rw [hka] at hq;cases hq;exact p
 have fe:=f1 _ (List.mem_of_getElem? hke)
 have fa:=f2 _ (List.mem_of_getElem? hka)
 have fin:∀ {q:KV},q.1<4∧q.2<5→Fine q:=fun h=>⟨h.1,by have:=h.2;lia⟩
 have hil:i<T1.length:=(List.getElem?_eq_some_iff.mp hke).1
 have hjl:j<T2.length:=(List.getElem?_eq_some_iff.mp hka).1
 have nx1:i+1<T1.length→∃ v kv,a1[i+1]? = some v∧PairAt r v kv∧Fine kv∧(kv == ke)=false:=by
  intro h
  obtain ⟨v,hv⟩:∃ v,a1[i+1]? = some v:=⟨_,List.getElem?_eq_getElem (by lia)⟩
  refine el_EA (hp1.get hv) fun kv hkv pv=>?_
  refine ⟨v,kv,hv,pv,fin (f1 _ (List.mem_of_getElem? hkv)),?_⟩
  refine beq_eq_false_iff_ne.mpr fun q=>?_
  subst q
  exact nodup_next d1 hke hkv
 have nx2:j+1<T2.length→∃ v kv,a2[j+1]? = some v∧PairAt r v kv∧Fine kv∧(kv == ka)=false:=by
  intro h
  obtain ⟨v,hv⟩:∃ v,a2[j+1]? = some v:=⟨_,List.getElem?_eq_getElem (by lia)⟩
  refine el_EA (hp2.get hv) fun kv hkv pv=>?_
  refine ⟨v,kv,hv,pv,fin (f2 _ (List.mem_of_getElem? hkv)),?_⟩
  refine beq_eq_false_iff_ne.mpr fun q=>?_
  subst q
  exact nodup_next d2 hka hkv
 rw [ifA_eq]
 refine TA.if (TA.of K (sl_lt N pe pa fe.2 fa.2 ?_))
 cases hlt:ltX (kvS ke) (kvS ka) with
 | true =>
  refine el_A (Glt hlt) fun g1 g2=>?_
  refine TA.execs_app (l1:=[saB (C0 w B) 0,saB (C0 w B) 1]) (TA.of K (sl_A N (by lia) fun ti=>⟨rfl,?_⟩))
  refine TA.whileStop (TA.of K ?_)
  rcases (by lia:i+1<T1.length ∨ i+1=T1.length) with h | h
  ·refine el_EEAAA (nx1 h) fun v kv hv pv fv hne=>?_
   exact sl_w1 (y:=0) N (by lia) hv pv pe fv (fin fe) hne ⟨rfl,g1 h ti _⟩
  ·exact sl_w1x N (by lia) (by lia) fun y p=>wh_fresh N K hfr hg fun tb c slg' hg'=>sl_again N K (by lia) (by lia) (by rw [List.length_append,List.length_singleton];lia) (by lia) hg' (g2 h)
 | false =>
  refine TA.execs_app (l1:=[ifB (C0 w B)]) (l2:=[]) ?_
  rw [ifB_eq]
  refine TA.if (TA.of K (sl_gt N pe pa fe.2 fa.2 ?_))
  cases hgt:ltX (kvS ka) (kvS ke) with
  | true =>
   refine el_A (Ggt hlt hgt) fun g1 g2=>?_
   refine TA.execs_app (l1:=[sbB (C0 w B) 0,sbB (C0 w B) 1]) (TA.of K (sl_Bb N (by lia) fun ti=>⟨rfl,?_⟩))
   refine TA.whileStop (TA.of K ?_)
   rcases (by lia:j+1<T2.length ∨ j+1=T2.length) with h | h
   ·refine el_EEAAA (nx2 h) fun v kv hv pv fv hne=>?_
    exact sl_w2 (y:=0) N (by lia) hv pv pa fv (fin fa) hne ⟨rfl,⟨rfl,TA.execs_nil (g1 h ti _)⟩⟩
   ·exact sl_w2x N (by lia) (by lia) fun y p=>wh_fresh N K hfr hg fun tb c slg' hg'=>sl_again N K (by lia) (by lia) (by lia) (by rw [List.length_append,List.length_singleton];lia) hg' (g2 h)
  | false =>
   refine el_A (Geq hlt hgt) fun g1 g2=>?_
   refine TA.execs_app (l1:=[scB (C0 w B) 0]) (TA.of K (sl_C N fun ti=>⟨rfl,?_⟩))
   rw [scB_eq]
   refine TA.tryFinally ?_
   refine TA.whileStop (TA.of K ?_)
   rcases (by lia:i+1<T1.length ∨ i+1=T1.length) with h | h
   ·refine el_EEAAA (nx1 h) fun v kv hv pv fv hne=>?_
    refine sl_w3 (y:=0) N (by lia) hv pv pe fv (fin fe) hne ⟨rfl,rfl,?_⟩
    refine TA.execs_app (l1:=[sfB (C0 w B) 0]) (TA.of K (sl_F N fun tj=>⟨rfl,?_⟩))
    refine TA.whileStop (TA.of K ?_)
    rcases (by lia:j+1<T2.length ∨ j+1=T2.length) with h' | h'
    ·refine el_EEAAA (nx2 h') fun v kv hv pv fv hne=>?_
     exact sl_w4 (y:=0) N (by lia) hv pv pa fv (fin fa) hne ⟨rfl,rfl,⟨rfl,TA.execs_nil (g1 h h' ti tj)⟩⟩
    ·refine sl_w4x N (by lia) (by lia) fun y p=>wh_fresh N K hfr hg fun tb c slg' hg'=>?_
     refine TA.of K (note_again N (by kernel_rfl) ?_)
     refine back_ok N K (by kernel_rfl) ?_
     exact sl_again N K (by lia) (by lia) (by lia) (by lia) hg' (g2 (.inr h'))
   ·refine sl_w3x N (by lia) (by lia) fun y p=>wh_fresh N K hfr hg fun tb c slg' hg'=>?_
    refine TA.of K (note_again N (by kernel_rfl) ?_)
    refine ⟨ref_ne_byPass y,TA.of K (note_again N (by kernel_rfl) ?_)⟩
    refine TA.of K (flight_none N ?_)
    refine TA.choose (il:=[2,3,4,5,6,7,0,1]) (k:=8) (ir:=[]) rfl ?_
    refine TA.execs_app (l1:=[sfB (C0 w B) 0]) (TA.of K.mark (sl_F N fun tj=>⟨rfl,?_⟩))
    refine TA.whileStop ?_
    rcases (by lia:j+1<T2.length ∨ j+1=T2.length) with h' | h'
    ·refine el_EEAAA (nx2 h') fun v kv hv pv fv hne=>?_
     refine TA.of K.mark (sl_w4p (y:=y) N (by lia) hv pv pa fv (fin fa) hne ⟨rfl,rfl,?_⟩)
     refine TA.choose (il:=[6,7,0,1,2,3,4,5]) (k:=8) (ir:=[]) rfl ?_
     exact pass_ok N K (by kernel_rfl) (sl_again N K (by lia) (by lia) (by lia) (by lia) hg' (g2 (.inl h)))
    ·refine TA.choose (il:=[6,0,1,2,3,4,5,7]) (k:=8) (ir:=[]) rfl ?_
     refine TA.of K.mark (sl_w4y N (by lia) (by lia) fun x p'=>?_)
     refine TA.choose (il:=[0,2,3,4,5,6,7,1]) (k:=8) (ir:=[]) rfl ?_
     refine wh_fresh1 N K.mark hfr fun tb2 c2=>?_
     refine TA.choose (il:=[0,1,2,3,4,5,6,7]) (k:=10) (ir:=[]) rfl ?_
     refine TA.of K.mark (note_again N (by kernel_rfl) ?_)
     refine back_ok N K (by kernel_rfl) ?_
     exact sl_again N K (by lia) (by lia) (by lia) (by lia) hg' (g2 (.inl h))
end
theorem sldN_fuel:∀ (n:Nat) (A B:List KV),A.length+B.length≤n→sldN (n+1) A B=sldN n A B
 | 0,A,B,h=>by
  have hA:A=[]:=List.eq_nil_of_length_eq_zero (by lia)
  subst hA
  rw [sldN_nil1,sldN_nil1]
 | n+1,[],B,_=>by rw [sldN_nil1,sldN_nil1]
 | n+1,a::A,[],_=>by rw [sldN_nil2,sldN_nil2]
 | n+1,a::A,b::B,h=>by
  simp only [List.length_cons] at h
  have e1:=sldN_fuel n A (b::B) (by simp only [List.length_cons];lia)
  have e2:=sldN_fuel n (a::A) B (by simp only [List.length_cons];lia)
  have e3:=sldN_fuel n A B (by lia)
  rw [sldN,sldN,e1,e2,e3]
noncomputable def sldF (A B:List KV):List KV×List KV:=sldN (A.length+B.length) A B
theorem sldF_cons (a b:KV) (A B:List KV):sldF (a::A) (b::B)=if ltX (kvS a) (kvS b) then (a::(sldF A (b::B)).1,(sldF A (b::B)).2) else if ltX (kvS b) (kvS a) then ((sldF (a::A) B).1,b::(sldF (a::A) B).2) else sldF A B:=by
 have e:(a::A).length+(b::B).length=(A.length+B.length+1)+1:=by simp only [List.length_cons];lia
 have e1:sldN (A.length+B.length+1) A (b::B)=sldF A (b::B):=by unfold sldF;rw [show A.length+(b::B).length=A.length+B.length+1 from by simp only [List.length_cons];lia]
 have e2:sldN (A.length+B.length+1) (a::A) B=sldF (a::A) B:=by unfold sldF;rw [show (a::A).length+B.length=A.length+B.length+1 from by simp only [List.length_cons];lia]
 have e3:sldN (A.length+B.length+1) A B=sldF A B:=sldN_fuel _ A B (Nat.le_refl _)
 show sldN ((a::A).length+(b::B).length) (a::A) (b::B)=_
 rw [e,sldN,e1,e2,e3]
theorem sldF_nil1 (B:List KV):sldF [] B=([],B):=sldN_nil1 _ B
theorem sldF_nil2 (A:List KV):sldF A []=(A,[]):=sldN_nil2 _ A
theorem sldF_end {T1 T2:List KV} {i j:Nat} (h:T1.length≤i ∨ T2.length≤j):sldF (T1.drop i) (T2.drop j)=(T1.drop i,T2.drop j):=by
 rcases h with h | h
 ·rw [List.drop_eq_nil_of_le h,sldF_nil1]
 ·rw [List.drop_eq_nil_of_le h,sldF_nil2]
theorem drop_at {T:List KV} {i:Nat} {k:KV} (h:T[i]? = some k):T.drop i=k::T.drop (i+1):=by
 obtain ⟨hl,e⟩:=List.getElem?_eq_some_iff.mp h
 rw [←e];exact List.drop_eq_getElem_cons hl
section
variable {w:World} {B:Hab} {h₀:Heap} (N:NatOk (C0 w B) h₀) {A:Around} {l r:Memo} {ch:Ch} {x1 x2 f g mi un n1 n2 ng:Nat} {slg:Array (Option Value)} {a1 a2:List Addr} {eg:Array DictEntry} {T1 T2:List KV}
inductive slI (w:World) (ch:Ch) (l r:Memo) (f g mi un x1 x2 n1 n2 ng:Nat) (eg:Array DictEntry) (slg:Array (Option Value)) (a1 a2:List Addr) (T1 T2:List KV) (n:Nat) (y:Sx):Prop
 | mk:∀ i j M U ms us T rest nf nm nu,(y=slX w ch l r f g mi un x1 x2 n1 n2 ng eg slg a1 a2 T rest nf i j nm nu ms us)→((rest=[]∧nf=6 ∨ ∃ t7 t8 e a,rest=eaEs w t7 t8 e a∧nf=8))→(i≤T1.length)→(j≤T2.length)→(n=(T1.length - i)+(T2.length - j))→(All2 (PairAt r) ms M)→(All2 (PairAt r) us U)→(M.length≤i)→(U.length≤j)→(M ++ (sldF (T1.drop i) (T2.drop j)).1=(sldF T1 T2).1)→(U ++ (sldF (T1.drop i) (T2.drop j)).2=(sldF T1 T2).2)→slI w ch l r f g mi un x1 x2 n1 n2 ng eg slg a1 a2 T1 T2 n y
inductive slE (w:World) (ch:Ch) (l r:Memo) (f g mi un x1 x2 n1 n2 ng:Nat) (eg:Array DictEntry) (a1 a2:List Addr) (T1 T2:List KV) (y:Sx):Prop
 | mk:∀ slf slg T i j rest nf nm nu ms us,(RdL g slg)→(All2 (PairAt r) ms (sldF T1 T2).1)→(All2 (PairAt r) us (sldF T1 T2).2)→(y=⟨ch,(f,frameS slf (slEs w T x1 x2 i j mi un rest) nf)::(mi,listO (refs ms) nm)::(un,listO (refs us) nu)::(x1,listO (refs a1) n1)::(x2,listO (refs a2) n2)::(g,frameS slg eg ng)::l,r⟩)→slE w ch l r f g mi un x1 x2 n1 n2 ng eg a1 a2 T1 T2 y
theorem All2.drop' {α β:Type} {P:α→β→Prop} {a:List α} {b:List β} (h:All2 P a b):∀ i,All2 P (a.drop i) (b.drop i):=by
 induction h with
 | nil=>intro i;rw [List.drop_nil,List.drop_nil];exact .nil
 | cons p r ih =>
  intro i
  cases i with
  | zero=>exact .cons p r
  | succ i=>exact ih i
include N
theorem sl_loop {R:Result→Sx→Prop} (K:Calm A none 50) (hfr:A.frames=some [envSl (C0 w B) f,envLaw (C0 w B) g]) (hg:RdL g slg)
  (hp1:All2 (PairAt r) a1 T1) (hp2:All2 (PairAt r) a2 T2) (l1:T1.length≤20) (l2:T2.length≤20) (f1:∀ q∈T1,q.1<4∧q.2<5) (f2:∀ q∈T2,q.1<4∧q.2<5) (d1:T1.Nodup) (d2:T2.Nodup)
  (G:∀ y,slE w ch l r f g mi un x1 x2 n1 n2 ng eg a1 a2 T1 T2 y→R (.ok .next) y) {n:Nat} {y:Sx} (hI:slI w ch l r f g mi un x1 x2 n1 n2 ng eg slg a1 a2 T1 T2 n y) :
  CA (C0 w B) h₀ A y (.whileLoop (whTest (slB (C0 w B) 3)) (whBody (slB (C0 w B) 3)) [] (envSl (C0 w B) f)) R:=by
 have len1:=hp1.length
 have len2:=hp2.length
 refine CA.whileLoop (slI w ch l r f g mi un x1 x2 n1 n2 ng eg slg a1 a2 T1 T2) (fun n y hI=>?_) n hI
 obtain ⟨i,j,M,U,ms,us,T,rest,nf,nm,nu,rfl,hsh,hi,hj,hn,hM,hU,lM,lU,eM,eU⟩:=hI
 have lms:=hM.length
 have lus:=hU.length
 refine TA.of K ?_
 refine HT.val0 N [] (a:=true) (by kernel_rfl) ?_
 have eb:whBody (slB (C0 w B) 3)=[slTry (C0 w B)]:=by kernel_rfl
 rw [eb,slTry_eq]
 refine TA.tryExcept ?_
 have brk:∀ {i' j':Nat} {M' U':List KV} {ms' us':List Addr},All2 (PairAt r) ms' M'→All2 (PairAt r) us' U'→(T1.length≤i' ∨ T2.length≤j')→M' ++ (sldF (T1.drop i') (T2.drop j')).1=(sldF T1 T2).1→U' ++ (sldF (T1.drop i') (T2.drop j')).2=(sldF T1 T2).2 →
   BrkP w ch l r f g mi un x1 x2 n1 n2 ng eg a1 a2 (fun fl y2=>match fl with | .next | .cont=>∃ k,k<n∧slI w ch l r f g mi un x1 x2 n1 n2 ng eg slg a1 a2 T1 T2 k y2 | .brk=>R (.ok .next) y2 | .ret v=>R (.ok (.ret v)) y2) i' j' ms' us':=by
  intro i' j' M' U' ms' us' h1 h2 h3 h4 h5 slf slg' T' rest' nf' nm' nu' hg'
  rw [sldF_end h3] at h4 h5
  refine G _ ⟨slf,slg',T',i',j',rest',nf',nm',nu',_,_,hg',?_,?_,rfl⟩
  ·rw [←h4];exact h1.append (hp1.drop' i')
  ·rw [←h5];exact h2.append (hp2.drop' j')
 have core:i<T1.length→j<T2.length→∀ t7 t8 e a,a1[i]? = some e→a2[j]? = some a→TA (C0 w B) h₀ A (slX w ch l r f g mi un x1 x2 n1 n2 ng eg slg a1 a2 T (eaEs w t7 t8 e a) 8 i j nm nu ms us) (execsZ [stB (C0 w B) 2] (envSl (C0 w B) f)) (fun fl y2=>match fl with | .next | .cont=>∃ k,k<n∧slI w ch l r f g mi un x1 x2 n1 n2 ng eg slg a1 a2 T1 T2 k y2 | .brk=>R (.ok .next) y2 | .ret v=>R (.ok (.ret v)) y2) (exP (C0 w B) h₀ A f (fun fl y2=>match fl with | .next | .cont=>∃ k,k<n∧slI w ch l r f g mi un x1 x2 n1 n2 ng eg slg a1 a2 T1 T2 k y2 | .brk=>R (.ok .next) y2 | .ret v=>R (.ok (.ret v)) y2) (fun vz0 vz1=>False)):=by
  intro hi' hj' t7 t8 e a he ha
  refine el_EA (hp1.get he) fun ke hke pe=>?_
  refine el_EA (hp2.get ha) fun ka hka pa=>?_
  have dr1:=drop_at hke
  have dr2:=drop_at hka
  rw [dr1,dr2,sldF_cons] at eM eU
  refine sl_core N K hfr (by lia) (by lia) (by lia) (by lia) hg hp1 hp2 f1 f2 d1 d2 he ha hke hka ?_ ?_ ?_
  ·intro hlt
   rw [if_pos hlt] at eM eU
   rw [←dr2] at eM eU
   have m1:(M ++ [ke]) ++ (sldF (T1.drop (i+1)) (T2.drop j)).1=(sldF T1 T2).1:=by rw [List.append_assoc];exact eM
   refine ⟨fun h ti nm'=>?_,fun h=>brk (hM.snoc pe) hU (.inl (by lia)) m1 eU⟩
   exact ⟨_,by rw [hn];exact Nat.add_lt_add_right (Nat.sub_succ_lt_self _ _ hi') _,i+1,j,M ++ [ke],U,_,us,_,_,_,_,_,rfl,.inr ⟨_,_,_,_,rfl,rfl⟩,by lia,by lia,rfl,hM.snoc pe,hU,by rw [List.length_append,List.length_singleton];lia,lU,m1,eU⟩
  ·intro hlt hgt
   rw [if_neg (by rw [hlt];decide),if_pos hgt] at eM eU
   rw [←dr1] at eM eU
   have m1:(U ++ [ka]) ++ (sldF (T1.drop i) (T2.drop (j+1))).2=(sldF T1 T2).2:=by rw [List.append_assoc];exact eU
   refine ⟨fun h ti nm'=>?_,fun h=>brk hM (hU.snoc pa) (.inr (by lia)) eM m1⟩
   exact ⟨_,by rw [hn];exact Nat.add_lt_add_left (Nat.sub_succ_lt_self _ _ hj') _,i,j+1,M,U ++ [ka],ms,_,_,_,_,_,_,rfl,.inr ⟨_,_,_,_,rfl,rfl⟩,by lia,by lia,rfl,hM,hU.snoc pa,lM,by rw [List.length_append,List.length_singleton];lia,eM,m1⟩
  ·intro hlt hgt
   rw [if_neg (by rw [hlt];decide),if_neg (by rw [hgt];decide)] at eM eU
   refine ⟨fun h h' ti tj=>?_,fun h=>brk hM hU (by lia) eM eU⟩
   exact ⟨_,by rw [hn];exact Nat.add_lt_add (Nat.sub_succ_lt_self _ _ hi') (Nat.sub_succ_lt_self _ _ hj'),i+1,j+1,M,U,ms,us,_,_,_,_,_,rfl,.inr ⟨_,_,_,_,rfl,rfl⟩,by lia,by lia,rfl,hM,hU,by lia,by lia,eM,eU⟩
 rcases (by lia:i=T1.length ∨ i<T1.length) with hie | hil
 ·exact TA.execs_cons (TA.of K (sl_ex N (by lia) (by lia) fun y p=>sl_fresh N K hfr (by lia) (by lia) (by lia) (by lia) hg (brk hM hU (.inl (by lia)) eM eU)))
 ·obtain ⟨e,he⟩:∃ e,a1[i]? = some e:=⟨_,List.getElem?_eq_getElem (by lia)⟩
  rcases (by lia:j=T2.length ∨ j<T2.length) with hje | hjl
  ·have ax:∀ rest nf,TA (C0 w B) h₀ A (slX w ch l r f g mi un x1 x2 n1 n2 ng eg slg a1 a2 T rest nf i j nm nu ms us) (execsZ [stB (C0 w B) 1,stB (C0 w B) 2] (envSl (C0 w B) f)) (fun fl y2=>match fl with | .next | .cont=>∃ k,k<n∧slI w ch l r f g mi un x1 x2 n1 n2 ng eg slg a1 a2 T1 T2 k y2 | .brk=>R (.ok .next) y2 | .ret v=>R (.ok (.ret v)) y2) (exP (C0 w B) h₀ A f (fun fl y2=>match fl with | .next | .cont=>∃ k,k<n∧slI w ch l r f g mi un x1 x2 n1 n2 ng eg slg a1 a2 T1 T2 k y2 | .brk=>R (.ok .next) y2 | .ret v=>R (.ok (.ret v)) y2) (fun vz0 vz1=>False)):=fun rest nf =>
    TA.execs_cons (TA.of K (sl_ax N (by lia) (by lia) fun y p=>sl_fresh N K hfr (by lia) (by lia) (by lia) (by lia) hg (brk hM hU (.inr (by lia)) eM eU)))
   rcases hsh with ⟨rfl,rfl⟩ | ⟨t7,t8,e',a',rfl,rfl⟩
   ·exact TA.execs_cons (TA.of K (sl_e0 (a':=0) (e':=0) N (by lia) he fun t7 vz0=>ax _ _))
   ·exact TA.execs_cons (TA.of K (sl_e1 N (by lia) he fun t7 vz0=>ax _ _))
  ·obtain ⟨a,ha⟩:∃ a,a2[j]? = some a:=⟨_,List.getElem?_eq_getElem (by lia)⟩
   rcases hsh with ⟨rfl,rfl⟩ | ⟨t7,t8,e',a',rfl,rfl⟩
   ·exact TA.execs_cons (TA.of K (sl_e0 (a':=0) (e':=0) N (by lia) he fun t7 vz0=>TA.execs_cons (TA.of K (sl_a0 (a':=0) (e':=0) N (by lia) ha fun t7 t8=>core hil hjl _ _ _ _ he ha))))
   ·exact TA.execs_cons (TA.of K (sl_e1 N (by lia) he fun t7 vz0=>TA.execs_cons (TA.of K (sl_a1 (e':=0) N (by lia) ha fun t7 t8=>core hil hjl _ _ _ _ he ha))))
end
section
variable {w:World} {B:Hab} {h₀:Heap} (N:NatOk (C0 w B) h₀) {A:Around} {l r:Memo} {ch:Ch} {x1 x2 g n1 n2 ng:Nat} {slg:Array (Option Value)} {a1 a2:List Addr} {eg:Array DictEntry} {T1 T2:List KV}
theorem stmtsSl:stmts (C0 w B) 110=[slB (C0 w B) 0,slB (C0 w B) 1,slB (C0 w B) 2] ++ [.While (whTest (slB (C0 w B) 3)) (whBody (slB (C0 w B) 3)) [] (whPos (slB (C0 w B) 3)),slB (C0 w B) 4]:=by kernel_rfl
include N
theorem sl_call {R:Result→Sx→Prop} (K:Calm A none 52) (hfr:A.frames=some [envLaw (C0 w B) g]) (hg:RdL g slg)
  (hp1:All2 (PairAt r) a1 T1) (hp2:All2 (PairAt r) a2 T2) (l1:T1.length≤20) (l2:T2.length≤20) (f1:∀ q∈T1,q.1<4∧q.2<5) (f2:∀ q∈T2,q.1<4∧q.2<5) (d1:T1.Nodup) (d2:T2.Nodup)
  (G:∀ p mi un nm nu ms us slg',RdL g slg'→All2 (PairAt r) ms (sldF T1 T2).1→All2 (PairAt r) us (sldF T1 T2).2→R (.ok (.ret (.ref p))) ⟨ch,(g,frameS slg' eg ng)::(x1,listO (refs a1) n1)::(x2,listO (refs a2) n2)::l,(p,tupO #[.ref mi,.ref un])::(mi,listO (refs ms) nm)::(un,listO (refs us) nu)::r⟩) :
  CA (C0 w B) h₀ A ⟨ch,(g,frameS slg eg ng)::(x1,listO (refs a1) n1)::(x2,listO (refs a2) n2)::l,r⟩ (.call (.ref 110) ⟨[.ref x1,.ref x2],[]⟩) R:=by
 refine CA.enter (lv:=51) N K (o:=topObj (C0 w B) 110) [0,1,1,1,1] [0] 1 [] 0 (by kernel_rfl) (by kernel_rfl) fun b tk=>?_
 refine ⟨envSl (C0 w B) b,(b,frameO #[ent w nExp tk (.ref x1),ent w nAct (tk+1) (.ref x2)] 2)::(g,frameS slg eg ng)::(x1,listO (refs a1) n1)::(x2,listO (refs a2) n2)::l,r,ch,by kernel_rfl,rfl,?_⟩
 have e:bodyCode (fdAt (some (topObj (C0 w B) 110))) (envSl (C0 w B) b) = .func (stmts (C0 w B) 110) (envSl (C0 w B) b):=by kernel_rfl
 rw [e]
 refine CA.func ?_
 have K':=Calm.func (body:=stmts (C0 w B) 110) (env:=envSl (C0 w B) b) K
 have hfr':=frames_func (body:=stmts (C0 w B) 110) (env:=envSl (C0 w B) b) hfr
 generalize A.under (.func (stmts (C0 w B) 110) (envSl (C0 w B) b))=A' at K' hfr'
 rw [stmtsSl]
 refine TA.execs_app (TA.of K' ?_)
 intro b1 tk1
 refine HTa.val N [1,1,1,1,3,3,5,5] [2,3,1,0,4,5] 6 [] (a:=.next) (l:=(b,frameO #[ent w (S [101,120,112,101,99,116,101,100]) tk (.ref x1),ent w (S [97,99,116,117,97,108]) (tk+1) (.ref x2),ent w (S [105]) (tk1+1) (.int 0 tk1),ent w (S [106]) (tk1+2) (.int 0 tk1),ent w (S [109,105,115,115,105,110,103]) (tk1+3) (.ref b1),ent w (S [117,110,101,120,112,101,99,116,101,100]) (tk1+4) (.ref (b1+1))] 6)::(g,frameS slg eg ng)::(b1,listO #[] 0)::((b1+1),listO #[] 0)::(x1,listO (refs a1) n1)::(x2,listO (refs a2) n2)::l) (r:=r) (ch:=ch) (by kernel_rfl) rfl ?_
 refine ⟨rfl,?_⟩
 refine TA.execs_cons (TA.while (sl_loop N (f:=b) (g:=g) (mi:=b1) (un:=b1+1) (slg:=slg) K' hfr' hg hp1 hp2 l1 l2 f1 f2 d1 d2 (fun y hy=>?_) (n:=(T1.length - 0)+(T2.length - 0)) ⟨0,0,[],[],[],[],⟨tk,tk+1,tk1+1,tk1+2,tk1+3,tk1+4,tk1,tk1⟩,[],6,0,0,rfl,.inl ⟨rfl,rfl⟩,by lia,by lia,rfl,.nil,.nil,by simp,by simp,rfl,rfl⟩))
 obtain ⟨slf,slg',T,i,j,rest,nf,nm,nu,ms,us,hg',hm,hu,rfl⟩:=hy
 refine TA.of K' ?_
 intro b2 tk2
 refine HTa.val N [1,1] [6,4,5] 7 [0,2,3] (a:=.ret (.ref b2)) (l:=(g,frameS slg' eg ng)::(x1,listO (refs a1) n1)::(x2,listO (refs a2) n2)::l) (r:=(b2,tupO #[.ref b1,.ref (b1+1)])::(b1,listO (refs ms) nm)::(b1+1,listO (refs us) nu)::r) (ch:=ch) (by kernel_rfl) rfl ?_
 exact G _ _ _ _ _ _ _ _ hg' hm hu
end
section
variable {w:World} {B:Hab} {h₀:Heap} (N:NatOk (C0 w B) h₀) {l r:Memo} {ch:Ch} {a n p:Nat} {ads:List Addr} {T:List KV} {kv:KV}
include N
theorem in_loop {R:Result→Sx→Prop} (hm:(a,listO (refs ads) n)∈r) (hp:All2 (PairAt r) ads T) (hT:∀ q∈T,Fine q) (hn:T.length≤100) (hpp:PairAt r p kv) (fp:Fine kv) :
  ∀ (k i:Nat),T.length=i+k→R (.ok (.ret (.bool ((T.drop i).contains kv)))) ⟨ch,l,r⟩ →
  HC (C0 w B) h₀ none 31 ⟨ch,l,r⟩ (.builtin "list.__contains__.loop" ⟨[.ref a,.ref p,.int i 0],[]⟩) R:=by
 have hal:=hp.length
 intro k
 induction k with
 | zero =>
  intro i hi G
  have hi':T.length=i:=hi
  refine HC.bodyB (lv:=30) (w:=0) (by kernel_rfl) (Bt:=Builtin.«list.__contains__.loop») (entryFor_of_fast (by kernel_rfl)) ?_
  unfold Builtin.«list.__contains__.loop»
  refine HT.bind (HT.items (.inr hm) ?_)
  have hv':(refs ads)[(i:Int).toNat]? = none:=by rw [Int.toNat_natCast];exact Array.getElem?_eq_none (by rw [refs_size];lia)
  simp only [hv']
  refine HT.val0 N [] (a:=.done (.ret (.bool false))) (by kernel_rfl) ?_
  have e:(T.drop i).contains kv=false:=by rw [List.drop_eq_nil_of_le (by lia)];rfl
  rw [e] at G
  exact G
 | succ k ih =>
  intro i hi G
  refine HC.bodyB (lv:=30) (w:=0) (by kernel_rfl) (Bt:=Builtin.«list.__contains__.loop») (entryFor_of_fast (by kernel_rfl)) ?_
  unfold Builtin.«list.__contains__.loop»
  refine HT.bind (HT.items (.inr hm) ?_)
  have hil:i<T.length:=by lia
  obtain ⟨kq,hkq⟩:∃ kq,T[i]? = some kq:=⟨_,List.getElem?_eq_getElem hil⟩
  refine el_EA (hp.getR hkq) fun v hv hv2=>?_
  have hv':(refs ads)[(i:Int).toNat]? = some (.ref v):=by rw [Int.toNat_natCast,List.getElem?_toArray,List.getElem?_map,hv];rfl
  simp only [hv']
  have hd:(T.drop i).contains kv=(kv == kq || (T.drop (i+1)).contains kv):=by
   have e1:T[i]=kq:=by rw [List.getElem?_eq_getElem hil] at hkq;exact Option.some.inj hkq
   rw [List.drop_eq_getElem_cons hil,List.contains_cons,e1]
  rw [hd] at G
  refine HT.bind (HT.eqPairs hv2 hpp (hT _ (List.mem_of_getElem? hkq)) fp (by decide) ?_)
  by_cases hne:kq=kv
  ·subst hne
   refine HT.ite_pos (by simp) ?_
   refine HT.val0 N [] (a:=.done (.ret (.bool true))) (by kernel_rfl) ?_
   simpa using G
  ·refine HT.ite_neg (by simpa using hne) ?_
   refine HT.pure' ⟨Code.quiet_builtin _ (by decide +kernel),?_⟩
   have hf:(kv == kq)=false:=by simpa using fun e=>hne e.symm
   rw [hf,Bool.false_or] at G
   exact ih (i+1) (by lia) G
theorem in_call {R:Result→Sx→Prop} (hm:(a,listO (refs ads) n)∈r) (hp:All2 (PairAt r) ads T) (hT:∀ q∈T,Fine q) (hn:T.length≤100) (hpp:PairAt r p kv) (fp:Fine kv)
  (G:R (.ok (.ret (.bool (T.contains kv)))) ⟨ch,l,r⟩):HC (C0 w B) h₀ none 40 ⟨ch,l,r⟩ (.call (.builtin "list.__contains__") ⟨[.ref a,.ref p],[]⟩) R:=by
 refine HC.less_r (HC.reads (r:=(a,listO (refs ads) n)::r) (Sub.cons hm (Sub.refl _)) ?_)
 refine HC.tree (lv:=39) (w:=0) (by kernel_rfl) ?_
 refine HT.val0 N [2] (a:=PySem.Fin.again (.builtin "list.__contains__" ⟨[.ref a,.ref p],[]⟩)) (by kernel_rfl) ?_
 refine ⟨by kernel_rfl,?_⟩
 refine HC.tree (lv:=39) (w:=0) (by kernel_rfl) ?_
 refine HT.val0 N [] (a:=PySem.Fin.again (.builtin "list.__contains__.loop" ⟨[.ref a,.ref p,.int 0 0],[]⟩)) (by kernel_rfl) ?_
 refine ⟨by kernel_rfl,?_⟩
 refine HC.less (in_loop N (.head _) (hp.mono fun vz0 vz1=>PairAt.mono Sub.tail) hT hn (hpp.mono Sub.tail) fp T.length 0 (by lia) ?_) (by decide)
 exact ⟨r,Sub.tail,G⟩
end
theorem erase_map {α β:Type} (f:α→β):∀ (l:List α) (j:Nat),(l.map f).eraseIdx j=(l.eraseIdx j).map f
 | [],_=>rfl
 | _::_,0=>rfl
 | a::l,j+1=>by
  show f a::(l.map f).eraseIdx j=f a::(l.eraseIdx j).map f
  rw [erase_map f l j]
theorem refs_erase (ads:List Addr) (j:Nat):(refs ads).eraseIdxIfInBounds j=refs (ads.eraseIdx j):=by
 apply Array.toList_inj.mp
 simp only [refs,Array.eraseIdxIfInBounds]
 split
 ·simp [erase_map]
 ·rename_i h
  have:ads.eraseIdx j=ads:=List.eraseIdx_of_length_le (by simpa using h)
  rw [this]
section
variable {w:World} {B:Hab} {h₀:Heap} (N:NatOk (C0 w B) h₀) {l r:Memo} {ch:Ch} {a n p:Nat} {ads:List Addr} {T:List KV} {kv:KV}
include N
theorem rem_loop {R:Result→Sx→Prop} (hp:All2 (PairAt r) ads T) (hT:∀ q∈T,Fine q) (hn:T.length≤100) (hpp:PairAt r p kv) (fp:Fine kv)
  (G:∀ j,T[j]? = some kv→(∀ m,m<j→T[m]?≠some kv)→∀ n',R (.ok (.ret .none)) ⟨ch,(a,listO (refs (ads.eraseIdx j)) n')::l,r⟩)
  (GX:kv ∉ T→∀ e q,R (.error (.ref e)) ⟨ch,(e,excK "ValueError" q .none .none)::(a,listO (refs ads) n)::l,r⟩):∀ (k i:Nat),T.length=i+k→(∀ m,m<i→T[m]?≠some kv) →
  HC (C0 w B) h₀ none 31 ⟨ch,(a,listO (refs ads) n)::l,r⟩ (.builtin "list.remove.loop" ⟨[.ref a,.ref p,.int i 0],[]⟩) R:=by
 have hal:=hp.length
 intro k
 induction k with
 | zero =>
  intro i hi hb
  refine HC.bodyB (lv:=30) (w:=0) (by kernel_rfl) (Bt:=Builtin.«list.remove.loop») (entryFor_of_fast (by kernel_rfl)) ?_
  unfold Builtin.«list.remove.loop»
  refine HT.bind (HT.items (.inl (.head _)) ?_)
  have hv':(refs ads)[(i:Int).toNat]? = none:=by rw [Int.toNat_natCast];rw [Array.getElem?_eq_none];rw [refs_size,hal,hi];exact Nat.le_refl _
  rw [hv']
  have hnot:kv ∉ T:=fun h=>by
   obtain ⟨m,hm⟩:=List.getElem?_of_mem h
   exact hb m (by have:=(List.getElem?_eq_some_iff.mp hm).1;lia) hm
  intro b tk
  exact HTa.exc N [] [0,2] 3 [] (a:=.ref (b+1)) (l:=(b+1,excK "ValueError" b .none .none)::(a,listO (refs ads) n)::l) (r:=r) (ch:=ch) (by kernel_rfl) rfl (GX hnot _ _)
 | succ k ih =>
  intro i hi hb
  refine HC.bodyB (lv:=30) (w:=0) (by kernel_rfl) (Bt:=Builtin.«list.remove.loop») (entryFor_of_fast (by kernel_rfl)) ?_
  unfold Builtin.«list.remove.loop»
  refine HT.bind (HT.items (.inl (.head _)) ?_)
  have hil:i<T.length:=hi ▸ Nat.lt_add_of_pos_right (Nat.succ_pos k)
  obtain ⟨kq,hkq⟩:∃ kq,T[i]? = some kq:=⟨_,List.getElem?_eq_getElem hil⟩
  obtain ⟨v,hv,hv2⟩:=hp.getR hkq
  have hv':(refs ads)[(i:Int).toNat]? = some (.ref v):=by rw [Int.toNat_natCast,List.getElem?_toArray,List.getElem?_map,hv];rfl
  rw [hv']
  refine HT.bind (HT.eqPairs hv2 hpp (hT _ (List.mem_of_getElem? hkq)) fp (by decide) ?_)
  by_cases he:kq=kv
  ·subst he
   refine HT.ite_pos (by simp) ?_
   refine HT.bind (HT.update1 (f:=fun xs=>xs.eraseIdxIfInBounds (i:Int).toNat) (by rw [refs_size];lia) (by rw [Int.toNat_natCast,refs_erase,refs_size,List.length_eraseIdx];split <;> lia) fun n'=>?_)
   refine HT.pure' ?_
   have:=G i hkq hb n'
   rw [←refs_erase] at this
   exact this
  ·refine HT.ite_neg (by simpa using he) ?_
   refine HT.pure' ⟨Code.quiet_builtin _ (by decide +kernel),?_⟩
   refine ih (i+1) (by lia) fun m hm=>?_
   rcases Nat.lt_succ_iff_lt_or_eq.mp hm with h | rfl
   ·exact hb m h
   ·rw [hkq];exact fun q=>he (Option.some.inj q)
theorem rem_call {R:Result→Sx→Prop} (hp:All2 (PairAt r) ads T) (hT:∀ q∈T,Fine q) (hn:T.length≤100) (hpp:PairAt r p kv) (fp:Fine kv)
  (G:∀ j,T[j]? = some kv→(∀ m,m<j→T[m]?≠some kv)→∀ n',R (.ok (.ret .none)) ⟨ch,(a,listO (refs (ads.eraseIdx j)) n')::l,r⟩)
  (GX:kv ∉ T→∀ e q,R (.error (.ref e)) ⟨ch,(e,excK "ValueError" q .none .none)::(a,listO (refs ads) n)::l,r⟩):HC (C0 w B) h₀ none 40 ⟨ch,(a,listO (refs ads) n)::l,r⟩ (.call (.builtin "list.remove") ⟨[.ref a,.ref p],[]⟩) R:=by
 refine HC.tree (lv:=39) (w:=0) (by kernel_rfl) ?_
 refine HT.val0 N [1] (a:=PySem.Fin.again (.builtin "list.remove" ⟨[.ref a,.ref p],[]⟩)) (by kernel_rfl) ?_
 refine ⟨by kernel_rfl,?_⟩
 refine HC.tree (lv:=39) (w:=0) (by kernel_rfl) ?_
 refine HT.val0 N [] (a:=PySem.Fin.again (.builtin "list.remove.loop" ⟨[.ref a,.ref p,.int 0 0],[]⟩)) (by kernel_rfl) ?_
 refine ⟨by kernel_rfl,?_⟩
 exact HC.less (rem_loop N hp hT hn hpp fp G GX T.length 0 (by lia) (fun m h=>absurd h (by lia))) (by decide)
end
noncomputable abbrev nItem:Str:=S [105,116,101,109]
noncomputable abbrev ulB (C:Cfg) (i:Nat):Stmt:=nthS (stmts C 117) i
noncomputable abbrev ulW (C:Cfg) (i:Nat):Stmt:=nthS (whBody (ulB C 1)) i
theorem HC.popL {C:Cfg} {h₀:Heap} {hd:Option Value} {lv:Nat} {R:Result→Sx→Prop} {ch:Ch} {l r:Memo} {a v n:Nat} {ads:List Addr} (hz:ads.length≤100) (G:∀ n',R (.ok (.ret (.ref v))) ⟨ch,(a,listO (refs ads) n')::l,r⟩) :
  HC C h₀ hd lv ⟨ch,(a,listO (refs (ads ++ [v])) n)::l,r⟩ (.call (.builtin "list.pop") ⟨[.ref a],[]⟩) R:=by
 have hs:(refs (ads ++ [v])).size=ads.length+1:=by rw [refs_size,List.length_append];rfl
 have hy:(refs (ads ++ [v]))[(refs (ads ++ [v])).size - 1]? = some (.ref v):=by
  rw [hs,Nat.add_sub_cancel,List.getElem?_toArray,List.getElem?_map,List.getElem?_append_right (Nat.le_refl _),Nat.sub_self];rfl
 refine HC.meets F.slot_list_pop F.entry_list_pop (F.args_list_pop_1 _) (PySem.MeetsSeq.list_pop_last a _ n _ hy (by rw [hs,sizeLine_eq];lia)) fun A g d os b tk h K D=>?_
 have ho:=D.mem _ (.head _)
 have he:(refs (ads ++ [v])).eraseIdxIfInBounds ((refs (ads ++ [v])).size - 1)=refs ads:=by
  rw [hs,Nat.add_sub_cancel,refs_erase]
  congr 1
  rw [List.eraseIdx_append_of_length_le (Nat.le_refl _),Nat.sub_self];simp
 obtain ⟨n',e⟩:∃ n',Obj.mapSeq (fun xs=>xs.eraseIdxIfInBounds ((refs (ads ++ [v])).size - 1)) (listO (refs (ads ++ [v])) n)=listO (refs ads) n':=by
  rw [←he];exact ⟨_,rfl⟩
 exact ⟨⟨_,ho,rfl⟩,ho,_,⟨_,_,_,rfl,update_first D e rfl⟩,G n'⟩
structure UlT where
 t1:Tok
 t2:Tok
 t3:Tok
noncomputable abbrev ulEs (w:World) (T:UlT) (x1 x2 mi:Nat) (rest:List DictEntry):Array DictEntry:=(ent w nExp T.t1 (.ref x1)::ent w nAct T.t2 (.ref x2)::ent w nMis T.t3 (.ref mi)::rest).toArray
noncomputable abbrev itEs (w:World) (t4:Tok) (v:Nat):List DictEntry:=[ent w nItem t4 (.ref v)]
section
variable {w:World} {B:Hab} {h₀:Heap} (N:NatOk (C0 w B) h₀) {l r:Memo} {ch:Ch} {x1 x2 f g mi v n1 n2 nm nf e:Nat} {T:UlT} {slf:Array (Option Value)} {a1 a2 ms:List Addr} {kv:KV} {t4:Tok} {lf:Obj} {Q:Flow→Sx→Prop} {QB:Bool→Sx→Prop} {E:Value→Sx→Prop} {rest:List DictEntry} {T2:List KV}
theorem ulTry_eq:ulW (C0 w B) 1 = .Try (tryBody (ulW (C0 w B) 1)) [.ExceptHandler (some (hdT (tryHs (ulW (C0 w B) 1)))) none [nthS (hdB (tryHs (ulW (C0 w B) 1))) 0] (hdP (tryHs (ulW (C0 w B) 1)))] [] [] (tryPos (ulW (C0 w B) 1)):=by kernel_rfl
theorem stmtsUl:stmts (C0 w B) 117=[ulB (C0 w B) 0] ++ [.While (whTest (ulB (C0 w B) 1)) (whBody (ulB (C0 w B) 1)) [] (whPos (ulB (C0 w B) 1)),ulB (C0 w B) 2]:=by kernel_rfl
include N
theorem ul_test0 (G:QB false ⟨ch,(f,frameS slf (ulEs w T x1 x2 mi rest) nf)::(g,lf)::(mi,listO (refs ms) nm)::(x1,listO (refs []) n1)::(x2,listO (refs a2) n2)::l,r⟩) :
  HT (C0 w B) h₀ none 50 ⟨ch,(f,frameS slf (ulEs w T x1 x2 mi rest) nf)::(g,lf)::(mi,listO (refs ms) nm)::(x1,listO (refs []) n1)::(x2,listO (refs a2) n2)::l,r⟩ (isTrueZ (whTest (ulB (C0 w B) 1)) (envUl (C0 w B) f) (evalZ (whTest (ulB (C0 w B) 1)) (envUl (C0 w B) f))) QB E:=by
 refine HT.val0 N [1,7,7,1,7,1,7,7] (a:=false) (by kernel_rfl) ?_
 exact G
theorem ul_test1 {a:Addr} (hz:a1.length≤50) (G:QB true ⟨ch,(f,frameS slf (ulEs w T x1 x2 mi rest) nf)::(g,lf)::(mi,listO (refs ms) nm)::(x1,listO (refs (a::a1)) n1)::(x2,listO (refs a2) n2)::l,r⟩) :
  HT (C0 w B) h₀ none 50 ⟨ch,(f,frameS slf (ulEs w T x1 x2 mi rest) nf)::(g,lf)::(mi,listO (refs ms) nm)::(x1,listO (refs (a::a1)) n1)::(x2,listO (refs a2) n2)::l,r⟩ (isTrueZ (whTest (ulB (C0 w B) 1)) (envUl (C0 w B) f) (evalZ (whTest (ulB (C0 w B) 1)) (envUl (C0 w B) f))) QB E:=by
 refine HT.cut0 N [1,7,7] (c:=.builtin "len" ⟨[.ref x1],[]⟩) (by kernel_rfl) fun b tk=>?_
 refine HC.lenL (.inl (.tail _ (.tail _ (.tail _ (.head _))))) (by rw [refs_size,List.length_cons];lia) fun t=>?_
 refine HT.val0 N [] (a:=true) (by kernel_rfl) ?_
 exact G
theorem ul_item0 (hz:a1.length≤50) (G:∀ t4 n1',Q .next ⟨ch,(f,frameS slf (ulEs w T x1 x2 mi (itEs w t4 v)) 4)::(g,lf)::(mi,listO (refs ms) nm)::(x1,listO (refs a1) n1')::(x2,listO (refs a2) n2)::l,r⟩) :
  HT (C0 w B) h₀ none 50 ⟨ch,(f,frameS slf (ulEs w T x1 x2 mi []) 3)::(g,lf)::(mi,listO (refs ms) nm)::(x1,listO (refs (a1 ++ [v])) n1)::(x2,listO (refs a2) n2)::l,r⟩ (execsZ [ulW (C0 w B) 0] (envUl (C0 w B) f)) Q E:=by
 intro b tk
 refine HTa.cutN N [1,7,7,7,7] [3,0,1,2,4] 5 [] (c:=.call (.builtin "list.pop") ⟨[.ref x1],[]⟩) (l:=(x1,listO (refs (a1 ++ [v])) n1)::(f,frameS slf (ulEs w T x1 x2 mi []) 3)::(g,lf)::(mi,listO (refs ms) nm)::(x2,listO (refs a2) n2)::l) (r:=r) (ch:=ch) (by kernel_rfl) rfl ?_
 refine HC.popL (by lia) fun n1'=>?_
 intro b tk
 refine HTa.val N [3,3] [1,2,3,0,4] 5 [] (a:=.next) (l:=(f,{ cls:=.type "frame",data:=.dict #[ent w (S [101,120,112,101,99,116,101,100]) T.1 (.ref x1),ent w (S [97,99,116,117,97,108]) T.2 (.ref x2),ent w (S [109,105,115,115,105,110,103]) T.3 (.ref mi),ent w (S [105,116,101,109]) tk (.ref v)] 4,slots:=(slf) })::(g,lf)::(mi,listO (refs ms) nm)::(x1,listO (refs a1) n1')::(x2,listO (refs a2) n2)::l) (r:=r) (ch:=ch) (by kernel_rfl) rfl ?_
 exact G tk _
theorem ul_item1 {v0:Nat} (hz:a1.length≤50) (G:∀ t4 n1',Q .next ⟨ch,(f,frameS slf (ulEs w T x1 x2 mi (itEs w t4 v)) 4)::(g,lf)::(mi,listO (refs ms) nm)::(x1,listO (refs a1) n1')::(x2,listO (refs a2) n2)::l,r⟩) :
  HT (C0 w B) h₀ none 50 ⟨ch,(f,frameS slf (ulEs w T x1 x2 mi (itEs w t4 v0)) 4)::(g,lf)::(mi,listO (refs ms) nm)::(x1,listO (refs (a1 ++ [v])) n1)::(x2,listO (refs a2) n2)::l,r⟩ (execsZ [ulW (C0 w B) 0] (envUl (C0 w B) f)) Q E:=by
 intro b tk
 refine HTa.cutN N [1,7,7,7,7] [3,0,1,2,4] 5 [] (c:=.call (.builtin "list.pop") ⟨[.ref x1],[]⟩) (l:=(x1,listO (refs (a1 ++ [v])) n1)::(f,frameS slf (ulEs w T x1 x2 mi (itEs w t4 v0)) 4)::(g,lf)::(mi,listO (refs ms) nm)::(x2,listO (refs a2) n2)::l) (r:=r) (ch:=ch) (by kernel_rfl) rfl ?_
 refine HC.popL (by lia) fun n1'=>?_
 intro b tk
 refine HTa.val N [3,3] [1,2,3,0,4] 5 [] (a:=.next) (l:=(f,{ cls:=.type "frame",data:=.dict #[ent w (S [101,120,112,101,99,116,101,100]) T.1 (.ref x1),ent w (S [97,99,116,117,97,108]) T.2 (.ref x2),ent w (S [109,105,115,115,105,110,103]) T.3 (.ref mi),ent w (S [105,116,101,109]) t4 (.ref v)] 4,slots:=(slf) })::(g,lf)::(mi,listO (refs ms) nm)::(x1,listO (refs a1) n1')::(x2,listO (refs a2) n2)::l) (r:=r) (ch:=ch) (by kernel_rfl) rfl ?_
 exact G t4 _
theorem ul_rem (hp:All2 (PairAt r) a2 T2) (hT:∀ q∈T2,Fine q) (hn:T2.length≤100) (hpp:PairAt r v kv) (fp:Fine kv)
  (G:∀ j,T2[j]? = some kv→(∀ m,m<j→T2[m]?≠some kv)→∀ n2',Q .next ⟨ch,(f,frameS slf (ulEs w T x1 x2 mi (itEs w t4 v)) 4)::(g,lf)::(mi,listO (refs ms) nm)::(x1,listO (refs a1) n1)::(x2,listO (refs (a2.eraseIdx j)) n2')::l,r⟩)
  (GX:kv ∉ T2→∀ e q,E (.ref e) ⟨ch,(e,excK "ValueError" q .none .none)::(f,frameS slf (ulEs w T x1 x2 mi (itEs w t4 v)) 4)::(g,lf)::(mi,listO (refs ms) nm)::(x1,listO (refs a1) n1)::(x2,listO (refs a2) n2)::l,r⟩) :
  HT (C0 w B) h₀ none 50 ⟨ch,(f,frameS slf (ulEs w T x1 x2 mi (itEs w t4 v)) 4)::(g,lf)::(mi,listO (refs ms) nm)::(x1,listO (refs a1) n1)::(x2,listO (refs a2) n2)::l,r⟩ (execsZ (tryBody (ulW (C0 w B) 1)) (envUl (C0 w B) f)) Q E:=by
 intro b tk
 refine HTa.cutN N [1,9,9,9,9,1] [4,0,1,2,3] 5 [] (c:=.call (.builtin "list.remove") ⟨[.ref x2,.ref v],[]⟩) (l:=(x2,listO (refs a2) n2)::(f,frameS slf (ulEs w T x1 x2 mi (itEs w t4 v)) 4)::(g,lf)::(mi,listO (refs ms) nm)::(x1,listO (refs a1) n1)::l) (r:=r) (ch:=ch) (by kernel_rfl) rfl ?_
 refine HC.less (lv:=40) (rem_call N hp hT hn hpp fp (fun j h1 h2 n2'=>?_) (fun hx e q=>?_)) (by decide)
 ·intro b tk
  refine HTa.val N [] [1,2,3,4,0] 5 [] (a:=.next) (l:=(f,frameS slf (ulEs w T x1 x2 mi (itEs w t4 v)) 4)::(g,lf)::(mi,listO (refs ms) nm)::(x1,listO (refs a1) n1)::(x2,listO (refs (a2.eraseIdx j)) n2')::l) (r:=r) (ch:=ch) (by kernel_rfl) rfl ?_
  exact G j h1 h2 n2'
 ·intro b tk
  exact HTa.exc N [] [0,2,3,4,5,1] 6 [] (a:=.ref e) (l:=(e,excK "ValueError" q .none .none)::(f,frameS slf (ulEs w T x1 x2 mi (itEs w t4 v)) 4)::(g,lf)::(mi,listO (refs ms) nm)::(x1,listO (refs a1) n1)::(x2,listO (refs a2) n2)::l) (r:=r) (ch:=ch) (by kernel_rfl) rfl (GX hx e q)
theorem ul_suite (hz:ms.length≤50) (G:Q .next ⟨ch,(f,frameS slf (ulEs w T x1 x2 mi (itEs w t4 v)) 4)::(g,lf)::(mi,listO (refs (ms ++ [v])) (nm+1))::(x1,listO (refs a1) n1)::(x2,listO (refs a2) n2)::l,r⟩) :
  HT (C0 w B) h₀ (some (.ref e)) 50 ⟨ch,(f,frameS slf (ulEs w T x1 x2 mi (itEs w t4 v)) 4)::(g,lf)::(mi,listO (refs ms) nm)::(x1,listO (refs a1) n1)::(x2,listO (refs a2) n2)::l,r⟩ (execsZ [nthS (hdB (tryHs (ulW (C0 w B) 1))) 0] (envUl (C0 w B) f)) Q (fun vz0 vz1=>False):=by
 intro b tk
 refine HTa.cut N [1,5,5,5,5,1] [2,0,1,3,4] 5 [] (c:=.call (.builtin "list.append") ⟨[.ref mi,.ref v],[]⟩) (l:=(mi,listO (refs ms) nm)::(f,frameS slf (ulEs w T x1 x2 mi (itEs w t4 v)) 4)::(g,lf)::(x1,listO (refs a1) n1)::(x2,listO (refs a2) n2)::l) (r:=r) (ch:=ch) (by kernel_rfl) rfl (by intro h;cases h) ?_
 refine HC.append (by rw [refs_size,sizeLine_eq];lia) ?_
 rw [refs_push]
 intro b tk
 refine HTa.val N [] [1,2,0,3,4] 5 [] (a:=.next) (l:=(f,frameS slf (ulEs w T x1 x2 mi (itEs w t4 v)) 4)::(g,lf)::(mi,listO (refs (ms ++ [v])) (nm+1))::(x1,listO (refs a1) n1)::(x2,listO (refs a2) n2)::l) (r:=r) (ch:=ch) (by kernel_rfl) rfl ?_
 exact G
end
noncomputable def ulF:List KV→List KV→List KV→List KV×List KV
 | [],M,U=>(M,U)
 | x::xs,M,U=>if x∈U then ulF xs M (U.eraseIdx (U.idxOf x)) else ulF xs (M ++ [x]) U
theorem idxOf_first {T:List KV} {kv:KV}:∀ {j:Nat},T[j]? = some kv→(∀ m,m<j→T[m]?≠some kv)→T.idxOf kv=j:=by
 induction T with
 | nil=>intro j h;simp at h
 | cons a T ih =>
  intro j h hb
  rw [List.idxOf_cons]
  cases j with
  | zero =>
   have:a=kv:=by simpa using h
   subst this;simp
  | succ j =>
   have hne:(a == kv)=false:=by
    have:=hb 0 (by lia)
    simpa using this
   rw [hne,cond_false,ih (j:=j) (by simpa using h) (fun m hm=>by have:=hb (m+1) (by lia);simpa using this)]
theorem All2.erase {α β:Type} {P:α→β→Prop} {a:List α} {b:List β} (h:All2 P a b):∀ i,All2 P (a.eraseIdx i) (b.eraseIdx i):=by
 induction h with
 | nil=>intro i;exact .nil
 | cons p r ih =>
  intro i
  cases i with
  | zero=>exact r
  | succ i=>exact .cons p (ih i)
theorem All2.last {α β:Type} {P:α→β→Prop} {a:List α} {b:List β} {y:β} (h:All2 P a (b ++ [y])):∃ a' x,a=a' ++ [x]∧All2 P a' b∧P x y:=by
 induction b generalizing a with
 | nil =>
  cases h with
  | cons p r=>cases r with | nil=>exact ⟨[],_,rfl,.nil,p⟩
 | cons c b ih =>
  cases h with
  | cons p r =>
   refine el_EEAA (ih r) fun a' x hE2 h1 h2=>?_
   subst hE2
   exact ⟨_::a',x,rfl,.cons p h1,h2⟩
section
variable {w:World} {B:Hab} {h₀:Heap} (N:NatOk (C0 w B) h₀) {A:Around} {l r:Memo} {ch:Ch} {hd:Option Value} {lv x1 x2 f g y mi ng nf n1 n2:Nat} {slf slg:Array (Option Value)} {a1 a2:List Addr} {es eg:Array DictEntry} {T1 T2:List KV} {eo:Obj}
include N
theorem rdyU (hf:slf = #[] ∨ slf=slF 117 g) (hg:RdL g slg) {Q:Unit→Sx→Prop} {E:Value→Sx→Prop} (G:∀ s:{s // RdL g s},Q () ⟨ch,(y,eo)::(f,frameS (slF 117 g) es nf)::(g,frameS s.1 eg ng)::l,r⟩) :
  HT (C0 w B) h₀ hd lv ⟨ch,(y,eo)::(f,frameS slf es nf)::(g,frameS slg eg ng)::l,r⟩ (readyFrames [envUl (C0 w B) f,envLaw (C0 w B) g]) Q E:=by
 refine HT.choose (il:=[1,2,0]) (k:=3) (ir:=[]) rfl ?_
 rcases hf with rfl | rfl
 ·refine ready_ul N ?_
  refine HT.choose (il:=[1,2,0]) (k:=3) (ir:=[]) rfl ?_
  refine HT.postP [1,2,0] 3 [] rfl ?_
  rcases hg with rfl | ⟨v,rfl⟩
  ·exact ready_law N fun v=>G ⟨_,.inr ⟨v,rfl⟩⟩
  ·exact ready_again N (G ⟨_,.inr ⟨v,rfl⟩⟩)
 ·refine HT.postP [2,0,1] 3 [] rfl ?_
  exact ready_ul2 N (G ⟨slg,hg⟩)
omit N in
inductive ulI (w:World) (ch:Ch) (l r:Memo) (f g mi x1 x2 ng:Nat) (eg:Array DictEntry) (O:List KV×List KV) (n:Nat) (y:Sx):Prop
 | mk:∀ p1 P1 p2 U ms M T rest nf nm n1 n2 slf slg,(y=⟨ch,(f,frameS slf (ulEs w T x1 x2 mi rest) nf)::(g,frameS slg eg ng)::(mi,listO (refs ms) nm)::(x1,listO (refs p1) n1)::(x2,listO (refs p2) n2)::l,r⟩)→((rest=[]∧nf=3 ∨ ∃ t4 v,rest=itEs w t4 v∧nf=4))→(n=P1.length)→((slf = #[] ∨ slf=slF 117 g))→(RdL g slg)→(All2 (PairAt r) p1 P1)→(All2 (PairAt r) p2 U)→(All2 (PairAt r) ms M)→(P1.length+M.length≤20)→(U.length≤20)→((∀ q∈P1,Fine q))→((∀ q∈U,Fine q))→(ulF P1.reverse M U=O)→ulI w ch l r f g mi x1 x2 ng eg O n y
theorem ul_loop {R:Result→Sx→Prop} {O:List KV×List KV} (K:Calm A none 50) (hfr:A.frames=some [envUl (C0 w B) f,envLaw (C0 w B) g])
  (G:∀ y,ulI w ch l r f g mi x1 x2 ng eg O 0 y→R (.ok .next) y) {n:Nat} {y:Sx} (hI:ulI w ch l r f g mi x1 x2 ng eg O n y) :
  CA (C0 w B) h₀ A y (.whileLoop (whTest (ulB (C0 w B) 1)) (whBody (ulB (C0 w B) 1)) [] (envUl (C0 w B) f)) R:=by
 refine CA.whileLoop (ulI w ch l r f g mi x1 x2 ng eg O) (fun n y hI=>?_) n hI
 obtain ⟨p1,P1,p2,U,ms,M,T,rest,nf,nm,n1,n2,slf,slg,rfl,hsh,hn,hf,hg,h1,h2,h3,hl,hu,f1,f2,hO⟩:=hI
 have lp1:=h1.length
 have lms:=h3.length
 rcases List.eq_nil_or_concat P1 with rfl | ⟨P,kv,rfl⟩
 ·have:p1=[]:=List.eq_nil_of_length_eq_zero lp1
  subst this
  refine TA.of K (ul_test0 N ?_)
  exact G _ ⟨[],[],p2,U,ms,M,T,rest,nf,nm,n1,n2,slf,slg,rfl,hsh,rfl,hf,hg,.nil,h2,h3,hl,hu,f1,f2,hO⟩
 ·rw [List.concat_eq_append] at *
  obtain ⟨p1,v,rfl,h1,pv⟩:=h1.last
  have lp1:=h1.length
  rw [List.length_append,List.length_singleton] at hl hn
  have test:∀ {QB:Bool→Sx→Prop} {E:Value→Sx→Prop},QB true ⟨ch,(f,frameS slf (ulEs w T x1 x2 mi rest) nf)::(g,frameS slg eg ng)::(mi,listO (refs ms) nm)::(x1,listO (refs (p1 ++ [v])) n1)::(x2,listO (refs p2) n2)::l,r⟩ →
    HT (C0 w B) h₀ none 50 ⟨ch,(f,frameS slf (ulEs w T x1 x2 mi rest) nf)::(g,frameS slg eg ng)::(mi,listO (refs ms) nm)::(x1,listO (refs (p1 ++ [v])) n1)::(x2,listO (refs p2) n2)::l,r⟩ (isTrueZ (whTest (ulB (C0 w B) 1)) (envUl (C0 w B) f) (evalZ (whTest (ulB (C0 w B) 1)) (envUl (C0 w B) f))) QB E:=by
   intro QB E hq
   cases p1 with
   | nil=>exact ul_test1 (a1:=[]) N (by simp) hq
   | cons a as=>exact ul_test1 (a1:=as ++ [v]) N (by rw [List.length_append,List.length_singleton];simp only [List.length_cons] at lp1;lia) hq
  refine TA.of K (test ?_)
  have eb:whBody (ulB (C0 w B) 1)=[ulW (C0 w B) 0,ulW (C0 w B) 1]:=by kernel_rfl
  rw [eb]
  have fkv:Fine kv:=f1 _ (List.mem_append.mpr (.inr (.head _)))
  rw [List.reverse_append,List.reverse_singleton,List.singleton_append,ulF] at hO
  have rest2:∀ t4 n1',TA (C0 w B) h₀ A ⟨ch,(f,frameS slf (ulEs w T x1 x2 mi (itEs w t4 v)) 4)::(g,frameS slg eg ng)::(mi,listO (refs ms) nm)::(x1,listO (refs p1) n1')::(x2,listO (refs p2) n2)::l,r⟩ (execsZ [ulW (C0 w B) 1] (envUl (C0 w B) f))
    (fun fl y2=>match fl with | .next | .cont=>∃ k,k<n∧ulI w ch l r f g mi x1 x2 ng eg O k y2 | .brk=>R (.ok .next) y2 | .ret v=>R (.ok (.ret v)) y2) (fun vz0 vz1=>False):=by
   intro t4 n1'
   rw [ulTry_eq]
   refine TA.tryExcept (TA.of K (ul_rem N h2 f2 (by lia) pv fkv (fun j hj hb n2'=>?_) (fun hx e q=>?_)))
   ·have hm:kv∈U:=List.mem_of_getElem? hj
    rw [if_pos hm,idxOf_first hj hb] at hO
    have ljU:=(List.getElem?_eq_some_iff.mp hj).1
    exact ⟨P.length,by lia,p1,P,_,U.eraseIdx j,ms,M,T,_,_,_,_,_,_,_,rfl,.inr ⟨_,_,rfl,rfl⟩,rfl,hf,hg,h1,h2.erase j,h3,by lia,by rw [List.length_eraseIdx];split <;> lia,fun q hq=>f1 _ (List.mem_append.mpr (.inl hq)),fun q hq=>f2 _ (List.mem_of_mem_eraseIdx hq),hO⟩
   ·rw [if_neg hx] at hO
    refine note_new (f:=f) N K hfr (by kernel_rfl) (fun G=>rdyU N hf hg G) fun s tb c=>?_
    refine TA.of K (flight_none N ?_)
    refine TA.handle (X:="ValueError") (T:="ValueError") (by kernel_rfl) (by kernel_rfl) (by kernel_rfl) (TA.of K.mark ?_)
    refine HT.val0 N [0,0] (a:=.type "ValueError") (by kernel_rfl) ?_
    refine ⟨rfl,⟨_,.head _,rfl⟩,TA.of K.mark (flight_none N ?_)⟩
    refine TA.choose (il:=[2,3,4,5,6]) (k:=7) (ir:=[]) rfl ?_
    refine TA.of K.mark (ul_suite N (by lia) ?_)
    exact ⟨P.length,by lia,p1,P,_,U,_,M ++ [kv],T,_,_,_,_,_,_,s.1,rfl,.inr ⟨_,_,rfl,rfl⟩,rfl,.inr rfl,s.2,h1,h2,h3.snoc pv,by rw [List.length_append,List.length_singleton];lia,hu,fun q hq=>f1 _ (List.mem_append.mpr (.inl hq)),f2,hO⟩
  rcases hsh with ⟨rfl,rfl⟩ | ⟨t4,v0,rfl,rfl⟩
  ·exact TA.execs_cons (TA.of K (ul_item0 N (by lia) fun t4 n1'=>rest2 t4 n1'))
  ·exact TA.execs_cons (TA.of K (ul_item1 N (by lia) fun t4 n1'=>rest2 t4 n1'))
theorem ul_call {R:Result→Sx→Prop} (K:Calm A none 52) (hfr:A.frames=some [envLaw (C0 w B) g]) (hg:RdL g slg)
  (hp1:All2 (PairAt r) a1 T1) (hp2:All2 (PairAt r) a2 T2) (l1:T1.length≤20) (l2:T2.length≤20) (f1:∀ q∈T1,Fine q) (f2:∀ q∈T2,Fine q)
  (G:∀ p mi nm n2' ms us slg',RdL g slg'→All2 (PairAt r) ms (ulF T1.reverse [] T2).1→All2 (PairAt r) us (ulF T1.reverse [] T2).2→R (.ok (.ret (.ref p))) ⟨ch,(g,frameS slg' eg ng)::l,(p,tupO #[.ref mi,.ref x2])::(mi,listO (refs ms) nm)::(x2,listO (refs us) n2')::r⟩) :
  CA (C0 w B) h₀ A ⟨ch,(g,frameS slg eg ng)::(x1,listO (refs a1) n1)::(x2,listO (refs a2) n2)::l,r⟩ (.call (.ref 117) ⟨[.ref x1,.ref x2],[]⟩) R:=by
 refine CA.enter (lv:=51) N K (o:=topObj (C0 w B) 117) [0,1,1,1,1] [0] 1 [] 0 (by kernel_rfl) (by kernel_rfl) fun b tk=>?_
 refine ⟨envUl (C0 w B) b,(b,frameO #[ent w nExp tk (.ref x1),ent w nAct (tk+1) (.ref x2)] 2)::(g,frameS slg eg ng)::(x1,listO (refs a1) n1)::(x2,listO (refs a2) n2)::l,r,ch,by kernel_rfl,rfl,?_⟩
 have e:bodyCode (fdAt (some (topObj (C0 w B) 117))) (envUl (C0 w B) b) = .func (stmts (C0 w B) 117) (envUl (C0 w B) b):=by kernel_rfl
 rw [e]
 refine CA.func ?_
 have K':=Calm.func (body:=stmts (C0 w B) 117) (env:=envUl (C0 w B) b) K
 have hfr':=frames_func (body:=stmts (C0 w B) 117) (env:=envUl (C0 w B) b) hfr
 generalize A.under (.func (stmts (C0 w B) 117) (envUl (C0 w B) b))=A' at K' hfr'
 rw [stmtsUl]
 refine TA.execs_app (TA.of K' ?_)
 intro b1 tk1
 refine HTa.val N [3,3] [1,2,0,3,4] 5 [] (a:=.next) (l:=(b,frameO #[ent w (S [101,120,112,101,99,116,101,100]) tk (.ref x1),ent w (S [97,99,116,117,97,108]) (tk+1) (.ref x2),ent w (S [109,105,115,115,105,110,103]) tk1 (.ref b1)] 3)::(g,frameS slg eg ng)::(b1,listO #[] 0)::(x1,listO (refs a1) n1)::(x2,listO (refs a2) n2)::l) (r:=r) (ch:=ch) (by kernel_rfl) rfl ?_
 refine ⟨rfl,?_⟩
 refine TA.execs_cons (TA.while (ul_loop N (f:=b) (g:=g) (mi:=b1) (O:=ulF T1.reverse [] T2) K' hfr' (fun y hy=>?_) (n:=T1.length) ⟨a1,T1,a2,T2,[],[],⟨tk,tk+1,tk1⟩,[],3,0,n1,n2,#[],slg,rfl,.inl ⟨rfl,rfl⟩,rfl,.inl rfl,hg,hp1,hp2,.nil,by simpa using l1,l2,f1,f2,rfl⟩))
 obtain ⟨p1,P1,p2,U,ms,M,T,rest,nf,nm,n1,n2,slf,slg,rfl,hsh,hn,hf,hg,h1,h2,h3,hl,hu,f1,f2,hO⟩:=hy
 have:P1=[]:=List.eq_nil_of_length_eq_zero hn.symm
 subst this
 rw [List.reverse_nil,ulF] at hO
 rw [←hO] at G
 refine TA.of K' ?_
 intro b2 tk2
 refine HTa.val N [1,1] [2] 6 [0,3,5] (a:=.ret (.ref b2)) (l:=(g,frameS slg eg ng)::l) (r:=(b2,tupO #[.ref b1,.ref x2])::(b1,listO (refs ms) nm)::(x2,listO (refs p2) n2)::r) (ch:=ch) (by kernel_rfl) rfl ?_
 exact G _ _ _ _ _ _ _ hg h3 h2
end
@[elab_as_elim] theorem Bool.two' {P:Bool→Prop} (q:Bool) (f:At P false) (t:At P true):P q:=by
 cases q
 ·exact f
 ·exact t
noncomputable def lcE (C:Cfg) (s:Bool):PySem.Expr:=match s with
 | false=>tupL (asgV (lB C 12))
 | true=>tupR (asgV (lB C 12))
noncomputable def fEo (f:Addr) (s:Bool):Addr:=match s with
 | false=>f+2
 | true=>f+1
noncomputable def nEo (s:Bool):Str:=match s with
 | false=>nNew
 | true=>nOld
noncomputable abbrev envE (C:Cfg) (s:Bool) (D f:Addr):PySem.Env:=compEnvC (scopeOf (lcE C s)) [(nEo s,fEo f s)] D (envLaw C f)
noncomputable abbrev cE (C:Cfg) (s:Bool) (it acc D f:Addr):Code:=.compLoop (lcE C s) 0 (.ref it) (.ref acc) (envE C s D f)
noncomputable abbrev cES (C:Cfg) (s:Bool) (it acc D f:Addr):Code:=.compStart (lcE C s) 0 (.ref it) (.ref acc) (envE C s D f)
section
variable {w:World} {B:Hab} {h₀:Heap} (N:NatOk (C0 w B) h₀) {s:Bool} {f D it a acc m mn:Nat} {l r:Memo} {ch:Ch} {R:Result→Sx→Prop} {mads:List Addr} {M:List KV}
theorem esE:lcE (C0 w B) s = .ListComp (eltOf (lcE (C0 w B) s)) [gen1 (lcE (C0 w B) s)] (scopeOf (lcE (C0 w B) s)) (lcPos (lcE (C0 w B) s)):=by exact Bool.two' s (by kernel_rfl) (by kernel_rfl)
include N
theorem stE {Q:PySem.Fin→Sx→Prop} {E:Value→Sx→Prop} (G:Q (.again (cE (C0 w B) s it acc D f)) ⟨ch,(it,iterO a 0)::l,r⟩):HT (C0 w B) h₀ none 150 ⟨ch,(it,iterO a 0)::l,r⟩ (denZ (cES (C0 w B) s it acc D f)) Q E:=by
 obtain ⟨b1,b2,b3,b4⟩:=B
 intro b tk
 cases b2
 ·cases b1 <;> cases s <;> exact HTa.val N [1,1,1,1,1] [0] 1 [] (a:=PySem.Fin.again (cE _ _ it acc D f)) (l:=(it,iterO a 0)::l) (r:=r) (ch:=ch) (by kernel_rfl) rfl G
 ·cases s <;> exact HTa.val N [] [0] 1 [] (a:=PySem.Fin.again (cE _ _ it acc D f)) (l:=(it,iterO a 0)::l) (r:=r) (ch:=ch) (by kernel_rfl) rfl G
theorem tuE {p i n' b0 tk0:Nat} {q:KV} {xs:Array Value} {o:Obj} {Q:PySem.Fin→Sx→Prop} (hxs:xs.size≤10000) (ho:OneName w nPair i o)
  (hm:(m,listO (refs mads) mn)∈r) (hp:All2 (PairAt r) mads M) (hM:∀ q∈M,Fine q) (hn:M.length≤100) (hpp:PairAt r p q) (fp:Fine q)
  (G:∀ o' xs' n2,OneName w nPair (i+1) o'→(if M.contains q=true then xs'=xs else xs'=xs.push (.ref p))→Q (.again (cE (C0 w B) s it acc D f)) ⟨ch,(it,iterO a (i+1))::(acc,listO xs' n2)::(D,o')::(fEo f s,cellR m)::l,r⟩) :
  HT (C0 w B) h₀ none 150 ⟨ch,(it,iterO a (i+1))::(acc,listO xs n')::(D,o)::(fEo f s,cellR m)::l,r⟩ ((go (C0 w B) none 150 [1] (denZ (cE (C0 w B) s it acc D f)) ⟨(it,iterO a i)::(acc,listO xs n')::(D,o)::(fEo f s,cellR m)::l,r,b0,tk0,ch⟩).kont (.ok (.ret (.ref p)))) Q (fun vz0 vz1=>False):=by
 refine HT.less_r (HT.reads (r:=(m,listO (refs mads) mn)::r) (Sub.cons hm (Sub.refl _)) ?_)
 have key:∀ {l':Memo} {RR:Result→Sx→Prop},RR (.ok (.ret (.bool (M.contains q)))) ⟨ch,l',(m,listO (refs mads) mn)::r⟩→HC (C0 w B) h₀ none 150 ⟨ch,l',(m,listO (refs mads) mn)::r⟩ (.call (.builtin "list.__contains__") ⟨[.ref m,.ref p],[]⟩) RR :=
  fun {l' RR} hk=>HC.less (in_call N (.head _) (hp.mono fun vz0 vz1=>PairAt.mono Sub.tail) hM hn (hpp.mono Sub.tail) fp hk) (by decide)
 intro b tk
 refine HTa.cutN N [5,5,5,7,2,2] [0,1,2,3] 4 [] (c:=.call (.builtin "list.__contains__") ⟨[.ref m,.ref p],[]⟩) (l:=(it,iterO a (i+1))::(acc,listO xs n')::(D,dictO #[ent w (S [112,97,105,114]) (nmTok o tk) (.ref p)] 1)::(fEo f s,cellR m)::l) (r:=(m,listO (refs mads) mn)::r) (ch:=ch) (by exact OneName.two ho (by exact Bool.two' s (by kernel_rfl) (by kernel_rfl)) fun i t v=>by exact Bool.two' s (by kernel_rfl) (by kernel_rfl)) rfl ?_
 refine key fun b5 tk5=>?_
 by_cases hk:M.contains q=true
 ·rw [hk]
  refine HTa.val N [] [0,1,2,3] 4 [] (a:=PySem.Fin.again (cE (C0 w B) s it acc D f)) (l:=(it,iterO a (i+1))::(acc,listO xs n')::(D,dictO #[ent w (S [112,97,105,114]) (nmTok o tk) (Value.ref p)] 1)::(fEo f s,cellR m)::l) (r:=(m,listO (refs mads) mn)::r) (ch:=ch) (by exact OneName.two ho (by exact Bool.two' s (by kernel_rfl) (by kernel_rfl)) fun i t v=>by exact Bool.two' s (by kernel_rfl) (by kernel_rfl)) rfl ?_
  exact ⟨r,Sub.tail,G _ _ _ (.inr ⟨Nat.succ_pos _,_,_,rfl⟩) (by rw [if_pos hk])⟩
 ·rw [show M.contains q=false from by simpa using hk]
  refine HTa.cutN N [5] [1,0,2,3] 4 [] (c:=.call (.builtin "list.append") ⟨[.ref acc,.ref p],[]⟩) (l:=(acc,listO xs n')::(it,iterO a (i+1))::(D,dictO #[ent w (S [112,97,105,114]) (nmTok o tk) (Value.ref p)] 1)::(fEo f s,cellR m)::l) (r:=(m,listO (refs mads) mn)::r) (ch:=ch) (by exact OneName.two ho (by exact Bool.two' s (by kernel_rfl) (by kernel_rfl)) fun i t v=>by exact Bool.two' s (by kernel_rfl) (by kernel_rfl)) rfl ?_
  refine HC.append (by rw [sizeLine_eq];lia) fun b6 tk6=>?_
  refine HTa.val N [] [1,0,2,3] 4 [] (a:=PySem.Fin.again (cE (C0 w B) s it acc D f)) (l:=(it,iterO a (i+1))::(acc,listO (xs.push (Value.ref p)) (n'+1))::(D,dictO #[ent w (S [112,97,105,114]) (nmTok o tk) (Value.ref p)] 1)::(fEo f s,cellR m)::l) (r:=(m,listO (refs mads) mn)::r) (ch:=ch) (by exact OneName.two ho (by exact Bool.two' s (by kernel_rfl) (by kernel_rfl)) fun i t v=>by exact Bool.two' s (by kernel_rfl) (by kernel_rfl)) rfl ?_
  exact ⟨r,Sub.tail,G _ _ _ (.inr ⟨Nat.succ_pos _,_,_,rfl⟩) (by rw [if_neg hk])⟩
theorem coE {ads:List Addr} {T:List KV} {n:Nat} (hl:(a,listO (refs ads) n)∈r) (hT:All2 (PairAt r) ads T) (hTn:T.length≤100) (hTf:∀ q∈T,Fine q)
  (hm:(m,listO (refs mads) mn)∈r) (hp:All2 (PairAt r) mads M) (hM:∀ q∈M,Fine q) (hn:M.length≤100)
  (G:∀ ads' n' i o,All2 (PairAt r) ads' (T.filter fun q=>!M.contains q)→OneName w nPair i o→R (.ok .next) ⟨ch,(acc,listO (refs ads') n')::(D,o)::(fEo f s,cellR m)::l,r⟩) :
  HC (C0 w B) h₀ none 151 ⟨ch,(it,iterO a 0)::(acc,listO #[] 0)::(D,dictO #[] 0)::(fEo f s,cellR m)::l,r⟩ (cES (C0 w B) s it acc D f) R:=by
 refine HC.tree (lv:=150) (w:=0) (by exact Bool.two' s (by kernel_rfl) (by kernel_rfl)) (stE N ?_)
 refine ⟨by exact Bool.two' s (by kernel_rfl) (by kernel_rfl),?_⟩
 have hal:=hT.length
 refine HC.compList N (a:=a) (its:=refs ads) (n:=n) (by exact Bool.two' s (by kernel_rfl) (by kernel_rfl)) (by exact Bool.two' s (by kernel_rfl) (by kernel_rfl)) (fun i y b tk=>by exact Bool.two' s (by kernel_rfl) (by kernel_rfl))
  (fun i y=>∃ ads' n' o,y=⟨ch,(acc,listO (refs ads') n')::(D,o)::(fEo f s,cellR m)::l,r⟩∧All2 (PairAt r) ads' ((T.take i).filter fun q=>!M.contains q)∧OneName w nPair i o) ?_ ?_ ?_ (y:=⟨ch,(acc,listO #[] 0)::(D,dictO #[] 0)::(fEo f s,cellR m)::l,r⟩) ⟨[],0,_,rfl,.nil,.inl ⟨rfl,rfl⟩⟩
 ·intro i y hZ0
  refine el_EEEAA hZ0 fun ads' n' o hE1 vz0 vz1=>?_
  try clear hZ0
  subst hE1
  exact .inr hl
 ·intro y hZ0
  refine el_EEEAA hZ0 fun ads' n' o hE1 h ho=>?_
  try clear hZ0
  subst hE1
  show HC _ _ _ _ _ (.compLoop (lcE (C0 w B) s) 0 (.ref it) (.ref acc) (envE (C0 w B) s D f)) _
  rw [esE]
  refine HC.compEnd (gen:=gen1 (lcE (C0 w B) s)) (by exact Bool.two' s (by rfl) (by rfl)) (by exact Bool.two' s (by kernel_rfl) (by kernel_rfl)) (.inr hl) ?_
  rw [refs_size,hal,List.take_length] at h
  exact G _ _ _ _ h ho
 ·intro i y v hZ0 hv b0 tk0
  refine el_EEEAA hZ0 fun ads' n' o hE1 h ho=>?_
  try clear hZ0
  subst hE1
  refine el_EA (refs_get hv) fun p hp1 hE2=>?_
  subst hE2
  refine el_EA (hT.get (a:=p) hp1) fun kv hkv hpa=>?_
  have hlen:=h.length
  have hk1:((T.take i).filter fun q=>!M.contains q).length≤100:=Nat.le_trans (List.length_filter_le _ _) (Nat.le_trans (List.length_take_le' _ _) hTn)
  refine tuE N (by rw [refs_size];lia) ho hm hp hM hn hpa (hTf _ (List.mem_of_getElem? hkv)) fun o' xs' n2 ho' hx=>?_
  refine ⟨rfl,⟨ch,(acc,listO xs' n2)::(D,o')::(fEo f s,cellR m)::l,r⟩,?_,rfl⟩
  rw [take_succ_get hkv,List.filter_append]
  by_cases hk:M.contains kv=true
  ·rw [if_pos hk] at hx
   subst hx
   exact ⟨_,_,_,rfl,by rw [show [kv].filter (fun q=>!M.contains q)=[] from by simp [hk] <;> simpa using hk,List.append_nil];exact h,ho'⟩
  ·rw [if_neg hk] at hx
   subst hx
   exact ⟨_,_,_,by rw [refs_push],by rw [show [kv].filter (fun q=>!M.contains q)=[kv] from by rw [List.filter_cons_of_pos (by simpa using hk)];rfl];exact h.snoc hpa,ho'⟩
end
noncomputable abbrev frD (w:World) (t1 sc t2 ls t3:Nat) (vh:Value) (t4 rd t5 tb t6 ov lo:Nat):Obj:=frameO #[ent w nScript t1 (.ref sc),ent w nListsL t2 (.ref ls),ent w nHeader t3 vh,ent w nRead t4 (.ref rd),ent w nTables t5 (.ref tb),ent w nOver t6 (.ref ov),ent w nLost (t6+1) (.ref lo)] 7
section
variable {w:World} {B:Hab} {h₀:Heap} (N:NatOk (C0 w B) h₀) {l r:Memo} {ch:Ch}
include N
theorem law_s12 {f sc ls rd t1 t2 t3 t4 t5 tb ol nw:Nat} {vh:Value} {Q:Flow→Sx→Prop} {T1 T2:List KV} (ho:PairsAt r ol T1) (hw:PairsAt r nw T2) (f1:∀ q∈T1,Fine q) (f2:∀ q∈T2,Fine q) (n1:T1.length≤100) (n2:T2.length≤100)
  (G:∀ t6 lo ov r',Sub r r'→PairsAt r' lo (T1.filter fun q=>!T2.contains q)→PairsAt r' ov (T2.filter fun q=>!T1.contains q)→Q .next ⟨ch,(f,frD w t1 sc t2 ls t3 vh t4 rd t5 tb t6 ov lo)::(f+1,cellR ol)::(f+2,cellR nw)::l,r'⟩) :
  HT (C0 w B) h₀ none 300 ⟨ch,(f,frC w t1 sc t2 ls t3 vh t4 rd t5 tb)::(f+1,cellR ol)::(f+2,cellR nw)::l,r⟩ (execsZ [lB (C0 w B) 12] (envLaw (C0 w B) f)) Q (fun vz0 vz1=>False):=by
 obtain ⟨oa,on,hom,hop⟩:=ho
 obtain ⟨na,nn,hnm,hnp⟩:=hw
 have keyE:∀ {b0:Nat} {l' rr:Memo} {RR:Result→Sx→Prop},Sub r rr→(∀ ads' n' i o,All2 (PairAt rr) ads' (T1.filter fun q=>!T2.contains q)→OneName w nPair i o→RR (.ok .next) ⟨ch,(b0+1,listO (refs ads') n')::(b0+2,o)::(f+2,cellR nw)::l',rr⟩)→HC (C0 w B) h₀ none 300 ⟨ch,(b0,iterO ol 0)::(b0+1,listO #[] 0)::(b0+2,dictO #[] 0)::(f+2,cellR nw)::l',rr⟩ (cES (C0 w B) false b0 (b0+1) (b0+2) f) RR :=
  fun {b0 l' rr RR} hr hh=>HC.less (coE (s:=false) N (hr _ hom) (hop.mono fun vz0 vz1=>PairAt.mono hr) n1 f1 (hr _ hnm) (hnp.mono fun vz0 vz1=>PairAt.mono hr) f2 n2 hh) (by decide)
 have keyF:∀ {b0:Nat} {l' rr:Memo} {RR:Result→Sx→Prop},Sub r rr→(∀ ads' n' i o,All2 (PairAt rr) ads' (T2.filter fun q=>!T1.contains q)→OneName w nPair i o→RR (.ok .next) ⟨ch,(b0+1,listO (refs ads') n')::(b0+2,o)::(f+1,cellR ol)::l',rr⟩)→HC (C0 w B) h₀ none 300 ⟨ch,(b0,iterO nw 0)::(b0+1,listO #[] 0)::(b0+2,dictO #[] 0)::(f+1,cellR ol)::l',rr⟩ (cES (C0 w B) true b0 (b0+1) (b0+2) f) RR :=
  fun {b0 l' rr RR} hr hh=>HC.less (coE (s:=true) N (hr _ hnm) (hnp.mono fun vz0 vz1=>PairAt.mono hr) n2 f2 (hr _ hom) (hop.mono fun vz0 vz1=>PairAt.mono hr) f1 n1 hh) (by decide)
 refine HT.reads (r:=(ol,listO (refs oa) on)::(nw,listO (refs na) nn)::r) (Sub.cons hom (Sub.cons hnm (Sub.refl _))) ?_
 (
  intro b tk
  refine HTa.cutN N [3,2,2,1,2,1] [2,1,0,5,3,4] 6 [] (c:=cES (C0 w B) false b (b+1) (b+2) f) (l:=(b,{ cls:=.type "list_iterator",data:=.fields #[.ref ol,.int 0 0] })::((b+1),listO #[] 0)::((b+2),dictO #[] 0)::(f+2,cellR nw)::(f,frC w t1 sc t2 ls t3 vh t4 rd t5 tb)::(f+1,cellR ol)::l) (r:=(ol,listO (refs oa) on)::(nw,listO (refs na) nn)::r) (ch:=ch) (by exact Hab.two B (by kernel_rfl) (by kernel_rfl)) rfl ?_
  refine keyE (Sub.tail.trans Sub.tail) fun ads1 n3 i1 o1 h1 ho1=>?_
  intro b2 tk2
  refine HTa.cutN N (3::(Mine.hn o1 3 ++ [5,4,4,1,4,1])) [2,1,0,7,6,5,3] 8 [] (c:=cES (C0 w B) true b2 (b2+1) (b2+2) f) (l:=(b2,{ cls:=.type "list_iterator",data:=.fields #[.ref nw,.int 0 0] })::((b2+1),listO #[] 0)::((b2+2),dictO #[] 0)::(f+1,cellR ol)::(f,frC w t1 sc t2 ls t3 vh t4 rd t5 tb)::(f+2,cellR nw)::(b+1,listO (refs ads1) n3)::l) (r:=(ol,listO (refs oa) on)::(nw,listO (refs na) nn)::r) (ch:=ch) (by exact OneName.cases ho1 (by exact Hab.two B (by kernel_rfl) (by kernel_rfl)) fun vz0 vz1=>by exact Hab.two B (by kernel_rfl) (by kernel_rfl)) rfl ?_
  refine keyF (Sub.tail.trans Sub.tail) fun ads2 n4 i2 o2 h2 ho2=>?_
  intro b3' tk3
  refine HTa.val N (3::(Mine.hn o2 3 ++ [1,1,1,1,1,1,1,1,1,1,1,3,1,1,1,1,1,1,1,3,1,1,1,1,1,1,1,3,1,1,1,15,15,15,15])) [7,6,8] 10 [4,9] (a:=.next) (l:=(f,frameO #[ent w (S [115,99,114,105,112,116]) t1 (.ref sc),ent w (S [108,105,115,116,115]) t2 (.ref ls),ent w (S [104,101,97,100,101,114]) t3 ((vh)),ent w (S [114,101,97,100]) t4 (.ref rd),ent w (S [116,97,98,108,101,115]) t5 (.ref tb),ent w (S [111,118,101,114]) tk3 (.ref (b2+1)),ent w (S [108,111,115,116]) (tk3+1) (.ref (b+1))] 7)::(f+1,cellR ol)::(f+2,cellR nw)::l) (r:=(b2+1,listO (refs ads2) n4)::(b+1,listO (refs ads1) n3)::(ol,listO (refs oa) on)::(nw,listO (refs na) nn)::r) (ch:=ch) (by exact OneName.cases ho1 (by exact OneName.cases ho2 (by exact Hab.two B (by kernel_rfl) (by kernel_rfl)) fun vz0 vz1=>by exact Hab.two B (by kernel_rfl) (by kernel_rfl)) fun vz0 vz1=>by exact OneName.cases ho2 (by exact Hab.two B (by kernel_rfl) (by kernel_rfl)) fun vz0 vz1=>by exact Hab.two B (by kernel_rfl) (by kernel_rfl)) rfl ?_
  exact G _ _ _ _ (Sub.tail.trans (Sub.tail.trans (Sub.tail.trans Sub.tail))) ⟨_,_,.tail _ (.head _),h1.mono fun vz0 vz1=>PairAt.mono (Sub.tail.trans Sub.tail)⟩ ⟨_,_,.head _,h2.mono fun vz0 vz1=>PairAt.mono (Sub.tail.trans Sub.tail)⟩)
end
noncomputable abbrev frE (w:World) (slg:Array (Option Value)) (t1 sc t2 ls t3:Nat) (vh:Value) (t4 rd t5 tb t6 ov lo t7 td:Nat):Obj:=frameS slg #[ent w nScript t1 (.ref sc),ent w nListsL t2 (.ref ls),ent w nHeader t3 vh,ent w nRead t4 (.ref rd),ent w nTables t5 (.ref tb),ent w nOver t6 (.ref ov),ent w nLost (t6+1) (.ref lo),ent w nTold t7 (.ref td)] 8
inductive Diff (r:Memo) (p:Addr) (o:List KV×List KV):Prop
 | mk:∀ mi un,((p,tupO #[.ref mi,.ref un])∈r)→(PairsAt r mi o.1)→(PairsAt r un o.2)→Diff r p o
section
variable {w:World} {B:Hab} {h₀:Heap} (N:NatOk (C0 w B) h₀) {A:Around} {f sc ls rd t1 t2 t3 t4 t5 t6 tb ov lo d1 d2 n1 n2:Nat} {vh:Value} {l r:Memo} {ch:Ch} {Q:Flow→Sx→Prop} {a1 a2:List Addr} {T1 T2:List KV}
include N
theorem law_s13 (K:Calm A none 300) (hfr:A.frames=some [envLaw (C0 w B) f]) (htb:(tb,listO #[.ref d1,.ref d2] 0)∈r)
  (hp1:All2 (PairAt r) a1 T1) (hp2:All2 (PairAt r) a2 T2) (l1:T1.length≤20) (l2:T2.length≤20) (f1:∀ q∈T1,q.1<4∧q.2<5) (f2:∀ q∈T2,q.1<4∧q.2<5) (e1:T1.Nodup) (e2:T2.Nodup)
  (G:∀ slg t7 td p p2 r',Sub r r'→(td,tupO #[.ref p,.ref p2])∈r'→Diff r' p (sldF T1 T2)→Diff r' p2 (sldF T2 T1)→RdL f slg→Q .next ⟨ch,(f,frE w slg t1 sc t2 ls t3 vh t4 rd t5 tb t6 ov lo t7 td)::(d1,listO (refs a1) n1)::(d2,listO (refs a2) n2)::l,r'⟩) :
  TA (C0 w B) h₀ A ⟨ch,(f,frD w t1 sc t2 ls t3 vh t4 rd t5 tb t6 ov lo)::(d1,listO (refs a1) n1)::(d2,listO (refs a2) n2)::l,r⟩ (execsZ [lB (C0 w B) 13] (envLaw (C0 w B) f)) Q (fun vz0 vz1=>False):=by
 refine TA.reads (r:=(tb,listO #[.ref d1,.ref d2] 0)::r) (Sub.cons htb (Sub.refl _)) ?_
 intro b tk
 refine TAa.cut N K [0,1,2,2,2,1,2,2,1,2,2,2,1,2,2,0] [0,1,2] 3 [] (c:=.call (.ref 110) ⟨[.ref d1,.ref d2],[]⟩) (l:=(f,frD w t1 sc t2 ls t3 vh t4 rd t5 tb t6 ov lo)::(d1,listO (refs a1) n1)::(d2,listO (refs a2) n2)::l) (r:=(tb,listO #[Value.ref d1,Value.ref d2] 0)::r) (ch:=ch) (by kernel_rfl) rfl (by intro h;cases h) ?_
 refine sl_call N (slg:=#[]) (K.less (by decide)) hfr (.inl rfl) (hp1.mono fun vz0 vz1=>PairAt.mono Sub.tail) (hp2.mono fun vz0 vz1=>PairAt.mono Sub.tail) l1 l2 f1 f2 e1 e2 fun p mi un nm nu ms us slg hg hm hu=>?_
 intro b tk
 refine TAa.cut N K [0,1,8,8,8,1,8,8,1,8,8,8,1,8,8,0] [0,2,1] 3 [] (c:=.call (.ref 110) ⟨[.ref d2,.ref d1],[]⟩) (l:=(f,frameS slg #[ent w nScript t1 (.ref sc),ent w nListsL t2 (.ref ls),ent w nHeader t3 vh,ent w nRead t4 (.ref rd),ent w nTables t5 (.ref tb),ent w nOver t6 (.ref ov),ent w nLost (t6+1) (.ref lo)] 7)::(d2,listO (refs a2) n2)::(d1,listO (refs a1) n1)::l) (r:=(p,tupO #[Value.ref mi,Value.ref un])::(mi,listO (refs ms) nm)::(un,listO (refs us) nu)::(tb,listO #[Value.ref d1,Value.ref d2] 0)::r) (ch:=ch) (by kernel_rfl) rfl (by intro h;cases h) ?_
 have s3:Sub r ((p,tupO #[Value.ref mi,Value.ref un])::(mi,listO (refs ms) nm)::(un,listO (refs us) nu)::(tb,listO #[Value.ref d1,Value.ref d2] 0)::r):=Sub.tail.trans (Sub.tail.trans (Sub.tail.trans Sub.tail))
 have s1:Sub ((tb,listO #[Value.ref d1,Value.ref d2] 0)::r) ((p,tupO #[Value.ref mi,Value.ref un])::(mi,listO (refs ms) nm)::(un,listO (refs us) nu)::(tb,listO #[Value.ref d1,Value.ref d2] 0)::r):=Sub.tail.trans (Sub.tail.trans Sub.tail)
 refine sl_call N (slg:=slg) (K.less (by decide)) hfr hg (hp2.mono fun vz0 vz1=>PairAt.mono s3) (hp1.mono fun vz0 vz1=>PairAt.mono s3) l2 l1 f2 f1 e2 e1 fun p2 mi2 un2 nm2 nu2 ms2 us2 slg2 hg2 hm2 hu2=>TA.of K ?_
 intro b tk
 refine HTa.val N [3,3] [1,3,2] 4 [0] (a:=.next) (l:=(f,frE w slg2 t1 sc t2 ls t3 vh t4 rd t5 tb t6 ov lo tk b)::(d1,listO (refs a1) n1)::(d2,listO (refs a2) n2)::l) (r:=(b,tupO #[.ref p,.ref p2])::(p2,tupO #[Value.ref mi2,Value.ref un2])::(mi2,listO (refs ms2) nm2)::(un2,listO (refs us2) nu2)::(p,tupO #[Value.ref mi,Value.ref un])::(mi,listO (refs ms) nm)::(un,listO (refs us) nu)::(tb,listO #[Value.ref d1,Value.ref d2] 0)::r) (ch:=ch) (by kernel_rfl) rfl ?_
 have s2:Sub ((p,tupO #[Value.ref mi,Value.ref un])::(mi,listO (refs ms) nm)::(un,listO (refs us) nu)::(tb,listO #[Value.ref d1,Value.ref d2] 0)::r) ((b,tupO #[.ref p,.ref p2])::(p2,tupO #[Value.ref mi2,Value.ref un2])::(mi2,listO (refs ms2) nm2)::(un2,listO (refs us2) nu2)::(p,tupO #[Value.ref mi,Value.ref un])::(mi,listO (refs ms) nm)::(un,listO (refs us) nu)::(tb,listO #[Value.ref d1,Value.ref d2] 0)::r):=Sub.tail.trans (Sub.tail.trans (Sub.tail.trans Sub.tail))
 refine G _ _ _ _ _ _ (s3.trans s2) (.head _) ⟨mi,un,s2 _ (.head _),⟨ms,nm,s2 _ (.tail _ (.head _)),hm.mono fun vz0 vz1=>PairAt.mono (s1.trans s2)⟩,us,nu,s2 _ (.tail _ (.tail _ (.head _))),hu.mono fun vz0 vz1=>PairAt.mono (s1.trans s2)⟩ ⟨mi2,un2,.tail _ (.head _),⟨ms2,nm2,.tail _ (.tail _ (.head _)),hm2.mono fun vz0 vz1=>PairAt.mono s2⟩,us2,nu2,.tail _ (.tail _ (.tail _ (.head _))),hu2.mono fun vz0 vz1=>PairAt.mono s2⟩ hg2
end
noncomputable abbrev r1E (C:Cfg):PySem.Expr:=(boV (retE (lB C 14))).getD 0 default
noncomputable abbrev r2E (C:Cfg):PySem.Expr:=(boV (retE (lB C 14))).getD 1 default
section
variable {C:Cfg} {h₀:Heap} {hd:Option Value} {lv:Nat} {A:Around} {x:Sx} {E:Value→Sx→Prop} {env:PySem.Env}
theorem TA.ret {e:PySem.Expr} {pos:Pos} {Q:Flow→Sx→Prop} (H:TA C h₀ A x (evalZ e env) (fun v y=>Q (.ret v) y) E):TA C h₀ A x (execsZ [.Return (some e) pos] env) Q E:=by
 intro b tk g d os h D
 have H:=H b tk g d os h D
 rw [←evalZ_eq] at H
 rw [exec1_eq]
 exact wpAny_Return_some H
theorem TA.and2 {a b:PySem.Expr} {pos:Pos} {Q:Value→Sx→Prop} (H:TA C h₀ A x (evalZ a env) (fun v y=>v = .bool true∧TA C h₀ A y (evalZ b env) Q E) E):TA C h₀ A x (evalZ (.BoolOp .And [a,b] pos) env) Q E:=by
 intro b' tk g d os h D
 have H:=H b' tk g d os h D
 rw [←evalZ_eq] at H ⊢
 rw [arm_eval_BoolOp]
 show wpAny _ _ (boolOp pos .And [eval a env,eval b env]) _ _ _
 unfold boolOp
 refine wpAny_bind (wpAny_mono H ?_ (fun vz0 vz1 q=>q))
 rintro v s ⟨y,S,rfl,q⟩
 refine wpAny_bind (wpAny_standAt (wpAny_bind (wpAny_holding (wpAny_truthy_bool ?_))))
 exact q.step S
theorem TA.compare {e:PySem.Expr} {op:CmpOp} {Q:Value→Sx→Prop} (he:IsCmp e op) (hm:behindInMarks op (cmpR e)=false)
  (H:TA C h₀ A x (evalZ (cmpL e) env) (fun a x1=>TA C h₀ A x1 (evalZ (cmpR e) env) (fun b x2=>TA C h₀ A x2 (compareOp op a b) Q E) E) E):TA C h₀ A x (evalZ e env) Q E:=by
 revert H hm
 replace he:e = .Compare (cmpL e) [op] [cmpR e] (exPos e):=he
 generalize cmpL e=l at he ⊢
 generalize cmpR e=r at he ⊢
 generalize exPos e=p at he
 subst he
 intro hm H
 intro b' tk g d os h D
 have H:=H b' tk g d os h D
 rw [←evalZ_eq] at H ⊢
 refine wpAny_Compare1 (wpAny_mono H ?_ (fun vz0 vz1 q=>q)) hm
 rintro a s ⟨x1,S1,T1⟩
 have T1:=T1.step S1
 refine wpAny_mono T1 ?_ (fun vz0 vz1 q=>q)
 rintro c s ⟨x2,S2,T2⟩
 exact T2.step S2
theorem HT.eqData {a b:Value} {da db:PyData} {Q:Value→Sx→Prop} (ra:∀ bb tk h,Rep C h₀ [] ⟨x.l,x.r,bb,tk,x.ch⟩ h→∃ as,Reads h a da as) (rb:∀ bb tk h,Rep C h₀ [] ⟨x.l,x.r,bb,tk,x.ch⟩ h→∃ bs,Reads h b db bs)
  (la:da.canLay0=true) (lb:db.canLay0=true) (hdp:da.depth≤4 * lv) (G:Q (.bool (PyData.eqv da db)) x):HT C h₀ hd lv x (compareOp .Eq a b) Q E:=by
 refine HT.lib fun A g d os bb tk h K D=>?_
 refine el_E (ra bb tk h D) fun as ra=>?_
 refine el_E (rb bb tk h D) fun bs rb=>?_
 show wpAny _ A (richCompare .Eq a b) _ _ _
 exact PySem.SeqAt.eqOverData C.prog C.w A _ ⟨h,g,d,tk,os⟩ a b da db as bs _ ra rb la lb (by have:=K.units;have:=Nat.min_le_left da.depth db.depth;lia) ⟨x,⟨bb,tk,h,rfl,D⟩,G⟩
end
noncomputable abbrev dDiff (o:List KV×List KV):PyData:=.tuple [dPs o.1,dPs o.2]
theorem lay_diff (o:List KV×List KV):(dDiff o).canLay0=true:=by
 rw [PyData.canLay0]
 exact lay_all fun d hd=>by
  rcases List.mem_cons.mp hd with rfl | hd
  ·exact lay_dPs _
  ·rw [List.mem_singleton.mp hd];exact lay_dPs _
theorem depth_diff (o:List KV×List KV):(dDiff o).depth≤3:=by
 rw [PyData.depth]
 exact Nat.succ_le_succ (depth_all fun d hd=>by
  rcases List.mem_cons.mp hd with rfl | hd
  ·exact depth_dPs _
  ·rw [List.mem_singleton.mp hd];exact depth_dPs _)
theorem two_reads {C:Cfg} {h₀ h:Heap} {m:Mm} (D:Rep C h₀ [] m h) {p mi un:Addr} {o:List KV×List KV} (hm:h.get? p=some (tupO #[.ref mi,.ref un])) (h1:PairsAt m.r mi o.1) (h2:PairsAt m.r un o.2):∃ as,Reads h (.ref p) (dDiff o) as:=by
 refine el_E (pairs_reads (x:=⟨m.ch,m.l,m.r⟩) D h1) fun as r1=>?_
 refine el_E (pairs_reads (x:=⟨m.ch,m.l,m.r⟩) D h2) fun bs r2=>?_
 exact ⟨_,.tuple hm rfl rfl (.cons r1 (.cons r2 .nil))⟩
theorem slice_rev {los:List Addr} (h:los.length≤4):slicePick (refs los) none none (some (-1))=refs los.reverse:=by
 cases los with
 | nil=>kernel_rfl
 | cons a l=>cases l with
  | nil=>kernel_rfl
  | cons b l=>cases l with
   | nil=>kernel_rfl
   | cons c l=>cases l with
    | nil=>kernel_rfl
    | cons d l=>cases l with
     | nil=>kernel_rfl
     | cons e l=>exact absurd h (Nat.not_le_of_lt (Nat.le_add_left 5 _))
theorem All2.rev {α β:Type} {P:α→β→Prop} {a:List α} {b:List β} (h:All2 P a b):All2 P a.reverse b.reverse:=by
 induction h with
 | nil=>exact .nil
 | cons p _ ih=>rw [List.reverse_cons,List.reverse_cons];exact ih.snoc p
section
variable {w:World} {B:Hab} {h₀:Heap} (N:NatOk (C0 w B) h₀) {A:Around} {f sc ls rd t1 t2 t3 t4 t5 t6 t7 td tb ov lo d1 d2 n1 n2 p p2:Nat} {vh:Value} {l r:Memo} {ch:Ch} {Q:Flow→Sx→Prop} {a1 a2:List Addr} {slg:Array (Option Value)} {T1 T2:List KV} {o:List KV×List KV}
theorem ret_eq:lB (C0 w B) 14 = .Return (some (.BoolOp .And [r1E (C0 w B),r2E (C0 w B)] (boP (retE (lB (C0 w B) 14))))) (retP (lB (C0 w B) 14)):=by kernel_rfl
theorem r1_eq:IsCmp (r1E (C0 w B)) .Eq:=by kernel_rfl
theorem r2_eq:IsCmp (r2E (C0 w B)) .Eq:=by kernel_rfl
include N
theorem law_s14 (K:Calm A none 300) (hfr:A.frames=some [envLaw (C0 w B) f]) (hg:RdL f slg) (htb:(tb,listO #[.ref d1,.ref d2] 0)∈r)
  (hp1:All2 (PairAt r) a1 T1) (hp2:All2 (PairAt r) a2 T2) (l1:T1.length≤20) (l2:T2.length≤20) (f1:∀ q∈T1,Fine q) (f2:∀ q∈T2,Fine q)
  (htd:(td,tupO #[.ref p,.ref p2])∈r) (hd1:Diff r p o) (hd2:Diff r p2 (o.2,o.1)) (hlo:PairsAt r lo o.1) (hov:PairsAt r ov o.2) (ho:o.1.length≤4) (hu:ulF T1.reverse [] T2=(o.1.reverse,o.2))
  (G:∀ y,Q (.ret (.bool true)) y) :
  TA (C0 w B) h₀ A ⟨ch,(f,frE w slg t1 sc t2 ls t3 vh t4 rd t5 tb t6 ov lo t7 td)::(d1,listO (refs a1) n1)::(d2,listO (refs a2) n2)::l,r⟩ (execsZ [lB (C0 w B) 14] (envLaw (C0 w B) f)) Q (fun vz0 vz1=>False):=by
 rw [ret_eq]
 refine TA.ret (TA.and2 (TA.compare r1_eq (by kernel_rfl) (TA.of K ?_)))
 refine HT.val0 N [1] (a:=.ref td) (by kernel_rfl) (TA.of K ?_)
 intro b tk
 refine HTa.val N [1,1,3,3] [0,1,2,3,4,5] 6 [] (a:=.ref (b+2)) (l:=((b+2),tupO #[.ref b,.ref (b+1)])::((b+1),tupO #[.ref ov,.ref lo])::(b,tupO #[.ref lo,.ref ov])::(f,frE w slg t1 sc t2 ls t3 vh t4 rd t5 tb t6 ov lo t7 td)::(d1,listO (refs a1) n1)::(d2,listO (refs a2) n2)::l) (r:=r) (ch:=ch) (by kernel_rfl) rfl (TA.of K ?_)
 have lay:(PyData.tuple [dDiff o,dDiff (o.2,o.1)]).canLay0=true:=by
  rw [PyData.canLay0]
  exact lay_all fun d hd=>by
   rcases List.mem_cons.mp hd with rfl | hd
   ·exact lay_diff _
   ·rw [List.mem_singleton.mp hd];exact lay_diff _
 have dep:(PyData.tuple [dDiff o,dDiff (o.2,o.1)]).depth≤4:=by
  rw [PyData.depth]
  exact Nat.succ_le_succ (depth_all fun d hd=>by
   rcases List.mem_cons.mp hd with rfl | hd
   ·exact depth_diff _
   ·rw [List.mem_singleton.mp hd];exact depth_diff _)
 refine HT.eqData (da:=.tuple [dDiff o,dDiff (o.2,o.1)]) (db:=.tuple [dDiff o,dDiff (o.2,o.1)]) (fun bb tk h D=>?_) (fun bb tk h D=>?_) lay lay (Nat.le_trans dep (by decide)) ?_
 ·obtain ⟨mi,un,m1,m2,m3⟩:=hd1
  obtain ⟨mi2,un2,m4,m5,m6⟩:=hd2
  refine el_E (two_reads D (D.memR _ m1) m2 m3) fun as q1=>?_
  refine el_E (two_reads (o:=(o.2,o.1)) D (D.memR _ m4) m5 m6) fun bs q2=>?_
  exact ⟨_,.tuple (D.memR _ htd) rfl rfl (.cons q1 (.cons q2 .nil))⟩
 ·refine el_E (two_reads D (D.mem _ (.tail _ (.tail _ (.head _)))) hlo hov) fun as q1=>?_
  refine el_E (two_reads (o:=(o.2,o.1)) D (D.mem _ (.tail _ (.head _))) hov hlo) fun bs q2=>?_
  exact ⟨_,.tuple (D.mem _ (.head _)) rfl rfl (.cons q1 (.cons q2 .nil))⟩
 rw [PySem.SeqAt.eqv_refl _ lay]
 refine ⟨rfl,?_⟩
 refine TA.choose (il:=[3,4,5]) (k:=6) (ir:=[]) rfl ?_
 refine TA.reads (r:=(tb,listO #[.ref d1,.ref d2] 0)::r) (Sub.cons htb (Sub.refl _)) ?_
 refine TA.compare r2_eq (by kernel_rfl) ?_
 intro b tk
 refine TAa.cut N K [0,1,2,2,2,1,2,2,1,2,2,2,1,2,2,0] [0,1,2] 3 [] (c:=.call (.ref 117) ⟨[.ref d1,.ref d2],[]⟩) (l:=(f,frE w slg t1 sc t2 ls t3 vh t4 rd t5 tb t6 ov lo t7 td)::(d1,listO (refs a1) n1)::(d2,listO (refs a2) n2)::l) (r:=(tb,listO #[Value.ref d1,Value.ref d2] 0)::r) (ch:=ch) (by kernel_rfl) rfl (by intro h;cases h) ?_
 refine ul_call N (slg:=slg) (K.less (by decide)) hfr hg (hp1.mono fun vz0 vz1=>PairAt.mono Sub.tail) (hp2.mono fun vz0 vz1=>PairAt.mono Sub.tail) l1 l2 f1 f2 fun q mi nm n2' ms us slg hg hm hus=>TA.of K ?_
 rw [hu] at hm hus
 intro b tk
 have s4:Sub r ((q,tupO #[.ref mi,.ref d2])::(mi,listO (refs ms) nm)::(d2,listO (refs us) n2')::(tb,listO #[.ref d1,.ref d2] 0)::r):=Sub.tail.trans (Sub.tail.trans (Sub.tail.trans Sub.tail))
 have s3:Sub ((tb,listO #[.ref d1,.ref d2] 0)::r) ((q,tupO #[.ref mi,.ref d2])::(mi,listO (refs ms) nm)::(d2,listO (refs us) n2')::(tb,listO #[.ref d1,.ref d2] 0)::r):=Sub.tail.trans (Sub.tail.trans Sub.tail)
 refine HTa.val N [] [0] 1 [] (a:=.ref q) (l:=(f,frE w slg t1 sc t2 ls t3 vh t4 rd t5 tb t6 ov lo t7 td)::l) (r:=(q,tupO #[.ref mi,.ref d2])::(mi,listO (refs ms) nm)::(d2,listO (refs us) n2')::(tb,listO #[.ref d1,.ref d2] 0)::r) (ch:=ch) (by kernel_rfl) rfl (TA.of K ?_)
 obtain ⟨los,nl,hl1,hl2⟩:=hlo
 obtain ⟨ovs,no,ho1,ho2⟩:=hov
 have hll:=hl2.length
 have rr:∀ {r':Memo},Sub ((q,tupO #[.ref mi,.ref d2])::(mi,listO (refs ms) nm)::(d2,listO (refs us) n2')::(tb,listO #[.ref d1,.ref d2] 0)::r) r'→All2 (PairAt r') ms o.1.reverse∧All2 (PairAt r') us o.2:=fun s=>⟨hm.mono fun vz0 vz1=>PairAt.mono (s3.trans s),hus.mono fun vz0 vz1=>PairAt.mono (s3.trans s)⟩
 generalize hr:((q,tupO #[.ref mi,.ref d2])::(mi,listO (refs ms) nm)::(d2,listO (refs us) n2')::(tb,listO #[.ref d1,.ref d2] 0)::r:Memo)=r4 at s4 rr
 refine HT.reads (r:=(lo,listO (refs los) nl)::(ov,listO (refs ovs) no)::r4) (Sub.cons (s4 _ hl1) (Sub.cons (s4 _ ho1) (Sub.refl _))) ?_
 intro b tk
 refine HTa.cutN N [1,1,2,2,2] [0,1] 2 [] (c:=.call (.builtin "list.__getitem__") ⟨[.ref lo,.ref b],[]⟩) (l:=(b,{ cls:=.type "slice",data:=.fields #[.none,.none,.int (-1) (tk+1)] })::(f,frE w slg t1 sc t2 ls t3 vh t4 rd t5 tb t6 ov lo t7 td)::l) (r:=(lo,listO (refs los) nl)::(ov,listO (refs ovs) no)::r4) (ch:=ch) (by kernel_rfl) rfl ?_
 refine HC.sliceL (hi:=none) (lo:=none) (st:=some (-1)) (.inr (.head _)) (.head _) .none .none (.int _ _) (by decide) (by rw [refs_size];lia) fun e=>?_
 rw [slice_rev (by lia)]
 intro b2 tk2
 refine HTa.val N [5] [0,1] 3 [] (a:=.ref b2) (l:=(b2,tupO #[.ref e,.ref ov])::(e,listO (refs los.reverse) 0)::(f,frE w slg t1 sc t2 ls t3 vh t4 rd t5 tb t6 ov lo t7 td)::l) (r:=(lo,listO (refs los) nl)::(ov,listO (refs ovs) no)::r4) (ch:=ch) (by kernel_rfl) rfl ?_
 refine el_A (rr (Sub.refl _)) fun rm ru=>?_
 subst hr
 refine TA.of K (HT.eqData (da:=dDiff (o.1.reverse,o.2)) (db:=dDiff (o.1.reverse,o.2)) (fun bb tk h D=>?_) (fun bb tk h D=>?_) (lay_diff _) (lay_diff _) (Nat.le_trans (depth_diff _) (by decide)) ?_)
 ·exact two_reads (o:=(o.1.reverse,o.2)) D (D.memR _ (.tail _ (.tail _ (.head _)))) ⟨ms,nm,.tail _ (.tail _ (.tail _ (.head _))),rm.mono fun vz0 vz1=>PairAt.mono (Sub.tail.trans Sub.tail)⟩ ⟨us,n2',.tail _ (.tail _ (.tail _ (.tail _ (.head _)))),ru.mono fun vz0 vz1=>PairAt.mono (Sub.tail.trans Sub.tail)⟩
 ·refine el_E (mem_reads D (a:=e) (.inl (.tail _ (.head _))) (hl2.rev.mono fun vz0 vz1=>PairAt.mono (s4.trans (Sub.tail.trans Sub.tail)))) fun as q1=>?_
  refine el_E (mem_reads D (a:=ov) (.inr (.tail _ (.head _))) (ho2.mono fun vz0 vz1=>PairAt.mono (s4.trans (Sub.tail.trans Sub.tail)))) fun bs q2=>?_
  exact ⟨_,.tuple (D.mem _ (.head _)) rfl rfl (.cons q1 (.cons q2 .nil))⟩
 rw [PySem.SeqAt.eqv_refl _ (lay_diff _)]
 exact G _
end
section
variable {w:World} {B:Hab} {h₀:Heap} (N:NatOk (C0 w B) h₀) {l r:Memo} {ch:Ch}
include N
theorem law_s10e {f sc ls rd t1 t2 t3 t4 t5 tb kl ra e m:Nat} {vh:Value} {Q:Flow→Sx→Prop} (hkl:(kl,listO #[] e)∈r) (hra:(ra,listO #[] m)∈r)
  (G:∀ r',Sub r r'→Q .next ⟨ch,(f,frC w t1 sc t2 ls t3 vh t4 rd t5 tb)::(f+4,cellR kl)::(f+5,cellR ra)::l,r'⟩) :
  HT (C0 w B) h₀ none 300 ⟨ch,(f,frC w t1 sc t2 ls t3 vh t4 rd t5 tb)::(f+4,cellR kl)::(f+5,cellR ra)::l,r⟩ (execsZ [lB (C0 w B) 10] (envLaw (C0 w B) f)) Q (fun vz0 vz1=>False):=by
 have e1:IsIf (lB (C0 w B) 10) []:=by kernel_rfl
 have e2:IsCmp (ifTest (lB (C0 w B) 10)) .NotEq:=by kernel_rfl
 refine HT.ifS' e1 (HT.test1' e2 (by kernel_rfl) ?_)
 refine HT.reads (r:=(kl,listO #[] e)::(ra,listO #[] m)::r) (Sub.cons hkl (Sub.cons hra (Sub.refl _))) ?_
 obtain ⟨b1,b2,b3,b4⟩:=B
 cases b2
 ·cases b1 <;> (
  intro b tk
  refine HTa.val N [3,2,2,1,2,1,1,5,5,1,5,5,5,1,5,5,5,2,5,5,1,5,5] [5,6,7] 8 [3] (a:=.ref (b+1)) (l:=(f,frC w t1 sc t2 ls t3 vh t4 rd t5 tb)::(f+4,cellR kl)::(f+5,cellR ra)::l) (r:=((b+1),listO #[] 0)::(kl,listO #[] e)::(ra,listO #[] m)::r) (ch:=ch) (by kernel_rfl) rfl ?_
  intro b2 tk2
  refine HTa.val N [5,6,6,1,6,1,1,5,5,1,5,5,5,1,5,5,5,6,5,5,1,5,5] [5,6,7] 8 [3] (a:=.ref (b2+1)) (l:=(f,frC w t1 sc t2 ls t3 vh t4 rd t5 tb)::(f+4,cellR kl)::(f+5,cellR ra)::l) (r:=((b2+1),listO #[] 0)::(b+1,listO #[] 0)::(kl,listO #[] e)::(ra,listO #[] m)::r) (ch:=ch) (by kernel_rfl) rfl ?_
  have hs:Sub r ((b2+1,listO #[] 0)::(b+1,listO #[] 0)::(kl,listO #[] e)::(ra,listO #[] m)::r):=Sub.tail.trans (Sub.tail.trans (Sub.tail.trans Sub.tail))
  refine HT.neData (da:=dPs []) (db:=dPs []) (fun bb tk h D=>mem_reads (ads:=[]) D (.inr (.tail _ (.head _))) .nil) (fun bb tk h D=>mem_reads (ads:=[]) D (.inr (.head _)) .nil) (lay_dPs _) (lay_dPs _) (Nat.le_trans (depth_dPs _) (by decide)) ?_
  rw [PySem.SeqAt.eqv_refl _ (lay_dPs _)]
  exact ⟨_,rfl,HT.execs_nil (G _ hs)⟩)
 ·cases b1 <;> (
  intro b tk
  refine HTa.val N [3,2,2,1,2,1,1,5,1,5,5,5,2,5,5,1,5,5] [5,6,7] 8 [3] (a:=.ref (b+1)) (l:=(f,frC w t1 sc t2 ls t3 vh t4 rd t5 tb)::(f+4,cellR kl)::(f+5,cellR ra)::l) (r:=((b+1),listO #[] 0)::(kl,listO #[] e)::(ra,listO #[] m)::r) (ch:=ch) (by kernel_rfl) rfl ?_
  intro b2 tk2
  refine HTa.val N [5,6,6,1,6,1,1,5,1,5,5,5,6,5,5,1,5,5] [5,6,7] 8 [3] (a:=.ref (b2+1)) (l:=(f,frC w t1 sc t2 ls t3 vh t4 rd t5 tb)::(f+4,cellR kl)::(f+5,cellR ra)::l) (r:=((b2+1),listO #[] 0)::(b+1,listO #[] 0)::(kl,listO #[] e)::(ra,listO #[] m)::r) (ch:=ch) (by kernel_rfl) rfl ?_
  have hs:Sub r ((b2+1,listO #[] 0)::(b+1,listO #[] 0)::(kl,listO #[] e)::(ra,listO #[] m)::r):=Sub.tail.trans (Sub.tail.trans (Sub.tail.trans Sub.tail))
  refine HT.neData (da:=dPs []) (db:=dPs []) (fun bb tk h D=>mem_reads (ads:=[]) D (.inr (.tail _ (.head _))) .nil) (fun bb tk h D=>mem_reads (ads:=[]) D (.inr (.head _)) .nil) (lay_dPs _) (lay_dPs _) (Nat.le_trans (depth_dPs _) (by decide)) ?_
  rw [PySem.SeqAt.eqv_refl _ (lay_dPs _)]
  exact ⟨_,rfl,HT.execs_nil (G _ hs)⟩)
end
noncomputable def oldT:List KV:=[(2,3),(0,1),(1,2),(3,0)]
noncomputable def lostT (T1 T2:List KV):List KV:=T1.filter fun q=>!T2.contains q
noncomputable def ckTab (T:List KV):Bool:=decide (T.map (·.1)).Nodup && T.all fun q=>decide (q.1<4) && decide (q.2<5)
noncomputable def orderN (T:List KV):List KV:=valsO.flatMap fun v=>T.filter fun q=>Nat.beq q.2 v
noncomputable def ckOrd (T:List KV):Bool:=let O:=orderN T
 decide (O.length≤4) && (O.all fun q=>decide (q.1<4) && decide (q.2<5)) && T.all fun q=>O[O.idxOf q]? == some q && (List.range (O.idxOf q)).all fun m=>O[m]? != some q
noncomputable def vPos:Nat→Nat
 | 4=>0
 | 1=>1
 | 2=>2
 | 3=>3
 | _=>4
noncomputable def kPos:Nat→Nat
 | 2=>0
 | 0=>1
 | 1=>2
 | _=>3
noncomputable def rk (p:KV):Nat:=vPos p.2 * 4+kPos p.1
noncomputable def cmpN (a b:Nat):Int:=if Nat.blt a b then -1 else if Nat.beq a b then 0 else 1
theorem cmp_all:((List.range 4).all fun a=>(List.range 5).all fun u=>(List.range 4).all fun b=>(List.range 5).all fun v=>decide (cmpP (kvS (a,u)) (kvS (b,v))=cmpN (rk (a,u)) (rk (b,v))))=true:=by decide +kernel
theorem cmpP_rk {p q:KV} (hp:p.1<4∧p.2<5) (hq:q.1<4∧q.2<5):cmpP (kvS p) (kvS q)=cmpN (rk p) (rk q):=by
 obtain ⟨a,u⟩:=p
 obtain ⟨b,v⟩:=q
 exact of_decide_eq_true (List.all_eq_true.mp (List.all_eq_true.mp (List.all_eq_true.mp (List.all_eq_true.mp cmp_all a (List.mem_range.mpr hp.1)) u (List.mem_range.mpr hp.2)) b (List.mem_range.mpr hq.1)) v (List.mem_range.mpr hq.2))
noncomputable def ksT (T:List KV):List Nat:=T.map fun q=>keysL.getD ((orderN T).idxOf q) 9
noncomputable def ckBt (T:List KV):Bool:=let js:=T.map (orderN T).idxOf;let ks:=ksT T;(List.range T.length).all fun i=>(List.range T.length).all fun k =>
 let a:=rk (T.getD i (0,0));let b:=rk (T.getD k (0,0));let x:=js.getD i 0;let y:=js.getD k 0
 Nat.blt a b == Nat.blt x y && Nat.beq a b == Nat.beq x y && Nat.blt a b == Nat.blt (kc (ks.getD i 0)) (kc (ks.getD k 0))
noncomputable def ckSort (T:List KV):Bool:=decide (ksT T).Nodup && ((ksT T).all fun k=>decide (k<4)) && orderN T == (posK (ksT T)).map fun i=>T.getD i (0,0)
noncomputable def ckDiff (T:List KV):Bool:=sldF oldT T == (lostT oldT T,lostT T oldT) && sldF T oldT == (lostT T oldT,lostT oldT T) && ulF oldT.reverse [] T == ((lostT oldT T).reverse,lostT T oldT)
noncomputable def ckAll (T:List KV):Bool:=ckTab T && ckOrd T && ckBt T && ckSort T && ckDiff T
noncomputable def tab4 (c a b d:Option Nat):List KV:=[(2,c),(0,a),(1,b),(3,d)].filterMap fun q=>q.2.map fun v=>(q.1,v)
noncomputable def opts:List (Option Nat):=[none,some 0,some 1,some 2,some 3,some 4]
noncomputable def ckOne (c a:Option Nat):Bool:=opts.all fun b=>opts.all fun d=>ckAll (tab4 c a b d)
theorem ck00:ckOne none none=true:=by decide +kernel
theorem ck01:ckOne none (some 0)=true:=by decide +kernel
theorem ck02:ckOne none (some 1)=true:=by decide +kernel
theorem ck03:ckOne none (some 2)=true:=by decide +kernel
theorem ck04:ckOne none (some 3)=true:=by decide +kernel
theorem ck05:ckOne none (some 4)=true:=by decide +kernel
theorem ck10:ckOne (some 0) none=true:=by decide +kernel
theorem ck11:ckOne (some 0) (some 0)=true:=by decide +kernel
theorem ck12:ckOne (some 0) (some 1)=true:=by decide +kernel
theorem ck13:ckOne (some 0) (some 2)=true:=by decide +kernel
theorem ck14:ckOne (some 0) (some 3)=true:=by decide +kernel
theorem ck15:ckOne (some 0) (some 4)=true:=by decide +kernel
theorem ck20:ckOne (some 1) none=true:=by decide +kernel
theorem ck21:ckOne (some 1) (some 0)=true:=by decide +kernel
theorem ck22:ckOne (some 1) (some 1)=true:=by decide +kernel
theorem ck23:ckOne (some 1) (some 2)=true:=by decide +kernel
theorem ck24:ckOne (some 1) (some 3)=true:=by decide +kernel
theorem ck25:ckOne (some 1) (some 4)=true:=by decide +kernel
theorem ck30:ckOne (some 2) none=true:=by decide +kernel
theorem ck31:ckOne (some 2) (some 0)=true:=by decide +kernel
theorem ck32:ckOne (some 2) (some 1)=true:=by decide +kernel
theorem ck33:ckOne (some 2) (some 2)=true:=by decide +kernel
theorem ck34:ckOne (some 2) (some 3)=true:=by decide +kernel
theorem ck35:ckOne (some 2) (some 4)=true:=by decide +kernel
theorem ck40:ckOne (some 3) none=true:=by decide +kernel
theorem ck41:ckOne (some 3) (some 0)=true:=by decide +kernel
theorem ck42:ckOne (some 3) (some 1)=true:=by decide +kernel
theorem ck43:ckOne (some 3) (some 2)=true:=by decide +kernel
theorem ck44:ckOne (some 3) (some 3)=true:=by decide +kernel
theorem ck45:ckOne (some 3) (some 4)=true:=by decide +kernel
theorem ck50:ckOne (some 4) none=true:=by decide +kernel
theorem ck51:ckOne (some 4) (some 0)=true:=by decide +kernel
theorem ck52:ckOne (some 4) (some 1)=true:=by decide +kernel
theorem ck53:ckOne (some 4) (some 2)=true:=by decide +kernel
theorem ck54:ckOne (some 4) (some 3)=true:=by decide +kernel
theorem ck55:ckOne (some 4) (some 4)=true:=by decide +kernel
theorem askB_congr {α:Type} {c c':Nat→Nat→Bool} {n:Nat} (h:∀ i j,i<n→j<n→c i j=c' i j) (t:KasT α):askB c n t=askB c' n t:=by
 induction t with
 | ret a=>rfl
 | ask i j k ih =>
  unfold askB
  by_cases hij:i<n∧j<n∧i≠j
  ·rw [if_pos hij,if_pos hij,h i j hij.1 hij.2.1];exact ih _
  ·rw [if_neg hij,if_neg hij]
theorem opts_mem {o:Option Nat} (h:∀ v,o=some v→v<5):o=none ∨ o=some 0 ∨ o=some 1 ∨ o=some 2 ∨ o=some 3 ∨ o=some 4:=by
 cases o with
 | none=>exact .inl rfl
 | some v =>
  have:=h v rfl
  rcases lt5 (by assumption:v<5) with rfl | rfl | rfl | rfl | rfl <;> simp
theorem opts_in {o:Option Nat} (h:∀ v,o=some v→v<5):o∈opts:=by
 rcases opts_mem h with rfl | rfl | rfl | rfl | rfl | rfl <;> decide
theorem ck_all {c a b d:Option Nat} (hc:∀ v,c=some v→v<5) (ha:∀ v,a=some v→v<5) (hb:∀ v,b=some v→v<5) (hd:∀ v,d=some v→v<5):ckAll (tab4 c a b d)=true:=by
 have key:ckOne c a=true:=by
  rcases opts_mem hc with rfl | rfl | rfl | rfl | rfl | rfl
  ·rcases opts_mem ha with rfl | rfl | rfl | rfl | rfl | rfl
   exact ck00
   exact ck01
   exact ck02
   exact ck03
   exact ck04
   exact ck05
  ·rcases opts_mem ha with rfl | rfl | rfl | rfl | rfl | rfl
   exact ck10
   exact ck11
   exact ck12
   exact ck13
   exact ck14
   exact ck15
  ·rcases opts_mem ha with rfl | rfl | rfl | rfl | rfl | rfl
   exact ck20
   exact ck21
   exact ck22
   exact ck23
   exact ck24
   exact ck25
  ·rcases opts_mem ha with rfl | rfl | rfl | rfl | rfl | rfl
   exact ck30
   exact ck31
   exact ck32
   exact ck33
   exact ck34
   exact ck35
  ·rcases opts_mem ha with rfl | rfl | rfl | rfl | rfl | rfl
   exact ck40
   exact ck41
   exact ck42
   exact ck43
   exact ck44
   exact ck45
  ·rcases opts_mem ha with rfl | rfl | rfl | rfl | rfl | rfl
   exact ck50
   exact ck51
   exact ck52
   exact ck53
   exact ck54
   exact ck55
 exact List.all_eq_true.mp (List.all_eq_true.mp key b (opts_in hb)) d (opts_in hd)
theorem lastV_lt {vs:List Nat} (h:∀ v∈vs,v<6):∀ v,lastV vs=some v→v<5:=by
 intro v hv
 unfold lastV at hv
 split at hv
 ·rename_i u hu
  split at hv
  ·cases hv
  ·rename_i h5
   cases hv
   have:=h v (List.mem_of_getLast? hu)
   lia
 ·cases hv
theorem table_ck {L:List (List KV)} (hf:∀ ps∈L,ps.length≤100∧∀ p∈ps,Fine p):ckAll (tableL L)=true:=by
 have e:tableL L=tab4 (lastV (selVL (kc 2) L)) (lastV (selVL (kc 0) L)) (lastV (selVL (kc 1) L)) (lastV (selVL (kc 3) L)):=rfl
 rw [e]
 exact ck_all (lastV_lt (selVL_fine hf)) (lastV_lt (selVL_fine hf)) (lastV_lt (selVL_fine hf)) (lastV_lt (selVL_fine hf))
theorem order_N {T:List KV} (h:∀ q∈T,q.2<5):orderT T=orderN T:=by
 unfold orderT orderN selO
 have key:∀ v∈valsO,(T.filter fun q=>vS q.2 == vS v)=T.filter fun q=>Nat.beq q.2 v:=by
  intro v hv
  refine List.filter_congr fun q hq=>?_
  have h1:=h q hq
  have h2:v<5:=(by decide:∀ v∈valsO,v<5) v hv
  have all:((List.range 5).all fun a=>(List.range 5).all fun b=>(vS a == vS b) == Nat.beq a b)=true:=by decide
  exact beq_iff_eq.mp (List.all_eq_true.mp (List.all_eq_true.mp all q.2 (List.mem_range.mpr h1)) v (List.mem_range.mpr h2))
 simp only [List.flatMap_def]
 congr 1
 exact List.map_congr_left key
structure TabOk (T:List KV):Prop where
 tab:Tab T
 nodup:T.Nodup
 ofine:∀ q∈orderT T,Fine q
 olen:(orderT T).length≤4
 idx:∀ q∈T,(orderT T)[(orderT T).idxOf q]? = some q∧∀ m,m<(orderT T).idxOf q→(orderT T)[m]?≠some q
 bt:((List.range T.length).flatMap fun i=>(List.range T.length).map (btP T i))=(List.range T.length).flatMap fun i=>(List.range T.length).map (btQ (T.map (orderT T).idxOf) i)
 ask:T.length<2 ∨ askB (fun i j=>decide (cmpP (kvS (T.getD i (0,0))) (kvS (T.getD j (0,0)))<0)) T.length (kas_sort T.length)=some (posK (ksT T)).toArray
 pos:2≤T.length→∀ i∈(posK (ksT T)).toArray.toList,i<T.length
 one:T.length<2→orderT T=T
 two:2≤T.length→orderT T=(posK (ksT T)).toArray.toList.map fun i=>T.getD i (0,0)
 d1:sldF oldT T=(lostT oldT T,lostT T oldT)
 d2:sldF T oldT=(lostT T oldT,lostT oldT T)
 d3:ulF oldT.reverse [] T=((lostT oldT T).reverse,lostT T oldT)
theorem one_T {T:List KV} (h2:T.length<2) (k4:∀ k∈ksT T,k<4):((posK (ksT T)).map fun i=>T.getD i (0,0))=T:=by
 cases T with
 | nil=>rfl
 | cons q l =>
  cases l with
  | nil =>
   have hk:ksT [q]=[(ksT [q]).getD 0 0]:=rfl
   rw [hk,posK_one (k4 _ (by rw [hk];exact .head _))]
   rfl
  | cons _ _=>exact absurd h2 (Nat.not_lt_of_le (Nat.le_add_left 2 _))
theorem tab_ok {T:List KV} (h:ckAll T=true):TabOk T:=by
 unfold ckAll at h
 simp only [Bool.and_eq_true] at h
 obtain ⟨⟨⟨⟨h1,h2⟩,h3⟩,h4⟩,h5⟩:=h
 unfold ckTab at h1
 simp only [Bool.and_eq_true,decide_eq_true_eq,List.all_eq_true] at h1
 obtain ⟨hn,hfine⟩:=h1
 have hO:orderT T=orderN T:=order_N fun q hq=>(hfine q hq).2
 unfold ckOrd at h2
 simp only [Bool.and_eq_true,decide_eq_true_eq,List.all_eq_true,beq_iff_eq,List.mem_range,bne_iff_ne] at h2
 obtain ⟨⟨ol,of⟩,oi⟩:=h2
 unfold ckBt at h3
 simp only [List.all_eq_true,List.mem_range,Bool.and_eq_true,beq_iff_eq] at h3
 unfold ckSort at h4
 simp only [Bool.and_eq_true,decide_eq_true_eq,List.all_eq_true,beq_iff_eq] at h4
 obtain ⟨⟨kn,k4⟩,ko⟩:=h4
 unfold ckDiff at h5
 simp only [Bool.and_eq_true,beq_iff_eq] at h5
 obtain ⟨⟨d1,d2⟩,d3⟩:=h5
 have klen:(ksT T).length=T.length:=by unfold ksT;rw [List.length_map]
 have at_:∀ i,i<T.length→T.getD i (0,0)∈T:=fun i hi=>by
  rw [List.getD_eq_getElem?_getD,List.getElem?_eq_getElem hi]
  exact List.getElem_mem hi
 have cmp:∀ i j,i<T.length→j<T.length→cmpP (kvS (T.getD i (0,0))) (kvS (T.getD j (0,0)))=cmpN (rk (T.getD i (0,0))) (rk (T.getD j (0,0))):=fun i j hi hj=>cmpP_rk (hfine _ (at_ i hi)) (hfine _ (at_ j hj))
 refine ⟨⟨hn,hfine⟩,?_,fun q hq=>?_,by rw [hO];exact ol,by rw [hO];exact oi,?_,?_,?_,?_,?_,d1,d2,d3⟩
 ·exact (List.pairwise_map.mp hn).imp fun h e=>h (by rw [e])
 ·rw [hO] at hq
  have:=of q hq
  exact ⟨this.1,by lia⟩
 ·rw [hO]
  simp only [List.flatMap_def]
  congr 1
  refine List.map_congr_left fun i hi=>List.map_congr_left fun k hk=>?_
  rw [List.mem_range] at hi hk
  obtain ⟨⟨e1,e2⟩,_⟩:=h3 i hi k hk
  unfold btP btQ
  have ei:T[i]?.getD (0,0)=T.getD i (0,0):=(List.getD_eq_getElem?_getD ..).symm
  have ek:T[k]?.getD (0,0)=T.getD k (0,0):=(List.getD_eq_getElem?_getD ..).symm
  have ji:(T.map (orderN T).idxOf)[i]?.getD 0=(T.map (orderN T).idxOf).getD i 0:=(List.getD_eq_getElem?_getD ..).symm
  have jk:(T.map (orderN T).idxOf)[k]?.getD 0=(T.map (orderN T).idxOf).getD k 0:=(List.getD_eq_getElem?_getD ..).symm
  rw [ei,ek,ji,jk]
  dsimp only
  rw [cmp i k hi hk]
  generalize rk (T.getD i (0,0))=a at *
  generalize rk (T.getD k (0,0))=b at *
  generalize (T.map (orderN T).idxOf).getD i 0=x at *
  generalize (T.map (orderN T).idxOf).getD k 0=y at *
  unfold cmpN
  have bl:∀ a b:Nat,Nat.blt a b=decide (a<b):=fun a b=>by
   cases h:Nat.blt a b
   ·exact (decide_eq_false fun q=>by rw [Nat.blt_eq.mpr q] at h;cases h).symm
   ·exact (decide_eq_true (Nat.blt_eq.mp h)).symm
  have be:∀ a b:Nat,Nat.beq a b=decide (a=b):=fun a b=>by
   cases h:Nat.beq a b
   ·exact (decide_eq_false fun q=>by rw [q,Nat.beq_refl] at h;cases h).symm
   ·exact (decide_eq_true (Nat.eq_of_beq_eq_true h)).symm
  rw [bl,bl] at e1
  rw [be,be] at e2
  rw [bl,be]
  have f1:a<b ↔ x<y:=decide_eq_decide.mp e1
  have f2:a=b ↔ x=y:=decide_eq_decide.mp e2
  rcases Nat.lt_trichotomy a b with q | q | q
  ·have:=f1.mp q
   have h1:decide (a<b)=true:=decide_eq_true q
   rw [if_pos h1]
   refine Prod.ext ?_ (Prod.ext ?_ (Prod.ext ?_ ?_)) <;> (simp;try lia)
  ·have:=f2.mp q
   have h1:¬ decide (a<b)=true:=by simp;lia
   have h2:decide (a=b)=true:=decide_eq_true q
   rw [if_neg h1,if_pos h2]
   refine Prod.ext ?_ (Prod.ext ?_ (Prod.ext ?_ ?_)) <;> (simp;try lia)
  ·have q1:¬ x<y:=fun h=>by have:=f1.mpr h;lia
   have q2:¬ x=y:=fun h=>by have:=f2.mpr h;lia
   have h1:¬ decide (a<b)=true:=by simp;lia
   have h2:¬ decide (a=b)=true:=by simp;lia
   rw [if_neg h1,if_neg h2]
   refine Prod.ext ?_ (Prod.ext ?_ (Prod.ext ?_ ?_)) <;> (simp;try lia)
 ·rcases (by lia:T.length<2 ∨ 2≤T.length) with h2 | h2
  ·exact .inl h2
  ·refine .inr ?_
   obtain ⟨_,hk⟩:=chk_is (ks:=ksT T) (by rw [klen];exact h2) kn k4
   rw [klen] at hk
   rw [←hk]
   refine askB_congr (fun i j hi hj=>?_) _
   obtain ⟨_,e3⟩:=h3 i hi j hj
   rw [cmp i j hi hj]
   unfold cmpK
   have bl:∀ a b:Nat,Nat.blt a b=decide (a<b):=fun a b=>by
    cases h:Nat.blt a b
    ·exact (decide_eq_false fun q=>by rw [Nat.blt_eq.mpr q] at h;cases h).symm
    ·exact (decide_eq_true (Nat.blt_eq.mp h)).symm
   rw [←bl,←e3]
   unfold cmpN
   cases Nat.blt (rk (T.getD i (0,0))) (rk (T.getD j (0,0)))
   ·cases Nat.beq (rk (T.getD i (0,0))) (rk (T.getD j (0,0))) <;> rfl
   ·rfl
 ·intro vz0 i hi
  have:=posK_lt i hi
  rwa [klen] at this
 ·intro h2
  rw [hO,ko]
  exact one_T h2 k4
 ·intro vz0
  rw [hO]
  exact ko
noncomputable abbrev fstL:List KV:=[(0,1),(1,2),(2,3),(3,0)]
noncomputable def sumL (L:List (List KV)):Nat:=(L.map List.length).sum
theorem sumL_app (L M:List (List KV)):sumL (L ++ M)=sumL L+sumL M:=by unfold sumL;rw [List.map_append,List.sum_append]
noncomputable def good (ps:List KV):Prop:=ps≠[]∧∀ p∈ps,Fine p
theorem fold_inv:∀ (rest:List Int) (A:List (List KV)) (c:List KV),(∀ ps∈A,good ps)→good c →
  ∃ A' c',rest.foldl stepS (fstL::A,c)=(fstL::A',c')∧(∀ ps∈A',good ps)∧good c'∧sumL A'+c'.length=sumL A+c.length+rest.length
 | [],A,c,hA,hc=>⟨A,c,rfl,hA,hc,rfl⟩
 | x::rest,A,c,hA,hc=>by
  have gx:good [pI x]:=⟨by simp,fun p hp=>by rw [List.mem_singleton.mp hp];exact pI_fine x⟩
  by_cases h:nwI x=true
  ·obtain ⟨A',c',e,h1,h2,h3⟩:=fold_inv rest (A ++ [c]) [pI x] (fun ps hp=>by
    rcases List.mem_append.mp hp with hp | hp
    ·exact hA ps hp
    ·rw [List.mem_singleton.mp hp];exact hc) gx
   refine ⟨A',c',?_,h1,h2,?_⟩
   ·rw [List.foldl_cons,←e];unfold stepS;rw [if_pos h];rfl
   ·rw [h3,sumL_app];simp [sumL];lia
  ·obtain ⟨A',c',e,h1,h2,h3⟩:=fold_inv rest A (c ++ [pI x]) hA ⟨by simp,fun p hp=>by
    rcases List.mem_append.mp hp with hp | hp
    ·exact hc.2 p hp
    ·exact gx.2 p hp⟩
   refine ⟨A',c',?_,h1,h2,?_⟩
   ·rw [List.foldl_cons,←e];unfold stepS;rw [if_neg h]
   ·rw [h3,List.length_append];simp;lia
theorem law_lists (xs:List Int) (hx:xs.length≤4):∃ Ls,lawLists ([28,9,14,3,44,18,35] ++ xs)=fstL::Ls∧(∀ ps∈fstL::Ls,good ps)∧sumL (fstL::Ls)≤11:=by
 have e:lawLists ([28,9,14,3,44,18,35] ++ xs)=(([18,35] ++ xs).foldl stepS ([fstL],[pI 44])).1 ++ [(([18,35] ++ xs).foldl stepS ([fstL],[pI 44])).2]:=by
  show (fun s:List (List KV)×List KV=>s.1 ++ [s.2]) ((9::14::3::44::([18,35] ++ xs)).foldl stepS ([],[pI 28]))=_
  have h:(9::14::3::44::([18,35] ++ xs)).foldl stepS ([],[pI 28])=([18,35] ++ xs).foldl stepS ([fstL],[pI 44]):=by
   rw [List.foldl_cons,List.foldl_cons,List.foldl_cons,List.foldl_cons]
   congr 1
  exact congrArg (fun s:List (List KV)×List KV=>s.1 ++ [s.2]) h
 obtain ⟨A,c,e2,h1,h2,h3⟩:=fold_inv ([18,35] ++ xs) [] [pI 44] (fun vz0 h=>nomatch h) ⟨by simp,fun p hp=>by rw [List.mem_singleton.mp hp];exact pI_fine _⟩
 rw [e2] at e
 refine ⟨A ++ [c],e,fun ps hp=>?_,?_⟩
 ·rcases List.mem_cons.mp hp with rfl | hp
  ·exact ⟨by simp,fun p hp=>by
    simp only [List.mem_cons,List.not_mem_nil,or_false] at hp
    rcases hp with rfl | rfl | rfl | rfl <;> exact ⟨by decide,by decide⟩⟩
  ·rcases List.mem_append.mp hp with hp | hp
   ·exact h1 ps hp
   ·rw [List.mem_singleton.mp hp];exact h2
 ·have:sumL (fstL::(A ++ [c]))=4+(sumL A+c.length):=by
   show 4+sumL (A ++ [c])=_
   rw [sumL_app];simp [sumL]
  rw [this,h3]
  simp [sumL];lia
theorem sum_mem {L:List (List KV)} {ps:List KV} (h:ps∈L):ps.length≤sumL L:=by
 induction L with
 | nil=>cases h
 | cons q L ih =>
  show _≤q.length+sumL L
  rcases List.mem_cons.mp h with rfl | h
  ·lia
  ·have:=ih h;lia
theorem sum_len {L:List (List KV)} (h:∀ ps∈L,good ps):L.length≤sumL L:=by
 induction L with
 | nil=>exact Nat.zero_le _
 | cons q L ih =>
  show L.length+1≤q.length+sumL L
  have h1:=ih fun ps hp=>h ps (.tail _ hp)
  have h2:=List.length_pos_iff.mpr (h q (.head _)).1
  lia
theorem joinN_len (s:List Nat):∀ L:List (List Nat),(joinN s L).length≤(L.map fun x=>x.length+s.length).sum
 | []=>by simp [joinN]
 | [x]=>by simp [joinN]
 | x::y::L=>by
  have:=joinN_len s (y::L)
  simp only [joinN,List.length_append,List.map_cons,List.sum_cons] at *
  lia
theorem sum_map_le {α:Type} {f g:α→Nat}:∀ {L:List α},(∀ a∈L,f a≤g a)→(L.map f).sum≤(L.map g).sum
 | [],_=>Nat.le_refl _
 | a::L,h=>by
  rw [List.map_cons,List.map_cons,List.sum_cons,List.sum_cons]
  exact Nat.add_le_add (h a (.head _)) (sum_map_le fun b hb=>h b (.tail _ hb))
theorem sum_const {α:Type} (k:Nat):∀ L:List α,(L.map fun vz0=>k).sum=k * L.length
 | []=>by simp
 | a::L=>by rw [List.map_cons,List.sum_cons,sum_const k L,List.length_cons,Nat.mul_succ];lia
theorem wP_le7 (p:KV):(wP p).length≤7:=by
 rw [wP_cons]
 have:=wT_le p.2
 simp only [List.length_cons];lia
theorem wL_le (ps:List KV):(wL ps).length≤9 * ps.length:=by
 unfold wL
 refine Nat.le_trans (joinN_len _ _) ?_
 rw [List.map_map]
 refine Nat.le_trans (sum_map_le (g:=fun vz0=>9) fun p vz0=>?_) (by rw [sum_const];exact Nat.le_refl _)
 have:=wP_le7 p
 show (wP p).length+2≤9
 lia
theorem sum_9:∀ L:List (List KV),(L.map fun ps=>9 * ps.length+2).sum=9 * sumL L+2 * L.length
 | []=>rfl
 | q::L=>by
  have:=sum_9 L
  rw [List.map_cons,List.sum_cons,this,List.length_cons]
  show _=9 * (q.length+sumL L)+2 * (L.length+1)
  lia
theorem header_le {L:List (List KV)}:(header L).length≤9 * sumL L+2 * L.length:=by
 unfold header
 refine Nat.le_trans (joinN_len _ _) ?_
 rw [List.map_map]
 refine Nat.le_trans (sum_map_le (g:=fun ps=>9 * ps.length+2) fun ps vz0=>?_) (Nat.le_of_eq (sum_9 L))
 have:=wL_le ps
 show (wL ps).length+2≤_
 lia
theorem old_table (Ls:List (List KV)):tableL ((fstL::Ls).take 1)=oldT:=by
 show tableL [fstL]=oldT
 decide
section
variable {w:World} {B:Hab} {h₀:Heap} (N:NatOk (C0 w B) h₀) {A:Around} {l r:Memo} {f sc n:Nat} {t1:Tok} {Q:Flow→Sx→Prop}
theorem stmtsLaw:stmts (C0 w B) 160=[lB (C0 w B) 0,lB (C0 w B) 1,lB (C0 w B) 2,lB (C0 w B) 3,lB (C0 w B) 4,lB (C0 w B) 5,lB (C0 w B) 6,lB (C0 w B) 7,lB (C0 w B) 8,lB (C0 w B) 9,lB (C0 w B) 10,lB (C0 w B) 11,lB (C0 w B) 12,lB (C0 w B) 13,lB (C0 w B) 14]:=by kernel_rfl
include N
set_option maxHeartbeats 0 in
theorem law_back {ls rd t1 t2 t3 t4 t5 tb cb cs d1 d2 n1 n2 ol nw:Nat} {vh:Value} {T:List KV} {a1 a2:List Addr} (K:Calm A none 300) (hfr:A.frames=some [envLaw (C0 w B) f]) (hT:TabOk T) (ho:PairsAt r ol oldT) (hw:PairsAt r nw T) (htb:(tb,listO #[.ref d1,.ref d2] 0)∈r) (hd1:All2 (PairAt r) a1 oldT) (hd2:All2 (PairAt r) a2 T) (G:∀ y,Q (.ret (.bool true)) y) :
  TA (C0 w B) h₀ A ⟨chS cb cs,(f,frC w t1 sc t2 ls t3 vh t4 rd t5 tb)::(f+1,cellR ol)::(f+2,cellR nw)::(d1,listO (refs a1) n1)::(d2,listO (refs a2) n2)::(f+3,cellN)::(f+4,cellN)::(f+5,cellN)::l,r⟩
   (execsZ [lB (C0 w B) 7,lB (C0 w B) 8,lB (C0 w B) 9,lB (C0 w B) 10,lB (C0 w B) 11,lB (C0 w B) 12,lB (C0 w B) 13,lB (C0 w B) 14] (envLaw (C0 w B) f)) Q (fun vz0 vz1=>False):=by
 have T4:=hT.tab.le4
 have fT:∀ q∈T,q.1<4∧q.2<5:=hT.tab.2
 have fO:∀ q∈oldT,q.1<4∧q.2<5:=by decide
 have fin:∀ {q:KV},q.1<4∧q.2<5→Fine q:=fun h=>⟨h.1,by have:=h.2;lia⟩
 refine TA.execs_cons (TA.of K (law_s7 N htb hd1 hd2 ho hw ?_))
 refine TA.choose (il:=[0,2,5,1,3,4,6,7]) (k:=8) (ir:=[]) rfl ?_
 refine TA.execs_cons (TA.of K (law_s8 N (d1:=0) (d2:=0) (ol:=0) (n1:=0) (n2:=0) (F:=cellN) hw hT.tab fun od r1 s1 hod=>?_))
 refine TA.choose (il:=[0,1,2,6,7,3,4,5]) (k:=8) (ir:=[]) rfl ?_
 refine TA.execs_cons (TA.of K (law_s9 N (jf:=(orderT T).idxOf) (hw.mono s1) hod (by lia) hT.ofine (by have:=hT.olen;lia) hT.idx fun Kc c ck kl ra ads ks n e r2 s2 hnw hal hKC hc hKA hKs hkl hRk=>?_))
 refine TA.choose (il:=[0,3,4,1,2,5,6,7]) (k:=8) (ir:=[]) rfl ?_
 have s10:∀ {Q':Flow→Sx→Prop} {l':Memo},(∀ r',Sub r2 r'→Q' .next ⟨chK cb cs ck,(f,frC w t1 sc t2 ls t3 vh t4 rd t5 tb)::(f+4,cellR kl)::(f+5,cellR ra)::l',r'⟩) →
   HT (C0 w B) h₀ none 300 ⟨chK cb cs ck,(f,frC w t1 sc t2 ls t3 vh t4 rd t5 tb)::(f+4,cellR kl)::(f+5,cellR ra)::l',r2⟩ (execsZ [lB (C0 w B) 10] (envLaw (C0 w B) f)) Q' (fun vz0 vz1=>False):=by
  intro Q' l' hh
  by_cases h0:T.length=0
  ·have eT:T=[]:=List.eq_nil_of_length_eq_zero h0
   subst eT
   have:ads=[]:=List.eq_nil_of_length_eq_zero hal.length
   subst this
   have:ks=[]:=List.eq_nil_of_length_eq_zero hKs.length
   subst this
   obtain ⟨xs,m,hxm,hxs⟩:=hRk
   have:xs = #[]:=by
    apply Array.eq_empty_of_size_eq_zero
    rw [←Array.length_toList,hxs.length];rfl
   subst this
   exact law_s10e N hkl hxm hh
  ·exact law_s10 N hkl hKA hc hKs hal (fun q hq=>(fT q hq).2) hRk (by rw [List.length_map]) (by lia) h0 hT.bt hh
 refine TA.execs_cons (TA.of K (s10 fun r3 s3=>?_))
 refine TA.choose (il:=[0,3,4,1,2,5,6,7]) (k:=8) (ir:=[]) rfl ?_
 have hw3:PairsAt r3 nw T:=hw.mono (s1.trans (s2.trans s3))
 refine TA.execs_cons (TA.of K (law_s11 N hw3 (hod.mono (s2.trans s3)) (hKC.mono s3) (by lia) (fun q hq=>(fT q hq).2) hT.ask hT.pos hT.one hT.two fun r4 s4=>?_))
 refine TA.choose (il:=[0,5,1,2,3,4,6,7]) (k:=8) (ir:=[]) rfl ?_
 have sr:Sub r r4:=s1.trans (s2.trans (s3.trans s4))
 refine TA.execs_cons (TA.of K (law_s12 N (ho.mono sr) (hw3.mono s4) (fun q hq=>fin (fO q hq)) (fun q hq=>fin (fT q hq)) (by decide) (by lia) fun t6 lo ov r5 s5 hlo hov=>?_))
 have sr5:Sub r r5:=sr.trans s5
 refine TA.choose (il:=[0,6,7]) (k:=8) (ir:=[]) rfl ?_
 have m1:All2 (PairAt r5) a1 oldT:=hd1.mono fun vz0 vz1=>PairAt.mono sr5
 have m2:All2 (PairAt r5) a2 T:=hd2.mono fun vz0 vz1=>PairAt.mono sr5
 refine TA.execs_cons (law_s13 N K hfr (sr5 _ htb) m1 m2 (by decide) (by lia) fO fT (by decide) hT.nodup fun slg t7 td p p2 r6 s6 htd hd hd' hg=>?_)
 rw [hT.d1] at hd
 rw [hT.d2] at hd'
 exact law_s14 N (o:=(lostT oldT T,lostT T oldT)) K hfr hg (s6 _ (sr5 _ htb)) (m1.mono fun vz0 vz1=>PairAt.mono s6) (m2.mono fun vz0 vz1=>PairAt.mono s6) (by decide) (by lia) (fun q hq=>fin (fO q hq)) (fun q hq=>fin (fT q hq)) htd hd hd' (hlo.mono s6) (hov.mono s6) (Nat.le_trans (List.length_filter_le _ _) (by decide)) hT.d3 G
end
section
variable {w:World} {B:Hab} {h₀:Heap} (N:NatOk (C0 w B) h₀) {A:Around} {l r:Memo} {f sc n:Nat} {t1:Tok} {Q:Flow→Sx→Prop}
include N
theorem law_body {its:Array Value} {xs:List Int} (K:Calm A none 300) (hfr:A.frames=some [envLaw (C0 w B) f]) (hi:All2 IsInt its.toList xs) (hz:its.size≤100000) (G:∀ y,Q (.ret (.bool true)) y) :
  TA (C0 w B) h₀ A ⟨[],(f,frameO #[ent w nScript t1 (.ref sc)] 1)::(f+1,cellN)::(f+2,cellN)::(f+3,cellN)::(f+4,cellN)::(f+5,cellN)::l,(sc,listO its n)::r⟩
   (execsZ (stmts (C0 w B) 160) (envLaw (C0 w B) f)) Q (fun vz0 vz1=>False):=by
 rw [stmtsLaw]
 obtain ⟨Ls,eL,hg,hs⟩:=law_lists (xs.take 4) (List.length_take_le ..)
 have K2:Calm A none 200:=K.less (by lia)
 have hlen:(fstL::Ls).length≤11:=Nat.le_trans (sum_len hg) hs
 have hps:∀ ps∈fstL::Ls,ps.length≤11:=fun ps h=>Nat.le_trans (sum_mem h) hs
 have hlen':Ls.length≤10:=Nat.le_of_succ_le_succ hlen
 refine TA.execs_cons (TA.of K2 (law_s0 N hi hz fun t2 ls r1 s1 hls=>?_))
 rw [eL] at hls
 have hw:∀ s∈(fstL::Ls).map wL,s.length≤1000:=fun s h=>by
  obtain ⟨ps,hp,rfl⟩:=List.mem_map.mp h
  have:=wL_le ps
  have:=hps ps hp
  lia
 have hhd:(header (fstL::Ls)).length≤800:=by
  have:=header_le (L:=fstL::Ls)
  lia
 have hf:∀ ps∈fstL::Ls,(0<ps.length∧ps.length≤100)∧∀ p∈ps,Fine p:=fun ps h=>⟨⟨List.length_pos_iff.mpr (hg ps h).1,by have:=hps ps h;lia⟩,(hg ps h).2⟩
 refine TA.execs_cons (TA.of K2 (law_s1 N (k1:=0) (k2:=1) (ps1:=[(2,3),(3,0)]) (L:=Ls) (by decide) (by decide) (fun p hp=>(hf _ (.head _)).2 p (.tail _ (.tail _ hp))) (by decide)
  (fun ps hp=>⟨(hf ps (.tail _ hp)).2,(hg ps (.tail _ hp)).1,(hf ps (.tail _ hp)).1.2⟩) (by lia) hw hls fun t t3 cb r2 s2=>?_))
 refine TA.execs_cons (TA.of K2 (law_s2 N (L:=fstL::Ls) (hls.mono s2) hf (by lia) (Nat.succ_pos _) hw ?_))
 refine TA.execs_cons (TA.of K2 (law_s3 N (k0:=0) (k1:=1) (qs:=[(2,3),(3,0)]) (Ls:=Ls) (fun ps hp=>⟨(hg ps hp).1,(hf ps hp).1.2,(hf ps hp).2⟩) (by lia) hhd fun rd t4 cs r3 s3 hrd=>?_))
 have hls3:=(hls.mono s2).mono s3
 refine TA.execs_cons (TA.of K2 (law_s4 N hls3 hrd ?_))
 refine TA.execs_cons (TA.of K (law_s5 N hls3 (fun ps hp=>⟨(hf ps hp).1.2,(hf ps hp).2⟩) (by lia) (Nat.succ_pos _) fun ol nw r4 s4 ho hn=>?_))
 rw [old_table] at ho
 refine TA.execs_cons (TA.of K (law_s6 N (hrd.mono s4) (fun ps hp=>(hf ps hp).2) (by show sumL (fstL::Ls)≤100;lia) (Nat.le_trans hlen (by decide)) fun t5 tb d1 d2 n1 n2 a1 a2 r5 s5 htb m1 m2=>?_))
 rw [old_table] at m1
 refine TA.choose (il:=[0,3,4,1,2]) (k:=5) (ir:=[]) rfl ?_
 exact law_back N K hfr (tab_ok (table_ck fun ps hp=>⟨(hf ps hp).1.2,(hf ps hp).2⟩)) (ho.mono s5) (hn.mono s5) htb m1 m2 G
theorem law_call {its:Array Value} {xs:List Int} (K:Calm A none 303) (hfr:A.frames=some []) (hi:All2 IsInt its.toList xs) (hz:its.size≤100000) :
  CA (C0 w B) h₀ A ⟨[],[],[(sc,listO its n)]⟩ (.call (.ref 160) ⟨[.ref sc],[]⟩) (fun r vz0=>r = .ok (.ret (.bool true))):=by
 refine CA.enter (o:=topObj (C0 w B) 160) N (K.less (by lia)) [0,11,11] [5,4,3,2,1,0] 6 [] 0 (lv:=300) (hd:=none) (by kernel_rfl) (by kernel_rfl) fun b tk=>?_
 refine ⟨envLaw (C0 w B) b,(b,frameO #[ent w nScript tk (.ref sc)] 1)::(b+1,cellN)::(b+2,cellN)::(b+3,cellN)::(b+4,cellN)::(b+5,cellN)::[],[(sc,listO its n)],[],by kernel_rfl,rfl,?_⟩
 have e:bodyCode (fdAt (some (topObj (C0 w B) 160))) (envLaw (C0 w B) b) = .func (stmts (C0 w B) 160) (envLaw (C0 w B) b):=by kernel_rfl
 rw [e]
 refine CA.func ?_
 have K':=Calm.func (body:=stmts (C0 w B) 160) (env:=envLaw (C0 w B) b) (lv:=300) (K.less (by lia))
 have hfr':=frames_func (body:=stmts (C0 w B) 160) (env:=envLaw (C0 w B) b) hfr
 exact law_body N K' hfr' hi hz fun vz0=>rfl
end
theorem ints_all2 {vs:List Value} {xs:List Int} (h:IntsAre vs xs):All2 IsInt vs xs:=by
 induction h with
 | nil=>exact .nil
 | cons n t _ ih=>exact .cons ⟨t,rfl⟩ ih
theorem stuck_natOk {w:World} {B:Hab} {h:Heap} (H:KT.Holds h 1 0 (C0 w B).kt) (hl:h.NoLimit):NatOk (C0 w B) h :=
 ⟨ok_C0 H hl,fun i cx hs c m eqs r m' hs' eqs' e=>(by cases e),fun i cx hs c m eqs r m' hs' eqs' Γ R g d os h p vz0 vz1 e=>by cases e⟩
theorem Rep.oldK {C:Cfg} {h₀ h:Heap} {m:Mm} (D:Rep C h₀ [] m h):OldK h₀ h:=by
 have key:∀ b o,h₀.get? b=some o→asItWas h₀ h b o∧∃ o',h.get? b=some o':=by
  intro b o e
  cases q:chLook m.ch b with
  | none=>have:=D.keep b o e (List.not_mem_nil) q;exact ⟨.inl this,_,this⟩
  | some vs =>
   refine el_AAEEEA (D.ch b vs q) fun h1 vz0 c ps more ht hv=>?_
   have ho:=ht.2
   rw [e] at ho
   cases ho
   exact ⟨.inr (.inl ⟨ht.isCodeTable,rfl,ps,more,rfl,by rw [h1,hv];rfl⟩),_,h1⟩
 exact ⟨fun b o e=>(key b o e).1,fun b o e=>(key b o e).2⟩
theorem law_walk {w:World} {s:Shared} {vs:List Value} {xs:List Int} (H:KT.Holds s.heap 1 0 (Mine.pre.ktop_322 w.params)) (hs:s.heap.objs.size=162) (hl:s.heap.NoLimit)
  (ho:s.heap.get? 161=some { cls:=.type "list",data:=.seq vs.toArray }) (hi:IntsAre vs xs) (hz:xs.length≤63) :
  wpAny (model PySem.Challenge.pw_oy0204_01 w) callerA (PySem.call (.ref 160) [.ref 161]) (fun v s'=>v = .bool true∧OldK s.heap s'.heap∧s'.os=s.os∧s'.gens=s.gens) (fun vz0 vz1=>False) s:=by
 have hw:=wB_is w
 generalize habOf w=B at hw
 have H':KT.Holds s.heap 1 0 (C0 w B).kt:=by
  show KT.Holds s.heap 1 0 (Mine.pre.ktop_322 (wB w B).params)
  rw [hw];exact H
 have N:=stuck_natOk H' hl
 have hlen:vs.length≤63:=by
  have:=(ints_all2 hi).length
  lia
 have Z:=law_call N (A:=callerA) (sc:=161) (n:=0) (its:=vs.toArray) (xs:=xs) ⟨rfl,by decide +kernel,by decide +kernel⟩ rfl (by rw [List.toList_toArray];exact ints_all2 hi) (by rw [List.size_toArray];lia) 162 s.toks s.gens s.drawn s.os s.heap
  ⟨hs,fun vz0 h=>(nomatch h),List.nodup_nil,fun vz0 h=>(nomatch h),fun vz0 h=>(nomatch h),fun p hp=>by rw [List.mem_singleton.mp hp];exact ho,fun vz0 vz1 h=>(nomatch h),
   fun p hp=>by rw [List.mem_singleton.mp hp];exact Nat.le_refl _,(show 161≤162 by decide),fun a o e=>by have:=Heap.lt_size e;rw [hs] at this;exact this,fun vz0 vz1 e vz2 vz3=>e,fun vz0 vz1 e=>(nomatch e),fun vz0 vz1 e=>(nomatch e)⟩
 have Z2:codeAny (model PySem.Challenge.pw_oy0204_01 w) callerA (.call (.ref 160) ⟨[.ref 161],[]⟩) (fun r s'=>∃ x',Stands (C0 w B) s.heap x' s.gens s.drawn s.os s'∧r = .ok (.ret (.bool true))) s:=by
  have e1:(C0 w B).w=w:=hw
  have e2:(C0 w B).prog=PySem.Challenge.pw_oy0204_01:=rfl
  rw [e1,e2] at Z
  exact Z
 refine wpAny_call (codeAny_mono Z2 ?_)
 rintro r s' ⟨x',⟨b,tk,h,rfl,D⟩,rfl⟩
 exact ⟨rfl,D.oldK,rfl,rfl⟩
end Mine
section
namespace Mine
open PySem PySem.W PySem.W.X PySem.Spec PySem.Calls PyProof.Rows
theorem kt_top:∀ P,KT.of (Mine.pre.heap_162 P)=Mine.pre.ktop_322 P:=by
 intro P
 kernel_rfl
theorem facts_gen {K:Params→Frag} {T:Params→KT} (eT:∀ P,KT.of (K P)=T P) {as:List Addr} {n t:Nat} {w:World} {s:Shared} (e:∀ P,as=(K P).map (·.1)) (y:obsZ as s=valZ K n t w):KT.Holds s.heap 1 0 (T w.params)∧s.heap.objs.size=n∧InK K w s.heap:=by
 obtain ⟨h1,h4,h2,h3⟩:=z_facts e y
 have:=holds_of h1
 rw [eT] at this
 exact ⟨this,h2,h4⟩
theorem law_at {w:World} {h:Heap} {mg:Str→Option Value} (X:InK Mine.pre.heap_162 w h) (G:h.Ns mainGlobals mg) {n:Str} (en:nsIn (Mine.pre.heap_162 w.params) mainGlobals n=some (some (.ref 160))) {fa:Addr} (e:mg n=some (.ref fa)):fa=160:=by
 have:=mg_of X G en
 rw [e] at this
 exact Value.ref.inj (Option.some.inj this)
end Mine
open PySem PySem.W PySem.W.X PySem.Spec PySem.Calls PyProof.Rows
set_option maxHeartbeats 4000000 in
theorem PySem.Challenge.cw_oy0204_01_holds : PySem.Challenge.rw_oy0204_01.Holds := by
 refine Mine.pre ?_
 intro w s₀ s₁ mg mb G y fa o pm cd doc dV kV ho hd hcd hD hmg hg args vals as L hpre hlay hrd hwl hlo
 obtain ⟨F1,F2,F3⟩:=Mine.facts_gen Mine.kt_top (by intro P;kernel_rfl) y
 have F1:=KT.Holds.keeps (Laid.keeps L) F1
 have F3:=InK.keeps w s₀.heap s₁.heap F3 (Laid.keeps L)
 have hl:=G.T.nolimit
 have hfa:=Mine.law_at F3 G.T.g (by kernel_rfl) hmg
 clear G hD hcd ho hd y hmg F3
 subst hfa
 wrow_args hpre hlay hrd hwl hlo
 rename IntsAre _ _=>hi
 rename Heap.IsList _ _ _=>hL
 rename ¬ _<_=>hc
 have hso:=script_obj L hL
 obtain ⟨hat,hsz⟩:=script_at L
 rw [F2] at hat hsz
 subst hat
 refine wpAny_mono (Mine.law_walk F1 hsz hl hso hi (by omega)) ?_ (fun vz0 vz1 h=>h.elim)
 rintro v s' ⟨rfl,hO,hos,hge⟩
 refine ⟨.inl ⟨_,_,[],rfl,fun vz0=>rfl,ReadsW.bool true,?_,fun vz0=>⟨List.nodup_nil,fun vz0 hm=>(nomatch hm)⟩⟩,hO,hos,.of_eq (hge.trans hg)⟩
 first | rfl | wrow_post
end
